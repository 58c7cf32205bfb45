import JvmDerived
import JvmDerived.Pilot.@@N@@Statement
import JvmDerived.Pilot.@@N@@Code
set_option linter.unusedVariables false
set_option linter.unusedSimpArgs false
namespace Jvm.Pilot.@@N@@
open Jvm Jvm.ClassFile Sem Op Lib Jvm.Free Jvm.Stand Jvm.LawKit Jvm.RoadKit Bundle Jvm.Free.XT Jvm.Pilot.@@N@@.Jvm.D
theorem own_n0 {Z : State} {n0 : Nat} {h : Heap} (X : Old Z n0 h) : n0 ≤ h.size := X.1 ▸ X.2.1
theorem own_lt {a m n : Nat} (h : a < m) (k : m ≤ n) : a < n := Nat.lt_of_lt_of_le h k
theorem own_since0 (s : State) (n : Nat) : s.Since s.vm n := ⟨State.Warmed39.refl s, fun j p hj hp => absurd (Array.getElem?_eq_some_iff.mp hp).1 (Nat.not_lt.mpr hj)⟩
theorem own_narR {v : Value} {t : FieldType} (h : v.isRef = true) : narrow t v = v := by rcases ref_cases h with rfl | ⟨a, rfl⟩ <;> cases t <;> rfl
theorem own_fitR {v : Value} {t : FieldType} (h : v.isRef = true) (ht : t.isReference = true := by rfl) : fits t v = true := by rcases ref_cases h with rfl | ⟨a, rfl⟩ <;> cases t <;> first | rfl | cases ht
theorem own_priv {s : State} {args : Array Value} {y : MethodName} (h : (Jvm.Cond.privateMethod y).before args s = true) : s.PrivateAt y := Cond.privateMethod_at h
abbrev own_CP (l : Launch) (Z : State) (y : MethodName) (bytes : ByteArray) (ml : Nat) (ret : Option FieldType) (ws : List Jvm.Cond) (R : Room) (as' : Array Value) (h0 : Heap) (Q : Option Value → Heap → List Loc → Prop) : Prop :=
  MetFree l y (head1 (Jvm.Cond.code y bytes ml ret :: ws) R) (fun a U => a = as' ∧ Z.Warmed39 U.vm ∧ U.heap = h0) (fun _ _ _ _ _ => True) (fun _ U o U' => ∃ v L, o = .returned v ∧ Q v U'.heap L ∧ FrameEnd U o U' L R.cells R.slots)
theorem own_P {l : Launch} {Z : State} {y : MethodName} {bytes : ByteArray} {ml : Nat} {ret : Option FieldType} {ws : List Jvm.Cond} {R : Room} {as' : Array Value} {h0 : Heap} {Q : Option Value → Heap → List Loc → Prop} (hpl : plainFor y = true)
    (H : ∀ (p : Program) (e : Env) (s : State) (m : MethodId) (below : List Frame) (meth : Method) (c : ClassFile.Code) (s₁ S0 : State), BodyLoose p l y (head1 (Jvm.Cond.code y bytes ml ret :: ws) R) bytes ml ret e s m as' below meth c s₁ → Z.Warmed39 s.vm → s.heap = h0 → p.tables.exec = Jvm.exec → c.code = bytes → c.maxLocals = ml → s.vm.findClass y.cls = some m.cls → meth.name = y.name →
      Stand p l e R s m as' below meth c s₁ [] 0 0 → s₁.heap = h0 → S0 = s₁.setTop (entryFrame m as' ml) → ∃ s₂ o, Steps p.tables e below S0 s₂ ∧ s₂.status = .running ∧ Ended s₂ below o ∧ ∃ v L, o = .returned v ∧ Q v s₂.heap L ∧ FrameEnd s o s₂ L R.cells R.slots) : own_CP l Z y bytes ml ret ws R as' h0 Q := by
  refine MetFree.of_bodySF hpl hisR ?_
  intro p e s m args below meth c s₁ Bd hml hP hK
  obtain ⟨rfl, hZ, hh⟩ := hP
  exact H p e s m below meth c s₁ _ Bd hZ hh Bd.exec Bd.bytes hml (findClass_of_methodNamed Bd.named) (name_of_methodNamed Bd.named Bd.method).1 (Stand.of_body Bd) (by rw [← hh, Bd.state]; rfl) rfl
theorem own_EL {Z : State} {a0 : Array Value} (hw : ∀ d ∈ tables_1, d.before a0 Z = true) : EW Z a0 consts_1 := (EW.cons (hw _ (List.mem_of_getElem? (i := 35) rfl)) (by decide) (EW.cons (hw _ (List.mem_of_getElem? (i := 19) rfl)) (by decide) EW.nil))
theorem own_SA {Z : State} {a0 : Array Value} (hw : ∀ d ∈ tables_1, d.before a0 Z = true) : ∀ d ∈ Bundle.stringAtoms, d.before a0 Z = true := fun d hd => hw d ((by decide +kernel : ∀ d ∈ Bundle.stringAtoms, d ∈ tables_1) d hd)
theorem own_safe_null {Z : State} {EL : List (String × Nat)} {vm : Vm} {h : Heap} {x : Addr} (hal : Z.vm.Alike vm) (E : Exa Z h x "java/lang/String") (F : Fld Z h x "java/lang/String" "value" "[B" .null) : Safe Z EL vm h x := by
  rintro ⟨p, hp, u, a, B, q, hqa, ⟨cS, ⟨S1, S2, S3⟩, -, hcl, hsb⟩, hy⟩
  rcases hy with hy | hy
  · subst hy
    obtain ⟨cell, cf, k, i, f, h1, h2, h3, h4, h5, h6, h7⟩ := F
    obtain ⟨k', h2', -⟩ := State.fieldFound?_setVm (s := Z) hal h2
    obtain ⟨c2, k2, i2, g1, -⟩ := S1.ffV
    have e1 : cell = q.sC := Option.some.inj (h1.symm.trans S1.ha)
    have e2 : (Z.setVm vm).fieldFound? "java/lang/String" "value" "[B" = some (c2, k2, i2, q.fSV) := g1
    have e3 := Option.some.inj (h2'.symm.trans e2)
    have e4 : f = q.fSV := congrArg (fun z => z.2.2.2) e3
    have e5 : q.sC.slots[q.fSV.slot]? = some (.ref q.sd) := S1.2.2.2.2.2.2.2.1
    rw [e1, e4, e5] at h7
    cases h7
  · subst hy
    obtain ⟨c1, k1, h1, h2, -⟩ := E
    have e1 : c1 = q.SA := Option.some.inj (h1.symm.trans S1.2.2.2.2.2.2.2.2.2.1)
    have h2' : vm.findClass "java/lang/String" = some c1.cls := by rw [hal.findClass]; exact h2
    have hcl' : vm.findClass "[B" = some q.SA.cls := hcl
    rw [e1] at h2'
    obtain ⟨k3, a1, a2⟩ := Vm.findClass_spec h2'
    obtain ⟨k4, b1, b2⟩ := Vm.findClass_spec hcl'
    cases a1.symm.trans b1
    exact absurd (a2.symm.trans b2) (by decide)
abbrev own_CH (l : Launch) (Z : State) (y : MethodName) (bytes : ByteArray) (ml : Nat) (ret : Option FieldType) (ws : List Jvm.Cond) (R : Room) (as' : Array Value) (h0 : Heap) (Q : Option Value → Heap → List Loc → Prop) : Prop :=
  MetFree l y (head1 (Jvm.Cond.code y bytes ml ret :: ws) R) (fun a U => a = as' ∧ Z.Warmed39 U.vm ∧ U.heap = h0 ∧ CHv Z consts_1 U.vm h0) (fun _ _ _ _ _ => True) (fun _ U o U' => ∃ v L, o = .returned v ∧ Q v U'.heap L ∧ CHr Z consts_1 U.vm U.heap U'.vm U'.heap ∧ ReturnedEndW U o U' L R.cells R.slots)
abbrev own_CK (l : Launch) (Z : State) (y : MethodName) (bytes : ByteArray) (ml : Nat) (ret : Option FieldType) (ws : List Jvm.Cond) (R : Room) (as' : Array Value) (h0 : Heap) (Q : Option Value → Heap → List Loc → Prop) : Prop :=
  MetFree l y (head1 (Jvm.Cond.code y bytes ml ret :: ws) R) (fun a U => a = as' ∧ Z.Warmed39 U.vm ∧ U.heap = h0 ∧ CHv Z consts_1 U.vm h0) (fun _ _ bl s _ => s.vm.MethodsKnown ∧ s.vm.FramesKnown bl) (fun _ U o U' => ∃ v L, o = .returned v ∧ Q v U'.heap L ∧ CHr Z consts_1 U.vm U.heap U'.vm U'.heap ∧ ReturnedEndW U o U' L R.cells R.slots)
theorem own_H {l : Launch} {Z : State} {y : MethodName} {bytes : ByteArray} {ml : Nat} {ret : Option FieldType} {ws : List Jvm.Cond} {R : Room} {as' : Array Value} {h0 : Heap} {Q : Option Value → Heap → List Loc → Prop} (hpl : plainFor y = true)
    (H : ∀ (p : Program) (e : Env) (s : State) (m : MethodId) (below : List Frame) (meth : Method) (c : ClassFile.Code) (s₁ S0 : State), BodyLoose p l y (head1 (Jvm.Cond.code y bytes ml ret :: ws) R) bytes ml ret e s m as' below meth c s₁ → Z.Warmed39 (s.setVm s.vm).vm → s.heap = h0 → CHv Z consts_1 s.vm h0 → s.Since s.vm h0.size → CHr Z consts_1 s.vm h0 s.vm h0 → p.tables.exec = Jvm.exec → c.code = bytes → c.maxLocals = ml → (s.setVm s.vm).vm.findClass y.cls = some m.cls → meth.name = y.name →
      Stand p l e R (s.setVm s.vm) m as' below meth c s₁ [] 0 0 → s₁.heap = h0 → S0 = s₁.setTop (entryFrame m as' ml) → ∃ s₂ o, Steps p.tables e below S0 s₂ ∧ s₂.status = .running ∧ Ended s₂ below o ∧ ∃ v L, o = .returned v ∧ Q v s₂.heap L ∧ CHr Z consts_1 s.vm s.heap s₂.vm s₂.heap ∧ ReturnedEndW s o s₂ L R.cells R.slots) : own_CH l Z y bytes ml ret ws R as' h0 Q := by
  refine MetFree.of_bodySF hpl hisR ?_
  intro p e s m args below meth c s₁ Bd hml hP hK
  obtain ⟨rfl, hZ, hh, CH0⟩ := hP
  exact H p e s m below meth c s₁ _ Bd hZ hh CH0 (own_since0 s _) (CHr.refl CH0) Bd.exec Bd.bytes hml (findClass_of_methodNamed Bd.named) (name_of_methodNamed Bd.named Bd.method).1 (Stand.of_body Bd) (by rw [← hh, Bd.state]; rfl) rfl
theorem own_K {l : Launch} {Z : State} {y : MethodName} {bytes : ByteArray} {ml : Nat} {ret : Option FieldType} {ws : List Jvm.Cond} {R : Room} {as' : Array Value} {h0 : Heap} {Q : Option Value → Heap → List Loc → Prop} (hpl : plainFor y = true)
    (H : ∀ (p : Program) (e : Env) (s : State) (m : MethodId) (below : List Frame) (meth : Method) (c : ClassFile.Code) (s₁ S0 : State), BodyLoose p l y (head1 (Jvm.Cond.code y bytes ml ret :: ws) R) bytes ml ret e s m as' below meth c s₁ → Z.Warmed39 (s.setVm s.vm).vm → s.heap = h0 → CHv Z consts_1 s.vm h0 → s.Since s.vm h0.size → CHr Z consts_1 s.vm h0 s.vm h0 → s.vm.MethodsKnown → s.vm.FramesKnown below → p.tables.exec = Jvm.exec → c.code = bytes → c.maxLocals = ml → (s.setVm s.vm).vm.findClass y.cls = some m.cls → meth.name = y.name →
      Stand p l e R (s.setVm s.vm) m as' below meth c s₁ [] 0 0 → s₁.heap = h0 → S0 = s₁.setTop (entryFrame m as' ml) → ∃ s₂ o, Steps p.tables e below S0 s₂ ∧ s₂.status = .running ∧ Ended s₂ below o ∧ ∃ v L, o = .returned v ∧ Q v s₂.heap L ∧ CHr Z consts_1 s.vm s.heap s₂.vm s₂.heap ∧ ReturnedEndW s o s₂ L R.cells R.slots) : own_CK l Z y bytes ml ret ws R as' h0 Q := by
  refine MetFree.of_bodySF hpl hisR ?_
  intro p e s m args below meth c s₁ Bd hml hP hK
  obtain ⟨rfl, hZ, hh, CH0⟩ := hP
  exact H p e s m below meth c s₁ _ Bd hZ hh CH0 (own_since0 s _) (CHr.refl CH0) hK.1 hK.2 Bd.exec Bd.bytes hml (findClass_of_methodNamed Bd.named) (name_of_methodNamed Bd.named Bd.method).1 (Stand.of_body Bd) (by rw [← hh, Bd.state]; rfl) rfl
def own_cw (x : Int32) : Int32 := (x &&& (65535 : Int32)).toUInt32.toUInt16.toUInt32.toInt32
def own_cx (x : Int32) : Int32 := ((x.toUInt32 >>> ((16 : Int32) &&& 31).toUInt32).toInt32).toUInt32.toUInt16.toUInt32.toInt32
theorem own_i2c_lo (x : Int32) : ¬ (x.toUInt32.toUInt16.toUInt32.toInt32 < (0 : Int32)) := by
  rw [Int32.lt_iff_toInt_lt]
  have h := (c_i2c x).2.1
  have e : (0 : Int32).toInt = 0 := rfl
  omega
theorem own_i2c_hi (x : Int32) : ¬ ((65535 : Int32) < x.toUInt32.toUInt16.toUInt32.toInt32) := by
  rw [Int32.lt_iff_toInt_lt]
  have h := (c_i2c x).2.2
  have e : (65535 : Int32).toInt = 65535 := rfl
  omega
theorem own_cw_lo (x : Int32) : ¬ (own_cw x < (0 : Int32)) := own_i2c_lo _
theorem own_cw_hi (x : Int32) : ¬ ((65535 : Int32) < own_cw x) := own_i2c_hi _
theorem own_cx_lo (x : Int32) : ¬ (own_cx x < (0 : Int32)) := own_i2c_lo _
theorem own_cx_hi (x : Int32) : ¬ ((65535 : Int32) < own_cx x) := own_i2c_hi _
theorem own_i2c_nar (x : Int32) : nar .char (x.toUInt32.toUInt16.toUInt32.toInt32) = x.toUInt32.toUInt16.toUInt32.toInt32 := by
  simp only [nar, UInt32.toUInt32_toInt32, UInt16.toUInt16_toUInt32]
theorem own_cw_nar {x : Int32} : nar .char (own_cw x) = own_cw x := own_i2c_nar _
theorem own_cx_nar {x : Int32} : nar .char (own_cx x) = own_cx x := own_i2c_nar _
theorem own_cap {x : Int32} (h : ¬ ((x &&& (2147483647 : Int32)) = (0 : Int32))) : ¬ ((x &&& (2147483647 : Int32)) < (1 : Int32)) := by
  intro q
  rw [Int32.lt_iff_toInt_lt] at q
  have h1 := (c_and x 2147483647 (by decide)).1
  have e : (1 : Int32).toInt = 1 := rfl
  exact h (Int32.toInt_inj.mp (by have e0 : (0 : Int32).toInt = 0 := rfl; omega))
def own_lo8 (x : Int32) : Int32 := nar .byte (x.toInt8.toInt32)
def own_lo8z (x : Int32) : Int32 := nar .byte ((x >>> ((0 : Int32) &&& 31)).toInt8.toInt32)
theorem own_lo8z_eq (x : Int32) : own_lo8z x = own_lo8 x := by
  have h : x >>> ((0 : Int32) &&& 31) = x := by
    rw [show ((0 : Int32) &&& 31) = 0 from rfl]
    exact Int32.shiftRight_zero
  unfold own_lo8z own_lo8; rw [h]
def own_hi8 (x : Int32) : Int32 := nar .byte ((x >>> ((8 : Int32) &&& 31)).toInt8.toInt32)
def own_pair (u v : Int32) : Int32 := nar .char ((((u &&& (255 : Int32)) <<< ((0 : Int32) &&& 31)) ||| ((v &&& (255 : Int32)) <<< ((8 : Int32) &&& 31))).toUInt32.toUInt16.toUInt32.toInt32)
theorem own_pair_says0 {c : Int32} (h0 : ¬ (c < (0 : Int32))) (h1 : ¬ ((65535 : Int32) < c)) : own_pair (own_lo8 c) (own_hi8 c) = c := by
  rw [Int32.lt_iff_toInt_lt] at h0 h1
  have z0 : (0 : Int32).toInt = 0 := rfl
  have z1 : (65535 : Int32).toInt = 65535 := rfl
  have r1 := c_i2b c
  have r2 := c_i2b (c.toInt8.toInt32)
  have e1 : own_lo8 c = c.toInt8.toInt32.toInt8.toInt32 := rfl
  have s1 := c_ishr c 8 8 (by decide)
  have r3 := c_i2b (c >>> ((8 : Int32) &&& 31))
  have r4 := c_i2b ((c >>> ((8 : Int32) &&& 31)).toInt8.toInt32)
  have e2 : own_hi8 c = (c >>> ((8 : Int32) &&& 31)).toInt8.toInt32.toInt8.toInt32 := rfl
  have m1 := c_mask (own_lo8 c) 255 8 (by decide) (by decide)
  have m2 := c_mask (own_hi8 c) 255 8 (by decide) (by decide)
  have l1 := c_ishl (own_lo8 c &&& 255) 0 0 (by decide)
  have l2 := c_ishl (own_hi8 c &&& 255) 8 8 (by decide)
  have g1 := rng32 ((own_lo8 c &&& 255) <<< ((0 : Int32) &&& 31))
  have g2 := rng32 ((own_hi8 c &&& 255) <<< ((8 : Int32) &&& 31))
  rw [← e1] at r2
  rw [← e2] at r4
  have p8 : ((2 ^ 8 : Nat) : Int) = 256 := rfl
  have p0 : ((2 ^ 0 : Nat) : Int) = 1 := rfl
  rw [p8] at s1 m1 m2 l2
  rw [p0] at l1
  have o := c_or' ((own_lo8 c &&& 255) <<< ((0 : Int32) &&& 31)) ((own_hi8 c &&& 255) <<< ((8 : Int32) &&& 31)) 8 (by decide) 256 rfl (by omega) (by omega) (by omega)
  have g3 := rng32 (((own_lo8 c &&& 255) <<< ((0 : Int32) &&& 31)) ||| ((own_hi8 c &&& 255) <<< ((8 : Int32) &&& 31)))
  have k1 := c_i2c (((own_lo8 c &&& 255) <<< ((0 : Int32) &&& 31)) ||| ((own_hi8 c &&& 255) <<< ((8 : Int32) &&& 31)))
  have k2 := c_i2c ((((own_lo8 c &&& 255) <<< ((0 : Int32) &&& 31)) ||| ((own_hi8 c &&& 255) <<< ((8 : Int32) &&& 31))).toUInt32.toUInt16.toUInt32.toInt32)
  have e3 : own_pair (own_lo8 c) (own_hi8 c) = ((((own_lo8 c &&& 255) <<< ((0 : Int32) &&& 31)) ||| ((own_hi8 c &&& 255) <<< ((8 : Int32) &&& 31))).toUInt32.toUInt16.toUInt32.toInt32).toUInt32.toUInt16.toUInt32.toInt32 := rfl
  rw [← e3] at k2
  apply Int32.toInt_inj.mp
  omega
theorem own_pair_says {c : Int32} (h0 : ¬ (c < (0 : Int32))) (h1 : ¬ ((65535 : Int32) < c)) : own_pair (own_lo8z c) (own_hi8 c) = c := by
  rw [own_lo8z_eq]; exact own_pair_says0 h0 h1
def own_G (l : Launch) (Z : State) (a0 : Array Value) (G1 : Int32) : Prop := (Sta Z Z.heap "java/lang/String" "COMPACT_STRINGS" "Z" (.int G1)) ∧ (¬ (G1 = (0 : Int32))) ∧ (Sta Z Z.heap "java/lang/StringUTF16" "$assertionsDisabled" "Z" (.int (1 : Int32))) ∧ (Sta Z Z.heap "java/lang/StringUTF16" "HI_BYTE_SHIFT" "I" (.int (0 : Int32))) ∧ (Sta Z Z.heap "java/lang/StringUTF16" "LO_BYTE_SHIFT" "I" (.int (8 : Int32)))
abbrev M0 : MethodName := ⟨"java/lang/String", "<init>", "([CIILjava/lang/Void;)V"⟩
theorem ef_1 (m : MethodId) (x0 : Addr) (x1 : Addr) (x2 : Int32) (x3 : Int32) : entryFrame m #[(.ref x0), (.ref x1), (.int x2), (.int x3), .null] 6 = mkF m 0 #[.val (.ref x0), .val (.ref x1), .val (.int x2), .val (.int x3), .val .null, .unset] [] := by first | (simp [entryFrame, mkF, argsToLocals, Value.category]; done) | rfl
theorem pn_2 : plainName "java/lang/String" = true := by first | (simp [plainName, overriddenIn]; done) | decide +kernel
theorem d0_0 : decode jdk_42_method_149_code 0 = .ok (.aload_n 0, 1) := by decide +kernel
theorem w16 {Z : State} {a0 : Array Value} (hw : ∀ d ∈ tables_1, d.before a0 Z = true) : Jvm.Cond.before (Jvm.Cond.methodLink "java/lang/String" (1 : Nat) ({ cls := "java/lang/Object", name := "<init>", desc := "()V" } : Jvm.MethodName)) a0 Z = true := hw _ (List.mem_of_getElem? (i := 16) rfl)
theorem w17 {Z : State} {a0 : Array Value} (hw : ∀ d ∈ tables_1, d.before a0 Z = true) : Jvm.Cond.before (Jvm.Cond.instanceMethod ({ cls := "java/lang/Object", name := "<init>", desc := "()V" } : Jvm.MethodName)) a0 Z = true := hw _ (List.mem_of_getElem? (i := 17) rfl)
theorem w18 {Z : State} {a0 : Array Value} (hw : ∀ d ∈ tables_1, d.before a0 Z = true) : Jvm.Cond.before (Jvm.Cond.code ({ cls := "java/lang/Object", name := "<init>", desc := "()V" } : Jvm.MethodName) object_method_1_code (1 : Nat) (Option.none : Option Jvm.ClassFile.FieldType)) a0 Z = true := hw _ (List.mem_of_getElem? (i := 18) rfl)
theorem d0_1 : decode jdk_42_method_149_code 1 = .ok (.invokespecial 1, 3) := by decide +kernel
theorem d0_4 : decode jdk_42_method_149_code 4 = .ok (.iload_n 3, 1) := by decide +kernel
theorem d0_5 : decode jdk_42_method_149_code 5 = .ok (.ifCond .ne 22, 3) := by decide +kernel
theorem d0_8 : decode jdk_42_method_149_code 8 = .ok (.aload_n 0, 1) := by decide +kernel
theorem w19 {Z : State} {a0 : Array Value} (hw : ∀ d ∈ tables_1, d.before a0 Z = true) : Jvm.Cond.before (Jvm.Cond.stringLink "java/lang/String" (7 : Nat) "") a0 Z = true := hw _ (List.mem_of_getElem? (i := 19) rfl)
theorem d0_9 : decode jdk_42_method_149_code 9 = .ok (.ldc 7, 2) := by decide +kernel
theorem w25 {Z : State} {a0 : Array Value} (hw : ∀ d ∈ tables_1, d.before a0 Z = true) : Jvm.Cond.before (Jvm.Cond.fieldLink "java/lang/String" (9 : Nat) "java/lang/String" "value" "[B") a0 Z = true := hw _ (List.mem_of_getElem? (i := 25) rfl)
theorem d0_11 : decode jdk_42_method_149_code 11 = .ok (.getfield 9, 3) := by decide +kernel
theorem w21 {Z : State} {a0 : Array Value} (hw : ∀ d ∈ tables_1, d.before a0 Z = true) : Jvm.Cond.before (Jvm.Cond.laysFinal "java/lang/String" "java/lang/String" "value" "[B") a0 Z = true := hw _ (List.mem_of_getElem? (i := 21) rfl)
theorem w6 {Z : State} {a0 : Array Value} (hw : ∀ d ∈ tables_1, d.before a0 Z = true) : Jvm.Cond.before (Jvm.Cond.instantiable "java/lang/String" (4 : Nat)) a0 Z = true := hw _ (List.mem_of_getElem? (i := 6) rfl)
theorem d0_14 : decode jdk_42_method_149_code 14 = .ok (.putfield 9, 3) := by decide +kernel
theorem d0_17 : decode jdk_42_method_149_code 17 = .ok (.aload_n 0, 1) := by decide +kernel
theorem d0_18 : decode jdk_42_method_149_code 18 = .ok (.ldc 7, 2) := by decide +kernel
theorem w26 {Z : State} {a0 : Array Value} (hw : ∀ d ∈ tables_1, d.before a0 Z = true) : Jvm.Cond.before (Jvm.Cond.fieldLink "java/lang/String" (15 : Nat) "java/lang/String" "coder" "B") a0 Z = true := hw _ (List.mem_of_getElem? (i := 26) rfl)
theorem d0_20 : decode jdk_42_method_149_code 20 = .ok (.getfield 15, 3) := by decide +kernel
theorem w22 {Z : State} {a0 : Array Value} (hw : ∀ d ∈ tables_1, d.before a0 Z = true) : Jvm.Cond.before (Jvm.Cond.laysFinal "java/lang/String" "java/lang/String" "coder" "B") a0 Z = true := hw _ (List.mem_of_getElem? (i := 22) rfl)
theorem d0_23 : decode jdk_42_method_149_code 23 = .ok (.putfield 15, 3) := by decide +kernel
theorem d0_26 : decode jdk_42_method_149_code 26 = .ok (.return_, 1) := by decide +kernel
abbrev R_si4_0 : Room := { frames := 1, cells := 4, slots := 8, locals := 12 }
def Q_si4_0 (Z : State) (G1 : Int32) (x : Addr) (b : Addr) (k : ClassId) (h0 : Heap) (n0 : Nat) (v : Option Value) (h : Heap) (L : List Loc) : Prop := (∃ t : Addr, ∃ kt : ClassId, v = none ∧ Fr n0 L ∧ Keep h0 h [x] ∧ (Exa Z h x "java/lang/String") ∧ (Fld Z h x "java/lang/String" "coder" "B" (.int (0 : Int32))) ∧ (Fld Z h x "java/lang/String" "value" "[B" (.ref t)) ∧ (Arv Z h t kt .byte (0 : Int32) [] (.int (0 : Int32))))
set_option maxRecDepth 65536 in
set_option maxHeartbeats 40000000 in
theorem rm_si4_0 (l : Launch) (Z : State) (a0 : Array Value) (hw : ∀ d ∈ tables_1, d.before a0 Z = true) (ws : List Jvm.Cond) (G1 : Int32) (HG : own_G l Z a0 G1) (h0 : Heap) (n0 : Nat) (X00 : Old Z n0 h0) (x : Addr) (b : Addr) (k : ClassId) (hp0 : Exa Z h0 x "java/lang/String") (hp1 : Fld Z h0 x "java/lang/String" "value" "[B" .null) (hp2 : Fld Z h0 x "java/lang/String" "coder" "B" (.int (0 : Int32))) (hp3 : n0 ≤ x) (hp4 : Arv Z h0 b k .char (0 : Int32) [] (.int (0 : Int32))) :
    own_CH l Z M0 jdk_42_method_149_code 6 none ws R_si4_0 #[(.ref x), (.ref b), (.int (0 : Int32)), (.int (0 : Int32)), .null] h0 (Q_si4_0 Z G1 x b k h0 n0) := by
  refine own_H (plainFor_of_name pn_2) ?_
  intro p e s m below meth c s₁ S0 Bd hZ hh CH0 hS0 CR0 hx hby hml hown hnm X0 e0 hS0d
  obtain ⟨O1, P1, OAD, OHI, OLO⟩ := id HG
  have hEL := own_EL hw
  have hSA := own_SA hw
  have N0 := Fr.nil n0
  have C0 : Steps p.tables e below S0 (s₁.setTop (mkF m 0 #[.val (.ref x), .val (.ref b), .val (.int (0 : Int32)), .val (.int (0 : Int32)), .val .null, .unset] [])) := by rw [hS0d]; exact castTop (ef_1 m x b (0 : Int32) (0 : Int32)) (Steps.refl _)
  have Sf_1 : Safe Z consts_1 s.vm h0 x := (own_safe_null hZ.alike hp0 hp1)
  obtain ⟨T_2, X_3, e_4, st_5⟩ := initO X0 hx hZ hown (w16 hw) (w17 hw) (w18 hw) e0 (g := (mkF m 1 #[.val (.ref x), .val (.ref b), .val (.int (0 : Int32)), .val (.int (0 : Int32)), .val .null, .unset] [(.ref x)])) rfl (by rw [hml]; rfl) rfl (hb hby d0_1) (by decide) (W := 0) (by show 2 * 0 + _ ≤ _; exact Nat.le_of_eq rfl) (by decide)
  obtain ⟨a_6, T_7, h_8, k1_9, b_10, k_11, X_12, e_13, E_14, S_15, hk_16, hZ_17, ho_18, Ex_19, Fc_20, Fv_21, Va_22, la_23, lb_24, R_25, L_26, Sf_27, st_28⟩ := ldcCH (vm0 := s.vm) X_3 hx hZ hown (w19 hw) hSA e_4 hS0 (Nat.le_refl _) hEL (by decide) CH0 (vs := []) (z := (0 : Int32)) ⟨by decide, by decide⟩ (by decide) (by decide) (g := (mkF m 9 #[.val (.ref x), .val (.ref b), .val (.int (0 : Int32)), .val (.int (0 : Int32)), .val .null, .unset] [(.ref x)])) rfl (hb hby d0_9) (n := 0) (by decide) (by decide) (by decide) (by decide)
  have CH_29 : CHv Z consts_1 T_7.vm h_8 := R_25.1
  have CR_30 : CHr Z consts_1 s.vm h0 T_7.vm h_8 := CR0.trans R_25
  have E_31 : Exa Z h_8 x "java/lang/String" := (hp0.ext E_14)
  have F_32 : Fld Z h_8 x "java/lang/String" "value" "[B" .null := (hp1.ext E_14)
  obtain ⟨T_33, X_34, e_35, st_36⟩ := getF X_12 hx hZ_17 ho_18 (host := "") (Or.inl (w25 hw)) Via.refl e_13 Fv_21 (g := (mkF m 11 #[.val (.ref x), .val (.ref b), .val (.int (0 : Int32)), .val (.int (0 : Int32)), .val .null, .unset] [(.ref a_6), (.ref x)])) rfl rfl (hb hby d0_11)
  obtain ⟨T_37, h_38, X_39, e_40, W_41, st_42⟩ := putF X_34 hx hZ_17 ho_18 (host := "") (Or.inl (w25 hw)) Via.refl e_35 F_32 E_31 (Or.inr ⟨(w21 hw), rfl, hnm⟩) (w6 hw) (ty := (.array .byte)) (by decide) rfl rfl (g := (mkF m 14 #[.val (.ref x), .val (.ref b), .val (.int (0 : Int32)), .val (.int (0 : Int32)), .val .null, .unset] [(.ref b_10), (.ref x)])) rfl rfl (hb hby d0_14)
  have N_43 := Fr.snoc X_39 N0 hp3
  have CH_44 : CHv Z consts_1 T_7.vm h_38 := CHv.wr W_41 (own_safe_null hZ_17.alike E_31 F_32) CH_29
  have CR_45 : CHr Z consts_1 s.vm h0 T_7.vm h_38 := CR_30.trans (CHr.wr W_41 (own_safe_null hZ_17.alike E_31 F_32) CH_29)
  have F_46 : Fld Z h_38 x "java/lang/String" "value" "[B" (.ref b_10) := F_32.same W_41
  obtain ⟨a_47, T_48, h_49, k1_50, b_51, k_52, X_53, e_54, E_55, S_56, hk_57, hZ_58, ho_59, Ex_60, Fc_61, Fv_62, Va_63, la_64, lb_65, R_66, L_67, Sf_68, st_69⟩ := ldcCH (vm0 := T_7.vm) X_39 hx hZ_17 ho_18 (w19 hw) hSA e_40 S_15 (Nat.le_trans hk_16 (Keep.of_wr W_41).1) hEL (by decide) CH_44 (vs := []) (z := (0 : Int32)) ⟨by decide, by decide⟩ (by decide) (by decide) (g := (mkF m 18 #[.val (.ref x), .val (.ref b), .val (.int (0 : Int32)), .val (.int (0 : Int32)), .val .null, .unset] [(.ref x)])) rfl (hb hby d0_18) (n := 0) (by decide) (by decide) (by decide) (by decide)
  have CH_70 : CHv Z consts_1 T_48.vm h_49 := R_66.1
  have CR_71 : CHr Z consts_1 s.vm h0 T_48.vm h_49 := CR_45.trans R_66
  have Sf_72 : Safe Z consts_1 T_48.vm h_49 x := (CHr.safe R_66 (own_lt hp0.lt (Nat.le_trans E_14.1 (Keep.of_wr W_41).1)) (Safe.wr W_41 (own_safe_null hZ_17.alike E_31 F_32) CH_29 (CHr.safe R_25 (own_lt hp0.lt (Nat.le_refl _)) Sf_1)))
  obtain ⟨T_73, X_74, e_75, st_76⟩ := getF X_53 hx hZ_58 ho_59 (host := "") (Or.inl (w26 hw)) Via.refl e_54 Fc_61 (g := (mkF m 20 #[.val (.ref x), .val (.ref b), .val (.int (0 : Int32)), .val (.int (0 : Int32)), .val .null, .unset] [(.ref a_47), (.ref x)])) rfl rfl (hb hby d0_20)
  have F_77 : Fld Z h_49 x "java/lang/String" "coder" "B" (.int (0 : Int32)) := (((hp2.ext E_14).other W_41 (Or.inr (slot_ne (Or.inr (w22 hw)) (Or.inr (w21 hw)) (by decide) (t := .byte) (by decide) (t' := (.array .byte)) (by decide)))).ext E_55)
  have E_78 : Exa Z h_49 x "java/lang/String" := ((E_31.wr W_41).ext E_55)
  obtain ⟨T_79, h_80, X_81, e_82, W_83, st_84⟩ := putF X_74 hx hZ_58 ho_59 (host := "") (Or.inl (w26 hw)) Via.refl e_75 F_77 E_78 (Or.inr ⟨(w22 hw), rfl, hnm⟩) (w6 hw) (ty := .byte) (by decide) rfl (by decide) (g := (mkF m 23 #[.val (.ref x), .val (.ref b), .val (.int (0 : Int32)), .val (.int (0 : Int32)), .val .null, .unset] [(.int (0 : Int32)), (.ref x)])) rfl rfl (hb hby d0_23)
  have N_85 := Fr.snoc X_81 N_43 hp3
  have Sf_86 : Safe Z consts_1 T_48.vm h_49 x := Sf_72
  have CH_87 : CHv Z consts_1 T_48.vm h_80 := CHv.wr W_83 Sf_86 CH_70
  have CR_88 : CHr Z consts_1 s.vm h0 T_48.vm h_80 := CR_71.trans (CHr.wr W_83 Sf_86 CH_70)
  have F_89 : Fld Z h_80 x "java/lang/String" "coder" "B" (.int (0 : Int32)) := F_77.same W_83
  have C_90 : Steps p.tables e below S0 (T_79.setTop (mkF m 26 #[.val (.ref x), .val (.ref b), .val (.int (0 : Int32)), .val (.int (0 : Int32)), .val .null, .unset] [])) := by
    refine C0.trans ?_
    refine XS.aloadN X0.here hx rfl (hb hby d0_0) rfl rfl ?_
    refine st_5 _ ?_
    refine XS.iloadN X_3.here hx rfl (hb hby d0_4) rfl ?_
    refine XS.ifNo X_3.here hx rfl (hb hby d0_5) rfl (by decide) ?_
    refine XS.aloadN X_3.here hx rfl (hb hby d0_8) rfl rfl ?_
    refine st_28 _ ?_
    refine st_36 _ ?_
    refine st_42 _ ?_
    show Steps p.tables e below (T_37.setTop (mkF m 17 #[.val (.ref x), .val (.ref b), .val (.int (0 : Int32)), .val (.int (0 : Int32)), .val .null, .unset] [])) _
    refine XS.aloadN X_39.here hx rfl (hb hby d0_17) rfl rfl ?_
    refine st_69 _ ?_
    refine st_76 _ ?_
    refine st_84 _ ?_
    exact Steps.refl _
  have E_91 : Exa Z h_80 x "java/lang/String" := (E_78.wr W_83)
  have F_92 : Fld Z h_80 x "java/lang/String" "value" "[B" (.ref b_10) := ((F_46.ext E_55).other W_83 (Or.inr (slot_ne (Or.inr (w21 hw)) (Or.inr (w22 hw)) (by decide) (t := (.array .byte)) (by decide) (t' := .byte) (by decide))))
  have V_93 : Arv Z h_80 b_10 k_11 .byte (0 : Int32) [] (.int (0 : Int32)) := (((Va_22.other W_41 (Ne.symm (Sf_27 _ (own_safe_null hZ_17.alike E_31 F_32)).2)).ext E_55).other W_83 (Ne.symm (Sf_27 _ (own_safe_null hZ_17.alike E_31 F_32)).2))
  have K_94 : Keep h0 h_80 [x] := (((((Keep.refl _ _).ext E_14).wr W_41 (Or.inl (List.mem_of_getElem? (i := 0) rfl))).ext E_55).wr W_83 (Or.inl (List.mem_of_getElem? (i := 0) rfl)))
  obtain ⟨fs, hr, hrun, hended, hRE⟩ := X_81.leaveW S_56 (by rw [show T_79.heap = h_80 from e_82]; exact (Nat.le_trans hk_57 (Keep.of_wr W_83).1)) (v := none) (fun _ => rfl)
  refine ⟨_, _, C_90.trans (X_81.returnOut hx Bd.returns (hb hby d0_26) hr), hrun, hended, _, _, rfl, ?_, ?_, hRE.1, hRE.2.1, hRE.2.2.1, hRE.2.2.2.mono (by decide) (by decide)⟩
  · show Q_si4_0 Z G1 x b k h0 n0 (none) T_79.heap _
    rw [e_82]
    exact ⟨b_10, k_11, rfl, N_85, K_94, E_91, F_89, F_92, V_93⟩
  · show CHr Z consts_1 s.vm s.heap T_79.vm T_79.heap
    rw [hh, show T_79.heap = h_80 from e_82]
    exact CR_88.trans (CHv.at X_81 hZ_58 hEL CH_87)
abbrev M25 : MethodName := ⟨"java/lang/String", "<init>", "([C)V"⟩
theorem ef_26 (m : MethodId) (x0 : Addr) (x1 : Addr) : entryFrame m #[(.ref x0), (.ref x1)] 2 = mkF m 0 #[.val (.ref x0), .val (.ref x1)] [] := by first | (simp [entryFrame, mkF, argsToLocals, Value.category]; done) | rfl
theorem d1_0 : decode jdk_42_method_3_code 0 = .ok (.aload_n 0, 1) := by decide +kernel
theorem d1_1 : decode jdk_42_method_3_code 1 = .ok (.aload_n 1, 1) := by decide +kernel
theorem d1_2 : decode jdk_42_method_3_code 2 = .ok (.iconst 0, 1) := by decide +kernel
theorem d1_3 : decode jdk_42_method_3_code 3 = .ok (.aload_n 1, 1) := by decide +kernel
theorem d1_4 : decode jdk_42_method_3_code 4 = .ok (.arraylength, 1) := by decide +kernel
theorem d1_5 : decode jdk_42_method_3_code 5 = .ok (.aconst_null, 1) := by decide +kernel
theorem w15 {Z : State} {a0 : Array Value} (hw : ∀ d ∈ tables_1, d.before a0 Z = true) : Jvm.Cond.before (Jvm.Cond.code ({ cls := "java/lang/String", name := "<init>", desc := "([CIILjava/lang/Void;)V" } : Jvm.MethodName) jdk_42_method_149_code (6 : Nat) (Option.none : Option Jvm.ClassFile.FieldType)) a0 Z = true := hw _ (List.mem_of_getElem? (i := 15) rfl)
theorem w7 {Z : State} {a0 : Array Value} (hw : ∀ d ∈ tables_1, d.before a0 Z = true) : Jvm.Cond.before (Jvm.Cond.initialized "java/lang/String") a0 Z = true := hw _ (List.mem_of_getElem? (i := 7) rfl)
theorem pd_35 : parseMethodDescriptor "([CIILjava/lang/Void;)V" = some ⟨[(.array .char), .int, .int, (.object "java/lang/Void")], none⟩ := by decide +kernel
theorem d1_6 : decode jdk_42_method_3_code 6 = .ok (.invokespecial 27, 3) := by decide +kernel
theorem w12 {Z : State} {a0 : Array Value} (hw : ∀ d ∈ tables_1, d.before a0 Z = true) : Jvm.Cond.before (Jvm.Cond.methodLink "java/lang/String" (27 : Nat) ({ cls := "java/lang/String", name := "<init>", desc := "([CIILjava/lang/Void;)V" } : Jvm.MethodName)) a0 Z = true := hw _ (List.mem_of_getElem? (i := 12) rfl)
theorem w13 {Z : State} {a0 : Array Value} (hw : ∀ d ∈ tables_1, d.before a0 Z = true) : Jvm.Cond.before (Jvm.Cond.instanceMethod ({ cls := "java/lang/String", name := "<init>", desc := "([CIILjava/lang/Void;)V" } : Jvm.MethodName)) a0 Z = true := hw _ (List.mem_of_getElem? (i := 13) rfl)
theorem d1_9 : decode jdk_42_method_3_code 9 = .ok (.return_, 1) := by decide +kernel
abbrev R_si1_0 : Room := { frames := 2, cells := 4, slots := 8, locals := 29 }
def Q_si1_0 (Z : State) (G1 : Int32) (x : Addr) (b : Addr) (k : ClassId) (h0 : Heap) (n0 : Nat) (v : Option Value) (h : Heap) (L : List Loc) : Prop := (∃ t : Addr, ∃ kt : ClassId, v = none ∧ Fr n0 L ∧ Keep h0 h [x] ∧ (Exa Z h x "java/lang/String") ∧ (Fld Z h x "java/lang/String" "coder" "B" (.int (0 : Int32))) ∧ (Fld Z h x "java/lang/String" "value" "[B" (.ref t)) ∧ (Arv Z h t kt .byte (0 : Int32) [] (.int (0 : Int32))))
set_option maxRecDepth 65536 in
set_option maxHeartbeats 40000000 in
theorem rm_si1_0 (l : Launch) (Z : State) (a0 : Array Value) (hw : ∀ d ∈ tables_1, d.before a0 Z = true) (ws : List Jvm.Cond) (G1 : Int32) (HG : own_G l Z a0 G1) (h0 : Heap) (n0 : Nat) (X00 : Old Z n0 h0) (x : Addr) (b : Addr) (k : ClassId) (hp0 : Exa Z h0 x "java/lang/String") (hp1 : Fld Z h0 x "java/lang/String" "value" "[B" .null) (hp2 : Fld Z h0 x "java/lang/String" "coder" "B" (.int (0 : Int32))) (hp3 : n0 ≤ x) (hp4 : Arv Z h0 b k .char (0 : Int32) [] (.int (0 : Int32))) :
    own_CH l Z M25 jdk_42_method_3_code 2 none ws R_si1_0 #[(.ref x), (.ref b)] h0 (Q_si1_0 Z G1 x b k h0 n0) := by
  refine own_H (plainFor_of_name pn_2) ?_
  intro p e s m below meth c s₁ S0 Bd hZ hh CH0 hS0 CR0 hx hby hml hown hnm X0 e0 hS0d
  obtain ⟨O1, P1, OAD, OHI, OLO⟩ := id HG
  have hEL := own_EL hw
  have hSA := own_SA hw
  have N0 := Fr.nil n0
  have C0 : Steps p.tables e below S0 (s₁.setTop (mkF m 0 #[.val (.ref x), .val (.ref b)] [])) := by rw [hS0d]; exact castTop (ef_26 m x b) (Steps.refl _)
  obtain ⟨c_1, A_2, q_3, S_4, M_5, H_6, U_7⟩ := id hp4
  obtain ⟨_, _, ⟨T_8, L_8, k_8, n_8⟩, -, Y_8, S_8, G_8, ⟨Lc_8, hQ_8, l_8, y_8, z_8, R_8⟩, st_8⟩ := X0.specialBackS hx (y := M0) rfl hown (mvT hZ (w12 hw)) (mvT hZ (w13 hw)) (mvT hZ (w15 hw)) (by decide) (backOfSH (vm0 := s.vm) (W := 0) (rm_si4_0 l Z a0 hw [] G1 HG h0 n0 X00 x b k hp0 hp1 hp2 hp3 hp4) hZ (w15 hw) (w7 hw) (by decide) (by decide) hEL CH0) (g := (mkF m 6 #[.val (.ref x), .val (.ref b)] [.null, (.int (0 : Int32)), (.int (0 : Int32)), (.ref b), (.ref x)])) rfl (by rw [hml]; rfl) (Steps.refl _) (a := x) (argsL := [(.ref b), (.int (0 : Int32)), (.int (0 : Int32)), .null]) (rest := []) (lenOf pd_35 rfl) rfl (by show 2 * 0 + _ ≤ _; exact Nat.le_of_eq rfl) (hb hby d1_6) (fun _ _ => ⟨rfl, e0, (by decide : 0 + 4 ≤ _), (by decide : 0 + 8 ≤ _)⟩)
  dsimp only [Pt.U, Pt.locs, Pt.cells, Pt.slots] at Y_8 S_8 G_8 l_8 y_8 z_8 st_8 hQ_8 R_8
  subst l_8 y_8 z_8
  obtain ⟨X_8, hS_8, hZ_8, hown_8⟩ := rebS hS0 (n1 := s₁.heap.size) (by rw [show s₁.heap = h0 from e0]; exact (Nat.le_refl _)) Y_8 S_8 G_8 hZ hown
  obtain ⟨a_9, k_10, rfl, N_11, K_12, g_13, g_14, g_15, g_16⟩ := hQ_8
  have N_17 := Fr.app N0 N_11
  have CH_18 : CHv Z consts_1 T_8.vm T_8.heap := R_8.1
  have CR_19 : CHr Z consts_1 s.vm h0 T_8.vm T_8.heap := CR0.trans R_8
  have C_20 : Steps p.tables e below S0 (T_8.setTop (mkF m 9 #[.val (.ref x), .val (.ref b)] [])) := by
    refine C0.trans ?_
    refine XS.aloadN X0.here hx rfl (hb hby d1_0) rfl rfl ?_
    refine XS.aloadN X0.here hx rfl (hb hby d1_1) rfl rfl ?_
    refine XS.iconst X0.here hx rfl (hb hby d1_2) ?_
    refine XS.aloadN X0.here hx rfl (hb hby d1_3) rfl rfl ?_
    refine X0.arraylength hx (by rw [e0]; exact A_2.1) (State.isArrayOf_alike hZ.alike A_2.2.1) (g := (mkF m 4 #[.val (.ref x), .val (.ref b)] [(.ref b), (.int (0 : Int32)), (.ref b), (.ref x)])) rfl rfl (hb hby d1_4) _ ?_
    rw [len_of S_4 M_5]
    refine XS.aconstNull X0.here hx rfl (hb hby d1_5) ?_
    refine st_8.trans ?_
    exact Steps.refl _
  have K_21 : Keep h0 T_8.heap [x] := ((Keep.refl _ _).trans K_12 (allS (Or.inl (List.mem_of_getElem? (i := 0) rfl)) all0))
  obtain ⟨fs, hr, hrun, hended, hRE⟩ := X_8.leaveW hS_8 (by rw [show T_8.heap = T_8.heap from rfl]; exact (Nat.le_refl _)) (v := none) (fun _ => rfl)
  refine ⟨_, _, C_20.trans (X_8.returnOut hx Bd.returns (hb hby d1_9) hr), hrun, hended, _, _, rfl, ?_, ?_, hRE.1, hRE.2.1, hRE.2.2.1, hRE.2.2.2.mono (by decide) (by decide)⟩
  · show Q_si1_0 Z G1 x b k h0 n0 (none) T_8.heap _
    exact ⟨a_9, k_10, rfl, N_17, K_21, g_13, g_14, g_15, g_16⟩
  · show CHr Z consts_1 s.vm s.heap T_8.vm T_8.heap
    rw [hh]
    exact CR_19.trans (CHv.at X_8 hZ_8 hEL CH_18)
abbrev M40 : MethodName := ⟨"java/lang/StringUTF16", "newBytesLength", "(I)I"⟩
theorem ef_41 (m : MethodId) (x0 : Int32) : entryFrame m #[(.int x0)] 1 = mkF m 0 #[.val (.int x0)] [] := by first | (simp [entryFrame, mkF, argsToLocals, Value.category]; done) | rfl
theorem pn_42 : plainName "java/lang/StringUTF16" = true := by first | (simp [plainName, overriddenIn]; done) | decide +kernel
theorem d2_0 : decode jdk_52_method_3_code 0 = .ok (.iload_n 0, 1) := by decide +kernel
theorem d2_1 : decode jdk_52_method_3_code 1 = .ok (.ifCond .ge 11, 3) := by decide +kernel
theorem d2_12 : decode jdk_52_method_3_code 12 = .ok (.iload_n 0, 1) := by decide +kernel
theorem w85 {Z : State} {a0 : Array Value} (hw : ∀ d ∈ tables_1, d.before a0 Z = true) : Jvm.Cond.before (Jvm.Cond.constant "java/lang/StringUTF16" (20 : Nat) (1073741823 : Int32)) a0 Z = true := hw _ (List.mem_of_getElem? (i := 85) rfl)
theorem d2_13 : decode jdk_52_method_3_code 13 = .ok (.ldc 20, 2) := by decide +kernel
theorem d2_15 : decode jdk_52_method_3_code 15 = .ok (.if_icmp .lt 40, 3) := by decide +kernel
theorem d2_55 : decode jdk_52_method_3_code 55 = .ok (.iload_n 0, 1) := by decide +kernel
theorem d2_56 : decode jdk_52_method_3_code 56 = .ok (.iconst 1, 1) := by decide +kernel
theorem d2_57 : decode jdk_52_method_3_code 57 = .ok (.ishl, 1) := by decide +kernel
theorem d2_58 : decode jdk_52_method_3_code 58 = .ok (.ireturn, 1) := by decide +kernel
abbrev R_nbl_2 : Room := { frames := 0, cells := 0, slots := 0, locals := 0 }
def Q_nbl_2 (Z : State) (G1 : Int32)  (h0 : Heap) (n0 : Nat) (v : Option Value) (h : Heap) (L : List Loc) : Prop := (v = some (.int (4 : Int32)) ∧ Fr n0 L ∧ h = h0)
set_option maxRecDepth 65536 in
set_option maxHeartbeats 40000000 in
theorem rm_nbl_2 (l : Launch) (Z : State) (a0 : Array Value) (hw : ∀ d ∈ tables_1, d.before a0 Z = true) (ws : List Jvm.Cond) (G1 : Int32) (HG : own_G l Z a0 G1) (h0 : Heap) (n0 : Nat) (X00 : Old Z n0 h0)   :
    own_CP l Z M40 jdk_52_method_3_code 1 (some .int) ws R_nbl_2 #[(.int (2 : Int32))] h0 (Q_nbl_2 Z G1  h0 n0) := by
  refine own_P (plainFor_of_name pn_42) ?_
  intro p e s m below meth c s₁ S0 Bd hZ hh hx hby hml hown hnm X0 e0 hS0d
  obtain ⟨O1, P1, OAD, OHI, OLO⟩ := id HG
  have N0 := Fr.nil n0
  have C0 : Steps p.tables e below S0 (s₁.setTop (mkF m 0 #[.val (.int (2 : Int32))] [])) := by rw [hS0d]; exact castTop (ef_41 m (2 : Int32)) (Steps.refl _)
  have C_1 : Steps p.tables e below S0 (s₁.setTop (mkF m 58 #[.val (.int (2 : Int32))] [(.int (4 : Int32))])) := by
    refine C0.trans ?_
    refine XS.iloadN X0.here hx rfl (hb hby d2_0) rfl ?_
    refine XS.ifYes X0.here hx rfl (pc0 := 1) (pc' := 12) rfl (hb hby d2_1) rfl (by decide) (by decide) (by decide) ?_
    refine XS.iloadN X0.here hx rfl (hb hby d2_12) rfl ?_
    refine X0.ldcI hx hown (mvT hZ (w85 hw)) rfl (hb hby d2_13) ?_
    refine XS.icmpYes X0.here hx rfl (pc0 := 15) (pc' := 55) rfl (hb hby d2_15) rfl (by decide) (by decide) (by decide) ?_
    refine XS.iloadN X0.here hx rfl (hb hby d2_55) rfl ?_
    refine XS.iconst X0.here hx rfl (hb hby d2_56) ?_
    refine XS.ishl X0.here hx rfl (hb hby d2_57) rfl ?_
    show Steps p.tables e below (s₁.setTop (mkF m 58 #[.val (.int (2 : Int32))] [(.int (4 : Int32))])) _
    exact Steps.refl _
  obtain ⟨fs, hr, hrun, hended, hW, hsame⟩ := X0.leave (v := some (.int (4 : Int32))) (fun h => by rw [Bd.returns] at h; cases h)
  refine ⟨_, _, C_1.trans (retOut X0 hx Bd.returns rfl (Or.inl ⟨rfl, Or.inl rfl, _, rfl⟩) (hb hby d2_58) hr), hrun, hended, _, _, rfl, ?_, ⟨_, rfl⟩, hW, hsame.mono (by decide) (by decide)⟩
  show Q_nbl_2 Z G1  h0 n0 (some (.int (4 : Int32))) s₁.heap _
  rw [e0]
  exact ⟨rfl, N0, rfl⟩
abbrev M53 : MethodName := ⟨"java/lang/StringUTF16", "newBytesFor", "(I)[B"⟩
theorem d3_0 : decode jdk_52_method_2_code 0 = .ok (.iload_n 0, 1) := by decide +kernel
theorem w84 {Z : State} {a0 : Array Value} (hw : ∀ d ∈ tables_1, d.before a0 Z = true) : Jvm.Cond.before (Jvm.Cond.code ({ cls := "java/lang/StringUTF16", name := "newBytesLength", desc := "(I)I" } : Jvm.MethodName) jdk_52_method_3_code (1 : Nat) (Option.some Jvm.ClassFile.FieldType.int)) a0 Z = true := hw _ (List.mem_of_getElem? (i := 84) rfl)
theorem w68 {Z : State} {a0 : Array Value} (hw : ∀ d ∈ tables_1, d.before a0 Z = true) : Jvm.Cond.before (Jvm.Cond.initialized "java/lang/StringUTF16") a0 Z = true := hw _ (List.mem_of_getElem? (i := 68) rfl)
theorem pd_57 : parseMethodDescriptor "(I)I" = some ⟨[.int], some .int⟩ := by decide +kernel
theorem d3_1 : decode jdk_52_method_2_code 1 = .ok (.invokestatic 11, 3) := by decide +kernel
theorem w82 {Z : State} {a0 : Array Value} (hw : ∀ d ∈ tables_1, d.before a0 Z = true) : Jvm.Cond.before (Jvm.Cond.methodLink "java/lang/StringUTF16" (11 : Nat) ({ cls := "java/lang/StringUTF16", name := "newBytesLength", desc := "(I)I" } : Jvm.MethodName)) a0 Z = true := hw _ (List.mem_of_getElem? (i := 82) rfl)
theorem w83 {Z : State} {a0 : Array Value} (hw : ∀ d ∈ tables_1, d.before a0 Z = true) : Jvm.Cond.before (Jvm.Cond.static ({ cls := "java/lang/StringUTF16", name := "newBytesLength", desc := "(I)I" } : Jvm.MethodName)) a0 Z = true := hw _ (List.mem_of_getElem? (i := 83) rfl)
theorem w20 {Z : State} {a0 : Array Value} (hw : ∀ d ∈ tables_1, d.before a0 Z = true) : Jvm.Cond.before (Jvm.Cond.arrayClass Jvm.ClassFile.FieldType.byte) a0 Z = true := hw _ (List.mem_of_getElem? (i := 20) rfl)
theorem d3_4 : decode jdk_52_method_2_code 4 = .ok (.newarray .byte, 2) := by decide +kernel
theorem d3_6 : decode jdk_52_method_2_code 6 = .ok (.areturn, 1) := by decide +kernel
abbrev R_nbf_2 : Room := { frames := 1, cells := 1, slots := 4, locals := 12 }
def Q_nbf_2 (Z : State) (G1 : Int32)  (h0 : Heap) (n0 : Nat) (v : Option Value) (h : Heap) (L : List Loc) : Prop := (∃ t : Addr, ∃ kt : ClassId, v = some (.ref t) ∧ Fr n0 L ∧ Keep h0 h [] ∧ (h0.size ≤ t) ∧ (Arv Z h t kt .byte (4 : Int32) [(.int (0 : Int32)), (.int (0 : Int32)), (.int (0 : Int32)), (.int (0 : Int32))] (.int (0 : Int32))))
set_option maxRecDepth 65536 in
set_option maxHeartbeats 40000000 in
theorem rm_nbf_2 (l : Launch) (Z : State) (a0 : Array Value) (hw : ∀ d ∈ tables_1, d.before a0 Z = true) (ws : List Jvm.Cond) (G1 : Int32) (HG : own_G l Z a0 G1) (h0 : Heap) (n0 : Nat) (X00 : Old Z n0 h0)   :
    own_CP l Z M53 jdk_52_method_2_code 1 (some (.array .byte)) ws R_nbf_2 #[(.int (2 : Int32))] h0 (Q_nbf_2 Z G1  h0 n0) := by
  refine own_P (plainFor_of_name pn_42) ?_
  intro p e s m below meth c s₁ S0 Bd hZ hh hx hby hml hown hnm X0 e0 hS0d
  obtain ⟨O1, P1, OAD, OHI, OLO⟩ := id HG
  have N0 := Fr.nil n0
  have C0 : Steps p.tables e below S0 (s₁.setTop (mkF m 0 #[.val (.int (2 : Int32))] [])) := by rw [hS0d]; exact castTop (ef_41 m (2 : Int32)) (Steps.refl _)
  obtain ⟨_, _, ⟨T_1, L_1, k_1, n_1⟩, -, X_1, ⟨Lc_1, hQ_1, l_1, y_1, z_1⟩, st_1⟩ := Jvm.LawKit.callS X0 hx (y := M40) hown (mvT hZ (w82 hw)) (mvT hZ (w83 hw)) (mvT hZ (w68 hw)) (mvT hZ (w84 hw)) (by decide) (backOf (W := 0) (rm_nbl_2 l Z a0 hw [] G1 HG h0 n0 X00  ) hZ (w84 hw) (w68 hw) (by decide) (by decide)) (g := (mkF m 1 #[.val (.int (2 : Int32))] [(.int (2 : Int32))])) rfl (by rw [hml]; rfl) (argsL := [(.int (2 : Int32))]) (rest := []) (lenOf pd_57 rfl) rfl (by show 2 * 0 + _ ≤ _; exact Nat.le_of_eq rfl) (hb hby d3_1) (fun _ _ => ⟨rfl, e0, (by decide : 0 + 0 ≤ _), (by decide : 0 + 0 ≤ _)⟩)
  dsimp only [Pt.U, Pt.locs, Pt.cells, Pt.slots] at X_1 l_1 y_1 z_1 st_1 hQ_1
  subst l_1 y_1 z_1
  obtain ⟨rfl, N_2, e_3⟩ := hQ_1
  have N_4 := Fr.app N0 N_2
  have e_5 : T_1.heap = h0 := e_3
  obtain ⟨T_6, h_7, k_8, X_9, e_10, E_11, A_12, st_13⟩ := newP (aty := .byte) X_1 hx hZ (w20 hw) e_5 (g := (mkF m 4 #[.val (.int (2 : Int32))] [(.int (4 : Int32))])) rfl (hb hby d3_4) rfl (by decide : ¬ ((4 : Int32) < (0 : Int32))) (cap := 4) (by decide : (4 : Int32).toNatClampNeg ≤ 4) (by decide) (by decide) (by decide)
  obtain ⟨a_14, g_15⟩ : ∃ z, z = h0.size := ⟨_, rfl⟩
  rw [← g_15] at A_12 st_13
  have V_17 : Arv Z h_7 a_14 k_8 .byte (4 : Int32) [] (.int (0 : Int32)) := Arv.new A_12 (by decide : ¬ ((4 : Int32) < (0 : Int32)))
  have V_16 : Arv Z h_7 a_14 k_8 .byte (4 : Int32) [(.int (0 : Int32)), (.int (0 : Int32)), (.int (0 : Int32)), (.int (0 : Int32))] (.int (0 : Int32)) := (V_17.pad (pad_rep [] (.int (0 : Int32)) 4))
  have C_18 : Steps p.tables e below S0 (T_6.setTop (mkF m 6 #[.val (.int (2 : Int32))] [(.ref a_14)])) := by
    refine C0.trans ?_
    refine XS.iloadN X0.here hx rfl (hb hby d3_0) rfl ?_
    refine st_1 _ ?_
    refine st_13 _ ?_
    exact Steps.refl _
  have K_19 : Keep h0 h_7 [] := ((Keep.refl _ _).ext E_11)
  obtain ⟨fs, hr, hrun, hended, hW, hsame⟩ := X_9.leave (v := some (.ref a_14)) (fun h => by rw [Bd.returns] at h; cases h)
  refine ⟨_, _, C_18.trans (retOut X_9 hx Bd.returns rfl (Or.inr (Or.inr (Or.inr (Or.inr ⟨rfl, rfl, rfl⟩)))) (hb hby d3_6) hr), hrun, hended, _, _, rfl, ?_, ⟨_, rfl⟩, hW, hsame.mono (by decide) (by decide)⟩
  show Q_nbf_2 Z G1  h0 n0 (some (.ref a_14)) T_6.heap _
  rw [e_10]
  exact ⟨a_14, k_8, rfl, N_4, K_19, (Nat.le_trans (Nat.le_refl _) (Nat.le_of_eq g_15.symm)), V_16⟩
abbrev M64 : MethodName := ⟨"java/lang/StringUTF16", "putChar", "([BII)V"⟩
theorem ef_65 (m : MethodId) (x0 : Addr) (x1 : Int32) (x2 : Int32) : entryFrame m #[(.ref x0), (.int x1), (.int x2)] 3 = mkF m 0 #[.val (.ref x0), .val (.int x1), .val (.int x2)] [] := by first | (simp [entryFrame, mkF, argsToLocals, Value.category]; done) | rfl
theorem w89 {Z : State} {a0 : Array Value} (hw : ∀ d ∈ tables_1, d.before a0 Z = true) : Jvm.Cond.before (Jvm.Cond.fieldLink "java/lang/StringUTF16" (44 : Nat) "java/lang/StringUTF16" "$assertionsDisabled" "Z") a0 Z = true := hw _ (List.mem_of_getElem? (i := 89) rfl)
theorem d4_0 : decode jdk_52_method_4_code 0 = .ok (.getstatic 44, 3) := by decide +kernel
theorem d4_3 : decode jdk_52_method_4_code 3 = .ok (.ifCond .ne 25, 3) := by decide +kernel
theorem d4_28 : decode jdk_52_method_4_code 28 = .ok (.iload_n 1, 1) := by decide +kernel
theorem d4_29 : decode jdk_52_method_4_code 29 = .ok (.iconst 1, 1) := by decide +kernel
theorem d4_30 : decode jdk_52_method_4_code 30 = .ok (.ishl, 1) := by decide +kernel
theorem d4_31 : decode jdk_52_method_4_code 31 = .ok (.istore_n 1, 1) := by decide +kernel
theorem d4_32 : decode jdk_52_method_4_code 32 = .ok (.aload_n 0, 1) := by decide +kernel
theorem d4_33 : decode jdk_52_method_4_code 33 = .ok (.iload_n 1, 1) := by decide +kernel
theorem d4_34 : decode jdk_52_method_4_code 34 = .ok (.iinc 1 1, 3) := by decide +kernel
theorem d4_37 : decode jdk_52_method_4_code 37 = .ok (.iload_n 2, 1) := by decide +kernel
theorem w90 {Z : State} {a0 : Array Value} (hw : ∀ d ∈ tables_1, d.before a0 Z = true) : Jvm.Cond.before (Jvm.Cond.fieldLink "java/lang/StringUTF16" (59 : Nat) "java/lang/StringUTF16" "HI_BYTE_SHIFT" "I") a0 Z = true := hw _ (List.mem_of_getElem? (i := 90) rfl)
theorem d4_38 : decode jdk_52_method_4_code 38 = .ok (.getstatic 59, 3) := by decide +kernel
theorem d4_41 : decode jdk_52_method_4_code 41 = .ok (.ishr, 1) := by decide +kernel
theorem d4_42 : decode jdk_52_method_4_code 42 = .ok (.i2b, 1) := by decide +kernel
theorem d4_43 : decode jdk_52_method_4_code 43 = .ok (.bastore, 1) := by decide +kernel
theorem d4_44 : decode jdk_52_method_4_code 44 = .ok (.aload_n 0, 1) := by decide +kernel
theorem d4_45 : decode jdk_52_method_4_code 45 = .ok (.iload_n 1, 1) := by decide +kernel
theorem d4_46 : decode jdk_52_method_4_code 46 = .ok (.iload_n 2, 1) := by decide +kernel
theorem w91 {Z : State} {a0 : Array Value} (hw : ∀ d ∈ tables_1, d.before a0 Z = true) : Jvm.Cond.before (Jvm.Cond.fieldLink "java/lang/StringUTF16" (63 : Nat) "java/lang/StringUTF16" "LO_BYTE_SHIFT" "I") a0 Z = true := hw _ (List.mem_of_getElem? (i := 91) rfl)
theorem d4_47 : decode jdk_52_method_4_code 47 = .ok (.getstatic 63, 3) := by decide +kernel
theorem d4_50 : decode jdk_52_method_4_code 50 = .ok (.ishr, 1) := by decide +kernel
theorem d4_51 : decode jdk_52_method_4_code 51 = .ok (.i2b, 1) := by decide +kernel
theorem d4_52 : decode jdk_52_method_4_code 52 = .ok (.bastore, 1) := by decide +kernel
theorem d4_53 : decode jdk_52_method_4_code 53 = .ok (.return_, 1) := by decide +kernel
abbrev R_put_2_0 : Room := { frames := 0, cells := 0, slots := 0, locals := 0 }
def Q_put_2_0 (Z : State) (G1 : Int32) (t : Addr) (kt : ClassId) (cc : Int32) (y0 : Int32) (y1 : Int32) (y2 : Int32) (y3 : Int32) (h0 : Heap) (n0 : Nat) (v : Option Value) (h : Heap) (L : List Loc) : Prop := (v = none ∧ Fr n0 L ∧ Keep h0 h [t] ∧ (Arv Z h t kt .byte (4 : Int32) [(.int (own_lo8z cc)), (.int (own_hi8 cc)), (.int y2), (.int y3)] (.int (0 : Int32))))
set_option maxRecDepth 65536 in
set_option maxHeartbeats 40000000 in
theorem rm_put_2_0 (l : Launch) (Z : State) (a0 : Array Value) (hw : ∀ d ∈ tables_1, d.before a0 Z = true) (ws : List Jvm.Cond) (G1 : Int32) (HG : own_G l Z a0 G1) (h0 : Heap) (n0 : Nat) (X00 : Old Z n0 h0) (t : Addr) (kt : ClassId) (cc : Int32) (y0 : Int32) (y1 : Int32) (y2 : Int32) (y3 : Int32) (hp0 : Arv Z h0 t kt .byte (4 : Int32) [(.int y0), (.int y1), (.int y2), (.int y3)] (.int (0 : Int32))) (hp1 : n0 ≤ t) :
    own_CP l Z M64 jdk_52_method_4_code 3 none ws R_put_2_0 #[(.ref t), (.int (0 : Int32)), (.int cc)] h0 (Q_put_2_0 Z G1 t kt cc y0 y1 y2 y3 h0 n0) := by
  refine own_P (plainFor_of_name pn_42) ?_
  intro p e s m below meth c s₁ S0 Bd hZ hh hx hby hml hown hnm X0 e0 hS0d
  obtain ⟨O1, P1, OAD, OHI, OLO⟩ := id HG
  have N0 := Fr.nil n0
  have C0 : Steps p.tables e below S0 (s₁.setTop (mkF m 0 #[.val (.ref t), .val (.int (0 : Int32)), .val (.int cc)] [])) := by rw [hS0d]; exact castTop (ef_65 m t (0 : Int32) cc) (Steps.refl _)
  obtain ⟨T_1, X_2, e_3, st_4⟩ := getS X0 hx hZ (host := "") hown (w89 hw) Via.refl e0 (OAD.ext X00.2) (g := (mkF m 0 #[.val (.ref t), .val (.int (0 : Int32)), .val (.int cc)] [])) rfl (hb hby d4_0)
  obtain ⟨T_5, X_6, e_7, st_8⟩ := getS X_2 hx hZ (host := "") hown (w90 hw) Via.refl e_3 (OHI.ext X00.2) (g := (mkF m 38 #[.val (.ref t), .val (.int (1 : Int32)), .val (.int cc)] [(.int cc), (.int (0 : Int32)), (.ref t)])) rfl (hb hby d4_38)
  obtain ⟨c_9, A_10, q_11, S_12, M_13, H_14, U_15⟩ := id hp0
  have hin_22 : ¬ ((0 : Int32) < 0 ∨ c_9.slots.size ≤ (0 : Int32).toNatClampNeg) := inb_of S_12 ⟨(by decide : ¬ ((0 : Int32) < (0 : Int32))), (by decide : (0 : Int32) < (4 : Int32))⟩
  obtain ⟨T_16, h_17, X_18, e_19, W_20, st_21⟩ := stB X_6 hx hZ e_7 A_10 (j := (0 : Int32)) hin_22 (g := (mkF m 43 #[.val (.ref t), .val (.int (1 : Int32)), .val (.int cc)] [(.int ((cc >>> ((0 : Int32) &&& 31)).toInt8.toInt32)), (.int (0 : Int32)), (.ref t)])) rfl rfl (hb hby d4_43)
  have N_23 := Fr.snoc X_18 N0 hp1
  have V_24 : Arv Z h_17 t kt .byte (4 : Int32) [(.int (own_lo8z cc)), (.int y1), (.int y2), (.int y3)] (.int (0 : Int32)) := Arv.set A_10 q_11 S_12 M_13 H_14 U_15 (fits_nar_byte _) W_20 0 rfl (Nat.le_of_ble_eq_true rfl)
  have O_29 : Old Z n0 h_17 := (X00.wr W_20 hp1)
  obtain ⟨T_25, X_26, e_27, st_28⟩ := getS X_18 hx hZ (host := "") hown (w91 hw) Via.refl e_19 (OLO.ext O_29.2) (g := (mkF m 47 #[.val (.ref t), .val (.int (1 : Int32)), .val (.int cc)] [(.int cc), (.int (1 : Int32)), (.ref t)])) rfl (hb hby d4_47)
  obtain ⟨c_30, A_31, q_32, S_33, M_34, H_35, U_36⟩ := id V_24
  have hin_43 : ¬ ((1 : Int32) < 0 ∨ c_30.slots.size ≤ (1 : Int32).toNatClampNeg) := inb_of S_33 ⟨(by decide : ¬ ((1 : Int32) < (0 : Int32))), (by decide : (1 : Int32) < (4 : Int32))⟩
  obtain ⟨T_37, h_38, X_39, e_40, W_41, st_42⟩ := stB X_26 hx hZ e_27 A_31 (j := (1 : Int32)) hin_43 (g := (mkF m 52 #[.val (.ref t), .val (.int (1 : Int32)), .val (.int cc)] [(.int ((cc >>> ((8 : Int32) &&& 31)).toInt8.toInt32)), (.int (1 : Int32)), (.ref t)])) rfl rfl (hb hby d4_52)
  have N_44 := Fr.snoc X_39 N_23 hp1
  have V_45 : Arv Z h_38 t kt .byte (4 : Int32) [(.int (own_lo8z cc)), (.int (own_hi8 cc)), (.int y2), (.int y3)] (.int (0 : Int32)) := Arv.set A_31 q_32 S_33 M_34 H_35 U_36 (fits_nar_byte _) W_41 1 rfl (Nat.le_of_ble_eq_true rfl)
  have C_46 : Steps p.tables e below S0 (T_37.setTop (mkF m 53 #[.val (.ref t), .val (.int (1 : Int32)), .val (.int cc)] [])) := by
    refine C0.trans ?_
    refine st_4 _ ?_
    refine XS.ifYes X_2.here hx rfl (pc0 := 3) (pc' := 28) rfl (hb hby d4_3) rfl (by decide) (by decide) (by decide) ?_
    refine XS.iloadN X_2.here hx rfl (hb hby d4_28) rfl ?_
    refine XS.iconst X_2.here hx rfl (hb hby d4_29) ?_
    refine XS.ishl X_2.here hx rfl (hb hby d4_30) rfl ?_
    refine XS.istoreN X_2.here hx rfl (hb hby d4_31) rfl (l' := #[.val (.ref t), .val (.int (0 : Int32)), .val (.int cc)]) rfl ?_
    refine XS.aloadN X_2.here hx rfl (hb hby d4_32) rfl rfl ?_
    refine XS.iloadN X_2.here hx rfl (hb hby d4_33) rfl ?_
    show Steps p.tables e below (T_1.setTop (mkF m 34 #[.val (.ref t), .val (.int (0 : Int32)), .val (.int cc)] [(.int (0 : Int32)), (.ref t)])) _
    refine XS.iinc X_2.here hx rfl (hb hby d4_34) (x := (0 : Int32)) rfl (l' := #[.val (.ref t), .val (.int (1 : Int32)), .val (.int cc)]) rfl ?_
    refine XS.iloadN X_2.here hx rfl (hb hby d4_37) rfl ?_
    refine st_8 _ ?_
    refine XS.ishr X_6.here hx rfl (hb hby d4_41) rfl ?_
    refine XS.i2b X_6.here hx rfl (hb hby d4_42) rfl ?_
    refine st_21 _ ?_
    refine XS.aloadN X_18.here hx rfl (hb hby d4_44) rfl rfl ?_
    refine XS.iloadN X_18.here hx rfl (hb hby d4_45) rfl ?_
    show Steps p.tables e below (T_16.setTop (mkF m 46 #[.val (.ref t), .val (.int (1 : Int32)), .val (.int cc)] [(.int (1 : Int32)), (.ref t)])) _
    refine XS.iloadN X_18.here hx rfl (hb hby d4_46) rfl ?_
    refine st_28 _ ?_
    refine XS.ishr X_26.here hx rfl (hb hby d4_50) rfl ?_
    refine XS.i2b X_26.here hx rfl (hb hby d4_51) rfl ?_
    refine st_42 _ ?_
    exact Steps.refl _
  have K_47 : Keep h0 h_38 [t] := (((Keep.refl _ _).wr W_20 (Or.inl (List.mem_of_getElem? (i := 0) rfl))).wr W_41 (Or.inl (List.mem_of_getElem? (i := 0) rfl)))
  obtain ⟨fs, hr, hrun, hended, hW, hsame⟩ := X_39.leave (v := none) (fun _ => rfl)
  refine ⟨_, _, C_46.trans (X_39.returnOut hx Bd.returns (hb hby d4_53) hr), hrun, hended, _, _, rfl, ?_, ⟨_, rfl⟩, hW, hsame.mono (by decide) (by decide)⟩
  show Q_put_2_0 Z G1 t kt cc y0 y1 y2 y3 h0 n0 (none) T_37.heap _
  rw [e_40]
  exact ⟨rfl, N_44, K_47, V_45⟩
abbrev R_put_2_1 : Room := { frames := 0, cells := 0, slots := 0, locals := 0 }
def Q_put_2_1 (Z : State) (G1 : Int32) (t : Addr) (kt : ClassId) (cc : Int32) (y0 : Int32) (y1 : Int32) (y2 : Int32) (y3 : Int32) (h0 : Heap) (n0 : Nat) (v : Option Value) (h : Heap) (L : List Loc) : Prop := (v = none ∧ Fr n0 L ∧ Keep h0 h [t] ∧ (Arv Z h t kt .byte (4 : Int32) [(.int y0), (.int y1), (.int (own_lo8z cc)), (.int (own_hi8 cc))] (.int (0 : Int32))))
set_option maxRecDepth 65536 in
set_option maxHeartbeats 40000000 in
theorem rm_put_2_1 (l : Launch) (Z : State) (a0 : Array Value) (hw : ∀ d ∈ tables_1, d.before a0 Z = true) (ws : List Jvm.Cond) (G1 : Int32) (HG : own_G l Z a0 G1) (h0 : Heap) (n0 : Nat) (X00 : Old Z n0 h0) (t : Addr) (kt : ClassId) (cc : Int32) (y0 : Int32) (y1 : Int32) (y2 : Int32) (y3 : Int32) (hp0 : Arv Z h0 t kt .byte (4 : Int32) [(.int y0), (.int y1), (.int y2), (.int y3)] (.int (0 : Int32))) (hp1 : n0 ≤ t) :
    own_CP l Z M64 jdk_52_method_4_code 3 none ws R_put_2_1 #[(.ref t), (.int (1 : Int32)), (.int cc)] h0 (Q_put_2_1 Z G1 t kt cc y0 y1 y2 y3 h0 n0) := by
  refine own_P (plainFor_of_name pn_42) ?_
  intro p e s m below meth c s₁ S0 Bd hZ hh hx hby hml hown hnm X0 e0 hS0d
  obtain ⟨O1, P1, OAD, OHI, OLO⟩ := id HG
  have N0 := Fr.nil n0
  have C0 : Steps p.tables e below S0 (s₁.setTop (mkF m 0 #[.val (.ref t), .val (.int (1 : Int32)), .val (.int cc)] [])) := by rw [hS0d]; exact castTop (ef_65 m t (1 : Int32) cc) (Steps.refl _)
  obtain ⟨T_1, X_2, e_3, st_4⟩ := getS X0 hx hZ (host := "") hown (w89 hw) Via.refl e0 (OAD.ext X00.2) (g := (mkF m 0 #[.val (.ref t), .val (.int (1 : Int32)), .val (.int cc)] [])) rfl (hb hby d4_0)
  obtain ⟨T_5, X_6, e_7, st_8⟩ := getS X_2 hx hZ (host := "") hown (w90 hw) Via.refl e_3 (OHI.ext X00.2) (g := (mkF m 38 #[.val (.ref t), .val (.int (3 : Int32)), .val (.int cc)] [(.int cc), (.int (2 : Int32)), (.ref t)])) rfl (hb hby d4_38)
  obtain ⟨c_9, A_10, q_11, S_12, M_13, H_14, U_15⟩ := id hp0
  have hin_22 : ¬ ((2 : Int32) < 0 ∨ c_9.slots.size ≤ (2 : Int32).toNatClampNeg) := inb_of S_12 ⟨(by decide : ¬ ((2 : Int32) < (0 : Int32))), (by decide : (2 : Int32) < (4 : Int32))⟩
  obtain ⟨T_16, h_17, X_18, e_19, W_20, st_21⟩ := stB X_6 hx hZ e_7 A_10 (j := (2 : Int32)) hin_22 (g := (mkF m 43 #[.val (.ref t), .val (.int (3 : Int32)), .val (.int cc)] [(.int ((cc >>> ((0 : Int32) &&& 31)).toInt8.toInt32)), (.int (2 : Int32)), (.ref t)])) rfl rfl (hb hby d4_43)
  have N_23 := Fr.snoc X_18 N0 hp1
  have V_24 : Arv Z h_17 t kt .byte (4 : Int32) [(.int y0), (.int y1), (.int (own_lo8z cc)), (.int y3)] (.int (0 : Int32)) := Arv.set A_10 q_11 S_12 M_13 H_14 U_15 (fits_nar_byte _) W_20 2 rfl (Nat.le_of_ble_eq_true rfl)
  have O_29 : Old Z n0 h_17 := (X00.wr W_20 hp1)
  obtain ⟨T_25, X_26, e_27, st_28⟩ := getS X_18 hx hZ (host := "") hown (w91 hw) Via.refl e_19 (OLO.ext O_29.2) (g := (mkF m 47 #[.val (.ref t), .val (.int (3 : Int32)), .val (.int cc)] [(.int cc), (.int (3 : Int32)), (.ref t)])) rfl (hb hby d4_47)
  obtain ⟨c_30, A_31, q_32, S_33, M_34, H_35, U_36⟩ := id V_24
  have hin_43 : ¬ ((3 : Int32) < 0 ∨ c_30.slots.size ≤ (3 : Int32).toNatClampNeg) := inb_of S_33 ⟨(by decide : ¬ ((3 : Int32) < (0 : Int32))), (by decide : (3 : Int32) < (4 : Int32))⟩
  obtain ⟨T_37, h_38, X_39, e_40, W_41, st_42⟩ := stB X_26 hx hZ e_27 A_31 (j := (3 : Int32)) hin_43 (g := (mkF m 52 #[.val (.ref t), .val (.int (3 : Int32)), .val (.int cc)] [(.int ((cc >>> ((8 : Int32) &&& 31)).toInt8.toInt32)), (.int (3 : Int32)), (.ref t)])) rfl rfl (hb hby d4_52)
  have N_44 := Fr.snoc X_39 N_23 hp1
  have V_45 : Arv Z h_38 t kt .byte (4 : Int32) [(.int y0), (.int y1), (.int (own_lo8z cc)), (.int (own_hi8 cc))] (.int (0 : Int32)) := Arv.set A_31 q_32 S_33 M_34 H_35 U_36 (fits_nar_byte _) W_41 3 rfl (Nat.le_of_ble_eq_true rfl)
  have C_46 : Steps p.tables e below S0 (T_37.setTop (mkF m 53 #[.val (.ref t), .val (.int (3 : Int32)), .val (.int cc)] [])) := by
    refine C0.trans ?_
    refine st_4 _ ?_
    refine XS.ifYes X_2.here hx rfl (pc0 := 3) (pc' := 28) rfl (hb hby d4_3) rfl (by decide) (by decide) (by decide) ?_
    refine XS.iloadN X_2.here hx rfl (hb hby d4_28) rfl ?_
    refine XS.iconst X_2.here hx rfl (hb hby d4_29) ?_
    refine XS.ishl X_2.here hx rfl (hb hby d4_30) rfl ?_
    refine XS.istoreN X_2.here hx rfl (hb hby d4_31) rfl (l' := #[.val (.ref t), .val (.int (2 : Int32)), .val (.int cc)]) rfl ?_
    refine XS.aloadN X_2.here hx rfl (hb hby d4_32) rfl rfl ?_
    refine XS.iloadN X_2.here hx rfl (hb hby d4_33) rfl ?_
    show Steps p.tables e below (T_1.setTop (mkF m 34 #[.val (.ref t), .val (.int (2 : Int32)), .val (.int cc)] [(.int (2 : Int32)), (.ref t)])) _
    refine XS.iinc X_2.here hx rfl (hb hby d4_34) (x := (2 : Int32)) rfl (l' := #[.val (.ref t), .val (.int (3 : Int32)), .val (.int cc)]) rfl ?_
    refine XS.iloadN X_2.here hx rfl (hb hby d4_37) rfl ?_
    refine st_8 _ ?_
    refine XS.ishr X_6.here hx rfl (hb hby d4_41) rfl ?_
    refine XS.i2b X_6.here hx rfl (hb hby d4_42) rfl ?_
    refine st_21 _ ?_
    refine XS.aloadN X_18.here hx rfl (hb hby d4_44) rfl rfl ?_
    refine XS.iloadN X_18.here hx rfl (hb hby d4_45) rfl ?_
    show Steps p.tables e below (T_16.setTop (mkF m 46 #[.val (.ref t), .val (.int (3 : Int32)), .val (.int cc)] [(.int (3 : Int32)), (.ref t)])) _
    refine XS.iloadN X_18.here hx rfl (hb hby d4_46) rfl ?_
    refine st_28 _ ?_
    refine XS.ishr X_26.here hx rfl (hb hby d4_50) rfl ?_
    refine XS.i2b X_26.here hx rfl (hb hby d4_51) rfl ?_
    refine st_42 _ ?_
    exact Steps.refl _
  have K_47 : Keep h0 h_38 [t] := (((Keep.refl _ _).wr W_20 (Or.inl (List.mem_of_getElem? (i := 0) rfl))).wr W_41 (Or.inl (List.mem_of_getElem? (i := 0) rfl)))
  obtain ⟨fs, hr, hrun, hended, hW, hsame⟩ := X_39.leave (v := none) (fun _ => rfl)
  refine ⟨_, _, C_46.trans (X_39.returnOut hx Bd.returns (hb hby d4_53) hr), hrun, hended, _, _, rfl, ?_, ⟨_, rfl⟩, hW, hsame.mono (by decide) (by decide)⟩
  show Q_put_2_1 Z G1 t kt cc y0 y1 y2 y3 h0 n0 (none) T_37.heap _
  rw [e_40]
  exact ⟨rfl, N_44, K_47, V_45⟩
abbrev M91 : MethodName := ⟨"java/lang/StringUTF16", "toBytes", "([CII)[B"⟩
theorem ef_92 (m : MethodId) (x0 : Addr) (x1 : Int32) (x2 : Int32) : entryFrame m #[(.ref x0), (.int x1), (.int x2)] 5 = mkF m 0 #[.val (.ref x0), .val (.int x1), .val (.int x2), .unset, .unset] [] := by first | (simp [entryFrame, mkF, argsToLocals, Value.category]; done) | rfl
theorem d5_0 : decode jdk_52_method_14_code 0 = .ok (.iload_n 2, 1) := by decide +kernel
theorem w81 {Z : State} {a0 : Array Value} (hw : ∀ d ∈ tables_1, d.before a0 Z = true) : Jvm.Cond.before (Jvm.Cond.code ({ cls := "java/lang/StringUTF16", name := "newBytesFor", desc := "(I)[B" } : Jvm.MethodName) jdk_52_method_2_code (1 : Nat) (Option.some (Jvm.ClassFile.FieldType.array Jvm.ClassFile.FieldType.byte))) a0 Z = true := hw _ (List.mem_of_getElem? (i := 81) rfl)
theorem pd_95 : parseMethodDescriptor "(I)[B" = some ⟨[.int], some (.array .byte)⟩ := by decide +kernel
theorem d5_1 : decode jdk_52_method_14_code 1 = .ok (.invokestatic 107, 3) := by decide +kernel
theorem w79 {Z : State} {a0 : Array Value} (hw : ∀ d ∈ tables_1, d.before a0 Z = true) : Jvm.Cond.before (Jvm.Cond.methodLink "java/lang/StringUTF16" (107 : Nat) ({ cls := "java/lang/StringUTF16", name := "newBytesFor", desc := "(I)[B" } : Jvm.MethodName)) a0 Z = true := hw _ (List.mem_of_getElem? (i := 79) rfl)
theorem w80 {Z : State} {a0 : Array Value} (hw : ∀ d ∈ tables_1, d.before a0 Z = true) : Jvm.Cond.before (Jvm.Cond.static ({ cls := "java/lang/StringUTF16", name := "newBytesFor", desc := "(I)[B" } : Jvm.MethodName)) a0 Z = true := hw _ (List.mem_of_getElem? (i := 80) rfl)
theorem d5_4 : decode jdk_52_method_14_code 4 = .ok (.astore_n 3, 1) := by decide +kernel
theorem d5_5 : decode jdk_52_method_14_code 5 = .ok (.iconst 0, 1) := by decide +kernel
theorem d5_6 : decode jdk_52_method_14_code 6 = .ok (.istore 4, 2) := by decide +kernel
theorem d5_8 : decode jdk_52_method_14_code 8 = .ok (.iload 4, 2) := by decide +kernel
theorem d5_10 : decode jdk_52_method_14_code 10 = .ok (.iload_n 2, 1) := by decide +kernel
theorem d5_11 : decode jdk_52_method_14_code 11 = .ok (.if_icmp .ge 21, 3) := by decide +kernel
theorem d5_14 : decode jdk_52_method_14_code 14 = .ok (.aload_n 3, 1) := by decide +kernel
theorem d5_15 : decode jdk_52_method_14_code 15 = .ok (.iload 4, 2) := by decide +kernel
theorem d5_17 : decode jdk_52_method_14_code 17 = .ok (.aload_n 0, 1) := by decide +kernel
theorem d5_18 : decode jdk_52_method_14_code 18 = .ok (.iload_n 1, 1) := by decide +kernel
theorem d5_19 : decode jdk_52_method_14_code 19 = .ok (.caload, 1) := by decide +kernel
theorem w88 {Z : State} {a0 : Array Value} (hw : ∀ d ∈ tables_1, d.before a0 Z = true) : Jvm.Cond.before (Jvm.Cond.code ({ cls := "java/lang/StringUTF16", name := "putChar", desc := "([BII)V" } : Jvm.MethodName) jdk_52_method_4_code (3 : Nat) (Option.none : Option Jvm.ClassFile.FieldType)) a0 Z = true := hw _ (List.mem_of_getElem? (i := 88) rfl)
theorem pd_111 : parseMethodDescriptor "([BII)V" = some ⟨[(.array .byte), .int, .int], none⟩ := by decide +kernel
theorem d5_20 : decode jdk_52_method_14_code 20 = .ok (.invokestatic 111, 3) := by decide +kernel
theorem w86 {Z : State} {a0 : Array Value} (hw : ∀ d ∈ tables_1, d.before a0 Z = true) : Jvm.Cond.before (Jvm.Cond.methodLink "java/lang/StringUTF16" (111 : Nat) ({ cls := "java/lang/StringUTF16", name := "putChar", desc := "([BII)V" } : Jvm.MethodName)) a0 Z = true := hw _ (List.mem_of_getElem? (i := 86) rfl)
theorem w87 {Z : State} {a0 : Array Value} (hw : ∀ d ∈ tables_1, d.before a0 Z = true) : Jvm.Cond.before (Jvm.Cond.static ({ cls := "java/lang/StringUTF16", name := "putChar", desc := "([BII)V" } : Jvm.MethodName)) a0 Z = true := hw _ (List.mem_of_getElem? (i := 87) rfl)
theorem d5_23 : decode jdk_52_method_14_code 23 = .ok (.iinc 1 1, 3) := by decide +kernel
theorem d5_26 : decode jdk_52_method_14_code 26 = .ok (.iinc 4 1, 3) := by decide +kernel
theorem d5_29 : decode jdk_52_method_14_code 29 = .ok (.goto (-21), 3) := by decide +kernel
theorem d5_32 : decode jdk_52_method_14_code 32 = .ok (.aload_n 3, 1) := by decide +kernel
theorem d5_33 : decode jdk_52_method_14_code 33 = .ok (.areturn, 1) := by decide +kernel
abbrev R_tob_2 : Room := { frames := 2, cells := 1, slots := 4, locals := 24 }
def Q_tob_2 (Z : State) (G1 : Int32) (b : Addr) (k : ClassId) (c0 : Int32) (c1 : Int32) (h0 : Heap) (n0 : Nat) (v : Option Value) (h : Heap) (L : List Loc) : Prop := (∃ t : Addr, ∃ kt : ClassId, v = some (.ref t) ∧ Fr n0 L ∧ Keep h0 h [] ∧ (h0.size ≤ t) ∧ (Arv Z h t kt .byte (4 : Int32) [(.int (own_lo8z c0)), (.int (own_hi8 c0)), (.int (own_lo8z c1)), (.int (own_hi8 c1))] (.int (0 : Int32))))
set_option maxRecDepth 65536 in
set_option maxHeartbeats 40000000 in
theorem rm_tob_2 (l : Launch) (Z : State) (a0 : Array Value) (hw : ∀ d ∈ tables_1, d.before a0 Z = true) (ws : List Jvm.Cond) (G1 : Int32) (HG : own_G l Z a0 G1) (h0 : Heap) (n0 : Nat) (X00 : Old Z n0 h0) (b : Addr) (k : ClassId) (c0 : Int32) (c1 : Int32) (hp0 : Arv Z h0 b k .char (2 : Int32) [(.int c0), (.int c1)] (.int (0 : Int32))) :
    own_CP l Z M91 jdk_52_method_14_code 5 (some (.array .byte)) ws R_tob_2 #[(.ref b), (.int (0 : Int32)), (.int (2 : Int32))] h0 (Q_tob_2 Z G1 b k c0 c1 h0 n0) := by
  refine own_P (plainFor_of_name pn_42) ?_
  intro p e s m below meth c s₁ S0 Bd hZ hh hx hby hml hown hnm X0 e0 hS0d
  obtain ⟨O1, P1, OAD, OHI, OLO⟩ := id HG
  have N0 := Fr.nil n0
  have C0 : Steps p.tables e below S0 (s₁.setTop (mkF m 0 #[.val (.ref b), .val (.int (0 : Int32)), .val (.int (2 : Int32)), .unset, .unset] [])) := by rw [hS0d]; exact castTop (ef_92 m b (0 : Int32) (2 : Int32)) (Steps.refl _)
  obtain ⟨_, _, ⟨T_1, L_1, k_1, n_1⟩, -, X_1, ⟨Lc_1, hQ_1, l_1, y_1, z_1⟩, st_1⟩ := Jvm.LawKit.callS X0 hx (y := M53) hown (mvT hZ (w79 hw)) (mvT hZ (w80 hw)) (mvT hZ (w68 hw)) (mvT hZ (w81 hw)) (by decide) (backOf (W := 0) (rm_nbf_2 l Z a0 hw [] G1 HG h0 n0 X00  ) hZ (w81 hw) (w68 hw) (by decide) (by decide)) (g := (mkF m 1 #[.val (.ref b), .val (.int (0 : Int32)), .val (.int (2 : Int32)), .unset, .unset] [(.int (2 : Int32))])) rfl (by rw [hml]; rfl) (argsL := [(.int (2 : Int32))]) (rest := []) (lenOf pd_95 rfl) rfl (by show 2 * 0 + _ ≤ _; exact Nat.le_of_eq rfl) (hb hby d5_1) (fun _ _ => ⟨rfl, e0, (by decide : 0 + 1 ≤ _), (by decide : 0 + 4 ≤ _)⟩)
  dsimp only [Pt.U, Pt.locs, Pt.cells, Pt.slots] at X_1 l_1 y_1 z_1 st_1 hQ_1
  subst l_1 y_1 z_1
  obtain ⟨a_2, k_3, rfl, N_4, K_5, g_6, g_7⟩ := hQ_1
  have N_8 := Fr.app N0 N_4
  have V_9 : Arv Z T_1.heap b k .char (2 : Int32) [(.int c0), (.int c1)] (.int (0 : Int32)) := (hp0.keep K_5 nin0)
  obtain ⟨c_10, A_11, q_12, S_13, M_14, H_15, U_16⟩ := id V_9
  have hin_17 : ¬ ((0 : Int32) < 0 ∨ c_10.slots.size ≤ (0 : Int32).toNatClampNeg) := inb_of S_13 ⟨(by decide : ¬ ((0 : Int32) < (0 : Int32))), (by decide : (0 : Int32) < (2 : Int32))⟩
  have hat_18 : c_10.slots[(0 : Int32).toNatClampNeg]? = some (.int c0) := Has.at H_15 hin_17 rfl
  have O_19 : Old Z n0 T_1.heap := (X00.keep K_5 all0)
  obtain ⟨_, _, ⟨T_20, L_20, k_20, n_20⟩, -, X_20, ⟨Lc_20, hQ_20, l_20, y_20, z_20⟩, st_20⟩ := Jvm.LawKit.callS X_1 hx (y := M64) hown (mvT hZ (w86 hw)) (mvT hZ (w87 hw)) (mvT hZ (w68 hw)) (mvT hZ (w88 hw)) (by decide) (backOf (W := 0) (rm_put_2_0 l Z a0 hw [] G1 HG T_1.heap n0 O_19 a_2 k_3 c0 (0 : Int32) (0 : Int32) (0 : Int32) (0 : Int32) g_7 (Nat.le_trans (own_n0 X00) g_6)) hZ (w88 hw) (w68 hw) (by decide) (by decide)) (g := (mkF m 20 #[.val (.ref b), .val (.int (0 : Int32)), .val (.int (2 : Int32)), .val (.ref a_2), .val (.int (0 : Int32))] [(.int c0), (.int (0 : Int32)), (.ref a_2)])) rfl (by rw [hml]; rfl) (argsL := [(.ref a_2), (.int (0 : Int32)), (.int c0)]) (rest := []) (lenOf pd_111 rfl) rfl (by show 2 * 0 + _ ≤ _; exact Nat.le_of_eq rfl) (hb hby d5_20) (fun _ _ => ⟨rfl, rfl, (by decide : 1 + 0 ≤ _), (by decide : 4 + 0 ≤ _)⟩)
  dsimp only [Pt.U, Pt.locs, Pt.cells, Pt.slots] at X_20 l_20 y_20 z_20 st_20 hQ_20
  subst l_20 y_20 z_20
  obtain ⟨rfl, N_21, K_22, g_23⟩ := hQ_20
  have N_24 := Fr.app N_8 N_21
  have V_25 : Arv Z T_20.heap b k .char (2 : Int32) [(.int c0), (.int c1)] (.int (0 : Int32)) := (V_9.keep K_22 (ninS (Nat.ne_of_lt (Nat.lt_of_lt_of_le hp0.lt (Nat.le_trans (Nat.le_refl _) g_6))) nin0))
  obtain ⟨c_26, A_27, q_28, S_29, M_30, H_31, U_32⟩ := id V_25
  have hin_33 : ¬ ((1 : Int32) < 0 ∨ c_26.slots.size ≤ (1 : Int32).toNatClampNeg) := inb_of S_29 ⟨(by decide : ¬ ((1 : Int32) < (0 : Int32))), (by decide : (1 : Int32) < (2 : Int32))⟩
  have hat_34 : c_26.slots[(1 : Int32).toNatClampNeg]? = some (.int c1) := Has.at H_31 hin_33 rfl
  have O_35 : Old Z n0 T_20.heap := (O_19.keep K_22 (allS (Nat.le_trans (own_n0 X00) g_6) all0))
  obtain ⟨_, _, ⟨T_36, L_36, k_36, n_36⟩, -, X_36, ⟨Lc_36, hQ_36, l_36, y_36, z_36⟩, st_36⟩ := Jvm.LawKit.callS X_20 hx (y := M64) hown (mvT hZ (w86 hw)) (mvT hZ (w87 hw)) (mvT hZ (w68 hw)) (mvT hZ (w88 hw)) (by decide) (backOf (W := 0) (rm_put_2_1 l Z a0 hw [] G1 HG T_20.heap n0 O_35 a_2 k_3 c1 (own_lo8z c0) (own_hi8 c0) (0 : Int32) (0 : Int32) g_23 (Nat.le_trans (own_n0 X00) g_6)) hZ (w88 hw) (w68 hw) (by decide) (by decide)) (g := (mkF m 20 #[.val (.ref b), .val (.int (1 : Int32)), .val (.int (2 : Int32)), .val (.ref a_2), .val (.int (1 : Int32))] [(.int c1), (.int (1 : Int32)), (.ref a_2)])) rfl (by rw [hml]; rfl) (argsL := [(.ref a_2), (.int (1 : Int32)), (.int c1)]) (rest := []) (lenOf pd_111 rfl) rfl (by show 2 * 0 + _ ≤ _; exact Nat.le_of_eq rfl) (hb hby d5_20) (fun _ _ => ⟨rfl, rfl, (by decide : 1 + 0 ≤ _), (by decide : 4 + 0 ≤ _)⟩)
  dsimp only [Pt.U, Pt.locs, Pt.cells, Pt.slots] at X_36 l_36 y_36 z_36 st_36 hQ_36
  subst l_36 y_36 z_36
  obtain ⟨rfl, N_37, K_38, g_39⟩ := hQ_36
  have N_40 := Fr.app N_24 N_37
  have C_41 : Steps p.tables e below S0 (T_36.setTop (mkF m 33 #[.val (.ref b), .val (.int (2 : Int32)), .val (.int (2 : Int32)), .val (.ref a_2), .val (.int (2 : Int32))] [(.ref a_2)])) := by
    refine C0.trans ?_
    refine XS.iloadN X0.here hx rfl (hb hby d5_0) rfl ?_
    refine st_1 _ ?_
    refine XS.astoreN X_1.here hx rfl (hb hby d5_4) rfl rfl (l' := #[.val (.ref b), .val (.int (0 : Int32)), .val (.int (2 : Int32)), .val (.ref a_2), .unset]) rfl ?_
    refine XS.iconst X_1.here hx rfl (hb hby d5_5) ?_
    refine XS.istore X_1.here hx rfl (hb hby d5_6) rfl (l' := #[.val (.ref b), .val (.int (0 : Int32)), .val (.int (2 : Int32)), .val (.ref a_2), .val (.int (0 : Int32))]) rfl ?_
    refine XS.iload X_1.here hx rfl (hb hby d5_8) rfl ?_
    refine XS.iloadN X_1.here hx rfl (hb hby d5_10) rfl ?_
    refine XS.icmpNo X_1.here hx rfl (hb hby d5_11) rfl (by decide) ?_
    show Steps p.tables e below (T_1.setTop (mkF m 14 #[.val (.ref b), .val (.int (0 : Int32)), .val (.int (2 : Int32)), .val (.ref a_2), .val (.int (0 : Int32))] [])) _
    refine XS.aloadN X_1.here hx rfl (hb hby d5_14) rfl rfl ?_
    refine XS.iload X_1.here hx rfl (hb hby d5_15) rfl ?_
    refine XS.aloadN X_1.here hx rfl (hb hby d5_17) rfl rfl ?_
    refine XS.iloadN X_1.here hx rfl (hb hby d5_18) rfl ?_
    refine X_1.caload hx (j := (0 : Int32)) (v := (.int c0)) (A_11.1) (State.isArrayOf_alike hZ.alike A_11.2.1) A_11.2.2 hin_17 hat_18 (g := (mkF m 19 #[.val (.ref b), .val (.int (0 : Int32)), .val (.int (2 : Int32)), .val (.ref a_2), .val (.int (0 : Int32))] [(.int (0 : Int32)), (.ref b), (.int (0 : Int32)), (.ref a_2)])) rfl rfl (hb hby d5_19) _ ?_
    refine st_20 _ ?_
    refine XS.iinc X_20.here hx rfl (hb hby d5_23) (x := (0 : Int32)) rfl (l' := #[.val (.ref b), .val (.int (1 : Int32)), .val (.int (2 : Int32)), .val (.ref a_2), .val (.int (0 : Int32))]) rfl ?_
    refine XS.iinc X_20.here hx rfl (hb hby d5_26) (x := (0 : Int32)) rfl (l' := #[.val (.ref b), .val (.int (1 : Int32)), .val (.int (2 : Int32)), .val (.ref a_2), .val (.int (1 : Int32))]) rfl ?_
    show Steps p.tables e below (T_20.setTop (mkF m 29 #[.val (.ref b), .val (.int (1 : Int32)), .val (.int (2 : Int32)), .val (.ref a_2), .val (.int (1 : Int32))] [])) _
    refine XS.goto X_20.here hx rfl (pc0 := 29) (pc' := 8) rfl (hb hby d5_29) (by decide) (by decide) ?_
    refine XS.iload X_20.here hx rfl (hb hby d5_8) rfl ?_
    refine XS.iloadN X_20.here hx rfl (hb hby d5_10) rfl ?_
    refine XS.icmpNo X_20.here hx rfl (hb hby d5_11) rfl (by decide) ?_
    refine XS.aloadN X_20.here hx rfl (hb hby d5_14) rfl rfl ?_
    refine XS.iload X_20.here hx rfl (hb hby d5_15) rfl ?_
    refine XS.aloadN X_20.here hx rfl (hb hby d5_17) rfl rfl ?_
    refine XS.iloadN X_20.here hx rfl (hb hby d5_18) rfl ?_
    show Steps p.tables e below (T_20.setTop (mkF m 19 #[.val (.ref b), .val (.int (1 : Int32)), .val (.int (2 : Int32)), .val (.ref a_2), .val (.int (1 : Int32))] [(.int (1 : Int32)), (.ref b), (.int (1 : Int32)), (.ref a_2)])) _
    refine X_20.caload hx (j := (1 : Int32)) (v := (.int c1)) (A_27.1) (State.isArrayOf_alike hZ.alike A_27.2.1) A_27.2.2 hin_33 hat_34 (g := (mkF m 19 #[.val (.ref b), .val (.int (1 : Int32)), .val (.int (2 : Int32)), .val (.ref a_2), .val (.int (1 : Int32))] [(.int (1 : Int32)), (.ref b), (.int (1 : Int32)), (.ref a_2)])) rfl rfl (hb hby d5_19) _ ?_
    refine st_36 _ ?_
    refine XS.iinc X_36.here hx rfl (hb hby d5_23) (x := (1 : Int32)) rfl (l' := #[.val (.ref b), .val (.int (2 : Int32)), .val (.int (2 : Int32)), .val (.ref a_2), .val (.int (1 : Int32))]) rfl ?_
    refine XS.iinc X_36.here hx rfl (hb hby d5_26) (x := (1 : Int32)) rfl (l' := #[.val (.ref b), .val (.int (2 : Int32)), .val (.int (2 : Int32)), .val (.ref a_2), .val (.int (2 : Int32))]) rfl ?_
    refine XS.goto X_36.here hx rfl (pc0 := 29) (pc' := 8) rfl (hb hby d5_29) (by decide) (by decide) ?_
    refine XS.iload X_36.here hx rfl (hb hby d5_8) rfl ?_
    refine XS.iloadN X_36.here hx rfl (hb hby d5_10) rfl ?_
    refine XS.icmpYes X_36.here hx rfl (pc0 := 11) (pc' := 32) rfl (hb hby d5_11) rfl (by decide) (by decide) (by decide) ?_
    show Steps p.tables e below (T_36.setTop (mkF m 32 #[.val (.ref b), .val (.int (2 : Int32)), .val (.int (2 : Int32)), .val (.ref a_2), .val (.int (2 : Int32))] [])) _
    refine XS.aloadN X_36.here hx rfl (hb hby d5_32) rfl rfl ?_
    exact Steps.refl _
  have K_42 : Keep h0 T_36.heap [] := ((((Keep.refl _ _).trans K_5 all0).trans K_22 (allS (Or.inr (Nat.le_trans (Nat.le_refl _) g_6)) all0)).trans K_38 (allS (Or.inr (Nat.le_trans (Nat.le_refl _) g_6)) all0))
  obtain ⟨fs, hr, hrun, hended, hW, hsame⟩ := X_36.leave (v := some (.ref a_2)) (fun h => by rw [Bd.returns] at h; cases h)
  refine ⟨_, _, C_41.trans (retOut X_36 hx Bd.returns rfl (Or.inr (Or.inr (Or.inr (Or.inr ⟨rfl, rfl, rfl⟩)))) (hb hby d5_33) hr), hrun, hended, _, _, rfl, ?_, ⟨_, rfl⟩, hW, hsame.mono (by decide) (by decide)⟩
  show Q_tob_2 Z G1 b k c0 c1 h0 n0 (some (.ref a_2)) T_36.heap _
  exact ⟨a_2, k_3, rfl, N_40, K_42, (Nat.le_trans (Nat.le_refl _) g_6), g_39⟩
abbrev M120 : MethodName := ⟨"java/lang/StringUTF16", "getChar", "([BI)C"⟩
theorem ef_121 (m : MethodId) (x0 : Addr) (x1 : Int32) : entryFrame m #[(.ref x0), (.int x1)] 2 = mkF m 0 #[.val (.ref x0), .val (.int x1)] [] := by first | (simp [entryFrame, mkF, argsToLocals, Value.category]; done) | rfl
theorem d6_0 : decode jdk_52_method_5_code 0 = .ok (.getstatic 44, 3) := by decide +kernel
theorem d6_3 : decode jdk_52_method_5_code 3 = .ok (.ifCond .ne 25, 3) := by decide +kernel
theorem d6_28 : decode jdk_52_method_5_code 28 = .ok (.iload_n 1, 1) := by decide +kernel
theorem d6_29 : decode jdk_52_method_5_code 29 = .ok (.iconst 1, 1) := by decide +kernel
theorem d6_30 : decode jdk_52_method_5_code 30 = .ok (.ishl, 1) := by decide +kernel
theorem d6_31 : decode jdk_52_method_5_code 31 = .ok (.istore_n 1, 1) := by decide +kernel
theorem d6_32 : decode jdk_52_method_5_code 32 = .ok (.aload_n 0, 1) := by decide +kernel
theorem d6_33 : decode jdk_52_method_5_code 33 = .ok (.iload_n 1, 1) := by decide +kernel
theorem d6_34 : decode jdk_52_method_5_code 34 = .ok (.iinc 1 1, 3) := by decide +kernel
theorem d6_37 : decode jdk_52_method_5_code 37 = .ok (.baload, 1) := by decide +kernel
theorem d6_38 : decode jdk_52_method_5_code 38 = .ok (.sipush 255, 3) := by decide +kernel
theorem d6_41 : decode jdk_52_method_5_code 41 = .ok (.iand, 1) := by decide +kernel
theorem d6_42 : decode jdk_52_method_5_code 42 = .ok (.getstatic 59, 3) := by decide +kernel
theorem d6_45 : decode jdk_52_method_5_code 45 = .ok (.ishl, 1) := by decide +kernel
theorem d6_46 : decode jdk_52_method_5_code 46 = .ok (.aload_n 0, 1) := by decide +kernel
theorem d6_47 : decode jdk_52_method_5_code 47 = .ok (.iload_n 1, 1) := by decide +kernel
theorem d6_48 : decode jdk_52_method_5_code 48 = .ok (.baload, 1) := by decide +kernel
theorem d6_49 : decode jdk_52_method_5_code 49 = .ok (.sipush 255, 3) := by decide +kernel
theorem d6_52 : decode jdk_52_method_5_code 52 = .ok (.iand, 1) := by decide +kernel
theorem d6_53 : decode jdk_52_method_5_code 53 = .ok (.getstatic 63, 3) := by decide +kernel
theorem d6_56 : decode jdk_52_method_5_code 56 = .ok (.ishl, 1) := by decide +kernel
theorem d6_57 : decode jdk_52_method_5_code 57 = .ok (.ior, 1) := by decide +kernel
theorem d6_58 : decode jdk_52_method_5_code 58 = .ok (.i2c, 1) := by decide +kernel
theorem d6_59 : decode jdk_52_method_5_code 59 = .ok (.ireturn, 1) := by decide +kernel
abbrev R_get_2_0 : Room := { frames := 0, cells := 0, slots := 0, locals := 0 }
def Q_get_2_0 (Z : State) (G1 : Int32) (t : Addr) (kt : ClassId) (y0 : Int32) (y1 : Int32) (y2 : Int32) (y3 : Int32) (h0 : Heap) (n0 : Nat) (v : Option Value) (h : Heap) (L : List Loc) : Prop := (v = some (.int (own_pair y0 y1)) ∧ Fr n0 L ∧ h = h0)
set_option maxRecDepth 65536 in
set_option maxHeartbeats 40000000 in
theorem rm_get_2_0 (l : Launch) (Z : State) (a0 : Array Value) (hw : ∀ d ∈ tables_1, d.before a0 Z = true) (ws : List Jvm.Cond) (G1 : Int32) (HG : own_G l Z a0 G1) (h0 : Heap) (n0 : Nat) (X00 : Old Z n0 h0) (t : Addr) (kt : ClassId) (y0 : Int32) (y1 : Int32) (y2 : Int32) (y3 : Int32) (hp0 : Arv Z h0 t kt .byte (4 : Int32) [(.int y0), (.int y1), (.int y2), (.int y3)] (.int (0 : Int32))) :
    own_CP l Z M120 jdk_52_method_5_code 2 (some .char) ws R_get_2_0 #[(.ref t), (.int (0 : Int32))] h0 (Q_get_2_0 Z G1 t kt y0 y1 y2 y3 h0 n0) := by
  refine own_P (plainFor_of_name pn_42) ?_
  intro p e s m below meth c s₁ S0 Bd hZ hh hx hby hml hown hnm X0 e0 hS0d
  obtain ⟨O1, P1, OAD, OHI, OLO⟩ := id HG
  have N0 := Fr.nil n0
  have C0 : Steps p.tables e below S0 (s₁.setTop (mkF m 0 #[.val (.ref t), .val (.int (0 : Int32))] [])) := by rw [hS0d]; exact castTop (ef_121 m t (0 : Int32)) (Steps.refl _)
  obtain ⟨T_1, X_2, e_3, st_4⟩ := getS X0 hx hZ (host := "") hown (w89 hw) Via.refl e0 (OAD.ext X00.2) (g := (mkF m 0 #[.val (.ref t), .val (.int (0 : Int32))] [])) rfl (hb hby d6_0)
  obtain ⟨c_5, A_6, q_7, S_8, M_9, H_10, U_11⟩ := id hp0
  have hin_12 : ¬ ((0 : Int32) < 0 ∨ c_5.slots.size ≤ (0 : Int32).toNatClampNeg) := inb_of S_8 ⟨(by decide : ¬ ((0 : Int32) < (0 : Int32))), (by decide : (0 : Int32) < (4 : Int32))⟩
  have hat_13 : c_5.slots[(0 : Int32).toNatClampNeg]? = some (.int y0) := Has.at H_10 hin_12 rfl
  obtain ⟨T_14, X_15, e_16, st_17⟩ := getS X_2 hx hZ (host := "") hown (w90 hw) Via.refl e_3 (OHI.ext X00.2) (g := (mkF m 42 #[.val (.ref t), .val (.int (1 : Int32))] [(.int (y0 &&& (255 : Int32)))])) rfl (hb hby d6_42)
  obtain ⟨c_18, A_19, q_20, S_21, M_22, H_23, U_24⟩ := id hp0
  have hin_25 : ¬ ((1 : Int32) < 0 ∨ c_18.slots.size ≤ (1 : Int32).toNatClampNeg) := inb_of S_21 ⟨(by decide : ¬ ((1 : Int32) < (0 : Int32))), (by decide : (1 : Int32) < (4 : Int32))⟩
  have hat_26 : c_18.slots[(1 : Int32).toNatClampNeg]? = some (.int y1) := Has.at H_23 hin_25 rfl
  obtain ⟨T_27, X_28, e_29, st_30⟩ := getS X_15 hx hZ (host := "") hown (w91 hw) Via.refl e_16 (OLO.ext X00.2) (g := (mkF m 53 #[.val (.ref t), .val (.int (1 : Int32))] [(.int (y1 &&& (255 : Int32))), (.int ((y0 &&& (255 : Int32)) <<< ((0 : Int32) &&& 31)))])) rfl (hb hby d6_53)
  have C_31 : Steps p.tables e below S0 (T_27.setTop (mkF m 59 #[.val (.ref t), .val (.int (1 : Int32))] [(.int ((((y0 &&& (255 : Int32)) <<< ((0 : Int32) &&& 31)) ||| ((y1 &&& (255 : Int32)) <<< ((8 : Int32) &&& 31))).toUInt32.toUInt16.toUInt32.toInt32))])) := by
    refine C0.trans ?_
    refine st_4 _ ?_
    refine XS.ifYes X_2.here hx rfl (pc0 := 3) (pc' := 28) rfl (hb hby d6_3) rfl (by decide) (by decide) (by decide) ?_
    refine XS.iloadN X_2.here hx rfl (hb hby d6_28) rfl ?_
    refine XS.iconst X_2.here hx rfl (hb hby d6_29) ?_
    refine XS.ishl X_2.here hx rfl (hb hby d6_30) rfl ?_
    refine XS.istoreN X_2.here hx rfl (hb hby d6_31) rfl (l' := #[.val (.ref t), .val (.int (0 : Int32))]) rfl ?_
    refine XS.aloadN X_2.here hx rfl (hb hby d6_32) rfl rfl ?_
    refine XS.iloadN X_2.here hx rfl (hb hby d6_33) rfl ?_
    show Steps p.tables e below (T_1.setTop (mkF m 34 #[.val (.ref t), .val (.int (0 : Int32))] [(.int (0 : Int32)), (.ref t)])) _
    refine XS.iinc X_2.here hx rfl (hb hby d6_34) (x := (0 : Int32)) rfl (l' := #[.val (.ref t), .val (.int (1 : Int32))]) rfl ?_
    refine X_2.baloadBytes hx (j := (0 : Int32)) (v := (.int y0)) (by rw [e_3]; exact A_6.1) (State.isArrayOf_alike hZ.alike A_6.2.1) A_6.2.2 hin_12 hat_13 (g := (mkF m 37 #[.val (.ref t), .val (.int (1 : Int32))] [(.int (0 : Int32)), (.ref t)])) rfl rfl (hb hby d6_37) _ ?_
    refine XS.sipush X_2.here hx rfl (hb hby d6_38) ?_
    refine XS.iand X_2.here hx rfl (hb hby d6_41) rfl ?_
    refine st_17 _ ?_
    refine XS.ishl X_15.here hx rfl (hb hby d6_45) rfl ?_
    refine XS.aloadN X_15.here hx rfl (hb hby d6_46) rfl rfl ?_
    refine XS.iloadN X_15.here hx rfl (hb hby d6_47) rfl ?_
    show Steps p.tables e below (T_14.setTop (mkF m 48 #[.val (.ref t), .val (.int (1 : Int32))] [(.int (1 : Int32)), (.ref t), (.int ((y0 &&& (255 : Int32)) <<< ((0 : Int32) &&& 31)))])) _
    refine X_15.baloadBytes hx (j := (1 : Int32)) (v := (.int y1)) (by rw [e_16]; exact A_19.1) (State.isArrayOf_alike hZ.alike A_19.2.1) A_19.2.2 hin_25 hat_26 (g := (mkF m 48 #[.val (.ref t), .val (.int (1 : Int32))] [(.int (1 : Int32)), (.ref t), (.int ((y0 &&& (255 : Int32)) <<< ((0 : Int32) &&& 31)))])) rfl rfl (hb hby d6_48) _ ?_
    refine XS.sipush X_15.here hx rfl (hb hby d6_49) ?_
    refine XS.iand X_15.here hx rfl (hb hby d6_52) rfl ?_
    refine st_30 _ ?_
    refine XS.ishl X_28.here hx rfl (hb hby d6_56) rfl ?_
    refine XS.ior X_28.here hx rfl (hb hby d6_57) rfl ?_
    refine XS.i2c X_28.here hx rfl (hb hby d6_58) rfl ?_
    exact Steps.refl _
  obtain ⟨fs, hr, hrun, hended, hW, hsame⟩ := X_28.leave (v := some (.int (own_pair y0 y1))) (fun h => by rw [Bd.returns] at h; cases h)
  refine ⟨_, _, C_31.trans (retN X_28 hx (t := .char) Bd.returns (by simp) (hb hby d6_59) hr), hrun, hended, _, _, rfl, ?_, ⟨_, rfl⟩, hW, hsame.mono (by decide) (by decide)⟩
  show Q_get_2_0 Z G1 t kt y0 y1 y2 y3 h0 n0 (some (.int (own_pair y0 y1))) T_27.heap _
  rw [e_29]
  exact ⟨rfl, N0, rfl⟩
abbrev R_get_2_1 : Room := { frames := 0, cells := 0, slots := 0, locals := 0 }
def Q_get_2_1 (Z : State) (G1 : Int32) (t : Addr) (kt : ClassId) (y0 : Int32) (y1 : Int32) (y2 : Int32) (y3 : Int32) (h0 : Heap) (n0 : Nat) (v : Option Value) (h : Heap) (L : List Loc) : Prop := (v = some (.int (own_pair y2 y3)) ∧ Fr n0 L ∧ h = h0)
set_option maxRecDepth 65536 in
set_option maxHeartbeats 40000000 in
theorem rm_get_2_1 (l : Launch) (Z : State) (a0 : Array Value) (hw : ∀ d ∈ tables_1, d.before a0 Z = true) (ws : List Jvm.Cond) (G1 : Int32) (HG : own_G l Z a0 G1) (h0 : Heap) (n0 : Nat) (X00 : Old Z n0 h0) (t : Addr) (kt : ClassId) (y0 : Int32) (y1 : Int32) (y2 : Int32) (y3 : Int32) (hp0 : Arv Z h0 t kt .byte (4 : Int32) [(.int y0), (.int y1), (.int y2), (.int y3)] (.int (0 : Int32))) :
    own_CP l Z M120 jdk_52_method_5_code 2 (some .char) ws R_get_2_1 #[(.ref t), (.int (1 : Int32))] h0 (Q_get_2_1 Z G1 t kt y0 y1 y2 y3 h0 n0) := by
  refine own_P (plainFor_of_name pn_42) ?_
  intro p e s m below meth c s₁ S0 Bd hZ hh hx hby hml hown hnm X0 e0 hS0d
  obtain ⟨O1, P1, OAD, OHI, OLO⟩ := id HG
  have N0 := Fr.nil n0
  have C0 : Steps p.tables e below S0 (s₁.setTop (mkF m 0 #[.val (.ref t), .val (.int (1 : Int32))] [])) := by rw [hS0d]; exact castTop (ef_121 m t (1 : Int32)) (Steps.refl _)
  obtain ⟨T_1, X_2, e_3, st_4⟩ := getS X0 hx hZ (host := "") hown (w89 hw) Via.refl e0 (OAD.ext X00.2) (g := (mkF m 0 #[.val (.ref t), .val (.int (1 : Int32))] [])) rfl (hb hby d6_0)
  obtain ⟨c_5, A_6, q_7, S_8, M_9, H_10, U_11⟩ := id hp0
  have hin_12 : ¬ ((2 : Int32) < 0 ∨ c_5.slots.size ≤ (2 : Int32).toNatClampNeg) := inb_of S_8 ⟨(by decide : ¬ ((2 : Int32) < (0 : Int32))), (by decide : (2 : Int32) < (4 : Int32))⟩
  have hat_13 : c_5.slots[(2 : Int32).toNatClampNeg]? = some (.int y2) := Has.at H_10 hin_12 rfl
  obtain ⟨T_14, X_15, e_16, st_17⟩ := getS X_2 hx hZ (host := "") hown (w90 hw) Via.refl e_3 (OHI.ext X00.2) (g := (mkF m 42 #[.val (.ref t), .val (.int (3 : Int32))] [(.int (y2 &&& (255 : Int32)))])) rfl (hb hby d6_42)
  obtain ⟨c_18, A_19, q_20, S_21, M_22, H_23, U_24⟩ := id hp0
  have hin_25 : ¬ ((3 : Int32) < 0 ∨ c_18.slots.size ≤ (3 : Int32).toNatClampNeg) := inb_of S_21 ⟨(by decide : ¬ ((3 : Int32) < (0 : Int32))), (by decide : (3 : Int32) < (4 : Int32))⟩
  have hat_26 : c_18.slots[(3 : Int32).toNatClampNeg]? = some (.int y3) := Has.at H_23 hin_25 rfl
  obtain ⟨T_27, X_28, e_29, st_30⟩ := getS X_15 hx hZ (host := "") hown (w91 hw) Via.refl e_16 (OLO.ext X00.2) (g := (mkF m 53 #[.val (.ref t), .val (.int (3 : Int32))] [(.int (y3 &&& (255 : Int32))), (.int ((y2 &&& (255 : Int32)) <<< ((0 : Int32) &&& 31)))])) rfl (hb hby d6_53)
  have C_31 : Steps p.tables e below S0 (T_27.setTop (mkF m 59 #[.val (.ref t), .val (.int (3 : Int32))] [(.int ((((y2 &&& (255 : Int32)) <<< ((0 : Int32) &&& 31)) ||| ((y3 &&& (255 : Int32)) <<< ((8 : Int32) &&& 31))).toUInt32.toUInt16.toUInt32.toInt32))])) := by
    refine C0.trans ?_
    refine st_4 _ ?_
    refine XS.ifYes X_2.here hx rfl (pc0 := 3) (pc' := 28) rfl (hb hby d6_3) rfl (by decide) (by decide) (by decide) ?_
    refine XS.iloadN X_2.here hx rfl (hb hby d6_28) rfl ?_
    refine XS.iconst X_2.here hx rfl (hb hby d6_29) ?_
    refine XS.ishl X_2.here hx rfl (hb hby d6_30) rfl ?_
    refine XS.istoreN X_2.here hx rfl (hb hby d6_31) rfl (l' := #[.val (.ref t), .val (.int (2 : Int32))]) rfl ?_
    refine XS.aloadN X_2.here hx rfl (hb hby d6_32) rfl rfl ?_
    refine XS.iloadN X_2.here hx rfl (hb hby d6_33) rfl ?_
    show Steps p.tables e below (T_1.setTop (mkF m 34 #[.val (.ref t), .val (.int (2 : Int32))] [(.int (2 : Int32)), (.ref t)])) _
    refine XS.iinc X_2.here hx rfl (hb hby d6_34) (x := (2 : Int32)) rfl (l' := #[.val (.ref t), .val (.int (3 : Int32))]) rfl ?_
    refine X_2.baloadBytes hx (j := (2 : Int32)) (v := (.int y2)) (by rw [e_3]; exact A_6.1) (State.isArrayOf_alike hZ.alike A_6.2.1) A_6.2.2 hin_12 hat_13 (g := (mkF m 37 #[.val (.ref t), .val (.int (3 : Int32))] [(.int (2 : Int32)), (.ref t)])) rfl rfl (hb hby d6_37) _ ?_
    refine XS.sipush X_2.here hx rfl (hb hby d6_38) ?_
    refine XS.iand X_2.here hx rfl (hb hby d6_41) rfl ?_
    refine st_17 _ ?_
    refine XS.ishl X_15.here hx rfl (hb hby d6_45) rfl ?_
    refine XS.aloadN X_15.here hx rfl (hb hby d6_46) rfl rfl ?_
    refine XS.iloadN X_15.here hx rfl (hb hby d6_47) rfl ?_
    show Steps p.tables e below (T_14.setTop (mkF m 48 #[.val (.ref t), .val (.int (3 : Int32))] [(.int (3 : Int32)), (.ref t), (.int ((y2 &&& (255 : Int32)) <<< ((0 : Int32) &&& 31)))])) _
    refine X_15.baloadBytes hx (j := (3 : Int32)) (v := (.int y3)) (by rw [e_16]; exact A_19.1) (State.isArrayOf_alike hZ.alike A_19.2.1) A_19.2.2 hin_25 hat_26 (g := (mkF m 48 #[.val (.ref t), .val (.int (3 : Int32))] [(.int (3 : Int32)), (.ref t), (.int ((y2 &&& (255 : Int32)) <<< ((0 : Int32) &&& 31)))])) rfl rfl (hb hby d6_48) _ ?_
    refine XS.sipush X_15.here hx rfl (hb hby d6_49) ?_
    refine XS.iand X_15.here hx rfl (hb hby d6_52) rfl ?_
    refine st_30 _ ?_
    refine XS.ishl X_28.here hx rfl (hb hby d6_56) rfl ?_
    refine XS.ior X_28.here hx rfl (hb hby d6_57) rfl ?_
    refine XS.i2c X_28.here hx rfl (hb hby d6_58) rfl ?_
    exact Steps.refl _
  obtain ⟨fs, hr, hrun, hended, hW, hsame⟩ := X_28.leave (v := some (.int (own_pair y2 y3))) (fun h => by rw [Bd.returns] at h; cases h)
  refine ⟨_, _, C_31.trans (retN X_28 hx (t := .char) Bd.returns (by simp) (hb hby d6_59) hr), hrun, hended, _, _, rfl, ?_, ⟨_, rfl⟩, hW, hsame.mono (by decide) (by decide)⟩
  show Q_get_2_1 Z G1 t kt y0 y1 y2 y3 h0 n0 (some (.int (own_pair y2 y3))) T_27.heap _
  rw [e_29]
  exact ⟨rfl, N0, rfl⟩
abbrev M146 : MethodName := ⟨"java/lang/StringUTF16", "compress", "([CI[BII)I"⟩
theorem ef_147 (m : MethodId) (x0 : Addr) (x1 : Int32) (x2 : Addr) (x3 : Int32) (x4 : Int32) : entryFrame m #[(.ref x0), (.int x1), (.ref x2), (.int x3), (.int x4)] 7 = mkF m 0 #[.val (.ref x0), .val (.int x1), .val (.ref x2), .val (.int x3), .val (.int x4), .unset, .unset] [] := by first | (simp [entryFrame, mkF, argsToLocals, Value.category]; done) | rfl
theorem d7_0 : decode jdk_52_method_21_code 0 = .ok (.iconst 0, 1) := by decide +kernel
theorem d7_1 : decode jdk_52_method_21_code 1 = .ok (.istore 5, 2) := by decide +kernel
theorem d7_3 : decode jdk_52_method_21_code 3 = .ok (.iload 5, 2) := by decide +kernel
theorem d7_5 : decode jdk_52_method_21_code 5 = .ok (.iload 4, 2) := by decide +kernel
theorem d7_7 : decode jdk_52_method_21_code 7 = .ok (.if_icmp .ge 37, 3) := by decide +kernel
theorem d7_10 : decode jdk_52_method_21_code 10 = .ok (.aload_n 0, 1) := by decide +kernel
theorem d7_11 : decode jdk_52_method_21_code 11 = .ok (.iload_n 1, 1) := by decide +kernel
theorem d7_12 : decode jdk_52_method_21_code 12 = .ok (.caload, 1) := by decide +kernel
theorem d7_13 : decode jdk_52_method_21_code 13 = .ok (.istore 6, 2) := by decide +kernel
theorem d7_15 : decode jdk_52_method_21_code 15 = .ok (.iload 6, 2) := by decide +kernel
theorem d7_17 : decode jdk_52_method_21_code 17 = .ok (.sipush 255, 3) := by decide +kernel
theorem d7_20 : decode jdk_52_method_21_code 20 = .ok (.if_icmp .le 6, 3) := by decide +kernel
theorem d7_23 : decode jdk_52_method_21_code 23 = .ok (.iload 5, 2) := by decide +kernel
theorem d7_25 : decode jdk_52_method_21_code 25 = .ok (.ireturn, 1) := by decide +kernel
theorem d7_26 : decode jdk_52_method_21_code 26 = .ok (.aload_n 2, 1) := by decide +kernel
theorem d7_27 : decode jdk_52_method_21_code 27 = .ok (.iload_n 3, 1) := by decide +kernel
theorem d7_28 : decode jdk_52_method_21_code 28 = .ok (.iload 6, 2) := by decide +kernel
theorem d7_30 : decode jdk_52_method_21_code 30 = .ok (.i2b, 1) := by decide +kernel
theorem d7_31 : decode jdk_52_method_21_code 31 = .ok (.bastore, 1) := by decide +kernel
theorem d7_32 : decode jdk_52_method_21_code 32 = .ok (.iinc 1 1, 3) := by decide +kernel
theorem d7_35 : decode jdk_52_method_21_code 35 = .ok (.iinc 3 1, 3) := by decide +kernel
theorem d7_38 : decode jdk_52_method_21_code 38 = .ok (.iinc 5 1, 3) := by decide +kernel
theorem d7_41 : decode jdk_52_method_21_code 41 = .ok (.goto (-38), 3) := by decide +kernel
theorem d7_44 : decode jdk_52_method_21_code 44 = .ok (.iload 4, 2) := by decide +kernel
theorem d7_46 : decode jdk_52_method_21_code 46 = .ok (.ireturn, 1) := by decide +kernel
abbrev R_cmp5u_2 : Room := { frames := 0, cells := 0, slots := 0, locals := 0 }
def Q_cmp5u_2 (Z : State) (G1 : Int32) (b : Addr) (k : ClassId) (t : Addr) (kt : ClassId) (c0 : Int32) (c1 : Int32) (h0 : Heap) (n0 : Nat) (v : Option Value) (h : Heap) (L : List Loc) : Prop := (v = some (.int (0 : Int32)) ∧ Fr n0 L ∧ Keep h0 h [t] ∧ ((255 : Int32) < c0)) ∨ (v = some (.int (1 : Int32)) ∧ Fr n0 L ∧ Keep h0 h [t] ∧ ((255 : Int32) < c1)) ∨ (v = some (.int (2 : Int32)) ∧ Fr n0 L ∧ Keep h0 h [t] ∧ (Arv Z h t kt .byte (2 : Int32) [(.int (own_lo8 c0)), (.int (own_lo8 c1))] (.int (0 : Int32))) ∧ (¬ ((255 : Int32) < c0)) ∧ (¬ ((255 : Int32) < c1)))
set_option maxRecDepth 65536 in
set_option maxHeartbeats 40000000 in
theorem rm_cmp5u_2 (l : Launch) (Z : State) (a0 : Array Value) (hw : ∀ d ∈ tables_1, d.before a0 Z = true) (ws : List Jvm.Cond) (G1 : Int32) (HG : own_G l Z a0 G1) (h0 : Heap) (n0 : Nat) (X00 : Old Z n0 h0) (b : Addr) (k : ClassId) (t : Addr) (kt : ClassId) (c0 : Int32) (c1 : Int32) (hp0 : Arv Z h0 b k .char (2 : Int32) [(.int c0), (.int c1)] (.int (0 : Int32))) (hp1 : Arv Z h0 t kt .byte (2 : Int32) [(.int (0 : Int32)), (.int (0 : Int32))] (.int (0 : Int32))) (hp2 : n0 ≤ t) (hp3 : b ≠ t) :
    own_CP l Z M146 jdk_52_method_21_code 7 (some .int) ws R_cmp5u_2 #[(.ref b), (.int (0 : Int32)), (.ref t), (.int (0 : Int32)), (.int (2 : Int32))] h0 (Q_cmp5u_2 Z G1 b k t kt c0 c1 h0 n0) := by
  refine own_P (plainFor_of_name pn_42) ?_
  intro p e s m below meth c s₁ S0 Bd hZ hh hx hby hml hown hnm X0 e0 hS0d
  obtain ⟨O1, P1, OAD, OHI, OLO⟩ := id HG
  have N0 := Fr.nil n0
  have C0 : Steps p.tables e below S0 (s₁.setTop (mkF m 0 #[.val (.ref b), .val (.int (0 : Int32)), .val (.ref t), .val (.int (0 : Int32)), .val (.int (2 : Int32)), .unset, .unset] [])) := by rw [hS0d]; exact castTop (ef_147 m b (0 : Int32) t (0 : Int32) (2 : Int32)) (Steps.refl _)
  obtain ⟨c_1, A_2, q_3, S_4, M_5, H_6, U_7⟩ := id hp0
  have hin_8 : ¬ ((0 : Int32) < 0 ∨ c_1.slots.size ≤ (0 : Int32).toNatClampNeg) := inb_of S_4 ⟨(by decide : ¬ ((0 : Int32) < (0 : Int32))), (by decide : (0 : Int32) < (2 : Int32))⟩
  have hat_9 : c_1.slots[(0 : Int32).toNatClampNeg]? = some (.int c0) := Has.at H_6 hin_8 rfl
  have C_10 : Steps p.tables e below S0 (s₁.setTop (mkF m 20 #[.val (.ref b), .val (.int (0 : Int32)), .val (.ref t), .val (.int (0 : Int32)), .val (.int (2 : Int32)), .val (.int (0 : Int32)), .val (.int c0)] [(.int (255 : Int32)), (.int c0)])) := by
    refine C0.trans ?_
    refine XS.iconst X0.here hx rfl (hb hby d7_0) ?_
    refine XS.istore X0.here hx rfl (hb hby d7_1) rfl (l' := #[.val (.ref b), .val (.int (0 : Int32)), .val (.ref t), .val (.int (0 : Int32)), .val (.int (2 : Int32)), .val (.int (0 : Int32)), .unset]) rfl ?_
    refine XS.iload X0.here hx rfl (hb hby d7_3) rfl ?_
    refine XS.iload X0.here hx rfl (hb hby d7_5) rfl ?_
    refine XS.icmpNo X0.here hx rfl (hb hby d7_7) rfl (by decide) ?_
    refine XS.aloadN X0.here hx rfl (hb hby d7_10) rfl rfl ?_
    refine XS.iloadN X0.here hx rfl (hb hby d7_11) rfl ?_
    refine X0.caload hx (j := (0 : Int32)) (v := (.int c0)) (by rw [e0]; exact A_2.1) (State.isArrayOf_alike hZ.alike A_2.2.1) A_2.2.2 hin_8 hat_9 (g := (mkF m 12 #[.val (.ref b), .val (.int (0 : Int32)), .val (.ref t), .val (.int (0 : Int32)), .val (.int (2 : Int32)), .val (.int (0 : Int32)), .unset] [(.int (0 : Int32)), (.ref b)])) rfl rfl (hb hby d7_12) _ ?_
    show Steps p.tables e below (s₁.setTop (mkF m 13 #[.val (.ref b), .val (.int (0 : Int32)), .val (.ref t), .val (.int (0 : Int32)), .val (.int (2 : Int32)), .val (.int (0 : Int32)), .unset] [(.int c0)])) _
    refine XS.istore X0.here hx rfl (hb hby d7_13) rfl (l' := #[.val (.ref b), .val (.int (0 : Int32)), .val (.ref t), .val (.int (0 : Int32)), .val (.int (2 : Int32)), .val (.int (0 : Int32)), .val (.int c0)]) rfl ?_
    refine XS.iload X0.here hx rfl (hb hby d7_15) rfl ?_
    refine XS.sipush X0.here hx rfl (hb hby d7_17) ?_
    exact Steps.refl _
  by_cases hc_11 : (255 : Int32) < c0
  · skip
    have C_12 : Steps p.tables e below S0 (s₁.setTop (mkF m 25 #[.val (.ref b), .val (.int (0 : Int32)), .val (.ref t), .val (.int (0 : Int32)), .val (.int (2 : Int32)), .val (.int (0 : Int32)), .val (.int c0)] [(.int (0 : Int32))])) := by
      refine C_10.trans ?_
      refine XS.icmpNo X0.here hx rfl (hb hby d7_20) rfl (ii_le_f hc_11) ?_
      refine XS.iload X0.here hx rfl (hb hby d7_23) rfl ?_
      exact Steps.refl _
    have K_13 : Keep h0 h0 [t] := (Keep.refl _ _)
    obtain ⟨fs, hr, hrun, hended, hW, hsame⟩ := X0.leave (v := some (.int (0 : Int32))) (fun h => by rw [Bd.returns] at h; cases h)
    refine ⟨_, _, C_12.trans (retOut X0 hx Bd.returns rfl (Or.inl ⟨rfl, Or.inl rfl, _, rfl⟩) (hb hby d7_25) hr), hrun, hended, _, _, rfl, ?_, ⟨_, rfl⟩, hW, hsame.mono (by decide) (by decide)⟩
    show Q_cmp5u_2 Z G1 b k t kt c0 c1 h0 n0 (some (.int (0 : Int32))) s₁.heap _
    rw [e0]
    exact Or.inl ⟨rfl, N0, K_13, hc_11⟩
  · skip
    obtain ⟨c_14, A_15, q_16, S_17, M_18, H_19, U_20⟩ := id hp1
    have hin_27 : ¬ ((0 : Int32) < 0 ∨ c_14.slots.size ≤ (0 : Int32).toNatClampNeg) := inb_of S_17 ⟨(by decide : ¬ ((0 : Int32) < (0 : Int32))), (by decide : (0 : Int32) < (2 : Int32))⟩
    obtain ⟨T_21, h_22, X_23, e_24, W_25, st_26⟩ := stB X0 hx hZ e0 A_15 (j := (0 : Int32)) hin_27 (g := (mkF m 31 #[.val (.ref b), .val (.int (0 : Int32)), .val (.ref t), .val (.int (0 : Int32)), .val (.int (2 : Int32)), .val (.int (0 : Int32)), .val (.int c0)] [(.int (c0.toInt8.toInt32)), (.int (0 : Int32)), (.ref t)])) rfl rfl (hb hby d7_31)
    have N_28 := Fr.snoc X_23 N0 hp2
    have V_29 : Arv Z h_22 t kt .byte (2 : Int32) [(.int (own_lo8 c0)), (.int (0 : Int32))] (.int (0 : Int32)) := Arv.set A_15 q_16 S_17 M_18 H_19 U_20 (fits_nar_byte _) W_25 0 rfl (Nat.le_of_ble_eq_true rfl)
    have V_30 : Arv Z h_22 b k .char (2 : Int32) [(.int c0), (.int c1)] (.int (0 : Int32)) := (hp0.other W_25 hp3)
    obtain ⟨c_31, A_32, q_33, S_34, M_35, H_36, U_37⟩ := id V_30
    have hin_38 : ¬ ((1 : Int32) < 0 ∨ c_31.slots.size ≤ (1 : Int32).toNatClampNeg) := inb_of S_34 ⟨(by decide : ¬ ((1 : Int32) < (0 : Int32))), (by decide : (1 : Int32) < (2 : Int32))⟩
    have hat_39 : c_31.slots[(1 : Int32).toNatClampNeg]? = some (.int c1) := Has.at H_36 hin_38 rfl
    have C_40 : Steps p.tables e below S0 (T_21.setTop (mkF m 20 #[.val (.ref b), .val (.int (1 : Int32)), .val (.ref t), .val (.int (1 : Int32)), .val (.int (2 : Int32)), .val (.int (1 : Int32)), .val (.int c1)] [(.int (255 : Int32)), (.int c1)])) := by
      refine C_10.trans ?_
      refine XS.icmpYes X0.here hx rfl (pc0 := 20) (pc' := 26) rfl (hb hby d7_20) rfl (ii_le_t hc_11) (by decide) (by decide) ?_
      refine XS.aloadN X0.here hx rfl (hb hby d7_26) rfl rfl ?_
      refine XS.iloadN X0.here hx rfl (hb hby d7_27) rfl ?_
      refine XS.iload X0.here hx rfl (hb hby d7_28) rfl ?_
      refine XS.i2b X0.here hx rfl (hb hby d7_30) rfl ?_
      refine st_26 _ ?_
      refine XS.iinc X_23.here hx rfl (hb hby d7_32) (x := (0 : Int32)) rfl (l' := #[.val (.ref b), .val (.int (1 : Int32)), .val (.ref t), .val (.int (0 : Int32)), .val (.int (2 : Int32)), .val (.int (0 : Int32)), .val (.int c0)]) rfl ?_
      refine XS.iinc X_23.here hx rfl (hb hby d7_35) (x := (0 : Int32)) rfl (l' := #[.val (.ref b), .val (.int (1 : Int32)), .val (.ref t), .val (.int (1 : Int32)), .val (.int (2 : Int32)), .val (.int (0 : Int32)), .val (.int c0)]) rfl ?_
      show Steps p.tables e below (T_21.setTop (mkF m 38 #[.val (.ref b), .val (.int (1 : Int32)), .val (.ref t), .val (.int (1 : Int32)), .val (.int (2 : Int32)), .val (.int (0 : Int32)), .val (.int c0)] [])) _
      refine XS.iinc X_23.here hx rfl (hb hby d7_38) (x := (0 : Int32)) rfl (l' := #[.val (.ref b), .val (.int (1 : Int32)), .val (.ref t), .val (.int (1 : Int32)), .val (.int (2 : Int32)), .val (.int (1 : Int32)), .val (.int c0)]) rfl ?_
      refine XS.goto X_23.here hx rfl (pc0 := 41) (pc' := 3) rfl (hb hby d7_41) (by decide) (by decide) ?_
      refine XS.iload X_23.here hx rfl (hb hby d7_3) rfl ?_
      refine XS.iload X_23.here hx rfl (hb hby d7_5) rfl ?_
      refine XS.icmpNo X_23.here hx rfl (hb hby d7_7) rfl (by decide) ?_
      refine XS.aloadN X_23.here hx rfl (hb hby d7_10) rfl rfl ?_
      refine XS.iloadN X_23.here hx rfl (hb hby d7_11) rfl ?_
      refine X_23.caload hx (j := (1 : Int32)) (v := (.int c1)) (by rw [e_24]; exact A_32.1) (State.isArrayOf_alike hZ.alike A_32.2.1) A_32.2.2 hin_38 hat_39 (g := (mkF m 12 #[.val (.ref b), .val (.int (1 : Int32)), .val (.ref t), .val (.int (1 : Int32)), .val (.int (2 : Int32)), .val (.int (1 : Int32)), .val (.int c0)] [(.int (1 : Int32)), (.ref b)])) rfl rfl (hb hby d7_12) _ ?_
      show Steps p.tables e below (T_21.setTop (mkF m 13 #[.val (.ref b), .val (.int (1 : Int32)), .val (.ref t), .val (.int (1 : Int32)), .val (.int (2 : Int32)), .val (.int (1 : Int32)), .val (.int c0)] [(.int c1)])) _
      refine XS.istore X_23.here hx rfl (hb hby d7_13) rfl (l' := #[.val (.ref b), .val (.int (1 : Int32)), .val (.ref t), .val (.int (1 : Int32)), .val (.int (2 : Int32)), .val (.int (1 : Int32)), .val (.int c1)]) rfl ?_
      refine XS.iload X_23.here hx rfl (hb hby d7_15) rfl ?_
      refine XS.sipush X_23.here hx rfl (hb hby d7_17) ?_
      exact Steps.refl _
    by_cases hc_41 : (255 : Int32) < c1
    · skip
      have C_42 : Steps p.tables e below S0 (T_21.setTop (mkF m 25 #[.val (.ref b), .val (.int (1 : Int32)), .val (.ref t), .val (.int (1 : Int32)), .val (.int (2 : Int32)), .val (.int (1 : Int32)), .val (.int c1)] [(.int (1 : Int32))])) := by
        refine C_40.trans ?_
        refine XS.icmpNo X_23.here hx rfl (hb hby d7_20) rfl (ii_le_f hc_41) ?_
        refine XS.iload X_23.here hx rfl (hb hby d7_23) rfl ?_
        exact Steps.refl _
      have K_43 : Keep h0 h_22 [t] := ((Keep.refl _ _).wr W_25 (Or.inl (List.mem_of_getElem? (i := 0) rfl)))
      obtain ⟨fs, hr, hrun, hended, hW, hsame⟩ := X_23.leave (v := some (.int (1 : Int32))) (fun h => by rw [Bd.returns] at h; cases h)
      refine ⟨_, _, C_42.trans (retOut X_23 hx Bd.returns rfl (Or.inl ⟨rfl, Or.inl rfl, _, rfl⟩) (hb hby d7_25) hr), hrun, hended, _, _, rfl, ?_, ⟨_, rfl⟩, hW, hsame.mono (by decide) (by decide)⟩
      show Q_cmp5u_2 Z G1 b k t kt c0 c1 h0 n0 (some (.int (1 : Int32))) T_21.heap _
      rw [e_24]
      exact Or.inr (Or.inl ⟨rfl, N_28, K_43, hc_41⟩)
    · skip
      obtain ⟨c_44, A_45, q_46, S_47, M_48, H_49, U_50⟩ := id V_29
      have hin_57 : ¬ ((1 : Int32) < 0 ∨ c_44.slots.size ≤ (1 : Int32).toNatClampNeg) := inb_of S_47 ⟨(by decide : ¬ ((1 : Int32) < (0 : Int32))), (by decide : (1 : Int32) < (2 : Int32))⟩
      obtain ⟨T_51, h_52, X_53, e_54, W_55, st_56⟩ := stB X_23 hx hZ e_24 A_45 (j := (1 : Int32)) hin_57 (g := (mkF m 31 #[.val (.ref b), .val (.int (1 : Int32)), .val (.ref t), .val (.int (1 : Int32)), .val (.int (2 : Int32)), .val (.int (1 : Int32)), .val (.int c1)] [(.int (c1.toInt8.toInt32)), (.int (1 : Int32)), (.ref t)])) rfl rfl (hb hby d7_31)
      have N_58 := Fr.snoc X_53 N_28 hp2
      have V_59 : Arv Z h_52 t kt .byte (2 : Int32) [(.int (own_lo8 c0)), (.int (own_lo8 c1))] (.int (0 : Int32)) := Arv.set A_45 q_46 S_47 M_48 H_49 U_50 (fits_nar_byte _) W_55 1 rfl (Nat.le_of_ble_eq_true rfl)
      have C_60 : Steps p.tables e below S0 (T_51.setTop (mkF m 46 #[.val (.ref b), .val (.int (2 : Int32)), .val (.ref t), .val (.int (2 : Int32)), .val (.int (2 : Int32)), .val (.int (2 : Int32)), .val (.int c1)] [(.int (2 : Int32))])) := by
        refine C_40.trans ?_
        refine XS.icmpYes X_23.here hx rfl (pc0 := 20) (pc' := 26) rfl (hb hby d7_20) rfl (ii_le_t hc_41) (by decide) (by decide) ?_
        refine XS.aloadN X_23.here hx rfl (hb hby d7_26) rfl rfl ?_
        refine XS.iloadN X_23.here hx rfl (hb hby d7_27) rfl ?_
        refine XS.iload X_23.here hx rfl (hb hby d7_28) rfl ?_
        refine XS.i2b X_23.here hx rfl (hb hby d7_30) rfl ?_
        refine st_56 _ ?_
        refine XS.iinc X_53.here hx rfl (hb hby d7_32) (x := (1 : Int32)) rfl (l' := #[.val (.ref b), .val (.int (2 : Int32)), .val (.ref t), .val (.int (1 : Int32)), .val (.int (2 : Int32)), .val (.int (1 : Int32)), .val (.int c1)]) rfl ?_
        refine XS.iinc X_53.here hx rfl (hb hby d7_35) (x := (1 : Int32)) rfl (l' := #[.val (.ref b), .val (.int (2 : Int32)), .val (.ref t), .val (.int (2 : Int32)), .val (.int (2 : Int32)), .val (.int (1 : Int32)), .val (.int c1)]) rfl ?_
        show Steps p.tables e below (T_51.setTop (mkF m 38 #[.val (.ref b), .val (.int (2 : Int32)), .val (.ref t), .val (.int (2 : Int32)), .val (.int (2 : Int32)), .val (.int (1 : Int32)), .val (.int c1)] [])) _
        refine XS.iinc X_53.here hx rfl (hb hby d7_38) (x := (1 : Int32)) rfl (l' := #[.val (.ref b), .val (.int (2 : Int32)), .val (.ref t), .val (.int (2 : Int32)), .val (.int (2 : Int32)), .val (.int (2 : Int32)), .val (.int c1)]) rfl ?_
        refine XS.goto X_53.here hx rfl (pc0 := 41) (pc' := 3) rfl (hb hby d7_41) (by decide) (by decide) ?_
        refine XS.iload X_53.here hx rfl (hb hby d7_3) rfl ?_
        refine XS.iload X_53.here hx rfl (hb hby d7_5) rfl ?_
        refine XS.icmpYes X_53.here hx rfl (pc0 := 7) (pc' := 44) rfl (hb hby d7_7) rfl (by decide) (by decide) (by decide) ?_
        refine XS.iload X_53.here hx rfl (hb hby d7_44) rfl ?_
        exact Steps.refl _
      have K_61 : Keep h0 h_52 [t] := (((Keep.refl _ _).wr W_25 (Or.inl (List.mem_of_getElem? (i := 0) rfl))).wr W_55 (Or.inl (List.mem_of_getElem? (i := 0) rfl)))
      obtain ⟨fs, hr, hrun, hended, hW, hsame⟩ := X_53.leave (v := some (.int (2 : Int32))) (fun h => by rw [Bd.returns] at h; cases h)
      refine ⟨_, _, C_60.trans (retOut X_53 hx Bd.returns rfl (Or.inl ⟨rfl, Or.inl rfl, _, rfl⟩) (hb hby d7_46) hr), hrun, hended, _, _, rfl, ?_, ⟨_, rfl⟩, hW, hsame.mono (by decide) (by decide)⟩
      show Q_cmp5u_2 Z G1 b k t kt c0 c1 h0 n0 (some (.int (2 : Int32))) T_51.heap _
      rw [e_54]
      exact Or.inr (Or.inr (⟨rfl, N_58, K_61, V_59, hc_11, hc_41⟩))
abbrev M173 : MethodName := ⟨"java/lang/StringUTF16", "compress", "([CII)[B"⟩
theorem ef_174 (m : MethodId) (x0 : Addr) (x1 : Int32) (x2 : Int32) : entryFrame m #[(.ref x0), (.int x1), (.int x2)] 6 = mkF m 0 #[.val (.ref x0), .val (.int x1), .val (.int x2), .unset, .unset, .unset] [] := by first | (simp [entryFrame, mkF, argsToLocals, Value.category]; done) | rfl
theorem d8_0 : decode jdk_52_method_16_code 0 = .ok (.iload_n 2, 1) := by decide +kernel
theorem d8_1 : decode jdk_52_method_16_code 1 = .ok (.newarray .byte, 2) := by decide +kernel
theorem d8_3 : decode jdk_52_method_16_code 3 = .ok (.astore_n 3, 1) := by decide +kernel
theorem d8_4 : decode jdk_52_method_16_code 4 = .ok (.aload_n 0, 1) := by decide +kernel
theorem d8_5 : decode jdk_52_method_16_code 5 = .ok (.iload_n 1, 1) := by decide +kernel
theorem d8_6 : decode jdk_52_method_16_code 6 = .ok (.aload_n 3, 1) := by decide +kernel
theorem d8_7 : decode jdk_52_method_16_code 7 = .ok (.iconst 0, 1) := by decide +kernel
theorem d8_8 : decode jdk_52_method_16_code 8 = .ok (.iload_n 2, 1) := by decide +kernel
theorem w72 {Z : State} {a0 : Array Value} (hw : ∀ d ∈ tables_1, d.before a0 Z = true) : Jvm.Cond.before (Jvm.Cond.code ({ cls := "java/lang/StringUTF16", name := "compress", desc := "([CI[BII)I" } : Jvm.MethodName) jdk_52_method_21_code (7 : Nat) (Option.some Jvm.ClassFile.FieldType.int)) a0 Z = true := hw _ (List.mem_of_getElem? (i := 72) rfl)
theorem pd_184 : parseMethodDescriptor "([CI[BII)I" = some ⟨[(.array .char), .int, (.array .byte), .int, .int], some .int⟩ := by decide +kernel
theorem d8_9 : decode jdk_52_method_16_code 9 = .ok (.invokestatic 115, 3) := by decide +kernel
theorem w70 {Z : State} {a0 : Array Value} (hw : ∀ d ∈ tables_1, d.before a0 Z = true) : Jvm.Cond.before (Jvm.Cond.methodLink "java/lang/StringUTF16" (115 : Nat) ({ cls := "java/lang/StringUTF16", name := "compress", desc := "([CI[BII)I" } : Jvm.MethodName)) a0 Z = true := hw _ (List.mem_of_getElem? (i := 70) rfl)
theorem w71 {Z : State} {a0 : Array Value} (hw : ∀ d ∈ tables_1, d.before a0 Z = true) : Jvm.Cond.before (Jvm.Cond.static ({ cls := "java/lang/StringUTF16", name := "compress", desc := "([CI[BII)I" } : Jvm.MethodName)) a0 Z = true := hw _ (List.mem_of_getElem? (i := 71) rfl)
theorem d8_12 : decode jdk_52_method_16_code 12 = .ok (.istore 4, 2) := by decide +kernel
theorem d8_14 : decode jdk_52_method_16_code 14 = .ok (.iload 4, 2) := by decide +kernel
theorem d8_16 : decode jdk_52_method_16_code 16 = .ok (.iload_n 2, 1) := by decide +kernel
theorem d8_17 : decode jdk_52_method_16_code 17 = .ok (.if_icmp .eq 40, 3) := by decide +kernel
theorem d8_20 : decode jdk_52_method_16_code 20 = .ok (.aload_n 0, 1) := by decide +kernel
theorem d8_21 : decode jdk_52_method_16_code 21 = .ok (.iload_n 1, 1) := by decide +kernel
theorem d8_22 : decode jdk_52_method_16_code 22 = .ok (.iload_n 2, 1) := by decide +kernel
theorem w78 {Z : State} {a0 : Array Value} (hw : ∀ d ∈ tables_1, d.before a0 Z = true) : Jvm.Cond.before (Jvm.Cond.code ({ cls := "java/lang/StringUTF16", name := "toBytes", desc := "([CII)[B" } : Jvm.MethodName) jdk_52_method_14_code (5 : Nat) (Option.some (Jvm.ClassFile.FieldType.array Jvm.ClassFile.FieldType.byte))) a0 Z = true := hw _ (List.mem_of_getElem? (i := 78) rfl)
theorem pd_196 : parseMethodDescriptor "([CII)[B" = some ⟨[(.array .char), .int, .int], some (.array .byte)⟩ := by decide +kernel
theorem d8_23 : decode jdk_52_method_16_code 23 = .ok (.invokestatic 119, 3) := by decide +kernel
theorem w76 {Z : State} {a0 : Array Value} (hw : ∀ d ∈ tables_1, d.before a0 Z = true) : Jvm.Cond.before (Jvm.Cond.methodLink "java/lang/StringUTF16" (119 : Nat) ({ cls := "java/lang/StringUTF16", name := "toBytes", desc := "([CII)[B" } : Jvm.MethodName)) a0 Z = true := hw _ (List.mem_of_getElem? (i := 76) rfl)
theorem w77 {Z : State} {a0 : Array Value} (hw : ∀ d ∈ tables_1, d.before a0 Z = true) : Jvm.Cond.before (Jvm.Cond.static ({ cls := "java/lang/StringUTF16", name := "toBytes", desc := "([CII)[B" } : Jvm.MethodName)) a0 Z = true := hw _ (List.mem_of_getElem? (i := 77) rfl)
theorem d8_26 : decode jdk_52_method_16_code 26 = .ok (.astore 5, 2) := by decide +kernel
theorem d8_28 : decode jdk_52_method_16_code 28 = .ok (.aload 5, 2) := by decide +kernel
theorem d8_30 : decode jdk_52_method_16_code 30 = .ok (.iload 4, 2) := by decide +kernel
theorem w94 {Z : State} {a0 : Array Value} (hw : ∀ d ∈ tables_1, d.before a0 Z = true) : Jvm.Cond.before (Jvm.Cond.code ({ cls := "java/lang/StringUTF16", name := "getChar", desc := "([BI)C" } : Jvm.MethodName) jdk_52_method_5_code (2 : Nat) (Option.some Jvm.ClassFile.FieldType.char)) a0 Z = true := hw _ (List.mem_of_getElem? (i := 94) rfl)
theorem pd_204 : parseMethodDescriptor "([BI)C" = some ⟨[(.array .byte), .int], some .char⟩ := by decide +kernel
theorem d8_32 : decode jdk_52_method_16_code 32 = .ok (.invokestatic 71, 3) := by decide +kernel
theorem w92 {Z : State} {a0 : Array Value} (hw : ∀ d ∈ tables_1, d.before a0 Z = true) : Jvm.Cond.before (Jvm.Cond.methodLink "java/lang/StringUTF16" (71 : Nat) ({ cls := "java/lang/StringUTF16", name := "getChar", desc := "([BI)C" } : Jvm.MethodName)) a0 Z = true := hw _ (List.mem_of_getElem? (i := 92) rfl)
theorem w93 {Z : State} {a0 : Array Value} (hw : ∀ d ∈ tables_1, d.before a0 Z = true) : Jvm.Cond.before (Jvm.Cond.static ({ cls := "java/lang/StringUTF16", name := "getChar", desc := "([BI)C" } : Jvm.MethodName)) a0 Z = true := hw _ (List.mem_of_getElem? (i := 93) rfl)
theorem d8_35 : decode jdk_52_method_16_code 35 = .ok (.sipush 255, 3) := by decide +kernel
theorem d8_38 : decode jdk_52_method_16_code 38 = .ok (.if_icmp .gt 16, 3) := by decide +kernel
theorem d8_54 : decode jdk_52_method_16_code 54 = .ok (.aload 5, 2) := by decide +kernel
theorem d8_56 : decode jdk_52_method_16_code 56 = .ok (.areturn, 1) := by decide +kernel
theorem d8_57 : decode jdk_52_method_16_code 57 = .ok (.aload_n 3, 1) := by decide +kernel
theorem d8_58 : decode jdk_52_method_16_code 58 = .ok (.areturn, 1) := by decide +kernel
abbrev R_cmp3u_2 : Room := { frames := 3, cells := 2, slots := 6, locals := 40 }
def Q_cmp3u_2 (Z : State) (G1 : Int32) (b : Addr) (k : ClassId) (c0 : Int32) (c1 : Int32) (h0 : Heap) (n0 : Nat) (v : Option Value) (h : Heap) (L : List Loc) : Prop := (∃ t : Addr, ∃ kt : ClassId, v = some (.ref t) ∧ Fr n0 L ∧ Keep h0 h [] ∧ (h0.size ≤ t) ∧ (Arv Z h t kt .byte (2 : Int32) [(.int (own_lo8 c0)), (.int (own_lo8 c1))] (.int (0 : Int32)))) ∨ (∃ t : Addr, ∃ kt : ClassId, v = some (.ref t) ∧ Fr n0 L ∧ Keep h0 h [] ∧ (h0.size ≤ t) ∧ (Arv Z h t kt .byte (4 : Int32) [(.int (own_lo8z c0)), (.int (own_hi8 c0)), (.int (own_lo8z c1)), (.int (own_hi8 c1))] (.int (0 : Int32))))
set_option maxRecDepth 65536 in
set_option maxHeartbeats 40000000 in
theorem rm_cmp3u_2 (l : Launch) (Z : State) (a0 : Array Value) (hw : ∀ d ∈ tables_1, d.before a0 Z = true) (ws : List Jvm.Cond) (G1 : Int32) (HG : own_G l Z a0 G1) (h0 : Heap) (n0 : Nat) (X00 : Old Z n0 h0) (b : Addr) (k : ClassId) (c0 : Int32) (c1 : Int32) (hp0 : Arv Z h0 b k .char (2 : Int32) [(.int c0), (.int c1)] (.int (0 : Int32))) (hl0 : ¬ (c0 < (0 : Int32))) (hl1 : ¬ (c1 < (0 : Int32))) (hm0 : ¬ ((65535 : Int32) < c0)) (hm1 : ¬ ((65535 : Int32) < c1)) :
    own_CP l Z M173 jdk_52_method_16_code 6 (some (.array .byte)) ws R_cmp3u_2 #[(.ref b), (.int (0 : Int32)), (.int (2 : Int32))] h0 (Q_cmp3u_2 Z G1 b k c0 c1 h0 n0) := by
  refine own_P (plainFor_of_name pn_42) ?_
  intro p e s m below meth c s₁ S0 Bd hZ hh hx hby hml hown hnm X0 e0 hS0d
  obtain ⟨O1, P1, OAD, OHI, OLO⟩ := id HG
  have N0 := Fr.nil n0
  have C0 : Steps p.tables e below S0 (s₁.setTop (mkF m 0 #[.val (.ref b), .val (.int (0 : Int32)), .val (.int (2 : Int32)), .unset, .unset, .unset] [])) := by rw [hS0d]; exact castTop (ef_174 m b (0 : Int32) (2 : Int32)) (Steps.refl _)
  obtain ⟨T_1, h_2, k_3, X_4, e_5, E_6, A_7, st_8⟩ := newP (aty := .byte) X0 hx hZ (w20 hw) e0 (g := (mkF m 1 #[.val (.ref b), .val (.int (0 : Int32)), .val (.int (2 : Int32)), .unset, .unset, .unset] [(.int (2 : Int32))])) rfl (hb hby d8_1) rfl (by decide : ¬ ((2 : Int32) < (0 : Int32))) (cap := 2) (by decide : (2 : Int32).toNatClampNeg ≤ 2) (by decide) (by decide) (by decide)
  obtain ⟨a_9, g_10⟩ : ∃ z, z = h0.size := ⟨_, rfl⟩
  rw [← g_10] at A_7 st_8
  have V_12 : Arv Z h_2 a_9 k_3 .byte (2 : Int32) [] (.int (0 : Int32)) := Arv.new A_7 (by decide : ¬ ((2 : Int32) < (0 : Int32)))
  have V_11 : Arv Z h_2 a_9 k_3 .byte (2 : Int32) [(.int (0 : Int32)), (.int (0 : Int32))] (.int (0 : Int32)) := (V_12.pad (pad_rep [] (.int (0 : Int32)) 2))
  have V_13 : Arv Z h_2 b k .char (2 : Int32) [(.int c0), (.int c1)] (.int (0 : Int32)) := (hp0.ext E_6)
  have O_14 : Old Z n0 h_2 := (X00.ext E_6)
  obtain ⟨_, _, ⟨T_15, L_15, k_15, n_15⟩, -, X_15, ⟨Lc_15, hQ_15, l_15, y_15, z_15⟩, st_15⟩ := Jvm.LawKit.callS X_4 hx (y := M146) hown (mvT hZ (w70 hw)) (mvT hZ (w71 hw)) (mvT hZ (w68 hw)) (mvT hZ (w72 hw)) (by decide) (backOf (W := 0) (rm_cmp5u_2 l Z a0 hw [] G1 HG h_2 n0 O_14 b k a_9 k_3 c0 c1 V_13 V_11 (Nat.le_trans (own_n0 X00) (Nat.le_of_eq g_10.symm)) (Nat.ne_of_lt (Nat.lt_of_lt_of_le hp0.lt (Nat.le_trans (Nat.le_refl _) (Nat.le_of_eq g_10.symm))))) hZ (w72 hw) (w68 hw) (by decide) (by decide)) (g := (mkF m 9 #[.val (.ref b), .val (.int (0 : Int32)), .val (.int (2 : Int32)), .val (.ref a_9), .unset, .unset] [(.int (2 : Int32)), (.int (0 : Int32)), (.ref a_9), (.int (0 : Int32)), (.ref b)])) rfl (by rw [hml]; rfl) (argsL := [(.ref b), (.int (0 : Int32)), (.ref a_9), (.int (0 : Int32)), (.int (2 : Int32))]) (rest := []) (lenOf pd_184 rfl) rfl (by show 2 * 0 + _ ≤ _; exact Nat.le_of_eq rfl) (hb hby d8_9) (fun _ _ => ⟨rfl, e_5, (by decide : 1 + 0 ≤ _), (by decide : 2 + 0 ≤ _)⟩)
  dsimp only [Pt.U, Pt.locs, Pt.cells, Pt.slots] at X_15 l_15 y_15 z_15 st_15 hQ_15
  subst l_15 y_15 z_15
  have C_16 : Steps p.tables e below S0 (T_1.setTop (mkF m 9 #[.val (.ref b), .val (.int (0 : Int32)), .val (.int (2 : Int32)), .val (.ref a_9), .unset, .unset] [(.int (2 : Int32)), (.int (0 : Int32)), (.ref a_9), (.int (0 : Int32)), (.ref b)])) := by
    refine C0.trans ?_
    refine XS.iloadN X0.here hx rfl (hb hby d8_0) rfl ?_
    refine st_8 _ ?_
    refine XS.astoreN X_4.here hx rfl (hb hby d8_3) rfl rfl (l' := #[.val (.ref b), .val (.int (0 : Int32)), .val (.int (2 : Int32)), .val (.ref a_9), .unset, .unset]) rfl ?_
    refine XS.aloadN X_4.here hx rfl (hb hby d8_4) rfl rfl ?_
    refine XS.iloadN X_4.here hx rfl (hb hby d8_5) rfl ?_
    refine XS.aloadN X_4.here hx rfl (hb hby d8_6) rfl rfl ?_
    refine XS.iconst X_4.here hx rfl (hb hby d8_7) ?_
    refine XS.iloadN X_4.here hx rfl (hb hby d8_8) rfl ?_
    show Steps p.tables e below (T_1.setTop (mkF m 9 #[.val (.ref b), .val (.int (0 : Int32)), .val (.int (2 : Int32)), .val (.ref a_9), .unset, .unset] [(.int (2 : Int32)), (.int (0 : Int32)), (.ref a_9), (.int (0 : Int32)), (.ref b)])) _
    exact Steps.refl _
  rcases hQ_15 with hQ_17 | hQ_18 | hQ_19
  · skip
    obtain ⟨rfl, N_20, K_21, g_22⟩ := hQ_17
    have N_23 := Fr.app N0 N_20
    have V_24 : Arv Z T_15.heap b k .char (2 : Int32) [(.int c0), (.int c1)] (.int (0 : Int32)) := (V_13.keep K_21 (ninS (Nat.ne_of_lt (Nat.lt_of_lt_of_le hp0.lt (Nat.le_trans (Nat.le_refl _) (Nat.le_of_eq g_10.symm)))) nin0))
    have O_25 : Old Z n0 T_15.heap := (O_14.keep K_21 (allS (Nat.le_trans (own_n0 X00) (Nat.le_of_eq g_10.symm)) all0))
    obtain ⟨_, _, ⟨T_26, L_26, k_26, n_26⟩, -, X_26, ⟨Lc_26, hQ_26, l_26, y_26, z_26⟩, st_26⟩ := Jvm.LawKit.callS X_15 hx (y := M91) hown (mvT hZ (w76 hw)) (mvT hZ (w77 hw)) (mvT hZ (w68 hw)) (mvT hZ (w78 hw)) (by decide) (backOf (W := 0) (rm_tob_2 l Z a0 hw [] G1 HG T_15.heap n0 O_25 b k c0 c1 V_24) hZ (w78 hw) (w68 hw) (by decide) (by decide)) (g := (mkF m 23 #[.val (.ref b), .val (.int (0 : Int32)), .val (.int (2 : Int32)), .val (.ref a_9), .val (.int (0 : Int32)), .unset] [(.int (2 : Int32)), (.int (0 : Int32)), (.ref b)])) rfl (by rw [hml]; rfl) (argsL := [(.ref b), (.int (0 : Int32)), (.int (2 : Int32))]) (rest := []) (lenOf pd_196 rfl) rfl (by show 2 * 0 + _ ≤ _; exact Nat.le_of_eq rfl) (hb hby d8_23) (fun _ _ => ⟨rfl, rfl, (by decide : 1 + 1 ≤ _), (by decide : 2 + 4 ≤ _)⟩)
    dsimp only [Pt.U, Pt.locs, Pt.cells, Pt.slots] at X_26 l_26 y_26 z_26 st_26 hQ_26
    subst l_26 y_26 z_26
    obtain ⟨a_27, k_28, rfl, N_29, K_30, g_31, g_32⟩ := hQ_26
    have N_33 := Fr.app N_23 N_29
    have O_34 : Old Z n0 T_26.heap := (O_25.keep K_30 all0)
    obtain ⟨_, _, ⟨T_35, L_35, k_35, n_35⟩, -, X_35, ⟨Lc_35, hQ_35, l_35, y_35, z_35⟩, st_35⟩ := Jvm.LawKit.callS X_26 hx (y := M120) hown (mvT hZ (w92 hw)) (mvT hZ (w93 hw)) (mvT hZ (w68 hw)) (mvT hZ (w94 hw)) (by decide) (backOf (W := 0) (rm_get_2_0 l Z a0 hw [] G1 HG T_26.heap n0 O_34 a_27 k_28 (own_lo8z c0) (own_hi8 c0) (own_lo8z c1) (own_hi8 c1) g_32) hZ (w94 hw) (w68 hw) (by decide) (by decide)) (g := (mkF m 32 #[.val (.ref b), .val (.int (0 : Int32)), .val (.int (2 : Int32)), .val (.ref a_9), .val (.int (0 : Int32)), .val (.ref a_27)] [(.int (0 : Int32)), (.ref a_27)])) rfl (by rw [hml]; rfl) (argsL := [(.ref a_27), (.int (0 : Int32))]) (rest := []) (lenOf pd_204 rfl) rfl (by show 2 * 0 + _ ≤ _; exact Nat.le_of_eq rfl) (hb hby d8_32) (fun _ _ => ⟨rfl, rfl, (by decide : 2 + 0 ≤ _), (by decide : 6 + 0 ≤ _)⟩)
    dsimp only [Pt.U, Pt.locs, Pt.cells, Pt.slots] at X_35 l_35 y_35 z_35 st_35 hQ_35
    subst l_35 y_35 z_35
    obtain ⟨rfl, N_36, e_37⟩ := hQ_35
    have N_38 := Fr.app N_33 N_36
    have e_39 : T_35.heap = T_26.heap := e_37
    have C_40 : Steps p.tables e below S0 (T_35.setTop (mkF m 56 #[.val (.ref b), .val (.int (0 : Int32)), .val (.int (2 : Int32)), .val (.ref a_9), .val (.int (0 : Int32)), .val (.ref a_27)] [(.ref a_27)])) := by
      refine C_16.trans ?_
      refine st_15 _ ?_
      refine XS.istore X_15.here hx rfl (hb hby d8_12) rfl (l' := #[.val (.ref b), .val (.int (0 : Int32)), .val (.int (2 : Int32)), .val (.ref a_9), .val (.int (0 : Int32)), .unset]) rfl ?_
      refine XS.iload X_15.here hx rfl (hb hby d8_14) rfl ?_
      refine XS.iloadN X_15.here hx rfl (hb hby d8_16) rfl ?_
      refine XS.icmpNo X_15.here hx rfl (hb hby d8_17) rfl (by decide) ?_
      refine XS.aloadN X_15.here hx rfl (hb hby d8_20) rfl rfl ?_
      refine XS.iloadN X_15.here hx rfl (hb hby d8_21) rfl ?_
      refine XS.iloadN X_15.here hx rfl (hb hby d8_22) rfl ?_
      show Steps p.tables e below (T_15.setTop (mkF m 23 #[.val (.ref b), .val (.int (0 : Int32)), .val (.int (2 : Int32)), .val (.ref a_9), .val (.int (0 : Int32)), .unset] [(.int (2 : Int32)), (.int (0 : Int32)), (.ref b)])) _
      refine st_26 _ ?_
      refine XS.astore X_26.here hx rfl (hb hby d8_26) rfl rfl (l' := #[.val (.ref b), .val (.int (0 : Int32)), .val (.int (2 : Int32)), .val (.ref a_9), .val (.int (0 : Int32)), .val (.ref a_27)]) rfl ?_
      refine XS.aload X_26.here hx rfl (hb hby d8_28) rfl rfl ?_
      refine XS.iload X_26.here hx rfl (hb hby d8_30) rfl ?_
      refine st_35 _ ?_
      refine XS.sipush X_35.here hx rfl (hb hby d8_35) ?_
      refine XS.icmpYes X_35.here hx rfl (pc0 := 38) (pc' := 54) rfl (hb hby d8_38) rfl (ii_gt_t (by rw [own_pair_says hl0 hm0]; exact g_22)) (by decide) (by decide) ?_
      refine XS.aload X_35.here hx rfl (hb hby d8_54) rfl rfl ?_
      show Steps p.tables e below (T_35.setTop (mkF m 56 #[.val (.ref b), .val (.int (0 : Int32)), .val (.int (2 : Int32)), .val (.ref a_9), .val (.int (0 : Int32)), .val (.ref a_27)] [(.ref a_27)])) _
      exact Steps.refl _
    have K_41 : Keep h0 T_26.heap [] := ((((Keep.refl _ _).ext E_6).trans K_21 (allS (Or.inr (Nat.le_trans (Nat.le_refl _) (Nat.le_of_eq g_10.symm))) all0)).trans K_30 all0)
    obtain ⟨fs, hr, hrun, hended, hW, hsame⟩ := X_35.leave (v := some (.ref a_27)) (fun h => by rw [Bd.returns] at h; cases h)
    refine ⟨_, _, C_40.trans (retOut X_35 hx Bd.returns rfl (Or.inr (Or.inr (Or.inr (Or.inr ⟨rfl, rfl, rfl⟩)))) (hb hby d8_56) hr), hrun, hended, _, _, rfl, ?_, ⟨_, rfl⟩, hW, hsame.mono (by decide) (by decide)⟩
    show Q_cmp3u_2 Z G1 b k c0 c1 h0 n0 (some (.ref a_27)) T_35.heap _
    rw [e_39]
    exact Or.inr (⟨a_27, k_28, rfl, N_38, K_41, (Nat.le_trans (Nat.le_trans E_6.1 K_21.1) g_31), g_32⟩)
  · skip
    obtain ⟨rfl, N_42, K_43, g_44⟩ := hQ_18
    have N_45 := Fr.app N0 N_42
    have V_46 : Arv Z T_15.heap b k .char (2 : Int32) [(.int c0), (.int c1)] (.int (0 : Int32)) := (V_13.keep K_43 (ninS (Nat.ne_of_lt (Nat.lt_of_lt_of_le hp0.lt (Nat.le_trans (Nat.le_refl _) (Nat.le_of_eq g_10.symm)))) nin0))
    have O_47 : Old Z n0 T_15.heap := (O_14.keep K_43 (allS (Nat.le_trans (own_n0 X00) (Nat.le_of_eq g_10.symm)) all0))
    obtain ⟨_, _, ⟨T_48, L_48, k_48, n_48⟩, -, X_48, ⟨Lc_48, hQ_48, l_48, y_48, z_48⟩, st_48⟩ := Jvm.LawKit.callS X_15 hx (y := M91) hown (mvT hZ (w76 hw)) (mvT hZ (w77 hw)) (mvT hZ (w68 hw)) (mvT hZ (w78 hw)) (by decide) (backOf (W := 0) (rm_tob_2 l Z a0 hw [] G1 HG T_15.heap n0 O_47 b k c0 c1 V_46) hZ (w78 hw) (w68 hw) (by decide) (by decide)) (g := (mkF m 23 #[.val (.ref b), .val (.int (0 : Int32)), .val (.int (2 : Int32)), .val (.ref a_9), .val (.int (1 : Int32)), .unset] [(.int (2 : Int32)), (.int (0 : Int32)), (.ref b)])) rfl (by rw [hml]; rfl) (argsL := [(.ref b), (.int (0 : Int32)), (.int (2 : Int32))]) (rest := []) (lenOf pd_196 rfl) rfl (by show 2 * 0 + _ ≤ _; exact Nat.le_of_eq rfl) (hb hby d8_23) (fun _ _ => ⟨rfl, rfl, (by decide : 1 + 1 ≤ _), (by decide : 2 + 4 ≤ _)⟩)
    dsimp only [Pt.U, Pt.locs, Pt.cells, Pt.slots] at X_48 l_48 y_48 z_48 st_48 hQ_48
    subst l_48 y_48 z_48
    obtain ⟨a_49, k_50, rfl, N_51, K_52, g_53, g_54⟩ := hQ_48
    have N_55 := Fr.app N_45 N_51
    have O_56 : Old Z n0 T_48.heap := (O_47.keep K_52 all0)
    obtain ⟨_, _, ⟨T_57, L_57, k_57, n_57⟩, -, X_57, ⟨Lc_57, hQ_57, l_57, y_57, z_57⟩, st_57⟩ := Jvm.LawKit.callS X_48 hx (y := M120) hown (mvT hZ (w92 hw)) (mvT hZ (w93 hw)) (mvT hZ (w68 hw)) (mvT hZ (w94 hw)) (by decide) (backOf (W := 0) (rm_get_2_1 l Z a0 hw [] G1 HG T_48.heap n0 O_56 a_49 k_50 (own_lo8z c0) (own_hi8 c0) (own_lo8z c1) (own_hi8 c1) g_54) hZ (w94 hw) (w68 hw) (by decide) (by decide)) (g := (mkF m 32 #[.val (.ref b), .val (.int (0 : Int32)), .val (.int (2 : Int32)), .val (.ref a_9), .val (.int (1 : Int32)), .val (.ref a_49)] [(.int (1 : Int32)), (.ref a_49)])) rfl (by rw [hml]; rfl) (argsL := [(.ref a_49), (.int (1 : Int32))]) (rest := []) (lenOf pd_204 rfl) rfl (by show 2 * 0 + _ ≤ _; exact Nat.le_of_eq rfl) (hb hby d8_32) (fun _ _ => ⟨rfl, rfl, (by decide : 2 + 0 ≤ _), (by decide : 6 + 0 ≤ _)⟩)
    dsimp only [Pt.U, Pt.locs, Pt.cells, Pt.slots] at X_57 l_57 y_57 z_57 st_57 hQ_57
    subst l_57 y_57 z_57
    obtain ⟨rfl, N_58, e_59⟩ := hQ_57
    have N_60 := Fr.app N_55 N_58
    have e_61 : T_57.heap = T_48.heap := e_59
    have C_62 : Steps p.tables e below S0 (T_57.setTop (mkF m 56 #[.val (.ref b), .val (.int (0 : Int32)), .val (.int (2 : Int32)), .val (.ref a_9), .val (.int (1 : Int32)), .val (.ref a_49)] [(.ref a_49)])) := by
      refine C_16.trans ?_
      refine st_15 _ ?_
      refine XS.istore X_15.here hx rfl (hb hby d8_12) rfl (l' := #[.val (.ref b), .val (.int (0 : Int32)), .val (.int (2 : Int32)), .val (.ref a_9), .val (.int (1 : Int32)), .unset]) rfl ?_
      refine XS.iload X_15.here hx rfl (hb hby d8_14) rfl ?_
      refine XS.iloadN X_15.here hx rfl (hb hby d8_16) rfl ?_
      refine XS.icmpNo X_15.here hx rfl (hb hby d8_17) rfl (by decide) ?_
      refine XS.aloadN X_15.here hx rfl (hb hby d8_20) rfl rfl ?_
      refine XS.iloadN X_15.here hx rfl (hb hby d8_21) rfl ?_
      refine XS.iloadN X_15.here hx rfl (hb hby d8_22) rfl ?_
      show Steps p.tables e below (T_15.setTop (mkF m 23 #[.val (.ref b), .val (.int (0 : Int32)), .val (.int (2 : Int32)), .val (.ref a_9), .val (.int (1 : Int32)), .unset] [(.int (2 : Int32)), (.int (0 : Int32)), (.ref b)])) _
      refine st_48 _ ?_
      refine XS.astore X_48.here hx rfl (hb hby d8_26) rfl rfl (l' := #[.val (.ref b), .val (.int (0 : Int32)), .val (.int (2 : Int32)), .val (.ref a_9), .val (.int (1 : Int32)), .val (.ref a_49)]) rfl ?_
      refine XS.aload X_48.here hx rfl (hb hby d8_28) rfl rfl ?_
      refine XS.iload X_48.here hx rfl (hb hby d8_30) rfl ?_
      refine st_57 _ ?_
      refine XS.sipush X_57.here hx rfl (hb hby d8_35) ?_
      refine XS.icmpYes X_57.here hx rfl (pc0 := 38) (pc' := 54) rfl (hb hby d8_38) rfl (ii_gt_t (by rw [own_pair_says hl1 hm1]; exact g_44)) (by decide) (by decide) ?_
      refine XS.aload X_57.here hx rfl (hb hby d8_54) rfl rfl ?_
      show Steps p.tables e below (T_57.setTop (mkF m 56 #[.val (.ref b), .val (.int (0 : Int32)), .val (.int (2 : Int32)), .val (.ref a_9), .val (.int (1 : Int32)), .val (.ref a_49)] [(.ref a_49)])) _
      exact Steps.refl _
    have K_63 : Keep h0 T_48.heap [] := ((((Keep.refl _ _).ext E_6).trans K_43 (allS (Or.inr (Nat.le_trans (Nat.le_refl _) (Nat.le_of_eq g_10.symm))) all0)).trans K_52 all0)
    obtain ⟨fs, hr, hrun, hended, hW, hsame⟩ := X_57.leave (v := some (.ref a_49)) (fun h => by rw [Bd.returns] at h; cases h)
    refine ⟨_, _, C_62.trans (retOut X_57 hx Bd.returns rfl (Or.inr (Or.inr (Or.inr (Or.inr ⟨rfl, rfl, rfl⟩)))) (hb hby d8_56) hr), hrun, hended, _, _, rfl, ?_, ⟨_, rfl⟩, hW, hsame.mono (by decide) (by decide)⟩
    show Q_cmp3u_2 Z G1 b k c0 c1 h0 n0 (some (.ref a_49)) T_57.heap _
    rw [e_61]
    exact Or.inr (⟨a_49, k_50, rfl, N_60, K_63, (Nat.le_trans (Nat.le_trans E_6.1 K_43.1) g_53), g_54⟩)
  · skip
    obtain ⟨rfl, N_64, K_65, g_66, g_67, g_68⟩ := hQ_19
    have N_69 := Fr.app N0 N_64
    have C_70 : Steps p.tables e below S0 (T_15.setTop (mkF m 58 #[.val (.ref b), .val (.int (0 : Int32)), .val (.int (2 : Int32)), .val (.ref a_9), .val (.int (2 : Int32)), .unset] [(.ref a_9)])) := by
      refine C_16.trans ?_
      refine st_15 _ ?_
      refine XS.istore X_15.here hx rfl (hb hby d8_12) rfl (l' := #[.val (.ref b), .val (.int (0 : Int32)), .val (.int (2 : Int32)), .val (.ref a_9), .val (.int (2 : Int32)), .unset]) rfl ?_
      refine XS.iload X_15.here hx rfl (hb hby d8_14) rfl ?_
      refine XS.iloadN X_15.here hx rfl (hb hby d8_16) rfl ?_
      refine XS.icmpYes X_15.here hx rfl (pc0 := 17) (pc' := 57) rfl (hb hby d8_17) rfl (by decide) (by decide) (by decide) ?_
      refine XS.aloadN X_15.here hx rfl (hb hby d8_57) rfl rfl ?_
      exact Steps.refl _
    have K_71 : Keep h0 T_15.heap [] := (((Keep.refl _ _).ext E_6).trans K_65 (allS (Or.inr (Nat.le_trans (Nat.le_refl _) (Nat.le_of_eq g_10.symm))) all0))
    obtain ⟨fs, hr, hrun, hended, hW, hsame⟩ := X_15.leave (v := some (.ref a_9)) (fun h => by rw [Bd.returns] at h; cases h)
    refine ⟨_, _, C_70.trans (retOut X_15 hx Bd.returns rfl (Or.inr (Or.inr (Or.inr (Or.inr ⟨rfl, rfl, rfl⟩)))) (hb hby d8_58) hr), hrun, hended, _, _, rfl, ?_, ⟨_, rfl⟩, hW, hsame.mono (by decide) (by decide)⟩
    show Q_cmp3u_2 Z G1 b k c0 c1 h0 n0 (some (.ref a_9)) T_15.heap _
    exact Or.inl ⟨a_9, k_3, rfl, N_69, K_71, (Nat.le_trans (Nat.le_refl _) (Nat.le_of_eq g_10.symm)), g_66⟩
abbrev M214 : MethodName := ⟨"java/lang/StringUTF16", "coderFromArrayLen", "([BI)B"⟩
theorem d9_0 : decode jdk_52_method_15_code 0 = .ok (.iload_n 1, 1) := by decide +kernel
theorem d9_1 : decode jdk_52_method_15_code 1 = .ok (.aload_n 0, 1) := by decide +kernel
theorem d9_2 : decode jdk_52_method_15_code 2 = .ok (.arraylength, 1) := by decide +kernel
theorem d9_3 : decode jdk_52_method_15_code 3 = .ok (.isub, 1) := by decide +kernel
theorem d9_4 : decode jdk_52_method_15_code 4 = .ok (.bipush 31, 2) := by decide +kernel
theorem d9_6 : decode jdk_52_method_15_code 6 = .ok (.iushr, 1) := by decide +kernel
theorem d9_7 : decode jdk_52_method_15_code 7 = .ok (.i2b, 1) := by decide +kernel
theorem d9_8 : decode jdk_52_method_15_code 8 = .ok (.ireturn, 1) := by decide +kernel
abbrev R_codl_2 : Room := { frames := 0, cells := 0, slots := 0, locals := 0 }
def Q_codl_2 (Z : State) (G1 : Int32) (t : Addr) (kt : ClassId) (y0 : Int32) (y1 : Int32) (h0 : Heap) (n0 : Nat) (v : Option Value) (h : Heap) (L : List Loc) : Prop := (v = some (.int (0 : Int32)) ∧ Fr n0 L ∧ h = h0)
set_option maxRecDepth 65536 in
set_option maxHeartbeats 40000000 in
theorem rm_codl_2 (l : Launch) (Z : State) (a0 : Array Value) (hw : ∀ d ∈ tables_1, d.before a0 Z = true) (ws : List Jvm.Cond) (G1 : Int32) (HG : own_G l Z a0 G1) (h0 : Heap) (n0 : Nat) (X00 : Old Z n0 h0) (t : Addr) (kt : ClassId) (y0 : Int32) (y1 : Int32) (hp0 : Arv Z h0 t kt .byte (2 : Int32) [(.int y0), (.int y1)] (.int (0 : Int32))) :
    own_CP l Z M214 jdk_52_method_15_code 2 (some .byte) ws R_codl_2 #[(.ref t), (.int (2 : Int32))] h0 (Q_codl_2 Z G1 t kt y0 y1 h0 n0) := by
  refine own_P (plainFor_of_name pn_42) ?_
  intro p e s m below meth c s₁ S0 Bd hZ hh hx hby hml hown hnm X0 e0 hS0d
  obtain ⟨O1, P1, OAD, OHI, OLO⟩ := id HG
  have N0 := Fr.nil n0
  have C0 : Steps p.tables e below S0 (s₁.setTop (mkF m 0 #[.val (.ref t), .val (.int (2 : Int32))] [])) := by rw [hS0d]; exact castTop (ef_121 m t (2 : Int32)) (Steps.refl _)
  obtain ⟨c_1, A_2, q_3, S_4, M_5, H_6, U_7⟩ := id hp0
  have C_8 : Steps p.tables e below S0 (s₁.setTop (mkF m 8 #[.val (.ref t), .val (.int (2 : Int32))] [(.int (0 : Int32))])) := by
    refine C0.trans ?_
    refine XS.iloadN X0.here hx rfl (hb hby d9_0) rfl ?_
    refine XS.aloadN X0.here hx rfl (hb hby d9_1) rfl rfl ?_
    refine X0.arraylength hx (by rw [e0]; exact A_2.1) (State.isArrayOf_alike hZ.alike A_2.2.1) (g := (mkF m 2 #[.val (.ref t), .val (.int (2 : Int32))] [(.ref t), (.int (2 : Int32))])) rfl rfl (hb hby d9_2) _ ?_
    rw [len_of S_4 M_5]
    refine XS.isub X0.here hx rfl (hb hby d9_3) rfl ?_
    refine XS.bipush X0.here hx rfl (hb hby d9_4) ?_
    refine XS.iushr X0.here hx rfl (hb hby d9_6) rfl ?_
    refine XS.i2b X0.here hx rfl (hb hby d9_7) rfl ?_
    exact Steps.refl _
  obtain ⟨fs, hr, hrun, hended, hW, hsame⟩ := X0.leave (v := some (.int (0 : Int32))) (fun h => by rw [Bd.returns] at h; cases h)
  refine ⟨_, _, C_8.trans (retN X0 hx (t := .byte) Bd.returns (by simp) (hb hby d9_8) hr), hrun, hended, _, _, rfl, ?_, ⟨_, rfl⟩, hW, hsame.mono (by decide) (by decide)⟩
  show Q_codl_2 Z G1 t kt y0 y1 h0 n0 (some (.int (0 : Int32))) s₁.heap _
  rw [e0]
  exact ⟨rfl, N0, rfl⟩
abbrev R_codu_2 : Room := { frames := 0, cells := 0, slots := 0, locals := 0 }
def Q_codu_2 (Z : State) (G1 : Int32) (t : Addr) (kt : ClassId) (y0 : Int32) (y1 : Int32) (y2 : Int32) (y3 : Int32) (h0 : Heap) (n0 : Nat) (v : Option Value) (h : Heap) (L : List Loc) : Prop := (v = some (.int (1 : Int32)) ∧ Fr n0 L ∧ h = h0)
set_option maxRecDepth 65536 in
set_option maxHeartbeats 40000000 in
theorem rm_codu_2 (l : Launch) (Z : State) (a0 : Array Value) (hw : ∀ d ∈ tables_1, d.before a0 Z = true) (ws : List Jvm.Cond) (G1 : Int32) (HG : own_G l Z a0 G1) (h0 : Heap) (n0 : Nat) (X00 : Old Z n0 h0) (t : Addr) (kt : ClassId) (y0 : Int32) (y1 : Int32) (y2 : Int32) (y3 : Int32) (hp0 : Arv Z h0 t kt .byte (4 : Int32) [(.int y0), (.int y1), (.int y2), (.int y3)] (.int (0 : Int32))) :
    own_CP l Z M214 jdk_52_method_15_code 2 (some .byte) ws R_codu_2 #[(.ref t), (.int (2 : Int32))] h0 (Q_codu_2 Z G1 t kt y0 y1 y2 y3 h0 n0) := by
  refine own_P (plainFor_of_name pn_42) ?_
  intro p e s m below meth c s₁ S0 Bd hZ hh hx hby hml hown hnm X0 e0 hS0d
  obtain ⟨O1, P1, OAD, OHI, OLO⟩ := id HG
  have N0 := Fr.nil n0
  have C0 : Steps p.tables e below S0 (s₁.setTop (mkF m 0 #[.val (.ref t), .val (.int (2 : Int32))] [])) := by rw [hS0d]; exact castTop (ef_121 m t (2 : Int32)) (Steps.refl _)
  obtain ⟨c_1, A_2, q_3, S_4, M_5, H_6, U_7⟩ := id hp0
  have C_8 : Steps p.tables e below S0 (s₁.setTop (mkF m 8 #[.val (.ref t), .val (.int (2 : Int32))] [(.int (1 : Int32))])) := by
    refine C0.trans ?_
    refine XS.iloadN X0.here hx rfl (hb hby d9_0) rfl ?_
    refine XS.aloadN X0.here hx rfl (hb hby d9_1) rfl rfl ?_
    refine X0.arraylength hx (by rw [e0]; exact A_2.1) (State.isArrayOf_alike hZ.alike A_2.2.1) (g := (mkF m 2 #[.val (.ref t), .val (.int (2 : Int32))] [(.ref t), (.int (2 : Int32))])) rfl rfl (hb hby d9_2) _ ?_
    rw [len_of S_4 M_5]
    refine XS.isub X0.here hx rfl (hb hby d9_3) rfl ?_
    refine XS.bipush X0.here hx rfl (hb hby d9_4) ?_
    refine XS.iushr X0.here hx rfl (hb hby d9_6) rfl ?_
    refine XS.i2b X0.here hx rfl (hb hby d9_7) rfl ?_
    exact Steps.refl _
  obtain ⟨fs, hr, hrun, hended, hW, hsame⟩ := X0.leave (v := some (.int (1 : Int32))) (fun h => by rw [Bd.returns] at h; cases h)
  refine ⟨_, _, C_8.trans (retN X0 hx (t := .byte) Bd.returns (by simp) (hb hby d9_8) hr), hrun, hended, _, _, rfl, ?_, ⟨_, rfl⟩, hW, hsame.mono (by decide) (by decide)⟩
  show Q_codu_2 Z G1 t kt y0 y1 y2 y3 h0 n0 (some (.int (1 : Int32))) s₁.heap _
  rw [e0]
  exact ⟨rfl, N0, rfl⟩
theorem w65 {Z : State} {a0 : Array Value} (hw : ∀ d ∈ tables_1, d.before a0 Z = true) : Jvm.Cond.before (Jvm.Cond.fieldLink "java/lang/String" (38 : Nat) "java/lang/String" "COMPACT_STRINGS" "Z") a0 Z = true := hw _ (List.mem_of_getElem? (i := 65) rfl)
theorem d0_27 : decode jdk_42_method_149_code 27 = .ok (.getstatic 38, 3) := by decide +kernel
theorem d0_30 : decode jdk_42_method_149_code 30 = .ok (.ifCond .eq 28, 3) := by decide +kernel
theorem d0_33 : decode jdk_42_method_149_code 33 = .ok (.aload_n 1, 1) := by decide +kernel
theorem d0_34 : decode jdk_42_method_149_code 34 = .ok (.iload_n 2, 1) := by decide +kernel
theorem d0_35 : decode jdk_42_method_149_code 35 = .ok (.iload_n 3, 1) := by decide +kernel
theorem w69 {Z : State} {a0 : Array Value} (hw : ∀ d ∈ tables_1, d.before a0 Z = true) : Jvm.Cond.before (Jvm.Cond.code ({ cls := "java/lang/StringUTF16", name := "compress", desc := "([CII)[B" } : Jvm.MethodName) jdk_52_method_16_code (6 : Nat) (Option.some (Jvm.ClassFile.FieldType.array Jvm.ClassFile.FieldType.byte))) a0 Z = true := hw _ (List.mem_of_getElem? (i := 69) rfl)
theorem d0_36 : decode jdk_42_method_149_code 36 = .ok (.invokestatic 177, 3) := by decide +kernel
theorem w66 {Z : State} {a0 : Array Value} (hw : ∀ d ∈ tables_1, d.before a0 Z = true) : Jvm.Cond.before (Jvm.Cond.methodLink "java/lang/String" (177 : Nat) ({ cls := "java/lang/StringUTF16", name := "compress", desc := "([CII)[B" } : Jvm.MethodName)) a0 Z = true := hw _ (List.mem_of_getElem? (i := 66) rfl)
theorem w67 {Z : State} {a0 : Array Value} (hw : ∀ d ∈ tables_1, d.before a0 Z = true) : Jvm.Cond.before (Jvm.Cond.static ({ cls := "java/lang/StringUTF16", name := "compress", desc := "([CII)[B" } : Jvm.MethodName)) a0 Z = true := hw _ (List.mem_of_getElem? (i := 67) rfl)
theorem d0_39 : decode jdk_42_method_149_code 39 = .ok (.astore 5, 2) := by decide +kernel
theorem d0_41 : decode jdk_42_method_149_code 41 = .ok (.aload_n 0, 1) := by decide +kernel
theorem d0_42 : decode jdk_42_method_149_code 42 = .ok (.aload 5, 2) := by decide +kernel
theorem d0_44 : decode jdk_42_method_149_code 44 = .ok (.iload_n 3, 1) := by decide +kernel
theorem w75 {Z : State} {a0 : Array Value} (hw : ∀ d ∈ tables_1, d.before a0 Z = true) : Jvm.Cond.before (Jvm.Cond.code ({ cls := "java/lang/StringUTF16", name := "coderFromArrayLen", desc := "([BI)B" } : Jvm.MethodName) jdk_52_method_15_code (2 : Nat) (Option.some Jvm.ClassFile.FieldType.byte)) a0 Z = true := hw _ (List.mem_of_getElem? (i := 75) rfl)
theorem pd_238 : parseMethodDescriptor "([BI)B" = some ⟨[(.array .byte), .int], some .byte⟩ := by decide +kernel
theorem d0_45 : decode jdk_42_method_149_code 45 = .ok (.invokestatic 47, 3) := by decide +kernel
theorem w73 {Z : State} {a0 : Array Value} (hw : ∀ d ∈ tables_1, d.before a0 Z = true) : Jvm.Cond.before (Jvm.Cond.methodLink "java/lang/String" (47 : Nat) ({ cls := "java/lang/StringUTF16", name := "coderFromArrayLen", desc := "([BI)B" } : Jvm.MethodName)) a0 Z = true := hw _ (List.mem_of_getElem? (i := 73) rfl)
theorem w74 {Z : State} {a0 : Array Value} (hw : ∀ d ∈ tables_1, d.before a0 Z = true) : Jvm.Cond.before (Jvm.Cond.static ({ cls := "java/lang/StringUTF16", name := "coderFromArrayLen", desc := "([BI)B" } : Jvm.MethodName)) a0 Z = true := hw _ (List.mem_of_getElem? (i := 74) rfl)
theorem d0_48 : decode jdk_42_method_149_code 48 = .ok (.putfield 15, 3) := by decide +kernel
theorem d0_51 : decode jdk_42_method_149_code 51 = .ok (.aload_n 0, 1) := by decide +kernel
theorem d0_52 : decode jdk_42_method_149_code 52 = .ok (.aload 5, 2) := by decide +kernel
theorem d0_54 : decode jdk_42_method_149_code 54 = .ok (.putfield 9, 3) := by decide +kernel
theorem d0_57 : decode jdk_42_method_149_code 57 = .ok (.return_, 1) := by decide +kernel
abbrev R_si4u_2 : Room := { frames := 4, cells := 2, slots := 6, locals := 57 }
def Q_si4u_2 (Z : State) (G1 : Int32) (x : Addr) (b : Addr) (k : ClassId) (c0 : Int32) (c1 : Int32) (h0 : Heap) (n0 : Nat) (v : Option Value) (h : Heap) (L : List Loc) : Prop := (∃ t : Addr, ∃ kt : ClassId, v = none ∧ Fr n0 L ∧ Keep h0 h [x] ∧ (Exa Z h x "java/lang/String") ∧ (Fld Z h x "java/lang/String" "coder" "B" (.int (0 : Int32))) ∧ (Fld Z h x "java/lang/String" "value" "[B" (.ref t)) ∧ (h0.size ≤ t) ∧ (Arv Z h t kt .byte (2 : Int32) [(.int (own_lo8 c0)), (.int (own_lo8 c1))] (.int (0 : Int32)))) ∨ (∃ t : Addr, ∃ kt : ClassId, v = none ∧ Fr n0 L ∧ Keep h0 h [x] ∧ (Exa Z h x "java/lang/String") ∧ (Fld Z h x "java/lang/String" "coder" "B" (.int (1 : Int32))) ∧ (Fld Z h x "java/lang/String" "value" "[B" (.ref t)) ∧ (h0.size ≤ t) ∧ (Arv Z h t kt .byte (4 : Int32) [(.int (own_lo8z c0)), (.int (own_hi8 c0)), (.int (own_lo8z c1)), (.int (own_hi8 c1))] (.int (0 : Int32))))
set_option maxRecDepth 65536 in
set_option maxHeartbeats 40000000 in
theorem rm_si4u_2 (l : Launch) (Z : State) (a0 : Array Value) (hw : ∀ d ∈ tables_1, d.before a0 Z = true) (ws : List Jvm.Cond) (G1 : Int32) (HG : own_G l Z a0 G1) (h0 : Heap) (n0 : Nat) (X00 : Old Z n0 h0) (x : Addr) (b : Addr) (k : ClassId) (c0 : Int32) (c1 : Int32) (hp0 : Exa Z h0 x "java/lang/String") (hp1 : Fld Z h0 x "java/lang/String" "value" "[B" .null) (hp2 : Fld Z h0 x "java/lang/String" "coder" "B" (.int (0 : Int32))) (hp3 : n0 ≤ x) (hp4 : Arv Z h0 b k .char (2 : Int32) [(.int c0), (.int c1)] (.int (0 : Int32))) (hl0 : ¬ (c0 < (0 : Int32))) (hl1 : ¬ (c1 < (0 : Int32))) (hm0 : ¬ ((65535 : Int32) < c0)) (hm1 : ¬ ((65535 : Int32) < c1)) :
    own_CP l Z M0 jdk_42_method_149_code 6 none ws R_si4u_2 #[(.ref x), (.ref b), (.int (0 : Int32)), (.int (2 : Int32)), .null] h0 (Q_si4u_2 Z G1 x b k c0 c1 h0 n0) := by
  refine own_P (plainFor_of_name pn_2) ?_
  intro p e s m below meth c s₁ S0 Bd hZ hh hx hby hml hown hnm X0 e0 hS0d
  obtain ⟨O1, P1, OAD, OHI, OLO⟩ := id HG
  have N0 := Fr.nil n0
  have C0 : Steps p.tables e below S0 (s₁.setTop (mkF m 0 #[.val (.ref x), .val (.ref b), .val (.int (0 : Int32)), .val (.int (2 : Int32)), .val .null, .unset] [])) := by rw [hS0d]; exact castTop (ef_1 m x b (0 : Int32) (2 : Int32)) (Steps.refl _)
  obtain ⟨T_1, X_2, e_3, st_4⟩ := initO X0 hx hZ hown (w16 hw) (w17 hw) (w18 hw) e0 (g := (mkF m 1 #[.val (.ref x), .val (.ref b), .val (.int (0 : Int32)), .val (.int (2 : Int32)), .val .null, .unset] [(.ref x)])) rfl (by rw [hml]; rfl) rfl (hb hby d0_1) (by decide) (W := 0) (by show 2 * 0 + _ ≤ _; exact Nat.le_of_eq rfl) (by decide)
  obtain ⟨T_5, X_6, e_7, st_8⟩ := getS X_2 hx hZ (host := "") hown (w65 hw) Via.refl e_3 (O1.ext X00.2) (g := (mkF m 27 #[.val (.ref x), .val (.ref b), .val (.int (0 : Int32)), .val (.int (2 : Int32)), .val .null, .unset] [])) rfl (hb hby d0_27)
  obtain ⟨_, _, ⟨T_9, L_9, k_9, n_9⟩, -, X_9, ⟨Lc_9, hQ_9, l_9, y_9, z_9⟩, st_9⟩ := Jvm.LawKit.callS X_6 hx (y := M173) hown (mvT hZ (w66 hw)) (mvT hZ (w67 hw)) (mvT hZ (w68 hw)) (mvT hZ (w69 hw)) (by decide) (backOf (W := 0) (rm_cmp3u_2 l Z a0 hw [] G1 HG h0 n0 X00 b k c0 c1 hp4 hl0 hl1 hm0 hm1) hZ (w69 hw) (w68 hw) (by decide) (by decide)) (g := (mkF m 36 #[.val (.ref x), .val (.ref b), .val (.int (0 : Int32)), .val (.int (2 : Int32)), .val .null, .unset] [(.int (2 : Int32)), (.int (0 : Int32)), (.ref b)])) rfl (by rw [hml]; rfl) (argsL := [(.ref b), (.int (0 : Int32)), (.int (2 : Int32))]) (rest := []) (lenOf pd_196 rfl) rfl (by show 2 * 0 + _ ≤ _; exact Nat.le_of_eq rfl) (hb hby d0_36) (fun _ _ => ⟨rfl, e_7, (by decide : 0 + 2 ≤ _), (by decide : 0 + 6 ≤ _)⟩)
  dsimp only [Pt.U, Pt.locs, Pt.cells, Pt.slots] at X_9 l_9 y_9 z_9 st_9 hQ_9
  subst l_9 y_9 z_9
  have C_10 : Steps p.tables e below S0 (T_5.setTop (mkF m 36 #[.val (.ref x), .val (.ref b), .val (.int (0 : Int32)), .val (.int (2 : Int32)), .val .null, .unset] [(.int (2 : Int32)), (.int (0 : Int32)), (.ref b)])) := by
    refine C0.trans ?_
    refine XS.aloadN X0.here hx rfl (hb hby d0_0) rfl rfl ?_
    refine st_4 _ ?_
    refine XS.iloadN X_2.here hx rfl (hb hby d0_4) rfl ?_
    refine XS.ifYes X_2.here hx rfl (pc0 := 5) (pc' := 27) rfl (hb hby d0_5) rfl (by decide) (by decide) (by decide) ?_
    refine st_8 _ ?_
    refine XS.ifNo X_6.here hx rfl (hb hby d0_30) rfl (i0_eq_f P1) ?_
    refine XS.aloadN X_6.here hx rfl (hb hby d0_33) rfl rfl ?_
    refine XS.iloadN X_6.here hx rfl (hb hby d0_34) rfl ?_
    show Steps p.tables e below (T_5.setTop (mkF m 35 #[.val (.ref x), .val (.ref b), .val (.int (0 : Int32)), .val (.int (2 : Int32)), .val .null, .unset] [(.int (0 : Int32)), (.ref b)])) _
    refine XS.iloadN X_6.here hx rfl (hb hby d0_35) rfl ?_
    exact Steps.refl _
  rcases hQ_9 with hQ_11 | hQ_12
  · skip
    obtain ⟨a_13, k_14, rfl, N_15, K_16, g_17, g_18⟩ := hQ_11
    have N_19 := Fr.app N0 N_15
    have O_20 : Old Z n0 T_9.heap := (X00.keep K_16 all0)
    obtain ⟨_, _, ⟨T_21, L_21, k_21, n_21⟩, -, X_21, ⟨Lc_21, hQ_21, l_21, y_21, z_21⟩, st_21⟩ := Jvm.LawKit.callS X_9 hx (y := M214) hown (mvT hZ (w73 hw)) (mvT hZ (w74 hw)) (mvT hZ (w68 hw)) (mvT hZ (w75 hw)) (by decide) (backOf (W := 1) (rm_codl_2 l Z a0 hw [] G1 HG T_9.heap n0 O_20 a_13 k_14 (own_lo8 c0) (own_lo8 c1) g_18) hZ (w75 hw) (w68 hw) (by decide) (by decide)) (g := (mkF m 45 #[.val (.ref x), .val (.ref b), .val (.int (0 : Int32)), .val (.int (2 : Int32)), .val .null, .val (.ref a_13)] [(.int (2 : Int32)), (.ref a_13), (.ref x)])) rfl (by rw [hml]; rfl) (argsL := [(.ref a_13), (.int (2 : Int32))]) (rest := [(.ref x)]) (lenOf pd_238 rfl) rfl (by show 2 * 0 + _ ≤ _; exact Nat.le_of_eq rfl) (hb hby d0_45) (fun _ _ => ⟨rfl, rfl, (by decide : 2 + 0 ≤ _), (by decide : 6 + 0 ≤ _)⟩)
    dsimp only [Pt.U, Pt.locs, Pt.cells, Pt.slots] at X_21 l_21 y_21 z_21 st_21 hQ_21
    subst l_21 y_21 z_21
    obtain ⟨rfl, N_22, e_23⟩ := hQ_21
    have N_24 := Fr.app N_19 N_22
    have e_25 : T_21.heap = T_9.heap := e_23
    have F_26 : Fld Z T_9.heap x "java/lang/String" "coder" "B" (.int (0 : Int32)) := (hp2.keep K_16 nin0)
    have E_27 : Exa Z T_9.heap x "java/lang/String" := (hp0.keep K_16)
    obtain ⟨T_28, h_29, X_30, e_31, W_32, st_33⟩ := putF X_21 hx hZ hown (host := "") (Or.inl (w26 hw)) Via.refl e_25 F_26 E_27 (Or.inr ⟨(w22 hw), rfl, hnm⟩) (w6 hw) (ty := .byte) (by decide) rfl (by decide) (g := (mkF m 48 #[.val (.ref x), .val (.ref b), .val (.int (0 : Int32)), .val (.int (2 : Int32)), .val .null, .val (.ref a_13)] [(.int (0 : Int32)), (.ref x)])) rfl rfl (hb hby d0_48)
    have N_34 := Fr.snoc X_30 N_24 hp3
    have F_35 : Fld Z h_29 x "java/lang/String" "coder" "B" (.int (0 : Int32)) := F_26.same W_32
    have F_36 : Fld Z h_29 x "java/lang/String" "value" "[B" .null := ((hp1.keep K_16 nin0).other W_32 (Or.inr (slot_ne (Or.inr (w21 hw)) (Or.inr (w22 hw)) (by decide) (t := (.array .byte)) (by decide) (t' := .byte) (by decide))))
    have E_37 : Exa Z h_29 x "java/lang/String" := (E_27.wr W_32)
    obtain ⟨T_38, h_39, X_40, e_41, W_42, st_43⟩ := putF X_30 hx hZ hown (host := "") (Or.inl (w25 hw)) Via.refl e_31 F_36 E_37 (Or.inr ⟨(w21 hw), rfl, hnm⟩) (w6 hw) (ty := (.array .byte)) (by decide) rfl rfl (g := (mkF m 54 #[.val (.ref x), .val (.ref b), .val (.int (0 : Int32)), .val (.int (2 : Int32)), .val .null, .val (.ref a_13)] [(.ref a_13), (.ref x)])) rfl rfl (hb hby d0_54)
    have N_44 := Fr.snoc X_40 N_34 hp3
    have F_45 : Fld Z h_39 x "java/lang/String" "value" "[B" (.ref a_13) := F_36.same W_42
    have C_46 : Steps p.tables e below S0 (T_38.setTop (mkF m 57 #[.val (.ref x), .val (.ref b), .val (.int (0 : Int32)), .val (.int (2 : Int32)), .val .null, .val (.ref a_13)] [])) := by
      refine C_10.trans ?_
      refine st_9 _ ?_
      refine XS.astore X_9.here hx rfl (hb hby d0_39) rfl rfl (l' := #[.val (.ref x), .val (.ref b), .val (.int (0 : Int32)), .val (.int (2 : Int32)), .val .null, .val (.ref a_13)]) rfl ?_
      refine XS.aloadN X_9.here hx rfl (hb hby d0_41) rfl rfl ?_
      refine XS.aload X_9.here hx rfl (hb hby d0_42) rfl rfl ?_
      refine XS.iloadN X_9.here hx rfl (hb hby d0_44) rfl ?_
      refine st_21 _ ?_
      refine st_33 _ ?_
      refine XS.aloadN X_30.here hx rfl (hb hby d0_51) rfl rfl ?_
      show Steps p.tables e below (T_28.setTop (mkF m 52 #[.val (.ref x), .val (.ref b), .val (.int (0 : Int32)), .val (.int (2 : Int32)), .val .null, .val (.ref a_13)] [(.ref x)])) _
      refine XS.aload X_30.here hx rfl (hb hby d0_52) rfl rfl ?_
      refine st_43 _ ?_
      exact Steps.refl _
    have E_47 : Exa Z h_39 x "java/lang/String" := (E_37.wr W_42)
    have F_48 : Fld Z h_39 x "java/lang/String" "coder" "B" (.int (0 : Int32)) := (F_35.other W_42 (Or.inr (slot_ne (Or.inr (w22 hw)) (Or.inr (w21 hw)) (by decide) (t := .byte) (by decide) (t' := (.array .byte)) (by decide))))
    have V_49 : Arv Z h_39 a_13 k_14 .byte (2 : Int32) [(.int (own_lo8 c0)), (.int (own_lo8 c1))] (.int (0 : Int32)) := ((g_18.other W_32 (Ne.symm (Nat.ne_of_lt (Nat.lt_of_lt_of_le hp0.lt (Nat.le_trans (Nat.le_refl _) g_17))))).other W_42 (Ne.symm (Nat.ne_of_lt (Nat.lt_of_lt_of_le hp0.lt (Nat.le_trans (Nat.le_refl _) g_17)))))
    have K_50 : Keep h0 h_39 [x] := ((((Keep.refl _ _).trans K_16 all0).wr W_32 (Or.inl (List.mem_of_getElem? (i := 0) rfl))).wr W_42 (Or.inl (List.mem_of_getElem? (i := 0) rfl)))
    obtain ⟨fs, hr, hrun, hended, hW, hsame⟩ := X_40.leave (v := none) (fun _ => rfl)
    refine ⟨_, _, C_46.trans (X_40.returnOut hx Bd.returns (hb hby d0_57) hr), hrun, hended, _, _, rfl, ?_, ⟨_, rfl⟩, hW, hsame.mono (by decide) (by decide)⟩
    show Q_si4u_2 Z G1 x b k c0 c1 h0 n0 (none) T_38.heap _
    rw [e_41]
    exact Or.inl ⟨a_13, k_14, rfl, N_44, K_50, E_47, F_48, F_45, (Nat.le_trans (Nat.le_refl _) g_17), V_49⟩
  · skip
    obtain ⟨a_51, k_52, rfl, N_53, K_54, g_55, g_56⟩ := hQ_12
    have N_57 := Fr.app N0 N_53
    have O_58 : Old Z n0 T_9.heap := (X00.keep K_54 all0)
    obtain ⟨_, _, ⟨T_59, L_59, k_59, n_59⟩, -, X_59, ⟨Lc_59, hQ_59, l_59, y_59, z_59⟩, st_59⟩ := Jvm.LawKit.callS X_9 hx (y := M214) hown (mvT hZ (w73 hw)) (mvT hZ (w74 hw)) (mvT hZ (w68 hw)) (mvT hZ (w75 hw)) (by decide) (backOf (W := 1) (rm_codu_2 l Z a0 hw [] G1 HG T_9.heap n0 O_58 a_51 k_52 (own_lo8z c0) (own_hi8 c0) (own_lo8z c1) (own_hi8 c1) g_56) hZ (w75 hw) (w68 hw) (by decide) (by decide)) (g := (mkF m 45 #[.val (.ref x), .val (.ref b), .val (.int (0 : Int32)), .val (.int (2 : Int32)), .val .null, .val (.ref a_51)] [(.int (2 : Int32)), (.ref a_51), (.ref x)])) rfl (by rw [hml]; rfl) (argsL := [(.ref a_51), (.int (2 : Int32))]) (rest := [(.ref x)]) (lenOf pd_238 rfl) rfl (by show 2 * 0 + _ ≤ _; exact Nat.le_of_eq rfl) (hb hby d0_45) (fun _ _ => ⟨rfl, rfl, (by decide : 2 + 0 ≤ _), (by decide : 6 + 0 ≤ _)⟩)
    dsimp only [Pt.U, Pt.locs, Pt.cells, Pt.slots] at X_59 l_59 y_59 z_59 st_59 hQ_59
    subst l_59 y_59 z_59
    obtain ⟨rfl, N_60, e_61⟩ := hQ_59
    have N_62 := Fr.app N_57 N_60
    have e_63 : T_59.heap = T_9.heap := e_61
    have F_64 : Fld Z T_9.heap x "java/lang/String" "coder" "B" (.int (0 : Int32)) := (hp2.keep K_54 nin0)
    have E_65 : Exa Z T_9.heap x "java/lang/String" := (hp0.keep K_54)
    obtain ⟨T_66, h_67, X_68, e_69, W_70, st_71⟩ := putF X_59 hx hZ hown (host := "") (Or.inl (w26 hw)) Via.refl e_63 F_64 E_65 (Or.inr ⟨(w22 hw), rfl, hnm⟩) (w6 hw) (ty := .byte) (by decide) rfl (by decide) (g := (mkF m 48 #[.val (.ref x), .val (.ref b), .val (.int (0 : Int32)), .val (.int (2 : Int32)), .val .null, .val (.ref a_51)] [(.int (1 : Int32)), (.ref x)])) rfl rfl (hb hby d0_48)
    have N_72 := Fr.snoc X_68 N_62 hp3
    have F_73 : Fld Z h_67 x "java/lang/String" "coder" "B" (.int (1 : Int32)) := F_64.same W_70
    have F_74 : Fld Z h_67 x "java/lang/String" "value" "[B" .null := ((hp1.keep K_54 nin0).other W_70 (Or.inr (slot_ne (Or.inr (w21 hw)) (Or.inr (w22 hw)) (by decide) (t := (.array .byte)) (by decide) (t' := .byte) (by decide))))
    have E_75 : Exa Z h_67 x "java/lang/String" := (E_65.wr W_70)
    obtain ⟨T_76, h_77, X_78, e_79, W_80, st_81⟩ := putF X_68 hx hZ hown (host := "") (Or.inl (w25 hw)) Via.refl e_69 F_74 E_75 (Or.inr ⟨(w21 hw), rfl, hnm⟩) (w6 hw) (ty := (.array .byte)) (by decide) rfl rfl (g := (mkF m 54 #[.val (.ref x), .val (.ref b), .val (.int (0 : Int32)), .val (.int (2 : Int32)), .val .null, .val (.ref a_51)] [(.ref a_51), (.ref x)])) rfl rfl (hb hby d0_54)
    have N_82 := Fr.snoc X_78 N_72 hp3
    have F_83 : Fld Z h_77 x "java/lang/String" "value" "[B" (.ref a_51) := F_74.same W_80
    have C_84 : Steps p.tables e below S0 (T_76.setTop (mkF m 57 #[.val (.ref x), .val (.ref b), .val (.int (0 : Int32)), .val (.int (2 : Int32)), .val .null, .val (.ref a_51)] [])) := by
      refine C_10.trans ?_
      refine st_9 _ ?_
      refine XS.astore X_9.here hx rfl (hb hby d0_39) rfl rfl (l' := #[.val (.ref x), .val (.ref b), .val (.int (0 : Int32)), .val (.int (2 : Int32)), .val .null, .val (.ref a_51)]) rfl ?_
      refine XS.aloadN X_9.here hx rfl (hb hby d0_41) rfl rfl ?_
      refine XS.aload X_9.here hx rfl (hb hby d0_42) rfl rfl ?_
      refine XS.iloadN X_9.here hx rfl (hb hby d0_44) rfl ?_
      refine st_59 _ ?_
      refine st_71 _ ?_
      refine XS.aloadN X_68.here hx rfl (hb hby d0_51) rfl rfl ?_
      show Steps p.tables e below (T_66.setTop (mkF m 52 #[.val (.ref x), .val (.ref b), .val (.int (0 : Int32)), .val (.int (2 : Int32)), .val .null, .val (.ref a_51)] [(.ref x)])) _
      refine XS.aload X_68.here hx rfl (hb hby d0_52) rfl rfl ?_
      refine st_81 _ ?_
      exact Steps.refl _
    have E_85 : Exa Z h_77 x "java/lang/String" := (E_75.wr W_80)
    have F_86 : Fld Z h_77 x "java/lang/String" "coder" "B" (.int (1 : Int32)) := (F_73.other W_80 (Or.inr (slot_ne (Or.inr (w22 hw)) (Or.inr (w21 hw)) (by decide) (t := .byte) (by decide) (t' := (.array .byte)) (by decide))))
    have V_87 : Arv Z h_77 a_51 k_52 .byte (4 : Int32) [(.int (own_lo8z c0)), (.int (own_hi8 c0)), (.int (own_lo8z c1)), (.int (own_hi8 c1))] (.int (0 : Int32)) := ((g_56.other W_70 (Ne.symm (Nat.ne_of_lt (Nat.lt_of_lt_of_le hp0.lt (Nat.le_trans (Nat.le_refl _) g_55))))).other W_80 (Ne.symm (Nat.ne_of_lt (Nat.lt_of_lt_of_le hp0.lt (Nat.le_trans (Nat.le_refl _) g_55)))))
    have K_88 : Keep h0 h_77 [x] := ((((Keep.refl _ _).trans K_54 all0).wr W_70 (Or.inl (List.mem_of_getElem? (i := 0) rfl))).wr W_80 (Or.inl (List.mem_of_getElem? (i := 0) rfl)))
    obtain ⟨fs, hr, hrun, hended, hW, hsame⟩ := X_78.leave (v := none) (fun _ => rfl)
    refine ⟨_, _, C_84.trans (X_78.returnOut hx Bd.returns (hb hby d0_57) hr), hrun, hended, _, _, rfl, ?_, ⟨_, rfl⟩, hW, hsame.mono (by decide) (by decide)⟩
    show Q_si4u_2 Z G1 x b k c0 c1 h0 n0 (none) T_76.heap _
    rw [e_79]
    exact Or.inr (⟨a_51, k_52, rfl, N_82, K_88, E_85, F_86, F_83, (Nat.le_trans (Nat.le_refl _) g_55), V_87⟩)
abbrev R_si1u_2 : Room := { frames := 5, cells := 2, slots := 6, locals := 74 }
def Q_si1u_2 (Z : State) (G1 : Int32) (x : Addr) (b : Addr) (k : ClassId) (c0 : Int32) (c1 : Int32) (h0 : Heap) (n0 : Nat) (v : Option Value) (h : Heap) (L : List Loc) : Prop := (∃ t : Addr, ∃ kt : ClassId, v = none ∧ Fr n0 L ∧ Keep h0 h [x] ∧ (Exa Z h x "java/lang/String") ∧ (Fld Z h x "java/lang/String" "coder" "B" (.int (0 : Int32))) ∧ (Fld Z h x "java/lang/String" "value" "[B" (.ref t)) ∧ (h0.size ≤ t) ∧ (Arv Z h t kt .byte (2 : Int32) [(.int (own_lo8 c0)), (.int (own_lo8 c1))] (.int (0 : Int32)))) ∨ (∃ t : Addr, ∃ kt : ClassId, v = none ∧ Fr n0 L ∧ Keep h0 h [x] ∧ (Exa Z h x "java/lang/String") ∧ (Fld Z h x "java/lang/String" "coder" "B" (.int (1 : Int32))) ∧ (Fld Z h x "java/lang/String" "value" "[B" (.ref t)) ∧ (h0.size ≤ t) ∧ (Arv Z h t kt .byte (4 : Int32) [(.int (own_lo8z c0)), (.int (own_hi8 c0)), (.int (own_lo8z c1)), (.int (own_hi8 c1))] (.int (0 : Int32))))
set_option maxRecDepth 65536 in
set_option maxHeartbeats 40000000 in
theorem rm_si1u_2 (l : Launch) (Z : State) (a0 : Array Value) (hw : ∀ d ∈ tables_1, d.before a0 Z = true) (ws : List Jvm.Cond) (G1 : Int32) (HG : own_G l Z a0 G1) (h0 : Heap) (n0 : Nat) (X00 : Old Z n0 h0) (x : Addr) (b : Addr) (k : ClassId) (c0 : Int32) (c1 : Int32) (hp0 : Exa Z h0 x "java/lang/String") (hp1 : Fld Z h0 x "java/lang/String" "value" "[B" .null) (hp2 : Fld Z h0 x "java/lang/String" "coder" "B" (.int (0 : Int32))) (hp3 : n0 ≤ x) (hp4 : Arv Z h0 b k .char (2 : Int32) [(.int c0), (.int c1)] (.int (0 : Int32))) (hl0 : ¬ (c0 < (0 : Int32))) (hl1 : ¬ (c1 < (0 : Int32))) (hm0 : ¬ ((65535 : Int32) < c0)) (hm1 : ¬ ((65535 : Int32) < c1)) :
    own_CP l Z M25 jdk_42_method_3_code 2 none ws R_si1u_2 #[(.ref x), (.ref b)] h0 (Q_si1u_2 Z G1 x b k c0 c1 h0 n0) := by
  refine own_P (plainFor_of_name pn_2) ?_
  intro p e s m below meth c s₁ S0 Bd hZ hh hx hby hml hown hnm X0 e0 hS0d
  obtain ⟨O1, P1, OAD, OHI, OLO⟩ := id HG
  have N0 := Fr.nil n0
  have C0 : Steps p.tables e below S0 (s₁.setTop (mkF m 0 #[.val (.ref x), .val (.ref b)] [])) := by rw [hS0d]; exact castTop (ef_26 m x b) (Steps.refl _)
  obtain ⟨c_1, A_2, q_3, S_4, M_5, H_6, U_7⟩ := id hp4
  obtain ⟨_, _, ⟨T_8, L_8, k_8, n_8⟩, -, X_8, ⟨Lc_8, hQ_8, l_8, y_8, z_8⟩, st_8⟩ := X0.specialBack hx (y := M0) rfl hown (mvT hZ (w12 hw)) (mvT hZ (w13 hw)) (mvT hZ (w15 hw)) (by decide) (backOf (W := 0) (rm_si4u_2 l Z a0 hw [] G1 HG h0 n0 X00 x b k c0 c1 hp0 hp1 hp2 hp3 hp4 hl0 hl1 hm0 hm1) hZ (w15 hw) (w7 hw) (by decide) (by decide)) (g := (mkF m 6 #[.val (.ref x), .val (.ref b)] [.null, (.int (2 : Int32)), (.int (0 : Int32)), (.ref b), (.ref x)])) rfl (by rw [hml]; rfl) (Steps.refl _) (a := x) (argsL := [(.ref b), (.int (0 : Int32)), (.int (2 : Int32)), .null]) (rest := []) (lenOf pd_35 rfl) rfl (by show 2 * 0 + _ ≤ _; exact Nat.le_of_eq rfl) (hb hby d1_6) (fun _ _ => ⟨rfl, e0, (by decide : 0 + 2 ≤ _), (by decide : 0 + 6 ≤ _)⟩)
  dsimp only [Pt.U, Pt.locs, Pt.cells, Pt.slots] at X_8 l_8 y_8 z_8 st_8 hQ_8
  subst l_8 y_8 z_8
  have C_9 : Steps p.tables e below S0 (s₁.setTop (mkF m 6 #[.val (.ref x), .val (.ref b)] [.null, (.int (2 : Int32)), (.int (0 : Int32)), (.ref b), (.ref x)])) := by
    refine C0.trans ?_
    refine XS.aloadN X0.here hx rfl (hb hby d1_0) rfl rfl ?_
    refine XS.aloadN X0.here hx rfl (hb hby d1_1) rfl rfl ?_
    refine XS.iconst X0.here hx rfl (hb hby d1_2) ?_
    refine XS.aloadN X0.here hx rfl (hb hby d1_3) rfl rfl ?_
    refine X0.arraylength hx (by rw [e0]; exact A_2.1) (State.isArrayOf_alike hZ.alike A_2.2.1) (g := (mkF m 4 #[.val (.ref x), .val (.ref b)] [(.ref b), (.int (0 : Int32)), (.ref b), (.ref x)])) rfl rfl (hb hby d1_4) _ ?_
    rw [len_of S_4 M_5]
    refine XS.aconstNull X0.here hx rfl (hb hby d1_5) ?_
    exact Steps.refl _
  rcases hQ_8 with hQ_10 | hQ_11
  · skip
    obtain ⟨a_12, k_13, rfl, N_14, K_15, g_16, g_17, g_18, g_19, g_20⟩ := hQ_10
    have N_21 := Fr.app N0 N_14
    have C_22 : Steps p.tables e below S0 (T_8.setTop (mkF m 9 #[.val (.ref x), .val (.ref b)] [])) := by
      refine C_9.trans ?_
      refine st_8.trans ?_
      exact Steps.refl _
    have K_23 : Keep h0 T_8.heap [x] := ((Keep.refl _ _).trans K_15 (allS (Or.inl (List.mem_of_getElem? (i := 0) rfl)) all0))
    obtain ⟨fs, hr, hrun, hended, hW, hsame⟩ := X_8.leave (v := none) (fun _ => rfl)
    refine ⟨_, _, C_22.trans (X_8.returnOut hx Bd.returns (hb hby d1_9) hr), hrun, hended, _, _, rfl, ?_, ⟨_, rfl⟩, hW, hsame.mono (by decide) (by decide)⟩
    show Q_si1u_2 Z G1 x b k c0 c1 h0 n0 (none) T_8.heap _
    exact Or.inl ⟨a_12, k_13, rfl, N_21, K_23, g_16, g_17, g_18, (Nat.le_trans (Nat.le_refl _) g_19), g_20⟩
  · skip
    obtain ⟨a_24, k_25, rfl, N_26, K_27, g_28, g_29, g_30, g_31, g_32⟩ := hQ_11
    have N_33 := Fr.app N0 N_26
    have C_34 : Steps p.tables e below S0 (T_8.setTop (mkF m 9 #[.val (.ref x), .val (.ref b)] [])) := by
      refine C_9.trans ?_
      refine st_8.trans ?_
      exact Steps.refl _
    have K_35 : Keep h0 T_8.heap [x] := ((Keep.refl _ _).trans K_27 (allS (Or.inl (List.mem_of_getElem? (i := 0) rfl)) all0))
    obtain ⟨fs, hr, hrun, hended, hW, hsame⟩ := X_8.leave (v := none) (fun _ => rfl)
    refine ⟨_, _, C_34.trans (X_8.returnOut hx Bd.returns (hb hby d1_9) hr), hrun, hended, _, _, rfl, ?_, ⟨_, rfl⟩, hW, hsame.mono (by decide) (by decide)⟩
    show Q_si1u_2 Z G1 x b k c0 c1 h0 n0 (none) T_8.heap _
    exact Or.inr (⟨a_24, k_25, rfl, N_33, K_35, g_28, g_29, g_30, (Nat.le_trans (Nat.le_refl _) g_31), g_32⟩)
abbrev R_nbl_3 : Room := { frames := 0, cells := 0, slots := 0, locals := 0 }
def Q_nbl_3 (Z : State) (G1 : Int32)  (h0 : Heap) (n0 : Nat) (v : Option Value) (h : Heap) (L : List Loc) : Prop := (v = some (.int (6 : Int32)) ∧ Fr n0 L ∧ h = h0)
set_option maxRecDepth 65536 in
set_option maxHeartbeats 40000000 in
theorem rm_nbl_3 (l : Launch) (Z : State) (a0 : Array Value) (hw : ∀ d ∈ tables_1, d.before a0 Z = true) (ws : List Jvm.Cond) (G1 : Int32) (HG : own_G l Z a0 G1) (h0 : Heap) (n0 : Nat) (X00 : Old Z n0 h0)   :
    own_CP l Z M40 jdk_52_method_3_code 1 (some .int) ws R_nbl_3 #[(.int (3 : Int32))] h0 (Q_nbl_3 Z G1  h0 n0) := by
  refine own_P (plainFor_of_name pn_42) ?_
  intro p e s m below meth c s₁ S0 Bd hZ hh hx hby hml hown hnm X0 e0 hS0d
  obtain ⟨O1, P1, OAD, OHI, OLO⟩ := id HG
  have N0 := Fr.nil n0
  have C0 : Steps p.tables e below S0 (s₁.setTop (mkF m 0 #[.val (.int (3 : Int32))] [])) := by rw [hS0d]; exact castTop (ef_41 m (3 : Int32)) (Steps.refl _)
  have C_1 : Steps p.tables e below S0 (s₁.setTop (mkF m 58 #[.val (.int (3 : Int32))] [(.int (6 : Int32))])) := by
    refine C0.trans ?_
    refine XS.iloadN X0.here hx rfl (hb hby d2_0) rfl ?_
    refine XS.ifYes X0.here hx rfl (pc0 := 1) (pc' := 12) rfl (hb hby d2_1) rfl (by decide) (by decide) (by decide) ?_
    refine XS.iloadN X0.here hx rfl (hb hby d2_12) rfl ?_
    refine X0.ldcI hx hown (mvT hZ (w85 hw)) rfl (hb hby d2_13) ?_
    refine XS.icmpYes X0.here hx rfl (pc0 := 15) (pc' := 55) rfl (hb hby d2_15) rfl (by decide) (by decide) (by decide) ?_
    refine XS.iloadN X0.here hx rfl (hb hby d2_55) rfl ?_
    refine XS.iconst X0.here hx rfl (hb hby d2_56) ?_
    refine XS.ishl X0.here hx rfl (hb hby d2_57) rfl ?_
    show Steps p.tables e below (s₁.setTop (mkF m 58 #[.val (.int (3 : Int32))] [(.int (6 : Int32))])) _
    exact Steps.refl _
  obtain ⟨fs, hr, hrun, hended, hW, hsame⟩ := X0.leave (v := some (.int (6 : Int32))) (fun h => by rw [Bd.returns] at h; cases h)
  refine ⟨_, _, C_1.trans (retOut X0 hx Bd.returns rfl (Or.inl ⟨rfl, Or.inl rfl, _, rfl⟩) (hb hby d2_58) hr), hrun, hended, _, _, rfl, ?_, ⟨_, rfl⟩, hW, hsame.mono (by decide) (by decide)⟩
  show Q_nbl_3 Z G1  h0 n0 (some (.int (6 : Int32))) s₁.heap _
  rw [e0]
  exact ⟨rfl, N0, rfl⟩
abbrev R_nbf_3 : Room := { frames := 1, cells := 1, slots := 6, locals := 12 }
def Q_nbf_3 (Z : State) (G1 : Int32)  (h0 : Heap) (n0 : Nat) (v : Option Value) (h : Heap) (L : List Loc) : Prop := (∃ t : Addr, ∃ kt : ClassId, v = some (.ref t) ∧ Fr n0 L ∧ Keep h0 h [] ∧ (h0.size ≤ t) ∧ (Arv Z h t kt .byte (6 : Int32) [(.int (0 : Int32)), (.int (0 : Int32)), (.int (0 : Int32)), (.int (0 : Int32)), (.int (0 : Int32)), (.int (0 : Int32))] (.int (0 : Int32))))
set_option maxRecDepth 65536 in
set_option maxHeartbeats 40000000 in
theorem rm_nbf_3 (l : Launch) (Z : State) (a0 : Array Value) (hw : ∀ d ∈ tables_1, d.before a0 Z = true) (ws : List Jvm.Cond) (G1 : Int32) (HG : own_G l Z a0 G1) (h0 : Heap) (n0 : Nat) (X00 : Old Z n0 h0)   :
    own_CP l Z M53 jdk_52_method_2_code 1 (some (.array .byte)) ws R_nbf_3 #[(.int (3 : Int32))] h0 (Q_nbf_3 Z G1  h0 n0) := by
  refine own_P (plainFor_of_name pn_42) ?_
  intro p e s m below meth c s₁ S0 Bd hZ hh hx hby hml hown hnm X0 e0 hS0d
  obtain ⟨O1, P1, OAD, OHI, OLO⟩ := id HG
  have N0 := Fr.nil n0
  have C0 : Steps p.tables e below S0 (s₁.setTop (mkF m 0 #[.val (.int (3 : Int32))] [])) := by rw [hS0d]; exact castTop (ef_41 m (3 : Int32)) (Steps.refl _)
  obtain ⟨_, _, ⟨T_1, L_1, k_1, n_1⟩, -, X_1, ⟨Lc_1, hQ_1, l_1, y_1, z_1⟩, st_1⟩ := Jvm.LawKit.callS X0 hx (y := M40) hown (mvT hZ (w82 hw)) (mvT hZ (w83 hw)) (mvT hZ (w68 hw)) (mvT hZ (w84 hw)) (by decide) (backOf (W := 0) (rm_nbl_3 l Z a0 hw [] G1 HG h0 n0 X00  ) hZ (w84 hw) (w68 hw) (by decide) (by decide)) (g := (mkF m 1 #[.val (.int (3 : Int32))] [(.int (3 : Int32))])) rfl (by rw [hml]; rfl) (argsL := [(.int (3 : Int32))]) (rest := []) (lenOf pd_57 rfl) rfl (by show 2 * 0 + _ ≤ _; exact Nat.le_of_eq rfl) (hb hby d3_1) (fun _ _ => ⟨rfl, e0, (by decide : 0 + 0 ≤ _), (by decide : 0 + 0 ≤ _)⟩)
  dsimp only [Pt.U, Pt.locs, Pt.cells, Pt.slots] at X_1 l_1 y_1 z_1 st_1 hQ_1
  subst l_1 y_1 z_1
  obtain ⟨rfl, N_2, e_3⟩ := hQ_1
  have N_4 := Fr.app N0 N_2
  have e_5 : T_1.heap = h0 := e_3
  obtain ⟨T_6, h_7, k_8, X_9, e_10, E_11, A_12, st_13⟩ := newP (aty := .byte) X_1 hx hZ (w20 hw) e_5 (g := (mkF m 4 #[.val (.int (3 : Int32))] [(.int (6 : Int32))])) rfl (hb hby d3_4) rfl (by decide : ¬ ((6 : Int32) < (0 : Int32))) (cap := 6) (by decide : (6 : Int32).toNatClampNeg ≤ 6) (by decide) (by decide) (by decide)
  obtain ⟨a_14, g_15⟩ : ∃ z, z = h0.size := ⟨_, rfl⟩
  rw [← g_15] at A_12 st_13
  have V_17 : Arv Z h_7 a_14 k_8 .byte (6 : Int32) [] (.int (0 : Int32)) := Arv.new A_12 (by decide : ¬ ((6 : Int32) < (0 : Int32)))
  have V_16 : Arv Z h_7 a_14 k_8 .byte (6 : Int32) [(.int (0 : Int32)), (.int (0 : Int32)), (.int (0 : Int32)), (.int (0 : Int32)), (.int (0 : Int32)), (.int (0 : Int32))] (.int (0 : Int32)) := (V_17.pad (pad_rep [] (.int (0 : Int32)) 6))
  have C_18 : Steps p.tables e below S0 (T_6.setTop (mkF m 6 #[.val (.int (3 : Int32))] [(.ref a_14)])) := by
    refine C0.trans ?_
    refine XS.iloadN X0.here hx rfl (hb hby d3_0) rfl ?_
    refine st_1 _ ?_
    refine st_13 _ ?_
    exact Steps.refl _
  have K_19 : Keep h0 h_7 [] := ((Keep.refl _ _).ext E_11)
  obtain ⟨fs, hr, hrun, hended, hW, hsame⟩ := X_9.leave (v := some (.ref a_14)) (fun h => by rw [Bd.returns] at h; cases h)
  refine ⟨_, _, C_18.trans (retOut X_9 hx Bd.returns rfl (Or.inr (Or.inr (Or.inr (Or.inr ⟨rfl, rfl, rfl⟩)))) (hb hby d3_6) hr), hrun, hended, _, _, rfl, ?_, ⟨_, rfl⟩, hW, hsame.mono (by decide) (by decide)⟩
  show Q_nbf_3 Z G1  h0 n0 (some (.ref a_14)) T_6.heap _
  rw [e_10]
  exact ⟨a_14, k_8, rfl, N_4, K_19, (Nat.le_trans (Nat.le_refl _) (Nat.le_of_eq g_15.symm)), V_16⟩
abbrev R_put_3_0 : Room := { frames := 0, cells := 0, slots := 0, locals := 0 }
def Q_put_3_0 (Z : State) (G1 : Int32) (t : Addr) (kt : ClassId) (cc : Int32) (y0 : Int32) (y1 : Int32) (y2 : Int32) (y3 : Int32) (y4 : Int32) (y5 : Int32) (h0 : Heap) (n0 : Nat) (v : Option Value) (h : Heap) (L : List Loc) : Prop := (v = none ∧ Fr n0 L ∧ Keep h0 h [t] ∧ (Arv Z h t kt .byte (6 : Int32) [(.int (own_lo8z cc)), (.int (own_hi8 cc)), (.int y2), (.int y3), (.int y4), (.int y5)] (.int (0 : Int32))))
set_option maxRecDepth 65536 in
set_option maxHeartbeats 40000000 in
theorem rm_put_3_0 (l : Launch) (Z : State) (a0 : Array Value) (hw : ∀ d ∈ tables_1, d.before a0 Z = true) (ws : List Jvm.Cond) (G1 : Int32) (HG : own_G l Z a0 G1) (h0 : Heap) (n0 : Nat) (X00 : Old Z n0 h0) (t : Addr) (kt : ClassId) (cc : Int32) (y0 : Int32) (y1 : Int32) (y2 : Int32) (y3 : Int32) (y4 : Int32) (y5 : Int32) (hp0 : Arv Z h0 t kt .byte (6 : Int32) [(.int y0), (.int y1), (.int y2), (.int y3), (.int y4), (.int y5)] (.int (0 : Int32))) (hp1 : n0 ≤ t) :
    own_CP l Z M64 jdk_52_method_4_code 3 none ws R_put_3_0 #[(.ref t), (.int (0 : Int32)), (.int cc)] h0 (Q_put_3_0 Z G1 t kt cc y0 y1 y2 y3 y4 y5 h0 n0) := by
  refine own_P (plainFor_of_name pn_42) ?_
  intro p e s m below meth c s₁ S0 Bd hZ hh hx hby hml hown hnm X0 e0 hS0d
  obtain ⟨O1, P1, OAD, OHI, OLO⟩ := id HG
  have N0 := Fr.nil n0
  have C0 : Steps p.tables e below S0 (s₁.setTop (mkF m 0 #[.val (.ref t), .val (.int (0 : Int32)), .val (.int cc)] [])) := by rw [hS0d]; exact castTop (ef_65 m t (0 : Int32) cc) (Steps.refl _)
  obtain ⟨T_1, X_2, e_3, st_4⟩ := getS X0 hx hZ (host := "") hown (w89 hw) Via.refl e0 (OAD.ext X00.2) (g := (mkF m 0 #[.val (.ref t), .val (.int (0 : Int32)), .val (.int cc)] [])) rfl (hb hby d4_0)
  obtain ⟨T_5, X_6, e_7, st_8⟩ := getS X_2 hx hZ (host := "") hown (w90 hw) Via.refl e_3 (OHI.ext X00.2) (g := (mkF m 38 #[.val (.ref t), .val (.int (1 : Int32)), .val (.int cc)] [(.int cc), (.int (0 : Int32)), (.ref t)])) rfl (hb hby d4_38)
  obtain ⟨c_9, A_10, q_11, S_12, M_13, H_14, U_15⟩ := id hp0
  have hin_22 : ¬ ((0 : Int32) < 0 ∨ c_9.slots.size ≤ (0 : Int32).toNatClampNeg) := inb_of S_12 ⟨(by decide : ¬ ((0 : Int32) < (0 : Int32))), (by decide : (0 : Int32) < (6 : Int32))⟩
  obtain ⟨T_16, h_17, X_18, e_19, W_20, st_21⟩ := stB X_6 hx hZ e_7 A_10 (j := (0 : Int32)) hin_22 (g := (mkF m 43 #[.val (.ref t), .val (.int (1 : Int32)), .val (.int cc)] [(.int ((cc >>> ((0 : Int32) &&& 31)).toInt8.toInt32)), (.int (0 : Int32)), (.ref t)])) rfl rfl (hb hby d4_43)
  have N_23 := Fr.snoc X_18 N0 hp1
  have V_24 : Arv Z h_17 t kt .byte (6 : Int32) [(.int (own_lo8z cc)), (.int y1), (.int y2), (.int y3), (.int y4), (.int y5)] (.int (0 : Int32)) := Arv.set A_10 q_11 S_12 M_13 H_14 U_15 (fits_nar_byte _) W_20 0 rfl (Nat.le_of_ble_eq_true rfl)
  have O_29 : Old Z n0 h_17 := (X00.wr W_20 hp1)
  obtain ⟨T_25, X_26, e_27, st_28⟩ := getS X_18 hx hZ (host := "") hown (w91 hw) Via.refl e_19 (OLO.ext O_29.2) (g := (mkF m 47 #[.val (.ref t), .val (.int (1 : Int32)), .val (.int cc)] [(.int cc), (.int (1 : Int32)), (.ref t)])) rfl (hb hby d4_47)
  obtain ⟨c_30, A_31, q_32, S_33, M_34, H_35, U_36⟩ := id V_24
  have hin_43 : ¬ ((1 : Int32) < 0 ∨ c_30.slots.size ≤ (1 : Int32).toNatClampNeg) := inb_of S_33 ⟨(by decide : ¬ ((1 : Int32) < (0 : Int32))), (by decide : (1 : Int32) < (6 : Int32))⟩
  obtain ⟨T_37, h_38, X_39, e_40, W_41, st_42⟩ := stB X_26 hx hZ e_27 A_31 (j := (1 : Int32)) hin_43 (g := (mkF m 52 #[.val (.ref t), .val (.int (1 : Int32)), .val (.int cc)] [(.int ((cc >>> ((8 : Int32) &&& 31)).toInt8.toInt32)), (.int (1 : Int32)), (.ref t)])) rfl rfl (hb hby d4_52)
  have N_44 := Fr.snoc X_39 N_23 hp1
  have V_45 : Arv Z h_38 t kt .byte (6 : Int32) [(.int (own_lo8z cc)), (.int (own_hi8 cc)), (.int y2), (.int y3), (.int y4), (.int y5)] (.int (0 : Int32)) := Arv.set A_31 q_32 S_33 M_34 H_35 U_36 (fits_nar_byte _) W_41 1 rfl (Nat.le_of_ble_eq_true rfl)
  have C_46 : Steps p.tables e below S0 (T_37.setTop (mkF m 53 #[.val (.ref t), .val (.int (1 : Int32)), .val (.int cc)] [])) := by
    refine C0.trans ?_
    refine st_4 _ ?_
    refine XS.ifYes X_2.here hx rfl (pc0 := 3) (pc' := 28) rfl (hb hby d4_3) rfl (by decide) (by decide) (by decide) ?_
    refine XS.iloadN X_2.here hx rfl (hb hby d4_28) rfl ?_
    refine XS.iconst X_2.here hx rfl (hb hby d4_29) ?_
    refine XS.ishl X_2.here hx rfl (hb hby d4_30) rfl ?_
    refine XS.istoreN X_2.here hx rfl (hb hby d4_31) rfl (l' := #[.val (.ref t), .val (.int (0 : Int32)), .val (.int cc)]) rfl ?_
    refine XS.aloadN X_2.here hx rfl (hb hby d4_32) rfl rfl ?_
    refine XS.iloadN X_2.here hx rfl (hb hby d4_33) rfl ?_
    show Steps p.tables e below (T_1.setTop (mkF m 34 #[.val (.ref t), .val (.int (0 : Int32)), .val (.int cc)] [(.int (0 : Int32)), (.ref t)])) _
    refine XS.iinc X_2.here hx rfl (hb hby d4_34) (x := (0 : Int32)) rfl (l' := #[.val (.ref t), .val (.int (1 : Int32)), .val (.int cc)]) rfl ?_
    refine XS.iloadN X_2.here hx rfl (hb hby d4_37) rfl ?_
    refine st_8 _ ?_
    refine XS.ishr X_6.here hx rfl (hb hby d4_41) rfl ?_
    refine XS.i2b X_6.here hx rfl (hb hby d4_42) rfl ?_
    refine st_21 _ ?_
    refine XS.aloadN X_18.here hx rfl (hb hby d4_44) rfl rfl ?_
    refine XS.iloadN X_18.here hx rfl (hb hby d4_45) rfl ?_
    show Steps p.tables e below (T_16.setTop (mkF m 46 #[.val (.ref t), .val (.int (1 : Int32)), .val (.int cc)] [(.int (1 : Int32)), (.ref t)])) _
    refine XS.iloadN X_18.here hx rfl (hb hby d4_46) rfl ?_
    refine st_28 _ ?_
    refine XS.ishr X_26.here hx rfl (hb hby d4_50) rfl ?_
    refine XS.i2b X_26.here hx rfl (hb hby d4_51) rfl ?_
    refine st_42 _ ?_
    exact Steps.refl _
  have K_47 : Keep h0 h_38 [t] := (((Keep.refl _ _).wr W_20 (Or.inl (List.mem_of_getElem? (i := 0) rfl))).wr W_41 (Or.inl (List.mem_of_getElem? (i := 0) rfl)))
  obtain ⟨fs, hr, hrun, hended, hW, hsame⟩ := X_39.leave (v := none) (fun _ => rfl)
  refine ⟨_, _, C_46.trans (X_39.returnOut hx Bd.returns (hb hby d4_53) hr), hrun, hended, _, _, rfl, ?_, ⟨_, rfl⟩, hW, hsame.mono (by decide) (by decide)⟩
  show Q_put_3_0 Z G1 t kt cc y0 y1 y2 y3 y4 y5 h0 n0 (none) T_37.heap _
  rw [e_40]
  exact ⟨rfl, N_44, K_47, V_45⟩
abbrev R_put_3_1 : Room := { frames := 0, cells := 0, slots := 0, locals := 0 }
def Q_put_3_1 (Z : State) (G1 : Int32) (t : Addr) (kt : ClassId) (cc : Int32) (y0 : Int32) (y1 : Int32) (y2 : Int32) (y3 : Int32) (y4 : Int32) (y5 : Int32) (h0 : Heap) (n0 : Nat) (v : Option Value) (h : Heap) (L : List Loc) : Prop := (v = none ∧ Fr n0 L ∧ Keep h0 h [t] ∧ (Arv Z h t kt .byte (6 : Int32) [(.int y0), (.int y1), (.int (own_lo8z cc)), (.int (own_hi8 cc)), (.int y4), (.int y5)] (.int (0 : Int32))))
set_option maxRecDepth 65536 in
set_option maxHeartbeats 40000000 in
theorem rm_put_3_1 (l : Launch) (Z : State) (a0 : Array Value) (hw : ∀ d ∈ tables_1, d.before a0 Z = true) (ws : List Jvm.Cond) (G1 : Int32) (HG : own_G l Z a0 G1) (h0 : Heap) (n0 : Nat) (X00 : Old Z n0 h0) (t : Addr) (kt : ClassId) (cc : Int32) (y0 : Int32) (y1 : Int32) (y2 : Int32) (y3 : Int32) (y4 : Int32) (y5 : Int32) (hp0 : Arv Z h0 t kt .byte (6 : Int32) [(.int y0), (.int y1), (.int y2), (.int y3), (.int y4), (.int y5)] (.int (0 : Int32))) (hp1 : n0 ≤ t) :
    own_CP l Z M64 jdk_52_method_4_code 3 none ws R_put_3_1 #[(.ref t), (.int (1 : Int32)), (.int cc)] h0 (Q_put_3_1 Z G1 t kt cc y0 y1 y2 y3 y4 y5 h0 n0) := by
  refine own_P (plainFor_of_name pn_42) ?_
  intro p e s m below meth c s₁ S0 Bd hZ hh hx hby hml hown hnm X0 e0 hS0d
  obtain ⟨O1, P1, OAD, OHI, OLO⟩ := id HG
  have N0 := Fr.nil n0
  have C0 : Steps p.tables e below S0 (s₁.setTop (mkF m 0 #[.val (.ref t), .val (.int (1 : Int32)), .val (.int cc)] [])) := by rw [hS0d]; exact castTop (ef_65 m t (1 : Int32) cc) (Steps.refl _)
  obtain ⟨T_1, X_2, e_3, st_4⟩ := getS X0 hx hZ (host := "") hown (w89 hw) Via.refl e0 (OAD.ext X00.2) (g := (mkF m 0 #[.val (.ref t), .val (.int (1 : Int32)), .val (.int cc)] [])) rfl (hb hby d4_0)
  obtain ⟨T_5, X_6, e_7, st_8⟩ := getS X_2 hx hZ (host := "") hown (w90 hw) Via.refl e_3 (OHI.ext X00.2) (g := (mkF m 38 #[.val (.ref t), .val (.int (3 : Int32)), .val (.int cc)] [(.int cc), (.int (2 : Int32)), (.ref t)])) rfl (hb hby d4_38)
  obtain ⟨c_9, A_10, q_11, S_12, M_13, H_14, U_15⟩ := id hp0
  have hin_22 : ¬ ((2 : Int32) < 0 ∨ c_9.slots.size ≤ (2 : Int32).toNatClampNeg) := inb_of S_12 ⟨(by decide : ¬ ((2 : Int32) < (0 : Int32))), (by decide : (2 : Int32) < (6 : Int32))⟩
  obtain ⟨T_16, h_17, X_18, e_19, W_20, st_21⟩ := stB X_6 hx hZ e_7 A_10 (j := (2 : Int32)) hin_22 (g := (mkF m 43 #[.val (.ref t), .val (.int (3 : Int32)), .val (.int cc)] [(.int ((cc >>> ((0 : Int32) &&& 31)).toInt8.toInt32)), (.int (2 : Int32)), (.ref t)])) rfl rfl (hb hby d4_43)
  have N_23 := Fr.snoc X_18 N0 hp1
  have V_24 : Arv Z h_17 t kt .byte (6 : Int32) [(.int y0), (.int y1), (.int (own_lo8z cc)), (.int y3), (.int y4), (.int y5)] (.int (0 : Int32)) := Arv.set A_10 q_11 S_12 M_13 H_14 U_15 (fits_nar_byte _) W_20 2 rfl (Nat.le_of_ble_eq_true rfl)
  have O_29 : Old Z n0 h_17 := (X00.wr W_20 hp1)
  obtain ⟨T_25, X_26, e_27, st_28⟩ := getS X_18 hx hZ (host := "") hown (w91 hw) Via.refl e_19 (OLO.ext O_29.2) (g := (mkF m 47 #[.val (.ref t), .val (.int (3 : Int32)), .val (.int cc)] [(.int cc), (.int (3 : Int32)), (.ref t)])) rfl (hb hby d4_47)
  obtain ⟨c_30, A_31, q_32, S_33, M_34, H_35, U_36⟩ := id V_24
  have hin_43 : ¬ ((3 : Int32) < 0 ∨ c_30.slots.size ≤ (3 : Int32).toNatClampNeg) := inb_of S_33 ⟨(by decide : ¬ ((3 : Int32) < (0 : Int32))), (by decide : (3 : Int32) < (6 : Int32))⟩
  obtain ⟨T_37, h_38, X_39, e_40, W_41, st_42⟩ := stB X_26 hx hZ e_27 A_31 (j := (3 : Int32)) hin_43 (g := (mkF m 52 #[.val (.ref t), .val (.int (3 : Int32)), .val (.int cc)] [(.int ((cc >>> ((8 : Int32) &&& 31)).toInt8.toInt32)), (.int (3 : Int32)), (.ref t)])) rfl rfl (hb hby d4_52)
  have N_44 := Fr.snoc X_39 N_23 hp1
  have V_45 : Arv Z h_38 t kt .byte (6 : Int32) [(.int y0), (.int y1), (.int (own_lo8z cc)), (.int (own_hi8 cc)), (.int y4), (.int y5)] (.int (0 : Int32)) := Arv.set A_31 q_32 S_33 M_34 H_35 U_36 (fits_nar_byte _) W_41 3 rfl (Nat.le_of_ble_eq_true rfl)
  have C_46 : Steps p.tables e below S0 (T_37.setTop (mkF m 53 #[.val (.ref t), .val (.int (3 : Int32)), .val (.int cc)] [])) := by
    refine C0.trans ?_
    refine st_4 _ ?_
    refine XS.ifYes X_2.here hx rfl (pc0 := 3) (pc' := 28) rfl (hb hby d4_3) rfl (by decide) (by decide) (by decide) ?_
    refine XS.iloadN X_2.here hx rfl (hb hby d4_28) rfl ?_
    refine XS.iconst X_2.here hx rfl (hb hby d4_29) ?_
    refine XS.ishl X_2.here hx rfl (hb hby d4_30) rfl ?_
    refine XS.istoreN X_2.here hx rfl (hb hby d4_31) rfl (l' := #[.val (.ref t), .val (.int (2 : Int32)), .val (.int cc)]) rfl ?_
    refine XS.aloadN X_2.here hx rfl (hb hby d4_32) rfl rfl ?_
    refine XS.iloadN X_2.here hx rfl (hb hby d4_33) rfl ?_
    show Steps p.tables e below (T_1.setTop (mkF m 34 #[.val (.ref t), .val (.int (2 : Int32)), .val (.int cc)] [(.int (2 : Int32)), (.ref t)])) _
    refine XS.iinc X_2.here hx rfl (hb hby d4_34) (x := (2 : Int32)) rfl (l' := #[.val (.ref t), .val (.int (3 : Int32)), .val (.int cc)]) rfl ?_
    refine XS.iloadN X_2.here hx rfl (hb hby d4_37) rfl ?_
    refine st_8 _ ?_
    refine XS.ishr X_6.here hx rfl (hb hby d4_41) rfl ?_
    refine XS.i2b X_6.here hx rfl (hb hby d4_42) rfl ?_
    refine st_21 _ ?_
    refine XS.aloadN X_18.here hx rfl (hb hby d4_44) rfl rfl ?_
    refine XS.iloadN X_18.here hx rfl (hb hby d4_45) rfl ?_
    show Steps p.tables e below (T_16.setTop (mkF m 46 #[.val (.ref t), .val (.int (3 : Int32)), .val (.int cc)] [(.int (3 : Int32)), (.ref t)])) _
    refine XS.iloadN X_18.here hx rfl (hb hby d4_46) rfl ?_
    refine st_28 _ ?_
    refine XS.ishr X_26.here hx rfl (hb hby d4_50) rfl ?_
    refine XS.i2b X_26.here hx rfl (hb hby d4_51) rfl ?_
    refine st_42 _ ?_
    exact Steps.refl _
  have K_47 : Keep h0 h_38 [t] := (((Keep.refl _ _).wr W_20 (Or.inl (List.mem_of_getElem? (i := 0) rfl))).wr W_41 (Or.inl (List.mem_of_getElem? (i := 0) rfl)))
  obtain ⟨fs, hr, hrun, hended, hW, hsame⟩ := X_39.leave (v := none) (fun _ => rfl)
  refine ⟨_, _, C_46.trans (X_39.returnOut hx Bd.returns (hb hby d4_53) hr), hrun, hended, _, _, rfl, ?_, ⟨_, rfl⟩, hW, hsame.mono (by decide) (by decide)⟩
  show Q_put_3_1 Z G1 t kt cc y0 y1 y2 y3 y4 y5 h0 n0 (none) T_37.heap _
  rw [e_40]
  exact ⟨rfl, N_44, K_47, V_45⟩
abbrev R_put_3_2 : Room := { frames := 0, cells := 0, slots := 0, locals := 0 }
def Q_put_3_2 (Z : State) (G1 : Int32) (t : Addr) (kt : ClassId) (cc : Int32) (y0 : Int32) (y1 : Int32) (y2 : Int32) (y3 : Int32) (y4 : Int32) (y5 : Int32) (h0 : Heap) (n0 : Nat) (v : Option Value) (h : Heap) (L : List Loc) : Prop := (v = none ∧ Fr n0 L ∧ Keep h0 h [t] ∧ (Arv Z h t kt .byte (6 : Int32) [(.int y0), (.int y1), (.int y2), (.int y3), (.int (own_lo8z cc)), (.int (own_hi8 cc))] (.int (0 : Int32))))
set_option maxRecDepth 65536 in
set_option maxHeartbeats 40000000 in
theorem rm_put_3_2 (l : Launch) (Z : State) (a0 : Array Value) (hw : ∀ d ∈ tables_1, d.before a0 Z = true) (ws : List Jvm.Cond) (G1 : Int32) (HG : own_G l Z a0 G1) (h0 : Heap) (n0 : Nat) (X00 : Old Z n0 h0) (t : Addr) (kt : ClassId) (cc : Int32) (y0 : Int32) (y1 : Int32) (y2 : Int32) (y3 : Int32) (y4 : Int32) (y5 : Int32) (hp0 : Arv Z h0 t kt .byte (6 : Int32) [(.int y0), (.int y1), (.int y2), (.int y3), (.int y4), (.int y5)] (.int (0 : Int32))) (hp1 : n0 ≤ t) :
    own_CP l Z M64 jdk_52_method_4_code 3 none ws R_put_3_2 #[(.ref t), (.int (2 : Int32)), (.int cc)] h0 (Q_put_3_2 Z G1 t kt cc y0 y1 y2 y3 y4 y5 h0 n0) := by
  refine own_P (plainFor_of_name pn_42) ?_
  intro p e s m below meth c s₁ S0 Bd hZ hh hx hby hml hown hnm X0 e0 hS0d
  obtain ⟨O1, P1, OAD, OHI, OLO⟩ := id HG
  have N0 := Fr.nil n0
  have C0 : Steps p.tables e below S0 (s₁.setTop (mkF m 0 #[.val (.ref t), .val (.int (2 : Int32)), .val (.int cc)] [])) := by rw [hS0d]; exact castTop (ef_65 m t (2 : Int32) cc) (Steps.refl _)
  obtain ⟨T_1, X_2, e_3, st_4⟩ := getS X0 hx hZ (host := "") hown (w89 hw) Via.refl e0 (OAD.ext X00.2) (g := (mkF m 0 #[.val (.ref t), .val (.int (2 : Int32)), .val (.int cc)] [])) rfl (hb hby d4_0)
  obtain ⟨T_5, X_6, e_7, st_8⟩ := getS X_2 hx hZ (host := "") hown (w90 hw) Via.refl e_3 (OHI.ext X00.2) (g := (mkF m 38 #[.val (.ref t), .val (.int (5 : Int32)), .val (.int cc)] [(.int cc), (.int (4 : Int32)), (.ref t)])) rfl (hb hby d4_38)
  obtain ⟨c_9, A_10, q_11, S_12, M_13, H_14, U_15⟩ := id hp0
  have hin_22 : ¬ ((4 : Int32) < 0 ∨ c_9.slots.size ≤ (4 : Int32).toNatClampNeg) := inb_of S_12 ⟨(by decide : ¬ ((4 : Int32) < (0 : Int32))), (by decide : (4 : Int32) < (6 : Int32))⟩
  obtain ⟨T_16, h_17, X_18, e_19, W_20, st_21⟩ := stB X_6 hx hZ e_7 A_10 (j := (4 : Int32)) hin_22 (g := (mkF m 43 #[.val (.ref t), .val (.int (5 : Int32)), .val (.int cc)] [(.int ((cc >>> ((0 : Int32) &&& 31)).toInt8.toInt32)), (.int (4 : Int32)), (.ref t)])) rfl rfl (hb hby d4_43)
  have N_23 := Fr.snoc X_18 N0 hp1
  have V_24 : Arv Z h_17 t kt .byte (6 : Int32) [(.int y0), (.int y1), (.int y2), (.int y3), (.int (own_lo8z cc)), (.int y5)] (.int (0 : Int32)) := Arv.set A_10 q_11 S_12 M_13 H_14 U_15 (fits_nar_byte _) W_20 4 rfl (Nat.le_of_ble_eq_true rfl)
  have O_29 : Old Z n0 h_17 := (X00.wr W_20 hp1)
  obtain ⟨T_25, X_26, e_27, st_28⟩ := getS X_18 hx hZ (host := "") hown (w91 hw) Via.refl e_19 (OLO.ext O_29.2) (g := (mkF m 47 #[.val (.ref t), .val (.int (5 : Int32)), .val (.int cc)] [(.int cc), (.int (5 : Int32)), (.ref t)])) rfl (hb hby d4_47)
  obtain ⟨c_30, A_31, q_32, S_33, M_34, H_35, U_36⟩ := id V_24
  have hin_43 : ¬ ((5 : Int32) < 0 ∨ c_30.slots.size ≤ (5 : Int32).toNatClampNeg) := inb_of S_33 ⟨(by decide : ¬ ((5 : Int32) < (0 : Int32))), (by decide : (5 : Int32) < (6 : Int32))⟩
  obtain ⟨T_37, h_38, X_39, e_40, W_41, st_42⟩ := stB X_26 hx hZ e_27 A_31 (j := (5 : Int32)) hin_43 (g := (mkF m 52 #[.val (.ref t), .val (.int (5 : Int32)), .val (.int cc)] [(.int ((cc >>> ((8 : Int32) &&& 31)).toInt8.toInt32)), (.int (5 : Int32)), (.ref t)])) rfl rfl (hb hby d4_52)
  have N_44 := Fr.snoc X_39 N_23 hp1
  have V_45 : Arv Z h_38 t kt .byte (6 : Int32) [(.int y0), (.int y1), (.int y2), (.int y3), (.int (own_lo8z cc)), (.int (own_hi8 cc))] (.int (0 : Int32)) := Arv.set A_31 q_32 S_33 M_34 H_35 U_36 (fits_nar_byte _) W_41 5 rfl (Nat.le_of_ble_eq_true rfl)
  have C_46 : Steps p.tables e below S0 (T_37.setTop (mkF m 53 #[.val (.ref t), .val (.int (5 : Int32)), .val (.int cc)] [])) := by
    refine C0.trans ?_
    refine st_4 _ ?_
    refine XS.ifYes X_2.here hx rfl (pc0 := 3) (pc' := 28) rfl (hb hby d4_3) rfl (by decide) (by decide) (by decide) ?_
    refine XS.iloadN X_2.here hx rfl (hb hby d4_28) rfl ?_
    refine XS.iconst X_2.here hx rfl (hb hby d4_29) ?_
    refine XS.ishl X_2.here hx rfl (hb hby d4_30) rfl ?_
    refine XS.istoreN X_2.here hx rfl (hb hby d4_31) rfl (l' := #[.val (.ref t), .val (.int (4 : Int32)), .val (.int cc)]) rfl ?_
    refine XS.aloadN X_2.here hx rfl (hb hby d4_32) rfl rfl ?_
    refine XS.iloadN X_2.here hx rfl (hb hby d4_33) rfl ?_
    show Steps p.tables e below (T_1.setTop (mkF m 34 #[.val (.ref t), .val (.int (4 : Int32)), .val (.int cc)] [(.int (4 : Int32)), (.ref t)])) _
    refine XS.iinc X_2.here hx rfl (hb hby d4_34) (x := (4 : Int32)) rfl (l' := #[.val (.ref t), .val (.int (5 : Int32)), .val (.int cc)]) rfl ?_
    refine XS.iloadN X_2.here hx rfl (hb hby d4_37) rfl ?_
    refine st_8 _ ?_
    refine XS.ishr X_6.here hx rfl (hb hby d4_41) rfl ?_
    refine XS.i2b X_6.here hx rfl (hb hby d4_42) rfl ?_
    refine st_21 _ ?_
    refine XS.aloadN X_18.here hx rfl (hb hby d4_44) rfl rfl ?_
    refine XS.iloadN X_18.here hx rfl (hb hby d4_45) rfl ?_
    show Steps p.tables e below (T_16.setTop (mkF m 46 #[.val (.ref t), .val (.int (5 : Int32)), .val (.int cc)] [(.int (5 : Int32)), (.ref t)])) _
    refine XS.iloadN X_18.here hx rfl (hb hby d4_46) rfl ?_
    refine st_28 _ ?_
    refine XS.ishr X_26.here hx rfl (hb hby d4_50) rfl ?_
    refine XS.i2b X_26.here hx rfl (hb hby d4_51) rfl ?_
    refine st_42 _ ?_
    exact Steps.refl _
  have K_47 : Keep h0 h_38 [t] := (((Keep.refl _ _).wr W_20 (Or.inl (List.mem_of_getElem? (i := 0) rfl))).wr W_41 (Or.inl (List.mem_of_getElem? (i := 0) rfl)))
  obtain ⟨fs, hr, hrun, hended, hW, hsame⟩ := X_39.leave (v := none) (fun _ => rfl)
  refine ⟨_, _, C_46.trans (X_39.returnOut hx Bd.returns (hb hby d4_53) hr), hrun, hended, _, _, rfl, ?_, ⟨_, rfl⟩, hW, hsame.mono (by decide) (by decide)⟩
  show Q_put_3_2 Z G1 t kt cc y0 y1 y2 y3 y4 y5 h0 n0 (none) T_37.heap _
  rw [e_40]
  exact ⟨rfl, N_44, K_47, V_45⟩
abbrev R_tob_3 : Room := { frames := 2, cells := 1, slots := 6, locals := 24 }
def Q_tob_3 (Z : State) (G1 : Int32) (b : Addr) (k : ClassId) (c0 : Int32) (c1 : Int32) (c2 : Int32) (h0 : Heap) (n0 : Nat) (v : Option Value) (h : Heap) (L : List Loc) : Prop := (∃ t : Addr, ∃ kt : ClassId, v = some (.ref t) ∧ Fr n0 L ∧ Keep h0 h [] ∧ (h0.size ≤ t) ∧ (Arv Z h t kt .byte (6 : Int32) [(.int (own_lo8z c0)), (.int (own_hi8 c0)), (.int (own_lo8z c1)), (.int (own_hi8 c1)), (.int (own_lo8z c2)), (.int (own_hi8 c2))] (.int (0 : Int32))))
set_option maxRecDepth 65536 in
set_option maxHeartbeats 40000000 in
theorem rm_tob_3 (l : Launch) (Z : State) (a0 : Array Value) (hw : ∀ d ∈ tables_1, d.before a0 Z = true) (ws : List Jvm.Cond) (G1 : Int32) (HG : own_G l Z a0 G1) (h0 : Heap) (n0 : Nat) (X00 : Old Z n0 h0) (b : Addr) (k : ClassId) (c0 : Int32) (c1 : Int32) (c2 : Int32) (hp0 : Arv Z h0 b k .char (3 : Int32) [(.int c0), (.int c1), (.int c2)] (.int (0 : Int32))) :
    own_CP l Z M91 jdk_52_method_14_code 5 (some (.array .byte)) ws R_tob_3 #[(.ref b), (.int (0 : Int32)), (.int (3 : Int32))] h0 (Q_tob_3 Z G1 b k c0 c1 c2 h0 n0) := by
  refine own_P (plainFor_of_name pn_42) ?_
  intro p e s m below meth c s₁ S0 Bd hZ hh hx hby hml hown hnm X0 e0 hS0d
  obtain ⟨O1, P1, OAD, OHI, OLO⟩ := id HG
  have N0 := Fr.nil n0
  have C0 : Steps p.tables e below S0 (s₁.setTop (mkF m 0 #[.val (.ref b), .val (.int (0 : Int32)), .val (.int (3 : Int32)), .unset, .unset] [])) := by rw [hS0d]; exact castTop (ef_92 m b (0 : Int32) (3 : Int32)) (Steps.refl _)
  obtain ⟨_, _, ⟨T_1, L_1, k_1, n_1⟩, -, X_1, ⟨Lc_1, hQ_1, l_1, y_1, z_1⟩, st_1⟩ := Jvm.LawKit.callS X0 hx (y := M53) hown (mvT hZ (w79 hw)) (mvT hZ (w80 hw)) (mvT hZ (w68 hw)) (mvT hZ (w81 hw)) (by decide) (backOf (W := 0) (rm_nbf_3 l Z a0 hw [] G1 HG h0 n0 X00  ) hZ (w81 hw) (w68 hw) (by decide) (by decide)) (g := (mkF m 1 #[.val (.ref b), .val (.int (0 : Int32)), .val (.int (3 : Int32)), .unset, .unset] [(.int (3 : Int32))])) rfl (by rw [hml]; rfl) (argsL := [(.int (3 : Int32))]) (rest := []) (lenOf pd_95 rfl) rfl (by show 2 * 0 + _ ≤ _; exact Nat.le_of_eq rfl) (hb hby d5_1) (fun _ _ => ⟨rfl, e0, (by decide : 0 + 1 ≤ _), (by decide : 0 + 6 ≤ _)⟩)
  dsimp only [Pt.U, Pt.locs, Pt.cells, Pt.slots] at X_1 l_1 y_1 z_1 st_1 hQ_1
  subst l_1 y_1 z_1
  obtain ⟨a_2, k_3, rfl, N_4, K_5, g_6, g_7⟩ := hQ_1
  have N_8 := Fr.app N0 N_4
  have V_9 : Arv Z T_1.heap b k .char (3 : Int32) [(.int c0), (.int c1), (.int c2)] (.int (0 : Int32)) := (hp0.keep K_5 nin0)
  obtain ⟨c_10, A_11, q_12, S_13, M_14, H_15, U_16⟩ := id V_9
  have hin_17 : ¬ ((0 : Int32) < 0 ∨ c_10.slots.size ≤ (0 : Int32).toNatClampNeg) := inb_of S_13 ⟨(by decide : ¬ ((0 : Int32) < (0 : Int32))), (by decide : (0 : Int32) < (3 : Int32))⟩
  have hat_18 : c_10.slots[(0 : Int32).toNatClampNeg]? = some (.int c0) := Has.at H_15 hin_17 rfl
  have O_19 : Old Z n0 T_1.heap := (X00.keep K_5 all0)
  obtain ⟨_, _, ⟨T_20, L_20, k_20, n_20⟩, -, X_20, ⟨Lc_20, hQ_20, l_20, y_20, z_20⟩, st_20⟩ := Jvm.LawKit.callS X_1 hx (y := M64) hown (mvT hZ (w86 hw)) (mvT hZ (w87 hw)) (mvT hZ (w68 hw)) (mvT hZ (w88 hw)) (by decide) (backOf (W := 0) (rm_put_3_0 l Z a0 hw [] G1 HG T_1.heap n0 O_19 a_2 k_3 c0 (0 : Int32) (0 : Int32) (0 : Int32) (0 : Int32) (0 : Int32) (0 : Int32) g_7 (Nat.le_trans (own_n0 X00) g_6)) hZ (w88 hw) (w68 hw) (by decide) (by decide)) (g := (mkF m 20 #[.val (.ref b), .val (.int (0 : Int32)), .val (.int (3 : Int32)), .val (.ref a_2), .val (.int (0 : Int32))] [(.int c0), (.int (0 : Int32)), (.ref a_2)])) rfl (by rw [hml]; rfl) (argsL := [(.ref a_2), (.int (0 : Int32)), (.int c0)]) (rest := []) (lenOf pd_111 rfl) rfl (by show 2 * 0 + _ ≤ _; exact Nat.le_of_eq rfl) (hb hby d5_20) (fun _ _ => ⟨rfl, rfl, (by decide : 1 + 0 ≤ _), (by decide : 6 + 0 ≤ _)⟩)
  dsimp only [Pt.U, Pt.locs, Pt.cells, Pt.slots] at X_20 l_20 y_20 z_20 st_20 hQ_20
  subst l_20 y_20 z_20
  obtain ⟨rfl, N_21, K_22, g_23⟩ := hQ_20
  have N_24 := Fr.app N_8 N_21
  have V_25 : Arv Z T_20.heap b k .char (3 : Int32) [(.int c0), (.int c1), (.int c2)] (.int (0 : Int32)) := (V_9.keep K_22 (ninS (Nat.ne_of_lt (Nat.lt_of_lt_of_le hp0.lt (Nat.le_trans (Nat.le_refl _) g_6))) nin0))
  obtain ⟨c_26, A_27, q_28, S_29, M_30, H_31, U_32⟩ := id V_25
  have hin_33 : ¬ ((1 : Int32) < 0 ∨ c_26.slots.size ≤ (1 : Int32).toNatClampNeg) := inb_of S_29 ⟨(by decide : ¬ ((1 : Int32) < (0 : Int32))), (by decide : (1 : Int32) < (3 : Int32))⟩
  have hat_34 : c_26.slots[(1 : Int32).toNatClampNeg]? = some (.int c1) := Has.at H_31 hin_33 rfl
  have O_35 : Old Z n0 T_20.heap := (O_19.keep K_22 (allS (Nat.le_trans (own_n0 X00) g_6) all0))
  obtain ⟨_, _, ⟨T_36, L_36, k_36, n_36⟩, -, X_36, ⟨Lc_36, hQ_36, l_36, y_36, z_36⟩, st_36⟩ := Jvm.LawKit.callS X_20 hx (y := M64) hown (mvT hZ (w86 hw)) (mvT hZ (w87 hw)) (mvT hZ (w68 hw)) (mvT hZ (w88 hw)) (by decide) (backOf (W := 0) (rm_put_3_1 l Z a0 hw [] G1 HG T_20.heap n0 O_35 a_2 k_3 c1 (own_lo8z c0) (own_hi8 c0) (0 : Int32) (0 : Int32) (0 : Int32) (0 : Int32) g_23 (Nat.le_trans (own_n0 X00) g_6)) hZ (w88 hw) (w68 hw) (by decide) (by decide)) (g := (mkF m 20 #[.val (.ref b), .val (.int (1 : Int32)), .val (.int (3 : Int32)), .val (.ref a_2), .val (.int (1 : Int32))] [(.int c1), (.int (1 : Int32)), (.ref a_2)])) rfl (by rw [hml]; rfl) (argsL := [(.ref a_2), (.int (1 : Int32)), (.int c1)]) (rest := []) (lenOf pd_111 rfl) rfl (by show 2 * 0 + _ ≤ _; exact Nat.le_of_eq rfl) (hb hby d5_20) (fun _ _ => ⟨rfl, rfl, (by decide : 1 + 0 ≤ _), (by decide : 6 + 0 ≤ _)⟩)
  dsimp only [Pt.U, Pt.locs, Pt.cells, Pt.slots] at X_36 l_36 y_36 z_36 st_36 hQ_36
  subst l_36 y_36 z_36
  obtain ⟨rfl, N_37, K_38, g_39⟩ := hQ_36
  have N_40 := Fr.app N_24 N_37
  have V_41 : Arv Z T_36.heap b k .char (3 : Int32) [(.int c0), (.int c1), (.int c2)] (.int (0 : Int32)) := (V_25.keep K_38 (ninS (Nat.ne_of_lt (Nat.lt_of_lt_of_le hp0.lt (Nat.le_trans (Nat.le_refl _) g_6))) nin0))
  obtain ⟨c_42, A_43, q_44, S_45, M_46, H_47, U_48⟩ := id V_41
  have hin_49 : ¬ ((2 : Int32) < 0 ∨ c_42.slots.size ≤ (2 : Int32).toNatClampNeg) := inb_of S_45 ⟨(by decide : ¬ ((2 : Int32) < (0 : Int32))), (by decide : (2 : Int32) < (3 : Int32))⟩
  have hat_50 : c_42.slots[(2 : Int32).toNatClampNeg]? = some (.int c2) := Has.at H_47 hin_49 rfl
  have O_51 : Old Z n0 T_36.heap := (O_35.keep K_38 (allS (Nat.le_trans (own_n0 X00) g_6) all0))
  obtain ⟨_, _, ⟨T_52, L_52, k_52, n_52⟩, -, X_52, ⟨Lc_52, hQ_52, l_52, y_52, z_52⟩, st_52⟩ := Jvm.LawKit.callS X_36 hx (y := M64) hown (mvT hZ (w86 hw)) (mvT hZ (w87 hw)) (mvT hZ (w68 hw)) (mvT hZ (w88 hw)) (by decide) (backOf (W := 0) (rm_put_3_2 l Z a0 hw [] G1 HG T_36.heap n0 O_51 a_2 k_3 c2 (own_lo8z c0) (own_hi8 c0) (own_lo8z c1) (own_hi8 c1) (0 : Int32) (0 : Int32) g_39 (Nat.le_trans (own_n0 X00) g_6)) hZ (w88 hw) (w68 hw) (by decide) (by decide)) (g := (mkF m 20 #[.val (.ref b), .val (.int (2 : Int32)), .val (.int (3 : Int32)), .val (.ref a_2), .val (.int (2 : Int32))] [(.int c2), (.int (2 : Int32)), (.ref a_2)])) rfl (by rw [hml]; rfl) (argsL := [(.ref a_2), (.int (2 : Int32)), (.int c2)]) (rest := []) (lenOf pd_111 rfl) rfl (by show 2 * 0 + _ ≤ _; exact Nat.le_of_eq rfl) (hb hby d5_20) (fun _ _ => ⟨rfl, rfl, (by decide : 1 + 0 ≤ _), (by decide : 6 + 0 ≤ _)⟩)
  dsimp only [Pt.U, Pt.locs, Pt.cells, Pt.slots] at X_52 l_52 y_52 z_52 st_52 hQ_52
  subst l_52 y_52 z_52
  obtain ⟨rfl, N_53, K_54, g_55⟩ := hQ_52
  have N_56 := Fr.app N_40 N_53
  have C_57 : Steps p.tables e below S0 (T_52.setTop (mkF m 33 #[.val (.ref b), .val (.int (3 : Int32)), .val (.int (3 : Int32)), .val (.ref a_2), .val (.int (3 : Int32))] [(.ref a_2)])) := by
    refine C0.trans ?_
    refine XS.iloadN X0.here hx rfl (hb hby d5_0) rfl ?_
    refine st_1 _ ?_
    refine XS.astoreN X_1.here hx rfl (hb hby d5_4) rfl rfl (l' := #[.val (.ref b), .val (.int (0 : Int32)), .val (.int (3 : Int32)), .val (.ref a_2), .unset]) rfl ?_
    refine XS.iconst X_1.here hx rfl (hb hby d5_5) ?_
    refine XS.istore X_1.here hx rfl (hb hby d5_6) rfl (l' := #[.val (.ref b), .val (.int (0 : Int32)), .val (.int (3 : Int32)), .val (.ref a_2), .val (.int (0 : Int32))]) rfl ?_
    refine XS.iload X_1.here hx rfl (hb hby d5_8) rfl ?_
    refine XS.iloadN X_1.here hx rfl (hb hby d5_10) rfl ?_
    refine XS.icmpNo X_1.here hx rfl (hb hby d5_11) rfl (by decide) ?_
    show Steps p.tables e below (T_1.setTop (mkF m 14 #[.val (.ref b), .val (.int (0 : Int32)), .val (.int (3 : Int32)), .val (.ref a_2), .val (.int (0 : Int32))] [])) _
    refine XS.aloadN X_1.here hx rfl (hb hby d5_14) rfl rfl ?_
    refine XS.iload X_1.here hx rfl (hb hby d5_15) rfl ?_
    refine XS.aloadN X_1.here hx rfl (hb hby d5_17) rfl rfl ?_
    refine XS.iloadN X_1.here hx rfl (hb hby d5_18) rfl ?_
    refine X_1.caload hx (j := (0 : Int32)) (v := (.int c0)) (A_11.1) (State.isArrayOf_alike hZ.alike A_11.2.1) A_11.2.2 hin_17 hat_18 (g := (mkF m 19 #[.val (.ref b), .val (.int (0 : Int32)), .val (.int (3 : Int32)), .val (.ref a_2), .val (.int (0 : Int32))] [(.int (0 : Int32)), (.ref b), (.int (0 : Int32)), (.ref a_2)])) rfl rfl (hb hby d5_19) _ ?_
    refine st_20 _ ?_
    refine XS.iinc X_20.here hx rfl (hb hby d5_23) (x := (0 : Int32)) rfl (l' := #[.val (.ref b), .val (.int (1 : Int32)), .val (.int (3 : Int32)), .val (.ref a_2), .val (.int (0 : Int32))]) rfl ?_
    refine XS.iinc X_20.here hx rfl (hb hby d5_26) (x := (0 : Int32)) rfl (l' := #[.val (.ref b), .val (.int (1 : Int32)), .val (.int (3 : Int32)), .val (.ref a_2), .val (.int (1 : Int32))]) rfl ?_
    show Steps p.tables e below (T_20.setTop (mkF m 29 #[.val (.ref b), .val (.int (1 : Int32)), .val (.int (3 : Int32)), .val (.ref a_2), .val (.int (1 : Int32))] [])) _
    refine XS.goto X_20.here hx rfl (pc0 := 29) (pc' := 8) rfl (hb hby d5_29) (by decide) (by decide) ?_
    refine XS.iload X_20.here hx rfl (hb hby d5_8) rfl ?_
    refine XS.iloadN X_20.here hx rfl (hb hby d5_10) rfl ?_
    refine XS.icmpNo X_20.here hx rfl (hb hby d5_11) rfl (by decide) ?_
    refine XS.aloadN X_20.here hx rfl (hb hby d5_14) rfl rfl ?_
    refine XS.iload X_20.here hx rfl (hb hby d5_15) rfl ?_
    refine XS.aloadN X_20.here hx rfl (hb hby d5_17) rfl rfl ?_
    refine XS.iloadN X_20.here hx rfl (hb hby d5_18) rfl ?_
    show Steps p.tables e below (T_20.setTop (mkF m 19 #[.val (.ref b), .val (.int (1 : Int32)), .val (.int (3 : Int32)), .val (.ref a_2), .val (.int (1 : Int32))] [(.int (1 : Int32)), (.ref b), (.int (1 : Int32)), (.ref a_2)])) _
    refine X_20.caload hx (j := (1 : Int32)) (v := (.int c1)) (A_27.1) (State.isArrayOf_alike hZ.alike A_27.2.1) A_27.2.2 hin_33 hat_34 (g := (mkF m 19 #[.val (.ref b), .val (.int (1 : Int32)), .val (.int (3 : Int32)), .val (.ref a_2), .val (.int (1 : Int32))] [(.int (1 : Int32)), (.ref b), (.int (1 : Int32)), (.ref a_2)])) rfl rfl (hb hby d5_19) _ ?_
    refine st_36 _ ?_
    refine XS.iinc X_36.here hx rfl (hb hby d5_23) (x := (1 : Int32)) rfl (l' := #[.val (.ref b), .val (.int (2 : Int32)), .val (.int (3 : Int32)), .val (.ref a_2), .val (.int (1 : Int32))]) rfl ?_
    refine XS.iinc X_36.here hx rfl (hb hby d5_26) (x := (1 : Int32)) rfl (l' := #[.val (.ref b), .val (.int (2 : Int32)), .val (.int (3 : Int32)), .val (.ref a_2), .val (.int (2 : Int32))]) rfl ?_
    refine XS.goto X_36.here hx rfl (pc0 := 29) (pc' := 8) rfl (hb hby d5_29) (by decide) (by decide) ?_
    refine XS.iload X_36.here hx rfl (hb hby d5_8) rfl ?_
    refine XS.iloadN X_36.here hx rfl (hb hby d5_10) rfl ?_
    refine XS.icmpNo X_36.here hx rfl (hb hby d5_11) rfl (by decide) ?_
    show Steps p.tables e below (T_36.setTop (mkF m 14 #[.val (.ref b), .val (.int (2 : Int32)), .val (.int (3 : Int32)), .val (.ref a_2), .val (.int (2 : Int32))] [])) _
    refine XS.aloadN X_36.here hx rfl (hb hby d5_14) rfl rfl ?_
    refine XS.iload X_36.here hx rfl (hb hby d5_15) rfl ?_
    refine XS.aloadN X_36.here hx rfl (hb hby d5_17) rfl rfl ?_
    refine XS.iloadN X_36.here hx rfl (hb hby d5_18) rfl ?_
    refine X_36.caload hx (j := (2 : Int32)) (v := (.int c2)) (A_43.1) (State.isArrayOf_alike hZ.alike A_43.2.1) A_43.2.2 hin_49 hat_50 (g := (mkF m 19 #[.val (.ref b), .val (.int (2 : Int32)), .val (.int (3 : Int32)), .val (.ref a_2), .val (.int (2 : Int32))] [(.int (2 : Int32)), (.ref b), (.int (2 : Int32)), (.ref a_2)])) rfl rfl (hb hby d5_19) _ ?_
    refine st_52 _ ?_
    refine XS.iinc X_52.here hx rfl (hb hby d5_23) (x := (2 : Int32)) rfl (l' := #[.val (.ref b), .val (.int (3 : Int32)), .val (.int (3 : Int32)), .val (.ref a_2), .val (.int (2 : Int32))]) rfl ?_
    refine XS.iinc X_52.here hx rfl (hb hby d5_26) (x := (2 : Int32)) rfl (l' := #[.val (.ref b), .val (.int (3 : Int32)), .val (.int (3 : Int32)), .val (.ref a_2), .val (.int (3 : Int32))]) rfl ?_
    show Steps p.tables e below (T_52.setTop (mkF m 29 #[.val (.ref b), .val (.int (3 : Int32)), .val (.int (3 : Int32)), .val (.ref a_2), .val (.int (3 : Int32))] [])) _
    refine XS.goto X_52.here hx rfl (pc0 := 29) (pc' := 8) rfl (hb hby d5_29) (by decide) (by decide) ?_
    refine XS.iload X_52.here hx rfl (hb hby d5_8) rfl ?_
    refine XS.iloadN X_52.here hx rfl (hb hby d5_10) rfl ?_
    refine XS.icmpYes X_52.here hx rfl (pc0 := 11) (pc' := 32) rfl (hb hby d5_11) rfl (by decide) (by decide) (by decide) ?_
    refine XS.aloadN X_52.here hx rfl (hb hby d5_32) rfl rfl ?_
    exact Steps.refl _
  have K_58 : Keep h0 T_52.heap [] := (((((Keep.refl _ _).trans K_5 all0).trans K_22 (allS (Or.inr (Nat.le_trans (Nat.le_refl _) g_6)) all0)).trans K_38 (allS (Or.inr (Nat.le_trans (Nat.le_refl _) g_6)) all0)).trans K_54 (allS (Or.inr (Nat.le_trans (Nat.le_refl _) g_6)) all0))
  obtain ⟨fs, hr, hrun, hended, hW, hsame⟩ := X_52.leave (v := some (.ref a_2)) (fun h => by rw [Bd.returns] at h; cases h)
  refine ⟨_, _, C_57.trans (retOut X_52 hx Bd.returns rfl (Or.inr (Or.inr (Or.inr (Or.inr ⟨rfl, rfl, rfl⟩)))) (hb hby d5_33) hr), hrun, hended, _, _, rfl, ?_, ⟨_, rfl⟩, hW, hsame.mono (by decide) (by decide)⟩
  show Q_tob_3 Z G1 b k c0 c1 c2 h0 n0 (some (.ref a_2)) T_52.heap _
  exact ⟨a_2, k_3, rfl, N_56, K_58, (Nat.le_trans (Nat.le_refl _) g_6), g_55⟩
abbrev R_get_3_0 : Room := { frames := 0, cells := 0, slots := 0, locals := 0 }
def Q_get_3_0 (Z : State) (G1 : Int32) (t : Addr) (kt : ClassId) (y0 : Int32) (y1 : Int32) (y2 : Int32) (y3 : Int32) (y4 : Int32) (y5 : Int32) (h0 : Heap) (n0 : Nat) (v : Option Value) (h : Heap) (L : List Loc) : Prop := (v = some (.int (own_pair y0 y1)) ∧ Fr n0 L ∧ h = h0)
set_option maxRecDepth 65536 in
set_option maxHeartbeats 40000000 in
theorem rm_get_3_0 (l : Launch) (Z : State) (a0 : Array Value) (hw : ∀ d ∈ tables_1, d.before a0 Z = true) (ws : List Jvm.Cond) (G1 : Int32) (HG : own_G l Z a0 G1) (h0 : Heap) (n0 : Nat) (X00 : Old Z n0 h0) (t : Addr) (kt : ClassId) (y0 : Int32) (y1 : Int32) (y2 : Int32) (y3 : Int32) (y4 : Int32) (y5 : Int32) (hp0 : Arv Z h0 t kt .byte (6 : Int32) [(.int y0), (.int y1), (.int y2), (.int y3), (.int y4), (.int y5)] (.int (0 : Int32))) :
    own_CP l Z M120 jdk_52_method_5_code 2 (some .char) ws R_get_3_0 #[(.ref t), (.int (0 : Int32))] h0 (Q_get_3_0 Z G1 t kt y0 y1 y2 y3 y4 y5 h0 n0) := by
  refine own_P (plainFor_of_name pn_42) ?_
  intro p e s m below meth c s₁ S0 Bd hZ hh hx hby hml hown hnm X0 e0 hS0d
  obtain ⟨O1, P1, OAD, OHI, OLO⟩ := id HG
  have N0 := Fr.nil n0
  have C0 : Steps p.tables e below S0 (s₁.setTop (mkF m 0 #[.val (.ref t), .val (.int (0 : Int32))] [])) := by rw [hS0d]; exact castTop (ef_121 m t (0 : Int32)) (Steps.refl _)
  obtain ⟨T_1, X_2, e_3, st_4⟩ := getS X0 hx hZ (host := "") hown (w89 hw) Via.refl e0 (OAD.ext X00.2) (g := (mkF m 0 #[.val (.ref t), .val (.int (0 : Int32))] [])) rfl (hb hby d6_0)
  obtain ⟨c_5, A_6, q_7, S_8, M_9, H_10, U_11⟩ := id hp0
  have hin_12 : ¬ ((0 : Int32) < 0 ∨ c_5.slots.size ≤ (0 : Int32).toNatClampNeg) := inb_of S_8 ⟨(by decide : ¬ ((0 : Int32) < (0 : Int32))), (by decide : (0 : Int32) < (6 : Int32))⟩
  have hat_13 : c_5.slots[(0 : Int32).toNatClampNeg]? = some (.int y0) := Has.at H_10 hin_12 rfl
  obtain ⟨T_14, X_15, e_16, st_17⟩ := getS X_2 hx hZ (host := "") hown (w90 hw) Via.refl e_3 (OHI.ext X00.2) (g := (mkF m 42 #[.val (.ref t), .val (.int (1 : Int32))] [(.int (y0 &&& (255 : Int32)))])) rfl (hb hby d6_42)
  obtain ⟨c_18, A_19, q_20, S_21, M_22, H_23, U_24⟩ := id hp0
  have hin_25 : ¬ ((1 : Int32) < 0 ∨ c_18.slots.size ≤ (1 : Int32).toNatClampNeg) := inb_of S_21 ⟨(by decide : ¬ ((1 : Int32) < (0 : Int32))), (by decide : (1 : Int32) < (6 : Int32))⟩
  have hat_26 : c_18.slots[(1 : Int32).toNatClampNeg]? = some (.int y1) := Has.at H_23 hin_25 rfl
  obtain ⟨T_27, X_28, e_29, st_30⟩ := getS X_15 hx hZ (host := "") hown (w91 hw) Via.refl e_16 (OLO.ext X00.2) (g := (mkF m 53 #[.val (.ref t), .val (.int (1 : Int32))] [(.int (y1 &&& (255 : Int32))), (.int ((y0 &&& (255 : Int32)) <<< ((0 : Int32) &&& 31)))])) rfl (hb hby d6_53)
  have C_31 : Steps p.tables e below S0 (T_27.setTop (mkF m 59 #[.val (.ref t), .val (.int (1 : Int32))] [(.int ((((y0 &&& (255 : Int32)) <<< ((0 : Int32) &&& 31)) ||| ((y1 &&& (255 : Int32)) <<< ((8 : Int32) &&& 31))).toUInt32.toUInt16.toUInt32.toInt32))])) := by
    refine C0.trans ?_
    refine st_4 _ ?_
    refine XS.ifYes X_2.here hx rfl (pc0 := 3) (pc' := 28) rfl (hb hby d6_3) rfl (by decide) (by decide) (by decide) ?_
    refine XS.iloadN X_2.here hx rfl (hb hby d6_28) rfl ?_
    refine XS.iconst X_2.here hx rfl (hb hby d6_29) ?_
    refine XS.ishl X_2.here hx rfl (hb hby d6_30) rfl ?_
    refine XS.istoreN X_2.here hx rfl (hb hby d6_31) rfl (l' := #[.val (.ref t), .val (.int (0 : Int32))]) rfl ?_
    refine XS.aloadN X_2.here hx rfl (hb hby d6_32) rfl rfl ?_
    refine XS.iloadN X_2.here hx rfl (hb hby d6_33) rfl ?_
    show Steps p.tables e below (T_1.setTop (mkF m 34 #[.val (.ref t), .val (.int (0 : Int32))] [(.int (0 : Int32)), (.ref t)])) _
    refine XS.iinc X_2.here hx rfl (hb hby d6_34) (x := (0 : Int32)) rfl (l' := #[.val (.ref t), .val (.int (1 : Int32))]) rfl ?_
    refine X_2.baloadBytes hx (j := (0 : Int32)) (v := (.int y0)) (by rw [e_3]; exact A_6.1) (State.isArrayOf_alike hZ.alike A_6.2.1) A_6.2.2 hin_12 hat_13 (g := (mkF m 37 #[.val (.ref t), .val (.int (1 : Int32))] [(.int (0 : Int32)), (.ref t)])) rfl rfl (hb hby d6_37) _ ?_
    refine XS.sipush X_2.here hx rfl (hb hby d6_38) ?_
    refine XS.iand X_2.here hx rfl (hb hby d6_41) rfl ?_
    refine st_17 _ ?_
    refine XS.ishl X_15.here hx rfl (hb hby d6_45) rfl ?_
    refine XS.aloadN X_15.here hx rfl (hb hby d6_46) rfl rfl ?_
    refine XS.iloadN X_15.here hx rfl (hb hby d6_47) rfl ?_
    show Steps p.tables e below (T_14.setTop (mkF m 48 #[.val (.ref t), .val (.int (1 : Int32))] [(.int (1 : Int32)), (.ref t), (.int ((y0 &&& (255 : Int32)) <<< ((0 : Int32) &&& 31)))])) _
    refine X_15.baloadBytes hx (j := (1 : Int32)) (v := (.int y1)) (by rw [e_16]; exact A_19.1) (State.isArrayOf_alike hZ.alike A_19.2.1) A_19.2.2 hin_25 hat_26 (g := (mkF m 48 #[.val (.ref t), .val (.int (1 : Int32))] [(.int (1 : Int32)), (.ref t), (.int ((y0 &&& (255 : Int32)) <<< ((0 : Int32) &&& 31)))])) rfl rfl (hb hby d6_48) _ ?_
    refine XS.sipush X_15.here hx rfl (hb hby d6_49) ?_
    refine XS.iand X_15.here hx rfl (hb hby d6_52) rfl ?_
    refine st_30 _ ?_
    refine XS.ishl X_28.here hx rfl (hb hby d6_56) rfl ?_
    refine XS.ior X_28.here hx rfl (hb hby d6_57) rfl ?_
    refine XS.i2c X_28.here hx rfl (hb hby d6_58) rfl ?_
    exact Steps.refl _
  obtain ⟨fs, hr, hrun, hended, hW, hsame⟩ := X_28.leave (v := some (.int (own_pair y0 y1))) (fun h => by rw [Bd.returns] at h; cases h)
  refine ⟨_, _, C_31.trans (retN X_28 hx (t := .char) Bd.returns (by simp) (hb hby d6_59) hr), hrun, hended, _, _, rfl, ?_, ⟨_, rfl⟩, hW, hsame.mono (by decide) (by decide)⟩
  show Q_get_3_0 Z G1 t kt y0 y1 y2 y3 y4 y5 h0 n0 (some (.int (own_pair y0 y1))) T_27.heap _
  rw [e_29]
  exact ⟨rfl, N0, rfl⟩
abbrev R_get_3_1 : Room := { frames := 0, cells := 0, slots := 0, locals := 0 }
def Q_get_3_1 (Z : State) (G1 : Int32) (t : Addr) (kt : ClassId) (y0 : Int32) (y1 : Int32) (y2 : Int32) (y3 : Int32) (y4 : Int32) (y5 : Int32) (h0 : Heap) (n0 : Nat) (v : Option Value) (h : Heap) (L : List Loc) : Prop := (v = some (.int (own_pair y2 y3)) ∧ Fr n0 L ∧ h = h0)
set_option maxRecDepth 65536 in
set_option maxHeartbeats 40000000 in
theorem rm_get_3_1 (l : Launch) (Z : State) (a0 : Array Value) (hw : ∀ d ∈ tables_1, d.before a0 Z = true) (ws : List Jvm.Cond) (G1 : Int32) (HG : own_G l Z a0 G1) (h0 : Heap) (n0 : Nat) (X00 : Old Z n0 h0) (t : Addr) (kt : ClassId) (y0 : Int32) (y1 : Int32) (y2 : Int32) (y3 : Int32) (y4 : Int32) (y5 : Int32) (hp0 : Arv Z h0 t kt .byte (6 : Int32) [(.int y0), (.int y1), (.int y2), (.int y3), (.int y4), (.int y5)] (.int (0 : Int32))) :
    own_CP l Z M120 jdk_52_method_5_code 2 (some .char) ws R_get_3_1 #[(.ref t), (.int (1 : Int32))] h0 (Q_get_3_1 Z G1 t kt y0 y1 y2 y3 y4 y5 h0 n0) := by
  refine own_P (plainFor_of_name pn_42) ?_
  intro p e s m below meth c s₁ S0 Bd hZ hh hx hby hml hown hnm X0 e0 hS0d
  obtain ⟨O1, P1, OAD, OHI, OLO⟩ := id HG
  have N0 := Fr.nil n0
  have C0 : Steps p.tables e below S0 (s₁.setTop (mkF m 0 #[.val (.ref t), .val (.int (1 : Int32))] [])) := by rw [hS0d]; exact castTop (ef_121 m t (1 : Int32)) (Steps.refl _)
  obtain ⟨T_1, X_2, e_3, st_4⟩ := getS X0 hx hZ (host := "") hown (w89 hw) Via.refl e0 (OAD.ext X00.2) (g := (mkF m 0 #[.val (.ref t), .val (.int (1 : Int32))] [])) rfl (hb hby d6_0)
  obtain ⟨c_5, A_6, q_7, S_8, M_9, H_10, U_11⟩ := id hp0
  have hin_12 : ¬ ((2 : Int32) < 0 ∨ c_5.slots.size ≤ (2 : Int32).toNatClampNeg) := inb_of S_8 ⟨(by decide : ¬ ((2 : Int32) < (0 : Int32))), (by decide : (2 : Int32) < (6 : Int32))⟩
  have hat_13 : c_5.slots[(2 : Int32).toNatClampNeg]? = some (.int y2) := Has.at H_10 hin_12 rfl
  obtain ⟨T_14, X_15, e_16, st_17⟩ := getS X_2 hx hZ (host := "") hown (w90 hw) Via.refl e_3 (OHI.ext X00.2) (g := (mkF m 42 #[.val (.ref t), .val (.int (3 : Int32))] [(.int (y2 &&& (255 : Int32)))])) rfl (hb hby d6_42)
  obtain ⟨c_18, A_19, q_20, S_21, M_22, H_23, U_24⟩ := id hp0
  have hin_25 : ¬ ((3 : Int32) < 0 ∨ c_18.slots.size ≤ (3 : Int32).toNatClampNeg) := inb_of S_21 ⟨(by decide : ¬ ((3 : Int32) < (0 : Int32))), (by decide : (3 : Int32) < (6 : Int32))⟩
  have hat_26 : c_18.slots[(3 : Int32).toNatClampNeg]? = some (.int y3) := Has.at H_23 hin_25 rfl
  obtain ⟨T_27, X_28, e_29, st_30⟩ := getS X_15 hx hZ (host := "") hown (w91 hw) Via.refl e_16 (OLO.ext X00.2) (g := (mkF m 53 #[.val (.ref t), .val (.int (3 : Int32))] [(.int (y3 &&& (255 : Int32))), (.int ((y2 &&& (255 : Int32)) <<< ((0 : Int32) &&& 31)))])) rfl (hb hby d6_53)
  have C_31 : Steps p.tables e below S0 (T_27.setTop (mkF m 59 #[.val (.ref t), .val (.int (3 : Int32))] [(.int ((((y2 &&& (255 : Int32)) <<< ((0 : Int32) &&& 31)) ||| ((y3 &&& (255 : Int32)) <<< ((8 : Int32) &&& 31))).toUInt32.toUInt16.toUInt32.toInt32))])) := by
    refine C0.trans ?_
    refine st_4 _ ?_
    refine XS.ifYes X_2.here hx rfl (pc0 := 3) (pc' := 28) rfl (hb hby d6_3) rfl (by decide) (by decide) (by decide) ?_
    refine XS.iloadN X_2.here hx rfl (hb hby d6_28) rfl ?_
    refine XS.iconst X_2.here hx rfl (hb hby d6_29) ?_
    refine XS.ishl X_2.here hx rfl (hb hby d6_30) rfl ?_
    refine XS.istoreN X_2.here hx rfl (hb hby d6_31) rfl (l' := #[.val (.ref t), .val (.int (2 : Int32))]) rfl ?_
    refine XS.aloadN X_2.here hx rfl (hb hby d6_32) rfl rfl ?_
    refine XS.iloadN X_2.here hx rfl (hb hby d6_33) rfl ?_
    show Steps p.tables e below (T_1.setTop (mkF m 34 #[.val (.ref t), .val (.int (2 : Int32))] [(.int (2 : Int32)), (.ref t)])) _
    refine XS.iinc X_2.here hx rfl (hb hby d6_34) (x := (2 : Int32)) rfl (l' := #[.val (.ref t), .val (.int (3 : Int32))]) rfl ?_
    refine X_2.baloadBytes hx (j := (2 : Int32)) (v := (.int y2)) (by rw [e_3]; exact A_6.1) (State.isArrayOf_alike hZ.alike A_6.2.1) A_6.2.2 hin_12 hat_13 (g := (mkF m 37 #[.val (.ref t), .val (.int (3 : Int32))] [(.int (2 : Int32)), (.ref t)])) rfl rfl (hb hby d6_37) _ ?_
    refine XS.sipush X_2.here hx rfl (hb hby d6_38) ?_
    refine XS.iand X_2.here hx rfl (hb hby d6_41) rfl ?_
    refine st_17 _ ?_
    refine XS.ishl X_15.here hx rfl (hb hby d6_45) rfl ?_
    refine XS.aloadN X_15.here hx rfl (hb hby d6_46) rfl rfl ?_
    refine XS.iloadN X_15.here hx rfl (hb hby d6_47) rfl ?_
    show Steps p.tables e below (T_14.setTop (mkF m 48 #[.val (.ref t), .val (.int (3 : Int32))] [(.int (3 : Int32)), (.ref t), (.int ((y2 &&& (255 : Int32)) <<< ((0 : Int32) &&& 31)))])) _
    refine X_15.baloadBytes hx (j := (3 : Int32)) (v := (.int y3)) (by rw [e_16]; exact A_19.1) (State.isArrayOf_alike hZ.alike A_19.2.1) A_19.2.2 hin_25 hat_26 (g := (mkF m 48 #[.val (.ref t), .val (.int (3 : Int32))] [(.int (3 : Int32)), (.ref t), (.int ((y2 &&& (255 : Int32)) <<< ((0 : Int32) &&& 31)))])) rfl rfl (hb hby d6_48) _ ?_
    refine XS.sipush X_15.here hx rfl (hb hby d6_49) ?_
    refine XS.iand X_15.here hx rfl (hb hby d6_52) rfl ?_
    refine st_30 _ ?_
    refine XS.ishl X_28.here hx rfl (hb hby d6_56) rfl ?_
    refine XS.ior X_28.here hx rfl (hb hby d6_57) rfl ?_
    refine XS.i2c X_28.here hx rfl (hb hby d6_58) rfl ?_
    exact Steps.refl _
  obtain ⟨fs, hr, hrun, hended, hW, hsame⟩ := X_28.leave (v := some (.int (own_pair y2 y3))) (fun h => by rw [Bd.returns] at h; cases h)
  refine ⟨_, _, C_31.trans (retN X_28 hx (t := .char) Bd.returns (by simp) (hb hby d6_59) hr), hrun, hended, _, _, rfl, ?_, ⟨_, rfl⟩, hW, hsame.mono (by decide) (by decide)⟩
  show Q_get_3_1 Z G1 t kt y0 y1 y2 y3 y4 y5 h0 n0 (some (.int (own_pair y2 y3))) T_27.heap _
  rw [e_29]
  exact ⟨rfl, N0, rfl⟩
abbrev R_get_3_2 : Room := { frames := 0, cells := 0, slots := 0, locals := 0 }
def Q_get_3_2 (Z : State) (G1 : Int32) (t : Addr) (kt : ClassId) (y0 : Int32) (y1 : Int32) (y2 : Int32) (y3 : Int32) (y4 : Int32) (y5 : Int32) (h0 : Heap) (n0 : Nat) (v : Option Value) (h : Heap) (L : List Loc) : Prop := (v = some (.int (own_pair y4 y5)) ∧ Fr n0 L ∧ h = h0)
set_option maxRecDepth 65536 in
set_option maxHeartbeats 40000000 in
theorem rm_get_3_2 (l : Launch) (Z : State) (a0 : Array Value) (hw : ∀ d ∈ tables_1, d.before a0 Z = true) (ws : List Jvm.Cond) (G1 : Int32) (HG : own_G l Z a0 G1) (h0 : Heap) (n0 : Nat) (X00 : Old Z n0 h0) (t : Addr) (kt : ClassId) (y0 : Int32) (y1 : Int32) (y2 : Int32) (y3 : Int32) (y4 : Int32) (y5 : Int32) (hp0 : Arv Z h0 t kt .byte (6 : Int32) [(.int y0), (.int y1), (.int y2), (.int y3), (.int y4), (.int y5)] (.int (0 : Int32))) :
    own_CP l Z M120 jdk_52_method_5_code 2 (some .char) ws R_get_3_2 #[(.ref t), (.int (2 : Int32))] h0 (Q_get_3_2 Z G1 t kt y0 y1 y2 y3 y4 y5 h0 n0) := by
  refine own_P (plainFor_of_name pn_42) ?_
  intro p e s m below meth c s₁ S0 Bd hZ hh hx hby hml hown hnm X0 e0 hS0d
  obtain ⟨O1, P1, OAD, OHI, OLO⟩ := id HG
  have N0 := Fr.nil n0
  have C0 : Steps p.tables e below S0 (s₁.setTop (mkF m 0 #[.val (.ref t), .val (.int (2 : Int32))] [])) := by rw [hS0d]; exact castTop (ef_121 m t (2 : Int32)) (Steps.refl _)
  obtain ⟨T_1, X_2, e_3, st_4⟩ := getS X0 hx hZ (host := "") hown (w89 hw) Via.refl e0 (OAD.ext X00.2) (g := (mkF m 0 #[.val (.ref t), .val (.int (2 : Int32))] [])) rfl (hb hby d6_0)
  obtain ⟨c_5, A_6, q_7, S_8, M_9, H_10, U_11⟩ := id hp0
  have hin_12 : ¬ ((4 : Int32) < 0 ∨ c_5.slots.size ≤ (4 : Int32).toNatClampNeg) := inb_of S_8 ⟨(by decide : ¬ ((4 : Int32) < (0 : Int32))), (by decide : (4 : Int32) < (6 : Int32))⟩
  have hat_13 : c_5.slots[(4 : Int32).toNatClampNeg]? = some (.int y4) := Has.at H_10 hin_12 rfl
  obtain ⟨T_14, X_15, e_16, st_17⟩ := getS X_2 hx hZ (host := "") hown (w90 hw) Via.refl e_3 (OHI.ext X00.2) (g := (mkF m 42 #[.val (.ref t), .val (.int (5 : Int32))] [(.int (y4 &&& (255 : Int32)))])) rfl (hb hby d6_42)
  obtain ⟨c_18, A_19, q_20, S_21, M_22, H_23, U_24⟩ := id hp0
  have hin_25 : ¬ ((5 : Int32) < 0 ∨ c_18.slots.size ≤ (5 : Int32).toNatClampNeg) := inb_of S_21 ⟨(by decide : ¬ ((5 : Int32) < (0 : Int32))), (by decide : (5 : Int32) < (6 : Int32))⟩
  have hat_26 : c_18.slots[(5 : Int32).toNatClampNeg]? = some (.int y5) := Has.at H_23 hin_25 rfl
  obtain ⟨T_27, X_28, e_29, st_30⟩ := getS X_15 hx hZ (host := "") hown (w91 hw) Via.refl e_16 (OLO.ext X00.2) (g := (mkF m 53 #[.val (.ref t), .val (.int (5 : Int32))] [(.int (y5 &&& (255 : Int32))), (.int ((y4 &&& (255 : Int32)) <<< ((0 : Int32) &&& 31)))])) rfl (hb hby d6_53)
  have C_31 : Steps p.tables e below S0 (T_27.setTop (mkF m 59 #[.val (.ref t), .val (.int (5 : Int32))] [(.int ((((y4 &&& (255 : Int32)) <<< ((0 : Int32) &&& 31)) ||| ((y5 &&& (255 : Int32)) <<< ((8 : Int32) &&& 31))).toUInt32.toUInt16.toUInt32.toInt32))])) := by
    refine C0.trans ?_
    refine st_4 _ ?_
    refine XS.ifYes X_2.here hx rfl (pc0 := 3) (pc' := 28) rfl (hb hby d6_3) rfl (by decide) (by decide) (by decide) ?_
    refine XS.iloadN X_2.here hx rfl (hb hby d6_28) rfl ?_
    refine XS.iconst X_2.here hx rfl (hb hby d6_29) ?_
    refine XS.ishl X_2.here hx rfl (hb hby d6_30) rfl ?_
    refine XS.istoreN X_2.here hx rfl (hb hby d6_31) rfl (l' := #[.val (.ref t), .val (.int (4 : Int32))]) rfl ?_
    refine XS.aloadN X_2.here hx rfl (hb hby d6_32) rfl rfl ?_
    refine XS.iloadN X_2.here hx rfl (hb hby d6_33) rfl ?_
    show Steps p.tables e below (T_1.setTop (mkF m 34 #[.val (.ref t), .val (.int (4 : Int32))] [(.int (4 : Int32)), (.ref t)])) _
    refine XS.iinc X_2.here hx rfl (hb hby d6_34) (x := (4 : Int32)) rfl (l' := #[.val (.ref t), .val (.int (5 : Int32))]) rfl ?_
    refine X_2.baloadBytes hx (j := (4 : Int32)) (v := (.int y4)) (by rw [e_3]; exact A_6.1) (State.isArrayOf_alike hZ.alike A_6.2.1) A_6.2.2 hin_12 hat_13 (g := (mkF m 37 #[.val (.ref t), .val (.int (5 : Int32))] [(.int (4 : Int32)), (.ref t)])) rfl rfl (hb hby d6_37) _ ?_
    refine XS.sipush X_2.here hx rfl (hb hby d6_38) ?_
    refine XS.iand X_2.here hx rfl (hb hby d6_41) rfl ?_
    refine st_17 _ ?_
    refine XS.ishl X_15.here hx rfl (hb hby d6_45) rfl ?_
    refine XS.aloadN X_15.here hx rfl (hb hby d6_46) rfl rfl ?_
    refine XS.iloadN X_15.here hx rfl (hb hby d6_47) rfl ?_
    show Steps p.tables e below (T_14.setTop (mkF m 48 #[.val (.ref t), .val (.int (5 : Int32))] [(.int (5 : Int32)), (.ref t), (.int ((y4 &&& (255 : Int32)) <<< ((0 : Int32) &&& 31)))])) _
    refine X_15.baloadBytes hx (j := (5 : Int32)) (v := (.int y5)) (by rw [e_16]; exact A_19.1) (State.isArrayOf_alike hZ.alike A_19.2.1) A_19.2.2 hin_25 hat_26 (g := (mkF m 48 #[.val (.ref t), .val (.int (5 : Int32))] [(.int (5 : Int32)), (.ref t), (.int ((y4 &&& (255 : Int32)) <<< ((0 : Int32) &&& 31)))])) rfl rfl (hb hby d6_48) _ ?_
    refine XS.sipush X_15.here hx rfl (hb hby d6_49) ?_
    refine XS.iand X_15.here hx rfl (hb hby d6_52) rfl ?_
    refine st_30 _ ?_
    refine XS.ishl X_28.here hx rfl (hb hby d6_56) rfl ?_
    refine XS.ior X_28.here hx rfl (hb hby d6_57) rfl ?_
    refine XS.i2c X_28.here hx rfl (hb hby d6_58) rfl ?_
    exact Steps.refl _
  obtain ⟨fs, hr, hrun, hended, hW, hsame⟩ := X_28.leave (v := some (.int (own_pair y4 y5))) (fun h => by rw [Bd.returns] at h; cases h)
  refine ⟨_, _, C_31.trans (retN X_28 hx (t := .char) Bd.returns (by simp) (hb hby d6_59) hr), hrun, hended, _, _, rfl, ?_, ⟨_, rfl⟩, hW, hsame.mono (by decide) (by decide)⟩
  show Q_get_3_2 Z G1 t kt y0 y1 y2 y3 y4 y5 h0 n0 (some (.int (own_pair y4 y5))) T_27.heap _
  rw [e_29]
  exact ⟨rfl, N0, rfl⟩
abbrev R_cmp5u_3 : Room := { frames := 0, cells := 0, slots := 0, locals := 0 }
def Q_cmp5u_3 (Z : State) (G1 : Int32) (b : Addr) (k : ClassId) (t : Addr) (kt : ClassId) (c0 : Int32) (c1 : Int32) (c2 : Int32) (h0 : Heap) (n0 : Nat) (v : Option Value) (h : Heap) (L : List Loc) : Prop := (v = some (.int (0 : Int32)) ∧ Fr n0 L ∧ Keep h0 h [t] ∧ ((255 : Int32) < c0)) ∨ (v = some (.int (1 : Int32)) ∧ Fr n0 L ∧ Keep h0 h [t] ∧ ((255 : Int32) < c1)) ∨ (v = some (.int (2 : Int32)) ∧ Fr n0 L ∧ Keep h0 h [t] ∧ ((255 : Int32) < c2)) ∨ (v = some (.int (3 : Int32)) ∧ Fr n0 L ∧ Keep h0 h [t] ∧ (Arv Z h t kt .byte (3 : Int32) [(.int (own_lo8 c0)), (.int (own_lo8 c1)), (.int (own_lo8 c2))] (.int (0 : Int32))) ∧ (¬ ((255 : Int32) < c0)) ∧ (¬ ((255 : Int32) < c1)) ∧ (¬ ((255 : Int32) < c2)))
set_option maxRecDepth 65536 in
set_option maxHeartbeats 40000000 in
theorem rm_cmp5u_3 (l : Launch) (Z : State) (a0 : Array Value) (hw : ∀ d ∈ tables_1, d.before a0 Z = true) (ws : List Jvm.Cond) (G1 : Int32) (HG : own_G l Z a0 G1) (h0 : Heap) (n0 : Nat) (X00 : Old Z n0 h0) (b : Addr) (k : ClassId) (t : Addr) (kt : ClassId) (c0 : Int32) (c1 : Int32) (c2 : Int32) (hp0 : Arv Z h0 b k .char (3 : Int32) [(.int c0), (.int c1), (.int c2)] (.int (0 : Int32))) (hp1 : Arv Z h0 t kt .byte (3 : Int32) [(.int (0 : Int32)), (.int (0 : Int32)), (.int (0 : Int32))] (.int (0 : Int32))) (hp2 : n0 ≤ t) (hp3 : b ≠ t) :
    own_CP l Z M146 jdk_52_method_21_code 7 (some .int) ws R_cmp5u_3 #[(.ref b), (.int (0 : Int32)), (.ref t), (.int (0 : Int32)), (.int (3 : Int32))] h0 (Q_cmp5u_3 Z G1 b k t kt c0 c1 c2 h0 n0) := by
  refine own_P (plainFor_of_name pn_42) ?_
  intro p e s m below meth c s₁ S0 Bd hZ hh hx hby hml hown hnm X0 e0 hS0d
  obtain ⟨O1, P1, OAD, OHI, OLO⟩ := id HG
  have N0 := Fr.nil n0
  have C0 : Steps p.tables e below S0 (s₁.setTop (mkF m 0 #[.val (.ref b), .val (.int (0 : Int32)), .val (.ref t), .val (.int (0 : Int32)), .val (.int (3 : Int32)), .unset, .unset] [])) := by rw [hS0d]; exact castTop (ef_147 m b (0 : Int32) t (0 : Int32) (3 : Int32)) (Steps.refl _)
  obtain ⟨c_1, A_2, q_3, S_4, M_5, H_6, U_7⟩ := id hp0
  have hin_8 : ¬ ((0 : Int32) < 0 ∨ c_1.slots.size ≤ (0 : Int32).toNatClampNeg) := inb_of S_4 ⟨(by decide : ¬ ((0 : Int32) < (0 : Int32))), (by decide : (0 : Int32) < (3 : Int32))⟩
  have hat_9 : c_1.slots[(0 : Int32).toNatClampNeg]? = some (.int c0) := Has.at H_6 hin_8 rfl
  have C_10 : Steps p.tables e below S0 (s₁.setTop (mkF m 20 #[.val (.ref b), .val (.int (0 : Int32)), .val (.ref t), .val (.int (0 : Int32)), .val (.int (3 : Int32)), .val (.int (0 : Int32)), .val (.int c0)] [(.int (255 : Int32)), (.int c0)])) := by
    refine C0.trans ?_
    refine XS.iconst X0.here hx rfl (hb hby d7_0) ?_
    refine XS.istore X0.here hx rfl (hb hby d7_1) rfl (l' := #[.val (.ref b), .val (.int (0 : Int32)), .val (.ref t), .val (.int (0 : Int32)), .val (.int (3 : Int32)), .val (.int (0 : Int32)), .unset]) rfl ?_
    refine XS.iload X0.here hx rfl (hb hby d7_3) rfl ?_
    refine XS.iload X0.here hx rfl (hb hby d7_5) rfl ?_
    refine XS.icmpNo X0.here hx rfl (hb hby d7_7) rfl (by decide) ?_
    refine XS.aloadN X0.here hx rfl (hb hby d7_10) rfl rfl ?_
    refine XS.iloadN X0.here hx rfl (hb hby d7_11) rfl ?_
    refine X0.caload hx (j := (0 : Int32)) (v := (.int c0)) (by rw [e0]; exact A_2.1) (State.isArrayOf_alike hZ.alike A_2.2.1) A_2.2.2 hin_8 hat_9 (g := (mkF m 12 #[.val (.ref b), .val (.int (0 : Int32)), .val (.ref t), .val (.int (0 : Int32)), .val (.int (3 : Int32)), .val (.int (0 : Int32)), .unset] [(.int (0 : Int32)), (.ref b)])) rfl rfl (hb hby d7_12) _ ?_
    show Steps p.tables e below (s₁.setTop (mkF m 13 #[.val (.ref b), .val (.int (0 : Int32)), .val (.ref t), .val (.int (0 : Int32)), .val (.int (3 : Int32)), .val (.int (0 : Int32)), .unset] [(.int c0)])) _
    refine XS.istore X0.here hx rfl (hb hby d7_13) rfl (l' := #[.val (.ref b), .val (.int (0 : Int32)), .val (.ref t), .val (.int (0 : Int32)), .val (.int (3 : Int32)), .val (.int (0 : Int32)), .val (.int c0)]) rfl ?_
    refine XS.iload X0.here hx rfl (hb hby d7_15) rfl ?_
    refine XS.sipush X0.here hx rfl (hb hby d7_17) ?_
    exact Steps.refl _
  by_cases hc_11 : (255 : Int32) < c0
  · skip
    have C_12 : Steps p.tables e below S0 (s₁.setTop (mkF m 25 #[.val (.ref b), .val (.int (0 : Int32)), .val (.ref t), .val (.int (0 : Int32)), .val (.int (3 : Int32)), .val (.int (0 : Int32)), .val (.int c0)] [(.int (0 : Int32))])) := by
      refine C_10.trans ?_
      refine XS.icmpNo X0.here hx rfl (hb hby d7_20) rfl (ii_le_f hc_11) ?_
      refine XS.iload X0.here hx rfl (hb hby d7_23) rfl ?_
      exact Steps.refl _
    have K_13 : Keep h0 h0 [t] := (Keep.refl _ _)
    obtain ⟨fs, hr, hrun, hended, hW, hsame⟩ := X0.leave (v := some (.int (0 : Int32))) (fun h => by rw [Bd.returns] at h; cases h)
    refine ⟨_, _, C_12.trans (retOut X0 hx Bd.returns rfl (Or.inl ⟨rfl, Or.inl rfl, _, rfl⟩) (hb hby d7_25) hr), hrun, hended, _, _, rfl, ?_, ⟨_, rfl⟩, hW, hsame.mono (by decide) (by decide)⟩
    show Q_cmp5u_3 Z G1 b k t kt c0 c1 c2 h0 n0 (some (.int (0 : Int32))) s₁.heap _
    rw [e0]
    exact Or.inl ⟨rfl, N0, K_13, hc_11⟩
  · skip
    obtain ⟨c_14, A_15, q_16, S_17, M_18, H_19, U_20⟩ := id hp1
    have hin_27 : ¬ ((0 : Int32) < 0 ∨ c_14.slots.size ≤ (0 : Int32).toNatClampNeg) := inb_of S_17 ⟨(by decide : ¬ ((0 : Int32) < (0 : Int32))), (by decide : (0 : Int32) < (3 : Int32))⟩
    obtain ⟨T_21, h_22, X_23, e_24, W_25, st_26⟩ := stB X0 hx hZ e0 A_15 (j := (0 : Int32)) hin_27 (g := (mkF m 31 #[.val (.ref b), .val (.int (0 : Int32)), .val (.ref t), .val (.int (0 : Int32)), .val (.int (3 : Int32)), .val (.int (0 : Int32)), .val (.int c0)] [(.int (c0.toInt8.toInt32)), (.int (0 : Int32)), (.ref t)])) rfl rfl (hb hby d7_31)
    have N_28 := Fr.snoc X_23 N0 hp2
    have V_29 : Arv Z h_22 t kt .byte (3 : Int32) [(.int (own_lo8 c0)), (.int (0 : Int32)), (.int (0 : Int32))] (.int (0 : Int32)) := Arv.set A_15 q_16 S_17 M_18 H_19 U_20 (fits_nar_byte _) W_25 0 rfl (Nat.le_of_ble_eq_true rfl)
    have V_30 : Arv Z h_22 b k .char (3 : Int32) [(.int c0), (.int c1), (.int c2)] (.int (0 : Int32)) := (hp0.other W_25 hp3)
    obtain ⟨c_31, A_32, q_33, S_34, M_35, H_36, U_37⟩ := id V_30
    have hin_38 : ¬ ((1 : Int32) < 0 ∨ c_31.slots.size ≤ (1 : Int32).toNatClampNeg) := inb_of S_34 ⟨(by decide : ¬ ((1 : Int32) < (0 : Int32))), (by decide : (1 : Int32) < (3 : Int32))⟩
    have hat_39 : c_31.slots[(1 : Int32).toNatClampNeg]? = some (.int c1) := Has.at H_36 hin_38 rfl
    have C_40 : Steps p.tables e below S0 (T_21.setTop (mkF m 20 #[.val (.ref b), .val (.int (1 : Int32)), .val (.ref t), .val (.int (1 : Int32)), .val (.int (3 : Int32)), .val (.int (1 : Int32)), .val (.int c1)] [(.int (255 : Int32)), (.int c1)])) := by
      refine C_10.trans ?_
      refine XS.icmpYes X0.here hx rfl (pc0 := 20) (pc' := 26) rfl (hb hby d7_20) rfl (ii_le_t hc_11) (by decide) (by decide) ?_
      refine XS.aloadN X0.here hx rfl (hb hby d7_26) rfl rfl ?_
      refine XS.iloadN X0.here hx rfl (hb hby d7_27) rfl ?_
      refine XS.iload X0.here hx rfl (hb hby d7_28) rfl ?_
      refine XS.i2b X0.here hx rfl (hb hby d7_30) rfl ?_
      refine st_26 _ ?_
      refine XS.iinc X_23.here hx rfl (hb hby d7_32) (x := (0 : Int32)) rfl (l' := #[.val (.ref b), .val (.int (1 : Int32)), .val (.ref t), .val (.int (0 : Int32)), .val (.int (3 : Int32)), .val (.int (0 : Int32)), .val (.int c0)]) rfl ?_
      refine XS.iinc X_23.here hx rfl (hb hby d7_35) (x := (0 : Int32)) rfl (l' := #[.val (.ref b), .val (.int (1 : Int32)), .val (.ref t), .val (.int (1 : Int32)), .val (.int (3 : Int32)), .val (.int (0 : Int32)), .val (.int c0)]) rfl ?_
      show Steps p.tables e below (T_21.setTop (mkF m 38 #[.val (.ref b), .val (.int (1 : Int32)), .val (.ref t), .val (.int (1 : Int32)), .val (.int (3 : Int32)), .val (.int (0 : Int32)), .val (.int c0)] [])) _
      refine XS.iinc X_23.here hx rfl (hb hby d7_38) (x := (0 : Int32)) rfl (l' := #[.val (.ref b), .val (.int (1 : Int32)), .val (.ref t), .val (.int (1 : Int32)), .val (.int (3 : Int32)), .val (.int (1 : Int32)), .val (.int c0)]) rfl ?_
      refine XS.goto X_23.here hx rfl (pc0 := 41) (pc' := 3) rfl (hb hby d7_41) (by decide) (by decide) ?_
      refine XS.iload X_23.here hx rfl (hb hby d7_3) rfl ?_
      refine XS.iload X_23.here hx rfl (hb hby d7_5) rfl ?_
      refine XS.icmpNo X_23.here hx rfl (hb hby d7_7) rfl (by decide) ?_
      refine XS.aloadN X_23.here hx rfl (hb hby d7_10) rfl rfl ?_
      refine XS.iloadN X_23.here hx rfl (hb hby d7_11) rfl ?_
      refine X_23.caload hx (j := (1 : Int32)) (v := (.int c1)) (by rw [e_24]; exact A_32.1) (State.isArrayOf_alike hZ.alike A_32.2.1) A_32.2.2 hin_38 hat_39 (g := (mkF m 12 #[.val (.ref b), .val (.int (1 : Int32)), .val (.ref t), .val (.int (1 : Int32)), .val (.int (3 : Int32)), .val (.int (1 : Int32)), .val (.int c0)] [(.int (1 : Int32)), (.ref b)])) rfl rfl (hb hby d7_12) _ ?_
      show Steps p.tables e below (T_21.setTop (mkF m 13 #[.val (.ref b), .val (.int (1 : Int32)), .val (.ref t), .val (.int (1 : Int32)), .val (.int (3 : Int32)), .val (.int (1 : Int32)), .val (.int c0)] [(.int c1)])) _
      refine XS.istore X_23.here hx rfl (hb hby d7_13) rfl (l' := #[.val (.ref b), .val (.int (1 : Int32)), .val (.ref t), .val (.int (1 : Int32)), .val (.int (3 : Int32)), .val (.int (1 : Int32)), .val (.int c1)]) rfl ?_
      refine XS.iload X_23.here hx rfl (hb hby d7_15) rfl ?_
      refine XS.sipush X_23.here hx rfl (hb hby d7_17) ?_
      exact Steps.refl _
    by_cases hc_41 : (255 : Int32) < c1
    · skip
      have C_42 : Steps p.tables e below S0 (T_21.setTop (mkF m 25 #[.val (.ref b), .val (.int (1 : Int32)), .val (.ref t), .val (.int (1 : Int32)), .val (.int (3 : Int32)), .val (.int (1 : Int32)), .val (.int c1)] [(.int (1 : Int32))])) := by
        refine C_40.trans ?_
        refine XS.icmpNo X_23.here hx rfl (hb hby d7_20) rfl (ii_le_f hc_41) ?_
        refine XS.iload X_23.here hx rfl (hb hby d7_23) rfl ?_
        exact Steps.refl _
      have K_43 : Keep h0 h_22 [t] := ((Keep.refl _ _).wr W_25 (Or.inl (List.mem_of_getElem? (i := 0) rfl)))
      obtain ⟨fs, hr, hrun, hended, hW, hsame⟩ := X_23.leave (v := some (.int (1 : Int32))) (fun h => by rw [Bd.returns] at h; cases h)
      refine ⟨_, _, C_42.trans (retOut X_23 hx Bd.returns rfl (Or.inl ⟨rfl, Or.inl rfl, _, rfl⟩) (hb hby d7_25) hr), hrun, hended, _, _, rfl, ?_, ⟨_, rfl⟩, hW, hsame.mono (by decide) (by decide)⟩
      show Q_cmp5u_3 Z G1 b k t kt c0 c1 c2 h0 n0 (some (.int (1 : Int32))) T_21.heap _
      rw [e_24]
      exact Or.inr (Or.inl ⟨rfl, N_28, K_43, hc_41⟩)
    · skip
      obtain ⟨c_44, A_45, q_46, S_47, M_48, H_49, U_50⟩ := id V_29
      have hin_57 : ¬ ((1 : Int32) < 0 ∨ c_44.slots.size ≤ (1 : Int32).toNatClampNeg) := inb_of S_47 ⟨(by decide : ¬ ((1 : Int32) < (0 : Int32))), (by decide : (1 : Int32) < (3 : Int32))⟩
      obtain ⟨T_51, h_52, X_53, e_54, W_55, st_56⟩ := stB X_23 hx hZ e_24 A_45 (j := (1 : Int32)) hin_57 (g := (mkF m 31 #[.val (.ref b), .val (.int (1 : Int32)), .val (.ref t), .val (.int (1 : Int32)), .val (.int (3 : Int32)), .val (.int (1 : Int32)), .val (.int c1)] [(.int (c1.toInt8.toInt32)), (.int (1 : Int32)), (.ref t)])) rfl rfl (hb hby d7_31)
      have N_58 := Fr.snoc X_53 N_28 hp2
      have V_59 : Arv Z h_52 t kt .byte (3 : Int32) [(.int (own_lo8 c0)), (.int (own_lo8 c1)), (.int (0 : Int32))] (.int (0 : Int32)) := Arv.set A_45 q_46 S_47 M_48 H_49 U_50 (fits_nar_byte _) W_55 1 rfl (Nat.le_of_ble_eq_true rfl)
      have V_60 : Arv Z h_52 b k .char (3 : Int32) [(.int c0), (.int c1), (.int c2)] (.int (0 : Int32)) := (V_30.other W_55 hp3)
      obtain ⟨c_61, A_62, q_63, S_64, M_65, H_66, U_67⟩ := id V_60
      have hin_68 : ¬ ((2 : Int32) < 0 ∨ c_61.slots.size ≤ (2 : Int32).toNatClampNeg) := inb_of S_64 ⟨(by decide : ¬ ((2 : Int32) < (0 : Int32))), (by decide : (2 : Int32) < (3 : Int32))⟩
      have hat_69 : c_61.slots[(2 : Int32).toNatClampNeg]? = some (.int c2) := Has.at H_66 hin_68 rfl
      have C_70 : Steps p.tables e below S0 (T_51.setTop (mkF m 20 #[.val (.ref b), .val (.int (2 : Int32)), .val (.ref t), .val (.int (2 : Int32)), .val (.int (3 : Int32)), .val (.int (2 : Int32)), .val (.int c2)] [(.int (255 : Int32)), (.int c2)])) := by
        refine C_40.trans ?_
        refine XS.icmpYes X_23.here hx rfl (pc0 := 20) (pc' := 26) rfl (hb hby d7_20) rfl (ii_le_t hc_41) (by decide) (by decide) ?_
        refine XS.aloadN X_23.here hx rfl (hb hby d7_26) rfl rfl ?_
        refine XS.iloadN X_23.here hx rfl (hb hby d7_27) rfl ?_
        refine XS.iload X_23.here hx rfl (hb hby d7_28) rfl ?_
        refine XS.i2b X_23.here hx rfl (hb hby d7_30) rfl ?_
        refine st_56 _ ?_
        refine XS.iinc X_53.here hx rfl (hb hby d7_32) (x := (1 : Int32)) rfl (l' := #[.val (.ref b), .val (.int (2 : Int32)), .val (.ref t), .val (.int (1 : Int32)), .val (.int (3 : Int32)), .val (.int (1 : Int32)), .val (.int c1)]) rfl ?_
        refine XS.iinc X_53.here hx rfl (hb hby d7_35) (x := (1 : Int32)) rfl (l' := #[.val (.ref b), .val (.int (2 : Int32)), .val (.ref t), .val (.int (2 : Int32)), .val (.int (3 : Int32)), .val (.int (1 : Int32)), .val (.int c1)]) rfl ?_
        show Steps p.tables e below (T_51.setTop (mkF m 38 #[.val (.ref b), .val (.int (2 : Int32)), .val (.ref t), .val (.int (2 : Int32)), .val (.int (3 : Int32)), .val (.int (1 : Int32)), .val (.int c1)] [])) _
        refine XS.iinc X_53.here hx rfl (hb hby d7_38) (x := (1 : Int32)) rfl (l' := #[.val (.ref b), .val (.int (2 : Int32)), .val (.ref t), .val (.int (2 : Int32)), .val (.int (3 : Int32)), .val (.int (2 : Int32)), .val (.int c1)]) rfl ?_
        refine XS.goto X_53.here hx rfl (pc0 := 41) (pc' := 3) rfl (hb hby d7_41) (by decide) (by decide) ?_
        refine XS.iload X_53.here hx rfl (hb hby d7_3) rfl ?_
        refine XS.iload X_53.here hx rfl (hb hby d7_5) rfl ?_
        refine XS.icmpNo X_53.here hx rfl (hb hby d7_7) rfl (by decide) ?_
        refine XS.aloadN X_53.here hx rfl (hb hby d7_10) rfl rfl ?_
        refine XS.iloadN X_53.here hx rfl (hb hby d7_11) rfl ?_
        refine X_53.caload hx (j := (2 : Int32)) (v := (.int c2)) (by rw [e_54]; exact A_62.1) (State.isArrayOf_alike hZ.alike A_62.2.1) A_62.2.2 hin_68 hat_69 (g := (mkF m 12 #[.val (.ref b), .val (.int (2 : Int32)), .val (.ref t), .val (.int (2 : Int32)), .val (.int (3 : Int32)), .val (.int (2 : Int32)), .val (.int c1)] [(.int (2 : Int32)), (.ref b)])) rfl rfl (hb hby d7_12) _ ?_
        show Steps p.tables e below (T_51.setTop (mkF m 13 #[.val (.ref b), .val (.int (2 : Int32)), .val (.ref t), .val (.int (2 : Int32)), .val (.int (3 : Int32)), .val (.int (2 : Int32)), .val (.int c1)] [(.int c2)])) _
        refine XS.istore X_53.here hx rfl (hb hby d7_13) rfl (l' := #[.val (.ref b), .val (.int (2 : Int32)), .val (.ref t), .val (.int (2 : Int32)), .val (.int (3 : Int32)), .val (.int (2 : Int32)), .val (.int c2)]) rfl ?_
        refine XS.iload X_53.here hx rfl (hb hby d7_15) rfl ?_
        refine XS.sipush X_53.here hx rfl (hb hby d7_17) ?_
        exact Steps.refl _
      by_cases hc_71 : (255 : Int32) < c2
      · skip
        have C_72 : Steps p.tables e below S0 (T_51.setTop (mkF m 25 #[.val (.ref b), .val (.int (2 : Int32)), .val (.ref t), .val (.int (2 : Int32)), .val (.int (3 : Int32)), .val (.int (2 : Int32)), .val (.int c2)] [(.int (2 : Int32))])) := by
          refine C_70.trans ?_
          refine XS.icmpNo X_53.here hx rfl (hb hby d7_20) rfl (ii_le_f hc_71) ?_
          refine XS.iload X_53.here hx rfl (hb hby d7_23) rfl ?_
          exact Steps.refl _
        have K_73 : Keep h0 h_52 [t] := (((Keep.refl _ _).wr W_25 (Or.inl (List.mem_of_getElem? (i := 0) rfl))).wr W_55 (Or.inl (List.mem_of_getElem? (i := 0) rfl)))
        obtain ⟨fs, hr, hrun, hended, hW, hsame⟩ := X_53.leave (v := some (.int (2 : Int32))) (fun h => by rw [Bd.returns] at h; cases h)
        refine ⟨_, _, C_72.trans (retOut X_53 hx Bd.returns rfl (Or.inl ⟨rfl, Or.inl rfl, _, rfl⟩) (hb hby d7_25) hr), hrun, hended, _, _, rfl, ?_, ⟨_, rfl⟩, hW, hsame.mono (by decide) (by decide)⟩
        show Q_cmp5u_3 Z G1 b k t kt c0 c1 c2 h0 n0 (some (.int (2 : Int32))) T_51.heap _
        rw [e_54]
        exact Or.inr (Or.inr (Or.inl ⟨rfl, N_58, K_73, hc_71⟩))
      · skip
        obtain ⟨c_74, A_75, q_76, S_77, M_78, H_79, U_80⟩ := id V_59
        have hin_87 : ¬ ((2 : Int32) < 0 ∨ c_74.slots.size ≤ (2 : Int32).toNatClampNeg) := inb_of S_77 ⟨(by decide : ¬ ((2 : Int32) < (0 : Int32))), (by decide : (2 : Int32) < (3 : Int32))⟩
        obtain ⟨T_81, h_82, X_83, e_84, W_85, st_86⟩ := stB X_53 hx hZ e_54 A_75 (j := (2 : Int32)) hin_87 (g := (mkF m 31 #[.val (.ref b), .val (.int (2 : Int32)), .val (.ref t), .val (.int (2 : Int32)), .val (.int (3 : Int32)), .val (.int (2 : Int32)), .val (.int c2)] [(.int (c2.toInt8.toInt32)), (.int (2 : Int32)), (.ref t)])) rfl rfl (hb hby d7_31)
        have N_88 := Fr.snoc X_83 N_58 hp2
        have V_89 : Arv Z h_82 t kt .byte (3 : Int32) [(.int (own_lo8 c0)), (.int (own_lo8 c1)), (.int (own_lo8 c2))] (.int (0 : Int32)) := Arv.set A_75 q_76 S_77 M_78 H_79 U_80 (fits_nar_byte _) W_85 2 rfl (Nat.le_of_ble_eq_true rfl)
        have C_90 : Steps p.tables e below S0 (T_81.setTop (mkF m 46 #[.val (.ref b), .val (.int (3 : Int32)), .val (.ref t), .val (.int (3 : Int32)), .val (.int (3 : Int32)), .val (.int (3 : Int32)), .val (.int c2)] [(.int (3 : Int32))])) := by
          refine C_70.trans ?_
          refine XS.icmpYes X_53.here hx rfl (pc0 := 20) (pc' := 26) rfl (hb hby d7_20) rfl (ii_le_t hc_71) (by decide) (by decide) ?_
          refine XS.aloadN X_53.here hx rfl (hb hby d7_26) rfl rfl ?_
          refine XS.iloadN X_53.here hx rfl (hb hby d7_27) rfl ?_
          refine XS.iload X_53.here hx rfl (hb hby d7_28) rfl ?_
          refine XS.i2b X_53.here hx rfl (hb hby d7_30) rfl ?_
          refine st_86 _ ?_
          refine XS.iinc X_83.here hx rfl (hb hby d7_32) (x := (2 : Int32)) rfl (l' := #[.val (.ref b), .val (.int (3 : Int32)), .val (.ref t), .val (.int (2 : Int32)), .val (.int (3 : Int32)), .val (.int (2 : Int32)), .val (.int c2)]) rfl ?_
          refine XS.iinc X_83.here hx rfl (hb hby d7_35) (x := (2 : Int32)) rfl (l' := #[.val (.ref b), .val (.int (3 : Int32)), .val (.ref t), .val (.int (3 : Int32)), .val (.int (3 : Int32)), .val (.int (2 : Int32)), .val (.int c2)]) rfl ?_
          show Steps p.tables e below (T_81.setTop (mkF m 38 #[.val (.ref b), .val (.int (3 : Int32)), .val (.ref t), .val (.int (3 : Int32)), .val (.int (3 : Int32)), .val (.int (2 : Int32)), .val (.int c2)] [])) _
          refine XS.iinc X_83.here hx rfl (hb hby d7_38) (x := (2 : Int32)) rfl (l' := #[.val (.ref b), .val (.int (3 : Int32)), .val (.ref t), .val (.int (3 : Int32)), .val (.int (3 : Int32)), .val (.int (3 : Int32)), .val (.int c2)]) rfl ?_
          refine XS.goto X_83.here hx rfl (pc0 := 41) (pc' := 3) rfl (hb hby d7_41) (by decide) (by decide) ?_
          refine XS.iload X_83.here hx rfl (hb hby d7_3) rfl ?_
          refine XS.iload X_83.here hx rfl (hb hby d7_5) rfl ?_
          refine XS.icmpYes X_83.here hx rfl (pc0 := 7) (pc' := 44) rfl (hb hby d7_7) rfl (by decide) (by decide) (by decide) ?_
          refine XS.iload X_83.here hx rfl (hb hby d7_44) rfl ?_
          exact Steps.refl _
        have K_91 : Keep h0 h_82 [t] := ((((Keep.refl _ _).wr W_25 (Or.inl (List.mem_of_getElem? (i := 0) rfl))).wr W_55 (Or.inl (List.mem_of_getElem? (i := 0) rfl))).wr W_85 (Or.inl (List.mem_of_getElem? (i := 0) rfl)))
        obtain ⟨fs, hr, hrun, hended, hW, hsame⟩ := X_83.leave (v := some (.int (3 : Int32))) (fun h => by rw [Bd.returns] at h; cases h)
        refine ⟨_, _, C_90.trans (retOut X_83 hx Bd.returns rfl (Or.inl ⟨rfl, Or.inl rfl, _, rfl⟩) (hb hby d7_46) hr), hrun, hended, _, _, rfl, ?_, ⟨_, rfl⟩, hW, hsame.mono (by decide) (by decide)⟩
        show Q_cmp5u_3 Z G1 b k t kt c0 c1 c2 h0 n0 (some (.int (3 : Int32))) T_81.heap _
        rw [e_84]
        exact Or.inr (Or.inr (Or.inr (⟨rfl, N_88, K_91, V_89, hc_11, hc_41, hc_71⟩)))
abbrev R_cmp3u_3 : Room := { frames := 3, cells := 2, slots := 9, locals := 40 }
def Q_cmp3u_3 (Z : State) (G1 : Int32) (b : Addr) (k : ClassId) (c0 : Int32) (c1 : Int32) (c2 : Int32) (h0 : Heap) (n0 : Nat) (v : Option Value) (h : Heap) (L : List Loc) : Prop := (∃ t : Addr, ∃ kt : ClassId, v = some (.ref t) ∧ Fr n0 L ∧ Keep h0 h [] ∧ (h0.size ≤ t) ∧ (Arv Z h t kt .byte (3 : Int32) [(.int (own_lo8 c0)), (.int (own_lo8 c1)), (.int (own_lo8 c2))] (.int (0 : Int32)))) ∨ (∃ t : Addr, ∃ kt : ClassId, v = some (.ref t) ∧ Fr n0 L ∧ Keep h0 h [] ∧ (h0.size ≤ t) ∧ (Arv Z h t kt .byte (6 : Int32) [(.int (own_lo8z c0)), (.int (own_hi8 c0)), (.int (own_lo8z c1)), (.int (own_hi8 c1)), (.int (own_lo8z c2)), (.int (own_hi8 c2))] (.int (0 : Int32))))
set_option maxRecDepth 65536 in
set_option maxHeartbeats 40000000 in
theorem rm_cmp3u_3 (l : Launch) (Z : State) (a0 : Array Value) (hw : ∀ d ∈ tables_1, d.before a0 Z = true) (ws : List Jvm.Cond) (G1 : Int32) (HG : own_G l Z a0 G1) (h0 : Heap) (n0 : Nat) (X00 : Old Z n0 h0) (b : Addr) (k : ClassId) (c0 : Int32) (c1 : Int32) (c2 : Int32) (hp0 : Arv Z h0 b k .char (3 : Int32) [(.int c0), (.int c1), (.int c2)] (.int (0 : Int32))) (hl0 : ¬ (c0 < (0 : Int32))) (hl1 : ¬ (c1 < (0 : Int32))) (hl2 : ¬ (c2 < (0 : Int32))) (hm0 : ¬ ((65535 : Int32) < c0)) (hm1 : ¬ ((65535 : Int32) < c1)) (hm2 : ¬ ((65535 : Int32) < c2)) :
    own_CP l Z M173 jdk_52_method_16_code 6 (some (.array .byte)) ws R_cmp3u_3 #[(.ref b), (.int (0 : Int32)), (.int (3 : Int32))] h0 (Q_cmp3u_3 Z G1 b k c0 c1 c2 h0 n0) := by
  refine own_P (plainFor_of_name pn_42) ?_
  intro p e s m below meth c s₁ S0 Bd hZ hh hx hby hml hown hnm X0 e0 hS0d
  obtain ⟨O1, P1, OAD, OHI, OLO⟩ := id HG
  have N0 := Fr.nil n0
  have C0 : Steps p.tables e below S0 (s₁.setTop (mkF m 0 #[.val (.ref b), .val (.int (0 : Int32)), .val (.int (3 : Int32)), .unset, .unset, .unset] [])) := by rw [hS0d]; exact castTop (ef_174 m b (0 : Int32) (3 : Int32)) (Steps.refl _)
  obtain ⟨T_1, h_2, k_3, X_4, e_5, E_6, A_7, st_8⟩ := newP (aty := .byte) X0 hx hZ (w20 hw) e0 (g := (mkF m 1 #[.val (.ref b), .val (.int (0 : Int32)), .val (.int (3 : Int32)), .unset, .unset, .unset] [(.int (3 : Int32))])) rfl (hb hby d8_1) rfl (by decide : ¬ ((3 : Int32) < (0 : Int32))) (cap := 3) (by decide : (3 : Int32).toNatClampNeg ≤ 3) (by decide) (by decide) (by decide)
  obtain ⟨a_9, g_10⟩ : ∃ z, z = h0.size := ⟨_, rfl⟩
  rw [← g_10] at A_7 st_8
  have V_12 : Arv Z h_2 a_9 k_3 .byte (3 : Int32) [] (.int (0 : Int32)) := Arv.new A_7 (by decide : ¬ ((3 : Int32) < (0 : Int32)))
  have V_11 : Arv Z h_2 a_9 k_3 .byte (3 : Int32) [(.int (0 : Int32)), (.int (0 : Int32)), (.int (0 : Int32))] (.int (0 : Int32)) := (V_12.pad (pad_rep [] (.int (0 : Int32)) 3))
  have V_13 : Arv Z h_2 b k .char (3 : Int32) [(.int c0), (.int c1), (.int c2)] (.int (0 : Int32)) := (hp0.ext E_6)
  have O_14 : Old Z n0 h_2 := (X00.ext E_6)
  obtain ⟨_, _, ⟨T_15, L_15, k_15, n_15⟩, -, X_15, ⟨Lc_15, hQ_15, l_15, y_15, z_15⟩, st_15⟩ := Jvm.LawKit.callS X_4 hx (y := M146) hown (mvT hZ (w70 hw)) (mvT hZ (w71 hw)) (mvT hZ (w68 hw)) (mvT hZ (w72 hw)) (by decide) (backOf (W := 0) (rm_cmp5u_3 l Z a0 hw [] G1 HG h_2 n0 O_14 b k a_9 k_3 c0 c1 c2 V_13 V_11 (Nat.le_trans (own_n0 X00) (Nat.le_of_eq g_10.symm)) (Nat.ne_of_lt (Nat.lt_of_lt_of_le hp0.lt (Nat.le_trans (Nat.le_refl _) (Nat.le_of_eq g_10.symm))))) hZ (w72 hw) (w68 hw) (by decide) (by decide)) (g := (mkF m 9 #[.val (.ref b), .val (.int (0 : Int32)), .val (.int (3 : Int32)), .val (.ref a_9), .unset, .unset] [(.int (3 : Int32)), (.int (0 : Int32)), (.ref a_9), (.int (0 : Int32)), (.ref b)])) rfl (by rw [hml]; rfl) (argsL := [(.ref b), (.int (0 : Int32)), (.ref a_9), (.int (0 : Int32)), (.int (3 : Int32))]) (rest := []) (lenOf pd_184 rfl) rfl (by show 2 * 0 + _ ≤ _; exact Nat.le_of_eq rfl) (hb hby d8_9) (fun _ _ => ⟨rfl, e_5, (by decide : 1 + 0 ≤ _), (by decide : 3 + 0 ≤ _)⟩)
  dsimp only [Pt.U, Pt.locs, Pt.cells, Pt.slots] at X_15 l_15 y_15 z_15 st_15 hQ_15
  subst l_15 y_15 z_15
  have C_16 : Steps p.tables e below S0 (T_1.setTop (mkF m 9 #[.val (.ref b), .val (.int (0 : Int32)), .val (.int (3 : Int32)), .val (.ref a_9), .unset, .unset] [(.int (3 : Int32)), (.int (0 : Int32)), (.ref a_9), (.int (0 : Int32)), (.ref b)])) := by
    refine C0.trans ?_
    refine XS.iloadN X0.here hx rfl (hb hby d8_0) rfl ?_
    refine st_8 _ ?_
    refine XS.astoreN X_4.here hx rfl (hb hby d8_3) rfl rfl (l' := #[.val (.ref b), .val (.int (0 : Int32)), .val (.int (3 : Int32)), .val (.ref a_9), .unset, .unset]) rfl ?_
    refine XS.aloadN X_4.here hx rfl (hb hby d8_4) rfl rfl ?_
    refine XS.iloadN X_4.here hx rfl (hb hby d8_5) rfl ?_
    refine XS.aloadN X_4.here hx rfl (hb hby d8_6) rfl rfl ?_
    refine XS.iconst X_4.here hx rfl (hb hby d8_7) ?_
    refine XS.iloadN X_4.here hx rfl (hb hby d8_8) rfl ?_
    show Steps p.tables e below (T_1.setTop (mkF m 9 #[.val (.ref b), .val (.int (0 : Int32)), .val (.int (3 : Int32)), .val (.ref a_9), .unset, .unset] [(.int (3 : Int32)), (.int (0 : Int32)), (.ref a_9), (.int (0 : Int32)), (.ref b)])) _
    exact Steps.refl _
  rcases hQ_15 with hQ_17 | hQ_18 | hQ_19 | hQ_20
  · skip
    obtain ⟨rfl, N_21, K_22, g_23⟩ := hQ_17
    have N_24 := Fr.app N0 N_21
    have V_25 : Arv Z T_15.heap b k .char (3 : Int32) [(.int c0), (.int c1), (.int c2)] (.int (0 : Int32)) := (V_13.keep K_22 (ninS (Nat.ne_of_lt (Nat.lt_of_lt_of_le hp0.lt (Nat.le_trans (Nat.le_refl _) (Nat.le_of_eq g_10.symm)))) nin0))
    have O_26 : Old Z n0 T_15.heap := (O_14.keep K_22 (allS (Nat.le_trans (own_n0 X00) (Nat.le_of_eq g_10.symm)) all0))
    obtain ⟨_, _, ⟨T_27, L_27, k_27, n_27⟩, -, X_27, ⟨Lc_27, hQ_27, l_27, y_27, z_27⟩, st_27⟩ := Jvm.LawKit.callS X_15 hx (y := M91) hown (mvT hZ (w76 hw)) (mvT hZ (w77 hw)) (mvT hZ (w68 hw)) (mvT hZ (w78 hw)) (by decide) (backOf (W := 0) (rm_tob_3 l Z a0 hw [] G1 HG T_15.heap n0 O_26 b k c0 c1 c2 V_25) hZ (w78 hw) (w68 hw) (by decide) (by decide)) (g := (mkF m 23 #[.val (.ref b), .val (.int (0 : Int32)), .val (.int (3 : Int32)), .val (.ref a_9), .val (.int (0 : Int32)), .unset] [(.int (3 : Int32)), (.int (0 : Int32)), (.ref b)])) rfl (by rw [hml]; rfl) (argsL := [(.ref b), (.int (0 : Int32)), (.int (3 : Int32))]) (rest := []) (lenOf pd_196 rfl) rfl (by show 2 * 0 + _ ≤ _; exact Nat.le_of_eq rfl) (hb hby d8_23) (fun _ _ => ⟨rfl, rfl, (by decide : 1 + 1 ≤ _), (by decide : 3 + 6 ≤ _)⟩)
    dsimp only [Pt.U, Pt.locs, Pt.cells, Pt.slots] at X_27 l_27 y_27 z_27 st_27 hQ_27
    subst l_27 y_27 z_27
    obtain ⟨a_28, k_29, rfl, N_30, K_31, g_32, g_33⟩ := hQ_27
    have N_34 := Fr.app N_24 N_30
    have O_35 : Old Z n0 T_27.heap := (O_26.keep K_31 all0)
    obtain ⟨_, _, ⟨T_36, L_36, k_36, n_36⟩, -, X_36, ⟨Lc_36, hQ_36, l_36, y_36, z_36⟩, st_36⟩ := Jvm.LawKit.callS X_27 hx (y := M120) hown (mvT hZ (w92 hw)) (mvT hZ (w93 hw)) (mvT hZ (w68 hw)) (mvT hZ (w94 hw)) (by decide) (backOf (W := 0) (rm_get_3_0 l Z a0 hw [] G1 HG T_27.heap n0 O_35 a_28 k_29 (own_lo8z c0) (own_hi8 c0) (own_lo8z c1) (own_hi8 c1) (own_lo8z c2) (own_hi8 c2) g_33) hZ (w94 hw) (w68 hw) (by decide) (by decide)) (g := (mkF m 32 #[.val (.ref b), .val (.int (0 : Int32)), .val (.int (3 : Int32)), .val (.ref a_9), .val (.int (0 : Int32)), .val (.ref a_28)] [(.int (0 : Int32)), (.ref a_28)])) rfl (by rw [hml]; rfl) (argsL := [(.ref a_28), (.int (0 : Int32))]) (rest := []) (lenOf pd_204 rfl) rfl (by show 2 * 0 + _ ≤ _; exact Nat.le_of_eq rfl) (hb hby d8_32) (fun _ _ => ⟨rfl, rfl, (by decide : 2 + 0 ≤ _), (by decide : 9 + 0 ≤ _)⟩)
    dsimp only [Pt.U, Pt.locs, Pt.cells, Pt.slots] at X_36 l_36 y_36 z_36 st_36 hQ_36
    subst l_36 y_36 z_36
    obtain ⟨rfl, N_37, e_38⟩ := hQ_36
    have N_39 := Fr.app N_34 N_37
    have e_40 : T_36.heap = T_27.heap := e_38
    have C_41 : Steps p.tables e below S0 (T_36.setTop (mkF m 56 #[.val (.ref b), .val (.int (0 : Int32)), .val (.int (3 : Int32)), .val (.ref a_9), .val (.int (0 : Int32)), .val (.ref a_28)] [(.ref a_28)])) := by
      refine C_16.trans ?_
      refine st_15 _ ?_
      refine XS.istore X_15.here hx rfl (hb hby d8_12) rfl (l' := #[.val (.ref b), .val (.int (0 : Int32)), .val (.int (3 : Int32)), .val (.ref a_9), .val (.int (0 : Int32)), .unset]) rfl ?_
      refine XS.iload X_15.here hx rfl (hb hby d8_14) rfl ?_
      refine XS.iloadN X_15.here hx rfl (hb hby d8_16) rfl ?_
      refine XS.icmpNo X_15.here hx rfl (hb hby d8_17) rfl (by decide) ?_
      refine XS.aloadN X_15.here hx rfl (hb hby d8_20) rfl rfl ?_
      refine XS.iloadN X_15.here hx rfl (hb hby d8_21) rfl ?_
      refine XS.iloadN X_15.here hx rfl (hb hby d8_22) rfl ?_
      show Steps p.tables e below (T_15.setTop (mkF m 23 #[.val (.ref b), .val (.int (0 : Int32)), .val (.int (3 : Int32)), .val (.ref a_9), .val (.int (0 : Int32)), .unset] [(.int (3 : Int32)), (.int (0 : Int32)), (.ref b)])) _
      refine st_27 _ ?_
      refine XS.astore X_27.here hx rfl (hb hby d8_26) rfl rfl (l' := #[.val (.ref b), .val (.int (0 : Int32)), .val (.int (3 : Int32)), .val (.ref a_9), .val (.int (0 : Int32)), .val (.ref a_28)]) rfl ?_
      refine XS.aload X_27.here hx rfl (hb hby d8_28) rfl rfl ?_
      refine XS.iload X_27.here hx rfl (hb hby d8_30) rfl ?_
      refine st_36 _ ?_
      refine XS.sipush X_36.here hx rfl (hb hby d8_35) ?_
      refine XS.icmpYes X_36.here hx rfl (pc0 := 38) (pc' := 54) rfl (hb hby d8_38) rfl (ii_gt_t (by rw [own_pair_says hl0 hm0]; exact g_23)) (by decide) (by decide) ?_
      refine XS.aload X_36.here hx rfl (hb hby d8_54) rfl rfl ?_
      show Steps p.tables e below (T_36.setTop (mkF m 56 #[.val (.ref b), .val (.int (0 : Int32)), .val (.int (3 : Int32)), .val (.ref a_9), .val (.int (0 : Int32)), .val (.ref a_28)] [(.ref a_28)])) _
      exact Steps.refl _
    have K_42 : Keep h0 T_27.heap [] := ((((Keep.refl _ _).ext E_6).trans K_22 (allS (Or.inr (Nat.le_trans (Nat.le_refl _) (Nat.le_of_eq g_10.symm))) all0)).trans K_31 all0)
    obtain ⟨fs, hr, hrun, hended, hW, hsame⟩ := X_36.leave (v := some (.ref a_28)) (fun h => by rw [Bd.returns] at h; cases h)
    refine ⟨_, _, C_41.trans (retOut X_36 hx Bd.returns rfl (Or.inr (Or.inr (Or.inr (Or.inr ⟨rfl, rfl, rfl⟩)))) (hb hby d8_56) hr), hrun, hended, _, _, rfl, ?_, ⟨_, rfl⟩, hW, hsame.mono (by decide) (by decide)⟩
    show Q_cmp3u_3 Z G1 b k c0 c1 c2 h0 n0 (some (.ref a_28)) T_36.heap _
    rw [e_40]
    exact Or.inr (⟨a_28, k_29, rfl, N_39, K_42, (Nat.le_trans (Nat.le_trans E_6.1 K_22.1) g_32), g_33⟩)
  · skip
    obtain ⟨rfl, N_43, K_44, g_45⟩ := hQ_18
    have N_46 := Fr.app N0 N_43
    have V_47 : Arv Z T_15.heap b k .char (3 : Int32) [(.int c0), (.int c1), (.int c2)] (.int (0 : Int32)) := (V_13.keep K_44 (ninS (Nat.ne_of_lt (Nat.lt_of_lt_of_le hp0.lt (Nat.le_trans (Nat.le_refl _) (Nat.le_of_eq g_10.symm)))) nin0))
    have O_48 : Old Z n0 T_15.heap := (O_14.keep K_44 (allS (Nat.le_trans (own_n0 X00) (Nat.le_of_eq g_10.symm)) all0))
    obtain ⟨_, _, ⟨T_49, L_49, k_49, n_49⟩, -, X_49, ⟨Lc_49, hQ_49, l_49, y_49, z_49⟩, st_49⟩ := Jvm.LawKit.callS X_15 hx (y := M91) hown (mvT hZ (w76 hw)) (mvT hZ (w77 hw)) (mvT hZ (w68 hw)) (mvT hZ (w78 hw)) (by decide) (backOf (W := 0) (rm_tob_3 l Z a0 hw [] G1 HG T_15.heap n0 O_48 b k c0 c1 c2 V_47) hZ (w78 hw) (w68 hw) (by decide) (by decide)) (g := (mkF m 23 #[.val (.ref b), .val (.int (0 : Int32)), .val (.int (3 : Int32)), .val (.ref a_9), .val (.int (1 : Int32)), .unset] [(.int (3 : Int32)), (.int (0 : Int32)), (.ref b)])) rfl (by rw [hml]; rfl) (argsL := [(.ref b), (.int (0 : Int32)), (.int (3 : Int32))]) (rest := []) (lenOf pd_196 rfl) rfl (by show 2 * 0 + _ ≤ _; exact Nat.le_of_eq rfl) (hb hby d8_23) (fun _ _ => ⟨rfl, rfl, (by decide : 1 + 1 ≤ _), (by decide : 3 + 6 ≤ _)⟩)
    dsimp only [Pt.U, Pt.locs, Pt.cells, Pt.slots] at X_49 l_49 y_49 z_49 st_49 hQ_49
    subst l_49 y_49 z_49
    obtain ⟨a_50, k_51, rfl, N_52, K_53, g_54, g_55⟩ := hQ_49
    have N_56 := Fr.app N_46 N_52
    have O_57 : Old Z n0 T_49.heap := (O_48.keep K_53 all0)
    obtain ⟨_, _, ⟨T_58, L_58, k_58, n_58⟩, -, X_58, ⟨Lc_58, hQ_58, l_58, y_58, z_58⟩, st_58⟩ := Jvm.LawKit.callS X_49 hx (y := M120) hown (mvT hZ (w92 hw)) (mvT hZ (w93 hw)) (mvT hZ (w68 hw)) (mvT hZ (w94 hw)) (by decide) (backOf (W := 0) (rm_get_3_1 l Z a0 hw [] G1 HG T_49.heap n0 O_57 a_50 k_51 (own_lo8z c0) (own_hi8 c0) (own_lo8z c1) (own_hi8 c1) (own_lo8z c2) (own_hi8 c2) g_55) hZ (w94 hw) (w68 hw) (by decide) (by decide)) (g := (mkF m 32 #[.val (.ref b), .val (.int (0 : Int32)), .val (.int (3 : Int32)), .val (.ref a_9), .val (.int (1 : Int32)), .val (.ref a_50)] [(.int (1 : Int32)), (.ref a_50)])) rfl (by rw [hml]; rfl) (argsL := [(.ref a_50), (.int (1 : Int32))]) (rest := []) (lenOf pd_204 rfl) rfl (by show 2 * 0 + _ ≤ _; exact Nat.le_of_eq rfl) (hb hby d8_32) (fun _ _ => ⟨rfl, rfl, (by decide : 2 + 0 ≤ _), (by decide : 9 + 0 ≤ _)⟩)
    dsimp only [Pt.U, Pt.locs, Pt.cells, Pt.slots] at X_58 l_58 y_58 z_58 st_58 hQ_58
    subst l_58 y_58 z_58
    obtain ⟨rfl, N_59, e_60⟩ := hQ_58
    have N_61 := Fr.app N_56 N_59
    have e_62 : T_58.heap = T_49.heap := e_60
    have C_63 : Steps p.tables e below S0 (T_58.setTop (mkF m 56 #[.val (.ref b), .val (.int (0 : Int32)), .val (.int (3 : Int32)), .val (.ref a_9), .val (.int (1 : Int32)), .val (.ref a_50)] [(.ref a_50)])) := by
      refine C_16.trans ?_
      refine st_15 _ ?_
      refine XS.istore X_15.here hx rfl (hb hby d8_12) rfl (l' := #[.val (.ref b), .val (.int (0 : Int32)), .val (.int (3 : Int32)), .val (.ref a_9), .val (.int (1 : Int32)), .unset]) rfl ?_
      refine XS.iload X_15.here hx rfl (hb hby d8_14) rfl ?_
      refine XS.iloadN X_15.here hx rfl (hb hby d8_16) rfl ?_
      refine XS.icmpNo X_15.here hx rfl (hb hby d8_17) rfl (by decide) ?_
      refine XS.aloadN X_15.here hx rfl (hb hby d8_20) rfl rfl ?_
      refine XS.iloadN X_15.here hx rfl (hb hby d8_21) rfl ?_
      refine XS.iloadN X_15.here hx rfl (hb hby d8_22) rfl ?_
      show Steps p.tables e below (T_15.setTop (mkF m 23 #[.val (.ref b), .val (.int (0 : Int32)), .val (.int (3 : Int32)), .val (.ref a_9), .val (.int (1 : Int32)), .unset] [(.int (3 : Int32)), (.int (0 : Int32)), (.ref b)])) _
      refine st_49 _ ?_
      refine XS.astore X_49.here hx rfl (hb hby d8_26) rfl rfl (l' := #[.val (.ref b), .val (.int (0 : Int32)), .val (.int (3 : Int32)), .val (.ref a_9), .val (.int (1 : Int32)), .val (.ref a_50)]) rfl ?_
      refine XS.aload X_49.here hx rfl (hb hby d8_28) rfl rfl ?_
      refine XS.iload X_49.here hx rfl (hb hby d8_30) rfl ?_
      refine st_58 _ ?_
      refine XS.sipush X_58.here hx rfl (hb hby d8_35) ?_
      refine XS.icmpYes X_58.here hx rfl (pc0 := 38) (pc' := 54) rfl (hb hby d8_38) rfl (ii_gt_t (by rw [own_pair_says hl1 hm1]; exact g_45)) (by decide) (by decide) ?_
      refine XS.aload X_58.here hx rfl (hb hby d8_54) rfl rfl ?_
      show Steps p.tables e below (T_58.setTop (mkF m 56 #[.val (.ref b), .val (.int (0 : Int32)), .val (.int (3 : Int32)), .val (.ref a_9), .val (.int (1 : Int32)), .val (.ref a_50)] [(.ref a_50)])) _
      exact Steps.refl _
    have K_64 : Keep h0 T_49.heap [] := ((((Keep.refl _ _).ext E_6).trans K_44 (allS (Or.inr (Nat.le_trans (Nat.le_refl _) (Nat.le_of_eq g_10.symm))) all0)).trans K_53 all0)
    obtain ⟨fs, hr, hrun, hended, hW, hsame⟩ := X_58.leave (v := some (.ref a_50)) (fun h => by rw [Bd.returns] at h; cases h)
    refine ⟨_, _, C_63.trans (retOut X_58 hx Bd.returns rfl (Or.inr (Or.inr (Or.inr (Or.inr ⟨rfl, rfl, rfl⟩)))) (hb hby d8_56) hr), hrun, hended, _, _, rfl, ?_, ⟨_, rfl⟩, hW, hsame.mono (by decide) (by decide)⟩
    show Q_cmp3u_3 Z G1 b k c0 c1 c2 h0 n0 (some (.ref a_50)) T_58.heap _
    rw [e_62]
    exact Or.inr (⟨a_50, k_51, rfl, N_61, K_64, (Nat.le_trans (Nat.le_trans E_6.1 K_44.1) g_54), g_55⟩)
  · skip
    obtain ⟨rfl, N_65, K_66, g_67⟩ := hQ_19
    have N_68 := Fr.app N0 N_65
    have V_69 : Arv Z T_15.heap b k .char (3 : Int32) [(.int c0), (.int c1), (.int c2)] (.int (0 : Int32)) := (V_13.keep K_66 (ninS (Nat.ne_of_lt (Nat.lt_of_lt_of_le hp0.lt (Nat.le_trans (Nat.le_refl _) (Nat.le_of_eq g_10.symm)))) nin0))
    have O_70 : Old Z n0 T_15.heap := (O_14.keep K_66 (allS (Nat.le_trans (own_n0 X00) (Nat.le_of_eq g_10.symm)) all0))
    obtain ⟨_, _, ⟨T_71, L_71, k_71, n_71⟩, -, X_71, ⟨Lc_71, hQ_71, l_71, y_71, z_71⟩, st_71⟩ := Jvm.LawKit.callS X_15 hx (y := M91) hown (mvT hZ (w76 hw)) (mvT hZ (w77 hw)) (mvT hZ (w68 hw)) (mvT hZ (w78 hw)) (by decide) (backOf (W := 0) (rm_tob_3 l Z a0 hw [] G1 HG T_15.heap n0 O_70 b k c0 c1 c2 V_69) hZ (w78 hw) (w68 hw) (by decide) (by decide)) (g := (mkF m 23 #[.val (.ref b), .val (.int (0 : Int32)), .val (.int (3 : Int32)), .val (.ref a_9), .val (.int (2 : Int32)), .unset] [(.int (3 : Int32)), (.int (0 : Int32)), (.ref b)])) rfl (by rw [hml]; rfl) (argsL := [(.ref b), (.int (0 : Int32)), (.int (3 : Int32))]) (rest := []) (lenOf pd_196 rfl) rfl (by show 2 * 0 + _ ≤ _; exact Nat.le_of_eq rfl) (hb hby d8_23) (fun _ _ => ⟨rfl, rfl, (by decide : 1 + 1 ≤ _), (by decide : 3 + 6 ≤ _)⟩)
    dsimp only [Pt.U, Pt.locs, Pt.cells, Pt.slots] at X_71 l_71 y_71 z_71 st_71 hQ_71
    subst l_71 y_71 z_71
    obtain ⟨a_72, k_73, rfl, N_74, K_75, g_76, g_77⟩ := hQ_71
    have N_78 := Fr.app N_68 N_74
    have O_79 : Old Z n0 T_71.heap := (O_70.keep K_75 all0)
    obtain ⟨_, _, ⟨T_80, L_80, k_80, n_80⟩, -, X_80, ⟨Lc_80, hQ_80, l_80, y_80, z_80⟩, st_80⟩ := Jvm.LawKit.callS X_71 hx (y := M120) hown (mvT hZ (w92 hw)) (mvT hZ (w93 hw)) (mvT hZ (w68 hw)) (mvT hZ (w94 hw)) (by decide) (backOf (W := 0) (rm_get_3_2 l Z a0 hw [] G1 HG T_71.heap n0 O_79 a_72 k_73 (own_lo8z c0) (own_hi8 c0) (own_lo8z c1) (own_hi8 c1) (own_lo8z c2) (own_hi8 c2) g_77) hZ (w94 hw) (w68 hw) (by decide) (by decide)) (g := (mkF m 32 #[.val (.ref b), .val (.int (0 : Int32)), .val (.int (3 : Int32)), .val (.ref a_9), .val (.int (2 : Int32)), .val (.ref a_72)] [(.int (2 : Int32)), (.ref a_72)])) rfl (by rw [hml]; rfl) (argsL := [(.ref a_72), (.int (2 : Int32))]) (rest := []) (lenOf pd_204 rfl) rfl (by show 2 * 0 + _ ≤ _; exact Nat.le_of_eq rfl) (hb hby d8_32) (fun _ _ => ⟨rfl, rfl, (by decide : 2 + 0 ≤ _), (by decide : 9 + 0 ≤ _)⟩)
    dsimp only [Pt.U, Pt.locs, Pt.cells, Pt.slots] at X_80 l_80 y_80 z_80 st_80 hQ_80
    subst l_80 y_80 z_80
    obtain ⟨rfl, N_81, e_82⟩ := hQ_80
    have N_83 := Fr.app N_78 N_81
    have e_84 : T_80.heap = T_71.heap := e_82
    have C_85 : Steps p.tables e below S0 (T_80.setTop (mkF m 56 #[.val (.ref b), .val (.int (0 : Int32)), .val (.int (3 : Int32)), .val (.ref a_9), .val (.int (2 : Int32)), .val (.ref a_72)] [(.ref a_72)])) := by
      refine C_16.trans ?_
      refine st_15 _ ?_
      refine XS.istore X_15.here hx rfl (hb hby d8_12) rfl (l' := #[.val (.ref b), .val (.int (0 : Int32)), .val (.int (3 : Int32)), .val (.ref a_9), .val (.int (2 : Int32)), .unset]) rfl ?_
      refine XS.iload X_15.here hx rfl (hb hby d8_14) rfl ?_
      refine XS.iloadN X_15.here hx rfl (hb hby d8_16) rfl ?_
      refine XS.icmpNo X_15.here hx rfl (hb hby d8_17) rfl (by decide) ?_
      refine XS.aloadN X_15.here hx rfl (hb hby d8_20) rfl rfl ?_
      refine XS.iloadN X_15.here hx rfl (hb hby d8_21) rfl ?_
      refine XS.iloadN X_15.here hx rfl (hb hby d8_22) rfl ?_
      show Steps p.tables e below (T_15.setTop (mkF m 23 #[.val (.ref b), .val (.int (0 : Int32)), .val (.int (3 : Int32)), .val (.ref a_9), .val (.int (2 : Int32)), .unset] [(.int (3 : Int32)), (.int (0 : Int32)), (.ref b)])) _
      refine st_71 _ ?_
      refine XS.astore X_71.here hx rfl (hb hby d8_26) rfl rfl (l' := #[.val (.ref b), .val (.int (0 : Int32)), .val (.int (3 : Int32)), .val (.ref a_9), .val (.int (2 : Int32)), .val (.ref a_72)]) rfl ?_
      refine XS.aload X_71.here hx rfl (hb hby d8_28) rfl rfl ?_
      refine XS.iload X_71.here hx rfl (hb hby d8_30) rfl ?_
      refine st_80 _ ?_
      refine XS.sipush X_80.here hx rfl (hb hby d8_35) ?_
      refine XS.icmpYes X_80.here hx rfl (pc0 := 38) (pc' := 54) rfl (hb hby d8_38) rfl (ii_gt_t (by rw [own_pair_says hl2 hm2]; exact g_67)) (by decide) (by decide) ?_
      refine XS.aload X_80.here hx rfl (hb hby d8_54) rfl rfl ?_
      show Steps p.tables e below (T_80.setTop (mkF m 56 #[.val (.ref b), .val (.int (0 : Int32)), .val (.int (3 : Int32)), .val (.ref a_9), .val (.int (2 : Int32)), .val (.ref a_72)] [(.ref a_72)])) _
      exact Steps.refl _
    have K_86 : Keep h0 T_71.heap [] := ((((Keep.refl _ _).ext E_6).trans K_66 (allS (Or.inr (Nat.le_trans (Nat.le_refl _) (Nat.le_of_eq g_10.symm))) all0)).trans K_75 all0)
    obtain ⟨fs, hr, hrun, hended, hW, hsame⟩ := X_80.leave (v := some (.ref a_72)) (fun h => by rw [Bd.returns] at h; cases h)
    refine ⟨_, _, C_85.trans (retOut X_80 hx Bd.returns rfl (Or.inr (Or.inr (Or.inr (Or.inr ⟨rfl, rfl, rfl⟩)))) (hb hby d8_56) hr), hrun, hended, _, _, rfl, ?_, ⟨_, rfl⟩, hW, hsame.mono (by decide) (by decide)⟩
    show Q_cmp3u_3 Z G1 b k c0 c1 c2 h0 n0 (some (.ref a_72)) T_80.heap _
    rw [e_84]
    exact Or.inr (⟨a_72, k_73, rfl, N_83, K_86, (Nat.le_trans (Nat.le_trans E_6.1 K_66.1) g_76), g_77⟩)
  · skip
    obtain ⟨rfl, N_87, K_88, g_89, g_90, g_91, g_92⟩ := hQ_20
    have N_93 := Fr.app N0 N_87
    have C_94 : Steps p.tables e below S0 (T_15.setTop (mkF m 58 #[.val (.ref b), .val (.int (0 : Int32)), .val (.int (3 : Int32)), .val (.ref a_9), .val (.int (3 : Int32)), .unset] [(.ref a_9)])) := by
      refine C_16.trans ?_
      refine st_15 _ ?_
      refine XS.istore X_15.here hx rfl (hb hby d8_12) rfl (l' := #[.val (.ref b), .val (.int (0 : Int32)), .val (.int (3 : Int32)), .val (.ref a_9), .val (.int (3 : Int32)), .unset]) rfl ?_
      refine XS.iload X_15.here hx rfl (hb hby d8_14) rfl ?_
      refine XS.iloadN X_15.here hx rfl (hb hby d8_16) rfl ?_
      refine XS.icmpYes X_15.here hx rfl (pc0 := 17) (pc' := 57) rfl (hb hby d8_17) rfl (by decide) (by decide) (by decide) ?_
      refine XS.aloadN X_15.here hx rfl (hb hby d8_57) rfl rfl ?_
      exact Steps.refl _
    have K_95 : Keep h0 T_15.heap [] := (((Keep.refl _ _).ext E_6).trans K_88 (allS (Or.inr (Nat.le_trans (Nat.le_refl _) (Nat.le_of_eq g_10.symm))) all0))
    obtain ⟨fs, hr, hrun, hended, hW, hsame⟩ := X_15.leave (v := some (.ref a_9)) (fun h => by rw [Bd.returns] at h; cases h)
    refine ⟨_, _, C_94.trans (retOut X_15 hx Bd.returns rfl (Or.inr (Or.inr (Or.inr (Or.inr ⟨rfl, rfl, rfl⟩)))) (hb hby d8_58) hr), hrun, hended, _, _, rfl, ?_, ⟨_, rfl⟩, hW, hsame.mono (by decide) (by decide)⟩
    show Q_cmp3u_3 Z G1 b k c0 c1 c2 h0 n0 (some (.ref a_9)) T_15.heap _
    exact Or.inl ⟨a_9, k_3, rfl, N_93, K_95, (Nat.le_trans (Nat.le_refl _) (Nat.le_of_eq g_10.symm)), g_89⟩
abbrev R_codl_3 : Room := { frames := 0, cells := 0, slots := 0, locals := 0 }
def Q_codl_3 (Z : State) (G1 : Int32) (t : Addr) (kt : ClassId) (y0 : Int32) (y1 : Int32) (y2 : Int32) (h0 : Heap) (n0 : Nat) (v : Option Value) (h : Heap) (L : List Loc) : Prop := (v = some (.int (0 : Int32)) ∧ Fr n0 L ∧ h = h0)
set_option maxRecDepth 65536 in
set_option maxHeartbeats 40000000 in
theorem rm_codl_3 (l : Launch) (Z : State) (a0 : Array Value) (hw : ∀ d ∈ tables_1, d.before a0 Z = true) (ws : List Jvm.Cond) (G1 : Int32) (HG : own_G l Z a0 G1) (h0 : Heap) (n0 : Nat) (X00 : Old Z n0 h0) (t : Addr) (kt : ClassId) (y0 : Int32) (y1 : Int32) (y2 : Int32) (hp0 : Arv Z h0 t kt .byte (3 : Int32) [(.int y0), (.int y1), (.int y2)] (.int (0 : Int32))) :
    own_CP l Z M214 jdk_52_method_15_code 2 (some .byte) ws R_codl_3 #[(.ref t), (.int (3 : Int32))] h0 (Q_codl_3 Z G1 t kt y0 y1 y2 h0 n0) := by
  refine own_P (plainFor_of_name pn_42) ?_
  intro p e s m below meth c s₁ S0 Bd hZ hh hx hby hml hown hnm X0 e0 hS0d
  obtain ⟨O1, P1, OAD, OHI, OLO⟩ := id HG
  have N0 := Fr.nil n0
  have C0 : Steps p.tables e below S0 (s₁.setTop (mkF m 0 #[.val (.ref t), .val (.int (3 : Int32))] [])) := by rw [hS0d]; exact castTop (ef_121 m t (3 : Int32)) (Steps.refl _)
  obtain ⟨c_1, A_2, q_3, S_4, M_5, H_6, U_7⟩ := id hp0
  have C_8 : Steps p.tables e below S0 (s₁.setTop (mkF m 8 #[.val (.ref t), .val (.int (3 : Int32))] [(.int (0 : Int32))])) := by
    refine C0.trans ?_
    refine XS.iloadN X0.here hx rfl (hb hby d9_0) rfl ?_
    refine XS.aloadN X0.here hx rfl (hb hby d9_1) rfl rfl ?_
    refine X0.arraylength hx (by rw [e0]; exact A_2.1) (State.isArrayOf_alike hZ.alike A_2.2.1) (g := (mkF m 2 #[.val (.ref t), .val (.int (3 : Int32))] [(.ref t), (.int (3 : Int32))])) rfl rfl (hb hby d9_2) _ ?_
    rw [len_of S_4 M_5]
    refine XS.isub X0.here hx rfl (hb hby d9_3) rfl ?_
    refine XS.bipush X0.here hx rfl (hb hby d9_4) ?_
    refine XS.iushr X0.here hx rfl (hb hby d9_6) rfl ?_
    refine XS.i2b X0.here hx rfl (hb hby d9_7) rfl ?_
    exact Steps.refl _
  obtain ⟨fs, hr, hrun, hended, hW, hsame⟩ := X0.leave (v := some (.int (0 : Int32))) (fun h => by rw [Bd.returns] at h; cases h)
  refine ⟨_, _, C_8.trans (retN X0 hx (t := .byte) Bd.returns (by simp) (hb hby d9_8) hr), hrun, hended, _, _, rfl, ?_, ⟨_, rfl⟩, hW, hsame.mono (by decide) (by decide)⟩
  show Q_codl_3 Z G1 t kt y0 y1 y2 h0 n0 (some (.int (0 : Int32))) s₁.heap _
  rw [e0]
  exact ⟨rfl, N0, rfl⟩
abbrev R_codu_3 : Room := { frames := 0, cells := 0, slots := 0, locals := 0 }
def Q_codu_3 (Z : State) (G1 : Int32) (t : Addr) (kt : ClassId) (y0 : Int32) (y1 : Int32) (y2 : Int32) (y3 : Int32) (y4 : Int32) (y5 : Int32) (h0 : Heap) (n0 : Nat) (v : Option Value) (h : Heap) (L : List Loc) : Prop := (v = some (.int (1 : Int32)) ∧ Fr n0 L ∧ h = h0)
set_option maxRecDepth 65536 in
set_option maxHeartbeats 40000000 in
theorem rm_codu_3 (l : Launch) (Z : State) (a0 : Array Value) (hw : ∀ d ∈ tables_1, d.before a0 Z = true) (ws : List Jvm.Cond) (G1 : Int32) (HG : own_G l Z a0 G1) (h0 : Heap) (n0 : Nat) (X00 : Old Z n0 h0) (t : Addr) (kt : ClassId) (y0 : Int32) (y1 : Int32) (y2 : Int32) (y3 : Int32) (y4 : Int32) (y5 : Int32) (hp0 : Arv Z h0 t kt .byte (6 : Int32) [(.int y0), (.int y1), (.int y2), (.int y3), (.int y4), (.int y5)] (.int (0 : Int32))) :
    own_CP l Z M214 jdk_52_method_15_code 2 (some .byte) ws R_codu_3 #[(.ref t), (.int (3 : Int32))] h0 (Q_codu_3 Z G1 t kt y0 y1 y2 y3 y4 y5 h0 n0) := by
  refine own_P (plainFor_of_name pn_42) ?_
  intro p e s m below meth c s₁ S0 Bd hZ hh hx hby hml hown hnm X0 e0 hS0d
  obtain ⟨O1, P1, OAD, OHI, OLO⟩ := id HG
  have N0 := Fr.nil n0
  have C0 : Steps p.tables e below S0 (s₁.setTop (mkF m 0 #[.val (.ref t), .val (.int (3 : Int32))] [])) := by rw [hS0d]; exact castTop (ef_121 m t (3 : Int32)) (Steps.refl _)
  obtain ⟨c_1, A_2, q_3, S_4, M_5, H_6, U_7⟩ := id hp0
  have C_8 : Steps p.tables e below S0 (s₁.setTop (mkF m 8 #[.val (.ref t), .val (.int (3 : Int32))] [(.int (1 : Int32))])) := by
    refine C0.trans ?_
    refine XS.iloadN X0.here hx rfl (hb hby d9_0) rfl ?_
    refine XS.aloadN X0.here hx rfl (hb hby d9_1) rfl rfl ?_
    refine X0.arraylength hx (by rw [e0]; exact A_2.1) (State.isArrayOf_alike hZ.alike A_2.2.1) (g := (mkF m 2 #[.val (.ref t), .val (.int (3 : Int32))] [(.ref t), (.int (3 : Int32))])) rfl rfl (hb hby d9_2) _ ?_
    rw [len_of S_4 M_5]
    refine XS.isub X0.here hx rfl (hb hby d9_3) rfl ?_
    refine XS.bipush X0.here hx rfl (hb hby d9_4) ?_
    refine XS.iushr X0.here hx rfl (hb hby d9_6) rfl ?_
    refine XS.i2b X0.here hx rfl (hb hby d9_7) rfl ?_
    exact Steps.refl _
  obtain ⟨fs, hr, hrun, hended, hW, hsame⟩ := X0.leave (v := some (.int (1 : Int32))) (fun h => by rw [Bd.returns] at h; cases h)
  refine ⟨_, _, C_8.trans (retN X0 hx (t := .byte) Bd.returns (by simp) (hb hby d9_8) hr), hrun, hended, _, _, rfl, ?_, ⟨_, rfl⟩, hW, hsame.mono (by decide) (by decide)⟩
  show Q_codu_3 Z G1 t kt y0 y1 y2 y3 y4 y5 h0 n0 (some (.int (1 : Int32))) s₁.heap _
  rw [e0]
  exact ⟨rfl, N0, rfl⟩
abbrev R_si4u_3 : Room := { frames := 4, cells := 2, slots := 9, locals := 57 }
def Q_si4u_3 (Z : State) (G1 : Int32) (x : Addr) (b : Addr) (k : ClassId) (c0 : Int32) (c1 : Int32) (c2 : Int32) (h0 : Heap) (n0 : Nat) (v : Option Value) (h : Heap) (L : List Loc) : Prop := (∃ t : Addr, ∃ kt : ClassId, v = none ∧ Fr n0 L ∧ Keep h0 h [x] ∧ (Exa Z h x "java/lang/String") ∧ (Fld Z h x "java/lang/String" "coder" "B" (.int (0 : Int32))) ∧ (Fld Z h x "java/lang/String" "value" "[B" (.ref t)) ∧ (h0.size ≤ t) ∧ (Arv Z h t kt .byte (3 : Int32) [(.int (own_lo8 c0)), (.int (own_lo8 c1)), (.int (own_lo8 c2))] (.int (0 : Int32)))) ∨ (∃ t : Addr, ∃ kt : ClassId, v = none ∧ Fr n0 L ∧ Keep h0 h [x] ∧ (Exa Z h x "java/lang/String") ∧ (Fld Z h x "java/lang/String" "coder" "B" (.int (1 : Int32))) ∧ (Fld Z h x "java/lang/String" "value" "[B" (.ref t)) ∧ (h0.size ≤ t) ∧ (Arv Z h t kt .byte (6 : Int32) [(.int (own_lo8z c0)), (.int (own_hi8 c0)), (.int (own_lo8z c1)), (.int (own_hi8 c1)), (.int (own_lo8z c2)), (.int (own_hi8 c2))] (.int (0 : Int32))))
set_option maxRecDepth 65536 in
set_option maxHeartbeats 40000000 in
theorem rm_si4u_3 (l : Launch) (Z : State) (a0 : Array Value) (hw : ∀ d ∈ tables_1, d.before a0 Z = true) (ws : List Jvm.Cond) (G1 : Int32) (HG : own_G l Z a0 G1) (h0 : Heap) (n0 : Nat) (X00 : Old Z n0 h0) (x : Addr) (b : Addr) (k : ClassId) (c0 : Int32) (c1 : Int32) (c2 : Int32) (hp0 : Exa Z h0 x "java/lang/String") (hp1 : Fld Z h0 x "java/lang/String" "value" "[B" .null) (hp2 : Fld Z h0 x "java/lang/String" "coder" "B" (.int (0 : Int32))) (hp3 : n0 ≤ x) (hp4 : Arv Z h0 b k .char (3 : Int32) [(.int c0), (.int c1), (.int c2)] (.int (0 : Int32))) (hl0 : ¬ (c0 < (0 : Int32))) (hl1 : ¬ (c1 < (0 : Int32))) (hl2 : ¬ (c2 < (0 : Int32))) (hm0 : ¬ ((65535 : Int32) < c0)) (hm1 : ¬ ((65535 : Int32) < c1)) (hm2 : ¬ ((65535 : Int32) < c2)) :
    own_CP l Z M0 jdk_42_method_149_code 6 none ws R_si4u_3 #[(.ref x), (.ref b), (.int (0 : Int32)), (.int (3 : Int32)), .null] h0 (Q_si4u_3 Z G1 x b k c0 c1 c2 h0 n0) := by
  refine own_P (plainFor_of_name pn_2) ?_
  intro p e s m below meth c s₁ S0 Bd hZ hh hx hby hml hown hnm X0 e0 hS0d
  obtain ⟨O1, P1, OAD, OHI, OLO⟩ := id HG
  have N0 := Fr.nil n0
  have C0 : Steps p.tables e below S0 (s₁.setTop (mkF m 0 #[.val (.ref x), .val (.ref b), .val (.int (0 : Int32)), .val (.int (3 : Int32)), .val .null, .unset] [])) := by rw [hS0d]; exact castTop (ef_1 m x b (0 : Int32) (3 : Int32)) (Steps.refl _)
  obtain ⟨T_1, X_2, e_3, st_4⟩ := initO X0 hx hZ hown (w16 hw) (w17 hw) (w18 hw) e0 (g := (mkF m 1 #[.val (.ref x), .val (.ref b), .val (.int (0 : Int32)), .val (.int (3 : Int32)), .val .null, .unset] [(.ref x)])) rfl (by rw [hml]; rfl) rfl (hb hby d0_1) (by decide) (W := 0) (by show 2 * 0 + _ ≤ _; exact Nat.le_of_eq rfl) (by decide)
  obtain ⟨T_5, X_6, e_7, st_8⟩ := getS X_2 hx hZ (host := "") hown (w65 hw) Via.refl e_3 (O1.ext X00.2) (g := (mkF m 27 #[.val (.ref x), .val (.ref b), .val (.int (0 : Int32)), .val (.int (3 : Int32)), .val .null, .unset] [])) rfl (hb hby d0_27)
  obtain ⟨_, _, ⟨T_9, L_9, k_9, n_9⟩, -, X_9, ⟨Lc_9, hQ_9, l_9, y_9, z_9⟩, st_9⟩ := Jvm.LawKit.callS X_6 hx (y := M173) hown (mvT hZ (w66 hw)) (mvT hZ (w67 hw)) (mvT hZ (w68 hw)) (mvT hZ (w69 hw)) (by decide) (backOf (W := 0) (rm_cmp3u_3 l Z a0 hw [] G1 HG h0 n0 X00 b k c0 c1 c2 hp4 hl0 hl1 hl2 hm0 hm1 hm2) hZ (w69 hw) (w68 hw) (by decide) (by decide)) (g := (mkF m 36 #[.val (.ref x), .val (.ref b), .val (.int (0 : Int32)), .val (.int (3 : Int32)), .val .null, .unset] [(.int (3 : Int32)), (.int (0 : Int32)), (.ref b)])) rfl (by rw [hml]; rfl) (argsL := [(.ref b), (.int (0 : Int32)), (.int (3 : Int32))]) (rest := []) (lenOf pd_196 rfl) rfl (by show 2 * 0 + _ ≤ _; exact Nat.le_of_eq rfl) (hb hby d0_36) (fun _ _ => ⟨rfl, e_7, (by decide : 0 + 2 ≤ _), (by decide : 0 + 9 ≤ _)⟩)
  dsimp only [Pt.U, Pt.locs, Pt.cells, Pt.slots] at X_9 l_9 y_9 z_9 st_9 hQ_9
  subst l_9 y_9 z_9
  have C_10 : Steps p.tables e below S0 (T_5.setTop (mkF m 36 #[.val (.ref x), .val (.ref b), .val (.int (0 : Int32)), .val (.int (3 : Int32)), .val .null, .unset] [(.int (3 : Int32)), (.int (0 : Int32)), (.ref b)])) := by
    refine C0.trans ?_
    refine XS.aloadN X0.here hx rfl (hb hby d0_0) rfl rfl ?_
    refine st_4 _ ?_
    refine XS.iloadN X_2.here hx rfl (hb hby d0_4) rfl ?_
    refine XS.ifYes X_2.here hx rfl (pc0 := 5) (pc' := 27) rfl (hb hby d0_5) rfl (by decide) (by decide) (by decide) ?_
    refine st_8 _ ?_
    refine XS.ifNo X_6.here hx rfl (hb hby d0_30) rfl (i0_eq_f P1) ?_
    refine XS.aloadN X_6.here hx rfl (hb hby d0_33) rfl rfl ?_
    refine XS.iloadN X_6.here hx rfl (hb hby d0_34) rfl ?_
    show Steps p.tables e below (T_5.setTop (mkF m 35 #[.val (.ref x), .val (.ref b), .val (.int (0 : Int32)), .val (.int (3 : Int32)), .val .null, .unset] [(.int (0 : Int32)), (.ref b)])) _
    refine XS.iloadN X_6.here hx rfl (hb hby d0_35) rfl ?_
    exact Steps.refl _
  rcases hQ_9 with hQ_11 | hQ_12
  · skip
    obtain ⟨a_13, k_14, rfl, N_15, K_16, g_17, g_18⟩ := hQ_11
    have N_19 := Fr.app N0 N_15
    have O_20 : Old Z n0 T_9.heap := (X00.keep K_16 all0)
    obtain ⟨_, _, ⟨T_21, L_21, k_21, n_21⟩, -, X_21, ⟨Lc_21, hQ_21, l_21, y_21, z_21⟩, st_21⟩ := Jvm.LawKit.callS X_9 hx (y := M214) hown (mvT hZ (w73 hw)) (mvT hZ (w74 hw)) (mvT hZ (w68 hw)) (mvT hZ (w75 hw)) (by decide) (backOf (W := 1) (rm_codl_3 l Z a0 hw [] G1 HG T_9.heap n0 O_20 a_13 k_14 (own_lo8 c0) (own_lo8 c1) (own_lo8 c2) g_18) hZ (w75 hw) (w68 hw) (by decide) (by decide)) (g := (mkF m 45 #[.val (.ref x), .val (.ref b), .val (.int (0 : Int32)), .val (.int (3 : Int32)), .val .null, .val (.ref a_13)] [(.int (3 : Int32)), (.ref a_13), (.ref x)])) rfl (by rw [hml]; rfl) (argsL := [(.ref a_13), (.int (3 : Int32))]) (rest := [(.ref x)]) (lenOf pd_238 rfl) rfl (by show 2 * 0 + _ ≤ _; exact Nat.le_of_eq rfl) (hb hby d0_45) (fun _ _ => ⟨rfl, rfl, (by decide : 2 + 0 ≤ _), (by decide : 9 + 0 ≤ _)⟩)
    dsimp only [Pt.U, Pt.locs, Pt.cells, Pt.slots] at X_21 l_21 y_21 z_21 st_21 hQ_21
    subst l_21 y_21 z_21
    obtain ⟨rfl, N_22, e_23⟩ := hQ_21
    have N_24 := Fr.app N_19 N_22
    have e_25 : T_21.heap = T_9.heap := e_23
    have F_26 : Fld Z T_9.heap x "java/lang/String" "coder" "B" (.int (0 : Int32)) := (hp2.keep K_16 nin0)
    have E_27 : Exa Z T_9.heap x "java/lang/String" := (hp0.keep K_16)
    obtain ⟨T_28, h_29, X_30, e_31, W_32, st_33⟩ := putF X_21 hx hZ hown (host := "") (Or.inl (w26 hw)) Via.refl e_25 F_26 E_27 (Or.inr ⟨(w22 hw), rfl, hnm⟩) (w6 hw) (ty := .byte) (by decide) rfl (by decide) (g := (mkF m 48 #[.val (.ref x), .val (.ref b), .val (.int (0 : Int32)), .val (.int (3 : Int32)), .val .null, .val (.ref a_13)] [(.int (0 : Int32)), (.ref x)])) rfl rfl (hb hby d0_48)
    have N_34 := Fr.snoc X_30 N_24 hp3
    have F_35 : Fld Z h_29 x "java/lang/String" "coder" "B" (.int (0 : Int32)) := F_26.same W_32
    have F_36 : Fld Z h_29 x "java/lang/String" "value" "[B" .null := ((hp1.keep K_16 nin0).other W_32 (Or.inr (slot_ne (Or.inr (w21 hw)) (Or.inr (w22 hw)) (by decide) (t := (.array .byte)) (by decide) (t' := .byte) (by decide))))
    have E_37 : Exa Z h_29 x "java/lang/String" := (E_27.wr W_32)
    obtain ⟨T_38, h_39, X_40, e_41, W_42, st_43⟩ := putF X_30 hx hZ hown (host := "") (Or.inl (w25 hw)) Via.refl e_31 F_36 E_37 (Or.inr ⟨(w21 hw), rfl, hnm⟩) (w6 hw) (ty := (.array .byte)) (by decide) rfl rfl (g := (mkF m 54 #[.val (.ref x), .val (.ref b), .val (.int (0 : Int32)), .val (.int (3 : Int32)), .val .null, .val (.ref a_13)] [(.ref a_13), (.ref x)])) rfl rfl (hb hby d0_54)
    have N_44 := Fr.snoc X_40 N_34 hp3
    have F_45 : Fld Z h_39 x "java/lang/String" "value" "[B" (.ref a_13) := F_36.same W_42
    have C_46 : Steps p.tables e below S0 (T_38.setTop (mkF m 57 #[.val (.ref x), .val (.ref b), .val (.int (0 : Int32)), .val (.int (3 : Int32)), .val .null, .val (.ref a_13)] [])) := by
      refine C_10.trans ?_
      refine st_9 _ ?_
      refine XS.astore X_9.here hx rfl (hb hby d0_39) rfl rfl (l' := #[.val (.ref x), .val (.ref b), .val (.int (0 : Int32)), .val (.int (3 : Int32)), .val .null, .val (.ref a_13)]) rfl ?_
      refine XS.aloadN X_9.here hx rfl (hb hby d0_41) rfl rfl ?_
      refine XS.aload X_9.here hx rfl (hb hby d0_42) rfl rfl ?_
      refine XS.iloadN X_9.here hx rfl (hb hby d0_44) rfl ?_
      refine st_21 _ ?_
      refine st_33 _ ?_
      refine XS.aloadN X_30.here hx rfl (hb hby d0_51) rfl rfl ?_
      show Steps p.tables e below (T_28.setTop (mkF m 52 #[.val (.ref x), .val (.ref b), .val (.int (0 : Int32)), .val (.int (3 : Int32)), .val .null, .val (.ref a_13)] [(.ref x)])) _
      refine XS.aload X_30.here hx rfl (hb hby d0_52) rfl rfl ?_
      refine st_43 _ ?_
      exact Steps.refl _
    have E_47 : Exa Z h_39 x "java/lang/String" := (E_37.wr W_42)
    have F_48 : Fld Z h_39 x "java/lang/String" "coder" "B" (.int (0 : Int32)) := (F_35.other W_42 (Or.inr (slot_ne (Or.inr (w22 hw)) (Or.inr (w21 hw)) (by decide) (t := .byte) (by decide) (t' := (.array .byte)) (by decide))))
    have V_49 : Arv Z h_39 a_13 k_14 .byte (3 : Int32) [(.int (own_lo8 c0)), (.int (own_lo8 c1)), (.int (own_lo8 c2))] (.int (0 : Int32)) := ((g_18.other W_32 (Ne.symm (Nat.ne_of_lt (Nat.lt_of_lt_of_le hp0.lt (Nat.le_trans (Nat.le_refl _) g_17))))).other W_42 (Ne.symm (Nat.ne_of_lt (Nat.lt_of_lt_of_le hp0.lt (Nat.le_trans (Nat.le_refl _) g_17)))))
    have K_50 : Keep h0 h_39 [x] := ((((Keep.refl _ _).trans K_16 all0).wr W_32 (Or.inl (List.mem_of_getElem? (i := 0) rfl))).wr W_42 (Or.inl (List.mem_of_getElem? (i := 0) rfl)))
    obtain ⟨fs, hr, hrun, hended, hW, hsame⟩ := X_40.leave (v := none) (fun _ => rfl)
    refine ⟨_, _, C_46.trans (X_40.returnOut hx Bd.returns (hb hby d0_57) hr), hrun, hended, _, _, rfl, ?_, ⟨_, rfl⟩, hW, hsame.mono (by decide) (by decide)⟩
    show Q_si4u_3 Z G1 x b k c0 c1 c2 h0 n0 (none) T_38.heap _
    rw [e_41]
    exact Or.inl ⟨a_13, k_14, rfl, N_44, K_50, E_47, F_48, F_45, (Nat.le_trans (Nat.le_refl _) g_17), V_49⟩
  · skip
    obtain ⟨a_51, k_52, rfl, N_53, K_54, g_55, g_56⟩ := hQ_12
    have N_57 := Fr.app N0 N_53
    have O_58 : Old Z n0 T_9.heap := (X00.keep K_54 all0)
    obtain ⟨_, _, ⟨T_59, L_59, k_59, n_59⟩, -, X_59, ⟨Lc_59, hQ_59, l_59, y_59, z_59⟩, st_59⟩ := Jvm.LawKit.callS X_9 hx (y := M214) hown (mvT hZ (w73 hw)) (mvT hZ (w74 hw)) (mvT hZ (w68 hw)) (mvT hZ (w75 hw)) (by decide) (backOf (W := 1) (rm_codu_3 l Z a0 hw [] G1 HG T_9.heap n0 O_58 a_51 k_52 (own_lo8z c0) (own_hi8 c0) (own_lo8z c1) (own_hi8 c1) (own_lo8z c2) (own_hi8 c2) g_56) hZ (w75 hw) (w68 hw) (by decide) (by decide)) (g := (mkF m 45 #[.val (.ref x), .val (.ref b), .val (.int (0 : Int32)), .val (.int (3 : Int32)), .val .null, .val (.ref a_51)] [(.int (3 : Int32)), (.ref a_51), (.ref x)])) rfl (by rw [hml]; rfl) (argsL := [(.ref a_51), (.int (3 : Int32))]) (rest := [(.ref x)]) (lenOf pd_238 rfl) rfl (by show 2 * 0 + _ ≤ _; exact Nat.le_of_eq rfl) (hb hby d0_45) (fun _ _ => ⟨rfl, rfl, (by decide : 2 + 0 ≤ _), (by decide : 9 + 0 ≤ _)⟩)
    dsimp only [Pt.U, Pt.locs, Pt.cells, Pt.slots] at X_59 l_59 y_59 z_59 st_59 hQ_59
    subst l_59 y_59 z_59
    obtain ⟨rfl, N_60, e_61⟩ := hQ_59
    have N_62 := Fr.app N_57 N_60
    have e_63 : T_59.heap = T_9.heap := e_61
    have F_64 : Fld Z T_9.heap x "java/lang/String" "coder" "B" (.int (0 : Int32)) := (hp2.keep K_54 nin0)
    have E_65 : Exa Z T_9.heap x "java/lang/String" := (hp0.keep K_54)
    obtain ⟨T_66, h_67, X_68, e_69, W_70, st_71⟩ := putF X_59 hx hZ hown (host := "") (Or.inl (w26 hw)) Via.refl e_63 F_64 E_65 (Or.inr ⟨(w22 hw), rfl, hnm⟩) (w6 hw) (ty := .byte) (by decide) rfl (by decide) (g := (mkF m 48 #[.val (.ref x), .val (.ref b), .val (.int (0 : Int32)), .val (.int (3 : Int32)), .val .null, .val (.ref a_51)] [(.int (1 : Int32)), (.ref x)])) rfl rfl (hb hby d0_48)
    have N_72 := Fr.snoc X_68 N_62 hp3
    have F_73 : Fld Z h_67 x "java/lang/String" "coder" "B" (.int (1 : Int32)) := F_64.same W_70
    have F_74 : Fld Z h_67 x "java/lang/String" "value" "[B" .null := ((hp1.keep K_54 nin0).other W_70 (Or.inr (slot_ne (Or.inr (w21 hw)) (Or.inr (w22 hw)) (by decide) (t := (.array .byte)) (by decide) (t' := .byte) (by decide))))
    have E_75 : Exa Z h_67 x "java/lang/String" := (E_65.wr W_70)
    obtain ⟨T_76, h_77, X_78, e_79, W_80, st_81⟩ := putF X_68 hx hZ hown (host := "") (Or.inl (w25 hw)) Via.refl e_69 F_74 E_75 (Or.inr ⟨(w21 hw), rfl, hnm⟩) (w6 hw) (ty := (.array .byte)) (by decide) rfl rfl (g := (mkF m 54 #[.val (.ref x), .val (.ref b), .val (.int (0 : Int32)), .val (.int (3 : Int32)), .val .null, .val (.ref a_51)] [(.ref a_51), (.ref x)])) rfl rfl (hb hby d0_54)
    have N_82 := Fr.snoc X_78 N_72 hp3
    have F_83 : Fld Z h_77 x "java/lang/String" "value" "[B" (.ref a_51) := F_74.same W_80
    have C_84 : Steps p.tables e below S0 (T_76.setTop (mkF m 57 #[.val (.ref x), .val (.ref b), .val (.int (0 : Int32)), .val (.int (3 : Int32)), .val .null, .val (.ref a_51)] [])) := by
      refine C_10.trans ?_
      refine st_9 _ ?_
      refine XS.astore X_9.here hx rfl (hb hby d0_39) rfl rfl (l' := #[.val (.ref x), .val (.ref b), .val (.int (0 : Int32)), .val (.int (3 : Int32)), .val .null, .val (.ref a_51)]) rfl ?_
      refine XS.aloadN X_9.here hx rfl (hb hby d0_41) rfl rfl ?_
      refine XS.aload X_9.here hx rfl (hb hby d0_42) rfl rfl ?_
      refine XS.iloadN X_9.here hx rfl (hb hby d0_44) rfl ?_
      refine st_59 _ ?_
      refine st_71 _ ?_
      refine XS.aloadN X_68.here hx rfl (hb hby d0_51) rfl rfl ?_
      show Steps p.tables e below (T_66.setTop (mkF m 52 #[.val (.ref x), .val (.ref b), .val (.int (0 : Int32)), .val (.int (3 : Int32)), .val .null, .val (.ref a_51)] [(.ref x)])) _
      refine XS.aload X_68.here hx rfl (hb hby d0_52) rfl rfl ?_
      refine st_81 _ ?_
      exact Steps.refl _
    have E_85 : Exa Z h_77 x "java/lang/String" := (E_75.wr W_80)
    have F_86 : Fld Z h_77 x "java/lang/String" "coder" "B" (.int (1 : Int32)) := (F_73.other W_80 (Or.inr (slot_ne (Or.inr (w22 hw)) (Or.inr (w21 hw)) (by decide) (t := .byte) (by decide) (t' := (.array .byte)) (by decide))))
    have V_87 : Arv Z h_77 a_51 k_52 .byte (6 : Int32) [(.int (own_lo8z c0)), (.int (own_hi8 c0)), (.int (own_lo8z c1)), (.int (own_hi8 c1)), (.int (own_lo8z c2)), (.int (own_hi8 c2))] (.int (0 : Int32)) := ((g_56.other W_70 (Ne.symm (Nat.ne_of_lt (Nat.lt_of_lt_of_le hp0.lt (Nat.le_trans (Nat.le_refl _) g_55))))).other W_80 (Ne.symm (Nat.ne_of_lt (Nat.lt_of_lt_of_le hp0.lt (Nat.le_trans (Nat.le_refl _) g_55)))))
    have K_88 : Keep h0 h_77 [x] := ((((Keep.refl _ _).trans K_54 all0).wr W_70 (Or.inl (List.mem_of_getElem? (i := 0) rfl))).wr W_80 (Or.inl (List.mem_of_getElem? (i := 0) rfl)))
    obtain ⟨fs, hr, hrun, hended, hW, hsame⟩ := X_78.leave (v := none) (fun _ => rfl)
    refine ⟨_, _, C_84.trans (X_78.returnOut hx Bd.returns (hb hby d0_57) hr), hrun, hended, _, _, rfl, ?_, ⟨_, rfl⟩, hW, hsame.mono (by decide) (by decide)⟩
    show Q_si4u_3 Z G1 x b k c0 c1 c2 h0 n0 (none) T_76.heap _
    rw [e_79]
    exact Or.inr (⟨a_51, k_52, rfl, N_82, K_88, E_85, F_86, F_83, (Nat.le_trans (Nat.le_refl _) g_55), V_87⟩)
abbrev R_si1u_3 : Room := { frames := 5, cells := 2, slots := 9, locals := 74 }
def Q_si1u_3 (Z : State) (G1 : Int32) (x : Addr) (b : Addr) (k : ClassId) (c0 : Int32) (c1 : Int32) (c2 : Int32) (h0 : Heap) (n0 : Nat) (v : Option Value) (h : Heap) (L : List Loc) : Prop := (∃ t : Addr, ∃ kt : ClassId, v = none ∧ Fr n0 L ∧ Keep h0 h [x] ∧ (Exa Z h x "java/lang/String") ∧ (Fld Z h x "java/lang/String" "coder" "B" (.int (0 : Int32))) ∧ (Fld Z h x "java/lang/String" "value" "[B" (.ref t)) ∧ (h0.size ≤ t) ∧ (Arv Z h t kt .byte (3 : Int32) [(.int (own_lo8 c0)), (.int (own_lo8 c1)), (.int (own_lo8 c2))] (.int (0 : Int32)))) ∨ (∃ t : Addr, ∃ kt : ClassId, v = none ∧ Fr n0 L ∧ Keep h0 h [x] ∧ (Exa Z h x "java/lang/String") ∧ (Fld Z h x "java/lang/String" "coder" "B" (.int (1 : Int32))) ∧ (Fld Z h x "java/lang/String" "value" "[B" (.ref t)) ∧ (h0.size ≤ t) ∧ (Arv Z h t kt .byte (6 : Int32) [(.int (own_lo8z c0)), (.int (own_hi8 c0)), (.int (own_lo8z c1)), (.int (own_hi8 c1)), (.int (own_lo8z c2)), (.int (own_hi8 c2))] (.int (0 : Int32))))
set_option maxRecDepth 65536 in
set_option maxHeartbeats 40000000 in
theorem rm_si1u_3 (l : Launch) (Z : State) (a0 : Array Value) (hw : ∀ d ∈ tables_1, d.before a0 Z = true) (ws : List Jvm.Cond) (G1 : Int32) (HG : own_G l Z a0 G1) (h0 : Heap) (n0 : Nat) (X00 : Old Z n0 h0) (x : Addr) (b : Addr) (k : ClassId) (c0 : Int32) (c1 : Int32) (c2 : Int32) (hp0 : Exa Z h0 x "java/lang/String") (hp1 : Fld Z h0 x "java/lang/String" "value" "[B" .null) (hp2 : Fld Z h0 x "java/lang/String" "coder" "B" (.int (0 : Int32))) (hp3 : n0 ≤ x) (hp4 : Arv Z h0 b k .char (3 : Int32) [(.int c0), (.int c1), (.int c2)] (.int (0 : Int32))) (hl0 : ¬ (c0 < (0 : Int32))) (hl1 : ¬ (c1 < (0 : Int32))) (hl2 : ¬ (c2 < (0 : Int32))) (hm0 : ¬ ((65535 : Int32) < c0)) (hm1 : ¬ ((65535 : Int32) < c1)) (hm2 : ¬ ((65535 : Int32) < c2)) :
    own_CP l Z M25 jdk_42_method_3_code 2 none ws R_si1u_3 #[(.ref x), (.ref b)] h0 (Q_si1u_3 Z G1 x b k c0 c1 c2 h0 n0) := by
  refine own_P (plainFor_of_name pn_2) ?_
  intro p e s m below meth c s₁ S0 Bd hZ hh hx hby hml hown hnm X0 e0 hS0d
  obtain ⟨O1, P1, OAD, OHI, OLO⟩ := id HG
  have N0 := Fr.nil n0
  have C0 : Steps p.tables e below S0 (s₁.setTop (mkF m 0 #[.val (.ref x), .val (.ref b)] [])) := by rw [hS0d]; exact castTop (ef_26 m x b) (Steps.refl _)
  obtain ⟨c_1, A_2, q_3, S_4, M_5, H_6, U_7⟩ := id hp4
  obtain ⟨_, _, ⟨T_8, L_8, k_8, n_8⟩, -, X_8, ⟨Lc_8, hQ_8, l_8, y_8, z_8⟩, st_8⟩ := X0.specialBack hx (y := M0) rfl hown (mvT hZ (w12 hw)) (mvT hZ (w13 hw)) (mvT hZ (w15 hw)) (by decide) (backOf (W := 0) (rm_si4u_3 l Z a0 hw [] G1 HG h0 n0 X00 x b k c0 c1 c2 hp0 hp1 hp2 hp3 hp4 hl0 hl1 hl2 hm0 hm1 hm2) hZ (w15 hw) (w7 hw) (by decide) (by decide)) (g := (mkF m 6 #[.val (.ref x), .val (.ref b)] [.null, (.int (3 : Int32)), (.int (0 : Int32)), (.ref b), (.ref x)])) rfl (by rw [hml]; rfl) (Steps.refl _) (a := x) (argsL := [(.ref b), (.int (0 : Int32)), (.int (3 : Int32)), .null]) (rest := []) (lenOf pd_35 rfl) rfl (by show 2 * 0 + _ ≤ _; exact Nat.le_of_eq rfl) (hb hby d1_6) (fun _ _ => ⟨rfl, e0, (by decide : 0 + 2 ≤ _), (by decide : 0 + 9 ≤ _)⟩)
  dsimp only [Pt.U, Pt.locs, Pt.cells, Pt.slots] at X_8 l_8 y_8 z_8 st_8 hQ_8
  subst l_8 y_8 z_8
  have C_9 : Steps p.tables e below S0 (s₁.setTop (mkF m 6 #[.val (.ref x), .val (.ref b)] [.null, (.int (3 : Int32)), (.int (0 : Int32)), (.ref b), (.ref x)])) := by
    refine C0.trans ?_
    refine XS.aloadN X0.here hx rfl (hb hby d1_0) rfl rfl ?_
    refine XS.aloadN X0.here hx rfl (hb hby d1_1) rfl rfl ?_
    refine XS.iconst X0.here hx rfl (hb hby d1_2) ?_
    refine XS.aloadN X0.here hx rfl (hb hby d1_3) rfl rfl ?_
    refine X0.arraylength hx (by rw [e0]; exact A_2.1) (State.isArrayOf_alike hZ.alike A_2.2.1) (g := (mkF m 4 #[.val (.ref x), .val (.ref b)] [(.ref b), (.int (0 : Int32)), (.ref b), (.ref x)])) rfl rfl (hb hby d1_4) _ ?_
    rw [len_of S_4 M_5]
    refine XS.aconstNull X0.here hx rfl (hb hby d1_5) ?_
    exact Steps.refl _
  rcases hQ_8 with hQ_10 | hQ_11
  · skip
    obtain ⟨a_12, k_13, rfl, N_14, K_15, g_16, g_17, g_18, g_19, g_20⟩ := hQ_10
    have N_21 := Fr.app N0 N_14
    have C_22 : Steps p.tables e below S0 (T_8.setTop (mkF m 9 #[.val (.ref x), .val (.ref b)] [])) := by
      refine C_9.trans ?_
      refine st_8.trans ?_
      exact Steps.refl _
    have K_23 : Keep h0 T_8.heap [x] := ((Keep.refl _ _).trans K_15 (allS (Or.inl (List.mem_of_getElem? (i := 0) rfl)) all0))
    obtain ⟨fs, hr, hrun, hended, hW, hsame⟩ := X_8.leave (v := none) (fun _ => rfl)
    refine ⟨_, _, C_22.trans (X_8.returnOut hx Bd.returns (hb hby d1_9) hr), hrun, hended, _, _, rfl, ?_, ⟨_, rfl⟩, hW, hsame.mono (by decide) (by decide)⟩
    show Q_si1u_3 Z G1 x b k c0 c1 c2 h0 n0 (none) T_8.heap _
    exact Or.inl ⟨a_12, k_13, rfl, N_21, K_23, g_16, g_17, g_18, (Nat.le_trans (Nat.le_refl _) g_19), g_20⟩
  · skip
    obtain ⟨a_24, k_25, rfl, N_26, K_27, g_28, g_29, g_30, g_31, g_32⟩ := hQ_11
    have N_33 := Fr.app N0 N_26
    have C_34 : Steps p.tables e below S0 (T_8.setTop (mkF m 9 #[.val (.ref x), .val (.ref b)] [])) := by
      refine C_9.trans ?_
      refine st_8.trans ?_
      exact Steps.refl _
    have K_35 : Keep h0 T_8.heap [x] := ((Keep.refl _ _).trans K_27 (allS (Or.inl (List.mem_of_getElem? (i := 0) rfl)) all0))
    obtain ⟨fs, hr, hrun, hended, hW, hsame⟩ := X_8.leave (v := none) (fun _ => rfl)
    refine ⟨_, _, C_34.trans (X_8.returnOut hx Bd.returns (hb hby d1_9) hr), hrun, hended, _, _, rfl, ?_, ⟨_, rfl⟩, hW, hsame.mono (by decide) (by decide)⟩
    show Q_si1u_3 Z G1 x b k c0 c1 c2 h0 n0 (none) T_8.heap _
    exact Or.inr (⟨a_24, k_25, rfl, N_33, K_35, g_28, g_29, g_30, (Nat.le_trans (Nat.le_refl _) g_31), g_32⟩)
abbrev M247 : MethodName := ⟨"java/lang/StringLatin1", "canEncode", "(C)Z"⟩
theorem pn_248 : plainName "java/lang/StringLatin1" = true := by first | (simp [plainName, overriddenIn]; done) | decide +kernel
theorem d10_0 : decode jdk_43_method_3_code 0 = .ok (.iload_n 0, 1) := by decide +kernel
theorem d10_1 : decode jdk_43_method_3_code 1 = .ok (.sipush 255, 3) := by decide +kernel
theorem d10_4 : decode jdk_43_method_3_code 4 = .ok (.if_icmp .gt 7, 3) := by decide +kernel
theorem d10_11 : decode jdk_43_method_3_code 11 = .ok (.iconst 0, 1) := by decide +kernel
theorem d10_12 : decode jdk_43_method_3_code 12 = .ok (.ireturn, 1) := by decide +kernel
theorem d10_7 : decode jdk_43_method_3_code 7 = .ok (.iconst 1, 1) := by decide +kernel
theorem d10_8 : decode jdk_43_method_3_code 8 = .ok (.goto 4, 3) := by decide +kernel
abbrev R_canenc : Room := { frames := 0, cells := 0, slots := 0, locals := 0 }
def Q_canenc (Z : State) (G1 : Int32) (cc : Int32) (h0 : Heap) (n0 : Nat) (v : Option Value) (h : Heap) (L : List Loc) : Prop := (v = some (.int (1 : Int32)) ∧ Fr n0 L ∧ h = h0 ∧ (¬ ((255 : Int32) < cc))) ∨ (v = some (.int (0 : Int32)) ∧ Fr n0 L ∧ h = h0 ∧ ((255 : Int32) < cc))
set_option maxRecDepth 65536 in
set_option maxHeartbeats 40000000 in
theorem rm_canenc (l : Launch) (Z : State) (a0 : Array Value) (hw : ∀ d ∈ tables_1, d.before a0 Z = true) (ws : List Jvm.Cond) (G1 : Int32) (HG : own_G l Z a0 G1) (h0 : Heap) (n0 : Nat) (X00 : Old Z n0 h0) (cc : Int32)  :
    own_CP l Z M247 jdk_43_method_3_code 1 (some .boolean) ws R_canenc #[(.int cc)] h0 (Q_canenc Z G1 cc h0 n0) := by
  refine own_P (plainFor_of_name pn_248) ?_
  intro p e s m below meth c s₁ S0 Bd hZ hh hx hby hml hown hnm X0 e0 hS0d
  obtain ⟨O1, P1, OAD, OHI, OLO⟩ := id HG
  have N0 := Fr.nil n0
  have C0 : Steps p.tables e below S0 (s₁.setTop (mkF m 0 #[.val (.int cc)] [])) := by rw [hS0d]; exact castTop (ef_41 m cc) (Steps.refl _)
  have C_1 : Steps p.tables e below S0 (s₁.setTop (mkF m 4 #[.val (.int cc)] [(.int (255 : Int32)), (.int cc)])) := by
    refine C0.trans ?_
    refine XS.iloadN X0.here hx rfl (hb hby d10_0) rfl ?_
    refine XS.sipush X0.here hx rfl (hb hby d10_1) ?_
    exact Steps.refl _
  by_cases hc_2 : (255 : Int32) < cc
  · skip
    have C_3 : Steps p.tables e below S0 (s₁.setTop (mkF m 12 #[.val (.int cc)] [(.int (0 : Int32))])) := by
      refine C_1.trans ?_
      refine XS.icmpYes X0.here hx rfl (pc0 := 4) (pc' := 11) rfl (hb hby d10_4) rfl (ii_gt_t hc_2) (by decide) (by decide) ?_
      refine XS.iconst X0.here hx rfl (hb hby d10_11) ?_
      exact Steps.refl _
    obtain ⟨fs, hr, hrun, hended, hW, hsame⟩ := X0.leave (v := some (.int (0 : Int32))) (fun h => by rw [Bd.returns] at h; cases h)
    refine ⟨_, _, C_3.trans (retN X0 hx (t := .boolean) Bd.returns (by simp) (hb hby d10_12) hr), hrun, hended, _, _, rfl, ?_, ⟨_, rfl⟩, hW, hsame.mono (by decide) (by decide)⟩
    show Q_canenc Z G1 cc h0 n0 (some (.int (0 : Int32))) s₁.heap _
    rw [e0]
    exact Or.inr (⟨rfl, N0, rfl, hc_2⟩)
  · skip
    have C_4 : Steps p.tables e below S0 (s₁.setTop (mkF m 12 #[.val (.int cc)] [(.int (1 : Int32))])) := by
      refine C_1.trans ?_
      refine XS.icmpNo X0.here hx rfl (hb hby d10_4) rfl (ii_gt_f hc_2) ?_
      refine XS.iconst X0.here hx rfl (hb hby d10_7) ?_
      refine XS.goto X0.here hx rfl (pc0 := 8) (pc' := 12) rfl (hb hby d10_8) (by decide) (by decide) ?_
      exact Steps.refl _
    obtain ⟨fs, hr, hrun, hended, hW, hsame⟩ := X0.leave (v := some (.int (1 : Int32))) (fun h => by rw [Bd.returns] at h; cases h)
    refine ⟨_, _, C_4.trans (retN X0 hx (t := .boolean) Bd.returns (by simp) (hb hby d10_12) hr), hrun, hended, _, _, rfl, ?_, ⟨_, rfl⟩, hW, hsame.mono (by decide) (by decide)⟩
    show Q_canenc Z G1 cc h0 n0 (some (.int (1 : Int32))) s₁.heap _
    rw [e0]
    exact Or.inl ⟨rfl, N0, rfl, hc_2⟩
abbrev M256 : MethodName := ⟨"java/lang/StringLatin1", "toBytes", "(C)[B"⟩
theorem d11_0 : decode jdk_43_method_46_code 0 = .ok (.iconst 1, 1) := by decide +kernel
theorem d11_1 : decode jdk_43_method_46_code 1 = .ok (.newarray .byte, 2) := by decide +kernel
theorem d11_3 : decode jdk_43_method_46_code 3 = .ok (.dup, 1) := by decide +kernel
theorem d11_4 : decode jdk_43_method_46_code 4 = .ok (.iconst 0, 1) := by decide +kernel
theorem d11_5 : decode jdk_43_method_46_code 5 = .ok (.iload_n 0, 1) := by decide +kernel
theorem d11_6 : decode jdk_43_method_46_code 6 = .ok (.i2b, 1) := by decide +kernel
theorem d11_7 : decode jdk_43_method_46_code 7 = .ok (.bastore, 1) := by decide +kernel
theorem d11_8 : decode jdk_43_method_46_code 8 = .ok (.areturn, 1) := by decide +kernel
abbrev R_ltob : Room := { frames := 0, cells := 1, slots := 1, locals := 0 }
def Q_ltob (Z : State) (G1 : Int32) (cc : Int32) (h0 : Heap) (n0 : Nat) (v : Option Value) (h : Heap) (L : List Loc) : Prop := (∃ t : Addr, ∃ kt : ClassId, v = some (.ref t) ∧ Fr n0 L ∧ Keep h0 h [] ∧ (h0.size ≤ t) ∧ (Arv Z h t kt .byte (1 : Int32) [(.int (own_lo8 cc))] (.int (0 : Int32))))
set_option maxRecDepth 65536 in
set_option maxHeartbeats 40000000 in
theorem rm_ltob (l : Launch) (Z : State) (a0 : Array Value) (hw : ∀ d ∈ tables_1, d.before a0 Z = true) (ws : List Jvm.Cond) (G1 : Int32) (HG : own_G l Z a0 G1) (h0 : Heap) (n0 : Nat) (X00 : Old Z n0 h0) (cc : Int32)  :
    own_CP l Z M256 jdk_43_method_46_code 1 (some (.array .byte)) ws R_ltob #[(.int cc)] h0 (Q_ltob Z G1 cc h0 n0) := by
  refine own_P (plainFor_of_name pn_248) ?_
  intro p e s m below meth c s₁ S0 Bd hZ hh hx hby hml hown hnm X0 e0 hS0d
  obtain ⟨O1, P1, OAD, OHI, OLO⟩ := id HG
  have N0 := Fr.nil n0
  have C0 : Steps p.tables e below S0 (s₁.setTop (mkF m 0 #[.val (.int cc)] [])) := by rw [hS0d]; exact castTop (ef_41 m cc) (Steps.refl _)
  obtain ⟨T_1, h_2, k_3, X_4, e_5, E_6, A_7, st_8⟩ := newP (aty := .byte) X0 hx hZ (w20 hw) e0 (g := (mkF m 1 #[.val (.int cc)] [(.int (1 : Int32))])) rfl (hb hby d11_1) rfl (by decide : ¬ ((1 : Int32) < (0 : Int32))) (cap := 1) (by decide : (1 : Int32).toNatClampNeg ≤ 1) (by decide) (by decide) (by decide)
  obtain ⟨a_9, g_10⟩ : ∃ z, z = h0.size := ⟨_, rfl⟩
  rw [← g_10] at A_7 st_8
  have V_12 : Arv Z h_2 a_9 k_3 .byte (1 : Int32) [] (.int (0 : Int32)) := Arv.new A_7 (by decide : ¬ ((1 : Int32) < (0 : Int32)))
  have V_11 : Arv Z h_2 a_9 k_3 .byte (1 : Int32) [(.int (0 : Int32))] (.int (0 : Int32)) := (V_12.pad (pad_rep [] (.int (0 : Int32)) 1))
  obtain ⟨c_13, A_14, q_15, S_16, M_17, H_18, U_19⟩ := id V_11
  have hin_26 : ¬ ((0 : Int32) < 0 ∨ c_13.slots.size ≤ (0 : Int32).toNatClampNeg) := inb_of S_16 ⟨(by decide : ¬ ((0 : Int32) < (0 : Int32))), (by decide : (0 : Int32) < (1 : Int32))⟩
  obtain ⟨T_20, h_21, X_22, e_23, W_24, st_25⟩ := stB X_4 hx hZ e_5 A_14 (j := (0 : Int32)) hin_26 (g := (mkF m 7 #[.val (.int cc)] [(.int (cc.toInt8.toInt32)), (.int (0 : Int32)), (.ref a_9), (.ref a_9)])) rfl rfl (hb hby d11_7)
  have N_27 := Fr.snoc X_22 N0 (Nat.le_trans (own_n0 X00) (Nat.le_of_eq g_10.symm))
  have V_28 : Arv Z h_21 a_9 k_3 .byte (1 : Int32) [(.int (own_lo8 cc))] (.int (0 : Int32)) := Arv.set A_14 q_15 S_16 M_17 H_18 U_19 (fits_nar_byte _) W_24 0 rfl (Nat.le_of_ble_eq_true rfl)
  have C_29 : Steps p.tables e below S0 (T_20.setTop (mkF m 8 #[.val (.int cc)] [(.ref a_9)])) := by
    refine C0.trans ?_
    refine XS.iconst X0.here hx rfl (hb hby d11_0) ?_
    refine st_8 _ ?_
    refine XS.dup X_4.here hx rfl (hb hby d11_3) rfl rfl ?_
    refine XS.iconst X_4.here hx rfl (hb hby d11_4) ?_
    refine XS.iloadN X_4.here hx rfl (hb hby d11_5) rfl ?_
    refine XS.i2b X_4.here hx rfl (hb hby d11_6) rfl ?_
    refine st_25 _ ?_
    exact Steps.refl _
  have K_30 : Keep h0 h_21 [] := (((Keep.refl _ _).ext E_6).wr W_24 (Or.inr (Nat.le_trans (Nat.le_refl _) (Nat.le_of_eq g_10.symm))))
  obtain ⟨fs, hr, hrun, hended, hW, hsame⟩ := X_22.leave (v := some (.ref a_9)) (fun h => by rw [Bd.returns] at h; cases h)
  refine ⟨_, _, C_29.trans (retOut X_22 hx Bd.returns rfl (Or.inr (Or.inr (Or.inr (Or.inr ⟨rfl, rfl, rfl⟩)))) (hb hby d11_8) hr), hrun, hended, _, _, rfl, ?_, ⟨_, rfl⟩, hW, hsame.mono (by decide) (by decide)⟩
  show Q_ltob Z G1 cc h0 n0 (some (.ref a_9)) T_20.heap _
  rw [e_23]
  exact ⟨a_9, k_3, rfl, N_27, K_30, (Nat.le_trans (Nat.le_refl _) (Nat.le_of_eq g_10.symm)), V_28⟩
abbrev R_put_1_0 : Room := { frames := 0, cells := 0, slots := 0, locals := 0 }
def Q_put_1_0 (Z : State) (G1 : Int32) (t : Addr) (kt : ClassId) (cc : Int32) (y0 : Int32) (y1 : Int32) (h0 : Heap) (n0 : Nat) (v : Option Value) (h : Heap) (L : List Loc) : Prop := (v = none ∧ Fr n0 L ∧ Keep h0 h [t] ∧ (Arv Z h t kt .byte (2 : Int32) [(.int (own_lo8z cc)), (.int (own_hi8 cc))] (.int (0 : Int32))))
set_option maxRecDepth 65536 in
set_option maxHeartbeats 40000000 in
theorem rm_put_1_0 (l : Launch) (Z : State) (a0 : Array Value) (hw : ∀ d ∈ tables_1, d.before a0 Z = true) (ws : List Jvm.Cond) (G1 : Int32) (HG : own_G l Z a0 G1) (h0 : Heap) (n0 : Nat) (X00 : Old Z n0 h0) (t : Addr) (kt : ClassId) (cc : Int32) (y0 : Int32) (y1 : Int32) (hp0 : Arv Z h0 t kt .byte (2 : Int32) [(.int y0), (.int y1)] (.int (0 : Int32))) (hp1 : n0 ≤ t) :
    own_CP l Z M64 jdk_52_method_4_code 3 none ws R_put_1_0 #[(.ref t), (.int (0 : Int32)), (.int cc)] h0 (Q_put_1_0 Z G1 t kt cc y0 y1 h0 n0) := by
  refine own_P (plainFor_of_name pn_42) ?_
  intro p e s m below meth c s₁ S0 Bd hZ hh hx hby hml hown hnm X0 e0 hS0d
  obtain ⟨O1, P1, OAD, OHI, OLO⟩ := id HG
  have N0 := Fr.nil n0
  have C0 : Steps p.tables e below S0 (s₁.setTop (mkF m 0 #[.val (.ref t), .val (.int (0 : Int32)), .val (.int cc)] [])) := by rw [hS0d]; exact castTop (ef_65 m t (0 : Int32) cc) (Steps.refl _)
  obtain ⟨T_1, X_2, e_3, st_4⟩ := getS X0 hx hZ (host := "") hown (w89 hw) Via.refl e0 (OAD.ext X00.2) (g := (mkF m 0 #[.val (.ref t), .val (.int (0 : Int32)), .val (.int cc)] [])) rfl (hb hby d4_0)
  obtain ⟨T_5, X_6, e_7, st_8⟩ := getS X_2 hx hZ (host := "") hown (w90 hw) Via.refl e_3 (OHI.ext X00.2) (g := (mkF m 38 #[.val (.ref t), .val (.int (1 : Int32)), .val (.int cc)] [(.int cc), (.int (0 : Int32)), (.ref t)])) rfl (hb hby d4_38)
  obtain ⟨c_9, A_10, q_11, S_12, M_13, H_14, U_15⟩ := id hp0
  have hin_22 : ¬ ((0 : Int32) < 0 ∨ c_9.slots.size ≤ (0 : Int32).toNatClampNeg) := inb_of S_12 ⟨(by decide : ¬ ((0 : Int32) < (0 : Int32))), (by decide : (0 : Int32) < (2 : Int32))⟩
  obtain ⟨T_16, h_17, X_18, e_19, W_20, st_21⟩ := stB X_6 hx hZ e_7 A_10 (j := (0 : Int32)) hin_22 (g := (mkF m 43 #[.val (.ref t), .val (.int (1 : Int32)), .val (.int cc)] [(.int ((cc >>> ((0 : Int32) &&& 31)).toInt8.toInt32)), (.int (0 : Int32)), (.ref t)])) rfl rfl (hb hby d4_43)
  have N_23 := Fr.snoc X_18 N0 hp1
  have V_24 : Arv Z h_17 t kt .byte (2 : Int32) [(.int (own_lo8z cc)), (.int y1)] (.int (0 : Int32)) := Arv.set A_10 q_11 S_12 M_13 H_14 U_15 (fits_nar_byte _) W_20 0 rfl (Nat.le_of_ble_eq_true rfl)
  have O_29 : Old Z n0 h_17 := (X00.wr W_20 hp1)
  obtain ⟨T_25, X_26, e_27, st_28⟩ := getS X_18 hx hZ (host := "") hown (w91 hw) Via.refl e_19 (OLO.ext O_29.2) (g := (mkF m 47 #[.val (.ref t), .val (.int (1 : Int32)), .val (.int cc)] [(.int cc), (.int (1 : Int32)), (.ref t)])) rfl (hb hby d4_47)
  obtain ⟨c_30, A_31, q_32, S_33, M_34, H_35, U_36⟩ := id V_24
  have hin_43 : ¬ ((1 : Int32) < 0 ∨ c_30.slots.size ≤ (1 : Int32).toNatClampNeg) := inb_of S_33 ⟨(by decide : ¬ ((1 : Int32) < (0 : Int32))), (by decide : (1 : Int32) < (2 : Int32))⟩
  obtain ⟨T_37, h_38, X_39, e_40, W_41, st_42⟩ := stB X_26 hx hZ e_27 A_31 (j := (1 : Int32)) hin_43 (g := (mkF m 52 #[.val (.ref t), .val (.int (1 : Int32)), .val (.int cc)] [(.int ((cc >>> ((8 : Int32) &&& 31)).toInt8.toInt32)), (.int (1 : Int32)), (.ref t)])) rfl rfl (hb hby d4_52)
  have N_44 := Fr.snoc X_39 N_23 hp1
  have V_45 : Arv Z h_38 t kt .byte (2 : Int32) [(.int (own_lo8z cc)), (.int (own_hi8 cc))] (.int (0 : Int32)) := Arv.set A_31 q_32 S_33 M_34 H_35 U_36 (fits_nar_byte _) W_41 1 rfl (Nat.le_of_ble_eq_true rfl)
  have C_46 : Steps p.tables e below S0 (T_37.setTop (mkF m 53 #[.val (.ref t), .val (.int (1 : Int32)), .val (.int cc)] [])) := by
    refine C0.trans ?_
    refine st_4 _ ?_
    refine XS.ifYes X_2.here hx rfl (pc0 := 3) (pc' := 28) rfl (hb hby d4_3) rfl (by decide) (by decide) (by decide) ?_
    refine XS.iloadN X_2.here hx rfl (hb hby d4_28) rfl ?_
    refine XS.iconst X_2.here hx rfl (hb hby d4_29) ?_
    refine XS.ishl X_2.here hx rfl (hb hby d4_30) rfl ?_
    refine XS.istoreN X_2.here hx rfl (hb hby d4_31) rfl (l' := #[.val (.ref t), .val (.int (0 : Int32)), .val (.int cc)]) rfl ?_
    refine XS.aloadN X_2.here hx rfl (hb hby d4_32) rfl rfl ?_
    refine XS.iloadN X_2.here hx rfl (hb hby d4_33) rfl ?_
    show Steps p.tables e below (T_1.setTop (mkF m 34 #[.val (.ref t), .val (.int (0 : Int32)), .val (.int cc)] [(.int (0 : Int32)), (.ref t)])) _
    refine XS.iinc X_2.here hx rfl (hb hby d4_34) (x := (0 : Int32)) rfl (l' := #[.val (.ref t), .val (.int (1 : Int32)), .val (.int cc)]) rfl ?_
    refine XS.iloadN X_2.here hx rfl (hb hby d4_37) rfl ?_
    refine st_8 _ ?_
    refine XS.ishr X_6.here hx rfl (hb hby d4_41) rfl ?_
    refine XS.i2b X_6.here hx rfl (hb hby d4_42) rfl ?_
    refine st_21 _ ?_
    refine XS.aloadN X_18.here hx rfl (hb hby d4_44) rfl rfl ?_
    refine XS.iloadN X_18.here hx rfl (hb hby d4_45) rfl ?_
    show Steps p.tables e below (T_16.setTop (mkF m 46 #[.val (.ref t), .val (.int (1 : Int32)), .val (.int cc)] [(.int (1 : Int32)), (.ref t)])) _
    refine XS.iloadN X_18.here hx rfl (hb hby d4_46) rfl ?_
    refine st_28 _ ?_
    refine XS.ishr X_26.here hx rfl (hb hby d4_50) rfl ?_
    refine XS.i2b X_26.here hx rfl (hb hby d4_51) rfl ?_
    refine st_42 _ ?_
    exact Steps.refl _
  have K_47 : Keep h0 h_38 [t] := (((Keep.refl _ _).wr W_20 (Or.inl (List.mem_of_getElem? (i := 0) rfl))).wr W_41 (Or.inl (List.mem_of_getElem? (i := 0) rfl)))
  obtain ⟨fs, hr, hrun, hended, hW, hsame⟩ := X_39.leave (v := none) (fun _ => rfl)
  refine ⟨_, _, C_46.trans (X_39.returnOut hx Bd.returns (hb hby d4_53) hr), hrun, hended, _, _, rfl, ?_, ⟨_, rfl⟩, hW, hsame.mono (by decide) (by decide)⟩
  show Q_put_1_0 Z G1 t kt cc y0 y1 h0 n0 (none) T_37.heap _
  rw [e_40]
  exact ⟨rfl, N_44, K_47, V_45⟩
abbrev M265 : MethodName := ⟨"java/lang/StringUTF16", "toBytes", "(C)[B"⟩
theorem ef_266 (m : MethodId) (x0 : Int32) : entryFrame m #[(.int x0)] 2 = mkF m 0 #[.val (.int x0), .unset] [] := by first | (simp [entryFrame, mkF, argsToLocals, Value.category]; done) | rfl
theorem d12_0 : decode jdk_52_method_24_code 0 = .ok (.iconst 2, 1) := by decide +kernel
theorem d12_1 : decode jdk_52_method_24_code 1 = .ok (.newarray .byte, 2) := by decide +kernel
theorem d12_3 : decode jdk_52_method_24_code 3 = .ok (.astore_n 1, 1) := by decide +kernel
theorem d12_4 : decode jdk_52_method_24_code 4 = .ok (.aload_n 1, 1) := by decide +kernel
theorem d12_5 : decode jdk_52_method_24_code 5 = .ok (.iconst 0, 1) := by decide +kernel
theorem d12_6 : decode jdk_52_method_24_code 6 = .ok (.iload_n 0, 1) := by decide +kernel
theorem d12_7 : decode jdk_52_method_24_code 7 = .ok (.invokestatic 111, 3) := by decide +kernel
theorem d12_10 : decode jdk_52_method_24_code 10 = .ok (.aload_n 1, 1) := by decide +kernel
theorem d12_11 : decode jdk_52_method_24_code 11 = .ok (.areturn, 1) := by decide +kernel
abbrev R_utob : Room := { frames := 1, cells := 1, slots := 2, locals := 14 }
def Q_utob (Z : State) (G1 : Int32) (cc : Int32) (h0 : Heap) (n0 : Nat) (v : Option Value) (h : Heap) (L : List Loc) : Prop := (∃ t : Addr, ∃ kt : ClassId, v = some (.ref t) ∧ Fr n0 L ∧ Keep h0 h [] ∧ (h0.size ≤ t) ∧ (Arv Z h t kt .byte (2 : Int32) [(.int (own_lo8z cc)), (.int (own_hi8 cc))] (.int (0 : Int32))))
set_option maxRecDepth 65536 in
set_option maxHeartbeats 40000000 in
theorem rm_utob (l : Launch) (Z : State) (a0 : Array Value) (hw : ∀ d ∈ tables_1, d.before a0 Z = true) (ws : List Jvm.Cond) (G1 : Int32) (HG : own_G l Z a0 G1) (h0 : Heap) (n0 : Nat) (X00 : Old Z n0 h0) (cc : Int32)  :
    own_CP l Z M265 jdk_52_method_24_code 2 (some (.array .byte)) ws R_utob #[(.int cc)] h0 (Q_utob Z G1 cc h0 n0) := by
  refine own_P (plainFor_of_name pn_42) ?_
  intro p e s m below meth c s₁ S0 Bd hZ hh hx hby hml hown hnm X0 e0 hS0d
  obtain ⟨O1, P1, OAD, OHI, OLO⟩ := id HG
  have N0 := Fr.nil n0
  have C0 : Steps p.tables e below S0 (s₁.setTop (mkF m 0 #[.val (.int cc), .unset] [])) := by rw [hS0d]; exact castTop (ef_266 m cc) (Steps.refl _)
  obtain ⟨T_1, h_2, k_3, X_4, e_5, E_6, A_7, st_8⟩ := newP (aty := .byte) X0 hx hZ (w20 hw) e0 (g := (mkF m 1 #[.val (.int cc), .unset] [(.int (2 : Int32))])) rfl (hb hby d12_1) rfl (by decide : ¬ ((2 : Int32) < (0 : Int32))) (cap := 2) (by decide : (2 : Int32).toNatClampNeg ≤ 2) (by decide) (by decide) (by decide)
  obtain ⟨a_9, g_10⟩ : ∃ z, z = h0.size := ⟨_, rfl⟩
  rw [← g_10] at A_7 st_8
  have V_12 : Arv Z h_2 a_9 k_3 .byte (2 : Int32) [] (.int (0 : Int32)) := Arv.new A_7 (by decide : ¬ ((2 : Int32) < (0 : Int32)))
  have V_11 : Arv Z h_2 a_9 k_3 .byte (2 : Int32) [(.int (0 : Int32)), (.int (0 : Int32))] (.int (0 : Int32)) := (V_12.pad (pad_rep [] (.int (0 : Int32)) 2))
  have O_13 : Old Z n0 h_2 := (X00.ext E_6)
  obtain ⟨_, _, ⟨T_14, L_14, k_14, n_14⟩, -, X_14, ⟨Lc_14, hQ_14, l_14, y_14, z_14⟩, st_14⟩ := Jvm.LawKit.callS X_4 hx (y := M64) hown (mvT hZ (w86 hw)) (mvT hZ (w87 hw)) (mvT hZ (w68 hw)) (mvT hZ (w88 hw)) (by decide) (backOf (W := 0) (rm_put_1_0 l Z a0 hw [] G1 HG h_2 n0 O_13 a_9 k_3 cc (0 : Int32) (0 : Int32) V_11 (Nat.le_trans (own_n0 X00) (Nat.le_of_eq g_10.symm))) hZ (w88 hw) (w68 hw) (by decide) (by decide)) (g := (mkF m 7 #[.val (.int cc), .val (.ref a_9)] [(.int cc), (.int (0 : Int32)), (.ref a_9)])) rfl (by rw [hml]; rfl) (argsL := [(.ref a_9), (.int (0 : Int32)), (.int cc)]) (rest := []) (lenOf pd_111 rfl) rfl (by show 2 * 0 + _ ≤ _; exact Nat.le_of_eq rfl) (hb hby d12_7) (fun _ _ => ⟨rfl, e_5, (by decide : 1 + 0 ≤ _), (by decide : 2 + 0 ≤ _)⟩)
  dsimp only [Pt.U, Pt.locs, Pt.cells, Pt.slots] at X_14 l_14 y_14 z_14 st_14 hQ_14
  subst l_14 y_14 z_14
  obtain ⟨rfl, N_15, K_16, g_17⟩ := hQ_14
  have N_18 := Fr.app N0 N_15
  have C_19 : Steps p.tables e below S0 (T_14.setTop (mkF m 11 #[.val (.int cc), .val (.ref a_9)] [(.ref a_9)])) := by
    refine C0.trans ?_
    refine XS.iconst X0.here hx rfl (hb hby d12_0) ?_
    refine st_8 _ ?_
    refine XS.astoreN X_4.here hx rfl (hb hby d12_3) rfl rfl (l' := #[.val (.int cc), .val (.ref a_9)]) rfl ?_
    refine XS.aloadN X_4.here hx rfl (hb hby d12_4) rfl rfl ?_
    refine XS.iconst X_4.here hx rfl (hb hby d12_5) ?_
    refine XS.iloadN X_4.here hx rfl (hb hby d12_6) rfl ?_
    refine st_14 _ ?_
    refine XS.aloadN X_14.here hx rfl (hb hby d12_10) rfl rfl ?_
    show Steps p.tables e below (T_14.setTop (mkF m 11 #[.val (.int cc), .val (.ref a_9)] [(.ref a_9)])) _
    exact Steps.refl _
  have K_20 : Keep h0 T_14.heap [] := (((Keep.refl _ _).ext E_6).trans K_16 (allS (Or.inr (Nat.le_trans (Nat.le_refl _) (Nat.le_of_eq g_10.symm))) all0))
  obtain ⟨fs, hr, hrun, hended, hW, hsame⟩ := X_14.leave (v := some (.ref a_9)) (fun h => by rw [Bd.returns] at h; cases h)
  refine ⟨_, _, C_19.trans (retOut X_14 hx Bd.returns rfl (Or.inr (Or.inr (Or.inr (Or.inr ⟨rfl, rfl, rfl⟩)))) (hb hby d12_11) hr), hrun, hended, _, _, rfl, ?_, ⟨_, rfl⟩, hW, hsame.mono (by decide) (by decide)⟩
  show Q_utob Z G1 cc h0 n0 (some (.ref a_9)) T_14.heap _
  exact ⟨a_9, k_3, rfl, N_18, K_20, (Nat.le_trans (Nat.le_refl _) (Nat.le_of_eq g_10.symm)), g_17⟩
abbrev M276 : MethodName := ⟨"java/lang/String", "<init>", "([BB)V"⟩
theorem ef_277 (m : MethodId) (x0 : Addr) (x1 : Addr) (x2 : Int32) : entryFrame m #[(.ref x0), (.ref x1), (.int x2)] 3 = mkF m 0 #[.val (.ref x0), .val (.ref x1), .val (.int x2)] [] := by first | (simp [entryFrame, mkF, argsToLocals, Value.category]; done) | rfl
theorem d13_0 : decode jdk_42_method_151_code 0 = .ok (.aload_n 0, 1) := by decide +kernel
theorem d13_1 : decode jdk_42_method_151_code 1 = .ok (.invokespecial 1, 3) := by decide +kernel
theorem d13_4 : decode jdk_42_method_151_code 4 = .ok (.aload_n 0, 1) := by decide +kernel
theorem d13_5 : decode jdk_42_method_151_code 5 = .ok (.aload_n 1, 1) := by decide +kernel
theorem d13_6 : decode jdk_42_method_151_code 6 = .ok (.putfield 9, 3) := by decide +kernel
theorem d13_9 : decode jdk_42_method_151_code 9 = .ok (.aload_n 0, 1) := by decide +kernel
theorem d13_10 : decode jdk_42_method_151_code 10 = .ok (.iload_n 2, 1) := by decide +kernel
theorem d13_11 : decode jdk_42_method_151_code 11 = .ok (.putfield 15, 3) := by decide +kernel
theorem d13_14 : decode jdk_42_method_151_code 14 = .ok (.return_, 1) := by decide +kernel
abbrev R_sbb_0 : Room := { frames := 1, cells := 0, slots := 0, locals := 12 }
def Q_sbb_0 (Z : State) (G1 : Int32) (x : Addr) (t : Addr) (h0 : Heap) (n0 : Nat) (v : Option Value) (h : Heap) (L : List Loc) : Prop := (v = none ∧ Fr n0 L ∧ Keep h0 h [x] ∧ (Exa Z h x "java/lang/String") ∧ (Fld Z h x "java/lang/String" "coder" "B" (.int (0 : Int32))) ∧ (Fld Z h x "java/lang/String" "value" "[B" (.ref t)))
set_option maxRecDepth 65536 in
set_option maxHeartbeats 40000000 in
theorem rm_sbb_0 (l : Launch) (Z : State) (a0 : Array Value) (hw : ∀ d ∈ tables_1, d.before a0 Z = true) (ws : List Jvm.Cond) (G1 : Int32) (HG : own_G l Z a0 G1) (h0 : Heap) (n0 : Nat) (X00 : Old Z n0 h0) (x : Addr) (t : Addr) (hp0 : Exa Z h0 x "java/lang/String") (hp1 : Fld Z h0 x "java/lang/String" "value" "[B" .null) (hp2 : Fld Z h0 x "java/lang/String" "coder" "B" (.int (0 : Int32))) (hp3 : n0 ≤ x) :
    own_CP l Z M276 jdk_42_method_151_code 3 none ws R_sbb_0 #[(.ref x), (.ref t), (.int (0 : Int32))] h0 (Q_sbb_0 Z G1 x t h0 n0) := by
  refine own_P (plainFor_of_name pn_2) ?_
  intro p e s m below meth c s₁ S0 Bd hZ hh hx hby hml hown hnm X0 e0 hS0d
  obtain ⟨O1, P1, OAD, OHI, OLO⟩ := id HG
  have N0 := Fr.nil n0
  have C0 : Steps p.tables e below S0 (s₁.setTop (mkF m 0 #[.val (.ref x), .val (.ref t), .val (.int (0 : Int32))] [])) := by rw [hS0d]; exact castTop (ef_277 m x t (0 : Int32)) (Steps.refl _)
  obtain ⟨T_1, X_2, e_3, st_4⟩ := initO X0 hx hZ hown (w16 hw) (w17 hw) (w18 hw) e0 (g := (mkF m 1 #[.val (.ref x), .val (.ref t), .val (.int (0 : Int32))] [(.ref x)])) rfl (by rw [hml]; rfl) rfl (hb hby d13_1) (by decide) (W := 0) (by show 2 * 0 + _ ≤ _; exact Nat.le_of_eq rfl) (by decide)
  obtain ⟨T_5, h_6, X_7, e_8, W_9, st_10⟩ := putF X_2 hx hZ hown (host := "") (Or.inl (w25 hw)) Via.refl e_3 hp1 hp0 (Or.inr ⟨(w21 hw), rfl, hnm⟩) (w6 hw) (ty := (.array .byte)) (by decide) rfl rfl (g := (mkF m 6 #[.val (.ref x), .val (.ref t), .val (.int (0 : Int32))] [(.ref t), (.ref x)])) rfl rfl (hb hby d13_6)
  have N_11 := Fr.snoc X_7 N0 hp3
  have F_12 : Fld Z h_6 x "java/lang/String" "value" "[B" (.ref t) := hp1.same W_9
  have F_13 : Fld Z h_6 x "java/lang/String" "coder" "B" (.int (0 : Int32)) := (hp2.other W_9 (Or.inr (slot_ne (Or.inr (w22 hw)) (Or.inr (w21 hw)) (by decide) (t := .byte) (by decide) (t' := (.array .byte)) (by decide))))
  have E_14 : Exa Z h_6 x "java/lang/String" := (hp0.wr W_9)
  obtain ⟨T_15, h_16, X_17, e_18, W_19, st_20⟩ := putF X_7 hx hZ hown (host := "") (Or.inl (w26 hw)) Via.refl e_8 F_13 E_14 (Or.inr ⟨(w22 hw), rfl, hnm⟩) (w6 hw) (ty := .byte) (by decide) rfl (by decide) (g := (mkF m 11 #[.val (.ref x), .val (.ref t), .val (.int (0 : Int32))] [(.int (0 : Int32)), (.ref x)])) rfl rfl (hb hby d13_11)
  have N_21 := Fr.snoc X_17 N_11 hp3
  have F_22 : Fld Z h_16 x "java/lang/String" "coder" "B" (.int (0 : Int32)) := F_13.same W_19
  have C_23 : Steps p.tables e below S0 (T_15.setTop (mkF m 14 #[.val (.ref x), .val (.ref t), .val (.int (0 : Int32))] [])) := by
    refine C0.trans ?_
    refine XS.aloadN X0.here hx rfl (hb hby d13_0) rfl rfl ?_
    refine st_4 _ ?_
    refine XS.aloadN X_2.here hx rfl (hb hby d13_4) rfl rfl ?_
    refine XS.aloadN X_2.here hx rfl (hb hby d13_5) rfl rfl ?_
    refine st_10 _ ?_
    refine XS.aloadN X_7.here hx rfl (hb hby d13_9) rfl rfl ?_
    refine XS.iloadN X_7.here hx rfl (hb hby d13_10) rfl ?_
    refine st_20 _ ?_
    show Steps p.tables e below (T_15.setTop (mkF m 14 #[.val (.ref x), .val (.ref t), .val (.int (0 : Int32))] [])) _
    exact Steps.refl _
  have E_24 : Exa Z h_16 x "java/lang/String" := (E_14.wr W_19)
  have F_25 : Fld Z h_16 x "java/lang/String" "value" "[B" (.ref t) := (F_12.other W_19 (Or.inr (slot_ne (Or.inr (w21 hw)) (Or.inr (w22 hw)) (by decide) (t := (.array .byte)) (by decide) (t' := .byte) (by decide))))
  have K_26 : Keep h0 h_16 [x] := (((Keep.refl _ _).wr W_9 (Or.inl (List.mem_of_getElem? (i := 0) rfl))).wr W_19 (Or.inl (List.mem_of_getElem? (i := 0) rfl)))
  obtain ⟨fs, hr, hrun, hended, hW, hsame⟩ := X_17.leave (v := none) (fun _ => rfl)
  refine ⟨_, _, C_23.trans (X_17.returnOut hx Bd.returns (hb hby d13_14) hr), hrun, hended, _, _, rfl, ?_, ⟨_, rfl⟩, hW, hsame.mono (by decide) (by decide)⟩
  show Q_sbb_0 Z G1 x t h0 n0 (none) T_15.heap _
  rw [e_18]
  exact ⟨rfl, N_21, K_26, E_24, F_22, F_25⟩
abbrev R_sbb_1 : Room := { frames := 1, cells := 0, slots := 0, locals := 12 }
def Q_sbb_1 (Z : State) (G1 : Int32) (x : Addr) (t : Addr) (h0 : Heap) (n0 : Nat) (v : Option Value) (h : Heap) (L : List Loc) : Prop := (v = none ∧ Fr n0 L ∧ Keep h0 h [x] ∧ (Exa Z h x "java/lang/String") ∧ (Fld Z h x "java/lang/String" "coder" "B" (.int (1 : Int32))) ∧ (Fld Z h x "java/lang/String" "value" "[B" (.ref t)))
set_option maxRecDepth 65536 in
set_option maxHeartbeats 40000000 in
theorem rm_sbb_1 (l : Launch) (Z : State) (a0 : Array Value) (hw : ∀ d ∈ tables_1, d.before a0 Z = true) (ws : List Jvm.Cond) (G1 : Int32) (HG : own_G l Z a0 G1) (h0 : Heap) (n0 : Nat) (X00 : Old Z n0 h0) (x : Addr) (t : Addr) (hp0 : Exa Z h0 x "java/lang/String") (hp1 : Fld Z h0 x "java/lang/String" "value" "[B" .null) (hp2 : Fld Z h0 x "java/lang/String" "coder" "B" (.int (0 : Int32))) (hp3 : n0 ≤ x) :
    own_CP l Z M276 jdk_42_method_151_code 3 none ws R_sbb_1 #[(.ref x), (.ref t), (.int (1 : Int32))] h0 (Q_sbb_1 Z G1 x t h0 n0) := by
  refine own_P (plainFor_of_name pn_2) ?_
  intro p e s m below meth c s₁ S0 Bd hZ hh hx hby hml hown hnm X0 e0 hS0d
  obtain ⟨O1, P1, OAD, OHI, OLO⟩ := id HG
  have N0 := Fr.nil n0
  have C0 : Steps p.tables e below S0 (s₁.setTop (mkF m 0 #[.val (.ref x), .val (.ref t), .val (.int (1 : Int32))] [])) := by rw [hS0d]; exact castTop (ef_277 m x t (1 : Int32)) (Steps.refl _)
  obtain ⟨T_1, X_2, e_3, st_4⟩ := initO X0 hx hZ hown (w16 hw) (w17 hw) (w18 hw) e0 (g := (mkF m 1 #[.val (.ref x), .val (.ref t), .val (.int (1 : Int32))] [(.ref x)])) rfl (by rw [hml]; rfl) rfl (hb hby d13_1) (by decide) (W := 0) (by show 2 * 0 + _ ≤ _; exact Nat.le_of_eq rfl) (by decide)
  obtain ⟨T_5, h_6, X_7, e_8, W_9, st_10⟩ := putF X_2 hx hZ hown (host := "") (Or.inl (w25 hw)) Via.refl e_3 hp1 hp0 (Or.inr ⟨(w21 hw), rfl, hnm⟩) (w6 hw) (ty := (.array .byte)) (by decide) rfl rfl (g := (mkF m 6 #[.val (.ref x), .val (.ref t), .val (.int (1 : Int32))] [(.ref t), (.ref x)])) rfl rfl (hb hby d13_6)
  have N_11 := Fr.snoc X_7 N0 hp3
  have F_12 : Fld Z h_6 x "java/lang/String" "value" "[B" (.ref t) := hp1.same W_9
  have F_13 : Fld Z h_6 x "java/lang/String" "coder" "B" (.int (0 : Int32)) := (hp2.other W_9 (Or.inr (slot_ne (Or.inr (w22 hw)) (Or.inr (w21 hw)) (by decide) (t := .byte) (by decide) (t' := (.array .byte)) (by decide))))
  have E_14 : Exa Z h_6 x "java/lang/String" := (hp0.wr W_9)
  obtain ⟨T_15, h_16, X_17, e_18, W_19, st_20⟩ := putF X_7 hx hZ hown (host := "") (Or.inl (w26 hw)) Via.refl e_8 F_13 E_14 (Or.inr ⟨(w22 hw), rfl, hnm⟩) (w6 hw) (ty := .byte) (by decide) rfl (by decide) (g := (mkF m 11 #[.val (.ref x), .val (.ref t), .val (.int (1 : Int32))] [(.int (1 : Int32)), (.ref x)])) rfl rfl (hb hby d13_11)
  have N_21 := Fr.snoc X_17 N_11 hp3
  have F_22 : Fld Z h_16 x "java/lang/String" "coder" "B" (.int (1 : Int32)) := F_13.same W_19
  have C_23 : Steps p.tables e below S0 (T_15.setTop (mkF m 14 #[.val (.ref x), .val (.ref t), .val (.int (1 : Int32))] [])) := by
    refine C0.trans ?_
    refine XS.aloadN X0.here hx rfl (hb hby d13_0) rfl rfl ?_
    refine st_4 _ ?_
    refine XS.aloadN X_2.here hx rfl (hb hby d13_4) rfl rfl ?_
    refine XS.aloadN X_2.here hx rfl (hb hby d13_5) rfl rfl ?_
    refine st_10 _ ?_
    refine XS.aloadN X_7.here hx rfl (hb hby d13_9) rfl rfl ?_
    refine XS.iloadN X_7.here hx rfl (hb hby d13_10) rfl ?_
    refine st_20 _ ?_
    show Steps p.tables e below (T_15.setTop (mkF m 14 #[.val (.ref x), .val (.ref t), .val (.int (1 : Int32))] [])) _
    exact Steps.refl _
  have E_24 : Exa Z h_16 x "java/lang/String" := (E_14.wr W_19)
  have F_25 : Fld Z h_16 x "java/lang/String" "value" "[B" (.ref t) := (F_12.other W_19 (Or.inr (slot_ne (Or.inr (w21 hw)) (Or.inr (w22 hw)) (by decide) (t := (.array .byte)) (by decide) (t' := .byte) (by decide))))
  have K_26 : Keep h0 h_16 [x] := (((Keep.refl _ _).wr W_9 (Or.inl (List.mem_of_getElem? (i := 0) rfl))).wr W_19 (Or.inl (List.mem_of_getElem? (i := 0) rfl)))
  obtain ⟨fs, hr, hrun, hended, hW, hsame⟩ := X_17.leave (v := none) (fun _ => rfl)
  refine ⟨_, _, C_23.trans (X_17.returnOut hx Bd.returns (hb hby d13_14) hr), hrun, hended, _, _, rfl, ?_, ⟨_, rfl⟩, hW, hsame.mono (by decide) (by decide)⟩
  show Q_sbb_1 Z G1 x t h0 n0 (none) T_15.heap _
  rw [e_18]
  exact ⟨rfl, N_21, K_26, E_24, F_22, F_25⟩
abbrev M287 : MethodName := ⟨"java/lang/String", "valueOf", "(C)Ljava/lang/String;"⟩
theorem d14_0 : decode jdk_42_method_139_code 0 = .ok (.getstatic 38, 3) := by decide +kernel
theorem d14_3 : decode jdk_42_method_139_code 3 = .ok (.ifCond .eq 23, 3) := by decide +kernel
theorem d14_6 : decode jdk_42_method_139_code 6 = .ok (.iload_n 0, 1) := by decide +kernel
theorem w101 {Z : State} {a0 : Array Value} (hw : ∀ d ∈ tables_1, d.before a0 Z = true) : Jvm.Cond.before (Jvm.Cond.code ({ cls := "java/lang/StringLatin1", name := "canEncode", desc := "(C)Z" } : Jvm.MethodName) jdk_43_method_3_code (1 : Nat) (Option.some Jvm.ClassFile.FieldType.boolean)) a0 Z = true := hw _ (List.mem_of_getElem? (i := 101) rfl)
theorem w100 {Z : State} {a0 : Array Value} (hw : ∀ d ∈ tables_1, d.before a0 Z = true) : Jvm.Cond.before (Jvm.Cond.initialized "java/lang/StringLatin1") a0 Z = true := hw _ (List.mem_of_getElem? (i := 100) rfl)
theorem pd_293 : parseMethodDescriptor "(C)Z" = some ⟨[.char], some .boolean⟩ := by decide +kernel
theorem d14_7 : decode jdk_42_method_139_code 7 = .ok (.invokestatic 1015, 3) := by decide +kernel
theorem w98 {Z : State} {a0 : Array Value} (hw : ∀ d ∈ tables_1, d.before a0 Z = true) : Jvm.Cond.before (Jvm.Cond.methodLink "java/lang/String" (1015 : Nat) ({ cls := "java/lang/StringLatin1", name := "canEncode", desc := "(C)Z" } : Jvm.MethodName)) a0 Z = true := hw _ (List.mem_of_getElem? (i := 98) rfl)
theorem w99 {Z : State} {a0 : Array Value} (hw : ∀ d ∈ tables_1, d.before a0 Z = true) : Jvm.Cond.before (Jvm.Cond.static ({ cls := "java/lang/StringLatin1", name := "canEncode", desc := "(C)Z" } : Jvm.MethodName)) a0 Z = true := hw _ (List.mem_of_getElem? (i := 99) rfl)
theorem d14_10 : decode jdk_42_method_139_code 10 = .ok (.ifCond .eq 16, 3) := by decide +kernel
theorem w102 {Z : State} {a0 : Array Value} (hw : ∀ d ∈ tables_1, d.before a0 Z = true) : Jvm.Cond.before (Jvm.Cond.classLink "java/lang/String" (10 : Nat) "java/lang/String") a0 Z = true := hw _ (List.mem_of_getElem? (i := 102) rfl)
theorem d14_13 : decode jdk_42_method_139_code 13 = .ok (.new 10, 3) := by decide +kernel
theorem d14_16 : decode jdk_42_method_139_code 16 = .ok (.dup, 1) := by decide +kernel
theorem d14_17 : decode jdk_42_method_139_code 17 = .ok (.iload_n 0, 1) := by decide +kernel
theorem w111 {Z : State} {a0 : Array Value} (hw : ∀ d ∈ tables_1, d.before a0 Z = true) : Jvm.Cond.before (Jvm.Cond.code ({ cls := "java/lang/StringLatin1", name := "toBytes", desc := "(C)[B" } : Jvm.MethodName) jdk_43_method_46_code (1 : Nat) (Option.some (Jvm.ClassFile.FieldType.array Jvm.ClassFile.FieldType.byte))) a0 Z = true := hw _ (List.mem_of_getElem? (i := 111) rfl)
theorem pd_303 : parseMethodDescriptor "(C)[B" = some ⟨[.char], some (.array .byte)⟩ := by decide +kernel
theorem d14_18 : decode jdk_42_method_139_code 18 = .ok (.invokestatic 1018, 3) := by decide +kernel
theorem w109 {Z : State} {a0 : Array Value} (hw : ∀ d ∈ tables_1, d.before a0 Z = true) : Jvm.Cond.before (Jvm.Cond.methodLink "java/lang/String" (1018 : Nat) ({ cls := "java/lang/StringLatin1", name := "toBytes", desc := "(C)[B" } : Jvm.MethodName)) a0 Z = true := hw _ (List.mem_of_getElem? (i := 109) rfl)
theorem w110 {Z : State} {a0 : Array Value} (hw : ∀ d ∈ tables_1, d.before a0 Z = true) : Jvm.Cond.before (Jvm.Cond.static ({ cls := "java/lang/StringLatin1", name := "toBytes", desc := "(C)[B" } : Jvm.MethodName)) a0 Z = true := hw _ (List.mem_of_getElem? (i := 110) rfl)
theorem d14_21 : decode jdk_42_method_139_code 21 = .ok (.iconst 0, 1) := by decide +kernel
theorem w108 {Z : State} {a0 : Array Value} (hw : ∀ d ∈ tables_1, d.before a0 Z = true) : Jvm.Cond.before (Jvm.Cond.code ({ cls := "java/lang/String", name := "<init>", desc := "([BB)V" } : Jvm.MethodName) jdk_42_method_151_code (3 : Nat) (Option.none : Option Jvm.ClassFile.FieldType)) a0 Z = true := hw _ (List.mem_of_getElem? (i := 108) rfl)
theorem pd_309 : parseMethodDescriptor "([BB)V" = some ⟨[(.array .byte), .byte], none⟩ := by decide +kernel
theorem d14_22 : decode jdk_42_method_139_code 22 = .ok (.invokespecial 209, 3) := by decide +kernel
theorem w106 {Z : State} {a0 : Array Value} (hw : ∀ d ∈ tables_1, d.before a0 Z = true) : Jvm.Cond.before (Jvm.Cond.methodLink "java/lang/String" (209 : Nat) ({ cls := "java/lang/String", name := "<init>", desc := "([BB)V" } : Jvm.MethodName)) a0 Z = true := hw _ (List.mem_of_getElem? (i := 106) rfl)
theorem w107 {Z : State} {a0 : Array Value} (hw : ∀ d ∈ tables_1, d.before a0 Z = true) : Jvm.Cond.before (Jvm.Cond.instanceMethod ({ cls := "java/lang/String", name := "<init>", desc := "([BB)V" } : Jvm.MethodName)) a0 Z = true := hw _ (List.mem_of_getElem? (i := 107) rfl)
theorem d14_25 : decode jdk_42_method_139_code 25 = .ok (.areturn, 1) := by decide +kernel
theorem d14_26 : decode jdk_42_method_139_code 26 = .ok (.new 10, 3) := by decide +kernel
theorem d14_29 : decode jdk_42_method_139_code 29 = .ok (.dup, 1) := by decide +kernel
theorem d14_30 : decode jdk_42_method_139_code 30 = .ok (.iload_n 0, 1) := by decide +kernel
theorem w105 {Z : State} {a0 : Array Value} (hw : ∀ d ∈ tables_1, d.before a0 Z = true) : Jvm.Cond.before (Jvm.Cond.code ({ cls := "java/lang/StringUTF16", name := "toBytes", desc := "(C)[B" } : Jvm.MethodName) jdk_52_method_24_code (2 : Nat) (Option.some (Jvm.ClassFile.FieldType.array Jvm.ClassFile.FieldType.byte))) a0 Z = true := hw _ (List.mem_of_getElem? (i := 105) rfl)
theorem d14_31 : decode jdk_42_method_139_code 31 = .ok (.invokestatic 1021, 3) := by decide +kernel
theorem w103 {Z : State} {a0 : Array Value} (hw : ∀ d ∈ tables_1, d.before a0 Z = true) : Jvm.Cond.before (Jvm.Cond.methodLink "java/lang/String" (1021 : Nat) ({ cls := "java/lang/StringUTF16", name := "toBytes", desc := "(C)[B" } : Jvm.MethodName)) a0 Z = true := hw _ (List.mem_of_getElem? (i := 103) rfl)
theorem w104 {Z : State} {a0 : Array Value} (hw : ∀ d ∈ tables_1, d.before a0 Z = true) : Jvm.Cond.before (Jvm.Cond.static ({ cls := "java/lang/StringUTF16", name := "toBytes", desc := "(C)[B" } : Jvm.MethodName)) a0 Z = true := hw _ (List.mem_of_getElem? (i := 104) rfl)
theorem d14_34 : decode jdk_42_method_139_code 34 = .ok (.iconst 1, 1) := by decide +kernel
theorem d14_35 : decode jdk_42_method_139_code 35 = .ok (.invokespecial 209, 3) := by decide +kernel
theorem d14_38 : decode jdk_42_method_139_code 38 = .ok (.areturn, 1) := by decide +kernel
abbrev R_valof : Room := { frames := 2, cells := 2, slots := 6, locals := 29 }
def Q_valof (Z : State) (G1 : Int32) (cc : Int32) (h0 : Heap) (n0 : Nat) (v : Option Value) (h : Heap) (L : List Loc) : Prop := (∃ x : Addr, v = some (.ref x) ∧ Fr n0 L ∧ Keep h0 h [] ∧ (h0.size ≤ x) ∧ (Exa Z h x "java/lang/String"))
set_option maxRecDepth 65536 in
set_option maxHeartbeats 40000000 in
theorem rm_valof (l : Launch) (Z : State) (a0 : Array Value) (hw : ∀ d ∈ tables_1, d.before a0 Z = true) (ws : List Jvm.Cond) (G1 : Int32) (HG : own_G l Z a0 G1) (h0 : Heap) (n0 : Nat) (X00 : Old Z n0 h0) (cc : Int32)  :
    own_CP l Z M287 jdk_42_method_139_code 1 (some (.object "java/lang/String")) ws R_valof #[(.int cc)] h0 (Q_valof Z G1 cc h0 n0) := by
  refine own_P (plainFor_of_name pn_2) ?_
  intro p e s m below meth c s₁ S0 Bd hZ hh hx hby hml hown hnm X0 e0 hS0d
  obtain ⟨O1, P1, OAD, OHI, OLO⟩ := id HG
  have N0 := Fr.nil n0
  have C0 : Steps p.tables e below S0 (s₁.setTop (mkF m 0 #[.val (.int cc)] [])) := by rw [hS0d]; exact castTop (ef_41 m cc) (Steps.refl _)
  obtain ⟨T_1, X_2, e_3, st_4⟩ := getS X0 hx hZ (host := "") hown (w65 hw) Via.refl e0 (O1.ext X00.2) (g := (mkF m 0 #[.val (.int cc)] [])) rfl (hb hby d14_0)
  obtain ⟨_, _, ⟨T_5, L_5, k_5, n_5⟩, -, X_5, ⟨Lc_5, hQ_5, l_5, y_5, z_5⟩, st_5⟩ := Jvm.LawKit.callS X_2 hx (y := M247) hown (mvT hZ (w98 hw)) (mvT hZ (w99 hw)) (mvT hZ (w100 hw)) (mvT hZ (w101 hw)) (by decide) (backOf (W := 0) (rm_canenc l Z a0 hw [] G1 HG h0 n0 X00 cc ) hZ (w101 hw) (w100 hw) (by decide) (by decide)) (g := (mkF m 7 #[.val (.int cc)] [(.int cc)])) rfl (by rw [hml]; rfl) (argsL := [(.int cc)]) (rest := []) (lenOf pd_293 rfl) rfl (by show 2 * 0 + _ ≤ _; exact Nat.le_of_eq rfl) (hb hby d14_7) (fun _ _ => ⟨rfl, e_3, (by decide : 0 + 0 ≤ _), (by decide : 0 + 0 ≤ _)⟩)
  dsimp only [Pt.U, Pt.locs, Pt.cells, Pt.slots] at X_5 l_5 y_5 z_5 st_5 hQ_5
  subst l_5 y_5 z_5
  have C_6 : Steps p.tables e below S0 (T_1.setTop (mkF m 7 #[.val (.int cc)] [(.int cc)])) := by
    refine C0.trans ?_
    refine st_4 _ ?_
    refine XS.ifNo X_2.here hx rfl (hb hby d14_3) rfl (i0_eq_f P1) ?_
    refine XS.iloadN X_2.here hx rfl (hb hby d14_6) rfl ?_
    exact Steps.refl _
  rcases hQ_5 with hQ_7 | hQ_8
  · skip
    obtain ⟨rfl, N_9, e_10, g_11⟩ := hQ_7
    have N_12 := Fr.app N0 N_9
    have e_13 : T_5.heap = h0 := e_10
    obtain ⟨T_14, h_15, X_16, e_17, E_18, A_19, D_20, U_24, st_21⟩ := newO X_5 hx hZ hown (w102 hw) (w6 hw) (w7 hw) e_13 (g := (mkF m 13 #[.val (.int cc)] [])) rfl (hb hby d14_13) (by decide) (by decide)
    obtain ⟨a_22, g_23⟩ : ∃ z, z = h0.size := ⟨_, rfl⟩
    rw [← g_23] at A_19 D_20 st_21 U_24
    have O_25 : Old Z n0 h_15 := (X00.ext E_18)
    obtain ⟨_, _, ⟨T_26, L_26, k_26, n_26⟩, -, X_26, ⟨Lc_26, hQ_26, l_26, y_26, z_26⟩, st_26⟩ := Jvm.LawKit.callS X_16 hx (y := M256) hown (mvT hZ (w109 hw)) (mvT hZ (w110 hw)) (mvT hZ (w100 hw)) (mvT hZ (w111 hw)) (by decide) (backOf (W := 2) (rm_ltob l Z a0 hw [] G1 HG h_15 n0 O_25 cc ) hZ (w111 hw) (w100 hw) (by decide) (by decide)) (g := (mkF m 18 #[.val (.int cc)] [(.int cc), (.ref a_22), (.ref a_22)])) rfl (by rw [hml]; rfl) (argsL := [(.int cc)]) (rest := [(.ref a_22), (.ref a_22)]) (lenOf pd_303 rfl) rfl (by show 2 * 0 + _ ≤ _; exact Nat.le_of_eq rfl) (hb hby d14_18) (fun _ _ => ⟨rfl, e_17, (by decide : 1 + 1 ≤ _), (by decide : 4 + 1 ≤ _)⟩)
    dsimp only [Pt.U, Pt.locs, Pt.cells, Pt.slots] at X_26 l_26 y_26 z_26 st_26 hQ_26
    subst l_26 y_26 z_26
    obtain ⟨a_27, k_28, rfl, N_29, K_30, g_31, g_32⟩ := hQ_26
    have N_33 := Fr.app N_12 N_29
    have E_34 : Exa Z T_26.heap a_22 "java/lang/String" := (A_19.keep K_30)
    have F_35 : Fld Z T_26.heap a_22 "java/lang/String" "value" "[B" .null := ((D_20 (Or.inr (w21 hw)) (ty := (.array .byte)) (by decide)).keep K_30 nin0)
    have F_36 : Fld Z T_26.heap a_22 "java/lang/String" "coder" "B" (.int (0 : Int32)) := ((D_20 (Or.inr (w22 hw)) (ty := .byte) (by decide)).keep K_30 nin0)
    have O_37 : Old Z n0 T_26.heap := (O_25.keep K_30 all0)
    obtain ⟨_, _, ⟨T_38, L_38, k_38, n_38⟩, -, X_38, ⟨Lc_38, hQ_38, l_38, y_38, z_38⟩, st_38⟩ := X_26.specialBack hx (y := M276) rfl hown (mvT hZ (w106 hw)) (mvT hZ (w107 hw)) (mvT hZ (w108 hw)) (by decide) (backOf (W := 1) (rm_sbb_0 l Z a0 hw [] G1 HG T_26.heap n0 O_37 a_22 a_27 E_34 F_35 F_36 (Nat.le_trans (own_n0 X00) (Nat.le_of_eq g_23.symm))) hZ (w108 hw) (w7 hw) (by decide) (by decide)) (g := (mkF m 22 #[.val (.int cc)] [(.int (0 : Int32)), (.ref a_27), (.ref a_22), (.ref a_22)])) rfl (by rw [hml]; rfl) (Steps.refl _) (a := a_22) (argsL := [(.ref a_27), (.int (0 : Int32))]) (rest := [(.ref a_22)]) (lenOf pd_309 rfl) rfl (by show 2 * 0 + _ ≤ _; exact Nat.le_of_eq rfl) (hb hby d14_22) (fun _ _ => ⟨rfl, rfl, (by decide : 2 + 0 ≤ _), (by decide : 5 + 0 ≤ _)⟩)
    dsimp only [Pt.U, Pt.locs, Pt.cells, Pt.slots] at X_38 l_38 y_38 z_38 st_38 hQ_38
    subst l_38 y_38 z_38
    obtain ⟨rfl, N_39, K_40, g_41, g_42, g_43⟩ := hQ_38
    have N_44 := Fr.app N_33 N_39
    have C_45 : Steps p.tables e below S0 (T_38.setTop (mkF m 25 #[.val (.int cc)] [(.ref a_22)])) := by
      refine C_6.trans ?_
      refine st_5 _ ?_
      refine XS.ifNo X_5.here hx rfl (hb hby d14_10) rfl (by decide) ?_
      refine st_21 _ ?_
      refine XS.dup X_16.here hx rfl (hb hby d14_16) rfl rfl ?_
      refine XS.iloadN X_16.here hx rfl (hb hby d14_17) rfl ?_
      refine st_26 _ ?_
      refine XS.iconst X_26.here hx rfl (hb hby d14_21) ?_
      refine st_38.trans ?_
      show Steps p.tables e below (T_38.setTop (mkF m 25 #[.val (.int cc)] [(.ref a_22)])) _
      exact Steps.refl _
    have K_46 : Keep h0 T_38.heap [] := ((((Keep.refl _ _).ext E_18).trans K_30 all0).trans K_40 (allS (Or.inr (Nat.le_trans (Nat.le_refl _) (Nat.le_of_eq g_23.symm))) all0))
    obtain ⟨fs, hr, hrun, hended, hW, hsame⟩ := X_38.leave (v := some (.ref a_22)) (fun h => by rw [Bd.returns] at h; cases h)
    refine ⟨_, _, C_45.trans (retOut X_38 hx Bd.returns rfl (Or.inr (Or.inr (Or.inr (Or.inr ⟨rfl, rfl, rfl⟩)))) (hb hby d14_25) hr), hrun, hended, _, _, rfl, ?_, ⟨_, rfl⟩, hW, hsame.mono (by decide) (by decide)⟩
    show Q_valof Z G1 cc h0 n0 (some (.ref a_22)) T_38.heap _
    exact ⟨a_22, rfl, N_44, K_46, (Nat.le_trans (Nat.le_refl _) (Nat.le_of_eq g_23.symm)), g_41⟩
  · skip
    obtain ⟨rfl, N_47, e_48, g_49⟩ := hQ_8
    have N_50 := Fr.app N0 N_47
    have e_51 : T_5.heap = h0 := e_48
    obtain ⟨T_52, h_53, X_54, e_55, E_56, A_57, D_58, U_62, st_59⟩ := newO X_5 hx hZ hown (w102 hw) (w6 hw) (w7 hw) e_51 (g := (mkF m 26 #[.val (.int cc)] [])) rfl (hb hby d14_26) (by decide) (by decide)
    obtain ⟨a_60, g_61⟩ : ∃ z, z = h0.size := ⟨_, rfl⟩
    rw [← g_61] at A_57 D_58 st_59 U_62
    have O_63 : Old Z n0 h_53 := (X00.ext E_56)
    obtain ⟨_, _, ⟨T_64, L_64, k_64, n_64⟩, -, X_64, ⟨Lc_64, hQ_64, l_64, y_64, z_64⟩, st_64⟩ := Jvm.LawKit.callS X_54 hx (y := M265) hown (mvT hZ (w103 hw)) (mvT hZ (w104 hw)) (mvT hZ (w68 hw)) (mvT hZ (w105 hw)) (by decide) (backOf (W := 2) (rm_utob l Z a0 hw [] G1 HG h_53 n0 O_63 cc ) hZ (w105 hw) (w68 hw) (by decide) (by decide)) (g := (mkF m 31 #[.val (.int cc)] [(.int cc), (.ref a_60), (.ref a_60)])) rfl (by rw [hml]; rfl) (argsL := [(.int cc)]) (rest := [(.ref a_60), (.ref a_60)]) (lenOf pd_303 rfl) rfl (by show 2 * 0 + _ ≤ _; exact Nat.le_of_eq rfl) (hb hby d14_31) (fun _ _ => ⟨rfl, e_55, (by decide : 1 + 1 ≤ _), (by decide : 4 + 2 ≤ _)⟩)
    dsimp only [Pt.U, Pt.locs, Pt.cells, Pt.slots] at X_64 l_64 y_64 z_64 st_64 hQ_64
    subst l_64 y_64 z_64
    obtain ⟨a_65, k_66, rfl, N_67, K_68, g_69, g_70⟩ := hQ_64
    have N_71 := Fr.app N_50 N_67
    have E_72 : Exa Z T_64.heap a_60 "java/lang/String" := (A_57.keep K_68)
    have F_73 : Fld Z T_64.heap a_60 "java/lang/String" "value" "[B" .null := ((D_58 (Or.inr (w21 hw)) (ty := (.array .byte)) (by decide)).keep K_68 nin0)
    have F_74 : Fld Z T_64.heap a_60 "java/lang/String" "coder" "B" (.int (0 : Int32)) := ((D_58 (Or.inr (w22 hw)) (ty := .byte) (by decide)).keep K_68 nin0)
    have O_75 : Old Z n0 T_64.heap := (O_63.keep K_68 all0)
    obtain ⟨_, _, ⟨T_76, L_76, k_76, n_76⟩, -, X_76, ⟨Lc_76, hQ_76, l_76, y_76, z_76⟩, st_76⟩ := X_64.specialBack hx (y := M276) rfl hown (mvT hZ (w106 hw)) (mvT hZ (w107 hw)) (mvT hZ (w108 hw)) (by decide) (backOf (W := 1) (rm_sbb_1 l Z a0 hw [] G1 HG T_64.heap n0 O_75 a_60 a_65 E_72 F_73 F_74 (Nat.le_trans (own_n0 X00) (Nat.le_of_eq g_61.symm))) hZ (w108 hw) (w7 hw) (by decide) (by decide)) (g := (mkF m 35 #[.val (.int cc)] [(.int (1 : Int32)), (.ref a_65), (.ref a_60), (.ref a_60)])) rfl (by rw [hml]; rfl) (Steps.refl _) (a := a_60) (argsL := [(.ref a_65), (.int (1 : Int32))]) (rest := [(.ref a_60)]) (lenOf pd_309 rfl) rfl (by show 2 * 0 + _ ≤ _; exact Nat.le_of_eq rfl) (hb hby d14_35) (fun _ _ => ⟨rfl, rfl, (by decide : 2 + 0 ≤ _), (by decide : 6 + 0 ≤ _)⟩)
    dsimp only [Pt.U, Pt.locs, Pt.cells, Pt.slots] at X_76 l_76 y_76 z_76 st_76 hQ_76
    subst l_76 y_76 z_76
    obtain ⟨rfl, N_77, K_78, g_79, g_80, g_81⟩ := hQ_76
    have N_82 := Fr.app N_71 N_77
    have C_83 : Steps p.tables e below S0 (T_76.setTop (mkF m 38 #[.val (.int cc)] [(.ref a_60)])) := by
      refine C_6.trans ?_
      refine st_5 _ ?_
      refine XS.ifYes X_5.here hx rfl (pc0 := 10) (pc' := 26) rfl (hb hby d14_10) rfl (by decide) (by decide) (by decide) ?_
      refine st_59 _ ?_
      refine XS.dup X_54.here hx rfl (hb hby d14_29) rfl rfl ?_
      refine XS.iloadN X_54.here hx rfl (hb hby d14_30) rfl ?_
      refine st_64 _ ?_
      refine XS.iconst X_64.here hx rfl (hb hby d14_34) ?_
      refine st_76.trans ?_
      show Steps p.tables e below (T_76.setTop (mkF m 38 #[.val (.int cc)] [(.ref a_60)])) _
      exact Steps.refl _
    have K_84 : Keep h0 T_76.heap [] := ((((Keep.refl _ _).ext E_56).trans K_68 all0).trans K_78 (allS (Or.inr (Nat.le_trans (Nat.le_refl _) (Nat.le_of_eq g_61.symm))) all0))
    obtain ⟨fs, hr, hrun, hended, hW, hsame⟩ := X_76.leave (v := some (.ref a_60)) (fun h => by rw [Bd.returns] at h; cases h)
    refine ⟨_, _, C_83.trans (retOut X_76 hx Bd.returns rfl (Or.inr (Or.inr (Or.inr (Or.inr ⟨rfl, rfl, rfl⟩)))) (hb hby d14_38) hr), hrun, hended, _, _, rfl, ?_, ⟨_, rfl⟩, hW, hsame.mono (by decide) (by decide)⟩
    show Q_valof Z G1 cc h0 n0 (some (.ref a_60)) T_76.heap _
    exact ⟨a_60, rfl, N_82, K_84, (Nat.le_trans (Nat.le_refl _) (Nat.le_of_eq g_61.symm)), g_79⟩
abbrev M324 : MethodName := ⟨"com/example/expiring_state/expiringstate/RulesOfPinLaw", "draw", "(III)Ljava/lang/String;"⟩
theorem ef_325 (m : MethodId) (x0 : Int32) (x1 : Int32) (x2 : Int32) : entryFrame m #[(.int x0), (.int x1), (.int x2)] 6 = mkF m 0 #[.val (.int x0), .val (.int x1), .val (.int x2), .unset, .unset, .unset] [] := by first | (simp [entryFrame, mkF, argsToLocals, Value.category]; done) | rfl
theorem pn_326 : plainName "com/example/expiring_state/expiringstate/RulesOfPinLaw" = true := by first | (simp [plainName, overriddenIn]; done) | decide +kernel
theorem d15_0 : decode method_2_code 0 = .ok (.iload_n 1, 1) := by decide +kernel
theorem w4 {Z : State} {a0 : Array Value} (hw : ∀ d ∈ tables_1, d.before a0 Z = true) : Jvm.Cond.before (Jvm.Cond.constant "com/example/expiring_state/expiringstate/RulesOfPinLaw" (7 : Nat) (65535 : Int32)) a0 Z = true := hw _ (List.mem_of_getElem? (i := 4) rfl)
theorem d15_1 : decode method_2_code 1 = .ok (.ldc 7, 2) := by decide +kernel
theorem d15_3 : decode method_2_code 3 = .ok (.iand, 1) := by decide +kernel
theorem d15_4 : decode method_2_code 4 = .ok (.i2c, 1) := by decide +kernel
theorem d15_5 : decode method_2_code 5 = .ok (.istore_n 3, 1) := by decide +kernel
theorem d15_6 : decode method_2_code 6 = .ok (.iload_n 1, 1) := by decide +kernel
theorem d15_7 : decode method_2_code 7 = .ok (.bipush 16, 2) := by decide +kernel
theorem d15_9 : decode method_2_code 9 = .ok (.iushr, 1) := by decide +kernel
theorem d15_10 : decode method_2_code 10 = .ok (.i2c, 1) := by decide +kernel
theorem d15_11 : decode method_2_code 11 = .ok (.istore 4, 2) := by decide +kernel
theorem d15_13 : decode method_2_code 13 = .ok (.iload_n 2, 1) := by decide +kernel
theorem d15_14 : decode method_2_code 14 = .ok (.ldc 7, 2) := by decide +kernel
theorem d15_16 : decode method_2_code 16 = .ok (.iand, 1) := by decide +kernel
theorem d15_17 : decode method_2_code 17 = .ok (.i2c, 1) := by decide +kernel
theorem d15_18 : decode method_2_code 18 = .ok (.istore 5, 2) := by decide +kernel
theorem d15_20 : decode method_2_code 20 = .ok (.iload_n 0, 1) := by decide +kernel
theorem d15_21 : decode method_2_code 21 = .ok (.ifCond .ne 14, 3) := by decide +kernel
theorem w5 {Z : State} {a0 : Array Value} (hw : ∀ d ∈ tables_1, d.before a0 Z = true) : Jvm.Cond.before (Jvm.Cond.classLink "com/example/expiring_state/expiringstate/RulesOfPinLaw" (8 : Nat) "java/lang/String") a0 Z = true := hw _ (List.mem_of_getElem? (i := 5) rfl)
theorem d15_24 : decode method_2_code 24 = .ok (.new 8, 3) := by decide +kernel
theorem d15_27 : decode method_2_code 27 = .ok (.dup, 1) := by decide +kernel
theorem d15_28 : decode method_2_code 28 = .ok (.iconst 0, 1) := by decide +kernel
theorem w8 {Z : State} {a0 : Array Value} (hw : ∀ d ∈ tables_1, d.before a0 Z = true) : Jvm.Cond.before (Jvm.Cond.arrayClass Jvm.ClassFile.FieldType.char) a0 Z = true := hw _ (List.mem_of_getElem? (i := 8) rfl)
theorem d15_29 : decode method_2_code 29 = .ok (.newarray .char, 2) := by decide +kernel
theorem w11 {Z : State} {a0 : Array Value} (hw : ∀ d ∈ tables_1, d.before a0 Z = true) : Jvm.Cond.before (Jvm.Cond.code ({ cls := "java/lang/String", name := "<init>", desc := "([C)V" } : Jvm.MethodName) jdk_42_method_3_code (2 : Nat) (Option.none : Option Jvm.ClassFile.FieldType)) a0 Z = true := hw _ (List.mem_of_getElem? (i := 11) rfl)
theorem pd_352 : parseMethodDescriptor "([C)V" = some ⟨[(.array .char)], none⟩ := by decide +kernel
theorem d15_31 : decode method_2_code 31 = .ok (.invokespecial 10, 3) := by decide +kernel
theorem w9 {Z : State} {a0 : Array Value} (hw : ∀ d ∈ tables_1, d.before a0 Z = true) : Jvm.Cond.before (Jvm.Cond.methodLink "com/example/expiring_state/expiringstate/RulesOfPinLaw" (10 : Nat) ({ cls := "java/lang/String", name := "<init>", desc := "([C)V" } : Jvm.MethodName)) a0 Z = true := hw _ (List.mem_of_getElem? (i := 9) rfl)
theorem w10 {Z : State} {a0 : Array Value} (hw : ∀ d ∈ tables_1, d.before a0 Z = true) : Jvm.Cond.before (Jvm.Cond.instanceMethod ({ cls := "java/lang/String", name := "<init>", desc := "([C)V" } : Jvm.MethodName)) a0 Z = true := hw _ (List.mem_of_getElem? (i := 10) rfl)
theorem d15_34 : decode method_2_code 34 = .ok (.areturn, 1) := by decide +kernel
theorem d15_35 : decode method_2_code 35 = .ok (.iload_n 0, 1) := by decide +kernel
theorem d15_36 : decode method_2_code 36 = .ok (.iconst 1, 1) := by decide +kernel
theorem d15_37 : decode method_2_code 37 = .ok (.if_icmp .ne 8, 3) := by decide +kernel
theorem d15_40 : decode method_2_code 40 = .ok (.iload_n 3, 1) := by decide +kernel
theorem w97 {Z : State} {a0 : Array Value} (hw : ∀ d ∈ tables_1, d.before a0 Z = true) : Jvm.Cond.before (Jvm.Cond.code ({ cls := "java/lang/String", name := "valueOf", desc := "(C)Ljava/lang/String;" } : Jvm.MethodName) jdk_42_method_139_code (1 : Nat) (Option.some (Jvm.ClassFile.FieldType.object "java/lang/String"))) a0 Z = true := hw _ (List.mem_of_getElem? (i := 97) rfl)
theorem pd_362 : parseMethodDescriptor "(C)Ljava/lang/String;" = some ⟨[.char], some (.object "java/lang/String")⟩ := by decide +kernel
theorem d15_41 : decode method_2_code 41 = .ok (.invokestatic 13, 3) := by decide +kernel
theorem w95 {Z : State} {a0 : Array Value} (hw : ∀ d ∈ tables_1, d.before a0 Z = true) : Jvm.Cond.before (Jvm.Cond.methodLink "com/example/expiring_state/expiringstate/RulesOfPinLaw" (13 : Nat) ({ cls := "java/lang/String", name := "valueOf", desc := "(C)Ljava/lang/String;" } : Jvm.MethodName)) a0 Z = true := hw _ (List.mem_of_getElem? (i := 95) rfl)
theorem w96 {Z : State} {a0 : Array Value} (hw : ∀ d ∈ tables_1, d.before a0 Z = true) : Jvm.Cond.before (Jvm.Cond.static ({ cls := "java/lang/String", name := "valueOf", desc := "(C)Ljava/lang/String;" } : Jvm.MethodName)) a0 Z = true := hw _ (List.mem_of_getElem? (i := 96) rfl)
theorem d15_44 : decode method_2_code 44 = .ok (.areturn, 1) := by decide +kernel
theorem d15_45 : decode method_2_code 45 = .ok (.iload_n 0, 1) := by decide +kernel
theorem d15_46 : decode method_2_code 46 = .ok (.iconst 2, 1) := by decide +kernel
theorem d15_47 : decode method_2_code 47 = .ok (.if_icmp .ne 23, 3) := by decide +kernel
theorem d15_50 : decode method_2_code 50 = .ok (.new 8, 3) := by decide +kernel
theorem d15_53 : decode method_2_code 53 = .ok (.dup, 1) := by decide +kernel
theorem d15_54 : decode method_2_code 54 = .ok (.iconst 2, 1) := by decide +kernel
theorem d15_55 : decode method_2_code 55 = .ok (.newarray .char, 2) := by decide +kernel
theorem d15_57 : decode method_2_code 57 = .ok (.dup, 1) := by decide +kernel
theorem d15_58 : decode method_2_code 58 = .ok (.iconst 0, 1) := by decide +kernel
theorem d15_59 : decode method_2_code 59 = .ok (.iload_n 3, 1) := by decide +kernel
theorem d15_60 : decode method_2_code 60 = .ok (.castore, 1) := by decide +kernel
theorem d15_61 : decode method_2_code 61 = .ok (.dup, 1) := by decide +kernel
theorem d15_62 : decode method_2_code 62 = .ok (.iconst 1, 1) := by decide +kernel
theorem d15_63 : decode method_2_code 63 = .ok (.iload 4, 2) := by decide +kernel
theorem d15_65 : decode method_2_code 65 = .ok (.castore, 1) := by decide +kernel
theorem d15_66 : decode method_2_code 66 = .ok (.invokespecial 10, 3) := by decide +kernel
theorem d15_69 : decode method_2_code 69 = .ok (.areturn, 1) := by decide +kernel
theorem d15_70 : decode method_2_code 70 = .ok (.new 8, 3) := by decide +kernel
theorem d15_73 : decode method_2_code 73 = .ok (.dup, 1) := by decide +kernel
theorem d15_74 : decode method_2_code 74 = .ok (.iconst 3, 1) := by decide +kernel
theorem d15_75 : decode method_2_code 75 = .ok (.newarray .char, 2) := by decide +kernel
theorem d15_77 : decode method_2_code 77 = .ok (.dup, 1) := by decide +kernel
theorem d15_78 : decode method_2_code 78 = .ok (.iconst 0, 1) := by decide +kernel
theorem d15_79 : decode method_2_code 79 = .ok (.iload_n 3, 1) := by decide +kernel
theorem d15_80 : decode method_2_code 80 = .ok (.castore, 1) := by decide +kernel
theorem d15_81 : decode method_2_code 81 = .ok (.dup, 1) := by decide +kernel
theorem d15_82 : decode method_2_code 82 = .ok (.iconst 1, 1) := by decide +kernel
theorem d15_83 : decode method_2_code 83 = .ok (.iload 4, 2) := by decide +kernel
theorem d15_85 : decode method_2_code 85 = .ok (.castore, 1) := by decide +kernel
theorem d15_86 : decode method_2_code 86 = .ok (.dup, 1) := by decide +kernel
theorem d15_87 : decode method_2_code 87 = .ok (.iconst 2, 1) := by decide +kernel
theorem d15_88 : decode method_2_code 88 = .ok (.iload 5, 2) := by decide +kernel
theorem d15_90 : decode method_2_code 90 = .ok (.castore, 1) := by decide +kernel
theorem d15_91 : decode method_2_code 91 = .ok (.invokespecial 10, 3) := by decide +kernel
theorem d15_94 : decode method_2_code 94 = .ok (.areturn, 1) := by decide +kernel
abbrev R_draw : Room := { frames := 6, cells := 6, slots := 16, locals := 88 }
def Q_draw (Z : State) (G1 : Int32) (p0 : Int32) (p1 : Int32) (p2 : Int32) (h0 : Heap) (n0 : Nat) (v : Option Value) (h : Heap) (L : List Loc) : Prop := (∃ x : Addr, v = some (.ref x) ∧ Fr n0 L ∧ Keep h0 h [] ∧ (Exa Z h x "java/lang/String"))
set_option maxRecDepth 65536 in
set_option maxHeartbeats 40000000 in
theorem rm_draw (l : Launch) (Z : State) (a0 : Array Value) (hw : ∀ d ∈ tables_1, d.before a0 Z = true) (ws : List Jvm.Cond) (G1 : Int32) (HG : own_G l Z a0 G1) (h0 : Heap) (n0 : Nat) (X00 : Old Z n0 h0) (p0 : Int32) (p1 : Int32) (p2 : Int32)  :
    own_CH l Z M324 method_2_code 6 (some (.object "java/lang/String")) ws R_draw #[(.int p0), (.int p1), (.int p2)] h0 (Q_draw Z G1 p0 p1 p2 h0 n0) := by
  refine own_H (plainFor_of_name pn_326) ?_
  intro p e s m below meth c s₁ S0 Bd hZ hh CH0 hS0 CR0 hx hby hml hown hnm X0 e0 hS0d
  obtain ⟨O1, P1, OAD, OHI, OLO⟩ := id HG
  have hEL := own_EL hw
  have hSA := own_SA hw
  have N0 := Fr.nil n0
  have C0 : Steps p.tables e below S0 (s₁.setTop (mkF m 0 #[.val (.int p0), .val (.int p1), .val (.int p2), .unset, .unset, .unset] [])) := by rw [hS0d]; exact castTop (ef_325 m p0 p1 p2) (Steps.refl _)
  have C_1 : Steps p.tables e below S0 (s₁.setTop (mkF m 21 #[.val (.int p0), .val (.int p1), .val (.int p2), .val (.int (own_cw p1)), .val (.int (own_cx p1)), .val (.int (own_cw p2))] [(.int p0)])) := by
    refine C0.trans ?_
    refine XS.iloadN X0.here hx rfl (hb hby d15_0) rfl ?_
    refine X0.ldcI hx hown (mvT hZ (w4 hw)) rfl (hb hby d15_1) ?_
    refine XS.iand X0.here hx rfl (hb hby d15_3) rfl ?_
    refine XS.i2c X0.here hx rfl (hb hby d15_4) rfl ?_
    refine XS.istoreN X0.here hx rfl (hb hby d15_5) rfl (l' := #[.val (.int p0), .val (.int p1), .val (.int p2), .val (.int (own_cw p1)), .unset, .unset]) rfl ?_
    refine XS.iloadN X0.here hx rfl (hb hby d15_6) rfl ?_
    refine XS.bipush X0.here hx rfl (hb hby d15_7) ?_
    refine XS.iushr X0.here hx rfl (hb hby d15_9) rfl ?_
    show Steps p.tables e below (s₁.setTop (mkF m 10 #[.val (.int p0), .val (.int p1), .val (.int p2), .val (.int (own_cw p1)), .unset, .unset] [(.int ((p1.toUInt32 >>> ((16 : Int32) &&& 31).toUInt32).toInt32))])) _
    refine XS.i2c X0.here hx rfl (hb hby d15_10) rfl ?_
    refine XS.istore X0.here hx rfl (hb hby d15_11) rfl (l' := #[.val (.int p0), .val (.int p1), .val (.int p2), .val (.int (own_cw p1)), .val (.int (own_cx p1)), .unset]) rfl ?_
    refine XS.iloadN X0.here hx rfl (hb hby d15_13) rfl ?_
    refine X0.ldcI hx hown (mvT hZ (w4 hw)) rfl (hb hby d15_14) ?_
    refine XS.iand X0.here hx rfl (hb hby d15_16) rfl ?_
    refine XS.i2c X0.here hx rfl (hb hby d15_17) rfl ?_
    refine XS.istore X0.here hx rfl (hb hby d15_18) rfl (l' := #[.val (.int p0), .val (.int p1), .val (.int p2), .val (.int (own_cw p1)), .val (.int (own_cx p1)), .val (.int (own_cw p2))]) rfl ?_
    refine XS.iloadN X0.here hx rfl (hb hby d15_20) rfl ?_
    show Steps p.tables e below (s₁.setTop (mkF m 21 #[.val (.int p0), .val (.int p1), .val (.int p2), .val (.int (own_cw p1)), .val (.int (own_cx p1)), .val (.int (own_cw p2))] [(.int p0)])) _
    exact Steps.refl _
  by_cases hc_2 : p0 = (0 : Int32)
  · skip
    obtain ⟨T_3, h_4, X_5, e_6, E_7, A_8, D_9, U_13, st_10⟩ := newO X0 hx hZ hown (w5 hw) (w6 hw) (w7 hw) e0 (g := (mkF m 24 #[.val (.int p0), .val (.int p1), .val (.int p2), .val (.int (own_cw p1)), .val (.int (own_cx p1)), .val (.int (own_cw p2))] [])) rfl (hb hby d15_24) (by decide) (by decide)
    obtain ⟨a_11, g_12⟩ : ∃ z, z = h0.size := ⟨_, rfl⟩
    rw [← g_12] at A_8 D_9 st_10 U_13
    have CH_14 : CHv Z consts_1 s.vm h_4 := CHv.ext E_7 CH0
    have CR_15 : CHr Z consts_1 s.vm h0 s.vm h_4 := CR0.trans (CHr.ext E_7 CH0)
    obtain ⟨T_16, h_17, k_18, X_19, e_20, E_21, A_22, st_23⟩ := newP (aty := .char) X_5 hx hZ (w8 hw) e_6 (g := (mkF m 29 #[.val (.int p0), .val (.int p1), .val (.int p2), .val (.int (own_cw p1)), .val (.int (own_cx p1)), .val (.int (own_cw p2))] [(.int (0 : Int32)), (.ref a_11), (.ref a_11)])) rfl (hb hby d15_29) rfl (by decide : ¬ ((0 : Int32) < (0 : Int32))) (cap := 0) (by decide : (0 : Int32).toNatClampNeg ≤ 0) (by decide) (by decide) (by decide)
    obtain ⟨a_24, g_25⟩ : ∃ z, z = h_4.size := ⟨_, rfl⟩
    rw [← g_25] at A_22 st_23
    have CH_27 : CHv Z consts_1 s.vm h_17 := CHv.ext E_21 CH_14
    have CR_28 : CHr Z consts_1 s.vm h0 s.vm h_17 := CR_15.trans (CHr.ext E_21 CH_14)
    have V_29 : Arv Z h_17 a_24 k_18 .char (0 : Int32) [] (.int (0 : Int32)) := Arv.new A_22 (by decide : ¬ ((0 : Int32) < (0 : Int32)))
    have E_30 : Exa Z h_17 a_11 "java/lang/String" := (A_8.ext E_21)
    have F_31 : Fld Z h_17 a_11 "java/lang/String" "value" "[B" .null := ((D_9 (Or.inr (w21 hw)) (ty := (.array .byte)) (by decide)).ext E_21)
    have F_32 : Fld Z h_17 a_11 "java/lang/String" "coder" "B" (.int (0 : Int32)) := ((D_9 (Or.inr (w22 hw)) (ty := .byte) (by decide)).ext E_21)
    have O_33 : Old Z n0 h_17 := ((X00.ext E_7).ext E_21)
    obtain ⟨_, _, ⟨T_34, L_34, k_34, n_34⟩, -, Y_34, S_34, G_34, ⟨Lc_34, hQ_34, l_34, y_34, z_34, R_34⟩, st_34⟩ := X_19.specialBackS hx (y := M25) rfl hown (mvT hZ (w9 hw)) (mvT hZ (w10 hw)) (mvT hZ (w11 hw)) (by decide) (backOfSH (vm0 := s.vm) (W := 1) (rm_si1_0 l Z a0 hw [] G1 HG h_17 n0 O_33 a_11 a_24 k_18 E_30 F_31 F_32 (Nat.le_trans (own_n0 X00) (Nat.le_of_eq g_12.symm)) V_29) hZ (w11 hw) (w7 hw) (by decide) (by decide) hEL CH_27) (g := (mkF m 31 #[.val (.int p0), .val (.int p1), .val (.int p2), .val (.int (own_cw p1)), .val (.int (own_cx p1)), .val (.int (own_cw p2))] [(.ref a_24), (.ref a_11), (.ref a_11)])) rfl (by rw [hml]; rfl) (Steps.refl _) (a := a_11) (argsL := [(.ref a_24)]) (rest := [(.ref a_11)]) (lenOf pd_352 rfl) rfl (by show 2 * 0 + _ ≤ _; exact Nat.le_of_eq rfl) (hb hby d15_31) (fun _ _ => ⟨rfl, e_20, (by decide : 2 + 4 ≤ _), (by decide : 4 + 8 ≤ _)⟩)
    dsimp only [Pt.U, Pt.locs, Pt.cells, Pt.slots] at Y_34 S_34 G_34 l_34 y_34 z_34 st_34 hQ_34 R_34
    subst l_34 y_34 z_34
    obtain ⟨X_34, hS_34, hZ_34, hown_34⟩ := rebS hS0 (n1 := T_16.heap.size) (by rw [show T_16.heap = h_17 from e_20]; exact (Nat.le_trans (Nat.le_refl _) (Nat.le_trans E_7.1 E_21.1))) Y_34 S_34 G_34 hZ hown
    obtain ⟨a_35, k_36, rfl, N_37, K_38, g_39, g_40, g_41, g_42⟩ := hQ_34
    have N_43 := Fr.app N0 N_37
    have CH_44 : CHv Z consts_1 T_34.vm T_34.heap := R_34.1
    have CR_45 : CHr Z consts_1 s.vm h0 T_34.vm T_34.heap := CR_28.trans R_34
    have C_46 : Steps p.tables e below S0 (T_34.setTop (mkF m 34 #[.val (.int p0), .val (.int p1), .val (.int p2), .val (.int (own_cw p1)), .val (.int (own_cx p1)), .val (.int (own_cw p2))] [(.ref a_11)])) := by
      refine C_1.trans ?_
      refine XS.ifNo X0.here hx rfl (hb hby d15_21) rfl (i0_ne_f hc_2) ?_
      refine st_10 _ ?_
      refine XS.dup X_5.here hx rfl (hb hby d15_27) rfl rfl ?_
      refine XS.iconst X_5.here hx rfl (hb hby d15_28) ?_
      refine st_23 _ ?_
      refine st_34.trans ?_
      exact Steps.refl _
    have K_47 : Keep h0 T_34.heap [] := ((((Keep.refl _ _).ext E_7).ext E_21).trans K_38 (allS (Or.inr (Nat.le_trans (Nat.le_refl _) (Nat.le_of_eq g_12.symm))) all0))
    obtain ⟨fs, hr, hrun, hended, hRE⟩ := X_34.leaveW hS_34 (by rw [show T_34.heap = T_34.heap from rfl]; exact (Nat.le_refl _)) (v := some (.ref a_11)) (fun h => by rw [Bd.returns] at h; cases h)
    refine ⟨_, _, C_46.trans (retOut X_34 hx Bd.returns rfl (Or.inr (Or.inr (Or.inr (Or.inr ⟨rfl, rfl, rfl⟩)))) (hb hby d15_34) hr), hrun, hended, _, _, rfl, ?_, ?_, hRE.1, hRE.2.1, hRE.2.2.1, hRE.2.2.2.mono (by decide) (by decide)⟩
    · show Q_draw Z G1 p0 p1 p2 h0 n0 (some (.ref a_11)) T_34.heap _
      exact ⟨a_11, rfl, N_43, K_47, g_39⟩
    · show CHr Z consts_1 s.vm s.heap T_34.vm T_34.heap
      rw [hh]
      exact CR_45.trans (CHv.at X_34 hZ_34 hEL CH_44)
  · skip
    have C_48 : Steps p.tables e below S0 (s₁.setTop (mkF m 37 #[.val (.int p0), .val (.int p1), .val (.int p2), .val (.int (own_cw p1)), .val (.int (own_cx p1)), .val (.int (own_cw p2))] [(.int (1 : Int32)), (.int p0)])) := by
      refine C_1.trans ?_
      refine XS.ifYes X0.here hx rfl (pc0 := 21) (pc' := 35) rfl (hb hby d15_21) rfl (i0_ne_t hc_2) (by decide) (by decide) ?_
      refine XS.iloadN X0.here hx rfl (hb hby d15_35) rfl ?_
      refine XS.iconst X0.here hx rfl (hb hby d15_36) ?_
      exact Steps.refl _
    by_cases hc_49 : p0 = (1 : Int32)
    · skip
      obtain ⟨_, _, ⟨T_50, L_50, k_50, n_50⟩, -, X_50, ⟨Lc_50, hQ_50, l_50, y_50, z_50⟩, st_50⟩ := Jvm.LawKit.callS X0 hx (y := M287) hown (mvT hZ (w95 hw)) (mvT hZ (w96 hw)) (mvT hZ (w7 hw)) (mvT hZ (w97 hw)) (by decide) (backOf (W := 0) (rm_valof l Z a0 hw [] G1 HG h0 n0 X00 (own_cw p1) ) hZ (w97 hw) (w7 hw) (by decide) (by decide)) (g := (mkF m 41 #[.val (.int p0), .val (.int p1), .val (.int p2), .val (.int (own_cw p1)), .val (.int (own_cx p1)), .val (.int (own_cw p2))] [(.int (own_cw p1))])) rfl (by rw [hml]; rfl) (argsL := [(.int (own_cw p1))]) (rest := []) (lenOf pd_362 rfl) rfl (by show 2 * 0 + _ ≤ _; exact Nat.le_of_eq rfl) (hb hby d15_41) (fun _ _ => ⟨rfl, e0, (by decide : 0 + 2 ≤ _), (by decide : 0 + 6 ≤ _)⟩)
      dsimp only [Pt.U, Pt.locs, Pt.cells, Pt.slots] at X_50 l_50 y_50 z_50 st_50 hQ_50
      subst l_50 y_50 z_50
      obtain ⟨a_51, rfl, N_52, K_53, g_54, g_55⟩ := hQ_50
      have N_56 := Fr.app N0 N_52
      have CH_57 : CHv Z consts_1 s.vm T_50.heap := CHv.keep K_53 sf0 CH0
      have CR_58 : CHr Z consts_1 s.vm h0 s.vm T_50.heap := CR0.trans (CHr.keep K_53 sf0 CH0)
      have C_59 : Steps p.tables e below S0 (T_50.setTop (mkF m 44 #[.val (.int p0), .val (.int p1), .val (.int p2), .val (.int (own_cw p1)), .val (.int (own_cx p1)), .val (.int (own_cw p2))] [(.ref a_51)])) := by
        refine C_48.trans ?_
        refine XS.icmpNo X0.here hx rfl (hb hby d15_37) rfl (ii_ne_f hc_49) ?_
        refine XS.iloadN X0.here hx rfl (hb hby d15_40) rfl ?_
        refine st_50 _ ?_
        exact Steps.refl _
      have K_60 : Keep h0 T_50.heap [] := ((Keep.refl _ _).trans K_53 all0)
      obtain ⟨fs, hr, hrun, hended, hRE⟩ := X_50.leaveW hS0 (by rw [show T_50.heap = T_50.heap from rfl]; exact (Nat.le_trans (Nat.le_refl _) K_53.1)) (v := some (.ref a_51)) (fun h => by rw [Bd.returns] at h; cases h)
      refine ⟨_, _, C_59.trans (retOut X_50 hx Bd.returns rfl (Or.inr (Or.inr (Or.inr (Or.inr ⟨rfl, rfl, rfl⟩)))) (hb hby d15_44) hr), hrun, hended, _, _, rfl, ?_, ?_, hRE.1, hRE.2.1, hRE.2.2.1, hRE.2.2.2.mono (by decide) (by decide)⟩
      · show Q_draw Z G1 p0 p1 p2 h0 n0 (some (.ref a_51)) T_50.heap _
        exact ⟨a_51, rfl, N_56, K_60, g_55⟩
      · show CHr Z consts_1 s.vm s.heap T_50.vm T_50.heap
        rw [hh]
        exact CR_58.trans (CHv.at X_50 hZ hEL CH_57)
    · skip
      have C_61 : Steps p.tables e below S0 (s₁.setTop (mkF m 47 #[.val (.int p0), .val (.int p1), .val (.int p2), .val (.int (own_cw p1)), .val (.int (own_cx p1)), .val (.int (own_cw p2))] [(.int (2 : Int32)), (.int p0)])) := by
        refine C_48.trans ?_
        refine XS.icmpYes X0.here hx rfl (pc0 := 37) (pc' := 45) rfl (hb hby d15_37) rfl (ii_ne_t hc_49) (by decide) (by decide) ?_
        refine XS.iloadN X0.here hx rfl (hb hby d15_45) rfl ?_
        refine XS.iconst X0.here hx rfl (hb hby d15_46) ?_
        exact Steps.refl _
      by_cases hc_62 : p0 = (2 : Int32)
      · skip
        obtain ⟨T_63, h_64, X_65, e_66, E_67, A_68, D_69, U_73, st_70⟩ := newO X0 hx hZ hown (w5 hw) (w6 hw) (w7 hw) e0 (g := (mkF m 50 #[.val (.int p0), .val (.int p1), .val (.int p2), .val (.int (own_cw p1)), .val (.int (own_cx p1)), .val (.int (own_cw p2))] [])) rfl (hb hby d15_50) (by decide) (by decide)
        obtain ⟨a_71, g_72⟩ : ∃ z, z = h0.size := ⟨_, rfl⟩
        rw [← g_72] at A_68 D_69 st_70 U_73
        have CH_74 : CHv Z consts_1 s.vm h_64 := CHv.ext E_67 CH0
        have CR_75 : CHr Z consts_1 s.vm h0 s.vm h_64 := CR0.trans (CHr.ext E_67 CH0)
        obtain ⟨T_76, h_77, k_78, X_79, e_80, E_81, A_82, st_83⟩ := newP (aty := .char) X_65 hx hZ (w8 hw) e_66 (g := (mkF m 55 #[.val (.int p0), .val (.int p1), .val (.int p2), .val (.int (own_cw p1)), .val (.int (own_cx p1)), .val (.int (own_cw p2))] [(.int (2 : Int32)), (.ref a_71), (.ref a_71)])) rfl (hb hby d15_55) rfl (by decide : ¬ ((2 : Int32) < (0 : Int32))) (cap := 2) (by decide : (2 : Int32).toNatClampNeg ≤ 2) (by decide) (by decide) (by decide)
        obtain ⟨a_84, g_85⟩ : ∃ z, z = h_64.size := ⟨_, rfl⟩
        rw [← g_85] at A_82 st_83
        have CH_87 : CHv Z consts_1 s.vm h_77 := CHv.ext E_81 CH_74
        have CR_88 : CHr Z consts_1 s.vm h0 s.vm h_77 := CR_75.trans (CHr.ext E_81 CH_74)
        have V_89 : Arv Z h_77 a_84 k_78 .char (2 : Int32) [] (.int (0 : Int32)) := Arv.new A_82 (by decide : ¬ ((2 : Int32) < (0 : Int32)))
        have V_86 : Arv Z h_77 a_84 k_78 .char (2 : Int32) [(.int (0 : Int32)), (.int (0 : Int32))] (.int (0 : Int32)) := (V_89.pad (pad_rep [] (.int (0 : Int32)) 2))
        obtain ⟨c_90, A_91, q_92, S_93, M_94, H_95, U_96⟩ := id V_86
        have hin_103 : ¬ ((0 : Int32) < 0 ∨ c_90.slots.size ≤ (0 : Int32).toNatClampNeg) := inb_of S_93 ⟨(by decide : ¬ ((0 : Int32) < (0 : Int32))), (by decide : (0 : Int32) < (2 : Int32))⟩
        obtain ⟨T_97, h_98, X_99, e_100, W_101, st_102⟩ := stC X_79 hx hZ e_80 A_91 (j := (0 : Int32)) hin_103 (g := (mkF m 60 #[.val (.int p0), .val (.int p1), .val (.int p2), .val (.int (own_cw p1)), .val (.int (own_cx p1)), .val (.int (own_cw p2))] [(.int (own_cw p1)), (.int (0 : Int32)), (.ref a_84), (.ref a_84), (.ref a_71), (.ref a_71)])) rfl rfl (hb hby d15_60)
        have O_105 : Old Z n0 h_64 := (X00.ext E_67)
        have N_104 := Fr.snoc X_99 N0 (Nat.le_trans (own_n0 O_105) (Nat.le_of_eq g_85.symm))
        have CH_106 : CHv Z consts_1 s.vm h_98 := CHv.wr W_101 (Safe.arv hZ.alike V_86 (by decide)) CH_87
        have CR_107 : CHr Z consts_1 s.vm h0 s.vm h_98 := CR_88.trans (CHr.wr W_101 (Safe.arv hZ.alike V_86 (by decide)) CH_87)
        have V_108 : Arv Z h_98 a_84 k_78 .char (2 : Int32) [(.int (own_cw p1)), (.int (0 : Int32))] (.int (0 : Int32)) := by have q := Arv.set A_91 q_92 S_93 M_94 H_95 U_96 (fits_nar_char _) W_101 0 rfl (Nat.le_of_ble_eq_true rfl); rw [own_cw_nar] at q; exact q
        obtain ⟨c_109, A_110, q_111, S_112, M_113, H_114, U_115⟩ := id V_108
        have hin_122 : ¬ ((1 : Int32) < 0 ∨ c_109.slots.size ≤ (1 : Int32).toNatClampNeg) := inb_of S_112 ⟨(by decide : ¬ ((1 : Int32) < (0 : Int32))), (by decide : (1 : Int32) < (2 : Int32))⟩
        obtain ⟨T_116, h_117, X_118, e_119, W_120, st_121⟩ := stC X_99 hx hZ e_100 A_110 (j := (1 : Int32)) hin_122 (g := (mkF m 65 #[.val (.int p0), .val (.int p1), .val (.int p2), .val (.int (own_cw p1)), .val (.int (own_cx p1)), .val (.int (own_cw p2))] [(.int (own_cx p1)), (.int (1 : Int32)), (.ref a_84), (.ref a_84), (.ref a_71), (.ref a_71)])) rfl rfl (hb hby d15_65)
        have N_123 := Fr.snoc X_118 N_104 (Nat.le_trans (own_n0 O_105) (Nat.le_of_eq g_85.symm))
        have CH_124 : CHv Z consts_1 s.vm h_117 := CHv.wr W_120 (Safe.arv hZ.alike V_108 (by decide)) CH_106
        have CR_125 : CHr Z consts_1 s.vm h0 s.vm h_117 := CR_107.trans (CHr.wr W_120 (Safe.arv hZ.alike V_108 (by decide)) CH_106)
        have V_126 : Arv Z h_117 a_84 k_78 .char (2 : Int32) [(.int (own_cw p1)), (.int (own_cx p1))] (.int (0 : Int32)) := by have q := Arv.set A_110 q_111 S_112 M_113 H_114 U_115 (fits_nar_char _) W_120 1 rfl (Nat.le_of_ble_eq_true rfl); rw [own_cx_nar] at q; exact q
        have E_127 : Exa Z h_117 a_71 "java/lang/String" := (((A_68.ext E_81).wr W_101).wr W_120)
        have F_128 : Fld Z h_117 a_71 "java/lang/String" "value" "[B" .null := ((((D_69 (Or.inr (w21 hw)) (ty := (.array .byte)) (by decide)).ext E_81).other W_101 (Or.inl (Nat.ne_of_lt (Nat.lt_of_lt_of_le A_68.lt (Nat.le_trans (Nat.le_refl _) (Nat.le_of_eq g_85.symm)))))).other W_120 (Or.inl (Nat.ne_of_lt (Nat.lt_of_lt_of_le A_68.lt (Nat.le_trans (Nat.le_refl _) (Nat.le_of_eq g_85.symm))))))
        have F_129 : Fld Z h_117 a_71 "java/lang/String" "coder" "B" (.int (0 : Int32)) := ((((D_69 (Or.inr (w22 hw)) (ty := .byte) (by decide)).ext E_81).other W_101 (Or.inl (Nat.ne_of_lt (Nat.lt_of_lt_of_le A_68.lt (Nat.le_trans (Nat.le_refl _) (Nat.le_of_eq g_85.symm)))))).other W_120 (Or.inl (Nat.ne_of_lt (Nat.lt_of_lt_of_le A_68.lt (Nat.le_trans (Nat.le_refl _) (Nat.le_of_eq g_85.symm))))))
        have O_130 : Old Z n0 h_117 := (((O_105.ext E_81).wr W_101 (Nat.le_trans (own_n0 O_105) (Nat.le_of_eq g_85.symm))).wr W_120 (Nat.le_trans (own_n0 O_105) (Nat.le_of_eq g_85.symm)))
        obtain ⟨_, _, ⟨T_131, L_131, k_131, n_131⟩, -, X_131, ⟨Lc_131, hQ_131, l_131, y_131, z_131⟩, st_131⟩ := X_118.specialBack hx (y := M25) rfl hown (mvT hZ (w9 hw)) (mvT hZ (w10 hw)) (mvT hZ (w11 hw)) (by decide) (backOf (W := 1) (rm_si1u_2 l Z a0 hw [] G1 HG h_117 n0 O_130 a_71 a_84 k_78 (own_cw p1) (own_cx p1) E_127 F_128 F_129 (Nat.le_trans (own_n0 X00) (Nat.le_of_eq g_72.symm)) V_126 (own_cw_lo p1) (own_cx_lo p1) (own_cw_hi p1) (own_cx_hi p1)) hZ (w11 hw) (w7 hw) (by decide) (by decide)) (g := (mkF m 66 #[.val (.int p0), .val (.int p1), .val (.int p2), .val (.int (own_cw p1)), .val (.int (own_cx p1)), .val (.int (own_cw p2))] [(.ref a_84), (.ref a_71), (.ref a_71)])) rfl (by rw [hml]; rfl) (Steps.refl _) (a := a_71) (argsL := [(.ref a_84)]) (rest := [(.ref a_71)]) (lenOf pd_352 rfl) rfl (by show 2 * 0 + _ ≤ _; exact Nat.le_of_eq rfl) (hb hby d15_66) (fun _ _ => ⟨rfl, e_119, (by decide : 2 + 2 ≤ _), (by decide : 6 + 6 ≤ _)⟩)
        dsimp only [Pt.U, Pt.locs, Pt.cells, Pt.slots] at X_131 l_131 y_131 z_131 st_131 hQ_131
        subst l_131 y_131 z_131
        have C_132 : Steps p.tables e below S0 (T_116.setTop (mkF m 66 #[.val (.int p0), .val (.int p1), .val (.int p2), .val (.int (own_cw p1)), .val (.int (own_cx p1)), .val (.int (own_cw p2))] [(.ref a_84), (.ref a_71), (.ref a_71)])) := by
          refine C_61.trans ?_
          refine XS.icmpNo X0.here hx rfl (hb hby d15_47) rfl (ii_ne_f hc_62) ?_
          refine st_70 _ ?_
          refine XS.dup X_65.here hx rfl (hb hby d15_53) rfl rfl ?_
          refine XS.iconst X_65.here hx rfl (hb hby d15_54) ?_
          refine st_83 _ ?_
          refine XS.dup X_79.here hx rfl (hb hby d15_57) rfl rfl ?_
          refine XS.iconst X_79.here hx rfl (hb hby d15_58) ?_
          refine XS.iloadN X_79.here hx rfl (hb hby d15_59) rfl ?_
          show Steps p.tables e below (T_76.setTop (mkF m 60 #[.val (.int p0), .val (.int p1), .val (.int p2), .val (.int (own_cw p1)), .val (.int (own_cx p1)), .val (.int (own_cw p2))] [(.int (own_cw p1)), (.int (0 : Int32)), (.ref a_84), (.ref a_84), (.ref a_71), (.ref a_71)])) _
          refine st_102 _ ?_
          refine XS.dup X_99.here hx rfl (hb hby d15_61) rfl rfl ?_
          refine XS.iconst X_99.here hx rfl (hb hby d15_62) ?_
          refine XS.iload X_99.here hx rfl (hb hby d15_63) rfl ?_
          refine st_121 _ ?_
          exact Steps.refl _
        rcases hQ_131 with hQ_133 | hQ_134
        · skip
          obtain ⟨a_135, k_136, rfl, N_137, K_138, g_139, g_140, g_141, g_142, g_143⟩ := hQ_133
          have N_144 := Fr.app N_123 N_137
          have CH_145 : CHv Z consts_1 s.vm T_131.heap := CHv.keep K_138 (sfS (own_safe_null hZ.alike E_127 F_128) sf0) CH_124
          have CR_146 : CHr Z consts_1 s.vm h0 s.vm T_131.heap := CR_125.trans (CHr.keep K_138 (sfS (own_safe_null hZ.alike E_127 F_128) sf0) CH_124)
          have C_147 : Steps p.tables e below S0 (T_131.setTop (mkF m 69 #[.val (.int p0), .val (.int p1), .val (.int p2), .val (.int (own_cw p1)), .val (.int (own_cx p1)), .val (.int (own_cw p2))] [(.ref a_71)])) := by
            refine C_132.trans ?_
            refine st_131.trans ?_
            exact Steps.refl _
          have K_148 : Keep h0 T_131.heap [] := ((((((Keep.refl _ _).ext E_67).ext E_81).wr W_101 (Or.inr (Nat.le_trans E_67.1 (Nat.le_of_eq g_85.symm)))).wr W_120 (Or.inr (Nat.le_trans E_67.1 (Nat.le_of_eq g_85.symm)))).trans K_138 (allS (Or.inr (Nat.le_trans (Nat.le_refl _) (Nat.le_of_eq g_72.symm))) all0))
          obtain ⟨fs, hr, hrun, hended, hRE⟩ := X_131.leaveW hS0 (by rw [show T_131.heap = T_131.heap from rfl]; exact (Nat.le_trans (Nat.le_refl _) (Nat.le_trans (Nat.le_trans (Nat.le_trans (Nat.le_trans E_67.1 E_81.1) (Keep.of_wr W_101).1) (Keep.of_wr W_120).1) K_138.1))) (v := some (.ref a_71)) (fun h => by rw [Bd.returns] at h; cases h)
          refine ⟨_, _, C_147.trans (retOut X_131 hx Bd.returns rfl (Or.inr (Or.inr (Or.inr (Or.inr ⟨rfl, rfl, rfl⟩)))) (hb hby d15_69) hr), hrun, hended, _, _, rfl, ?_, ?_, hRE.1, hRE.2.1, hRE.2.2.1, hRE.2.2.2.mono (by decide) (by decide)⟩
          · show Q_draw Z G1 p0 p1 p2 h0 n0 (some (.ref a_71)) T_131.heap _
            exact ⟨a_71, rfl, N_144, K_148, g_139⟩
          · show CHr Z consts_1 s.vm s.heap T_131.vm T_131.heap
            rw [hh]
            exact CR_146.trans (CHv.at X_131 hZ hEL CH_145)
        · skip
          obtain ⟨a_149, k_150, rfl, N_151, K_152, g_153, g_154, g_155, g_156, g_157⟩ := hQ_134
          have N_158 := Fr.app N_123 N_151
          have CH_159 : CHv Z consts_1 s.vm T_131.heap := CHv.keep K_152 (sfS (own_safe_null hZ.alike E_127 F_128) sf0) CH_124
          have CR_160 : CHr Z consts_1 s.vm h0 s.vm T_131.heap := CR_125.trans (CHr.keep K_152 (sfS (own_safe_null hZ.alike E_127 F_128) sf0) CH_124)
          have C_161 : Steps p.tables e below S0 (T_131.setTop (mkF m 69 #[.val (.int p0), .val (.int p1), .val (.int p2), .val (.int (own_cw p1)), .val (.int (own_cx p1)), .val (.int (own_cw p2))] [(.ref a_71)])) := by
            refine C_132.trans ?_
            refine st_131.trans ?_
            exact Steps.refl _
          have K_162 : Keep h0 T_131.heap [] := ((((((Keep.refl _ _).ext E_67).ext E_81).wr W_101 (Or.inr (Nat.le_trans E_67.1 (Nat.le_of_eq g_85.symm)))).wr W_120 (Or.inr (Nat.le_trans E_67.1 (Nat.le_of_eq g_85.symm)))).trans K_152 (allS (Or.inr (Nat.le_trans (Nat.le_refl _) (Nat.le_of_eq g_72.symm))) all0))
          obtain ⟨fs, hr, hrun, hended, hRE⟩ := X_131.leaveW hS0 (by rw [show T_131.heap = T_131.heap from rfl]; exact (Nat.le_trans (Nat.le_refl _) (Nat.le_trans (Nat.le_trans (Nat.le_trans (Nat.le_trans E_67.1 E_81.1) (Keep.of_wr W_101).1) (Keep.of_wr W_120).1) K_152.1))) (v := some (.ref a_71)) (fun h => by rw [Bd.returns] at h; cases h)
          refine ⟨_, _, C_161.trans (retOut X_131 hx Bd.returns rfl (Or.inr (Or.inr (Or.inr (Or.inr ⟨rfl, rfl, rfl⟩)))) (hb hby d15_69) hr), hrun, hended, _, _, rfl, ?_, ?_, hRE.1, hRE.2.1, hRE.2.2.1, hRE.2.2.2.mono (by decide) (by decide)⟩
          · show Q_draw Z G1 p0 p1 p2 h0 n0 (some (.ref a_71)) T_131.heap _
            exact ⟨a_71, rfl, N_158, K_162, g_153⟩
          · show CHr Z consts_1 s.vm s.heap T_131.vm T_131.heap
            rw [hh]
            exact CR_160.trans (CHv.at X_131 hZ hEL CH_159)
      · skip
        obtain ⟨T_163, h_164, X_165, e_166, E_167, A_168, D_169, U_173, st_170⟩ := newO X0 hx hZ hown (w5 hw) (w6 hw) (w7 hw) e0 (g := (mkF m 70 #[.val (.int p0), .val (.int p1), .val (.int p2), .val (.int (own_cw p1)), .val (.int (own_cx p1)), .val (.int (own_cw p2))] [])) rfl (hb hby d15_70) (by decide) (by decide)
        obtain ⟨a_171, g_172⟩ : ∃ z, z = h0.size := ⟨_, rfl⟩
        rw [← g_172] at A_168 D_169 st_170 U_173
        have CH_174 : CHv Z consts_1 s.vm h_164 := CHv.ext E_167 CH0
        have CR_175 : CHr Z consts_1 s.vm h0 s.vm h_164 := CR0.trans (CHr.ext E_167 CH0)
        obtain ⟨T_176, h_177, k_178, X_179, e_180, E_181, A_182, st_183⟩ := newP (aty := .char) X_165 hx hZ (w8 hw) e_166 (g := (mkF m 75 #[.val (.int p0), .val (.int p1), .val (.int p2), .val (.int (own_cw p1)), .val (.int (own_cx p1)), .val (.int (own_cw p2))] [(.int (3 : Int32)), (.ref a_171), (.ref a_171)])) rfl (hb hby d15_75) rfl (by decide : ¬ ((3 : Int32) < (0 : Int32))) (cap := 3) (by decide : (3 : Int32).toNatClampNeg ≤ 3) (by decide) (by decide) (by decide)
        obtain ⟨a_184, g_185⟩ : ∃ z, z = h_164.size := ⟨_, rfl⟩
        rw [← g_185] at A_182 st_183
        have CH_187 : CHv Z consts_1 s.vm h_177 := CHv.ext E_181 CH_174
        have CR_188 : CHr Z consts_1 s.vm h0 s.vm h_177 := CR_175.trans (CHr.ext E_181 CH_174)
        have V_189 : Arv Z h_177 a_184 k_178 .char (3 : Int32) [] (.int (0 : Int32)) := Arv.new A_182 (by decide : ¬ ((3 : Int32) < (0 : Int32)))
        have V_186 : Arv Z h_177 a_184 k_178 .char (3 : Int32) [(.int (0 : Int32)), (.int (0 : Int32)), (.int (0 : Int32))] (.int (0 : Int32)) := (V_189.pad (pad_rep [] (.int (0 : Int32)) 3))
        obtain ⟨c_190, A_191, q_192, S_193, M_194, H_195, U_196⟩ := id V_186
        have hin_203 : ¬ ((0 : Int32) < 0 ∨ c_190.slots.size ≤ (0 : Int32).toNatClampNeg) := inb_of S_193 ⟨(by decide : ¬ ((0 : Int32) < (0 : Int32))), (by decide : (0 : Int32) < (3 : Int32))⟩
        obtain ⟨T_197, h_198, X_199, e_200, W_201, st_202⟩ := stC X_179 hx hZ e_180 A_191 (j := (0 : Int32)) hin_203 (g := (mkF m 80 #[.val (.int p0), .val (.int p1), .val (.int p2), .val (.int (own_cw p1)), .val (.int (own_cx p1)), .val (.int (own_cw p2))] [(.int (own_cw p1)), (.int (0 : Int32)), (.ref a_184), (.ref a_184), (.ref a_171), (.ref a_171)])) rfl rfl (hb hby d15_80)
        have O_205 : Old Z n0 h_164 := (X00.ext E_167)
        have N_204 := Fr.snoc X_199 N0 (Nat.le_trans (own_n0 O_205) (Nat.le_of_eq g_185.symm))
        have CH_206 : CHv Z consts_1 s.vm h_198 := CHv.wr W_201 (Safe.arv hZ.alike V_186 (by decide)) CH_187
        have CR_207 : CHr Z consts_1 s.vm h0 s.vm h_198 := CR_188.trans (CHr.wr W_201 (Safe.arv hZ.alike V_186 (by decide)) CH_187)
        have V_208 : Arv Z h_198 a_184 k_178 .char (3 : Int32) [(.int (own_cw p1)), (.int (0 : Int32)), (.int (0 : Int32))] (.int (0 : Int32)) := by have q := Arv.set A_191 q_192 S_193 M_194 H_195 U_196 (fits_nar_char _) W_201 0 rfl (Nat.le_of_ble_eq_true rfl); rw [own_cw_nar] at q; exact q
        obtain ⟨c_209, A_210, q_211, S_212, M_213, H_214, U_215⟩ := id V_208
        have hin_222 : ¬ ((1 : Int32) < 0 ∨ c_209.slots.size ≤ (1 : Int32).toNatClampNeg) := inb_of S_212 ⟨(by decide : ¬ ((1 : Int32) < (0 : Int32))), (by decide : (1 : Int32) < (3 : Int32))⟩
        obtain ⟨T_216, h_217, X_218, e_219, W_220, st_221⟩ := stC X_199 hx hZ e_200 A_210 (j := (1 : Int32)) hin_222 (g := (mkF m 85 #[.val (.int p0), .val (.int p1), .val (.int p2), .val (.int (own_cw p1)), .val (.int (own_cx p1)), .val (.int (own_cw p2))] [(.int (own_cx p1)), (.int (1 : Int32)), (.ref a_184), (.ref a_184), (.ref a_171), (.ref a_171)])) rfl rfl (hb hby d15_85)
        have N_223 := Fr.snoc X_218 N_204 (Nat.le_trans (own_n0 O_205) (Nat.le_of_eq g_185.symm))
        have CH_224 : CHv Z consts_1 s.vm h_217 := CHv.wr W_220 (Safe.arv hZ.alike V_208 (by decide)) CH_206
        have CR_225 : CHr Z consts_1 s.vm h0 s.vm h_217 := CR_207.trans (CHr.wr W_220 (Safe.arv hZ.alike V_208 (by decide)) CH_206)
        have V_226 : Arv Z h_217 a_184 k_178 .char (3 : Int32) [(.int (own_cw p1)), (.int (own_cx p1)), (.int (0 : Int32))] (.int (0 : Int32)) := by have q := Arv.set A_210 q_211 S_212 M_213 H_214 U_215 (fits_nar_char _) W_220 1 rfl (Nat.le_of_ble_eq_true rfl); rw [own_cx_nar] at q; exact q
        obtain ⟨c_227, A_228, q_229, S_230, M_231, H_232, U_233⟩ := id V_226
        have hin_240 : ¬ ((2 : Int32) < 0 ∨ c_227.slots.size ≤ (2 : Int32).toNatClampNeg) := inb_of S_230 ⟨(by decide : ¬ ((2 : Int32) < (0 : Int32))), (by decide : (2 : Int32) < (3 : Int32))⟩
        obtain ⟨T_234, h_235, X_236, e_237, W_238, st_239⟩ := stC X_218 hx hZ e_219 A_228 (j := (2 : Int32)) hin_240 (g := (mkF m 90 #[.val (.int p0), .val (.int p1), .val (.int p2), .val (.int (own_cw p1)), .val (.int (own_cx p1)), .val (.int (own_cw p2))] [(.int (own_cw p2)), (.int (2 : Int32)), (.ref a_184), (.ref a_184), (.ref a_171), (.ref a_171)])) rfl rfl (hb hby d15_90)
        have N_241 := Fr.snoc X_236 N_223 (Nat.le_trans (own_n0 O_205) (Nat.le_of_eq g_185.symm))
        have CH_242 : CHv Z consts_1 s.vm h_235 := CHv.wr W_238 (Safe.arv hZ.alike V_226 (by decide)) CH_224
        have CR_243 : CHr Z consts_1 s.vm h0 s.vm h_235 := CR_225.trans (CHr.wr W_238 (Safe.arv hZ.alike V_226 (by decide)) CH_224)
        have V_244 : Arv Z h_235 a_184 k_178 .char (3 : Int32) [(.int (own_cw p1)), (.int (own_cx p1)), (.int (own_cw p2))] (.int (0 : Int32)) := by have q := Arv.set A_228 q_229 S_230 M_231 H_232 U_233 (fits_nar_char _) W_238 2 rfl (Nat.le_of_ble_eq_true rfl); rw [own_cw_nar] at q; exact q
        have E_245 : Exa Z h_235 a_171 "java/lang/String" := ((((A_168.ext E_181).wr W_201).wr W_220).wr W_238)
        have F_246 : Fld Z h_235 a_171 "java/lang/String" "value" "[B" .null := (((((D_169 (Or.inr (w21 hw)) (ty := (.array .byte)) (by decide)).ext E_181).other W_201 (Or.inl (Nat.ne_of_lt (Nat.lt_of_lt_of_le A_168.lt (Nat.le_trans (Nat.le_refl _) (Nat.le_of_eq g_185.symm)))))).other W_220 (Or.inl (Nat.ne_of_lt (Nat.lt_of_lt_of_le A_168.lt (Nat.le_trans (Nat.le_refl _) (Nat.le_of_eq g_185.symm)))))).other W_238 (Or.inl (Nat.ne_of_lt (Nat.lt_of_lt_of_le A_168.lt (Nat.le_trans (Nat.le_refl _) (Nat.le_of_eq g_185.symm))))))
        have F_247 : Fld Z h_235 a_171 "java/lang/String" "coder" "B" (.int (0 : Int32)) := (((((D_169 (Or.inr (w22 hw)) (ty := .byte) (by decide)).ext E_181).other W_201 (Or.inl (Nat.ne_of_lt (Nat.lt_of_lt_of_le A_168.lt (Nat.le_trans (Nat.le_refl _) (Nat.le_of_eq g_185.symm)))))).other W_220 (Or.inl (Nat.ne_of_lt (Nat.lt_of_lt_of_le A_168.lt (Nat.le_trans (Nat.le_refl _) (Nat.le_of_eq g_185.symm)))))).other W_238 (Or.inl (Nat.ne_of_lt (Nat.lt_of_lt_of_le A_168.lt (Nat.le_trans (Nat.le_refl _) (Nat.le_of_eq g_185.symm))))))
        have O_248 : Old Z n0 h_235 := ((((O_205.ext E_181).wr W_201 (Nat.le_trans (own_n0 O_205) (Nat.le_of_eq g_185.symm))).wr W_220 (Nat.le_trans (own_n0 O_205) (Nat.le_of_eq g_185.symm))).wr W_238 (Nat.le_trans (own_n0 O_205) (Nat.le_of_eq g_185.symm)))
        obtain ⟨_, _, ⟨T_249, L_249, k_249, n_249⟩, -, X_249, ⟨Lc_249, hQ_249, l_249, y_249, z_249⟩, st_249⟩ := X_236.specialBack hx (y := M25) rfl hown (mvT hZ (w9 hw)) (mvT hZ (w10 hw)) (mvT hZ (w11 hw)) (by decide) (backOf (W := 1) (rm_si1u_3 l Z a0 hw [] G1 HG h_235 n0 O_248 a_171 a_184 k_178 (own_cw p1) (own_cx p1) (own_cw p2) E_245 F_246 F_247 (Nat.le_trans (own_n0 X00) (Nat.le_of_eq g_172.symm)) V_244 (own_cw_lo p1) (own_cx_lo p1) (own_cw_lo p2) (own_cw_hi p1) (own_cx_hi p1) (own_cw_hi p2)) hZ (w11 hw) (w7 hw) (by decide) (by decide)) (g := (mkF m 91 #[.val (.int p0), .val (.int p1), .val (.int p2), .val (.int (own_cw p1)), .val (.int (own_cx p1)), .val (.int (own_cw p2))] [(.ref a_184), (.ref a_171), (.ref a_171)])) rfl (by rw [hml]; rfl) (Steps.refl _) (a := a_171) (argsL := [(.ref a_184)]) (rest := [(.ref a_171)]) (lenOf pd_352 rfl) rfl (by show 2 * 0 + _ ≤ _; exact Nat.le_of_eq rfl) (hb hby d15_91) (fun _ _ => ⟨rfl, e_237, (by decide : 2 + 2 ≤ _), (by decide : 7 + 9 ≤ _)⟩)
        dsimp only [Pt.U, Pt.locs, Pt.cells, Pt.slots] at X_249 l_249 y_249 z_249 st_249 hQ_249
        subst l_249 y_249 z_249
        have C_250 : Steps p.tables e below S0 (T_234.setTop (mkF m 91 #[.val (.int p0), .val (.int p1), .val (.int p2), .val (.int (own_cw p1)), .val (.int (own_cx p1)), .val (.int (own_cw p2))] [(.ref a_184), (.ref a_171), (.ref a_171)])) := by
          refine C_61.trans ?_
          refine XS.icmpYes X0.here hx rfl (pc0 := 47) (pc' := 70) rfl (hb hby d15_47) rfl (ii_ne_t hc_62) (by decide) (by decide) ?_
          refine st_170 _ ?_
          refine XS.dup X_165.here hx rfl (hb hby d15_73) rfl rfl ?_
          refine XS.iconst X_165.here hx rfl (hb hby d15_74) ?_
          refine st_183 _ ?_
          refine XS.dup X_179.here hx rfl (hb hby d15_77) rfl rfl ?_
          refine XS.iconst X_179.here hx rfl (hb hby d15_78) ?_
          refine XS.iloadN X_179.here hx rfl (hb hby d15_79) rfl ?_
          show Steps p.tables e below (T_176.setTop (mkF m 80 #[.val (.int p0), .val (.int p1), .val (.int p2), .val (.int (own_cw p1)), .val (.int (own_cx p1)), .val (.int (own_cw p2))] [(.int (own_cw p1)), (.int (0 : Int32)), (.ref a_184), (.ref a_184), (.ref a_171), (.ref a_171)])) _
          refine st_202 _ ?_
          refine XS.dup X_199.here hx rfl (hb hby d15_81) rfl rfl ?_
          refine XS.iconst X_199.here hx rfl (hb hby d15_82) ?_
          refine XS.iload X_199.here hx rfl (hb hby d15_83) rfl ?_
          refine st_221 _ ?_
          refine XS.dup X_218.here hx rfl (hb hby d15_86) rfl rfl ?_
          refine XS.iconst X_218.here hx rfl (hb hby d15_87) ?_
          refine XS.iload X_218.here hx rfl (hb hby d15_88) rfl ?_
          show Steps p.tables e below (T_216.setTop (mkF m 90 #[.val (.int p0), .val (.int p1), .val (.int p2), .val (.int (own_cw p1)), .val (.int (own_cx p1)), .val (.int (own_cw p2))] [(.int (own_cw p2)), (.int (2 : Int32)), (.ref a_184), (.ref a_184), (.ref a_171), (.ref a_171)])) _
          refine st_239 _ ?_
          exact Steps.refl _
        rcases hQ_249 with hQ_251 | hQ_252
        · skip
          obtain ⟨a_253, k_254, rfl, N_255, K_256, g_257, g_258, g_259, g_260, g_261⟩ := hQ_251
          have N_262 := Fr.app N_241 N_255
          have CH_263 : CHv Z consts_1 s.vm T_249.heap := CHv.keep K_256 (sfS (own_safe_null hZ.alike E_245 F_246) sf0) CH_242
          have CR_264 : CHr Z consts_1 s.vm h0 s.vm T_249.heap := CR_243.trans (CHr.keep K_256 (sfS (own_safe_null hZ.alike E_245 F_246) sf0) CH_242)
          have C_265 : Steps p.tables e below S0 (T_249.setTop (mkF m 94 #[.val (.int p0), .val (.int p1), .val (.int p2), .val (.int (own_cw p1)), .val (.int (own_cx p1)), .val (.int (own_cw p2))] [(.ref a_171)])) := by
            refine C_250.trans ?_
            refine st_249.trans ?_
            exact Steps.refl _
          have K_266 : Keep h0 T_249.heap [] := (((((((Keep.refl _ _).ext E_167).ext E_181).wr W_201 (Or.inr (Nat.le_trans E_167.1 (Nat.le_of_eq g_185.symm)))).wr W_220 (Or.inr (Nat.le_trans E_167.1 (Nat.le_of_eq g_185.symm)))).wr W_238 (Or.inr (Nat.le_trans E_167.1 (Nat.le_of_eq g_185.symm)))).trans K_256 (allS (Or.inr (Nat.le_trans (Nat.le_refl _) (Nat.le_of_eq g_172.symm))) all0))
          obtain ⟨fs, hr, hrun, hended, hRE⟩ := X_249.leaveW hS0 (by rw [show T_249.heap = T_249.heap from rfl]; exact (Nat.le_trans (Nat.le_refl _) (Nat.le_trans (Nat.le_trans (Nat.le_trans (Nat.le_trans (Nat.le_trans E_167.1 E_181.1) (Keep.of_wr W_201).1) (Keep.of_wr W_220).1) (Keep.of_wr W_238).1) K_256.1))) (v := some (.ref a_171)) (fun h => by rw [Bd.returns] at h; cases h)
          refine ⟨_, _, C_265.trans (retOut X_249 hx Bd.returns rfl (Or.inr (Or.inr (Or.inr (Or.inr ⟨rfl, rfl, rfl⟩)))) (hb hby d15_94) hr), hrun, hended, _, _, rfl, ?_, ?_, hRE.1, hRE.2.1, hRE.2.2.1, hRE.2.2.2.mono (by decide) (by decide)⟩
          · show Q_draw Z G1 p0 p1 p2 h0 n0 (some (.ref a_171)) T_249.heap _
            exact ⟨a_171, rfl, N_262, K_266, g_257⟩
          · show CHr Z consts_1 s.vm s.heap T_249.vm T_249.heap
            rw [hh]
            exact CR_264.trans (CHv.at X_249 hZ hEL CH_263)
        · skip
          obtain ⟨a_267, k_268, rfl, N_269, K_270, g_271, g_272, g_273, g_274, g_275⟩ := hQ_252
          have N_276 := Fr.app N_241 N_269
          have CH_277 : CHv Z consts_1 s.vm T_249.heap := CHv.keep K_270 (sfS (own_safe_null hZ.alike E_245 F_246) sf0) CH_242
          have CR_278 : CHr Z consts_1 s.vm h0 s.vm T_249.heap := CR_243.trans (CHr.keep K_270 (sfS (own_safe_null hZ.alike E_245 F_246) sf0) CH_242)
          have C_279 : Steps p.tables e below S0 (T_249.setTop (mkF m 94 #[.val (.int p0), .val (.int p1), .val (.int p2), .val (.int (own_cw p1)), .val (.int (own_cx p1)), .val (.int (own_cw p2))] [(.ref a_171)])) := by
            refine C_250.trans ?_
            refine st_249.trans ?_
            exact Steps.refl _
          have K_280 : Keep h0 T_249.heap [] := (((((((Keep.refl _ _).ext E_167).ext E_181).wr W_201 (Or.inr (Nat.le_trans E_167.1 (Nat.le_of_eq g_185.symm)))).wr W_220 (Or.inr (Nat.le_trans E_167.1 (Nat.le_of_eq g_185.symm)))).wr W_238 (Or.inr (Nat.le_trans E_167.1 (Nat.le_of_eq g_185.symm)))).trans K_270 (allS (Or.inr (Nat.le_trans (Nat.le_refl _) (Nat.le_of_eq g_172.symm))) all0))
          obtain ⟨fs, hr, hrun, hended, hRE⟩ := X_249.leaveW hS0 (by rw [show T_249.heap = T_249.heap from rfl]; exact (Nat.le_trans (Nat.le_refl _) (Nat.le_trans (Nat.le_trans (Nat.le_trans (Nat.le_trans (Nat.le_trans E_167.1 E_181.1) (Keep.of_wr W_201).1) (Keep.of_wr W_220).1) (Keep.of_wr W_238).1) K_270.1))) (v := some (.ref a_171)) (fun h => by rw [Bd.returns] at h; cases h)
          refine ⟨_, _, C_279.trans (retOut X_249 hx Bd.returns rfl (Or.inr (Or.inr (Or.inr (Or.inr ⟨rfl, rfl, rfl⟩)))) (hb hby d15_94) hr), hrun, hended, _, _, rfl, ?_, ?_, hRE.1, hRE.2.1, hRE.2.2.1, hRE.2.2.2.mono (by decide) (by decide)⟩
          · show Q_draw Z G1 p0 p1 p2 h0 n0 (some (.ref a_171)) T_249.heap _
            exact ⟨a_171, rfl, N_276, K_280, g_271⟩
          · show CHr Z consts_1 s.vm s.heap T_249.vm T_249.heap
            rw [hh]
            exact CR_278.trans (CHv.at X_249 hZ hEL CH_277)
abbrev M402 : MethodName := ⟨"com/example/expiring_state/expiringstate/RulesOfPinLaw", "capOf", "(I)I"⟩
theorem d16_0 : decode method_3_code 0 = .ok (.iload_n 0, 1) := by decide +kernel
theorem w30 {Z : State} {a0 : Array Value} (hw : ∀ d ∈ tables_1, d.before a0 Z = true) : Jvm.Cond.before (Jvm.Cond.constant "com/example/expiring_state/expiringstate/RulesOfPinLaw" (17 : Nat) (2147483647 : Int32)) a0 Z = true := hw _ (List.mem_of_getElem? (i := 30) rfl)
theorem d16_1 : decode method_3_code 1 = .ok (.ldc 17, 2) := by decide +kernel
theorem d16_3 : decode method_3_code 3 = .ok (.iand, 1) := by decide +kernel
theorem d16_4 : decode method_3_code 4 = .ok (.istore_n 1, 1) := by decide +kernel
theorem d16_5 : decode method_3_code 5 = .ok (.iload_n 1, 1) := by decide +kernel
theorem d16_6 : decode method_3_code 6 = .ok (.ifCond .ne 5, 3) := by decide +kernel
theorem d16_9 : decode method_3_code 9 = .ok (.iconst 1, 1) := by decide +kernel
theorem d16_10 : decode method_3_code 10 = .ok (.istore_n 1, 1) := by decide +kernel
theorem d16_11 : decode method_3_code 11 = .ok (.iload_n 1, 1) := by decide +kernel
theorem d16_12 : decode method_3_code 12 = .ok (.ireturn, 1) := by decide +kernel
abbrev R_cap : Room := { frames := 0, cells := 0, slots := 0, locals := 0 }
def Q_cap (Z : State) (G1 : Int32) (p0 : Int32) (h0 : Heap) (n0 : Nat) (v : Option Value) (h : Heap) (L : List Loc) : Prop := (∃ vv : Int32, v = some (.int vv) ∧ Fr n0 L ∧ h = h0 ∧ (¬ (vv < (1 : Int32))))
set_option maxRecDepth 65536 in
set_option maxHeartbeats 40000000 in
theorem rm_cap (l : Launch) (Z : State) (a0 : Array Value) (hw : ∀ d ∈ tables_1, d.before a0 Z = true) (ws : List Jvm.Cond) (G1 : Int32) (HG : own_G l Z a0 G1) (h0 : Heap) (n0 : Nat) (X00 : Old Z n0 h0) (p0 : Int32)  :
    own_CP l Z M402 method_3_code 2 (some .int) ws R_cap #[(.int p0)] h0 (Q_cap Z G1 p0 h0 n0) := by
  refine own_P (plainFor_of_name pn_326) ?_
  intro p e s m below meth c s₁ S0 Bd hZ hh hx hby hml hown hnm X0 e0 hS0d
  obtain ⟨O1, P1, OAD, OHI, OLO⟩ := id HG
  have N0 := Fr.nil n0
  have C0 : Steps p.tables e below S0 (s₁.setTop (mkF m 0 #[.val (.int p0), .unset] [])) := by rw [hS0d]; exact castTop (ef_266 m p0) (Steps.refl _)
  have C_1 : Steps p.tables e below S0 (s₁.setTop (mkF m 6 #[.val (.int p0), .val (.int (p0 &&& (2147483647 : Int32)))] [(.int (p0 &&& (2147483647 : Int32)))])) := by
    refine C0.trans ?_
    refine XS.iloadN X0.here hx rfl (hb hby d16_0) rfl ?_
    refine X0.ldcI hx hown (mvT hZ (w30 hw)) rfl (hb hby d16_1) ?_
    refine XS.iand X0.here hx rfl (hb hby d16_3) rfl ?_
    refine XS.istoreN X0.here hx rfl (hb hby d16_4) rfl (l' := #[.val (.int p0), .val (.int (p0 &&& (2147483647 : Int32)))]) rfl ?_
    refine XS.iloadN X0.here hx rfl (hb hby d16_5) rfl ?_
    exact Steps.refl _
  by_cases hc_2 : (p0 &&& (2147483647 : Int32)) = (0 : Int32)
  · skip
    have C_3 : Steps p.tables e below S0 (s₁.setTop (mkF m 12 #[.val (.int p0), .val (.int (1 : Int32))] [(.int (1 : Int32))])) := by
      refine C_1.trans ?_
      refine XS.ifNo X0.here hx rfl (hb hby d16_6) rfl (i0_ne_f hc_2) ?_
      refine XS.iconst X0.here hx rfl (hb hby d16_9) ?_
      refine XS.istoreN X0.here hx rfl (hb hby d16_10) rfl (l' := #[.val (.int p0), .val (.int (1 : Int32))]) rfl ?_
      refine XS.iloadN X0.here hx rfl (hb hby d16_11) rfl ?_
      exact Steps.refl _
    obtain ⟨fs, hr, hrun, hended, hW, hsame⟩ := X0.leave (v := some (.int (1 : Int32))) (fun h => by rw [Bd.returns] at h; cases h)
    refine ⟨_, _, C_3.trans (retOut X0 hx Bd.returns rfl (Or.inl ⟨rfl, Or.inl rfl, _, rfl⟩) (hb hby d16_12) hr), hrun, hended, _, _, rfl, ?_, ⟨_, rfl⟩, hW, hsame.mono (by decide) (by decide)⟩
    show Q_cap Z G1 p0 h0 n0 (some (.int (1 : Int32))) s₁.heap _
    rw [e0]
    exact ⟨(1 : Int32), rfl, N0, rfl, (by decide)⟩
  · skip
    have C_4 : Steps p.tables e below S0 (s₁.setTop (mkF m 12 #[.val (.int p0), .val (.int (p0 &&& (2147483647 : Int32)))] [(.int (p0 &&& (2147483647 : Int32)))])) := by
      refine C_1.trans ?_
      refine XS.ifYes X0.here hx rfl (pc0 := 6) (pc' := 11) rfl (hb hby d16_6) rfl (i0_ne_t hc_2) (by decide) (by decide) ?_
      refine XS.iloadN X0.here hx rfl (hb hby d16_11) rfl ?_
      exact Steps.refl _
    obtain ⟨fs, hr, hrun, hended, hW, hsame⟩ := X0.leave (v := some (.int (p0 &&& (2147483647 : Int32)))) (fun h => by rw [Bd.returns] at h; cases h)
    refine ⟨_, _, C_4.trans (retOut X0 hx Bd.returns rfl (Or.inl ⟨rfl, Or.inl rfl, _, rfl⟩) (hb hby d16_12) hr), hrun, hended, _, _, rfl, ?_, ⟨_, rfl⟩, hW, hsame.mono (by decide) (by decide)⟩
    show Q_cap Z G1 p0 h0 n0 (some (.int (p0 &&& (2147483647 : Int32)))) s₁.heap _
    rw [e0]
    exact ⟨(p0 &&& (2147483647 : Int32)), rfl, N0, rfl, (own_cap hc_2)⟩
abbrev M414 : MethodName := ⟨"java/util/Objects", "requireNonNull", "(Ljava/lang/Object;Ljava/lang/String;)Ljava/lang/Object;"⟩
theorem pn_415 : plainName "java/util/Objects" = true := by first | (simp [plainName, overriddenIn]; done) | decide +kernel
theorem d17_0 : decode jdk_31_method_11_code 0 = .ok (.aload_n 0, 1) := by decide +kernel
theorem d17_1 : decode jdk_31_method_11_code 1 = .ok (.ifnonnull 12, 3) := by decide +kernel
theorem d17_13 : decode jdk_31_method_11_code 13 = .ok (.aload_n 0, 1) := by decide +kernel
theorem d17_14 : decode jdk_31_method_11_code 14 = .ok (.areturn, 1) := by decide +kernel
abbrev R_rnn : Room := { frames := 0, cells := 0, slots := 0, locals := 0 }
def Q_rnn (Z : State) (G1 : Int32) (o : Addr) (q : Addr) (h0 : Heap) (n0 : Nat) (v : Option Value) (h : Heap) (L : List Loc) : Prop := (v = some (.ref o) ∧ Fr n0 L ∧ h = h0)
set_option maxRecDepth 65536 in
set_option maxHeartbeats 40000000 in
theorem rm_rnn (l : Launch) (Z : State) (a0 : Array Value) (hw : ∀ d ∈ tables_1, d.before a0 Z = true) (ws : List Jvm.Cond) (G1 : Int32) (HG : own_G l Z a0 G1) (h0 : Heap) (n0 : Nat) (X00 : Old Z n0 h0) (o : Addr) (q : Addr)  :
    own_CP l Z M414 jdk_31_method_11_code 2 (some (.object "java/lang/Object")) ws R_rnn #[(.ref o), (.ref q)] h0 (Q_rnn Z G1 o q h0 n0) := by
  refine own_P (plainFor_of_name pn_415) ?_
  intro p e s m below meth c s₁ S0 Bd hZ hh hx hby hml hown hnm X0 e0 hS0d
  obtain ⟨O1, P1, OAD, OHI, OLO⟩ := id HG
  have N0 := Fr.nil n0
  have C0 : Steps p.tables e below S0 (s₁.setTop (mkF m 0 #[.val (.ref o), .val (.ref q)] [])) := by rw [hS0d]; exact castTop (ef_26 m o q) (Steps.refl _)
  have C_1 : Steps p.tables e below S0 (s₁.setTop (mkF m 14 #[.val (.ref o), .val (.ref q)] [(.ref o)])) := by
    refine C0.trans ?_
    refine XS.aloadN X0.here hx rfl (hb hby d17_0) rfl rfl ?_
    refine XS.ifnonnullYes X0.here hx rfl (pc0 := 1) (pc' := 13) rfl (hb hby d17_1) rfl (by decide) (by decide) ?_
    refine XS.aloadN X0.here hx rfl (hb hby d17_13) rfl rfl ?_
    exact Steps.refl _
  obtain ⟨fs, hr, hrun, hended, hW, hsame⟩ := X0.leave (v := some (.ref o)) (fun h => by rw [Bd.returns] at h; cases h)
  refine ⟨_, _, C_1.trans (retOut X0 hx Bd.returns rfl (Or.inr (Or.inr (Or.inr (Or.inr ⟨rfl, rfl, rfl⟩)))) (hb hby d17_14) hr), hrun, hended, _, _, rfl, ?_, ⟨_, rfl⟩, hW, hsame.mono (by decide) (by decide)⟩
  show Q_rnn Z G1 o q h0 n0 (some (.ref o)) s₁.heap _
  rw [e0]
  exact ⟨rfl, N0, rfl⟩
abbrev M420 : MethodName := ⟨"com/example/expiring_state/expiringstate/ExpiringSet$Rules", "<init>", "(Ljava/lang/String;I)V"⟩
theorem pn_421 : plainName "com/example/expiring_state/expiringstate/ExpiringSet$Rules" = true := by first | (simp [plainName, overriddenIn]; done) | decide +kernel
theorem d18_0 : decode prog_10_method_1_code 0 = .ok (.aload_n 0, 1) := by decide +kernel
theorem w45 {Z : State} {a0 : Array Value} (hw : ∀ d ∈ tables_1, d.before a0 Z = true) : Jvm.Cond.before (Jvm.Cond.methodLink "com/example/expiring_state/expiringstate/ExpiringSet$Rules" (1 : Nat) ({ cls := "java/lang/Object", name := "<init>", desc := "()V" } : Jvm.MethodName)) a0 Z = true := hw _ (List.mem_of_getElem? (i := 45) rfl)
theorem d18_1 : decode prog_10_method_1_code 1 = .ok (.invokespecial 1, 3) := by decide +kernel
theorem d18_4 : decode prog_10_method_1_code 4 = .ok (.aload_n 0, 1) := by decide +kernel
theorem d18_5 : decode prog_10_method_1_code 5 = .ok (.aload_n 1, 1) := by decide +kernel
theorem w46 {Z : State} {a0 : Array Value} (hw : ∀ d ∈ tables_1, d.before a0 Z = true) : Jvm.Cond.before (Jvm.Cond.fieldLink "com/example/expiring_state/expiringstate/ExpiringSet$Rules" (7 : Nat) "com/example/expiring_state/expiringstate/ExpiringSet$Rules" "name" "Ljava/lang/String;") a0 Z = true := hw _ (List.mem_of_getElem? (i := 46) rfl)
theorem w47 {Z : State} {a0 : Array Value} (hw : ∀ d ∈ tables_1, d.before a0 Z = true) : Jvm.Cond.before (Jvm.Cond.laysFinal "com/example/expiring_state/expiringstate/ExpiringSet$Rules" "com/example/expiring_state/expiringstate/ExpiringSet$Rules" "name" "Ljava/lang/String;") a0 Z = true := hw _ (List.mem_of_getElem? (i := 47) rfl)
theorem w41 {Z : State} {a0 : Array Value} (hw : ∀ d ∈ tables_1, d.before a0 Z = true) : Jvm.Cond.before (Jvm.Cond.instantiable "com/example/expiring_state/expiringstate/ExpiringSet$Rules" (2 : Nat)) a0 Z = true := hw _ (List.mem_of_getElem? (i := 41) rfl)
theorem d18_6 : decode prog_10_method_1_code 6 = .ok (.putfield 7, 3) := by decide +kernel
theorem d18_9 : decode prog_10_method_1_code 9 = .ok (.aload_n 0, 1) := by decide +kernel
theorem d18_10 : decode prog_10_method_1_code 10 = .ok (.iload_n 2, 1) := by decide +kernel
theorem w48 {Z : State} {a0 : Array Value} (hw : ∀ d ∈ tables_1, d.before a0 Z = true) : Jvm.Cond.before (Jvm.Cond.fieldLink "com/example/expiring_state/expiringstate/ExpiringSet$Rules" (13 : Nat) "com/example/expiring_state/expiringstate/ExpiringSet$Rules" "cap" "I") a0 Z = true := hw _ (List.mem_of_getElem? (i := 48) rfl)
theorem w49 {Z : State} {a0 : Array Value} (hw : ∀ d ∈ tables_1, d.before a0 Z = true) : Jvm.Cond.before (Jvm.Cond.laysFinal "com/example/expiring_state/expiringstate/ExpiringSet$Rules" "com/example/expiring_state/expiringstate/ExpiringSet$Rules" "cap" "I") a0 Z = true := hw _ (List.mem_of_getElem? (i := 49) rfl)
theorem d18_11 : decode prog_10_method_1_code 11 = .ok (.putfield 13, 3) := by decide +kernel
theorem d18_14 : decode prog_10_method_1_code 14 = .ok (.return_, 1) := by decide +kernel
abbrev R_rinit : Room := { frames := 1, cells := 0, slots := 0, locals := 12 }
def Q_rinit (Z : State) (G1 : Int32) (d : Addr) (r : Addr) (vv : Int32) (h0 : Heap) (n0 : Nat) (v : Option Value) (h : Heap) (L : List Loc) : Prop := (v = none ∧ Fr n0 L ∧ Keep h0 h [d] ∧ (Fld Z h d "com/example/expiring_state/expiringstate/ExpiringSet$Rules" "name" "Ljava/lang/String;" (.ref r)) ∧ (Fld Z h d "com/example/expiring_state/expiringstate/ExpiringSet$Rules" "cap" "I" (.int vv)))
set_option maxRecDepth 65536 in
set_option maxHeartbeats 40000000 in
theorem rm_rinit (l : Launch) (Z : State) (a0 : Array Value) (hw : ∀ d ∈ tables_1, d.before a0 Z = true) (ws : List Jvm.Cond) (G1 : Int32) (HG : own_G l Z a0 G1) (h0 : Heap) (n0 : Nat) (X00 : Old Z n0 h0) (d : Addr) (r : Addr) (vv : Int32) (hp0 : Exa Z h0 d "com/example/expiring_state/expiringstate/ExpiringSet$Rules") (hp1 : Fld Z h0 d "com/example/expiring_state/expiringstate/ExpiringSet$Rules" "name" "Ljava/lang/String;" .null) (hp2 : Fld Z h0 d "com/example/expiring_state/expiringstate/ExpiringSet$Rules" "cap" "I" (.int (0 : Int32))) (hp3 : n0 ≤ d) :
    own_CP l Z M420 prog_10_method_1_code 3 none ws R_rinit #[(.ref d), (.ref r), (.int vv)] h0 (Q_rinit Z G1 d r vv h0 n0) := by
  refine own_P (plainFor_of_name pn_421) ?_
  intro p e s m below meth c s₁ S0 Bd hZ hh hx hby hml hown hnm X0 e0 hS0d
  obtain ⟨O1, P1, OAD, OHI, OLO⟩ := id HG
  have N0 := Fr.nil n0
  have C0 : Steps p.tables e below S0 (s₁.setTop (mkF m 0 #[.val (.ref d), .val (.ref r), .val (.int vv)] [])) := by rw [hS0d]; exact castTop (ef_277 m d r vv) (Steps.refl _)
  obtain ⟨T_1, X_2, e_3, st_4⟩ := initO X0 hx hZ hown (w45 hw) (w17 hw) (w18 hw) e0 (g := (mkF m 1 #[.val (.ref d), .val (.ref r), .val (.int vv)] [(.ref d)])) rfl (by rw [hml]; rfl) rfl (hb hby d18_1) (by decide) (W := 0) (by show 2 * 0 + _ ≤ _; exact Nat.le_of_eq rfl) (by decide)
  obtain ⟨T_5, h_6, X_7, e_8, W_9, st_10⟩ := putF X_2 hx hZ hown (host := "") (Or.inl (w46 hw)) Via.refl e_3 hp1 hp0 (Or.inr ⟨(w47 hw), rfl, hnm⟩) (w41 hw) (ty := (.object "java/lang/String")) (by decide) rfl rfl (g := (mkF m 6 #[.val (.ref d), .val (.ref r), .val (.int vv)] [(.ref r), (.ref d)])) rfl rfl (hb hby d18_6)
  have N_11 := Fr.snoc X_7 N0 hp3
  have F_12 : Fld Z h_6 d "com/example/expiring_state/expiringstate/ExpiringSet$Rules" "name" "Ljava/lang/String;" (.ref r) := hp1.same W_9
  have F_13 : Fld Z h_6 d "com/example/expiring_state/expiringstate/ExpiringSet$Rules" "cap" "I" (.int (0 : Int32)) := (hp2.other W_9 (Or.inr (slot_ne (Or.inr (w49 hw)) (Or.inr (w47 hw)) (by decide) (t := .int) (by decide) (t' := (.object "java/lang/String")) (by decide))))
  have E_14 : Exa Z h_6 d "com/example/expiring_state/expiringstate/ExpiringSet$Rules" := (hp0.wr W_9)
  obtain ⟨T_15, h_16, X_17, e_18, W_19, st_20⟩ := putF X_7 hx hZ hown (host := "") (Or.inl (w48 hw)) Via.refl e_8 F_13 E_14 (Or.inr ⟨(w49 hw), rfl, hnm⟩) (w41 hw) (ty := .int) (by decide) rfl rfl (g := (mkF m 11 #[.val (.ref d), .val (.ref r), .val (.int vv)] [(.int vv), (.ref d)])) rfl rfl (hb hby d18_11)
  have N_21 := Fr.snoc X_17 N_11 hp3
  have F_22 : Fld Z h_16 d "com/example/expiring_state/expiringstate/ExpiringSet$Rules" "cap" "I" (.int vv) := F_13.same W_19
  have C_23 : Steps p.tables e below S0 (T_15.setTop (mkF m 14 #[.val (.ref d), .val (.ref r), .val (.int vv)] [])) := by
    refine C0.trans ?_
    refine XS.aloadN X0.here hx rfl (hb hby d18_0) rfl rfl ?_
    refine st_4 _ ?_
    refine XS.aloadN X_2.here hx rfl (hb hby d18_4) rfl rfl ?_
    refine XS.aloadN X_2.here hx rfl (hb hby d18_5) rfl rfl ?_
    refine st_10 _ ?_
    refine XS.aloadN X_7.here hx rfl (hb hby d18_9) rfl rfl ?_
    refine XS.iloadN X_7.here hx rfl (hb hby d18_10) rfl ?_
    refine st_20 _ ?_
    show Steps p.tables e below (T_15.setTop (mkF m 14 #[.val (.ref d), .val (.ref r), .val (.int vv)] [])) _
    exact Steps.refl _
  have F_24 : Fld Z h_16 d "com/example/expiring_state/expiringstate/ExpiringSet$Rules" "name" "Ljava/lang/String;" (.ref r) := (F_12.other W_19 (Or.inr (slot_ne (Or.inr (w47 hw)) (Or.inr (w49 hw)) (by decide) (t := (.object "java/lang/String")) (by decide) (t' := .int) (by decide))))
  have K_25 : Keep h0 h_16 [d] := (((Keep.refl _ _).wr W_9 (Or.inl (List.mem_of_getElem? (i := 0) rfl))).wr W_19 (Or.inl (List.mem_of_getElem? (i := 0) rfl)))
  obtain ⟨fs, hr, hrun, hended, hW, hsame⟩ := X_17.leave (v := none) (fun _ => rfl)
  refine ⟨_, _, C_23.trans (X_17.returnOut hx Bd.returns (hb hby d18_14) hr), hrun, hended, _, _, rfl, ?_, ⟨_, rfl⟩, hW, hsame.mono (by decide) (by decide)⟩
  show Q_rinit Z G1 d r vv h0 n0 (none) T_15.heap _
  rw [e_18]
  exact ⟨rfl, N_21, K_25, F_24, F_22⟩
abbrev M437 : MethodName := ⟨"com/example/expiring_state/expiringstate/ExpiringSet$Rules", "of", "(Ljava/lang/String;I)Lcom/example/expiring_state/expiringstate/ExpiringSet$Rules;"⟩
theorem d19_0 : decode prog_10_method_2_code 0 = .ok (.aload_n 0, 1) := by decide +kernel
theorem w35 {Z : State} {a0 : Array Value} (hw : ∀ d ∈ tables_1, d.before a0 Z = true) : Jvm.Cond.before (Jvm.Cond.stringLink "com/example/expiring_state/expiringstate/ExpiringSet$Rules" (17 : Nat) "name") a0 Z = true := hw _ (List.mem_of_getElem? (i := 35) rfl)
theorem d19_1 : decode prog_10_method_2_code 1 = .ok (.ldc 17, 2) := by decide +kernel
theorem w39 {Z : State} {a0 : Array Value} (hw : ∀ d ∈ tables_1, d.before a0 Z = true) : Jvm.Cond.before (Jvm.Cond.code ({ cls := "java/util/Objects", name := "requireNonNull", desc := "(Ljava/lang/Object;Ljava/lang/String;)Ljava/lang/Object;" } : Jvm.MethodName) jdk_31_method_11_code (2 : Nat) (Option.some (Jvm.ClassFile.FieldType.object "java/lang/Object"))) a0 Z = true := hw _ (List.mem_of_getElem? (i := 39) rfl)
theorem w38 {Z : State} {a0 : Array Value} (hw : ∀ d ∈ tables_1, d.before a0 Z = true) : Jvm.Cond.before (Jvm.Cond.initialized "java/util/Objects") a0 Z = true := hw _ (List.mem_of_getElem? (i := 38) rfl)
theorem pd_443 : parseMethodDescriptor "(Ljava/lang/Object;Ljava/lang/String;)Ljava/lang/Object;" = some ⟨[(.object "java/lang/Object"), (.object "java/lang/String")], some (.object "java/lang/Object")⟩ := by decide +kernel
theorem d19_3 : decode prog_10_method_2_code 3 = .ok (.invokestatic 18, 3) := by decide +kernel
theorem w36 {Z : State} {a0 : Array Value} (hw : ∀ d ∈ tables_1, d.before a0 Z = true) : Jvm.Cond.before (Jvm.Cond.methodLink "com/example/expiring_state/expiringstate/ExpiringSet$Rules" (18 : Nat) ({ cls := "java/util/Objects", name := "requireNonNull", desc := "(Ljava/lang/Object;Ljava/lang/String;)Ljava/lang/Object;" } : Jvm.MethodName)) a0 Z = true := hw _ (List.mem_of_getElem? (i := 36) rfl)
theorem w37 {Z : State} {a0 : Array Value} (hw : ∀ d ∈ tables_1, d.before a0 Z = true) : Jvm.Cond.before (Jvm.Cond.static ({ cls := "java/util/Objects", name := "requireNonNull", desc := "(Ljava/lang/Object;Ljava/lang/String;)Ljava/lang/Object;" } : Jvm.MethodName)) a0 Z = true := hw _ (List.mem_of_getElem? (i := 37) rfl)
theorem d19_6 : decode prog_10_method_2_code 6 = .ok (.pop, 1) := by decide +kernel
theorem d19_7 : decode prog_10_method_2_code 7 = .ok (.iload_n 1, 1) := by decide +kernel
theorem d19_8 : decode prog_10_method_2_code 8 = .ok (.iconst 1, 1) := by decide +kernel
theorem d19_9 : decode prog_10_method_2_code 9 = .ok (.if_icmp .ge 27, 3) := by decide +kernel
theorem w40 {Z : State} {a0 : Array Value} (hw : ∀ d ∈ tables_1, d.before a0 Z = true) : Jvm.Cond.before (Jvm.Cond.classLink "com/example/expiring_state/expiringstate/ExpiringSet$Rules" (8 : Nat) "com/example/expiring_state/expiringstate/ExpiringSet$Rules") a0 Z = true := hw _ (List.mem_of_getElem? (i := 40) rfl)
theorem w33 {Z : State} {a0 : Array Value} (hw : ∀ d ∈ tables_1, d.before a0 Z = true) : Jvm.Cond.before (Jvm.Cond.initialized "com/example/expiring_state/expiringstate/ExpiringSet$Rules") a0 Z = true := hw _ (List.mem_of_getElem? (i := 33) rfl)
theorem d19_36 : decode prog_10_method_2_code 36 = .ok (.new 8, 3) := by decide +kernel
theorem d19_39 : decode prog_10_method_2_code 39 = .ok (.dup, 1) := by decide +kernel
theorem d19_40 : decode prog_10_method_2_code 40 = .ok (.aload_n 0, 1) := by decide +kernel
theorem d19_41 : decode prog_10_method_2_code 41 = .ok (.iload_n 1, 1) := by decide +kernel
theorem w44 {Z : State} {a0 : Array Value} (hw : ∀ d ∈ tables_1, d.before a0 Z = true) : Jvm.Cond.before (Jvm.Cond.code ({ cls := "com/example/expiring_state/expiringstate/ExpiringSet$Rules", name := "<init>", desc := "(Ljava/lang/String;I)V" } : Jvm.MethodName) prog_10_method_1_code (3 : Nat) (Option.none : Option Jvm.ClassFile.FieldType)) a0 Z = true := hw _ (List.mem_of_getElem? (i := 44) rfl)
theorem pd_458 : parseMethodDescriptor "(Ljava/lang/String;I)V" = some ⟨[(.object "java/lang/String"), .int], none⟩ := by decide +kernel
theorem d19_42 : decode prog_10_method_2_code 42 = .ok (.invokespecial 43, 3) := by decide +kernel
theorem w42 {Z : State} {a0 : Array Value} (hw : ∀ d ∈ tables_1, d.before a0 Z = true) : Jvm.Cond.before (Jvm.Cond.methodLink "com/example/expiring_state/expiringstate/ExpiringSet$Rules" (43 : Nat) ({ cls := "com/example/expiring_state/expiringstate/ExpiringSet$Rules", name := "<init>", desc := "(Ljava/lang/String;I)V" } : Jvm.MethodName)) a0 Z = true := hw _ (List.mem_of_getElem? (i := 42) rfl)
theorem w43 {Z : State} {a0 : Array Value} (hw : ∀ d ∈ tables_1, d.before a0 Z = true) : Jvm.Cond.before (Jvm.Cond.instanceMethod ({ cls := "com/example/expiring_state/expiringstate/ExpiringSet$Rules", name := "<init>", desc := "(Ljava/lang/String;I)V" } : Jvm.MethodName)) a0 Z = true := hw _ (List.mem_of_getElem? (i := 43) rfl)
theorem d19_45 : decode prog_10_method_2_code 45 = .ok (.areturn, 1) := by decide +kernel
abbrev R_of : Room := { frames := 2, cells := 3, slots := 22, locals := 27 }
def Q_of (Z : State) (G1 : Int32) (r : Addr) (vv : Int32) (h0 : Heap) (n0 : Nat) (v : Option Value) (h : Heap) (L : List Loc) : Prop := (∃ d : Addr, v = some (.ref d) ∧ Fr n0 L ∧ Keep h0 h [] ∧ (h0.size ≤ d) ∧ (Exa Z h d "com/example/expiring_state/expiringstate/ExpiringSet$Rules") ∧ (Fld Z h d "com/example/expiring_state/expiringstate/ExpiringSet$Rules" "name" "Ljava/lang/String;" (.ref r)) ∧ (Fld Z h d "com/example/expiring_state/expiringstate/ExpiringSet$Rules" "cap" "I" (.int vv)))
set_option maxRecDepth 65536 in
set_option maxHeartbeats 40000000 in
theorem rm_of (l : Launch) (Z : State) (a0 : Array Value) (hw : ∀ d ∈ tables_1, d.before a0 Z = true) (ws : List Jvm.Cond) (G1 : Int32) (HG : own_G l Z a0 G1) (h0 : Heap) (n0 : Nat) (X00 : Old Z n0 h0) (r : Addr) (vv : Int32) (hv : ¬ (vv < (1 : Int32))) :
    own_CH l Z M437 prog_10_method_2_code 2 (some (.object "com/example/expiring_state/expiringstate/ExpiringSet$Rules")) ws R_of #[(.ref r), (.int vv)] h0 (Q_of Z G1 r vv h0 n0) := by
  refine own_H (plainFor_of_name pn_421) ?_
  intro p e s m below meth c s₁ S0 Bd hZ hh CH0 hS0 CR0 hx hby hml hown hnm X0 e0 hS0d
  obtain ⟨O1, P1, OAD, OHI, OLO⟩ := id HG
  have hEL := own_EL hw
  have hSA := own_SA hw
  have N0 := Fr.nil n0
  have C0 : Steps p.tables e below S0 (s₁.setTop (mkF m 0 #[.val (.ref r), .val (.int vv)] [])) := by rw [hS0d]; exact castTop (ef_121 m r vv) (Steps.refl _)
  obtain ⟨a_1, T_2, h_3, k1_4, b_5, k_6, X_7, e_8, E_9, S_10, hk_11, hZ_12, ho_13, Ex_14, Fc_15, Fv_16, Va_17, la_18, lb_19, R_20, L_21, Sf_22, st_23⟩ := ldcCH (vm0 := s.vm) X0 hx hZ hown (w35 hw) hSA e0 hS0 (Nat.le_refl _) hEL (by decide) CH0 (vs := [(.int (110 : Int32)), (.int (97 : Int32)), (.int (109 : Int32)), (.int (101 : Int32))]) (z := (4 : Int32)) ⟨by decide, by decide⟩ (by decide) (by decide) (g := (mkF m 1 #[.val (.ref r), .val (.int vv)] [(.ref r)])) rfl (hb hby d19_1) (n := 16) (by decide) (by decide) (by decide) (by decide)
  have CH_24 : CHv Z consts_1 T_2.vm h_3 := R_20.1
  have CR_25 : CHr Z consts_1 s.vm h0 T_2.vm h_3 := CR0.trans R_20
  have O_26 : Old Z n0 h_3 := (X00.ext E_9)
  obtain ⟨_, _, ⟨T_27, L_27, k_27, n_27⟩, -, X_27, ⟨Lc_27, hQ_27, l_27, y_27, z_27⟩, st_27⟩ := Jvm.LawKit.callS X_7 hx (y := M414) ho_13 (mvT hZ_12 (w36 hw)) (mvT hZ_12 (w37 hw)) (mvT hZ_12 (w38 hw)) (mvT hZ_12 (w39 hw)) (by decide) (backOf (W := 0) (rm_rnn l Z a0 hw [] G1 HG h_3 n0 O_26 r a_1 ) hZ_12 (w39 hw) (w38 hw) (by decide) (by decide)) (g := (mkF m 3 #[.val (.ref r), .val (.int vv)] [(.ref a_1), (.ref r)])) rfl (by rw [hml]; rfl) (argsL := [(.ref r), (.ref a_1)]) (rest := []) (lenOf pd_443 rfl) rfl (by show 2 * 0 + _ ≤ _; exact Nat.le_of_eq rfl) (hb hby d19_3) (fun _ _ => ⟨rfl, e_8, (by decide : 2 + 0 ≤ _), (by decide : 20 + 0 ≤ _)⟩)
  dsimp only [Pt.U, Pt.locs, Pt.cells, Pt.slots] at X_27 l_27 y_27 z_27 st_27 hQ_27
  subst l_27 y_27 z_27
  obtain ⟨rfl, N_28, e_29⟩ := hQ_27
  have N_30 := Fr.app N0 N_28
  have e_31 : T_27.heap = h_3 := e_29
  obtain ⟨T_32, h_33, X_34, e_35, E_36, A_37, D_38, U_42, st_39⟩ := newO X_27 hx hZ_12 ho_13 (w40 hw) (w41 hw) (w33 hw) e_31 (g := (mkF m 36 #[.val (.ref r), .val (.int vv)] [])) rfl (hb hby d19_36) (by decide) (by decide)
  obtain ⟨a_40, g_41⟩ : ∃ z, z = h_3.size := ⟨_, rfl⟩
  rw [← g_41] at A_37 D_38 st_39 U_42
  have CH_43 : CHv Z consts_1 T_2.vm h_33 := CHv.ext E_36 CH_24
  have CR_44 : CHr Z consts_1 s.vm h0 T_2.vm h_33 := CR_25.trans (CHr.ext E_36 CH_24)
  have O_45 : Old Z n0 h_33 := (O_26.ext E_36)
  obtain ⟨_, _, ⟨T_46, L_46, k_46, n_46⟩, -, X_46, ⟨Lc_46, hQ_46, l_46, y_46, z_46⟩, st_46⟩ := X_34.specialBack hx (y := M420) rfl ho_13 (mvT hZ_12 (w42 hw)) (mvT hZ_12 (w43 hw)) (mvT hZ_12 (w44 hw)) (by decide) (backOf (W := 1) (rm_rinit l Z a0 hw [] G1 HG h_33 n0 O_45 a_40 r vv A_37 (D_38 (Or.inr (w47 hw)) (ty := (.object "java/lang/String")) (by decide)) (D_38 (Or.inr (w49 hw)) (ty := .int) (by decide)) (Nat.le_trans (own_n0 O_26) (Nat.le_of_eq g_41.symm))) hZ_12 (w44 hw) (w33 hw) (by decide) (by decide)) (g := (mkF m 42 #[.val (.ref r), .val (.int vv)] [(.int vv), (.ref r), (.ref a_40), (.ref a_40)])) rfl (by rw [hml]; rfl) (Steps.refl _) (a := a_40) (argsL := [(.ref r), (.int vv)]) (rest := [(.ref a_40)]) (lenOf pd_458 rfl) rfl (by show 2 * 0 + _ ≤ _; exact Nat.le_of_eq rfl) (hb hby d19_42) (fun _ _ => ⟨rfl, e_35, (by decide : 3 + 0 ≤ _), (by decide : 22 + 0 ≤ _)⟩)
  dsimp only [Pt.U, Pt.locs, Pt.cells, Pt.slots] at X_46 l_46 y_46 z_46 st_46 hQ_46
  subst l_46 y_46 z_46
  obtain ⟨rfl, N_47, K_48, g_49, g_50⟩ := hQ_46
  have N_51 := Fr.app N_30 N_47
  have CH_52 : CHv Z consts_1 T_2.vm T_46.heap := CHv.keep K_48 (sfS (Safe.exa hZ_12.alike A_37 (by decide) (by decide)) sf0) CH_43
  have CR_53 : CHr Z consts_1 s.vm h0 T_2.vm T_46.heap := CR_44.trans (CHr.keep K_48 (sfS (Safe.exa hZ_12.alike A_37 (by decide) (by decide)) sf0) CH_43)
  have C_54 : Steps p.tables e below S0 (T_46.setTop (mkF m 45 #[.val (.ref r), .val (.int vv)] [(.ref a_40)])) := by
    refine C0.trans ?_
    refine XS.aloadN X0.here hx rfl (hb hby d19_0) rfl rfl ?_
    refine st_23 _ ?_
    refine st_27 _ ?_
    refine XS.pop X_27.here hx rfl (hb hby d19_6) rfl rfl ?_
    refine XS.iloadN X_27.here hx rfl (hb hby d19_7) rfl ?_
    refine XS.iconst X_27.here hx rfl (hb hby d19_8) ?_
    refine XS.icmpYes X_27.here hx rfl (pc0 := 9) (pc' := 36) rfl (hb hby d19_9) rfl (ii_ge_t hv) (by decide) (by decide) ?_
    refine st_39 _ ?_
    show Steps p.tables e below (T_32.setTop (mkF m 39 #[.val (.ref r), .val (.int vv)] [(.ref a_40)])) _
    refine XS.dup X_34.here hx rfl (hb hby d19_39) rfl rfl ?_
    refine XS.aloadN X_34.here hx rfl (hb hby d19_40) rfl rfl ?_
    refine XS.iloadN X_34.here hx rfl (hb hby d19_41) rfl ?_
    refine st_46.trans ?_
    exact Steps.refl _
  have E_55 : Exa Z T_46.heap a_40 "com/example/expiring_state/expiringstate/ExpiringSet$Rules" := (A_37.keep K_48)
  have K_56 : Keep h0 T_46.heap [] := ((((Keep.refl _ _).ext E_9).ext E_36).trans K_48 (allS (Or.inr (Nat.le_trans E_9.1 (Nat.le_of_eq g_41.symm))) all0))
  obtain ⟨fs, hr, hrun, hended, hRE⟩ := X_46.leaveW S_10 (by rw [show T_46.heap = T_46.heap from rfl]; exact (Nat.le_trans hk_11 (Nat.le_trans E_36.1 K_48.1))) (v := some (.ref a_40)) (fun h => by rw [Bd.returns] at h; cases h)
  refine ⟨_, _, C_54.trans (retOut X_46 hx Bd.returns rfl (Or.inr (Or.inr (Or.inr (Or.inr ⟨rfl, rfl, rfl⟩)))) (hb hby d19_45) hr), hrun, hended, _, _, rfl, ?_, ?_, hRE.1, hRE.2.1, hRE.2.2.1, hRE.2.2.2.mono (by decide) (by decide)⟩
  · show Q_of Z G1 r vv h0 n0 (some (.ref a_40)) T_46.heap _
    exact ⟨a_40, rfl, N_51, K_56, (Nat.le_trans E_9.1 (Nat.le_of_eq g_41.symm)), E_55, g_49, g_50⟩
  · show CHr Z consts_1 s.vm s.heap T_46.vm T_46.heap
    rw [hh]
    exact CR_53.trans (CHv.at X_46 hZ_12 hEL CH_52)
abbrev M463 : MethodName := ⟨"com/example/expiring_state/expiringstate/ExpiringSet$Rules", "cap", "()I"⟩
theorem ef_464 (m : MethodId) (x0 : Addr) : entryFrame m #[(.ref x0)] 1 = mkF m 0 #[.val (.ref x0)] [] := by first | (simp [entryFrame, mkF, argsToLocals, Value.category]; done) | rfl
theorem d20_0 : decode prog_10_method_4_code 0 = .ok (.aload_n 0, 1) := by decide +kernel
theorem d20_1 : decode prog_10_method_4_code 1 = .ok (.getfield 13, 3) := by decide +kernel
theorem d20_4 : decode prog_10_method_4_code 4 = .ok (.ireturn, 1) := by decide +kernel
abbrev R_gcap : Room := { frames := 0, cells := 0, slots := 0, locals := 0 }
def Q_gcap (Z : State) (G1 : Int32) (d : Addr) (vv : Int32) (h0 : Heap) (n0 : Nat) (v : Option Value) (h : Heap) (L : List Loc) : Prop := (v = some (.int vv) ∧ Fr n0 L ∧ h = h0)
set_option maxRecDepth 65536 in
set_option maxHeartbeats 40000000 in
theorem rm_gcap (l : Launch) (Z : State) (a0 : Array Value) (hw : ∀ d ∈ tables_1, d.before a0 Z = true) (ws : List Jvm.Cond) (G1 : Int32) (HG : own_G l Z a0 G1) (h0 : Heap) (n0 : Nat) (X00 : Old Z n0 h0) (d : Addr) (vv : Int32) (hp0 : Fld Z h0 d "com/example/expiring_state/expiringstate/ExpiringSet$Rules" "cap" "I" (.int vv)) :
    own_CP l Z M463 prog_10_method_4_code 1 (some .int) ws R_gcap #[(.ref d)] h0 (Q_gcap Z G1 d vv h0 n0) := by
  refine own_P (plainFor_of_name pn_421) ?_
  intro p e s m below meth c s₁ S0 Bd hZ hh hx hby hml hown hnm X0 e0 hS0d
  obtain ⟨O1, P1, OAD, OHI, OLO⟩ := id HG
  have N0 := Fr.nil n0
  have C0 : Steps p.tables e below S0 (s₁.setTop (mkF m 0 #[.val (.ref d)] [])) := by rw [hS0d]; exact castTop (ef_464 m d) (Steps.refl _)
  obtain ⟨T_1, X_2, e_3, st_4⟩ := getF X0 hx hZ hown (host := "") (Or.inl (w48 hw)) Via.refl e0 hp0 (g := (mkF m 1 #[.val (.ref d)] [(.ref d)])) rfl rfl (hb hby d20_1)
  have C_5 : Steps p.tables e below S0 (T_1.setTop (mkF m 4 #[.val (.ref d)] [(.int vv)])) := by
    refine C0.trans ?_
    refine XS.aloadN X0.here hx rfl (hb hby d20_0) rfl rfl ?_
    refine st_4 _ ?_
    exact Steps.refl _
  obtain ⟨fs, hr, hrun, hended, hW, hsame⟩ := X_2.leave (v := some (.int vv)) (fun h => by rw [Bd.returns] at h; cases h)
  refine ⟨_, _, C_5.trans (retOut X_2 hx Bd.returns rfl (Or.inl ⟨rfl, Or.inl rfl, _, rfl⟩) (hb hby d20_4) hr), hrun, hended, _, _, rfl, ?_, ⟨_, rfl⟩, hW, hsame.mono (by decide) (by decide)⟩
  show Q_gcap Z G1 d vv h0 n0 (some (.int vv)) T_1.heap _
  rw [e_3]
  exact ⟨rfl, N0, rfl⟩
abbrev M468 : MethodName := ⟨"com/example/expiring_state/expiringstate/ExpiringSet$Rules", "name", "()Ljava/lang/String;"⟩
theorem d21_0 : decode prog_10_method_3_code 0 = .ok (.aload_n 0, 1) := by decide +kernel
theorem d21_1 : decode prog_10_method_3_code 1 = .ok (.getfield 7, 3) := by decide +kernel
theorem d21_4 : decode prog_10_method_3_code 4 = .ok (.areturn, 1) := by decide +kernel
abbrev R_gname : Room := { frames := 0, cells := 0, slots := 0, locals := 0 }
def Q_gname (Z : State) (G1 : Int32) (d : Addr) (r : Addr) (h0 : Heap) (n0 : Nat) (v : Option Value) (h : Heap) (L : List Loc) : Prop := (v = some (.ref r) ∧ Fr n0 L ∧ h = h0)
set_option maxRecDepth 65536 in
set_option maxHeartbeats 40000000 in
theorem rm_gname (l : Launch) (Z : State) (a0 : Array Value) (hw : ∀ d ∈ tables_1, d.before a0 Z = true) (ws : List Jvm.Cond) (G1 : Int32) (HG : own_G l Z a0 G1) (h0 : Heap) (n0 : Nat) (X00 : Old Z n0 h0) (d : Addr) (r : Addr) (hp0 : Fld Z h0 d "com/example/expiring_state/expiringstate/ExpiringSet$Rules" "name" "Ljava/lang/String;" (.ref r)) :
    own_CP l Z M468 prog_10_method_3_code 1 (some (.object "java/lang/String")) ws R_gname #[(.ref d)] h0 (Q_gname Z G1 d r h0 n0) := by
  refine own_P (plainFor_of_name pn_421) ?_
  intro p e s m below meth c s₁ S0 Bd hZ hh hx hby hml hown hnm X0 e0 hS0d
  obtain ⟨O1, P1, OAD, OHI, OLO⟩ := id HG
  have N0 := Fr.nil n0
  have C0 : Steps p.tables e below S0 (s₁.setTop (mkF m 0 #[.val (.ref d)] [])) := by rw [hS0d]; exact castTop (ef_464 m d) (Steps.refl _)
  obtain ⟨T_1, X_2, e_3, st_4⟩ := getF X0 hx hZ hown (host := "") (Or.inl (w46 hw)) Via.refl e0 hp0 (g := (mkF m 1 #[.val (.ref d)] [(.ref d)])) rfl rfl (hb hby d21_1)
  have C_5 : Steps p.tables e below S0 (T_1.setTop (mkF m 4 #[.val (.ref d)] [(.ref r)])) := by
    refine C0.trans ?_
    refine XS.aloadN X0.here hx rfl (hb hby d21_0) rfl rfl ?_
    refine st_4 _ ?_
    exact Steps.refl _
  obtain ⟨fs, hr, hrun, hended, hW, hsame⟩ := X_2.leave (v := some (.ref r)) (fun h => by rw [Bd.returns] at h; cases h)
  refine ⟨_, _, C_5.trans (retOut X_2 hx Bd.returns rfl (Or.inr (Or.inr (Or.inr (Or.inr ⟨rfl, rfl, rfl⟩)))) (hb hby d21_4) hr), hrun, hended, _, _, rfl, ?_, ⟨_, rfl⟩, hW, hsame.mono (by decide) (by decide)⟩
  show Q_gname Z G1 d r h0 n0 (some (.ref r)) T_1.heap _
  rw [e_3]
  exact ⟨rfl, N0, rfl⟩
abbrev M472 : MethodName := ⟨"java/lang/String", "equals", "(Ljava/lang/Object;)Z"⟩
theorem ef_473 (m : MethodId) (x0 : Addr) (x1 : Addr) : entryFrame m #[(.ref x0), (.ref x1)] 3 = mkF m 0 #[.val (.ref x0), .val (.ref x1), .unset] [] := by first | (simp [entryFrame, mkF, argsToLocals, Value.category]; done) | rfl
theorem d22_0 : decode jdk_42_method_66_code 0 = .ok (.aload_n 0, 1) := by decide +kernel
theorem d22_1 : decode jdk_42_method_66_code 1 = .ok (.aload_n 1, 1) := by decide +kernel
theorem d22_2 : decode jdk_42_method_66_code 2 = .ok (.if_acmp .ne 5, 3) := by decide +kernel
theorem d22_5 : decode jdk_42_method_66_code 5 = .ok (.iconst 1, 1) := by decide +kernel
theorem d22_6 : decode jdk_42_method_66_code 6 = .ok (.ireturn, 1) := by decide +kernel
abbrev R_eqself : Room := { frames := 0, cells := 0, slots := 0, locals := 0 }
def Q_eqself (Z : State) (G1 : Int32) (x : Addr) (h0 : Heap) (n0 : Nat) (v : Option Value) (h : Heap) (L : List Loc) : Prop := (v = some (.int (1 : Int32)) ∧ Fr n0 L ∧ h = h0)
set_option maxRecDepth 65536 in
set_option maxHeartbeats 40000000 in
theorem rm_eqself (l : Launch) (Z : State) (a0 : Array Value) (hw : ∀ d ∈ tables_1, d.before a0 Z = true) (ws : List Jvm.Cond) (G1 : Int32) (HG : own_G l Z a0 G1) (h0 : Heap) (n0 : Nat) (X00 : Old Z n0 h0) (x : Addr)  :
    own_CP l Z M472 jdk_42_method_66_code 3 (some .boolean) ws R_eqself #[(.ref x), (.ref x)] h0 (Q_eqself Z G1 x h0 n0) := by
  refine own_P (plainFor_of_name pn_2) ?_
  intro p e s m below meth c s₁ S0 Bd hZ hh hx hby hml hown hnm X0 e0 hS0d
  obtain ⟨O1, P1, OAD, OHI, OLO⟩ := id HG
  have N0 := Fr.nil n0
  have C0 : Steps p.tables e below S0 (s₁.setTop (mkF m 0 #[.val (.ref x), .val (.ref x), .unset] [])) := by rw [hS0d]; exact castTop (ef_473 m x x) (Steps.refl _)
  have C_1 : Steps p.tables e below S0 (s₁.setTop (mkF m 6 #[.val (.ref x), .val (.ref x), .unset] [(.int (1 : Int32))])) := by
    refine C0.trans ?_
    refine XS.aloadN X0.here hx rfl (hb hby d22_0) rfl rfl ?_
    refine XS.aloadN X0.here hx rfl (hb hby d22_1) rfl rfl ?_
    refine acmp X0 hx rfl (cd := .ne) (x := (.ref x)) (y := (.ref x)) rfl rfl (same := true) (pc0 := 2) (pc' := 5) rfl (hb hby d22_2) rfl (decide_eq_true rfl) (by decide) (by decide) ?_
    refine XS.iconst X0.here hx rfl (hb hby d22_5) ?_
    exact Steps.refl _
  obtain ⟨fs, hr, hrun, hended, hW, hsame⟩ := X0.leave (v := some (.int (1 : Int32))) (fun h => by rw [Bd.returns] at h; cases h)
  refine ⟨_, _, C_1.trans (retN X0 hx (t := .boolean) Bd.returns (by simp) (hb hby d22_6) hr), hrun, hended, _, _, rfl, ?_, ⟨_, rfl⟩, hW, hsame.mono (by decide) (by decide)⟩
  show Q_eqself Z G1 x h0 n0 (some (.int (1 : Int32))) s₁.heap _
  rw [e0]
  exact ⟨rfl, N0, rfl⟩
theorem ef_479 (m : MethodId) (x0 : Int32) (x1 : Int32) (x2 : Int32) (x3 : Int32) (x4 : Int32) : entryFrame m #[(.int x0), (.int x1), (.int x2), (.int x3), (.int x4)] maxLocals = mkF m 0 #[.val (.int x0), .val (.int x1), .val (.int x2), .val (.int x3), .val (.int x4), .unset, .unset, .unset, .unset, .unset, .unset, .unset] [] := by first | (simp [entryFrame, mkF, argsToLocals, Value.category, maxLocals]; done) | rfl
theorem w3 {Z : State} {a0 : Array Value} (hw : ∀ d ∈ tables_1, d.before a0 Z = true) : Jvm.Cond.before (Jvm.Cond.code ({ cls := "com/example/expiring_state/expiringstate/RulesOfPinLaw", name := "draw", desc := "(III)Ljava/lang/String;" } : Jvm.MethodName) method_2_code (6 : Nat) (Option.some (Jvm.ClassFile.FieldType.object "java/lang/String"))) a0 Z = true := hw _ (List.mem_of_getElem? (i := 3) rfl)
theorem w2 {Z : State} {a0 : Array Value} (hw : ∀ d ∈ tables_1, d.before a0 Z = true) : Jvm.Cond.before (Jvm.Cond.initialized "com/example/expiring_state/expiringstate/RulesOfPinLaw") a0 Z = true := hw _ (List.mem_of_getElem? (i := 2) rfl)
theorem pd_482 : parseMethodDescriptor "(III)Ljava/lang/String;" = some ⟨[.int, .int, .int], some (.object "java/lang/String")⟩ := by decide +kernel
theorem w0 {Z : State} {a0 : Array Value} (hw : ∀ d ∈ tables_1, d.before a0 Z = true) : Jvm.Cond.before (Jvm.Cond.methodLink "com/example/expiring_state/expiringstate/RulesOfPinLaw" (18 : Nat) ({ cls := "com/example/expiring_state/expiringstate/RulesOfPinLaw", name := "draw", desc := "(III)Ljava/lang/String;" } : Jvm.MethodName)) a0 Z = true := hw _ (List.mem_of_getElem? (i := 0) rfl)
theorem w1 {Z : State} {a0 : Array Value} (hw : ∀ d ∈ tables_1, d.before a0 Z = true) : Jvm.Cond.before (Jvm.Cond.static ({ cls := "com/example/expiring_state/expiringstate/RulesOfPinLaw", name := "draw", desc := "(III)Ljava/lang/String;" } : Jvm.MethodName)) a0 Z = true := hw _ (List.mem_of_getElem? (i := 1) rfl)
theorem w29 {Z : State} {a0 : Array Value} (hw : ∀ d ∈ tables_1, d.before a0 Z = true) : Jvm.Cond.before (Jvm.Cond.code ({ cls := "com/example/expiring_state/expiringstate/RulesOfPinLaw", name := "capOf", desc := "(I)I" } : Jvm.MethodName) method_3_code (2 : Nat) (Option.some Jvm.ClassFile.FieldType.int)) a0 Z = true := hw _ (List.mem_of_getElem? (i := 29) rfl)
theorem w27 {Z : State} {a0 : Array Value} (hw : ∀ d ∈ tables_1, d.before a0 Z = true) : Jvm.Cond.before (Jvm.Cond.methodLink "com/example/expiring_state/expiringstate/RulesOfPinLaw" (24 : Nat) ({ cls := "com/example/expiring_state/expiringstate/RulesOfPinLaw", name := "capOf", desc := "(I)I" } : Jvm.MethodName)) a0 Z = true := hw _ (List.mem_of_getElem? (i := 27) rfl)
theorem w28 {Z : State} {a0 : Array Value} (hw : ∀ d ∈ tables_1, d.before a0 Z = true) : Jvm.Cond.before (Jvm.Cond.static ({ cls := "com/example/expiring_state/expiringstate/RulesOfPinLaw", name := "capOf", desc := "(I)I" } : Jvm.MethodName)) a0 Z = true := hw _ (List.mem_of_getElem? (i := 28) rfl)
theorem w34 {Z : State} {a0 : Array Value} (hw : ∀ d ∈ tables_1, d.before a0 Z = true) : Jvm.Cond.before (Jvm.Cond.code ({ cls := "com/example/expiring_state/expiringstate/ExpiringSet$Rules", name := "of", desc := "(Ljava/lang/String;I)Lcom/example/expiring_state/expiringstate/ExpiringSet$Rules;" } : Jvm.MethodName) prog_10_method_2_code (2 : Nat) (Option.some (Jvm.ClassFile.FieldType.object "com/example/expiring_state/expiringstate/ExpiringSet$Rules"))) a0 Z = true := hw _ (List.mem_of_getElem? (i := 34) rfl)
theorem pd_489 : parseMethodDescriptor "(Ljava/lang/String;I)Lcom/example/expiring_state/expiringstate/ExpiringSet$Rules;" = some ⟨[(.object "java/lang/String"), .int], some (.object "com/example/expiring_state/expiringstate/ExpiringSet$Rules")⟩ := by decide +kernel
theorem w31 {Z : State} {a0 : Array Value} (hw : ∀ d ∈ tables_1, d.before a0 Z = true) : Jvm.Cond.before (Jvm.Cond.methodLink "com/example/expiring_state/expiringstate/RulesOfPinLaw" (28 : Nat) ({ cls := "com/example/expiring_state/expiringstate/ExpiringSet$Rules", name := "of", desc := "(Ljava/lang/String;I)Lcom/example/expiring_state/expiringstate/ExpiringSet$Rules;" } : Jvm.MethodName)) a0 Z = true := hw _ (List.mem_of_getElem? (i := 31) rfl)
theorem w32 {Z : State} {a0 : Array Value} (hw : ∀ d ∈ tables_1, d.before a0 Z = true) : Jvm.Cond.before (Jvm.Cond.static ({ cls := "com/example/expiring_state/expiringstate/ExpiringSet$Rules", name := "of", desc := "(Ljava/lang/String;I)Lcom/example/expiring_state/expiringstate/ExpiringSet$Rules;" } : Jvm.MethodName)) a0 Z = true := hw _ (List.mem_of_getElem? (i := 32) rfl)
theorem w54 {Z : State} {a0 : Array Value} (hw : ∀ d ∈ tables_1, d.before a0 Z = true) : Jvm.Cond.before (Jvm.Cond.code ({ cls := "com/example/expiring_state/expiringstate/ExpiringSet$Rules", name := "cap", desc := "()I" } : Jvm.MethodName) prog_10_method_4_code (1 : Nat) (Option.some Jvm.ClassFile.FieldType.int)) a0 Z = true := hw _ (List.mem_of_getElem? (i := 54) rfl)
theorem pd_493 : parseMethodDescriptor "()I" = some ⟨[], some .int⟩ := by decide +kernel
theorem w50 {Z : State} {a0 : Array Value} (hw : ∀ d ∈ tables_1, d.before a0 Z = true) : Jvm.Cond.before (Jvm.Cond.methodLink "com/example/expiring_state/expiringstate/RulesOfPinLaw" (34 : Nat) ({ cls := "com/example/expiring_state/expiringstate/ExpiringSet$Rules", name := "cap", desc := "()I" } : Jvm.MethodName)) a0 Z = true := hw _ (List.mem_of_getElem? (i := 50) rfl)
theorem w53 {Z : State} {a0 : Array Value} (hw : ∀ d ∈ tables_1, d.before a0 Z = true) : Jvm.Cond.before (Jvm.Cond.selects "com/example/expiring_state/expiringstate/ExpiringSet$Rules" ({ cls := "com/example/expiring_state/expiringstate/ExpiringSet$Rules", name := "cap", desc := "()I" } : Jvm.MethodName) ({ cls := "com/example/expiring_state/expiringstate/ExpiringSet$Rules", name := "cap", desc := "()I" } : Jvm.MethodName)) a0 Z = true := hw _ (List.mem_of_getElem? (i := 53) rfl)
theorem w52 {Z : State} {a0 : Array Value} (hw : ∀ d ∈ tables_1, d.before a0 Z = true) : Jvm.Cond.before (Jvm.Cond.instanceMethod ({ cls := "com/example/expiring_state/expiringstate/ExpiringSet$Rules", name := "cap", desc := "()I" } : Jvm.MethodName)) a0 Z = true := hw _ (List.mem_of_getElem? (i := 52) rfl)
theorem w51 {Z : State} {a0 : Array Value} (hw : ∀ d ∈ tables_1, d.before a0 Z = true) : Jvm.Cond.before (Jvm.Cond.declares ({ cls := "com/example/expiring_state/expiringstate/ExpiringSet$Rules", name := "cap", desc := "()I" } : Jvm.MethodName)) a0 Z = true := hw _ (List.mem_of_getElem? (i := 51) rfl)
theorem w59 {Z : State} {a0 : Array Value} (hw : ∀ d ∈ tables_1, d.before a0 Z = true) : Jvm.Cond.before (Jvm.Cond.code ({ cls := "com/example/expiring_state/expiringstate/ExpiringSet$Rules", name := "name", desc := "()Ljava/lang/String;" } : Jvm.MethodName) prog_10_method_3_code (1 : Nat) (Option.some (Jvm.ClassFile.FieldType.object "java/lang/String"))) a0 Z = true := hw _ (List.mem_of_getElem? (i := 59) rfl)
theorem pd_499 : parseMethodDescriptor "()Ljava/lang/String;" = some ⟨[], some (.object "java/lang/String")⟩ := by decide +kernel
theorem w55 {Z : State} {a0 : Array Value} (hw : ∀ d ∈ tables_1, d.before a0 Z = true) : Jvm.Cond.before (Jvm.Cond.methodLink "com/example/expiring_state/expiringstate/RulesOfPinLaw" (38 : Nat) ({ cls := "com/example/expiring_state/expiringstate/ExpiringSet$Rules", name := "name", desc := "()Ljava/lang/String;" } : Jvm.MethodName)) a0 Z = true := hw _ (List.mem_of_getElem? (i := 55) rfl)
theorem w58 {Z : State} {a0 : Array Value} (hw : ∀ d ∈ tables_1, d.before a0 Z = true) : Jvm.Cond.before (Jvm.Cond.selects "com/example/expiring_state/expiringstate/ExpiringSet$Rules" ({ cls := "com/example/expiring_state/expiringstate/ExpiringSet$Rules", name := "name", desc := "()Ljava/lang/String;" } : Jvm.MethodName) ({ cls := "com/example/expiring_state/expiringstate/ExpiringSet$Rules", name := "name", desc := "()Ljava/lang/String;" } : Jvm.MethodName)) a0 Z = true := hw _ (List.mem_of_getElem? (i := 58) rfl)
theorem w57 {Z : State} {a0 : Array Value} (hw : ∀ d ∈ tables_1, d.before a0 Z = true) : Jvm.Cond.before (Jvm.Cond.instanceMethod ({ cls := "com/example/expiring_state/expiringstate/ExpiringSet$Rules", name := "name", desc := "()Ljava/lang/String;" } : Jvm.MethodName)) a0 Z = true := hw _ (List.mem_of_getElem? (i := 57) rfl)
theorem w56 {Z : State} {a0 : Array Value} (hw : ∀ d ∈ tables_1, d.before a0 Z = true) : Jvm.Cond.before (Jvm.Cond.declares ({ cls := "com/example/expiring_state/expiringstate/ExpiringSet$Rules", name := "name", desc := "()Ljava/lang/String;" } : Jvm.MethodName)) a0 Z = true := hw _ (List.mem_of_getElem? (i := 56) rfl)
theorem w64 {Z : State} {a0 : Array Value} (hw : ∀ d ∈ tables_1, d.before a0 Z = true) : Jvm.Cond.before (Jvm.Cond.code ({ cls := "java/lang/String", name := "equals", desc := "(Ljava/lang/Object;)Z" } : Jvm.MethodName) jdk_42_method_66_code (3 : Nat) (Option.some Jvm.ClassFile.FieldType.boolean)) a0 Z = true := hw _ (List.mem_of_getElem? (i := 64) rfl)
theorem pd_505 : parseMethodDescriptor "(Ljava/lang/Object;)Z" = some ⟨[(.object "java/lang/Object")], some .boolean⟩ := by decide +kernel
theorem w60 {Z : State} {a0 : Array Value} (hw : ∀ d ∈ tables_1, d.before a0 Z = true) : Jvm.Cond.before (Jvm.Cond.methodLink "com/example/expiring_state/expiringstate/RulesOfPinLaw" (42 : Nat) ({ cls := "java/lang/String", name := "equals", desc := "(Ljava/lang/Object;)Z" } : Jvm.MethodName)) a0 Z = true := hw _ (List.mem_of_getElem? (i := 60) rfl)
theorem w63 {Z : State} {a0 : Array Value} (hw : ∀ d ∈ tables_1, d.before a0 Z = true) : Jvm.Cond.before (Jvm.Cond.selects "java/lang/String" ({ cls := "java/lang/String", name := "equals", desc := "(Ljava/lang/Object;)Z" } : Jvm.MethodName) ({ cls := "java/lang/String", name := "equals", desc := "(Ljava/lang/Object;)Z" } : Jvm.MethodName)) a0 Z = true := hw _ (List.mem_of_getElem? (i := 63) rfl)
theorem w62 {Z : State} {a0 : Array Value} (hw : ∀ d ∈ tables_1, d.before a0 Z = true) : Jvm.Cond.before (Jvm.Cond.instanceMethod ({ cls := "java/lang/String", name := "equals", desc := "(Ljava/lang/Object;)Z" } : Jvm.MethodName)) a0 Z = true := hw _ (List.mem_of_getElem? (i := 62) rfl)
theorem w61 {Z : State} {a0 : Array Value} (hw : ∀ d ∈ tables_1, d.before a0 Z = true) : Jvm.Cond.before (Jvm.Cond.declares ({ cls := "java/lang/String", name := "equals", desc := "(Ljava/lang/Object;)Z" } : Jvm.MethodName)) a0 Z = true := hw _ (List.mem_of_getElem? (i := 61) rfl)
def Q_law (Z : State) (G1 : Int32) (p0 : Int32) (p1 : Int32) (p2 : Int32) (p3 : Int32) (p4 : Int32) (h0 : Heap) (n0 : Nat) (v : Option Value) (h : Heap) (L : List Loc) : Prop := (v = some (.int (1 : Int32)) ∧ Fr n0 L ∧ Keep h0 h [])
set_option maxRecDepth 65536 in
set_option maxHeartbeats 40000000 in
theorem rm_law (l : Launch) (Z : State) (a0 : Array Value) (hw : ∀ d ∈ tables_1, d.before a0 Z = true) (ws : List Jvm.Cond) (G1 : Int32) (HG : own_G l Z a0 G1) (h0 : Heap) (n0 : Nat) (X00 : Old Z n0 h0) (p0 : Int32) (p1 : Int32) (p2 : Int32) (p3 : Int32) (p4 : Int32)  :
    own_CH l Z x code maxLocals ret ws room_1 #[(.int p0), (.int p1), (.int p2), (.int p3), (.int p4)] h0 (Q_law Z G1 p0 p1 p2 p3 p4 h0 n0) := by
  refine own_H (plainFor_of_name pn_326) ?_
  intro p e s m below meth c s₁ S0 Bd hZ hh CH0 hS0 CR0 hx hby hml hown hnm X0 e0 hS0d
  obtain ⟨O1, P1, OAD, OHI, OLO⟩ := id HG
  have hEL := own_EL hw
  have hSA := own_SA hw
  have N0 := Fr.nil n0
  have C0 : Steps p.tables e below S0 (s₁.setTop (mkF m 0 #[.val (.int p0), .val (.int p1), .val (.int p2), .val (.int p3), .val (.int p4), .unset, .unset, .unset, .unset, .unset, .unset, .unset] [])) := by rw [hS0d]; exact castTop (ef_479 m p0 p1 p2 p3 p4) (Steps.refl _)
  obtain ⟨_, _, ⟨T_1, L_1, k_1, n_1⟩, -, Y_1, S_1, G_1, ⟨Lc_1, hQ_1, l_1, y_1, z_1, R_1⟩, st_1⟩ := callSS X0 hx (y := M324) hown (mvT hZ (w0 hw)) (mvT hZ (w1 hw)) (mvT hZ (w2 hw)) (mvT hZ (w3 hw)) (by decide) (backOfSH (vm0 := s.vm) (W := 0) (rm_draw l Z a0 hw [] G1 HG h0 n0 X00 (p0 &&& (3 : Int32)) p1 p2 ) hZ (w3 hw) (w2 hw) (by decide) (by decide) hEL CH0) (g := (mkF m 5 #[.val (.int p0), .val (.int p1), .val (.int p2), .val (.int p3), .val (.int p4), .unset, .unset, .unset, .unset, .unset, .unset, .unset] [(.int p2), (.int p1), (.int (p0 &&& (3 : Int32)))])) rfl (by rw [hml]; rfl) (argsL := [(.int (p0 &&& (3 : Int32))), (.int p1), (.int p2)]) (rest := []) (lenOf pd_482 rfl) rfl (by show 2 * 0 + _ ≤ _; exact Nat.le_of_eq rfl) (hb hby at_5) (fun _ _ => ⟨rfl, e0, (by decide : 0 + 6 ≤ _), (by decide : 0 + 16 ≤ _)⟩)
  dsimp only [Pt.U, Pt.locs, Pt.cells, Pt.slots] at Y_1 S_1 G_1 l_1 y_1 z_1 st_1 hQ_1 R_1
  subst l_1 y_1 z_1
  obtain ⟨X_1, hS_1, hZ_1, hown_1⟩ := rebS hS0 (n1 := s₁.heap.size) (by rw [show s₁.heap = h0 from e0]; exact (Nat.le_refl _)) Y_1 S_1 G_1 hZ hown
  obtain ⟨a_2, rfl, N_3, K_4, g_5⟩ := hQ_1
  have N_6 := Fr.app N0 N_3
  have CH_7 : CHv Z consts_1 T_1.vm T_1.heap := R_1.1
  have CR_8 : CHr Z consts_1 s.vm h0 T_1.vm T_1.heap := CR0.trans R_1
  have O_9 : Old Z n0 T_1.heap := (X00.keep K_4 all0)
  obtain ⟨_, _, ⟨T_10, L_10, k_10, n_10⟩, -, X_10, ⟨Lc_10, hQ_10, l_10, y_10, z_10⟩, st_10⟩ := Jvm.LawKit.callS X_1 hx (y := M402) hown_1 (mvT hZ_1 (w27 hw)) (mvT hZ_1 (w28 hw)) (mvT hZ_1 (w2 hw)) (mvT hZ_1 (w29 hw)) (by decide) (backOf (W := 0) (rm_cap l Z a0 hw [] G1 HG T_1.heap n0 O_9 p3 ) hZ_1 (w29 hw) (w2 hw) (by decide) (by decide)) (g := (mkF m 11 #[.val (.int p0), .val (.int p1), .val (.int p2), .val (.int p3), .val (.int p4), .val (.ref a_2), .unset, .unset, .unset, .unset, .unset, .unset] [(.int p3)])) rfl (by rw [hml]; rfl) (argsL := [(.int p3)]) (rest := []) (lenOf pd_57 rfl) rfl (by show 2 * 0 + _ ≤ _; exact Nat.le_of_eq rfl) (hb hby at_11) (fun _ _ => ⟨rfl, rfl, (by decide : 6 + 0 ≤ _), (by decide : 16 + 0 ≤ _)⟩)
  dsimp only [Pt.U, Pt.locs, Pt.cells, Pt.slots] at X_10 l_10 y_10 z_10 st_10 hQ_10
  subst l_10 y_10 z_10
  obtain ⟨i_11, rfl, N_12, e_13, g_14⟩ := hQ_10
  have N_15 := Fr.app N_6 N_12
  have e_16 : T_10.heap = T_1.heap := e_13
  obtain ⟨_, _, ⟨T_17, L_17, k_17, n_17⟩, -, X_17, ⟨Lc_17, hQ_17, l_17, y_17, z_17⟩, st_17⟩ := Jvm.LawKit.callS X_10 hx (y := M402) hown_1 (mvT hZ_1 (w27 hw)) (mvT hZ_1 (w28 hw)) (mvT hZ_1 (w2 hw)) (mvT hZ_1 (w29 hw)) (by decide) (backOf (W := 0) (rm_cap l Z a0 hw [] G1 HG T_1.heap n0 O_9 p4 ) hZ_1 (w29 hw) (w2 hw) (by decide) (by decide)) (g := (mkF m 18 #[.val (.int p0), .val (.int p1), .val (.int p2), .val (.int p3), .val (.int p4), .val (.ref a_2), .val (.int i_11), .unset, .unset, .unset, .unset, .unset] [(.int p4)])) rfl (by rw [hml]; rfl) (argsL := [(.int p4)]) (rest := []) (lenOf pd_57 rfl) rfl (by show 2 * 0 + _ ≤ _; exact Nat.le_of_eq rfl) (hb hby at_18) (fun _ _ => ⟨rfl, e_16, (by decide : 6 + 0 ≤ _), (by decide : 16 + 0 ≤ _)⟩)
  dsimp only [Pt.U, Pt.locs, Pt.cells, Pt.slots] at X_17 l_17 y_17 z_17 st_17 hQ_17
  subst l_17 y_17 z_17
  obtain ⟨i_18, rfl, N_19, e_20, g_21⟩ := hQ_17
  have N_22 := Fr.app N_15 N_19
  have e_23 : T_17.heap = T_1.heap := e_20
  obtain ⟨_, _, ⟨T_24, L_24, k_24, n_24⟩, -, Y_24, S_24, G_24, ⟨Lc_24, hQ_24, l_24, y_24, z_24, R_24⟩, st_24⟩ := callSS X_17 hx (y := M437) hown_1 (mvT hZ_1 (w31 hw)) (mvT hZ_1 (w32 hw)) (mvT hZ_1 (w33 hw)) (mvT hZ_1 (w34 hw)) (by decide) (backOfSH (vm0 := T_1.vm) (W := 0) (rm_of l Z a0 hw [] G1 HG T_1.heap n0 O_9 a_2 i_11 g_14) hZ_1 (w34 hw) (w33 hw) (by decide) (by decide) hEL CH_7) (g := (mkF m 27 #[.val (.int p0), .val (.int p1), .val (.int p2), .val (.int p3), .val (.int p4), .val (.ref a_2), .val (.int i_11), .val (.int i_18), .unset, .unset, .unset, .unset] [(.int i_11), (.ref a_2)])) rfl (by rw [hml]; rfl) (argsL := [(.ref a_2), (.int i_11)]) (rest := []) (lenOf pd_489 rfl) rfl (by show 2 * 0 + _ ≤ _; exact Nat.le_of_eq rfl) (hb hby at_27) (fun _ _ => ⟨rfl, e_23, (by decide : 6 + 3 ≤ _), (by decide : 16 + 22 ≤ _)⟩)
  dsimp only [Pt.U, Pt.locs, Pt.cells, Pt.slots] at Y_24 S_24 G_24 l_24 y_24 z_24 st_24 hQ_24 R_24
  subst l_24 y_24 z_24
  obtain ⟨X_24, hS_24, hZ_24, hown_24⟩ := rebS hS_1 (n1 := T_17.heap.size) (by rw [show T_17.heap = T_1.heap from e_23]; exact (Nat.le_refl _)) Y_24 S_24 G_24 hZ_1 hown_1
  obtain ⟨a_25, rfl, N_26, K_27, g_28, g_29, g_30, g_31⟩ := hQ_24
  have N_32 := Fr.app N_22 N_26
  have CH_33 : CHv Z consts_1 T_24.vm T_24.heap := R_24.1
  have CR_34 : CHr Z consts_1 s.vm h0 T_24.vm T_24.heap := CR_8.trans R_24
  have O_35 : Old Z n0 T_24.heap := (O_9.keep K_27 all0)
  obtain ⟨_, _, ⟨T_36, L_36, k_36, n_36⟩, -, Y_36, S_36, G_36, ⟨Lc_36, hQ_36, l_36, y_36, z_36, R_36⟩, st_36⟩ := callSS X_24 hx (y := M437) hown_24 (mvT hZ_24 (w31 hw)) (mvT hZ_24 (w32 hw)) (mvT hZ_24 (w33 hw)) (mvT hZ_24 (w34 hw)) (by decide) (backOfSH (vm0 := T_24.vm) (W := 0) (rm_of l Z a0 hw [] G1 HG T_24.heap n0 O_35 a_2 i_18 g_21) hZ_24 (w34 hw) (w33 hw) (by decide) (by decide) hEL CH_33) (g := (mkF m 36 #[.val (.int p0), .val (.int p1), .val (.int p2), .val (.int p3), .val (.int p4), .val (.ref a_2), .val (.int i_11), .val (.int i_18), .val (.ref a_25), .unset, .unset, .unset] [(.int i_18), (.ref a_2)])) rfl (by rw [hml]; rfl) (argsL := [(.ref a_2), (.int i_18)]) (rest := []) (lenOf pd_489 rfl) rfl (by show 2 * 0 + _ ≤ _; exact Nat.le_of_eq rfl) (hb hby at_36) (fun _ _ => ⟨rfl, rfl, (by decide : 9 + 3 ≤ _), (by decide : 38 + 22 ≤ _)⟩)
  dsimp only [Pt.U, Pt.locs, Pt.cells, Pt.slots] at Y_36 S_36 G_36 l_36 y_36 z_36 st_36 hQ_36 R_36
  subst l_36 y_36 z_36
  obtain ⟨X_36, hS_36, hZ_36, hown_36⟩ := rebS hS_24 (n1 := T_24.heap.size) (by rw [show T_24.heap = T_24.heap from rfl]; exact (Nat.le_refl _)) Y_36 S_36 G_36 hZ_24 hown_24
  obtain ⟨a_37, rfl, N_38, K_39, g_40, g_41, g_42, g_43⟩ := hQ_36
  have N_44 := Fr.app N_32 N_38
  have CH_45 : CHv Z consts_1 T_36.vm T_36.heap := R_36.1
  have CR_46 : CHr Z consts_1 s.vm h0 T_36.vm T_36.heap := CR_34.trans R_36
  have F_47 : Fld Z T_36.heap a_25 "com/example/expiring_state/expiringstate/ExpiringSet$Rules" "cap" "I" (.int i_11) := (g_31.keep K_39 nin0)
  have O_48 : Old Z n0 T_36.heap := (O_35.keep K_39 all0)
  have E_55 : Exa Z T_36.heap a_25 "com/example/expiring_state/expiringstate/ExpiringSet$Rules" := (g_29.keep K_39)
  obtain ⟨q_50, q_51, q_52, q_53, q_54⟩ := isOf (T := T_36) hZ_36 rfl E_55
  obtain ⟨_, _, ⟨T_49, L_49, k_49, n_49⟩, -, X_49, ⟨Lc_49, hQ_49, l_49, y_49, z_49⟩, st_49⟩ := X_36.virtualBack hx (y := M463) (z := M463) hown_36 (mvT hZ_36 (w50 hw)) (mvT hZ_36 (w51 hw)) (notFace_of_selects (args := #[]) (mvT hZ_36 (w53 hw))) (mvT hZ_36 (w53 hw)) (mvT hZ_36 (w52 hw)) (by decide) (backOf (W := 0) (rm_gcap l Z a0 hw [] G1 HG T_36.heap n0 O_48 a_25 i_11 F_47) hZ_36 (w54 hw) (w33 hw) (by decide) (by decide)) q_52 q_54 (g := (mkF m 43 #[.val (.int p0), .val (.int p1), .val (.int p2), .val (.int p3), .val (.int p4), .val (.ref a_2), .val (.int i_11), .val (.int i_18), .val (.ref a_25), .val (.ref a_37), .unset, .unset] [(.ref a_25)])) rfl (by rw [hml]; rfl) (Steps.refl _) (argsL := []) (rest := []) (lenOf pd_493 rfl) rfl (by show 2 * 0 + _ ≤ _; exact Nat.le_of_eq rfl) (hb hby at_43) (fun _ _ => ⟨rfl, rfl, (by decide : 12 + 0 ≤ _), (by decide : 60 + 0 ≤ _)⟩)
  dsimp only [Pt.U, Pt.locs, Pt.cells, Pt.slots] at X_49 l_49 y_49 z_49 st_49 hQ_49
  subst l_49 y_49 z_49
  obtain ⟨rfl, N_56, e_57⟩ := hQ_49
  have N_58 := Fr.app N_44 N_56
  have e_59 : T_49.heap = T_36.heap := e_57
  have F_60 : Fld Z T_36.heap a_25 "com/example/expiring_state/expiringstate/ExpiringSet$Rules" "name" "Ljava/lang/String;" (.ref a_2) := (g_30.keep K_39 nin0)
  obtain ⟨q_62, q_63, q_64, q_65, q_66⟩ := isOf (T := T_49) hZ_36 e_59 E_55
  obtain ⟨_, _, ⟨T_61, L_61, k_61, n_61⟩, -, X_61, ⟨Lc_61, hQ_61, l_61, y_61, z_61⟩, st_61⟩ := X_49.virtualBack hx (y := M468) (z := M468) hown_36 (mvT hZ_36 (w55 hw)) (mvT hZ_36 (w56 hw)) (notFace_of_selects (args := #[]) (mvT hZ_36 (w58 hw))) (mvT hZ_36 (w58 hw)) (mvT hZ_36 (w57 hw)) (by decide) (backOf (W := 0) (rm_gname l Z a0 hw [] G1 HG T_36.heap n0 O_48 a_25 a_2 F_60) hZ_36 (w59 hw) (w33 hw) (by decide) (by decide)) q_64 q_66 (g := (mkF m 53 #[.val (.int p0), .val (.int p1), .val (.int p2), .val (.int p3), .val (.int p4), .val (.ref a_2), .val (.int i_11), .val (.int i_18), .val (.ref a_25), .val (.ref a_37), .unset, .unset] [(.ref a_25)])) rfl (by rw [hml]; rfl) (Steps.refl _) (argsL := []) (rest := []) (lenOf pd_499 rfl) rfl (by show 2 * 0 + _ ≤ _; exact Nat.le_of_eq rfl) (hb hby at_53) (fun _ _ => ⟨rfl, e_59, (by decide : 12 + 0 ≤ _), (by decide : 60 + 0 ≤ _)⟩)
  dsimp only [Pt.U, Pt.locs, Pt.cells, Pt.slots] at X_61 l_61 y_61 z_61 st_61 hQ_61
  subst l_61 y_61 z_61
  obtain ⟨rfl, N_67, e_68⟩ := hQ_61
  have N_69 := Fr.app N_58 N_67
  have e_70 : T_61.heap = T_36.heap := e_68
  have E_77 : Exa Z T_36.heap a_2 "java/lang/String" := ((g_5.keep K_27).keep K_39)
  obtain ⟨q_72, q_73, q_74, q_75, q_76⟩ := isOf (T := T_61) hZ_36 e_70 E_77
  obtain ⟨_, _, ⟨T_71, L_71, k_71, n_71⟩, -, X_71, ⟨Lc_71, hQ_71, l_71, y_71, z_71⟩, st_71⟩ := X_61.virtualBack hx (y := M472) (z := M472) hown_36 (mvT hZ_36 (w60 hw)) (mvT hZ_36 (w61 hw)) (notFace_of_selects (args := #[]) (mvT hZ_36 (w63 hw))) (mvT hZ_36 (w63 hw)) (mvT hZ_36 (w62 hw)) (by decide) (backOf (W := 0) (rm_eqself l Z a0 hw [] G1 HG T_36.heap n0 O_48 a_2 ) hZ_36 (w64 hw) (w7 hw) (by decide) (by decide)) q_74 q_76 (g := (mkF m 58 #[.val (.int p0), .val (.int p1), .val (.int p2), .val (.int p3), .val (.int p4), .val (.ref a_2), .val (.int i_11), .val (.int i_18), .val (.ref a_25), .val (.ref a_37), .unset, .unset] [(.ref a_2), (.ref a_2)])) rfl (by rw [hml]; rfl) (Steps.refl _) (argsL := [(.ref a_2)]) (rest := []) (lenOf pd_505 rfl) rfl (by show 2 * 0 + _ ≤ _; exact Nat.le_of_eq rfl) (hb hby at_58) (fun _ _ => ⟨rfl, e_70, (by decide : 12 + 0 ≤ _), (by decide : 60 + 0 ≤ _)⟩)
  dsimp only [Pt.U, Pt.locs, Pt.cells, Pt.slots] at X_71 l_71 y_71 z_71 st_71 hQ_71
  subst l_71 y_71 z_71
  obtain ⟨rfl, N_78, e_79⟩ := hQ_71
  have N_80 := Fr.app N_69 N_78
  have e_81 : T_71.heap = T_36.heap := e_79
  obtain ⟨q_83, q_84, q_85, q_86, q_87⟩ := isOf (T := T_71) hZ_36 e_81 g_41
  obtain ⟨_, _, ⟨T_82, L_82, k_82, n_82⟩, -, X_82, ⟨Lc_82, hQ_82, l_82, y_82, z_82⟩, st_82⟩ := X_71.virtualBack hx (y := M463) (z := M463) hown_36 (mvT hZ_36 (w50 hw)) (mvT hZ_36 (w51 hw)) (notFace_of_selects (args := #[]) (mvT hZ_36 (w53 hw))) (mvT hZ_36 (w53 hw)) (mvT hZ_36 (w52 hw)) (by decide) (backOf (W := 0) (rm_gcap l Z a0 hw [] G1 HG T_36.heap n0 O_48 a_37 i_18 g_43) hZ_36 (w54 hw) (w33 hw) (by decide) (by decide)) q_85 q_87 (g := (mkF m 73 #[.val (.int p0), .val (.int p1), .val (.int p2), .val (.int p3), .val (.int p4), .val (.ref a_2), .val (.int i_11), .val (.int i_18), .val (.ref a_25), .val (.ref a_37), .val (.int (1 : Int32)), .unset] [(.ref a_37)])) rfl (by rw [hml]; rfl) (Steps.refl _) (argsL := []) (rest := []) (lenOf pd_493 rfl) rfl (by show 2 * 0 + _ ≤ _; exact Nat.le_of_eq rfl) (hb hby at_73) (fun _ _ => ⟨rfl, e_81, (by decide : 12 + 0 ≤ _), (by decide : 60 + 0 ≤ _)⟩)
  dsimp only [Pt.U, Pt.locs, Pt.cells, Pt.slots] at X_82 l_82 y_82 z_82 st_82 hQ_82
  subst l_82 y_82 z_82
  obtain ⟨rfl, N_88, e_89⟩ := hQ_82
  have N_90 := Fr.app N_80 N_88
  have e_91 : T_82.heap = T_36.heap := e_89
  obtain ⟨q_93, q_94, q_95, q_96, q_97⟩ := isOf (T := T_82) hZ_36 e_91 g_41
  obtain ⟨_, _, ⟨T_92, L_92, k_92, n_92⟩, -, X_92, ⟨Lc_92, hQ_92, l_92, y_92, z_92⟩, st_92⟩ := X_82.virtualBack hx (y := M468) (z := M468) hown_36 (mvT hZ_36 (w55 hw)) (mvT hZ_36 (w56 hw)) (notFace_of_selects (args := #[]) (mvT hZ_36 (w58 hw))) (mvT hZ_36 (w58 hw)) (mvT hZ_36 (w57 hw)) (by decide) (backOf (W := 0) (rm_gname l Z a0 hw [] G1 HG T_36.heap n0 O_48 a_37 a_2 g_42) hZ_36 (w59 hw) (w33 hw) (by decide) (by decide)) q_95 q_97 (g := (mkF m 83 #[.val (.int p0), .val (.int p1), .val (.int p2), .val (.int p3), .val (.int p4), .val (.ref a_2), .val (.int i_11), .val (.int i_18), .val (.ref a_25), .val (.ref a_37), .val (.int (1 : Int32)), .unset] [(.ref a_37)])) rfl (by rw [hml]; rfl) (Steps.refl _) (argsL := []) (rest := []) (lenOf pd_499 rfl) rfl (by show 2 * 0 + _ ≤ _; exact Nat.le_of_eq rfl) (hb hby at_83) (fun _ _ => ⟨rfl, e_91, (by decide : 12 + 0 ≤ _), (by decide : 60 + 0 ≤ _)⟩)
  dsimp only [Pt.U, Pt.locs, Pt.cells, Pt.slots] at X_92 l_92 y_92 z_92 st_92 hQ_92
  subst l_92 y_92 z_92
  obtain ⟨rfl, N_98, e_99⟩ := hQ_92
  have N_100 := Fr.app N_90 N_98
  have e_101 : T_92.heap = T_36.heap := e_99
  obtain ⟨q_103, q_104, q_105, q_106, q_107⟩ := isOf (T := T_92) hZ_36 e_101 E_77
  obtain ⟨_, _, ⟨T_102, L_102, k_102, n_102⟩, -, X_102, ⟨Lc_102, hQ_102, l_102, y_102, z_102⟩, st_102⟩ := X_92.virtualBack hx (y := M472) (z := M472) hown_36 (mvT hZ_36 (w60 hw)) (mvT hZ_36 (w61 hw)) (notFace_of_selects (args := #[]) (mvT hZ_36 (w63 hw))) (mvT hZ_36 (w63 hw)) (mvT hZ_36 (w62 hw)) (by decide) (backOf (W := 0) (rm_eqself l Z a0 hw [] G1 HG T_36.heap n0 O_48 a_2 ) hZ_36 (w64 hw) (w7 hw) (by decide) (by decide)) q_105 q_107 (g := (mkF m 88 #[.val (.int p0), .val (.int p1), .val (.int p2), .val (.int p3), .val (.int p4), .val (.ref a_2), .val (.int i_11), .val (.int i_18), .val (.ref a_25), .val (.ref a_37), .val (.int (1 : Int32)), .unset] [(.ref a_2), (.ref a_2)])) rfl (by rw [hml]; rfl) (Steps.refl _) (argsL := [(.ref a_2)]) (rest := []) (lenOf pd_505 rfl) rfl (by show 2 * 0 + _ ≤ _; exact Nat.le_of_eq rfl) (hb hby at_88) (fun _ _ => ⟨rfl, e_101, (by decide : 12 + 0 ≤ _), (by decide : 60 + 0 ≤ _)⟩)
  dsimp only [Pt.U, Pt.locs, Pt.cells, Pt.slots] at X_102 l_102 y_102 z_102 st_102 hQ_102
  subst l_102 y_102 z_102
  obtain ⟨rfl, N_108, e_109⟩ := hQ_102
  have N_110 := Fr.app N_100 N_108
  have e_111 : T_102.heap = T_36.heap := e_109
  have C_112 : Steps p.tables e below S0 (T_102.setTop (mkF m 116 #[.val (.int p0), .val (.int p1), .val (.int p2), .val (.int p3), .val (.int p4), .val (.ref a_2), .val (.int i_11), .val (.int i_18), .val (.ref a_25), .val (.ref a_37), .val (.int (1 : Int32)), .val (.int (1 : Int32))] [(.int (1 : Int32))])) := by
    refine C0.trans ?_
    refine XS.iloadN X0.here hx rfl (hb hby at_0) rfl ?_
    refine XS.iconst X0.here hx rfl (hb hby at_1) ?_
    refine XS.iand X0.here hx rfl (hb hby at_2) rfl ?_
    refine XS.iloadN X0.here hx rfl (hb hby at_3) rfl ?_
    refine XS.iloadN X0.here hx rfl (hb hby at_4) rfl ?_
    refine st_1.trans ?_
    refine XS.astore X_1.here hx rfl (hb hby at_8) rfl rfl (l' := #[.val (.int p0), .val (.int p1), .val (.int p2), .val (.int p3), .val (.int p4), .val (.ref a_2), .unset, .unset, .unset, .unset, .unset, .unset]) rfl ?_
    refine XS.iloadN X_1.here hx rfl (hb hby at_10) rfl ?_
    show Steps p.tables e below (T_1.setTop (mkF m 11 #[.val (.int p0), .val (.int p1), .val (.int p2), .val (.int p3), .val (.int p4), .val (.ref a_2), .unset, .unset, .unset, .unset, .unset, .unset] [(.int p3)])) _
    refine st_10 _ ?_
    refine XS.istore X_10.here hx rfl (hb hby at_14) rfl (l' := #[.val (.int p0), .val (.int p1), .val (.int p2), .val (.int p3), .val (.int p4), .val (.ref a_2), .val (.int i_11), .unset, .unset, .unset, .unset, .unset]) rfl ?_
    refine XS.iload X_10.here hx rfl (hb hby at_16) rfl ?_
    refine st_17 _ ?_
    refine XS.istore X_17.here hx rfl (hb hby at_21) rfl (l' := #[.val (.int p0), .val (.int p1), .val (.int p2), .val (.int p3), .val (.int p4), .val (.ref a_2), .val (.int i_11), .val (.int i_18), .unset, .unset, .unset, .unset]) rfl ?_
    refine XS.aload X_17.here hx rfl (hb hby at_23) rfl rfl ?_
    refine XS.iload X_17.here hx rfl (hb hby at_25) rfl ?_
    refine st_24.trans ?_
    show Steps p.tables e below (T_24.setTop (mkF m 30 #[.val (.int p0), .val (.int p1), .val (.int p2), .val (.int p3), .val (.int p4), .val (.ref a_2), .val (.int i_11), .val (.int i_18), .unset, .unset, .unset, .unset] [(.ref a_25)])) _
    refine XS.astore X_24.here hx rfl (hb hby at_30) rfl rfl (l' := #[.val (.int p0), .val (.int p1), .val (.int p2), .val (.int p3), .val (.int p4), .val (.ref a_2), .val (.int i_11), .val (.int i_18), .val (.ref a_25), .unset, .unset, .unset]) rfl ?_
    refine XS.aload X_24.here hx rfl (hb hby at_32) rfl rfl ?_
    refine XS.iload X_24.here hx rfl (hb hby at_34) rfl ?_
    refine st_36.trans ?_
    refine XS.astore X_36.here hx rfl (hb hby at_39) rfl rfl (l' := #[.val (.int p0), .val (.int p1), .val (.int p2), .val (.int p3), .val (.int p4), .val (.ref a_2), .val (.int i_11), .val (.int i_18), .val (.ref a_25), .val (.ref a_37), .unset, .unset]) rfl ?_
    refine XS.aload X_36.here hx rfl (hb hby at_41) rfl rfl ?_
    refine st_49.trans ?_
    refine XS.iload X_49.here hx rfl (hb hby at_46) rfl ?_
    show Steps p.tables e below (T_49.setTop (mkF m 48 #[.val (.int p0), .val (.int p1), .val (.int p2), .val (.int p3), .val (.int p4), .val (.ref a_2), .val (.int i_11), .val (.int i_18), .val (.ref a_25), .val (.ref a_37), .unset, .unset] [(.int i_11), (.int i_11)])) _
    refine XS.icmpNo X_49.here hx rfl (hb hby at_48) rfl (ii_ne_f rfl) ?_
    refine XS.aload X_49.here hx rfl (hb hby at_51) rfl rfl ?_
    refine st_61.trans ?_
    refine XS.aload X_61.here hx rfl (hb hby at_56) rfl rfl ?_
    refine st_71.trans ?_
    refine XS.ifNo X_71.here hx rfl (hb hby at_61) rfl (by decide) ?_
    refine XS.iconst X_71.here hx rfl (hb hby at_64) ?_
    refine XS.goto X_71.here hx rfl (pc0 := 65) (pc' := 69) rfl (hb hby at_65) (by decide) (by decide) ?_
    show Steps p.tables e below (T_71.setTop (mkF m 69 #[.val (.int p0), .val (.int p1), .val (.int p2), .val (.int p3), .val (.int p4), .val (.ref a_2), .val (.int i_11), .val (.int i_18), .val (.ref a_25), .val (.ref a_37), .unset, .unset] [(.int (1 : Int32))])) _
    refine XS.istore X_71.here hx rfl (hb hby at_69) rfl (l' := #[.val (.int p0), .val (.int p1), .val (.int p2), .val (.int p3), .val (.int p4), .val (.ref a_2), .val (.int i_11), .val (.int i_18), .val (.ref a_25), .val (.ref a_37), .val (.int (1 : Int32)), .unset]) rfl ?_
    refine XS.aload X_71.here hx rfl (hb hby at_71) rfl rfl ?_
    refine st_82.trans ?_
    refine XS.iload X_82.here hx rfl (hb hby at_76) rfl ?_
    refine XS.icmpNo X_82.here hx rfl (hb hby at_78) rfl (ii_ne_f rfl) ?_
    refine XS.aload X_82.here hx rfl (hb hby at_81) rfl rfl ?_
    refine st_92.trans ?_
    refine XS.aload X_92.here hx rfl (hb hby at_86) rfl rfl ?_
    show Steps p.tables e below (T_92.setTop (mkF m 88 #[.val (.int p0), .val (.int p1), .val (.int p2), .val (.int p3), .val (.int p4), .val (.ref a_2), .val (.int i_11), .val (.int i_18), .val (.ref a_25), .val (.ref a_37), .val (.int (1 : Int32)), .unset] [(.ref a_2), (.ref a_2)])) _
    refine st_102.trans ?_
    refine XS.ifNo X_102.here hx rfl (hb hby at_91) rfl (by decide) ?_
    refine XS.iconst X_102.here hx rfl (hb hby at_94) ?_
    refine XS.goto X_102.here hx rfl (pc0 := 95) (pc' := 99) rfl (hb hby at_95) (by decide) (by decide) ?_
    refine XS.istore X_102.here hx rfl (hb hby at_99) rfl (l' := #[.val (.int p0), .val (.int p1), .val (.int p2), .val (.int p3), .val (.int p4), .val (.ref a_2), .val (.int i_11), .val (.int i_18), .val (.ref a_25), .val (.ref a_37), .val (.int (1 : Int32)), .val (.int (1 : Int32))]) rfl ?_
    refine XS.iload X_102.here hx rfl (hb hby at_101) rfl ?_
    refine XS.ifNo X_102.here hx rfl (hb hby at_103) rfl (by decide) ?_
    refine XS.iload X_102.here hx rfl (hb hby at_106) rfl ?_
    show Steps p.tables e below (T_102.setTop (mkF m 108 #[.val (.int p0), .val (.int p1), .val (.int p2), .val (.int p3), .val (.int p4), .val (.ref a_2), .val (.int i_11), .val (.int i_18), .val (.ref a_25), .val (.ref a_37), .val (.int (1 : Int32)), .val (.int (1 : Int32))] [(.int (1 : Int32))])) _
    refine XS.ifNo X_102.here hx rfl (hb hby at_108) rfl (by decide) ?_
    refine XS.iconst X_102.here hx rfl (hb hby at_111) ?_
    refine XS.goto X_102.here hx rfl (pc0 := 112) (pc' := 116) rfl (hb hby at_112) (by decide) (by decide) ?_
    exact Steps.refl _
  have K_113 : Keep h0 T_36.heap [] := ((((Keep.refl _ _).trans K_4 all0).trans K_27 all0).trans K_39 all0)
  obtain ⟨fs, hr, hrun, hended, hRE⟩ := X_102.leaveW hS_36 (by rw [show T_102.heap = T_36.heap from e_111]; exact (Nat.le_refl _)) (v := some (.int (1 : Int32))) (fun h => by rw [Bd.returns] at h; cases h)
  refine ⟨_, _, C_112.trans (retN X_102 hx (t := .boolean) Bd.returns (by simp) (hb hby at_116) hr), hrun, hended, _, _, rfl, ?_, ?_, hRE.1, hRE.2.1, hRE.2.2.1, hRE.2.2.2.mono (by decide) (by decide)⟩
  · show Q_law Z G1 p0 p1 p2 p3 p4 h0 n0 (some (.int (1 : Int32))) T_102.heap _
    rw [e_111]
    exact ⟨rfl, N_110, K_113⟩
  · show CHr Z consts_1 s.vm s.heap T_102.vm T_102.heap
    rw [hh, show T_102.heap = T_36.heap from e_111]
    exact CR_46.trans (CHv.at X_102 hZ_36 hEL CH_45)
theorem own_sta {s : State} {args : Array Value} {C n d K : String} (hx : (Jvm.Cond.exactly (.static C n d) K).value args s none s [] = some true) (hi : (Jvm.Cond.initialized C).before args s = true) (hl : (Jvm.Cond.laysStatic C n d).before args s = true) :
    ∃ a, Sta s s.heap C n d (.ref a) ∧ Exa s s.heap a K ∧ (Term.static C n d).eval args s none [] s = some (.ref a) := by
  obtain ⟨a, c', cell, k, e1, -⟩ := Cond.exactly_spec (Cond.before_iff.mpr hx)
  exact ⟨a, Sta.start e1 (Or.inr ⟨hi, hl⟩), Exa.start e1 hx, e1⟩
theorem own_fld {s : State} {args : Array Value} {t : Term} {a : Addr} {O n d : String} {v : Value} (ev : t.eval args s none [] s = some (.ref a)) (h : (Term.field t O n d).eval args s none [] s = some v) : Fld s s.heap a O n d v :=
  Fld.start (by simpa [Term.eval, ev] using h)
theorem own_fldI {s : State} {args : Array Value} {t : Term} {a : Addr} {O n d : String} {i : Int32} (ev : t.eval args s none [] s = some (.ref a)) (h : (Jvm.Cond.eq (Term.field t O n d) (.int i)).value args s none s [] = some true) : Fld s s.heap a O n d (.int i) :=
  own_fld ev (eqv_i (Term.int_eval i) h)
set_option maxRecDepth 65536 in
set_option maxHeartbeats 40000000 in
theorem comes_1 {Post : Tables → Env → Array Value → State → Outcome → State → Prop} (hpost : ∀ tb e args s v u, (limb_1_1.after args s (.returned v) u = true ∧ limb_1_2.after args s (.returned v) u = true ∧ True) → ReturnedEndW s (.returned v) u (Jvm.fieldLocs frame_1_writes args s ++ Jvm.arrayLocs frame_1_arrays args s ++ Jvm.staticLocs frame_1_statics s) 24 2176 → Post tb e args s (.returned v) u) :
    ArmFor flags0 classFile x code maxLocals ret World_1 tables_1 room_1 Calls_1 rest_1 Pre_1 Post := by
  intro l hfl _ _ p e ha hc hk s m args below hf hA hF happ hP
  obtain ⟨hcalls, hrest, hpre⟩ := hP
  obtain ⟨-, -, -, hnamed, -, -, -, hat⟩ := (Spec.applies_iff hf).mp happ
  obtain ⟨hg, hn⟩ := and_e (Cond.before_iff.mp (show (Jvm.Cond.and given_1 narrow_1).before args s = true from hpre))
  obtain ⟨h1, g0⟩ := and_e hg
  obtain ⟨a0, g1⟩ := and_e g0
  obtain ⟨a1, g2⟩ := and_e g1
  obtain ⟨a2, g3⟩ := and_e g2
  obtain ⟨a3, g4⟩ := and_e g3
  have a4 := g4
  obtain ⟨w0, w1, w2, w3, w4, rfl⟩ : ∃ w0 w1 w2 w3 w4 : Value, args = #[w0, w1, w2, w3, w4] := by
    have hs : args.size = 5 := by simpa [Cond.value, given_1] using h1
    obtain ⟨L⟩ := args
    match L, hs with
    | [w0, w1, w2, w3, w4], _ => exact ⟨w0, w1, w2, w3, w4, rfl⟩
  have hw := fun d (hd : d ∈ tables_1) => atoms_spec (ws := Jvm.Cond.code x code maxLocals ret :: tables_1) hat d (List.mem_cons_of_mem _ hd)
  obtain ⟨hsets, hown0⟩ := atoms_of _ (rest_1_c_eq ▸ (show rest_1_c.before _ s = true from hrest))
  have hfit : Fit s := fun {y c} hc i hi => by
    obtain ⟨ha, rfl⟩ := Array.getElem?_eq_some_iff.mp hc
    have q := List.all_eq_true.mp ((Array.all_eq_true_iff_forall_mem.mp hF) _ (Array.getElem_mem ha)) i (List.mem_range.mpr hi)
    simpa [Array.getElem?_eq_getElem hi] using q
  obtain ⟨i0, q0⟩ := is_v a0
  obtain rfl : w0 = (.int i0) := Option.some.inj q0
  obtain ⟨i1, q1⟩ := is_v a1
  obtain rfl : w1 = (.int i1) := Option.some.inj q1
  obtain ⟨i2, q2⟩ := is_v a2
  obtain rfl : w2 = (.int i2) := Option.some.inj q2
  obtain ⟨i3, q3⟩ := is_v a3
  obtain rfl : w3 = (.int i3) := Option.some.inj q3
  obtain ⟨i4, q4⟩ := is_v a4
  obtain rfl : w4 = (.int i4) := Option.some.inj q4
  obtain ⟨iCS, eCS⟩ := is_v (Cond.before_iff.mp (hsets _ (List.mem_of_getElem? (i := 1) rfl)))
  have SCS : Sta s s.heap "java/lang/String" "COMPACT_STRINGS" "Z" (.int iCS) := Sta.start eCS (Or.inl (hsets _ (List.mem_of_getElem? (i := 0) rfl)))
  have PCS : ¬ (iCS = (0 : Int32)) := gotF (Cond.eq_ints eCS (Term.int_eval (0))) (not_v (Cond.before_iff.mp (hsets _ (List.mem_of_getElem? (i := 2) rfl))))
  have ST0 : Sta s s.heap "java/lang/StringUTF16" "$assertionsDisabled" "Z" (.int (1 : Int32)) := Sta.start (eqv_i (Term.int_eval (1)) (Cond.before_iff.mp (hsets _ (List.mem_of_getElem? (i := 12) rfl)))) (Or.inl (hsets _ (List.mem_of_getElem? (i := 11) rfl)))
  have ST1 : Sta s s.heap "java/lang/StringUTF16" "HI_BYTE_SHIFT" "I" (.int (0 : Int32)) := Sta.start (eqv_i (Term.int_eval (0)) (Cond.before_iff.mp (hsets _ (List.mem_of_getElem? (i := 15) rfl)))) (Or.inl (hsets _ (List.mem_of_getElem? (i := 14) rfl)))
  have ST2 : Sta s s.heap "java/lang/StringUTF16" "LO_BYTE_SHIFT" "I" (.int (8 : Int32)) := Sta.start (eqv_i (Term.int_eval (8)) (Cond.before_iff.mp (hsets _ (List.mem_of_getElem? (i := 18) rfl)))) (Or.inl (hsets _ (List.mem_of_getElem? (i := 17) rfl)))
  have HG : own_G l s #[(.int i0), (.int i1), (.int i2), (.int i3), (.int i4)] iCS := ⟨SCS, PCS, ST0, ST1, ST2⟩
  have CH : CHv s consts_1 s.vm s.heap := CHv.start (own_EL hw) hcalls.1 (hsets _ (List.mem_of_getElem? (i := 2) rfl)) (hw _ (List.mem_of_getElem? (i := 20) rfl)) (hw _ (List.mem_of_getElem? (i := 6) rfl))
  obtain ⟨n, o, h1, h2, h3, _, L, rfl, ⟨rfl, N, -⟩, -, hq⟩ := rm_law l s _ hw tables_1 iCS HG s.heap s.heap.size (Old.start s) i0 i1 i2 i3 i4 p e ha hc hk s m _ below hf ((Spec.applies_iff_loose hf).mp happ).1 ⟨rfl, State.Warmed39.refl s, rfl, CH⟩ trivial
  refine ⟨n, _, h1, h2, h3, hpost _ _ _ _ _ _ ⟨Cond.after_iff.mpr rfl, Cond.after_iff.mpr (eq_i res_at (Term.int_eval (1)) rfl), trivial⟩ ⟨hq.1, hq.2.1, hq.2.2.1, (hq.2.2.2.sift fun y hy => Or.inr (N y hy)).mono (by decide) (by decide)⟩⟩
theorem main_1_1 : Claimed_1_1 := comes_1 fun _ _ _ _ _ _ h hF => ⟨h.1, hF⟩
theorem main_1_2 : Claimed_1_2 := comes_1 fun _ _ _ _ _ _ h hF => ⟨h.2.1, hF⟩
end Jvm.Pilot.@@N@@
namespace Jvm.Pilot.@@N@@
open Jvm Jvm.ClassFile Sem Op Lib Jvm.Free Jvm.Stand Jvm.Pilot.@@N@@.Jvm.D
/-! MADE BY PROGRAM (witnessworld.py) out of the Statement's table words and the real class files: 21 classes; the members and pool entries that the words name. The judged class is class 1, her method 3. -/
namespace start1
open Jvm.ClassFile
def u (s : String) : CpInfo := .utf8 (stringToUtf16 s)
/-- a pool by its gaps: so many unusable entries, then the entry; so many at the end -/
def gap : Nat → List CpInfo → List CpInfo
  | 0, r => r
  | n + 1, r => .unusable :: gap n r
def poolList (es : List (Nat × CpInfo)) (last : Nat) : List CpInfo := es.foldr (fun e r => gap e.1 (e.2 :: r)) (gap last [])
def pool (es : List (Nat × CpInfo)) (last : Nat) : Array CpInfo := ⟨poolList es last⟩
def fileOf (pool : Array CpInfo) (this : Nat) (attrs : Array Attribute := #[]) (ms : Array MethodInfo := #[]) (fl : Nat := 33) (sup : Nat := 0) (ifs : Array Nat := #[]) (fds : Array FieldInfo := #[]) : ClassFile where
  minorVersion := 0
  majorVersion := 65
  constantPool := pool
  accessFlags := fl
  thisClass := this
  superClass := sup
  interfaces := ifs
  fields := fds
  methods := ms
  attributes := attrs
def plain (name : String) (sup : Option ClassId) : Class where
  name := name
  kind := .ordinary
  loader := none
  accessFlags := 33
  super := sup
  interfaces := #[]
  cf := none
  fields := #[]
  methods := #[]
  instanceTypes := #[]
  staticTypes := #[]
  resolved := #[]
  callSites := []
  init := .initialized
  statics := none
  mirror := none

def pool0 : Array CpInfo := pool [(5, u "<init>"), (0, u "()V"), (1, .class_ 10), (1, u "java/lang/Object")] 113

def k0c0 : Code := { maxStack := 0, maxLocals := 1, code := object_method_1_code, exceptionTable := #[], attributes := #[] }
def k0m0 : Method := { name := "<init>", desc := "()V", sig := { parameters := [], returnType := none }, accessFlags := 1, code := some k0c0 }
/-- java/lang/Object -/
def k0 : Class := { plain "java/lang/Object" none with
  accessFlags := 33
  interfaces := #[]
  cf := some (fileOf pool0 8 #[] #[{ accessFlags := 1, nameIndex := 5, descriptorIndex := 6, attributes := #[] }] 33 0 #[] #[])
  fields := #[]
  methods := #[k0m0]
  instanceTypes := #[]
  staticTypes := #[]
  resolved := Array.replicate 124 none
  statics := none }

def pool1 : Array CpInfo := pool [(2, .class_ 4), (1, u "java/lang/Object"), (0, u "<init>"), (0, u "()V"), (0, .integer 65535), (0, .class_ 9), (0, u "java/lang/String"), (0, .methodref 8 11), (0, .nameAndType 5 12), (0, u "([C)V"), (0, .methodref 8 14), (0, .nameAndType 15 16), (0, u "valueOf"), (0, u "(C)Ljava/lang/String;"), (0, .integer 2147483647), (0, .methodref 19 20), (0, .class_ 21), (0, .nameAndType 22 23), (0, u "com/example/expiring_state/expiringstate/RulesOfPinLaw"), (0, u "draw"), (0, u "(III)Ljava/lang/String;"), (0, .methodref 19 25), (0, .nameAndType 26 27), (0, u "capOf"), (0, u "(I)I"), (0, .methodref 29 30), (0, .class_ 31), (0, .nameAndType 32 33), (0, u "com/example/expiring_state/expiringstate/ExpiringSet$Rules"), (0, u "of"), (0, u "(Ljava/lang/String;I)Lcom/example/expiring_state/expiringstate/ExpiringSet$Rules;"), (0, .methodref 29 35), (0, .nameAndType 36 37), (0, u "cap"), (0, u "()I"), (0, .methodref 29 39), (0, .nameAndType 40 41), (0, u "name"), (0, u "()Ljava/lang/String;"), (0, .methodref 8 43), (0, .nameAndType 44 45), (0, u "equals"), (0, u "(Ljava/lang/Object;)Z"), (3, u "law"), (0, u "(IIIII)Z")] 6

def k1m0 : Method := { name := "<init>", desc := "()V", sig := { parameters := [], returnType := none }, accessFlags := 2, code := none }
def k1c1 : Code := { maxStack := 6, maxLocals := 6, code := method_2_code, exceptionTable := #[], attributes := #[] }
def k1m1 : Method := { name := "draw", desc := "(III)Ljava/lang/String;", sig := { parameters := [.int, .int, .int], returnType := some (.object "java/lang/String") }, accessFlags := 10, code := some k1c1 }
def k1c2 : Code := { maxStack := 2, maxLocals := 2, code := method_3_code, exceptionTable := #[], attributes := #[] }
def k1m2 : Method := { name := "capOf", desc := "(I)I", sig := { parameters := [.int], returnType := some .int }, accessFlags := 10, code := some k1c2 }
def k1c3 : Code := { maxStack := 3, maxLocals := 12, code := code, exceptionTable := #[], attributes := #[] }
def k1m3 : Method := { name := "law", desc := "(IIIII)Z", sig := { parameters := [.int, .int, .int, .int, .int], returnType := some .boolean }, accessFlags := 9, code := some k1c3 }
/-- com/example/expiring_state/expiringstate/RulesOfPinLaw -/
def k1 : Class := { plain "com/example/expiring_state/expiringstate/RulesOfPinLaw" (some 0) with
  accessFlags := 49
  interfaces := #[]
  cf := some (fileOf pool1 19 #[] #[{ accessFlags := 2, nameIndex := 5, descriptorIndex := 6, attributes := #[] }, { accessFlags := 10, nameIndex := 22, descriptorIndex := 23, attributes := #[] }, { accessFlags := 10, nameIndex := 26, descriptorIndex := 27, attributes := #[] }, { accessFlags := 9, nameIndex := 49, descriptorIndex := 50, attributes := #[] }] 49 2 #[] #[])
  fields := #[]
  methods := #[k1m0, k1m1, k1m2, k1m3]
  instanceTypes := #[]
  staticTypes := #[]
  resolved := Array.replicate 57 none
  statics := none }

def pool2 : Array CpInfo := pool [(1, .class_ 2), (0, u "java/io/Serializable"), (0, .class_ 4), (0, u "java/lang/Object")] 2

/-- java/io/Serializable -/
def k2 : Class := { plain "java/io/Serializable" (some 0) with
  accessFlags := 1537
  interfaces := #[]
  cf := some (fileOf pool2 1 #[] #[] 1537 3 #[] #[])
  fields := #[]
  methods := #[]
  instanceTypes := #[]
  staticTypes := #[]
  resolved := Array.replicate 7 none
  statics := none }

def pool3 : Array CpInfo := pool [(1, .class_ 2), (0, u "java/lang/Comparable"), (0, .class_ 4), (0, u "java/lang/Object")] 7

/-- java/lang/Comparable -/
def k3 : Class := { plain "java/lang/Comparable" (some 0) with
  accessFlags := 1537
  interfaces := #[]
  cf := some (fileOf pool3 1 #[] #[] 1537 3 #[] #[])
  fields := #[]
  methods := #[]
  instanceTypes := #[]
  staticTypes := #[]
  resolved := Array.replicate 12 none
  statics := none }

def pool4 : Array CpInfo := pool [(2, .class_ 4), (1, u "java/lang/CharSequence"), (42, .class_ 48), (0, u "java/lang/CharSequence$1CodePointIterator"), (10, .class_ 60), (0, u "java/lang/CharSequence$1CharIterator"), (5, .class_ 67), (0, u "java/lang/Object")] 63

/-- java/lang/CharSequence -/
def k4 : Class := { plain "java/lang/CharSequence" (some 0) with
  accessFlags := 1537
  interfaces := #[]
  cf := some (fileOf pool4 2 #[.nestMembers #[47, 59]] #[] 1537 66 #[] #[])
  fields := #[]
  methods := #[]
  instanceTypes := #[]
  staticTypes := #[]
  resolved := Array.replicate 131 none
  statics := none }

def pool5 : Array CpInfo := pool [(1, .class_ 2), (0, u "java/lang/constant/Constable"), (0, .class_ 4), (0, u "java/lang/Object")] 6

/-- java/lang/constant/Constable -/
def k5 : Class := { plain "java/lang/constant/Constable" (some 0) with
  accessFlags := 1537
  interfaces := #[]
  cf := some (fileOf pool5 1 #[] #[] 1537 3 #[] #[])
  fields := #[]
  methods := #[]
  instanceTypes := #[]
  staticTypes := #[]
  resolved := Array.replicate 11 none
  statics := none }

def pool6 : Array CpInfo := pool [(1, .class_ 2), (0, u "java/lang/constant/ConstantDesc"), (0, .class_ 4), (0, u "java/lang/Object")] 32

/-- java/lang/constant/ConstantDesc -/
def k6 : Class := { plain "java/lang/constant/ConstantDesc" (some 0) with
  accessFlags := 1537
  interfaces := #[]
  cf := some (fileOf pool6 1 #[] #[] 1537 3 #[] #[])
  fields := #[]
  methods := #[]
  instanceTypes := #[]
  staticTypes := #[]
  resolved := Array.replicate 37 none
  statics := none }

def pool7 : Array CpInfo := pool [(1, .methodref 2 3), (0, .class_ 4), (0, .nameAndType 5 6), (0, u "java/lang/Object"), (0, u "<init>"), (0, u "()V"), (0, .string 8), (0, u ""), (0, .fieldref 10 11), (0, .class_ 12), (0, .nameAndType 13 14), (0, u "java/lang/String"), (0, u "value"), (0, u "[B"), (0, .fieldref 10 16), (0, .nameAndType 17 18), (0, u "coder"), (0, u "B"), (2, u "hash"), (0, u "I"), (2, u "hashIsZero"), (0, u "Z"), (0, .methodref 10 28), (0, .nameAndType 5 29), (0, u "([CIILjava/lang/Void;)V"), (8, .fieldref 10 39), (0, .nameAndType 40 26), (0, u "COMPACT_STRINGS"), (1, .class_ 44), (1, u "java/lang/StringUTF16"), (0, u "compress"), (1, .methodref 42 48), (0, .nameAndType 49 50), (0, u "coderFromArrayLen"), (0, u "([BI)B"), (2, u "toBytes"), (53, .class_ 109), (1, u "java/lang/StringLatin1"), (67, .methodref 42 178), (0, .nameAndType 45 179), (0, u "([CII)[B"), (29, .methodref 10 210), (0, .nameAndType 5 211), (0, u "([BB)V"), (157, u "(C)Z"), (173, u "equals"), (29, u "(Ljava/lang/Object;)Z"), (1, .class_ 576), (0, u "java/lang/CharSequence"), (22, u "CASE_INSENSITIVE_ORDER"), (0, u "Ljava/util/Comparator;"), (181, u "valueOf"), (0, u "(C)Ljava/lang/String;"), (226, u "([C)V"), (4, .methodref 107 1016), (0, .nameAndType 1017 369), (0, u "canEncode"), (0, .methodref 107 1019), (0, .nameAndType 53 1020), (0, u "(C)[B"), (0, .methodref 42 1019), (79, u "serialPersistentFields"), (0, u "[Ljava/io/ObjectStreamField;"), (0, .class_ 1104), (0, u "java/lang/String$CaseInsensitiveComparator"), (1, .class_ 1107), (0, u "java/io/Serializable"), (0, .class_ 1109), (0, u "java/lang/Comparable"), (0, .class_ 1111), (0, u "java/lang/constant/Constable"), (0, .class_ 1113), (0, u "java/lang/constant/ConstantDesc"), (2, u "serialVersionUID"), (0, u "J"), (3, u "REPL"), (0, u "C"), (2, u "LATIN1"), (1, u "UTF16")] 323

def k7m0 : Method := { name := "<init>", desc := "()V", sig := { parameters := [], returnType := none }, accessFlags := 1, code := none }
def k7c1 : Code := { maxStack := 5, maxLocals := 2, code := jdk_42_method_3_code, exceptionTable := #[], attributes := #[] }
def k7m1 : Method := { name := "<init>", desc := "([C)V", sig := { parameters := [(.array .char)], returnType := none }, accessFlags := 1, code := some k7c1 }
def k7c2 : Code := { maxStack := 2, maxLocals := 3, code := jdk_42_method_66_code, exceptionTable := #[], attributes := #[] }
def k7m2 : Method := { name := "equals", desc := "(Ljava/lang/Object;)Z", sig := { parameters := [(.object "java/lang/Object")], returnType := some .boolean }, accessFlags := 1, code := some k7c2 }
def k7c3 : Code := { maxStack := 4, maxLocals := 1, code := jdk_42_method_139_code, exceptionTable := #[], attributes := #[] }
def k7m3 : Method := { name := "valueOf", desc := "(C)Ljava/lang/String;", sig := { parameters := [.char], returnType := some (.object "java/lang/String") }, accessFlags := 9, code := some k7c3 }
def k7c4 : Code := { maxStack := 4, maxLocals := 6, code := jdk_42_method_149_code, exceptionTable := #[], attributes := #[] }
def k7m4 : Method := { name := "<init>", desc := "([CIILjava/lang/Void;)V", sig := { parameters := [(.array .char), .int, .int, (.object "java/lang/Void")], returnType := none }, accessFlags := 2, code := some k7c4 }
def k7c5 : Code := { maxStack := 2, maxLocals := 3, code := jdk_42_method_151_code, exceptionTable := #[], attributes := #[] }
def k7m5 : Method := { name := "<init>", desc := "([BB)V", sig := { parameters := [(.array .byte), .byte], returnType := none }, accessFlags := 0, code := some k7c5 }
/-- java/lang/String -/
def k7 : Class := { plain "java/lang/String" (some 0) with
  accessFlags := 49
  interfaces := #[2, 3, 4, 5, 6]
  cf := some (fileOf pool7 10 #[.nestMembers #[1103]] #[{ accessFlags := 1, nameIndex := 5, descriptorIndex := 6, attributes := #[] }, { accessFlags := 1, nameIndex := 5, descriptorIndex := 1010, attributes := #[] }, { accessFlags := 1, nameIndex := 543, descriptorIndex := 573, attributes := #[] }, { accessFlags := 9, nameIndex := 782, descriptorIndex := 783, attributes := #[] }, { accessFlags := 2, nameIndex := 5, descriptorIndex := 29, attributes := #[] }, { accessFlags := 0, nameIndex := 5, descriptorIndex := 211, attributes := #[] }] 49 2 #[1106, 1108, 575, 1110, 1112] #[{ accessFlags := 18, nameIndex := 13, descriptorIndex := 14, attributes := #[] }, { accessFlags := 18, nameIndex := 17, descriptorIndex := 18, attributes := #[] }, { accessFlags := 2, nameIndex := 21, descriptorIndex := 22, attributes := #[] }, { accessFlags := 2, nameIndex := 25, descriptorIndex := 26, attributes := #[] }, { accessFlags := 26, nameIndex := 1116, descriptorIndex := 1117, attributes := #[] }, { accessFlags := 24, nameIndex := 40, descriptorIndex := 26, attributes := #[] }, { accessFlags := 26, nameIndex := 1101, descriptorIndex := 1102, attributes := #[] }, { accessFlags := 26, nameIndex := 1121, descriptorIndex := 1122, attributes := #[] }, { accessFlags := 25, nameIndex := 599, descriptorIndex := 600, attributes := #[] }, { accessFlags := 24, nameIndex := 1125, descriptorIndex := 18, attributes := #[] }, { accessFlags := 24, nameIndex := 1127, descriptorIndex := 18, attributes := #[] }])
  fields := #[{ name := "value", type := (.array .byte), accessFlags := 18, slot := 0, constantValue := 0 }, { name := "coder", type := .byte, accessFlags := 18, slot := 1, constantValue := 0 }, { name := "hash", type := .int, accessFlags := 2, slot := 2, constantValue := 0 }, { name := "hashIsZero", type := .boolean, accessFlags := 2, slot := 3, constantValue := 0 }, { name := "serialVersionUID", type := .long, accessFlags := 26, slot := 0, constantValue := 0 }, { name := "COMPACT_STRINGS", type := .boolean, accessFlags := 24, slot := 1, constantValue := 0 }, { name := "serialPersistentFields", type := (.array (.object "java/io/ObjectStreamField")), accessFlags := 26, slot := 2, constantValue := 0 }, { name := "REPL", type := .char, accessFlags := 26, slot := 3, constantValue := 0 }, { name := "CASE_INSENSITIVE_ORDER", type := (.object "java/util/Comparator"), accessFlags := 25, slot := 4, constantValue := 0 }, { name := "LATIN1", type := .byte, accessFlags := 24, slot := 5, constantValue := 0 }, { name := "UTF16", type := .byte, accessFlags := 24, slot := 6, constantValue := 0 }]
  methods := #[k7m0, k7m1, k7m2, k7m3, k7m4, k7m5]
  instanceTypes := #[(.array .byte), .byte, .int, .boolean]
  staticTypes := #[.long, .boolean, (.array (.object "java/io/ObjectStreamField")), .char, (.object "java/util/Comparator"), .byte, .byte]
  resolved := Array.replicate 1451 none
  statics := some 0 }

def pool8 : Array CpInfo := pool [(1, .methodref 2 3), (0, .class_ 4), (0, .nameAndType 5 6), (0, u "java/lang/Object"), (0, u "<init>"), (0, u "()V"), (0, .fieldref 8 9), (0, .class_ 10), (0, .nameAndType 11 12), (0, u "com/example/expiring_state/expiringstate/ExpiringSet$Rules"), (0, u "name"), (0, u "Ljava/lang/String;"), (0, .fieldref 8 14), (0, .nameAndType 15 16), (0, u "cap"), (0, u "I"), (0, .string 11), (0, .methodref 19 20), (0, .class_ 21), (0, .nameAndType 22 23), (0, u "java/util/Objects"), (0, u "requireNonNull"), (0, u "(Ljava/lang/Object;Ljava/lang/String;)Ljava/lang/Object;"), (19, .methodref 8 44), (0, .nameAndType 5 45), (0, u "(Ljava/lang/String;I)V"), (4, u "of"), (0, u "(Ljava/lang/String;I)Lcom/example/expiring_state/expiringstate/ExpiringSet$Rules;"), (1, u "()Ljava/lang/String;"), (0, u "()I"), (4, .class_ 60), (0, u "com/example/expiring_state/expiringstate/ExpiringSet")] 2

def k8c0 : Code := { maxStack := 2, maxLocals := 3, code := prog_10_method_1_code, exceptionTable := #[], attributes := #[] }
def k8m0 : Method := { name := "<init>", desc := "(Ljava/lang/String;I)V", sig := { parameters := [(.object "java/lang/String"), .int], returnType := none }, accessFlags := 2, code := some k8c0 }
def k8c1 : Code := { maxStack := 7, maxLocals := 2, code := prog_10_method_2_code, exceptionTable := #[], attributes := #[] }
def k8m1 : Method := { name := "of", desc := "(Ljava/lang/String;I)Lcom/example/expiring_state/expiringstate/ExpiringSet$Rules;", sig := { parameters := [(.object "java/lang/String"), .int], returnType := some (.object "com/example/expiring_state/expiringstate/ExpiringSet$Rules") }, accessFlags := 9, code := some k8c1 }
def k8c2 : Code := { maxStack := 1, maxLocals := 1, code := prog_10_method_3_code, exceptionTable := #[], attributes := #[] }
def k8m2 : Method := { name := "name", desc := "()Ljava/lang/String;", sig := { parameters := [], returnType := some (.object "java/lang/String") }, accessFlags := 1, code := some k8c2 }
def k8c3 : Code := { maxStack := 1, maxLocals := 1, code := prog_10_method_4_code, exceptionTable := #[], attributes := #[] }
def k8m3 : Method := { name := "cap", desc := "()I", sig := { parameters := [], returnType := some .int }, accessFlags := 1, code := some k8c3 }
/-- com/example/expiring_state/expiringstate/ExpiringSet$Rules -/
def k8 : Class := { plain "com/example/expiring_state/expiringstate/ExpiringSet$Rules" (some 0) with
  accessFlags := 49
  interfaces := #[]
  cf := some (fileOf pool8 8 #[.nestHost 59] #[{ accessFlags := 2, nameIndex := 5, descriptorIndex := 45, attributes := #[] }, { accessFlags := 9, nameIndex := 50, descriptorIndex := 51, attributes := #[] }, { accessFlags := 1, nameIndex := 11, descriptorIndex := 53, attributes := #[] }, { accessFlags := 1, nameIndex := 15, descriptorIndex := 54, attributes := #[] }] 49 2 #[] #[{ accessFlags := 18, nameIndex := 11, descriptorIndex := 12, attributes := #[] }, { accessFlags := 18, nameIndex := 15, descriptorIndex := 16, attributes := #[] }])
  fields := #[{ name := "name", type := (.object "java/lang/String"), accessFlags := 18, slot := 0, constantValue := 0 }, { name := "cap", type := .int, accessFlags := 18, slot := 1, constantValue := 0 }]
  methods := #[k8m0, k8m1, k8m2, k8m3]
  instanceTypes := #[(.object "java/lang/String"), .int]
  staticTypes := #[]
  resolved := Array.replicate 63 none
  statics := none }

def pool9 : Array CpInfo := pool [(2, .class_ 4), (1, u "java/lang/Object"), (0, u "<init>"), (0, u "()V"), (35, .class_ 44), (1, u "java/util/Objects"), (0, u "requireNonNull"), (48, u "(Ljava/lang/Object;Ljava/lang/String;)Ljava/lang/Object;")] 89

def k9m0 : Method := { name := "<init>", desc := "()V", sig := { parameters := [], returnType := none }, accessFlags := 2, code := none }
def k9c1 : Code := { maxStack := 3, maxLocals := 2, code := jdk_31_method_11_code, exceptionTable := #[], attributes := #[] }
def k9m1 : Method := { name := "requireNonNull", desc := "(Ljava/lang/Object;Ljava/lang/String;)Ljava/lang/Object;", sig := { parameters := [(.object "java/lang/Object"), (.object "java/lang/String")], returnType := some (.object "java/lang/Object") }, accessFlags := 9, code := some k9c1 }
/-- java/util/Objects -/
def k9 : Class := { plain "java/util/Objects" (some 0) with
  accessFlags := 49
  interfaces := #[]
  cf := some (fileOf pool9 42 #[] #[{ accessFlags := 2, nameIndex := 5, descriptorIndex := 6, attributes := #[] }, { accessFlags := 9, nameIndex := 45, descriptorIndex := 94, attributes := #[] }] 49 2 #[] #[])
  fields := #[]
  methods := #[k9m0, k9m1]
  instanceTypes := #[]
  staticTypes := #[]
  resolved := Array.replicate 184 none
  statics := none }

def pool10 : Array CpInfo := pool [(6, .class_ 8), (1, u "java/lang/Object"), (0, u "<init>"), (0, u "()V"), (0, .methodref 12 13), (0, .class_ 14), (0, .nameAndType 15 16), (0, u "java/lang/StringUTF16"), (0, u "newBytesLength"), (0, u "(I)I"), (3, .integer 1073741823), (23, .fieldref 12 45), (0, .nameAndType 46 47), (0, u "$assertionsDisabled"), (0, u "Z"), (11, .fieldref 12 60), (0, .nameAndType 61 62), (0, u "HI_BYTE_SHIFT"), (0, u "I"), (0, .fieldref 12 64), (0, .nameAndType 65 62), (0, u "LO_BYTE_SHIFT"), (5, .methodref 12 72), (0, .nameAndType 73 74), (0, u "getChar"), (0, u "([BI)C"), (32, .methodref 12 108), (0, .nameAndType 109 110), (0, u "newBytesFor"), (0, u "(I)[B"), (0, .methodref 12 112), (0, .nameAndType 113 114), (0, u "putChar"), (0, u "([BII)V"), (0, .methodref 12 116), (0, .nameAndType 117 118), (0, u "compress"), (0, u "([CI[BII)I"), (0, .methodref 12 120), (0, .nameAndType 121 122), (0, u "toBytes"), (0, u "([CII)[B"), (138, u "coderFromArrayLen"), (0, u "([BI)B"), (106, .class_ 371), (1, u "java/lang/StringUTF16$LinesSpliterator"), (58, u "MAX_LENGTH"), (44, u "(C)[B"), (151, .class_ 628), (0, u "java/lang/StringUTF16$CodePointsSpliterator"), (0, .class_ 630), (0, u "java/lang/StringUTF16$CharsSpliterator")] 4

def k10m0 : Method := { name := "<init>", desc := "()V", sig := { parameters := [], returnType := none }, accessFlags := 0, code := none }
def k10c1 : Code := { maxStack := 1, maxLocals := 1, code := jdk_52_method_2_code, exceptionTable := #[], attributes := #[] }
def k10m1 : Method := { name := "newBytesFor", desc := "(I)[B", sig := { parameters := [.int], returnType := some (.array .byte) }, accessFlags := 9, code := some k10c1 }
def k10c2 : Code := { maxStack := 4, maxLocals := 1, code := jdk_52_method_3_code, exceptionTable := #[], attributes := #[] }
def k10m2 : Method := { name := "newBytesLength", desc := "(I)I", sig := { parameters := [.int], returnType := some .int }, accessFlags := 9, code := some k10c2 }
def k10c3 : Code := { maxStack := 4, maxLocals := 3, code := jdk_52_method_4_code, exceptionTable := #[], attributes := #[] }
def k10m3 : Method := { name := "putChar", desc := "([BII)V", sig := { parameters := [(.array .byte), .int, .int], returnType := none }, accessFlags := 8, code := some k10c3 }
def k10c4 : Code := { maxStack := 3, maxLocals := 2, code := jdk_52_method_5_code, exceptionTable := #[], attributes := #[] }
def k10m4 : Method := { name := "getChar", desc := "([BI)C", sig := { parameters := [(.array .byte), .int], returnType := some .char }, accessFlags := 8, code := some k10c4 }
def k10c5 : Code := { maxStack := 4, maxLocals := 5, code := jdk_52_method_14_code, exceptionTable := #[], attributes := #[] }
def k10m5 : Method := { name := "toBytes", desc := "([CII)[B", sig := { parameters := [(.array .char), .int, .int], returnType := some (.array .byte) }, accessFlags := 9, code := some k10c5 }
def k10c6 : Code := { maxStack := 2, maxLocals := 2, code := jdk_52_method_15_code, exceptionTable := #[], attributes := #[] }
def k10m6 : Method := { name := "coderFromArrayLen", desc := "([BI)B", sig := { parameters := [(.array .byte), .int], returnType := some .byte }, accessFlags := 8, code := some k10c6 }
def k10c7 : Code := { maxStack := 5, maxLocals := 6, code := jdk_52_method_16_code, exceptionTable := #[], attributes := #[] }
def k10m7 : Method := { name := "compress", desc := "([CII)[B", sig := { parameters := [(.array .char), .int, .int], returnType := some (.array .byte) }, accessFlags := 9, code := some k10c7 }
def k10c8 : Code := { maxStack := 3, maxLocals := 7, code := jdk_52_method_21_code, exceptionTable := #[], attributes := #[] }
def k10m8 : Method := { name := "compress", desc := "([CI[BII)I", sig := { parameters := [(.array .char), .int, (.array .byte), .int, .int], returnType := some .int }, accessFlags := 9, code := some k10c8 }
def k10c9 : Code := { maxStack := 3, maxLocals := 2, code := jdk_52_method_24_code, exceptionTable := #[], attributes := #[] }
def k10m9 : Method := { name := "toBytes", desc := "(C)[B", sig := { parameters := [.char], returnType := some (.array .byte) }, accessFlags := 9, code := some k10c9 }
/-- java/lang/StringUTF16 -/
def k10 : Class := { plain "java/lang/StringUTF16" (some 0) with
  accessFlags := 48
  interfaces := #[]
  cf := some (fileOf pool10 12 #[.nestMembers #[627, 629, 369]] #[{ accessFlags := 0, nameIndex := 9, descriptorIndex := 10, attributes := #[] }, { accessFlags := 9, nameIndex := 109, descriptorIndex := 110, attributes := #[] }, { accessFlags := 9, nameIndex := 15, descriptorIndex := 16, attributes := #[] }, { accessFlags := 8, nameIndex := 113, descriptorIndex := 114, attributes := #[] }, { accessFlags := 8, nameIndex := 73, descriptorIndex := 74, attributes := #[] }, { accessFlags := 9, nameIndex := 121, descriptorIndex := 122, attributes := #[] }, { accessFlags := 8, nameIndex := 261, descriptorIndex := 262, attributes := #[] }, { accessFlags := 9, nameIndex := 117, descriptorIndex := 122, attributes := #[] }, { accessFlags := 9, nameIndex := 117, descriptorIndex := 118, attributes := #[] }, { accessFlags := 9, nameIndex := 121, descriptorIndex := 475, attributes := #[] }] 48 6 #[] #[{ accessFlags := 26, nameIndex := 61, descriptorIndex := 62, attributes := #[] }, { accessFlags := 26, nameIndex := 65, descriptorIndex := 62, attributes := #[] }, { accessFlags := 24, nameIndex := 430, descriptorIndex := 62, attributes := #[] }, { accessFlags := 4120, nameIndex := 46, descriptorIndex := 47, attributes := #[] }])
  fields := #[{ name := "HI_BYTE_SHIFT", type := .int, accessFlags := 26, slot := 0, constantValue := 0 }, { name := "LO_BYTE_SHIFT", type := .int, accessFlags := 26, slot := 1, constantValue := 0 }, { name := "MAX_LENGTH", type := .int, accessFlags := 24, slot := 2, constantValue := 0 }, { name := "$assertionsDisabled", type := .boolean, accessFlags := 4120, slot := 3, constantValue := 0 }]
  methods := #[k10m0, k10m1, k10m2, k10m3, k10m4, k10m5, k10m6, k10m7, k10m8, k10m9]
  instanceTypes := #[]
  staticTypes := #[.int, .int, .int, .boolean]
  resolved := Array.replicate 635 none
  statics := some 1 }

def pool11 : Array CpInfo := pool [(4, .class_ 6), (1, u "java/lang/Object"), (0, u "<init>"), (0, u "()V"), (5, .class_ 16), (1, u "java/lang/StringLatin1"), (73, u "canEncode"), (14, u "(C)Z"), (15, u "$assertionsDisabled"), (0, u "Z"), (98, .class_ 223), (1, u "java/lang/StringLatin1$LinesSpliterator"), (156, u "toBytes"), (1, u "(C)[B"), (7, .class_ 391), (0, u "java/lang/StringLatin1$CharsSpliterator")] 3

def k11m0 : Method := { name := "<init>", desc := "()V", sig := { parameters := [], returnType := none }, accessFlags := 0, code := none }
def k11c1 : Code := { maxStack := 2, maxLocals := 1, code := jdk_43_method_3_code, exceptionTable := #[], attributes := #[] }
def k11m1 : Method := { name := "canEncode", desc := "(C)Z", sig := { parameters := [.char], returnType := some .boolean }, accessFlags := 9, code := some k11c1 }
def k11c2 : Code := { maxStack := 4, maxLocals := 1, code := jdk_43_method_46_code, exceptionTable := #[], attributes := #[] }
def k11m2 : Method := { name := "toBytes", desc := "(C)[B", sig := { parameters := [.char], returnType := some (.array .byte) }, accessFlags := 9, code := some k11c2 }
/-- java/lang/StringLatin1 -/
def k11 : Class := { plain "java/lang/StringLatin1" (some 0) with
  accessFlags := 48
  interfaces := #[]
  cf := some (fileOf pool11 14 #[.nestMembers #[390, 221]] #[{ accessFlags := 0, nameIndex := 7, descriptorIndex := 8, attributes := #[] }, { accessFlags := 9, nameIndex := 90, descriptorIndex := 105, attributes := #[] }, { accessFlags := 9, nameIndex := 380, descriptorIndex := 382, attributes := #[] }] 48 4 #[] #[{ accessFlags := 4120, nameIndex := 121, descriptorIndex := 122, attributes := #[] }])
  fields := #[{ name := "$assertionsDisabled", type := .boolean, accessFlags := 4120, slot := 0, constantValue := 0 }]
  methods := #[k11m0, k11m1, k11m2]
  instanceTypes := #[]
  staticTypes := #[.boolean]
  resolved := Array.replicate 395 none
  statics := none }

def pool12 : Array CpInfo := pool [(2, .class_ 4), (1, u "java/lang/Object"), (0, u "<init>"), (0, u "()V"), (17, .class_ 26), (1, u "jdk/internal/util/Preconditions"), (28, .class_ 56), (0, u "jdk/internal/util/Preconditions$4"), (57, .class_ 115), (0, u "jdk/internal/util/Preconditions$1"), (7, u "SIOOBE_FORMATTER"), (0, u "Ljava/util/function/BiFunction;"), (0, .class_ 126), (0, u "jdk/internal/util/Preconditions$2"), (3, u "AIOOBE_FORMATTER"), (0, .class_ 132), (0, u "jdk/internal/util/Preconditions$3"), (3, u "IOOBE_FORMATTER")] 57

def k12m0 : Method := { name := "<init>", desc := "()V", sig := { parameters := [], returnType := none }, accessFlags := 1, code := none }
/-- jdk/internal/util/Preconditions -/
def k12 : Class := { plain "jdk/internal/util/Preconditions" (some 0) with
  accessFlags := 33
  interfaces := #[]
  cf := some (fileOf pool12 24 #[.nestMembers #[55, 131, 125, 114]] #[{ accessFlags := 1, nameIndex := 5, descriptorIndex := 6, attributes := #[] }] 33 2 #[] #[{ accessFlags := 25, nameIndex := 123, descriptorIndex := 124, attributes := #[] }, { accessFlags := 25, nameIndex := 130, descriptorIndex := 124, attributes := #[] }, { accessFlags := 25, nameIndex := 136, descriptorIndex := 124, attributes := #[] }])
  fields := #[{ name := "SIOOBE_FORMATTER", type := (.object "java/util/function/BiFunction"), accessFlags := 25, slot := 0, constantValue := 0 }, { name := "AIOOBE_FORMATTER", type := (.object "java/util/function/BiFunction"), accessFlags := 25, slot := 1, constantValue := 0 }, { name := "IOOBE_FORMATTER", type := (.object "java/util/function/BiFunction"), accessFlags := 25, slot := 2, constantValue := 0 }]
  methods := #[k12m0]
  instanceTypes := #[]
  staticTypes := #[(.object "java/util/function/BiFunction"), (.object "java/util/function/BiFunction"), (.object "java/util/function/BiFunction")]
  resolved := Array.replicate 194 none
  statics := some 2 }

def pool13 : Array CpInfo := pool [(9, u "<init>"), (6, .class_ 18), (1, u "java/lang/Object"), (0, u "()V"), (1, .class_ 23), (1, u "jdk/internal/util/ArraysSupport"), (0, u "LOG2_ARRAY_LONG_INDEX_SCALE"), (0, u "I"), (2, u "U"), (0, u "Ljdk/internal/misc/Unsafe;"), (8, u "BIG_ENDIAN"), (0, u "Z"), (8, u "LOG2_BYTE_BIT_SIZE"), (4, u "LOG2_ARRAY_INT_INDEX_SCALE"), (54, u "JLA"), (0, u "Ljdk/internal/access/JavaLangAccess;"), (11, u "LOG2_ARRAY_BOOLEAN_INDEX_SCALE"), (9, u "LOG2_ARRAY_BYTE_INDEX_SCALE"), (5, u "LOG2_ARRAY_CHAR_INDEX_SCALE"), (5, u "LOG2_ARRAY_SHORT_INDEX_SCALE"), (18, u "LOG2_ARRAY_FLOAT_INDEX_SCALE"), (24, u "LOG2_ARRAY_DOUBLE_INDEX_SCALE"), (89, u "T_BOOLEAN"), (2, u "T_CHAR"), (1, u "T_FLOAT"), (1, u "T_DOUBLE"), (1, u "T_BYTE"), (1, u "T_SHORT"), (1, u "T_INT"), (1, u "T_LONG"), (1, u "SOFT_MAX_ARRAY_LENGTH")] 83

def k13m0 : Method := { name := "<init>", desc := "()V", sig := { parameters := [], returnType := none }, accessFlags := 2, code := none }
/-- jdk/internal/util/ArraysSupport -/
def k13 : Class := { plain "jdk/internal/util/ArraysSupport" (some 0) with
  accessFlags := 33
  interfaces := #[]
  cf := some (fileOf pool13 21 #[] #[{ accessFlags := 2, nameIndex := 9, descriptorIndex := 19, attributes := #[] }] 33 16 #[] #[{ accessFlags := 24, nameIndex := 28, descriptorIndex := 29, attributes := #[] }, { accessFlags := 26, nameIndex := 38, descriptorIndex := 39, attributes := #[] }, { accessFlags := 25, nameIndex := 121, descriptorIndex := 25, attributes := #[] }, { accessFlags := 25, nameIndex := 131, descriptorIndex := 25, attributes := #[] }, { accessFlags := 25, nameIndex := 137, descriptorIndex := 25, attributes := #[] }, { accessFlags := 25, nameIndex := 143, descriptorIndex := 25, attributes := #[] }, { accessFlags := 25, nameIndex := 53, descriptorIndex := 25, attributes := #[] }, { accessFlags := 25, nameIndex := 24, descriptorIndex := 25, attributes := #[] }, { accessFlags := 25, nameIndex := 162, descriptorIndex := 25, attributes := #[] }, { accessFlags := 25, nameIndex := 187, descriptorIndex := 25, attributes := #[] }, { accessFlags := 26, nameIndex := 48, descriptorIndex := 25, attributes := #[] }, { accessFlags := 25, nameIndex := 277, descriptorIndex := 25, attributes := #[] }, { accessFlags := 25, nameIndex := 280, descriptorIndex := 25, attributes := #[] }, { accessFlags := 25, nameIndex := 282, descriptorIndex := 25, attributes := #[] }, { accessFlags := 25, nameIndex := 284, descriptorIndex := 25, attributes := #[] }, { accessFlags := 25, nameIndex := 286, descriptorIndex := 25, attributes := #[] }, { accessFlags := 25, nameIndex := 288, descriptorIndex := 25, attributes := #[] }, { accessFlags := 25, nameIndex := 290, descriptorIndex := 25, attributes := #[] }, { accessFlags := 25, nameIndex := 292, descriptorIndex := 25, attributes := #[] }, { accessFlags := 26, nameIndex := 108, descriptorIndex := 109, attributes := #[] }, { accessFlags := 25, nameIndex := 294, descriptorIndex := 25, attributes := #[] }])
  fields := #[{ name := "U", type := (.object "jdk/internal/misc/Unsafe"), accessFlags := 24, slot := 0, constantValue := 0 }, { name := "BIG_ENDIAN", type := .boolean, accessFlags := 26, slot := 1, constantValue := 0 }, { name := "LOG2_ARRAY_BOOLEAN_INDEX_SCALE", type := .int, accessFlags := 25, slot := 2, constantValue := 0 }, { name := "LOG2_ARRAY_BYTE_INDEX_SCALE", type := .int, accessFlags := 25, slot := 3, constantValue := 0 }, { name := "LOG2_ARRAY_CHAR_INDEX_SCALE", type := .int, accessFlags := 25, slot := 4, constantValue := 0 }, { name := "LOG2_ARRAY_SHORT_INDEX_SCALE", type := .int, accessFlags := 25, slot := 5, constantValue := 0 }, { name := "LOG2_ARRAY_INT_INDEX_SCALE", type := .int, accessFlags := 25, slot := 6, constantValue := 0 }, { name := "LOG2_ARRAY_LONG_INDEX_SCALE", type := .int, accessFlags := 25, slot := 7, constantValue := 0 }, { name := "LOG2_ARRAY_FLOAT_INDEX_SCALE", type := .int, accessFlags := 25, slot := 8, constantValue := 0 }, { name := "LOG2_ARRAY_DOUBLE_INDEX_SCALE", type := .int, accessFlags := 25, slot := 9, constantValue := 0 }, { name := "LOG2_BYTE_BIT_SIZE", type := .int, accessFlags := 26, slot := 10, constantValue := 0 }, { name := "T_BOOLEAN", type := .int, accessFlags := 25, slot := 11, constantValue := 0 }, { name := "T_CHAR", type := .int, accessFlags := 25, slot := 12, constantValue := 0 }, { name := "T_FLOAT", type := .int, accessFlags := 25, slot := 13, constantValue := 0 }, { name := "T_DOUBLE", type := .int, accessFlags := 25, slot := 14, constantValue := 0 }, { name := "T_BYTE", type := .int, accessFlags := 25, slot := 15, constantValue := 0 }, { name := "T_SHORT", type := .int, accessFlags := 25, slot := 16, constantValue := 0 }, { name := "T_INT", type := .int, accessFlags := 25, slot := 17, constantValue := 0 }, { name := "T_LONG", type := .int, accessFlags := 25, slot := 18, constantValue := 0 }, { name := "JLA", type := (.object "jdk/internal/access/JavaLangAccess"), accessFlags := 26, slot := 19, constantValue := 0 }, { name := "SOFT_MAX_ARRAY_LENGTH", type := .int, accessFlags := 25, slot := 20, constantValue := 0 }]
  methods := #[k13m0]
  instanceTypes := #[]
  staticTypes := #[(.object "jdk/internal/misc/Unsafe"), .boolean, .int, .int, .int, .int, .int, .int, .int, .int, .int, .int, .int, .int, .int, .int, .int, .int, .int, (.object "jdk/internal/access/JavaLangAccess"), .int]
  resolved := Array.replicate 378 none
  statics := none }

def pool14 : Array CpInfo := pool [(1, u "java/lang/Cloneable"), (0, .class_ 1), (0, u "java/lang/Object"), (0, .class_ 3)] 3

/-- java/lang/Cloneable -/
def k14 : Class := { plain "java/lang/Cloneable" (some 0) with
  accessFlags := 1537
  interfaces := #[]
  cf := some (fileOf pool14 2 #[] #[] 1537 4 #[] #[])
  fields := #[]
  methods := #[]
  instanceTypes := #[]
  staticTypes := #[]
  resolved := Array.replicate 8 none
  statics := none }

/-- the primitive byte -/
def k15 : Class := { plain "byte" none with kind := .primitive 'B', accessFlags := 0x411 }
/-- [B -/
def k16 : Class := { plain "[B" (some 0) with kind := .array 15 .byte, interfaces := #[14, 2], accessFlags := 1041 }

/-- the primitive char -/
def k17 : Class := { plain "char" none with kind := .primitive 'C', accessFlags := 0x411 }
/-- [C -/
def k18 : Class := { plain "[C" (some 0) with kind := .array 17 .char, interfaces := #[14, 2], accessFlags := 1041 }

/-- the primitive int -/
def k19 : Class := { plain "int" none with kind := .primitive 'I', accessFlags := 0x411 }
/-- [I -/
def k20 : Class := { plain "[I" (some 0) with kind := .array 19 .int, interfaces := #[14, 2], accessFlags := 1041 }

def heap : Heap := #[{ cls := 7, slots := #[.long 0, .int 1, .null, .int 0, .null, .int 0, .int 0], vm := .statics 7 },
  { cls := 10, slots := #[.int 0, .int 8, .int 0, .int 1], vm := .statics 10 },
  { cls := 12, slots := #[.null, .null, .null], vm := .statics 12 }]
def classes : Array Class := #[k0, k1, k2, k3, k4, k5, k6, k7, k8, k9, k10, k11, k12, k13, k14, k15, k16, k17, k18, k19, k20]
def interned : List (Array UInt16 × Addr) := []
def slotsUsed : Nat := 14
def theMethod : MethodId := ⟨1, 3⟩
def args0 : Array Value := #[.int 3, .int 5, .int 300, .int 7, .int 9]
def aboutOver (below : List Frame) : State where
  vm := { classes := classes, interned := interned.toArray }
  heap := heap
  slotsUsed := slotsUsed
  threads := #[{ frames := .invoking theMethod args0 :: below }]
def below0 : List Frame := [.native { method := ⟨0, 0⟩, args := #[] }]
def about1 : State := aboutOver below0
def p0 : Program := .bare "" "" ""
def e0 : Env := launch0.env 0 0 0
theorem w_frames : about1.frames = Frame.invoking theMethod args0 :: below0 := rfl
set_option maxRecDepth 65536 in
theorem w_args : argsFit about1.vm theMethod args0 = true := by decide +kernel
set_option maxRecDepth 65536 in
theorem w_heap : heapFits about1 = true := by decide +kernel
set_option maxRecDepth 65536 in
theorem w_runnable : about1.curStatus? = some .runnable := by decide +kernel
set_option maxRecDepth 65536 in
theorem w_alone : about1.alone = true := by decide +kernel
set_option maxRecDepth 65536 in
theorem w_named : about1.methodNamed? x = some theMethod := by decide +kernel
set_option maxRecDepth 65536 in
theorem w_hears : about1.hears theMethod below0 = true := by decide +kernel
set_option maxRecDepth 65536 in
theorem w_ripe : about1.ripe theMethod args0 below0 = true := by decide +kernel
theorem w_running : about1.status = .running := rfl
set_option maxRecDepth 65536 in
theorem w_room : about1.hasRoom e0.platform room_1 = true :=
  launch0.hasRoom_least _ room_1 (by decide +kernel) (by decide +kernel) (by decide +kernel) (by decide +kernel) (by decide +kernel) (by decide +kernel)
theorem allAtoms_all (ts : List Jvm.Cond) (a : Array Jvm.Value) (st : Jvm.State) : (allAtoms ts).before a st = ts.all (fun c => c.before a st) := by
  induction ts with
  | nil => rfl
  | cons c t ih =>
    show (Jvm.Cond.and c (allAtoms t)).before a st = _
    rw [Jvm.Cond.before_and, ih, List.all_cons]
def words1 : List Jvm.Cond := Jvm.Cond.code x code maxLocals ret :: tables_1
/-- a 'code' word, met by the world's own term for the bytes: nothing is compared byte by byte -/
theorem code_word {y : MethodName} {bytes : ByteArray} {mx : Nat} {rt : Option FieldType} {a : Array Value} {s : State} {m : MethodId} {meth : Method} {c : Code} (h1 : s.methodNamed? y = some m) (h2 : s.vm.method? m = some meth) (h3 : meth.code = some c) (h4 : c.code = bytes)
    (h5 : (c.maxLocals == mx && c.exceptionTable.isEmpty && decide (c.maxStack ≤ mostOperands) && decide (meth.sig.returnType = rt) && !meth.locks && decide (parseMethodDescriptor y.desc = some meth.sig)) = true) : (Jvm.Cond.code y bytes mx rt).before a s = true := by
  simp only [Bool.and_eq_true, beq_iff_eq, Bool.not_eq_true', decide_eq_true_eq] at h5
  obtain ⟨⟨⟨⟨⟨g1, g2⟩, g3⟩, g4⟩, g5⟩, g6⟩ := h5
  simp [Cond.before, Cond.holds, Cond.value, h1, h2, h3, h4, g1, g2, g3, g4, g5, g6]
def isCode : Jvm.Cond → Bool
  | .code _ _ _ _ => true
  | _ => false
theorem all_split {L : List Jvm.Cond} {P : Jvm.Cond → Bool} (h1 : L.all (fun c => isCode c || P c) = true) (h2 : ∀ c ∈ L.filter isCode, P c = true) : L.all P = true := by
  refine List.all_eq_true.mpr fun c hc => ?_
  have h := List.all_eq_true.mp h1 c hc
  rcases Bool.eq_false_or_eq_true (isCode c) with hi | hi
  · exact h2 c (List.mem_filter.mpr ⟨hc, hi⟩)
  · simpa [hi] using h
set_option maxRecDepth 65536 in
theorem w_c0 : (Jvm.Cond.code x code maxLocals ret).before args0 about1 = true := code_word (m := ⟨1, 3⟩) (meth := k1m3) (c := k1c3) (by decide +kernel) rfl rfl rfl (by decide +kernel)
set_option maxRecDepth 65536 in
theorem w_c1 : (Jvm.Cond.code ({ cls := "com/example/expiring_state/expiringstate/RulesOfPinLaw", name := "draw", desc := "(III)Ljava/lang/String;" } : Jvm.MethodName) method_2_code (6 : Nat) (Option.some (Jvm.ClassFile.FieldType.object "java/lang/String"))).before args0 about1 = true := code_word (m := ⟨1, 1⟩) (meth := k1m1) (c := k1c1) (by decide +kernel) rfl rfl rfl (by decide +kernel)
set_option maxRecDepth 65536 in
theorem w_c2 : (Jvm.Cond.code ({ cls := "java/lang/String", name := "<init>", desc := "([C)V" } : Jvm.MethodName) jdk_42_method_3_code (2 : Nat) (Option.none : Option Jvm.ClassFile.FieldType)).before args0 about1 = true := code_word (m := ⟨7, 1⟩) (meth := k7m1) (c := k7c1) (by decide +kernel) rfl rfl rfl (by decide +kernel)
set_option maxRecDepth 65536 in
theorem w_c3 : (Jvm.Cond.code ({ cls := "java/lang/String", name := "<init>", desc := "([CIILjava/lang/Void;)V" } : Jvm.MethodName) jdk_42_method_149_code (6 : Nat) (Option.none : Option Jvm.ClassFile.FieldType)).before args0 about1 = true := code_word (m := ⟨7, 4⟩) (meth := k7m4) (c := k7c4) (by decide +kernel) rfl rfl rfl (by decide +kernel)
set_option maxRecDepth 65536 in
theorem w_c4 : (Jvm.Cond.code ({ cls := "java/lang/Object", name := "<init>", desc := "()V" } : Jvm.MethodName) object_method_1_code (1 : Nat) (Option.none : Option Jvm.ClassFile.FieldType)).before args0 about1 = true := code_word (m := ⟨0, 0⟩) (meth := k0m0) (c := k0c0) (by decide +kernel) rfl rfl rfl (by decide +kernel)
set_option maxRecDepth 65536 in
theorem w_c5 : (Jvm.Cond.code ({ cls := "com/example/expiring_state/expiringstate/RulesOfPinLaw", name := "capOf", desc := "(I)I" } : Jvm.MethodName) method_3_code (2 : Nat) (Option.some Jvm.ClassFile.FieldType.int)).before args0 about1 = true := code_word (m := ⟨1, 2⟩) (meth := k1m2) (c := k1c2) (by decide +kernel) rfl rfl rfl (by decide +kernel)
set_option maxRecDepth 65536 in
theorem w_c6 : (Jvm.Cond.code ({ cls := "com/example/expiring_state/expiringstate/ExpiringSet$Rules", name := "of", desc := "(Ljava/lang/String;I)Lcom/example/expiring_state/expiringstate/ExpiringSet$Rules;" } : Jvm.MethodName) prog_10_method_2_code (2 : Nat) (Option.some (Jvm.ClassFile.FieldType.object "com/example/expiring_state/expiringstate/ExpiringSet$Rules"))).before args0 about1 = true := code_word (m := ⟨8, 1⟩) (meth := k8m1) (c := k8c1) (by decide +kernel) rfl rfl rfl (by decide +kernel)
set_option maxRecDepth 65536 in
theorem w_c7 : (Jvm.Cond.code ({ cls := "java/util/Objects", name := "requireNonNull", desc := "(Ljava/lang/Object;Ljava/lang/String;)Ljava/lang/Object;" } : Jvm.MethodName) jdk_31_method_11_code (2 : Nat) (Option.some (Jvm.ClassFile.FieldType.object "java/lang/Object"))).before args0 about1 = true := code_word (m := ⟨9, 1⟩) (meth := k9m1) (c := k9c1) (by decide +kernel) rfl rfl rfl (by decide +kernel)
set_option maxRecDepth 65536 in
theorem w_c8 : (Jvm.Cond.code ({ cls := "com/example/expiring_state/expiringstate/ExpiringSet$Rules", name := "<init>", desc := "(Ljava/lang/String;I)V" } : Jvm.MethodName) prog_10_method_1_code (3 : Nat) (Option.none : Option Jvm.ClassFile.FieldType)).before args0 about1 = true := code_word (m := ⟨8, 0⟩) (meth := k8m0) (c := k8c0) (by decide +kernel) rfl rfl rfl (by decide +kernel)
set_option maxRecDepth 65536 in
theorem w_c9 : (Jvm.Cond.code ({ cls := "com/example/expiring_state/expiringstate/ExpiringSet$Rules", name := "cap", desc := "()I" } : Jvm.MethodName) prog_10_method_4_code (1 : Nat) (Option.some Jvm.ClassFile.FieldType.int)).before args0 about1 = true := code_word (m := ⟨8, 3⟩) (meth := k8m3) (c := k8c3) (by decide +kernel) rfl rfl rfl (by decide +kernel)
set_option maxRecDepth 65536 in
theorem w_c10 : (Jvm.Cond.code ({ cls := "com/example/expiring_state/expiringstate/ExpiringSet$Rules", name := "name", desc := "()Ljava/lang/String;" } : Jvm.MethodName) prog_10_method_3_code (1 : Nat) (Option.some (Jvm.ClassFile.FieldType.object "java/lang/String"))).before args0 about1 = true := code_word (m := ⟨8, 2⟩) (meth := k8m2) (c := k8c2) (by decide +kernel) rfl rfl rfl (by decide +kernel)
set_option maxRecDepth 65536 in
theorem w_c11 : (Jvm.Cond.code ({ cls := "java/lang/String", name := "equals", desc := "(Ljava/lang/Object;)Z" } : Jvm.MethodName) jdk_42_method_66_code (3 : Nat) (Option.some Jvm.ClassFile.FieldType.boolean)).before args0 about1 = true := code_word (m := ⟨7, 2⟩) (meth := k7m2) (c := k7c2) (by decide +kernel) rfl rfl rfl (by decide +kernel)
set_option maxRecDepth 65536 in
theorem w_c12 : (Jvm.Cond.code ({ cls := "java/lang/StringUTF16", name := "compress", desc := "([CII)[B" } : Jvm.MethodName) jdk_52_method_16_code (6 : Nat) (Option.some (Jvm.ClassFile.FieldType.array Jvm.ClassFile.FieldType.byte))).before args0 about1 = true := code_word (m := ⟨10, 7⟩) (meth := k10m7) (c := k10c7) (by decide +kernel) rfl rfl rfl (by decide +kernel)
set_option maxRecDepth 65536 in
theorem w_c13 : (Jvm.Cond.code ({ cls := "java/lang/StringUTF16", name := "compress", desc := "([CI[BII)I" } : Jvm.MethodName) jdk_52_method_21_code (7 : Nat) (Option.some Jvm.ClassFile.FieldType.int)).before args0 about1 = true := code_word (m := ⟨10, 8⟩) (meth := k10m8) (c := k10c8) (by decide +kernel) rfl rfl rfl (by decide +kernel)
set_option maxRecDepth 65536 in
theorem w_c14 : (Jvm.Cond.code ({ cls := "java/lang/StringUTF16", name := "coderFromArrayLen", desc := "([BI)B" } : Jvm.MethodName) jdk_52_method_15_code (2 : Nat) (Option.some Jvm.ClassFile.FieldType.byte)).before args0 about1 = true := code_word (m := ⟨10, 6⟩) (meth := k10m6) (c := k10c6) (by decide +kernel) rfl rfl rfl (by decide +kernel)
set_option maxRecDepth 65536 in
theorem w_c15 : (Jvm.Cond.code ({ cls := "java/lang/StringUTF16", name := "toBytes", desc := "([CII)[B" } : Jvm.MethodName) jdk_52_method_14_code (5 : Nat) (Option.some (Jvm.ClassFile.FieldType.array Jvm.ClassFile.FieldType.byte))).before args0 about1 = true := code_word (m := ⟨10, 5⟩) (meth := k10m5) (c := k10c5) (by decide +kernel) rfl rfl rfl (by decide +kernel)
set_option maxRecDepth 65536 in
theorem w_c16 : (Jvm.Cond.code ({ cls := "java/lang/StringUTF16", name := "newBytesFor", desc := "(I)[B" } : Jvm.MethodName) jdk_52_method_2_code (1 : Nat) (Option.some (Jvm.ClassFile.FieldType.array Jvm.ClassFile.FieldType.byte))).before args0 about1 = true := code_word (m := ⟨10, 1⟩) (meth := k10m1) (c := k10c1) (by decide +kernel) rfl rfl rfl (by decide +kernel)
set_option maxRecDepth 65536 in
theorem w_c17 : (Jvm.Cond.code ({ cls := "java/lang/StringUTF16", name := "newBytesLength", desc := "(I)I" } : Jvm.MethodName) jdk_52_method_3_code (1 : Nat) (Option.some Jvm.ClassFile.FieldType.int)).before args0 about1 = true := code_word (m := ⟨10, 2⟩) (meth := k10m2) (c := k10c2) (by decide +kernel) rfl rfl rfl (by decide +kernel)
set_option maxRecDepth 65536 in
theorem w_c18 : (Jvm.Cond.code ({ cls := "java/lang/StringUTF16", name := "putChar", desc := "([BII)V" } : Jvm.MethodName) jdk_52_method_4_code (3 : Nat) (Option.none : Option Jvm.ClassFile.FieldType)).before args0 about1 = true := code_word (m := ⟨10, 3⟩) (meth := k10m3) (c := k10c3) (by decide +kernel) rfl rfl rfl (by decide +kernel)
set_option maxRecDepth 65536 in
theorem w_c19 : (Jvm.Cond.code ({ cls := "java/lang/StringUTF16", name := "getChar", desc := "([BI)C" } : Jvm.MethodName) jdk_52_method_5_code (2 : Nat) (Option.some Jvm.ClassFile.FieldType.char)).before args0 about1 = true := code_word (m := ⟨10, 4⟩) (meth := k10m4) (c := k10c4) (by decide +kernel) rfl rfl rfl (by decide +kernel)
set_option maxRecDepth 65536 in
theorem w_c20 : (Jvm.Cond.code ({ cls := "java/lang/String", name := "valueOf", desc := "(C)Ljava/lang/String;" } : Jvm.MethodName) jdk_42_method_139_code (1 : Nat) (Option.some (Jvm.ClassFile.FieldType.object "java/lang/String"))).before args0 about1 = true := code_word (m := ⟨7, 3⟩) (meth := k7m3) (c := k7c3) (by decide +kernel) rfl rfl rfl (by decide +kernel)
set_option maxRecDepth 65536 in
theorem w_c21 : (Jvm.Cond.code ({ cls := "java/lang/StringLatin1", name := "canEncode", desc := "(C)Z" } : Jvm.MethodName) jdk_43_method_3_code (1 : Nat) (Option.some Jvm.ClassFile.FieldType.boolean)).before args0 about1 = true := code_word (m := ⟨11, 1⟩) (meth := k11m1) (c := k11c1) (by decide +kernel) rfl rfl rfl (by decide +kernel)
set_option maxRecDepth 65536 in
theorem w_c22 : (Jvm.Cond.code ({ cls := "java/lang/StringUTF16", name := "toBytes", desc := "(C)[B" } : Jvm.MethodName) jdk_52_method_24_code (2 : Nat) (Option.some (Jvm.ClassFile.FieldType.array Jvm.ClassFile.FieldType.byte))).before args0 about1 = true := code_word (m := ⟨10, 9⟩) (meth := k10m9) (c := k10c9) (by decide +kernel) rfl rfl rfl (by decide +kernel)
set_option maxRecDepth 65536 in
theorem w_c23 : (Jvm.Cond.code ({ cls := "java/lang/String", name := "<init>", desc := "([BB)V" } : Jvm.MethodName) jdk_42_method_151_code (3 : Nat) (Option.none : Option Jvm.ClassFile.FieldType)).before args0 about1 = true := code_word (m := ⟨7, 5⟩) (meth := k7m5) (c := k7c5) (by decide +kernel) rfl rfl rfl (by decide +kernel)
set_option maxRecDepth 65536 in
theorem w_c24 : (Jvm.Cond.code ({ cls := "java/lang/StringLatin1", name := "toBytes", desc := "(C)[B" } : Jvm.MethodName) jdk_43_method_46_code (1 : Nat) (Option.some (Jvm.ClassFile.FieldType.array Jvm.ClassFile.FieldType.byte))).before args0 about1 = true := code_word (m := ⟨11, 2⟩) (meth := k11m2) (c := k11c2) (by decide +kernel) rfl rfl rfl (by decide +kernel)
def codes1 : List Jvm.Cond := [Jvm.Cond.code x code maxLocals ret, Jvm.Cond.code ({ cls := "com/example/expiring_state/expiringstate/RulesOfPinLaw", name := "draw", desc := "(III)Ljava/lang/String;" } : Jvm.MethodName) method_2_code (6 : Nat) (Option.some (Jvm.ClassFile.FieldType.object "java/lang/String")), Jvm.Cond.code ({ cls := "java/lang/String", name := "<init>", desc := "([C)V" } : Jvm.MethodName) jdk_42_method_3_code (2 : Nat) (Option.none : Option Jvm.ClassFile.FieldType), Jvm.Cond.code ({ cls := "java/lang/String", name := "<init>", desc := "([CIILjava/lang/Void;)V" } : Jvm.MethodName) jdk_42_method_149_code (6 : Nat) (Option.none : Option Jvm.ClassFile.FieldType), Jvm.Cond.code ({ cls := "java/lang/Object", name := "<init>", desc := "()V" } : Jvm.MethodName) object_method_1_code (1 : Nat) (Option.none : Option Jvm.ClassFile.FieldType), Jvm.Cond.code ({ cls := "com/example/expiring_state/expiringstate/RulesOfPinLaw", name := "capOf", desc := "(I)I" } : Jvm.MethodName) method_3_code (2 : Nat) (Option.some Jvm.ClassFile.FieldType.int), Jvm.Cond.code ({ cls := "com/example/expiring_state/expiringstate/ExpiringSet$Rules", name := "of", desc := "(Ljava/lang/String;I)Lcom/example/expiring_state/expiringstate/ExpiringSet$Rules;" } : Jvm.MethodName) prog_10_method_2_code (2 : Nat) (Option.some (Jvm.ClassFile.FieldType.object "com/example/expiring_state/expiringstate/ExpiringSet$Rules")), Jvm.Cond.code ({ cls := "java/util/Objects", name := "requireNonNull", desc := "(Ljava/lang/Object;Ljava/lang/String;)Ljava/lang/Object;" } : Jvm.MethodName) jdk_31_method_11_code (2 : Nat) (Option.some (Jvm.ClassFile.FieldType.object "java/lang/Object")), Jvm.Cond.code ({ cls := "com/example/expiring_state/expiringstate/ExpiringSet$Rules", name := "<init>", desc := "(Ljava/lang/String;I)V" } : Jvm.MethodName) prog_10_method_1_code (3 : Nat) (Option.none : Option Jvm.ClassFile.FieldType), Jvm.Cond.code ({ cls := "com/example/expiring_state/expiringstate/ExpiringSet$Rules", name := "cap", desc := "()I" } : Jvm.MethodName) prog_10_method_4_code (1 : Nat) (Option.some Jvm.ClassFile.FieldType.int), Jvm.Cond.code ({ cls := "com/example/expiring_state/expiringstate/ExpiringSet$Rules", name := "name", desc := "()Ljava/lang/String;" } : Jvm.MethodName) prog_10_method_3_code (1 : Nat) (Option.some (Jvm.ClassFile.FieldType.object "java/lang/String")), Jvm.Cond.code ({ cls := "java/lang/String", name := "equals", desc := "(Ljava/lang/Object;)Z" } : Jvm.MethodName) jdk_42_method_66_code (3 : Nat) (Option.some Jvm.ClassFile.FieldType.boolean), Jvm.Cond.code ({ cls := "java/lang/StringUTF16", name := "compress", desc := "([CII)[B" } : Jvm.MethodName) jdk_52_method_16_code (6 : Nat) (Option.some (Jvm.ClassFile.FieldType.array Jvm.ClassFile.FieldType.byte)), Jvm.Cond.code ({ cls := "java/lang/StringUTF16", name := "compress", desc := "([CI[BII)I" } : Jvm.MethodName) jdk_52_method_21_code (7 : Nat) (Option.some Jvm.ClassFile.FieldType.int), Jvm.Cond.code ({ cls := "java/lang/StringUTF16", name := "coderFromArrayLen", desc := "([BI)B" } : Jvm.MethodName) jdk_52_method_15_code (2 : Nat) (Option.some Jvm.ClassFile.FieldType.byte), Jvm.Cond.code ({ cls := "java/lang/StringUTF16", name := "toBytes", desc := "([CII)[B" } : Jvm.MethodName) jdk_52_method_14_code (5 : Nat) (Option.some (Jvm.ClassFile.FieldType.array Jvm.ClassFile.FieldType.byte)), Jvm.Cond.code ({ cls := "java/lang/StringUTF16", name := "newBytesFor", desc := "(I)[B" } : Jvm.MethodName) jdk_52_method_2_code (1 : Nat) (Option.some (Jvm.ClassFile.FieldType.array Jvm.ClassFile.FieldType.byte)), Jvm.Cond.code ({ cls := "java/lang/StringUTF16", name := "newBytesLength", desc := "(I)I" } : Jvm.MethodName) jdk_52_method_3_code (1 : Nat) (Option.some Jvm.ClassFile.FieldType.int), Jvm.Cond.code ({ cls := "java/lang/StringUTF16", name := "putChar", desc := "([BII)V" } : Jvm.MethodName) jdk_52_method_4_code (3 : Nat) (Option.none : Option Jvm.ClassFile.FieldType), Jvm.Cond.code ({ cls := "java/lang/StringUTF16", name := "getChar", desc := "([BI)C" } : Jvm.MethodName) jdk_52_method_5_code (2 : Nat) (Option.some Jvm.ClassFile.FieldType.char), Jvm.Cond.code ({ cls := "java/lang/String", name := "valueOf", desc := "(C)Ljava/lang/String;" } : Jvm.MethodName) jdk_42_method_139_code (1 : Nat) (Option.some (Jvm.ClassFile.FieldType.object "java/lang/String")), Jvm.Cond.code ({ cls := "java/lang/StringLatin1", name := "canEncode", desc := "(C)Z" } : Jvm.MethodName) jdk_43_method_3_code (1 : Nat) (Option.some Jvm.ClassFile.FieldType.boolean), Jvm.Cond.code ({ cls := "java/lang/StringUTF16", name := "toBytes", desc := "(C)[B" } : Jvm.MethodName) jdk_52_method_24_code (2 : Nat) (Option.some (Jvm.ClassFile.FieldType.array Jvm.ClassFile.FieldType.byte)), Jvm.Cond.code ({ cls := "java/lang/String", name := "<init>", desc := "([BB)V" } : Jvm.MethodName) jdk_42_method_151_code (3 : Nat) (Option.none : Option Jvm.ClassFile.FieldType), Jvm.Cond.code ({ cls := "java/lang/StringLatin1", name := "toBytes", desc := "(C)[B" } : Jvm.MethodName) jdk_43_method_46_code (1 : Nat) (Option.some (Jvm.ClassFile.FieldType.array Jvm.ClassFile.FieldType.byte))]
set_option maxRecDepth 65536 in
theorem codes_eq : words1.filter isCode = codes1 := rfl
theorem w_codes : ∀ c ∈ words1.filter isCode, c.before args0 about1 = true := by
  rw [codes_eq]
  intro c hc
  simp only [codes1, List.mem_cons, List.not_mem_nil, or_false] at hc
  rcases hc with rfl | rfl | rfl | rfl | rfl | rfl | rfl | rfl | rfl | rfl | rfl | rfl | rfl | rfl | rfl | rfl | rfl | rfl | rfl | rfl | rfl | rfl | rfl | rfl | rfl
  · exact w_c0
  · exact w_c1
  · exact w_c2
  · exact w_c3
  · exact w_c4
  · exact w_c5
  · exact w_c6
  · exact w_c7
  · exact w_c8
  · exact w_c9
  · exact w_c10
  · exact w_c11
  · exact w_c12
  · exact w_c13
  · exact w_c14
  · exact w_c15
  · exact w_c16
  · exact w_c17
  · exact w_c18
  · exact w_c19
  · exact w_c20
  · exact w_c21
  · exact w_c22
  · exact w_c23
  · exact w_c24
set_option maxRecDepth 65536 in
theorem w_t1 : (words1.take 24).all (fun c => isCode c || c.before args0 about1) = true := by decide +kernel
set_option maxRecDepth 65536 in
theorem w_t2 : ((words1.drop 24).take 24).all (fun c => isCode c || c.before args0 about1) = true := by decide +kernel
set_option maxRecDepth 65536 in
theorem w_t3 : (((words1.drop 24).drop 24).take 24).all (fun c => isCode c || c.before args0 about1) = true := by decide +kernel
set_option maxRecDepth 65536 in
theorem w_t4 : ((((words1.drop 24).drop 24).drop 24).take 24).all (fun c => isCode c || c.before args0 about1) = true := by decide +kernel
set_option maxRecDepth 65536 in
theorem w_t5 : ((((words1.drop 24).drop 24).drop 24).drop 24).all (fun c => isCode c || c.before args0 about1) = true := by decide +kernel
theorem w_tables : (allAtoms (Jvm.Cond.code x code maxLocals ret :: tables_1)).before args0 about1 = true := by
  rw [allAtoms_all]
  show words1.all (fun c => c.before args0 about1) = true
  refine all_split ?_ w_codes
  rw [← List.take_append_drop 24 words1, List.all_append, w_t1, ← List.take_append_drop 24 (words1.drop 24), List.all_append, w_t2, ← List.take_append_drop 24 ((words1.drop 24).drop 24), List.all_append, w_t3, ← List.take_append_drop 24 (((words1.drop 24).drop 24).drop 24), List.all_append, w_t4, w_t5]
  rfl
set_option maxRecDepth 65536 in
theorem w_rest : rest_1_c.before args0 about1 = true := by decide +kernel
set_option maxRecDepth 65536 in
theorem w_case : (Jvm.Cond.and given_1 narrow_1).before args0 about1 = true := by decide +kernel
set_option maxRecDepth 65536 in
theorem w_consts : constsHeld consts_1 about1 := Jvm.Lit.constsHeldB_iff.mp (by decide +kernel)
theorem w_applies : (headSpec (Jvm.Cond.code x code maxLocals ret :: tables_1) room_1).applies x e0.platform about1 = true :=
  (Spec.applies_iff w_frames).mpr ⟨w_running, w_runnable, w_alone, w_named, w_hears, w_ripe, w_room, w_tables⟩
theorem atStart : AtStart classFile x code maxLocals ret World_1 tables_1 room_1 Calls_1 rest_1 Pre_1 launch0 p0 e0 about1 theMethod args0 below0 :=
  ⟨lists_1, trivial, launch0.admits_env _ _ _, launch0.least_env, fairChoices_fair.cas, fairChoices_fair.clock, w_frames, w_args, w_heap, w_applies, ⟨w_consts, trivial⟩, w_rest, w_case⟩
end start1
theorem witness_1 : WitnessClaimed_1 := ⟨start1.p0, start1.e0, start1.about1, start1.theMethod, start1.args0, start1.below0, start1.atStart⟩
end Jvm.Pilot.@@N@@
