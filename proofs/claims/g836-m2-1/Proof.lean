import JvmDerived
import JvmDerived.Pilot.@@N@@Statement
import JvmDerived.Pilot.@@N@@Code
set_option linter.unusedVariables false
set_option linter.unusedSimpArgs false
namespace Jvm.Pilot.@@N@@
open Jvm Jvm.ClassFile Sem Op Lib Jvm.Free Jvm.Stand Jvm.LawKit Jvm.RoadKit Bundle Jvm.Free.XT Jvm.Pilot.@@N@@.Jvm.D
theorem own_n0 {Z : State} {n0 : Nat} {h : Heap} (X : Old Z n0 h) : n0 ≤ h.size := X.1 ▸ X.2.1
theorem own_lt {a m n : Nat} (h : a < m) (k : m ≤ n) : a < n := Nat.lt_of_lt_of_le h k
theorem own_since0 (s : State) (n : Nat) : s.Since s.vm n := ⟨State.Warmed39.refl s, fun j p hj hp => absurd (Array.getElem?_eq_some_iff.mp hp).1 (Nat.not_lt.mpr hj)⟩
theorem own_narR {v : Value} {t : FieldType} (h : v.isRef = true) : narrow t v = v := by rcases ref_cases h with rfl | ⟨a, rfl⟩ <;> cases t <;> rfl
theorem own_fitR {v : Value} {t : FieldType} (h : v.isRef = true) (ht : t.isReference = true := by rfl) : fits t v = true := by rcases ref_cases h with rfl | ⟨a, rfl⟩ <;> cases t <;> first | rfl | cases ht
theorem own_cast {p : Program} {l : Launch} {e : Env} {R : Room} {s : State} {m : MethodId} {args : Array Value} {below : List Frame} {meth : Method} {c : Code} {T : State} {L L' : List Loc} {k k' n n' : Nat} (X : Stand p l e R s m args below meth c T L k n) (h1 : L = L') (h2 : k = k') (h3 : n = n') : Stand p l e R s m args below meth c T L' k' n' := by
  subst h1 h2 h3; exact X
theorem own_priv {s : State} {args : Array Value} {y : MethodName} (h : (Jvm.Cond.privateMethod y).before args s = true) : s.PrivateAt y := Cond.privateMethod_at h
abbrev own_CP (l : Launch) (Z : State) (y : MethodName) (bytes : ByteArray) (ml : Nat) (ret : Option FieldType) (ws : List Jvm.Cond) (R : Room) (as' : Array Value) (h0 : Heap) (Q : Option Value → Heap → List Loc → Prop) : Prop :=
  MetFree l y (head1 (Jvm.Cond.code y bytes ml ret :: ws) R) (fun a U => a = as' ∧ Z.Warmed39 U.vm ∧ U.heap = h0) (fun _ _ _ _ _ => True) (fun _ U o U' => ∃ v L, o = .returned v ∧ Q v U'.heap L ∧ FrameEnd U o U' L R.cells R.slots)
theorem own_P {l : Launch} {Z : State} {y : MethodName} {bytes : ByteArray} {ml : Nat} {ret : Option FieldType} {ws : List Jvm.Cond} {R : Room} {as' : Array Value} {h0 : Heap} {Q : Option Value → Heap → List Loc → Prop} (hpl : plainFor y = true)
    (H : ∀ (p : Program) (e : Env) (s : State) (m : MethodId) (below : List Frame) (meth : Method) (c : ClassFile.Code) (s₁ S0 : State), BodyLoose p l y (head1 (Jvm.Cond.code y bytes ml ret :: ws) R) bytes ml ret e s m as' below meth c s₁ → Z.Warmed39 s.vm → s.heap = h0 → p.tables.exec = Jvm.exec → c.code = bytes → c.maxLocals = ml → s.vm.findClass y.cls = some m.cls → meth.name = y.name →
      Stand p l e R s m as' below meth c s₁ [] 0 0 → s₁.heap = h0 → S0 = s₁.setTop (entryFrame m as' ml) → ∃ s₂ o, Steps p.tables e below S0 s₂ ∧ s₂.status = .running ∧ Ended s₂ below o ∧ ∃ v L, o = .returned v ∧ Q v s₂.heap L ∧ FrameEnd s o s₂ L R.cells R.slots) : own_CP l Z y bytes ml ret ws R as' h0 Q := by
  refine MetFree.of_bodySF hpl hisR ?_
  intro p e s m args below meth c s₁ Bd hml hP hK
  obtain ⟨rfl, hZ, hh⟩ := hP
  exact H p e s m below meth c s₁ _ Bd hZ hh Bd.exec Bd.bytes hml (findClass_of_methodNamed Bd.named) (name_of_methodNamed Bd.named Bd.method).1 (Stand.of_body Bd) (by rw [← hh, Bd.state]; rfl) rfl
theorem own_EL {Z : State} {a0 : Array Value} (hw : ∀ d ∈ tables_1, d.before a0 Z = true) : EW Z a0 consts_1 := (EW.cons (hw _ (List.mem_of_getElem? (i := 148) rfl)) (by decide) (EW.cons (hw _ (List.mem_of_getElem? (i := 122) rfl)) (by decide) (EW.cons (hw _ (List.mem_of_getElem? (i := 147) rfl)) (by decide) EW.nil)))
theorem own_SA {Z : State} {a0 : Array Value} (hw : ∀ d ∈ tables_1, d.before a0 Z = true) : ∀ d ∈ Bundle.stringAtoms, d.before a0 Z = true := fun d hd => hw d ((by decide +kernel : ∀ d ∈ Bundle.stringAtoms, d ∈ tables_1) d hd)
theorem own_safe_null {Z : State} {EL : List (String × Nat)} {vm : Vm} {h : Heap} {x : Addr} (hal : Z.vm.Alike vm) (E : Exa Z h x "java/lang/String") (F : Fld Z h x "java/lang/String" "value" "[B" .null) : Safe Z EL vm h x := by
  rintro ⟨p, hp, u, a, B, q, hqa, ⟨cS, ⟨S1, S2, S3⟩, -, hcl, hsb⟩, hy⟩
  rcases hy with hy | hy
  · subst hy
    obtain ⟨cell, cf, k, i, f, h1, h2, h3, h4, h5, h6, h7⟩ := F
    obtain ⟨k', h2', -⟩ := State.fieldFound?_setVm (s := Z) hal h2
    obtain ⟨c2, k2, i2, g1, -⟩ := S1.ffV
    have e1 : cell = q.sC := Option.some.inj (h1.symm.trans S1.ha)
    have e2 : (Z.setVm vm).fieldFound? "java/lang/String" "value" "[B" = some (c2, k2, i2, q.fSV) := g1
    have e3 := Option.some.inj (h2'.symm.trans e2)
    have e4 : f = q.fSV := congrArg (fun z => z.2.2.2) e3
    have e5 : q.sC.slots[q.fSV.slot]? = some (.ref q.sd) := S1.2.2.2.2.2.2.2.1
    rw [e1, e4, e5] at h7
    cases h7
  · subst hy
    obtain ⟨c1, k1, h1, h2, -⟩ := E
    have e1 : c1 = q.SA := Option.some.inj (h1.symm.trans S1.2.2.2.2.2.2.2.2.2.1)
    have h2' : vm.findClass "java/lang/String" = some c1.cls := by rw [hal.findClass]; exact h2
    have hcl' : vm.findClass "[B" = some q.SA.cls := hcl
    rw [e1] at h2'
    obtain ⟨k3, a1, a2⟩ := Vm.findClass_spec h2'
    obtain ⟨k4, b1, b2⟩ := Vm.findClass_spec hcl'
    cases a1.symm.trans b1
    exact absurd (a2.symm.trans b2) (by decide)
abbrev own_CH (l : Launch) (Z : State) (y : MethodName) (bytes : ByteArray) (ml : Nat) (ret : Option FieldType) (ws : List Jvm.Cond) (R : Room) (as' : Array Value) (h0 : Heap) (Q : Option Value → Heap → List Loc → Prop) : Prop :=
  MetFree l y (head1 (Jvm.Cond.code y bytes ml ret :: ws) R) (fun a U => a = as' ∧ Z.Warmed39 U.vm ∧ U.heap = h0 ∧ CHv Z consts_1 U.vm h0) (fun _ _ _ _ _ => True) (fun _ U o U' => ∃ v L, o = .returned v ∧ Q v U'.heap L ∧ CHr Z consts_1 U.vm U.heap U'.vm U'.heap ∧ ReturnedEndW U o U' L R.cells R.slots)
abbrev own_CK (l : Launch) (Z : State) (y : MethodName) (bytes : ByteArray) (ml : Nat) (ret : Option FieldType) (ws : List Jvm.Cond) (R : Room) (as' : Array Value) (h0 : Heap) (Q : Option Value → Heap → List Loc → Prop) : Prop :=
  MetFree l y (head1 (Jvm.Cond.code y bytes ml ret :: ws) R) (fun a U => a = as' ∧ Z.Warmed39 U.vm ∧ U.heap = h0 ∧ CHv Z consts_1 U.vm h0) (fun _ _ bl s _ => s.vm.MethodsKnown ∧ s.vm.FramesKnown bl) (fun _ U o U' => ∃ v L, o = .returned v ∧ Q v U'.heap L ∧ CHr Z consts_1 U.vm U.heap U'.vm U'.heap ∧ ReturnedEndW U o U' L R.cells R.slots)
theorem own_H {l : Launch} {Z : State} {y : MethodName} {bytes : ByteArray} {ml : Nat} {ret : Option FieldType} {ws : List Jvm.Cond} {R : Room} {as' : Array Value} {h0 : Heap} {Q : Option Value → Heap → List Loc → Prop} (hpl : plainFor y = true)
    (H : ∀ (p : Program) (e : Env) (s : State) (m : MethodId) (below : List Frame) (meth : Method) (c : ClassFile.Code) (s₁ S0 : State), BodyLoose p l y (head1 (Jvm.Cond.code y bytes ml ret :: ws) R) bytes ml ret e s m as' below meth c s₁ → Z.Warmed39 (s.setVm s.vm).vm → s.heap = h0 → CHv Z consts_1 s.vm h0 → s.Since s.vm h0.size → CHr Z consts_1 s.vm h0 s.vm h0 → p.tables.exec = Jvm.exec → c.code = bytes → c.maxLocals = ml → (s.setVm s.vm).vm.findClass y.cls = some m.cls → meth.name = y.name →
      Stand p l e R (s.setVm s.vm) m as' below meth c s₁ [] 0 0 → s₁.heap = h0 → S0 = s₁.setTop (entryFrame m as' ml) → ∃ s₂ o, Steps p.tables e below S0 s₂ ∧ s₂.status = .running ∧ Ended s₂ below o ∧ ∃ v L, o = .returned v ∧ Q v s₂.heap L ∧ CHr Z consts_1 s.vm s.heap s₂.vm s₂.heap ∧ ReturnedEndW s o s₂ L R.cells R.slots) : own_CH l Z y bytes ml ret ws R as' h0 Q := by
  refine MetFree.of_bodySF hpl hisR ?_
  intro p e s m args below meth c s₁ Bd hml hP hK
  obtain ⟨rfl, hZ, hh, CH0⟩ := hP
  exact H p e s m below meth c s₁ _ Bd hZ hh CH0 (own_since0 s _) (CHr.refl CH0) Bd.exec Bd.bytes hml (findClass_of_methodNamed Bd.named) (name_of_methodNamed Bd.named Bd.method).1 (Stand.of_body Bd) (by rw [← hh, Bd.state]; rfl) rfl
theorem own_K {l : Launch} {Z : State} {y : MethodName} {bytes : ByteArray} {ml : Nat} {ret : Option FieldType} {ws : List Jvm.Cond} {R : Room} {as' : Array Value} {h0 : Heap} {Q : Option Value → Heap → List Loc → Prop} (hpl : plainFor y = true)
    (H : ∀ (p : Program) (e : Env) (s : State) (m : MethodId) (below : List Frame) (meth : Method) (c : ClassFile.Code) (s₁ S0 : State), BodyLoose p l y (head1 (Jvm.Cond.code y bytes ml ret :: ws) R) bytes ml ret e s m as' below meth c s₁ → Z.Warmed39 (s.setVm s.vm).vm → s.heap = h0 → CHv Z consts_1 s.vm h0 → s.Since s.vm h0.size → CHr Z consts_1 s.vm h0 s.vm h0 → s.vm.MethodsKnown → s.vm.FramesKnown below → p.tables.exec = Jvm.exec → c.code = bytes → c.maxLocals = ml → (s.setVm s.vm).vm.findClass y.cls = some m.cls → meth.name = y.name →
      Stand p l e R (s.setVm s.vm) m as' below meth c s₁ [] 0 0 → s₁.heap = h0 → S0 = s₁.setTop (entryFrame m as' ml) → ∃ s₂ o, Steps p.tables e below S0 s₂ ∧ s₂.status = .running ∧ Ended s₂ below o ∧ ∃ v L, o = .returned v ∧ Q v s₂.heap L ∧ CHr Z consts_1 s.vm s.heap s₂.vm s₂.heap ∧ ReturnedEndW s o s₂ L R.cells R.slots) : own_CK l Z y bytes ml ret ws R as' h0 Q := by
  refine MetFree.of_bodySF hpl hisR ?_
  intro p e s m args below meth c s₁ Bd hml hP hK
  obtain ⟨rfl, hZ, hh, CH0⟩ := hP
  exact H p e s m below meth c s₁ _ Bd hZ hh CH0 (own_since0 s _) (CHr.refl CH0) hK.1 hK.2 Bd.exec Bd.bytes hml (findClass_of_methodNamed Bd.named) (name_of_methodNamed Bd.named Bd.method).1 (Stand.of_body Bd) (by rw [← hh, Bd.state]; rfl) rfl
def own_lo8 (x : Int32) : Int32 := nar .byte (x.toInt8.toInt32)
def own_ch (x : Int32) : Int32 := nar .char ((x &&& (255 : Int32)).toUInt32.toUInt16.toUInt32.toInt32)
def own_at (x : Int32) : Int32 := nar .char (own_ch x)
theorem own_at_says {c : Int32} (h0 : ¬ (c < (0 : Int32))) (h1 : ¬ ((255 : Int32) < c)) : own_at (own_lo8 c) = c := by
  rw [Int32.lt_iff_toInt_lt] at h0 h1
  have z0 : (0 : Int32).toInt = 0 := rfl
  have z1 : (255 : Int32).toInt = 255 := rfl
  have r1 := c_i2b c
  have r2 := c_i2b (c.toInt8.toInt32)
  have e1 : own_lo8 c = c.toInt8.toInt32.toInt8.toInt32 := rfl
  rw [← e1] at r2
  have m1 := c_mask (own_lo8 c) 255 8 (by decide) (by decide)
  have p8 : ((2 ^ 8 : Nat) : Int) = 256 := rfl
  rw [p8] at m1
  have k1 := c_i2c (own_lo8 c &&& 255)
  have k2 := c_i2c ((own_lo8 c &&& 255).toUInt32.toUInt16.toUInt32.toInt32)
  have k3 := c_i2c (((own_lo8 c &&& 255).toUInt32.toUInt16.toUInt32.toInt32).toUInt32.toUInt16.toUInt32.toInt32)
  have e3 : own_at (own_lo8 c) = (((own_lo8 c &&& 255).toUInt32.toUInt16.toUInt32.toInt32).toUInt32.toUInt16.toUInt32.toInt32).toUInt32.toUInt16.toUInt32.toInt32 := rfl
  rw [← e3] at k3
  apply Int32.toInt_inj.mp
  omega
def own_lo8z (x : Int32) : Int32 := nar .byte ((x >>> ((0 : Int32) &&& 31)).toInt8.toInt32)
theorem own_lo8z_eq (x : Int32) : own_lo8z x = own_lo8 x := by
  have h : x >>> ((0 : Int32) &&& 31) = x := by
    rw [show ((0 : Int32) &&& 31) = 0 from rfl]
    exact Int32.shiftRight_zero
  unfold own_lo8z own_lo8; rw [h]
def own_hi8 (x : Int32) : Int32 := nar .byte ((x >>> ((8 : Int32) &&& 31)).toInt8.toInt32)
def own_pair (u v : Int32) : Int32 := nar .char ((((u &&& (255 : Int32)) <<< ((0 : Int32) &&& 31)) ||| ((v &&& (255 : Int32)) <<< ((8 : Int32) &&& 31))).toUInt32.toUInt16.toUInt32.toInt32)
theorem own_pair_says0 {c : Int32} (h0 : ¬ (c < (0 : Int32))) (h1 : ¬ ((65535 : Int32) < c)) : own_pair (own_lo8 c) (own_hi8 c) = c := by
  rw [Int32.lt_iff_toInt_lt] at h0 h1
  have z0 : (0 : Int32).toInt = 0 := rfl
  have z1 : (65535 : Int32).toInt = 65535 := rfl
  have r1 := c_i2b c
  have r2 := c_i2b (c.toInt8.toInt32)
  have e1 : own_lo8 c = c.toInt8.toInt32.toInt8.toInt32 := rfl
  have s1 := c_ishr c 8 8 (by decide)
  have r3 := c_i2b (c >>> ((8 : Int32) &&& 31))
  have r4 := c_i2b ((c >>> ((8 : Int32) &&& 31)).toInt8.toInt32)
  have e2 : own_hi8 c = (c >>> ((8 : Int32) &&& 31)).toInt8.toInt32.toInt8.toInt32 := rfl
  have m1 := c_mask (own_lo8 c) 255 8 (by decide) (by decide)
  have m2 := c_mask (own_hi8 c) 255 8 (by decide) (by decide)
  have l1 := c_ishl (own_lo8 c &&& 255) 0 0 (by decide)
  have l2 := c_ishl (own_hi8 c &&& 255) 8 8 (by decide)
  have g1 := rng32 ((own_lo8 c &&& 255) <<< ((0 : Int32) &&& 31))
  have g2 := rng32 ((own_hi8 c &&& 255) <<< ((8 : Int32) &&& 31))
  rw [← e1] at r2
  rw [← e2] at r4
  have p8 : ((2 ^ 8 : Nat) : Int) = 256 := rfl
  have p0 : ((2 ^ 0 : Nat) : Int) = 1 := rfl
  rw [p8] at s1 m1 m2 l2
  rw [p0] at l1
  have o := c_or' ((own_lo8 c &&& 255) <<< ((0 : Int32) &&& 31)) ((own_hi8 c &&& 255) <<< ((8 : Int32) &&& 31)) 8 (by decide) 256 rfl (by omega) (by omega) (by omega)
  have g3 := rng32 (((own_lo8 c &&& 255) <<< ((0 : Int32) &&& 31)) ||| ((own_hi8 c &&& 255) <<< ((8 : Int32) &&& 31)))
  have k1 := c_i2c (((own_lo8 c &&& 255) <<< ((0 : Int32) &&& 31)) ||| ((own_hi8 c &&& 255) <<< ((8 : Int32) &&& 31)))
  have k2 := c_i2c ((((own_lo8 c &&& 255) <<< ((0 : Int32) &&& 31)) ||| ((own_hi8 c &&& 255) <<< ((8 : Int32) &&& 31))).toUInt32.toUInt16.toUInt32.toInt32)
  have e3 : own_pair (own_lo8 c) (own_hi8 c) = ((((own_lo8 c &&& 255) <<< ((0 : Int32) &&& 31)) ||| ((own_hi8 c &&& 255) <<< ((8 : Int32) &&& 31))).toUInt32.toUInt16.toUInt32.toInt32).toUInt32.toUInt16.toUInt32.toInt32 := rfl
  rw [← e3] at k2
  apply Int32.toInt_inj.mp
  omega
theorem own_pair_says {c : Int32} (h0 : ¬ (c < (0 : Int32))) (h1 : ¬ ((65535 : Int32) < c)) : own_pair (own_lo8z c) (own_hi8 c) = c := by
  rw [own_lo8z_eq]; exact own_pair_says0 h0 h1
def own_cw (x : Int32) : Int32 := (x &&& (65535 : Int32)).toUInt32.toUInt16.toUInt32.toInt32
def own_cx (x : Int32) : Int32 := ((x.toUInt32 >>> ((16 : Int32) &&& 31).toUInt32).toInt32).toUInt32.toUInt16.toUInt32.toInt32
theorem own_i2c_lo (x : Int32) : ¬ (x.toUInt32.toUInt16.toUInt32.toInt32 < (0 : Int32)) := by
  rw [Int32.lt_iff_toInt_lt]
  have h := (c_i2c x).2.1
  have e : (0 : Int32).toInt = 0 := rfl
  omega
theorem own_i2c_hi (x : Int32) : ¬ ((65535 : Int32) < x.toUInt32.toUInt16.toUInt32.toInt32) := by
  rw [Int32.lt_iff_toInt_lt]
  have h := (c_i2c x).2.2
  have e : (65535 : Int32).toInt = 65535 := rfl
  omega
theorem own_cw_lo (x : Int32) : ¬ (own_cw x < (0 : Int32)) := own_i2c_lo _
theorem own_cw_hi (x : Int32) : ¬ ((65535 : Int32) < own_cw x) := own_i2c_hi _
theorem own_cx_lo (x : Int32) : ¬ (own_cx x < (0 : Int32)) := own_i2c_lo _
theorem own_cx_hi (x : Int32) : ¬ ((65535 : Int32) < own_cx x) := own_i2c_hi _
theorem own_i2c_nar (x : Int32) : nar .char (x.toUInt32.toUInt16.toUInt32.toInt32) = x.toUInt32.toUInt16.toUInt32.toInt32 := by
  simp only [nar, UInt32.toUInt32_toInt32, UInt16.toUInt16_toUInt32]
theorem own_cw_nar {x : Int32} : nar .char (own_cw x) = own_cw x := own_i2c_nar _
theorem own_cx_nar {x : Int32} : nar .char (own_cx x) = own_cx x := own_i2c_nar _
def own_iv (cs : List Int32) : List Value := cs.map Value.int
def own_gt (cs : List Int32) (j : Int32) : Int32 := cs.getD j.toNatClampNeg 0
theorem own_iv_at (cs : List Int32) (j : Int32) : (own_iv cs).getD j.toNatClampNeg (.int 0) = .int (own_gt cs j) := by
  unfold own_iv own_gt
  rw [List.getD_eq_getElem?_getD, List.getD_eq_getElem?_getD, List.getElem?_map]
  cases cs[j.toNatClampNeg]? <;> rfl
theorem own_pad (n : Nat) : ∀ i, (own_iv (List.replicate n 0)).getD i (.int 0) = ([] : List Value).getD i (.int 0) := fun i => by
  unfold own_iv
  rw [List.map_replicate, List.getD_eq_getElem?_getD, List.getElem?_replicate]
  by_cases h : i < n <;> simp [h]
theorem own_iv_set {Z : State} {h : Heap} {a : Addr} {k : ClassId} {ty : FieldType} {z : Int32} {cs : List Int32} {i : Nat} {x : Int32} {d : Value} (A : Arv Z h a k ty z ((own_iv cs).set i (.int x)) d) : Arv Z h a k ty z (own_iv (cs.set i x)) d := by
  unfold own_iv at A ⊢
  rw [List.map_set]; exact A
theorem own_ix {cs : List Int32} {z j : Int32} (hl : cs.length = z.toNatClampNeg) (h0 : ¬ (j < (0 : Int32))) (h1 : j < z) : j.toNatClampNeg < (own_iv cs).length := by
  unfold own_iv
  rw [List.length_map, hl]
  rw [Int32.lt_iff_toInt_lt] at h0 h1
  have z0 : (0 : Int32).toInt = 0 := rfl
  show j.toInt.toNat < z.toInt.toNat
  omega
theorem own_setlen {cs : List Int32} {i : Nat} {x : Int32} {n : Nat} (h : cs.length = n) : (cs.set i x).length = n := by rw [List.length_set]; exact h
def own_bs (cs : List Int32) : List Int32 := cs.map own_lo8
def own_mix (cs ys : List Int32) (j : Int32) : List Int32 := (own_bs cs).take j.toNatClampNeg ++ ys.drop j.toNatClampNeg
theorem own_mix0 (cs ys : List Int32) : own_mix cs ys 0 = ys := by simp [own_mix, show (0 : Int32).toNatClampNeg = 0 from rfl]
theorem own_nat {j z : Int32} (h0 : ¬ (j < (0 : Int32))) (h1 : j < z) : j.toNatClampNeg < z.toNatClampNeg ∧ (j + (1 : Int32)).toNatClampNeg = j.toNatClampNeg + 1 ∧ ¬ ((j + (1 : Int32)) < (0 : Int32)) ∧ ¬ (z < (j + (1 : Int32))) := by
  rw [Int32.lt_iff_toInt_lt] at *
  have z0 : (0 : Int32).toInt = 0 := rfl
  have o : (1 : Int32).toInt = 1 := rfl
  have a := c_iadd j 1
  have r := rng32 (j + 1)
  have r1 := rng32 z
  rw [o] at a
  have e : (j + 1).toInt = j.toInt + 1 := by omega
  refine ⟨?_, ?_, ?_, ?_⟩
  · show j.toInt.toNat < z.toInt.toNat
    omega
  · show (j + 1).toInt.toNat = j.toInt.toNat + 1
    rw [e]; omega
  · omega
  · rw [Int32.lt_iff_toInt_lt]; omega
theorem own_mixlen {cs ys : List Int32} {n : Nat} (h1 : cs.length = n) (h2 : ys.length = n) {j : Int32} (hj : j.toNatClampNeg ≤ n) : (own_mix cs ys j).length = n := by
  simp [own_mix, own_bs, h1, h2]; omega
theorem own_mixset {cs ys : List Int32} {z j : Int32} (h1 : cs.length = z.toNatClampNeg) (h2 : ys.length = z.toNatClampNeg) (h0 : ¬ (j < (0 : Int32))) (hj : j < z) : (own_mix cs ys j).set j.toNatClampNeg (own_lo8 (own_gt cs j)) = own_mix cs ys (j + (1 : Int32)) := by
  obtain ⟨q1, q2, -, -⟩ := own_nat h0 hj
  unfold own_mix own_gt
  rw [q2]
  have l1 : ((own_bs cs).take j.toNatClampNeg).length = j.toNatClampNeg := by simp [own_bs, h1]; omega
  rw [List.set_append_right _ _ (by rw [l1]; exact Nat.le_refl _), l1, Nat.sub_self]
  have e1 : ys.drop j.toNatClampNeg = ys[j.toNatClampNeg]'(by omega) :: ys.drop (j.toNatClampNeg + 1) := List.drop_eq_getElem_cons (by omega)
  have e2 : (own_bs cs).take (j.toNatClampNeg + 1) = (own_bs cs).take j.toNatClampNeg ++ [own_lo8 (cs.getD j.toNatClampNeg 0)] := by
    rw [List.take_add_one]
    congr 1
    simp [own_bs, List.getElem?_map, List.getD_eq_getElem?_getD, List.getElem?_eq_getElem (show j.toNatClampNeg < cs.length by omega)]
  rw [e1, e2, List.set_cons_zero, List.append_assoc]
  rfl
theorem own_mixend {cs ys : List Int32} {z j : Int32} (h1 : cs.length = z.toNatClampNeg) (h2 : ys.length = z.toNatClampNeg) (hj : ¬ (j < z)) (hk : ¬ (z < j)) : own_mix cs ys j = own_bs cs := by
  obtain rfl : j = z := by
    rw [Int32.lt_iff_toInt_lt] at hj hk
    exact Int32.toInt_inj.mp (by omega)
  unfold own_mix
  rw [List.take_of_length_le (by simp [own_bs, h1]), List.drop_of_length_le (by rw [h2]; exact Nat.le_refl _), List.append_nil]
def own_lat (cs : List Int32) : Prop := ∀ c ∈ cs, ¬ (c < (0 : Int32)) ∧ ¬ ((255 : Int32) < c)
theorem own_lat_at {cs : List Int32} (h : own_lat cs) (j : Int32) : ¬ (own_gt cs j < (0 : Int32)) ∧ ¬ ((255 : Int32) < own_gt cs j) := by
  unfold own_gt
  rw [List.getD_eq_getElem?_getD]
  cases q : cs[j.toNatClampNeg]? with
  | none => exact ⟨by decide, by decide⟩
  | some c => exact h c (List.mem_of_getElem? q)
theorem own_dec {j z : Int32} (h0 : ¬ (j < (0 : Int32))) (h1 : j < z) : z.toNatClampNeg - (j + (1 : Int32)).toNatClampNeg < z.toNatClampNeg - j.toNatClampNeg := by
  obtain ⟨q1, q2, -, -⟩ := own_nat h0 h1
  omega
theorem own_jle {j z : Int32} (h : ¬ (z < j)) : j.toNatClampNeg ≤ z.toNatClampNeg := by
  rw [Int32.lt_iff_toInt_lt] at h
  show j.toInt.toNat ≤ z.toInt.toNat
  omega
theorem own_cod (n : Int32) : nar .byte (((n - n).toUInt32 >>> ((31 : Int32) &&& 31).toUInt32).toInt32.toInt8.toInt32) = 0 := by
  rw [Int32.sub_self]; rfl
theorem own_shr0 (x : Int32) : x >>> ((0 : Int32) &&& 31) = x := by
  rw [show ((0 : Int32) &&& 31) = 0 from rfl]
  exact Int32.shiftRight_zero
theorem own_chsays {cs : List Int32} {nn ii : Int32} (hl : cs.length = nn.toNatClampNeg) (hla : own_lat cs) (h1 : ¬ (ii < (0 : Int32))) (h2 : ii < nn) : own_at (own_gt (own_bs cs) ii) = own_gt cs ii := by
  have q := (own_nat h1 h2).1
  have e : own_gt (own_bs cs) ii = own_lo8 (own_gt cs ii) := by
    unfold own_gt own_bs
    rw [List.getD_eq_getElem?_getD, List.getD_eq_getElem?_getD, List.getElem?_map, List.getElem?_eq_getElem (show ii.toNatClampNeg < cs.length by omega)]
    rfl
  rw [e]
  exact own_at_says (own_lat_at hla ii).1 (own_lat_at hla ii).2
theorem own_narc {c : Int32} (h0 : ¬ (c < (0 : Int32))) (h1 : ¬ ((255 : Int32) < c)) : nar .char c = c := by
  rw [Int32.lt_iff_toInt_lt] at h0 h1
  have z0 : (0 : Int32).toInt = 0 := rfl
  have z1 : (255 : Int32).toInt = 255 := rfl
  have k := c_i2c c
  have e : nar .char c = c.toUInt32.toUInt16.toUInt32.toInt32 := rfl
  rw [e]
  apply Int32.toInt_inj.mp
  omega
theorem own_setlat {cs : List Int32} {i : Nat} {c : Int32} (h : own_lat cs) (h0 : ¬ (c < (0 : Int32))) (h1 : ¬ ((255 : Int32) < c)) : own_lat (cs.set i c) := fun d hd => by
  rcases List.mem_or_eq_of_mem_set hd with q | q
  · exact h d q
  · subst q; exact ⟨h0, h1⟩
def own_b (x : Bool) : Int32 := if x then 1 else 0
theorem own_rT {r : Int32} {x : Bool} (h : r = own_b x) (hr : ¬ (r = (0 : Int32))) : x = true := by
  cases x
  · exact absurd h hr
  · rfl
theorem own_rF {r : Int32} {x : Bool} (h : r = own_b x) (hr : r = (0 : Int32)) : x = false := by
  cases x
  · rfl
  · rw [h] at hr; exact absurd hr (by decide)
abbrev own_hp (c : Int32) : Prop := (¬ (c < (65 : Int32)) ∧ ¬ ((90 : Int32) < c)) ∨ (¬ (c < (97 : Int32)) ∧ ¬ ((122 : Int32) < c)) ∨ (¬ (c < (48 : Int32)) ∧ ¬ ((57 : Int32) < c)) ∨ c = (43 : Int32) ∨ c = (47 : Int32) ∨ c = (46 : Int32)
def own_hash (c : Int32) : Bool := decide (own_hp c)
theorem own_bT {c : Int32} (h : own_hp c) : (1 : Int32) = own_b (own_hash c) := by rw [own_hash, decide_eq_true h]; rfl
theorem own_bF {c : Int32} (h1 : ¬ (¬ (c < (65 : Int32)) ∧ ¬ ((90 : Int32) < c))) (h2 : ¬ (¬ (c < (97 : Int32)) ∧ ¬ ((122 : Int32) < c))) (h3 : ¬ (¬ (c < (48 : Int32)) ∧ ¬ ((57 : Int32) < c))) (h4 : ¬ (c = (43 : Int32))) (h5 : ¬ (c = (47 : Int32))) (h6 : ¬ (c = (46 : Int32))) : (0 : Int32) = own_b (own_hash c) := by
  have q : ¬ own_hp c := fun q => by
    rcases q with q | q | q | q | q | q
    · exact h1 q
    · exact h2 q
    · exact h3 q
    · exact h4 q
    · exact h5 q
    · exact h6 q
  rw [own_hash, decide_eq_false q]; rfl
def own_h (cs : List Int32) (i : Nat) : Bool := decide (i < cs.length) && own_hash (cs.getD i 0)
def own_d (cs : List Int32) (i : Nat) : Bool := decide (i < cs.length) && decide (cs.getD i 0 = 36)
def own_w (cs : List Int32) (i : Nat) : Bool := (List.range 13).all fun k => own_h cs (i + k)
theorem own_ge {cs : List Int32} {nn ii : Int32} (hl : cs.length = nn.toNatClampNeg) (h : ¬ (ii < nn)) : ¬ (ii.toNatClampNeg < cs.length) := by
  rw [hl]
  exact Nat.not_lt.mpr (own_jle h)
theorem own_h0 {cs : List Int32} {nn ii : Int32} (hl : cs.length = nn.toNatClampNeg) (h : ¬ (ii < nn)) : (0 : Int32) = own_b (own_h cs ii.toNatClampNeg) := by
  rw [own_h, decide_eq_false (own_ge hl h)]; rfl
theorem own_d0 {cs : List Int32} {nn ii : Int32} (hl : cs.length = nn.toNatClampNeg) (h : ¬ (ii < nn)) : (0 : Int32) = own_b (own_d cs ii.toNatClampNeg) := by
  rw [own_d, decide_eq_false (own_ge hl h)]; rfl
theorem own_h1 {cs : List Int32} {r ii : Int32} (h : r = own_b (own_hash (own_gt cs ii))) (hr : r = (0 : Int32)) : (0 : Int32) = own_b (own_h cs ii.toNatClampNeg) := by
  have q := own_rF h hr
  unfold own_gt at q
  rw [own_h, q, Bool.and_false]; rfl
theorem own_h2 {cs : List Int32} {nn r ii : Int32} (hl : cs.length = nn.toNatClampNeg) (h0 : ¬ (ii < (0 : Int32))) (hi : ii < nn) (h : r = own_b (own_hash (own_gt cs ii))) (hr : ¬ (r = (0 : Int32))) : (1 : Int32) = own_b (own_h cs ii.toNatClampNeg) := by
  have q := own_rT h hr
  unfold own_gt at q
  rw [own_h, q, decide_eq_true (by rw [hl]; exact (own_nat h0 hi).1)]; rfl
theorem own_d1 {cs : List Int32} {ii : Int32} (h : ¬ (own_gt cs ii = (36 : Int32))) : (0 : Int32) = own_b (own_d cs ii.toNatClampNeg) := by
  unfold own_gt at h
  rw [own_d, decide_eq_false h, Bool.and_false]; rfl
theorem own_d2 {cs : List Int32} {nn ii : Int32} (hl : cs.length = nn.toNatClampNeg) (h0 : ¬ (ii < (0 : Int32))) (hi : ii < nn) (h : own_gt cs ii = (36 : Int32)) : (1 : Int32) = own_b (own_d cs ii.toNatClampNeg) := by
  unfold own_gt at h
  rw [own_d, decide_eq_true h, decide_eq_true (by rw [hl]; exact (own_nat h0 hi).1)]; rfl
theorem own_w0 {cs : List Int32} {i k : Nat} (hk : k < 13) (h : own_h cs (i + k) = false) : (0 : Int32) = own_b (own_w cs i) := by
  have q : own_w cs i = false := by
    unfold own_w
    rw [List.all_eq_false]
    exact ⟨k, List.mem_range.mpr hk, by rw [h]; decide⟩
  rw [q]; rfl
theorem own_w1 {cs : List Int32} {i : Nat} (h0 : own_h cs (i + 0) = true) (h1 : own_h cs (i + 1) = true) (h2 : own_h cs (i + 2) = true) (h3 : own_h cs (i + 3) = true) (h4 : own_h cs (i + 4) = true) (h5 : own_h cs (i + 5) = true) (h6 : own_h cs (i + 6) = true) (h7 : own_h cs (i + 7) = true) (h8 : own_h cs (i + 8) = true) (h9 : own_h cs (i + 9) = true) (h10 : own_h cs (i + 10) = true) (h11 : own_h cs (i + 11) = true) (h12 : own_h cs (i + 12) = true) : (1 : Int32) = own_b (own_w cs i) := by
  have q : own_w cs i = true := by
    unfold own_w
    rw [show List.range 13 = [0, 1, 2, 3, 4, 5, 6, 7, 8, 9, 10, 11, 12] from rfl]
    simp only [List.all_cons, List.all_nil, h0, h1, h2, h3, h4, h5, h6, h7, h8, h9, h10, h11, h12]; rfl
  rw [q]; rfl
theorem own_chA (y : Int64) : ¬ (nar .char (((y &&& (255 : Int64)).toInt32).toUInt32.toUInt16.toUInt32.toInt32) < (0 : Int32)) ∧ ¬ ((255 : Int32) < nar .char (((y &&& (255 : Int64)).toInt32).toUInt32.toUInt16.toUInt32.toInt32)) := by
  have m := c_maskL y 255 8 (by decide) (by decide)
  have p8 : ((2 ^ 8 : Nat) : Int) = 256 := rfl
  rw [p8] at m
  have c := c_l2i (y &&& 255)
  have r := rng32 (y &&& 255).toInt32
  have k1 := c_i2c (y &&& 255).toInt32
  have k2 := c_i2c ((y &&& 255).toInt32.toUInt32.toUInt16.toUInt32.toInt32)
  have e : nar .char (((y &&& (255 : Int64)).toInt32).toUInt32.toUInt16.toUInt32.toInt32) = ((y &&& 255).toInt32.toUInt32.toUInt16.toUInt32.toInt32).toUInt32.toUInt16.toUInt32.toInt32 := rfl
  rw [e, Int32.lt_iff_toInt_lt, Int32.lt_iff_toInt_lt]
  have z0 : (0 : Int32).toInt = 0 := rfl
  have z1 : (255 : Int32).toInt = 255 := rfl
  omega
theorem own_chB (x : Int32) : ¬ (nar .char (((x &&& (63 : Int32)) ||| (64 : Int32)).toUInt32.toUInt16.toUInt32.toInt32) < (0 : Int32)) ∧ ¬ ((255 : Int32) < nar .char (((x &&& (63 : Int32)) ||| (64 : Int32)).toUInt32.toUInt16.toUInt32.toInt32)) := by
  have m := c_and x 63 (by decide)
  have z63 : (63 : Int32).toInt = 63 := rfl
  have z64 : (64 : Int32).toInt = 64 := rfl
  have o := c_or' (x &&& 63) 64 6 (by decide) 64 rfl (by decide) m.1 (by omega)
  have r := rng32 ((x &&& 63) ||| 64)
  have k1 := c_i2c ((x &&& 63) ||| 64)
  have k2 := c_i2c (((x &&& 63) ||| 64).toUInt32.toUInt16.toUInt32.toInt32)
  have e : nar .char (((x &&& (63 : Int32)) ||| (64 : Int32)).toUInt32.toUInt16.toUInt32.toInt32) = (((x &&& 63) ||| 64).toUInt32.toUInt16.toUInt32.toInt32).toUInt32.toUInt16.toUInt32.toInt32 := rfl
  rw [e, Int32.lt_iff_toInt_lt, Int32.lt_iff_toInt_lt]
  have z0 : (0 : Int32).toInt = 0 := rfl
  have z1 : (255 : Int32).toInt = 255 := rfl
  omega
theorem own_tn {x : Int32} (h : ¬ (x < (0 : Int32))) : x.toInt = (x.toNatClampNeg : Int) := by
  rw [Int32.lt_iff_toInt_lt] at h
  have z0 : (0 : Int32).toInt = 0 := rfl
  show x.toInt = (x.toInt.toNat : Int)
  omega
theorem own_ltn {x y : Int32} (hx : ¬ (x < (0 : Int32))) (hy : ¬ (y < (0 : Int32))) (h : x.toNatClampNeg < y.toNatClampNeg) : x < y := by
  rw [Int32.lt_iff_toInt_lt, own_tn hx, own_tn hy]; omega
def own_seg (X : List Int32) (sp nn : Int32) : List Int32 := (List.range nn.toNatClampNeg).map fun i => X.getD (sp.toNatClampNeg + i) 0
def own_cp (Y : List Int32) (d : Nat) (U : List Int32) (e : Nat) : List Int32 := Y.take d ++ U ++ Y.drop e
-- Strings of either coder
def own_db (x : Int32) : Int32 := (x <<< ((1 : Int32) &&& 31))
theorem own_dbn : ∀ n : Nat, n ≤ 8 → (own_db (Int32.ofNat n)).toNatClampNeg = 2 * n ∧ ¬ (own_db (Int32.ofNat n) < (0 : Int32)) ∧ (own_db (Int32.ofNat n)) >>> ((1 : Int32) &&& 31) = Int32.ofNat n ∧ (Int32.ofNat n).toNatClampNeg = n := by decide +kernel
theorem own_ofn {x : Int32} (h : ¬ (x < (0 : Int32))) (h2 : x.toNatClampNeg ≤ 8) : x = Int32.ofNat x.toNatClampNeg := by
  have e := own_tn h
  have k : ∀ n : Nat, n ≤ 8 → (Int32.ofNat n).toInt = n := by decide +kernel
  apply Int32.toInt_inj.mp
  rw [k _ h2, e]
theorem own_dbr {x : Int32} (h : ¬ (x < (0 : Int32))) (h2 : x.toNatClampNeg ≤ 8) : (own_db x).toNatClampNeg = 2 * x.toNatClampNeg ∧ ¬ (own_db x < (0 : Int32)) ∧ (own_db x) >>> ((1 : Int32) &&& 31) = x := by
  have e := own_ofn h h2
  obtain ⟨a, b, c, -⟩ := own_dbn x.toNatClampNeg h2
  rw [← e] at a b c
  exact ⟨a, b, c⟩
theorem own_dbs {x : Int32} (h : ¬ (x < (0 : Int32))) (h2 : x.toNatClampNeg ≤ 8) : ((own_db x) + (1 : Int32)).toNatClampNeg = 2 * x.toNatClampNeg + 1 ∧ ¬ (((own_db x) + (1 : Int32)) < (0 : Int32)) := by
  have k : ∀ n : Nat, n ≤ 8 → ((own_db (Int32.ofNat n)) + (1 : Int32)).toNatClampNeg = 2 * n + 1 ∧ ¬ (((own_db (Int32.ofNat n)) + (1 : Int32)) < (0 : Int32)) := by decide +kernel
  have e := own_ofn h h2
  have q := k x.toNatClampNeg h2
  rw [← e] at q; exact q
theorem own_dblt {i n : Int32} (hi : ¬ (i < (0 : Int32))) (hin : i.toNatClampNeg < n.toNatClampNeg) (hn : ¬ (n < (0 : Int32))) (h8 : n.toNatClampNeg ≤ 8) : own_db i < own_db n ∧ (own_db i + (1 : Int32)) < own_db n := by
  obtain ⟨a1, a2, -⟩ := own_dbr hi (by omega)
  obtain ⟨b1, b2, -⟩ := own_dbr hn h8
  obtain ⟨c1, c2⟩ := own_dbs hi (by omega)
  exact ⟨own_ltn a2 b2 (by omega), own_ltn c2 b2 (by omega)⟩
def own_ws (cs : List Int32) : List Int32 := cs.flatMap fun c => [own_lo8z c, own_hi8 c]
theorem own_wscons (c : Int32) (cs : List Int32) : own_ws (c :: cs) = own_lo8z c :: own_hi8 c :: own_ws cs := by simp [own_ws]
theorem own_wslen : ∀ cs : List Int32, (own_ws cs).length = 2 * cs.length
  | [] => rfl
  | c :: cs => by rw [own_wscons, List.length_cons, List.length_cons, own_wslen cs, List.length_cons]; omega
theorem own_wsat : ∀ (cs : List Int32) (i : Nat) (h : i < cs.length), (own_ws cs)[2 * i]? = some (own_lo8z cs[i]) ∧ (own_ws cs)[2 * i + 1]? = some (own_hi8 cs[i])
  | [], i, h => by simp at h
  | c :: cs, 0, h => by rw [own_wscons]; exact ⟨rfl, rfl⟩
  | c :: cs, i + 1, h => by
    rw [own_wscons, show 2 * (i + 1) = 2 * i + 1 + 1 by omega, show 2 * i + 1 + 1 + 1 = (2 * i + 1) + 1 + 1 by omega]
    simp only [List.getElem?_cons_succ, List.getElem_cons_succ]
    exact own_wsat cs i (by simpa using h)
theorem own_wsapp (a b : List Int32) : own_ws (a ++ b) = own_ws a ++ own_ws b := by simp [own_ws]
theorem own_wstake (cs : List Int32) (m : Nat) : own_ws (cs.take m) = (own_ws cs).take (2 * m) := by
  by_cases h : m ≤ cs.length
  · have e : cs = cs.take m ++ cs.drop m := (List.take_append_drop m cs).symm
    have l : (own_ws (cs.take m)).length = 2 * m := by rw [own_wslen, List.length_take]; omega
    have q : (own_ws (cs.take m)).take (2 * m) = own_ws (cs.take m) := List.take_of_length_le (by omega)
    conv => rhs; rw [e, own_wsapp]
    rw [List.take_append_of_le_length (by omega), q]
  · rw [List.take_of_length_le (by omega), List.take_of_length_le (by rw [own_wslen]; omega)]
def own_u16 (cs : List Int32) : Prop := ∀ c ∈ cs, ¬ (c < (0 : Int32)) ∧ ¬ ((65535 : Int32) < c)
theorem own_u16take {cs : List Int32} (h : own_u16 cs) (m : Nat) : own_u16 (cs.take m) := fun c hc => h c (List.mem_of_mem_take hc)
theorem own_lattake {cs : List Int32} (h : own_lat cs) (m : Nat) : own_lat (cs.take m) := fun c hc => h c (List.mem_of_mem_take hc)
theorem own_getc {cs : List Int32} {i n : Int32} (hu : own_u16 cs) (hl : cs.length = n.toNatClampNeg) (h8 : n.toNatClampNeg ≤ 8) (hi : ¬ (i < (0 : Int32))) (hin : i.toNatClampNeg < n.toNatClampNeg) : own_pair (own_gt (own_ws cs) (own_db i)) (own_gt (own_ws cs) (own_db i + (1 : Int32))) = own_gt cs i := by
  have h : i.toNatClampNeg < cs.length := by omega
  obtain ⟨a, b⟩ := own_wsat cs _ h
  unfold own_gt
  rw [(own_dbr hi (by omega)).1, (own_dbs hi (by omega)).1, List.getD_eq_getElem?_getD, List.getD_eq_getElem?_getD, a, b, List.getD_eq_getElem?_getD, List.getElem?_eq_getElem h]
  have q := hu cs[i.toNatClampNeg] (List.getElem_mem h)
  exact own_pair_says q.1 q.2
def own_wf (cs : List Int32) (i : Nat) : List Int32 := own_ws (cs.take i) ++ List.replicate (2 * (cs.length - i)) 0
theorem own_wf0 (cs : List Int32) : own_wf cs 0 = List.replicate (2 * cs.length) 0 := by simp [own_wf, own_ws]
theorem own_wfn {cs : List Int32} {i : Nat} (h : cs.length ≤ i) : own_wf cs i = own_ws cs := by
  unfold own_wf
  rw [List.take_of_length_le h, show cs.length - i = 0 by omega]; simp
theorem own_wflen {cs : List Int32} {i : Nat} (h : i ≤ cs.length) : (own_wf cs i).length = 2 * cs.length := by
  unfold own_wf
  rw [List.length_append, own_wslen, List.length_take, List.length_replicate]; omega
theorem own_wfset {cs : List Int32} {i : Nat} (h : i < cs.length) : ((own_wf cs i).set (2 * i) (own_lo8z cs[i])).set (2 * i + 1) (own_hi8 cs[i]) = own_wf cs (i + 1) := by
  unfold own_wf
  have l : (own_ws (cs.take i)).length = 2 * i := by rw [own_wslen, List.length_take]; omega
  rw [List.set_append_right _ _ (by omega), l, Nat.sub_self, List.set_append_right _ _ (by omega), l]
  rw [show 2 * (cs.length - i) = 2 * (cs.length - (i + 1)) + 1 + 1 by omega, List.replicate_succ, List.replicate_succ, List.set_cons_zero, show 2 * i + 1 - 2 * i = 1 by omega, List.set_cons_succ, List.set_cons_zero]
  rw [List.take_add_one, List.getElem?_eq_getElem h, own_wsapp]
  simp [own_ws]
-- how far it is Latin
def own_latn (cs : List Int32) (k : Nat) : Prop := ∀ i, i < k → ¬ ((255 : Int32) < cs.getD i 0)
theorem own_latn0 (cs : List Int32) : own_latn cs 0 := fun _ h => by omega
theorem own_latnS {cs : List Int32} {j : Int32} (h : own_latn cs j.toNatClampNeg) (hj : (j + (1 : Int32)).toNatClampNeg = j.toNatClampNeg + 1) (hc : ¬ ((255 : Int32) < own_gt cs j)) : own_latn cs (j + (1 : Int32)).toNatClampNeg := fun i hi => by
  rw [hj] at hi
  by_cases q : i = j.toNatClampNeg
  · subst q; exact hc
  · exact h i (by omega)
theorem own_latnE {cs : List Int32} {k : Nat} (h : own_latn cs k) (hl : cs.length ≤ k) (hu : own_u16 cs) : own_lat cs := fun c hc => by
  obtain ⟨i, hi, e⟩ := List.getElem_of_mem hc
  have q := h i (by omega)
  rw [List.getD_eq_getElem?_getD, List.getElem?_eq_getElem hi] at q
  refine ⟨(hu c hc).1, ?_⟩
  rw [← e]; exact q
theorem own_codu {n : Int32} (h : (0 : Int32) < n) (h8 : n.toNatClampNeg ≤ 8) : (((n - own_db n).toUInt32 >>> ((31 : Int32) &&& 31).toUInt32).toInt32.toInt8.toInt32) = 1 := by
  have k : ∀ m : Nat, m ≤ 8 → 0 < m → (((Int32.ofNat m - own_db (Int32.ofNat m)).toUInt32 >>> ((31 : Int32) &&& 31).toUInt32).toInt32.toInt8.toInt32) = 1 := by decide +kernel
  have h0 : ¬ (n < (0 : Int32)) := by rw [Int32.lt_iff_toInt_lt] at *; omega
  have hp : 0 < n.toNatClampNeg := by
    rw [Int32.lt_iff_toInt_lt] at h
    have z0 : (0 : Int32).toInt = 0 := rfl
    show 0 < n.toInt.toNat
    omega
  have e := own_ofn h0 h8
  have q := k n.toNatClampNeg h8 hp
  rw [← e] at q; exact q
theorem own_gttake {cs : List Int32} {i m : Int32} (h : i.toNatClampNeg < m.toNatClampNeg) : own_gt (cs.take m.toNatClampNeg) i = own_gt cs i := by
  unfold own_gt
  rw [List.getD_eq_getElem?_getD, List.getD_eq_getElem?_getD, List.getElem?_take_of_lt h]
theorem own_ivseg (X : List Int32) (sp nn : Int32) : own_iv (own_seg X sp nn) = (List.range nn.toNatClampNeg).map fun i => (own_iv X).getD (sp.toNatClampNeg + i) (.int 0) := by
  unfold own_iv own_seg
  rw [List.map_map]
  apply List.map_congr_left
  intro i _
  simp only [Function.comp, List.getD_eq_getElem?_getD, List.getElem?_map]
  cases X[sp.toNatClampNeg + i]? <;> rfl
theorem own_ivl {Y : List Int32} {n : Nat} (h : n ≤ Y.length) : n ≤ (own_iv Y).length := by simpa [own_iv] using h
theorem own_ivcp {Z : State} {h : Heap} {a : Addr} {k : ClassId} {ty : FieldType} {z : Int32} {Y U : List Int32} {d e : Nat} {dv : Value} (A : Arv Z h a k ty z ((own_iv Y).take d ++ own_iv U ++ (own_iv Y).drop e) dv) : Arv Z h a k ty z (own_iv (own_cp Y d U e)) dv := by
  have q : (own_iv Y).take d ++ own_iv U ++ (own_iv Y).drop e = own_iv (own_cp Y d U e) := by
    unfold own_iv own_cp
    rw [List.map_append, List.map_append, List.map_take, List.map_drop]
  rw [q] at A; exact A
theorem own_sub0 (x : Int32) : x - (0 : Int32) = x := Int32.sub_zero x
theorem own_0add (x : Int32) : (0 : Int32) + x = x := Int32.zero_add x
theorem own_jge {j z : Int32} (h : ¬ (j < z)) : z.toNatClampNeg ≤ j.toNatClampNeg := by
  rw [Int32.lt_iff_toInt_lt] at h
  show z.toInt.toNat ≤ j.toInt.toNat
  omega
theorem own_ltn' {x y : Int32} (h : x < y) : ¬ (x = y) := by
  rintro rfl
  rw [Int32.lt_iff_toInt_lt] at h; omega
theorem own_asym {x y : Int32} (h : x < y) : ¬ (y < x) := by
  rw [Int32.lt_iff_toInt_lt] at *; omega
theorem own_lt2 {x y z : Int32} (h : x < y) (h2 : y < z) : x < z := by
  rw [Int32.lt_iff_toInt_lt] at *; omega
theorem own_lt3 {x y : Int32} (h : ¬ (y < x)) (h2 : ¬ (x = y)) : x < y := by
  rw [Int32.lt_iff_toInt_lt] at *
  have : x.toInt ≠ y.toInt := fun q => h2 (Int32.toInt_inj.mp q)
  omega
theorem own_ge1 {x a b : Int32} (h : ¬ (a < x)) (h2 : ¬ (b < a)) : ¬ (b < x) := by
  rw [Int32.lt_iff_toInt_lt] at *; omega
theorem own_lpos {n : Int32} (h : ¬ (n < (0 : Int32))) (h2 : ¬ (n = (0 : Int32))) : (0 : Int32) < n := own_lt3 h (fun q => h2 q.symm)
theorem own_small8 {x : Int32} (h : ¬ (x < (0 : Int32))) (h8 : x.toNatClampNeg ≤ 8) : x < (1073741823 : Int32) := by
  have e := own_tn h
  rw [Int32.lt_iff_toInt_lt, e, show (1073741823 : Int32).toInt = 1073741823 from rfl]; omega
theorem own_or3 {n m : Int32} (hn : ¬ (n < (0 : Int32))) (h8 : n.toNatClampNeg ≤ 8) (hm : ¬ (m < (0 : Int32))) (hlt : m < n) : ¬ (((n ||| (0 : Int32)) ||| m) < (0 : Int32)) := by
  have k : ∀ a : Nat, a ≤ 8 → ∀ b : Nat, b ≤ 8 → ¬ (((Int32.ofNat a ||| (0 : Int32)) ||| Int32.ofNat b) < (0 : Int32)) := by decide +kernel
  have e1 := own_ofn hn h8
  have hm8 : m.toNatClampNeg ≤ 8 := by have q := (own_nat hm hlt).1; omega
  have e2 := own_ofn hm hm8
  rw [e1, e2]
  exact k _ h8 _ hm8
theorem own_wfstep {Z : State} {h : Heap} {a : Addr} {k : ClassId} {z n j : Int32} {cs : List Int32} {dv : Value} (hl : cs.length = n.toNatClampNeg) (h8 : n.toNatClampNeg ≤ 8) (h0 : ¬ (j < (0 : Int32))) (h1 : j < n) (A : Arv Z h a k .byte z (own_iv (((own_wf cs j.toNatClampNeg).set (own_db j).toNatClampNeg (own_lo8z (own_gt cs j))).set ((own_db j) + (1 : Int32)).toNatClampNeg (own_hi8 (own_gt cs j)))) dv) : Arv Z h a k .byte z (own_iv (own_wf cs (j + (1 : Int32)).toNatClampNeg)) dv := by
  obtain ⟨q1, q2, -, -⟩ := own_nat h0 h1
  have hj : j.toNatClampNeg < cs.length := by omega
  have e : own_gt cs j = cs[j.toNatClampNeg] := by
    unfold own_gt
    rw [List.getD_eq_getElem?_getD, List.getElem?_eq_getElem hj]; rfl
  rw [(own_dbr h0 (by omega)).1, (own_dbs h0 (by omega)).1, e, own_wfset hj] at A
  rw [q2]; exact A
theorem own_codun {n : Int32} (h : (0 : Int32) < n) (h8 : n.toNatClampNeg ≤ 8) : nar .byte (((n - own_db n).toUInt32 >>> ((31 : Int32) &&& 31).toUInt32).toInt32.toInt8.toInt32) = 1 := by
  rw [own_codu h h8]; rfl
def own_S (Z : State) (h : Heap) (x : Addr) (nn : Int32) (cs : List Int32) : Prop := ∃ (t : Addr) (k : ClassId), Exa Z h x "java/lang/String" ∧ Fld Z h x "java/lang/String" "value" "[B" (.ref t) ∧
  ((Fld Z h x "java/lang/String" "coder" "B" (.int (0 : Int32)) ∧ own_lat cs ∧ Arv Z h t k .byte nn (own_iv (own_bs cs)) (.int (0 : Int32))) ∨ (Fld Z h x "java/lang/String" "coder" "B" (.int (1 : Int32)) ∧ Arv Z h t k .byte (own_db nn) (own_iv (own_ws cs)) (.int (0 : Int32))))
theorem own_S.keep {Z : State} {h h' : Heap} {x : Addr} {nn : Int32} {cs : List Int32} (S : own_S Z h x nn cs) (K : Keep h h' []) : own_S Z h' x nn cs := by
  obtain ⟨t, k, E, F, ⟨c, l, a⟩ | ⟨c, a⟩⟩ := S
  · exact ⟨t, k, E.keep K, F.keep K nin0, Or.inl ⟨c.keep K nin0, l, a.keep K nin0⟩⟩
  · exact ⟨t, k, E.keep K, F.keep K nin0, Or.inr ⟨c.keep K nin0, a.keep K nin0⟩⟩
theorem own_Sself {Z : State} {h : Heap} {x : Addr} {nn mm : Int32} {cs : List Int32} (S : own_S Z h x nn cs) (e : mm = nn) (hl : cs.length = nn.toNatClampNeg) : own_S Z h x mm (cs.take mm.toNatClampNeg) := by
  subst e
  rw [List.take_of_length_le (by omega)]; exact S
theorem own_S0 {Z : State} {h : Heap} {x t : Addr} {k : ClassId} (E : Exa Z h x "java/lang/String") (F : Fld Z h x "java/lang/String" "value" "[B" (.ref t)) (c : Fld Z h x "java/lang/String" "coder" "B" (.int (0 : Int32))) (a : Arv Z h t k .byte (0 : Int32) (own_iv []) (.int (0 : Int32))) : own_S Z h x (0 : Int32) [] :=
  ⟨t, k, E, F, Or.inl ⟨c, (fun _ q => by cases q), a⟩⟩
theorem own_Sempty {Z : State} {h : Heap} {x t : Addr} {k : ClassId} {mm : Int32} {cs : List Int32} (e : mm = (0 : Int32)) (E : Exa Z h x "java/lang/String") (F : Fld Z h x "java/lang/String" "value" "[B" (.ref t)) (c : Fld Z h x "java/lang/String" "coder" "B" (.int (0 : Int32))) (a : Arv Z h t k .byte (0 : Int32) (own_iv []) (.int (0 : Int32))) : own_S Z h x mm (cs.take mm.toNatClampNeg) := by
  subst e
  exact own_S0 E F c a
theorem own_nar3 {cs : List Int32} (hu : own_u16 cs) (i : Int32) : nar .char (nar .char (own_gt cs i)) = own_gt cs i := by
  have q : ¬ (own_gt cs i < (0 : Int32)) ∧ ¬ ((65535 : Int32) < own_gt cs i) := by
    unfold own_gt
    rw [List.getD_eq_getElem?_getD]
    cases r : cs[i.toNatClampNeg]? with
    | none => exact ⟨by decide, by decide⟩
    | some c => exact hu c (List.mem_of_getElem? r)
  have e : ∀ c : Int32, ¬ (c < (0 : Int32)) → ¬ ((65535 : Int32) < c) → nar .char c = c := fun c h0 h1 => by
    rw [Int32.lt_iff_toInt_lt] at h0 h1
    have z0 : (0 : Int32).toInt = 0 := rfl
    have z1 : (65535 : Int32).toInt = 65535 := rfl
    have k := c_i2c c
    have e : nar .char c = c.toUInt32.toUInt16.toUInt32.toInt32 := rfl
    rw [e]
    apply Int32.toInt_inj.mp
    omega
  rw [e _ q.1 q.2, e _ q.1 q.2]
theorem own_cpt {ys : List Int32} {zz mm : Int32} (hl : ys.length = zz.toNatClampNeg) (h : mm.toNatClampNeg ≤ zz.toNatClampNeg) : own_cp (List.replicate mm.toNatClampNeg 0) (0 : Int32).toNatClampNeg (own_seg ys (0 : Int32) mm) ((0 : Int32).toNatClampNeg + mm.toNatClampNeg) = ys.take mm.toNatClampNeg := by
  rw [show (0 : Int32).toNatClampNeg = 0 from rfl, Nat.zero_add]
  unfold own_cp own_seg
  rw [show (0 : Int32).toNatClampNeg = 0 from rfl, List.take_zero, List.nil_append, List.drop_of_length_le (by simp), List.append_nil]
  apply List.ext_getElem
  · simp; omega
  · intro i h1 h2
    have h3 : i < ys.length := by simp at h2; omega
    simp [List.getElem?_eq_getElem h3]
theorem own_bslen {cs : List Int32} {n : Nat} (h : cs.length = n) : (own_bs cs).length = n := by simp [own_bs, h]
theorem own_bstake {Z : State} {h : Heap} {a : Addr} {k : ClassId} {z : Int32} {cs : List Int32} {m : Nat} {dv : Value} (A : Arv Z h a k .byte z (own_iv ((own_bs cs).take m)) dv) : Arv Z h a k .byte z (own_iv (own_bs (cs.take m))) dv := by
  rw [show own_bs (cs.take m) = (own_bs cs).take m from List.map_take ..]; exact A
theorem own_mixset' {cs ys : List Int32} {z j m : Int32} (h1 : (cs.take m.toNatClampNeg).length = z.toNatClampNeg) (h2 : ys.length = z.toNatClampNeg) (h0 : ¬ (j < (0 : Int32))) (hj : j < z) : (own_mix (cs.take m.toNatClampNeg) ys j).set j.toNatClampNeg (own_lo8 (own_gt cs j)) = own_mix (cs.take m.toNatClampNeg) ys (j + (1 : Int32)) := by
  have q : j.toNatClampNeg < m.toNatClampNeg := by
    have a := (own_nat h0 hj).1
    rw [List.length_take] at h1; omega
  rw [← own_gttake q]
  exact own_mixset h1 h2 h0 hj
def own_us (x : Int32) : Int32 := (x.toUInt32 >>> ((16 : Int32) &&& 31).toUInt32).toInt32
def own_rm (x k : Int32) : Int32 := ((x &&& (2147483647 : Int32)) % k)
theorem own_rmI (x : Int32) {k : Int32} (hk : 0 < k.toInt) : 0 ≤ (own_rm x k).toInt ∧ (own_rm x k).toInt < k.toInt := by
  have h := c_and x 2147483647 (by decide)
  unfold own_rm
  rw [Int32.toInt_mod, Int.tmod_eq_emod_of_nonneg h.1]
  exact ⟨Int.emod_nonneg _ (by omega), Int.emod_lt_of_pos _ hk⟩
theorem own_rm1 {x : Int32} : own_rm x ((0 : Int32) + (1 : Int32)) = (0 : Int32) := by
  rw [show (0 : Int32) + (1 : Int32) = 1 from rfl]
  have h := own_rmI x (k := 1) (by decide)
  have o : (1 : Int32).toInt = 1 := rfl
  apply Int32.toInt_inj.mp
  show _ = (0 : Int)
  omega
theorem own_rmr (x : Int32) {k : Nat} (hk : k ≤ 4) (h : 1 ≤ k) : ¬ (own_rm x (Int32.ofNat k + (1 : Int32)) < (0 : Int32)) ∧ ¬ (Int32.ofNat k < own_rm x (Int32.ofNat k + (1 : Int32))) ∧ (own_rm x (Int32.ofNat k + (1 : Int32))).toNatClampNeg ≤ 8 := by
  have g : ∀ n : Nat, n ≤ 4 → Int32.ofNat n + (1 : Int32) = Int32.ofNat (n + 1) := by decide +kernel
  rw [g k hk]
  have e : ∀ n : Nat, n ≤ 5 → (Int32.ofNat n).toInt = n := by decide +kernel
  have q := own_rmI x (k := Int32.ofNat (k + 1)) (by rw [e _ (by omega)]; omega)
  rw [e _ (by omega)] at q
  refine ⟨?_, ?_, ?_⟩
  · rw [Int32.lt_iff_toInt_lt, show (0 : Int32).toInt = 0 from rfl]; omega
  · rw [Int32.lt_iff_toInt_lt, e _ (by omega)]; omega
  · show (own_rm x (Int32.ofNat (k + 1))).toInt.toNat ≤ 8
    omega
theorem own_u0 : own_u16 [] := fun _ q => by cases q
theorem own_u1 {c : Int32} {cs : List Int32} (h0 : ¬ (c < (0 : Int32))) (h1 : ¬ ((65535 : Int32) < c)) (h : own_u16 cs) : own_u16 (c :: cs) := fun d hd => by
  rcases List.mem_cons.mp hd with rfl | q
  · exact ⟨h0, h1⟩
  · exact h d q
theorem own_tkl {cs : List Int32} {n m : Int32} (hl : cs.length = n.toNatClampNeg) (h0 : ¬ (m < (0 : Int32))) (h1 : ¬ (n < m)) : (cs.take m.toNatClampNeg).length = m.toNatClampNeg := by
  rw [List.length_take]
  have := own_jle h1
  omega
def own_n5 (x : Int32) : Int32 := ((x &&& (2147483647 : Int32)) % (5 : Int32))
theorem own_mod5 (x : Int32) : own_n5 x = 0 ∨ own_n5 x = 1 ∨ own_n5 x = 2 ∨ own_n5 x = 3 ∨ own_n5 x = 4 := by
  have h := own_rmI x (k := 5) (by decide)
  have o : (5 : Int32).toInt = 5 := rfl
  rw [o] at h
  have e : (own_rm x 5).toInt = 0 ∨ (own_rm x 5).toInt = 1 ∨ (own_rm x 5).toInt = 2 ∨ (own_rm x 5).toInt = 3 ∨ (own_rm x 5).toInt = 4 := by omega
  rcases e with e | e | e | e | e
  · exact Or.inl (Int32.toInt_inj.mp e)
  · exact Or.inr (Or.inl (Int32.toInt_inj.mp e))
  · exact Or.inr (Or.inr (Or.inl (Int32.toInt_inj.mp e)))
  · exact Or.inr (Or.inr (Or.inr (Or.inl (Int32.toInt_inj.mp e))))
  · exact Or.inr (Or.inr (Or.inr (Or.inr (Int32.toInt_inj.mp e))))
theorem own_n5z (x : Int32) : ¬ ((own_n5 x + (1 : Int32)) = (0 : Int32)) := by
  rcases own_mod5 x with e | e | e | e | e <;> rw [e] <;> decide
section
open Jvm.Free.SB Jvm.Free.SBG
-- a String constant by ldc_w (the empty text), in a walk that keeps the invariant CHv: the library's laws take ldc alone
theorem own_slread {Z : State} {vm : Vm} {h : Heap} (hal : Z.vm.Alike vm) {q : SQ} (F : SlB (Wst Z vm h) q #[]) :
    Exa Z h q.sa "java/lang/String" ∧ Fld Z h q.sa "java/lang/String" "coder" "B" (.int 0) ∧ Fld Z h q.sa "java/lang/String" "value" "[B" (.ref q.sd) ∧ Arv Z h q.sd q.SA.cls .byte 0 [] (.int 0) := by
  obtain ⟨cS, ⟨hL, hfound, hcls⟩, ⟨kS, hkS, -, hsize⟩, -, hbytes⟩ := F
  obtain ⟨atS, knownS, objS, ⟨cv, kv, iv, ffV, asV⟩, ⟨cc, kc, ic, ffC, asC⟩, instV, instC, slotV, slotC, atB, arrB, knownB, -⟩ := hL
  have fc : ∀ x, vm.findClass x = Z.vm.findClass x := fun x => hal.findClass ..
  obtain ⟨kV, gV⟩ := ff_back (U := Wst Z vm h) hal ffV
  obtain ⟨kC, gC⟩ := ff_back (U := Wst Z vm h) hal ffC
  have fZ : Z.vm.findClass "java/lang/String" = some q.sC.cls := by rw [← fc, hcls]; exact hfound
  refine ⟨?_, ⟨q.sC, cc, kC, ic, q.fSC, atS, gC, instC, knownS, objS, ?_, slotC⟩, ⟨q.sC, cv, kV, iv, q.fSV, atS, gV, instV, knownS, objS, ?_, slotV⟩, ?_⟩
  · obtain ⟨kz, hkz, -⟩ := Vm.findClass_spec fZ
    obtain ⟨kw, hkw, ekw⟩ := hal.2.2 _ _ hkz
    refine ⟨q.sC, kz, atS, fZ, hkz, objS, fun _ => ?_⟩
    have e : kS = kw := by
      rw [hcls] at hkw
      exact Option.some.inj (hkS.symm.trans hkw)
    rw [hsize, e, ekw]
  · rw [← hal.assignable]; exact asC
  · rw [← hal.assignable]; exact asV
  · have sz : q.SA.slots.size = 0 := by rw [hbytes]; simp [stringBytes]
    obtain ⟨noSt, kA, hkA, comp, kind⟩ := arrB
    have bwd : ∃ kb, Z.vm.classes[q.SA.cls]? = some kb ∧ kb.kind = kA.kind := by
      have g := hal.class_map (fun k => k.kind) (fun _ _ _ _ => rfl) q.SA.cls
      rw [show vm.classes[q.SA.cls]? = some kA from hkA] at g
      cases hz : Z.vm.classes[q.SA.cls]? with
      | none => rw [hz] at g; cases g
      | some kb => rw [hz] at g; exact ⟨kb, rfl, (Option.some.inj g).symm⟩
    obtain ⟨kb, hkb, ek⟩ := bwd
    exact ⟨q.SA, ⟨atB, ⟨noSt, kb, hkb, comp, by rw [ek]; exact kind⟩, knownB⟩, rfl, by rw [sz]; rfl, by decide, fun i hi => by omega, fun i hi => by omega⟩
variable {p : Program} {l : Launch} {e : Env} {R : Room} {s : State} {m : MethodId} {args : Array Value} {below : List Frame} {meth : Method} {c : ClassFile.Code} {T : State} {locs : List Loc} {cells slots : Nat} {Z : State} {a0 : Array Value} {EL : List (String × Nat)} {h : Heap} {vm0 : Vm} {own : String} {index : Nat}
theorem own_ldcW (X : Stand p l e R (s.setVm vm0) m args below meth c T locs cells slots) (hx : p.tables.exec = Jvm.exec) (hZ : Z.Warmed39 vm0) (hown : vm0.findClass own = some m.cls) (w : (Jvm.Cond.stringLink own index "").before a0 Z = true) (wS : ∀ a ∈ Bundle.stringAtoms, a.before a0 Z = true)
    (eT : T.heap = h) {k0 : Nat} (hS : s.Since vm0 k0) (hk : k0 ≤ h.size) (hEL : EW Z a0 EL) (hmem : (own, index) ∈ EL) (H : CHv Z EL vm0 h)
    {vs : List Value} {z : Int32} (ht : (0 = 0) ∧ [] = vs) (hz : ¬ z < 0) (hl : z.toNatClampNeg = vs.length)
    {g : JFrame} (hg : g.method = m) (hd : decode c.code g.pc = .ok (.ldc_w index, 3)) {n : Nat} (hn : 0 ≤ n) (hbig : n ≤ 536870912) (hc : cells + 2 ≤ R.cells) (hl' : slots + (n + 4) ≤ R.slots) :
    ∃ (a : Addr) (T' : State) (h' : Heap) (k1 : Nat) (b : Addr) (k : ClassId), Stand p l e R (s.setVm T'.vm) m args below meth c T' locs (cells + 2) (slots + (n + 4)) ∧ T'.heap = h' ∧ Ext h h' ∧ s.Since T'.vm k1 ∧ k1 ≤ h'.size ∧ Z.Warmed39 (s.setVm T'.vm).vm ∧ (s.setVm T'.vm).vm.findClass own = some m.cls ∧
      Exa Z h' a "java/lang/String" ∧ Fld Z h' a "java/lang/String" "coder" "B" (.int 0) ∧ Fld Z h' a "java/lang/String" "value" "[B" (.ref b) ∧ Arv Z h' b k .byte z vs (.int 0) ∧ a < h'.size ∧ b < h'.size ∧ CHr Z EL vm0 h T'.vm h' ∧ True ∧ (∀ x, Safe Z EL T'.vm h' x → x ≠ a ∧ x ≠ b) ∧
      ∀ target, Steps p.tables e below (T'.setTop { g with pc := g.pc + 3, stack := .ref a :: g.stack }) target → Steps p.tables e below (T.setTop g) target := by
  obtain ⟨-, rfl⟩ := ht
  have z0 : z = 0 := by
    rw [Int32.lt_iff_toInt_lt] at hz
    have q : z.toInt.toNat = 0 := hl
    have o : (0 : Int32).toInt = 0 := rfl
    exact Int32.toInt_inj.mp (by omega)
  subst z0 eT hg
  have hZT : Z.Warmed39 T.vm := wtrans (s := s.setVm vm0) hZ X.warmed
  have HT : CHr Z EL vm0 T.heap T.vm T.heap := CHv.at X hZ hEL H
  have hfT : T.vm.findClass own = some g.method.cls := by rw [X.warmed.alike.findClass]; exact hown
  have w2 : (Jvm.Cond.stringLink own index "").before a0 (Wst Z T.vm T.heap) = true := mvS (s := { Z with heap := T.heap }) hZT w
  obtain ⟨k, cf, i, units, hkT, hcf, hcp, hu, hnm, htext, hres⟩ := Cond.stringLink_spec (s := Wst Z T.vm T.heap) hfT w2
  have hnil : units = #[] := Array.toList_inj.mp (by rw [Jvm.ClassFile.units_of_text htext (by decide)]; rfl)
  subst hnil
  have hkT : T.vm.classes[g.method.cls]? = some k := hkT
  have key : ∃ a T', Stand p l e R (s.setVm T'.vm) g.method args below meth c T' locs (cells + 2) (slots + (n + 4)) ∧ (s.setVm vm0).Since T'.vm T'.heap.size ∧ (∃ kk, T'.vm.classes[g.method.cls]? = some kk ∧ kk.cf = some cf ∧ kk.resolved[index]? = some (some (.string a))) ∧ Ext T.heap T'.heap ∧ CHr Z EL T.vm T.heap T'.vm T'.heap ∧
      ∀ target, Steps p.tables e below (T'.setTop { g with pc := g.pc + 3, stack := .ref a :: g.stack }) target → Steps p.tables e below (T.setTop g) target := by
    rcases hres with hopen | ⟨a, hra⟩
    · have p1 : k.cf.bind (namesOf? ·.constantPool index) = some (.string "") := by rw [hcf]; exact hnm
      have p2 : k.cf.bind (·.constantPool[index]?) = some (.string i) := by rw [hcf]; exact hcp
      have p3 : k.cf.bind (·.constantPool.utf8? i) = some #[] := by rw [hcf]; simp [ConstantPool.utf8?, hu]
      have later : ∀ {vm1 : Vm} {h' : Heap}, T.Warmed39 vm1 → Ext T.heap h' → (vm1.interned = T.vm.interned ∨ ∃ (us : Array UInt16) (b : Addr), vm1.interned = T.vm.interned.push (us, b) ∧ T.vm.interned.find? (fun p => p.1 == us) = none ∧ (us.all (· < 256) = true → ∃ q : SQ, q.sa = b ∧ SlB (Wst Z vm1 h') q us ∧ T.heap.size ≤ q.sa ∧ T.heap.size ≤ q.sd)) → CHr Z EL T.vm T.heap vm1 h' := fun hw E hi => by
        have r := CHv.later hZT (show (Wst Z T.vm T.heap).Warmed39 _ from hw) hEL E hi HT.1
        exact ⟨r.1, E.1, r.2⟩
      cases hf : T.vm.interned.find? (fun p => p.1 == #[]) with
      | some pr =>
        obtain ⟨u', a⟩ := pr
        have eu : u' = #[] := by simpa using Array.find?_some hf
        subst eu
        have hW : T.Warmed39 (T.vm.noted g.method.cls index (.string a)) := (State.Warmed39.refl T).notedString hkT (Or.inl hopen) p1 p2 p3 hf
        have hWs : (s.setVm vm0).Warmed39 (T.vm.noted g.method.cls index (.string a)) := State.Warmed39.trans (t := T) X.warmed.wide hW
        refine ⟨a, T.setVm (T.vm.noted g.method.cls index (.string a)), (X.mono (by omega) (by omega)).retabled hWs, ⟨hWs, ?_⟩, ⟨_, Vm.classes_note_self index (.string a) hkT, hcf, Class.resolved_note_self (.string a) hopen⟩, ⟨Nat.le_refl _, fun _ _ q => q⟩, later hW ⟨Nat.le_refl _, fun _ _ q => q⟩ (Or.inl rfl), fun target hrest => ?_⟩
        · exact fun j pr hj hp => absurd hp (by show ¬ T.vm.interned[j]? = some pr; rw [X.warmed.interned_eq, Array.getElem?_eq_none hj]; exact fun q => by cases q)
        · jvm_step X.here [hx, hd, ldc_w.wp_string_found (e := e) (s := T) (f := g) X.here.top hkT hcf hcp hu hopen hf]
          exact hrest
      | none =>
        obtain ⟨Ls, LZ, hn4, fitV, fitC⟩ := StringT.of_atoms (args := a0) (s := Z) wS
        obtain ⟨kS, kB, LT, hty⟩ := LZ.warmer hZT.alike
        have fitT : T.fitsSlot = Z.fitsSlot := (show T.fitsSlot = (Z.setVm T.vm).fitsSlot from rfl).trans (State.fitsSlot_setVm hZT.alike)
        have nob : (stringBytes (#[] : Array UInt16)).size = 0 := by simp [stringBytes]
        let vm1 : Vm := ({ T.vm with interned := T.vm.interned.push (#[], T.heap.size + 1) } : Vm).noted g.method.cls index (.string (T.heap.size + 1))
        have found : (T.vm.interned.push ((#[] : Array UInt16), T.heap.size + 1)).find? (fun p => p.1 == #[]) = some (#[], T.heap.size + 1) := by
          rw [Array.find?_push, hf]; simp
        have hW : T.Warmed39 vm1 := ((State.Warmed39.refl T).interns #[] (T.heap.size + 1)).notedString hkT (Or.inl hopen) p1 p2 p3 found
        have hWs : (s.setVm vm0).Warmed39 vm1 := State.Warmed39.trans (t := T) X.warmed.wide hW
        have Y := (X.pushed (bytesOf Ls.cB #[])).pushed (stringAt Ls.cS kS Ls.fv Ls.fc #[] T.heap.size)
        rw [← withString_eq] at Y
        have hp : (withString T Ls.cB Ls.cS kS Ls.fv Ls.fc #[]).heap = (T.heap.push (bytesOf Ls.cB #[])).push (stringAt Ls.cS kS Ls.fv Ls.fc #[] T.heap.size) := by rw [withString_eq]; rfl
        have E : Ext T.heap (withString T Ls.cB Ls.cS kS Ls.fv Ls.fc #[]).heap := by
          rw [hp]
          refine ⟨by simp; omega, fun x cl q => ?_⟩
          have lx := (Array.getElem?_eq_some_iff.mp q).1
          rw [Array.getElem?_push_lt (by simp; omega), Array.getElem_push_lt lx, ← Array.getElem?_eq_getElem lx]; exact q
        have sB : (bytesOf Ls.cB #[]).slots.size = 0 := by rw [(Cell.writeAll_facts _ _).2.2]; simp [bytes0, nob]
        have sS : (stringAt Ls.cS kS Ls.fv Ls.fc #[] T.heap.size).slots.size = 4 := by simp [stringAt, string0, Cell.setSlot, hty, hn4]
        have at0 : (withString T Ls.cB Ls.cS kS Ls.fv Ls.fc #[]).heap[T.heap.size]? = some (bytesOf Ls.cB #[]) := by
          rw [hp, Array.getElem?_push, if_neg (by simp), Array.getElem?_push, if_pos rfl]
        have at1 : (withString T Ls.cB Ls.cS kS Ls.fv Ls.fc #[]).heap[T.heap.size + 1]? = some (stringAt Ls.cS kS Ls.fv Ls.fc #[] T.heap.size) := by
          rw [hp, Array.getElem?_push, if_pos (by simp)]
        have sl := made_sl (W := (withString T Ls.cB Ls.cS kS Ls.fv Ls.fc #[]).setVm vm1) wS LZ hn4 hty (State.Warmed39.trans (t := T) hZT hW).alike (n := T.heap.size) (units := #[]) at0 at1 (by simp) (by rw [nob]; decide) 0
        have hsz : (withString T Ls.cB Ls.cS kS Ls.fv Ls.fc #[]).heap.size = T.heap.size + 2 := by rw [hp]; simp
        refine ⟨T.heap.size + 1, (withString T Ls.cB Ls.cS kS Ls.fv Ls.fc #[]).setVm vm1, (Y.mono (by omega) (by rw [sB, sS]; omega)).retabled hWs, ⟨hWs, fun j pr hj hpr => ?_⟩, ⟨_, Vm.classes_note_self (vm := { T.vm with interned := T.vm.interned.push (#[], T.heap.size + 1) }) index (.string (T.heap.size + 1)) hkT, hcf, Class.resolved_note_self (.string (T.heap.size + 1)) hopen⟩, E, later hW E (Or.inr ⟨#[], T.heap.size + 1, rfl, hf, fun _ => ?_⟩), fun target hrest => ?_⟩
        · have hpr : (T.vm.interned.push ((#[] : Array UInt16), T.heap.size + 1))[j]? = some pr := hpr
          rw [Array.getElem?_push] at hpr
          have lo : (s.setVm vm0).heap.size ≤ T.heap.size := X.same.2.1
          split at hpr
          · cases hpr
            exact ⟨by show (s.setVm vm0).heap.size ≤ T.heap.size + 1; omega, by show T.heap.size + 1 < (withString T Ls.cB Ls.cS kS Ls.fv Ls.fc #[]).heap.size; omega⟩
          · rw [X.warmed.interned_eq, Array.getElem?_eq_none hj] at hpr; cases hpr
        · obtain ⟨q, cS, e1, e2, e3, e4, e5, e6⟩ := sl
          refine ⟨q, e1, ?_, ?_, ?_⟩
          · have F : SlB ((withString T Ls.cB Ls.cS kS Ls.fv Ls.fc #[]).setVm vm1) q #[] := ⟨cS, e2, e3, e4, e5⟩
            exact F.carry (V := Wst Z vm1 (withString T Ls.cB Ls.cS kS Ls.fv Ls.fc #[]).heap) (Vm.Alike.refl _) F.ha F.hd
          · rcases e6 with ⟨f1, -⟩ | f
            · exact absurd f1 (Nat.not_lt_zero _)
            · exact f.1
          · rcases e6 with ⟨f1, -⟩ | f
            · exact absurd f1 (Nat.not_lt_zero _)
            · exact f.2
        · have b0 : ¬ (stringBytes (#[] : Array UInt16)).size > e.platform.arrayLengthLimit := by rw [nob]; exact Nat.not_lt_zero _
          have b1 : ¬ (stringBytes (#[] : Array UInt16)).size * componentBytes .byte > e.platform.maxHeapBytes := by rw [nob, Nat.zero_mul]; exact Nat.not_lt_zero _
          have b2 : T.slotsUsed + (stringBytes (#[] : Array UInt16)).size + kS.instanceTypes.size ≤ e.platform.maxSlots := by
            have q := X.slotsAbove hl'
            rw [nob, hty, hn4]; omega
          have top' : ((withString T Ls.cB Ls.cS kS Ls.fv Ls.fc #[]).setVm vm1).topJava?.isSome := by simpa [withString] using X.here.top
          have top0 : (withString T Ls.cB Ls.cS kS Ls.fv Ls.fc #[]).topJava?.isSome := by simpa using top'
          jvm_step X.here [hx, hd]
          refine ldc_w.wp_string_new (e := e) (s := T) (f := g) X.here.top hkT hcf hcp hu hopen hf LT.found LT.cls LT.initialized LT.ordinary LT.foundB LT.clsB LT.kindB LT.value LT.coder b0 b1 (X.cellsAbove hc) b2 (stringBytes_fit LT.clsB LT.kindB #[]) LT.valueSlot LT.coderSlot (by rw [fitT]; exact fitV _) (by rw [fitT]; exact fitC _) fun d' acts' acts'' => ?_
          simp only [jvm, afterInstr, top0, top']
          simpa [State.modifyTopJava_setTop] using hrest
    · refine ⟨a, T, (X.mono (by omega) (by omega)).retabled X.warmed.wide, X.warmed.since _, ⟨k, hkT, hcf, hra⟩, ⟨Nat.le_refl _, fun _ _ q => q⟩, CHr.refl HT.1, fun target hrest => ?_⟩
      jvm_step X.here [hx, hd, ldc_w.wp_string (e := e) (s := T) (f := g) X.here.top hkT hcf hcp hra]
      exact hrest
  obtain ⟨a, T', X', hSi, ⟨kk, hkk, hkcf, hrr⟩, E, hC, st⟩ := key
  have hZ' : Z.Warmed39 T'.vm := State.Warmed39.trans (t := s.setVm vm0) hZ hSi.1
  have hf' : T'.vm.findClass own = some g.method.cls := by rw [hSi.1.alike.findClass]; exact hown
  have hB : Booksv T'.vm own index #[] a := ⟨g.method.cls, kk, cf, i, hf', hkk, hkcf, hcp, hu, Or.inl hrr⟩
  obtain ⟨q, rfl, F⟩ := SlB.of (hC.1 _ hmem #[] a hB)
  obtain ⟨r1, r2, r3, r4⟩ := own_slread hZ'.alike F
  exact ⟨q.sa, T', _, _, q.sd, q.SA.cls, X', rfl, E, hS.trans hSi (Nat.le_trans hk E.1), Nat.le_refl _, hZ', hf', r1, r2, r3, r4, r1.lt, r4.lt, HT.trans hC, trivial,
    fun x Sx => ⟨fun ex => Sx ⟨_, hmem, #[], q.sa, hB, q, rfl, F, Or.inl ex⟩, fun ex => Sx ⟨_, hmem, #[], q.sa, hB, q, rfl, F, Or.inr ex⟩⟩, st⟩
end
def own_G (l : Launch) (Z : State) (a0 : Array Value) (G1 : Int32) (G3 : Value) : Prop := (Sta Z Z.heap "java/lang/String" "COMPACT_STRINGS" "Z" (.int G1)) ∧ (¬ (G1 = (0 : Int32))) ∧ (Sta Z Z.heap "jdk/internal/util/Preconditions" "SIOOBE_FORMATTER" "Ljava/util/function/BiFunction;" G3) ∧ (G3.isRef = true) ∧ (Sta Z Z.heap "java/lang/StringUTF16" "$assertionsDisabled" "Z" (.int (1 : Int32))) ∧ (Sta Z Z.heap "java/lang/StringUTF16" "HI_BYTE_SHIFT" "I" (.int (0 : Int32))) ∧ (Sta Z Z.heap "java/lang/StringUTF16" "LO_BYTE_SHIFT" "I" (.int (8 : Int32)))
abbrev M0 : MethodName := ⟨"java/lang/StringUTF16", "compress", "([CI[BII)I"⟩
theorem ef_1 (m : MethodId) (x0 : Addr) (x1 : Int32) (x2 : Addr) (x3 : Int32) (x4 : Int32) : entryFrame m #[(.ref x0), (.int x1), (.ref x2), (.int x3), (.int x4)] 7 = mkF m 0 #[.val (.ref x0), .val (.int x1), .val (.ref x2), .val (.int x3), .val (.int x4), .unset, .unset] [] := by first | (simp [entryFrame, mkF, argsToLocals, Value.category]; done) | rfl
theorem pn_2 : plainName "java/lang/StringUTF16" = true := by first | (simp [plainName, overriddenIn]; done) | decide +kernel
theorem d0_0 : decode jdk_52_method_21_code 0 = .ok (.iconst 0, 1) := by decide +kernel
theorem d0_1 : decode jdk_52_method_21_code 1 = .ok (.istore 5, 2) := by decide +kernel
theorem d0_3 : decode jdk_52_method_21_code 3 = .ok (.iload 5, 2) := by decide +kernel
theorem d0_5 : decode jdk_52_method_21_code 5 = .ok (.iload 4, 2) := by decide +kernel
theorem d0_7 : decode jdk_52_method_21_code 7 = .ok (.if_icmp .ge 37, 3) := by decide +kernel
theorem d0_10 : decode jdk_52_method_21_code 10 = .ok (.aload_n 0, 1) := by decide +kernel
theorem d0_11 : decode jdk_52_method_21_code 11 = .ok (.iload_n 1, 1) := by decide +kernel
theorem d0_12 : decode jdk_52_method_21_code 12 = .ok (.caload, 1) := by decide +kernel
theorem d0_13 : decode jdk_52_method_21_code 13 = .ok (.istore 6, 2) := by decide +kernel
theorem d0_15 : decode jdk_52_method_21_code 15 = .ok (.iload 6, 2) := by decide +kernel
theorem d0_17 : decode jdk_52_method_21_code 17 = .ok (.sipush 255, 3) := by decide +kernel
theorem d0_20 : decode jdk_52_method_21_code 20 = .ok (.if_icmp .le 6, 3) := by decide +kernel
theorem d0_23 : decode jdk_52_method_21_code 23 = .ok (.iload 5, 2) := by decide +kernel
theorem d0_25 : decode jdk_52_method_21_code 25 = .ok (.ireturn, 1) := by decide +kernel
theorem d0_26 : decode jdk_52_method_21_code 26 = .ok (.aload_n 2, 1) := by decide +kernel
theorem d0_27 : decode jdk_52_method_21_code 27 = .ok (.iload_n 3, 1) := by decide +kernel
theorem d0_28 : decode jdk_52_method_21_code 28 = .ok (.iload 6, 2) := by decide +kernel
theorem d0_30 : decode jdk_52_method_21_code 30 = .ok (.i2b, 1) := by decide +kernel
theorem d0_31 : decode jdk_52_method_21_code 31 = .ok (.bastore, 1) := by decide +kernel
theorem d0_32 : decode jdk_52_method_21_code 32 = .ok (.iinc 1 1, 3) := by decide +kernel
theorem d0_35 : decode jdk_52_method_21_code 35 = .ok (.iinc 3 1, 3) := by decide +kernel
theorem d0_38 : decode jdk_52_method_21_code 38 = .ok (.iinc 5 1, 3) := by decide +kernel
theorem d0_41 : decode jdk_52_method_21_code 41 = .ok (.goto (-38), 3) := by decide +kernel
theorem d0_44 : decode jdk_52_method_21_code 44 = .ok (.iload 4, 2) := by decide +kernel
theorem d0_46 : decode jdk_52_method_21_code 46 = .ok (.ireturn, 1) := by decide +kernel
abbrev R_cmp5g : Room := { frames := 0, cells := 0, slots := 0, locals := 0 }
def Q_cmp5g (Z : State) (G1 : Int32) (G3 : Value) (b : Addr) (k : ClassId) (t : Addr) (kt : ClassId) (nn : Int32) (cs : List Int32) (ys : List Int32) (h0 : Heap) (n0 : Nat) (v : Option Value) (h : Heap) (L : List Loc) : Prop := (v = some (.int nn) ∧ Fr n0 L ∧ Keep h0 h [t] ∧ (Arv Z h t kt .byte nn (own_iv (own_bs cs)) (.int (0 : Int32))) ∧ (own_lat cs)) ∨ (∃ kk : Int32, v = some (.int kk) ∧ Fr n0 L ∧ Keep h0 h [t] ∧ (¬ (kk < (0 : Int32))) ∧ (kk < nn) ∧ ((255 : Int32) < (own_gt cs kk)) ∧ (¬ (kk = nn)))
set_option maxRecDepth 65536 in
set_option maxHeartbeats 40000000 in
theorem rm_cmp5g (l : Launch) (Z : State) (a0 : Array Value) (hw : ∀ d ∈ tables_1, d.before a0 Z = true) (ws : List Jvm.Cond) (G1 : Int32) (G3 : Value) (HG : own_G l Z a0 G1 G3) (h0 : Heap) (n0 : Nat) (X00 : Old Z n0 h0) (b : Addr) (k : ClassId) (t : Addr) (kt : ClassId) (nn : Int32) (cs : List Int32) (ys : List Int32) (hp0 : Arv Z h0 b k .char nn (own_iv cs) (.int (0 : Int32))) (hp1 : Arv Z h0 t kt .byte nn (own_iv ys) (.int (0 : Int32))) (hp2 : n0 ≤ t) (hp3 : b ≠ t) (hn0 : ¬ (nn < (0 : Int32))) (hl1 : cs.length = nn.toNatClampNeg) (hl2 : ys.length = nn.toNatClampNeg) (hu : own_u16 cs) :
    own_CP l Z M0 jdk_52_method_21_code 7 (some .int) ws R_cmp5g #[(.ref b), (.int (0 : Int32)), (.ref t), (.int (0 : Int32)), (.int nn)] h0 (Q_cmp5g Z G1 G3 b k t kt nn cs ys h0 n0) := by
  refine own_P (plainFor_of_name pn_2) ?_
  intro p e s m below meth c s₁ S0 Bd hZ hh hx hby hml hown hnm X0 e0 hS0d
  obtain ⟨O1, P1, O3f, rG3, OAD, OHI, OLO⟩ := id HG
  have N0 := Fr.nil n0
  have C0 : Steps p.tables e below S0 (s₁.setTop (mkF m 0 #[.val (.ref b), .val (.int (0 : Int32)), .val (.ref t), .val (.int (0 : Int32)), .val (.int nn), .unset, .unset] [])) := by rw [hS0d]; exact castTop (ef_1 m b (0 : Int32) t (0 : Int32) nn) (Steps.refl _)
  have C_1 : Steps p.tables e below S0 (s₁.setTop (mkF m 3 #[.val (.ref b), .val (.int (0 : Int32)), .val (.ref t), .val (.int (0 : Int32)), .val (.int nn), .val (.int (0 : Int32)), .unset] [])) := by
    refine C0.trans ?_
    refine XS.iconst X0.here hx rfl (hb hby d0_0) ?_
    refine XS.istore X0.here hx rfl (hb hby d0_1) rfl (l' := #[.val (.ref b), .val (.int (0 : Int32)), .val (.ref t), .val (.int (0 : Int32)), .val (.int nn), .val (.int (0 : Int32)), .unset]) rfl ?_
    exact Steps.refl _
  obtain ⟨j_2, z6_3, T_4, L_5, h_10, I_6⟩ : ∃ (j_2 : Int32) (z6_3 : Slot) (T_4 : State) (L_5 : List Loc) (h_10 : Heap), Stand p l e R_cmp5g s m #[(.ref b), (.int (0 : Int32)), (.ref t), (.int (0 : Int32)), (.int nn)] below meth c T_4 L_5 0 0 ∧ T_4.heap = h_10 ∧ Fr n0 L_5 ∧ Keep h0 h_10 [t] ∧ (¬ (j_2 < (0 : Int32))) ∧ (¬ (nn < j_2)) ∧ (own_latn cs j_2.toNatClampNeg) ∧ (Arv Z h_10 t kt .byte nn (own_iv (own_mix cs ys j_2)) (.int (0 : Int32))) ∧ (z6_3 = .unset ∨ ∃ v : Int32, z6_3 = .val (.int v)) ∧ Steps p.tables e below S0 (T_4.setTop (mkF m 3 #[.val (.ref b), .val (.int j_2), .val (.ref t), .val (.int j_2), .val (.int nn), .val (.int j_2), z6_3] [])) := ⟨(0 : Int32), .unset, s₁, _, _, X0, e0, N0, (Keep.refl _ _), (by decide), hn0, (own_latn0 _), (by rw [own_mix0]; exact hp1), Or.inl rfl, C_1⟩
  obtain ⟨d_7, hd_8⟩ : ∃ d : Nat, d = (nn.toNatClampNeg - j_2.toNatClampNeg) := ⟨_, rfl⟩
  induction d_7 using Nat.strongRecOn generalizing j_2 z6_3 T_4 L_5 h_10 with
  | _ d_7 ih_9 =>
    obtain ⟨X_11, e_12, N_13, K_14, g_16, g_17, g_18, g_19, hz_20, C_15⟩ := I_6
    rcases hz_20 with rfl | ⟨v_21, rfl⟩
    · skip
      have C_22 : Steps p.tables e below S0 (T_4.setTop (mkF m 7 #[.val (.ref b), .val (.int j_2), .val (.ref t), .val (.int j_2), .val (.int nn), .val (.int j_2), .unset] [(.int nn), (.int j_2)])) := by
        refine C_15.trans ?_
        refine XS.iload X_11.here hx rfl (hb hby d0_3) rfl ?_
        refine XS.iload X_11.here hx rfl (hb hby d0_5) rfl ?_
        exact Steps.refl _
      by_cases hc_23 : j_2 < nn
      · skip
        have V_24 : Arv Z h_10 b k .char nn (own_iv cs) (.int (0 : Int32)) := (hp0.keep K_14 (ninS hp3 nin0))
        obtain ⟨c_25, A_26, q_27, S_28, M_29, H_30, U_31⟩ := id V_24
        have hin_32 : ¬ (j_2 < 0 ∨ c_25.slots.size ≤ j_2.toNatClampNeg) := inb_of S_28 ⟨g_16, hc_23⟩
        have hat_33 : c_25.slots[j_2.toNatClampNeg]? = some (.int (own_gt cs j_2)) := Has.at H_30 hin_32 (own_iv_at cs j_2)
        have C_34 : Steps p.tables e below S0 (T_4.setTop (mkF m 20 #[.val (.ref b), .val (.int j_2), .val (.ref t), .val (.int j_2), .val (.int nn), .val (.int j_2), .val (.int (own_gt cs j_2))] [(.int (255 : Int32)), (.int (own_gt cs j_2))])) := by
          refine C_22.trans ?_
          refine XS.icmpNo X_11.here hx rfl (hb hby d0_7) rfl (ii_ge_f hc_23) ?_
          refine XS.aloadN X_11.here hx rfl (hb hby d0_10) rfl rfl ?_
          refine XS.iloadN X_11.here hx rfl (hb hby d0_11) rfl ?_
          refine X_11.caload hx (j := j_2) (v := (.int (own_gt cs j_2))) (by rw [e_12]; exact A_26.1) (State.isArrayOf_alike hZ.alike A_26.2.1) A_26.2.2 hin_32 hat_33 (g := (mkF m 12 #[.val (.ref b), .val (.int j_2), .val (.ref t), .val (.int j_2), .val (.int nn), .val (.int j_2), .unset] [(.int j_2), (.ref b)])) rfl rfl (hb hby d0_12) _ ?_
          refine XS.istore X_11.here hx rfl (hb hby d0_13) rfl (l' := #[.val (.ref b), .val (.int j_2), .val (.ref t), .val (.int j_2), .val (.int nn), .val (.int j_2), .val (.int (own_gt cs j_2))]) rfl ?_
          refine XS.iload X_11.here hx rfl (hb hby d0_15) rfl ?_
          refine XS.sipush X_11.here hx rfl (hb hby d0_17) ?_
          exact Steps.refl _
        by_cases hc_35 : (255 : Int32) < (own_gt cs j_2)
        · skip
          have C_36 : Steps p.tables e below S0 (T_4.setTop (mkF m 25 #[.val (.ref b), .val (.int j_2), .val (.ref t), .val (.int j_2), .val (.int nn), .val (.int j_2), .val (.int (own_gt cs j_2))] [(.int j_2)])) := by
            refine C_34.trans ?_
            refine XS.icmpNo X_11.here hx rfl (hb hby d0_20) rfl (ii_le_f hc_35) ?_
            refine XS.iload X_11.here hx rfl (hb hby d0_23) rfl ?_
            exact Steps.refl _
          have K_37 : Keep h0 h_10 [t] := ((Keep.refl _ _).trans K_14 (allS (Or.inl (List.mem_of_getElem? (i := 0) rfl)) all0))
          obtain ⟨fs, hr, hrun, hended, hW, hsame⟩ := X_11.leave (v := some (.int j_2)) (fun h => by rw [Bd.returns] at h; cases h)
          refine ⟨_, _, C_36.trans (retOut X_11 hx Bd.returns rfl (Or.inl ⟨rfl, Or.inl rfl, _, rfl⟩) (hb hby d0_25) hr), hrun, hended, _, _, rfl, ?_, ⟨_, rfl⟩, hW, hsame.mono (by decide) (by decide)⟩
          show Q_cmp5g Z G1 G3 b k t kt nn cs ys h0 n0 (some (.int j_2)) T_4.heap _
          rw [e_12]
          exact Or.inr (⟨j_2, rfl, N_13, K_37, g_16, hc_23, hc_35, (own_ltn' hc_23)⟩)
        · skip
          obtain ⟨c_38, A_39, q_40, S_41, M_42, H_43, U_44⟩ := id g_19
          have hin_51 : ¬ (j_2 < 0 ∨ c_38.slots.size ≤ j_2.toNatClampNeg) := inb_of S_41 ⟨g_16, hc_23⟩
          obtain ⟨T_45, h_46, X_47, e_48, W_49, st_50⟩ := stB X_11 hx hZ e_12 A_39 (j := j_2) hin_51 (g := (mkF m 31 #[.val (.ref b), .val (.int j_2), .val (.ref t), .val (.int j_2), .val (.int nn), .val (.int j_2), .val (.int (own_gt cs j_2))] [(.int ((own_gt cs j_2).toInt8.toInt32)), (.int j_2), (.ref t)])) rfl rfl (hb hby d0_31)
          have N_52 := Fr.snoc X_47 N_13 hp2
          have V_53 : Arv Z h_46 t kt .byte nn (own_iv ((own_mix cs ys j_2).set j_2.toNatClampNeg (own_lo8 (own_gt cs j_2)))) (.int (0 : Int32)) := own_iv_set (Arv.set A_39 q_40 S_41 M_42 H_43 U_44 (fits_nar_byte _) W_49 j_2.toNatClampNeg rfl (own_ix (own_mixlen hl1 hl2 (own_jle g_17)) g_16 hc_23))
          rw [own_mixset hl1 hl2 g_16 hc_23] at V_53
          have C_54 : Steps p.tables e below S0 (T_45.setTop (mkF m 3 #[.val (.ref b), .val (.int (j_2 + (1 : Int32))), .val (.ref t), .val (.int (j_2 + (1 : Int32))), .val (.int nn), .val (.int (j_2 + (1 : Int32))), .val (.int (own_gt cs j_2))] [])) := by
            refine C_34.trans ?_
            refine XS.icmpYes X_11.here hx rfl (pc0 := 20) (pc' := 26) rfl (hb hby d0_20) rfl (ii_le_t hc_35) (by decide) (by decide) ?_
            refine XS.aloadN X_11.here hx rfl (hb hby d0_26) rfl rfl ?_
            refine XS.iloadN X_11.here hx rfl (hb hby d0_27) rfl ?_
            refine XS.iload X_11.here hx rfl (hb hby d0_28) rfl ?_
            refine XS.i2b X_11.here hx rfl (hb hby d0_30) rfl ?_
            refine st_50 _ ?_
            refine XS.iinc X_47.here hx rfl (hb hby d0_32) (x := j_2) rfl (l' := #[.val (.ref b), .val (.int (j_2 + (1 : Int32))), .val (.ref t), .val (.int j_2), .val (.int nn), .val (.int j_2), .val (.int (own_gt cs j_2))]) rfl ?_
            refine XS.iinc X_47.here hx rfl (hb hby d0_35) (x := j_2) rfl (l' := #[.val (.ref b), .val (.int (j_2 + (1 : Int32))), .val (.ref t), .val (.int (j_2 + (1 : Int32))), .val (.int nn), .val (.int j_2), .val (.int (own_gt cs j_2))]) rfl ?_
            show Steps p.tables e below (T_45.setTop (mkF m 38 #[.val (.ref b), .val (.int (j_2 + (1 : Int32))), .val (.ref t), .val (.int (j_2 + (1 : Int32))), .val (.int nn), .val (.int j_2), .val (.int (own_gt cs j_2))] [])) _
            refine XS.iinc X_47.here hx rfl (hb hby d0_38) (x := j_2) rfl (l' := #[.val (.ref b), .val (.int (j_2 + (1 : Int32))), .val (.ref t), .val (.int (j_2 + (1 : Int32))), .val (.int nn), .val (.int (j_2 + (1 : Int32))), .val (.int (own_gt cs j_2))]) rfl ?_
            refine XS.goto X_47.here hx rfl (pc0 := 41) (pc' := 3) rfl (hb hby d0_41) (by decide) (by decide) ?_
            exact Steps.refl _
          exact ih_9 _ (by rw [hd_8]; exact (own_dec g_16 hc_23)) (j_2 + (1 : Int32)) (.val (.int (own_gt cs j_2))) _ _ _ ⟨X_47, e_48, N_52, (((Keep.refl _ _).trans K_14 (allS (Or.inl (List.mem_of_getElem? (i := 0) rfl)) all0)).wr W_49 (Or.inl (List.mem_of_getElem? (i := 0) rfl))), (own_nat g_16 hc_23).2.2.1, (own_nat g_16 hc_23).2.2.2, (own_latnS g_18 (own_nat g_16 hc_23).2.1 hc_35), V_53, Or.inr ⟨_, rfl⟩, C_54⟩ rfl
      · skip
        have C_55 : Steps p.tables e below S0 (T_4.setTop (mkF m 46 #[.val (.ref b), .val (.int j_2), .val (.ref t), .val (.int j_2), .val (.int nn), .val (.int j_2), .unset] [(.int nn)])) := by
          refine C_22.trans ?_
          refine XS.icmpYes X_11.here hx rfl (pc0 := 7) (pc' := 44) rfl (hb hby d0_7) rfl (ii_ge_t hc_23) (by decide) (by decide) ?_
          refine XS.iload X_11.here hx rfl (hb hby d0_44) rfl ?_
          exact Steps.refl _
        have K_56 : Keep h0 h_10 [t] := ((Keep.refl _ _).trans K_14 (allS (Or.inl (List.mem_of_getElem? (i := 0) rfl)) all0))
        obtain ⟨fs, hr, hrun, hended, hW, hsame⟩ := X_11.leave (v := some (.int nn)) (fun h => by rw [Bd.returns] at h; cases h)
        refine ⟨_, _, C_55.trans (retOut X_11 hx Bd.returns rfl (Or.inl ⟨rfl, Or.inl rfl, _, rfl⟩) (hb hby d0_46) hr), hrun, hended, _, _, rfl, ?_, ⟨_, rfl⟩, hW, hsame.mono (by decide) (by decide)⟩
        show Q_cmp5g Z G1 G3 b k t kt nn cs ys h0 n0 (some (.int nn)) T_4.heap _
        rw [e_12]
        exact Or.inl ⟨rfl, N_13, K_56, (own_mixend hl1 hl2 hc_23 g_17 ▸ g_19), (own_latnE g_18 (Nat.le_trans (Nat.le_of_eq hl1) (own_jge hc_23)) hu)⟩
    · skip
      have C_57 : Steps p.tables e below S0 (T_4.setTop (mkF m 7 #[.val (.ref b), .val (.int j_2), .val (.ref t), .val (.int j_2), .val (.int nn), .val (.int j_2), .val (.int v_21)] [(.int nn), (.int j_2)])) := by
        refine C_15.trans ?_
        refine XS.iload X_11.here hx rfl (hb hby d0_3) rfl ?_
        refine XS.iload X_11.here hx rfl (hb hby d0_5) rfl ?_
        exact Steps.refl _
      by_cases hc_58 : j_2 < nn
      · skip
        have V_59 : Arv Z h_10 b k .char nn (own_iv cs) (.int (0 : Int32)) := (hp0.keep K_14 (ninS hp3 nin0))
        obtain ⟨c_60, A_61, q_62, S_63, M_64, H_65, U_66⟩ := id V_59
        have hin_67 : ¬ (j_2 < 0 ∨ c_60.slots.size ≤ j_2.toNatClampNeg) := inb_of S_63 ⟨g_16, hc_58⟩
        have hat_68 : c_60.slots[j_2.toNatClampNeg]? = some (.int (own_gt cs j_2)) := Has.at H_65 hin_67 (own_iv_at cs j_2)
        have C_69 : Steps p.tables e below S0 (T_4.setTop (mkF m 20 #[.val (.ref b), .val (.int j_2), .val (.ref t), .val (.int j_2), .val (.int nn), .val (.int j_2), .val (.int (own_gt cs j_2))] [(.int (255 : Int32)), (.int (own_gt cs j_2))])) := by
          refine C_57.trans ?_
          refine XS.icmpNo X_11.here hx rfl (hb hby d0_7) rfl (ii_ge_f hc_58) ?_
          refine XS.aloadN X_11.here hx rfl (hb hby d0_10) rfl rfl ?_
          refine XS.iloadN X_11.here hx rfl (hb hby d0_11) rfl ?_
          refine X_11.caload hx (j := j_2) (v := (.int (own_gt cs j_2))) (by rw [e_12]; exact A_61.1) (State.isArrayOf_alike hZ.alike A_61.2.1) A_61.2.2 hin_67 hat_68 (g := (mkF m 12 #[.val (.ref b), .val (.int j_2), .val (.ref t), .val (.int j_2), .val (.int nn), .val (.int j_2), .val (.int v_21)] [(.int j_2), (.ref b)])) rfl rfl (hb hby d0_12) _ ?_
          refine XS.istore X_11.here hx rfl (hb hby d0_13) rfl (l' := #[.val (.ref b), .val (.int j_2), .val (.ref t), .val (.int j_2), .val (.int nn), .val (.int j_2), .val (.int (own_gt cs j_2))]) rfl ?_
          refine XS.iload X_11.here hx rfl (hb hby d0_15) rfl ?_
          refine XS.sipush X_11.here hx rfl (hb hby d0_17) ?_
          exact Steps.refl _
        by_cases hc_70 : (255 : Int32) < (own_gt cs j_2)
        · skip
          have C_71 : Steps p.tables e below S0 (T_4.setTop (mkF m 25 #[.val (.ref b), .val (.int j_2), .val (.ref t), .val (.int j_2), .val (.int nn), .val (.int j_2), .val (.int (own_gt cs j_2))] [(.int j_2)])) := by
            refine C_69.trans ?_
            refine XS.icmpNo X_11.here hx rfl (hb hby d0_20) rfl (ii_le_f hc_70) ?_
            refine XS.iload X_11.here hx rfl (hb hby d0_23) rfl ?_
            exact Steps.refl _
          have K_72 : Keep h0 h_10 [t] := ((Keep.refl _ _).trans K_14 (allS (Or.inl (List.mem_of_getElem? (i := 0) rfl)) all0))
          obtain ⟨fs, hr, hrun, hended, hW, hsame⟩ := X_11.leave (v := some (.int j_2)) (fun h => by rw [Bd.returns] at h; cases h)
          refine ⟨_, _, C_71.trans (retOut X_11 hx Bd.returns rfl (Or.inl ⟨rfl, Or.inl rfl, _, rfl⟩) (hb hby d0_25) hr), hrun, hended, _, _, rfl, ?_, ⟨_, rfl⟩, hW, hsame.mono (by decide) (by decide)⟩
          show Q_cmp5g Z G1 G3 b k t kt nn cs ys h0 n0 (some (.int j_2)) T_4.heap _
          rw [e_12]
          exact Or.inr (⟨j_2, rfl, N_13, K_72, g_16, hc_58, hc_70, (own_ltn' hc_58)⟩)
        · skip
          obtain ⟨c_73, A_74, q_75, S_76, M_77, H_78, U_79⟩ := id g_19
          have hin_86 : ¬ (j_2 < 0 ∨ c_73.slots.size ≤ j_2.toNatClampNeg) := inb_of S_76 ⟨g_16, hc_58⟩
          obtain ⟨T_80, h_81, X_82, e_83, W_84, st_85⟩ := stB X_11 hx hZ e_12 A_74 (j := j_2) hin_86 (g := (mkF m 31 #[.val (.ref b), .val (.int j_2), .val (.ref t), .val (.int j_2), .val (.int nn), .val (.int j_2), .val (.int (own_gt cs j_2))] [(.int ((own_gt cs j_2).toInt8.toInt32)), (.int j_2), (.ref t)])) rfl rfl (hb hby d0_31)
          have N_87 := Fr.snoc X_82 N_13 hp2
          have V_88 : Arv Z h_81 t kt .byte nn (own_iv ((own_mix cs ys j_2).set j_2.toNatClampNeg (own_lo8 (own_gt cs j_2)))) (.int (0 : Int32)) := own_iv_set (Arv.set A_74 q_75 S_76 M_77 H_78 U_79 (fits_nar_byte _) W_84 j_2.toNatClampNeg rfl (own_ix (own_mixlen hl1 hl2 (own_jle g_17)) g_16 hc_58))
          rw [own_mixset hl1 hl2 g_16 hc_58] at V_88
          have C_89 : Steps p.tables e below S0 (T_80.setTop (mkF m 3 #[.val (.ref b), .val (.int (j_2 + (1 : Int32))), .val (.ref t), .val (.int (j_2 + (1 : Int32))), .val (.int nn), .val (.int (j_2 + (1 : Int32))), .val (.int (own_gt cs j_2))] [])) := by
            refine C_69.trans ?_
            refine XS.icmpYes X_11.here hx rfl (pc0 := 20) (pc' := 26) rfl (hb hby d0_20) rfl (ii_le_t hc_70) (by decide) (by decide) ?_
            refine XS.aloadN X_11.here hx rfl (hb hby d0_26) rfl rfl ?_
            refine XS.iloadN X_11.here hx rfl (hb hby d0_27) rfl ?_
            refine XS.iload X_11.here hx rfl (hb hby d0_28) rfl ?_
            refine XS.i2b X_11.here hx rfl (hb hby d0_30) rfl ?_
            refine st_85 _ ?_
            refine XS.iinc X_82.here hx rfl (hb hby d0_32) (x := j_2) rfl (l' := #[.val (.ref b), .val (.int (j_2 + (1 : Int32))), .val (.ref t), .val (.int j_2), .val (.int nn), .val (.int j_2), .val (.int (own_gt cs j_2))]) rfl ?_
            refine XS.iinc X_82.here hx rfl (hb hby d0_35) (x := j_2) rfl (l' := #[.val (.ref b), .val (.int (j_2 + (1 : Int32))), .val (.ref t), .val (.int (j_2 + (1 : Int32))), .val (.int nn), .val (.int j_2), .val (.int (own_gt cs j_2))]) rfl ?_
            show Steps p.tables e below (T_80.setTop (mkF m 38 #[.val (.ref b), .val (.int (j_2 + (1 : Int32))), .val (.ref t), .val (.int (j_2 + (1 : Int32))), .val (.int nn), .val (.int j_2), .val (.int (own_gt cs j_2))] [])) _
            refine XS.iinc X_82.here hx rfl (hb hby d0_38) (x := j_2) rfl (l' := #[.val (.ref b), .val (.int (j_2 + (1 : Int32))), .val (.ref t), .val (.int (j_2 + (1 : Int32))), .val (.int nn), .val (.int (j_2 + (1 : Int32))), .val (.int (own_gt cs j_2))]) rfl ?_
            refine XS.goto X_82.here hx rfl (pc0 := 41) (pc' := 3) rfl (hb hby d0_41) (by decide) (by decide) ?_
            exact Steps.refl _
          exact ih_9 _ (by rw [hd_8]; exact (own_dec g_16 hc_58)) (j_2 + (1 : Int32)) (.val (.int (own_gt cs j_2))) _ _ _ ⟨X_82, e_83, N_87, (((Keep.refl _ _).trans K_14 (allS (Or.inl (List.mem_of_getElem? (i := 0) rfl)) all0)).wr W_84 (Or.inl (List.mem_of_getElem? (i := 0) rfl))), (own_nat g_16 hc_58).2.2.1, (own_nat g_16 hc_58).2.2.2, (own_latnS g_18 (own_nat g_16 hc_58).2.1 hc_70), V_88, Or.inr ⟨_, rfl⟩, C_89⟩ rfl
      · skip
        have C_90 : Steps p.tables e below S0 (T_4.setTop (mkF m 46 #[.val (.ref b), .val (.int j_2), .val (.ref t), .val (.int j_2), .val (.int nn), .val (.int j_2), .val (.int v_21)] [(.int nn)])) := by
          refine C_57.trans ?_
          refine XS.icmpYes X_11.here hx rfl (pc0 := 7) (pc' := 44) rfl (hb hby d0_7) rfl (ii_ge_t hc_58) (by decide) (by decide) ?_
          refine XS.iload X_11.here hx rfl (hb hby d0_44) rfl ?_
          exact Steps.refl _
        have K_91 : Keep h0 h_10 [t] := ((Keep.refl _ _).trans K_14 (allS (Or.inl (List.mem_of_getElem? (i := 0) rfl)) all0))
        obtain ⟨fs, hr, hrun, hended, hW, hsame⟩ := X_11.leave (v := some (.int nn)) (fun h => by rw [Bd.returns] at h; cases h)
        refine ⟨_, _, C_90.trans (retOut X_11 hx Bd.returns rfl (Or.inl ⟨rfl, Or.inl rfl, _, rfl⟩) (hb hby d0_46) hr), hrun, hended, _, _, rfl, ?_, ⟨_, rfl⟩, hW, hsame.mono (by decide) (by decide)⟩
        show Q_cmp5g Z G1 G3 b k t kt nn cs ys h0 n0 (some (.int nn)) T_4.heap _
        rw [e_12]
        exact Or.inl ⟨rfl, N_13, K_91, (own_mixend hl1 hl2 hc_58 g_17 ▸ g_19), (own_latnE g_18 (Nat.le_trans (Nat.le_of_eq hl1) (own_jge hc_58)) hu)⟩
abbrev M28 : MethodName := ⟨"java/lang/StringUTF16", "newBytesLength", "(I)I"⟩
theorem ef_29 (m : MethodId) (x0 : Int32) : entryFrame m #[(.int x0)] 1 = mkF m 0 #[.val (.int x0)] [] := by first | (simp [entryFrame, mkF, argsToLocals, Value.category]; done) | rfl
theorem d1_0 : decode jdk_52_method_3_code 0 = .ok (.iload_n 0, 1) := by decide +kernel
theorem d1_1 : decode jdk_52_method_3_code 1 = .ok (.ifCond .ge 11, 3) := by decide +kernel
theorem d1_12 : decode jdk_52_method_3_code 12 = .ok (.iload_n 0, 1) := by decide +kernel
theorem w134 {Z : State} {a0 : Array Value} (hw : ∀ d ∈ tables_1, d.before a0 Z = true) : Jvm.Cond.before (Jvm.Cond.constant "java/lang/StringUTF16" (20 : Nat) (1073741823 : Int32)) a0 Z = true := hw _ (List.mem_of_getElem? (i := 134) rfl)
theorem d1_13 : decode jdk_52_method_3_code 13 = .ok (.ldc 20, 2) := by decide +kernel
theorem d1_15 : decode jdk_52_method_3_code 15 = .ok (.if_icmp .lt 40, 3) := by decide +kernel
theorem d1_55 : decode jdk_52_method_3_code 55 = .ok (.iload_n 0, 1) := by decide +kernel
theorem d1_56 : decode jdk_52_method_3_code 56 = .ok (.iconst 1, 1) := by decide +kernel
theorem d1_57 : decode jdk_52_method_3_code 57 = .ok (.ishl, 1) := by decide +kernel
theorem d1_58 : decode jdk_52_method_3_code 58 = .ok (.ireturn, 1) := by decide +kernel
abbrev R_nbl : Room := { frames := 0, cells := 0, slots := 0, locals := 0 }
def Q_nbl (Z : State) (G1 : Int32) (G3 : Value) (nn : Int32) (h0 : Heap) (n0 : Nat) (v : Option Value) (h : Heap) (L : List Loc) : Prop := (v = some (.int (own_db nn)) ∧ Fr n0 L ∧ h = h0)
set_option maxRecDepth 65536 in
set_option maxHeartbeats 40000000 in
theorem rm_nbl (l : Launch) (Z : State) (a0 : Array Value) (hw : ∀ d ∈ tables_1, d.before a0 Z = true) (ws : List Jvm.Cond) (G1 : Int32) (G3 : Value) (HG : own_G l Z a0 G1 G3) (h0 : Heap) (n0 : Nat) (X00 : Old Z n0 h0) (nn : Int32) (hn0 : ¬ (nn < (0 : Int32))) (hbd : nn < (1073741823 : Int32)) :
    own_CP l Z M28 jdk_52_method_3_code 1 (some .int) ws R_nbl #[(.int nn)] h0 (Q_nbl Z G1 G3 nn h0 n0) := by
  refine own_P (plainFor_of_name pn_2) ?_
  intro p e s m below meth c s₁ S0 Bd hZ hh hx hby hml hown hnm X0 e0 hS0d
  obtain ⟨O1, P1, O3f, rG3, OAD, OHI, OLO⟩ := id HG
  have N0 := Fr.nil n0
  have C0 : Steps p.tables e below S0 (s₁.setTop (mkF m 0 #[.val (.int nn)] [])) := by rw [hS0d]; exact castTop (ef_29 m nn) (Steps.refl _)
  have C_1 : Steps p.tables e below S0 (s₁.setTop (mkF m 58 #[.val (.int nn)] [(.int (own_db nn))])) := by
    refine C0.trans ?_
    refine XS.iloadN X0.here hx rfl (hb hby d1_0) rfl ?_
    refine XS.ifYes X0.here hx rfl (pc0 := 1) (pc' := 12) rfl (hb hby d1_1) rfl (i0_ge_t hn0) (by decide) (by decide) ?_
    refine XS.iloadN X0.here hx rfl (hb hby d1_12) rfl ?_
    refine X0.ldcI hx hown (mvT hZ (w134 hw)) rfl (hb hby d1_13) ?_
    refine XS.icmpYes X0.here hx rfl (pc0 := 15) (pc' := 55) rfl (hb hby d1_15) rfl (ii_lt_t hbd) (by decide) (by decide) ?_
    refine XS.iloadN X0.here hx rfl (hb hby d1_55) rfl ?_
    refine XS.iconst X0.here hx rfl (hb hby d1_56) ?_
    refine XS.ishl X0.here hx rfl (hb hby d1_57) rfl ?_
    show Steps p.tables e below (s₁.setTop (mkF m 58 #[.val (.int nn)] [(.int (own_db nn))])) _
    exact Steps.refl _
  obtain ⟨fs, hr, hrun, hended, hW, hsame⟩ := X0.leave (v := some (.int (own_db nn))) (fun h => by rw [Bd.returns] at h; cases h)
  refine ⟨_, _, C_1.trans (retOut X0 hx Bd.returns rfl (Or.inl ⟨rfl, Or.inl rfl, _, rfl⟩) (hb hby d1_58) hr), hrun, hended, _, _, rfl, ?_, ⟨_, rfl⟩, hW, hsame.mono (by decide) (by decide)⟩
  show Q_nbl Z G1 G3 nn h0 n0 (some (.int (own_db nn))) s₁.heap _
  rw [e0]
  exact ⟨rfl, N0, rfl⟩
abbrev M40 : MethodName := ⟨"java/lang/StringUTF16", "newBytesFor", "(I)[B"⟩
theorem d2_0 : decode jdk_52_method_2_code 0 = .ok (.iload_n 0, 1) := by decide +kernel
theorem w133 {Z : State} {a0 : Array Value} (hw : ∀ d ∈ tables_1, d.before a0 Z = true) : Jvm.Cond.before (Jvm.Cond.code ({ cls := "java/lang/StringUTF16", name := "newBytesLength", desc := "(I)I" } : Jvm.MethodName) jdk_52_method_3_code (1 : Nat) (Option.some Jvm.ClassFile.FieldType.int)) a0 Z = true := hw _ (List.mem_of_getElem? (i := 133) rfl)
theorem w19 {Z : State} {a0 : Array Value} (hw : ∀ d ∈ tables_1, d.before a0 Z = true) : Jvm.Cond.before (Jvm.Cond.initialized "java/lang/StringUTF16") a0 Z = true := hw _ (List.mem_of_getElem? (i := 19) rfl)
theorem pd_44 : parseMethodDescriptor "(I)I" = some ⟨[.int], some .int⟩ := by decide +kernel
theorem d2_1 : decode jdk_52_method_2_code 1 = .ok (.invokestatic 11, 3) := by decide +kernel
theorem w131 {Z : State} {a0 : Array Value} (hw : ∀ d ∈ tables_1, d.before a0 Z = true) : Jvm.Cond.before (Jvm.Cond.methodLink "java/lang/StringUTF16" (11 : Nat) ({ cls := "java/lang/StringUTF16", name := "newBytesLength", desc := "(I)I" } : Jvm.MethodName)) a0 Z = true := hw _ (List.mem_of_getElem? (i := 131) rfl)
theorem w132 {Z : State} {a0 : Array Value} (hw : ∀ d ∈ tables_1, d.before a0 Z = true) : Jvm.Cond.before (Jvm.Cond.static ({ cls := "java/lang/StringUTF16", name := "newBytesLength", desc := "(I)I" } : Jvm.MethodName)) a0 Z = true := hw _ (List.mem_of_getElem? (i := 132) rfl)
theorem w21 {Z : State} {a0 : Array Value} (hw : ∀ d ∈ tables_1, d.before a0 Z = true) : Jvm.Cond.before (Jvm.Cond.arrayClass Jvm.ClassFile.FieldType.byte) a0 Z = true := hw _ (List.mem_of_getElem? (i := 21) rfl)
theorem d2_4 : decode jdk_52_method_2_code 4 = .ok (.newarray .byte, 2) := by decide +kernel
theorem d2_6 : decode jdk_52_method_2_code 6 = .ok (.areturn, 1) := by decide +kernel
abbrev R_nbf : Room := { frames := 1, cells := 1, slots := 16, locals := 12 }
def Q_nbf (Z : State) (G1 : Int32) (G3 : Value) (nn : Int32) (h0 : Heap) (n0 : Nat) (v : Option Value) (h : Heap) (L : List Loc) : Prop := (∃ t : Addr, ∃ kt : ClassId, v = some (.ref t) ∧ Fr n0 L ∧ Keep h0 h [] ∧ (h0.size ≤ t) ∧ (Arv Z h t kt .byte (own_db nn) (own_iv (List.replicate (own_db nn).toNatClampNeg 0)) (.int (0 : Int32))))
set_option maxRecDepth 65536 in
set_option maxHeartbeats 40000000 in
theorem rm_nbf (l : Launch) (Z : State) (a0 : Array Value) (hw : ∀ d ∈ tables_1, d.before a0 Z = true) (ws : List Jvm.Cond) (G1 : Int32) (G3 : Value) (HG : own_G l Z a0 G1 G3) (h0 : Heap) (n0 : Nat) (X00 : Old Z n0 h0) (nn : Int32) (hn0 : ¬ (nn < (0 : Int32))) (h8 : nn.toNatClampNeg ≤ 8) :
    own_CP l Z M40 jdk_52_method_2_code 1 (some (.array .byte)) ws R_nbf #[(.int nn)] h0 (Q_nbf Z G1 G3 nn h0 n0) := by
  refine own_P (plainFor_of_name pn_2) ?_
  intro p e s m below meth c s₁ S0 Bd hZ hh hx hby hml hown hnm X0 e0 hS0d
  obtain ⟨O1, P1, O3f, rG3, OAD, OHI, OLO⟩ := id HG
  have N0 := Fr.nil n0
  have C0 : Steps p.tables e below S0 (s₁.setTop (mkF m 0 #[.val (.int nn)] [])) := by rw [hS0d]; exact castTop (ef_29 m nn) (Steps.refl _)
  obtain ⟨_, _, ⟨T_1, L_1, k_1, n_1⟩, -, X_1, ⟨Lc_1, hQ_1, l_1, y_1, z_1⟩, st_1⟩ := Jvm.LawKit.callS X0 hx (y := M28) hown (mvT hZ (w131 hw)) (mvT hZ (w132 hw)) (mvT hZ (w19 hw)) (mvT hZ (w133 hw)) (by decide) (backOf (W := 0) (rm_nbl l Z a0 hw [] G1 G3 HG h0 n0 X00 nn hn0 (own_small8 hn0 h8)) hZ (w133 hw) (w19 hw) (by decide) (by decide)) (g := (mkF m 1 #[.val (.int nn)] [(.int nn)])) rfl (by rw [hml]; rfl) (argsL := [(.int nn)]) (rest := []) (lenOf pd_44 rfl) rfl (by show 2 * 0 + _ ≤ _; exact Nat.le_of_eq rfl) (hb hby d2_1) (fun _ _ => ⟨rfl, e0, (by decide : 0 + 0 ≤ _), (by decide : 0 + 0 ≤ _)⟩)
  dsimp only [Pt.U, Pt.locs, Pt.cells, Pt.slots] at X_1 l_1 y_1 z_1 st_1 hQ_1
  have X_1 := own_cast X_1 l_1 y_1 z_1
  obtain ⟨rfl, N_2, e_3⟩ := hQ_1
  have N_4 := Fr.app N0 N_2
  have e_5 : T_1.heap = h0 := e_3
  obtain ⟨T_6, h_7, k_8, X_9, e_10, E_11, A_12, st_13⟩ := newP (aty := .byte) X_1 hx hZ (w21 hw) e_5 (g := (mkF m 4 #[.val (.int nn)] [(.int (own_db nn))])) rfl (hb hby d2_4) rfl (own_dbr hn0 h8).2.1 (cap := 16) (by rw [(own_dbr hn0 h8).1]; omega) (by decide) (by decide) (by decide)
  obtain ⟨a_14, g_15⟩ : ∃ z, z = h0.size := ⟨_, rfl⟩
  rw [← g_15] at A_12 st_13
  have V_16 : Arv Z h_7 a_14 k_8 .byte (own_db nn) (own_iv (List.replicate (own_db nn).toNatClampNeg 0)) (.int (0 : Int32)) := (Arv.new A_12 (own_dbr hn0 h8).2.1).pad (own_pad _)
  have C_17 : Steps p.tables e below S0 (T_6.setTop (mkF m 6 #[.val (.int nn)] [(.ref a_14)])) := by
    refine C0.trans ?_
    refine XS.iloadN X0.here hx rfl (hb hby d2_0) rfl ?_
    refine st_1 _ ?_
    refine st_13 _ ?_
    exact Steps.refl _
  have K_18 : Keep h0 h_7 [] := ((Keep.refl _ _).ext E_11)
  obtain ⟨fs, hr, hrun, hended, hW, hsame⟩ := X_9.leave (v := some (.ref a_14)) (fun h => by rw [Bd.returns] at h; cases h)
  refine ⟨_, _, C_17.trans (retOut X_9 hx Bd.returns rfl (Or.inr (Or.inr (Or.inr (Or.inr ⟨rfl, rfl, rfl⟩)))) (hb hby d2_6) hr), hrun, hended, _, _, rfl, ?_, ⟨_, rfl⟩, hW, hsame.mono (by decide) (by decide)⟩
  show Q_nbf Z G1 G3 nn h0 n0 (some (.ref a_14)) T_6.heap _
  rw [e_10]
  exact ⟨a_14, k_8, rfl, N_4, K_18, (Nat.le_trans (Nat.le_refl _) (Nat.le_of_eq g_15.symm)), V_16⟩
abbrev M51 : MethodName := ⟨"java/lang/StringUTF16", "putChar", "([BII)V"⟩
theorem ef_52 (m : MethodId) (x0 : Addr) (x1 : Int32) (x2 : Int32) : entryFrame m #[(.ref x0), (.int x1), (.int x2)] 3 = mkF m 0 #[.val (.ref x0), .val (.int x1), .val (.int x2)] [] := by first | (simp [entryFrame, mkF, argsToLocals, Value.category]; done) | rfl
theorem w138 {Z : State} {a0 : Array Value} (hw : ∀ d ∈ tables_1, d.before a0 Z = true) : Jvm.Cond.before (Jvm.Cond.fieldLink "java/lang/StringUTF16" (44 : Nat) "java/lang/StringUTF16" "$assertionsDisabled" "Z") a0 Z = true := hw _ (List.mem_of_getElem? (i := 138) rfl)
theorem d3_0 : decode jdk_52_method_4_code 0 = .ok (.getstatic 44, 3) := by decide +kernel
theorem d3_3 : decode jdk_52_method_4_code 3 = .ok (.ifCond .ne 25, 3) := by decide +kernel
theorem d3_28 : decode jdk_52_method_4_code 28 = .ok (.iload_n 1, 1) := by decide +kernel
theorem d3_29 : decode jdk_52_method_4_code 29 = .ok (.iconst 1, 1) := by decide +kernel
theorem d3_30 : decode jdk_52_method_4_code 30 = .ok (.ishl, 1) := by decide +kernel
theorem d3_31 : decode jdk_52_method_4_code 31 = .ok (.istore_n 1, 1) := by decide +kernel
theorem d3_32 : decode jdk_52_method_4_code 32 = .ok (.aload_n 0, 1) := by decide +kernel
theorem d3_33 : decode jdk_52_method_4_code 33 = .ok (.iload_n 1, 1) := by decide +kernel
theorem d3_34 : decode jdk_52_method_4_code 34 = .ok (.iinc 1 1, 3) := by decide +kernel
theorem d3_37 : decode jdk_52_method_4_code 37 = .ok (.iload_n 2, 1) := by decide +kernel
theorem w139 {Z : State} {a0 : Array Value} (hw : ∀ d ∈ tables_1, d.before a0 Z = true) : Jvm.Cond.before (Jvm.Cond.fieldLink "java/lang/StringUTF16" (59 : Nat) "java/lang/StringUTF16" "HI_BYTE_SHIFT" "I") a0 Z = true := hw _ (List.mem_of_getElem? (i := 139) rfl)
theorem d3_38 : decode jdk_52_method_4_code 38 = .ok (.getstatic 59, 3) := by decide +kernel
theorem d3_41 : decode jdk_52_method_4_code 41 = .ok (.ishr, 1) := by decide +kernel
theorem d3_42 : decode jdk_52_method_4_code 42 = .ok (.i2b, 1) := by decide +kernel
theorem d3_43 : decode jdk_52_method_4_code 43 = .ok (.bastore, 1) := by decide +kernel
theorem d3_44 : decode jdk_52_method_4_code 44 = .ok (.aload_n 0, 1) := by decide +kernel
theorem d3_45 : decode jdk_52_method_4_code 45 = .ok (.iload_n 1, 1) := by decide +kernel
theorem d3_46 : decode jdk_52_method_4_code 46 = .ok (.iload_n 2, 1) := by decide +kernel
theorem w140 {Z : State} {a0 : Array Value} (hw : ∀ d ∈ tables_1, d.before a0 Z = true) : Jvm.Cond.before (Jvm.Cond.fieldLink "java/lang/StringUTF16" (63 : Nat) "java/lang/StringUTF16" "LO_BYTE_SHIFT" "I") a0 Z = true := hw _ (List.mem_of_getElem? (i := 140) rfl)
theorem d3_47 : decode jdk_52_method_4_code 47 = .ok (.getstatic 63, 3) := by decide +kernel
theorem d3_50 : decode jdk_52_method_4_code 50 = .ok (.ishr, 1) := by decide +kernel
theorem d3_51 : decode jdk_52_method_4_code 51 = .ok (.i2b, 1) := by decide +kernel
theorem d3_52 : decode jdk_52_method_4_code 52 = .ok (.bastore, 1) := by decide +kernel
theorem d3_53 : decode jdk_52_method_4_code 53 = .ok (.return_, 1) := by decide +kernel
abbrev R_putc : Room := { frames := 0, cells := 0, slots := 0, locals := 0 }
def Q_putc (Z : State) (G1 : Int32) (G3 : Value) (t : Addr) (kt : ClassId) (nn : Int32) (ys : List Int32) (ii : Int32) (cc : Int32) (h0 : Heap) (n0 : Nat) (v : Option Value) (h : Heap) (L : List Loc) : Prop := (v = none ∧ Fr n0 L ∧ Keep h0 h [t] ∧ (Arv Z h t kt .byte (own_db nn) (own_iv ((ys.set (own_db ii).toNatClampNeg (own_lo8z cc)).set ((own_db ii) + (1 : Int32)).toNatClampNeg (own_hi8 cc))) (.int (0 : Int32))))
set_option maxRecDepth 65536 in
set_option maxHeartbeats 40000000 in
theorem rm_putc (l : Launch) (Z : State) (a0 : Array Value) (hw : ∀ d ∈ tables_1, d.before a0 Z = true) (ws : List Jvm.Cond) (G1 : Int32) (G3 : Value) (HG : own_G l Z a0 G1 G3) (h0 : Heap) (n0 : Nat) (X00 : Old Z n0 h0) (t : Addr) (kt : ClassId) (nn : Int32) (ys : List Int32) (ii : Int32) (cc : Int32) (hp0 : Arv Z h0 t kt .byte (own_db nn) (own_iv ys) (.int (0 : Int32))) (hp1 : n0 ≤ t) (hn0 : ¬ (nn < (0 : Int32))) (h8 : nn.toNatClampNeg ≤ 8) (hi0 : ¬ (ii < (0 : Int32))) (hi1 : ii < nn) (hl2 : ys.length = (own_db nn).toNatClampNeg) :
    own_CP l Z M51 jdk_52_method_4_code 3 none ws R_putc #[(.ref t), (.int ii), (.int cc)] h0 (Q_putc Z G1 G3 t kt nn ys ii cc h0 n0) := by
  refine own_P (plainFor_of_name pn_2) ?_
  intro p e s m below meth c s₁ S0 Bd hZ hh hx hby hml hown hnm X0 e0 hS0d
  obtain ⟨O1, P1, O3f, rG3, OAD, OHI, OLO⟩ := id HG
  have N0 := Fr.nil n0
  have C0 : Steps p.tables e below S0 (s₁.setTop (mkF m 0 #[.val (.ref t), .val (.int ii), .val (.int cc)] [])) := by rw [hS0d]; exact castTop (ef_52 m t ii cc) (Steps.refl _)
  have hin := (own_nat hi0 hi1).1
  obtain ⟨T_1, X_2, e_3, st_4⟩ := getS X0 hx hZ (host := "") hown (w138 hw) Via.refl e0 (OAD.ext X00.2) (g := (mkF m 0 #[.val (.ref t), .val (.int ii), .val (.int cc)] [])) rfl (hb hby d3_0)
  obtain ⟨T_5, X_6, e_7, st_8⟩ := getS X_2 hx hZ (host := "") hown (w139 hw) Via.refl e_3 (OHI.ext X00.2) (g := (mkF m 38 #[.val (.ref t), .val (.int ((own_db ii) + (1 : Int32))), .val (.int cc)] [(.int cc), (.int (own_db ii)), (.ref t)])) rfl (hb hby d3_38)
  obtain ⟨c_9, A_10, q_11, S_12, M_13, H_14, U_15⟩ := id hp0
  have hin_22 : ¬ ((own_db ii) < 0 ∨ c_9.slots.size ≤ (own_db ii).toNatClampNeg) := inb_of S_12 ⟨(own_dbr hi0 (by omega)).2.1, (own_dblt hi0 hin hn0 h8).1⟩
  obtain ⟨T_16, h_17, X_18, e_19, W_20, st_21⟩ := stB X_6 hx hZ e_7 A_10 (j := (own_db ii)) hin_22 (g := (mkF m 43 #[.val (.ref t), .val (.int ((own_db ii) + (1 : Int32))), .val (.int cc)] [(.int ((cc >>> ((0 : Int32) &&& 31)).toInt8.toInt32)), (.int (own_db ii)), (.ref t)])) rfl rfl (hb hby d3_43)
  have N_23 := Fr.snoc X_18 N0 hp1
  have V_24 : Arv Z h_17 t kt .byte (own_db nn) (own_iv (ys.set (own_db ii).toNatClampNeg (own_lo8z cc))) (.int (0 : Int32)) := own_iv_set (Arv.set A_10 q_11 S_12 M_13 H_14 U_15 (fits_nar_byte _) W_20 (own_db ii).toNatClampNeg rfl (own_ix hl2 (own_dbr hi0 (by omega)).2.1 (own_dblt hi0 hin hn0 h8).1))
  have O_29 : Old Z n0 h_17 := (X00.wr W_20 hp1)
  obtain ⟨T_25, X_26, e_27, st_28⟩ := getS X_18 hx hZ (host := "") hown (w140 hw) Via.refl e_19 (OLO.ext O_29.2) (g := (mkF m 47 #[.val (.ref t), .val (.int ((own_db ii) + (1 : Int32))), .val (.int cc)] [(.int cc), (.int ((own_db ii) + (1 : Int32))), (.ref t)])) rfl (hb hby d3_47)
  obtain ⟨c_30, A_31, q_32, S_33, M_34, H_35, U_36⟩ := id V_24
  have hin_43 : ¬ (((own_db ii) + (1 : Int32)) < 0 ∨ c_30.slots.size ≤ ((own_db ii) + (1 : Int32)).toNatClampNeg) := inb_of S_33 ⟨(own_dbs hi0 (by omega)).2, (own_dblt hi0 hin hn0 h8).2⟩
  obtain ⟨T_37, h_38, X_39, e_40, W_41, st_42⟩ := stB X_26 hx hZ e_27 A_31 (j := ((own_db ii) + (1 : Int32))) hin_43 (g := (mkF m 52 #[.val (.ref t), .val (.int ((own_db ii) + (1 : Int32))), .val (.int cc)] [(.int ((cc >>> ((8 : Int32) &&& 31)).toInt8.toInt32)), (.int ((own_db ii) + (1 : Int32))), (.ref t)])) rfl rfl (hb hby d3_52)
  have N_44 := Fr.snoc X_39 N_23 hp1
  have V_45 : Arv Z h_38 t kt .byte (own_db nn) (own_iv ((ys.set (own_db ii).toNatClampNeg (own_lo8z cc)).set ((own_db ii) + (1 : Int32)).toNatClampNeg (own_hi8 cc))) (.int (0 : Int32)) := own_iv_set (Arv.set A_31 q_32 S_33 M_34 H_35 U_36 (fits_nar_byte _) W_41 ((own_db ii) + (1 : Int32)).toNatClampNeg rfl (own_ix (own_setlen hl2) (own_dbs hi0 (by omega)).2 (own_dblt hi0 hin hn0 h8).2))
  have C_46 : Steps p.tables e below S0 (T_37.setTop (mkF m 53 #[.val (.ref t), .val (.int ((own_db ii) + (1 : Int32))), .val (.int cc)] [])) := by
    refine C0.trans ?_
    refine st_4 _ ?_
    refine XS.ifYes X_2.here hx rfl (pc0 := 3) (pc' := 28) rfl (hb hby d3_3) rfl (by decide) (by decide) (by decide) ?_
    refine XS.iloadN X_2.here hx rfl (hb hby d3_28) rfl ?_
    refine XS.iconst X_2.here hx rfl (hb hby d3_29) ?_
    refine XS.ishl X_2.here hx rfl (hb hby d3_30) rfl ?_
    refine XS.istoreN X_2.here hx rfl (hb hby d3_31) rfl (l' := #[.val (.ref t), .val (.int (own_db ii)), .val (.int cc)]) rfl ?_
    refine XS.aloadN X_2.here hx rfl (hb hby d3_32) rfl rfl ?_
    refine XS.iloadN X_2.here hx rfl (hb hby d3_33) rfl ?_
    show Steps p.tables e below (T_1.setTop (mkF m 34 #[.val (.ref t), .val (.int (own_db ii)), .val (.int cc)] [(.int (own_db ii)), (.ref t)])) _
    refine XS.iinc X_2.here hx rfl (hb hby d3_34) (x := (own_db ii)) rfl (l' := #[.val (.ref t), .val (.int ((own_db ii) + (1 : Int32))), .val (.int cc)]) rfl ?_
    refine XS.iloadN X_2.here hx rfl (hb hby d3_37) rfl ?_
    refine st_8 _ ?_
    refine XS.ishr X_6.here hx rfl (hb hby d3_41) rfl ?_
    refine XS.i2b X_6.here hx rfl (hb hby d3_42) rfl ?_
    refine st_21 _ ?_
    refine XS.aloadN X_18.here hx rfl (hb hby d3_44) rfl rfl ?_
    refine XS.iloadN X_18.here hx rfl (hb hby d3_45) rfl ?_
    show Steps p.tables e below (T_16.setTop (mkF m 46 #[.val (.ref t), .val (.int ((own_db ii) + (1 : Int32))), .val (.int cc)] [(.int ((own_db ii) + (1 : Int32))), (.ref t)])) _
    refine XS.iloadN X_18.here hx rfl (hb hby d3_46) rfl ?_
    refine st_28 _ ?_
    refine XS.ishr X_26.here hx rfl (hb hby d3_50) rfl ?_
    refine XS.i2b X_26.here hx rfl (hb hby d3_51) rfl ?_
    refine st_42 _ ?_
    exact Steps.refl _
  have K_47 : Keep h0 h_38 [t] := (((Keep.refl _ _).wr W_20 (Or.inl (List.mem_of_getElem? (i := 0) rfl))).wr W_41 (Or.inl (List.mem_of_getElem? (i := 0) rfl)))
  obtain ⟨fs, hr, hrun, hended, hW, hsame⟩ := X_39.leave (v := none) (fun _ => rfl)
  refine ⟨_, _, C_46.trans (X_39.returnOut hx Bd.returns (hb hby d3_53) hr), hrun, hended, _, _, rfl, ?_, ⟨_, rfl⟩, hW, hsame.mono (by decide) (by decide)⟩
  show Q_putc Z G1 G3 t kt nn ys ii cc h0 n0 (none) T_37.heap _
  rw [e_40]
  exact ⟨rfl, N_44, K_47, V_45⟩
abbrev M78 : MethodName := ⟨"java/lang/StringUTF16", "toBytes", "([CII)[B"⟩
theorem ef_79 (m : MethodId) (x0 : Addr) (x1 : Int32) (x2 : Int32) : entryFrame m #[(.ref x0), (.int x1), (.int x2)] 5 = mkF m 0 #[.val (.ref x0), .val (.int x1), .val (.int x2), .unset, .unset] [] := by first | (simp [entryFrame, mkF, argsToLocals, Value.category]; done) | rfl
theorem d4_0 : decode jdk_52_method_14_code 0 = .ok (.iload_n 2, 1) := by decide +kernel
theorem w130 {Z : State} {a0 : Array Value} (hw : ∀ d ∈ tables_1, d.before a0 Z = true) : Jvm.Cond.before (Jvm.Cond.code ({ cls := "java/lang/StringUTF16", name := "newBytesFor", desc := "(I)[B" } : Jvm.MethodName) jdk_52_method_2_code (1 : Nat) (Option.some (Jvm.ClassFile.FieldType.array Jvm.ClassFile.FieldType.byte))) a0 Z = true := hw _ (List.mem_of_getElem? (i := 130) rfl)
theorem pd_82 : parseMethodDescriptor "(I)[B" = some ⟨[.int], some (.array .byte)⟩ := by decide +kernel
theorem d4_1 : decode jdk_52_method_14_code 1 = .ok (.invokestatic 107, 3) := by decide +kernel
theorem w128 {Z : State} {a0 : Array Value} (hw : ∀ d ∈ tables_1, d.before a0 Z = true) : Jvm.Cond.before (Jvm.Cond.methodLink "java/lang/StringUTF16" (107 : Nat) ({ cls := "java/lang/StringUTF16", name := "newBytesFor", desc := "(I)[B" } : Jvm.MethodName)) a0 Z = true := hw _ (List.mem_of_getElem? (i := 128) rfl)
theorem w129 {Z : State} {a0 : Array Value} (hw : ∀ d ∈ tables_1, d.before a0 Z = true) : Jvm.Cond.before (Jvm.Cond.static ({ cls := "java/lang/StringUTF16", name := "newBytesFor", desc := "(I)[B" } : Jvm.MethodName)) a0 Z = true := hw _ (List.mem_of_getElem? (i := 129) rfl)
theorem d4_4 : decode jdk_52_method_14_code 4 = .ok (.astore_n 3, 1) := by decide +kernel
theorem d4_5 : decode jdk_52_method_14_code 5 = .ok (.iconst 0, 1) := by decide +kernel
theorem d4_6 : decode jdk_52_method_14_code 6 = .ok (.istore 4, 2) := by decide +kernel
theorem d4_8 : decode jdk_52_method_14_code 8 = .ok (.iload 4, 2) := by decide +kernel
theorem d4_10 : decode jdk_52_method_14_code 10 = .ok (.iload_n 2, 1) := by decide +kernel
theorem d4_11 : decode jdk_52_method_14_code 11 = .ok (.if_icmp .ge 21, 3) := by decide +kernel
theorem d4_14 : decode jdk_52_method_14_code 14 = .ok (.aload_n 3, 1) := by decide +kernel
theorem d4_15 : decode jdk_52_method_14_code 15 = .ok (.iload 4, 2) := by decide +kernel
theorem d4_17 : decode jdk_52_method_14_code 17 = .ok (.aload_n 0, 1) := by decide +kernel
theorem d4_18 : decode jdk_52_method_14_code 18 = .ok (.iload_n 1, 1) := by decide +kernel
theorem d4_19 : decode jdk_52_method_14_code 19 = .ok (.caload, 1) := by decide +kernel
theorem w137 {Z : State} {a0 : Array Value} (hw : ∀ d ∈ tables_1, d.before a0 Z = true) : Jvm.Cond.before (Jvm.Cond.code ({ cls := "java/lang/StringUTF16", name := "putChar", desc := "([BII)V" } : Jvm.MethodName) jdk_52_method_4_code (3 : Nat) (Option.none : Option Jvm.ClassFile.FieldType)) a0 Z = true := hw _ (List.mem_of_getElem? (i := 137) rfl)
theorem pd_98 : parseMethodDescriptor "([BII)V" = some ⟨[(.array .byte), .int, .int], none⟩ := by decide +kernel
theorem d4_20 : decode jdk_52_method_14_code 20 = .ok (.invokestatic 111, 3) := by decide +kernel
theorem w135 {Z : State} {a0 : Array Value} (hw : ∀ d ∈ tables_1, d.before a0 Z = true) : Jvm.Cond.before (Jvm.Cond.methodLink "java/lang/StringUTF16" (111 : Nat) ({ cls := "java/lang/StringUTF16", name := "putChar", desc := "([BII)V" } : Jvm.MethodName)) a0 Z = true := hw _ (List.mem_of_getElem? (i := 135) rfl)
theorem w136 {Z : State} {a0 : Array Value} (hw : ∀ d ∈ tables_1, d.before a0 Z = true) : Jvm.Cond.before (Jvm.Cond.static ({ cls := "java/lang/StringUTF16", name := "putChar", desc := "([BII)V" } : Jvm.MethodName)) a0 Z = true := hw _ (List.mem_of_getElem? (i := 136) rfl)
theorem d4_23 : decode jdk_52_method_14_code 23 = .ok (.iinc 1 1, 3) := by decide +kernel
theorem d4_26 : decode jdk_52_method_14_code 26 = .ok (.iinc 4 1, 3) := by decide +kernel
theorem d4_29 : decode jdk_52_method_14_code 29 = .ok (.goto (-21), 3) := by decide +kernel
theorem d4_32 : decode jdk_52_method_14_code 32 = .ok (.aload_n 3, 1) := by decide +kernel
theorem d4_33 : decode jdk_52_method_14_code 33 = .ok (.areturn, 1) := by decide +kernel
abbrev R_tob : Room := { frames := 2, cells := 1, slots := 16, locals := 24 }
def Q_tob (Z : State) (G1 : Int32) (G3 : Value) (b : Addr) (k : ClassId) (nn : Int32) (cs : List Int32) (h0 : Heap) (n0 : Nat) (v : Option Value) (h : Heap) (L : List Loc) : Prop := (∃ t : Addr, ∃ kt : ClassId, v = some (.ref t) ∧ Fr n0 L ∧ Keep h0 h [] ∧ (h0.size ≤ t) ∧ (Arv Z h t kt .byte (own_db nn) (own_iv (own_ws cs)) (.int (0 : Int32))))
set_option maxRecDepth 65536 in
set_option maxHeartbeats 40000000 in
theorem rm_tob (l : Launch) (Z : State) (a0 : Array Value) (hw : ∀ d ∈ tables_1, d.before a0 Z = true) (ws : List Jvm.Cond) (G1 : Int32) (G3 : Value) (HG : own_G l Z a0 G1 G3) (h0 : Heap) (n0 : Nat) (X00 : Old Z n0 h0) (b : Addr) (k : ClassId) (nn : Int32) (cs : List Int32) (hp0 : Arv Z h0 b k .char nn (own_iv cs) (.int (0 : Int32))) (hn0 : ¬ (nn < (0 : Int32))) (hl1 : cs.length = nn.toNatClampNeg) (h8 : nn.toNatClampNeg ≤ 8) :
    own_CP l Z M78 jdk_52_method_14_code 5 (some (.array .byte)) ws R_tob #[(.ref b), (.int (0 : Int32)), (.int nn)] h0 (Q_tob Z G1 G3 b k nn cs h0 n0) := by
  refine own_P (plainFor_of_name pn_2) ?_
  intro p e s m below meth c s₁ S0 Bd hZ hh hx hby hml hown hnm X0 e0 hS0d
  obtain ⟨O1, P1, O3f, rG3, OAD, OHI, OLO⟩ := id HG
  have N0 := Fr.nil n0
  have C0 : Steps p.tables e below S0 (s₁.setTop (mkF m 0 #[.val (.ref b), .val (.int (0 : Int32)), .val (.int nn), .unset, .unset] [])) := by rw [hS0d]; exact castTop (ef_79 m b (0 : Int32) nn) (Steps.refl _)
  obtain ⟨_, _, ⟨T_1, L_1, k_1, n_1⟩, -, X_1, ⟨Lc_1, hQ_1, l_1, y_1, z_1⟩, st_1⟩ := Jvm.LawKit.callS X0 hx (y := M40) hown (mvT hZ (w128 hw)) (mvT hZ (w129 hw)) (mvT hZ (w19 hw)) (mvT hZ (w130 hw)) (by decide) (backOf (W := 0) (rm_nbf l Z a0 hw [] G1 G3 HG h0 n0 X00 nn hn0 h8) hZ (w130 hw) (w19 hw) (by decide) (by decide)) (g := (mkF m 1 #[.val (.ref b), .val (.int (0 : Int32)), .val (.int nn), .unset, .unset] [(.int nn)])) rfl (by rw [hml]; rfl) (argsL := [(.int nn)]) (rest := []) (lenOf pd_82 rfl) rfl (by show 2 * 0 + _ ≤ _; exact Nat.le_of_eq rfl) (hb hby d4_1) (fun _ _ => ⟨rfl, e0, (by decide : 0 + 1 ≤ _), (by decide : 0 + 16 ≤ _)⟩)
  dsimp only [Pt.U, Pt.locs, Pt.cells, Pt.slots] at X_1 l_1 y_1 z_1 st_1 hQ_1
  have X_1 := own_cast X_1 l_1 y_1 z_1
  obtain ⟨a_2, k_3, rfl, N_4, K_5, g_6, g_7⟩ := hQ_1
  have N_8 := Fr.app N0 N_4
  have C_9 : Steps p.tables e below S0 (T_1.setTop (mkF m 8 #[.val (.ref b), .val (.int (0 : Int32)), .val (.int nn), .val (.ref a_2), .val (.int (0 : Int32))] [])) := by
    refine C0.trans ?_
    refine XS.iloadN X0.here hx rfl (hb hby d4_0) rfl ?_
    refine st_1 _ ?_
    refine XS.astoreN X_1.here hx rfl (hb hby d4_4) rfl rfl (l' := #[.val (.ref b), .val (.int (0 : Int32)), .val (.int nn), .val (.ref a_2), .unset]) rfl ?_
    refine XS.iconst X_1.here hx rfl (hb hby d4_5) ?_
    refine XS.istore X_1.here hx rfl (hb hby d4_6) rfl (l' := #[.val (.ref b), .val (.int (0 : Int32)), .val (.int nn), .val (.ref a_2), .val (.int (0 : Int32))]) rfl ?_
    exact Steps.refl _
  obtain ⟨j_10, T_11, L_12, h_17, I_13⟩ : ∃ (j_10 : Int32) (T_11 : State) (L_12 : List Loc) (h_17 : Heap), Stand p l e R_tob s m #[(.ref b), (.int (0 : Int32)), (.int nn)] below meth c T_11 L_12 1 16 ∧ T_11.heap = h_17 ∧ Fr n0 L_12 ∧ Keep T_1.heap h_17 [a_2] ∧ (¬ (j_10 < (0 : Int32))) ∧ (¬ (nn < j_10)) ∧ (Arv Z h_17 a_2 k_3 .byte (own_db nn) (own_iv (own_wf cs j_10.toNatClampNeg)) (.int (0 : Int32))) ∧ Steps p.tables e below S0 (T_11.setTop (mkF m 8 #[.val (.ref b), .val (.int j_10), .val (.int nn), .val (.ref a_2), .val (.int j_10)] [])) := ⟨(0 : Int32), T_1, _, _, X_1, rfl, N_8, (Keep.refl _ _), (by decide), hn0, (by have q := g_7; rw [(own_dbr hn0 h8).1, ← hl1, ← own_wf0] at q; exact q), C_9⟩
  obtain ⟨d_14, hd_15⟩ : ∃ d : Nat, d = (nn.toNatClampNeg - j_10.toNatClampNeg) := ⟨_, rfl⟩
  induction d_14 using Nat.strongRecOn generalizing j_10 T_11 L_12 h_17 with
  | _ d_14 ih_16 =>
    obtain ⟨X_18, e_19, N_20, K_21, g_23, g_24, g_25, C_22⟩ := I_13
    have C_26 : Steps p.tables e below S0 (T_11.setTop (mkF m 11 #[.val (.ref b), .val (.int j_10), .val (.int nn), .val (.ref a_2), .val (.int j_10)] [(.int nn), (.int j_10)])) := by
      refine C_22.trans ?_
      refine XS.iload X_18.here hx rfl (hb hby d4_8) rfl ?_
      refine XS.iloadN X_18.here hx rfl (hb hby d4_10) rfl ?_
      exact Steps.refl _
    by_cases hc_27 : j_10 < nn
    · skip
      have V_28 : Arv Z h_17 b k .char nn (own_iv cs) (.int (0 : Int32)) := ((hp0.keep K_5 nin0).keep K_21 (ninS (Nat.ne_of_lt (Nat.lt_of_lt_of_le hp0.lt (Nat.le_trans (Nat.le_refl _) g_6))) nin0))
      obtain ⟨c_29, A_30, q_31, S_32, M_33, H_34, U_35⟩ := id V_28
      have hin_36 : ¬ (j_10 < 0 ∨ c_29.slots.size ≤ j_10.toNatClampNeg) := inb_of S_32 ⟨g_23, hc_27⟩
      have hat_37 : c_29.slots[j_10.toNatClampNeg]? = some (.int (own_gt cs j_10)) := Has.at H_34 hin_36 (own_iv_at cs j_10)
      have O_38 : Old Z n0 h_17 := ((X00.keep K_5 all0).keep K_21 (allS (Nat.le_trans (own_n0 X00) g_6) all0))
      obtain ⟨_, _, ⟨T_39, L_39, k_39, n_39⟩, -, X_39, ⟨Lc_39, hQ_39, l_39, y_39, z_39⟩, st_39⟩ := Jvm.LawKit.callS X_18 hx (y := M51) hown (mvT hZ (w135 hw)) (mvT hZ (w136 hw)) (mvT hZ (w19 hw)) (mvT hZ (w137 hw)) (by decide) (backOf (W := 0) (rm_putc l Z a0 hw [] G1 G3 HG h_17 n0 O_38 a_2 k_3 nn (own_wf cs j_10.toNatClampNeg) j_10 (own_gt cs j_10) g_25 (Nat.le_trans (own_n0 X00) g_6) hn0 h8 g_23 hc_27 (by rw [own_wflen (by rw [hl1]; exact own_jle g_24), hl1, (own_dbr hn0 h8).1])) hZ (w137 hw) (w19 hw) (by decide) (by decide)) (g := (mkF m 20 #[.val (.ref b), .val (.int j_10), .val (.int nn), .val (.ref a_2), .val (.int j_10)] [(.int (own_gt cs j_10)), (.int j_10), (.ref a_2)])) rfl (by rw [hml]; rfl) (argsL := [(.ref a_2), (.int j_10), (.int (own_gt cs j_10))]) (rest := []) (lenOf pd_98 rfl) rfl (by show 2 * 0 + _ ≤ _; exact Nat.le_of_eq rfl) (hb hby d4_20) (fun _ _ => ⟨rfl, e_19, (by decide : 1 + 0 ≤ _), (by decide : 16 + 0 ≤ _)⟩)
      dsimp only [Pt.U, Pt.locs, Pt.cells, Pt.slots] at X_39 l_39 y_39 z_39 st_39 hQ_39
      have X_39 := own_cast X_39 l_39 y_39 z_39
      obtain ⟨rfl, N_40, K_41, g_42⟩ := hQ_39
      have N_43 := Fr.app N_20 N_40
      have V_44 : Arv Z T_39.heap a_2 k_3 .byte (own_db nn) (own_iv (own_wf cs (j_10 + (1 : Int32)).toNatClampNeg)) (.int (0 : Int32)) := (own_wfstep hl1 h8 g_23 hc_27 g_42)
      have C_45 : Steps p.tables e below S0 (T_39.setTop (mkF m 8 #[.val (.ref b), .val (.int (j_10 + (1 : Int32))), .val (.int nn), .val (.ref a_2), .val (.int (j_10 + (1 : Int32)))] [])) := by
        refine C_26.trans ?_
        refine XS.icmpNo X_18.here hx rfl (hb hby d4_11) rfl (ii_ge_f hc_27) ?_
        refine XS.aloadN X_18.here hx rfl (hb hby d4_14) rfl rfl ?_
        refine XS.iload X_18.here hx rfl (hb hby d4_15) rfl ?_
        refine XS.aloadN X_18.here hx rfl (hb hby d4_17) rfl rfl ?_
        refine XS.iloadN X_18.here hx rfl (hb hby d4_18) rfl ?_
        refine X_18.caload hx (j := j_10) (v := (.int (own_gt cs j_10))) (by rw [e_19]; exact A_30.1) (State.isArrayOf_alike hZ.alike A_30.2.1) A_30.2.2 hin_36 hat_37 (g := (mkF m 19 #[.val (.ref b), .val (.int j_10), .val (.int nn), .val (.ref a_2), .val (.int j_10)] [(.int j_10), (.ref b), (.int j_10), (.ref a_2)])) rfl rfl (hb hby d4_19) _ ?_
        refine st_39 _ ?_
        refine XS.iinc X_39.here hx rfl (hb hby d4_23) (x := j_10) rfl (l' := #[.val (.ref b), .val (.int (j_10 + (1 : Int32))), .val (.int nn), .val (.ref a_2), .val (.int j_10)]) rfl ?_
        show Steps p.tables e below (T_39.setTop (mkF m 26 #[.val (.ref b), .val (.int (j_10 + (1 : Int32))), .val (.int nn), .val (.ref a_2), .val (.int j_10)] [])) _
        refine XS.iinc X_39.here hx rfl (hb hby d4_26) (x := j_10) rfl (l' := #[.val (.ref b), .val (.int (j_10 + (1 : Int32))), .val (.int nn), .val (.ref a_2), .val (.int (j_10 + (1 : Int32)))]) rfl ?_
        refine XS.goto X_39.here hx rfl (pc0 := 29) (pc' := 8) rfl (hb hby d4_29) (by decide) (by decide) ?_
        exact Steps.refl _
      exact ih_16 _ (by rw [hd_15]; exact (own_dec g_23 hc_27)) (j_10 + (1 : Int32)) _ _ _ ⟨X_39, rfl, N_43, (((Keep.refl _ _).trans K_21 (allS (Or.inl (List.mem_of_getElem? (i := 0) rfl)) all0)).trans K_41 (allS (Or.inl (List.mem_of_getElem? (i := 0) rfl)) all0)), (own_nat g_23 hc_27).2.2.1, (own_nat g_23 hc_27).2.2.2, V_44, C_45⟩ rfl
    · skip
      have C_46 : Steps p.tables e below S0 (T_11.setTop (mkF m 33 #[.val (.ref b), .val (.int j_10), .val (.int nn), .val (.ref a_2), .val (.int j_10)] [(.ref a_2)])) := by
        refine C_26.trans ?_
        refine XS.icmpYes X_18.here hx rfl (pc0 := 11) (pc' := 32) rfl (hb hby d4_11) rfl (ii_ge_t hc_27) (by decide) (by decide) ?_
        refine XS.aloadN X_18.here hx rfl (hb hby d4_32) rfl rfl ?_
        exact Steps.refl _
      have K_47 : Keep h0 h_17 [] := (((Keep.refl _ _).trans K_5 all0).trans K_21 (allS (Or.inr (Nat.le_trans (Nat.le_refl _) g_6)) all0))
      obtain ⟨fs, hr, hrun, hended, hW, hsame⟩ := X_18.leave (v := some (.ref a_2)) (fun h => by rw [Bd.returns] at h; cases h)
      refine ⟨_, _, C_46.trans (retOut X_18 hx Bd.returns rfl (Or.inr (Or.inr (Or.inr (Or.inr ⟨rfl, rfl, rfl⟩)))) (hb hby d4_33) hr), hrun, hended, _, _, rfl, ?_, ⟨_, rfl⟩, hW, hsame.mono (by decide) (by decide)⟩
      show Q_tob Z G1 G3 b k nn cs h0 n0 (some (.ref a_2)) T_11.heap _
      rw [e_19]
      exact ⟨a_2, k_3, rfl, N_20, K_47, (Nat.le_trans (Nat.le_refl _) g_6), (by have q := g_25; rw [own_wfn (Nat.le_trans (Nat.le_of_eq hl1) (own_jge hc_27))] at q; exact q)⟩
abbrev M107 : MethodName := ⟨"java/lang/StringUTF16", "getChar", "([BI)C"⟩
theorem ef_108 (m : MethodId) (x0 : Addr) (x1 : Int32) : entryFrame m #[(.ref x0), (.int x1)] 2 = mkF m 0 #[.val (.ref x0), .val (.int x1)] [] := by first | (simp [entryFrame, mkF, argsToLocals, Value.category]; done) | rfl
theorem d5_0 : decode jdk_52_method_5_code 0 = .ok (.getstatic 44, 3) := by decide +kernel
theorem d5_3 : decode jdk_52_method_5_code 3 = .ok (.ifCond .ne 25, 3) := by decide +kernel
theorem d5_28 : decode jdk_52_method_5_code 28 = .ok (.iload_n 1, 1) := by decide +kernel
theorem d5_29 : decode jdk_52_method_5_code 29 = .ok (.iconst 1, 1) := by decide +kernel
theorem d5_30 : decode jdk_52_method_5_code 30 = .ok (.ishl, 1) := by decide +kernel
theorem d5_31 : decode jdk_52_method_5_code 31 = .ok (.istore_n 1, 1) := by decide +kernel
theorem d5_32 : decode jdk_52_method_5_code 32 = .ok (.aload_n 0, 1) := by decide +kernel
theorem d5_33 : decode jdk_52_method_5_code 33 = .ok (.iload_n 1, 1) := by decide +kernel
theorem d5_34 : decode jdk_52_method_5_code 34 = .ok (.iinc 1 1, 3) := by decide +kernel
theorem d5_37 : decode jdk_52_method_5_code 37 = .ok (.baload, 1) := by decide +kernel
theorem d5_38 : decode jdk_52_method_5_code 38 = .ok (.sipush 255, 3) := by decide +kernel
theorem d5_41 : decode jdk_52_method_5_code 41 = .ok (.iand, 1) := by decide +kernel
theorem d5_42 : decode jdk_52_method_5_code 42 = .ok (.getstatic 59, 3) := by decide +kernel
theorem d5_45 : decode jdk_52_method_5_code 45 = .ok (.ishl, 1) := by decide +kernel
theorem d5_46 : decode jdk_52_method_5_code 46 = .ok (.aload_n 0, 1) := by decide +kernel
theorem d5_47 : decode jdk_52_method_5_code 47 = .ok (.iload_n 1, 1) := by decide +kernel
theorem d5_48 : decode jdk_52_method_5_code 48 = .ok (.baload, 1) := by decide +kernel
theorem d5_49 : decode jdk_52_method_5_code 49 = .ok (.sipush 255, 3) := by decide +kernel
theorem d5_52 : decode jdk_52_method_5_code 52 = .ok (.iand, 1) := by decide +kernel
theorem d5_53 : decode jdk_52_method_5_code 53 = .ok (.getstatic 63, 3) := by decide +kernel
theorem d5_56 : decode jdk_52_method_5_code 56 = .ok (.ishl, 1) := by decide +kernel
theorem d5_57 : decode jdk_52_method_5_code 57 = .ok (.ior, 1) := by decide +kernel
theorem d5_58 : decode jdk_52_method_5_code 58 = .ok (.i2c, 1) := by decide +kernel
theorem d5_59 : decode jdk_52_method_5_code 59 = .ok (.ireturn, 1) := by decide +kernel
abbrev R_getc : Room := { frames := 0, cells := 0, slots := 0, locals := 0 }
def Q_getc (Z : State) (G1 : Int32) (G3 : Value) (t : Addr) (kt : ClassId) (nn : Int32) (cs : List Int32) (ii : Int32) (h0 : Heap) (n0 : Nat) (v : Option Value) (h : Heap) (L : List Loc) : Prop := (v = some (.int (own_gt cs ii)) ∧ Fr n0 L ∧ h = h0)
set_option maxRecDepth 65536 in
set_option maxHeartbeats 40000000 in
theorem rm_getc (l : Launch) (Z : State) (a0 : Array Value) (hw : ∀ d ∈ tables_1, d.before a0 Z = true) (ws : List Jvm.Cond) (G1 : Int32) (G3 : Value) (HG : own_G l Z a0 G1 G3) (h0 : Heap) (n0 : Nat) (X00 : Old Z n0 h0) (t : Addr) (kt : ClassId) (nn : Int32) (cs : List Int32) (ii : Int32) (hp0 : Arv Z h0 t kt .byte (own_db nn) (own_iv (own_ws cs)) (.int (0 : Int32))) (hn0 : ¬ (nn < (0 : Int32))) (hl1 : cs.length = nn.toNatClampNeg) (hu : own_u16 cs) (h8 : nn.toNatClampNeg ≤ 8) (hi0 : ¬ (ii < (0 : Int32))) (hi1 : ii < nn) :
    own_CP l Z M107 jdk_52_method_5_code 2 (some .char) ws R_getc #[(.ref t), (.int ii)] h0 (Q_getc Z G1 G3 t kt nn cs ii h0 n0) := by
  refine own_P (plainFor_of_name pn_2) ?_
  intro p e s m below meth c s₁ S0 Bd hZ hh hx hby hml hown hnm X0 e0 hS0d
  obtain ⟨O1, P1, O3f, rG3, OAD, OHI, OLO⟩ := id HG
  have N0 := Fr.nil n0
  have C0 : Steps p.tables e below S0 (s₁.setTop (mkF m 0 #[.val (.ref t), .val (.int ii)] [])) := by rw [hS0d]; exact castTop (ef_108 m t ii) (Steps.refl _)
  have hin := (own_nat hi0 hi1).1
  obtain ⟨T_1, X_2, e_3, st_4⟩ := getS X0 hx hZ (host := "") hown (w138 hw) Via.refl e0 (OAD.ext X00.2) (g := (mkF m 0 #[.val (.ref t), .val (.int ii)] [])) rfl (hb hby d5_0)
  obtain ⟨c_5, A_6, q_7, S_8, M_9, H_10, U_11⟩ := id hp0
  have hin_12 : ¬ ((own_db ii) < 0 ∨ c_5.slots.size ≤ (own_db ii).toNatClampNeg) := inb_of S_8 ⟨(own_dbr hi0 (by omega)).2.1, (own_dblt hi0 hin hn0 h8).1⟩
  have hat_13 : c_5.slots[(own_db ii).toNatClampNeg]? = some (.int (own_gt (own_ws cs) (own_db ii))) := Has.at H_10 hin_12 (own_iv_at (own_ws cs) (own_db ii))
  obtain ⟨T_14, X_15, e_16, st_17⟩ := getS X_2 hx hZ (host := "") hown (w139 hw) Via.refl e_3 (OHI.ext X00.2) (g := (mkF m 42 #[.val (.ref t), .val (.int ((own_db ii) + (1 : Int32)))] [(.int ((own_gt (own_ws cs) (own_db ii)) &&& (255 : Int32)))])) rfl (hb hby d5_42)
  obtain ⟨c_18, A_19, q_20, S_21, M_22, H_23, U_24⟩ := id hp0
  have hin_25 : ¬ (((own_db ii) + (1 : Int32)) < 0 ∨ c_18.slots.size ≤ ((own_db ii) + (1 : Int32)).toNatClampNeg) := inb_of S_21 ⟨(own_dbs hi0 (by omega)).2, (own_dblt hi0 hin hn0 h8).2⟩
  have hat_26 : c_18.slots[((own_db ii) + (1 : Int32)).toNatClampNeg]? = some (.int (own_gt (own_ws cs) ((own_db ii) + (1 : Int32)))) := Has.at H_23 hin_25 (own_iv_at (own_ws cs) ((own_db ii) + (1 : Int32)))
  obtain ⟨T_27, X_28, e_29, st_30⟩ := getS X_15 hx hZ (host := "") hown (w140 hw) Via.refl e_16 (OLO.ext X00.2) (g := (mkF m 53 #[.val (.ref t), .val (.int ((own_db ii) + (1 : Int32)))] [(.int ((own_gt (own_ws cs) ((own_db ii) + (1 : Int32))) &&& (255 : Int32))), (.int (((own_gt (own_ws cs) (own_db ii)) &&& (255 : Int32)) <<< ((0 : Int32) &&& 31)))])) rfl (hb hby d5_53)
  have C_31 : Steps p.tables e below S0 (T_27.setTop (mkF m 59 #[.val (.ref t), .val (.int ((own_db ii) + (1 : Int32)))] [(.int (((((own_gt (own_ws cs) (own_db ii)) &&& (255 : Int32)) <<< ((0 : Int32) &&& 31)) ||| (((own_gt (own_ws cs) ((own_db ii) + (1 : Int32))) &&& (255 : Int32)) <<< ((8 : Int32) &&& 31))).toUInt32.toUInt16.toUInt32.toInt32))])) := by
    refine C0.trans ?_
    refine st_4 _ ?_
    refine XS.ifYes X_2.here hx rfl (pc0 := 3) (pc' := 28) rfl (hb hby d5_3) rfl (by decide) (by decide) (by decide) ?_
    refine XS.iloadN X_2.here hx rfl (hb hby d5_28) rfl ?_
    refine XS.iconst X_2.here hx rfl (hb hby d5_29) ?_
    refine XS.ishl X_2.here hx rfl (hb hby d5_30) rfl ?_
    refine XS.istoreN X_2.here hx rfl (hb hby d5_31) rfl (l' := #[.val (.ref t), .val (.int (own_db ii))]) rfl ?_
    refine XS.aloadN X_2.here hx rfl (hb hby d5_32) rfl rfl ?_
    refine XS.iloadN X_2.here hx rfl (hb hby d5_33) rfl ?_
    show Steps p.tables e below (T_1.setTop (mkF m 34 #[.val (.ref t), .val (.int (own_db ii))] [(.int (own_db ii)), (.ref t)])) _
    refine XS.iinc X_2.here hx rfl (hb hby d5_34) (x := (own_db ii)) rfl (l' := #[.val (.ref t), .val (.int ((own_db ii) + (1 : Int32)))]) rfl ?_
    refine X_2.baloadBytes hx (j := (own_db ii)) (v := (.int (own_gt (own_ws cs) (own_db ii)))) (by rw [e_3]; exact A_6.1) (State.isArrayOf_alike hZ.alike A_6.2.1) A_6.2.2 hin_12 hat_13 (g := (mkF m 37 #[.val (.ref t), .val (.int ((own_db ii) + (1 : Int32)))] [(.int (own_db ii)), (.ref t)])) rfl rfl (hb hby d5_37) _ ?_
    refine XS.sipush X_2.here hx rfl (hb hby d5_38) ?_
    refine XS.iand X_2.here hx rfl (hb hby d5_41) rfl ?_
    refine st_17 _ ?_
    refine XS.ishl X_15.here hx rfl (hb hby d5_45) rfl ?_
    refine XS.aloadN X_15.here hx rfl (hb hby d5_46) rfl rfl ?_
    refine XS.iloadN X_15.here hx rfl (hb hby d5_47) rfl ?_
    show Steps p.tables e below (T_14.setTop (mkF m 48 #[.val (.ref t), .val (.int ((own_db ii) + (1 : Int32)))] [(.int ((own_db ii) + (1 : Int32))), (.ref t), (.int (((own_gt (own_ws cs) (own_db ii)) &&& (255 : Int32)) <<< ((0 : Int32) &&& 31)))])) _
    refine X_15.baloadBytes hx (j := ((own_db ii) + (1 : Int32))) (v := (.int (own_gt (own_ws cs) ((own_db ii) + (1 : Int32))))) (by rw [e_16]; exact A_19.1) (State.isArrayOf_alike hZ.alike A_19.2.1) A_19.2.2 hin_25 hat_26 (g := (mkF m 48 #[.val (.ref t), .val (.int ((own_db ii) + (1 : Int32)))] [(.int ((own_db ii) + (1 : Int32))), (.ref t), (.int (((own_gt (own_ws cs) (own_db ii)) &&& (255 : Int32)) <<< ((0 : Int32) &&& 31)))])) rfl rfl (hb hby d5_48) _ ?_
    refine XS.sipush X_15.here hx rfl (hb hby d5_49) ?_
    refine XS.iand X_15.here hx rfl (hb hby d5_52) rfl ?_
    refine st_30 _ ?_
    refine XS.ishl X_28.here hx rfl (hb hby d5_56) rfl ?_
    refine XS.ior X_28.here hx rfl (hb hby d5_57) rfl ?_
    refine XS.i2c X_28.here hx rfl (hb hby d5_58) rfl ?_
    exact Steps.refl _
  obtain ⟨fs, hr, hrun, hended, hW, hsame⟩ := X_28.leave (v := some (.int (own_pair (own_gt (own_ws cs) (own_db ii)) (own_gt (own_ws cs) ((own_db ii) + (1 : Int32)))))) (fun h => by rw [Bd.returns] at h; cases h)
  refine ⟨_, _, C_31.trans (retN X_28 hx (t := .char) Bd.returns (by simp) (hb hby d5_59) hr), hrun, hended, _, _, rfl, ?_, ⟨_, rfl⟩, hW, hsame.mono (by decide) (by decide)⟩
  show Q_getc Z G1 G3 t kt nn cs ii h0 n0 (some (.int (own_pair (own_gt (own_ws cs) (own_db ii)) (own_gt (own_ws cs) ((own_db ii) + (1 : Int32)))))) T_27.heap _
  rw [e_29]
  exact ⟨(congrArg (fun q => some (Value.int q)) (own_getc hu hl1 h8 hi0 hin)), N0, rfl⟩
abbrev M133 : MethodName := ⟨"java/lang/StringUTF16", "compress", "([CII)[B"⟩
theorem ef_134 (m : MethodId) (x0 : Addr) (x1 : Int32) (x2 : Int32) : entryFrame m #[(.ref x0), (.int x1), (.int x2)] 6 = mkF m 0 #[.val (.ref x0), .val (.int x1), .val (.int x2), .unset, .unset, .unset] [] := by first | (simp [entryFrame, mkF, argsToLocals, Value.category]; done) | rfl
theorem d6_0 : decode jdk_52_method_16_code 0 = .ok (.iload_n 2, 1) := by decide +kernel
theorem d6_1 : decode jdk_52_method_16_code 1 = .ok (.newarray .byte, 2) := by decide +kernel
theorem d6_3 : decode jdk_52_method_16_code 3 = .ok (.astore_n 3, 1) := by decide +kernel
theorem d6_4 : decode jdk_52_method_16_code 4 = .ok (.aload_n 0, 1) := by decide +kernel
theorem d6_5 : decode jdk_52_method_16_code 5 = .ok (.iload_n 1, 1) := by decide +kernel
theorem d6_6 : decode jdk_52_method_16_code 6 = .ok (.aload_n 3, 1) := by decide +kernel
theorem d6_7 : decode jdk_52_method_16_code 7 = .ok (.iconst 0, 1) := by decide +kernel
theorem d6_8 : decode jdk_52_method_16_code 8 = .ok (.iload_n 2, 1) := by decide +kernel
theorem w24 {Z : State} {a0 : Array Value} (hw : ∀ d ∈ tables_1, d.before a0 Z = true) : Jvm.Cond.before (Jvm.Cond.code ({ cls := "java/lang/StringUTF16", name := "compress", desc := "([CI[BII)I" } : Jvm.MethodName) jdk_52_method_21_code (7 : Nat) (Option.some Jvm.ClassFile.FieldType.int)) a0 Z = true := hw _ (List.mem_of_getElem? (i := 24) rfl)
theorem pd_144 : parseMethodDescriptor "([CI[BII)I" = some ⟨[(.array .char), .int, (.array .byte), .int, .int], some .int⟩ := by decide +kernel
theorem d6_9 : decode jdk_52_method_16_code 9 = .ok (.invokestatic 115, 3) := by decide +kernel
theorem w22 {Z : State} {a0 : Array Value} (hw : ∀ d ∈ tables_1, d.before a0 Z = true) : Jvm.Cond.before (Jvm.Cond.methodLink "java/lang/StringUTF16" (115 : Nat) ({ cls := "java/lang/StringUTF16", name := "compress", desc := "([CI[BII)I" } : Jvm.MethodName)) a0 Z = true := hw _ (List.mem_of_getElem? (i := 22) rfl)
theorem w23 {Z : State} {a0 : Array Value} (hw : ∀ d ∈ tables_1, d.before a0 Z = true) : Jvm.Cond.before (Jvm.Cond.static ({ cls := "java/lang/StringUTF16", name := "compress", desc := "([CI[BII)I" } : Jvm.MethodName)) a0 Z = true := hw _ (List.mem_of_getElem? (i := 23) rfl)
theorem d6_12 : decode jdk_52_method_16_code 12 = .ok (.istore 4, 2) := by decide +kernel
theorem d6_14 : decode jdk_52_method_16_code 14 = .ok (.iload 4, 2) := by decide +kernel
theorem d6_16 : decode jdk_52_method_16_code 16 = .ok (.iload_n 2, 1) := by decide +kernel
theorem d6_17 : decode jdk_52_method_16_code 17 = .ok (.if_icmp .eq 40, 3) := by decide +kernel
theorem d6_57 : decode jdk_52_method_16_code 57 = .ok (.aload_n 3, 1) := by decide +kernel
theorem d6_58 : decode jdk_52_method_16_code 58 = .ok (.areturn, 1) := by decide +kernel
theorem d6_20 : decode jdk_52_method_16_code 20 = .ok (.aload_n 0, 1) := by decide +kernel
theorem d6_21 : decode jdk_52_method_16_code 21 = .ok (.iload_n 1, 1) := by decide +kernel
theorem d6_22 : decode jdk_52_method_16_code 22 = .ok (.iload_n 2, 1) := by decide +kernel
theorem w127 {Z : State} {a0 : Array Value} (hw : ∀ d ∈ tables_1, d.before a0 Z = true) : Jvm.Cond.before (Jvm.Cond.code ({ cls := "java/lang/StringUTF16", name := "toBytes", desc := "([CII)[B" } : Jvm.MethodName) jdk_52_method_14_code (5 : Nat) (Option.some (Jvm.ClassFile.FieldType.array Jvm.ClassFile.FieldType.byte))) a0 Z = true := hw _ (List.mem_of_getElem? (i := 127) rfl)
theorem pd_158 : parseMethodDescriptor "([CII)[B" = some ⟨[(.array .char), .int, .int], some (.array .byte)⟩ := by decide +kernel
theorem d6_23 : decode jdk_52_method_16_code 23 = .ok (.invokestatic 119, 3) := by decide +kernel
theorem w125 {Z : State} {a0 : Array Value} (hw : ∀ d ∈ tables_1, d.before a0 Z = true) : Jvm.Cond.before (Jvm.Cond.methodLink "java/lang/StringUTF16" (119 : Nat) ({ cls := "java/lang/StringUTF16", name := "toBytes", desc := "([CII)[B" } : Jvm.MethodName)) a0 Z = true := hw _ (List.mem_of_getElem? (i := 125) rfl)
theorem w126 {Z : State} {a0 : Array Value} (hw : ∀ d ∈ tables_1, d.before a0 Z = true) : Jvm.Cond.before (Jvm.Cond.static ({ cls := "java/lang/StringUTF16", name := "toBytes", desc := "([CII)[B" } : Jvm.MethodName)) a0 Z = true := hw _ (List.mem_of_getElem? (i := 126) rfl)
theorem d6_26 : decode jdk_52_method_16_code 26 = .ok (.astore 5, 2) := by decide +kernel
theorem d6_28 : decode jdk_52_method_16_code 28 = .ok (.aload 5, 2) := by decide +kernel
theorem d6_30 : decode jdk_52_method_16_code 30 = .ok (.iload 4, 2) := by decide +kernel
theorem w143 {Z : State} {a0 : Array Value} (hw : ∀ d ∈ tables_1, d.before a0 Z = true) : Jvm.Cond.before (Jvm.Cond.code ({ cls := "java/lang/StringUTF16", name := "getChar", desc := "([BI)C" } : Jvm.MethodName) jdk_52_method_5_code (2 : Nat) (Option.some Jvm.ClassFile.FieldType.char)) a0 Z = true := hw _ (List.mem_of_getElem? (i := 143) rfl)
theorem pd_166 : parseMethodDescriptor "([BI)C" = some ⟨[(.array .byte), .int], some .char⟩ := by decide +kernel
theorem d6_32 : decode jdk_52_method_16_code 32 = .ok (.invokestatic 71, 3) := by decide +kernel
theorem w141 {Z : State} {a0 : Array Value} (hw : ∀ d ∈ tables_1, d.before a0 Z = true) : Jvm.Cond.before (Jvm.Cond.methodLink "java/lang/StringUTF16" (71 : Nat) ({ cls := "java/lang/StringUTF16", name := "getChar", desc := "([BI)C" } : Jvm.MethodName)) a0 Z = true := hw _ (List.mem_of_getElem? (i := 141) rfl)
theorem w142 {Z : State} {a0 : Array Value} (hw : ∀ d ∈ tables_1, d.before a0 Z = true) : Jvm.Cond.before (Jvm.Cond.static ({ cls := "java/lang/StringUTF16", name := "getChar", desc := "([BI)C" } : Jvm.MethodName)) a0 Z = true := hw _ (List.mem_of_getElem? (i := 142) rfl)
theorem d6_35 : decode jdk_52_method_16_code 35 = .ok (.sipush 255, 3) := by decide +kernel
theorem d6_38 : decode jdk_52_method_16_code 38 = .ok (.if_icmp .gt 16, 3) := by decide +kernel
theorem d6_54 : decode jdk_52_method_16_code 54 = .ok (.aload 5, 2) := by decide +kernel
theorem d6_56 : decode jdk_52_method_16_code 56 = .ok (.areturn, 1) := by decide +kernel
abbrev R_cmp3g : Room := { frames := 3, cells := 2, slots := 24, locals := 40 }
def Q_cmp3g (Z : State) (G1 : Int32) (G3 : Value) (b : Addr) (k : ClassId) (nn : Int32) (cs : List Int32) (h0 : Heap) (n0 : Nat) (v : Option Value) (h : Heap) (L : List Loc) : Prop := (∃ t : Addr, ∃ kt : ClassId, v = some (.ref t) ∧ Fr n0 L ∧ Keep h0 h [] ∧ (h0.size ≤ t) ∧ (Arv Z h t kt .byte nn (own_iv (own_bs cs)) (.int (0 : Int32))) ∧ (own_lat cs)) ∨ (∃ t : Addr, ∃ kt : ClassId, v = some (.ref t) ∧ Fr n0 L ∧ Keep h0 h [] ∧ (h0.size ≤ t) ∧ (Arv Z h t kt .byte (own_db nn) (own_iv (own_ws cs)) (.int (0 : Int32))))
set_option maxRecDepth 65536 in
set_option maxHeartbeats 40000000 in
theorem rm_cmp3g (l : Launch) (Z : State) (a0 : Array Value) (hw : ∀ d ∈ tables_1, d.before a0 Z = true) (ws : List Jvm.Cond) (G1 : Int32) (G3 : Value) (HG : own_G l Z a0 G1 G3) (h0 : Heap) (n0 : Nat) (X00 : Old Z n0 h0) (b : Addr) (k : ClassId) (nn : Int32) (cs : List Int32) (hp0 : Arv Z h0 b k .char nn (own_iv cs) (.int (0 : Int32))) (hn0 : ¬ (nn < (0 : Int32))) (hl1 : cs.length = nn.toNatClampNeg) (hu : own_u16 cs) (h8 : nn.toNatClampNeg ≤ 8) :
    own_CP l Z M133 jdk_52_method_16_code 6 (some (.array .byte)) ws R_cmp3g #[(.ref b), (.int (0 : Int32)), (.int nn)] h0 (Q_cmp3g Z G1 G3 b k nn cs h0 n0) := by
  refine own_P (plainFor_of_name pn_2) ?_
  intro p e s m below meth c s₁ S0 Bd hZ hh hx hby hml hown hnm X0 e0 hS0d
  obtain ⟨O1, P1, O3f, rG3, OAD, OHI, OLO⟩ := id HG
  have N0 := Fr.nil n0
  have C0 : Steps p.tables e below S0 (s₁.setTop (mkF m 0 #[.val (.ref b), .val (.int (0 : Int32)), .val (.int nn), .unset, .unset, .unset] [])) := by rw [hS0d]; exact castTop (ef_134 m b (0 : Int32) nn) (Steps.refl _)
  obtain ⟨T_1, h_2, k_3, X_4, e_5, E_6, A_7, st_8⟩ := newP (aty := .byte) X0 hx hZ (w21 hw) e0 (g := (mkF m 1 #[.val (.ref b), .val (.int (0 : Int32)), .val (.int nn), .unset, .unset, .unset] [(.int nn)])) rfl (hb hby d6_1) rfl hn0 (cap := 8) h8 (by decide) (by decide) (by decide)
  obtain ⟨a_9, g_10⟩ : ∃ z, z = h0.size := ⟨_, rfl⟩
  rw [← g_10] at A_7 st_8
  have V_11 : Arv Z h_2 a_9 k_3 .byte nn (own_iv (List.replicate nn.toNatClampNeg 0)) (.int (0 : Int32)) := (Arv.new A_7 hn0).pad (own_pad _)
  have V_12 : Arv Z h_2 b k .char nn (own_iv cs) (.int (0 : Int32)) := (hp0.ext E_6)
  have O_13 : Old Z n0 h_2 := (X00.ext E_6)
  obtain ⟨_, _, ⟨T_14, L_14, k_14, n_14⟩, -, X_14, ⟨Lc_14, hQ_14, l_14, y_14, z_14⟩, st_14⟩ := Jvm.LawKit.callS X_4 hx (y := M0) hown (mvT hZ (w22 hw)) (mvT hZ (w23 hw)) (mvT hZ (w19 hw)) (mvT hZ (w24 hw)) (by decide) (backOf (W := 0) (rm_cmp5g l Z a0 hw [] G1 G3 HG h_2 n0 O_13 b k a_9 k_3 nn cs (List.replicate nn.toNatClampNeg 0) V_12 V_11 (Nat.le_trans (own_n0 X00) (Nat.le_of_eq g_10.symm)) (Nat.ne_of_lt (Nat.lt_of_lt_of_le hp0.lt (Nat.le_trans (Nat.le_refl _) (Nat.le_of_eq g_10.symm)))) hn0 hl1 (List.length_replicate) hu) hZ (w24 hw) (w19 hw) (by decide) (by decide)) (g := (mkF m 9 #[.val (.ref b), .val (.int (0 : Int32)), .val (.int nn), .val (.ref a_9), .unset, .unset] [(.int nn), (.int (0 : Int32)), (.ref a_9), (.int (0 : Int32)), (.ref b)])) rfl (by rw [hml]; rfl) (argsL := [(.ref b), (.int (0 : Int32)), (.ref a_9), (.int (0 : Int32)), (.int nn)]) (rest := []) (lenOf pd_144 rfl) rfl (by show 2 * 0 + _ ≤ _; exact Nat.le_of_eq rfl) (hb hby d6_9) (fun _ _ => ⟨rfl, e_5, (by decide : 1 + 0 ≤ _), (by decide : 8 + 0 ≤ _)⟩)
  dsimp only [Pt.U, Pt.locs, Pt.cells, Pt.slots] at X_14 l_14 y_14 z_14 st_14 hQ_14
  have X_14 := own_cast X_14 l_14 y_14 z_14
  have C_15 : Steps p.tables e below S0 (T_1.setTop (mkF m 9 #[.val (.ref b), .val (.int (0 : Int32)), .val (.int nn), .val (.ref a_9), .unset, .unset] [(.int nn), (.int (0 : Int32)), (.ref a_9), (.int (0 : Int32)), (.ref b)])) := by
    refine C0.trans ?_
    refine XS.iloadN X0.here hx rfl (hb hby d6_0) rfl ?_
    refine st_8 _ ?_
    refine XS.astoreN X_4.here hx rfl (hb hby d6_3) rfl rfl (l' := #[.val (.ref b), .val (.int (0 : Int32)), .val (.int nn), .val (.ref a_9), .unset, .unset]) rfl ?_
    refine XS.aloadN X_4.here hx rfl (hb hby d6_4) rfl rfl ?_
    refine XS.iloadN X_4.here hx rfl (hb hby d6_5) rfl ?_
    refine XS.aloadN X_4.here hx rfl (hb hby d6_6) rfl rfl ?_
    refine XS.iconst X_4.here hx rfl (hb hby d6_7) ?_
    refine XS.iloadN X_4.here hx rfl (hb hby d6_8) rfl ?_
    show Steps p.tables e below (T_1.setTop (mkF m 9 #[.val (.ref b), .val (.int (0 : Int32)), .val (.int nn), .val (.ref a_9), .unset, .unset] [(.int nn), (.int (0 : Int32)), (.ref a_9), (.int (0 : Int32)), (.ref b)])) _
    exact Steps.refl _
  rcases hQ_14 with hQ_16 | hQ_17
  · skip
    obtain ⟨rfl, N_18, K_19, g_20, g_21⟩ := hQ_16
    have N_22 := Fr.app N0 N_18
    have C_23 : Steps p.tables e below S0 (T_14.setTop (mkF m 58 #[.val (.ref b), .val (.int (0 : Int32)), .val (.int nn), .val (.ref a_9), .val (.int nn), .unset] [(.ref a_9)])) := by
      refine C_15.trans ?_
      refine st_14 _ ?_
      refine XS.istore X_14.here hx rfl (hb hby d6_12) rfl (l' := #[.val (.ref b), .val (.int (0 : Int32)), .val (.int nn), .val (.ref a_9), .val (.int nn), .unset]) rfl ?_
      refine XS.iload X_14.here hx rfl (hb hby d6_14) rfl ?_
      refine XS.iloadN X_14.here hx rfl (hb hby d6_16) rfl ?_
      refine XS.icmpYes X_14.here hx rfl (pc0 := 17) (pc' := 57) rfl (hb hby d6_17) rfl (ii_eq_t rfl) (by decide) (by decide) ?_
      refine XS.aloadN X_14.here hx rfl (hb hby d6_57) rfl rfl ?_
      exact Steps.refl _
    have K_24 : Keep h0 T_14.heap [] := (((Keep.refl _ _).ext E_6).trans K_19 (allS (Or.inr (Nat.le_trans (Nat.le_refl _) (Nat.le_of_eq g_10.symm))) all0))
    obtain ⟨fs, hr, hrun, hended, hW, hsame⟩ := X_14.leave (v := some (.ref a_9)) (fun h => by rw [Bd.returns] at h; cases h)
    refine ⟨_, _, C_23.trans (retOut X_14 hx Bd.returns rfl (Or.inr (Or.inr (Or.inr (Or.inr ⟨rfl, rfl, rfl⟩)))) (hb hby d6_58) hr), hrun, hended, _, _, rfl, ?_, ⟨_, rfl⟩, hW, hsame.mono (by decide) (by decide)⟩
    show Q_cmp3g Z G1 G3 b k nn cs h0 n0 (some (.ref a_9)) T_14.heap _
    exact Or.inl ⟨a_9, k_3, rfl, N_22, K_24, (Nat.le_trans (Nat.le_refl _) (Nat.le_of_eq g_10.symm)), g_20, g_21⟩
  · skip
    obtain ⟨i_25, rfl, N_26, K_27, g_28, g_29, g_30, g_31⟩ := hQ_17
    have N_32 := Fr.app N0 N_26
    have V_33 : Arv Z T_14.heap b k .char nn (own_iv cs) (.int (0 : Int32)) := (V_12.keep K_27 (ninS (Nat.ne_of_lt (Nat.lt_of_lt_of_le hp0.lt (Nat.le_trans (Nat.le_refl _) (Nat.le_of_eq g_10.symm)))) nin0))
    have O_34 : Old Z n0 T_14.heap := (O_13.keep K_27 (allS (Nat.le_trans (own_n0 X00) (Nat.le_of_eq g_10.symm)) all0))
    obtain ⟨_, _, ⟨T_35, L_35, k_35, n_35⟩, -, X_35, ⟨Lc_35, hQ_35, l_35, y_35, z_35⟩, st_35⟩ := Jvm.LawKit.callS X_14 hx (y := M78) hown (mvT hZ (w125 hw)) (mvT hZ (w126 hw)) (mvT hZ (w19 hw)) (mvT hZ (w127 hw)) (by decide) (backOf (W := 0) (rm_tob l Z a0 hw [] G1 G3 HG T_14.heap n0 O_34 b k nn cs V_33 hn0 hl1 h8) hZ (w127 hw) (w19 hw) (by decide) (by decide)) (g := (mkF m 23 #[.val (.ref b), .val (.int (0 : Int32)), .val (.int nn), .val (.ref a_9), .val (.int i_25), .unset] [(.int nn), (.int (0 : Int32)), (.ref b)])) rfl (by rw [hml]; rfl) (argsL := [(.ref b), (.int (0 : Int32)), (.int nn)]) (rest := []) (lenOf pd_158 rfl) rfl (by show 2 * 0 + _ ≤ _; exact Nat.le_of_eq rfl) (hb hby d6_23) (fun _ _ => ⟨rfl, rfl, (by decide : 1 + 1 ≤ _), (by decide : 8 + 16 ≤ _)⟩)
    dsimp only [Pt.U, Pt.locs, Pt.cells, Pt.slots] at X_35 l_35 y_35 z_35 st_35 hQ_35
    have X_35 := own_cast X_35 l_35 y_35 z_35
    obtain ⟨a_36, k_37, rfl, N_38, K_39, g_40, g_41⟩ := hQ_35
    have N_42 := Fr.app N_32 N_38
    have O_43 : Old Z n0 T_35.heap := (O_34.keep K_39 all0)
    obtain ⟨_, _, ⟨T_44, L_44, k_44, n_44⟩, -, X_44, ⟨Lc_44, hQ_44, l_44, y_44, z_44⟩, st_44⟩ := Jvm.LawKit.callS X_35 hx (y := M107) hown (mvT hZ (w141 hw)) (mvT hZ (w142 hw)) (mvT hZ (w19 hw)) (mvT hZ (w143 hw)) (by decide) (backOf (W := 0) (rm_getc l Z a0 hw [] G1 G3 HG T_35.heap n0 O_43 a_36 k_37 nn cs i_25 g_41 hn0 hl1 hu h8 g_28 g_29) hZ (w143 hw) (w19 hw) (by decide) (by decide)) (g := (mkF m 32 #[.val (.ref b), .val (.int (0 : Int32)), .val (.int nn), .val (.ref a_9), .val (.int i_25), .val (.ref a_36)] [(.int i_25), (.ref a_36)])) rfl (by rw [hml]; rfl) (argsL := [(.ref a_36), (.int i_25)]) (rest := []) (lenOf pd_166 rfl) rfl (by show 2 * 0 + _ ≤ _; exact Nat.le_of_eq rfl) (hb hby d6_32) (fun _ _ => ⟨rfl, rfl, (by decide : 2 + 0 ≤ _), (by decide : 24 + 0 ≤ _)⟩)
    dsimp only [Pt.U, Pt.locs, Pt.cells, Pt.slots] at X_44 l_44 y_44 z_44 st_44 hQ_44
    have X_44 := own_cast X_44 l_44 y_44 z_44
    obtain ⟨rfl, N_45, e_46⟩ := hQ_44
    have N_47 := Fr.app N_42 N_45
    have e_48 : T_44.heap = T_35.heap := e_46
    have C_49 : Steps p.tables e below S0 (T_44.setTop (mkF m 56 #[.val (.ref b), .val (.int (0 : Int32)), .val (.int nn), .val (.ref a_9), .val (.int i_25), .val (.ref a_36)] [(.ref a_36)])) := by
      refine C_15.trans ?_
      refine st_14 _ ?_
      refine XS.istore X_14.here hx rfl (hb hby d6_12) rfl (l' := #[.val (.ref b), .val (.int (0 : Int32)), .val (.int nn), .val (.ref a_9), .val (.int i_25), .unset]) rfl ?_
      refine XS.iload X_14.here hx rfl (hb hby d6_14) rfl ?_
      refine XS.iloadN X_14.here hx rfl (hb hby d6_16) rfl ?_
      refine XS.icmpNo X_14.here hx rfl (hb hby d6_17) rfl (ii_eq_f g_31) ?_
      refine XS.aloadN X_14.here hx rfl (hb hby d6_20) rfl rfl ?_
      refine XS.iloadN X_14.here hx rfl (hb hby d6_21) rfl ?_
      refine XS.iloadN X_14.here hx rfl (hb hby d6_22) rfl ?_
      show Steps p.tables e below (T_14.setTop (mkF m 23 #[.val (.ref b), .val (.int (0 : Int32)), .val (.int nn), .val (.ref a_9), .val (.int i_25), .unset] [(.int nn), (.int (0 : Int32)), (.ref b)])) _
      refine st_35 _ ?_
      refine XS.astore X_35.here hx rfl (hb hby d6_26) rfl rfl (l' := #[.val (.ref b), .val (.int (0 : Int32)), .val (.int nn), .val (.ref a_9), .val (.int i_25), .val (.ref a_36)]) rfl ?_
      refine XS.aload X_35.here hx rfl (hb hby d6_28) rfl rfl ?_
      refine XS.iload X_35.here hx rfl (hb hby d6_30) rfl ?_
      refine st_44 _ ?_
      refine XS.sipush X_44.here hx rfl (hb hby d6_35) ?_
      refine XS.icmpYes X_44.here hx rfl (pc0 := 38) (pc' := 54) rfl (hb hby d6_38) rfl (ii_gt_t g_30) (by decide) (by decide) ?_
      refine XS.aload X_44.here hx rfl (hb hby d6_54) rfl rfl ?_
      show Steps p.tables e below (T_44.setTop (mkF m 56 #[.val (.ref b), .val (.int (0 : Int32)), .val (.int nn), .val (.ref a_9), .val (.int i_25), .val (.ref a_36)] [(.ref a_36)])) _
      exact Steps.refl _
    have K_50 : Keep h0 T_35.heap [] := ((((Keep.refl _ _).ext E_6).trans K_27 (allS (Or.inr (Nat.le_trans (Nat.le_refl _) (Nat.le_of_eq g_10.symm))) all0)).trans K_39 all0)
    obtain ⟨fs, hr, hrun, hended, hW, hsame⟩ := X_44.leave (v := some (.ref a_36)) (fun h => by rw [Bd.returns] at h; cases h)
    refine ⟨_, _, C_49.trans (retOut X_44 hx Bd.returns rfl (Or.inr (Or.inr (Or.inr (Or.inr ⟨rfl, rfl, rfl⟩)))) (hb hby d6_56) hr), hrun, hended, _, _, rfl, ?_, ⟨_, rfl⟩, hW, hsame.mono (by decide) (by decide)⟩
    show Q_cmp3g Z G1 G3 b k nn cs h0 n0 (some (.ref a_36)) T_44.heap _
    rw [e_48]
    exact Or.inr (⟨a_36, k_37, rfl, N_47, K_50, (Nat.le_trans (Nat.le_trans E_6.1 K_27.1) g_40), g_41⟩)
abbrev M174 : MethodName := ⟨"java/lang/StringUTF16", "coderFromArrayLen", "([BI)B"⟩
theorem d7_0 : decode jdk_52_method_15_code 0 = .ok (.iload_n 1, 1) := by decide +kernel
theorem d7_1 : decode jdk_52_method_15_code 1 = .ok (.aload_n 0, 1) := by decide +kernel
theorem d7_2 : decode jdk_52_method_15_code 2 = .ok (.arraylength, 1) := by decide +kernel
theorem d7_3 : decode jdk_52_method_15_code 3 = .ok (.isub, 1) := by decide +kernel
theorem d7_4 : decode jdk_52_method_15_code 4 = .ok (.bipush 31, 2) := by decide +kernel
theorem d7_6 : decode jdk_52_method_15_code 6 = .ok (.iushr, 1) := by decide +kernel
theorem d7_7 : decode jdk_52_method_15_code 7 = .ok (.i2b, 1) := by decide +kernel
theorem d7_8 : decode jdk_52_method_15_code 8 = .ok (.ireturn, 1) := by decide +kernel
abbrev R_codl : Room := { frames := 0, cells := 0, slots := 0, locals := 0 }
def Q_codl (Z : State) (G1 : Int32) (G3 : Value) (t : Addr) (kt : ClassId) (nn : Int32) (ys : List Value) (h0 : Heap) (n0 : Nat) (v : Option Value) (h : Heap) (L : List Loc) : Prop := (v = some (.int (0 : Int32)) ∧ Fr n0 L ∧ h = h0)
set_option maxRecDepth 65536 in
set_option maxHeartbeats 40000000 in
theorem rm_codl (l : Launch) (Z : State) (a0 : Array Value) (hw : ∀ d ∈ tables_1, d.before a0 Z = true) (ws : List Jvm.Cond) (G1 : Int32) (G3 : Value) (HG : own_G l Z a0 G1 G3) (h0 : Heap) (n0 : Nat) (X00 : Old Z n0 h0) (t : Addr) (kt : ClassId) (nn : Int32) (ys : List Value) (hp0 : Arv Z h0 t kt .byte nn ys (.int (0 : Int32))) :
    own_CP l Z M174 jdk_52_method_15_code 2 (some .byte) ws R_codl #[(.ref t), (.int nn)] h0 (Q_codl Z G1 G3 t kt nn ys h0 n0) := by
  refine own_P (plainFor_of_name pn_2) ?_
  intro p e s m below meth c s₁ S0 Bd hZ hh hx hby hml hown hnm X0 e0 hS0d
  obtain ⟨O1, P1, O3f, rG3, OAD, OHI, OLO⟩ := id HG
  have N0 := Fr.nil n0
  have C0 : Steps p.tables e below S0 (s₁.setTop (mkF m 0 #[.val (.ref t), .val (.int nn)] [])) := by rw [hS0d]; exact castTop (ef_108 m t nn) (Steps.refl _)
  obtain ⟨c_1, A_2, q_3, S_4, M_5, H_6, U_7⟩ := id hp0
  have C_8 : Steps p.tables e below S0 (s₁.setTop (mkF m 8 #[.val (.ref t), .val (.int nn)] [(.int ((((nn - nn).toUInt32 >>> ((31 : Int32) &&& 31).toUInt32).toInt32).toInt8.toInt32))])) := by
    refine C0.trans ?_
    refine XS.iloadN X0.here hx rfl (hb hby d7_0) rfl ?_
    refine XS.aloadN X0.here hx rfl (hb hby d7_1) rfl rfl ?_
    refine X0.arraylength hx (by rw [e0]; exact A_2.1) (State.isArrayOf_alike hZ.alike A_2.2.1) (g := (mkF m 2 #[.val (.ref t), .val (.int nn)] [(.ref t), (.int nn)])) rfl rfl (hb hby d7_2) _ ?_
    rw [len_of S_4 M_5]
    refine XS.isub X0.here hx rfl (hb hby d7_3) rfl ?_
    refine XS.bipush X0.here hx rfl (hb hby d7_4) ?_
    refine XS.iushr X0.here hx rfl (hb hby d7_6) rfl ?_
    refine XS.i2b X0.here hx rfl (hb hby d7_7) rfl ?_
    exact Steps.refl _
  obtain ⟨fs, hr, hrun, hended, hW, hsame⟩ := X0.leave (v := some (.int (nar .byte ((((nn - nn).toUInt32 >>> ((31 : Int32) &&& 31).toUInt32).toInt32).toInt8.toInt32)))) (fun h => by rw [Bd.returns] at h; cases h)
  refine ⟨_, _, C_8.trans (retN X0 hx (t := .byte) Bd.returns (by simp) (hb hby d7_8) hr), hrun, hended, _, _, rfl, ?_, ⟨_, rfl⟩, hW, hsame.mono (by decide) (by decide)⟩
  show Q_codl Z G1 G3 t kt nn ys h0 n0 (some (.int (nar .byte ((((nn - nn).toUInt32 >>> ((31 : Int32) &&& 31).toUInt32).toInt32).toInt8.toInt32)))) s₁.heap _
  rw [e0]
  exact ⟨(congrArg (fun q => some (Value.int q)) (own_cod nn)), N0, rfl⟩
abbrev R_codu : Room := { frames := 0, cells := 0, slots := 0, locals := 0 }
def Q_codu (Z : State) (G1 : Int32) (G3 : Value) (t : Addr) (kt : ClassId) (nn : Int32) (ys : List Value) (h0 : Heap) (n0 : Nat) (v : Option Value) (h : Heap) (L : List Loc) : Prop := (v = some (.int (1 : Int32)) ∧ Fr n0 L ∧ h = h0)
set_option maxRecDepth 65536 in
set_option maxHeartbeats 40000000 in
theorem rm_codu (l : Launch) (Z : State) (a0 : Array Value) (hw : ∀ d ∈ tables_1, d.before a0 Z = true) (ws : List Jvm.Cond) (G1 : Int32) (G3 : Value) (HG : own_G l Z a0 G1 G3) (h0 : Heap) (n0 : Nat) (X00 : Old Z n0 h0) (t : Addr) (kt : ClassId) (nn : Int32) (ys : List Value) (hp0 : Arv Z h0 t kt .byte (own_db nn) ys (.int (0 : Int32))) (hp : (0 : Int32) < nn) (h8 : nn.toNatClampNeg ≤ 8) :
    own_CP l Z M174 jdk_52_method_15_code 2 (some .byte) ws R_codu #[(.ref t), (.int nn)] h0 (Q_codu Z G1 G3 t kt nn ys h0 n0) := by
  refine own_P (plainFor_of_name pn_2) ?_
  intro p e s m below meth c s₁ S0 Bd hZ hh hx hby hml hown hnm X0 e0 hS0d
  obtain ⟨O1, P1, O3f, rG3, OAD, OHI, OLO⟩ := id HG
  have N0 := Fr.nil n0
  have C0 : Steps p.tables e below S0 (s₁.setTop (mkF m 0 #[.val (.ref t), .val (.int nn)] [])) := by rw [hS0d]; exact castTop (ef_108 m t nn) (Steps.refl _)
  obtain ⟨c_1, A_2, q_3, S_4, M_5, H_6, U_7⟩ := id hp0
  have C_8 : Steps p.tables e below S0 (s₁.setTop (mkF m 8 #[.val (.ref t), .val (.int nn)] [(.int ((((nn - (own_db nn)).toUInt32 >>> ((31 : Int32) &&& 31).toUInt32).toInt32).toInt8.toInt32))])) := by
    refine C0.trans ?_
    refine XS.iloadN X0.here hx rfl (hb hby d7_0) rfl ?_
    refine XS.aloadN X0.here hx rfl (hb hby d7_1) rfl rfl ?_
    refine X0.arraylength hx (by rw [e0]; exact A_2.1) (State.isArrayOf_alike hZ.alike A_2.2.1) (g := (mkF m 2 #[.val (.ref t), .val (.int nn)] [(.ref t), (.int nn)])) rfl rfl (hb hby d7_2) _ ?_
    rw [len_of S_4 M_5]
    refine XS.isub X0.here hx rfl (hb hby d7_3) rfl ?_
    refine XS.bipush X0.here hx rfl (hb hby d7_4) ?_
    refine XS.iushr X0.here hx rfl (hb hby d7_6) rfl ?_
    refine XS.i2b X0.here hx rfl (hb hby d7_7) rfl ?_
    exact Steps.refl _
  obtain ⟨fs, hr, hrun, hended, hW, hsame⟩ := X0.leave (v := some (.int (nar .byte ((((nn - (own_db nn)).toUInt32 >>> ((31 : Int32) &&& 31).toUInt32).toInt32).toInt8.toInt32)))) (fun h => by rw [Bd.returns] at h; cases h)
  refine ⟨_, _, C_8.trans (retN X0 hx (t := .byte) Bd.returns (by simp) (hb hby d7_8) hr), hrun, hended, _, _, rfl, ?_, ⟨_, rfl⟩, hW, hsame.mono (by decide) (by decide)⟩
  show Q_codu Z G1 G3 t kt nn ys h0 n0 (some (.int (nar .byte ((((nn - (own_db nn)).toUInt32 >>> ((31 : Int32) &&& 31).toUInt32).toInt32).toInt8.toInt32)))) s₁.heap _
  rw [e0]
  exact ⟨(congrArg (fun q => some (Value.int q)) (own_codun hp h8)), N0, rfl⟩
abbrev M183 : MethodName := ⟨"java/lang/String", "<init>", "([CIILjava/lang/Void;)V"⟩
theorem ef_184 (m : MethodId) (x0 : Addr) (x1 : Addr) (x2 : Int32) (x3 : Int32) : entryFrame m #[(.ref x0), (.ref x1), (.int x2), (.int x3), .null] 6 = mkF m 0 #[.val (.ref x0), .val (.ref x1), .val (.int x2), .val (.int x3), .val .null, .unset] [] := by first | (simp [entryFrame, mkF, argsToLocals, Value.category]; done) | rfl
theorem pn_185 : plainName "java/lang/String" = true := by first | (simp [plainName, overriddenIn]; done) | decide +kernel
theorem d8_0 : decode jdk_42_method_149_code 0 = .ok (.aload_n 0, 1) := by decide +kernel
theorem w13 {Z : State} {a0 : Array Value} (hw : ∀ d ∈ tables_1, d.before a0 Z = true) : Jvm.Cond.before (Jvm.Cond.methodLink "java/lang/String" (1 : Nat) ({ cls := "java/lang/Object", name := "<init>", desc := "()V" } : Jvm.MethodName)) a0 Z = true := hw _ (List.mem_of_getElem? (i := 13) rfl)
theorem w14 {Z : State} {a0 : Array Value} (hw : ∀ d ∈ tables_1, d.before a0 Z = true) : Jvm.Cond.before (Jvm.Cond.instanceMethod ({ cls := "java/lang/Object", name := "<init>", desc := "()V" } : Jvm.MethodName)) a0 Z = true := hw _ (List.mem_of_getElem? (i := 14) rfl)
theorem w15 {Z : State} {a0 : Array Value} (hw : ∀ d ∈ tables_1, d.before a0 Z = true) : Jvm.Cond.before (Jvm.Cond.code ({ cls := "java/lang/Object", name := "<init>", desc := "()V" } : Jvm.MethodName) object_method_1_code (1 : Nat) (Option.none : Option Jvm.ClassFile.FieldType)) a0 Z = true := hw _ (List.mem_of_getElem? (i := 15) rfl)
theorem d8_1 : decode jdk_42_method_149_code 1 = .ok (.invokespecial 1, 3) := by decide +kernel
theorem d8_4 : decode jdk_42_method_149_code 4 = .ok (.iload_n 3, 1) := by decide +kernel
theorem d8_5 : decode jdk_42_method_149_code 5 = .ok (.ifCond .ne 22, 3) := by decide +kernel
theorem w16 {Z : State} {a0 : Array Value} (hw : ∀ d ∈ tables_1, d.before a0 Z = true) : Jvm.Cond.before (Jvm.Cond.fieldLink "java/lang/String" (38 : Nat) "java/lang/String" "COMPACT_STRINGS" "Z") a0 Z = true := hw _ (List.mem_of_getElem? (i := 16) rfl)
theorem d8_27 : decode jdk_42_method_149_code 27 = .ok (.getstatic 38, 3) := by decide +kernel
theorem d8_30 : decode jdk_42_method_149_code 30 = .ok (.ifCond .eq 28, 3) := by decide +kernel
theorem d8_33 : decode jdk_42_method_149_code 33 = .ok (.aload_n 1, 1) := by decide +kernel
theorem d8_34 : decode jdk_42_method_149_code 34 = .ok (.iload_n 2, 1) := by decide +kernel
theorem d8_35 : decode jdk_42_method_149_code 35 = .ok (.iload_n 3, 1) := by decide +kernel
theorem w20 {Z : State} {a0 : Array Value} (hw : ∀ d ∈ tables_1, d.before a0 Z = true) : Jvm.Cond.before (Jvm.Cond.code ({ cls := "java/lang/StringUTF16", name := "compress", desc := "([CII)[B" } : Jvm.MethodName) jdk_52_method_16_code (6 : Nat) (Option.some (Jvm.ClassFile.FieldType.array Jvm.ClassFile.FieldType.byte))) a0 Z = true := hw _ (List.mem_of_getElem? (i := 20) rfl)
theorem d8_36 : decode jdk_42_method_149_code 36 = .ok (.invokestatic 177, 3) := by decide +kernel
theorem w17 {Z : State} {a0 : Array Value} (hw : ∀ d ∈ tables_1, d.before a0 Z = true) : Jvm.Cond.before (Jvm.Cond.methodLink "java/lang/String" (177 : Nat) ({ cls := "java/lang/StringUTF16", name := "compress", desc := "([CII)[B" } : Jvm.MethodName)) a0 Z = true := hw _ (List.mem_of_getElem? (i := 17) rfl)
theorem w18 {Z : State} {a0 : Array Value} (hw : ∀ d ∈ tables_1, d.before a0 Z = true) : Jvm.Cond.before (Jvm.Cond.static ({ cls := "java/lang/StringUTF16", name := "compress", desc := "([CII)[B" } : Jvm.MethodName)) a0 Z = true := hw _ (List.mem_of_getElem? (i := 18) rfl)
theorem d8_39 : decode jdk_42_method_149_code 39 = .ok (.astore 5, 2) := by decide +kernel
theorem d8_41 : decode jdk_42_method_149_code 41 = .ok (.aload_n 0, 1) := by decide +kernel
theorem d8_42 : decode jdk_42_method_149_code 42 = .ok (.aload 5, 2) := by decide +kernel
theorem d8_44 : decode jdk_42_method_149_code 44 = .ok (.iload_n 3, 1) := by decide +kernel
theorem w27 {Z : State} {a0 : Array Value} (hw : ∀ d ∈ tables_1, d.before a0 Z = true) : Jvm.Cond.before (Jvm.Cond.code ({ cls := "java/lang/StringUTF16", name := "coderFromArrayLen", desc := "([BI)B" } : Jvm.MethodName) jdk_52_method_15_code (2 : Nat) (Option.some Jvm.ClassFile.FieldType.byte)) a0 Z = true := hw _ (List.mem_of_getElem? (i := 27) rfl)
theorem pd_208 : parseMethodDescriptor "([BI)B" = some ⟨[(.array .byte), .int], some .byte⟩ := by decide +kernel
theorem d8_45 : decode jdk_42_method_149_code 45 = .ok (.invokestatic 47, 3) := by decide +kernel
theorem w25 {Z : State} {a0 : Array Value} (hw : ∀ d ∈ tables_1, d.before a0 Z = true) : Jvm.Cond.before (Jvm.Cond.methodLink "java/lang/String" (47 : Nat) ({ cls := "java/lang/StringUTF16", name := "coderFromArrayLen", desc := "([BI)B" } : Jvm.MethodName)) a0 Z = true := hw _ (List.mem_of_getElem? (i := 25) rfl)
theorem w26 {Z : State} {a0 : Array Value} (hw : ∀ d ∈ tables_1, d.before a0 Z = true) : Jvm.Cond.before (Jvm.Cond.static ({ cls := "java/lang/StringUTF16", name := "coderFromArrayLen", desc := "([BI)B" } : Jvm.MethodName)) a0 Z = true := hw _ (List.mem_of_getElem? (i := 26) rfl)
theorem w28 {Z : State} {a0 : Array Value} (hw : ∀ d ∈ tables_1, d.before a0 Z = true) : Jvm.Cond.before (Jvm.Cond.fieldLink "java/lang/String" (15 : Nat) "java/lang/String" "coder" "B") a0 Z = true := hw _ (List.mem_of_getElem? (i := 28) rfl)
theorem w29 {Z : State} {a0 : Array Value} (hw : ∀ d ∈ tables_1, d.before a0 Z = true) : Jvm.Cond.before (Jvm.Cond.laysFinal "java/lang/String" "java/lang/String" "coder" "B") a0 Z = true := hw _ (List.mem_of_getElem? (i := 29) rfl)
theorem w4 {Z : State} {a0 : Array Value} (hw : ∀ d ∈ tables_1, d.before a0 Z = true) : Jvm.Cond.before (Jvm.Cond.instantiable "java/lang/String" (4 : Nat)) a0 Z = true := hw _ (List.mem_of_getElem? (i := 4) rfl)
theorem d8_48 : decode jdk_42_method_149_code 48 = .ok (.putfield 15, 3) := by decide +kernel
theorem d8_51 : decode jdk_42_method_149_code 51 = .ok (.aload_n 0, 1) := by decide +kernel
theorem d8_52 : decode jdk_42_method_149_code 52 = .ok (.aload 5, 2) := by decide +kernel
theorem w30 {Z : State} {a0 : Array Value} (hw : ∀ d ∈ tables_1, d.before a0 Z = true) : Jvm.Cond.before (Jvm.Cond.fieldLink "java/lang/String" (9 : Nat) "java/lang/String" "value" "[B") a0 Z = true := hw _ (List.mem_of_getElem? (i := 30) rfl)
theorem w31 {Z : State} {a0 : Array Value} (hw : ∀ d ∈ tables_1, d.before a0 Z = true) : Jvm.Cond.before (Jvm.Cond.laysFinal "java/lang/String" "java/lang/String" "value" "[B") a0 Z = true := hw _ (List.mem_of_getElem? (i := 31) rfl)
theorem d8_54 : decode jdk_42_method_149_code 54 = .ok (.putfield 9, 3) := by decide +kernel
theorem d8_57 : decode jdk_42_method_149_code 57 = .ok (.return_, 1) := by decide +kernel
abbrev R_si4g : Room := { frames := 4, cells := 2, slots := 24, locals := 57 }
def Q_si4g (Z : State) (G1 : Int32) (G3 : Value) (x : Addr) (b : Addr) (k : ClassId) (nn : Int32) (cs : List Int32) (h0 : Heap) (n0 : Nat) (v : Option Value) (h : Heap) (L : List Loc) : Prop := (v = none ∧ Fr n0 L ∧ Keep h0 h [x] ∧ (own_S Z h x nn cs))
set_option maxRecDepth 65536 in
set_option maxHeartbeats 40000000 in
theorem rm_si4g (l : Launch) (Z : State) (a0 : Array Value) (hw : ∀ d ∈ tables_1, d.before a0 Z = true) (ws : List Jvm.Cond) (G1 : Int32) (G3 : Value) (HG : own_G l Z a0 G1 G3) (h0 : Heap) (n0 : Nat) (X00 : Old Z n0 h0) (x : Addr) (b : Addr) (k : ClassId) (nn : Int32) (cs : List Int32) (hp0 : Exa Z h0 x "java/lang/String") (hp1 : Fld Z h0 x "java/lang/String" "value" "[B" .null) (hp2 : Fld Z h0 x "java/lang/String" "coder" "B" (.int (0 : Int32))) (hp3 : n0 ≤ x) (hp4 : Arv Z h0 b k .char nn (own_iv cs) (.int (0 : Int32))) (hn0 : ¬ (nn < (0 : Int32))) (hnz : ¬ (nn = (0 : Int32))) (hl1 : cs.length = nn.toNatClampNeg) (hu : own_u16 cs) (h8 : nn.toNatClampNeg ≤ 8) :
    own_CP l Z M183 jdk_42_method_149_code 6 none ws R_si4g #[(.ref x), (.ref b), (.int (0 : Int32)), (.int nn), .null] h0 (Q_si4g Z G1 G3 x b k nn cs h0 n0) := by
  refine own_P (plainFor_of_name pn_185) ?_
  intro p e s m below meth c s₁ S0 Bd hZ hh hx hby hml hown hnm X0 e0 hS0d
  obtain ⟨O1, P1, O3f, rG3, OAD, OHI, OLO⟩ := id HG
  have N0 := Fr.nil n0
  have C0 : Steps p.tables e below S0 (s₁.setTop (mkF m 0 #[.val (.ref x), .val (.ref b), .val (.int (0 : Int32)), .val (.int nn), .val .null, .unset] [])) := by rw [hS0d]; exact castTop (ef_184 m x b (0 : Int32) nn) (Steps.refl _)
  obtain ⟨T_1, X_2, e_3, st_4⟩ := initO X0 hx hZ hown (w13 hw) (w14 hw) (w15 hw) e0 (g := (mkF m 1 #[.val (.ref x), .val (.ref b), .val (.int (0 : Int32)), .val (.int nn), .val .null, .unset] [(.ref x)])) rfl (by rw [hml]; rfl) rfl (hb hby d8_1) (by decide) (W := 0) (by show 2 * 0 + _ ≤ _; exact Nat.le_of_eq rfl) (by decide)
  obtain ⟨T_5, X_6, e_7, st_8⟩ := getS X_2 hx hZ (host := "") hown (w16 hw) Via.refl e_3 (O1.ext X00.2) (g := (mkF m 27 #[.val (.ref x), .val (.ref b), .val (.int (0 : Int32)), .val (.int nn), .val .null, .unset] [])) rfl (hb hby d8_27)
  obtain ⟨_, _, ⟨T_9, L_9, k_9, n_9⟩, -, X_9, ⟨Lc_9, hQ_9, l_9, y_9, z_9⟩, st_9⟩ := Jvm.LawKit.callS X_6 hx (y := M133) hown (mvT hZ (w17 hw)) (mvT hZ (w18 hw)) (mvT hZ (w19 hw)) (mvT hZ (w20 hw)) (by decide) (backOf (W := 0) (rm_cmp3g l Z a0 hw [] G1 G3 HG h0 n0 X00 b k nn cs hp4 hn0 hl1 hu h8) hZ (w20 hw) (w19 hw) (by decide) (by decide)) (g := (mkF m 36 #[.val (.ref x), .val (.ref b), .val (.int (0 : Int32)), .val (.int nn), .val .null, .unset] [(.int nn), (.int (0 : Int32)), (.ref b)])) rfl (by rw [hml]; rfl) (argsL := [(.ref b), (.int (0 : Int32)), (.int nn)]) (rest := []) (lenOf pd_158 rfl) rfl (by show 2 * 0 + _ ≤ _; exact Nat.le_of_eq rfl) (hb hby d8_36) (fun _ _ => ⟨rfl, e_7, (by decide : 0 + 2 ≤ _), (by decide : 0 + 24 ≤ _)⟩)
  dsimp only [Pt.U, Pt.locs, Pt.cells, Pt.slots] at X_9 l_9 y_9 z_9 st_9 hQ_9
  have X_9 := own_cast X_9 l_9 y_9 z_9
  have C_10 : Steps p.tables e below S0 (T_5.setTop (mkF m 36 #[.val (.ref x), .val (.ref b), .val (.int (0 : Int32)), .val (.int nn), .val .null, .unset] [(.int nn), (.int (0 : Int32)), (.ref b)])) := by
    refine C0.trans ?_
    refine XS.aloadN X0.here hx rfl (hb hby d8_0) rfl rfl ?_
    refine st_4 _ ?_
    refine XS.iloadN X_2.here hx rfl (hb hby d8_4) rfl ?_
    refine XS.ifYes X_2.here hx rfl (pc0 := 5) (pc' := 27) rfl (hb hby d8_5) rfl (i0_ne_t hnz) (by decide) (by decide) ?_
    refine st_8 _ ?_
    refine XS.ifNo X_6.here hx rfl (hb hby d8_30) rfl (i0_eq_f P1) ?_
    refine XS.aloadN X_6.here hx rfl (hb hby d8_33) rfl rfl ?_
    refine XS.iloadN X_6.here hx rfl (hb hby d8_34) rfl ?_
    show Steps p.tables e below (T_5.setTop (mkF m 35 #[.val (.ref x), .val (.ref b), .val (.int (0 : Int32)), .val (.int nn), .val .null, .unset] [(.int (0 : Int32)), (.ref b)])) _
    refine XS.iloadN X_6.here hx rfl (hb hby d8_35) rfl ?_
    exact Steps.refl _
  rcases hQ_9 with hQ_11 | hQ_12
  · skip
    obtain ⟨a_13, k_14, rfl, N_15, K_16, g_17, g_18, g_19⟩ := hQ_11
    have N_20 := Fr.app N0 N_15
    have O_21 : Old Z n0 T_9.heap := (X00.keep K_16 all0)
    obtain ⟨_, _, ⟨T_22, L_22, k_22, n_22⟩, -, X_22, ⟨Lc_22, hQ_22, l_22, y_22, z_22⟩, st_22⟩ := Jvm.LawKit.callS X_9 hx (y := M174) hown (mvT hZ (w25 hw)) (mvT hZ (w26 hw)) (mvT hZ (w19 hw)) (mvT hZ (w27 hw)) (by decide) (backOf (W := 1) (rm_codl l Z a0 hw [] G1 G3 HG T_9.heap n0 O_21 a_13 k_14 nn (own_iv (own_bs cs)) g_18) hZ (w27 hw) (w19 hw) (by decide) (by decide)) (g := (mkF m 45 #[.val (.ref x), .val (.ref b), .val (.int (0 : Int32)), .val (.int nn), .val .null, .val (.ref a_13)] [(.int nn), (.ref a_13), (.ref x)])) rfl (by rw [hml]; rfl) (argsL := [(.ref a_13), (.int nn)]) (rest := [(.ref x)]) (lenOf pd_208 rfl) rfl (by show 2 * 0 + _ ≤ _; exact Nat.le_of_eq rfl) (hb hby d8_45) (fun _ _ => ⟨rfl, rfl, (by decide : 2 + 0 ≤ _), (by decide : 24 + 0 ≤ _)⟩)
    dsimp only [Pt.U, Pt.locs, Pt.cells, Pt.slots] at X_22 l_22 y_22 z_22 st_22 hQ_22
    have X_22 := own_cast X_22 l_22 y_22 z_22
    obtain ⟨rfl, N_23, e_24⟩ := hQ_22
    have N_25 := Fr.app N_20 N_23
    have e_26 : T_22.heap = T_9.heap := e_24
    have F_27 : Fld Z T_9.heap x "java/lang/String" "coder" "B" (.int (0 : Int32)) := (hp2.keep K_16 nin0)
    have E_28 : Exa Z T_9.heap x "java/lang/String" := (hp0.keep K_16)
    obtain ⟨T_29, h_30, X_31, e_32, W_33, st_34⟩ := putF X_22 hx hZ hown (host := "") (Or.inl (w28 hw)) Via.refl e_26 F_27 E_28 (Or.inr ⟨(w29 hw), rfl, hnm⟩) (w4 hw) (ty := .byte) (by decide) rfl (by decide) (g := (mkF m 48 #[.val (.ref x), .val (.ref b), .val (.int (0 : Int32)), .val (.int nn), .val .null, .val (.ref a_13)] [(.int (0 : Int32)), (.ref x)])) rfl rfl (hb hby d8_48)
    have N_35 := Fr.snoc X_31 N_25 hp3
    have F_36 : Fld Z h_30 x "java/lang/String" "coder" "B" (.int (0 : Int32)) := F_27.same W_33
    have F_37 : Fld Z h_30 x "java/lang/String" "value" "[B" .null := ((hp1.keep K_16 nin0).other W_33 (Or.inr (slot_ne (Or.inr (w31 hw)) (Or.inr (w29 hw)) (by decide) (t := (.array .byte)) (by decide) (t' := .byte) (by decide))))
    have E_38 : Exa Z h_30 x "java/lang/String" := (E_28.wr W_33)
    obtain ⟨T_39, h_40, X_41, e_42, W_43, st_44⟩ := putF X_31 hx hZ hown (host := "") (Or.inl (w30 hw)) Via.refl e_32 F_37 E_38 (Or.inr ⟨(w31 hw), rfl, hnm⟩) (w4 hw) (ty := (.array .byte)) (by decide) rfl rfl (g := (mkF m 54 #[.val (.ref x), .val (.ref b), .val (.int (0 : Int32)), .val (.int nn), .val .null, .val (.ref a_13)] [(.ref a_13), (.ref x)])) rfl rfl (hb hby d8_54)
    have N_45 := Fr.snoc X_41 N_35 hp3
    have F_46 : Fld Z h_40 x "java/lang/String" "value" "[B" (.ref a_13) := F_37.same W_43
    have C_47 : Steps p.tables e below S0 (T_39.setTop (mkF m 57 #[.val (.ref x), .val (.ref b), .val (.int (0 : Int32)), .val (.int nn), .val .null, .val (.ref a_13)] [])) := by
      refine C_10.trans ?_
      refine st_9 _ ?_
      refine XS.astore X_9.here hx rfl (hb hby d8_39) rfl rfl (l' := #[.val (.ref x), .val (.ref b), .val (.int (0 : Int32)), .val (.int nn), .val .null, .val (.ref a_13)]) rfl ?_
      refine XS.aloadN X_9.here hx rfl (hb hby d8_41) rfl rfl ?_
      refine XS.aload X_9.here hx rfl (hb hby d8_42) rfl rfl ?_
      refine XS.iloadN X_9.here hx rfl (hb hby d8_44) rfl ?_
      refine st_22 _ ?_
      refine st_34 _ ?_
      refine XS.aloadN X_31.here hx rfl (hb hby d8_51) rfl rfl ?_
      show Steps p.tables e below (T_29.setTop (mkF m 52 #[.val (.ref x), .val (.ref b), .val (.int (0 : Int32)), .val (.int nn), .val .null, .val (.ref a_13)] [(.ref x)])) _
      refine XS.aload X_31.here hx rfl (hb hby d8_52) rfl rfl ?_
      refine st_44 _ ?_
      exact Steps.refl _
    have E_48 : Exa Z h_40 x "java/lang/String" := (E_38.wr W_43)
    have F_49 : Fld Z h_40 x "java/lang/String" "coder" "B" (.int (0 : Int32)) := (F_36.other W_43 (Or.inr (slot_ne (Or.inr (w29 hw)) (Or.inr (w31 hw)) (by decide) (t := .byte) (by decide) (t' := (.array .byte)) (by decide))))
    have V_50 : Arv Z h_40 a_13 k_14 .byte nn (own_iv (own_bs cs)) (.int (0 : Int32)) := ((g_18.other W_33 (Ne.symm (Nat.ne_of_lt (Nat.lt_of_lt_of_le hp0.lt (Nat.le_trans (Nat.le_refl _) g_17))))).other W_43 (Ne.symm (Nat.ne_of_lt (Nat.lt_of_lt_of_le hp0.lt (Nat.le_trans (Nat.le_refl _) g_17)))))
    have K_51 : Keep h0 h_40 [x] := ((((Keep.refl _ _).trans K_16 all0).wr W_33 (Or.inl (List.mem_of_getElem? (i := 0) rfl))).wr W_43 (Or.inl (List.mem_of_getElem? (i := 0) rfl)))
    obtain ⟨fs, hr, hrun, hended, hW, hsame⟩ := X_41.leave (v := none) (fun _ => rfl)
    refine ⟨_, _, C_47.trans (X_41.returnOut hx Bd.returns (hb hby d8_57) hr), hrun, hended, _, _, rfl, ?_, ⟨_, rfl⟩, hW, hsame.mono (by decide) (by decide)⟩
    show Q_si4g Z G1 G3 x b k nn cs h0 n0 (none) T_39.heap _
    rw [e_42]
    exact ⟨rfl, N_45, K_51, ⟨a_13, k_14, E_48, F_46, Or.inl ⟨F_49, g_19, V_50⟩⟩⟩
  · skip
    obtain ⟨a_52, k_53, rfl, N_54, K_55, g_56, g_57⟩ := hQ_12
    have N_58 := Fr.app N0 N_54
    have O_59 : Old Z n0 T_9.heap := (X00.keep K_55 all0)
    obtain ⟨_, _, ⟨T_60, L_60, k_60, n_60⟩, -, X_60, ⟨Lc_60, hQ_60, l_60, y_60, z_60⟩, st_60⟩ := Jvm.LawKit.callS X_9 hx (y := M174) hown (mvT hZ (w25 hw)) (mvT hZ (w26 hw)) (mvT hZ (w19 hw)) (mvT hZ (w27 hw)) (by decide) (backOf (W := 1) (rm_codu l Z a0 hw [] G1 G3 HG T_9.heap n0 O_59 a_52 k_53 nn (own_iv (own_ws cs)) g_57 (own_lpos hn0 hnz) h8) hZ (w27 hw) (w19 hw) (by decide) (by decide)) (g := (mkF m 45 #[.val (.ref x), .val (.ref b), .val (.int (0 : Int32)), .val (.int nn), .val .null, .val (.ref a_52)] [(.int nn), (.ref a_52), (.ref x)])) rfl (by rw [hml]; rfl) (argsL := [(.ref a_52), (.int nn)]) (rest := [(.ref x)]) (lenOf pd_208 rfl) rfl (by show 2 * 0 + _ ≤ _; exact Nat.le_of_eq rfl) (hb hby d8_45) (fun _ _ => ⟨rfl, rfl, (by decide : 2 + 0 ≤ _), (by decide : 24 + 0 ≤ _)⟩)
    dsimp only [Pt.U, Pt.locs, Pt.cells, Pt.slots] at X_60 l_60 y_60 z_60 st_60 hQ_60
    have X_60 := own_cast X_60 l_60 y_60 z_60
    obtain ⟨rfl, N_61, e_62⟩ := hQ_60
    have N_63 := Fr.app N_58 N_61
    have e_64 : T_60.heap = T_9.heap := e_62
    have F_65 : Fld Z T_9.heap x "java/lang/String" "coder" "B" (.int (0 : Int32)) := (hp2.keep K_55 nin0)
    have E_66 : Exa Z T_9.heap x "java/lang/String" := (hp0.keep K_55)
    obtain ⟨T_67, h_68, X_69, e_70, W_71, st_72⟩ := putF X_60 hx hZ hown (host := "") (Or.inl (w28 hw)) Via.refl e_64 F_65 E_66 (Or.inr ⟨(w29 hw), rfl, hnm⟩) (w4 hw) (ty := .byte) (by decide) rfl (by decide) (g := (mkF m 48 #[.val (.ref x), .val (.ref b), .val (.int (0 : Int32)), .val (.int nn), .val .null, .val (.ref a_52)] [(.int (1 : Int32)), (.ref x)])) rfl rfl (hb hby d8_48)
    have N_73 := Fr.snoc X_69 N_63 hp3
    have F_74 : Fld Z h_68 x "java/lang/String" "coder" "B" (.int (1 : Int32)) := F_65.same W_71
    have F_75 : Fld Z h_68 x "java/lang/String" "value" "[B" .null := ((hp1.keep K_55 nin0).other W_71 (Or.inr (slot_ne (Or.inr (w31 hw)) (Or.inr (w29 hw)) (by decide) (t := (.array .byte)) (by decide) (t' := .byte) (by decide))))
    have E_76 : Exa Z h_68 x "java/lang/String" := (E_66.wr W_71)
    obtain ⟨T_77, h_78, X_79, e_80, W_81, st_82⟩ := putF X_69 hx hZ hown (host := "") (Or.inl (w30 hw)) Via.refl e_70 F_75 E_76 (Or.inr ⟨(w31 hw), rfl, hnm⟩) (w4 hw) (ty := (.array .byte)) (by decide) rfl rfl (g := (mkF m 54 #[.val (.ref x), .val (.ref b), .val (.int (0 : Int32)), .val (.int nn), .val .null, .val (.ref a_52)] [(.ref a_52), (.ref x)])) rfl rfl (hb hby d8_54)
    have N_83 := Fr.snoc X_79 N_73 hp3
    have F_84 : Fld Z h_78 x "java/lang/String" "value" "[B" (.ref a_52) := F_75.same W_81
    have C_85 : Steps p.tables e below S0 (T_77.setTop (mkF m 57 #[.val (.ref x), .val (.ref b), .val (.int (0 : Int32)), .val (.int nn), .val .null, .val (.ref a_52)] [])) := by
      refine C_10.trans ?_
      refine st_9 _ ?_
      refine XS.astore X_9.here hx rfl (hb hby d8_39) rfl rfl (l' := #[.val (.ref x), .val (.ref b), .val (.int (0 : Int32)), .val (.int nn), .val .null, .val (.ref a_52)]) rfl ?_
      refine XS.aloadN X_9.here hx rfl (hb hby d8_41) rfl rfl ?_
      refine XS.aload X_9.here hx rfl (hb hby d8_42) rfl rfl ?_
      refine XS.iloadN X_9.here hx rfl (hb hby d8_44) rfl ?_
      refine st_60 _ ?_
      refine st_72 _ ?_
      refine XS.aloadN X_69.here hx rfl (hb hby d8_51) rfl rfl ?_
      show Steps p.tables e below (T_67.setTop (mkF m 52 #[.val (.ref x), .val (.ref b), .val (.int (0 : Int32)), .val (.int nn), .val .null, .val (.ref a_52)] [(.ref x)])) _
      refine XS.aload X_69.here hx rfl (hb hby d8_52) rfl rfl ?_
      refine st_82 _ ?_
      exact Steps.refl _
    have E_86 : Exa Z h_78 x "java/lang/String" := (E_76.wr W_81)
    have F_87 : Fld Z h_78 x "java/lang/String" "coder" "B" (.int (1 : Int32)) := (F_74.other W_81 (Or.inr (slot_ne (Or.inr (w29 hw)) (Or.inr (w31 hw)) (by decide) (t := .byte) (by decide) (t' := (.array .byte)) (by decide))))
    have V_88 : Arv Z h_78 a_52 k_53 .byte (own_db nn) (own_iv (own_ws cs)) (.int (0 : Int32)) := ((g_57.other W_71 (Ne.symm (Nat.ne_of_lt (Nat.lt_of_lt_of_le hp0.lt (Nat.le_trans (Nat.le_refl _) g_56))))).other W_81 (Ne.symm (Nat.ne_of_lt (Nat.lt_of_lt_of_le hp0.lt (Nat.le_trans (Nat.le_refl _) g_56)))))
    have K_89 : Keep h0 h_78 [x] := ((((Keep.refl _ _).trans K_55 all0).wr W_71 (Or.inl (List.mem_of_getElem? (i := 0) rfl))).wr W_81 (Or.inl (List.mem_of_getElem? (i := 0) rfl)))
    obtain ⟨fs, hr, hrun, hended, hW, hsame⟩ := X_79.leave (v := none) (fun _ => rfl)
    refine ⟨_, _, C_85.trans (X_79.returnOut hx Bd.returns (hb hby d8_57) hr), hrun, hended, _, _, rfl, ?_, ⟨_, rfl⟩, hW, hsame.mono (by decide) (by decide)⟩
    show Q_si4g Z G1 G3 x b k nn cs h0 n0 (none) T_77.heap _
    rw [e_80]
    exact ⟨rfl, N_83, K_89, ⟨a_52, k_53, E_86, F_84, Or.inr ⟨F_87, V_88⟩⟩⟩
abbrev M222 : MethodName := ⟨"java/lang/String", "<init>", "([C)V"⟩
theorem ef_223 (m : MethodId) (x0 : Addr) (x1 : Addr) : entryFrame m #[(.ref x0), (.ref x1)] 2 = mkF m 0 #[.val (.ref x0), .val (.ref x1)] [] := by first | (simp [entryFrame, mkF, argsToLocals, Value.category]; done) | rfl
theorem d9_0 : decode jdk_42_method_3_code 0 = .ok (.aload_n 0, 1) := by decide +kernel
theorem d9_1 : decode jdk_42_method_3_code 1 = .ok (.aload_n 1, 1) := by decide +kernel
theorem d9_2 : decode jdk_42_method_3_code 2 = .ok (.iconst 0, 1) := by decide +kernel
theorem d9_3 : decode jdk_42_method_3_code 3 = .ok (.aload_n 1, 1) := by decide +kernel
theorem d9_4 : decode jdk_42_method_3_code 4 = .ok (.arraylength, 1) := by decide +kernel
theorem d9_5 : decode jdk_42_method_3_code 5 = .ok (.aconst_null, 1) := by decide +kernel
theorem w12 {Z : State} {a0 : Array Value} (hw : ∀ d ∈ tables_1, d.before a0 Z = true) : Jvm.Cond.before (Jvm.Cond.code ({ cls := "java/lang/String", name := "<init>", desc := "([CIILjava/lang/Void;)V" } : Jvm.MethodName) jdk_42_method_149_code (6 : Nat) (Option.none : Option Jvm.ClassFile.FieldType)) a0 Z = true := hw _ (List.mem_of_getElem? (i := 12) rfl)
theorem w5 {Z : State} {a0 : Array Value} (hw : ∀ d ∈ tables_1, d.before a0 Z = true) : Jvm.Cond.before (Jvm.Cond.initialized "java/lang/String") a0 Z = true := hw _ (List.mem_of_getElem? (i := 5) rfl)
theorem pd_232 : parseMethodDescriptor "([CIILjava/lang/Void;)V" = some ⟨[(.array .char), .int, .int, (.object "java/lang/Void")], none⟩ := by decide +kernel
theorem d9_6 : decode jdk_42_method_3_code 6 = .ok (.invokespecial 27, 3) := by decide +kernel
theorem w9 {Z : State} {a0 : Array Value} (hw : ∀ d ∈ tables_1, d.before a0 Z = true) : Jvm.Cond.before (Jvm.Cond.methodLink "java/lang/String" (27 : Nat) ({ cls := "java/lang/String", name := "<init>", desc := "([CIILjava/lang/Void;)V" } : Jvm.MethodName)) a0 Z = true := hw _ (List.mem_of_getElem? (i := 9) rfl)
theorem w10 {Z : State} {a0 : Array Value} (hw : ∀ d ∈ tables_1, d.before a0 Z = true) : Jvm.Cond.before (Jvm.Cond.instanceMethod ({ cls := "java/lang/String", name := "<init>", desc := "([CIILjava/lang/Void;)V" } : Jvm.MethodName)) a0 Z = true := hw _ (List.mem_of_getElem? (i := 10) rfl)
theorem d9_9 : decode jdk_42_method_3_code 9 = .ok (.return_, 1) := by decide +kernel
abbrev R_si1g : Room := { frames := 5, cells := 2, slots := 24, locals := 74 }
def Q_si1g (Z : State) (G1 : Int32) (G3 : Value) (x : Addr) (b : Addr) (k : ClassId) (nn : Int32) (cs : List Int32) (h0 : Heap) (n0 : Nat) (v : Option Value) (h : Heap) (L : List Loc) : Prop := (v = none ∧ Fr n0 L ∧ Keep h0 h [x] ∧ (own_S Z h x nn cs))
set_option maxRecDepth 65536 in
set_option maxHeartbeats 40000000 in
theorem rm_si1g (l : Launch) (Z : State) (a0 : Array Value) (hw : ∀ d ∈ tables_1, d.before a0 Z = true) (ws : List Jvm.Cond) (G1 : Int32) (G3 : Value) (HG : own_G l Z a0 G1 G3) (h0 : Heap) (n0 : Nat) (X00 : Old Z n0 h0) (x : Addr) (b : Addr) (k : ClassId) (nn : Int32) (cs : List Int32) (hp0 : Exa Z h0 x "java/lang/String") (hp1 : Fld Z h0 x "java/lang/String" "value" "[B" .null) (hp2 : Fld Z h0 x "java/lang/String" "coder" "B" (.int (0 : Int32))) (hp3 : n0 ≤ x) (hp4 : Arv Z h0 b k .char nn (own_iv cs) (.int (0 : Int32))) (hn0 : ¬ (nn < (0 : Int32))) (hnz : ¬ (nn = (0 : Int32))) (hl1 : cs.length = nn.toNatClampNeg) (hu : own_u16 cs) (h8 : nn.toNatClampNeg ≤ 8) :
    own_CP l Z M222 jdk_42_method_3_code 2 none ws R_si1g #[(.ref x), (.ref b)] h0 (Q_si1g Z G1 G3 x b k nn cs h0 n0) := by
  refine own_P (plainFor_of_name pn_185) ?_
  intro p e s m below meth c s₁ S0 Bd hZ hh hx hby hml hown hnm X0 e0 hS0d
  obtain ⟨O1, P1, O3f, rG3, OAD, OHI, OLO⟩ := id HG
  have N0 := Fr.nil n0
  have C0 : Steps p.tables e below S0 (s₁.setTop (mkF m 0 #[.val (.ref x), .val (.ref b)] [])) := by rw [hS0d]; exact castTop (ef_223 m x b) (Steps.refl _)
  obtain ⟨c_1, A_2, q_3, S_4, M_5, H_6, U_7⟩ := id hp4
  obtain ⟨_, _, ⟨T_8, L_8, k_8, n_8⟩, -, X_8, ⟨Lc_8, hQ_8, l_8, y_8, z_8⟩, st_8⟩ := X0.specialBack hx (y := M183) rfl hown (mvT hZ (w9 hw)) (mvT hZ (w10 hw)) (mvT hZ (w12 hw)) (by decide) (backOf (W := 0) (rm_si4g l Z a0 hw [] G1 G3 HG h0 n0 X00 x b k nn cs hp0 hp1 hp2 hp3 hp4 hn0 hnz hl1 hu h8) hZ (w12 hw) (w5 hw) (by decide) (by decide)) (g := (mkF m 6 #[.val (.ref x), .val (.ref b)] [.null, (.int nn), (.int (0 : Int32)), (.ref b), (.ref x)])) rfl (by rw [hml]; rfl) (Steps.refl _) (a := x) (argsL := [(.ref b), (.int (0 : Int32)), (.int nn), .null]) (rest := []) (lenOf pd_232 rfl) rfl (by show 2 * 0 + _ ≤ _; exact Nat.le_of_eq rfl) (hb hby d9_6) (fun _ _ => ⟨rfl, e0, (by decide : 0 + 2 ≤ _), (by decide : 0 + 24 ≤ _)⟩)
  dsimp only [Pt.U, Pt.locs, Pt.cells, Pt.slots] at X_8 l_8 y_8 z_8 st_8 hQ_8
  have X_8 := own_cast X_8 l_8 y_8 z_8
  obtain ⟨rfl, N_9, K_10, g_11⟩ := hQ_8
  have N_12 := Fr.app N0 N_9
  have C_13 : Steps p.tables e below S0 (T_8.setTop (mkF m 9 #[.val (.ref x), .val (.ref b)] [])) := by
    refine C0.trans ?_
    refine XS.aloadN X0.here hx rfl (hb hby d9_0) rfl rfl ?_
    refine XS.aloadN X0.here hx rfl (hb hby d9_1) rfl rfl ?_
    refine XS.iconst X0.here hx rfl (hb hby d9_2) ?_
    refine XS.aloadN X0.here hx rfl (hb hby d9_3) rfl rfl ?_
    refine X0.arraylength hx (by rw [e0]; exact A_2.1) (State.isArrayOf_alike hZ.alike A_2.2.1) (g := (mkF m 4 #[.val (.ref x), .val (.ref b)] [(.ref b), (.int (0 : Int32)), (.ref b), (.ref x)])) rfl rfl (hb hby d9_4) _ ?_
    rw [len_of S_4 M_5]
    refine XS.aconstNull X0.here hx rfl (hb hby d9_5) ?_
    refine st_8.trans ?_
    exact Steps.refl _
  have K_14 : Keep h0 T_8.heap [x] := ((Keep.refl _ _).trans K_10 (allS (Or.inl (List.mem_of_getElem? (i := 0) rfl)) all0))
  obtain ⟨fs, hr, hrun, hended, hW, hsame⟩ := X_8.leave (v := none) (fun _ => rfl)
  refine ⟨_, _, C_13.trans (X_8.returnOut hx Bd.returns (hb hby d9_9) hr), hrun, hended, _, _, rfl, ?_, ⟨_, rfl⟩, hW, hsame.mono (by decide) (by decide)⟩
  show Q_si1g Z G1 G3 x b k nn cs h0 n0 (none) T_8.heap _
  exact ⟨rfl, N_12, K_14, g_11⟩
theorem d8_8 : decode jdk_42_method_149_code 8 = .ok (.aload_n 0, 1) := by decide +kernel
theorem w148 {Z : State} {a0 : Array Value} (hw : ∀ d ∈ tables_1, d.before a0 Z = true) : Jvm.Cond.before (Jvm.Cond.stringLink "java/lang/String" (7 : Nat) "") a0 Z = true := hw _ (List.mem_of_getElem? (i := 148) rfl)
theorem d8_9 : decode jdk_42_method_149_code 9 = .ok (.ldc 7, 2) := by decide +kernel
theorem d8_11 : decode jdk_42_method_149_code 11 = .ok (.getfield 9, 3) := by decide +kernel
theorem d8_14 : decode jdk_42_method_149_code 14 = .ok (.putfield 9, 3) := by decide +kernel
theorem d8_17 : decode jdk_42_method_149_code 17 = .ok (.aload_n 0, 1) := by decide +kernel
theorem d8_18 : decode jdk_42_method_149_code 18 = .ok (.ldc 7, 2) := by decide +kernel
theorem d8_20 : decode jdk_42_method_149_code 20 = .ok (.getfield 15, 3) := by decide +kernel
theorem d8_23 : decode jdk_42_method_149_code 23 = .ok (.putfield 15, 3) := by decide +kernel
theorem d8_26 : decode jdk_42_method_149_code 26 = .ok (.return_, 1) := by decide +kernel
abbrev R_si4_0 : Room := { frames := 1, cells := 4, slots := 8, locals := 12 }
def Q_si4_0 (Z : State) (G1 : Int32) (G3 : Value) (x : Addr) (b : Addr) (k : ClassId) (h0 : Heap) (n0 : Nat) (v : Option Value) (h : Heap) (L : List Loc) : Prop := (∃ t : Addr, ∃ kt : ClassId, v = none ∧ Fr n0 L ∧ Keep h0 h [x] ∧ (Exa Z h x "java/lang/String") ∧ (Fld Z h x "java/lang/String" "coder" "B" (.int (0 : Int32))) ∧ (Fld Z h x "java/lang/String" "value" "[B" (.ref t)) ∧ (Arv Z h t kt .byte (0 : Int32) [] (.int (0 : Int32))))
set_option maxRecDepth 65536 in
set_option maxHeartbeats 40000000 in
theorem rm_si4_0 (l : Launch) (Z : State) (a0 : Array Value) (hw : ∀ d ∈ tables_1, d.before a0 Z = true) (ws : List Jvm.Cond) (G1 : Int32) (G3 : Value) (HG : own_G l Z a0 G1 G3) (h0 : Heap) (n0 : Nat) (X00 : Old Z n0 h0) (x : Addr) (b : Addr) (k : ClassId) (hp0 : Exa Z h0 x "java/lang/String") (hp1 : Fld Z h0 x "java/lang/String" "value" "[B" .null) (hp2 : Fld Z h0 x "java/lang/String" "coder" "B" (.int (0 : Int32))) (hp3 : n0 ≤ x) (hp4 : Arv Z h0 b k .char (0 : Int32) [] (.int (0 : Int32))) :
    own_CH l Z M183 jdk_42_method_149_code 6 none ws R_si4_0 #[(.ref x), (.ref b), (.int (0 : Int32)), (.int (0 : Int32)), .null] h0 (Q_si4_0 Z G1 G3 x b k h0 n0) := by
  refine own_H (plainFor_of_name pn_185) ?_
  intro p e s m below meth c s₁ S0 Bd hZ hh CH0 hS0 CR0 hx hby hml hown hnm X0 e0 hS0d
  obtain ⟨O1, P1, O3f, rG3, OAD, OHI, OLO⟩ := id HG
  have hEL := own_EL hw
  have hSA := own_SA hw
  have N0 := Fr.nil n0
  have C0 : Steps p.tables e below S0 (s₁.setTop (mkF m 0 #[.val (.ref x), .val (.ref b), .val (.int (0 : Int32)), .val (.int (0 : Int32)), .val .null, .unset] [])) := by rw [hS0d]; exact castTop (ef_184 m x b (0 : Int32) (0 : Int32)) (Steps.refl _)
  have Sf_1 : Safe Z consts_1 s.vm h0 x := (own_safe_null hZ.alike hp0 hp1)
  obtain ⟨T_2, X_3, e_4, st_5⟩ := initO X0 hx hZ hown (w13 hw) (w14 hw) (w15 hw) e0 (g := (mkF m 1 #[.val (.ref x), .val (.ref b), .val (.int (0 : Int32)), .val (.int (0 : Int32)), .val .null, .unset] [(.ref x)])) rfl (by rw [hml]; rfl) rfl (hb hby d8_1) (by decide) (W := 0) (by show 2 * 0 + _ ≤ _; exact Nat.le_of_eq rfl) (by decide)
  obtain ⟨a_6, T_7, h_8, k1_9, b_10, k_11, X_12, e_13, E_14, S_15, hk_16, hZ_17, ho_18, Ex_19, Fc_20, Fv_21, Va_22, la_23, lb_24, R_25, L_26, Sf_27, st_28⟩ := ldcCH (vm0 := s.vm) X_3 hx hZ hown (w148 hw) hSA e_4 hS0 (Nat.le_refl _) hEL (by decide) CH0 (vs := []) (z := (0 : Int32)) ⟨by decide, by decide⟩ (by decide) (by decide) (g := (mkF m 9 #[.val (.ref x), .val (.ref b), .val (.int (0 : Int32)), .val (.int (0 : Int32)), .val .null, .unset] [(.ref x)])) rfl (hb hby d8_9) (n := 0) (by decide) (by decide) (by decide) (by decide)
  have CH_29 : CHv Z consts_1 T_7.vm h_8 := R_25.1
  have CR_30 : CHr Z consts_1 s.vm h0 T_7.vm h_8 := CR0.trans R_25
  have E_31 : Exa Z h_8 x "java/lang/String" := (hp0.ext E_14)
  have F_32 : Fld Z h_8 x "java/lang/String" "value" "[B" .null := (hp1.ext E_14)
  obtain ⟨T_33, X_34, e_35, st_36⟩ := getF X_12 hx hZ_17 ho_18 (host := "") (Or.inl (w30 hw)) Via.refl e_13 Fv_21 (g := (mkF m 11 #[.val (.ref x), .val (.ref b), .val (.int (0 : Int32)), .val (.int (0 : Int32)), .val .null, .unset] [(.ref a_6), (.ref x)])) rfl rfl (hb hby d8_11)
  obtain ⟨T_37, h_38, X_39, e_40, W_41, st_42⟩ := putF X_34 hx hZ_17 ho_18 (host := "") (Or.inl (w30 hw)) Via.refl e_35 F_32 E_31 (Or.inr ⟨(w31 hw), rfl, hnm⟩) (w4 hw) (ty := (.array .byte)) (by decide) rfl rfl (g := (mkF m 14 #[.val (.ref x), .val (.ref b), .val (.int (0 : Int32)), .val (.int (0 : Int32)), .val .null, .unset] [(.ref b_10), (.ref x)])) rfl rfl (hb hby d8_14)
  have N_43 := Fr.snoc X_39 N0 hp3
  have CH_44 : CHv Z consts_1 T_7.vm h_38 := CHv.wr W_41 (own_safe_null hZ_17.alike E_31 F_32) CH_29
  have CR_45 : CHr Z consts_1 s.vm h0 T_7.vm h_38 := CR_30.trans (CHr.wr W_41 (own_safe_null hZ_17.alike E_31 F_32) CH_29)
  have F_46 : Fld Z h_38 x "java/lang/String" "value" "[B" (.ref b_10) := F_32.same W_41
  obtain ⟨a_47, T_48, h_49, k1_50, b_51, k_52, X_53, e_54, E_55, S_56, hk_57, hZ_58, ho_59, Ex_60, Fc_61, Fv_62, Va_63, la_64, lb_65, R_66, L_67, Sf_68, st_69⟩ := ldcCH (vm0 := T_7.vm) X_39 hx hZ_17 ho_18 (w148 hw) hSA e_40 S_15 (Nat.le_trans hk_16 (Keep.of_wr W_41).1) hEL (by decide) CH_44 (vs := []) (z := (0 : Int32)) ⟨by decide, by decide⟩ (by decide) (by decide) (g := (mkF m 18 #[.val (.ref x), .val (.ref b), .val (.int (0 : Int32)), .val (.int (0 : Int32)), .val .null, .unset] [(.ref x)])) rfl (hb hby d8_18) (n := 0) (by decide) (by decide) (by decide) (by decide)
  have CH_70 : CHv Z consts_1 T_48.vm h_49 := R_66.1
  have CR_71 : CHr Z consts_1 s.vm h0 T_48.vm h_49 := CR_45.trans R_66
  have Sf_72 : Safe Z consts_1 T_48.vm h_49 x := (CHr.safe R_66 (own_lt hp0.lt (Nat.le_trans E_14.1 (Keep.of_wr W_41).1)) (Safe.wr W_41 (own_safe_null hZ_17.alike E_31 F_32) CH_29 (CHr.safe R_25 (own_lt hp0.lt (Nat.le_refl _)) Sf_1)))
  obtain ⟨T_73, X_74, e_75, st_76⟩ := getF X_53 hx hZ_58 ho_59 (host := "") (Or.inl (w28 hw)) Via.refl e_54 Fc_61 (g := (mkF m 20 #[.val (.ref x), .val (.ref b), .val (.int (0 : Int32)), .val (.int (0 : Int32)), .val .null, .unset] [(.ref a_47), (.ref x)])) rfl rfl (hb hby d8_20)
  have F_77 : Fld Z h_49 x "java/lang/String" "coder" "B" (.int (0 : Int32)) := (((hp2.ext E_14).other W_41 (Or.inr (slot_ne (Or.inr (w29 hw)) (Or.inr (w31 hw)) (by decide) (t := .byte) (by decide) (t' := (.array .byte)) (by decide)))).ext E_55)
  have E_78 : Exa Z h_49 x "java/lang/String" := ((E_31.wr W_41).ext E_55)
  obtain ⟨T_79, h_80, X_81, e_82, W_83, st_84⟩ := putF X_74 hx hZ_58 ho_59 (host := "") (Or.inl (w28 hw)) Via.refl e_75 F_77 E_78 (Or.inr ⟨(w29 hw), rfl, hnm⟩) (w4 hw) (ty := .byte) (by decide) rfl (by decide) (g := (mkF m 23 #[.val (.ref x), .val (.ref b), .val (.int (0 : Int32)), .val (.int (0 : Int32)), .val .null, .unset] [(.int (0 : Int32)), (.ref x)])) rfl rfl (hb hby d8_23)
  have N_85 := Fr.snoc X_81 N_43 hp3
  have Sf_86 : Safe Z consts_1 T_48.vm h_49 x := Sf_72
  have CH_87 : CHv Z consts_1 T_48.vm h_80 := CHv.wr W_83 Sf_86 CH_70
  have CR_88 : CHr Z consts_1 s.vm h0 T_48.vm h_80 := CR_71.trans (CHr.wr W_83 Sf_86 CH_70)
  have F_89 : Fld Z h_80 x "java/lang/String" "coder" "B" (.int (0 : Int32)) := F_77.same W_83
  have C_90 : Steps p.tables e below S0 (T_79.setTop (mkF m 26 #[.val (.ref x), .val (.ref b), .val (.int (0 : Int32)), .val (.int (0 : Int32)), .val .null, .unset] [])) := by
    refine C0.trans ?_
    refine XS.aloadN X0.here hx rfl (hb hby d8_0) rfl rfl ?_
    refine st_5 _ ?_
    refine XS.iloadN X_3.here hx rfl (hb hby d8_4) rfl ?_
    refine XS.ifNo X_3.here hx rfl (hb hby d8_5) rfl (by decide) ?_
    refine XS.aloadN X_3.here hx rfl (hb hby d8_8) rfl rfl ?_
    refine st_28 _ ?_
    refine st_36 _ ?_
    refine st_42 _ ?_
    show Steps p.tables e below (T_37.setTop (mkF m 17 #[.val (.ref x), .val (.ref b), .val (.int (0 : Int32)), .val (.int (0 : Int32)), .val .null, .unset] [])) _
    refine XS.aloadN X_39.here hx rfl (hb hby d8_17) rfl rfl ?_
    refine st_69 _ ?_
    refine st_76 _ ?_
    refine st_84 _ ?_
    exact Steps.refl _
  have E_91 : Exa Z h_80 x "java/lang/String" := (E_78.wr W_83)
  have F_92 : Fld Z h_80 x "java/lang/String" "value" "[B" (.ref b_10) := ((F_46.ext E_55).other W_83 (Or.inr (slot_ne (Or.inr (w31 hw)) (Or.inr (w29 hw)) (by decide) (t := (.array .byte)) (by decide) (t' := .byte) (by decide))))
  have V_93 : Arv Z h_80 b_10 k_11 .byte (0 : Int32) [] (.int (0 : Int32)) := (((Va_22.other W_41 (Ne.symm (Sf_27 _ (own_safe_null hZ_17.alike E_31 F_32)).2)).ext E_55).other W_83 (Ne.symm (Sf_27 _ (own_safe_null hZ_17.alike E_31 F_32)).2))
  have K_94 : Keep h0 h_80 [x] := (((((Keep.refl _ _).ext E_14).wr W_41 (Or.inl (List.mem_of_getElem? (i := 0) rfl))).ext E_55).wr W_83 (Or.inl (List.mem_of_getElem? (i := 0) rfl)))
  obtain ⟨fs, hr, hrun, hended, hRE⟩ := X_81.leaveW S_56 (by rw [show T_79.heap = h_80 from e_82]; exact (Nat.le_trans hk_57 (Keep.of_wr W_83).1)) (v := none) (fun _ => rfl)
  refine ⟨_, _, C_90.trans (X_81.returnOut hx Bd.returns (hb hby d8_26) hr), hrun, hended, _, _, rfl, ?_, ?_, hRE.1, hRE.2.1, hRE.2.2.1, hRE.2.2.2.mono (by decide) (by decide)⟩
  · show Q_si4_0 Z G1 G3 x b k h0 n0 (none) T_79.heap _
    rw [e_82]
    exact ⟨b_10, k_11, rfl, N_85, K_94, E_91, F_89, F_92, V_93⟩
  · show CHr Z consts_1 s.vm s.heap T_79.vm T_79.heap
    rw [hh, show T_79.heap = h_80 from e_82]
    exact CR_88.trans (CHv.at X_81 hZ_58 hEL CH_87)
abbrev R_si1_0 : Room := { frames := 2, cells := 4, slots := 8, locals := 29 }
def Q_si1_0 (Z : State) (G1 : Int32) (G3 : Value) (x : Addr) (b : Addr) (k : ClassId) (h0 : Heap) (n0 : Nat) (v : Option Value) (h : Heap) (L : List Loc) : Prop := (∃ t : Addr, ∃ kt : ClassId, v = none ∧ Fr n0 L ∧ Keep h0 h [x] ∧ (Exa Z h x "java/lang/String") ∧ (Fld Z h x "java/lang/String" "coder" "B" (.int (0 : Int32))) ∧ (Fld Z h x "java/lang/String" "value" "[B" (.ref t)) ∧ (Arv Z h t kt .byte (0 : Int32) [] (.int (0 : Int32))))
set_option maxRecDepth 65536 in
set_option maxHeartbeats 40000000 in
theorem rm_si1_0 (l : Launch) (Z : State) (a0 : Array Value) (hw : ∀ d ∈ tables_1, d.before a0 Z = true) (ws : List Jvm.Cond) (G1 : Int32) (G3 : Value) (HG : own_G l Z a0 G1 G3) (h0 : Heap) (n0 : Nat) (X00 : Old Z n0 h0) (x : Addr) (b : Addr) (k : ClassId) (hp0 : Exa Z h0 x "java/lang/String") (hp1 : Fld Z h0 x "java/lang/String" "value" "[B" .null) (hp2 : Fld Z h0 x "java/lang/String" "coder" "B" (.int (0 : Int32))) (hp3 : n0 ≤ x) (hp4 : Arv Z h0 b k .char (0 : Int32) [] (.int (0 : Int32))) :
    own_CH l Z M222 jdk_42_method_3_code 2 none ws R_si1_0 #[(.ref x), (.ref b)] h0 (Q_si1_0 Z G1 G3 x b k h0 n0) := by
  refine own_H (plainFor_of_name pn_185) ?_
  intro p e s m below meth c s₁ S0 Bd hZ hh CH0 hS0 CR0 hx hby hml hown hnm X0 e0 hS0d
  obtain ⟨O1, P1, O3f, rG3, OAD, OHI, OLO⟩ := id HG
  have hEL := own_EL hw
  have hSA := own_SA hw
  have N0 := Fr.nil n0
  have C0 : Steps p.tables e below S0 (s₁.setTop (mkF m 0 #[.val (.ref x), .val (.ref b)] [])) := by rw [hS0d]; exact castTop (ef_223 m x b) (Steps.refl _)
  obtain ⟨c_1, A_2, q_3, S_4, M_5, H_6, U_7⟩ := id hp4
  obtain ⟨_, _, ⟨T_8, L_8, k_8, n_8⟩, -, Y_8, S_8, G_8, ⟨Lc_8, hQ_8, l_8, y_8, z_8, R_8⟩, st_8⟩ := X0.specialBackS hx (y := M183) rfl hown (mvT hZ (w9 hw)) (mvT hZ (w10 hw)) (mvT hZ (w12 hw)) (by decide) (backOfSH (vm0 := s.vm) (W := 0) (rm_si4_0 l Z a0 hw [] G1 G3 HG h0 n0 X00 x b k hp0 hp1 hp2 hp3 hp4) hZ (w12 hw) (w5 hw) (by decide) (by decide) hEL CH0) (g := (mkF m 6 #[.val (.ref x), .val (.ref b)] [.null, (.int (0 : Int32)), (.int (0 : Int32)), (.ref b), (.ref x)])) rfl (by rw [hml]; rfl) (Steps.refl _) (a := x) (argsL := [(.ref b), (.int (0 : Int32)), (.int (0 : Int32)), .null]) (rest := []) (lenOf pd_232 rfl) rfl (by show 2 * 0 + _ ≤ _; exact Nat.le_of_eq rfl) (hb hby d9_6) (fun _ _ => ⟨rfl, e0, (by decide : 0 + 4 ≤ _), (by decide : 0 + 8 ≤ _)⟩)
  dsimp only [Pt.U, Pt.locs, Pt.cells, Pt.slots] at Y_8 S_8 G_8 l_8 y_8 z_8 st_8 hQ_8 R_8
  have Y_8 := own_cast Y_8 l_8 y_8 z_8
  obtain ⟨X_8, hS_8, hZ_8, hown_8⟩ := rebS hS0 (n1 := s₁.heap.size) (by rw [show s₁.heap = h0 from e0]; exact (Nat.le_refl _)) Y_8 S_8 G_8 hZ hown
  obtain ⟨a_9, k_10, rfl, N_11, K_12, g_13, g_14, g_15, g_16⟩ := hQ_8
  have N_17 := Fr.app N0 N_11
  have CH_18 : CHv Z consts_1 T_8.vm T_8.heap := R_8.1
  have CR_19 : CHr Z consts_1 s.vm h0 T_8.vm T_8.heap := CR0.trans R_8
  have C_20 : Steps p.tables e below S0 (T_8.setTop (mkF m 9 #[.val (.ref x), .val (.ref b)] [])) := by
    refine C0.trans ?_
    refine XS.aloadN X0.here hx rfl (hb hby d9_0) rfl rfl ?_
    refine XS.aloadN X0.here hx rfl (hb hby d9_1) rfl rfl ?_
    refine XS.iconst X0.here hx rfl (hb hby d9_2) ?_
    refine XS.aloadN X0.here hx rfl (hb hby d9_3) rfl rfl ?_
    refine X0.arraylength hx (by rw [e0]; exact A_2.1) (State.isArrayOf_alike hZ.alike A_2.2.1) (g := (mkF m 4 #[.val (.ref x), .val (.ref b)] [(.ref b), (.int (0 : Int32)), (.ref b), (.ref x)])) rfl rfl (hb hby d9_4) _ ?_
    rw [len_of S_4 M_5]
    refine XS.aconstNull X0.here hx rfl (hb hby d9_5) ?_
    refine st_8.trans ?_
    exact Steps.refl _
  have K_21 : Keep h0 T_8.heap [x] := ((Keep.refl _ _).trans K_12 (allS (Or.inl (List.mem_of_getElem? (i := 0) rfl)) all0))
  obtain ⟨fs, hr, hrun, hended, hRE⟩ := X_8.leaveW hS_8 (by rw [show T_8.heap = T_8.heap from rfl]; exact (Nat.le_refl _)) (v := none) (fun _ => rfl)
  refine ⟨_, _, C_20.trans (X_8.returnOut hx Bd.returns (hb hby d9_9) hr), hrun, hended, _, _, rfl, ?_, ?_, hRE.1, hRE.2.1, hRE.2.2.1, hRE.2.2.2.mono (by decide) (by decide)⟩
  · show Q_si1_0 Z G1 G3 x b k h0 n0 (none) T_8.heap _
    exact ⟨a_9, k_10, rfl, N_17, K_21, g_13, g_14, g_15, g_16⟩
  · show CHr Z consts_1 s.vm s.heap T_8.vm T_8.heap
    rw [hh]
    exact CR_19.trans (CHv.at X_8 hZ_8 hEL CH_18)
abbrev M247 : MethodName := ⟨"java/lang/String", "coder", "()B"⟩
theorem ef_248 (m : MethodId) (x0 : Addr) : entryFrame m #[(.ref x0)] 1 = mkF m 0 #[.val (.ref x0)] [] := by first | (simp [entryFrame, mkF, argsToLocals, Value.category]; done) | rfl
theorem d10_0 : decode jdk_42_method_152_code 0 = .ok (.getstatic 38, 3) := by decide +kernel
theorem d10_3 : decode jdk_42_method_152_code 3 = .ok (.ifCond .eq 10, 3) := by decide +kernel
theorem d10_6 : decode jdk_42_method_152_code 6 = .ok (.aload_n 0, 1) := by decide +kernel
theorem d10_7 : decode jdk_42_method_152_code 7 = .ok (.getfield 15, 3) := by decide +kernel
theorem d10_10 : decode jdk_42_method_152_code 10 = .ok (.goto 4, 3) := by decide +kernel
theorem d10_14 : decode jdk_42_method_152_code 14 = .ok (.ireturn, 1) := by decide +kernel
abbrev R_coder : Room := { frames := 0, cells := 0, slots := 0, locals := 0 }
def Q_coder (Z : State) (G1 : Int32) (G3 : Value) (x : Addr) (h0 : Heap) (n0 : Nat) (v : Option Value) (h : Heap) (L : List Loc) : Prop := (v = some (.int (0 : Int32)) ∧ Fr n0 L ∧ h = h0)
set_option maxRecDepth 65536 in
set_option maxHeartbeats 40000000 in
theorem rm_coder (l : Launch) (Z : State) (a0 : Array Value) (hw : ∀ d ∈ tables_1, d.before a0 Z = true) (ws : List Jvm.Cond) (G1 : Int32) (G3 : Value) (HG : own_G l Z a0 G1 G3) (h0 : Heap) (n0 : Nat) (X00 : Old Z n0 h0) (x : Addr) (hp0 : Fld Z h0 x "java/lang/String" "coder" "B" (.int (0 : Int32))) :
    own_CP l Z M247 jdk_42_method_152_code 1 (some .byte) ws R_coder #[(.ref x)] h0 (Q_coder Z G1 G3 x h0 n0) := by
  refine own_P (plainFor_of_name pn_185) ?_
  intro p e s m below meth c s₁ S0 Bd hZ hh hx hby hml hown hnm X0 e0 hS0d
  obtain ⟨O1, P1, O3f, rG3, OAD, OHI, OLO⟩ := id HG
  have N0 := Fr.nil n0
  have C0 : Steps p.tables e below S0 (s₁.setTop (mkF m 0 #[.val (.ref x)] [])) := by rw [hS0d]; exact castTop (ef_248 m x) (Steps.refl _)
  obtain ⟨T_1, X_2, e_3, st_4⟩ := getS X0 hx hZ (host := "") hown (w16 hw) Via.refl e0 (O1.ext X00.2) (g := (mkF m 0 #[.val (.ref x)] [])) rfl (hb hby d10_0)
  obtain ⟨T_5, X_6, e_7, st_8⟩ := getF X_2 hx hZ hown (host := "") (Or.inl (w28 hw)) Via.refl e_3 hp0 (g := (mkF m 7 #[.val (.ref x)] [(.ref x)])) rfl rfl (hb hby d10_7)
  have C_9 : Steps p.tables e below S0 (T_5.setTop (mkF m 14 #[.val (.ref x)] [(.int (0 : Int32))])) := by
    refine C0.trans ?_
    refine st_4 _ ?_
    refine XS.ifNo X_2.here hx rfl (hb hby d10_3) rfl (i0_eq_f P1) ?_
    refine XS.aloadN X_2.here hx rfl (hb hby d10_6) rfl rfl ?_
    refine st_8 _ ?_
    refine XS.goto X_6.here hx rfl (pc0 := 10) (pc' := 14) rfl (hb hby d10_10) (by decide) (by decide) ?_
    exact Steps.refl _
  obtain ⟨fs, hr, hrun, hended, hW, hsame⟩ := X_6.leave (v := some (.int (0 : Int32))) (fun h => by rw [Bd.returns] at h; cases h)
  refine ⟨_, _, C_9.trans (retN X_6 hx (t := .byte) Bd.returns (by simp) (hb hby d10_14) hr), hrun, hended, _, _, rfl, ?_, ⟨_, rfl⟩, hW, hsame.mono (by decide) (by decide)⟩
  show Q_coder Z G1 G3 x h0 n0 (some (.int (0 : Int32))) T_5.heap _
  rw [e_7]
  exact ⟨rfl, N0, rfl⟩
abbrev M255 : MethodName := ⟨"java/lang/String", "isLatin1", "()Z"⟩
theorem d11_0 : decode jdk_42_method_154_code 0 = .ok (.getstatic 38, 3) := by decide +kernel
theorem d11_3 : decode jdk_42_method_154_code 3 = .ok (.ifCond .eq 14, 3) := by decide +kernel
theorem d11_6 : decode jdk_42_method_154_code 6 = .ok (.aload_n 0, 1) := by decide +kernel
theorem d11_7 : decode jdk_42_method_154_code 7 = .ok (.getfield 15, 3) := by decide +kernel
theorem d11_10 : decode jdk_42_method_154_code 10 = .ok (.ifCond .ne 7, 3) := by decide +kernel
theorem d11_13 : decode jdk_42_method_154_code 13 = .ok (.iconst 1, 1) := by decide +kernel
theorem d11_14 : decode jdk_42_method_154_code 14 = .ok (.goto 4, 3) := by decide +kernel
theorem d11_18 : decode jdk_42_method_154_code 18 = .ok (.ireturn, 1) := by decide +kernel
abbrev R_islat : Room := { frames := 0, cells := 0, slots := 0, locals := 0 }
def Q_islat (Z : State) (G1 : Int32) (G3 : Value) (x : Addr) (h0 : Heap) (n0 : Nat) (v : Option Value) (h : Heap) (L : List Loc) : Prop := (v = some (.int (1 : Int32)) ∧ Fr n0 L ∧ h = h0)
set_option maxRecDepth 65536 in
set_option maxHeartbeats 40000000 in
theorem rm_islat (l : Launch) (Z : State) (a0 : Array Value) (hw : ∀ d ∈ tables_1, d.before a0 Z = true) (ws : List Jvm.Cond) (G1 : Int32) (G3 : Value) (HG : own_G l Z a0 G1 G3) (h0 : Heap) (n0 : Nat) (X00 : Old Z n0 h0) (x : Addr) (hp0 : Fld Z h0 x "java/lang/String" "coder" "B" (.int (0 : Int32))) :
    own_CP l Z M255 jdk_42_method_154_code 1 (some .boolean) ws R_islat #[(.ref x)] h0 (Q_islat Z G1 G3 x h0 n0) := by
  refine own_P (plainFor_of_name pn_185) ?_
  intro p e s m below meth c s₁ S0 Bd hZ hh hx hby hml hown hnm X0 e0 hS0d
  obtain ⟨O1, P1, O3f, rG3, OAD, OHI, OLO⟩ := id HG
  have N0 := Fr.nil n0
  have C0 : Steps p.tables e below S0 (s₁.setTop (mkF m 0 #[.val (.ref x)] [])) := by rw [hS0d]; exact castTop (ef_248 m x) (Steps.refl _)
  obtain ⟨T_1, X_2, e_3, st_4⟩ := getS X0 hx hZ (host := "") hown (w16 hw) Via.refl e0 (O1.ext X00.2) (g := (mkF m 0 #[.val (.ref x)] [])) rfl (hb hby d11_0)
  obtain ⟨T_5, X_6, e_7, st_8⟩ := getF X_2 hx hZ hown (host := "") (Or.inl (w28 hw)) Via.refl e_3 hp0 (g := (mkF m 7 #[.val (.ref x)] [(.ref x)])) rfl rfl (hb hby d11_7)
  have C_9 : Steps p.tables e below S0 (T_5.setTop (mkF m 18 #[.val (.ref x)] [(.int (1 : Int32))])) := by
    refine C0.trans ?_
    refine st_4 _ ?_
    refine XS.ifNo X_2.here hx rfl (hb hby d11_3) rfl (i0_eq_f P1) ?_
    refine XS.aloadN X_2.here hx rfl (hb hby d11_6) rfl rfl ?_
    refine st_8 _ ?_
    refine XS.ifNo X_6.here hx rfl (hb hby d11_10) rfl (by decide) ?_
    refine XS.iconst X_6.here hx rfl (hb hby d11_13) ?_
    refine XS.goto X_6.here hx rfl (pc0 := 14) (pc' := 18) rfl (hb hby d11_14) (by decide) (by decide) ?_
    exact Steps.refl _
  obtain ⟨fs, hr, hrun, hended, hW, hsame⟩ := X_6.leave (v := some (.int (1 : Int32))) (fun h => by rw [Bd.returns] at h; cases h)
  refine ⟨_, _, C_9.trans (retN X_6 hx (t := .boolean) Bd.returns (by simp) (hb hby d11_18) hr), hrun, hended, _, _, rfl, ?_, ⟨_, rfl⟩, hW, hsame.mono (by decide) (by decide)⟩
  show Q_islat Z G1 G3 x h0 n0 (some (.int (1 : Int32))) T_5.heap _
  rw [e_7]
  exact ⟨rfl, N0, rfl⟩
abbrev M264 : MethodName := ⟨"java/lang/String", "length", "()I"⟩
theorem d12_0 : decode jdk_42_method_54_code 0 = .ok (.aload_n 0, 1) := by decide +kernel
theorem d12_1 : decode jdk_42_method_54_code 1 = .ok (.getfield 9, 3) := by decide +kernel
theorem d12_4 : decode jdk_42_method_54_code 4 = .ok (.arraylength, 1) := by decide +kernel
theorem d12_5 : decode jdk_42_method_54_code 5 = .ok (.aload_n 0, 1) := by decide +kernel
theorem w67 {Z : State} {a0 : Array Value} (hw : ∀ d ∈ tables_1, d.before a0 Z = true) : Jvm.Cond.before (Jvm.Cond.code ({ cls := "java/lang/String", name := "coder", desc := "()B" } : Jvm.MethodName) jdk_42_method_152_code (1 : Nat) (Option.some Jvm.ClassFile.FieldType.byte)) a0 Z = true := hw _ (List.mem_of_getElem? (i := 67) rfl)
theorem pd_270 : parseMethodDescriptor "()B" = some ⟨[], some .byte⟩ := by decide +kernel
theorem d12_6 : decode jdk_42_method_54_code 6 = .ok (.invokevirtual 335, 3) := by decide +kernel
theorem w63 {Z : State} {a0 : Array Value} (hw : ∀ d ∈ tables_1, d.before a0 Z = true) : Jvm.Cond.before (Jvm.Cond.methodLink "java/lang/String" (335 : Nat) ({ cls := "java/lang/String", name := "coder", desc := "()B" } : Jvm.MethodName)) a0 Z = true := hw _ (List.mem_of_getElem? (i := 63) rfl)
theorem w66 {Z : State} {a0 : Array Value} (hw : ∀ d ∈ tables_1, d.before a0 Z = true) : Jvm.Cond.before (Jvm.Cond.selects "java/lang/String" ({ cls := "java/lang/String", name := "coder", desc := "()B" } : Jvm.MethodName) ({ cls := "java/lang/String", name := "coder", desc := "()B" } : Jvm.MethodName)) a0 Z = true := hw _ (List.mem_of_getElem? (i := 66) rfl)
theorem w65 {Z : State} {a0 : Array Value} (hw : ∀ d ∈ tables_1, d.before a0 Z = true) : Jvm.Cond.before (Jvm.Cond.instanceMethod ({ cls := "java/lang/String", name := "coder", desc := "()B" } : Jvm.MethodName)) a0 Z = true := hw _ (List.mem_of_getElem? (i := 65) rfl)
theorem w64 {Z : State} {a0 : Array Value} (hw : ∀ d ∈ tables_1, d.before a0 Z = true) : Jvm.Cond.before (Jvm.Cond.declares ({ cls := "java/lang/String", name := "coder", desc := "()B" } : Jvm.MethodName)) a0 Z = true := hw _ (List.mem_of_getElem? (i := 64) rfl)
theorem d12_9 : decode jdk_42_method_54_code 9 = .ok (.ishr, 1) := by decide +kernel
theorem d12_10 : decode jdk_42_method_54_code 10 = .ok (.ireturn, 1) := by decide +kernel
abbrev R_lens : Room := { frames := 1, cells := 0, slots := 0, locals := 13 }
def Q_lens (Z : State) (G1 : Int32) (G3 : Value) (x : Addr) (t : Addr) (kt : ClassId) (nn : Int32) (bs : List Value) (h0 : Heap) (n0 : Nat) (v : Option Value) (h : Heap) (L : List Loc) : Prop := (v = some (.int nn) ∧ Fr n0 L ∧ h = h0)
set_option maxRecDepth 65536 in
set_option maxHeartbeats 40000000 in
theorem rm_lens (l : Launch) (Z : State) (a0 : Array Value) (hw : ∀ d ∈ tables_1, d.before a0 Z = true) (ws : List Jvm.Cond) (G1 : Int32) (G3 : Value) (HG : own_G l Z a0 G1 G3) (h0 : Heap) (n0 : Nat) (X00 : Old Z n0 h0) (x : Addr) (t : Addr) (kt : ClassId) (nn : Int32) (bs : List Value) (hp0 : Exa Z h0 x "java/lang/String") (hp1 : Fld Z h0 x "java/lang/String" "coder" "B" (.int (0 : Int32))) (hp2 : Fld Z h0 x "java/lang/String" "value" "[B" (.ref t)) (hp3 : Arv Z h0 t kt .byte nn bs (.int (0 : Int32))) :
    own_CP l Z M264 jdk_42_method_54_code 1 (some .int) ws R_lens #[(.ref x)] h0 (Q_lens Z G1 G3 x t kt nn bs h0 n0) := by
  refine own_P (plainFor_of_name pn_185) ?_
  intro p e s m below meth c s₁ S0 Bd hZ hh hx hby hml hown hnm X0 e0 hS0d
  obtain ⟨O1, P1, O3f, rG3, OAD, OHI, OLO⟩ := id HG
  have N0 := Fr.nil n0
  have C0 : Steps p.tables e below S0 (s₁.setTop (mkF m 0 #[.val (.ref x)] [])) := by rw [hS0d]; exact castTop (ef_248 m x) (Steps.refl _)
  obtain ⟨T_1, X_2, e_3, st_4⟩ := getF X0 hx hZ hown (host := "") (Or.inl (w30 hw)) Via.refl e0 hp2 (g := (mkF m 1 #[.val (.ref x)] [(.ref x)])) rfl rfl (hb hby d12_1)
  obtain ⟨c_5, A_6, q_7, S_8, M_9, H_10, U_11⟩ := id hp3
  obtain ⟨q_13, q_14, q_15, q_16, q_17⟩ := isOf (T := T_1) hZ e_3 hp0
  obtain ⟨_, _, ⟨T_12, L_12, k_12, n_12⟩, -, X_12, ⟨Lc_12, hQ_12, l_12, y_12, z_12⟩, st_12⟩ := X_2.virtualBack hx (y := M247) (z := M247) hown (mvT hZ (w63 hw)) (mvT hZ (w64 hw)) (notFace_of_selects (args := #[]) (mvT hZ (w66 hw))) (mvT hZ (w66 hw)) (mvT hZ (w65 hw)) (by decide) (backOf (W := 1) (rm_coder l Z a0 hw [] G1 G3 HG h0 n0 X00 x hp1) hZ (w67 hw) (w5 hw) (by decide) (by decide)) q_15 q_17 (g := (mkF m 6 #[.val (.ref x)] [(.ref x), (.int nn)])) rfl (by rw [hml]; rfl) (Steps.refl _) (argsL := []) (rest := [(.int nn)]) (lenOf pd_270 rfl) rfl (by show 2 * 0 + _ ≤ _; exact Nat.le_of_eq rfl) (hb hby d12_6) (fun _ _ => ⟨rfl, e_3, (by decide : 0 + 0 ≤ _), (by decide : 0 + 0 ≤ _)⟩)
  dsimp only [Pt.U, Pt.locs, Pt.cells, Pt.slots] at X_12 l_12 y_12 z_12 st_12 hQ_12
  have X_12 := own_cast X_12 l_12 y_12 z_12
  obtain ⟨rfl, N_18, e_19⟩ := hQ_12
  have N_20 := Fr.app N0 N_18
  have e_21 : T_12.heap = h0 := e_19
  have C_22 : Steps p.tables e below S0 (T_12.setTop (mkF m 10 #[.val (.ref x)] [(.int (nn >>> ((0 : Int32) &&& 31)))])) := by
    refine C0.trans ?_
    refine XS.aloadN X0.here hx rfl (hb hby d12_0) rfl rfl ?_
    refine st_4 _ ?_
    refine X_2.arraylength hx (by rw [e_3]; exact A_6.1) (State.isArrayOf_alike hZ.alike A_6.2.1) (g := (mkF m 4 #[.val (.ref x)] [(.ref t)])) rfl rfl (hb hby d12_4) _ ?_
    rw [len_of S_8 M_9]
    refine XS.aloadN X_2.here hx rfl (hb hby d12_5) rfl rfl ?_
    refine st_12.trans ?_
    refine XS.ishr X_12.here hx rfl (hb hby d12_9) rfl ?_
    exact Steps.refl _
  obtain ⟨fs, hr, hrun, hended, hW, hsame⟩ := X_12.leave (v := some (.int (nn >>> ((0 : Int32) &&& 31)))) (fun h => by rw [Bd.returns] at h; cases h)
  refine ⟨_, _, C_22.trans (retOut X_12 hx Bd.returns rfl (Or.inl ⟨rfl, Or.inl rfl, _, rfl⟩) (hb hby d12_10) hr), hrun, hended, _, _, rfl, ?_, ⟨_, rfl⟩, hW, hsame.mono (by decide) (by decide)⟩
  show Q_lens Z G1 G3 x t kt nn bs h0 n0 (some (.int (nn >>> ((0 : Int32) &&& 31)))) T_12.heap _
  rw [e_21]
  exact ⟨(congrArg (fun q => some (Value.int q)) (own_shr0 nn)), N_20, rfl⟩
abbrev M278 : MethodName := ⟨"jdk/internal/util/Preconditions", "checkIndex", "(IILjava/util/function/BiFunction;)I"⟩
theorem ef_279 (m : MethodId) (x0 : Int32) (x1 : Int32) (x2 : Value) (r2 : x2.isRef = true) : entryFrame m #[(.int x0), (.int x1), x2] 3 = mkF m 0 #[.val (.int x0), .val (.int x1), .val x2] [] := by rcases ref_cases r2 with rfl | ⟨q2, rfl⟩ <;> first | (simp [entryFrame, mkF, argsToLocals, Value.category]; done) | rfl
theorem pn_280 : plainName "jdk/internal/util/Preconditions" = true := by first | (simp [plainName, overriddenIn]; done) | decide +kernel
theorem d13_0 : decode jdk_41_method_11_code 0 = .ok (.iload_n 0, 1) := by decide +kernel
theorem d13_1 : decode jdk_41_method_11_code 1 = .ok (.ifCond .lt 8, 3) := by decide +kernel
theorem d13_4 : decode jdk_41_method_11_code 4 = .ok (.iload_n 0, 1) := by decide +kernel
theorem d13_5 : decode jdk_41_method_11_code 5 = .ok (.iload_n 1, 1) := by decide +kernel
theorem d13_6 : decode jdk_41_method_11_code 6 = .ok (.if_icmp .lt 10, 3) := by decide +kernel
theorem d13_16 : decode jdk_41_method_11_code 16 = .ok (.iload_n 0, 1) := by decide +kernel
theorem d13_17 : decode jdk_41_method_11_code 17 = .ok (.ireturn, 1) := by decide +kernel
abbrev R_pchk : Room := { frames := 0, cells := 0, slots := 0, locals := 0 }
def Q_pchk (Z : State) (G1 : Int32) (G3 : Value) (i : Int32) (n : Int32) (h0 : Heap) (n0 : Nat) (v : Option Value) (h : Heap) (L : List Loc) : Prop := (v = some (.int i) ∧ Fr n0 L ∧ h = h0)
set_option maxRecDepth 65536 in
set_option maxHeartbeats 40000000 in
theorem rm_pchk (l : Launch) (Z : State) (a0 : Array Value) (hw : ∀ d ∈ tables_1, d.before a0 Z = true) (ws : List Jvm.Cond) (G1 : Int32) (G3 : Value) (HG : own_G l Z a0 G1 G3) (h0 : Heap) (n0 : Nat) (X00 : Old Z n0 h0) (i : Int32) (n : Int32) (h1 : ¬ (i < (0 : Int32))) (h2 : i < n) :
    own_CP l Z M278 jdk_41_method_11_code 3 (some .int) ws R_pchk #[(.int i), (.int n), G3] h0 (Q_pchk Z G1 G3 i n h0 n0) := by
  refine own_P (plainFor_of_name pn_280) ?_
  intro p e s m below meth c s₁ S0 Bd hZ hh hx hby hml hown hnm X0 e0 hS0d
  obtain ⟨O1, P1, O3f, rG3, OAD, OHI, OLO⟩ := id HG
  have N0 := Fr.nil n0
  have C0 : Steps p.tables e below S0 (s₁.setTop (mkF m 0 #[.val (.int i), .val (.int n), .val G3] [])) := by rw [hS0d]; exact castTop (ef_279 m i n G3 rG3) (Steps.refl _)
  have C_1 : Steps p.tables e below S0 (s₁.setTop (mkF m 17 #[.val (.int i), .val (.int n), .val G3] [(.int i)])) := by
    refine C0.trans ?_
    refine XS.iloadN X0.here hx rfl (hb hby d13_0) rfl ?_
    refine XS.ifNo X0.here hx rfl (hb hby d13_1) rfl (i0_lt_f h1) ?_
    refine XS.iloadN X0.here hx rfl (hb hby d13_4) rfl ?_
    refine XS.iloadN X0.here hx rfl (hb hby d13_5) rfl ?_
    refine XS.icmpYes X0.here hx rfl (pc0 := 6) (pc' := 16) rfl (hb hby d13_6) rfl (ii_lt_t h2) (by decide) (by decide) ?_
    refine XS.iloadN X0.here hx rfl (hb hby d13_16) rfl ?_
    exact Steps.refl _
  obtain ⟨fs, hr, hrun, hended, hW, hsame⟩ := X0.leave (v := some (.int i)) (fun h => by rw [Bd.returns] at h; cases h)
  refine ⟨_, _, C_1.trans (retOut X0 hx Bd.returns rfl (Or.inl ⟨rfl, Or.inl rfl, _, rfl⟩) (hb hby d13_17) hr), hrun, hended, _, _, rfl, ?_, ⟨_, rfl⟩, hW, hsame.mono (by decide) (by decide)⟩
  show Q_pchk Z G1 G3 i n h0 n0 (some (.int i)) s₁.heap _
  rw [e0]
  exact ⟨rfl, N0, rfl⟩
abbrev M288 : MethodName := ⟨"java/lang/String", "checkIndex", "(II)V"⟩
theorem ef_289 (m : MethodId) (x0 : Int32) (x1 : Int32) : entryFrame m #[(.int x0), (.int x1)] 2 = mkF m 0 #[.val (.int x0), .val (.int x1)] [] := by first | (simp [entryFrame, mkF, argsToLocals, Value.category]; done) | rfl
theorem d14_0 : decode jdk_42_method_155_code 0 = .ok (.iload_n 0, 1) := by decide +kernel
theorem d14_1 : decode jdk_42_method_155_code 1 = .ok (.iload_n 1, 1) := by decide +kernel
theorem w71 {Z : State} {a0 : Array Value} (hw : ∀ d ∈ tables_1, d.before a0 Z = true) : Jvm.Cond.before (Jvm.Cond.fieldLink "java/lang/String" (1053 : Nat) "jdk/internal/util/Preconditions" "SIOOBE_FORMATTER" "Ljava/util/function/BiFunction;") a0 Z = true := hw _ (List.mem_of_getElem? (i := 71) rfl)
theorem d14_2 : decode jdk_42_method_155_code 2 = .ok (.getstatic 1053, 3) := by decide +kernel
theorem w121 {Z : State} {a0 : Array Value} (hw : ∀ d ∈ tables_1, d.before a0 Z = true) : Jvm.Cond.before (Jvm.Cond.code ({ cls := "jdk/internal/util/Preconditions", name := "checkIndex", desc := "(IILjava/util/function/BiFunction;)I" } : Jvm.MethodName) jdk_41_method_11_code (3 : Nat) (Option.some Jvm.ClassFile.FieldType.int)) a0 Z = true := hw _ (List.mem_of_getElem? (i := 121) rfl)
theorem w72 {Z : State} {a0 : Array Value} (hw : ∀ d ∈ tables_1, d.before a0 Z = true) : Jvm.Cond.before (Jvm.Cond.initialized "jdk/internal/util/Preconditions") a0 Z = true := hw _ (List.mem_of_getElem? (i := 72) rfl)
theorem pd_296 : parseMethodDescriptor "(IILjava/util/function/BiFunction;)I" = some ⟨[.int, .int, (.object "java/util/function/BiFunction")], some .int⟩ := by decide +kernel
theorem d14_5 : decode jdk_42_method_155_code 5 = .ok (.invokestatic 1059, 3) := by decide +kernel
theorem w119 {Z : State} {a0 : Array Value} (hw : ∀ d ∈ tables_1, d.before a0 Z = true) : Jvm.Cond.before (Jvm.Cond.methodLink "java/lang/String" (1059 : Nat) ({ cls := "jdk/internal/util/Preconditions", name := "checkIndex", desc := "(IILjava/util/function/BiFunction;)I" } : Jvm.MethodName)) a0 Z = true := hw _ (List.mem_of_getElem? (i := 119) rfl)
theorem w120 {Z : State} {a0 : Array Value} (hw : ∀ d ∈ tables_1, d.before a0 Z = true) : Jvm.Cond.before (Jvm.Cond.static ({ cls := "jdk/internal/util/Preconditions", name := "checkIndex", desc := "(IILjava/util/function/BiFunction;)I" } : Jvm.MethodName)) a0 Z = true := hw _ (List.mem_of_getElem? (i := 120) rfl)
theorem d14_8 : decode jdk_42_method_155_code 8 = .ok (.pop, 1) := by decide +kernel
theorem d14_9 : decode jdk_42_method_155_code 9 = .ok (.return_, 1) := by decide +kernel
abbrev R_schk : Room := { frames := 1, cells := 0, slots := 0, locals := 14 }
def Q_schk (Z : State) (G1 : Int32) (G3 : Value) (i : Int32) (n : Int32) (h0 : Heap) (n0 : Nat) (v : Option Value) (h : Heap) (L : List Loc) : Prop := (v = none ∧ Fr n0 L ∧ h = h0)
set_option maxRecDepth 65536 in
set_option maxHeartbeats 40000000 in
theorem rm_schk (l : Launch) (Z : State) (a0 : Array Value) (hw : ∀ d ∈ tables_1, d.before a0 Z = true) (ws : List Jvm.Cond) (G1 : Int32) (G3 : Value) (HG : own_G l Z a0 G1 G3) (h0 : Heap) (n0 : Nat) (X00 : Old Z n0 h0) (i : Int32) (n : Int32) (h1 : ¬ (i < (0 : Int32))) (h2 : i < n) :
    own_CP l Z M288 jdk_42_method_155_code 2 none ws R_schk #[(.int i), (.int n)] h0 (Q_schk Z G1 G3 i n h0 n0) := by
  refine own_P (plainFor_of_name pn_185) ?_
  intro p e s m below meth c s₁ S0 Bd hZ hh hx hby hml hown hnm X0 e0 hS0d
  obtain ⟨O1, P1, O3f, rG3, OAD, OHI, OLO⟩ := id HG
  have N0 := Fr.nil n0
  have C0 : Steps p.tables e below S0 (s₁.setTop (mkF m 0 #[.val (.int i), .val (.int n)] [])) := by rw [hS0d]; exact castTop (ef_289 m i n) (Steps.refl _)
  obtain ⟨T_1, X_2, e_3, st_4⟩ := getS X0 hx hZ (host := "") hown (w71 hw) Via.refl e0 (O3f.ext X00.2) (g := (mkF m 2 #[.val (.int i), .val (.int n)] [(.int n), (.int i)])) rfl (hb hby d14_2)
  obtain ⟨_, _, ⟨T_5, L_5, k_5, n_5⟩, -, X_5, ⟨Lc_5, hQ_5, l_5, y_5, z_5⟩, st_5⟩ := Jvm.LawKit.callS X_2 hx (y := M278) hown (mvT hZ (w119 hw)) (mvT hZ (w120 hw)) (mvT hZ (w72 hw)) (mvT hZ (w121 hw)) (by decide) (backOf (W := 0) (rm_pchk l Z a0 hw [] G1 G3 HG h0 n0 X00 i n h1 h2) hZ (w121 hw) (w72 hw) (by decide) (by decide)) (g := (mkF m 5 #[.val (.int i), .val (.int n)] [G3, (.int n), (.int i)])) rfl (by rw [hml]; rfl) (argsL := [(.int i), (.int n), G3]) (rest := []) (lenOf pd_296 rfl) rfl (by show 2 * 0 + _ ≤ _; exact Nat.le_of_eq rfl) (hb hby d14_5) (fun _ _ => ⟨rfl, e_3, (by decide : 0 + 0 ≤ _), (by decide : 0 + 0 ≤ _)⟩)
  dsimp only [Pt.U, Pt.locs, Pt.cells, Pt.slots] at X_5 l_5 y_5 z_5 st_5 hQ_5
  have X_5 := own_cast X_5 l_5 y_5 z_5
  obtain ⟨rfl, N_6, e_7⟩ := hQ_5
  have N_8 := Fr.app N0 N_6
  have e_9 : T_5.heap = h0 := e_7
  have C_10 : Steps p.tables e below S0 (T_5.setTop (mkF m 9 #[.val (.int i), .val (.int n)] [])) := by
    refine C0.trans ?_
    refine XS.iloadN X0.here hx rfl (hb hby d14_0) rfl ?_
    refine XS.iloadN X0.here hx rfl (hb hby d14_1) rfl ?_
    refine st_4 _ ?_
    refine st_5 _ ?_
    refine XS.pop X_5.here hx rfl (hb hby d14_8) rfl rfl ?_
    exact Steps.refl _
  obtain ⟨fs, hr, hrun, hended, hW, hsame⟩ := X_5.leave (v := none) (fun _ => rfl)
  refine ⟨_, _, C_10.trans (X_5.returnOut hx Bd.returns (hb hby d14_9) hr), hrun, hended, _, _, rfl, ?_, ⟨_, rfl⟩, hW, hsame.mono (by decide) (by decide)⟩
  show Q_schk Z G1 G3 i n h0 n0 (none) T_5.heap _
  rw [e_9]
  exact ⟨rfl, N_8, rfl⟩
abbrev M302 : MethodName := ⟨"java/lang/StringLatin1", "charAt", "([BI)C"⟩
theorem pn_303 : plainName "java/lang/StringLatin1" = true := by first | (simp [plainName, overriddenIn]; done) | decide +kernel
theorem d15_0 : decode jdk_43_method_2_code 0 = .ok (.iload_n 1, 1) := by decide +kernel
theorem d15_1 : decode jdk_43_method_2_code 1 = .ok (.aload_n 0, 1) := by decide +kernel
theorem d15_2 : decode jdk_43_method_2_code 2 = .ok (.arraylength, 1) := by decide +kernel
theorem w118 {Z : State} {a0 : Array Value} (hw : ∀ d ∈ tables_1, d.before a0 Z = true) : Jvm.Cond.before (Jvm.Cond.code ({ cls := "java/lang/String", name := "checkIndex", desc := "(II)V" } : Jvm.MethodName) jdk_42_method_155_code (2 : Nat) (Option.none : Option Jvm.ClassFile.FieldType)) a0 Z = true := hw _ (List.mem_of_getElem? (i := 118) rfl)
theorem pd_308 : parseMethodDescriptor "(II)V" = some ⟨[.int, .int], none⟩ := by decide +kernel
theorem d15_3 : decode jdk_43_method_2_code 3 = .ok (.invokestatic 9, 3) := by decide +kernel
theorem w116 {Z : State} {a0 : Array Value} (hw : ∀ d ∈ tables_1, d.before a0 Z = true) : Jvm.Cond.before (Jvm.Cond.methodLink "java/lang/StringLatin1" (9 : Nat) ({ cls := "java/lang/String", name := "checkIndex", desc := "(II)V" } : Jvm.MethodName)) a0 Z = true := hw _ (List.mem_of_getElem? (i := 116) rfl)
theorem w117 {Z : State} {a0 : Array Value} (hw : ∀ d ∈ tables_1, d.before a0 Z = true) : Jvm.Cond.before (Jvm.Cond.static ({ cls := "java/lang/String", name := "checkIndex", desc := "(II)V" } : Jvm.MethodName)) a0 Z = true := hw _ (List.mem_of_getElem? (i := 117) rfl)
theorem d15_6 : decode jdk_43_method_2_code 6 = .ok (.aload_n 0, 1) := by decide +kernel
theorem d15_7 : decode jdk_43_method_2_code 7 = .ok (.iload_n 1, 1) := by decide +kernel
theorem d15_8 : decode jdk_43_method_2_code 8 = .ok (.baload, 1) := by decide +kernel
theorem d15_9 : decode jdk_43_method_2_code 9 = .ok (.sipush 255, 3) := by decide +kernel
theorem d15_12 : decode jdk_43_method_2_code 12 = .ok (.iand, 1) := by decide +kernel
theorem d15_13 : decode jdk_43_method_2_code 13 = .ok (.i2c, 1) := by decide +kernel
theorem d15_14 : decode jdk_43_method_2_code 14 = .ok (.ireturn, 1) := by decide +kernel
abbrev R_lchs : Room := { frames := 2, cells := 0, slots := 0, locals := 27 }
def Q_lchs (Z : State) (G1 : Int32) (G3 : Value) (t : Addr) (kt : ClassId) (nn : Int32) (bs : List Int32) (ii : Int32) (h0 : Heap) (n0 : Nat) (v : Option Value) (h : Heap) (L : List Loc) : Prop := (v = some (.int (own_ch (own_gt bs ii))) ∧ Fr n0 L ∧ h = h0)
set_option maxRecDepth 65536 in
set_option maxHeartbeats 40000000 in
theorem rm_lchs (l : Launch) (Z : State) (a0 : Array Value) (hw : ∀ d ∈ tables_1, d.before a0 Z = true) (ws : List Jvm.Cond) (G1 : Int32) (G3 : Value) (HG : own_G l Z a0 G1 G3) (h0 : Heap) (n0 : Nat) (X00 : Old Z n0 h0) (t : Addr) (kt : ClassId) (nn : Int32) (bs : List Int32) (ii : Int32) (hp0 : Arv Z h0 t kt .byte nn (own_iv bs) (.int (0 : Int32))) (h1 : ¬ (ii < (0 : Int32))) (h2 : ii < nn) :
    own_CP l Z M302 jdk_43_method_2_code 2 (some .char) ws R_lchs #[(.ref t), (.int ii)] h0 (Q_lchs Z G1 G3 t kt nn bs ii h0 n0) := by
  refine own_P (plainFor_of_name pn_303) ?_
  intro p e s m below meth c s₁ S0 Bd hZ hh hx hby hml hown hnm X0 e0 hS0d
  obtain ⟨O1, P1, O3f, rG3, OAD, OHI, OLO⟩ := id HG
  have N0 := Fr.nil n0
  have C0 : Steps p.tables e below S0 (s₁.setTop (mkF m 0 #[.val (.ref t), .val (.int ii)] [])) := by rw [hS0d]; exact castTop (ef_108 m t ii) (Steps.refl _)
  obtain ⟨c_1, A_2, q_3, S_4, M_5, H_6, U_7⟩ := id hp0
  obtain ⟨_, _, ⟨T_8, L_8, k_8, n_8⟩, -, X_8, ⟨Lc_8, hQ_8, l_8, y_8, z_8⟩, st_8⟩ := Jvm.LawKit.callS X0 hx (y := M288) hown (mvT hZ (w116 hw)) (mvT hZ (w117 hw)) (mvT hZ (w5 hw)) (mvT hZ (w118 hw)) (by decide) (backOf (W := 0) (rm_schk l Z a0 hw [] G1 G3 HG h0 n0 X00 ii nn h1 h2) hZ (w118 hw) (w5 hw) (by decide) (by decide)) (g := (mkF m 3 #[.val (.ref t), .val (.int ii)] [(.int nn), (.int ii)])) rfl (by rw [hml]; rfl) (argsL := [(.int ii), (.int nn)]) (rest := []) (lenOf pd_308 rfl) rfl (by show 2 * 0 + _ ≤ _; exact Nat.le_of_eq rfl) (hb hby d15_3) (fun _ _ => ⟨rfl, e0, (by decide : 0 + 0 ≤ _), (by decide : 0 + 0 ≤ _)⟩)
  dsimp only [Pt.U, Pt.locs, Pt.cells, Pt.slots] at X_8 l_8 y_8 z_8 st_8 hQ_8
  have X_8 := own_cast X_8 l_8 y_8 z_8
  obtain ⟨rfl, N_9, e_10⟩ := hQ_8
  have N_11 := Fr.app N0 N_9
  have e_12 : T_8.heap = h0 := e_10
  obtain ⟨c_13, A_14, q_15, S_16, M_17, H_18, U_19⟩ := id hp0
  have hin_20 : ¬ (ii < 0 ∨ c_13.slots.size ≤ ii.toNatClampNeg) := inb_of S_16 ⟨h1, h2⟩
  have hat_21 : c_13.slots[ii.toNatClampNeg]? = some (.int (own_gt bs ii)) := Has.at H_18 hin_20 (own_iv_at bs ii)
  have C_22 : Steps p.tables e below S0 (T_8.setTop (mkF m 14 #[.val (.ref t), .val (.int ii)] [(.int (((own_gt bs ii) &&& (255 : Int32)).toUInt32.toUInt16.toUInt32.toInt32))])) := by
    refine C0.trans ?_
    refine XS.iloadN X0.here hx rfl (hb hby d15_0) rfl ?_
    refine XS.aloadN X0.here hx rfl (hb hby d15_1) rfl rfl ?_
    refine X0.arraylength hx (by rw [e0]; exact A_2.1) (State.isArrayOf_alike hZ.alike A_2.2.1) (g := (mkF m 2 #[.val (.ref t), .val (.int ii)] [(.ref t), (.int ii)])) rfl rfl (hb hby d15_2) _ ?_
    rw [len_of S_4 M_5]
    refine st_8 _ ?_
    refine XS.aloadN X_8.here hx rfl (hb hby d15_6) rfl rfl ?_
    refine XS.iloadN X_8.here hx rfl (hb hby d15_7) rfl ?_
    refine X_8.baloadBytes hx (j := ii) (v := (.int (own_gt bs ii))) (by rw [e_12]; exact A_14.1) (State.isArrayOf_alike hZ.alike A_14.2.1) A_14.2.2 hin_20 hat_21 (g := (mkF m 8 #[.val (.ref t), .val (.int ii)] [(.int ii), (.ref t)])) rfl rfl (hb hby d15_8) _ ?_
    refine XS.sipush X_8.here hx rfl (hb hby d15_9) ?_
    show Steps p.tables e below (T_8.setTop (mkF m 12 #[.val (.ref t), .val (.int ii)] [(.int (255 : Int32)), (.int (own_gt bs ii))])) _
    refine XS.iand X_8.here hx rfl (hb hby d15_12) rfl ?_
    refine XS.i2c X_8.here hx rfl (hb hby d15_13) rfl ?_
    exact Steps.refl _
  obtain ⟨fs, hr, hrun, hended, hW, hsame⟩ := X_8.leave (v := some (.int (own_ch (own_gt bs ii)))) (fun h => by rw [Bd.returns] at h; cases h)
  refine ⟨_, _, C_22.trans (retN X_8 hx (t := .char) Bd.returns (by simp) (hb hby d15_14) hr), hrun, hended, _, _, rfl, ?_, ⟨_, rfl⟩, hW, hsame.mono (by decide) (by decide)⟩
  show Q_lchs Z G1 G3 t kt nn bs ii h0 n0 (some (.int (own_ch (own_gt bs ii)))) T_8.heap _
  rw [e_12]
  exact ⟨rfl, N_11, rfl⟩
abbrev M319 : MethodName := ⟨"java/lang/String", "charAt", "(I)C"⟩
theorem d16_0 : decode jdk_42_method_56_code 0 = .ok (.aload_n 0, 1) := by decide +kernel
theorem w80 {Z : State} {a0 : Array Value} (hw : ∀ d ∈ tables_1, d.before a0 Z = true) : Jvm.Cond.before (Jvm.Cond.code ({ cls := "java/lang/String", name := "isLatin1", desc := "()Z" } : Jvm.MethodName) jdk_42_method_154_code (1 : Nat) (Option.some Jvm.ClassFile.FieldType.boolean)) a0 Z = true := hw _ (List.mem_of_getElem? (i := 80) rfl)
theorem pd_322 : parseMethodDescriptor "()Z" = some ⟨[], some .boolean⟩ := by decide +kernel
theorem d16_1 : decode jdk_42_method_56_code 1 = .ok (.invokevirtual 492, 3) := by decide +kernel
theorem w76 {Z : State} {a0 : Array Value} (hw : ∀ d ∈ tables_1, d.before a0 Z = true) : Jvm.Cond.before (Jvm.Cond.methodLink "java/lang/String" (492 : Nat) ({ cls := "java/lang/String", name := "isLatin1", desc := "()Z" } : Jvm.MethodName)) a0 Z = true := hw _ (List.mem_of_getElem? (i := 76) rfl)
theorem w79 {Z : State} {a0 : Array Value} (hw : ∀ d ∈ tables_1, d.before a0 Z = true) : Jvm.Cond.before (Jvm.Cond.selects "java/lang/String" ({ cls := "java/lang/String", name := "isLatin1", desc := "()Z" } : Jvm.MethodName) ({ cls := "java/lang/String", name := "isLatin1", desc := "()Z" } : Jvm.MethodName)) a0 Z = true := hw _ (List.mem_of_getElem? (i := 79) rfl)
theorem w78 {Z : State} {a0 : Array Value} (hw : ∀ d ∈ tables_1, d.before a0 Z = true) : Jvm.Cond.before (Jvm.Cond.instanceMethod ({ cls := "java/lang/String", name := "isLatin1", desc := "()Z" } : Jvm.MethodName)) a0 Z = true := hw _ (List.mem_of_getElem? (i := 78) rfl)
theorem w77 {Z : State} {a0 : Array Value} (hw : ∀ d ∈ tables_1, d.before a0 Z = true) : Jvm.Cond.before (Jvm.Cond.declares ({ cls := "java/lang/String", name := "isLatin1", desc := "()Z" } : Jvm.MethodName)) a0 Z = true := hw _ (List.mem_of_getElem? (i := 77) rfl)
theorem d16_4 : decode jdk_42_method_56_code 4 = .ok (.ifCond .eq 12, 3) := by decide +kernel
theorem d16_7 : decode jdk_42_method_56_code 7 = .ok (.aload_n 0, 1) := by decide +kernel
theorem d16_8 : decode jdk_42_method_56_code 8 = .ok (.getfield 9, 3) := by decide +kernel
theorem d16_11 : decode jdk_42_method_56_code 11 = .ok (.iload_n 1, 1) := by decide +kernel
theorem w115 {Z : State} {a0 : Array Value} (hw : ∀ d ∈ tables_1, d.before a0 Z = true) : Jvm.Cond.before (Jvm.Cond.code ({ cls := "java/lang/StringLatin1", name := "charAt", desc := "([BI)C" } : Jvm.MethodName) jdk_43_method_2_code (2 : Nat) (Option.some Jvm.ClassFile.FieldType.char)) a0 Z = true := hw _ (List.mem_of_getElem? (i := 115) rfl)
theorem w83 {Z : State} {a0 : Array Value} (hw : ∀ d ∈ tables_1, d.before a0 Z = true) : Jvm.Cond.before (Jvm.Cond.initialized "java/lang/StringLatin1") a0 Z = true := hw _ (List.mem_of_getElem? (i := 83) rfl)
theorem d16_12 : decode jdk_42_method_56_code 12 = .ok (.invokestatic 495, 3) := by decide +kernel
theorem w113 {Z : State} {a0 : Array Value} (hw : ∀ d ∈ tables_1, d.before a0 Z = true) : Jvm.Cond.before (Jvm.Cond.methodLink "java/lang/String" (495 : Nat) ({ cls := "java/lang/StringLatin1", name := "charAt", desc := "([BI)C" } : Jvm.MethodName)) a0 Z = true := hw _ (List.mem_of_getElem? (i := 113) rfl)
theorem w114 {Z : State} {a0 : Array Value} (hw : ∀ d ∈ tables_1, d.before a0 Z = true) : Jvm.Cond.before (Jvm.Cond.static ({ cls := "java/lang/StringLatin1", name := "charAt", desc := "([BI)C" } : Jvm.MethodName)) a0 Z = true := hw _ (List.mem_of_getElem? (i := 114) rfl)
theorem d16_15 : decode jdk_42_method_56_code 15 = .ok (.ireturn, 1) := by decide +kernel
abbrev R_chs : Room := { frames := 3, cells := 0, slots := 0, locals := 40 }
def Q_chs (Z : State) (G1 : Int32) (G3 : Value) (x : Addr) (t : Addr) (kt : ClassId) (nn : Int32) (cs : List Int32) (ii : Int32) (h0 : Heap) (n0 : Nat) (v : Option Value) (h : Heap) (L : List Loc) : Prop := (v = some (.int (own_gt cs ii)) ∧ Fr n0 L ∧ h = h0)
set_option maxRecDepth 65536 in
set_option maxHeartbeats 40000000 in
theorem rm_chs (l : Launch) (Z : State) (a0 : Array Value) (hw : ∀ d ∈ tables_1, d.before a0 Z = true) (ws : List Jvm.Cond) (G1 : Int32) (G3 : Value) (HG : own_G l Z a0 G1 G3) (h0 : Heap) (n0 : Nat) (X00 : Old Z n0 h0) (x : Addr) (t : Addr) (kt : ClassId) (nn : Int32) (cs : List Int32) (ii : Int32) (hp0 : Exa Z h0 x "java/lang/String") (hp1 : Fld Z h0 x "java/lang/String" "coder" "B" (.int (0 : Int32))) (hp2 : Fld Z h0 x "java/lang/String" "value" "[B" (.ref t)) (hp3 : Arv Z h0 t kt .byte nn (own_iv (own_bs cs)) (.int (0 : Int32))) (h1 : ¬ (ii < (0 : Int32))) (h2 : ii < nn) (hl1 : cs.length = nn.toNatClampNeg) (hla : own_lat cs) :
    own_CP l Z M319 jdk_42_method_56_code 2 (some .char) ws R_chs #[(.ref x), (.int ii)] h0 (Q_chs Z G1 G3 x t kt nn cs ii h0 n0) := by
  refine own_P (plainFor_of_name pn_185) ?_
  intro p e s m below meth c s₁ S0 Bd hZ hh hx hby hml hown hnm X0 e0 hS0d
  obtain ⟨O1, P1, O3f, rG3, OAD, OHI, OLO⟩ := id HG
  have N0 := Fr.nil n0
  have C0 : Steps p.tables e below S0 (s₁.setTop (mkF m 0 #[.val (.ref x), .val (.int ii)] [])) := by rw [hS0d]; exact castTop (ef_108 m x ii) (Steps.refl _)
  obtain ⟨q_2, q_3, q_4, q_5, q_6⟩ := isOf (T := s₁) hZ e0 hp0
  obtain ⟨_, _, ⟨T_1, L_1, k_1, n_1⟩, -, X_1, ⟨Lc_1, hQ_1, l_1, y_1, z_1⟩, st_1⟩ := X0.virtualBack hx (y := M255) (z := M255) hown (mvT hZ (w76 hw)) (mvT hZ (w77 hw)) (notFace_of_selects (args := #[]) (mvT hZ (w79 hw))) (mvT hZ (w79 hw)) (mvT hZ (w78 hw)) (by decide) (backOf (W := 0) (rm_islat l Z a0 hw [] G1 G3 HG h0 n0 X00 x hp1) hZ (w80 hw) (w5 hw) (by decide) (by decide)) q_4 q_6 (g := (mkF m 1 #[.val (.ref x), .val (.int ii)] [(.ref x)])) rfl (by rw [hml]; rfl) (Steps.refl _) (argsL := []) (rest := []) (lenOf pd_322 rfl) rfl (by show 2 * 0 + _ ≤ _; exact Nat.le_of_eq rfl) (hb hby d16_1) (fun _ _ => ⟨rfl, e0, (by decide : 0 + 0 ≤ _), (by decide : 0 + 0 ≤ _)⟩)
  dsimp only [Pt.U, Pt.locs, Pt.cells, Pt.slots] at X_1 l_1 y_1 z_1 st_1 hQ_1
  have X_1 := own_cast X_1 l_1 y_1 z_1
  obtain ⟨rfl, N_7, e_8⟩ := hQ_1
  have N_9 := Fr.app N0 N_7
  have e_10 : T_1.heap = h0 := e_8
  obtain ⟨T_11, X_12, e_13, st_14⟩ := getF X_1 hx hZ hown (host := "") (Or.inl (w30 hw)) Via.refl e_10 hp2 (g := (mkF m 8 #[.val (.ref x), .val (.int ii)] [(.ref x)])) rfl rfl (hb hby d16_8)
  obtain ⟨_, _, ⟨T_15, L_15, k_15, n_15⟩, -, X_15, ⟨Lc_15, hQ_15, l_15, y_15, z_15⟩, st_15⟩ := Jvm.LawKit.callS X_12 hx (y := M302) hown (mvT hZ (w113 hw)) (mvT hZ (w114 hw)) (mvT hZ (w83 hw)) (mvT hZ (w115 hw)) (by decide) (backOf (W := 0) (rm_lchs l Z a0 hw [] G1 G3 HG h0 n0 X00 t kt nn (own_bs cs) ii hp3 h1 h2) hZ (w115 hw) (w83 hw) (by decide) (by decide)) (g := (mkF m 12 #[.val (.ref x), .val (.int ii)] [(.int ii), (.ref t)])) rfl (by rw [hml]; rfl) (argsL := [(.ref t), (.int ii)]) (rest := []) (lenOf pd_166 rfl) rfl (by show 2 * 0 + _ ≤ _; exact Nat.le_of_eq rfl) (hb hby d16_12) (fun _ _ => ⟨rfl, e_13, (by decide : 0 + 0 ≤ _), (by decide : 0 + 0 ≤ _)⟩)
  dsimp only [Pt.U, Pt.locs, Pt.cells, Pt.slots] at X_15 l_15 y_15 z_15 st_15 hQ_15
  have X_15 := own_cast X_15 l_15 y_15 z_15
  obtain ⟨rfl, N_16, e_17⟩ := hQ_15
  have N_18 := Fr.app N_9 N_16
  have e_19 : T_15.heap = h0 := e_17
  have C_20 : Steps p.tables e below S0 (T_15.setTop (mkF m 15 #[.val (.ref x), .val (.int ii)] [(.int (own_ch (own_gt (own_bs cs) ii)))])) := by
    refine C0.trans ?_
    refine XS.aloadN X0.here hx rfl (hb hby d16_0) rfl rfl ?_
    refine st_1.trans ?_
    refine XS.ifNo X_1.here hx rfl (hb hby d16_4) rfl (by decide) ?_
    refine XS.aloadN X_1.here hx rfl (hb hby d16_7) rfl rfl ?_
    refine st_14 _ ?_
    refine XS.iloadN X_12.here hx rfl (hb hby d16_11) rfl ?_
    refine st_15 _ ?_
    exact Steps.refl _
  obtain ⟨fs, hr, hrun, hended, hW, hsame⟩ := X_15.leave (v := some (.int (nar .char (own_ch (own_gt (own_bs cs) ii))))) (fun h => by rw [Bd.returns] at h; cases h)
  refine ⟨_, _, C_20.trans (retN X_15 hx (t := .char) Bd.returns (by simp) (hb hby d16_15) hr), hrun, hended, _, _, rfl, ?_, ⟨_, rfl⟩, hW, hsame.mono (by decide) (by decide)⟩
  show Q_chs Z G1 G3 x t kt nn cs ii h0 n0 (some (.int (nar .char (own_ch (own_gt (own_bs cs) ii))))) T_15.heap _
  rw [e_19]
  exact ⟨(congrArg (fun q => some (Value.int q)) (own_chsays hl1 hla h1 h2)), N_18, rfl⟩
abbrev R_coder1 : Room := { frames := 0, cells := 0, slots := 0, locals := 0 }
def Q_coder1 (Z : State) (G1 : Int32) (G3 : Value) (x : Addr) (h0 : Heap) (n0 : Nat) (v : Option Value) (h : Heap) (L : List Loc) : Prop := (v = some (.int (1 : Int32)) ∧ Fr n0 L ∧ h = h0)
set_option maxRecDepth 65536 in
set_option maxHeartbeats 40000000 in
theorem rm_coder1 (l : Launch) (Z : State) (a0 : Array Value) (hw : ∀ d ∈ tables_1, d.before a0 Z = true) (ws : List Jvm.Cond) (G1 : Int32) (G3 : Value) (HG : own_G l Z a0 G1 G3) (h0 : Heap) (n0 : Nat) (X00 : Old Z n0 h0) (x : Addr) (hp0 : Fld Z h0 x "java/lang/String" "coder" "B" (.int (1 : Int32))) :
    own_CP l Z M247 jdk_42_method_152_code 1 (some .byte) ws R_coder1 #[(.ref x)] h0 (Q_coder1 Z G1 G3 x h0 n0) := by
  refine own_P (plainFor_of_name pn_185) ?_
  intro p e s m below meth c s₁ S0 Bd hZ hh hx hby hml hown hnm X0 e0 hS0d
  obtain ⟨O1, P1, O3f, rG3, OAD, OHI, OLO⟩ := id HG
  have N0 := Fr.nil n0
  have C0 : Steps p.tables e below S0 (s₁.setTop (mkF m 0 #[.val (.ref x)] [])) := by rw [hS0d]; exact castTop (ef_248 m x) (Steps.refl _)
  obtain ⟨T_1, X_2, e_3, st_4⟩ := getS X0 hx hZ (host := "") hown (w16 hw) Via.refl e0 (O1.ext X00.2) (g := (mkF m 0 #[.val (.ref x)] [])) rfl (hb hby d10_0)
  obtain ⟨T_5, X_6, e_7, st_8⟩ := getF X_2 hx hZ hown (host := "") (Or.inl (w28 hw)) Via.refl e_3 hp0 (g := (mkF m 7 #[.val (.ref x)] [(.ref x)])) rfl rfl (hb hby d10_7)
  have C_9 : Steps p.tables e below S0 (T_5.setTop (mkF m 14 #[.val (.ref x)] [(.int (1 : Int32))])) := by
    refine C0.trans ?_
    refine st_4 _ ?_
    refine XS.ifNo X_2.here hx rfl (hb hby d10_3) rfl (i0_eq_f P1) ?_
    refine XS.aloadN X_2.here hx rfl (hb hby d10_6) rfl rfl ?_
    refine st_8 _ ?_
    refine XS.goto X_6.here hx rfl (pc0 := 10) (pc' := 14) rfl (hb hby d10_10) (by decide) (by decide) ?_
    exact Steps.refl _
  obtain ⟨fs, hr, hrun, hended, hW, hsame⟩ := X_6.leave (v := some (.int (1 : Int32))) (fun h => by rw [Bd.returns] at h; cases h)
  refine ⟨_, _, C_9.trans (retN X_6 hx (t := .byte) Bd.returns (by simp) (hb hby d10_14) hr), hrun, hended, _, _, rfl, ?_, ⟨_, rfl⟩, hW, hsame.mono (by decide) (by decide)⟩
  show Q_coder1 Z G1 G3 x h0 n0 (some (.int (1 : Int32))) T_5.heap _
  rw [e_7]
  exact ⟨rfl, N0, rfl⟩
theorem d11_17 : decode jdk_42_method_154_code 17 = .ok (.iconst 0, 1) := by decide +kernel
abbrev R_islat1 : Room := { frames := 0, cells := 0, slots := 0, locals := 0 }
def Q_islat1 (Z : State) (G1 : Int32) (G3 : Value) (x : Addr) (h0 : Heap) (n0 : Nat) (v : Option Value) (h : Heap) (L : List Loc) : Prop := (v = some (.int (0 : Int32)) ∧ Fr n0 L ∧ h = h0)
set_option maxRecDepth 65536 in
set_option maxHeartbeats 40000000 in
theorem rm_islat1 (l : Launch) (Z : State) (a0 : Array Value) (hw : ∀ d ∈ tables_1, d.before a0 Z = true) (ws : List Jvm.Cond) (G1 : Int32) (G3 : Value) (HG : own_G l Z a0 G1 G3) (h0 : Heap) (n0 : Nat) (X00 : Old Z n0 h0) (x : Addr) (hp0 : Fld Z h0 x "java/lang/String" "coder" "B" (.int (1 : Int32))) :
    own_CP l Z M255 jdk_42_method_154_code 1 (some .boolean) ws R_islat1 #[(.ref x)] h0 (Q_islat1 Z G1 G3 x h0 n0) := by
  refine own_P (plainFor_of_name pn_185) ?_
  intro p e s m below meth c s₁ S0 Bd hZ hh hx hby hml hown hnm X0 e0 hS0d
  obtain ⟨O1, P1, O3f, rG3, OAD, OHI, OLO⟩ := id HG
  have N0 := Fr.nil n0
  have C0 : Steps p.tables e below S0 (s₁.setTop (mkF m 0 #[.val (.ref x)] [])) := by rw [hS0d]; exact castTop (ef_248 m x) (Steps.refl _)
  obtain ⟨T_1, X_2, e_3, st_4⟩ := getS X0 hx hZ (host := "") hown (w16 hw) Via.refl e0 (O1.ext X00.2) (g := (mkF m 0 #[.val (.ref x)] [])) rfl (hb hby d11_0)
  obtain ⟨T_5, X_6, e_7, st_8⟩ := getF X_2 hx hZ hown (host := "") (Or.inl (w28 hw)) Via.refl e_3 hp0 (g := (mkF m 7 #[.val (.ref x)] [(.ref x)])) rfl rfl (hb hby d11_7)
  have C_9 : Steps p.tables e below S0 (T_5.setTop (mkF m 18 #[.val (.ref x)] [(.int (0 : Int32))])) := by
    refine C0.trans ?_
    refine st_4 _ ?_
    refine XS.ifNo X_2.here hx rfl (hb hby d11_3) rfl (i0_eq_f P1) ?_
    refine XS.aloadN X_2.here hx rfl (hb hby d11_6) rfl rfl ?_
    refine st_8 _ ?_
    refine XS.ifYes X_6.here hx rfl (pc0 := 10) (pc' := 17) rfl (hb hby d11_10) rfl (by decide) (by decide) (by decide) ?_
    refine XS.iconst X_6.here hx rfl (hb hby d11_17) ?_
    exact Steps.refl _
  obtain ⟨fs, hr, hrun, hended, hW, hsame⟩ := X_6.leave (v := some (.int (0 : Int32))) (fun h => by rw [Bd.returns] at h; cases h)
  refine ⟨_, _, C_9.trans (retN X_6 hx (t := .boolean) Bd.returns (by simp) (hb hby d11_18) hr), hrun, hended, _, _, rfl, ?_, ⟨_, rfl⟩, hW, hsame.mono (by decide) (by decide)⟩
  show Q_islat1 Z G1 G3 x h0 n0 (some (.int (0 : Int32))) T_5.heap _
  rw [e_7]
  exact ⟨rfl, N0, rfl⟩
abbrev M339 : MethodName := ⟨"java/lang/StringUTF16", "length", "([B)I"⟩
theorem d17_0 : decode jdk_52_method_6_code 0 = .ok (.aload_n 0, 1) := by decide +kernel
theorem d17_1 : decode jdk_52_method_6_code 1 = .ok (.arraylength, 1) := by decide +kernel
theorem d17_2 : decode jdk_52_method_6_code 2 = .ok (.iconst 1, 1) := by decide +kernel
theorem d17_3 : decode jdk_52_method_6_code 3 = .ok (.ishr, 1) := by decide +kernel
theorem d17_4 : decode jdk_52_method_6_code 4 = .ok (.ireturn, 1) := by decide +kernel
abbrev R_u16len : Room := { frames := 0, cells := 0, slots := 0, locals := 0 }
def Q_u16len (Z : State) (G1 : Int32) (G3 : Value) (t : Addr) (kt : ClassId) (nn : Int32) (ys : List Value) (h0 : Heap) (n0 : Nat) (v : Option Value) (h : Heap) (L : List Loc) : Prop := (v = some (.int nn) ∧ Fr n0 L ∧ h = h0)
set_option maxRecDepth 65536 in
set_option maxHeartbeats 40000000 in
theorem rm_u16len (l : Launch) (Z : State) (a0 : Array Value) (hw : ∀ d ∈ tables_1, d.before a0 Z = true) (ws : List Jvm.Cond) (G1 : Int32) (G3 : Value) (HG : own_G l Z a0 G1 G3) (h0 : Heap) (n0 : Nat) (X00 : Old Z n0 h0) (t : Addr) (kt : ClassId) (nn : Int32) (ys : List Value) (hp0 : Arv Z h0 t kt .byte (own_db nn) ys (.int (0 : Int32))) (hn0 : ¬ (nn < (0 : Int32))) (h8 : nn.toNatClampNeg ≤ 8) :
    own_CP l Z M339 jdk_52_method_6_code 1 (some .int) ws R_u16len #[(.ref t)] h0 (Q_u16len Z G1 G3 t kt nn ys h0 n0) := by
  refine own_P (plainFor_of_name pn_2) ?_
  intro p e s m below meth c s₁ S0 Bd hZ hh hx hby hml hown hnm X0 e0 hS0d
  obtain ⟨O1, P1, O3f, rG3, OAD, OHI, OLO⟩ := id HG
  have N0 := Fr.nil n0
  have C0 : Steps p.tables e below S0 (s₁.setTop (mkF m 0 #[.val (.ref t)] [])) := by rw [hS0d]; exact castTop (ef_248 m t) (Steps.refl _)
  obtain ⟨c_1, A_2, q_3, S_4, M_5, H_6, U_7⟩ := id hp0
  have C_8 : Steps p.tables e below S0 (s₁.setTop (mkF m 4 #[.val (.ref t)] [(.int ((own_db nn) >>> ((1 : Int32) &&& 31)))])) := by
    refine C0.trans ?_
    refine XS.aloadN X0.here hx rfl (hb hby d17_0) rfl rfl ?_
    refine X0.arraylength hx (by rw [e0]; exact A_2.1) (State.isArrayOf_alike hZ.alike A_2.2.1) (g := (mkF m 1 #[.val (.ref t)] [(.ref t)])) rfl rfl (hb hby d17_1) _ ?_
    rw [len_of S_4 M_5]
    refine XS.iconst X0.here hx rfl (hb hby d17_2) ?_
    refine XS.ishr X0.here hx rfl (hb hby d17_3) rfl ?_
    exact Steps.refl _
  obtain ⟨fs, hr, hrun, hended, hW, hsame⟩ := X0.leave (v := some (.int ((own_db nn) >>> ((1 : Int32) &&& 31)))) (fun h => by rw [Bd.returns] at h; cases h)
  refine ⟨_, _, C_8.trans (retOut X0 hx Bd.returns rfl (Or.inl ⟨rfl, Or.inl rfl, _, rfl⟩) (hb hby d17_4) hr), hrun, hended, _, _, rfl, ?_, ⟨_, rfl⟩, hW, hsame.mono (by decide) (by decide)⟩
  show Q_u16len Z G1 G3 t kt nn ys h0 n0 (some (.int ((own_db nn) >>> ((1 : Int32) &&& 31)))) s₁.heap _
  rw [e0]
  exact ⟨(congrArg (fun q => some (Value.int q)) (own_dbr hn0 h8).2.2), N0, rfl⟩
abbrev R_lenS : Room := { frames := 1, cells := 0, slots := 0, locals := 13 }
def Q_lenS (Z : State) (G1 : Int32) (G3 : Value) (x : Addr) (nn : Int32) (cs : List Int32) (h0 : Heap) (n0 : Nat) (v : Option Value) (h : Heap) (L : List Loc) : Prop := (v = some (.int nn) ∧ Fr n0 L ∧ h = h0)
set_option maxRecDepth 65536 in
set_option maxHeartbeats 40000000 in
theorem rm_lenS (l : Launch) (Z : State) (a0 : Array Value) (hw : ∀ d ∈ tables_1, d.before a0 Z = true) (ws : List Jvm.Cond) (G1 : Int32) (G3 : Value) (HG : own_G l Z a0 G1 G3) (h0 : Heap) (n0 : Nat) (X00 : Old Z n0 h0) (x : Addr) (nn : Int32) (cs : List Int32) (hS : own_S Z h0 x nn cs) (hn0 : ¬ (nn < (0 : Int32))) (h8 : nn.toNatClampNeg ≤ 8) :
    own_CP l Z M264 jdk_42_method_54_code 1 (some .int) ws R_lenS #[(.ref x)] h0 (Q_lenS Z G1 G3 x nn cs h0 n0) := by
  refine own_P (plainFor_of_name pn_185) ?_
  intro p e s m below meth c s₁ S0 Bd hZ hh hx hby hml hown hnm X0 e0 hS0d
  obtain ⟨O1, P1, O3f, rG3, OAD, OHI, OLO⟩ := id HG
  have N0 := Fr.nil n0
  have C0 : Steps p.tables e below S0 (s₁.setTop (mkF m 0 #[.val (.ref x)] [])) := by rw [hS0d]; exact castTop (ef_248 m x) (Steps.refl _)
  obtain ⟨t_1, kt_2, E_3, F_4, q_5⟩ := id hS
  rcases q_5 with ⟨c_6, hl_7, a_8⟩ | ⟨c_6, a_8⟩
  · skip
    obtain ⟨T_9, X_10, e_11, st_12⟩ := getF X0 hx hZ hown (host := "") (Or.inl (w30 hw)) Via.refl e0 F_4 (g := (mkF m 1 #[.val (.ref x)] [(.ref x)])) rfl rfl (hb hby d12_1)
    obtain ⟨c_13, A_14, q_15, S_16, M_17, H_18, U_19⟩ := id a_8
    obtain ⟨q_21, q_22, q_23, q_24, q_25⟩ := isOf (T := T_9) hZ e_11 E_3
    obtain ⟨_, _, ⟨T_20, L_20, k_20, n_20⟩, -, X_20, ⟨Lc_20, hQ_20, l_20, y_20, z_20⟩, st_20⟩ := X_10.virtualBack hx (y := M247) (z := M247) hown (mvT hZ (w63 hw)) (mvT hZ (w64 hw)) (notFace_of_selects (args := #[]) (mvT hZ (w66 hw))) (mvT hZ (w66 hw)) (mvT hZ (w65 hw)) (by decide) (backOf (W := 1) (rm_coder l Z a0 hw [] G1 G3 HG h0 n0 X00 x c_6) hZ (w67 hw) (w5 hw) (by decide) (by decide)) q_23 q_25 (g := (mkF m 6 #[.val (.ref x)] [(.ref x), (.int nn)])) rfl (by rw [hml]; rfl) (Steps.refl _) (argsL := []) (rest := [(.int nn)]) (lenOf pd_270 rfl) rfl (by show 2 * 0 + _ ≤ _; exact Nat.le_of_eq rfl) (hb hby d12_6) (fun _ _ => ⟨rfl, e_11, (by decide : 0 + 0 ≤ _), (by decide : 0 + 0 ≤ _)⟩)
    dsimp only [Pt.U, Pt.locs, Pt.cells, Pt.slots] at X_20 l_20 y_20 z_20 st_20 hQ_20
    have X_20 := own_cast X_20 l_20 y_20 z_20
    obtain ⟨rfl, N_26, e_27⟩ := hQ_20
    have N_28 := Fr.app N0 N_26
    have e_29 : T_20.heap = h0 := e_27
    have C_30 : Steps p.tables e below S0 (T_20.setTop (mkF m 10 #[.val (.ref x)] [(.int (nn >>> ((0 : Int32) &&& 31)))])) := by
      refine C0.trans ?_
      refine XS.aloadN X0.here hx rfl (hb hby d12_0) rfl rfl ?_
      refine st_12 _ ?_
      refine X_10.arraylength hx (by rw [e_11]; exact A_14.1) (State.isArrayOf_alike hZ.alike A_14.2.1) (g := (mkF m 4 #[.val (.ref x)] [(.ref t_1)])) rfl rfl (hb hby d12_4) _ ?_
      rw [len_of S_16 M_17]
      refine XS.aloadN X_10.here hx rfl (hb hby d12_5) rfl rfl ?_
      refine st_20.trans ?_
      refine XS.ishr X_20.here hx rfl (hb hby d12_9) rfl ?_
      exact Steps.refl _
    obtain ⟨fs, hr, hrun, hended, hW, hsame⟩ := X_20.leave (v := some (.int (nn >>> ((0 : Int32) &&& 31)))) (fun h => by rw [Bd.returns] at h; cases h)
    refine ⟨_, _, C_30.trans (retOut X_20 hx Bd.returns rfl (Or.inl ⟨rfl, Or.inl rfl, _, rfl⟩) (hb hby d12_10) hr), hrun, hended, _, _, rfl, ?_, ⟨_, rfl⟩, hW, hsame.mono (by decide) (by decide)⟩
    show Q_lenS Z G1 G3 x nn cs h0 n0 (some (.int (nn >>> ((0 : Int32) &&& 31)))) T_20.heap _
    rw [e_29]
    exact ⟨(congrArg (fun q => some (Value.int q)) (own_shr0 nn)), N_28, rfl⟩
  · skip
    obtain ⟨T_31, X_32, e_33, st_34⟩ := getF X0 hx hZ hown (host := "") (Or.inl (w30 hw)) Via.refl e0 F_4 (g := (mkF m 1 #[.val (.ref x)] [(.ref x)])) rfl rfl (hb hby d12_1)
    obtain ⟨c_35, A_36, q_37, S_38, M_39, H_40, U_41⟩ := id a_8
    obtain ⟨q_43, q_44, q_45, q_46, q_47⟩ := isOf (T := T_31) hZ e_33 E_3
    obtain ⟨_, _, ⟨T_42, L_42, k_42, n_42⟩, -, X_42, ⟨Lc_42, hQ_42, l_42, y_42, z_42⟩, st_42⟩ := X_32.virtualBack hx (y := M247) (z := M247) hown (mvT hZ (w63 hw)) (mvT hZ (w64 hw)) (notFace_of_selects (args := #[]) (mvT hZ (w66 hw))) (mvT hZ (w66 hw)) (mvT hZ (w65 hw)) (by decide) (backOf (W := 1) (rm_coder1 l Z a0 hw [] G1 G3 HG h0 n0 X00 x c_6) hZ (w67 hw) (w5 hw) (by decide) (by decide)) q_45 q_47 (g := (mkF m 6 #[.val (.ref x)] [(.ref x), (.int (own_db nn))])) rfl (by rw [hml]; rfl) (Steps.refl _) (argsL := []) (rest := [(.int (own_db nn))]) (lenOf pd_270 rfl) rfl (by show 2 * 0 + _ ≤ _; exact Nat.le_of_eq rfl) (hb hby d12_6) (fun _ _ => ⟨rfl, e_33, (by decide : 0 + 0 ≤ _), (by decide : 0 + 0 ≤ _)⟩)
    dsimp only [Pt.U, Pt.locs, Pt.cells, Pt.slots] at X_42 l_42 y_42 z_42 st_42 hQ_42
    have X_42 := own_cast X_42 l_42 y_42 z_42
    obtain ⟨rfl, N_48, e_49⟩ := hQ_42
    have N_50 := Fr.app N0 N_48
    have e_51 : T_42.heap = h0 := e_49
    have C_52 : Steps p.tables e below S0 (T_42.setTop (mkF m 10 #[.val (.ref x)] [(.int ((own_db nn) >>> ((1 : Int32) &&& 31)))])) := by
      refine C0.trans ?_
      refine XS.aloadN X0.here hx rfl (hb hby d12_0) rfl rfl ?_
      refine st_34 _ ?_
      refine X_32.arraylength hx (by rw [e_33]; exact A_36.1) (State.isArrayOf_alike hZ.alike A_36.2.1) (g := (mkF m 4 #[.val (.ref x)] [(.ref t_1)])) rfl rfl (hb hby d12_4) _ ?_
      rw [len_of S_38 M_39]
      refine XS.aloadN X_32.here hx rfl (hb hby d12_5) rfl rfl ?_
      refine st_42.trans ?_
      refine XS.ishr X_42.here hx rfl (hb hby d12_9) rfl ?_
      exact Steps.refl _
    obtain ⟨fs, hr, hrun, hended, hW, hsame⟩ := X_42.leave (v := some (.int ((own_db nn) >>> ((1 : Int32) &&& 31)))) (fun h => by rw [Bd.returns] at h; cases h)
    refine ⟨_, _, C_52.trans (retOut X_42 hx Bd.returns rfl (Or.inl ⟨rfl, Or.inl rfl, _, rfl⟩) (hb hby d12_10) hr), hrun, hended, _, _, rfl, ?_, ⟨_, rfl⟩, hW, hsame.mono (by decide) (by decide)⟩
    show Q_lenS Z G1 G3 x nn cs h0 n0 (some (.int ((own_db nn) >>> ((1 : Int32) &&& 31)))) T_42.heap _
    rw [e_51]
    exact ⟨(congrArg (fun q => some (Value.int q)) (own_dbr hn0 h8).2.2), N_50, rfl⟩
abbrev M345 : MethodName := ⟨"java/lang/StringUTF16", "checkIndex", "(I[B)V"⟩
theorem ef_346 (m : MethodId) (x0 : Int32) (x1 : Addr) : entryFrame m #[(.int x0), (.ref x1)] 2 = mkF m 0 #[.val (.int x0), .val (.ref x1)] [] := by first | (simp [entryFrame, mkF, argsToLocals, Value.category]; done) | rfl
theorem d18_0 : decode jdk_52_method_91_code 0 = .ok (.iload_n 0, 1) := by decide +kernel
theorem d18_1 : decode jdk_52_method_91_code 1 = .ok (.aload_n 1, 1) := by decide +kernel
theorem w157 {Z : State} {a0 : Array Value} (hw : ∀ d ∈ tables_1, d.before a0 Z = true) : Jvm.Cond.before (Jvm.Cond.code ({ cls := "java/lang/StringUTF16", name := "length", desc := "([B)I" } : Jvm.MethodName) jdk_52_method_6_code (1 : Nat) (Option.some Jvm.ClassFile.FieldType.int)) a0 Z = true := hw _ (List.mem_of_getElem? (i := 157) rfl)
theorem pd_350 : parseMethodDescriptor "([B)I" = some ⟨[(.array .byte)], some .int⟩ := by decide +kernel
theorem d18_2 : decode jdk_52_method_91_code 2 = .ok (.invokestatic 48, 3) := by decide +kernel
theorem w155 {Z : State} {a0 : Array Value} (hw : ∀ d ∈ tables_1, d.before a0 Z = true) : Jvm.Cond.before (Jvm.Cond.methodLink "java/lang/StringUTF16" (48 : Nat) ({ cls := "java/lang/StringUTF16", name := "length", desc := "([B)I" } : Jvm.MethodName)) a0 Z = true := hw _ (List.mem_of_getElem? (i := 155) rfl)
theorem w156 {Z : State} {a0 : Array Value} (hw : ∀ d ∈ tables_1, d.before a0 Z = true) : Jvm.Cond.before (Jvm.Cond.static ({ cls := "java/lang/StringUTF16", name := "length", desc := "([B)I" } : Jvm.MethodName)) a0 Z = true := hw _ (List.mem_of_getElem? (i := 156) rfl)
theorem d18_5 : decode jdk_52_method_91_code 5 = .ok (.invokestatic 414, 3) := by decide +kernel
theorem w158 {Z : State} {a0 : Array Value} (hw : ∀ d ∈ tables_1, d.before a0 Z = true) : Jvm.Cond.before (Jvm.Cond.methodLink "java/lang/StringUTF16" (414 : Nat) ({ cls := "java/lang/String", name := "checkIndex", desc := "(II)V" } : Jvm.MethodName)) a0 Z = true := hw _ (List.mem_of_getElem? (i := 158) rfl)
theorem d18_8 : decode jdk_52_method_91_code 8 = .ok (.return_, 1) := by decide +kernel
abbrev R_u16chk : Room := { frames := 2, cells := 0, slots := 0, locals := 27 }
def Q_u16chk (Z : State) (G1 : Int32) (G3 : Value) (ii : Int32) (t : Addr) (kt : ClassId) (nn : Int32) (ys : List Value) (h0 : Heap) (n0 : Nat) (v : Option Value) (h : Heap) (L : List Loc) : Prop := (v = none ∧ Fr n0 L ∧ h = h0)
set_option maxRecDepth 65536 in
set_option maxHeartbeats 40000000 in
theorem rm_u16chk (l : Launch) (Z : State) (a0 : Array Value) (hw : ∀ d ∈ tables_1, d.before a0 Z = true) (ws : List Jvm.Cond) (G1 : Int32) (G3 : Value) (HG : own_G l Z a0 G1 G3) (h0 : Heap) (n0 : Nat) (X00 : Old Z n0 h0) (ii : Int32) (t : Addr) (kt : ClassId) (nn : Int32) (ys : List Value) (hp0 : Arv Z h0 t kt .byte (own_db nn) ys (.int (0 : Int32))) (hn0 : ¬ (nn < (0 : Int32))) (h8 : nn.toNatClampNeg ≤ 8) (hi0 : ¬ (ii < (0 : Int32))) (hi1 : ii < nn) :
    own_CP l Z M345 jdk_52_method_91_code 2 none ws R_u16chk #[(.int ii), (.ref t)] h0 (Q_u16chk Z G1 G3 ii t kt nn ys h0 n0) := by
  refine own_P (plainFor_of_name pn_2) ?_
  intro p e s m below meth c s₁ S0 Bd hZ hh hx hby hml hown hnm X0 e0 hS0d
  obtain ⟨O1, P1, O3f, rG3, OAD, OHI, OLO⟩ := id HG
  have N0 := Fr.nil n0
  have C0 : Steps p.tables e below S0 (s₁.setTop (mkF m 0 #[.val (.int ii), .val (.ref t)] [])) := by rw [hS0d]; exact castTop (ef_346 m ii t) (Steps.refl _)
  obtain ⟨_, _, ⟨T_1, L_1, k_1, n_1⟩, -, X_1, ⟨Lc_1, hQ_1, l_1, y_1, z_1⟩, st_1⟩ := Jvm.LawKit.callS X0 hx (y := M339) hown (mvT hZ (w155 hw)) (mvT hZ (w156 hw)) (mvT hZ (w19 hw)) (mvT hZ (w157 hw)) (by decide) (backOf (W := 1) (rm_u16len l Z a0 hw [] G1 G3 HG h0 n0 X00 t kt nn ys hp0 hn0 h8) hZ (w157 hw) (w19 hw) (by decide) (by decide)) (g := (mkF m 2 #[.val (.int ii), .val (.ref t)] [(.ref t), (.int ii)])) rfl (by rw [hml]; rfl) (argsL := [(.ref t)]) (rest := [(.int ii)]) (lenOf pd_350 rfl) rfl (by show 2 * 0 + _ ≤ _; exact Nat.le_of_eq rfl) (hb hby d18_2) (fun _ _ => ⟨rfl, e0, (by decide : 0 + 0 ≤ _), (by decide : 0 + 0 ≤ _)⟩)
  dsimp only [Pt.U, Pt.locs, Pt.cells, Pt.slots] at X_1 l_1 y_1 z_1 st_1 hQ_1
  have X_1 := own_cast X_1 l_1 y_1 z_1
  obtain ⟨rfl, N_2, e_3⟩ := hQ_1
  have N_4 := Fr.app N0 N_2
  have e_5 : T_1.heap = h0 := e_3
  obtain ⟨_, _, ⟨T_6, L_6, k_6, n_6⟩, -, X_6, ⟨Lc_6, hQ_6, l_6, y_6, z_6⟩, st_6⟩ := Jvm.LawKit.callS X_1 hx (y := M288) hown (mvT hZ (w158 hw)) (mvT hZ (w117 hw)) (mvT hZ (w5 hw)) (mvT hZ (w118 hw)) (by decide) (backOf (W := 0) (rm_schk l Z a0 hw [] G1 G3 HG h0 n0 X00 ii nn hi0 hi1) hZ (w118 hw) (w5 hw) (by decide) (by decide)) (g := (mkF m 5 #[.val (.int ii), .val (.ref t)] [(.int nn), (.int ii)])) rfl (by rw [hml]; rfl) (argsL := [(.int ii), (.int nn)]) (rest := []) (lenOf pd_308 rfl) rfl (by show 2 * 0 + _ ≤ _; exact Nat.le_of_eq rfl) (hb hby d18_5) (fun _ _ => ⟨rfl, e_5, (by decide : 0 + 0 ≤ _), (by decide : 0 + 0 ≤ _)⟩)
  dsimp only [Pt.U, Pt.locs, Pt.cells, Pt.slots] at X_6 l_6 y_6 z_6 st_6 hQ_6
  have X_6 := own_cast X_6 l_6 y_6 z_6
  obtain ⟨rfl, N_7, e_8⟩ := hQ_6
  have N_9 := Fr.app N_4 N_7
  have e_10 : T_6.heap = h0 := e_8
  have C_11 : Steps p.tables e below S0 (T_6.setTop (mkF m 8 #[.val (.int ii), .val (.ref t)] [])) := by
    refine C0.trans ?_
    refine XS.iloadN X0.here hx rfl (hb hby d18_0) rfl ?_
    refine XS.aloadN X0.here hx rfl (hb hby d18_1) rfl rfl ?_
    refine st_1 _ ?_
    refine st_6 _ ?_
    exact Steps.refl _
  obtain ⟨fs, hr, hrun, hended, hW, hsame⟩ := X_6.leave (v := none) (fun _ => rfl)
  refine ⟨_, _, C_11.trans (X_6.returnOut hx Bd.returns (hb hby d18_8) hr), hrun, hended, _, _, rfl, ?_, ⟨_, rfl⟩, hW, hsame.mono (by decide) (by decide)⟩
  show Q_u16chk Z G1 G3 ii t kt nn ys h0 n0 (none) T_6.heap _
  rw [e_10]
  exact ⟨rfl, N_9, rfl⟩
abbrev M357 : MethodName := ⟨"java/lang/StringUTF16", "charAt", "([BI)C"⟩
theorem d19_0 : decode jdk_52_method_83_code 0 = .ok (.iload_n 1, 1) := by decide +kernel
theorem d19_1 : decode jdk_52_method_83_code 1 = .ok (.aload_n 0, 1) := by decide +kernel
theorem w154 {Z : State} {a0 : Array Value} (hw : ∀ d ∈ tables_1, d.before a0 Z = true) : Jvm.Cond.before (Jvm.Cond.code ({ cls := "java/lang/StringUTF16", name := "checkIndex", desc := "(I[B)V" } : Jvm.MethodName) jdk_52_method_91_code (2 : Nat) (Option.none : Option Jvm.ClassFile.FieldType)) a0 Z = true := hw _ (List.mem_of_getElem? (i := 154) rfl)
theorem pd_361 : parseMethodDescriptor "(I[B)V" = some ⟨[.int, (.array .byte)], none⟩ := by decide +kernel
theorem d19_2 : decode jdk_52_method_83_code 2 = .ok (.invokestatic 67, 3) := by decide +kernel
theorem w152 {Z : State} {a0 : Array Value} (hw : ∀ d ∈ tables_1, d.before a0 Z = true) : Jvm.Cond.before (Jvm.Cond.methodLink "java/lang/StringUTF16" (67 : Nat) ({ cls := "java/lang/StringUTF16", name := "checkIndex", desc := "(I[B)V" } : Jvm.MethodName)) a0 Z = true := hw _ (List.mem_of_getElem? (i := 152) rfl)
theorem w153 {Z : State} {a0 : Array Value} (hw : ∀ d ∈ tables_1, d.before a0 Z = true) : Jvm.Cond.before (Jvm.Cond.static ({ cls := "java/lang/StringUTF16", name := "checkIndex", desc := "(I[B)V" } : Jvm.MethodName)) a0 Z = true := hw _ (List.mem_of_getElem? (i := 153) rfl)
theorem d19_5 : decode jdk_52_method_83_code 5 = .ok (.aload_n 0, 1) := by decide +kernel
theorem d19_6 : decode jdk_52_method_83_code 6 = .ok (.iload_n 1, 1) := by decide +kernel
theorem d19_7 : decode jdk_52_method_83_code 7 = .ok (.invokestatic 71, 3) := by decide +kernel
theorem d19_10 : decode jdk_52_method_83_code 10 = .ok (.ireturn, 1) := by decide +kernel
abbrev R_u16ch : Room := { frames := 3, cells := 0, slots := 0, locals := 40 }
def Q_u16ch (Z : State) (G1 : Int32) (G3 : Value) (t : Addr) (kt : ClassId) (nn : Int32) (cs : List Int32) (ii : Int32) (h0 : Heap) (n0 : Nat) (v : Option Value) (h : Heap) (L : List Loc) : Prop := (v = some (.int (nar .char (own_gt cs ii))) ∧ Fr n0 L ∧ h = h0)
set_option maxRecDepth 65536 in
set_option maxHeartbeats 40000000 in
theorem rm_u16ch (l : Launch) (Z : State) (a0 : Array Value) (hw : ∀ d ∈ tables_1, d.before a0 Z = true) (ws : List Jvm.Cond) (G1 : Int32) (G3 : Value) (HG : own_G l Z a0 G1 G3) (h0 : Heap) (n0 : Nat) (X00 : Old Z n0 h0) (t : Addr) (kt : ClassId) (nn : Int32) (cs : List Int32) (ii : Int32) (hp0 : Arv Z h0 t kt .byte (own_db nn) (own_iv (own_ws cs)) (.int (0 : Int32))) (hn0 : ¬ (nn < (0 : Int32))) (hl1 : cs.length = nn.toNatClampNeg) (hu : own_u16 cs) (h8 : nn.toNatClampNeg ≤ 8) (hi0 : ¬ (ii < (0 : Int32))) (hi1 : ii < nn) :
    own_CP l Z M357 jdk_52_method_83_code 2 (some .char) ws R_u16ch #[(.ref t), (.int ii)] h0 (Q_u16ch Z G1 G3 t kt nn cs ii h0 n0) := by
  refine own_P (plainFor_of_name pn_2) ?_
  intro p e s m below meth c s₁ S0 Bd hZ hh hx hby hml hown hnm X0 e0 hS0d
  obtain ⟨O1, P1, O3f, rG3, OAD, OHI, OLO⟩ := id HG
  have N0 := Fr.nil n0
  have C0 : Steps p.tables e below S0 (s₁.setTop (mkF m 0 #[.val (.ref t), .val (.int ii)] [])) := by rw [hS0d]; exact castTop (ef_108 m t ii) (Steps.refl _)
  obtain ⟨_, _, ⟨T_1, L_1, k_1, n_1⟩, -, X_1, ⟨Lc_1, hQ_1, l_1, y_1, z_1⟩, st_1⟩ := Jvm.LawKit.callS X0 hx (y := M345) hown (mvT hZ (w152 hw)) (mvT hZ (w153 hw)) (mvT hZ (w19 hw)) (mvT hZ (w154 hw)) (by decide) (backOf (W := 0) (rm_u16chk l Z a0 hw [] G1 G3 HG h0 n0 X00 ii t kt nn (own_iv (own_ws cs)) hp0 hn0 h8 hi0 hi1) hZ (w154 hw) (w19 hw) (by decide) (by decide)) (g := (mkF m 2 #[.val (.ref t), .val (.int ii)] [(.ref t), (.int ii)])) rfl (by rw [hml]; rfl) (argsL := [(.int ii), (.ref t)]) (rest := []) (lenOf pd_361 rfl) rfl (by show 2 * 0 + _ ≤ _; exact Nat.le_of_eq rfl) (hb hby d19_2) (fun _ _ => ⟨rfl, e0, (by decide : 0 + 0 ≤ _), (by decide : 0 + 0 ≤ _)⟩)
  dsimp only [Pt.U, Pt.locs, Pt.cells, Pt.slots] at X_1 l_1 y_1 z_1 st_1 hQ_1
  have X_1 := own_cast X_1 l_1 y_1 z_1
  obtain ⟨rfl, N_2, e_3⟩ := hQ_1
  have N_4 := Fr.app N0 N_2
  have e_5 : T_1.heap = h0 := e_3
  obtain ⟨_, _, ⟨T_6, L_6, k_6, n_6⟩, -, X_6, ⟨Lc_6, hQ_6, l_6, y_6, z_6⟩, st_6⟩ := Jvm.LawKit.callS X_1 hx (y := M107) hown (mvT hZ (w141 hw)) (mvT hZ (w142 hw)) (mvT hZ (w19 hw)) (mvT hZ (w143 hw)) (by decide) (backOf (W := 0) (rm_getc l Z a0 hw [] G1 G3 HG h0 n0 X00 t kt nn cs ii hp0 hn0 hl1 hu h8 hi0 hi1) hZ (w143 hw) (w19 hw) (by decide) (by decide)) (g := (mkF m 7 #[.val (.ref t), .val (.int ii)] [(.int ii), (.ref t)])) rfl (by rw [hml]; rfl) (argsL := [(.ref t), (.int ii)]) (rest := []) (lenOf pd_166 rfl) rfl (by show 2 * 0 + _ ≤ _; exact Nat.le_of_eq rfl) (hb hby d19_7) (fun _ _ => ⟨rfl, e_5, (by decide : 0 + 0 ≤ _), (by decide : 0 + 0 ≤ _)⟩)
  dsimp only [Pt.U, Pt.locs, Pt.cells, Pt.slots] at X_6 l_6 y_6 z_6 st_6 hQ_6
  have X_6 := own_cast X_6 l_6 y_6 z_6
  obtain ⟨rfl, N_7, e_8⟩ := hQ_6
  have N_9 := Fr.app N_4 N_7
  have e_10 : T_6.heap = h0 := e_8
  have C_11 : Steps p.tables e below S0 (T_6.setTop (mkF m 10 #[.val (.ref t), .val (.int ii)] [(.int (own_gt cs ii))])) := by
    refine C0.trans ?_
    refine XS.iloadN X0.here hx rfl (hb hby d19_0) rfl ?_
    refine XS.aloadN X0.here hx rfl (hb hby d19_1) rfl rfl ?_
    refine st_1 _ ?_
    refine XS.aloadN X_1.here hx rfl (hb hby d19_5) rfl rfl ?_
    refine XS.iloadN X_1.here hx rfl (hb hby d19_6) rfl ?_
    refine st_6 _ ?_
    exact Steps.refl _
  obtain ⟨fs, hr, hrun, hended, hW, hsame⟩ := X_6.leave (v := some (.int (nar .char (own_gt cs ii)))) (fun h => by rw [Bd.returns] at h; cases h)
  refine ⟨_, _, C_11.trans (retN X_6 hx (t := .char) Bd.returns (by simp) (hb hby d19_10) hr), hrun, hended, _, _, rfl, ?_, ⟨_, rfl⟩, hW, hsame.mono (by decide) (by decide)⟩
  show Q_u16ch Z G1 G3 t kt nn cs ii h0 n0 (some (.int (nar .char (own_gt cs ii)))) T_6.heap _
  rw [e_10]
  exact ⟨rfl, N_9, rfl⟩
theorem d16_16 : decode jdk_42_method_56_code 16 = .ok (.aload_n 0, 1) := by decide +kernel
theorem d16_17 : decode jdk_42_method_56_code 17 = .ok (.getfield 9, 3) := by decide +kernel
theorem d16_20 : decode jdk_42_method_56_code 20 = .ok (.iload_n 1, 1) := by decide +kernel
theorem w151 {Z : State} {a0 : Array Value} (hw : ∀ d ∈ tables_1, d.before a0 Z = true) : Jvm.Cond.before (Jvm.Cond.code ({ cls := "java/lang/StringUTF16", name := "charAt", desc := "([BI)C" } : Jvm.MethodName) jdk_52_method_83_code (2 : Nat) (Option.some Jvm.ClassFile.FieldType.char)) a0 Z = true := hw _ (List.mem_of_getElem? (i := 151) rfl)
theorem d16_21 : decode jdk_42_method_56_code 21 = .ok (.invokestatic 498, 3) := by decide +kernel
theorem w149 {Z : State} {a0 : Array Value} (hw : ∀ d ∈ tables_1, d.before a0 Z = true) : Jvm.Cond.before (Jvm.Cond.methodLink "java/lang/String" (498 : Nat) ({ cls := "java/lang/StringUTF16", name := "charAt", desc := "([BI)C" } : Jvm.MethodName)) a0 Z = true := hw _ (List.mem_of_getElem? (i := 149) rfl)
theorem w150 {Z : State} {a0 : Array Value} (hw : ∀ d ∈ tables_1, d.before a0 Z = true) : Jvm.Cond.before (Jvm.Cond.static ({ cls := "java/lang/StringUTF16", name := "charAt", desc := "([BI)C" } : Jvm.MethodName)) a0 Z = true := hw _ (List.mem_of_getElem? (i := 150) rfl)
theorem d16_24 : decode jdk_42_method_56_code 24 = .ok (.ireturn, 1) := by decide +kernel
abbrev R_chS : Room := { frames := 4, cells := 0, slots := 0, locals := 53 }
def Q_chS (Z : State) (G1 : Int32) (G3 : Value) (x : Addr) (nn : Int32) (cs : List Int32) (ii : Int32) (h0 : Heap) (n0 : Nat) (v : Option Value) (h : Heap) (L : List Loc) : Prop := (v = some (.int (own_gt cs ii)) ∧ Fr n0 L ∧ h = h0)
set_option maxRecDepth 65536 in
set_option maxHeartbeats 40000000 in
theorem rm_chS (l : Launch) (Z : State) (a0 : Array Value) (hw : ∀ d ∈ tables_1, d.before a0 Z = true) (ws : List Jvm.Cond) (G1 : Int32) (G3 : Value) (HG : own_G l Z a0 G1 G3) (h0 : Heap) (n0 : Nat) (X00 : Old Z n0 h0) (x : Addr) (nn : Int32) (cs : List Int32) (ii : Int32) (hS : own_S Z h0 x nn cs) (hn0 : ¬ (nn < (0 : Int32))) (hl1 : cs.length = nn.toNatClampNeg) (hu : own_u16 cs) (h8 : nn.toNatClampNeg ≤ 8) (hi0 : ¬ (ii < (0 : Int32))) (hi1 : ii < nn) :
    own_CP l Z M319 jdk_42_method_56_code 2 (some .char) ws R_chS #[(.ref x), (.int ii)] h0 (Q_chS Z G1 G3 x nn cs ii h0 n0) := by
  refine own_P (plainFor_of_name pn_185) ?_
  intro p e s m below meth c s₁ S0 Bd hZ hh hx hby hml hown hnm X0 e0 hS0d
  obtain ⟨O1, P1, O3f, rG3, OAD, OHI, OLO⟩ := id HG
  have N0 := Fr.nil n0
  have C0 : Steps p.tables e below S0 (s₁.setTop (mkF m 0 #[.val (.ref x), .val (.int ii)] [])) := by rw [hS0d]; exact castTop (ef_108 m x ii) (Steps.refl _)
  obtain ⟨t_1, kt_2, E_3, F_4, q_5⟩ := id hS
  rcases q_5 with ⟨c_6, hl_7, a_8⟩ | ⟨c_6, a_8⟩
  · skip
    obtain ⟨q_10, q_11, q_12, q_13, q_14⟩ := isOf (T := s₁) hZ e0 E_3
    obtain ⟨_, _, ⟨T_9, L_9, k_9, n_9⟩, -, X_9, ⟨Lc_9, hQ_9, l_9, y_9, z_9⟩, st_9⟩ := X0.virtualBack hx (y := M255) (z := M255) hown (mvT hZ (w76 hw)) (mvT hZ (w77 hw)) (notFace_of_selects (args := #[]) (mvT hZ (w79 hw))) (mvT hZ (w79 hw)) (mvT hZ (w78 hw)) (by decide) (backOf (W := 0) (rm_islat l Z a0 hw [] G1 G3 HG h0 n0 X00 x c_6) hZ (w80 hw) (w5 hw) (by decide) (by decide)) q_12 q_14 (g := (mkF m 1 #[.val (.ref x), .val (.int ii)] [(.ref x)])) rfl (by rw [hml]; rfl) (Steps.refl _) (argsL := []) (rest := []) (lenOf pd_322 rfl) rfl (by show 2 * 0 + _ ≤ _; exact Nat.le_of_eq rfl) (hb hby d16_1) (fun _ _ => ⟨rfl, e0, (by decide : 0 + 0 ≤ _), (by decide : 0 + 0 ≤ _)⟩)
    dsimp only [Pt.U, Pt.locs, Pt.cells, Pt.slots] at X_9 l_9 y_9 z_9 st_9 hQ_9
    have X_9 := own_cast X_9 l_9 y_9 z_9
    obtain ⟨rfl, N_15, e_16⟩ := hQ_9
    have N_17 := Fr.app N0 N_15
    have e_18 : T_9.heap = h0 := e_16
    obtain ⟨T_19, X_20, e_21, st_22⟩ := getF X_9 hx hZ hown (host := "") (Or.inl (w30 hw)) Via.refl e_18 F_4 (g := (mkF m 8 #[.val (.ref x), .val (.int ii)] [(.ref x)])) rfl rfl (hb hby d16_8)
    obtain ⟨_, _, ⟨T_23, L_23, k_23, n_23⟩, -, X_23, ⟨Lc_23, hQ_23, l_23, y_23, z_23⟩, st_23⟩ := Jvm.LawKit.callS X_20 hx (y := M302) hown (mvT hZ (w113 hw)) (mvT hZ (w114 hw)) (mvT hZ (w83 hw)) (mvT hZ (w115 hw)) (by decide) (backOf (W := 0) (rm_lchs l Z a0 hw [] G1 G3 HG h0 n0 X00 t_1 kt_2 nn (own_bs cs) ii a_8 hi0 hi1) hZ (w115 hw) (w83 hw) (by decide) (by decide)) (g := (mkF m 12 #[.val (.ref x), .val (.int ii)] [(.int ii), (.ref t_1)])) rfl (by rw [hml]; rfl) (argsL := [(.ref t_1), (.int ii)]) (rest := []) (lenOf pd_166 rfl) rfl (by show 2 * 0 + _ ≤ _; exact Nat.le_of_eq rfl) (hb hby d16_12) (fun _ _ => ⟨rfl, e_21, (by decide : 0 + 0 ≤ _), (by decide : 0 + 0 ≤ _)⟩)
    dsimp only [Pt.U, Pt.locs, Pt.cells, Pt.slots] at X_23 l_23 y_23 z_23 st_23 hQ_23
    have X_23 := own_cast X_23 l_23 y_23 z_23
    obtain ⟨rfl, N_24, e_25⟩ := hQ_23
    have N_26 := Fr.app N_17 N_24
    have e_27 : T_23.heap = h0 := e_25
    have C_28 : Steps p.tables e below S0 (T_23.setTop (mkF m 15 #[.val (.ref x), .val (.int ii)] [(.int (own_ch (own_gt (own_bs cs) ii)))])) := by
      refine C0.trans ?_
      refine XS.aloadN X0.here hx rfl (hb hby d16_0) rfl rfl ?_
      refine st_9.trans ?_
      refine XS.ifNo X_9.here hx rfl (hb hby d16_4) rfl (by decide) ?_
      refine XS.aloadN X_9.here hx rfl (hb hby d16_7) rfl rfl ?_
      refine st_22 _ ?_
      refine XS.iloadN X_20.here hx rfl (hb hby d16_11) rfl ?_
      refine st_23 _ ?_
      exact Steps.refl _
    obtain ⟨fs, hr, hrun, hended, hW, hsame⟩ := X_23.leave (v := some (.int (nar .char (own_ch (own_gt (own_bs cs) ii))))) (fun h => by rw [Bd.returns] at h; cases h)
    refine ⟨_, _, C_28.trans (retN X_23 hx (t := .char) Bd.returns (by simp) (hb hby d16_15) hr), hrun, hended, _, _, rfl, ?_, ⟨_, rfl⟩, hW, hsame.mono (by decide) (by decide)⟩
    show Q_chS Z G1 G3 x nn cs ii h0 n0 (some (.int (nar .char (own_ch (own_gt (own_bs cs) ii))))) T_23.heap _
    rw [e_27]
    exact ⟨(congrArg (fun q => some (Value.int q)) (own_chsays hl1 hl_7 hi0 hi1)), N_26, rfl⟩
  · skip
    obtain ⟨q_30, q_31, q_32, q_33, q_34⟩ := isOf (T := s₁) hZ e0 E_3
    obtain ⟨_, _, ⟨T_29, L_29, k_29, n_29⟩, -, X_29, ⟨Lc_29, hQ_29, l_29, y_29, z_29⟩, st_29⟩ := X0.virtualBack hx (y := M255) (z := M255) hown (mvT hZ (w76 hw)) (mvT hZ (w77 hw)) (notFace_of_selects (args := #[]) (mvT hZ (w79 hw))) (mvT hZ (w79 hw)) (mvT hZ (w78 hw)) (by decide) (backOf (W := 0) (rm_islat1 l Z a0 hw [] G1 G3 HG h0 n0 X00 x c_6) hZ (w80 hw) (w5 hw) (by decide) (by decide)) q_32 q_34 (g := (mkF m 1 #[.val (.ref x), .val (.int ii)] [(.ref x)])) rfl (by rw [hml]; rfl) (Steps.refl _) (argsL := []) (rest := []) (lenOf pd_322 rfl) rfl (by show 2 * 0 + _ ≤ _; exact Nat.le_of_eq rfl) (hb hby d16_1) (fun _ _ => ⟨rfl, e0, (by decide : 0 + 0 ≤ _), (by decide : 0 + 0 ≤ _)⟩)
    dsimp only [Pt.U, Pt.locs, Pt.cells, Pt.slots] at X_29 l_29 y_29 z_29 st_29 hQ_29
    have X_29 := own_cast X_29 l_29 y_29 z_29
    obtain ⟨rfl, N_35, e_36⟩ := hQ_29
    have N_37 := Fr.app N0 N_35
    have e_38 : T_29.heap = h0 := e_36
    obtain ⟨T_39, X_40, e_41, st_42⟩ := getF X_29 hx hZ hown (host := "") (Or.inl (w30 hw)) Via.refl e_38 F_4 (g := (mkF m 17 #[.val (.ref x), .val (.int ii)] [(.ref x)])) rfl rfl (hb hby d16_17)
    obtain ⟨_, _, ⟨T_43, L_43, k_43, n_43⟩, -, X_43, ⟨Lc_43, hQ_43, l_43, y_43, z_43⟩, st_43⟩ := Jvm.LawKit.callS X_40 hx (y := M357) hown (mvT hZ (w149 hw)) (mvT hZ (w150 hw)) (mvT hZ (w19 hw)) (mvT hZ (w151 hw)) (by decide) (backOf (W := 0) (rm_u16ch l Z a0 hw [] G1 G3 HG h0 n0 X00 t_1 kt_2 nn cs ii a_8 hn0 hl1 hu h8 hi0 hi1) hZ (w151 hw) (w19 hw) (by decide) (by decide)) (g := (mkF m 21 #[.val (.ref x), .val (.int ii)] [(.int ii), (.ref t_1)])) rfl (by rw [hml]; rfl) (argsL := [(.ref t_1), (.int ii)]) (rest := []) (lenOf pd_166 rfl) rfl (by show 2 * 0 + _ ≤ _; exact Nat.le_of_eq rfl) (hb hby d16_21) (fun _ _ => ⟨rfl, e_41, (by decide : 0 + 0 ≤ _), (by decide : 0 + 0 ≤ _)⟩)
    dsimp only [Pt.U, Pt.locs, Pt.cells, Pt.slots] at X_43 l_43 y_43 z_43 st_43 hQ_43
    have X_43 := own_cast X_43 l_43 y_43 z_43
    obtain ⟨rfl, N_44, e_45⟩ := hQ_43
    have N_46 := Fr.app N_37 N_44
    have e_47 : T_43.heap = h0 := e_45
    have C_48 : Steps p.tables e below S0 (T_43.setTop (mkF m 24 #[.val (.ref x), .val (.int ii)] [(.int (nar .char (own_gt cs ii)))])) := by
      refine C0.trans ?_
      refine XS.aloadN X0.here hx rfl (hb hby d16_0) rfl rfl ?_
      refine st_29.trans ?_
      refine XS.ifYes X_29.here hx rfl (pc0 := 4) (pc' := 16) rfl (hb hby d16_4) rfl (by decide) (by decide) (by decide) ?_
      refine XS.aloadN X_29.here hx rfl (hb hby d16_16) rfl rfl ?_
      refine st_42 _ ?_
      refine XS.iloadN X_40.here hx rfl (hb hby d16_20) rfl ?_
      refine st_43 _ ?_
      exact Steps.refl _
    obtain ⟨fs, hr, hrun, hended, hW, hsame⟩ := X_43.leave (v := some (.int (nar .char (nar .char (own_gt cs ii))))) (fun h => by rw [Bd.returns] at h; cases h)
    refine ⟨_, _, C_48.trans (retN X_43 hx (t := .char) Bd.returns (by simp) (hb hby d16_24) hr), hrun, hended, _, _, rfl, ?_, ⟨_, rfl⟩, hW, hsame.mono (by decide) (by decide)⟩
    show Q_chS Z G1 G3 x nn cs ii h0 n0 (some (.int (nar .char (nar .char (own_gt cs ii))))) T_43.heap _
    rw [e_47]
    exact ⟨(congrArg (fun q => some (Value.int q)) (own_nar3 hu ii)), N_46, rfl⟩
abbrev M377 : MethodName := ⟨"jdk/internal/util/Preconditions", "checkFromToIndex", "(IIILjava/util/function/BiFunction;)I"⟩
theorem ef_378 (m : MethodId) (x0 : Int32) (x1 : Int32) (x2 : Int32) (x3 : Value) (r3 : x3.isRef = true) : entryFrame m #[(.int x0), (.int x1), (.int x2), x3] 4 = mkF m 0 #[.val (.int x0), .val (.int x1), .val (.int x2), .val x3] [] := by rcases ref_cases r3 with rfl | ⟨q3, rfl⟩ <;> first | (simp [entryFrame, mkF, argsToLocals, Value.category]; done) | rfl
theorem d20_0 : decode jdk_41_method_12_code 0 = .ok (.iload_n 0, 1) := by decide +kernel
theorem d20_1 : decode jdk_41_method_12_code 1 = .ok (.ifCond .lt 13, 3) := by decide +kernel
theorem d20_4 : decode jdk_41_method_12_code 4 = .ok (.iload_n 0, 1) := by decide +kernel
theorem d20_5 : decode jdk_41_method_12_code 5 = .ok (.iload_n 1, 1) := by decide +kernel
theorem d20_6 : decode jdk_41_method_12_code 6 = .ok (.if_icmp .gt 8, 3) := by decide +kernel
theorem d20_9 : decode jdk_41_method_12_code 9 = .ok (.iload_n 1, 1) := by decide +kernel
theorem d20_10 : decode jdk_41_method_12_code 10 = .ok (.iload_n 2, 1) := by decide +kernel
theorem d20_11 : decode jdk_41_method_12_code 11 = .ok (.if_icmp .le 11, 3) := by decide +kernel
theorem d20_22 : decode jdk_41_method_12_code 22 = .ok (.iload_n 0, 1) := by decide +kernel
theorem d20_23 : decode jdk_41_method_12_code 23 = .ok (.ireturn, 1) := by decide +kernel
abbrev R_pcft : Room := { frames := 0, cells := 0, slots := 0, locals := 0 }
def Q_pcft (Z : State) (G1 : Int32) (G3 : Value) (a : Int32) (b : Int32) (n : Int32) (h0 : Heap) (n0 : Nat) (v : Option Value) (h : Heap) (L : List Loc) : Prop := (v = some (.int a) ∧ Fr n0 L ∧ h = h0)
set_option maxRecDepth 65536 in
set_option maxHeartbeats 40000000 in
theorem rm_pcft (l : Launch) (Z : State) (a0 : Array Value) (hw : ∀ d ∈ tables_1, d.before a0 Z = true) (ws : List Jvm.Cond) (G1 : Int32) (G3 : Value) (HG : own_G l Z a0 G1 G3) (h0 : Heap) (n0 : Nat) (X00 : Old Z n0 h0) (a : Int32) (b : Int32) (n : Int32) (h1 : ¬ (a < (0 : Int32))) (h2 : ¬ (b < a)) (h3 : ¬ (n < b)) :
    own_CP l Z M377 jdk_41_method_12_code 4 (some .int) ws R_pcft #[(.int a), (.int b), (.int n), G3] h0 (Q_pcft Z G1 G3 a b n h0 n0) := by
  refine own_P (plainFor_of_name pn_280) ?_
  intro p e s m below meth c s₁ S0 Bd hZ hh hx hby hml hown hnm X0 e0 hS0d
  obtain ⟨O1, P1, O3f, rG3, OAD, OHI, OLO⟩ := id HG
  have N0 := Fr.nil n0
  have C0 : Steps p.tables e below S0 (s₁.setTop (mkF m 0 #[.val (.int a), .val (.int b), .val (.int n), .val G3] [])) := by rw [hS0d]; exact castTop (ef_378 m a b n G3 rG3) (Steps.refl _)
  have C_1 : Steps p.tables e below S0 (s₁.setTop (mkF m 23 #[.val (.int a), .val (.int b), .val (.int n), .val G3] [(.int a)])) := by
    refine C0.trans ?_
    refine XS.iloadN X0.here hx rfl (hb hby d20_0) rfl ?_
    refine XS.ifNo X0.here hx rfl (hb hby d20_1) rfl (i0_lt_f h1) ?_
    refine XS.iloadN X0.here hx rfl (hb hby d20_4) rfl ?_
    refine XS.iloadN X0.here hx rfl (hb hby d20_5) rfl ?_
    refine XS.icmpNo X0.here hx rfl (hb hby d20_6) rfl (ii_gt_f h2) ?_
    refine XS.iloadN X0.here hx rfl (hb hby d20_9) rfl ?_
    refine XS.iloadN X0.here hx rfl (hb hby d20_10) rfl ?_
    refine XS.icmpYes X0.here hx rfl (pc0 := 11) (pc' := 22) rfl (hb hby d20_11) rfl (ii_le_t h3) (by decide) (by decide) ?_
    show Steps p.tables e below (s₁.setTop (mkF m 22 #[.val (.int a), .val (.int b), .val (.int n), .val G3] [])) _
    refine XS.iloadN X0.here hx rfl (hb hby d20_22) rfl ?_
    exact Steps.refl _
  obtain ⟨fs, hr, hrun, hended, hW, hsame⟩ := X0.leave (v := some (.int a)) (fun h => by rw [Bd.returns] at h; cases h)
  refine ⟨_, _, C_1.trans (retOut X0 hx Bd.returns rfl (Or.inl ⟨rfl, Or.inl rfl, _, rfl⟩) (hb hby d20_23) hr), hrun, hended, _, _, rfl, ?_, ⟨_, rfl⟩, hW, hsame.mono (by decide) (by decide)⟩
  show Q_pcft Z G1 G3 a b n h0 n0 (some (.int a)) s₁.heap _
  rw [e0]
  exact ⟨rfl, N0, rfl⟩
abbrev M389 : MethodName := ⟨"java/lang/String", "checkBoundsBeginEnd", "(III)V"⟩
theorem ef_390 (m : MethodId) (x0 : Int32) (x1 : Int32) (x2 : Int32) : entryFrame m #[(.int x0), (.int x1), (.int x2)] 3 = mkF m 0 #[.val (.int x0), .val (.int x1), .val (.int x2)] [] := by first | (simp [entryFrame, mkF, argsToLocals, Value.category]; done) | rfl
theorem d21_0 : decode jdk_42_method_158_code 0 = .ok (.iload_n 0, 1) := by decide +kernel
theorem d21_1 : decode jdk_42_method_158_code 1 = .ok (.iload_n 1, 1) := by decide +kernel
theorem d21_2 : decode jdk_42_method_158_code 2 = .ok (.iload_n 2, 1) := by decide +kernel
theorem d21_3 : decode jdk_42_method_158_code 3 = .ok (.getstatic 1053, 3) := by decide +kernel
theorem w75 {Z : State} {a0 : Array Value} (hw : ∀ d ∈ tables_1, d.before a0 Z = true) : Jvm.Cond.before (Jvm.Cond.code ({ cls := "jdk/internal/util/Preconditions", name := "checkFromToIndex", desc := "(IIILjava/util/function/BiFunction;)I" } : Jvm.MethodName) jdk_41_method_12_code (4 : Nat) (Option.some Jvm.ClassFile.FieldType.int)) a0 Z = true := hw _ (List.mem_of_getElem? (i := 75) rfl)
theorem pd_396 : parseMethodDescriptor "(IIILjava/util/function/BiFunction;)I" = some ⟨[.int, .int, .int, (.object "java/util/function/BiFunction")], some .int⟩ := by decide +kernel
theorem d21_6 : decode jdk_42_method_158_code 6 = .ok (.invokestatic 1062, 3) := by decide +kernel
theorem w73 {Z : State} {a0 : Array Value} (hw : ∀ d ∈ tables_1, d.before a0 Z = true) : Jvm.Cond.before (Jvm.Cond.methodLink "java/lang/String" (1062 : Nat) ({ cls := "jdk/internal/util/Preconditions", name := "checkFromToIndex", desc := "(IIILjava/util/function/BiFunction;)I" } : Jvm.MethodName)) a0 Z = true := hw _ (List.mem_of_getElem? (i := 73) rfl)
theorem w74 {Z : State} {a0 : Array Value} (hw : ∀ d ∈ tables_1, d.before a0 Z = true) : Jvm.Cond.before (Jvm.Cond.static ({ cls := "jdk/internal/util/Preconditions", name := "checkFromToIndex", desc := "(IIILjava/util/function/BiFunction;)I" } : Jvm.MethodName)) a0 Z = true := hw _ (List.mem_of_getElem? (i := 74) rfl)
theorem d21_9 : decode jdk_42_method_158_code 9 = .ok (.pop, 1) := by decide +kernel
theorem d21_10 : decode jdk_42_method_158_code 10 = .ok (.return_, 1) := by decide +kernel
abbrev R_cbb : Room := { frames := 1, cells := 0, slots := 0, locals := 15 }
def Q_cbb (Z : State) (G1 : Int32) (G3 : Value) (a : Int32) (b : Int32) (n : Int32) (h0 : Heap) (n0 : Nat) (v : Option Value) (h : Heap) (L : List Loc) : Prop := (v = none ∧ Fr n0 L ∧ h = h0)
set_option maxRecDepth 65536 in
set_option maxHeartbeats 40000000 in
theorem rm_cbb (l : Launch) (Z : State) (a0 : Array Value) (hw : ∀ d ∈ tables_1, d.before a0 Z = true) (ws : List Jvm.Cond) (G1 : Int32) (G3 : Value) (HG : own_G l Z a0 G1 G3) (h0 : Heap) (n0 : Nat) (X00 : Old Z n0 h0) (a : Int32) (b : Int32) (n : Int32) (h1 : ¬ (a < (0 : Int32))) (h2 : ¬ (b < a)) (h3 : ¬ (n < b)) :
    own_CP l Z M389 jdk_42_method_158_code 3 none ws R_cbb #[(.int a), (.int b), (.int n)] h0 (Q_cbb Z G1 G3 a b n h0 n0) := by
  refine own_P (plainFor_of_name pn_185) ?_
  intro p e s m below meth c s₁ S0 Bd hZ hh hx hby hml hown hnm X0 e0 hS0d
  obtain ⟨O1, P1, O3f, rG3, OAD, OHI, OLO⟩ := id HG
  have N0 := Fr.nil n0
  have C0 : Steps p.tables e below S0 (s₁.setTop (mkF m 0 #[.val (.int a), .val (.int b), .val (.int n)] [])) := by rw [hS0d]; exact castTop (ef_390 m a b n) (Steps.refl _)
  obtain ⟨T_1, X_2, e_3, st_4⟩ := getS X0 hx hZ (host := "") hown (w71 hw) Via.refl e0 (O3f.ext X00.2) (g := (mkF m 3 #[.val (.int a), .val (.int b), .val (.int n)] [(.int n), (.int b), (.int a)])) rfl (hb hby d21_3)
  obtain ⟨_, _, ⟨T_5, L_5, k_5, n_5⟩, -, X_5, ⟨Lc_5, hQ_5, l_5, y_5, z_5⟩, st_5⟩ := Jvm.LawKit.callS X_2 hx (y := M377) hown (mvT hZ (w73 hw)) (mvT hZ (w74 hw)) (mvT hZ (w72 hw)) (mvT hZ (w75 hw)) (by decide) (backOf (W := 0) (rm_pcft l Z a0 hw [] G1 G3 HG h0 n0 X00 a b n h1 h2 h3) hZ (w75 hw) (w72 hw) (by decide) (by decide)) (g := (mkF m 6 #[.val (.int a), .val (.int b), .val (.int n)] [G3, (.int n), (.int b), (.int a)])) rfl (by rw [hml]; rfl) (argsL := [(.int a), (.int b), (.int n), G3]) (rest := []) (lenOf pd_396 rfl) rfl (by show 2 * 0 + _ ≤ _; exact Nat.le_of_eq rfl) (hb hby d21_6) (fun _ _ => ⟨rfl, e_3, (by decide : 0 + 0 ≤ _), (by decide : 0 + 0 ≤ _)⟩)
  dsimp only [Pt.U, Pt.locs, Pt.cells, Pt.slots] at X_5 l_5 y_5 z_5 st_5 hQ_5
  have X_5 := own_cast X_5 l_5 y_5 z_5
  obtain ⟨rfl, N_6, e_7⟩ := hQ_5
  have N_8 := Fr.app N0 N_6
  have e_9 : T_5.heap = h0 := e_7
  have C_10 : Steps p.tables e below S0 (T_5.setTop (mkF m 10 #[.val (.int a), .val (.int b), .val (.int n)] [])) := by
    refine C0.trans ?_
    refine XS.iloadN X0.here hx rfl (hb hby d21_0) rfl ?_
    refine XS.iloadN X0.here hx rfl (hb hby d21_1) rfl ?_
    refine XS.iloadN X0.here hx rfl (hb hby d21_2) rfl ?_
    refine st_4 _ ?_
    refine st_5 _ ?_
    refine XS.pop X_5.here hx rfl (hb hby d21_9) rfl rfl ?_
    exact Steps.refl _
  obtain ⟨fs, hr, hrun, hended, hW, hsame⟩ := X_5.leave (v := none) (fun _ => rfl)
  refine ⟨_, _, C_10.trans (X_5.returnOut hx Bd.returns (hb hby d21_10) hr), hrun, hended, _, _, rfl, ?_, ⟨_, rfl⟩, hW, hsame.mono (by decide) (by decide)⟩
  show Q_cbb Z G1 G3 a b n h0 n0 (none) T_5.heap _
  rw [e_9]
  exact ⟨rfl, N_8, rfl⟩
abbrev M402 : MethodName := ⟨"java/lang/Math", "min", "(II)I"⟩
theorem d22_0 : decode jdk_29_method_69_code 0 = .ok (.iload_n 0, 1) := by decide +kernel
theorem d22_1 : decode jdk_29_method_69_code 1 = .ok (.iload_n 1, 1) := by decide +kernel
theorem d22_2 : decode jdk_29_method_69_code 2 = .ok (.if_icmp .gt 7, 3) := by decide +kernel
theorem d22_5 : decode jdk_29_method_69_code 5 = .ok (.iload_n 0, 1) := by decide +kernel
theorem d22_6 : decode jdk_29_method_69_code 6 = .ok (.goto 4, 3) := by decide +kernel
theorem d22_10 : decode jdk_29_method_69_code 10 = .ok (.ireturn, 1) := by decide +kernel
abbrev R_minL : Room := { frames := 0, cells := 0, slots := 0, locals := 0 }
def Q_minL (Z : State) (G1 : Int32) (G3 : Value) (a : Int32) (b : Int32) (h0 : Heap) (n0 : Nat) (v : Option Value) (h : Heap) (L : List Loc) : Prop := (v = some (.int a) ∧ Fr n0 L ∧ h = h0)
set_option maxRecDepth 65536 in
set_option maxHeartbeats 40000000 in
theorem rm_minL (l : Launch) (Z : State) (a0 : Array Value) (hw : ∀ d ∈ tables_1, d.before a0 Z = true) (ws : List Jvm.Cond) (G1 : Int32) (G3 : Value) (HG : own_G l Z a0 G1 G3) (h0 : Heap) (n0 : Nat) (X00 : Old Z n0 h0) (a : Int32) (b : Int32) (h : ¬ (b < a)) :
    own_CP l Z M402 jdk_29_method_69_code 2 (some .int) ws R_minL #[(.int a), (.int b)] h0 (Q_minL Z G1 G3 a b h0 n0) := by
  refine own_P (Jvm.Free.JP.mathPlain rfl (by decide +kernel)) ?_
  intro p e s m below meth c s₁ S0 Bd hZ hh hx hby hml hown hnm X0 e0 hS0d
  obtain ⟨O1, P1, O3f, rG3, OAD, OHI, OLO⟩ := id HG
  have N0 := Fr.nil n0
  have C0 : Steps p.tables e below S0 (s₁.setTop (mkF m 0 #[.val (.int a), .val (.int b)] [])) := by rw [hS0d]; exact castTop (ef_289 m a b) (Steps.refl _)
  have C_1 : Steps p.tables e below S0 (s₁.setTop (mkF m 10 #[.val (.int a), .val (.int b)] [(.int a)])) := by
    refine C0.trans ?_
    refine XS.iloadN X0.here hx rfl (hb hby d22_0) rfl ?_
    refine XS.iloadN X0.here hx rfl (hb hby d22_1) rfl ?_
    refine XS.icmpNo X0.here hx rfl (hb hby d22_2) rfl (ii_gt_f h) ?_
    refine XS.iloadN X0.here hx rfl (hb hby d22_5) rfl ?_
    refine XS.goto X0.here hx rfl (pc0 := 6) (pc' := 10) rfl (hb hby d22_6) (by decide) (by decide) ?_
    exact Steps.refl _
  obtain ⟨fs, hr, hrun, hended, hW, hsame⟩ := X0.leave (v := some (.int a)) (fun h => by rw [Bd.returns] at h; cases h)
  refine ⟨_, _, C_1.trans (retOut X0 hx Bd.returns rfl (Or.inl ⟨rfl, Or.inl rfl, _, rfl⟩) (hb hby d22_10) hr), hrun, hended, _, _, rfl, ?_, ⟨_, rfl⟩, hW, hsame.mono (by decide) (by decide)⟩
  show Q_minL Z G1 G3 a b h0 n0 (some (.int a)) s₁.heap _
  rw [e0]
  exact ⟨rfl, N0, rfl⟩
theorem d22_9 : decode jdk_29_method_69_code 9 = .ok (.iload_n 1, 1) := by decide +kernel
abbrev R_minR : Room := { frames := 0, cells := 0, slots := 0, locals := 0 }
def Q_minR (Z : State) (G1 : Int32) (G3 : Value) (a : Int32) (b : Int32) (h0 : Heap) (n0 : Nat) (v : Option Value) (h : Heap) (L : List Loc) : Prop := (v = some (.int b) ∧ Fr n0 L ∧ h = h0)
set_option maxRecDepth 65536 in
set_option maxHeartbeats 40000000 in
theorem rm_minR (l : Launch) (Z : State) (a0 : Array Value) (hw : ∀ d ∈ tables_1, d.before a0 Z = true) (ws : List Jvm.Cond) (G1 : Int32) (G3 : Value) (HG : own_G l Z a0 G1 G3) (h0 : Heap) (n0 : Nat) (X00 : Old Z n0 h0) (a : Int32) (b : Int32) (h : b < a) :
    own_CP l Z M402 jdk_29_method_69_code 2 (some .int) ws R_minR #[(.int a), (.int b)] h0 (Q_minR Z G1 G3 a b h0 n0) := by
  refine own_P (Jvm.Free.JP.mathPlain rfl (by decide +kernel)) ?_
  intro p e s m below meth c s₁ S0 Bd hZ hh hx hby hml hown hnm X0 e0 hS0d
  obtain ⟨O1, P1, O3f, rG3, OAD, OHI, OLO⟩ := id HG
  have N0 := Fr.nil n0
  have C0 : Steps p.tables e below S0 (s₁.setTop (mkF m 0 #[.val (.int a), .val (.int b)] [])) := by rw [hS0d]; exact castTop (ef_289 m a b) (Steps.refl _)
  have C_1 : Steps p.tables e below S0 (s₁.setTop (mkF m 10 #[.val (.int a), .val (.int b)] [(.int b)])) := by
    refine C0.trans ?_
    refine XS.iloadN X0.here hx rfl (hb hby d22_0) rfl ?_
    refine XS.iloadN X0.here hx rfl (hb hby d22_1) rfl ?_
    refine XS.icmpYes X0.here hx rfl (pc0 := 2) (pc' := 9) rfl (hb hby d22_2) rfl (ii_gt_t h) (by decide) (by decide) ?_
    refine XS.iloadN X0.here hx rfl (hb hby d22_9) rfl ?_
    exact Steps.refl _
  obtain ⟨fs, hr, hrun, hended, hW, hsame⟩ := X0.leave (v := some (.int b)) (fun h => by rw [Bd.returns] at h; cases h)
  refine ⟨_, _, C_1.trans (retOut X0 hx Bd.returns rfl (Or.inl ⟨rfl, Or.inl rfl, _, rfl⟩) (hb hby d22_10) hr), hrun, hended, _, _, rfl, ?_, ⟨_, rfl⟩, hW, hsame.mono (by decide) (by decide)⟩
  show Q_minR Z G1 G3 a b h0 n0 (some (.int b)) s₁.heap _
  rw [e0]
  exact ⟨rfl, N0, rfl⟩
abbrev M410 : MethodName := ⟨"java/lang/String", "<init>", "([BB)V"⟩
theorem ef_411 (m : MethodId) (x0 : Addr) (x1 : Addr) (x2 : Int32) : entryFrame m #[(.ref x0), (.ref x1), (.int x2)] 3 = mkF m 0 #[.val (.ref x0), .val (.ref x1), .val (.int x2)] [] := by first | (simp [entryFrame, mkF, argsToLocals, Value.category]; done) | rfl
theorem d23_0 : decode jdk_42_method_151_code 0 = .ok (.aload_n 0, 1) := by decide +kernel
theorem d23_1 : decode jdk_42_method_151_code 1 = .ok (.invokespecial 1, 3) := by decide +kernel
theorem d23_4 : decode jdk_42_method_151_code 4 = .ok (.aload_n 0, 1) := by decide +kernel
theorem d23_5 : decode jdk_42_method_151_code 5 = .ok (.aload_n 1, 1) := by decide +kernel
theorem d23_6 : decode jdk_42_method_151_code 6 = .ok (.putfield 9, 3) := by decide +kernel
theorem d23_9 : decode jdk_42_method_151_code 9 = .ok (.aload_n 0, 1) := by decide +kernel
theorem d23_10 : decode jdk_42_method_151_code 10 = .ok (.iload_n 2, 1) := by decide +kernel
theorem d23_11 : decode jdk_42_method_151_code 11 = .ok (.putfield 15, 3) := by decide +kernel
theorem d23_14 : decode jdk_42_method_151_code 14 = .ok (.return_, 1) := by decide +kernel
abbrev R_sbb_0 : Room := { frames := 1, cells := 0, slots := 0, locals := 12 }
def Q_sbb_0 (Z : State) (G1 : Int32) (G3 : Value) (x : Addr) (t : Addr) (h0 : Heap) (n0 : Nat) (v : Option Value) (h : Heap) (L : List Loc) : Prop := (v = none ∧ Fr n0 L ∧ Keep h0 h [x] ∧ (Exa Z h x "java/lang/String") ∧ (Fld Z h x "java/lang/String" "coder" "B" (.int (0 : Int32))) ∧ (Fld Z h x "java/lang/String" "value" "[B" (.ref t)))
set_option maxRecDepth 65536 in
set_option maxHeartbeats 40000000 in
theorem rm_sbb_0 (l : Launch) (Z : State) (a0 : Array Value) (hw : ∀ d ∈ tables_1, d.before a0 Z = true) (ws : List Jvm.Cond) (G1 : Int32) (G3 : Value) (HG : own_G l Z a0 G1 G3) (h0 : Heap) (n0 : Nat) (X00 : Old Z n0 h0) (x : Addr) (t : Addr) (hp0 : Exa Z h0 x "java/lang/String") (hp1 : Fld Z h0 x "java/lang/String" "value" "[B" .null) (hp2 : Fld Z h0 x "java/lang/String" "coder" "B" (.int (0 : Int32))) (hp3 : n0 ≤ x) :
    own_CP l Z M410 jdk_42_method_151_code 3 none ws R_sbb_0 #[(.ref x), (.ref t), (.int (0 : Int32))] h0 (Q_sbb_0 Z G1 G3 x t h0 n0) := by
  refine own_P (plainFor_of_name pn_185) ?_
  intro p e s m below meth c s₁ S0 Bd hZ hh hx hby hml hown hnm X0 e0 hS0d
  obtain ⟨O1, P1, O3f, rG3, OAD, OHI, OLO⟩ := id HG
  have N0 := Fr.nil n0
  have C0 : Steps p.tables e below S0 (s₁.setTop (mkF m 0 #[.val (.ref x), .val (.ref t), .val (.int (0 : Int32))] [])) := by rw [hS0d]; exact castTop (ef_411 m x t (0 : Int32)) (Steps.refl _)
  obtain ⟨T_1, X_2, e_3, st_4⟩ := initO X0 hx hZ hown (w13 hw) (w14 hw) (w15 hw) e0 (g := (mkF m 1 #[.val (.ref x), .val (.ref t), .val (.int (0 : Int32))] [(.ref x)])) rfl (by rw [hml]; rfl) rfl (hb hby d23_1) (by decide) (W := 0) (by show 2 * 0 + _ ≤ _; exact Nat.le_of_eq rfl) (by decide)
  obtain ⟨T_5, h_6, X_7, e_8, W_9, st_10⟩ := putF X_2 hx hZ hown (host := "") (Or.inl (w30 hw)) Via.refl e_3 hp1 hp0 (Or.inr ⟨(w31 hw), rfl, hnm⟩) (w4 hw) (ty := (.array .byte)) (by decide) rfl rfl (g := (mkF m 6 #[.val (.ref x), .val (.ref t), .val (.int (0 : Int32))] [(.ref t), (.ref x)])) rfl rfl (hb hby d23_6)
  have N_11 := Fr.snoc X_7 N0 hp3
  have F_12 : Fld Z h_6 x "java/lang/String" "value" "[B" (.ref t) := hp1.same W_9
  have F_13 : Fld Z h_6 x "java/lang/String" "coder" "B" (.int (0 : Int32)) := (hp2.other W_9 (Or.inr (slot_ne (Or.inr (w29 hw)) (Or.inr (w31 hw)) (by decide) (t := .byte) (by decide) (t' := (.array .byte)) (by decide))))
  have E_14 : Exa Z h_6 x "java/lang/String" := (hp0.wr W_9)
  obtain ⟨T_15, h_16, X_17, e_18, W_19, st_20⟩ := putF X_7 hx hZ hown (host := "") (Or.inl (w28 hw)) Via.refl e_8 F_13 E_14 (Or.inr ⟨(w29 hw), rfl, hnm⟩) (w4 hw) (ty := .byte) (by decide) rfl (by decide) (g := (mkF m 11 #[.val (.ref x), .val (.ref t), .val (.int (0 : Int32))] [(.int (0 : Int32)), (.ref x)])) rfl rfl (hb hby d23_11)
  have N_21 := Fr.snoc X_17 N_11 hp3
  have F_22 : Fld Z h_16 x "java/lang/String" "coder" "B" (.int (0 : Int32)) := F_13.same W_19
  have C_23 : Steps p.tables e below S0 (T_15.setTop (mkF m 14 #[.val (.ref x), .val (.ref t), .val (.int (0 : Int32))] [])) := by
    refine C0.trans ?_
    refine XS.aloadN X0.here hx rfl (hb hby d23_0) rfl rfl ?_
    refine st_4 _ ?_
    refine XS.aloadN X_2.here hx rfl (hb hby d23_4) rfl rfl ?_
    refine XS.aloadN X_2.here hx rfl (hb hby d23_5) rfl rfl ?_
    refine st_10 _ ?_
    refine XS.aloadN X_7.here hx rfl (hb hby d23_9) rfl rfl ?_
    refine XS.iloadN X_7.here hx rfl (hb hby d23_10) rfl ?_
    refine st_20 _ ?_
    show Steps p.tables e below (T_15.setTop (mkF m 14 #[.val (.ref x), .val (.ref t), .val (.int (0 : Int32))] [])) _
    exact Steps.refl _
  have E_24 : Exa Z h_16 x "java/lang/String" := (E_14.wr W_19)
  have F_25 : Fld Z h_16 x "java/lang/String" "value" "[B" (.ref t) := (F_12.other W_19 (Or.inr (slot_ne (Or.inr (w31 hw)) (Or.inr (w29 hw)) (by decide) (t := (.array .byte)) (by decide) (t' := .byte) (by decide))))
  have K_26 : Keep h0 h_16 [x] := (((Keep.refl _ _).wr W_9 (Or.inl (List.mem_of_getElem? (i := 0) rfl))).wr W_19 (Or.inl (List.mem_of_getElem? (i := 0) rfl)))
  obtain ⟨fs, hr, hrun, hended, hW, hsame⟩ := X_17.leave (v := none) (fun _ => rfl)
  refine ⟨_, _, C_23.trans (X_17.returnOut hx Bd.returns (hb hby d23_14) hr), hrun, hended, _, _, rfl, ?_, ⟨_, rfl⟩, hW, hsame.mono (by decide) (by decide)⟩
  show Q_sbb_0 Z G1 G3 x t h0 n0 (none) T_15.heap _
  rw [e_18]
  exact ⟨rfl, N_21, K_26, E_24, F_22, F_25⟩
abbrev R_sbb_1 : Room := { frames := 1, cells := 0, slots := 0, locals := 12 }
def Q_sbb_1 (Z : State) (G1 : Int32) (G3 : Value) (x : Addr) (t : Addr) (h0 : Heap) (n0 : Nat) (v : Option Value) (h : Heap) (L : List Loc) : Prop := (v = none ∧ Fr n0 L ∧ Keep h0 h [x] ∧ (Exa Z h x "java/lang/String") ∧ (Fld Z h x "java/lang/String" "coder" "B" (.int (1 : Int32))) ∧ (Fld Z h x "java/lang/String" "value" "[B" (.ref t)))
set_option maxRecDepth 65536 in
set_option maxHeartbeats 40000000 in
theorem rm_sbb_1 (l : Launch) (Z : State) (a0 : Array Value) (hw : ∀ d ∈ tables_1, d.before a0 Z = true) (ws : List Jvm.Cond) (G1 : Int32) (G3 : Value) (HG : own_G l Z a0 G1 G3) (h0 : Heap) (n0 : Nat) (X00 : Old Z n0 h0) (x : Addr) (t : Addr) (hp0 : Exa Z h0 x "java/lang/String") (hp1 : Fld Z h0 x "java/lang/String" "value" "[B" .null) (hp2 : Fld Z h0 x "java/lang/String" "coder" "B" (.int (0 : Int32))) (hp3 : n0 ≤ x) :
    own_CP l Z M410 jdk_42_method_151_code 3 none ws R_sbb_1 #[(.ref x), (.ref t), (.int (1 : Int32))] h0 (Q_sbb_1 Z G1 G3 x t h0 n0) := by
  refine own_P (plainFor_of_name pn_185) ?_
  intro p e s m below meth c s₁ S0 Bd hZ hh hx hby hml hown hnm X0 e0 hS0d
  obtain ⟨O1, P1, O3f, rG3, OAD, OHI, OLO⟩ := id HG
  have N0 := Fr.nil n0
  have C0 : Steps p.tables e below S0 (s₁.setTop (mkF m 0 #[.val (.ref x), .val (.ref t), .val (.int (1 : Int32))] [])) := by rw [hS0d]; exact castTop (ef_411 m x t (1 : Int32)) (Steps.refl _)
  obtain ⟨T_1, X_2, e_3, st_4⟩ := initO X0 hx hZ hown (w13 hw) (w14 hw) (w15 hw) e0 (g := (mkF m 1 #[.val (.ref x), .val (.ref t), .val (.int (1 : Int32))] [(.ref x)])) rfl (by rw [hml]; rfl) rfl (hb hby d23_1) (by decide) (W := 0) (by show 2 * 0 + _ ≤ _; exact Nat.le_of_eq rfl) (by decide)
  obtain ⟨T_5, h_6, X_7, e_8, W_9, st_10⟩ := putF X_2 hx hZ hown (host := "") (Or.inl (w30 hw)) Via.refl e_3 hp1 hp0 (Or.inr ⟨(w31 hw), rfl, hnm⟩) (w4 hw) (ty := (.array .byte)) (by decide) rfl rfl (g := (mkF m 6 #[.val (.ref x), .val (.ref t), .val (.int (1 : Int32))] [(.ref t), (.ref x)])) rfl rfl (hb hby d23_6)
  have N_11 := Fr.snoc X_7 N0 hp3
  have F_12 : Fld Z h_6 x "java/lang/String" "value" "[B" (.ref t) := hp1.same W_9
  have F_13 : Fld Z h_6 x "java/lang/String" "coder" "B" (.int (0 : Int32)) := (hp2.other W_9 (Or.inr (slot_ne (Or.inr (w29 hw)) (Or.inr (w31 hw)) (by decide) (t := .byte) (by decide) (t' := (.array .byte)) (by decide))))
  have E_14 : Exa Z h_6 x "java/lang/String" := (hp0.wr W_9)
  obtain ⟨T_15, h_16, X_17, e_18, W_19, st_20⟩ := putF X_7 hx hZ hown (host := "") (Or.inl (w28 hw)) Via.refl e_8 F_13 E_14 (Or.inr ⟨(w29 hw), rfl, hnm⟩) (w4 hw) (ty := .byte) (by decide) rfl (by decide) (g := (mkF m 11 #[.val (.ref x), .val (.ref t), .val (.int (1 : Int32))] [(.int (1 : Int32)), (.ref x)])) rfl rfl (hb hby d23_11)
  have N_21 := Fr.snoc X_17 N_11 hp3
  have F_22 : Fld Z h_16 x "java/lang/String" "coder" "B" (.int (1 : Int32)) := F_13.same W_19
  have C_23 : Steps p.tables e below S0 (T_15.setTop (mkF m 14 #[.val (.ref x), .val (.ref t), .val (.int (1 : Int32))] [])) := by
    refine C0.trans ?_
    refine XS.aloadN X0.here hx rfl (hb hby d23_0) rfl rfl ?_
    refine st_4 _ ?_
    refine XS.aloadN X_2.here hx rfl (hb hby d23_4) rfl rfl ?_
    refine XS.aloadN X_2.here hx rfl (hb hby d23_5) rfl rfl ?_
    refine st_10 _ ?_
    refine XS.aloadN X_7.here hx rfl (hb hby d23_9) rfl rfl ?_
    refine XS.iloadN X_7.here hx rfl (hb hby d23_10) rfl ?_
    refine st_20 _ ?_
    show Steps p.tables e below (T_15.setTop (mkF m 14 #[.val (.ref x), .val (.ref t), .val (.int (1 : Int32))] [])) _
    exact Steps.refl _
  have E_24 : Exa Z h_16 x "java/lang/String" := (E_14.wr W_19)
  have F_25 : Fld Z h_16 x "java/lang/String" "value" "[B" (.ref t) := (F_12.other W_19 (Or.inr (slot_ne (Or.inr (w31 hw)) (Or.inr (w29 hw)) (by decide) (t := (.array .byte)) (by decide) (t' := .byte) (by decide))))
  have K_26 : Keep h0 h_16 [x] := (((Keep.refl _ _).wr W_9 (Or.inl (List.mem_of_getElem? (i := 0) rfl))).wr W_19 (Or.inl (List.mem_of_getElem? (i := 0) rfl)))
  obtain ⟨fs, hr, hrun, hended, hW, hsame⟩ := X_17.leave (v := none) (fun _ => rfl)
  refine ⟨_, _, C_23.trans (X_17.returnOut hx Bd.returns (hb hby d23_14) hr), hrun, hended, _, _, rfl, ?_, ⟨_, rfl⟩, hW, hsame.mono (by decide) (by decide)⟩
  show Q_sbb_1 Z G1 G3 x t h0 n0 (none) T_15.heap _
  rw [e_18]
  exact ⟨rfl, N_21, K_26, E_24, F_22, F_25⟩
abbrev M421 : MethodName := ⟨"java/util/Arrays", "checkLength", "(II)V"⟩
theorem pn_422 : plainName "java/util/Arrays" = true := by first | (simp [plainName, overriddenIn]; done) | decide +kernel
theorem d24_0 : decode jdk_65_method_131_code 0 = .ok (.iload_n 1, 1) := by decide +kernel
theorem d24_1 : decode jdk_65_method_131_code 1 = .ok (.iload_n 0, 1) := by decide +kernel
theorem d24_2 : decode jdk_65_method_131_code 2 = .ok (.if_icmp .ge 35, 3) := by decide +kernel
theorem d24_37 : decode jdk_65_method_131_code 37 = .ok (.return_, 1) := by decide +kernel
abbrev R_ckl : Room := { frames := 0, cells := 0, slots := 0, locals := 0 }
def Q_ckl (Z : State) (G1 : Int32) (G3 : Value) (a : Int32) (b : Int32) (h0 : Heap) (n0 : Nat) (v : Option Value) (h : Heap) (L : List Loc) : Prop := (v = none ∧ Fr n0 L ∧ h = h0)
set_option maxRecDepth 65536 in
set_option maxHeartbeats 40000000 in
theorem rm_ckl (l : Launch) (Z : State) (a0 : Array Value) (hw : ∀ d ∈ tables_1, d.before a0 Z = true) (ws : List Jvm.Cond) (G1 : Int32) (G3 : Value) (HG : own_G l Z a0 G1 G3) (h0 : Heap) (n0 : Nat) (X00 : Old Z n0 h0) (a : Int32) (b : Int32) (h : ¬ (b < a)) :
    own_CP l Z M421 jdk_65_method_131_code 2 none ws R_ckl #[(.int a), (.int b)] h0 (Q_ckl Z G1 G3 a b h0 n0) := by
  refine own_P (plainFor_of_name pn_422) ?_
  intro p e s m below meth c s₁ S0 Bd hZ hh hx hby hml hown hnm X0 e0 hS0d
  obtain ⟨O1, P1, O3f, rG3, OAD, OHI, OLO⟩ := id HG
  have N0 := Fr.nil n0
  have C0 : Steps p.tables e below S0 (s₁.setTop (mkF m 0 #[.val (.int a), .val (.int b)] [])) := by rw [hS0d]; exact castTop (ef_289 m a b) (Steps.refl _)
  have C_1 : Steps p.tables e below S0 (s₁.setTop (mkF m 37 #[.val (.int a), .val (.int b)] [])) := by
    refine C0.trans ?_
    refine XS.iloadN X0.here hx rfl (hb hby d24_0) rfl ?_
    refine XS.iloadN X0.here hx rfl (hb hby d24_1) rfl ?_
    refine XS.icmpYes X0.here hx rfl (pc0 := 2) (pc' := 37) rfl (hb hby d24_2) rfl (ii_ge_t h) (by decide) (by decide) ?_
    exact Steps.refl _
  obtain ⟨fs, hr, hrun, hended, hW, hsame⟩ := X0.leave (v := none) (fun _ => rfl)
  refine ⟨_, _, C_1.trans (X0.returnOut hx Bd.returns (hb hby d24_37) hr), hrun, hended, _, _, rfl, ?_, ⟨_, rfl⟩, hW, hsame.mono (by decide) (by decide)⟩
  show Q_ckl Z G1 G3 a b h0 n0 (none) s₁.heap _
  rw [e0]
  exact ⟨rfl, N0, rfl⟩
abbrev M427 : MethodName := ⟨"java/util/Arrays", "copyOfRangeByte", "([BII)[B"⟩
theorem d25_0 : decode jdk_65_method_133_code 0 = .ok (.iload_n 1, 1) := by decide +kernel
theorem d25_1 : decode jdk_65_method_133_code 1 = .ok (.iload_n 2, 1) := by decide +kernel
theorem w95 {Z : State} {a0 : Array Value} (hw : ∀ d ∈ tables_1, d.before a0 Z = true) : Jvm.Cond.before (Jvm.Cond.code ({ cls := "java/util/Arrays", name := "checkLength", desc := "(II)V" } : Jvm.MethodName) jdk_65_method_131_code (2 : Nat) (Option.none : Option Jvm.ClassFile.FieldType)) a0 Z = true := hw _ (List.mem_of_getElem? (i := 95) rfl)
theorem w88 {Z : State} {a0 : Array Value} (hw : ∀ d ∈ tables_1, d.before a0 Z = true) : Jvm.Cond.before (Jvm.Cond.initialized "java/util/Arrays") a0 Z = true := hw _ (List.mem_of_getElem? (i := 88) rfl)
theorem d25_2 : decode jdk_65_method_133_code 2 = .ok (.invokestatic 343, 3) := by decide +kernel
theorem w93 {Z : State} {a0 : Array Value} (hw : ∀ d ∈ tables_1, d.before a0 Z = true) : Jvm.Cond.before (Jvm.Cond.methodLink "java/util/Arrays" (343 : Nat) ({ cls := "java/util/Arrays", name := "checkLength", desc := "(II)V" } : Jvm.MethodName)) a0 Z = true := hw _ (List.mem_of_getElem? (i := 93) rfl)
theorem w94 {Z : State} {a0 : Array Value} (hw : ∀ d ∈ tables_1, d.before a0 Z = true) : Jvm.Cond.before (Jvm.Cond.static ({ cls := "java/util/Arrays", name := "checkLength", desc := "(II)V" } : Jvm.MethodName)) a0 Z = true := hw _ (List.mem_of_getElem? (i := 94) rfl)
theorem d25_5 : decode jdk_65_method_133_code 5 = .ok (.iload_n 2, 1) := by decide +kernel
theorem d25_6 : decode jdk_65_method_133_code 6 = .ok (.iload_n 1, 1) := by decide +kernel
theorem d25_7 : decode jdk_65_method_133_code 7 = .ok (.isub, 1) := by decide +kernel
theorem d25_8 : decode jdk_65_method_133_code 8 = .ok (.istore_n 3, 1) := by decide +kernel
theorem d25_9 : decode jdk_65_method_133_code 9 = .ok (.iload_n 3, 1) := by decide +kernel
theorem d25_10 : decode jdk_65_method_133_code 10 = .ok (.newarray .byte, 2) := by decide +kernel
theorem d25_12 : decode jdk_65_method_133_code 12 = .ok (.astore 4, 2) := by decide +kernel
theorem d25_14 : decode jdk_65_method_133_code 14 = .ok (.aload_n 0, 1) := by decide +kernel
theorem d25_15 : decode jdk_65_method_133_code 15 = .ok (.iload_n 1, 1) := by decide +kernel
theorem d25_16 : decode jdk_65_method_133_code 16 = .ok (.aload 4, 2) := by decide +kernel
theorem d25_18 : decode jdk_65_method_133_code 18 = .ok (.iconst 0, 1) := by decide +kernel
theorem d25_19 : decode jdk_65_method_133_code 19 = .ok (.aload_n 0, 1) := by decide +kernel
theorem d25_20 : decode jdk_65_method_133_code 20 = .ok (.arraylength, 1) := by decide +kernel
theorem d25_21 : decode jdk_65_method_133_code 21 = .ok (.iload_n 1, 1) := by decide +kernel
theorem d25_22 : decode jdk_65_method_133_code 22 = .ok (.isub, 1) := by decide +kernel
theorem d25_23 : decode jdk_65_method_133_code 23 = .ok (.iload_n 3, 1) := by decide +kernel
theorem w99 {Z : State} {a0 : Array Value} (hw : ∀ d ∈ tables_1, d.before a0 Z = true) : Jvm.Cond.before (Jvm.Cond.code ({ cls := "java/lang/Math", name := "min", desc := "(II)I" } : Jvm.MethodName) jdk_29_method_69_code (2 : Nat) (Option.some Jvm.ClassFile.FieldType.int)) a0 Z = true := hw _ (List.mem_of_getElem? (i := 99) rfl)
theorem w98 {Z : State} {a0 : Array Value} (hw : ∀ d ∈ tables_1, d.before a0 Z = true) : Jvm.Cond.before (Jvm.Cond.initialized "java/lang/Math") a0 Z = true := hw _ (List.mem_of_getElem? (i := 98) rfl)
theorem pd_453 : parseMethodDescriptor "(II)I" = some ⟨[.int, .int], some .int⟩ := by decide +kernel
theorem d25_24 : decode jdk_65_method_133_code 24 = .ok (.invokestatic 304, 3) := by decide +kernel
theorem w96 {Z : State} {a0 : Array Value} (hw : ∀ d ∈ tables_1, d.before a0 Z = true) : Jvm.Cond.before (Jvm.Cond.methodLink "java/util/Arrays" (304 : Nat) ({ cls := "java/lang/Math", name := "min", desc := "(II)I" } : Jvm.MethodName)) a0 Z = true := hw _ (List.mem_of_getElem? (i := 96) rfl)
theorem w97 {Z : State} {a0 : Array Value} (hw : ∀ d ∈ tables_1, d.before a0 Z = true) : Jvm.Cond.before (Jvm.Cond.static ({ cls := "java/lang/Math", name := "min", desc := "(II)I" } : Jvm.MethodName)) a0 Z = true := hw _ (List.mem_of_getElem? (i := 97) rfl)
theorem w100 {Z : State} {a0 : Array Value} (hw : ∀ d ∈ tables_1, d.before a0 Z = true) : Jvm.Cond.before (Jvm.Cond.methodLink "java/util/Arrays" (150 : Nat) ({ cls := "java/lang/System", name := "arraycopy", desc := "(Ljava/lang/Object;ILjava/lang/Object;II)V" } : Jvm.MethodName)) a0 Z = true := hw _ (List.mem_of_getElem? (i := 100) rfl)
theorem w103 {Z : State} {a0 : Array Value} (hw : ∀ d ∈ tables_1, d.before a0 Z = true) : Jvm.Cond.before (Jvm.Cond.native ({ cls := "java/lang/System", name := "arraycopy", desc := "(Ljava/lang/Object;ILjava/lang/Object;II)V" } : Jvm.MethodName)) a0 Z = true := hw _ (List.mem_of_getElem? (i := 103) rfl)
theorem w101 {Z : State} {a0 : Array Value} (hw : ∀ d ∈ tables_1, d.before a0 Z = true) : Jvm.Cond.before (Jvm.Cond.static ({ cls := "java/lang/System", name := "arraycopy", desc := "(Ljava/lang/Object;ILjava/lang/Object;II)V" } : Jvm.MethodName)) a0 Z = true := hw _ (List.mem_of_getElem? (i := 101) rfl)
theorem w102 {Z : State} {a0 : Array Value} (hw : ∀ d ∈ tables_1, d.before a0 Z = true) : Jvm.Cond.before (Jvm.Cond.initialized "java/lang/System") a0 Z = true := hw _ (List.mem_of_getElem? (i := 102) rfl)
theorem d25_27 : decode jdk_65_method_133_code 27 = .ok (.invokestatic 150, 3) := by decide +kernel
theorem d25_30 : decode jdk_65_method_133_code 30 = .ok (.aload 4, 2) := by decide +kernel
theorem d25_32 : decode jdk_65_method_133_code 32 = .ok (.areturn, 1) := by decide +kernel
abbrev R_crb : Room := { frames := 1, cells := 1, slots := 16, locals := 18 }
def Q_crb (Z : State) (G1 : Int32) (G3 : Value) (t : Addr) (kt : ClassId) (zz : Int32) (ys : List Int32) (mm : Int32) (h0 : Heap) (n0 : Nat) (v : Option Value) (h : Heap) (L : List Loc) : Prop := (∃ u : Addr, ∃ ku : ClassId, v = some (.ref u) ∧ Fr n0 L ∧ Keep h0 h [] ∧ (h0.size ≤ u) ∧ (Arv Z h u ku .byte mm (own_iv (ys.take mm.toNatClampNeg)) (.int (0 : Int32))))
set_option maxRecDepth 65536 in
set_option maxHeartbeats 40000000 in
theorem rm_crb (l : Launch) (Z : State) (a0 : Array Value) (hw : ∀ d ∈ tables_1, d.before a0 Z = true) (ws : List Jvm.Cond) (G1 : Int32) (G3 : Value) (HG : own_G l Z a0 G1 G3) (h0 : Heap) (n0 : Nat) (X00 : Old Z n0 h0) (t : Addr) (kt : ClassId) (zz : Int32) (ys : List Int32) (mm : Int32) (hp0 : Arv Z h0 t kt .byte zz (own_iv ys) (.int (0 : Int32))) (hm0 : ¬ (mm < (0 : Int32))) (hlt : mm < zz) (hl2 : ys.length = zz.toNatClampNeg) (hz16 : zz.toNatClampNeg ≤ 16) :
    own_CP l Z M427 jdk_65_method_133_code 5 (some (.array .byte)) ws R_crb #[(.ref t), (.int (0 : Int32)), (.int mm)] h0 (Q_crb Z G1 G3 t kt zz ys mm h0 n0) := by
  refine own_P (plainFor_of_name pn_422) ?_
  intro p e s m below meth c s₁ S0 Bd hZ hh hx hby hml hown hnm X0 e0 hS0d
  obtain ⟨O1, P1, O3f, rG3, OAD, OHI, OLO⟩ := id HG
  have N0 := Fr.nil n0
  have C0 : Steps p.tables e below S0 (s₁.setTop (mkF m 0 #[.val (.ref t), .val (.int (0 : Int32)), .val (.int mm), .unset, .unset] [])) := by rw [hS0d]; exact castTop (ef_79 m t (0 : Int32) mm) (Steps.refl _)
  obtain ⟨_, _, ⟨T_1, L_1, k_1, n_1⟩, -, X_1, ⟨Lc_1, hQ_1, l_1, y_1, z_1⟩, st_1⟩ := Jvm.LawKit.callS X0 hx (y := M421) hown (mvT hZ (w93 hw)) (mvT hZ (w94 hw)) (mvT hZ (w88 hw)) (mvT hZ (w95 hw)) (by decide) (backOf (W := 0) (rm_ckl l Z a0 hw [] G1 G3 HG h0 n0 X00 (0 : Int32) mm hm0) hZ (w95 hw) (w88 hw) (by decide) (by decide)) (g := (mkF m 2 #[.val (.ref t), .val (.int (0 : Int32)), .val (.int mm), .unset, .unset] [(.int mm), (.int (0 : Int32))])) rfl (by rw [hml]; rfl) (argsL := [(.int (0 : Int32)), (.int mm)]) (rest := []) (lenOf pd_308 rfl) rfl (by show 2 * 0 + _ ≤ _; exact Nat.le_of_eq rfl) (hb hby d25_2) (fun _ _ => ⟨rfl, e0, (by decide : 0 + 0 ≤ _), (by decide : 0 + 0 ≤ _)⟩)
  dsimp only [Pt.U, Pt.locs, Pt.cells, Pt.slots] at X_1 l_1 y_1 z_1 st_1 hQ_1
  have X_1 := own_cast X_1 l_1 y_1 z_1
  obtain ⟨rfl, N_2, e_3⟩ := hQ_1
  have N_4 := Fr.app N0 N_2
  have e_5 : T_1.heap = h0 := e_3
  have C_6 : Steps p.tables e below S0 (T_1.setTop (mkF m 8 #[.val (.ref t), .val (.int (0 : Int32)), .val (.int mm), .unset, .unset] [(.int (mm - (0 : Int32)))])) := by
    refine C0.trans ?_
    refine XS.iloadN X0.here hx rfl (hb hby d25_0) rfl ?_
    refine XS.iloadN X0.here hx rfl (hb hby d25_1) rfl ?_
    refine st_1 _ ?_
    refine XS.iloadN X_1.here hx rfl (hb hby d25_5) rfl ?_
    refine XS.iloadN X_1.here hx rfl (hb hby d25_6) rfl ?_
    refine XS.isub X_1.here hx rfl (hb hby d25_7) rfl ?_
    exact Steps.refl _
  have C_7 : Steps p.tables e below S0 (T_1.setTop (mkF m 8 #[.val (.ref t), .val (.int (0 : Int32)), .val (.int mm), .unset, .unset] [(.int mm)])) := by have q := C_6; rw [own_sub0] at q; exact q
  obtain ⟨T_8, h_9, k_10, X_11, e_12, E_13, A_14, st_15⟩ := newP (aty := .byte) X_1 hx hZ (w21 hw) e_5 (g := (mkF m 10 #[.val (.ref t), .val (.int (0 : Int32)), .val (.int mm), .val (.int mm), .unset] [(.int mm)])) rfl (hb hby d25_10) rfl hm0 (cap := 16) (by have q := (own_nat hm0 hlt).1; omega) (by decide) (by decide) (by decide)
  obtain ⟨a_16, g_17⟩ : ∃ z, z = h0.size := ⟨_, rfl⟩
  rw [← g_17] at A_14 st_15
  have V_18 : Arv Z h_9 a_16 k_10 .byte mm (own_iv (List.replicate mm.toNatClampNeg 0)) (.int (0 : Int32)) := (Arv.new A_14 hm0).pad (own_pad _)
  have V_19 : Arv Z h_9 t kt .byte zz (own_iv ys) (.int (0 : Int32)) := (hp0.ext E_13)
  obtain ⟨c_20, A_21, q_22, S_23, M_24, H_25, U_26⟩ := id V_19
  have C_27 : Steps p.tables e below S0 (T_8.setTop (mkF m 23 #[.val (.ref t), .val (.int (0 : Int32)), .val (.int mm), .val (.int mm), .val (.ref a_16)] [(.int (zz - (0 : Int32))), (.int (0 : Int32)), (.ref a_16), (.int (0 : Int32)), (.ref t)])) := by
    refine C_7.trans ?_
    refine XS.istoreN X_1.here hx rfl (hb hby d25_8) rfl (l' := #[.val (.ref t), .val (.int (0 : Int32)), .val (.int mm), .val (.int mm), .unset]) rfl ?_
    refine XS.iloadN X_1.here hx rfl (hb hby d25_9) rfl ?_
    refine st_15 _ ?_
    refine XS.astore X_11.here hx rfl (hb hby d25_12) rfl rfl (l' := #[.val (.ref t), .val (.int (0 : Int32)), .val (.int mm), .val (.int mm), .val (.ref a_16)]) rfl ?_
    refine XS.aloadN X_11.here hx rfl (hb hby d25_14) rfl rfl ?_
    refine XS.iloadN X_11.here hx rfl (hb hby d25_15) rfl ?_
    refine XS.aload X_11.here hx rfl (hb hby d25_16) rfl rfl ?_
    refine XS.iconst X_11.here hx rfl (hb hby d25_18) ?_
    show Steps p.tables e below (T_8.setTop (mkF m 19 #[.val (.ref t), .val (.int (0 : Int32)), .val (.int mm), .val (.int mm), .val (.ref a_16)] [(.int (0 : Int32)), (.ref a_16), (.int (0 : Int32)), (.ref t)])) _
    refine XS.aloadN X_11.here hx rfl (hb hby d25_19) rfl rfl ?_
    refine X_11.arraylength hx (by rw [e_12]; exact A_21.1) (State.isArrayOf_alike hZ.alike A_21.2.1) (g := (mkF m 20 #[.val (.ref t), .val (.int (0 : Int32)), .val (.int mm), .val (.int mm), .val (.ref a_16)] [(.ref t), (.int (0 : Int32)), (.ref a_16), (.int (0 : Int32)), (.ref t)])) rfl rfl (hb hby d25_20) _ ?_
    rw [len_of S_23 M_24]
    refine XS.iloadN X_11.here hx rfl (hb hby d25_21) rfl ?_
    refine XS.isub X_11.here hx rfl (hb hby d25_22) rfl ?_
    exact Steps.refl _
  have C_28 : Steps p.tables e below S0 (T_8.setTop (mkF m 23 #[.val (.ref t), .val (.int (0 : Int32)), .val (.int mm), .val (.int mm), .val (.ref a_16)] [(.int zz), (.int (0 : Int32)), (.ref a_16), (.int (0 : Int32)), (.ref t)])) := by have q := C_27; rw [own_sub0] at q; exact q
  have O_29 : Old Z n0 h_9 := (X00.ext E_13)
  obtain ⟨_, _, ⟨T_30, L_30, k_30, n_30⟩, -, X_30, ⟨Lc_30, hQ_30, l_30, y_30, z_30⟩, st_30⟩ := Jvm.LawKit.callS X_11 hx (y := M402) hown (mvT hZ (w96 hw)) (mvT hZ (w97 hw)) (mvT hZ (w98 hw)) (mvT hZ (w99 hw)) (by decide) (backOf (W := 4) (rm_minR l Z a0 hw [] G1 G3 HG h_9 n0 O_29 zz mm hlt) hZ (w99 hw) (w98 hw) (by decide) (by decide)) (g := (mkF m 24 #[.val (.ref t), .val (.int (0 : Int32)), .val (.int mm), .val (.int mm), .val (.ref a_16)] [(.int mm), (.int zz), (.int (0 : Int32)), (.ref a_16), (.int (0 : Int32)), (.ref t)])) rfl (by rw [hml]; rfl) (argsL := [(.int zz), (.int mm)]) (rest := [(.int (0 : Int32)), (.ref a_16), (.int (0 : Int32)), (.ref t)]) (lenOf pd_453 rfl) rfl (by show 2 * 0 + _ ≤ _; exact Nat.le_of_eq rfl) (hb hby d25_24) (fun _ _ => ⟨rfl, e_12, (by decide : 1 + 0 ≤ _), (by decide : 16 + 0 ≤ _)⟩)
  dsimp only [Pt.U, Pt.locs, Pt.cells, Pt.slots] at X_30 l_30 y_30 z_30 st_30 hQ_30
  have X_30 := own_cast X_30 l_30 y_30 z_30
  obtain ⟨rfl, N_31, e_32⟩ := hQ_30
  have N_33 := Fr.app N_4 N_31
  have e_34 : T_30.heap = h_9 := e_32
  obtain ⟨T_35, h_36, L_37, X_38, e_39, N_40, K_41, V_42, st_43⟩ := cpA X_30 hx hZ hown (w100 hw) (w103 hw) (w101 hw) (w102 hw) e_34 V_19 V_18 (sp := (0 : Int32)) (dp := (0 : Int32)) (nn := mm) (us := own_iv (own_seg ys (0 : Int32) mm)) (Or.inl ⟨rfl, rfl⟩) (by decide) (by decide) hm0 (by rw [show (0 : Int32).toNatClampNeg = 0 from rfl]; have q := (own_nat hm0 hlt).1; omega) (by rw [show (0 : Int32).toNatClampNeg = 0 from rfl]; omega) (own_ivseg _ _ _) (own_ivl (by rw [List.length_replicate, show (0 : Int32).toNatClampNeg = 0 from rfl]; omega)) N_33 (Nat.le_trans (own_n0 X00) (Nat.le_of_eq g_17.symm)) (g := (mkF m 27 #[.val (.ref t), .val (.int (0 : Int32)), .val (.int mm), .val (.int mm), .val (.ref a_16)] [(.int mm), (.int (0 : Int32)), (.ref a_16), (.int (0 : Int32)), (.ref t)])) rfl (by rw [hml]; rfl) rfl (hb hby d25_27) (by decide) (W := 0) (by show 2 * 0 + _ ≤ _; exact Nat.le_of_eq rfl) (by decide)
  have V_44 : Arv Z h_36 a_16 k_10 .byte mm (own_iv (ys.take mm.toNatClampNeg)) (.int (0 : Int32)) := (by have q := own_ivcp V_42; rw [own_cpt hl2 (Nat.le_of_lt (own_nat hm0 hlt).1)] at q; exact q)
  have C_45 : Steps p.tables e below S0 (T_35.setTop (mkF m 32 #[.val (.ref t), .val (.int (0 : Int32)), .val (.int mm), .val (.int mm), .val (.ref a_16)] [(.ref a_16)])) := by
    refine C_28.trans ?_
    refine XS.iloadN X_11.here hx rfl (hb hby d25_23) rfl ?_
    refine st_30 _ ?_
    refine st_43 _ ?_
    refine XS.aload X_38.here hx rfl (hb hby d25_30) rfl rfl ?_
    exact Steps.refl _
  have K_46 : Keep h0 h_36 [] := (((Keep.refl _ _).ext E_13).trans K_41 (allS (Or.inr (Nat.le_trans (Nat.le_refl _) (Nat.le_of_eq g_17.symm))) all0))
  obtain ⟨fs, hr, hrun, hended, hW, hsame⟩ := X_38.leave (v := some (.ref a_16)) (fun h => by rw [Bd.returns] at h; cases h)
  refine ⟨_, _, C_45.trans (retOut X_38 hx Bd.returns rfl (Or.inr (Or.inr (Or.inr (Or.inr ⟨rfl, rfl, rfl⟩)))) (hb hby d25_32) hr), hrun, hended, _, _, rfl, ?_, ⟨_, rfl⟩, hW, hsame.mono (by decide) (by decide)⟩
  show Q_crb Z G1 G3 t kt zz ys mm h0 n0 (some (.ref a_16)) T_35.heap _
  rw [e_39]
  exact ⟨a_16, k_10, rfl, N_40, K_46, (Nat.le_trans (Nat.le_refl _) (Nat.le_of_eq g_17.symm)), V_44⟩
abbrev M464 : MethodName := ⟨"java/util/Arrays", "copyOfRange", "([BII)[B"⟩
theorem d26_0 : decode jdk_65_method_132_code 0 = .ok (.iload_n 1, 1) := by decide +kernel
theorem d26_1 : decode jdk_65_method_132_code 1 = .ok (.ifCond .ne 9, 3) := by decide +kernel
theorem d26_4 : decode jdk_65_method_132_code 4 = .ok (.iload_n 2, 1) := by decide +kernel
theorem d26_5 : decode jdk_65_method_132_code 5 = .ok (.aload_n 0, 1) := by decide +kernel
theorem d26_6 : decode jdk_65_method_132_code 6 = .ok (.arraylength, 1) := by decide +kernel
theorem d26_7 : decode jdk_65_method_132_code 7 = .ok (.if_icmp .eq 10, 3) := by decide +kernel
theorem d26_10 : decode jdk_65_method_132_code 10 = .ok (.aload_n 0, 1) := by decide +kernel
theorem d26_11 : decode jdk_65_method_132_code 11 = .ok (.iload_n 1, 1) := by decide +kernel
theorem d26_12 : decode jdk_65_method_132_code 12 = .ok (.iload_n 2, 1) := by decide +kernel
theorem w92 {Z : State} {a0 : Array Value} (hw : ∀ d ∈ tables_1, d.before a0 Z = true) : Jvm.Cond.before (Jvm.Cond.code ({ cls := "java/util/Arrays", name := "copyOfRangeByte", desc := "([BII)[B" } : Jvm.MethodName) jdk_65_method_133_code (5 : Nat) (Option.some (Jvm.ClassFile.FieldType.array Jvm.ClassFile.FieldType.byte))) a0 Z = true := hw _ (List.mem_of_getElem? (i := 92) rfl)
theorem pd_475 : parseMethodDescriptor "([BII)[B" = some ⟨[(.array .byte), .int, .int], some (.array .byte)⟩ := by decide +kernel
theorem d26_13 : decode jdk_65_method_132_code 13 = .ok (.invokestatic 339, 3) := by decide +kernel
theorem w90 {Z : State} {a0 : Array Value} (hw : ∀ d ∈ tables_1, d.before a0 Z = true) : Jvm.Cond.before (Jvm.Cond.methodLink "java/util/Arrays" (339 : Nat) ({ cls := "java/util/Arrays", name := "copyOfRangeByte", desc := "([BII)[B" } : Jvm.MethodName)) a0 Z = true := hw _ (List.mem_of_getElem? (i := 90) rfl)
theorem w91 {Z : State} {a0 : Array Value} (hw : ∀ d ∈ tables_1, d.before a0 Z = true) : Jvm.Cond.before (Jvm.Cond.static ({ cls := "java/util/Arrays", name := "copyOfRangeByte", desc := "([BII)[B" } : Jvm.MethodName)) a0 Z = true := hw _ (List.mem_of_getElem? (i := 91) rfl)
theorem d26_16 : decode jdk_65_method_132_code 16 = .ok (.areturn, 1) := by decide +kernel
abbrev R_cr : Room := { frames := 2, cells := 1, slots := 16, locals := 34 }
def Q_cr (Z : State) (G1 : Int32) (G3 : Value) (t : Addr) (kt : ClassId) (zz : Int32) (ys : List Int32) (mm : Int32) (h0 : Heap) (n0 : Nat) (v : Option Value) (h : Heap) (L : List Loc) : Prop := (∃ u : Addr, ∃ ku : ClassId, v = some (.ref u) ∧ Fr n0 L ∧ Keep h0 h [] ∧ (h0.size ≤ u) ∧ (Arv Z h u ku .byte mm (own_iv (ys.take mm.toNatClampNeg)) (.int (0 : Int32))))
set_option maxRecDepth 65536 in
set_option maxHeartbeats 40000000 in
theorem rm_cr (l : Launch) (Z : State) (a0 : Array Value) (hw : ∀ d ∈ tables_1, d.before a0 Z = true) (ws : List Jvm.Cond) (G1 : Int32) (G3 : Value) (HG : own_G l Z a0 G1 G3) (h0 : Heap) (n0 : Nat) (X00 : Old Z n0 h0) (t : Addr) (kt : ClassId) (zz : Int32) (ys : List Int32) (mm : Int32) (hp0 : Arv Z h0 t kt .byte zz (own_iv ys) (.int (0 : Int32))) (hm0 : ¬ (mm < (0 : Int32))) (hlt : mm < zz) (hl2 : ys.length = zz.toNatClampNeg) (hz16 : zz.toNatClampNeg ≤ 16) :
    own_CP l Z M464 jdk_65_method_132_code 3 (some (.array .byte)) ws R_cr #[(.ref t), (.int (0 : Int32)), (.int mm)] h0 (Q_cr Z G1 G3 t kt zz ys mm h0 n0) := by
  refine own_P (plainFor_of_name pn_422) ?_
  intro p e s m below meth c s₁ S0 Bd hZ hh hx hby hml hown hnm X0 e0 hS0d
  obtain ⟨O1, P1, O3f, rG3, OAD, OHI, OLO⟩ := id HG
  have N0 := Fr.nil n0
  have C0 : Steps p.tables e below S0 (s₁.setTop (mkF m 0 #[.val (.ref t), .val (.int (0 : Int32)), .val (.int mm)] [])) := by rw [hS0d]; exact castTop (ef_52 m t (0 : Int32) mm) (Steps.refl _)
  obtain ⟨c_1, A_2, q_3, S_4, M_5, H_6, U_7⟩ := id hp0
  obtain ⟨_, _, ⟨T_8, L_8, k_8, n_8⟩, -, X_8, ⟨Lc_8, hQ_8, l_8, y_8, z_8⟩, st_8⟩ := Jvm.LawKit.callS X0 hx (y := M427) hown (mvT hZ (w90 hw)) (mvT hZ (w91 hw)) (mvT hZ (w88 hw)) (mvT hZ (w92 hw)) (by decide) (backOf (W := 0) (rm_crb l Z a0 hw [] G1 G3 HG h0 n0 X00 t kt zz ys mm hp0 hm0 hlt hl2 hz16) hZ (w92 hw) (w88 hw) (by decide) (by decide)) (g := (mkF m 13 #[.val (.ref t), .val (.int (0 : Int32)), .val (.int mm)] [(.int mm), (.int (0 : Int32)), (.ref t)])) rfl (by rw [hml]; rfl) (argsL := [(.ref t), (.int (0 : Int32)), (.int mm)]) (rest := []) (lenOf pd_475 rfl) rfl (by show 2 * 0 + _ ≤ _; exact Nat.le_of_eq rfl) (hb hby d26_13) (fun _ _ => ⟨rfl, e0, (by decide : 0 + 1 ≤ _), (by decide : 0 + 16 ≤ _)⟩)
  dsimp only [Pt.U, Pt.locs, Pt.cells, Pt.slots] at X_8 l_8 y_8 z_8 st_8 hQ_8
  have X_8 := own_cast X_8 l_8 y_8 z_8
  obtain ⟨a_9, k_10, rfl, N_11, K_12, g_13, g_14⟩ := hQ_8
  have N_15 := Fr.app N0 N_11
  have C_16 : Steps p.tables e below S0 (T_8.setTop (mkF m 16 #[.val (.ref t), .val (.int (0 : Int32)), .val (.int mm)] [(.ref a_9)])) := by
    refine C0.trans ?_
    refine XS.iloadN X0.here hx rfl (hb hby d26_0) rfl ?_
    refine XS.ifNo X0.here hx rfl (hb hby d26_1) rfl (by decide) ?_
    refine XS.iloadN X0.here hx rfl (hb hby d26_4) rfl ?_
    refine XS.aloadN X0.here hx rfl (hb hby d26_5) rfl rfl ?_
    refine X0.arraylength hx (by rw [e0]; exact A_2.1) (State.isArrayOf_alike hZ.alike A_2.2.1) (g := (mkF m 6 #[.val (.ref t), .val (.int (0 : Int32)), .val (.int mm)] [(.ref t), (.int mm)])) rfl rfl (hb hby d26_6) _ ?_
    rw [len_of S_4 M_5]
    refine XS.icmpNo X0.here hx rfl (hb hby d26_7) rfl (ii_eq_f (own_ltn' hlt)) ?_
    refine XS.aloadN X0.here hx rfl (hb hby d26_10) rfl rfl ?_
    refine XS.iloadN X0.here hx rfl (hb hby d26_11) rfl ?_
    show Steps p.tables e below (s₁.setTop (mkF m 12 #[.val (.ref t), .val (.int (0 : Int32)), .val (.int mm)] [(.int (0 : Int32)), (.ref t)])) _
    refine XS.iloadN X0.here hx rfl (hb hby d26_12) rfl ?_
    refine st_8 _ ?_
    exact Steps.refl _
  have K_17 : Keep h0 T_8.heap [] := ((Keep.refl _ _).trans K_12 all0)
  obtain ⟨fs, hr, hrun, hended, hW, hsame⟩ := X_8.leave (v := some (.ref a_9)) (fun h => by rw [Bd.returns] at h; cases h)
  refine ⟨_, _, C_16.trans (retOut X_8 hx Bd.returns rfl (Or.inr (Or.inr (Or.inr (Or.inr ⟨rfl, rfl, rfl⟩)))) (hb hby d26_16) hr), hrun, hended, _, _, rfl, ?_, ⟨_, rfl⟩, hW, hsame.mono (by decide) (by decide)⟩
  show Q_cr Z G1 G3 t kt zz ys mm h0 n0 (some (.ref a_9)) T_8.heap _
  exact ⟨a_9, k_10, rfl, N_15, K_17, (Nat.le_trans (Nat.le_refl _) g_13), g_14⟩
abbrev M480 : MethodName := ⟨"java/lang/StringLatin1", "newString", "([BII)Ljava/lang/String;"⟩
theorem d27_0 : decode jdk_43_method_47_code 0 = .ok (.iload_n 2, 1) := by decide +kernel
theorem d27_1 : decode jdk_43_method_47_code 1 = .ok (.ifCond .ne 6, 3) := by decide +kernel
theorem w122 {Z : State} {a0 : Array Value} (hw : ∀ d ∈ tables_1, d.before a0 Z = true) : Jvm.Cond.before (Jvm.Cond.stringLink "java/lang/StringLatin1" (151 : Nat) "") a0 Z = true := hw _ (List.mem_of_getElem? (i := 122) rfl)
theorem d27_4 : decode jdk_43_method_47_code 4 = .ok (.ldc 151, 2) := by decide +kernel
theorem d27_6 : decode jdk_43_method_47_code 6 = .ok (.areturn, 1) := by decide +kernel
theorem w85 {Z : State} {a0 : Array Value} (hw : ∀ d ∈ tables_1, d.before a0 Z = true) : Jvm.Cond.before (Jvm.Cond.classLink "java/lang/StringLatin1" (1 : Nat) "java/lang/String") a0 Z = true := hw _ (List.mem_of_getElem? (i := 85) rfl)
theorem d27_7 : decode jdk_43_method_47_code 7 = .ok (.new 1, 3) := by decide +kernel
theorem d27_10 : decode jdk_43_method_47_code 10 = .ok (.dup, 1) := by decide +kernel
theorem d27_11 : decode jdk_43_method_47_code 11 = .ok (.aload_n 0, 1) := by decide +kernel
theorem d27_12 : decode jdk_43_method_47_code 12 = .ok (.iload_n 1, 1) := by decide +kernel
theorem d27_13 : decode jdk_43_method_47_code 13 = .ok (.iload_n 1, 1) := by decide +kernel
theorem d27_14 : decode jdk_43_method_47_code 14 = .ok (.iload_n 2, 1) := by decide +kernel
theorem d27_15 : decode jdk_43_method_47_code 15 = .ok (.iadd, 1) := by decide +kernel
theorem w89 {Z : State} {a0 : Array Value} (hw : ∀ d ∈ tables_1, d.before a0 Z = true) : Jvm.Cond.before (Jvm.Cond.code ({ cls := "java/util/Arrays", name := "copyOfRange", desc := "([BII)[B" } : Jvm.MethodName) jdk_65_method_132_code (3 : Nat) (Option.some (Jvm.ClassFile.FieldType.array Jvm.ClassFile.FieldType.byte))) a0 Z = true := hw _ (List.mem_of_getElem? (i := 89) rfl)
theorem d27_16 : decode jdk_43_method_47_code 16 = .ok (.invokestatic 232, 3) := by decide +kernel
theorem w86 {Z : State} {a0 : Array Value} (hw : ∀ d ∈ tables_1, d.before a0 Z = true) : Jvm.Cond.before (Jvm.Cond.methodLink "java/lang/StringLatin1" (232 : Nat) ({ cls := "java/util/Arrays", name := "copyOfRange", desc := "([BII)[B" } : Jvm.MethodName)) a0 Z = true := hw _ (List.mem_of_getElem? (i := 86) rfl)
theorem w87 {Z : State} {a0 : Array Value} (hw : ∀ d ∈ tables_1, d.before a0 Z = true) : Jvm.Cond.before (Jvm.Cond.static ({ cls := "java/util/Arrays", name := "copyOfRange", desc := "([BII)[B" } : Jvm.MethodName)) a0 Z = true := hw _ (List.mem_of_getElem? (i := 87) rfl)
theorem d27_19 : decode jdk_43_method_47_code 19 = .ok (.iconst 0, 1) := by decide +kernel
theorem w106 {Z : State} {a0 : Array Value} (hw : ∀ d ∈ tables_1, d.before a0 Z = true) : Jvm.Cond.before (Jvm.Cond.code ({ cls := "java/lang/String", name := "<init>", desc := "([BB)V" } : Jvm.MethodName) jdk_42_method_151_code (3 : Nat) (Option.none : Option Jvm.ClassFile.FieldType)) a0 Z = true := hw _ (List.mem_of_getElem? (i := 106) rfl)
theorem pd_500 : parseMethodDescriptor "([BB)V" = some ⟨[(.array .byte), .byte], none⟩ := by decide +kernel
theorem d27_20 : decode jdk_43_method_47_code 20 = .ok (.invokespecial 112, 3) := by decide +kernel
theorem w104 {Z : State} {a0 : Array Value} (hw : ∀ d ∈ tables_1, d.before a0 Z = true) : Jvm.Cond.before (Jvm.Cond.methodLink "java/lang/StringLatin1" (112 : Nat) ({ cls := "java/lang/String", name := "<init>", desc := "([BB)V" } : Jvm.MethodName)) a0 Z = true := hw _ (List.mem_of_getElem? (i := 104) rfl)
theorem w105 {Z : State} {a0 : Array Value} (hw : ∀ d ∈ tables_1, d.before a0 Z = true) : Jvm.Cond.before (Jvm.Cond.instanceMethod ({ cls := "java/lang/String", name := "<init>", desc := "([BB)V" } : Jvm.MethodName)) a0 Z = true := hw _ (List.mem_of_getElem? (i := 105) rfl)
theorem d27_23 : decode jdk_43_method_47_code 23 = .ok (.areturn, 1) := by decide +kernel
abbrev R_lns : Room := { frames := 3, cells := 2, slots := 20, locals := 50 }
def Q_lns (Z : State) (G1 : Int32) (G3 : Value) (t : Addr) (kt : ClassId) (nn : Int32) (cs : List Int32) (mm : Int32) (h0 : Heap) (n0 : Nat) (v : Option Value) (h : Heap) (L : List Loc) : Prop := (∃ r : Addr, v = some (.ref r) ∧ Fr n0 L ∧ Keep h0 h [] ∧ (Exa Z h r "java/lang/String") ∧ (own_S Z h r mm (cs.take mm.toNatClampNeg)))
set_option maxRecDepth 65536 in
set_option maxHeartbeats 40000000 in
theorem rm_lns (l : Launch) (Z : State) (a0 : Array Value) (hw : ∀ d ∈ tables_1, d.before a0 Z = true) (ws : List Jvm.Cond) (G1 : Int32) (G3 : Value) (HG : own_G l Z a0 G1 G3) (h0 : Heap) (n0 : Nat) (X00 : Old Z n0 h0) (t : Addr) (kt : ClassId) (nn : Int32) (cs : List Int32) (mm : Int32) (hp0 : Arv Z h0 t kt .byte nn (own_iv (own_bs cs)) (.int (0 : Int32))) (hla : own_lat cs) (hn0 : ¬ (nn < (0 : Int32))) (hl1 : cs.length = nn.toNatClampNeg) (hu : own_u16 cs) (h8 : nn.toNatClampNeg ≤ 8) (hm0 : ¬ (mm < (0 : Int32))) (hlt : mm < nn) :
    own_CH l Z M480 jdk_43_method_47_code 3 (some (.object "java/lang/String")) ws R_lns #[(.ref t), (.int (0 : Int32)), (.int mm)] h0 (Q_lns Z G1 G3 t kt nn cs mm h0 n0) := by
  refine own_H (plainFor_of_name pn_303) ?_
  intro p e s m below meth c s₁ S0 Bd hZ hh CH0 hS0 CR0 hx hby hml hown hnm X0 e0 hS0d
  obtain ⟨O1, P1, O3f, rG3, OAD, OHI, OLO⟩ := id HG
  have hEL := own_EL hw
  have hSA := own_SA hw
  have N0 := Fr.nil n0
  have C0 : Steps p.tables e below S0 (s₁.setTop (mkF m 0 #[.val (.ref t), .val (.int (0 : Int32)), .val (.int mm)] [])) := by rw [hS0d]; exact castTop (ef_52 m t (0 : Int32) mm) (Steps.refl _)
  have C_1 : Steps p.tables e below S0 (s₁.setTop (mkF m 1 #[.val (.ref t), .val (.int (0 : Int32)), .val (.int mm)] [(.int mm)])) := by
    refine C0.trans ?_
    refine XS.iloadN X0.here hx rfl (hb hby d27_0) rfl ?_
    exact Steps.refl _
  by_cases hc_2 : mm = (0 : Int32)
  · skip
    obtain ⟨a_3, T_4, h_5, k1_6, b_7, k_8, X_9, e_10, E_11, S_12, hk_13, hZ_14, ho_15, Ex_16, Fc_17, Fv_18, Va_19, la_20, lb_21, R_22, L_23, Sf_24, st_25⟩ := ldcCH (vm0 := s.vm) X0 hx hZ hown (w122 hw) hSA e0 hS0 (Nat.le_refl _) hEL (by decide) CH0 (vs := []) (z := (0 : Int32)) ⟨by decide, by decide⟩ (by decide) (by decide) (g := (mkF m 4 #[.val (.ref t), .val (.int (0 : Int32)), .val (.int mm)] [])) rfl (hb hby d27_4) (n := 0) (by decide) (by decide) (by decide) (by decide)
    have CH_26 : CHv Z consts_1 T_4.vm h_5 := R_22.1
    have CR_27 : CHr Z consts_1 s.vm h0 T_4.vm h_5 := CR0.trans R_22
    have C_28 : Steps p.tables e below S0 (T_4.setTop (mkF m 6 #[.val (.ref t), .val (.int (0 : Int32)), .val (.int mm)] [(.ref a_3)])) := by
      refine C_1.trans ?_
      refine XS.ifNo X0.here hx rfl (hb hby d27_1) rfl (i0_ne_f hc_2) ?_
      refine st_25 _ ?_
      exact Steps.refl _
    have V_29 : Arv Z h_5 b_7 k_8 .byte (0 : Int32) (own_iv []) (.int (0 : Int32)) := Va_19
    have K_30 : Keep h0 h_5 [] := ((Keep.refl _ _).ext E_11)
    obtain ⟨fs, hr, hrun, hended, hRE⟩ := X_9.leaveW S_12 (by rw [show T_4.heap = h_5 from e_10]; exact hk_13) (v := some (.ref a_3)) (fun h => by rw [Bd.returns] at h; cases h)
    refine ⟨_, _, C_28.trans (retOut X_9 hx Bd.returns rfl (Or.inr (Or.inr (Or.inr (Or.inr ⟨rfl, rfl, rfl⟩)))) (hb hby d27_6) hr), hrun, hended, _, _, rfl, ?_, ?_, hRE.1, hRE.2.1, hRE.2.2.1, hRE.2.2.2.mono (by decide) (by decide)⟩
    · show Q_lns Z G1 G3 t kt nn cs mm h0 n0 (some (.ref a_3)) T_4.heap _
      rw [e_10]
      exact ⟨a_3, rfl, N0, K_30, Ex_16, (own_Sempty hc_2 Ex_16 Fv_18 Fc_17 V_29)⟩
    · show CHr Z consts_1 s.vm s.heap T_4.vm T_4.heap
      rw [hh, show T_4.heap = h_5 from e_10]
      exact CR_27.trans (CHv.at X_9 hZ_14 hEL CH_26)
  · skip
    obtain ⟨T_31, h_32, X_33, e_34, E_35, A_36, D_37, U_41, st_38⟩ := newO X0 hx hZ hown (w85 hw) (w4 hw) (w5 hw) e0 (g := (mkF m 7 #[.val (.ref t), .val (.int (0 : Int32)), .val (.int mm)] [])) rfl (hb hby d27_7) (by decide) (by decide)
    obtain ⟨a_39, g_40⟩ : ∃ z, z = h0.size := ⟨_, rfl⟩
    rw [← g_40] at A_36 D_37 st_38 U_41
    have CH_42 : CHv Z consts_1 s.vm h_32 := CHv.ext E_35 CH0
    have CR_43 : CHr Z consts_1 s.vm h0 s.vm h_32 := CR0.trans (CHr.ext E_35 CH0)
    have C_44 : Steps p.tables e below S0 (T_31.setTop (mkF m 16 #[.val (.ref t), .val (.int (0 : Int32)), .val (.int mm)] [(.int ((0 : Int32) + mm)), (.int (0 : Int32)), (.ref t), (.ref a_39), (.ref a_39)])) := by
      refine C_1.trans ?_
      refine XS.ifYes X0.here hx rfl (pc0 := 1) (pc' := 7) rfl (hb hby d27_1) rfl (i0_ne_t hc_2) (by decide) (by decide) ?_
      refine st_38 _ ?_
      refine XS.dup X_33.here hx rfl (hb hby d27_10) rfl rfl ?_
      refine XS.aloadN X_33.here hx rfl (hb hby d27_11) rfl rfl ?_
      refine XS.iloadN X_33.here hx rfl (hb hby d27_12) rfl ?_
      refine XS.iloadN X_33.here hx rfl (hb hby d27_13) rfl ?_
      refine XS.iloadN X_33.here hx rfl (hb hby d27_14) rfl ?_
      refine XS.iadd X_33.here hx rfl (hb hby d27_15) rfl ?_
      show Steps p.tables e below (T_31.setTop (mkF m 16 #[.val (.ref t), .val (.int (0 : Int32)), .val (.int mm)] [(.int ((0 : Int32) + mm)), (.int (0 : Int32)), (.ref t), (.ref a_39), (.ref a_39)])) _
      exact Steps.refl _
    have C_45 : Steps p.tables e below S0 (T_31.setTop (mkF m 16 #[.val (.ref t), .val (.int (0 : Int32)), .val (.int mm)] [(.int mm), (.int (0 : Int32)), (.ref t), (.ref a_39), (.ref a_39)])) := by have q := C_44; rw [own_0add] at q; exact q
    have V_46 : Arv Z h_32 t kt .byte nn (own_iv (own_bs cs)) (.int (0 : Int32)) := (hp0.ext E_35)
    have O_47 : Old Z n0 h_32 := (X00.ext E_35)
    obtain ⟨_, _, ⟨T_48, L_48, k_48, n_48⟩, -, X_48, ⟨Lc_48, hQ_48, l_48, y_48, z_48⟩, st_48⟩ := Jvm.LawKit.callS X_33 hx (y := M464) hown (mvT hZ (w86 hw)) (mvT hZ (w87 hw)) (mvT hZ (w88 hw)) (mvT hZ (w89 hw)) (by decide) (backOf (W := 2) (rm_cr l Z a0 hw [] G1 G3 HG h_32 n0 O_47 t kt nn (own_bs cs) mm V_46 hm0 hlt (own_bslen hl1) (Nat.le_trans h8 (by decide))) hZ (w89 hw) (w88 hw) (by decide) (by decide)) (g := (mkF m 16 #[.val (.ref t), .val (.int (0 : Int32)), .val (.int mm)] [(.int mm), (.int (0 : Int32)), (.ref t), (.ref a_39), (.ref a_39)])) rfl (by rw [hml]; rfl) (argsL := [(.ref t), (.int (0 : Int32)), (.int mm)]) (rest := [(.ref a_39), (.ref a_39)]) (lenOf pd_475 rfl) rfl (by show 2 * 0 + _ ≤ _; exact Nat.le_of_eq rfl) (hb hby d27_16) (fun _ _ => ⟨rfl, e_34, (by decide : 1 + 1 ≤ _), (by decide : 4 + 16 ≤ _)⟩)
    dsimp only [Pt.U, Pt.locs, Pt.cells, Pt.slots] at X_48 l_48 y_48 z_48 st_48 hQ_48
    have X_48 := own_cast X_48 l_48 y_48 z_48
    obtain ⟨a_49, k_50, rfl, N_51, K_52, g_53, g_54⟩ := hQ_48
    have N_55 := Fr.app N0 N_51
    have CH_56 : CHv Z consts_1 s.vm T_48.heap := CHv.keep K_52 sf0 CH_42
    have CR_57 : CHr Z consts_1 s.vm h0 s.vm T_48.heap := CR_43.trans (CHr.keep K_52 sf0 CH_42)
    have E_58 : Exa Z T_48.heap a_39 "java/lang/String" := (A_36.keep K_52)
    have F_59 : Fld Z T_48.heap a_39 "java/lang/String" "value" "[B" .null := ((D_37 (Or.inr (w31 hw)) (ty := (.array .byte)) (by decide)).keep K_52 nin0)
    have F_60 : Fld Z T_48.heap a_39 "java/lang/String" "coder" "B" (.int (0 : Int32)) := ((D_37 (Or.inr (w29 hw)) (ty := .byte) (by decide)).keep K_52 nin0)
    have O_61 : Old Z n0 T_48.heap := (O_47.keep K_52 all0)
    obtain ⟨_, _, ⟨T_62, L_62, k_62, n_62⟩, -, X_62, ⟨Lc_62, hQ_62, l_62, y_62, z_62⟩, st_62⟩ := X_48.specialBack hx (y := M410) rfl hown (mvT hZ (w104 hw)) (mvT hZ (w105 hw)) (mvT hZ (w106 hw)) (by decide) (backOf (W := 1) (rm_sbb_0 l Z a0 hw [] G1 G3 HG T_48.heap n0 O_61 a_39 a_49 E_58 F_59 F_60 (Nat.le_trans (own_n0 X00) (Nat.le_of_eq g_40.symm))) hZ (w106 hw) (w5 hw) (by decide) (by decide)) (g := (mkF m 20 #[.val (.ref t), .val (.int (0 : Int32)), .val (.int mm)] [(.int (0 : Int32)), (.ref a_49), (.ref a_39), (.ref a_39)])) rfl (by rw [hml]; rfl) (Steps.refl _) (a := a_39) (argsL := [(.ref a_49), (.int (0 : Int32))]) (rest := [(.ref a_39)]) (lenOf pd_500 rfl) rfl (by show 2 * 0 + _ ≤ _; exact Nat.le_of_eq rfl) (hb hby d27_20) (fun _ _ => ⟨rfl, rfl, (by decide : 2 + 0 ≤ _), (by decide : 20 + 0 ≤ _)⟩)
    dsimp only [Pt.U, Pt.locs, Pt.cells, Pt.slots] at X_62 l_62 y_62 z_62 st_62 hQ_62
    have X_62 := own_cast X_62 l_62 y_62 z_62
    obtain ⟨rfl, N_63, K_64, g_65, g_66, g_67⟩ := hQ_62
    have N_68 := Fr.app N_55 N_63
    have CH_69 : CHv Z consts_1 s.vm T_62.heap := CHv.keep K_64 (sfS (own_safe_null hZ.alike E_58 F_59) sf0) CH_56
    have CR_70 : CHr Z consts_1 s.vm h0 s.vm T_62.heap := CR_57.trans (CHr.keep K_64 (sfS (own_safe_null hZ.alike E_58 F_59) sf0) CH_56)
    have C_71 : Steps p.tables e below S0 (T_62.setTop (mkF m 23 #[.val (.ref t), .val (.int (0 : Int32)), .val (.int mm)] [(.ref a_39)])) := by
      refine C_45.trans ?_
      refine st_48 _ ?_
      refine XS.iconst X_48.here hx rfl (hb hby d27_19) ?_
      refine st_62.trans ?_
      exact Steps.refl _
    have V_72 : Arv Z T_62.heap a_49 k_50 .byte mm (own_iv ((own_bs cs).take mm.toNatClampNeg)) (.int (0 : Int32)) := (g_54.keep K_64 (ninS (Ne.symm (Nat.ne_of_lt (Nat.lt_of_lt_of_le A_36.lt (Nat.le_trans (Nat.le_refl _) g_53)))) nin0))
    have K_73 : Keep h0 T_62.heap [] := ((((Keep.refl _ _).ext E_35).trans K_52 all0).trans K_64 (allS (Or.inr (Nat.le_trans (Nat.le_refl _) (Nat.le_of_eq g_40.symm))) all0))
    obtain ⟨fs, hr, hrun, hended, hRE⟩ := X_62.leaveW hS0 (by rw [show T_62.heap = T_62.heap from rfl]; exact (Nat.le_trans (Nat.le_refl _) (Nat.le_trans (Nat.le_trans E_35.1 K_52.1) K_64.1))) (v := some (.ref a_39)) (fun h => by rw [Bd.returns] at h; cases h)
    refine ⟨_, _, C_71.trans (retOut X_62 hx Bd.returns rfl (Or.inr (Or.inr (Or.inr (Or.inr ⟨rfl, rfl, rfl⟩)))) (hb hby d27_23) hr), hrun, hended, _, _, rfl, ?_, ?_, hRE.1, hRE.2.1, hRE.2.2.1, hRE.2.2.2.mono (by decide) (by decide)⟩
    · show Q_lns Z G1 G3 t kt nn cs mm h0 n0 (some (.ref a_39)) T_62.heap _
      exact ⟨a_39, rfl, N_68, K_73, g_65, ⟨a_49, k_50, g_65, g_67, Or.inl ⟨g_66, (own_lattake hla _), (own_bstake V_72)⟩⟩⟩
    · show CHr Z consts_1 s.vm s.heap T_62.vm T_62.heap
      rw [hh]
      exact CR_70.trans (CHv.at X_62 hZ hEL CH_69)
abbrev M505 : MethodName := ⟨"jdk/internal/util/Preconditions", "checkFromIndexSize", "(IIILjava/util/function/BiFunction;)I"⟩
theorem d28_0 : decode jdk_41_method_13_code 0 = .ok (.iload_n 2, 1) := by decide +kernel
theorem d28_1 : decode jdk_41_method_13_code 1 = .ok (.iload_n 0, 1) := by decide +kernel
theorem d28_2 : decode jdk_41_method_13_code 2 = .ok (.ior, 1) := by decide +kernel
theorem d28_3 : decode jdk_41_method_13_code 3 = .ok (.iload_n 1, 1) := by decide +kernel
theorem d28_4 : decode jdk_41_method_13_code 4 = .ok (.ior, 1) := by decide +kernel
theorem d28_5 : decode jdk_41_method_13_code 5 = .ok (.ifCond .lt 10, 3) := by decide +kernel
theorem d28_8 : decode jdk_41_method_13_code 8 = .ok (.iload_n 1, 1) := by decide +kernel
theorem d28_9 : decode jdk_41_method_13_code 9 = .ok (.iload_n 2, 1) := by decide +kernel
theorem d28_10 : decode jdk_41_method_13_code 10 = .ok (.iload_n 0, 1) := by decide +kernel
theorem d28_11 : decode jdk_41_method_13_code 11 = .ok (.isub, 1) := by decide +kernel
theorem d28_12 : decode jdk_41_method_13_code 12 = .ok (.if_icmp .le 11, 3) := by decide +kernel
theorem d28_23 : decode jdk_41_method_13_code 23 = .ok (.iload_n 0, 1) := by decide +kernel
theorem d28_24 : decode jdk_41_method_13_code 24 = .ok (.ireturn, 1) := by decide +kernel
abbrev R_cfis : Room := { frames := 0, cells := 0, slots := 0, locals := 0 }
def Q_cfis (Z : State) (G1 : Int32) (G3 : Value) (mm : Int32) (nn : Int32) (h0 : Heap) (n0 : Nat) (v : Option Value) (h : Heap) (L : List Loc) : Prop := (v = some (.int (0 : Int32)) ∧ Fr n0 L ∧ h = h0)
set_option maxRecDepth 65536 in
set_option maxHeartbeats 40000000 in
theorem rm_cfis (l : Launch) (Z : State) (a0 : Array Value) (hw : ∀ d ∈ tables_1, d.before a0 Z = true) (ws : List Jvm.Cond) (G1 : Int32) (G3 : Value) (HG : own_G l Z a0 G1 G3) (h0 : Heap) (n0 : Nat) (X00 : Old Z n0 h0) (mm : Int32) (nn : Int32) (hn0 : ¬ (nn < (0 : Int32))) (h8 : nn.toNatClampNeg ≤ 8) (hm0 : ¬ (mm < (0 : Int32))) (hlt : mm < nn) :
    own_CP l Z M505 jdk_41_method_13_code 4 (some .int) ws R_cfis #[(.int (0 : Int32)), (.int mm), (.int nn), G3] h0 (Q_cfis Z G1 G3 mm nn h0 n0) := by
  refine own_P (plainFor_of_name pn_280) ?_
  intro p e s m below meth c s₁ S0 Bd hZ hh hx hby hml hown hnm X0 e0 hS0d
  obtain ⟨O1, P1, O3f, rG3, OAD, OHI, OLO⟩ := id HG
  have N0 := Fr.nil n0
  have C0 : Steps p.tables e below S0 (s₁.setTop (mkF m 0 #[.val (.int (0 : Int32)), .val (.int mm), .val (.int nn), .val G3] [])) := by rw [hS0d]; exact castTop (ef_378 m (0 : Int32) mm nn G3 rG3) (Steps.refl _)
  have C_1 : Steps p.tables e below S0 (s₁.setTop (mkF m 24 #[.val (.int (0 : Int32)), .val (.int mm), .val (.int nn), .val G3] [(.int (0 : Int32))])) := by
    refine C0.trans ?_
    refine XS.iloadN X0.here hx rfl (hb hby d28_0) rfl ?_
    refine XS.iloadN X0.here hx rfl (hb hby d28_1) rfl ?_
    refine XS.ior X0.here hx rfl (hb hby d28_2) rfl ?_
    refine XS.iloadN X0.here hx rfl (hb hby d28_3) rfl ?_
    refine XS.ior X0.here hx rfl (hb hby d28_4) rfl ?_
    refine XS.ifNo X0.here hx rfl (hb hby d28_5) rfl (i0_lt_f (own_or3 hn0 h8 hm0 hlt)) ?_
    refine XS.iloadN X0.here hx rfl (hb hby d28_8) rfl ?_
    refine XS.iloadN X0.here hx rfl (hb hby d28_9) rfl ?_
    show Steps p.tables e below (s₁.setTop (mkF m 10 #[.val (.int (0 : Int32)), .val (.int mm), .val (.int nn), .val G3] [(.int nn), (.int mm)])) _
    refine XS.iloadN X0.here hx rfl (hb hby d28_10) rfl ?_
    refine XS.isub X0.here hx rfl (hb hby d28_11) rfl ?_
    refine XS.icmpYes X0.here hx rfl (pc0 := 12) (pc' := 23) rfl (hb hby d28_12) rfl (ii_le_t (by rw [own_sub0]; exact own_asym hlt)) (by decide) (by decide) ?_
    refine XS.iloadN X0.here hx rfl (hb hby d28_23) rfl ?_
    exact Steps.refl _
  obtain ⟨fs, hr, hrun, hended, hW, hsame⟩ := X0.leave (v := some (.int (0 : Int32))) (fun h => by rw [Bd.returns] at h; cases h)
  refine ⟨_, _, C_1.trans (retOut X0 hx Bd.returns rfl (Or.inl ⟨rfl, Or.inl rfl, _, rfl⟩) (hb hby d28_24) hr), hrun, hended, _, _, rfl, ?_, ⟨_, rfl⟩, hW, hsame.mono (by decide) (by decide)⟩
  show Q_cfis Z G1 G3 mm nn h0 n0 (some (.int (0 : Int32))) s₁.heap _
  rw [e0]
  exact ⟨rfl, N0, rfl⟩
abbrev M519 : MethodName := ⟨"java/lang/String", "checkBoundsOffCount", "(III)I"⟩
theorem d29_0 : decode jdk_42_method_157_code 0 = .ok (.iload_n 0, 1) := by decide +kernel
theorem d29_1 : decode jdk_42_method_157_code 1 = .ok (.iload_n 1, 1) := by decide +kernel
theorem d29_2 : decode jdk_42_method_157_code 2 = .ok (.iload_n 2, 1) := by decide +kernel
theorem d29_3 : decode jdk_42_method_157_code 3 = .ok (.getstatic 1053, 3) := by decide +kernel
theorem w174 {Z : State} {a0 : Array Value} (hw : ∀ d ∈ tables_1, d.before a0 Z = true) : Jvm.Cond.before (Jvm.Cond.code ({ cls := "jdk/internal/util/Preconditions", name := "checkFromIndexSize", desc := "(IIILjava/util/function/BiFunction;)I" } : Jvm.MethodName) jdk_41_method_13_code (4 : Nat) (Option.some Jvm.ClassFile.FieldType.int)) a0 Z = true := hw _ (List.mem_of_getElem? (i := 174) rfl)
theorem d29_6 : decode jdk_42_method_157_code 6 = .ok (.invokestatic 1065, 3) := by decide +kernel
theorem w172 {Z : State} {a0 : Array Value} (hw : ∀ d ∈ tables_1, d.before a0 Z = true) : Jvm.Cond.before (Jvm.Cond.methodLink "java/lang/String" (1065 : Nat) ({ cls := "jdk/internal/util/Preconditions", name := "checkFromIndexSize", desc := "(IIILjava/util/function/BiFunction;)I" } : Jvm.MethodName)) a0 Z = true := hw _ (List.mem_of_getElem? (i := 172) rfl)
theorem w173 {Z : State} {a0 : Array Value} (hw : ∀ d ∈ tables_1, d.before a0 Z = true) : Jvm.Cond.before (Jvm.Cond.static ({ cls := "jdk/internal/util/Preconditions", name := "checkFromIndexSize", desc := "(IIILjava/util/function/BiFunction;)I" } : Jvm.MethodName)) a0 Z = true := hw _ (List.mem_of_getElem? (i := 173) rfl)
theorem d29_9 : decode jdk_42_method_157_code 9 = .ok (.ireturn, 1) := by decide +kernel
abbrev R_cboc : Room := { frames := 1, cells := 0, slots := 0, locals := 15 }
def Q_cboc (Z : State) (G1 : Int32) (G3 : Value) (mm : Int32) (nn : Int32) (h0 : Heap) (n0 : Nat) (v : Option Value) (h : Heap) (L : List Loc) : Prop := (v = some (.int (0 : Int32)) ∧ Fr n0 L ∧ h = h0)
set_option maxRecDepth 65536 in
set_option maxHeartbeats 40000000 in
theorem rm_cboc (l : Launch) (Z : State) (a0 : Array Value) (hw : ∀ d ∈ tables_1, d.before a0 Z = true) (ws : List Jvm.Cond) (G1 : Int32) (G3 : Value) (HG : own_G l Z a0 G1 G3) (h0 : Heap) (n0 : Nat) (X00 : Old Z n0 h0) (mm : Int32) (nn : Int32) (hn0 : ¬ (nn < (0 : Int32))) (h8 : nn.toNatClampNeg ≤ 8) (hm0 : ¬ (mm < (0 : Int32))) (hlt : mm < nn) :
    own_CP l Z M519 jdk_42_method_157_code 3 (some .int) ws R_cboc #[(.int (0 : Int32)), (.int mm), (.int nn)] h0 (Q_cboc Z G1 G3 mm nn h0 n0) := by
  refine own_P (plainFor_of_name pn_185) ?_
  intro p e s m below meth c s₁ S0 Bd hZ hh hx hby hml hown hnm X0 e0 hS0d
  obtain ⟨O1, P1, O3f, rG3, OAD, OHI, OLO⟩ := id HG
  have N0 := Fr.nil n0
  have C0 : Steps p.tables e below S0 (s₁.setTop (mkF m 0 #[.val (.int (0 : Int32)), .val (.int mm), .val (.int nn)] [])) := by rw [hS0d]; exact castTop (ef_390 m (0 : Int32) mm nn) (Steps.refl _)
  obtain ⟨T_1, X_2, e_3, st_4⟩ := getS X0 hx hZ (host := "") hown (w71 hw) Via.refl e0 (O3f.ext X00.2) (g := (mkF m 3 #[.val (.int (0 : Int32)), .val (.int mm), .val (.int nn)] [(.int nn), (.int mm), (.int (0 : Int32))])) rfl (hb hby d29_3)
  obtain ⟨_, _, ⟨T_5, L_5, k_5, n_5⟩, -, X_5, ⟨Lc_5, hQ_5, l_5, y_5, z_5⟩, st_5⟩ := Jvm.LawKit.callS X_2 hx (y := M505) hown (mvT hZ (w172 hw)) (mvT hZ (w173 hw)) (mvT hZ (w72 hw)) (mvT hZ (w174 hw)) (by decide) (backOf (W := 0) (rm_cfis l Z a0 hw [] G1 G3 HG h0 n0 X00 mm nn hn0 h8 hm0 hlt) hZ (w174 hw) (w72 hw) (by decide) (by decide)) (g := (mkF m 6 #[.val (.int (0 : Int32)), .val (.int mm), .val (.int nn)] [G3, (.int nn), (.int mm), (.int (0 : Int32))])) rfl (by rw [hml]; rfl) (argsL := [(.int (0 : Int32)), (.int mm), (.int nn), G3]) (rest := []) (lenOf pd_396 rfl) rfl (by show 2 * 0 + _ ≤ _; exact Nat.le_of_eq rfl) (hb hby d29_6) (fun _ _ => ⟨rfl, e_3, (by decide : 0 + 0 ≤ _), (by decide : 0 + 0 ≤ _)⟩)
  dsimp only [Pt.U, Pt.locs, Pt.cells, Pt.slots] at X_5 l_5 y_5 z_5 st_5 hQ_5
  have X_5 := own_cast X_5 l_5 y_5 z_5
  obtain ⟨rfl, N_6, e_7⟩ := hQ_5
  have N_8 := Fr.app N0 N_6
  have e_9 : T_5.heap = h0 := e_7
  have C_10 : Steps p.tables e below S0 (T_5.setTop (mkF m 9 #[.val (.int (0 : Int32)), .val (.int mm), .val (.int nn)] [(.int (0 : Int32))])) := by
    refine C0.trans ?_
    refine XS.iloadN X0.here hx rfl (hb hby d29_0) rfl ?_
    refine XS.iloadN X0.here hx rfl (hb hby d29_1) rfl ?_
    refine XS.iloadN X0.here hx rfl (hb hby d29_2) rfl ?_
    refine st_4 _ ?_
    refine st_5 _ ?_
    exact Steps.refl _
  obtain ⟨fs, hr, hrun, hended, hW, hsame⟩ := X_5.leave (v := some (.int (0 : Int32))) (fun h => by rw [Bd.returns] at h; cases h)
  refine ⟨_, _, C_10.trans (retOut X_5 hx Bd.returns rfl (Or.inl ⟨rfl, Or.inl rfl, _, rfl⟩) (hb hby d29_9) hr), hrun, hended, _, _, rfl, ?_, ⟨_, rfl⟩, hW, hsame.mono (by decide) (by decide)⟩
  show Q_cboc Z G1 G3 mm nn h0 n0 (some (.int (0 : Int32))) T_5.heap _
  rw [e_9]
  exact ⟨rfl, N_8, rfl⟩
abbrev M529 : MethodName := ⟨"java/lang/StringUTF16", "checkBoundsOffCount", "(II[B)V"⟩
theorem ef_530 (m : MethodId) (x0 : Int32) (x1 : Int32) (x2 : Addr) : entryFrame m #[(.int x0), (.int x1), (.ref x2)] 3 = mkF m 0 #[.val (.int x0), .val (.int x1), .val (.ref x2)] [] := by first | (simp [entryFrame, mkF, argsToLocals, Value.category]; done) | rfl
theorem d30_0 : decode jdk_52_method_94_code 0 = .ok (.iload_n 0, 1) := by decide +kernel
theorem d30_1 : decode jdk_52_method_94_code 1 = .ok (.iload_n 1, 1) := by decide +kernel
theorem d30_2 : decode jdk_52_method_94_code 2 = .ok (.aload_n 2, 1) := by decide +kernel
theorem d30_3 : decode jdk_52_method_94_code 3 = .ok (.invokestatic 48, 3) := by decide +kernel
theorem w171 {Z : State} {a0 : Array Value} (hw : ∀ d ∈ tables_1, d.before a0 Z = true) : Jvm.Cond.before (Jvm.Cond.code ({ cls := "java/lang/String", name := "checkBoundsOffCount", desc := "(III)I" } : Jvm.MethodName) jdk_42_method_157_code (3 : Nat) (Option.some Jvm.ClassFile.FieldType.int)) a0 Z = true := hw _ (List.mem_of_getElem? (i := 171) rfl)
theorem pd_536 : parseMethodDescriptor "(III)I" = some ⟨[.int, .int, .int], some .int⟩ := by decide +kernel
theorem d30_6 : decode jdk_52_method_94_code 6 = .ok (.invokestatic 419, 3) := by decide +kernel
theorem w169 {Z : State} {a0 : Array Value} (hw : ∀ d ∈ tables_1, d.before a0 Z = true) : Jvm.Cond.before (Jvm.Cond.methodLink "java/lang/StringUTF16" (419 : Nat) ({ cls := "java/lang/String", name := "checkBoundsOffCount", desc := "(III)I" } : Jvm.MethodName)) a0 Z = true := hw _ (List.mem_of_getElem? (i := 169) rfl)
theorem w170 {Z : State} {a0 : Array Value} (hw : ∀ d ∈ tables_1, d.before a0 Z = true) : Jvm.Cond.before (Jvm.Cond.static ({ cls := "java/lang/String", name := "checkBoundsOffCount", desc := "(III)I" } : Jvm.MethodName)) a0 Z = true := hw _ (List.mem_of_getElem? (i := 170) rfl)
theorem d30_9 : decode jdk_52_method_94_code 9 = .ok (.pop, 1) := by decide +kernel
theorem d30_10 : decode jdk_52_method_94_code 10 = .ok (.return_, 1) := by decide +kernel
abbrev R_ucbo : Room := { frames := 2, cells := 0, slots := 0, locals := 29 }
def Q_ucbo (Z : State) (G1 : Int32) (G3 : Value) (mm : Int32) (t : Addr) (kt : ClassId) (nn : Int32) (ys : List Value) (h0 : Heap) (n0 : Nat) (v : Option Value) (h : Heap) (L : List Loc) : Prop := (v = none ∧ Fr n0 L ∧ h = h0)
set_option maxRecDepth 65536 in
set_option maxHeartbeats 40000000 in
theorem rm_ucbo (l : Launch) (Z : State) (a0 : Array Value) (hw : ∀ d ∈ tables_1, d.before a0 Z = true) (ws : List Jvm.Cond) (G1 : Int32) (G3 : Value) (HG : own_G l Z a0 G1 G3) (h0 : Heap) (n0 : Nat) (X00 : Old Z n0 h0) (mm : Int32) (t : Addr) (kt : ClassId) (nn : Int32) (ys : List Value) (hp0 : Arv Z h0 t kt .byte (own_db nn) ys (.int (0 : Int32))) (hn0 : ¬ (nn < (0 : Int32))) (h8 : nn.toNatClampNeg ≤ 8) (hm0 : ¬ (mm < (0 : Int32))) (hlt : mm < nn) :
    own_CP l Z M529 jdk_52_method_94_code 3 none ws R_ucbo #[(.int (0 : Int32)), (.int mm), (.ref t)] h0 (Q_ucbo Z G1 G3 mm t kt nn ys h0 n0) := by
  refine own_P (plainFor_of_name pn_2) ?_
  intro p e s m below meth c s₁ S0 Bd hZ hh hx hby hml hown hnm X0 e0 hS0d
  obtain ⟨O1, P1, O3f, rG3, OAD, OHI, OLO⟩ := id HG
  have N0 := Fr.nil n0
  have C0 : Steps p.tables e below S0 (s₁.setTop (mkF m 0 #[.val (.int (0 : Int32)), .val (.int mm), .val (.ref t)] [])) := by rw [hS0d]; exact castTop (ef_530 m (0 : Int32) mm t) (Steps.refl _)
  obtain ⟨_, _, ⟨T_1, L_1, k_1, n_1⟩, -, X_1, ⟨Lc_1, hQ_1, l_1, y_1, z_1⟩, st_1⟩ := Jvm.LawKit.callS X0 hx (y := M339) hown (mvT hZ (w155 hw)) (mvT hZ (w156 hw)) (mvT hZ (w19 hw)) (mvT hZ (w157 hw)) (by decide) (backOf (W := 2) (rm_u16len l Z a0 hw [] G1 G3 HG h0 n0 X00 t kt nn ys hp0 hn0 h8) hZ (w157 hw) (w19 hw) (by decide) (by decide)) (g := (mkF m 3 #[.val (.int (0 : Int32)), .val (.int mm), .val (.ref t)] [(.ref t), (.int mm), (.int (0 : Int32))])) rfl (by rw [hml]; rfl) (argsL := [(.ref t)]) (rest := [(.int mm), (.int (0 : Int32))]) (lenOf pd_350 rfl) rfl (by show 2 * 0 + _ ≤ _; exact Nat.le_of_eq rfl) (hb hby d30_3) (fun _ _ => ⟨rfl, e0, (by decide : 0 + 0 ≤ _), (by decide : 0 + 0 ≤ _)⟩)
  dsimp only [Pt.U, Pt.locs, Pt.cells, Pt.slots] at X_1 l_1 y_1 z_1 st_1 hQ_1
  have X_1 := own_cast X_1 l_1 y_1 z_1
  obtain ⟨rfl, N_2, e_3⟩ := hQ_1
  have N_4 := Fr.app N0 N_2
  have e_5 : T_1.heap = h0 := e_3
  obtain ⟨_, _, ⟨T_6, L_6, k_6, n_6⟩, -, X_6, ⟨Lc_6, hQ_6, l_6, y_6, z_6⟩, st_6⟩ := Jvm.LawKit.callS X_1 hx (y := M519) hown (mvT hZ (w169 hw)) (mvT hZ (w170 hw)) (mvT hZ (w5 hw)) (mvT hZ (w171 hw)) (by decide) (backOf (W := 0) (rm_cboc l Z a0 hw [] G1 G3 HG h0 n0 X00 mm nn hn0 h8 hm0 hlt) hZ (w171 hw) (w5 hw) (by decide) (by decide)) (g := (mkF m 6 #[.val (.int (0 : Int32)), .val (.int mm), .val (.ref t)] [(.int nn), (.int mm), (.int (0 : Int32))])) rfl (by rw [hml]; rfl) (argsL := [(.int (0 : Int32)), (.int mm), (.int nn)]) (rest := []) (lenOf pd_536 rfl) rfl (by show 2 * 0 + _ ≤ _; exact Nat.le_of_eq rfl) (hb hby d30_6) (fun _ _ => ⟨rfl, e_5, (by decide : 0 + 0 ≤ _), (by decide : 0 + 0 ≤ _)⟩)
  dsimp only [Pt.U, Pt.locs, Pt.cells, Pt.slots] at X_6 l_6 y_6 z_6 st_6 hQ_6
  have X_6 := own_cast X_6 l_6 y_6 z_6
  obtain ⟨rfl, N_7, e_8⟩ := hQ_6
  have N_9 := Fr.app N_4 N_7
  have e_10 : T_6.heap = h0 := e_8
  have C_11 : Steps p.tables e below S0 (T_6.setTop (mkF m 10 #[.val (.int (0 : Int32)), .val (.int mm), .val (.ref t)] [])) := by
    refine C0.trans ?_
    refine XS.iloadN X0.here hx rfl (hb hby d30_0) rfl ?_
    refine XS.iloadN X0.here hx rfl (hb hby d30_1) rfl ?_
    refine XS.aloadN X0.here hx rfl (hb hby d30_2) rfl rfl ?_
    refine st_1 _ ?_
    refine st_6 _ ?_
    refine XS.pop X_6.here hx rfl (hb hby d30_9) rfl rfl ?_
    exact Steps.refl _
  obtain ⟨fs, hr, hrun, hended, hW, hsame⟩ := X_6.leave (v := none) (fun _ => rfl)
  refine ⟨_, _, C_11.trans (X_6.returnOut hx Bd.returns (hb hby d30_10) hr), hrun, hended, _, _, rfl, ?_, ⟨_, rfl⟩, hW, hsame.mono (by decide) (by decide)⟩
  show Q_ucbo Z G1 G3 mm t kt nn ys h0 n0 (none) T_6.heap _
  rw [e_10]
  exact ⟨rfl, N_9, rfl⟩
abbrev M542 : MethodName := ⟨"java/lang/StringUTF16", "compress", "([BI[BII)I"⟩
theorem d31_0 : decode jdk_52_method_22_code 0 = .ok (.iload_n 1, 1) := by decide +kernel
theorem d31_1 : decode jdk_52_method_22_code 1 = .ok (.iload 4, 2) := by decide +kernel
theorem d31_3 : decode jdk_52_method_22_code 3 = .ok (.aload_n 0, 1) := by decide +kernel
theorem w168 {Z : State} {a0 : Array Value} (hw : ∀ d ∈ tables_1, d.before a0 Z = true) : Jvm.Cond.before (Jvm.Cond.code ({ cls := "java/lang/StringUTF16", name := "checkBoundsOffCount", desc := "(II[B)V" } : Jvm.MethodName) jdk_52_method_94_code (3 : Nat) (Option.none : Option Jvm.ClassFile.FieldType)) a0 Z = true := hw _ (List.mem_of_getElem? (i := 168) rfl)
theorem pd_547 : parseMethodDescriptor "(II[B)V" = some ⟨[.int, .int, (.array .byte)], none⟩ := by decide +kernel
theorem d31_4 : decode jdk_52_method_22_code 4 = .ok (.invokestatic 173, 3) := by decide +kernel
theorem w166 {Z : State} {a0 : Array Value} (hw : ∀ d ∈ tables_1, d.before a0 Z = true) : Jvm.Cond.before (Jvm.Cond.methodLink "java/lang/StringUTF16" (173 : Nat) ({ cls := "java/lang/StringUTF16", name := "checkBoundsOffCount", desc := "(II[B)V" } : Jvm.MethodName)) a0 Z = true := hw _ (List.mem_of_getElem? (i := 166) rfl)
theorem w167 {Z : State} {a0 : Array Value} (hw : ∀ d ∈ tables_1, d.before a0 Z = true) : Jvm.Cond.before (Jvm.Cond.static ({ cls := "java/lang/StringUTF16", name := "checkBoundsOffCount", desc := "(II[B)V" } : Jvm.MethodName)) a0 Z = true := hw _ (List.mem_of_getElem? (i := 167) rfl)
theorem d31_7 : decode jdk_52_method_22_code 7 = .ok (.iconst 0, 1) := by decide +kernel
theorem d31_8 : decode jdk_52_method_22_code 8 = .ok (.istore 5, 2) := by decide +kernel
theorem d31_10 : decode jdk_52_method_22_code 10 = .ok (.iload 5, 2) := by decide +kernel
theorem d31_12 : decode jdk_52_method_22_code 12 = .ok (.iload 4, 2) := by decide +kernel
theorem d31_14 : decode jdk_52_method_22_code 14 = .ok (.if_icmp .ge 39, 3) := by decide +kernel
theorem d31_17 : decode jdk_52_method_22_code 17 = .ok (.aload_n 0, 1) := by decide +kernel
theorem d31_18 : decode jdk_52_method_22_code 18 = .ok (.iload_n 1, 1) := by decide +kernel
theorem d31_19 : decode jdk_52_method_22_code 19 = .ok (.invokestatic 71, 3) := by decide +kernel
theorem d31_22 : decode jdk_52_method_22_code 22 = .ok (.istore 6, 2) := by decide +kernel
theorem d31_24 : decode jdk_52_method_22_code 24 = .ok (.iload 6, 2) := by decide +kernel
theorem d31_26 : decode jdk_52_method_22_code 26 = .ok (.sipush 255, 3) := by decide +kernel
theorem d31_29 : decode jdk_52_method_22_code 29 = .ok (.if_icmp .le 6, 3) := by decide +kernel
theorem d31_32 : decode jdk_52_method_22_code 32 = .ok (.iload 5, 2) := by decide +kernel
theorem d31_34 : decode jdk_52_method_22_code 34 = .ok (.ireturn, 1) := by decide +kernel
theorem d31_35 : decode jdk_52_method_22_code 35 = .ok (.aload_n 2, 1) := by decide +kernel
theorem d31_36 : decode jdk_52_method_22_code 36 = .ok (.iload_n 3, 1) := by decide +kernel
theorem d31_37 : decode jdk_52_method_22_code 37 = .ok (.iload 6, 2) := by decide +kernel
theorem d31_39 : decode jdk_52_method_22_code 39 = .ok (.i2b, 1) := by decide +kernel
theorem d31_40 : decode jdk_52_method_22_code 40 = .ok (.bastore, 1) := by decide +kernel
theorem d31_41 : decode jdk_52_method_22_code 41 = .ok (.iinc 1 1, 3) := by decide +kernel
theorem d31_44 : decode jdk_52_method_22_code 44 = .ok (.iinc 3 1, 3) := by decide +kernel
theorem d31_47 : decode jdk_52_method_22_code 47 = .ok (.iinc 5 1, 3) := by decide +kernel
theorem d31_50 : decode jdk_52_method_22_code 50 = .ok (.goto (-40), 3) := by decide +kernel
theorem d31_53 : decode jdk_52_method_22_code 53 = .ok (.iload 4, 2) := by decide +kernel
theorem d31_55 : decode jdk_52_method_22_code 55 = .ok (.ireturn, 1) := by decide +kernel
abbrev R_cmpB5 : Room := { frames := 3, cells := 0, slots := 0, locals := 43 }
def Q_cmpB5 (Z : State) (G1 : Int32) (G3 : Value) (t : Addr) (kt : ClassId) (nn : Int32) (cs : List Int32) (u : Addr) (ku : ClassId) (ys : List Int32) (mm : Int32) (h0 : Heap) (n0 : Nat) (v : Option Value) (h : Heap) (L : List Loc) : Prop := (v = some (.int mm) ∧ Fr n0 L ∧ Keep h0 h [u] ∧ (Arv Z h u ku .byte mm (own_iv (own_bs (cs.take mm.toNatClampNeg))) (.int (0 : Int32))) ∧ (own_lat (cs.take mm.toNatClampNeg))) ∨ (∃ kk : Int32, v = some (.int kk) ∧ Fr n0 L ∧ Keep h0 h [u] ∧ (¬ (kk < (0 : Int32))) ∧ (kk < mm) ∧ ((255 : Int32) < (own_gt cs kk)) ∧ (¬ (kk = mm)))
set_option maxRecDepth 65536 in
set_option maxHeartbeats 40000000 in
theorem rm_cmpB5 (l : Launch) (Z : State) (a0 : Array Value) (hw : ∀ d ∈ tables_1, d.before a0 Z = true) (ws : List Jvm.Cond) (G1 : Int32) (G3 : Value) (HG : own_G l Z a0 G1 G3) (h0 : Heap) (n0 : Nat) (X00 : Old Z n0 h0) (t : Addr) (kt : ClassId) (nn : Int32) (cs : List Int32) (u : Addr) (ku : ClassId) (ys : List Int32) (mm : Int32) (hp0 : Arv Z h0 t kt .byte (own_db nn) (own_iv (own_ws cs)) (.int (0 : Int32))) (hp1 : Arv Z h0 u ku .byte mm (own_iv ys) (.int (0 : Int32))) (hp2 : n0 ≤ u) (hp3 : t ≠ u) (hn0 : ¬ (nn < (0 : Int32))) (hl1 : cs.length = nn.toNatClampNeg) (hu : own_u16 cs) (h8 : nn.toNatClampNeg ≤ 8) (hm0 : ¬ (mm < (0 : Int32))) (hlt : mm < nn) (hl2 : ys.length = mm.toNatClampNeg) (hl3 : (cs.take mm.toNatClampNeg).length = mm.toNatClampNeg) :
    own_CP l Z M542 jdk_52_method_22_code 7 (some .int) ws R_cmpB5 #[(.ref t), (.int (0 : Int32)), (.ref u), (.int (0 : Int32)), (.int mm)] h0 (Q_cmpB5 Z G1 G3 t kt nn cs u ku ys mm h0 n0) := by
  refine own_P (plainFor_of_name pn_2) ?_
  intro p e s m below meth c s₁ S0 Bd hZ hh hx hby hml hown hnm X0 e0 hS0d
  obtain ⟨O1, P1, O3f, rG3, OAD, OHI, OLO⟩ := id HG
  have N0 := Fr.nil n0
  have C0 : Steps p.tables e below S0 (s₁.setTop (mkF m 0 #[.val (.ref t), .val (.int (0 : Int32)), .val (.ref u), .val (.int (0 : Int32)), .val (.int mm), .unset, .unset] [])) := by rw [hS0d]; exact castTop (ef_1 m t (0 : Int32) u (0 : Int32) mm) (Steps.refl _)
  obtain ⟨_, _, ⟨T_1, L_1, k_1, n_1⟩, -, X_1, ⟨Lc_1, hQ_1, l_1, y_1, z_1⟩, st_1⟩ := Jvm.LawKit.callS X0 hx (y := M529) hown (mvT hZ (w166 hw)) (mvT hZ (w167 hw)) (mvT hZ (w19 hw)) (mvT hZ (w168 hw)) (by decide) (backOf (W := 0) (rm_ucbo l Z a0 hw [] G1 G3 HG h0 n0 X00 mm t kt nn (own_iv (own_ws cs)) hp0 hn0 h8 hm0 hlt) hZ (w168 hw) (w19 hw) (by decide) (by decide)) (g := (mkF m 4 #[.val (.ref t), .val (.int (0 : Int32)), .val (.ref u), .val (.int (0 : Int32)), .val (.int mm), .unset, .unset] [(.ref t), (.int mm), (.int (0 : Int32))])) rfl (by rw [hml]; rfl) (argsL := [(.int (0 : Int32)), (.int mm), (.ref t)]) (rest := []) (lenOf pd_547 rfl) rfl (by show 2 * 0 + _ ≤ _; exact Nat.le_of_eq rfl) (hb hby d31_4) (fun _ _ => ⟨rfl, e0, (by decide : 0 + 0 ≤ _), (by decide : 0 + 0 ≤ _)⟩)
  dsimp only [Pt.U, Pt.locs, Pt.cells, Pt.slots] at X_1 l_1 y_1 z_1 st_1 hQ_1
  have X_1 := own_cast X_1 l_1 y_1 z_1
  obtain ⟨rfl, N_2, e_3⟩ := hQ_1
  have N_4 := Fr.app N0 N_2
  have e_5 : T_1.heap = h0 := e_3
  have C_6 : Steps p.tables e below S0 (T_1.setTop (mkF m 10 #[.val (.ref t), .val (.int (0 : Int32)), .val (.ref u), .val (.int (0 : Int32)), .val (.int mm), .val (.int (0 : Int32)), .unset] [])) := by
    refine C0.trans ?_
    refine XS.iloadN X0.here hx rfl (hb hby d31_0) rfl ?_
    refine XS.iload X0.here hx rfl (hb hby d31_1) rfl ?_
    refine XS.aloadN X0.here hx rfl (hb hby d31_3) rfl rfl ?_
    refine st_1 _ ?_
    refine XS.iconst X_1.here hx rfl (hb hby d31_7) ?_
    refine XS.istore X_1.here hx rfl (hb hby d31_8) rfl (l' := #[.val (.ref t), .val (.int (0 : Int32)), .val (.ref u), .val (.int (0 : Int32)), .val (.int mm), .val (.int (0 : Int32)), .unset]) rfl ?_
    exact Steps.refl _
  obtain ⟨j_7, z6_8, T_9, L_10, h_15, I_11⟩ : ∃ (j_7 : Int32) (z6_8 : Slot) (T_9 : State) (L_10 : List Loc) (h_15 : Heap), Stand p l e R_cmpB5 s m #[(.ref t), (.int (0 : Int32)), (.ref u), (.int (0 : Int32)), (.int mm)] below meth c T_9 L_10 0 0 ∧ T_9.heap = h_15 ∧ Fr n0 L_10 ∧ Keep h0 h_15 [u] ∧ (¬ (j_7 < (0 : Int32))) ∧ (¬ (mm < j_7)) ∧ (own_latn (cs.take mm.toNatClampNeg) j_7.toNatClampNeg) ∧ (Arv Z h_15 u ku .byte mm (own_iv (own_mix (cs.take mm.toNatClampNeg) ys j_7)) (.int (0 : Int32))) ∧ (z6_8 = .unset ∨ ∃ v : Int32, z6_8 = .val (.int v)) ∧ Steps p.tables e below S0 (T_9.setTop (mkF m 10 #[.val (.ref t), .val (.int j_7), .val (.ref u), .val (.int j_7), .val (.int mm), .val (.int j_7), z6_8] [])) := ⟨(0 : Int32), .unset, T_1, _, _, X_1, e_5, N_4, (Keep.refl _ _), (by decide), hm0, (own_latn0 _), (by rw [own_mix0]; exact hp1), Or.inl rfl, C_6⟩
  obtain ⟨d_12, hd_13⟩ : ∃ d : Nat, d = (mm.toNatClampNeg - j_7.toNatClampNeg) := ⟨_, rfl⟩
  induction d_12 using Nat.strongRecOn generalizing j_7 z6_8 T_9 L_10 h_15 with
  | _ d_12 ih_14 =>
    obtain ⟨X_16, e_17, N_18, K_19, g_21, g_22, g_23, g_24, hz_25, C_20⟩ := I_11
    rcases hz_25 with rfl | ⟨v_26, rfl⟩
    · skip
      have C_27 : Steps p.tables e below S0 (T_9.setTop (mkF m 14 #[.val (.ref t), .val (.int j_7), .val (.ref u), .val (.int j_7), .val (.int mm), .val (.int j_7), .unset] [(.int mm), (.int j_7)])) := by
        refine C_20.trans ?_
        refine XS.iload X_16.here hx rfl (hb hby d31_10) rfl ?_
        refine XS.iload X_16.here hx rfl (hb hby d31_12) rfl ?_
        exact Steps.refl _
      by_cases hc_28 : j_7 < mm
      · skip
        have V_29 : Arv Z h_15 t kt .byte (own_db nn) (own_iv (own_ws cs)) (.int (0 : Int32)) := (hp0.keep K_19 (ninS hp3 nin0))
        have O_30 : Old Z n0 h_15 := (X00.keep K_19 (allS hp2 all0))
        obtain ⟨_, _, ⟨T_31, L_31, k_31, n_31⟩, -, X_31, ⟨Lc_31, hQ_31, l_31, y_31, z_31⟩, st_31⟩ := Jvm.LawKit.callS X_16 hx (y := M107) hown (mvT hZ (w141 hw)) (mvT hZ (w142 hw)) (mvT hZ (w19 hw)) (mvT hZ (w143 hw)) (by decide) (backOf (W := 0) (rm_getc l Z a0 hw [] G1 G3 HG h_15 n0 O_30 t kt nn cs j_7 V_29 hn0 hl1 hu h8 g_21 (own_lt2 hc_28 hlt)) hZ (w143 hw) (w19 hw) (by decide) (by decide)) (g := (mkF m 19 #[.val (.ref t), .val (.int j_7), .val (.ref u), .val (.int j_7), .val (.int mm), .val (.int j_7), .unset] [(.int j_7), (.ref t)])) rfl (by rw [hml]; rfl) (argsL := [(.ref t), (.int j_7)]) (rest := []) (lenOf pd_166 rfl) rfl (by show 2 * 0 + _ ≤ _; exact Nat.le_of_eq rfl) (hb hby d31_19) (fun _ _ => ⟨rfl, e_17, (by decide : 0 + 0 ≤ _), (by decide : 0 + 0 ≤ _)⟩)
        dsimp only [Pt.U, Pt.locs, Pt.cells, Pt.slots] at X_31 l_31 y_31 z_31 st_31 hQ_31
        have X_31 := own_cast X_31 l_31 y_31 z_31
        obtain ⟨rfl, N_32, e_33⟩ := hQ_31
        have N_34 := Fr.app N_18 N_32
        have e_35 : T_31.heap = h_15 := e_33
        have C_36 : Steps p.tables e below S0 (T_31.setTop (mkF m 29 #[.val (.ref t), .val (.int j_7), .val (.ref u), .val (.int j_7), .val (.int mm), .val (.int j_7), .val (.int (own_gt cs j_7))] [(.int (255 : Int32)), (.int (own_gt cs j_7))])) := by
          refine C_27.trans ?_
          refine XS.icmpNo X_16.here hx rfl (hb hby d31_14) rfl (ii_ge_f hc_28) ?_
          refine XS.aloadN X_16.here hx rfl (hb hby d31_17) rfl rfl ?_
          refine XS.iloadN X_16.here hx rfl (hb hby d31_18) rfl ?_
          refine st_31 _ ?_
          refine XS.istore X_31.here hx rfl (hb hby d31_22) rfl (l' := #[.val (.ref t), .val (.int j_7), .val (.ref u), .val (.int j_7), .val (.int mm), .val (.int j_7), .val (.int (own_gt cs j_7))]) rfl ?_
          refine XS.iload X_31.here hx rfl (hb hby d31_24) rfl ?_
          refine XS.sipush X_31.here hx rfl (hb hby d31_26) ?_
          exact Steps.refl _
        by_cases hc_37 : (255 : Int32) < (own_gt cs j_7)
        · skip
          have C_38 : Steps p.tables e below S0 (T_31.setTop (mkF m 34 #[.val (.ref t), .val (.int j_7), .val (.ref u), .val (.int j_7), .val (.int mm), .val (.int j_7), .val (.int (own_gt cs j_7))] [(.int j_7)])) := by
            refine C_36.trans ?_
            refine XS.icmpNo X_31.here hx rfl (hb hby d31_29) rfl (ii_le_f hc_37) ?_
            refine XS.iload X_31.here hx rfl (hb hby d31_32) rfl ?_
            exact Steps.refl _
          have K_39 : Keep h0 h_15 [u] := ((Keep.refl _ _).trans K_19 (allS (Or.inl (List.mem_of_getElem? (i := 0) rfl)) all0))
          obtain ⟨fs, hr, hrun, hended, hW, hsame⟩ := X_31.leave (v := some (.int j_7)) (fun h => by rw [Bd.returns] at h; cases h)
          refine ⟨_, _, C_38.trans (retOut X_31 hx Bd.returns rfl (Or.inl ⟨rfl, Or.inl rfl, _, rfl⟩) (hb hby d31_34) hr), hrun, hended, _, _, rfl, ?_, ⟨_, rfl⟩, hW, hsame.mono (by decide) (by decide)⟩
          show Q_cmpB5 Z G1 G3 t kt nn cs u ku ys mm h0 n0 (some (.int j_7)) T_31.heap _
          rw [e_35]
          exact Or.inr (⟨j_7, rfl, N_34, K_39, g_21, hc_28, hc_37, (own_ltn' hc_28)⟩)
        · skip
          obtain ⟨c_40, A_41, q_42, S_43, M_44, H_45, U_46⟩ := id g_24
          have hin_53 : ¬ (j_7 < 0 ∨ c_40.slots.size ≤ j_7.toNatClampNeg) := inb_of S_43 ⟨g_21, hc_28⟩
          obtain ⟨T_47, h_48, X_49, e_50, W_51, st_52⟩ := stB X_31 hx hZ e_35 A_41 (j := j_7) hin_53 (g := (mkF m 40 #[.val (.ref t), .val (.int j_7), .val (.ref u), .val (.int j_7), .val (.int mm), .val (.int j_7), .val (.int (own_gt cs j_7))] [(.int ((own_gt cs j_7).toInt8.toInt32)), (.int j_7), (.ref u)])) rfl rfl (hb hby d31_40)
          have N_54 := Fr.snoc X_49 N_34 hp2
          have V_55 : Arv Z h_48 u ku .byte mm (own_iv ((own_mix (cs.take mm.toNatClampNeg) ys j_7).set j_7.toNatClampNeg (own_lo8 (own_gt cs j_7)))) (.int (0 : Int32)) := own_iv_set (Arv.set A_41 q_42 S_43 M_44 H_45 U_46 (fits_nar_byte _) W_51 j_7.toNatClampNeg rfl (own_ix (own_mixlen hl3 hl2 (own_jle g_22)) g_21 hc_28))
          rw [own_mixset' hl3 hl2 g_21 hc_28] at V_55
          have C_56 : Steps p.tables e below S0 (T_47.setTop (mkF m 10 #[.val (.ref t), .val (.int (j_7 + (1 : Int32))), .val (.ref u), .val (.int (j_7 + (1 : Int32))), .val (.int mm), .val (.int (j_7 + (1 : Int32))), .val (.int (own_gt cs j_7))] [])) := by
            refine C_36.trans ?_
            refine XS.icmpYes X_31.here hx rfl (pc0 := 29) (pc' := 35) rfl (hb hby d31_29) rfl (ii_le_t hc_37) (by decide) (by decide) ?_
            refine XS.aloadN X_31.here hx rfl (hb hby d31_35) rfl rfl ?_
            refine XS.iloadN X_31.here hx rfl (hb hby d31_36) rfl ?_
            refine XS.iload X_31.here hx rfl (hb hby d31_37) rfl ?_
            refine XS.i2b X_31.here hx rfl (hb hby d31_39) rfl ?_
            refine st_52 _ ?_
            refine XS.iinc X_49.here hx rfl (hb hby d31_41) (x := j_7) rfl (l' := #[.val (.ref t), .val (.int (j_7 + (1 : Int32))), .val (.ref u), .val (.int j_7), .val (.int mm), .val (.int j_7), .val (.int (own_gt cs j_7))]) rfl ?_
            refine XS.iinc X_49.here hx rfl (hb hby d31_44) (x := j_7) rfl (l' := #[.val (.ref t), .val (.int (j_7 + (1 : Int32))), .val (.ref u), .val (.int (j_7 + (1 : Int32))), .val (.int mm), .val (.int j_7), .val (.int (own_gt cs j_7))]) rfl ?_
            show Steps p.tables e below (T_47.setTop (mkF m 47 #[.val (.ref t), .val (.int (j_7 + (1 : Int32))), .val (.ref u), .val (.int (j_7 + (1 : Int32))), .val (.int mm), .val (.int j_7), .val (.int (own_gt cs j_7))] [])) _
            refine XS.iinc X_49.here hx rfl (hb hby d31_47) (x := j_7) rfl (l' := #[.val (.ref t), .val (.int (j_7 + (1 : Int32))), .val (.ref u), .val (.int (j_7 + (1 : Int32))), .val (.int mm), .val (.int (j_7 + (1 : Int32))), .val (.int (own_gt cs j_7))]) rfl ?_
            refine XS.goto X_49.here hx rfl (pc0 := 50) (pc' := 10) rfl (hb hby d31_50) (by decide) (by decide) ?_
            exact Steps.refl _
          exact ih_14 _ (by rw [hd_13]; exact (own_dec g_21 hc_28)) (j_7 + (1 : Int32)) (.val (.int (own_gt cs j_7))) _ _ _ ⟨X_49, e_50, N_54, (((Keep.refl _ _).trans K_19 (allS (Or.inl (List.mem_of_getElem? (i := 0) rfl)) all0)).wr W_51 (Or.inl (List.mem_of_getElem? (i := 0) rfl))), (own_nat g_21 hc_28).2.2.1, (own_nat g_21 hc_28).2.2.2, (own_latnS g_23 (own_nat g_21 hc_28).2.1 (by rw [own_gttake (own_nat g_21 hc_28).1]; exact hc_37)), V_55, Or.inr ⟨_, rfl⟩, C_56⟩ rfl
      · skip
        have C_57 : Steps p.tables e below S0 (T_9.setTop (mkF m 55 #[.val (.ref t), .val (.int j_7), .val (.ref u), .val (.int j_7), .val (.int mm), .val (.int j_7), .unset] [(.int mm)])) := by
          refine C_27.trans ?_
          refine XS.icmpYes X_16.here hx rfl (pc0 := 14) (pc' := 53) rfl (hb hby d31_14) rfl (ii_ge_t hc_28) (by decide) (by decide) ?_
          refine XS.iload X_16.here hx rfl (hb hby d31_53) rfl ?_
          exact Steps.refl _
        have K_58 : Keep h0 h_15 [u] := ((Keep.refl _ _).trans K_19 (allS (Or.inl (List.mem_of_getElem? (i := 0) rfl)) all0))
        obtain ⟨fs, hr, hrun, hended, hW, hsame⟩ := X_16.leave (v := some (.int mm)) (fun h => by rw [Bd.returns] at h; cases h)
        refine ⟨_, _, C_57.trans (retOut X_16 hx Bd.returns rfl (Or.inl ⟨rfl, Or.inl rfl, _, rfl⟩) (hb hby d31_55) hr), hrun, hended, _, _, rfl, ?_, ⟨_, rfl⟩, hW, hsame.mono (by decide) (by decide)⟩
        show Q_cmpB5 Z G1 G3 t kt nn cs u ku ys mm h0 n0 (some (.int mm)) T_9.heap _
        rw [e_17]
        exact Or.inl ⟨rfl, N_18, K_58, (own_mixend hl3 hl2 hc_28 g_22 ▸ g_24), (own_latnE g_23 (Nat.le_trans (Nat.le_of_eq hl3) (own_jge hc_28)) (own_u16take hu _))⟩
    · skip
      have C_59 : Steps p.tables e below S0 (T_9.setTop (mkF m 14 #[.val (.ref t), .val (.int j_7), .val (.ref u), .val (.int j_7), .val (.int mm), .val (.int j_7), .val (.int v_26)] [(.int mm), (.int j_7)])) := by
        refine C_20.trans ?_
        refine XS.iload X_16.here hx rfl (hb hby d31_10) rfl ?_
        refine XS.iload X_16.here hx rfl (hb hby d31_12) rfl ?_
        exact Steps.refl _
      by_cases hc_60 : j_7 < mm
      · skip
        have V_61 : Arv Z h_15 t kt .byte (own_db nn) (own_iv (own_ws cs)) (.int (0 : Int32)) := (hp0.keep K_19 (ninS hp3 nin0))
        have O_62 : Old Z n0 h_15 := (X00.keep K_19 (allS hp2 all0))
        obtain ⟨_, _, ⟨T_63, L_63, k_63, n_63⟩, -, X_63, ⟨Lc_63, hQ_63, l_63, y_63, z_63⟩, st_63⟩ := Jvm.LawKit.callS X_16 hx (y := M107) hown (mvT hZ (w141 hw)) (mvT hZ (w142 hw)) (mvT hZ (w19 hw)) (mvT hZ (w143 hw)) (by decide) (backOf (W := 0) (rm_getc l Z a0 hw [] G1 G3 HG h_15 n0 O_62 t kt nn cs j_7 V_61 hn0 hl1 hu h8 g_21 (own_lt2 hc_60 hlt)) hZ (w143 hw) (w19 hw) (by decide) (by decide)) (g := (mkF m 19 #[.val (.ref t), .val (.int j_7), .val (.ref u), .val (.int j_7), .val (.int mm), .val (.int j_7), .val (.int v_26)] [(.int j_7), (.ref t)])) rfl (by rw [hml]; rfl) (argsL := [(.ref t), (.int j_7)]) (rest := []) (lenOf pd_166 rfl) rfl (by show 2 * 0 + _ ≤ _; exact Nat.le_of_eq rfl) (hb hby d31_19) (fun _ _ => ⟨rfl, e_17, (by decide : 0 + 0 ≤ _), (by decide : 0 + 0 ≤ _)⟩)
        dsimp only [Pt.U, Pt.locs, Pt.cells, Pt.slots] at X_63 l_63 y_63 z_63 st_63 hQ_63
        have X_63 := own_cast X_63 l_63 y_63 z_63
        obtain ⟨rfl, N_64, e_65⟩ := hQ_63
        have N_66 := Fr.app N_18 N_64
        have e_67 : T_63.heap = h_15 := e_65
        have C_68 : Steps p.tables e below S0 (T_63.setTop (mkF m 29 #[.val (.ref t), .val (.int j_7), .val (.ref u), .val (.int j_7), .val (.int mm), .val (.int j_7), .val (.int (own_gt cs j_7))] [(.int (255 : Int32)), (.int (own_gt cs j_7))])) := by
          refine C_59.trans ?_
          refine XS.icmpNo X_16.here hx rfl (hb hby d31_14) rfl (ii_ge_f hc_60) ?_
          refine XS.aloadN X_16.here hx rfl (hb hby d31_17) rfl rfl ?_
          refine XS.iloadN X_16.here hx rfl (hb hby d31_18) rfl ?_
          refine st_63 _ ?_
          refine XS.istore X_63.here hx rfl (hb hby d31_22) rfl (l' := #[.val (.ref t), .val (.int j_7), .val (.ref u), .val (.int j_7), .val (.int mm), .val (.int j_7), .val (.int (own_gt cs j_7))]) rfl ?_
          refine XS.iload X_63.here hx rfl (hb hby d31_24) rfl ?_
          refine XS.sipush X_63.here hx rfl (hb hby d31_26) ?_
          exact Steps.refl _
        by_cases hc_69 : (255 : Int32) < (own_gt cs j_7)
        · skip
          have C_70 : Steps p.tables e below S0 (T_63.setTop (mkF m 34 #[.val (.ref t), .val (.int j_7), .val (.ref u), .val (.int j_7), .val (.int mm), .val (.int j_7), .val (.int (own_gt cs j_7))] [(.int j_7)])) := by
            refine C_68.trans ?_
            refine XS.icmpNo X_63.here hx rfl (hb hby d31_29) rfl (ii_le_f hc_69) ?_
            refine XS.iload X_63.here hx rfl (hb hby d31_32) rfl ?_
            exact Steps.refl _
          have K_71 : Keep h0 h_15 [u] := ((Keep.refl _ _).trans K_19 (allS (Or.inl (List.mem_of_getElem? (i := 0) rfl)) all0))
          obtain ⟨fs, hr, hrun, hended, hW, hsame⟩ := X_63.leave (v := some (.int j_7)) (fun h => by rw [Bd.returns] at h; cases h)
          refine ⟨_, _, C_70.trans (retOut X_63 hx Bd.returns rfl (Or.inl ⟨rfl, Or.inl rfl, _, rfl⟩) (hb hby d31_34) hr), hrun, hended, _, _, rfl, ?_, ⟨_, rfl⟩, hW, hsame.mono (by decide) (by decide)⟩
          show Q_cmpB5 Z G1 G3 t kt nn cs u ku ys mm h0 n0 (some (.int j_7)) T_63.heap _
          rw [e_67]
          exact Or.inr (⟨j_7, rfl, N_66, K_71, g_21, hc_60, hc_69, (own_ltn' hc_60)⟩)
        · skip
          obtain ⟨c_72, A_73, q_74, S_75, M_76, H_77, U_78⟩ := id g_24
          have hin_85 : ¬ (j_7 < 0 ∨ c_72.slots.size ≤ j_7.toNatClampNeg) := inb_of S_75 ⟨g_21, hc_60⟩
          obtain ⟨T_79, h_80, X_81, e_82, W_83, st_84⟩ := stB X_63 hx hZ e_67 A_73 (j := j_7) hin_85 (g := (mkF m 40 #[.val (.ref t), .val (.int j_7), .val (.ref u), .val (.int j_7), .val (.int mm), .val (.int j_7), .val (.int (own_gt cs j_7))] [(.int ((own_gt cs j_7).toInt8.toInt32)), (.int j_7), (.ref u)])) rfl rfl (hb hby d31_40)
          have N_86 := Fr.snoc X_81 N_66 hp2
          have V_87 : Arv Z h_80 u ku .byte mm (own_iv ((own_mix (cs.take mm.toNatClampNeg) ys j_7).set j_7.toNatClampNeg (own_lo8 (own_gt cs j_7)))) (.int (0 : Int32)) := own_iv_set (Arv.set A_73 q_74 S_75 M_76 H_77 U_78 (fits_nar_byte _) W_83 j_7.toNatClampNeg rfl (own_ix (own_mixlen hl3 hl2 (own_jle g_22)) g_21 hc_60))
          rw [own_mixset' hl3 hl2 g_21 hc_60] at V_87
          have C_88 : Steps p.tables e below S0 (T_79.setTop (mkF m 10 #[.val (.ref t), .val (.int (j_7 + (1 : Int32))), .val (.ref u), .val (.int (j_7 + (1 : Int32))), .val (.int mm), .val (.int (j_7 + (1 : Int32))), .val (.int (own_gt cs j_7))] [])) := by
            refine C_68.trans ?_
            refine XS.icmpYes X_63.here hx rfl (pc0 := 29) (pc' := 35) rfl (hb hby d31_29) rfl (ii_le_t hc_69) (by decide) (by decide) ?_
            refine XS.aloadN X_63.here hx rfl (hb hby d31_35) rfl rfl ?_
            refine XS.iloadN X_63.here hx rfl (hb hby d31_36) rfl ?_
            refine XS.iload X_63.here hx rfl (hb hby d31_37) rfl ?_
            refine XS.i2b X_63.here hx rfl (hb hby d31_39) rfl ?_
            refine st_84 _ ?_
            refine XS.iinc X_81.here hx rfl (hb hby d31_41) (x := j_7) rfl (l' := #[.val (.ref t), .val (.int (j_7 + (1 : Int32))), .val (.ref u), .val (.int j_7), .val (.int mm), .val (.int j_7), .val (.int (own_gt cs j_7))]) rfl ?_
            refine XS.iinc X_81.here hx rfl (hb hby d31_44) (x := j_7) rfl (l' := #[.val (.ref t), .val (.int (j_7 + (1 : Int32))), .val (.ref u), .val (.int (j_7 + (1 : Int32))), .val (.int mm), .val (.int j_7), .val (.int (own_gt cs j_7))]) rfl ?_
            show Steps p.tables e below (T_79.setTop (mkF m 47 #[.val (.ref t), .val (.int (j_7 + (1 : Int32))), .val (.ref u), .val (.int (j_7 + (1 : Int32))), .val (.int mm), .val (.int j_7), .val (.int (own_gt cs j_7))] [])) _
            refine XS.iinc X_81.here hx rfl (hb hby d31_47) (x := j_7) rfl (l' := #[.val (.ref t), .val (.int (j_7 + (1 : Int32))), .val (.ref u), .val (.int (j_7 + (1 : Int32))), .val (.int mm), .val (.int (j_7 + (1 : Int32))), .val (.int (own_gt cs j_7))]) rfl ?_
            refine XS.goto X_81.here hx rfl (pc0 := 50) (pc' := 10) rfl (hb hby d31_50) (by decide) (by decide) ?_
            exact Steps.refl _
          exact ih_14 _ (by rw [hd_13]; exact (own_dec g_21 hc_60)) (j_7 + (1 : Int32)) (.val (.int (own_gt cs j_7))) _ _ _ ⟨X_81, e_82, N_86, (((Keep.refl _ _).trans K_19 (allS (Or.inl (List.mem_of_getElem? (i := 0) rfl)) all0)).wr W_83 (Or.inl (List.mem_of_getElem? (i := 0) rfl))), (own_nat g_21 hc_60).2.2.1, (own_nat g_21 hc_60).2.2.2, (own_latnS g_23 (own_nat g_21 hc_60).2.1 (by rw [own_gttake (own_nat g_21 hc_60).1]; exact hc_69)), V_87, Or.inr ⟨_, rfl⟩, C_88⟩ rfl
      · skip
        have C_89 : Steps p.tables e below S0 (T_9.setTop (mkF m 55 #[.val (.ref t), .val (.int j_7), .val (.ref u), .val (.int j_7), .val (.int mm), .val (.int j_7), .val (.int v_26)] [(.int mm)])) := by
          refine C_59.trans ?_
          refine XS.icmpYes X_16.here hx rfl (pc0 := 14) (pc' := 53) rfl (hb hby d31_14) rfl (ii_ge_t hc_60) (by decide) (by decide) ?_
          refine XS.iload X_16.here hx rfl (hb hby d31_53) rfl ?_
          exact Steps.refl _
        have K_90 : Keep h0 h_15 [u] := ((Keep.refl _ _).trans K_19 (allS (Or.inl (List.mem_of_getElem? (i := 0) rfl)) all0))
        obtain ⟨fs, hr, hrun, hended, hW, hsame⟩ := X_16.leave (v := some (.int mm)) (fun h => by rw [Bd.returns] at h; cases h)
        refine ⟨_, _, C_89.trans (retOut X_16 hx Bd.returns rfl (Or.inl ⟨rfl, Or.inl rfl, _, rfl⟩) (hb hby d31_55) hr), hrun, hended, _, _, rfl, ?_, ⟨_, rfl⟩, hW, hsame.mono (by decide) (by decide)⟩
        show Q_cmpB5 Z G1 G3 t kt nn cs u ku ys mm h0 n0 (some (.int mm)) T_9.heap _
        rw [e_17]
        exact Or.inl ⟨rfl, N_18, K_90, (own_mixend hl3 hl2 hc_60 g_22 ▸ g_24), (own_latnE g_23 (Nat.le_trans (Nat.le_of_eq hl3) (own_jge hc_60)) (own_u16take hu _))⟩
abbrev M576 : MethodName := ⟨"java/lang/StringUTF16", "compress", "([BII)[B"⟩
theorem d32_0 : decode jdk_52_method_17_code 0 = .ok (.iload_n 2, 1) := by decide +kernel
theorem d32_1 : decode jdk_52_method_17_code 1 = .ok (.newarray .byte, 2) := by decide +kernel
theorem d32_3 : decode jdk_52_method_17_code 3 = .ok (.astore_n 3, 1) := by decide +kernel
theorem d32_4 : decode jdk_52_method_17_code 4 = .ok (.aload_n 0, 1) := by decide +kernel
theorem d32_5 : decode jdk_52_method_17_code 5 = .ok (.iload_n 1, 1) := by decide +kernel
theorem d32_6 : decode jdk_52_method_17_code 6 = .ok (.aload_n 3, 1) := by decide +kernel
theorem d32_7 : decode jdk_52_method_17_code 7 = .ok (.iconst 0, 1) := by decide +kernel
theorem d32_8 : decode jdk_52_method_17_code 8 = .ok (.iload_n 2, 1) := by decide +kernel
theorem w165 {Z : State} {a0 : Array Value} (hw : ∀ d ∈ tables_1, d.before a0 Z = true) : Jvm.Cond.before (Jvm.Cond.code ({ cls := "java/lang/StringUTF16", name := "compress", desc := "([BI[BII)I" } : Jvm.MethodName) jdk_52_method_22_code (7 : Nat) (Option.some Jvm.ClassFile.FieldType.int)) a0 Z = true := hw _ (List.mem_of_getElem? (i := 165) rfl)
theorem pd_586 : parseMethodDescriptor "([BI[BII)I" = some ⟨[(.array .byte), .int, (.array .byte), .int, .int], some .int⟩ := by decide +kernel
theorem d32_9 : decode jdk_52_method_17_code 9 = .ok (.invokestatic 123, 3) := by decide +kernel
theorem w163 {Z : State} {a0 : Array Value} (hw : ∀ d ∈ tables_1, d.before a0 Z = true) : Jvm.Cond.before (Jvm.Cond.methodLink "java/lang/StringUTF16" (123 : Nat) ({ cls := "java/lang/StringUTF16", name := "compress", desc := "([BI[BII)I" } : Jvm.MethodName)) a0 Z = true := hw _ (List.mem_of_getElem? (i := 163) rfl)
theorem w164 {Z : State} {a0 : Array Value} (hw : ∀ d ∈ tables_1, d.before a0 Z = true) : Jvm.Cond.before (Jvm.Cond.static ({ cls := "java/lang/StringUTF16", name := "compress", desc := "([BI[BII)I" } : Jvm.MethodName)) a0 Z = true := hw _ (List.mem_of_getElem? (i := 164) rfl)
theorem d32_12 : decode jdk_52_method_17_code 12 = .ok (.istore 4, 2) := by decide +kernel
theorem d32_14 : decode jdk_52_method_17_code 14 = .ok (.iload 4, 2) := by decide +kernel
theorem d32_16 : decode jdk_52_method_17_code 16 = .ok (.iload_n 2, 1) := by decide +kernel
theorem d32_17 : decode jdk_52_method_17_code 17 = .ok (.if_icmp .eq 47, 3) := by decide +kernel
theorem d32_64 : decode jdk_52_method_17_code 64 = .ok (.aload_n 3, 1) := by decide +kernel
theorem d32_65 : decode jdk_52_method_17_code 65 = .ok (.areturn, 1) := by decide +kernel
theorem d32_20 : decode jdk_52_method_17_code 20 = .ok (.aload_n 0, 1) := by decide +kernel
theorem d32_21 : decode jdk_52_method_17_code 21 = .ok (.iload_n 1, 1) := by decide +kernel
theorem d32_22 : decode jdk_52_method_17_code 22 = .ok (.iconst 1, 1) := by decide +kernel
theorem d32_23 : decode jdk_52_method_17_code 23 = .ok (.ishl, 1) := by decide +kernel
theorem d32_24 : decode jdk_52_method_17_code 24 = .ok (.iload_n 1, 1) := by decide +kernel
theorem d32_25 : decode jdk_52_method_17_code 25 = .ok (.iload_n 2, 1) := by decide +kernel
theorem d32_26 : decode jdk_52_method_17_code 26 = .ok (.iadd, 1) := by decide +kernel
theorem d32_27 : decode jdk_52_method_17_code 27 = .ok (.invokestatic 11, 3) := by decide +kernel
theorem d32_30 : decode jdk_52_method_17_code 30 = .ok (.invokestatic 126, 3) := by decide +kernel
theorem w175 {Z : State} {a0 : Array Value} (hw : ∀ d ∈ tables_1, d.before a0 Z = true) : Jvm.Cond.before (Jvm.Cond.methodLink "java/lang/StringUTF16" (126 : Nat) ({ cls := "java/util/Arrays", name := "copyOfRange", desc := "([BII)[B" } : Jvm.MethodName)) a0 Z = true := hw _ (List.mem_of_getElem? (i := 175) rfl)
theorem d32_33 : decode jdk_52_method_17_code 33 = .ok (.astore 5, 2) := by decide +kernel
theorem d32_35 : decode jdk_52_method_17_code 35 = .ok (.aload 5, 2) := by decide +kernel
theorem d32_37 : decode jdk_52_method_17_code 37 = .ok (.iload 4, 2) := by decide +kernel
theorem d32_39 : decode jdk_52_method_17_code 39 = .ok (.invokestatic 71, 3) := by decide +kernel
theorem d32_42 : decode jdk_52_method_17_code 42 = .ok (.sipush 255, 3) := by decide +kernel
theorem d32_45 : decode jdk_52_method_17_code 45 = .ok (.if_icmp .gt 16, 3) := by decide +kernel
theorem d32_61 : decode jdk_52_method_17_code 61 = .ok (.aload 5, 2) := by decide +kernel
theorem d32_63 : decode jdk_52_method_17_code 63 = .ok (.areturn, 1) := by decide +kernel
abbrev R_cmpB3 : Room := { frames := 4, cells := 2, slots := 24, locals := 61 }
def Q_cmpB3 (Z : State) (G1 : Int32) (G3 : Value) (t : Addr) (kt : ClassId) (nn : Int32) (cs : List Int32) (mm : Int32) (h0 : Heap) (n0 : Nat) (v : Option Value) (h : Heap) (L : List Loc) : Prop := (∃ u : Addr, ∃ ku : ClassId, v = some (.ref u) ∧ Fr n0 L ∧ Keep h0 h [] ∧ (h0.size ≤ u) ∧ (Arv Z h u ku .byte mm (own_iv (own_bs (cs.take mm.toNatClampNeg))) (.int (0 : Int32))) ∧ (own_lat (cs.take mm.toNatClampNeg))) ∨ (∃ u : Addr, ∃ ku : ClassId, v = some (.ref u) ∧ Fr n0 L ∧ Keep h0 h [] ∧ (h0.size ≤ u) ∧ (Arv Z h u ku .byte (own_db mm) (own_iv (own_ws (cs.take mm.toNatClampNeg))) (.int (0 : Int32))))
set_option maxRecDepth 65536 in
set_option maxHeartbeats 40000000 in
theorem rm_cmpB3 (l : Launch) (Z : State) (a0 : Array Value) (hw : ∀ d ∈ tables_1, d.before a0 Z = true) (ws : List Jvm.Cond) (G1 : Int32) (G3 : Value) (HG : own_G l Z a0 G1 G3) (h0 : Heap) (n0 : Nat) (X00 : Old Z n0 h0) (t : Addr) (kt : ClassId) (nn : Int32) (cs : List Int32) (mm : Int32) (hp0 : Arv Z h0 t kt .byte (own_db nn) (own_iv (own_ws cs)) (.int (0 : Int32))) (hn0 : ¬ (nn < (0 : Int32))) (hl1 : cs.length = nn.toNatClampNeg) (hu : own_u16 cs) (h8 : nn.toNatClampNeg ≤ 8) (hm0 : ¬ (mm < (0 : Int32))) (hlt : mm < nn) (hm8 : mm.toNatClampNeg ≤ 8) (hl3 : (cs.take mm.toNatClampNeg).length = mm.toNatClampNeg) :
    own_CP l Z M576 jdk_52_method_17_code 6 (some (.array .byte)) ws R_cmpB3 #[(.ref t), (.int (0 : Int32)), (.int mm)] h0 (Q_cmpB3 Z G1 G3 t kt nn cs mm h0 n0) := by
  refine own_P (plainFor_of_name pn_2) ?_
  intro p e s m below meth c s₁ S0 Bd hZ hh hx hby hml hown hnm X0 e0 hS0d
  obtain ⟨O1, P1, O3f, rG3, OAD, OHI, OLO⟩ := id HG
  have N0 := Fr.nil n0
  have C0 : Steps p.tables e below S0 (s₁.setTop (mkF m 0 #[.val (.ref t), .val (.int (0 : Int32)), .val (.int mm), .unset, .unset, .unset] [])) := by rw [hS0d]; exact castTop (ef_134 m t (0 : Int32) mm) (Steps.refl _)
  obtain ⟨T_1, h_2, k_3, X_4, e_5, E_6, A_7, st_8⟩ := newP (aty := .byte) X0 hx hZ (w21 hw) e0 (g := (mkF m 1 #[.val (.ref t), .val (.int (0 : Int32)), .val (.int mm), .unset, .unset, .unset] [(.int mm)])) rfl (hb hby d32_1) rfl hm0 (cap := 8) hm8 (by decide) (by decide) (by decide)
  obtain ⟨a_9, g_10⟩ : ∃ z, z = h0.size := ⟨_, rfl⟩
  rw [← g_10] at A_7 st_8
  have V_11 : Arv Z h_2 a_9 k_3 .byte mm (own_iv (List.replicate mm.toNatClampNeg 0)) (.int (0 : Int32)) := (Arv.new A_7 hm0).pad (own_pad _)
  have V_12 : Arv Z h_2 t kt .byte (own_db nn) (own_iv (own_ws cs)) (.int (0 : Int32)) := (hp0.ext E_6)
  have O_13 : Old Z n0 h_2 := (X00.ext E_6)
  obtain ⟨_, _, ⟨T_14, L_14, k_14, n_14⟩, -, X_14, ⟨Lc_14, hQ_14, l_14, y_14, z_14⟩, st_14⟩ := Jvm.LawKit.callS X_4 hx (y := M542) hown (mvT hZ (w163 hw)) (mvT hZ (w164 hw)) (mvT hZ (w19 hw)) (mvT hZ (w165 hw)) (by decide) (backOf (W := 0) (rm_cmpB5 l Z a0 hw [] G1 G3 HG h_2 n0 O_13 t kt nn cs a_9 k_3 (List.replicate mm.toNatClampNeg 0) mm V_12 V_11 (Nat.le_trans (own_n0 X00) (Nat.le_of_eq g_10.symm)) (Nat.ne_of_lt (Nat.lt_of_lt_of_le hp0.lt (Nat.le_trans (Nat.le_refl _) (Nat.le_of_eq g_10.symm)))) hn0 hl1 hu h8 hm0 hlt (List.length_replicate) hl3) hZ (w165 hw) (w19 hw) (by decide) (by decide)) (g := (mkF m 9 #[.val (.ref t), .val (.int (0 : Int32)), .val (.int mm), .val (.ref a_9), .unset, .unset] [(.int mm), (.int (0 : Int32)), (.ref a_9), (.int (0 : Int32)), (.ref t)])) rfl (by rw [hml]; rfl) (argsL := [(.ref t), (.int (0 : Int32)), (.ref a_9), (.int (0 : Int32)), (.int mm)]) (rest := []) (lenOf pd_586 rfl) rfl (by show 2 * 0 + _ ≤ _; exact Nat.le_of_eq rfl) (hb hby d32_9) (fun _ _ => ⟨rfl, e_5, (by decide : 1 + 0 ≤ _), (by decide : 8 + 0 ≤ _)⟩)
  dsimp only [Pt.U, Pt.locs, Pt.cells, Pt.slots] at X_14 l_14 y_14 z_14 st_14 hQ_14
  have X_14 := own_cast X_14 l_14 y_14 z_14
  have C_15 : Steps p.tables e below S0 (T_1.setTop (mkF m 9 #[.val (.ref t), .val (.int (0 : Int32)), .val (.int mm), .val (.ref a_9), .unset, .unset] [(.int mm), (.int (0 : Int32)), (.ref a_9), (.int (0 : Int32)), (.ref t)])) := by
    refine C0.trans ?_
    refine XS.iloadN X0.here hx rfl (hb hby d32_0) rfl ?_
    refine st_8 _ ?_
    refine XS.astoreN X_4.here hx rfl (hb hby d32_3) rfl rfl (l' := #[.val (.ref t), .val (.int (0 : Int32)), .val (.int mm), .val (.ref a_9), .unset, .unset]) rfl ?_
    refine XS.aloadN X_4.here hx rfl (hb hby d32_4) rfl rfl ?_
    refine XS.iloadN X_4.here hx rfl (hb hby d32_5) rfl ?_
    refine XS.aloadN X_4.here hx rfl (hb hby d32_6) rfl rfl ?_
    refine XS.iconst X_4.here hx rfl (hb hby d32_7) ?_
    refine XS.iloadN X_4.here hx rfl (hb hby d32_8) rfl ?_
    show Steps p.tables e below (T_1.setTop (mkF m 9 #[.val (.ref t), .val (.int (0 : Int32)), .val (.int mm), .val (.ref a_9), .unset, .unset] [(.int mm), (.int (0 : Int32)), (.ref a_9), (.int (0 : Int32)), (.ref t)])) _
    exact Steps.refl _
  rcases hQ_14 with hQ_16 | hQ_17
  · skip
    obtain ⟨rfl, N_18, K_19, g_20, g_21⟩ := hQ_16
    have N_22 := Fr.app N0 N_18
    have C_23 : Steps p.tables e below S0 (T_14.setTop (mkF m 65 #[.val (.ref t), .val (.int (0 : Int32)), .val (.int mm), .val (.ref a_9), .val (.int mm), .unset] [(.ref a_9)])) := by
      refine C_15.trans ?_
      refine st_14 _ ?_
      refine XS.istore X_14.here hx rfl (hb hby d32_12) rfl (l' := #[.val (.ref t), .val (.int (0 : Int32)), .val (.int mm), .val (.ref a_9), .val (.int mm), .unset]) rfl ?_
      refine XS.iload X_14.here hx rfl (hb hby d32_14) rfl ?_
      refine XS.iloadN X_14.here hx rfl (hb hby d32_16) rfl ?_
      refine XS.icmpYes X_14.here hx rfl (pc0 := 17) (pc' := 64) rfl (hb hby d32_17) rfl (ii_eq_t rfl) (by decide) (by decide) ?_
      refine XS.aloadN X_14.here hx rfl (hb hby d32_64) rfl rfl ?_
      exact Steps.refl _
    have K_24 : Keep h0 T_14.heap [] := (((Keep.refl _ _).ext E_6).trans K_19 (allS (Or.inr (Nat.le_trans (Nat.le_refl _) (Nat.le_of_eq g_10.symm))) all0))
    obtain ⟨fs, hr, hrun, hended, hW, hsame⟩ := X_14.leave (v := some (.ref a_9)) (fun h => by rw [Bd.returns] at h; cases h)
    refine ⟨_, _, C_23.trans (retOut X_14 hx Bd.returns rfl (Or.inr (Or.inr (Or.inr (Or.inr ⟨rfl, rfl, rfl⟩)))) (hb hby d32_65) hr), hrun, hended, _, _, rfl, ?_, ⟨_, rfl⟩, hW, hsame.mono (by decide) (by decide)⟩
    show Q_cmpB3 Z G1 G3 t kt nn cs mm h0 n0 (some (.ref a_9)) T_14.heap _
    exact Or.inl ⟨a_9, k_3, rfl, N_22, K_24, (Nat.le_trans (Nat.le_refl _) (Nat.le_of_eq g_10.symm)), g_20, g_21⟩
  · skip
    obtain ⟨i_25, rfl, N_26, K_27, g_28, g_29, g_30, g_31⟩ := hQ_17
    have N_32 := Fr.app N0 N_26
    have C_33 : Steps p.tables e below S0 (T_14.setTop (mkF m 27 #[.val (.ref t), .val (.int (0 : Int32)), .val (.int mm), .val (.ref a_9), .val (.int i_25), .unset] [(.int ((0 : Int32) + mm)), (.int (0 : Int32)), (.ref t)])) := by
      refine C_15.trans ?_
      refine st_14 _ ?_
      refine XS.istore X_14.here hx rfl (hb hby d32_12) rfl (l' := #[.val (.ref t), .val (.int (0 : Int32)), .val (.int mm), .val (.ref a_9), .val (.int i_25), .unset]) rfl ?_
      refine XS.iload X_14.here hx rfl (hb hby d32_14) rfl ?_
      refine XS.iloadN X_14.here hx rfl (hb hby d32_16) rfl ?_
      refine XS.icmpNo X_14.here hx rfl (hb hby d32_17) rfl (ii_eq_f g_31) ?_
      refine XS.aloadN X_14.here hx rfl (hb hby d32_20) rfl rfl ?_
      refine XS.iloadN X_14.here hx rfl (hb hby d32_21) rfl ?_
      refine XS.iconst X_14.here hx rfl (hb hby d32_22) ?_
      show Steps p.tables e below (T_14.setTop (mkF m 23 #[.val (.ref t), .val (.int (0 : Int32)), .val (.int mm), .val (.ref a_9), .val (.int i_25), .unset] [(.int (1 : Int32)), (.int (0 : Int32)), (.ref t)])) _
      refine XS.ishl X_14.here hx rfl (hb hby d32_23) rfl ?_
      refine XS.iloadN X_14.here hx rfl (hb hby d32_24) rfl ?_
      refine XS.iloadN X_14.here hx rfl (hb hby d32_25) rfl ?_
      refine XS.iadd X_14.here hx rfl (hb hby d32_26) rfl ?_
      exact Steps.refl _
    have C_34 : Steps p.tables e below S0 (T_14.setTop (mkF m 27 #[.val (.ref t), .val (.int (0 : Int32)), .val (.int mm), .val (.ref a_9), .val (.int i_25), .unset] [(.int mm), (.int (0 : Int32)), (.ref t)])) := by have q := C_33; rw [own_0add] at q; exact q
    have O_35 : Old Z n0 T_14.heap := (O_13.keep K_27 (allS (Nat.le_trans (own_n0 X00) (Nat.le_of_eq g_10.symm)) all0))
    obtain ⟨_, _, ⟨T_36, L_36, k_36, n_36⟩, -, X_36, ⟨Lc_36, hQ_36, l_36, y_36, z_36⟩, st_36⟩ := Jvm.LawKit.callS X_14 hx (y := M28) hown (mvT hZ (w131 hw)) (mvT hZ (w132 hw)) (mvT hZ (w19 hw)) (mvT hZ (w133 hw)) (by decide) (backOf (W := 2) (rm_nbl l Z a0 hw [] G1 G3 HG T_14.heap n0 O_35 mm hm0 (own_small8 hm0 hm8)) hZ (w133 hw) (w19 hw) (by decide) (by decide)) (g := (mkF m 27 #[.val (.ref t), .val (.int (0 : Int32)), .val (.int mm), .val (.ref a_9), .val (.int i_25), .unset] [(.int mm), (.int (0 : Int32)), (.ref t)])) rfl (by rw [hml]; rfl) (argsL := [(.int mm)]) (rest := [(.int (0 : Int32)), (.ref t)]) (lenOf pd_44 rfl) rfl (by show 2 * 0 + _ ≤ _; exact Nat.le_of_eq rfl) (hb hby d32_27) (fun _ _ => ⟨rfl, rfl, (by decide : 1 + 0 ≤ _), (by decide : 8 + 0 ≤ _)⟩)
    dsimp only [Pt.U, Pt.locs, Pt.cells, Pt.slots] at X_36 l_36 y_36 z_36 st_36 hQ_36
    have X_36 := own_cast X_36 l_36 y_36 z_36
    obtain ⟨rfl, N_37, e_38⟩ := hQ_36
    have N_39 := Fr.app N_32 N_37
    have e_40 : T_36.heap = T_14.heap := e_38
    have V_41 : Arv Z T_14.heap t kt .byte (own_db nn) (own_iv (own_ws cs)) (.int (0 : Int32)) := (V_12.keep K_27 (ninS (Nat.ne_of_lt (Nat.lt_of_lt_of_le hp0.lt (Nat.le_trans (Nat.le_refl _) (Nat.le_of_eq g_10.symm)))) nin0))
    obtain ⟨_, _, ⟨T_42, L_42, k_42, n_42⟩, -, X_42, ⟨Lc_42, hQ_42, l_42, y_42, z_42⟩, st_42⟩ := Jvm.LawKit.callS X_36 hx (y := M464) hown (mvT hZ (w175 hw)) (mvT hZ (w87 hw)) (mvT hZ (w88 hw)) (mvT hZ (w89 hw)) (by decide) (backOf (W := 0) (rm_cr l Z a0 hw [] G1 G3 HG T_14.heap n0 O_35 t kt (own_db nn) (own_ws cs) (own_db mm) V_41 (own_dbr hm0 hm8).2.1 (own_dblt hm0 (own_nat hm0 hlt).1 hn0 h8).1 (by rw [own_wslen, hl1, (own_dbr hn0 h8).1]) (by rw [(own_dbr hn0 h8).1]; omega)) hZ (w89 hw) (w88 hw) (by decide) (by decide)) (g := (mkF m 30 #[.val (.ref t), .val (.int (0 : Int32)), .val (.int mm), .val (.ref a_9), .val (.int i_25), .unset] [(.int (own_db mm)), (.int (0 : Int32)), (.ref t)])) rfl (by rw [hml]; rfl) (argsL := [(.ref t), (.int (0 : Int32)), (.int (own_db mm))]) (rest := []) (lenOf pd_475 rfl) rfl (by show 2 * 0 + _ ≤ _; exact Nat.le_of_eq rfl) (hb hby d32_30) (fun _ _ => ⟨rfl, e_40, (by decide : 1 + 1 ≤ _), (by decide : 8 + 16 ≤ _)⟩)
    dsimp only [Pt.U, Pt.locs, Pt.cells, Pt.slots] at X_42 l_42 y_42 z_42 st_42 hQ_42
    have X_42 := own_cast X_42 l_42 y_42 z_42
    obtain ⟨a_43, k_44, rfl, N_45, K_46, g_47, g_48⟩ := hQ_42
    have N_49 := Fr.app N_39 N_45
    have V_50 : Arv Z T_42.heap a_43 k_44 .byte (own_db mm) (own_iv (own_ws (cs.take mm.toNatClampNeg))) (.int (0 : Int32)) := (by rw [own_wstake, ← (own_dbr hm0 hm8).1]; exact g_48)
    have O_51 : Old Z n0 T_42.heap := (O_35.keep K_46 all0)
    obtain ⟨_, _, ⟨T_52, L_52, k_52, n_52⟩, -, X_52, ⟨Lc_52, hQ_52, l_52, y_52, z_52⟩, st_52⟩ := Jvm.LawKit.callS X_42 hx (y := M107) hown (mvT hZ (w141 hw)) (mvT hZ (w142 hw)) (mvT hZ (w19 hw)) (mvT hZ (w143 hw)) (by decide) (backOf (W := 0) (rm_getc l Z a0 hw [] G1 G3 HG T_42.heap n0 O_51 a_43 k_44 mm (cs.take mm.toNatClampNeg) i_25 V_50 hm0 hl3 (own_u16take hu _) hm8 g_28 g_29) hZ (w143 hw) (w19 hw) (by decide) (by decide)) (g := (mkF m 39 #[.val (.ref t), .val (.int (0 : Int32)), .val (.int mm), .val (.ref a_9), .val (.int i_25), .val (.ref a_43)] [(.int i_25), (.ref a_43)])) rfl (by rw [hml]; rfl) (argsL := [(.ref a_43), (.int i_25)]) (rest := []) (lenOf pd_166 rfl) rfl (by show 2 * 0 + _ ≤ _; exact Nat.le_of_eq rfl) (hb hby d32_39) (fun _ _ => ⟨rfl, rfl, (by decide : 2 + 0 ≤ _), (by decide : 24 + 0 ≤ _)⟩)
    dsimp only [Pt.U, Pt.locs, Pt.cells, Pt.slots] at X_52 l_52 y_52 z_52 st_52 hQ_52
    have X_52 := own_cast X_52 l_52 y_52 z_52
    obtain ⟨rfl, N_53, e_54⟩ := hQ_52
    have N_55 := Fr.app N_49 N_53
    have e_56 : T_52.heap = T_42.heap := e_54
    have C_57 : Steps p.tables e below S0 (T_52.setTop (mkF m 63 #[.val (.ref t), .val (.int (0 : Int32)), .val (.int mm), .val (.ref a_9), .val (.int i_25), .val (.ref a_43)] [(.ref a_43)])) := by
      refine C_34.trans ?_
      refine st_36 _ ?_
      refine st_42 _ ?_
      refine XS.astore X_42.here hx rfl (hb hby d32_33) rfl rfl (l' := #[.val (.ref t), .val (.int (0 : Int32)), .val (.int mm), .val (.ref a_9), .val (.int i_25), .val (.ref a_43)]) rfl ?_
      refine XS.aload X_42.here hx rfl (hb hby d32_35) rfl rfl ?_
      refine XS.iload X_42.here hx rfl (hb hby d32_37) rfl ?_
      refine st_52 _ ?_
      refine XS.sipush X_52.here hx rfl (hb hby d32_42) ?_
      refine XS.icmpYes X_52.here hx rfl (pc0 := 45) (pc' := 61) rfl (hb hby d32_45) rfl (ii_gt_t (by rw [own_gttake (own_nat g_28 g_29).1]; exact g_30)) (by decide) (by decide) ?_
      show Steps p.tables e below (T_52.setTop (mkF m 61 #[.val (.ref t), .val (.int (0 : Int32)), .val (.int mm), .val (.ref a_9), .val (.int i_25), .val (.ref a_43)] [])) _
      refine XS.aload X_52.here hx rfl (hb hby d32_61) rfl rfl ?_
      exact Steps.refl _
    have K_58 : Keep h0 T_42.heap [] := ((((Keep.refl _ _).ext E_6).trans K_27 (allS (Or.inr (Nat.le_trans (Nat.le_refl _) (Nat.le_of_eq g_10.symm))) all0)).trans K_46 all0)
    obtain ⟨fs, hr, hrun, hended, hW, hsame⟩ := X_52.leave (v := some (.ref a_43)) (fun h => by rw [Bd.returns] at h; cases h)
    refine ⟨_, _, C_57.trans (retOut X_52 hx Bd.returns rfl (Or.inr (Or.inr (Or.inr (Or.inr ⟨rfl, rfl, rfl⟩)))) (hb hby d32_63) hr), hrun, hended, _, _, rfl, ?_, ⟨_, rfl⟩, hW, hsame.mono (by decide) (by decide)⟩
    show Q_cmpB3 Z G1 G3 t kt nn cs mm h0 n0 (some (.ref a_43)) T_52.heap _
    rw [e_56]
    exact Or.inr (⟨a_43, k_44, rfl, N_55, K_58, (Nat.le_trans (Nat.le_trans E_6.1 K_27.1) g_47), V_50⟩)
abbrev M614 : MethodName := ⟨"java/lang/StringUTF16", "newString", "([BII)Ljava/lang/String;"⟩
theorem d33_0 : decode jdk_52_method_69_code 0 = .ok (.iload_n 2, 1) := by decide +kernel
theorem d33_1 : decode jdk_52_method_69_code 1 = .ok (.ifCond .ne 7, 3) := by decide +kernel
theorem w147 {Z : State} {a0 : Array Value} (hw : ∀ d ∈ tables_1, d.before a0 Z = true) : Jvm.Cond.before (Jvm.Cond.stringLink "java/lang/StringUTF16" (295 : Nat) "") a0 Z = true := hw _ (List.mem_of_getElem? (i := 147) rfl)
theorem d33_4 : decode jdk_52_method_69_code 4 = .ok (.ldc_w 295, 3) := by decide +kernel
theorem d33_7 : decode jdk_52_method_69_code 7 = .ok (.areturn, 1) := by decide +kernel
theorem w159 {Z : State} {a0 : Array Value} (hw : ∀ d ∈ tables_1, d.before a0 Z = true) : Jvm.Cond.before (Jvm.Cond.fieldLink "java/lang/StringUTF16" (251 : Nat) "java/lang/String" "COMPACT_STRINGS" "Z") a0 Z = true := hw _ (List.mem_of_getElem? (i := 159) rfl)
theorem d33_8 : decode jdk_52_method_69_code 8 = .ok (.getstatic 251, 3) := by decide +kernel
theorem d33_11 : decode jdk_52_method_69_code 11 = .ok (.ifCond .eq 28, 3) := by decide +kernel
theorem d33_14 : decode jdk_52_method_69_code 14 = .ok (.aload_n 0, 1) := by decide +kernel
theorem d33_15 : decode jdk_52_method_69_code 15 = .ok (.iload_n 1, 1) := by decide +kernel
theorem d33_16 : decode jdk_52_method_69_code 16 = .ok (.iload_n 2, 1) := by decide +kernel
theorem w162 {Z : State} {a0 : Array Value} (hw : ∀ d ∈ tables_1, d.before a0 Z = true) : Jvm.Cond.before (Jvm.Cond.code ({ cls := "java/lang/StringUTF16", name := "compress", desc := "([BII)[B" } : Jvm.MethodName) jdk_52_method_17_code (6 : Nat) (Option.some (Jvm.ClassFile.FieldType.array Jvm.ClassFile.FieldType.byte))) a0 Z = true := hw _ (List.mem_of_getElem? (i := 162) rfl)
theorem d33_17 : decode jdk_52_method_69_code 17 = .ok (.invokestatic 257, 3) := by decide +kernel
theorem w160 {Z : State} {a0 : Array Value} (hw : ∀ d ∈ tables_1, d.before a0 Z = true) : Jvm.Cond.before (Jvm.Cond.methodLink "java/lang/StringUTF16" (257 : Nat) ({ cls := "java/lang/StringUTF16", name := "compress", desc := "([BII)[B" } : Jvm.MethodName)) a0 Z = true := hw _ (List.mem_of_getElem? (i := 160) rfl)
theorem w161 {Z : State} {a0 : Array Value} (hw : ∀ d ∈ tables_1, d.before a0 Z = true) : Jvm.Cond.before (Jvm.Cond.static ({ cls := "java/lang/StringUTF16", name := "compress", desc := "([BII)[B" } : Jvm.MethodName)) a0 Z = true := hw _ (List.mem_of_getElem? (i := 161) rfl)
theorem d33_20 : decode jdk_52_method_69_code 20 = .ok (.astore_n 3, 1) := by decide +kernel
theorem d33_21 : decode jdk_52_method_69_code 21 = .ok (.aload_n 3, 1) := by decide +kernel
theorem d33_22 : decode jdk_52_method_69_code 22 = .ok (.iload_n 2, 1) := by decide +kernel
theorem d33_23 : decode jdk_52_method_69_code 23 = .ok (.invokestatic 259, 3) := by decide +kernel
theorem w176 {Z : State} {a0 : Array Value} (hw : ∀ d ∈ tables_1, d.before a0 Z = true) : Jvm.Cond.before (Jvm.Cond.methodLink "java/lang/StringUTF16" (259 : Nat) ({ cls := "java/lang/StringUTF16", name := "coderFromArrayLen", desc := "([BI)B" } : Jvm.MethodName)) a0 Z = true := hw _ (List.mem_of_getElem? (i := 176) rfl)
theorem d33_26 : decode jdk_52_method_69_code 26 = .ok (.istore 4, 2) := by decide +kernel
theorem w177 {Z : State} {a0 : Array Value} (hw : ∀ d ∈ tables_1, d.before a0 Z = true) : Jvm.Cond.before (Jvm.Cond.classLink "java/lang/StringUTF16" (3 : Nat) "java/lang/String") a0 Z = true := hw _ (List.mem_of_getElem? (i := 177) rfl)
theorem d33_28 : decode jdk_52_method_69_code 28 = .ok (.new 3, 3) := by decide +kernel
theorem d33_31 : decode jdk_52_method_69_code 31 = .ok (.dup, 1) := by decide +kernel
theorem d33_32 : decode jdk_52_method_69_code 32 = .ok (.aload_n 3, 1) := by decide +kernel
theorem d33_33 : decode jdk_52_method_69_code 33 = .ok (.iload 4, 2) := by decide +kernel
theorem d33_35 : decode jdk_52_method_69_code 35 = .ok (.invokespecial 263, 3) := by decide +kernel
theorem w178 {Z : State} {a0 : Array Value} (hw : ∀ d ∈ tables_1, d.before a0 Z = true) : Jvm.Cond.before (Jvm.Cond.methodLink "java/lang/StringUTF16" (263 : Nat) ({ cls := "java/lang/String", name := "<init>", desc := "([BB)V" } : Jvm.MethodName)) a0 Z = true := hw _ (List.mem_of_getElem? (i := 178) rfl)
theorem d33_38 : decode jdk_52_method_69_code 38 = .ok (.areturn, 1) := by decide +kernel
abbrev R_uns : Room := { frames := 5, cells := 3, slots := 28, locals := 78 }
def Q_uns (Z : State) (G1 : Int32) (G3 : Value) (t : Addr) (kt : ClassId) (nn : Int32) (cs : List Int32) (mm : Int32) (h0 : Heap) (n0 : Nat) (v : Option Value) (h : Heap) (L : List Loc) : Prop := (∃ r : Addr, v = some (.ref r) ∧ Fr n0 L ∧ Keep h0 h [] ∧ (Exa Z h r "java/lang/String") ∧ (own_S Z h r mm (cs.take mm.toNatClampNeg)))
set_option maxRecDepth 65536 in
set_option maxHeartbeats 40000000 in
theorem rm_uns (l : Launch) (Z : State) (a0 : Array Value) (hw : ∀ d ∈ tables_1, d.before a0 Z = true) (ws : List Jvm.Cond) (G1 : Int32) (G3 : Value) (HG : own_G l Z a0 G1 G3) (h0 : Heap) (n0 : Nat) (X00 : Old Z n0 h0) (t : Addr) (kt : ClassId) (nn : Int32) (cs : List Int32) (mm : Int32) (hp0 : Arv Z h0 t kt .byte (own_db nn) (own_iv (own_ws cs)) (.int (0 : Int32))) (hn0 : ¬ (nn < (0 : Int32))) (hl1 : cs.length = nn.toNatClampNeg) (hu : own_u16 cs) (h8 : nn.toNatClampNeg ≤ 8) (hm0 : ¬ (mm < (0 : Int32))) (hlt : mm < nn) :
    own_CH l Z M614 jdk_52_method_69_code 5 (some (.object "java/lang/String")) ws R_uns #[(.ref t), (.int (0 : Int32)), (.int mm)] h0 (Q_uns Z G1 G3 t kt nn cs mm h0 n0) := by
  refine own_H (plainFor_of_name pn_2) ?_
  intro p e s m below meth c s₁ S0 Bd hZ hh CH0 hS0 CR0 hx hby hml hown hnm X0 e0 hS0d
  obtain ⟨O1, P1, O3f, rG3, OAD, OHI, OLO⟩ := id HG
  have hEL := own_EL hw
  have hSA := own_SA hw
  have N0 := Fr.nil n0
  have C0 : Steps p.tables e below S0 (s₁.setTop (mkF m 0 #[.val (.ref t), .val (.int (0 : Int32)), .val (.int mm), .unset, .unset] [])) := by rw [hS0d]; exact castTop (ef_79 m t (0 : Int32) mm) (Steps.refl _)
  have C_1 : Steps p.tables e below S0 (s₁.setTop (mkF m 1 #[.val (.ref t), .val (.int (0 : Int32)), .val (.int mm), .unset, .unset] [(.int mm)])) := by
    refine C0.trans ?_
    refine XS.iloadN X0.here hx rfl (hb hby d33_0) rfl ?_
    exact Steps.refl _
  by_cases hc_2 : mm = (0 : Int32)
  · skip
    obtain ⟨a_3, T_4, h_5, k1_6, b_7, k_8, X_9, e_10, E_11, S_12, hk_13, hZ_14, ho_15, Ex_16, Fc_17, Fv_18, Va_19, la_20, lb_21, R_22, L_23, Sf_24, st_25⟩ := own_ldcW (vm0 := s.vm) X0 hx hZ hown (w147 hw) hSA e0 hS0 (Nat.le_refl _) hEL (by decide) CH0 (vs := []) (z := (0 : Int32)) ⟨by decide, by decide⟩ (by decide) (by decide) (g := (mkF m 4 #[.val (.ref t), .val (.int (0 : Int32)), .val (.int mm), .unset, .unset] [])) rfl (hb hby d33_4) (n := 0) (by decide) (by decide) (by decide) (by decide)
    have CH_26 : CHv Z consts_1 T_4.vm h_5 := R_22.1
    have CR_27 : CHr Z consts_1 s.vm h0 T_4.vm h_5 := CR0.trans R_22
    have C_28 : Steps p.tables e below S0 (T_4.setTop (mkF m 7 #[.val (.ref t), .val (.int (0 : Int32)), .val (.int mm), .unset, .unset] [(.ref a_3)])) := by
      refine C_1.trans ?_
      refine XS.ifNo X0.here hx rfl (hb hby d33_1) rfl (i0_ne_f hc_2) ?_
      refine st_25 _ ?_
      exact Steps.refl _
    have V_29 : Arv Z h_5 b_7 k_8 .byte (0 : Int32) (own_iv []) (.int (0 : Int32)) := Va_19
    have K_30 : Keep h0 h_5 [] := ((Keep.refl _ _).ext E_11)
    obtain ⟨fs, hr, hrun, hended, hRE⟩ := X_9.leaveW S_12 (by rw [show T_4.heap = h_5 from e_10]; exact hk_13) (v := some (.ref a_3)) (fun h => by rw [Bd.returns] at h; cases h)
    refine ⟨_, _, C_28.trans (retOut X_9 hx Bd.returns rfl (Or.inr (Or.inr (Or.inr (Or.inr ⟨rfl, rfl, rfl⟩)))) (hb hby d33_7) hr), hrun, hended, _, _, rfl, ?_, ?_, hRE.1, hRE.2.1, hRE.2.2.1, hRE.2.2.2.mono (by decide) (by decide)⟩
    · show Q_uns Z G1 G3 t kt nn cs mm h0 n0 (some (.ref a_3)) T_4.heap _
      rw [e_10]
      exact ⟨a_3, rfl, N0, K_30, Ex_16, (own_Sempty hc_2 Ex_16 Fv_18 Fc_17 V_29)⟩
    · show CHr Z consts_1 s.vm s.heap T_4.vm T_4.heap
      rw [hh, show T_4.heap = h_5 from e_10]
      exact CR_27.trans (CHv.at X_9 hZ_14 hEL CH_26)
  · skip
    obtain ⟨T_31, X_32, e_33, st_34⟩ := getS X0 hx hZ (host := "") hown (w159 hw) Via.refl e0 (O1.ext X00.2) (g := (mkF m 8 #[.val (.ref t), .val (.int (0 : Int32)), .val (.int mm), .unset, .unset] [])) rfl (hb hby d33_8)
    obtain ⟨_, _, ⟨T_35, L_35, k_35, n_35⟩, -, X_35, ⟨Lc_35, hQ_35, l_35, y_35, z_35⟩, st_35⟩ := Jvm.LawKit.callS X_32 hx (y := M576) hown (mvT hZ (w160 hw)) (mvT hZ (w161 hw)) (mvT hZ (w19 hw)) (mvT hZ (w162 hw)) (by decide) (backOf (W := 0) (rm_cmpB3 l Z a0 hw [] G1 G3 HG h0 n0 X00 t kt nn cs mm hp0 hn0 hl1 hu h8 hm0 hlt (by have q := (own_nat hm0 hlt).1; omega) (by rw [List.length_take]; have q := (own_nat hm0 hlt).1; omega)) hZ (w162 hw) (w19 hw) (by decide) (by decide)) (g := (mkF m 17 #[.val (.ref t), .val (.int (0 : Int32)), .val (.int mm), .unset, .unset] [(.int mm), (.int (0 : Int32)), (.ref t)])) rfl (by rw [hml]; rfl) (argsL := [(.ref t), (.int (0 : Int32)), (.int mm)]) (rest := []) (lenOf pd_475 rfl) rfl (by show 2 * 0 + _ ≤ _; exact Nat.le_of_eq rfl) (hb hby d33_17) (fun _ _ => ⟨rfl, e_33, (by decide : 0 + 2 ≤ _), (by decide : 0 + 24 ≤ _)⟩)
    dsimp only [Pt.U, Pt.locs, Pt.cells, Pt.slots] at X_35 l_35 y_35 z_35 st_35 hQ_35
    have X_35 := own_cast X_35 l_35 y_35 z_35
    have C_36 : Steps p.tables e below S0 (T_31.setTop (mkF m 17 #[.val (.ref t), .val (.int (0 : Int32)), .val (.int mm), .unset, .unset] [(.int mm), (.int (0 : Int32)), (.ref t)])) := by
      refine C_1.trans ?_
      refine XS.ifYes X0.here hx rfl (pc0 := 1) (pc' := 8) rfl (hb hby d33_1) rfl (i0_ne_t hc_2) (by decide) (by decide) ?_
      refine st_34 _ ?_
      refine XS.ifNo X_32.here hx rfl (hb hby d33_11) rfl (i0_eq_f P1) ?_
      refine XS.aloadN X_32.here hx rfl (hb hby d33_14) rfl rfl ?_
      refine XS.iloadN X_32.here hx rfl (hb hby d33_15) rfl ?_
      refine XS.iloadN X_32.here hx rfl (hb hby d33_16) rfl ?_
      exact Steps.refl _
    rcases hQ_35 with hQ_37 | hQ_38
    · skip
      obtain ⟨a_39, k_40, rfl, N_41, K_42, g_43, g_44, g_45⟩ := hQ_37
      have N_46 := Fr.app N0 N_41
      have CH_47 : CHv Z consts_1 s.vm T_35.heap := CHv.keep K_42 sf0 CH0
      have CR_48 : CHr Z consts_1 s.vm h0 s.vm T_35.heap := CR0.trans (CHr.keep K_42 sf0 CH0)
      have O_49 : Old Z n0 T_35.heap := (X00.keep K_42 all0)
      obtain ⟨_, _, ⟨T_50, L_50, k_50, n_50⟩, -, X_50, ⟨Lc_50, hQ_50, l_50, y_50, z_50⟩, st_50⟩ := Jvm.LawKit.callS X_35 hx (y := M174) hown (mvT hZ (w176 hw)) (mvT hZ (w26 hw)) (mvT hZ (w19 hw)) (mvT hZ (w27 hw)) (by decide) (backOf (W := 0) (rm_codl l Z a0 hw [] G1 G3 HG T_35.heap n0 O_49 a_39 k_40 mm (own_iv (own_bs (cs.take mm.toNatClampNeg))) g_44) hZ (w27 hw) (w19 hw) (by decide) (by decide)) (g := (mkF m 23 #[.val (.ref t), .val (.int (0 : Int32)), .val (.int mm), .val (.ref a_39), .unset] [(.int mm), (.ref a_39)])) rfl (by rw [hml]; rfl) (argsL := [(.ref a_39), (.int mm)]) (rest := []) (lenOf pd_208 rfl) rfl (by show 2 * 0 + _ ≤ _; exact Nat.le_of_eq rfl) (hb hby d33_23) (fun _ _ => ⟨rfl, rfl, (by decide : 2 + 0 ≤ _), (by decide : 24 + 0 ≤ _)⟩)
      dsimp only [Pt.U, Pt.locs, Pt.cells, Pt.slots] at X_50 l_50 y_50 z_50 st_50 hQ_50
      have X_50 := own_cast X_50 l_50 y_50 z_50
      obtain ⟨rfl, N_51, e_52⟩ := hQ_50
      have N_53 := Fr.app N_46 N_51
      have e_54 : T_50.heap = T_35.heap := e_52
      obtain ⟨T_55, h_56, X_57, e_58, E_59, A_60, D_61, U_65, st_62⟩ := newO X_50 hx hZ hown (w177 hw) (w4 hw) (w5 hw) e_54 (g := (mkF m 28 #[.val (.ref t), .val (.int (0 : Int32)), .val (.int mm), .val (.ref a_39), .val (.int (0 : Int32))] [])) rfl (hb hby d33_28) (by decide) (by decide)
      obtain ⟨a_63, g_64⟩ : ∃ z, z = T_35.heap.size := ⟨_, rfl⟩
      rw [← g_64] at A_60 D_61 st_62 U_65
      have CH_66 : CHv Z consts_1 s.vm h_56 := CHv.ext E_59 CH_47
      have CR_67 : CHr Z consts_1 s.vm h0 s.vm h_56 := CR_48.trans (CHr.ext E_59 CH_47)
      have O_68 : Old Z n0 h_56 := (O_49.ext E_59)
      obtain ⟨_, _, ⟨T_69, L_69, k_69, n_69⟩, -, X_69, ⟨Lc_69, hQ_69, l_69, y_69, z_69⟩, st_69⟩ := X_57.specialBack hx (y := M410) rfl hown (mvT hZ (w178 hw)) (mvT hZ (w105 hw)) (mvT hZ (w106 hw)) (by decide) (backOf (W := 1) (rm_sbb_0 l Z a0 hw [] G1 G3 HG h_56 n0 O_68 a_63 a_39 A_60 (D_61 (Or.inr (w31 hw)) (ty := (.array .byte)) (by decide)) (D_61 (Or.inr (w29 hw)) (ty := .byte) (by decide)) (Nat.le_trans (own_n0 O_49) (Nat.le_of_eq g_64.symm))) hZ (w106 hw) (w5 hw) (by decide) (by decide)) (g := (mkF m 35 #[.val (.ref t), .val (.int (0 : Int32)), .val (.int mm), .val (.ref a_39), .val (.int (0 : Int32))] [(.int (0 : Int32)), (.ref a_39), (.ref a_63), (.ref a_63)])) rfl (by rw [hml]; rfl) (Steps.refl _) (a := a_63) (argsL := [(.ref a_39), (.int (0 : Int32))]) (rest := [(.ref a_63)]) (lenOf pd_500 rfl) rfl (by show 2 * 0 + _ ≤ _; exact Nat.le_of_eq rfl) (hb hby d33_35) (fun _ _ => ⟨rfl, e_58, (by decide : 3 + 0 ≤ _), (by decide : 28 + 0 ≤ _)⟩)
      dsimp only [Pt.U, Pt.locs, Pt.cells, Pt.slots] at X_69 l_69 y_69 z_69 st_69 hQ_69
      have X_69 := own_cast X_69 l_69 y_69 z_69
      obtain ⟨rfl, N_70, K_71, g_72, g_73, g_74⟩ := hQ_69
      have N_75 := Fr.app N_53 N_70
      have CH_76 : CHv Z consts_1 s.vm T_69.heap := CHv.keep K_71 (sfS (own_safe_null hZ.alike A_60 (D_61 (Or.inr (w31 hw)) (ty := (.array .byte)) (by decide))) sf0) CH_66
      have CR_77 : CHr Z consts_1 s.vm h0 s.vm T_69.heap := CR_67.trans (CHr.keep K_71 (sfS (own_safe_null hZ.alike A_60 (D_61 (Or.inr (w31 hw)) (ty := (.array .byte)) (by decide))) sf0) CH_66)
      have C_78 : Steps p.tables e below S0 (T_69.setTop (mkF m 38 #[.val (.ref t), .val (.int (0 : Int32)), .val (.int mm), .val (.ref a_39), .val (.int (0 : Int32))] [(.ref a_63)])) := by
        refine C_36.trans ?_
        refine st_35 _ ?_
        refine XS.astoreN X_35.here hx rfl (hb hby d33_20) rfl rfl (l' := #[.val (.ref t), .val (.int (0 : Int32)), .val (.int mm), .val (.ref a_39), .unset]) rfl ?_
        refine XS.aloadN X_35.here hx rfl (hb hby d33_21) rfl rfl ?_
        refine XS.iloadN X_35.here hx rfl (hb hby d33_22) rfl ?_
        refine st_50 _ ?_
        refine XS.istore X_50.here hx rfl (hb hby d33_26) rfl (l' := #[.val (.ref t), .val (.int (0 : Int32)), .val (.int mm), .val (.ref a_39), .val (.int (0 : Int32))]) rfl ?_
        refine st_62 _ ?_
        refine XS.dup X_57.here hx rfl (hb hby d33_31) rfl rfl ?_
        show Steps p.tables e below (T_55.setTop (mkF m 32 #[.val (.ref t), .val (.int (0 : Int32)), .val (.int mm), .val (.ref a_39), .val (.int (0 : Int32))] [(.ref a_63), (.ref a_63)])) _
        refine XS.aloadN X_57.here hx rfl (hb hby d33_32) rfl rfl ?_
        refine XS.iload X_57.here hx rfl (hb hby d33_33) rfl ?_
        refine st_69.trans ?_
        exact Steps.refl _
      have V_79 : Arv Z T_69.heap a_39 k_40 .byte mm (own_iv (own_bs (cs.take mm.toNatClampNeg))) (.int (0 : Int32)) := ((g_44.ext E_59).keep K_71 (ninS (Nat.ne_of_lt (Nat.lt_of_lt_of_le g_44.lt (Nat.le_trans (Nat.le_refl _) (Nat.le_of_eq g_64.symm)))) nin0))
      have K_80 : Keep h0 T_69.heap [] := ((((Keep.refl _ _).trans K_42 all0).ext E_59).trans K_71 (allS (Or.inr (Nat.le_trans K_42.1 (Nat.le_of_eq g_64.symm))) all0))
      obtain ⟨fs, hr, hrun, hended, hRE⟩ := X_69.leaveW hS0 (by rw [show T_69.heap = T_69.heap from rfl]; exact (Nat.le_trans (Nat.le_refl _) (Nat.le_trans (Nat.le_trans K_42.1 E_59.1) K_71.1))) (v := some (.ref a_63)) (fun h => by rw [Bd.returns] at h; cases h)
      refine ⟨_, _, C_78.trans (retOut X_69 hx Bd.returns rfl (Or.inr (Or.inr (Or.inr (Or.inr ⟨rfl, rfl, rfl⟩)))) (hb hby d33_38) hr), hrun, hended, _, _, rfl, ?_, ?_, hRE.1, hRE.2.1, hRE.2.2.1, hRE.2.2.2.mono (by decide) (by decide)⟩
      · show Q_uns Z G1 G3 t kt nn cs mm h0 n0 (some (.ref a_63)) T_69.heap _
        exact ⟨a_63, rfl, N_75, K_80, g_72, ⟨a_39, k_40, g_72, g_74, Or.inl ⟨g_73, g_45, V_79⟩⟩⟩
      · show CHr Z consts_1 s.vm s.heap T_69.vm T_69.heap
        rw [hh]
        exact CR_77.trans (CHv.at X_69 hZ hEL CH_76)
    · skip
      obtain ⟨a_81, k_82, rfl, N_83, K_84, g_85, g_86⟩ := hQ_38
      have N_87 := Fr.app N0 N_83
      have CH_88 : CHv Z consts_1 s.vm T_35.heap := CHv.keep K_84 sf0 CH0
      have CR_89 : CHr Z consts_1 s.vm h0 s.vm T_35.heap := CR0.trans (CHr.keep K_84 sf0 CH0)
      have O_90 : Old Z n0 T_35.heap := (X00.keep K_84 all0)
      obtain ⟨_, _, ⟨T_91, L_91, k_91, n_91⟩, -, X_91, ⟨Lc_91, hQ_91, l_91, y_91, z_91⟩, st_91⟩ := Jvm.LawKit.callS X_35 hx (y := M174) hown (mvT hZ (w176 hw)) (mvT hZ (w26 hw)) (mvT hZ (w19 hw)) (mvT hZ (w27 hw)) (by decide) (backOf (W := 0) (rm_codu l Z a0 hw [] G1 G3 HG T_35.heap n0 O_90 a_81 k_82 mm (own_iv (own_ws (cs.take mm.toNatClampNeg))) g_86 (own_lpos hm0 hc_2) (by have q := (own_nat hm0 hlt).1; omega)) hZ (w27 hw) (w19 hw) (by decide) (by decide)) (g := (mkF m 23 #[.val (.ref t), .val (.int (0 : Int32)), .val (.int mm), .val (.ref a_81), .unset] [(.int mm), (.ref a_81)])) rfl (by rw [hml]; rfl) (argsL := [(.ref a_81), (.int mm)]) (rest := []) (lenOf pd_208 rfl) rfl (by show 2 * 0 + _ ≤ _; exact Nat.le_of_eq rfl) (hb hby d33_23) (fun _ _ => ⟨rfl, rfl, (by decide : 2 + 0 ≤ _), (by decide : 24 + 0 ≤ _)⟩)
      dsimp only [Pt.U, Pt.locs, Pt.cells, Pt.slots] at X_91 l_91 y_91 z_91 st_91 hQ_91
      have X_91 := own_cast X_91 l_91 y_91 z_91
      obtain ⟨rfl, N_92, e_93⟩ := hQ_91
      have N_94 := Fr.app N_87 N_92
      have e_95 : T_91.heap = T_35.heap := e_93
      obtain ⟨T_96, h_97, X_98, e_99, E_100, A_101, D_102, U_106, st_103⟩ := newO X_91 hx hZ hown (w177 hw) (w4 hw) (w5 hw) e_95 (g := (mkF m 28 #[.val (.ref t), .val (.int (0 : Int32)), .val (.int mm), .val (.ref a_81), .val (.int (1 : Int32))] [])) rfl (hb hby d33_28) (by decide) (by decide)
      obtain ⟨a_104, g_105⟩ : ∃ z, z = T_35.heap.size := ⟨_, rfl⟩
      rw [← g_105] at A_101 D_102 st_103 U_106
      have CH_107 : CHv Z consts_1 s.vm h_97 := CHv.ext E_100 CH_88
      have CR_108 : CHr Z consts_1 s.vm h0 s.vm h_97 := CR_89.trans (CHr.ext E_100 CH_88)
      have O_109 : Old Z n0 h_97 := (O_90.ext E_100)
      obtain ⟨_, _, ⟨T_110, L_110, k_110, n_110⟩, -, X_110, ⟨Lc_110, hQ_110, l_110, y_110, z_110⟩, st_110⟩ := X_98.specialBack hx (y := M410) rfl hown (mvT hZ (w178 hw)) (mvT hZ (w105 hw)) (mvT hZ (w106 hw)) (by decide) (backOf (W := 1) (rm_sbb_1 l Z a0 hw [] G1 G3 HG h_97 n0 O_109 a_104 a_81 A_101 (D_102 (Or.inr (w31 hw)) (ty := (.array .byte)) (by decide)) (D_102 (Or.inr (w29 hw)) (ty := .byte) (by decide)) (Nat.le_trans (own_n0 O_90) (Nat.le_of_eq g_105.symm))) hZ (w106 hw) (w5 hw) (by decide) (by decide)) (g := (mkF m 35 #[.val (.ref t), .val (.int (0 : Int32)), .val (.int mm), .val (.ref a_81), .val (.int (1 : Int32))] [(.int (1 : Int32)), (.ref a_81), (.ref a_104), (.ref a_104)])) rfl (by rw [hml]; rfl) (Steps.refl _) (a := a_104) (argsL := [(.ref a_81), (.int (1 : Int32))]) (rest := [(.ref a_104)]) (lenOf pd_500 rfl) rfl (by show 2 * 0 + _ ≤ _; exact Nat.le_of_eq rfl) (hb hby d33_35) (fun _ _ => ⟨rfl, e_99, (by decide : 3 + 0 ≤ _), (by decide : 28 + 0 ≤ _)⟩)
      dsimp only [Pt.U, Pt.locs, Pt.cells, Pt.slots] at X_110 l_110 y_110 z_110 st_110 hQ_110
      have X_110 := own_cast X_110 l_110 y_110 z_110
      obtain ⟨rfl, N_111, K_112, g_113, g_114, g_115⟩ := hQ_110
      have N_116 := Fr.app N_94 N_111
      have CH_117 : CHv Z consts_1 s.vm T_110.heap := CHv.keep K_112 (sfS (own_safe_null hZ.alike A_101 (D_102 (Or.inr (w31 hw)) (ty := (.array .byte)) (by decide))) sf0) CH_107
      have CR_118 : CHr Z consts_1 s.vm h0 s.vm T_110.heap := CR_108.trans (CHr.keep K_112 (sfS (own_safe_null hZ.alike A_101 (D_102 (Or.inr (w31 hw)) (ty := (.array .byte)) (by decide))) sf0) CH_107)
      have C_119 : Steps p.tables e below S0 (T_110.setTop (mkF m 38 #[.val (.ref t), .val (.int (0 : Int32)), .val (.int mm), .val (.ref a_81), .val (.int (1 : Int32))] [(.ref a_104)])) := by
        refine C_36.trans ?_
        refine st_35 _ ?_
        refine XS.astoreN X_35.here hx rfl (hb hby d33_20) rfl rfl (l' := #[.val (.ref t), .val (.int (0 : Int32)), .val (.int mm), .val (.ref a_81), .unset]) rfl ?_
        refine XS.aloadN X_35.here hx rfl (hb hby d33_21) rfl rfl ?_
        refine XS.iloadN X_35.here hx rfl (hb hby d33_22) rfl ?_
        refine st_91 _ ?_
        refine XS.istore X_91.here hx rfl (hb hby d33_26) rfl (l' := #[.val (.ref t), .val (.int (0 : Int32)), .val (.int mm), .val (.ref a_81), .val (.int (1 : Int32))]) rfl ?_
        refine st_103 _ ?_
        refine XS.dup X_98.here hx rfl (hb hby d33_31) rfl rfl ?_
        show Steps p.tables e below (T_96.setTop (mkF m 32 #[.val (.ref t), .val (.int (0 : Int32)), .val (.int mm), .val (.ref a_81), .val (.int (1 : Int32))] [(.ref a_104), (.ref a_104)])) _
        refine XS.aloadN X_98.here hx rfl (hb hby d33_32) rfl rfl ?_
        refine XS.iload X_98.here hx rfl (hb hby d33_33) rfl ?_
        refine st_110.trans ?_
        exact Steps.refl _
      have V_120 : Arv Z T_110.heap a_81 k_82 .byte (own_db mm) (own_iv (own_ws (cs.take mm.toNatClampNeg))) (.int (0 : Int32)) := ((g_86.ext E_100).keep K_112 (ninS (Nat.ne_of_lt (Nat.lt_of_lt_of_le g_86.lt (Nat.le_trans (Nat.le_refl _) (Nat.le_of_eq g_105.symm)))) nin0))
      have K_121 : Keep h0 T_110.heap [] := ((((Keep.refl _ _).trans K_84 all0).ext E_100).trans K_112 (allS (Or.inr (Nat.le_trans K_84.1 (Nat.le_of_eq g_105.symm))) all0))
      obtain ⟨fs, hr, hrun, hended, hRE⟩ := X_110.leaveW hS0 (by rw [show T_110.heap = T_110.heap from rfl]; exact (Nat.le_trans (Nat.le_refl _) (Nat.le_trans (Nat.le_trans K_84.1 E_100.1) K_112.1))) (v := some (.ref a_104)) (fun h => by rw [Bd.returns] at h; cases h)
      refine ⟨_, _, C_119.trans (retOut X_110 hx Bd.returns rfl (Or.inr (Or.inr (Or.inr (Or.inr ⟨rfl, rfl, rfl⟩)))) (hb hby d33_38) hr), hrun, hended, _, _, rfl, ?_, ?_, hRE.1, hRE.2.1, hRE.2.2.1, hRE.2.2.2.mono (by decide) (by decide)⟩
      · show Q_uns Z G1 G3 t kt nn cs mm h0 n0 (some (.ref a_104)) T_110.heap _
        exact ⟨a_104, rfl, N_116, K_121, g_113, ⟨a_81, k_82, g_113, g_115, Or.inr ⟨g_114, V_120⟩⟩⟩
      · show CHr Z consts_1 s.vm s.heap T_110.vm T_110.heap
        rw [hh]
        exact CR_118.trans (CHv.at X_110 hZ hEL CH_117)
abbrev M644 : MethodName := ⟨"java/lang/String", "substring", "(II)Ljava/lang/String;"⟩
theorem d34_0 : decode jdk_42_method_92_code 0 = .ok (.aload_n 0, 1) := by decide +kernel
theorem w62 {Z : State} {a0 : Array Value} (hw : ∀ d ∈ tables_1, d.before a0 Z = true) : Jvm.Cond.before (Jvm.Cond.code ({ cls := "java/lang/String", name := "length", desc := "()I" } : Jvm.MethodName) jdk_42_method_54_code (1 : Nat) (Option.some Jvm.ClassFile.FieldType.int)) a0 Z = true := hw _ (List.mem_of_getElem? (i := 62) rfl)
theorem pd_647 : parseMethodDescriptor "()I" = some ⟨[], some .int⟩ := by decide +kernel
theorem d34_1 : decode jdk_42_method_92_code 1 = .ok (.invokevirtual 505, 3) := by decide +kernel
theorem w58 {Z : State} {a0 : Array Value} (hw : ∀ d ∈ tables_1, d.before a0 Z = true) : Jvm.Cond.before (Jvm.Cond.methodLink "java/lang/String" (505 : Nat) ({ cls := "java/lang/String", name := "length", desc := "()I" } : Jvm.MethodName)) a0 Z = true := hw _ (List.mem_of_getElem? (i := 58) rfl)
theorem w61 {Z : State} {a0 : Array Value} (hw : ∀ d ∈ tables_1, d.before a0 Z = true) : Jvm.Cond.before (Jvm.Cond.selects "java/lang/String" ({ cls := "java/lang/String", name := "length", desc := "()I" } : Jvm.MethodName) ({ cls := "java/lang/String", name := "length", desc := "()I" } : Jvm.MethodName)) a0 Z = true := hw _ (List.mem_of_getElem? (i := 61) rfl)
theorem w60 {Z : State} {a0 : Array Value} (hw : ∀ d ∈ tables_1, d.before a0 Z = true) : Jvm.Cond.before (Jvm.Cond.instanceMethod ({ cls := "java/lang/String", name := "length", desc := "()I" } : Jvm.MethodName)) a0 Z = true := hw _ (List.mem_of_getElem? (i := 60) rfl)
theorem w59 {Z : State} {a0 : Array Value} (hw : ∀ d ∈ tables_1, d.before a0 Z = true) : Jvm.Cond.before (Jvm.Cond.declares ({ cls := "java/lang/String", name := "length", desc := "()I" } : Jvm.MethodName)) a0 Z = true := hw _ (List.mem_of_getElem? (i := 59) rfl)
theorem d34_4 : decode jdk_42_method_92_code 4 = .ok (.istore_n 3, 1) := by decide +kernel
theorem d34_5 : decode jdk_42_method_92_code 5 = .ok (.iload_n 1, 1) := by decide +kernel
theorem d34_6 : decode jdk_42_method_92_code 6 = .ok (.iload_n 2, 1) := by decide +kernel
theorem d34_7 : decode jdk_42_method_92_code 7 = .ok (.iload_n 3, 1) := by decide +kernel
theorem w70 {Z : State} {a0 : Array Value} (hw : ∀ d ∈ tables_1, d.before a0 Z = true) : Jvm.Cond.before (Jvm.Cond.code ({ cls := "java/lang/String", name := "checkBoundsBeginEnd", desc := "(III)V" } : Jvm.MethodName) jdk_42_method_158_code (3 : Nat) (Option.none : Option Jvm.ClassFile.FieldType)) a0 Z = true := hw _ (List.mem_of_getElem? (i := 70) rfl)
theorem pd_658 : parseMethodDescriptor "(III)V" = some ⟨[.int, .int, .int], none⟩ := by decide +kernel
theorem d34_8 : decode jdk_42_method_92_code 8 = .ok (.invokestatic 521, 3) := by decide +kernel
theorem w68 {Z : State} {a0 : Array Value} (hw : ∀ d ∈ tables_1, d.before a0 Z = true) : Jvm.Cond.before (Jvm.Cond.methodLink "java/lang/String" (521 : Nat) ({ cls := "java/lang/String", name := "checkBoundsBeginEnd", desc := "(III)V" } : Jvm.MethodName)) a0 Z = true := hw _ (List.mem_of_getElem? (i := 68) rfl)
theorem w69 {Z : State} {a0 : Array Value} (hw : ∀ d ∈ tables_1, d.before a0 Z = true) : Jvm.Cond.before (Jvm.Cond.static ({ cls := "java/lang/String", name := "checkBoundsBeginEnd", desc := "(III)V" } : Jvm.MethodName)) a0 Z = true := hw _ (List.mem_of_getElem? (i := 69) rfl)
theorem d34_11 : decode jdk_42_method_92_code 11 = .ok (.iload_n 1, 1) := by decide +kernel
theorem d34_12 : decode jdk_42_method_92_code 12 = .ok (.ifCond .ne 10, 3) := by decide +kernel
theorem d34_15 : decode jdk_42_method_92_code 15 = .ok (.iload_n 2, 1) := by decide +kernel
theorem d34_16 : decode jdk_42_method_92_code 16 = .ok (.iload_n 3, 1) := by decide +kernel
theorem d34_17 : decode jdk_42_method_92_code 17 = .ok (.if_icmp .ne 5, 3) := by decide +kernel
theorem d34_20 : decode jdk_42_method_92_code 20 = .ok (.aload_n 0, 1) := by decide +kernel
theorem d34_21 : decode jdk_42_method_92_code 21 = .ok (.areturn, 1) := by decide +kernel
theorem d34_22 : decode jdk_42_method_92_code 22 = .ok (.iload_n 2, 1) := by decide +kernel
theorem d34_23 : decode jdk_42_method_92_code 23 = .ok (.iload_n 1, 1) := by decide +kernel
theorem d34_24 : decode jdk_42_method_92_code 24 = .ok (.isub, 1) := by decide +kernel
theorem d34_25 : decode jdk_42_method_92_code 25 = .ok (.istore 4, 2) := by decide +kernel
theorem d34_27 : decode jdk_42_method_92_code 27 = .ok (.aload_n 0, 1) := by decide +kernel
theorem d34_28 : decode jdk_42_method_92_code 28 = .ok (.invokevirtual 492, 3) := by decide +kernel
theorem d34_31 : decode jdk_42_method_92_code 31 = .ok (.ifCond .eq 16, 3) := by decide +kernel
theorem d34_34 : decode jdk_42_method_92_code 34 = .ok (.aload_n 0, 1) := by decide +kernel
theorem d34_35 : decode jdk_42_method_92_code 35 = .ok (.getfield 9, 3) := by decide +kernel
theorem d34_38 : decode jdk_42_method_92_code 38 = .ok (.iload_n 1, 1) := by decide +kernel
theorem d34_39 : decode jdk_42_method_92_code 39 = .ok (.iload 4, 2) := by decide +kernel
theorem w84 {Z : State} {a0 : Array Value} (hw : ∀ d ∈ tables_1, d.before a0 Z = true) : Jvm.Cond.before (Jvm.Cond.code ({ cls := "java/lang/StringLatin1", name := "newString", desc := "([BII)Ljava/lang/String;" } : Jvm.MethodName) jdk_43_method_47_code (3 : Nat) (Option.some (Jvm.ClassFile.FieldType.object "java/lang/String"))) a0 Z = true := hw _ (List.mem_of_getElem? (i := 84) rfl)
theorem pd_681 : parseMethodDescriptor "([BII)Ljava/lang/String;" = some ⟨[(.array .byte), .int, .int], some (.object "java/lang/String")⟩ := by decide +kernel
theorem d34_41 : decode jdk_42_method_92_code 41 = .ok (.invokestatic 685, 3) := by decide +kernel
theorem w81 {Z : State} {a0 : Array Value} (hw : ∀ d ∈ tables_1, d.before a0 Z = true) : Jvm.Cond.before (Jvm.Cond.methodLink "java/lang/String" (685 : Nat) ({ cls := "java/lang/StringLatin1", name := "newString", desc := "([BII)Ljava/lang/String;" } : Jvm.MethodName)) a0 Z = true := hw _ (List.mem_of_getElem? (i := 81) rfl)
theorem w82 {Z : State} {a0 : Array Value} (hw : ∀ d ∈ tables_1, d.before a0 Z = true) : Jvm.Cond.before (Jvm.Cond.static ({ cls := "java/lang/StringLatin1", name := "newString", desc := "([BII)Ljava/lang/String;" } : Jvm.MethodName)) a0 Z = true := hw _ (List.mem_of_getElem? (i := 82) rfl)
theorem d34_44 : decode jdk_42_method_92_code 44 = .ok (.goto 13, 3) := by decide +kernel
theorem d34_57 : decode jdk_42_method_92_code 57 = .ok (.areturn, 1) := by decide +kernel
theorem d34_47 : decode jdk_42_method_92_code 47 = .ok (.aload_n 0, 1) := by decide +kernel
theorem d34_48 : decode jdk_42_method_92_code 48 = .ok (.getfield 9, 3) := by decide +kernel
theorem d34_51 : decode jdk_42_method_92_code 51 = .ok (.iload_n 1, 1) := by decide +kernel
theorem d34_52 : decode jdk_42_method_92_code 52 = .ok (.iload 4, 2) := by decide +kernel
theorem w146 {Z : State} {a0 : Array Value} (hw : ∀ d ∈ tables_1, d.before a0 Z = true) : Jvm.Cond.before (Jvm.Cond.code ({ cls := "java/lang/StringUTF16", name := "newString", desc := "([BII)Ljava/lang/String;" } : Jvm.MethodName) jdk_52_method_69_code (5 : Nat) (Option.some (Jvm.ClassFile.FieldType.object "java/lang/String"))) a0 Z = true := hw _ (List.mem_of_getElem? (i := 146) rfl)
theorem d34_54 : decode jdk_42_method_92_code 54 = .ok (.invokestatic 689, 3) := by decide +kernel
theorem w144 {Z : State} {a0 : Array Value} (hw : ∀ d ∈ tables_1, d.before a0 Z = true) : Jvm.Cond.before (Jvm.Cond.methodLink "java/lang/String" (689 : Nat) ({ cls := "java/lang/StringUTF16", name := "newString", desc := "([BII)Ljava/lang/String;" } : Jvm.MethodName)) a0 Z = true := hw _ (List.mem_of_getElem? (i := 144) rfl)
theorem w145 {Z : State} {a0 : Array Value} (hw : ∀ d ∈ tables_1, d.before a0 Z = true) : Jvm.Cond.before (Jvm.Cond.static ({ cls := "java/lang/StringUTF16", name := "newString", desc := "([BII)Ljava/lang/String;" } : Jvm.MethodName)) a0 Z = true := hw _ (List.mem_of_getElem? (i := 145) rfl)
abbrev R_sub : Room := { frames := 6, cells := 3, slots := 28, locals := 94 }
def Q_sub (Z : State) (G1 : Int32) (G3 : Value) (x : Addr) (nn : Int32) (cs : List Int32) (mm : Int32) (h0 : Heap) (n0 : Nat) (v : Option Value) (h : Heap) (L : List Loc) : Prop := (∃ r : Addr, v = some (.ref r) ∧ Fr n0 L ∧ Keep h0 h [] ∧ (Exa Z h r "java/lang/String") ∧ (own_S Z h r mm (cs.take mm.toNatClampNeg)))
set_option maxRecDepth 65536 in
set_option maxHeartbeats 40000000 in
theorem rm_sub (l : Launch) (Z : State) (a0 : Array Value) (hw : ∀ d ∈ tables_1, d.before a0 Z = true) (ws : List Jvm.Cond) (G1 : Int32) (G3 : Value) (HG : own_G l Z a0 G1 G3) (h0 : Heap) (n0 : Nat) (X00 : Old Z n0 h0) (x : Addr) (nn : Int32) (cs : List Int32) (mm : Int32) (hS : own_S Z h0 x nn cs) (hn0 : ¬ (nn < (0 : Int32))) (hl1 : cs.length = nn.toNatClampNeg) (hu : own_u16 cs) (h8 : nn.toNatClampNeg ≤ 8) (hm0 : ¬ (mm < (0 : Int32))) (hm1 : ¬ (nn < mm)) :
    own_CH l Z M644 jdk_42_method_92_code 5 (some (.object "java/lang/String")) ws R_sub #[(.ref x), (.int (0 : Int32)), (.int mm)] h0 (Q_sub Z G1 G3 x nn cs mm h0 n0) := by
  refine own_H (plainFor_of_name pn_185) ?_
  intro p e s m below meth c s₁ S0 Bd hZ hh CH0 hS0 CR0 hx hby hml hown hnm X0 e0 hS0d
  obtain ⟨O1, P1, O3f, rG3, OAD, OHI, OLO⟩ := id HG
  have hEL := own_EL hw
  have hSA := own_SA hw
  have N0 := Fr.nil n0
  have C0 : Steps p.tables e below S0 (s₁.setTop (mkF m 0 #[.val (.ref x), .val (.int (0 : Int32)), .val (.int mm), .unset, .unset] [])) := by rw [hS0d]; exact castTop (ef_79 m x (0 : Int32) mm) (Steps.refl _)
  obtain ⟨t_1, kt_2, E_3, F_4, q_5⟩ := id hS
  rcases q_5 with ⟨c_6, hl_7, a_8⟩ | ⟨c_6, a_8⟩
  · skip
    obtain ⟨q_10, q_11, q_12, q_13, q_14⟩ := isOf (T := s₁) hZ e0 E_3
    obtain ⟨_, _, ⟨T_9, L_9, k_9, n_9⟩, -, X_9, ⟨Lc_9, hQ_9, l_9, y_9, z_9⟩, st_9⟩ := X0.virtualBack hx (y := M264) (z := M264) hown (mvT hZ (w58 hw)) (mvT hZ (w59 hw)) (notFace_of_selects (args := #[]) (mvT hZ (w61 hw))) (mvT hZ (w61 hw)) (mvT hZ (w60 hw)) (by decide) (backOf (W := 0) (rm_lens l Z a0 hw [] G1 G3 HG h0 n0 X00 x t_1 kt_2 nn (own_iv (own_bs cs)) E_3 c_6 F_4 a_8) hZ (w62 hw) (w5 hw) (by decide) (by decide)) q_12 q_14 (g := (mkF m 1 #[.val (.ref x), .val (.int (0 : Int32)), .val (.int mm), .unset, .unset] [(.ref x)])) rfl (by rw [hml]; rfl) (Steps.refl _) (argsL := []) (rest := []) (lenOf pd_647 rfl) rfl (by show 2 * 0 + _ ≤ _; exact Nat.le_of_eq rfl) (hb hby d34_1) (fun _ _ => ⟨rfl, e0, (by decide : 0 + 0 ≤ _), (by decide : 0 + 0 ≤ _)⟩)
    dsimp only [Pt.U, Pt.locs, Pt.cells, Pt.slots] at X_9 l_9 y_9 z_9 st_9 hQ_9
    have X_9 := own_cast X_9 l_9 y_9 z_9
    obtain ⟨rfl, N_15, e_16⟩ := hQ_9
    have N_17 := Fr.app N0 N_15
    have e_18 : T_9.heap = h0 := e_16
    obtain ⟨_, _, ⟨T_19, L_19, k_19, n_19⟩, -, X_19, ⟨Lc_19, hQ_19, l_19, y_19, z_19⟩, st_19⟩ := Jvm.LawKit.callS X_9 hx (y := M389) hown (mvT hZ (w68 hw)) (mvT hZ (w69 hw)) (mvT hZ (w5 hw)) (mvT hZ (w70 hw)) (by decide) (backOf (W := 0) (rm_cbb l Z a0 hw [] G1 G3 HG h0 n0 X00 (0 : Int32) mm nn (by decide) hm0 hm1) hZ (w70 hw) (w5 hw) (by decide) (by decide)) (g := (mkF m 8 #[.val (.ref x), .val (.int (0 : Int32)), .val (.int mm), .val (.int nn), .unset] [(.int nn), (.int mm), (.int (0 : Int32))])) rfl (by rw [hml]; rfl) (argsL := [(.int (0 : Int32)), (.int mm), (.int nn)]) (rest := []) (lenOf pd_658 rfl) rfl (by show 2 * 0 + _ ≤ _; exact Nat.le_of_eq rfl) (hb hby d34_8) (fun _ _ => ⟨rfl, e_18, (by decide : 0 + 0 ≤ _), (by decide : 0 + 0 ≤ _)⟩)
    dsimp only [Pt.U, Pt.locs, Pt.cells, Pt.slots] at X_19 l_19 y_19 z_19 st_19 hQ_19
    have X_19 := own_cast X_19 l_19 y_19 z_19
    obtain ⟨rfl, N_20, e_21⟩ := hQ_19
    have N_22 := Fr.app N_17 N_20
    have e_23 : T_19.heap = h0 := e_21
    have C_24 : Steps p.tables e below S0 (T_19.setTop (mkF m 17 #[.val (.ref x), .val (.int (0 : Int32)), .val (.int mm), .val (.int nn), .unset] [(.int nn), (.int mm)])) := by
      refine C0.trans ?_
      refine XS.aloadN X0.here hx rfl (hb hby d34_0) rfl rfl ?_
      refine st_9.trans ?_
      refine XS.istoreN X_9.here hx rfl (hb hby d34_4) rfl (l' := #[.val (.ref x), .val (.int (0 : Int32)), .val (.int mm), .val (.int nn), .unset]) rfl ?_
      refine XS.iloadN X_9.here hx rfl (hb hby d34_5) rfl ?_
      refine XS.iloadN X_9.here hx rfl (hb hby d34_6) rfl ?_
      refine XS.iloadN X_9.here hx rfl (hb hby d34_7) rfl ?_
      refine st_19 _ ?_
      refine XS.iloadN X_19.here hx rfl (hb hby d34_11) rfl ?_
      show Steps p.tables e below (T_19.setTop (mkF m 12 #[.val (.ref x), .val (.int (0 : Int32)), .val (.int mm), .val (.int nn), .unset] [(.int (0 : Int32))])) _
      refine XS.ifNo X_19.here hx rfl (hb hby d34_12) rfl (by decide) ?_
      refine XS.iloadN X_19.here hx rfl (hb hby d34_15) rfl ?_
      refine XS.iloadN X_19.here hx rfl (hb hby d34_16) rfl ?_
      exact Steps.refl _
    by_cases hc_25 : mm = nn
    · skip
      have C_26 : Steps p.tables e below S0 (T_19.setTop (mkF m 21 #[.val (.ref x), .val (.int (0 : Int32)), .val (.int mm), .val (.int nn), .unset] [(.ref x)])) := by
        refine C_24.trans ?_
        refine XS.icmpNo X_19.here hx rfl (hb hby d34_17) rfl (ii_ne_f hc_25) ?_
        refine XS.aloadN X_19.here hx rfl (hb hby d34_20) rfl rfl ?_
        exact Steps.refl _
      have K_27 : Keep h0 h0 [] := (Keep.refl _ _)
      obtain ⟨fs, hr, hrun, hended, hRE⟩ := X_19.leaveW hS0 (by rw [show T_19.heap = h0 from e_23]; exact (Nat.le_refl _)) (v := some (.ref x)) (fun h => by rw [Bd.returns] at h; cases h)
      refine ⟨_, _, C_26.trans (retOut X_19 hx Bd.returns rfl (Or.inr (Or.inr (Or.inr (Or.inr ⟨rfl, rfl, rfl⟩)))) (hb hby d34_21) hr), hrun, hended, _, _, rfl, ?_, ?_, hRE.1, hRE.2.1, hRE.2.2.1, hRE.2.2.2.mono (by decide) (by decide)⟩
      · show Q_sub Z G1 G3 x nn cs mm h0 n0 (some (.ref x)) T_19.heap _
        rw [e_23]
        exact ⟨x, rfl, N_22, K_27, E_3, (own_Sself hS hc_25 hl1)⟩
      · show CHr Z consts_1 s.vm s.heap T_19.vm T_19.heap
        rw [hh, show T_19.heap = h0 from e_23]
        exact CR0.trans (CHv.at X_19 hZ hEL CH0)
    · skip
      have C_28 : Steps p.tables e below S0 (T_19.setTop (mkF m 25 #[.val (.ref x), .val (.int (0 : Int32)), .val (.int mm), .val (.int nn), .unset] [(.int (mm - (0 : Int32)))])) := by
        refine C_24.trans ?_
        refine XS.icmpYes X_19.here hx rfl (pc0 := 17) (pc' := 22) rfl (hb hby d34_17) rfl (ii_ne_t hc_25) (by decide) (by decide) ?_
        refine XS.iloadN X_19.here hx rfl (hb hby d34_22) rfl ?_
        refine XS.iloadN X_19.here hx rfl (hb hby d34_23) rfl ?_
        refine XS.isub X_19.here hx rfl (hb hby d34_24) rfl ?_
        exact Steps.refl _
      have C_29 : Steps p.tables e below S0 (T_19.setTop (mkF m 25 #[.val (.ref x), .val (.int (0 : Int32)), .val (.int mm), .val (.int nn), .unset] [(.int mm)])) := by have q := C_28; rw [own_sub0] at q; exact q
      obtain ⟨q_31, q_32, q_33, q_34, q_35⟩ := isOf (T := T_19) hZ e_23 E_3
      obtain ⟨_, _, ⟨T_30, L_30, k_30, n_30⟩, -, X_30, ⟨Lc_30, hQ_30, l_30, y_30, z_30⟩, st_30⟩ := X_19.virtualBack hx (y := M255) (z := M255) hown (mvT hZ (w76 hw)) (mvT hZ (w77 hw)) (notFace_of_selects (args := #[]) (mvT hZ (w79 hw))) (mvT hZ (w79 hw)) (mvT hZ (w78 hw)) (by decide) (backOf (W := 0) (rm_islat l Z a0 hw [] G1 G3 HG h0 n0 X00 x c_6) hZ (w80 hw) (w5 hw) (by decide) (by decide)) q_33 q_35 (g := (mkF m 28 #[.val (.ref x), .val (.int (0 : Int32)), .val (.int mm), .val (.int nn), .val (.int mm)] [(.ref x)])) rfl (by rw [hml]; rfl) (Steps.refl _) (argsL := []) (rest := []) (lenOf pd_322 rfl) rfl (by show 2 * 0 + _ ≤ _; exact Nat.le_of_eq rfl) (hb hby d34_28) (fun _ _ => ⟨rfl, e_23, (by decide : 0 + 0 ≤ _), (by decide : 0 + 0 ≤ _)⟩)
      dsimp only [Pt.U, Pt.locs, Pt.cells, Pt.slots] at X_30 l_30 y_30 z_30 st_30 hQ_30
      have X_30 := own_cast X_30 l_30 y_30 z_30
      obtain ⟨rfl, N_36, e_37⟩ := hQ_30
      have N_38 := Fr.app N_22 N_36
      have e_39 : T_30.heap = h0 := e_37
      obtain ⟨T_40, X_41, e_42, st_43⟩ := getF X_30 hx hZ hown (host := "") (Or.inl (w30 hw)) Via.refl e_39 F_4 (g := (mkF m 35 #[.val (.ref x), .val (.int (0 : Int32)), .val (.int mm), .val (.int nn), .val (.int mm)] [(.ref x)])) rfl rfl (hb hby d34_35)
      obtain ⟨_, _, ⟨T_44, L_44, k_44, n_44⟩, -, Y_44, S_44, G_44, ⟨Lc_44, hQ_44, l_44, y_44, z_44, R_44⟩, st_44⟩ := callSS X_41 hx (y := M480) hown (mvT hZ (w81 hw)) (mvT hZ (w82 hw)) (mvT hZ (w83 hw)) (mvT hZ (w84 hw)) (by decide) (backOfSH (vm0 := s.vm) (W := 0) (rm_lns l Z a0 hw [] G1 G3 HG h0 n0 X00 t_1 kt_2 nn cs mm a_8 hl_7 hn0 hl1 hu h8 hm0 (own_lt3 hm1 hc_25)) hZ (w84 hw) (w83 hw) (by decide) (by decide) hEL CH0) (g := (mkF m 41 #[.val (.ref x), .val (.int (0 : Int32)), .val (.int mm), .val (.int nn), .val (.int mm)] [(.int mm), (.int (0 : Int32)), (.ref t_1)])) rfl (by rw [hml]; rfl) (argsL := [(.ref t_1), (.int (0 : Int32)), (.int mm)]) (rest := []) (lenOf pd_681 rfl) rfl (by show 2 * 0 + _ ≤ _; exact Nat.le_of_eq rfl) (hb hby d34_41) (fun _ _ => ⟨rfl, e_42, (by decide : 0 + 2 ≤ _), (by decide : 0 + 20 ≤ _)⟩)
      dsimp only [Pt.U, Pt.locs, Pt.cells, Pt.slots] at Y_44 S_44 G_44 l_44 y_44 z_44 st_44 hQ_44 R_44
      have Y_44 := own_cast Y_44 l_44 y_44 z_44
      obtain ⟨X_44, hS_44, hZ_44, hown_44⟩ := rebS hS0 (n1 := T_40.heap.size) (by rw [show T_40.heap = h0 from e_42]; exact (Nat.le_refl _)) Y_44 S_44 G_44 hZ hown
      obtain ⟨a_45, rfl, N_46, K_47, g_48, g_49⟩ := hQ_44
      have N_50 := Fr.app N_38 N_46
      have CH_51 : CHv Z consts_1 T_44.vm T_44.heap := R_44.1
      have CR_52 : CHr Z consts_1 s.vm h0 T_44.vm T_44.heap := CR0.trans R_44
      have C_53 : Steps p.tables e below S0 (T_44.setTop (mkF m 57 #[.val (.ref x), .val (.int (0 : Int32)), .val (.int mm), .val (.int nn), .val (.int mm)] [(.ref a_45)])) := by
        refine C_29.trans ?_
        refine XS.istore X_19.here hx rfl (hb hby d34_25) rfl (l' := #[.val (.ref x), .val (.int (0 : Int32)), .val (.int mm), .val (.int nn), .val (.int mm)]) rfl ?_
        refine XS.aloadN X_19.here hx rfl (hb hby d34_27) rfl rfl ?_
        refine st_30.trans ?_
        refine XS.ifNo X_30.here hx rfl (hb hby d34_31) rfl (by decide) ?_
        refine XS.aloadN X_30.here hx rfl (hb hby d34_34) rfl rfl ?_
        refine st_43 _ ?_
        refine XS.iloadN X_41.here hx rfl (hb hby d34_38) rfl ?_
        refine XS.iload X_41.here hx rfl (hb hby d34_39) rfl ?_
        show Steps p.tables e below (T_40.setTop (mkF m 41 #[.val (.ref x), .val (.int (0 : Int32)), .val (.int mm), .val (.int nn), .val (.int mm)] [(.int mm), (.int (0 : Int32)), (.ref t_1)])) _
        refine st_44.trans ?_
        refine XS.goto X_44.here hx rfl (pc0 := 44) (pc' := 57) rfl (hb hby d34_44) (by decide) (by decide) ?_
        exact Steps.refl _
      have K_54 : Keep h0 T_44.heap [] := ((Keep.refl _ _).trans K_47 all0)
      obtain ⟨fs, hr, hrun, hended, hRE⟩ := X_44.leaveW hS_44 (by rw [show T_44.heap = T_44.heap from rfl]; exact (Nat.le_refl _)) (v := some (.ref a_45)) (fun h => by rw [Bd.returns] at h; cases h)
      refine ⟨_, _, C_53.trans (retOut X_44 hx Bd.returns rfl (Or.inr (Or.inr (Or.inr (Or.inr ⟨rfl, rfl, rfl⟩)))) (hb hby d34_57) hr), hrun, hended, _, _, rfl, ?_, ?_, hRE.1, hRE.2.1, hRE.2.2.1, hRE.2.2.2.mono (by decide) (by decide)⟩
      · show Q_sub Z G1 G3 x nn cs mm h0 n0 (some (.ref a_45)) T_44.heap _
        exact ⟨a_45, rfl, N_50, K_54, g_48, g_49⟩
      · show CHr Z consts_1 s.vm s.heap T_44.vm T_44.heap
        rw [hh]
        exact CR_52.trans (CHv.at X_44 hZ_44 hEL CH_51)
  · skip
    obtain ⟨q_56, q_57, q_58, q_59, q_60⟩ := isOf (T := s₁) hZ e0 E_3
    obtain ⟨_, _, ⟨T_55, L_55, k_55, n_55⟩, -, X_55, ⟨Lc_55, hQ_55, l_55, y_55, z_55⟩, st_55⟩ := X0.virtualBack hx (y := M264) (z := M264) hown (mvT hZ (w58 hw)) (mvT hZ (w59 hw)) (notFace_of_selects (args := #[]) (mvT hZ (w61 hw))) (mvT hZ (w61 hw)) (mvT hZ (w60 hw)) (by decide) (backOf (W := 0) (rm_lenS l Z a0 hw [] G1 G3 HG h0 n0 X00 x nn cs hS hn0 h8) hZ (w62 hw) (w5 hw) (by decide) (by decide)) q_58 q_60 (g := (mkF m 1 #[.val (.ref x), .val (.int (0 : Int32)), .val (.int mm), .unset, .unset] [(.ref x)])) rfl (by rw [hml]; rfl) (Steps.refl _) (argsL := []) (rest := []) (lenOf pd_647 rfl) rfl (by show 2 * 0 + _ ≤ _; exact Nat.le_of_eq rfl) (hb hby d34_1) (fun _ _ => ⟨rfl, e0, (by decide : 0 + 0 ≤ _), (by decide : 0 + 0 ≤ _)⟩)
    dsimp only [Pt.U, Pt.locs, Pt.cells, Pt.slots] at X_55 l_55 y_55 z_55 st_55 hQ_55
    have X_55 := own_cast X_55 l_55 y_55 z_55
    obtain ⟨rfl, N_61, e_62⟩ := hQ_55
    have N_63 := Fr.app N0 N_61
    have e_64 : T_55.heap = h0 := e_62
    obtain ⟨_, _, ⟨T_65, L_65, k_65, n_65⟩, -, X_65, ⟨Lc_65, hQ_65, l_65, y_65, z_65⟩, st_65⟩ := Jvm.LawKit.callS X_55 hx (y := M389) hown (mvT hZ (w68 hw)) (mvT hZ (w69 hw)) (mvT hZ (w5 hw)) (mvT hZ (w70 hw)) (by decide) (backOf (W := 0) (rm_cbb l Z a0 hw [] G1 G3 HG h0 n0 X00 (0 : Int32) mm nn (by decide) hm0 hm1) hZ (w70 hw) (w5 hw) (by decide) (by decide)) (g := (mkF m 8 #[.val (.ref x), .val (.int (0 : Int32)), .val (.int mm), .val (.int nn), .unset] [(.int nn), (.int mm), (.int (0 : Int32))])) rfl (by rw [hml]; rfl) (argsL := [(.int (0 : Int32)), (.int mm), (.int nn)]) (rest := []) (lenOf pd_658 rfl) rfl (by show 2 * 0 + _ ≤ _; exact Nat.le_of_eq rfl) (hb hby d34_8) (fun _ _ => ⟨rfl, e_64, (by decide : 0 + 0 ≤ _), (by decide : 0 + 0 ≤ _)⟩)
    dsimp only [Pt.U, Pt.locs, Pt.cells, Pt.slots] at X_65 l_65 y_65 z_65 st_65 hQ_65
    have X_65 := own_cast X_65 l_65 y_65 z_65
    obtain ⟨rfl, N_66, e_67⟩ := hQ_65
    have N_68 := Fr.app N_63 N_66
    have e_69 : T_65.heap = h0 := e_67
    have C_70 : Steps p.tables e below S0 (T_65.setTop (mkF m 17 #[.val (.ref x), .val (.int (0 : Int32)), .val (.int mm), .val (.int nn), .unset] [(.int nn), (.int mm)])) := by
      refine C0.trans ?_
      refine XS.aloadN X0.here hx rfl (hb hby d34_0) rfl rfl ?_
      refine st_55.trans ?_
      refine XS.istoreN X_55.here hx rfl (hb hby d34_4) rfl (l' := #[.val (.ref x), .val (.int (0 : Int32)), .val (.int mm), .val (.int nn), .unset]) rfl ?_
      refine XS.iloadN X_55.here hx rfl (hb hby d34_5) rfl ?_
      refine XS.iloadN X_55.here hx rfl (hb hby d34_6) rfl ?_
      refine XS.iloadN X_55.here hx rfl (hb hby d34_7) rfl ?_
      refine st_65 _ ?_
      refine XS.iloadN X_65.here hx rfl (hb hby d34_11) rfl ?_
      show Steps p.tables e below (T_65.setTop (mkF m 12 #[.val (.ref x), .val (.int (0 : Int32)), .val (.int mm), .val (.int nn), .unset] [(.int (0 : Int32))])) _
      refine XS.ifNo X_65.here hx rfl (hb hby d34_12) rfl (by decide) ?_
      refine XS.iloadN X_65.here hx rfl (hb hby d34_15) rfl ?_
      refine XS.iloadN X_65.here hx rfl (hb hby d34_16) rfl ?_
      exact Steps.refl _
    by_cases hc_71 : mm = nn
    · skip
      have C_72 : Steps p.tables e below S0 (T_65.setTop (mkF m 21 #[.val (.ref x), .val (.int (0 : Int32)), .val (.int mm), .val (.int nn), .unset] [(.ref x)])) := by
        refine C_70.trans ?_
        refine XS.icmpNo X_65.here hx rfl (hb hby d34_17) rfl (ii_ne_f hc_71) ?_
        refine XS.aloadN X_65.here hx rfl (hb hby d34_20) rfl rfl ?_
        exact Steps.refl _
      have K_73 : Keep h0 h0 [] := (Keep.refl _ _)
      obtain ⟨fs, hr, hrun, hended, hRE⟩ := X_65.leaveW hS0 (by rw [show T_65.heap = h0 from e_69]; exact (Nat.le_refl _)) (v := some (.ref x)) (fun h => by rw [Bd.returns] at h; cases h)
      refine ⟨_, _, C_72.trans (retOut X_65 hx Bd.returns rfl (Or.inr (Or.inr (Or.inr (Or.inr ⟨rfl, rfl, rfl⟩)))) (hb hby d34_21) hr), hrun, hended, _, _, rfl, ?_, ?_, hRE.1, hRE.2.1, hRE.2.2.1, hRE.2.2.2.mono (by decide) (by decide)⟩
      · show Q_sub Z G1 G3 x nn cs mm h0 n0 (some (.ref x)) T_65.heap _
        rw [e_69]
        exact ⟨x, rfl, N_68, K_73, E_3, (own_Sself hS hc_71 hl1)⟩
      · show CHr Z consts_1 s.vm s.heap T_65.vm T_65.heap
        rw [hh, show T_65.heap = h0 from e_69]
        exact CR0.trans (CHv.at X_65 hZ hEL CH0)
    · skip
      have C_74 : Steps p.tables e below S0 (T_65.setTop (mkF m 25 #[.val (.ref x), .val (.int (0 : Int32)), .val (.int mm), .val (.int nn), .unset] [(.int (mm - (0 : Int32)))])) := by
        refine C_70.trans ?_
        refine XS.icmpYes X_65.here hx rfl (pc0 := 17) (pc' := 22) rfl (hb hby d34_17) rfl (ii_ne_t hc_71) (by decide) (by decide) ?_
        refine XS.iloadN X_65.here hx rfl (hb hby d34_22) rfl ?_
        refine XS.iloadN X_65.here hx rfl (hb hby d34_23) rfl ?_
        refine XS.isub X_65.here hx rfl (hb hby d34_24) rfl ?_
        exact Steps.refl _
      have C_75 : Steps p.tables e below S0 (T_65.setTop (mkF m 25 #[.val (.ref x), .val (.int (0 : Int32)), .val (.int mm), .val (.int nn), .unset] [(.int mm)])) := by have q := C_74; rw [own_sub0] at q; exact q
      obtain ⟨q_77, q_78, q_79, q_80, q_81⟩ := isOf (T := T_65) hZ e_69 E_3
      obtain ⟨_, _, ⟨T_76, L_76, k_76, n_76⟩, -, X_76, ⟨Lc_76, hQ_76, l_76, y_76, z_76⟩, st_76⟩ := X_65.virtualBack hx (y := M255) (z := M255) hown (mvT hZ (w76 hw)) (mvT hZ (w77 hw)) (notFace_of_selects (args := #[]) (mvT hZ (w79 hw))) (mvT hZ (w79 hw)) (mvT hZ (w78 hw)) (by decide) (backOf (W := 0) (rm_islat1 l Z a0 hw [] G1 G3 HG h0 n0 X00 x c_6) hZ (w80 hw) (w5 hw) (by decide) (by decide)) q_79 q_81 (g := (mkF m 28 #[.val (.ref x), .val (.int (0 : Int32)), .val (.int mm), .val (.int nn), .val (.int mm)] [(.ref x)])) rfl (by rw [hml]; rfl) (Steps.refl _) (argsL := []) (rest := []) (lenOf pd_322 rfl) rfl (by show 2 * 0 + _ ≤ _; exact Nat.le_of_eq rfl) (hb hby d34_28) (fun _ _ => ⟨rfl, e_69, (by decide : 0 + 0 ≤ _), (by decide : 0 + 0 ≤ _)⟩)
      dsimp only [Pt.U, Pt.locs, Pt.cells, Pt.slots] at X_76 l_76 y_76 z_76 st_76 hQ_76
      have X_76 := own_cast X_76 l_76 y_76 z_76
      obtain ⟨rfl, N_82, e_83⟩ := hQ_76
      have N_84 := Fr.app N_68 N_82
      have e_85 : T_76.heap = h0 := e_83
      obtain ⟨T_86, X_87, e_88, st_89⟩ := getF X_76 hx hZ hown (host := "") (Or.inl (w30 hw)) Via.refl e_85 F_4 (g := (mkF m 48 #[.val (.ref x), .val (.int (0 : Int32)), .val (.int mm), .val (.int nn), .val (.int mm)] [(.ref x)])) rfl rfl (hb hby d34_48)
      obtain ⟨_, _, ⟨T_90, L_90, k_90, n_90⟩, -, Y_90, S_90, G_90, ⟨Lc_90, hQ_90, l_90, y_90, z_90, R_90⟩, st_90⟩ := callSS X_87 hx (y := M614) hown (mvT hZ (w144 hw)) (mvT hZ (w145 hw)) (mvT hZ (w19 hw)) (mvT hZ (w146 hw)) (by decide) (backOfSH (vm0 := s.vm) (W := 0) (rm_uns l Z a0 hw [] G1 G3 HG h0 n0 X00 t_1 kt_2 nn cs mm a_8 hn0 hl1 hu h8 hm0 (own_lt3 hm1 hc_71)) hZ (w146 hw) (w19 hw) (by decide) (by decide) hEL CH0) (g := (mkF m 54 #[.val (.ref x), .val (.int (0 : Int32)), .val (.int mm), .val (.int nn), .val (.int mm)] [(.int mm), (.int (0 : Int32)), (.ref t_1)])) rfl (by rw [hml]; rfl) (argsL := [(.ref t_1), (.int (0 : Int32)), (.int mm)]) (rest := []) (lenOf pd_681 rfl) rfl (by show 2 * 0 + _ ≤ _; exact Nat.le_of_eq rfl) (hb hby d34_54) (fun _ _ => ⟨rfl, e_88, (by decide : 0 + 3 ≤ _), (by decide : 0 + 28 ≤ _)⟩)
      dsimp only [Pt.U, Pt.locs, Pt.cells, Pt.slots] at Y_90 S_90 G_90 l_90 y_90 z_90 st_90 hQ_90 R_90
      have Y_90 := own_cast Y_90 l_90 y_90 z_90
      obtain ⟨X_90, hS_90, hZ_90, hown_90⟩ := rebS hS0 (n1 := T_86.heap.size) (by rw [show T_86.heap = h0 from e_88]; exact (Nat.le_refl _)) Y_90 S_90 G_90 hZ hown
      obtain ⟨a_91, rfl, N_92, K_93, g_94, g_95⟩ := hQ_90
      have N_96 := Fr.app N_84 N_92
      have CH_97 : CHv Z consts_1 T_90.vm T_90.heap := R_90.1
      have CR_98 : CHr Z consts_1 s.vm h0 T_90.vm T_90.heap := CR0.trans R_90
      have C_99 : Steps p.tables e below S0 (T_90.setTop (mkF m 57 #[.val (.ref x), .val (.int (0 : Int32)), .val (.int mm), .val (.int nn), .val (.int mm)] [(.ref a_91)])) := by
        refine C_75.trans ?_
        refine XS.istore X_65.here hx rfl (hb hby d34_25) rfl (l' := #[.val (.ref x), .val (.int (0 : Int32)), .val (.int mm), .val (.int nn), .val (.int mm)]) rfl ?_
        refine XS.aloadN X_65.here hx rfl (hb hby d34_27) rfl rfl ?_
        refine st_76.trans ?_
        refine XS.ifYes X_76.here hx rfl (pc0 := 31) (pc' := 47) rfl (hb hby d34_31) rfl (by decide) (by decide) (by decide) ?_
        refine XS.aloadN X_76.here hx rfl (hb hby d34_47) rfl rfl ?_
        refine st_89 _ ?_
        refine XS.iloadN X_87.here hx rfl (hb hby d34_51) rfl ?_
        refine XS.iload X_87.here hx rfl (hb hby d34_52) rfl ?_
        show Steps p.tables e below (T_86.setTop (mkF m 54 #[.val (.ref x), .val (.int (0 : Int32)), .val (.int mm), .val (.int nn), .val (.int mm)] [(.int mm), (.int (0 : Int32)), (.ref t_1)])) _
        refine st_90.trans ?_
        exact Steps.refl _
      have K_100 : Keep h0 T_90.heap [] := ((Keep.refl _ _).trans K_93 all0)
      obtain ⟨fs, hr, hrun, hended, hRE⟩ := X_90.leaveW hS_90 (by rw [show T_90.heap = T_90.heap from rfl]; exact (Nat.le_refl _)) (v := some (.ref a_91)) (fun h => by rw [Bd.returns] at h; cases h)
      refine ⟨_, _, C_99.trans (retOut X_90 hx Bd.returns rfl (Or.inr (Or.inr (Or.inr (Or.inr ⟨rfl, rfl, rfl⟩)))) (hb hby d34_57) hr), hrun, hended, _, _, rfl, ?_, ?_, hRE.1, hRE.2.1, hRE.2.2.1, hRE.2.2.2.mono (by decide) (by decide)⟩
      · show Q_sub Z G1 G3 x nn cs mm h0 n0 (some (.ref a_91)) T_90.heap _
        exact ⟨a_91, rfl, N_96, K_100, g_94, g_95⟩
      · show CHr Z consts_1 s.vm s.heap T_90.vm T_90.heap
        rw [hh]
        exact CR_98.trans (CHv.at X_90 hZ_90 hEL CH_97)
abbrev M695 : MethodName := ⟨"java/lang/Record", "<init>", "()V"⟩
theorem pn_696 : plainName "java/lang/Record" = true := by first | (simp [plainName, overriddenIn]; done) | decide +kernel
theorem d35_0 : decode jdk_30_method_1_code 0 = .ok (.aload_n 0, 1) := by decide +kernel
theorem w43 {Z : State} {a0 : Array Value} (hw : ∀ d ∈ tables_1, d.before a0 Z = true) : Jvm.Cond.before (Jvm.Cond.methodLink "java/lang/Record" (1 : Nat) ({ cls := "java/lang/Object", name := "<init>", desc := "()V" } : Jvm.MethodName)) a0 Z = true := hw _ (List.mem_of_getElem? (i := 43) rfl)
theorem d35_1 : decode jdk_30_method_1_code 1 = .ok (.invokespecial 1, 3) := by decide +kernel
theorem d35_4 : decode jdk_30_method_1_code 4 = .ok (.return_, 1) := by decide +kernel
abbrev R_rec : Room := { frames := 1, cells := 0, slots := 0, locals := 12 }
def Q_rec (Z : State) (G1 : Int32) (G3 : Value) (d : Addr) (h0 : Heap) (n0 : Nat) (v : Option Value) (h : Heap) (L : List Loc) : Prop := (v = none ∧ Fr n0 L ∧ h = h0)
set_option maxRecDepth 65536 in
set_option maxHeartbeats 40000000 in
theorem rm_rec (l : Launch) (Z : State) (a0 : Array Value) (hw : ∀ d ∈ tables_1, d.before a0 Z = true) (ws : List Jvm.Cond) (G1 : Int32) (G3 : Value) (HG : own_G l Z a0 G1 G3) (h0 : Heap) (n0 : Nat) (X00 : Old Z n0 h0) (d : Addr)  :
    own_CP l Z M695 jdk_30_method_1_code 1 none ws R_rec #[(.ref d)] h0 (Q_rec Z G1 G3 d h0 n0) := by
  refine own_P (plainFor_of_name pn_696) ?_
  intro p e s m below meth c s₁ S0 Bd hZ hh hx hby hml hown hnm X0 e0 hS0d
  obtain ⟨O1, P1, O3f, rG3, OAD, OHI, OLO⟩ := id HG
  have N0 := Fr.nil n0
  have C0 : Steps p.tables e below S0 (s₁.setTop (mkF m 0 #[.val (.ref d)] [])) := by rw [hS0d]; exact castTop (ef_248 m d) (Steps.refl _)
  obtain ⟨T_1, X_2, e_3, st_4⟩ := initO X0 hx hZ hown (w43 hw) (w14 hw) (w15 hw) e0 (g := (mkF m 1 #[.val (.ref d)] [(.ref d)])) rfl (by rw [hml]; rfl) rfl (hb hby d35_1) (by decide) (W := 0) (by show 2 * 0 + _ ≤ _; exact Nat.le_of_eq rfl) (by decide)
  have C_5 : Steps p.tables e below S0 (T_1.setTop (mkF m 4 #[.val (.ref d)] [])) := by
    refine C0.trans ?_
    refine XS.aloadN X0.here hx rfl (hb hby d35_0) rfl rfl ?_
    refine st_4 _ ?_
    exact Steps.refl _
  obtain ⟨fs, hr, hrun, hended, hW, hsame⟩ := X_2.leave (v := none) (fun _ => rfl)
  refine ⟨_, _, C_5.trans (X_2.returnOut hx Bd.returns (hb hby d35_4) hr), hrun, hended, _, _, rfl, ?_, ⟨_, rfl⟩, hW, hsame.mono (by decide) (by decide)⟩
  show Q_rec Z G1 G3 d h0 n0 (none) T_1.heap _
  rw [e_3]
  exact ⟨rfl, N0, rfl⟩
abbrev M701 : MethodName := ⟨"com/example/kartoteka/kartoteka/Headings$Displayed", "<init>", "(Ljava/lang/String;I)V"⟩
theorem pn_702 : plainName "com/example/kartoteka/kartoteka/Headings$Displayed" = true := by first | (simp [plainName, overriddenIn]; done) | decide +kernel
theorem d36_0 : decode prog_14_method_1_code 0 = .ok (.aload_n 0, 1) := by decide +kernel
theorem w42 {Z : State} {a0 : Array Value} (hw : ∀ d ∈ tables_1, d.before a0 Z = true) : Jvm.Cond.before (Jvm.Cond.code ({ cls := "java/lang/Record", name := "<init>", desc := "()V" } : Jvm.MethodName) jdk_30_method_1_code (1 : Nat) (Option.none : Option Jvm.ClassFile.FieldType)) a0 Z = true := hw _ (List.mem_of_getElem? (i := 42) rfl)
theorem w41 {Z : State} {a0 : Array Value} (hw : ∀ d ∈ tables_1, d.before a0 Z = true) : Jvm.Cond.before (Jvm.Cond.initialized "java/lang/Record") a0 Z = true := hw _ (List.mem_of_getElem? (i := 41) rfl)
theorem pd_706 : parseMethodDescriptor "()V" = some ⟨[], none⟩ := by decide +kernel
theorem d36_1 : decode prog_14_method_1_code 1 = .ok (.invokespecial 1, 3) := by decide +kernel
theorem w38 {Z : State} {a0 : Array Value} (hw : ∀ d ∈ tables_1, d.before a0 Z = true) : Jvm.Cond.before (Jvm.Cond.methodLink "com/example/kartoteka/kartoteka/Headings$Displayed" (1 : Nat) ({ cls := "java/lang/Record", name := "<init>", desc := "()V" } : Jvm.MethodName)) a0 Z = true := hw _ (List.mem_of_getElem? (i := 38) rfl)
theorem w39 {Z : State} {a0 : Array Value} (hw : ∀ d ∈ tables_1, d.before a0 Z = true) : Jvm.Cond.before (Jvm.Cond.instanceMethod ({ cls := "java/lang/Record", name := "<init>", desc := "()V" } : Jvm.MethodName)) a0 Z = true := hw _ (List.mem_of_getElem? (i := 39) rfl)
theorem d36_4 : decode prog_14_method_1_code 4 = .ok (.aload_n 0, 1) := by decide +kernel
theorem d36_5 : decode prog_14_method_1_code 5 = .ok (.aload_n 1, 1) := by decide +kernel
theorem w44 {Z : State} {a0 : Array Value} (hw : ∀ d ∈ tables_1, d.before a0 Z = true) : Jvm.Cond.before (Jvm.Cond.fieldLink "com/example/kartoteka/kartoteka/Headings$Displayed" (7 : Nat) "com/example/kartoteka/kartoteka/Headings$Displayed" "text" "Ljava/lang/String;") a0 Z = true := hw _ (List.mem_of_getElem? (i := 44) rfl)
theorem w45 {Z : State} {a0 : Array Value} (hw : ∀ d ∈ tables_1, d.before a0 Z = true) : Jvm.Cond.before (Jvm.Cond.laysFinal "com/example/kartoteka/kartoteka/Headings$Displayed" "com/example/kartoteka/kartoteka/Headings$Displayed" "text" "Ljava/lang/String;") a0 Z = true := hw _ (List.mem_of_getElem? (i := 45) rfl)
theorem w33 {Z : State} {a0 : Array Value} (hw : ∀ d ∈ tables_1, d.before a0 Z = true) : Jvm.Cond.before (Jvm.Cond.instantiable "com/example/kartoteka/kartoteka/Headings$Displayed" (2 : Nat)) a0 Z = true := hw _ (List.mem_of_getElem? (i := 33) rfl)
theorem d36_6 : decode prog_14_method_1_code 6 = .ok (.putfield 7, 3) := by decide +kernel
theorem d36_9 : decode prog_14_method_1_code 9 = .ok (.aload_n 0, 1) := by decide +kernel
theorem d36_10 : decode prog_14_method_1_code 10 = .ok (.iload_n 2, 1) := by decide +kernel
theorem w46 {Z : State} {a0 : Array Value} (hw : ∀ d ∈ tables_1, d.before a0 Z = true) : Jvm.Cond.before (Jvm.Cond.fieldLink "com/example/kartoteka/kartoteka/Headings$Displayed" (13 : Nat) "com/example/kartoteka/kartoteka/Headings$Displayed" "mainPartLength" "I") a0 Z = true := hw _ (List.mem_of_getElem? (i := 46) rfl)
theorem w47 {Z : State} {a0 : Array Value} (hw : ∀ d ∈ tables_1, d.before a0 Z = true) : Jvm.Cond.before (Jvm.Cond.laysFinal "com/example/kartoteka/kartoteka/Headings$Displayed" "com/example/kartoteka/kartoteka/Headings$Displayed" "mainPartLength" "I") a0 Z = true := hw _ (List.mem_of_getElem? (i := 47) rfl)
theorem d36_11 : decode prog_14_method_1_code 11 = .ok (.putfield 13, 3) := by decide +kernel
theorem d36_14 : decode prog_14_method_1_code 14 = .ok (.return_, 1) := by decide +kernel
abbrev R_dii : Room := { frames := 2, cells := 0, slots := 0, locals := 24 }
def Q_dii (Z : State) (G1 : Int32) (G3 : Value) (d : Addr) (x : Addr) (mm : Int32) (h0 : Heap) (n0 : Nat) (v : Option Value) (h : Heap) (L : List Loc) : Prop := (v = none ∧ Fr n0 L ∧ Keep h0 h [d] ∧ (Exa Z h d "com/example/kartoteka/kartoteka/Headings$Displayed") ∧ (Fld Z h d "com/example/kartoteka/kartoteka/Headings$Displayed" "text" "Ljava/lang/String;" (.ref x)) ∧ (Fld Z h d "com/example/kartoteka/kartoteka/Headings$Displayed" "mainPartLength" "I" (.int mm)))
set_option maxRecDepth 65536 in
set_option maxHeartbeats 40000000 in
theorem rm_dii (l : Launch) (Z : State) (a0 : Array Value) (hw : ∀ d ∈ tables_1, d.before a0 Z = true) (ws : List Jvm.Cond) (G1 : Int32) (G3 : Value) (HG : own_G l Z a0 G1 G3) (h0 : Heap) (n0 : Nat) (X00 : Old Z n0 h0) (d : Addr) (x : Addr) (mm : Int32) (hp0 : Exa Z h0 d "com/example/kartoteka/kartoteka/Headings$Displayed") (hp1 : Fld Z h0 d "com/example/kartoteka/kartoteka/Headings$Displayed" "text" "Ljava/lang/String;" .null) (hp2 : Fld Z h0 d "com/example/kartoteka/kartoteka/Headings$Displayed" "mainPartLength" "I" (.int (0 : Int32))) (hp3 : n0 ≤ d) :
    own_CP l Z M701 prog_14_method_1_code 3 none ws R_dii #[(.ref d), (.ref x), (.int mm)] h0 (Q_dii Z G1 G3 d x mm h0 n0) := by
  refine own_P (plainFor_of_name pn_702) ?_
  intro p e s m below meth c s₁ S0 Bd hZ hh hx hby hml hown hnm X0 e0 hS0d
  obtain ⟨O1, P1, O3f, rG3, OAD, OHI, OLO⟩ := id HG
  have N0 := Fr.nil n0
  have C0 : Steps p.tables e below S0 (s₁.setTop (mkF m 0 #[.val (.ref d), .val (.ref x), .val (.int mm)] [])) := by rw [hS0d]; exact castTop (ef_411 m d x mm) (Steps.refl _)
  obtain ⟨_, _, ⟨T_1, L_1, k_1, n_1⟩, -, X_1, ⟨Lc_1, hQ_1, l_1, y_1, z_1⟩, st_1⟩ := X0.specialBack hx (y := M695) rfl hown (mvT hZ (w38 hw)) (mvT hZ (w39 hw)) (mvT hZ (w42 hw)) (by decide) (backOf (W := 0) (rm_rec l Z a0 hw [] G1 G3 HG h0 n0 X00 d ) hZ (w42 hw) (w41 hw) (by decide) (by decide)) (g := (mkF m 1 #[.val (.ref d), .val (.ref x), .val (.int mm)] [(.ref d)])) rfl (by rw [hml]; rfl) (Steps.refl _) (a := d) (argsL := []) (rest := []) (lenOf pd_706 rfl) rfl (by show 2 * 0 + _ ≤ _; exact Nat.le_of_eq rfl) (hb hby d36_1) (fun _ _ => ⟨rfl, e0, (by decide : 0 + 0 ≤ _), (by decide : 0 + 0 ≤ _)⟩)
  dsimp only [Pt.U, Pt.locs, Pt.cells, Pt.slots] at X_1 l_1 y_1 z_1 st_1 hQ_1
  have X_1 := own_cast X_1 l_1 y_1 z_1
  obtain ⟨rfl, N_2, e_3⟩ := hQ_1
  have N_4 := Fr.app N0 N_2
  have e_5 : T_1.heap = h0 := e_3
  obtain ⟨T_6, h_7, X_8, e_9, W_10, st_11⟩ := putF X_1 hx hZ hown (host := "") (Or.inl (w44 hw)) Via.refl e_5 hp1 hp0 (Or.inr ⟨(w45 hw), rfl, hnm⟩) (w33 hw) (ty := (.object "java/lang/String")) (by decide) rfl rfl (g := (mkF m 6 #[.val (.ref d), .val (.ref x), .val (.int mm)] [(.ref x), (.ref d)])) rfl rfl (hb hby d36_6)
  have N_12 := Fr.snoc X_8 N_4 hp3
  have F_13 : Fld Z h_7 d "com/example/kartoteka/kartoteka/Headings$Displayed" "text" "Ljava/lang/String;" (.ref x) := hp1.same W_10
  have F_14 : Fld Z h_7 d "com/example/kartoteka/kartoteka/Headings$Displayed" "mainPartLength" "I" (.int (0 : Int32)) := (hp2.other W_10 (Or.inr (slot_ne (Or.inr (w47 hw)) (Or.inr (w45 hw)) (by decide) (t := .int) (by decide) (t' := (.object "java/lang/String")) (by decide))))
  have E_15 : Exa Z h_7 d "com/example/kartoteka/kartoteka/Headings$Displayed" := (hp0.wr W_10)
  obtain ⟨T_16, h_17, X_18, e_19, W_20, st_21⟩ := putF X_8 hx hZ hown (host := "") (Or.inl (w46 hw)) Via.refl e_9 F_14 E_15 (Or.inr ⟨(w47 hw), rfl, hnm⟩) (w33 hw) (ty := .int) (by decide) rfl rfl (g := (mkF m 11 #[.val (.ref d), .val (.ref x), .val (.int mm)] [(.int mm), (.ref d)])) rfl rfl (hb hby d36_11)
  have N_22 := Fr.snoc X_18 N_12 hp3
  have F_23 : Fld Z h_17 d "com/example/kartoteka/kartoteka/Headings$Displayed" "mainPartLength" "I" (.int mm) := F_14.same W_20
  have C_24 : Steps p.tables e below S0 (T_16.setTop (mkF m 14 #[.val (.ref d), .val (.ref x), .val (.int mm)] [])) := by
    refine C0.trans ?_
    refine XS.aloadN X0.here hx rfl (hb hby d36_0) rfl rfl ?_
    refine st_1.trans ?_
    refine XS.aloadN X_1.here hx rfl (hb hby d36_4) rfl rfl ?_
    refine XS.aloadN X_1.here hx rfl (hb hby d36_5) rfl rfl ?_
    refine st_11 _ ?_
    refine XS.aloadN X_8.here hx rfl (hb hby d36_9) rfl rfl ?_
    refine XS.iloadN X_8.here hx rfl (hb hby d36_10) rfl ?_
    refine st_21 _ ?_
    show Steps p.tables e below (T_16.setTop (mkF m 14 #[.val (.ref d), .val (.ref x), .val (.int mm)] [])) _
    exact Steps.refl _
  have E_25 : Exa Z h_17 d "com/example/kartoteka/kartoteka/Headings$Displayed" := (E_15.wr W_20)
  have F_26 : Fld Z h_17 d "com/example/kartoteka/kartoteka/Headings$Displayed" "text" "Ljava/lang/String;" (.ref x) := (F_13.other W_20 (Or.inr (slot_ne (Or.inr (w45 hw)) (Or.inr (w47 hw)) (by decide) (t := (.object "java/lang/String")) (by decide) (t' := .int) (by decide))))
  have K_27 : Keep h0 h_17 [d] := (((Keep.refl _ _).wr W_10 (Or.inl (List.mem_of_getElem? (i := 0) rfl))).wr W_20 (Or.inl (List.mem_of_getElem? (i := 0) rfl)))
  obtain ⟨fs, hr, hrun, hended, hW, hsame⟩ := X_18.leave (v := none) (fun _ => rfl)
  refine ⟨_, _, C_24.trans (X_18.returnOut hx Bd.returns (hb hby d36_14) hr), hrun, hended, _, _, rfl, ?_, ⟨_, rfl⟩, hW, hsame.mono (by decide) (by decide)⟩
  show Q_dii Z G1 G3 d x mm h0 n0 (none) T_16.heap _
  rw [e_19]
  exact ⟨rfl, N_22, K_27, E_25, F_26, F_23⟩
abbrev M722 : MethodName := ⟨"com/example/kartoteka/kartoteka/Headings$Displayed", "mainPart", "()Ljava/lang/String;"⟩
theorem d37_0 : decode prog_14_method_2_code 0 = .ok (.aload_n 0, 1) := by decide +kernel
theorem d37_1 : decode prog_14_method_2_code 1 = .ok (.getfield 7, 3) := by decide +kernel
theorem d37_4 : decode prog_14_method_2_code 4 = .ok (.iconst 0, 1) := by decide +kernel
theorem d37_5 : decode prog_14_method_2_code 5 = .ok (.aload_n 0, 1) := by decide +kernel
theorem d37_6 : decode prog_14_method_2_code 6 = .ok (.getfield 13, 3) := by decide +kernel
theorem w57 {Z : State} {a0 : Array Value} (hw : ∀ d ∈ tables_1, d.before a0 Z = true) : Jvm.Cond.before (Jvm.Cond.code ({ cls := "java/lang/String", name := "substring", desc := "(II)Ljava/lang/String;" } : Jvm.MethodName) jdk_42_method_92_code (5 : Nat) (Option.some (Jvm.ClassFile.FieldType.object "java/lang/String"))) a0 Z = true := hw _ (List.mem_of_getElem? (i := 57) rfl)
theorem pd_729 : parseMethodDescriptor "(II)Ljava/lang/String;" = some ⟨[.int, .int], some (.object "java/lang/String")⟩ := by decide +kernel
theorem d37_9 : decode prog_14_method_2_code 9 = .ok (.invokevirtual 17, 3) := by decide +kernel
theorem w53 {Z : State} {a0 : Array Value} (hw : ∀ d ∈ tables_1, d.before a0 Z = true) : Jvm.Cond.before (Jvm.Cond.methodLink "com/example/kartoteka/kartoteka/Headings$Displayed" (17 : Nat) ({ cls := "java/lang/String", name := "substring", desc := "(II)Ljava/lang/String;" } : Jvm.MethodName)) a0 Z = true := hw _ (List.mem_of_getElem? (i := 53) rfl)
theorem w56 {Z : State} {a0 : Array Value} (hw : ∀ d ∈ tables_1, d.before a0 Z = true) : Jvm.Cond.before (Jvm.Cond.selects "java/lang/String" ({ cls := "java/lang/String", name := "substring", desc := "(II)Ljava/lang/String;" } : Jvm.MethodName) ({ cls := "java/lang/String", name := "substring", desc := "(II)Ljava/lang/String;" } : Jvm.MethodName)) a0 Z = true := hw _ (List.mem_of_getElem? (i := 56) rfl)
theorem w55 {Z : State} {a0 : Array Value} (hw : ∀ d ∈ tables_1, d.before a0 Z = true) : Jvm.Cond.before (Jvm.Cond.instanceMethod ({ cls := "java/lang/String", name := "substring", desc := "(II)Ljava/lang/String;" } : Jvm.MethodName)) a0 Z = true := hw _ (List.mem_of_getElem? (i := 55) rfl)
theorem w54 {Z : State} {a0 : Array Value} (hw : ∀ d ∈ tables_1, d.before a0 Z = true) : Jvm.Cond.before (Jvm.Cond.declares ({ cls := "java/lang/String", name := "substring", desc := "(II)Ljava/lang/String;" } : Jvm.MethodName)) a0 Z = true := hw _ (List.mem_of_getElem? (i := 54) rfl)
theorem d37_12 : decode prog_14_method_2_code 12 = .ok (.areturn, 1) := by decide +kernel
abbrev R_mp : Room := { frames := 7, cells := 3, slots := 28, locals := 110 }
def Q_mp (Z : State) (G1 : Int32) (G3 : Value) (d : Addr) (x : Addr) (nn : Int32) (cs : List Int32) (mm : Int32) (h0 : Heap) (n0 : Nat) (v : Option Value) (h : Heap) (L : List Loc) : Prop := (∃ r : Addr, v = some (.ref r) ∧ Fr n0 L ∧ Keep h0 h [] ∧ (Exa Z h r "java/lang/String") ∧ (own_S Z h r mm (cs.take mm.toNatClampNeg)))
set_option maxRecDepth 65536 in
set_option maxHeartbeats 40000000 in
theorem rm_mp (l : Launch) (Z : State) (a0 : Array Value) (hw : ∀ d ∈ tables_1, d.before a0 Z = true) (ws : List Jvm.Cond) (G1 : Int32) (G3 : Value) (HG : own_G l Z a0 G1 G3) (h0 : Heap) (n0 : Nat) (X00 : Old Z n0 h0) (d : Addr) (x : Addr) (nn : Int32) (cs : List Int32) (mm : Int32) (hp0 : Exa Z h0 d "com/example/kartoteka/kartoteka/Headings$Displayed") (hp1 : Fld Z h0 d "com/example/kartoteka/kartoteka/Headings$Displayed" "text" "Ljava/lang/String;" (.ref x)) (hp2 : Fld Z h0 d "com/example/kartoteka/kartoteka/Headings$Displayed" "mainPartLength" "I" (.int mm)) (hp3 : Exa Z h0 x "java/lang/String") (hS : own_S Z h0 x nn cs) (hn0 : ¬ (nn < (0 : Int32))) (hl1 : cs.length = nn.toNatClampNeg) (hu : own_u16 cs) (h8 : nn.toNatClampNeg ≤ 8) (hm0 : ¬ (mm < (0 : Int32))) (hm1 : ¬ (nn < mm)) :
    own_CH l Z M722 prog_14_method_2_code 1 (some (.object "java/lang/String")) ws R_mp #[(.ref d)] h0 (Q_mp Z G1 G3 d x nn cs mm h0 n0) := by
  refine own_H (plainFor_of_name pn_702) ?_
  intro p e s m below meth c s₁ S0 Bd hZ hh CH0 hS0 CR0 hx hby hml hown hnm X0 e0 hS0d
  obtain ⟨O1, P1, O3f, rG3, OAD, OHI, OLO⟩ := id HG
  have hEL := own_EL hw
  have hSA := own_SA hw
  have N0 := Fr.nil n0
  have C0 : Steps p.tables e below S0 (s₁.setTop (mkF m 0 #[.val (.ref d)] [])) := by rw [hS0d]; exact castTop (ef_248 m d) (Steps.refl _)
  obtain ⟨T_1, X_2, e_3, st_4⟩ := getF X0 hx hZ hown (host := "") (Or.inl (w44 hw)) Via.refl e0 hp1 (g := (mkF m 1 #[.val (.ref d)] [(.ref d)])) rfl rfl (hb hby d37_1)
  obtain ⟨T_5, X_6, e_7, st_8⟩ := getF X_2 hx hZ hown (host := "") (Or.inl (w46 hw)) Via.refl e_3 hp2 (g := (mkF m 6 #[.val (.ref d)] [(.ref d), (.int (0 : Int32)), (.ref x)])) rfl rfl (hb hby d37_6)
  obtain ⟨q_10, q_11, q_12, q_13, q_14⟩ := isOf (T := T_5) hZ e_7 hp3
  obtain ⟨_, _, ⟨T_9, L_9, k_9, n_9⟩, -, Y_9, S_9, G_9, ⟨Lc_9, hQ_9, l_9, y_9, z_9, R_9⟩, st_9⟩ := X_6.virtualBackS hx (y := M644) (z := M644) hown (mvT hZ (w53 hw)) (mvT hZ (w54 hw)) (notFace_of_selects (args := #[]) (mvT hZ (w56 hw))) (mvT hZ (w56 hw)) (mvT hZ (w55 hw)) (by decide) (backOfSH (vm0 := s.vm) (W := 0) (rm_sub l Z a0 hw [] G1 G3 HG h0 n0 X00 x nn cs mm hS hn0 hl1 hu h8 hm0 hm1) hZ (w57 hw) (w5 hw) (by decide) (by decide) hEL CH0) q_12 q_14 (g := (mkF m 9 #[.val (.ref d)] [(.int mm), (.int (0 : Int32)), (.ref x)])) rfl (by rw [hml]; rfl) (Steps.refl _) (argsL := [(.int (0 : Int32)), (.int mm)]) (rest := []) (lenOf pd_729 rfl) rfl (by show 2 * 0 + _ ≤ _; exact Nat.le_of_eq rfl) (hb hby d37_9) (fun _ _ => ⟨rfl, e_7, (by decide : 0 + 3 ≤ _), (by decide : 0 + 28 ≤ _)⟩)
  dsimp only [Pt.U, Pt.locs, Pt.cells, Pt.slots] at Y_9 S_9 G_9 l_9 y_9 z_9 st_9 hQ_9 R_9
  have Y_9 := own_cast Y_9 l_9 y_9 z_9
  obtain ⟨X_9, hS_9, hZ_9, hown_9⟩ := rebS hS0 (n1 := T_5.heap.size) (by rw [show T_5.heap = h0 from e_7]; exact (Nat.le_refl _)) Y_9 S_9 G_9 hZ hown
  obtain ⟨a_15, rfl, N_16, K_17, g_18, g_19⟩ := hQ_9
  have N_20 := Fr.app N0 N_16
  have CH_21 : CHv Z consts_1 T_9.vm T_9.heap := R_9.1
  have CR_22 : CHr Z consts_1 s.vm h0 T_9.vm T_9.heap := CR0.trans R_9
  have C_23 : Steps p.tables e below S0 (T_9.setTop (mkF m 12 #[.val (.ref d)] [(.ref a_15)])) := by
    refine C0.trans ?_
    refine XS.aloadN X0.here hx rfl (hb hby d37_0) rfl rfl ?_
    refine st_4 _ ?_
    refine XS.iconst X_2.here hx rfl (hb hby d37_4) ?_
    refine XS.aloadN X_2.here hx rfl (hb hby d37_5) rfl rfl ?_
    refine st_8 _ ?_
    refine st_9.trans ?_
    exact Steps.refl _
  have K_24 : Keep h0 T_9.heap [] := ((Keep.refl _ _).trans K_17 all0)
  obtain ⟨fs, hr, hrun, hended, hRE⟩ := X_9.leaveW hS_9 (by rw [show T_9.heap = T_9.heap from rfl]; exact (Nat.le_refl _)) (v := some (.ref a_15)) (fun h => by rw [Bd.returns] at h; cases h)
  refine ⟨_, _, C_23.trans (retOut X_9 hx Bd.returns rfl (Or.inr (Or.inr (Or.inr (Or.inr ⟨rfl, rfl, rfl⟩)))) (hb hby d37_12) hr), hrun, hended, _, _, rfl, ?_, ?_, hRE.1, hRE.2.1, hRE.2.2.1, hRE.2.2.2.mono (by decide) (by decide)⟩
  · show Q_mp Z G1 G3 d x nn cs mm h0 n0 (some (.ref a_15)) T_9.heap _
    exact ⟨a_15, rfl, N_20, K_24, g_18, g_19⟩
  · show CHr Z consts_1 s.vm s.heap T_9.vm T_9.heap
    rw [hh]
    exact CR_22.trans (CHv.at X_9 hZ_9 hEL CH_21)
theorem ef_736 (m : MethodId) (x0 : Int32) (x1 : Int32) (x2 : Int32) (x3 : Int32) : entryFrame m #[(.int x0), (.int x1), (.int x2), (.int x3)] maxLocals = mkF m 0 #[.val (.int x0), .val (.int x1), .val (.int x2), .val (.int x3), .unset, .unset, .unset, .unset, .unset, .unset, .unset, .unset, .unset, .unset, .unset, .unset, .unset] [] := by first | (simp [entryFrame, mkF, argsToLocals, Value.category, maxLocals]; done) | rfl
theorem pn_737 : plainName "com/example/kartoteka/kartoteka/DisplayedMainPartPinLaw" = true := by first | (simp [plainName, overriddenIn]; done) | decide +kernel
theorem w0 {Z : State} {a0 : Array Value} (hw : ∀ d ∈ tables_1, d.before a0 Z = true) : Jvm.Cond.before (Jvm.Cond.constant "com/example/kartoteka/kartoteka/DisplayedMainPartPinLaw" (7 : Nat) (65535 : Int32)) a0 Z = true := hw _ (List.mem_of_getElem? (i := 0) rfl)
theorem w1 {Z : State} {a0 : Array Value} (hw : ∀ d ∈ tables_1, d.before a0 Z = true) : Jvm.Cond.before (Jvm.Cond.constant "com/example/kartoteka/kartoteka/DisplayedMainPartPinLaw" (8 : Nat) (2147483647 : Int32)) a0 Z = true := hw _ (List.mem_of_getElem? (i := 1) rfl)
theorem w2 {Z : State} {a0 : Array Value} (hw : ∀ d ∈ tables_1, d.before a0 Z = true) : Jvm.Cond.before (Jvm.Cond.arrayClass Jvm.ClassFile.FieldType.char) a0 Z = true := hw _ (List.mem_of_getElem? (i := 2) rfl)
theorem w3 {Z : State} {a0 : Array Value} (hw : ∀ d ∈ tables_1, d.before a0 Z = true) : Jvm.Cond.before (Jvm.Cond.classLink "com/example/kartoteka/kartoteka/DisplayedMainPartPinLaw" (9 : Nat) "java/lang/String") a0 Z = true := hw _ (List.mem_of_getElem? (i := 3) rfl)
theorem w8 {Z : State} {a0 : Array Value} (hw : ∀ d ∈ tables_1, d.before a0 Z = true) : Jvm.Cond.before (Jvm.Cond.code ({ cls := "java/lang/String", name := "<init>", desc := "([C)V" } : Jvm.MethodName) jdk_42_method_3_code (2 : Nat) (Option.none : Option Jvm.ClassFile.FieldType)) a0 Z = true := hw _ (List.mem_of_getElem? (i := 8) rfl)
theorem pd_743 : parseMethodDescriptor "([C)V" = some ⟨[(.array .char)], none⟩ := by decide +kernel
theorem w6 {Z : State} {a0 : Array Value} (hw : ∀ d ∈ tables_1, d.before a0 Z = true) : Jvm.Cond.before (Jvm.Cond.methodLink "com/example/kartoteka/kartoteka/DisplayedMainPartPinLaw" (11 : Nat) ({ cls := "java/lang/String", name := "<init>", desc := "([C)V" } : Jvm.MethodName)) a0 Z = true := hw _ (List.mem_of_getElem? (i := 6) rfl)
theorem w7 {Z : State} {a0 : Array Value} (hw : ∀ d ∈ tables_1, d.before a0 Z = true) : Jvm.Cond.before (Jvm.Cond.instanceMethod ({ cls := "java/lang/String", name := "<init>", desc := "([C)V" } : Jvm.MethodName)) a0 Z = true := hw _ (List.mem_of_getElem? (i := 7) rfl)
theorem w32 {Z : State} {a0 : Array Value} (hw : ∀ d ∈ tables_1, d.before a0 Z = true) : Jvm.Cond.before (Jvm.Cond.classLink "com/example/kartoteka/kartoteka/DisplayedMainPartPinLaw" (14 : Nat) "com/example/kartoteka/kartoteka/Headings$Displayed") a0 Z = true := hw _ (List.mem_of_getElem? (i := 32) rfl)
theorem w34 {Z : State} {a0 : Array Value} (hw : ∀ d ∈ tables_1, d.before a0 Z = true) : Jvm.Cond.before (Jvm.Cond.initialized "com/example/kartoteka/kartoteka/Headings$Displayed") a0 Z = true := hw _ (List.mem_of_getElem? (i := 34) rfl)
theorem w37 {Z : State} {a0 : Array Value} (hw : ∀ d ∈ tables_1, d.before a0 Z = true) : Jvm.Cond.before (Jvm.Cond.code ({ cls := "com/example/kartoteka/kartoteka/Headings$Displayed", name := "<init>", desc := "(Ljava/lang/String;I)V" } : Jvm.MethodName) prog_14_method_1_code (3 : Nat) (Option.none : Option Jvm.ClassFile.FieldType)) a0 Z = true := hw _ (List.mem_of_getElem? (i := 37) rfl)
theorem pd_749 : parseMethodDescriptor "(Ljava/lang/String;I)V" = some ⟨[(.object "java/lang/String"), .int], none⟩ := by decide +kernel
theorem w35 {Z : State} {a0 : Array Value} (hw : ∀ d ∈ tables_1, d.before a0 Z = true) : Jvm.Cond.before (Jvm.Cond.methodLink "com/example/kartoteka/kartoteka/DisplayedMainPartPinLaw" (16 : Nat) ({ cls := "com/example/kartoteka/kartoteka/Headings$Displayed", name := "<init>", desc := "(Ljava/lang/String;I)V" } : Jvm.MethodName)) a0 Z = true := hw _ (List.mem_of_getElem? (i := 35) rfl)
theorem w36 {Z : State} {a0 : Array Value} (hw : ∀ d ∈ tables_1, d.before a0 Z = true) : Jvm.Cond.before (Jvm.Cond.instanceMethod ({ cls := "com/example/kartoteka/kartoteka/Headings$Displayed", name := "<init>", desc := "(Ljava/lang/String;I)V" } : Jvm.MethodName)) a0 Z = true := hw _ (List.mem_of_getElem? (i := 36) rfl)
theorem w52 {Z : State} {a0 : Array Value} (hw : ∀ d ∈ tables_1, d.before a0 Z = true) : Jvm.Cond.before (Jvm.Cond.code ({ cls := "com/example/kartoteka/kartoteka/Headings$Displayed", name := "mainPart", desc := "()Ljava/lang/String;" } : Jvm.MethodName) prog_14_method_2_code (1 : Nat) (Option.some (Jvm.ClassFile.FieldType.object "java/lang/String"))) a0 Z = true := hw _ (List.mem_of_getElem? (i := 52) rfl)
theorem pd_753 : parseMethodDescriptor "()Ljava/lang/String;" = some ⟨[], some (.object "java/lang/String")⟩ := by decide +kernel
theorem w48 {Z : State} {a0 : Array Value} (hw : ∀ d ∈ tables_1, d.before a0 Z = true) : Jvm.Cond.before (Jvm.Cond.methodLink "com/example/kartoteka/kartoteka/DisplayedMainPartPinLaw" (19 : Nat) ({ cls := "com/example/kartoteka/kartoteka/Headings$Displayed", name := "mainPart", desc := "()Ljava/lang/String;" } : Jvm.MethodName)) a0 Z = true := hw _ (List.mem_of_getElem? (i := 48) rfl)
theorem w51 {Z : State} {a0 : Array Value} (hw : ∀ d ∈ tables_1, d.before a0 Z = true) : Jvm.Cond.before (Jvm.Cond.selects "com/example/kartoteka/kartoteka/Headings$Displayed" ({ cls := "com/example/kartoteka/kartoteka/Headings$Displayed", name := "mainPart", desc := "()Ljava/lang/String;" } : Jvm.MethodName) ({ cls := "com/example/kartoteka/kartoteka/Headings$Displayed", name := "mainPart", desc := "()Ljava/lang/String;" } : Jvm.MethodName)) a0 Z = true := hw _ (List.mem_of_getElem? (i := 51) rfl)
theorem w50 {Z : State} {a0 : Array Value} (hw : ∀ d ∈ tables_1, d.before a0 Z = true) : Jvm.Cond.before (Jvm.Cond.instanceMethod ({ cls := "com/example/kartoteka/kartoteka/Headings$Displayed", name := "mainPart", desc := "()Ljava/lang/String;" } : Jvm.MethodName)) a0 Z = true := hw _ (List.mem_of_getElem? (i := 50) rfl)
theorem w49 {Z : State} {a0 : Array Value} (hw : ∀ d ∈ tables_1, d.before a0 Z = true) : Jvm.Cond.before (Jvm.Cond.declares ({ cls := "com/example/kartoteka/kartoteka/Headings$Displayed", name := "mainPart", desc := "()Ljava/lang/String;" } : Jvm.MethodName)) a0 Z = true := hw _ (List.mem_of_getElem? (i := 49) rfl)
theorem w107 {Z : State} {a0 : Array Value} (hw : ∀ d ∈ tables_1, d.before a0 Z = true) : Jvm.Cond.before (Jvm.Cond.methodLink "com/example/kartoteka/kartoteka/DisplayedMainPartPinLaw" (23 : Nat) ({ cls := "java/lang/String", name := "length", desc := "()I" } : Jvm.MethodName)) a0 Z = true := hw _ (List.mem_of_getElem? (i := 107) rfl)
theorem w112 {Z : State} {a0 : Array Value} (hw : ∀ d ∈ tables_1, d.before a0 Z = true) : Jvm.Cond.before (Jvm.Cond.code ({ cls := "java/lang/String", name := "charAt", desc := "(I)C" } : Jvm.MethodName) jdk_42_method_56_code (2 : Nat) (Option.some Jvm.ClassFile.FieldType.char)) a0 Z = true := hw _ (List.mem_of_getElem? (i := 112) rfl)
theorem pd_760 : parseMethodDescriptor "(I)C" = some ⟨[.int], some .char⟩ := by decide +kernel
theorem w108 {Z : State} {a0 : Array Value} (hw : ∀ d ∈ tables_1, d.before a0 Z = true) : Jvm.Cond.before (Jvm.Cond.methodLink "com/example/kartoteka/kartoteka/DisplayedMainPartPinLaw" (27 : Nat) ({ cls := "java/lang/String", name := "charAt", desc := "(I)C" } : Jvm.MethodName)) a0 Z = true := hw _ (List.mem_of_getElem? (i := 108) rfl)
theorem w111 {Z : State} {a0 : Array Value} (hw : ∀ d ∈ tables_1, d.before a0 Z = true) : Jvm.Cond.before (Jvm.Cond.selects "java/lang/String" ({ cls := "java/lang/String", name := "charAt", desc := "(I)C" } : Jvm.MethodName) ({ cls := "java/lang/String", name := "charAt", desc := "(I)C" } : Jvm.MethodName)) a0 Z = true := hw _ (List.mem_of_getElem? (i := 111) rfl)
theorem w110 {Z : State} {a0 : Array Value} (hw : ∀ d ∈ tables_1, d.before a0 Z = true) : Jvm.Cond.before (Jvm.Cond.instanceMethod ({ cls := "java/lang/String", name := "charAt", desc := "(I)C" } : Jvm.MethodName)) a0 Z = true := hw _ (List.mem_of_getElem? (i := 110) rfl)
theorem w109 {Z : State} {a0 : Array Value} (hw : ∀ d ∈ tables_1, d.before a0 Z = true) : Jvm.Cond.before (Jvm.Cond.declares ({ cls := "java/lang/String", name := "charAt", desc := "(I)C" } : Jvm.MethodName)) a0 Z = true := hw _ (List.mem_of_getElem? (i := 109) rfl)
def Q_law (Z : State) (G1 : Int32) (G3 : Value) (p0 : Int32) (p1 : Int32) (p2 : Int32) (p3 : Int32) (h0 : Heap) (n0 : Nat) (v : Option Value) (h : Heap) (L : List Loc) : Prop := (v = some (.int (1 : Int32)) ∧ Fr n0 L ∧ Keep h0 h [])
set_option maxRecDepth 65536 in
set_option maxHeartbeats 40000000 in
theorem rm_law (l : Launch) (Z : State) (a0 : Array Value) (hw : ∀ d ∈ tables_1, d.before a0 Z = true) (ws : List Jvm.Cond) (G1 : Int32) (G3 : Value) (HG : own_G l Z a0 G1 G3) (h0 : Heap) (n0 : Nat) (X00 : Old Z n0 h0) (p0 : Int32) (p1 : Int32) (p2 : Int32) (p3 : Int32)  :
    own_CH l Z x code maxLocals ret ws room_1 #[(.int p0), (.int p1), (.int p2), (.int p3)] h0 (Q_law Z G1 G3 p0 p1 p2 p3 h0 n0) := by
  refine own_H (plainFor_of_name pn_737) ?_
  intro p e s m below meth c s₁ S0 Bd hZ hh CH0 hS0 CR0 hx hby hml hown hnm X0 e0 hS0d
  obtain ⟨O1, P1, O3f, rG3, OAD, OHI, OLO⟩ := id HG
  have hEL := own_EL hw
  have hSA := own_SA hw
  have N0 := Fr.nil n0
  have C0 : Steps p.tables e below S0 (s₁.setTop (mkF m 0 #[.val (.int p0), .val (.int p1), .val (.int p2), .val (.int p3), .unset, .unset, .unset, .unset, .unset, .unset, .unset, .unset, .unset, .unset, .unset, .unset, .unset] [])) := by rw [hS0d]; exact castTop (ef_736 m p0 p1 p2 p3) (Steps.refl _)
  have C_1 : Steps p.tables e below S0 (s₁.setTop (mkF m 50 #[.val (.int p0), .val (.int p1), .val (.int p2), .val (.int p3), .val (.int (own_cw p0)), .val (.int (own_cw (own_us p0))), .val (.int (own_cw p1)), .val (.int (own_cw (own_us p1))), .val (.int (own_n5 p2)), .unset, .unset, .unset, .unset, .unset, .unset, .unset, .unset] [(.int ((own_n5 p2) + (1 : Int32))), (.int (p3 &&& (2147483647 : Int32)))])) := by
    refine C0.trans ?_
    refine XS.iloadN X0.here hx rfl (hb hby at_0) rfl ?_
    refine X0.ldcI hx hown (mvT hZ (w0 hw)) rfl (hb hby at_1) ?_
    refine XS.iand X0.here hx rfl (hb hby at_3) rfl ?_
    refine XS.i2c X0.here hx rfl (hb hby at_4) rfl ?_
    refine XS.istore X0.here hx rfl (hb hby at_5) rfl (l' := #[.val (.int p0), .val (.int p1), .val (.int p2), .val (.int p3), .val (.int (own_cw p0)), .unset, .unset, .unset, .unset, .unset, .unset, .unset, .unset, .unset, .unset, .unset, .unset]) rfl ?_
    refine XS.iloadN X0.here hx rfl (hb hby at_7) rfl ?_
    refine XS.bipush X0.here hx rfl (hb hby at_8) ?_
    refine XS.iushr X0.here hx rfl (hb hby at_10) rfl ?_
    show Steps p.tables e below (s₁.setTop (mkF m 11 #[.val (.int p0), .val (.int p1), .val (.int p2), .val (.int p3), .val (.int (own_cw p0)), .unset, .unset, .unset, .unset, .unset, .unset, .unset, .unset, .unset, .unset, .unset, .unset] [(.int (own_us p0))])) _
    refine X0.ldcI hx hown (mvT hZ (w0 hw)) rfl (hb hby at_11) ?_
    refine XS.iand X0.here hx rfl (hb hby at_13) rfl ?_
    refine XS.i2c X0.here hx rfl (hb hby at_14) rfl ?_
    refine XS.istore X0.here hx rfl (hb hby at_15) rfl (l' := #[.val (.int p0), .val (.int p1), .val (.int p2), .val (.int p3), .val (.int (own_cw p0)), .val (.int (own_cw (own_us p0))), .unset, .unset, .unset, .unset, .unset, .unset, .unset, .unset, .unset, .unset, .unset]) rfl ?_
    refine XS.iloadN X0.here hx rfl (hb hby at_17) rfl ?_
    refine X0.ldcI hx hown (mvT hZ (w0 hw)) rfl (hb hby at_18) ?_
    refine XS.iand X0.here hx rfl (hb hby at_20) rfl ?_
    refine XS.i2c X0.here hx rfl (hb hby at_21) rfl ?_
    show Steps p.tables e below (s₁.setTop (mkF m 22 #[.val (.int p0), .val (.int p1), .val (.int p2), .val (.int p3), .val (.int (own_cw p0)), .val (.int (own_cw (own_us p0))), .unset, .unset, .unset, .unset, .unset, .unset, .unset, .unset, .unset, .unset, .unset] [(.int (own_cw p1))])) _
    refine XS.istore X0.here hx rfl (hb hby at_22) rfl (l' := #[.val (.int p0), .val (.int p1), .val (.int p2), .val (.int p3), .val (.int (own_cw p0)), .val (.int (own_cw (own_us p0))), .val (.int (own_cw p1)), .unset, .unset, .unset, .unset, .unset, .unset, .unset, .unset, .unset, .unset]) rfl ?_
    refine XS.iloadN X0.here hx rfl (hb hby at_24) rfl ?_
    refine XS.bipush X0.here hx rfl (hb hby at_25) ?_
    refine XS.iushr X0.here hx rfl (hb hby at_27) rfl ?_
    refine X0.ldcI hx hown (mvT hZ (w0 hw)) rfl (hb hby at_28) ?_
    refine XS.iand X0.here hx rfl (hb hby at_30) rfl ?_
    refine XS.i2c X0.here hx rfl (hb hby at_31) rfl ?_
    refine XS.istore X0.here hx rfl (hb hby at_32) rfl (l' := #[.val (.int p0), .val (.int p1), .val (.int p2), .val (.int p3), .val (.int (own_cw p0)), .val (.int (own_cw (own_us p0))), .val (.int (own_cw p1)), .val (.int (own_cw (own_us p1))), .unset, .unset, .unset, .unset, .unset, .unset, .unset, .unset, .unset]) rfl ?_
    show Steps p.tables e below (s₁.setTop (mkF m 34 #[.val (.int p0), .val (.int p1), .val (.int p2), .val (.int p3), .val (.int (own_cw p0)), .val (.int (own_cw (own_us p0))), .val (.int (own_cw p1)), .val (.int (own_cw (own_us p1))), .unset, .unset, .unset, .unset, .unset, .unset, .unset, .unset, .unset] [])) _
    refine XS.iloadN X0.here hx rfl (hb hby at_34) rfl ?_
    refine X0.ldcI hx hown (mvT hZ (w1 hw)) rfl (hb hby at_35) ?_
    refine XS.iand X0.here hx rfl (hb hby at_37) rfl ?_
    refine XS.iconst X0.here hx rfl (hb hby at_38) ?_
    refine iremM X0 hx rfl (hb hby at_39) rfl (by decide) ?_
    refine XS.istore X0.here hx rfl (hb hby at_40) rfl (l' := #[.val (.int p0), .val (.int p1), .val (.int p2), .val (.int p3), .val (.int (own_cw p0)), .val (.int (own_cw (own_us p0))), .val (.int (own_cw p1)), .val (.int (own_cw (own_us p1))), .val (.int (own_n5 p2)), .unset, .unset, .unset, .unset, .unset, .unset, .unset, .unset]) rfl ?_
    refine XS.iloadN X0.here hx rfl (hb hby at_42) rfl ?_
    refine X0.ldcI hx hown (mvT hZ (w1 hw)) rfl (hb hby at_43) ?_
    show Steps p.tables e below (s₁.setTop (mkF m 45 #[.val (.int p0), .val (.int p1), .val (.int p2), .val (.int p3), .val (.int (own_cw p0)), .val (.int (own_cw (own_us p0))), .val (.int (own_cw p1)), .val (.int (own_cw (own_us p1))), .val (.int (own_n5 p2)), .unset, .unset, .unset, .unset, .unset, .unset, .unset, .unset] [(.int (2147483647 : Int32)), (.int p3)])) _
    refine XS.iand X0.here hx rfl (hb hby at_45) rfl ?_
    refine XS.iload X0.here hx rfl (hb hby at_46) rfl ?_
    refine XS.iconst X0.here hx rfl (hb hby at_48) ?_
    refine XS.iadd X0.here hx rfl (hb hby at_49) rfl ?_
    exact Steps.refl _
  obtain ⟨T_2, h_3, k_4, X_5, e_6, E_7, A_8, st_9⟩ := newP (aty := .char) X0 hx hZ (w2 hw) e0 (g := (mkF m 54 #[.val (.int p0), .val (.int p1), .val (.int p2), .val (.int p3), .val (.int (own_cw p0)), .val (.int (own_cw (own_us p0))), .val (.int (own_cw p1)), .val (.int (own_cw (own_us p1))), .val (.int (own_n5 p2)), .val (.int (own_rm p3 ((own_n5 p2) + (1 : Int32)))), .unset, .unset, .unset, .unset, .unset, .unset, .unset] [(.int (0 : Int32))])) rfl (hb hby at_54) rfl (by decide : ¬ ((0 : Int32) < (0 : Int32))) (cap := 0) (by decide : (0 : Int32).toNatClampNeg ≤ 0) (by decide) (by decide) (by decide)
  obtain ⟨a_10, g_11⟩ : ∃ z, z = h0.size := ⟨_, rfl⟩
  rw [← g_11] at A_8 st_9
  have CH_13 : CHv Z consts_1 s.vm h_3 := CHv.ext E_7 CH0
  have CR_14 : CHr Z consts_1 s.vm h0 s.vm h_3 := CR0.trans (CHr.ext E_7 CH0)
  have V_15 : Arv Z h_3 a_10 k_4 .char (0 : Int32) [] (.int (0 : Int32)) := Arv.new A_8 (by decide : ¬ ((0 : Int32) < (0 : Int32)))
  obtain ⟨T_16, h_17, k_18, X_19, e_20, E_21, A_22, st_23⟩ := newP (aty := .char) X_5 hx hZ (w2 hw) e_6 (g := (mkF m 59 #[.val (.int p0), .val (.int p1), .val (.int p2), .val (.int p3), .val (.int (own_cw p0)), .val (.int (own_cw (own_us p0))), .val (.int (own_cw p1)), .val (.int (own_cw (own_us p1))), .val (.int (own_n5 p2)), .val (.int (own_rm p3 ((own_n5 p2) + (1 : Int32)))), .val (.ref a_10), .unset, .unset, .unset, .unset, .unset, .unset] [(.int (1 : Int32))])) rfl (hb hby at_59) rfl (by decide : ¬ ((1 : Int32) < (0 : Int32))) (cap := 1) (by decide : (1 : Int32).toNatClampNeg ≤ 1) (by decide) (by decide) (by decide)
  obtain ⟨a_24, g_25⟩ : ∃ z, z = h_3.size := ⟨_, rfl⟩
  rw [← g_25] at A_22 st_23
  have CH_27 : CHv Z consts_1 s.vm h_17 := CHv.ext E_21 CH_13
  have CR_28 : CHr Z consts_1 s.vm h0 s.vm h_17 := CR_14.trans (CHr.ext E_21 CH_13)
  have V_29 : Arv Z h_17 a_24 k_18 .char (1 : Int32) [] (.int (0 : Int32)) := Arv.new A_22 (by decide : ¬ ((1 : Int32) < (0 : Int32)))
  have V_26 : Arv Z h_17 a_24 k_18 .char (1 : Int32) [(.int (0 : Int32))] (.int (0 : Int32)) := (V_29.pad (pad_rep [] (.int (0 : Int32)) 1))
  obtain ⟨c_30, A_31, q_32, S_33, M_34, H_35, U_36⟩ := id V_26
  have hin_43 : ¬ ((0 : Int32) < 0 ∨ c_30.slots.size ≤ (0 : Int32).toNatClampNeg) := inb_of S_33 ⟨(by decide : ¬ ((0 : Int32) < (0 : Int32))), (by decide : (0 : Int32) < (1 : Int32))⟩
  obtain ⟨T_37, h_38, X_39, e_40, W_41, st_42⟩ := stC X_19 hx hZ e_20 A_31 (j := (0 : Int32)) hin_43 (g := (mkF m 65 #[.val (.int p0), .val (.int p1), .val (.int p2), .val (.int p3), .val (.int (own_cw p0)), .val (.int (own_cw (own_us p0))), .val (.int (own_cw p1)), .val (.int (own_cw (own_us p1))), .val (.int (own_n5 p2)), .val (.int (own_rm p3 ((own_n5 p2) + (1 : Int32)))), .val (.ref a_10), .unset, .unset, .unset, .unset, .unset, .unset] [(.int (own_cw p0)), (.int (0 : Int32)), (.ref a_24), (.ref a_24)])) rfl rfl (hb hby at_65)
  have O_45 : Old Z n0 h_3 := (X00.ext E_7)
  have N_44 := Fr.snoc X_39 N0 (Nat.le_trans (own_n0 O_45) (Nat.le_of_eq g_25.symm))
  have CH_46 : CHv Z consts_1 s.vm h_38 := CHv.wr W_41 (Safe.arv hZ.alike V_26 (by decide)) CH_27
  have CR_47 : CHr Z consts_1 s.vm h0 s.vm h_38 := CR_28.trans (CHr.wr W_41 (Safe.arv hZ.alike V_26 (by decide)) CH_27)
  have V_48 : Arv Z h_38 a_24 k_18 .char (1 : Int32) [(.int (own_cw p0))] (.int (0 : Int32)) := by have q := Arv.set A_31 q_32 S_33 M_34 H_35 U_36 (fits_nar_char _) W_41 0 rfl (Nat.le_of_ble_eq_true rfl); rw [own_cw_nar] at q; exact q
  obtain ⟨T_49, h_50, k_51, X_52, e_53, E_54, A_55, st_56⟩ := newP (aty := .char) X_39 hx hZ (w2 hw) e_40 (g := (mkF m 69 #[.val (.int p0), .val (.int p1), .val (.int p2), .val (.int p3), .val (.int (own_cw p0)), .val (.int (own_cw (own_us p0))), .val (.int (own_cw p1)), .val (.int (own_cw (own_us p1))), .val (.int (own_n5 p2)), .val (.int (own_rm p3 ((own_n5 p2) + (1 : Int32)))), .val (.ref a_10), .val (.ref a_24), .unset, .unset, .unset, .unset, .unset] [(.int (2 : Int32))])) rfl (hb hby at_69) rfl (by decide : ¬ ((2 : Int32) < (0 : Int32))) (cap := 2) (by decide : (2 : Int32).toNatClampNeg ≤ 2) (by decide) (by decide) (by decide)
  obtain ⟨a_57, g_58⟩ : ∃ z, z = h_38.size := ⟨_, rfl⟩
  rw [← g_58] at A_55 st_56
  have CH_60 : CHv Z consts_1 s.vm h_50 := CHv.ext E_54 CH_46
  have CR_61 : CHr Z consts_1 s.vm h0 s.vm h_50 := CR_47.trans (CHr.ext E_54 CH_46)
  have V_62 : Arv Z h_50 a_57 k_51 .char (2 : Int32) [] (.int (0 : Int32)) := Arv.new A_55 (by decide : ¬ ((2 : Int32) < (0 : Int32)))
  have V_59 : Arv Z h_50 a_57 k_51 .char (2 : Int32) [(.int (0 : Int32)), (.int (0 : Int32))] (.int (0 : Int32)) := (V_62.pad (pad_rep [] (.int (0 : Int32)) 2))
  obtain ⟨c_63, A_64, q_65, S_66, M_67, H_68, U_69⟩ := id V_59
  have hin_76 : ¬ ((0 : Int32) < 0 ∨ c_63.slots.size ≤ (0 : Int32).toNatClampNeg) := inb_of S_66 ⟨(by decide : ¬ ((0 : Int32) < (0 : Int32))), (by decide : (0 : Int32) < (2 : Int32))⟩
  obtain ⟨T_70, h_71, X_72, e_73, W_74, st_75⟩ := stC X_52 hx hZ e_53 A_64 (j := (0 : Int32)) hin_76 (g := (mkF m 75 #[.val (.int p0), .val (.int p1), .val (.int p2), .val (.int p3), .val (.int (own_cw p0)), .val (.int (own_cw (own_us p0))), .val (.int (own_cw p1)), .val (.int (own_cw (own_us p1))), .val (.int (own_n5 p2)), .val (.int (own_rm p3 ((own_n5 p2) + (1 : Int32)))), .val (.ref a_10), .val (.ref a_24), .unset, .unset, .unset, .unset, .unset] [(.int (own_cw p0)), (.int (0 : Int32)), (.ref a_57), (.ref a_57)])) rfl rfl (hb hby at_75)
  have O_78 : Old Z n0 h_38 := ((O_45.ext E_21).wr W_41 (Nat.le_trans (own_n0 O_45) (Nat.le_of_eq g_25.symm)))
  have N_77 := Fr.snoc X_72 N_44 (Nat.le_trans (own_n0 O_78) (Nat.le_of_eq g_58.symm))
  have CH_79 : CHv Z consts_1 s.vm h_71 := CHv.wr W_74 (Safe.arv hZ.alike V_59 (by decide)) CH_60
  have CR_80 : CHr Z consts_1 s.vm h0 s.vm h_71 := CR_61.trans (CHr.wr W_74 (Safe.arv hZ.alike V_59 (by decide)) CH_60)
  have V_81 : Arv Z h_71 a_57 k_51 .char (2 : Int32) [(.int (own_cw p0)), (.int (0 : Int32))] (.int (0 : Int32)) := by have q := Arv.set A_64 q_65 S_66 M_67 H_68 U_69 (fits_nar_char _) W_74 0 rfl (Nat.le_of_ble_eq_true rfl); rw [own_cw_nar] at q; exact q
  obtain ⟨c_82, A_83, q_84, S_85, M_86, H_87, U_88⟩ := id V_81
  have hin_95 : ¬ ((1 : Int32) < 0 ∨ c_82.slots.size ≤ (1 : Int32).toNatClampNeg) := inb_of S_85 ⟨(by decide : ¬ ((1 : Int32) < (0 : Int32))), (by decide : (1 : Int32) < (2 : Int32))⟩
  obtain ⟨T_89, h_90, X_91, e_92, W_93, st_94⟩ := stC X_72 hx hZ e_73 A_83 (j := (1 : Int32)) hin_95 (g := (mkF m 80 #[.val (.int p0), .val (.int p1), .val (.int p2), .val (.int p3), .val (.int (own_cw p0)), .val (.int (own_cw (own_us p0))), .val (.int (own_cw p1)), .val (.int (own_cw (own_us p1))), .val (.int (own_n5 p2)), .val (.int (own_rm p3 ((own_n5 p2) + (1 : Int32)))), .val (.ref a_10), .val (.ref a_24), .unset, .unset, .unset, .unset, .unset] [(.int (own_cw (own_us p0))), (.int (1 : Int32)), (.ref a_57), (.ref a_57)])) rfl rfl (hb hby at_80)
  have N_96 := Fr.snoc X_91 N_77 (Nat.le_trans (own_n0 O_78) (Nat.le_of_eq g_58.symm))
  have CH_97 : CHv Z consts_1 s.vm h_90 := CHv.wr W_93 (Safe.arv hZ.alike V_81 (by decide)) CH_79
  have CR_98 : CHr Z consts_1 s.vm h0 s.vm h_90 := CR_80.trans (CHr.wr W_93 (Safe.arv hZ.alike V_81 (by decide)) CH_79)
  have V_99 : Arv Z h_90 a_57 k_51 .char (2 : Int32) [(.int (own_cw p0)), (.int (own_cw (own_us p0)))] (.int (0 : Int32)) := by have q := Arv.set A_83 q_84 S_85 M_86 H_87 U_88 (fits_nar_char _) W_93 1 rfl (Nat.le_of_ble_eq_true rfl); rw [own_cw_nar] at q; exact q
  obtain ⟨T_100, h_101, k_102, X_103, e_104, E_105, A_106, st_107⟩ := newP (aty := .char) X_91 hx hZ (w2 hw) e_92 (g := (mkF m 84 #[.val (.int p0), .val (.int p1), .val (.int p2), .val (.int p3), .val (.int (own_cw p0)), .val (.int (own_cw (own_us p0))), .val (.int (own_cw p1)), .val (.int (own_cw (own_us p1))), .val (.int (own_n5 p2)), .val (.int (own_rm p3 ((own_n5 p2) + (1 : Int32)))), .val (.ref a_10), .val (.ref a_24), .val (.ref a_57), .unset, .unset, .unset, .unset] [(.int (3 : Int32))])) rfl (hb hby at_84) rfl (by decide : ¬ ((3 : Int32) < (0 : Int32))) (cap := 3) (by decide : (3 : Int32).toNatClampNeg ≤ 3) (by decide) (by decide) (by decide)
  obtain ⟨a_108, g_109⟩ : ∃ z, z = h_90.size := ⟨_, rfl⟩
  rw [← g_109] at A_106 st_107
  have CH_111 : CHv Z consts_1 s.vm h_101 := CHv.ext E_105 CH_97
  have CR_112 : CHr Z consts_1 s.vm h0 s.vm h_101 := CR_98.trans (CHr.ext E_105 CH_97)
  have V_113 : Arv Z h_101 a_108 k_102 .char (3 : Int32) [] (.int (0 : Int32)) := Arv.new A_106 (by decide : ¬ ((3 : Int32) < (0 : Int32)))
  have V_110 : Arv Z h_101 a_108 k_102 .char (3 : Int32) [(.int (0 : Int32)), (.int (0 : Int32)), (.int (0 : Int32))] (.int (0 : Int32)) := (V_113.pad (pad_rep [] (.int (0 : Int32)) 3))
  obtain ⟨c_114, A_115, q_116, S_117, M_118, H_119, U_120⟩ := id V_110
  have hin_127 : ¬ ((0 : Int32) < 0 ∨ c_114.slots.size ≤ (0 : Int32).toNatClampNeg) := inb_of S_117 ⟨(by decide : ¬ ((0 : Int32) < (0 : Int32))), (by decide : (0 : Int32) < (3 : Int32))⟩
  obtain ⟨T_121, h_122, X_123, e_124, W_125, st_126⟩ := stC X_103 hx hZ e_104 A_115 (j := (0 : Int32)) hin_127 (g := (mkF m 90 #[.val (.int p0), .val (.int p1), .val (.int p2), .val (.int p3), .val (.int (own_cw p0)), .val (.int (own_cw (own_us p0))), .val (.int (own_cw p1)), .val (.int (own_cw (own_us p1))), .val (.int (own_n5 p2)), .val (.int (own_rm p3 ((own_n5 p2) + (1 : Int32)))), .val (.ref a_10), .val (.ref a_24), .val (.ref a_57), .unset, .unset, .unset, .unset] [(.int (own_cw p0)), (.int (0 : Int32)), (.ref a_108), (.ref a_108)])) rfl rfl (hb hby at_90)
  have O_129 : Old Z n0 h_90 := (((O_78.ext E_54).wr W_74 (Nat.le_trans (own_n0 O_78) (Nat.le_of_eq g_58.symm))).wr W_93 (Nat.le_trans (own_n0 O_78) (Nat.le_of_eq g_58.symm)))
  have N_128 := Fr.snoc X_123 N_96 (Nat.le_trans (own_n0 O_129) (Nat.le_of_eq g_109.symm))
  have CH_130 : CHv Z consts_1 s.vm h_122 := CHv.wr W_125 (Safe.arv hZ.alike V_110 (by decide)) CH_111
  have CR_131 : CHr Z consts_1 s.vm h0 s.vm h_122 := CR_112.trans (CHr.wr W_125 (Safe.arv hZ.alike V_110 (by decide)) CH_111)
  have V_132 : Arv Z h_122 a_108 k_102 .char (3 : Int32) [(.int (own_cw p0)), (.int (0 : Int32)), (.int (0 : Int32))] (.int (0 : Int32)) := by have q := Arv.set A_115 q_116 S_117 M_118 H_119 U_120 (fits_nar_char _) W_125 0 rfl (Nat.le_of_ble_eq_true rfl); rw [own_cw_nar] at q; exact q
  obtain ⟨c_133, A_134, q_135, S_136, M_137, H_138, U_139⟩ := id V_132
  have hin_146 : ¬ ((1 : Int32) < 0 ∨ c_133.slots.size ≤ (1 : Int32).toNatClampNeg) := inb_of S_136 ⟨(by decide : ¬ ((1 : Int32) < (0 : Int32))), (by decide : (1 : Int32) < (3 : Int32))⟩
  obtain ⟨T_140, h_141, X_142, e_143, W_144, st_145⟩ := stC X_123 hx hZ e_124 A_134 (j := (1 : Int32)) hin_146 (g := (mkF m 95 #[.val (.int p0), .val (.int p1), .val (.int p2), .val (.int p3), .val (.int (own_cw p0)), .val (.int (own_cw (own_us p0))), .val (.int (own_cw p1)), .val (.int (own_cw (own_us p1))), .val (.int (own_n5 p2)), .val (.int (own_rm p3 ((own_n5 p2) + (1 : Int32)))), .val (.ref a_10), .val (.ref a_24), .val (.ref a_57), .unset, .unset, .unset, .unset] [(.int (own_cw (own_us p0))), (.int (1 : Int32)), (.ref a_108), (.ref a_108)])) rfl rfl (hb hby at_95)
  have N_147 := Fr.snoc X_142 N_128 (Nat.le_trans (own_n0 O_129) (Nat.le_of_eq g_109.symm))
  have CH_148 : CHv Z consts_1 s.vm h_141 := CHv.wr W_144 (Safe.arv hZ.alike V_132 (by decide)) CH_130
  have CR_149 : CHr Z consts_1 s.vm h0 s.vm h_141 := CR_131.trans (CHr.wr W_144 (Safe.arv hZ.alike V_132 (by decide)) CH_130)
  have V_150 : Arv Z h_141 a_108 k_102 .char (3 : Int32) [(.int (own_cw p0)), (.int (own_cw (own_us p0))), (.int (0 : Int32))] (.int (0 : Int32)) := by have q := Arv.set A_134 q_135 S_136 M_137 H_138 U_139 (fits_nar_char _) W_144 1 rfl (Nat.le_of_ble_eq_true rfl); rw [own_cw_nar] at q; exact q
  have C_151 : Steps p.tables e below S0 (T_140.setTop (mkF m 100 #[.val (.int p0), .val (.int p1), .val (.int p2), .val (.int p3), .val (.int (own_cw p0)), .val (.int (own_cw (own_us p0))), .val (.int (own_cw p1)), .val (.int (own_cw (own_us p1))), .val (.int (own_n5 p2)), .val (.int (own_rm p3 ((own_n5 p2) + (1 : Int32)))), .val (.ref a_10), .val (.ref a_24), .val (.ref a_57), .unset, .unset, .unset, .unset] [(.int (own_cw p1)), (.int (2 : Int32)), (.ref a_108), (.ref a_108)])) := by
    refine C_1.trans ?_
    refine iremM X0 hx rfl (hb hby at_50) rfl (own_n5z p2) ?_
    refine XS.istore X0.here hx rfl (hb hby at_51) rfl (l' := #[.val (.int p0), .val (.int p1), .val (.int p2), .val (.int p3), .val (.int (own_cw p0)), .val (.int (own_cw (own_us p0))), .val (.int (own_cw p1)), .val (.int (own_cw (own_us p1))), .val (.int (own_n5 p2)), .val (.int (own_rm p3 ((own_n5 p2) + (1 : Int32)))), .unset, .unset, .unset, .unset, .unset, .unset, .unset]) rfl ?_
    refine XS.iconst X0.here hx rfl (hb hby at_53) ?_
    refine st_9 _ ?_
    refine XS.astore X_5.here hx rfl (hb hby at_56) rfl rfl (l' := #[.val (.int p0), .val (.int p1), .val (.int p2), .val (.int p3), .val (.int (own_cw p0)), .val (.int (own_cw (own_us p0))), .val (.int (own_cw p1)), .val (.int (own_cw (own_us p1))), .val (.int (own_n5 p2)), .val (.int (own_rm p3 ((own_n5 p2) + (1 : Int32)))), .val (.ref a_10), .unset, .unset, .unset, .unset, .unset, .unset]) rfl ?_
    refine XS.iconst X_5.here hx rfl (hb hby at_58) ?_
    refine st_23 _ ?_
    refine XS.dup X_19.here hx rfl (hb hby at_61) rfl rfl ?_
    show Steps p.tables e below (T_16.setTop (mkF m 62 #[.val (.int p0), .val (.int p1), .val (.int p2), .val (.int p3), .val (.int (own_cw p0)), .val (.int (own_cw (own_us p0))), .val (.int (own_cw p1)), .val (.int (own_cw (own_us p1))), .val (.int (own_n5 p2)), .val (.int (own_rm p3 ((own_n5 p2) + (1 : Int32)))), .val (.ref a_10), .unset, .unset, .unset, .unset, .unset, .unset] [(.ref a_24), (.ref a_24)])) _
    refine XS.iconst X_19.here hx rfl (hb hby at_62) ?_
    refine XS.iload X_19.here hx rfl (hb hby at_63) rfl ?_
    refine st_42 _ ?_
    refine XS.astore X_39.here hx rfl (hb hby at_66) rfl rfl (l' := #[.val (.int p0), .val (.int p1), .val (.int p2), .val (.int p3), .val (.int (own_cw p0)), .val (.int (own_cw (own_us p0))), .val (.int (own_cw p1)), .val (.int (own_cw (own_us p1))), .val (.int (own_n5 p2)), .val (.int (own_rm p3 ((own_n5 p2) + (1 : Int32)))), .val (.ref a_10), .val (.ref a_24), .unset, .unset, .unset, .unset, .unset]) rfl ?_
    refine XS.iconst X_39.here hx rfl (hb hby at_68) ?_
    refine st_56 _ ?_
    refine XS.dup X_52.here hx rfl (hb hby at_71) rfl rfl ?_
    refine XS.iconst X_52.here hx rfl (hb hby at_72) ?_
    show Steps p.tables e below (T_49.setTop (mkF m 73 #[.val (.int p0), .val (.int p1), .val (.int p2), .val (.int p3), .val (.int (own_cw p0)), .val (.int (own_cw (own_us p0))), .val (.int (own_cw p1)), .val (.int (own_cw (own_us p1))), .val (.int (own_n5 p2)), .val (.int (own_rm p3 ((own_n5 p2) + (1 : Int32)))), .val (.ref a_10), .val (.ref a_24), .unset, .unset, .unset, .unset, .unset] [(.int (0 : Int32)), (.ref a_57), (.ref a_57)])) _
    refine XS.iload X_52.here hx rfl (hb hby at_73) rfl ?_
    refine st_75 _ ?_
    refine XS.dup X_72.here hx rfl (hb hby at_76) rfl rfl ?_
    refine XS.iconst X_72.here hx rfl (hb hby at_77) ?_
    refine XS.iload X_72.here hx rfl (hb hby at_78) rfl ?_
    refine st_94 _ ?_
    refine XS.astore X_91.here hx rfl (hb hby at_81) rfl rfl (l' := #[.val (.int p0), .val (.int p1), .val (.int p2), .val (.int p3), .val (.int (own_cw p0)), .val (.int (own_cw (own_us p0))), .val (.int (own_cw p1)), .val (.int (own_cw (own_us p1))), .val (.int (own_n5 p2)), .val (.int (own_rm p3 ((own_n5 p2) + (1 : Int32)))), .val (.ref a_10), .val (.ref a_24), .val (.ref a_57), .unset, .unset, .unset, .unset]) rfl ?_
    refine XS.iconst X_91.here hx rfl (hb hby at_83) ?_
    show Steps p.tables e below (T_89.setTop (mkF m 84 #[.val (.int p0), .val (.int p1), .val (.int p2), .val (.int p3), .val (.int (own_cw p0)), .val (.int (own_cw (own_us p0))), .val (.int (own_cw p1)), .val (.int (own_cw (own_us p1))), .val (.int (own_n5 p2)), .val (.int (own_rm p3 ((own_n5 p2) + (1 : Int32)))), .val (.ref a_10), .val (.ref a_24), .val (.ref a_57), .unset, .unset, .unset, .unset] [(.int (3 : Int32))])) _
    refine st_107 _ ?_
    refine XS.dup X_103.here hx rfl (hb hby at_86) rfl rfl ?_
    refine XS.iconst X_103.here hx rfl (hb hby at_87) ?_
    refine XS.iload X_103.here hx rfl (hb hby at_88) rfl ?_
    refine st_126 _ ?_
    refine XS.dup X_123.here hx rfl (hb hby at_91) rfl rfl ?_
    refine XS.iconst X_123.here hx rfl (hb hby at_92) ?_
    refine XS.iload X_123.here hx rfl (hb hby at_93) rfl ?_
    show Steps p.tables e below (T_121.setTop (mkF m 95 #[.val (.int p0), .val (.int p1), .val (.int p2), .val (.int p3), .val (.int (own_cw p0)), .val (.int (own_cw (own_us p0))), .val (.int (own_cw p1)), .val (.int (own_cw (own_us p1))), .val (.int (own_n5 p2)), .val (.int (own_rm p3 ((own_n5 p2) + (1 : Int32)))), .val (.ref a_10), .val (.ref a_24), .val (.ref a_57), .unset, .unset, .unset, .unset] [(.int (own_cw (own_us p0))), (.int (1 : Int32)), (.ref a_108), (.ref a_108)])) _
    refine st_145 _ ?_
    refine XS.dup X_142.here hx rfl (hb hby at_96) rfl rfl ?_
    refine XS.iconst X_142.here hx rfl (hb hby at_97) ?_
    refine XS.iload X_142.here hx rfl (hb hby at_98) rfl ?_
    exact Steps.refl _
  obtain ⟨c_152, A_153, q_154, S_155, M_156, H_157, U_158⟩ := id V_150
  have hin_165 : ¬ ((2 : Int32) < 0 ∨ c_152.slots.size ≤ (2 : Int32).toNatClampNeg) := inb_of S_155 ⟨(by decide : ¬ ((2 : Int32) < (0 : Int32))), (by decide : (2 : Int32) < (3 : Int32))⟩
  obtain ⟨T_159, h_160, X_161, e_162, W_163, st_164⟩ := stC X_142 hx hZ e_143 A_153 (j := (2 : Int32)) hin_165 (g := (mkF m 100 #[.val (.int p0), .val (.int p1), .val (.int p2), .val (.int p3), .val (.int (own_cw p0)), .val (.int (own_cw (own_us p0))), .val (.int (own_cw p1)), .val (.int (own_cw (own_us p1))), .val (.int (own_n5 p2)), .val (.int (own_rm p3 ((own_n5 p2) + (1 : Int32)))), .val (.ref a_10), .val (.ref a_24), .val (.ref a_57), .unset, .unset, .unset, .unset] [(.int (own_cw p1)), (.int (2 : Int32)), (.ref a_108), (.ref a_108)])) rfl rfl (hb hby at_100)
  have N_166 := Fr.snoc X_161 N_147 (Nat.le_trans (own_n0 O_129) (Nat.le_of_eq g_109.symm))
  have CH_167 : CHv Z consts_1 s.vm h_160 := CHv.wr W_163 (Safe.arv hZ.alike V_150 (by decide)) CH_148
  have CR_168 : CHr Z consts_1 s.vm h0 s.vm h_160 := CR_149.trans (CHr.wr W_163 (Safe.arv hZ.alike V_150 (by decide)) CH_148)
  have V_169 : Arv Z h_160 a_108 k_102 .char (3 : Int32) [(.int (own_cw p0)), (.int (own_cw (own_us p0))), (.int (own_cw p1))] (.int (0 : Int32)) := by have q := Arv.set A_153 q_154 S_155 M_156 H_157 U_158 (fits_nar_char _) W_163 2 rfl (Nat.le_of_ble_eq_true rfl); rw [own_cw_nar] at q; exact q
  obtain ⟨T_170, h_171, k_172, X_173, e_174, E_175, A_176, st_177⟩ := newP (aty := .char) X_161 hx hZ (w2 hw) e_162 (g := (mkF m 104 #[.val (.int p0), .val (.int p1), .val (.int p2), .val (.int p3), .val (.int (own_cw p0)), .val (.int (own_cw (own_us p0))), .val (.int (own_cw p1)), .val (.int (own_cw (own_us p1))), .val (.int (own_n5 p2)), .val (.int (own_rm p3 ((own_n5 p2) + (1 : Int32)))), .val (.ref a_10), .val (.ref a_24), .val (.ref a_57), .val (.ref a_108), .unset, .unset, .unset] [(.int (4 : Int32))])) rfl (hb hby at_104) rfl (by decide : ¬ ((4 : Int32) < (0 : Int32))) (cap := 4) (by decide : (4 : Int32).toNatClampNeg ≤ 4) (by decide) (by decide) (by decide)
  obtain ⟨a_178, g_179⟩ : ∃ z, z = h_160.size := ⟨_, rfl⟩
  rw [← g_179] at A_176 st_177
  have CH_181 : CHv Z consts_1 s.vm h_171 := CHv.ext E_175 CH_167
  have CR_182 : CHr Z consts_1 s.vm h0 s.vm h_171 := CR_168.trans (CHr.ext E_175 CH_167)
  have V_183 : Arv Z h_171 a_178 k_172 .char (4 : Int32) [] (.int (0 : Int32)) := Arv.new A_176 (by decide : ¬ ((4 : Int32) < (0 : Int32)))
  have V_180 : Arv Z h_171 a_178 k_172 .char (4 : Int32) [(.int (0 : Int32)), (.int (0 : Int32)), (.int (0 : Int32)), (.int (0 : Int32))] (.int (0 : Int32)) := (V_183.pad (pad_rep [] (.int (0 : Int32)) 4))
  obtain ⟨c_184, A_185, q_186, S_187, M_188, H_189, U_190⟩ := id V_180
  have hin_197 : ¬ ((0 : Int32) < 0 ∨ c_184.slots.size ≤ (0 : Int32).toNatClampNeg) := inb_of S_187 ⟨(by decide : ¬ ((0 : Int32) < (0 : Int32))), (by decide : (0 : Int32) < (4 : Int32))⟩
  obtain ⟨T_191, h_192, X_193, e_194, W_195, st_196⟩ := stC X_173 hx hZ e_174 A_185 (j := (0 : Int32)) hin_197 (g := (mkF m 110 #[.val (.int p0), .val (.int p1), .val (.int p2), .val (.int p3), .val (.int (own_cw p0)), .val (.int (own_cw (own_us p0))), .val (.int (own_cw p1)), .val (.int (own_cw (own_us p1))), .val (.int (own_n5 p2)), .val (.int (own_rm p3 ((own_n5 p2) + (1 : Int32)))), .val (.ref a_10), .val (.ref a_24), .val (.ref a_57), .val (.ref a_108), .unset, .unset, .unset] [(.int (own_cw p0)), (.int (0 : Int32)), (.ref a_178), (.ref a_178)])) rfl rfl (hb hby at_110)
  have O_199 : Old Z n0 h_160 := ((((O_129.ext E_105).wr W_125 (Nat.le_trans (own_n0 O_129) (Nat.le_of_eq g_109.symm))).wr W_144 (Nat.le_trans (own_n0 O_129) (Nat.le_of_eq g_109.symm))).wr W_163 (Nat.le_trans (own_n0 O_129) (Nat.le_of_eq g_109.symm)))
  have N_198 := Fr.snoc X_193 N_166 (Nat.le_trans (own_n0 O_199) (Nat.le_of_eq g_179.symm))
  have CH_200 : CHv Z consts_1 s.vm h_192 := CHv.wr W_195 (Safe.arv hZ.alike V_180 (by decide)) CH_181
  have CR_201 : CHr Z consts_1 s.vm h0 s.vm h_192 := CR_182.trans (CHr.wr W_195 (Safe.arv hZ.alike V_180 (by decide)) CH_181)
  have V_202 : Arv Z h_192 a_178 k_172 .char (4 : Int32) [(.int (own_cw p0)), (.int (0 : Int32)), (.int (0 : Int32)), (.int (0 : Int32))] (.int (0 : Int32)) := by have q := Arv.set A_185 q_186 S_187 M_188 H_189 U_190 (fits_nar_char _) W_195 0 rfl (Nat.le_of_ble_eq_true rfl); rw [own_cw_nar] at q; exact q
  obtain ⟨c_203, A_204, q_205, S_206, M_207, H_208, U_209⟩ := id V_202
  have hin_216 : ¬ ((1 : Int32) < 0 ∨ c_203.slots.size ≤ (1 : Int32).toNatClampNeg) := inb_of S_206 ⟨(by decide : ¬ ((1 : Int32) < (0 : Int32))), (by decide : (1 : Int32) < (4 : Int32))⟩
  obtain ⟨T_210, h_211, X_212, e_213, W_214, st_215⟩ := stC X_193 hx hZ e_194 A_204 (j := (1 : Int32)) hin_216 (g := (mkF m 115 #[.val (.int p0), .val (.int p1), .val (.int p2), .val (.int p3), .val (.int (own_cw p0)), .val (.int (own_cw (own_us p0))), .val (.int (own_cw p1)), .val (.int (own_cw (own_us p1))), .val (.int (own_n5 p2)), .val (.int (own_rm p3 ((own_n5 p2) + (1 : Int32)))), .val (.ref a_10), .val (.ref a_24), .val (.ref a_57), .val (.ref a_108), .unset, .unset, .unset] [(.int (own_cw (own_us p0))), (.int (1 : Int32)), (.ref a_178), (.ref a_178)])) rfl rfl (hb hby at_115)
  have N_217 := Fr.snoc X_212 N_198 (Nat.le_trans (own_n0 O_199) (Nat.le_of_eq g_179.symm))
  have CH_218 : CHv Z consts_1 s.vm h_211 := CHv.wr W_214 (Safe.arv hZ.alike V_202 (by decide)) CH_200
  have CR_219 : CHr Z consts_1 s.vm h0 s.vm h_211 := CR_201.trans (CHr.wr W_214 (Safe.arv hZ.alike V_202 (by decide)) CH_200)
  have V_220 : Arv Z h_211 a_178 k_172 .char (4 : Int32) [(.int (own_cw p0)), (.int (own_cw (own_us p0))), (.int (0 : Int32)), (.int (0 : Int32))] (.int (0 : Int32)) := by have q := Arv.set A_204 q_205 S_206 M_207 H_208 U_209 (fits_nar_char _) W_214 1 rfl (Nat.le_of_ble_eq_true rfl); rw [own_cw_nar] at q; exact q
  obtain ⟨c_221, A_222, q_223, S_224, M_225, H_226, U_227⟩ := id V_220
  have hin_234 : ¬ ((2 : Int32) < 0 ∨ c_221.slots.size ≤ (2 : Int32).toNatClampNeg) := inb_of S_224 ⟨(by decide : ¬ ((2 : Int32) < (0 : Int32))), (by decide : (2 : Int32) < (4 : Int32))⟩
  obtain ⟨T_228, h_229, X_230, e_231, W_232, st_233⟩ := stC X_212 hx hZ e_213 A_222 (j := (2 : Int32)) hin_234 (g := (mkF m 120 #[.val (.int p0), .val (.int p1), .val (.int p2), .val (.int p3), .val (.int (own_cw p0)), .val (.int (own_cw (own_us p0))), .val (.int (own_cw p1)), .val (.int (own_cw (own_us p1))), .val (.int (own_n5 p2)), .val (.int (own_rm p3 ((own_n5 p2) + (1 : Int32)))), .val (.ref a_10), .val (.ref a_24), .val (.ref a_57), .val (.ref a_108), .unset, .unset, .unset] [(.int (own_cw p1)), (.int (2 : Int32)), (.ref a_178), (.ref a_178)])) rfl rfl (hb hby at_120)
  have N_235 := Fr.snoc X_230 N_217 (Nat.le_trans (own_n0 O_199) (Nat.le_of_eq g_179.symm))
  have CH_236 : CHv Z consts_1 s.vm h_229 := CHv.wr W_232 (Safe.arv hZ.alike V_220 (by decide)) CH_218
  have CR_237 : CHr Z consts_1 s.vm h0 s.vm h_229 := CR_219.trans (CHr.wr W_232 (Safe.arv hZ.alike V_220 (by decide)) CH_218)
  have V_238 : Arv Z h_229 a_178 k_172 .char (4 : Int32) [(.int (own_cw p0)), (.int (own_cw (own_us p0))), (.int (own_cw p1)), (.int (0 : Int32))] (.int (0 : Int32)) := by have q := Arv.set A_222 q_223 S_224 M_225 H_226 U_227 (fits_nar_char _) W_232 2 rfl (Nat.le_of_ble_eq_true rfl); rw [own_cw_nar] at q; exact q
  obtain ⟨c_239, A_240, q_241, S_242, M_243, H_244, U_245⟩ := id V_238
  have hin_252 : ¬ ((3 : Int32) < 0 ∨ c_239.slots.size ≤ (3 : Int32).toNatClampNeg) := inb_of S_242 ⟨(by decide : ¬ ((3 : Int32) < (0 : Int32))), (by decide : (3 : Int32) < (4 : Int32))⟩
  obtain ⟨T_246, h_247, X_248, e_249, W_250, st_251⟩ := stC X_230 hx hZ e_231 A_240 (j := (3 : Int32)) hin_252 (g := (mkF m 125 #[.val (.int p0), .val (.int p1), .val (.int p2), .val (.int p3), .val (.int (own_cw p0)), .val (.int (own_cw (own_us p0))), .val (.int (own_cw p1)), .val (.int (own_cw (own_us p1))), .val (.int (own_n5 p2)), .val (.int (own_rm p3 ((own_n5 p2) + (1 : Int32)))), .val (.ref a_10), .val (.ref a_24), .val (.ref a_57), .val (.ref a_108), .unset, .unset, .unset] [(.int (own_cw (own_us p1))), (.int (3 : Int32)), (.ref a_178), (.ref a_178)])) rfl rfl (hb hby at_125)
  have N_253 := Fr.snoc X_248 N_235 (Nat.le_trans (own_n0 O_199) (Nat.le_of_eq g_179.symm))
  have CH_254 : CHv Z consts_1 s.vm h_247 := CHv.wr W_250 (Safe.arv hZ.alike V_238 (by decide)) CH_236
  have CR_255 : CHr Z consts_1 s.vm h0 s.vm h_247 := CR_237.trans (CHr.wr W_250 (Safe.arv hZ.alike V_238 (by decide)) CH_236)
  have V_256 : Arv Z h_247 a_178 k_172 .char (4 : Int32) [(.int (own_cw p0)), (.int (own_cw (own_us p0))), (.int (own_cw p1)), (.int (own_cw (own_us p1)))] (.int (0 : Int32)) := by have q := Arv.set A_240 q_241 S_242 M_243 H_244 U_245 (fits_nar_char _) W_250 3 rfl (Nat.le_of_ble_eq_true rfl); rw [own_cw_nar] at q; exact q
  have C_257 : Steps p.tables e below S0 (T_246.setTop (mkF m 130 #[.val (.int p0), .val (.int p1), .val (.int p2), .val (.int p3), .val (.int (own_cw p0)), .val (.int (own_cw (own_us p0))), .val (.int (own_cw p1)), .val (.int (own_cw (own_us p1))), .val (.int (own_n5 p2)), .val (.int (own_rm p3 ((own_n5 p2) + (1 : Int32)))), .val (.ref a_10), .val (.ref a_24), .val (.ref a_57), .val (.ref a_108), .val (.ref a_178), .unset, .unset] [(.int (own_n5 p2))])) := by
    refine C_151.trans ?_
    refine st_164 _ ?_
    refine XS.astore X_161.here hx rfl (hb hby at_101) rfl rfl (l' := #[.val (.int p0), .val (.int p1), .val (.int p2), .val (.int p3), .val (.int (own_cw p0)), .val (.int (own_cw (own_us p0))), .val (.int (own_cw p1)), .val (.int (own_cw (own_us p1))), .val (.int (own_n5 p2)), .val (.int (own_rm p3 ((own_n5 p2) + (1 : Int32)))), .val (.ref a_10), .val (.ref a_24), .val (.ref a_57), .val (.ref a_108), .unset, .unset, .unset]) rfl ?_
    refine XS.iconst X_161.here hx rfl (hb hby at_103) ?_
    refine st_177 _ ?_
    refine XS.dup X_173.here hx rfl (hb hby at_106) rfl rfl ?_
    refine XS.iconst X_173.here hx rfl (hb hby at_107) ?_
    refine XS.iload X_173.here hx rfl (hb hby at_108) rfl ?_
    refine st_196 _ ?_
    show Steps p.tables e below (T_191.setTop (mkF m 111 #[.val (.int p0), .val (.int p1), .val (.int p2), .val (.int p3), .val (.int (own_cw p0)), .val (.int (own_cw (own_us p0))), .val (.int (own_cw p1)), .val (.int (own_cw (own_us p1))), .val (.int (own_n5 p2)), .val (.int (own_rm p3 ((own_n5 p2) + (1 : Int32)))), .val (.ref a_10), .val (.ref a_24), .val (.ref a_57), .val (.ref a_108), .unset, .unset, .unset] [(.ref a_178)])) _
    refine XS.dup X_193.here hx rfl (hb hby at_111) rfl rfl ?_
    refine XS.iconst X_193.here hx rfl (hb hby at_112) ?_
    refine XS.iload X_193.here hx rfl (hb hby at_113) rfl ?_
    refine st_215 _ ?_
    refine XS.dup X_212.here hx rfl (hb hby at_116) rfl rfl ?_
    refine XS.iconst X_212.here hx rfl (hb hby at_117) ?_
    refine XS.iload X_212.here hx rfl (hb hby at_118) rfl ?_
    refine st_233 _ ?_
    show Steps p.tables e below (T_228.setTop (mkF m 121 #[.val (.int p0), .val (.int p1), .val (.int p2), .val (.int p3), .val (.int (own_cw p0)), .val (.int (own_cw (own_us p0))), .val (.int (own_cw p1)), .val (.int (own_cw (own_us p1))), .val (.int (own_n5 p2)), .val (.int (own_rm p3 ((own_n5 p2) + (1 : Int32)))), .val (.ref a_10), .val (.ref a_24), .val (.ref a_57), .val (.ref a_108), .unset, .unset, .unset] [(.ref a_178)])) _
    refine XS.dup X_230.here hx rfl (hb hby at_121) rfl rfl ?_
    refine XS.iconst X_230.here hx rfl (hb hby at_122) ?_
    refine XS.iload X_230.here hx rfl (hb hby at_123) rfl ?_
    refine st_251 _ ?_
    refine XS.astore X_248.here hx rfl (hb hby at_126) rfl rfl (l' := #[.val (.int p0), .val (.int p1), .val (.int p2), .val (.int p3), .val (.int (own_cw p0)), .val (.int (own_cw (own_us p0))), .val (.int (own_cw p1)), .val (.int (own_cw (own_us p1))), .val (.int (own_n5 p2)), .val (.int (own_rm p3 ((own_n5 p2) + (1 : Int32)))), .val (.ref a_10), .val (.ref a_24), .val (.ref a_57), .val (.ref a_108), .val (.ref a_178), .unset, .unset]) rfl ?_
    refine XS.iload X_248.here hx rfl (hb hby at_128) rfl ?_
    exact Steps.refl _
  have K_258 : Keep h0 h_247 [] := ((((((((((((((((Keep.refl _ _).ext E_7).ext E_21).wr W_41 (Or.inr (Nat.le_trans E_7.1 (Nat.le_of_eq g_25.symm)))).ext E_54).wr W_74 (Or.inr (Nat.le_trans (Nat.le_trans (Nat.le_trans E_7.1 E_21.1) (Keep.of_wr W_41).1) (Nat.le_of_eq g_58.symm)))).wr W_93 (Or.inr (Nat.le_trans (Nat.le_trans (Nat.le_trans E_7.1 E_21.1) (Keep.of_wr W_41).1) (Nat.le_of_eq g_58.symm)))).ext E_105).wr W_125 (Or.inr (Nat.le_trans (Nat.le_trans (Nat.le_trans (Nat.le_trans (Nat.le_trans (Nat.le_trans E_7.1 E_21.1) (Keep.of_wr W_41).1) E_54.1) (Keep.of_wr W_74).1) (Keep.of_wr W_93).1) (Nat.le_of_eq g_109.symm)))).wr W_144 (Or.inr (Nat.le_trans (Nat.le_trans (Nat.le_trans (Nat.le_trans (Nat.le_trans (Nat.le_trans E_7.1 E_21.1) (Keep.of_wr W_41).1) E_54.1) (Keep.of_wr W_74).1) (Keep.of_wr W_93).1) (Nat.le_of_eq g_109.symm)))).wr W_163 (Or.inr (Nat.le_trans (Nat.le_trans (Nat.le_trans (Nat.le_trans (Nat.le_trans (Nat.le_trans E_7.1 E_21.1) (Keep.of_wr W_41).1) E_54.1) (Keep.of_wr W_74).1) (Keep.of_wr W_93).1) (Nat.le_of_eq g_109.symm)))).ext E_175).wr W_195 (Or.inr (Nat.le_trans (Nat.le_trans (Nat.le_trans (Nat.le_trans (Nat.le_trans (Nat.le_trans (Nat.le_trans (Nat.le_trans (Nat.le_trans (Nat.le_trans E_7.1 E_21.1) (Keep.of_wr W_41).1) E_54.1) (Keep.of_wr W_74).1) (Keep.of_wr W_93).1) E_105.1) (Keep.of_wr W_125).1) (Keep.of_wr W_144).1) (Keep.of_wr W_163).1) (Nat.le_of_eq g_179.symm)))).wr W_214 (Or.inr (Nat.le_trans (Nat.le_trans (Nat.le_trans (Nat.le_trans (Nat.le_trans (Nat.le_trans (Nat.le_trans (Nat.le_trans (Nat.le_trans (Nat.le_trans E_7.1 E_21.1) (Keep.of_wr W_41).1) E_54.1) (Keep.of_wr W_74).1) (Keep.of_wr W_93).1) E_105.1) (Keep.of_wr W_125).1) (Keep.of_wr W_144).1) (Keep.of_wr W_163).1) (Nat.le_of_eq g_179.symm)))).wr W_232 (Or.inr (Nat.le_trans (Nat.le_trans (Nat.le_trans (Nat.le_trans (Nat.le_trans (Nat.le_trans (Nat.le_trans (Nat.le_trans (Nat.le_trans (Nat.le_trans E_7.1 E_21.1) (Keep.of_wr W_41).1) E_54.1) (Keep.of_wr W_74).1) (Keep.of_wr W_93).1) E_105.1) (Keep.of_wr W_125).1) (Keep.of_wr W_144).1) (Keep.of_wr W_163).1) (Nat.le_of_eq g_179.symm)))).wr W_250 (Or.inr (Nat.le_trans (Nat.le_trans (Nat.le_trans (Nat.le_trans (Nat.le_trans (Nat.le_trans (Nat.le_trans (Nat.le_trans (Nat.le_trans (Nat.le_trans E_7.1 E_21.1) (Keep.of_wr W_41).1) E_54.1) (Keep.of_wr W_74).1) (Keep.of_wr W_93).1) E_105.1) (Keep.of_wr W_125).1) (Keep.of_wr W_144).1) (Keep.of_wr W_163).1) (Nat.le_of_eq g_179.symm))))
  rcases own_mod5 p2 with hn_259 | hn_260 | hn_261 | hn_262 | hn_263
  · skip
    have C_264 : Steps p.tables e below S0 (T_246.setTop (mkF m 130 #[.val (.int p0), .val (.int p1), .val (.int p2), .val (.int p3), .val (.int (own_cw p0)), .val (.int (own_cw (own_us p0))), .val (.int (own_cw p1)), .val (.int (own_cw (own_us p1))), .val (.int (0 : Int32)), .val (.int (0 : Int32)), .val (.ref a_10), .val (.ref a_24), .val (.ref a_57), .val (.ref a_108), .val (.ref a_178), .unset, .unset] [(.int (0 : Int32))])) := by have q := C_257; rw [hn_259, own_rm1] at q; exact q
    obtain ⟨T_265, h_266, X_267, e_268, E_269, A_270, D_271, U_275, st_272⟩ := newO X_248 hx hZ hown (w3 hw) (w4 hw) (w5 hw) e_249 (g := (mkF m 133 #[.val (.int p0), .val (.int p1), .val (.int p2), .val (.int p3), .val (.int (own_cw p0)), .val (.int (own_cw (own_us p0))), .val (.int (own_cw p1)), .val (.int (own_cw (own_us p1))), .val (.int (0 : Int32)), .val (.int (0 : Int32)), .val (.ref a_10), .val (.ref a_24), .val (.ref a_57), .val (.ref a_108), .val (.ref a_178), .unset, .unset] [])) rfl (hb hby at_133) (by decide) (by decide)
    obtain ⟨a_273, g_274⟩ : ∃ z, z = h_247.size := ⟨_, rfl⟩
    rw [← g_274] at A_270 D_271 st_272 U_275
    have CH_276 : CHv Z consts_1 s.vm h_266 := CHv.ext E_269 CH_254
    have CR_277 : CHr Z consts_1 s.vm h0 s.vm h_266 := CR_255.trans (CHr.ext E_269 CH_254)
    have O_278 : Old Z n0 h_247 := (((((O_199.ext E_175).wr W_195 (Nat.le_trans (own_n0 O_199) (Nat.le_of_eq g_179.symm))).wr W_214 (Nat.le_trans (own_n0 O_199) (Nat.le_of_eq g_179.symm))).wr W_232 (Nat.le_trans (own_n0 O_199) (Nat.le_of_eq g_179.symm))).wr W_250 (Nat.le_trans (own_n0 O_199) (Nat.le_of_eq g_179.symm)))
    have V_279 : Arv Z h_266 a_10 k_4 .char (0 : Int32) [] (.int (0 : Int32)) := (((((((((((((((V_15.ext E_21).other W_41 (Nat.ne_of_lt (Nat.lt_of_lt_of_le V_15.lt (Nat.le_trans (Nat.le_refl _) (Nat.le_of_eq g_25.symm))))).ext E_54).other W_74 (Nat.ne_of_lt (Nat.lt_of_lt_of_le V_15.lt (Nat.le_trans (Nat.le_trans E_21.1 (Keep.of_wr W_41).1) (Nat.le_of_eq g_58.symm))))).other W_93 (Nat.ne_of_lt (Nat.lt_of_lt_of_le V_15.lt (Nat.le_trans (Nat.le_trans E_21.1 (Keep.of_wr W_41).1) (Nat.le_of_eq g_58.symm))))).ext E_105).other W_125 (Nat.ne_of_lt (Nat.lt_of_lt_of_le V_15.lt (Nat.le_trans (Nat.le_trans (Nat.le_trans (Nat.le_trans (Nat.le_trans E_21.1 (Keep.of_wr W_41).1) E_54.1) (Keep.of_wr W_74).1) (Keep.of_wr W_93).1) (Nat.le_of_eq g_109.symm))))).other W_144 (Nat.ne_of_lt (Nat.lt_of_lt_of_le V_15.lt (Nat.le_trans (Nat.le_trans (Nat.le_trans (Nat.le_trans (Nat.le_trans E_21.1 (Keep.of_wr W_41).1) E_54.1) (Keep.of_wr W_74).1) (Keep.of_wr W_93).1) (Nat.le_of_eq g_109.symm))))).other W_163 (Nat.ne_of_lt (Nat.lt_of_lt_of_le V_15.lt (Nat.le_trans (Nat.le_trans (Nat.le_trans (Nat.le_trans (Nat.le_trans E_21.1 (Keep.of_wr W_41).1) E_54.1) (Keep.of_wr W_74).1) (Keep.of_wr W_93).1) (Nat.le_of_eq g_109.symm))))).ext E_175).other W_195 (Nat.ne_of_lt (Nat.lt_of_lt_of_le V_15.lt (Nat.le_trans (Nat.le_trans (Nat.le_trans (Nat.le_trans (Nat.le_trans (Nat.le_trans (Nat.le_trans (Nat.le_trans (Nat.le_trans E_21.1 (Keep.of_wr W_41).1) E_54.1) (Keep.of_wr W_74).1) (Keep.of_wr W_93).1) E_105.1) (Keep.of_wr W_125).1) (Keep.of_wr W_144).1) (Keep.of_wr W_163).1) (Nat.le_of_eq g_179.symm))))).other W_214 (Nat.ne_of_lt (Nat.lt_of_lt_of_le V_15.lt (Nat.le_trans (Nat.le_trans (Nat.le_trans (Nat.le_trans (Nat.le_trans (Nat.le_trans (Nat.le_trans (Nat.le_trans (Nat.le_trans E_21.1 (Keep.of_wr W_41).1) E_54.1) (Keep.of_wr W_74).1) (Keep.of_wr W_93).1) E_105.1) (Keep.of_wr W_125).1) (Keep.of_wr W_144).1) (Keep.of_wr W_163).1) (Nat.le_of_eq g_179.symm))))).other W_232 (Nat.ne_of_lt (Nat.lt_of_lt_of_le V_15.lt (Nat.le_trans (Nat.le_trans (Nat.le_trans (Nat.le_trans (Nat.le_trans (Nat.le_trans (Nat.le_trans (Nat.le_trans (Nat.le_trans E_21.1 (Keep.of_wr W_41).1) E_54.1) (Keep.of_wr W_74).1) (Keep.of_wr W_93).1) E_105.1) (Keep.of_wr W_125).1) (Keep.of_wr W_144).1) (Keep.of_wr W_163).1) (Nat.le_of_eq g_179.symm))))).other W_250 (Nat.ne_of_lt (Nat.lt_of_lt_of_le V_15.lt (Nat.le_trans (Nat.le_trans (Nat.le_trans (Nat.le_trans (Nat.le_trans (Nat.le_trans (Nat.le_trans (Nat.le_trans (Nat.le_trans E_21.1 (Keep.of_wr W_41).1) E_54.1) (Keep.of_wr W_74).1) (Keep.of_wr W_93).1) E_105.1) (Keep.of_wr W_125).1) (Keep.of_wr W_144).1) (Keep.of_wr W_163).1) (Nat.le_of_eq g_179.symm))))).ext E_269)
    have O_280 : Old Z n0 h_266 := (O_278.ext E_269)
    obtain ⟨_, _, ⟨T_281, L_281, k_281, n_281⟩, -, Y_281, S_281, G_281, ⟨Lc_281, hQ_281, l_281, y_281, z_281, R_281⟩, st_281⟩ := X_267.specialBackS hx (y := M222) rfl hown (mvT hZ (w6 hw)) (mvT hZ (w7 hw)) (mvT hZ (w8 hw)) (by decide) (backOfSH (vm0 := s.vm) (W := 1) (rm_si1_0 l Z a0 hw [] G1 G3 HG h_266 n0 O_280 a_273 a_10 k_4 A_270 (D_271 (Or.inr (w31 hw)) (ty := (.array .byte)) (by decide)) (D_271 (Or.inr (w29 hw)) (ty := .byte) (by decide)) (Nat.le_trans (own_n0 O_278) (Nat.le_of_eq g_274.symm)) V_279) hZ (w8 hw) (w5 hw) (by decide) (by decide) hEL CH_276) (g := (mkF m 139 #[.val (.int p0), .val (.int p1), .val (.int p2), .val (.int p3), .val (.int (own_cw p0)), .val (.int (own_cw (own_us p0))), .val (.int (own_cw p1)), .val (.int (own_cw (own_us p1))), .val (.int (0 : Int32)), .val (.int (0 : Int32)), .val (.ref a_10), .val (.ref a_24), .val (.ref a_57), .val (.ref a_108), .val (.ref a_178), .unset, .unset] [(.ref a_10), (.ref a_273), (.ref a_273)])) rfl (by rw [hml]; rfl) (Steps.refl _) (a := a_273) (argsL := [(.ref a_10)]) (rest := [(.ref a_273)]) (lenOf pd_743 rfl) rfl (by show 2 * 0 + _ ≤ _; exact Nat.le_of_eq rfl) (hb hby at_139) (fun _ _ => ⟨rfl, e_268, (by decide : 6 + 4 ≤ _), (by decide : 14 + 8 ≤ _)⟩)
    dsimp only [Pt.U, Pt.locs, Pt.cells, Pt.slots] at Y_281 S_281 G_281 l_281 y_281 z_281 st_281 hQ_281 R_281
    have Y_281 := own_cast Y_281 l_281 y_281 z_281
    obtain ⟨X_281, hS_281, hZ_281, hown_281⟩ := rebS hS0 (n1 := T_265.heap.size) (by rw [show T_265.heap = h_266 from e_268]; exact (Nat.le_trans (Nat.le_refl _) (Nat.le_trans (Nat.le_trans (Nat.le_trans (Nat.le_trans (Nat.le_trans (Nat.le_trans (Nat.le_trans (Nat.le_trans (Nat.le_trans (Nat.le_trans (Nat.le_trans (Nat.le_trans (Nat.le_trans (Nat.le_trans (Nat.le_trans E_7.1 E_21.1) (Keep.of_wr W_41).1) E_54.1) (Keep.of_wr W_74).1) (Keep.of_wr W_93).1) E_105.1) (Keep.of_wr W_125).1) (Keep.of_wr W_144).1) (Keep.of_wr W_163).1) E_175.1) (Keep.of_wr W_195).1) (Keep.of_wr W_214).1) (Keep.of_wr W_232).1) (Keep.of_wr W_250).1) E_269.1))) Y_281 S_281 G_281 hZ hown
    obtain ⟨a_282, k_283, rfl, N_284, K_285, g_286, g_287, g_288, g_289⟩ := hQ_281
    have N_290 := Fr.app N_253 N_284
    have CH_291 : CHv Z consts_1 T_281.vm T_281.heap := R_281.1
    have CR_292 : CHr Z consts_1 s.vm h0 T_281.vm T_281.heap := CR_277.trans R_281
    have V_293 : Arv Z T_281.heap a_282 k_283 .byte (0 : Int32) (own_iv []) (.int (0 : Int32)) := g_289
    have S_294 : own_S Z T_281.heap a_273 (0 : Int32) [] := own_S0 g_286 g_288 g_287 V_293
    obtain ⟨T_295, h_296, X_297, e_298, E_299, A_300, D_301, U_305, st_302⟩ := newO X_281 hx hZ_281 hown_281 (w32 hw) (w33 hw) (w34 hw) rfl (g := (mkF m 218 #[.val (.int p0), .val (.int p1), .val (.int p2), .val (.int p3), .val (.int (own_cw p0)), .val (.int (own_cw (own_us p0))), .val (.int (own_cw p1)), .val (.int (own_cw (own_us p1))), .val (.int (0 : Int32)), .val (.int (0 : Int32)), .val (.ref a_10), .val (.ref a_24), .val (.ref a_57), .val (.ref a_108), .val (.ref a_178), .val (.ref a_273), .unset] [])) rfl (hb hby at_218) (by decide) (by decide)
    obtain ⟨a_303, g_304⟩ : ∃ z, z = T_281.heap.size := ⟨_, rfl⟩
    rw [← g_304] at A_300 D_301 st_302 U_305
    have CH_306 : CHv Z consts_1 T_281.vm h_296 := CHv.ext E_299 CH_291
    have CR_307 : CHr Z consts_1 s.vm h0 T_281.vm h_296 := CR_292.trans (CHr.ext E_299 CH_291)
    have O_308 : Old Z n0 T_281.heap := (O_280.keep K_285 (allS (Nat.le_trans (own_n0 O_278) (Nat.le_of_eq g_274.symm)) all0))
    have O_309 : Old Z n0 h_296 := (O_308.ext E_299)
    obtain ⟨_, _, ⟨T_310, L_310, k_310, n_310⟩, -, X_310, ⟨Lc_310, hQ_310, l_310, y_310, z_310⟩, st_310⟩ := X_297.specialBack hx (y := M701) rfl hown_281 (mvT hZ_281 (w35 hw)) (mvT hZ_281 (w36 hw)) (mvT hZ_281 (w37 hw)) (by decide) (backOf (W := 1) (rm_dii l Z a0 hw [] G1 G3 HG h_296 n0 O_309 a_303 a_273 (0 : Int32) A_300 (D_301 (Or.inr (w45 hw)) (ty := (.object "java/lang/String")) (by decide)) (D_301 (Or.inr (w47 hw)) (ty := .int) (by decide)) (Nat.le_trans (own_n0 O_308) (Nat.le_of_eq g_304.symm))) hZ_281 (w37 hw) (w34 hw) (by decide) (by decide)) (g := (mkF m 226 #[.val (.int p0), .val (.int p1), .val (.int p2), .val (.int p3), .val (.int (own_cw p0)), .val (.int (own_cw (own_us p0))), .val (.int (own_cw p1)), .val (.int (own_cw (own_us p1))), .val (.int (0 : Int32)), .val (.int (0 : Int32)), .val (.ref a_10), .val (.ref a_24), .val (.ref a_57), .val (.ref a_108), .val (.ref a_178), .val (.ref a_273), .unset] [(.int (0 : Int32)), (.ref a_273), (.ref a_303), (.ref a_303)])) rfl (by rw [hml]; rfl) (Steps.refl _) (a := a_303) (argsL := [(.ref a_273), (.int (0 : Int32))]) (rest := [(.ref a_303)]) (lenOf pd_749 rfl) rfl (by show 2 * 0 + _ ≤ _; exact Nat.le_of_eq rfl) (hb hby at_226) (fun _ _ => ⟨rfl, e_298, (by decide : 11 + 0 ≤ _), (by decide : 24 + 0 ≤ _)⟩)
    dsimp only [Pt.U, Pt.locs, Pt.cells, Pt.slots] at X_310 l_310 y_310 z_310 st_310 hQ_310
    have X_310 := own_cast X_310 l_310 y_310 z_310
    obtain ⟨rfl, N_311, K_312, g_313, g_314, g_315⟩ := hQ_310
    have N_316 := Fr.app N_290 N_311
    have CH_317 : CHv Z consts_1 T_281.vm T_310.heap := CHv.keep K_312 (sfS (Safe.exa hZ_281.alike A_300 (by decide) (by decide)) sf0) CH_306
    have CR_318 : CHr Z consts_1 s.vm h0 T_281.vm T_310.heap := CR_307.trans (CHr.keep K_312 (sfS (Safe.exa hZ_281.alike A_300 (by decide) (by decide)) sf0) CH_306)
    have E_319 : Exa Z T_310.heap a_273 "java/lang/String" := ((g_286.ext E_299).keep K_312)
    have S_320 : own_S Z T_310.heap a_273 (0 : Int32) [] := own_S.keep S_294 (((Keep.refl _ _).ext E_299).trans K_312 (allS (Or.inr (Nat.le_trans (Nat.le_refl _) (Nat.le_of_eq g_304.symm))) all0))
    have O_321 : Old Z n0 T_310.heap := (O_309.keep K_312 (allS (Nat.le_trans (own_n0 O_308) (Nat.le_of_eq g_304.symm)) all0))
    obtain ⟨q_323, q_324, q_325, q_326, q_327⟩ := isOf (T := T_310) hZ_281 rfl g_313
    obtain ⟨_, _, ⟨T_322, L_322, k_322, n_322⟩, -, Y_322, S_322, G_322, ⟨Lc_322, hQ_322, l_322, y_322, z_322, R_322⟩, st_322⟩ := X_310.virtualBackS hx (y := M722) (z := M722) hown_281 (mvT hZ_281 (w48 hw)) (mvT hZ_281 (w49 hw)) (notFace_of_selects (args := #[]) (mvT hZ_281 (w51 hw))) (mvT hZ_281 (w51 hw)) (mvT hZ_281 (w50 hw)) (by decide) (backOfSH (vm0 := T_281.vm) (W := 0) (rm_mp l Z a0 hw [] G1 G3 HG T_310.heap n0 O_321 a_303 a_273 (0 : Int32) [] (0 : Int32) g_313 g_314 g_315 E_319 S_320 (by decide) rfl own_u0 (by decide) (by decide) (by decide)) hZ_281 (w52 hw) (w34 hw) (by decide) (by decide) hEL CH_317) q_325 q_327 (g := (mkF m 229 #[.val (.int p0), .val (.int p1), .val (.int p2), .val (.int p3), .val (.int (own_cw p0)), .val (.int (own_cw (own_us p0))), .val (.int (own_cw p1)), .val (.int (own_cw (own_us p1))), .val (.int (0 : Int32)), .val (.int (0 : Int32)), .val (.ref a_10), .val (.ref a_24), .val (.ref a_57), .val (.ref a_108), .val (.ref a_178), .val (.ref a_273), .unset] [(.ref a_303)])) rfl (by rw [hml]; rfl) (Steps.refl _) (argsL := []) (rest := []) (lenOf pd_753 rfl) rfl (by show 2 * 0 + _ ≤ _; exact Nat.le_of_eq rfl) (hb hby at_229) (fun _ _ => ⟨rfl, rfl, (by decide : 11 + 3 ≤ _), (by decide : 24 + 28 ≤ _)⟩)
    dsimp only [Pt.U, Pt.locs, Pt.cells, Pt.slots] at Y_322 S_322 G_322 l_322 y_322 z_322 st_322 hQ_322 R_322
    have Y_322 := own_cast Y_322 l_322 y_322 z_322
    obtain ⟨X_322, hS_322, hZ_322, hown_322⟩ := rebS hS_281 (n1 := T_310.heap.size) (by rw [show T_310.heap = T_310.heap from rfl]; exact (Nat.le_trans (Nat.le_refl _) (Nat.le_trans E_299.1 K_312.1))) Y_322 S_322 G_322 hZ_281 hown_281
    obtain ⟨a_328, rfl, N_329, K_330, g_331, g_332⟩ := hQ_322
    have N_333 := Fr.app N_316 N_329
    have CH_334 : CHv Z consts_1 T_322.vm T_322.heap := R_322.1
    have CR_335 : CHr Z consts_1 s.vm h0 T_322.vm T_322.heap := CR_318.trans R_322
    have O_336 : Old Z n0 T_322.heap := (O_321.keep K_330 all0)
    obtain ⟨q_338, q_339, q_340, q_341, q_342⟩ := isOf (T := T_322) hZ_322 rfl g_331
    obtain ⟨_, _, ⟨T_337, L_337, k_337, n_337⟩, -, X_337, ⟨Lc_337, hQ_337, l_337, y_337, z_337⟩, st_337⟩ := X_322.virtualBack hx (y := M264) (z := M264) hown_322 (mvT hZ_322 (w107 hw)) (mvT hZ_322 (w59 hw)) (notFace_of_selects (args := #[]) (mvT hZ_322 (w61 hw))) (mvT hZ_322 (w61 hw)) (mvT hZ_322 (w60 hw)) (by decide) (backOf (W := 0) (rm_lenS l Z a0 hw [] G1 G3 HG T_322.heap n0 O_336 a_328 (0 : Int32) ([].take (0 : Int32).toNatClampNeg) g_332 (by decide) (by decide)) hZ_322 (w62 hw) (w5 hw) (by decide) (by decide)) q_340 q_342 (g := (mkF m 236 #[.val (.int p0), .val (.int p1), .val (.int p2), .val (.int p3), .val (.int (own_cw p0)), .val (.int (own_cw (own_us p0))), .val (.int (own_cw p1)), .val (.int (own_cw (own_us p1))), .val (.int (0 : Int32)), .val (.int (0 : Int32)), .val (.ref a_10), .val (.ref a_24), .val (.ref a_57), .val (.ref a_108), .val (.ref a_178), .val (.ref a_273), .val (.ref a_328)] [(.ref a_328)])) rfl (by rw [hml]; rfl) (Steps.refl _) (argsL := []) (rest := []) (lenOf pd_647 rfl) rfl (by show 2 * 0 + _ ≤ _; exact Nat.le_of_eq rfl) (hb hby at_236) (fun _ _ => ⟨rfl, rfl, (by decide : 14 + 0 ≤ _), (by decide : 52 + 0 ≤ _)⟩)
    dsimp only [Pt.U, Pt.locs, Pt.cells, Pt.slots] at X_337 l_337 y_337 z_337 st_337 hQ_337
    have X_337 := own_cast X_337 l_337 y_337 z_337
    obtain ⟨rfl, N_343, e_344⟩ := hQ_337
    have N_345 := Fr.app N_333 N_343
    have e_346 : T_337.heap = T_322.heap := e_344
    have C_347 : Steps p.tables e below S0 (T_337.setTop (mkF m 322 #[.val (.int p0), .val (.int p1), .val (.int p2), .val (.int p3), .val (.int (own_cw p0)), .val (.int (own_cw (own_us p0))), .val (.int (own_cw p1)), .val (.int (own_cw (own_us p1))), .val (.int (0 : Int32)), .val (.int (0 : Int32)), .val (.ref a_10), .val (.ref a_24), .val (.ref a_57), .val (.ref a_108), .val (.ref a_178), .val (.ref a_273), .val (.ref a_328)] [(.int (1 : Int32))])) := by
      refine C_264.trans ?_
      refine XS.ifNo X_248.here hx rfl (hb hby at_130) rfl (by decide) ?_
      refine st_272 _ ?_
      refine XS.dup X_267.here hx rfl (hb hby at_136) rfl rfl ?_
      refine XS.aload X_267.here hx rfl (hb hby at_137) rfl rfl ?_
      refine st_281.trans ?_
      refine XS.astore X_281.here hx rfl (hb hby at_142) rfl rfl (l' := #[.val (.int p0), .val (.int p1), .val (.int p2), .val (.int p3), .val (.int (own_cw p0)), .val (.int (own_cw (own_us p0))), .val (.int (own_cw p1)), .val (.int (own_cw (own_us p1))), .val (.int (0 : Int32)), .val (.int (0 : Int32)), .val (.ref a_10), .val (.ref a_24), .val (.ref a_57), .val (.ref a_108), .val (.ref a_178), .val (.ref a_273), .unset]) rfl ?_
      refine XS.goto X_281.here hx rfl (pc0 := 144) (pc' := 218) rfl (hb hby at_144) (by decide) (by decide) ?_
      refine st_302 _ ?_
      show Steps p.tables e below (T_295.setTop (mkF m 221 #[.val (.int p0), .val (.int p1), .val (.int p2), .val (.int p3), .val (.int (own_cw p0)), .val (.int (own_cw (own_us p0))), .val (.int (own_cw p1)), .val (.int (own_cw (own_us p1))), .val (.int (0 : Int32)), .val (.int (0 : Int32)), .val (.ref a_10), .val (.ref a_24), .val (.ref a_57), .val (.ref a_108), .val (.ref a_178), .val (.ref a_273), .unset] [(.ref a_303)])) _
      refine XS.dup X_297.here hx rfl (hb hby at_221) rfl rfl ?_
      refine XS.aload X_297.here hx rfl (hb hby at_222) rfl rfl ?_
      refine XS.iload X_297.here hx rfl (hb hby at_224) rfl ?_
      refine st_310.trans ?_
      refine st_322.trans ?_
      refine XS.astore X_322.here hx rfl (hb hby at_232) rfl rfl (l' := #[.val (.int p0), .val (.int p1), .val (.int p2), .val (.int p3), .val (.int (own_cw p0)), .val (.int (own_cw (own_us p0))), .val (.int (own_cw p1)), .val (.int (own_cw (own_us p1))), .val (.int (0 : Int32)), .val (.int (0 : Int32)), .val (.ref a_10), .val (.ref a_24), .val (.ref a_57), .val (.ref a_108), .val (.ref a_178), .val (.ref a_273), .val (.ref a_328)]) rfl ?_
      refine XS.aload X_322.here hx rfl (hb hby at_234) rfl rfl ?_
      refine st_337.trans ?_
      show Steps p.tables e below (T_337.setTop (mkF m 239 #[.val (.int p0), .val (.int p1), .val (.int p2), .val (.int p3), .val (.int (own_cw p0)), .val (.int (own_cw (own_us p0))), .val (.int (own_cw p1)), .val (.int (own_cw (own_us p1))), .val (.int (0 : Int32)), .val (.int (0 : Int32)), .val (.ref a_10), .val (.ref a_24), .val (.ref a_57), .val (.ref a_108), .val (.ref a_178), .val (.ref a_273), .val (.ref a_328)] [(.int (0 : Int32))])) _
      refine XS.iload X_337.here hx rfl (hb hby at_239) rfl ?_
      refine XS.icmpYes X_337.here hx rfl (pc0 := 241) (pc' := 246) rfl (hb hby at_241) rfl (by decide) (by decide) (by decide) ?_
      refine XS.iload X_337.here hx rfl (hb hby at_246) rfl ?_
      refine XS.ifYes X_337.here hx rfl (pc0 := 248) (pc' := 264) rfl (hb hby at_248) rfl (by decide) (by decide) (by decide) ?_
      refine XS.iload X_337.here hx rfl (hb hby at_264) rfl ?_
      refine XS.iconst X_337.here hx rfl (hb hby at_266) ?_
      refine XS.icmpYes X_337.here hx rfl (pc0 := 267) (pc' := 283) rfl (hb hby at_267) rfl (by decide) (by decide) (by decide) ?_
      refine XS.iload X_337.here hx rfl (hb hby at_283) rfl ?_
      show Steps p.tables e below (T_337.setTop (mkF m 285 #[.val (.int p0), .val (.int p1), .val (.int p2), .val (.int p3), .val (.int (own_cw p0)), .val (.int (own_cw (own_us p0))), .val (.int (own_cw p1)), .val (.int (own_cw (own_us p1))), .val (.int (0 : Int32)), .val (.int (0 : Int32)), .val (.ref a_10), .val (.ref a_24), .val (.ref a_57), .val (.ref a_108), .val (.ref a_178), .val (.ref a_273), .val (.ref a_328)] [(.int (0 : Int32))])) _
      refine XS.iconst X_337.here hx rfl (hb hby at_285) ?_
      refine XS.icmpYes X_337.here hx rfl (pc0 := 286) (pc' := 302) rfl (hb hby at_286) rfl (by decide) (by decide) (by decide) ?_
      refine XS.iload X_337.here hx rfl (hb hby at_302) rfl ?_
      refine XS.iconst X_337.here hx rfl (hb hby at_304) ?_
      refine XS.icmpYes X_337.here hx rfl (pc0 := 305) (pc' := 321) rfl (hb hby at_305) rfl (by decide) (by decide) (by decide) ?_
      refine XS.iconst X_337.here hx rfl (hb hby at_321) ?_
      exact Steps.refl _
    have K_348 : Keep h0 T_322.heap [] := (((((K_258.ext E_269).trans K_285 (allS (Or.inr (Nat.le_trans (Nat.le_trans (Nat.le_trans (Nat.le_trans (Nat.le_trans (Nat.le_trans (Nat.le_trans (Nat.le_trans (Nat.le_trans (Nat.le_trans (Nat.le_trans (Nat.le_trans (Nat.le_trans (Nat.le_trans (Nat.le_trans E_7.1 E_21.1) (Keep.of_wr W_41).1) E_54.1) (Keep.of_wr W_74).1) (Keep.of_wr W_93).1) E_105.1) (Keep.of_wr W_125).1) (Keep.of_wr W_144).1) (Keep.of_wr W_163).1) E_175.1) (Keep.of_wr W_195).1) (Keep.of_wr W_214).1) (Keep.of_wr W_232).1) (Keep.of_wr W_250).1) (Nat.le_of_eq g_274.symm))) all0)).ext E_299).trans K_312 (allS (Or.inr (Nat.le_trans (Nat.le_trans (Nat.le_trans (Nat.le_trans (Nat.le_trans (Nat.le_trans (Nat.le_trans (Nat.le_trans (Nat.le_trans (Nat.le_trans (Nat.le_trans (Nat.le_trans (Nat.le_trans (Nat.le_trans (Nat.le_trans (Nat.le_trans (Nat.le_trans E_7.1 E_21.1) (Keep.of_wr W_41).1) E_54.1) (Keep.of_wr W_74).1) (Keep.of_wr W_93).1) E_105.1) (Keep.of_wr W_125).1) (Keep.of_wr W_144).1) (Keep.of_wr W_163).1) E_175.1) (Keep.of_wr W_195).1) (Keep.of_wr W_214).1) (Keep.of_wr W_232).1) (Keep.of_wr W_250).1) E_269.1) K_285.1) (Nat.le_of_eq g_304.symm))) all0)).trans K_330 all0)
    obtain ⟨fs, hr, hrun, hended, hRE⟩ := X_337.leaveW hS_322 (by rw [show T_337.heap = T_322.heap from e_346]; exact (Nat.le_refl _)) (v := some (.int (1 : Int32))) (fun h => by rw [Bd.returns] at h; cases h)
    refine ⟨_, _, C_347.trans (retN X_337 hx (t := .boolean) Bd.returns (by simp) (hb hby at_322) hr), hrun, hended, _, _, rfl, ?_, ?_, hRE.1, hRE.2.1, hRE.2.2.1, hRE.2.2.2.mono (by decide) (by decide)⟩
    · show Q_law Z G1 G3 p0 p1 p2 p3 h0 n0 (some (.int (1 : Int32))) T_337.heap _
      rw [e_346]
      exact ⟨rfl, N_345, K_348⟩
    · show CHr Z consts_1 s.vm s.heap T_337.vm T_337.heap
      rw [hh, show T_337.heap = T_322.heap from e_346]
      exact CR_335.trans (CHv.at X_337 hZ_322 hEL CH_334)
  · skip
    have C_349 : Steps p.tables e below S0 (T_246.setTop (mkF m 130 #[.val (.int p0), .val (.int p1), .val (.int p2), .val (.int p3), .val (.int (own_cw p0)), .val (.int (own_cw (own_us p0))), .val (.int (own_cw p1)), .val (.int (own_cw (own_us p1))), .val (.int (1 : Int32)), .val (.int (own_rm p3 ((1 : Int32) + (1 : Int32)))), .val (.ref a_10), .val (.ref a_24), .val (.ref a_57), .val (.ref a_108), .val (.ref a_178), .unset, .unset] [(.int (1 : Int32))])) := by have q := C_257; rw [hn_260] at q; exact q
    have hm_350 := own_rmr p3 (k := 1) (by decide) (by decide)
    obtain ⟨T_351, h_352, X_353, e_354, E_355, A_356, D_357, U_361, st_358⟩ := newO X_248 hx hZ hown (w3 hw) (w4 hw) (w5 hw) e_249 (g := (mkF m 153 #[.val (.int p0), .val (.int p1), .val (.int p2), .val (.int p3), .val (.int (own_cw p0)), .val (.int (own_cw (own_us p0))), .val (.int (own_cw p1)), .val (.int (own_cw (own_us p1))), .val (.int (1 : Int32)), .val (.int (own_rm p3 ((1 : Int32) + (1 : Int32)))), .val (.ref a_10), .val (.ref a_24), .val (.ref a_57), .val (.ref a_108), .val (.ref a_178), .unset, .unset] [])) rfl (hb hby at_153) (by decide) (by decide)
    obtain ⟨a_359, g_360⟩ : ∃ z, z = h_247.size := ⟨_, rfl⟩
    rw [← g_360] at A_356 D_357 st_358 U_361
    have CH_362 : CHv Z consts_1 s.vm h_352 := CHv.ext E_355 CH_254
    have CR_363 : CHr Z consts_1 s.vm h0 s.vm h_352 := CR_255.trans (CHr.ext E_355 CH_254)
    have V_364 : Arv Z h_352 a_24 k_18 .char (1 : Int32) [(.int (own_cw p0))] (.int (0 : Int32)) := (((((((((((((V_48.ext E_54).other W_74 (Nat.ne_of_lt (Nat.lt_of_lt_of_le V_48.lt (Nat.le_trans (Nat.le_refl _) (Nat.le_of_eq g_58.symm))))).other W_93 (Nat.ne_of_lt (Nat.lt_of_lt_of_le V_48.lt (Nat.le_trans (Nat.le_refl _) (Nat.le_of_eq g_58.symm))))).ext E_105).other W_125 (Nat.ne_of_lt (Nat.lt_of_lt_of_le V_48.lt (Nat.le_trans (Nat.le_trans (Nat.le_trans E_54.1 (Keep.of_wr W_74).1) (Keep.of_wr W_93).1) (Nat.le_of_eq g_109.symm))))).other W_144 (Nat.ne_of_lt (Nat.lt_of_lt_of_le V_48.lt (Nat.le_trans (Nat.le_trans (Nat.le_trans E_54.1 (Keep.of_wr W_74).1) (Keep.of_wr W_93).1) (Nat.le_of_eq g_109.symm))))).other W_163 (Nat.ne_of_lt (Nat.lt_of_lt_of_le V_48.lt (Nat.le_trans (Nat.le_trans (Nat.le_trans E_54.1 (Keep.of_wr W_74).1) (Keep.of_wr W_93).1) (Nat.le_of_eq g_109.symm))))).ext E_175).other W_195 (Nat.ne_of_lt (Nat.lt_of_lt_of_le V_48.lt (Nat.le_trans (Nat.le_trans (Nat.le_trans (Nat.le_trans (Nat.le_trans (Nat.le_trans (Nat.le_trans E_54.1 (Keep.of_wr W_74).1) (Keep.of_wr W_93).1) E_105.1) (Keep.of_wr W_125).1) (Keep.of_wr W_144).1) (Keep.of_wr W_163).1) (Nat.le_of_eq g_179.symm))))).other W_214 (Nat.ne_of_lt (Nat.lt_of_lt_of_le V_48.lt (Nat.le_trans (Nat.le_trans (Nat.le_trans (Nat.le_trans (Nat.le_trans (Nat.le_trans (Nat.le_trans E_54.1 (Keep.of_wr W_74).1) (Keep.of_wr W_93).1) E_105.1) (Keep.of_wr W_125).1) (Keep.of_wr W_144).1) (Keep.of_wr W_163).1) (Nat.le_of_eq g_179.symm))))).other W_232 (Nat.ne_of_lt (Nat.lt_of_lt_of_le V_48.lt (Nat.le_trans (Nat.le_trans (Nat.le_trans (Nat.le_trans (Nat.le_trans (Nat.le_trans (Nat.le_trans E_54.1 (Keep.of_wr W_74).1) (Keep.of_wr W_93).1) E_105.1) (Keep.of_wr W_125).1) (Keep.of_wr W_144).1) (Keep.of_wr W_163).1) (Nat.le_of_eq g_179.symm))))).other W_250 (Nat.ne_of_lt (Nat.lt_of_lt_of_le V_48.lt (Nat.le_trans (Nat.le_trans (Nat.le_trans (Nat.le_trans (Nat.le_trans (Nat.le_trans (Nat.le_trans E_54.1 (Keep.of_wr W_74).1) (Keep.of_wr W_93).1) E_105.1) (Keep.of_wr W_125).1) (Keep.of_wr W_144).1) (Keep.of_wr W_163).1) (Nat.le_of_eq g_179.symm))))).ext E_355)
    have V_365 : Arv Z h_352 a_24 k_18 .char (1 : Int32) (own_iv [(own_cw p0)]) (.int (0 : Int32)) := V_364
    have O_366 : Old Z n0 h_247 := (((((O_199.ext E_175).wr W_195 (Nat.le_trans (own_n0 O_199) (Nat.le_of_eq g_179.symm))).wr W_214 (Nat.le_trans (own_n0 O_199) (Nat.le_of_eq g_179.symm))).wr W_232 (Nat.le_trans (own_n0 O_199) (Nat.le_of_eq g_179.symm))).wr W_250 (Nat.le_trans (own_n0 O_199) (Nat.le_of_eq g_179.symm)))
    have O_367 : Old Z n0 h_352 := (O_366.ext E_355)
    obtain ⟨_, _, ⟨T_368, L_368, k_368, n_368⟩, -, X_368, ⟨Lc_368, hQ_368, l_368, y_368, z_368⟩, st_368⟩ := X_353.specialBack hx (y := M222) rfl hown (mvT hZ (w6 hw)) (mvT hZ (w7 hw)) (mvT hZ (w8 hw)) (by decide) (backOf (W := 1) (rm_si1g l Z a0 hw [] G1 G3 HG h_352 n0 O_367 a_359 a_24 k_18 (1 : Int32) [(own_cw p0)] A_356 (D_357 (Or.inr (w31 hw)) (ty := (.array .byte)) (by decide)) (D_357 (Or.inr (w29 hw)) (ty := .byte) (by decide)) (Nat.le_trans (own_n0 O_366) (Nat.le_of_eq g_360.symm)) V_365 (by decide) (by decide) rfl (own_u1 (own_cw_lo _) (own_cw_hi _) own_u0) (by decide)) hZ (w8 hw) (w5 hw) (by decide) (by decide)) (g := (mkF m 159 #[.val (.int p0), .val (.int p1), .val (.int p2), .val (.int p3), .val (.int (own_cw p0)), .val (.int (own_cw (own_us p0))), .val (.int (own_cw p1)), .val (.int (own_cw (own_us p1))), .val (.int (1 : Int32)), .val (.int (own_rm p3 ((1 : Int32) + (1 : Int32)))), .val (.ref a_10), .val (.ref a_24), .val (.ref a_57), .val (.ref a_108), .val (.ref a_178), .unset, .unset] [(.ref a_24), (.ref a_359), (.ref a_359)])) rfl (by rw [hml]; rfl) (Steps.refl _) (a := a_359) (argsL := [(.ref a_24)]) (rest := [(.ref a_359)]) (lenOf pd_743 rfl) rfl (by show 2 * 0 + _ ≤ _; exact Nat.le_of_eq rfl) (hb hby at_159) (fun _ _ => ⟨rfl, e_354, (by decide : 6 + 2 ≤ _), (by decide : 14 + 24 ≤ _)⟩)
    dsimp only [Pt.U, Pt.locs, Pt.cells, Pt.slots] at X_368 l_368 y_368 z_368 st_368 hQ_368
    have X_368 := own_cast X_368 l_368 y_368 z_368
    obtain ⟨rfl, N_369, K_370, g_371⟩ := hQ_368
    have N_372 := Fr.app N_253 N_369
    have CH_373 : CHv Z consts_1 s.vm T_368.heap := CHv.keep K_370 (sfS (own_safe_null hZ.alike A_356 (D_357 (Or.inr (w31 hw)) (ty := (.array .byte)) (by decide))) sf0) CH_362
    have CR_374 : CHr Z consts_1 s.vm h0 s.vm T_368.heap := CR_363.trans (CHr.keep K_370 (sfS (own_safe_null hZ.alike A_356 (D_357 (Or.inr (w31 hw)) (ty := (.array .byte)) (by decide))) sf0) CH_362)
    obtain ⟨T_375, h_376, X_377, e_378, E_379, A_380, D_381, U_385, st_382⟩ := newO X_368 hx hZ hown (w32 hw) (w33 hw) (w34 hw) rfl (g := (mkF m 218 #[.val (.int p0), .val (.int p1), .val (.int p2), .val (.int p3), .val (.int (own_cw p0)), .val (.int (own_cw (own_us p0))), .val (.int (own_cw p1)), .val (.int (own_cw (own_us p1))), .val (.int (1 : Int32)), .val (.int (own_rm p3 ((1 : Int32) + (1 : Int32)))), .val (.ref a_10), .val (.ref a_24), .val (.ref a_57), .val (.ref a_108), .val (.ref a_178), .val (.ref a_359), .unset] [])) rfl (hb hby at_218) (by decide) (by decide)
    obtain ⟨a_383, g_384⟩ : ∃ z, z = T_368.heap.size := ⟨_, rfl⟩
    rw [← g_384] at A_380 D_381 st_382 U_385
    have CH_386 : CHv Z consts_1 s.vm h_376 := CHv.ext E_379 CH_373
    have CR_387 : CHr Z consts_1 s.vm h0 s.vm h_376 := CR_374.trans (CHr.ext E_379 CH_373)
    have O_388 : Old Z n0 T_368.heap := (O_367.keep K_370 (allS (Nat.le_trans (own_n0 O_366) (Nat.le_of_eq g_360.symm)) all0))
    have O_389 : Old Z n0 h_376 := (O_388.ext E_379)
    obtain ⟨_, _, ⟨T_390, L_390, k_390, n_390⟩, -, X_390, ⟨Lc_390, hQ_390, l_390, y_390, z_390⟩, st_390⟩ := X_377.specialBack hx (y := M701) rfl hown (mvT hZ (w35 hw)) (mvT hZ (w36 hw)) (mvT hZ (w37 hw)) (by decide) (backOf (W := 1) (rm_dii l Z a0 hw [] G1 G3 HG h_376 n0 O_389 a_383 a_359 (own_rm p3 ((1 : Int32) + (1 : Int32))) A_380 (D_381 (Or.inr (w45 hw)) (ty := (.object "java/lang/String")) (by decide)) (D_381 (Or.inr (w47 hw)) (ty := .int) (by decide)) (Nat.le_trans (own_n0 O_388) (Nat.le_of_eq g_384.symm))) hZ (w37 hw) (w34 hw) (by decide) (by decide)) (g := (mkF m 226 #[.val (.int p0), .val (.int p1), .val (.int p2), .val (.int p3), .val (.int (own_cw p0)), .val (.int (own_cw (own_us p0))), .val (.int (own_cw p1)), .val (.int (own_cw (own_us p1))), .val (.int (1 : Int32)), .val (.int (own_rm p3 ((1 : Int32) + (1 : Int32)))), .val (.ref a_10), .val (.ref a_24), .val (.ref a_57), .val (.ref a_108), .val (.ref a_178), .val (.ref a_359), .unset] [(.int (own_rm p3 ((1 : Int32) + (1 : Int32)))), (.ref a_359), (.ref a_383), (.ref a_383)])) rfl (by rw [hml]; rfl) (Steps.refl _) (a := a_383) (argsL := [(.ref a_359), (.int (own_rm p3 ((1 : Int32) + (1 : Int32))))]) (rest := [(.ref a_383)]) (lenOf pd_749 rfl) rfl (by show 2 * 0 + _ ≤ _; exact Nat.le_of_eq rfl) (hb hby at_226) (fun _ _ => ⟨rfl, e_378, (by decide : 9 + 0 ≤ _), (by decide : 40 + 0 ≤ _)⟩)
    dsimp only [Pt.U, Pt.locs, Pt.cells, Pt.slots] at X_390 l_390 y_390 z_390 st_390 hQ_390
    have X_390 := own_cast X_390 l_390 y_390 z_390
    obtain ⟨rfl, N_391, K_392, g_393, g_394, g_395⟩ := hQ_390
    have N_396 := Fr.app N_372 N_391
    have CH_397 : CHv Z consts_1 s.vm T_390.heap := CHv.keep K_392 (sfS (Safe.exa hZ.alike A_380 (by decide) (by decide)) sf0) CH_386
    have CR_398 : CHr Z consts_1 s.vm h0 s.vm T_390.heap := CR_387.trans (CHr.keep K_392 (sfS (Safe.exa hZ.alike A_380 (by decide) (by decide)) sf0) CH_386)
    have E_399 : Exa Z T_390.heap a_359 "java/lang/String" := (((A_356.keep K_370).ext E_379).keep K_392)
    have S_400 : own_S Z T_390.heap a_359 (1 : Int32) [(own_cw p0)] := own_S.keep g_371 (((Keep.refl _ _).ext E_379).trans K_392 (allS (Or.inr (Nat.le_trans (Nat.le_refl _) (Nat.le_of_eq g_384.symm))) all0))
    have O_401 : Old Z n0 T_390.heap := (O_389.keep K_392 (allS (Nat.le_trans (own_n0 O_388) (Nat.le_of_eq g_384.symm)) all0))
    obtain ⟨q_403, q_404, q_405, q_406, q_407⟩ := isOf (T := T_390) hZ rfl g_393
    obtain ⟨_, _, ⟨T_402, L_402, k_402, n_402⟩, -, Y_402, S_402, G_402, ⟨Lc_402, hQ_402, l_402, y_402, z_402, R_402⟩, st_402⟩ := X_390.virtualBackS hx (y := M722) (z := M722) hown (mvT hZ (w48 hw)) (mvT hZ (w49 hw)) (notFace_of_selects (args := #[]) (mvT hZ (w51 hw))) (mvT hZ (w51 hw)) (mvT hZ (w50 hw)) (by decide) (backOfSH (vm0 := s.vm) (W := 0) (rm_mp l Z a0 hw [] G1 G3 HG T_390.heap n0 O_401 a_383 a_359 (1 : Int32) [(own_cw p0)] (own_rm p3 ((1 : Int32) + (1 : Int32))) g_393 g_394 g_395 E_399 S_400 (by decide) rfl (own_u1 (own_cw_lo _) (own_cw_hi _) own_u0) (by decide) hm_350.1 (own_ge1 hm_350.2.1 (by decide))) hZ (w52 hw) (w34 hw) (by decide) (by decide) hEL CH_397) q_405 q_407 (g := (mkF m 229 #[.val (.int p0), .val (.int p1), .val (.int p2), .val (.int p3), .val (.int (own_cw p0)), .val (.int (own_cw (own_us p0))), .val (.int (own_cw p1)), .val (.int (own_cw (own_us p1))), .val (.int (1 : Int32)), .val (.int (own_rm p3 ((1 : Int32) + (1 : Int32)))), .val (.ref a_10), .val (.ref a_24), .val (.ref a_57), .val (.ref a_108), .val (.ref a_178), .val (.ref a_359), .unset] [(.ref a_383)])) rfl (by rw [hml]; rfl) (Steps.refl _) (argsL := []) (rest := []) (lenOf pd_753 rfl) rfl (by show 2 * 0 + _ ≤ _; exact Nat.le_of_eq rfl) (hb hby at_229) (fun _ _ => ⟨rfl, rfl, (by decide : 9 + 3 ≤ _), (by decide : 40 + 28 ≤ _)⟩)
    dsimp only [Pt.U, Pt.locs, Pt.cells, Pt.slots] at Y_402 S_402 G_402 l_402 y_402 z_402 st_402 hQ_402 R_402
    have Y_402 := own_cast Y_402 l_402 y_402 z_402
    obtain ⟨X_402, hS_402, hZ_402, hown_402⟩ := rebS hS0 (n1 := T_390.heap.size) (by rw [show T_390.heap = T_390.heap from rfl]; exact (Nat.le_trans (Nat.le_refl _) (Nat.le_trans (Nat.le_trans (Nat.le_trans (Nat.le_trans (Nat.le_trans (Nat.le_trans (Nat.le_trans (Nat.le_trans (Nat.le_trans (Nat.le_trans (Nat.le_trans (Nat.le_trans (Nat.le_trans (Nat.le_trans (Nat.le_trans (Nat.le_trans (Nat.le_trans (Nat.le_trans E_7.1 E_21.1) (Keep.of_wr W_41).1) E_54.1) (Keep.of_wr W_74).1) (Keep.of_wr W_93).1) E_105.1) (Keep.of_wr W_125).1) (Keep.of_wr W_144).1) (Keep.of_wr W_163).1) E_175.1) (Keep.of_wr W_195).1) (Keep.of_wr W_214).1) (Keep.of_wr W_232).1) (Keep.of_wr W_250).1) E_355.1) K_370.1) E_379.1) K_392.1))) Y_402 S_402 G_402 hZ hown
    obtain ⟨a_408, rfl, N_409, K_410, g_411, g_412⟩ := hQ_402
    have N_413 := Fr.app N_396 N_409
    have CH_414 : CHv Z consts_1 T_402.vm T_402.heap := R_402.1
    have CR_415 : CHr Z consts_1 s.vm h0 T_402.vm T_402.heap := CR_398.trans R_402
    have O_416 : Old Z n0 T_402.heap := (O_401.keep K_410 all0)
    obtain ⟨q_418, q_419, q_420, q_421, q_422⟩ := isOf (T := T_402) hZ_402 rfl g_411
    obtain ⟨_, _, ⟨T_417, L_417, k_417, n_417⟩, -, X_417, ⟨Lc_417, hQ_417, l_417, y_417, z_417⟩, st_417⟩ := X_402.virtualBack hx (y := M264) (z := M264) hown_402 (mvT hZ_402 (w107 hw)) (mvT hZ_402 (w59 hw)) (notFace_of_selects (args := #[]) (mvT hZ_402 (w61 hw))) (mvT hZ_402 (w61 hw)) (mvT hZ_402 (w60 hw)) (by decide) (backOf (W := 0) (rm_lenS l Z a0 hw [] G1 G3 HG T_402.heap n0 O_416 a_408 (own_rm p3 ((1 : Int32) + (1 : Int32))) ([(own_cw p0)].take (own_rm p3 ((1 : Int32) + (1 : Int32))).toNatClampNeg) g_412 hm_350.1 hm_350.2.2) hZ_402 (w62 hw) (w5 hw) (by decide) (by decide)) q_420 q_422 (g := (mkF m 236 #[.val (.int p0), .val (.int p1), .val (.int p2), .val (.int p3), .val (.int (own_cw p0)), .val (.int (own_cw (own_us p0))), .val (.int (own_cw p1)), .val (.int (own_cw (own_us p1))), .val (.int (1 : Int32)), .val (.int (own_rm p3 ((1 : Int32) + (1 : Int32)))), .val (.ref a_10), .val (.ref a_24), .val (.ref a_57), .val (.ref a_108), .val (.ref a_178), .val (.ref a_359), .val (.ref a_408)] [(.ref a_408)])) rfl (by rw [hml]; rfl) (Steps.refl _) (argsL := []) (rest := []) (lenOf pd_647 rfl) rfl (by show 2 * 0 + _ ≤ _; exact Nat.le_of_eq rfl) (hb hby at_236) (fun _ _ => ⟨rfl, rfl, (by decide : 12 + 0 ≤ _), (by decide : 68 + 0 ≤ _)⟩)
    dsimp only [Pt.U, Pt.locs, Pt.cells, Pt.slots] at X_417 l_417 y_417 z_417 st_417 hQ_417
    have X_417 := own_cast X_417 l_417 y_417 z_417
    obtain ⟨rfl, N_423, e_424⟩ := hQ_417
    have N_425 := Fr.app N_413 N_423
    have e_426 : T_417.heap = T_402.heap := e_424
    have C_427 : Steps p.tables e below S0 (T_417.setTop (mkF m 248 #[.val (.int p0), .val (.int p1), .val (.int p2), .val (.int p3), .val (.int (own_cw p0)), .val (.int (own_cw (own_us p0))), .val (.int (own_cw p1)), .val (.int (own_cw (own_us p1))), .val (.int (1 : Int32)), .val (.int (own_rm p3 ((1 : Int32) + (1 : Int32)))), .val (.ref a_10), .val (.ref a_24), .val (.ref a_57), .val (.ref a_108), .val (.ref a_178), .val (.ref a_359), .val (.ref a_408)] [(.int (own_rm p3 ((1 : Int32) + (1 : Int32))))])) := by
      refine C_349.trans ?_
      refine XS.ifYes X_248.here hx rfl (pc0 := 130) (pc' := 147) rfl (hb hby at_130) rfl (by decide) (by decide) (by decide) ?_
      refine XS.iload X_248.here hx rfl (hb hby at_147) rfl ?_
      refine XS.iconst X_248.here hx rfl (hb hby at_149) ?_
      refine XS.icmpNo X_248.here hx rfl (hb hby at_150) rfl (by decide) ?_
      refine st_358 _ ?_
      refine XS.dup X_353.here hx rfl (hb hby at_156) rfl rfl ?_
      refine XS.aload X_353.here hx rfl (hb hby at_157) rfl rfl ?_
      refine st_368.trans ?_
      show Steps p.tables e below (T_368.setTop (mkF m 162 #[.val (.int p0), .val (.int p1), .val (.int p2), .val (.int p3), .val (.int (own_cw p0)), .val (.int (own_cw (own_us p0))), .val (.int (own_cw p1)), .val (.int (own_cw (own_us p1))), .val (.int (1 : Int32)), .val (.int (own_rm p3 ((1 : Int32) + (1 : Int32)))), .val (.ref a_10), .val (.ref a_24), .val (.ref a_57), .val (.ref a_108), .val (.ref a_178), .unset, .unset] [(.ref a_359)])) _
      refine XS.astore X_368.here hx rfl (hb hby at_162) rfl rfl (l' := #[.val (.int p0), .val (.int p1), .val (.int p2), .val (.int p3), .val (.int (own_cw p0)), .val (.int (own_cw (own_us p0))), .val (.int (own_cw p1)), .val (.int (own_cw (own_us p1))), .val (.int (1 : Int32)), .val (.int (own_rm p3 ((1 : Int32) + (1 : Int32)))), .val (.ref a_10), .val (.ref a_24), .val (.ref a_57), .val (.ref a_108), .val (.ref a_178), .val (.ref a_359), .unset]) rfl ?_
      refine XS.goto X_368.here hx rfl (pc0 := 164) (pc' := 218) rfl (hb hby at_164) (by decide) (by decide) ?_
      refine st_382 _ ?_
      refine XS.dup X_377.here hx rfl (hb hby at_221) rfl rfl ?_
      refine XS.aload X_377.here hx rfl (hb hby at_222) rfl rfl ?_
      refine XS.iload X_377.here hx rfl (hb hby at_224) rfl ?_
      refine st_390.trans ?_
      refine st_402.trans ?_
      show Steps p.tables e below (T_402.setTop (mkF m 232 #[.val (.int p0), .val (.int p1), .val (.int p2), .val (.int p3), .val (.int (own_cw p0)), .val (.int (own_cw (own_us p0))), .val (.int (own_cw p1)), .val (.int (own_cw (own_us p1))), .val (.int (1 : Int32)), .val (.int (own_rm p3 ((1 : Int32) + (1 : Int32)))), .val (.ref a_10), .val (.ref a_24), .val (.ref a_57), .val (.ref a_108), .val (.ref a_178), .val (.ref a_359), .unset] [(.ref a_408)])) _
      refine XS.astore X_402.here hx rfl (hb hby at_232) rfl rfl (l' := #[.val (.int p0), .val (.int p1), .val (.int p2), .val (.int p3), .val (.int (own_cw p0)), .val (.int (own_cw (own_us p0))), .val (.int (own_cw p1)), .val (.int (own_cw (own_us p1))), .val (.int (1 : Int32)), .val (.int (own_rm p3 ((1 : Int32) + (1 : Int32)))), .val (.ref a_10), .val (.ref a_24), .val (.ref a_57), .val (.ref a_108), .val (.ref a_178), .val (.ref a_359), .val (.ref a_408)]) rfl ?_
      refine XS.aload X_402.here hx rfl (hb hby at_234) rfl rfl ?_
      refine st_417.trans ?_
      refine XS.iload X_417.here hx rfl (hb hby at_239) rfl ?_
      refine XS.icmpYes X_417.here hx rfl (pc0 := 241) (pc' := 246) rfl (hb hby at_241) rfl (ii_eq_t rfl) (by decide) (by decide) ?_
      refine XS.iload X_417.here hx rfl (hb hby at_246) rfl ?_
      exact Steps.refl _
    by_cases hc_428 : (0 : Int32) < (own_rm p3 ((1 : Int32) + (1 : Int32)))
    · skip
      obtain ⟨q_430, q_431, q_432, q_433, q_434⟩ := isOf (T := T_417) hZ_402 e_426 g_411
      obtain ⟨_, _, ⟨T_429, L_429, k_429, n_429⟩, -, X_429, ⟨Lc_429, hQ_429, l_429, y_429, z_429⟩, st_429⟩ := X_417.virtualBack hx (y := M319) (z := M319) hown_402 (mvT hZ_402 (w108 hw)) (mvT hZ_402 (w109 hw)) (notFace_of_selects (args := #[]) (mvT hZ_402 (w111 hw))) (mvT hZ_402 (w111 hw)) (mvT hZ_402 (w110 hw)) (by decide) (backOf (W := 0) (rm_chS l Z a0 hw [] G1 G3 HG T_402.heap n0 O_416 a_408 (own_rm p3 ((1 : Int32) + (1 : Int32))) ([(own_cw p0)].take (own_rm p3 ((1 : Int32) + (1 : Int32))).toNatClampNeg) (0 : Int32) g_412 hm_350.1 (own_tkl (n := (1 : Int32)) rfl hm_350.1 hm_350.2.1) (own_u16take (own_u1 (own_cw_lo _) (own_cw_hi _) own_u0) _) hm_350.2.2 (by decide) hc_428) hZ_402 (w112 hw) (w5 hw) (by decide) (by decide)) q_432 q_434 (g := (mkF m 254 #[.val (.int p0), .val (.int p1), .val (.int p2), .val (.int p3), .val (.int (own_cw p0)), .val (.int (own_cw (own_us p0))), .val (.int (own_cw p1)), .val (.int (own_cw (own_us p1))), .val (.int (1 : Int32)), .val (.int (own_rm p3 ((1 : Int32) + (1 : Int32)))), .val (.ref a_10), .val (.ref a_24), .val (.ref a_57), .val (.ref a_108), .val (.ref a_178), .val (.ref a_359), .val (.ref a_408)] [(.int (0 : Int32)), (.ref a_408)])) rfl (by rw [hml]; rfl) (Steps.refl _) (argsL := [(.int (0 : Int32))]) (rest := []) (lenOf pd_760 rfl) rfl (by show 2 * 0 + _ ≤ _; exact Nat.le_of_eq rfl) (hb hby at_254) (fun _ _ => ⟨rfl, e_426, (by decide : 12 + 0 ≤ _), (by decide : 68 + 0 ≤ _)⟩)
      dsimp only [Pt.U, Pt.locs, Pt.cells, Pt.slots] at X_429 l_429 y_429 z_429 st_429 hQ_429
      have X_429 := own_cast X_429 l_429 y_429 z_429
      obtain ⟨rfl, N_435, e_436⟩ := hQ_429
      have N_437 := Fr.app N_425 N_435
      have e_438 : T_429.heap = T_402.heap := e_436
      have C_439 : Steps p.tables e below S0 (T_429.setTop (mkF m 322 #[.val (.int p0), .val (.int p1), .val (.int p2), .val (.int p3), .val (.int (own_cw p0)), .val (.int (own_cw (own_us p0))), .val (.int (own_cw p1)), .val (.int (own_cw (own_us p1))), .val (.int (1 : Int32)), .val (.int (own_rm p3 ((1 : Int32) + (1 : Int32)))), .val (.ref a_10), .val (.ref a_24), .val (.ref a_57), .val (.ref a_108), .val (.ref a_178), .val (.ref a_359), .val (.ref a_408)] [(.int (1 : Int32))])) := by
        refine C_427.trans ?_
        refine XS.ifNo X_417.here hx rfl (hb hby at_248) rfl (i0_le_f hc_428) ?_
        refine XS.aload X_417.here hx rfl (hb hby at_251) rfl rfl ?_
        refine XS.iconst X_417.here hx rfl (hb hby at_253) ?_
        refine st_429.trans ?_
        refine XS.iload X_429.here hx rfl (hb hby at_257) rfl ?_
        refine XS.icmpYes X_429.here hx rfl (pc0 := 259) (pc' := 264) rfl (hb hby at_259) rfl (ii_eq_t (own_gttake (i := (0 : Int32)) (own_nat (by decide) hc_428).1)) (by decide) (by decide) ?_
        refine XS.iload X_429.here hx rfl (hb hby at_264) rfl ?_
        refine XS.iconst X_429.here hx rfl (hb hby at_266) ?_
        show Steps p.tables e below (T_429.setTop (mkF m 267 #[.val (.int p0), .val (.int p1), .val (.int p2), .val (.int p3), .val (.int (own_cw p0)), .val (.int (own_cw (own_us p0))), .val (.int (own_cw p1)), .val (.int (own_cw (own_us p1))), .val (.int (1 : Int32)), .val (.int (own_rm p3 ((1 : Int32) + (1 : Int32)))), .val (.ref a_10), .val (.ref a_24), .val (.ref a_57), .val (.ref a_108), .val (.ref a_178), .val (.ref a_359), .val (.ref a_408)] [(.int (1 : Int32)), (.int (own_rm p3 ((1 : Int32) + (1 : Int32))))])) _
        refine XS.icmpYes X_429.here hx rfl (pc0 := 267) (pc' := 283) rfl (hb hby at_267) rfl (ii_le_t (own_ge1 hm_350.2.1 (by decide))) (by decide) (by decide) ?_
        refine XS.iload X_429.here hx rfl (hb hby at_283) rfl ?_
        refine XS.iconst X_429.here hx rfl (hb hby at_285) ?_
        refine XS.icmpYes X_429.here hx rfl (pc0 := 286) (pc' := 302) rfl (hb hby at_286) rfl (ii_le_t (own_ge1 hm_350.2.1 (by decide))) (by decide) (by decide) ?_
        refine XS.iload X_429.here hx rfl (hb hby at_302) rfl ?_
        refine XS.iconst X_429.here hx rfl (hb hby at_304) ?_
        refine XS.icmpYes X_429.here hx rfl (pc0 := 305) (pc' := 321) rfl (hb hby at_305) rfl (ii_le_t (own_ge1 hm_350.2.1 (by decide))) (by decide) (by decide) ?_
        refine XS.iconst X_429.here hx rfl (hb hby at_321) ?_
        show Steps p.tables e below (T_429.setTop (mkF m 322 #[.val (.int p0), .val (.int p1), .val (.int p2), .val (.int p3), .val (.int (own_cw p0)), .val (.int (own_cw (own_us p0))), .val (.int (own_cw p1)), .val (.int (own_cw (own_us p1))), .val (.int (1 : Int32)), .val (.int (own_rm p3 ((1 : Int32) + (1 : Int32)))), .val (.ref a_10), .val (.ref a_24), .val (.ref a_57), .val (.ref a_108), .val (.ref a_178), .val (.ref a_359), .val (.ref a_408)] [(.int (1 : Int32))])) _
        exact Steps.refl _
      have K_440 : Keep h0 T_402.heap [] := (((((K_258.ext E_355).trans K_370 (allS (Or.inr (Nat.le_trans (Nat.le_trans (Nat.le_trans (Nat.le_trans (Nat.le_trans (Nat.le_trans (Nat.le_trans (Nat.le_trans (Nat.le_trans (Nat.le_trans (Nat.le_trans (Nat.le_trans (Nat.le_trans (Nat.le_trans (Nat.le_trans E_7.1 E_21.1) (Keep.of_wr W_41).1) E_54.1) (Keep.of_wr W_74).1) (Keep.of_wr W_93).1) E_105.1) (Keep.of_wr W_125).1) (Keep.of_wr W_144).1) (Keep.of_wr W_163).1) E_175.1) (Keep.of_wr W_195).1) (Keep.of_wr W_214).1) (Keep.of_wr W_232).1) (Keep.of_wr W_250).1) (Nat.le_of_eq g_360.symm))) all0)).ext E_379).trans K_392 (allS (Or.inr (Nat.le_trans (Nat.le_trans (Nat.le_trans (Nat.le_trans (Nat.le_trans (Nat.le_trans (Nat.le_trans (Nat.le_trans (Nat.le_trans (Nat.le_trans (Nat.le_trans (Nat.le_trans (Nat.le_trans (Nat.le_trans (Nat.le_trans (Nat.le_trans (Nat.le_trans E_7.1 E_21.1) (Keep.of_wr W_41).1) E_54.1) (Keep.of_wr W_74).1) (Keep.of_wr W_93).1) E_105.1) (Keep.of_wr W_125).1) (Keep.of_wr W_144).1) (Keep.of_wr W_163).1) E_175.1) (Keep.of_wr W_195).1) (Keep.of_wr W_214).1) (Keep.of_wr W_232).1) (Keep.of_wr W_250).1) E_355.1) K_370.1) (Nat.le_of_eq g_384.symm))) all0)).trans K_410 all0)
      obtain ⟨fs, hr, hrun, hended, hRE⟩ := X_429.leaveW hS_402 (by rw [show T_429.heap = T_402.heap from e_438]; exact (Nat.le_refl _)) (v := some (.int (1 : Int32))) (fun h => by rw [Bd.returns] at h; cases h)
      refine ⟨_, _, C_439.trans (retN X_429 hx (t := .boolean) Bd.returns (by simp) (hb hby at_322) hr), hrun, hended, _, _, rfl, ?_, ?_, hRE.1, hRE.2.1, hRE.2.2.1, hRE.2.2.2.mono (by decide) (by decide)⟩
      · show Q_law Z G1 G3 p0 p1 p2 p3 h0 n0 (some (.int (1 : Int32))) T_429.heap _
        rw [e_438]
        exact ⟨rfl, N_437, K_440⟩
      · show CHr Z consts_1 s.vm s.heap T_429.vm T_429.heap
        rw [hh, show T_429.heap = T_402.heap from e_438]
        exact CR_415.trans (CHv.at X_429 hZ_402 hEL CH_414)
    · skip
      have C_441 : Steps p.tables e below S0 (T_417.setTop (mkF m 322 #[.val (.int p0), .val (.int p1), .val (.int p2), .val (.int p3), .val (.int (own_cw p0)), .val (.int (own_cw (own_us p0))), .val (.int (own_cw p1)), .val (.int (own_cw (own_us p1))), .val (.int (1 : Int32)), .val (.int (own_rm p3 ((1 : Int32) + (1 : Int32)))), .val (.ref a_10), .val (.ref a_24), .val (.ref a_57), .val (.ref a_108), .val (.ref a_178), .val (.ref a_359), .val (.ref a_408)] [(.int (1 : Int32))])) := by
        refine C_427.trans ?_
        refine XS.ifYes X_417.here hx rfl (pc0 := 248) (pc' := 264) rfl (hb hby at_248) rfl (i0_le_t hc_428) (by decide) (by decide) ?_
        refine XS.iload X_417.here hx rfl (hb hby at_264) rfl ?_
        refine XS.iconst X_417.here hx rfl (hb hby at_266) ?_
        refine XS.icmpYes X_417.here hx rfl (pc0 := 267) (pc' := 283) rfl (hb hby at_267) rfl (ii_le_t (own_ge1 hm_350.2.1 (by decide))) (by decide) (by decide) ?_
        refine XS.iload X_417.here hx rfl (hb hby at_283) rfl ?_
        refine XS.iconst X_417.here hx rfl (hb hby at_285) ?_
        refine XS.icmpYes X_417.here hx rfl (pc0 := 286) (pc' := 302) rfl (hb hby at_286) rfl (ii_le_t (own_ge1 hm_350.2.1 (by decide))) (by decide) (by decide) ?_
        refine XS.iload X_417.here hx rfl (hb hby at_302) rfl ?_
        show Steps p.tables e below (T_417.setTop (mkF m 304 #[.val (.int p0), .val (.int p1), .val (.int p2), .val (.int p3), .val (.int (own_cw p0)), .val (.int (own_cw (own_us p0))), .val (.int (own_cw p1)), .val (.int (own_cw (own_us p1))), .val (.int (1 : Int32)), .val (.int (own_rm p3 ((1 : Int32) + (1 : Int32)))), .val (.ref a_10), .val (.ref a_24), .val (.ref a_57), .val (.ref a_108), .val (.ref a_178), .val (.ref a_359), .val (.ref a_408)] [(.int (own_rm p3 ((1 : Int32) + (1 : Int32))))])) _
        refine XS.iconst X_417.here hx rfl (hb hby at_304) ?_
        refine XS.icmpYes X_417.here hx rfl (pc0 := 305) (pc' := 321) rfl (hb hby at_305) rfl (ii_le_t (own_ge1 hm_350.2.1 (by decide))) (by decide) (by decide) ?_
        refine XS.iconst X_417.here hx rfl (hb hby at_321) ?_
        exact Steps.refl _
      have K_442 : Keep h0 T_402.heap [] := (((((K_258.ext E_355).trans K_370 (allS (Or.inr (Nat.le_trans (Nat.le_trans (Nat.le_trans (Nat.le_trans (Nat.le_trans (Nat.le_trans (Nat.le_trans (Nat.le_trans (Nat.le_trans (Nat.le_trans (Nat.le_trans (Nat.le_trans (Nat.le_trans (Nat.le_trans (Nat.le_trans E_7.1 E_21.1) (Keep.of_wr W_41).1) E_54.1) (Keep.of_wr W_74).1) (Keep.of_wr W_93).1) E_105.1) (Keep.of_wr W_125).1) (Keep.of_wr W_144).1) (Keep.of_wr W_163).1) E_175.1) (Keep.of_wr W_195).1) (Keep.of_wr W_214).1) (Keep.of_wr W_232).1) (Keep.of_wr W_250).1) (Nat.le_of_eq g_360.symm))) all0)).ext E_379).trans K_392 (allS (Or.inr (Nat.le_trans (Nat.le_trans (Nat.le_trans (Nat.le_trans (Nat.le_trans (Nat.le_trans (Nat.le_trans (Nat.le_trans (Nat.le_trans (Nat.le_trans (Nat.le_trans (Nat.le_trans (Nat.le_trans (Nat.le_trans (Nat.le_trans (Nat.le_trans (Nat.le_trans E_7.1 E_21.1) (Keep.of_wr W_41).1) E_54.1) (Keep.of_wr W_74).1) (Keep.of_wr W_93).1) E_105.1) (Keep.of_wr W_125).1) (Keep.of_wr W_144).1) (Keep.of_wr W_163).1) E_175.1) (Keep.of_wr W_195).1) (Keep.of_wr W_214).1) (Keep.of_wr W_232).1) (Keep.of_wr W_250).1) E_355.1) K_370.1) (Nat.le_of_eq g_384.symm))) all0)).trans K_410 all0)
      obtain ⟨fs, hr, hrun, hended, hRE⟩ := X_417.leaveW hS_402 (by rw [show T_417.heap = T_402.heap from e_426]; exact (Nat.le_refl _)) (v := some (.int (1 : Int32))) (fun h => by rw [Bd.returns] at h; cases h)
      refine ⟨_, _, C_441.trans (retN X_417 hx (t := .boolean) Bd.returns (by simp) (hb hby at_322) hr), hrun, hended, _, _, rfl, ?_, ?_, hRE.1, hRE.2.1, hRE.2.2.1, hRE.2.2.2.mono (by decide) (by decide)⟩
      · show Q_law Z G1 G3 p0 p1 p2 p3 h0 n0 (some (.int (1 : Int32))) T_417.heap _
        rw [e_426]
        exact ⟨rfl, N_425, K_442⟩
      · show CHr Z consts_1 s.vm s.heap T_417.vm T_417.heap
        rw [hh, show T_417.heap = T_402.heap from e_426]
        exact CR_415.trans (CHv.at X_417 hZ_402 hEL CH_414)
  · skip
    have C_443 : Steps p.tables e below S0 (T_246.setTop (mkF m 130 #[.val (.int p0), .val (.int p1), .val (.int p2), .val (.int p3), .val (.int (own_cw p0)), .val (.int (own_cw (own_us p0))), .val (.int (own_cw p1)), .val (.int (own_cw (own_us p1))), .val (.int (2 : Int32)), .val (.int (own_rm p3 ((2 : Int32) + (1 : Int32)))), .val (.ref a_10), .val (.ref a_24), .val (.ref a_57), .val (.ref a_108), .val (.ref a_178), .unset, .unset] [(.int (2 : Int32))])) := by have q := C_257; rw [hn_261] at q; exact q
    have hm_444 := own_rmr p3 (k := 2) (by decide) (by decide)
    obtain ⟨T_445, h_446, X_447, e_448, E_449, A_450, D_451, U_455, st_452⟩ := newO X_248 hx hZ hown (w3 hw) (w4 hw) (w5 hw) e_249 (g := (mkF m 173 #[.val (.int p0), .val (.int p1), .val (.int p2), .val (.int p3), .val (.int (own_cw p0)), .val (.int (own_cw (own_us p0))), .val (.int (own_cw p1)), .val (.int (own_cw (own_us p1))), .val (.int (2 : Int32)), .val (.int (own_rm p3 ((2 : Int32) + (1 : Int32)))), .val (.ref a_10), .val (.ref a_24), .val (.ref a_57), .val (.ref a_108), .val (.ref a_178), .unset, .unset] [])) rfl (hb hby at_173) (by decide) (by decide)
    obtain ⟨a_453, g_454⟩ : ∃ z, z = h_247.size := ⟨_, rfl⟩
    rw [← g_454] at A_450 D_451 st_452 U_455
    have CH_456 : CHv Z consts_1 s.vm h_446 := CHv.ext E_449 CH_254
    have CR_457 : CHr Z consts_1 s.vm h0 s.vm h_446 := CR_255.trans (CHr.ext E_449 CH_254)
    have V_458 : Arv Z h_446 a_57 k_51 .char (2 : Int32) [(.int (own_cw p0)), (.int (own_cw (own_us p0)))] (.int (0 : Int32)) := ((((((((((V_99.ext E_105).other W_125 (Nat.ne_of_lt (Nat.lt_of_lt_of_le V_99.lt (Nat.le_trans (Nat.le_refl _) (Nat.le_of_eq g_109.symm))))).other W_144 (Nat.ne_of_lt (Nat.lt_of_lt_of_le V_99.lt (Nat.le_trans (Nat.le_refl _) (Nat.le_of_eq g_109.symm))))).other W_163 (Nat.ne_of_lt (Nat.lt_of_lt_of_le V_99.lt (Nat.le_trans (Nat.le_refl _) (Nat.le_of_eq g_109.symm))))).ext E_175).other W_195 (Nat.ne_of_lt (Nat.lt_of_lt_of_le V_99.lt (Nat.le_trans (Nat.le_trans (Nat.le_trans (Nat.le_trans E_105.1 (Keep.of_wr W_125).1) (Keep.of_wr W_144).1) (Keep.of_wr W_163).1) (Nat.le_of_eq g_179.symm))))).other W_214 (Nat.ne_of_lt (Nat.lt_of_lt_of_le V_99.lt (Nat.le_trans (Nat.le_trans (Nat.le_trans (Nat.le_trans E_105.1 (Keep.of_wr W_125).1) (Keep.of_wr W_144).1) (Keep.of_wr W_163).1) (Nat.le_of_eq g_179.symm))))).other W_232 (Nat.ne_of_lt (Nat.lt_of_lt_of_le V_99.lt (Nat.le_trans (Nat.le_trans (Nat.le_trans (Nat.le_trans E_105.1 (Keep.of_wr W_125).1) (Keep.of_wr W_144).1) (Keep.of_wr W_163).1) (Nat.le_of_eq g_179.symm))))).other W_250 (Nat.ne_of_lt (Nat.lt_of_lt_of_le V_99.lt (Nat.le_trans (Nat.le_trans (Nat.le_trans (Nat.le_trans E_105.1 (Keep.of_wr W_125).1) (Keep.of_wr W_144).1) (Keep.of_wr W_163).1) (Nat.le_of_eq g_179.symm))))).ext E_449)
    have V_459 : Arv Z h_446 a_57 k_51 .char (2 : Int32) (own_iv [(own_cw p0), (own_cw (own_us p0))]) (.int (0 : Int32)) := V_458
    have O_460 : Old Z n0 h_247 := (((((O_199.ext E_175).wr W_195 (Nat.le_trans (own_n0 O_199) (Nat.le_of_eq g_179.symm))).wr W_214 (Nat.le_trans (own_n0 O_199) (Nat.le_of_eq g_179.symm))).wr W_232 (Nat.le_trans (own_n0 O_199) (Nat.le_of_eq g_179.symm))).wr W_250 (Nat.le_trans (own_n0 O_199) (Nat.le_of_eq g_179.symm)))
    have O_461 : Old Z n0 h_446 := (O_460.ext E_449)
    obtain ⟨_, _, ⟨T_462, L_462, k_462, n_462⟩, -, X_462, ⟨Lc_462, hQ_462, l_462, y_462, z_462⟩, st_462⟩ := X_447.specialBack hx (y := M222) rfl hown (mvT hZ (w6 hw)) (mvT hZ (w7 hw)) (mvT hZ (w8 hw)) (by decide) (backOf (W := 1) (rm_si1g l Z a0 hw [] G1 G3 HG h_446 n0 O_461 a_453 a_57 k_51 (2 : Int32) [(own_cw p0), (own_cw (own_us p0))] A_450 (D_451 (Or.inr (w31 hw)) (ty := (.array .byte)) (by decide)) (D_451 (Or.inr (w29 hw)) (ty := .byte) (by decide)) (Nat.le_trans (own_n0 O_460) (Nat.le_of_eq g_454.symm)) V_459 (by decide) (by decide) rfl (own_u1 (own_cw_lo _) (own_cw_hi _) (own_u1 (own_cw_lo _) (own_cw_hi _) own_u0)) (by decide)) hZ (w8 hw) (w5 hw) (by decide) (by decide)) (g := (mkF m 179 #[.val (.int p0), .val (.int p1), .val (.int p2), .val (.int p3), .val (.int (own_cw p0)), .val (.int (own_cw (own_us p0))), .val (.int (own_cw p1)), .val (.int (own_cw (own_us p1))), .val (.int (2 : Int32)), .val (.int (own_rm p3 ((2 : Int32) + (1 : Int32)))), .val (.ref a_10), .val (.ref a_24), .val (.ref a_57), .val (.ref a_108), .val (.ref a_178), .unset, .unset] [(.ref a_57), (.ref a_453), (.ref a_453)])) rfl (by rw [hml]; rfl) (Steps.refl _) (a := a_453) (argsL := [(.ref a_57)]) (rest := [(.ref a_453)]) (lenOf pd_743 rfl) rfl (by show 2 * 0 + _ ≤ _; exact Nat.le_of_eq rfl) (hb hby at_179) (fun _ _ => ⟨rfl, e_448, (by decide : 6 + 2 ≤ _), (by decide : 14 + 24 ≤ _)⟩)
    dsimp only [Pt.U, Pt.locs, Pt.cells, Pt.slots] at X_462 l_462 y_462 z_462 st_462 hQ_462
    have X_462 := own_cast X_462 l_462 y_462 z_462
    obtain ⟨rfl, N_463, K_464, g_465⟩ := hQ_462
    have N_466 := Fr.app N_253 N_463
    have CH_467 : CHv Z consts_1 s.vm T_462.heap := CHv.keep K_464 (sfS (own_safe_null hZ.alike A_450 (D_451 (Or.inr (w31 hw)) (ty := (.array .byte)) (by decide))) sf0) CH_456
    have CR_468 : CHr Z consts_1 s.vm h0 s.vm T_462.heap := CR_457.trans (CHr.keep K_464 (sfS (own_safe_null hZ.alike A_450 (D_451 (Or.inr (w31 hw)) (ty := (.array .byte)) (by decide))) sf0) CH_456)
    obtain ⟨T_469, h_470, X_471, e_472, E_473, A_474, D_475, U_479, st_476⟩ := newO X_462 hx hZ hown (w32 hw) (w33 hw) (w34 hw) rfl (g := (mkF m 218 #[.val (.int p0), .val (.int p1), .val (.int p2), .val (.int p3), .val (.int (own_cw p0)), .val (.int (own_cw (own_us p0))), .val (.int (own_cw p1)), .val (.int (own_cw (own_us p1))), .val (.int (2 : Int32)), .val (.int (own_rm p3 ((2 : Int32) + (1 : Int32)))), .val (.ref a_10), .val (.ref a_24), .val (.ref a_57), .val (.ref a_108), .val (.ref a_178), .val (.ref a_453), .unset] [])) rfl (hb hby at_218) (by decide) (by decide)
    obtain ⟨a_477, g_478⟩ : ∃ z, z = T_462.heap.size := ⟨_, rfl⟩
    rw [← g_478] at A_474 D_475 st_476 U_479
    have CH_480 : CHv Z consts_1 s.vm h_470 := CHv.ext E_473 CH_467
    have CR_481 : CHr Z consts_1 s.vm h0 s.vm h_470 := CR_468.trans (CHr.ext E_473 CH_467)
    have O_482 : Old Z n0 T_462.heap := (O_461.keep K_464 (allS (Nat.le_trans (own_n0 O_460) (Nat.le_of_eq g_454.symm)) all0))
    have O_483 : Old Z n0 h_470 := (O_482.ext E_473)
    obtain ⟨_, _, ⟨T_484, L_484, k_484, n_484⟩, -, X_484, ⟨Lc_484, hQ_484, l_484, y_484, z_484⟩, st_484⟩ := X_471.specialBack hx (y := M701) rfl hown (mvT hZ (w35 hw)) (mvT hZ (w36 hw)) (mvT hZ (w37 hw)) (by decide) (backOf (W := 1) (rm_dii l Z a0 hw [] G1 G3 HG h_470 n0 O_483 a_477 a_453 (own_rm p3 ((2 : Int32) + (1 : Int32))) A_474 (D_475 (Or.inr (w45 hw)) (ty := (.object "java/lang/String")) (by decide)) (D_475 (Or.inr (w47 hw)) (ty := .int) (by decide)) (Nat.le_trans (own_n0 O_482) (Nat.le_of_eq g_478.symm))) hZ (w37 hw) (w34 hw) (by decide) (by decide)) (g := (mkF m 226 #[.val (.int p0), .val (.int p1), .val (.int p2), .val (.int p3), .val (.int (own_cw p0)), .val (.int (own_cw (own_us p0))), .val (.int (own_cw p1)), .val (.int (own_cw (own_us p1))), .val (.int (2 : Int32)), .val (.int (own_rm p3 ((2 : Int32) + (1 : Int32)))), .val (.ref a_10), .val (.ref a_24), .val (.ref a_57), .val (.ref a_108), .val (.ref a_178), .val (.ref a_453), .unset] [(.int (own_rm p3 ((2 : Int32) + (1 : Int32)))), (.ref a_453), (.ref a_477), (.ref a_477)])) rfl (by rw [hml]; rfl) (Steps.refl _) (a := a_477) (argsL := [(.ref a_453), (.int (own_rm p3 ((2 : Int32) + (1 : Int32))))]) (rest := [(.ref a_477)]) (lenOf pd_749 rfl) rfl (by show 2 * 0 + _ ≤ _; exact Nat.le_of_eq rfl) (hb hby at_226) (fun _ _ => ⟨rfl, e_472, (by decide : 9 + 0 ≤ _), (by decide : 40 + 0 ≤ _)⟩)
    dsimp only [Pt.U, Pt.locs, Pt.cells, Pt.slots] at X_484 l_484 y_484 z_484 st_484 hQ_484
    have X_484 := own_cast X_484 l_484 y_484 z_484
    obtain ⟨rfl, N_485, K_486, g_487, g_488, g_489⟩ := hQ_484
    have N_490 := Fr.app N_466 N_485
    have CH_491 : CHv Z consts_1 s.vm T_484.heap := CHv.keep K_486 (sfS (Safe.exa hZ.alike A_474 (by decide) (by decide)) sf0) CH_480
    have CR_492 : CHr Z consts_1 s.vm h0 s.vm T_484.heap := CR_481.trans (CHr.keep K_486 (sfS (Safe.exa hZ.alike A_474 (by decide) (by decide)) sf0) CH_480)
    have E_493 : Exa Z T_484.heap a_453 "java/lang/String" := (((A_450.keep K_464).ext E_473).keep K_486)
    have S_494 : own_S Z T_484.heap a_453 (2 : Int32) [(own_cw p0), (own_cw (own_us p0))] := own_S.keep g_465 (((Keep.refl _ _).ext E_473).trans K_486 (allS (Or.inr (Nat.le_trans (Nat.le_refl _) (Nat.le_of_eq g_478.symm))) all0))
    have O_495 : Old Z n0 T_484.heap := (O_483.keep K_486 (allS (Nat.le_trans (own_n0 O_482) (Nat.le_of_eq g_478.symm)) all0))
    obtain ⟨q_497, q_498, q_499, q_500, q_501⟩ := isOf (T := T_484) hZ rfl g_487
    obtain ⟨_, _, ⟨T_496, L_496, k_496, n_496⟩, -, Y_496, S_496, G_496, ⟨Lc_496, hQ_496, l_496, y_496, z_496, R_496⟩, st_496⟩ := X_484.virtualBackS hx (y := M722) (z := M722) hown (mvT hZ (w48 hw)) (mvT hZ (w49 hw)) (notFace_of_selects (args := #[]) (mvT hZ (w51 hw))) (mvT hZ (w51 hw)) (mvT hZ (w50 hw)) (by decide) (backOfSH (vm0 := s.vm) (W := 0) (rm_mp l Z a0 hw [] G1 G3 HG T_484.heap n0 O_495 a_477 a_453 (2 : Int32) [(own_cw p0), (own_cw (own_us p0))] (own_rm p3 ((2 : Int32) + (1 : Int32))) g_487 g_488 g_489 E_493 S_494 (by decide) rfl (own_u1 (own_cw_lo _) (own_cw_hi _) (own_u1 (own_cw_lo _) (own_cw_hi _) own_u0)) (by decide) hm_444.1 (own_ge1 hm_444.2.1 (by decide))) hZ (w52 hw) (w34 hw) (by decide) (by decide) hEL CH_491) q_499 q_501 (g := (mkF m 229 #[.val (.int p0), .val (.int p1), .val (.int p2), .val (.int p3), .val (.int (own_cw p0)), .val (.int (own_cw (own_us p0))), .val (.int (own_cw p1)), .val (.int (own_cw (own_us p1))), .val (.int (2 : Int32)), .val (.int (own_rm p3 ((2 : Int32) + (1 : Int32)))), .val (.ref a_10), .val (.ref a_24), .val (.ref a_57), .val (.ref a_108), .val (.ref a_178), .val (.ref a_453), .unset] [(.ref a_477)])) rfl (by rw [hml]; rfl) (Steps.refl _) (argsL := []) (rest := []) (lenOf pd_753 rfl) rfl (by show 2 * 0 + _ ≤ _; exact Nat.le_of_eq rfl) (hb hby at_229) (fun _ _ => ⟨rfl, rfl, (by decide : 9 + 3 ≤ _), (by decide : 40 + 28 ≤ _)⟩)
    dsimp only [Pt.U, Pt.locs, Pt.cells, Pt.slots] at Y_496 S_496 G_496 l_496 y_496 z_496 st_496 hQ_496 R_496
    have Y_496 := own_cast Y_496 l_496 y_496 z_496
    obtain ⟨X_496, hS_496, hZ_496, hown_496⟩ := rebS hS0 (n1 := T_484.heap.size) (by rw [show T_484.heap = T_484.heap from rfl]; exact (Nat.le_trans (Nat.le_refl _) (Nat.le_trans (Nat.le_trans (Nat.le_trans (Nat.le_trans (Nat.le_trans (Nat.le_trans (Nat.le_trans (Nat.le_trans (Nat.le_trans (Nat.le_trans (Nat.le_trans (Nat.le_trans (Nat.le_trans (Nat.le_trans (Nat.le_trans (Nat.le_trans (Nat.le_trans (Nat.le_trans E_7.1 E_21.1) (Keep.of_wr W_41).1) E_54.1) (Keep.of_wr W_74).1) (Keep.of_wr W_93).1) E_105.1) (Keep.of_wr W_125).1) (Keep.of_wr W_144).1) (Keep.of_wr W_163).1) E_175.1) (Keep.of_wr W_195).1) (Keep.of_wr W_214).1) (Keep.of_wr W_232).1) (Keep.of_wr W_250).1) E_449.1) K_464.1) E_473.1) K_486.1))) Y_496 S_496 G_496 hZ hown
    obtain ⟨a_502, rfl, N_503, K_504, g_505, g_506⟩ := hQ_496
    have N_507 := Fr.app N_490 N_503
    have CH_508 : CHv Z consts_1 T_496.vm T_496.heap := R_496.1
    have CR_509 : CHr Z consts_1 s.vm h0 T_496.vm T_496.heap := CR_492.trans R_496
    have O_510 : Old Z n0 T_496.heap := (O_495.keep K_504 all0)
    obtain ⟨q_512, q_513, q_514, q_515, q_516⟩ := isOf (T := T_496) hZ_496 rfl g_505
    obtain ⟨_, _, ⟨T_511, L_511, k_511, n_511⟩, -, X_511, ⟨Lc_511, hQ_511, l_511, y_511, z_511⟩, st_511⟩ := X_496.virtualBack hx (y := M264) (z := M264) hown_496 (mvT hZ_496 (w107 hw)) (mvT hZ_496 (w59 hw)) (notFace_of_selects (args := #[]) (mvT hZ_496 (w61 hw))) (mvT hZ_496 (w61 hw)) (mvT hZ_496 (w60 hw)) (by decide) (backOf (W := 0) (rm_lenS l Z a0 hw [] G1 G3 HG T_496.heap n0 O_510 a_502 (own_rm p3 ((2 : Int32) + (1 : Int32))) ([(own_cw p0), (own_cw (own_us p0))].take (own_rm p3 ((2 : Int32) + (1 : Int32))).toNatClampNeg) g_506 hm_444.1 hm_444.2.2) hZ_496 (w62 hw) (w5 hw) (by decide) (by decide)) q_514 q_516 (g := (mkF m 236 #[.val (.int p0), .val (.int p1), .val (.int p2), .val (.int p3), .val (.int (own_cw p0)), .val (.int (own_cw (own_us p0))), .val (.int (own_cw p1)), .val (.int (own_cw (own_us p1))), .val (.int (2 : Int32)), .val (.int (own_rm p3 ((2 : Int32) + (1 : Int32)))), .val (.ref a_10), .val (.ref a_24), .val (.ref a_57), .val (.ref a_108), .val (.ref a_178), .val (.ref a_453), .val (.ref a_502)] [(.ref a_502)])) rfl (by rw [hml]; rfl) (Steps.refl _) (argsL := []) (rest := []) (lenOf pd_647 rfl) rfl (by show 2 * 0 + _ ≤ _; exact Nat.le_of_eq rfl) (hb hby at_236) (fun _ _ => ⟨rfl, rfl, (by decide : 12 + 0 ≤ _), (by decide : 68 + 0 ≤ _)⟩)
    dsimp only [Pt.U, Pt.locs, Pt.cells, Pt.slots] at X_511 l_511 y_511 z_511 st_511 hQ_511
    have X_511 := own_cast X_511 l_511 y_511 z_511
    obtain ⟨rfl, N_517, e_518⟩ := hQ_511
    have N_519 := Fr.app N_507 N_517
    have e_520 : T_511.heap = T_496.heap := e_518
    have C_521 : Steps p.tables e below S0 (T_511.setTop (mkF m 248 #[.val (.int p0), .val (.int p1), .val (.int p2), .val (.int p3), .val (.int (own_cw p0)), .val (.int (own_cw (own_us p0))), .val (.int (own_cw p1)), .val (.int (own_cw (own_us p1))), .val (.int (2 : Int32)), .val (.int (own_rm p3 ((2 : Int32) + (1 : Int32)))), .val (.ref a_10), .val (.ref a_24), .val (.ref a_57), .val (.ref a_108), .val (.ref a_178), .val (.ref a_453), .val (.ref a_502)] [(.int (own_rm p3 ((2 : Int32) + (1 : Int32))))])) := by
      refine C_443.trans ?_
      refine XS.ifYes X_248.here hx rfl (pc0 := 130) (pc' := 147) rfl (hb hby at_130) rfl (by decide) (by decide) (by decide) ?_
      refine XS.iload X_248.here hx rfl (hb hby at_147) rfl ?_
      refine XS.iconst X_248.here hx rfl (hb hby at_149) ?_
      refine XS.icmpYes X_248.here hx rfl (pc0 := 150) (pc' := 167) rfl (hb hby at_150) rfl (by decide) (by decide) (by decide) ?_
      refine XS.iload X_248.here hx rfl (hb hby at_167) rfl ?_
      refine XS.iconst X_248.here hx rfl (hb hby at_169) ?_
      refine XS.icmpNo X_248.here hx rfl (hb hby at_170) rfl (by decide) ?_
      refine st_452 _ ?_
      show Steps p.tables e below (T_445.setTop (mkF m 176 #[.val (.int p0), .val (.int p1), .val (.int p2), .val (.int p3), .val (.int (own_cw p0)), .val (.int (own_cw (own_us p0))), .val (.int (own_cw p1)), .val (.int (own_cw (own_us p1))), .val (.int (2 : Int32)), .val (.int (own_rm p3 ((2 : Int32) + (1 : Int32)))), .val (.ref a_10), .val (.ref a_24), .val (.ref a_57), .val (.ref a_108), .val (.ref a_178), .unset, .unset] [(.ref a_453)])) _
      refine XS.dup X_447.here hx rfl (hb hby at_176) rfl rfl ?_
      refine XS.aload X_447.here hx rfl (hb hby at_177) rfl rfl ?_
      refine st_462.trans ?_
      refine XS.astore X_462.here hx rfl (hb hby at_182) rfl rfl (l' := #[.val (.int p0), .val (.int p1), .val (.int p2), .val (.int p3), .val (.int (own_cw p0)), .val (.int (own_cw (own_us p0))), .val (.int (own_cw p1)), .val (.int (own_cw (own_us p1))), .val (.int (2 : Int32)), .val (.int (own_rm p3 ((2 : Int32) + (1 : Int32)))), .val (.ref a_10), .val (.ref a_24), .val (.ref a_57), .val (.ref a_108), .val (.ref a_178), .val (.ref a_453), .unset]) rfl ?_
      refine XS.goto X_462.here hx rfl (pc0 := 184) (pc' := 218) rfl (hb hby at_184) (by decide) (by decide) ?_
      refine st_476 _ ?_
      refine XS.dup X_471.here hx rfl (hb hby at_221) rfl rfl ?_
      refine XS.aload X_471.here hx rfl (hb hby at_222) rfl rfl ?_
      show Steps p.tables e below (T_469.setTop (mkF m 224 #[.val (.int p0), .val (.int p1), .val (.int p2), .val (.int p3), .val (.int (own_cw p0)), .val (.int (own_cw (own_us p0))), .val (.int (own_cw p1)), .val (.int (own_cw (own_us p1))), .val (.int (2 : Int32)), .val (.int (own_rm p3 ((2 : Int32) + (1 : Int32)))), .val (.ref a_10), .val (.ref a_24), .val (.ref a_57), .val (.ref a_108), .val (.ref a_178), .val (.ref a_453), .unset] [(.ref a_453), (.ref a_477), (.ref a_477)])) _
      refine XS.iload X_471.here hx rfl (hb hby at_224) rfl ?_
      refine st_484.trans ?_
      refine st_496.trans ?_
      refine XS.astore X_496.here hx rfl (hb hby at_232) rfl rfl (l' := #[.val (.int p0), .val (.int p1), .val (.int p2), .val (.int p3), .val (.int (own_cw p0)), .val (.int (own_cw (own_us p0))), .val (.int (own_cw p1)), .val (.int (own_cw (own_us p1))), .val (.int (2 : Int32)), .val (.int (own_rm p3 ((2 : Int32) + (1 : Int32)))), .val (.ref a_10), .val (.ref a_24), .val (.ref a_57), .val (.ref a_108), .val (.ref a_178), .val (.ref a_453), .val (.ref a_502)]) rfl ?_
      refine XS.aload X_496.here hx rfl (hb hby at_234) rfl rfl ?_
      refine st_511.trans ?_
      refine XS.iload X_511.here hx rfl (hb hby at_239) rfl ?_
      refine XS.icmpYes X_511.here hx rfl (pc0 := 241) (pc' := 246) rfl (hb hby at_241) rfl (ii_eq_t rfl) (by decide) (by decide) ?_
      show Steps p.tables e below (T_511.setTop (mkF m 246 #[.val (.int p0), .val (.int p1), .val (.int p2), .val (.int p3), .val (.int (own_cw p0)), .val (.int (own_cw (own_us p0))), .val (.int (own_cw p1)), .val (.int (own_cw (own_us p1))), .val (.int (2 : Int32)), .val (.int (own_rm p3 ((2 : Int32) + (1 : Int32)))), .val (.ref a_10), .val (.ref a_24), .val (.ref a_57), .val (.ref a_108), .val (.ref a_178), .val (.ref a_453), .val (.ref a_502)] [])) _
      refine XS.iload X_511.here hx rfl (hb hby at_246) rfl ?_
      exact Steps.refl _
    by_cases hc_522 : (0 : Int32) < (own_rm p3 ((2 : Int32) + (1 : Int32)))
    · skip
      obtain ⟨q_524, q_525, q_526, q_527, q_528⟩ := isOf (T := T_511) hZ_496 e_520 g_505
      obtain ⟨_, _, ⟨T_523, L_523, k_523, n_523⟩, -, X_523, ⟨Lc_523, hQ_523, l_523, y_523, z_523⟩, st_523⟩ := X_511.virtualBack hx (y := M319) (z := M319) hown_496 (mvT hZ_496 (w108 hw)) (mvT hZ_496 (w109 hw)) (notFace_of_selects (args := #[]) (mvT hZ_496 (w111 hw))) (mvT hZ_496 (w111 hw)) (mvT hZ_496 (w110 hw)) (by decide) (backOf (W := 0) (rm_chS l Z a0 hw [] G1 G3 HG T_496.heap n0 O_510 a_502 (own_rm p3 ((2 : Int32) + (1 : Int32))) ([(own_cw p0), (own_cw (own_us p0))].take (own_rm p3 ((2 : Int32) + (1 : Int32))).toNatClampNeg) (0 : Int32) g_506 hm_444.1 (own_tkl (n := (2 : Int32)) rfl hm_444.1 hm_444.2.1) (own_u16take (own_u1 (own_cw_lo _) (own_cw_hi _) (own_u1 (own_cw_lo _) (own_cw_hi _) own_u0)) _) hm_444.2.2 (by decide) hc_522) hZ_496 (w112 hw) (w5 hw) (by decide) (by decide)) q_526 q_528 (g := (mkF m 254 #[.val (.int p0), .val (.int p1), .val (.int p2), .val (.int p3), .val (.int (own_cw p0)), .val (.int (own_cw (own_us p0))), .val (.int (own_cw p1)), .val (.int (own_cw (own_us p1))), .val (.int (2 : Int32)), .val (.int (own_rm p3 ((2 : Int32) + (1 : Int32)))), .val (.ref a_10), .val (.ref a_24), .val (.ref a_57), .val (.ref a_108), .val (.ref a_178), .val (.ref a_453), .val (.ref a_502)] [(.int (0 : Int32)), (.ref a_502)])) rfl (by rw [hml]; rfl) (Steps.refl _) (argsL := [(.int (0 : Int32))]) (rest := []) (lenOf pd_760 rfl) rfl (by show 2 * 0 + _ ≤ _; exact Nat.le_of_eq rfl) (hb hby at_254) (fun _ _ => ⟨rfl, e_520, (by decide : 12 + 0 ≤ _), (by decide : 68 + 0 ≤ _)⟩)
      dsimp only [Pt.U, Pt.locs, Pt.cells, Pt.slots] at X_523 l_523 y_523 z_523 st_523 hQ_523
      have X_523 := own_cast X_523 l_523 y_523 z_523
      obtain ⟨rfl, N_529, e_530⟩ := hQ_523
      have N_531 := Fr.app N_519 N_529
      have e_532 : T_523.heap = T_496.heap := e_530
      have C_533 : Steps p.tables e below S0 (T_523.setTop (mkF m 267 #[.val (.int p0), .val (.int p1), .val (.int p2), .val (.int p3), .val (.int (own_cw p0)), .val (.int (own_cw (own_us p0))), .val (.int (own_cw p1)), .val (.int (own_cw (own_us p1))), .val (.int (2 : Int32)), .val (.int (own_rm p3 ((2 : Int32) + (1 : Int32)))), .val (.ref a_10), .val (.ref a_24), .val (.ref a_57), .val (.ref a_108), .val (.ref a_178), .val (.ref a_453), .val (.ref a_502)] [(.int (1 : Int32)), (.int (own_rm p3 ((2 : Int32) + (1 : Int32))))])) := by
        refine C_521.trans ?_
        refine XS.ifNo X_511.here hx rfl (hb hby at_248) rfl (i0_le_f hc_522) ?_
        refine XS.aload X_511.here hx rfl (hb hby at_251) rfl rfl ?_
        refine XS.iconst X_511.here hx rfl (hb hby at_253) ?_
        refine st_523.trans ?_
        refine XS.iload X_523.here hx rfl (hb hby at_257) rfl ?_
        refine XS.icmpYes X_523.here hx rfl (pc0 := 259) (pc' := 264) rfl (hb hby at_259) rfl (ii_eq_t (own_gttake (i := (0 : Int32)) (own_nat (by decide) hc_522).1)) (by decide) (by decide) ?_
        refine XS.iload X_523.here hx rfl (hb hby at_264) rfl ?_
        refine XS.iconst X_523.here hx rfl (hb hby at_266) ?_
        show Steps p.tables e below (T_523.setTop (mkF m 267 #[.val (.int p0), .val (.int p1), .val (.int p2), .val (.int p3), .val (.int (own_cw p0)), .val (.int (own_cw (own_us p0))), .val (.int (own_cw p1)), .val (.int (own_cw (own_us p1))), .val (.int (2 : Int32)), .val (.int (own_rm p3 ((2 : Int32) + (1 : Int32)))), .val (.ref a_10), .val (.ref a_24), .val (.ref a_57), .val (.ref a_108), .val (.ref a_178), .val (.ref a_453), .val (.ref a_502)] [(.int (1 : Int32)), (.int (own_rm p3 ((2 : Int32) + (1 : Int32))))])) _
        exact Steps.refl _
      by_cases hc_534 : (1 : Int32) < (own_rm p3 ((2 : Int32) + (1 : Int32)))
      · skip
        obtain ⟨q_536, q_537, q_538, q_539, q_540⟩ := isOf (T := T_523) hZ_496 e_532 g_505
        obtain ⟨_, _, ⟨T_535, L_535, k_535, n_535⟩, -, X_535, ⟨Lc_535, hQ_535, l_535, y_535, z_535⟩, st_535⟩ := X_523.virtualBack hx (y := M319) (z := M319) hown_496 (mvT hZ_496 (w108 hw)) (mvT hZ_496 (w109 hw)) (notFace_of_selects (args := #[]) (mvT hZ_496 (w111 hw))) (mvT hZ_496 (w111 hw)) (mvT hZ_496 (w110 hw)) (by decide) (backOf (W := 0) (rm_chS l Z a0 hw [] G1 G3 HG T_496.heap n0 O_510 a_502 (own_rm p3 ((2 : Int32) + (1 : Int32))) ([(own_cw p0), (own_cw (own_us p0))].take (own_rm p3 ((2 : Int32) + (1 : Int32))).toNatClampNeg) (1 : Int32) g_506 hm_444.1 (own_tkl (n := (2 : Int32)) rfl hm_444.1 hm_444.2.1) (own_u16take (own_u1 (own_cw_lo _) (own_cw_hi _) (own_u1 (own_cw_lo _) (own_cw_hi _) own_u0)) _) hm_444.2.2 (by decide) hc_534) hZ_496 (w112 hw) (w5 hw) (by decide) (by decide)) q_538 q_540 (g := (mkF m 273 #[.val (.int p0), .val (.int p1), .val (.int p2), .val (.int p3), .val (.int (own_cw p0)), .val (.int (own_cw (own_us p0))), .val (.int (own_cw p1)), .val (.int (own_cw (own_us p1))), .val (.int (2 : Int32)), .val (.int (own_rm p3 ((2 : Int32) + (1 : Int32)))), .val (.ref a_10), .val (.ref a_24), .val (.ref a_57), .val (.ref a_108), .val (.ref a_178), .val (.ref a_453), .val (.ref a_502)] [(.int (1 : Int32)), (.ref a_502)])) rfl (by rw [hml]; rfl) (Steps.refl _) (argsL := [(.int (1 : Int32))]) (rest := []) (lenOf pd_760 rfl) rfl (by show 2 * 0 + _ ≤ _; exact Nat.le_of_eq rfl) (hb hby at_273) (fun _ _ => ⟨rfl, e_532, (by decide : 12 + 0 ≤ _), (by decide : 68 + 0 ≤ _)⟩)
        dsimp only [Pt.U, Pt.locs, Pt.cells, Pt.slots] at X_535 l_535 y_535 z_535 st_535 hQ_535
        have X_535 := own_cast X_535 l_535 y_535 z_535
        obtain ⟨rfl, N_541, e_542⟩ := hQ_535
        have N_543 := Fr.app N_531 N_541
        have e_544 : T_535.heap = T_496.heap := e_542
        have C_545 : Steps p.tables e below S0 (T_535.setTop (mkF m 322 #[.val (.int p0), .val (.int p1), .val (.int p2), .val (.int p3), .val (.int (own_cw p0)), .val (.int (own_cw (own_us p0))), .val (.int (own_cw p1)), .val (.int (own_cw (own_us p1))), .val (.int (2 : Int32)), .val (.int (own_rm p3 ((2 : Int32) + (1 : Int32)))), .val (.ref a_10), .val (.ref a_24), .val (.ref a_57), .val (.ref a_108), .val (.ref a_178), .val (.ref a_453), .val (.ref a_502)] [(.int (1 : Int32))])) := by
          refine C_533.trans ?_
          refine XS.icmpNo X_523.here hx rfl (hb hby at_267) rfl (ii_le_f hc_534) ?_
          refine XS.aload X_523.here hx rfl (hb hby at_270) rfl rfl ?_
          refine XS.iconst X_523.here hx rfl (hb hby at_272) ?_
          refine st_535.trans ?_
          refine XS.iload X_535.here hx rfl (hb hby at_276) rfl ?_
          refine XS.icmpYes X_535.here hx rfl (pc0 := 278) (pc' := 283) rfl (hb hby at_278) rfl (ii_eq_t (own_gttake (i := (1 : Int32)) (own_nat (by decide) hc_534).1)) (by decide) (by decide) ?_
          refine XS.iload X_535.here hx rfl (hb hby at_283) rfl ?_
          refine XS.iconst X_535.here hx rfl (hb hby at_285) ?_
          show Steps p.tables e below (T_535.setTop (mkF m 286 #[.val (.int p0), .val (.int p1), .val (.int p2), .val (.int p3), .val (.int (own_cw p0)), .val (.int (own_cw (own_us p0))), .val (.int (own_cw p1)), .val (.int (own_cw (own_us p1))), .val (.int (2 : Int32)), .val (.int (own_rm p3 ((2 : Int32) + (1 : Int32)))), .val (.ref a_10), .val (.ref a_24), .val (.ref a_57), .val (.ref a_108), .val (.ref a_178), .val (.ref a_453), .val (.ref a_502)] [(.int (2 : Int32)), (.int (own_rm p3 ((2 : Int32) + (1 : Int32))))])) _
          refine XS.icmpYes X_535.here hx rfl (pc0 := 286) (pc' := 302) rfl (hb hby at_286) rfl (ii_le_t (own_ge1 hm_444.2.1 (by decide))) (by decide) (by decide) ?_
          refine XS.iload X_535.here hx rfl (hb hby at_302) rfl ?_
          refine XS.iconst X_535.here hx rfl (hb hby at_304) ?_
          refine XS.icmpYes X_535.here hx rfl (pc0 := 305) (pc' := 321) rfl (hb hby at_305) rfl (ii_le_t (own_ge1 hm_444.2.1 (by decide))) (by decide) (by decide) ?_
          refine XS.iconst X_535.here hx rfl (hb hby at_321) ?_
          exact Steps.refl _
        have K_546 : Keep h0 T_496.heap [] := (((((K_258.ext E_449).trans K_464 (allS (Or.inr (Nat.le_trans (Nat.le_trans (Nat.le_trans (Nat.le_trans (Nat.le_trans (Nat.le_trans (Nat.le_trans (Nat.le_trans (Nat.le_trans (Nat.le_trans (Nat.le_trans (Nat.le_trans (Nat.le_trans (Nat.le_trans (Nat.le_trans E_7.1 E_21.1) (Keep.of_wr W_41).1) E_54.1) (Keep.of_wr W_74).1) (Keep.of_wr W_93).1) E_105.1) (Keep.of_wr W_125).1) (Keep.of_wr W_144).1) (Keep.of_wr W_163).1) E_175.1) (Keep.of_wr W_195).1) (Keep.of_wr W_214).1) (Keep.of_wr W_232).1) (Keep.of_wr W_250).1) (Nat.le_of_eq g_454.symm))) all0)).ext E_473).trans K_486 (allS (Or.inr (Nat.le_trans (Nat.le_trans (Nat.le_trans (Nat.le_trans (Nat.le_trans (Nat.le_trans (Nat.le_trans (Nat.le_trans (Nat.le_trans (Nat.le_trans (Nat.le_trans (Nat.le_trans (Nat.le_trans (Nat.le_trans (Nat.le_trans (Nat.le_trans (Nat.le_trans E_7.1 E_21.1) (Keep.of_wr W_41).1) E_54.1) (Keep.of_wr W_74).1) (Keep.of_wr W_93).1) E_105.1) (Keep.of_wr W_125).1) (Keep.of_wr W_144).1) (Keep.of_wr W_163).1) E_175.1) (Keep.of_wr W_195).1) (Keep.of_wr W_214).1) (Keep.of_wr W_232).1) (Keep.of_wr W_250).1) E_449.1) K_464.1) (Nat.le_of_eq g_478.symm))) all0)).trans K_504 all0)
        obtain ⟨fs, hr, hrun, hended, hRE⟩ := X_535.leaveW hS_496 (by rw [show T_535.heap = T_496.heap from e_544]; exact (Nat.le_refl _)) (v := some (.int (1 : Int32))) (fun h => by rw [Bd.returns] at h; cases h)
        refine ⟨_, _, C_545.trans (retN X_535 hx (t := .boolean) Bd.returns (by simp) (hb hby at_322) hr), hrun, hended, _, _, rfl, ?_, ?_, hRE.1, hRE.2.1, hRE.2.2.1, hRE.2.2.2.mono (by decide) (by decide)⟩
        · show Q_law Z G1 G3 p0 p1 p2 p3 h0 n0 (some (.int (1 : Int32))) T_535.heap _
          rw [e_544]
          exact ⟨rfl, N_543, K_546⟩
        · show CHr Z consts_1 s.vm s.heap T_535.vm T_535.heap
          rw [hh, show T_535.heap = T_496.heap from e_544]
          exact CR_509.trans (CHv.at X_535 hZ_496 hEL CH_508)
      · skip
        have C_547 : Steps p.tables e below S0 (T_523.setTop (mkF m 322 #[.val (.int p0), .val (.int p1), .val (.int p2), .val (.int p3), .val (.int (own_cw p0)), .val (.int (own_cw (own_us p0))), .val (.int (own_cw p1)), .val (.int (own_cw (own_us p1))), .val (.int (2 : Int32)), .val (.int (own_rm p3 ((2 : Int32) + (1 : Int32)))), .val (.ref a_10), .val (.ref a_24), .val (.ref a_57), .val (.ref a_108), .val (.ref a_178), .val (.ref a_453), .val (.ref a_502)] [(.int (1 : Int32))])) := by
          refine C_533.trans ?_
          refine XS.icmpYes X_523.here hx rfl (pc0 := 267) (pc' := 283) rfl (hb hby at_267) rfl (ii_le_t hc_534) (by decide) (by decide) ?_
          refine XS.iload X_523.here hx rfl (hb hby at_283) rfl ?_
          refine XS.iconst X_523.here hx rfl (hb hby at_285) ?_
          refine XS.icmpYes X_523.here hx rfl (pc0 := 286) (pc' := 302) rfl (hb hby at_286) rfl (ii_le_t (own_ge1 hm_444.2.1 (by decide))) (by decide) (by decide) ?_
          refine XS.iload X_523.here hx rfl (hb hby at_302) rfl ?_
          refine XS.iconst X_523.here hx rfl (hb hby at_304) ?_
          refine XS.icmpYes X_523.here hx rfl (pc0 := 305) (pc' := 321) rfl (hb hby at_305) rfl (ii_le_t (own_ge1 hm_444.2.1 (by decide))) (by decide) (by decide) ?_
          refine XS.iconst X_523.here hx rfl (hb hby at_321) ?_
          show Steps p.tables e below (T_523.setTop (mkF m 322 #[.val (.int p0), .val (.int p1), .val (.int p2), .val (.int p3), .val (.int (own_cw p0)), .val (.int (own_cw (own_us p0))), .val (.int (own_cw p1)), .val (.int (own_cw (own_us p1))), .val (.int (2 : Int32)), .val (.int (own_rm p3 ((2 : Int32) + (1 : Int32)))), .val (.ref a_10), .val (.ref a_24), .val (.ref a_57), .val (.ref a_108), .val (.ref a_178), .val (.ref a_453), .val (.ref a_502)] [(.int (1 : Int32))])) _
          exact Steps.refl _
        have K_548 : Keep h0 T_496.heap [] := (((((K_258.ext E_449).trans K_464 (allS (Or.inr (Nat.le_trans (Nat.le_trans (Nat.le_trans (Nat.le_trans (Nat.le_trans (Nat.le_trans (Nat.le_trans (Nat.le_trans (Nat.le_trans (Nat.le_trans (Nat.le_trans (Nat.le_trans (Nat.le_trans (Nat.le_trans (Nat.le_trans E_7.1 E_21.1) (Keep.of_wr W_41).1) E_54.1) (Keep.of_wr W_74).1) (Keep.of_wr W_93).1) E_105.1) (Keep.of_wr W_125).1) (Keep.of_wr W_144).1) (Keep.of_wr W_163).1) E_175.1) (Keep.of_wr W_195).1) (Keep.of_wr W_214).1) (Keep.of_wr W_232).1) (Keep.of_wr W_250).1) (Nat.le_of_eq g_454.symm))) all0)).ext E_473).trans K_486 (allS (Or.inr (Nat.le_trans (Nat.le_trans (Nat.le_trans (Nat.le_trans (Nat.le_trans (Nat.le_trans (Nat.le_trans (Nat.le_trans (Nat.le_trans (Nat.le_trans (Nat.le_trans (Nat.le_trans (Nat.le_trans (Nat.le_trans (Nat.le_trans (Nat.le_trans (Nat.le_trans E_7.1 E_21.1) (Keep.of_wr W_41).1) E_54.1) (Keep.of_wr W_74).1) (Keep.of_wr W_93).1) E_105.1) (Keep.of_wr W_125).1) (Keep.of_wr W_144).1) (Keep.of_wr W_163).1) E_175.1) (Keep.of_wr W_195).1) (Keep.of_wr W_214).1) (Keep.of_wr W_232).1) (Keep.of_wr W_250).1) E_449.1) K_464.1) (Nat.le_of_eq g_478.symm))) all0)).trans K_504 all0)
        obtain ⟨fs, hr, hrun, hended, hRE⟩ := X_523.leaveW hS_496 (by rw [show T_523.heap = T_496.heap from e_532]; exact (Nat.le_refl _)) (v := some (.int (1 : Int32))) (fun h => by rw [Bd.returns] at h; cases h)
        refine ⟨_, _, C_547.trans (retN X_523 hx (t := .boolean) Bd.returns (by simp) (hb hby at_322) hr), hrun, hended, _, _, rfl, ?_, ?_, hRE.1, hRE.2.1, hRE.2.2.1, hRE.2.2.2.mono (by decide) (by decide)⟩
        · show Q_law Z G1 G3 p0 p1 p2 p3 h0 n0 (some (.int (1 : Int32))) T_523.heap _
          rw [e_532]
          exact ⟨rfl, N_531, K_548⟩
        · show CHr Z consts_1 s.vm s.heap T_523.vm T_523.heap
          rw [hh, show T_523.heap = T_496.heap from e_532]
          exact CR_509.trans (CHv.at X_523 hZ_496 hEL CH_508)
    · skip
      have C_549 : Steps p.tables e below S0 (T_511.setTop (mkF m 267 #[.val (.int p0), .val (.int p1), .val (.int p2), .val (.int p3), .val (.int (own_cw p0)), .val (.int (own_cw (own_us p0))), .val (.int (own_cw p1)), .val (.int (own_cw (own_us p1))), .val (.int (2 : Int32)), .val (.int (own_rm p3 ((2 : Int32) + (1 : Int32)))), .val (.ref a_10), .val (.ref a_24), .val (.ref a_57), .val (.ref a_108), .val (.ref a_178), .val (.ref a_453), .val (.ref a_502)] [(.int (1 : Int32)), (.int (own_rm p3 ((2 : Int32) + (1 : Int32))))])) := by
        refine C_521.trans ?_
        refine XS.ifYes X_511.here hx rfl (pc0 := 248) (pc' := 264) rfl (hb hby at_248) rfl (i0_le_t hc_522) (by decide) (by decide) ?_
        refine XS.iload X_511.here hx rfl (hb hby at_264) rfl ?_
        refine XS.iconst X_511.here hx rfl (hb hby at_266) ?_
        exact Steps.refl _
      by_cases hc_550 : (1 : Int32) < (own_rm p3 ((2 : Int32) + (1 : Int32)))
      · skip
        obtain ⟨q_552, q_553, q_554, q_555, q_556⟩ := isOf (T := T_511) hZ_496 e_520 g_505
        obtain ⟨_, _, ⟨T_551, L_551, k_551, n_551⟩, -, X_551, ⟨Lc_551, hQ_551, l_551, y_551, z_551⟩, st_551⟩ := X_511.virtualBack hx (y := M319) (z := M319) hown_496 (mvT hZ_496 (w108 hw)) (mvT hZ_496 (w109 hw)) (notFace_of_selects (args := #[]) (mvT hZ_496 (w111 hw))) (mvT hZ_496 (w111 hw)) (mvT hZ_496 (w110 hw)) (by decide) (backOf (W := 0) (rm_chS l Z a0 hw [] G1 G3 HG T_496.heap n0 O_510 a_502 (own_rm p3 ((2 : Int32) + (1 : Int32))) ([(own_cw p0), (own_cw (own_us p0))].take (own_rm p3 ((2 : Int32) + (1 : Int32))).toNatClampNeg) (1 : Int32) g_506 hm_444.1 (own_tkl (n := (2 : Int32)) rfl hm_444.1 hm_444.2.1) (own_u16take (own_u1 (own_cw_lo _) (own_cw_hi _) (own_u1 (own_cw_lo _) (own_cw_hi _) own_u0)) _) hm_444.2.2 (by decide) hc_550) hZ_496 (w112 hw) (w5 hw) (by decide) (by decide)) q_554 q_556 (g := (mkF m 273 #[.val (.int p0), .val (.int p1), .val (.int p2), .val (.int p3), .val (.int (own_cw p0)), .val (.int (own_cw (own_us p0))), .val (.int (own_cw p1)), .val (.int (own_cw (own_us p1))), .val (.int (2 : Int32)), .val (.int (own_rm p3 ((2 : Int32) + (1 : Int32)))), .val (.ref a_10), .val (.ref a_24), .val (.ref a_57), .val (.ref a_108), .val (.ref a_178), .val (.ref a_453), .val (.ref a_502)] [(.int (1 : Int32)), (.ref a_502)])) rfl (by rw [hml]; rfl) (Steps.refl _) (argsL := [(.int (1 : Int32))]) (rest := []) (lenOf pd_760 rfl) rfl (by show 2 * 0 + _ ≤ _; exact Nat.le_of_eq rfl) (hb hby at_273) (fun _ _ => ⟨rfl, e_520, (by decide : 12 + 0 ≤ _), (by decide : 68 + 0 ≤ _)⟩)
        dsimp only [Pt.U, Pt.locs, Pt.cells, Pt.slots] at X_551 l_551 y_551 z_551 st_551 hQ_551
        have X_551 := own_cast X_551 l_551 y_551 z_551
        obtain ⟨rfl, N_557, e_558⟩ := hQ_551
        have N_559 := Fr.app N_519 N_557
        have e_560 : T_551.heap = T_496.heap := e_558
        have C_561 : Steps p.tables e below S0 (T_551.setTop (mkF m 322 #[.val (.int p0), .val (.int p1), .val (.int p2), .val (.int p3), .val (.int (own_cw p0)), .val (.int (own_cw (own_us p0))), .val (.int (own_cw p1)), .val (.int (own_cw (own_us p1))), .val (.int (2 : Int32)), .val (.int (own_rm p3 ((2 : Int32) + (1 : Int32)))), .val (.ref a_10), .val (.ref a_24), .val (.ref a_57), .val (.ref a_108), .val (.ref a_178), .val (.ref a_453), .val (.ref a_502)] [(.int (1 : Int32))])) := by
          refine C_549.trans ?_
          refine XS.icmpNo X_511.here hx rfl (hb hby at_267) rfl (ii_le_f hc_550) ?_
          refine XS.aload X_511.here hx rfl (hb hby at_270) rfl rfl ?_
          refine XS.iconst X_511.here hx rfl (hb hby at_272) ?_
          refine st_551.trans ?_
          refine XS.iload X_551.here hx rfl (hb hby at_276) rfl ?_
          refine XS.icmpYes X_551.here hx rfl (pc0 := 278) (pc' := 283) rfl (hb hby at_278) rfl (ii_eq_t (own_gttake (i := (1 : Int32)) (own_nat (by decide) hc_550).1)) (by decide) (by decide) ?_
          refine XS.iload X_551.here hx rfl (hb hby at_283) rfl ?_
          refine XS.iconst X_551.here hx rfl (hb hby at_285) ?_
          show Steps p.tables e below (T_551.setTop (mkF m 286 #[.val (.int p0), .val (.int p1), .val (.int p2), .val (.int p3), .val (.int (own_cw p0)), .val (.int (own_cw (own_us p0))), .val (.int (own_cw p1)), .val (.int (own_cw (own_us p1))), .val (.int (2 : Int32)), .val (.int (own_rm p3 ((2 : Int32) + (1 : Int32)))), .val (.ref a_10), .val (.ref a_24), .val (.ref a_57), .val (.ref a_108), .val (.ref a_178), .val (.ref a_453), .val (.ref a_502)] [(.int (2 : Int32)), (.int (own_rm p3 ((2 : Int32) + (1 : Int32))))])) _
          refine XS.icmpYes X_551.here hx rfl (pc0 := 286) (pc' := 302) rfl (hb hby at_286) rfl (ii_le_t (own_ge1 hm_444.2.1 (by decide))) (by decide) (by decide) ?_
          refine XS.iload X_551.here hx rfl (hb hby at_302) rfl ?_
          refine XS.iconst X_551.here hx rfl (hb hby at_304) ?_
          refine XS.icmpYes X_551.here hx rfl (pc0 := 305) (pc' := 321) rfl (hb hby at_305) rfl (ii_le_t (own_ge1 hm_444.2.1 (by decide))) (by decide) (by decide) ?_
          refine XS.iconst X_551.here hx rfl (hb hby at_321) ?_
          exact Steps.refl _
        have K_562 : Keep h0 T_496.heap [] := (((((K_258.ext E_449).trans K_464 (allS (Or.inr (Nat.le_trans (Nat.le_trans (Nat.le_trans (Nat.le_trans (Nat.le_trans (Nat.le_trans (Nat.le_trans (Nat.le_trans (Nat.le_trans (Nat.le_trans (Nat.le_trans (Nat.le_trans (Nat.le_trans (Nat.le_trans (Nat.le_trans E_7.1 E_21.1) (Keep.of_wr W_41).1) E_54.1) (Keep.of_wr W_74).1) (Keep.of_wr W_93).1) E_105.1) (Keep.of_wr W_125).1) (Keep.of_wr W_144).1) (Keep.of_wr W_163).1) E_175.1) (Keep.of_wr W_195).1) (Keep.of_wr W_214).1) (Keep.of_wr W_232).1) (Keep.of_wr W_250).1) (Nat.le_of_eq g_454.symm))) all0)).ext E_473).trans K_486 (allS (Or.inr (Nat.le_trans (Nat.le_trans (Nat.le_trans (Nat.le_trans (Nat.le_trans (Nat.le_trans (Nat.le_trans (Nat.le_trans (Nat.le_trans (Nat.le_trans (Nat.le_trans (Nat.le_trans (Nat.le_trans (Nat.le_trans (Nat.le_trans (Nat.le_trans (Nat.le_trans E_7.1 E_21.1) (Keep.of_wr W_41).1) E_54.1) (Keep.of_wr W_74).1) (Keep.of_wr W_93).1) E_105.1) (Keep.of_wr W_125).1) (Keep.of_wr W_144).1) (Keep.of_wr W_163).1) E_175.1) (Keep.of_wr W_195).1) (Keep.of_wr W_214).1) (Keep.of_wr W_232).1) (Keep.of_wr W_250).1) E_449.1) K_464.1) (Nat.le_of_eq g_478.symm))) all0)).trans K_504 all0)
        obtain ⟨fs, hr, hrun, hended, hRE⟩ := X_551.leaveW hS_496 (by rw [show T_551.heap = T_496.heap from e_560]; exact (Nat.le_refl _)) (v := some (.int (1 : Int32))) (fun h => by rw [Bd.returns] at h; cases h)
        refine ⟨_, _, C_561.trans (retN X_551 hx (t := .boolean) Bd.returns (by simp) (hb hby at_322) hr), hrun, hended, _, _, rfl, ?_, ?_, hRE.1, hRE.2.1, hRE.2.2.1, hRE.2.2.2.mono (by decide) (by decide)⟩
        · show Q_law Z G1 G3 p0 p1 p2 p3 h0 n0 (some (.int (1 : Int32))) T_551.heap _
          rw [e_560]
          exact ⟨rfl, N_559, K_562⟩
        · show CHr Z consts_1 s.vm s.heap T_551.vm T_551.heap
          rw [hh, show T_551.heap = T_496.heap from e_560]
          exact CR_509.trans (CHv.at X_551 hZ_496 hEL CH_508)
      · skip
        have C_563 : Steps p.tables e below S0 (T_511.setTop (mkF m 322 #[.val (.int p0), .val (.int p1), .val (.int p2), .val (.int p3), .val (.int (own_cw p0)), .val (.int (own_cw (own_us p0))), .val (.int (own_cw p1)), .val (.int (own_cw (own_us p1))), .val (.int (2 : Int32)), .val (.int (own_rm p3 ((2 : Int32) + (1 : Int32)))), .val (.ref a_10), .val (.ref a_24), .val (.ref a_57), .val (.ref a_108), .val (.ref a_178), .val (.ref a_453), .val (.ref a_502)] [(.int (1 : Int32))])) := by
          refine C_549.trans ?_
          refine XS.icmpYes X_511.here hx rfl (pc0 := 267) (pc' := 283) rfl (hb hby at_267) rfl (ii_le_t hc_550) (by decide) (by decide) ?_
          refine XS.iload X_511.here hx rfl (hb hby at_283) rfl ?_
          refine XS.iconst X_511.here hx rfl (hb hby at_285) ?_
          refine XS.icmpYes X_511.here hx rfl (pc0 := 286) (pc' := 302) rfl (hb hby at_286) rfl (ii_le_t (own_ge1 hm_444.2.1 (by decide))) (by decide) (by decide) ?_
          refine XS.iload X_511.here hx rfl (hb hby at_302) rfl ?_
          refine XS.iconst X_511.here hx rfl (hb hby at_304) ?_
          refine XS.icmpYes X_511.here hx rfl (pc0 := 305) (pc' := 321) rfl (hb hby at_305) rfl (ii_le_t (own_ge1 hm_444.2.1 (by decide))) (by decide) (by decide) ?_
          refine XS.iconst X_511.here hx rfl (hb hby at_321) ?_
          show Steps p.tables e below (T_511.setTop (mkF m 322 #[.val (.int p0), .val (.int p1), .val (.int p2), .val (.int p3), .val (.int (own_cw p0)), .val (.int (own_cw (own_us p0))), .val (.int (own_cw p1)), .val (.int (own_cw (own_us p1))), .val (.int (2 : Int32)), .val (.int (own_rm p3 ((2 : Int32) + (1 : Int32)))), .val (.ref a_10), .val (.ref a_24), .val (.ref a_57), .val (.ref a_108), .val (.ref a_178), .val (.ref a_453), .val (.ref a_502)] [(.int (1 : Int32))])) _
          exact Steps.refl _
        have K_564 : Keep h0 T_496.heap [] := (((((K_258.ext E_449).trans K_464 (allS (Or.inr (Nat.le_trans (Nat.le_trans (Nat.le_trans (Nat.le_trans (Nat.le_trans (Nat.le_trans (Nat.le_trans (Nat.le_trans (Nat.le_trans (Nat.le_trans (Nat.le_trans (Nat.le_trans (Nat.le_trans (Nat.le_trans (Nat.le_trans E_7.1 E_21.1) (Keep.of_wr W_41).1) E_54.1) (Keep.of_wr W_74).1) (Keep.of_wr W_93).1) E_105.1) (Keep.of_wr W_125).1) (Keep.of_wr W_144).1) (Keep.of_wr W_163).1) E_175.1) (Keep.of_wr W_195).1) (Keep.of_wr W_214).1) (Keep.of_wr W_232).1) (Keep.of_wr W_250).1) (Nat.le_of_eq g_454.symm))) all0)).ext E_473).trans K_486 (allS (Or.inr (Nat.le_trans (Nat.le_trans (Nat.le_trans (Nat.le_trans (Nat.le_trans (Nat.le_trans (Nat.le_trans (Nat.le_trans (Nat.le_trans (Nat.le_trans (Nat.le_trans (Nat.le_trans (Nat.le_trans (Nat.le_trans (Nat.le_trans (Nat.le_trans (Nat.le_trans E_7.1 E_21.1) (Keep.of_wr W_41).1) E_54.1) (Keep.of_wr W_74).1) (Keep.of_wr W_93).1) E_105.1) (Keep.of_wr W_125).1) (Keep.of_wr W_144).1) (Keep.of_wr W_163).1) E_175.1) (Keep.of_wr W_195).1) (Keep.of_wr W_214).1) (Keep.of_wr W_232).1) (Keep.of_wr W_250).1) E_449.1) K_464.1) (Nat.le_of_eq g_478.symm))) all0)).trans K_504 all0)
        obtain ⟨fs, hr, hrun, hended, hRE⟩ := X_511.leaveW hS_496 (by rw [show T_511.heap = T_496.heap from e_520]; exact (Nat.le_refl _)) (v := some (.int (1 : Int32))) (fun h => by rw [Bd.returns] at h; cases h)
        refine ⟨_, _, C_563.trans (retN X_511 hx (t := .boolean) Bd.returns (by simp) (hb hby at_322) hr), hrun, hended, _, _, rfl, ?_, ?_, hRE.1, hRE.2.1, hRE.2.2.1, hRE.2.2.2.mono (by decide) (by decide)⟩
        · show Q_law Z G1 G3 p0 p1 p2 p3 h0 n0 (some (.int (1 : Int32))) T_511.heap _
          rw [e_520]
          exact ⟨rfl, N_519, K_564⟩
        · show CHr Z consts_1 s.vm s.heap T_511.vm T_511.heap
          rw [hh, show T_511.heap = T_496.heap from e_520]
          exact CR_509.trans (CHv.at X_511 hZ_496 hEL CH_508)
  · skip
    have C_565 : Steps p.tables e below S0 (T_246.setTop (mkF m 130 #[.val (.int p0), .val (.int p1), .val (.int p2), .val (.int p3), .val (.int (own_cw p0)), .val (.int (own_cw (own_us p0))), .val (.int (own_cw p1)), .val (.int (own_cw (own_us p1))), .val (.int (3 : Int32)), .val (.int (own_rm p3 ((3 : Int32) + (1 : Int32)))), .val (.ref a_10), .val (.ref a_24), .val (.ref a_57), .val (.ref a_108), .val (.ref a_178), .unset, .unset] [(.int (3 : Int32))])) := by have q := C_257; rw [hn_262] at q; exact q
    have hm_566 := own_rmr p3 (k := 3) (by decide) (by decide)
    obtain ⟨T_567, h_568, X_569, e_570, E_571, A_572, D_573, U_577, st_574⟩ := newO X_248 hx hZ hown (w3 hw) (w4 hw) (w5 hw) e_249 (g := (mkF m 193 #[.val (.int p0), .val (.int p1), .val (.int p2), .val (.int p3), .val (.int (own_cw p0)), .val (.int (own_cw (own_us p0))), .val (.int (own_cw p1)), .val (.int (own_cw (own_us p1))), .val (.int (3 : Int32)), .val (.int (own_rm p3 ((3 : Int32) + (1 : Int32)))), .val (.ref a_10), .val (.ref a_24), .val (.ref a_57), .val (.ref a_108), .val (.ref a_178), .unset, .unset] [])) rfl (hb hby at_193) (by decide) (by decide)
    obtain ⟨a_575, g_576⟩ : ∃ z, z = h_247.size := ⟨_, rfl⟩
    rw [← g_576] at A_572 D_573 st_574 U_577
    have CH_578 : CHv Z consts_1 s.vm h_568 := CHv.ext E_571 CH_254
    have CR_579 : CHr Z consts_1 s.vm h0 s.vm h_568 := CR_255.trans (CHr.ext E_571 CH_254)
    have V_580 : Arv Z h_568 a_108 k_102 .char (3 : Int32) [(.int (own_cw p0)), (.int (own_cw (own_us p0))), (.int (own_cw p1))] (.int (0 : Int32)) := ((((((V_169.ext E_175).other W_195 (Nat.ne_of_lt (Nat.lt_of_lt_of_le V_169.lt (Nat.le_trans (Nat.le_refl _) (Nat.le_of_eq g_179.symm))))).other W_214 (Nat.ne_of_lt (Nat.lt_of_lt_of_le V_169.lt (Nat.le_trans (Nat.le_refl _) (Nat.le_of_eq g_179.symm))))).other W_232 (Nat.ne_of_lt (Nat.lt_of_lt_of_le V_169.lt (Nat.le_trans (Nat.le_refl _) (Nat.le_of_eq g_179.symm))))).other W_250 (Nat.ne_of_lt (Nat.lt_of_lt_of_le V_169.lt (Nat.le_trans (Nat.le_refl _) (Nat.le_of_eq g_179.symm))))).ext E_571)
    have V_581 : Arv Z h_568 a_108 k_102 .char (3 : Int32) (own_iv [(own_cw p0), (own_cw (own_us p0)), (own_cw p1)]) (.int (0 : Int32)) := V_580
    have O_582 : Old Z n0 h_247 := (((((O_199.ext E_175).wr W_195 (Nat.le_trans (own_n0 O_199) (Nat.le_of_eq g_179.symm))).wr W_214 (Nat.le_trans (own_n0 O_199) (Nat.le_of_eq g_179.symm))).wr W_232 (Nat.le_trans (own_n0 O_199) (Nat.le_of_eq g_179.symm))).wr W_250 (Nat.le_trans (own_n0 O_199) (Nat.le_of_eq g_179.symm)))
    have O_583 : Old Z n0 h_568 := (O_582.ext E_571)
    obtain ⟨_, _, ⟨T_584, L_584, k_584, n_584⟩, -, X_584, ⟨Lc_584, hQ_584, l_584, y_584, z_584⟩, st_584⟩ := X_569.specialBack hx (y := M222) rfl hown (mvT hZ (w6 hw)) (mvT hZ (w7 hw)) (mvT hZ (w8 hw)) (by decide) (backOf (W := 1) (rm_si1g l Z a0 hw [] G1 G3 HG h_568 n0 O_583 a_575 a_108 k_102 (3 : Int32) [(own_cw p0), (own_cw (own_us p0)), (own_cw p1)] A_572 (D_573 (Or.inr (w31 hw)) (ty := (.array .byte)) (by decide)) (D_573 (Or.inr (w29 hw)) (ty := .byte) (by decide)) (Nat.le_trans (own_n0 O_582) (Nat.le_of_eq g_576.symm)) V_581 (by decide) (by decide) rfl (own_u1 (own_cw_lo _) (own_cw_hi _) (own_u1 (own_cw_lo _) (own_cw_hi _) (own_u1 (own_cw_lo _) (own_cw_hi _) own_u0))) (by decide)) hZ (w8 hw) (w5 hw) (by decide) (by decide)) (g := (mkF m 199 #[.val (.int p0), .val (.int p1), .val (.int p2), .val (.int p3), .val (.int (own_cw p0)), .val (.int (own_cw (own_us p0))), .val (.int (own_cw p1)), .val (.int (own_cw (own_us p1))), .val (.int (3 : Int32)), .val (.int (own_rm p3 ((3 : Int32) + (1 : Int32)))), .val (.ref a_10), .val (.ref a_24), .val (.ref a_57), .val (.ref a_108), .val (.ref a_178), .unset, .unset] [(.ref a_108), (.ref a_575), (.ref a_575)])) rfl (by rw [hml]; rfl) (Steps.refl _) (a := a_575) (argsL := [(.ref a_108)]) (rest := [(.ref a_575)]) (lenOf pd_743 rfl) rfl (by show 2 * 0 + _ ≤ _; exact Nat.le_of_eq rfl) (hb hby at_199) (fun _ _ => ⟨rfl, e_570, (by decide : 6 + 2 ≤ _), (by decide : 14 + 24 ≤ _)⟩)
    dsimp only [Pt.U, Pt.locs, Pt.cells, Pt.slots] at X_584 l_584 y_584 z_584 st_584 hQ_584
    have X_584 := own_cast X_584 l_584 y_584 z_584
    obtain ⟨rfl, N_585, K_586, g_587⟩ := hQ_584
    have N_588 := Fr.app N_253 N_585
    have CH_589 : CHv Z consts_1 s.vm T_584.heap := CHv.keep K_586 (sfS (own_safe_null hZ.alike A_572 (D_573 (Or.inr (w31 hw)) (ty := (.array .byte)) (by decide))) sf0) CH_578
    have CR_590 : CHr Z consts_1 s.vm h0 s.vm T_584.heap := CR_579.trans (CHr.keep K_586 (sfS (own_safe_null hZ.alike A_572 (D_573 (Or.inr (w31 hw)) (ty := (.array .byte)) (by decide))) sf0) CH_578)
    obtain ⟨T_591, h_592, X_593, e_594, E_595, A_596, D_597, U_601, st_598⟩ := newO X_584 hx hZ hown (w32 hw) (w33 hw) (w34 hw) rfl (g := (mkF m 218 #[.val (.int p0), .val (.int p1), .val (.int p2), .val (.int p3), .val (.int (own_cw p0)), .val (.int (own_cw (own_us p0))), .val (.int (own_cw p1)), .val (.int (own_cw (own_us p1))), .val (.int (3 : Int32)), .val (.int (own_rm p3 ((3 : Int32) + (1 : Int32)))), .val (.ref a_10), .val (.ref a_24), .val (.ref a_57), .val (.ref a_108), .val (.ref a_178), .val (.ref a_575), .unset] [])) rfl (hb hby at_218) (by decide) (by decide)
    obtain ⟨a_599, g_600⟩ : ∃ z, z = T_584.heap.size := ⟨_, rfl⟩
    rw [← g_600] at A_596 D_597 st_598 U_601
    have CH_602 : CHv Z consts_1 s.vm h_592 := CHv.ext E_595 CH_589
    have CR_603 : CHr Z consts_1 s.vm h0 s.vm h_592 := CR_590.trans (CHr.ext E_595 CH_589)
    have O_604 : Old Z n0 T_584.heap := (O_583.keep K_586 (allS (Nat.le_trans (own_n0 O_582) (Nat.le_of_eq g_576.symm)) all0))
    have O_605 : Old Z n0 h_592 := (O_604.ext E_595)
    obtain ⟨_, _, ⟨T_606, L_606, k_606, n_606⟩, -, X_606, ⟨Lc_606, hQ_606, l_606, y_606, z_606⟩, st_606⟩ := X_593.specialBack hx (y := M701) rfl hown (mvT hZ (w35 hw)) (mvT hZ (w36 hw)) (mvT hZ (w37 hw)) (by decide) (backOf (W := 1) (rm_dii l Z a0 hw [] G1 G3 HG h_592 n0 O_605 a_599 a_575 (own_rm p3 ((3 : Int32) + (1 : Int32))) A_596 (D_597 (Or.inr (w45 hw)) (ty := (.object "java/lang/String")) (by decide)) (D_597 (Or.inr (w47 hw)) (ty := .int) (by decide)) (Nat.le_trans (own_n0 O_604) (Nat.le_of_eq g_600.symm))) hZ (w37 hw) (w34 hw) (by decide) (by decide)) (g := (mkF m 226 #[.val (.int p0), .val (.int p1), .val (.int p2), .val (.int p3), .val (.int (own_cw p0)), .val (.int (own_cw (own_us p0))), .val (.int (own_cw p1)), .val (.int (own_cw (own_us p1))), .val (.int (3 : Int32)), .val (.int (own_rm p3 ((3 : Int32) + (1 : Int32)))), .val (.ref a_10), .val (.ref a_24), .val (.ref a_57), .val (.ref a_108), .val (.ref a_178), .val (.ref a_575), .unset] [(.int (own_rm p3 ((3 : Int32) + (1 : Int32)))), (.ref a_575), (.ref a_599), (.ref a_599)])) rfl (by rw [hml]; rfl) (Steps.refl _) (a := a_599) (argsL := [(.ref a_575), (.int (own_rm p3 ((3 : Int32) + (1 : Int32))))]) (rest := [(.ref a_599)]) (lenOf pd_749 rfl) rfl (by show 2 * 0 + _ ≤ _; exact Nat.le_of_eq rfl) (hb hby at_226) (fun _ _ => ⟨rfl, e_594, (by decide : 9 + 0 ≤ _), (by decide : 40 + 0 ≤ _)⟩)
    dsimp only [Pt.U, Pt.locs, Pt.cells, Pt.slots] at X_606 l_606 y_606 z_606 st_606 hQ_606
    have X_606 := own_cast X_606 l_606 y_606 z_606
    obtain ⟨rfl, N_607, K_608, g_609, g_610, g_611⟩ := hQ_606
    have N_612 := Fr.app N_588 N_607
    have CH_613 : CHv Z consts_1 s.vm T_606.heap := CHv.keep K_608 (sfS (Safe.exa hZ.alike A_596 (by decide) (by decide)) sf0) CH_602
    have CR_614 : CHr Z consts_1 s.vm h0 s.vm T_606.heap := CR_603.trans (CHr.keep K_608 (sfS (Safe.exa hZ.alike A_596 (by decide) (by decide)) sf0) CH_602)
    have E_615 : Exa Z T_606.heap a_575 "java/lang/String" := (((A_572.keep K_586).ext E_595).keep K_608)
    have S_616 : own_S Z T_606.heap a_575 (3 : Int32) [(own_cw p0), (own_cw (own_us p0)), (own_cw p1)] := own_S.keep g_587 (((Keep.refl _ _).ext E_595).trans K_608 (allS (Or.inr (Nat.le_trans (Nat.le_refl _) (Nat.le_of_eq g_600.symm))) all0))
    have O_617 : Old Z n0 T_606.heap := (O_605.keep K_608 (allS (Nat.le_trans (own_n0 O_604) (Nat.le_of_eq g_600.symm)) all0))
    obtain ⟨q_619, q_620, q_621, q_622, q_623⟩ := isOf (T := T_606) hZ rfl g_609
    obtain ⟨_, _, ⟨T_618, L_618, k_618, n_618⟩, -, Y_618, S_618, G_618, ⟨Lc_618, hQ_618, l_618, y_618, z_618, R_618⟩, st_618⟩ := X_606.virtualBackS hx (y := M722) (z := M722) hown (mvT hZ (w48 hw)) (mvT hZ (w49 hw)) (notFace_of_selects (args := #[]) (mvT hZ (w51 hw))) (mvT hZ (w51 hw)) (mvT hZ (w50 hw)) (by decide) (backOfSH (vm0 := s.vm) (W := 0) (rm_mp l Z a0 hw [] G1 G3 HG T_606.heap n0 O_617 a_599 a_575 (3 : Int32) [(own_cw p0), (own_cw (own_us p0)), (own_cw p1)] (own_rm p3 ((3 : Int32) + (1 : Int32))) g_609 g_610 g_611 E_615 S_616 (by decide) rfl (own_u1 (own_cw_lo _) (own_cw_hi _) (own_u1 (own_cw_lo _) (own_cw_hi _) (own_u1 (own_cw_lo _) (own_cw_hi _) own_u0))) (by decide) hm_566.1 (own_ge1 hm_566.2.1 (by decide))) hZ (w52 hw) (w34 hw) (by decide) (by decide) hEL CH_613) q_621 q_623 (g := (mkF m 229 #[.val (.int p0), .val (.int p1), .val (.int p2), .val (.int p3), .val (.int (own_cw p0)), .val (.int (own_cw (own_us p0))), .val (.int (own_cw p1)), .val (.int (own_cw (own_us p1))), .val (.int (3 : Int32)), .val (.int (own_rm p3 ((3 : Int32) + (1 : Int32)))), .val (.ref a_10), .val (.ref a_24), .val (.ref a_57), .val (.ref a_108), .val (.ref a_178), .val (.ref a_575), .unset] [(.ref a_599)])) rfl (by rw [hml]; rfl) (Steps.refl _) (argsL := []) (rest := []) (lenOf pd_753 rfl) rfl (by show 2 * 0 + _ ≤ _; exact Nat.le_of_eq rfl) (hb hby at_229) (fun _ _ => ⟨rfl, rfl, (by decide : 9 + 3 ≤ _), (by decide : 40 + 28 ≤ _)⟩)
    dsimp only [Pt.U, Pt.locs, Pt.cells, Pt.slots] at Y_618 S_618 G_618 l_618 y_618 z_618 st_618 hQ_618 R_618
    have Y_618 := own_cast Y_618 l_618 y_618 z_618
    obtain ⟨X_618, hS_618, hZ_618, hown_618⟩ := rebS hS0 (n1 := T_606.heap.size) (by rw [show T_606.heap = T_606.heap from rfl]; exact (Nat.le_trans (Nat.le_refl _) (Nat.le_trans (Nat.le_trans (Nat.le_trans (Nat.le_trans (Nat.le_trans (Nat.le_trans (Nat.le_trans (Nat.le_trans (Nat.le_trans (Nat.le_trans (Nat.le_trans (Nat.le_trans (Nat.le_trans (Nat.le_trans (Nat.le_trans (Nat.le_trans (Nat.le_trans (Nat.le_trans E_7.1 E_21.1) (Keep.of_wr W_41).1) E_54.1) (Keep.of_wr W_74).1) (Keep.of_wr W_93).1) E_105.1) (Keep.of_wr W_125).1) (Keep.of_wr W_144).1) (Keep.of_wr W_163).1) E_175.1) (Keep.of_wr W_195).1) (Keep.of_wr W_214).1) (Keep.of_wr W_232).1) (Keep.of_wr W_250).1) E_571.1) K_586.1) E_595.1) K_608.1))) Y_618 S_618 G_618 hZ hown
    obtain ⟨a_624, rfl, N_625, K_626, g_627, g_628⟩ := hQ_618
    have N_629 := Fr.app N_612 N_625
    have CH_630 : CHv Z consts_1 T_618.vm T_618.heap := R_618.1
    have CR_631 : CHr Z consts_1 s.vm h0 T_618.vm T_618.heap := CR_614.trans R_618
    have O_632 : Old Z n0 T_618.heap := (O_617.keep K_626 all0)
    obtain ⟨q_634, q_635, q_636, q_637, q_638⟩ := isOf (T := T_618) hZ_618 rfl g_627
    obtain ⟨_, _, ⟨T_633, L_633, k_633, n_633⟩, -, X_633, ⟨Lc_633, hQ_633, l_633, y_633, z_633⟩, st_633⟩ := X_618.virtualBack hx (y := M264) (z := M264) hown_618 (mvT hZ_618 (w107 hw)) (mvT hZ_618 (w59 hw)) (notFace_of_selects (args := #[]) (mvT hZ_618 (w61 hw))) (mvT hZ_618 (w61 hw)) (mvT hZ_618 (w60 hw)) (by decide) (backOf (W := 0) (rm_lenS l Z a0 hw [] G1 G3 HG T_618.heap n0 O_632 a_624 (own_rm p3 ((3 : Int32) + (1 : Int32))) ([(own_cw p0), (own_cw (own_us p0)), (own_cw p1)].take (own_rm p3 ((3 : Int32) + (1 : Int32))).toNatClampNeg) g_628 hm_566.1 hm_566.2.2) hZ_618 (w62 hw) (w5 hw) (by decide) (by decide)) q_636 q_638 (g := (mkF m 236 #[.val (.int p0), .val (.int p1), .val (.int p2), .val (.int p3), .val (.int (own_cw p0)), .val (.int (own_cw (own_us p0))), .val (.int (own_cw p1)), .val (.int (own_cw (own_us p1))), .val (.int (3 : Int32)), .val (.int (own_rm p3 ((3 : Int32) + (1 : Int32)))), .val (.ref a_10), .val (.ref a_24), .val (.ref a_57), .val (.ref a_108), .val (.ref a_178), .val (.ref a_575), .val (.ref a_624)] [(.ref a_624)])) rfl (by rw [hml]; rfl) (Steps.refl _) (argsL := []) (rest := []) (lenOf pd_647 rfl) rfl (by show 2 * 0 + _ ≤ _; exact Nat.le_of_eq rfl) (hb hby at_236) (fun _ _ => ⟨rfl, rfl, (by decide : 12 + 0 ≤ _), (by decide : 68 + 0 ≤ _)⟩)
    dsimp only [Pt.U, Pt.locs, Pt.cells, Pt.slots] at X_633 l_633 y_633 z_633 st_633 hQ_633
    have X_633 := own_cast X_633 l_633 y_633 z_633
    obtain ⟨rfl, N_639, e_640⟩ := hQ_633
    have N_641 := Fr.app N_629 N_639
    have e_642 : T_633.heap = T_618.heap := e_640
    have C_643 : Steps p.tables e below S0 (T_633.setTop (mkF m 248 #[.val (.int p0), .val (.int p1), .val (.int p2), .val (.int p3), .val (.int (own_cw p0)), .val (.int (own_cw (own_us p0))), .val (.int (own_cw p1)), .val (.int (own_cw (own_us p1))), .val (.int (3 : Int32)), .val (.int (own_rm p3 ((3 : Int32) + (1 : Int32)))), .val (.ref a_10), .val (.ref a_24), .val (.ref a_57), .val (.ref a_108), .val (.ref a_178), .val (.ref a_575), .val (.ref a_624)] [(.int (own_rm p3 ((3 : Int32) + (1 : Int32))))])) := by
      refine C_565.trans ?_
      refine XS.ifYes X_248.here hx rfl (pc0 := 130) (pc' := 147) rfl (hb hby at_130) rfl (by decide) (by decide) (by decide) ?_
      refine XS.iload X_248.here hx rfl (hb hby at_147) rfl ?_
      refine XS.iconst X_248.here hx rfl (hb hby at_149) ?_
      refine XS.icmpYes X_248.here hx rfl (pc0 := 150) (pc' := 167) rfl (hb hby at_150) rfl (by decide) (by decide) (by decide) ?_
      refine XS.iload X_248.here hx rfl (hb hby at_167) rfl ?_
      refine XS.iconst X_248.here hx rfl (hb hby at_169) ?_
      refine XS.icmpYes X_248.here hx rfl (pc0 := 170) (pc' := 187) rfl (hb hby at_170) rfl (by decide) (by decide) (by decide) ?_
      refine XS.iload X_248.here hx rfl (hb hby at_187) rfl ?_
      show Steps p.tables e below (T_246.setTop (mkF m 189 #[.val (.int p0), .val (.int p1), .val (.int p2), .val (.int p3), .val (.int (own_cw p0)), .val (.int (own_cw (own_us p0))), .val (.int (own_cw p1)), .val (.int (own_cw (own_us p1))), .val (.int (3 : Int32)), .val (.int (own_rm p3 ((3 : Int32) + (1 : Int32)))), .val (.ref a_10), .val (.ref a_24), .val (.ref a_57), .val (.ref a_108), .val (.ref a_178), .unset, .unset] [(.int (3 : Int32))])) _
      refine XS.iconst X_248.here hx rfl (hb hby at_189) ?_
      refine XS.icmpNo X_248.here hx rfl (hb hby at_190) rfl (by decide) ?_
      refine st_574 _ ?_
      refine XS.dup X_569.here hx rfl (hb hby at_196) rfl rfl ?_
      refine XS.aload X_569.here hx rfl (hb hby at_197) rfl rfl ?_
      refine st_584.trans ?_
      refine XS.astore X_584.here hx rfl (hb hby at_202) rfl rfl (l' := #[.val (.int p0), .val (.int p1), .val (.int p2), .val (.int p3), .val (.int (own_cw p0)), .val (.int (own_cw (own_us p0))), .val (.int (own_cw p1)), .val (.int (own_cw (own_us p1))), .val (.int (3 : Int32)), .val (.int (own_rm p3 ((3 : Int32) + (1 : Int32)))), .val (.ref a_10), .val (.ref a_24), .val (.ref a_57), .val (.ref a_108), .val (.ref a_178), .val (.ref a_575), .unset]) rfl ?_
      refine XS.goto X_584.here hx rfl (pc0 := 204) (pc' := 218) rfl (hb hby at_204) (by decide) (by decide) ?_
      show Steps p.tables e below (T_584.setTop (mkF m 218 #[.val (.int p0), .val (.int p1), .val (.int p2), .val (.int p3), .val (.int (own_cw p0)), .val (.int (own_cw (own_us p0))), .val (.int (own_cw p1)), .val (.int (own_cw (own_us p1))), .val (.int (3 : Int32)), .val (.int (own_rm p3 ((3 : Int32) + (1 : Int32)))), .val (.ref a_10), .val (.ref a_24), .val (.ref a_57), .val (.ref a_108), .val (.ref a_178), .val (.ref a_575), .unset] [])) _
      refine st_598 _ ?_
      refine XS.dup X_593.here hx rfl (hb hby at_221) rfl rfl ?_
      refine XS.aload X_593.here hx rfl (hb hby at_222) rfl rfl ?_
      refine XS.iload X_593.here hx rfl (hb hby at_224) rfl ?_
      refine st_606.trans ?_
      refine st_618.trans ?_
      refine XS.astore X_618.here hx rfl (hb hby at_232) rfl rfl (l' := #[.val (.int p0), .val (.int p1), .val (.int p2), .val (.int p3), .val (.int (own_cw p0)), .val (.int (own_cw (own_us p0))), .val (.int (own_cw p1)), .val (.int (own_cw (own_us p1))), .val (.int (3 : Int32)), .val (.int (own_rm p3 ((3 : Int32) + (1 : Int32)))), .val (.ref a_10), .val (.ref a_24), .val (.ref a_57), .val (.ref a_108), .val (.ref a_178), .val (.ref a_575), .val (.ref a_624)]) rfl ?_
      refine XS.aload X_618.here hx rfl (hb hby at_234) rfl rfl ?_
      show Steps p.tables e below (T_618.setTop (mkF m 236 #[.val (.int p0), .val (.int p1), .val (.int p2), .val (.int p3), .val (.int (own_cw p0)), .val (.int (own_cw (own_us p0))), .val (.int (own_cw p1)), .val (.int (own_cw (own_us p1))), .val (.int (3 : Int32)), .val (.int (own_rm p3 ((3 : Int32) + (1 : Int32)))), .val (.ref a_10), .val (.ref a_24), .val (.ref a_57), .val (.ref a_108), .val (.ref a_178), .val (.ref a_575), .val (.ref a_624)] [(.ref a_624)])) _
      refine st_633.trans ?_
      refine XS.iload X_633.here hx rfl (hb hby at_239) rfl ?_
      refine XS.icmpYes X_633.here hx rfl (pc0 := 241) (pc' := 246) rfl (hb hby at_241) rfl (ii_eq_t rfl) (by decide) (by decide) ?_
      refine XS.iload X_633.here hx rfl (hb hby at_246) rfl ?_
      exact Steps.refl _
    by_cases hc_644 : (0 : Int32) < (own_rm p3 ((3 : Int32) + (1 : Int32)))
    · skip
      obtain ⟨q_646, q_647, q_648, q_649, q_650⟩ := isOf (T := T_633) hZ_618 e_642 g_627
      obtain ⟨_, _, ⟨T_645, L_645, k_645, n_645⟩, -, X_645, ⟨Lc_645, hQ_645, l_645, y_645, z_645⟩, st_645⟩ := X_633.virtualBack hx (y := M319) (z := M319) hown_618 (mvT hZ_618 (w108 hw)) (mvT hZ_618 (w109 hw)) (notFace_of_selects (args := #[]) (mvT hZ_618 (w111 hw))) (mvT hZ_618 (w111 hw)) (mvT hZ_618 (w110 hw)) (by decide) (backOf (W := 0) (rm_chS l Z a0 hw [] G1 G3 HG T_618.heap n0 O_632 a_624 (own_rm p3 ((3 : Int32) + (1 : Int32))) ([(own_cw p0), (own_cw (own_us p0)), (own_cw p1)].take (own_rm p3 ((3 : Int32) + (1 : Int32))).toNatClampNeg) (0 : Int32) g_628 hm_566.1 (own_tkl (n := (3 : Int32)) rfl hm_566.1 hm_566.2.1) (own_u16take (own_u1 (own_cw_lo _) (own_cw_hi _) (own_u1 (own_cw_lo _) (own_cw_hi _) (own_u1 (own_cw_lo _) (own_cw_hi _) own_u0))) _) hm_566.2.2 (by decide) hc_644) hZ_618 (w112 hw) (w5 hw) (by decide) (by decide)) q_648 q_650 (g := (mkF m 254 #[.val (.int p0), .val (.int p1), .val (.int p2), .val (.int p3), .val (.int (own_cw p0)), .val (.int (own_cw (own_us p0))), .val (.int (own_cw p1)), .val (.int (own_cw (own_us p1))), .val (.int (3 : Int32)), .val (.int (own_rm p3 ((3 : Int32) + (1 : Int32)))), .val (.ref a_10), .val (.ref a_24), .val (.ref a_57), .val (.ref a_108), .val (.ref a_178), .val (.ref a_575), .val (.ref a_624)] [(.int (0 : Int32)), (.ref a_624)])) rfl (by rw [hml]; rfl) (Steps.refl _) (argsL := [(.int (0 : Int32))]) (rest := []) (lenOf pd_760 rfl) rfl (by show 2 * 0 + _ ≤ _; exact Nat.le_of_eq rfl) (hb hby at_254) (fun _ _ => ⟨rfl, e_642, (by decide : 12 + 0 ≤ _), (by decide : 68 + 0 ≤ _)⟩)
      dsimp only [Pt.U, Pt.locs, Pt.cells, Pt.slots] at X_645 l_645 y_645 z_645 st_645 hQ_645
      have X_645 := own_cast X_645 l_645 y_645 z_645
      obtain ⟨rfl, N_651, e_652⟩ := hQ_645
      have N_653 := Fr.app N_641 N_651
      have e_654 : T_645.heap = T_618.heap := e_652
      have C_655 : Steps p.tables e below S0 (T_645.setTop (mkF m 267 #[.val (.int p0), .val (.int p1), .val (.int p2), .val (.int p3), .val (.int (own_cw p0)), .val (.int (own_cw (own_us p0))), .val (.int (own_cw p1)), .val (.int (own_cw (own_us p1))), .val (.int (3 : Int32)), .val (.int (own_rm p3 ((3 : Int32) + (1 : Int32)))), .val (.ref a_10), .val (.ref a_24), .val (.ref a_57), .val (.ref a_108), .val (.ref a_178), .val (.ref a_575), .val (.ref a_624)] [(.int (1 : Int32)), (.int (own_rm p3 ((3 : Int32) + (1 : Int32))))])) := by
        refine C_643.trans ?_
        refine XS.ifNo X_633.here hx rfl (hb hby at_248) rfl (i0_le_f hc_644) ?_
        refine XS.aload X_633.here hx rfl (hb hby at_251) rfl rfl ?_
        refine XS.iconst X_633.here hx rfl (hb hby at_253) ?_
        refine st_645.trans ?_
        refine XS.iload X_645.here hx rfl (hb hby at_257) rfl ?_
        refine XS.icmpYes X_645.here hx rfl (pc0 := 259) (pc' := 264) rfl (hb hby at_259) rfl (ii_eq_t (own_gttake (i := (0 : Int32)) (own_nat (by decide) hc_644).1)) (by decide) (by decide) ?_
        refine XS.iload X_645.here hx rfl (hb hby at_264) rfl ?_
        refine XS.iconst X_645.here hx rfl (hb hby at_266) ?_
        show Steps p.tables e below (T_645.setTop (mkF m 267 #[.val (.int p0), .val (.int p1), .val (.int p2), .val (.int p3), .val (.int (own_cw p0)), .val (.int (own_cw (own_us p0))), .val (.int (own_cw p1)), .val (.int (own_cw (own_us p1))), .val (.int (3 : Int32)), .val (.int (own_rm p3 ((3 : Int32) + (1 : Int32)))), .val (.ref a_10), .val (.ref a_24), .val (.ref a_57), .val (.ref a_108), .val (.ref a_178), .val (.ref a_575), .val (.ref a_624)] [(.int (1 : Int32)), (.int (own_rm p3 ((3 : Int32) + (1 : Int32))))])) _
        exact Steps.refl _
      by_cases hc_656 : (1 : Int32) < (own_rm p3 ((3 : Int32) + (1 : Int32)))
      · skip
        obtain ⟨q_658, q_659, q_660, q_661, q_662⟩ := isOf (T := T_645) hZ_618 e_654 g_627
        obtain ⟨_, _, ⟨T_657, L_657, k_657, n_657⟩, -, X_657, ⟨Lc_657, hQ_657, l_657, y_657, z_657⟩, st_657⟩ := X_645.virtualBack hx (y := M319) (z := M319) hown_618 (mvT hZ_618 (w108 hw)) (mvT hZ_618 (w109 hw)) (notFace_of_selects (args := #[]) (mvT hZ_618 (w111 hw))) (mvT hZ_618 (w111 hw)) (mvT hZ_618 (w110 hw)) (by decide) (backOf (W := 0) (rm_chS l Z a0 hw [] G1 G3 HG T_618.heap n0 O_632 a_624 (own_rm p3 ((3 : Int32) + (1 : Int32))) ([(own_cw p0), (own_cw (own_us p0)), (own_cw p1)].take (own_rm p3 ((3 : Int32) + (1 : Int32))).toNatClampNeg) (1 : Int32) g_628 hm_566.1 (own_tkl (n := (3 : Int32)) rfl hm_566.1 hm_566.2.1) (own_u16take (own_u1 (own_cw_lo _) (own_cw_hi _) (own_u1 (own_cw_lo _) (own_cw_hi _) (own_u1 (own_cw_lo _) (own_cw_hi _) own_u0))) _) hm_566.2.2 (by decide) hc_656) hZ_618 (w112 hw) (w5 hw) (by decide) (by decide)) q_660 q_662 (g := (mkF m 273 #[.val (.int p0), .val (.int p1), .val (.int p2), .val (.int p3), .val (.int (own_cw p0)), .val (.int (own_cw (own_us p0))), .val (.int (own_cw p1)), .val (.int (own_cw (own_us p1))), .val (.int (3 : Int32)), .val (.int (own_rm p3 ((3 : Int32) + (1 : Int32)))), .val (.ref a_10), .val (.ref a_24), .val (.ref a_57), .val (.ref a_108), .val (.ref a_178), .val (.ref a_575), .val (.ref a_624)] [(.int (1 : Int32)), (.ref a_624)])) rfl (by rw [hml]; rfl) (Steps.refl _) (argsL := [(.int (1 : Int32))]) (rest := []) (lenOf pd_760 rfl) rfl (by show 2 * 0 + _ ≤ _; exact Nat.le_of_eq rfl) (hb hby at_273) (fun _ _ => ⟨rfl, e_654, (by decide : 12 + 0 ≤ _), (by decide : 68 + 0 ≤ _)⟩)
        dsimp only [Pt.U, Pt.locs, Pt.cells, Pt.slots] at X_657 l_657 y_657 z_657 st_657 hQ_657
        have X_657 := own_cast X_657 l_657 y_657 z_657
        obtain ⟨rfl, N_663, e_664⟩ := hQ_657
        have N_665 := Fr.app N_653 N_663
        have e_666 : T_657.heap = T_618.heap := e_664
        have C_667 : Steps p.tables e below S0 (T_657.setTop (mkF m 286 #[.val (.int p0), .val (.int p1), .val (.int p2), .val (.int p3), .val (.int (own_cw p0)), .val (.int (own_cw (own_us p0))), .val (.int (own_cw p1)), .val (.int (own_cw (own_us p1))), .val (.int (3 : Int32)), .val (.int (own_rm p3 ((3 : Int32) + (1 : Int32)))), .val (.ref a_10), .val (.ref a_24), .val (.ref a_57), .val (.ref a_108), .val (.ref a_178), .val (.ref a_575), .val (.ref a_624)] [(.int (2 : Int32)), (.int (own_rm p3 ((3 : Int32) + (1 : Int32))))])) := by
          refine C_655.trans ?_
          refine XS.icmpNo X_645.here hx rfl (hb hby at_267) rfl (ii_le_f hc_656) ?_
          refine XS.aload X_645.here hx rfl (hb hby at_270) rfl rfl ?_
          refine XS.iconst X_645.here hx rfl (hb hby at_272) ?_
          refine st_657.trans ?_
          refine XS.iload X_657.here hx rfl (hb hby at_276) rfl ?_
          refine XS.icmpYes X_657.here hx rfl (pc0 := 278) (pc' := 283) rfl (hb hby at_278) rfl (ii_eq_t (own_gttake (i := (1 : Int32)) (own_nat (by decide) hc_656).1)) (by decide) (by decide) ?_
          refine XS.iload X_657.here hx rfl (hb hby at_283) rfl ?_
          refine XS.iconst X_657.here hx rfl (hb hby at_285) ?_
          show Steps p.tables e below (T_657.setTop (mkF m 286 #[.val (.int p0), .val (.int p1), .val (.int p2), .val (.int p3), .val (.int (own_cw p0)), .val (.int (own_cw (own_us p0))), .val (.int (own_cw p1)), .val (.int (own_cw (own_us p1))), .val (.int (3 : Int32)), .val (.int (own_rm p3 ((3 : Int32) + (1 : Int32)))), .val (.ref a_10), .val (.ref a_24), .val (.ref a_57), .val (.ref a_108), .val (.ref a_178), .val (.ref a_575), .val (.ref a_624)] [(.int (2 : Int32)), (.int (own_rm p3 ((3 : Int32) + (1 : Int32))))])) _
          exact Steps.refl _
        by_cases hc_668 : (2 : Int32) < (own_rm p3 ((3 : Int32) + (1 : Int32)))
        · skip
          obtain ⟨q_670, q_671, q_672, q_673, q_674⟩ := isOf (T := T_657) hZ_618 e_666 g_627
          obtain ⟨_, _, ⟨T_669, L_669, k_669, n_669⟩, -, X_669, ⟨Lc_669, hQ_669, l_669, y_669, z_669⟩, st_669⟩ := X_657.virtualBack hx (y := M319) (z := M319) hown_618 (mvT hZ_618 (w108 hw)) (mvT hZ_618 (w109 hw)) (notFace_of_selects (args := #[]) (mvT hZ_618 (w111 hw))) (mvT hZ_618 (w111 hw)) (mvT hZ_618 (w110 hw)) (by decide) (backOf (W := 0) (rm_chS l Z a0 hw [] G1 G3 HG T_618.heap n0 O_632 a_624 (own_rm p3 ((3 : Int32) + (1 : Int32))) ([(own_cw p0), (own_cw (own_us p0)), (own_cw p1)].take (own_rm p3 ((3 : Int32) + (1 : Int32))).toNatClampNeg) (2 : Int32) g_628 hm_566.1 (own_tkl (n := (3 : Int32)) rfl hm_566.1 hm_566.2.1) (own_u16take (own_u1 (own_cw_lo _) (own_cw_hi _) (own_u1 (own_cw_lo _) (own_cw_hi _) (own_u1 (own_cw_lo _) (own_cw_hi _) own_u0))) _) hm_566.2.2 (by decide) hc_668) hZ_618 (w112 hw) (w5 hw) (by decide) (by decide)) q_672 q_674 (g := (mkF m 292 #[.val (.int p0), .val (.int p1), .val (.int p2), .val (.int p3), .val (.int (own_cw p0)), .val (.int (own_cw (own_us p0))), .val (.int (own_cw p1)), .val (.int (own_cw (own_us p1))), .val (.int (3 : Int32)), .val (.int (own_rm p3 ((3 : Int32) + (1 : Int32)))), .val (.ref a_10), .val (.ref a_24), .val (.ref a_57), .val (.ref a_108), .val (.ref a_178), .val (.ref a_575), .val (.ref a_624)] [(.int (2 : Int32)), (.ref a_624)])) rfl (by rw [hml]; rfl) (Steps.refl _) (argsL := [(.int (2 : Int32))]) (rest := []) (lenOf pd_760 rfl) rfl (by show 2 * 0 + _ ≤ _; exact Nat.le_of_eq rfl) (hb hby at_292) (fun _ _ => ⟨rfl, e_666, (by decide : 12 + 0 ≤ _), (by decide : 68 + 0 ≤ _)⟩)
          dsimp only [Pt.U, Pt.locs, Pt.cells, Pt.slots] at X_669 l_669 y_669 z_669 st_669 hQ_669
          have X_669 := own_cast X_669 l_669 y_669 z_669
          obtain ⟨rfl, N_675, e_676⟩ := hQ_669
          have N_677 := Fr.app N_665 N_675
          have e_678 : T_669.heap = T_618.heap := e_676
          have C_679 : Steps p.tables e below S0 (T_669.setTop (mkF m 322 #[.val (.int p0), .val (.int p1), .val (.int p2), .val (.int p3), .val (.int (own_cw p0)), .val (.int (own_cw (own_us p0))), .val (.int (own_cw p1)), .val (.int (own_cw (own_us p1))), .val (.int (3 : Int32)), .val (.int (own_rm p3 ((3 : Int32) + (1 : Int32)))), .val (.ref a_10), .val (.ref a_24), .val (.ref a_57), .val (.ref a_108), .val (.ref a_178), .val (.ref a_575), .val (.ref a_624)] [(.int (1 : Int32))])) := by
            refine C_667.trans ?_
            refine XS.icmpNo X_657.here hx rfl (hb hby at_286) rfl (ii_le_f hc_668) ?_
            refine XS.aload X_657.here hx rfl (hb hby at_289) rfl rfl ?_
            refine XS.iconst X_657.here hx rfl (hb hby at_291) ?_
            refine st_669.trans ?_
            refine XS.iload X_669.here hx rfl (hb hby at_295) rfl ?_
            refine XS.icmpYes X_669.here hx rfl (pc0 := 297) (pc' := 302) rfl (hb hby at_297) rfl (ii_eq_t (own_gttake (i := (2 : Int32)) (own_nat (by decide) hc_668).1)) (by decide) (by decide) ?_
            refine XS.iload X_669.here hx rfl (hb hby at_302) rfl ?_
            refine XS.iconst X_669.here hx rfl (hb hby at_304) ?_
            show Steps p.tables e below (T_669.setTop (mkF m 305 #[.val (.int p0), .val (.int p1), .val (.int p2), .val (.int p3), .val (.int (own_cw p0)), .val (.int (own_cw (own_us p0))), .val (.int (own_cw p1)), .val (.int (own_cw (own_us p1))), .val (.int (3 : Int32)), .val (.int (own_rm p3 ((3 : Int32) + (1 : Int32)))), .val (.ref a_10), .val (.ref a_24), .val (.ref a_57), .val (.ref a_108), .val (.ref a_178), .val (.ref a_575), .val (.ref a_624)] [(.int (3 : Int32)), (.int (own_rm p3 ((3 : Int32) + (1 : Int32))))])) _
            refine XS.icmpYes X_669.here hx rfl (pc0 := 305) (pc' := 321) rfl (hb hby at_305) rfl (ii_le_t (own_ge1 hm_566.2.1 (by decide))) (by decide) (by decide) ?_
            refine XS.iconst X_669.here hx rfl (hb hby at_321) ?_
            exact Steps.refl _
          have K_680 : Keep h0 T_618.heap [] := (((((K_258.ext E_571).trans K_586 (allS (Or.inr (Nat.le_trans (Nat.le_trans (Nat.le_trans (Nat.le_trans (Nat.le_trans (Nat.le_trans (Nat.le_trans (Nat.le_trans (Nat.le_trans (Nat.le_trans (Nat.le_trans (Nat.le_trans (Nat.le_trans (Nat.le_trans (Nat.le_trans E_7.1 E_21.1) (Keep.of_wr W_41).1) E_54.1) (Keep.of_wr W_74).1) (Keep.of_wr W_93).1) E_105.1) (Keep.of_wr W_125).1) (Keep.of_wr W_144).1) (Keep.of_wr W_163).1) E_175.1) (Keep.of_wr W_195).1) (Keep.of_wr W_214).1) (Keep.of_wr W_232).1) (Keep.of_wr W_250).1) (Nat.le_of_eq g_576.symm))) all0)).ext E_595).trans K_608 (allS (Or.inr (Nat.le_trans (Nat.le_trans (Nat.le_trans (Nat.le_trans (Nat.le_trans (Nat.le_trans (Nat.le_trans (Nat.le_trans (Nat.le_trans (Nat.le_trans (Nat.le_trans (Nat.le_trans (Nat.le_trans (Nat.le_trans (Nat.le_trans (Nat.le_trans (Nat.le_trans E_7.1 E_21.1) (Keep.of_wr W_41).1) E_54.1) (Keep.of_wr W_74).1) (Keep.of_wr W_93).1) E_105.1) (Keep.of_wr W_125).1) (Keep.of_wr W_144).1) (Keep.of_wr W_163).1) E_175.1) (Keep.of_wr W_195).1) (Keep.of_wr W_214).1) (Keep.of_wr W_232).1) (Keep.of_wr W_250).1) E_571.1) K_586.1) (Nat.le_of_eq g_600.symm))) all0)).trans K_626 all0)
          obtain ⟨fs, hr, hrun, hended, hRE⟩ := X_669.leaveW hS_618 (by rw [show T_669.heap = T_618.heap from e_678]; exact (Nat.le_refl _)) (v := some (.int (1 : Int32))) (fun h => by rw [Bd.returns] at h; cases h)
          refine ⟨_, _, C_679.trans (retN X_669 hx (t := .boolean) Bd.returns (by simp) (hb hby at_322) hr), hrun, hended, _, _, rfl, ?_, ?_, hRE.1, hRE.2.1, hRE.2.2.1, hRE.2.2.2.mono (by decide) (by decide)⟩
          · show Q_law Z G1 G3 p0 p1 p2 p3 h0 n0 (some (.int (1 : Int32))) T_669.heap _
            rw [e_678]
            exact ⟨rfl, N_677, K_680⟩
          · show CHr Z consts_1 s.vm s.heap T_669.vm T_669.heap
            rw [hh, show T_669.heap = T_618.heap from e_678]
            exact CR_631.trans (CHv.at X_669 hZ_618 hEL CH_630)
        · skip
          have C_681 : Steps p.tables e below S0 (T_657.setTop (mkF m 322 #[.val (.int p0), .val (.int p1), .val (.int p2), .val (.int p3), .val (.int (own_cw p0)), .val (.int (own_cw (own_us p0))), .val (.int (own_cw p1)), .val (.int (own_cw (own_us p1))), .val (.int (3 : Int32)), .val (.int (own_rm p3 ((3 : Int32) + (1 : Int32)))), .val (.ref a_10), .val (.ref a_24), .val (.ref a_57), .val (.ref a_108), .val (.ref a_178), .val (.ref a_575), .val (.ref a_624)] [(.int (1 : Int32))])) := by
            refine C_667.trans ?_
            refine XS.icmpYes X_657.here hx rfl (pc0 := 286) (pc' := 302) rfl (hb hby at_286) rfl (ii_le_t hc_668) (by decide) (by decide) ?_
            refine XS.iload X_657.here hx rfl (hb hby at_302) rfl ?_
            refine XS.iconst X_657.here hx rfl (hb hby at_304) ?_
            refine XS.icmpYes X_657.here hx rfl (pc0 := 305) (pc' := 321) rfl (hb hby at_305) rfl (ii_le_t (own_ge1 hm_566.2.1 (by decide))) (by decide) (by decide) ?_
            refine XS.iconst X_657.here hx rfl (hb hby at_321) ?_
            exact Steps.refl _
          have K_682 : Keep h0 T_618.heap [] := (((((K_258.ext E_571).trans K_586 (allS (Or.inr (Nat.le_trans (Nat.le_trans (Nat.le_trans (Nat.le_trans (Nat.le_trans (Nat.le_trans (Nat.le_trans (Nat.le_trans (Nat.le_trans (Nat.le_trans (Nat.le_trans (Nat.le_trans (Nat.le_trans (Nat.le_trans (Nat.le_trans E_7.1 E_21.1) (Keep.of_wr W_41).1) E_54.1) (Keep.of_wr W_74).1) (Keep.of_wr W_93).1) E_105.1) (Keep.of_wr W_125).1) (Keep.of_wr W_144).1) (Keep.of_wr W_163).1) E_175.1) (Keep.of_wr W_195).1) (Keep.of_wr W_214).1) (Keep.of_wr W_232).1) (Keep.of_wr W_250).1) (Nat.le_of_eq g_576.symm))) all0)).ext E_595).trans K_608 (allS (Or.inr (Nat.le_trans (Nat.le_trans (Nat.le_trans (Nat.le_trans (Nat.le_trans (Nat.le_trans (Nat.le_trans (Nat.le_trans (Nat.le_trans (Nat.le_trans (Nat.le_trans (Nat.le_trans (Nat.le_trans (Nat.le_trans (Nat.le_trans (Nat.le_trans (Nat.le_trans E_7.1 E_21.1) (Keep.of_wr W_41).1) E_54.1) (Keep.of_wr W_74).1) (Keep.of_wr W_93).1) E_105.1) (Keep.of_wr W_125).1) (Keep.of_wr W_144).1) (Keep.of_wr W_163).1) E_175.1) (Keep.of_wr W_195).1) (Keep.of_wr W_214).1) (Keep.of_wr W_232).1) (Keep.of_wr W_250).1) E_571.1) K_586.1) (Nat.le_of_eq g_600.symm))) all0)).trans K_626 all0)
          obtain ⟨fs, hr, hrun, hended, hRE⟩ := X_657.leaveW hS_618 (by rw [show T_657.heap = T_618.heap from e_666]; exact (Nat.le_refl _)) (v := some (.int (1 : Int32))) (fun h => by rw [Bd.returns] at h; cases h)
          refine ⟨_, _, C_681.trans (retN X_657 hx (t := .boolean) Bd.returns (by simp) (hb hby at_322) hr), hrun, hended, _, _, rfl, ?_, ?_, hRE.1, hRE.2.1, hRE.2.2.1, hRE.2.2.2.mono (by decide) (by decide)⟩
          · show Q_law Z G1 G3 p0 p1 p2 p3 h0 n0 (some (.int (1 : Int32))) T_657.heap _
            rw [e_666]
            exact ⟨rfl, N_665, K_682⟩
          · show CHr Z consts_1 s.vm s.heap T_657.vm T_657.heap
            rw [hh, show T_657.heap = T_618.heap from e_666]
            exact CR_631.trans (CHv.at X_657 hZ_618 hEL CH_630)
      · skip
        have C_683 : Steps p.tables e below S0 (T_645.setTop (mkF m 286 #[.val (.int p0), .val (.int p1), .val (.int p2), .val (.int p3), .val (.int (own_cw p0)), .val (.int (own_cw (own_us p0))), .val (.int (own_cw p1)), .val (.int (own_cw (own_us p1))), .val (.int (3 : Int32)), .val (.int (own_rm p3 ((3 : Int32) + (1 : Int32)))), .val (.ref a_10), .val (.ref a_24), .val (.ref a_57), .val (.ref a_108), .val (.ref a_178), .val (.ref a_575), .val (.ref a_624)] [(.int (2 : Int32)), (.int (own_rm p3 ((3 : Int32) + (1 : Int32))))])) := by
          refine C_655.trans ?_
          refine XS.icmpYes X_645.here hx rfl (pc0 := 267) (pc' := 283) rfl (hb hby at_267) rfl (ii_le_t hc_656) (by decide) (by decide) ?_
          refine XS.iload X_645.here hx rfl (hb hby at_283) rfl ?_
          refine XS.iconst X_645.here hx rfl (hb hby at_285) ?_
          exact Steps.refl _
        by_cases hc_684 : (2 : Int32) < (own_rm p3 ((3 : Int32) + (1 : Int32)))
        · skip
          obtain ⟨q_686, q_687, q_688, q_689, q_690⟩ := isOf (T := T_645) hZ_618 e_654 g_627
          obtain ⟨_, _, ⟨T_685, L_685, k_685, n_685⟩, -, X_685, ⟨Lc_685, hQ_685, l_685, y_685, z_685⟩, st_685⟩ := X_645.virtualBack hx (y := M319) (z := M319) hown_618 (mvT hZ_618 (w108 hw)) (mvT hZ_618 (w109 hw)) (notFace_of_selects (args := #[]) (mvT hZ_618 (w111 hw))) (mvT hZ_618 (w111 hw)) (mvT hZ_618 (w110 hw)) (by decide) (backOf (W := 0) (rm_chS l Z a0 hw [] G1 G3 HG T_618.heap n0 O_632 a_624 (own_rm p3 ((3 : Int32) + (1 : Int32))) ([(own_cw p0), (own_cw (own_us p0)), (own_cw p1)].take (own_rm p3 ((3 : Int32) + (1 : Int32))).toNatClampNeg) (2 : Int32) g_628 hm_566.1 (own_tkl (n := (3 : Int32)) rfl hm_566.1 hm_566.2.1) (own_u16take (own_u1 (own_cw_lo _) (own_cw_hi _) (own_u1 (own_cw_lo _) (own_cw_hi _) (own_u1 (own_cw_lo _) (own_cw_hi _) own_u0))) _) hm_566.2.2 (by decide) hc_684) hZ_618 (w112 hw) (w5 hw) (by decide) (by decide)) q_688 q_690 (g := (mkF m 292 #[.val (.int p0), .val (.int p1), .val (.int p2), .val (.int p3), .val (.int (own_cw p0)), .val (.int (own_cw (own_us p0))), .val (.int (own_cw p1)), .val (.int (own_cw (own_us p1))), .val (.int (3 : Int32)), .val (.int (own_rm p3 ((3 : Int32) + (1 : Int32)))), .val (.ref a_10), .val (.ref a_24), .val (.ref a_57), .val (.ref a_108), .val (.ref a_178), .val (.ref a_575), .val (.ref a_624)] [(.int (2 : Int32)), (.ref a_624)])) rfl (by rw [hml]; rfl) (Steps.refl _) (argsL := [(.int (2 : Int32))]) (rest := []) (lenOf pd_760 rfl) rfl (by show 2 * 0 + _ ≤ _; exact Nat.le_of_eq rfl) (hb hby at_292) (fun _ _ => ⟨rfl, e_654, (by decide : 12 + 0 ≤ _), (by decide : 68 + 0 ≤ _)⟩)
          dsimp only [Pt.U, Pt.locs, Pt.cells, Pt.slots] at X_685 l_685 y_685 z_685 st_685 hQ_685
          have X_685 := own_cast X_685 l_685 y_685 z_685
          obtain ⟨rfl, N_691, e_692⟩ := hQ_685
          have N_693 := Fr.app N_653 N_691
          have e_694 : T_685.heap = T_618.heap := e_692
          have C_695 : Steps p.tables e below S0 (T_685.setTop (mkF m 322 #[.val (.int p0), .val (.int p1), .val (.int p2), .val (.int p3), .val (.int (own_cw p0)), .val (.int (own_cw (own_us p0))), .val (.int (own_cw p1)), .val (.int (own_cw (own_us p1))), .val (.int (3 : Int32)), .val (.int (own_rm p3 ((3 : Int32) + (1 : Int32)))), .val (.ref a_10), .val (.ref a_24), .val (.ref a_57), .val (.ref a_108), .val (.ref a_178), .val (.ref a_575), .val (.ref a_624)] [(.int (1 : Int32))])) := by
            refine C_683.trans ?_
            refine XS.icmpNo X_645.here hx rfl (hb hby at_286) rfl (ii_le_f hc_684) ?_
            refine XS.aload X_645.here hx rfl (hb hby at_289) rfl rfl ?_
            refine XS.iconst X_645.here hx rfl (hb hby at_291) ?_
            refine st_685.trans ?_
            refine XS.iload X_685.here hx rfl (hb hby at_295) rfl ?_
            refine XS.icmpYes X_685.here hx rfl (pc0 := 297) (pc' := 302) rfl (hb hby at_297) rfl (ii_eq_t (own_gttake (i := (2 : Int32)) (own_nat (by decide) hc_684).1)) (by decide) (by decide) ?_
            refine XS.iload X_685.here hx rfl (hb hby at_302) rfl ?_
            refine XS.iconst X_685.here hx rfl (hb hby at_304) ?_
            show Steps p.tables e below (T_685.setTop (mkF m 305 #[.val (.int p0), .val (.int p1), .val (.int p2), .val (.int p3), .val (.int (own_cw p0)), .val (.int (own_cw (own_us p0))), .val (.int (own_cw p1)), .val (.int (own_cw (own_us p1))), .val (.int (3 : Int32)), .val (.int (own_rm p3 ((3 : Int32) + (1 : Int32)))), .val (.ref a_10), .val (.ref a_24), .val (.ref a_57), .val (.ref a_108), .val (.ref a_178), .val (.ref a_575), .val (.ref a_624)] [(.int (3 : Int32)), (.int (own_rm p3 ((3 : Int32) + (1 : Int32))))])) _
            refine XS.icmpYes X_685.here hx rfl (pc0 := 305) (pc' := 321) rfl (hb hby at_305) rfl (ii_le_t (own_ge1 hm_566.2.1 (by decide))) (by decide) (by decide) ?_
            refine XS.iconst X_685.here hx rfl (hb hby at_321) ?_
            exact Steps.refl _
          have K_696 : Keep h0 T_618.heap [] := (((((K_258.ext E_571).trans K_586 (allS (Or.inr (Nat.le_trans (Nat.le_trans (Nat.le_trans (Nat.le_trans (Nat.le_trans (Nat.le_trans (Nat.le_trans (Nat.le_trans (Nat.le_trans (Nat.le_trans (Nat.le_trans (Nat.le_trans (Nat.le_trans (Nat.le_trans (Nat.le_trans E_7.1 E_21.1) (Keep.of_wr W_41).1) E_54.1) (Keep.of_wr W_74).1) (Keep.of_wr W_93).1) E_105.1) (Keep.of_wr W_125).1) (Keep.of_wr W_144).1) (Keep.of_wr W_163).1) E_175.1) (Keep.of_wr W_195).1) (Keep.of_wr W_214).1) (Keep.of_wr W_232).1) (Keep.of_wr W_250).1) (Nat.le_of_eq g_576.symm))) all0)).ext E_595).trans K_608 (allS (Or.inr (Nat.le_trans (Nat.le_trans (Nat.le_trans (Nat.le_trans (Nat.le_trans (Nat.le_trans (Nat.le_trans (Nat.le_trans (Nat.le_trans (Nat.le_trans (Nat.le_trans (Nat.le_trans (Nat.le_trans (Nat.le_trans (Nat.le_trans (Nat.le_trans (Nat.le_trans E_7.1 E_21.1) (Keep.of_wr W_41).1) E_54.1) (Keep.of_wr W_74).1) (Keep.of_wr W_93).1) E_105.1) (Keep.of_wr W_125).1) (Keep.of_wr W_144).1) (Keep.of_wr W_163).1) E_175.1) (Keep.of_wr W_195).1) (Keep.of_wr W_214).1) (Keep.of_wr W_232).1) (Keep.of_wr W_250).1) E_571.1) K_586.1) (Nat.le_of_eq g_600.symm))) all0)).trans K_626 all0)
          obtain ⟨fs, hr, hrun, hended, hRE⟩ := X_685.leaveW hS_618 (by rw [show T_685.heap = T_618.heap from e_694]; exact (Nat.le_refl _)) (v := some (.int (1 : Int32))) (fun h => by rw [Bd.returns] at h; cases h)
          refine ⟨_, _, C_695.trans (retN X_685 hx (t := .boolean) Bd.returns (by simp) (hb hby at_322) hr), hrun, hended, _, _, rfl, ?_, ?_, hRE.1, hRE.2.1, hRE.2.2.1, hRE.2.2.2.mono (by decide) (by decide)⟩
          · show Q_law Z G1 G3 p0 p1 p2 p3 h0 n0 (some (.int (1 : Int32))) T_685.heap _
            rw [e_694]
            exact ⟨rfl, N_693, K_696⟩
          · show CHr Z consts_1 s.vm s.heap T_685.vm T_685.heap
            rw [hh, show T_685.heap = T_618.heap from e_694]
            exact CR_631.trans (CHv.at X_685 hZ_618 hEL CH_630)
        · skip
          have C_697 : Steps p.tables e below S0 (T_645.setTop (mkF m 322 #[.val (.int p0), .val (.int p1), .val (.int p2), .val (.int p3), .val (.int (own_cw p0)), .val (.int (own_cw (own_us p0))), .val (.int (own_cw p1)), .val (.int (own_cw (own_us p1))), .val (.int (3 : Int32)), .val (.int (own_rm p3 ((3 : Int32) + (1 : Int32)))), .val (.ref a_10), .val (.ref a_24), .val (.ref a_57), .val (.ref a_108), .val (.ref a_178), .val (.ref a_575), .val (.ref a_624)] [(.int (1 : Int32))])) := by
            refine C_683.trans ?_
            refine XS.icmpYes X_645.here hx rfl (pc0 := 286) (pc' := 302) rfl (hb hby at_286) rfl (ii_le_t hc_684) (by decide) (by decide) ?_
            refine XS.iload X_645.here hx rfl (hb hby at_302) rfl ?_
            refine XS.iconst X_645.here hx rfl (hb hby at_304) ?_
            refine XS.icmpYes X_645.here hx rfl (pc0 := 305) (pc' := 321) rfl (hb hby at_305) rfl (ii_le_t (own_ge1 hm_566.2.1 (by decide))) (by decide) (by decide) ?_
            refine XS.iconst X_645.here hx rfl (hb hby at_321) ?_
            exact Steps.refl _
          have K_698 : Keep h0 T_618.heap [] := (((((K_258.ext E_571).trans K_586 (allS (Or.inr (Nat.le_trans (Nat.le_trans (Nat.le_trans (Nat.le_trans (Nat.le_trans (Nat.le_trans (Nat.le_trans (Nat.le_trans (Nat.le_trans (Nat.le_trans (Nat.le_trans (Nat.le_trans (Nat.le_trans (Nat.le_trans (Nat.le_trans E_7.1 E_21.1) (Keep.of_wr W_41).1) E_54.1) (Keep.of_wr W_74).1) (Keep.of_wr W_93).1) E_105.1) (Keep.of_wr W_125).1) (Keep.of_wr W_144).1) (Keep.of_wr W_163).1) E_175.1) (Keep.of_wr W_195).1) (Keep.of_wr W_214).1) (Keep.of_wr W_232).1) (Keep.of_wr W_250).1) (Nat.le_of_eq g_576.symm))) all0)).ext E_595).trans K_608 (allS (Or.inr (Nat.le_trans (Nat.le_trans (Nat.le_trans (Nat.le_trans (Nat.le_trans (Nat.le_trans (Nat.le_trans (Nat.le_trans (Nat.le_trans (Nat.le_trans (Nat.le_trans (Nat.le_trans (Nat.le_trans (Nat.le_trans (Nat.le_trans (Nat.le_trans (Nat.le_trans E_7.1 E_21.1) (Keep.of_wr W_41).1) E_54.1) (Keep.of_wr W_74).1) (Keep.of_wr W_93).1) E_105.1) (Keep.of_wr W_125).1) (Keep.of_wr W_144).1) (Keep.of_wr W_163).1) E_175.1) (Keep.of_wr W_195).1) (Keep.of_wr W_214).1) (Keep.of_wr W_232).1) (Keep.of_wr W_250).1) E_571.1) K_586.1) (Nat.le_of_eq g_600.symm))) all0)).trans K_626 all0)
          obtain ⟨fs, hr, hrun, hended, hRE⟩ := X_645.leaveW hS_618 (by rw [show T_645.heap = T_618.heap from e_654]; exact (Nat.le_refl _)) (v := some (.int (1 : Int32))) (fun h => by rw [Bd.returns] at h; cases h)
          refine ⟨_, _, C_697.trans (retN X_645 hx (t := .boolean) Bd.returns (by simp) (hb hby at_322) hr), hrun, hended, _, _, rfl, ?_, ?_, hRE.1, hRE.2.1, hRE.2.2.1, hRE.2.2.2.mono (by decide) (by decide)⟩
          · show Q_law Z G1 G3 p0 p1 p2 p3 h0 n0 (some (.int (1 : Int32))) T_645.heap _
            rw [e_654]
            exact ⟨rfl, N_653, K_698⟩
          · show CHr Z consts_1 s.vm s.heap T_645.vm T_645.heap
            rw [hh, show T_645.heap = T_618.heap from e_654]
            exact CR_631.trans (CHv.at X_645 hZ_618 hEL CH_630)
    · skip
      have C_699 : Steps p.tables e below S0 (T_633.setTop (mkF m 267 #[.val (.int p0), .val (.int p1), .val (.int p2), .val (.int p3), .val (.int (own_cw p0)), .val (.int (own_cw (own_us p0))), .val (.int (own_cw p1)), .val (.int (own_cw (own_us p1))), .val (.int (3 : Int32)), .val (.int (own_rm p3 ((3 : Int32) + (1 : Int32)))), .val (.ref a_10), .val (.ref a_24), .val (.ref a_57), .val (.ref a_108), .val (.ref a_178), .val (.ref a_575), .val (.ref a_624)] [(.int (1 : Int32)), (.int (own_rm p3 ((3 : Int32) + (1 : Int32))))])) := by
        refine C_643.trans ?_
        refine XS.ifYes X_633.here hx rfl (pc0 := 248) (pc' := 264) rfl (hb hby at_248) rfl (i0_le_t hc_644) (by decide) (by decide) ?_
        refine XS.iload X_633.here hx rfl (hb hby at_264) rfl ?_
        refine XS.iconst X_633.here hx rfl (hb hby at_266) ?_
        exact Steps.refl _
      by_cases hc_700 : (1 : Int32) < (own_rm p3 ((3 : Int32) + (1 : Int32)))
      · skip
        obtain ⟨q_702, q_703, q_704, q_705, q_706⟩ := isOf (T := T_633) hZ_618 e_642 g_627
        obtain ⟨_, _, ⟨T_701, L_701, k_701, n_701⟩, -, X_701, ⟨Lc_701, hQ_701, l_701, y_701, z_701⟩, st_701⟩ := X_633.virtualBack hx (y := M319) (z := M319) hown_618 (mvT hZ_618 (w108 hw)) (mvT hZ_618 (w109 hw)) (notFace_of_selects (args := #[]) (mvT hZ_618 (w111 hw))) (mvT hZ_618 (w111 hw)) (mvT hZ_618 (w110 hw)) (by decide) (backOf (W := 0) (rm_chS l Z a0 hw [] G1 G3 HG T_618.heap n0 O_632 a_624 (own_rm p3 ((3 : Int32) + (1 : Int32))) ([(own_cw p0), (own_cw (own_us p0)), (own_cw p1)].take (own_rm p3 ((3 : Int32) + (1 : Int32))).toNatClampNeg) (1 : Int32) g_628 hm_566.1 (own_tkl (n := (3 : Int32)) rfl hm_566.1 hm_566.2.1) (own_u16take (own_u1 (own_cw_lo _) (own_cw_hi _) (own_u1 (own_cw_lo _) (own_cw_hi _) (own_u1 (own_cw_lo _) (own_cw_hi _) own_u0))) _) hm_566.2.2 (by decide) hc_700) hZ_618 (w112 hw) (w5 hw) (by decide) (by decide)) q_704 q_706 (g := (mkF m 273 #[.val (.int p0), .val (.int p1), .val (.int p2), .val (.int p3), .val (.int (own_cw p0)), .val (.int (own_cw (own_us p0))), .val (.int (own_cw p1)), .val (.int (own_cw (own_us p1))), .val (.int (3 : Int32)), .val (.int (own_rm p3 ((3 : Int32) + (1 : Int32)))), .val (.ref a_10), .val (.ref a_24), .val (.ref a_57), .val (.ref a_108), .val (.ref a_178), .val (.ref a_575), .val (.ref a_624)] [(.int (1 : Int32)), (.ref a_624)])) rfl (by rw [hml]; rfl) (Steps.refl _) (argsL := [(.int (1 : Int32))]) (rest := []) (lenOf pd_760 rfl) rfl (by show 2 * 0 + _ ≤ _; exact Nat.le_of_eq rfl) (hb hby at_273) (fun _ _ => ⟨rfl, e_642, (by decide : 12 + 0 ≤ _), (by decide : 68 + 0 ≤ _)⟩)
        dsimp only [Pt.U, Pt.locs, Pt.cells, Pt.slots] at X_701 l_701 y_701 z_701 st_701 hQ_701
        have X_701 := own_cast X_701 l_701 y_701 z_701
        obtain ⟨rfl, N_707, e_708⟩ := hQ_701
        have N_709 := Fr.app N_641 N_707
        have e_710 : T_701.heap = T_618.heap := e_708
        have C_711 : Steps p.tables e below S0 (T_701.setTop (mkF m 286 #[.val (.int p0), .val (.int p1), .val (.int p2), .val (.int p3), .val (.int (own_cw p0)), .val (.int (own_cw (own_us p0))), .val (.int (own_cw p1)), .val (.int (own_cw (own_us p1))), .val (.int (3 : Int32)), .val (.int (own_rm p3 ((3 : Int32) + (1 : Int32)))), .val (.ref a_10), .val (.ref a_24), .val (.ref a_57), .val (.ref a_108), .val (.ref a_178), .val (.ref a_575), .val (.ref a_624)] [(.int (2 : Int32)), (.int (own_rm p3 ((3 : Int32) + (1 : Int32))))])) := by
          refine C_699.trans ?_
          refine XS.icmpNo X_633.here hx rfl (hb hby at_267) rfl (ii_le_f hc_700) ?_
          refine XS.aload X_633.here hx rfl (hb hby at_270) rfl rfl ?_
          refine XS.iconst X_633.here hx rfl (hb hby at_272) ?_
          refine st_701.trans ?_
          refine XS.iload X_701.here hx rfl (hb hby at_276) rfl ?_
          refine XS.icmpYes X_701.here hx rfl (pc0 := 278) (pc' := 283) rfl (hb hby at_278) rfl (ii_eq_t (own_gttake (i := (1 : Int32)) (own_nat (by decide) hc_700).1)) (by decide) (by decide) ?_
          refine XS.iload X_701.here hx rfl (hb hby at_283) rfl ?_
          refine XS.iconst X_701.here hx rfl (hb hby at_285) ?_
          show Steps p.tables e below (T_701.setTop (mkF m 286 #[.val (.int p0), .val (.int p1), .val (.int p2), .val (.int p3), .val (.int (own_cw p0)), .val (.int (own_cw (own_us p0))), .val (.int (own_cw p1)), .val (.int (own_cw (own_us p1))), .val (.int (3 : Int32)), .val (.int (own_rm p3 ((3 : Int32) + (1 : Int32)))), .val (.ref a_10), .val (.ref a_24), .val (.ref a_57), .val (.ref a_108), .val (.ref a_178), .val (.ref a_575), .val (.ref a_624)] [(.int (2 : Int32)), (.int (own_rm p3 ((3 : Int32) + (1 : Int32))))])) _
          exact Steps.refl _
        by_cases hc_712 : (2 : Int32) < (own_rm p3 ((3 : Int32) + (1 : Int32)))
        · skip
          obtain ⟨q_714, q_715, q_716, q_717, q_718⟩ := isOf (T := T_701) hZ_618 e_710 g_627
          obtain ⟨_, _, ⟨T_713, L_713, k_713, n_713⟩, -, X_713, ⟨Lc_713, hQ_713, l_713, y_713, z_713⟩, st_713⟩ := X_701.virtualBack hx (y := M319) (z := M319) hown_618 (mvT hZ_618 (w108 hw)) (mvT hZ_618 (w109 hw)) (notFace_of_selects (args := #[]) (mvT hZ_618 (w111 hw))) (mvT hZ_618 (w111 hw)) (mvT hZ_618 (w110 hw)) (by decide) (backOf (W := 0) (rm_chS l Z a0 hw [] G1 G3 HG T_618.heap n0 O_632 a_624 (own_rm p3 ((3 : Int32) + (1 : Int32))) ([(own_cw p0), (own_cw (own_us p0)), (own_cw p1)].take (own_rm p3 ((3 : Int32) + (1 : Int32))).toNatClampNeg) (2 : Int32) g_628 hm_566.1 (own_tkl (n := (3 : Int32)) rfl hm_566.1 hm_566.2.1) (own_u16take (own_u1 (own_cw_lo _) (own_cw_hi _) (own_u1 (own_cw_lo _) (own_cw_hi _) (own_u1 (own_cw_lo _) (own_cw_hi _) own_u0))) _) hm_566.2.2 (by decide) hc_712) hZ_618 (w112 hw) (w5 hw) (by decide) (by decide)) q_716 q_718 (g := (mkF m 292 #[.val (.int p0), .val (.int p1), .val (.int p2), .val (.int p3), .val (.int (own_cw p0)), .val (.int (own_cw (own_us p0))), .val (.int (own_cw p1)), .val (.int (own_cw (own_us p1))), .val (.int (3 : Int32)), .val (.int (own_rm p3 ((3 : Int32) + (1 : Int32)))), .val (.ref a_10), .val (.ref a_24), .val (.ref a_57), .val (.ref a_108), .val (.ref a_178), .val (.ref a_575), .val (.ref a_624)] [(.int (2 : Int32)), (.ref a_624)])) rfl (by rw [hml]; rfl) (Steps.refl _) (argsL := [(.int (2 : Int32))]) (rest := []) (lenOf pd_760 rfl) rfl (by show 2 * 0 + _ ≤ _; exact Nat.le_of_eq rfl) (hb hby at_292) (fun _ _ => ⟨rfl, e_710, (by decide : 12 + 0 ≤ _), (by decide : 68 + 0 ≤ _)⟩)
          dsimp only [Pt.U, Pt.locs, Pt.cells, Pt.slots] at X_713 l_713 y_713 z_713 st_713 hQ_713
          have X_713 := own_cast X_713 l_713 y_713 z_713
          obtain ⟨rfl, N_719, e_720⟩ := hQ_713
          have N_721 := Fr.app N_709 N_719
          have e_722 : T_713.heap = T_618.heap := e_720
          have C_723 : Steps p.tables e below S0 (T_713.setTop (mkF m 322 #[.val (.int p0), .val (.int p1), .val (.int p2), .val (.int p3), .val (.int (own_cw p0)), .val (.int (own_cw (own_us p0))), .val (.int (own_cw p1)), .val (.int (own_cw (own_us p1))), .val (.int (3 : Int32)), .val (.int (own_rm p3 ((3 : Int32) + (1 : Int32)))), .val (.ref a_10), .val (.ref a_24), .val (.ref a_57), .val (.ref a_108), .val (.ref a_178), .val (.ref a_575), .val (.ref a_624)] [(.int (1 : Int32))])) := by
            refine C_711.trans ?_
            refine XS.icmpNo X_701.here hx rfl (hb hby at_286) rfl (ii_le_f hc_712) ?_
            refine XS.aload X_701.here hx rfl (hb hby at_289) rfl rfl ?_
            refine XS.iconst X_701.here hx rfl (hb hby at_291) ?_
            refine st_713.trans ?_
            refine XS.iload X_713.here hx rfl (hb hby at_295) rfl ?_
            refine XS.icmpYes X_713.here hx rfl (pc0 := 297) (pc' := 302) rfl (hb hby at_297) rfl (ii_eq_t (own_gttake (i := (2 : Int32)) (own_nat (by decide) hc_712).1)) (by decide) (by decide) ?_
            refine XS.iload X_713.here hx rfl (hb hby at_302) rfl ?_
            refine XS.iconst X_713.here hx rfl (hb hby at_304) ?_
            show Steps p.tables e below (T_713.setTop (mkF m 305 #[.val (.int p0), .val (.int p1), .val (.int p2), .val (.int p3), .val (.int (own_cw p0)), .val (.int (own_cw (own_us p0))), .val (.int (own_cw p1)), .val (.int (own_cw (own_us p1))), .val (.int (3 : Int32)), .val (.int (own_rm p3 ((3 : Int32) + (1 : Int32)))), .val (.ref a_10), .val (.ref a_24), .val (.ref a_57), .val (.ref a_108), .val (.ref a_178), .val (.ref a_575), .val (.ref a_624)] [(.int (3 : Int32)), (.int (own_rm p3 ((3 : Int32) + (1 : Int32))))])) _
            refine XS.icmpYes X_713.here hx rfl (pc0 := 305) (pc' := 321) rfl (hb hby at_305) rfl (ii_le_t (own_ge1 hm_566.2.1 (by decide))) (by decide) (by decide) ?_
            refine XS.iconst X_713.here hx rfl (hb hby at_321) ?_
            exact Steps.refl _
          have K_724 : Keep h0 T_618.heap [] := (((((K_258.ext E_571).trans K_586 (allS (Or.inr (Nat.le_trans (Nat.le_trans (Nat.le_trans (Nat.le_trans (Nat.le_trans (Nat.le_trans (Nat.le_trans (Nat.le_trans (Nat.le_trans (Nat.le_trans (Nat.le_trans (Nat.le_trans (Nat.le_trans (Nat.le_trans (Nat.le_trans E_7.1 E_21.1) (Keep.of_wr W_41).1) E_54.1) (Keep.of_wr W_74).1) (Keep.of_wr W_93).1) E_105.1) (Keep.of_wr W_125).1) (Keep.of_wr W_144).1) (Keep.of_wr W_163).1) E_175.1) (Keep.of_wr W_195).1) (Keep.of_wr W_214).1) (Keep.of_wr W_232).1) (Keep.of_wr W_250).1) (Nat.le_of_eq g_576.symm))) all0)).ext E_595).trans K_608 (allS (Or.inr (Nat.le_trans (Nat.le_trans (Nat.le_trans (Nat.le_trans (Nat.le_trans (Nat.le_trans (Nat.le_trans (Nat.le_trans (Nat.le_trans (Nat.le_trans (Nat.le_trans (Nat.le_trans (Nat.le_trans (Nat.le_trans (Nat.le_trans (Nat.le_trans (Nat.le_trans E_7.1 E_21.1) (Keep.of_wr W_41).1) E_54.1) (Keep.of_wr W_74).1) (Keep.of_wr W_93).1) E_105.1) (Keep.of_wr W_125).1) (Keep.of_wr W_144).1) (Keep.of_wr W_163).1) E_175.1) (Keep.of_wr W_195).1) (Keep.of_wr W_214).1) (Keep.of_wr W_232).1) (Keep.of_wr W_250).1) E_571.1) K_586.1) (Nat.le_of_eq g_600.symm))) all0)).trans K_626 all0)
          obtain ⟨fs, hr, hrun, hended, hRE⟩ := X_713.leaveW hS_618 (by rw [show T_713.heap = T_618.heap from e_722]; exact (Nat.le_refl _)) (v := some (.int (1 : Int32))) (fun h => by rw [Bd.returns] at h; cases h)
          refine ⟨_, _, C_723.trans (retN X_713 hx (t := .boolean) Bd.returns (by simp) (hb hby at_322) hr), hrun, hended, _, _, rfl, ?_, ?_, hRE.1, hRE.2.1, hRE.2.2.1, hRE.2.2.2.mono (by decide) (by decide)⟩
          · show Q_law Z G1 G3 p0 p1 p2 p3 h0 n0 (some (.int (1 : Int32))) T_713.heap _
            rw [e_722]
            exact ⟨rfl, N_721, K_724⟩
          · show CHr Z consts_1 s.vm s.heap T_713.vm T_713.heap
            rw [hh, show T_713.heap = T_618.heap from e_722]
            exact CR_631.trans (CHv.at X_713 hZ_618 hEL CH_630)
        · skip
          have C_725 : Steps p.tables e below S0 (T_701.setTop (mkF m 322 #[.val (.int p0), .val (.int p1), .val (.int p2), .val (.int p3), .val (.int (own_cw p0)), .val (.int (own_cw (own_us p0))), .val (.int (own_cw p1)), .val (.int (own_cw (own_us p1))), .val (.int (3 : Int32)), .val (.int (own_rm p3 ((3 : Int32) + (1 : Int32)))), .val (.ref a_10), .val (.ref a_24), .val (.ref a_57), .val (.ref a_108), .val (.ref a_178), .val (.ref a_575), .val (.ref a_624)] [(.int (1 : Int32))])) := by
            refine C_711.trans ?_
            refine XS.icmpYes X_701.here hx rfl (pc0 := 286) (pc' := 302) rfl (hb hby at_286) rfl (ii_le_t hc_712) (by decide) (by decide) ?_
            refine XS.iload X_701.here hx rfl (hb hby at_302) rfl ?_
            refine XS.iconst X_701.here hx rfl (hb hby at_304) ?_
            refine XS.icmpYes X_701.here hx rfl (pc0 := 305) (pc' := 321) rfl (hb hby at_305) rfl (ii_le_t (own_ge1 hm_566.2.1 (by decide))) (by decide) (by decide) ?_
            refine XS.iconst X_701.here hx rfl (hb hby at_321) ?_
            exact Steps.refl _
          have K_726 : Keep h0 T_618.heap [] := (((((K_258.ext E_571).trans K_586 (allS (Or.inr (Nat.le_trans (Nat.le_trans (Nat.le_trans (Nat.le_trans (Nat.le_trans (Nat.le_trans (Nat.le_trans (Nat.le_trans (Nat.le_trans (Nat.le_trans (Nat.le_trans (Nat.le_trans (Nat.le_trans (Nat.le_trans (Nat.le_trans E_7.1 E_21.1) (Keep.of_wr W_41).1) E_54.1) (Keep.of_wr W_74).1) (Keep.of_wr W_93).1) E_105.1) (Keep.of_wr W_125).1) (Keep.of_wr W_144).1) (Keep.of_wr W_163).1) E_175.1) (Keep.of_wr W_195).1) (Keep.of_wr W_214).1) (Keep.of_wr W_232).1) (Keep.of_wr W_250).1) (Nat.le_of_eq g_576.symm))) all0)).ext E_595).trans K_608 (allS (Or.inr (Nat.le_trans (Nat.le_trans (Nat.le_trans (Nat.le_trans (Nat.le_trans (Nat.le_trans (Nat.le_trans (Nat.le_trans (Nat.le_trans (Nat.le_trans (Nat.le_trans (Nat.le_trans (Nat.le_trans (Nat.le_trans (Nat.le_trans (Nat.le_trans (Nat.le_trans E_7.1 E_21.1) (Keep.of_wr W_41).1) E_54.1) (Keep.of_wr W_74).1) (Keep.of_wr W_93).1) E_105.1) (Keep.of_wr W_125).1) (Keep.of_wr W_144).1) (Keep.of_wr W_163).1) E_175.1) (Keep.of_wr W_195).1) (Keep.of_wr W_214).1) (Keep.of_wr W_232).1) (Keep.of_wr W_250).1) E_571.1) K_586.1) (Nat.le_of_eq g_600.symm))) all0)).trans K_626 all0)
          obtain ⟨fs, hr, hrun, hended, hRE⟩ := X_701.leaveW hS_618 (by rw [show T_701.heap = T_618.heap from e_710]; exact (Nat.le_refl _)) (v := some (.int (1 : Int32))) (fun h => by rw [Bd.returns] at h; cases h)
          refine ⟨_, _, C_725.trans (retN X_701 hx (t := .boolean) Bd.returns (by simp) (hb hby at_322) hr), hrun, hended, _, _, rfl, ?_, ?_, hRE.1, hRE.2.1, hRE.2.2.1, hRE.2.2.2.mono (by decide) (by decide)⟩
          · show Q_law Z G1 G3 p0 p1 p2 p3 h0 n0 (some (.int (1 : Int32))) T_701.heap _
            rw [e_710]
            exact ⟨rfl, N_709, K_726⟩
          · show CHr Z consts_1 s.vm s.heap T_701.vm T_701.heap
            rw [hh, show T_701.heap = T_618.heap from e_710]
            exact CR_631.trans (CHv.at X_701 hZ_618 hEL CH_630)
      · skip
        have C_727 : Steps p.tables e below S0 (T_633.setTop (mkF m 286 #[.val (.int p0), .val (.int p1), .val (.int p2), .val (.int p3), .val (.int (own_cw p0)), .val (.int (own_cw (own_us p0))), .val (.int (own_cw p1)), .val (.int (own_cw (own_us p1))), .val (.int (3 : Int32)), .val (.int (own_rm p3 ((3 : Int32) + (1 : Int32)))), .val (.ref a_10), .val (.ref a_24), .val (.ref a_57), .val (.ref a_108), .val (.ref a_178), .val (.ref a_575), .val (.ref a_624)] [(.int (2 : Int32)), (.int (own_rm p3 ((3 : Int32) + (1 : Int32))))])) := by
          refine C_699.trans ?_
          refine XS.icmpYes X_633.here hx rfl (pc0 := 267) (pc' := 283) rfl (hb hby at_267) rfl (ii_le_t hc_700) (by decide) (by decide) ?_
          refine XS.iload X_633.here hx rfl (hb hby at_283) rfl ?_
          refine XS.iconst X_633.here hx rfl (hb hby at_285) ?_
          exact Steps.refl _
        by_cases hc_728 : (2 : Int32) < (own_rm p3 ((3 : Int32) + (1 : Int32)))
        · skip
          obtain ⟨q_730, q_731, q_732, q_733, q_734⟩ := isOf (T := T_633) hZ_618 e_642 g_627
          obtain ⟨_, _, ⟨T_729, L_729, k_729, n_729⟩, -, X_729, ⟨Lc_729, hQ_729, l_729, y_729, z_729⟩, st_729⟩ := X_633.virtualBack hx (y := M319) (z := M319) hown_618 (mvT hZ_618 (w108 hw)) (mvT hZ_618 (w109 hw)) (notFace_of_selects (args := #[]) (mvT hZ_618 (w111 hw))) (mvT hZ_618 (w111 hw)) (mvT hZ_618 (w110 hw)) (by decide) (backOf (W := 0) (rm_chS l Z a0 hw [] G1 G3 HG T_618.heap n0 O_632 a_624 (own_rm p3 ((3 : Int32) + (1 : Int32))) ([(own_cw p0), (own_cw (own_us p0)), (own_cw p1)].take (own_rm p3 ((3 : Int32) + (1 : Int32))).toNatClampNeg) (2 : Int32) g_628 hm_566.1 (own_tkl (n := (3 : Int32)) rfl hm_566.1 hm_566.2.1) (own_u16take (own_u1 (own_cw_lo _) (own_cw_hi _) (own_u1 (own_cw_lo _) (own_cw_hi _) (own_u1 (own_cw_lo _) (own_cw_hi _) own_u0))) _) hm_566.2.2 (by decide) hc_728) hZ_618 (w112 hw) (w5 hw) (by decide) (by decide)) q_732 q_734 (g := (mkF m 292 #[.val (.int p0), .val (.int p1), .val (.int p2), .val (.int p3), .val (.int (own_cw p0)), .val (.int (own_cw (own_us p0))), .val (.int (own_cw p1)), .val (.int (own_cw (own_us p1))), .val (.int (3 : Int32)), .val (.int (own_rm p3 ((3 : Int32) + (1 : Int32)))), .val (.ref a_10), .val (.ref a_24), .val (.ref a_57), .val (.ref a_108), .val (.ref a_178), .val (.ref a_575), .val (.ref a_624)] [(.int (2 : Int32)), (.ref a_624)])) rfl (by rw [hml]; rfl) (Steps.refl _) (argsL := [(.int (2 : Int32))]) (rest := []) (lenOf pd_760 rfl) rfl (by show 2 * 0 + _ ≤ _; exact Nat.le_of_eq rfl) (hb hby at_292) (fun _ _ => ⟨rfl, e_642, (by decide : 12 + 0 ≤ _), (by decide : 68 + 0 ≤ _)⟩)
          dsimp only [Pt.U, Pt.locs, Pt.cells, Pt.slots] at X_729 l_729 y_729 z_729 st_729 hQ_729
          have X_729 := own_cast X_729 l_729 y_729 z_729
          obtain ⟨rfl, N_735, e_736⟩ := hQ_729
          have N_737 := Fr.app N_641 N_735
          have e_738 : T_729.heap = T_618.heap := e_736
          have C_739 : Steps p.tables e below S0 (T_729.setTop (mkF m 322 #[.val (.int p0), .val (.int p1), .val (.int p2), .val (.int p3), .val (.int (own_cw p0)), .val (.int (own_cw (own_us p0))), .val (.int (own_cw p1)), .val (.int (own_cw (own_us p1))), .val (.int (3 : Int32)), .val (.int (own_rm p3 ((3 : Int32) + (1 : Int32)))), .val (.ref a_10), .val (.ref a_24), .val (.ref a_57), .val (.ref a_108), .val (.ref a_178), .val (.ref a_575), .val (.ref a_624)] [(.int (1 : Int32))])) := by
            refine C_727.trans ?_
            refine XS.icmpNo X_633.here hx rfl (hb hby at_286) rfl (ii_le_f hc_728) ?_
            refine XS.aload X_633.here hx rfl (hb hby at_289) rfl rfl ?_
            refine XS.iconst X_633.here hx rfl (hb hby at_291) ?_
            refine st_729.trans ?_
            refine XS.iload X_729.here hx rfl (hb hby at_295) rfl ?_
            refine XS.icmpYes X_729.here hx rfl (pc0 := 297) (pc' := 302) rfl (hb hby at_297) rfl (ii_eq_t (own_gttake (i := (2 : Int32)) (own_nat (by decide) hc_728).1)) (by decide) (by decide) ?_
            refine XS.iload X_729.here hx rfl (hb hby at_302) rfl ?_
            refine XS.iconst X_729.here hx rfl (hb hby at_304) ?_
            show Steps p.tables e below (T_729.setTop (mkF m 305 #[.val (.int p0), .val (.int p1), .val (.int p2), .val (.int p3), .val (.int (own_cw p0)), .val (.int (own_cw (own_us p0))), .val (.int (own_cw p1)), .val (.int (own_cw (own_us p1))), .val (.int (3 : Int32)), .val (.int (own_rm p3 ((3 : Int32) + (1 : Int32)))), .val (.ref a_10), .val (.ref a_24), .val (.ref a_57), .val (.ref a_108), .val (.ref a_178), .val (.ref a_575), .val (.ref a_624)] [(.int (3 : Int32)), (.int (own_rm p3 ((3 : Int32) + (1 : Int32))))])) _
            refine XS.icmpYes X_729.here hx rfl (pc0 := 305) (pc' := 321) rfl (hb hby at_305) rfl (ii_le_t (own_ge1 hm_566.2.1 (by decide))) (by decide) (by decide) ?_
            refine XS.iconst X_729.here hx rfl (hb hby at_321) ?_
            exact Steps.refl _
          have K_740 : Keep h0 T_618.heap [] := (((((K_258.ext E_571).trans K_586 (allS (Or.inr (Nat.le_trans (Nat.le_trans (Nat.le_trans (Nat.le_trans (Nat.le_trans (Nat.le_trans (Nat.le_trans (Nat.le_trans (Nat.le_trans (Nat.le_trans (Nat.le_trans (Nat.le_trans (Nat.le_trans (Nat.le_trans (Nat.le_trans E_7.1 E_21.1) (Keep.of_wr W_41).1) E_54.1) (Keep.of_wr W_74).1) (Keep.of_wr W_93).1) E_105.1) (Keep.of_wr W_125).1) (Keep.of_wr W_144).1) (Keep.of_wr W_163).1) E_175.1) (Keep.of_wr W_195).1) (Keep.of_wr W_214).1) (Keep.of_wr W_232).1) (Keep.of_wr W_250).1) (Nat.le_of_eq g_576.symm))) all0)).ext E_595).trans K_608 (allS (Or.inr (Nat.le_trans (Nat.le_trans (Nat.le_trans (Nat.le_trans (Nat.le_trans (Nat.le_trans (Nat.le_trans (Nat.le_trans (Nat.le_trans (Nat.le_trans (Nat.le_trans (Nat.le_trans (Nat.le_trans (Nat.le_trans (Nat.le_trans (Nat.le_trans (Nat.le_trans E_7.1 E_21.1) (Keep.of_wr W_41).1) E_54.1) (Keep.of_wr W_74).1) (Keep.of_wr W_93).1) E_105.1) (Keep.of_wr W_125).1) (Keep.of_wr W_144).1) (Keep.of_wr W_163).1) E_175.1) (Keep.of_wr W_195).1) (Keep.of_wr W_214).1) (Keep.of_wr W_232).1) (Keep.of_wr W_250).1) E_571.1) K_586.1) (Nat.le_of_eq g_600.symm))) all0)).trans K_626 all0)
          obtain ⟨fs, hr, hrun, hended, hRE⟩ := X_729.leaveW hS_618 (by rw [show T_729.heap = T_618.heap from e_738]; exact (Nat.le_refl _)) (v := some (.int (1 : Int32))) (fun h => by rw [Bd.returns] at h; cases h)
          refine ⟨_, _, C_739.trans (retN X_729 hx (t := .boolean) Bd.returns (by simp) (hb hby at_322) hr), hrun, hended, _, _, rfl, ?_, ?_, hRE.1, hRE.2.1, hRE.2.2.1, hRE.2.2.2.mono (by decide) (by decide)⟩
          · show Q_law Z G1 G3 p0 p1 p2 p3 h0 n0 (some (.int (1 : Int32))) T_729.heap _
            rw [e_738]
            exact ⟨rfl, N_737, K_740⟩
          · show CHr Z consts_1 s.vm s.heap T_729.vm T_729.heap
            rw [hh, show T_729.heap = T_618.heap from e_738]
            exact CR_631.trans (CHv.at X_729 hZ_618 hEL CH_630)
        · skip
          have C_741 : Steps p.tables e below S0 (T_633.setTop (mkF m 322 #[.val (.int p0), .val (.int p1), .val (.int p2), .val (.int p3), .val (.int (own_cw p0)), .val (.int (own_cw (own_us p0))), .val (.int (own_cw p1)), .val (.int (own_cw (own_us p1))), .val (.int (3 : Int32)), .val (.int (own_rm p3 ((3 : Int32) + (1 : Int32)))), .val (.ref a_10), .val (.ref a_24), .val (.ref a_57), .val (.ref a_108), .val (.ref a_178), .val (.ref a_575), .val (.ref a_624)] [(.int (1 : Int32))])) := by
            refine C_727.trans ?_
            refine XS.icmpYes X_633.here hx rfl (pc0 := 286) (pc' := 302) rfl (hb hby at_286) rfl (ii_le_t hc_728) (by decide) (by decide) ?_
            refine XS.iload X_633.here hx rfl (hb hby at_302) rfl ?_
            refine XS.iconst X_633.here hx rfl (hb hby at_304) ?_
            refine XS.icmpYes X_633.here hx rfl (pc0 := 305) (pc' := 321) rfl (hb hby at_305) rfl (ii_le_t (own_ge1 hm_566.2.1 (by decide))) (by decide) (by decide) ?_
            refine XS.iconst X_633.here hx rfl (hb hby at_321) ?_
            exact Steps.refl _
          have K_742 : Keep h0 T_618.heap [] := (((((K_258.ext E_571).trans K_586 (allS (Or.inr (Nat.le_trans (Nat.le_trans (Nat.le_trans (Nat.le_trans (Nat.le_trans (Nat.le_trans (Nat.le_trans (Nat.le_trans (Nat.le_trans (Nat.le_trans (Nat.le_trans (Nat.le_trans (Nat.le_trans (Nat.le_trans (Nat.le_trans E_7.1 E_21.1) (Keep.of_wr W_41).1) E_54.1) (Keep.of_wr W_74).1) (Keep.of_wr W_93).1) E_105.1) (Keep.of_wr W_125).1) (Keep.of_wr W_144).1) (Keep.of_wr W_163).1) E_175.1) (Keep.of_wr W_195).1) (Keep.of_wr W_214).1) (Keep.of_wr W_232).1) (Keep.of_wr W_250).1) (Nat.le_of_eq g_576.symm))) all0)).ext E_595).trans K_608 (allS (Or.inr (Nat.le_trans (Nat.le_trans (Nat.le_trans (Nat.le_trans (Nat.le_trans (Nat.le_trans (Nat.le_trans (Nat.le_trans (Nat.le_trans (Nat.le_trans (Nat.le_trans (Nat.le_trans (Nat.le_trans (Nat.le_trans (Nat.le_trans (Nat.le_trans (Nat.le_trans E_7.1 E_21.1) (Keep.of_wr W_41).1) E_54.1) (Keep.of_wr W_74).1) (Keep.of_wr W_93).1) E_105.1) (Keep.of_wr W_125).1) (Keep.of_wr W_144).1) (Keep.of_wr W_163).1) E_175.1) (Keep.of_wr W_195).1) (Keep.of_wr W_214).1) (Keep.of_wr W_232).1) (Keep.of_wr W_250).1) E_571.1) K_586.1) (Nat.le_of_eq g_600.symm))) all0)).trans K_626 all0)
          obtain ⟨fs, hr, hrun, hended, hRE⟩ := X_633.leaveW hS_618 (by rw [show T_633.heap = T_618.heap from e_642]; exact (Nat.le_refl _)) (v := some (.int (1 : Int32))) (fun h => by rw [Bd.returns] at h; cases h)
          refine ⟨_, _, C_741.trans (retN X_633 hx (t := .boolean) Bd.returns (by simp) (hb hby at_322) hr), hrun, hended, _, _, rfl, ?_, ?_, hRE.1, hRE.2.1, hRE.2.2.1, hRE.2.2.2.mono (by decide) (by decide)⟩
          · show Q_law Z G1 G3 p0 p1 p2 p3 h0 n0 (some (.int (1 : Int32))) T_633.heap _
            rw [e_642]
            exact ⟨rfl, N_641, K_742⟩
          · show CHr Z consts_1 s.vm s.heap T_633.vm T_633.heap
            rw [hh, show T_633.heap = T_618.heap from e_642]
            exact CR_631.trans (CHv.at X_633 hZ_618 hEL CH_630)
  · skip
    have C_743 : Steps p.tables e below S0 (T_246.setTop (mkF m 130 #[.val (.int p0), .val (.int p1), .val (.int p2), .val (.int p3), .val (.int (own_cw p0)), .val (.int (own_cw (own_us p0))), .val (.int (own_cw p1)), .val (.int (own_cw (own_us p1))), .val (.int (4 : Int32)), .val (.int (own_rm p3 ((4 : Int32) + (1 : Int32)))), .val (.ref a_10), .val (.ref a_24), .val (.ref a_57), .val (.ref a_108), .val (.ref a_178), .unset, .unset] [(.int (4 : Int32))])) := by have q := C_257; rw [hn_263] at q; exact q
    have hm_744 := own_rmr p3 (k := 4) (by decide) (by decide)
    obtain ⟨T_745, h_746, X_747, e_748, E_749, A_750, D_751, U_755, st_752⟩ := newO X_248 hx hZ hown (w3 hw) (w4 hw) (w5 hw) e_249 (g := (mkF m 207 #[.val (.int p0), .val (.int p1), .val (.int p2), .val (.int p3), .val (.int (own_cw p0)), .val (.int (own_cw (own_us p0))), .val (.int (own_cw p1)), .val (.int (own_cw (own_us p1))), .val (.int (4 : Int32)), .val (.int (own_rm p3 ((4 : Int32) + (1 : Int32)))), .val (.ref a_10), .val (.ref a_24), .val (.ref a_57), .val (.ref a_108), .val (.ref a_178), .unset, .unset] [])) rfl (hb hby at_207) (by decide) (by decide)
    obtain ⟨a_753, g_754⟩ : ∃ z, z = h_247.size := ⟨_, rfl⟩
    rw [← g_754] at A_750 D_751 st_752 U_755
    have CH_756 : CHv Z consts_1 s.vm h_746 := CHv.ext E_749 CH_254
    have CR_757 : CHr Z consts_1 s.vm h0 s.vm h_746 := CR_255.trans (CHr.ext E_749 CH_254)
    have V_758 : Arv Z h_746 a_178 k_172 .char (4 : Int32) [(.int (own_cw p0)), (.int (own_cw (own_us p0))), (.int (own_cw p1)), (.int (own_cw (own_us p1)))] (.int (0 : Int32)) := (V_256.ext E_749)
    have V_759 : Arv Z h_746 a_178 k_172 .char (4 : Int32) (own_iv [(own_cw p0), (own_cw (own_us p0)), (own_cw p1), (own_cw (own_us p1))]) (.int (0 : Int32)) := V_758
    have O_760 : Old Z n0 h_247 := (((((O_199.ext E_175).wr W_195 (Nat.le_trans (own_n0 O_199) (Nat.le_of_eq g_179.symm))).wr W_214 (Nat.le_trans (own_n0 O_199) (Nat.le_of_eq g_179.symm))).wr W_232 (Nat.le_trans (own_n0 O_199) (Nat.le_of_eq g_179.symm))).wr W_250 (Nat.le_trans (own_n0 O_199) (Nat.le_of_eq g_179.symm)))
    have O_761 : Old Z n0 h_746 := (O_760.ext E_749)
    obtain ⟨_, _, ⟨T_762, L_762, k_762, n_762⟩, -, X_762, ⟨Lc_762, hQ_762, l_762, y_762, z_762⟩, st_762⟩ := X_747.specialBack hx (y := M222) rfl hown (mvT hZ (w6 hw)) (mvT hZ (w7 hw)) (mvT hZ (w8 hw)) (by decide) (backOf (W := 1) (rm_si1g l Z a0 hw [] G1 G3 HG h_746 n0 O_761 a_753 a_178 k_172 (4 : Int32) [(own_cw p0), (own_cw (own_us p0)), (own_cw p1), (own_cw (own_us p1))] A_750 (D_751 (Or.inr (w31 hw)) (ty := (.array .byte)) (by decide)) (D_751 (Or.inr (w29 hw)) (ty := .byte) (by decide)) (Nat.le_trans (own_n0 O_760) (Nat.le_of_eq g_754.symm)) V_759 (by decide) (by decide) rfl (own_u1 (own_cw_lo _) (own_cw_hi _) (own_u1 (own_cw_lo _) (own_cw_hi _) (own_u1 (own_cw_lo _) (own_cw_hi _) (own_u1 (own_cw_lo _) (own_cw_hi _) own_u0)))) (by decide)) hZ (w8 hw) (w5 hw) (by decide) (by decide)) (g := (mkF m 213 #[.val (.int p0), .val (.int p1), .val (.int p2), .val (.int p3), .val (.int (own_cw p0)), .val (.int (own_cw (own_us p0))), .val (.int (own_cw p1)), .val (.int (own_cw (own_us p1))), .val (.int (4 : Int32)), .val (.int (own_rm p3 ((4 : Int32) + (1 : Int32)))), .val (.ref a_10), .val (.ref a_24), .val (.ref a_57), .val (.ref a_108), .val (.ref a_178), .unset, .unset] [(.ref a_178), (.ref a_753), (.ref a_753)])) rfl (by rw [hml]; rfl) (Steps.refl _) (a := a_753) (argsL := [(.ref a_178)]) (rest := [(.ref a_753)]) (lenOf pd_743 rfl) rfl (by show 2 * 0 + _ ≤ _; exact Nat.le_of_eq rfl) (hb hby at_213) (fun _ _ => ⟨rfl, e_748, (by decide : 6 + 2 ≤ _), (by decide : 14 + 24 ≤ _)⟩)
    dsimp only [Pt.U, Pt.locs, Pt.cells, Pt.slots] at X_762 l_762 y_762 z_762 st_762 hQ_762
    have X_762 := own_cast X_762 l_762 y_762 z_762
    obtain ⟨rfl, N_763, K_764, g_765⟩ := hQ_762
    have N_766 := Fr.app N_253 N_763
    have CH_767 : CHv Z consts_1 s.vm T_762.heap := CHv.keep K_764 (sfS (own_safe_null hZ.alike A_750 (D_751 (Or.inr (w31 hw)) (ty := (.array .byte)) (by decide))) sf0) CH_756
    have CR_768 : CHr Z consts_1 s.vm h0 s.vm T_762.heap := CR_757.trans (CHr.keep K_764 (sfS (own_safe_null hZ.alike A_750 (D_751 (Or.inr (w31 hw)) (ty := (.array .byte)) (by decide))) sf0) CH_756)
    obtain ⟨T_769, h_770, X_771, e_772, E_773, A_774, D_775, U_779, st_776⟩ := newO X_762 hx hZ hown (w32 hw) (w33 hw) (w34 hw) rfl (g := (mkF m 218 #[.val (.int p0), .val (.int p1), .val (.int p2), .val (.int p3), .val (.int (own_cw p0)), .val (.int (own_cw (own_us p0))), .val (.int (own_cw p1)), .val (.int (own_cw (own_us p1))), .val (.int (4 : Int32)), .val (.int (own_rm p3 ((4 : Int32) + (1 : Int32)))), .val (.ref a_10), .val (.ref a_24), .val (.ref a_57), .val (.ref a_108), .val (.ref a_178), .val (.ref a_753), .unset] [])) rfl (hb hby at_218) (by decide) (by decide)
    obtain ⟨a_777, g_778⟩ : ∃ z, z = T_762.heap.size := ⟨_, rfl⟩
    rw [← g_778] at A_774 D_775 st_776 U_779
    have CH_780 : CHv Z consts_1 s.vm h_770 := CHv.ext E_773 CH_767
    have CR_781 : CHr Z consts_1 s.vm h0 s.vm h_770 := CR_768.trans (CHr.ext E_773 CH_767)
    have O_782 : Old Z n0 T_762.heap := (O_761.keep K_764 (allS (Nat.le_trans (own_n0 O_760) (Nat.le_of_eq g_754.symm)) all0))
    have O_783 : Old Z n0 h_770 := (O_782.ext E_773)
    obtain ⟨_, _, ⟨T_784, L_784, k_784, n_784⟩, -, X_784, ⟨Lc_784, hQ_784, l_784, y_784, z_784⟩, st_784⟩ := X_771.specialBack hx (y := M701) rfl hown (mvT hZ (w35 hw)) (mvT hZ (w36 hw)) (mvT hZ (w37 hw)) (by decide) (backOf (W := 1) (rm_dii l Z a0 hw [] G1 G3 HG h_770 n0 O_783 a_777 a_753 (own_rm p3 ((4 : Int32) + (1 : Int32))) A_774 (D_775 (Or.inr (w45 hw)) (ty := (.object "java/lang/String")) (by decide)) (D_775 (Or.inr (w47 hw)) (ty := .int) (by decide)) (Nat.le_trans (own_n0 O_782) (Nat.le_of_eq g_778.symm))) hZ (w37 hw) (w34 hw) (by decide) (by decide)) (g := (mkF m 226 #[.val (.int p0), .val (.int p1), .val (.int p2), .val (.int p3), .val (.int (own_cw p0)), .val (.int (own_cw (own_us p0))), .val (.int (own_cw p1)), .val (.int (own_cw (own_us p1))), .val (.int (4 : Int32)), .val (.int (own_rm p3 ((4 : Int32) + (1 : Int32)))), .val (.ref a_10), .val (.ref a_24), .val (.ref a_57), .val (.ref a_108), .val (.ref a_178), .val (.ref a_753), .unset] [(.int (own_rm p3 ((4 : Int32) + (1 : Int32)))), (.ref a_753), (.ref a_777), (.ref a_777)])) rfl (by rw [hml]; rfl) (Steps.refl _) (a := a_777) (argsL := [(.ref a_753), (.int (own_rm p3 ((4 : Int32) + (1 : Int32))))]) (rest := [(.ref a_777)]) (lenOf pd_749 rfl) rfl (by show 2 * 0 + _ ≤ _; exact Nat.le_of_eq rfl) (hb hby at_226) (fun _ _ => ⟨rfl, e_772, (by decide : 9 + 0 ≤ _), (by decide : 40 + 0 ≤ _)⟩)
    dsimp only [Pt.U, Pt.locs, Pt.cells, Pt.slots] at X_784 l_784 y_784 z_784 st_784 hQ_784
    have X_784 := own_cast X_784 l_784 y_784 z_784
    obtain ⟨rfl, N_785, K_786, g_787, g_788, g_789⟩ := hQ_784
    have N_790 := Fr.app N_766 N_785
    have CH_791 : CHv Z consts_1 s.vm T_784.heap := CHv.keep K_786 (sfS (Safe.exa hZ.alike A_774 (by decide) (by decide)) sf0) CH_780
    have CR_792 : CHr Z consts_1 s.vm h0 s.vm T_784.heap := CR_781.trans (CHr.keep K_786 (sfS (Safe.exa hZ.alike A_774 (by decide) (by decide)) sf0) CH_780)
    have E_793 : Exa Z T_784.heap a_753 "java/lang/String" := (((A_750.keep K_764).ext E_773).keep K_786)
    have S_794 : own_S Z T_784.heap a_753 (4 : Int32) [(own_cw p0), (own_cw (own_us p0)), (own_cw p1), (own_cw (own_us p1))] := own_S.keep g_765 (((Keep.refl _ _).ext E_773).trans K_786 (allS (Or.inr (Nat.le_trans (Nat.le_refl _) (Nat.le_of_eq g_778.symm))) all0))
    have O_795 : Old Z n0 T_784.heap := (O_783.keep K_786 (allS (Nat.le_trans (own_n0 O_782) (Nat.le_of_eq g_778.symm)) all0))
    obtain ⟨q_797, q_798, q_799, q_800, q_801⟩ := isOf (T := T_784) hZ rfl g_787
    obtain ⟨_, _, ⟨T_796, L_796, k_796, n_796⟩, -, Y_796, S_796, G_796, ⟨Lc_796, hQ_796, l_796, y_796, z_796, R_796⟩, st_796⟩ := X_784.virtualBackS hx (y := M722) (z := M722) hown (mvT hZ (w48 hw)) (mvT hZ (w49 hw)) (notFace_of_selects (args := #[]) (mvT hZ (w51 hw))) (mvT hZ (w51 hw)) (mvT hZ (w50 hw)) (by decide) (backOfSH (vm0 := s.vm) (W := 0) (rm_mp l Z a0 hw [] G1 G3 HG T_784.heap n0 O_795 a_777 a_753 (4 : Int32) [(own_cw p0), (own_cw (own_us p0)), (own_cw p1), (own_cw (own_us p1))] (own_rm p3 ((4 : Int32) + (1 : Int32))) g_787 g_788 g_789 E_793 S_794 (by decide) rfl (own_u1 (own_cw_lo _) (own_cw_hi _) (own_u1 (own_cw_lo _) (own_cw_hi _) (own_u1 (own_cw_lo _) (own_cw_hi _) (own_u1 (own_cw_lo _) (own_cw_hi _) own_u0)))) (by decide) hm_744.1 hm_744.2.1) hZ (w52 hw) (w34 hw) (by decide) (by decide) hEL CH_791) q_799 q_801 (g := (mkF m 229 #[.val (.int p0), .val (.int p1), .val (.int p2), .val (.int p3), .val (.int (own_cw p0)), .val (.int (own_cw (own_us p0))), .val (.int (own_cw p1)), .val (.int (own_cw (own_us p1))), .val (.int (4 : Int32)), .val (.int (own_rm p3 ((4 : Int32) + (1 : Int32)))), .val (.ref a_10), .val (.ref a_24), .val (.ref a_57), .val (.ref a_108), .val (.ref a_178), .val (.ref a_753), .unset] [(.ref a_777)])) rfl (by rw [hml]; rfl) (Steps.refl _) (argsL := []) (rest := []) (lenOf pd_753 rfl) rfl (by show 2 * 0 + _ ≤ _; exact Nat.le_of_eq rfl) (hb hby at_229) (fun _ _ => ⟨rfl, rfl, (by decide : 9 + 3 ≤ _), (by decide : 40 + 28 ≤ _)⟩)
    dsimp only [Pt.U, Pt.locs, Pt.cells, Pt.slots] at Y_796 S_796 G_796 l_796 y_796 z_796 st_796 hQ_796 R_796
    have Y_796 := own_cast Y_796 l_796 y_796 z_796
    obtain ⟨X_796, hS_796, hZ_796, hown_796⟩ := rebS hS0 (n1 := T_784.heap.size) (by rw [show T_784.heap = T_784.heap from rfl]; exact (Nat.le_trans (Nat.le_refl _) (Nat.le_trans (Nat.le_trans (Nat.le_trans (Nat.le_trans (Nat.le_trans (Nat.le_trans (Nat.le_trans (Nat.le_trans (Nat.le_trans (Nat.le_trans (Nat.le_trans (Nat.le_trans (Nat.le_trans (Nat.le_trans (Nat.le_trans (Nat.le_trans (Nat.le_trans (Nat.le_trans E_7.1 E_21.1) (Keep.of_wr W_41).1) E_54.1) (Keep.of_wr W_74).1) (Keep.of_wr W_93).1) E_105.1) (Keep.of_wr W_125).1) (Keep.of_wr W_144).1) (Keep.of_wr W_163).1) E_175.1) (Keep.of_wr W_195).1) (Keep.of_wr W_214).1) (Keep.of_wr W_232).1) (Keep.of_wr W_250).1) E_749.1) K_764.1) E_773.1) K_786.1))) Y_796 S_796 G_796 hZ hown
    obtain ⟨a_802, rfl, N_803, K_804, g_805, g_806⟩ := hQ_796
    have N_807 := Fr.app N_790 N_803
    have CH_808 : CHv Z consts_1 T_796.vm T_796.heap := R_796.1
    have CR_809 : CHr Z consts_1 s.vm h0 T_796.vm T_796.heap := CR_792.trans R_796
    have O_810 : Old Z n0 T_796.heap := (O_795.keep K_804 all0)
    obtain ⟨q_812, q_813, q_814, q_815, q_816⟩ := isOf (T := T_796) hZ_796 rfl g_805
    obtain ⟨_, _, ⟨T_811, L_811, k_811, n_811⟩, -, X_811, ⟨Lc_811, hQ_811, l_811, y_811, z_811⟩, st_811⟩ := X_796.virtualBack hx (y := M264) (z := M264) hown_796 (mvT hZ_796 (w107 hw)) (mvT hZ_796 (w59 hw)) (notFace_of_selects (args := #[]) (mvT hZ_796 (w61 hw))) (mvT hZ_796 (w61 hw)) (mvT hZ_796 (w60 hw)) (by decide) (backOf (W := 0) (rm_lenS l Z a0 hw [] G1 G3 HG T_796.heap n0 O_810 a_802 (own_rm p3 ((4 : Int32) + (1 : Int32))) ([(own_cw p0), (own_cw (own_us p0)), (own_cw p1), (own_cw (own_us p1))].take (own_rm p3 ((4 : Int32) + (1 : Int32))).toNatClampNeg) g_806 hm_744.1 hm_744.2.2) hZ_796 (w62 hw) (w5 hw) (by decide) (by decide)) q_814 q_816 (g := (mkF m 236 #[.val (.int p0), .val (.int p1), .val (.int p2), .val (.int p3), .val (.int (own_cw p0)), .val (.int (own_cw (own_us p0))), .val (.int (own_cw p1)), .val (.int (own_cw (own_us p1))), .val (.int (4 : Int32)), .val (.int (own_rm p3 ((4 : Int32) + (1 : Int32)))), .val (.ref a_10), .val (.ref a_24), .val (.ref a_57), .val (.ref a_108), .val (.ref a_178), .val (.ref a_753), .val (.ref a_802)] [(.ref a_802)])) rfl (by rw [hml]; rfl) (Steps.refl _) (argsL := []) (rest := []) (lenOf pd_647 rfl) rfl (by show 2 * 0 + _ ≤ _; exact Nat.le_of_eq rfl) (hb hby at_236) (fun _ _ => ⟨rfl, rfl, (by decide : 12 + 0 ≤ _), (by decide : 68 + 0 ≤ _)⟩)
    dsimp only [Pt.U, Pt.locs, Pt.cells, Pt.slots] at X_811 l_811 y_811 z_811 st_811 hQ_811
    have X_811 := own_cast X_811 l_811 y_811 z_811
    obtain ⟨rfl, N_817, e_818⟩ := hQ_811
    have N_819 := Fr.app N_807 N_817
    have e_820 : T_811.heap = T_796.heap := e_818
    have C_821 : Steps p.tables e below S0 (T_811.setTop (mkF m 248 #[.val (.int p0), .val (.int p1), .val (.int p2), .val (.int p3), .val (.int (own_cw p0)), .val (.int (own_cw (own_us p0))), .val (.int (own_cw p1)), .val (.int (own_cw (own_us p1))), .val (.int (4 : Int32)), .val (.int (own_rm p3 ((4 : Int32) + (1 : Int32)))), .val (.ref a_10), .val (.ref a_24), .val (.ref a_57), .val (.ref a_108), .val (.ref a_178), .val (.ref a_753), .val (.ref a_802)] [(.int (own_rm p3 ((4 : Int32) + (1 : Int32))))])) := by
      refine C_743.trans ?_
      refine XS.ifYes X_248.here hx rfl (pc0 := 130) (pc' := 147) rfl (hb hby at_130) rfl (by decide) (by decide) (by decide) ?_
      refine XS.iload X_248.here hx rfl (hb hby at_147) rfl ?_
      refine XS.iconst X_248.here hx rfl (hb hby at_149) ?_
      refine XS.icmpYes X_248.here hx rfl (pc0 := 150) (pc' := 167) rfl (hb hby at_150) rfl (by decide) (by decide) (by decide) ?_
      refine XS.iload X_248.here hx rfl (hb hby at_167) rfl ?_
      refine XS.iconst X_248.here hx rfl (hb hby at_169) ?_
      refine XS.icmpYes X_248.here hx rfl (pc0 := 170) (pc' := 187) rfl (hb hby at_170) rfl (by decide) (by decide) (by decide) ?_
      refine XS.iload X_248.here hx rfl (hb hby at_187) rfl ?_
      show Steps p.tables e below (T_246.setTop (mkF m 189 #[.val (.int p0), .val (.int p1), .val (.int p2), .val (.int p3), .val (.int (own_cw p0)), .val (.int (own_cw (own_us p0))), .val (.int (own_cw p1)), .val (.int (own_cw (own_us p1))), .val (.int (4 : Int32)), .val (.int (own_rm p3 ((4 : Int32) + (1 : Int32)))), .val (.ref a_10), .val (.ref a_24), .val (.ref a_57), .val (.ref a_108), .val (.ref a_178), .unset, .unset] [(.int (4 : Int32))])) _
      refine XS.iconst X_248.here hx rfl (hb hby at_189) ?_
      refine XS.icmpYes X_248.here hx rfl (pc0 := 190) (pc' := 207) rfl (hb hby at_190) rfl (by decide) (by decide) (by decide) ?_
      refine st_752 _ ?_
      refine XS.dup X_747.here hx rfl (hb hby at_210) rfl rfl ?_
      refine XS.aload X_747.here hx rfl (hb hby at_211) rfl rfl ?_
      refine st_762.trans ?_
      refine XS.astore X_762.here hx rfl (hb hby at_216) rfl rfl (l' := #[.val (.int p0), .val (.int p1), .val (.int p2), .val (.int p3), .val (.int (own_cw p0)), .val (.int (own_cw (own_us p0))), .val (.int (own_cw p1)), .val (.int (own_cw (own_us p1))), .val (.int (4 : Int32)), .val (.int (own_rm p3 ((4 : Int32) + (1 : Int32)))), .val (.ref a_10), .val (.ref a_24), .val (.ref a_57), .val (.ref a_108), .val (.ref a_178), .val (.ref a_753), .unset]) rfl ?_
      refine st_776 _ ?_
      show Steps p.tables e below (T_769.setTop (mkF m 221 #[.val (.int p0), .val (.int p1), .val (.int p2), .val (.int p3), .val (.int (own_cw p0)), .val (.int (own_cw (own_us p0))), .val (.int (own_cw p1)), .val (.int (own_cw (own_us p1))), .val (.int (4 : Int32)), .val (.int (own_rm p3 ((4 : Int32) + (1 : Int32)))), .val (.ref a_10), .val (.ref a_24), .val (.ref a_57), .val (.ref a_108), .val (.ref a_178), .val (.ref a_753), .unset] [(.ref a_777)])) _
      refine XS.dup X_771.here hx rfl (hb hby at_221) rfl rfl ?_
      refine XS.aload X_771.here hx rfl (hb hby at_222) rfl rfl ?_
      refine XS.iload X_771.here hx rfl (hb hby at_224) rfl ?_
      refine st_784.trans ?_
      refine st_796.trans ?_
      refine XS.astore X_796.here hx rfl (hb hby at_232) rfl rfl (l' := #[.val (.int p0), .val (.int p1), .val (.int p2), .val (.int p3), .val (.int (own_cw p0)), .val (.int (own_cw (own_us p0))), .val (.int (own_cw p1)), .val (.int (own_cw (own_us p1))), .val (.int (4 : Int32)), .val (.int (own_rm p3 ((4 : Int32) + (1 : Int32)))), .val (.ref a_10), .val (.ref a_24), .val (.ref a_57), .val (.ref a_108), .val (.ref a_178), .val (.ref a_753), .val (.ref a_802)]) rfl ?_
      refine XS.aload X_796.here hx rfl (hb hby at_234) rfl rfl ?_
      refine st_811.trans ?_
      show Steps p.tables e below (T_811.setTop (mkF m 239 #[.val (.int p0), .val (.int p1), .val (.int p2), .val (.int p3), .val (.int (own_cw p0)), .val (.int (own_cw (own_us p0))), .val (.int (own_cw p1)), .val (.int (own_cw (own_us p1))), .val (.int (4 : Int32)), .val (.int (own_rm p3 ((4 : Int32) + (1 : Int32)))), .val (.ref a_10), .val (.ref a_24), .val (.ref a_57), .val (.ref a_108), .val (.ref a_178), .val (.ref a_753), .val (.ref a_802)] [(.int (own_rm p3 ((4 : Int32) + (1 : Int32))))])) _
      refine XS.iload X_811.here hx rfl (hb hby at_239) rfl ?_
      refine XS.icmpYes X_811.here hx rfl (pc0 := 241) (pc' := 246) rfl (hb hby at_241) rfl (ii_eq_t rfl) (by decide) (by decide) ?_
      refine XS.iload X_811.here hx rfl (hb hby at_246) rfl ?_
      exact Steps.refl _
    by_cases hc_822 : (0 : Int32) < (own_rm p3 ((4 : Int32) + (1 : Int32)))
    · skip
      obtain ⟨q_824, q_825, q_826, q_827, q_828⟩ := isOf (T := T_811) hZ_796 e_820 g_805
      obtain ⟨_, _, ⟨T_823, L_823, k_823, n_823⟩, -, X_823, ⟨Lc_823, hQ_823, l_823, y_823, z_823⟩, st_823⟩ := X_811.virtualBack hx (y := M319) (z := M319) hown_796 (mvT hZ_796 (w108 hw)) (mvT hZ_796 (w109 hw)) (notFace_of_selects (args := #[]) (mvT hZ_796 (w111 hw))) (mvT hZ_796 (w111 hw)) (mvT hZ_796 (w110 hw)) (by decide) (backOf (W := 0) (rm_chS l Z a0 hw [] G1 G3 HG T_796.heap n0 O_810 a_802 (own_rm p3 ((4 : Int32) + (1 : Int32))) ([(own_cw p0), (own_cw (own_us p0)), (own_cw p1), (own_cw (own_us p1))].take (own_rm p3 ((4 : Int32) + (1 : Int32))).toNatClampNeg) (0 : Int32) g_806 hm_744.1 (own_tkl (n := (4 : Int32)) rfl hm_744.1 hm_744.2.1) (own_u16take (own_u1 (own_cw_lo _) (own_cw_hi _) (own_u1 (own_cw_lo _) (own_cw_hi _) (own_u1 (own_cw_lo _) (own_cw_hi _) (own_u1 (own_cw_lo _) (own_cw_hi _) own_u0)))) _) hm_744.2.2 (by decide) hc_822) hZ_796 (w112 hw) (w5 hw) (by decide) (by decide)) q_826 q_828 (g := (mkF m 254 #[.val (.int p0), .val (.int p1), .val (.int p2), .val (.int p3), .val (.int (own_cw p0)), .val (.int (own_cw (own_us p0))), .val (.int (own_cw p1)), .val (.int (own_cw (own_us p1))), .val (.int (4 : Int32)), .val (.int (own_rm p3 ((4 : Int32) + (1 : Int32)))), .val (.ref a_10), .val (.ref a_24), .val (.ref a_57), .val (.ref a_108), .val (.ref a_178), .val (.ref a_753), .val (.ref a_802)] [(.int (0 : Int32)), (.ref a_802)])) rfl (by rw [hml]; rfl) (Steps.refl _) (argsL := [(.int (0 : Int32))]) (rest := []) (lenOf pd_760 rfl) rfl (by show 2 * 0 + _ ≤ _; exact Nat.le_of_eq rfl) (hb hby at_254) (fun _ _ => ⟨rfl, e_820, (by decide : 12 + 0 ≤ _), (by decide : 68 + 0 ≤ _)⟩)
      dsimp only [Pt.U, Pt.locs, Pt.cells, Pt.slots] at X_823 l_823 y_823 z_823 st_823 hQ_823
      have X_823 := own_cast X_823 l_823 y_823 z_823
      obtain ⟨rfl, N_829, e_830⟩ := hQ_823
      have N_831 := Fr.app N_819 N_829
      have e_832 : T_823.heap = T_796.heap := e_830
      have C_833 : Steps p.tables e below S0 (T_823.setTop (mkF m 267 #[.val (.int p0), .val (.int p1), .val (.int p2), .val (.int p3), .val (.int (own_cw p0)), .val (.int (own_cw (own_us p0))), .val (.int (own_cw p1)), .val (.int (own_cw (own_us p1))), .val (.int (4 : Int32)), .val (.int (own_rm p3 ((4 : Int32) + (1 : Int32)))), .val (.ref a_10), .val (.ref a_24), .val (.ref a_57), .val (.ref a_108), .val (.ref a_178), .val (.ref a_753), .val (.ref a_802)] [(.int (1 : Int32)), (.int (own_rm p3 ((4 : Int32) + (1 : Int32))))])) := by
        refine C_821.trans ?_
        refine XS.ifNo X_811.here hx rfl (hb hby at_248) rfl (i0_le_f hc_822) ?_
        refine XS.aload X_811.here hx rfl (hb hby at_251) rfl rfl ?_
        refine XS.iconst X_811.here hx rfl (hb hby at_253) ?_
        refine st_823.trans ?_
        refine XS.iload X_823.here hx rfl (hb hby at_257) rfl ?_
        refine XS.icmpYes X_823.here hx rfl (pc0 := 259) (pc' := 264) rfl (hb hby at_259) rfl (ii_eq_t (own_gttake (i := (0 : Int32)) (own_nat (by decide) hc_822).1)) (by decide) (by decide) ?_
        refine XS.iload X_823.here hx rfl (hb hby at_264) rfl ?_
        refine XS.iconst X_823.here hx rfl (hb hby at_266) ?_
        show Steps p.tables e below (T_823.setTop (mkF m 267 #[.val (.int p0), .val (.int p1), .val (.int p2), .val (.int p3), .val (.int (own_cw p0)), .val (.int (own_cw (own_us p0))), .val (.int (own_cw p1)), .val (.int (own_cw (own_us p1))), .val (.int (4 : Int32)), .val (.int (own_rm p3 ((4 : Int32) + (1 : Int32)))), .val (.ref a_10), .val (.ref a_24), .val (.ref a_57), .val (.ref a_108), .val (.ref a_178), .val (.ref a_753), .val (.ref a_802)] [(.int (1 : Int32)), (.int (own_rm p3 ((4 : Int32) + (1 : Int32))))])) _
        exact Steps.refl _
      by_cases hc_834 : (1 : Int32) < (own_rm p3 ((4 : Int32) + (1 : Int32)))
      · skip
        obtain ⟨q_836, q_837, q_838, q_839, q_840⟩ := isOf (T := T_823) hZ_796 e_832 g_805
        obtain ⟨_, _, ⟨T_835, L_835, k_835, n_835⟩, -, X_835, ⟨Lc_835, hQ_835, l_835, y_835, z_835⟩, st_835⟩ := X_823.virtualBack hx (y := M319) (z := M319) hown_796 (mvT hZ_796 (w108 hw)) (mvT hZ_796 (w109 hw)) (notFace_of_selects (args := #[]) (mvT hZ_796 (w111 hw))) (mvT hZ_796 (w111 hw)) (mvT hZ_796 (w110 hw)) (by decide) (backOf (W := 0) (rm_chS l Z a0 hw [] G1 G3 HG T_796.heap n0 O_810 a_802 (own_rm p3 ((4 : Int32) + (1 : Int32))) ([(own_cw p0), (own_cw (own_us p0)), (own_cw p1), (own_cw (own_us p1))].take (own_rm p3 ((4 : Int32) + (1 : Int32))).toNatClampNeg) (1 : Int32) g_806 hm_744.1 (own_tkl (n := (4 : Int32)) rfl hm_744.1 hm_744.2.1) (own_u16take (own_u1 (own_cw_lo _) (own_cw_hi _) (own_u1 (own_cw_lo _) (own_cw_hi _) (own_u1 (own_cw_lo _) (own_cw_hi _) (own_u1 (own_cw_lo _) (own_cw_hi _) own_u0)))) _) hm_744.2.2 (by decide) hc_834) hZ_796 (w112 hw) (w5 hw) (by decide) (by decide)) q_838 q_840 (g := (mkF m 273 #[.val (.int p0), .val (.int p1), .val (.int p2), .val (.int p3), .val (.int (own_cw p0)), .val (.int (own_cw (own_us p0))), .val (.int (own_cw p1)), .val (.int (own_cw (own_us p1))), .val (.int (4 : Int32)), .val (.int (own_rm p3 ((4 : Int32) + (1 : Int32)))), .val (.ref a_10), .val (.ref a_24), .val (.ref a_57), .val (.ref a_108), .val (.ref a_178), .val (.ref a_753), .val (.ref a_802)] [(.int (1 : Int32)), (.ref a_802)])) rfl (by rw [hml]; rfl) (Steps.refl _) (argsL := [(.int (1 : Int32))]) (rest := []) (lenOf pd_760 rfl) rfl (by show 2 * 0 + _ ≤ _; exact Nat.le_of_eq rfl) (hb hby at_273) (fun _ _ => ⟨rfl, e_832, (by decide : 12 + 0 ≤ _), (by decide : 68 + 0 ≤ _)⟩)
        dsimp only [Pt.U, Pt.locs, Pt.cells, Pt.slots] at X_835 l_835 y_835 z_835 st_835 hQ_835
        have X_835 := own_cast X_835 l_835 y_835 z_835
        obtain ⟨rfl, N_841, e_842⟩ := hQ_835
        have N_843 := Fr.app N_831 N_841
        have e_844 : T_835.heap = T_796.heap := e_842
        have C_845 : Steps p.tables e below S0 (T_835.setTop (mkF m 286 #[.val (.int p0), .val (.int p1), .val (.int p2), .val (.int p3), .val (.int (own_cw p0)), .val (.int (own_cw (own_us p0))), .val (.int (own_cw p1)), .val (.int (own_cw (own_us p1))), .val (.int (4 : Int32)), .val (.int (own_rm p3 ((4 : Int32) + (1 : Int32)))), .val (.ref a_10), .val (.ref a_24), .val (.ref a_57), .val (.ref a_108), .val (.ref a_178), .val (.ref a_753), .val (.ref a_802)] [(.int (2 : Int32)), (.int (own_rm p3 ((4 : Int32) + (1 : Int32))))])) := by
          refine C_833.trans ?_
          refine XS.icmpNo X_823.here hx rfl (hb hby at_267) rfl (ii_le_f hc_834) ?_
          refine XS.aload X_823.here hx rfl (hb hby at_270) rfl rfl ?_
          refine XS.iconst X_823.here hx rfl (hb hby at_272) ?_
          refine st_835.trans ?_
          refine XS.iload X_835.here hx rfl (hb hby at_276) rfl ?_
          refine XS.icmpYes X_835.here hx rfl (pc0 := 278) (pc' := 283) rfl (hb hby at_278) rfl (ii_eq_t (own_gttake (i := (1 : Int32)) (own_nat (by decide) hc_834).1)) (by decide) (by decide) ?_
          refine XS.iload X_835.here hx rfl (hb hby at_283) rfl ?_
          refine XS.iconst X_835.here hx rfl (hb hby at_285) ?_
          show Steps p.tables e below (T_835.setTop (mkF m 286 #[.val (.int p0), .val (.int p1), .val (.int p2), .val (.int p3), .val (.int (own_cw p0)), .val (.int (own_cw (own_us p0))), .val (.int (own_cw p1)), .val (.int (own_cw (own_us p1))), .val (.int (4 : Int32)), .val (.int (own_rm p3 ((4 : Int32) + (1 : Int32)))), .val (.ref a_10), .val (.ref a_24), .val (.ref a_57), .val (.ref a_108), .val (.ref a_178), .val (.ref a_753), .val (.ref a_802)] [(.int (2 : Int32)), (.int (own_rm p3 ((4 : Int32) + (1 : Int32))))])) _
          exact Steps.refl _
        by_cases hc_846 : (2 : Int32) < (own_rm p3 ((4 : Int32) + (1 : Int32)))
        · skip
          obtain ⟨q_848, q_849, q_850, q_851, q_852⟩ := isOf (T := T_835) hZ_796 e_844 g_805
          obtain ⟨_, _, ⟨T_847, L_847, k_847, n_847⟩, -, X_847, ⟨Lc_847, hQ_847, l_847, y_847, z_847⟩, st_847⟩ := X_835.virtualBack hx (y := M319) (z := M319) hown_796 (mvT hZ_796 (w108 hw)) (mvT hZ_796 (w109 hw)) (notFace_of_selects (args := #[]) (mvT hZ_796 (w111 hw))) (mvT hZ_796 (w111 hw)) (mvT hZ_796 (w110 hw)) (by decide) (backOf (W := 0) (rm_chS l Z a0 hw [] G1 G3 HG T_796.heap n0 O_810 a_802 (own_rm p3 ((4 : Int32) + (1 : Int32))) ([(own_cw p0), (own_cw (own_us p0)), (own_cw p1), (own_cw (own_us p1))].take (own_rm p3 ((4 : Int32) + (1 : Int32))).toNatClampNeg) (2 : Int32) g_806 hm_744.1 (own_tkl (n := (4 : Int32)) rfl hm_744.1 hm_744.2.1) (own_u16take (own_u1 (own_cw_lo _) (own_cw_hi _) (own_u1 (own_cw_lo _) (own_cw_hi _) (own_u1 (own_cw_lo _) (own_cw_hi _) (own_u1 (own_cw_lo _) (own_cw_hi _) own_u0)))) _) hm_744.2.2 (by decide) hc_846) hZ_796 (w112 hw) (w5 hw) (by decide) (by decide)) q_850 q_852 (g := (mkF m 292 #[.val (.int p0), .val (.int p1), .val (.int p2), .val (.int p3), .val (.int (own_cw p0)), .val (.int (own_cw (own_us p0))), .val (.int (own_cw p1)), .val (.int (own_cw (own_us p1))), .val (.int (4 : Int32)), .val (.int (own_rm p3 ((4 : Int32) + (1 : Int32)))), .val (.ref a_10), .val (.ref a_24), .val (.ref a_57), .val (.ref a_108), .val (.ref a_178), .val (.ref a_753), .val (.ref a_802)] [(.int (2 : Int32)), (.ref a_802)])) rfl (by rw [hml]; rfl) (Steps.refl _) (argsL := [(.int (2 : Int32))]) (rest := []) (lenOf pd_760 rfl) rfl (by show 2 * 0 + _ ≤ _; exact Nat.le_of_eq rfl) (hb hby at_292) (fun _ _ => ⟨rfl, e_844, (by decide : 12 + 0 ≤ _), (by decide : 68 + 0 ≤ _)⟩)
          dsimp only [Pt.U, Pt.locs, Pt.cells, Pt.slots] at X_847 l_847 y_847 z_847 st_847 hQ_847
          have X_847 := own_cast X_847 l_847 y_847 z_847
          obtain ⟨rfl, N_853, e_854⟩ := hQ_847
          have N_855 := Fr.app N_843 N_853
          have e_856 : T_847.heap = T_796.heap := e_854
          have C_857 : Steps p.tables e below S0 (T_847.setTop (mkF m 305 #[.val (.int p0), .val (.int p1), .val (.int p2), .val (.int p3), .val (.int (own_cw p0)), .val (.int (own_cw (own_us p0))), .val (.int (own_cw p1)), .val (.int (own_cw (own_us p1))), .val (.int (4 : Int32)), .val (.int (own_rm p3 ((4 : Int32) + (1 : Int32)))), .val (.ref a_10), .val (.ref a_24), .val (.ref a_57), .val (.ref a_108), .val (.ref a_178), .val (.ref a_753), .val (.ref a_802)] [(.int (3 : Int32)), (.int (own_rm p3 ((4 : Int32) + (1 : Int32))))])) := by
            refine C_845.trans ?_
            refine XS.icmpNo X_835.here hx rfl (hb hby at_286) rfl (ii_le_f hc_846) ?_
            refine XS.aload X_835.here hx rfl (hb hby at_289) rfl rfl ?_
            refine XS.iconst X_835.here hx rfl (hb hby at_291) ?_
            refine st_847.trans ?_
            refine XS.iload X_847.here hx rfl (hb hby at_295) rfl ?_
            refine XS.icmpYes X_847.here hx rfl (pc0 := 297) (pc' := 302) rfl (hb hby at_297) rfl (ii_eq_t (own_gttake (i := (2 : Int32)) (own_nat (by decide) hc_846).1)) (by decide) (by decide) ?_
            refine XS.iload X_847.here hx rfl (hb hby at_302) rfl ?_
            refine XS.iconst X_847.here hx rfl (hb hby at_304) ?_
            show Steps p.tables e below (T_847.setTop (mkF m 305 #[.val (.int p0), .val (.int p1), .val (.int p2), .val (.int p3), .val (.int (own_cw p0)), .val (.int (own_cw (own_us p0))), .val (.int (own_cw p1)), .val (.int (own_cw (own_us p1))), .val (.int (4 : Int32)), .val (.int (own_rm p3 ((4 : Int32) + (1 : Int32)))), .val (.ref a_10), .val (.ref a_24), .val (.ref a_57), .val (.ref a_108), .val (.ref a_178), .val (.ref a_753), .val (.ref a_802)] [(.int (3 : Int32)), (.int (own_rm p3 ((4 : Int32) + (1 : Int32))))])) _
            exact Steps.refl _
          by_cases hc_858 : (3 : Int32) < (own_rm p3 ((4 : Int32) + (1 : Int32)))
          · skip
            obtain ⟨q_860, q_861, q_862, q_863, q_864⟩ := isOf (T := T_847) hZ_796 e_856 g_805
            obtain ⟨_, _, ⟨T_859, L_859, k_859, n_859⟩, -, X_859, ⟨Lc_859, hQ_859, l_859, y_859, z_859⟩, st_859⟩ := X_847.virtualBack hx (y := M319) (z := M319) hown_796 (mvT hZ_796 (w108 hw)) (mvT hZ_796 (w109 hw)) (notFace_of_selects (args := #[]) (mvT hZ_796 (w111 hw))) (mvT hZ_796 (w111 hw)) (mvT hZ_796 (w110 hw)) (by decide) (backOf (W := 0) (rm_chS l Z a0 hw [] G1 G3 HG T_796.heap n0 O_810 a_802 (own_rm p3 ((4 : Int32) + (1 : Int32))) ([(own_cw p0), (own_cw (own_us p0)), (own_cw p1), (own_cw (own_us p1))].take (own_rm p3 ((4 : Int32) + (1 : Int32))).toNatClampNeg) (3 : Int32) g_806 hm_744.1 (own_tkl (n := (4 : Int32)) rfl hm_744.1 hm_744.2.1) (own_u16take (own_u1 (own_cw_lo _) (own_cw_hi _) (own_u1 (own_cw_lo _) (own_cw_hi _) (own_u1 (own_cw_lo _) (own_cw_hi _) (own_u1 (own_cw_lo _) (own_cw_hi _) own_u0)))) _) hm_744.2.2 (by decide) hc_858) hZ_796 (w112 hw) (w5 hw) (by decide) (by decide)) q_862 q_864 (g := (mkF m 311 #[.val (.int p0), .val (.int p1), .val (.int p2), .val (.int p3), .val (.int (own_cw p0)), .val (.int (own_cw (own_us p0))), .val (.int (own_cw p1)), .val (.int (own_cw (own_us p1))), .val (.int (4 : Int32)), .val (.int (own_rm p3 ((4 : Int32) + (1 : Int32)))), .val (.ref a_10), .val (.ref a_24), .val (.ref a_57), .val (.ref a_108), .val (.ref a_178), .val (.ref a_753), .val (.ref a_802)] [(.int (3 : Int32)), (.ref a_802)])) rfl (by rw [hml]; rfl) (Steps.refl _) (argsL := [(.int (3 : Int32))]) (rest := []) (lenOf pd_760 rfl) rfl (by show 2 * 0 + _ ≤ _; exact Nat.le_of_eq rfl) (hb hby at_311) (fun _ _ => ⟨rfl, e_856, (by decide : 12 + 0 ≤ _), (by decide : 68 + 0 ≤ _)⟩)
            dsimp only [Pt.U, Pt.locs, Pt.cells, Pt.slots] at X_859 l_859 y_859 z_859 st_859 hQ_859
            have X_859 := own_cast X_859 l_859 y_859 z_859
            obtain ⟨rfl, N_865, e_866⟩ := hQ_859
            have N_867 := Fr.app N_855 N_865
            have e_868 : T_859.heap = T_796.heap := e_866
            have C_869 : Steps p.tables e below S0 (T_859.setTop (mkF m 322 #[.val (.int p0), .val (.int p1), .val (.int p2), .val (.int p3), .val (.int (own_cw p0)), .val (.int (own_cw (own_us p0))), .val (.int (own_cw p1)), .val (.int (own_cw (own_us p1))), .val (.int (4 : Int32)), .val (.int (own_rm p3 ((4 : Int32) + (1 : Int32)))), .val (.ref a_10), .val (.ref a_24), .val (.ref a_57), .val (.ref a_108), .val (.ref a_178), .val (.ref a_753), .val (.ref a_802)] [(.int (1 : Int32))])) := by
              refine C_857.trans ?_
              refine XS.icmpNo X_847.here hx rfl (hb hby at_305) rfl (ii_le_f hc_858) ?_
              refine XS.aload X_847.here hx rfl (hb hby at_308) rfl rfl ?_
              refine XS.iconst X_847.here hx rfl (hb hby at_310) ?_
              refine st_859.trans ?_
              refine XS.iload X_859.here hx rfl (hb hby at_314) rfl ?_
              refine XS.icmpYes X_859.here hx rfl (pc0 := 316) (pc' := 321) rfl (hb hby at_316) rfl (ii_eq_t (own_gttake (i := (3 : Int32)) (own_nat (by decide) hc_858).1)) (by decide) (by decide) ?_
              refine XS.iconst X_859.here hx rfl (hb hby at_321) ?_
              exact Steps.refl _
            have K_870 : Keep h0 T_796.heap [] := (((((K_258.ext E_749).trans K_764 (allS (Or.inr (Nat.le_trans (Nat.le_trans (Nat.le_trans (Nat.le_trans (Nat.le_trans (Nat.le_trans (Nat.le_trans (Nat.le_trans (Nat.le_trans (Nat.le_trans (Nat.le_trans (Nat.le_trans (Nat.le_trans (Nat.le_trans (Nat.le_trans E_7.1 E_21.1) (Keep.of_wr W_41).1) E_54.1) (Keep.of_wr W_74).1) (Keep.of_wr W_93).1) E_105.1) (Keep.of_wr W_125).1) (Keep.of_wr W_144).1) (Keep.of_wr W_163).1) E_175.1) (Keep.of_wr W_195).1) (Keep.of_wr W_214).1) (Keep.of_wr W_232).1) (Keep.of_wr W_250).1) (Nat.le_of_eq g_754.symm))) all0)).ext E_773).trans K_786 (allS (Or.inr (Nat.le_trans (Nat.le_trans (Nat.le_trans (Nat.le_trans (Nat.le_trans (Nat.le_trans (Nat.le_trans (Nat.le_trans (Nat.le_trans (Nat.le_trans (Nat.le_trans (Nat.le_trans (Nat.le_trans (Nat.le_trans (Nat.le_trans (Nat.le_trans (Nat.le_trans E_7.1 E_21.1) (Keep.of_wr W_41).1) E_54.1) (Keep.of_wr W_74).1) (Keep.of_wr W_93).1) E_105.1) (Keep.of_wr W_125).1) (Keep.of_wr W_144).1) (Keep.of_wr W_163).1) E_175.1) (Keep.of_wr W_195).1) (Keep.of_wr W_214).1) (Keep.of_wr W_232).1) (Keep.of_wr W_250).1) E_749.1) K_764.1) (Nat.le_of_eq g_778.symm))) all0)).trans K_804 all0)
            obtain ⟨fs, hr, hrun, hended, hRE⟩ := X_859.leaveW hS_796 (by rw [show T_859.heap = T_796.heap from e_868]; exact (Nat.le_refl _)) (v := some (.int (1 : Int32))) (fun h => by rw [Bd.returns] at h; cases h)
            refine ⟨_, _, C_869.trans (retN X_859 hx (t := .boolean) Bd.returns (by simp) (hb hby at_322) hr), hrun, hended, _, _, rfl, ?_, ?_, hRE.1, hRE.2.1, hRE.2.2.1, hRE.2.2.2.mono (by decide) (by decide)⟩
            · show Q_law Z G1 G3 p0 p1 p2 p3 h0 n0 (some (.int (1 : Int32))) T_859.heap _
              rw [e_868]
              exact ⟨rfl, N_867, K_870⟩
            · show CHr Z consts_1 s.vm s.heap T_859.vm T_859.heap
              rw [hh, show T_859.heap = T_796.heap from e_868]
              exact CR_809.trans (CHv.at X_859 hZ_796 hEL CH_808)
          · skip
            have C_871 : Steps p.tables e below S0 (T_847.setTop (mkF m 322 #[.val (.int p0), .val (.int p1), .val (.int p2), .val (.int p3), .val (.int (own_cw p0)), .val (.int (own_cw (own_us p0))), .val (.int (own_cw p1)), .val (.int (own_cw (own_us p1))), .val (.int (4 : Int32)), .val (.int (own_rm p3 ((4 : Int32) + (1 : Int32)))), .val (.ref a_10), .val (.ref a_24), .val (.ref a_57), .val (.ref a_108), .val (.ref a_178), .val (.ref a_753), .val (.ref a_802)] [(.int (1 : Int32))])) := by
              refine C_857.trans ?_
              refine XS.icmpYes X_847.here hx rfl (pc0 := 305) (pc' := 321) rfl (hb hby at_305) rfl (ii_le_t hc_858) (by decide) (by decide) ?_
              refine XS.iconst X_847.here hx rfl (hb hby at_321) ?_
              exact Steps.refl _
            have K_872 : Keep h0 T_796.heap [] := (((((K_258.ext E_749).trans K_764 (allS (Or.inr (Nat.le_trans (Nat.le_trans (Nat.le_trans (Nat.le_trans (Nat.le_trans (Nat.le_trans (Nat.le_trans (Nat.le_trans (Nat.le_trans (Nat.le_trans (Nat.le_trans (Nat.le_trans (Nat.le_trans (Nat.le_trans (Nat.le_trans E_7.1 E_21.1) (Keep.of_wr W_41).1) E_54.1) (Keep.of_wr W_74).1) (Keep.of_wr W_93).1) E_105.1) (Keep.of_wr W_125).1) (Keep.of_wr W_144).1) (Keep.of_wr W_163).1) E_175.1) (Keep.of_wr W_195).1) (Keep.of_wr W_214).1) (Keep.of_wr W_232).1) (Keep.of_wr W_250).1) (Nat.le_of_eq g_754.symm))) all0)).ext E_773).trans K_786 (allS (Or.inr (Nat.le_trans (Nat.le_trans (Nat.le_trans (Nat.le_trans (Nat.le_trans (Nat.le_trans (Nat.le_trans (Nat.le_trans (Nat.le_trans (Nat.le_trans (Nat.le_trans (Nat.le_trans (Nat.le_trans (Nat.le_trans (Nat.le_trans (Nat.le_trans (Nat.le_trans E_7.1 E_21.1) (Keep.of_wr W_41).1) E_54.1) (Keep.of_wr W_74).1) (Keep.of_wr W_93).1) E_105.1) (Keep.of_wr W_125).1) (Keep.of_wr W_144).1) (Keep.of_wr W_163).1) E_175.1) (Keep.of_wr W_195).1) (Keep.of_wr W_214).1) (Keep.of_wr W_232).1) (Keep.of_wr W_250).1) E_749.1) K_764.1) (Nat.le_of_eq g_778.symm))) all0)).trans K_804 all0)
            obtain ⟨fs, hr, hrun, hended, hRE⟩ := X_847.leaveW hS_796 (by rw [show T_847.heap = T_796.heap from e_856]; exact (Nat.le_refl _)) (v := some (.int (1 : Int32))) (fun h => by rw [Bd.returns] at h; cases h)
            refine ⟨_, _, C_871.trans (retN X_847 hx (t := .boolean) Bd.returns (by simp) (hb hby at_322) hr), hrun, hended, _, _, rfl, ?_, ?_, hRE.1, hRE.2.1, hRE.2.2.1, hRE.2.2.2.mono (by decide) (by decide)⟩
            · show Q_law Z G1 G3 p0 p1 p2 p3 h0 n0 (some (.int (1 : Int32))) T_847.heap _
              rw [e_856]
              exact ⟨rfl, N_855, K_872⟩
            · show CHr Z consts_1 s.vm s.heap T_847.vm T_847.heap
              rw [hh, show T_847.heap = T_796.heap from e_856]
              exact CR_809.trans (CHv.at X_847 hZ_796 hEL CH_808)
        · skip
          have C_873 : Steps p.tables e below S0 (T_835.setTop (mkF m 305 #[.val (.int p0), .val (.int p1), .val (.int p2), .val (.int p3), .val (.int (own_cw p0)), .val (.int (own_cw (own_us p0))), .val (.int (own_cw p1)), .val (.int (own_cw (own_us p1))), .val (.int (4 : Int32)), .val (.int (own_rm p3 ((4 : Int32) + (1 : Int32)))), .val (.ref a_10), .val (.ref a_24), .val (.ref a_57), .val (.ref a_108), .val (.ref a_178), .val (.ref a_753), .val (.ref a_802)] [(.int (3 : Int32)), (.int (own_rm p3 ((4 : Int32) + (1 : Int32))))])) := by
            refine C_845.trans ?_
            refine XS.icmpYes X_835.here hx rfl (pc0 := 286) (pc' := 302) rfl (hb hby at_286) rfl (ii_le_t hc_846) (by decide) (by decide) ?_
            refine XS.iload X_835.here hx rfl (hb hby at_302) rfl ?_
            refine XS.iconst X_835.here hx rfl (hb hby at_304) ?_
            exact Steps.refl _
          by_cases hc_874 : (3 : Int32) < (own_rm p3 ((4 : Int32) + (1 : Int32)))
          · skip
            obtain ⟨q_876, q_877, q_878, q_879, q_880⟩ := isOf (T := T_835) hZ_796 e_844 g_805
            obtain ⟨_, _, ⟨T_875, L_875, k_875, n_875⟩, -, X_875, ⟨Lc_875, hQ_875, l_875, y_875, z_875⟩, st_875⟩ := X_835.virtualBack hx (y := M319) (z := M319) hown_796 (mvT hZ_796 (w108 hw)) (mvT hZ_796 (w109 hw)) (notFace_of_selects (args := #[]) (mvT hZ_796 (w111 hw))) (mvT hZ_796 (w111 hw)) (mvT hZ_796 (w110 hw)) (by decide) (backOf (W := 0) (rm_chS l Z a0 hw [] G1 G3 HG T_796.heap n0 O_810 a_802 (own_rm p3 ((4 : Int32) + (1 : Int32))) ([(own_cw p0), (own_cw (own_us p0)), (own_cw p1), (own_cw (own_us p1))].take (own_rm p3 ((4 : Int32) + (1 : Int32))).toNatClampNeg) (3 : Int32) g_806 hm_744.1 (own_tkl (n := (4 : Int32)) rfl hm_744.1 hm_744.2.1) (own_u16take (own_u1 (own_cw_lo _) (own_cw_hi _) (own_u1 (own_cw_lo _) (own_cw_hi _) (own_u1 (own_cw_lo _) (own_cw_hi _) (own_u1 (own_cw_lo _) (own_cw_hi _) own_u0)))) _) hm_744.2.2 (by decide) hc_874) hZ_796 (w112 hw) (w5 hw) (by decide) (by decide)) q_878 q_880 (g := (mkF m 311 #[.val (.int p0), .val (.int p1), .val (.int p2), .val (.int p3), .val (.int (own_cw p0)), .val (.int (own_cw (own_us p0))), .val (.int (own_cw p1)), .val (.int (own_cw (own_us p1))), .val (.int (4 : Int32)), .val (.int (own_rm p3 ((4 : Int32) + (1 : Int32)))), .val (.ref a_10), .val (.ref a_24), .val (.ref a_57), .val (.ref a_108), .val (.ref a_178), .val (.ref a_753), .val (.ref a_802)] [(.int (3 : Int32)), (.ref a_802)])) rfl (by rw [hml]; rfl) (Steps.refl _) (argsL := [(.int (3 : Int32))]) (rest := []) (lenOf pd_760 rfl) rfl (by show 2 * 0 + _ ≤ _; exact Nat.le_of_eq rfl) (hb hby at_311) (fun _ _ => ⟨rfl, e_844, (by decide : 12 + 0 ≤ _), (by decide : 68 + 0 ≤ _)⟩)
            dsimp only [Pt.U, Pt.locs, Pt.cells, Pt.slots] at X_875 l_875 y_875 z_875 st_875 hQ_875
            have X_875 := own_cast X_875 l_875 y_875 z_875
            obtain ⟨rfl, N_881, e_882⟩ := hQ_875
            have N_883 := Fr.app N_843 N_881
            have e_884 : T_875.heap = T_796.heap := e_882
            have C_885 : Steps p.tables e below S0 (T_875.setTop (mkF m 322 #[.val (.int p0), .val (.int p1), .val (.int p2), .val (.int p3), .val (.int (own_cw p0)), .val (.int (own_cw (own_us p0))), .val (.int (own_cw p1)), .val (.int (own_cw (own_us p1))), .val (.int (4 : Int32)), .val (.int (own_rm p3 ((4 : Int32) + (1 : Int32)))), .val (.ref a_10), .val (.ref a_24), .val (.ref a_57), .val (.ref a_108), .val (.ref a_178), .val (.ref a_753), .val (.ref a_802)] [(.int (1 : Int32))])) := by
              refine C_873.trans ?_
              refine XS.icmpNo X_835.here hx rfl (hb hby at_305) rfl (ii_le_f hc_874) ?_
              refine XS.aload X_835.here hx rfl (hb hby at_308) rfl rfl ?_
              refine XS.iconst X_835.here hx rfl (hb hby at_310) ?_
              refine st_875.trans ?_
              refine XS.iload X_875.here hx rfl (hb hby at_314) rfl ?_
              refine XS.icmpYes X_875.here hx rfl (pc0 := 316) (pc' := 321) rfl (hb hby at_316) rfl (ii_eq_t (own_gttake (i := (3 : Int32)) (own_nat (by decide) hc_874).1)) (by decide) (by decide) ?_
              refine XS.iconst X_875.here hx rfl (hb hby at_321) ?_
              exact Steps.refl _
            have K_886 : Keep h0 T_796.heap [] := (((((K_258.ext E_749).trans K_764 (allS (Or.inr (Nat.le_trans (Nat.le_trans (Nat.le_trans (Nat.le_trans (Nat.le_trans (Nat.le_trans (Nat.le_trans (Nat.le_trans (Nat.le_trans (Nat.le_trans (Nat.le_trans (Nat.le_trans (Nat.le_trans (Nat.le_trans (Nat.le_trans E_7.1 E_21.1) (Keep.of_wr W_41).1) E_54.1) (Keep.of_wr W_74).1) (Keep.of_wr W_93).1) E_105.1) (Keep.of_wr W_125).1) (Keep.of_wr W_144).1) (Keep.of_wr W_163).1) E_175.1) (Keep.of_wr W_195).1) (Keep.of_wr W_214).1) (Keep.of_wr W_232).1) (Keep.of_wr W_250).1) (Nat.le_of_eq g_754.symm))) all0)).ext E_773).trans K_786 (allS (Or.inr (Nat.le_trans (Nat.le_trans (Nat.le_trans (Nat.le_trans (Nat.le_trans (Nat.le_trans (Nat.le_trans (Nat.le_trans (Nat.le_trans (Nat.le_trans (Nat.le_trans (Nat.le_trans (Nat.le_trans (Nat.le_trans (Nat.le_trans (Nat.le_trans (Nat.le_trans E_7.1 E_21.1) (Keep.of_wr W_41).1) E_54.1) (Keep.of_wr W_74).1) (Keep.of_wr W_93).1) E_105.1) (Keep.of_wr W_125).1) (Keep.of_wr W_144).1) (Keep.of_wr W_163).1) E_175.1) (Keep.of_wr W_195).1) (Keep.of_wr W_214).1) (Keep.of_wr W_232).1) (Keep.of_wr W_250).1) E_749.1) K_764.1) (Nat.le_of_eq g_778.symm))) all0)).trans K_804 all0)
            obtain ⟨fs, hr, hrun, hended, hRE⟩ := X_875.leaveW hS_796 (by rw [show T_875.heap = T_796.heap from e_884]; exact (Nat.le_refl _)) (v := some (.int (1 : Int32))) (fun h => by rw [Bd.returns] at h; cases h)
            refine ⟨_, _, C_885.trans (retN X_875 hx (t := .boolean) Bd.returns (by simp) (hb hby at_322) hr), hrun, hended, _, _, rfl, ?_, ?_, hRE.1, hRE.2.1, hRE.2.2.1, hRE.2.2.2.mono (by decide) (by decide)⟩
            · show Q_law Z G1 G3 p0 p1 p2 p3 h0 n0 (some (.int (1 : Int32))) T_875.heap _
              rw [e_884]
              exact ⟨rfl, N_883, K_886⟩
            · show CHr Z consts_1 s.vm s.heap T_875.vm T_875.heap
              rw [hh, show T_875.heap = T_796.heap from e_884]
              exact CR_809.trans (CHv.at X_875 hZ_796 hEL CH_808)
          · skip
            have C_887 : Steps p.tables e below S0 (T_835.setTop (mkF m 322 #[.val (.int p0), .val (.int p1), .val (.int p2), .val (.int p3), .val (.int (own_cw p0)), .val (.int (own_cw (own_us p0))), .val (.int (own_cw p1)), .val (.int (own_cw (own_us p1))), .val (.int (4 : Int32)), .val (.int (own_rm p3 ((4 : Int32) + (1 : Int32)))), .val (.ref a_10), .val (.ref a_24), .val (.ref a_57), .val (.ref a_108), .val (.ref a_178), .val (.ref a_753), .val (.ref a_802)] [(.int (1 : Int32))])) := by
              refine C_873.trans ?_
              refine XS.icmpYes X_835.here hx rfl (pc0 := 305) (pc' := 321) rfl (hb hby at_305) rfl (ii_le_t hc_874) (by decide) (by decide) ?_
              refine XS.iconst X_835.here hx rfl (hb hby at_321) ?_
              exact Steps.refl _
            have K_888 : Keep h0 T_796.heap [] := (((((K_258.ext E_749).trans K_764 (allS (Or.inr (Nat.le_trans (Nat.le_trans (Nat.le_trans (Nat.le_trans (Nat.le_trans (Nat.le_trans (Nat.le_trans (Nat.le_trans (Nat.le_trans (Nat.le_trans (Nat.le_trans (Nat.le_trans (Nat.le_trans (Nat.le_trans (Nat.le_trans E_7.1 E_21.1) (Keep.of_wr W_41).1) E_54.1) (Keep.of_wr W_74).1) (Keep.of_wr W_93).1) E_105.1) (Keep.of_wr W_125).1) (Keep.of_wr W_144).1) (Keep.of_wr W_163).1) E_175.1) (Keep.of_wr W_195).1) (Keep.of_wr W_214).1) (Keep.of_wr W_232).1) (Keep.of_wr W_250).1) (Nat.le_of_eq g_754.symm))) all0)).ext E_773).trans K_786 (allS (Or.inr (Nat.le_trans (Nat.le_trans (Nat.le_trans (Nat.le_trans (Nat.le_trans (Nat.le_trans (Nat.le_trans (Nat.le_trans (Nat.le_trans (Nat.le_trans (Nat.le_trans (Nat.le_trans (Nat.le_trans (Nat.le_trans (Nat.le_trans (Nat.le_trans (Nat.le_trans E_7.1 E_21.1) (Keep.of_wr W_41).1) E_54.1) (Keep.of_wr W_74).1) (Keep.of_wr W_93).1) E_105.1) (Keep.of_wr W_125).1) (Keep.of_wr W_144).1) (Keep.of_wr W_163).1) E_175.1) (Keep.of_wr W_195).1) (Keep.of_wr W_214).1) (Keep.of_wr W_232).1) (Keep.of_wr W_250).1) E_749.1) K_764.1) (Nat.le_of_eq g_778.symm))) all0)).trans K_804 all0)
            obtain ⟨fs, hr, hrun, hended, hRE⟩ := X_835.leaveW hS_796 (by rw [show T_835.heap = T_796.heap from e_844]; exact (Nat.le_refl _)) (v := some (.int (1 : Int32))) (fun h => by rw [Bd.returns] at h; cases h)
            refine ⟨_, _, C_887.trans (retN X_835 hx (t := .boolean) Bd.returns (by simp) (hb hby at_322) hr), hrun, hended, _, _, rfl, ?_, ?_, hRE.1, hRE.2.1, hRE.2.2.1, hRE.2.2.2.mono (by decide) (by decide)⟩
            · show Q_law Z G1 G3 p0 p1 p2 p3 h0 n0 (some (.int (1 : Int32))) T_835.heap _
              rw [e_844]
              exact ⟨rfl, N_843, K_888⟩
            · show CHr Z consts_1 s.vm s.heap T_835.vm T_835.heap
              rw [hh, show T_835.heap = T_796.heap from e_844]
              exact CR_809.trans (CHv.at X_835 hZ_796 hEL CH_808)
      · skip
        have C_889 : Steps p.tables e below S0 (T_823.setTop (mkF m 286 #[.val (.int p0), .val (.int p1), .val (.int p2), .val (.int p3), .val (.int (own_cw p0)), .val (.int (own_cw (own_us p0))), .val (.int (own_cw p1)), .val (.int (own_cw (own_us p1))), .val (.int (4 : Int32)), .val (.int (own_rm p3 ((4 : Int32) + (1 : Int32)))), .val (.ref a_10), .val (.ref a_24), .val (.ref a_57), .val (.ref a_108), .val (.ref a_178), .val (.ref a_753), .val (.ref a_802)] [(.int (2 : Int32)), (.int (own_rm p3 ((4 : Int32) + (1 : Int32))))])) := by
          refine C_833.trans ?_
          refine XS.icmpYes X_823.here hx rfl (pc0 := 267) (pc' := 283) rfl (hb hby at_267) rfl (ii_le_t hc_834) (by decide) (by decide) ?_
          refine XS.iload X_823.here hx rfl (hb hby at_283) rfl ?_
          refine XS.iconst X_823.here hx rfl (hb hby at_285) ?_
          exact Steps.refl _
        by_cases hc_890 : (2 : Int32) < (own_rm p3 ((4 : Int32) + (1 : Int32)))
        · skip
          obtain ⟨q_892, q_893, q_894, q_895, q_896⟩ := isOf (T := T_823) hZ_796 e_832 g_805
          obtain ⟨_, _, ⟨T_891, L_891, k_891, n_891⟩, -, X_891, ⟨Lc_891, hQ_891, l_891, y_891, z_891⟩, st_891⟩ := X_823.virtualBack hx (y := M319) (z := M319) hown_796 (mvT hZ_796 (w108 hw)) (mvT hZ_796 (w109 hw)) (notFace_of_selects (args := #[]) (mvT hZ_796 (w111 hw))) (mvT hZ_796 (w111 hw)) (mvT hZ_796 (w110 hw)) (by decide) (backOf (W := 0) (rm_chS l Z a0 hw [] G1 G3 HG T_796.heap n0 O_810 a_802 (own_rm p3 ((4 : Int32) + (1 : Int32))) ([(own_cw p0), (own_cw (own_us p0)), (own_cw p1), (own_cw (own_us p1))].take (own_rm p3 ((4 : Int32) + (1 : Int32))).toNatClampNeg) (2 : Int32) g_806 hm_744.1 (own_tkl (n := (4 : Int32)) rfl hm_744.1 hm_744.2.1) (own_u16take (own_u1 (own_cw_lo _) (own_cw_hi _) (own_u1 (own_cw_lo _) (own_cw_hi _) (own_u1 (own_cw_lo _) (own_cw_hi _) (own_u1 (own_cw_lo _) (own_cw_hi _) own_u0)))) _) hm_744.2.2 (by decide) hc_890) hZ_796 (w112 hw) (w5 hw) (by decide) (by decide)) q_894 q_896 (g := (mkF m 292 #[.val (.int p0), .val (.int p1), .val (.int p2), .val (.int p3), .val (.int (own_cw p0)), .val (.int (own_cw (own_us p0))), .val (.int (own_cw p1)), .val (.int (own_cw (own_us p1))), .val (.int (4 : Int32)), .val (.int (own_rm p3 ((4 : Int32) + (1 : Int32)))), .val (.ref a_10), .val (.ref a_24), .val (.ref a_57), .val (.ref a_108), .val (.ref a_178), .val (.ref a_753), .val (.ref a_802)] [(.int (2 : Int32)), (.ref a_802)])) rfl (by rw [hml]; rfl) (Steps.refl _) (argsL := [(.int (2 : Int32))]) (rest := []) (lenOf pd_760 rfl) rfl (by show 2 * 0 + _ ≤ _; exact Nat.le_of_eq rfl) (hb hby at_292) (fun _ _ => ⟨rfl, e_832, (by decide : 12 + 0 ≤ _), (by decide : 68 + 0 ≤ _)⟩)
          dsimp only [Pt.U, Pt.locs, Pt.cells, Pt.slots] at X_891 l_891 y_891 z_891 st_891 hQ_891
          have X_891 := own_cast X_891 l_891 y_891 z_891
          obtain ⟨rfl, N_897, e_898⟩ := hQ_891
          have N_899 := Fr.app N_831 N_897
          have e_900 : T_891.heap = T_796.heap := e_898
          have C_901 : Steps p.tables e below S0 (T_891.setTop (mkF m 305 #[.val (.int p0), .val (.int p1), .val (.int p2), .val (.int p3), .val (.int (own_cw p0)), .val (.int (own_cw (own_us p0))), .val (.int (own_cw p1)), .val (.int (own_cw (own_us p1))), .val (.int (4 : Int32)), .val (.int (own_rm p3 ((4 : Int32) + (1 : Int32)))), .val (.ref a_10), .val (.ref a_24), .val (.ref a_57), .val (.ref a_108), .val (.ref a_178), .val (.ref a_753), .val (.ref a_802)] [(.int (3 : Int32)), (.int (own_rm p3 ((4 : Int32) + (1 : Int32))))])) := by
            refine C_889.trans ?_
            refine XS.icmpNo X_823.here hx rfl (hb hby at_286) rfl (ii_le_f hc_890) ?_
            refine XS.aload X_823.here hx rfl (hb hby at_289) rfl rfl ?_
            refine XS.iconst X_823.here hx rfl (hb hby at_291) ?_
            refine st_891.trans ?_
            refine XS.iload X_891.here hx rfl (hb hby at_295) rfl ?_
            refine XS.icmpYes X_891.here hx rfl (pc0 := 297) (pc' := 302) rfl (hb hby at_297) rfl (ii_eq_t (own_gttake (i := (2 : Int32)) (own_nat (by decide) hc_890).1)) (by decide) (by decide) ?_
            refine XS.iload X_891.here hx rfl (hb hby at_302) rfl ?_
            refine XS.iconst X_891.here hx rfl (hb hby at_304) ?_
            show Steps p.tables e below (T_891.setTop (mkF m 305 #[.val (.int p0), .val (.int p1), .val (.int p2), .val (.int p3), .val (.int (own_cw p0)), .val (.int (own_cw (own_us p0))), .val (.int (own_cw p1)), .val (.int (own_cw (own_us p1))), .val (.int (4 : Int32)), .val (.int (own_rm p3 ((4 : Int32) + (1 : Int32)))), .val (.ref a_10), .val (.ref a_24), .val (.ref a_57), .val (.ref a_108), .val (.ref a_178), .val (.ref a_753), .val (.ref a_802)] [(.int (3 : Int32)), (.int (own_rm p3 ((4 : Int32) + (1 : Int32))))])) _
            exact Steps.refl _
          by_cases hc_902 : (3 : Int32) < (own_rm p3 ((4 : Int32) + (1 : Int32)))
          · skip
            obtain ⟨q_904, q_905, q_906, q_907, q_908⟩ := isOf (T := T_891) hZ_796 e_900 g_805
            obtain ⟨_, _, ⟨T_903, L_903, k_903, n_903⟩, -, X_903, ⟨Lc_903, hQ_903, l_903, y_903, z_903⟩, st_903⟩ := X_891.virtualBack hx (y := M319) (z := M319) hown_796 (mvT hZ_796 (w108 hw)) (mvT hZ_796 (w109 hw)) (notFace_of_selects (args := #[]) (mvT hZ_796 (w111 hw))) (mvT hZ_796 (w111 hw)) (mvT hZ_796 (w110 hw)) (by decide) (backOf (W := 0) (rm_chS l Z a0 hw [] G1 G3 HG T_796.heap n0 O_810 a_802 (own_rm p3 ((4 : Int32) + (1 : Int32))) ([(own_cw p0), (own_cw (own_us p0)), (own_cw p1), (own_cw (own_us p1))].take (own_rm p3 ((4 : Int32) + (1 : Int32))).toNatClampNeg) (3 : Int32) g_806 hm_744.1 (own_tkl (n := (4 : Int32)) rfl hm_744.1 hm_744.2.1) (own_u16take (own_u1 (own_cw_lo _) (own_cw_hi _) (own_u1 (own_cw_lo _) (own_cw_hi _) (own_u1 (own_cw_lo _) (own_cw_hi _) (own_u1 (own_cw_lo _) (own_cw_hi _) own_u0)))) _) hm_744.2.2 (by decide) hc_902) hZ_796 (w112 hw) (w5 hw) (by decide) (by decide)) q_906 q_908 (g := (mkF m 311 #[.val (.int p0), .val (.int p1), .val (.int p2), .val (.int p3), .val (.int (own_cw p0)), .val (.int (own_cw (own_us p0))), .val (.int (own_cw p1)), .val (.int (own_cw (own_us p1))), .val (.int (4 : Int32)), .val (.int (own_rm p3 ((4 : Int32) + (1 : Int32)))), .val (.ref a_10), .val (.ref a_24), .val (.ref a_57), .val (.ref a_108), .val (.ref a_178), .val (.ref a_753), .val (.ref a_802)] [(.int (3 : Int32)), (.ref a_802)])) rfl (by rw [hml]; rfl) (Steps.refl _) (argsL := [(.int (3 : Int32))]) (rest := []) (lenOf pd_760 rfl) rfl (by show 2 * 0 + _ ≤ _; exact Nat.le_of_eq rfl) (hb hby at_311) (fun _ _ => ⟨rfl, e_900, (by decide : 12 + 0 ≤ _), (by decide : 68 + 0 ≤ _)⟩)
            dsimp only [Pt.U, Pt.locs, Pt.cells, Pt.slots] at X_903 l_903 y_903 z_903 st_903 hQ_903
            have X_903 := own_cast X_903 l_903 y_903 z_903
            obtain ⟨rfl, N_909, e_910⟩ := hQ_903
            have N_911 := Fr.app N_899 N_909
            have e_912 : T_903.heap = T_796.heap := e_910
            have C_913 : Steps p.tables e below S0 (T_903.setTop (mkF m 322 #[.val (.int p0), .val (.int p1), .val (.int p2), .val (.int p3), .val (.int (own_cw p0)), .val (.int (own_cw (own_us p0))), .val (.int (own_cw p1)), .val (.int (own_cw (own_us p1))), .val (.int (4 : Int32)), .val (.int (own_rm p3 ((4 : Int32) + (1 : Int32)))), .val (.ref a_10), .val (.ref a_24), .val (.ref a_57), .val (.ref a_108), .val (.ref a_178), .val (.ref a_753), .val (.ref a_802)] [(.int (1 : Int32))])) := by
              refine C_901.trans ?_
              refine XS.icmpNo X_891.here hx rfl (hb hby at_305) rfl (ii_le_f hc_902) ?_
              refine XS.aload X_891.here hx rfl (hb hby at_308) rfl rfl ?_
              refine XS.iconst X_891.here hx rfl (hb hby at_310) ?_
              refine st_903.trans ?_
              refine XS.iload X_903.here hx rfl (hb hby at_314) rfl ?_
              refine XS.icmpYes X_903.here hx rfl (pc0 := 316) (pc' := 321) rfl (hb hby at_316) rfl (ii_eq_t (own_gttake (i := (3 : Int32)) (own_nat (by decide) hc_902).1)) (by decide) (by decide) ?_
              refine XS.iconst X_903.here hx rfl (hb hby at_321) ?_
              exact Steps.refl _
            have K_914 : Keep h0 T_796.heap [] := (((((K_258.ext E_749).trans K_764 (allS (Or.inr (Nat.le_trans (Nat.le_trans (Nat.le_trans (Nat.le_trans (Nat.le_trans (Nat.le_trans (Nat.le_trans (Nat.le_trans (Nat.le_trans (Nat.le_trans (Nat.le_trans (Nat.le_trans (Nat.le_trans (Nat.le_trans (Nat.le_trans E_7.1 E_21.1) (Keep.of_wr W_41).1) E_54.1) (Keep.of_wr W_74).1) (Keep.of_wr W_93).1) E_105.1) (Keep.of_wr W_125).1) (Keep.of_wr W_144).1) (Keep.of_wr W_163).1) E_175.1) (Keep.of_wr W_195).1) (Keep.of_wr W_214).1) (Keep.of_wr W_232).1) (Keep.of_wr W_250).1) (Nat.le_of_eq g_754.symm))) all0)).ext E_773).trans K_786 (allS (Or.inr (Nat.le_trans (Nat.le_trans (Nat.le_trans (Nat.le_trans (Nat.le_trans (Nat.le_trans (Nat.le_trans (Nat.le_trans (Nat.le_trans (Nat.le_trans (Nat.le_trans (Nat.le_trans (Nat.le_trans (Nat.le_trans (Nat.le_trans (Nat.le_trans (Nat.le_trans E_7.1 E_21.1) (Keep.of_wr W_41).1) E_54.1) (Keep.of_wr W_74).1) (Keep.of_wr W_93).1) E_105.1) (Keep.of_wr W_125).1) (Keep.of_wr W_144).1) (Keep.of_wr W_163).1) E_175.1) (Keep.of_wr W_195).1) (Keep.of_wr W_214).1) (Keep.of_wr W_232).1) (Keep.of_wr W_250).1) E_749.1) K_764.1) (Nat.le_of_eq g_778.symm))) all0)).trans K_804 all0)
            obtain ⟨fs, hr, hrun, hended, hRE⟩ := X_903.leaveW hS_796 (by rw [show T_903.heap = T_796.heap from e_912]; exact (Nat.le_refl _)) (v := some (.int (1 : Int32))) (fun h => by rw [Bd.returns] at h; cases h)
            refine ⟨_, _, C_913.trans (retN X_903 hx (t := .boolean) Bd.returns (by simp) (hb hby at_322) hr), hrun, hended, _, _, rfl, ?_, ?_, hRE.1, hRE.2.1, hRE.2.2.1, hRE.2.2.2.mono (by decide) (by decide)⟩
            · show Q_law Z G1 G3 p0 p1 p2 p3 h0 n0 (some (.int (1 : Int32))) T_903.heap _
              rw [e_912]
              exact ⟨rfl, N_911, K_914⟩
            · show CHr Z consts_1 s.vm s.heap T_903.vm T_903.heap
              rw [hh, show T_903.heap = T_796.heap from e_912]
              exact CR_809.trans (CHv.at X_903 hZ_796 hEL CH_808)
          · skip
            have C_915 : Steps p.tables e below S0 (T_891.setTop (mkF m 322 #[.val (.int p0), .val (.int p1), .val (.int p2), .val (.int p3), .val (.int (own_cw p0)), .val (.int (own_cw (own_us p0))), .val (.int (own_cw p1)), .val (.int (own_cw (own_us p1))), .val (.int (4 : Int32)), .val (.int (own_rm p3 ((4 : Int32) + (1 : Int32)))), .val (.ref a_10), .val (.ref a_24), .val (.ref a_57), .val (.ref a_108), .val (.ref a_178), .val (.ref a_753), .val (.ref a_802)] [(.int (1 : Int32))])) := by
              refine C_901.trans ?_
              refine XS.icmpYes X_891.here hx rfl (pc0 := 305) (pc' := 321) rfl (hb hby at_305) rfl (ii_le_t hc_902) (by decide) (by decide) ?_
              refine XS.iconst X_891.here hx rfl (hb hby at_321) ?_
              exact Steps.refl _
            have K_916 : Keep h0 T_796.heap [] := (((((K_258.ext E_749).trans K_764 (allS (Or.inr (Nat.le_trans (Nat.le_trans (Nat.le_trans (Nat.le_trans (Nat.le_trans (Nat.le_trans (Nat.le_trans (Nat.le_trans (Nat.le_trans (Nat.le_trans (Nat.le_trans (Nat.le_trans (Nat.le_trans (Nat.le_trans (Nat.le_trans E_7.1 E_21.1) (Keep.of_wr W_41).1) E_54.1) (Keep.of_wr W_74).1) (Keep.of_wr W_93).1) E_105.1) (Keep.of_wr W_125).1) (Keep.of_wr W_144).1) (Keep.of_wr W_163).1) E_175.1) (Keep.of_wr W_195).1) (Keep.of_wr W_214).1) (Keep.of_wr W_232).1) (Keep.of_wr W_250).1) (Nat.le_of_eq g_754.symm))) all0)).ext E_773).trans K_786 (allS (Or.inr (Nat.le_trans (Nat.le_trans (Nat.le_trans (Nat.le_trans (Nat.le_trans (Nat.le_trans (Nat.le_trans (Nat.le_trans (Nat.le_trans (Nat.le_trans (Nat.le_trans (Nat.le_trans (Nat.le_trans (Nat.le_trans (Nat.le_trans (Nat.le_trans (Nat.le_trans E_7.1 E_21.1) (Keep.of_wr W_41).1) E_54.1) (Keep.of_wr W_74).1) (Keep.of_wr W_93).1) E_105.1) (Keep.of_wr W_125).1) (Keep.of_wr W_144).1) (Keep.of_wr W_163).1) E_175.1) (Keep.of_wr W_195).1) (Keep.of_wr W_214).1) (Keep.of_wr W_232).1) (Keep.of_wr W_250).1) E_749.1) K_764.1) (Nat.le_of_eq g_778.symm))) all0)).trans K_804 all0)
            obtain ⟨fs, hr, hrun, hended, hRE⟩ := X_891.leaveW hS_796 (by rw [show T_891.heap = T_796.heap from e_900]; exact (Nat.le_refl _)) (v := some (.int (1 : Int32))) (fun h => by rw [Bd.returns] at h; cases h)
            refine ⟨_, _, C_915.trans (retN X_891 hx (t := .boolean) Bd.returns (by simp) (hb hby at_322) hr), hrun, hended, _, _, rfl, ?_, ?_, hRE.1, hRE.2.1, hRE.2.2.1, hRE.2.2.2.mono (by decide) (by decide)⟩
            · show Q_law Z G1 G3 p0 p1 p2 p3 h0 n0 (some (.int (1 : Int32))) T_891.heap _
              rw [e_900]
              exact ⟨rfl, N_899, K_916⟩
            · show CHr Z consts_1 s.vm s.heap T_891.vm T_891.heap
              rw [hh, show T_891.heap = T_796.heap from e_900]
              exact CR_809.trans (CHv.at X_891 hZ_796 hEL CH_808)
        · skip
          have C_917 : Steps p.tables e below S0 (T_823.setTop (mkF m 305 #[.val (.int p0), .val (.int p1), .val (.int p2), .val (.int p3), .val (.int (own_cw p0)), .val (.int (own_cw (own_us p0))), .val (.int (own_cw p1)), .val (.int (own_cw (own_us p1))), .val (.int (4 : Int32)), .val (.int (own_rm p3 ((4 : Int32) + (1 : Int32)))), .val (.ref a_10), .val (.ref a_24), .val (.ref a_57), .val (.ref a_108), .val (.ref a_178), .val (.ref a_753), .val (.ref a_802)] [(.int (3 : Int32)), (.int (own_rm p3 ((4 : Int32) + (1 : Int32))))])) := by
            refine C_889.trans ?_
            refine XS.icmpYes X_823.here hx rfl (pc0 := 286) (pc' := 302) rfl (hb hby at_286) rfl (ii_le_t hc_890) (by decide) (by decide) ?_
            refine XS.iload X_823.here hx rfl (hb hby at_302) rfl ?_
            refine XS.iconst X_823.here hx rfl (hb hby at_304) ?_
            exact Steps.refl _
          by_cases hc_918 : (3 : Int32) < (own_rm p3 ((4 : Int32) + (1 : Int32)))
          · skip
            obtain ⟨q_920, q_921, q_922, q_923, q_924⟩ := isOf (T := T_823) hZ_796 e_832 g_805
            obtain ⟨_, _, ⟨T_919, L_919, k_919, n_919⟩, -, X_919, ⟨Lc_919, hQ_919, l_919, y_919, z_919⟩, st_919⟩ := X_823.virtualBack hx (y := M319) (z := M319) hown_796 (mvT hZ_796 (w108 hw)) (mvT hZ_796 (w109 hw)) (notFace_of_selects (args := #[]) (mvT hZ_796 (w111 hw))) (mvT hZ_796 (w111 hw)) (mvT hZ_796 (w110 hw)) (by decide) (backOf (W := 0) (rm_chS l Z a0 hw [] G1 G3 HG T_796.heap n0 O_810 a_802 (own_rm p3 ((4 : Int32) + (1 : Int32))) ([(own_cw p0), (own_cw (own_us p0)), (own_cw p1), (own_cw (own_us p1))].take (own_rm p3 ((4 : Int32) + (1 : Int32))).toNatClampNeg) (3 : Int32) g_806 hm_744.1 (own_tkl (n := (4 : Int32)) rfl hm_744.1 hm_744.2.1) (own_u16take (own_u1 (own_cw_lo _) (own_cw_hi _) (own_u1 (own_cw_lo _) (own_cw_hi _) (own_u1 (own_cw_lo _) (own_cw_hi _) (own_u1 (own_cw_lo _) (own_cw_hi _) own_u0)))) _) hm_744.2.2 (by decide) hc_918) hZ_796 (w112 hw) (w5 hw) (by decide) (by decide)) q_922 q_924 (g := (mkF m 311 #[.val (.int p0), .val (.int p1), .val (.int p2), .val (.int p3), .val (.int (own_cw p0)), .val (.int (own_cw (own_us p0))), .val (.int (own_cw p1)), .val (.int (own_cw (own_us p1))), .val (.int (4 : Int32)), .val (.int (own_rm p3 ((4 : Int32) + (1 : Int32)))), .val (.ref a_10), .val (.ref a_24), .val (.ref a_57), .val (.ref a_108), .val (.ref a_178), .val (.ref a_753), .val (.ref a_802)] [(.int (3 : Int32)), (.ref a_802)])) rfl (by rw [hml]; rfl) (Steps.refl _) (argsL := [(.int (3 : Int32))]) (rest := []) (lenOf pd_760 rfl) rfl (by show 2 * 0 + _ ≤ _; exact Nat.le_of_eq rfl) (hb hby at_311) (fun _ _ => ⟨rfl, e_832, (by decide : 12 + 0 ≤ _), (by decide : 68 + 0 ≤ _)⟩)
            dsimp only [Pt.U, Pt.locs, Pt.cells, Pt.slots] at X_919 l_919 y_919 z_919 st_919 hQ_919
            have X_919 := own_cast X_919 l_919 y_919 z_919
            obtain ⟨rfl, N_925, e_926⟩ := hQ_919
            have N_927 := Fr.app N_831 N_925
            have e_928 : T_919.heap = T_796.heap := e_926
            have C_929 : Steps p.tables e below S0 (T_919.setTop (mkF m 322 #[.val (.int p0), .val (.int p1), .val (.int p2), .val (.int p3), .val (.int (own_cw p0)), .val (.int (own_cw (own_us p0))), .val (.int (own_cw p1)), .val (.int (own_cw (own_us p1))), .val (.int (4 : Int32)), .val (.int (own_rm p3 ((4 : Int32) + (1 : Int32)))), .val (.ref a_10), .val (.ref a_24), .val (.ref a_57), .val (.ref a_108), .val (.ref a_178), .val (.ref a_753), .val (.ref a_802)] [(.int (1 : Int32))])) := by
              refine C_917.trans ?_
              refine XS.icmpNo X_823.here hx rfl (hb hby at_305) rfl (ii_le_f hc_918) ?_
              refine XS.aload X_823.here hx rfl (hb hby at_308) rfl rfl ?_
              refine XS.iconst X_823.here hx rfl (hb hby at_310) ?_
              refine st_919.trans ?_
              refine XS.iload X_919.here hx rfl (hb hby at_314) rfl ?_
              refine XS.icmpYes X_919.here hx rfl (pc0 := 316) (pc' := 321) rfl (hb hby at_316) rfl (ii_eq_t (own_gttake (i := (3 : Int32)) (own_nat (by decide) hc_918).1)) (by decide) (by decide) ?_
              refine XS.iconst X_919.here hx rfl (hb hby at_321) ?_
              exact Steps.refl _
            have K_930 : Keep h0 T_796.heap [] := (((((K_258.ext E_749).trans K_764 (allS (Or.inr (Nat.le_trans (Nat.le_trans (Nat.le_trans (Nat.le_trans (Nat.le_trans (Nat.le_trans (Nat.le_trans (Nat.le_trans (Nat.le_trans (Nat.le_trans (Nat.le_trans (Nat.le_trans (Nat.le_trans (Nat.le_trans (Nat.le_trans E_7.1 E_21.1) (Keep.of_wr W_41).1) E_54.1) (Keep.of_wr W_74).1) (Keep.of_wr W_93).1) E_105.1) (Keep.of_wr W_125).1) (Keep.of_wr W_144).1) (Keep.of_wr W_163).1) E_175.1) (Keep.of_wr W_195).1) (Keep.of_wr W_214).1) (Keep.of_wr W_232).1) (Keep.of_wr W_250).1) (Nat.le_of_eq g_754.symm))) all0)).ext E_773).trans K_786 (allS (Or.inr (Nat.le_trans (Nat.le_trans (Nat.le_trans (Nat.le_trans (Nat.le_trans (Nat.le_trans (Nat.le_trans (Nat.le_trans (Nat.le_trans (Nat.le_trans (Nat.le_trans (Nat.le_trans (Nat.le_trans (Nat.le_trans (Nat.le_trans (Nat.le_trans (Nat.le_trans E_7.1 E_21.1) (Keep.of_wr W_41).1) E_54.1) (Keep.of_wr W_74).1) (Keep.of_wr W_93).1) E_105.1) (Keep.of_wr W_125).1) (Keep.of_wr W_144).1) (Keep.of_wr W_163).1) E_175.1) (Keep.of_wr W_195).1) (Keep.of_wr W_214).1) (Keep.of_wr W_232).1) (Keep.of_wr W_250).1) E_749.1) K_764.1) (Nat.le_of_eq g_778.symm))) all0)).trans K_804 all0)
            obtain ⟨fs, hr, hrun, hended, hRE⟩ := X_919.leaveW hS_796 (by rw [show T_919.heap = T_796.heap from e_928]; exact (Nat.le_refl _)) (v := some (.int (1 : Int32))) (fun h => by rw [Bd.returns] at h; cases h)
            refine ⟨_, _, C_929.trans (retN X_919 hx (t := .boolean) Bd.returns (by simp) (hb hby at_322) hr), hrun, hended, _, _, rfl, ?_, ?_, hRE.1, hRE.2.1, hRE.2.2.1, hRE.2.2.2.mono (by decide) (by decide)⟩
            · show Q_law Z G1 G3 p0 p1 p2 p3 h0 n0 (some (.int (1 : Int32))) T_919.heap _
              rw [e_928]
              exact ⟨rfl, N_927, K_930⟩
            · show CHr Z consts_1 s.vm s.heap T_919.vm T_919.heap
              rw [hh, show T_919.heap = T_796.heap from e_928]
              exact CR_809.trans (CHv.at X_919 hZ_796 hEL CH_808)
          · skip
            have C_931 : Steps p.tables e below S0 (T_823.setTop (mkF m 322 #[.val (.int p0), .val (.int p1), .val (.int p2), .val (.int p3), .val (.int (own_cw p0)), .val (.int (own_cw (own_us p0))), .val (.int (own_cw p1)), .val (.int (own_cw (own_us p1))), .val (.int (4 : Int32)), .val (.int (own_rm p3 ((4 : Int32) + (1 : Int32)))), .val (.ref a_10), .val (.ref a_24), .val (.ref a_57), .val (.ref a_108), .val (.ref a_178), .val (.ref a_753), .val (.ref a_802)] [(.int (1 : Int32))])) := by
              refine C_917.trans ?_
              refine XS.icmpYes X_823.here hx rfl (pc0 := 305) (pc' := 321) rfl (hb hby at_305) rfl (ii_le_t hc_918) (by decide) (by decide) ?_
              refine XS.iconst X_823.here hx rfl (hb hby at_321) ?_
              exact Steps.refl _
            have K_932 : Keep h0 T_796.heap [] := (((((K_258.ext E_749).trans K_764 (allS (Or.inr (Nat.le_trans (Nat.le_trans (Nat.le_trans (Nat.le_trans (Nat.le_trans (Nat.le_trans (Nat.le_trans (Nat.le_trans (Nat.le_trans (Nat.le_trans (Nat.le_trans (Nat.le_trans (Nat.le_trans (Nat.le_trans (Nat.le_trans E_7.1 E_21.1) (Keep.of_wr W_41).1) E_54.1) (Keep.of_wr W_74).1) (Keep.of_wr W_93).1) E_105.1) (Keep.of_wr W_125).1) (Keep.of_wr W_144).1) (Keep.of_wr W_163).1) E_175.1) (Keep.of_wr W_195).1) (Keep.of_wr W_214).1) (Keep.of_wr W_232).1) (Keep.of_wr W_250).1) (Nat.le_of_eq g_754.symm))) all0)).ext E_773).trans K_786 (allS (Or.inr (Nat.le_trans (Nat.le_trans (Nat.le_trans (Nat.le_trans (Nat.le_trans (Nat.le_trans (Nat.le_trans (Nat.le_trans (Nat.le_trans (Nat.le_trans (Nat.le_trans (Nat.le_trans (Nat.le_trans (Nat.le_trans (Nat.le_trans (Nat.le_trans (Nat.le_trans E_7.1 E_21.1) (Keep.of_wr W_41).1) E_54.1) (Keep.of_wr W_74).1) (Keep.of_wr W_93).1) E_105.1) (Keep.of_wr W_125).1) (Keep.of_wr W_144).1) (Keep.of_wr W_163).1) E_175.1) (Keep.of_wr W_195).1) (Keep.of_wr W_214).1) (Keep.of_wr W_232).1) (Keep.of_wr W_250).1) E_749.1) K_764.1) (Nat.le_of_eq g_778.symm))) all0)).trans K_804 all0)
            obtain ⟨fs, hr, hrun, hended, hRE⟩ := X_823.leaveW hS_796 (by rw [show T_823.heap = T_796.heap from e_832]; exact (Nat.le_refl _)) (v := some (.int (1 : Int32))) (fun h => by rw [Bd.returns] at h; cases h)
            refine ⟨_, _, C_931.trans (retN X_823 hx (t := .boolean) Bd.returns (by simp) (hb hby at_322) hr), hrun, hended, _, _, rfl, ?_, ?_, hRE.1, hRE.2.1, hRE.2.2.1, hRE.2.2.2.mono (by decide) (by decide)⟩
            · show Q_law Z G1 G3 p0 p1 p2 p3 h0 n0 (some (.int (1 : Int32))) T_823.heap _
              rw [e_832]
              exact ⟨rfl, N_831, K_932⟩
            · show CHr Z consts_1 s.vm s.heap T_823.vm T_823.heap
              rw [hh, show T_823.heap = T_796.heap from e_832]
              exact CR_809.trans (CHv.at X_823 hZ_796 hEL CH_808)
    · skip
      have C_933 : Steps p.tables e below S0 (T_811.setTop (mkF m 267 #[.val (.int p0), .val (.int p1), .val (.int p2), .val (.int p3), .val (.int (own_cw p0)), .val (.int (own_cw (own_us p0))), .val (.int (own_cw p1)), .val (.int (own_cw (own_us p1))), .val (.int (4 : Int32)), .val (.int (own_rm p3 ((4 : Int32) + (1 : Int32)))), .val (.ref a_10), .val (.ref a_24), .val (.ref a_57), .val (.ref a_108), .val (.ref a_178), .val (.ref a_753), .val (.ref a_802)] [(.int (1 : Int32)), (.int (own_rm p3 ((4 : Int32) + (1 : Int32))))])) := by
        refine C_821.trans ?_
        refine XS.ifYes X_811.here hx rfl (pc0 := 248) (pc' := 264) rfl (hb hby at_248) rfl (i0_le_t hc_822) (by decide) (by decide) ?_
        refine XS.iload X_811.here hx rfl (hb hby at_264) rfl ?_
        refine XS.iconst X_811.here hx rfl (hb hby at_266) ?_
        exact Steps.refl _
      by_cases hc_934 : (1 : Int32) < (own_rm p3 ((4 : Int32) + (1 : Int32)))
      · skip
        obtain ⟨q_936, q_937, q_938, q_939, q_940⟩ := isOf (T := T_811) hZ_796 e_820 g_805
        obtain ⟨_, _, ⟨T_935, L_935, k_935, n_935⟩, -, X_935, ⟨Lc_935, hQ_935, l_935, y_935, z_935⟩, st_935⟩ := X_811.virtualBack hx (y := M319) (z := M319) hown_796 (mvT hZ_796 (w108 hw)) (mvT hZ_796 (w109 hw)) (notFace_of_selects (args := #[]) (mvT hZ_796 (w111 hw))) (mvT hZ_796 (w111 hw)) (mvT hZ_796 (w110 hw)) (by decide) (backOf (W := 0) (rm_chS l Z a0 hw [] G1 G3 HG T_796.heap n0 O_810 a_802 (own_rm p3 ((4 : Int32) + (1 : Int32))) ([(own_cw p0), (own_cw (own_us p0)), (own_cw p1), (own_cw (own_us p1))].take (own_rm p3 ((4 : Int32) + (1 : Int32))).toNatClampNeg) (1 : Int32) g_806 hm_744.1 (own_tkl (n := (4 : Int32)) rfl hm_744.1 hm_744.2.1) (own_u16take (own_u1 (own_cw_lo _) (own_cw_hi _) (own_u1 (own_cw_lo _) (own_cw_hi _) (own_u1 (own_cw_lo _) (own_cw_hi _) (own_u1 (own_cw_lo _) (own_cw_hi _) own_u0)))) _) hm_744.2.2 (by decide) hc_934) hZ_796 (w112 hw) (w5 hw) (by decide) (by decide)) q_938 q_940 (g := (mkF m 273 #[.val (.int p0), .val (.int p1), .val (.int p2), .val (.int p3), .val (.int (own_cw p0)), .val (.int (own_cw (own_us p0))), .val (.int (own_cw p1)), .val (.int (own_cw (own_us p1))), .val (.int (4 : Int32)), .val (.int (own_rm p3 ((4 : Int32) + (1 : Int32)))), .val (.ref a_10), .val (.ref a_24), .val (.ref a_57), .val (.ref a_108), .val (.ref a_178), .val (.ref a_753), .val (.ref a_802)] [(.int (1 : Int32)), (.ref a_802)])) rfl (by rw [hml]; rfl) (Steps.refl _) (argsL := [(.int (1 : Int32))]) (rest := []) (lenOf pd_760 rfl) rfl (by show 2 * 0 + _ ≤ _; exact Nat.le_of_eq rfl) (hb hby at_273) (fun _ _ => ⟨rfl, e_820, (by decide : 12 + 0 ≤ _), (by decide : 68 + 0 ≤ _)⟩)
        dsimp only [Pt.U, Pt.locs, Pt.cells, Pt.slots] at X_935 l_935 y_935 z_935 st_935 hQ_935
        have X_935 := own_cast X_935 l_935 y_935 z_935
        obtain ⟨rfl, N_941, e_942⟩ := hQ_935
        have N_943 := Fr.app N_819 N_941
        have e_944 : T_935.heap = T_796.heap := e_942
        have C_945 : Steps p.tables e below S0 (T_935.setTop (mkF m 286 #[.val (.int p0), .val (.int p1), .val (.int p2), .val (.int p3), .val (.int (own_cw p0)), .val (.int (own_cw (own_us p0))), .val (.int (own_cw p1)), .val (.int (own_cw (own_us p1))), .val (.int (4 : Int32)), .val (.int (own_rm p3 ((4 : Int32) + (1 : Int32)))), .val (.ref a_10), .val (.ref a_24), .val (.ref a_57), .val (.ref a_108), .val (.ref a_178), .val (.ref a_753), .val (.ref a_802)] [(.int (2 : Int32)), (.int (own_rm p3 ((4 : Int32) + (1 : Int32))))])) := by
          refine C_933.trans ?_
          refine XS.icmpNo X_811.here hx rfl (hb hby at_267) rfl (ii_le_f hc_934) ?_
          refine XS.aload X_811.here hx rfl (hb hby at_270) rfl rfl ?_
          refine XS.iconst X_811.here hx rfl (hb hby at_272) ?_
          refine st_935.trans ?_
          refine XS.iload X_935.here hx rfl (hb hby at_276) rfl ?_
          refine XS.icmpYes X_935.here hx rfl (pc0 := 278) (pc' := 283) rfl (hb hby at_278) rfl (ii_eq_t (own_gttake (i := (1 : Int32)) (own_nat (by decide) hc_934).1)) (by decide) (by decide) ?_
          refine XS.iload X_935.here hx rfl (hb hby at_283) rfl ?_
          refine XS.iconst X_935.here hx rfl (hb hby at_285) ?_
          show Steps p.tables e below (T_935.setTop (mkF m 286 #[.val (.int p0), .val (.int p1), .val (.int p2), .val (.int p3), .val (.int (own_cw p0)), .val (.int (own_cw (own_us p0))), .val (.int (own_cw p1)), .val (.int (own_cw (own_us p1))), .val (.int (4 : Int32)), .val (.int (own_rm p3 ((4 : Int32) + (1 : Int32)))), .val (.ref a_10), .val (.ref a_24), .val (.ref a_57), .val (.ref a_108), .val (.ref a_178), .val (.ref a_753), .val (.ref a_802)] [(.int (2 : Int32)), (.int (own_rm p3 ((4 : Int32) + (1 : Int32))))])) _
          exact Steps.refl _
        by_cases hc_946 : (2 : Int32) < (own_rm p3 ((4 : Int32) + (1 : Int32)))
        · skip
          obtain ⟨q_948, q_949, q_950, q_951, q_952⟩ := isOf (T := T_935) hZ_796 e_944 g_805
          obtain ⟨_, _, ⟨T_947, L_947, k_947, n_947⟩, -, X_947, ⟨Lc_947, hQ_947, l_947, y_947, z_947⟩, st_947⟩ := X_935.virtualBack hx (y := M319) (z := M319) hown_796 (mvT hZ_796 (w108 hw)) (mvT hZ_796 (w109 hw)) (notFace_of_selects (args := #[]) (mvT hZ_796 (w111 hw))) (mvT hZ_796 (w111 hw)) (mvT hZ_796 (w110 hw)) (by decide) (backOf (W := 0) (rm_chS l Z a0 hw [] G1 G3 HG T_796.heap n0 O_810 a_802 (own_rm p3 ((4 : Int32) + (1 : Int32))) ([(own_cw p0), (own_cw (own_us p0)), (own_cw p1), (own_cw (own_us p1))].take (own_rm p3 ((4 : Int32) + (1 : Int32))).toNatClampNeg) (2 : Int32) g_806 hm_744.1 (own_tkl (n := (4 : Int32)) rfl hm_744.1 hm_744.2.1) (own_u16take (own_u1 (own_cw_lo _) (own_cw_hi _) (own_u1 (own_cw_lo _) (own_cw_hi _) (own_u1 (own_cw_lo _) (own_cw_hi _) (own_u1 (own_cw_lo _) (own_cw_hi _) own_u0)))) _) hm_744.2.2 (by decide) hc_946) hZ_796 (w112 hw) (w5 hw) (by decide) (by decide)) q_950 q_952 (g := (mkF m 292 #[.val (.int p0), .val (.int p1), .val (.int p2), .val (.int p3), .val (.int (own_cw p0)), .val (.int (own_cw (own_us p0))), .val (.int (own_cw p1)), .val (.int (own_cw (own_us p1))), .val (.int (4 : Int32)), .val (.int (own_rm p3 ((4 : Int32) + (1 : Int32)))), .val (.ref a_10), .val (.ref a_24), .val (.ref a_57), .val (.ref a_108), .val (.ref a_178), .val (.ref a_753), .val (.ref a_802)] [(.int (2 : Int32)), (.ref a_802)])) rfl (by rw [hml]; rfl) (Steps.refl _) (argsL := [(.int (2 : Int32))]) (rest := []) (lenOf pd_760 rfl) rfl (by show 2 * 0 + _ ≤ _; exact Nat.le_of_eq rfl) (hb hby at_292) (fun _ _ => ⟨rfl, e_944, (by decide : 12 + 0 ≤ _), (by decide : 68 + 0 ≤ _)⟩)
          dsimp only [Pt.U, Pt.locs, Pt.cells, Pt.slots] at X_947 l_947 y_947 z_947 st_947 hQ_947
          have X_947 := own_cast X_947 l_947 y_947 z_947
          obtain ⟨rfl, N_953, e_954⟩ := hQ_947
          have N_955 := Fr.app N_943 N_953
          have e_956 : T_947.heap = T_796.heap := e_954
          have C_957 : Steps p.tables e below S0 (T_947.setTop (mkF m 305 #[.val (.int p0), .val (.int p1), .val (.int p2), .val (.int p3), .val (.int (own_cw p0)), .val (.int (own_cw (own_us p0))), .val (.int (own_cw p1)), .val (.int (own_cw (own_us p1))), .val (.int (4 : Int32)), .val (.int (own_rm p3 ((4 : Int32) + (1 : Int32)))), .val (.ref a_10), .val (.ref a_24), .val (.ref a_57), .val (.ref a_108), .val (.ref a_178), .val (.ref a_753), .val (.ref a_802)] [(.int (3 : Int32)), (.int (own_rm p3 ((4 : Int32) + (1 : Int32))))])) := by
            refine C_945.trans ?_
            refine XS.icmpNo X_935.here hx rfl (hb hby at_286) rfl (ii_le_f hc_946) ?_
            refine XS.aload X_935.here hx rfl (hb hby at_289) rfl rfl ?_
            refine XS.iconst X_935.here hx rfl (hb hby at_291) ?_
            refine st_947.trans ?_
            refine XS.iload X_947.here hx rfl (hb hby at_295) rfl ?_
            refine XS.icmpYes X_947.here hx rfl (pc0 := 297) (pc' := 302) rfl (hb hby at_297) rfl (ii_eq_t (own_gttake (i := (2 : Int32)) (own_nat (by decide) hc_946).1)) (by decide) (by decide) ?_
            refine XS.iload X_947.here hx rfl (hb hby at_302) rfl ?_
            refine XS.iconst X_947.here hx rfl (hb hby at_304) ?_
            show Steps p.tables e below (T_947.setTop (mkF m 305 #[.val (.int p0), .val (.int p1), .val (.int p2), .val (.int p3), .val (.int (own_cw p0)), .val (.int (own_cw (own_us p0))), .val (.int (own_cw p1)), .val (.int (own_cw (own_us p1))), .val (.int (4 : Int32)), .val (.int (own_rm p3 ((4 : Int32) + (1 : Int32)))), .val (.ref a_10), .val (.ref a_24), .val (.ref a_57), .val (.ref a_108), .val (.ref a_178), .val (.ref a_753), .val (.ref a_802)] [(.int (3 : Int32)), (.int (own_rm p3 ((4 : Int32) + (1 : Int32))))])) _
            exact Steps.refl _
          by_cases hc_958 : (3 : Int32) < (own_rm p3 ((4 : Int32) + (1 : Int32)))
          · skip
            obtain ⟨q_960, q_961, q_962, q_963, q_964⟩ := isOf (T := T_947) hZ_796 e_956 g_805
            obtain ⟨_, _, ⟨T_959, L_959, k_959, n_959⟩, -, X_959, ⟨Lc_959, hQ_959, l_959, y_959, z_959⟩, st_959⟩ := X_947.virtualBack hx (y := M319) (z := M319) hown_796 (mvT hZ_796 (w108 hw)) (mvT hZ_796 (w109 hw)) (notFace_of_selects (args := #[]) (mvT hZ_796 (w111 hw))) (mvT hZ_796 (w111 hw)) (mvT hZ_796 (w110 hw)) (by decide) (backOf (W := 0) (rm_chS l Z a0 hw [] G1 G3 HG T_796.heap n0 O_810 a_802 (own_rm p3 ((4 : Int32) + (1 : Int32))) ([(own_cw p0), (own_cw (own_us p0)), (own_cw p1), (own_cw (own_us p1))].take (own_rm p3 ((4 : Int32) + (1 : Int32))).toNatClampNeg) (3 : Int32) g_806 hm_744.1 (own_tkl (n := (4 : Int32)) rfl hm_744.1 hm_744.2.1) (own_u16take (own_u1 (own_cw_lo _) (own_cw_hi _) (own_u1 (own_cw_lo _) (own_cw_hi _) (own_u1 (own_cw_lo _) (own_cw_hi _) (own_u1 (own_cw_lo _) (own_cw_hi _) own_u0)))) _) hm_744.2.2 (by decide) hc_958) hZ_796 (w112 hw) (w5 hw) (by decide) (by decide)) q_962 q_964 (g := (mkF m 311 #[.val (.int p0), .val (.int p1), .val (.int p2), .val (.int p3), .val (.int (own_cw p0)), .val (.int (own_cw (own_us p0))), .val (.int (own_cw p1)), .val (.int (own_cw (own_us p1))), .val (.int (4 : Int32)), .val (.int (own_rm p3 ((4 : Int32) + (1 : Int32)))), .val (.ref a_10), .val (.ref a_24), .val (.ref a_57), .val (.ref a_108), .val (.ref a_178), .val (.ref a_753), .val (.ref a_802)] [(.int (3 : Int32)), (.ref a_802)])) rfl (by rw [hml]; rfl) (Steps.refl _) (argsL := [(.int (3 : Int32))]) (rest := []) (lenOf pd_760 rfl) rfl (by show 2 * 0 + _ ≤ _; exact Nat.le_of_eq rfl) (hb hby at_311) (fun _ _ => ⟨rfl, e_956, (by decide : 12 + 0 ≤ _), (by decide : 68 + 0 ≤ _)⟩)
            dsimp only [Pt.U, Pt.locs, Pt.cells, Pt.slots] at X_959 l_959 y_959 z_959 st_959 hQ_959
            have X_959 := own_cast X_959 l_959 y_959 z_959
            obtain ⟨rfl, N_965, e_966⟩ := hQ_959
            have N_967 := Fr.app N_955 N_965
            have e_968 : T_959.heap = T_796.heap := e_966
            have C_969 : Steps p.tables e below S0 (T_959.setTop (mkF m 322 #[.val (.int p0), .val (.int p1), .val (.int p2), .val (.int p3), .val (.int (own_cw p0)), .val (.int (own_cw (own_us p0))), .val (.int (own_cw p1)), .val (.int (own_cw (own_us p1))), .val (.int (4 : Int32)), .val (.int (own_rm p3 ((4 : Int32) + (1 : Int32)))), .val (.ref a_10), .val (.ref a_24), .val (.ref a_57), .val (.ref a_108), .val (.ref a_178), .val (.ref a_753), .val (.ref a_802)] [(.int (1 : Int32))])) := by
              refine C_957.trans ?_
              refine XS.icmpNo X_947.here hx rfl (hb hby at_305) rfl (ii_le_f hc_958) ?_
              refine XS.aload X_947.here hx rfl (hb hby at_308) rfl rfl ?_
              refine XS.iconst X_947.here hx rfl (hb hby at_310) ?_
              refine st_959.trans ?_
              refine XS.iload X_959.here hx rfl (hb hby at_314) rfl ?_
              refine XS.icmpYes X_959.here hx rfl (pc0 := 316) (pc' := 321) rfl (hb hby at_316) rfl (ii_eq_t (own_gttake (i := (3 : Int32)) (own_nat (by decide) hc_958).1)) (by decide) (by decide) ?_
              refine XS.iconst X_959.here hx rfl (hb hby at_321) ?_
              exact Steps.refl _
            have K_970 : Keep h0 T_796.heap [] := (((((K_258.ext E_749).trans K_764 (allS (Or.inr (Nat.le_trans (Nat.le_trans (Nat.le_trans (Nat.le_trans (Nat.le_trans (Nat.le_trans (Nat.le_trans (Nat.le_trans (Nat.le_trans (Nat.le_trans (Nat.le_trans (Nat.le_trans (Nat.le_trans (Nat.le_trans (Nat.le_trans E_7.1 E_21.1) (Keep.of_wr W_41).1) E_54.1) (Keep.of_wr W_74).1) (Keep.of_wr W_93).1) E_105.1) (Keep.of_wr W_125).1) (Keep.of_wr W_144).1) (Keep.of_wr W_163).1) E_175.1) (Keep.of_wr W_195).1) (Keep.of_wr W_214).1) (Keep.of_wr W_232).1) (Keep.of_wr W_250).1) (Nat.le_of_eq g_754.symm))) all0)).ext E_773).trans K_786 (allS (Or.inr (Nat.le_trans (Nat.le_trans (Nat.le_trans (Nat.le_trans (Nat.le_trans (Nat.le_trans (Nat.le_trans (Nat.le_trans (Nat.le_trans (Nat.le_trans (Nat.le_trans (Nat.le_trans (Nat.le_trans (Nat.le_trans (Nat.le_trans (Nat.le_trans (Nat.le_trans E_7.1 E_21.1) (Keep.of_wr W_41).1) E_54.1) (Keep.of_wr W_74).1) (Keep.of_wr W_93).1) E_105.1) (Keep.of_wr W_125).1) (Keep.of_wr W_144).1) (Keep.of_wr W_163).1) E_175.1) (Keep.of_wr W_195).1) (Keep.of_wr W_214).1) (Keep.of_wr W_232).1) (Keep.of_wr W_250).1) E_749.1) K_764.1) (Nat.le_of_eq g_778.symm))) all0)).trans K_804 all0)
            obtain ⟨fs, hr, hrun, hended, hRE⟩ := X_959.leaveW hS_796 (by rw [show T_959.heap = T_796.heap from e_968]; exact (Nat.le_refl _)) (v := some (.int (1 : Int32))) (fun h => by rw [Bd.returns] at h; cases h)
            refine ⟨_, _, C_969.trans (retN X_959 hx (t := .boolean) Bd.returns (by simp) (hb hby at_322) hr), hrun, hended, _, _, rfl, ?_, ?_, hRE.1, hRE.2.1, hRE.2.2.1, hRE.2.2.2.mono (by decide) (by decide)⟩
            · show Q_law Z G1 G3 p0 p1 p2 p3 h0 n0 (some (.int (1 : Int32))) T_959.heap _
              rw [e_968]
              exact ⟨rfl, N_967, K_970⟩
            · show CHr Z consts_1 s.vm s.heap T_959.vm T_959.heap
              rw [hh, show T_959.heap = T_796.heap from e_968]
              exact CR_809.trans (CHv.at X_959 hZ_796 hEL CH_808)
          · skip
            have C_971 : Steps p.tables e below S0 (T_947.setTop (mkF m 322 #[.val (.int p0), .val (.int p1), .val (.int p2), .val (.int p3), .val (.int (own_cw p0)), .val (.int (own_cw (own_us p0))), .val (.int (own_cw p1)), .val (.int (own_cw (own_us p1))), .val (.int (4 : Int32)), .val (.int (own_rm p3 ((4 : Int32) + (1 : Int32)))), .val (.ref a_10), .val (.ref a_24), .val (.ref a_57), .val (.ref a_108), .val (.ref a_178), .val (.ref a_753), .val (.ref a_802)] [(.int (1 : Int32))])) := by
              refine C_957.trans ?_
              refine XS.icmpYes X_947.here hx rfl (pc0 := 305) (pc' := 321) rfl (hb hby at_305) rfl (ii_le_t hc_958) (by decide) (by decide) ?_
              refine XS.iconst X_947.here hx rfl (hb hby at_321) ?_
              exact Steps.refl _
            have K_972 : Keep h0 T_796.heap [] := (((((K_258.ext E_749).trans K_764 (allS (Or.inr (Nat.le_trans (Nat.le_trans (Nat.le_trans (Nat.le_trans (Nat.le_trans (Nat.le_trans (Nat.le_trans (Nat.le_trans (Nat.le_trans (Nat.le_trans (Nat.le_trans (Nat.le_trans (Nat.le_trans (Nat.le_trans (Nat.le_trans E_7.1 E_21.1) (Keep.of_wr W_41).1) E_54.1) (Keep.of_wr W_74).1) (Keep.of_wr W_93).1) E_105.1) (Keep.of_wr W_125).1) (Keep.of_wr W_144).1) (Keep.of_wr W_163).1) E_175.1) (Keep.of_wr W_195).1) (Keep.of_wr W_214).1) (Keep.of_wr W_232).1) (Keep.of_wr W_250).1) (Nat.le_of_eq g_754.symm))) all0)).ext E_773).trans K_786 (allS (Or.inr (Nat.le_trans (Nat.le_trans (Nat.le_trans (Nat.le_trans (Nat.le_trans (Nat.le_trans (Nat.le_trans (Nat.le_trans (Nat.le_trans (Nat.le_trans (Nat.le_trans (Nat.le_trans (Nat.le_trans (Nat.le_trans (Nat.le_trans (Nat.le_trans (Nat.le_trans E_7.1 E_21.1) (Keep.of_wr W_41).1) E_54.1) (Keep.of_wr W_74).1) (Keep.of_wr W_93).1) E_105.1) (Keep.of_wr W_125).1) (Keep.of_wr W_144).1) (Keep.of_wr W_163).1) E_175.1) (Keep.of_wr W_195).1) (Keep.of_wr W_214).1) (Keep.of_wr W_232).1) (Keep.of_wr W_250).1) E_749.1) K_764.1) (Nat.le_of_eq g_778.symm))) all0)).trans K_804 all0)
            obtain ⟨fs, hr, hrun, hended, hRE⟩ := X_947.leaveW hS_796 (by rw [show T_947.heap = T_796.heap from e_956]; exact (Nat.le_refl _)) (v := some (.int (1 : Int32))) (fun h => by rw [Bd.returns] at h; cases h)
            refine ⟨_, _, C_971.trans (retN X_947 hx (t := .boolean) Bd.returns (by simp) (hb hby at_322) hr), hrun, hended, _, _, rfl, ?_, ?_, hRE.1, hRE.2.1, hRE.2.2.1, hRE.2.2.2.mono (by decide) (by decide)⟩
            · show Q_law Z G1 G3 p0 p1 p2 p3 h0 n0 (some (.int (1 : Int32))) T_947.heap _
              rw [e_956]
              exact ⟨rfl, N_955, K_972⟩
            · show CHr Z consts_1 s.vm s.heap T_947.vm T_947.heap
              rw [hh, show T_947.heap = T_796.heap from e_956]
              exact CR_809.trans (CHv.at X_947 hZ_796 hEL CH_808)
        · skip
          have C_973 : Steps p.tables e below S0 (T_935.setTop (mkF m 305 #[.val (.int p0), .val (.int p1), .val (.int p2), .val (.int p3), .val (.int (own_cw p0)), .val (.int (own_cw (own_us p0))), .val (.int (own_cw p1)), .val (.int (own_cw (own_us p1))), .val (.int (4 : Int32)), .val (.int (own_rm p3 ((4 : Int32) + (1 : Int32)))), .val (.ref a_10), .val (.ref a_24), .val (.ref a_57), .val (.ref a_108), .val (.ref a_178), .val (.ref a_753), .val (.ref a_802)] [(.int (3 : Int32)), (.int (own_rm p3 ((4 : Int32) + (1 : Int32))))])) := by
            refine C_945.trans ?_
            refine XS.icmpYes X_935.here hx rfl (pc0 := 286) (pc' := 302) rfl (hb hby at_286) rfl (ii_le_t hc_946) (by decide) (by decide) ?_
            refine XS.iload X_935.here hx rfl (hb hby at_302) rfl ?_
            refine XS.iconst X_935.here hx rfl (hb hby at_304) ?_
            exact Steps.refl _
          by_cases hc_974 : (3 : Int32) < (own_rm p3 ((4 : Int32) + (1 : Int32)))
          · skip
            obtain ⟨q_976, q_977, q_978, q_979, q_980⟩ := isOf (T := T_935) hZ_796 e_944 g_805
            obtain ⟨_, _, ⟨T_975, L_975, k_975, n_975⟩, -, X_975, ⟨Lc_975, hQ_975, l_975, y_975, z_975⟩, st_975⟩ := X_935.virtualBack hx (y := M319) (z := M319) hown_796 (mvT hZ_796 (w108 hw)) (mvT hZ_796 (w109 hw)) (notFace_of_selects (args := #[]) (mvT hZ_796 (w111 hw))) (mvT hZ_796 (w111 hw)) (mvT hZ_796 (w110 hw)) (by decide) (backOf (W := 0) (rm_chS l Z a0 hw [] G1 G3 HG T_796.heap n0 O_810 a_802 (own_rm p3 ((4 : Int32) + (1 : Int32))) ([(own_cw p0), (own_cw (own_us p0)), (own_cw p1), (own_cw (own_us p1))].take (own_rm p3 ((4 : Int32) + (1 : Int32))).toNatClampNeg) (3 : Int32) g_806 hm_744.1 (own_tkl (n := (4 : Int32)) rfl hm_744.1 hm_744.2.1) (own_u16take (own_u1 (own_cw_lo _) (own_cw_hi _) (own_u1 (own_cw_lo _) (own_cw_hi _) (own_u1 (own_cw_lo _) (own_cw_hi _) (own_u1 (own_cw_lo _) (own_cw_hi _) own_u0)))) _) hm_744.2.2 (by decide) hc_974) hZ_796 (w112 hw) (w5 hw) (by decide) (by decide)) q_978 q_980 (g := (mkF m 311 #[.val (.int p0), .val (.int p1), .val (.int p2), .val (.int p3), .val (.int (own_cw p0)), .val (.int (own_cw (own_us p0))), .val (.int (own_cw p1)), .val (.int (own_cw (own_us p1))), .val (.int (4 : Int32)), .val (.int (own_rm p3 ((4 : Int32) + (1 : Int32)))), .val (.ref a_10), .val (.ref a_24), .val (.ref a_57), .val (.ref a_108), .val (.ref a_178), .val (.ref a_753), .val (.ref a_802)] [(.int (3 : Int32)), (.ref a_802)])) rfl (by rw [hml]; rfl) (Steps.refl _) (argsL := [(.int (3 : Int32))]) (rest := []) (lenOf pd_760 rfl) rfl (by show 2 * 0 + _ ≤ _; exact Nat.le_of_eq rfl) (hb hby at_311) (fun _ _ => ⟨rfl, e_944, (by decide : 12 + 0 ≤ _), (by decide : 68 + 0 ≤ _)⟩)
            dsimp only [Pt.U, Pt.locs, Pt.cells, Pt.slots] at X_975 l_975 y_975 z_975 st_975 hQ_975
            have X_975 := own_cast X_975 l_975 y_975 z_975
            obtain ⟨rfl, N_981, e_982⟩ := hQ_975
            have N_983 := Fr.app N_943 N_981
            have e_984 : T_975.heap = T_796.heap := e_982
            have C_985 : Steps p.tables e below S0 (T_975.setTop (mkF m 322 #[.val (.int p0), .val (.int p1), .val (.int p2), .val (.int p3), .val (.int (own_cw p0)), .val (.int (own_cw (own_us p0))), .val (.int (own_cw p1)), .val (.int (own_cw (own_us p1))), .val (.int (4 : Int32)), .val (.int (own_rm p3 ((4 : Int32) + (1 : Int32)))), .val (.ref a_10), .val (.ref a_24), .val (.ref a_57), .val (.ref a_108), .val (.ref a_178), .val (.ref a_753), .val (.ref a_802)] [(.int (1 : Int32))])) := by
              refine C_973.trans ?_
              refine XS.icmpNo X_935.here hx rfl (hb hby at_305) rfl (ii_le_f hc_974) ?_
              refine XS.aload X_935.here hx rfl (hb hby at_308) rfl rfl ?_
              refine XS.iconst X_935.here hx rfl (hb hby at_310) ?_
              refine st_975.trans ?_
              refine XS.iload X_975.here hx rfl (hb hby at_314) rfl ?_
              refine XS.icmpYes X_975.here hx rfl (pc0 := 316) (pc' := 321) rfl (hb hby at_316) rfl (ii_eq_t (own_gttake (i := (3 : Int32)) (own_nat (by decide) hc_974).1)) (by decide) (by decide) ?_
              refine XS.iconst X_975.here hx rfl (hb hby at_321) ?_
              exact Steps.refl _
            have K_986 : Keep h0 T_796.heap [] := (((((K_258.ext E_749).trans K_764 (allS (Or.inr (Nat.le_trans (Nat.le_trans (Nat.le_trans (Nat.le_trans (Nat.le_trans (Nat.le_trans (Nat.le_trans (Nat.le_trans (Nat.le_trans (Nat.le_trans (Nat.le_trans (Nat.le_trans (Nat.le_trans (Nat.le_trans (Nat.le_trans E_7.1 E_21.1) (Keep.of_wr W_41).1) E_54.1) (Keep.of_wr W_74).1) (Keep.of_wr W_93).1) E_105.1) (Keep.of_wr W_125).1) (Keep.of_wr W_144).1) (Keep.of_wr W_163).1) E_175.1) (Keep.of_wr W_195).1) (Keep.of_wr W_214).1) (Keep.of_wr W_232).1) (Keep.of_wr W_250).1) (Nat.le_of_eq g_754.symm))) all0)).ext E_773).trans K_786 (allS (Or.inr (Nat.le_trans (Nat.le_trans (Nat.le_trans (Nat.le_trans (Nat.le_trans (Nat.le_trans (Nat.le_trans (Nat.le_trans (Nat.le_trans (Nat.le_trans (Nat.le_trans (Nat.le_trans (Nat.le_trans (Nat.le_trans (Nat.le_trans (Nat.le_trans (Nat.le_trans E_7.1 E_21.1) (Keep.of_wr W_41).1) E_54.1) (Keep.of_wr W_74).1) (Keep.of_wr W_93).1) E_105.1) (Keep.of_wr W_125).1) (Keep.of_wr W_144).1) (Keep.of_wr W_163).1) E_175.1) (Keep.of_wr W_195).1) (Keep.of_wr W_214).1) (Keep.of_wr W_232).1) (Keep.of_wr W_250).1) E_749.1) K_764.1) (Nat.le_of_eq g_778.symm))) all0)).trans K_804 all0)
            obtain ⟨fs, hr, hrun, hended, hRE⟩ := X_975.leaveW hS_796 (by rw [show T_975.heap = T_796.heap from e_984]; exact (Nat.le_refl _)) (v := some (.int (1 : Int32))) (fun h => by rw [Bd.returns] at h; cases h)
            refine ⟨_, _, C_985.trans (retN X_975 hx (t := .boolean) Bd.returns (by simp) (hb hby at_322) hr), hrun, hended, _, _, rfl, ?_, ?_, hRE.1, hRE.2.1, hRE.2.2.1, hRE.2.2.2.mono (by decide) (by decide)⟩
            · show Q_law Z G1 G3 p0 p1 p2 p3 h0 n0 (some (.int (1 : Int32))) T_975.heap _
              rw [e_984]
              exact ⟨rfl, N_983, K_986⟩
            · show CHr Z consts_1 s.vm s.heap T_975.vm T_975.heap
              rw [hh, show T_975.heap = T_796.heap from e_984]
              exact CR_809.trans (CHv.at X_975 hZ_796 hEL CH_808)
          · skip
            have C_987 : Steps p.tables e below S0 (T_935.setTop (mkF m 322 #[.val (.int p0), .val (.int p1), .val (.int p2), .val (.int p3), .val (.int (own_cw p0)), .val (.int (own_cw (own_us p0))), .val (.int (own_cw p1)), .val (.int (own_cw (own_us p1))), .val (.int (4 : Int32)), .val (.int (own_rm p3 ((4 : Int32) + (1 : Int32)))), .val (.ref a_10), .val (.ref a_24), .val (.ref a_57), .val (.ref a_108), .val (.ref a_178), .val (.ref a_753), .val (.ref a_802)] [(.int (1 : Int32))])) := by
              refine C_973.trans ?_
              refine XS.icmpYes X_935.here hx rfl (pc0 := 305) (pc' := 321) rfl (hb hby at_305) rfl (ii_le_t hc_974) (by decide) (by decide) ?_
              refine XS.iconst X_935.here hx rfl (hb hby at_321) ?_
              exact Steps.refl _
            have K_988 : Keep h0 T_796.heap [] := (((((K_258.ext E_749).trans K_764 (allS (Or.inr (Nat.le_trans (Nat.le_trans (Nat.le_trans (Nat.le_trans (Nat.le_trans (Nat.le_trans (Nat.le_trans (Nat.le_trans (Nat.le_trans (Nat.le_trans (Nat.le_trans (Nat.le_trans (Nat.le_trans (Nat.le_trans (Nat.le_trans E_7.1 E_21.1) (Keep.of_wr W_41).1) E_54.1) (Keep.of_wr W_74).1) (Keep.of_wr W_93).1) E_105.1) (Keep.of_wr W_125).1) (Keep.of_wr W_144).1) (Keep.of_wr W_163).1) E_175.1) (Keep.of_wr W_195).1) (Keep.of_wr W_214).1) (Keep.of_wr W_232).1) (Keep.of_wr W_250).1) (Nat.le_of_eq g_754.symm))) all0)).ext E_773).trans K_786 (allS (Or.inr (Nat.le_trans (Nat.le_trans (Nat.le_trans (Nat.le_trans (Nat.le_trans (Nat.le_trans (Nat.le_trans (Nat.le_trans (Nat.le_trans (Nat.le_trans (Nat.le_trans (Nat.le_trans (Nat.le_trans (Nat.le_trans (Nat.le_trans (Nat.le_trans (Nat.le_trans E_7.1 E_21.1) (Keep.of_wr W_41).1) E_54.1) (Keep.of_wr W_74).1) (Keep.of_wr W_93).1) E_105.1) (Keep.of_wr W_125).1) (Keep.of_wr W_144).1) (Keep.of_wr W_163).1) E_175.1) (Keep.of_wr W_195).1) (Keep.of_wr W_214).1) (Keep.of_wr W_232).1) (Keep.of_wr W_250).1) E_749.1) K_764.1) (Nat.le_of_eq g_778.symm))) all0)).trans K_804 all0)
            obtain ⟨fs, hr, hrun, hended, hRE⟩ := X_935.leaveW hS_796 (by rw [show T_935.heap = T_796.heap from e_944]; exact (Nat.le_refl _)) (v := some (.int (1 : Int32))) (fun h => by rw [Bd.returns] at h; cases h)
            refine ⟨_, _, C_987.trans (retN X_935 hx (t := .boolean) Bd.returns (by simp) (hb hby at_322) hr), hrun, hended, _, _, rfl, ?_, ?_, hRE.1, hRE.2.1, hRE.2.2.1, hRE.2.2.2.mono (by decide) (by decide)⟩
            · show Q_law Z G1 G3 p0 p1 p2 p3 h0 n0 (some (.int (1 : Int32))) T_935.heap _
              rw [e_944]
              exact ⟨rfl, N_943, K_988⟩
            · show CHr Z consts_1 s.vm s.heap T_935.vm T_935.heap
              rw [hh, show T_935.heap = T_796.heap from e_944]
              exact CR_809.trans (CHv.at X_935 hZ_796 hEL CH_808)
      · skip
        have C_989 : Steps p.tables e below S0 (T_811.setTop (mkF m 286 #[.val (.int p0), .val (.int p1), .val (.int p2), .val (.int p3), .val (.int (own_cw p0)), .val (.int (own_cw (own_us p0))), .val (.int (own_cw p1)), .val (.int (own_cw (own_us p1))), .val (.int (4 : Int32)), .val (.int (own_rm p3 ((4 : Int32) + (1 : Int32)))), .val (.ref a_10), .val (.ref a_24), .val (.ref a_57), .val (.ref a_108), .val (.ref a_178), .val (.ref a_753), .val (.ref a_802)] [(.int (2 : Int32)), (.int (own_rm p3 ((4 : Int32) + (1 : Int32))))])) := by
          refine C_933.trans ?_
          refine XS.icmpYes X_811.here hx rfl (pc0 := 267) (pc' := 283) rfl (hb hby at_267) rfl (ii_le_t hc_934) (by decide) (by decide) ?_
          refine XS.iload X_811.here hx rfl (hb hby at_283) rfl ?_
          refine XS.iconst X_811.here hx rfl (hb hby at_285) ?_
          exact Steps.refl _
        by_cases hc_990 : (2 : Int32) < (own_rm p3 ((4 : Int32) + (1 : Int32)))
        · skip
          obtain ⟨q_992, q_993, q_994, q_995, q_996⟩ := isOf (T := T_811) hZ_796 e_820 g_805
          obtain ⟨_, _, ⟨T_991, L_991, k_991, n_991⟩, -, X_991, ⟨Lc_991, hQ_991, l_991, y_991, z_991⟩, st_991⟩ := X_811.virtualBack hx (y := M319) (z := M319) hown_796 (mvT hZ_796 (w108 hw)) (mvT hZ_796 (w109 hw)) (notFace_of_selects (args := #[]) (mvT hZ_796 (w111 hw))) (mvT hZ_796 (w111 hw)) (mvT hZ_796 (w110 hw)) (by decide) (backOf (W := 0) (rm_chS l Z a0 hw [] G1 G3 HG T_796.heap n0 O_810 a_802 (own_rm p3 ((4 : Int32) + (1 : Int32))) ([(own_cw p0), (own_cw (own_us p0)), (own_cw p1), (own_cw (own_us p1))].take (own_rm p3 ((4 : Int32) + (1 : Int32))).toNatClampNeg) (2 : Int32) g_806 hm_744.1 (own_tkl (n := (4 : Int32)) rfl hm_744.1 hm_744.2.1) (own_u16take (own_u1 (own_cw_lo _) (own_cw_hi _) (own_u1 (own_cw_lo _) (own_cw_hi _) (own_u1 (own_cw_lo _) (own_cw_hi _) (own_u1 (own_cw_lo _) (own_cw_hi _) own_u0)))) _) hm_744.2.2 (by decide) hc_990) hZ_796 (w112 hw) (w5 hw) (by decide) (by decide)) q_994 q_996 (g := (mkF m 292 #[.val (.int p0), .val (.int p1), .val (.int p2), .val (.int p3), .val (.int (own_cw p0)), .val (.int (own_cw (own_us p0))), .val (.int (own_cw p1)), .val (.int (own_cw (own_us p1))), .val (.int (4 : Int32)), .val (.int (own_rm p3 ((4 : Int32) + (1 : Int32)))), .val (.ref a_10), .val (.ref a_24), .val (.ref a_57), .val (.ref a_108), .val (.ref a_178), .val (.ref a_753), .val (.ref a_802)] [(.int (2 : Int32)), (.ref a_802)])) rfl (by rw [hml]; rfl) (Steps.refl _) (argsL := [(.int (2 : Int32))]) (rest := []) (lenOf pd_760 rfl) rfl (by show 2 * 0 + _ ≤ _; exact Nat.le_of_eq rfl) (hb hby at_292) (fun _ _ => ⟨rfl, e_820, (by decide : 12 + 0 ≤ _), (by decide : 68 + 0 ≤ _)⟩)
          dsimp only [Pt.U, Pt.locs, Pt.cells, Pt.slots] at X_991 l_991 y_991 z_991 st_991 hQ_991
          have X_991 := own_cast X_991 l_991 y_991 z_991
          obtain ⟨rfl, N_997, e_998⟩ := hQ_991
          have N_999 := Fr.app N_819 N_997
          have e_1000 : T_991.heap = T_796.heap := e_998
          have C_1001 : Steps p.tables e below S0 (T_991.setTop (mkF m 305 #[.val (.int p0), .val (.int p1), .val (.int p2), .val (.int p3), .val (.int (own_cw p0)), .val (.int (own_cw (own_us p0))), .val (.int (own_cw p1)), .val (.int (own_cw (own_us p1))), .val (.int (4 : Int32)), .val (.int (own_rm p3 ((4 : Int32) + (1 : Int32)))), .val (.ref a_10), .val (.ref a_24), .val (.ref a_57), .val (.ref a_108), .val (.ref a_178), .val (.ref a_753), .val (.ref a_802)] [(.int (3 : Int32)), (.int (own_rm p3 ((4 : Int32) + (1 : Int32))))])) := by
            refine C_989.trans ?_
            refine XS.icmpNo X_811.here hx rfl (hb hby at_286) rfl (ii_le_f hc_990) ?_
            refine XS.aload X_811.here hx rfl (hb hby at_289) rfl rfl ?_
            refine XS.iconst X_811.here hx rfl (hb hby at_291) ?_
            refine st_991.trans ?_
            refine XS.iload X_991.here hx rfl (hb hby at_295) rfl ?_
            refine XS.icmpYes X_991.here hx rfl (pc0 := 297) (pc' := 302) rfl (hb hby at_297) rfl (ii_eq_t (own_gttake (i := (2 : Int32)) (own_nat (by decide) hc_990).1)) (by decide) (by decide) ?_
            refine XS.iload X_991.here hx rfl (hb hby at_302) rfl ?_
            refine XS.iconst X_991.here hx rfl (hb hby at_304) ?_
            show Steps p.tables e below (T_991.setTop (mkF m 305 #[.val (.int p0), .val (.int p1), .val (.int p2), .val (.int p3), .val (.int (own_cw p0)), .val (.int (own_cw (own_us p0))), .val (.int (own_cw p1)), .val (.int (own_cw (own_us p1))), .val (.int (4 : Int32)), .val (.int (own_rm p3 ((4 : Int32) + (1 : Int32)))), .val (.ref a_10), .val (.ref a_24), .val (.ref a_57), .val (.ref a_108), .val (.ref a_178), .val (.ref a_753), .val (.ref a_802)] [(.int (3 : Int32)), (.int (own_rm p3 ((4 : Int32) + (1 : Int32))))])) _
            exact Steps.refl _
          by_cases hc_1002 : (3 : Int32) < (own_rm p3 ((4 : Int32) + (1 : Int32)))
          · skip
            obtain ⟨q_1004, q_1005, q_1006, q_1007, q_1008⟩ := isOf (T := T_991) hZ_796 e_1000 g_805
            obtain ⟨_, _, ⟨T_1003, L_1003, k_1003, n_1003⟩, -, X_1003, ⟨Lc_1003, hQ_1003, l_1003, y_1003, z_1003⟩, st_1003⟩ := X_991.virtualBack hx (y := M319) (z := M319) hown_796 (mvT hZ_796 (w108 hw)) (mvT hZ_796 (w109 hw)) (notFace_of_selects (args := #[]) (mvT hZ_796 (w111 hw))) (mvT hZ_796 (w111 hw)) (mvT hZ_796 (w110 hw)) (by decide) (backOf (W := 0) (rm_chS l Z a0 hw [] G1 G3 HG T_796.heap n0 O_810 a_802 (own_rm p3 ((4 : Int32) + (1 : Int32))) ([(own_cw p0), (own_cw (own_us p0)), (own_cw p1), (own_cw (own_us p1))].take (own_rm p3 ((4 : Int32) + (1 : Int32))).toNatClampNeg) (3 : Int32) g_806 hm_744.1 (own_tkl (n := (4 : Int32)) rfl hm_744.1 hm_744.2.1) (own_u16take (own_u1 (own_cw_lo _) (own_cw_hi _) (own_u1 (own_cw_lo _) (own_cw_hi _) (own_u1 (own_cw_lo _) (own_cw_hi _) (own_u1 (own_cw_lo _) (own_cw_hi _) own_u0)))) _) hm_744.2.2 (by decide) hc_1002) hZ_796 (w112 hw) (w5 hw) (by decide) (by decide)) q_1006 q_1008 (g := (mkF m 311 #[.val (.int p0), .val (.int p1), .val (.int p2), .val (.int p3), .val (.int (own_cw p0)), .val (.int (own_cw (own_us p0))), .val (.int (own_cw p1)), .val (.int (own_cw (own_us p1))), .val (.int (4 : Int32)), .val (.int (own_rm p3 ((4 : Int32) + (1 : Int32)))), .val (.ref a_10), .val (.ref a_24), .val (.ref a_57), .val (.ref a_108), .val (.ref a_178), .val (.ref a_753), .val (.ref a_802)] [(.int (3 : Int32)), (.ref a_802)])) rfl (by rw [hml]; rfl) (Steps.refl _) (argsL := [(.int (3 : Int32))]) (rest := []) (lenOf pd_760 rfl) rfl (by show 2 * 0 + _ ≤ _; exact Nat.le_of_eq rfl) (hb hby at_311) (fun _ _ => ⟨rfl, e_1000, (by decide : 12 + 0 ≤ _), (by decide : 68 + 0 ≤ _)⟩)
            dsimp only [Pt.U, Pt.locs, Pt.cells, Pt.slots] at X_1003 l_1003 y_1003 z_1003 st_1003 hQ_1003
            have X_1003 := own_cast X_1003 l_1003 y_1003 z_1003
            obtain ⟨rfl, N_1009, e_1010⟩ := hQ_1003
            have N_1011 := Fr.app N_999 N_1009
            have e_1012 : T_1003.heap = T_796.heap := e_1010
            have C_1013 : Steps p.tables e below S0 (T_1003.setTop (mkF m 322 #[.val (.int p0), .val (.int p1), .val (.int p2), .val (.int p3), .val (.int (own_cw p0)), .val (.int (own_cw (own_us p0))), .val (.int (own_cw p1)), .val (.int (own_cw (own_us p1))), .val (.int (4 : Int32)), .val (.int (own_rm p3 ((4 : Int32) + (1 : Int32)))), .val (.ref a_10), .val (.ref a_24), .val (.ref a_57), .val (.ref a_108), .val (.ref a_178), .val (.ref a_753), .val (.ref a_802)] [(.int (1 : Int32))])) := by
              refine C_1001.trans ?_
              refine XS.icmpNo X_991.here hx rfl (hb hby at_305) rfl (ii_le_f hc_1002) ?_
              refine XS.aload X_991.here hx rfl (hb hby at_308) rfl rfl ?_
              refine XS.iconst X_991.here hx rfl (hb hby at_310) ?_
              refine st_1003.trans ?_
              refine XS.iload X_1003.here hx rfl (hb hby at_314) rfl ?_
              refine XS.icmpYes X_1003.here hx rfl (pc0 := 316) (pc' := 321) rfl (hb hby at_316) rfl (ii_eq_t (own_gttake (i := (3 : Int32)) (own_nat (by decide) hc_1002).1)) (by decide) (by decide) ?_
              refine XS.iconst X_1003.here hx rfl (hb hby at_321) ?_
              exact Steps.refl _
            have K_1014 : Keep h0 T_796.heap [] := (((((K_258.ext E_749).trans K_764 (allS (Or.inr (Nat.le_trans (Nat.le_trans (Nat.le_trans (Nat.le_trans (Nat.le_trans (Nat.le_trans (Nat.le_trans (Nat.le_trans (Nat.le_trans (Nat.le_trans (Nat.le_trans (Nat.le_trans (Nat.le_trans (Nat.le_trans (Nat.le_trans E_7.1 E_21.1) (Keep.of_wr W_41).1) E_54.1) (Keep.of_wr W_74).1) (Keep.of_wr W_93).1) E_105.1) (Keep.of_wr W_125).1) (Keep.of_wr W_144).1) (Keep.of_wr W_163).1) E_175.1) (Keep.of_wr W_195).1) (Keep.of_wr W_214).1) (Keep.of_wr W_232).1) (Keep.of_wr W_250).1) (Nat.le_of_eq g_754.symm))) all0)).ext E_773).trans K_786 (allS (Or.inr (Nat.le_trans (Nat.le_trans (Nat.le_trans (Nat.le_trans (Nat.le_trans (Nat.le_trans (Nat.le_trans (Nat.le_trans (Nat.le_trans (Nat.le_trans (Nat.le_trans (Nat.le_trans (Nat.le_trans (Nat.le_trans (Nat.le_trans (Nat.le_trans (Nat.le_trans E_7.1 E_21.1) (Keep.of_wr W_41).1) E_54.1) (Keep.of_wr W_74).1) (Keep.of_wr W_93).1) E_105.1) (Keep.of_wr W_125).1) (Keep.of_wr W_144).1) (Keep.of_wr W_163).1) E_175.1) (Keep.of_wr W_195).1) (Keep.of_wr W_214).1) (Keep.of_wr W_232).1) (Keep.of_wr W_250).1) E_749.1) K_764.1) (Nat.le_of_eq g_778.symm))) all0)).trans K_804 all0)
            obtain ⟨fs, hr, hrun, hended, hRE⟩ := X_1003.leaveW hS_796 (by rw [show T_1003.heap = T_796.heap from e_1012]; exact (Nat.le_refl _)) (v := some (.int (1 : Int32))) (fun h => by rw [Bd.returns] at h; cases h)
            refine ⟨_, _, C_1013.trans (retN X_1003 hx (t := .boolean) Bd.returns (by simp) (hb hby at_322) hr), hrun, hended, _, _, rfl, ?_, ?_, hRE.1, hRE.2.1, hRE.2.2.1, hRE.2.2.2.mono (by decide) (by decide)⟩
            · show Q_law Z G1 G3 p0 p1 p2 p3 h0 n0 (some (.int (1 : Int32))) T_1003.heap _
              rw [e_1012]
              exact ⟨rfl, N_1011, K_1014⟩
            · show CHr Z consts_1 s.vm s.heap T_1003.vm T_1003.heap
              rw [hh, show T_1003.heap = T_796.heap from e_1012]
              exact CR_809.trans (CHv.at X_1003 hZ_796 hEL CH_808)
          · skip
            have C_1015 : Steps p.tables e below S0 (T_991.setTop (mkF m 322 #[.val (.int p0), .val (.int p1), .val (.int p2), .val (.int p3), .val (.int (own_cw p0)), .val (.int (own_cw (own_us p0))), .val (.int (own_cw p1)), .val (.int (own_cw (own_us p1))), .val (.int (4 : Int32)), .val (.int (own_rm p3 ((4 : Int32) + (1 : Int32)))), .val (.ref a_10), .val (.ref a_24), .val (.ref a_57), .val (.ref a_108), .val (.ref a_178), .val (.ref a_753), .val (.ref a_802)] [(.int (1 : Int32))])) := by
              refine C_1001.trans ?_
              refine XS.icmpYes X_991.here hx rfl (pc0 := 305) (pc' := 321) rfl (hb hby at_305) rfl (ii_le_t hc_1002) (by decide) (by decide) ?_
              refine XS.iconst X_991.here hx rfl (hb hby at_321) ?_
              exact Steps.refl _
            have K_1016 : Keep h0 T_796.heap [] := (((((K_258.ext E_749).trans K_764 (allS (Or.inr (Nat.le_trans (Nat.le_trans (Nat.le_trans (Nat.le_trans (Nat.le_trans (Nat.le_trans (Nat.le_trans (Nat.le_trans (Nat.le_trans (Nat.le_trans (Nat.le_trans (Nat.le_trans (Nat.le_trans (Nat.le_trans (Nat.le_trans E_7.1 E_21.1) (Keep.of_wr W_41).1) E_54.1) (Keep.of_wr W_74).1) (Keep.of_wr W_93).1) E_105.1) (Keep.of_wr W_125).1) (Keep.of_wr W_144).1) (Keep.of_wr W_163).1) E_175.1) (Keep.of_wr W_195).1) (Keep.of_wr W_214).1) (Keep.of_wr W_232).1) (Keep.of_wr W_250).1) (Nat.le_of_eq g_754.symm))) all0)).ext E_773).trans K_786 (allS (Or.inr (Nat.le_trans (Nat.le_trans (Nat.le_trans (Nat.le_trans (Nat.le_trans (Nat.le_trans (Nat.le_trans (Nat.le_trans (Nat.le_trans (Nat.le_trans (Nat.le_trans (Nat.le_trans (Nat.le_trans (Nat.le_trans (Nat.le_trans (Nat.le_trans (Nat.le_trans E_7.1 E_21.1) (Keep.of_wr W_41).1) E_54.1) (Keep.of_wr W_74).1) (Keep.of_wr W_93).1) E_105.1) (Keep.of_wr W_125).1) (Keep.of_wr W_144).1) (Keep.of_wr W_163).1) E_175.1) (Keep.of_wr W_195).1) (Keep.of_wr W_214).1) (Keep.of_wr W_232).1) (Keep.of_wr W_250).1) E_749.1) K_764.1) (Nat.le_of_eq g_778.symm))) all0)).trans K_804 all0)
            obtain ⟨fs, hr, hrun, hended, hRE⟩ := X_991.leaveW hS_796 (by rw [show T_991.heap = T_796.heap from e_1000]; exact (Nat.le_refl _)) (v := some (.int (1 : Int32))) (fun h => by rw [Bd.returns] at h; cases h)
            refine ⟨_, _, C_1015.trans (retN X_991 hx (t := .boolean) Bd.returns (by simp) (hb hby at_322) hr), hrun, hended, _, _, rfl, ?_, ?_, hRE.1, hRE.2.1, hRE.2.2.1, hRE.2.2.2.mono (by decide) (by decide)⟩
            · show Q_law Z G1 G3 p0 p1 p2 p3 h0 n0 (some (.int (1 : Int32))) T_991.heap _
              rw [e_1000]
              exact ⟨rfl, N_999, K_1016⟩
            · show CHr Z consts_1 s.vm s.heap T_991.vm T_991.heap
              rw [hh, show T_991.heap = T_796.heap from e_1000]
              exact CR_809.trans (CHv.at X_991 hZ_796 hEL CH_808)
        · skip
          have C_1017 : Steps p.tables e below S0 (T_811.setTop (mkF m 305 #[.val (.int p0), .val (.int p1), .val (.int p2), .val (.int p3), .val (.int (own_cw p0)), .val (.int (own_cw (own_us p0))), .val (.int (own_cw p1)), .val (.int (own_cw (own_us p1))), .val (.int (4 : Int32)), .val (.int (own_rm p3 ((4 : Int32) + (1 : Int32)))), .val (.ref a_10), .val (.ref a_24), .val (.ref a_57), .val (.ref a_108), .val (.ref a_178), .val (.ref a_753), .val (.ref a_802)] [(.int (3 : Int32)), (.int (own_rm p3 ((4 : Int32) + (1 : Int32))))])) := by
            refine C_989.trans ?_
            refine XS.icmpYes X_811.here hx rfl (pc0 := 286) (pc' := 302) rfl (hb hby at_286) rfl (ii_le_t hc_990) (by decide) (by decide) ?_
            refine XS.iload X_811.here hx rfl (hb hby at_302) rfl ?_
            refine XS.iconst X_811.here hx rfl (hb hby at_304) ?_
            exact Steps.refl _
          by_cases hc_1018 : (3 : Int32) < (own_rm p3 ((4 : Int32) + (1 : Int32)))
          · skip
            obtain ⟨q_1020, q_1021, q_1022, q_1023, q_1024⟩ := isOf (T := T_811) hZ_796 e_820 g_805
            obtain ⟨_, _, ⟨T_1019, L_1019, k_1019, n_1019⟩, -, X_1019, ⟨Lc_1019, hQ_1019, l_1019, y_1019, z_1019⟩, st_1019⟩ := X_811.virtualBack hx (y := M319) (z := M319) hown_796 (mvT hZ_796 (w108 hw)) (mvT hZ_796 (w109 hw)) (notFace_of_selects (args := #[]) (mvT hZ_796 (w111 hw))) (mvT hZ_796 (w111 hw)) (mvT hZ_796 (w110 hw)) (by decide) (backOf (W := 0) (rm_chS l Z a0 hw [] G1 G3 HG T_796.heap n0 O_810 a_802 (own_rm p3 ((4 : Int32) + (1 : Int32))) ([(own_cw p0), (own_cw (own_us p0)), (own_cw p1), (own_cw (own_us p1))].take (own_rm p3 ((4 : Int32) + (1 : Int32))).toNatClampNeg) (3 : Int32) g_806 hm_744.1 (own_tkl (n := (4 : Int32)) rfl hm_744.1 hm_744.2.1) (own_u16take (own_u1 (own_cw_lo _) (own_cw_hi _) (own_u1 (own_cw_lo _) (own_cw_hi _) (own_u1 (own_cw_lo _) (own_cw_hi _) (own_u1 (own_cw_lo _) (own_cw_hi _) own_u0)))) _) hm_744.2.2 (by decide) hc_1018) hZ_796 (w112 hw) (w5 hw) (by decide) (by decide)) q_1022 q_1024 (g := (mkF m 311 #[.val (.int p0), .val (.int p1), .val (.int p2), .val (.int p3), .val (.int (own_cw p0)), .val (.int (own_cw (own_us p0))), .val (.int (own_cw p1)), .val (.int (own_cw (own_us p1))), .val (.int (4 : Int32)), .val (.int (own_rm p3 ((4 : Int32) + (1 : Int32)))), .val (.ref a_10), .val (.ref a_24), .val (.ref a_57), .val (.ref a_108), .val (.ref a_178), .val (.ref a_753), .val (.ref a_802)] [(.int (3 : Int32)), (.ref a_802)])) rfl (by rw [hml]; rfl) (Steps.refl _) (argsL := [(.int (3 : Int32))]) (rest := []) (lenOf pd_760 rfl) rfl (by show 2 * 0 + _ ≤ _; exact Nat.le_of_eq rfl) (hb hby at_311) (fun _ _ => ⟨rfl, e_820, (by decide : 12 + 0 ≤ _), (by decide : 68 + 0 ≤ _)⟩)
            dsimp only [Pt.U, Pt.locs, Pt.cells, Pt.slots] at X_1019 l_1019 y_1019 z_1019 st_1019 hQ_1019
            have X_1019 := own_cast X_1019 l_1019 y_1019 z_1019
            obtain ⟨rfl, N_1025, e_1026⟩ := hQ_1019
            have N_1027 := Fr.app N_819 N_1025
            have e_1028 : T_1019.heap = T_796.heap := e_1026
            have C_1029 : Steps p.tables e below S0 (T_1019.setTop (mkF m 322 #[.val (.int p0), .val (.int p1), .val (.int p2), .val (.int p3), .val (.int (own_cw p0)), .val (.int (own_cw (own_us p0))), .val (.int (own_cw p1)), .val (.int (own_cw (own_us p1))), .val (.int (4 : Int32)), .val (.int (own_rm p3 ((4 : Int32) + (1 : Int32)))), .val (.ref a_10), .val (.ref a_24), .val (.ref a_57), .val (.ref a_108), .val (.ref a_178), .val (.ref a_753), .val (.ref a_802)] [(.int (1 : Int32))])) := by
              refine C_1017.trans ?_
              refine XS.icmpNo X_811.here hx rfl (hb hby at_305) rfl (ii_le_f hc_1018) ?_
              refine XS.aload X_811.here hx rfl (hb hby at_308) rfl rfl ?_
              refine XS.iconst X_811.here hx rfl (hb hby at_310) ?_
              refine st_1019.trans ?_
              refine XS.iload X_1019.here hx rfl (hb hby at_314) rfl ?_
              refine XS.icmpYes X_1019.here hx rfl (pc0 := 316) (pc' := 321) rfl (hb hby at_316) rfl (ii_eq_t (own_gttake (i := (3 : Int32)) (own_nat (by decide) hc_1018).1)) (by decide) (by decide) ?_
              refine XS.iconst X_1019.here hx rfl (hb hby at_321) ?_
              exact Steps.refl _
            have K_1030 : Keep h0 T_796.heap [] := (((((K_258.ext E_749).trans K_764 (allS (Or.inr (Nat.le_trans (Nat.le_trans (Nat.le_trans (Nat.le_trans (Nat.le_trans (Nat.le_trans (Nat.le_trans (Nat.le_trans (Nat.le_trans (Nat.le_trans (Nat.le_trans (Nat.le_trans (Nat.le_trans (Nat.le_trans (Nat.le_trans E_7.1 E_21.1) (Keep.of_wr W_41).1) E_54.1) (Keep.of_wr W_74).1) (Keep.of_wr W_93).1) E_105.1) (Keep.of_wr W_125).1) (Keep.of_wr W_144).1) (Keep.of_wr W_163).1) E_175.1) (Keep.of_wr W_195).1) (Keep.of_wr W_214).1) (Keep.of_wr W_232).1) (Keep.of_wr W_250).1) (Nat.le_of_eq g_754.symm))) all0)).ext E_773).trans K_786 (allS (Or.inr (Nat.le_trans (Nat.le_trans (Nat.le_trans (Nat.le_trans (Nat.le_trans (Nat.le_trans (Nat.le_trans (Nat.le_trans (Nat.le_trans (Nat.le_trans (Nat.le_trans (Nat.le_trans (Nat.le_trans (Nat.le_trans (Nat.le_trans (Nat.le_trans (Nat.le_trans E_7.1 E_21.1) (Keep.of_wr W_41).1) E_54.1) (Keep.of_wr W_74).1) (Keep.of_wr W_93).1) E_105.1) (Keep.of_wr W_125).1) (Keep.of_wr W_144).1) (Keep.of_wr W_163).1) E_175.1) (Keep.of_wr W_195).1) (Keep.of_wr W_214).1) (Keep.of_wr W_232).1) (Keep.of_wr W_250).1) E_749.1) K_764.1) (Nat.le_of_eq g_778.symm))) all0)).trans K_804 all0)
            obtain ⟨fs, hr, hrun, hended, hRE⟩ := X_1019.leaveW hS_796 (by rw [show T_1019.heap = T_796.heap from e_1028]; exact (Nat.le_refl _)) (v := some (.int (1 : Int32))) (fun h => by rw [Bd.returns] at h; cases h)
            refine ⟨_, _, C_1029.trans (retN X_1019 hx (t := .boolean) Bd.returns (by simp) (hb hby at_322) hr), hrun, hended, _, _, rfl, ?_, ?_, hRE.1, hRE.2.1, hRE.2.2.1, hRE.2.2.2.mono (by decide) (by decide)⟩
            · show Q_law Z G1 G3 p0 p1 p2 p3 h0 n0 (some (.int (1 : Int32))) T_1019.heap _
              rw [e_1028]
              exact ⟨rfl, N_1027, K_1030⟩
            · show CHr Z consts_1 s.vm s.heap T_1019.vm T_1019.heap
              rw [hh, show T_1019.heap = T_796.heap from e_1028]
              exact CR_809.trans (CHv.at X_1019 hZ_796 hEL CH_808)
          · skip
            have C_1031 : Steps p.tables e below S0 (T_811.setTop (mkF m 322 #[.val (.int p0), .val (.int p1), .val (.int p2), .val (.int p3), .val (.int (own_cw p0)), .val (.int (own_cw (own_us p0))), .val (.int (own_cw p1)), .val (.int (own_cw (own_us p1))), .val (.int (4 : Int32)), .val (.int (own_rm p3 ((4 : Int32) + (1 : Int32)))), .val (.ref a_10), .val (.ref a_24), .val (.ref a_57), .val (.ref a_108), .val (.ref a_178), .val (.ref a_753), .val (.ref a_802)] [(.int (1 : Int32))])) := by
              refine C_1017.trans ?_
              refine XS.icmpYes X_811.here hx rfl (pc0 := 305) (pc' := 321) rfl (hb hby at_305) rfl (ii_le_t hc_1018) (by decide) (by decide) ?_
              refine XS.iconst X_811.here hx rfl (hb hby at_321) ?_
              exact Steps.refl _
            have K_1032 : Keep h0 T_796.heap [] := (((((K_258.ext E_749).trans K_764 (allS (Or.inr (Nat.le_trans (Nat.le_trans (Nat.le_trans (Nat.le_trans (Nat.le_trans (Nat.le_trans (Nat.le_trans (Nat.le_trans (Nat.le_trans (Nat.le_trans (Nat.le_trans (Nat.le_trans (Nat.le_trans (Nat.le_trans (Nat.le_trans E_7.1 E_21.1) (Keep.of_wr W_41).1) E_54.1) (Keep.of_wr W_74).1) (Keep.of_wr W_93).1) E_105.1) (Keep.of_wr W_125).1) (Keep.of_wr W_144).1) (Keep.of_wr W_163).1) E_175.1) (Keep.of_wr W_195).1) (Keep.of_wr W_214).1) (Keep.of_wr W_232).1) (Keep.of_wr W_250).1) (Nat.le_of_eq g_754.symm))) all0)).ext E_773).trans K_786 (allS (Or.inr (Nat.le_trans (Nat.le_trans (Nat.le_trans (Nat.le_trans (Nat.le_trans (Nat.le_trans (Nat.le_trans (Nat.le_trans (Nat.le_trans (Nat.le_trans (Nat.le_trans (Nat.le_trans (Nat.le_trans (Nat.le_trans (Nat.le_trans (Nat.le_trans (Nat.le_trans E_7.1 E_21.1) (Keep.of_wr W_41).1) E_54.1) (Keep.of_wr W_74).1) (Keep.of_wr W_93).1) E_105.1) (Keep.of_wr W_125).1) (Keep.of_wr W_144).1) (Keep.of_wr W_163).1) E_175.1) (Keep.of_wr W_195).1) (Keep.of_wr W_214).1) (Keep.of_wr W_232).1) (Keep.of_wr W_250).1) E_749.1) K_764.1) (Nat.le_of_eq g_778.symm))) all0)).trans K_804 all0)
            obtain ⟨fs, hr, hrun, hended, hRE⟩ := X_811.leaveW hS_796 (by rw [show T_811.heap = T_796.heap from e_820]; exact (Nat.le_refl _)) (v := some (.int (1 : Int32))) (fun h => by rw [Bd.returns] at h; cases h)
            refine ⟨_, _, C_1031.trans (retN X_811 hx (t := .boolean) Bd.returns (by simp) (hb hby at_322) hr), hrun, hended, _, _, rfl, ?_, ?_, hRE.1, hRE.2.1, hRE.2.2.1, hRE.2.2.2.mono (by decide) (by decide)⟩
            · show Q_law Z G1 G3 p0 p1 p2 p3 h0 n0 (some (.int (1 : Int32))) T_811.heap _
              rw [e_820]
              exact ⟨rfl, N_819, K_1032⟩
            · show CHr Z consts_1 s.vm s.heap T_811.vm T_811.heap
              rw [hh, show T_811.heap = T_796.heap from e_820]
              exact CR_809.trans (CHv.at X_811 hZ_796 hEL CH_808)
theorem own_sta {s : State} {args : Array Value} {C n d K : String} (hx : (Jvm.Cond.exactly (.static C n d) K).value args s none s [] = some true) (hi : (Jvm.Cond.initialized C).before args s = true) (hl : (Jvm.Cond.laysStatic C n d).before args s = true) :
    ∃ a, Sta s s.heap C n d (.ref a) ∧ Exa s s.heap a K ∧ (Term.static C n d).eval args s none [] s = some (.ref a) := by
  obtain ⟨a, c', cell, k, e1, -⟩ := Cond.exactly_spec (Cond.before_iff.mpr hx)
  exact ⟨a, Sta.start e1 (Or.inr ⟨hi, hl⟩), Exa.start e1 hx, e1⟩
theorem own_fld {s : State} {args : Array Value} {t : Term} {a : Addr} {O n d : String} {v : Value} (ev : t.eval args s none [] s = some (.ref a)) (h : (Term.field t O n d).eval args s none [] s = some v) : Fld s s.heap a O n d v :=
  Fld.start (by simpa [Term.eval, ev] using h)
theorem own_fldI {s : State} {args : Array Value} {t : Term} {a : Addr} {O n d : String} {i : Int32} (ev : t.eval args s none [] s = some (.ref a)) (h : (Jvm.Cond.eq (Term.field t O n d) (.int i)).value args s none s [] = some true) : Fld s s.heap a O n d (.int i) :=
  own_fld ev (eqv_i (Term.int_eval i) h)
set_option maxRecDepth 65536 in
set_option maxHeartbeats 40000000 in
theorem comes_1 {Post : Tables → Env → Array Value → State → Outcome → State → Prop} (hpost : ∀ tb e args s v u, (limb_1_1.after args s (.returned v) u = true ∧ limb_1_2.after args s (.returned v) u = true ∧ True) → ReturnedEndW s (.returned v) u (Jvm.fieldLocs frame_1_writes args s ++ Jvm.arrayLocs frame_1_arrays args s ++ Jvm.staticLocs frame_1_statics s) 40 3264 → Post tb e args s (.returned v) u) :
    ArmFor flags0 classFile x code maxLocals ret World_1 tables_1 room_1 Calls_1 rest_1 Pre_1 Post := by
  intro l hfl _ _ p e ha hc hk s m args below hf hA hF happ hP
  obtain ⟨hcalls, hrest, hpre⟩ := hP
  obtain ⟨-, -, -, hnamed, -, -, -, hat⟩ := (Spec.applies_iff hf).mp happ
  obtain ⟨hg, hn⟩ := and_e (Cond.before_iff.mp (show (Jvm.Cond.and given_1 narrow_1).before args s = true from hpre))
  obtain ⟨h1, g0⟩ := and_e hg
  obtain ⟨a0, g1⟩ := and_e g0
  obtain ⟨a1, g2⟩ := and_e g1
  obtain ⟨a2, g3⟩ := and_e g2
  have a3 := g3
  obtain ⟨w0, w1, w2, w3, rfl⟩ : ∃ w0 w1 w2 w3 : Value, args = #[w0, w1, w2, w3] := by
    have hs : args.size = 4 := by simpa [Cond.value, given_1] using h1
    obtain ⟨L⟩ := args
    match L, hs with
    | [w0, w1, w2, w3], _ => exact ⟨w0, w1, w2, w3, rfl⟩
  have hw := fun d (hd : d ∈ tables_1) => atoms_spec (ws := Jvm.Cond.code x code maxLocals ret :: tables_1) hat d (List.mem_cons_of_mem _ hd)
  obtain ⟨hsets, hown0⟩ := atoms_of _ (rest_1_c_eq ▸ (show rest_1_c.before _ s = true from hrest))
  have hfit : Fit s := fun {y c} hc i hi => by
    obtain ⟨ha, rfl⟩ := Array.getElem?_eq_some_iff.mp hc
    have q := List.all_eq_true.mp ((Array.all_eq_true_iff_forall_mem.mp hF) _ (Array.getElem_mem ha)) i (List.mem_range.mpr hi)
    simpa [Array.getElem?_eq_getElem hi] using q
  obtain ⟨i0, q0⟩ := is_v a0
  obtain rfl : w0 = (.int i0) := Option.some.inj q0
  obtain ⟨i1, q1⟩ := is_v a1
  obtain rfl : w1 = (.int i1) := Option.some.inj q1
  obtain ⟨i2, q2⟩ := is_v a2
  obtain rfl : w2 = (.int i2) := Option.some.inj q2
  obtain ⟨i3, q3⟩ := is_v a3
  obtain rfl : w3 = (.int i3) := Option.some.inj q3
  obtain ⟨iCS, eCS⟩ := is_v (Cond.before_iff.mp (hsets _ (List.mem_of_getElem? (i := 1) rfl)))
  have SCS : Sta s s.heap "java/lang/String" "COMPACT_STRINGS" "Z" (.int iCS) := Sta.start eCS (Or.inl (hsets _ (List.mem_of_getElem? (i := 0) rfl)))
  have PCS : ¬ (iCS = (0 : Int32)) := gotF (Cond.eq_ints eCS (Term.int_eval (0))) (not_v (Cond.before_iff.mp (hsets _ (List.mem_of_getElem? (i := 2) rfl))))
  obtain ⟨vF, eF, rF⟩ := isR_v (Cond.before_iff.mp (hsets _ (List.mem_of_getElem? (i := 8) rfl)))
  have SF : Sta s s.heap "jdk/internal/util/Preconditions" "SIOOBE_FORMATTER" "Ljava/util/function/BiFunction;" vF := Sta.start eF (Or.inl (hsets _ (List.mem_of_getElem? (i := 7) rfl)))
  have ST0 : Sta s s.heap "java/lang/StringUTF16" "$assertionsDisabled" "Z" (.int (1 : Int32)) := Sta.start (eqv_i (Term.int_eval (1)) (Cond.before_iff.mp (hsets _ (List.mem_of_getElem? (i := 12) rfl)))) (Or.inl (hsets _ (List.mem_of_getElem? (i := 11) rfl)))
  have ST1 : Sta s s.heap "java/lang/StringUTF16" "HI_BYTE_SHIFT" "I" (.int (0 : Int32)) := Sta.start (eqv_i (Term.int_eval (0)) (Cond.before_iff.mp (hsets _ (List.mem_of_getElem? (i := 15) rfl)))) (Or.inl (hsets _ (List.mem_of_getElem? (i := 14) rfl)))
  have ST2 : Sta s s.heap "java/lang/StringUTF16" "LO_BYTE_SHIFT" "I" (.int (8 : Int32)) := Sta.start (eqv_i (Term.int_eval (8)) (Cond.before_iff.mp (hsets _ (List.mem_of_getElem? (i := 18) rfl)))) (Or.inl (hsets _ (List.mem_of_getElem? (i := 17) rfl)))
  have HG : own_G l s #[(.int i0), (.int i1), (.int i2), (.int i3)] iCS vF := ⟨SCS, PCS, SF, rF, ST0, ST1, ST2⟩
  have CH : CHv s consts_1 s.vm s.heap := CHv.start (own_EL hw) hcalls.1 (hsets _ (List.mem_of_getElem? (i := 2) rfl)) (hw _ (List.mem_of_getElem? (i := 21) rfl)) (hw _ (List.mem_of_getElem? (i := 4) rfl))
  obtain ⟨n, o, h1, h2, h3, _, L, rfl, ⟨rfl, N, -⟩, -, hq⟩ := rm_law l s _ hw tables_1 iCS vF HG s.heap s.heap.size (Old.start s) i0 i1 i2 i3 p e ha hc hk s m _ below hf ((Spec.applies_iff_loose hf).mp happ).1 ⟨rfl, State.Warmed39.refl s, rfl, CH⟩ trivial
  refine ⟨n, _, h1, h2, h3, hpost _ _ _ _ _ _ ⟨Cond.after_iff.mpr rfl, Cond.after_iff.mpr (eq_i res_at (Term.int_eval (1)) rfl), trivial⟩ ⟨hq.1, hq.2.1, hq.2.2.1, (hq.2.2.2.sift fun y hy => Or.inr (N y hy)).mono (by decide) (by decide)⟩⟩
theorem main_1_1 : Claimed_1_1 := comes_1 fun _ _ _ _ _ _ h hF => ⟨h.1, hF⟩
theorem main_1_2 : Claimed_1_2 := comes_1 fun _ _ _ _ _ _ h hF => ⟨h.2.1, hF⟩
end Jvm.Pilot.@@N@@
namespace Jvm.Pilot.@@N@@
open Jvm Jvm.ClassFile Sem Op Lib Jvm.Free Jvm.Stand Jvm.Pilot.@@N@@.Jvm.D
/-! MADE BY PROGRAM (witnessworld.py) out of the Statement's table words and the real class files: 24 classes; the members and pool entries that the words name. The judged class is class 1, her method 1. -/
namespace start1
open Jvm.ClassFile
def u (s : String) : CpInfo := .utf8 (stringToUtf16 s)
/-- a pool by its gaps: so many unusable entries, then the entry; so many at the end -/
def gap : Nat → List CpInfo → List CpInfo
  | 0, r => r
  | n + 1, r => .unusable :: gap n r
def poolList (es : List (Nat × CpInfo)) (last : Nat) : List CpInfo := es.foldr (fun e r => gap e.1 (e.2 :: r)) (gap last [])
def pool (es : List (Nat × CpInfo)) (last : Nat) : Array CpInfo := ⟨poolList es last⟩
def fileOf (pool : Array CpInfo) (this : Nat) (attrs : Array Attribute := #[]) (ms : Array MethodInfo := #[]) (fl : Nat := 33) (sup : Nat := 0) (ifs : Array Nat := #[]) (fds : Array FieldInfo := #[]) : ClassFile where
  minorVersion := 0
  majorVersion := 65
  constantPool := pool
  accessFlags := fl
  thisClass := this
  superClass := sup
  interfaces := ifs
  fields := fds
  methods := ms
  attributes := attrs
def plain (name : String) (sup : Option ClassId) : Class where
  name := name
  kind := .ordinary
  loader := none
  accessFlags := 33
  super := sup
  interfaces := #[]
  cf := none
  fields := #[]
  methods := #[]
  instanceTypes := #[]
  staticTypes := #[]
  resolved := #[]
  callSites := []
  init := .initialized
  statics := none
  mirror := none

def pool0 : Array CpInfo := pool [(5, u "<init>"), (0, u "()V"), (1, .class_ 10), (1, u "java/lang/Object")] 113

def k0c0 : Code := { maxStack := 0, maxLocals := 1, code := object_method_1_code, exceptionTable := #[], attributes := #[] }
def k0m0 : Method := { name := "<init>", desc := "()V", sig := { parameters := [], returnType := none }, accessFlags := 1, code := some k0c0 }
/-- java/lang/Object -/
def k0 : Class := { plain "java/lang/Object" none with
  accessFlags := 33
  interfaces := #[]
  cf := some (fileOf pool0 8 #[] #[{ accessFlags := 1, nameIndex := 5, descriptorIndex := 6, attributes := #[] }] 33 0 #[] #[])
  fields := #[]
  methods := #[k0m0]
  instanceTypes := #[]
  staticTypes := #[]
  resolved := Array.replicate 124 none
  statics := none }

def pool1 : Array CpInfo := pool [(2, .class_ 4), (1, u "java/lang/Object"), (0, u "<init>"), (0, u "()V"), (0, .integer 65535), (0, .integer 2147483647), (0, .class_ 10), (0, u "java/lang/String"), (0, .methodref 9 12), (0, .nameAndType 5 13), (0, u "([C)V"), (0, .class_ 15), (0, u "com/example/kartoteka/kartoteka/Headings$Displayed"), (0, .methodref 14 17), (0, .nameAndType 5 18), (0, u "(Ljava/lang/String;I)V"), (0, .methodref 14 20), (0, .nameAndType 21 22), (0, u "mainPart"), (0, u "()Ljava/lang/String;"), (0, .methodref 9 24), (0, .nameAndType 25 26), (0, u "length"), (0, u "()I"), (0, .methodref 9 28), (0, .nameAndType 29 30), (0, u "charAt"), (0, u "(I)C"), (0, .class_ 32), (0, u "com/example/kartoteka/kartoteka/DisplayedMainPartPinLaw"), (2, u "law"), (0, u "(IIII)Z")] 9

def k1m0 : Method := { name := "<init>", desc := "()V", sig := { parameters := [], returnType := none }, accessFlags := 1, code := none }
def k1c1 : Code := { maxStack := 4, maxLocals := 17, code := code, exceptionTable := #[], attributes := #[] }
def k1m1 : Method := { name := "law", desc := "(IIII)Z", sig := { parameters := [.int, .int, .int, .int], returnType := some .boolean }, accessFlags := 9, code := some k1c1 }
/-- com/example/kartoteka/kartoteka/DisplayedMainPartPinLaw -/
def k1 : Class := { plain "com/example/kartoteka/kartoteka/DisplayedMainPartPinLaw" (some 0) with
  accessFlags := 49
  interfaces := #[]
  cf := some (fileOf pool1 31 #[] #[{ accessFlags := 1, nameIndex := 5, descriptorIndex := 6, attributes := #[] }, { accessFlags := 9, nameIndex := 35, descriptorIndex := 36, attributes := #[] }] 49 2 #[] #[])
  fields := #[]
  methods := #[k1m0, k1m1]
  instanceTypes := #[]
  staticTypes := #[]
  resolved := Array.replicate 46 none
  statics := none }

def pool2 : Array CpInfo := pool [(1, .class_ 2), (0, u "java/io/Serializable"), (0, .class_ 4), (0, u "java/lang/Object")] 2

/-- java/io/Serializable -/
def k2 : Class := { plain "java/io/Serializable" (some 0) with
  accessFlags := 1537
  interfaces := #[]
  cf := some (fileOf pool2 1 #[] #[] 1537 3 #[] #[])
  fields := #[]
  methods := #[]
  instanceTypes := #[]
  staticTypes := #[]
  resolved := Array.replicate 7 none
  statics := none }

def pool3 : Array CpInfo := pool [(1, .class_ 2), (0, u "java/lang/Comparable"), (0, .class_ 4), (0, u "java/lang/Object")] 7

/-- java/lang/Comparable -/
def k3 : Class := { plain "java/lang/Comparable" (some 0) with
  accessFlags := 1537
  interfaces := #[]
  cf := some (fileOf pool3 1 #[] #[] 1537 3 #[] #[])
  fields := #[]
  methods := #[]
  instanceTypes := #[]
  staticTypes := #[]
  resolved := Array.replicate 12 none
  statics := none }

def pool4 : Array CpInfo := pool [(2, .class_ 4), (1, u "java/lang/CharSequence"), (42, .class_ 48), (0, u "java/lang/CharSequence$1CodePointIterator"), (10, .class_ 60), (0, u "java/lang/CharSequence$1CharIterator"), (5, .class_ 67), (0, u "java/lang/Object")] 63

/-- java/lang/CharSequence -/
def k4 : Class := { plain "java/lang/CharSequence" (some 0) with
  accessFlags := 1537
  interfaces := #[]
  cf := some (fileOf pool4 2 #[.nestMembers #[47, 59]] #[] 1537 66 #[] #[])
  fields := #[]
  methods := #[]
  instanceTypes := #[]
  staticTypes := #[]
  resolved := Array.replicate 131 none
  statics := none }

def pool5 : Array CpInfo := pool [(1, .class_ 2), (0, u "java/lang/constant/Constable"), (0, .class_ 4), (0, u "java/lang/Object")] 6

/-- java/lang/constant/Constable -/
def k5 : Class := { plain "java/lang/constant/Constable" (some 0) with
  accessFlags := 1537
  interfaces := #[]
  cf := some (fileOf pool5 1 #[] #[] 1537 3 #[] #[])
  fields := #[]
  methods := #[]
  instanceTypes := #[]
  staticTypes := #[]
  resolved := Array.replicate 11 none
  statics := none }

def pool6 : Array CpInfo := pool [(1, .class_ 2), (0, u "java/lang/constant/ConstantDesc"), (0, .class_ 4), (0, u "java/lang/Object")] 32

/-- java/lang/constant/ConstantDesc -/
def k6 : Class := { plain "java/lang/constant/ConstantDesc" (some 0) with
  accessFlags := 1537
  interfaces := #[]
  cf := some (fileOf pool6 1 #[] #[] 1537 3 #[] #[])
  fields := #[]
  methods := #[]
  instanceTypes := #[]
  staticTypes := #[]
  resolved := Array.replicate 37 none
  statics := none }

def pool7 : Array CpInfo := pool [(1, .methodref 2 3), (0, .class_ 4), (0, .nameAndType 5 6), (0, u "java/lang/Object"), (0, u "<init>"), (0, u "()V"), (0, .string 8), (0, u ""), (0, .fieldref 10 11), (0, .class_ 12), (0, .nameAndType 13 14), (0, u "java/lang/String"), (0, u "value"), (0, u "[B"), (0, .fieldref 10 16), (0, .nameAndType 17 18), (0, u "coder"), (0, u "B"), (2, u "hash"), (0, u "I"), (2, u "hashIsZero"), (0, u "Z"), (0, .methodref 10 28), (0, .nameAndType 5 29), (0, u "([CIILjava/lang/Void;)V"), (6, u "checkBoundsOffCount"), (0, u "(III)I"), (0, .fieldref 10 39), (0, .nameAndType 40 26), (0, u "COMPACT_STRINGS"), (1, .class_ 44), (1, u "java/lang/StringUTF16"), (0, u "compress"), (1, .methodref 42 48), (0, .nameAndType 49 50), (0, u "coderFromArrayLen"), (0, u "([BI)B"), (56, .class_ 109), (1, u "java/lang/StringLatin1"), (32, u "()Z"), (34, .methodref 42 178), (0, .nameAndType 45 179), (0, u "([CII)[B"), (31, u "([BB)V"), (122, u "()I"), (0, .methodref 10 336), (0, .nameAndType 17 337), (0, u "()B"), (25, u "([BI)C"), (27, u "(II)V"), (35, u "(I)C"), (64, .methodref 10 493), (0, .nameAndType 494 142), (0, u "isLatin1"), (0, .methodref 107 496), (0, .nameAndType 497 363), (0, u "charAt"), (0, .methodref 42 496), (2, u "checkIndex"), (3, .methodref 10 506), (0, .nameAndType 507 334), (0, u "length"), (5, u "checkFromToIndex"), (7, .methodref 10 522), (0, .nameAndType 523 524), (0, u "checkBoundsBeginEnd"), (0, u "(III)V"), (50, .class_ 576), (0, u "java/lang/CharSequence"), (22, u "CASE_INSENSITIVE_ORDER"), (0, u "Ljava/util/Comparator;"), (82, u "substring"), (0, u "(II)Ljava/lang/String;"), (0, .methodref 107 686), (0, .nameAndType 687 688), (0, u "newString"), (0, u "([BII)Ljava/lang/String;"), (0, .methodref 42 686), (320, u "([C)V"), (42, .fieldref 1054 1055), (0, .class_ 1056), (0, .nameAndType 1057 1058), (0, u "jdk/internal/util/Preconditions"), (0, u "SIOOBE_FORMATTER"), (0, u "Ljava/util/function/BiFunction;"), (0, .methodref 1054 1060), (0, .nameAndType 501 1061), (0, u "(IILjava/util/function/BiFunction;)I"), (0, .methodref 1054 1063), (0, .nameAndType 513 1064), (0, u "(IIILjava/util/function/BiFunction;)I"), (0, .methodref 1054 1066), (0, .nameAndType 1067 1064), (0, u "checkFromIndexSize"), (33, u "serialPersistentFields"), (0, u "[Ljava/io/ObjectStreamField;"), (0, .class_ 1104), (0, u "java/lang/String$CaseInsensitiveComparator"), (1, .class_ 1107), (0, u "java/io/Serializable"), (0, .class_ 1109), (0, u "java/lang/Comparable"), (0, .class_ 1111), (0, u "java/lang/constant/Constable"), (0, .class_ 1113), (0, u "java/lang/constant/ConstantDesc"), (2, u "serialVersionUID"), (0, u "J"), (3, u "REPL"), (0, u "C"), (2, u "LATIN1"), (1, u "UTF16")] 323

def k7m0 : Method := { name := "<init>", desc := "()V", sig := { parameters := [], returnType := none }, accessFlags := 1, code := none }
def k7c1 : Code := { maxStack := 5, maxLocals := 2, code := jdk_42_method_3_code, exceptionTable := #[], attributes := #[] }
def k7m1 : Method := { name := "<init>", desc := "([C)V", sig := { parameters := [(.array .char)], returnType := none }, accessFlags := 1, code := some k7c1 }
def k7c2 : Code := { maxStack := 2, maxLocals := 1, code := jdk_42_method_54_code, exceptionTable := #[], attributes := #[] }
def k7m2 : Method := { name := "length", desc := "()I", sig := { parameters := [], returnType := some .int }, accessFlags := 1, code := some k7c2 }
def k7c3 : Code := { maxStack := 2, maxLocals := 2, code := jdk_42_method_56_code, exceptionTable := #[], attributes := #[] }
def k7m3 : Method := { name := "charAt", desc := "(I)C", sig := { parameters := [.int], returnType := some .char }, accessFlags := 1, code := some k7c3 }
def k7c4 : Code := { maxStack := 3, maxLocals := 5, code := jdk_42_method_92_code, exceptionTable := #[], attributes := #[] }
def k7m4 : Method := { name := "substring", desc := "(II)Ljava/lang/String;", sig := { parameters := [.int, .int], returnType := some (.object "java/lang/String") }, accessFlags := 1, code := some k7c4 }
def k7c5 : Code := { maxStack := 4, maxLocals := 6, code := jdk_42_method_149_code, exceptionTable := #[], attributes := #[] }
def k7m5 : Method := { name := "<init>", desc := "([CIILjava/lang/Void;)V", sig := { parameters := [(.array .char), .int, .int, (.object "java/lang/Void")], returnType := none }, accessFlags := 2, code := some k7c5 }
def k7c6 : Code := { maxStack := 2, maxLocals := 3, code := jdk_42_method_151_code, exceptionTable := #[], attributes := #[] }
def k7m6 : Method := { name := "<init>", desc := "([BB)V", sig := { parameters := [(.array .byte), .byte], returnType := none }, accessFlags := 0, code := some k7c6 }
def k7c7 : Code := { maxStack := 1, maxLocals := 1, code := jdk_42_method_152_code, exceptionTable := #[], attributes := #[] }
def k7m7 : Method := { name := "coder", desc := "()B", sig := { parameters := [], returnType := some .byte }, accessFlags := 0, code := some k7c7 }
def k7c8 : Code := { maxStack := 1, maxLocals := 1, code := jdk_42_method_154_code, exceptionTable := #[], attributes := #[] }
def k7m8 : Method := { name := "isLatin1", desc := "()Z", sig := { parameters := [], returnType := some .boolean }, accessFlags := 0, code := some k7c8 }
def k7c9 : Code := { maxStack := 3, maxLocals := 2, code := jdk_42_method_155_code, exceptionTable := #[], attributes := #[] }
def k7m9 : Method := { name := "checkIndex", desc := "(II)V", sig := { parameters := [.int, .int], returnType := none }, accessFlags := 8, code := some k7c9 }
def k7c10 : Code := { maxStack := 4, maxLocals := 3, code := jdk_42_method_157_code, exceptionTable := #[], attributes := #[] }
def k7m10 : Method := { name := "checkBoundsOffCount", desc := "(III)I", sig := { parameters := [.int, .int, .int], returnType := some .int }, accessFlags := 8, code := some k7c10 }
def k7c11 : Code := { maxStack := 4, maxLocals := 3, code := jdk_42_method_158_code, exceptionTable := #[], attributes := #[] }
def k7m11 : Method := { name := "checkBoundsBeginEnd", desc := "(III)V", sig := { parameters := [.int, .int, .int], returnType := none }, accessFlags := 8, code := some k7c11 }
/-- java/lang/String -/
def k7 : Class := { plain "java/lang/String" (some 0) with
  accessFlags := 49
  interfaces := #[2, 3, 4, 5, 6]
  cf := some (fileOf pool7 10 #[.nestMembers #[1103]] #[{ accessFlags := 1, nameIndex := 5, descriptorIndex := 6, attributes := #[] }, { accessFlags := 1, nameIndex := 5, descriptorIndex := 1010, attributes := #[] }, { accessFlags := 1, nameIndex := 507, descriptorIndex := 334, attributes := #[] }, { accessFlags := 1, nameIndex := 497, descriptorIndex := 427, attributes := #[] }, { accessFlags := 1, nameIndex := 683, descriptorIndex := 684, attributes := #[] }, { accessFlags := 2, nameIndex := 5, descriptorIndex := 29, attributes := #[] }, { accessFlags := 0, nameIndex := 5, descriptorIndex := 211, attributes := #[] }, { accessFlags := 0, nameIndex := 17, descriptorIndex := 337, attributes := #[] }, { accessFlags := 0, nameIndex := 494, descriptorIndex := 142, attributes := #[] }, { accessFlags := 8, nameIndex := 501, descriptorIndex := 391, attributes := #[] }, { accessFlags := 8, nameIndex := 36, descriptorIndex := 37, attributes := #[] }, { accessFlags := 8, nameIndex := 523, descriptorIndex := 524, attributes := #[] }] 49 2 #[1106, 1108, 575, 1110, 1112] #[{ accessFlags := 18, nameIndex := 13, descriptorIndex := 14, attributes := #[] }, { accessFlags := 18, nameIndex := 17, descriptorIndex := 18, attributes := #[] }, { accessFlags := 2, nameIndex := 21, descriptorIndex := 22, attributes := #[] }, { accessFlags := 2, nameIndex := 25, descriptorIndex := 26, attributes := #[] }, { accessFlags := 26, nameIndex := 1116, descriptorIndex := 1117, attributes := #[] }, { accessFlags := 24, nameIndex := 40, descriptorIndex := 26, attributes := #[] }, { accessFlags := 26, nameIndex := 1101, descriptorIndex := 1102, attributes := #[] }, { accessFlags := 26, nameIndex := 1121, descriptorIndex := 1122, attributes := #[] }, { accessFlags := 25, nameIndex := 599, descriptorIndex := 600, attributes := #[] }, { accessFlags := 24, nameIndex := 1125, descriptorIndex := 18, attributes := #[] }, { accessFlags := 24, nameIndex := 1127, descriptorIndex := 18, attributes := #[] }])
  fields := #[{ name := "value", type := (.array .byte), accessFlags := 18, slot := 0, constantValue := 0 }, { name := "coder", type := .byte, accessFlags := 18, slot := 1, constantValue := 0 }, { name := "hash", type := .int, accessFlags := 2, slot := 2, constantValue := 0 }, { name := "hashIsZero", type := .boolean, accessFlags := 2, slot := 3, constantValue := 0 }, { name := "serialVersionUID", type := .long, accessFlags := 26, slot := 0, constantValue := 0 }, { name := "COMPACT_STRINGS", type := .boolean, accessFlags := 24, slot := 1, constantValue := 0 }, { name := "serialPersistentFields", type := (.array (.object "java/io/ObjectStreamField")), accessFlags := 26, slot := 2, constantValue := 0 }, { name := "REPL", type := .char, accessFlags := 26, slot := 3, constantValue := 0 }, { name := "CASE_INSENSITIVE_ORDER", type := (.object "java/util/Comparator"), accessFlags := 25, slot := 4, constantValue := 0 }, { name := "LATIN1", type := .byte, accessFlags := 24, slot := 5, constantValue := 0 }, { name := "UTF16", type := .byte, accessFlags := 24, slot := 6, constantValue := 0 }]
  methods := #[k7m0, k7m1, k7m2, k7m3, k7m4, k7m5, k7m6, k7m7, k7m8, k7m9, k7m10, k7m11]
  instanceTypes := #[(.array .byte), .byte, .int, .boolean]
  staticTypes := #[.long, .boolean, (.array (.object "java/io/ObjectStreamField")), .char, (.object "java/util/Comparator"), .byte, .byte]
  resolved := Array.replicate 1451 none
  statics := some 0 }

def pool8 : Array CpInfo := pool [(3, .class_ 4), (0, u "java/lang/String"), (1, .class_ 8), (1, u "java/lang/Object"), (0, u "<init>"), (0, u "()V"), (0, .methodref 12 13), (0, .class_ 14), (0, .nameAndType 15 16), (0, u "java/lang/StringUTF16"), (0, u "newBytesLength"), (0, u "(I)I"), (3, .integer 1073741823), (23, .fieldref 12 45), (0, .nameAndType 46 47), (0, u "$assertionsDisabled"), (0, u "Z"), (0, .methodref 12 49), (0, .nameAndType 50 51), (0, u "length"), (0, u "([B)I"), (7, .fieldref 12 60), (0, .nameAndType 61 62), (0, u "HI_BYTE_SHIFT"), (0, u "I"), (0, .fieldref 12 64), (0, .nameAndType 65 62), (0, u "LO_BYTE_SHIFT"), (1, .methodref 12 68), (0, .nameAndType 69 70), (0, u "checkIndex"), (0, u "(I[B)V"), (0, .methodref 12 72), (0, .nameAndType 73 74), (0, u "getChar"), (0, u "([BI)C"), (24, u "(II[B)V"), (7, .methodref 12 108), (0, .nameAndType 109 110), (0, u "newBytesFor"), (0, u "(I)[B"), (0, .methodref 12 112), (0, .nameAndType 113 114), (0, u "putChar"), (0, u "([BII)V"), (0, .methodref 12 116), (0, .nameAndType 117 118), (0, u "compress"), (0, u "([CI[BII)I"), (0, .methodref 12 120), (0, .nameAndType 121 122), (0, u "toBytes"), (0, u "([CII)[B"), (0, .methodref 12 124), (0, .nameAndType 117 125), (0, u "([BI[BII)I"), (0, .methodref 127 128), (0, .class_ 129), (0, .nameAndType 130 131), (0, u "java/util/Arrays"), (0, u "copyOfRange"), (0, u "([BII)[B"), (41, .methodref 12 174), (0, .nameAndType 175 99), (0, u "checkBoundsOffCount"), (75, .fieldref 3 252), (0, .nameAndType 253 47), (0, u "COMPACT_STRINGS"), (3, .methodref 12 258), (0, .nameAndType 117 131), (0, .methodref 12 260), (0, .nameAndType 261 262), (0, u "coderFromArrayLen"), (0, u "([BI)B"), (0, .methodref 3 264), (0, .nameAndType 9 265), (0, u "([BB)V"), (15, u "(III)I"), (13, .string 296), (0, u ""), (30, u "newString"), (0, u "([BII)Ljava/lang/String;"), (40, .class_ 371), (1, u "java/lang/StringUTF16$LinesSpliterator"), (20, u "charAt"), (21, .methodref 3 415), (0, .nameAndType 69 416), (0, u "(II)V"), (2, .methodref 3 420), (0, .nameAndType 175 281), (9, u "MAX_LENGTH"), (196, .class_ 628), (0, u "java/lang/StringUTF16$CodePointsSpliterator"), (0, .class_ 630), (0, u "java/lang/StringUTF16$CharsSpliterator")] 4

def k8m0 : Method := { name := "<init>", desc := "()V", sig := { parameters := [], returnType := none }, accessFlags := 0, code := none }
def k8c1 : Code := { maxStack := 1, maxLocals := 1, code := jdk_52_method_2_code, exceptionTable := #[], attributes := #[] }
def k8m1 : Method := { name := "newBytesFor", desc := "(I)[B", sig := { parameters := [.int], returnType := some (.array .byte) }, accessFlags := 9, code := some k8c1 }
def k8c2 : Code := { maxStack := 4, maxLocals := 1, code := jdk_52_method_3_code, exceptionTable := #[], attributes := #[] }
def k8m2 : Method := { name := "newBytesLength", desc := "(I)I", sig := { parameters := [.int], returnType := some .int }, accessFlags := 9, code := some k8c2 }
def k8c3 : Code := { maxStack := 4, maxLocals := 3, code := jdk_52_method_4_code, exceptionTable := #[], attributes := #[] }
def k8m3 : Method := { name := "putChar", desc := "([BII)V", sig := { parameters := [(.array .byte), .int, .int], returnType := none }, accessFlags := 8, code := some k8c3 }
def k8c4 : Code := { maxStack := 3, maxLocals := 2, code := jdk_52_method_5_code, exceptionTable := #[], attributes := #[] }
def k8m4 : Method := { name := "getChar", desc := "([BI)C", sig := { parameters := [(.array .byte), .int], returnType := some .char }, accessFlags := 8, code := some k8c4 }
def k8c5 : Code := { maxStack := 2, maxLocals := 1, code := jdk_52_method_6_code, exceptionTable := #[], attributes := #[] }
def k8m5 : Method := { name := "length", desc := "([B)I", sig := { parameters := [(.array .byte)], returnType := some .int }, accessFlags := 9, code := some k8c5 }
def k8c6 : Code := { maxStack := 4, maxLocals := 5, code := jdk_52_method_14_code, exceptionTable := #[], attributes := #[] }
def k8m6 : Method := { name := "toBytes", desc := "([CII)[B", sig := { parameters := [(.array .char), .int, .int], returnType := some (.array .byte) }, accessFlags := 9, code := some k8c6 }
def k8c7 : Code := { maxStack := 2, maxLocals := 2, code := jdk_52_method_15_code, exceptionTable := #[], attributes := #[] }
def k8m7 : Method := { name := "coderFromArrayLen", desc := "([BI)B", sig := { parameters := [(.array .byte), .int], returnType := some .byte }, accessFlags := 8, code := some k8c7 }
def k8c8 : Code := { maxStack := 5, maxLocals := 6, code := jdk_52_method_16_code, exceptionTable := #[], attributes := #[] }
def k8m8 : Method := { name := "compress", desc := "([CII)[B", sig := { parameters := [(.array .char), .int, .int], returnType := some (.array .byte) }, accessFlags := 9, code := some k8c8 }
def k8c9 : Code := { maxStack := 5, maxLocals := 6, code := jdk_52_method_17_code, exceptionTable := #[], attributes := #[] }
def k8m9 : Method := { name := "compress", desc := "([BII)[B", sig := { parameters := [(.array .byte), .int, .int], returnType := some (.array .byte) }, accessFlags := 9, code := some k8c9 }
def k8c10 : Code := { maxStack := 3, maxLocals := 7, code := jdk_52_method_21_code, exceptionTable := #[], attributes := #[] }
def k8m10 : Method := { name := "compress", desc := "([CI[BII)I", sig := { parameters := [(.array .char), .int, (.array .byte), .int, .int], returnType := some .int }, accessFlags := 9, code := some k8c10 }
def k8c11 : Code := { maxStack := 3, maxLocals := 7, code := jdk_52_method_22_code, exceptionTable := #[], attributes := #[] }
def k8m11 : Method := { name := "compress", desc := "([BI[BII)I", sig := { parameters := [(.array .byte), .int, (.array .byte), .int, .int], returnType := some .int }, accessFlags := 9, code := some k8c11 }
def k8c12 : Code := { maxStack := 6, maxLocals := 5, code := jdk_52_method_69_code, exceptionTable := #[], attributes := #[] }
def k8m12 : Method := { name := "newString", desc := "([BII)Ljava/lang/String;", sig := { parameters := [(.array .byte), .int, .int], returnType := some (.object "java/lang/String") }, accessFlags := 9, code := some k8c12 }
def k8c13 : Code := { maxStack := 2, maxLocals := 2, code := jdk_52_method_83_code, exceptionTable := #[], attributes := #[] }
def k8m13 : Method := { name := "charAt", desc := "([BI)C", sig := { parameters := [(.array .byte), .int], returnType := some .char }, accessFlags := 9, code := some k8c13 }
def k8c14 : Code := { maxStack := 2, maxLocals := 2, code := jdk_52_method_91_code, exceptionTable := #[], attributes := #[] }
def k8m14 : Method := { name := "checkIndex", desc := "(I[B)V", sig := { parameters := [.int, (.array .byte)], returnType := none }, accessFlags := 9, code := some k8c14 }
def k8c15 : Code := { maxStack := 3, maxLocals := 3, code := jdk_52_method_94_code, exceptionTable := #[], attributes := #[] }
def k8m15 : Method := { name := "checkBoundsOffCount", desc := "(II[B)V", sig := { parameters := [.int, .int, (.array .byte)], returnType := none }, accessFlags := 9, code := some k8c15 }
/-- java/lang/StringUTF16 -/
def k8 : Class := { plain "java/lang/StringUTF16" (some 0) with
  accessFlags := 48
  interfaces := #[]
  cf := some (fileOf pool8 12 #[.nestMembers #[627, 629, 369]] #[{ accessFlags := 0, nameIndex := 9, descriptorIndex := 10, attributes := #[] }, { accessFlags := 9, nameIndex := 109, descriptorIndex := 110, attributes := #[] }, { accessFlags := 9, nameIndex := 15, descriptorIndex := 16, attributes := #[] }, { accessFlags := 8, nameIndex := 113, descriptorIndex := 114, attributes := #[] }, { accessFlags := 8, nameIndex := 73, descriptorIndex := 74, attributes := #[] }, { accessFlags := 9, nameIndex := 50, descriptorIndex := 51, attributes := #[] }, { accessFlags := 9, nameIndex := 121, descriptorIndex := 122, attributes := #[] }, { accessFlags := 8, nameIndex := 261, descriptorIndex := 262, attributes := #[] }, { accessFlags := 9, nameIndex := 117, descriptorIndex := 122, attributes := #[] }, { accessFlags := 9, nameIndex := 117, descriptorIndex := 131, attributes := #[] }, { accessFlags := 9, nameIndex := 117, descriptorIndex := 118, attributes := #[] }, { accessFlags := 9, nameIndex := 117, descriptorIndex := 125, attributes := #[] }, { accessFlags := 9, nameIndex := 327, descriptorIndex := 328, attributes := #[] }, { accessFlags := 9, nameIndex := 392, descriptorIndex := 74, attributes := #[] }, { accessFlags := 9, nameIndex := 69, descriptorIndex := 70, attributes := #[] }, { accessFlags := 9, nameIndex := 175, descriptorIndex := 99, attributes := #[] }] 48 6 #[] #[{ accessFlags := 26, nameIndex := 61, descriptorIndex := 62, attributes := #[] }, { accessFlags := 26, nameIndex := 65, descriptorIndex := 62, attributes := #[] }, { accessFlags := 24, nameIndex := 430, descriptorIndex := 62, attributes := #[] }, { accessFlags := 4120, nameIndex := 46, descriptorIndex := 47, attributes := #[] }])
  fields := #[{ name := "HI_BYTE_SHIFT", type := .int, accessFlags := 26, slot := 0, constantValue := 0 }, { name := "LO_BYTE_SHIFT", type := .int, accessFlags := 26, slot := 1, constantValue := 0 }, { name := "MAX_LENGTH", type := .int, accessFlags := 24, slot := 2, constantValue := 0 }, { name := "$assertionsDisabled", type := .boolean, accessFlags := 4120, slot := 3, constantValue := 0 }]
  methods := #[k8m0, k8m1, k8m2, k8m3, k8m4, k8m5, k8m6, k8m7, k8m8, k8m9, k8m10, k8m11, k8m12, k8m13, k8m14, k8m15]
  instanceTypes := #[]
  staticTypes := #[.int, .int, .int, .boolean]
  resolved := Array.replicate 635 none
  statics := some 1 }

def pool9 : Array CpInfo := pool [(1, .methodref 2 3), (0, .class_ 4), (0, .nameAndType 5 6), (0, u "java/lang/Object"), (0, u "<init>"), (0, u "()V"), (0, .class_ 8), (0, u "java/lang/Record")] 13

def k9c0 : Code := { maxStack := 1, maxLocals := 1, code := jdk_30_method_1_code, exceptionTable := #[], attributes := #[] }
def k9m0 : Method := { name := "<init>", desc := "()V", sig := { parameters := [], returnType := none }, accessFlags := 4, code := some k9c0 }
/-- java/lang/Record -/
def k9 : Class := { plain "java/lang/Record" (some 0) with
  accessFlags := 1057
  interfaces := #[]
  cf := some (fileOf pool9 7 #[] #[{ accessFlags := 4, nameIndex := 5, descriptorIndex := 6, attributes := #[] }] 1057 2 #[] #[])
  fields := #[]
  methods := #[k9m0]
  instanceTypes := #[]
  staticTypes := #[]
  resolved := Array.replicate 22 none
  statics := none }

def pool10 : Array CpInfo := pool [(1, .methodref 2 3), (0, .class_ 4), (0, .nameAndType 5 6), (0, u "java/lang/Record"), (0, u "<init>"), (0, u "()V"), (0, .fieldref 8 9), (0, .class_ 10), (0, .nameAndType 11 12), (0, u "com/example/kartoteka/kartoteka/Headings$Displayed"), (0, u "text"), (0, u "Ljava/lang/String;"), (0, .fieldref 8 14), (0, .nameAndType 15 16), (0, u "mainPartLength"), (0, u "I"), (0, .methodref 18 19), (0, .class_ 20), (0, .nameAndType 21 22), (0, u "java/lang/String"), (0, u "substring"), (0, u "(II)Ljava/lang/String;"), (12, u "(Ljava/lang/String;I)V"), (3, u "mainPart"), (0, u "()Ljava/lang/String;"), (5, .class_ 47), (0, u "com/example/kartoteka/kartoteka/Headings")] 20

def k10c0 : Code := { maxStack := 2, maxLocals := 3, code := prog_14_method_1_code, exceptionTable := #[], attributes := #[] }
def k10m0 : Method := { name := "<init>", desc := "(Ljava/lang/String;I)V", sig := { parameters := [(.object "java/lang/String"), .int], returnType := none }, accessFlags := 0, code := some k10c0 }
def k10c1 : Code := { maxStack := 3, maxLocals := 1, code := prog_14_method_2_code, exceptionTable := #[], attributes := #[] }
def k10m1 : Method := { name := "mainPart", desc := "()Ljava/lang/String;", sig := { parameters := [], returnType := some (.object "java/lang/String") }, accessFlags := 0, code := some k10c1 }
/-- com/example/kartoteka/kartoteka/Headings$Displayed -/
def k10 : Class := { plain "com/example/kartoteka/kartoteka/Headings$Displayed" (some 9) with
  accessFlags := 48
  interfaces := #[]
  cf := some (fileOf pool10 8 #[.nestHost 46] #[{ accessFlags := 0, nameIndex := 5, descriptorIndex := 35, attributes := #[] }, { accessFlags := 0, nameIndex := 39, descriptorIndex := 40, attributes := #[] }] 48 2 #[] #[{ accessFlags := 18, nameIndex := 11, descriptorIndex := 12, attributes := #[] }, { accessFlags := 18, nameIndex := 15, descriptorIndex := 16, attributes := #[] }])
  fields := #[{ name := "text", type := (.object "java/lang/String"), accessFlags := 18, slot := 0, constantValue := 0 }, { name := "mainPartLength", type := .int, accessFlags := 18, slot := 1, constantValue := 0 }]
  methods := #[k10m0, k10m1]
  instanceTypes := #[(.object "java/lang/String"), .int]
  staticTypes := #[]
  resolved := Array.replicate 68 none
  statics := none }

def pool11 : Array CpInfo := pool [(2, .class_ 4), (1, u "java/lang/Object"), (0, u "<init>"), (0, u "()V"), (17, .class_ 26), (1, u "jdk/internal/util/Preconditions"), (6, u "checkIndex"), (13, u "checkFromToIndex"), (1, u "checkFromIndexSize"), (5, .class_ 56), (0, u "jdk/internal/util/Preconditions$4"), (57, .class_ 115), (0, u "jdk/internal/util/Preconditions$1"), (7, u "SIOOBE_FORMATTER"), (0, u "Ljava/util/function/BiFunction;"), (0, .class_ 126), (0, u "jdk/internal/util/Preconditions$2"), (3, u "AIOOBE_FORMATTER"), (0, .class_ 132), (0, u "jdk/internal/util/Preconditions$3"), (3, u "IOOBE_FORMATTER"), (41, u "(IILjava/util/function/BiFunction;)I"), (4, u "(IIILjava/util/function/BiFunction;)I")] 10

def k11m0 : Method := { name := "<init>", desc := "()V", sig := { parameters := [], returnType := none }, accessFlags := 1, code := none }
def k11c1 : Code := { maxStack := 3, maxLocals := 3, code := jdk_41_method_11_code, exceptionTable := #[], attributes := #[] }
def k11m1 : Method := { name := "checkIndex", desc := "(IILjava/util/function/BiFunction;)I", sig := { parameters := [.int, .int, (.object "java/util/function/BiFunction")], returnType := some .int }, accessFlags := 9, code := some k11c1 }
def k11c2 : Code := { maxStack := 4, maxLocals := 4, code := jdk_41_method_12_code, exceptionTable := #[], attributes := #[] }
def k11m2 : Method := { name := "checkFromToIndex", desc := "(IIILjava/util/function/BiFunction;)I", sig := { parameters := [.int, .int, .int, (.object "java/util/function/BiFunction")], returnType := some .int }, accessFlags := 9, code := some k11c2 }
def k11c3 : Code := { maxStack := 4, maxLocals := 4, code := jdk_41_method_13_code, exceptionTable := #[], attributes := #[] }
def k11m3 : Method := { name := "checkFromIndexSize", desc := "(IIILjava/util/function/BiFunction;)I", sig := { parameters := [.int, .int, .int, (.object "java/util/function/BiFunction")], returnType := some .int }, accessFlags := 9, code := some k11c3 }
/-- jdk/internal/util/Preconditions -/
def k11 : Class := { plain "jdk/internal/util/Preconditions" (some 0) with
  accessFlags := 33
  interfaces := #[]
  cf := some (fileOf pool11 24 #[.nestMembers #[55, 131, 125, 114]] #[{ accessFlags := 1, nameIndex := 5, descriptorIndex := 6, attributes := #[] }, { accessFlags := 9, nameIndex := 33, descriptorIndex := 178, attributes := #[] }, { accessFlags := 9, nameIndex := 47, descriptorIndex := 183, attributes := #[] }, { accessFlags := 9, nameIndex := 49, descriptorIndex := 183, attributes := #[] }] 33 2 #[] #[{ accessFlags := 25, nameIndex := 123, descriptorIndex := 124, attributes := #[] }, { accessFlags := 25, nameIndex := 130, descriptorIndex := 124, attributes := #[] }, { accessFlags := 25, nameIndex := 136, descriptorIndex := 124, attributes := #[] }])
  fields := #[{ name := "SIOOBE_FORMATTER", type := (.object "java/util/function/BiFunction"), accessFlags := 25, slot := 0, constantValue := 0 }, { name := "AIOOBE_FORMATTER", type := (.object "java/util/function/BiFunction"), accessFlags := 25, slot := 1, constantValue := 0 }, { name := "IOOBE_FORMATTER", type := (.object "java/util/function/BiFunction"), accessFlags := 25, slot := 2, constantValue := 0 }]
  methods := #[k11m0, k11m1, k11m2, k11m3]
  instanceTypes := #[]
  staticTypes := #[(.object "java/util/function/BiFunction"), (.object "java/util/function/BiFunction"), (.object "java/util/function/BiFunction")]
  resolved := Array.replicate 194 none
  statics := some 2 }

def pool12 : Array CpInfo := pool [(1, .class_ 2), (0, u "java/lang/String"), (1, .class_ 6), (1, u "java/lang/Object"), (0, u "<init>"), (0, u "()V"), (0, .methodref 1 10), (0, .nameAndType 11 12), (0, u "checkIndex"), (0, u "(II)V"), (1, .class_ 16), (1, u "java/lang/StringLatin1"), (36, u "([BI)C"), (58, .methodref 1 113), (0, .nameAndType 7 114), (0, u "([BB)V"), (6, u "$assertionsDisabled"), (0, u "Z"), (8, .class_ 133), (1, u "java/util/Arrays"), (17, .string 152), (0, u ""), (43, u "newString"), (0, u "([BII)Ljava/lang/String;"), (23, .class_ 223), (1, u "java/lang/StringLatin1$LinesSpliterator"), (8, .methodref 131 233), (0, .nameAndType 234 235), (0, u "copyOfRange"), (0, u "([BII)[B"), (16, u "charAt"), (137, .class_ 391), (0, u "java/lang/StringLatin1$CharsSpliterator")] 3

def k12m0 : Method := { name := "<init>", desc := "()V", sig := { parameters := [], returnType := none }, accessFlags := 0, code := none }
def k12c1 : Code := { maxStack := 2, maxLocals := 2, code := jdk_43_method_2_code, exceptionTable := #[], attributes := #[] }
def k12m1 : Method := { name := "charAt", desc := "([BI)C", sig := { parameters := [(.array .byte), .int], returnType := some .char }, accessFlags := 9, code := some k12c1 }
def k12c2 : Code := { maxStack := 6, maxLocals := 3, code := jdk_43_method_47_code, exceptionTable := #[], attributes := #[] }
def k12m2 : Method := { name := "newString", desc := "([BII)Ljava/lang/String;", sig := { parameters := [(.array .byte), .int, .int], returnType := some (.object "java/lang/String") }, accessFlags := 9, code := some k12c2 }
/-- java/lang/StringLatin1 -/
def k12 : Class := { plain "java/lang/StringLatin1" (some 0) with
  accessFlags := 48
  interfaces := #[]
  cf := some (fileOf pool12 14 #[.nestMembers #[390, 221]] #[{ accessFlags := 0, nameIndex := 7, descriptorIndex := 8, attributes := #[] }, { accessFlags := 9, nameIndex := 252, descriptorIndex := 53, attributes := #[] }, { accessFlags := 9, nameIndex := 196, descriptorIndex := 197, attributes := #[] }] 48 4 #[] #[{ accessFlags := 4120, nameIndex := 121, descriptorIndex := 122, attributes := #[] }])
  fields := #[{ name := "$assertionsDisabled", type := .boolean, accessFlags := 4120, slot := 0, constantValue := 0 }]
  methods := #[k12m0, k12m1, k12m2]
  instanceTypes := #[]
  staticTypes := #[.boolean]
  resolved := Array.replicate 395 none
  statics := none }

def pool13 : Array CpInfo := pool [(2, .class_ 4), (1, u "java/lang/Object"), (0, u "<init>"), (0, u "()V"), (7, .class_ 16), (1, u "java/util/Arrays"), (57, .class_ 76), (1, u "java/util/Arrays$NaturalOrder"), (36, .class_ 115), (1, u "java/util/Arrays$LegacyMergeSort"), (1, u "Z"), (21, u "copyOfRange"), (10, .methodref 151 152), (0, .class_ 153), (0, .nameAndType 154 155), (0, u "java/lang/System"), (0, u "arraycopy"), (0, u "(Ljava/lang/Object;ILjava/lang/Object;II)V"), (148, .methodref 305 306), (0, .class_ 307), (0, .nameAndType 308 309), (0, u "java/lang/Math"), (0, u "min"), (0, u "(II)I"), (29, .methodref 14 340), (0, .nameAndType 341 342), (0, u "copyOfRangeByte"), (0, u "([BII)[B"), (0, .methodref 14 344), (0, .nameAndType 345 346), (0, u "checkLength"), (0, u "(II)V"), (28, .class_ 376), (0, u "java/util/Arrays$ArrayList"), (68, u "$assertionsDisabled"), (269, u "MIN_ARRAY_SORT_GRAN"), (0, u "I"), (2, u "INSERTIONSORT_THRESHOLD"), (255, .class_ 976), (0, u "java/util/Arrays$ArrayItr")] 52

def k13m0 : Method := { name := "<init>", desc := "()V", sig := { parameters := [], returnType := none }, accessFlags := 2, code := none }
def k13c1 : Code := { maxStack := 4, maxLocals := 2, code := jdk_65_method_131_code, exceptionTable := #[], attributes := #[] }
def k13m1 : Method := { name := "checkLength", desc := "(II)V", sig := { parameters := [.int, .int], returnType := none }, accessFlags := 10, code := some k13c1 }
def k13c2 : Code := { maxStack := 3, maxLocals := 3, code := jdk_65_method_132_code, exceptionTable := #[], attributes := #[] }
def k13m2 : Method := { name := "copyOfRange", desc := "([BII)[B", sig := { parameters := [(.array .byte), .int, .int], returnType := some (.array .byte) }, accessFlags := 9, code := some k13c2 }
def k13c3 : Code := { maxStack := 6, maxLocals := 5, code := jdk_65_method_133_code, exceptionTable := #[], attributes := #[] }
def k13m3 : Method := { name := "copyOfRangeByte", desc := "([BII)[B", sig := { parameters := [(.array .byte), .int, .int], returnType := some (.array .byte) }, accessFlags := 10, code := some k13c3 }
/-- java/util/Arrays -/
def k13 : Class := { plain "java/util/Arrays" (some 0) with
  accessFlags := 49
  interfaces := #[]
  cf := some (fileOf pool13 14 #[.nestMembers #[975, 375, 113, 74]] #[{ accessFlags := 2, nameIndex := 5, descriptorIndex := 6, attributes := #[] }, { accessFlags := 10, nameIndex := 345, descriptorIndex := 346, attributes := #[] }, { accessFlags := 9, nameIndex := 139, descriptorIndex := 342, attributes := #[] }, { accessFlags := 10, nameIndex := 341, descriptorIndex := 342, attributes := #[] }] 49 2 #[] #[{ accessFlags := 26, nameIndex := 715, descriptorIndex := 716, attributes := #[] }, { accessFlags := 26, nameIndex := 719, descriptorIndex := 716, attributes := #[] }, { accessFlags := 4120, nameIndex := 445, descriptorIndex := 117, attributes := #[] }])
  fields := #[{ name := "MIN_ARRAY_SORT_GRAN", type := .int, accessFlags := 26, slot := 0, constantValue := 0 }, { name := "INSERTIONSORT_THRESHOLD", type := .int, accessFlags := 26, slot := 1, constantValue := 0 }, { name := "$assertionsDisabled", type := .boolean, accessFlags := 4120, slot := 2, constantValue := 0 }]
  methods := #[k13m0, k13m1, k13m2, k13m3]
  instanceTypes := #[]
  staticTypes := #[.int, .int, .boolean]
  resolved := Array.replicate 1029 none
  statics := none }

def pool14 : Array CpInfo := pool [(1, .class_ 2), (0, u "java/lang/Math"), (1, .class_ 6), (1, u "java/lang/Object"), (0, u "<init>"), (0, u "()V"), (89, .class_ 100), (1, u "java/lang/Math$RandomNumberGeneratorHolder"), (71, u "negativeZeroFloatBits"), (0, u "J"), (2, u "negativeZeroDoubleBits"), (24, u "min"), (43, u "$assertionsDisabled"), (0, u "Z"), (88, u "(II)I"), (2, u "twoToTheDoubleScaleDown"), (0, u "D"), (4, u "twoToTheDoubleScaleUp"), (9, u "E"), (3, u "PI"), (2, u "TAU"), (2, u "DEGREES_TO_RADIANS"), (0, u "RADIANS_TO_DEGREES")] 94

def k14m0 : Method := { name := "<init>", desc := "()V", sig := { parameters := [], returnType := none }, accessFlags := 2, code := none }
def k14c1 : Code := { maxStack := 2, maxLocals := 2, code := jdk_29_method_69_code, exceptionTable := #[], attributes := #[] }
def k14m1 : Method := { name := "min", desc := "(II)I", sig := { parameters := [.int, .int], returnType := some .int }, accessFlags := 9, code := some k14c1 }
/-- java/lang/Math -/
def k14 : Class := { plain "java/lang/Math" (some 0) with
  accessFlags := 49
  interfaces := #[]
  cf := some (fileOf pool14 1 #[.nestMembers #[98]] #[{ accessFlags := 2, nameIndex := 7, descriptorIndex := 8, attributes := #[] }, { accessFlags := 9, nameIndex := 201, descriptorIndex := 335, attributes := #[] }] 49 4 #[] #[{ accessFlags := 25, nameIndex := 354, descriptorIndex := 339, attributes := #[] }, { accessFlags := 25, nameIndex := 358, descriptorIndex := 339, attributes := #[] }, { accessFlags := 25, nameIndex := 361, descriptorIndex := 339, attributes := #[] }, { accessFlags := 26, nameIndex := 364, descriptorIndex := 339, attributes := #[] }, { accessFlags := 26, nameIndex := 365, descriptorIndex := 339, attributes := #[] }, { accessFlags := 26, nameIndex := 172, descriptorIndex := 173, attributes := #[] }, { accessFlags := 26, nameIndex := 176, descriptorIndex := 173, attributes := #[] }, { accessFlags := 8, nameIndex := 344, descriptorIndex := 339, attributes := #[] }, { accessFlags := 8, nameIndex := 338, descriptorIndex := 339, attributes := #[] }, { accessFlags := 4120, nameIndex := 245, descriptorIndex := 246, attributes := #[] }])
  fields := #[{ name := "E", type := .double, accessFlags := 25, slot := 0, constantValue := 0 }, { name := "PI", type := .double, accessFlags := 25, slot := 1, constantValue := 0 }, { name := "TAU", type := .double, accessFlags := 25, slot := 2, constantValue := 0 }, { name := "DEGREES_TO_RADIANS", type := .double, accessFlags := 26, slot := 3, constantValue := 0 }, { name := "RADIANS_TO_DEGREES", type := .double, accessFlags := 26, slot := 4, constantValue := 0 }, { name := "negativeZeroFloatBits", type := .long, accessFlags := 26, slot := 5, constantValue := 0 }, { name := "negativeZeroDoubleBits", type := .long, accessFlags := 26, slot := 6, constantValue := 0 }, { name := "twoToTheDoubleScaleUp", type := .double, accessFlags := 8, slot := 7, constantValue := 0 }, { name := "twoToTheDoubleScaleDown", type := .double, accessFlags := 8, slot := 8, constantValue := 0 }, { name := "$assertionsDisabled", type := .boolean, accessFlags := 4120, slot := 9, constantValue := 0 }]
  methods := #[k14m0, k14m1]
  instanceTypes := #[]
  staticTypes := #[.double, .double, .double, .double, .double, .long, .long, .double, .double, .boolean]
  resolved := Array.replicate 460 none
  statics := none }

def pool15 : Array CpInfo := pool [(2, .class_ 4), (1, u "java/lang/Object"), (0, u "<init>"), (0, u "()V"), (1, .class_ 10), (1, u "java/lang/System"), (0, u "allowSecurityManager"), (0, u "I"), (16, u "cons"), (0, u "Ljava/io/Console;"), (77, .class_ 110), (1, u "java/lang/System$CallersHolder"), (43, u "initialErrStream"), (0, u "Ljava/io/PrintStream;"), (19, u "security"), (0, u "Ljava/lang/SecurityManager;"), (31, .class_ 209), (0, u "java/lang/System$1"), (7, u "props"), (0, u "Ljava/util/Properties;"), (2, u "lineSeparator"), (0, u "Ljava/lang/String;"), (96, .class_ 321), (1, u "java/lang/System$LoggerFinder"), (5, .class_ 328), (0, u "java/lang/System$Logger"), (67, u "err"), (2, u "out"), (91, u "notSupportedJnuEncoding"), (15, u "in"), (17, u "initialIn"), (0, u "Ljava/io/InputStream;"), (35, u "bootLayer"), (0, u "Ljava/lang/ModuleLayer;"), (99, .class_ 664), (0, u "java/lang/System$2"), (9, u "NEVER"), (2, u "MAYBE"), (49, u "arraycopy"), (0, u "(Ljava/lang/Object;ILjava/lang/Object;II)V"), (72, .class_ 802), (0, u "java/lang/System$Logger$Level")] 31

def k15m0 : Method := { name := "<init>", desc := "()V", sig := { parameters := [], returnType := none }, accessFlags := 2, code := none }
def k15m1 : Method := { name := "arraycopy", desc := "(Ljava/lang/Object;ILjava/lang/Object;II)V", sig := { parameters := [(.object "java/lang/Object"), .int, (.object "java/lang/Object"), .int, .int], returnType := none }, accessFlags := 265, code := none }
/-- java/lang/System -/
def k15 : Class := { plain "java/lang/System" (some 0) with
  accessFlags := 49
  interfaces := #[]
  cf := some (fileOf pool15 8 #[.nestMembers #[319, 327, 801, 108, 663, 208]] #[{ accessFlags := 2, nameIndex := 5, descriptorIndex := 6, attributes := #[] }, { accessFlags := 265, nameIndex := 727, descriptorIndex := 728, attributes := #[] }] 49 2 #[] #[{ accessFlags := 25, nameIndex := 507, descriptorIndex := 526, attributes := #[] }, { accessFlags := 25, nameIndex := 399, descriptorIndex := 155, attributes := #[] }, { accessFlags := 25, nameIndex := 396, descriptorIndex := 155, attributes := #[] }, { accessFlags := 10, nameIndex := 525, descriptorIndex := 526, attributes := #[] }, { accessFlags := 26, nameIndex := 674, descriptorIndex := 12, attributes := #[] }, { accessFlags := 26, nameIndex := 677, descriptorIndex := 12, attributes := #[] }, { accessFlags := 10, nameIndex := 11, descriptorIndex := 12, attributes := #[] }, { accessFlags := 74, nameIndex := 175, descriptorIndex := 176, attributes := #[] }, { accessFlags := 10, nameIndex := 491, descriptorIndex := 222, attributes := #[] }, { accessFlags := 74, nameIndex := 29, descriptorIndex := 30, attributes := #[] }, { accessFlags := 74, nameIndex := 154, descriptorIndex := 155, attributes := #[] }, { accessFlags := 10, nameIndex := 217, descriptorIndex := 218, attributes := #[] }, { accessFlags := 10, nameIndex := 221, descriptorIndex := 222, attributes := #[] }, { accessFlags := 8, nameIndex := 562, descriptorIndex := 563, attributes := #[] }])
  fields := #[{ name := "in", type := (.object "java/io/InputStream"), accessFlags := 25, slot := 0, constantValue := 0 }, { name := "out", type := (.object "java/io/PrintStream"), accessFlags := 25, slot := 1, constantValue := 0 }, { name := "err", type := (.object "java/io/PrintStream"), accessFlags := 25, slot := 2, constantValue := 0 }, { name := "initialIn", type := (.object "java/io/InputStream"), accessFlags := 10, slot := 3, constantValue := 0 }, { name := "NEVER", type := .int, accessFlags := 26, slot := 4, constantValue := 0 }, { name := "MAYBE", type := .int, accessFlags := 26, slot := 5, constantValue := 0 }, { name := "allowSecurityManager", type := .int, accessFlags := 10, slot := 6, constantValue := 0 }, { name := "security", type := (.object "java/lang/SecurityManager"), accessFlags := 74, slot := 7, constantValue := 0 }, { name := "notSupportedJnuEncoding", type := (.object "java/lang/String"), accessFlags := 10, slot := 8, constantValue := 0 }, { name := "cons", type := (.object "java/io/Console"), accessFlags := 74, slot := 9, constantValue := 0 }, { name := "initialErrStream", type := (.object "java/io/PrintStream"), accessFlags := 74, slot := 10, constantValue := 0 }, { name := "props", type := (.object "java/util/Properties"), accessFlags := 10, slot := 11, constantValue := 0 }, { name := "lineSeparator", type := (.object "java/lang/String"), accessFlags := 10, slot := 12, constantValue := 0 }, { name := "bootLayer", type := (.object "java/lang/ModuleLayer"), accessFlags := 8, slot := 13, constantValue := 0 }]
  methods := #[k15m0, k15m1]
  instanceTypes := #[]
  staticTypes := #[(.object "java/io/InputStream"), (.object "java/io/PrintStream"), (.object "java/io/PrintStream"), (.object "java/io/InputStream"), .int, .int, .int, (.object "java/lang/SecurityManager"), (.object "java/lang/String"), (.object "java/io/Console"), (.object "java/io/PrintStream"), (.object "java/util/Properties"), (.object "java/lang/String"), (.object "java/lang/ModuleLayer")]
  resolved := Array.replicate 834 none
  statics := none }

def pool16 : Array CpInfo := pool [(9, u "<init>"), (6, .class_ 18), (1, u "java/lang/Object"), (0, u "()V"), (1, .class_ 23), (1, u "jdk/internal/util/ArraysSupport"), (0, u "LOG2_ARRAY_LONG_INDEX_SCALE"), (0, u "I"), (2, u "U"), (0, u "Ljdk/internal/misc/Unsafe;"), (8, u "BIG_ENDIAN"), (0, u "Z"), (8, u "LOG2_BYTE_BIT_SIZE"), (4, u "LOG2_ARRAY_INT_INDEX_SCALE"), (54, u "JLA"), (0, u "Ljdk/internal/access/JavaLangAccess;"), (11, u "LOG2_ARRAY_BOOLEAN_INDEX_SCALE"), (9, u "LOG2_ARRAY_BYTE_INDEX_SCALE"), (5, u "LOG2_ARRAY_CHAR_INDEX_SCALE"), (5, u "LOG2_ARRAY_SHORT_INDEX_SCALE"), (18, u "LOG2_ARRAY_FLOAT_INDEX_SCALE"), (24, u "LOG2_ARRAY_DOUBLE_INDEX_SCALE"), (89, u "T_BOOLEAN"), (2, u "T_CHAR"), (1, u "T_FLOAT"), (1, u "T_DOUBLE"), (1, u "T_BYTE"), (1, u "T_SHORT"), (1, u "T_INT"), (1, u "T_LONG"), (1, u "SOFT_MAX_ARRAY_LENGTH")] 83

def k16m0 : Method := { name := "<init>", desc := "()V", sig := { parameters := [], returnType := none }, accessFlags := 2, code := none }
/-- jdk/internal/util/ArraysSupport -/
def k16 : Class := { plain "jdk/internal/util/ArraysSupport" (some 0) with
  accessFlags := 33
  interfaces := #[]
  cf := some (fileOf pool16 21 #[] #[{ accessFlags := 2, nameIndex := 9, descriptorIndex := 19, attributes := #[] }] 33 16 #[] #[{ accessFlags := 24, nameIndex := 28, descriptorIndex := 29, attributes := #[] }, { accessFlags := 26, nameIndex := 38, descriptorIndex := 39, attributes := #[] }, { accessFlags := 25, nameIndex := 121, descriptorIndex := 25, attributes := #[] }, { accessFlags := 25, nameIndex := 131, descriptorIndex := 25, attributes := #[] }, { accessFlags := 25, nameIndex := 137, descriptorIndex := 25, attributes := #[] }, { accessFlags := 25, nameIndex := 143, descriptorIndex := 25, attributes := #[] }, { accessFlags := 25, nameIndex := 53, descriptorIndex := 25, attributes := #[] }, { accessFlags := 25, nameIndex := 24, descriptorIndex := 25, attributes := #[] }, { accessFlags := 25, nameIndex := 162, descriptorIndex := 25, attributes := #[] }, { accessFlags := 25, nameIndex := 187, descriptorIndex := 25, attributes := #[] }, { accessFlags := 26, nameIndex := 48, descriptorIndex := 25, attributes := #[] }, { accessFlags := 25, nameIndex := 277, descriptorIndex := 25, attributes := #[] }, { accessFlags := 25, nameIndex := 280, descriptorIndex := 25, attributes := #[] }, { accessFlags := 25, nameIndex := 282, descriptorIndex := 25, attributes := #[] }, { accessFlags := 25, nameIndex := 284, descriptorIndex := 25, attributes := #[] }, { accessFlags := 25, nameIndex := 286, descriptorIndex := 25, attributes := #[] }, { accessFlags := 25, nameIndex := 288, descriptorIndex := 25, attributes := #[] }, { accessFlags := 25, nameIndex := 290, descriptorIndex := 25, attributes := #[] }, { accessFlags := 25, nameIndex := 292, descriptorIndex := 25, attributes := #[] }, { accessFlags := 26, nameIndex := 108, descriptorIndex := 109, attributes := #[] }, { accessFlags := 25, nameIndex := 294, descriptorIndex := 25, attributes := #[] }])
  fields := #[{ name := "U", type := (.object "jdk/internal/misc/Unsafe"), accessFlags := 24, slot := 0, constantValue := 0 }, { name := "BIG_ENDIAN", type := .boolean, accessFlags := 26, slot := 1, constantValue := 0 }, { name := "LOG2_ARRAY_BOOLEAN_INDEX_SCALE", type := .int, accessFlags := 25, slot := 2, constantValue := 0 }, { name := "LOG2_ARRAY_BYTE_INDEX_SCALE", type := .int, accessFlags := 25, slot := 3, constantValue := 0 }, { name := "LOG2_ARRAY_CHAR_INDEX_SCALE", type := .int, accessFlags := 25, slot := 4, constantValue := 0 }, { name := "LOG2_ARRAY_SHORT_INDEX_SCALE", type := .int, accessFlags := 25, slot := 5, constantValue := 0 }, { name := "LOG2_ARRAY_INT_INDEX_SCALE", type := .int, accessFlags := 25, slot := 6, constantValue := 0 }, { name := "LOG2_ARRAY_LONG_INDEX_SCALE", type := .int, accessFlags := 25, slot := 7, constantValue := 0 }, { name := "LOG2_ARRAY_FLOAT_INDEX_SCALE", type := .int, accessFlags := 25, slot := 8, constantValue := 0 }, { name := "LOG2_ARRAY_DOUBLE_INDEX_SCALE", type := .int, accessFlags := 25, slot := 9, constantValue := 0 }, { name := "LOG2_BYTE_BIT_SIZE", type := .int, accessFlags := 26, slot := 10, constantValue := 0 }, { name := "T_BOOLEAN", type := .int, accessFlags := 25, slot := 11, constantValue := 0 }, { name := "T_CHAR", type := .int, accessFlags := 25, slot := 12, constantValue := 0 }, { name := "T_FLOAT", type := .int, accessFlags := 25, slot := 13, constantValue := 0 }, { name := "T_DOUBLE", type := .int, accessFlags := 25, slot := 14, constantValue := 0 }, { name := "T_BYTE", type := .int, accessFlags := 25, slot := 15, constantValue := 0 }, { name := "T_SHORT", type := .int, accessFlags := 25, slot := 16, constantValue := 0 }, { name := "T_INT", type := .int, accessFlags := 25, slot := 17, constantValue := 0 }, { name := "T_LONG", type := .int, accessFlags := 25, slot := 18, constantValue := 0 }, { name := "JLA", type := (.object "jdk/internal/access/JavaLangAccess"), accessFlags := 26, slot := 19, constantValue := 0 }, { name := "SOFT_MAX_ARRAY_LENGTH", type := .int, accessFlags := 25, slot := 20, constantValue := 0 }]
  methods := #[k16m0]
  instanceTypes := #[]
  staticTypes := #[(.object "jdk/internal/misc/Unsafe"), .boolean, .int, .int, .int, .int, .int, .int, .int, .int, .int, .int, .int, .int, .int, .int, .int, .int, .int, (.object "jdk/internal/access/JavaLangAccess"), .int]
  resolved := Array.replicate 378 none
  statics := none }

def pool17 : Array CpInfo := pool [(1, u "java/lang/Cloneable"), (0, .class_ 1), (0, u "java/lang/Object"), (0, .class_ 3)] 3

/-- java/lang/Cloneable -/
def k17 : Class := { plain "java/lang/Cloneable" (some 0) with
  accessFlags := 1537
  interfaces := #[]
  cf := some (fileOf pool17 2 #[] #[] 1537 4 #[] #[])
  fields := #[]
  methods := #[]
  instanceTypes := #[]
  staticTypes := #[]
  resolved := Array.replicate 8 none
  statics := none }

/-- the primitive byte -/
def k18 : Class := { plain "byte" none with kind := .primitive 'B', accessFlags := 0x411 }
/-- [B -/
def k19 : Class := { plain "[B" (some 0) with kind := .array 18 .byte, interfaces := #[17, 2], accessFlags := 1041 }

/-- the primitive char -/
def k20 : Class := { plain "char" none with kind := .primitive 'C', accessFlags := 0x411 }
/-- [C -/
def k21 : Class := { plain "[C" (some 0) with kind := .array 20 .char, interfaces := #[17, 2], accessFlags := 1041 }

/-- the primitive int -/
def k22 : Class := { plain "int" none with kind := .primitive 'I', accessFlags := 0x411 }
/-- [I -/
def k23 : Class := { plain "[I" (some 0) with kind := .array 22 .int, interfaces := #[17, 2], accessFlags := 1041 }

def heap : Heap := #[{ cls := 7, slots := #[.long 0, .int 1, .null, .int 0, .null, .int 0, .int 0], vm := .statics 7 },
  { cls := 8, slots := #[.int 0, .int 8, .int 0, .int 1], vm := .statics 8 },
  { cls := 11, slots := #[.null, .null, .null], vm := .statics 11 }]
def classes : Array Class := #[k0, k1, k2, k3, k4, k5, k6, k7, k8, k9, k10, k11, k12, k13, k14, k15, k16, k17, k18, k19, k20, k21, k22, k23]
def interned : List (Array UInt16 × Addr) := []
def slotsUsed : Nat := 14
def theMethod : MethodId := ⟨1, 1⟩
def args0 : Array Value := #[.int 3, .int 5, .int 2, .int 1]
def aboutOver (below : List Frame) : State where
  vm := { classes := classes, interned := interned.toArray }
  heap := heap
  slotsUsed := slotsUsed
  threads := #[{ frames := .invoking theMethod args0 :: below }]
def below0 : List Frame := [.native { method := ⟨0, 0⟩, args := #[] }]
def about1 : State := aboutOver below0
def p0 : Program := .bare "" "" ""
def e0 : Env := launch0.env 0 0 0
theorem w_frames : about1.frames = Frame.invoking theMethod args0 :: below0 := rfl
set_option maxRecDepth 65536 in
theorem w_args : argsFit about1.vm theMethod args0 = true := by decide +kernel
set_option maxRecDepth 65536 in
theorem w_heap : heapFits about1 = true := by decide +kernel
set_option maxRecDepth 65536 in
theorem w_runnable : about1.curStatus? = some .runnable := by decide +kernel
set_option maxRecDepth 65536 in
theorem w_alone : about1.alone = true := by decide +kernel
set_option maxRecDepth 65536 in
theorem w_named : about1.methodNamed? x = some theMethod := by decide +kernel
set_option maxRecDepth 65536 in
theorem w_hears : about1.hears theMethod below0 = true := by decide +kernel
set_option maxRecDepth 65536 in
theorem w_ripe : about1.ripe theMethod args0 below0 = true := by decide +kernel
theorem w_running : about1.status = .running := rfl
set_option maxRecDepth 65536 in
theorem w_room : about1.hasRoom e0.platform room_1 = true :=
  launch0.hasRoom_least _ room_1 (by decide +kernel) (by decide +kernel) (by decide +kernel) (by decide +kernel) (by decide +kernel) (by decide +kernel)
theorem allAtoms_all (ts : List Jvm.Cond) (a : Array Jvm.Value) (st : Jvm.State) : (allAtoms ts).before a st = ts.all (fun c => c.before a st) := by
  induction ts with
  | nil => rfl
  | cons c t ih =>
    show (Jvm.Cond.and c (allAtoms t)).before a st = _
    rw [Jvm.Cond.before_and, ih, List.all_cons]
def words1 : List Jvm.Cond := Jvm.Cond.code x code maxLocals ret :: tables_1
/-- a 'code' word, met by the world's own term for the bytes: nothing is compared byte by byte -/
theorem code_word {y : MethodName} {bytes : ByteArray} {mx : Nat} {rt : Option FieldType} {a : Array Value} {s : State} {m : MethodId} {meth : Method} {c : Code} (h1 : s.methodNamed? y = some m) (h2 : s.vm.method? m = some meth) (h3 : meth.code = some c) (h4 : c.code = bytes)
    (h5 : (c.maxLocals == mx && c.exceptionTable.isEmpty && decide (c.maxStack ≤ mostOperands) && decide (meth.sig.returnType = rt) && !meth.locks && decide (parseMethodDescriptor y.desc = some meth.sig)) = true) : (Jvm.Cond.code y bytes mx rt).before a s = true := by
  simp only [Bool.and_eq_true, beq_iff_eq, Bool.not_eq_true', decide_eq_true_eq] at h5
  obtain ⟨⟨⟨⟨⟨g1, g2⟩, g3⟩, g4⟩, g5⟩, g6⟩ := h5
  simp [Cond.before, Cond.holds, Cond.value, h1, h2, h3, h4, g1, g2, g3, g4, g5, g6]
def isCode : Jvm.Cond → Bool
  | .code _ _ _ _ => true
  | _ => false
theorem all_split {L : List Jvm.Cond} {P : Jvm.Cond → Bool} (h1 : L.all (fun c => isCode c || P c) = true) (h2 : ∀ c ∈ L.filter isCode, P c = true) : L.all P = true := by
  refine List.all_eq_true.mpr fun c hc => ?_
  have h := List.all_eq_true.mp h1 c hc
  rcases Bool.eq_false_or_eq_true (isCode c) with hi | hi
  · exact h2 c (List.mem_filter.mpr ⟨hc, hi⟩)
  · simpa [hi] using h
set_option maxRecDepth 65536 in
theorem w_c0 : (Jvm.Cond.code x code maxLocals ret).before args0 about1 = true := code_word (m := ⟨1, 1⟩) (meth := k1m1) (c := k1c1) (by decide +kernel) rfl rfl rfl (by decide +kernel)
set_option maxRecDepth 65536 in
theorem w_c1 : (Jvm.Cond.code ({ cls := "java/lang/String", name := "<init>", desc := "([C)V" } : Jvm.MethodName) jdk_42_method_3_code (2 : Nat) (Option.none : Option Jvm.ClassFile.FieldType)).before args0 about1 = true := code_word (m := ⟨7, 1⟩) (meth := k7m1) (c := k7c1) (by decide +kernel) rfl rfl rfl (by decide +kernel)
set_option maxRecDepth 65536 in
theorem w_c2 : (Jvm.Cond.code ({ cls := "java/lang/String", name := "<init>", desc := "([CIILjava/lang/Void;)V" } : Jvm.MethodName) jdk_42_method_149_code (6 : Nat) (Option.none : Option Jvm.ClassFile.FieldType)).before args0 about1 = true := code_word (m := ⟨7, 5⟩) (meth := k7m5) (c := k7c5) (by decide +kernel) rfl rfl rfl (by decide +kernel)
set_option maxRecDepth 65536 in
theorem w_c3 : (Jvm.Cond.code ({ cls := "java/lang/Object", name := "<init>", desc := "()V" } : Jvm.MethodName) object_method_1_code (1 : Nat) (Option.none : Option Jvm.ClassFile.FieldType)).before args0 about1 = true := code_word (m := ⟨0, 0⟩) (meth := k0m0) (c := k0c0) (by decide +kernel) rfl rfl rfl (by decide +kernel)
set_option maxRecDepth 65536 in
theorem w_c4 : (Jvm.Cond.code ({ cls := "java/lang/StringUTF16", name := "compress", desc := "([CII)[B" } : Jvm.MethodName) jdk_52_method_16_code (6 : Nat) (Option.some (Jvm.ClassFile.FieldType.array Jvm.ClassFile.FieldType.byte))).before args0 about1 = true := code_word (m := ⟨8, 8⟩) (meth := k8m8) (c := k8c8) (by decide +kernel) rfl rfl rfl (by decide +kernel)
set_option maxRecDepth 65536 in
theorem w_c5 : (Jvm.Cond.code ({ cls := "java/lang/StringUTF16", name := "compress", desc := "([CI[BII)I" } : Jvm.MethodName) jdk_52_method_21_code (7 : Nat) (Option.some Jvm.ClassFile.FieldType.int)).before args0 about1 = true := code_word (m := ⟨8, 10⟩) (meth := k8m10) (c := k8c10) (by decide +kernel) rfl rfl rfl (by decide +kernel)
set_option maxRecDepth 65536 in
theorem w_c6 : (Jvm.Cond.code ({ cls := "java/lang/StringUTF16", name := "coderFromArrayLen", desc := "([BI)B" } : Jvm.MethodName) jdk_52_method_15_code (2 : Nat) (Option.some Jvm.ClassFile.FieldType.byte)).before args0 about1 = true := code_word (m := ⟨8, 7⟩) (meth := k8m7) (c := k8c7) (by decide +kernel) rfl rfl rfl (by decide +kernel)
set_option maxRecDepth 65536 in
theorem w_c7 : (Jvm.Cond.code ({ cls := "com/example/kartoteka/kartoteka/Headings$Displayed", name := "<init>", desc := "(Ljava/lang/String;I)V" } : Jvm.MethodName) prog_14_method_1_code (3 : Nat) (Option.none : Option Jvm.ClassFile.FieldType)).before args0 about1 = true := code_word (m := ⟨10, 0⟩) (meth := k10m0) (c := k10c0) (by decide +kernel) rfl rfl rfl (by decide +kernel)
set_option maxRecDepth 65536 in
theorem w_c8 : (Jvm.Cond.code ({ cls := "java/lang/Record", name := "<init>", desc := "()V" } : Jvm.MethodName) jdk_30_method_1_code (1 : Nat) (Option.none : Option Jvm.ClassFile.FieldType)).before args0 about1 = true := code_word (m := ⟨9, 0⟩) (meth := k9m0) (c := k9c0) (by decide +kernel) rfl rfl rfl (by decide +kernel)
set_option maxRecDepth 65536 in
theorem w_c9 : (Jvm.Cond.code ({ cls := "com/example/kartoteka/kartoteka/Headings$Displayed", name := "mainPart", desc := "()Ljava/lang/String;" } : Jvm.MethodName) prog_14_method_2_code (1 : Nat) (Option.some (Jvm.ClassFile.FieldType.object "java/lang/String"))).before args0 about1 = true := code_word (m := ⟨10, 1⟩) (meth := k10m1) (c := k10c1) (by decide +kernel) rfl rfl rfl (by decide +kernel)
set_option maxRecDepth 65536 in
theorem w_c10 : (Jvm.Cond.code ({ cls := "java/lang/String", name := "substring", desc := "(II)Ljava/lang/String;" } : Jvm.MethodName) jdk_42_method_92_code (5 : Nat) (Option.some (Jvm.ClassFile.FieldType.object "java/lang/String"))).before args0 about1 = true := code_word (m := ⟨7, 4⟩) (meth := k7m4) (c := k7c4) (by decide +kernel) rfl rfl rfl (by decide +kernel)
set_option maxRecDepth 65536 in
theorem w_c11 : (Jvm.Cond.code ({ cls := "java/lang/String", name := "length", desc := "()I" } : Jvm.MethodName) jdk_42_method_54_code (1 : Nat) (Option.some Jvm.ClassFile.FieldType.int)).before args0 about1 = true := code_word (m := ⟨7, 2⟩) (meth := k7m2) (c := k7c2) (by decide +kernel) rfl rfl rfl (by decide +kernel)
set_option maxRecDepth 65536 in
theorem w_c12 : (Jvm.Cond.code ({ cls := "java/lang/String", name := "coder", desc := "()B" } : Jvm.MethodName) jdk_42_method_152_code (1 : Nat) (Option.some Jvm.ClassFile.FieldType.byte)).before args0 about1 = true := code_word (m := ⟨7, 7⟩) (meth := k7m7) (c := k7c7) (by decide +kernel) rfl rfl rfl (by decide +kernel)
set_option maxRecDepth 65536 in
theorem w_c13 : (Jvm.Cond.code ({ cls := "java/lang/String", name := "checkBoundsBeginEnd", desc := "(III)V" } : Jvm.MethodName) jdk_42_method_158_code (3 : Nat) (Option.none : Option Jvm.ClassFile.FieldType)).before args0 about1 = true := code_word (m := ⟨7, 11⟩) (meth := k7m11) (c := k7c11) (by decide +kernel) rfl rfl rfl (by decide +kernel)
set_option maxRecDepth 65536 in
theorem w_c14 : (Jvm.Cond.code ({ cls := "jdk/internal/util/Preconditions", name := "checkFromToIndex", desc := "(IIILjava/util/function/BiFunction;)I" } : Jvm.MethodName) jdk_41_method_12_code (4 : Nat) (Option.some Jvm.ClassFile.FieldType.int)).before args0 about1 = true := code_word (m := ⟨11, 2⟩) (meth := k11m2) (c := k11c2) (by decide +kernel) rfl rfl rfl (by decide +kernel)
set_option maxRecDepth 65536 in
theorem w_c15 : (Jvm.Cond.code ({ cls := "java/lang/String", name := "isLatin1", desc := "()Z" } : Jvm.MethodName) jdk_42_method_154_code (1 : Nat) (Option.some Jvm.ClassFile.FieldType.boolean)).before args0 about1 = true := code_word (m := ⟨7, 8⟩) (meth := k7m8) (c := k7c8) (by decide +kernel) rfl rfl rfl (by decide +kernel)
set_option maxRecDepth 65536 in
theorem w_c16 : (Jvm.Cond.code ({ cls := "java/lang/StringLatin1", name := "newString", desc := "([BII)Ljava/lang/String;" } : Jvm.MethodName) jdk_43_method_47_code (3 : Nat) (Option.some (Jvm.ClassFile.FieldType.object "java/lang/String"))).before args0 about1 = true := code_word (m := ⟨12, 2⟩) (meth := k12m2) (c := k12c2) (by decide +kernel) rfl rfl rfl (by decide +kernel)
set_option maxRecDepth 65536 in
theorem w_c17 : (Jvm.Cond.code ({ cls := "java/util/Arrays", name := "copyOfRange", desc := "([BII)[B" } : Jvm.MethodName) jdk_65_method_132_code (3 : Nat) (Option.some (Jvm.ClassFile.FieldType.array Jvm.ClassFile.FieldType.byte))).before args0 about1 = true := code_word (m := ⟨13, 2⟩) (meth := k13m2) (c := k13c2) (by decide +kernel) rfl rfl rfl (by decide +kernel)
set_option maxRecDepth 65536 in
theorem w_c18 : (Jvm.Cond.code ({ cls := "java/util/Arrays", name := "copyOfRangeByte", desc := "([BII)[B" } : Jvm.MethodName) jdk_65_method_133_code (5 : Nat) (Option.some (Jvm.ClassFile.FieldType.array Jvm.ClassFile.FieldType.byte))).before args0 about1 = true := code_word (m := ⟨13, 3⟩) (meth := k13m3) (c := k13c3) (by decide +kernel) rfl rfl rfl (by decide +kernel)
set_option maxRecDepth 65536 in
theorem w_c19 : (Jvm.Cond.code ({ cls := "java/util/Arrays", name := "checkLength", desc := "(II)V" } : Jvm.MethodName) jdk_65_method_131_code (2 : Nat) (Option.none : Option Jvm.ClassFile.FieldType)).before args0 about1 = true := code_word (m := ⟨13, 1⟩) (meth := k13m1) (c := k13c1) (by decide +kernel) rfl rfl rfl (by decide +kernel)
set_option maxRecDepth 65536 in
theorem w_c20 : (Jvm.Cond.code ({ cls := "java/lang/Math", name := "min", desc := "(II)I" } : Jvm.MethodName) jdk_29_method_69_code (2 : Nat) (Option.some Jvm.ClassFile.FieldType.int)).before args0 about1 = true := code_word (m := ⟨14, 1⟩) (meth := k14m1) (c := k14c1) (by decide +kernel) rfl rfl rfl (by decide +kernel)
set_option maxRecDepth 65536 in
theorem w_c21 : (Jvm.Cond.code ({ cls := "java/lang/String", name := "<init>", desc := "([BB)V" } : Jvm.MethodName) jdk_42_method_151_code (3 : Nat) (Option.none : Option Jvm.ClassFile.FieldType)).before args0 about1 = true := code_word (m := ⟨7, 6⟩) (meth := k7m6) (c := k7c6) (by decide +kernel) rfl rfl rfl (by decide +kernel)
set_option maxRecDepth 65536 in
theorem w_c22 : (Jvm.Cond.code ({ cls := "java/lang/String", name := "charAt", desc := "(I)C" } : Jvm.MethodName) jdk_42_method_56_code (2 : Nat) (Option.some Jvm.ClassFile.FieldType.char)).before args0 about1 = true := code_word (m := ⟨7, 3⟩) (meth := k7m3) (c := k7c3) (by decide +kernel) rfl rfl rfl (by decide +kernel)
set_option maxRecDepth 65536 in
theorem w_c23 : (Jvm.Cond.code ({ cls := "java/lang/StringLatin1", name := "charAt", desc := "([BI)C" } : Jvm.MethodName) jdk_43_method_2_code (2 : Nat) (Option.some Jvm.ClassFile.FieldType.char)).before args0 about1 = true := code_word (m := ⟨12, 1⟩) (meth := k12m1) (c := k12c1) (by decide +kernel) rfl rfl rfl (by decide +kernel)
set_option maxRecDepth 65536 in
theorem w_c24 : (Jvm.Cond.code ({ cls := "java/lang/String", name := "checkIndex", desc := "(II)V" } : Jvm.MethodName) jdk_42_method_155_code (2 : Nat) (Option.none : Option Jvm.ClassFile.FieldType)).before args0 about1 = true := code_word (m := ⟨7, 9⟩) (meth := k7m9) (c := k7c9) (by decide +kernel) rfl rfl rfl (by decide +kernel)
set_option maxRecDepth 65536 in
theorem w_c25 : (Jvm.Cond.code ({ cls := "jdk/internal/util/Preconditions", name := "checkIndex", desc := "(IILjava/util/function/BiFunction;)I" } : Jvm.MethodName) jdk_41_method_11_code (3 : Nat) (Option.some Jvm.ClassFile.FieldType.int)).before args0 about1 = true := code_word (m := ⟨11, 1⟩) (meth := k11m1) (c := k11c1) (by decide +kernel) rfl rfl rfl (by decide +kernel)
set_option maxRecDepth 65536 in
theorem w_c26 : (Jvm.Cond.code ({ cls := "java/lang/StringUTF16", name := "toBytes", desc := "([CII)[B" } : Jvm.MethodName) jdk_52_method_14_code (5 : Nat) (Option.some (Jvm.ClassFile.FieldType.array Jvm.ClassFile.FieldType.byte))).before args0 about1 = true := code_word (m := ⟨8, 6⟩) (meth := k8m6) (c := k8c6) (by decide +kernel) rfl rfl rfl (by decide +kernel)
set_option maxRecDepth 65536 in
theorem w_c27 : (Jvm.Cond.code ({ cls := "java/lang/StringUTF16", name := "newBytesFor", desc := "(I)[B" } : Jvm.MethodName) jdk_52_method_2_code (1 : Nat) (Option.some (Jvm.ClassFile.FieldType.array Jvm.ClassFile.FieldType.byte))).before args0 about1 = true := code_word (m := ⟨8, 1⟩) (meth := k8m1) (c := k8c1) (by decide +kernel) rfl rfl rfl (by decide +kernel)
set_option maxRecDepth 65536 in
theorem w_c28 : (Jvm.Cond.code ({ cls := "java/lang/StringUTF16", name := "newBytesLength", desc := "(I)I" } : Jvm.MethodName) jdk_52_method_3_code (1 : Nat) (Option.some Jvm.ClassFile.FieldType.int)).before args0 about1 = true := code_word (m := ⟨8, 2⟩) (meth := k8m2) (c := k8c2) (by decide +kernel) rfl rfl rfl (by decide +kernel)
set_option maxRecDepth 65536 in
theorem w_c29 : (Jvm.Cond.code ({ cls := "java/lang/StringUTF16", name := "putChar", desc := "([BII)V" } : Jvm.MethodName) jdk_52_method_4_code (3 : Nat) (Option.none : Option Jvm.ClassFile.FieldType)).before args0 about1 = true := code_word (m := ⟨8, 3⟩) (meth := k8m3) (c := k8c3) (by decide +kernel) rfl rfl rfl (by decide +kernel)
set_option maxRecDepth 65536 in
theorem w_c30 : (Jvm.Cond.code ({ cls := "java/lang/StringUTF16", name := "getChar", desc := "([BI)C" } : Jvm.MethodName) jdk_52_method_5_code (2 : Nat) (Option.some Jvm.ClassFile.FieldType.char)).before args0 about1 = true := code_word (m := ⟨8, 4⟩) (meth := k8m4) (c := k8c4) (by decide +kernel) rfl rfl rfl (by decide +kernel)
set_option maxRecDepth 65536 in
theorem w_c31 : (Jvm.Cond.code ({ cls := "java/lang/StringUTF16", name := "newString", desc := "([BII)Ljava/lang/String;" } : Jvm.MethodName) jdk_52_method_69_code (5 : Nat) (Option.some (Jvm.ClassFile.FieldType.object "java/lang/String"))).before args0 about1 = true := code_word (m := ⟨8, 12⟩) (meth := k8m12) (c := k8c12) (by decide +kernel) rfl rfl rfl (by decide +kernel)
set_option maxRecDepth 65536 in
theorem w_c32 : (Jvm.Cond.code ({ cls := "java/lang/StringUTF16", name := "charAt", desc := "([BI)C" } : Jvm.MethodName) jdk_52_method_83_code (2 : Nat) (Option.some Jvm.ClassFile.FieldType.char)).before args0 about1 = true := code_word (m := ⟨8, 13⟩) (meth := k8m13) (c := k8c13) (by decide +kernel) rfl rfl rfl (by decide +kernel)
set_option maxRecDepth 65536 in
theorem w_c33 : (Jvm.Cond.code ({ cls := "java/lang/StringUTF16", name := "checkIndex", desc := "(I[B)V" } : Jvm.MethodName) jdk_52_method_91_code (2 : Nat) (Option.none : Option Jvm.ClassFile.FieldType)).before args0 about1 = true := code_word (m := ⟨8, 14⟩) (meth := k8m14) (c := k8c14) (by decide +kernel) rfl rfl rfl (by decide +kernel)
set_option maxRecDepth 65536 in
theorem w_c34 : (Jvm.Cond.code ({ cls := "java/lang/StringUTF16", name := "length", desc := "([B)I" } : Jvm.MethodName) jdk_52_method_6_code (1 : Nat) (Option.some Jvm.ClassFile.FieldType.int)).before args0 about1 = true := code_word (m := ⟨8, 5⟩) (meth := k8m5) (c := k8c5) (by decide +kernel) rfl rfl rfl (by decide +kernel)
set_option maxRecDepth 65536 in
theorem w_c35 : (Jvm.Cond.code ({ cls := "java/lang/StringUTF16", name := "compress", desc := "([BII)[B" } : Jvm.MethodName) jdk_52_method_17_code (6 : Nat) (Option.some (Jvm.ClassFile.FieldType.array Jvm.ClassFile.FieldType.byte))).before args0 about1 = true := code_word (m := ⟨8, 9⟩) (meth := k8m9) (c := k8c9) (by decide +kernel) rfl rfl rfl (by decide +kernel)
set_option maxRecDepth 65536 in
theorem w_c36 : (Jvm.Cond.code ({ cls := "java/lang/StringUTF16", name := "compress", desc := "([BI[BII)I" } : Jvm.MethodName) jdk_52_method_22_code (7 : Nat) (Option.some Jvm.ClassFile.FieldType.int)).before args0 about1 = true := code_word (m := ⟨8, 11⟩) (meth := k8m11) (c := k8c11) (by decide +kernel) rfl rfl rfl (by decide +kernel)
set_option maxRecDepth 65536 in
theorem w_c37 : (Jvm.Cond.code ({ cls := "java/lang/StringUTF16", name := "checkBoundsOffCount", desc := "(II[B)V" } : Jvm.MethodName) jdk_52_method_94_code (3 : Nat) (Option.none : Option Jvm.ClassFile.FieldType)).before args0 about1 = true := code_word (m := ⟨8, 15⟩) (meth := k8m15) (c := k8c15) (by decide +kernel) rfl rfl rfl (by decide +kernel)
set_option maxRecDepth 65536 in
theorem w_c38 : (Jvm.Cond.code ({ cls := "java/lang/String", name := "checkBoundsOffCount", desc := "(III)I" } : Jvm.MethodName) jdk_42_method_157_code (3 : Nat) (Option.some Jvm.ClassFile.FieldType.int)).before args0 about1 = true := code_word (m := ⟨7, 10⟩) (meth := k7m10) (c := k7c10) (by decide +kernel) rfl rfl rfl (by decide +kernel)
set_option maxRecDepth 65536 in
theorem w_c39 : (Jvm.Cond.code ({ cls := "jdk/internal/util/Preconditions", name := "checkFromIndexSize", desc := "(IIILjava/util/function/BiFunction;)I" } : Jvm.MethodName) jdk_41_method_13_code (4 : Nat) (Option.some Jvm.ClassFile.FieldType.int)).before args0 about1 = true := code_word (m := ⟨11, 3⟩) (meth := k11m3) (c := k11c3) (by decide +kernel) rfl rfl rfl (by decide +kernel)
def codes1 : List Jvm.Cond := [Jvm.Cond.code x code maxLocals ret, Jvm.Cond.code ({ cls := "java/lang/String", name := "<init>", desc := "([C)V" } : Jvm.MethodName) jdk_42_method_3_code (2 : Nat) (Option.none : Option Jvm.ClassFile.FieldType), Jvm.Cond.code ({ cls := "java/lang/String", name := "<init>", desc := "([CIILjava/lang/Void;)V" } : Jvm.MethodName) jdk_42_method_149_code (6 : Nat) (Option.none : Option Jvm.ClassFile.FieldType), Jvm.Cond.code ({ cls := "java/lang/Object", name := "<init>", desc := "()V" } : Jvm.MethodName) object_method_1_code (1 : Nat) (Option.none : Option Jvm.ClassFile.FieldType), Jvm.Cond.code ({ cls := "java/lang/StringUTF16", name := "compress", desc := "([CII)[B" } : Jvm.MethodName) jdk_52_method_16_code (6 : Nat) (Option.some (Jvm.ClassFile.FieldType.array Jvm.ClassFile.FieldType.byte)), Jvm.Cond.code ({ cls := "java/lang/StringUTF16", name := "compress", desc := "([CI[BII)I" } : Jvm.MethodName) jdk_52_method_21_code (7 : Nat) (Option.some Jvm.ClassFile.FieldType.int), Jvm.Cond.code ({ cls := "java/lang/StringUTF16", name := "coderFromArrayLen", desc := "([BI)B" } : Jvm.MethodName) jdk_52_method_15_code (2 : Nat) (Option.some Jvm.ClassFile.FieldType.byte), Jvm.Cond.code ({ cls := "com/example/kartoteka/kartoteka/Headings$Displayed", name := "<init>", desc := "(Ljava/lang/String;I)V" } : Jvm.MethodName) prog_14_method_1_code (3 : Nat) (Option.none : Option Jvm.ClassFile.FieldType), Jvm.Cond.code ({ cls := "java/lang/Record", name := "<init>", desc := "()V" } : Jvm.MethodName) jdk_30_method_1_code (1 : Nat) (Option.none : Option Jvm.ClassFile.FieldType), Jvm.Cond.code ({ cls := "com/example/kartoteka/kartoteka/Headings$Displayed", name := "mainPart", desc := "()Ljava/lang/String;" } : Jvm.MethodName) prog_14_method_2_code (1 : Nat) (Option.some (Jvm.ClassFile.FieldType.object "java/lang/String")), Jvm.Cond.code ({ cls := "java/lang/String", name := "substring", desc := "(II)Ljava/lang/String;" } : Jvm.MethodName) jdk_42_method_92_code (5 : Nat) (Option.some (Jvm.ClassFile.FieldType.object "java/lang/String")), Jvm.Cond.code ({ cls := "java/lang/String", name := "length", desc := "()I" } : Jvm.MethodName) jdk_42_method_54_code (1 : Nat) (Option.some Jvm.ClassFile.FieldType.int), Jvm.Cond.code ({ cls := "java/lang/String", name := "coder", desc := "()B" } : Jvm.MethodName) jdk_42_method_152_code (1 : Nat) (Option.some Jvm.ClassFile.FieldType.byte), Jvm.Cond.code ({ cls := "java/lang/String", name := "checkBoundsBeginEnd", desc := "(III)V" } : Jvm.MethodName) jdk_42_method_158_code (3 : Nat) (Option.none : Option Jvm.ClassFile.FieldType), Jvm.Cond.code ({ cls := "jdk/internal/util/Preconditions", name := "checkFromToIndex", desc := "(IIILjava/util/function/BiFunction;)I" } : Jvm.MethodName) jdk_41_method_12_code (4 : Nat) (Option.some Jvm.ClassFile.FieldType.int), Jvm.Cond.code ({ cls := "java/lang/String", name := "isLatin1", desc := "()Z" } : Jvm.MethodName) jdk_42_method_154_code (1 : Nat) (Option.some Jvm.ClassFile.FieldType.boolean), Jvm.Cond.code ({ cls := "java/lang/StringLatin1", name := "newString", desc := "([BII)Ljava/lang/String;" } : Jvm.MethodName) jdk_43_method_47_code (3 : Nat) (Option.some (Jvm.ClassFile.FieldType.object "java/lang/String")), Jvm.Cond.code ({ cls := "java/util/Arrays", name := "copyOfRange", desc := "([BII)[B" } : Jvm.MethodName) jdk_65_method_132_code (3 : Nat) (Option.some (Jvm.ClassFile.FieldType.array Jvm.ClassFile.FieldType.byte)), Jvm.Cond.code ({ cls := "java/util/Arrays", name := "copyOfRangeByte", desc := "([BII)[B" } : Jvm.MethodName) jdk_65_method_133_code (5 : Nat) (Option.some (Jvm.ClassFile.FieldType.array Jvm.ClassFile.FieldType.byte)), Jvm.Cond.code ({ cls := "java/util/Arrays", name := "checkLength", desc := "(II)V" } : Jvm.MethodName) jdk_65_method_131_code (2 : Nat) (Option.none : Option Jvm.ClassFile.FieldType), Jvm.Cond.code ({ cls := "java/lang/Math", name := "min", desc := "(II)I" } : Jvm.MethodName) jdk_29_method_69_code (2 : Nat) (Option.some Jvm.ClassFile.FieldType.int), Jvm.Cond.code ({ cls := "java/lang/String", name := "<init>", desc := "([BB)V" } : Jvm.MethodName) jdk_42_method_151_code (3 : Nat) (Option.none : Option Jvm.ClassFile.FieldType), Jvm.Cond.code ({ cls := "java/lang/String", name := "charAt", desc := "(I)C" } : Jvm.MethodName) jdk_42_method_56_code (2 : Nat) (Option.some Jvm.ClassFile.FieldType.char), Jvm.Cond.code ({ cls := "java/lang/StringLatin1", name := "charAt", desc := "([BI)C" } : Jvm.MethodName) jdk_43_method_2_code (2 : Nat) (Option.some Jvm.ClassFile.FieldType.char), Jvm.Cond.code ({ cls := "java/lang/String", name := "checkIndex", desc := "(II)V" } : Jvm.MethodName) jdk_42_method_155_code (2 : Nat) (Option.none : Option Jvm.ClassFile.FieldType), Jvm.Cond.code ({ cls := "jdk/internal/util/Preconditions", name := "checkIndex", desc := "(IILjava/util/function/BiFunction;)I" } : Jvm.MethodName) jdk_41_method_11_code (3 : Nat) (Option.some Jvm.ClassFile.FieldType.int), Jvm.Cond.code ({ cls := "java/lang/StringUTF16", name := "toBytes", desc := "([CII)[B" } : Jvm.MethodName) jdk_52_method_14_code (5 : Nat) (Option.some (Jvm.ClassFile.FieldType.array Jvm.ClassFile.FieldType.byte)), Jvm.Cond.code ({ cls := "java/lang/StringUTF16", name := "newBytesFor", desc := "(I)[B" } : Jvm.MethodName) jdk_52_method_2_code (1 : Nat) (Option.some (Jvm.ClassFile.FieldType.array Jvm.ClassFile.FieldType.byte)), Jvm.Cond.code ({ cls := "java/lang/StringUTF16", name := "newBytesLength", desc := "(I)I" } : Jvm.MethodName) jdk_52_method_3_code (1 : Nat) (Option.some Jvm.ClassFile.FieldType.int), Jvm.Cond.code ({ cls := "java/lang/StringUTF16", name := "putChar", desc := "([BII)V" } : Jvm.MethodName) jdk_52_method_4_code (3 : Nat) (Option.none : Option Jvm.ClassFile.FieldType), Jvm.Cond.code ({ cls := "java/lang/StringUTF16", name := "getChar", desc := "([BI)C" } : Jvm.MethodName) jdk_52_method_5_code (2 : Nat) (Option.some Jvm.ClassFile.FieldType.char), Jvm.Cond.code ({ cls := "java/lang/StringUTF16", name := "newString", desc := "([BII)Ljava/lang/String;" } : Jvm.MethodName) jdk_52_method_69_code (5 : Nat) (Option.some (Jvm.ClassFile.FieldType.object "java/lang/String")), Jvm.Cond.code ({ cls := "java/lang/StringUTF16", name := "charAt", desc := "([BI)C" } : Jvm.MethodName) jdk_52_method_83_code (2 : Nat) (Option.some Jvm.ClassFile.FieldType.char), Jvm.Cond.code ({ cls := "java/lang/StringUTF16", name := "checkIndex", desc := "(I[B)V" } : Jvm.MethodName) jdk_52_method_91_code (2 : Nat) (Option.none : Option Jvm.ClassFile.FieldType), Jvm.Cond.code ({ cls := "java/lang/StringUTF16", name := "length", desc := "([B)I" } : Jvm.MethodName) jdk_52_method_6_code (1 : Nat) (Option.some Jvm.ClassFile.FieldType.int), Jvm.Cond.code ({ cls := "java/lang/StringUTF16", name := "compress", desc := "([BII)[B" } : Jvm.MethodName) jdk_52_method_17_code (6 : Nat) (Option.some (Jvm.ClassFile.FieldType.array Jvm.ClassFile.FieldType.byte)), Jvm.Cond.code ({ cls := "java/lang/StringUTF16", name := "compress", desc := "([BI[BII)I" } : Jvm.MethodName) jdk_52_method_22_code (7 : Nat) (Option.some Jvm.ClassFile.FieldType.int), Jvm.Cond.code ({ cls := "java/lang/StringUTF16", name := "checkBoundsOffCount", desc := "(II[B)V" } : Jvm.MethodName) jdk_52_method_94_code (3 : Nat) (Option.none : Option Jvm.ClassFile.FieldType), Jvm.Cond.code ({ cls := "java/lang/String", name := "checkBoundsOffCount", desc := "(III)I" } : Jvm.MethodName) jdk_42_method_157_code (3 : Nat) (Option.some Jvm.ClassFile.FieldType.int), Jvm.Cond.code ({ cls := "jdk/internal/util/Preconditions", name := "checkFromIndexSize", desc := "(IIILjava/util/function/BiFunction;)I" } : Jvm.MethodName) jdk_41_method_13_code (4 : Nat) (Option.some Jvm.ClassFile.FieldType.int)]
set_option maxRecDepth 65536 in
theorem codes_eq : words1.filter isCode = codes1 := rfl
theorem w_codes : ∀ c ∈ words1.filter isCode, c.before args0 about1 = true := by
  rw [codes_eq]
  intro c hc
  simp only [codes1, List.mem_cons, List.not_mem_nil, or_false] at hc
  rcases hc with rfl | rfl | rfl | rfl | rfl | rfl | rfl | rfl | rfl | rfl | rfl | rfl | rfl | rfl | rfl | rfl | rfl | rfl | rfl | rfl | rfl | rfl | rfl | rfl | rfl | rfl | rfl | rfl | rfl | rfl | rfl | rfl | rfl | rfl | rfl | rfl | rfl | rfl | rfl | rfl
  · exact w_c0
  · exact w_c1
  · exact w_c2
  · exact w_c3
  · exact w_c4
  · exact w_c5
  · exact w_c6
  · exact w_c7
  · exact w_c8
  · exact w_c9
  · exact w_c10
  · exact w_c11
  · exact w_c12
  · exact w_c13
  · exact w_c14
  · exact w_c15
  · exact w_c16
  · exact w_c17
  · exact w_c18
  · exact w_c19
  · exact w_c20
  · exact w_c21
  · exact w_c22
  · exact w_c23
  · exact w_c24
  · exact w_c25
  · exact w_c26
  · exact w_c27
  · exact w_c28
  · exact w_c29
  · exact w_c30
  · exact w_c31
  · exact w_c32
  · exact w_c33
  · exact w_c34
  · exact w_c35
  · exact w_c36
  · exact w_c37
  · exact w_c38
  · exact w_c39
set_option maxRecDepth 65536 in
theorem w_t1 : (words1.take 24).all (fun c => isCode c || c.before args0 about1) = true := by decide +kernel
set_option maxRecDepth 65536 in
theorem w_t2 : ((words1.drop 24).take 24).all (fun c => isCode c || c.before args0 about1) = true := by decide +kernel
set_option maxRecDepth 65536 in
theorem w_t3 : (((words1.drop 24).drop 24).take 24).all (fun c => isCode c || c.before args0 about1) = true := by decide +kernel
set_option maxRecDepth 65536 in
theorem w_t4 : ((((words1.drop 24).drop 24).drop 24).take 24).all (fun c => isCode c || c.before args0 about1) = true := by decide +kernel
set_option maxRecDepth 65536 in
theorem w_t5 : (((((words1.drop 24).drop 24).drop 24).drop 24).take 24).all (fun c => isCode c || c.before args0 about1) = true := by decide +kernel
set_option maxRecDepth 65536 in
theorem w_t6 : ((((((words1.drop 24).drop 24).drop 24).drop 24).drop 24).take 24).all (fun c => isCode c || c.before args0 about1) = true := by decide +kernel
set_option maxRecDepth 65536 in
theorem w_t7 : (((((((words1.drop 24).drop 24).drop 24).drop 24).drop 24).drop 24).take 24).all (fun c => isCode c || c.before args0 about1) = true := by decide +kernel
set_option maxRecDepth 65536 in
theorem w_t8 : (((((((words1.drop 24).drop 24).drop 24).drop 24).drop 24).drop 24).drop 24).all (fun c => isCode c || c.before args0 about1) = true := by decide +kernel
theorem w_tables : (allAtoms (Jvm.Cond.code x code maxLocals ret :: tables_1)).before args0 about1 = true := by
  rw [allAtoms_all]
  show words1.all (fun c => c.before args0 about1) = true
  refine all_split ?_ w_codes
  rw [← List.take_append_drop 24 words1, List.all_append, w_t1, ← List.take_append_drop 24 (words1.drop 24), List.all_append, w_t2, ← List.take_append_drop 24 ((words1.drop 24).drop 24), List.all_append, w_t3, ← List.take_append_drop 24 (((words1.drop 24).drop 24).drop 24), List.all_append, w_t4, ← List.take_append_drop 24 ((((words1.drop 24).drop 24).drop 24).drop 24), List.all_append, w_t5, ← List.take_append_drop 24 (((((words1.drop 24).drop 24).drop 24).drop 24).drop 24), List.all_append, w_t6, ← List.take_append_drop 24 ((((((words1.drop 24).drop 24).drop 24).drop 24).drop 24).drop 24), List.all_append, w_t7, w_t8]
  rfl
set_option maxRecDepth 65536 in
theorem w_rest : rest_1_c.before args0 about1 = true := by decide +kernel
set_option maxRecDepth 65536 in
theorem w_case : (Jvm.Cond.and given_1 narrow_1).before args0 about1 = true := by decide +kernel
set_option maxRecDepth 65536 in
theorem w_consts : constsHeld consts_1 about1 := Jvm.Lit.constsHeldB_iff.mp (by decide +kernel)
theorem w_applies : (headSpec (Jvm.Cond.code x code maxLocals ret :: tables_1) room_1).applies x e0.platform about1 = true :=
  (Spec.applies_iff w_frames).mpr ⟨w_running, w_runnable, w_alone, w_named, w_hears, w_ripe, w_room, w_tables⟩
theorem atStart : AtStart classFile x code maxLocals ret World_1 tables_1 room_1 Calls_1 rest_1 Pre_1 launch0 p0 e0 about1 theMethod args0 below0 :=
  ⟨lists_1, trivial, launch0.admits_env _ _ _, launch0.least_env, fairChoices_fair.cas, fairChoices_fair.clock, w_frames, w_args, w_heap, w_applies, ⟨w_consts, trivial⟩, w_rest, w_case⟩
end start1
theorem witness_1 : WitnessClaimed_1 := ⟨start1.p0, start1.e0, start1.about1, start1.theMethod, start1.args0, start1.below0, start1.atStart⟩
end Jvm.Pilot.@@N@@
