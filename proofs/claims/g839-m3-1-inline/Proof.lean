import JvmDerived
import JvmDerived.Pilot.@@N@@Statement
import JvmDerived.Pilot.@@N@@Code
set_option linter.unusedVariables false
set_option linter.unusedSimpArgs false
@@BLOCK:TracedD.lean.txt@@
namespace Jvm.Pilot.@@N@@
open Jvm Jvm.ClassFile Sem Op Lib Jvm.Free Jvm.Stand Jvm.LawKit Jvm.RoadKit Bundle Jvm.Free.XT Jvm.Pilot.@@N@@.Jvm.D
set_option maxRecDepth 65536
set_option maxHeartbeats 40000000
abbrev VI (x : Int32) : Slot := .val (.int x)
abbrev VR (x : Addr) : Slot := .val (.ref x)
abbrev HW (Z : State) (a0 : Array Value) : Prop := ∀ d ∈ tables_1, d.before a0 Z = true
theorem own_n0 {Z : State} {n0 : Nat} {h : Heap} (X : Old Z n0 h) : n0 ≤ h.size := X.1 ▸ X.2.1
theorem own_lt {a m n : Nat} (h : a < m) (k : m ≤ n) : a < n := Nat.lt_of_lt_of_le h k
theorem own_since0 (s : State) (n : Nat) : s.Since s.vm n := ⟨State.Warmed39.refl s, fun j p hj hp => absurd (Array.getElem?_eq_some_iff.mp hp).1 (Nat.not_lt.mpr hj)⟩
theorem own_narR {v : Value} {t : FieldType} (h : v.isRef = true) : narrow t v = v := by rcases ref_cases h with rfl | ⟨a, rfl⟩ <;> cases t <;> rfl
theorem own_fitR {v : Value} {t : FieldType} (h : v.isRef = true) (ht : t.isReference = true := by rfl) : fits t v = true := by rcases ref_cases h with rfl | ⟨a, rfl⟩ <;> cases t <;> first | rfl | cases ht
theorem own_cast {p : Program} {l : Launch} {e : Env} {R : Room} {s : State} {m : MethodId} {args : Array Value} {below : List Frame} {meth : Method} {c : Code} {T : State} {L L' : List Loc} {k k' n n' : Nat} (X : Stand p l e R s m args below meth c T L k n) (h1 : L = L') (h2 : k = k') (h3 : n = n') : Stand p l e R s m args below meth c T L' k' n' := by
  subst h1 h2 h3; exact X
theorem own_priv {s : State} {args : Array Value} {y : MethodName} (h : (Jvm.Cond.privateMethod y).before args s = true) : s.PrivateAt y := Cond.privateMethod_at h
abbrev own_CP (l : Launch) (Z : State) (y : MethodName) (bytes : ByteArray) (ml : Nat) (ret : Option FieldType) (ws : List Jvm.Cond) (R : Room) (as' : Array Value) (h0 : Heap) (Q : Option Value → Heap → List Loc → Prop) : Prop :=
  MetFree l y (head1 (Jvm.Cond.code y bytes ml ret :: ws) R) (fun a U => a = as' ∧ Z.Warmed39 U.vm ∧ U.heap = h0) (fun _ _ _ _ _ => True) (fun _ U o U' => ∃ v L, o = .returned v ∧ Q v U'.heap L ∧ FrameEnd U o U' L R.cells R.slots)
theorem own_P {l : Launch} {Z : State} {y : MethodName} {bytes : ByteArray} {ml : Nat} {ret : Option FieldType} {ws : List Jvm.Cond} {R : Room} {as' : Array Value} {h0 : Heap} {Q : Option Value → Heap → List Loc → Prop} (hpl : plainFor y = true)
    (H : ∀ (p : Program) (e : Env) (s : State) (m : MethodId) (below : List Frame) (meth : Method) (c : ClassFile.Code) (s₁ S0 : State), BodyLoose p l y (head1 (Jvm.Cond.code y bytes ml ret :: ws) R) bytes ml ret e s m as' below meth c s₁ → Z.Warmed39 s.vm → s.heap = h0 → p.tables.exec = Jvm.exec → c.code = bytes → c.maxLocals = ml → s.vm.findClass y.cls = some m.cls → meth.name = y.name →
      Stand p l e R s m as' below meth c s₁ [] 0 0 → s₁.heap = h0 → S0 = s₁.setTop (entryFrame m as' ml) → ∃ s₂ o, Steps p.tables e below S0 s₂ ∧ s₂.status = .running ∧ Ended s₂ below o ∧ ∃ v L, o = .returned v ∧ Q v s₂.heap L ∧ FrameEnd s o s₂ L R.cells R.slots) : own_CP l Z y bytes ml ret ws R as' h0 Q := by
  refine MetFree.of_bodySF hpl hisR ?_
  intro p e s m args below meth c s₁ Bd hml hP hK
  obtain ⟨rfl, hZ, hh⟩ := hP
  exact H p e s m below meth c s₁ _ Bd hZ hh Bd.exec Bd.bytes hml (findClass_of_methodNamed Bd.named) (name_of_methodNamed Bd.named Bd.method).1 (Stand.of_body Bd) (by rw [← hh, Bd.state]; rfl) rfl
theorem own_EL {Z a0} (hw : HW Z a0) : EW Z a0 consts_1 := (EW.cons (hw _ (List.mem_of_getElem? (i := 115) rfl)) (by decide) (EW.cons (hw _ (List.mem_of_getElem? (i := 284) rfl)) (by decide) (EW.cons (hw _ (List.mem_of_getElem? (i := 181) rfl)) (by decide) EW.nil)))
theorem own_SA {Z a0} (hw : HW Z a0) : ∀ d ∈ Bundle.stringAtoms, d.before a0 Z = true := fun d hd => hw d ((by decide +kernel : ∀ d ∈ Bundle.stringAtoms, d ∈ tables_1) d hd)
theorem own_safe_null {Z : State} {EL : List (String × Nat)} {vm : Vm} {h : Heap} {x : Addr} (hal : Z.vm.Alike vm) (E : Exa Z h x "java/lang/String") (F : Fld Z h x "java/lang/String" "value" "[B" .null) : Safe Z EL vm h x := by
  rintro ⟨p, hp, u, a, B, q, hqa, ⟨cS, ⟨S1, S2, S3⟩, -, hcl, hsb⟩, hy⟩
  rcases hy with hy | hy
  · subst hy
    obtain ⟨cell, cf, k, i, f, h1, h2, h3, h4, h5, h6, h7⟩ := F
    obtain ⟨k', h2', -⟩ := State.fieldFound?_setVm (s := Z) hal h2
    obtain ⟨c2, k2, i2, g1, -⟩ := S1.ffV
    have e1 : cell = q.sC := Option.some.inj (h1.symm.trans S1.ha)
    have e2 : (Z.setVm vm).fieldFound? "java/lang/String" "value" "[B" = some (c2, k2, i2, q.fSV) := g1
    have e3 := Option.some.inj (h2'.symm.trans e2)
    have e4 : f = q.fSV := congrArg (fun z => z.2.2.2) e3
    have e5 : q.sC.slots[q.fSV.slot]? = some (.ref q.sd) := S1.2.2.2.2.2.2.2.1
    rw [e1, e4, e5] at h7
    cases h7
  · subst hy
    obtain ⟨c1, k1, h1, h2, -⟩ := E
    have e1 : c1 = q.SA := Option.some.inj (h1.symm.trans S1.2.2.2.2.2.2.2.2.2.1)
    have h2' : vm.findClass "java/lang/String" = some c1.cls := by rw [hal.findClass]; exact h2
    have hcl' : vm.findClass "[B" = some q.SA.cls := hcl
    rw [e1] at h2'
    obtain ⟨k3, a1, a2⟩ := Vm.findClass_spec h2'
    obtain ⟨k4, b1, b2⟩ := Vm.findClass_spec hcl'
    cases a1.symm.trans b1
    exact absurd (a2.symm.trans b2) (by decide)
abbrev own_CH (l : Launch) (Z : State) (y : MethodName) (bytes : ByteArray) (ml : Nat) (ret : Option FieldType) (ws : List Jvm.Cond) (R : Room) (as' : Array Value) (h0 : Heap) (Q : Option Value → Heap → List Loc → Prop) : Prop :=
  MetFree l y (head1 (Jvm.Cond.code y bytes ml ret :: ws) R) (fun a U => a = as' ∧ Z.Warmed39 U.vm ∧ U.heap = h0 ∧ CHv Z consts_1 U.vm h0) (fun _ _ _ _ _ => True) (fun _ U o U' => ∃ v L, o = .returned v ∧ Q v U'.heap L ∧ CHr Z consts_1 U.vm U.heap U'.vm U'.heap ∧ ReturnedEndW U o U' L R.cells R.slots)
abbrev own_CK (l : Launch) (Z : State) (y : MethodName) (bytes : ByteArray) (ml : Nat) (ret : Option FieldType) (ws : List Jvm.Cond) (R : Room) (as' : Array Value) (h0 : Heap) (Q : Option Value → Heap → List Loc → Prop) : Prop :=
  MetFree l y (head1 (Jvm.Cond.code y bytes ml ret :: ws) R) (fun a U => a = as' ∧ Z.Warmed39 U.vm ∧ U.heap = h0 ∧ CHv Z consts_1 U.vm h0) (fun _ _ bl s _ => s.vm.MethodsKnown ∧ s.vm.FramesKnown bl) (fun _ U o U' => ∃ v L, o = .returned v ∧ Q v U'.heap L ∧ CHr Z consts_1 U.vm U.heap U'.vm U'.heap ∧ ReturnedEndW U o U' L R.cells R.slots)
theorem own_H {l : Launch} {Z : State} {y : MethodName} {bytes : ByteArray} {ml : Nat} {ret : Option FieldType} {ws : List Jvm.Cond} {R : Room} {as' : Array Value} {h0 : Heap} {Q : Option Value → Heap → List Loc → Prop} (hpl : plainFor y = true)
    (H : ∀ (p : Program) (e : Env) (s : State) (m : MethodId) (below : List Frame) (meth : Method) (c : ClassFile.Code) (s₁ S0 : State), BodyLoose p l y (head1 (Jvm.Cond.code y bytes ml ret :: ws) R) bytes ml ret e s m as' below meth c s₁ → Z.Warmed39 (s.setVm s.vm).vm → s.heap = h0 → CHv Z consts_1 s.vm h0 → s.Since s.vm h0.size → CHr Z consts_1 s.vm h0 s.vm h0 → p.tables.exec = Jvm.exec → c.code = bytes → c.maxLocals = ml → (s.setVm s.vm).vm.findClass y.cls = some m.cls → meth.name = y.name →
      Stand p l e R (s.setVm s.vm) m as' below meth c s₁ [] 0 0 → s₁.heap = h0 → S0 = s₁.setTop (entryFrame m as' ml) → ∃ s₂ o, Steps p.tables e below S0 s₂ ∧ s₂.status = .running ∧ Ended s₂ below o ∧ ∃ v L, o = .returned v ∧ Q v s₂.heap L ∧ CHr Z consts_1 s.vm s.heap s₂.vm s₂.heap ∧ ReturnedEndW s o s₂ L R.cells R.slots) : own_CH l Z y bytes ml ret ws R as' h0 Q := by
  refine MetFree.of_bodySF hpl hisR ?_
  intro p e s m args below meth c s₁ Bd hml hP hK
  obtain ⟨rfl, hZ, hh, CH0⟩ := hP
  exact H p e s m below meth c s₁ _ Bd hZ hh CH0 (own_since0 s _) (CHr.refl CH0) Bd.exec Bd.bytes hml (findClass_of_methodNamed Bd.named) (name_of_methodNamed Bd.named Bd.method).1 (Stand.of_body Bd) (by rw [← hh, Bd.state]; rfl) rfl
theorem own_K {l : Launch} {Z : State} {y : MethodName} {bytes : ByteArray} {ml : Nat} {ret : Option FieldType} {ws : List Jvm.Cond} {R : Room} {as' : Array Value} {h0 : Heap} {Q : Option Value → Heap → List Loc → Prop} (hpl : plainFor y = true)
    (H : ∀ (p : Program) (e : Env) (s : State) (m : MethodId) (below : List Frame) (meth : Method) (c : ClassFile.Code) (s₁ S0 : State), BodyLoose p l y (head1 (Jvm.Cond.code y bytes ml ret :: ws) R) bytes ml ret e s m as' below meth c s₁ → Z.Warmed39 (s.setVm s.vm).vm → s.heap = h0 → CHv Z consts_1 s.vm h0 → s.Since s.vm h0.size → CHr Z consts_1 s.vm h0 s.vm h0 → s.vm.MethodsKnown → s.vm.FramesKnown below → p.tables.exec = Jvm.exec → c.code = bytes → c.maxLocals = ml → (s.setVm s.vm).vm.findClass y.cls = some m.cls → meth.name = y.name →
      Stand p l e R (s.setVm s.vm) m as' below meth c s₁ [] 0 0 → s₁.heap = h0 → S0 = s₁.setTop (entryFrame m as' ml) → ∃ s₂ o, Steps p.tables e below S0 s₂ ∧ s₂.status = .running ∧ Ended s₂ below o ∧ ∃ v L, o = .returned v ∧ Q v s₂.heap L ∧ CHr Z consts_1 s.vm s.heap s₂.vm s₂.heap ∧ ReturnedEndW s o s₂ L R.cells R.slots) : own_CK l Z y bytes ml ret ws R as' h0 Q := by
  refine MetFree.of_bodySF hpl hisR ?_
  intro p e s m args below meth c s₁ Bd hml hP hK
  obtain ⟨rfl, hZ, hh, CH0⟩ := hP
  exact H p e s m below meth c s₁ _ Bd hZ hh CH0 (own_since0 s _) (CHr.refl CH0) hK.1 hK.2 Bd.exec Bd.bytes hml (findClass_of_methodNamed Bd.named) (name_of_methodNamed Bd.named Bd.method).1 (Stand.of_body Bd) (by rw [← hh, Bd.state]; rfl) rfl
def own_lo8 (x : Int32) : Int32 := nar .byte (x.toInt8.toInt32)
def own_ch (x : Int32) : Int32 := nar .char ((x &&& (255 : Int32)).toUInt32.toUInt16.toUInt32.toInt32)
def own_at (x : Int32) : Int32 := nar .char (own_ch x)
theorem own_at_says {c : Int32} (h0 : ¬ (c < (0 : Int32))) (h1 : ¬ ((255 : Int32) < c)) : own_at (own_lo8 c) = c := by
  rw [Int32.lt_iff_toInt_lt] at h0 h1
  have z0 : (0 : Int32).toInt = 0 := rfl
  have z1 : (255 : Int32).toInt = 255 := rfl
  have r1 := c_i2b c
  have r2 := c_i2b (c.toInt8.toInt32)
  have e1 : own_lo8 c = c.toInt8.toInt32.toInt8.toInt32 := rfl
  rw [← e1] at r2
  have m1 := c_mask (own_lo8 c) 255 8 (by decide) (by decide)
  have p8 : ((2 ^ 8 : Nat) : Int) = 256 := rfl
  rw [p8] at m1
  have k1 := c_i2c (own_lo8 c &&& 255)
  have k2 := c_i2c ((own_lo8 c &&& 255).toUInt32.toUInt16.toUInt32.toInt32)
  have k3 := c_i2c (((own_lo8 c &&& 255).toUInt32.toUInt16.toUInt32.toInt32).toUInt32.toUInt16.toUInt32.toInt32)
  have e3 : own_at (own_lo8 c) = (((own_lo8 c &&& 255).toUInt32.toUInt16.toUInt32.toInt32).toUInt32.toUInt16.toUInt32.toInt32).toUInt32.toUInt16.toUInt32.toInt32 := rfl
  rw [← e3] at k3
  apply Int32.toInt_inj.mp
  omega
def own_cb (x : Int32) : Int32 := (x &&& (255 : Int32)).toUInt32.toUInt16.toUInt32.toInt32
theorem own_cb_eq (x : Int32) : own_cb x = x &&& 255 := i2c_mask x
theorem own_cb_nar {x : Int32} : nar .char (own_cb x) = own_cb x := by
  rw [own_cb_eq]; exact i2c_mask x
theorem own_cb_hi (x : Int32) : ¬ ((255 : Int32) < own_cb x) := by
  rw [own_cb_eq, Int32.lt_iff_toInt_lt]
  have h := (c_and x 255 (by decide)).2
  omega
theorem own_cb_lo (x : Int32) : ¬ (own_cb x < (0 : Int32)) := by
  rw [own_cb_eq, Int32.lt_iff_toInt_lt]
  have h := (c_and x 255 (by decide)).1
  have e : (0 : Int32).toInt = 0 := rfl
  omega
def own_u8 (x : Int32) : Int32 := (x.toUInt32 >>> ((8 : Int32) &&& 31).toUInt32).toInt32
def own_iv (cs : List Int32) : List Value := cs.map Value.int
def own_gt (cs : List Int32) (j : Int32) : Int32 := cs.getD j.toNatClampNeg 0
theorem own_iv_at (cs : List Int32) (j : Int32) : (own_iv cs).getD j.toNatClampNeg (.int 0) = .int (own_gt cs j) := by
  unfold own_iv own_gt
  rw [List.getD_eq_getElem?_getD, List.getD_eq_getElem?_getD, List.getElem?_map]
  cases cs[j.toNatClampNeg]? <;> rfl
theorem own_pad (n : Nat) : ∀ i, (own_iv (List.replicate n 0)).getD i (.int 0) = ([] : List Value).getD i (.int 0) := fun i => by
  unfold own_iv
  rw [List.map_replicate, List.getD_eq_getElem?_getD, List.getElem?_replicate]
  by_cases h : i < n <;> simp [h]
theorem own_iv_set {Z : State} {h : Heap} {a : Addr} {k : ClassId} {ty : FieldType} {z : Int32} {cs : List Int32} {i : Nat} {x : Int32} {d : Value} (A : Arv Z h a k ty z ((own_iv cs).set i (.int x)) d) : Arv Z h a k ty z (own_iv (cs.set i x)) d := by
  unfold own_iv at A ⊢
  rw [List.map_set]; exact A
theorem own_ix {cs : List Int32} {z j : Int32} (hl : cs.length = z.toNatClampNeg) (h0 : ¬ (j < (0 : Int32))) (h1 : j < z) : j.toNatClampNeg < (own_iv cs).length := by
  unfold own_iv
  rw [List.length_map, hl]
  rw [Int32.lt_iff_toInt_lt] at h0 h1
  have z0 : (0 : Int32).toInt = 0 := rfl
  show j.toInt.toNat < z.toInt.toNat
  omega
theorem own_setlen {cs : List Int32} {i : Nat} {x : Int32} {n : Nat} (h : cs.length = n) : (cs.set i x).length = n := by rw [List.length_set]; exact h
def own_bs (cs : List Int32) : List Int32 := cs.map own_lo8
def own_mix (cs ys : List Int32) (j : Int32) : List Int32 := (own_bs cs).take j.toNatClampNeg ++ ys.drop j.toNatClampNeg
theorem own_mix0 (cs ys : List Int32) : own_mix cs ys 0 = ys := by simp [own_mix, show (0 : Int32).toNatClampNeg = 0 from rfl]
theorem own_nat {j z : Int32} (h0 : ¬ (j < (0 : Int32))) (h1 : j < z) : j.toNatClampNeg < z.toNatClampNeg ∧ (j + (1 : Int32)).toNatClampNeg = j.toNatClampNeg + 1 ∧ ¬ ((j + (1 : Int32)) < (0 : Int32)) ∧ ¬ (z < (j + (1 : Int32))) := by
  rw [Int32.lt_iff_toInt_lt] at *
  have z0 : (0 : Int32).toInt = 0 := rfl
  have o : (1 : Int32).toInt = 1 := rfl
  have a := c_iadd j 1
  have r := rng32 (j + 1)
  have r1 := rng32 z
  rw [o] at a
  have e : (j + 1).toInt = j.toInt + 1 := by omega
  refine ⟨?_, ?_, ?_, ?_⟩
  · show j.toInt.toNat < z.toInt.toNat
    omega
  · show (j + 1).toInt.toNat = j.toInt.toNat + 1
    rw [e]; omega
  · omega
  · rw [Int32.lt_iff_toInt_lt]; omega
theorem own_mixlen {cs ys : List Int32} {n : Nat} (h1 : cs.length = n) (h2 : ys.length = n) {j : Int32} (hj : j.toNatClampNeg ≤ n) : (own_mix cs ys j).length = n := by
  simp [own_mix, own_bs, h1, h2]; omega
theorem own_mixset {cs ys : List Int32} {z j : Int32} (h1 : cs.length = z.toNatClampNeg) (h2 : ys.length = z.toNatClampNeg) (h0 : ¬ (j < (0 : Int32))) (hj : j < z) : (own_mix cs ys j).set j.toNatClampNeg (own_lo8 (own_gt cs j)) = own_mix cs ys (j + (1 : Int32)) := by
  obtain ⟨q1, q2, -, -⟩ := own_nat h0 hj
  unfold own_mix own_gt
  rw [q2]
  have l1 : ((own_bs cs).take j.toNatClampNeg).length = j.toNatClampNeg := by simp [own_bs, h1]; omega
  rw [List.set_append_right _ _ (by rw [l1]; exact Nat.le_refl _), l1, Nat.sub_self]
  have e1 : ys.drop j.toNatClampNeg = ys[j.toNatClampNeg]'(by omega) :: ys.drop (j.toNatClampNeg + 1) := List.drop_eq_getElem_cons (by omega)
  have e2 : (own_bs cs).take (j.toNatClampNeg + 1) = (own_bs cs).take j.toNatClampNeg ++ [own_lo8 (cs.getD j.toNatClampNeg 0)] := by
    rw [List.take_add_one]
    congr 1
    simp [own_bs, List.getElem?_map, List.getD_eq_getElem?_getD, List.getElem?_eq_getElem (show j.toNatClampNeg < cs.length by omega)]
  rw [e1, e2, List.set_cons_zero, List.append_assoc]
  rfl
theorem own_mixend {cs ys : List Int32} {z j : Int32} (h1 : cs.length = z.toNatClampNeg) (h2 : ys.length = z.toNatClampNeg) (hj : ¬ (j < z)) (hk : ¬ (z < j)) : own_mix cs ys j = own_bs cs := by
  obtain rfl : j = z := by
    rw [Int32.lt_iff_toInt_lt] at hj hk
    exact Int32.toInt_inj.mp (by omega)
  unfold own_mix
  rw [List.take_of_length_le (by simp [own_bs, h1]), List.drop_of_length_le (by rw [h2]; exact Nat.le_refl _), List.append_nil]
def own_lat (cs : List Int32) : Prop := ∀ c ∈ cs, ¬ (c < (0 : Int32)) ∧ ¬ ((255 : Int32) < c)
theorem own_lat_at {cs : List Int32} (h : own_lat cs) (j : Int32) : ¬ (own_gt cs j < (0 : Int32)) ∧ ¬ ((255 : Int32) < own_gt cs j) := by
  unfold own_gt
  rw [List.getD_eq_getElem?_getD]
  cases q : cs[j.toNatClampNeg]? with
  | none => exact ⟨by decide, by decide⟩
  | some c => exact h c (List.mem_of_getElem? q)
theorem own_dec {j z : Int32} (h0 : ¬ (j < (0 : Int32))) (h1 : j < z) : z.toNatClampNeg - (j + (1 : Int32)).toNatClampNeg < z.toNatClampNeg - j.toNatClampNeg := by
  obtain ⟨q1, q2, -, -⟩ := own_nat h0 h1
  omega
theorem own_jle {j z : Int32} (h : ¬ (z < j)) : j.toNatClampNeg ≤ z.toNatClampNeg := by
  rw [Int32.lt_iff_toInt_lt] at h
  show j.toInt.toNat ≤ z.toInt.toNat
  omega
theorem own_cod (n : Int32) : nar .byte (((n - n).toUInt32 >>> ((31 : Int32) &&& 31).toUInt32).toInt32.toInt8.toInt32) = 0 := by
  rw [Int32.sub_self]; rfl
theorem own_shr0 (x : Int32) : x >>> ((0 : Int32) &&& 31) = x := by
  rw [show ((0 : Int32) &&& 31) = 0 from rfl]
  exact Int32.shiftRight_zero
theorem own_chsays {cs : List Int32} {nn ii : Int32} (hl : cs.length = nn.toNatClampNeg) (hla : own_lat cs) (h1 : ¬ (ii < (0 : Int32))) (h2 : ii < nn) : own_at (own_gt (own_bs cs) ii) = own_gt cs ii := by
  have q := (own_nat h1 h2).1
  have e : own_gt (own_bs cs) ii = own_lo8 (own_gt cs ii) := by
    unfold own_gt own_bs
    rw [List.getD_eq_getElem?_getD, List.getD_eq_getElem?_getD, List.getElem?_map, List.getElem?_eq_getElem (show ii.toNatClampNeg < cs.length by omega)]
    rfl
  rw [e]
  exact own_at_says (own_lat_at hla ii).1 (own_lat_at hla ii).2
theorem own_narc {c : Int32} (h0 : ¬ (c < (0 : Int32))) (h1 : ¬ ((255 : Int32) < c)) : nar .char c = c := by
  rw [Int32.lt_iff_toInt_lt] at h0 h1
  have z0 : (0 : Int32).toInt = 0 := rfl
  have z1 : (255 : Int32).toInt = 255 := rfl
  have k := c_i2c c
  have e : nar .char c = c.toUInt32.toUInt16.toUInt32.toInt32 := rfl
  rw [e]
  apply Int32.toInt_inj.mp
  omega
theorem own_setlat {cs : List Int32} {i : Nat} {c : Int32} (h : own_lat cs) (h0 : ¬ (c < (0 : Int32))) (h1 : ¬ ((255 : Int32) < c)) : own_lat (cs.set i c) := fun d hd => by
  rcases List.mem_or_eq_of_mem_set hd with q | q
  · exact h d q
  · subst q; exact ⟨h0, h1⟩
def own_pws : List Int64 := [1, 10, 100, 1000, 10000, 100000, 1000000, 10000000, 100000000, 1000000000, 10000000000, 100000000000, 1000000000000, 10000000000000, 100000000000000, 1000000000000000, 10000000000000000, 100000000000000000, 1000000000000000000]
def own_jv (cs : List Int64) : List Value := cs.map Value.long
def own_gj (cs : List Int64) (j : Int32) : Int64 := cs.getD j.toNatClampNeg 0
theorem own_jv_at (cs : List Int64) (j : Int32) : (own_jv cs).getD j.toNatClampNeg (.long 0) = .long (own_gj cs j) := by
  unfold own_jv own_gj
  rw [List.getD_eq_getElem?_getD, List.getD_eq_getElem?_getD, List.getElem?_map]
  cases cs[j.toNatClampNeg]? <;> rfl
def own_dig (y : Int64) (n i : Int32) : Int64 := ((y / (own_gj own_pws ((n - (1 : Int32)) - i))) - ((y / (own_gj own_pws ((n - (1 : Int32)) - i))) / (10 : Int64)) * (10 : Int64))
def own_dcr (y : Int64) (n i : Int32) : Int32 := (((48 : Int32) + (own_dig y n i).toInt32).toUInt32.toUInt16.toUInt32.toInt32)
def own_isd (c : Int32) : Bool := !(decide (c < (48 : Int32))) && !(decide ((57 : Int32) < c))
def own_go : List Int32 → Int64 → Int64
  | [], a => a
  | c :: cs, a => if own_isd c = true then own_go cs ((a * (10 : Int64)) + ((c - (48 : Int32)).toInt64)) else -1
def own_value (cs : List Int32) : Int64 := if cs.length = 0 ∨ 18 < cs.length ∨ (1 < cs.length ∧ own_gt cs 0 = (48 : Int32)) then -1 else own_go cs 0
-- powers
theorem own_pwsk : ∀ k : Nat, k < 19 → own_pws.getD k 0 = Int64.ofNat (10 ^ k) := by decide +kernel
theorem own_pow_lt (k : Nat) (h : k < 19) : 0 < 10 ^ k ∧ 10 ^ k < 2 ^ 63 := by
  have : ∀ k : Nat, k < 19 → 0 < 10 ^ k ∧ 10 ^ k < 2 ^ 63 := by decide +kernel
  exact this k h
theorem own_divN {N M : Nat} (h : N < 2 ^ 63) (hM : M < 2 ^ 63) : Int64.ofNat N / Int64.ofNat M = Int64.ofNat (N / M) := by
  have hd : N / M < 2 ^ 63 := Nat.lt_of_le_of_lt (Nat.div_le_self _ _) h
  apply Int64.toInt_inj.mp
  rw [Int64.toInt_div, Int64.toInt_ofNat_of_lt h, Int64.toInt_ofNat_of_lt hM, Int64.toInt_ofNat_of_lt hd, ← Int.ofNat_tdiv]
  generalize N / M = q at *
  exact Int.bmod_eq_of_le (by omega) (by omega)
theorem own_modN {N M : Nat} (h : N < 2 ^ 63) (hM : M < 2 ^ 63) : Int64.ofNat N - (Int64.ofNat N / Int64.ofNat M) * Int64.ofNat M = Int64.ofNat (N % M) := by
  rw [own_divN h hM, ← Int64.ofNat_mul]
  have e : Int64.ofNat N = Int64.ofNat (N / M * M) + Int64.ofNat (N % M) := by
    rw [← Int64.ofNat_add]; congr 1
    have := Nat.div_add_mod N M
    rw [Nat.mul_comm] at this; omega
  rw [e]; grind
def own_N (y : Int64) : Nat := y.toInt.toNat
theorem own_Ny {y : Int64} (h : ¬ (y < (0 : Int64))) : y = Int64.ofNat (own_N y) ∧ own_N y < 2 ^ 63 := by
  rw [Int64.lt_iff_toInt_lt] at h
  have z0 : (0 : Int64).toInt = 0 := rfl
  rw [z0] at h
  have r1 := Int64.toInt_lt y
  have hN : own_N y < 2 ^ 63 := by unfold own_N; omega
  refine ⟨?_, hN⟩
  apply Int64.toInt_inj.mp
  rw [Int64.toInt_ofNat_of_lt hN]; unfold own_N; omega
theorem own_gjk {j : Int32} (h : j.toNatClampNeg < 19) : own_gj own_pws j = Int64.ofNat (10 ^ j.toNatClampNeg) := own_pwsk _ h
theorem own_dig_eq {y : Int64} {n i : Int32} (hy : ¬ (y < (0 : Int64))) (hi : ((n - (1 : Int32)) - i).toNatClampNeg < 19) : own_dig y n i = Int64.ofNat (own_N y / 10 ^ ((n - (1 : Int32)) - i).toNatClampNeg % 10) := by
  obtain ⟨e, hN⟩ := own_Ny hy
  obtain ⟨p0, p1⟩ := own_pow_lt _ hi
  unfold own_dig
  rw [own_gjk hi]
  generalize 10 ^ ((n - (1 : Int32)) - i).toNatClampNeg = M at *
  have h2 : own_N y / M < 2 ^ 63 := Nat.lt_of_le_of_lt (Nat.div_le_self _ _) hN
  have e1 : y / Int64.ofNat M = Int64.ofNat (own_N y / M) := by
    conv => lhs; rw [e]
    exact own_divN hN p1
  rw [e1]
  exact own_modN (M := 10) h2 (by decide)
theorem own_sub_nat {n i : Int32} (h0 : ¬ (i < (0 : Int32))) (h1 : i < n) : ((n - (1 : Int32)) - i).toNatClampNeg = n.toNatClampNeg - 1 - i.toNatClampNeg ∧ ¬ (((n - (1 : Int32)) - i) < (0 : Int32)) ∧ n.toInt.toNat = n.toNatClampNeg ∧ i.toNatClampNeg < n.toNatClampNeg := by
  rw [Int32.lt_iff_toInt_lt] at *
  have z0 : (0 : Int32).toInt = 0 := rfl
  have o : (1 : Int32).toInt = 1 := rfl
  rw [z0] at h0
  have r1 := Int32.toInt_lt n
  have e1 : (n - (1 : Int32)).toInt = n.toInt - 1 := by
    rw [Int32.toInt_sub, o]; exact Int.bmod_eq_of_le (by omega) (by omega)
  have e2 : ((n - (1 : Int32)) - i).toInt = n.toInt - 1 - i.toInt := by
    rw [Int32.toInt_sub, e1]; exact Int.bmod_eq_of_le (by omega) (by omega)
  refine ⟨?_, ?_, rfl, ?_⟩
  · show ((n - (1 : Int32)) - i).toInt.toNat = n.toInt.toNat - 1 - i.toInt.toNat
    omega
  · rw [e2, z0]; omega
  · show i.toInt.toNat < n.toInt.toNat
    omega
theorem own_lt19 {n i : Int32} (h0 : ¬ (i < (0 : Int32))) (h1 : i < n) (h2 : ¬ ((19 : Int32) < n)) : ((n - (1 : Int32)) - i).toNatClampNeg < 19 ∧ ((n - (1 : Int32)) - i) < (19 : Int32) ∧ n.toNatClampNeg ≤ 19 := by
  obtain ⟨q1, q2, q3, q4⟩ := own_sub_nat h0 h1
  rw [Int32.lt_iff_toInt_lt] at h2 q2 ⊢
  have o : (19 : Int32).toInt = 19 := rfl
  have z0 : (0 : Int32).toInt = 0 := rfl
  rw [o] at h2 ⊢
  rw [z0] at q2
  have q6 : i.toNatClampNeg = i.toInt.toNat := rfl
  have q5 : ((n - (1 : Int32)) - i).toNatClampNeg = ((n - (1 : Int32)) - i).toInt.toNat := rfl
  refine ⟨?_, ?_, ?_⟩ <;> omega
theorem own_pnz {j : Int32} (h : j.toNatClampNeg < 19) : ¬ (own_gj own_pws j = (0 : Int64)) := by
  have : ∀ k : Nat, k < 19 → ¬ (own_pws.getD k 0 = (0 : Int64)) := by decide +kernel
  exact this _ h
-- the digits
def own_dl (N : Nat) : Nat → List Int32
  | 0 => []
  | k + 1 => Int32.ofNat (48 + N / 10 ^ k % 10) :: own_dl N k
theorem own_dl_len (N : Nat) : ∀ k, (own_dl N k).length = k
  | 0 => rfl
  | k + 1 => by rw [own_dl, List.length_cons, own_dl_len N k]
theorem own_dl_at (N : Nat) : ∀ k i, i < k → (own_dl N k)[i]? = some (Int32.ofNat (48 + N / 10 ^ (k - 1 - i) % 10))
  | 0, _, h => by omega
  | k + 1, 0, _ => by rw [own_dl, List.getElem?_cons_zero]; rfl
  | k + 1, i + 1, h => by
    rw [own_dl, List.getElem?_cons_succ, own_dl_at N k i (by omega)]
    rw [show k - 1 - i = k + 1 - 1 - (i + 1) by omega]
theorem own_d10 : ∀ d : Nat, d < 10 → own_isd (Int32.ofNat (48 + d)) = true ∧ (((48 : Int32) + (Int64.ofNat d).toInt32).toUInt32.toUInt16.toUInt32.toInt32) = Int32.ofNat (48 + d) ∧ ((Int32.ofNat (48 + d)) - (48 : Int32)).toInt64 = Int64.ofNat d ∧ ¬ (Int32.ofNat (48 + d) < (0 : Int32)) ∧ ¬ ((255 : Int32) < Int32.ofNat (48 + d)) := by decide +kernel
theorem own_dl_dig (N : Nat) : ∀ k, ∀ c ∈ own_dl N k, own_isd c = true ∧ ¬ (c < (0 : Int32)) ∧ ¬ ((255 : Int32) < c)
  | 0, c, h => by cases h
  | k + 1, c, h => by
    rw [own_dl] at h
    rcases List.mem_cons.mp h with rfl | h
    · have q := own_d10 (N / 10 ^ k % 10) (Nat.mod_lt _ (by decide))
      exact ⟨q.1, q.2.2.2.1, q.2.2.2.2⟩
    · exact own_dl_dig N k c h
theorem own_modI {x n : Int32} (h : 0 ≤ x.toInt) (hn : 0 < n.toInt) : (x % n).toInt = x.toInt % n.toInt := by
  rw [Int32.toInt_mod, Int.tmod_eq_emod_of_nonneg h]
-- a builder's bytes
def own_sb (ff : List Int32) (n : Nat) : List Int32 := ff ++ List.replicate (n - ff.length) 0
theorem own_sblen {ff : List Int32} {n : Nat} (h : ff.length ≤ n) : (own_sb ff n).length = n := by simp [own_sb]; omega
def own_seg (X : List Int32) (sp nn : Int32) : List Int32 := (List.range nn.toNatClampNeg).map fun i => X.getD (sp.toNatClampNeg + i) 0
def own_cp (Y : List Int32) (d : Nat) (U : List Int32) (e : Nat) : List Int32 := Y.take d ++ U ++ Y.drop e
theorem own_seg0 {X : List Int32} {nn : Int32} (h : X.length = nn.toNatClampNeg) : own_seg X 0 nn = X := by
  unfold own_seg
  rw [← h]
  apply List.ext_getElem
  · simp
  · intro i h1 h2
    have z : (0 : Int32).toNatClampNeg = 0 := rfl
    simp [z, List.getD_eq_getElem?_getD, List.getElem?_eq_getElem h2]
theorem own_segsb {ff : List Int32} {n : Nat} {nn : Int32} (h : nn.toNatClampNeg = ff.length) : own_seg (own_sb ff n) 0 nn = ff := by
  unfold own_seg own_sb
  rw [h]
  apply List.ext_getElem
  · simp
  · intro i h1 h2
    have z : (0 : Int32).toNatClampNeg = 0 := rfl
    simp [z, List.getD_eq_getElem?_getD, List.getElem?_append_left h2, List.getElem?_eq_getElem h2]
theorem own_cpsb {ff bs : List Int32} {n d : Nat} (hd : d = ff.length) (h : ff.length + bs.length ≤ n) : own_cp (own_sb ff n) d bs (d + bs.length) = own_sb (ff ++ bs) n := by
  subst hd
  unfold own_cp own_sb
  rw [List.take_left, List.drop_append, List.drop_of_length_le (by omega), List.nil_append, List.drop_replicate, List.length_append]
  congr 2
  omega
theorem own_cprep {ff : List Int32} {n : Nat} (h : ff.length = n) : own_cp (List.replicate n 0) 0 ff (0 + n) = ff := by
  unfold own_cp
  simp
theorem own_cpgrow {ff : List Int32} {n m : Nat} (h : ff.length ≤ n) (h2 : n ≤ m) : own_cp (List.replicate m 0) 0 (own_sb ff n) (0 + n) = own_sb ff m := by
  unfold own_cp own_sb
  simp
  omega
theorem own_sbfull {ff : List Int32} {n : Nat} (h : ff.length = n) : own_sb ff n = ff := by
  unfold own_sb
  rw [h, Nat.sub_self]; simp
theorem own_c16 : (16 : Int32).toNatClampNeg = 16 := rfl
theorem own_c34 : (34 : Int32).toNatClampNeg = 34 := rfl
-- sums of small ints
theorem own_tn {x : Int32} (h : ¬ (x < (0 : Int32))) : x.toInt = (x.toNatClampNeg : Int) := by
  rw [Int32.lt_iff_toInt_lt] at h
  have z0 : (0 : Int32).toInt = 0 := rfl
  show x.toInt = (x.toInt.toNat : Int)
  omega
theorem own_sum {x y : Int32} (hx : ¬ (x < (0 : Int32))) (hy : ¬ (y < (0 : Int32))) (h : x.toNatClampNeg + y.toNatClampNeg ≤ 100) : (x + y).toInt = (x.toNatClampNeg + y.toNatClampNeg : Nat) := by
  rw [Int32.toInt_add, own_tn hx, own_tn hy]
  rw [Int.bmod_eq_of_le (by omega) (by omega)]
  omega
theorem own_sumn {x y : Int32} (hx : ¬ (x < (0 : Int32))) (hy : ¬ (y < (0 : Int32))) (h : x.toNatClampNeg + y.toNatClampNeg ≤ 100) : (x + y).toNatClampNeg = x.toNatClampNeg + y.toNatClampNeg ∧ ¬ ((x + y) < (0 : Int32)) := by
  have e := own_sum hx hy h
  refine ⟨?_, ?_⟩
  · show (x + y).toInt.toNat = _
    omega
  · rw [Int32.lt_iff_toInt_lt, show (0 : Int32).toInt = 0 from rfl]; omega
theorem own_fits {x z : Int32} (hx : ¬ (x < (0 : Int32))) (hz : ¬ (z < (0 : Int32))) (h : x.toNatClampNeg ≤ z.toNatClampNeg) (h2 : z.toNatClampNeg ≤ 100) : ¬ ((0 : Int32) < (x - z)) := by
  rw [Int32.lt_iff_toInt_lt, Int32.toInt_sub, own_tn hx, own_tn hz, show (0 : Int32).toInt = 0 from rfl, Int.bmod_eq_of_le (by omega) (by omega)]
  omega
theorem own_ltn {x y : Int32} (hx : ¬ (x < (0 : Int32))) (hy : ¬ (y < (0 : Int32))) (h : x.toNatClampNeg < y.toNatClampNeg) : x < y := by
  rw [Int32.lt_iff_toInt_lt, own_tn hx, own_tn hy]; omega
theorem own_eqn {x y : Int32} (hx : ¬ (x < (0 : Int32))) (hy : ¬ (y < (0 : Int32))) (h : x.toNatClampNeg = y.toNatClampNeg) : x = y := by
  apply Int32.toInt_inj.mp
  rw [own_tn hx, own_tn hy]; omega
theorem own_ltne {x y : Int32} (hx : ¬ (x < (0 : Int32))) (hy : ¬ (y < (0 : Int32))) (h : x.toNatClampNeg ≤ y.toNatClampNeg) (h2 : ¬ (x = y)) : x < y := by
  refine own_ltn hx hy ?_
  rcases Nat.lt_or_ge x.toNatClampNeg y.toNatClampNeg with q | q
  · exact q
  · exact absurd (own_eqn hx hy (by omega)) h2
-- how many digits
def own_dn (x : Int32) : Nat := if x < (10 : Int32) then 1 else if x < (100 : Int32) then 2 else if x < (1000 : Int32) then 3 else if x < (10000 : Int32) then 4 else if x < (100000 : Int32) then 5 else if x < (1000000 : Int32) then 6 else if x < (10000000 : Int32) then 7 else if x < (100000000 : Int32) then 8 else if x < (1000000000 : Int32) then 9 else 10
def own_ssz (x : Int32) : Int32 := Int32.ofNat (own_dn x)
theorem own_dnr (x : Int32) : 1 ≤ own_dn x ∧ own_dn x ≤ 10 := by
  unfold own_dn
  repeat' split
  all_goals decide
theorem own_sszr (x : Int32) : (own_ssz x).toNatClampNeg = own_dn x ∧ ¬ (own_ssz x < (0 : Int32)) := by
  have h : ∀ d : Nat, d ≤ 10 → (Int32.ofNat d).toNatClampNeg = d ∧ ¬ (Int32.ofNat d < (0 : Int32)) := by decide +kernel
  exact h _ (own_dnr x).2
def own_M (x : Int32) : Nat := x.toInt.toNat
theorem own_dn_pow {x : Int32} (h : (0 : Int32) < x) : 10 ^ (own_dn x - 1) ≤ own_M x ∧ own_M x < 10 ^ (own_dn x) ∧ x.toInt = own_M x := by
  have z0 : (0 : Int32).toInt = 0 := rfl
  have t1 : (10 : Int32).toInt = 10 := rfl
  have t2 : (100 : Int32).toInt = 100 := rfl
  have t3 : (1000 : Int32).toInt = 1000 := rfl
  have t4 : (10000 : Int32).toInt = 10000 := rfl
  have t5 : (100000 : Int32).toInt = 100000 := rfl
  have t6 : (1000000 : Int32).toInt = 1000000 := rfl
  have t7 : (10000000 : Int32).toInt = 10000000 := rfl
  have t8 : (100000000 : Int32).toInt = 100000000 := rfl
  have t9 : (1000000000 : Int32).toInt = 1000000000 := rfl
  have r := Int32.toInt_lt x
  unfold own_M
  rw [Int32.lt_iff_toInt_lt] at h
  unfold own_dn
  simp only [Int32.lt_iff_toInt_lt, t1, t2, t3, t4, t5, t6, t7, t8, t9]
  repeat' split
  all_goals (simp only [Nat.reduceSub, Nat.reducePow]; omega)
theorem own_ng {x a : Int32} (h : (0 : Int32) < x) (ha : (0 : Int32) < a) : (-a < -x) ↔ (x < a) := by
  rw [Int32.lt_iff_toInt_lt] at h ha
  have z0 : (0 : Int32).toInt = 0 := rfl
  have r := Int32.toInt_lt x
  have r2 := Int32.toInt_lt a
  rw [Int32.lt_iff_toInt_lt, Int32.lt_iff_toInt_lt, Int32.toInt_neg, Int32.toInt_neg, Int.bmod_eq_of_le (by omega) (by omega), Int.bmod_eq_of_le (by omega) (by omega)]
  omega
-- digits from the right
def own_mid (ff : List Int32) (cp : Nat) (dg : List Int32) (n : Nat) : List Int32 := ff ++ List.replicate (cp - ff.length) 0 ++ dg ++ List.replicate (n - cp - dg.length) 0
theorem own_mid0 {ff : List Int32} {cp n : Nat} (h : ff.length ≤ cp) (h2 : cp ≤ n) : own_mid ff cp [] n = own_sb ff n := by
  unfold own_mid own_sb
  rw [List.append_nil, List.append_assoc, List.replicate_append_replicate]
  congr 2
  simp; omega
theorem own_midlen {ff : List Int32} {cp n : Nat} {dg : List Int32} (h : ff.length ≤ cp) (h2 : cp + dg.length ≤ n) : (own_mid ff cp dg n).length = n := by
  simp [own_mid]; omega
theorem own_midset {ff : List Int32} {cp n : Nat} {dg : List Int32} {c : Int32} (h : ff.length ≤ cp) : (own_mid ff (cp + 1) dg n).set cp c = own_mid ff cp (c :: dg) n := by
  unfold own_mid
  have e : List.replicate (cp + 1 - ff.length) (0 : Int32) = List.replicate (cp - ff.length) 0 ++ [0] := by
    rw [show cp + 1 - ff.length = (cp - ff.length) + 1 by omega, List.replicate_succ']
  rw [e]
  have l : (ff ++ List.replicate (cp - ff.length) (0 : Int32)).length = cp := by simp; omega
  rw [List.append_assoc, List.append_assoc ff, List.append_assoc, ← List.append_assoc ff, List.set_append_right _ _ (by omega), l, Nat.sub_self]
  simp only [List.singleton_append, List.cons_append, List.nil_append, List.set_cons_zero, List.append_assoc, List.length_cons]
  congr 5
  omega
theorem own_midend {ff : List Int32} {n : Nat} {dg : List Int32} : own_mid ff ff.length dg n = own_sb (ff ++ dg) n := by
  unfold own_mid own_sb
  rw [Nat.sub_self, List.replicate_zero, List.append_nil, List.length_append, Nat.sub_sub]
def own_ones : List Int32 := (List.range 100).map fun r => Int32.ofNat (48 + r % 10)
def own_tens : List Int32 := (List.range 100).map fun r => Int32.ofNat (48 + r / 10)
theorem own_ones_at {j : Int32} {r : Nat} (h : j.toNatClampNeg = r) (hr : r < 100) : own_gt own_ones j = Int32.ofNat (48 + r % 10) := by
  unfold own_gt own_ones
  rw [h, List.getD_eq_getElem?_getD, List.getElem?_map, List.getElem?_range hr]; rfl
theorem own_tens_at {j : Int32} {r : Nat} (h : j.toNatClampNeg = r) (hr : r < 100) : own_gt own_tens j = Int32.ofNat (48 + r / 10) := by
  unfold own_gt own_tens
  rw [h, List.getD_eq_getElem?_getD, List.getElem?_map, List.getElem?_range hr]; rfl
def own_I (ii i cp : Int32) (k fl : Nat) : Prop := (0 : Int32) < ii ∧ i.toInt = -((own_M ii / 10 ^ k : Nat) : Int) ∧ ¬ (cp < (0 : Int32)) ∧ cp.toNatClampNeg + k = fl + own_dn ii ∧ 0 < own_M ii / 10 ^ k
theorem own_I0 {ii ix : Int32} {fl : Nat} (h : (0 : Int32) < ii) (h1 : ¬ (ix < (0 : Int32))) (h2 : ix.toNatClampNeg = fl + own_dn ii) : own_I ii (-ii) ix 0 fl := by
  obtain ⟨-, -, q3⟩ := own_dn_pow h
  rw [Int32.lt_iff_toInt_lt] at h
  have z0 : (0 : Int32).toInt = 0 := rfl
  have r := Int32.toInt_lt ii
  refine ⟨by rw [Int32.lt_iff_toInt_lt]; exact h, ?_, h1, by omega, ?_⟩
  · rw [Int32.toInt_neg, Int.bmod_eq_of_le (by omega) (by omega), Nat.pow_zero, Nat.div_one, q3]
  · rw [Nat.pow_zero, Nat.div_one]; omega
theorem own_dec1 {cp : Int32} (h : ¬ (cp < (0 : Int32))) (h1 : 1 ≤ cp.toNatClampNeg) : (cp + (-1 : Int32)).toNatClampNeg = cp.toNatClampNeg - 1 ∧ ¬ ((cp + (-1 : Int32)) < (0 : Int32)) := by
  have e := own_tn h
  have r := Int32.toInt_lt cp
  have o : (-1 : Int32).toInt = -1 := rfl
  have q : (cp + (-1 : Int32)).toInt = cp.toInt - 1 := by rw [Int32.toInt_add, o, Int.bmod_eq_of_le (by omega) (by omega)]; omega
  refine ⟨?_, ?_⟩
  · show (cp + (-1 : Int32)).toInt.toNat = _
    omega
  · rw [Int32.lt_iff_toInt_lt, show (0 : Int32).toInt = 0 from rfl]; omega
theorem own_I_room {ii i cp : Int32} {k fl : Nat} (I : own_I ii i cp k fl) : fl + 1 ≤ cp.toNatClampNeg ∧ (10 ≤ own_M ii / 10 ^ k → fl + 2 ≤ cp.toNatClampNeg) ∧ (100 ≤ own_M ii / 10 ^ k → fl + 3 ≤ cp.toNatClampNeg) := by
  obtain ⟨h, -, -, h4, h5⟩ := I
  obtain ⟨-, q2, -⟩ := own_dn_pow h
  have key : ∀ j, 10 ^ j ≤ own_M ii / 10 ^ k → k + j < own_dn ii := fun j hj => by
    have q : 10 ^ (k + j) ≤ own_M ii := by
      rw [Nat.pow_add, Nat.mul_comm]
      exact (Nat.le_div_iff_mul_le (Nat.pow_pos (by decide))).mp hj
    exact (Nat.pow_lt_pow_iff_right (by decide : 1 < 10)).mp (Nat.lt_of_le_of_lt q q2)
  refine ⟨?_, fun a => ?_, fun a => ?_⟩
  · have := key 0 (by rw [Nat.pow_zero]; omega); omega
  · have := key 1 (by rw [Nat.pow_one]; exact a); omega
  · have := key 2 (by exact a); omega
theorem own_div1 (M k : Nat) : M / 10 ^ (k + 1) = M / 10 ^ k / 10 := by rw [Nat.pow_succ, Nat.div_div_eq_div_mul]
theorem own_wr1 {ff : List Int32} {ii cp c : Int32} {k n : Nat} (h0 : ¬ (cp < (0 : Int32))) (h1 : ff.length + 1 ≤ cp.toNatClampNeg) (hc : c = Int32.ofNat (48 + own_M ii / 10 ^ k % 10)) :
    (own_mid ff cp.toNatClampNeg (own_dl (own_M ii) k) n).set (cp + (-1 : Int32)).toNatClampNeg c = own_mid ff (cp + (-1 : Int32)).toNatClampNeg (own_dl (own_M ii) (k + 1)) n := by
  rw [(own_dec1 h0 (by omega)).1]
  obtain ⟨m, hm⟩ : ∃ m, cp.toNatClampNeg = m + 1 := ⟨cp.toNatClampNeg - 1, by omega⟩
  rw [hm, Nat.add_sub_cancel, own_midset (by omega), hc]
  rfl
theorem own_ml {ff : List Int32} {ii cp : Int32} {k n : Nat} (h1 : ff.length ≤ cp.toNatClampNeg) (h2 : cp.toNatClampNeg + k ≤ n) : (own_mid ff cp.toNatClampNeg (own_dl (own_M ii) k) n).length = n := own_midlen h1 (by rw [own_dl_len]; exact h2)
abbrev own_r (i : Int32) : Int32 := (((i / (100 : Int32)) * (100 : Int32)) - i)
theorem own_rq {i : Int32} {q : Nat} (h : i.toInt = -(q : Int)) (hq : q < 2 ^ 31) : (i / (100 : Int32)).toInt = -((q / 100 : Nat) : Int) ∧ (own_r i).toInt = ((q % 100 : Nat) : Int) := by
  have t : (100 : Int32).toInt = 100 := rfl
  have e1 : (i / (100 : Int32)).toInt = -((q / 100 : Nat) : Int) := by
    rw [Int32.toInt_div, t, h, Int.neg_tdiv, show (100 : Int) = ((100 : Nat) : Int) from rfl, ← Int.ofNat_tdiv, Int.bmod_eq_of_le (by omega) (by omega)]
  refine ⟨e1, ?_⟩
  have e2 : ((i / (100 : Int32)) * (100 : Int32)).toInt = -((q / 100 * 100 : Nat) : Int) := by
    rw [Int32.toInt_mul, e1, t, Int.bmod_eq_of_le (by omega) (by omega)]; omega
  unfold own_r
  rw [Int32.toInt_sub, e2, h, Int.bmod_eq_of_le (by omega) (by omega)]; omega
theorem own_Ib {ff : List Int32} {ii i cp cap : Int32} {k : Nat} (I : own_I ii i cp k ff.length) (h : ¬ ((-100 : Int32) < i)) (hz : ¬ (cap < (0 : Int32))) (hf : ff.length + own_dn ii ≤ cap.toNatClampNeg) :
    ¬ (own_r i < (0 : Int32)) ∧ own_r i < (100 : Int32) ∧ ¬ ((cp + (-1 : Int32)) < (0 : Int32)) ∧ (cp + (-1 : Int32)) < cap ∧ ¬ (((cp + (-1 : Int32)) + (-1 : Int32)) < (0 : Int32)) ∧ ((cp + (-1 : Int32)) + (-1 : Int32)) < cap
    ∧ (own_mid ff cp.toNatClampNeg (own_dl (own_M ii) k) cap.toNatClampNeg).length = cap.toNatClampNeg ∧ (own_mid ff (cp + (-1 : Int32)).toNatClampNeg (own_dl (own_M ii) (k + 1)) cap.toNatClampNeg).length = cap.toNatClampNeg
    ∧ (own_mid ff cp.toNatClampNeg (own_dl (own_M ii) k) cap.toNatClampNeg).set (cp + (-1 : Int32)).toNatClampNeg (own_gt own_ones (own_r i)) = own_mid ff (cp + (-1 : Int32)).toNatClampNeg (own_dl (own_M ii) (k + 1)) cap.toNatClampNeg
    ∧ (own_mid ff (cp + (-1 : Int32)).toNatClampNeg (own_dl (own_M ii) (k + 1)) cap.toNatClampNeg).set ((cp + (-1 : Int32)) + (-1 : Int32)).toNatClampNeg (own_gt own_tens (own_r i)) = own_mid ff ((cp + (-1 : Int32)) + (-1 : Int32)).toNatClampNeg (own_dl (own_M ii) (k + 1 + 1)) cap.toNatClampNeg
    ∧ own_I ii (i / (100 : Int32)) ((cp + (-1 : Int32)) + (-1 : Int32)) (k + 1 + 1) ff.length ∧ ((cp + (-1 : Int32)) + (-1 : Int32)).toNatClampNeg < cp.toNatClampNeg := by
  obtain ⟨-, -, r3⟩ := own_I_room I
  obtain ⟨hp, g1, g2, g3, g4⟩ := I
  obtain ⟨-, -, q3⟩ := own_dn_pow hp
  have rr := Int32.toInt_lt ii
  have hb : own_M ii / 10 ^ k < 2 ^ 31 := Nat.lt_of_le_of_lt (Nat.div_le_self _ _) (by omega)
  obtain ⟨e1, e2⟩ := own_rq g1 hb
  have h100 : 100 ≤ own_M ii / 10 ^ k := by
    rw [Int32.lt_iff_toInt_lt, g1, show (-100 : Int32).toInt = -100 from rfl] at h; omega
  have r3 := r3 h100
  obtain ⟨a1, a2⟩ := own_dec1 g2 (by omega)
  obtain ⟨b1, b2⟩ := own_dec1 a2 (by omega)
  have rn : (own_r i).toNatClampNeg = own_M ii / 10 ^ k % 100 := by show (own_r i).toInt.toNat = _; rw [e2]; omega
  have rl : own_M ii / 10 ^ k % 100 < 100 := Nat.mod_lt _ (by decide)
  have w1 : own_gt own_ones (own_r i) = Int32.ofNat (48 + own_M ii / 10 ^ k % 10) := by
    rw [own_ones_at rn rl, show own_M ii / 10 ^ k % 100 % 10 = own_M ii / 10 ^ k % 10 by omega]
  have w2 : own_gt own_tens (own_r i) = Int32.ofNat (48 + own_M ii / 10 ^ (k + 1) % 10) := by
    rw [own_tens_at rn rl, own_div1, show own_M ii / 10 ^ k % 100 / 10 = own_M ii / 10 ^ k / 10 % 10 by omega]
  refine ⟨?_, ?_, a2, own_ltn a2 hz (by omega), b2, own_ltn b2 hz (by omega), own_ml (by omega) (by omega), own_ml (by omega) (by omega), own_wr1 g2 (by omega) w1, own_wr1 a2 (by omega) w2, ⟨hp, ?_, b2, by omega, ?_⟩, by omega⟩
  · rw [Int32.lt_iff_toInt_lt, e2, show (0 : Int32).toInt = 0 from rfl]; omega
  · rw [Int32.lt_iff_toInt_lt, e2, show (100 : Int32).toInt = 100 from rfl]; omega
  · rw [e1, own_div1, own_div1]; omega
  · rw [own_div1, own_div1]; omega
theorem own_Ie {ff : List Int32} {ii i cp cap : Int32} {k : Nat} (I : own_I ii i cp k ff.length) (h : (-100 : Int32) < i) (hz : ¬ (cap < (0 : Int32))) (hf : ff.length + own_dn ii ≤ cap.toNatClampNeg) :
    ¬ ((-i) < (0 : Int32)) ∧ (-i) < (100 : Int32) ∧ ¬ ((cp + (-1 : Int32)) < (0 : Int32)) ∧ (cp + (-1 : Int32)) < cap
    ∧ (own_mid ff cp.toNatClampNeg (own_dl (own_M ii) k) cap.toNatClampNeg).length = cap.toNatClampNeg
    ∧ (own_mid ff cp.toNatClampNeg (own_dl (own_M ii) k) cap.toNatClampNeg).set (cp + (-1 : Int32)).toNatClampNeg (own_gt own_ones (-i)) = own_mid ff (cp + (-1 : Int32)).toNatClampNeg (own_dl (own_M ii) (k + 1)) cap.toNatClampNeg
    ∧ (¬ (i < (-9 : Int32)) → own_mid ff (cp + (-1 : Int32)).toNatClampNeg (own_dl (own_M ii) (k + 1)) cap.toNatClampNeg = own_sb (ff ++ own_dl (own_M ii) (own_dn ii)) cap.toNatClampNeg) := by
  obtain ⟨r1, -, -⟩ := own_I_room I
  obtain ⟨hp, g1, g2, g3, g4⟩ := I
  obtain ⟨p1, p2, q3⟩ := own_dn_pow hp
  have rr := Int32.toInt_lt ii
  have hb : own_M ii / 10 ^ k < 100 := by
    rw [Int32.lt_iff_toInt_lt, g1, show (-100 : Int32).toInt = -100 from rfl] at h; omega
  have en : (-i).toInt = ((own_M ii / 10 ^ k : Nat) : Int) := by rw [Int32.toInt_neg, g1, Int.neg_neg, Int.bmod_eq_of_le (by omega) (by omega)]
  have rn : (-i).toNatClampNeg = own_M ii / 10 ^ k := by show (-i).toInt.toNat = _; rw [en]; omega
  obtain ⟨a1, a2⟩ := own_dec1 g2 (by omega)
  refine ⟨?_, ?_, a2, own_ltn a2 hz (by omega), own_ml (by omega) (by omega), own_wr1 g2 (by omega) (own_ones_at rn hb), fun h9 => ?_⟩
  · rw [Int32.lt_iff_toInt_lt, en, show (0 : Int32).toInt = 0 from rfl]; omega
  · rw [Int32.lt_iff_toInt_lt, en, show (100 : Int32).toInt = 100 from rfl]; omega
  · have hq : own_M ii / 10 ^ k < 10 := by
      rw [Int32.lt_iff_toInt_lt, g1, show (-9 : Int32).toInt = -9 from rfl] at h9; omega
    have hm : own_M ii < 10 ^ (k + 1) := by
      rw [Nat.pow_succ, Nat.mul_comm]
      exact (Nat.div_lt_iff_lt_mul (Nat.pow_pos (by decide))).mp hq
    have hd : own_dn ii - 1 < k + 1 := (Nat.pow_lt_pow_iff_right (by decide : 1 < 10)).mp (Nat.lt_of_le_of_lt p1 hm)
    have hd2 : own_dn ii = k + 1 := by omega
    rw [a1, show cp.toNatClampNeg - 1 = ff.length by omega, own_midend, hd2]
theorem own_If {ff : List Int32} {ii i cp cap : Int32} {k : Nat} (I : own_I ii i cp k ff.length) (h : (-100 : Int32) < i) (hz : ¬ (cap < (0 : Int32))) (hf : ff.length + own_dn ii ≤ cap.toNatClampNeg) (h9 : i < (-9 : Int32)) :
    ¬ (((cp + (-1 : Int32)) + (-1 : Int32)) < (0 : Int32)) ∧ ((cp + (-1 : Int32)) + (-1 : Int32)) < cap
    ∧ (own_mid ff (cp + (-1 : Int32)).toNatClampNeg (own_dl (own_M ii) (k + 1)) cap.toNatClampNeg).length = cap.toNatClampNeg
    ∧ (own_mid ff (cp + (-1 : Int32)).toNatClampNeg (own_dl (own_M ii) (k + 1)) cap.toNatClampNeg).set ((cp + (-1 : Int32)) + (-1 : Int32)).toNatClampNeg (own_gt own_tens (-i)) = own_sb (ff ++ own_dl (own_M ii) (own_dn ii)) cap.toNatClampNeg := by
  obtain ⟨-, r2, -⟩ := own_I_room I
  obtain ⟨hp, g1, g2, g3, g4⟩ := I
  obtain ⟨p1, p2, q3⟩ := own_dn_pow hp
  have rr := Int32.toInt_lt ii
  have hb : own_M ii / 10 ^ k < 100 := by
    rw [Int32.lt_iff_toInt_lt, g1, show (-100 : Int32).toInt = -100 from rfl] at h; omega
  have hq : 10 ≤ own_M ii / 10 ^ k := by
    rw [Int32.lt_iff_toInt_lt, g1, show (-9 : Int32).toInt = -9 from rfl] at h9; omega
  have r2 := r2 hq
  have en : (-i).toInt = ((own_M ii / 10 ^ k : Nat) : Int) := by rw [Int32.toInt_neg, g1, Int.neg_neg, Int.bmod_eq_of_le (by omega) (by omega)]
  have rn : (-i).toNatClampNeg = own_M ii / 10 ^ k := by show (-i).toInt.toNat = _; rw [en]; omega
  obtain ⟨a1, a2⟩ := own_dec1 g2 (by omega)
  obtain ⟨b1, b2⟩ := own_dec1 a2 (by omega)
  refine ⟨b2, own_ltn b2 hz (by omega), own_ml (by omega) (by omega), ?_⟩
  have w2 : own_gt own_tens (-i) = Int32.ofNat (48 + own_M ii / 10 ^ (k + 1) % 10) := by
    rw [own_tens_at rn hb, own_div1, show own_M ii / 10 ^ k / 10 % 10 = own_M ii / 10 ^ k / 10 by omega]
  rw [own_wr1 a2 (by omega) w2]
  have hm : own_M ii < 10 ^ (k + 2) := by
    rw [Nat.pow_add, Nat.mul_comm]
    exact (Nat.div_lt_iff_lt_mul (Nat.pow_pos (by decide))).mp hb
  have hd : own_dn ii - 1 < k + 2 := (Nat.pow_lt_pow_iff_right (by decide : 1 < 10)).mp (Nat.lt_of_le_of_lt p1 hm)
  have hd2 : own_dn ii = k + 1 + 1 := by omega
  rw [b1, a1, show cp.toNatClampNeg - 1 - 1 = ff.length by omega, own_midend, hd2]
def own_tx (a0 a1 ii b0 b1 : Int32) : List Int32 := [a0, a1] ++ (if (0 : Int32) < ii then (58 : Int32) :: own_dl (own_M ii) (own_dn ii) else []) ++ [58, 32, b0, b1]
def own_tl (ii : Int32) : Int32 := if (0 : Int32) < ii then ((2 : Int32) + ((1 : Int32) + own_ssz ii)) + (4 : Int32) else 6
theorem own_i3 {x : Int32} {j : Nat} (hj : j ≤ 20) (h : ¬ (x < (0 : Int32))) (h2 : x.toNatClampNeg ≤ 20) : (Int32.ofNat j + x).toNatClampNeg = j + x.toNatClampNeg ∧ ¬ ((Int32.ofNat j + x) < (0 : Int32)) := by
  have hs : ∀ d : Nat, d ≤ 20 → (Int32.ofNat d).toNatClampNeg = d ∧ ¬ (Int32.ofNat d < (0 : Int32)) := by decide +kernel
  obtain ⟨e1, e2⟩ := hs j hj
  have q := own_sumn e2 h (by omega)
  exact ⟨by rw [q.1, e1], q.2⟩
theorem own_pp (ii : Int32) : ((2 : Int32) + ((1 : Int32) + own_ssz ii)).toNatClampNeg = 3 + own_dn ii ∧ ¬ (((2 : Int32) + ((1 : Int32) + own_ssz ii)) < (0 : Int32)) := by
  obtain ⟨e1, e2⟩ := own_sszr ii
  have r := own_dnr ii
  obtain ⟨f1, f2⟩ := own_i3 (j := 1) (by decide) e2 (by omega)
  have g := own_i3 (j := 2) (by decide) f2 (by omega)
  exact ⟨by have := g.1; show ((Int32.ofNat 2) + ((Int32.ofNat 1) + own_ssz ii)).toNatClampNeg = _; omega, g.2⟩
theorem own_ppj (ii : Int32) {j : Nat} (hj : j ≤ 4) : (((2 : Int32) + ((1 : Int32) + own_ssz ii)) + Int32.ofNat j).toNatClampNeg = 3 + own_dn ii + j ∧ ¬ ((((2 : Int32) + ((1 : Int32) + own_ssz ii)) + Int32.ofNat j) < (0 : Int32)) := by
  obtain ⟨e1, e2⟩ := own_pp ii
  have r := own_dnr ii
  have hs : ∀ d : Nat, d ≤ 4 → (Int32.ofNat d).toNatClampNeg = d ∧ ¬ (Int32.ofNat d < (0 : Int32)) := by decide +kernel
  obtain ⟨f1, f2⟩ := hs j hj
  have q := own_sumn e2 f2 (by omega)
  exact ⟨by rw [q.1, e1, f1], q.2⟩
theorem own_tlP {ii : Int32} (h : (0 : Int32) < ii) : own_tl ii = ((2 : Int32) + ((1 : Int32) + own_ssz ii)) + (4 : Int32) := if_pos h
theorem own_tlN {ii : Int32} (h : ¬ ((0 : Int32) < ii)) : own_tl ii = (6 : Int32) := if_neg h
theorem own_tlr (ii : Int32) : ¬ (own_tl ii < (0 : Int32)) ∧ (own_tl ii).toNatClampNeg = (if (0 : Int32) < ii then 7 + own_dn ii else 6) := by
  unfold own_tl
  split
  · have q := own_ppj ii (j := 4) (by decide)
    refine ⟨q.2, ?_⟩
    have := q.1
    show (((2 : Int32) + ((1 : Int32) + own_ssz ii)) + Int32.ofNat 4).toNatClampNeg = _
    omega
  · exact ⟨by decide, rfl⟩
theorem own_txlen (a0 a1 ii b0 b1 : Int32) : (own_tx a0 a1 ii b0 b1).length = (own_tl ii).toNatClampNeg := by
  rw [(own_tlr ii).2]
  unfold own_tx
  split
  · simp [own_dl_len]; omega
  · rfl
theorem own_txN {a0 a1 ii b0 b1 : Int32} (h : ¬ ((0 : Int32) < ii)) : own_tx a0 a1 ii b0 b1 = [a0, a1, 58, 32, b0, b1] := by
  unfold own_tx
  rw [if_neg h]; rfl
theorem own_txP {a0 a1 ii b0 b1 : Int32} (h : (0 : Int32) < ii) : own_tx a0 a1 ii b0 b1 = a0 :: a1 :: 58 :: (own_dl (own_M ii) (own_dn ii) ++ [58, 32, b0, b1]) := by
  unfold own_tx
  rw [if_pos h]; rfl
theorem own_tx0 (a0 a1 ii b0 b1 : Int32) : own_gt (own_tx a0 a1 ii b0 b1) (0 : Int32) = a0 ∧ own_gt (own_tx a0 a1 ii b0 b1) (1 : Int32) = a1 := ⟨rfl, rfl⟩
theorem own_txNs {a0 a1 ii b0 b1 : Int32} (h : ¬ ((0 : Int32) < ii)) : own_gt (own_tx a0 a1 ii b0 b1) (2 : Int32) = 58 ∧ own_gt (own_tx a0 a1 ii b0 b1) (3 : Int32) = 32 ∧ own_gt (own_tx a0 a1 ii b0 b1) (4 : Int32) = b0 ∧ own_gt (own_tx a0 a1 ii b0 b1) (5 : Int32) = b1 := by
  rw [own_txN h]; exact ⟨rfl, rfl, rfl, rfl⟩
theorem own_tx2 {a0 a1 ii b0 b1 : Int32} (h : (0 : Int32) < ii) : own_gt (own_tx a0 a1 ii b0 b1) (2 : Int32) = 58 := by
  rw [own_txP h]; rfl
theorem own_txEnd {a0 a1 ii b0 b1 j : Int32} {k : Nat} {c : Int32} (h : (0 : Int32) < ii) (hj : j.toNatClampNeg = 3 + own_dn ii + k) (hc : ([58, 32, b0, b1] : List Int32)[k]? = some c) : own_gt (own_tx a0 a1 ii b0 b1) j = c := by
  unfold own_gt
  rw [own_txP h, hj, List.getD_eq_getElem?_getD, show 3 + own_dn ii + k = (own_dn ii + k) + 1 + 1 + 1 by omega, List.getElem?_cons_succ, List.getElem?_cons_succ, List.getElem?_cons_succ, List.getElem?_append_right (by rw [own_dl_len]; omega), own_dl_len, Nat.add_sub_cancel_left, hc]
  rfl
theorem own_txPs {a0 a1 ii b0 b1 : Int32} (h : (0 : Int32) < ii) : own_gt (own_tx a0 a1 ii b0 b1) ((2 : Int32) + ((1 : Int32) + own_ssz ii)) = 58 ∧ own_gt (own_tx a0 a1 ii b0 b1) (((2 : Int32) + ((1 : Int32) + own_ssz ii)) + (1 : Int32)) = 32
    ∧ own_gt (own_tx a0 a1 ii b0 b1) (((2 : Int32) + ((1 : Int32) + own_ssz ii)) + (2 : Int32)) = b0 ∧ own_gt (own_tx a0 a1 ii b0 b1) (((2 : Int32) + ((1 : Int32) + own_ssz ii)) + (3 : Int32)) = b1 :=
  ⟨own_txEnd h (own_pp ii).1 (k := 0) rfl, own_txEnd h (own_ppj ii (j := 1) (by decide)).1 rfl, own_txEnd h (own_ppj ii (j := 2) (by decide)).1 rfl, own_txEnd h (own_ppj ii (j := 3) (by decide)).1 rfl⟩
theorem own_tlt {x : Int32} {ii : Int32} (h : (0 : Int32) < ii) (h0 : ¬ (x < (0 : Int32))) (h1 : x.toNatClampNeg < 7 + own_dn ii) : x < own_tl ii := own_ltn h0 (own_tlr ii).1 (by rw [(own_tlr ii).2, if_pos h]; exact h1)
theorem own_pin {ii : Int32} (h : (0 : Int32) < ii) : (((2 : Int32) + ((1 : Int32) + own_ssz ii)) < own_tl ii ∧ (((2 : Int32) + ((1 : Int32) + own_ssz ii)) + (1 : Int32)) < own_tl ii) ∧ (((2 : Int32) + ((1 : Int32) + own_ssz ii)) + (2 : Int32)) < own_tl ii ∧ (((2 : Int32) + ((1 : Int32) + own_ssz ii)) + (3 : Int32)) < own_tl ii :=
  ⟨⟨own_tlt h (own_pp ii).2 (by have := (own_pp ii).1; omega), own_tlt h (own_ppj ii (j := 1) (by decide)).2 (Nat.lt_of_le_of_lt (Nat.le_of_eq (own_ppj ii (j := 1) (by decide)).1) (by omega))⟩, own_tlt h (own_ppj ii (j := 2) (by decide)).2 (Nat.lt_of_le_of_lt (Nat.le_of_eq (own_ppj ii (j := 2) (by decide)).1) (by omega)), own_tlt h (own_ppj ii (j := 3) (by decide)).2 (Nat.lt_of_le_of_lt (Nat.le_of_eq (own_ppj ii (j := 3) (by decide)).1) (by omega))⟩
theorem own_pge (ii : Int32) : ¬ ((((2 : Int32) + ((1 : Int32) + own_ssz ii)) + (1 : Int32)) < (0 : Int32)) ∧ ¬ ((((2 : Int32) + ((1 : Int32) + own_ssz ii)) + (2 : Int32)) < (0 : Int32)) ∧ ¬ ((((2 : Int32) + ((1 : Int32) + own_ssz ii)) + (3 : Int32)) < (0 : Int32)) := ⟨(own_ppj ii (j := 1) (by decide)).2, (own_ppj ii (j := 2) (by decide)).2, (own_ppj ii (j := 3) (by decide)).2⟩
theorem own_small (ii : Int32) : (0 : Int32) < own_tl ii ∧ (1 : Int32) < own_tl ii ∧ (2 : Int32) < own_tl ii ∧ (3 : Int32) < own_tl ii ∧ (4 : Int32) < own_tl ii ∧ (5 : Int32) < own_tl ii := by
  have q := own_tlr ii
  have r := own_dnr ii
  have k : 6 ≤ (own_tl ii).toNatClampNeg := by rw [q.2]; split <;> omega
  have hs : ∀ d : Nat, d ≤ 5 → (Int32.ofNat d).toNatClampNeg = d ∧ ¬ (Int32.ofNat d < (0 : Int32)) := by decide +kernel
  have hl : ∀ d : Nat, d ≤ 5 → Int32.ofNat d < own_tl ii := fun d hd => own_ltn (hs d hd).2 q.1 (by rw [(hs d hd).1]; omega)
  exact ⟨hl 0 (by decide), hl 1 (by decide), hl 2 (by decide), hl 3 (by decide), hl 4 (by decide), hl 5 (by decide)⟩
-- one digit
def own_pw (e : Int32) : Int32 := if e = (0 : Int32) then 1 else if e = (1 : Int32) then 10 else if e = (2 : Int32) then 100 else if e = (3 : Int32) then 1000 else if e = (4 : Int32) then 10000 else if e = (5 : Int32) then 100000 else if e = (6 : Int32) then 1000000 else if e = (7 : Int32) then 10000000 else if e = (8 : Int32) then 100000000 else if e = (9 : Int32) then 1000000000 else 1
theorem own_pwn (e : Int32) : ¬ (own_pw e = (0 : Int32)) := by
  unfold own_pw
  repeat' split
  all_goals decide
theorem own_pwk : ∀ k : Nat, k < 10 → (own_pw (Int32.ofNat k)).toInt = ((10 ^ k : Nat) : Int) := by decide +kernel
theorem own_k3 {ii kk : Int32} (h : (0 : Int32) < ii) (h0 : ¬ (kk < (0 : Int32))) (h1 : kk < own_ssz ii) : kk.toNatClampNeg < own_dn ii ∧ ((3 : Int32) + kk).toNatClampNeg = 3 + kk.toNatClampNeg ∧ ¬ (((3 : Int32) + kk) < (0 : Int32)) ∧ ((3 : Int32) + kk) < own_tl ii := by
  have q : kk.toNatClampNeg < own_dn ii := by
    have := (own_sub_nat h0 h1).2.2.2
    rw [(own_sszr ii).1] at this; exact this
  have r := own_dnr ii
  have s := own_i3 (j := 3) (by decide) h0 (by omega)
  exact ⟨q, s.1, s.2, own_tlt h s.2 (by have := s.1; show (Int32.ofNat 3 + kk).toNatClampNeg < _; omega)⟩
theorem own_dok {a0 a1 ii b0 b1 kk : Int32} (h : (0 : Int32) < ii) (h0 : ¬ (kk < (0 : Int32))) (h1 : kk < own_ssz ii) : own_gt (own_tx a0 a1 ii b0 b1) ((3 : Int32) + kk) = (((48 : Int32) + ((ii / (own_pw ((own_ssz ii - (1 : Int32)) - kk))) % (10 : Int32))).toUInt32.toUInt16.toUInt32.toInt32) := by
  obtain ⟨q1, q2, q3, q4⟩ := own_k3 h h0 h1
  obtain ⟨s1, -, -, -⟩ := own_sub_nat h0 h1
  rw [(own_sszr ii).1] at s1
  have r := own_dnr ii
  obtain ⟨-, -, hM⟩ := own_dn_pow h
  have rr := Int32.toInt_lt ii
  have e : ((own_ssz ii - (1 : Int32)) - kk) = Int32.ofNat (own_dn ii - 1 - kk.toNatClampNeg) := by
    have hs : ∀ d : Nat, d ≤ 10 → (Int32.ofNat d).toNatClampNeg = d ∧ ¬ (Int32.ofNat d < (0 : Int32)) := by decide +kernel
    have z := hs (own_dn ii - 1 - kk.toNatClampNeg) (by omega)
    exact own_eqn (own_sub_nat h0 h1).2.1 z.2 (by rw [z.1, s1])
  have pw := own_pwk (own_dn ii - 1 - kk.toNatClampNeg) (by omega)
  rw [← e] at pw
  have d1 : (ii / (own_pw ((own_ssz ii - (1 : Int32)) - kk))).toInt = ((own_M ii / 10 ^ (own_dn ii - 1 - kk.toNatClampNeg) : Nat) : Int) := by
    have hb : own_M ii / 10 ^ (own_dn ii - 1 - kk.toNatClampNeg) < 2 ^ 31 := Nat.lt_of_le_of_lt (Nat.div_le_self _ _) (by omega)
    rw [Int32.toInt_div, hM, pw, ← Int.ofNat_tdiv]
    generalize own_M ii / 10 ^ (own_dn ii - 1 - kk.toNatClampNeg) = w at *
    exact Int.bmod_eq_of_le (by omega) (by omega)
  have d2 : ((ii / (own_pw ((own_ssz ii - (1 : Int32)) - kk))) % (10 : Int32)) = Int32.ofNat (own_M ii / 10 ^ (own_dn ii - 1 - kk.toNatClampNeg) % 10) := by
    have hs : ∀ d : Nat, d < 10 → (Int32.ofNat d).toInt = (d : Int) := by decide +kernel
    apply Int32.toInt_inj.mp
    rw [own_modI (by rw [d1]; exact Int.natCast_nonneg _) (by decide), d1, hs _ (Nat.mod_lt _ (by decide)), show (10 : Int32).toInt = 10 from rfl]
    omega
  have d3 : ∀ d : Nat, d < 10 → (((48 : Int32) + Int32.ofNat d).toUInt32.toUInt16.toUInt32.toInt32) = Int32.ofNat (48 + d) := by decide +kernel
  rw [d2, d3 _ (Nat.mod_lt _ (by decide))]
  unfold own_gt
  rw [own_txP h, q2, List.getD_eq_getElem?_getD, show 3 + kk.toNatClampNeg = kk.toNatClampNeg + 1 + 1 + 1 by omega, List.getElem?_cons_succ, List.getElem?_cons_succ, List.getElem?_cons_succ, List.getElem?_append_left (by rw [own_dl_len]; exact q1), own_dl_at _ _ _ q1]
  rfl
theorem own_ivseg (X : List Int32) (sp nn : Int32) : own_iv (own_seg X sp nn) = (List.range nn.toNatClampNeg).map fun i => (own_iv X).getD (sp.toNatClampNeg + i) (.int 0) := by
  unfold own_iv own_seg
  rw [List.map_map]
  apply List.map_congr_left
  intro i _
  simp only [Function.comp, List.getD_eq_getElem?_getD, List.getElem?_map]
  cases X[sp.toNatClampNeg + i]? <;> rfl
theorem own_ivl {Y : List Int32} {n : Nat} (h : n ≤ Y.length) : n ≤ (own_iv Y).length := by simpa [own_iv] using h
theorem own_ivcp {Z : State} {h : Heap} {a : Addr} {k : ClassId} {ty : FieldType} {z : Int32} {Y U : List Int32} {d e : Nat} {dv : Value} (A : Arv Z h a k ty z ((own_iv Y).take d ++ own_iv U ++ (own_iv Y).drop e) dv) : Arv Z h a k ty z (own_iv (own_cp Y d U e)) dv := by
  have q : (own_iv Y).take d ++ own_iv U ++ (own_iv Y).drop e = own_iv (own_cp Y d U e) := by
    unfold own_iv own_cp
    rw [List.map_append, List.map_append, List.map_take, List.map_drop]
  rw [q] at A; exact A
theorem own_shl0 (x : Int32) : x <<< ((0 : Int32) &&& 31) = x := by
  rw [show ((0 : Int32) &&& 31) = 0 from rfl]
  exact Int32.shiftLeft_zero
theorem own_sub0 (x : Int32) : x - (0 : Int32) = x := Int32.sub_zero x
theorem own_z16 : own_iv (own_sb [] (16 : Int32).toNatClampNeg) = [.int 0, .int 0, .int 0, .int 0, .int 0, .int 0, .int 0, .int 0, .int 0, .int 0, .int 0, .int 0, .int 0, .int 0, .int 0, .int 0] := by rw [own_c16]; rfl
theorem own_z34 : own_iv (List.replicate 34 0) = [.int 0, .int 0, .int 0, .int 0, .int 0, .int 0, .int 0, .int 0, .int 0, .int 0, .int 0, .int 0, .int 0, .int 0, .int 0, .int 0, .int 0, .int 0, .int 0, .int 0, .int 0, .int 0, .int 0, .int 0, .int 0, .int 0, .int 0, .int 0, .int 0, .int 0, .int 0, .int 0, .int 0, .int 0] := rfl
theorem own_gbeq {ff bs : List Int32} {cap cnt nn : Int32} (hcn : cnt.toNatClampNeg = ff.length) (hl1 : bs.length = nn.toNatClampNeg) (hfit : ff.length + bs.length ≤ cap.toNatClampNeg) : own_cp (own_sb ff cap.toNatClampNeg) cnt.toNatClampNeg (own_seg bs (0 : Int32) nn) (cnt.toNatClampNeg + nn.toNatClampNeg) = own_sb (ff ++ bs) cap.toNatClampNeg := by
  rw [own_seg0 hl1, ← hl1]; exact own_cpsb hcn hfit
theorem own_app1 {ff bs : List Int32} {cap cnt nn : Int32} (hc0 : ¬ (cnt < (0 : Int32))) (hn0 : ¬ (nn < (0 : Int32))) (hcn : cnt.toNatClampNeg = ff.length) (hl1 : bs.length = nn.toNatClampNeg) (hfit : ff.length + bs.length ≤ cap.toNatClampNeg) (h64 : cap.toNatClampNeg ≤ 64) : (cnt + nn).toNatClampNeg = (ff ++ bs).length ∧ ¬ ((cnt + nn) < (0 : Int32)) := by
  have q := own_sumn hc0 hn0 (by omega)
  refine ⟨?_, q.2⟩
  rw [q.1, List.length_append]; omega
theorem own_app2 {ff bs : List Int32} {cap cnt nn : Int32} (hc0 : ¬ (cnt < (0 : Int32))) (hn0 : ¬ (nn < (0 : Int32))) (hz : ¬ (cap < (0 : Int32))) (hcn : cnt.toNatClampNeg = ff.length) (hl1 : bs.length = nn.toNatClampNeg) (hfit : ff.length + bs.length ≤ cap.toNatClampNeg) (h64 : cap.toNatClampNeg ≤ 64) : ¬ ((0 : Int32) < ((cnt + nn) - cap)) := by
  have q := own_app1 hc0 hn0 hcn hl1 hfit h64
  exact own_fits q.2 hz (by rw [q.1, List.length_append]; exact hfit) (by omega)
theorem own_dll {ii : Int32} : (own_dl (own_M ii) (own_dn ii)).length = (own_ssz ii).toNatClampNeg := by rw [own_dl_len, (own_sszr ii).1]
theorem own_narb1 {j : Int32} : (own_gt own_ones j).toInt8.toInt32 = own_gt own_ones j := by
  have h : ∀ x ∈ (0 : Int32) :: own_ones, x.toInt8.toInt32 = x := by decide +kernel
  unfold own_gt
  rw [List.getD_eq_getElem?_getD]
  cases q : own_ones[j.toNatClampNeg]? with
  | none => exact h 0 (List.mem_cons_self ..)
  | some x => exact h x (List.mem_cons_of_mem _ (List.mem_of_getElem? q))
theorem own_narb2 {j : Int32} : (own_gt own_tens j).toInt8.toInt32 = own_gt own_tens j := by
  have h : ∀ x ∈ (0 : Int32) :: own_tens, x.toInt8.toInt32 = x := by decide +kernel
  unfold own_gt
  rw [List.getD_eq_getElem?_getD]
  cases q : own_tens[j.toNatClampNeg]? with
  | none => exact h 0 (List.mem_cons_self ..)
  | some x => exact h x (List.mem_cons_of_mem _ (List.mem_of_getElem? q))
theorem own_fin {Z : State} {h : Heap} {a : Addr} {k : ClassId} {z z' : Int32} {X X' : List Int32} {dv : Value} (A : Arv Z h a k .byte z (own_iv X) dv) (hz : z = z') (hX : X = X') : Arv Z h a k .byte z' (own_iv X') dv := by
  subst hz hX; exact A
theorem own_bsdl (N : Nat) : ∀ k, own_bs (own_dl N k) = own_dl N k
  | 0 => rfl
  | k + 1 => by
    have h : ∀ d : Nat, d < 10 → own_lo8 (Int32.ofNat (48 + d)) = Int32.ofNat (48 + d) := by decide +kernel
    have e := own_bsdl N k
    unfold own_bs at e ⊢
    rw [own_dl, List.map_cons, e, h _ (Nat.mod_lt _ (by decide))]
theorem own_txpos {c0 c1 ii d0 d1 : Int32} (h : (0 : Int32) < ii) : (((([] ++ [own_lo8 c0, own_lo8 c1]) ++ (([] ++ [(58 : Int32)]) ++ own_dl (own_M ii) (own_dn ii))) ++ [(58 : Int32), (32 : Int32)]) ++ [own_lo8 d0, own_lo8 d1]) = own_bs (own_tx c0 c1 ii d0 d1) := by
  have e := own_bsdl (own_M ii) (own_dn ii)
  have l1 : own_lo8 (58 : Int32) = 58 := by decide +kernel
  have l2 : own_lo8 (32 : Int32) = 32 := by decide +kernel
  rw [own_txP h]
  unfold own_bs at e ⊢
  simp only [List.map_cons, List.map_append, List.map_nil, e, l1, l2, List.nil_append, List.cons_append, List.append_assoc]
theorem own_txneg {c0 c1 ii d0 d1 : Int32} (h : ¬ ((0 : Int32) < ii)) : (((([] ++ [own_lo8 c0, own_lo8 c1]) ++ []) ++ [(58 : Int32), (32 : Int32)]) ++ [own_lo8 d0, own_lo8 d1]) = own_bs (own_tx c0 c1 ii d0 d1) := by
  have l1 : own_lo8 (58 : Int32) = 58 := by decide +kernel
  have l2 : own_lo8 (32 : Int32) = 32 := by decide +kernel
  rw [own_txN h]
  unfold own_bs
  simp only [List.map_cons, List.map_nil, l1, l2, List.nil_append, List.cons_append, List.append_nil]
theorem own_tlpos {ii : Int32} (h : (0 : Int32) < ii) : (((((0 : Int32) + (2 : Int32)) + (((0 : Int32) + (1 : Int32)) + own_ssz ii)) + (2 : Int32)) + (2 : Int32)) = own_tl ii := by
  rw [own_tlP h]; grind
theorem own_tl10 {ii : Int32} (h : (0 : Int32) < ii) (h10 : own_dn ii = 10) : (17 : Int32) = own_tl ii := by
  rw [own_tlP h, own_ssz, h10]; rfl
theorem own_tlneg {ii : Int32} (h : ¬ ((0 : Int32) < ii)) : (((((0 : Int32) + (2 : Int32)) + (0 : Int32)) + (2 : Int32)) + (2 : Int32)) = own_tl ii := by
  rw [own_tlN h]; rfl
theorem own_cnt15 {ii : Int32} (h10 : own_dn ii = 10) : ((((0 : Int32) + (2 : Int32)) + (((0 : Int32) + (1 : Int32)) + own_ssz ii)) + (2 : Int32)) = (15 : Int32) := by
  rw [own_ssz, h10]; rfl
theorem own_txlat {c0 c1 ii d0 d1 : Int32} (h0 : ¬ (c0 < (0 : Int32)) ∧ ¬ ((255 : Int32) < c0)) (h1 : ¬ (c1 < (0 : Int32)) ∧ ¬ ((255 : Int32) < c1)) (h2 : ¬ (d0 < (0 : Int32)) ∧ ¬ ((255 : Int32) < d0)) (h3 : ¬ (d1 < (0 : Int32)) ∧ ¬ ((255 : Int32) < d1)) : own_lat (own_tx c0 c1 ii d0 d1) := by
  have e1 : ¬ ((58 : Int32) < (0 : Int32)) ∧ ¬ ((255 : Int32) < (58 : Int32)) := by decide
  have e2 : ¬ ((32 : Int32) < (0 : Int32)) ∧ ¬ ((255 : Int32) < (32 : Int32)) := by decide
  intro x hx
  by_cases h : (0 : Int32) < ii
  · rw [own_txP h] at hx
    simp only [List.mem_cons, List.mem_append, List.not_mem_nil, or_false] at hx
    rcases hx with rfl | rfl | rfl | hx | rfl | rfl | rfl | rfl
    · exact h0
    · exact h1
    · exact e1
    · exact (own_dl_dig _ _ _ hx).2
    · exact e1
    · exact e2
    · exact h2
    · exact h3
  · rw [own_txN h] at hx
    simp only [List.mem_cons, List.not_mem_nil, or_false] at hx
    rcases hx with rfl | rfl | rfl | rfl | rfl | rfl
    · exact h0
    · exact h1
    · exact e1
    · exact e2
    · exact h2
    · exact h3
theorem own_posn {ii : Int32} (h : (0 : Int32) < ii) : ¬ (ii < (0 : Int32)) := by
  rw [Int32.lt_iff_toInt_lt] at *; omega
theorem own_lt1 {x a b : Int32} (h : x < a) (h2 : a < b) : x < b := by
  rw [Int32.lt_iff_toInt_lt] at *; omega
theorem own_selp {C : String} {y : MethodName} {s : State} {args : Array Value} (hy : y.cls ≠ "java/lang/invoke/MethodHandle" ∧ y.cls ≠ "java/lang/invoke/VarHandle") (hsel : (Jvm.Cond.selects C y y).before args s = true) (hpriv : (Jvm.Cond.privateMethod y).before args s = true) : (Jvm.Cond.selects y.cls y y).before args s = true := by
  obtain ⟨c, r, m, q1, q2, q3, q4, mk, q5, q6⟩ := Cond.selects_spec hsel
  have e : m = r := Option.some.inj ((State.methodFound?_of_named q3 hy).symm.trans q2)
  subst e
  have hc := findClass_of_methodNamed q3
  cases hm : s.vm.method? m with
  | none =>
    unfold selectMethod at q4
    rw [hm] at q4; cases q4
  | some meth =>
    have hs : selectMethod {} s.vm m.cls m = .method m := by
      unfold selectMethod
      rw [hm]
      simp [Cond.privateMethod_at hpriv m meth q3 hm]
    simp only [Cond.before, Cond.holds, Cond.value, hc, q2, q3, hs, q5]
    simp [q6]
theorem own_nfc {C : String} {y y' : MethodName} {s : State} {args : Array Value} (hsel : (Jvm.Cond.selects C y' y').before args s = true) (hc : y'.cls = y.cls) : NotFace s y := fun r0 h0 => by
  obtain ⟨c, r, m, q1, q2, q3, q4, mk, q5, q6⟩ := Cond.selects_spec hsel
  have a := findClass_of_methodNamed q3
  have b := findClass_of_methodNamed h0
  rw [hc] at a
  have e : m.cls = r0.cls := Option.some.inj (a.symm.trans b)
  exact ⟨mk, by rw [← e]; exact q5, q6⟩
theorem own_superBack {p : Program} {l : Launch} {e : Env} {R : Room} {s : State} {m : MethodId} {args : Array Value} {below : List Frame} {meth : Method} {c : ClassFile.Code} {T : State} {locs : List Loc} {cells slots : Nat} (X : Stand p l e R s m args below meth c T locs cells slots) (hexec : p.tables.exec = Jvm.exec) {own : String} {index : Nat} {y : MethodName}
    (hown : s.vm.findClass own = some m.cls) (hlink : (Jvm.Cond.methodLink own index y).before args s = true) (hsup : (Jvm.Cond.superclass own y.cls).before args s = true) (hdecl : (Jvm.Cond.declares y).before args s = true) (hinst : (Jvm.Cond.instanceMethod y).before args s = true) (hnf : NotFace s y) (hno : y.name ≠ "<init>")
    (hy : y.cls ≠ "java/lang/invoke/MethodHandle" ∧ y.cls ≠ "java/lang/invoke/VarHandle")
    {W : Nat} {Pre : Pt → Array Value → Prop} {Post : Pt → Array Value → Option Value → Pt → Prop} (hK : Back l R p e below s args y 3 W Pre Post)
    {b : Addr} {cB : ClassId} {kB : Class} (hkB : s.vm.classes[cB]? = some kB) (hrecv : IsOf cB T b)
    {g : JFrame} (hg : g.method = m) (hsize : g.locals.size = c.maxLocals) {s₀ : State} (hcome : Steps p.tables e below s₀ (T.setTop g)) {argsL rest : List Value}
    (hlen : ∀ sig, parseMethodDescriptor y.desc = some sig → argsL.length = sig.parameters.length) (hstack : g.stack = argsL.reverse ++ .ref b :: rest) (hW : 2 * g.monitorRoom + (rest.map fun v => v.category).sum ≤ W)
    (hdg : decode c.code g.pc = .ok (.invokespecial index, 3)) (hpre : ∀ vm₁, s.WarmedH vm₁ → Pre ⟨T.setVm vm₁, locs, cells, slots⟩ (.ref b :: argsL).toArray) :
    ∃ (v : Option Value) (vm₁ : Vm) (B : Pt), s.WarmedH vm₁ ∧ Stand p l e R s m args below meth c B.U B.locs B.cells B.slots ∧ Post ⟨T.setVm vm₁, locs, cells, slots⟩ (.ref b :: argsL).toArray v B ∧
      Steps p.tables e below s₀ (B.U.setTop { g with pc := g.pc + 3, stack := v.toList ++ rest }) := by
  obtain ⟨r0, r, hn, hrm, hst, hsig⟩ := Cond.declares_spec hdecl
  obtain ⟨r1, r', hn', hrm', -, habs⟩ := Cond.instanceMethod_spec hinst
  have e1 : r1 = r0 := Option.some.inj (hn'.symm.trans hn)
  subst e1
  have e2 : r' = r := Option.some.inj (hrm'.symm.trans hrm)
  subst e2
  obtain ⟨cn, dk, kp, hcn, hdk, hkp, hsuper, -, -, hnid⟩ := Cond.superclass_spec hown hsup
  have e3 : cn = r1.cls := Option.some.inj (hcn.symm.trans (findClass_of_methodNamed hn))
  subst e3
  obtain ⟨kr, hkr, hni⟩ := hnf r1 hn
  have e4 : kr = kp := Option.some.inj (hkr.symm.trans hkp)
  subst e4
  have hsame : (Jvm.Cond.sameMethod y.cls y.cls y.name y.desc).before args s = true := by
    simp only [Cond.before, Cond.holds, Cond.value, hcn, State.methodFound?_of_named hn hy, show s.methodNamed? ⟨y.cls, y.name, y.desc⟩ = some r1 from hn, hkp]
    simp [hni]
  obtain ⟨cell, q1, q2, q3⟩ := hrecv
  exact X.specialUpBack hexec hown hlink hsame hn hrm hst habs hno hdk hnid hcn hsuper (Jvm.Free.SB.SBLen.isSubclass_self _ _ _ hkp) q1 (fun z h => by rw [h] at q3; cases q3) (by rw [q2]; exact hkB) hK hg hsize hcome (hlen _ hsig) hstack hW hdg hpre
theorem own_cpg {ff : List Int32} (h : ff.length ≤ 16) : own_cp (List.replicate 34 0) (0 : Int32).toNatClampNeg (own_seg (own_sb ff (16 : Int32).toNatClampNeg) (0 : Int32) (16 : Int32)) ((0 : Int32).toNatClampNeg + (16 : Int32).toNatClampNeg) = own_sb ff (34 : Int32).toNatClampNeg := by
  rw [own_seg0 (own_sblen (by rw [own_c16]; exact h)), own_c16, own_c34, show (0 : Int32).toNatClampNeg = 0 from rfl]
  exact own_cpgrow h (by decide)
theorem own_cpe {ff : List Int32} {n : Nat} {cnt : Int32} (hcn : cnt.toNatClampNeg = ff.length) : own_cp (List.replicate cnt.toNatClampNeg 0) (0 : Int32).toNatClampNeg (own_seg (own_sb ff n) (0 : Int32) cnt) ((0 : Int32).toNatClampNeg + cnt.toNatClampNeg) = ff := by
  rw [own_segsb hcn, show (0 : Int32).toNatClampNeg = 0 from rfl]
  exact own_cprep hcn.symm
def own_ex (rc : String) : List Cond := (Jvm.Free.Exc.excAtoms rc).eraseIdx 18
theorem own_ex_ok {rc : String} : (own_ex rc).all xOk = true := rfl
theorem own_links {s : State} {args : Array Value} {rc : String} {pl : Platform} (howns : pl.frameOwnsMonitors = true) (hfin : pl.finalization = false) (hpl : pl.magicAccessors = ({} : Platform).magicAccessors)
    {cX : ClassId} {kX : Class} (hcX : s.vm.findClass rc = some cX) (hkX : s.vm.classes[cX]? = some kX) (a : ∀ d ∈ own_ex rc, d.holds args s none s [] = true) :
    ∃ T : ThrowableC, T.Links pl s ∧ s.vm.findClass tN = some T.cT ∧ s.methodNamed? tFill = some T.fill ∧ s.methodNamed? tFill0 = some T.fill0 ∧ s.fieldFound? tN "stackTrace" steD = some (T.cT, T.kT, T.i17, T.fStack) ∧
      s.fieldFound? tN "UNASSIGNED_STACK" steD = some (T.cT, T.kT, T.i13, T.fUnassigned) ∧ T.fStack.name = "stackTrace" ∧ T.fStack.type = .array (.object "java/lang/StackTraceElement") ∧ ∃ cell, s.heap[T.aS]? = some cell ∧ cell.vm.isStatics = true := by
  obtain ⟨⟨c, i0⟩, m0, hn0, hm0, hnat0, hcode0, hlk0, hsig0⟩ := Cond.native_spec (a (.native tFill0) (List.mem_of_getElem? (i := 5) rfl))
  have hc : s.vm.findClass tN = some c := findClass_of_methodNamed hn0
  obtain ⟨k, hk, hname⟩ := Vm.findClass_spec hc
  obtain ⟨_, k1, _, _, hk1, _, _, -, _, hni⟩ := Cond.superclass_spec hc (a (.superclass tN "java/lang/Object") (List.mem_of_getElem? (i := 1) rfl))
  cases Option.some.inj (hk.symm.trans hk1)
  obtain ⟨iF, mF, hnF, hmF, hatF, hstF, habF, -, -⟩ := Cond.ownMethod (x := tFill) hc hk (a (.instanceMethod tFill) (List.mem_of_getElem? (i := 2) rfl))
  obtain ⟨mF', cF, hmF', hcF, hbF, hlF, hrF, hlkF, -, hsigF⟩ := Cond.codeSync_spec hnF (a (.codeSync tFill LibCode.Throwable.Fill.code 1 (some (.object tN))) (List.mem_of_getElem? (i := 3) rfl))
  cases Option.some.inj (hmF.symm.trans hmF')
  obtain ⟨i0', m0', hn0', hm0', hat0, hst0, hab0, hnm0, hds0⟩ := Cond.ownMethod (x := tFill0) hc hk (a (.instanceMethod tFill0) (List.mem_of_getElem? (i := 4) rfl))
  cases Option.some.inj (hn0.symm.trans hn0')
  cases Option.some.inj (hm0.symm.trans hm0')
  obtain ⟨mO, methO, hnO, hmO, hstO, habO⟩ := Cond.instanceMethod_spec (a (.instanceMethod oInit) (List.mem_of_getElem? (i := 8) rfl))
  obtain ⟨methO', cO, hmO', hcO, hbO, hlO, -, hlkO, -, hsigO⟩ := Cond.code_spec hnO (a (.code oInit ⟨#[0xb1]⟩ 1 none) (List.mem_of_getElem? (i := 9) rfl))
  cases Option.some.inj (hmO.symm.trans hmO')
  obtain ⟨kO, hkO, hnameO⟩ := Vm.findClass_spec (findClass_of_methodNamed hnO)
  obtain ⟨hnmO, hdsO⟩ := name_of_methodNamed hnO hmO
  obtain ⟨ci1, n1, cf, hl1, hr1, hcf, hp1⟩ := Cond.linkedMethod hc hk hnO (a (.methodLink tN 1 oInit) (List.mem_of_getElem? (i := 10) rfl)) pl hpl
  obtain ⟨ci27, n27, cf2, hl27, hr27, hcf2, hp27⟩ := Cond.linkedMethod hc hk hnF (a (.methodLink tN 27 tFill) (List.mem_of_getElem? (i := 11) rfl)) pl hpl
  cases Option.some.inj (hcf.symm.trans hcf2)
  obtain ⟨ci202, n202, cf3, hl202, hr202, hcf3, hp202⟩ := Cond.linkedMethod hc hk hn0 (a (.methodLink tN 202 tFill0) (List.mem_of_getElem? (i := 12) rfl)) pl hpl
  cases Option.some.inj (hcf.symm.trans hcf3)
  obtain ⟨ci7, i7, f7, hk7, hg7, ha7, hs7, hf7, hn7, ht7, hff7⟩ := Cond.ownField (t := .object tN) hc hk (by decide +kernel) (a (.fieldLink tN 7 tN "cause" "Ljava/lang/Throwable;") (List.mem_of_getElem? (i := 13) rfl)) (a (.lays tN tN "cause" "Ljava/lang/Throwable;") (List.mem_of_getElem? (i := 14) rfl)) pl hpl
  obtain ⟨ci17, i17, f17, hk17, hg17, ha17, hs17, hf17, hn17, ht17, hff17⟩ := Cond.ownField (t := .array (.object "java/lang/StackTraceElement")) hc hk (by decide +kernel) (a (.fieldLink tN 17 tN "stackTrace" steD) (List.mem_of_getElem? (i := 15) rfl)) (a (.lays tN tN "stackTrace" steD) (List.mem_of_getElem? (i := 16) rfl)) pl hpl
  have wP := a (.lays rc tN "suppressedExceptions" listD) (List.mem_of_getElem? (i := 28) rfl)
  obtain ⟨ci24, i24, f24, hk24, hg24, ha24, hs24, hf24, hn24, ht24, hff24⟩ := Cond.ownField (t := .object "java/util/List") hc hk (by decide +kernel) (a (.fieldLink tN 24 tN "suppressedExceptions" listD) (List.mem_of_getElem? (i := 17) rfl)) wP pl hpl
  obtain ⟨ci13, i13, f13, aS, cellS, hk13, hg13, ha13, hs13, -, -, hsta, hcellS, hissS, -, -, hff13⟩ := Cond.ownStatic (t := .array (.object "java/lang/StackTraceElement")) hc hk (by decide +kernel) (a (.fieldLink tN 13 tN "UNASSIGNED_STACK" steD) (List.mem_of_getElem? (i := 18) rfl)) (a (.laysStatic tN "UNASSIGNED_STACK" steD) (List.mem_of_getElem? (i := 19) rfl)) pl hpl
  obtain ⟨ci20, i20, f20, _, _, hk20, hg20, ha20, hs20, -, -, -, -, -, -, -, hff20⟩ := Cond.ownStatic (t := .object "java/util/List") hc hk (by decide +kernel) (a (.fieldLink tN 20 tN "SUPPRESSED_SENTINEL" listD) (List.mem_of_getElem? (i := 20) rfl)) (a (.laysStatic tN "SUPPRESSED_SENTINEL" listD) (List.mem_of_getElem? (i := 21) rfl)) pl hpl
  obtain ⟨_, _, cM, kM, iM, fM, _, _, hffM, hsM, hfM, _⟩ := Cond.lays_spec (a (.lays tN tN "detailMessage" "Ljava/lang/String;") (List.mem_of_getElem? (i := 22) rfl))
  obtain ⟨-, dS, hdS, hdnS⟩ := Cond.laysAt hcX hkX hff17 (a (.lays rc tN "stackTrace" steD) (List.mem_of_getElem? (i := 27) rfl))
  obtain ⟨-, dP, hdP, hdnP⟩ := Cond.laysAt hcX hkX hff24 wP
  have pF : mF.sig.parameters = [] := by
    have q : (parseMethodDescriptor tFill.desc).map (·.parameters) = some [] := by decide +kernel
    rw [hsigF] at q; simpa using q
  have p0 : m0.sig.parameters = [.int] := by
    have q : (parseMethodDescriptor tFill0.desc).map (·.parameters) = some [.int] := by decide +kernel
    rw [hsig0] at q; simpa using q
  have pO : methO.sig.parameters.length = 0 := by
    have q : (parseMethodDescriptor oInit.desc).map (·.parameters) = some [] := by decide +kernel
    rw [hsigO] at q
    have r : methO.sig.parameters = [] := by simpa using q
    rw [r]; rfl
  refine ⟨{ cT := c, kT := k, cO := c, aS := aS, fillIdx := iF, fill0Idx := i0, initSIdx := iF, obj := mO, kObj := kO, methFill := mF, methFill0 := m0, methInitS := mF, methObj := methO, codeFill := cF, codeInitS := cF, codeObj := cO,
              fBack := f7, fDepth := f7, fStack := f17, fCause := f7, fSupp := f24, fMsg := fM, fUnassigned := f13, fSentinel := f20, cfT := cf, ci1 := ci1, n1 := n1, ci27 := ci27, n27 := n27, ci202 := ci202, n202 := n202,
              ci7 := ci7, i7 := i7, ci13 := ci13, i13 := i13, ci17 := ci17, i17 := i17, ci20 := ci20, i20 := i20, ci24 := ci24, i24 := i24 }, ?_, hc, hnF, hn0, hff17, hff13, hn17, ht17, cellS, hcellS, hissS⟩
  exact { owns := howns, noFinalization := hfin, cls := hk, name := hname, boot := Vm.findClass_boot hc hk, notInterface := hni, initialized := Cond.initialized_spec hc hk (a (.initialized tN) (List.mem_of_getElem? (i := 0) rfl)), statics := hsta,
          fillAt := hatF, fillCode := hcF, fillBytes := hbF, fillLocals := hlF, fillLocks := hlkF, fillStatic := hstF, fillAbstract := habF, fillReturns := hrF, fillParams := pF,
          fill0At := hat0, fill0Name := hnm0, fill0Desc := hds0, fill0Params := p0, fill0Static := hst0, fill0Native := hnat0, fill0Code := hcode0, fill0Locks := hlk0, fill0Abstract := hab0,
          stackInstance := hs17, stackNotFinal := hf17, unassignedStatic := hs13,
          objClass := hkO, objClassName := hnameO, objMethod := hmO, objName := hnmO, objStatic := hstO, objAbstract := habO, objFound := by rw [hdsO]; exact lookupSpecial_of_named hnO hmO hstO, objParams := pO,
          objCode := hcO, objBytes := hbO, objLocks := hlkO, causeInstance := hs7, causeNotFinal := hf7, sentinelStatic := hs20, suppInstance := hs24, suppNotFinal := hf24, msgInstance := hsM, msgNotFinal := hfM, stackApartSupp := Cond.laysApart hdS hdP hdnS hdnP (by rw [hn17, hn24]; decide),
          file := hcf, mlink1 := hl1, mright1 := hr1, pool1 := hp1, mlink27 := hl27, mright27 := hr27, pool27 := hp27, mlink202 := hl202, mright202 := hr202, pool202 := hp202,
          link7 := hk7, right7 := hg7, at7 := ha7, link13 := hk13, right13 := hg13, at13 := ha13, link17 := hk17, right17 := hg17, at17 := ha17, link20 := hk20, right20 := hg20, at20 := ha20, link24 := hk24, right24 := hg24, at24 := ha24 }
open Jvm.Free.Exc in
set_option maxHeartbeats 4000000 in
theorem own_fillL {Z : State} {a0 : Array Value} {p : Program} {l : Launch} {e : Env} {R : Room} {s : State} {m : MethodId} {args : Array Value} {below : List Frame} {meth : Method} {c : Code} {T : State} {locs : List Loc} {cells slots : Nat}
    (X : Stand p l e R s m args below meth c T locs cells slots) (hx : p.tables.exec = Jvm.exec) (hl : l.stackTraces = true) (hZ : Z.Warmed39 s.vm) {rc : String} {n : Nat} (hown : s.vm.findClass tN = some m.cls) (w : ∀ d ∈ own_ex rc, d.before a0 Z = true) (wi : (Cond.instantiable rc n).before a0 Z = true)
    (hT0 : ThS Z s.heap) (hTK : s.vm.MethodsKnown) (hBelow : s.vm.FramesKnown below) {h : Heap} (eT : T.heap = h) {a : Addr} (hsz : h.size = s.heap.size) (hlocs : ∀ x ∈ locs, x.base = a) (E : Exa Z h a rc) (N : Unt h a)
    {u : Value} (hu : u.isRef = true) (FS : Fld Z h a tN "stackTrace" steD u) (SU : Sta Z h tN "UNASSIGNED_STACK" steD u) (B : Fld Z h a tN "backtrace" obD .null)
    {g : JFrame} (hg : g.method = m) (hsize : g.locals.size = c.maxLocals) {rest : List Value} (hs : g.stack = .ref a :: rest) (hd : decode c.code g.pc = .ok (.invokevirtual 27, 3))
    (hf : 3 ≤ R.frames) (hlo : 2 * g.monitorRoom + (rest.map fun v => v.category).sum + 42 ≤ R.locals) (hc : cells + 1 ≤ R.cells) (hsl : slots + 2752 ≤ R.slots) :
    ∃ (T' : State) (h' : Heap) (v : Value), Stand p l e R s m args below meth c T' (locs ++ sixLocs Z a) (cells + 1) (slots + 2752) ∧ T'.heap = h' ∧ Kp Z h h' a ∧ Exa Z h' a rc ∧ Unt h' a ∧ Fld Z h' a tN "detailMessage" msgD v ∧
      ∀ target, Steps p.tables e below (T'.setTop { g with pc := g.pc + 3, stack := .ref a :: rest }) target → Steps p.tables e below (T.setTop g) target := by
  subst eT
  have a' : ∀ d ∈ own_ex rc, d.before args s = true := fun d hd => mvX hT0 hZ (List.all_eq_true.mp own_ex_ok d hd) (w d hd)
  have htr : e.platform.stackTraces = true := by rw [X.admits.platform]; exact hl
  have howns : e.platform.frameOwnsMonitors = true := by rw [X.admits.platform]
  have hfin : e.platform.finalization = false := by rw [X.admits.platform]
  have hpl : e.platform.magicAccessors = ({} : Platform).magicAccessors := by rw [X.admits.platform]
  obtain ⟨cell, kc, e1, e2, e3, e4, e5⟩ := id E
  obtain ⟨c2, u1, u2, u3⟩ := id N
  cases e1.symm.trans u1
  have hcX : s.vm.findClass rc = some cell.cls := by rw [hZ.alike.findClass]; exact e2
  obtain ⟨kX, hkX, heX⟩ := hZ.alike.2.2 _ _ e3
  obtain ⟨c4, k2, i1, i2, i3, -⟩ := Cond.instantiable_spec wi
  cases e2.symm.trans i1
  cases e3.symm.trans i2
  have hord : kX.kind = .ordinary := by rw [heX]; exact i3
  have hszX : cell.slots.size = kX.instanceTypes.size := by rw [heX]; exact e5 i3
  obtain ⟨T0, L, hcT, hnF, hn0, hffS, hffU, hnS, htS, cellS0, hcS0, hiss⟩ := own_links howns hfin hpl hcX hkX (fun d hd => a' d hd)
  obtain ⟨c3, cf, kf, i, f, b1, b2, -, -, -, -, hvS⟩ := FS
  cases e1.symm.trans b1
  obtain ⟨kf', hi', -⟩ := State.fieldFound?_setVm hZ.alike b2
  cases (show s.fieldFound? tN "stackTrace" steD = some _ from hi').symm.trans hffS
  obtain ⟨cf2, j2, kf2, f2, st, cS, g1, -, -, g4, g5, g6, g7⟩ := SU
  obtain ⟨kf2', hi2', he2⟩ := State.fieldFound?_setVm hZ.alike g1
  have g4' : kf2'.statics = some st := by rw [he2]; exact g4
  cases (show s.fieldFound? tN "UNASSIGNED_STACK" steD = some _ from hi2').symm.trans hffU
  cases g4'.symm.trans L.statics
  have hneS : T0.aS ≠ a := fun q => by
    rw [q, e1] at g5
    rw [← Option.some.inj g5, u2] at g6
    cases g6
  have hsel0 : selectMethod e.platform s.vm cell.cls T0.fill0 = .method T0.fill0 := by
    obtain ⟨c5, r5, m5, q1, q2, q3, q4, -⟩ := Cond.selects_spec (a' (.selects rc tFill0 tFill0) (List.mem_of_getElem? (i := 24) rfl))
    cases Option.some.inj (q1.symm.trans hcX)
    cases Option.some.inj (q2.symm.trans (State.methodFound?_of_named hn0 (by decide)))
    cases Option.some.inj (q3.symm.trans hn0)
    rw [Launch.admits_selectMethod X.admits]; exact q4
  obtain ⟨ci198, i198, fB, hk198, hg198, ha198, hsB, -, hnB, htB, hffB⟩ := Cond.ownField (t := .object "java/lang/Object") hcT L.cls (by decide +kernel) (a' (.fieldLink tN 198 tN "backtrace" obD) (List.mem_of_getElem? (i := 30) rfl)) (a' (.lays tN tN "backtrace" obD) (List.mem_of_getElem? (i := 31) rfl)) e.platform hpl
  obtain ⟨c7, cf7, kf7, i7, f7, b71, b72, -, -, -, -, hvB⟩ := B
  cases e1.symm.trans b71
  obtain ⟨kf7', hi7', -⟩ := State.fieldFound?_setVm hZ.alike b72
  cases (show s.fieldFound? tN "backtrace" obD = some _ from hi7').symm.trans hffB
  have wD := a' (.lays rc tN "depth" "I") (List.mem_of_getElem? (i := 36) rfl)
  obtain ⟨cD1, kD1, cD, kD, iD, fD, -, -, hffD, hstD, -, -, -, -⟩ := Cond.lays_spec wD
  cases Option.some.inj ((Cond.lays_declared wD hffD).symm.trans hcT)
  obtain ⟨hkD, hatD⟩ := State.fieldFound?_spec hffD
  cases Option.some.inj (hkD.symm.trans L.cls)
  obtain ⟨hnD, htD⟩ := State.fieldFound?_type hffD (t := .int) (by decide +kernel)
  have hfb := Cond.soleField_find hcT L.cls (a' (.soleField tN "backtrace") (List.mem_of_getElem? (i := 34) rfl)) ha198 hnB hsB
  have hfd := Cond.soleField_find hcT L.cls (a' (.soleField tN "depth") (List.mem_of_getElem? (i := 35) rfl)) hatD hnD hstD
  obtain ⟨comp, cO, kO, -, -, hkO, hkindO, hO⟩ := Cond.arrayOver_spec (a' (.arrayOver (.object "java/lang/Object")) (List.mem_of_getElem? (i := 33) rfl))
  obtain ⟨tyS, -⟩ := Cond.laysAt hcX hkX hffS (a' (.lays rc tN "stackTrace" steD) (List.mem_of_getElem? (i := 27) rfl))
  obtain ⟨tyB, -⟩ := Cond.laysAt hcX hkX hffB (a' (.lays rc tN "backtrace" obD) (List.mem_of_getElem? (i := 32) rfl))
  obtain ⟨tyD, -⟩ := Cond.laysAt hcX hkX hffD wD
  have tk : ∀ {f : Field} {v : Value}, kX.instanceTypes[f.slot]? = some f.type → fits f.type v = true → Jvm.Takes s cell f v := fun {f v} h1 h2 => by
    obtain ⟨q1, q2⟩ := Takes.of_laid (v := v) hkX hord h1 h2
    exact ⟨by rw [hszX]; simpa using q1, by rw [u2]; exact q2⟩
  have hSE := a' (.selects rc tFill tFill) (List.mem_of_getElem? (i := 25) rfl)
  obtain ⟨v6, vm6, ⟨T6, L6, c6, n6⟩, hW6, X6, ⟨hv6, C6, nn, hn, hD6, q1, q2, q3, q4, hL6, hc6, hn6⟩, come⟩ := X.virtualBack hx (own := tN) (C := rc) (index := 27) (y := tFill) (z := tFill) hown (a' (.methodLink tN 27 tFill) (List.mem_of_getElem? (i := 11) rfl)) (a' (.declares tFill) (List.mem_of_getElem? (i := 23) rfl)) (notFace_of_selects hSE) hSE (a' (.instanceMethod tFill) (List.mem_of_getElem? (i := 2) rfl)) (by decide)
    (fillPaysAny (l := l) (W := 2 * g.monitorRoom + (rest.map fun v => v.category).sum) hx htr T0 L hnF (u0 := ⟨u, hu⟩) (self := a) (cell := cell) (cellS := cS) (fun _ => by rw [u2]; simp) (by rw [u2]; simp) (by rw [u3]) (by rw [u3]) hvS hsel0 hneS (fun q => by rw [q] at g6; cases g6) g7 (tk tyS (by rw [htS]; exact fits_refV_array _ ⟨u, hu⟩))
      ⟨{ ci198 := ci198, i198 := i198, fBack := fB }, ⟨hk198, hg198, ha198, hsB⟩, hvB⟩ hTK hBelow hcT hO hkO hkindO hfb hfd (fun x => tk tyB (by rw [htB]; rfl)) (fun x => tk tyD (by rw [htD]; rfl)) (by omega) hlo)
    (b := a) (cB := cell.cls) hcX ⟨cell, e1, rfl, by rw [u2]; rfl⟩ (g := g) hg hsize (Steps.refl _) (argsL := []) (rest := rest)
    (fun sig h => by rw [show parseMethodDescriptor tFill.desc = some ⟨[], some (.object tN)⟩ from by decide +kernel] at h; rw [← Option.some.inj h]; rfl) hs (Nat.le_refl _) hd
    (fun vmx hWx => ⟨rfl, hc, hsl, e1, g5⟩)
  dsimp only [Pt.U, Pt.locs, Pt.cells, Pt.slots] at X6 hD6 hL6 hc6 hn6 come
  subst hv6 hL6 hc6 hn6
  have K : Jvm.Free.Exc.Kept T T6 [⟨a, fB.slot⟩, ⟨a, fD.slot⟩, ⟨a, T0.fStack.slot⟩] := fun y cy hy => by
    have hyl : y < s.heap.size := hsz ▸ (Array.getElem?_eq_some_iff.mp hy).1
    obtain ⟨cs, hcs⟩ : ∃ cs, s.heap[y]? = some cs := ⟨_, Array.getElem?_eq_getElem hyl⟩
    obtain ⟨d1, r1, r2, r3, r4⟩ := X.same.2.2.2.2.2 y cs hcs
    cases (show T.heap[y]? = some d1 from r1).symm.trans hy
    obtain ⟨d2, t1, t2, t3, t4⟩ := X6.same.2.2.2.2.2 y cs hcs
    refine ⟨d2, t1, by rw [t2, r2], by rw [t3, r3], fun i hi => ?_⟩
    by_cases hya : y = a
    · subst hya
      cases (show T6.heap[y]? = some d2 from t1).symm.trans hD6
      cases hy.symm.trans e1
      simp only [List.mem_cons, List.not_mem_nil, or_false, not_or, Loc.mk.injEq, true_and] at hi
      exact q4 i hi.1 hi.2.1 hi.2.2
    · rw [t4 i fun hm => hya ?_, r4 i fun hm => hya (hlocs _ hm)]
      rcases List.mem_append.mp hm with hm | hm
      · exact hlocs _ hm
      · simp only [List.mem_cons, List.not_mem_nil, or_false, Loc.mk.injEq] at hm
        rcases hm with hm | hm | hm <;> exact hm.1
  have hL : ∀ x ∈ [(⟨a, fB.slot⟩ : Loc), ⟨a, fD.slot⟩, ⟨a, T0.fStack.slot⟩], Six s a x := fun x hx => by
    simp only [List.mem_cons, List.not_mem_nil, or_false] at hx
    rcases hx with hx | hx | hx
    · exact ⟨("backtrace", obD), _, by simp [sixNames], ⟨_, _, _, hffB⟩, hx⟩
    · exact ⟨("depth", "I"), _, by simp [sixNames], ⟨_, _, _, hffD⟩, hx⟩
    · exact ⟨("stackTrace", steD), _, by simp [sixNames], ⟨_, _, _, hffS⟩, hx⟩
  have K2 : Kp Z T.heap T6.heap a := kp_of hZ rfl hL K
  obtain ⟨cN, z1, z2, -⟩ := N.kp K2
  obtain ⟨vM, hvM⟩ := fld_laid (O := tN) (n := "detailMessage") (d := msgD) (E.kp K2) ⟨cN, z1, by rw [z2]; simp⟩ wi (Or.inl (w (.lays rc tN "detailMessage" msgD) (List.mem_of_getElem? (i := 29) rfl)))
  exact ⟨T6, T6.heap, vM, (wider X6 hZ hL).more (Nat.le_refl _) (Nat.add_le_add_left hn _), rfl, K2, E.kp K2, N.kp K2, hvM, fun target q => come.trans q⟩
open Jvm.Free.Exc in
theorem own_six_ne {Z : State} {a0 : Array Value} {rc O n d : String} {ty : FieldType} (w : ∀ d ∈ own_ex rc, d.before a0 Z = true) (Lf : Laid Z a0 rc O n d) (ht : parseFieldDescriptor d = some ty) (hn : ∀ nd ∈ sixNames, nd.1 ≠ n) : ∀ nd ∈ sixNames, Jvm.RoadKit.slotOf Z tN nd.1 nd.2 ≠ Jvm.RoadKit.slotOf Z O n d := fun nd hm => by
  have q := hn nd hm
  simp only [sixNames, List.mem_cons, List.not_mem_nil, or_false] at hm
  rcases hm with rfl | rfl | rfl | rfl | rfl | rfl
  · exact slot_ne (Or.inl (w _ (List.mem_of_getElem? (i := 26) rfl))) Lf q (t := .object tN) (by decide) ht
  · exact slot_ne (Or.inl (w _ (List.mem_of_getElem? (i := 27) rfl))) Lf q (t := .array (.object "java/lang/StackTraceElement")) (by decide) ht
  · exact slot_ne (Or.inl (w _ (List.mem_of_getElem? (i := 28) rfl))) Lf q (t := .object "java/util/List") (by decide) ht
  · exact slot_ne (Or.inl (w _ (List.mem_of_getElem? (i := 32) rfl))) Lf q (t := .object "java/lang/Object") (by decide) ht
  · exact slot_ne (Or.inl (w _ (List.mem_of_getElem? (i := 36) rfl))) Lf q (t := .int) (by decide) ht
  · exact slot_ne (Or.inl (w _ (List.mem_of_getElem? (i := 29) rfl))) Lf q (t := .object "java/lang/String") (by decide) ht
theorem own_wrsz {h h' : Heap} {a : Addr} {sl : Nat} {v : Value} (W : Wr h h' a sl v) : h'.size = h.size := by
  obtain ⟨c, -, -, -, rfl⟩ := W
  exact Array.size_setIfInBounds
theorem own_bases3 {a : Addr} {i j k : Nat} {L : List Loc} (h : L = (([] ++ [⟨a, i⟩]) ++ [⟨a, j⟩]) ++ [⟨a, k⟩]) : ∀ x ∈ L, x.base = a := by
  subst h
  intro x hx
  simp only [List.nil_append, List.mem_append, List.mem_cons, List.not_mem_nil, or_false] at hx
  rcases hx with (rfl | rfl) | rfl <;> rfl
theorem own_exw_C {Z a0} (hw : HW Z a0) : ∀ d ∈ own_ex "com/example/claimgate/claimgate/config/ConfigException", d.before a0 Z = true := fun d hd => hw d ((by decide +kernel : ∀ d ∈ own_ex "com/example/claimgate/claimgate/config/ConfigException", d ∈ tables_1) d hd)
def own_G (l : Launch) (Z : State) (a0 : Array Value) (G1 : Int32) (G3 : Value) (g1 : Addr) (kg1 : ClassId) (g2 : Addr) (kg2 : ClassId) (uS : Value) (sS : Value) : Prop := (Sta Z Z.heap "java/lang/String" "COMPACT_STRINGS" "Z" (.int G1)) ∧ (¬ (G1 = (0 : Int32))) ∧ (Sta Z Z.heap "jdk/internal/util/Preconditions" "SIOOBE_FORMATTER" "Ljava/util/function/BiFunction;" G3) ∧ (G3.isRef = true) ∧ (Sta Z Z.heap "java/lang/Integer" "DigitOnes" "[B" (.ref g1)) ∧ (Arv Z Z.heap g1 kg1 .byte (100 : Int32) (own_iv own_ones) (.int 0)) ∧ (Sta Z Z.heap "java/lang/Integer" "DigitTens" "[B" (.ref g2)) ∧ (Arv Z Z.heap g2 kg2 .byte (100 : Int32) (own_iv own_tens) (.int 0)) ∧ (l.stackTraces = true) ∧ (Sta Z Z.heap "java/lang/Throwable" "UNASSIGNED_STACK" "[Ljava/lang/StackTraceElement;" uS) ∧ (uS.isRef = true) ∧ (Sta Z Z.heap "java/lang/Throwable" "SUPPRESSED_SENTINEL" "Ljava/util/List;" sS) ∧ (sS.isRef = true)
abbrev M0 : MethodName := ⟨"java/lang/StringUTF16", "compress", "([CI[BII)I"⟩
theorem ef_1 (m : MethodId) (x0 : Addr) (x1 : Int32) (x2 : Addr) (x3 : Int32) (x4 : Int32) : entryFrame m #[(.ref x0), (.int x1), (.ref x2), (.int x3), (.int x4)] 7 = mkF m 0 #[VR x0, VI x1, VR x2, VI x3, VI x4, .unset, .unset] [] := by first | (simp [entryFrame, mkF, argsToLocals, Value.category]; done) | rfl
theorem pn_2 : plainName "java/lang/StringUTF16" = true := by first | (simp [plainName, overriddenIn]; done) | decide +kernel
theorem d0_0 : decode jdk_52_method_21_code 0 = .ok (.iconst 0, 1) := by decide +kernel
theorem d0_1 : decode jdk_52_method_21_code 1 = .ok (.istore 5, 2) := by decide +kernel
theorem d0_3 : decode jdk_52_method_21_code 3 = .ok (.iload 5, 2) := by decide +kernel
theorem d0_5 : decode jdk_52_method_21_code 5 = .ok (.iload 4, 2) := by decide +kernel
theorem d0_7 : decode jdk_52_method_21_code 7 = .ok (.if_icmp .ge 37, 3) := by decide +kernel
theorem d0_10 : decode jdk_52_method_21_code 10 = .ok (.aload_n 0, 1) := by decide +kernel
theorem d0_11 : decode jdk_52_method_21_code 11 = .ok (.iload_n 1, 1) := by decide +kernel
theorem d0_12 : decode jdk_52_method_21_code 12 = .ok (.caload, 1) := by decide +kernel
theorem d0_13 : decode jdk_52_method_21_code 13 = .ok (.istore 6, 2) := by decide +kernel
theorem d0_15 : decode jdk_52_method_21_code 15 = .ok (.iload 6, 2) := by decide +kernel
theorem d0_17 : decode jdk_52_method_21_code 17 = .ok (.sipush 255, 3) := by decide +kernel
theorem d0_20 : decode jdk_52_method_21_code 20 = .ok (.if_icmp .le 6, 3) := by decide +kernel
theorem d0_26 : decode jdk_52_method_21_code 26 = .ok (.aload_n 2, 1) := by decide +kernel
theorem d0_27 : decode jdk_52_method_21_code 27 = .ok (.iload_n 3, 1) := by decide +kernel
theorem d0_28 : decode jdk_52_method_21_code 28 = .ok (.iload 6, 2) := by decide +kernel
theorem d0_30 : decode jdk_52_method_21_code 30 = .ok (.i2b, 1) := by decide +kernel
theorem d0_31 : decode jdk_52_method_21_code 31 = .ok (.bastore, 1) := by decide +kernel
theorem d0_32 : decode jdk_52_method_21_code 32 = .ok (.iinc 1 1, 3) := by decide +kernel
theorem d0_35 : decode jdk_52_method_21_code 35 = .ok (.iinc 3 1, 3) := by decide +kernel
theorem d0_38 : decode jdk_52_method_21_code 38 = .ok (.iinc 5 1, 3) := by decide +kernel
theorem d0_41 : decode jdk_52_method_21_code 41 = .ok (.goto (-38), 3) := by decide +kernel
theorem d0_44 : decode jdk_52_method_21_code 44 = .ok (.iload 4, 2) := by decide +kernel
theorem d0_46 : decode jdk_52_method_21_code 46 = .ok (.ireturn, 1) := by decide +kernel
abbrev R_cmp5_2 : Room := { frames := 0, cells := 0, slots := 0, locals := 0 }
def Q_cmp5_2 (Z : State) (G1 : Int32) (G3 : Value) (g1 : Addr) (kg1 : ClassId) (g2 : Addr) (kg2 : ClassId) (uS : Value) (sS : Value) (b : Addr) (k : ClassId) (t : Addr) (kt : ClassId) (c0 : Int32) (c1 : Int32) (h0 : Heap) (n0 : Nat) (v : Option Value) (h : Heap) (L : List Loc) : Prop := (v = some (.int 2) ∧ Fr n0 L ∧ Keep h0 h [t] ∧ (Arv Z h t kt .byte (2 : Int32) [(.int (own_lo8 c0)), (.int (own_lo8 c1))] (.int 0)))
theorem rm_cmp5_2 (l : Launch) (Z : State) (a0 : Array Value) (hw : HW Z a0) (ws : List Jvm.Cond) (G1 : Int32) (G3 : Value) (g1 : Addr) (kg1 : ClassId) (g2 : Addr) (kg2 : ClassId) (uS : Value) (sS : Value) (HG : own_G l Z a0 G1 G3 g1 kg1 g2 kg2 uS sS) (h0 : Heap) (n0 : Nat) (X00 : Old Z n0 h0) (b : Addr) (k : ClassId) (t : Addr) (kt : ClassId) (c0 : Int32) (c1 : Int32) (hp0 : Arv Z h0 b k .char (2 : Int32) [(.int c0), (.int c1)] (.int 0)) (hp1 : Arv Z h0 t kt .byte (2 : Int32) [(.int 0), (.int 0)] (.int 0)) (hp2 : n0 ≤ t) (hp3 : b ≠ t) (hh0 : ¬ ((255 : Int32) < c0)) (hh1 : ¬ ((255 : Int32) < c1)) :
  own_CP l Z M0 jdk_52_method_21_code 7 (some .int) ws R_cmp5_2 #[(.ref b), (.int 0), (.ref t), (.int 0), (.int 2)] h0 (Q_cmp5_2 Z G1 G3 g1 kg1 g2 kg2 uS sS b k t kt c0 c1 h0 n0) := by
 refine own_P (plainFor_of_name pn_2) ?_
 intro p e s m below meth c s₁ S0 Bd hZ hh hx hby hml hown hnm X0 e0 hS0d
 obtain ⟨O1, P1, O3f, rG3, Sg1, Dg1, Sg2, Dg2, hLT, OU, rU, OS, rS⟩ := id HG
 have N0 := Fr.nil n0
 have C0 : Steps p.tables e below S0 (s₁.setTop (mkF m 0 #[VR b, VI 0, VR t, VI 0, VI 2, .unset, .unset] [])) := by rw [hS0d]; exact castTop (ef_1 m b (0 : Int32) t (0 : Int32) (2 : Int32)) (Steps.refl _)
 obtain ⟨c_1, A_2, q_3, S_4, M_5, H_6, U_7⟩ := id hp0
 have hin_8 : ¬ ((0 : Int32) < 0 ∨ c_1.slots.size ≤ (0 : Int32).toNatClampNeg) := inb_of S_4 ⟨(by decide : ¬ ((0 : Int32) < (0 : Int32))), (by decide : (0 : Int32) < (2 : Int32))⟩
 have hat_9 : c_1.slots[(0 : Int32).toNatClampNeg]? = some (.int c0) := Has.at H_6 hin_8 rfl
 obtain ⟨c_10, A_11, q_12, S_13, M_14, H_15, U_16⟩ := id hp1
 have hin_23 : ¬ ((0 : Int32) < 0 ∨ c_10.slots.size ≤ (0 : Int32).toNatClampNeg) := inb_of S_13 ⟨(by decide : ¬ ((0 : Int32) < (0 : Int32))), (by decide : (0 : Int32) < (2 : Int32))⟩
 obtain ⟨T_17, h_18, X_19, e_20, W_21, st_22⟩ := stB X0 hx hZ e0 A_11 (j := (0 : Int32)) hin_23 (g := (mkF m 31 #[VR b, VI 0, VR t, VI 0, VI 2, VI 0, VI c0] [(.int (c0.toInt8.toInt32)), (.int 0), (.ref t)])) rfl rfl (hb hby d0_31)
 have N_24 := Fr.snoc X_19 N0 hp2
 have V_25 : Arv Z h_18 t kt .byte (2 : Int32) [(.int (own_lo8 c0)), (.int 0)] (.int 0) := Arv.set A_11 q_12 S_13 M_14 H_15 U_16 (fits_nar_byte _) W_21 0 rfl (Nat.le_of_ble_eq_true rfl)
 have V_26 : Arv Z h_18 b k .char (2 : Int32) [(.int c0), (.int c1)] (.int 0) := (hp0.other W_21 hp3)
 obtain ⟨c_27, A_28, q_29, S_30, M_31, H_32, U_33⟩ := id V_26
 have hin_34 : ¬ ((1 : Int32) < 0 ∨ c_27.slots.size ≤ (1 : Int32).toNatClampNeg) := inb_of S_30 ⟨(by decide : ¬ ((1 : Int32) < (0 : Int32))), (by decide : (1 : Int32) < (2 : Int32))⟩
 have hat_35 : c_27.slots[(1 : Int32).toNatClampNeg]? = some (.int c1) := Has.at H_32 hin_34 rfl
 obtain ⟨c_36, A_37, q_38, S_39, M_40, H_41, U_42⟩ := id V_25
 have hin_49 : ¬ ((1 : Int32) < 0 ∨ c_36.slots.size ≤ (1 : Int32).toNatClampNeg) := inb_of S_39 ⟨(by decide : ¬ ((1 : Int32) < (0 : Int32))), (by decide : (1 : Int32) < (2 : Int32))⟩
 obtain ⟨T_43, h_44, X_45, e_46, W_47, st_48⟩ := stB X_19 hx hZ e_20 A_37 (j := (1 : Int32)) hin_49 (g := (mkF m 31 #[VR b, VI 1, VR t, VI 1, VI 2, VI 1, VI c1] [(.int (c1.toInt8.toInt32)), (.int 1), (.ref t)])) rfl rfl (hb hby d0_31)
 have N_50 := Fr.snoc X_45 N_24 hp2
 have V_51 : Arv Z h_44 t kt .byte (2 : Int32) [(.int (own_lo8 c0)), (.int (own_lo8 c1))] (.int 0) := Arv.set A_37 q_38 S_39 M_40 H_41 U_42 (fits_nar_byte _) W_47 1 rfl (Nat.le_of_ble_eq_true rfl)
 have C_52 : Steps p.tables e below S0 (T_43.setTop (mkF m 32 #[VR b, VI 1, VR t, VI 1, VI 2, VI 1, VI c1] [])) := by
  refine C0.trans ?_
  refine XS.iconst X0.here hx rfl (hb hby d0_0) ?_
  refine XS.istore X0.here hx rfl (hb hby d0_1) rfl (l' := #[VR b, VI 0, VR t, VI 0, VI 2, VI 0, .unset]) rfl ?_
  refine XS.iload X0.here hx rfl (hb hby d0_3) rfl ?_
  refine XS.iload X0.here hx rfl (hb hby d0_5) rfl ?_
  refine XS.icmpNo X0.here hx rfl (hb hby d0_7) rfl (by decide) ?_
  refine XS.aloadN X0.here hx rfl (hb hby d0_10) rfl rfl ?_
  refine XS.iloadN X0.here hx rfl (hb hby d0_11) rfl ?_
  refine X0.caload hx (j := (0 : Int32)) (v := (.int c0)) (by rw [e0]; exact A_2.1) (State.isArrayOf_alike hZ.alike A_2.2.1) A_2.2.2 hin_8 hat_9 (g := (mkF m 12 #[VR b, VI 0, VR t, VI 0, VI 2, VI 0, .unset] [(.int 0), (.ref b)])) rfl rfl (hb hby d0_12) _ ?_
  show Steps p.tables e below (s₁.setTop (mkF m 13 #[VR b, VI 0, VR t, VI 0, VI 2, VI 0, .unset] [(.int c0)])) _
  refine XS.istore X0.here hx rfl (hb hby d0_13) rfl (l' := #[VR b, VI 0, VR t, VI 0, VI 2, VI 0, VI c0]) rfl ?_
  refine XS.iload X0.here hx rfl (hb hby d0_15) rfl ?_
  refine XS.sipush X0.here hx rfl (hb hby d0_17) ?_
  refine XS.icmpYes X0.here hx rfl (pc0 := 20) (pc' := 26) rfl (hb hby d0_20) rfl (ii_le_t hh0) (by decide) (by decide) ?_
  refine XS.aloadN X0.here hx rfl (hb hby d0_26) rfl rfl ?_
  refine XS.iloadN X0.here hx rfl (hb hby d0_27) rfl ?_
  refine XS.iload X0.here hx rfl (hb hby d0_28) rfl ?_
  refine XS.i2b X0.here hx rfl (hb hby d0_30) rfl ?_
  show Steps p.tables e below (s₁.setTop (mkF m 31 #[VR b, VI 0, VR t, VI 0, VI 2, VI 0, VI c0] [(.int (c0.toInt8.toInt32)), (.int 0), (.ref t)])) _
  refine st_22 _ ?_
  refine XS.iinc X_19.here hx rfl (hb hby d0_32) (x := (0 : Int32)) rfl (l' := #[VR b, VI 1, VR t, VI 0, VI 2, VI 0, VI c0]) rfl ?_
  refine XS.iinc X_19.here hx rfl (hb hby d0_35) (x := (0 : Int32)) rfl (l' := #[VR b, VI 1, VR t, VI 1, VI 2, VI 0, VI c0]) rfl ?_
  refine XS.iinc X_19.here hx rfl (hb hby d0_38) (x := (0 : Int32)) rfl (l' := #[VR b, VI 1, VR t, VI 1, VI 2, VI 1, VI c0]) rfl ?_
  refine XS.goto X_19.here hx rfl (pc0 := 41) (pc' := 3) rfl (hb hby d0_41) (by decide) (by decide) ?_
  refine XS.iload X_19.here hx rfl (hb hby d0_3) rfl ?_
  refine XS.iload X_19.here hx rfl (hb hby d0_5) rfl ?_
  refine XS.icmpNo X_19.here hx rfl (hb hby d0_7) rfl (by decide) ?_
  show Steps p.tables e below (T_17.setTop (mkF m 10 #[VR b, VI 1, VR t, VI 1, VI 2, VI 1, VI c0] [])) _
  refine XS.aloadN X_19.here hx rfl (hb hby d0_10) rfl rfl ?_
  refine XS.iloadN X_19.here hx rfl (hb hby d0_11) rfl ?_
  refine X_19.caload hx (j := (1 : Int32)) (v := (.int c1)) (by rw [e_20]; exact A_28.1) (State.isArrayOf_alike hZ.alike A_28.2.1) A_28.2.2 hin_34 hat_35 (g := (mkF m 12 #[VR b, VI 1, VR t, VI 1, VI 2, VI 1, VI c0] [(.int 1), (.ref b)])) rfl rfl (hb hby d0_12) _ ?_
  refine XS.istore X_19.here hx rfl (hb hby d0_13) rfl (l' := #[VR b, VI 1, VR t, VI 1, VI 2, VI 1, VI c1]) rfl ?_
  refine XS.iload X_19.here hx rfl (hb hby d0_15) rfl ?_
  refine XS.sipush X_19.here hx rfl (hb hby d0_17) ?_
  refine XS.icmpYes X_19.here hx rfl (pc0 := 20) (pc' := 26) rfl (hb hby d0_20) rfl (ii_le_t hh1) (by decide) (by decide) ?_
  refine XS.aloadN X_19.here hx rfl (hb hby d0_26) rfl rfl ?_
  show Steps p.tables e below (T_17.setTop (mkF m 27 #[VR b, VI 1, VR t, VI 1, VI 2, VI 1, VI c1] [(.ref t)])) _
  refine XS.iloadN X_19.here hx rfl (hb hby d0_27) rfl ?_
  refine XS.iload X_19.here hx rfl (hb hby d0_28) rfl ?_
  refine XS.i2b X_19.here hx rfl (hb hby d0_30) rfl ?_
  refine st_48 _ ?_
  exact Steps.refl _
 have C_53 : Steps p.tables e below S0 (T_43.setTop (mkF m 46 #[VR b, VI 2, VR t, VI 2, VI 2, VI 2, VI c1] [(.int 2)])) := by
  refine C_52.trans ?_
  refine XS.iinc X_45.here hx rfl (hb hby d0_32) (x := (1 : Int32)) rfl (l' := #[VR b, VI 2, VR t, VI 1, VI 2, VI 1, VI c1]) rfl ?_
  refine XS.iinc X_45.here hx rfl (hb hby d0_35) (x := (1 : Int32)) rfl (l' := #[VR b, VI 2, VR t, VI 2, VI 2, VI 1, VI c1]) rfl ?_
  refine XS.iinc X_45.here hx rfl (hb hby d0_38) (x := (1 : Int32)) rfl (l' := #[VR b, VI 2, VR t, VI 2, VI 2, VI 2, VI c1]) rfl ?_
  refine XS.goto X_45.here hx rfl (pc0 := 41) (pc' := 3) rfl (hb hby d0_41) (by decide) (by decide) ?_
  refine XS.iload X_45.here hx rfl (hb hby d0_3) rfl ?_
  refine XS.iload X_45.here hx rfl (hb hby d0_5) rfl ?_
  refine XS.icmpYes X_45.here hx rfl (pc0 := 7) (pc' := 44) rfl (hb hby d0_7) rfl (by decide) (by decide) (by decide) ?_
  refine XS.iload X_45.here hx rfl (hb hby d0_44) rfl ?_
  show Steps p.tables e below (T_43.setTop (mkF m 46 #[VR b, VI 2, VR t, VI 2, VI 2, VI 2, VI c1] [(.int 2)])) _
  exact Steps.refl _
 have K_54 : Keep h0 h_44 [t] := (((Keep.refl _ _).wr W_21 (Or.inl (List.mem_of_getElem? (i := 0) rfl))).wr W_47 (Or.inl (List.mem_of_getElem? (i := 0) rfl)))
 obtain ⟨fs, hr, hrun, hended, hW, hsame⟩ := X_45.leave (v := some (.int 2)) (fun h => by rw [Bd.returns] at h; cases h)
 refine ⟨_, _, C_53.trans (retOut X_45 hx Bd.returns rfl (Or.inl ⟨rfl, Or.inl rfl, _, rfl⟩) (hb hby d0_46) hr), hrun, hended, _, _, rfl, ?_, ⟨_, rfl⟩, hW, hsame.mono (by decide) (by decide)⟩
 show Q_cmp5_2 Z G1 G3 g1 kg1 g2 kg2 uS sS b k t kt c0 c1 h0 n0 (some (.int 2)) T_43.heap _
 rw [e_46]
 exact ⟨rfl, N_50, K_54, V_51⟩
abbrev M26 : MethodName := ⟨"java/lang/StringUTF16", "compress", "([CII)[B"⟩
theorem ef_27 (m : MethodId) (x0 : Addr) (x1 : Int32) (x2 : Int32) : entryFrame m #[(.ref x0), (.int x1), (.int x2)] 6 = mkF m 0 #[VR x0, VI x1, VI x2, .unset, .unset, .unset] [] := by first | (simp [entryFrame, mkF, argsToLocals, Value.category]; done) | rfl
theorem d1_0 : decode jdk_52_method_16_code 0 = .ok (.iload_n 2, 1) := by decide +kernel
theorem w19 {Z a0} (hw : HW Z a0) : Cond.before (Cond.arrayClass FieldType.byte) a0 Z = true := hw _ (List.mem_of_getElem? (i := 19) rfl)
theorem d1_1 : decode jdk_52_method_16_code 1 = .ok (.newarray .byte, 2) := by decide +kernel
theorem d1_3 : decode jdk_52_method_16_code 3 = .ok (.astore_n 3, 1) := by decide +kernel
theorem d1_4 : decode jdk_52_method_16_code 4 = .ok (.aload_n 0, 1) := by decide +kernel
theorem d1_5 : decode jdk_52_method_16_code 5 = .ok (.iload_n 1, 1) := by decide +kernel
theorem d1_6 : decode jdk_52_method_16_code 6 = .ok (.aload_n 3, 1) := by decide +kernel
theorem d1_7 : decode jdk_52_method_16_code 7 = .ok (.iconst 0, 1) := by decide +kernel
theorem d1_8 : decode jdk_52_method_16_code 8 = .ok (.iload_n 2, 1) := by decide +kernel
theorem w22 {Z a0} (hw : HW Z a0) : Cond.before (Cond.code (⟨"java/lang/StringUTF16", "compress", "([CI[BII)I"⟩ : MethodName) jdk_52_method_21_code (7 : Nat) (Option.some FieldType.int)) a0 Z = true := hw _ (List.mem_of_getElem? (i := 22) rfl)
theorem w17 {Z a0} (hw : HW Z a0) : Cond.before (Cond.initialized "java/lang/StringUTF16") a0 Z = true := hw _ (List.mem_of_getElem? (i := 17) rfl)
theorem pd_39 : parseMethodDescriptor "([CI[BII)I" = some ⟨[(.array .char), .int, (.array .byte), .int, .int], some .int⟩ := by decide +kernel
theorem d1_9 : decode jdk_52_method_16_code 9 = .ok (.invokestatic 115, 3) := by decide +kernel
theorem w20 {Z a0} (hw : HW Z a0) : Cond.before (Cond.methodLink "java/lang/StringUTF16" (115 : Nat) (⟨"java/lang/StringUTF16", "compress", "([CI[BII)I"⟩ : MethodName)) a0 Z = true := hw _ (List.mem_of_getElem? (i := 20) rfl)
theorem w21 {Z a0} (hw : HW Z a0) : Cond.before (Cond.static (⟨"java/lang/StringUTF16", "compress", "([CI[BII)I"⟩ : MethodName)) a0 Z = true := hw _ (List.mem_of_getElem? (i := 21) rfl)
theorem d1_12 : decode jdk_52_method_16_code 12 = .ok (.istore 4, 2) := by decide +kernel
theorem d1_14 : decode jdk_52_method_16_code 14 = .ok (.iload 4, 2) := by decide +kernel
theorem d1_16 : decode jdk_52_method_16_code 16 = .ok (.iload_n 2, 1) := by decide +kernel
theorem d1_17 : decode jdk_52_method_16_code 17 = .ok (.if_icmp .eq 40, 3) := by decide +kernel
theorem d1_57 : decode jdk_52_method_16_code 57 = .ok (.aload_n 3, 1) := by decide +kernel
theorem d1_58 : decode jdk_52_method_16_code 58 = .ok (.areturn, 1) := by decide +kernel
abbrev R_cmp3_2 : Room := { frames := 1, cells := 1, slots := 2, locals := 18 }
def Q_cmp3_2 (Z : State) (G1 : Int32) (G3 : Value) (g1 : Addr) (kg1 : ClassId) (g2 : Addr) (kg2 : ClassId) (uS : Value) (sS : Value) (b : Addr) (k : ClassId) (c0 : Int32) (c1 : Int32) (h0 : Heap) (n0 : Nat) (v : Option Value) (h : Heap) (L : List Loc) : Prop := (∃ t : Addr, ∃ kt : ClassId, v = some (.ref t) ∧ Fr n0 L ∧ Keep h0 h [] ∧ (h0.size ≤ t) ∧ (Arv Z h t kt .byte (2 : Int32) [(.int (own_lo8 c0)), (.int (own_lo8 c1))] (.int 0)))
theorem rm_cmp3_2 (l : Launch) (Z : State) (a0 : Array Value) (hw : HW Z a0) (ws : List Jvm.Cond) (G1 : Int32) (G3 : Value) (g1 : Addr) (kg1 : ClassId) (g2 : Addr) (kg2 : ClassId) (uS : Value) (sS : Value) (HG : own_G l Z a0 G1 G3 g1 kg1 g2 kg2 uS sS) (h0 : Heap) (n0 : Nat) (X00 : Old Z n0 h0) (b : Addr) (k : ClassId) (c0 : Int32) (c1 : Int32) (hp0 : Arv Z h0 b k .char (2 : Int32) [(.int c0), (.int c1)] (.int 0)) (hh0 : ¬ ((255 : Int32) < c0)) (hh1 : ¬ ((255 : Int32) < c1)) :
  own_CP l Z M26 jdk_52_method_16_code 6 (some (.array .byte)) ws R_cmp3_2 #[(.ref b), (.int 0), (.int 2)] h0 (Q_cmp3_2 Z G1 G3 g1 kg1 g2 kg2 uS sS b k c0 c1 h0 n0) := by
 refine own_P (plainFor_of_name pn_2) ?_
 intro p e s m below meth c s₁ S0 Bd hZ hh hx hby hml hown hnm X0 e0 hS0d
 obtain ⟨O1, P1, O3f, rG3, Sg1, Dg1, Sg2, Dg2, hLT, OU, rU, OS, rS⟩ := id HG
 have N0 := Fr.nil n0
 have C0 : Steps p.tables e below S0 (s₁.setTop (mkF m 0 #[VR b, VI 0, VI 2, .unset, .unset, .unset] [])) := by rw [hS0d]; exact castTop (ef_27 m b (0 : Int32) (2 : Int32)) (Steps.refl _)
 obtain ⟨T_1, h_2, k_3, X_4, e_5, E_6, A_7, st_8⟩ := newP (aty := .byte) X0 hx hZ (w19 hw) e0 (g := (mkF m 1 #[VR b, VI 0, VI 2, .unset, .unset, .unset] [(.int 2)])) rfl (hb hby d1_1) rfl (by decide : ¬ ((2 : Int32) < (0 : Int32))) (cap := 2) (by decide : (2 : Int32).toNatClampNeg ≤ 2) (by decide) (by decide) (by decide)
 obtain ⟨a_9, g_10⟩ : ∃ z, z = h0.size := ⟨_, rfl⟩
 rw [← g_10] at A_7 st_8
 have V_12 : Arv Z h_2 a_9 k_3 .byte (2 : Int32) [] (.int 0) := Arv.new A_7 (by decide : ¬ ((2 : Int32) < (0 : Int32)))
 have V_11 : Arv Z h_2 a_9 k_3 .byte (2 : Int32) [(.int 0), (.int 0)] (.int 0) := (V_12.pad (pad_rep [] (.int 0) 2))
 have V_13 : Arv Z h_2 b k .char (2 : Int32) [(.int c0), (.int c1)] (.int 0) := (hp0.ext E_6)
 have O_14 : Old Z n0 h_2 := (X00.ext E_6)
 obtain ⟨_, _, ⟨T_15, L_15, k_15, n_15⟩, -, X_15, ⟨Lc_15, hQ_15, l_15, y_15, z_15⟩, st_15⟩ := Jvm.LawKit.callS X_4 hx (y := M0) hown (mvT hZ (w20 hw)) (mvT hZ (w21 hw)) (mvT hZ (w17 hw)) (mvT hZ (w22 hw)) (by decide) (backOf (W := 0) (rm_cmp5_2 l Z a0 hw [] G1 G3 g1 kg1 g2 kg2 uS sS HG h_2 n0 O_14 b k a_9 k_3 c0 c1 V_13 V_11 (Nat.le_trans (own_n0 X00) (Nat.le_of_eq g_10.symm)) (Nat.ne_of_lt (Nat.lt_of_lt_of_le hp0.lt (Nat.le_trans (Nat.le_refl _) (Nat.le_of_eq g_10.symm)))) hh0 hh1) hZ (w22 hw) (w17 hw) (by decide) (by decide)) (g := (mkF m 9 #[VR b, VI 0, VI 2, VR a_9, .unset, .unset] [(.int 2), (.int 0), (.ref a_9), (.int 0), (.ref b)])) rfl (by rw [hml]; rfl) (argsL := [(.ref b), (.int 0), (.ref a_9), (.int 0), (.int 2)]) (rest := []) (lenOf pd_39 rfl) rfl (by show 2 * 0 + _ ≤ _; exact Nat.le_of_eq rfl) (hb hby d1_9) (fun _ _ => ⟨rfl, e_5, (by decide : 1 + 0 ≤ _), (by decide : 2 + 0 ≤ _)⟩)
 dsimp only [Pt.U, Pt.locs, Pt.cells, Pt.slots] at X_15 l_15 y_15 z_15 st_15 hQ_15
 have X_15 := own_cast X_15 l_15 y_15 z_15
 obtain ⟨rfl, N_16, K_17, g_18⟩ := hQ_15
 have N_19 := Fr.app N0 N_16
 have C_20 : Steps p.tables e below S0 (T_15.setTop (mkF m 58 #[VR b, VI 0, VI 2, VR a_9, VI 2, .unset] [(.ref a_9)])) := by
  refine C0.trans ?_
  refine XS.iloadN X0.here hx rfl (hb hby d1_0) rfl ?_
  refine st_8 _ ?_
  refine XS.astoreN X_4.here hx rfl (hb hby d1_3) rfl rfl (l' := #[VR b, VI 0, VI 2, VR a_9, .unset, .unset]) rfl ?_
  refine XS.aloadN X_4.here hx rfl (hb hby d1_4) rfl rfl ?_
  refine XS.iloadN X_4.here hx rfl (hb hby d1_5) rfl ?_
  refine XS.aloadN X_4.here hx rfl (hb hby d1_6) rfl rfl ?_
  refine XS.iconst X_4.here hx rfl (hb hby d1_7) ?_
  refine XS.iloadN X_4.here hx rfl (hb hby d1_8) rfl ?_
  show Steps p.tables e below (T_1.setTop (mkF m 9 #[VR b, VI 0, VI 2, VR a_9, .unset, .unset] [(.int 2), (.int 0), (.ref a_9), (.int 0), (.ref b)])) _
  refine st_15 _ ?_
  refine XS.istore X_15.here hx rfl (hb hby d1_12) rfl (l' := #[VR b, VI 0, VI 2, VR a_9, VI 2, .unset]) rfl ?_
  refine XS.iload X_15.here hx rfl (hb hby d1_14) rfl ?_
  refine XS.iloadN X_15.here hx rfl (hb hby d1_16) rfl ?_
  refine XS.icmpYes X_15.here hx rfl (pc0 := 17) (pc' := 57) rfl (hb hby d1_17) rfl (by decide) (by decide) (by decide) ?_
  refine XS.aloadN X_15.here hx rfl (hb hby d1_57) rfl rfl ?_
  exact Steps.refl _
 have K_21 : Keep h0 T_15.heap [] := (((Keep.refl _ _).ext E_6).trans K_17 (allS (Or.inr (Nat.le_trans (Nat.le_refl _) (Nat.le_of_eq g_10.symm))) all0))
 obtain ⟨fs, hr, hrun, hended, hW, hsame⟩ := X_15.leave (v := some (.ref a_9)) (fun h => by rw [Bd.returns] at h; cases h)
 refine ⟨_, _, C_20.trans (retOut X_15 hx Bd.returns rfl (Or.inr (Or.inr (Or.inr (Or.inr ⟨rfl, rfl, rfl⟩)))) (hb hby d1_58) hr), hrun, hended, _, _, rfl, ?_, ⟨_, rfl⟩, hW, hsame.mono (by decide) (by decide)⟩
 show Q_cmp3_2 Z G1 G3 g1 kg1 g2 kg2 uS sS b k c0 c1 h0 n0 (some (.ref a_9)) T_15.heap _
 exact ⟨a_9, k_3, rfl, N_19, K_21, (Nat.le_trans (Nat.le_refl _) (Nat.le_of_eq g_10.symm)), g_18⟩
abbrev M49 : MethodName := ⟨"java/lang/StringUTF16", "coderFromArrayLen", "([BI)B"⟩
theorem ef_50 (m : MethodId) (x0 : Addr) (x1 : Int32) : entryFrame m #[(.ref x0), (.int x1)] 2 = mkF m 0 #[VR x0, VI x1] [] := by first | (simp [entryFrame, mkF, argsToLocals, Value.category]; done) | rfl
theorem d2_0 : decode jdk_52_method_15_code 0 = .ok (.iload_n 1, 1) := by decide +kernel
theorem d2_1 : decode jdk_52_method_15_code 1 = .ok (.aload_n 0, 1) := by decide +kernel
theorem d2_2 : decode jdk_52_method_15_code 2 = .ok (.arraylength, 1) := by decide +kernel
theorem d2_3 : decode jdk_52_method_15_code 3 = .ok (.isub, 1) := by decide +kernel
theorem d2_4 : decode jdk_52_method_15_code 4 = .ok (.bipush 31, 2) := by decide +kernel
theorem d2_6 : decode jdk_52_method_15_code 6 = .ok (.iushr, 1) := by decide +kernel
theorem d2_7 : decode jdk_52_method_15_code 7 = .ok (.i2b, 1) := by decide +kernel
theorem d2_8 : decode jdk_52_method_15_code 8 = .ok (.ireturn, 1) := by decide +kernel
abbrev R_codl_2 : Room := { frames := 0, cells := 0, slots := 0, locals := 0 }
def Q_codl_2 (Z : State) (G1 : Int32) (G3 : Value) (g1 : Addr) (kg1 : ClassId) (g2 : Addr) (kg2 : ClassId) (uS : Value) (sS : Value) (t : Addr) (kt : ClassId) (y0 : Int32) (y1 : Int32) (h0 : Heap) (n0 : Nat) (v : Option Value) (h : Heap) (L : List Loc) : Prop := (v = some (.int 0) ∧ Fr n0 L ∧ h = h0)
theorem rm_codl_2 (l : Launch) (Z : State) (a0 : Array Value) (hw : HW Z a0) (ws : List Jvm.Cond) (G1 : Int32) (G3 : Value) (g1 : Addr) (kg1 : ClassId) (g2 : Addr) (kg2 : ClassId) (uS : Value) (sS : Value) (HG : own_G l Z a0 G1 G3 g1 kg1 g2 kg2 uS sS) (h0 : Heap) (n0 : Nat) (X00 : Old Z n0 h0) (t : Addr) (kt : ClassId) (y0 : Int32) (y1 : Int32) (hp0 : Arv Z h0 t kt .byte (2 : Int32) [(.int y0), (.int y1)] (.int 0)) :
  own_CP l Z M49 jdk_52_method_15_code 2 (some .byte) ws R_codl_2 #[(.ref t), (.int 2)] h0 (Q_codl_2 Z G1 G3 g1 kg1 g2 kg2 uS sS t kt y0 y1 h0 n0) := by
 refine own_P (plainFor_of_name pn_2) ?_
 intro p e s m below meth c s₁ S0 Bd hZ hh hx hby hml hown hnm X0 e0 hS0d
 obtain ⟨O1, P1, O3f, rG3, Sg1, Dg1, Sg2, Dg2, hLT, OU, rU, OS, rS⟩ := id HG
 have N0 := Fr.nil n0
 have C0 : Steps p.tables e below S0 (s₁.setTop (mkF m 0 #[VR t, VI 2] [])) := by rw [hS0d]; exact castTop (ef_50 m t (2 : Int32)) (Steps.refl _)
 obtain ⟨c_1, A_2, q_3, S_4, M_5, H_6, U_7⟩ := id hp0
 have C_8 : Steps p.tables e below S0 (s₁.setTop (mkF m 8 #[VR t, VI 2] [(.int 0)])) := by
  refine C0.trans ?_
  refine XS.iloadN X0.here hx rfl (hb hby d2_0) rfl ?_
  refine XS.aloadN X0.here hx rfl (hb hby d2_1) rfl rfl ?_
  refine X0.arraylength hx (by rw [e0]; exact A_2.1) (State.isArrayOf_alike hZ.alike A_2.2.1) (g := (mkF m 2 #[VR t, VI 2] [(.ref t), (.int 2)])) rfl rfl (hb hby d2_2) _ ?_
  rw [len_of S_4 M_5]
  refine XS.isub X0.here hx rfl (hb hby d2_3) rfl ?_
  refine XS.bipush X0.here hx rfl (hb hby d2_4) ?_
  refine XS.iushr X0.here hx rfl (hb hby d2_6) rfl ?_
  refine XS.i2b X0.here hx rfl (hb hby d2_7) rfl ?_
  exact Steps.refl _
 obtain ⟨fs, hr, hrun, hended, hW, hsame⟩ := X0.leave (v := some (.int 0)) (fun h => by rw [Bd.returns] at h; cases h)
 refine ⟨_, _, C_8.trans (retN X0 hx (t := .byte) Bd.returns (by simp) (hb hby d2_8) hr), hrun, hended, _, _, rfl, ?_, ⟨_, rfl⟩, hW, hsame.mono (by decide) (by decide)⟩
 show Q_codl_2 Z G1 G3 g1 kg1 g2 kg2 uS sS t kt y0 y1 h0 n0 (some (.int 0)) s₁.heap _
 rw [e0]
 exact ⟨rfl, N0, rfl⟩
abbrev M59 : MethodName := ⟨"java/lang/String", "<init>", "([CIILjava/lang/Void;)V"⟩
theorem ef_60 (m : MethodId) (x0 : Addr) (x1 : Addr) (x2 : Int32) (x3 : Int32) : entryFrame m #[(.ref x0), (.ref x1), (.int x2), (.int x3), .null] 6 = mkF m 0 #[VR x0, VR x1, VI x2, VI x3, .val .null, .unset] [] := by first | (simp [entryFrame, mkF, argsToLocals, Value.category]; done) | rfl
theorem pn_61 : plainName "java/lang/String" = true := by first | (simp [plainName, overriddenIn]; done) | decide +kernel
theorem d3_0 : decode jdk_42_method_149_code 0 = .ok (.aload_n 0, 1) := by decide +kernel
theorem w11 {Z a0} (hw : HW Z a0) : Cond.before (Cond.methodLink "java/lang/String" (1 : Nat) (⟨"java/lang/Object", "<init>", "()V"⟩ : MethodName)) a0 Z = true := hw _ (List.mem_of_getElem? (i := 11) rfl)
theorem w12 {Z a0} (hw : HW Z a0) : Cond.before (Cond.instanceMethod (⟨"java/lang/Object", "<init>", "()V"⟩ : MethodName)) a0 Z = true := hw _ (List.mem_of_getElem? (i := 12) rfl)
theorem w13 {Z a0} (hw : HW Z a0) : Cond.before (Cond.code (⟨"java/lang/Object", "<init>", "()V"⟩ : MethodName) object_method_1_code (1 : Nat) (Option.none : Option FieldType)) a0 Z = true := hw _ (List.mem_of_getElem? (i := 13) rfl)
theorem d3_1 : decode jdk_42_method_149_code 1 = .ok (.invokespecial 1, 3) := by decide +kernel
theorem d3_4 : decode jdk_42_method_149_code 4 = .ok (.iload_n 3, 1) := by decide +kernel
theorem d3_5 : decode jdk_42_method_149_code 5 = .ok (.ifCond .ne 22, 3) := by decide +kernel
theorem w14 {Z a0} (hw : HW Z a0) : Cond.before (Cond.fieldLink "java/lang/String" (38 : Nat) "java/lang/String" "COMPACT_STRINGS" "Z") a0 Z = true := hw _ (List.mem_of_getElem? (i := 14) rfl)
theorem d3_27 : decode jdk_42_method_149_code 27 = .ok (.getstatic 38, 3) := by decide +kernel
theorem d3_30 : decode jdk_42_method_149_code 30 = .ok (.ifCond .eq 28, 3) := by decide +kernel
theorem d3_33 : decode jdk_42_method_149_code 33 = .ok (.aload_n 1, 1) := by decide +kernel
theorem d3_34 : decode jdk_42_method_149_code 34 = .ok (.iload_n 2, 1) := by decide +kernel
theorem d3_35 : decode jdk_42_method_149_code 35 = .ok (.iload_n 3, 1) := by decide +kernel
theorem w18 {Z a0} (hw : HW Z a0) : Cond.before (Cond.code (⟨"java/lang/StringUTF16", "compress", "([CII)[B"⟩ : MethodName) jdk_52_method_16_code (6 : Nat) (Option.some (FieldType.array FieldType.byte))) a0 Z = true := hw _ (List.mem_of_getElem? (i := 18) rfl)
theorem pd_76 : parseMethodDescriptor "([CII)[B" = some ⟨[(.array .char), .int, .int], some (.array .byte)⟩ := by decide +kernel
theorem d3_36 : decode jdk_42_method_149_code 36 = .ok (.invokestatic 177, 3) := by decide +kernel
theorem w15 {Z a0} (hw : HW Z a0) : Cond.before (Cond.methodLink "java/lang/String" (177 : Nat) (⟨"java/lang/StringUTF16", "compress", "([CII)[B"⟩ : MethodName)) a0 Z = true := hw _ (List.mem_of_getElem? (i := 15) rfl)
theorem w16 {Z a0} (hw : HW Z a0) : Cond.before (Cond.static (⟨"java/lang/StringUTF16", "compress", "([CII)[B"⟩ : MethodName)) a0 Z = true := hw _ (List.mem_of_getElem? (i := 16) rfl)
theorem d3_39 : decode jdk_42_method_149_code 39 = .ok (.astore 5, 2) := by decide +kernel
theorem d3_41 : decode jdk_42_method_149_code 41 = .ok (.aload_n 0, 1) := by decide +kernel
theorem d3_42 : decode jdk_42_method_149_code 42 = .ok (.aload 5, 2) := by decide +kernel
theorem d3_44 : decode jdk_42_method_149_code 44 = .ok (.iload_n 3, 1) := by decide +kernel
theorem w25 {Z a0} (hw : HW Z a0) : Cond.before (Cond.code (⟨"java/lang/StringUTF16", "coderFromArrayLen", "([BI)B"⟩ : MethodName) jdk_52_method_15_code (2 : Nat) (Option.some FieldType.byte)) a0 Z = true := hw _ (List.mem_of_getElem? (i := 25) rfl)
theorem pd_85 : parseMethodDescriptor "([BI)B" = some ⟨[(.array .byte), .int], some .byte⟩ := by decide +kernel
theorem d3_45 : decode jdk_42_method_149_code 45 = .ok (.invokestatic 47, 3) := by decide +kernel
theorem w23 {Z a0} (hw : HW Z a0) : Cond.before (Cond.methodLink "java/lang/String" (47 : Nat) (⟨"java/lang/StringUTF16", "coderFromArrayLen", "([BI)B"⟩ : MethodName)) a0 Z = true := hw _ (List.mem_of_getElem? (i := 23) rfl)
theorem w24 {Z a0} (hw : HW Z a0) : Cond.before (Cond.static (⟨"java/lang/StringUTF16", "coderFromArrayLen", "([BI)B"⟩ : MethodName)) a0 Z = true := hw _ (List.mem_of_getElem? (i := 24) rfl)
theorem w26 {Z a0} (hw : HW Z a0) : Cond.before (Cond.fieldLink "java/lang/String" (15 : Nat) "java/lang/String" "coder" "B") a0 Z = true := hw _ (List.mem_of_getElem? (i := 26) rfl)
theorem w27 {Z a0} (hw : HW Z a0) : Cond.before (Cond.laysFinal "java/lang/String" "java/lang/String" "coder" "B") a0 Z = true := hw _ (List.mem_of_getElem? (i := 27) rfl)
theorem w2 {Z a0} (hw : HW Z a0) : Cond.before (Cond.instantiable "java/lang/String" (4 : Nat)) a0 Z = true := hw _ (List.mem_of_getElem? (i := 2) rfl)
theorem d3_48 : decode jdk_42_method_149_code 48 = .ok (.putfield 15, 3) := by decide +kernel
theorem d3_51 : decode jdk_42_method_149_code 51 = .ok (.aload_n 0, 1) := by decide +kernel
theorem d3_52 : decode jdk_42_method_149_code 52 = .ok (.aload 5, 2) := by decide +kernel
theorem w28 {Z a0} (hw : HW Z a0) : Cond.before (Cond.fieldLink "java/lang/String" (9 : Nat) "java/lang/String" "value" "[B") a0 Z = true := hw _ (List.mem_of_getElem? (i := 28) rfl)
theorem w29 {Z a0} (hw : HW Z a0) : Cond.before (Cond.laysFinal "java/lang/String" "java/lang/String" "value" "[B") a0 Z = true := hw _ (List.mem_of_getElem? (i := 29) rfl)
theorem d3_54 : decode jdk_42_method_149_code 54 = .ok (.putfield 9, 3) := by decide +kernel
theorem d3_57 : decode jdk_42_method_149_code 57 = .ok (.return_, 1) := by decide +kernel
abbrev R_si4_2 : Room := { frames := 2, cells := 1, slots := 2, locals := 35 }
def Q_si4_2 (Z : State) (G1 : Int32) (G3 : Value) (g1 : Addr) (kg1 : ClassId) (g2 : Addr) (kg2 : ClassId) (uS : Value) (sS : Value) (x : Addr) (b : Addr) (k : ClassId) (c0 : Int32) (c1 : Int32) (h0 : Heap) (n0 : Nat) (v : Option Value) (h : Heap) (L : List Loc) : Prop := (∃ t : Addr, ∃ kt : ClassId, v = none ∧ Fr n0 L ∧ Keep h0 h [x] ∧ (Exa Z h x "java/lang/String") ∧ (Fld Z h x "java/lang/String" "coder" "B" (.int 0)) ∧ (Fld Z h x "java/lang/String" "value" "[B" (.ref t)) ∧ (h0.size ≤ t) ∧ (Arv Z h t kt .byte (2 : Int32) [(.int (own_lo8 c0)), (.int (own_lo8 c1))] (.int 0)))
theorem rm_si4_2 (l : Launch) (Z : State) (a0 : Array Value) (hw : HW Z a0) (ws : List Jvm.Cond) (G1 : Int32) (G3 : Value) (g1 : Addr) (kg1 : ClassId) (g2 : Addr) (kg2 : ClassId) (uS : Value) (sS : Value) (HG : own_G l Z a0 G1 G3 g1 kg1 g2 kg2 uS sS) (h0 : Heap) (n0 : Nat) (X00 : Old Z n0 h0) (x : Addr) (b : Addr) (k : ClassId) (c0 : Int32) (c1 : Int32) (hp0 : Exa Z h0 x "java/lang/String") (hp1 : Fld Z h0 x "java/lang/String" "value" "[B" .null) (hp2 : Fld Z h0 x "java/lang/String" "coder" "B" (.int 0)) (hp3 : n0 ≤ x) (hp4 : Arv Z h0 b k .char (2 : Int32) [(.int c0), (.int c1)] (.int 0)) (hh0 : ¬ ((255 : Int32) < c0)) (hh1 : ¬ ((255 : Int32) < c1)) :
  own_CP l Z M59 jdk_42_method_149_code 6 none ws R_si4_2 #[(.ref x), (.ref b), (.int 0), (.int 2), .null] h0 (Q_si4_2 Z G1 G3 g1 kg1 g2 kg2 uS sS x b k c0 c1 h0 n0) := by
 refine own_P (plainFor_of_name pn_61) ?_
 intro p e s m below meth c s₁ S0 Bd hZ hh hx hby hml hown hnm X0 e0 hS0d
 obtain ⟨O1, P1, O3f, rG3, Sg1, Dg1, Sg2, Dg2, hLT, OU, rU, OS, rS⟩ := id HG
 have N0 := Fr.nil n0
 have C0 : Steps p.tables e below S0 (s₁.setTop (mkF m 0 #[VR x, VR b, VI 0, VI 2, .val .null, .unset] [])) := by rw [hS0d]; exact castTop (ef_60 m x b (0 : Int32) (2 : Int32)) (Steps.refl _)
 obtain ⟨T_1, X_2, e_3, st_4⟩ := initO X0 hx hZ hown (w11 hw) (w12 hw) (w13 hw) e0 (g := (mkF m 1 #[VR x, VR b, VI 0, VI 2, .val .null, .unset] [(.ref x)])) rfl (by rw [hml]; rfl) rfl (hb hby d3_1) (by decide) (W := 0) (by show 2 * 0 + _ ≤ _; exact Nat.le_of_eq rfl) (by decide)
 obtain ⟨T_5, X_6, e_7, st_8⟩ := getS X_2 hx hZ (host := "") hown (w14 hw) Via.refl e_3 (O1.ext X00.2) (g := (mkF m 27 #[VR x, VR b, VI 0, VI 2, .val .null, .unset] [])) rfl (hb hby d3_27)
 obtain ⟨_, _, ⟨T_9, L_9, k_9, n_9⟩, -, X_9, ⟨Lc_9, hQ_9, l_9, y_9, z_9⟩, st_9⟩ := Jvm.LawKit.callS X_6 hx (y := M26) hown (mvT hZ (w15 hw)) (mvT hZ (w16 hw)) (mvT hZ (w17 hw)) (mvT hZ (w18 hw)) (by decide) (backOf (W := 0) (rm_cmp3_2 l Z a0 hw [] G1 G3 g1 kg1 g2 kg2 uS sS HG h0 n0 X00 b k c0 c1 hp4 hh0 hh1) hZ (w18 hw) (w17 hw) (by decide) (by decide)) (g := (mkF m 36 #[VR x, VR b, VI 0, VI 2, .val .null, .unset] [(.int 2), (.int 0), (.ref b)])) rfl (by rw [hml]; rfl) (argsL := [(.ref b), (.int 0), (.int 2)]) (rest := []) (lenOf pd_76 rfl) rfl (by show 2 * 0 + _ ≤ _; exact Nat.le_of_eq rfl) (hb hby d3_36) (fun _ _ => ⟨rfl, e_7, (by decide : 0 + 1 ≤ _), (by decide : 0 + 2 ≤ _)⟩)
 dsimp only [Pt.U, Pt.locs, Pt.cells, Pt.slots] at X_9 l_9 y_9 z_9 st_9 hQ_9
 have X_9 := own_cast X_9 l_9 y_9 z_9
 obtain ⟨a_10, k_11, rfl, N_12, K_13, g_14, g_15⟩ := hQ_9
 have N_16 := Fr.app N0 N_12
 have O_17 : Old Z n0 T_9.heap := (X00.keep K_13 all0)
 obtain ⟨_, _, ⟨T_18, L_18, k_18, n_18⟩, -, X_18, ⟨Lc_18, hQ_18, l_18, y_18, z_18⟩, st_18⟩ := Jvm.LawKit.callS X_9 hx (y := M49) hown (mvT hZ (w23 hw)) (mvT hZ (w24 hw)) (mvT hZ (w17 hw)) (mvT hZ (w25 hw)) (by decide) (backOf (W := 1) (rm_codl_2 l Z a0 hw [] G1 G3 g1 kg1 g2 kg2 uS sS HG T_9.heap n0 O_17 a_10 k_11 (own_lo8 c0) (own_lo8 c1) g_15) hZ (w25 hw) (w17 hw) (by decide) (by decide)) (g := (mkF m 45 #[VR x, VR b, VI 0, VI 2, .val .null, VR a_10] [(.int 2), (.ref a_10), (.ref x)])) rfl (by rw [hml]; rfl) (argsL := [(.ref a_10), (.int 2)]) (rest := [(.ref x)]) (lenOf pd_85 rfl) rfl (by show 2 * 0 + _ ≤ _; exact Nat.le_of_eq rfl) (hb hby d3_45) (fun _ _ => ⟨rfl, rfl, (by decide : 1 + 0 ≤ _), (by decide : 2 + 0 ≤ _)⟩)
 dsimp only [Pt.U, Pt.locs, Pt.cells, Pt.slots] at X_18 l_18 y_18 z_18 st_18 hQ_18
 have X_18 := own_cast X_18 l_18 y_18 z_18
 obtain ⟨rfl, N_19, e_20⟩ := hQ_18
 have N_21 := Fr.app N_16 N_19
 have e_22 : T_18.heap = T_9.heap := e_20
 have F_23 : Fld Z T_9.heap x "java/lang/String" "coder" "B" (.int 0) := (hp2.keep K_13 nin0)
 have E_24 : Exa Z T_9.heap x "java/lang/String" := (hp0.keep K_13)
 obtain ⟨T_25, h_26, X_27, e_28, W_29, st_30⟩ := putF X_18 hx hZ hown (host := "") (Or.inl (w26 hw)) Via.refl e_22 F_23 E_24 (Or.inr ⟨(w27 hw), rfl, hnm⟩) (w2 hw) (ty := .byte) (by decide) rfl (by decide) (g := (mkF m 48 #[VR x, VR b, VI 0, VI 2, .val .null, VR a_10] [(.int 0), (.ref x)])) rfl rfl (hb hby d3_48)
 have N_31 := Fr.snoc X_27 N_21 hp3
 have F_32 : Fld Z h_26 x "java/lang/String" "coder" "B" (.int 0) := F_23.same W_29
 have F_33 : Fld Z h_26 x "java/lang/String" "value" "[B" .null := ((hp1.keep K_13 nin0).other W_29 (Or.inr (slot_ne (Or.inr (w29 hw)) (Or.inr (w27 hw)) (by decide) (t := (.array .byte)) (by decide) (t' := .byte) (by decide))))
 have E_34 : Exa Z h_26 x "java/lang/String" := (E_24.wr W_29)
 obtain ⟨T_35, h_36, X_37, e_38, W_39, st_40⟩ := putF X_27 hx hZ hown (host := "") (Or.inl (w28 hw)) Via.refl e_28 F_33 E_34 (Or.inr ⟨(w29 hw), rfl, hnm⟩) (w2 hw) (ty := (.array .byte)) (by decide) rfl rfl (g := (mkF m 54 #[VR x, VR b, VI 0, VI 2, .val .null, VR a_10] [(.ref a_10), (.ref x)])) rfl rfl (hb hby d3_54)
 have N_41 := Fr.snoc X_37 N_31 hp3
 have F_42 : Fld Z h_36 x "java/lang/String" "value" "[B" (.ref a_10) := F_33.same W_39
 have C_43 : Steps p.tables e below S0 (T_35.setTop (mkF m 57 #[VR x, VR b, VI 0, VI 2, .val .null, VR a_10] [])) := by
  refine C0.trans ?_
  refine XS.aloadN X0.here hx rfl (hb hby d3_0) rfl rfl ?_
  refine st_4 _ ?_
  refine XS.iloadN X_2.here hx rfl (hb hby d3_4) rfl ?_
  refine XS.ifYes X_2.here hx rfl (pc0 := 5) (pc' := 27) rfl (hb hby d3_5) rfl (by decide) (by decide) (by decide) ?_
  refine st_8 _ ?_
  refine XS.ifNo X_6.here hx rfl (hb hby d3_30) rfl (i0_eq_f P1) ?_
  refine XS.aloadN X_6.here hx rfl (hb hby d3_33) rfl rfl ?_
  refine XS.iloadN X_6.here hx rfl (hb hby d3_34) rfl ?_
  show Steps p.tables e below (T_5.setTop (mkF m 35 #[VR x, VR b, VI 0, VI 2, .val .null, .unset] [(.int 0), (.ref b)])) _
  refine XS.iloadN X_6.here hx rfl (hb hby d3_35) rfl ?_
  refine st_9 _ ?_
  refine XS.astore X_9.here hx rfl (hb hby d3_39) rfl rfl (l' := #[VR x, VR b, VI 0, VI 2, .val .null, VR a_10]) rfl ?_
  refine XS.aloadN X_9.here hx rfl (hb hby d3_41) rfl rfl ?_
  refine XS.aload X_9.here hx rfl (hb hby d3_42) rfl rfl ?_
  refine XS.iloadN X_9.here hx rfl (hb hby d3_44) rfl ?_
  refine st_18 _ ?_
  refine st_30 _ ?_
  show Steps p.tables e below (T_25.setTop (mkF m 51 #[VR x, VR b, VI 0, VI 2, .val .null, VR a_10] [])) _
  refine XS.aloadN X_27.here hx rfl (hb hby d3_51) rfl rfl ?_
  refine XS.aload X_27.here hx rfl (hb hby d3_52) rfl rfl ?_
  refine st_40 _ ?_
  exact Steps.refl _
 have E_44 : Exa Z h_36 x "java/lang/String" := (E_34.wr W_39)
 have F_45 : Fld Z h_36 x "java/lang/String" "coder" "B" (.int 0) := (F_32.other W_39 (Or.inr (slot_ne (Or.inr (w27 hw)) (Or.inr (w29 hw)) (by decide) (t := .byte) (by decide) (t' := (.array .byte)) (by decide))))
 have V_46 : Arv Z h_36 a_10 k_11 .byte (2 : Int32) [(.int (own_lo8 c0)), (.int (own_lo8 c1))] (.int 0) := ((g_15.other W_29 (Ne.symm (Nat.ne_of_lt (Nat.lt_of_lt_of_le hp0.lt (Nat.le_trans (Nat.le_refl _) g_14))))).other W_39 (Ne.symm (Nat.ne_of_lt (Nat.lt_of_lt_of_le hp0.lt (Nat.le_trans (Nat.le_refl _) g_14)))))
 have K_47 : Keep h0 h_36 [x] := ((((Keep.refl _ _).trans K_13 all0).wr W_29 (Or.inl (List.mem_of_getElem? (i := 0) rfl))).wr W_39 (Or.inl (List.mem_of_getElem? (i := 0) rfl)))
 obtain ⟨fs, hr, hrun, hended, hW, hsame⟩ := X_37.leave (v := none) (fun _ => rfl)
 refine ⟨_, _, C_43.trans (X_37.returnOut hx Bd.returns (hb hby d3_57) hr), hrun, hended, _, _, rfl, ?_, ⟨_, rfl⟩, hW, hsame.mono (by decide) (by decide)⟩
 show Q_si4_2 Z G1 G3 g1 kg1 g2 kg2 uS sS x b k c0 c1 h0 n0 (none) T_35.heap _
 rw [e_38]
 exact ⟨a_10, k_11, rfl, N_41, K_47, E_44, F_45, F_42, (Nat.le_trans (Nat.le_refl _) g_14), V_46⟩
abbrev M99 : MethodName := ⟨"java/lang/String", "<init>", "([C)V"⟩
theorem ef_100 (m : MethodId) (x0 : Addr) (x1 : Addr) : entryFrame m #[(.ref x0), (.ref x1)] 2 = mkF m 0 #[VR x0, VR x1] [] := by first | (simp [entryFrame, mkF, argsToLocals, Value.category]; done) | rfl
theorem d4_0 : decode jdk_42_method_3_code 0 = .ok (.aload_n 0, 1) := by decide +kernel
theorem d4_1 : decode jdk_42_method_3_code 1 = .ok (.aload_n 1, 1) := by decide +kernel
theorem d4_2 : decode jdk_42_method_3_code 2 = .ok (.iconst 0, 1) := by decide +kernel
theorem d4_3 : decode jdk_42_method_3_code 3 = .ok (.aload_n 1, 1) := by decide +kernel
theorem d4_4 : decode jdk_42_method_3_code 4 = .ok (.arraylength, 1) := by decide +kernel
theorem d4_5 : decode jdk_42_method_3_code 5 = .ok (.aconst_null, 1) := by decide +kernel
theorem w10 {Z a0} (hw : HW Z a0) : Cond.before (Cond.code (⟨"java/lang/String", "<init>", "([CIILjava/lang/Void;)V"⟩ : MethodName) jdk_42_method_149_code (6 : Nat) (Option.none : Option FieldType)) a0 Z = true := hw _ (List.mem_of_getElem? (i := 10) rfl)
theorem w3 {Z a0} (hw : HW Z a0) : Cond.before (Cond.initialized "java/lang/String") a0 Z = true := hw _ (List.mem_of_getElem? (i := 3) rfl)
theorem pd_109 : parseMethodDescriptor "([CIILjava/lang/Void;)V" = some ⟨[(.array .char), .int, .int, (.object "java/lang/Void")], none⟩ := by decide +kernel
theorem d4_6 : decode jdk_42_method_3_code 6 = .ok (.invokespecial 27, 3) := by decide +kernel
theorem w7 {Z a0} (hw : HW Z a0) : Cond.before (Cond.methodLink "java/lang/String" (27 : Nat) (⟨"java/lang/String", "<init>", "([CIILjava/lang/Void;)V"⟩ : MethodName)) a0 Z = true := hw _ (List.mem_of_getElem? (i := 7) rfl)
theorem w8 {Z a0} (hw : HW Z a0) : Cond.before (Cond.instanceMethod (⟨"java/lang/String", "<init>", "([CIILjava/lang/Void;)V"⟩ : MethodName)) a0 Z = true := hw _ (List.mem_of_getElem? (i := 8) rfl)
theorem d4_9 : decode jdk_42_method_3_code 9 = .ok (.return_, 1) := by decide +kernel
abbrev R_si1_2 : Room := { frames := 3, cells := 1, slots := 2, locals := 52 }
def Q_si1_2 (Z : State) (G1 : Int32) (G3 : Value) (g1 : Addr) (kg1 : ClassId) (g2 : Addr) (kg2 : ClassId) (uS : Value) (sS : Value) (x : Addr) (b : Addr) (k : ClassId) (c0 : Int32) (c1 : Int32) (h0 : Heap) (n0 : Nat) (v : Option Value) (h : Heap) (L : List Loc) : Prop := (∃ t : Addr, ∃ kt : ClassId, v = none ∧ Fr n0 L ∧ Keep h0 h [x] ∧ (Exa Z h x "java/lang/String") ∧ (Fld Z h x "java/lang/String" "coder" "B" (.int 0)) ∧ (Fld Z h x "java/lang/String" "value" "[B" (.ref t)) ∧ (h0.size ≤ t) ∧ (Arv Z h t kt .byte (2 : Int32) [(.int (own_lo8 c0)), (.int (own_lo8 c1))] (.int 0)))
theorem rm_si1_2 (l : Launch) (Z : State) (a0 : Array Value) (hw : HW Z a0) (ws : List Jvm.Cond) (G1 : Int32) (G3 : Value) (g1 : Addr) (kg1 : ClassId) (g2 : Addr) (kg2 : ClassId) (uS : Value) (sS : Value) (HG : own_G l Z a0 G1 G3 g1 kg1 g2 kg2 uS sS) (h0 : Heap) (n0 : Nat) (X00 : Old Z n0 h0) (x : Addr) (b : Addr) (k : ClassId) (c0 : Int32) (c1 : Int32) (hp0 : Exa Z h0 x "java/lang/String") (hp1 : Fld Z h0 x "java/lang/String" "value" "[B" .null) (hp2 : Fld Z h0 x "java/lang/String" "coder" "B" (.int 0)) (hp3 : n0 ≤ x) (hp4 : Arv Z h0 b k .char (2 : Int32) [(.int c0), (.int c1)] (.int 0)) (hh0 : ¬ ((255 : Int32) < c0)) (hh1 : ¬ ((255 : Int32) < c1)) :
  own_CP l Z M99 jdk_42_method_3_code 2 none ws R_si1_2 #[(.ref x), (.ref b)] h0 (Q_si1_2 Z G1 G3 g1 kg1 g2 kg2 uS sS x b k c0 c1 h0 n0) := by
 refine own_P (plainFor_of_name pn_61) ?_
 intro p e s m below meth c s₁ S0 Bd hZ hh hx hby hml hown hnm X0 e0 hS0d
 obtain ⟨O1, P1, O3f, rG3, Sg1, Dg1, Sg2, Dg2, hLT, OU, rU, OS, rS⟩ := id HG
 have N0 := Fr.nil n0
 have C0 : Steps p.tables e below S0 (s₁.setTop (mkF m 0 #[VR x, VR b] [])) := by rw [hS0d]; exact castTop (ef_100 m x b) (Steps.refl _)
 obtain ⟨c_1, A_2, q_3, S_4, M_5, H_6, U_7⟩ := id hp4
 obtain ⟨_, _, ⟨T_8, L_8, k_8, n_8⟩, -, X_8, ⟨Lc_8, hQ_8, l_8, y_8, z_8⟩, st_8⟩ := X0.specialBack hx (y := M59) rfl hown (mvT hZ (w7 hw)) (mvT hZ (w8 hw)) (mvT hZ (w10 hw)) (by decide) (backOf (W := 0) (rm_si4_2 l Z a0 hw [] G1 G3 g1 kg1 g2 kg2 uS sS HG h0 n0 X00 x b k c0 c1 hp0 hp1 hp2 hp3 hp4 hh0 hh1) hZ (w10 hw) (w3 hw) (by decide) (by decide)) (g := (mkF m 6 #[VR x, VR b] [.null, (.int 2), (.int 0), (.ref b), (.ref x)])) rfl (by rw [hml]; rfl) (Steps.refl _) (a := x) (argsL := [(.ref b), (.int 0), (.int 2), .null]) (rest := []) (lenOf pd_109 rfl) rfl (by show 2 * 0 + _ ≤ _; exact Nat.le_of_eq rfl) (hb hby d4_6) (fun _ _ => ⟨rfl, e0, (by decide : 0 + 1 ≤ _), (by decide : 0 + 2 ≤ _)⟩)
 dsimp only [Pt.U, Pt.locs, Pt.cells, Pt.slots] at X_8 l_8 y_8 z_8 st_8 hQ_8
 have X_8 := own_cast X_8 l_8 y_8 z_8
 obtain ⟨a_9, k_10, rfl, N_11, K_12, g_13, g_14, g_15, g_16, g_17⟩ := hQ_8
 have N_18 := Fr.app N0 N_11
 have C_19 : Steps p.tables e below S0 (T_8.setTop (mkF m 9 #[VR x, VR b] [])) := by
  refine C0.trans ?_
  refine XS.aloadN X0.here hx rfl (hb hby d4_0) rfl rfl ?_
  refine XS.aloadN X0.here hx rfl (hb hby d4_1) rfl rfl ?_
  refine XS.iconst X0.here hx rfl (hb hby d4_2) ?_
  refine XS.aloadN X0.here hx rfl (hb hby d4_3) rfl rfl ?_
  refine X0.arraylength hx (by rw [e0]; exact A_2.1) (State.isArrayOf_alike hZ.alike A_2.2.1) (g := (mkF m 4 #[VR x, VR b] [(.ref b), (.int 0), (.ref b), (.ref x)])) rfl rfl (hb hby d4_4) _ ?_
  rw [len_of S_4 M_5]
  refine XS.aconstNull X0.here hx rfl (hb hby d4_5) ?_
  refine st_8.trans ?_
  exact Steps.refl _
 have K_20 : Keep h0 T_8.heap [x] := ((Keep.refl _ _).trans K_12 (allS (Or.inl (List.mem_of_getElem? (i := 0) rfl)) all0))
 obtain ⟨fs, hr, hrun, hended, hW, hsame⟩ := X_8.leave (v := none) (fun _ => rfl)
 refine ⟨_, _, C_19.trans (X_8.returnOut hx Bd.returns (hb hby d4_9) hr), hrun, hended, _, _, rfl, ?_, ⟨_, rfl⟩, hW, hsame.mono (by decide) (by decide)⟩
 show Q_si1_2 Z G1 G3 g1 kg1 g2 kg2 uS sS x b k c0 c1 h0 n0 (none) T_8.heap _
 exact ⟨a_9, k_10, rfl, N_18, K_20, g_13, g_14, g_15, (Nat.le_trans (Nat.le_refl _) g_16), g_17⟩
abbrev M114 : MethodName := ⟨"java/lang/String", "coder", "()B"⟩
theorem ef_115 (m : MethodId) (x0 : Addr) : entryFrame m #[(.ref x0)] 1 = mkF m 0 #[VR x0] [] := by first | (simp [entryFrame, mkF, argsToLocals, Value.category]; done) | rfl
theorem d5_0 : decode jdk_42_method_152_code 0 = .ok (.getstatic 38, 3) := by decide +kernel
theorem d5_3 : decode jdk_42_method_152_code 3 = .ok (.ifCond .eq 10, 3) := by decide +kernel
theorem d5_6 : decode jdk_42_method_152_code 6 = .ok (.aload_n 0, 1) := by decide +kernel
theorem d5_7 : decode jdk_42_method_152_code 7 = .ok (.getfield 15, 3) := by decide +kernel
theorem d5_10 : decode jdk_42_method_152_code 10 = .ok (.goto 4, 3) := by decide +kernel
theorem d5_14 : decode jdk_42_method_152_code 14 = .ok (.ireturn, 1) := by decide +kernel
abbrev R_coder : Room := { frames := 0, cells := 0, slots := 0, locals := 0 }
def Q_coder (Z : State) (G1 : Int32) (G3 : Value) (g1 : Addr) (kg1 : ClassId) (g2 : Addr) (kg2 : ClassId) (uS : Value) (sS : Value) (x : Addr) (h0 : Heap) (n0 : Nat) (v : Option Value) (h : Heap) (L : List Loc) : Prop := (v = some (.int 0) ∧ Fr n0 L ∧ h = h0)
theorem rm_coder (l : Launch) (Z : State) (a0 : Array Value) (hw : HW Z a0) (ws : List Jvm.Cond) (G1 : Int32) (G3 : Value) (g1 : Addr) (kg1 : ClassId) (g2 : Addr) (kg2 : ClassId) (uS : Value) (sS : Value) (HG : own_G l Z a0 G1 G3 g1 kg1 g2 kg2 uS sS) (h0 : Heap) (n0 : Nat) (X00 : Old Z n0 h0) (x : Addr) (hp0 : Fld Z h0 x "java/lang/String" "coder" "B" (.int 0)) :
  own_CP l Z M114 jdk_42_method_152_code 1 (some .byte) ws R_coder #[(.ref x)] h0 (Q_coder Z G1 G3 g1 kg1 g2 kg2 uS sS x h0 n0) := by
 refine own_P (plainFor_of_name pn_61) ?_
 intro p e s m below meth c s₁ S0 Bd hZ hh hx hby hml hown hnm X0 e0 hS0d
 obtain ⟨O1, P1, O3f, rG3, Sg1, Dg1, Sg2, Dg2, hLT, OU, rU, OS, rS⟩ := id HG
 have N0 := Fr.nil n0
 have C0 : Steps p.tables e below S0 (s₁.setTop (mkF m 0 #[VR x] [])) := by rw [hS0d]; exact castTop (ef_115 m x) (Steps.refl _)
 obtain ⟨T_1, X_2, e_3, st_4⟩ := getS X0 hx hZ (host := "") hown (w14 hw) Via.refl e0 (O1.ext X00.2) (g := (mkF m 0 #[VR x] [])) rfl (hb hby d5_0)
 obtain ⟨T_5, X_6, e_7, st_8⟩ := getF X_2 hx hZ hown (host := "") (Or.inl (w26 hw)) Via.refl e_3 hp0 (g := (mkF m 7 #[VR x] [(.ref x)])) rfl rfl (hb hby d5_7)
 have C_9 : Steps p.tables e below S0 (T_5.setTop (mkF m 14 #[VR x] [(.int 0)])) := by
  refine C0.trans ?_
  refine st_4 _ ?_
  refine XS.ifNo X_2.here hx rfl (hb hby d5_3) rfl (i0_eq_f P1) ?_
  refine XS.aloadN X_2.here hx rfl (hb hby d5_6) rfl rfl ?_
  refine st_8 _ ?_
  refine XS.goto X_6.here hx rfl (pc0 := 10) (pc' := 14) rfl (hb hby d5_10) (by decide) (by decide) ?_
  exact Steps.refl _
 obtain ⟨fs, hr, hrun, hended, hW, hsame⟩ := X_6.leave (v := some (.int 0)) (fun h => by rw [Bd.returns] at h; cases h)
 refine ⟨_, _, C_9.trans (retN X_6 hx (t := .byte) Bd.returns (by simp) (hb hby d5_14) hr), hrun, hended, _, _, rfl, ?_, ⟨_, rfl⟩, hW, hsame.mono (by decide) (by decide)⟩
 show Q_coder Z G1 G3 g1 kg1 g2 kg2 uS sS x h0 n0 (some (.int 0)) T_5.heap _
 rw [e_7]
 exact ⟨rfl, N0, rfl⟩
abbrev M122 : MethodName := ⟨"java/lang/String", "isLatin1", "()Z"⟩
theorem d6_0 : decode jdk_42_method_154_code 0 = .ok (.getstatic 38, 3) := by decide +kernel
theorem d6_3 : decode jdk_42_method_154_code 3 = .ok (.ifCond .eq 14, 3) := by decide +kernel
theorem d6_6 : decode jdk_42_method_154_code 6 = .ok (.aload_n 0, 1) := by decide +kernel
theorem d6_7 : decode jdk_42_method_154_code 7 = .ok (.getfield 15, 3) := by decide +kernel
theorem d6_10 : decode jdk_42_method_154_code 10 = .ok (.ifCond .ne 7, 3) := by decide +kernel
theorem d6_13 : decode jdk_42_method_154_code 13 = .ok (.iconst 1, 1) := by decide +kernel
theorem d6_14 : decode jdk_42_method_154_code 14 = .ok (.goto 4, 3) := by decide +kernel
theorem d6_18 : decode jdk_42_method_154_code 18 = .ok (.ireturn, 1) := by decide +kernel
abbrev R_islat : Room := { frames := 0, cells := 0, slots := 0, locals := 0 }
def Q_islat (Z : State) (G1 : Int32) (G3 : Value) (g1 : Addr) (kg1 : ClassId) (g2 : Addr) (kg2 : ClassId) (uS : Value) (sS : Value) (x : Addr) (h0 : Heap) (n0 : Nat) (v : Option Value) (h : Heap) (L : List Loc) : Prop := (v = some (.int 1) ∧ Fr n0 L ∧ h = h0)
theorem rm_islat (l : Launch) (Z : State) (a0 : Array Value) (hw : HW Z a0) (ws : List Jvm.Cond) (G1 : Int32) (G3 : Value) (g1 : Addr) (kg1 : ClassId) (g2 : Addr) (kg2 : ClassId) (uS : Value) (sS : Value) (HG : own_G l Z a0 G1 G3 g1 kg1 g2 kg2 uS sS) (h0 : Heap) (n0 : Nat) (X00 : Old Z n0 h0) (x : Addr) (hp0 : Fld Z h0 x "java/lang/String" "coder" "B" (.int 0)) :
  own_CP l Z M122 jdk_42_method_154_code 1 (some .boolean) ws R_islat #[(.ref x)] h0 (Q_islat Z G1 G3 g1 kg1 g2 kg2 uS sS x h0 n0) := by
 refine own_P (plainFor_of_name pn_61) ?_
 intro p e s m below meth c s₁ S0 Bd hZ hh hx hby hml hown hnm X0 e0 hS0d
 obtain ⟨O1, P1, O3f, rG3, Sg1, Dg1, Sg2, Dg2, hLT, OU, rU, OS, rS⟩ := id HG
 have N0 := Fr.nil n0
 have C0 : Steps p.tables e below S0 (s₁.setTop (mkF m 0 #[VR x] [])) := by rw [hS0d]; exact castTop (ef_115 m x) (Steps.refl _)
 obtain ⟨T_1, X_2, e_3, st_4⟩ := getS X0 hx hZ (host := "") hown (w14 hw) Via.refl e0 (O1.ext X00.2) (g := (mkF m 0 #[VR x] [])) rfl (hb hby d6_0)
 obtain ⟨T_5, X_6, e_7, st_8⟩ := getF X_2 hx hZ hown (host := "") (Or.inl (w26 hw)) Via.refl e_3 hp0 (g := (mkF m 7 #[VR x] [(.ref x)])) rfl rfl (hb hby d6_7)
 have C_9 : Steps p.tables e below S0 (T_5.setTop (mkF m 18 #[VR x] [(.int 1)])) := by
  refine C0.trans ?_
  refine st_4 _ ?_
  refine XS.ifNo X_2.here hx rfl (hb hby d6_3) rfl (i0_eq_f P1) ?_
  refine XS.aloadN X_2.here hx rfl (hb hby d6_6) rfl rfl ?_
  refine st_8 _ ?_
  refine XS.ifNo X_6.here hx rfl (hb hby d6_10) rfl (by decide) ?_
  refine XS.iconst X_6.here hx rfl (hb hby d6_13) ?_
  refine XS.goto X_6.here hx rfl (pc0 := 14) (pc' := 18) rfl (hb hby d6_14) (by decide) (by decide) ?_
  exact Steps.refl _
 obtain ⟨fs, hr, hrun, hended, hW, hsame⟩ := X_6.leave (v := some (.int 1)) (fun h => by rw [Bd.returns] at h; cases h)
 refine ⟨_, _, C_9.trans (retN X_6 hx (t := .boolean) Bd.returns (by simp) (hb hby d6_18) hr), hrun, hended, _, _, rfl, ?_, ⟨_, rfl⟩, hW, hsame.mono (by decide) (by decide)⟩
 show Q_islat Z G1 G3 g1 kg1 g2 kg2 uS sS x h0 n0 (some (.int 1)) T_5.heap _
 rw [e_7]
 exact ⟨rfl, N0, rfl⟩
abbrev M131 : MethodName := ⟨"java/lang/String", "length", "()I"⟩
theorem d7_0 : decode jdk_42_method_54_code 0 = .ok (.aload_n 0, 1) := by decide +kernel
theorem d7_1 : decode jdk_42_method_54_code 1 = .ok (.getfield 9, 3) := by decide +kernel
theorem d7_4 : decode jdk_42_method_54_code 4 = .ok (.arraylength, 1) := by decide +kernel
theorem d7_5 : decode jdk_42_method_54_code 5 = .ok (.aload_n 0, 1) := by decide +kernel
theorem w87 {Z a0} (hw : HW Z a0) : Cond.before (Cond.code (⟨"java/lang/String", "coder", "()B"⟩ : MethodName) jdk_42_method_152_code (1 : Nat) (Option.some FieldType.byte)) a0 Z = true := hw _ (List.mem_of_getElem? (i := 87) rfl)
theorem pd_137 : parseMethodDescriptor "()B" = some ⟨[], some .byte⟩ := by decide +kernel
theorem d7_6 : decode jdk_42_method_54_code 6 = .ok (.invokevirtual 335, 3) := by decide +kernel
theorem w83 {Z a0} (hw : HW Z a0) : Cond.before (Cond.methodLink "java/lang/String" (335 : Nat) (⟨"java/lang/String", "coder", "()B"⟩ : MethodName)) a0 Z = true := hw _ (List.mem_of_getElem? (i := 83) rfl)
theorem w86 {Z a0} (hw : HW Z a0) : Cond.before (Cond.selects "java/lang/String" (⟨"java/lang/String", "coder", "()B"⟩ : MethodName) (⟨"java/lang/String", "coder", "()B"⟩ : MethodName)) a0 Z = true := hw _ (List.mem_of_getElem? (i := 86) rfl)
theorem w85 {Z a0} (hw : HW Z a0) : Cond.before (Cond.instanceMethod (⟨"java/lang/String", "coder", "()B"⟩ : MethodName)) a0 Z = true := hw _ (List.mem_of_getElem? (i := 85) rfl)
theorem w84 {Z a0} (hw : HW Z a0) : Cond.before (Cond.declares (⟨"java/lang/String", "coder", "()B"⟩ : MethodName)) a0 Z = true := hw _ (List.mem_of_getElem? (i := 84) rfl)
theorem d7_9 : decode jdk_42_method_54_code 9 = .ok (.ishr, 1) := by decide +kernel
theorem d7_10 : decode jdk_42_method_54_code 10 = .ok (.ireturn, 1) := by decide +kernel
abbrev R_lens : Room := { frames := 1, cells := 0, slots := 0, locals := 13 }
def Q_lens (Z : State) (G1 : Int32) (G3 : Value) (g1 : Addr) (kg1 : ClassId) (g2 : Addr) (kg2 : ClassId) (uS : Value) (sS : Value) (x : Addr) (t : Addr) (kt : ClassId) (nn : Int32) (bs : List Value) (h0 : Heap) (n0 : Nat) (v : Option Value) (h : Heap) (L : List Loc) : Prop := (v = some (.int nn) ∧ Fr n0 L ∧ h = h0)
theorem rm_lens (l : Launch) (Z : State) (a0 : Array Value) (hw : HW Z a0) (ws : List Jvm.Cond) (G1 : Int32) (G3 : Value) (g1 : Addr) (kg1 : ClassId) (g2 : Addr) (kg2 : ClassId) (uS : Value) (sS : Value) (HG : own_G l Z a0 G1 G3 g1 kg1 g2 kg2 uS sS) (h0 : Heap) (n0 : Nat) (X00 : Old Z n0 h0) (x : Addr) (t : Addr) (kt : ClassId) (nn : Int32) (bs : List Value) (hp0 : Exa Z h0 x "java/lang/String") (hp1 : Fld Z h0 x "java/lang/String" "coder" "B" (.int 0)) (hp2 : Fld Z h0 x "java/lang/String" "value" "[B" (.ref t)) (hp3 : Arv Z h0 t kt .byte nn bs (.int 0)) :
  own_CP l Z M131 jdk_42_method_54_code 1 (some .int) ws R_lens #[(.ref x)] h0 (Q_lens Z G1 G3 g1 kg1 g2 kg2 uS sS x t kt nn bs h0 n0) := by
 refine own_P (plainFor_of_name pn_61) ?_
 intro p e s m below meth c s₁ S0 Bd hZ hh hx hby hml hown hnm X0 e0 hS0d
 obtain ⟨O1, P1, O3f, rG3, Sg1, Dg1, Sg2, Dg2, hLT, OU, rU, OS, rS⟩ := id HG
 have N0 := Fr.nil n0
 have C0 : Steps p.tables e below S0 (s₁.setTop (mkF m 0 #[VR x] [])) := by rw [hS0d]; exact castTop (ef_115 m x) (Steps.refl _)
 obtain ⟨T_1, X_2, e_3, st_4⟩ := getF X0 hx hZ hown (host := "") (Or.inl (w28 hw)) Via.refl e0 hp2 (g := (mkF m 1 #[VR x] [(.ref x)])) rfl rfl (hb hby d7_1)
 obtain ⟨c_5, A_6, q_7, S_8, M_9, H_10, U_11⟩ := id hp3
 obtain ⟨q_13, q_14, q_15, q_16, q_17⟩ := isOf (T := T_1) hZ e_3 hp0
 obtain ⟨_, _, ⟨T_12, L_12, k_12, n_12⟩, -, X_12, ⟨Lc_12, hQ_12, l_12, y_12, z_12⟩, st_12⟩ := X_2.virtualBack hx (y := M114) (z := M114) hown (mvT hZ (w83 hw)) (mvT hZ (w84 hw)) (notFace_of_selects (args := #[]) (mvT hZ (w86 hw))) (mvT hZ (w86 hw)) (mvT hZ (w85 hw)) (by decide) (backOf (W := 1) (rm_coder l Z a0 hw [] G1 G3 g1 kg1 g2 kg2 uS sS HG h0 n0 X00 x hp1) hZ (w87 hw) (w3 hw) (by decide) (by decide)) q_15 q_17 (g := (mkF m 6 #[VR x] [(.ref x), (.int nn)])) rfl (by rw [hml]; rfl) (Steps.refl _) (argsL := []) (rest := [(.int nn)]) (lenOf pd_137 rfl) rfl (by show 2 * 0 + _ ≤ _; exact Nat.le_of_eq rfl) (hb hby d7_6) (fun _ _ => ⟨rfl, e_3, (by decide : 0 + 0 ≤ _), (by decide : 0 + 0 ≤ _)⟩)
 dsimp only [Pt.U, Pt.locs, Pt.cells, Pt.slots] at X_12 l_12 y_12 z_12 st_12 hQ_12
 have X_12 := own_cast X_12 l_12 y_12 z_12
 obtain ⟨rfl, N_18, e_19⟩ := hQ_12
 have N_20 := Fr.app N0 N_18
 have e_21 : T_12.heap = h0 := e_19
 have C_22 : Steps p.tables e below S0 (T_12.setTop (mkF m 10 #[VR x] [(.int (nn >>> ((0 : Int32) &&& 31)))])) := by
  refine C0.trans ?_
  refine XS.aloadN X0.here hx rfl (hb hby d7_0) rfl rfl ?_
  refine st_4 _ ?_
  refine X_2.arraylength hx (by rw [e_3]; exact A_6.1) (State.isArrayOf_alike hZ.alike A_6.2.1) (g := (mkF m 4 #[VR x] [(.ref t)])) rfl rfl (hb hby d7_4) _ ?_
  rw [len_of S_8 M_9]
  refine XS.aloadN X_2.here hx rfl (hb hby d7_5) rfl rfl ?_
  refine st_12.trans ?_
  refine XS.ishr X_12.here hx rfl (hb hby d7_9) rfl ?_
  exact Steps.refl _
 obtain ⟨fs, hr, hrun, hended, hW, hsame⟩ := X_12.leave (v := some (.int (nn >>> ((0 : Int32) &&& 31)))) (fun h => by rw [Bd.returns] at h; cases h)
 refine ⟨_, _, C_22.trans (retOut X_12 hx Bd.returns rfl (Or.inl ⟨rfl, Or.inl rfl, _, rfl⟩) (hb hby d7_10) hr), hrun, hended, _, _, rfl, ?_, ⟨_, rfl⟩, hW, hsame.mono (by decide) (by decide)⟩
 show Q_lens Z G1 G3 g1 kg1 g2 kg2 uS sS x t kt nn bs h0 n0 (some (.int (nn >>> ((0 : Int32) &&& 31)))) T_12.heap _
 rw [e_21]
 exact ⟨(congrArg (fun q => some (Value.int q)) (own_shr0 nn)), N_20, rfl⟩
abbrev M145 : MethodName := ⟨"jdk/internal/util/Preconditions", "checkIndex", "(IILjava/util/function/BiFunction;)I"⟩
theorem ef_146 (m : MethodId) (x0 : Int32) (x1 : Int32) (x2 : Value) (r2 : x2.isRef = true) : entryFrame m #[(.int x0), (.int x1), x2] 3 = mkF m 0 #[VI x0, VI x1, .val x2] [] := by rcases ref_cases r2 with rfl | ⟨q2, rfl⟩ <;> first | (simp [entryFrame, mkF, argsToLocals, Value.category]; done) | rfl
theorem pn_147 : plainName "jdk/internal/util/Preconditions" = true := by first | (simp [plainName, overriddenIn]; done) | decide +kernel
theorem d8_0 : decode jdk_41_method_11_code 0 = .ok (.iload_n 0, 1) := by decide +kernel
theorem d8_1 : decode jdk_41_method_11_code 1 = .ok (.ifCond .lt 8, 3) := by decide +kernel
theorem d8_4 : decode jdk_41_method_11_code 4 = .ok (.iload_n 0, 1) := by decide +kernel
theorem d8_5 : decode jdk_41_method_11_code 5 = .ok (.iload_n 1, 1) := by decide +kernel
theorem d8_6 : decode jdk_41_method_11_code 6 = .ok (.if_icmp .lt 10, 3) := by decide +kernel
theorem d8_16 : decode jdk_41_method_11_code 16 = .ok (.iload_n 0, 1) := by decide +kernel
theorem d8_17 : decode jdk_41_method_11_code 17 = .ok (.ireturn, 1) := by decide +kernel
abbrev R_pchk : Room := { frames := 0, cells := 0, slots := 0, locals := 0 }
def Q_pchk (Z : State) (G1 : Int32) (G3 : Value) (g1 : Addr) (kg1 : ClassId) (g2 : Addr) (kg2 : ClassId) (uS : Value) (sS : Value) (i : Int32) (n : Int32) (h0 : Heap) (n0 : Nat) (v : Option Value) (h : Heap) (L : List Loc) : Prop := (v = some (.int i) ∧ Fr n0 L ∧ h = h0)
theorem rm_pchk (l : Launch) (Z : State) (a0 : Array Value) (hw : HW Z a0) (ws : List Jvm.Cond) (G1 : Int32) (G3 : Value) (g1 : Addr) (kg1 : ClassId) (g2 : Addr) (kg2 : ClassId) (uS : Value) (sS : Value) (HG : own_G l Z a0 G1 G3 g1 kg1 g2 kg2 uS sS) (h0 : Heap) (n0 : Nat) (X00 : Old Z n0 h0) (i : Int32) (n : Int32) (h1 : ¬ (i < (0 : Int32))) (h2 : i < n) :
  own_CP l Z M145 jdk_41_method_11_code 3 (some .int) ws R_pchk #[(.int i), (.int n), G3] h0 (Q_pchk Z G1 G3 g1 kg1 g2 kg2 uS sS i n h0 n0) := by
 refine own_P (plainFor_of_name pn_147) ?_
 intro p e s m below meth c s₁ S0 Bd hZ hh hx hby hml hown hnm X0 e0 hS0d
 obtain ⟨O1, P1, O3f, rG3, Sg1, Dg1, Sg2, Dg2, hLT, OU, rU, OS, rS⟩ := id HG
 have N0 := Fr.nil n0
 have C0 : Steps p.tables e below S0 (s₁.setTop (mkF m 0 #[VI i, VI n, .val G3] [])) := by rw [hS0d]; exact castTop (ef_146 m i n G3 rG3) (Steps.refl _)
 have C_1 : Steps p.tables e below S0 (s₁.setTop (mkF m 17 #[VI i, VI n, .val G3] [(.int i)])) := by
  refine C0.trans ?_
  refine XS.iloadN X0.here hx rfl (hb hby d8_0) rfl ?_
  refine XS.ifNo X0.here hx rfl (hb hby d8_1) rfl (i0_lt_f h1) ?_
  refine XS.iloadN X0.here hx rfl (hb hby d8_4) rfl ?_
  refine XS.iloadN X0.here hx rfl (hb hby d8_5) rfl ?_
  refine XS.icmpYes X0.here hx rfl (pc0 := 6) (pc' := 16) rfl (hb hby d8_6) rfl (ii_lt_t h2) (by decide) (by decide) ?_
  refine XS.iloadN X0.here hx rfl (hb hby d8_16) rfl ?_
  exact Steps.refl _
 obtain ⟨fs, hr, hrun, hended, hW, hsame⟩ := X0.leave (v := some (.int i)) (fun h => by rw [Bd.returns] at h; cases h)
 refine ⟨_, _, C_1.trans (retOut X0 hx Bd.returns rfl (Or.inl ⟨rfl, Or.inl rfl, _, rfl⟩) (hb hby d8_17) hr), hrun, hended, _, _, rfl, ?_, ⟨_, rfl⟩, hW, hsame.mono (by decide) (by decide)⟩
 show Q_pchk Z G1 G3 g1 kg1 g2 kg2 uS sS i n h0 n0 (some (.int i)) s₁.heap _
 rw [e0]
 exact ⟨rfl, N0, rfl⟩
abbrev M155 : MethodName := ⟨"java/lang/String", "checkIndex", "(II)V"⟩
theorem ef_156 (m : MethodId) (x0 : Int32) (x1 : Int32) : entryFrame m #[(.int x0), (.int x1)] 2 = mkF m 0 #[VI x0, VI x1] [] := by first | (simp [entryFrame, mkF, argsToLocals, Value.category]; done) | rfl
theorem d9_0 : decode jdk_42_method_155_code 0 = .ok (.iload_n 0, 1) := by decide +kernel
theorem d9_1 : decode jdk_42_method_155_code 1 = .ok (.iload_n 1, 1) := by decide +kernel
theorem w263 {Z a0} (hw : HW Z a0) : Cond.before (Cond.fieldLink "java/lang/String" (1053 : Nat) "jdk/internal/util/Preconditions" "SIOOBE_FORMATTER" "Ljava/util/function/BiFunction;") a0 Z = true := hw _ (List.mem_of_getElem? (i := 263) rfl)
theorem d9_2 : decode jdk_42_method_155_code 2 = .ok (.getstatic 1053, 3) := by decide +kernel
theorem w267 {Z a0} (hw : HW Z a0) : Cond.before (Cond.code (⟨"jdk/internal/util/Preconditions", "checkIndex", "(IILjava/util/function/BiFunction;)I"⟩ : MethodName) jdk_41_method_11_code (3 : Nat) (Option.some FieldType.int)) a0 Z = true := hw _ (List.mem_of_getElem? (i := 267) rfl)
theorem w264 {Z a0} (hw : HW Z a0) : Cond.before (Cond.initialized "jdk/internal/util/Preconditions") a0 Z = true := hw _ (List.mem_of_getElem? (i := 264) rfl)
theorem pd_163 : parseMethodDescriptor "(IILjava/util/function/BiFunction;)I" = some ⟨[.int, .int, (.object "java/util/function/BiFunction")], some .int⟩ := by decide +kernel
theorem d9_5 : decode jdk_42_method_155_code 5 = .ok (.invokestatic 1059, 3) := by decide +kernel
theorem w265 {Z a0} (hw : HW Z a0) : Cond.before (Cond.methodLink "java/lang/String" (1059 : Nat) (⟨"jdk/internal/util/Preconditions", "checkIndex", "(IILjava/util/function/BiFunction;)I"⟩ : MethodName)) a0 Z = true := hw _ (List.mem_of_getElem? (i := 265) rfl)
theorem w266 {Z a0} (hw : HW Z a0) : Cond.before (Cond.static (⟨"jdk/internal/util/Preconditions", "checkIndex", "(IILjava/util/function/BiFunction;)I"⟩ : MethodName)) a0 Z = true := hw _ (List.mem_of_getElem? (i := 266) rfl)
theorem d9_8 : decode jdk_42_method_155_code 8 = .ok (.pop, 1) := by decide +kernel
theorem d9_9 : decode jdk_42_method_155_code 9 = .ok (.return_, 1) := by decide +kernel
abbrev R_schk : Room := { frames := 1, cells := 0, slots := 0, locals := 14 }
def Q_schk (Z : State) (G1 : Int32) (G3 : Value) (g1 : Addr) (kg1 : ClassId) (g2 : Addr) (kg2 : ClassId) (uS : Value) (sS : Value) (i : Int32) (n : Int32) (h0 : Heap) (n0 : Nat) (v : Option Value) (h : Heap) (L : List Loc) : Prop := (v = none ∧ Fr n0 L ∧ h = h0)
theorem rm_schk (l : Launch) (Z : State) (a0 : Array Value) (hw : HW Z a0) (ws : List Jvm.Cond) (G1 : Int32) (G3 : Value) (g1 : Addr) (kg1 : ClassId) (g2 : Addr) (kg2 : ClassId) (uS : Value) (sS : Value) (HG : own_G l Z a0 G1 G3 g1 kg1 g2 kg2 uS sS) (h0 : Heap) (n0 : Nat) (X00 : Old Z n0 h0) (i : Int32) (n : Int32) (h1 : ¬ (i < (0 : Int32))) (h2 : i < n) :
  own_CP l Z M155 jdk_42_method_155_code 2 none ws R_schk #[(.int i), (.int n)] h0 (Q_schk Z G1 G3 g1 kg1 g2 kg2 uS sS i n h0 n0) := by
 refine own_P (plainFor_of_name pn_61) ?_
 intro p e s m below meth c s₁ S0 Bd hZ hh hx hby hml hown hnm X0 e0 hS0d
 obtain ⟨O1, P1, O3f, rG3, Sg1, Dg1, Sg2, Dg2, hLT, OU, rU, OS, rS⟩ := id HG
 have N0 := Fr.nil n0
 have C0 : Steps p.tables e below S0 (s₁.setTop (mkF m 0 #[VI i, VI n] [])) := by rw [hS0d]; exact castTop (ef_156 m i n) (Steps.refl _)
 obtain ⟨T_1, X_2, e_3, st_4⟩ := getS X0 hx hZ (host := "") hown (w263 hw) Via.refl e0 (O3f.ext X00.2) (g := (mkF m 2 #[VI i, VI n] [(.int n), (.int i)])) rfl (hb hby d9_2)
 obtain ⟨_, _, ⟨T_5, L_5, k_5, n_5⟩, -, X_5, ⟨Lc_5, hQ_5, l_5, y_5, z_5⟩, st_5⟩ := Jvm.LawKit.callS X_2 hx (y := M145) hown (mvT hZ (w265 hw)) (mvT hZ (w266 hw)) (mvT hZ (w264 hw)) (mvT hZ (w267 hw)) (by decide) (backOf (W := 0) (rm_pchk l Z a0 hw [] G1 G3 g1 kg1 g2 kg2 uS sS HG h0 n0 X00 i n h1 h2) hZ (w267 hw) (w264 hw) (by decide) (by decide)) (g := (mkF m 5 #[VI i, VI n] [G3, (.int n), (.int i)])) rfl (by rw [hml]; rfl) (argsL := [(.int i), (.int n), G3]) (rest := []) (lenOf pd_163 rfl) rfl (by show 2 * 0 + _ ≤ _; exact Nat.le_of_eq rfl) (hb hby d9_5) (fun _ _ => ⟨rfl, e_3, (by decide : 0 + 0 ≤ _), (by decide : 0 + 0 ≤ _)⟩)
 dsimp only [Pt.U, Pt.locs, Pt.cells, Pt.slots] at X_5 l_5 y_5 z_5 st_5 hQ_5
 have X_5 := own_cast X_5 l_5 y_5 z_5
 obtain ⟨rfl, N_6, e_7⟩ := hQ_5
 have N_8 := Fr.app N0 N_6
 have e_9 : T_5.heap = h0 := e_7
 have C_10 : Steps p.tables e below S0 (T_5.setTop (mkF m 9 #[VI i, VI n] [])) := by
  refine C0.trans ?_
  refine XS.iloadN X0.here hx rfl (hb hby d9_0) rfl ?_
  refine XS.iloadN X0.here hx rfl (hb hby d9_1) rfl ?_
  refine st_4 _ ?_
  refine st_5 _ ?_
  refine XS.pop X_5.here hx rfl (hb hby d9_8) rfl rfl ?_
  exact Steps.refl _
 obtain ⟨fs, hr, hrun, hended, hW, hsame⟩ := X_5.leave (v := none) (fun _ => rfl)
 refine ⟨_, _, C_10.trans (X_5.returnOut hx Bd.returns (hb hby d9_9) hr), hrun, hended, _, _, rfl, ?_, ⟨_, rfl⟩, hW, hsame.mono (by decide) (by decide)⟩
 show Q_schk Z G1 G3 g1 kg1 g2 kg2 uS sS i n h0 n0 (none) T_5.heap _
 rw [e_9]
 exact ⟨rfl, N_8, rfl⟩
abbrev M169 : MethodName := ⟨"java/lang/StringLatin1", "charAt", "([BI)C"⟩
theorem pn_170 : plainName "java/lang/StringLatin1" = true := by first | (simp [plainName, overriddenIn]; done) | decide +kernel
theorem d10_0 : decode jdk_43_method_2_code 0 = .ok (.iload_n 1, 1) := by decide +kernel
theorem d10_1 : decode jdk_43_method_2_code 1 = .ok (.aload_n 0, 1) := by decide +kernel
theorem d10_2 : decode jdk_43_method_2_code 2 = .ok (.arraylength, 1) := by decide +kernel
theorem w262 {Z a0} (hw : HW Z a0) : Cond.before (Cond.code (⟨"java/lang/String", "checkIndex", "(II)V"⟩ : MethodName) jdk_42_method_155_code (2 : Nat) (Option.none : Option FieldType)) a0 Z = true := hw _ (List.mem_of_getElem? (i := 262) rfl)
theorem pd_175 : parseMethodDescriptor "(II)V" = some ⟨[.int, .int], none⟩ := by decide +kernel
theorem d10_3 : decode jdk_43_method_2_code 3 = .ok (.invokestatic 9, 3) := by decide +kernel
theorem w260 {Z a0} (hw : HW Z a0) : Cond.before (Cond.methodLink "java/lang/StringLatin1" (9 : Nat) (⟨"java/lang/String", "checkIndex", "(II)V"⟩ : MethodName)) a0 Z = true := hw _ (List.mem_of_getElem? (i := 260) rfl)
theorem w261 {Z a0} (hw : HW Z a0) : Cond.before (Cond.static (⟨"java/lang/String", "checkIndex", "(II)V"⟩ : MethodName)) a0 Z = true := hw _ (List.mem_of_getElem? (i := 261) rfl)
theorem d10_6 : decode jdk_43_method_2_code 6 = .ok (.aload_n 0, 1) := by decide +kernel
theorem d10_7 : decode jdk_43_method_2_code 7 = .ok (.iload_n 1, 1) := by decide +kernel
theorem d10_8 : decode jdk_43_method_2_code 8 = .ok (.baload, 1) := by decide +kernel
theorem d10_9 : decode jdk_43_method_2_code 9 = .ok (.sipush 255, 3) := by decide +kernel
theorem d10_12 : decode jdk_43_method_2_code 12 = .ok (.iand, 1) := by decide +kernel
theorem d10_13 : decode jdk_43_method_2_code 13 = .ok (.i2c, 1) := by decide +kernel
theorem d10_14 : decode jdk_43_method_2_code 14 = .ok (.ireturn, 1) := by decide +kernel
abbrev R_lchs : Room := { frames := 2, cells := 0, slots := 0, locals := 27 }
def Q_lchs (Z : State) (G1 : Int32) (G3 : Value) (g1 : Addr) (kg1 : ClassId) (g2 : Addr) (kg2 : ClassId) (uS : Value) (sS : Value) (t : Addr) (kt : ClassId) (nn : Int32) (bs : List Int32) (ii : Int32) (h0 : Heap) (n0 : Nat) (v : Option Value) (h : Heap) (L : List Loc) : Prop := (v = some (.int (own_ch (own_gt bs ii))) ∧ Fr n0 L ∧ h = h0)
theorem rm_lchs (l : Launch) (Z : State) (a0 : Array Value) (hw : HW Z a0) (ws : List Jvm.Cond) (G1 : Int32) (G3 : Value) (g1 : Addr) (kg1 : ClassId) (g2 : Addr) (kg2 : ClassId) (uS : Value) (sS : Value) (HG : own_G l Z a0 G1 G3 g1 kg1 g2 kg2 uS sS) (h0 : Heap) (n0 : Nat) (X00 : Old Z n0 h0) (t : Addr) (kt : ClassId) (nn : Int32) (bs : List Int32) (ii : Int32) (hp0 : Arv Z h0 t kt .byte nn (own_iv bs) (.int 0)) (h1 : ¬ (ii < (0 : Int32))) (h2 : ii < nn) :
  own_CP l Z M169 jdk_43_method_2_code 2 (some .char) ws R_lchs #[(.ref t), (.int ii)] h0 (Q_lchs Z G1 G3 g1 kg1 g2 kg2 uS sS t kt nn bs ii h0 n0) := by
 refine own_P (plainFor_of_name pn_170) ?_
 intro p e s m below meth c s₁ S0 Bd hZ hh hx hby hml hown hnm X0 e0 hS0d
 obtain ⟨O1, P1, O3f, rG3, Sg1, Dg1, Sg2, Dg2, hLT, OU, rU, OS, rS⟩ := id HG
 have N0 := Fr.nil n0
 have C0 : Steps p.tables e below S0 (s₁.setTop (mkF m 0 #[VR t, VI ii] [])) := by rw [hS0d]; exact castTop (ef_50 m t ii) (Steps.refl _)
 obtain ⟨c_1, A_2, q_3, S_4, M_5, H_6, U_7⟩ := id hp0
 obtain ⟨_, _, ⟨T_8, L_8, k_8, n_8⟩, -, X_8, ⟨Lc_8, hQ_8, l_8, y_8, z_8⟩, st_8⟩ := Jvm.LawKit.callS X0 hx (y := M155) hown (mvT hZ (w260 hw)) (mvT hZ (w261 hw)) (mvT hZ (w3 hw)) (mvT hZ (w262 hw)) (by decide) (backOf (W := 0) (rm_schk l Z a0 hw [] G1 G3 g1 kg1 g2 kg2 uS sS HG h0 n0 X00 ii nn h1 h2) hZ (w262 hw) (w3 hw) (by decide) (by decide)) (g := (mkF m 3 #[VR t, VI ii] [(.int nn), (.int ii)])) rfl (by rw [hml]; rfl) (argsL := [(.int ii), (.int nn)]) (rest := []) (lenOf pd_175 rfl) rfl (by show 2 * 0 + _ ≤ _; exact Nat.le_of_eq rfl) (hb hby d10_3) (fun _ _ => ⟨rfl, e0, (by decide : 0 + 0 ≤ _), (by decide : 0 + 0 ≤ _)⟩)
 dsimp only [Pt.U, Pt.locs, Pt.cells, Pt.slots] at X_8 l_8 y_8 z_8 st_8 hQ_8
 have X_8 := own_cast X_8 l_8 y_8 z_8
 obtain ⟨rfl, N_9, e_10⟩ := hQ_8
 have N_11 := Fr.app N0 N_9
 have e_12 : T_8.heap = h0 := e_10
 obtain ⟨c_13, A_14, q_15, S_16, M_17, H_18, U_19⟩ := id hp0
 have hin_20 : ¬ (ii < 0 ∨ c_13.slots.size ≤ ii.toNatClampNeg) := inb_of S_16 ⟨h1, h2⟩
 have hat_21 : c_13.slots[ii.toNatClampNeg]? = some (.int (own_gt bs ii)) := Has.at H_18 hin_20 (own_iv_at bs ii)
 have C_22 : Steps p.tables e below S0 (T_8.setTop (mkF m 14 #[VR t, VI ii] [(.int (((own_gt bs ii) &&& (255 : Int32)).toUInt32.toUInt16.toUInt32.toInt32))])) := by
  refine C0.trans ?_
  refine XS.iloadN X0.here hx rfl (hb hby d10_0) rfl ?_
  refine XS.aloadN X0.here hx rfl (hb hby d10_1) rfl rfl ?_
  refine X0.arraylength hx (by rw [e0]; exact A_2.1) (State.isArrayOf_alike hZ.alike A_2.2.1) (g := (mkF m 2 #[VR t, VI ii] [(.ref t), (.int ii)])) rfl rfl (hb hby d10_2) _ ?_
  rw [len_of S_4 M_5]
  refine st_8 _ ?_
  refine XS.aloadN X_8.here hx rfl (hb hby d10_6) rfl rfl ?_
  refine XS.iloadN X_8.here hx rfl (hb hby d10_7) rfl ?_
  refine X_8.baloadBytes hx (j := ii) (v := (.int (own_gt bs ii))) (by rw [e_12]; exact A_14.1) (State.isArrayOf_alike hZ.alike A_14.2.1) A_14.2.2 hin_20 hat_21 (g := (mkF m 8 #[VR t, VI ii] [(.int ii), (.ref t)])) rfl rfl (hb hby d10_8) _ ?_
  refine XS.sipush X_8.here hx rfl (hb hby d10_9) ?_
  show Steps p.tables e below (T_8.setTop (mkF m 12 #[VR t, VI ii] [(.int 255), (.int (own_gt bs ii))])) _
  refine XS.iand X_8.here hx rfl (hb hby d10_12) rfl ?_
  refine XS.i2c X_8.here hx rfl (hb hby d10_13) rfl ?_
  exact Steps.refl _
 obtain ⟨fs, hr, hrun, hended, hW, hsame⟩ := X_8.leave (v := some (.int (own_ch (own_gt bs ii)))) (fun h => by rw [Bd.returns] at h; cases h)
 refine ⟨_, _, C_22.trans (retN X_8 hx (t := .char) Bd.returns (by simp) (hb hby d10_14) hr), hrun, hended, _, _, rfl, ?_, ⟨_, rfl⟩, hW, hsame.mono (by decide) (by decide)⟩
 show Q_lchs Z G1 G3 g1 kg1 g2 kg2 uS sS t kt nn bs ii h0 n0 (some (.int (own_ch (own_gt bs ii)))) T_8.heap _
 rw [e_12]
 exact ⟨rfl, N_11, rfl⟩
abbrev M186 : MethodName := ⟨"java/lang/String", "charAt", "(I)C"⟩
theorem d11_0 : decode jdk_42_method_56_code 0 = .ok (.aload_n 0, 1) := by decide +kernel
theorem w255 {Z a0} (hw : HW Z a0) : Cond.before (Cond.code (⟨"java/lang/String", "isLatin1", "()Z"⟩ : MethodName) jdk_42_method_154_code (1 : Nat) (Option.some FieldType.boolean)) a0 Z = true := hw _ (List.mem_of_getElem? (i := 255) rfl)
theorem pd_189 : parseMethodDescriptor "()Z" = some ⟨[], some .boolean⟩ := by decide +kernel
theorem d11_1 : decode jdk_42_method_56_code 1 = .ok (.invokevirtual 492, 3) := by decide +kernel
theorem w251 {Z a0} (hw : HW Z a0) : Cond.before (Cond.methodLink "java/lang/String" (492 : Nat) (⟨"java/lang/String", "isLatin1", "()Z"⟩ : MethodName)) a0 Z = true := hw _ (List.mem_of_getElem? (i := 251) rfl)
theorem w254 {Z a0} (hw : HW Z a0) : Cond.before (Cond.selects "java/lang/String" (⟨"java/lang/String", "isLatin1", "()Z"⟩ : MethodName) (⟨"java/lang/String", "isLatin1", "()Z"⟩ : MethodName)) a0 Z = true := hw _ (List.mem_of_getElem? (i := 254) rfl)
theorem w253 {Z a0} (hw : HW Z a0) : Cond.before (Cond.instanceMethod (⟨"java/lang/String", "isLatin1", "()Z"⟩ : MethodName)) a0 Z = true := hw _ (List.mem_of_getElem? (i := 253) rfl)
theorem w252 {Z a0} (hw : HW Z a0) : Cond.before (Cond.declares (⟨"java/lang/String", "isLatin1", "()Z"⟩ : MethodName)) a0 Z = true := hw _ (List.mem_of_getElem? (i := 252) rfl)
theorem d11_4 : decode jdk_42_method_56_code 4 = .ok (.ifCond .eq 12, 3) := by decide +kernel
theorem d11_7 : decode jdk_42_method_56_code 7 = .ok (.aload_n 0, 1) := by decide +kernel
theorem d11_8 : decode jdk_42_method_56_code 8 = .ok (.getfield 9, 3) := by decide +kernel
theorem d11_11 : decode jdk_42_method_56_code 11 = .ok (.iload_n 1, 1) := by decide +kernel
theorem w259 {Z a0} (hw : HW Z a0) : Cond.before (Cond.code (⟨"java/lang/StringLatin1", "charAt", "([BI)C"⟩ : MethodName) jdk_43_method_2_code (2 : Nat) (Option.some FieldType.char)) a0 Z = true := hw _ (List.mem_of_getElem? (i := 259) rfl)
theorem w258 {Z a0} (hw : HW Z a0) : Cond.before (Cond.initialized "java/lang/StringLatin1") a0 Z = true := hw _ (List.mem_of_getElem? (i := 258) rfl)
theorem pd_201 : parseMethodDescriptor "([BI)C" = some ⟨[(.array .byte), .int], some .char⟩ := by decide +kernel
theorem d11_12 : decode jdk_42_method_56_code 12 = .ok (.invokestatic 495, 3) := by decide +kernel
theorem w256 {Z a0} (hw : HW Z a0) : Cond.before (Cond.methodLink "java/lang/String" (495 : Nat) (⟨"java/lang/StringLatin1", "charAt", "([BI)C"⟩ : MethodName)) a0 Z = true := hw _ (List.mem_of_getElem? (i := 256) rfl)
theorem w257 {Z a0} (hw : HW Z a0) : Cond.before (Cond.static (⟨"java/lang/StringLatin1", "charAt", "([BI)C"⟩ : MethodName)) a0 Z = true := hw _ (List.mem_of_getElem? (i := 257) rfl)
theorem d11_15 : decode jdk_42_method_56_code 15 = .ok (.ireturn, 1) := by decide +kernel
abbrev R_chs : Room := { frames := 3, cells := 0, slots := 0, locals := 40 }
def Q_chs (Z : State) (G1 : Int32) (G3 : Value) (g1 : Addr) (kg1 : ClassId) (g2 : Addr) (kg2 : ClassId) (uS : Value) (sS : Value) (x : Addr) (t : Addr) (kt : ClassId) (nn : Int32) (cs : List Int32) (ii : Int32) (h0 : Heap) (n0 : Nat) (v : Option Value) (h : Heap) (L : List Loc) : Prop := (v = some (.int (own_gt cs ii)) ∧ Fr n0 L ∧ h = h0)
theorem rm_chs (l : Launch) (Z : State) (a0 : Array Value) (hw : HW Z a0) (ws : List Jvm.Cond) (G1 : Int32) (G3 : Value) (g1 : Addr) (kg1 : ClassId) (g2 : Addr) (kg2 : ClassId) (uS : Value) (sS : Value) (HG : own_G l Z a0 G1 G3 g1 kg1 g2 kg2 uS sS) (h0 : Heap) (n0 : Nat) (X00 : Old Z n0 h0) (x : Addr) (t : Addr) (kt : ClassId) (nn : Int32) (cs : List Int32) (ii : Int32) (hp0 : Exa Z h0 x "java/lang/String") (hp1 : Fld Z h0 x "java/lang/String" "coder" "B" (.int 0)) (hp2 : Fld Z h0 x "java/lang/String" "value" "[B" (.ref t)) (hp3 : Arv Z h0 t kt .byte nn (own_iv (own_bs cs)) (.int 0)) (h1 : ¬ (ii < (0 : Int32))) (h2 : ii < nn) (hl1 : cs.length = nn.toNatClampNeg) (hla : own_lat cs) :
  own_CP l Z M186 jdk_42_method_56_code 2 (some .char) ws R_chs #[(.ref x), (.int ii)] h0 (Q_chs Z G1 G3 g1 kg1 g2 kg2 uS sS x t kt nn cs ii h0 n0) := by
 refine own_P (plainFor_of_name pn_61) ?_
 intro p e s m below meth c s₁ S0 Bd hZ hh hx hby hml hown hnm X0 e0 hS0d
 obtain ⟨O1, P1, O3f, rG3, Sg1, Dg1, Sg2, Dg2, hLT, OU, rU, OS, rS⟩ := id HG
 have N0 := Fr.nil n0
 have C0 : Steps p.tables e below S0 (s₁.setTop (mkF m 0 #[VR x, VI ii] [])) := by rw [hS0d]; exact castTop (ef_50 m x ii) (Steps.refl _)
 obtain ⟨q_2, q_3, q_4, q_5, q_6⟩ := isOf (T := s₁) hZ e0 hp0
 obtain ⟨_, _, ⟨T_1, L_1, k_1, n_1⟩, -, X_1, ⟨Lc_1, hQ_1, l_1, y_1, z_1⟩, st_1⟩ := X0.virtualBack hx (y := M122) (z := M122) hown (mvT hZ (w251 hw)) (mvT hZ (w252 hw)) (notFace_of_selects (args := #[]) (mvT hZ (w254 hw))) (mvT hZ (w254 hw)) (mvT hZ (w253 hw)) (by decide) (backOf (W := 0) (rm_islat l Z a0 hw [] G1 G3 g1 kg1 g2 kg2 uS sS HG h0 n0 X00 x hp1) hZ (w255 hw) (w3 hw) (by decide) (by decide)) q_4 q_6 (g := (mkF m 1 #[VR x, VI ii] [(.ref x)])) rfl (by rw [hml]; rfl) (Steps.refl _) (argsL := []) (rest := []) (lenOf pd_189 rfl) rfl (by show 2 * 0 + _ ≤ _; exact Nat.le_of_eq rfl) (hb hby d11_1) (fun _ _ => ⟨rfl, e0, (by decide : 0 + 0 ≤ _), (by decide : 0 + 0 ≤ _)⟩)
 dsimp only [Pt.U, Pt.locs, Pt.cells, Pt.slots] at X_1 l_1 y_1 z_1 st_1 hQ_1
 have X_1 := own_cast X_1 l_1 y_1 z_1
 obtain ⟨rfl, N_7, e_8⟩ := hQ_1
 have N_9 := Fr.app N0 N_7
 have e_10 : T_1.heap = h0 := e_8
 obtain ⟨T_11, X_12, e_13, st_14⟩ := getF X_1 hx hZ hown (host := "") (Or.inl (w28 hw)) Via.refl e_10 hp2 (g := (mkF m 8 #[VR x, VI ii] [(.ref x)])) rfl rfl (hb hby d11_8)
 obtain ⟨_, _, ⟨T_15, L_15, k_15, n_15⟩, -, X_15, ⟨Lc_15, hQ_15, l_15, y_15, z_15⟩, st_15⟩ := Jvm.LawKit.callS X_12 hx (y := M169) hown (mvT hZ (w256 hw)) (mvT hZ (w257 hw)) (mvT hZ (w258 hw)) (mvT hZ (w259 hw)) (by decide) (backOf (W := 0) (rm_lchs l Z a0 hw [] G1 G3 g1 kg1 g2 kg2 uS sS HG h0 n0 X00 t kt nn (own_bs cs) ii hp3 h1 h2) hZ (w259 hw) (w258 hw) (by decide) (by decide)) (g := (mkF m 12 #[VR x, VI ii] [(.int ii), (.ref t)])) rfl (by rw [hml]; rfl) (argsL := [(.ref t), (.int ii)]) (rest := []) (lenOf pd_201 rfl) rfl (by show 2 * 0 + _ ≤ _; exact Nat.le_of_eq rfl) (hb hby d11_12) (fun _ _ => ⟨rfl, e_13, (by decide : 0 + 0 ≤ _), (by decide : 0 + 0 ≤ _)⟩)
 dsimp only [Pt.U, Pt.locs, Pt.cells, Pt.slots] at X_15 l_15 y_15 z_15 st_15 hQ_15
 have X_15 := own_cast X_15 l_15 y_15 z_15
 obtain ⟨rfl, N_16, e_17⟩ := hQ_15
 have N_18 := Fr.app N_9 N_16
 have e_19 : T_15.heap = h0 := e_17
 have C_20 : Steps p.tables e below S0 (T_15.setTop (mkF m 15 #[VR x, VI ii] [(.int (own_ch (own_gt (own_bs cs) ii)))])) := by
  refine C0.trans ?_
  refine XS.aloadN X0.here hx rfl (hb hby d11_0) rfl rfl ?_
  refine st_1.trans ?_
  refine XS.ifNo X_1.here hx rfl (hb hby d11_4) rfl (by decide) ?_
  refine XS.aloadN X_1.here hx rfl (hb hby d11_7) rfl rfl ?_
  refine st_14 _ ?_
  refine XS.iloadN X_12.here hx rfl (hb hby d11_11) rfl ?_
  refine st_15 _ ?_
  exact Steps.refl _
 obtain ⟨fs, hr, hrun, hended, hW, hsame⟩ := X_15.leave (v := some (.int (nar .char (own_ch (own_gt (own_bs cs) ii))))) (fun h => by rw [Bd.returns] at h; cases h)
 refine ⟨_, _, C_20.trans (retN X_15 hx (t := .char) Bd.returns (by simp) (hb hby d11_15) hr), hrun, hended, _, _, rfl, ?_, ⟨_, rfl⟩, hW, hsame.mono (by decide) (by decide)⟩
 show Q_chs Z G1 G3 g1 kg1 g2 kg2 uS sS x t kt nn cs ii h0 n0 (some (.int (nar .char (own_ch (own_gt (own_bs cs) ii))))) T_15.heap _
 rw [e_19]
 exact ⟨(congrArg (fun q => some (Value.int q)) (own_chsays hl1 hla h1 h2)), N_18, rfl⟩
abbrev M206 : MethodName := ⟨"java/lang/AbstractStringBuilder", "<init>", "(I)V"⟩
theorem pn_207 : plainName "java/lang/AbstractStringBuilder" = true := by first | (simp [plainName, overriddenIn]; done) | decide +kernel
theorem d12_0 : decode jdk_68_method_2_code 0 = .ok (.aload_n 0, 1) := by decide +kernel
theorem w62 {Z a0} (hw : HW Z a0) : Cond.before (Cond.methodLink "java/lang/AbstractStringBuilder" (3 : Nat) (⟨"java/lang/Object", "<init>", "()V"⟩ : MethodName)) a0 Z = true := hw _ (List.mem_of_getElem? (i := 62) rfl)
theorem d12_1 : decode jdk_68_method_2_code 1 = .ok (.invokespecial 3, 3) := by decide +kernel
theorem w63 {Z a0} (hw : HW Z a0) : Cond.before (Cond.fieldLink "java/lang/AbstractStringBuilder" (18 : Nat) "java/lang/String" "COMPACT_STRINGS" "Z") a0 Z = true := hw _ (List.mem_of_getElem? (i := 63) rfl)
theorem d12_4 : decode jdk_68_method_2_code 4 = .ok (.getstatic 18, 3) := by decide +kernel
theorem d12_7 : decode jdk_68_method_2_code 7 = .ok (.ifCond .eq 18, 3) := by decide +kernel
theorem d12_10 : decode jdk_68_method_2_code 10 = .ok (.aload_n 0, 1) := by decide +kernel
theorem d12_11 : decode jdk_68_method_2_code 11 = .ok (.iload_n 1, 1) := by decide +kernel
theorem d12_12 : decode jdk_68_method_2_code 12 = .ok (.newarray .byte, 2) := by decide +kernel
theorem w64 {Z a0} (hw : HW Z a0) : Cond.before (Cond.fieldLink "java/lang/AbstractStringBuilder" (15 : Nat) "java/lang/AbstractStringBuilder" "value" "[B") a0 Z = true := hw _ (List.mem_of_getElem? (i := 64) rfl)
theorem w65 {Z a0} (hw : HW Z a0) : Cond.before (Cond.lays "java/lang/StringBuilder" "java/lang/AbstractStringBuilder" "value" "[B") a0 Z = true := hw _ (List.mem_of_getElem? (i := 65) rfl)
theorem w51 {Z a0} (hw : HW Z a0) : Cond.before (Cond.instantiable "java/lang/StringBuilder" (4 : Nat)) a0 Z = true := hw _ (List.mem_of_getElem? (i := 51) rfl)
theorem d12_14 : decode jdk_68_method_2_code 14 = .ok (.putfield 15, 3) := by decide +kernel
theorem d12_17 : decode jdk_68_method_2_code 17 = .ok (.aload_n 0, 1) := by decide +kernel
theorem d12_18 : decode jdk_68_method_2_code 18 = .ok (.iconst 0, 1) := by decide +kernel
theorem w66 {Z a0} (hw : HW Z a0) : Cond.before (Cond.fieldLink "java/lang/AbstractStringBuilder" (22 : Nat) "java/lang/AbstractStringBuilder" "coder" "B") a0 Z = true := hw _ (List.mem_of_getElem? (i := 66) rfl)
theorem w67 {Z a0} (hw : HW Z a0) : Cond.before (Cond.lays "java/lang/StringBuilder" "java/lang/AbstractStringBuilder" "coder" "B") a0 Z = true := hw _ (List.mem_of_getElem? (i := 67) rfl)
theorem d12_19 : decode jdk_68_method_2_code 19 = .ok (.putfield 22, 3) := by decide +kernel
theorem d12_22 : decode jdk_68_method_2_code 22 = .ok (.goto 16, 3) := by decide +kernel
theorem d12_38 : decode jdk_68_method_2_code 38 = .ok (.return_, 1) := by decide +kernel
theorem w89 {Z a0} (hw : HW Z a0) : Cond.before (Cond.lays "java/lang/StringBuilder" "java/lang/AbstractStringBuilder" "count" "I") a0 Z = true := hw _ (List.mem_of_getElem? (i := 89) rfl)
abbrev R_asbi : Room := { frames := 1, cells := 1, slots := 16, locals := 12 }
def Q_asbi (Z : State) (G1 : Int32) (G3 : Value) (g1 : Addr) (kg1 : ClassId) (g2 : Addr) (kg2 : ClassId) (uS : Value) (sS : Value) (sb : Addr) (h0 : Heap) (n0 : Nat) (v : Option Value) (h : Heap) (L : List Loc) : Prop := (∃ vv : Addr, ∃ kv : ClassId, v = none ∧ Fr n0 L ∧ Keep h0 h [sb] ∧ (Exa Z h sb "java/lang/StringBuilder") ∧ (Fld Z h sb "java/lang/AbstractStringBuilder" "value" "[B" (.ref vv)) ∧ (Fld Z h sb "java/lang/AbstractStringBuilder" "coder" "B" (.int 0)) ∧ (Fld Z h sb "java/lang/AbstractStringBuilder" "count" "I" (.int 0)) ∧ (h0.size ≤ vv) ∧ (Exa Z h vv "[B") ∧ (Arv Z h vv kv .byte (16 : Int32) (own_iv (own_sb [] (16 : Int32).toNatClampNeg)) (.int 0)))
theorem rm_asbi (l : Launch) (Z : State) (a0 : Array Value) (hw : HW Z a0) (ws : List Jvm.Cond) (G1 : Int32) (G3 : Value) (g1 : Addr) (kg1 : ClassId) (g2 : Addr) (kg2 : ClassId) (uS : Value) (sS : Value) (HG : own_G l Z a0 G1 G3 g1 kg1 g2 kg2 uS sS) (h0 : Heap) (n0 : Nat) (X00 : Old Z n0 h0) (sb : Addr) (hp0 : Exa Z h0 sb "java/lang/StringBuilder") (hp1 : Fld Z h0 sb "java/lang/AbstractStringBuilder" "value" "[B" .null) (hp2 : Fld Z h0 sb "java/lang/AbstractStringBuilder" "coder" "B" (.int 0)) (hp3 : Fld Z h0 sb "java/lang/AbstractStringBuilder" "count" "I" (.int 0)) (hp4 : n0 ≤ sb) :
  own_CP l Z M206 jdk_68_method_2_code 2 none ws R_asbi #[(.ref sb), (.int 16)] h0 (Q_asbi Z G1 G3 g1 kg1 g2 kg2 uS sS sb h0 n0) := by
 refine own_P (plainFor_of_name pn_207) ?_
 intro p e s m below meth c s₁ S0 Bd hZ hh hx hby hml hown hnm X0 e0 hS0d
 obtain ⟨O1, P1, O3f, rG3, Sg1, Dg1, Sg2, Dg2, hLT, OU, rU, OS, rS⟩ := id HG
 have N0 := Fr.nil n0
 have C0 : Steps p.tables e below S0 (s₁.setTop (mkF m 0 #[VR sb, VI 16] [])) := by rw [hS0d]; exact castTop (ef_50 m sb (16 : Int32)) (Steps.refl _)
 obtain ⟨T_1, X_2, e_3, st_4⟩ := initO X0 hx hZ hown (w62 hw) (w12 hw) (w13 hw) e0 (g := (mkF m 1 #[VR sb, VI 16] [(.ref sb)])) rfl (by rw [hml]; rfl) rfl (hb hby d12_1) (by decide) (W := 0) (by show 2 * 0 + _ ≤ _; exact Nat.le_of_eq rfl) (by decide)
 obtain ⟨T_5, X_6, e_7, st_8⟩ := getS X_2 hx hZ (host := "") hown (w63 hw) Via.refl e_3 (O1.ext X00.2) (g := (mkF m 4 #[VR sb, VI 16] [])) rfl (hb hby d12_4)
 obtain ⟨T_9, h_10, k_11, X_12, e_13, E_14, A_15, Ex_20, st_16⟩ := newPE (aty := .byte) X_6 hx hZ (w19 hw) e_7 (g := (mkF m 12 #[VR sb, VI 16] [(.int 16), (.ref sb)])) rfl (hb hby d12_12) rfl (by decide : ¬ ((16 : Int32) < (0 : Int32))) (cap := 16) (by decide : (16 : Int32).toNatClampNeg ≤ 16) (by decide) (by decide) (by decide) (ad := "[B") (by decide)
 obtain ⟨a_17, g_18⟩ : ∃ z, z = h0.size := ⟨_, rfl⟩
 rw [← g_18] at A_15 st_16 Ex_20
 have V_21 : Arv Z h_10 a_17 k_11 .byte (16 : Int32) [] (.int 0) := Arv.new A_15 (by decide : ¬ ((16 : Int32) < (0 : Int32)))
 have V_19 : Arv Z h_10 a_17 k_11 .byte (16 : Int32) [(.int 0), (.int 0), (.int 0), (.int 0), (.int 0), (.int 0), (.int 0), (.int 0), (.int 0), (.int 0), (.int 0), (.int 0), (.int 0), (.int 0), (.int 0), (.int 0)] (.int 0) := (V_21.pad (pad_rep [] (.int 0) 16))
 have F_22 : Fld Z h_10 sb "java/lang/AbstractStringBuilder" "value" "[B" .null := (hp1.ext E_14)
 have E_23 : Exa Z h_10 sb "java/lang/StringBuilder" := (hp0.ext E_14)
 obtain ⟨T_24, h_25, X_26, e_27, W_28, st_29⟩ := putF X_12 hx hZ hown (host := "") (Or.inl (w64 hw)) Via.refl e_13 F_22 E_23 (Or.inl (w65 hw)) (w51 hw) (ty := (.array .byte)) (by decide) rfl rfl (g := (mkF m 14 #[VR sb, VI 16] [(.ref a_17), (.ref sb)])) rfl rfl (hb hby d12_14)
 have N_30 := Fr.snoc X_26 N0 hp4
 have F_31 : Fld Z h_25 sb "java/lang/AbstractStringBuilder" "value" "[B" (.ref a_17) := F_22.same W_28
 have F_32 : Fld Z h_25 sb "java/lang/AbstractStringBuilder" "coder" "B" (.int 0) := ((hp2.ext E_14).other W_28 (Or.inr (slot_ne (Or.inl (w67 hw)) (Or.inl (w65 hw)) (by decide) (t := .byte) (by decide) (t' := (.array .byte)) (by decide))))
 have E_33 : Exa Z h_25 sb "java/lang/StringBuilder" := (E_23.wr W_28)
 obtain ⟨T_34, h_35, X_36, e_37, W_38, st_39⟩ := putF X_26 hx hZ hown (host := "") (Or.inl (w66 hw)) Via.refl e_27 F_32 E_33 (Or.inl (w67 hw)) (w51 hw) (ty := .byte) (by decide) rfl (by decide) (g := (mkF m 19 #[VR sb, VI 16] [(.int 0), (.ref sb)])) rfl rfl (hb hby d12_19)
 have N_40 := Fr.snoc X_36 N_30 hp4
 have F_41 : Fld Z h_35 sb "java/lang/AbstractStringBuilder" "coder" "B" (.int 0) := F_32.same W_38
 have C_42 : Steps p.tables e below S0 (T_34.setTop (mkF m 38 #[VR sb, VI 16] [])) := by
  refine C0.trans ?_
  refine XS.aloadN X0.here hx rfl (hb hby d12_0) rfl rfl ?_
  refine st_4 _ ?_
  refine st_8 _ ?_
  refine XS.ifNo X_6.here hx rfl (hb hby d12_7) rfl (i0_eq_f P1) ?_
  refine XS.aloadN X_6.here hx rfl (hb hby d12_10) rfl rfl ?_
  refine XS.iloadN X_6.here hx rfl (hb hby d12_11) rfl ?_
  refine st_16 _ ?_
  refine st_29 _ ?_
  show Steps p.tables e below (T_24.setTop (mkF m 17 #[VR sb, VI 16] [])) _
  refine XS.aloadN X_26.here hx rfl (hb hby d12_17) rfl rfl ?_
  refine XS.iconst X_26.here hx rfl (hb hby d12_18) ?_
  refine st_39 _ ?_
  refine XS.goto X_36.here hx rfl (pc0 := 22) (pc' := 38) rfl (hb hby d12_22) (by decide) (by decide) ?_
  exact Steps.refl _
 have V_43 : Arv Z h_35 a_17 k_11 .byte (16 : Int32) [(.int 0), (.int 0), (.int 0), (.int 0), (.int 0), (.int 0), (.int 0), (.int 0), (.int 0), (.int 0), (.int 0), (.int 0), (.int 0), (.int 0), (.int 0), (.int 0)] (.int 0) := ((V_19.other W_28 (Ne.symm (Nat.ne_of_lt (Nat.lt_of_lt_of_le hp0.lt (Nat.le_trans (Nat.le_refl _) (Nat.le_of_eq g_18.symm)))))).other W_38 (Ne.symm (Nat.ne_of_lt (Nat.lt_of_lt_of_le hp0.lt (Nat.le_trans (Nat.le_refl _) (Nat.le_of_eq g_18.symm))))))
 have E_44 : Exa Z h_35 sb "java/lang/StringBuilder" := (E_33.wr W_38)
 have F_45 : Fld Z h_35 sb "java/lang/AbstractStringBuilder" "value" "[B" (.ref a_17) := (F_31.other W_38 (Or.inr (slot_ne (Or.inl (w65 hw)) (Or.inl (w67 hw)) (by decide) (t := (.array .byte)) (by decide) (t' := .byte) (by decide))))
 have F_46 : Fld Z h_35 sb "java/lang/AbstractStringBuilder" "count" "I" (.int 0) := (((hp3.ext E_14).other W_28 (Or.inr (slot_ne (Or.inl (w89 hw)) (Or.inl (w65 hw)) (by decide) (t := .int) (by decide) (t' := (.array .byte)) (by decide)))).other W_38 (Or.inr (slot_ne (Or.inl (w89 hw)) (Or.inl (w67 hw)) (by decide) (t := .int) (by decide) (t' := .byte) (by decide))))
 have E_47 : Exa Z h_35 a_17 "[B" := ((Ex_20.wr W_28).wr W_38)
 have K_48 : Keep h0 h_35 [sb] := ((((Keep.refl _ _).ext E_14).wr W_28 (Or.inl (List.mem_of_getElem? (i := 0) rfl))).wr W_38 (Or.inl (List.mem_of_getElem? (i := 0) rfl)))
 obtain ⟨fs, hr, hrun, hended, hW, hsame⟩ := X_36.leave (v := none) (fun _ => rfl)
 refine ⟨_, _, C_42.trans (X_36.returnOut hx Bd.returns (hb hby d12_38) hr), hrun, hended, _, _, rfl, ?_, ⟨_, rfl⟩, hW, hsame.mono (by decide) (by decide)⟩
 show Q_asbi Z G1 G3 g1 kg1 g2 kg2 uS sS sb h0 n0 (none) T_34.heap _
 rw [e_37]
 exact ⟨a_17, k_11, rfl, N_40, K_48, E_44, F_45, F_41, F_46, (Nat.le_trans (Nat.le_refl _) (Nat.le_of_eq g_18.symm)), E_47, (by rw [own_z16]; exact V_43)⟩
abbrev M229 : MethodName := ⟨"java/lang/StringBuilder", "<init>", "()V"⟩
theorem pn_230 : plainName "java/lang/StringBuilder" = true := by first | (simp [plainName, overriddenIn]; done) | decide +kernel
theorem d13_0 : decode jdk_67_method_1_code 0 = .ok (.aload_n 0, 1) := by decide +kernel
theorem d13_1 : decode jdk_67_method_1_code 1 = .ok (.bipush 16, 2) := by decide +kernel
theorem w61 {Z a0} (hw : HW Z a0) : Cond.before (Cond.code (⟨"java/lang/AbstractStringBuilder", "<init>", "(I)V"⟩ : MethodName) jdk_68_method_2_code (2 : Nat) (Option.none : Option FieldType)) a0 Z = true := hw _ (List.mem_of_getElem? (i := 61) rfl)
theorem w60 {Z a0} (hw : HW Z a0) : Cond.before (Cond.initialized "java/lang/AbstractStringBuilder") a0 Z = true := hw _ (List.mem_of_getElem? (i := 60) rfl)
theorem pd_235 : parseMethodDescriptor "(I)V" = some ⟨[.int], none⟩ := by decide +kernel
theorem d13_3 : decode jdk_67_method_1_code 3 = .ok (.invokespecial 1, 3) := by decide +kernel
theorem w56 {Z a0} (hw : HW Z a0) : Cond.before (Cond.methodLink "java/lang/StringBuilder" (1 : Nat) (⟨"java/lang/AbstractStringBuilder", "<init>", "(I)V"⟩ : MethodName)) a0 Z = true := hw _ (List.mem_of_getElem? (i := 56) rfl)
theorem w57 {Z a0} (hw : HW Z a0) : Cond.before (Cond.instanceMethod (⟨"java/lang/AbstractStringBuilder", "<init>", "(I)V"⟩ : MethodName)) a0 Z = true := hw _ (List.mem_of_getElem? (i := 57) rfl)
theorem d13_6 : decode jdk_67_method_1_code 6 = .ok (.return_, 1) := by decide +kernel
abbrev R_sbi : Room := { frames := 2, cells := 1, slots := 16, locals := 25 }
def Q_sbi (Z : State) (G1 : Int32) (G3 : Value) (g1 : Addr) (kg1 : ClassId) (g2 : Addr) (kg2 : ClassId) (uS : Value) (sS : Value) (sb : Addr) (h0 : Heap) (n0 : Nat) (v : Option Value) (h : Heap) (L : List Loc) : Prop := (∃ vv : Addr, ∃ kv : ClassId, v = none ∧ Fr n0 L ∧ Keep h0 h [sb] ∧ (Exa Z h sb "java/lang/StringBuilder") ∧ (Fld Z h sb "java/lang/AbstractStringBuilder" "value" "[B" (.ref vv)) ∧ (Fld Z h sb "java/lang/AbstractStringBuilder" "coder" "B" (.int 0)) ∧ (Fld Z h sb "java/lang/AbstractStringBuilder" "count" "I" (.int 0)) ∧ (h0.size ≤ vv) ∧ (Exa Z h vv "[B") ∧ (Arv Z h vv kv .byte (16 : Int32) (own_iv (own_sb [] (16 : Int32).toNatClampNeg)) (.int 0)))
theorem rm_sbi (l : Launch) (Z : State) (a0 : Array Value) (hw : HW Z a0) (ws : List Jvm.Cond) (G1 : Int32) (G3 : Value) (g1 : Addr) (kg1 : ClassId) (g2 : Addr) (kg2 : ClassId) (uS : Value) (sS : Value) (HG : own_G l Z a0 G1 G3 g1 kg1 g2 kg2 uS sS) (h0 : Heap) (n0 : Nat) (X00 : Old Z n0 h0) (sb : Addr) (hp0 : Exa Z h0 sb "java/lang/StringBuilder") (hp1 : Fld Z h0 sb "java/lang/AbstractStringBuilder" "value" "[B" .null) (hp2 : Fld Z h0 sb "java/lang/AbstractStringBuilder" "coder" "B" (.int 0)) (hp3 : Fld Z h0 sb "java/lang/AbstractStringBuilder" "count" "I" (.int 0)) (hp4 : n0 ≤ sb) :
  own_CP l Z M229 jdk_67_method_1_code 1 none ws R_sbi #[(.ref sb)] h0 (Q_sbi Z G1 G3 g1 kg1 g2 kg2 uS sS sb h0 n0) := by
 refine own_P (plainFor_of_name pn_230) ?_
 intro p e s m below meth c s₁ S0 Bd hZ hh hx hby hml hown hnm X0 e0 hS0d
 obtain ⟨O1, P1, O3f, rG3, Sg1, Dg1, Sg2, Dg2, hLT, OU, rU, OS, rS⟩ := id HG
 have N0 := Fr.nil n0
 have C0 : Steps p.tables e below S0 (s₁.setTop (mkF m 0 #[VR sb] [])) := by rw [hS0d]; exact castTop (ef_115 m sb) (Steps.refl _)
 obtain ⟨_, _, ⟨T_1, L_1, k_1, n_1⟩, -, X_1, ⟨Lc_1, hQ_1, l_1, y_1, z_1⟩, st_1⟩ := X0.specialBack hx (y := M206) rfl hown (mvT hZ (w56 hw)) (mvT hZ (w57 hw)) (mvT hZ (w61 hw)) (by decide) (backOf (W := 0) (rm_asbi l Z a0 hw [] G1 G3 g1 kg1 g2 kg2 uS sS HG h0 n0 X00 sb hp0 hp1 hp2 hp3 hp4) hZ (w61 hw) (w60 hw) (by decide) (by decide)) (g := (mkF m 3 #[VR sb] [(.int 16), (.ref sb)])) rfl (by rw [hml]; rfl) (Steps.refl _) (a := sb) (argsL := [(.int 16)]) (rest := []) (lenOf pd_235 rfl) rfl (by show 2 * 0 + _ ≤ _; exact Nat.le_of_eq rfl) (hb hby d13_3) (fun _ _ => ⟨rfl, e0, (by decide : 0 + 1 ≤ _), (by decide : 0 + 16 ≤ _)⟩)
 dsimp only [Pt.U, Pt.locs, Pt.cells, Pt.slots] at X_1 l_1 y_1 z_1 st_1 hQ_1
 have X_1 := own_cast X_1 l_1 y_1 z_1
 obtain ⟨a_2, k_3, rfl, N_4, K_5, g_6, g_7, g_8, g_9, g_10, g_11, g_12⟩ := hQ_1
 have N_13 := Fr.app N0 N_4
 have C_14 : Steps p.tables e below S0 (T_1.setTop (mkF m 6 #[VR sb] [])) := by
  refine C0.trans ?_
  refine XS.aloadN X0.here hx rfl (hb hby d13_0) rfl rfl ?_
  refine XS.bipush X0.here hx rfl (hb hby d13_1) ?_
  refine st_1.trans ?_
  exact Steps.refl _
 have K_15 : Keep h0 T_1.heap [sb] := ((Keep.refl _ _).trans K_5 (allS (Or.inl (List.mem_of_getElem? (i := 0) rfl)) all0))
 obtain ⟨fs, hr, hrun, hended, hW, hsame⟩ := X_1.leave (v := none) (fun _ => rfl)
 refine ⟨_, _, C_14.trans (X_1.returnOut hx Bd.returns (hb hby d13_6) hr), hrun, hended, _, _, rfl, ?_, ⟨_, rfl⟩, hW, hsame.mono (by decide) (by decide)⟩
 show Q_sbi Z G1 G3 g1 kg1 g2 kg2 uS sS sb h0 n0 (none) T_1.heap _
 exact ⟨a_2, k_3, rfl, N_13, K_15, g_6, g_7, g_8, g_9, (Nat.le_trans (Nat.le_refl _) g_10), g_11, g_12⟩
abbrev M240 : MethodName := ⟨"java/lang/AbstractStringBuilder", "ensureCapacityInternal", "(I)V"⟩
theorem ef_241 (m : MethodId) (x0 : Addr) (x1 : Int32) : entryFrame m #[(.ref x0), (.int x1)] 3 = mkF m 0 #[VR x0, VI x1, .unset] [] := by first | (simp [entryFrame, mkF, argsToLocals, Value.category]; done) | rfl
theorem d14_0 : decode jdk_68_method_9_code 0 = .ok (.aload_n 0, 1) := by decide +kernel
theorem d14_1 : decode jdk_68_method_9_code 1 = .ok (.getfield 15, 3) := by decide +kernel
theorem d14_4 : decode jdk_68_method_9_code 4 = .ok (.arraylength, 1) := by decide +kernel
theorem d14_5 : decode jdk_68_method_9_code 5 = .ok (.aload_n 0, 1) := by decide +kernel
theorem d14_6 : decode jdk_68_method_9_code 6 = .ok (.getfield 22, 3) := by decide +kernel
theorem d14_9 : decode jdk_68_method_9_code 9 = .ok (.ishr, 1) := by decide +kernel
theorem d14_10 : decode jdk_68_method_9_code 10 = .ok (.istore_n 2, 1) := by decide +kernel
theorem d14_11 : decode jdk_68_method_9_code 11 = .ok (.iload_n 1, 1) := by decide +kernel
theorem d14_12 : decode jdk_68_method_9_code 12 = .ok (.iload_n 2, 1) := by decide +kernel
theorem d14_13 : decode jdk_68_method_9_code 13 = .ok (.isub, 1) := by decide +kernel
theorem d14_14 : decode jdk_68_method_9_code 14 = .ok (.ifCond .le 24, 3) := by decide +kernel
theorem d14_38 : decode jdk_68_method_9_code 38 = .ok (.return_, 1) := by decide +kernel
abbrev R_ecap : Room := { frames := 0, cells := 0, slots := 0, locals := 0 }
def Q_ecap (Z : State) (G1 : Int32) (G3 : Value) (g1 : Addr) (kg1 : ClassId) (g2 : Addr) (kg2 : ClassId) (uS : Value) (sS : Value) (sb : Addr) (vv : Addr) (kv : ClassId) (cap : Int32) (ys : List Value) (mc : Int32) (h0 : Heap) (n0 : Nat) (v : Option Value) (h : Heap) (L : List Loc) : Prop := (v = none ∧ Fr n0 L ∧ h = h0)
theorem rm_ecap (l : Launch) (Z : State) (a0 : Array Value) (hw : HW Z a0) (ws : List Jvm.Cond) (G1 : Int32) (G3 : Value) (g1 : Addr) (kg1 : ClassId) (g2 : Addr) (kg2 : ClassId) (uS : Value) (sS : Value) (HG : own_G l Z a0 G1 G3 g1 kg1 g2 kg2 uS sS) (h0 : Heap) (n0 : Nat) (X00 : Old Z n0 h0) (sb : Addr) (vv : Addr) (kv : ClassId) (cap : Int32) (ys : List Value) (mc : Int32) (hp0 : Fld Z h0 sb "java/lang/AbstractStringBuilder" "value" "[B" (.ref vv)) (hp1 : Fld Z h0 sb "java/lang/AbstractStringBuilder" "coder" "B" (.int 0)) (hp2 : Arv Z h0 vv kv .byte cap ys (.int 0)) (hm : ¬ ((0 : Int32) < (mc - cap))) :
  own_CP l Z M240 jdk_68_method_9_code 3 none ws R_ecap #[(.ref sb), (.int mc)] h0 (Q_ecap Z G1 G3 g1 kg1 g2 kg2 uS sS sb vv kv cap ys mc h0 n0) := by
 refine own_P (plainFor_of_name pn_207) ?_
 intro p e s m below meth c s₁ S0 Bd hZ hh hx hby hml hown hnm X0 e0 hS0d
 obtain ⟨O1, P1, O3f, rG3, Sg1, Dg1, Sg2, Dg2, hLT, OU, rU, OS, rS⟩ := id HG
 have N0 := Fr.nil n0
 have C0 : Steps p.tables e below S0 (s₁.setTop (mkF m 0 #[VR sb, VI mc, .unset] [])) := by rw [hS0d]; exact castTop (ef_241 m sb mc) (Steps.refl _)
 obtain ⟨T_1, X_2, e_3, st_4⟩ := getF X0 hx hZ hown (host := "") (Or.inl (w64 hw)) Via.refl e0 hp0 (g := (mkF m 1 #[VR sb, VI mc, .unset] [(.ref sb)])) rfl rfl (hb hby d14_1)
 obtain ⟨c_5, A_6, q_7, S_8, M_9, H_10, U_11⟩ := id hp2
 obtain ⟨T_12, X_13, e_14, st_15⟩ := getF X_2 hx hZ hown (host := "") (Or.inl (w66 hw)) Via.refl e_3 hp1 (g := (mkF m 6 #[VR sb, VI mc, .unset] [(.ref sb), (.int cap)])) rfl rfl (hb hby d14_6)
 have C_16 : Steps p.tables e below S0 (T_12.setTop (mkF m 10 #[VR sb, VI mc, .unset] [(.int (cap >>> ((0 : Int32) &&& 31)))])) := by
  refine C0.trans ?_
  refine XS.aloadN X0.here hx rfl (hb hby d14_0) rfl rfl ?_
  refine st_4 _ ?_
  refine X_2.arraylength hx (by rw [e_3]; exact A_6.1) (State.isArrayOf_alike hZ.alike A_6.2.1) (g := (mkF m 4 #[VR sb, VI mc, .unset] [(.ref vv)])) rfl rfl (hb hby d14_4) _ ?_
  rw [len_of S_8 M_9]
  refine XS.aloadN X_2.here hx rfl (hb hby d14_5) rfl rfl ?_
  refine st_15 _ ?_
  refine XS.ishr X_13.here hx rfl (hb hby d14_9) rfl ?_
  exact Steps.refl _
 have C_17 : Steps p.tables e below S0 (T_12.setTop (mkF m 10 #[VR sb, VI mc, .unset] [(.int cap)])) := by have q := C_16; rw [own_shr0] at q; exact q
 have C_18 : Steps p.tables e below S0 (T_12.setTop (mkF m 38 #[VR sb, VI mc, VI cap] [])) := by
  refine C_17.trans ?_
  refine XS.istoreN X_13.here hx rfl (hb hby d14_10) rfl (l' := #[VR sb, VI mc, VI cap]) rfl ?_
  refine XS.iloadN X_13.here hx rfl (hb hby d14_11) rfl ?_
  refine XS.iloadN X_13.here hx rfl (hb hby d14_12) rfl ?_
  refine XS.isub X_13.here hx rfl (hb hby d14_13) rfl ?_
  refine XS.ifYes X_13.here hx rfl (pc0 := 14) (pc' := 38) rfl (hb hby d14_14) rfl (i0_le_t hm) (by decide) (by decide) ?_
  exact Steps.refl _
 obtain ⟨fs, hr, hrun, hended, hW, hsame⟩ := X_13.leave (v := none) (fun _ => rfl)
 refine ⟨_, _, C_18.trans (X_13.returnOut hx Bd.returns (hb hby d14_38) hr), hrun, hended, _, _, rfl, ?_, ⟨_, rfl⟩, hW, hsame.mono (by decide) (by decide)⟩
 show Q_ecap Z G1 G3 g1 kg1 g2 kg2 uS sS sb vv kv cap ys mc h0 n0 (none) T_12.heap _
 rw [e_14]
 exact ⟨rfl, N0, rfl⟩
abbrev M254 : MethodName := ⟨"java/lang/AbstractStringBuilder", "inflateIfNeededFor", "(Ljava/lang/String;)V"⟩
theorem d15_0 : decode jdk_68_method_71_code 0 = .ok (.getstatic 18, 3) := by decide +kernel
theorem d15_3 : decode jdk_68_method_71_code 3 = .ok (.ifCond .eq 18, 3) := by decide +kernel
theorem d15_6 : decode jdk_68_method_71_code 6 = .ok (.aload_n 0, 1) := by decide +kernel
theorem d15_7 : decode jdk_68_method_71_code 7 = .ok (.getfield 22, 3) := by decide +kernel
theorem d15_10 : decode jdk_68_method_71_code 10 = .ok (.aload_n 1, 1) := by decide +kernel
theorem d15_11 : decode jdk_68_method_71_code 11 = .ok (.invokevirtual 40, 3) := by decide +kernel
theorem w105 {Z a0} (hw : HW Z a0) : Cond.before (Cond.methodLink "java/lang/AbstractStringBuilder" (40 : Nat) (⟨"java/lang/String", "coder", "()B"⟩ : MethodName)) a0 Z = true := hw _ (List.mem_of_getElem? (i := 105) rfl)
theorem d15_14 : decode jdk_68_method_71_code 14 = .ok (.if_icmp .eq 7, 3) := by decide +kernel
theorem d15_21 : decode jdk_68_method_71_code 21 = .ok (.return_, 1) := by decide +kernel
abbrev R_infl : Room := { frames := 1, cells := 0, slots := 0, locals := 13 }
def Q_infl (Z : State) (G1 : Int32) (G3 : Value) (g1 : Addr) (kg1 : ClassId) (g2 : Addr) (kg2 : ClassId) (uS : Value) (sS : Value) (sb : Addr) (x : Addr) (h0 : Heap) (n0 : Nat) (v : Option Value) (h : Heap) (L : List Loc) : Prop := (v = none ∧ Fr n0 L ∧ h = h0)
theorem rm_infl (l : Launch) (Z : State) (a0 : Array Value) (hw : HW Z a0) (ws : List Jvm.Cond) (G1 : Int32) (G3 : Value) (g1 : Addr) (kg1 : ClassId) (g2 : Addr) (kg2 : ClassId) (uS : Value) (sS : Value) (HG : own_G l Z a0 G1 G3 g1 kg1 g2 kg2 uS sS) (h0 : Heap) (n0 : Nat) (X00 : Old Z n0 h0) (sb : Addr) (x : Addr) (hp0 : Fld Z h0 sb "java/lang/AbstractStringBuilder" "coder" "B" (.int 0)) (hp1 : Exa Z h0 x "java/lang/String") (hp2 : Fld Z h0 x "java/lang/String" "coder" "B" (.int 0)) :
  own_CP l Z M254 jdk_68_method_71_code 2 none ws R_infl #[(.ref sb), (.ref x)] h0 (Q_infl Z G1 G3 g1 kg1 g2 kg2 uS sS sb x h0 n0) := by
 refine own_P (plainFor_of_name pn_207) ?_
 intro p e s m below meth c s₁ S0 Bd hZ hh hx hby hml hown hnm X0 e0 hS0d
 obtain ⟨O1, P1, O3f, rG3, Sg1, Dg1, Sg2, Dg2, hLT, OU, rU, OS, rS⟩ := id HG
 have N0 := Fr.nil n0
 have C0 : Steps p.tables e below S0 (s₁.setTop (mkF m 0 #[VR sb, VR x] [])) := by rw [hS0d]; exact castTop (ef_100 m sb x) (Steps.refl _)
 obtain ⟨T_1, X_2, e_3, st_4⟩ := getS X0 hx hZ (host := "") hown (w63 hw) Via.refl e0 (O1.ext X00.2) (g := (mkF m 0 #[VR sb, VR x] [])) rfl (hb hby d15_0)
 obtain ⟨T_5, X_6, e_7, st_8⟩ := getF X_2 hx hZ hown (host := "") (Or.inl (w66 hw)) Via.refl e_3 hp0 (g := (mkF m 7 #[VR sb, VR x] [(.ref sb)])) rfl rfl (hb hby d15_7)
 obtain ⟨q_10, q_11, q_12, q_13, q_14⟩ := isOf (T := T_5) hZ e_7 hp1
 obtain ⟨_, _, ⟨T_9, L_9, k_9, n_9⟩, -, X_9, ⟨Lc_9, hQ_9, l_9, y_9, z_9⟩, st_9⟩ := X_6.virtualBack hx (y := M114) (z := M114) hown (mvT hZ (w105 hw)) (mvT hZ (w84 hw)) (notFace_of_selects (args := #[]) (mvT hZ (w86 hw))) (mvT hZ (w86 hw)) (mvT hZ (w85 hw)) (by decide) (backOf (W := 1) (rm_coder l Z a0 hw [] G1 G3 g1 kg1 g2 kg2 uS sS HG h0 n0 X00 x hp2) hZ (w87 hw) (w3 hw) (by decide) (by decide)) q_12 q_14 (g := (mkF m 11 #[VR sb, VR x] [(.ref x), (.int 0)])) rfl (by rw [hml]; rfl) (Steps.refl _) (argsL := []) (rest := [(.int 0)]) (lenOf pd_137 rfl) rfl (by show 2 * 0 + _ ≤ _; exact Nat.le_of_eq rfl) (hb hby d15_11) (fun _ _ => ⟨rfl, e_7, (by decide : 0 + 0 ≤ _), (by decide : 0 + 0 ≤ _)⟩)
 dsimp only [Pt.U, Pt.locs, Pt.cells, Pt.slots] at X_9 l_9 y_9 z_9 st_9 hQ_9
 have X_9 := own_cast X_9 l_9 y_9 z_9
 obtain ⟨rfl, N_15, e_16⟩ := hQ_9
 have N_17 := Fr.app N0 N_15
 have e_18 : T_9.heap = h0 := e_16
 have C_19 : Steps p.tables e below S0 (T_9.setTop (mkF m 21 #[VR sb, VR x] [])) := by
  refine C0.trans ?_
  refine st_4 _ ?_
  refine XS.ifNo X_2.here hx rfl (hb hby d15_3) rfl (i0_eq_f P1) ?_
  refine XS.aloadN X_2.here hx rfl (hb hby d15_6) rfl rfl ?_
  refine st_8 _ ?_
  refine XS.aloadN X_6.here hx rfl (hb hby d15_10) rfl rfl ?_
  refine st_9.trans ?_
  refine XS.icmpYes X_9.here hx rfl (pc0 := 14) (pc' := 21) rfl (hb hby d15_14) rfl (by decide) (by decide) (by decide) ?_
  exact Steps.refl _
 obtain ⟨fs, hr, hrun, hended, hW, hsame⟩ := X_9.leave (v := none) (fun _ => rfl)
 refine ⟨_, _, C_19.trans (X_9.returnOut hx Bd.returns (hb hby d15_21) hr), hrun, hended, _, _, rfl, ?_, ⟨_, rfl⟩, hW, hsame.mono (by decide) (by decide)⟩
 show Q_infl Z G1 G3 g1 kg1 g2 kg2 uS sS sb x h0 n0 (none) T_9.heap _
 rw [e_18]
 exact ⟨rfl, N_17, rfl⟩
abbrev M264 : MethodName := ⟨"java/lang/String", "getBytes", "([BIB)V"⟩
theorem ef_265 (m : MethodId) (x0 : Addr) (x1 : Addr) (x2 : Int32) (x3 : Int32) : entryFrame m #[(.ref x0), (.ref x1), (.int x2), (.int x3)] 4 = mkF m 0 #[VR x0, VR x1, VI x2, VI x3] [] := by first | (simp [entryFrame, mkF, argsToLocals, Value.category]; done) | rfl
theorem d16_0 : decode jdk_42_method_147_code 0 = .ok (.aload_n 0, 1) := by decide +kernel
theorem d16_1 : decode jdk_42_method_147_code 1 = .ok (.invokevirtual 335, 3) := by decide +kernel
theorem d16_4 : decode jdk_42_method_147_code 4 = .ok (.iload_n 3, 1) := by decide +kernel
theorem d16_5 : decode jdk_42_method_147_code 5 = .ok (.if_icmp .ne 23, 3) := by decide +kernel
theorem d16_8 : decode jdk_42_method_147_code 8 = .ok (.aload_n 0, 1) := by decide +kernel
theorem d16_9 : decode jdk_42_method_147_code 9 = .ok (.getfield 9, 3) := by decide +kernel
theorem d16_12 : decode jdk_42_method_147_code 12 = .ok (.iconst 0, 1) := by decide +kernel
theorem d16_13 : decode jdk_42_method_147_code 13 = .ok (.aload_n 1, 1) := by decide +kernel
theorem d16_14 : decode jdk_42_method_147_code 14 = .ok (.iload_n 2, 1) := by decide +kernel
theorem d16_15 : decode jdk_42_method_147_code 15 = .ok (.iload_n 3, 1) := by decide +kernel
theorem d16_16 : decode jdk_42_method_147_code 16 = .ok (.ishl, 1) := by decide +kernel
theorem d16_17 : decode jdk_42_method_147_code 17 = .ok (.aload_n 0, 1) := by decide +kernel
theorem d16_18 : decode jdk_42_method_147_code 18 = .ok (.getfield 9, 3) := by decide +kernel
theorem d16_21 : decode jdk_42_method_147_code 21 = .ok (.arraylength, 1) := by decide +kernel
theorem w111 {Z a0} (hw : HW Z a0) : Cond.before (Cond.methodLink "java/lang/String" (212 : Nat) (⟨"java/lang/System", "arraycopy", "(Ljava/lang/Object;ILjava/lang/Object;II)V"⟩ : MethodName)) a0 Z = true := hw _ (List.mem_of_getElem? (i := 111) rfl)
theorem w114 {Z a0} (hw : HW Z a0) : Cond.before (Cond.native (⟨"java/lang/System", "arraycopy", "(Ljava/lang/Object;ILjava/lang/Object;II)V"⟩ : MethodName)) a0 Z = true := hw _ (List.mem_of_getElem? (i := 114) rfl)
theorem w112 {Z a0} (hw : HW Z a0) : Cond.before (Cond.static (⟨"java/lang/System", "arraycopy", "(Ljava/lang/Object;ILjava/lang/Object;II)V"⟩ : MethodName)) a0 Z = true := hw _ (List.mem_of_getElem? (i := 112) rfl)
theorem w113 {Z a0} (hw : HW Z a0) : Cond.before (Cond.initialized "java/lang/System") a0 Z = true := hw _ (List.mem_of_getElem? (i := 113) rfl)
theorem d16_22 : decode jdk_42_method_147_code 22 = .ok (.invokestatic 212, 3) := by decide +kernel
theorem d16_25 : decode jdk_42_method_147_code 25 = .ok (.goto 18, 3) := by decide +kernel
theorem d16_43 : decode jdk_42_method_147_code 43 = .ok (.return_, 1) := by decide +kernel
abbrev R_gb : Room := { frames := 1, cells := 0, slots := 0, locals := 18 }
def Q_gb (Z : State) (G1 : Int32) (G3 : Value) (g1 : Addr) (kg1 : ClassId) (g2 : Addr) (kg2 : ClassId) (uS : Value) (sS : Value) (vv : Addr) (kv : ClassId) (cap : Int32) (ff : List Int32) (cnt : Int32) (x : Addr) (t : Addr) (kt : ClassId) (nn : Int32) (bs : List Int32) (h0 : Heap) (n0 : Nat) (v : Option Value) (h : Heap) (L : List Loc) : Prop := (v = none ∧ Fr n0 L ∧ Keep h0 h [vv] ∧ (Arv Z h vv kv .byte cap (own_iv (own_sb (ff ++ bs) cap.toNatClampNeg)) (.int 0)))
theorem rm_gb (l : Launch) (Z : State) (a0 : Array Value) (hw : HW Z a0) (ws : List Jvm.Cond) (G1 : Int32) (G3 : Value) (g1 : Addr) (kg1 : ClassId) (g2 : Addr) (kg2 : ClassId) (uS : Value) (sS : Value) (HG : own_G l Z a0 G1 G3 g1 kg1 g2 kg2 uS sS) (h0 : Heap) (n0 : Nat) (X00 : Old Z n0 h0) (vv : Addr) (kv : ClassId) (cap : Int32) (ff : List Int32) (cnt : Int32) (x : Addr) (t : Addr) (kt : ClassId) (nn : Int32) (bs : List Int32) (hp0 : Exa Z h0 x "java/lang/String") (hp1 : Fld Z h0 x "java/lang/String" "coder" "B" (.int 0)) (hp2 : Fld Z h0 x "java/lang/String" "value" "[B" (.ref t)) (hp3 : Arv Z h0 t kt .byte nn (own_iv bs) (.int 0)) (hp4 : Arv Z h0 vv kv .byte cap (own_iv (own_sb ff cap.toNatClampNeg)) (.int 0)) (hp5 : n0 ≤ vv) (hc0 : ¬ (cnt < (0 : Int32))) (hcn : cnt.toNatClampNeg = ff.length) (hn0 : ¬ (nn < (0 : Int32))) (hl1 : bs.length = nn.toNatClampNeg) (hfit : ff.length + bs.length ≤ cap.toNatClampNeg) :
  own_CP l Z M264 jdk_42_method_147_code 4 none ws R_gb #[(.ref x), (.ref vv), (.int cnt), (.int 0)] h0 (Q_gb Z G1 G3 g1 kg1 g2 kg2 uS sS vv kv cap ff cnt x t kt nn bs h0 n0) := by
 refine own_P (plainFor_of_name pn_61) ?_
 intro p e s m below meth c s₁ S0 Bd hZ hh hx hby hml hown hnm X0 e0 hS0d
 obtain ⟨O1, P1, O3f, rG3, Sg1, Dg1, Sg2, Dg2, hLT, OU, rU, OS, rS⟩ := id HG
 have N0 := Fr.nil n0
 have C0 : Steps p.tables e below S0 (s₁.setTop (mkF m 0 #[VR x, VR vv, VI cnt, VI 0] [])) := by rw [hS0d]; exact castTop (ef_265 m x vv cnt (0 : Int32)) (Steps.refl _)
 obtain ⟨q_2, q_3, q_4, q_5, q_6⟩ := isOf (T := s₁) hZ e0 hp0
 obtain ⟨_, _, ⟨T_1, L_1, k_1, n_1⟩, -, X_1, ⟨Lc_1, hQ_1, l_1, y_1, z_1⟩, st_1⟩ := X0.virtualBack hx (y := M114) (z := M114) hown (mvT hZ (w83 hw)) (mvT hZ (w84 hw)) (notFace_of_selects (args := #[]) (mvT hZ (w86 hw))) (mvT hZ (w86 hw)) (mvT hZ (w85 hw)) (by decide) (backOf (W := 0) (rm_coder l Z a0 hw [] G1 G3 g1 kg1 g2 kg2 uS sS HG h0 n0 X00 x hp1) hZ (w87 hw) (w3 hw) (by decide) (by decide)) q_4 q_6 (g := (mkF m 1 #[VR x, VR vv, VI cnt, VI 0] [(.ref x)])) rfl (by rw [hml]; rfl) (Steps.refl _) (argsL := []) (rest := []) (lenOf pd_137 rfl) rfl (by show 2 * 0 + _ ≤ _; exact Nat.le_of_eq rfl) (hb hby d16_1) (fun _ _ => ⟨rfl, e0, (by decide : 0 + 0 ≤ _), (by decide : 0 + 0 ≤ _)⟩)
 dsimp only [Pt.U, Pt.locs, Pt.cells, Pt.slots] at X_1 l_1 y_1 z_1 st_1 hQ_1
 have X_1 := own_cast X_1 l_1 y_1 z_1
 obtain ⟨rfl, N_7, e_8⟩ := hQ_1
 have N_9 := Fr.app N0 N_7
 have e_10 : T_1.heap = h0 := e_8
 obtain ⟨T_11, X_12, e_13, st_14⟩ := getF X_1 hx hZ hown (host := "") (Or.inl (w28 hw)) Via.refl e_10 hp2 (g := (mkF m 9 #[VR x, VR vv, VI cnt, VI 0] [(.ref x)])) rfl rfl (hb hby d16_9)
 have C_15 : Steps p.tables e below S0 (T_11.setTop (mkF m 17 #[VR x, VR vv, VI cnt, VI 0] [(.int (cnt <<< ((0 : Int32) &&& 31))), (.ref vv), (.int 0), (.ref t)])) := by
  refine C0.trans ?_
  refine XS.aloadN X0.here hx rfl (hb hby d16_0) rfl rfl ?_
  refine st_1.trans ?_
  refine XS.iloadN X_1.here hx rfl (hb hby d16_4) rfl ?_
  refine XS.icmpNo X_1.here hx rfl (hb hby d16_5) rfl (by decide) ?_
  refine XS.aloadN X_1.here hx rfl (hb hby d16_8) rfl rfl ?_
  refine st_14 _ ?_
  refine XS.iconst X_12.here hx rfl (hb hby d16_12) ?_
  refine XS.aloadN X_12.here hx rfl (hb hby d16_13) rfl rfl ?_
  show Steps p.tables e below (T_11.setTop (mkF m 14 #[VR x, VR vv, VI cnt, VI 0] [(.ref vv), (.int 0), (.ref t)])) _
  refine XS.iloadN X_12.here hx rfl (hb hby d16_14) rfl ?_
  refine XS.iloadN X_12.here hx rfl (hb hby d16_15) rfl ?_
  refine XS.ishl X_12.here hx rfl (hb hby d16_16) rfl ?_
  exact Steps.refl _
 have C_16 : Steps p.tables e below S0 (T_11.setTop (mkF m 17 #[VR x, VR vv, VI cnt, VI 0] [(.int cnt), (.ref vv), (.int 0), (.ref t)])) := by have q := C_15; rw [own_shl0] at q; exact q
 obtain ⟨T_17, X_18, e_19, st_20⟩ := getF X_12 hx hZ hown (host := "") (Or.inl (w28 hw)) Via.refl e_13 hp2 (g := (mkF m 18 #[VR x, VR vv, VI cnt, VI 0] [(.ref x), (.int cnt), (.ref vv), (.int 0), (.ref t)])) rfl rfl (hb hby d16_18)
 obtain ⟨c_21, A_22, q_23, S_24, M_25, H_26, U_27⟩ := id hp3
 obtain ⟨T_28, h_29, L_30, X_31, e_32, N_33, K_34, V_35, st_36⟩ := cpA X_18 hx hZ hown (w111 hw) (w114 hw) (w112 hw) (w113 hw) e_19 hp3 hp4 (sp := (0 : Int32)) (dp := cnt) (nn := nn) (us := own_iv (own_seg bs (0 : Int32) nn)) (Or.inl ⟨rfl, rfl⟩) (by decide) hc0 hn0 (by rw [show (0 : Int32).toNatClampNeg = 0 from rfl]; omega) (by rw [hcn, ← hl1]; exact hfit) (own_ivseg _ _ _) (own_ivl (by rw [own_sblen (Nat.le_trans (Nat.le_add_right _ _) hfit), hcn, ← hl1]; exact hfit)) N_9 hp5 (g := (mkF m 22 #[VR x, VR vv, VI cnt, VI 0] [(.int nn), (.int cnt), (.ref vv), (.int 0), (.ref t)])) rfl (by rw [hml]; rfl) rfl (hb hby d16_22) (by decide) (W := 0) (by show 2 * 0 + _ ≤ _; exact Nat.le_of_eq rfl) (by decide)
 have V_37 : Arv Z h_29 vv kv .byte cap (own_iv (own_sb (ff ++ bs) cap.toNatClampNeg)) (.int 0) := (by have q := own_ivcp V_35; rw [own_gbeq hcn hl1 hfit] at q; exact q)
 have C_38 : Steps p.tables e below S0 (T_28.setTop (mkF m 43 #[VR x, VR vv, VI cnt, VI 0] [])) := by
  refine C_16.trans ?_
  refine XS.aloadN X_12.here hx rfl (hb hby d16_17) rfl rfl ?_
  refine st_20 _ ?_
  refine X_18.arraylength hx (by rw [e_19]; exact A_22.1) (State.isArrayOf_alike hZ.alike A_22.2.1) (g := (mkF m 21 #[VR x, VR vv, VI cnt, VI 0] [(.ref t), (.int cnt), (.ref vv), (.int 0), (.ref t)])) rfl rfl (hb hby d16_21) _ ?_
  rw [len_of S_24 M_25]
  refine st_36 _ ?_
  refine XS.goto X_31.here hx rfl (pc0 := 25) (pc' := 43) rfl (hb hby d16_25) (by decide) (by decide) ?_
  exact Steps.refl _
 have K_39 : Keep h0 h_29 [vv] := ((Keep.refl _ _).trans K_34 (allS (Or.inl (List.mem_of_getElem? (i := 0) rfl)) all0))
 obtain ⟨fs, hr, hrun, hended, hW, hsame⟩ := X_31.leave (v := none) (fun _ => rfl)
 refine ⟨_, _, C_38.trans (X_31.returnOut hx Bd.returns (hb hby d16_43) hr), hrun, hended, _, _, rfl, ?_, ⟨_, rfl⟩, hW, hsame.mono (by decide) (by decide)⟩
 show Q_gb Z G1 G3 g1 kg1 g2 kg2 uS sS vv kv cap ff cnt x t kt nn bs h0 n0 (none) T_28.heap _
 rw [e_32]
 exact ⟨rfl, N_33, K_39, V_37⟩
abbrev M287 : MethodName := ⟨"java/lang/AbstractStringBuilder", "putStringAt", "(ILjava/lang/String;)V"⟩
theorem ef_288 (m : MethodId) (x0 : Addr) (x1 : Int32) (x2 : Addr) : entryFrame m #[(.ref x0), (.int x1), (.ref x2)] 3 = mkF m 0 #[VR x0, VI x1, VR x2] [] := by first | (simp [entryFrame, mkF, argsToLocals, Value.category]; done) | rfl
theorem d17_0 : decode jdk_68_method_73_code 0 = .ok (.aload_n 0, 1) := by decide +kernel
theorem d17_1 : decode jdk_68_method_73_code 1 = .ok (.aload_n 2, 1) := by decide +kernel
theorem w104 {Z a0} (hw : HW Z a0) : Cond.before (Cond.code (⟨"java/lang/AbstractStringBuilder", "inflateIfNeededFor", "(Ljava/lang/String;)V"⟩ : MethodName) jdk_68_method_71_code (2 : Nat) (Option.none : Option FieldType)) a0 Z = true := hw _ (List.mem_of_getElem? (i := 104) rfl)
theorem pd_292 : parseMethodDescriptor "(Ljava/lang/String;)V" = some ⟨[(.object "java/lang/String")], none⟩ := by decide +kernel
theorem d17_2 : decode jdk_68_method_73_code 2 = .ok (.invokevirtual 397, 3) := by decide +kernel
theorem w100 {Z a0} (hw : HW Z a0) : Cond.before (Cond.methodLink "java/lang/AbstractStringBuilder" (397 : Nat) (⟨"java/lang/AbstractStringBuilder", "inflateIfNeededFor", "(Ljava/lang/String;)V"⟩ : MethodName)) a0 Z = true := hw _ (List.mem_of_getElem? (i := 100) rfl)
theorem w101 {Z a0} (hw : HW Z a0) : Cond.before (Cond.instanceMethod (⟨"java/lang/AbstractStringBuilder", "inflateIfNeededFor", "(Ljava/lang/String;)V"⟩ : MethodName)) a0 Z = true := hw _ (List.mem_of_getElem? (i := 101) rfl)
theorem w103 {Z a0} (hw : HW Z a0) : Cond.before (Cond.selects "java/lang/StringBuilder" (⟨"java/lang/AbstractStringBuilder", "inflateIfNeededFor", "(Ljava/lang/String;)V"⟩ : MethodName) (⟨"java/lang/AbstractStringBuilder", "inflateIfNeededFor", "(Ljava/lang/String;)V"⟩ : MethodName)) a0 Z = true := hw _ (List.mem_of_getElem? (i := 103) rfl)
theorem w102 {Z a0} (hw : HW Z a0) : Cond.before (Cond.privateMethod (⟨"java/lang/AbstractStringBuilder", "inflateIfNeededFor", "(Ljava/lang/String;)V"⟩ : MethodName)) a0 Z = true := hw _ (List.mem_of_getElem? (i := 102) rfl)
theorem d17_5 : decode jdk_68_method_73_code 5 = .ok (.aload_n 2, 1) := by decide +kernel
theorem d17_6 : decode jdk_68_method_73_code 6 = .ok (.aload_n 0, 1) := by decide +kernel
theorem d17_7 : decode jdk_68_method_73_code 7 = .ok (.getfield 15, 3) := by decide +kernel
theorem d17_10 : decode jdk_68_method_73_code 10 = .ok (.iload_n 1, 1) := by decide +kernel
theorem d17_11 : decode jdk_68_method_73_code 11 = .ok (.aload_n 0, 1) := by decide +kernel
theorem d17_12 : decode jdk_68_method_73_code 12 = .ok (.getfield 22, 3) := by decide +kernel
theorem w110 {Z a0} (hw : HW Z a0) : Cond.before (Cond.code (⟨"java/lang/String", "getBytes", "([BIB)V"⟩ : MethodName) jdk_42_method_147_code (4 : Nat) (Option.none : Option FieldType)) a0 Z = true := hw _ (List.mem_of_getElem? (i := 110) rfl)
theorem pd_305 : parseMethodDescriptor "([BIB)V" = some ⟨[(.array .byte), .int, .byte], none⟩ := by decide +kernel
theorem d17_15 : decode jdk_68_method_73_code 15 = .ok (.invokevirtual 399, 3) := by decide +kernel
theorem w106 {Z a0} (hw : HW Z a0) : Cond.before (Cond.methodLink "java/lang/AbstractStringBuilder" (399 : Nat) (⟨"java/lang/String", "getBytes", "([BIB)V"⟩ : MethodName)) a0 Z = true := hw _ (List.mem_of_getElem? (i := 106) rfl)
theorem w109 {Z a0} (hw : HW Z a0) : Cond.before (Cond.selects "java/lang/String" (⟨"java/lang/String", "getBytes", "([BIB)V"⟩ : MethodName) (⟨"java/lang/String", "getBytes", "([BIB)V"⟩ : MethodName)) a0 Z = true := hw _ (List.mem_of_getElem? (i := 109) rfl)
theorem w108 {Z a0} (hw : HW Z a0) : Cond.before (Cond.instanceMethod (⟨"java/lang/String", "getBytes", "([BIB)V"⟩ : MethodName)) a0 Z = true := hw _ (List.mem_of_getElem? (i := 108) rfl)
theorem w107 {Z a0} (hw : HW Z a0) : Cond.before (Cond.declares (⟨"java/lang/String", "getBytes", "([BIB)V"⟩ : MethodName)) a0 Z = true := hw _ (List.mem_of_getElem? (i := 107) rfl)
theorem d17_18 : decode jdk_68_method_73_code 18 = .ok (.return_, 1) := by decide +kernel
abbrev R_psa : Room := { frames := 2, cells := 0, slots := 0, locals := 33 }
def Q_psa (Z : State) (G1 : Int32) (G3 : Value) (g1 : Addr) (kg1 : ClassId) (g2 : Addr) (kg2 : ClassId) (uS : Value) (sS : Value) (sb : Addr) (vv : Addr) (kv : ClassId) (cap : Int32) (ff : List Int32) (cnt : Int32) (x : Addr) (t : Addr) (kt : ClassId) (nn : Int32) (bs : List Int32) (h0 : Heap) (n0 : Nat) (v : Option Value) (h : Heap) (L : List Loc) : Prop := (v = none ∧ Fr n0 L ∧ Keep h0 h [vv] ∧ (Arv Z h vv kv .byte cap (own_iv (own_sb (ff ++ bs) cap.toNatClampNeg)) (.int 0)))
theorem rm_psa (l : Launch) (Z : State) (a0 : Array Value) (hw : HW Z a0) (ws : List Jvm.Cond) (G1 : Int32) (G3 : Value) (g1 : Addr) (kg1 : ClassId) (g2 : Addr) (kg2 : ClassId) (uS : Value) (sS : Value) (HG : own_G l Z a0 G1 G3 g1 kg1 g2 kg2 uS sS) (h0 : Heap) (n0 : Nat) (X00 : Old Z n0 h0) (sb : Addr) (vv : Addr) (kv : ClassId) (cap : Int32) (ff : List Int32) (cnt : Int32) (x : Addr) (t : Addr) (kt : ClassId) (nn : Int32) (bs : List Int32) (hp0 : Exa Z h0 sb "java/lang/StringBuilder") (hp1 : Fld Z h0 sb "java/lang/AbstractStringBuilder" "value" "[B" (.ref vv)) (hp2 : Fld Z h0 sb "java/lang/AbstractStringBuilder" "coder" "B" (.int 0)) (hp3 : Exa Z h0 x "java/lang/String") (hp4 : Fld Z h0 x "java/lang/String" "coder" "B" (.int 0)) (hp5 : Fld Z h0 x "java/lang/String" "value" "[B" (.ref t)) (hp6 : Arv Z h0 t kt .byte nn (own_iv bs) (.int 0)) (hp7 : Arv Z h0 vv kv .byte cap (own_iv (own_sb ff cap.toNatClampNeg)) (.int 0)) (hp8 : n0 ≤ vv) (hc0 : ¬ (cnt < (0 : Int32))) (hcn : cnt.toNatClampNeg = ff.length) (hn0 : ¬ (nn < (0 : Int32))) (hl1 : bs.length = nn.toNatClampNeg) (hfit : ff.length + bs.length ≤ cap.toNatClampNeg) :
  own_CP l Z M287 jdk_68_method_73_code 3 none ws R_psa #[(.ref sb), (.int cnt), (.ref x)] h0 (Q_psa Z G1 G3 g1 kg1 g2 kg2 uS sS sb vv kv cap ff cnt x t kt nn bs h0 n0) := by
 refine own_P (plainFor_of_name pn_207) ?_
 intro p e s m below meth c s₁ S0 Bd hZ hh hx hby hml hown hnm X0 e0 hS0d
 obtain ⟨O1, P1, O3f, rG3, Sg1, Dg1, Sg2, Dg2, hLT, OU, rU, OS, rS⟩ := id HG
 have N0 := Fr.nil n0
 have C0 : Steps p.tables e below S0 (s₁.setTop (mkF m 0 #[VR sb, VI cnt, VR x] [])) := by rw [hS0d]; exact castTop (ef_288 m sb cnt x) (Steps.refl _)
 obtain ⟨cl_7, hc_8, hc_9⟩ := hp0.cell
 obtain ⟨_, _, ⟨T_1, L_1, k_1, n_1⟩, -, X_1, ⟨Lc_1, hQ_1, l_1, y_1, z_1⟩, st_1⟩ := X0.privateBack hx (y := M254) hown (mvT hZ (w100 hw)) (mvT hZ (w101 hw)) (mvT hZ (own_selp (y := M254) (by decide) (w103 hw) (w102 hw))) (own_priv (args := #[]) (mvP hZ (w102 hw))) (mvT hZ (w104 hw)) (by decide) (backOf (W := 0) (rm_infl l Z a0 hw [] G1 G3 g1 kg1 g2 kg2 uS sS HG h0 n0 X00 sb x hp2 hp3 hp4) hZ (w104 hw) (w60 hw) (by decide) (by decide)) (g := (mkF m 2 #[VR sb, VI cnt, VR x] [(.ref x), (.ref sb)])) rfl (by rw [hml]; rfl) (Steps.refl _) (a := sb) (cell := cl_7) (by rw [e0]; exact hc_8) hc_9 (argsL := [(.ref x)]) (rest := []) (lenOf pd_292 rfl) rfl (by show 2 * 0 + _ ≤ _; exact Nat.le_of_eq rfl) (hb hby d17_2) (fun _ _ => ⟨rfl, e0, (by decide : 0 + 0 ≤ _), (by decide : 0 + 0 ≤ _)⟩)
 dsimp only [Pt.U, Pt.locs, Pt.cells, Pt.slots] at X_1 l_1 y_1 z_1 st_1 hQ_1
 have X_1 := own_cast X_1 l_1 y_1 z_1
 obtain ⟨rfl, N_10, e_11⟩ := hQ_1
 have N_12 := Fr.app N0 N_10
 have e_13 : T_1.heap = h0 := e_11
 obtain ⟨T_14, X_15, e_16, st_17⟩ := getF X_1 hx hZ hown (host := "") (Or.inl (w64 hw)) Via.refl e_13 hp1 (g := (mkF m 7 #[VR sb, VI cnt, VR x] [(.ref sb), (.ref x)])) rfl rfl (hb hby d17_7)
 obtain ⟨T_18, X_19, e_20, st_21⟩ := getF X_15 hx hZ hown (host := "") (Or.inl (w66 hw)) Via.refl e_16 hp2 (g := (mkF m 12 #[VR sb, VI cnt, VR x] [(.ref sb), (.int cnt), (.ref vv), (.ref x)])) rfl rfl (hb hby d17_12)
 obtain ⟨q_23, q_24, q_25, q_26, q_27⟩ := isOf (T := T_18) hZ e_20 hp3
 obtain ⟨_, _, ⟨T_22, L_22, k_22, n_22⟩, -, X_22, ⟨Lc_22, hQ_22, l_22, y_22, z_22⟩, st_22⟩ := X_19.virtualBack hx (y := M264) (z := M264) hown (mvT hZ (w106 hw)) (mvT hZ (w107 hw)) (notFace_of_selects (args := #[]) (mvT hZ (w109 hw))) (mvT hZ (w109 hw)) (mvT hZ (w108 hw)) (by decide) (backOf (W := 0) (rm_gb l Z a0 hw [] G1 G3 g1 kg1 g2 kg2 uS sS HG h0 n0 X00 vv kv cap ff cnt x t kt nn bs hp3 hp4 hp5 hp6 hp7 hp8 hc0 hcn hn0 hl1 hfit) hZ (w110 hw) (w3 hw) (by decide) (by decide)) q_25 q_27 (g := (mkF m 15 #[VR sb, VI cnt, VR x] [(.int 0), (.int cnt), (.ref vv), (.ref x)])) rfl (by rw [hml]; rfl) (Steps.refl _) (argsL := [(.ref vv), (.int cnt), (.int 0)]) (rest := []) (lenOf pd_305 rfl) rfl (by show 2 * 0 + _ ≤ _; exact Nat.le_of_eq rfl) (hb hby d17_15) (fun _ _ => ⟨rfl, e_20, (by decide : 0 + 0 ≤ _), (by decide : 0 + 0 ≤ _)⟩)
 dsimp only [Pt.U, Pt.locs, Pt.cells, Pt.slots] at X_22 l_22 y_22 z_22 st_22 hQ_22
 have X_22 := own_cast X_22 l_22 y_22 z_22
 obtain ⟨rfl, N_28, K_29, g_30⟩ := hQ_22
 have N_31 := Fr.app N_12 N_28
 have C_32 : Steps p.tables e below S0 (T_22.setTop (mkF m 18 #[VR sb, VI cnt, VR x] [])) := by
  refine C0.trans ?_
  refine XS.aloadN X0.here hx rfl (hb hby d17_0) rfl rfl ?_
  refine XS.aloadN X0.here hx rfl (hb hby d17_1) rfl rfl ?_
  refine st_1.trans ?_
  refine XS.aloadN X_1.here hx rfl (hb hby d17_5) rfl rfl ?_
  refine XS.aloadN X_1.here hx rfl (hb hby d17_6) rfl rfl ?_
  refine st_17 _ ?_
  refine XS.iloadN X_15.here hx rfl (hb hby d17_10) rfl ?_
  refine XS.aloadN X_15.here hx rfl (hb hby d17_11) rfl rfl ?_
  show Steps p.tables e below (T_14.setTop (mkF m 12 #[VR sb, VI cnt, VR x] [(.ref sb), (.int cnt), (.ref vv), (.ref x)])) _
  refine st_21 _ ?_
  refine st_22.trans ?_
  exact Steps.refl _
 have K_33 : Keep h0 T_22.heap [vv] := ((Keep.refl _ _).trans K_29 (allS (Or.inl (List.mem_of_getElem? (i := 0) rfl)) all0))
 obtain ⟨fs, hr, hrun, hended, hW, hsame⟩ := X_22.leave (v := none) (fun _ => rfl)
 refine ⟨_, _, C_32.trans (X_22.returnOut hx Bd.returns (hb hby d17_18) hr), hrun, hended, _, _, rfl, ?_, ⟨_, rfl⟩, hW, hsame.mono (by decide) (by decide)⟩
 show Q_psa Z G1 G3 g1 kg1 g2 kg2 uS sS sb vv kv cap ff cnt x t kt nn bs h0 n0 (none) T_22.heap _
 exact ⟨rfl, N_31, K_33, g_30⟩
abbrev M312 : MethodName := ⟨"java/lang/Math", "min", "(II)I"⟩
theorem d18_0 : decode jdk_29_method_69_code 0 = .ok (.iload_n 0, 1) := by decide +kernel
theorem d18_1 : decode jdk_29_method_69_code 1 = .ok (.iload_n 1, 1) := by decide +kernel
theorem d18_2 : decode jdk_29_method_69_code 2 = .ok (.if_icmp .gt 7, 3) := by decide +kernel
theorem d18_5 : decode jdk_29_method_69_code 5 = .ok (.iload_n 0, 1) := by decide +kernel
theorem d18_6 : decode jdk_29_method_69_code 6 = .ok (.goto 4, 3) := by decide +kernel
theorem d18_10 : decode jdk_29_method_69_code 10 = .ok (.ireturn, 1) := by decide +kernel
abbrev R_minL : Room := { frames := 0, cells := 0, slots := 0, locals := 0 }
def Q_minL (Z : State) (G1 : Int32) (G3 : Value) (g1 : Addr) (kg1 : ClassId) (g2 : Addr) (kg2 : ClassId) (uS : Value) (sS : Value) (a : Int32) (b : Int32) (h0 : Heap) (n0 : Nat) (v : Option Value) (h : Heap) (L : List Loc) : Prop := (v = some (.int a) ∧ Fr n0 L ∧ h = h0)
theorem rm_minL (l : Launch) (Z : State) (a0 : Array Value) (hw : HW Z a0) (ws : List Jvm.Cond) (G1 : Int32) (G3 : Value) (g1 : Addr) (kg1 : ClassId) (g2 : Addr) (kg2 : ClassId) (uS : Value) (sS : Value) (HG : own_G l Z a0 G1 G3 g1 kg1 g2 kg2 uS sS) (h0 : Heap) (n0 : Nat) (X00 : Old Z n0 h0) (a : Int32) (b : Int32) (h : ¬ (b < a)) :
  own_CP l Z M312 jdk_29_method_69_code 2 (some .int) ws R_minL #[(.int a), (.int b)] h0 (Q_minL Z G1 G3 g1 kg1 g2 kg2 uS sS a b h0 n0) := by
 refine own_P (Jvm.Free.JP.mathPlain rfl (by decide +kernel)) ?_
 intro p e s m below meth c s₁ S0 Bd hZ hh hx hby hml hown hnm X0 e0 hS0d
 obtain ⟨O1, P1, O3f, rG3, Sg1, Dg1, Sg2, Dg2, hLT, OU, rU, OS, rS⟩ := id HG
 have N0 := Fr.nil n0
 have C0 : Steps p.tables e below S0 (s₁.setTop (mkF m 0 #[VI a, VI b] [])) := by rw [hS0d]; exact castTop (ef_156 m a b) (Steps.refl _)
 have C_1 : Steps p.tables e below S0 (s₁.setTop (mkF m 10 #[VI a, VI b] [(.int a)])) := by
  refine C0.trans ?_
  refine XS.iloadN X0.here hx rfl (hb hby d18_0) rfl ?_
  refine XS.iloadN X0.here hx rfl (hb hby d18_1) rfl ?_
  refine XS.icmpNo X0.here hx rfl (hb hby d18_2) rfl (ii_gt_f h) ?_
  refine XS.iloadN X0.here hx rfl (hb hby d18_5) rfl ?_
  refine XS.goto X0.here hx rfl (pc0 := 6) (pc' := 10) rfl (hb hby d18_6) (by decide) (by decide) ?_
  exact Steps.refl _
 obtain ⟨fs, hr, hrun, hended, hW, hsame⟩ := X0.leave (v := some (.int a)) (fun h => by rw [Bd.returns] at h; cases h)
 refine ⟨_, _, C_1.trans (retOut X0 hx Bd.returns rfl (Or.inl ⟨rfl, Or.inl rfl, _, rfl⟩) (hb hby d18_10) hr), hrun, hended, _, _, rfl, ?_, ⟨_, rfl⟩, hW, hsame.mono (by decide) (by decide)⟩
 show Q_minL Z G1 G3 g1 kg1 g2 kg2 uS sS a b h0 n0 (some (.int a)) s₁.heap _
 rw [e0]
 exact ⟨rfl, N0, rfl⟩
theorem d18_9 : decode jdk_29_method_69_code 9 = .ok (.iload_n 1, 1) := by decide +kernel
abbrev R_minR : Room := { frames := 0, cells := 0, slots := 0, locals := 0 }
def Q_minR (Z : State) (G1 : Int32) (G3 : Value) (g1 : Addr) (kg1 : ClassId) (g2 : Addr) (kg2 : ClassId) (uS : Value) (sS : Value) (a : Int32) (b : Int32) (h0 : Heap) (n0 : Nat) (v : Option Value) (h : Heap) (L : List Loc) : Prop := (v = some (.int b) ∧ Fr n0 L ∧ h = h0)
theorem rm_minR (l : Launch) (Z : State) (a0 : Array Value) (hw : HW Z a0) (ws : List Jvm.Cond) (G1 : Int32) (G3 : Value) (g1 : Addr) (kg1 : ClassId) (g2 : Addr) (kg2 : ClassId) (uS : Value) (sS : Value) (HG : own_G l Z a0 G1 G3 g1 kg1 g2 kg2 uS sS) (h0 : Heap) (n0 : Nat) (X00 : Old Z n0 h0) (a : Int32) (b : Int32) (h : b < a) :
  own_CP l Z M312 jdk_29_method_69_code 2 (some .int) ws R_minR #[(.int a), (.int b)] h0 (Q_minR Z G1 G3 g1 kg1 g2 kg2 uS sS a b h0 n0) := by
 refine own_P (Jvm.Free.JP.mathPlain rfl (by decide +kernel)) ?_
 intro p e s m below meth c s₁ S0 Bd hZ hh hx hby hml hown hnm X0 e0 hS0d
 obtain ⟨O1, P1, O3f, rG3, Sg1, Dg1, Sg2, Dg2, hLT, OU, rU, OS, rS⟩ := id HG
 have N0 := Fr.nil n0
 have C0 : Steps p.tables e below S0 (s₁.setTop (mkF m 0 #[VI a, VI b] [])) := by rw [hS0d]; exact castTop (ef_156 m a b) (Steps.refl _)
 have C_1 : Steps p.tables e below S0 (s₁.setTop (mkF m 10 #[VI a, VI b] [(.int b)])) := by
  refine C0.trans ?_
  refine XS.iloadN X0.here hx rfl (hb hby d18_0) rfl ?_
  refine XS.iloadN X0.here hx rfl (hb hby d18_1) rfl ?_
  refine XS.icmpYes X0.here hx rfl (pc0 := 2) (pc' := 9) rfl (hb hby d18_2) rfl (ii_gt_t h) (by decide) (by decide) ?_
  refine XS.iloadN X0.here hx rfl (hb hby d18_9) rfl ?_
  exact Steps.refl _
 obtain ⟨fs, hr, hrun, hended, hW, hsame⟩ := X0.leave (v := some (.int b)) (fun h => by rw [Bd.returns] at h; cases h)
 refine ⟨_, _, C_1.trans (retOut X0 hx Bd.returns rfl (Or.inl ⟨rfl, Or.inl rfl, _, rfl⟩) (hb hby d18_10) hr), hrun, hended, _, _, rfl, ?_, ⟨_, rfl⟩, hW, hsame.mono (by decide) (by decide)⟩
 show Q_minR Z G1 G3 g1 kg1 g2 kg2 uS sS a b h0 n0 (some (.int b)) s₁.heap _
 rw [e0]
 exact ⟨rfl, N0, rfl⟩
abbrev M320 : MethodName := ⟨"java/lang/Math", "max", "(II)I"⟩
theorem d19_0 : decode jdk_29_method_65_code 0 = .ok (.iload_n 0, 1) := by decide +kernel
theorem d19_1 : decode jdk_29_method_65_code 1 = .ok (.iload_n 1, 1) := by decide +kernel
theorem d19_2 : decode jdk_29_method_65_code 2 = .ok (.if_icmp .lt 7, 3) := by decide +kernel
theorem d19_5 : decode jdk_29_method_65_code 5 = .ok (.iload_n 0, 1) := by decide +kernel
theorem d19_6 : decode jdk_29_method_65_code 6 = .ok (.goto 4, 3) := by decide +kernel
theorem d19_10 : decode jdk_29_method_65_code 10 = .ok (.ireturn, 1) := by decide +kernel
abbrev R_maxL : Room := { frames := 0, cells := 0, slots := 0, locals := 0 }
def Q_maxL (Z : State) (G1 : Int32) (G3 : Value) (g1 : Addr) (kg1 : ClassId) (g2 : Addr) (kg2 : ClassId) (uS : Value) (sS : Value) (a : Int32) (b : Int32) (h0 : Heap) (n0 : Nat) (v : Option Value) (h : Heap) (L : List Loc) : Prop := (v = some (.int a) ∧ Fr n0 L ∧ h = h0)
theorem rm_maxL (l : Launch) (Z : State) (a0 : Array Value) (hw : HW Z a0) (ws : List Jvm.Cond) (G1 : Int32) (G3 : Value) (g1 : Addr) (kg1 : ClassId) (g2 : Addr) (kg2 : ClassId) (uS : Value) (sS : Value) (HG : own_G l Z a0 G1 G3 g1 kg1 g2 kg2 uS sS) (h0 : Heap) (n0 : Nat) (X00 : Old Z n0 h0) (a : Int32) (b : Int32) (h : ¬ (a < b)) :
  own_CP l Z M320 jdk_29_method_65_code 2 (some .int) ws R_maxL #[(.int a), (.int b)] h0 (Q_maxL Z G1 G3 g1 kg1 g2 kg2 uS sS a b h0 n0) := by
 refine own_P (Jvm.Free.JP.mathPlain rfl (by decide +kernel)) ?_
 intro p e s m below meth c s₁ S0 Bd hZ hh hx hby hml hown hnm X0 e0 hS0d
 obtain ⟨O1, P1, O3f, rG3, Sg1, Dg1, Sg2, Dg2, hLT, OU, rU, OS, rS⟩ := id HG
 have N0 := Fr.nil n0
 have C0 : Steps p.tables e below S0 (s₁.setTop (mkF m 0 #[VI a, VI b] [])) := by rw [hS0d]; exact castTop (ef_156 m a b) (Steps.refl _)
 have C_1 : Steps p.tables e below S0 (s₁.setTop (mkF m 10 #[VI a, VI b] [(.int a)])) := by
  refine C0.trans ?_
  refine XS.iloadN X0.here hx rfl (hb hby d19_0) rfl ?_
  refine XS.iloadN X0.here hx rfl (hb hby d19_1) rfl ?_
  refine XS.icmpNo X0.here hx rfl (hb hby d19_2) rfl (ii_lt_f h) ?_
  refine XS.iloadN X0.here hx rfl (hb hby d19_5) rfl ?_
  refine XS.goto X0.here hx rfl (pc0 := 6) (pc' := 10) rfl (hb hby d19_6) (by decide) (by decide) ?_
  exact Steps.refl _
 obtain ⟨fs, hr, hrun, hended, hW, hsame⟩ := X0.leave (v := some (.int a)) (fun h => by rw [Bd.returns] at h; cases h)
 refine ⟨_, _, C_1.trans (retOut X0 hx Bd.returns rfl (Or.inl ⟨rfl, Or.inl rfl, _, rfl⟩) (hb hby d19_10) hr), hrun, hended, _, _, rfl, ?_, ⟨_, rfl⟩, hW, hsame.mono (by decide) (by decide)⟩
 show Q_maxL Z G1 G3 g1 kg1 g2 kg2 uS sS a b h0 n0 (some (.int a)) s₁.heap _
 rw [e0]
 exact ⟨rfl, N0, rfl⟩
theorem d19_9 : decode jdk_29_method_65_code 9 = .ok (.iload_n 1, 1) := by decide +kernel
abbrev R_maxR : Room := { frames := 0, cells := 0, slots := 0, locals := 0 }
def Q_maxR (Z : State) (G1 : Int32) (G3 : Value) (g1 : Addr) (kg1 : ClassId) (g2 : Addr) (kg2 : ClassId) (uS : Value) (sS : Value) (a : Int32) (b : Int32) (h0 : Heap) (n0 : Nat) (v : Option Value) (h : Heap) (L : List Loc) : Prop := (v = some (.int b) ∧ Fr n0 L ∧ h = h0)
theorem rm_maxR (l : Launch) (Z : State) (a0 : Array Value) (hw : HW Z a0) (ws : List Jvm.Cond) (G1 : Int32) (G3 : Value) (g1 : Addr) (kg1 : ClassId) (g2 : Addr) (kg2 : ClassId) (uS : Value) (sS : Value) (HG : own_G l Z a0 G1 G3 g1 kg1 g2 kg2 uS sS) (h0 : Heap) (n0 : Nat) (X00 : Old Z n0 h0) (a : Int32) (b : Int32) (h : a < b) :
  own_CP l Z M320 jdk_29_method_65_code 2 (some .int) ws R_maxR #[(.int a), (.int b)] h0 (Q_maxR Z G1 G3 g1 kg1 g2 kg2 uS sS a b h0 n0) := by
 refine own_P (Jvm.Free.JP.mathPlain rfl (by decide +kernel)) ?_
 intro p e s m below meth c s₁ S0 Bd hZ hh hx hby hml hown hnm X0 e0 hS0d
 obtain ⟨O1, P1, O3f, rG3, Sg1, Dg1, Sg2, Dg2, hLT, OU, rU, OS, rS⟩ := id HG
 have N0 := Fr.nil n0
 have C0 : Steps p.tables e below S0 (s₁.setTop (mkF m 0 #[VI a, VI b] [])) := by rw [hS0d]; exact castTop (ef_156 m a b) (Steps.refl _)
 have C_1 : Steps p.tables e below S0 (s₁.setTop (mkF m 10 #[VI a, VI b] [(.int b)])) := by
  refine C0.trans ?_
  refine XS.iloadN X0.here hx rfl (hb hby d19_0) rfl ?_
  refine XS.iloadN X0.here hx rfl (hb hby d19_1) rfl ?_
  refine XS.icmpYes X0.here hx rfl (pc0 := 2) (pc' := 9) rfl (hb hby d19_2) rfl (ii_lt_t h) (by decide) (by decide) ?_
  refine XS.iloadN X0.here hx rfl (hb hby d19_9) rfl ?_
  exact Steps.refl _
 obtain ⟨fs, hr, hrun, hended, hW, hsame⟩ := X0.leave (v := some (.int b)) (fun h => by rw [Bd.returns] at h; cases h)
 refine ⟨_, _, C_1.trans (retOut X0 hx Bd.returns rfl (Or.inl ⟨rfl, Or.inl rfl, _, rfl⟩) (hb hby d19_10) hr), hrun, hended, _, _, rfl, ?_, ⟨_, rfl⟩, hW, hsame.mono (by decide) (by decide)⟩
 show Q_maxR Z G1 G3 g1 kg1 g2 kg2 uS sS a b h0 n0 (some (.int b)) s₁.heap _
 rw [e0]
 exact ⟨rfl, N0, rfl⟩
abbrev M328 : MethodName := ⟨"jdk/internal/util/ArraysSupport", "newLength", "(III)I"⟩
theorem ef_329 (m : MethodId) (x0 : Int32) (x1 : Int32) (x2 : Int32) : entryFrame m #[(.int x0), (.int x1), (.int x2)] 4 = mkF m 0 #[VI x0, VI x1, VI x2, .unset] [] := by first | (simp [entryFrame, mkF, argsToLocals, Value.category]; done) | rfl
theorem pn_330 : plainName "jdk/internal/util/ArraysSupport" = true := by first | (simp [plainName, overriddenIn]; done) | decide +kernel
theorem d20_0 : decode jdk_48_method_27_code 0 = .ok (.iload_n 0, 1) := by decide +kernel
theorem d20_1 : decode jdk_48_method_27_code 1 = .ok (.iload_n 1, 1) := by decide +kernel
theorem d20_2 : decode jdk_48_method_27_code 2 = .ok (.iload_n 2, 1) := by decide +kernel
theorem w296 {Z a0} (hw : HW Z a0) : Cond.before (Cond.code (⟨"java/lang/Math", "max", "(II)I"⟩ : MethodName) jdk_29_method_65_code (2 : Nat) (Option.some FieldType.int)) a0 Z = true := hw _ (List.mem_of_getElem? (i := 296) rfl)
theorem w178 {Z a0} (hw : HW Z a0) : Cond.before (Cond.initialized "java/lang/Math") a0 Z = true := hw _ (List.mem_of_getElem? (i := 178) rfl)
theorem pd_336 : parseMethodDescriptor "(II)I" = some ⟨[.int, .int], some .int⟩ := by decide +kernel
theorem d20_3 : decode jdk_48_method_27_code 3 = .ok (.invokestatic 194, 3) := by decide +kernel
theorem w294 {Z a0} (hw : HW Z a0) : Cond.before (Cond.methodLink "jdk/internal/util/ArraysSupport" (194 : Nat) (⟨"java/lang/Math", "max", "(II)I"⟩ : MethodName)) a0 Z = true := hw _ (List.mem_of_getElem? (i := 294) rfl)
theorem w295 {Z a0} (hw : HW Z a0) : Cond.before (Cond.static (⟨"java/lang/Math", "max", "(II)I"⟩ : MethodName)) a0 Z = true := hw _ (List.mem_of_getElem? (i := 295) rfl)
theorem d20_6 : decode jdk_48_method_27_code 6 = .ok (.iadd, 1) := by decide +kernel
theorem d20_7 : decode jdk_48_method_27_code 7 = .ok (.istore_n 3, 1) := by decide +kernel
theorem d20_8 : decode jdk_48_method_27_code 8 = .ok (.iconst 0, 1) := by decide +kernel
theorem d20_9 : decode jdk_48_method_27_code 9 = .ok (.iload_n 3, 1) := by decide +kernel
theorem d20_10 : decode jdk_48_method_27_code 10 = .ok (.if_icmp .ge 11, 3) := by decide +kernel
theorem d20_13 : decode jdk_48_method_27_code 13 = .ok (.iload_n 3, 1) := by decide +kernel
theorem w297 {Z a0} (hw : HW Z a0) : Cond.before (Cond.constant "jdk/internal/util/ArraysSupport" (200 : Nat) (2147483639 : Int32)) a0 Z = true := hw _ (List.mem_of_getElem? (i := 297) rfl)
theorem d20_14 : decode jdk_48_method_27_code 14 = .ok (.ldc 200, 2) := by decide +kernel
theorem d20_16 : decode jdk_48_method_27_code 16 = .ok (.if_icmp .gt 5, 3) := by decide +kernel
theorem d20_19 : decode jdk_48_method_27_code 19 = .ok (.iload_n 3, 1) := by decide +kernel
theorem d20_20 : decode jdk_48_method_27_code 20 = .ok (.ireturn, 1) := by decide +kernel
abbrev R_nlen : Room := { frames := 1, cells := 0, slots := 0, locals := 14 }
def Q_nlen (Z : State) (G1 : Int32) (G3 : Value) (g1 : Addr) (kg1 : ClassId) (g2 : Addr) (kg2 : ClassId) (uS : Value) (sS : Value)  (h0 : Heap) (n0 : Nat) (v : Option Value) (h : Heap) (L : List Loc) : Prop := (v = some (.int 34) ∧ Fr n0 L ∧ h = h0)
theorem rm_nlen (l : Launch) (Z : State) (a0 : Array Value) (hw : HW Z a0) (ws : List Jvm.Cond) (G1 : Int32) (G3 : Value) (g1 : Addr) (kg1 : ClassId) (g2 : Addr) (kg2 : ClassId) (uS : Value) (sS : Value) (HG : own_G l Z a0 G1 G3 g1 kg1 g2 kg2 uS sS) (h0 : Heap) (n0 : Nat) (X00 : Old Z n0 h0)   :
  own_CP l Z M328 jdk_48_method_27_code 4 (some .int) ws R_nlen #[(.int 16), (.int 1), (.int 18)] h0 (Q_nlen Z G1 G3 g1 kg1 g2 kg2 uS sS  h0 n0) := by
 refine own_P (plainFor_of_name pn_330) ?_
 intro p e s m below meth c s₁ S0 Bd hZ hh hx hby hml hown hnm X0 e0 hS0d
 obtain ⟨O1, P1, O3f, rG3, Sg1, Dg1, Sg2, Dg2, hLT, OU, rU, OS, rS⟩ := id HG
 have N0 := Fr.nil n0
 have C0 : Steps p.tables e below S0 (s₁.setTop (mkF m 0 #[VI 16, VI 1, VI 18, .unset] [])) := by rw [hS0d]; exact castTop (ef_329 m (16 : Int32) (1 : Int32) (18 : Int32)) (Steps.refl _)
 obtain ⟨_, _, ⟨T_1, L_1, k_1, n_1⟩, -, X_1, ⟨Lc_1, hQ_1, l_1, y_1, z_1⟩, st_1⟩ := Jvm.LawKit.callS X0 hx (y := M320) hown (mvT hZ (w294 hw)) (mvT hZ (w295 hw)) (mvT hZ (w178 hw)) (mvT hZ (w296 hw)) (by decide) (backOf (W := 1) (rm_maxR l Z a0 hw [] G1 G3 g1 kg1 g2 kg2 uS sS HG h0 n0 X00 (1 : Int32) (18 : Int32) (by decide)) hZ (w296 hw) (w178 hw) (by decide) (by decide)) (g := (mkF m 3 #[VI 16, VI 1, VI 18, .unset] [(.int 18), (.int 1), (.int 16)])) rfl (by rw [hml]; rfl) (argsL := [(.int 1), (.int 18)]) (rest := [(.int 16)]) (lenOf pd_336 rfl) rfl (by show 2 * 0 + _ ≤ _; exact Nat.le_of_eq rfl) (hb hby d20_3) (fun _ _ => ⟨rfl, e0, (by decide : 0 + 0 ≤ _), (by decide : 0 + 0 ≤ _)⟩)
 dsimp only [Pt.U, Pt.locs, Pt.cells, Pt.slots] at X_1 l_1 y_1 z_1 st_1 hQ_1
 have X_1 := own_cast X_1 l_1 y_1 z_1
 obtain ⟨rfl, N_2, e_3⟩ := hQ_1
 have N_4 := Fr.app N0 N_2
 have e_5 : T_1.heap = h0 := e_3
 have C_6 : Steps p.tables e below S0 (T_1.setTop (mkF m 20 #[VI 16, VI 1, VI 18, VI 34] [(.int 34)])) := by
  refine C0.trans ?_
  refine XS.iloadN X0.here hx rfl (hb hby d20_0) rfl ?_
  refine XS.iloadN X0.here hx rfl (hb hby d20_1) rfl ?_
  refine XS.iloadN X0.here hx rfl (hb hby d20_2) rfl ?_
  refine st_1 _ ?_
  refine XS.iadd X_1.here hx rfl (hb hby d20_6) rfl ?_
  refine XS.istoreN X_1.here hx rfl (hb hby d20_7) rfl (l' := #[VI 16, VI 1, VI 18, VI 34]) rfl ?_
  refine XS.iconst X_1.here hx rfl (hb hby d20_8) ?_
  refine XS.iloadN X_1.here hx rfl (hb hby d20_9) rfl ?_
  show Steps p.tables e below (T_1.setTop (mkF m 10 #[VI 16, VI 1, VI 18, VI 34] [(.int 34), (.int 0)])) _
  refine XS.icmpNo X_1.here hx rfl (hb hby d20_10) rfl (by decide) ?_
  refine XS.iloadN X_1.here hx rfl (hb hby d20_13) rfl ?_
  refine X_1.ldcI hx hown (mvT hZ (w297 hw)) rfl (hb hby d20_14) ?_
  refine XS.icmpNo X_1.here hx rfl (hb hby d20_16) rfl (by decide) ?_
  refine XS.iloadN X_1.here hx rfl (hb hby d20_19) rfl ?_
  exact Steps.refl _
 obtain ⟨fs, hr, hrun, hended, hW, hsame⟩ := X_1.leave (v := some (.int 34)) (fun h => by rw [Bd.returns] at h; cases h)
 refine ⟨_, _, C_6.trans (retOut X_1 hx Bd.returns rfl (Or.inl ⟨rfl, Or.inl rfl, _, rfl⟩) (hb hby d20_20) hr), hrun, hended, _, _, rfl, ?_, ⟨_, rfl⟩, hW, hsame.mono (by decide) (by decide)⟩
 show Q_nlen Z G1 G3 g1 kg1 g2 kg2 uS sS  h0 n0 (some (.int 34)) T_1.heap _
 rw [e_5]
 exact ⟨rfl, N_4, rfl⟩
abbrev M351 : MethodName := ⟨"java/lang/AbstractStringBuilder", "newCapacity", "(I)I"⟩
theorem ef_352 (m : MethodId) (x0 : Addr) (x1 : Int32) : entryFrame m #[(.ref x0), (.int x1)] 6 = mkF m 0 #[VR x0, VI x1, .unset, .unset, .unset, .unset] [] := by first | (simp [entryFrame, mkF, argsToLocals, Value.category]; done) | rfl
theorem d21_0 : decode jdk_68_method_10_code 0 = .ok (.aload_n 0, 1) := by decide +kernel
theorem d21_1 : decode jdk_68_method_10_code 1 = .ok (.getfield 15, 3) := by decide +kernel
theorem d21_4 : decode jdk_68_method_10_code 4 = .ok (.arraylength, 1) := by decide +kernel
theorem d21_5 : decode jdk_68_method_10_code 5 = .ok (.istore_n 2, 1) := by decide +kernel
theorem d21_6 : decode jdk_68_method_10_code 6 = .ok (.iload_n 1, 1) := by decide +kernel
theorem d21_7 : decode jdk_68_method_10_code 7 = .ok (.aload_n 0, 1) := by decide +kernel
theorem d21_8 : decode jdk_68_method_10_code 8 = .ok (.getfield 22, 3) := by decide +kernel
theorem d21_11 : decode jdk_68_method_10_code 11 = .ok (.ishl, 1) := by decide +kernel
theorem d21_12 : decode jdk_68_method_10_code 12 = .ok (.istore_n 3, 1) := by decide +kernel
theorem d21_13 : decode jdk_68_method_10_code 13 = .ok (.iload_n 3, 1) := by decide +kernel
theorem d21_14 : decode jdk_68_method_10_code 14 = .ok (.iload_n 2, 1) := by decide +kernel
theorem d21_15 : decode jdk_68_method_10_code 15 = .ok (.isub, 1) := by decide +kernel
theorem d21_16 : decode jdk_68_method_10_code 16 = .ok (.istore 4, 2) := by decide +kernel
theorem d21_18 : decode jdk_68_method_10_code 18 = .ok (.iload_n 2, 1) := by decide +kernel
theorem d21_19 : decode jdk_68_method_10_code 19 = .ok (.iload 4, 2) := by decide +kernel
theorem d21_21 : decode jdk_68_method_10_code 21 = .ok (.iload_n 2, 1) := by decide +kernel
theorem d21_22 : decode jdk_68_method_10_code 22 = .ok (.iconst 2, 1) := by decide +kernel
theorem d21_23 : decode jdk_68_method_10_code 23 = .ok (.aload_n 0, 1) := by decide +kernel
theorem d21_24 : decode jdk_68_method_10_code 24 = .ok (.getfield 22, 3) := by decide +kernel
theorem d21_27 : decode jdk_68_method_10_code 27 = .ok (.ishl, 1) := by decide +kernel
theorem d21_28 : decode jdk_68_method_10_code 28 = .ok (.iadd, 1) := by decide +kernel
theorem w293 {Z a0} (hw : HW Z a0) : Cond.before (Cond.code (⟨"jdk/internal/util/ArraysSupport", "newLength", "(III)I"⟩ : MethodName) jdk_48_method_27_code (4 : Nat) (Option.some FieldType.int)) a0 Z = true := hw _ (List.mem_of_getElem? (i := 293) rfl)
theorem w292 {Z a0} (hw : HW Z a0) : Cond.before (Cond.initialized "jdk/internal/util/ArraysSupport") a0 Z = true := hw _ (List.mem_of_getElem? (i := 292) rfl)
theorem pd_376 : parseMethodDescriptor "(III)I" = some ⟨[.int, .int, .int], some .int⟩ := by decide +kernel
theorem d21_29 : decode jdk_68_method_10_code 29 = .ok (.invokestatic 114, 3) := by decide +kernel
theorem w290 {Z a0} (hw : HW Z a0) : Cond.before (Cond.methodLink "java/lang/AbstractStringBuilder" (114 : Nat) (⟨"jdk/internal/util/ArraysSupport", "newLength", "(III)I"⟩ : MethodName)) a0 Z = true := hw _ (List.mem_of_getElem? (i := 290) rfl)
theorem w291 {Z a0} (hw : HW Z a0) : Cond.before (Cond.static (⟨"jdk/internal/util/ArraysSupport", "newLength", "(III)I"⟩ : MethodName)) a0 Z = true := hw _ (List.mem_of_getElem? (i := 291) rfl)
theorem d21_32 : decode jdk_68_method_10_code 32 = .ok (.istore 5, 2) := by decide +kernel
theorem d21_34 : decode jdk_68_method_10_code 34 = .ok (.iload 5, 2) := by decide +kernel
theorem w298 {Z a0} (hw : HW Z a0) : Cond.before (Cond.constant "java/lang/AbstractStringBuilder" (39 : Nat) (2147483647 : Int32)) a0 Z = true := hw _ (List.mem_of_getElem? (i := 298) rfl)
theorem d21_36 : decode jdk_68_method_10_code 36 = .ok (.ldc 39, 2) := by decide +kernel
theorem d21_38 : decode jdk_68_method_10_code 38 = .ok (.if_icmp .ne 13, 3) := by decide +kernel
theorem d21_51 : decode jdk_68_method_10_code 51 = .ok (.iload 5, 2) := by decide +kernel
theorem d21_53 : decode jdk_68_method_10_code 53 = .ok (.aload_n 0, 1) := by decide +kernel
theorem d21_54 : decode jdk_68_method_10_code 54 = .ok (.getfield 22, 3) := by decide +kernel
theorem d21_57 : decode jdk_68_method_10_code 57 = .ok (.ishr, 1) := by decide +kernel
theorem d21_58 : decode jdk_68_method_10_code 58 = .ok (.ireturn, 1) := by decide +kernel
abbrev R_ncap : Room := { frames := 2, cells := 0, slots := 0, locals := 29 }
def Q_ncap (Z : State) (G1 : Int32) (G3 : Value) (g1 : Addr) (kg1 : ClassId) (g2 : Addr) (kg2 : ClassId) (uS : Value) (sS : Value) (sb : Addr) (vv : Addr) (kv : ClassId) (ys : List Value) (h0 : Heap) (n0 : Nat) (v : Option Value) (h : Heap) (L : List Loc) : Prop := (v = some (.int 34) ∧ Fr n0 L ∧ h = h0)
theorem rm_ncap (l : Launch) (Z : State) (a0 : Array Value) (hw : HW Z a0) (ws : List Jvm.Cond) (G1 : Int32) (G3 : Value) (g1 : Addr) (kg1 : ClassId) (g2 : Addr) (kg2 : ClassId) (uS : Value) (sS : Value) (HG : own_G l Z a0 G1 G3 g1 kg1 g2 kg2 uS sS) (h0 : Heap) (n0 : Nat) (X00 : Old Z n0 h0) (sb : Addr) (vv : Addr) (kv : ClassId) (ys : List Value) (hp0 : Fld Z h0 sb "java/lang/AbstractStringBuilder" "value" "[B" (.ref vv)) (hp1 : Fld Z h0 sb "java/lang/AbstractStringBuilder" "coder" "B" (.int 0)) (hp2 : Arv Z h0 vv kv .byte (16 : Int32) ys (.int 0)) :
  own_CP l Z M351 jdk_68_method_10_code 6 (some .int) ws R_ncap #[(.ref sb), (.int 17)] h0 (Q_ncap Z G1 G3 g1 kg1 g2 kg2 uS sS sb vv kv ys h0 n0) := by
 refine own_P (plainFor_of_name pn_207) ?_
 intro p e s m below meth c s₁ S0 Bd hZ hh hx hby hml hown hnm X0 e0 hS0d
 obtain ⟨O1, P1, O3f, rG3, Sg1, Dg1, Sg2, Dg2, hLT, OU, rU, OS, rS⟩ := id HG
 have N0 := Fr.nil n0
 have C0 : Steps p.tables e below S0 (s₁.setTop (mkF m 0 #[VR sb, VI 17, .unset, .unset, .unset, .unset] [])) := by rw [hS0d]; exact castTop (ef_352 m sb (17 : Int32)) (Steps.refl _)
 obtain ⟨T_1, X_2, e_3, st_4⟩ := getF X0 hx hZ hown (host := "") (Or.inl (w64 hw)) Via.refl e0 hp0 (g := (mkF m 1 #[VR sb, VI 17, .unset, .unset, .unset, .unset] [(.ref sb)])) rfl rfl (hb hby d21_1)
 obtain ⟨c_5, A_6, q_7, S_8, M_9, H_10, U_11⟩ := id hp2
 obtain ⟨T_12, X_13, e_14, st_15⟩ := getF X_2 hx hZ hown (host := "") (Or.inl (w66 hw)) Via.refl e_3 hp1 (g := (mkF m 8 #[VR sb, VI 17, VI 16, .unset, .unset, .unset] [(.ref sb), (.int 17)])) rfl rfl (hb hby d21_8)
 obtain ⟨T_16, X_17, e_18, st_19⟩ := getF X_13 hx hZ hown (host := "") (Or.inl (w66 hw)) Via.refl e_14 hp1 (g := (mkF m 24 #[VR sb, VI 17, VI 16, VI 17, VI 1, .unset] [(.ref sb), (.int 2), (.int 16), (.int 1), (.int 16)])) rfl rfl (hb hby d21_24)
 obtain ⟨_, _, ⟨T_20, L_20, k_20, n_20⟩, -, X_20, ⟨Lc_20, hQ_20, l_20, y_20, z_20⟩, st_20⟩ := Jvm.LawKit.callS X_17 hx (y := M328) hown (mvT hZ (w290 hw)) (mvT hZ (w291 hw)) (mvT hZ (w292 hw)) (mvT hZ (w293 hw)) (by decide) (backOf (W := 0) (rm_nlen l Z a0 hw [] G1 G3 g1 kg1 g2 kg2 uS sS HG h0 n0 X00  ) hZ (w293 hw) (w292 hw) (by decide) (by decide)) (g := (mkF m 29 #[VR sb, VI 17, VI 16, VI 17, VI 1, .unset] [(.int 18), (.int 1), (.int 16)])) rfl (by rw [hml]; rfl) (argsL := [(.int 16), (.int 1), (.int 18)]) (rest := []) (lenOf pd_376 rfl) rfl (by show 2 * 0 + _ ≤ _; exact Nat.le_of_eq rfl) (hb hby d21_29) (fun _ _ => ⟨rfl, e_18, (by decide : 0 + 0 ≤ _), (by decide : 0 + 0 ≤ _)⟩)
 dsimp only [Pt.U, Pt.locs, Pt.cells, Pt.slots] at X_20 l_20 y_20 z_20 st_20 hQ_20
 have X_20 := own_cast X_20 l_20 y_20 z_20
 obtain ⟨rfl, N_21, e_22⟩ := hQ_20
 have N_23 := Fr.app N0 N_21
 have e_24 : T_20.heap = h0 := e_22
 obtain ⟨T_25, X_26, e_27, st_28⟩ := getF X_20 hx hZ hown (host := "") (Or.inl (w66 hw)) Via.refl e_24 hp1 (g := (mkF m 54 #[VR sb, VI 17, VI 16, VI 17, VI 1, VI 34] [(.ref sb), (.int 34)])) rfl rfl (hb hby d21_54)
 have C_29 : Steps p.tables e below S0 (T_25.setTop (mkF m 58 #[VR sb, VI 17, VI 16, VI 17, VI 1, VI 34] [(.int 34)])) := by
  refine C0.trans ?_
  refine XS.aloadN X0.here hx rfl (hb hby d21_0) rfl rfl ?_
  refine st_4 _ ?_
  refine X_2.arraylength hx (by rw [e_3]; exact A_6.1) (State.isArrayOf_alike hZ.alike A_6.2.1) (g := (mkF m 4 #[VR sb, VI 17, .unset, .unset, .unset, .unset] [(.ref vv)])) rfl rfl (hb hby d21_4) _ ?_
  rw [len_of S_8 M_9]
  refine XS.istoreN X_2.here hx rfl (hb hby d21_5) rfl (l' := #[VR sb, VI 17, VI 16, .unset, .unset, .unset]) rfl ?_
  refine XS.iloadN X_2.here hx rfl (hb hby d21_6) rfl ?_
  refine XS.aloadN X_2.here hx rfl (hb hby d21_7) rfl rfl ?_
  refine st_15 _ ?_
  refine XS.ishl X_13.here hx rfl (hb hby d21_11) rfl ?_
  show Steps p.tables e below (T_12.setTop (mkF m 12 #[VR sb, VI 17, VI 16, .unset, .unset, .unset] [(.int 17)])) _
  refine XS.istoreN X_13.here hx rfl (hb hby d21_12) rfl (l' := #[VR sb, VI 17, VI 16, VI 17, .unset, .unset]) rfl ?_
  refine XS.iloadN X_13.here hx rfl (hb hby d21_13) rfl ?_
  refine XS.iloadN X_13.here hx rfl (hb hby d21_14) rfl ?_
  refine XS.isub X_13.here hx rfl (hb hby d21_15) rfl ?_
  refine XS.istore X_13.here hx rfl (hb hby d21_16) rfl (l' := #[VR sb, VI 17, VI 16, VI 17, VI 1, .unset]) rfl ?_
  refine XS.iloadN X_13.here hx rfl (hb hby d21_18) rfl ?_
  refine XS.iload X_13.here hx rfl (hb hby d21_19) rfl ?_
  refine XS.iloadN X_13.here hx rfl (hb hby d21_21) rfl ?_
  show Steps p.tables e below (T_12.setTop (mkF m 22 #[VR sb, VI 17, VI 16, VI 17, VI 1, .unset] [(.int 16), (.int 1), (.int 16)])) _
  refine XS.iconst X_13.here hx rfl (hb hby d21_22) ?_
  refine XS.aloadN X_13.here hx rfl (hb hby d21_23) rfl rfl ?_
  refine st_19 _ ?_
  refine XS.ishl X_17.here hx rfl (hb hby d21_27) rfl ?_
  refine XS.iadd X_17.here hx rfl (hb hby d21_28) rfl ?_
  refine st_20 _ ?_
  refine XS.istore X_20.here hx rfl (hb hby d21_32) rfl (l' := #[VR sb, VI 17, VI 16, VI 17, VI 1, VI 34]) rfl ?_
  refine XS.iload X_20.here hx rfl (hb hby d21_34) rfl ?_
  show Steps p.tables e below (T_20.setTop (mkF m 36 #[VR sb, VI 17, VI 16, VI 17, VI 1, VI 34] [(.int 34)])) _
  refine X_20.ldcI hx hown (mvT hZ (w298 hw)) rfl (hb hby d21_36) ?_
  refine XS.icmpYes X_20.here hx rfl (pc0 := 38) (pc' := 51) rfl (hb hby d21_38) rfl (by decide) (by decide) (by decide) ?_
  refine XS.iload X_20.here hx rfl (hb hby d21_51) rfl ?_
  refine XS.aloadN X_20.here hx rfl (hb hby d21_53) rfl rfl ?_
  refine st_28 _ ?_
  refine XS.ishr X_26.here hx rfl (hb hby d21_57) rfl ?_
  exact Steps.refl _
 obtain ⟨fs, hr, hrun, hended, hW, hsame⟩ := X_26.leave (v := some (.int 34)) (fun h => by rw [Bd.returns] at h; cases h)
 refine ⟨_, _, C_29.trans (retOut X_26 hx Bd.returns rfl (Or.inl ⟨rfl, Or.inl rfl, _, rfl⟩) (hb hby d21_58) hr), hrun, hended, _, _, rfl, ?_, ⟨_, rfl⟩, hW, hsame.mono (by decide) (by decide)⟩
 show Q_ncap Z G1 G3 g1 kg1 g2 kg2 uS sS sb vv kv ys h0 n0 (some (.int 34)) T_25.heap _
 rw [e_27]
 exact ⟨rfl, N_23, rfl⟩
abbrev M390 : MethodName := ⟨"java/util/Arrays", "copyOf", "([BI)[B"⟩
theorem pn_391 : plainName "java/util/Arrays" = true := by first | (simp [plainName, overriddenIn]; done) | decide +kernel
theorem d22_0 : decode jdk_65_method_121_code 0 = .ok (.iload_n 1, 1) := by decide +kernel
theorem d22_1 : decode jdk_65_method_121_code 1 = .ok (.aload_n 0, 1) := by decide +kernel
theorem d22_2 : decode jdk_65_method_121_code 2 = .ok (.arraylength, 1) := by decide +kernel
theorem d22_3 : decode jdk_65_method_121_code 3 = .ok (.if_icmp .ne 11, 3) := by decide +kernel
theorem d22_14 : decode jdk_65_method_121_code 14 = .ok (.iload_n 1, 1) := by decide +kernel
theorem d22_15 : decode jdk_65_method_121_code 15 = .ok (.newarray .byte, 2) := by decide +kernel
theorem d22_17 : decode jdk_65_method_121_code 17 = .ok (.astore_n 2, 1) := by decide +kernel
theorem d22_18 : decode jdk_65_method_121_code 18 = .ok (.aload_n 0, 1) := by decide +kernel
theorem d22_19 : decode jdk_65_method_121_code 19 = .ok (.iconst 0, 1) := by decide +kernel
theorem d22_20 : decode jdk_65_method_121_code 20 = .ok (.aload_n 2, 1) := by decide +kernel
theorem d22_21 : decode jdk_65_method_121_code 21 = .ok (.iconst 0, 1) := by decide +kernel
theorem d22_22 : decode jdk_65_method_121_code 22 = .ok (.aload_n 0, 1) := by decide +kernel
theorem d22_23 : decode jdk_65_method_121_code 23 = .ok (.arraylength, 1) := by decide +kernel
theorem d22_24 : decode jdk_65_method_121_code 24 = .ok (.iload_n 1, 1) := by decide +kernel
theorem w179 {Z a0} (hw : HW Z a0) : Cond.before (Cond.code (⟨"java/lang/Math", "min", "(II)I"⟩ : MethodName) jdk_29_method_69_code (2 : Nat) (Option.some FieldType.int)) a0 Z = true := hw _ (List.mem_of_getElem? (i := 179) rfl)
theorem d22_25 : decode jdk_65_method_121_code 25 = .ok (.invokestatic 304, 3) := by decide +kernel
theorem w176 {Z a0} (hw : HW Z a0) : Cond.before (Cond.methodLink "java/util/Arrays" (304 : Nat) (⟨"java/lang/Math", "min", "(II)I"⟩ : MethodName)) a0 Z = true := hw _ (List.mem_of_getElem? (i := 176) rfl)
theorem w177 {Z a0} (hw : HW Z a0) : Cond.before (Cond.static (⟨"java/lang/Math", "min", "(II)I"⟩ : MethodName)) a0 Z = true := hw _ (List.mem_of_getElem? (i := 177) rfl)
theorem w180 {Z a0} (hw : HW Z a0) : Cond.before (Cond.methodLink "java/util/Arrays" (150 : Nat) (⟨"java/lang/System", "arraycopy", "(Ljava/lang/Object;ILjava/lang/Object;II)V"⟩ : MethodName)) a0 Z = true := hw _ (List.mem_of_getElem? (i := 180) rfl)
theorem d22_28 : decode jdk_65_method_121_code 28 = .ok (.invokestatic 150, 3) := by decide +kernel
theorem d22_31 : decode jdk_65_method_121_code 31 = .ok (.aload_n 2, 1) := by decide +kernel
theorem d22_32 : decode jdk_65_method_121_code 32 = .ok (.areturn, 1) := by decide +kernel
abbrev R_cpof : Room := { frames := 1, cells := 1, slots := 34, locals := 18 }
def Q_cpof (Z : State) (G1 : Int32) (G3 : Value) (g1 : Addr) (kg1 : ClassId) (g2 : Addr) (kg2 : ClassId) (uS : Value) (sS : Value) (vv : Addr) (kv : ClassId) (ff : List Int32) (h0 : Heap) (n0 : Nat) (v : Option Value) (h : Heap) (L : List Loc) : Prop := (∃ w : Addr, ∃ kw : ClassId, v = some (.ref w) ∧ Fr n0 L ∧ Keep h0 h [] ∧ (h0.size ≤ w) ∧ (Exa Z h w "[B") ∧ (Arv Z h w kw .byte (34 : Int32) (own_iv (own_sb ff (34 : Int32).toNatClampNeg)) (.int 0)))
theorem rm_cpof (l : Launch) (Z : State) (a0 : Array Value) (hw : HW Z a0) (ws : List Jvm.Cond) (G1 : Int32) (G3 : Value) (g1 : Addr) (kg1 : ClassId) (g2 : Addr) (kg2 : ClassId) (uS : Value) (sS : Value) (HG : own_G l Z a0 G1 G3 g1 kg1 g2 kg2 uS sS) (h0 : Heap) (n0 : Nat) (X00 : Old Z n0 h0) (vv : Addr) (kv : ClassId) (ff : List Int32) (hp0 : Arv Z h0 vv kv .byte (16 : Int32) (own_iv (own_sb ff (16 : Int32).toNatClampNeg)) (.int 0)) (hf16 : ff.length ≤ 16) :
  own_CP l Z M390 jdk_65_method_121_code 3 (some (.array .byte)) ws R_cpof #[(.ref vv), (.int 34)] h0 (Q_cpof Z G1 G3 g1 kg1 g2 kg2 uS sS vv kv ff h0 n0) := by
 refine own_P (plainFor_of_name pn_391) ?_
 intro p e s m below meth c s₁ S0 Bd hZ hh hx hby hml hown hnm X0 e0 hS0d
 obtain ⟨O1, P1, O3f, rG3, Sg1, Dg1, Sg2, Dg2, hLT, OU, rU, OS, rS⟩ := id HG
 have N0 := Fr.nil n0
 have C0 : Steps p.tables e below S0 (s₁.setTop (mkF m 0 #[VR vv, VI 34, .unset] [])) := by rw [hS0d]; exact castTop (ef_241 m vv (34 : Int32)) (Steps.refl _)
 obtain ⟨c_1, A_2, q_3, S_4, M_5, H_6, U_7⟩ := id hp0
 obtain ⟨T_8, h_9, k_10, X_11, e_12, E_13, A_14, Ex_19, st_15⟩ := newPE (aty := .byte) X0 hx hZ (w19 hw) e0 (g := (mkF m 15 #[VR vv, VI 34, .unset] [(.int 34)])) rfl (hb hby d22_15) rfl (by decide : ¬ ((34 : Int32) < (0 : Int32))) (cap := 34) (by decide : (34 : Int32).toNatClampNeg ≤ 34) (by decide) (by decide) (by decide) (ad := "[B") (by decide)
 obtain ⟨a_16, g_17⟩ : ∃ z, z = h0.size := ⟨_, rfl⟩
 rw [← g_17] at A_14 st_15 Ex_19
 have V_20 : Arv Z h_9 a_16 k_10 .byte (34 : Int32) [] (.int 0) := Arv.new A_14 (by decide : ¬ ((34 : Int32) < (0 : Int32)))
 have V_18 : Arv Z h_9 a_16 k_10 .byte (34 : Int32) [(.int 0), (.int 0), (.int 0), (.int 0), (.int 0), (.int 0), (.int 0), (.int 0), (.int 0), (.int 0), (.int 0), (.int 0), (.int 0), (.int 0), (.int 0), (.int 0), (.int 0), (.int 0), (.int 0), (.int 0), (.int 0), (.int 0), (.int 0), (.int 0), (.int 0), (.int 0), (.int 0), (.int 0), (.int 0), (.int 0), (.int 0), (.int 0), (.int 0), (.int 0)] (.int 0) := (V_20.pad (pad_rep [] (.int 0) 34))
 have V_21 : Arv Z h_9 vv kv .byte (16 : Int32) (own_iv (own_sb ff (16 : Int32).toNatClampNeg)) (.int 0) := (hp0.ext E_13)
 obtain ⟨c_22, A_23, q_24, S_25, M_26, H_27, U_28⟩ := id V_21
 have O_29 : Old Z n0 h_9 := (X00.ext E_13)
 obtain ⟨_, _, ⟨T_30, L_30, k_30, n_30⟩, -, X_30, ⟨Lc_30, hQ_30, l_30, y_30, z_30⟩, st_30⟩ := Jvm.LawKit.callS X_11 hx (y := M312) hown (mvT hZ (w176 hw)) (mvT hZ (w177 hw)) (mvT hZ (w178 hw)) (mvT hZ (w179 hw)) (by decide) (backOf (W := 4) (rm_minL l Z a0 hw [] G1 G3 g1 kg1 g2 kg2 uS sS HG h_9 n0 O_29 (16 : Int32) (34 : Int32) (by decide)) hZ (w179 hw) (w178 hw) (by decide) (by decide)) (g := (mkF m 25 #[VR vv, VI 34, VR a_16] [(.int 34), (.int 16), (.int 0), (.ref a_16), (.int 0), (.ref vv)])) rfl (by rw [hml]; rfl) (argsL := [(.int 16), (.int 34)]) (rest := [(.int 0), (.ref a_16), (.int 0), (.ref vv)]) (lenOf pd_336 rfl) rfl (by show 2 * 0 + _ ≤ _; exact Nat.le_of_eq rfl) (hb hby d22_25) (fun _ _ => ⟨rfl, e_12, (by decide : 1 + 0 ≤ _), (by decide : 34 + 0 ≤ _)⟩)
 dsimp only [Pt.U, Pt.locs, Pt.cells, Pt.slots] at X_30 l_30 y_30 z_30 st_30 hQ_30
 have X_30 := own_cast X_30 l_30 y_30 z_30
 obtain ⟨rfl, N_31, e_32⟩ := hQ_30
 have N_33 := Fr.app N0 N_31
 have e_34 : T_30.heap = h_9 := e_32
 have V_35 : Arv Z h_9 a_16 k_10 .byte (34 : Int32) (own_iv (List.replicate 34 0)) (.int 0) := (by rw [own_z34]; exact V_18)
 obtain ⟨T_36, h_37, L_38, X_39, e_40, N_41, K_42, V_43, st_44⟩ := cpA X_30 hx hZ hown (w180 hw) (w114 hw) (w112 hw) (w113 hw) e_34 V_21 V_35 (sp := (0 : Int32)) (dp := (0 : Int32)) (nn := (16 : Int32)) (us := own_iv (own_seg (own_sb ff (16 : Int32).toNatClampNeg) (0 : Int32) (16 : Int32))) (Or.inl ⟨rfl, rfl⟩) (by decide) (by decide) (by decide) (by decide) (by decide) (own_ivseg _ _ _) (own_ivl (by rw [List.length_replicate]; decide)) N_33 (Nat.le_trans (own_n0 X00) (Nat.le_of_eq g_17.symm)) (g := (mkF m 28 #[VR vv, VI 34, VR a_16] [(.int 16), (.int 0), (.ref a_16), (.int 0), (.ref vv)])) rfl (by rw [hml]; rfl) rfl (hb hby d22_28) (by decide) (W := 0) (by show 2 * 0 + _ ≤ _; exact Nat.le_of_eq rfl) (by decide)
 have V_45 : Arv Z h_37 a_16 k_10 .byte (34 : Int32) (own_iv (own_sb ff (34 : Int32).toNatClampNeg)) (.int 0) := (by have q := own_ivcp V_43; rw [own_cpg hf16] at q; exact q)
 have C_46 : Steps p.tables e below S0 (T_36.setTop (mkF m 32 #[VR vv, VI 34, VR a_16] [(.ref a_16)])) := by
  refine C0.trans ?_
  refine XS.iloadN X0.here hx rfl (hb hby d22_0) rfl ?_
  refine XS.aloadN X0.here hx rfl (hb hby d22_1) rfl rfl ?_
  refine X0.arraylength hx (by rw [e0]; exact A_2.1) (State.isArrayOf_alike hZ.alike A_2.2.1) (g := (mkF m 2 #[VR vv, VI 34, .unset] [(.ref vv), (.int 34)])) rfl rfl (hb hby d22_2) _ ?_
  rw [len_of S_4 M_5]
  refine XS.icmpYes X0.here hx rfl (pc0 := 3) (pc' := 14) rfl (hb hby d22_3) rfl (by decide) (by decide) (by decide) ?_
  refine XS.iloadN X0.here hx rfl (hb hby d22_14) rfl ?_
  refine st_15 _ ?_
  refine XS.astoreN X_11.here hx rfl (hb hby d22_17) rfl rfl (l' := #[VR vv, VI 34, VR a_16]) rfl ?_
  refine XS.aloadN X_11.here hx rfl (hb hby d22_18) rfl rfl ?_
  show Steps p.tables e below (T_8.setTop (mkF m 19 #[VR vv, VI 34, VR a_16] [(.ref vv)])) _
  refine XS.iconst X_11.here hx rfl (hb hby d22_19) ?_
  refine XS.aloadN X_11.here hx rfl (hb hby d22_20) rfl rfl ?_
  refine XS.iconst X_11.here hx rfl (hb hby d22_21) ?_
  refine XS.aloadN X_11.here hx rfl (hb hby d22_22) rfl rfl ?_
  refine X_11.arraylength hx (by rw [e_12]; exact A_23.1) (State.isArrayOf_alike hZ.alike A_23.2.1) (g := (mkF m 23 #[VR vv, VI 34, VR a_16] [(.ref vv), (.int 0), (.ref a_16), (.int 0), (.ref vv)])) rfl rfl (hb hby d22_23) _ ?_
  rw [len_of S_25 M_26]
  refine XS.iloadN X_11.here hx rfl (hb hby d22_24) rfl ?_
  refine st_30 _ ?_
  refine st_44 _ ?_
  show Steps p.tables e below (T_36.setTop (mkF m 31 #[VR vv, VI 34, VR a_16] [])) _
  refine XS.aloadN X_39.here hx rfl (hb hby d22_31) rfl rfl ?_
  exact Steps.refl _
 have E_47 : Exa Z h_37 a_16 "[B" := (Ex_19.keep K_42)
 have K_48 : Keep h0 h_37 [] := (((Keep.refl _ _).ext E_13).trans K_42 (allS (Or.inr (Nat.le_trans (Nat.le_refl _) (Nat.le_of_eq g_17.symm))) all0))
 obtain ⟨fs, hr, hrun, hended, hW, hsame⟩ := X_39.leave (v := some (.ref a_16)) (fun h => by rw [Bd.returns] at h; cases h)
 refine ⟨_, _, C_46.trans (retOut X_39 hx Bd.returns rfl (Or.inr (Or.inr (Or.inr (Or.inr ⟨rfl, rfl, rfl⟩)))) (hb hby d22_32) hr), hrun, hended, _, _, rfl, ?_, ⟨_, rfl⟩, hW, hsame.mono (by decide) (by decide)⟩
 show Q_cpof Z G1 G3 g1 kg1 g2 kg2 uS sS vv kv ff h0 n0 (some (.ref a_16)) T_36.heap _
 rw [e_40]
 exact ⟨a_16, k_10, rfl, N_41, K_48, (Nat.le_trans (Nat.le_refl _) (Nat.le_of_eq g_17.symm)), E_47, V_45⟩
theorem d14_17 : decode jdk_68_method_9_code 17 = .ok (.aload_n 0, 1) := by decide +kernel
theorem d14_18 : decode jdk_68_method_9_code 18 = .ok (.aload_n 0, 1) := by decide +kernel
theorem d14_19 : decode jdk_68_method_9_code 19 = .ok (.getfield 15, 3) := by decide +kernel
theorem d14_22 : decode jdk_68_method_9_code 22 = .ok (.aload_n 0, 1) := by decide +kernel
theorem d14_23 : decode jdk_68_method_9_code 23 = .ok (.iload_n 1, 1) := by decide +kernel
theorem w289 {Z a0} (hw : HW Z a0) : Cond.before (Cond.code (⟨"java/lang/AbstractStringBuilder", "newCapacity", "(I)I"⟩ : MethodName) jdk_68_method_10_code (6 : Nat) (Option.some FieldType.int)) a0 Z = true := hw _ (List.mem_of_getElem? (i := 289) rfl)
theorem pd_420 : parseMethodDescriptor "(I)I" = some ⟨[.int], some .int⟩ := by decide +kernel
theorem d14_24 : decode jdk_68_method_9_code 24 = .ok (.invokevirtual 104, 3) := by decide +kernel
theorem w285 {Z a0} (hw : HW Z a0) : Cond.before (Cond.methodLink "java/lang/AbstractStringBuilder" (104 : Nat) (⟨"java/lang/AbstractStringBuilder", "newCapacity", "(I)I"⟩ : MethodName)) a0 Z = true := hw _ (List.mem_of_getElem? (i := 285) rfl)
theorem w286 {Z a0} (hw : HW Z a0) : Cond.before (Cond.instanceMethod (⟨"java/lang/AbstractStringBuilder", "newCapacity", "(I)I"⟩ : MethodName)) a0 Z = true := hw _ (List.mem_of_getElem? (i := 286) rfl)
theorem w288 {Z a0} (hw : HW Z a0) : Cond.before (Cond.selects "java/lang/StringBuilder" (⟨"java/lang/AbstractStringBuilder", "newCapacity", "(I)I"⟩ : MethodName) (⟨"java/lang/AbstractStringBuilder", "newCapacity", "(I)I"⟩ : MethodName)) a0 Z = true := hw _ (List.mem_of_getElem? (i := 288) rfl)
theorem w287 {Z a0} (hw : HW Z a0) : Cond.before (Cond.privateMethod (⟨"java/lang/AbstractStringBuilder", "newCapacity", "(I)I"⟩ : MethodName)) a0 Z = true := hw _ (List.mem_of_getElem? (i := 287) rfl)
theorem d14_27 : decode jdk_68_method_9_code 27 = .ok (.aload_n 0, 1) := by decide +kernel
theorem d14_28 : decode jdk_68_method_9_code 28 = .ok (.getfield 22, 3) := by decide +kernel
theorem d14_31 : decode jdk_68_method_9_code 31 = .ok (.ishl, 1) := by decide +kernel
theorem w301 {Z a0} (hw : HW Z a0) : Cond.before (Cond.code (⟨"java/util/Arrays", "copyOf", "([BI)[B"⟩ : MethodName) jdk_65_method_121_code (3 : Nat) (Option.some (FieldType.array FieldType.byte))) a0 Z = true := hw _ (List.mem_of_getElem? (i := 301) rfl)
theorem w168 {Z a0} (hw : HW Z a0) : Cond.before (Cond.initialized "java/util/Arrays") a0 Z = true := hw _ (List.mem_of_getElem? (i := 168) rfl)
theorem pd_431 : parseMethodDescriptor "([BI)[B" = some ⟨[(.array .byte), .int], some (.array .byte)⟩ := by decide +kernel
theorem d14_32 : decode jdk_68_method_9_code 32 = .ok (.invokestatic 108, 3) := by decide +kernel
theorem w299 {Z a0} (hw : HW Z a0) : Cond.before (Cond.methodLink "java/lang/AbstractStringBuilder" (108 : Nat) (⟨"java/util/Arrays", "copyOf", "([BI)[B"⟩ : MethodName)) a0 Z = true := hw _ (List.mem_of_getElem? (i := 299) rfl)
theorem w300 {Z a0} (hw : HW Z a0) : Cond.before (Cond.static (⟨"java/util/Arrays", "copyOf", "([BI)[B"⟩ : MethodName)) a0 Z = true := hw _ (List.mem_of_getElem? (i := 300) rfl)
theorem d14_35 : decode jdk_68_method_9_code 35 = .ok (.putfield 15, 3) := by decide +kernel
abbrev R_ecapG : Room := { frames := 3, cells := 1, slots := 34, locals := 48 }
def Q_ecapG (Z : State) (G1 : Int32) (G3 : Value) (g1 : Addr) (kg1 : ClassId) (g2 : Addr) (kg2 : ClassId) (uS : Value) (sS : Value) (sb : Addr) (vv : Addr) (kv : ClassId) (ff : List Int32) (cnt : Int32) (h0 : Heap) (n0 : Nat) (v : Option Value) (h : Heap) (L : List Loc) : Prop := (∃ w : Addr, ∃ kw : ClassId, v = none ∧ Fr n0 L ∧ Keep h0 h [sb] ∧ (Exa Z h sb "java/lang/StringBuilder") ∧ (Fld Z h sb "java/lang/AbstractStringBuilder" "value" "[B" (.ref w)) ∧ (Fld Z h sb "java/lang/AbstractStringBuilder" "coder" "B" (.int 0)) ∧ (Fld Z h sb "java/lang/AbstractStringBuilder" "count" "I" (.int cnt)) ∧ (h0.size ≤ w) ∧ (Exa Z h w "[B") ∧ (Arv Z h w kw .byte (34 : Int32) (own_iv (own_sb ff (34 : Int32).toNatClampNeg)) (.int 0)))
theorem rm_ecapG (l : Launch) (Z : State) (a0 : Array Value) (hw : HW Z a0) (ws : List Jvm.Cond) (G1 : Int32) (G3 : Value) (g1 : Addr) (kg1 : ClassId) (g2 : Addr) (kg2 : ClassId) (uS : Value) (sS : Value) (HG : own_G l Z a0 G1 G3 g1 kg1 g2 kg2 uS sS) (h0 : Heap) (n0 : Nat) (X00 : Old Z n0 h0) (sb : Addr) (vv : Addr) (kv : ClassId) (ff : List Int32) (cnt : Int32) (hp0 : Exa Z h0 sb "java/lang/StringBuilder") (hp1 : Fld Z h0 sb "java/lang/AbstractStringBuilder" "value" "[B" (.ref vv)) (hp2 : Fld Z h0 sb "java/lang/AbstractStringBuilder" "coder" "B" (.int 0)) (hp3 : Fld Z h0 sb "java/lang/AbstractStringBuilder" "count" "I" (.int cnt)) (hp4 : Arv Z h0 vv kv .byte (16 : Int32) (own_iv (own_sb ff (16 : Int32).toNatClampNeg)) (.int 0)) (hp5 : n0 ≤ sb) (hp6 : sb ≠ vv) (hf16 : ff.length ≤ 16) :
  own_CP l Z M240 jdk_68_method_9_code 3 none ws R_ecapG #[(.ref sb), (.int 17)] h0 (Q_ecapG Z G1 G3 g1 kg1 g2 kg2 uS sS sb vv kv ff cnt h0 n0) := by
 refine own_P (plainFor_of_name pn_207) ?_
 intro p e s m below meth c s₁ S0 Bd hZ hh hx hby hml hown hnm X0 e0 hS0d
 obtain ⟨O1, P1, O3f, rG3, Sg1, Dg1, Sg2, Dg2, hLT, OU, rU, OS, rS⟩ := id HG
 have N0 := Fr.nil n0
 have C0 : Steps p.tables e below S0 (s₁.setTop (mkF m 0 #[VR sb, VI 17, .unset] [])) := by rw [hS0d]; exact castTop (ef_241 m sb (17 : Int32)) (Steps.refl _)
 obtain ⟨T_1, X_2, e_3, st_4⟩ := getF X0 hx hZ hown (host := "") (Or.inl (w64 hw)) Via.refl e0 hp1 (g := (mkF m 1 #[VR sb, VI 17, .unset] [(.ref sb)])) rfl rfl (hb hby d14_1)
 obtain ⟨c_5, A_6, q_7, S_8, M_9, H_10, U_11⟩ := id hp4
 obtain ⟨T_12, X_13, e_14, st_15⟩ := getF X_2 hx hZ hown (host := "") (Or.inl (w66 hw)) Via.refl e_3 hp2 (g := (mkF m 6 #[VR sb, VI 17, .unset] [(.ref sb), (.int 16)])) rfl rfl (hb hby d14_6)
 obtain ⟨T_16, X_17, e_18, st_19⟩ := getF X_13 hx hZ hown (host := "") (Or.inl (w64 hw)) Via.refl e_14 hp1 (g := (mkF m 19 #[VR sb, VI 17, VI 16] [(.ref sb), (.ref sb)])) rfl rfl (hb hby d14_19)
 obtain ⟨cl_26, hc_27, hc_28⟩ := hp0.cell
 obtain ⟨_, _, ⟨T_20, L_20, k_20, n_20⟩, -, X_20, ⟨Lc_20, hQ_20, l_20, y_20, z_20⟩, st_20⟩ := X_17.privateBack hx (y := M351) hown (mvT hZ (w285 hw)) (mvT hZ (w286 hw)) (mvT hZ (own_selp (y := M351) (by decide) (w288 hw) (w287 hw))) (own_priv (args := #[]) (mvP hZ (w287 hw))) (mvT hZ (w289 hw)) (by decide) (backOf (W := 2) (rm_ncap l Z a0 hw [] G1 G3 g1 kg1 g2 kg2 uS sS HG h0 n0 X00 sb vv kv (own_iv (own_sb ff (16 : Int32).toNatClampNeg)) hp1 hp2 hp4) hZ (w289 hw) (w60 hw) (by decide) (by decide)) (g := (mkF m 24 #[VR sb, VI 17, VI 16] [(.int 17), (.ref sb), (.ref vv), (.ref sb)])) rfl (by rw [hml]; rfl) (Steps.refl _) (a := sb) (cell := cl_26) (by rw [e_18]; exact hc_27) hc_28 (argsL := [(.int 17)]) (rest := [(.ref vv), (.ref sb)]) (lenOf pd_420 rfl) rfl (by show 2 * 0 + _ ≤ _; exact Nat.le_of_eq rfl) (hb hby d14_24) (fun _ _ => ⟨rfl, e_18, (by decide : 0 + 0 ≤ _), (by decide : 0 + 0 ≤ _)⟩)
 dsimp only [Pt.U, Pt.locs, Pt.cells, Pt.slots] at X_20 l_20 y_20 z_20 st_20 hQ_20
 have X_20 := own_cast X_20 l_20 y_20 z_20
 obtain ⟨rfl, N_29, e_30⟩ := hQ_20
 have N_31 := Fr.app N0 N_29
 have e_32 : T_20.heap = h0 := e_30
 obtain ⟨T_33, X_34, e_35, st_36⟩ := getF X_20 hx hZ hown (host := "") (Or.inl (w66 hw)) Via.refl e_32 hp2 (g := (mkF m 28 #[VR sb, VI 17, VI 16] [(.ref sb), (.int 34), (.ref vv), (.ref sb)])) rfl rfl (hb hby d14_28)
 obtain ⟨_, _, ⟨T_37, L_37, k_37, n_37⟩, -, X_37, ⟨Lc_37, hQ_37, l_37, y_37, z_37⟩, st_37⟩ := Jvm.LawKit.callS X_34 hx (y := M390) hown (mvT hZ (w299 hw)) (mvT hZ (w300 hw)) (mvT hZ (w168 hw)) (mvT hZ (w301 hw)) (by decide) (backOf (W := 1) (rm_cpof l Z a0 hw [] G1 G3 g1 kg1 g2 kg2 uS sS HG h0 n0 X00 vv kv ff hp4 hf16) hZ (w301 hw) (w168 hw) (by decide) (by decide)) (g := (mkF m 32 #[VR sb, VI 17, VI 16] [(.int 34), (.ref vv), (.ref sb)])) rfl (by rw [hml]; rfl) (argsL := [(.ref vv), (.int 34)]) (rest := [(.ref sb)]) (lenOf pd_431 rfl) rfl (by show 2 * 0 + _ ≤ _; exact Nat.le_of_eq rfl) (hb hby d14_32) (fun _ _ => ⟨rfl, e_35, (by decide : 0 + 1 ≤ _), (by decide : 0 + 34 ≤ _)⟩)
 dsimp only [Pt.U, Pt.locs, Pt.cells, Pt.slots] at X_37 l_37 y_37 z_37 st_37 hQ_37
 have X_37 := own_cast X_37 l_37 y_37 z_37
 obtain ⟨a_38, k_39, rfl, N_40, K_41, g_42, g_43, g_44⟩ := hQ_37
 have N_45 := Fr.app N_31 N_40
 have F_46 : Fld Z T_37.heap sb "java/lang/AbstractStringBuilder" "value" "[B" (.ref vv) := (hp1.keep K_41 nin0)
 have E_47 : Exa Z T_37.heap sb "java/lang/StringBuilder" := (hp0.keep K_41)
 obtain ⟨T_48, h_49, X_50, e_51, W_52, st_53⟩ := putF X_37 hx hZ hown (host := "") (Or.inl (w64 hw)) Via.refl rfl F_46 E_47 (Or.inl (w65 hw)) (w51 hw) (ty := (.array .byte)) (by decide) rfl rfl (g := (mkF m 35 #[VR sb, VI 17, VI 16] [(.ref a_38), (.ref sb)])) rfl rfl (hb hby d14_35)
 have N_54 := Fr.snoc X_50 N_45 hp5
 have F_55 : Fld Z h_49 sb "java/lang/AbstractStringBuilder" "value" "[B" (.ref a_38) := F_46.same W_52
 have C_56 : Steps p.tables e below S0 (T_48.setTop (mkF m 38 #[VR sb, VI 17, VI 16] [])) := by
  refine C0.trans ?_
  refine XS.aloadN X0.here hx rfl (hb hby d14_0) rfl rfl ?_
  refine st_4 _ ?_
  refine X_2.arraylength hx (by rw [e_3]; exact A_6.1) (State.isArrayOf_alike hZ.alike A_6.2.1) (g := (mkF m 4 #[VR sb, VI 17, .unset] [(.ref vv)])) rfl rfl (hb hby d14_4) _ ?_
  rw [len_of S_8 M_9]
  refine XS.aloadN X_2.here hx rfl (hb hby d14_5) rfl rfl ?_
  refine st_15 _ ?_
  refine XS.ishr X_13.here hx rfl (hb hby d14_9) rfl ?_
  refine XS.istoreN X_13.here hx rfl (hb hby d14_10) rfl (l' := #[VR sb, VI 17, VI 16]) rfl ?_
  refine XS.iloadN X_13.here hx rfl (hb hby d14_11) rfl ?_
  show Steps p.tables e below (T_12.setTop (mkF m 12 #[VR sb, VI 17, VI 16] [(.int 17)])) _
  refine XS.iloadN X_13.here hx rfl (hb hby d14_12) rfl ?_
  refine XS.isub X_13.here hx rfl (hb hby d14_13) rfl ?_
  refine XS.ifNo X_13.here hx rfl (hb hby d14_14) rfl (by decide) ?_
  refine XS.aloadN X_13.here hx rfl (hb hby d14_17) rfl rfl ?_
  refine XS.aloadN X_13.here hx rfl (hb hby d14_18) rfl rfl ?_
  refine st_19 _ ?_
  refine XS.aloadN X_17.here hx rfl (hb hby d14_22) rfl rfl ?_
  refine XS.iloadN X_17.here hx rfl (hb hby d14_23) rfl ?_
  show Steps p.tables e below (T_16.setTop (mkF m 24 #[VR sb, VI 17, VI 16] [(.int 17), (.ref sb), (.ref vv), (.ref sb)])) _
  refine st_20.trans ?_
  refine XS.aloadN X_20.here hx rfl (hb hby d14_27) rfl rfl ?_
  refine st_36 _ ?_
  refine XS.ishl X_34.here hx rfl (hb hby d14_31) rfl ?_
  refine st_37 _ ?_
  refine st_53 _ ?_
  exact Steps.refl _
 have E_57 : Exa Z h_49 sb "java/lang/StringBuilder" := (E_47.wr W_52)
 have F_58 : Fld Z h_49 sb "java/lang/AbstractStringBuilder" "coder" "B" (.int 0) := ((hp2.keep K_41 nin0).other W_52 (Or.inr (slot_ne (Or.inl (w67 hw)) (Or.inl (w65 hw)) (by decide) (t := .byte) (by decide) (t' := (.array .byte)) (by decide))))
 have F_59 : Fld Z h_49 sb "java/lang/AbstractStringBuilder" "count" "I" (.int cnt) := ((hp3.keep K_41 nin0).other W_52 (Or.inr (slot_ne (Or.inl (w89 hw)) (Or.inl (w65 hw)) (by decide) (t := .int) (by decide) (t' := (.array .byte)) (by decide))))
 have E_60 : Exa Z h_49 a_38 "[B" := (g_43.wr W_52)
 have V_61 : Arv Z h_49 a_38 k_39 .byte (34 : Int32) (own_iv (own_sb ff (34 : Int32).toNatClampNeg)) (.int 0) := (g_44.other W_52 (Ne.symm (Nat.ne_of_lt (Nat.lt_of_lt_of_le hp0.lt (Nat.le_trans (Nat.le_refl _) g_42)))))
 have K_62 : Keep h0 h_49 [sb] := (((Keep.refl _ _).trans K_41 all0).wr W_52 (Or.inl (List.mem_of_getElem? (i := 0) rfl)))
 obtain ⟨fs, hr, hrun, hended, hW, hsame⟩ := X_50.leave (v := none) (fun _ => rfl)
 refine ⟨_, _, C_56.trans (X_50.returnOut hx Bd.returns (hb hby d14_38) hr), hrun, hended, _, _, rfl, ?_, ⟨_, rfl⟩, hW, hsame.mono (by decide) (by decide)⟩
 show Q_ecapG Z G1 G3 g1 kg1 g2 kg2 uS sS sb vv kv ff cnt h0 n0 (none) T_48.heap _
 rw [e_51]
 exact ⟨a_38, k_39, rfl, N_54, K_62, E_57, F_55, F_58, F_59, (Nat.le_trans (Nat.le_refl _) g_42), E_60, V_61⟩
abbrev M436 : MethodName := ⟨"java/lang/AbstractStringBuilder", "append", "(Ljava/lang/String;)Ljava/lang/AbstractStringBuilder;"⟩
theorem ef_437 (m : MethodId) (x0 : Addr) (x1 : Addr) : entryFrame m #[(.ref x0), (.ref x1)] 3 = mkF m 0 #[VR x0, VR x1, .unset] [] := by first | (simp [entryFrame, mkF, argsToLocals, Value.category]; done) | rfl
theorem d23_0 : decode jdk_68_method_22_code 0 = .ok (.aload_n 1, 1) := by decide +kernel
theorem d23_1 : decode jdk_68_method_22_code 1 = .ok (.ifnonnull 8, 3) := by decide +kernel
theorem d23_9 : decode jdk_68_method_22_code 9 = .ok (.aload_n 1, 1) := by decide +kernel
theorem w82 {Z a0} (hw : HW Z a0) : Cond.before (Cond.code (⟨"java/lang/String", "length", "()I"⟩ : MethodName) jdk_42_method_54_code (1 : Nat) (Option.some FieldType.int)) a0 Z = true := hw _ (List.mem_of_getElem? (i := 82) rfl)
theorem pd_442 : parseMethodDescriptor "()I" = some ⟨[], some .int⟩ := by decide +kernel
theorem d23_10 : decode jdk_68_method_22_code 10 = .ok (.invokevirtual 32, 3) := by decide +kernel
theorem w78 {Z a0} (hw : HW Z a0) : Cond.before (Cond.methodLink "java/lang/AbstractStringBuilder" (32 : Nat) (⟨"java/lang/String", "length", "()I"⟩ : MethodName)) a0 Z = true := hw _ (List.mem_of_getElem? (i := 78) rfl)
theorem w81 {Z a0} (hw : HW Z a0) : Cond.before (Cond.selects "java/lang/String" (⟨"java/lang/String", "length", "()I"⟩ : MethodName) (⟨"java/lang/String", "length", "()I"⟩ : MethodName)) a0 Z = true := hw _ (List.mem_of_getElem? (i := 81) rfl)
theorem w80 {Z a0} (hw : HW Z a0) : Cond.before (Cond.instanceMethod (⟨"java/lang/String", "length", "()I"⟩ : MethodName)) a0 Z = true := hw _ (List.mem_of_getElem? (i := 80) rfl)
theorem w79 {Z a0} (hw : HW Z a0) : Cond.before (Cond.declares (⟨"java/lang/String", "length", "()I"⟩ : MethodName)) a0 Z = true := hw _ (List.mem_of_getElem? (i := 79) rfl)
theorem d23_13 : decode jdk_68_method_22_code 13 = .ok (.istore_n 2, 1) := by decide +kernel
theorem d23_14 : decode jdk_68_method_22_code 14 = .ok (.aload_n 0, 1) := by decide +kernel
theorem d23_15 : decode jdk_68_method_22_code 15 = .ok (.aload_n 0, 1) := by decide +kernel
theorem w88 {Z a0} (hw : HW Z a0) : Cond.before (Cond.fieldLink "java/lang/AbstractStringBuilder" (79 : Nat) "java/lang/AbstractStringBuilder" "count" "I") a0 Z = true := hw _ (List.mem_of_getElem? (i := 88) rfl)
theorem d23_16 : decode jdk_68_method_22_code 16 = .ok (.getfield 79, 3) := by decide +kernel
theorem d23_19 : decode jdk_68_method_22_code 19 = .ok (.iload_n 2, 1) := by decide +kernel
theorem d23_20 : decode jdk_68_method_22_code 20 = .ok (.iadd, 1) := by decide +kernel
theorem w94 {Z a0} (hw : HW Z a0) : Cond.before (Cond.code (⟨"java/lang/AbstractStringBuilder", "ensureCapacityInternal", "(I)V"⟩ : MethodName) jdk_68_method_9_code (3 : Nat) (Option.none : Option FieldType)) a0 Z = true := hw _ (List.mem_of_getElem? (i := 94) rfl)
theorem d23_21 : decode jdk_68_method_22_code 21 = .ok (.invokevirtual 100, 3) := by decide +kernel
theorem w90 {Z a0} (hw : HW Z a0) : Cond.before (Cond.methodLink "java/lang/AbstractStringBuilder" (100 : Nat) (⟨"java/lang/AbstractStringBuilder", "ensureCapacityInternal", "(I)V"⟩ : MethodName)) a0 Z = true := hw _ (List.mem_of_getElem? (i := 90) rfl)
theorem w91 {Z a0} (hw : HW Z a0) : Cond.before (Cond.instanceMethod (⟨"java/lang/AbstractStringBuilder", "ensureCapacityInternal", "(I)V"⟩ : MethodName)) a0 Z = true := hw _ (List.mem_of_getElem? (i := 91) rfl)
theorem w93 {Z a0} (hw : HW Z a0) : Cond.before (Cond.selects "java/lang/StringBuilder" (⟨"java/lang/AbstractStringBuilder", "ensureCapacityInternal", "(I)V"⟩ : MethodName) (⟨"java/lang/AbstractStringBuilder", "ensureCapacityInternal", "(I)V"⟩ : MethodName)) a0 Z = true := hw _ (List.mem_of_getElem? (i := 93) rfl)
theorem w92 {Z a0} (hw : HW Z a0) : Cond.before (Cond.privateMethod (⟨"java/lang/AbstractStringBuilder", "ensureCapacityInternal", "(I)V"⟩ : MethodName)) a0 Z = true := hw _ (List.mem_of_getElem? (i := 92) rfl)
theorem d23_24 : decode jdk_68_method_22_code 24 = .ok (.aload_n 0, 1) := by decide +kernel
theorem d23_25 : decode jdk_68_method_22_code 25 = .ok (.aload_n 0, 1) := by decide +kernel
theorem d23_26 : decode jdk_68_method_22_code 26 = .ok (.getfield 79, 3) := by decide +kernel
theorem d23_29 : decode jdk_68_method_22_code 29 = .ok (.aload_n 1, 1) := by decide +kernel
theorem w99 {Z a0} (hw : HW Z a0) : Cond.before (Cond.code (⟨"java/lang/AbstractStringBuilder", "putStringAt", "(ILjava/lang/String;)V"⟩ : MethodName) jdk_68_method_73_code (3 : Nat) (Option.none : Option FieldType)) a0 Z = true := hw _ (List.mem_of_getElem? (i := 99) rfl)
theorem pd_466 : parseMethodDescriptor "(ILjava/lang/String;)V" = some ⟨[.int, (.object "java/lang/String")], none⟩ := by decide +kernel
theorem d23_30 : decode jdk_68_method_22_code 30 = .ok (.invokevirtual 208, 3) := by decide +kernel
theorem w95 {Z a0} (hw : HW Z a0) : Cond.before (Cond.methodLink "java/lang/AbstractStringBuilder" (208 : Nat) (⟨"java/lang/AbstractStringBuilder", "putStringAt", "(ILjava/lang/String;)V"⟩ : MethodName)) a0 Z = true := hw _ (List.mem_of_getElem? (i := 95) rfl)
theorem w96 {Z a0} (hw : HW Z a0) : Cond.before (Cond.instanceMethod (⟨"java/lang/AbstractStringBuilder", "putStringAt", "(ILjava/lang/String;)V"⟩ : MethodName)) a0 Z = true := hw _ (List.mem_of_getElem? (i := 96) rfl)
theorem w98 {Z a0} (hw : HW Z a0) : Cond.before (Cond.selects "java/lang/StringBuilder" (⟨"java/lang/AbstractStringBuilder", "putStringAt", "(ILjava/lang/String;)V"⟩ : MethodName) (⟨"java/lang/AbstractStringBuilder", "putStringAt", "(ILjava/lang/String;)V"⟩ : MethodName)) a0 Z = true := hw _ (List.mem_of_getElem? (i := 98) rfl)
theorem w97 {Z a0} (hw : HW Z a0) : Cond.before (Cond.privateMethod (⟨"java/lang/AbstractStringBuilder", "putStringAt", "(ILjava/lang/String;)V"⟩ : MethodName)) a0 Z = true := hw _ (List.mem_of_getElem? (i := 97) rfl)
theorem d23_33 : decode jdk_68_method_22_code 33 = .ok (.aload_n 0, 1) := by decide +kernel
theorem d23_34 : decode jdk_68_method_22_code 34 = .ok (.dup, 1) := by decide +kernel
theorem d23_35 : decode jdk_68_method_22_code 35 = .ok (.getfield 79, 3) := by decide +kernel
theorem d23_38 : decode jdk_68_method_22_code 38 = .ok (.iload_n 2, 1) := by decide +kernel
theorem d23_39 : decode jdk_68_method_22_code 39 = .ok (.iadd, 1) := by decide +kernel
theorem d23_40 : decode jdk_68_method_22_code 40 = .ok (.putfield 79, 3) := by decide +kernel
theorem d23_43 : decode jdk_68_method_22_code 43 = .ok (.aload_n 0, 1) := by decide +kernel
theorem d23_44 : decode jdk_68_method_22_code 44 = .ok (.areturn, 1) := by decide +kernel
abbrev R_appG : Room := { frames := 4, cells := 1, slots := 34, locals := 62 }
def Q_appG (Z : State) (G1 : Int32) (G3 : Value) (g1 : Addr) (kg1 : ClassId) (g2 : Addr) (kg2 : ClassId) (uS : Value) (sS : Value) (sb : Addr) (vv : Addr) (kv : ClassId) (ff : List Int32) (x : Addr) (t : Addr) (kt : ClassId) (bs : List Int32) (h0 : Heap) (n0 : Nat) (v : Option Value) (h : Heap) (L : List Loc) : Prop := (∃ w : Addr, ∃ kw : ClassId, v = some (.ref sb) ∧ Fr n0 L ∧ Keep h0 h [sb] ∧ (Exa Z h sb "java/lang/StringBuilder") ∧ (Fld Z h sb "java/lang/AbstractStringBuilder" "value" "[B" (.ref w)) ∧ (Fld Z h sb "java/lang/AbstractStringBuilder" "coder" "B" (.int 0)) ∧ (Fld Z h sb "java/lang/AbstractStringBuilder" "count" "I" (.int 17)) ∧ (h0.size ≤ w) ∧ (Exa Z h w "[B") ∧ (Arv Z h w kw .byte (34 : Int32) (own_iv (own_sb (ff ++ bs) (34 : Int32).toNatClampNeg)) (.int 0)) ∧ ((17 : Int32).toNatClampNeg = (ff ++ bs).length))
theorem rm_appG (l : Launch) (Z : State) (a0 : Array Value) (hw : HW Z a0) (ws : List Jvm.Cond) (G1 : Int32) (G3 : Value) (g1 : Addr) (kg1 : ClassId) (g2 : Addr) (kg2 : ClassId) (uS : Value) (sS : Value) (HG : own_G l Z a0 G1 G3 g1 kg1 g2 kg2 uS sS) (h0 : Heap) (n0 : Nat) (X00 : Old Z n0 h0) (sb : Addr) (vv : Addr) (kv : ClassId) (ff : List Int32) (x : Addr) (t : Addr) (kt : ClassId) (bs : List Int32) (hp0 : Exa Z h0 sb "java/lang/StringBuilder") (hp1 : Fld Z h0 sb "java/lang/AbstractStringBuilder" "value" "[B" (.ref vv)) (hp2 : Fld Z h0 sb "java/lang/AbstractStringBuilder" "coder" "B" (.int 0)) (hp3 : Fld Z h0 sb "java/lang/AbstractStringBuilder" "count" "I" (.int 15)) (hp4 : Exa Z h0 x "java/lang/String") (hp5 : Fld Z h0 x "java/lang/String" "coder" "B" (.int 0)) (hp6 : Fld Z h0 x "java/lang/String" "value" "[B" (.ref t)) (hp7 : Arv Z h0 t kt .byte (2 : Int32) (own_iv bs) (.int 0)) (hp8 : Arv Z h0 vv kv .byte (16 : Int32) (own_iv (own_sb ff (16 : Int32).toNatClampNeg)) (.int 0)) (hp9 : Exa Z h0 vv "[B") (hp10 : n0 ≤ sb) (hp11 : sb ≠ vv) (hp12 : sb ≠ x) (hf15 : ff.length = 15) (hb2 : bs.length = 2) :
  own_CP l Z M436 jdk_68_method_22_code 3 (some (.object "java/lang/AbstractStringBuilder")) ws R_appG #[(.ref sb), (.ref x)] h0 (Q_appG Z G1 G3 g1 kg1 g2 kg2 uS sS sb vv kv ff x t kt bs h0 n0) := by
 refine own_P (plainFor_of_name pn_207) ?_
 intro p e s m below meth c s₁ S0 Bd hZ hh hx hby hml hown hnm X0 e0 hS0d
 obtain ⟨O1, P1, O3f, rG3, Sg1, Dg1, Sg2, Dg2, hLT, OU, rU, OS, rS⟩ := id HG
 have N0 := Fr.nil n0
 have C0 : Steps p.tables e below S0 (s₁.setTop (mkF m 0 #[VR sb, VR x, .unset] [])) := by rw [hS0d]; exact castTop (ef_437 m sb x) (Steps.refl _)
 obtain ⟨q_2, q_3, q_4, q_5, q_6⟩ := isOf (T := s₁) hZ e0 hp4
 obtain ⟨_, _, ⟨T_1, L_1, k_1, n_1⟩, -, X_1, ⟨Lc_1, hQ_1, l_1, y_1, z_1⟩, st_1⟩ := X0.virtualBack hx (y := M131) (z := M131) hown (mvT hZ (w78 hw)) (mvT hZ (w79 hw)) (notFace_of_selects (args := #[]) (mvT hZ (w81 hw))) (mvT hZ (w81 hw)) (mvT hZ (w80 hw)) (by decide) (backOf (W := 0) (rm_lens l Z a0 hw [] G1 G3 g1 kg1 g2 kg2 uS sS HG h0 n0 X00 x t kt (2 : Int32) (own_iv bs) hp4 hp5 hp6 hp7) hZ (w82 hw) (w3 hw) (by decide) (by decide)) q_4 q_6 (g := (mkF m 10 #[VR sb, VR x, .unset] [(.ref x)])) rfl (by rw [hml]; rfl) (Steps.refl _) (argsL := []) (rest := []) (lenOf pd_442 rfl) rfl (by show 2 * 0 + _ ≤ _; exact Nat.le_of_eq rfl) (hb hby d23_10) (fun _ _ => ⟨rfl, e0, (by decide : 0 + 0 ≤ _), (by decide : 0 + 0 ≤ _)⟩)
 dsimp only [Pt.U, Pt.locs, Pt.cells, Pt.slots] at X_1 l_1 y_1 z_1 st_1 hQ_1
 have X_1 := own_cast X_1 l_1 y_1 z_1
 obtain ⟨rfl, N_7, e_8⟩ := hQ_1
 have N_9 := Fr.app N0 N_7
 have e_10 : T_1.heap = h0 := e_8
 obtain ⟨T_11, X_12, e_13, st_14⟩ := getF X_1 hx hZ hown (host := "") (Or.inl (w88 hw)) Via.refl e_10 hp3 (g := (mkF m 16 #[VR sb, VR x, VI 2] [(.ref sb), (.ref sb)])) rfl rfl (hb hby d23_16)
 obtain ⟨cl_21, hc_22, hc_23⟩ := hp0.cell
 obtain ⟨_, _, ⟨T_15, L_15, k_15, n_15⟩, -, X_15, ⟨Lc_15, hQ_15, l_15, y_15, z_15⟩, st_15⟩ := X_12.privateBack hx (y := M240) hown (mvT hZ (w90 hw)) (mvT hZ (w91 hw)) (mvT hZ (own_selp (y := M240) (by decide) (w93 hw) (w92 hw))) (own_priv (args := #[]) (mvP hZ (w92 hw))) (mvT hZ (w94 hw)) (by decide) (backOf (W := 0) (rm_ecapG l Z a0 hw [] G1 G3 g1 kg1 g2 kg2 uS sS HG h0 n0 X00 sb vv kv ff (15 : Int32) hp0 hp1 hp2 hp3 hp8 hp10 hp11 (by rw [hf15]; decide)) hZ (w94 hw) (w60 hw) (by decide) (by decide)) (g := (mkF m 21 #[VR sb, VR x, VI 2] [(.int 17), (.ref sb)])) rfl (by rw [hml]; rfl) (Steps.refl _) (a := sb) (cell := cl_21) (by rw [e_13]; exact hc_22) hc_23 (argsL := [(.int 17)]) (rest := []) (lenOf pd_235 rfl) rfl (by show 2 * 0 + _ ≤ _; exact Nat.le_of_eq rfl) (hb hby d23_21) (fun _ _ => ⟨rfl, e_13, (by decide : 0 + 1 ≤ _), (by decide : 0 + 34 ≤ _)⟩)
 dsimp only [Pt.U, Pt.locs, Pt.cells, Pt.slots] at X_15 l_15 y_15 z_15 st_15 hQ_15
 have X_15 := own_cast X_15 l_15 y_15 z_15
 obtain ⟨a_24, k_25, rfl, N_26, K_27, g_28, g_29, g_30, g_31, g_32, g_33, g_34⟩ := hQ_15
 have N_35 := Fr.app N_9 N_26
 obtain ⟨T_36, X_37, e_38, st_39⟩ := getF X_15 hx hZ hown (host := "") (Or.inl (w88 hw)) Via.refl rfl g_31 (g := (mkF m 26 #[VR sb, VR x, VI 2] [(.ref sb), (.ref sb)])) rfl rfl (hb hby d23_26)
 have E_40 : Exa Z T_15.heap x "java/lang/String" := (hp4.keep K_27)
 have F_41 : Fld Z T_15.heap x "java/lang/String" "coder" "B" (.int 0) := (hp5.keep K_27 (ninS (Ne.symm hp12) nin0))
 have F_42 : Fld Z T_15.heap x "java/lang/String" "value" "[B" (.ref t) := (hp6.keep K_27 (ninS (Ne.symm hp12) nin0))
 have V_43 : Arv Z T_15.heap t kt .byte (2 : Int32) (own_iv bs) (.int 0) := (hp7.keep K_27 (ninS (Ne.symm (Exa.neArv hp0 hp7 (w51 hw))) nin0))
 have O_44 : Old Z n0 T_15.heap := (X00.keep K_27 (allS hp10 all0))
 obtain ⟨cl_51, hc_52, hc_53⟩ := g_28.cell
 obtain ⟨_, _, ⟨T_45, L_45, k_45, n_45⟩, -, X_45, ⟨Lc_45, hQ_45, l_45, y_45, z_45⟩, st_45⟩ := X_37.privateBack hx (y := M287) hown (mvT hZ (w95 hw)) (mvT hZ (w96 hw)) (mvT hZ (own_selp (y := M287) (by decide) (w98 hw) (w97 hw))) (own_priv (args := #[]) (mvP hZ (w97 hw))) (mvT hZ (w99 hw)) (by decide) (backOf (W := 0) (rm_psa l Z a0 hw [] G1 G3 g1 kg1 g2 kg2 uS sS HG T_15.heap n0 O_44 sb a_24 k_25 (34 : Int32) ff (15 : Int32) x t kt (2 : Int32) bs g_28 g_29 g_30 E_40 F_41 F_42 V_43 g_34 (Nat.le_trans (own_n0 X00) g_32) (by decide) hf15.symm (by decide) hb2 (by rw [hf15, hb2]; decide)) hZ (w99 hw) (w60 hw) (by decide) (by decide)) (g := (mkF m 30 #[VR sb, VR x, VI 2] [(.ref x), (.int 15), (.ref sb)])) rfl (by rw [hml]; rfl) (Steps.refl _) (a := sb) (cell := cl_51) (by rw [e_38]; exact hc_52) hc_53 (argsL := [(.int 15), (.ref x)]) (rest := []) (lenOf pd_466 rfl) rfl (by show 2 * 0 + _ ≤ _; exact Nat.le_of_eq rfl) (hb hby d23_30) (fun _ _ => ⟨rfl, e_38, (by decide : 1 + 0 ≤ _), (by decide : 34 + 0 ≤ _)⟩)
 dsimp only [Pt.U, Pt.locs, Pt.cells, Pt.slots] at X_45 l_45 y_45 z_45 st_45 hQ_45
 have X_45 := own_cast X_45 l_45 y_45 z_45
 obtain ⟨rfl, N_54, K_55, g_56⟩ := hQ_45
 have N_57 := Fr.app N_35 N_54
 have F_58 : Fld Z T_45.heap sb "java/lang/AbstractStringBuilder" "count" "I" (.int 15) := (g_31.keep K_55 (ninS (Nat.ne_of_lt (Nat.lt_of_lt_of_le hp0.lt (Nat.le_trans (Nat.le_refl _) g_32))) nin0))
 obtain ⟨T_59, X_60, e_61, st_62⟩ := getF X_45 hx hZ hown (host := "") (Or.inl (w88 hw)) Via.refl rfl F_58 (g := (mkF m 35 #[VR sb, VR x, VI 2] [(.ref sb), (.ref sb)])) rfl rfl (hb hby d23_35)
 have E_63 : Exa Z T_45.heap sb "java/lang/StringBuilder" := (g_28.keep K_55)
 obtain ⟨T_64, h_65, X_66, e_67, W_68, st_69⟩ := putF X_60 hx hZ hown (host := "") (Or.inl (w88 hw)) Via.refl e_61 F_58 E_63 (Or.inl (w89 hw)) (w51 hw) (ty := .int) (by decide) rfl rfl (g := (mkF m 40 #[VR sb, VR x, VI 2] [(.int 17), (.ref sb)])) rfl rfl (hb hby d23_40)
 have N_70 := Fr.snoc X_66 N_57 hp10
 have F_71 : Fld Z h_65 sb "java/lang/AbstractStringBuilder" "count" "I" (.int 17) := F_58.same W_68
 have C_72 : Steps p.tables e below S0 (T_64.setTop (mkF m 44 #[VR sb, VR x, VI 2] [(.ref sb)])) := by
  refine C0.trans ?_
  refine XS.aloadN X0.here hx rfl (hb hby d23_0) rfl rfl ?_
  refine XS.ifnonnullYes X0.here hx rfl (pc0 := 1) (pc' := 9) rfl (hb hby d23_1) rfl (by decide) (by decide) ?_
  refine XS.aloadN X0.here hx rfl (hb hby d23_9) rfl rfl ?_
  refine st_1.trans ?_
  refine XS.istoreN X_1.here hx rfl (hb hby d23_13) rfl (l' := #[VR sb, VR x, VI 2]) rfl ?_
  refine XS.aloadN X_1.here hx rfl (hb hby d23_14) rfl rfl ?_
  refine XS.aloadN X_1.here hx rfl (hb hby d23_15) rfl rfl ?_
  refine st_14 _ ?_
  show Steps p.tables e below (T_11.setTop (mkF m 19 #[VR sb, VR x, VI 2] [(.int 15), (.ref sb)])) _
  refine XS.iloadN X_12.here hx rfl (hb hby d23_19) rfl ?_
  refine XS.iadd X_12.here hx rfl (hb hby d23_20) rfl ?_
  refine st_15.trans ?_
  refine XS.aloadN X_15.here hx rfl (hb hby d23_24) rfl rfl ?_
  refine XS.aloadN X_15.here hx rfl (hb hby d23_25) rfl rfl ?_
  refine st_39 _ ?_
  refine XS.aloadN X_37.here hx rfl (hb hby d23_29) rfl rfl ?_
  refine st_45.trans ?_
  show Steps p.tables e below (T_45.setTop (mkF m 33 #[VR sb, VR x, VI 2] [])) _
  refine XS.aloadN X_45.here hx rfl (hb hby d23_33) rfl rfl ?_
  refine XS.dup X_45.here hx rfl (hb hby d23_34) rfl rfl ?_
  refine st_62 _ ?_
  refine XS.iloadN X_60.here hx rfl (hb hby d23_38) rfl ?_
  refine XS.iadd X_60.here hx rfl (hb hby d23_39) rfl ?_
  refine st_69 _ ?_
  refine XS.aloadN X_66.here hx rfl (hb hby d23_43) rfl rfl ?_
  exact Steps.refl _
 have E_73 : Exa Z h_65 sb "java/lang/StringBuilder" := (E_63.wr W_68)
 have F_74 : Fld Z h_65 sb "java/lang/AbstractStringBuilder" "value" "[B" (.ref a_24) := ((g_29.keep K_55 (ninS (Nat.ne_of_lt (Nat.lt_of_lt_of_le hp0.lt (Nat.le_trans (Nat.le_refl _) g_32))) nin0)).other W_68 (Or.inr (slot_ne (Or.inl (w65 hw)) (Or.inl (w89 hw)) (by decide) (t := (.array .byte)) (by decide) (t' := .int) (by decide))))
 have F_75 : Fld Z h_65 sb "java/lang/AbstractStringBuilder" "coder" "B" (.int 0) := ((g_30.keep K_55 (ninS (Nat.ne_of_lt (Nat.lt_of_lt_of_le hp0.lt (Nat.le_trans (Nat.le_refl _) g_32))) nin0)).other W_68 (Or.inr (slot_ne (Or.inl (w67 hw)) (Or.inl (w89 hw)) (by decide) (t := .byte) (by decide) (t' := .int) (by decide))))
 have E_76 : Exa Z h_65 a_24 "[B" := ((g_33.keep K_55).wr W_68)
 have V_77 : Arv Z h_65 a_24 k_25 .byte (34 : Int32) (own_iv (own_sb (ff ++ bs) (34 : Int32).toNatClampNeg)) (.int 0) := (g_56.other W_68 (Ne.symm (Nat.ne_of_lt (Nat.lt_of_lt_of_le hp0.lt (Nat.le_trans (Nat.le_refl _) g_32)))))
 have K_78 : Keep h0 h_65 [sb] := ((((Keep.refl _ _).trans K_27 (allS (Or.inl (List.mem_of_getElem? (i := 0) rfl)) all0)).trans K_55 (allS (Or.inr (Nat.le_trans (Nat.le_refl _) g_32)) all0)).wr W_68 (Or.inl (List.mem_of_getElem? (i := 0) rfl)))
 obtain ⟨fs, hr, hrun, hended, hW, hsame⟩ := X_66.leave (v := some (.ref sb)) (fun h => by rw [Bd.returns] at h; cases h)
 refine ⟨_, _, C_72.trans (retOut X_66 hx Bd.returns rfl (Or.inr (Or.inr (Or.inr (Or.inr ⟨rfl, rfl, rfl⟩)))) (hb hby d23_44) hr), hrun, hended, _, _, rfl, ?_, ⟨_, rfl⟩, hW, hsame.mono (by decide) (by decide)⟩
 show Q_appG Z G1 G3 g1 kg1 g2 kg2 uS sS sb vv kv ff x t kt bs h0 n0 (some (.ref sb)) T_64.heap _
 rw [e_67]
 exact ⟨a_24, k_25, rfl, N_70, K_78, E_73, F_74, F_75, F_71, (Nat.le_trans (Nat.le_refl _) g_32), E_76, V_77, (by rw [List.length_append, hf15, hb2]; decide)⟩
abbrev R_app : Room := { frames := 3, cells := 0, slots := 0, locals := 47 }
def Q_app (Z : State) (G1 : Int32) (G3 : Value) (g1 : Addr) (kg1 : ClassId) (g2 : Addr) (kg2 : ClassId) (uS : Value) (sS : Value) (sb : Addr) (vv : Addr) (kv : ClassId) (cap : Int32) (ff : List Int32) (cnt : Int32) (x : Addr) (t : Addr) (kt : ClassId) (nn : Int32) (bs : List Int32) (h0 : Heap) (n0 : Nat) (v : Option Value) (h : Heap) (L : List Loc) : Prop := (v = some (.ref sb) ∧ Fr n0 L ∧ Keep h0 h [sb, vv] ∧ (Exa Z h sb "java/lang/StringBuilder") ∧ (Fld Z h sb "java/lang/AbstractStringBuilder" "value" "[B" (.ref vv)) ∧ (Fld Z h sb "java/lang/AbstractStringBuilder" "coder" "B" (.int 0)) ∧ (Fld Z h sb "java/lang/AbstractStringBuilder" "count" "I" (.int (cnt + nn))) ∧ (Arv Z h vv kv .byte cap (own_iv (own_sb (ff ++ bs) cap.toNatClampNeg)) (.int 0)) ∧ (Exa Z h vv "[B") ∧ ((cnt + nn).toNatClampNeg = (ff ++ bs).length) ∧ (¬ ((cnt + nn) < (0 : Int32))))
theorem rm_app (l : Launch) (Z : State) (a0 : Array Value) (hw : HW Z a0) (ws : List Jvm.Cond) (G1 : Int32) (G3 : Value) (g1 : Addr) (kg1 : ClassId) (g2 : Addr) (kg2 : ClassId) (uS : Value) (sS : Value) (HG : own_G l Z a0 G1 G3 g1 kg1 g2 kg2 uS sS) (h0 : Heap) (n0 : Nat) (X00 : Old Z n0 h0) (sb : Addr) (vv : Addr) (kv : ClassId) (cap : Int32) (ff : List Int32) (cnt : Int32) (x : Addr) (t : Addr) (kt : ClassId) (nn : Int32) (bs : List Int32) (hp0 : Exa Z h0 sb "java/lang/StringBuilder") (hp1 : Fld Z h0 sb "java/lang/AbstractStringBuilder" "value" "[B" (.ref vv)) (hp2 : Fld Z h0 sb "java/lang/AbstractStringBuilder" "coder" "B" (.int 0)) (hp3 : Fld Z h0 sb "java/lang/AbstractStringBuilder" "count" "I" (.int cnt)) (hp4 : Exa Z h0 x "java/lang/String") (hp5 : Fld Z h0 x "java/lang/String" "coder" "B" (.int 0)) (hp6 : Fld Z h0 x "java/lang/String" "value" "[B" (.ref t)) (hp7 : Arv Z h0 t kt .byte nn (own_iv bs) (.int 0)) (hp8 : Arv Z h0 vv kv .byte cap (own_iv (own_sb ff cap.toNatClampNeg)) (.int 0)) (hp9 : Exa Z h0 vv "[B") (hp10 : n0 ≤ sb) (hp11 : n0 ≤ vv) (hp12 : sb ≠ vv) (hp13 : sb ≠ x) (hc0 : ¬ (cnt < (0 : Int32))) (hz : ¬ (cap < (0 : Int32))) (hcn : cnt.toNatClampNeg = ff.length) (h64 : cap.toNatClampNeg ≤ 64) (hn0 : ¬ (nn < (0 : Int32))) (hl1 : bs.length = nn.toNatClampNeg) (hfit : ff.length + bs.length ≤ cap.toNatClampNeg) :
  own_CP l Z M436 jdk_68_method_22_code 3 (some (.object "java/lang/AbstractStringBuilder")) ws R_app #[(.ref sb), (.ref x)] h0 (Q_app Z G1 G3 g1 kg1 g2 kg2 uS sS sb vv kv cap ff cnt x t kt nn bs h0 n0) := by
 refine own_P (plainFor_of_name pn_207) ?_
 intro p e s m below meth c s₁ S0 Bd hZ hh hx hby hml hown hnm X0 e0 hS0d
 obtain ⟨O1, P1, O3f, rG3, Sg1, Dg1, Sg2, Dg2, hLT, OU, rU, OS, rS⟩ := id HG
 have N0 := Fr.nil n0
 have C0 : Steps p.tables e below S0 (s₁.setTop (mkF m 0 #[VR sb, VR x, .unset] [])) := by rw [hS0d]; exact castTop (ef_437 m sb x) (Steps.refl _)
 obtain ⟨q_2, q_3, q_4, q_5, q_6⟩ := isOf (T := s₁) hZ e0 hp4
 obtain ⟨_, _, ⟨T_1, L_1, k_1, n_1⟩, -, X_1, ⟨Lc_1, hQ_1, l_1, y_1, z_1⟩, st_1⟩ := X0.virtualBack hx (y := M131) (z := M131) hown (mvT hZ (w78 hw)) (mvT hZ (w79 hw)) (notFace_of_selects (args := #[]) (mvT hZ (w81 hw))) (mvT hZ (w81 hw)) (mvT hZ (w80 hw)) (by decide) (backOf (W := 0) (rm_lens l Z a0 hw [] G1 G3 g1 kg1 g2 kg2 uS sS HG h0 n0 X00 x t kt nn (own_iv bs) hp4 hp5 hp6 hp7) hZ (w82 hw) (w3 hw) (by decide) (by decide)) q_4 q_6 (g := (mkF m 10 #[VR sb, VR x, .unset] [(.ref x)])) rfl (by rw [hml]; rfl) (Steps.refl _) (argsL := []) (rest := []) (lenOf pd_442 rfl) rfl (by show 2 * 0 + _ ≤ _; exact Nat.le_of_eq rfl) (hb hby d23_10) (fun _ _ => ⟨rfl, e0, (by decide : 0 + 0 ≤ _), (by decide : 0 + 0 ≤ _)⟩)
 dsimp only [Pt.U, Pt.locs, Pt.cells, Pt.slots] at X_1 l_1 y_1 z_1 st_1 hQ_1
 have X_1 := own_cast X_1 l_1 y_1 z_1
 obtain ⟨rfl, N_7, e_8⟩ := hQ_1
 have N_9 := Fr.app N0 N_7
 have e_10 : T_1.heap = h0 := e_8
 obtain ⟨T_11, X_12, e_13, st_14⟩ := getF X_1 hx hZ hown (host := "") (Or.inl (w88 hw)) Via.refl e_10 hp3 (g := (mkF m 16 #[VR sb, VR x, VI nn] [(.ref sb), (.ref sb)])) rfl rfl (hb hby d23_16)
 obtain ⟨cl_21, hc_22, hc_23⟩ := hp0.cell
 obtain ⟨_, _, ⟨T_15, L_15, k_15, n_15⟩, -, X_15, ⟨Lc_15, hQ_15, l_15, y_15, z_15⟩, st_15⟩ := X_12.privateBack hx (y := M240) hown (mvT hZ (w90 hw)) (mvT hZ (w91 hw)) (mvT hZ (own_selp (y := M240) (by decide) (w93 hw) (w92 hw))) (own_priv (args := #[]) (mvP hZ (w92 hw))) (mvT hZ (w94 hw)) (by decide) (backOf (W := 0) (rm_ecap l Z a0 hw [] G1 G3 g1 kg1 g2 kg2 uS sS HG h0 n0 X00 sb vv kv cap (own_iv (own_sb ff cap.toNatClampNeg)) (cnt + nn) hp1 hp2 hp8 (own_app2 hc0 hn0 hz hcn hl1 hfit h64)) hZ (w94 hw) (w60 hw) (by decide) (by decide)) (g := (mkF m 21 #[VR sb, VR x, VI nn] [(.int (cnt + nn)), (.ref sb)])) rfl (by rw [hml]; rfl) (Steps.refl _) (a := sb) (cell := cl_21) (by rw [e_13]; exact hc_22) hc_23 (argsL := [(.int (cnt + nn))]) (rest := []) (lenOf pd_235 rfl) rfl (by show 2 * 0 + _ ≤ _; exact Nat.le_of_eq rfl) (hb hby d23_21) (fun _ _ => ⟨rfl, e_13, (by decide : 0 + 0 ≤ _), (by decide : 0 + 0 ≤ _)⟩)
 dsimp only [Pt.U, Pt.locs, Pt.cells, Pt.slots] at X_15 l_15 y_15 z_15 st_15 hQ_15
 have X_15 := own_cast X_15 l_15 y_15 z_15
 obtain ⟨rfl, N_24, e_25⟩ := hQ_15
 have N_26 := Fr.app N_9 N_24
 have e_27 : T_15.heap = h0 := e_25
 obtain ⟨T_28, X_29, e_30, st_31⟩ := getF X_15 hx hZ hown (host := "") (Or.inl (w88 hw)) Via.refl e_27 hp3 (g := (mkF m 26 #[VR sb, VR x, VI nn] [(.ref sb), (.ref sb)])) rfl rfl (hb hby d23_26)
 obtain ⟨cl_38, hc_39, hc_40⟩ := hp0.cell
 obtain ⟨_, _, ⟨T_32, L_32, k_32, n_32⟩, -, X_32, ⟨Lc_32, hQ_32, l_32, y_32, z_32⟩, st_32⟩ := X_29.privateBack hx (y := M287) hown (mvT hZ (w95 hw)) (mvT hZ (w96 hw)) (mvT hZ (own_selp (y := M287) (by decide) (w98 hw) (w97 hw))) (own_priv (args := #[]) (mvP hZ (w97 hw))) (mvT hZ (w99 hw)) (by decide) (backOf (W := 0) (rm_psa l Z a0 hw [] G1 G3 g1 kg1 g2 kg2 uS sS HG h0 n0 X00 sb vv kv cap ff cnt x t kt nn bs hp0 hp1 hp2 hp4 hp5 hp6 hp7 hp8 hp11 hc0 hcn hn0 hl1 hfit) hZ (w99 hw) (w60 hw) (by decide) (by decide)) (g := (mkF m 30 #[VR sb, VR x, VI nn] [(.ref x), (.int cnt), (.ref sb)])) rfl (by rw [hml]; rfl) (Steps.refl _) (a := sb) (cell := cl_38) (by rw [e_30]; exact hc_39) hc_40 (argsL := [(.int cnt), (.ref x)]) (rest := []) (lenOf pd_466 rfl) rfl (by show 2 * 0 + _ ≤ _; exact Nat.le_of_eq rfl) (hb hby d23_30) (fun _ _ => ⟨rfl, e_30, (by decide : 0 + 0 ≤ _), (by decide : 0 + 0 ≤ _)⟩)
 dsimp only [Pt.U, Pt.locs, Pt.cells, Pt.slots] at X_32 l_32 y_32 z_32 st_32 hQ_32
 have X_32 := own_cast X_32 l_32 y_32 z_32
 obtain ⟨rfl, N_41, K_42, g_43⟩ := hQ_32
 have N_44 := Fr.app N_26 N_41
 have F_45 : Fld Z T_32.heap sb "java/lang/AbstractStringBuilder" "count" "I" (.int cnt) := (hp3.keep K_42 (ninS hp12 nin0))
 obtain ⟨T_46, X_47, e_48, st_49⟩ := getF X_32 hx hZ hown (host := "") (Or.inl (w88 hw)) Via.refl rfl F_45 (g := (mkF m 35 #[VR sb, VR x, VI nn] [(.ref sb), (.ref sb)])) rfl rfl (hb hby d23_35)
 have E_50 : Exa Z T_32.heap sb "java/lang/StringBuilder" := (hp0.keep K_42)
 obtain ⟨T_51, h_52, X_53, e_54, W_55, st_56⟩ := putF X_47 hx hZ hown (host := "") (Or.inl (w88 hw)) Via.refl e_48 F_45 E_50 (Or.inl (w89 hw)) (w51 hw) (ty := .int) (by decide) rfl rfl (g := (mkF m 40 #[VR sb, VR x, VI nn] [(.int (cnt + nn)), (.ref sb)])) rfl rfl (hb hby d23_40)
 have N_57 := Fr.snoc X_53 N_44 hp10
 have F_58 : Fld Z h_52 sb "java/lang/AbstractStringBuilder" "count" "I" (.int (cnt + nn)) := F_45.same W_55
 have C_59 : Steps p.tables e below S0 (T_51.setTop (mkF m 44 #[VR sb, VR x, VI nn] [(.ref sb)])) := by
  refine C0.trans ?_
  refine XS.aloadN X0.here hx rfl (hb hby d23_0) rfl rfl ?_
  refine XS.ifnonnullYes X0.here hx rfl (pc0 := 1) (pc' := 9) rfl (hb hby d23_1) rfl (by decide) (by decide) ?_
  refine XS.aloadN X0.here hx rfl (hb hby d23_9) rfl rfl ?_
  refine st_1.trans ?_
  refine XS.istoreN X_1.here hx rfl (hb hby d23_13) rfl (l' := #[VR sb, VR x, VI nn]) rfl ?_
  refine XS.aloadN X_1.here hx rfl (hb hby d23_14) rfl rfl ?_
  refine XS.aloadN X_1.here hx rfl (hb hby d23_15) rfl rfl ?_
  refine st_14 _ ?_
  show Steps p.tables e below (T_11.setTop (mkF m 19 #[VR sb, VR x, VI nn] [(.int cnt), (.ref sb)])) _
  refine XS.iloadN X_12.here hx rfl (hb hby d23_19) rfl ?_
  refine XS.iadd X_12.here hx rfl (hb hby d23_20) rfl ?_
  refine st_15.trans ?_
  refine XS.aloadN X_15.here hx rfl (hb hby d23_24) rfl rfl ?_
  refine XS.aloadN X_15.here hx rfl (hb hby d23_25) rfl rfl ?_
  refine st_31 _ ?_
  refine XS.aloadN X_29.here hx rfl (hb hby d23_29) rfl rfl ?_
  refine st_32.trans ?_
  show Steps p.tables e below (T_32.setTop (mkF m 33 #[VR sb, VR x, VI nn] [])) _
  refine XS.aloadN X_32.here hx rfl (hb hby d23_33) rfl rfl ?_
  refine XS.dup X_32.here hx rfl (hb hby d23_34) rfl rfl ?_
  refine st_49 _ ?_
  refine XS.iloadN X_47.here hx rfl (hb hby d23_38) rfl ?_
  refine XS.iadd X_47.here hx rfl (hb hby d23_39) rfl ?_
  refine st_56 _ ?_
  refine XS.aloadN X_53.here hx rfl (hb hby d23_43) rfl rfl ?_
  exact Steps.refl _
 have E_60 : Exa Z h_52 sb "java/lang/StringBuilder" := (E_50.wr W_55)
 have F_61 : Fld Z h_52 sb "java/lang/AbstractStringBuilder" "value" "[B" (.ref vv) := ((hp1.keep K_42 (ninS hp12 nin0)).other W_55 (Or.inr (slot_ne (Or.inl (w65 hw)) (Or.inl (w89 hw)) (by decide) (t := (.array .byte)) (by decide) (t' := .int) (by decide))))
 have F_62 : Fld Z h_52 sb "java/lang/AbstractStringBuilder" "coder" "B" (.int 0) := ((hp2.keep K_42 (ninS hp12 nin0)).other W_55 (Or.inr (slot_ne (Or.inl (w67 hw)) (Or.inl (w89 hw)) (by decide) (t := .byte) (by decide) (t' := .int) (by decide))))
 have V_63 : Arv Z h_52 vv kv .byte cap (own_iv (own_sb (ff ++ bs) cap.toNatClampNeg)) (.int 0) := (g_43.other W_55 (Ne.symm hp12))
 have E_64 : Exa Z h_52 vv "[B" := ((hp9.keep K_42).wr W_55)
 have K_65 : Keep h0 h_52 [sb, vv] := (((Keep.refl _ _).trans K_42 (allS (Or.inl (List.mem_of_getElem? (i := 1) rfl)) all0)).wr W_55 (Or.inl (List.mem_of_getElem? (i := 0) rfl)))
 obtain ⟨fs, hr, hrun, hended, hW, hsame⟩ := X_53.leave (v := some (.ref sb)) (fun h => by rw [Bd.returns] at h; cases h)
 refine ⟨_, _, C_59.trans (retOut X_53 hx Bd.returns rfl (Or.inr (Or.inr (Or.inr (Or.inr ⟨rfl, rfl, rfl⟩)))) (hb hby d23_44) hr), hrun, hended, _, _, rfl, ?_, ⟨_, rfl⟩, hW, hsame.mono (by decide) (by decide)⟩
 show Q_app Z G1 G3 g1 kg1 g2 kg2 uS sS sb vv kv cap ff cnt x t kt nn bs h0 n0 (some (.ref sb)) T_51.heap _
 rw [e_54]
 exact ⟨rfl, N_57, K_65, E_60, F_61, F_62, F_58, V_63, E_64, (own_app1 hc0 hn0 hcn hl1 hfit h64).1, (own_app1 hc0 hn0 hcn hl1 hfit h64).2⟩
abbrev M480 : MethodName := ⟨"java/lang/StringBuilder", "append", "(Ljava/lang/String;)Ljava/lang/StringBuilder;"⟩
theorem d24_0 : decode jdk_67_method_7_code 0 = .ok (.aload_n 0, 1) := by decide +kernel
theorem d24_1 : decode jdk_67_method_7_code 1 = .ok (.aload_n 1, 1) := by decide +kernel
theorem w77 {Z a0} (hw : HW Z a0) : Cond.before (Cond.code (⟨"java/lang/AbstractStringBuilder", "append", "(Ljava/lang/String;)Ljava/lang/AbstractStringBuilder;"⟩ : MethodName) jdk_68_method_22_code (3 : Nat) (Option.some (FieldType.object "java/lang/AbstractStringBuilder"))) a0 Z = true := hw _ (List.mem_of_getElem? (i := 77) rfl)
theorem pd_484 : parseMethodDescriptor "(Ljava/lang/String;)Ljava/lang/AbstractStringBuilder;" = some ⟨[(.object "java/lang/String")], some (.object "java/lang/AbstractStringBuilder")⟩ := by decide +kernel
theorem d24_2 : decode jdk_67_method_7_code 2 = .ok (.invokespecial 29, 3) := by decide +kernel
theorem w73 {Z a0} (hw : HW Z a0) : Cond.before (Cond.methodLink "java/lang/StringBuilder" (29 : Nat) (⟨"java/lang/AbstractStringBuilder", "append", "(Ljava/lang/String;)Ljava/lang/AbstractStringBuilder;"⟩ : MethodName)) a0 Z = true := hw _ (List.mem_of_getElem? (i := 73) rfl)
theorem w75 {Z a0} (hw : HW Z a0) : Cond.before (Cond.superclass "java/lang/StringBuilder" "java/lang/AbstractStringBuilder") a0 Z = true := hw _ (List.mem_of_getElem? (i := 75) rfl)
theorem w76 {Z a0} (hw : HW Z a0) : Cond.before (Cond.declares (⟨"java/lang/AbstractStringBuilder", "append", "(Ljava/lang/String;)Ljava/lang/AbstractStringBuilder;"⟩ : MethodName)) a0 Z = true := hw _ (List.mem_of_getElem? (i := 76) rfl)
theorem w74 {Z a0} (hw : HW Z a0) : Cond.before (Cond.instanceMethod (⟨"java/lang/AbstractStringBuilder", "append", "(Ljava/lang/String;)Ljava/lang/AbstractStringBuilder;"⟩ : MethodName)) a0 Z = true := hw _ (List.mem_of_getElem? (i := 74) rfl)
theorem d24_5 : decode jdk_67_method_7_code 5 = .ok (.pop, 1) := by decide +kernel
theorem d24_6 : decode jdk_67_method_7_code 6 = .ok (.aload_n 0, 1) := by decide +kernel
theorem d24_7 : decode jdk_67_method_7_code 7 = .ok (.areturn, 1) := by decide +kernel
abbrev R_sappG : Room := { frames := 5, cells := 1, slots := 34, locals := 76 }
def Q_sappG (Z : State) (G1 : Int32) (G3 : Value) (g1 : Addr) (kg1 : ClassId) (g2 : Addr) (kg2 : ClassId) (uS : Value) (sS : Value) (sb : Addr) (vv : Addr) (kv : ClassId) (ff : List Int32) (x : Addr) (t : Addr) (kt : ClassId) (bs : List Int32) (h0 : Heap) (n0 : Nat) (v : Option Value) (h : Heap) (L : List Loc) : Prop := (∃ w : Addr, ∃ kw : ClassId, v = some (.ref sb) ∧ Fr n0 L ∧ Keep h0 h [sb] ∧ (Exa Z h sb "java/lang/StringBuilder") ∧ (Fld Z h sb "java/lang/AbstractStringBuilder" "value" "[B" (.ref w)) ∧ (Fld Z h sb "java/lang/AbstractStringBuilder" "coder" "B" (.int 0)) ∧ (Fld Z h sb "java/lang/AbstractStringBuilder" "count" "I" (.int 17)) ∧ (h0.size ≤ w) ∧ (Exa Z h w "[B") ∧ (Arv Z h w kw .byte (34 : Int32) (own_iv (own_sb (ff ++ bs) (34 : Int32).toNatClampNeg)) (.int 0)) ∧ ((17 : Int32).toNatClampNeg = (ff ++ bs).length))
theorem rm_sappG (l : Launch) (Z : State) (a0 : Array Value) (hw : HW Z a0) (ws : List Jvm.Cond) (G1 : Int32) (G3 : Value) (g1 : Addr) (kg1 : ClassId) (g2 : Addr) (kg2 : ClassId) (uS : Value) (sS : Value) (HG : own_G l Z a0 G1 G3 g1 kg1 g2 kg2 uS sS) (h0 : Heap) (n0 : Nat) (X00 : Old Z n0 h0) (sb : Addr) (vv : Addr) (kv : ClassId) (ff : List Int32) (x : Addr) (t : Addr) (kt : ClassId) (bs : List Int32) (hp0 : Exa Z h0 sb "java/lang/StringBuilder") (hp1 : Fld Z h0 sb "java/lang/AbstractStringBuilder" "value" "[B" (.ref vv)) (hp2 : Fld Z h0 sb "java/lang/AbstractStringBuilder" "coder" "B" (.int 0)) (hp3 : Fld Z h0 sb "java/lang/AbstractStringBuilder" "count" "I" (.int 15)) (hp4 : Exa Z h0 x "java/lang/String") (hp5 : Fld Z h0 x "java/lang/String" "coder" "B" (.int 0)) (hp6 : Fld Z h0 x "java/lang/String" "value" "[B" (.ref t)) (hp7 : Arv Z h0 t kt .byte (2 : Int32) (own_iv bs) (.int 0)) (hp8 : Arv Z h0 vv kv .byte (16 : Int32) (own_iv (own_sb ff (16 : Int32).toNatClampNeg)) (.int 0)) (hp9 : Exa Z h0 vv "[B") (hp10 : n0 ≤ sb) (hp11 : sb ≠ vv) (hp12 : sb ≠ x) (hf15 : ff.length = 15) (hb2 : bs.length = 2) :
  own_CP l Z M480 jdk_67_method_7_code 2 (some (.object "java/lang/StringBuilder")) ws R_sappG #[(.ref sb), (.ref x)] h0 (Q_sappG Z G1 G3 g1 kg1 g2 kg2 uS sS sb vv kv ff x t kt bs h0 n0) := by
 refine own_P (plainFor_of_name pn_230) ?_
 intro p e s m below meth c s₁ S0 Bd hZ hh hx hby hml hown hnm X0 e0 hS0d
 obtain ⟨O1, P1, O3f, rG3, Sg1, Dg1, Sg2, Dg2, hLT, OU, rU, OS, rS⟩ := id HG
 have N0 := Fr.nil n0
 have C0 : Steps p.tables e below S0 (s₁.setTop (mkF m 0 #[VR sb, VR x] [])) := by rw [hS0d]; exact castTop (ef_100 m sb x) (Steps.refl _)
 obtain ⟨q_2, q_3, q_4, q_5, q_6⟩ := isOf (T := s₁) hZ e0 hp0
 obtain ⟨_, _, ⟨T_1, L_1, k_1, n_1⟩, -, X_1, ⟨Lc_1, hQ_1, l_1, y_1, z_1⟩, st_1⟩ := own_superBack X0 hx (y := M436) hown (mvT hZ (w73 hw)) (mvT hZ (w75 hw)) (mvT hZ (w76 hw)) (mvT hZ (w74 hw)) (own_nfc (args := #[]) (mvT hZ (w93 hw)) rfl) (by decide) (by decide) (backOf (W := 0) (rm_appG l Z a0 hw [] G1 G3 g1 kg1 g2 kg2 uS sS HG h0 n0 X00 sb vv kv ff x t kt bs hp0 hp1 hp2 hp3 hp4 hp5 hp6 hp7 hp8 hp9 hp10 hp11 hp12 hf15 hb2) hZ (w77 hw) (w60 hw) (by decide) (by decide)) q_5 q_6 (g := (mkF m 2 #[VR sb, VR x] [(.ref x), (.ref sb)])) rfl (by rw [hml]; rfl) (Steps.refl _) (argsL := [(.ref x)]) (rest := []) (lenOf pd_484 rfl) rfl (by show 2 * 0 + _ ≤ _; exact Nat.le_of_eq rfl) (hb hby d24_2) (fun _ _ => ⟨rfl, e0, (by decide : 0 + 1 ≤ _), (by decide : 0 + 34 ≤ _)⟩)
 dsimp only [Pt.U, Pt.locs, Pt.cells, Pt.slots] at X_1 l_1 y_1 z_1 st_1 hQ_1
 have X_1 := own_cast X_1 l_1 y_1 z_1
 obtain ⟨a_7, k_8, rfl, N_9, K_10, g_11, g_12, g_13, g_14, g_15, g_16, g_17, g_18⟩ := hQ_1
 have N_19 := Fr.app N0 N_9
 have C_20 : Steps p.tables e below S0 (T_1.setTop (mkF m 7 #[VR sb, VR x] [(.ref sb)])) := by
  refine C0.trans ?_
  refine XS.aloadN X0.here hx rfl (hb hby d24_0) rfl rfl ?_
  refine XS.aloadN X0.here hx rfl (hb hby d24_1) rfl rfl ?_
  refine st_1.trans ?_
  refine XS.pop X_1.here hx rfl (hb hby d24_5) rfl rfl ?_
  refine XS.aloadN X_1.here hx rfl (hb hby d24_6) rfl rfl ?_
  exact Steps.refl _
 have K_21 : Keep h0 T_1.heap [sb] := ((Keep.refl _ _).trans K_10 (allS (Or.inl (List.mem_of_getElem? (i := 0) rfl)) all0))
 obtain ⟨fs, hr, hrun, hended, hW, hsame⟩ := X_1.leave (v := some (.ref sb)) (fun h => by rw [Bd.returns] at h; cases h)
 refine ⟨_, _, C_20.trans (retOut X_1 hx Bd.returns rfl (Or.inr (Or.inr (Or.inr (Or.inr ⟨rfl, rfl, rfl⟩)))) (hb hby d24_7) hr), hrun, hended, _, _, rfl, ?_, ⟨_, rfl⟩, hW, hsame.mono (by decide) (by decide)⟩
 show Q_sappG Z G1 G3 g1 kg1 g2 kg2 uS sS sb vv kv ff x t kt bs h0 n0 (some (.ref sb)) T_1.heap _
 exact ⟨a_7, k_8, rfl, N_19, K_21, g_11, g_12, g_13, g_14, (Nat.le_trans (Nat.le_refl _) g_15), g_16, g_17, g_18⟩
abbrev R_sapp : Room := { frames := 4, cells := 0, slots := 0, locals := 61 }
def Q_sapp (Z : State) (G1 : Int32) (G3 : Value) (g1 : Addr) (kg1 : ClassId) (g2 : Addr) (kg2 : ClassId) (uS : Value) (sS : Value) (sb : Addr) (vv : Addr) (kv : ClassId) (cap : Int32) (ff : List Int32) (cnt : Int32) (x : Addr) (t : Addr) (kt : ClassId) (nn : Int32) (bs : List Int32) (h0 : Heap) (n0 : Nat) (v : Option Value) (h : Heap) (L : List Loc) : Prop := (v = some (.ref sb) ∧ Fr n0 L ∧ Keep h0 h [sb, vv] ∧ (Exa Z h sb "java/lang/StringBuilder") ∧ (Fld Z h sb "java/lang/AbstractStringBuilder" "value" "[B" (.ref vv)) ∧ (Fld Z h sb "java/lang/AbstractStringBuilder" "coder" "B" (.int 0)) ∧ (Fld Z h sb "java/lang/AbstractStringBuilder" "count" "I" (.int (cnt + nn))) ∧ (Arv Z h vv kv .byte cap (own_iv (own_sb (ff ++ bs) cap.toNatClampNeg)) (.int 0)) ∧ (Exa Z h vv "[B") ∧ ((cnt + nn).toNatClampNeg = (ff ++ bs).length) ∧ (¬ ((cnt + nn) < (0 : Int32))))
theorem rm_sapp (l : Launch) (Z : State) (a0 : Array Value) (hw : HW Z a0) (ws : List Jvm.Cond) (G1 : Int32) (G3 : Value) (g1 : Addr) (kg1 : ClassId) (g2 : Addr) (kg2 : ClassId) (uS : Value) (sS : Value) (HG : own_G l Z a0 G1 G3 g1 kg1 g2 kg2 uS sS) (h0 : Heap) (n0 : Nat) (X00 : Old Z n0 h0) (sb : Addr) (vv : Addr) (kv : ClassId) (cap : Int32) (ff : List Int32) (cnt : Int32) (x : Addr) (t : Addr) (kt : ClassId) (nn : Int32) (bs : List Int32) (hp0 : Exa Z h0 sb "java/lang/StringBuilder") (hp1 : Fld Z h0 sb "java/lang/AbstractStringBuilder" "value" "[B" (.ref vv)) (hp2 : Fld Z h0 sb "java/lang/AbstractStringBuilder" "coder" "B" (.int 0)) (hp3 : Fld Z h0 sb "java/lang/AbstractStringBuilder" "count" "I" (.int cnt)) (hp4 : Exa Z h0 x "java/lang/String") (hp5 : Fld Z h0 x "java/lang/String" "coder" "B" (.int 0)) (hp6 : Fld Z h0 x "java/lang/String" "value" "[B" (.ref t)) (hp7 : Arv Z h0 t kt .byte nn (own_iv bs) (.int 0)) (hp8 : Arv Z h0 vv kv .byte cap (own_iv (own_sb ff cap.toNatClampNeg)) (.int 0)) (hp9 : Exa Z h0 vv "[B") (hp10 : n0 ≤ sb) (hp11 : n0 ≤ vv) (hp12 : sb ≠ vv) (hp13 : sb ≠ x) (hc0 : ¬ (cnt < (0 : Int32))) (hz : ¬ (cap < (0 : Int32))) (hcn : cnt.toNatClampNeg = ff.length) (h64 : cap.toNatClampNeg ≤ 64) (hn0 : ¬ (nn < (0 : Int32))) (hl1 : bs.length = nn.toNatClampNeg) (hfit : ff.length + bs.length ≤ cap.toNatClampNeg) :
  own_CP l Z M480 jdk_67_method_7_code 2 (some (.object "java/lang/StringBuilder")) ws R_sapp #[(.ref sb), (.ref x)] h0 (Q_sapp Z G1 G3 g1 kg1 g2 kg2 uS sS sb vv kv cap ff cnt x t kt nn bs h0 n0) := by
 refine own_P (plainFor_of_name pn_230) ?_
 intro p e s m below meth c s₁ S0 Bd hZ hh hx hby hml hown hnm X0 e0 hS0d
 obtain ⟨O1, P1, O3f, rG3, Sg1, Dg1, Sg2, Dg2, hLT, OU, rU, OS, rS⟩ := id HG
 have N0 := Fr.nil n0
 have C0 : Steps p.tables e below S0 (s₁.setTop (mkF m 0 #[VR sb, VR x] [])) := by rw [hS0d]; exact castTop (ef_100 m sb x) (Steps.refl _)
 obtain ⟨q_2, q_3, q_4, q_5, q_6⟩ := isOf (T := s₁) hZ e0 hp0
 obtain ⟨_, _, ⟨T_1, L_1, k_1, n_1⟩, -, X_1, ⟨Lc_1, hQ_1, l_1, y_1, z_1⟩, st_1⟩ := own_superBack X0 hx (y := M436) hown (mvT hZ (w73 hw)) (mvT hZ (w75 hw)) (mvT hZ (w76 hw)) (mvT hZ (w74 hw)) (own_nfc (args := #[]) (mvT hZ (w93 hw)) rfl) (by decide) (by decide) (backOf (W := 0) (rm_app l Z a0 hw [] G1 G3 g1 kg1 g2 kg2 uS sS HG h0 n0 X00 sb vv kv cap ff cnt x t kt nn bs hp0 hp1 hp2 hp3 hp4 hp5 hp6 hp7 hp8 hp9 hp10 hp11 hp12 hp13 hc0 hz hcn h64 hn0 hl1 hfit) hZ (w77 hw) (w60 hw) (by decide) (by decide)) q_5 q_6 (g := (mkF m 2 #[VR sb, VR x] [(.ref x), (.ref sb)])) rfl (by rw [hml]; rfl) (Steps.refl _) (argsL := [(.ref x)]) (rest := []) (lenOf pd_484 rfl) rfl (by show 2 * 0 + _ ≤ _; exact Nat.le_of_eq rfl) (hb hby d24_2) (fun _ _ => ⟨rfl, e0, (by decide : 0 + 0 ≤ _), (by decide : 0 + 0 ≤ _)⟩)
 dsimp only [Pt.U, Pt.locs, Pt.cells, Pt.slots] at X_1 l_1 y_1 z_1 st_1 hQ_1
 have X_1 := own_cast X_1 l_1 y_1 z_1
 obtain ⟨rfl, N_7, K_8, g_9, g_10, g_11, g_12, g_13, g_14, g_15, g_16⟩ := hQ_1
 have N_17 := Fr.app N0 N_7
 have C_18 : Steps p.tables e below S0 (T_1.setTop (mkF m 7 #[VR sb, VR x] [(.ref sb)])) := by
  refine C0.trans ?_
  refine XS.aloadN X0.here hx rfl (hb hby d24_0) rfl rfl ?_
  refine XS.aloadN X0.here hx rfl (hb hby d24_1) rfl rfl ?_
  refine st_1.trans ?_
  refine XS.pop X_1.here hx rfl (hb hby d24_5) rfl rfl ?_
  refine XS.aloadN X_1.here hx rfl (hb hby d24_6) rfl rfl ?_
  exact Steps.refl _
 have K_19 : Keep h0 T_1.heap [sb, vv] := ((Keep.refl _ _).trans K_8 (allS (Or.inl (List.mem_of_getElem? (i := 0) rfl)) (allS (Or.inl (List.mem_of_getElem? (i := 1) rfl)) all0)))
 obtain ⟨fs, hr, hrun, hended, hW, hsame⟩ := X_1.leave (v := some (.ref sb)) (fun h => by rw [Bd.returns] at h; cases h)
 refine ⟨_, _, C_18.trans (retOut X_1 hx Bd.returns rfl (Or.inr (Or.inr (Or.inr (Or.inr ⟨rfl, rfl, rfl⟩)))) (hb hby d24_7) hr), hrun, hended, _, _, rfl, ?_, ⟨_, rfl⟩, hW, hsame.mono (by decide) (by decide)⟩
 show Q_sapp Z G1 G3 g1 kg1 g2 kg2 uS sS sb vv kv cap ff cnt x t kt nn bs h0 n0 (some (.ref sb)) T_1.heap _
 exact ⟨rfl, N_17, K_19, g_9, g_10, g_11, g_12, g_13, g_14, g_15, g_16⟩
abbrev M493 : MethodName := ⟨"java/lang/Integer", "stringSize", "(I)I"⟩
theorem ef_494 (m : MethodId) (x0 : Int32) : entryFrame m #[(.int x0)] 4 = mkF m 0 #[VI x0, .unset, .unset, .unset] [] := by first | (simp [entryFrame, mkF, argsToLocals, Value.category]; done) | rfl
theorem pn_495 : plainName "java/lang/Integer" = true := by first | (simp [plainName, overriddenIn]; done) | decide +kernel
theorem d25_0 : decode jdk_33_method_13_code 0 = .ok (.iconst 1, 1) := by decide +kernel
theorem d25_1 : decode jdk_33_method_13_code 1 = .ok (.istore_n 1, 1) := by decide +kernel
theorem d25_2 : decode jdk_33_method_13_code 2 = .ok (.iload_n 0, 1) := by decide +kernel
theorem d25_3 : decode jdk_33_method_13_code 3 = .ok (.ifCond .lt 8, 3) := by decide +kernel
theorem d25_6 : decode jdk_33_method_13_code 6 = .ok (.iconst 0, 1) := by decide +kernel
theorem d25_7 : decode jdk_33_method_13_code 7 = .ok (.istore_n 1, 1) := by decide +kernel
theorem d25_8 : decode jdk_33_method_13_code 8 = .ok (.iload_n 0, 1) := by decide +kernel
theorem d25_9 : decode jdk_33_method_13_code 9 = .ok (.ineg, 1) := by decide +kernel
theorem d25_10 : decode jdk_33_method_13_code 10 = .ok (.istore_n 0, 1) := by decide +kernel
theorem d25_11 : decode jdk_33_method_13_code 11 = .ok (.bipush (-10), 2) := by decide +kernel
theorem d25_13 : decode jdk_33_method_13_code 13 = .ok (.istore_n 2, 1) := by decide +kernel
theorem d25_14 : decode jdk_33_method_13_code 14 = .ok (.iconst 1, 1) := by decide +kernel
theorem d25_15 : decode jdk_33_method_13_code 15 = .ok (.istore_n 3, 1) := by decide +kernel
theorem d25_16 : decode jdk_33_method_13_code 16 = .ok (.iload_n 3, 1) := by decide +kernel
theorem d25_17 : decode jdk_33_method_13_code 17 = .ok (.bipush 10, 2) := by decide +kernel
theorem d25_19 : decode jdk_33_method_13_code 19 = .ok (.if_icmp .ge 23, 3) := by decide +kernel
theorem d25_22 : decode jdk_33_method_13_code 22 = .ok (.iload_n 0, 1) := by decide +kernel
theorem d25_23 : decode jdk_33_method_13_code 23 = .ok (.iload_n 2, 1) := by decide +kernel
theorem d25_24 : decode jdk_33_method_13_code 24 = .ok (.if_icmp .le 7, 3) := by decide +kernel
theorem d25_27 : decode jdk_33_method_13_code 27 = .ok (.iload_n 3, 1) := by decide +kernel
theorem d25_28 : decode jdk_33_method_13_code 28 = .ok (.iload_n 1, 1) := by decide +kernel
theorem d25_29 : decode jdk_33_method_13_code 29 = .ok (.iadd, 1) := by decide +kernel
theorem d25_30 : decode jdk_33_method_13_code 30 = .ok (.ireturn, 1) := by decide +kernel
theorem d25_31 : decode jdk_33_method_13_code 31 = .ok (.bipush 10, 2) := by decide +kernel
theorem d25_33 : decode jdk_33_method_13_code 33 = .ok (.iload_n 2, 1) := by decide +kernel
theorem d25_34 : decode jdk_33_method_13_code 34 = .ok (.imul, 1) := by decide +kernel
theorem d25_35 : decode jdk_33_method_13_code 35 = .ok (.istore_n 2, 1) := by decide +kernel
theorem d25_36 : decode jdk_33_method_13_code 36 = .ok (.iinc 3 1, 3) := by decide +kernel
theorem d25_39 : decode jdk_33_method_13_code 39 = .ok (.goto (-23), 3) := by decide +kernel
theorem d25_42 : decode jdk_33_method_13_code 42 = .ok (.bipush 10, 2) := by decide +kernel
theorem d25_44 : decode jdk_33_method_13_code 44 = .ok (.iload_n 1, 1) := by decide +kernel
theorem d25_45 : decode jdk_33_method_13_code 45 = .ok (.iadd, 1) := by decide +kernel
theorem d25_46 : decode jdk_33_method_13_code 46 = .ok (.ireturn, 1) := by decide +kernel
abbrev R_ssz : Room := { frames := 0, cells := 0, slots := 0, locals := 0 }
def Q_ssz (Z : State) (G1 : Int32) (G3 : Value) (g1 : Addr) (kg1 : ClassId) (g2 : Addr) (kg2 : ClassId) (uS : Value) (sS : Value) (ii : Int32) (h0 : Heap) (n0 : Nat) (v : Option Value) (h : Heap) (L : List Loc) : Prop := (v = some (.int (own_ssz ii)) ∧ Fr n0 L ∧ h = h0)
theorem rm_ssz (l : Launch) (Z : State) (a0 : Array Value) (hw : HW Z a0) (ws : List Jvm.Cond) (G1 : Int32) (G3 : Value) (g1 : Addr) (kg1 : ClassId) (g2 : Addr) (kg2 : ClassId) (uS : Value) (sS : Value) (HG : own_G l Z a0 G1 G3 g1 kg1 g2 kg2 uS sS) (h0 : Heap) (n0 : Nat) (X00 : Old Z n0 h0) (ii : Int32) (hpos : (0 : Int32) < ii) :
  own_CP l Z M493 jdk_33_method_13_code 4 (some .int) ws R_ssz #[(.int ii)] h0 (Q_ssz Z G1 G3 g1 kg1 g2 kg2 uS sS ii h0 n0) := by
 refine own_P (plainFor_of_name pn_495) ?_
 intro p e s m below meth c s₁ S0 Bd hZ hh hx hby hml hown hnm X0 e0 hS0d
 obtain ⟨O1, P1, O3f, rG3, Sg1, Dg1, Sg2, Dg2, hLT, OU, rU, OS, rS⟩ := id HG
 have N0 := Fr.nil n0
 have C0 : Steps p.tables e below S0 (s₁.setTop (mkF m 0 #[VI ii, .unset, .unset, .unset] [])) := by rw [hS0d]; exact castTop (ef_494 m ii) (Steps.refl _)
 have C_1 : Steps p.tables e below S0 (s₁.setTop (mkF m 24 #[.val (.int (-ii)), VI 0, .val (.int (-10 : Int32)), VI 1] [(.int (-10 : Int32)), (.int (-ii))])) := by
  refine C0.trans ?_
  refine XS.iconst X0.here hx rfl (hb hby d25_0) ?_
  refine XS.istoreN X0.here hx rfl (hb hby d25_1) rfl (l' := #[VI ii, VI 1, .unset, .unset]) rfl ?_
  refine XS.iloadN X0.here hx rfl (hb hby d25_2) rfl ?_
  refine XS.ifNo X0.here hx rfl (hb hby d25_3) rfl (i0_lt_f (own_posn hpos)) ?_
  refine XS.iconst X0.here hx rfl (hb hby d25_6) ?_
  refine XS.istoreN X0.here hx rfl (hb hby d25_7) rfl (l' := #[VI ii, VI 0, .unset, .unset]) rfl ?_
  refine XS.iloadN X0.here hx rfl (hb hby d25_8) rfl ?_
  refine XS.ineg X0.here hx rfl (hb hby d25_9) rfl ?_
  show Steps p.tables e below (s₁.setTop (mkF m 10 #[VI ii, VI 0, .unset, .unset] [(.int (-ii))])) _
  refine XS.istoreN X0.here hx rfl (hb hby d25_10) rfl (l' := #[.val (.int (-ii)), VI 0, .unset, .unset]) rfl ?_
  refine XS.bipush X0.here hx rfl (hb hby d25_11) ?_
  refine XS.istoreN X0.here hx rfl (hb hby d25_13) rfl (l' := #[.val (.int (-ii)), VI 0, .val (.int (-10 : Int32)), .unset]) rfl ?_
  refine XS.iconst X0.here hx rfl (hb hby d25_14) ?_
  refine XS.istoreN X0.here hx rfl (hb hby d25_15) rfl (l' := #[.val (.int (-ii)), VI 0, .val (.int (-10 : Int32)), VI 1]) rfl ?_
  refine XS.iloadN X0.here hx rfl (hb hby d25_16) rfl ?_
  refine XS.bipush X0.here hx rfl (hb hby d25_17) ?_
  refine XS.icmpNo X0.here hx rfl (hb hby d25_19) rfl (by decide) ?_
  show Steps p.tables e below (s₁.setTop (mkF m 22 #[.val (.int (-ii)), VI 0, .val (.int (-10 : Int32)), VI 1] [])) _
  refine XS.iloadN X0.here hx rfl (hb hby d25_22) rfl ?_
  refine XS.iloadN X0.here hx rfl (hb hby d25_23) rfl ?_
  exact Steps.refl _
 by_cases hc_2 : (-10 : Int32) < (-ii)
 ·skip
  have C_3 : Steps p.tables e below S0 (s₁.setTop (mkF m 30 #[.val (.int (-ii)), VI 0, .val (.int (-10 : Int32)), VI 1] [(.int 1)])) := by
   refine C_1.trans ?_
   refine XS.icmpNo X0.here hx rfl (hb hby d25_24) rfl (ii_le_f hc_2) ?_
   refine XS.iloadN X0.here hx rfl (hb hby d25_27) rfl ?_
   refine XS.iloadN X0.here hx rfl (hb hby d25_28) rfl ?_
   refine XS.iadd X0.here hx rfl (hb hby d25_29) rfl ?_
   exact Steps.refl _
  obtain ⟨fs, hr, hrun, hended, hW, hsame⟩ := X0.leave (v := some (.int 1)) (fun h => by rw [Bd.returns] at h; cases h)
  refine ⟨_, _, C_3.trans (retOut X0 hx Bd.returns rfl (Or.inl ⟨rfl, Or.inl rfl, _, rfl⟩) (hb hby d25_30) hr), hrun, hended, _, _, rfl, ?_, ⟨_, rfl⟩, hW, hsame.mono (by decide) (by decide)⟩
  show Q_ssz Z G1 G3 g1 kg1 g2 kg2 uS sS ii h0 n0 (some (.int 1)) s₁.heap _
  rw [e0]
  exact ⟨(congrArg (fun q => some (Value.int q)) (by unfold own_ssz own_dn; rw [if_pos ((own_ng hpos (by decide)).mp hc_2)]; rfl)), N0, rfl⟩
 ·skip
  have C_4 : Steps p.tables e below S0 (s₁.setTop (mkF m 24 #[.val (.int (-ii)), VI 0, .val (.int (-100 : Int32)), VI 2] [(.int (-100 : Int32)), (.int (-ii))])) := by
   refine C_1.trans ?_
   refine XS.icmpYes X0.here hx rfl (pc0 := 24) (pc' := 31) rfl (hb hby d25_24) rfl (ii_le_t hc_2) (by decide) (by decide) ?_
   refine XS.bipush X0.here hx rfl (hb hby d25_31) ?_
   refine XS.iloadN X0.here hx rfl (hb hby d25_33) rfl ?_
   refine XS.imul X0.here hx rfl (hb hby d25_34) rfl ?_
   refine XS.istoreN X0.here hx rfl (hb hby d25_35) rfl (l' := #[.val (.int (-ii)), VI 0, .val (.int (-100 : Int32)), VI 1]) rfl ?_
   refine XS.iinc X0.here hx rfl (hb hby d25_36) (x := (1 : Int32)) rfl (l' := #[.val (.int (-ii)), VI 0, .val (.int (-100 : Int32)), VI 2]) rfl ?_
   refine XS.goto X0.here hx rfl (pc0 := 39) (pc' := 16) rfl (hb hby d25_39) (by decide) (by decide) ?_
   refine XS.iloadN X0.here hx rfl (hb hby d25_16) rfl ?_
   show Steps p.tables e below (s₁.setTop (mkF m 17 #[.val (.int (-ii)), VI 0, .val (.int (-100 : Int32)), VI 2] [(.int 2)])) _
   refine XS.bipush X0.here hx rfl (hb hby d25_17) ?_
   refine XS.icmpNo X0.here hx rfl (hb hby d25_19) rfl (by decide) ?_
   refine XS.iloadN X0.here hx rfl (hb hby d25_22) rfl ?_
   refine XS.iloadN X0.here hx rfl (hb hby d25_23) rfl ?_
   exact Steps.refl _
  by_cases hc_5 : (-100 : Int32) < (-ii)
  ·skip
   have C_6 : Steps p.tables e below S0 (s₁.setTop (mkF m 30 #[.val (.int (-ii)), VI 0, .val (.int (-100 : Int32)), VI 2] [(.int 2)])) := by
    refine C_4.trans ?_
    refine XS.icmpNo X0.here hx rfl (hb hby d25_24) rfl (ii_le_f hc_5) ?_
    refine XS.iloadN X0.here hx rfl (hb hby d25_27) rfl ?_
    refine XS.iloadN X0.here hx rfl (hb hby d25_28) rfl ?_
    refine XS.iadd X0.here hx rfl (hb hby d25_29) rfl ?_
    exact Steps.refl _
   obtain ⟨fs, hr, hrun, hended, hW, hsame⟩ := X0.leave (v := some (.int 2)) (fun h => by rw [Bd.returns] at h; cases h)
   refine ⟨_, _, C_6.trans (retOut X0 hx Bd.returns rfl (Or.inl ⟨rfl, Or.inl rfl, _, rfl⟩) (hb hby d25_30) hr), hrun, hended, _, _, rfl, ?_, ⟨_, rfl⟩, hW, hsame.mono (by decide) (by decide)⟩
   show Q_ssz Z G1 G3 g1 kg1 g2 kg2 uS sS ii h0 n0 (some (.int 2)) s₁.heap _
   rw [e0]
   exact ⟨(congrArg (fun q => some (Value.int q)) (by unfold own_ssz own_dn; rw [if_neg (fun q => hc_2 ((own_ng hpos (by decide)).mpr q)), if_pos ((own_ng hpos (by decide)).mp hc_5)]; rfl)), N0, rfl⟩
  ·skip
   have C_7 : Steps p.tables e below S0 (s₁.setTop (mkF m 24 #[.val (.int (-ii)), VI 0, .val (.int (-1000 : Int32)), VI 3] [(.int (-1000 : Int32)), (.int (-ii))])) := by
    refine C_4.trans ?_
    refine XS.icmpYes X0.here hx rfl (pc0 := 24) (pc' := 31) rfl (hb hby d25_24) rfl (ii_le_t hc_5) (by decide) (by decide) ?_
    refine XS.bipush X0.here hx rfl (hb hby d25_31) ?_
    refine XS.iloadN X0.here hx rfl (hb hby d25_33) rfl ?_
    refine XS.imul X0.here hx rfl (hb hby d25_34) rfl ?_
    refine XS.istoreN X0.here hx rfl (hb hby d25_35) rfl (l' := #[.val (.int (-ii)), VI 0, .val (.int (-1000 : Int32)), VI 2]) rfl ?_
    refine XS.iinc X0.here hx rfl (hb hby d25_36) (x := (2 : Int32)) rfl (l' := #[.val (.int (-ii)), VI 0, .val (.int (-1000 : Int32)), VI 3]) rfl ?_
    refine XS.goto X0.here hx rfl (pc0 := 39) (pc' := 16) rfl (hb hby d25_39) (by decide) (by decide) ?_
    refine XS.iloadN X0.here hx rfl (hb hby d25_16) rfl ?_
    show Steps p.tables e below (s₁.setTop (mkF m 17 #[.val (.int (-ii)), VI 0, .val (.int (-1000 : Int32)), VI 3] [(.int 3)])) _
    refine XS.bipush X0.here hx rfl (hb hby d25_17) ?_
    refine XS.icmpNo X0.here hx rfl (hb hby d25_19) rfl (by decide) ?_
    refine XS.iloadN X0.here hx rfl (hb hby d25_22) rfl ?_
    refine XS.iloadN X0.here hx rfl (hb hby d25_23) rfl ?_
    exact Steps.refl _
   by_cases hc_8 : (-1000 : Int32) < (-ii)
   ·skip
    have C_9 : Steps p.tables e below S0 (s₁.setTop (mkF m 30 #[.val (.int (-ii)), VI 0, .val (.int (-1000 : Int32)), VI 3] [(.int 3)])) := by
     refine C_7.trans ?_
     refine XS.icmpNo X0.here hx rfl (hb hby d25_24) rfl (ii_le_f hc_8) ?_
     refine XS.iloadN X0.here hx rfl (hb hby d25_27) rfl ?_
     refine XS.iloadN X0.here hx rfl (hb hby d25_28) rfl ?_
     refine XS.iadd X0.here hx rfl (hb hby d25_29) rfl ?_
     exact Steps.refl _
    obtain ⟨fs, hr, hrun, hended, hW, hsame⟩ := X0.leave (v := some (.int 3)) (fun h => by rw [Bd.returns] at h; cases h)
    refine ⟨_, _, C_9.trans (retOut X0 hx Bd.returns rfl (Or.inl ⟨rfl, Or.inl rfl, _, rfl⟩) (hb hby d25_30) hr), hrun, hended, _, _, rfl, ?_, ⟨_, rfl⟩, hW, hsame.mono (by decide) (by decide)⟩
    show Q_ssz Z G1 G3 g1 kg1 g2 kg2 uS sS ii h0 n0 (some (.int 3)) s₁.heap _
    rw [e0]
    exact ⟨(congrArg (fun q => some (Value.int q)) (by unfold own_ssz own_dn; rw [if_neg (fun q => hc_2 ((own_ng hpos (by decide)).mpr q)), if_neg (fun q => hc_5 ((own_ng hpos (by decide)).mpr q)), if_pos ((own_ng hpos (by decide)).mp hc_8)]; rfl)), N0, rfl⟩
   ·skip
    have C_10 : Steps p.tables e below S0 (s₁.setTop (mkF m 24 #[.val (.int (-ii)), VI 0, .val (.int (-10000 : Int32)), VI 4] [(.int (-10000 : Int32)), (.int (-ii))])) := by
     refine C_7.trans ?_
     refine XS.icmpYes X0.here hx rfl (pc0 := 24) (pc' := 31) rfl (hb hby d25_24) rfl (ii_le_t hc_8) (by decide) (by decide) ?_
     refine XS.bipush X0.here hx rfl (hb hby d25_31) ?_
     refine XS.iloadN X0.here hx rfl (hb hby d25_33) rfl ?_
     refine XS.imul X0.here hx rfl (hb hby d25_34) rfl ?_
     refine XS.istoreN X0.here hx rfl (hb hby d25_35) rfl (l' := #[.val (.int (-ii)), VI 0, .val (.int (-10000 : Int32)), VI 3]) rfl ?_
     refine XS.iinc X0.here hx rfl (hb hby d25_36) (x := (3 : Int32)) rfl (l' := #[.val (.int (-ii)), VI 0, .val (.int (-10000 : Int32)), VI 4]) rfl ?_
     refine XS.goto X0.here hx rfl (pc0 := 39) (pc' := 16) rfl (hb hby d25_39) (by decide) (by decide) ?_
     refine XS.iloadN X0.here hx rfl (hb hby d25_16) rfl ?_
     show Steps p.tables e below (s₁.setTop (mkF m 17 #[.val (.int (-ii)), VI 0, .val (.int (-10000 : Int32)), VI 4] [(.int 4)])) _
     refine XS.bipush X0.here hx rfl (hb hby d25_17) ?_
     refine XS.icmpNo X0.here hx rfl (hb hby d25_19) rfl (by decide) ?_
     refine XS.iloadN X0.here hx rfl (hb hby d25_22) rfl ?_
     refine XS.iloadN X0.here hx rfl (hb hby d25_23) rfl ?_
     exact Steps.refl _
    by_cases hc_11 : (-10000 : Int32) < (-ii)
    ·skip
     have C_12 : Steps p.tables e below S0 (s₁.setTop (mkF m 30 #[.val (.int (-ii)), VI 0, .val (.int (-10000 : Int32)), VI 4] [(.int 4)])) := by
      refine C_10.trans ?_
      refine XS.icmpNo X0.here hx rfl (hb hby d25_24) rfl (ii_le_f hc_11) ?_
      refine XS.iloadN X0.here hx rfl (hb hby d25_27) rfl ?_
      refine XS.iloadN X0.here hx rfl (hb hby d25_28) rfl ?_
      refine XS.iadd X0.here hx rfl (hb hby d25_29) rfl ?_
      exact Steps.refl _
     obtain ⟨fs, hr, hrun, hended, hW, hsame⟩ := X0.leave (v := some (.int 4)) (fun h => by rw [Bd.returns] at h; cases h)
     refine ⟨_, _, C_12.trans (retOut X0 hx Bd.returns rfl (Or.inl ⟨rfl, Or.inl rfl, _, rfl⟩) (hb hby d25_30) hr), hrun, hended, _, _, rfl, ?_, ⟨_, rfl⟩, hW, hsame.mono (by decide) (by decide)⟩
     show Q_ssz Z G1 G3 g1 kg1 g2 kg2 uS sS ii h0 n0 (some (.int 4)) s₁.heap _
     rw [e0]
     exact ⟨(congrArg (fun q => some (Value.int q)) (by unfold own_ssz own_dn; rw [if_neg (fun q => hc_2 ((own_ng hpos (by decide)).mpr q)), if_neg (fun q => hc_5 ((own_ng hpos (by decide)).mpr q)), if_neg (fun q => hc_8 ((own_ng hpos (by decide)).mpr q)), if_pos ((own_ng hpos (by decide)).mp hc_11)]; rfl)), N0, rfl⟩
    ·skip
     have C_13 : Steps p.tables e below S0 (s₁.setTop (mkF m 24 #[.val (.int (-ii)), VI 0, .val (.int (-100000 : Int32)), VI 5] [(.int (-100000 : Int32)), (.int (-ii))])) := by
      refine C_10.trans ?_
      refine XS.icmpYes X0.here hx rfl (pc0 := 24) (pc' := 31) rfl (hb hby d25_24) rfl (ii_le_t hc_11) (by decide) (by decide) ?_
      refine XS.bipush X0.here hx rfl (hb hby d25_31) ?_
      refine XS.iloadN X0.here hx rfl (hb hby d25_33) rfl ?_
      refine XS.imul X0.here hx rfl (hb hby d25_34) rfl ?_
      refine XS.istoreN X0.here hx rfl (hb hby d25_35) rfl (l' := #[.val (.int (-ii)), VI 0, .val (.int (-100000 : Int32)), VI 4]) rfl ?_
      refine XS.iinc X0.here hx rfl (hb hby d25_36) (x := (4 : Int32)) rfl (l' := #[.val (.int (-ii)), VI 0, .val (.int (-100000 : Int32)), VI 5]) rfl ?_
      refine XS.goto X0.here hx rfl (pc0 := 39) (pc' := 16) rfl (hb hby d25_39) (by decide) (by decide) ?_
      refine XS.iloadN X0.here hx rfl (hb hby d25_16) rfl ?_
      show Steps p.tables e below (s₁.setTop (mkF m 17 #[.val (.int (-ii)), VI 0, .val (.int (-100000 : Int32)), VI 5] [(.int 5)])) _
      refine XS.bipush X0.here hx rfl (hb hby d25_17) ?_
      refine XS.icmpNo X0.here hx rfl (hb hby d25_19) rfl (by decide) ?_
      refine XS.iloadN X0.here hx rfl (hb hby d25_22) rfl ?_
      refine XS.iloadN X0.here hx rfl (hb hby d25_23) rfl ?_
      exact Steps.refl _
     by_cases hc_14 : (-100000 : Int32) < (-ii)
     ·skip
      have C_15 : Steps p.tables e below S0 (s₁.setTop (mkF m 30 #[.val (.int (-ii)), VI 0, .val (.int (-100000 : Int32)), VI 5] [(.int 5)])) := by
       refine C_13.trans ?_
       refine XS.icmpNo X0.here hx rfl (hb hby d25_24) rfl (ii_le_f hc_14) ?_
       refine XS.iloadN X0.here hx rfl (hb hby d25_27) rfl ?_
       refine XS.iloadN X0.here hx rfl (hb hby d25_28) rfl ?_
       refine XS.iadd X0.here hx rfl (hb hby d25_29) rfl ?_
       exact Steps.refl _
      obtain ⟨fs, hr, hrun, hended, hW, hsame⟩ := X0.leave (v := some (.int 5)) (fun h => by rw [Bd.returns] at h; cases h)
      refine ⟨_, _, C_15.trans (retOut X0 hx Bd.returns rfl (Or.inl ⟨rfl, Or.inl rfl, _, rfl⟩) (hb hby d25_30) hr), hrun, hended, _, _, rfl, ?_, ⟨_, rfl⟩, hW, hsame.mono (by decide) (by decide)⟩
      show Q_ssz Z G1 G3 g1 kg1 g2 kg2 uS sS ii h0 n0 (some (.int 5)) s₁.heap _
      rw [e0]
      exact ⟨(congrArg (fun q => some (Value.int q)) (by unfold own_ssz own_dn; rw [if_neg (fun q => hc_2 ((own_ng hpos (by decide)).mpr q)), if_neg (fun q => hc_5 ((own_ng hpos (by decide)).mpr q)), if_neg (fun q => hc_8 ((own_ng hpos (by decide)).mpr q)), if_neg (fun q => hc_11 ((own_ng hpos (by decide)).mpr q)), if_pos ((own_ng hpos (by decide)).mp hc_14)]; rfl)), N0, rfl⟩
     ·skip
      have C_16 : Steps p.tables e below S0 (s₁.setTop (mkF m 24 #[.val (.int (-ii)), VI 0, .val (.int (-1000000 : Int32)), VI 6] [(.int (-1000000 : Int32)), (.int (-ii))])) := by
       refine C_13.trans ?_
       refine XS.icmpYes X0.here hx rfl (pc0 := 24) (pc' := 31) rfl (hb hby d25_24) rfl (ii_le_t hc_14) (by decide) (by decide) ?_
       refine XS.bipush X0.here hx rfl (hb hby d25_31) ?_
       refine XS.iloadN X0.here hx rfl (hb hby d25_33) rfl ?_
       refine XS.imul X0.here hx rfl (hb hby d25_34) rfl ?_
       refine XS.istoreN X0.here hx rfl (hb hby d25_35) rfl (l' := #[.val (.int (-ii)), VI 0, .val (.int (-1000000 : Int32)), VI 5]) rfl ?_
       refine XS.iinc X0.here hx rfl (hb hby d25_36) (x := (5 : Int32)) rfl (l' := #[.val (.int (-ii)), VI 0, .val (.int (-1000000 : Int32)), VI 6]) rfl ?_
       refine XS.goto X0.here hx rfl (pc0 := 39) (pc' := 16) rfl (hb hby d25_39) (by decide) (by decide) ?_
       refine XS.iloadN X0.here hx rfl (hb hby d25_16) rfl ?_
       show Steps p.tables e below (s₁.setTop (mkF m 17 #[.val (.int (-ii)), VI 0, .val (.int (-1000000 : Int32)), VI 6] [(.int 6)])) _
       refine XS.bipush X0.here hx rfl (hb hby d25_17) ?_
       refine XS.icmpNo X0.here hx rfl (hb hby d25_19) rfl (by decide) ?_
       refine XS.iloadN X0.here hx rfl (hb hby d25_22) rfl ?_
       refine XS.iloadN X0.here hx rfl (hb hby d25_23) rfl ?_
       exact Steps.refl _
      by_cases hc_17 : (-1000000 : Int32) < (-ii)
      ·skip
       have C_18 : Steps p.tables e below S0 (s₁.setTop (mkF m 30 #[.val (.int (-ii)), VI 0, .val (.int (-1000000 : Int32)), VI 6] [(.int 6)])) := by
        refine C_16.trans ?_
        refine XS.icmpNo X0.here hx rfl (hb hby d25_24) rfl (ii_le_f hc_17) ?_
        refine XS.iloadN X0.here hx rfl (hb hby d25_27) rfl ?_
        refine XS.iloadN X0.here hx rfl (hb hby d25_28) rfl ?_
        refine XS.iadd X0.here hx rfl (hb hby d25_29) rfl ?_
        exact Steps.refl _
       obtain ⟨fs, hr, hrun, hended, hW, hsame⟩ := X0.leave (v := some (.int 6)) (fun h => by rw [Bd.returns] at h; cases h)
       refine ⟨_, _, C_18.trans (retOut X0 hx Bd.returns rfl (Or.inl ⟨rfl, Or.inl rfl, _, rfl⟩) (hb hby d25_30) hr), hrun, hended, _, _, rfl, ?_, ⟨_, rfl⟩, hW, hsame.mono (by decide) (by decide)⟩
       show Q_ssz Z G1 G3 g1 kg1 g2 kg2 uS sS ii h0 n0 (some (.int 6)) s₁.heap _
       rw [e0]
       exact ⟨(congrArg (fun q => some (Value.int q)) (by unfold own_ssz own_dn; rw [if_neg (fun q => hc_2 ((own_ng hpos (by decide)).mpr q)), if_neg (fun q => hc_5 ((own_ng hpos (by decide)).mpr q)), if_neg (fun q => hc_8 ((own_ng hpos (by decide)).mpr q)), if_neg (fun q => hc_11 ((own_ng hpos (by decide)).mpr q)), if_neg (fun q => hc_14 ((own_ng hpos (by decide)).mpr q)), if_pos ((own_ng hpos (by decide)).mp hc_17)]; rfl)), N0, rfl⟩
      ·skip
       have C_19 : Steps p.tables e below S0 (s₁.setTop (mkF m 24 #[.val (.int (-ii)), VI 0, .val (.int (-10000000 : Int32)), VI 7] [(.int (-10000000 : Int32)), (.int (-ii))])) := by
        refine C_16.trans ?_
        refine XS.icmpYes X0.here hx rfl (pc0 := 24) (pc' := 31) rfl (hb hby d25_24) rfl (ii_le_t hc_17) (by decide) (by decide) ?_
        refine XS.bipush X0.here hx rfl (hb hby d25_31) ?_
        refine XS.iloadN X0.here hx rfl (hb hby d25_33) rfl ?_
        refine XS.imul X0.here hx rfl (hb hby d25_34) rfl ?_
        refine XS.istoreN X0.here hx rfl (hb hby d25_35) rfl (l' := #[.val (.int (-ii)), VI 0, .val (.int (-10000000 : Int32)), VI 6]) rfl ?_
        refine XS.iinc X0.here hx rfl (hb hby d25_36) (x := (6 : Int32)) rfl (l' := #[.val (.int (-ii)), VI 0, .val (.int (-10000000 : Int32)), VI 7]) rfl ?_
        refine XS.goto X0.here hx rfl (pc0 := 39) (pc' := 16) rfl (hb hby d25_39) (by decide) (by decide) ?_
        refine XS.iloadN X0.here hx rfl (hb hby d25_16) rfl ?_
        show Steps p.tables e below (s₁.setTop (mkF m 17 #[.val (.int (-ii)), VI 0, .val (.int (-10000000 : Int32)), VI 7] [(.int 7)])) _
        refine XS.bipush X0.here hx rfl (hb hby d25_17) ?_
        refine XS.icmpNo X0.here hx rfl (hb hby d25_19) rfl (by decide) ?_
        refine XS.iloadN X0.here hx rfl (hb hby d25_22) rfl ?_
        refine XS.iloadN X0.here hx rfl (hb hby d25_23) rfl ?_
        exact Steps.refl _
       by_cases hc_20 : (-10000000 : Int32) < (-ii)
       ·skip
        have C_21 : Steps p.tables e below S0 (s₁.setTop (mkF m 30 #[.val (.int (-ii)), VI 0, .val (.int (-10000000 : Int32)), VI 7] [(.int 7)])) := by
         refine C_19.trans ?_
         refine XS.icmpNo X0.here hx rfl (hb hby d25_24) rfl (ii_le_f hc_20) ?_
         refine XS.iloadN X0.here hx rfl (hb hby d25_27) rfl ?_
         refine XS.iloadN X0.here hx rfl (hb hby d25_28) rfl ?_
         refine XS.iadd X0.here hx rfl (hb hby d25_29) rfl ?_
         exact Steps.refl _
        obtain ⟨fs, hr, hrun, hended, hW, hsame⟩ := X0.leave (v := some (.int 7)) (fun h => by rw [Bd.returns] at h; cases h)
        refine ⟨_, _, C_21.trans (retOut X0 hx Bd.returns rfl (Or.inl ⟨rfl, Or.inl rfl, _, rfl⟩) (hb hby d25_30) hr), hrun, hended, _, _, rfl, ?_, ⟨_, rfl⟩, hW, hsame.mono (by decide) (by decide)⟩
        show Q_ssz Z G1 G3 g1 kg1 g2 kg2 uS sS ii h0 n0 (some (.int 7)) s₁.heap _
        rw [e0]
        exact ⟨(congrArg (fun q => some (Value.int q)) (by unfold own_ssz own_dn; rw [if_neg (fun q => hc_2 ((own_ng hpos (by decide)).mpr q)), if_neg (fun q => hc_5 ((own_ng hpos (by decide)).mpr q)), if_neg (fun q => hc_8 ((own_ng hpos (by decide)).mpr q)), if_neg (fun q => hc_11 ((own_ng hpos (by decide)).mpr q)), if_neg (fun q => hc_14 ((own_ng hpos (by decide)).mpr q)), if_neg (fun q => hc_17 ((own_ng hpos (by decide)).mpr q)), if_pos ((own_ng hpos (by decide)).mp hc_20)]; rfl)), N0, rfl⟩
       ·skip
        have C_22 : Steps p.tables e below S0 (s₁.setTop (mkF m 24 #[.val (.int (-ii)), VI 0, .val (.int (-100000000 : Int32)), VI 8] [(.int (-100000000 : Int32)), (.int (-ii))])) := by
         refine C_19.trans ?_
         refine XS.icmpYes X0.here hx rfl (pc0 := 24) (pc' := 31) rfl (hb hby d25_24) rfl (ii_le_t hc_20) (by decide) (by decide) ?_
         refine XS.bipush X0.here hx rfl (hb hby d25_31) ?_
         refine XS.iloadN X0.here hx rfl (hb hby d25_33) rfl ?_
         refine XS.imul X0.here hx rfl (hb hby d25_34) rfl ?_
         refine XS.istoreN X0.here hx rfl (hb hby d25_35) rfl (l' := #[.val (.int (-ii)), VI 0, .val (.int (-100000000 : Int32)), VI 7]) rfl ?_
         refine XS.iinc X0.here hx rfl (hb hby d25_36) (x := (7 : Int32)) rfl (l' := #[.val (.int (-ii)), VI 0, .val (.int (-100000000 : Int32)), VI 8]) rfl ?_
         refine XS.goto X0.here hx rfl (pc0 := 39) (pc' := 16) rfl (hb hby d25_39) (by decide) (by decide) ?_
         refine XS.iloadN X0.here hx rfl (hb hby d25_16) rfl ?_
         show Steps p.tables e below (s₁.setTop (mkF m 17 #[.val (.int (-ii)), VI 0, .val (.int (-100000000 : Int32)), VI 8] [(.int 8)])) _
         refine XS.bipush X0.here hx rfl (hb hby d25_17) ?_
         refine XS.icmpNo X0.here hx rfl (hb hby d25_19) rfl (by decide) ?_
         refine XS.iloadN X0.here hx rfl (hb hby d25_22) rfl ?_
         refine XS.iloadN X0.here hx rfl (hb hby d25_23) rfl ?_
         exact Steps.refl _
        by_cases hc_23 : (-100000000 : Int32) < (-ii)
        ·skip
         have C_24 : Steps p.tables e below S0 (s₁.setTop (mkF m 30 #[.val (.int (-ii)), VI 0, .val (.int (-100000000 : Int32)), VI 8] [(.int 8)])) := by
          refine C_22.trans ?_
          refine XS.icmpNo X0.here hx rfl (hb hby d25_24) rfl (ii_le_f hc_23) ?_
          refine XS.iloadN X0.here hx rfl (hb hby d25_27) rfl ?_
          refine XS.iloadN X0.here hx rfl (hb hby d25_28) rfl ?_
          refine XS.iadd X0.here hx rfl (hb hby d25_29) rfl ?_
          exact Steps.refl _
         obtain ⟨fs, hr, hrun, hended, hW, hsame⟩ := X0.leave (v := some (.int 8)) (fun h => by rw [Bd.returns] at h; cases h)
         refine ⟨_, _, C_24.trans (retOut X0 hx Bd.returns rfl (Or.inl ⟨rfl, Or.inl rfl, _, rfl⟩) (hb hby d25_30) hr), hrun, hended, _, _, rfl, ?_, ⟨_, rfl⟩, hW, hsame.mono (by decide) (by decide)⟩
         show Q_ssz Z G1 G3 g1 kg1 g2 kg2 uS sS ii h0 n0 (some (.int 8)) s₁.heap _
         rw [e0]
         exact ⟨(congrArg (fun q => some (Value.int q)) (by unfold own_ssz own_dn; rw [if_neg (fun q => hc_2 ((own_ng hpos (by decide)).mpr q)), if_neg (fun q => hc_5 ((own_ng hpos (by decide)).mpr q)), if_neg (fun q => hc_8 ((own_ng hpos (by decide)).mpr q)), if_neg (fun q => hc_11 ((own_ng hpos (by decide)).mpr q)), if_neg (fun q => hc_14 ((own_ng hpos (by decide)).mpr q)), if_neg (fun q => hc_17 ((own_ng hpos (by decide)).mpr q)), if_neg (fun q => hc_20 ((own_ng hpos (by decide)).mpr q)), if_pos ((own_ng hpos (by decide)).mp hc_23)]; rfl)), N0, rfl⟩
        ·skip
         have C_25 : Steps p.tables e below S0 (s₁.setTop (mkF m 24 #[.val (.int (-ii)), VI 0, .val (.int (-1000000000 : Int32)), VI 9] [(.int (-1000000000 : Int32)), (.int (-ii))])) := by
          refine C_22.trans ?_
          refine XS.icmpYes X0.here hx rfl (pc0 := 24) (pc' := 31) rfl (hb hby d25_24) rfl (ii_le_t hc_23) (by decide) (by decide) ?_
          refine XS.bipush X0.here hx rfl (hb hby d25_31) ?_
          refine XS.iloadN X0.here hx rfl (hb hby d25_33) rfl ?_
          refine XS.imul X0.here hx rfl (hb hby d25_34) rfl ?_
          refine XS.istoreN X0.here hx rfl (hb hby d25_35) rfl (l' := #[.val (.int (-ii)), VI 0, .val (.int (-1000000000 : Int32)), VI 8]) rfl ?_
          refine XS.iinc X0.here hx rfl (hb hby d25_36) (x := (8 : Int32)) rfl (l' := #[.val (.int (-ii)), VI 0, .val (.int (-1000000000 : Int32)), VI 9]) rfl ?_
          refine XS.goto X0.here hx rfl (pc0 := 39) (pc' := 16) rfl (hb hby d25_39) (by decide) (by decide) ?_
          refine XS.iloadN X0.here hx rfl (hb hby d25_16) rfl ?_
          show Steps p.tables e below (s₁.setTop (mkF m 17 #[.val (.int (-ii)), VI 0, .val (.int (-1000000000 : Int32)), VI 9] [(.int 9)])) _
          refine XS.bipush X0.here hx rfl (hb hby d25_17) ?_
          refine XS.icmpNo X0.here hx rfl (hb hby d25_19) rfl (by decide) ?_
          refine XS.iloadN X0.here hx rfl (hb hby d25_22) rfl ?_
          refine XS.iloadN X0.here hx rfl (hb hby d25_23) rfl ?_
          exact Steps.refl _
         by_cases hc_26 : (-1000000000 : Int32) < (-ii)
         ·skip
          have C_27 : Steps p.tables e below S0 (s₁.setTop (mkF m 30 #[.val (.int (-ii)), VI 0, .val (.int (-1000000000 : Int32)), VI 9] [(.int 9)])) := by
           refine C_25.trans ?_
           refine XS.icmpNo X0.here hx rfl (hb hby d25_24) rfl (ii_le_f hc_26) ?_
           refine XS.iloadN X0.here hx rfl (hb hby d25_27) rfl ?_
           refine XS.iloadN X0.here hx rfl (hb hby d25_28) rfl ?_
           refine XS.iadd X0.here hx rfl (hb hby d25_29) rfl ?_
           exact Steps.refl _
          obtain ⟨fs, hr, hrun, hended, hW, hsame⟩ := X0.leave (v := some (.int 9)) (fun h => by rw [Bd.returns] at h; cases h)
          refine ⟨_, _, C_27.trans (retOut X0 hx Bd.returns rfl (Or.inl ⟨rfl, Or.inl rfl, _, rfl⟩) (hb hby d25_30) hr), hrun, hended, _, _, rfl, ?_, ⟨_, rfl⟩, hW, hsame.mono (by decide) (by decide)⟩
          show Q_ssz Z G1 G3 g1 kg1 g2 kg2 uS sS ii h0 n0 (some (.int 9)) s₁.heap _
          rw [e0]
          exact ⟨(congrArg (fun q => some (Value.int q)) (by unfold own_ssz own_dn; rw [if_neg (fun q => hc_2 ((own_ng hpos (by decide)).mpr q)), if_neg (fun q => hc_5 ((own_ng hpos (by decide)).mpr q)), if_neg (fun q => hc_8 ((own_ng hpos (by decide)).mpr q)), if_neg (fun q => hc_11 ((own_ng hpos (by decide)).mpr q)), if_neg (fun q => hc_14 ((own_ng hpos (by decide)).mpr q)), if_neg (fun q => hc_17 ((own_ng hpos (by decide)).mpr q)), if_neg (fun q => hc_20 ((own_ng hpos (by decide)).mpr q)), if_neg (fun q => hc_23 ((own_ng hpos (by decide)).mpr q)), if_pos ((own_ng hpos (by decide)).mp hc_26)]; rfl)), N0, rfl⟩
         ·skip
          have C_28 : Steps p.tables e below S0 (s₁.setTop (mkF m 46 #[.val (.int (-ii)), VI 0, .val (.int (-1410065408 : Int32)), VI 10] [(.int 10)])) := by
           refine C_25.trans ?_
           refine XS.icmpYes X0.here hx rfl (pc0 := 24) (pc' := 31) rfl (hb hby d25_24) rfl (ii_le_t hc_26) (by decide) (by decide) ?_
           refine XS.bipush X0.here hx rfl (hb hby d25_31) ?_
           refine XS.iloadN X0.here hx rfl (hb hby d25_33) rfl ?_
           refine XS.imul X0.here hx rfl (hb hby d25_34) rfl ?_
           refine XS.istoreN X0.here hx rfl (hb hby d25_35) rfl (l' := #[.val (.int (-ii)), VI 0, .val (.int (-1410065408 : Int32)), VI 9]) rfl ?_
           refine XS.iinc X0.here hx rfl (hb hby d25_36) (x := (9 : Int32)) rfl (l' := #[.val (.int (-ii)), VI 0, .val (.int (-1410065408 : Int32)), VI 10]) rfl ?_
           refine XS.goto X0.here hx rfl (pc0 := 39) (pc' := 16) rfl (hb hby d25_39) (by decide) (by decide) ?_
           refine XS.iloadN X0.here hx rfl (hb hby d25_16) rfl ?_
           show Steps p.tables e below (s₁.setTop (mkF m 17 #[.val (.int (-ii)), VI 0, .val (.int (-1410065408 : Int32)), VI 10] [(.int 10)])) _
           refine XS.bipush X0.here hx rfl (hb hby d25_17) ?_
           refine XS.icmpYes X0.here hx rfl (pc0 := 19) (pc' := 42) rfl (hb hby d25_19) rfl (by decide) (by decide) (by decide) ?_
           refine XS.bipush X0.here hx rfl (hb hby d25_42) ?_
           refine XS.iloadN X0.here hx rfl (hb hby d25_44) rfl ?_
           refine XS.iadd X0.here hx rfl (hb hby d25_45) rfl ?_
           exact Steps.refl _
          obtain ⟨fs, hr, hrun, hended, hW, hsame⟩ := X0.leave (v := some (.int 10)) (fun h => by rw [Bd.returns] at h; cases h)
          refine ⟨_, _, C_28.trans (retOut X0 hx Bd.returns rfl (Or.inl ⟨rfl, Or.inl rfl, _, rfl⟩) (hb hby d25_46) hr), hrun, hended, _, _, rfl, ?_, ⟨_, rfl⟩, hW, hsame.mono (by decide) (by decide)⟩
          show Q_ssz Z G1 G3 g1 kg1 g2 kg2 uS sS ii h0 n0 (some (.int 10)) s₁.heap _
          rw [e0]
          exact ⟨(congrArg (fun q => some (Value.int q)) (by unfold own_ssz own_dn; rw [if_neg (fun q => hc_2 ((own_ng hpos (by decide)).mpr q)), if_neg (fun q => hc_5 ((own_ng hpos (by decide)).mpr q)), if_neg (fun q => hc_8 ((own_ng hpos (by decide)).mpr q)), if_neg (fun q => hc_11 ((own_ng hpos (by decide)).mpr q)), if_neg (fun q => hc_14 ((own_ng hpos (by decide)).mpr q)), if_neg (fun q => hc_17 ((own_ng hpos (by decide)).mpr q)), if_neg (fun q => hc_20 ((own_ng hpos (by decide)).mpr q)), if_neg (fun q => hc_23 ((own_ng hpos (by decide)).mpr q)), if_neg (fun q => hc_26 ((own_ng hpos (by decide)).mpr q))]; rfl)), N0, rfl⟩
abbrev M529 : MethodName := ⟨"java/lang/Integer", "getChars", "(II[B)I"⟩
theorem ef_530 (m : MethodId) (x0 : Int32) (x1 : Int32) (x2 : Addr) : entryFrame m #[(.int x0), (.int x1), (.ref x2)] 7 = mkF m 0 #[VI x0, VI x1, VR x2, .unset, .unset, .unset, .unset] [] := by first | (simp [entryFrame, mkF, argsToLocals, Value.category]; done) | rfl
theorem d26_0 : decode jdk_33_method_12_code 0 = .ok (.iload_n 1, 1) := by decide +kernel
theorem d26_1 : decode jdk_33_method_12_code 1 = .ok (.istore 5, 2) := by decide +kernel
theorem d26_3 : decode jdk_33_method_12_code 3 = .ok (.iload_n 0, 1) := by decide +kernel
theorem d26_4 : decode jdk_33_method_12_code 4 = .ok (.ifCond .ge 7, 3) := by decide +kernel
theorem d26_11 : decode jdk_33_method_12_code 11 = .ok (.iconst 0, 1) := by decide +kernel
theorem d26_12 : decode jdk_33_method_12_code 12 = .ok (.istore 6, 2) := by decide +kernel
theorem d26_14 : decode jdk_33_method_12_code 14 = .ok (.iload 6, 2) := by decide +kernel
theorem d26_16 : decode jdk_33_method_12_code 16 = .ok (.ifCond .ne 6, 3) := by decide +kernel
theorem d26_19 : decode jdk_33_method_12_code 19 = .ok (.iload_n 0, 1) := by decide +kernel
theorem d26_20 : decode jdk_33_method_12_code 20 = .ok (.ineg, 1) := by decide +kernel
theorem d26_21 : decode jdk_33_method_12_code 21 = .ok (.istore_n 0, 1) := by decide +kernel
theorem d26_22 : decode jdk_33_method_12_code 22 = .ok (.iload_n 0, 1) := by decide +kernel
theorem d26_23 : decode jdk_33_method_12_code 23 = .ok (.bipush (-100), 2) := by decide +kernel
theorem d26_25 : decode jdk_33_method_12_code 25 = .ok (.if_icmp .gt 47, 3) := by decide +kernel
theorem d26_72 : decode jdk_33_method_12_code 72 = .ok (.aload_n 2, 1) := by decide +kernel
theorem d26_73 : decode jdk_33_method_12_code 73 = .ok (.iinc 5 (-1), 3) := by decide +kernel
theorem d26_76 : decode jdk_33_method_12_code 76 = .ok (.iload 5, 2) := by decide +kernel
theorem w139 {Z a0} (hw : HW Z a0) : Cond.before (Cond.fieldLink "java/lang/Integer" (83 : Nat) "java/lang/Integer" "DigitOnes" "[B") a0 Z = true := hw _ (List.mem_of_getElem? (i := 139) rfl)
theorem d26_78 : decode jdk_33_method_12_code 78 = .ok (.getstatic 83, 3) := by decide +kernel
theorem d26_81 : decode jdk_33_method_12_code 81 = .ok (.iload_n 0, 1) := by decide +kernel
theorem d26_82 : decode jdk_33_method_12_code 82 = .ok (.ineg, 1) := by decide +kernel
theorem d26_83 : decode jdk_33_method_12_code 83 = .ok (.baload, 1) := by decide +kernel
theorem d26_84 : decode jdk_33_method_12_code 84 = .ok (.bastore, 1) := by decide +kernel
theorem d26_85 : decode jdk_33_method_12_code 85 = .ok (.iload_n 0, 1) := by decide +kernel
theorem d26_86 : decode jdk_33_method_12_code 86 = .ok (.bipush (-9), 2) := by decide +kernel
theorem d26_88 : decode jdk_33_method_12_code 88 = .ok (.if_icmp .ge 16, 3) := by decide +kernel
theorem d26_91 : decode jdk_33_method_12_code 91 = .ok (.aload_n 2, 1) := by decide +kernel
theorem d26_92 : decode jdk_33_method_12_code 92 = .ok (.iinc 5 (-1), 3) := by decide +kernel
theorem d26_95 : decode jdk_33_method_12_code 95 = .ok (.iload 5, 2) := by decide +kernel
theorem w274 {Z a0} (hw : HW Z a0) : Cond.before (Cond.fieldLink "java/lang/Integer" (87 : Nat) "java/lang/Integer" "DigitTens" "[B") a0 Z = true := hw _ (List.mem_of_getElem? (i := 274) rfl)
theorem d26_97 : decode jdk_33_method_12_code 97 = .ok (.getstatic 87, 3) := by decide +kernel
theorem d26_100 : decode jdk_33_method_12_code 100 = .ok (.iload_n 0, 1) := by decide +kernel
theorem d26_101 : decode jdk_33_method_12_code 101 = .ok (.ineg, 1) := by decide +kernel
theorem d26_102 : decode jdk_33_method_12_code 102 = .ok (.baload, 1) := by decide +kernel
theorem d26_103 : decode jdk_33_method_12_code 103 = .ok (.bastore, 1) := by decide +kernel
theorem d26_104 : decode jdk_33_method_12_code 104 = .ok (.iload 6, 2) := by decide +kernel
theorem d26_106 : decode jdk_33_method_12_code 106 = .ok (.ifCond .eq 12, 3) := by decide +kernel
theorem d26_118 : decode jdk_33_method_12_code 118 = .ok (.iload 5, 2) := by decide +kernel
theorem d26_120 : decode jdk_33_method_12_code 120 = .ok (.ireturn, 1) := by decide +kernel
theorem d26_28 : decode jdk_33_method_12_code 28 = .ok (.iload_n 0, 1) := by decide +kernel
theorem d26_29 : decode jdk_33_method_12_code 29 = .ok (.bipush 100, 2) := by decide +kernel
theorem d26_31 : decode jdk_33_method_12_code 31 = .ok (.idiv, 1) := by decide +kernel
theorem d26_32 : decode jdk_33_method_12_code 32 = .ok (.istore_n 3, 1) := by decide +kernel
theorem d26_33 : decode jdk_33_method_12_code 33 = .ok (.iload_n 3, 1) := by decide +kernel
theorem d26_34 : decode jdk_33_method_12_code 34 = .ok (.bipush 100, 2) := by decide +kernel
theorem d26_36 : decode jdk_33_method_12_code 36 = .ok (.imul, 1) := by decide +kernel
theorem d26_37 : decode jdk_33_method_12_code 37 = .ok (.iload_n 0, 1) := by decide +kernel
theorem d26_38 : decode jdk_33_method_12_code 38 = .ok (.isub, 1) := by decide +kernel
theorem d26_39 : decode jdk_33_method_12_code 39 = .ok (.istore 4, 2) := by decide +kernel
theorem d26_41 : decode jdk_33_method_12_code 41 = .ok (.iload_n 3, 1) := by decide +kernel
theorem d26_42 : decode jdk_33_method_12_code 42 = .ok (.istore_n 0, 1) := by decide +kernel
theorem d26_43 : decode jdk_33_method_12_code 43 = .ok (.aload_n 2, 1) := by decide +kernel
theorem d26_44 : decode jdk_33_method_12_code 44 = .ok (.iinc 5 (-1), 3) := by decide +kernel
theorem d26_47 : decode jdk_33_method_12_code 47 = .ok (.iload 5, 2) := by decide +kernel
theorem d26_49 : decode jdk_33_method_12_code 49 = .ok (.getstatic 83, 3) := by decide +kernel
theorem d26_52 : decode jdk_33_method_12_code 52 = .ok (.iload 4, 2) := by decide +kernel
theorem d26_54 : decode jdk_33_method_12_code 54 = .ok (.baload, 1) := by decide +kernel
theorem d26_55 : decode jdk_33_method_12_code 55 = .ok (.bastore, 1) := by decide +kernel
theorem d26_56 : decode jdk_33_method_12_code 56 = .ok (.aload_n 2, 1) := by decide +kernel
theorem d26_57 : decode jdk_33_method_12_code 57 = .ok (.iinc 5 (-1), 3) := by decide +kernel
theorem d26_60 : decode jdk_33_method_12_code 60 = .ok (.iload 5, 2) := by decide +kernel
theorem d26_62 : decode jdk_33_method_12_code 62 = .ok (.getstatic 87, 3) := by decide +kernel
theorem d26_65 : decode jdk_33_method_12_code 65 = .ok (.iload 4, 2) := by decide +kernel
theorem d26_67 : decode jdk_33_method_12_code 67 = .ok (.baload, 1) := by decide +kernel
theorem d26_68 : decode jdk_33_method_12_code 68 = .ok (.bastore, 1) := by decide +kernel
theorem d26_69 : decode jdk_33_method_12_code 69 = .ok (.goto (-47), 3) := by decide +kernel
abbrev R_gch : Room := { frames := 0, cells := 0, slots := 0, locals := 0 }
def Q_gch (Z : State) (G1 : Int32) (G3 : Value) (g1 : Addr) (kg1 : ClassId) (g2 : Addr) (kg2 : ClassId) (uS : Value) (sS : Value) (vv : Addr) (kv : ClassId) (cap : Int32) (ff : List Int32) (ii : Int32) (ix : Int32) (h0 : Heap) (n0 : Nat) (v : Option Value) (h : Heap) (L : List Loc) : Prop := (∃ rr : Int32, v = some (.int rr) ∧ Fr n0 L ∧ Keep h0 h [vv] ∧ (Arv Z h vv kv .byte cap (own_iv (own_sb (ff ++ (own_dl (own_M ii) (own_dn ii))) cap.toNatClampNeg)) (.int 0)))
theorem rm_gch (l : Launch) (Z : State) (a0 : Array Value) (hw : HW Z a0) (ws : List Jvm.Cond) (G1 : Int32) (G3 : Value) (g1 : Addr) (kg1 : ClassId) (g2 : Addr) (kg2 : ClassId) (uS : Value) (sS : Value) (HG : own_G l Z a0 G1 G3 g1 kg1 g2 kg2 uS sS) (h0 : Heap) (n0 : Nat) (X00 : Old Z n0 h0) (vv : Addr) (kv : ClassId) (cap : Int32) (ff : List Int32) (ii : Int32) (ix : Int32) (hp0 : Arv Z h0 vv kv .byte cap (own_iv (own_sb ff cap.toNatClampNeg)) (.int 0)) (hp1 : n0 ≤ vv) (hpos : (0 : Int32) < ii) (hz : ¬ (cap < (0 : Int32))) (hix0 : ¬ (ix < (0 : Int32))) (hix : ix.toNatClampNeg = ff.length + own_dn ii) (hfit : ff.length + own_dn ii ≤ cap.toNatClampNeg) :
  own_CP l Z M529 jdk_33_method_12_code 7 (some .int) ws R_gch #[(.int ii), (.int ix), (.ref vv)] h0 (Q_gch Z G1 G3 g1 kg1 g2 kg2 uS sS vv kv cap ff ii ix h0 n0) := by
 refine own_P (plainFor_of_name pn_495) ?_
 intro p e s m below meth c s₁ S0 Bd hZ hh hx hby hml hown hnm X0 e0 hS0d
 obtain ⟨O1, P1, O3f, rG3, Sg1, Dg1, Sg2, Dg2, hLT, OU, rU, OS, rS⟩ := id HG
 have N0 := Fr.nil n0
 have C0 : Steps p.tables e below S0 (s₁.setTop (mkF m 0 #[VI ii, VI ix, VR vv, .unset, .unset, .unset, .unset] [])) := by rw [hS0d]; exact castTop (ef_530 m ii ix vv) (Steps.refl _)
 have V_1 : Arv Z h0 vv kv .byte cap (own_iv (own_mid ff ix.toNatClampNeg (own_dl (own_M ii) 0) cap.toNatClampNeg)) (.int 0) := (by show Arv _ _ _ _ _ _ (own_iv (own_mid ff ix.toNatClampNeg [] cap.toNatClampNeg)) _; rw [own_mid0 (by omega) (by omega)]; exact hp0)
 have C_2 : Steps p.tables e below S0 (s₁.setTop (mkF m 25 #[.val (.int (-ii)), VI ix, VR vv, .unset, .unset, VI ix, VI 0] [(.int (-100 : Int32)), (.int (-ii))])) := by
  refine C0.trans ?_
  refine XS.iloadN X0.here hx rfl (hb hby d26_0) rfl ?_
  refine XS.istore X0.here hx rfl (hb hby d26_1) rfl (l' := #[VI ii, VI ix, VR vv, .unset, .unset, VI ix, .unset]) rfl ?_
  refine XS.iloadN X0.here hx rfl (hb hby d26_3) rfl ?_
  refine XS.ifYes X0.here hx rfl (pc0 := 4) (pc' := 11) rfl (hb hby d26_4) rfl (i0_ge_t (own_posn hpos)) (by decide) (by decide) ?_
  refine XS.iconst X0.here hx rfl (hb hby d26_11) ?_
  refine XS.istore X0.here hx rfl (hb hby d26_12) rfl (l' := #[VI ii, VI ix, VR vv, .unset, .unset, VI ix, VI 0]) rfl ?_
  refine XS.iload X0.here hx rfl (hb hby d26_14) rfl ?_
  refine XS.ifNo X0.here hx rfl (hb hby d26_16) rfl (by decide) ?_
  show Steps p.tables e below (s₁.setTop (mkF m 19 #[VI ii, VI ix, VR vv, .unset, .unset, VI ix, VI 0] [])) _
  refine XS.iloadN X0.here hx rfl (hb hby d26_19) rfl ?_
  refine XS.ineg X0.here hx rfl (hb hby d26_20) rfl ?_
  refine XS.istoreN X0.here hx rfl (hb hby d26_21) rfl (l' := #[.val (.int (-ii)), VI ix, VR vv, .unset, .unset, VI ix, VI 0]) rfl ?_
  refine XS.iloadN X0.here hx rfl (hb hby d26_22) rfl ?_
  refine XS.bipush X0.here hx rfl (hb hby d26_23) ?_
  exact Steps.refl _
 by_cases hc_3 : (-100 : Int32) < (-ii)
 ·skip
  have ie_4 := own_Ie (cap := cap) (own_I0 hpos hix0 hix) hc_3 hz hfit
  obtain ⟨T_5, X_6, e_7, st_8⟩ := getS X0 hx hZ (host := "") hown (w139 hw) Via.refl e0 (Sg1.ext X00.2) (g := (mkF m 78 #[.val (.int (-ii)), VI ix, VR vv, .unset, .unset, .val (.int (ix + (-1 : Int32))), VI 0] [(.int (ix + (-1 : Int32))), (.ref vv)])) rfl (hb hby d26_78)
  obtain ⟨c_9, A_10, q_11, S_12, M_13, H_14, U_15⟩ := id (Dg1.ext X00.2)
  have hin_16 : ¬ ((-(-ii)) < 0 ∨ c_9.slots.size ≤ (-(-ii)).toNatClampNeg) := inb_of S_12 ⟨ie_4.1, ie_4.2.1⟩
  have hat_17 : c_9.slots[(-(-ii)).toNatClampNeg]? = some (.int (own_gt own_ones (-(-ii)))) := Has.at H_14 hin_16 (own_iv_at own_ones (-(-ii)))
  obtain ⟨c_18, A_19, q_20, S_21, M_22, H_23, U_24⟩ := id V_1
  have hin_31 : ¬ ((ix + (-1 : Int32)) < 0 ∨ c_18.slots.size ≤ (ix + (-1 : Int32)).toNatClampNeg) := inb_of S_21 ⟨ie_4.2.2.1, ie_4.2.2.2.1⟩
  obtain ⟨T_25, h_26, X_27, e_28, W_29, st_30⟩ := stB X_6 hx hZ e_7 A_19 (j := (ix + (-1 : Int32))) hin_31 (g := (mkF m 84 #[.val (.int (-ii)), VI ix, VR vv, .unset, .unset, .val (.int (ix + (-1 : Int32))), VI 0] [(.int (own_gt own_ones (-(-ii)))), (.int (ix + (-1 : Int32))), (.ref vv)])) rfl rfl (hb hby d26_84)
  have N_32 := Fr.snoc X_27 N0 hp1
  have V_33 : Arv Z h_26 vv kv .byte cap (own_iv ((own_mid ff ix.toNatClampNeg (own_dl (own_M ii) 0) cap.toNatClampNeg).set (ix + (-1 : Int32)).toNatClampNeg (own_gt own_ones (-(-ii))))) (.int 0) := by have q := own_iv_set (Arv.set A_19 q_20 S_21 M_22 H_23 U_24 (fits_nar_byte _) W_29 (ix + (-1 : Int32)).toNatClampNeg rfl (own_ix ie_4.2.2.2.2.1 ie_4.2.2.1 ie_4.2.2.2.1)); rw [own_narb1] at q; exact q
  rw [ie_4.2.2.2.2.2.1] at V_33
  have C_34 : Steps p.tables e below S0 (T_25.setTop (mkF m 88 #[.val (.int (-ii)), VI ix, VR vv, .unset, .unset, .val (.int (ix + (-1 : Int32))), VI 0] [(.int (-9 : Int32)), (.int (-ii))])) := by
   refine C_2.trans ?_
   refine XS.icmpYes X0.here hx rfl (pc0 := 25) (pc' := 72) rfl (hb hby d26_25) rfl (ii_gt_t hc_3) (by decide) (by decide) ?_
   refine XS.aloadN X0.here hx rfl (hb hby d26_72) rfl rfl ?_
   refine XS.iinc X0.here hx rfl (hb hby d26_73) (x := ix) rfl (l' := #[.val (.int (-ii)), VI ix, VR vv, .unset, .unset, .val (.int (ix + (-1 : Int32))), VI 0]) rfl ?_
   refine XS.iload X0.here hx rfl (hb hby d26_76) rfl ?_
   refine st_8 _ ?_
   refine XS.iloadN X_6.here hx rfl (hb hby d26_81) rfl ?_
   refine XS.ineg X_6.here hx rfl (hb hby d26_82) rfl ?_
   refine X_6.baloadBytes hx (j := (-(-ii))) (v := (.int (own_gt own_ones (-(-ii))))) (by rw [e_7]; exact A_10.1) (State.isArrayOf_alike hZ.alike A_10.2.1) A_10.2.2 hin_16 hat_17 (g := (mkF m 83 #[.val (.int (-ii)), VI ix, VR vv, .unset, .unset, .val (.int (ix + (-1 : Int32))), VI 0] [(.int (-(-ii))), (.ref g1), (.int (ix + (-1 : Int32))), (.ref vv)])) rfl rfl (hb hby d26_83) _ ?_
   show Steps p.tables e below (T_5.setTop (mkF m 84 #[.val (.int (-ii)), VI ix, VR vv, .unset, .unset, .val (.int (ix + (-1 : Int32))), VI 0] [(.int (own_gt own_ones (-(-ii)))), (.int (ix + (-1 : Int32))), (.ref vv)])) _
   refine st_30 _ ?_
   refine XS.iloadN X_27.here hx rfl (hb hby d26_85) rfl ?_
   refine XS.bipush X_27.here hx rfl (hb hby d26_86) ?_
   exact Steps.refl _
  by_cases hc_35 : (-ii) < (-9 : Int32)
  ·skip
   have if_36 := own_If (cap := cap) (own_I0 hpos hix0 hix) hc_3 hz hfit hc_35
   have O_41 : Old Z n0 h_26 := (X00.wr W_29 hp1)
   obtain ⟨T_37, X_38, e_39, st_40⟩ := getS X_27 hx hZ (host := "") hown (w274 hw) Via.refl e_28 (Sg2.ext O_41.2) (g := (mkF m 97 #[.val (.int (-ii)), VI ix, VR vv, .unset, .unset, .val (.int ((ix + (-1 : Int32)) + (-1 : Int32))), VI 0] [(.int ((ix + (-1 : Int32)) + (-1 : Int32))), (.ref vv)])) rfl (hb hby d26_97)
   have V_42 : Arv Z h_26 g2 kg2 .byte (100 : Int32) (own_iv own_tens) (.int 0) := ((Dg2.ext X00.2).other W_29 (O_41.ne Dg2.lt hp1))
   obtain ⟨c_43, A_44, q_45, S_46, M_47, H_48, U_49⟩ := id V_42
   have hin_50 : ¬ ((-(-ii)) < 0 ∨ c_43.slots.size ≤ (-(-ii)).toNatClampNeg) := inb_of S_46 ⟨ie_4.1, ie_4.2.1⟩
   have hat_51 : c_43.slots[(-(-ii)).toNatClampNeg]? = some (.int (own_gt own_tens (-(-ii)))) := Has.at H_48 hin_50 (own_iv_at own_tens (-(-ii)))
   obtain ⟨c_52, A_53, q_54, S_55, M_56, H_57, U_58⟩ := id V_33
   have hin_65 : ¬ (((ix + (-1 : Int32)) + (-1 : Int32)) < 0 ∨ c_52.slots.size ≤ ((ix + (-1 : Int32)) + (-1 : Int32)).toNatClampNeg) := inb_of S_55 ⟨if_36.1, if_36.2.1⟩
   obtain ⟨T_59, h_60, X_61, e_62, W_63, st_64⟩ := stB X_38 hx hZ e_39 A_53 (j := ((ix + (-1 : Int32)) + (-1 : Int32))) hin_65 (g := (mkF m 103 #[.val (.int (-ii)), VI ix, VR vv, .unset, .unset, .val (.int ((ix + (-1 : Int32)) + (-1 : Int32))), VI 0] [(.int (own_gt own_tens (-(-ii)))), (.int ((ix + (-1 : Int32)) + (-1 : Int32))), (.ref vv)])) rfl rfl (hb hby d26_103)
   have N_66 := Fr.snoc X_61 N_32 hp1
   have V_67 : Arv Z h_60 vv kv .byte cap (own_iv ((own_mid ff (ix + (-1 : Int32)).toNatClampNeg (own_dl (own_M ii) (0 + 1)) cap.toNatClampNeg).set ((ix + (-1 : Int32)) + (-1 : Int32)).toNatClampNeg (own_gt own_tens (-(-ii))))) (.int 0) := by have q := own_iv_set (Arv.set A_53 q_54 S_55 M_56 H_57 U_58 (fits_nar_byte _) W_63 ((ix + (-1 : Int32)) + (-1 : Int32)).toNatClampNeg rfl (own_ix if_36.2.2.1 if_36.1 if_36.2.1)); rw [own_narb2] at q; exact q
   rw [if_36.2.2.2] at V_67
   have C_68 : Steps p.tables e below S0 (T_59.setTop (mkF m 120 #[.val (.int (-ii)), VI ix, VR vv, .unset, .unset, .val (.int ((ix + (-1 : Int32)) + (-1 : Int32))), VI 0] [(.int ((ix + (-1 : Int32)) + (-1 : Int32)))])) := by
    refine C_34.trans ?_
    refine XS.icmpNo X_27.here hx rfl (hb hby d26_88) rfl (ii_ge_f hc_35) ?_
    refine XS.aloadN X_27.here hx rfl (hb hby d26_91) rfl rfl ?_
    refine XS.iinc X_27.here hx rfl (hb hby d26_92) (x := (ix + (-1 : Int32))) rfl (l' := #[.val (.int (-ii)), VI ix, VR vv, .unset, .unset, .val (.int ((ix + (-1 : Int32)) + (-1 : Int32))), VI 0]) rfl ?_
    refine XS.iload X_27.here hx rfl (hb hby d26_95) rfl ?_
    refine st_40 _ ?_
    refine XS.iloadN X_38.here hx rfl (hb hby d26_100) rfl ?_
    refine XS.ineg X_38.here hx rfl (hb hby d26_101) rfl ?_
    refine X_38.baloadBytes hx (j := (-(-ii))) (v := (.int (own_gt own_tens (-(-ii))))) (by rw [e_39]; exact A_44.1) (State.isArrayOf_alike hZ.alike A_44.2.1) A_44.2.2 hin_50 hat_51 (g := (mkF m 102 #[.val (.int (-ii)), VI ix, VR vv, .unset, .unset, .val (.int ((ix + (-1 : Int32)) + (-1 : Int32))), VI 0] [(.int (-(-ii))), (.ref g2), (.int ((ix + (-1 : Int32)) + (-1 : Int32))), (.ref vv)])) rfl rfl (hb hby d26_102) _ ?_
    show Steps p.tables e below (T_37.setTop (mkF m 103 #[.val (.int (-ii)), VI ix, VR vv, .unset, .unset, .val (.int ((ix + (-1 : Int32)) + (-1 : Int32))), VI 0] [(.int (own_gt own_tens (-(-ii)))), (.int ((ix + (-1 : Int32)) + (-1 : Int32))), (.ref vv)])) _
    refine st_64 _ ?_
    refine XS.iload X_61.here hx rfl (hb hby d26_104) rfl ?_
    refine XS.ifYes X_61.here hx rfl (pc0 := 106) (pc' := 118) rfl (hb hby d26_106) rfl (by decide) (by decide) (by decide) ?_
    refine XS.iload X_61.here hx rfl (hb hby d26_118) rfl ?_
    exact Steps.refl _
   have K_69 : Keep h0 h_60 [vv] := (((Keep.refl _ _).wr W_29 (Or.inl (List.mem_of_getElem? (i := 0) rfl))).wr W_63 (Or.inl (List.mem_of_getElem? (i := 0) rfl)))
   obtain ⟨fs, hr, hrun, hended, hW, hsame⟩ := X_61.leave (v := some (.int ((ix + (-1 : Int32)) + (-1 : Int32)))) (fun h => by rw [Bd.returns] at h; cases h)
   refine ⟨_, _, C_68.trans (retOut X_61 hx Bd.returns rfl (Or.inl ⟨rfl, Or.inl rfl, _, rfl⟩) (hb hby d26_120) hr), hrun, hended, _, _, rfl, ?_, ⟨_, rfl⟩, hW, hsame.mono (by decide) (by decide)⟩
   show Q_gch Z G1 G3 g1 kg1 g2 kg2 uS sS vv kv cap ff ii ix h0 n0 (some (.int ((ix + (-1 : Int32)) + (-1 : Int32)))) T_59.heap _
   rw [e_62]
   exact ⟨((ix + (-1 : Int32)) + (-1 : Int32)), rfl, N_66, K_69, V_67⟩
  ·skip
   have C_70 : Steps p.tables e below S0 (T_25.setTop (mkF m 120 #[.val (.int (-ii)), VI ix, VR vv, .unset, .unset, .val (.int (ix + (-1 : Int32))), VI 0] [(.int (ix + (-1 : Int32)))])) := by
    refine C_34.trans ?_
    refine XS.icmpYes X_27.here hx rfl (pc0 := 88) (pc' := 104) rfl (hb hby d26_88) rfl (ii_ge_t hc_35) (by decide) (by decide) ?_
    refine XS.iload X_27.here hx rfl (hb hby d26_104) rfl ?_
    refine XS.ifYes X_27.here hx rfl (pc0 := 106) (pc' := 118) rfl (hb hby d26_106) rfl (by decide) (by decide) (by decide) ?_
    refine XS.iload X_27.here hx rfl (hb hby d26_118) rfl ?_
    exact Steps.refl _
   have K_71 : Keep h0 h_26 [vv] := ((Keep.refl _ _).wr W_29 (Or.inl (List.mem_of_getElem? (i := 0) rfl)))
   obtain ⟨fs, hr, hrun, hended, hW, hsame⟩ := X_27.leave (v := some (.int (ix + (-1 : Int32)))) (fun h => by rw [Bd.returns] at h; cases h)
   refine ⟨_, _, C_70.trans (retOut X_27 hx Bd.returns rfl (Or.inl ⟨rfl, Or.inl rfl, _, rfl⟩) (hb hby d26_120) hr), hrun, hended, _, _, rfl, ?_, ⟨_, rfl⟩, hW, hsame.mono (by decide) (by decide)⟩
   show Q_gch Z G1 G3 g1 kg1 g2 kg2 uS sS vv kv cap ff ii ix h0 n0 (some (.int (ix + (-1 : Int32)))) T_25.heap _
   rw [e_28]
   exact ⟨(ix + (-1 : Int32)), rfl, N_32, K_71, (by have q := V_33; rw [ie_4.2.2.2.2.2.2 hc_35] at q; exact q)⟩
 ·skip
  have ib_72 := own_Ib (cap := cap) (own_I0 hpos hix0 hix) hc_3 hz hfit
  obtain ⟨T_73, X_74, e_75, st_76⟩ := getS X0 hx hZ (host := "") hown (w139 hw) Via.refl e0 (Sg1.ext X00.2) (g := (mkF m 49 #[.val (.int ((-ii) / (100 : Int32))), VI ix, VR vv, .val (.int ((-ii) / (100 : Int32))), .val (.int ((((-ii) / (100 : Int32)) * (100 : Int32)) - (-ii))), .val (.int (ix + (-1 : Int32))), VI 0] [(.int (ix + (-1 : Int32))), (.ref vv)])) rfl (hb hby d26_49)
  obtain ⟨c_77, A_78, q_79, S_80, M_81, H_82, U_83⟩ := id (Dg1.ext X00.2)
  have hin_84 : ¬ (((((-ii) / (100 : Int32)) * (100 : Int32)) - (-ii)) < 0 ∨ c_77.slots.size ≤ ((((-ii) / (100 : Int32)) * (100 : Int32)) - (-ii)).toNatClampNeg) := inb_of S_80 ⟨ib_72.1, ib_72.2.1⟩
  have hat_85 : c_77.slots[((((-ii) / (100 : Int32)) * (100 : Int32)) - (-ii)).toNatClampNeg]? = some (.int (own_gt own_ones ((((-ii) / (100 : Int32)) * (100 : Int32)) - (-ii)))) := Has.at H_82 hin_84 (own_iv_at own_ones ((((-ii) / (100 : Int32)) * (100 : Int32)) - (-ii)))
  obtain ⟨c_86, A_87, q_88, S_89, M_90, H_91, U_92⟩ := id V_1
  have hin_99 : ¬ ((ix + (-1 : Int32)) < 0 ∨ c_86.slots.size ≤ (ix + (-1 : Int32)).toNatClampNeg) := inb_of S_89 ⟨ib_72.2.2.1, ib_72.2.2.2.1⟩
  obtain ⟨T_93, h_94, X_95, e_96, W_97, st_98⟩ := stB X_74 hx hZ e_75 A_87 (j := (ix + (-1 : Int32))) hin_99 (g := (mkF m 55 #[.val (.int ((-ii) / (100 : Int32))), VI ix, VR vv, .val (.int ((-ii) / (100 : Int32))), .val (.int ((((-ii) / (100 : Int32)) * (100 : Int32)) - (-ii))), .val (.int (ix + (-1 : Int32))), VI 0] [(.int (own_gt own_ones ((((-ii) / (100 : Int32)) * (100 : Int32)) - (-ii)))), (.int (ix + (-1 : Int32))), (.ref vv)])) rfl rfl (hb hby d26_55)
  have N_100 := Fr.snoc X_95 N0 hp1
  have V_101 : Arv Z h_94 vv kv .byte cap (own_iv ((own_mid ff ix.toNatClampNeg (own_dl (own_M ii) 0) cap.toNatClampNeg).set (ix + (-1 : Int32)).toNatClampNeg (own_gt own_ones ((((-ii) / (100 : Int32)) * (100 : Int32)) - (-ii))))) (.int 0) := by have q := own_iv_set (Arv.set A_87 q_88 S_89 M_90 H_91 U_92 (fits_nar_byte _) W_97 (ix + (-1 : Int32)).toNatClampNeg rfl (own_ix ib_72.2.2.2.2.2.2.1 ib_72.2.2.1 ib_72.2.2.2.1)); rw [own_narb1] at q; exact q
  rw [ib_72.2.2.2.2.2.2.2.2.1] at V_101
  have O_106 : Old Z n0 h_94 := (X00.wr W_97 hp1)
  obtain ⟨T_102, X_103, e_104, st_105⟩ := getS X_95 hx hZ (host := "") hown (w274 hw) Via.refl e_96 (Sg2.ext O_106.2) (g := (mkF m 62 #[.val (.int ((-ii) / (100 : Int32))), VI ix, VR vv, .val (.int ((-ii) / (100 : Int32))), .val (.int ((((-ii) / (100 : Int32)) * (100 : Int32)) - (-ii))), .val (.int ((ix + (-1 : Int32)) + (-1 : Int32))), VI 0] [(.int ((ix + (-1 : Int32)) + (-1 : Int32))), (.ref vv)])) rfl (hb hby d26_62)
  have V_107 : Arv Z h_94 g2 kg2 .byte (100 : Int32) (own_iv own_tens) (.int 0) := ((Dg2.ext X00.2).other W_97 (O_106.ne Dg2.lt hp1))
  obtain ⟨c_108, A_109, q_110, S_111, M_112, H_113, U_114⟩ := id V_107
  have hin_115 : ¬ (((((-ii) / (100 : Int32)) * (100 : Int32)) - (-ii)) < 0 ∨ c_108.slots.size ≤ ((((-ii) / (100 : Int32)) * (100 : Int32)) - (-ii)).toNatClampNeg) := inb_of S_111 ⟨ib_72.1, ib_72.2.1⟩
  have hat_116 : c_108.slots[((((-ii) / (100 : Int32)) * (100 : Int32)) - (-ii)).toNatClampNeg]? = some (.int (own_gt own_tens ((((-ii) / (100 : Int32)) * (100 : Int32)) - (-ii)))) := Has.at H_113 hin_115 (own_iv_at own_tens ((((-ii) / (100 : Int32)) * (100 : Int32)) - (-ii)))
  obtain ⟨c_117, A_118, q_119, S_120, M_121, H_122, U_123⟩ := id V_101
  have hin_130 : ¬ (((ix + (-1 : Int32)) + (-1 : Int32)) < 0 ∨ c_117.slots.size ≤ ((ix + (-1 : Int32)) + (-1 : Int32)).toNatClampNeg) := inb_of S_120 ⟨ib_72.2.2.2.2.1, ib_72.2.2.2.2.2.1⟩
  obtain ⟨T_124, h_125, X_126, e_127, W_128, st_129⟩ := stB X_103 hx hZ e_104 A_118 (j := ((ix + (-1 : Int32)) + (-1 : Int32))) hin_130 (g := (mkF m 68 #[.val (.int ((-ii) / (100 : Int32))), VI ix, VR vv, .val (.int ((-ii) / (100 : Int32))), .val (.int ((((-ii) / (100 : Int32)) * (100 : Int32)) - (-ii))), .val (.int ((ix + (-1 : Int32)) + (-1 : Int32))), VI 0] [(.int (own_gt own_tens ((((-ii) / (100 : Int32)) * (100 : Int32)) - (-ii)))), (.int ((ix + (-1 : Int32)) + (-1 : Int32))), (.ref vv)])) rfl rfl (hb hby d26_68)
  have N_131 := Fr.snoc X_126 N_100 hp1
  have V_132 : Arv Z h_125 vv kv .byte cap (own_iv ((own_mid ff (ix + (-1 : Int32)).toNatClampNeg (own_dl (own_M ii) (0 + 1)) cap.toNatClampNeg).set ((ix + (-1 : Int32)) + (-1 : Int32)).toNatClampNeg (own_gt own_tens ((((-ii) / (100 : Int32)) * (100 : Int32)) - (-ii))))) (.int 0) := by have q := own_iv_set (Arv.set A_118 q_119 S_120 M_121 H_122 U_123 (fits_nar_byte _) W_128 ((ix + (-1 : Int32)) + (-1 : Int32)).toNatClampNeg rfl (own_ix ib_72.2.2.2.2.2.2.2.1 ib_72.2.2.2.2.1 ib_72.2.2.2.2.2.1)); rw [own_narb2] at q; exact q
  rw [ib_72.2.2.2.2.2.2.2.2.2.1] at V_132
  have C_133 : Steps p.tables e below S0 (T_124.setTop (mkF m 22 #[.val (.int ((-ii) / (100 : Int32))), VI ix, VR vv, .val (.int ((-ii) / (100 : Int32))), .val (.int ((((-ii) / (100 : Int32)) * (100 : Int32)) - (-ii))), .val (.int ((ix + (-1 : Int32)) + (-1 : Int32))), VI 0] [])) := by
   refine C_2.trans ?_
   refine XS.icmpNo X0.here hx rfl (hb hby d26_25) rfl (ii_gt_f hc_3) ?_
   refine XS.iloadN X0.here hx rfl (hb hby d26_28) rfl ?_
   refine XS.bipush X0.here hx rfl (hb hby d26_29) ?_
   refine XS.idiv X0.here hx rfl (hb hby d26_31) rfl (by decide) ?_
   refine XS.istoreN X0.here hx rfl (hb hby d26_32) rfl (l' := #[.val (.int (-ii)), VI ix, VR vv, .val (.int ((-ii) / (100 : Int32))), .unset, VI ix, VI 0]) rfl ?_
   refine XS.iloadN X0.here hx rfl (hb hby d26_33) rfl ?_
   refine XS.bipush X0.here hx rfl (hb hby d26_34) ?_
   refine XS.imul X0.here hx rfl (hb hby d26_36) rfl ?_
   show Steps p.tables e below (s₁.setTop (mkF m 37 #[.val (.int (-ii)), VI ix, VR vv, .val (.int ((-ii) / (100 : Int32))), .unset, VI ix, VI 0] [(.int (((-ii) / (100 : Int32)) * (100 : Int32)))])) _
   refine XS.iloadN X0.here hx rfl (hb hby d26_37) rfl ?_
   refine XS.isub X0.here hx rfl (hb hby d26_38) rfl ?_
   refine XS.istore X0.here hx rfl (hb hby d26_39) rfl (l' := #[.val (.int (-ii)), VI ix, VR vv, .val (.int ((-ii) / (100 : Int32))), .val (.int ((((-ii) / (100 : Int32)) * (100 : Int32)) - (-ii))), VI ix, VI 0]) rfl ?_
   refine XS.iloadN X0.here hx rfl (hb hby d26_41) rfl ?_
   refine XS.istoreN X0.here hx rfl (hb hby d26_42) rfl (l' := #[.val (.int ((-ii) / (100 : Int32))), VI ix, VR vv, .val (.int ((-ii) / (100 : Int32))), .val (.int ((((-ii) / (100 : Int32)) * (100 : Int32)) - (-ii))), VI ix, VI 0]) rfl ?_
   refine XS.aloadN X0.here hx rfl (hb hby d26_43) rfl rfl ?_
   refine XS.iinc X0.here hx rfl (hb hby d26_44) (x := ix) rfl (l' := #[.val (.int ((-ii) / (100 : Int32))), VI ix, VR vv, .val (.int ((-ii) / (100 : Int32))), .val (.int ((((-ii) / (100 : Int32)) * (100 : Int32)) - (-ii))), .val (.int (ix + (-1 : Int32))), VI 0]) rfl ?_
   refine XS.iload X0.here hx rfl (hb hby d26_47) rfl ?_
   show Steps p.tables e below (s₁.setTop (mkF m 49 #[.val (.int ((-ii) / (100 : Int32))), VI ix, VR vv, .val (.int ((-ii) / (100 : Int32))), .val (.int ((((-ii) / (100 : Int32)) * (100 : Int32)) - (-ii))), .val (.int (ix + (-1 : Int32))), VI 0] [(.int (ix + (-1 : Int32))), (.ref vv)])) _
   refine st_76 _ ?_
   refine XS.iload X_74.here hx rfl (hb hby d26_52) rfl ?_
   refine X_74.baloadBytes hx (j := ((((-ii) / (100 : Int32)) * (100 : Int32)) - (-ii))) (v := (.int (own_gt own_ones ((((-ii) / (100 : Int32)) * (100 : Int32)) - (-ii))))) (by rw [e_75]; exact A_78.1) (State.isArrayOf_alike hZ.alike A_78.2.1) A_78.2.2 hin_84 hat_85 (g := (mkF m 54 #[.val (.int ((-ii) / (100 : Int32))), VI ix, VR vv, .val (.int ((-ii) / (100 : Int32))), .val (.int ((((-ii) / (100 : Int32)) * (100 : Int32)) - (-ii))), .val (.int (ix + (-1 : Int32))), VI 0] [(.int ((((-ii) / (100 : Int32)) * (100 : Int32)) - (-ii))), (.ref g1), (.int (ix + (-1 : Int32))), (.ref vv)])) rfl rfl (hb hby d26_54) _ ?_
   refine st_98 _ ?_
   refine XS.aloadN X_95.here hx rfl (hb hby d26_56) rfl rfl ?_
   refine XS.iinc X_95.here hx rfl (hb hby d26_57) (x := (ix + (-1 : Int32))) rfl (l' := #[.val (.int ((-ii) / (100 : Int32))), VI ix, VR vv, .val (.int ((-ii) / (100 : Int32))), .val (.int ((((-ii) / (100 : Int32)) * (100 : Int32)) - (-ii))), .val (.int ((ix + (-1 : Int32)) + (-1 : Int32))), VI 0]) rfl ?_
   refine XS.iload X_95.here hx rfl (hb hby d26_60) rfl ?_
   refine st_105 _ ?_
   show Steps p.tables e below (T_102.setTop (mkF m 65 #[.val (.int ((-ii) / (100 : Int32))), VI ix, VR vv, .val (.int ((-ii) / (100 : Int32))), .val (.int ((((-ii) / (100 : Int32)) * (100 : Int32)) - (-ii))), .val (.int ((ix + (-1 : Int32)) + (-1 : Int32))), VI 0] [(.ref g2), (.int ((ix + (-1 : Int32)) + (-1 : Int32))), (.ref vv)])) _
   refine XS.iload X_103.here hx rfl (hb hby d26_65) rfl ?_
   refine X_103.baloadBytes hx (j := ((((-ii) / (100 : Int32)) * (100 : Int32)) - (-ii))) (v := (.int (own_gt own_tens ((((-ii) / (100 : Int32)) * (100 : Int32)) - (-ii))))) (by rw [e_104]; exact A_109.1) (State.isArrayOf_alike hZ.alike A_109.2.1) A_109.2.2 hin_115 hat_116 (g := (mkF m 67 #[.val (.int ((-ii) / (100 : Int32))), VI ix, VR vv, .val (.int ((-ii) / (100 : Int32))), .val (.int ((((-ii) / (100 : Int32)) * (100 : Int32)) - (-ii))), .val (.int ((ix + (-1 : Int32)) + (-1 : Int32))), VI 0] [(.int ((((-ii) / (100 : Int32)) * (100 : Int32)) - (-ii))), (.ref g2), (.int ((ix + (-1 : Int32)) + (-1 : Int32))), (.ref vv)])) rfl rfl (hb hby d26_67) _ ?_
   refine st_129 _ ?_
   refine XS.goto X_126.here hx rfl (pc0 := 69) (pc' := 22) rfl (hb hby d26_69) (by decide) (by decide) ?_
   exact Steps.refl _
  obtain ⟨i_134, q_135, r_136, cp_137, k_138, T_139, L_140, h_145, I_141⟩ : ∃ (i_134 : Int32) (q_135 : Int32) (r_136 : Int32) (cp_137 : Int32) (k_138 : Nat) (T_139 : State) (L_140 : List Loc) (h_145 : Heap), Stand p l e R_gch s m #[(.int ii), (.int ix), (.ref vv)] below meth c T_139 L_140 0 0 ∧ T_139.heap = h_145 ∧ Fr n0 L_140 ∧ Keep h_125 h_145 [vv] ∧ (own_I ii i_134 cp_137 k_138 ff.length) ∧ (Arv Z h_145 vv kv .byte cap (own_iv (own_mid ff cp_137.toNatClampNeg (own_dl (own_M ii) k_138) cap.toNatClampNeg)) (.int 0)) ∧ Steps p.tables e below S0 (T_139.setTop (mkF m 22 #[VI i_134, VI ix, VR vv, VI q_135, VI r_136, VI cp_137, VI 0] [])) := ⟨((-ii) / (100 : Int32)), ((-ii) / (100 : Int32)), ((((-ii) / (100 : Int32)) * (100 : Int32)) - (-ii)), ((ix + (-1 : Int32)) + (-1 : Int32)), (0 + 1 + 1), T_124, _, _, X_126, e_127, N_131, (Keep.refl _ _), ib_72.2.2.2.2.2.2.2.2.2.2.1, V_132, C_133⟩
  obtain ⟨d_142, hd_143⟩ : ∃ d : Nat, d = cp_137.toNatClampNeg := ⟨_, rfl⟩
  induction d_142 using Nat.strongRecOn generalizing i_134 q_135 r_136 cp_137 k_138 T_139 L_140 h_145 with
  | _ d_142 ih_144 =>
   obtain ⟨X_146, e_147, N_148, K_149, g_151, g_152, C_150⟩ := I_141
   have C_153 : Steps p.tables e below S0 (T_139.setTop (mkF m 25 #[VI i_134, VI ix, VR vv, VI q_135, VI r_136, VI cp_137, VI 0] [(.int (-100 : Int32)), (.int i_134)])) := by
    refine C_150.trans ?_
    refine XS.iloadN X_146.here hx rfl (hb hby d26_22) rfl ?_
    refine XS.bipush X_146.here hx rfl (hb hby d26_23) ?_
    exact Steps.refl _
   by_cases hc_154 : (-100 : Int32) < i_134
   ·skip
    have ie_155 := own_Ie (cap := cap) g_151 hc_154 hz hfit
    have O_160 : Old Z n0 h_145 := ((O_106.wr W_128 hp1).keep K_149 (allS hp1 all0))
    obtain ⟨T_156, X_157, e_158, st_159⟩ := getS X_146 hx hZ (host := "") hown (w139 hw) Via.refl e_147 (Sg1.ext O_160.2) (g := (mkF m 78 #[VI i_134, VI ix, VR vv, VI q_135, VI r_136, .val (.int (cp_137 + (-1 : Int32))), VI 0] [(.int (cp_137 + (-1 : Int32))), (.ref vv)])) rfl (hb hby d26_78)
    have V_161 : Arv Z h_145 g1 kg1 .byte (100 : Int32) (own_iv own_ones) (.int 0) := ((((Dg1.ext X00.2).other W_97 (O_160.ne Dg1.lt hp1)).other W_128 (O_160.ne Dg1.lt hp1)).keep K_149 (ninS (O_160.ne Dg1.lt hp1) nin0))
    obtain ⟨c_162, A_163, q_164, S_165, M_166, H_167, U_168⟩ := id V_161
    have hin_169 : ¬ ((-i_134) < 0 ∨ c_162.slots.size ≤ (-i_134).toNatClampNeg) := inb_of S_165 ⟨ie_155.1, ie_155.2.1⟩
    have hat_170 : c_162.slots[(-i_134).toNatClampNeg]? = some (.int (own_gt own_ones (-i_134))) := Has.at H_167 hin_169 (own_iv_at own_ones (-i_134))
    obtain ⟨c_171, A_172, q_173, S_174, M_175, H_176, U_177⟩ := id g_152
    have hin_184 : ¬ ((cp_137 + (-1 : Int32)) < 0 ∨ c_171.slots.size ≤ (cp_137 + (-1 : Int32)).toNatClampNeg) := inb_of S_174 ⟨ie_155.2.2.1, ie_155.2.2.2.1⟩
    obtain ⟨T_178, h_179, X_180, e_181, W_182, st_183⟩ := stB X_157 hx hZ e_158 A_172 (j := (cp_137 + (-1 : Int32))) hin_184 (g := (mkF m 84 #[VI i_134, VI ix, VR vv, VI q_135, VI r_136, .val (.int (cp_137 + (-1 : Int32))), VI 0] [(.int (own_gt own_ones (-i_134))), (.int (cp_137 + (-1 : Int32))), (.ref vv)])) rfl rfl (hb hby d26_84)
    have N_185 := Fr.snoc X_180 N_148 hp1
    have V_186 : Arv Z h_179 vv kv .byte cap (own_iv ((own_mid ff cp_137.toNatClampNeg (own_dl (own_M ii) k_138) cap.toNatClampNeg).set (cp_137 + (-1 : Int32)).toNatClampNeg (own_gt own_ones (-i_134)))) (.int 0) := by have q := own_iv_set (Arv.set A_172 q_173 S_174 M_175 H_176 U_177 (fits_nar_byte _) W_182 (cp_137 + (-1 : Int32)).toNatClampNeg rfl (own_ix ie_155.2.2.2.2.1 ie_155.2.2.1 ie_155.2.2.2.1)); rw [own_narb1] at q; exact q
    rw [ie_155.2.2.2.2.2.1] at V_186
    have C_187 : Steps p.tables e below S0 (T_178.setTop (mkF m 88 #[VI i_134, VI ix, VR vv, VI q_135, VI r_136, .val (.int (cp_137 + (-1 : Int32))), VI 0] [(.int (-9 : Int32)), (.int i_134)])) := by
     refine C_153.trans ?_
     refine XS.icmpYes X_146.here hx rfl (pc0 := 25) (pc' := 72) rfl (hb hby d26_25) rfl (ii_gt_t hc_154) (by decide) (by decide) ?_
     refine XS.aloadN X_146.here hx rfl (hb hby d26_72) rfl rfl ?_
     refine XS.iinc X_146.here hx rfl (hb hby d26_73) (x := cp_137) rfl (l' := #[VI i_134, VI ix, VR vv, VI q_135, VI r_136, .val (.int (cp_137 + (-1 : Int32))), VI 0]) rfl ?_
     refine XS.iload X_146.here hx rfl (hb hby d26_76) rfl ?_
     refine st_159 _ ?_
     refine XS.iloadN X_157.here hx rfl (hb hby d26_81) rfl ?_
     refine XS.ineg X_157.here hx rfl (hb hby d26_82) rfl ?_
     refine X_157.baloadBytes hx (j := (-i_134)) (v := (.int (own_gt own_ones (-i_134)))) (by rw [e_158]; exact A_163.1) (State.isArrayOf_alike hZ.alike A_163.2.1) A_163.2.2 hin_169 hat_170 (g := (mkF m 83 #[VI i_134, VI ix, VR vv, VI q_135, VI r_136, .val (.int (cp_137 + (-1 : Int32))), VI 0] [(.int (-i_134)), (.ref g1), (.int (cp_137 + (-1 : Int32))), (.ref vv)])) rfl rfl (hb hby d26_83) _ ?_
     show Steps p.tables e below (T_156.setTop (mkF m 84 #[VI i_134, VI ix, VR vv, VI q_135, VI r_136, .val (.int (cp_137 + (-1 : Int32))), VI 0] [(.int (own_gt own_ones (-i_134))), (.int (cp_137 + (-1 : Int32))), (.ref vv)])) _
     refine st_183 _ ?_
     refine XS.iloadN X_180.here hx rfl (hb hby d26_85) rfl ?_
     refine XS.bipush X_180.here hx rfl (hb hby d26_86) ?_
     exact Steps.refl _
    by_cases hc_188 : i_134 < (-9 : Int32)
    ·skip
     have if_189 := own_If (cap := cap) g_151 hc_154 hz hfit hc_188
     have O_194 : Old Z n0 h_179 := (O_160.wr W_182 hp1)
     obtain ⟨T_190, X_191, e_192, st_193⟩ := getS X_180 hx hZ (host := "") hown (w274 hw) Via.refl e_181 (Sg2.ext O_194.2) (g := (mkF m 97 #[VI i_134, VI ix, VR vv, VI q_135, VI r_136, .val (.int ((cp_137 + (-1 : Int32)) + (-1 : Int32))), VI 0] [(.int ((cp_137 + (-1 : Int32)) + (-1 : Int32))), (.ref vv)])) rfl (hb hby d26_97)
     have V_195 : Arv Z h_179 g2 kg2 .byte (100 : Int32) (own_iv own_tens) (.int 0) := (((V_107.other W_128 (O_194.ne Dg2.lt hp1)).keep K_149 (ninS (O_194.ne Dg2.lt hp1) nin0)).other W_182 (O_194.ne Dg2.lt hp1))
     obtain ⟨c_196, A_197, q_198, S_199, M_200, H_201, U_202⟩ := id V_195
     have hin_203 : ¬ ((-i_134) < 0 ∨ c_196.slots.size ≤ (-i_134).toNatClampNeg) := inb_of S_199 ⟨ie_155.1, ie_155.2.1⟩
     have hat_204 : c_196.slots[(-i_134).toNatClampNeg]? = some (.int (own_gt own_tens (-i_134))) := Has.at H_201 hin_203 (own_iv_at own_tens (-i_134))
     obtain ⟨c_205, A_206, q_207, S_208, M_209, H_210, U_211⟩ := id V_186
     have hin_218 : ¬ (((cp_137 + (-1 : Int32)) + (-1 : Int32)) < 0 ∨ c_205.slots.size ≤ ((cp_137 + (-1 : Int32)) + (-1 : Int32)).toNatClampNeg) := inb_of S_208 ⟨if_189.1, if_189.2.1⟩
     obtain ⟨T_212, h_213, X_214, e_215, W_216, st_217⟩ := stB X_191 hx hZ e_192 A_206 (j := ((cp_137 + (-1 : Int32)) + (-1 : Int32))) hin_218 (g := (mkF m 103 #[VI i_134, VI ix, VR vv, VI q_135, VI r_136, .val (.int ((cp_137 + (-1 : Int32)) + (-1 : Int32))), VI 0] [(.int (own_gt own_tens (-i_134))), (.int ((cp_137 + (-1 : Int32)) + (-1 : Int32))), (.ref vv)])) rfl rfl (hb hby d26_103)
     have N_219 := Fr.snoc X_214 N_185 hp1
     have V_220 : Arv Z h_213 vv kv .byte cap (own_iv ((own_mid ff (cp_137 + (-1 : Int32)).toNatClampNeg (own_dl (own_M ii) (k_138 + 1)) cap.toNatClampNeg).set ((cp_137 + (-1 : Int32)) + (-1 : Int32)).toNatClampNeg (own_gt own_tens (-i_134)))) (.int 0) := by have q := own_iv_set (Arv.set A_206 q_207 S_208 M_209 H_210 U_211 (fits_nar_byte _) W_216 ((cp_137 + (-1 : Int32)) + (-1 : Int32)).toNatClampNeg rfl (own_ix if_189.2.2.1 if_189.1 if_189.2.1)); rw [own_narb2] at q; exact q
     rw [if_189.2.2.2] at V_220
     have C_221 : Steps p.tables e below S0 (T_212.setTop (mkF m 120 #[VI i_134, VI ix, VR vv, VI q_135, VI r_136, .val (.int ((cp_137 + (-1 : Int32)) + (-1 : Int32))), VI 0] [(.int ((cp_137 + (-1 : Int32)) + (-1 : Int32)))])) := by
      refine C_187.trans ?_
      refine XS.icmpNo X_180.here hx rfl (hb hby d26_88) rfl (ii_ge_f hc_188) ?_
      refine XS.aloadN X_180.here hx rfl (hb hby d26_91) rfl rfl ?_
      refine XS.iinc X_180.here hx rfl (hb hby d26_92) (x := (cp_137 + (-1 : Int32))) rfl (l' := #[VI i_134, VI ix, VR vv, VI q_135, VI r_136, .val (.int ((cp_137 + (-1 : Int32)) + (-1 : Int32))), VI 0]) rfl ?_
      refine XS.iload X_180.here hx rfl (hb hby d26_95) rfl ?_
      refine st_193 _ ?_
      refine XS.iloadN X_191.here hx rfl (hb hby d26_100) rfl ?_
      refine XS.ineg X_191.here hx rfl (hb hby d26_101) rfl ?_
      refine X_191.baloadBytes hx (j := (-i_134)) (v := (.int (own_gt own_tens (-i_134)))) (by rw [e_192]; exact A_197.1) (State.isArrayOf_alike hZ.alike A_197.2.1) A_197.2.2 hin_203 hat_204 (g := (mkF m 102 #[VI i_134, VI ix, VR vv, VI q_135, VI r_136, .val (.int ((cp_137 + (-1 : Int32)) + (-1 : Int32))), VI 0] [(.int (-i_134)), (.ref g2), (.int ((cp_137 + (-1 : Int32)) + (-1 : Int32))), (.ref vv)])) rfl rfl (hb hby d26_102) _ ?_
      show Steps p.tables e below (T_190.setTop (mkF m 103 #[VI i_134, VI ix, VR vv, VI q_135, VI r_136, .val (.int ((cp_137 + (-1 : Int32)) + (-1 : Int32))), VI 0] [(.int (own_gt own_tens (-i_134))), (.int ((cp_137 + (-1 : Int32)) + (-1 : Int32))), (.ref vv)])) _
      refine st_217 _ ?_
      refine XS.iload X_214.here hx rfl (hb hby d26_104) rfl ?_
      refine XS.ifYes X_214.here hx rfl (pc0 := 106) (pc' := 118) rfl (hb hby d26_106) rfl (by decide) (by decide) (by decide) ?_
      refine XS.iload X_214.here hx rfl (hb hby d26_118) rfl ?_
      exact Steps.refl _
     have K_222 : Keep h0 h_213 [vv] := ((((((Keep.refl _ _).wr W_97 (Or.inl (List.mem_of_getElem? (i := 0) rfl))).wr W_128 (Or.inl (List.mem_of_getElem? (i := 0) rfl))).trans K_149 (allS (Or.inl (List.mem_of_getElem? (i := 0) rfl)) all0)).wr W_182 (Or.inl (List.mem_of_getElem? (i := 0) rfl))).wr W_216 (Or.inl (List.mem_of_getElem? (i := 0) rfl)))
     obtain ⟨fs, hr, hrun, hended, hW, hsame⟩ := X_214.leave (v := some (.int ((cp_137 + (-1 : Int32)) + (-1 : Int32)))) (fun h => by rw [Bd.returns] at h; cases h)
     refine ⟨_, _, C_221.trans (retOut X_214 hx Bd.returns rfl (Or.inl ⟨rfl, Or.inl rfl, _, rfl⟩) (hb hby d26_120) hr), hrun, hended, _, _, rfl, ?_, ⟨_, rfl⟩, hW, hsame.mono (by decide) (by decide)⟩
     show Q_gch Z G1 G3 g1 kg1 g2 kg2 uS sS vv kv cap ff ii ix h0 n0 (some (.int ((cp_137 + (-1 : Int32)) + (-1 : Int32)))) T_212.heap _
     rw [e_215]
     exact ⟨((cp_137 + (-1 : Int32)) + (-1 : Int32)), rfl, N_219, K_222, V_220⟩
    ·skip
     have C_223 : Steps p.tables e below S0 (T_178.setTop (mkF m 120 #[VI i_134, VI ix, VR vv, VI q_135, VI r_136, .val (.int (cp_137 + (-1 : Int32))), VI 0] [(.int (cp_137 + (-1 : Int32)))])) := by
      refine C_187.trans ?_
      refine XS.icmpYes X_180.here hx rfl (pc0 := 88) (pc' := 104) rfl (hb hby d26_88) rfl (ii_ge_t hc_188) (by decide) (by decide) ?_
      refine XS.iload X_180.here hx rfl (hb hby d26_104) rfl ?_
      refine XS.ifYes X_180.here hx rfl (pc0 := 106) (pc' := 118) rfl (hb hby d26_106) rfl (by decide) (by decide) (by decide) ?_
      refine XS.iload X_180.here hx rfl (hb hby d26_118) rfl ?_
      exact Steps.refl _
     have K_224 : Keep h0 h_179 [vv] := (((((Keep.refl _ _).wr W_97 (Or.inl (List.mem_of_getElem? (i := 0) rfl))).wr W_128 (Or.inl (List.mem_of_getElem? (i := 0) rfl))).trans K_149 (allS (Or.inl (List.mem_of_getElem? (i := 0) rfl)) all0)).wr W_182 (Or.inl (List.mem_of_getElem? (i := 0) rfl)))
     obtain ⟨fs, hr, hrun, hended, hW, hsame⟩ := X_180.leave (v := some (.int (cp_137 + (-1 : Int32)))) (fun h => by rw [Bd.returns] at h; cases h)
     refine ⟨_, _, C_223.trans (retOut X_180 hx Bd.returns rfl (Or.inl ⟨rfl, Or.inl rfl, _, rfl⟩) (hb hby d26_120) hr), hrun, hended, _, _, rfl, ?_, ⟨_, rfl⟩, hW, hsame.mono (by decide) (by decide)⟩
     show Q_gch Z G1 G3 g1 kg1 g2 kg2 uS sS vv kv cap ff ii ix h0 n0 (some (.int (cp_137 + (-1 : Int32)))) T_178.heap _
     rw [e_181]
     exact ⟨(cp_137 + (-1 : Int32)), rfl, N_185, K_224, (by have q := V_186; rw [ie_155.2.2.2.2.2.2 hc_188] at q; exact q)⟩
   ·skip
    have ib_225 := own_Ib (cap := cap) g_151 hc_154 hz hfit
    have O_230 : Old Z n0 h_145 := ((O_106.wr W_128 hp1).keep K_149 (allS hp1 all0))
    obtain ⟨T_226, X_227, e_228, st_229⟩ := getS X_146 hx hZ (host := "") hown (w139 hw) Via.refl e_147 (Sg1.ext O_230.2) (g := (mkF m 49 #[.val (.int (i_134 / (100 : Int32))), VI ix, VR vv, .val (.int (i_134 / (100 : Int32))), .val (.int (((i_134 / (100 : Int32)) * (100 : Int32)) - i_134)), .val (.int (cp_137 + (-1 : Int32))), VI 0] [(.int (cp_137 + (-1 : Int32))), (.ref vv)])) rfl (hb hby d26_49)
    have V_231 : Arv Z h_145 g1 kg1 .byte (100 : Int32) (own_iv own_ones) (.int 0) := ((((Dg1.ext X00.2).other W_97 (O_230.ne Dg1.lt hp1)).other W_128 (O_230.ne Dg1.lt hp1)).keep K_149 (ninS (O_230.ne Dg1.lt hp1) nin0))
    obtain ⟨c_232, A_233, q_234, S_235, M_236, H_237, U_238⟩ := id V_231
    have hin_239 : ¬ ((((i_134 / (100 : Int32)) * (100 : Int32)) - i_134) < 0 ∨ c_232.slots.size ≤ (((i_134 / (100 : Int32)) * (100 : Int32)) - i_134).toNatClampNeg) := inb_of S_235 ⟨ib_225.1, ib_225.2.1⟩
    have hat_240 : c_232.slots[(((i_134 / (100 : Int32)) * (100 : Int32)) - i_134).toNatClampNeg]? = some (.int (own_gt own_ones (((i_134 / (100 : Int32)) * (100 : Int32)) - i_134))) := Has.at H_237 hin_239 (own_iv_at own_ones (((i_134 / (100 : Int32)) * (100 : Int32)) - i_134))
    obtain ⟨c_241, A_242, q_243, S_244, M_245, H_246, U_247⟩ := id g_152
    have hin_254 : ¬ ((cp_137 + (-1 : Int32)) < 0 ∨ c_241.slots.size ≤ (cp_137 + (-1 : Int32)).toNatClampNeg) := inb_of S_244 ⟨ib_225.2.2.1, ib_225.2.2.2.1⟩
    obtain ⟨T_248, h_249, X_250, e_251, W_252, st_253⟩ := stB X_227 hx hZ e_228 A_242 (j := (cp_137 + (-1 : Int32))) hin_254 (g := (mkF m 55 #[.val (.int (i_134 / (100 : Int32))), VI ix, VR vv, .val (.int (i_134 / (100 : Int32))), .val (.int (((i_134 / (100 : Int32)) * (100 : Int32)) - i_134)), .val (.int (cp_137 + (-1 : Int32))), VI 0] [(.int (own_gt own_ones (((i_134 / (100 : Int32)) * (100 : Int32)) - i_134))), (.int (cp_137 + (-1 : Int32))), (.ref vv)])) rfl rfl (hb hby d26_55)
    have N_255 := Fr.snoc X_250 N_148 hp1
    have V_256 : Arv Z h_249 vv kv .byte cap (own_iv ((own_mid ff cp_137.toNatClampNeg (own_dl (own_M ii) k_138) cap.toNatClampNeg).set (cp_137 + (-1 : Int32)).toNatClampNeg (own_gt own_ones (((i_134 / (100 : Int32)) * (100 : Int32)) - i_134)))) (.int 0) := by have q := own_iv_set (Arv.set A_242 q_243 S_244 M_245 H_246 U_247 (fits_nar_byte _) W_252 (cp_137 + (-1 : Int32)).toNatClampNeg rfl (own_ix ib_225.2.2.2.2.2.2.1 ib_225.2.2.1 ib_225.2.2.2.1)); rw [own_narb1] at q; exact q
    rw [ib_225.2.2.2.2.2.2.2.2.1] at V_256
    have O_261 : Old Z n0 h_249 := (O_230.wr W_252 hp1)
    obtain ⟨T_257, X_258, e_259, st_260⟩ := getS X_250 hx hZ (host := "") hown (w274 hw) Via.refl e_251 (Sg2.ext O_261.2) (g := (mkF m 62 #[.val (.int (i_134 / (100 : Int32))), VI ix, VR vv, .val (.int (i_134 / (100 : Int32))), .val (.int (((i_134 / (100 : Int32)) * (100 : Int32)) - i_134)), .val (.int ((cp_137 + (-1 : Int32)) + (-1 : Int32))), VI 0] [(.int ((cp_137 + (-1 : Int32)) + (-1 : Int32))), (.ref vv)])) rfl (hb hby d26_62)
    have V_262 : Arv Z h_249 g2 kg2 .byte (100 : Int32) (own_iv own_tens) (.int 0) := (((V_107.other W_128 (O_261.ne Dg2.lt hp1)).keep K_149 (ninS (O_261.ne Dg2.lt hp1) nin0)).other W_252 (O_261.ne Dg2.lt hp1))
    obtain ⟨c_263, A_264, q_265, S_266, M_267, H_268, U_269⟩ := id V_262
    have hin_270 : ¬ ((((i_134 / (100 : Int32)) * (100 : Int32)) - i_134) < 0 ∨ c_263.slots.size ≤ (((i_134 / (100 : Int32)) * (100 : Int32)) - i_134).toNatClampNeg) := inb_of S_266 ⟨ib_225.1, ib_225.2.1⟩
    have hat_271 : c_263.slots[(((i_134 / (100 : Int32)) * (100 : Int32)) - i_134).toNatClampNeg]? = some (.int (own_gt own_tens (((i_134 / (100 : Int32)) * (100 : Int32)) - i_134))) := Has.at H_268 hin_270 (own_iv_at own_tens (((i_134 / (100 : Int32)) * (100 : Int32)) - i_134))
    obtain ⟨c_272, A_273, q_274, S_275, M_276, H_277, U_278⟩ := id V_256
    have hin_285 : ¬ (((cp_137 + (-1 : Int32)) + (-1 : Int32)) < 0 ∨ c_272.slots.size ≤ ((cp_137 + (-1 : Int32)) + (-1 : Int32)).toNatClampNeg) := inb_of S_275 ⟨ib_225.2.2.2.2.1, ib_225.2.2.2.2.2.1⟩
    obtain ⟨T_279, h_280, X_281, e_282, W_283, st_284⟩ := stB X_258 hx hZ e_259 A_273 (j := ((cp_137 + (-1 : Int32)) + (-1 : Int32))) hin_285 (g := (mkF m 68 #[.val (.int (i_134 / (100 : Int32))), VI ix, VR vv, .val (.int (i_134 / (100 : Int32))), .val (.int (((i_134 / (100 : Int32)) * (100 : Int32)) - i_134)), .val (.int ((cp_137 + (-1 : Int32)) + (-1 : Int32))), VI 0] [(.int (own_gt own_tens (((i_134 / (100 : Int32)) * (100 : Int32)) - i_134))), (.int ((cp_137 + (-1 : Int32)) + (-1 : Int32))), (.ref vv)])) rfl rfl (hb hby d26_68)
    have N_286 := Fr.snoc X_281 N_255 hp1
    have V_287 : Arv Z h_280 vv kv .byte cap (own_iv ((own_mid ff (cp_137 + (-1 : Int32)).toNatClampNeg (own_dl (own_M ii) (k_138 + 1)) cap.toNatClampNeg).set ((cp_137 + (-1 : Int32)) + (-1 : Int32)).toNatClampNeg (own_gt own_tens (((i_134 / (100 : Int32)) * (100 : Int32)) - i_134)))) (.int 0) := by have q := own_iv_set (Arv.set A_273 q_274 S_275 M_276 H_277 U_278 (fits_nar_byte _) W_283 ((cp_137 + (-1 : Int32)) + (-1 : Int32)).toNatClampNeg rfl (own_ix ib_225.2.2.2.2.2.2.2.1 ib_225.2.2.2.2.1 ib_225.2.2.2.2.2.1)); rw [own_narb2] at q; exact q
    rw [ib_225.2.2.2.2.2.2.2.2.2.1] at V_287
    have C_288 : Steps p.tables e below S0 (T_279.setTop (mkF m 22 #[.val (.int (i_134 / (100 : Int32))), VI ix, VR vv, .val (.int (i_134 / (100 : Int32))), .val (.int (((i_134 / (100 : Int32)) * (100 : Int32)) - i_134)), .val (.int ((cp_137 + (-1 : Int32)) + (-1 : Int32))), VI 0] [])) := by
     refine C_153.trans ?_
     refine XS.icmpNo X_146.here hx rfl (hb hby d26_25) rfl (ii_gt_f hc_154) ?_
     refine XS.iloadN X_146.here hx rfl (hb hby d26_28) rfl ?_
     refine XS.bipush X_146.here hx rfl (hb hby d26_29) ?_
     refine XS.idiv X_146.here hx rfl (hb hby d26_31) rfl (by decide) ?_
     refine XS.istoreN X_146.here hx rfl (hb hby d26_32) rfl (l' := #[VI i_134, VI ix, VR vv, .val (.int (i_134 / (100 : Int32))), VI r_136, VI cp_137, VI 0]) rfl ?_
     refine XS.iloadN X_146.here hx rfl (hb hby d26_33) rfl ?_
     refine XS.bipush X_146.here hx rfl (hb hby d26_34) ?_
     refine XS.imul X_146.here hx rfl (hb hby d26_36) rfl ?_
     show Steps p.tables e below (T_139.setTop (mkF m 37 #[VI i_134, VI ix, VR vv, .val (.int (i_134 / (100 : Int32))), VI r_136, VI cp_137, VI 0] [(.int ((i_134 / (100 : Int32)) * (100 : Int32)))])) _
     refine XS.iloadN X_146.here hx rfl (hb hby d26_37) rfl ?_
     refine XS.isub X_146.here hx rfl (hb hby d26_38) rfl ?_
     refine XS.istore X_146.here hx rfl (hb hby d26_39) rfl (l' := #[VI i_134, VI ix, VR vv, .val (.int (i_134 / (100 : Int32))), .val (.int (((i_134 / (100 : Int32)) * (100 : Int32)) - i_134)), VI cp_137, VI 0]) rfl ?_
     refine XS.iloadN X_146.here hx rfl (hb hby d26_41) rfl ?_
     refine XS.istoreN X_146.here hx rfl (hb hby d26_42) rfl (l' := #[.val (.int (i_134 / (100 : Int32))), VI ix, VR vv, .val (.int (i_134 / (100 : Int32))), .val (.int (((i_134 / (100 : Int32)) * (100 : Int32)) - i_134)), VI cp_137, VI 0]) rfl ?_
     refine XS.aloadN X_146.here hx rfl (hb hby d26_43) rfl rfl ?_
     refine XS.iinc X_146.here hx rfl (hb hby d26_44) (x := cp_137) rfl (l' := #[.val (.int (i_134 / (100 : Int32))), VI ix, VR vv, .val (.int (i_134 / (100 : Int32))), .val (.int (((i_134 / (100 : Int32)) * (100 : Int32)) - i_134)), .val (.int (cp_137 + (-1 : Int32))), VI 0]) rfl ?_
     refine XS.iload X_146.here hx rfl (hb hby d26_47) rfl ?_
     show Steps p.tables e below (T_139.setTop (mkF m 49 #[.val (.int (i_134 / (100 : Int32))), VI ix, VR vv, .val (.int (i_134 / (100 : Int32))), .val (.int (((i_134 / (100 : Int32)) * (100 : Int32)) - i_134)), .val (.int (cp_137 + (-1 : Int32))), VI 0] [(.int (cp_137 + (-1 : Int32))), (.ref vv)])) _
     refine st_229 _ ?_
     refine XS.iload X_227.here hx rfl (hb hby d26_52) rfl ?_
     refine X_227.baloadBytes hx (j := (((i_134 / (100 : Int32)) * (100 : Int32)) - i_134)) (v := (.int (own_gt own_ones (((i_134 / (100 : Int32)) * (100 : Int32)) - i_134)))) (by rw [e_228]; exact A_233.1) (State.isArrayOf_alike hZ.alike A_233.2.1) A_233.2.2 hin_239 hat_240 (g := (mkF m 54 #[.val (.int (i_134 / (100 : Int32))), VI ix, VR vv, .val (.int (i_134 / (100 : Int32))), .val (.int (((i_134 / (100 : Int32)) * (100 : Int32)) - i_134)), .val (.int (cp_137 + (-1 : Int32))), VI 0] [(.int (((i_134 / (100 : Int32)) * (100 : Int32)) - i_134)), (.ref g1), (.int (cp_137 + (-1 : Int32))), (.ref vv)])) rfl rfl (hb hby d26_54) _ ?_
     refine st_253 _ ?_
     refine XS.aloadN X_250.here hx rfl (hb hby d26_56) rfl rfl ?_
     refine XS.iinc X_250.here hx rfl (hb hby d26_57) (x := (cp_137 + (-1 : Int32))) rfl (l' := #[.val (.int (i_134 / (100 : Int32))), VI ix, VR vv, .val (.int (i_134 / (100 : Int32))), .val (.int (((i_134 / (100 : Int32)) * (100 : Int32)) - i_134)), .val (.int ((cp_137 + (-1 : Int32)) + (-1 : Int32))), VI 0]) rfl ?_
     refine XS.iload X_250.here hx rfl (hb hby d26_60) rfl ?_
     refine st_260 _ ?_
     show Steps p.tables e below (T_257.setTop (mkF m 65 #[.val (.int (i_134 / (100 : Int32))), VI ix, VR vv, .val (.int (i_134 / (100 : Int32))), .val (.int (((i_134 / (100 : Int32)) * (100 : Int32)) - i_134)), .val (.int ((cp_137 + (-1 : Int32)) + (-1 : Int32))), VI 0] [(.ref g2), (.int ((cp_137 + (-1 : Int32)) + (-1 : Int32))), (.ref vv)])) _
     refine XS.iload X_258.here hx rfl (hb hby d26_65) rfl ?_
     refine X_258.baloadBytes hx (j := (((i_134 / (100 : Int32)) * (100 : Int32)) - i_134)) (v := (.int (own_gt own_tens (((i_134 / (100 : Int32)) * (100 : Int32)) - i_134)))) (by rw [e_259]; exact A_264.1) (State.isArrayOf_alike hZ.alike A_264.2.1) A_264.2.2 hin_270 hat_271 (g := (mkF m 67 #[.val (.int (i_134 / (100 : Int32))), VI ix, VR vv, .val (.int (i_134 / (100 : Int32))), .val (.int (((i_134 / (100 : Int32)) * (100 : Int32)) - i_134)), .val (.int ((cp_137 + (-1 : Int32)) + (-1 : Int32))), VI 0] [(.int (((i_134 / (100 : Int32)) * (100 : Int32)) - i_134)), (.ref g2), (.int ((cp_137 + (-1 : Int32)) + (-1 : Int32))), (.ref vv)])) rfl rfl (hb hby d26_67) _ ?_
     refine st_284 _ ?_
     refine XS.goto X_281.here hx rfl (pc0 := 69) (pc' := 22) rfl (hb hby d26_69) (by decide) (by decide) ?_
     exact Steps.refl _
    exact ih_144 _ (by rw [hd_143]; exact ib_225.2.2.2.2.2.2.2.2.2.2.2) (i_134 / (100 : Int32)) (i_134 / (100 : Int32)) (((i_134 / (100 : Int32)) * (100 : Int32)) - i_134) ((cp_137 + (-1 : Int32)) + (-1 : Int32)) (k_138 + 1 + 1) _ _ _ ⟨X_281, e_282, N_286, ((((Keep.refl _ _).trans K_149 (allS (Or.inl (List.mem_of_getElem? (i := 0) rfl)) all0)).wr W_252 (Or.inl (List.mem_of_getElem? (i := 0) rfl))).wr W_283 (Or.inl (List.mem_of_getElem? (i := 0) rfl))), ib_225.2.2.2.2.2.2.2.2.2.2.1, V_287, C_288⟩ rfl
abbrev M597 : MethodName := ⟨"java/lang/AbstractStringBuilder", "isLatin1", "()Z"⟩
theorem d27_0 : decode jdk_68_method_68_code 0 = .ok (.getstatic 18, 3) := by decide +kernel
theorem d27_3 : decode jdk_68_method_68_code 3 = .ok (.ifCond .eq 14, 3) := by decide +kernel
theorem d27_6 : decode jdk_68_method_68_code 6 = .ok (.aload_n 0, 1) := by decide +kernel
theorem d27_7 : decode jdk_68_method_68_code 7 = .ok (.getfield 22, 3) := by decide +kernel
theorem d27_10 : decode jdk_68_method_68_code 10 = .ok (.ifCond .ne 7, 3) := by decide +kernel
theorem d27_13 : decode jdk_68_method_68_code 13 = .ok (.iconst 1, 1) := by decide +kernel
theorem d27_14 : decode jdk_68_method_68_code 14 = .ok (.goto 4, 3) := by decide +kernel
theorem d27_18 : decode jdk_68_method_68_code 18 = .ok (.ireturn, 1) := by decide +kernel
abbrev R_aslat : Room := { frames := 0, cells := 0, slots := 0, locals := 0 }
def Q_aslat (Z : State) (G1 : Int32) (G3 : Value) (g1 : Addr) (kg1 : ClassId) (g2 : Addr) (kg2 : ClassId) (uS : Value) (sS : Value) (sb : Addr) (h0 : Heap) (n0 : Nat) (v : Option Value) (h : Heap) (L : List Loc) : Prop := (v = some (.int 1) ∧ Fr n0 L ∧ h = h0)
theorem rm_aslat (l : Launch) (Z : State) (a0 : Array Value) (hw : HW Z a0) (ws : List Jvm.Cond) (G1 : Int32) (G3 : Value) (g1 : Addr) (kg1 : ClassId) (g2 : Addr) (kg2 : ClassId) (uS : Value) (sS : Value) (HG : own_G l Z a0 G1 G3 g1 kg1 g2 kg2 uS sS) (h0 : Heap) (n0 : Nat) (X00 : Old Z n0 h0) (sb : Addr) (hp0 : Fld Z h0 sb "java/lang/AbstractStringBuilder" "coder" "B" (.int 0)) :
  own_CP l Z M597 jdk_68_method_68_code 1 (some .boolean) ws R_aslat #[(.ref sb)] h0 (Q_aslat Z G1 G3 g1 kg1 g2 kg2 uS sS sb h0 n0) := by
 refine own_P (plainFor_of_name pn_207) ?_
 intro p e s m below meth c s₁ S0 Bd hZ hh hx hby hml hown hnm X0 e0 hS0d
 obtain ⟨O1, P1, O3f, rG3, Sg1, Dg1, Sg2, Dg2, hLT, OU, rU, OS, rS⟩ := id HG
 have N0 := Fr.nil n0
 have C0 : Steps p.tables e below S0 (s₁.setTop (mkF m 0 #[VR sb] [])) := by rw [hS0d]; exact castTop (ef_115 m sb) (Steps.refl _)
 obtain ⟨T_1, X_2, e_3, st_4⟩ := getS X0 hx hZ (host := "") hown (w63 hw) Via.refl e0 (O1.ext X00.2) (g := (mkF m 0 #[VR sb] [])) rfl (hb hby d27_0)
 obtain ⟨T_5, X_6, e_7, st_8⟩ := getF X_2 hx hZ hown (host := "") (Or.inl (w66 hw)) Via.refl e_3 hp0 (g := (mkF m 7 #[VR sb] [(.ref sb)])) rfl rfl (hb hby d27_7)
 have C_9 : Steps p.tables e below S0 (T_5.setTop (mkF m 18 #[VR sb] [(.int 1)])) := by
  refine C0.trans ?_
  refine st_4 _ ?_
  refine XS.ifNo X_2.here hx rfl (hb hby d27_3) rfl (i0_eq_f P1) ?_
  refine XS.aloadN X_2.here hx rfl (hb hby d27_6) rfl rfl ?_
  refine st_8 _ ?_
  refine XS.ifNo X_6.here hx rfl (hb hby d27_10) rfl (by decide) ?_
  refine XS.iconst X_6.here hx rfl (hb hby d27_13) ?_
  refine XS.goto X_6.here hx rfl (pc0 := 14) (pc' := 18) rfl (hb hby d27_14) (by decide) (by decide) ?_
  exact Steps.refl _
 obtain ⟨fs, hr, hrun, hended, hW, hsame⟩ := X_6.leave (v := some (.int 1)) (fun h => by rw [Bd.returns] at h; cases h)
 refine ⟨_, _, C_9.trans (retN X_6 hx (t := .boolean) Bd.returns (by simp) (hb hby d27_18) hr), hrun, hended, _, _, rfl, ?_, ⟨_, rfl⟩, hW, hsame.mono (by decide) (by decide)⟩
 show Q_aslat Z G1 G3 g1 kg1 g2 kg2 uS sS sb h0 n0 (some (.int 1)) T_5.heap _
 rw [e_7]
 exact ⟨rfl, N0, rfl⟩
abbrev M606 : MethodName := ⟨"java/lang/AbstractStringBuilder", "append", "(I)Ljava/lang/AbstractStringBuilder;"⟩
theorem ef_607 (m : MethodId) (x0 : Addr) (x1 : Int32) : entryFrame m #[(.ref x0), (.int x1)] 4 = mkF m 0 #[VR x0, VI x1, .unset, .unset] [] := by first | (simp [entryFrame, mkF, argsToLocals, Value.category]; done) | rfl
theorem d28_0 : decode jdk_68_method_32_code 0 = .ok (.aload_n 0, 1) := by decide +kernel
theorem d28_1 : decode jdk_68_method_32_code 1 = .ok (.getfield 79, 3) := by decide +kernel
theorem d28_4 : decode jdk_68_method_32_code 4 = .ok (.istore_n 2, 1) := by decide +kernel
theorem d28_5 : decode jdk_68_method_32_code 5 = .ok (.iload_n 2, 1) := by decide +kernel
theorem d28_6 : decode jdk_68_method_32_code 6 = .ok (.iload_n 1, 1) := by decide +kernel
theorem w130 {Z a0} (hw : HW Z a0) : Cond.before (Cond.code (⟨"java/lang/Integer", "stringSize", "(I)I"⟩ : MethodName) jdk_33_method_13_code (4 : Nat) (Option.some FieldType.int)) a0 Z = true := hw _ (List.mem_of_getElem? (i := 130) rfl)
theorem w129 {Z a0} (hw : HW Z a0) : Cond.before (Cond.initialized "java/lang/Integer") a0 Z = true := hw _ (List.mem_of_getElem? (i := 129) rfl)
theorem d28_7 : decode jdk_68_method_32_code 7 = .ok (.invokestatic 245, 3) := by decide +kernel
theorem w127 {Z a0} (hw : HW Z a0) : Cond.before (Cond.methodLink "java/lang/AbstractStringBuilder" (245 : Nat) (⟨"java/lang/Integer", "stringSize", "(I)I"⟩ : MethodName)) a0 Z = true := hw _ (List.mem_of_getElem? (i := 127) rfl)
theorem w128 {Z a0} (hw : HW Z a0) : Cond.before (Cond.static (⟨"java/lang/Integer", "stringSize", "(I)I"⟩ : MethodName)) a0 Z = true := hw _ (List.mem_of_getElem? (i := 128) rfl)
theorem d28_10 : decode jdk_68_method_32_code 10 = .ok (.iadd, 1) := by decide +kernel
theorem d28_11 : decode jdk_68_method_32_code 11 = .ok (.istore_n 3, 1) := by decide +kernel
theorem d28_12 : decode jdk_68_method_32_code 12 = .ok (.aload_n 0, 1) := by decide +kernel
theorem d28_13 : decode jdk_68_method_32_code 13 = .ok (.iload_n 3, 1) := by decide +kernel
theorem d28_14 : decode jdk_68_method_32_code 14 = .ok (.invokevirtual 100, 3) := by decide +kernel
theorem d28_17 : decode jdk_68_method_32_code 17 = .ok (.aload_n 0, 1) := by decide +kernel
theorem w135 {Z a0} (hw : HW Z a0) : Cond.before (Cond.code (⟨"java/lang/AbstractStringBuilder", "isLatin1", "()Z"⟩ : MethodName) jdk_68_method_68_code (1 : Nat) (Option.some FieldType.boolean)) a0 Z = true := hw _ (List.mem_of_getElem? (i := 135) rfl)
theorem d28_18 : decode jdk_68_method_32_code 18 = .ok (.invokevirtual 83, 3) := by decide +kernel
theorem w131 {Z a0} (hw : HW Z a0) : Cond.before (Cond.methodLink "java/lang/AbstractStringBuilder" (83 : Nat) (⟨"java/lang/AbstractStringBuilder", "isLatin1", "()Z"⟩ : MethodName)) a0 Z = true := hw _ (List.mem_of_getElem? (i := 131) rfl)
theorem w134 {Z a0} (hw : HW Z a0) : Cond.before (Cond.selects "java/lang/StringBuilder" (⟨"java/lang/AbstractStringBuilder", "isLatin1", "()Z"⟩ : MethodName) (⟨"java/lang/AbstractStringBuilder", "isLatin1", "()Z"⟩ : MethodName)) a0 Z = true := hw _ (List.mem_of_getElem? (i := 134) rfl)
theorem w133 {Z a0} (hw : HW Z a0) : Cond.before (Cond.instanceMethod (⟨"java/lang/AbstractStringBuilder", "isLatin1", "()Z"⟩ : MethodName)) a0 Z = true := hw _ (List.mem_of_getElem? (i := 133) rfl)
theorem w132 {Z a0} (hw : HW Z a0) : Cond.before (Cond.declares (⟨"java/lang/AbstractStringBuilder", "isLatin1", "()Z"⟩ : MethodName)) a0 Z = true := hw _ (List.mem_of_getElem? (i := 132) rfl)
theorem d28_21 : decode jdk_68_method_32_code 21 = .ok (.ifCond .eq 16, 3) := by decide +kernel
theorem d28_24 : decode jdk_68_method_32_code 24 = .ok (.iload_n 1, 1) := by decide +kernel
theorem d28_25 : decode jdk_68_method_32_code 25 = .ok (.iload_n 3, 1) := by decide +kernel
theorem d28_26 : decode jdk_68_method_32_code 26 = .ok (.aload_n 0, 1) := by decide +kernel
theorem d28_27 : decode jdk_68_method_32_code 27 = .ok (.getfield 15, 3) := by decide +kernel
theorem w138 {Z a0} (hw : HW Z a0) : Cond.before (Cond.code (⟨"java/lang/Integer", "getChars", "(II[B)I"⟩ : MethodName) jdk_33_method_12_code (7 : Nat) (Option.some FieldType.int)) a0 Z = true := hw _ (List.mem_of_getElem? (i := 138) rfl)
theorem pd_636 : parseMethodDescriptor "(II[B)I" = some ⟨[.int, .int, (.array .byte)], some .int⟩ := by decide +kernel
theorem d28_30 : decode jdk_68_method_32_code 30 = .ok (.invokestatic 248, 3) := by decide +kernel
theorem w136 {Z a0} (hw : HW Z a0) : Cond.before (Cond.methodLink "java/lang/AbstractStringBuilder" (248 : Nat) (⟨"java/lang/Integer", "getChars", "(II[B)I"⟩ : MethodName)) a0 Z = true := hw _ (List.mem_of_getElem? (i := 136) rfl)
theorem w137 {Z a0} (hw : HW Z a0) : Cond.before (Cond.static (⟨"java/lang/Integer", "getChars", "(II[B)I"⟩ : MethodName)) a0 Z = true := hw _ (List.mem_of_getElem? (i := 137) rfl)
theorem d28_33 : decode jdk_68_method_32_code 33 = .ok (.pop, 1) := by decide +kernel
theorem d28_34 : decode jdk_68_method_32_code 34 = .ok (.goto 14, 3) := by decide +kernel
theorem d28_48 : decode jdk_68_method_32_code 48 = .ok (.aload_n 0, 1) := by decide +kernel
theorem d28_49 : decode jdk_68_method_32_code 49 = .ok (.iload_n 3, 1) := by decide +kernel
theorem d28_50 : decode jdk_68_method_32_code 50 = .ok (.putfield 79, 3) := by decide +kernel
theorem d28_53 : decode jdk_68_method_32_code 53 = .ok (.aload_n 0, 1) := by decide +kernel
theorem d28_54 : decode jdk_68_method_32_code 54 = .ok (.areturn, 1) := by decide +kernel
abbrev R_appI : Room := { frames := 1, cells := 0, slots := 0, locals := 18 }
def Q_appI (Z : State) (G1 : Int32) (G3 : Value) (g1 : Addr) (kg1 : ClassId) (g2 : Addr) (kg2 : ClassId) (uS : Value) (sS : Value) (sb : Addr) (vv : Addr) (kv : ClassId) (cap : Int32) (ff : List Int32) (cnt : Int32) (ii : Int32) (h0 : Heap) (n0 : Nat) (v : Option Value) (h : Heap) (L : List Loc) : Prop := (v = some (.ref sb) ∧ Fr n0 L ∧ Keep h0 h [sb, vv] ∧ (Exa Z h sb "java/lang/StringBuilder") ∧ (Fld Z h sb "java/lang/AbstractStringBuilder" "value" "[B" (.ref vv)) ∧ (Fld Z h sb "java/lang/AbstractStringBuilder" "coder" "B" (.int 0)) ∧ (Fld Z h sb "java/lang/AbstractStringBuilder" "count" "I" (.int (cnt + (own_ssz ii)))) ∧ (Arv Z h vv kv .byte cap (own_iv (own_sb (ff ++ (own_dl (own_M ii) (own_dn ii))) cap.toNatClampNeg)) (.int 0)) ∧ (Exa Z h vv "[B") ∧ ((cnt + (own_ssz ii)).toNatClampNeg = (ff ++ (own_dl (own_M ii) (own_dn ii))).length) ∧ (¬ ((cnt + (own_ssz ii)) < (0 : Int32))))
theorem rm_appI (l : Launch) (Z : State) (a0 : Array Value) (hw : HW Z a0) (ws : List Jvm.Cond) (G1 : Int32) (G3 : Value) (g1 : Addr) (kg1 : ClassId) (g2 : Addr) (kg2 : ClassId) (uS : Value) (sS : Value) (HG : own_G l Z a0 G1 G3 g1 kg1 g2 kg2 uS sS) (h0 : Heap) (n0 : Nat) (X00 : Old Z n0 h0) (sb : Addr) (vv : Addr) (kv : ClassId) (cap : Int32) (ff : List Int32) (cnt : Int32) (ii : Int32) (hp0 : Exa Z h0 sb "java/lang/StringBuilder") (hp1 : Fld Z h0 sb "java/lang/AbstractStringBuilder" "value" "[B" (.ref vv)) (hp2 : Fld Z h0 sb "java/lang/AbstractStringBuilder" "coder" "B" (.int 0)) (hp3 : Fld Z h0 sb "java/lang/AbstractStringBuilder" "count" "I" (.int cnt)) (hp4 : Arv Z h0 vv kv .byte cap (own_iv (own_sb ff cap.toNatClampNeg)) (.int 0)) (hp5 : Exa Z h0 vv "[B") (hp6 : n0 ≤ sb) (hp7 : n0 ≤ vv) (hp8 : sb ≠ vv) (hpos : (0 : Int32) < ii) (hc0 : ¬ (cnt < (0 : Int32))) (hz : ¬ (cap < (0 : Int32))) (hcn : cnt.toNatClampNeg = ff.length) (h64 : cap.toNatClampNeg ≤ 64) (hfit : ff.length + own_dn ii ≤ cap.toNatClampNeg) :
  own_CP l Z M606 jdk_68_method_32_code 4 (some (.object "java/lang/AbstractStringBuilder")) ws R_appI #[(.ref sb), (.int ii)] h0 (Q_appI Z G1 G3 g1 kg1 g2 kg2 uS sS sb vv kv cap ff cnt ii h0 n0) := by
 refine own_P (plainFor_of_name pn_207) ?_
 intro p e s m below meth c s₁ S0 Bd hZ hh hx hby hml hown hnm X0 e0 hS0d
 obtain ⟨O1, P1, O3f, rG3, Sg1, Dg1, Sg2, Dg2, hLT, OU, rU, OS, rS⟩ := id HG
 have N0 := Fr.nil n0
 have C0 : Steps p.tables e below S0 (s₁.setTop (mkF m 0 #[VR sb, VI ii, .unset, .unset] [])) := by rw [hS0d]; exact castTop (ef_607 m sb ii) (Steps.refl _)
 obtain ⟨T_1, X_2, e_3, st_4⟩ := getF X0 hx hZ hown (host := "") (Or.inl (w88 hw)) Via.refl e0 hp3 (g := (mkF m 1 #[VR sb, VI ii, .unset, .unset] [(.ref sb)])) rfl rfl (hb hby d28_1)
 obtain ⟨_, _, ⟨T_5, L_5, k_5, n_5⟩, -, X_5, ⟨Lc_5, hQ_5, l_5, y_5, z_5⟩, st_5⟩ := Jvm.LawKit.callS X_2 hx (y := M493) hown (mvT hZ (w127 hw)) (mvT hZ (w128 hw)) (mvT hZ (w129 hw)) (mvT hZ (w130 hw)) (by decide) (backOf (W := 1) (rm_ssz l Z a0 hw [] G1 G3 g1 kg1 g2 kg2 uS sS HG h0 n0 X00 ii hpos) hZ (w130 hw) (w129 hw) (by decide) (by decide)) (g := (mkF m 7 #[VR sb, VI ii, VI cnt, .unset] [(.int ii), (.int cnt)])) rfl (by rw [hml]; rfl) (argsL := [(.int ii)]) (rest := [(.int cnt)]) (lenOf pd_420 rfl) rfl (by show 2 * 0 + _ ≤ _; exact Nat.le_of_eq rfl) (hb hby d28_7) (fun _ _ => ⟨rfl, e_3, (by decide : 0 + 0 ≤ _), (by decide : 0 + 0 ≤ _)⟩)
 dsimp only [Pt.U, Pt.locs, Pt.cells, Pt.slots] at X_5 l_5 y_5 z_5 st_5 hQ_5
 have X_5 := own_cast X_5 l_5 y_5 z_5
 obtain ⟨rfl, N_6, e_7⟩ := hQ_5
 have N_8 := Fr.app N0 N_6
 have e_9 : T_5.heap = h0 := e_7
 obtain ⟨cl_16, hc_17, hc_18⟩ := hp0.cell
 obtain ⟨_, _, ⟨T_10, L_10, k_10, n_10⟩, -, X_10, ⟨Lc_10, hQ_10, l_10, y_10, z_10⟩, st_10⟩ := X_5.privateBack hx (y := M240) hown (mvT hZ (w90 hw)) (mvT hZ (w91 hw)) (mvT hZ (own_selp (y := M240) (by decide) (w93 hw) (w92 hw))) (own_priv (args := #[]) (mvP hZ (w92 hw))) (mvT hZ (w94 hw)) (by decide) (backOf (W := 0) (rm_ecap l Z a0 hw [] G1 G3 g1 kg1 g2 kg2 uS sS HG h0 n0 X00 sb vv kv cap (own_iv (own_sb ff cap.toNatClampNeg)) (cnt + (own_ssz ii)) hp1 hp2 hp4 (own_app2 hc0 (own_sszr ii).2 hz hcn own_dll (by rw [own_dl_len]; exact hfit) h64)) hZ (w94 hw) (w60 hw) (by decide) (by decide)) (g := (mkF m 14 #[VR sb, VI ii, VI cnt, .val (.int (cnt + (own_ssz ii)))] [(.int (cnt + (own_ssz ii))), (.ref sb)])) rfl (by rw [hml]; rfl) (Steps.refl _) (a := sb) (cell := cl_16) (by rw [e_9]; exact hc_17) hc_18 (argsL := [(.int (cnt + (own_ssz ii)))]) (rest := []) (lenOf pd_235 rfl) rfl (by show 2 * 0 + _ ≤ _; exact Nat.le_of_eq rfl) (hb hby d28_14) (fun _ _ => ⟨rfl, e_9, (by decide : 0 + 0 ≤ _), (by decide : 0 + 0 ≤ _)⟩)
 dsimp only [Pt.U, Pt.locs, Pt.cells, Pt.slots] at X_10 l_10 y_10 z_10 st_10 hQ_10
 have X_10 := own_cast X_10 l_10 y_10 z_10
 obtain ⟨rfl, N_19, e_20⟩ := hQ_10
 have N_21 := Fr.app N_8 N_19
 have e_22 : T_10.heap = h0 := e_20
 obtain ⟨q_24, q_25, q_26, q_27, q_28⟩ := isOf (T := T_10) hZ e_22 hp0
 obtain ⟨_, _, ⟨T_23, L_23, k_23, n_23⟩, -, X_23, ⟨Lc_23, hQ_23, l_23, y_23, z_23⟩, st_23⟩ := X_10.virtualBack hx (y := M597) (z := M597) hown (mvT hZ (w131 hw)) (mvT hZ (w132 hw)) (own_nfc (args := #[]) (mvT hZ (w93 hw)) rfl) (mvT hZ (w134 hw)) (mvT hZ (w133 hw)) (by decide) (backOf (W := 0) (rm_aslat l Z a0 hw [] G1 G3 g1 kg1 g2 kg2 uS sS HG h0 n0 X00 sb hp2) hZ (w135 hw) (w60 hw) (by decide) (by decide)) q_26 q_28 (g := (mkF m 18 #[VR sb, VI ii, VI cnt, .val (.int (cnt + (own_ssz ii)))] [(.ref sb)])) rfl (by rw [hml]; rfl) (Steps.refl _) (argsL := []) (rest := []) (lenOf pd_189 rfl) rfl (by show 2 * 0 + _ ≤ _; exact Nat.le_of_eq rfl) (hb hby d28_18) (fun _ _ => ⟨rfl, e_22, (by decide : 0 + 0 ≤ _), (by decide : 0 + 0 ≤ _)⟩)
 dsimp only [Pt.U, Pt.locs, Pt.cells, Pt.slots] at X_23 l_23 y_23 z_23 st_23 hQ_23
 have X_23 := own_cast X_23 l_23 y_23 z_23
 obtain ⟨rfl, N_29, e_30⟩ := hQ_23
 have N_31 := Fr.app N_21 N_29
 have e_32 : T_23.heap = h0 := e_30
 obtain ⟨T_33, X_34, e_35, st_36⟩ := getF X_23 hx hZ hown (host := "") (Or.inl (w64 hw)) Via.refl e_32 hp1 (g := (mkF m 27 #[VR sb, VI ii, VI cnt, .val (.int (cnt + (own_ssz ii)))] [(.ref sb), (.int (cnt + (own_ssz ii))), (.int ii)])) rfl rfl (hb hby d28_27)
 obtain ⟨_, _, ⟨T_37, L_37, k_37, n_37⟩, -, X_37, ⟨Lc_37, hQ_37, l_37, y_37, z_37⟩, st_37⟩ := Jvm.LawKit.callS X_34 hx (y := M529) hown (mvT hZ (w136 hw)) (mvT hZ (w137 hw)) (mvT hZ (w129 hw)) (mvT hZ (w138 hw)) (by decide) (backOf (W := 0) (rm_gch l Z a0 hw [] G1 G3 g1 kg1 g2 kg2 uS sS HG h0 n0 X00 vv kv cap ff ii (cnt + (own_ssz ii)) hp4 hp7 hpos hz (own_app1 hc0 (own_sszr ii).2 hcn own_dll (by rw [own_dl_len]; exact hfit) h64).2 (by rw [(own_app1 hc0 (own_sszr ii).2 hcn own_dll (by rw [own_dl_len]; exact hfit) h64).1, List.length_append, own_dl_len]) hfit) hZ (w138 hw) (w129 hw) (by decide) (by decide)) (g := (mkF m 30 #[VR sb, VI ii, VI cnt, .val (.int (cnt + (own_ssz ii)))] [(.ref vv), (.int (cnt + (own_ssz ii))), (.int ii)])) rfl (by rw [hml]; rfl) (argsL := [(.int ii), (.int (cnt + (own_ssz ii))), (.ref vv)]) (rest := []) (lenOf pd_636 rfl) rfl (by show 2 * 0 + _ ≤ _; exact Nat.le_of_eq rfl) (hb hby d28_30) (fun _ _ => ⟨rfl, e_35, (by decide : 0 + 0 ≤ _), (by decide : 0 + 0 ≤ _)⟩)
 dsimp only [Pt.U, Pt.locs, Pt.cells, Pt.slots] at X_37 l_37 y_37 z_37 st_37 hQ_37
 have X_37 := own_cast X_37 l_37 y_37 z_37
 obtain ⟨i_38, rfl, N_39, K_40, g_41⟩ := hQ_37
 have N_42 := Fr.app N_31 N_39
 have F_43 : Fld Z T_37.heap sb "java/lang/AbstractStringBuilder" "count" "I" (.int cnt) := (hp3.keep K_40 (ninS hp8 nin0))
 have E_44 : Exa Z T_37.heap sb "java/lang/StringBuilder" := (hp0.keep K_40)
 obtain ⟨T_45, h_46, X_47, e_48, W_49, st_50⟩ := putF X_37 hx hZ hown (host := "") (Or.inl (w88 hw)) Via.refl rfl F_43 E_44 (Or.inl (w89 hw)) (w51 hw) (ty := .int) (by decide) rfl rfl (g := (mkF m 50 #[VR sb, VI ii, VI cnt, .val (.int (cnt + (own_ssz ii)))] [(.int (cnt + (own_ssz ii))), (.ref sb)])) rfl rfl (hb hby d28_50)
 have N_51 := Fr.snoc X_47 N_42 hp6
 have F_52 : Fld Z h_46 sb "java/lang/AbstractStringBuilder" "count" "I" (.int (cnt + (own_ssz ii))) := F_43.same W_49
 have C_53 : Steps p.tables e below S0 (T_45.setTop (mkF m 54 #[VR sb, VI ii, VI cnt, .val (.int (cnt + (own_ssz ii)))] [(.ref sb)])) := by
  refine C0.trans ?_
  refine XS.aloadN X0.here hx rfl (hb hby d28_0) rfl rfl ?_
  refine st_4 _ ?_
  refine XS.istoreN X_2.here hx rfl (hb hby d28_4) rfl (l' := #[VR sb, VI ii, VI cnt, .unset]) rfl ?_
  refine XS.iloadN X_2.here hx rfl (hb hby d28_5) rfl ?_
  refine XS.iloadN X_2.here hx rfl (hb hby d28_6) rfl ?_
  refine st_5 _ ?_
  refine XS.iadd X_5.here hx rfl (hb hby d28_10) rfl ?_
  refine XS.istoreN X_5.here hx rfl (hb hby d28_11) rfl (l' := #[VR sb, VI ii, VI cnt, .val (.int (cnt + (own_ssz ii)))]) rfl ?_
  show Steps p.tables e below (T_5.setTop (mkF m 12 #[VR sb, VI ii, VI cnt, .val (.int (cnt + (own_ssz ii)))] [])) _
  refine XS.aloadN X_5.here hx rfl (hb hby d28_12) rfl rfl ?_
  refine XS.iloadN X_5.here hx rfl (hb hby d28_13) rfl ?_
  refine st_10.trans ?_
  refine XS.aloadN X_10.here hx rfl (hb hby d28_17) rfl rfl ?_
  refine st_23.trans ?_
  refine XS.ifNo X_23.here hx rfl (hb hby d28_21) rfl (by decide) ?_
  refine XS.iloadN X_23.here hx rfl (hb hby d28_24) rfl ?_
  refine XS.iloadN X_23.here hx rfl (hb hby d28_25) rfl ?_
  show Steps p.tables e below (T_23.setTop (mkF m 26 #[VR sb, VI ii, VI cnt, .val (.int (cnt + (own_ssz ii)))] [(.int (cnt + (own_ssz ii))), (.int ii)])) _
  refine XS.aloadN X_23.here hx rfl (hb hby d28_26) rfl rfl ?_
  refine st_36 _ ?_
  refine st_37 _ ?_
  refine XS.pop X_37.here hx rfl (hb hby d28_33) rfl rfl ?_
  refine XS.goto X_37.here hx rfl (pc0 := 34) (pc' := 48) rfl (hb hby d28_34) (by decide) (by decide) ?_
  refine XS.aloadN X_37.here hx rfl (hb hby d28_48) rfl rfl ?_
  refine XS.iloadN X_37.here hx rfl (hb hby d28_49) rfl ?_
  refine st_50 _ ?_
  show Steps p.tables e below (T_45.setTop (mkF m 53 #[VR sb, VI ii, VI cnt, .val (.int (cnt + (own_ssz ii)))] [])) _
  refine XS.aloadN X_47.here hx rfl (hb hby d28_53) rfl rfl ?_
  exact Steps.refl _
 have E_54 : Exa Z h_46 sb "java/lang/StringBuilder" := (E_44.wr W_49)
 have F_55 : Fld Z h_46 sb "java/lang/AbstractStringBuilder" "value" "[B" (.ref vv) := ((hp1.keep K_40 (ninS hp8 nin0)).other W_49 (Or.inr (slot_ne (Or.inl (w65 hw)) (Or.inl (w89 hw)) (by decide) (t := (.array .byte)) (by decide) (t' := .int) (by decide))))
 have F_56 : Fld Z h_46 sb "java/lang/AbstractStringBuilder" "coder" "B" (.int 0) := ((hp2.keep K_40 (ninS hp8 nin0)).other W_49 (Or.inr (slot_ne (Or.inl (w67 hw)) (Or.inl (w89 hw)) (by decide) (t := .byte) (by decide) (t' := .int) (by decide))))
 have V_57 : Arv Z h_46 vv kv .byte cap (own_iv (own_sb (ff ++ (own_dl (own_M ii) (own_dn ii))) cap.toNatClampNeg)) (.int 0) := (g_41.other W_49 (Ne.symm hp8))
 have E_58 : Exa Z h_46 vv "[B" := ((hp5.keep K_40).wr W_49)
 have K_59 : Keep h0 h_46 [sb, vv] := (((Keep.refl _ _).trans K_40 (allS (Or.inl (List.mem_of_getElem? (i := 1) rfl)) all0)).wr W_49 (Or.inl (List.mem_of_getElem? (i := 0) rfl)))
 obtain ⟨fs, hr, hrun, hended, hW, hsame⟩ := X_47.leave (v := some (.ref sb)) (fun h => by rw [Bd.returns] at h; cases h)
 refine ⟨_, _, C_53.trans (retOut X_47 hx Bd.returns rfl (Or.inr (Or.inr (Or.inr (Or.inr ⟨rfl, rfl, rfl⟩)))) (hb hby d28_54) hr), hrun, hended, _, _, rfl, ?_, ⟨_, rfl⟩, hW, hsame.mono (by decide) (by decide)⟩
 show Q_appI Z G1 G3 g1 kg1 g2 kg2 uS sS sb vv kv cap ff cnt ii h0 n0 (some (.ref sb)) T_45.heap _
 rw [e_48]
 exact ⟨rfl, N_51, K_59, E_54, F_55, F_56, F_52, V_57, E_58, (own_app1 hc0 (own_sszr ii).2 hcn own_dll (by rw [own_dl_len]; exact hfit) h64).1, (own_app1 hc0 (own_sszr ii).2 hcn own_dll (by rw [own_dl_len]; exact hfit) h64).2⟩
abbrev M647 : MethodName := ⟨"java/lang/StringBuilder", "append", "(I)Ljava/lang/StringBuilder;"⟩
theorem d29_0 : decode jdk_67_method_15_code 0 = .ok (.aload_n 0, 1) := by decide +kernel
theorem d29_1 : decode jdk_67_method_15_code 1 = .ok (.iload_n 1, 1) := by decide +kernel
theorem w126 {Z a0} (hw : HW Z a0) : Cond.before (Cond.code (⟨"java/lang/AbstractStringBuilder", "append", "(I)Ljava/lang/AbstractStringBuilder;"⟩ : MethodName) jdk_68_method_32_code (4 : Nat) (Option.some (FieldType.object "java/lang/AbstractStringBuilder"))) a0 Z = true := hw _ (List.mem_of_getElem? (i := 126) rfl)
theorem pd_651 : parseMethodDescriptor "(I)Ljava/lang/AbstractStringBuilder;" = some ⟨[.int], some (.object "java/lang/AbstractStringBuilder")⟩ := by decide +kernel
theorem d29_2 : decode jdk_67_method_15_code 2 = .ok (.invokespecial 53, 3) := by decide +kernel
theorem w123 {Z a0} (hw : HW Z a0) : Cond.before (Cond.methodLink "java/lang/StringBuilder" (53 : Nat) (⟨"java/lang/AbstractStringBuilder", "append", "(I)Ljava/lang/AbstractStringBuilder;"⟩ : MethodName)) a0 Z = true := hw _ (List.mem_of_getElem? (i := 123) rfl)
theorem w125 {Z a0} (hw : HW Z a0) : Cond.before (Cond.declares (⟨"java/lang/AbstractStringBuilder", "append", "(I)Ljava/lang/AbstractStringBuilder;"⟩ : MethodName)) a0 Z = true := hw _ (List.mem_of_getElem? (i := 125) rfl)
theorem w124 {Z a0} (hw : HW Z a0) : Cond.before (Cond.instanceMethod (⟨"java/lang/AbstractStringBuilder", "append", "(I)Ljava/lang/AbstractStringBuilder;"⟩ : MethodName)) a0 Z = true := hw _ (List.mem_of_getElem? (i := 124) rfl)
theorem d29_5 : decode jdk_67_method_15_code 5 = .ok (.pop, 1) := by decide +kernel
theorem d29_6 : decode jdk_67_method_15_code 6 = .ok (.aload_n 0, 1) := by decide +kernel
theorem d29_7 : decode jdk_67_method_15_code 7 = .ok (.areturn, 1) := by decide +kernel
abbrev R_sappI : Room := { frames := 2, cells := 0, slots := 0, locals := 33 }
def Q_sappI (Z : State) (G1 : Int32) (G3 : Value) (g1 : Addr) (kg1 : ClassId) (g2 : Addr) (kg2 : ClassId) (uS : Value) (sS : Value) (sb : Addr) (vv : Addr) (kv : ClassId) (cap : Int32) (ff : List Int32) (cnt : Int32) (ii : Int32) (h0 : Heap) (n0 : Nat) (v : Option Value) (h : Heap) (L : List Loc) : Prop := (v = some (.ref sb) ∧ Fr n0 L ∧ Keep h0 h [sb, vv] ∧ (Exa Z h sb "java/lang/StringBuilder") ∧ (Fld Z h sb "java/lang/AbstractStringBuilder" "value" "[B" (.ref vv)) ∧ (Fld Z h sb "java/lang/AbstractStringBuilder" "coder" "B" (.int 0)) ∧ (Fld Z h sb "java/lang/AbstractStringBuilder" "count" "I" (.int (cnt + (own_ssz ii)))) ∧ (Arv Z h vv kv .byte cap (own_iv (own_sb (ff ++ (own_dl (own_M ii) (own_dn ii))) cap.toNatClampNeg)) (.int 0)) ∧ (Exa Z h vv "[B") ∧ ((cnt + (own_ssz ii)).toNatClampNeg = (ff ++ (own_dl (own_M ii) (own_dn ii))).length) ∧ (¬ ((cnt + (own_ssz ii)) < (0 : Int32))))
theorem rm_sappI (l : Launch) (Z : State) (a0 : Array Value) (hw : HW Z a0) (ws : List Jvm.Cond) (G1 : Int32) (G3 : Value) (g1 : Addr) (kg1 : ClassId) (g2 : Addr) (kg2 : ClassId) (uS : Value) (sS : Value) (HG : own_G l Z a0 G1 G3 g1 kg1 g2 kg2 uS sS) (h0 : Heap) (n0 : Nat) (X00 : Old Z n0 h0) (sb : Addr) (vv : Addr) (kv : ClassId) (cap : Int32) (ff : List Int32) (cnt : Int32) (ii : Int32) (hp0 : Exa Z h0 sb "java/lang/StringBuilder") (hp1 : Fld Z h0 sb "java/lang/AbstractStringBuilder" "value" "[B" (.ref vv)) (hp2 : Fld Z h0 sb "java/lang/AbstractStringBuilder" "coder" "B" (.int 0)) (hp3 : Fld Z h0 sb "java/lang/AbstractStringBuilder" "count" "I" (.int cnt)) (hp4 : Arv Z h0 vv kv .byte cap (own_iv (own_sb ff cap.toNatClampNeg)) (.int 0)) (hp5 : Exa Z h0 vv "[B") (hp6 : n0 ≤ sb) (hp7 : n0 ≤ vv) (hp8 : sb ≠ vv) (hpos : (0 : Int32) < ii) (hc0 : ¬ (cnt < (0 : Int32))) (hz : ¬ (cap < (0 : Int32))) (hcn : cnt.toNatClampNeg = ff.length) (h64 : cap.toNatClampNeg ≤ 64) (hfit : ff.length + own_dn ii ≤ cap.toNatClampNeg) :
  own_CP l Z M647 jdk_67_method_15_code 2 (some (.object "java/lang/StringBuilder")) ws R_sappI #[(.ref sb), (.int ii)] h0 (Q_sappI Z G1 G3 g1 kg1 g2 kg2 uS sS sb vv kv cap ff cnt ii h0 n0) := by
 refine own_P (plainFor_of_name pn_230) ?_
 intro p e s m below meth c s₁ S0 Bd hZ hh hx hby hml hown hnm X0 e0 hS0d
 obtain ⟨O1, P1, O3f, rG3, Sg1, Dg1, Sg2, Dg2, hLT, OU, rU, OS, rS⟩ := id HG
 have N0 := Fr.nil n0
 have C0 : Steps p.tables e below S0 (s₁.setTop (mkF m 0 #[VR sb, VI ii] [])) := by rw [hS0d]; exact castTop (ef_50 m sb ii) (Steps.refl _)
 obtain ⟨q_2, q_3, q_4, q_5, q_6⟩ := isOf (T := s₁) hZ e0 hp0
 obtain ⟨_, _, ⟨T_1, L_1, k_1, n_1⟩, -, X_1, ⟨Lc_1, hQ_1, l_1, y_1, z_1⟩, st_1⟩ := own_superBack X0 hx (y := M606) hown (mvT hZ (w123 hw)) (mvT hZ (w75 hw)) (mvT hZ (w125 hw)) (mvT hZ (w124 hw)) (own_nfc (args := #[]) (mvT hZ (w93 hw)) rfl) (by decide) (by decide) (backOf (W := 0) (rm_appI l Z a0 hw [] G1 G3 g1 kg1 g2 kg2 uS sS HG h0 n0 X00 sb vv kv cap ff cnt ii hp0 hp1 hp2 hp3 hp4 hp5 hp6 hp7 hp8 hpos hc0 hz hcn h64 hfit) hZ (w126 hw) (w60 hw) (by decide) (by decide)) q_5 q_6 (g := (mkF m 2 #[VR sb, VI ii] [(.int ii), (.ref sb)])) rfl (by rw [hml]; rfl) (Steps.refl _) (argsL := [(.int ii)]) (rest := []) (lenOf pd_651 rfl) rfl (by show 2 * 0 + _ ≤ _; exact Nat.le_of_eq rfl) (hb hby d29_2) (fun _ _ => ⟨rfl, e0, (by decide : 0 + 0 ≤ _), (by decide : 0 + 0 ≤ _)⟩)
 dsimp only [Pt.U, Pt.locs, Pt.cells, Pt.slots] at X_1 l_1 y_1 z_1 st_1 hQ_1
 have X_1 := own_cast X_1 l_1 y_1 z_1
 obtain ⟨rfl, N_7, K_8, g_9, g_10, g_11, g_12, g_13, g_14, g_15, g_16⟩ := hQ_1
 have N_17 := Fr.app N0 N_7
 have C_18 : Steps p.tables e below S0 (T_1.setTop (mkF m 7 #[VR sb, VI ii] [(.ref sb)])) := by
  refine C0.trans ?_
  refine XS.aloadN X0.here hx rfl (hb hby d29_0) rfl rfl ?_
  refine XS.iloadN X0.here hx rfl (hb hby d29_1) rfl ?_
  refine st_1.trans ?_
  refine XS.pop X_1.here hx rfl (hb hby d29_5) rfl rfl ?_
  refine XS.aloadN X_1.here hx rfl (hb hby d29_6) rfl rfl ?_
  exact Steps.refl _
 have K_19 : Keep h0 T_1.heap [sb, vv] := ((Keep.refl _ _).trans K_8 (allS (Or.inl (List.mem_of_getElem? (i := 0) rfl)) (allS (Or.inl (List.mem_of_getElem? (i := 1) rfl)) all0)))
 obtain ⟨fs, hr, hrun, hended, hW, hsame⟩ := X_1.leave (v := some (.ref sb)) (fun h => by rw [Bd.returns] at h; cases h)
 refine ⟨_, _, C_18.trans (retOut X_1 hx Bd.returns rfl (Or.inr (Or.inr (Or.inr (Or.inr ⟨rfl, rfl, rfl⟩)))) (hb hby d29_7) hr), hrun, hended, _, _, rfl, ?_, ⟨_, rfl⟩, hW, hsame.mono (by decide) (by decide)⟩
 show Q_sappI Z G1 G3 g1 kg1 g2 kg2 uS sS sb vv kv cap ff cnt ii h0 n0 (some (.ref sb)) T_1.heap _
 exact ⟨rfl, N_17, K_19, g_9, g_10, g_11, g_12, g_13, g_14, g_15, g_16⟩
abbrev M659 : MethodName := ⟨"java/lang/AbstractStringBuilder", "getValue", "()[B"⟩
theorem d30_0 : decode jdk_68_method_64_code 0 = .ok (.aload_n 0, 1) := by decide +kernel
theorem d30_1 : decode jdk_68_method_64_code 1 = .ok (.getfield 15, 3) := by decide +kernel
theorem d30_4 : decode jdk_68_method_64_code 4 = .ok (.areturn, 1) := by decide +kernel
abbrev R_getv : Room := { frames := 0, cells := 0, slots := 0, locals := 0 }
def Q_getv (Z : State) (G1 : Int32) (G3 : Value) (g1 : Addr) (kg1 : ClassId) (g2 : Addr) (kg2 : ClassId) (uS : Value) (sS : Value) (sb : Addr) (vv : Addr) (h0 : Heap) (n0 : Nat) (v : Option Value) (h : Heap) (L : List Loc) : Prop := (v = some (.ref vv) ∧ Fr n0 L ∧ h = h0)
theorem rm_getv (l : Launch) (Z : State) (a0 : Array Value) (hw : HW Z a0) (ws : List Jvm.Cond) (G1 : Int32) (G3 : Value) (g1 : Addr) (kg1 : ClassId) (g2 : Addr) (kg2 : ClassId) (uS : Value) (sS : Value) (HG : own_G l Z a0 G1 G3 g1 kg1 g2 kg2 uS sS) (h0 : Heap) (n0 : Nat) (X00 : Old Z n0 h0) (sb : Addr) (vv : Addr) (hp0 : Fld Z h0 sb "java/lang/AbstractStringBuilder" "value" "[B" (.ref vv)) :
  own_CP l Z M659 jdk_68_method_64_code 1 (some (.array .byte)) ws R_getv #[(.ref sb)] h0 (Q_getv Z G1 G3 g1 kg1 g2 kg2 uS sS sb vv h0 n0) := by
 refine own_P (plainFor_of_name pn_207) ?_
 intro p e s m below meth c s₁ S0 Bd hZ hh hx hby hml hown hnm X0 e0 hS0d
 obtain ⟨O1, P1, O3f, rG3, Sg1, Dg1, Sg2, Dg2, hLT, OU, rU, OS, rS⟩ := id HG
 have N0 := Fr.nil n0
 have C0 : Steps p.tables e below S0 (s₁.setTop (mkF m 0 #[VR sb] [])) := by rw [hS0d]; exact castTop (ef_115 m sb) (Steps.refl _)
 obtain ⟨T_1, X_2, e_3, st_4⟩ := getF X0 hx hZ hown (host := "") (Or.inl (w64 hw)) Via.refl e0 hp0 (g := (mkF m 1 #[VR sb] [(.ref sb)])) rfl rfl (hb hby d30_1)
 have C_5 : Steps p.tables e below S0 (T_1.setTop (mkF m 4 #[VR sb] [(.ref vv)])) := by
  refine C0.trans ?_
  refine XS.aloadN X0.here hx rfl (hb hby d30_0) rfl rfl ?_
  refine st_4 _ ?_
  exact Steps.refl _
 obtain ⟨fs, hr, hrun, hended, hW, hsame⟩ := X_2.leave (v := some (.ref vv)) (fun h => by rw [Bd.returns] at h; cases h)
 refine ⟨_, _, C_5.trans (retOut X_2 hx Bd.returns rfl (Or.inr (Or.inr (Or.inr (Or.inr ⟨rfl, rfl, rfl⟩)))) (hb hby d30_4) hr), hrun, hended, _, _, rfl, ?_, ⟨_, rfl⟩, hW, hsame.mono (by decide) (by decide)⟩
 show Q_getv Z G1 G3 g1 kg1 g2 kg2 uS sS sb vv h0 n0 (some (.ref vv)) T_1.heap _
 rw [e_3]
 exact ⟨rfl, N0, rfl⟩
abbrev M663 : MethodName := ⟨"java/lang/AbstractStringBuilder", "length", "()I"⟩
theorem d31_0 : decode jdk_68_method_6_code 0 = .ok (.aload_n 0, 1) := by decide +kernel
theorem d31_1 : decode jdk_68_method_6_code 1 = .ok (.getfield 79, 3) := by decide +kernel
theorem d31_4 : decode jdk_68_method_6_code 4 = .ok (.ireturn, 1) := by decide +kernel
abbrev R_aslen : Room := { frames := 0, cells := 0, slots := 0, locals := 0 }
def Q_aslen (Z : State) (G1 : Int32) (G3 : Value) (g1 : Addr) (kg1 : ClassId) (g2 : Addr) (kg2 : ClassId) (uS : Value) (sS : Value) (sb : Addr) (cnt : Int32) (h0 : Heap) (n0 : Nat) (v : Option Value) (h : Heap) (L : List Loc) : Prop := (v = some (.int cnt) ∧ Fr n0 L ∧ h = h0)
theorem rm_aslen (l : Launch) (Z : State) (a0 : Array Value) (hw : HW Z a0) (ws : List Jvm.Cond) (G1 : Int32) (G3 : Value) (g1 : Addr) (kg1 : ClassId) (g2 : Addr) (kg2 : ClassId) (uS : Value) (sS : Value) (HG : own_G l Z a0 G1 G3 g1 kg1 g2 kg2 uS sS) (h0 : Heap) (n0 : Nat) (X00 : Old Z n0 h0) (sb : Addr) (cnt : Int32) (hp0 : Exa Z h0 sb "java/lang/StringBuilder") (hp1 : Fld Z h0 sb "java/lang/AbstractStringBuilder" "count" "I" (.int cnt)) :
  own_CP l Z M663 jdk_68_method_6_code 1 (some .int) ws R_aslen #[(.ref sb)] h0 (Q_aslen Z G1 G3 g1 kg1 g2 kg2 uS sS sb cnt h0 n0) := by
 refine own_P (plainFor_of_name pn_207) ?_
 intro p e s m below meth c s₁ S0 Bd hZ hh hx hby hml hown hnm X0 e0 hS0d
 obtain ⟨O1, P1, O3f, rG3, Sg1, Dg1, Sg2, Dg2, hLT, OU, rU, OS, rS⟩ := id HG
 have N0 := Fr.nil n0
 have C0 : Steps p.tables e below S0 (s₁.setTop (mkF m 0 #[VR sb] [])) := by rw [hS0d]; exact castTop (ef_115 m sb) (Steps.refl _)
 obtain ⟨T_1, X_2, e_3, st_4⟩ := getF X0 hx hZ hown (host := "") (Or.inl (w88 hw)) Via.refl e0 hp1 (g := (mkF m 1 #[VR sb] [(.ref sb)])) rfl rfl (hb hby d31_1)
 have C_5 : Steps p.tables e below S0 (T_1.setTop (mkF m 4 #[VR sb] [(.int cnt)])) := by
  refine C0.trans ?_
  refine XS.aloadN X0.here hx rfl (hb hby d31_0) rfl rfl ?_
  refine st_4 _ ?_
  exact Steps.refl _
 obtain ⟨fs, hr, hrun, hended, hW, hsame⟩ := X_2.leave (v := some (.int cnt)) (fun h => by rw [Bd.returns] at h; cases h)
 refine ⟨_, _, C_5.trans (retOut X_2 hx Bd.returns rfl (Or.inl ⟨rfl, Or.inl rfl, _, rfl⟩) (hb hby d31_4) hr), hrun, hended, _, _, rfl, ?_, ⟨_, rfl⟩, hW, hsame.mono (by decide) (by decide)⟩
 show Q_aslen Z G1 G3 g1 kg1 g2 kg2 uS sS sb cnt h0 n0 (some (.int cnt)) T_1.heap _
 rw [e_3]
 exact ⟨rfl, N0, rfl⟩
abbrev M667 : MethodName := ⟨"java/lang/StringBuilder", "length", "()I"⟩
theorem d32_0 : decode jdk_67_method_93_code 0 = .ok (.aload_n 0, 1) := by decide +kernel
theorem w164 {Z a0} (hw : HW Z a0) : Cond.before (Cond.code (⟨"java/lang/AbstractStringBuilder", "length", "()I"⟩ : MethodName) jdk_68_method_6_code (1 : Nat) (Option.some FieldType.int)) a0 Z = true := hw _ (List.mem_of_getElem? (i := 164) rfl)
theorem d32_1 : decode jdk_67_method_93_code 1 = .ok (.invokespecial 343, 3) := by decide +kernel
theorem w163 {Z a0} (hw : HW Z a0) : Cond.before (Cond.methodLink "java/lang/StringBuilder" (343 : Nat) (⟨"java/lang/AbstractStringBuilder", "length", "()I"⟩ : MethodName)) a0 Z = true := hw _ (List.mem_of_getElem? (i := 163) rfl)
theorem w158 {Z a0} (hw : HW Z a0) : Cond.before (Cond.declares (⟨"java/lang/AbstractStringBuilder", "length", "()I"⟩ : MethodName)) a0 Z = true := hw _ (List.mem_of_getElem? (i := 158) rfl)
theorem w159 {Z a0} (hw : HW Z a0) : Cond.before (Cond.instanceMethod (⟨"java/lang/AbstractStringBuilder", "length", "()I"⟩ : MethodName)) a0 Z = true := hw _ (List.mem_of_getElem? (i := 159) rfl)
theorem d32_4 : decode jdk_67_method_93_code 4 = .ok (.ireturn, 1) := by decide +kernel
abbrev R_sblen : Room := { frames := 1, cells := 0, slots := 0, locals := 12 }
def Q_sblen (Z : State) (G1 : Int32) (G3 : Value) (g1 : Addr) (kg1 : ClassId) (g2 : Addr) (kg2 : ClassId) (uS : Value) (sS : Value) (sb : Addr) (cnt : Int32) (h0 : Heap) (n0 : Nat) (v : Option Value) (h : Heap) (L : List Loc) : Prop := (v = some (.int cnt) ∧ Fr n0 L ∧ h = h0)
theorem rm_sblen (l : Launch) (Z : State) (a0 : Array Value) (hw : HW Z a0) (ws : List Jvm.Cond) (G1 : Int32) (G3 : Value) (g1 : Addr) (kg1 : ClassId) (g2 : Addr) (kg2 : ClassId) (uS : Value) (sS : Value) (HG : own_G l Z a0 G1 G3 g1 kg1 g2 kg2 uS sS) (h0 : Heap) (n0 : Nat) (X00 : Old Z n0 h0) (sb : Addr) (cnt : Int32) (hp0 : Exa Z h0 sb "java/lang/StringBuilder") (hp1 : Fld Z h0 sb "java/lang/AbstractStringBuilder" "count" "I" (.int cnt)) :
  own_CP l Z M667 jdk_67_method_93_code 1 (some .int) ws R_sblen #[(.ref sb)] h0 (Q_sblen Z G1 G3 g1 kg1 g2 kg2 uS sS sb cnt h0 n0) := by
 refine own_P (plainFor_of_name pn_230) ?_
 intro p e s m below meth c s₁ S0 Bd hZ hh hx hby hml hown hnm X0 e0 hS0d
 obtain ⟨O1, P1, O3f, rG3, Sg1, Dg1, Sg2, Dg2, hLT, OU, rU, OS, rS⟩ := id HG
 have N0 := Fr.nil n0
 have C0 : Steps p.tables e below S0 (s₁.setTop (mkF m 0 #[VR sb] [])) := by rw [hS0d]; exact castTop (ef_115 m sb) (Steps.refl _)
 obtain ⟨q_2, q_3, q_4, q_5, q_6⟩ := isOf (T := s₁) hZ e0 hp0
 obtain ⟨_, _, ⟨T_1, L_1, k_1, n_1⟩, -, X_1, ⟨Lc_1, hQ_1, l_1, y_1, z_1⟩, st_1⟩ := own_superBack X0 hx (y := M663) hown (mvT hZ (w163 hw)) (mvT hZ (w75 hw)) (mvT hZ (w158 hw)) (mvT hZ (w159 hw)) (own_nfc (args := #[]) (mvT hZ (w93 hw)) rfl) (by decide) (by decide) (backOf (W := 0) (rm_aslen l Z a0 hw [] G1 G3 g1 kg1 g2 kg2 uS sS HG h0 n0 X00 sb cnt hp0 hp1) hZ (w164 hw) (w60 hw) (by decide) (by decide)) q_5 q_6 (g := (mkF m 1 #[VR sb] [(.ref sb)])) rfl (by rw [hml]; rfl) (Steps.refl _) (argsL := []) (rest := []) (lenOf pd_442 rfl) rfl (by show 2 * 0 + _ ≤ _; exact Nat.le_of_eq rfl) (hb hby d32_1) (fun _ _ => ⟨rfl, e0, (by decide : 0 + 0 ≤ _), (by decide : 0 + 0 ≤ _)⟩)
 dsimp only [Pt.U, Pt.locs, Pt.cells, Pt.slots] at X_1 l_1 y_1 z_1 st_1 hQ_1
 have X_1 := own_cast X_1 l_1 y_1 z_1
 obtain ⟨rfl, N_7, e_8⟩ := hQ_1
 have N_9 := Fr.app N0 N_7
 have e_10 : T_1.heap = h0 := e_8
 have C_11 : Steps p.tables e below S0 (T_1.setTop (mkF m 4 #[VR sb] [(.int cnt)])) := by
  refine C0.trans ?_
  refine XS.aloadN X0.here hx rfl (hb hby d32_0) rfl rfl ?_
  refine st_1.trans ?_
  exact Steps.refl _
 obtain ⟨fs, hr, hrun, hended, hW, hsame⟩ := X_1.leave (v := some (.int cnt)) (fun h => by rw [Bd.returns] at h; cases h)
 refine ⟨_, _, C_11.trans (retOut X_1 hx Bd.returns rfl (Or.inl ⟨rfl, Or.inl rfl, _, rfl⟩) (hb hby d32_4) hr), hrun, hended, _, _, rfl, ?_, ⟨_, rfl⟩, hW, hsame.mono (by decide) (by decide)⟩
 show Q_sblen Z G1 G3 g1 kg1 g2 kg2 uS sS sb cnt h0 n0 (some (.int cnt)) T_1.heap _
 rw [e_10]
 exact ⟨rfl, N_9, rfl⟩
abbrev M675 : MethodName := ⟨"java/util/Arrays", "checkLength", "(II)V"⟩
theorem d33_0 : decode jdk_65_method_131_code 0 = .ok (.iload_n 1, 1) := by decide +kernel
theorem d33_1 : decode jdk_65_method_131_code 1 = .ok (.iload_n 0, 1) := by decide +kernel
theorem d33_2 : decode jdk_65_method_131_code 2 = .ok (.if_icmp .ge 35, 3) := by decide +kernel
theorem d33_37 : decode jdk_65_method_131_code 37 = .ok (.return_, 1) := by decide +kernel
abbrev R_ckl : Room := { frames := 0, cells := 0, slots := 0, locals := 0 }
def Q_ckl (Z : State) (G1 : Int32) (G3 : Value) (g1 : Addr) (kg1 : ClassId) (g2 : Addr) (kg2 : ClassId) (uS : Value) (sS : Value) (a : Int32) (b : Int32) (h0 : Heap) (n0 : Nat) (v : Option Value) (h : Heap) (L : List Loc) : Prop := (v = none ∧ Fr n0 L ∧ h = h0)
theorem rm_ckl (l : Launch) (Z : State) (a0 : Array Value) (hw : HW Z a0) (ws : List Jvm.Cond) (G1 : Int32) (G3 : Value) (g1 : Addr) (kg1 : ClassId) (g2 : Addr) (kg2 : ClassId) (uS : Value) (sS : Value) (HG : own_G l Z a0 G1 G3 g1 kg1 g2 kg2 uS sS) (h0 : Heap) (n0 : Nat) (X00 : Old Z n0 h0) (a : Int32) (b : Int32) (h : ¬ (b < a)) :
  own_CP l Z M675 jdk_65_method_131_code 2 none ws R_ckl #[(.int a), (.int b)] h0 (Q_ckl Z G1 G3 g1 kg1 g2 kg2 uS sS a b h0 n0) := by
 refine own_P (plainFor_of_name pn_391) ?_
 intro p e s m below meth c s₁ S0 Bd hZ hh hx hby hml hown hnm X0 e0 hS0d
 obtain ⟨O1, P1, O3f, rG3, Sg1, Dg1, Sg2, Dg2, hLT, OU, rU, OS, rS⟩ := id HG
 have N0 := Fr.nil n0
 have C0 : Steps p.tables e below S0 (s₁.setTop (mkF m 0 #[VI a, VI b] [])) := by rw [hS0d]; exact castTop (ef_156 m a b) (Steps.refl _)
 have C_1 : Steps p.tables e below S0 (s₁.setTop (mkF m 37 #[VI a, VI b] [])) := by
  refine C0.trans ?_
  refine XS.iloadN X0.here hx rfl (hb hby d33_0) rfl ?_
  refine XS.iloadN X0.here hx rfl (hb hby d33_1) rfl ?_
  refine XS.icmpYes X0.here hx rfl (pc0 := 2) (pc' := 37) rfl (hb hby d33_2) rfl (ii_ge_t h) (by decide) (by decide) ?_
  exact Steps.refl _
 obtain ⟨fs, hr, hrun, hended, hW, hsame⟩ := X0.leave (v := none) (fun _ => rfl)
 refine ⟨_, _, C_1.trans (X0.returnOut hx Bd.returns (hb hby d33_37) hr), hrun, hended, _, _, rfl, ?_, ⟨_, rfl⟩, hW, hsame.mono (by decide) (by decide)⟩
 show Q_ckl Z G1 G3 g1 kg1 g2 kg2 uS sS a b h0 n0 (none) s₁.heap _
 rw [e0]
 exact ⟨rfl, N0, rfl⟩
abbrev M680 : MethodName := ⟨"java/util/Arrays", "copyOfRangeByte", "([BII)[B"⟩
theorem ef_681 (m : MethodId) (x0 : Addr) (x1 : Int32) (x2 : Int32) : entryFrame m #[(.ref x0), (.int x1), (.int x2)] 5 = mkF m 0 #[VR x0, VI x1, VI x2, .unset, .unset] [] := by first | (simp [entryFrame, mkF, argsToLocals, Value.category]; done) | rfl
theorem d34_0 : decode jdk_65_method_133_code 0 = .ok (.iload_n 1, 1) := by decide +kernel
theorem d34_1 : decode jdk_65_method_133_code 1 = .ok (.iload_n 2, 1) := by decide +kernel
theorem w175 {Z a0} (hw : HW Z a0) : Cond.before (Cond.code (⟨"java/util/Arrays", "checkLength", "(II)V"⟩ : MethodName) jdk_65_method_131_code (2 : Nat) (Option.none : Option FieldType)) a0 Z = true := hw _ (List.mem_of_getElem? (i := 175) rfl)
theorem d34_2 : decode jdk_65_method_133_code 2 = .ok (.invokestatic 343, 3) := by decide +kernel
theorem w173 {Z a0} (hw : HW Z a0) : Cond.before (Cond.methodLink "java/util/Arrays" (343 : Nat) (⟨"java/util/Arrays", "checkLength", "(II)V"⟩ : MethodName)) a0 Z = true := hw _ (List.mem_of_getElem? (i := 173) rfl)
theorem w174 {Z a0} (hw : HW Z a0) : Cond.before (Cond.static (⟨"java/util/Arrays", "checkLength", "(II)V"⟩ : MethodName)) a0 Z = true := hw _ (List.mem_of_getElem? (i := 174) rfl)
theorem d34_5 : decode jdk_65_method_133_code 5 = .ok (.iload_n 2, 1) := by decide +kernel
theorem d34_6 : decode jdk_65_method_133_code 6 = .ok (.iload_n 1, 1) := by decide +kernel
theorem d34_7 : decode jdk_65_method_133_code 7 = .ok (.isub, 1) := by decide +kernel
theorem d34_8 : decode jdk_65_method_133_code 8 = .ok (.istore_n 3, 1) := by decide +kernel
theorem d34_9 : decode jdk_65_method_133_code 9 = .ok (.iload_n 3, 1) := by decide +kernel
theorem d34_10 : decode jdk_65_method_133_code 10 = .ok (.newarray .byte, 2) := by decide +kernel
theorem d34_12 : decode jdk_65_method_133_code 12 = .ok (.astore 4, 2) := by decide +kernel
theorem d34_14 : decode jdk_65_method_133_code 14 = .ok (.aload_n 0, 1) := by decide +kernel
theorem d34_15 : decode jdk_65_method_133_code 15 = .ok (.iload_n 1, 1) := by decide +kernel
theorem d34_16 : decode jdk_65_method_133_code 16 = .ok (.aload 4, 2) := by decide +kernel
theorem d34_18 : decode jdk_65_method_133_code 18 = .ok (.iconst 0, 1) := by decide +kernel
theorem d34_19 : decode jdk_65_method_133_code 19 = .ok (.aload_n 0, 1) := by decide +kernel
theorem d34_20 : decode jdk_65_method_133_code 20 = .ok (.arraylength, 1) := by decide +kernel
theorem d34_21 : decode jdk_65_method_133_code 21 = .ok (.iload_n 1, 1) := by decide +kernel
theorem d34_22 : decode jdk_65_method_133_code 22 = .ok (.isub, 1) := by decide +kernel
theorem d34_23 : decode jdk_65_method_133_code 23 = .ok (.iload_n 3, 1) := by decide +kernel
theorem d34_24 : decode jdk_65_method_133_code 24 = .ok (.invokestatic 304, 3) := by decide +kernel
theorem d34_27 : decode jdk_65_method_133_code 27 = .ok (.invokestatic 150, 3) := by decide +kernel
theorem d34_30 : decode jdk_65_method_133_code 30 = .ok (.aload 4, 2) := by decide +kernel
theorem d34_32 : decode jdk_65_method_133_code 32 = .ok (.areturn, 1) := by decide +kernel
abbrev R_crb : Room := { frames := 1, cells := 1, slots := 34, locals := 18 }
def Q_crb (Z : State) (G1 : Int32) (G3 : Value) (g1 : Addr) (kg1 : ClassId) (g2 : Addr) (kg2 : ClassId) (uS : Value) (sS : Value) (vv : Addr) (kv : ClassId) (cap : Int32) (ff : List Int32) (cnt : Int32) (h0 : Heap) (n0 : Nat) (v : Option Value) (h : Heap) (L : List Loc) : Prop := (∃ w : Addr, ∃ kw : ClassId, v = some (.ref w) ∧ Fr n0 L ∧ Keep h0 h [] ∧ (h0.size ≤ w) ∧ (Arv Z h w kw .byte cnt (own_iv ff) (.int 0)))
theorem rm_crb (l : Launch) (Z : State) (a0 : Array Value) (hw : HW Z a0) (ws : List Jvm.Cond) (G1 : Int32) (G3 : Value) (g1 : Addr) (kg1 : ClassId) (g2 : Addr) (kg2 : ClassId) (uS : Value) (sS : Value) (HG : own_G l Z a0 G1 G3 g1 kg1 g2 kg2 uS sS) (h0 : Heap) (n0 : Nat) (X00 : Old Z n0 h0) (vv : Addr) (kv : ClassId) (cap : Int32) (ff : List Int32) (cnt : Int32) (hp0 : Arv Z h0 vv kv .byte cap (own_iv (own_sb ff cap.toNatClampNeg)) (.int 0)) (hc0 : ¬ (cnt < (0 : Int32))) (hz : ¬ (cap < (0 : Int32))) (hcn : cnt.toNatClampNeg = ff.length) (h34 : cap.toNatClampNeg ≤ 34) (hle : ff.length ≤ cap.toNatClampNeg) (hlt : cnt < cap) :
  own_CP l Z M680 jdk_65_method_133_code 5 (some (.array .byte)) ws R_crb #[(.ref vv), (.int 0), (.int cnt)] h0 (Q_crb Z G1 G3 g1 kg1 g2 kg2 uS sS vv kv cap ff cnt h0 n0) := by
 refine own_P (plainFor_of_name pn_391) ?_
 intro p e s m below meth c s₁ S0 Bd hZ hh hx hby hml hown hnm X0 e0 hS0d
 obtain ⟨O1, P1, O3f, rG3, Sg1, Dg1, Sg2, Dg2, hLT, OU, rU, OS, rS⟩ := id HG
 have N0 := Fr.nil n0
 have C0 : Steps p.tables e below S0 (s₁.setTop (mkF m 0 #[VR vv, VI 0, VI cnt, .unset, .unset] [])) := by rw [hS0d]; exact castTop (ef_681 m vv (0 : Int32) cnt) (Steps.refl _)
 obtain ⟨_, _, ⟨T_1, L_1, k_1, n_1⟩, -, X_1, ⟨Lc_1, hQ_1, l_1, y_1, z_1⟩, st_1⟩ := Jvm.LawKit.callS X0 hx (y := M675) hown (mvT hZ (w173 hw)) (mvT hZ (w174 hw)) (mvT hZ (w168 hw)) (mvT hZ (w175 hw)) (by decide) (backOf (W := 0) (rm_ckl l Z a0 hw [] G1 G3 g1 kg1 g2 kg2 uS sS HG h0 n0 X00 (0 : Int32) cnt hc0) hZ (w175 hw) (w168 hw) (by decide) (by decide)) (g := (mkF m 2 #[VR vv, VI 0, VI cnt, .unset, .unset] [(.int cnt), (.int 0)])) rfl (by rw [hml]; rfl) (argsL := [(.int 0), (.int cnt)]) (rest := []) (lenOf pd_175 rfl) rfl (by show 2 * 0 + _ ≤ _; exact Nat.le_of_eq rfl) (hb hby d34_2) (fun _ _ => ⟨rfl, e0, (by decide : 0 + 0 ≤ _), (by decide : 0 + 0 ≤ _)⟩)
 dsimp only [Pt.U, Pt.locs, Pt.cells, Pt.slots] at X_1 l_1 y_1 z_1 st_1 hQ_1
 have X_1 := own_cast X_1 l_1 y_1 z_1
 obtain ⟨rfl, N_2, e_3⟩ := hQ_1
 have N_4 := Fr.app N0 N_2
 have e_5 : T_1.heap = h0 := e_3
 have C_6 : Steps p.tables e below S0 (T_1.setTop (mkF m 8 #[VR vv, VI 0, VI cnt, .unset, .unset] [(.int (cnt - (0 : Int32)))])) := by
  refine C0.trans ?_
  refine XS.iloadN X0.here hx rfl (hb hby d34_0) rfl ?_
  refine XS.iloadN X0.here hx rfl (hb hby d34_1) rfl ?_
  refine st_1 _ ?_
  refine XS.iloadN X_1.here hx rfl (hb hby d34_5) rfl ?_
  refine XS.iloadN X_1.here hx rfl (hb hby d34_6) rfl ?_
  refine XS.isub X_1.here hx rfl (hb hby d34_7) rfl ?_
  exact Steps.refl _
 have C_7 : Steps p.tables e below S0 (T_1.setTop (mkF m 8 #[VR vv, VI 0, VI cnt, .unset, .unset] [(.int cnt)])) := by have q := C_6; rw [own_sub0] at q; exact q
 obtain ⟨T_8, h_9, k_10, X_11, e_12, E_13, A_14, st_15⟩ := newP (aty := .byte) X_1 hx hZ (w19 hw) e_5 (g := (mkF m 10 #[VR vv, VI 0, VI cnt, VI cnt, .unset] [(.int cnt)])) rfl (hb hby d34_10) rfl hc0 (cap := 34) (by rw [hcn]; omega) (by decide) (by decide) (by decide)
 obtain ⟨a_16, g_17⟩ : ∃ z, z = h0.size := ⟨_, rfl⟩
 rw [← g_17] at A_14 st_15
 have V_18 : Arv Z h_9 a_16 k_10 .byte cnt (own_iv (List.replicate cnt.toNatClampNeg 0)) (.int 0) := (Arv.new A_14 hc0).pad (own_pad _)
 have V_19 : Arv Z h_9 vv kv .byte cap (own_iv (own_sb ff cap.toNatClampNeg)) (.int 0) := (hp0.ext E_13)
 obtain ⟨c_20, A_21, q_22, S_23, M_24, H_25, U_26⟩ := id V_19
 have C_27 : Steps p.tables e below S0 (T_8.setTop (mkF m 23 #[VR vv, VI 0, VI cnt, VI cnt, VR a_16] [(.int (cap - (0 : Int32))), (.int 0), (.ref a_16), (.int 0), (.ref vv)])) := by
  refine C_7.trans ?_
  refine XS.istoreN X_1.here hx rfl (hb hby d34_8) rfl (l' := #[VR vv, VI 0, VI cnt, VI cnt, .unset]) rfl ?_
  refine XS.iloadN X_1.here hx rfl (hb hby d34_9) rfl ?_
  refine st_15 _ ?_
  refine XS.astore X_11.here hx rfl (hb hby d34_12) rfl rfl (l' := #[VR vv, VI 0, VI cnt, VI cnt, VR a_16]) rfl ?_
  refine XS.aloadN X_11.here hx rfl (hb hby d34_14) rfl rfl ?_
  refine XS.iloadN X_11.here hx rfl (hb hby d34_15) rfl ?_
  refine XS.aload X_11.here hx rfl (hb hby d34_16) rfl rfl ?_
  refine XS.iconst X_11.here hx rfl (hb hby d34_18) ?_
  show Steps p.tables e below (T_8.setTop (mkF m 19 #[VR vv, VI 0, VI cnt, VI cnt, VR a_16] [(.int 0), (.ref a_16), (.int 0), (.ref vv)])) _
  refine XS.aloadN X_11.here hx rfl (hb hby d34_19) rfl rfl ?_
  refine X_11.arraylength hx (by rw [e_12]; exact A_21.1) (State.isArrayOf_alike hZ.alike A_21.2.1) (g := (mkF m 20 #[VR vv, VI 0, VI cnt, VI cnt, VR a_16] [(.ref vv), (.int 0), (.ref a_16), (.int 0), (.ref vv)])) rfl rfl (hb hby d34_20) _ ?_
  rw [len_of S_23 M_24]
  refine XS.iloadN X_11.here hx rfl (hb hby d34_21) rfl ?_
  refine XS.isub X_11.here hx rfl (hb hby d34_22) rfl ?_
  exact Steps.refl _
 have C_28 : Steps p.tables e below S0 (T_8.setTop (mkF m 23 #[VR vv, VI 0, VI cnt, VI cnt, VR a_16] [(.int cap), (.int 0), (.ref a_16), (.int 0), (.ref vv)])) := by have q := C_27; rw [own_sub0] at q; exact q
 have O_29 : Old Z n0 h_9 := (X00.ext E_13)
 obtain ⟨_, _, ⟨T_30, L_30, k_30, n_30⟩, -, X_30, ⟨Lc_30, hQ_30, l_30, y_30, z_30⟩, st_30⟩ := Jvm.LawKit.callS X_11 hx (y := M312) hown (mvT hZ (w176 hw)) (mvT hZ (w177 hw)) (mvT hZ (w178 hw)) (mvT hZ (w179 hw)) (by decide) (backOf (W := 4) (rm_minR l Z a0 hw [] G1 G3 g1 kg1 g2 kg2 uS sS HG h_9 n0 O_29 cap cnt hlt) hZ (w179 hw) (w178 hw) (by decide) (by decide)) (g := (mkF m 24 #[VR vv, VI 0, VI cnt, VI cnt, VR a_16] [(.int cnt), (.int cap), (.int 0), (.ref a_16), (.int 0), (.ref vv)])) rfl (by rw [hml]; rfl) (argsL := [(.int cap), (.int cnt)]) (rest := [(.int 0), (.ref a_16), (.int 0), (.ref vv)]) (lenOf pd_336 rfl) rfl (by show 2 * 0 + _ ≤ _; exact Nat.le_of_eq rfl) (hb hby d34_24) (fun _ _ => ⟨rfl, e_12, (by decide : 1 + 0 ≤ _), (by decide : 34 + 0 ≤ _)⟩)
 dsimp only [Pt.U, Pt.locs, Pt.cells, Pt.slots] at X_30 l_30 y_30 z_30 st_30 hQ_30
 have X_30 := own_cast X_30 l_30 y_30 z_30
 obtain ⟨rfl, N_31, e_32⟩ := hQ_30
 have N_33 := Fr.app N_4 N_31
 have e_34 : T_30.heap = h_9 := e_32
 obtain ⟨T_35, h_36, L_37, X_38, e_39, N_40, K_41, V_42, st_43⟩ := cpA X_30 hx hZ hown (w180 hw) (w114 hw) (w112 hw) (w113 hw) e_34 V_19 V_18 (sp := (0 : Int32)) (dp := (0 : Int32)) (nn := cnt) (us := own_iv (own_seg (own_sb ff cap.toNatClampNeg) (0 : Int32) cnt)) (Or.inl ⟨rfl, rfl⟩) (by decide) (by decide) hc0 (by rw [show (0 : Int32).toNatClampNeg = 0 from rfl, hcn]; omega) (by rw [show (0 : Int32).toNatClampNeg = 0 from rfl]; omega) (own_ivseg _ _ _) (own_ivl (by rw [List.length_replicate, show (0 : Int32).toNatClampNeg = 0 from rfl]; omega)) N_33 (Nat.le_trans (own_n0 X00) (Nat.le_of_eq g_17.symm)) (g := (mkF m 27 #[VR vv, VI 0, VI cnt, VI cnt, VR a_16] [(.int cnt), (.int 0), (.ref a_16), (.int 0), (.ref vv)])) rfl (by rw [hml]; rfl) rfl (hb hby d34_27) (by decide) (W := 0) (by show 2 * 0 + _ ≤ _; exact Nat.le_of_eq rfl) (by decide)
 have V_44 : Arv Z h_36 a_16 k_10 .byte cnt (own_iv ff) (.int 0) := (by have q := own_ivcp V_42; rw [own_cpe hcn] at q; exact q)
 have C_45 : Steps p.tables e below S0 (T_35.setTop (mkF m 32 #[VR vv, VI 0, VI cnt, VI cnt, VR a_16] [(.ref a_16)])) := by
  refine C_28.trans ?_
  refine XS.iloadN X_11.here hx rfl (hb hby d34_23) rfl ?_
  refine st_30 _ ?_
  refine st_43 _ ?_
  refine XS.aload X_38.here hx rfl (hb hby d34_30) rfl rfl ?_
  exact Steps.refl _
 have K_46 : Keep h0 h_36 [] := (((Keep.refl _ _).ext E_13).trans K_41 (allS (Or.inr (Nat.le_trans (Nat.le_refl _) (Nat.le_of_eq g_17.symm))) all0))
 obtain ⟨fs, hr, hrun, hended, hW, hsame⟩ := X_38.leave (v := some (.ref a_16)) (fun h => by rw [Bd.returns] at h; cases h)
 refine ⟨_, _, C_45.trans (retOut X_38 hx Bd.returns rfl (Or.inr (Or.inr (Or.inr (Or.inr ⟨rfl, rfl, rfl⟩)))) (hb hby d34_32) hr), hrun, hended, _, _, rfl, ?_, ⟨_, rfl⟩, hW, hsame.mono (by decide) (by decide)⟩
 show Q_crb Z G1 G3 g1 kg1 g2 kg2 uS sS vv kv cap ff cnt h0 n0 (some (.ref a_16)) T_35.heap _
 rw [e_39]
 exact ⟨a_16, k_10, rfl, N_40, K_46, (Nat.le_trans (Nat.le_refl _) (Nat.le_of_eq g_17.symm)), V_44⟩
abbrev M708 : MethodName := ⟨"java/util/Arrays", "copyOfRange", "([BII)[B"⟩
theorem ef_709 (m : MethodId) (x0 : Addr) (x1 : Int32) (x2 : Int32) : entryFrame m #[(.ref x0), (.int x1), (.int x2)] 3 = mkF m 0 #[VR x0, VI x1, VI x2] [] := by first | (simp [entryFrame, mkF, argsToLocals, Value.category]; done) | rfl
theorem d35_0 : decode jdk_65_method_132_code 0 = .ok (.iload_n 1, 1) := by decide +kernel
theorem d35_1 : decode jdk_65_method_132_code 1 = .ok (.ifCond .ne 9, 3) := by decide +kernel
theorem d35_4 : decode jdk_65_method_132_code 4 = .ok (.iload_n 2, 1) := by decide +kernel
theorem d35_5 : decode jdk_65_method_132_code 5 = .ok (.aload_n 0, 1) := by decide +kernel
theorem d35_6 : decode jdk_65_method_132_code 6 = .ok (.arraylength, 1) := by decide +kernel
theorem d35_7 : decode jdk_65_method_132_code 7 = .ok (.if_icmp .eq 10, 3) := by decide +kernel
theorem d35_17 : decode jdk_65_method_132_code 17 = .ok (.aload_n 0, 1) := by decide +kernel
theorem w275 {Z a0} (hw : HW Z a0) : Cond.before (Cond.methodLink "java/util/Arrays" (310 : Nat) (⟨"[B", "clone", "()Ljava/lang/Object;"⟩ : MethodName)) a0 Z = true := hw _ (List.mem_of_getElem? (i := 275) rfl)
theorem w276 {Z a0} (hw : HW Z a0) : Cond.before (Cond.sameMethod "[B" "java/lang/Object" "clone" "()Ljava/lang/Object;") a0 Z = true := hw _ (List.mem_of_getElem? (i := 276) rfl)
theorem w280 {Z a0} (hw : HW Z a0) : Cond.before (Cond.native (⟨"java/lang/Object", "clone", "()Ljava/lang/Object;"⟩ : MethodName)) a0 Z = true := hw _ (List.mem_of_getElem? (i := 280) rfl)
theorem w278 {Z a0} (hw : HW Z a0) : Cond.before (Cond.instanceMethod (⟨"java/lang/Object", "clone", "()Ljava/lang/Object;"⟩ : MethodName)) a0 Z = true := hw _ (List.mem_of_getElem? (i := 278) rfl)
theorem w279 {Z a0} (hw : HW Z a0) : Cond.before (Cond.selects "[B" (⟨"[B", "clone", "()Ljava/lang/Object;"⟩ : MethodName) (⟨"java/lang/Object", "clone", "()Ljava/lang/Object;"⟩ : MethodName)) a0 Z = true := hw _ (List.mem_of_getElem? (i := 279) rfl)
theorem w281 {Z a0} (hw : HW Z a0) : Cond.before (Cond.castable "[B" "java/lang/Cloneable") a0 Z = true := hw _ (List.mem_of_getElem? (i := 281) rfl)
theorem d35_18 : decode jdk_65_method_132_code 18 = .ok (.invokevirtual 310, 3) := by decide +kernel
theorem w282 {Z a0} (hw : HW Z a0) : Cond.before (Cond.classLink "java/util/Arrays" (311 : Nat) "[B") a0 Z = true := hw _ (List.mem_of_getElem? (i := 282) rfl)
theorem d35_21 : decode jdk_65_method_132_code 21 = .ok (.checkcast 311, 3) := by decide +kernel
theorem d35_24 : decode jdk_65_method_132_code 24 = .ok (.areturn, 1) := by decide +kernel
theorem d35_10 : decode jdk_65_method_132_code 10 = .ok (.aload_n 0, 1) := by decide +kernel
theorem d35_11 : decode jdk_65_method_132_code 11 = .ok (.iload_n 1, 1) := by decide +kernel
theorem d35_12 : decode jdk_65_method_132_code 12 = .ok (.iload_n 2, 1) := by decide +kernel
theorem w172 {Z a0} (hw : HW Z a0) : Cond.before (Cond.code (⟨"java/util/Arrays", "copyOfRangeByte", "([BII)[B"⟩ : MethodName) jdk_65_method_133_code (5 : Nat) (Option.some (FieldType.array FieldType.byte))) a0 Z = true := hw _ (List.mem_of_getElem? (i := 172) rfl)
theorem pd_731 : parseMethodDescriptor "([BII)[B" = some ⟨[(.array .byte), .int, .int], some (.array .byte)⟩ := by decide +kernel
theorem d35_13 : decode jdk_65_method_132_code 13 = .ok (.invokestatic 339, 3) := by decide +kernel
theorem w170 {Z a0} (hw : HW Z a0) : Cond.before (Cond.methodLink "java/util/Arrays" (339 : Nat) (⟨"java/util/Arrays", "copyOfRangeByte", "([BII)[B"⟩ : MethodName)) a0 Z = true := hw _ (List.mem_of_getElem? (i := 170) rfl)
theorem w171 {Z a0} (hw : HW Z a0) : Cond.before (Cond.static (⟨"java/util/Arrays", "copyOfRangeByte", "([BII)[B"⟩ : MethodName)) a0 Z = true := hw _ (List.mem_of_getElem? (i := 171) rfl)
theorem d35_16 : decode jdk_65_method_132_code 16 = .ok (.areturn, 1) := by decide +kernel
abbrev R_cr : Room := { frames := 2, cells := 1, slots := 34, locals := 34 }
def Q_cr (Z : State) (G1 : Int32) (G3 : Value) (g1 : Addr) (kg1 : ClassId) (g2 : Addr) (kg2 : ClassId) (uS : Value) (sS : Value) (vv : Addr) (kv : ClassId) (cap : Int32) (ff : List Int32) (cnt : Int32) (h0 : Heap) (n0 : Nat) (v : Option Value) (h : Heap) (L : List Loc) : Prop := (∃ w : Addr, ∃ kw : ClassId, v = some (.ref w) ∧ Fr n0 L ∧ Keep h0 h [] ∧ (h0.size ≤ w) ∧ (Arv Z h w kw .byte cnt (own_iv ff) (.int 0)))
theorem rm_cr (l : Launch) (Z : State) (a0 : Array Value) (hw : HW Z a0) (ws : List Jvm.Cond) (G1 : Int32) (G3 : Value) (g1 : Addr) (kg1 : ClassId) (g2 : Addr) (kg2 : ClassId) (uS : Value) (sS : Value) (HG : own_G l Z a0 G1 G3 g1 kg1 g2 kg2 uS sS) (h0 : Heap) (n0 : Nat) (X00 : Old Z n0 h0) (vv : Addr) (kv : ClassId) (cap : Int32) (ff : List Int32) (cnt : Int32) (hp0 : Arv Z h0 vv kv .byte cap (own_iv (own_sb ff cap.toNatClampNeg)) (.int 0)) (hp1 : Exa Z h0 vv "[B") (hc0 : ¬ (cnt < (0 : Int32))) (hz : ¬ (cap < (0 : Int32))) (hcn : cnt.toNatClampNeg = ff.length) (h34 : cap.toNatClampNeg ≤ 34) (hle : ff.length ≤ cap.toNatClampNeg) :
  own_CP l Z M708 jdk_65_method_132_code 3 (some (.array .byte)) ws R_cr #[(.ref vv), (.int 0), (.int cnt)] h0 (Q_cr Z G1 G3 g1 kg1 g2 kg2 uS sS vv kv cap ff cnt h0 n0) := by
 refine own_P (plainFor_of_name pn_391) ?_
 intro p e s m below meth c s₁ S0 Bd hZ hh hx hby hml hown hnm X0 e0 hS0d
 obtain ⟨O1, P1, O3f, rG3, Sg1, Dg1, Sg2, Dg2, hLT, OU, rU, OS, rS⟩ := id HG
 have N0 := Fr.nil n0
 have C0 : Steps p.tables e below S0 (s₁.setTop (mkF m 0 #[VR vv, VI 0, VI cnt] [])) := by rw [hS0d]; exact castTop (ef_709 m vv (0 : Int32) cnt) (Steps.refl _)
 obtain ⟨c_1, A_2, q_3, S_4, M_5, H_6, U_7⟩ := id hp0
 have C_8 : Steps p.tables e below S0 (s₁.setTop (mkF m 7 #[VR vv, VI 0, VI cnt] [(.int cap), (.int cnt)])) := by
  refine C0.trans ?_
  refine XS.iloadN X0.here hx rfl (hb hby d35_0) rfl ?_
  refine XS.ifNo X0.here hx rfl (hb hby d35_1) rfl (by decide) ?_
  refine XS.iloadN X0.here hx rfl (hb hby d35_4) rfl ?_
  refine XS.aloadN X0.here hx rfl (hb hby d35_5) rfl rfl ?_
  refine X0.arraylength hx (by rw [e0]; exact A_2.1) (State.isArrayOf_alike hZ.alike A_2.2.1) (g := (mkF m 6 #[VR vv, VI 0, VI cnt] [(.ref vv), (.int cnt)])) rfl rfl (hb hby d35_6) _ ?_
  rw [len_of S_4 M_5]
  exact Steps.refl _
 by_cases hc_9 : cnt = cap
 ·skip
  obtain ⟨T_10, h_11, X_12, e_13, E_14, V_15, E_16, st_17⟩ := cloneH X0 hx hZ hown (w275 hw) (w276 hw) (w280 hw) (w278 hw) (w279 hw) (w281 hw) e0 (Arv.arh hp0) hp1 (g := (mkF m 18 #[VR vv, VI 0, VI cnt] [(.ref vv)])) rfl (by rw [hml]; rfl) rfl (hb hby d35_18) (by decide) (W := 0) (cap := 34) (by show 2 * 0 + _ ≤ _; exact Nat.le_of_eq rfl) (by decide) h34 (by decide) (by decide)
  obtain ⟨a_18, g_19⟩ : ∃ z, z = h0.size := ⟨_, rfl⟩
  rw [← g_19] at V_15 E_16 st_17
  have V_20 : Arv Z h_11 a_18 kv .byte cap (own_iv (own_sb ff cap.toNatClampNeg)) (.int 0) := V_15
  obtain ⟨T_21, X_22, e_23, st_24⟩ := castY X_12 hx hZ hown (w282 hw) e_13 (Ins.self E_16) (g := (mkF m 21 #[VR vv, VI 0, VI cnt] [(.ref a_18)])) rfl rfl (hb hby d35_21)
  have C_25 : Steps p.tables e below S0 (T_21.setTop (mkF m 24 #[VR vv, VI 0, VI cnt] [(.ref a_18)])) := by
   refine C_8.trans ?_
   refine XS.icmpYes X0.here hx rfl (pc0 := 7) (pc' := 17) rfl (hb hby d35_7) rfl (ii_eq_t hc_9) (by decide) (by decide) ?_
   refine XS.aloadN X0.here hx rfl (hb hby d35_17) rfl rfl ?_
   refine st_17 _ ?_
   refine st_24 _ ?_
   exact Steps.refl _
  have K_26 : Keep h0 h_11 [] := ((Keep.refl _ _).ext E_14)
  obtain ⟨fs, hr, hrun, hended, hW, hsame⟩ := X_22.leave (v := some (.ref a_18)) (fun h => by rw [Bd.returns] at h; cases h)
  refine ⟨_, _, C_25.trans (retOut X_22 hx Bd.returns rfl (Or.inr (Or.inr (Or.inr (Or.inr ⟨rfl, rfl, rfl⟩)))) (hb hby d35_24) hr), hrun, hended, _, _, rfl, ?_, ⟨_, rfl⟩, hW, hsame.mono (by decide) (by decide)⟩
  show Q_cr Z G1 G3 g1 kg1 g2 kg2 uS sS vv kv cap ff cnt h0 n0 (some (.ref a_18)) T_21.heap _
  rw [e_23]
  exact ⟨a_18, kv, rfl, N0, K_26, (Nat.le_trans (Nat.le_refl _) (Nat.le_of_eq g_19.symm)), (own_fin V_20 hc_9.symm (own_sbfull (by rw [← hc_9, hcn])))⟩
 ·skip
  obtain ⟨_, _, ⟨T_27, L_27, k_27, n_27⟩, -, X_27, ⟨Lc_27, hQ_27, l_27, y_27, z_27⟩, st_27⟩ := Jvm.LawKit.callS X0 hx (y := M680) hown (mvT hZ (w170 hw)) (mvT hZ (w171 hw)) (mvT hZ (w168 hw)) (mvT hZ (w172 hw)) (by decide) (backOf (W := 0) (rm_crb l Z a0 hw [] G1 G3 g1 kg1 g2 kg2 uS sS HG h0 n0 X00 vv kv cap ff cnt hp0 hc0 hz hcn h34 hle (own_ltne hc0 hz (by rw [hcn]; exact hle) hc_9)) hZ (w172 hw) (w168 hw) (by decide) (by decide)) (g := (mkF m 13 #[VR vv, VI 0, VI cnt] [(.int cnt), (.int 0), (.ref vv)])) rfl (by rw [hml]; rfl) (argsL := [(.ref vv), (.int 0), (.int cnt)]) (rest := []) (lenOf pd_731 rfl) rfl (by show 2 * 0 + _ ≤ _; exact Nat.le_of_eq rfl) (hb hby d35_13) (fun _ _ => ⟨rfl, e0, (by decide : 0 + 1 ≤ _), (by decide : 0 + 34 ≤ _)⟩)
  dsimp only [Pt.U, Pt.locs, Pt.cells, Pt.slots] at X_27 l_27 y_27 z_27 st_27 hQ_27
  have X_27 := own_cast X_27 l_27 y_27 z_27
  obtain ⟨a_28, k_29, rfl, N_30, K_31, g_32, g_33⟩ := hQ_27
  have N_34 := Fr.app N0 N_30
  have C_35 : Steps p.tables e below S0 (T_27.setTop (mkF m 16 #[VR vv, VI 0, VI cnt] [(.ref a_28)])) := by
   refine C_8.trans ?_
   refine XS.icmpNo X0.here hx rfl (hb hby d35_7) rfl (ii_eq_f hc_9) ?_
   refine XS.aloadN X0.here hx rfl (hb hby d35_10) rfl rfl ?_
   refine XS.iloadN X0.here hx rfl (hb hby d35_11) rfl ?_
   refine XS.iloadN X0.here hx rfl (hb hby d35_12) rfl ?_
   refine st_27 _ ?_
   exact Steps.refl _
  have K_36 : Keep h0 T_27.heap [] := ((Keep.refl _ _).trans K_31 all0)
  obtain ⟨fs, hr, hrun, hended, hW, hsame⟩ := X_27.leave (v := some (.ref a_28)) (fun h => by rw [Bd.returns] at h; cases h)
  refine ⟨_, _, C_35.trans (retOut X_27 hx Bd.returns rfl (Or.inr (Or.inr (Or.inr (Or.inr ⟨rfl, rfl, rfl⟩)))) (hb hby d35_16) hr), hrun, hended, _, _, rfl, ?_, ⟨_, rfl⟩, hW, hsame.mono (by decide) (by decide)⟩
  show Q_cr Z G1 G3 g1 kg1 g2 kg2 uS sS vv kv cap ff cnt h0 n0 (some (.ref a_28)) T_27.heap _
  exact ⟨a_28, k_29, rfl, N_34, K_36, (Nat.le_trans (Nat.le_refl _) g_32), g_33⟩
abbrev M736 : MethodName := ⟨"java/lang/String", "<init>", "(Ljava/lang/AbstractStringBuilder;Ljava/lang/Void;)V"⟩
theorem ef_737 (m : MethodId) (x0 : Addr) (x1 : Addr) : entryFrame m #[(.ref x0), (.ref x1), .null] 5 = mkF m 0 #[VR x0, VR x1, .val .null, .unset, .unset] [] := by first | (simp [entryFrame, mkF, argsToLocals, Value.category]; done) | rfl
theorem d36_0 : decode jdk_42_method_150_code 0 = .ok (.aload_n 0, 1) := by decide +kernel
theorem d36_1 : decode jdk_42_method_150_code 1 = .ok (.invokespecial 1, 3) := by decide +kernel
theorem d36_4 : decode jdk_42_method_150_code 4 = .ok (.aload_n 1, 1) := by decide +kernel
theorem w156 {Z a0} (hw : HW Z a0) : Cond.before (Cond.code (⟨"java/lang/AbstractStringBuilder", "getValue", "()[B"⟩ : MethodName) jdk_68_method_64_code (1 : Nat) (Option.some (FieldType.array FieldType.byte))) a0 Z = true := hw _ (List.mem_of_getElem? (i := 156) rfl)
theorem pd_742 : parseMethodDescriptor "()[B" = some ⟨[], some (.array .byte)⟩ := by decide +kernel
theorem d36_5 : decode jdk_42_method_150_code 5 = .ok (.invokevirtual 552, 3) := by decide +kernel
theorem w152 {Z a0} (hw : HW Z a0) : Cond.before (Cond.methodLink "java/lang/String" (552 : Nat) (⟨"java/lang/AbstractStringBuilder", "getValue", "()[B"⟩ : MethodName)) a0 Z = true := hw _ (List.mem_of_getElem? (i := 152) rfl)
theorem w155 {Z a0} (hw : HW Z a0) : Cond.before (Cond.selects "java/lang/StringBuilder" (⟨"java/lang/AbstractStringBuilder", "getValue", "()[B"⟩ : MethodName) (⟨"java/lang/AbstractStringBuilder", "getValue", "()[B"⟩ : MethodName)) a0 Z = true := hw _ (List.mem_of_getElem? (i := 155) rfl)
theorem w154 {Z a0} (hw : HW Z a0) : Cond.before (Cond.instanceMethod (⟨"java/lang/AbstractStringBuilder", "getValue", "()[B"⟩ : MethodName)) a0 Z = true := hw _ (List.mem_of_getElem? (i := 154) rfl)
theorem w153 {Z a0} (hw : HW Z a0) : Cond.before (Cond.declares (⟨"java/lang/AbstractStringBuilder", "getValue", "()[B"⟩ : MethodName)) a0 Z = true := hw _ (List.mem_of_getElem? (i := 153) rfl)
theorem d36_8 : decode jdk_42_method_150_code 8 = .ok (.astore_n 3, 1) := by decide +kernel
theorem d36_9 : decode jdk_42_method_150_code 9 = .ok (.aload_n 1, 1) := by decide +kernel
theorem w162 {Z a0} (hw : HW Z a0) : Cond.before (Cond.code (⟨"java/lang/StringBuilder", "length", "()I"⟩ : MethodName) jdk_67_method_93_code (1 : Nat) (Option.some FieldType.int)) a0 Z = true := hw _ (List.mem_of_getElem? (i := 162) rfl)
theorem w52 {Z a0} (hw : HW Z a0) : Cond.before (Cond.initialized "java/lang/StringBuilder") a0 Z = true := hw _ (List.mem_of_getElem? (i := 52) rfl)
theorem d36_10 : decode jdk_42_method_150_code 10 = .ok (.invokevirtual 549, 3) := by decide +kernel
theorem w157 {Z a0} (hw : HW Z a0) : Cond.before (Cond.methodLink "java/lang/String" (549 : Nat) (⟨"java/lang/AbstractStringBuilder", "length", "()I"⟩ : MethodName)) a0 Z = true := hw _ (List.mem_of_getElem? (i := 157) rfl)
theorem w160 {Z a0} (hw : HW Z a0) : Cond.before (Cond.selects "java/lang/StringBuilder" (⟨"java/lang/AbstractStringBuilder", "length", "()I"⟩ : MethodName) (⟨"java/lang/StringBuilder", "length", "()I"⟩ : MethodName)) a0 Z = true := hw _ (List.mem_of_getElem? (i := 160) rfl)
theorem w161 {Z a0} (hw : HW Z a0) : Cond.before (Cond.instanceMethod (⟨"java/lang/StringBuilder", "length", "()I"⟩ : MethodName)) a0 Z = true := hw _ (List.mem_of_getElem? (i := 161) rfl)
theorem d36_13 : decode jdk_42_method_150_code 13 = .ok (.istore 4, 2) := by decide +kernel
theorem d36_15 : decode jdk_42_method_150_code 15 = .ok (.aload_n 1, 1) := by decide +kernel
theorem d36_16 : decode jdk_42_method_150_code 16 = .ok (.invokevirtual 1047, 3) := by decide +kernel
theorem w165 {Z a0} (hw : HW Z a0) : Cond.before (Cond.methodLink "java/lang/String" (1047 : Nat) (⟨"java/lang/AbstractStringBuilder", "isLatin1", "()Z"⟩ : MethodName)) a0 Z = true := hw _ (List.mem_of_getElem? (i := 165) rfl)
theorem d36_19 : decode jdk_42_method_150_code 19 = .ok (.ifCond .eq 22, 3) := by decide +kernel
theorem d36_22 : decode jdk_42_method_150_code 22 = .ok (.aload_n 0, 1) := by decide +kernel
theorem d36_23 : decode jdk_42_method_150_code 23 = .ok (.iconst 0, 1) := by decide +kernel
theorem d36_24 : decode jdk_42_method_150_code 24 = .ok (.putfield 15, 3) := by decide +kernel
theorem d36_27 : decode jdk_42_method_150_code 27 = .ok (.aload_n 0, 1) := by decide +kernel
theorem d36_28 : decode jdk_42_method_150_code 28 = .ok (.aload_n 3, 1) := by decide +kernel
theorem d36_29 : decode jdk_42_method_150_code 29 = .ok (.iconst 0, 1) := by decide +kernel
theorem d36_30 : decode jdk_42_method_150_code 30 = .ok (.iload 4, 2) := by decide +kernel
theorem w169 {Z a0} (hw : HW Z a0) : Cond.before (Cond.code (⟨"java/util/Arrays", "copyOfRange", "([BII)[B"⟩ : MethodName) jdk_65_method_132_code (3 : Nat) (Option.some (FieldType.array FieldType.byte))) a0 Z = true := hw _ (List.mem_of_getElem? (i := 169) rfl)
theorem d36_32 : decode jdk_42_method_150_code 32 = .ok (.invokestatic 54, 3) := by decide +kernel
theorem w166 {Z a0} (hw : HW Z a0) : Cond.before (Cond.methodLink "java/lang/String" (54 : Nat) (⟨"java/util/Arrays", "copyOfRange", "([BII)[B"⟩ : MethodName)) a0 Z = true := hw _ (List.mem_of_getElem? (i := 166) rfl)
theorem w167 {Z a0} (hw : HW Z a0) : Cond.before (Cond.static (⟨"java/util/Arrays", "copyOfRange", "([BII)[B"⟩ : MethodName)) a0 Z = true := hw _ (List.mem_of_getElem? (i := 167) rfl)
theorem d36_35 : decode jdk_42_method_150_code 35 = .ok (.putfield 9, 3) := by decide +kernel
theorem d36_38 : decode jdk_42_method_150_code 38 = .ok (.goto 59, 3) := by decide +kernel
theorem d36_97 : decode jdk_42_method_150_code 97 = .ok (.return_, 1) := by decide +kernel
abbrev R_sia : Room := { frames := 3, cells := 1, slots := 34, locals := 49 }
def Q_sia (Z : State) (G1 : Int32) (G3 : Value) (g1 : Addr) (kg1 : ClassId) (g2 : Addr) (kg2 : ClassId) (uS : Value) (sS : Value) (y : Addr) (sb : Addr) (vv : Addr) (kv : ClassId) (cap : Int32) (ff : List Int32) (cnt : Int32) (h0 : Heap) (n0 : Nat) (v : Option Value) (h : Heap) (L : List Loc) : Prop := (∃ w : Addr, ∃ kw : ClassId, v = none ∧ Fr n0 L ∧ Keep h0 h [y] ∧ (Exa Z h y "java/lang/String") ∧ (Fld Z h y "java/lang/String" "coder" "B" (.int 0)) ∧ (Fld Z h y "java/lang/String" "value" "[B" (.ref w)) ∧ (h0.size ≤ w) ∧ (Arv Z h w kw .byte cnt (own_iv ff) (.int 0)))
theorem rm_sia (l : Launch) (Z : State) (a0 : Array Value) (hw : HW Z a0) (ws : List Jvm.Cond) (G1 : Int32) (G3 : Value) (g1 : Addr) (kg1 : ClassId) (g2 : Addr) (kg2 : ClassId) (uS : Value) (sS : Value) (HG : own_G l Z a0 G1 G3 g1 kg1 g2 kg2 uS sS) (h0 : Heap) (n0 : Nat) (X00 : Old Z n0 h0) (y : Addr) (sb : Addr) (vv : Addr) (kv : ClassId) (cap : Int32) (ff : List Int32) (cnt : Int32) (hp0 : Exa Z h0 y "java/lang/String") (hp1 : Fld Z h0 y "java/lang/String" "value" "[B" .null) (hp2 : Fld Z h0 y "java/lang/String" "coder" "B" (.int 0)) (hp3 : n0 ≤ y) (hp4 : Exa Z h0 sb "java/lang/StringBuilder") (hp5 : Fld Z h0 sb "java/lang/AbstractStringBuilder" "value" "[B" (.ref vv)) (hp6 : Fld Z h0 sb "java/lang/AbstractStringBuilder" "coder" "B" (.int 0)) (hp7 : Fld Z h0 sb "java/lang/AbstractStringBuilder" "count" "I" (.int cnt)) (hp8 : Arv Z h0 vv kv .byte cap (own_iv (own_sb ff cap.toNatClampNeg)) (.int 0)) (hp9 : Exa Z h0 vv "[B") (hc0 : ¬ (cnt < (0 : Int32))) (hz : ¬ (cap < (0 : Int32))) (hcn : cnt.toNatClampNeg = ff.length) (h34 : cap.toNatClampNeg ≤ 34) (hle : ff.length ≤ cap.toNatClampNeg) :
  own_CP l Z M736 jdk_42_method_150_code 5 none ws R_sia #[(.ref y), (.ref sb), .null] h0 (Q_sia Z G1 G3 g1 kg1 g2 kg2 uS sS y sb vv kv cap ff cnt h0 n0) := by
 refine own_P (plainFor_of_name pn_61) ?_
 intro p e s m below meth c s₁ S0 Bd hZ hh hx hby hml hown hnm X0 e0 hS0d
 obtain ⟨O1, P1, O3f, rG3, Sg1, Dg1, Sg2, Dg2, hLT, OU, rU, OS, rS⟩ := id HG
 have N0 := Fr.nil n0
 have C0 : Steps p.tables e below S0 (s₁.setTop (mkF m 0 #[VR y, VR sb, .val .null, .unset, .unset] [])) := by rw [hS0d]; exact castTop (ef_737 m y sb) (Steps.refl _)
 obtain ⟨T_1, X_2, e_3, st_4⟩ := initO X0 hx hZ hown (w11 hw) (w12 hw) (w13 hw) e0 (g := (mkF m 1 #[VR y, VR sb, .val .null, .unset, .unset] [(.ref y)])) rfl (by rw [hml]; rfl) rfl (hb hby d36_1) (by decide) (W := 0) (by show 2 * 0 + _ ≤ _; exact Nat.le_of_eq rfl) (by decide)
 obtain ⟨q_6, q_7, q_8, q_9, q_10⟩ := isOf (T := T_1) hZ e_3 hp4
 obtain ⟨_, _, ⟨T_5, L_5, k_5, n_5⟩, -, X_5, ⟨Lc_5, hQ_5, l_5, y_5, z_5⟩, st_5⟩ := X_2.virtualBack hx (y := M659) (z := M659) hown (mvT hZ (w152 hw)) (mvT hZ (w153 hw)) (own_nfc (args := #[]) (mvT hZ (w93 hw)) rfl) (mvT hZ (w155 hw)) (mvT hZ (w154 hw)) (by decide) (backOf (W := 0) (rm_getv l Z a0 hw [] G1 G3 g1 kg1 g2 kg2 uS sS HG h0 n0 X00 sb vv hp5) hZ (w156 hw) (w60 hw) (by decide) (by decide)) q_8 q_10 (g := (mkF m 5 #[VR y, VR sb, .val .null, .unset, .unset] [(.ref sb)])) rfl (by rw [hml]; rfl) (Steps.refl _) (argsL := []) (rest := []) (lenOf pd_742 rfl) rfl (by show 2 * 0 + _ ≤ _; exact Nat.le_of_eq rfl) (hb hby d36_5) (fun _ _ => ⟨rfl, e_3, (by decide : 0 + 0 ≤ _), (by decide : 0 + 0 ≤ _)⟩)
 dsimp only [Pt.U, Pt.locs, Pt.cells, Pt.slots] at X_5 l_5 y_5 z_5 st_5 hQ_5
 have X_5 := own_cast X_5 l_5 y_5 z_5
 obtain ⟨rfl, N_11, e_12⟩ := hQ_5
 have N_13 := Fr.app N0 N_11
 have e_14 : T_5.heap = h0 := e_12
 obtain ⟨q_16, q_17, q_18, q_19, q_20⟩ := isOf (T := T_5) hZ e_14 hp4
 obtain ⟨_, _, ⟨T_15, L_15, k_15, n_15⟩, -, X_15, ⟨Lc_15, hQ_15, l_15, y_15, z_15⟩, st_15⟩ := X_5.virtualBack hx (y := M663) (z := M667) hown (mvT hZ (w157 hw)) (mvT hZ (w158 hw)) (own_nfc (args := #[]) (mvT hZ (w93 hw)) rfl) (mvT hZ (w160 hw)) (mvT hZ (w161 hw)) (by decide) (backOf (W := 0) (rm_sblen l Z a0 hw [] G1 G3 g1 kg1 g2 kg2 uS sS HG h0 n0 X00 sb cnt hp4 hp7) hZ (w162 hw) (w52 hw) (by decide) (by decide)) q_18 q_20 (g := (mkF m 10 #[VR y, VR sb, .val .null, VR vv, .unset] [(.ref sb)])) rfl (by rw [hml]; rfl) (Steps.refl _) (argsL := []) (rest := []) (lenOf pd_442 rfl) rfl (by show 2 * 0 + _ ≤ _; exact Nat.le_of_eq rfl) (hb hby d36_10) (fun _ _ => ⟨rfl, e_14, (by decide : 0 + 0 ≤ _), (by decide : 0 + 0 ≤ _)⟩)
 dsimp only [Pt.U, Pt.locs, Pt.cells, Pt.slots] at X_15 l_15 y_15 z_15 st_15 hQ_15
 have X_15 := own_cast X_15 l_15 y_15 z_15
 obtain ⟨rfl, N_21, e_22⟩ := hQ_15
 have N_23 := Fr.app N_13 N_21
 have e_24 : T_15.heap = h0 := e_22
 obtain ⟨q_26, q_27, q_28, q_29, q_30⟩ := isOf (T := T_15) hZ e_24 hp4
 obtain ⟨_, _, ⟨T_25, L_25, k_25, n_25⟩, -, X_25, ⟨Lc_25, hQ_25, l_25, y_25, z_25⟩, st_25⟩ := X_15.virtualBack hx (y := M597) (z := M597) hown (mvT hZ (w165 hw)) (mvT hZ (w132 hw)) (own_nfc (args := #[]) (mvT hZ (w93 hw)) rfl) (mvT hZ (w134 hw)) (mvT hZ (w133 hw)) (by decide) (backOf (W := 0) (rm_aslat l Z a0 hw [] G1 G3 g1 kg1 g2 kg2 uS sS HG h0 n0 X00 sb hp6) hZ (w135 hw) (w60 hw) (by decide) (by decide)) q_28 q_30 (g := (mkF m 16 #[VR y, VR sb, .val .null, VR vv, VI cnt] [(.ref sb)])) rfl (by rw [hml]; rfl) (Steps.refl _) (argsL := []) (rest := []) (lenOf pd_189 rfl) rfl (by show 2 * 0 + _ ≤ _; exact Nat.le_of_eq rfl) (hb hby d36_16) (fun _ _ => ⟨rfl, e_24, (by decide : 0 + 0 ≤ _), (by decide : 0 + 0 ≤ _)⟩)
 dsimp only [Pt.U, Pt.locs, Pt.cells, Pt.slots] at X_25 l_25 y_25 z_25 st_25 hQ_25
 have X_25 := own_cast X_25 l_25 y_25 z_25
 obtain ⟨rfl, N_31, e_32⟩ := hQ_25
 have N_33 := Fr.app N_23 N_31
 have e_34 : T_25.heap = h0 := e_32
 obtain ⟨T_35, h_36, X_37, e_38, W_39, st_40⟩ := putF X_25 hx hZ hown (host := "") (Or.inl (w26 hw)) Via.refl e_34 hp2 hp0 (Or.inr ⟨(w27 hw), rfl, hnm⟩) (w2 hw) (ty := .byte) (by decide) rfl (by decide) (g := (mkF m 24 #[VR y, VR sb, .val .null, VR vv, VI cnt] [(.int 0), (.ref y)])) rfl rfl (hb hby d36_24)
 have N_41 := Fr.snoc X_37 N_33 hp3
 have F_42 : Fld Z h_36 y "java/lang/String" "coder" "B" (.int 0) := hp2.same W_39
 have V_43 : Arv Z h_36 vv kv .byte cap (own_iv (own_sb ff cap.toNatClampNeg)) (.int 0) := (hp8.other W_39 (Exa.ne hp9 hp0 (by decide)))
 have E_44 : Exa Z h_36 vv "[B" := (hp9.wr W_39)
 have O_45 : Old Z n0 h_36 := (X00.wr W_39 hp3)
 obtain ⟨_, _, ⟨T_46, L_46, k_46, n_46⟩, -, X_46, ⟨Lc_46, hQ_46, l_46, y_46, z_46⟩, st_46⟩ := Jvm.LawKit.callS X_37 hx (y := M708) hown (mvT hZ (w166 hw)) (mvT hZ (w167 hw)) (mvT hZ (w168 hw)) (mvT hZ (w169 hw)) (by decide) (backOf (W := 1) (rm_cr l Z a0 hw [] G1 G3 g1 kg1 g2 kg2 uS sS HG h_36 n0 O_45 vv kv cap ff cnt V_43 E_44 hc0 hz hcn h34 hle) hZ (w169 hw) (w168 hw) (by decide) (by decide)) (g := (mkF m 32 #[VR y, VR sb, .val .null, VR vv, VI cnt] [(.int cnt), (.int 0), (.ref vv), (.ref y)])) rfl (by rw [hml]; rfl) (argsL := [(.ref vv), (.int 0), (.int cnt)]) (rest := [(.ref y)]) (lenOf pd_731 rfl) rfl (by show 2 * 0 + _ ≤ _; exact Nat.le_of_eq rfl) (hb hby d36_32) (fun _ _ => ⟨rfl, e_38, (by decide : 0 + 1 ≤ _), (by decide : 0 + 34 ≤ _)⟩)
 dsimp only [Pt.U, Pt.locs, Pt.cells, Pt.slots] at X_46 l_46 y_46 z_46 st_46 hQ_46
 have X_46 := own_cast X_46 l_46 y_46 z_46
 obtain ⟨a_47, k_48, rfl, N_49, K_50, g_51, g_52⟩ := hQ_46
 have N_53 := Fr.app N_41 N_49
 have F_54 : Fld Z T_46.heap y "java/lang/String" "value" "[B" .null := ((hp1.other W_39 (Or.inr (slot_ne (Or.inr (w29 hw)) (Or.inr (w27 hw)) (by decide) (t := (.array .byte)) (by decide) (t' := .byte) (by decide)))).keep K_50 nin0)
 have E_55 : Exa Z T_46.heap y "java/lang/String" := ((hp0.wr W_39).keep K_50)
 obtain ⟨T_56, h_57, X_58, e_59, W_60, st_61⟩ := putF X_46 hx hZ hown (host := "") (Or.inl (w28 hw)) Via.refl rfl F_54 E_55 (Or.inr ⟨(w29 hw), rfl, hnm⟩) (w2 hw) (ty := (.array .byte)) (by decide) rfl rfl (g := (mkF m 35 #[VR y, VR sb, .val .null, VR vv, VI cnt] [(.ref a_47), (.ref y)])) rfl rfl (hb hby d36_35)
 have N_62 := Fr.snoc X_58 N_53 hp3
 have F_63 : Fld Z h_57 y "java/lang/String" "value" "[B" (.ref a_47) := F_54.same W_60
 have C_64 : Steps p.tables e below S0 (T_56.setTop (mkF m 97 #[VR y, VR sb, .val .null, VR vv, VI cnt] [])) := by
  refine C0.trans ?_
  refine XS.aloadN X0.here hx rfl (hb hby d36_0) rfl rfl ?_
  refine st_4 _ ?_
  refine XS.aloadN X_2.here hx rfl (hb hby d36_4) rfl rfl ?_
  refine st_5.trans ?_
  refine XS.astoreN X_5.here hx rfl (hb hby d36_8) rfl rfl (l' := #[VR y, VR sb, .val .null, VR vv, .unset]) rfl ?_
  refine XS.aloadN X_5.here hx rfl (hb hby d36_9) rfl rfl ?_
  refine st_15.trans ?_
  refine XS.istore X_15.here hx rfl (hb hby d36_13) rfl (l' := #[VR y, VR sb, .val .null, VR vv, VI cnt]) rfl ?_
  show Steps p.tables e below (T_15.setTop (mkF m 15 #[VR y, VR sb, .val .null, VR vv, VI cnt] [])) _
  refine XS.aloadN X_15.here hx rfl (hb hby d36_15) rfl rfl ?_
  refine st_25.trans ?_
  refine XS.ifNo X_25.here hx rfl (hb hby d36_19) rfl (by decide) ?_
  refine XS.aloadN X_25.here hx rfl (hb hby d36_22) rfl rfl ?_
  refine XS.iconst X_25.here hx rfl (hb hby d36_23) ?_
  refine st_40 _ ?_
  refine XS.aloadN X_37.here hx rfl (hb hby d36_27) rfl rfl ?_
  refine XS.aloadN X_37.here hx rfl (hb hby d36_28) rfl rfl ?_
  show Steps p.tables e below (T_35.setTop (mkF m 29 #[VR y, VR sb, .val .null, VR vv, VI cnt] [(.ref vv), (.ref y)])) _
  refine XS.iconst X_37.here hx rfl (hb hby d36_29) ?_
  refine XS.iload X_37.here hx rfl (hb hby d36_30) rfl ?_
  refine st_46 _ ?_
  refine st_61 _ ?_
  refine XS.goto X_58.here hx rfl (pc0 := 38) (pc' := 97) rfl (hb hby d36_38) (by decide) (by decide) ?_
  exact Steps.refl _
 have E_65 : Exa Z h_57 y "java/lang/String" := (E_55.wr W_60)
 have F_66 : Fld Z h_57 y "java/lang/String" "coder" "B" (.int 0) := ((F_42.keep K_50 nin0).other W_60 (Or.inr (slot_ne (Or.inr (w27 hw)) (Or.inr (w29 hw)) (by decide) (t := .byte) (by decide) (t' := (.array .byte)) (by decide))))
 have V_67 : Arv Z h_57 a_47 k_48 .byte cnt (own_iv ff) (.int 0) := (g_52.other W_60 (Ne.symm (Nat.ne_of_lt (Nat.lt_of_lt_of_le hp0.lt (Nat.le_trans (Keep.of_wr W_39).1 g_51)))))
 have K_68 : Keep h0 h_57 [y] := ((((Keep.refl _ _).wr W_39 (Or.inl (List.mem_of_getElem? (i := 0) rfl))).trans K_50 all0).wr W_60 (Or.inl (List.mem_of_getElem? (i := 0) rfl)))
 obtain ⟨fs, hr, hrun, hended, hW, hsame⟩ := X_58.leave (v := none) (fun _ => rfl)
 refine ⟨_, _, C_64.trans (X_58.returnOut hx Bd.returns (hb hby d36_97) hr), hrun, hended, _, _, rfl, ?_, ⟨_, rfl⟩, hW, hsame.mono (by decide) (by decide)⟩
 show Q_sia Z G1 G3 g1 kg1 g2 kg2 uS sS y sb vv kv cap ff cnt h0 n0 (none) T_56.heap _
 rw [e_59]
 exact ⟨a_47, k_48, rfl, N_62, K_68, E_65, F_66, F_63, (Nat.le_trans (Keep.of_wr W_39).1 g_51), V_67⟩
abbrev M775 : MethodName := ⟨"java/lang/String", "<init>", "(Ljava/lang/StringBuilder;)V"⟩
theorem d37_0 : decode jdk_42_method_53_code 0 = .ok (.aload_n 0, 1) := by decide +kernel
theorem d37_1 : decode jdk_42_method_53_code 1 = .ok (.aload_n 1, 1) := by decide +kernel
theorem d37_2 : decode jdk_42_method_53_code 2 = .ok (.aconst_null, 1) := by decide +kernel
theorem w151 {Z a0} (hw : HW Z a0) : Cond.before (Cond.code (⟨"java/lang/String", "<init>", "(Ljava/lang/AbstractStringBuilder;Ljava/lang/Void;)V"⟩ : MethodName) jdk_42_method_150_code (5 : Nat) (Option.none : Option FieldType)) a0 Z = true := hw _ (List.mem_of_getElem? (i := 151) rfl)
theorem pd_780 : parseMethodDescriptor "(Ljava/lang/AbstractStringBuilder;Ljava/lang/Void;)V" = some ⟨[(.object "java/lang/AbstractStringBuilder"), (.object "java/lang/Void")], none⟩ := by decide +kernel
theorem d37_3 : decode jdk_42_method_53_code 3 = .ok (.invokespecial 489, 3) := by decide +kernel
theorem w149 {Z a0} (hw : HW Z a0) : Cond.before (Cond.methodLink "java/lang/String" (489 : Nat) (⟨"java/lang/String", "<init>", "(Ljava/lang/AbstractStringBuilder;Ljava/lang/Void;)V"⟩ : MethodName)) a0 Z = true := hw _ (List.mem_of_getElem? (i := 149) rfl)
theorem w150 {Z a0} (hw : HW Z a0) : Cond.before (Cond.instanceMethod (⟨"java/lang/String", "<init>", "(Ljava/lang/AbstractStringBuilder;Ljava/lang/Void;)V"⟩ : MethodName)) a0 Z = true := hw _ (List.mem_of_getElem? (i := 150) rfl)
theorem d37_6 : decode jdk_42_method_53_code 6 = .ok (.return_, 1) := by decide +kernel
abbrev R_sis : Room := { frames := 4, cells := 1, slots := 34, locals := 65 }
def Q_sis (Z : State) (G1 : Int32) (G3 : Value) (g1 : Addr) (kg1 : ClassId) (g2 : Addr) (kg2 : ClassId) (uS : Value) (sS : Value) (y : Addr) (sb : Addr) (vv : Addr) (kv : ClassId) (cap : Int32) (ff : List Int32) (cnt : Int32) (h0 : Heap) (n0 : Nat) (v : Option Value) (h : Heap) (L : List Loc) : Prop := (∃ w : Addr, ∃ kw : ClassId, v = none ∧ Fr n0 L ∧ Keep h0 h [y] ∧ (Exa Z h y "java/lang/String") ∧ (Fld Z h y "java/lang/String" "coder" "B" (.int 0)) ∧ (Fld Z h y "java/lang/String" "value" "[B" (.ref w)) ∧ (h0.size ≤ w) ∧ (Arv Z h w kw .byte cnt (own_iv ff) (.int 0)))
theorem rm_sis (l : Launch) (Z : State) (a0 : Array Value) (hw : HW Z a0) (ws : List Jvm.Cond) (G1 : Int32) (G3 : Value) (g1 : Addr) (kg1 : ClassId) (g2 : Addr) (kg2 : ClassId) (uS : Value) (sS : Value) (HG : own_G l Z a0 G1 G3 g1 kg1 g2 kg2 uS sS) (h0 : Heap) (n0 : Nat) (X00 : Old Z n0 h0) (y : Addr) (sb : Addr) (vv : Addr) (kv : ClassId) (cap : Int32) (ff : List Int32) (cnt : Int32) (hp0 : Exa Z h0 y "java/lang/String") (hp1 : Fld Z h0 y "java/lang/String" "value" "[B" .null) (hp2 : Fld Z h0 y "java/lang/String" "coder" "B" (.int 0)) (hp3 : n0 ≤ y) (hp4 : Exa Z h0 sb "java/lang/StringBuilder") (hp5 : Fld Z h0 sb "java/lang/AbstractStringBuilder" "value" "[B" (.ref vv)) (hp6 : Fld Z h0 sb "java/lang/AbstractStringBuilder" "coder" "B" (.int 0)) (hp7 : Fld Z h0 sb "java/lang/AbstractStringBuilder" "count" "I" (.int cnt)) (hp8 : Arv Z h0 vv kv .byte cap (own_iv (own_sb ff cap.toNatClampNeg)) (.int 0)) (hp9 : Exa Z h0 vv "[B") (hc0 : ¬ (cnt < (0 : Int32))) (hz : ¬ (cap < (0 : Int32))) (hcn : cnt.toNatClampNeg = ff.length) (h34 : cap.toNatClampNeg ≤ 34) (hle : ff.length ≤ cap.toNatClampNeg) :
  own_CP l Z M775 jdk_42_method_53_code 2 none ws R_sis #[(.ref y), (.ref sb)] h0 (Q_sis Z G1 G3 g1 kg1 g2 kg2 uS sS y sb vv kv cap ff cnt h0 n0) := by
 refine own_P (plainFor_of_name pn_61) ?_
 intro p e s m below meth c s₁ S0 Bd hZ hh hx hby hml hown hnm X0 e0 hS0d
 obtain ⟨O1, P1, O3f, rG3, Sg1, Dg1, Sg2, Dg2, hLT, OU, rU, OS, rS⟩ := id HG
 have N0 := Fr.nil n0
 have C0 : Steps p.tables e below S0 (s₁.setTop (mkF m 0 #[VR y, VR sb] [])) := by rw [hS0d]; exact castTop (ef_100 m y sb) (Steps.refl _)
 obtain ⟨_, _, ⟨T_1, L_1, k_1, n_1⟩, -, X_1, ⟨Lc_1, hQ_1, l_1, y_1, z_1⟩, st_1⟩ := X0.specialBack hx (y := M736) rfl hown (mvT hZ (w149 hw)) (mvT hZ (w150 hw)) (mvT hZ (w151 hw)) (by decide) (backOf (W := 0) (rm_sia l Z a0 hw [] G1 G3 g1 kg1 g2 kg2 uS sS HG h0 n0 X00 y sb vv kv cap ff cnt hp0 hp1 hp2 hp3 hp4 hp5 hp6 hp7 hp8 hp9 hc0 hz hcn h34 hle) hZ (w151 hw) (w3 hw) (by decide) (by decide)) (g := (mkF m 3 #[VR y, VR sb] [.null, (.ref sb), (.ref y)])) rfl (by rw [hml]; rfl) (Steps.refl _) (a := y) (argsL := [(.ref sb), .null]) (rest := []) (lenOf pd_780 rfl) rfl (by show 2 * 0 + _ ≤ _; exact Nat.le_of_eq rfl) (hb hby d37_3) (fun _ _ => ⟨rfl, e0, (by decide : 0 + 1 ≤ _), (by decide : 0 + 34 ≤ _)⟩)
 dsimp only [Pt.U, Pt.locs, Pt.cells, Pt.slots] at X_1 l_1 y_1 z_1 st_1 hQ_1
 have X_1 := own_cast X_1 l_1 y_1 z_1
 obtain ⟨a_2, k_3, rfl, N_4, K_5, g_6, g_7, g_8, g_9, g_10⟩ := hQ_1
 have N_11 := Fr.app N0 N_4
 have C_12 : Steps p.tables e below S0 (T_1.setTop (mkF m 6 #[VR y, VR sb] [])) := by
  refine C0.trans ?_
  refine XS.aloadN X0.here hx rfl (hb hby d37_0) rfl rfl ?_
  refine XS.aloadN X0.here hx rfl (hb hby d37_1) rfl rfl ?_
  refine XS.aconstNull X0.here hx rfl (hb hby d37_2) ?_
  refine st_1.trans ?_
  exact Steps.refl _
 have K_13 : Keep h0 T_1.heap [y] := ((Keep.refl _ _).trans K_5 (allS (Or.inl (List.mem_of_getElem? (i := 0) rfl)) all0))
 obtain ⟨fs, hr, hrun, hended, hW, hsame⟩ := X_1.leave (v := none) (fun _ => rfl)
 refine ⟨_, _, C_12.trans (X_1.returnOut hx Bd.returns (hb hby d37_6) hr), hrun, hended, _, _, rfl, ?_, ⟨_, rfl⟩, hW, hsame.mono (by decide) (by decide)⟩
 show Q_sis Z G1 G3 g1 kg1 g2 kg2 uS sS y sb vv kv cap ff cnt h0 n0 (none) T_1.heap _
 exact ⟨a_2, k_3, rfl, N_11, K_13, g_6, g_7, g_8, (Nat.le_trans (Nat.le_refl _) g_9), g_10⟩
abbrev M785 : MethodName := ⟨"java/lang/StringBuilder", "toString", "()Ljava/lang/String;"⟩
theorem w145 {Z a0} (hw : HW Z a0) : Cond.before (Cond.classLink "java/lang/StringBuilder" (18 : Nat) "java/lang/String") a0 Z = true := hw _ (List.mem_of_getElem? (i := 145) rfl)
theorem d38_0 : decode jdk_67_method_42_code 0 = .ok (.new 18, 3) := by decide +kernel
theorem d38_3 : decode jdk_67_method_42_code 3 = .ok (.dup, 1) := by decide +kernel
theorem d38_4 : decode jdk_67_method_42_code 4 = .ok (.aload_n 0, 1) := by decide +kernel
theorem w148 {Z a0} (hw : HW Z a0) : Cond.before (Cond.code (⟨"java/lang/String", "<init>", "(Ljava/lang/StringBuilder;)V"⟩ : MethodName) jdk_42_method_53_code (2 : Nat) (Option.none : Option FieldType)) a0 Z = true := hw _ (List.mem_of_getElem? (i := 148) rfl)
theorem pd_791 : parseMethodDescriptor "(Ljava/lang/StringBuilder;)V" = some ⟨[(.object "java/lang/StringBuilder")], none⟩ := by decide +kernel
theorem d38_5 : decode jdk_67_method_42_code 5 = .ok (.invokespecial 137, 3) := by decide +kernel
theorem w146 {Z a0} (hw : HW Z a0) : Cond.before (Cond.methodLink "java/lang/StringBuilder" (137 : Nat) (⟨"java/lang/String", "<init>", "(Ljava/lang/StringBuilder;)V"⟩ : MethodName)) a0 Z = true := hw _ (List.mem_of_getElem? (i := 146) rfl)
theorem w147 {Z a0} (hw : HW Z a0) : Cond.before (Cond.instanceMethod (⟨"java/lang/String", "<init>", "(Ljava/lang/StringBuilder;)V"⟩ : MethodName)) a0 Z = true := hw _ (List.mem_of_getElem? (i := 147) rfl)
theorem d38_8 : decode jdk_67_method_42_code 8 = .ok (.areturn, 1) := by decide +kernel
abbrev R_tos : Room := { frames := 5, cells := 2, slots := 38, locals := 79 }
def Q_tos (Z : State) (G1 : Int32) (G3 : Value) (g1 : Addr) (kg1 : ClassId) (g2 : Addr) (kg2 : ClassId) (uS : Value) (sS : Value) (sb : Addr) (vv : Addr) (kv : ClassId) (cap : Int32) (ff : List Int32) (cnt : Int32) (h0 : Heap) (n0 : Nat) (v : Option Value) (h : Heap) (L : List Loc) : Prop := (∃ y : Addr, ∃ w : Addr, ∃ kw : ClassId, v = some (.ref y) ∧ Fr n0 L ∧ Keep h0 h [] ∧ (h0.size ≤ y) ∧ (Exa Z h y "java/lang/String") ∧ (Fld Z h y "java/lang/String" "coder" "B" (.int 0)) ∧ (Fld Z h y "java/lang/String" "value" "[B" (.ref w)) ∧ (h0.size ≤ w) ∧ (Arv Z h w kw .byte cnt (own_iv ff) (.int 0)) ∧ (ff.length = cnt.toNatClampNeg))
theorem rm_tos (l : Launch) (Z : State) (a0 : Array Value) (hw : HW Z a0) (ws : List Jvm.Cond) (G1 : Int32) (G3 : Value) (g1 : Addr) (kg1 : ClassId) (g2 : Addr) (kg2 : ClassId) (uS : Value) (sS : Value) (HG : own_G l Z a0 G1 G3 g1 kg1 g2 kg2 uS sS) (h0 : Heap) (n0 : Nat) (X00 : Old Z n0 h0) (sb : Addr) (vv : Addr) (kv : ClassId) (cap : Int32) (ff : List Int32) (cnt : Int32) (hp0 : Exa Z h0 sb "java/lang/StringBuilder") (hp1 : Fld Z h0 sb "java/lang/AbstractStringBuilder" "value" "[B" (.ref vv)) (hp2 : Fld Z h0 sb "java/lang/AbstractStringBuilder" "coder" "B" (.int 0)) (hp3 : Fld Z h0 sb "java/lang/AbstractStringBuilder" "count" "I" (.int cnt)) (hp4 : Arv Z h0 vv kv .byte cap (own_iv (own_sb ff cap.toNatClampNeg)) (.int 0)) (hp5 : Exa Z h0 vv "[B") (hc0 : ¬ (cnt < (0 : Int32))) (hz : ¬ (cap < (0 : Int32))) (hcn : cnt.toNatClampNeg = ff.length) (h34 : cap.toNatClampNeg ≤ 34) (hle : ff.length ≤ cap.toNatClampNeg) :
  own_CP l Z M785 jdk_67_method_42_code 1 (some (.object "java/lang/String")) ws R_tos #[(.ref sb)] h0 (Q_tos Z G1 G3 g1 kg1 g2 kg2 uS sS sb vv kv cap ff cnt h0 n0) := by
 refine own_P (plainFor_of_name pn_230) ?_
 intro p e s m below meth c s₁ S0 Bd hZ hh hx hby hml hown hnm X0 e0 hS0d
 obtain ⟨O1, P1, O3f, rG3, Sg1, Dg1, Sg2, Dg2, hLT, OU, rU, OS, rS⟩ := id HG
 have N0 := Fr.nil n0
 have C0 : Steps p.tables e below S0 (s₁.setTop (mkF m 0 #[VR sb] [])) := by rw [hS0d]; exact castTop (ef_115 m sb) (Steps.refl _)
 obtain ⟨T_1, h_2, X_3, e_4, E_5, A_6, D_7, U_11, st_8⟩ := newO X0 hx hZ hown (w145 hw) (w2 hw) (w3 hw) e0 (g := (mkF m 0 #[VR sb] [])) rfl (hb hby d38_0) (by decide) (by decide)
 obtain ⟨a_9, g_10⟩ : ∃ z, z = h0.size := ⟨_, rfl⟩
 rw [← g_10] at A_6 D_7 st_8 U_11
 have E_12 : Exa Z h_2 sb "java/lang/StringBuilder" := (hp0.ext E_5)
 have F_13 : Fld Z h_2 sb "java/lang/AbstractStringBuilder" "value" "[B" (.ref vv) := (hp1.ext E_5)
 have F_14 : Fld Z h_2 sb "java/lang/AbstractStringBuilder" "coder" "B" (.int 0) := (hp2.ext E_5)
 have F_15 : Fld Z h_2 sb "java/lang/AbstractStringBuilder" "count" "I" (.int cnt) := (hp3.ext E_5)
 have V_16 : Arv Z h_2 vv kv .byte cap (own_iv (own_sb ff cap.toNatClampNeg)) (.int 0) := (hp4.ext E_5)
 have E_17 : Exa Z h_2 vv "[B" := (hp5.ext E_5)
 have O_18 : Old Z n0 h_2 := (X00.ext E_5)
 obtain ⟨_, _, ⟨T_19, L_19, k_19, n_19⟩, -, X_19, ⟨Lc_19, hQ_19, l_19, y_19, z_19⟩, st_19⟩ := X_3.specialBack hx (y := M775) rfl hown (mvT hZ (w146 hw)) (mvT hZ (w147 hw)) (mvT hZ (w148 hw)) (by decide) (backOf (W := 1) (rm_sis l Z a0 hw [] G1 G3 g1 kg1 g2 kg2 uS sS HG h_2 n0 O_18 a_9 sb vv kv cap ff cnt A_6 (D_7 (Or.inr (w29 hw)) (ty := (.array .byte)) (by decide)) (D_7 (Or.inr (w27 hw)) (ty := .byte) (by decide)) (Nat.le_trans (own_n0 X00) (Nat.le_of_eq g_10.symm)) E_12 F_13 F_14 F_15 V_16 E_17 hc0 hz hcn h34 hle) hZ (w148 hw) (w3 hw) (by decide) (by decide)) (g := (mkF m 5 #[VR sb] [(.ref sb), (.ref a_9), (.ref a_9)])) rfl (by rw [hml]; rfl) (Steps.refl _) (a := a_9) (argsL := [(.ref sb)]) (rest := [(.ref a_9)]) (lenOf pd_791 rfl) rfl (by show 2 * 0 + _ ≤ _; exact Nat.le_of_eq rfl) (hb hby d38_5) (fun _ _ => ⟨rfl, e_4, (by decide : 1 + 1 ≤ _), (by decide : 4 + 34 ≤ _)⟩)
 dsimp only [Pt.U, Pt.locs, Pt.cells, Pt.slots] at X_19 l_19 y_19 z_19 st_19 hQ_19
 have X_19 := own_cast X_19 l_19 y_19 z_19
 obtain ⟨a_20, k_21, rfl, N_22, K_23, g_24, g_25, g_26, g_27, g_28⟩ := hQ_19
 have N_29 := Fr.app N0 N_22
 have C_30 : Steps p.tables e below S0 (T_19.setTop (mkF m 8 #[VR sb] [(.ref a_9)])) := by
  refine C0.trans ?_
  refine st_8 _ ?_
  refine XS.dup X_3.here hx rfl (hb hby d38_3) rfl rfl ?_
  refine XS.aloadN X_3.here hx rfl (hb hby d38_4) rfl rfl ?_
  refine st_19.trans ?_
  exact Steps.refl _
 have K_31 : Keep h0 T_19.heap [] := (((Keep.refl _ _).ext E_5).trans K_23 (allS (Or.inr (Nat.le_trans (Nat.le_refl _) (Nat.le_of_eq g_10.symm))) all0))
 obtain ⟨fs, hr, hrun, hended, hW, hsame⟩ := X_19.leave (v := some (.ref a_9)) (fun h => by rw [Bd.returns] at h; cases h)
 refine ⟨_, _, C_30.trans (retOut X_19 hx Bd.returns rfl (Or.inr (Or.inr (Or.inr (Or.inr ⟨rfl, rfl, rfl⟩)))) (hb hby d38_8) hr), hrun, hended, _, _, rfl, ?_, ⟨_, rfl⟩, hW, hsame.mono (by decide) (by decide)⟩
 show Q_tos Z G1 G3 g1 kg1 g2 kg2 uS sS sb vv kv cap ff cnt h0 n0 (some (.ref a_9)) T_19.heap _
 exact ⟨a_9, a_20, k_21, rfl, N_29, K_31, (Nat.le_trans (Nat.le_refl _) (Nat.le_of_eq g_10.symm)), g_24, g_25, g_26, (Nat.le_trans E_5.1 g_27), g_28, hcn.symm⟩
abbrev M796 : MethodName := ⟨"java/lang/Throwable", "<init>", "(Ljava/lang/String;)V"⟩
theorem pn_797 : plainName "java/lang/Throwable" = true := by first | (simp [plainName, overriddenIn]; done) | decide +kernel
theorem d39_0 : decode jdk_78_method_2_code 0 = .ok (.aload_n 0, 1) := by decide +kernel
theorem w193 {Z a0} (hw : HW Z a0) : Cond.before (Cond.methodLink "java/lang/Throwable" (1 : Nat) (⟨"java/lang/Object", "<init>", "()V"⟩ : MethodName)) a0 Z = true := hw _ (List.mem_of_getElem? (i := 193) rfl)
theorem d39_1 : decode jdk_78_method_2_code 1 = .ok (.invokespecial 1, 3) := by decide +kernel
theorem d39_4 : decode jdk_78_method_2_code 4 = .ok (.aload_n 0, 1) := by decide +kernel
theorem d39_5 : decode jdk_78_method_2_code 5 = .ok (.aload_n 0, 1) := by decide +kernel
theorem w194 {Z a0} (hw : HW Z a0) : Cond.before (Cond.fieldLink "java/lang/Throwable" (7 : Nat) "java/lang/Throwable" "cause" "Ljava/lang/Throwable;") a0 Z = true := hw _ (List.mem_of_getElem? (i := 194) rfl)
theorem w195 {Z a0} (hw : HW Z a0) : Cond.before (Cond.lays "com/example/claimgate/claimgate/config/ConfigException" "java/lang/Throwable" "cause" "Ljava/lang/Throwable;") a0 Z = true := hw _ (List.mem_of_getElem? (i := 195) rfl)
theorem w45 {Z a0} (hw : HW Z a0) : Cond.before (Cond.instantiable "com/example/claimgate/claimgate/config/ConfigException" (6 : Nat)) a0 Z = true := hw _ (List.mem_of_getElem? (i := 45) rfl)
theorem d39_6 : decode jdk_78_method_2_code 6 = .ok (.putfield 7, 3) := by decide +kernel
theorem d39_9 : decode jdk_78_method_2_code 9 = .ok (.aload_n 0, 1) := by decide +kernel
theorem w196 {Z a0} (hw : HW Z a0) : Cond.before (Cond.fieldLink "java/lang/Throwable" (13 : Nat) "java/lang/Throwable" "UNASSIGNED_STACK" "[Ljava/lang/StackTraceElement;") a0 Z = true := hw _ (List.mem_of_getElem? (i := 196) rfl)
theorem d39_10 : decode jdk_78_method_2_code 10 = .ok (.getstatic 13, 3) := by decide +kernel
theorem w197 {Z a0} (hw : HW Z a0) : Cond.before (Cond.fieldLink "java/lang/Throwable" (17 : Nat) "java/lang/Throwable" "stackTrace" "[Ljava/lang/StackTraceElement;") a0 Z = true := hw _ (List.mem_of_getElem? (i := 197) rfl)
theorem w198 {Z a0} (hw : HW Z a0) : Cond.before (Cond.lays "com/example/claimgate/claimgate/config/ConfigException" "java/lang/Throwable" "stackTrace" "[Ljava/lang/StackTraceElement;") a0 Z = true := hw _ (List.mem_of_getElem? (i := 198) rfl)
theorem d39_13 : decode jdk_78_method_2_code 13 = .ok (.putfield 17, 3) := by decide +kernel
theorem d39_16 : decode jdk_78_method_2_code 16 = .ok (.aload_n 0, 1) := by decide +kernel
theorem w199 {Z a0} (hw : HW Z a0) : Cond.before (Cond.fieldLink "java/lang/Throwable" (20 : Nat) "java/lang/Throwable" "SUPPRESSED_SENTINEL" "Ljava/util/List;") a0 Z = true := hw _ (List.mem_of_getElem? (i := 199) rfl)
theorem d39_17 : decode jdk_78_method_2_code 17 = .ok (.getstatic 20, 3) := by decide +kernel
theorem w200 {Z a0} (hw : HW Z a0) : Cond.before (Cond.fieldLink "java/lang/Throwable" (24 : Nat) "java/lang/Throwable" "suppressedExceptions" "Ljava/util/List;") a0 Z = true := hw _ (List.mem_of_getElem? (i := 200) rfl)
theorem w201 {Z a0} (hw : HW Z a0) : Cond.before (Cond.lays "com/example/claimgate/claimgate/config/ConfigException" "java/lang/Throwable" "suppressedExceptions" "Ljava/util/List;") a0 Z = true := hw _ (List.mem_of_getElem? (i := 201) rfl)
theorem d39_20 : decode jdk_78_method_2_code 20 = .ok (.putfield 24, 3) := by decide +kernel
theorem d39_23 : decode jdk_78_method_2_code 23 = .ok (.aload_n 0, 1) := by decide +kernel
theorem w226 {Z a0} (hw : HW Z a0) : Cond.before (Cond.lays "com/example/claimgate/claimgate/config/ConfigException" "java/lang/Throwable" "backtrace" "Ljava/lang/Object;") a0 Z = true := hw _ (List.mem_of_getElem? (i := 226) rfl)
theorem d39_24 : decode jdk_78_method_2_code 24 = .ok (.invokevirtual 27, 3) := by decide +kernel
theorem d39_27 : decode jdk_78_method_2_code 27 = .ok (.pop, 1) := by decide +kernel
theorem d39_28 : decode jdk_78_method_2_code 28 = .ok (.aload_n 0, 1) := by decide +kernel
theorem d39_29 : decode jdk_78_method_2_code 29 = .ok (.aload_n 1, 1) := by decide +kernel
theorem w229 {Z a0} (hw : HW Z a0) : Cond.before (Cond.fieldLink "java/lang/Throwable" (31 : Nat) "java/lang/Throwable" "detailMessage" "Ljava/lang/String;") a0 Z = true := hw _ (List.mem_of_getElem? (i := 229) rfl)
theorem w225 {Z a0} (hw : HW Z a0) : Cond.before (Cond.lays "com/example/claimgate/claimgate/config/ConfigException" "java/lang/Throwable" "detailMessage" "Ljava/lang/String;") a0 Z = true := hw _ (List.mem_of_getElem? (i := 225) rfl)
theorem d39_30 : decode jdk_78_method_2_code 30 = .ok (.putfield 31, 3) := by decide +kernel
theorem d39_33 : decode jdk_78_method_2_code 33 = .ok (.return_, 1) := by decide +kernel
abbrev R_thi : Room := { frames := 3, cells := 1, slots := 2752, locals := 42 }
def Q_thi (Z : State) (G1 : Int32) (G3 : Value) (g1 : Addr) (kg1 : ClassId) (g2 : Addr) (kg2 : ClassId) (uS : Value) (sS : Value) (d : Addr) (r : Addr) (h0 : Heap) (n0 : Nat) (v : Option Value) (h : Heap) (L : List Loc) : Prop := (v = none ∧ Fr n0 L ∧ Keep h0 h [d] ∧ (Exa Z h d "com/example/claimgate/claimgate/config/ConfigException") ∧ (Fld Z h d "java/lang/Throwable" "detailMessage" "Ljava/lang/String;" (.ref r)))
theorem rm_thi (l : Launch) (Z : State) (a0 : Array Value) (hw : HW Z a0) (ws : List Jvm.Cond) (G1 : Int32) (G3 : Value) (g1 : Addr) (kg1 : ClassId) (g2 : Addr) (kg2 : ClassId) (uS : Value) (sS : Value) (HG : own_G l Z a0 G1 G3 g1 kg1 g2 kg2 uS sS) (h0 : Heap) (n0 : Nat) (X00 : Old Z n0 h0) (d : Addr) (r : Addr) (hp0 : Exa Z h0 d "com/example/claimgate/claimgate/config/ConfigException") (hp1 : Unt h0 d) (hp2 : Fld Z h0 d "java/lang/Throwable" "cause" "Ljava/lang/Throwable;" .null) (hp3 : Fld Z h0 d "java/lang/Throwable" "stackTrace" "[Ljava/lang/StackTraceElement;" .null) (hp4 : Fld Z h0 d "java/lang/Throwable" "suppressedExceptions" "Ljava/util/List;" .null) (hp5 : Fld Z h0 d "java/lang/Throwable" "backtrace" "Ljava/lang/Object;" .null) (hp6 : Fld Z h0 d "java/lang/Throwable" "detailMessage" "Ljava/lang/String;" .null) (hp7 : n0 ≤ d) :
  own_CK l Z M796 jdk_78_method_2_code 2 none ws R_thi #[(.ref d), (.ref r)] h0 (Q_thi Z G1 G3 g1 kg1 g2 kg2 uS sS d r h0 n0) := by
 refine own_K (plainFor_of_name pn_797) ?_
 intro p e s m below meth c s₁ S0 Bd hZ hh CH0 hS0 CR0 hTK0 hBL0 hx hby hml hown hnm X0 e0 hS0d
 obtain ⟨O1, P1, O3f, rG3, Sg1, Dg1, Sg2, Dg2, hLT, OU, rU, OS, rS⟩ := id HG
 have hEL := own_EL hw
 have hSA := own_SA hw
 have N0 := Fr.nil n0
 have C0 : Steps p.tables e below S0 (s₁.setTop (mkF m 0 #[VR d, VR r] [])) := by rw [hS0d]; exact castTop (ef_100 m d r) (Steps.refl _)
 obtain ⟨T_1, X_2, e_3, st_4⟩ := initO X0 hx hZ hown (w193 hw) (w12 hw) (w13 hw) e0 (g := (mkF m 1 #[VR d, VR r] [(.ref d)])) rfl (by rw [hml]; rfl) rfl (hb hby d39_1) (by decide) (W := 0) (by show 2 * 0 + _ ≤ _; exact Nat.le_of_eq rfl) (by decide)
 obtain ⟨T_5, h_6, X_7, e_8, W_9, st_10⟩ := putF X_2 hx hZ hown (host := "") (Or.inl (w194 hw)) Via.refl e_3 hp2 hp0 (Or.inl (w195 hw)) (w45 hw) (ty := (.object "java/lang/Throwable")) (by decide) rfl rfl (g := (mkF m 6 #[VR d, VR r] [(.ref d), (.ref d)])) rfl rfl (hb hby d39_6)
 have N_11 := Fr.snoc X_7 N0 hp7
 have CH_12 : CHv Z consts_1 s.vm h_6 := CHv.wr W_9 (Safe.exa hZ.alike hp0 (by decide) (by decide)) CH0
 have CR_13 : CHr Z consts_1 s.vm h0 s.vm h_6 := CR0.trans (CHr.wr W_9 (Safe.exa hZ.alike hp0 (by decide) (by decide)) CH0)
 have F_14 : Fld Z h_6 d "java/lang/Throwable" "cause" "Ljava/lang/Throwable;" (.ref d) := hp2.same W_9
 have O_19 : Old Z n0 h_6 := (X00.wr W_9 hp7)
 obtain ⟨T_15, X_16, e_17, st_18⟩ := getS X_7 hx hZ (host := "") hown (w196 hw) Via.refl e_8 (OU.ext O_19.2) (g := (mkF m 10 #[VR d, VR r] [(.ref d)])) rfl (hb hby d39_10)
 have F_20 : Fld Z h_6 d "java/lang/Throwable" "stackTrace" "[Ljava/lang/StackTraceElement;" .null := (hp3.other W_9 (Or.inr (slot_ne (Or.inl (w198 hw)) (Or.inl (w195 hw)) (by decide) (t := (.array (.object "java/lang/StackTraceElement"))) (by decide) (t' := (.object "java/lang/Throwable")) (by decide))))
 have E_21 : Exa Z h_6 d "com/example/claimgate/claimgate/config/ConfigException" := (hp0.wr W_9)
 obtain ⟨T_22, h_23, X_24, e_25, W_26, st_27⟩ := putF X_16 hx hZ hown (host := "") (Or.inl (w197 hw)) Via.refl e_17 F_20 E_21 (Or.inl (w198 hw)) (w45 hw) (ty := (.array (.object "java/lang/StackTraceElement"))) (by decide) (own_narR rU) (own_fitR rU) (g := (mkF m 13 #[VR d, VR r] [uS, (.ref d)])) rfl rfl (hb hby d39_13)
 have N_28 := Fr.snoc X_24 N_11 hp7
 have CH_29 : CHv Z consts_1 s.vm h_23 := CHv.wr W_26 (Safe.exa hZ.alike E_21 (by decide) (by decide)) CH_12
 have CR_30 : CHr Z consts_1 s.vm h0 s.vm h_23 := CR_13.trans (CHr.wr W_26 (Safe.exa hZ.alike E_21 (by decide) (by decide)) CH_12)
 have F_31 : Fld Z h_23 d "java/lang/Throwable" "stackTrace" "[Ljava/lang/StackTraceElement;" uS := F_20.same W_26
 have O_36 : Old Z n0 h_23 := (O_19.wr W_26 hp7)
 obtain ⟨T_32, X_33, e_34, st_35⟩ := getS X_24 hx hZ (host := "") hown (w199 hw) Via.refl e_25 (OS.ext O_36.2) (g := (mkF m 17 #[VR d, VR r] [(.ref d)])) rfl (hb hby d39_17)
 have F_37 : Fld Z h_23 d "java/lang/Throwable" "suppressedExceptions" "Ljava/util/List;" .null := ((hp4.other W_9 (Or.inr (slot_ne (Or.inl (w201 hw)) (Or.inl (w195 hw)) (by decide) (t := (.object "java/util/List")) (by decide) (t' := (.object "java/lang/Throwable")) (by decide)))).other W_26 (Or.inr (slot_ne (Or.inl (w201 hw)) (Or.inl (w198 hw)) (by decide) (t := (.object "java/util/List")) (by decide) (t' := (.array (.object "java/lang/StackTraceElement"))) (by decide))))
 have E_38 : Exa Z h_23 d "com/example/claimgate/claimgate/config/ConfigException" := (E_21.wr W_26)
 obtain ⟨T_39, h_40, X_41, e_42, W_43, st_44⟩ := putF X_33 hx hZ hown (host := "") (Or.inl (w200 hw)) Via.refl e_34 F_37 E_38 (Or.inl (w201 hw)) (w45 hw) (ty := (.object "java/util/List")) (by decide) (own_narR rS) (own_fitR rS) (g := (mkF m 20 #[VR d, VR r] [sS, (.ref d)])) rfl rfl (hb hby d39_20)
 have N_45 := Fr.snoc X_41 N_28 hp7
 have CH_46 : CHv Z consts_1 s.vm h_40 := CHv.wr W_43 (Safe.exa hZ.alike E_38 (by decide) (by decide)) CH_29
 have CR_47 : CHr Z consts_1 s.vm h0 s.vm h_40 := CR_30.trans (CHr.wr W_43 (Safe.exa hZ.alike E_38 (by decide) (by decide)) CH_29)
 have F_48 : Fld Z h_40 d "java/lang/Throwable" "suppressedExceptions" "Ljava/util/List;" sS := F_37.same W_43
 have hT_59 : ThS Z (s.setVm s.vm).heap := by show ThS Z s.heap; rw [hh]; exact ThS.ext X00.2 ThS.start
 have hz_60 : h_40.size = (s.setVm s.vm).heap.size := ((own_wrsz W_43).trans ((own_wrsz W_26).trans ((own_wrsz W_9).trans (by show h0.size = s.heap.size; rw [hh]))))
 have F_61 : Fld Z h_40 d "java/lang/Throwable" "stackTrace" "[Ljava/lang/StackTraceElement;" uS := (F_31.other W_43 (Or.inr (slot_ne (Or.inl (w198 hw)) (Or.inl (w201 hw)) (by decide) (t := (.array (.object "java/lang/StackTraceElement"))) (by decide) (t' := (.object "java/util/List")) (by decide))))
 have F_62 : Fld Z h_40 d "java/lang/Throwable" "backtrace" "Ljava/lang/Object;" .null := (((hp5.other W_9 (Or.inr (slot_ne (Or.inl (w226 hw)) (Or.inl (w195 hw)) (by decide) (t := (.object "java/lang/Object")) (by decide) (t' := (.object "java/lang/Throwable")) (by decide)))).other W_26 (Or.inr (slot_ne (Or.inl (w226 hw)) (Or.inl (w198 hw)) (by decide) (t := (.object "java/lang/Object")) (by decide) (t' := (.array (.object "java/lang/StackTraceElement"))) (by decide)))).other W_43 (Or.inr (slot_ne (Or.inl (w226 hw)) (Or.inl (w201 hw)) (by decide) (t := (.object "java/lang/Object")) (by decide) (t' := (.object "java/util/List")) (by decide))))
 have E_63 : Exa Z h_40 d "com/example/claimgate/claimgate/config/ConfigException" := (E_38.wr W_43)
 have U_64 : Unt h_40 d := (Unt.wr W_43 (Unt.wr W_26 (Unt.wr W_9 hp1)))
 have O_65 : Old Z n0 h_40 := (O_36.wr W_43 hp7)
 obtain ⟨T_49, h_50, v_51, X_52, e_53, Kp_54, E_55, U_56, M_57, st_58⟩ := own_fillL X_41 hx hLT hZ hown (own_exw_C hw) (w45 hw) hT_59 hTK0 hBL0 e_42 hz_60 (own_bases3 rfl) E_63 U_64 rU F_61 (OU.ext O_65.2) F_62 (g := (mkF m 24 #[VR d, VR r] [(.ref d)])) rfl (by rw [hml]; rfl) rfl (hb hby d39_24) (by decide) (by show 2 * 0 + _ + _ ≤ _; decide) (by decide) (by decide)
 have N_66 := Fr.six (Z := Z) N_45 hp7
 have CH_67 : CHv Z consts_1 s.vm h_50 := CHv.keep (keep_of_kp Kp_54) (sfS (Safe.exa hZ.alike E_63 (by decide) (by decide)) sf0) CH_46
 have CR_68 : CHr Z consts_1 s.vm h0 s.vm h_50 := CR_47.trans (CHr.keep (keep_of_kp Kp_54) (sfS (Safe.exa hZ.alike E_63 (by decide) (by decide)) sf0) CH_46)
 obtain ⟨T_69, h_70, X_71, e_72, W_73, st_74⟩ := putF X_52 hx hZ hown (host := "") (Or.inl (w229 hw)) Via.refl e_53 M_57 E_55 (Or.inl (w225 hw)) (w45 hw) (ty := (.object "java/lang/String")) (by decide) rfl rfl (g := (mkF m 30 #[VR d, VR r] [(.ref r), (.ref d)])) rfl rfl (hb hby d39_30)
 have N_75 := Fr.snoc X_71 N_66 hp7
 have CH_76 : CHv Z consts_1 s.vm h_70 := CHv.wr W_73 (Safe.exa hZ.alike E_55 (by decide) (by decide)) CH_67
 have CR_77 : CHr Z consts_1 s.vm h0 s.vm h_70 := CR_68.trans (CHr.wr W_73 (Safe.exa hZ.alike E_55 (by decide) (by decide)) CH_67)
 have F_78 : Fld Z h_70 d "java/lang/Throwable" "detailMessage" "Ljava/lang/String;" (.ref r) := M_57.same W_73
 have C_79 : Steps p.tables e below S0 (T_69.setTop (mkF m 33 #[VR d, VR r] [])) := by
  refine C0.trans ?_
  refine XS.aloadN X0.here hx rfl (hb hby d39_0) rfl rfl ?_
  refine st_4 _ ?_
  refine XS.aloadN X_2.here hx rfl (hb hby d39_4) rfl rfl ?_
  refine XS.aloadN X_2.here hx rfl (hb hby d39_5) rfl rfl ?_
  refine st_10 _ ?_
  refine XS.aloadN X_7.here hx rfl (hb hby d39_9) rfl rfl ?_
  refine st_18 _ ?_
  refine st_27 _ ?_
  show Steps p.tables e below (T_22.setTop (mkF m 16 #[VR d, VR r] [])) _
  refine XS.aloadN X_24.here hx rfl (hb hby d39_16) rfl rfl ?_
  refine st_35 _ ?_
  refine st_44 _ ?_
  refine XS.aloadN X_41.here hx rfl (hb hby d39_23) rfl rfl ?_
  refine st_58 _ ?_
  refine XS.pop X_52.here hx rfl (hb hby d39_27) rfl rfl ?_
  refine XS.aloadN X_52.here hx rfl (hb hby d39_28) rfl rfl ?_
  refine XS.aloadN X_52.here hx rfl (hb hby d39_29) rfl rfl ?_
  show Steps p.tables e below (T_49.setTop (mkF m 30 #[VR d, VR r] [(.ref r), (.ref d)])) _
  refine st_74 _ ?_
  exact Steps.refl _
 have E_80 : Exa Z h_70 d "com/example/claimgate/claimgate/config/ConfigException" := (E_55.wr W_73)
 have K_81 : Keep h0 h_70 [d] := ((((((Keep.refl _ _).wr W_9 (Or.inl (List.mem_of_getElem? (i := 0) rfl))).wr W_26 (Or.inl (List.mem_of_getElem? (i := 0) rfl))).wr W_43 (Or.inl (List.mem_of_getElem? (i := 0) rfl))).trans (keep_of_kp Kp_54) (allS (Or.inl (List.mem_of_getElem? (i := 0) rfl)) all0)).wr W_73 (Or.inl (List.mem_of_getElem? (i := 0) rfl)))
 obtain ⟨fs, hr, hrun, hended, hRE⟩ := X_71.leaveW hS0 (by rw [show T_69.heap = h_70 from e_72]; exact (Nat.le_trans (Nat.le_refl _) (Nat.le_trans (Nat.le_trans (Nat.le_trans (Nat.le_trans (Keep.of_wr W_9).1 (Keep.of_wr W_26).1) (Keep.of_wr W_43).1) Kp_54.1) (Keep.of_wr W_73).1))) (v := none) (fun _ => rfl)
 refine ⟨_, _, C_79.trans (X_71.returnOut hx Bd.returns (hb hby d39_33) hr), hrun, hended, _, _, rfl, ?_, ?_, hRE.1, hRE.2.1, hRE.2.2.1, hRE.2.2.2.mono (by decide) (by decide)⟩
 ·show Q_thi Z G1 G3 g1 kg1 g2 kg2 uS sS d r h0 n0 (none) T_69.heap _
  rw [e_72]
  exact ⟨rfl, N_75, K_81, E_80, F_78⟩
 ·show CHr Z consts_1 s.vm s.heap T_69.vm T_69.heap
  rw [hh, show T_69.heap = h_70 from e_72]
  exact CR_77.trans (CHv.at X_71 hZ hEL CH_76)
abbrev M829 : MethodName := ⟨"java/lang/Exception", "<init>", "(Ljava/lang/String;)V"⟩
theorem pn_830 : plainName "java/lang/Exception" = true := by first | (simp [plainName, overriddenIn]; done) | decide +kernel
theorem d40_0 : decode jdk_59_method_2_code 0 = .ok (.aload_n 0, 1) := by decide +kernel
theorem d40_1 : decode jdk_59_method_2_code 1 = .ok (.aload_n 1, 1) := by decide +kernel
theorem w192 {Z a0} (hw : HW Z a0) : Cond.before (Cond.code (⟨"java/lang/Throwable", "<init>", "(Ljava/lang/String;)V"⟩ : MethodName) jdk_78_method_2_code (2 : Nat) (Option.none : Option FieldType)) a0 Z = true := hw _ (List.mem_of_getElem? (i := 192) rfl)
theorem w191 {Z a0} (hw : HW Z a0) : Cond.before (Cond.initialized "java/lang/Throwable") a0 Z = true := hw _ (List.mem_of_getElem? (i := 191) rfl)
theorem d40_2 : decode jdk_59_method_2_code 2 = .ok (.invokespecial 7, 3) := by decide +kernel
theorem w187 {Z a0} (hw : HW Z a0) : Cond.before (Cond.methodLink "java/lang/Exception" (7 : Nat) (⟨"java/lang/Throwable", "<init>", "(Ljava/lang/String;)V"⟩ : MethodName)) a0 Z = true := hw _ (List.mem_of_getElem? (i := 187) rfl)
theorem w188 {Z a0} (hw : HW Z a0) : Cond.before (Cond.instanceMethod (⟨"java/lang/Throwable", "<init>", "(Ljava/lang/String;)V"⟩ : MethodName)) a0 Z = true := hw _ (List.mem_of_getElem? (i := 188) rfl)
theorem d40_5 : decode jdk_59_method_2_code 5 = .ok (.return_, 1) := by decide +kernel
abbrev R_ex0 : Room := { frames := 4, cells := 1, slots := 2752, locals := 55 }
def Q_ex0 (Z : State) (G1 : Int32) (G3 : Value) (g1 : Addr) (kg1 : ClassId) (g2 : Addr) (kg2 : ClassId) (uS : Value) (sS : Value) (d : Addr) (r : Addr) (h0 : Heap) (n0 : Nat) (v : Option Value) (h : Heap) (L : List Loc) : Prop := (v = none ∧ Fr n0 L ∧ Keep h0 h [d] ∧ (Exa Z h d "com/example/claimgate/claimgate/config/ConfigException") ∧ (Fld Z h d "java/lang/Throwable" "detailMessage" "Ljava/lang/String;" (.ref r)))
theorem rm_ex0 (l : Launch) (Z : State) (a0 : Array Value) (hw : HW Z a0) (ws : List Jvm.Cond) (G1 : Int32) (G3 : Value) (g1 : Addr) (kg1 : ClassId) (g2 : Addr) (kg2 : ClassId) (uS : Value) (sS : Value) (HG : own_G l Z a0 G1 G3 g1 kg1 g2 kg2 uS sS) (h0 : Heap) (n0 : Nat) (X00 : Old Z n0 h0) (d : Addr) (r : Addr) (hp0 : Exa Z h0 d "com/example/claimgate/claimgate/config/ConfigException") (hp1 : Unt h0 d) (hp2 : Fld Z h0 d "java/lang/Throwable" "cause" "Ljava/lang/Throwable;" .null) (hp3 : Fld Z h0 d "java/lang/Throwable" "stackTrace" "[Ljava/lang/StackTraceElement;" .null) (hp4 : Fld Z h0 d "java/lang/Throwable" "suppressedExceptions" "Ljava/util/List;" .null) (hp5 : Fld Z h0 d "java/lang/Throwable" "backtrace" "Ljava/lang/Object;" .null) (hp6 : Fld Z h0 d "java/lang/Throwable" "detailMessage" "Ljava/lang/String;" .null) (hp7 : n0 ≤ d) :
  own_CK l Z M829 jdk_59_method_2_code 2 none ws R_ex0 #[(.ref d), (.ref r)] h0 (Q_ex0 Z G1 G3 g1 kg1 g2 kg2 uS sS d r h0 n0) := by
 refine own_K (plainFor_of_name pn_830) ?_
 intro p e s m below meth c s₁ S0 Bd hZ hh CH0 hS0 CR0 hTK0 hBL0 hx hby hml hown hnm X0 e0 hS0d
 obtain ⟨O1, P1, O3f, rG3, Sg1, Dg1, Sg2, Dg2, hLT, OU, rU, OS, rS⟩ := id HG
 have hEL := own_EL hw
 have hSA := own_SA hw
 have N0 := Fr.nil n0
 have C0 : Steps p.tables e below S0 (s₁.setTop (mkF m 0 #[VR d, VR r] [])) := by rw [hS0d]; exact castTop (ef_100 m d r) (Steps.refl _)
 obtain ⟨_, _, ⟨T_1, L_1, k_1, n_1⟩, -, Y_1, S_1, G_1, ⟨Lc_1, hQ_1, l_1, y_1, z_1, R_1⟩, st_1⟩ := X0.specialBackS hx (y := M796) rfl hown (mvT hZ (w187 hw)) (mvT hZ (w188 hw)) (mvT hZ (w192 hw)) (by decide) (backOfSKH (vm0 := s.vm) (W := 0) (rm_thi l Z a0 hw [] G1 G3 g1 kg1 g2 kg2 uS sS HG h0 n0 X00 d r hp0 hp1 hp2 hp3 hp4 hp5 hp6 hp7) hZ (w192 hw) (w191 hw) (by decide) (by decide) hEL CH0 hTK0 hBL0) (g := (mkF m 2 #[VR d, VR r] [(.ref r), (.ref d)])) rfl (by rw [hml]; rfl) (Steps.refl _) (a := d) (argsL := [(.ref r)]) (rest := []) (lenOf pd_292 rfl) rfl (by show 2 * 0 + _ ≤ _; exact Nat.le_of_eq rfl) (hb hby d40_2) (fun _ _ => ⟨rfl, e0, (by decide : 0 + 1 ≤ _), (by decide : 0 + 2752 ≤ _)⟩)
 dsimp only [Pt.U, Pt.locs, Pt.cells, Pt.slots] at Y_1 S_1 G_1 l_1 y_1 z_1 st_1 hQ_1 R_1
 have Y_1 := own_cast Y_1 l_1 y_1 z_1
 obtain ⟨X_1, hS_1, hZ_1, hown_1⟩ := rebS hS0 (n1 := s₁.heap.size) (by rw [show s₁.heap = h0 from e0]; exact (Nat.le_refl _)) Y_1 S_1 G_1 hZ hown
 obtain ⟨rfl, N_2, K_3, g_4, g_5⟩ := hQ_1
 have N_6 := Fr.app N0 N_2
 have CH_7 : CHv Z consts_1 T_1.vm T_1.heap := R_1.1
 have CR_8 : CHr Z consts_1 s.vm h0 T_1.vm T_1.heap := CR0.trans R_1
 have hTK_9 : (s.setVm T_1.vm).vm.MethodsKnown := Vm.MethodsKnown.alikeC (hS_1.1.alike) hTK0
 have hBL_10 : (s.setVm T_1.vm).vm.FramesKnown below := Vm.FramesKnown.alikeC (hS_1.1.alike) hBL0
 have C_11 : Steps p.tables e below S0 (T_1.setTop (mkF m 5 #[VR d, VR r] [])) := by
  refine C0.trans ?_
  refine XS.aloadN X0.here hx rfl (hb hby d40_0) rfl rfl ?_
  refine XS.aloadN X0.here hx rfl (hb hby d40_1) rfl rfl ?_
  refine st_1.trans ?_
  exact Steps.refl _
 have K_12 : Keep h0 T_1.heap [d] := ((Keep.refl _ _).trans K_3 (allS (Or.inl (List.mem_of_getElem? (i := 0) rfl)) all0))
 obtain ⟨fs, hr, hrun, hended, hRE⟩ := X_1.leaveW hS_1 (by rw [show T_1.heap = T_1.heap from rfl]; exact (Nat.le_refl _)) (v := none) (fun _ => rfl)
 refine ⟨_, _, C_11.trans (X_1.returnOut hx Bd.returns (hb hby d40_5) hr), hrun, hended, _, _, rfl, ?_, ?_, hRE.1, hRE.2.1, hRE.2.2.1, hRE.2.2.2.mono (by decide) (by decide)⟩
 ·show Q_ex0 Z G1 G3 g1 kg1 g2 kg2 uS sS d r h0 n0 (none) T_1.heap _
  exact ⟨rfl, N_6, K_12, g_4, g_5⟩
 ·show CHr Z consts_1 s.vm s.heap T_1.vm T_1.heap
  rw [hh]
  exact CR_8.trans (CHv.at X_1 hZ_1 hEL CH_7)
abbrev M839 : MethodName := ⟨"java/lang/Throwable", "getMessage", "()Ljava/lang/String;"⟩
theorem d41_0 : decode jdk_78_method_6_code 0 = .ok (.aload_n 0, 1) := by decide +kernel
theorem d41_1 : decode jdk_78_method_6_code 1 = .ok (.getfield 31, 3) := by decide +kernel
theorem d41_4 : decode jdk_78_method_6_code 4 = .ok (.areturn, 1) := by decide +kernel
abbrev R_getmsg : Room := { frames := 0, cells := 0, slots := 0, locals := 0 }
def Q_getmsg (Z : State) (G1 : Int32) (G3 : Value) (g1 : Addr) (kg1 : ClassId) (g2 : Addr) (kg2 : ClassId) (uS : Value) (sS : Value) (d : Addr) (r : Addr) (h0 : Heap) (n0 : Nat) (v : Option Value) (h : Heap) (L : List Loc) : Prop := (v = some (.ref r) ∧ Fr n0 L ∧ h = h0)
theorem rm_getmsg (l : Launch) (Z : State) (a0 : Array Value) (hw : HW Z a0) (ws : List Jvm.Cond) (G1 : Int32) (G3 : Value) (g1 : Addr) (kg1 : ClassId) (g2 : Addr) (kg2 : ClassId) (uS : Value) (sS : Value) (HG : own_G l Z a0 G1 G3 g1 kg1 g2 kg2 uS sS) (h0 : Heap) (n0 : Nat) (X00 : Old Z n0 h0) (d : Addr) (r : Addr) (hp0 : Fld Z h0 d "java/lang/Throwable" "detailMessage" "Ljava/lang/String;" (.ref r)) :
  own_CP l Z M839 jdk_78_method_6_code 1 (some (.object "java/lang/String")) ws R_getmsg #[(.ref d)] h0 (Q_getmsg Z G1 G3 g1 kg1 g2 kg2 uS sS d r h0 n0) := by
 refine own_P (plainFor_of_name pn_797) ?_
 intro p e s m below meth c s₁ S0 Bd hZ hh hx hby hml hown hnm X0 e0 hS0d
 obtain ⟨O1, P1, O3f, rG3, Sg1, Dg1, Sg2, Dg2, hLT, OU, rU, OS, rS⟩ := id HG
 have N0 := Fr.nil n0
 have C0 : Steps p.tables e below S0 (s₁.setTop (mkF m 0 #[VR d] [])) := by rw [hS0d]; exact castTop (ef_115 m d) (Steps.refl _)
 obtain ⟨T_1, X_2, e_3, st_4⟩ := getF X0 hx hZ hown (host := "") (Or.inl (w229 hw)) Via.refl e0 hp0 (g := (mkF m 1 #[VR d] [(.ref d)])) rfl rfl (hb hby d41_1)
 have C_5 : Steps p.tables e below S0 (T_1.setTop (mkF m 4 #[VR d] [(.ref r)])) := by
  refine C0.trans ?_
  refine XS.aloadN X0.here hx rfl (hb hby d41_0) rfl rfl ?_
  refine st_4 _ ?_
  exact Steps.refl _
 obtain ⟨fs, hr, hrun, hended, hW, hsame⟩ := X_2.leave (v := some (.ref r)) (fun h => by rw [Bd.returns] at h; cases h)
 refine ⟨_, _, C_5.trans (retOut X_2 hx Bd.returns rfl (Or.inr (Or.inr (Or.inr (Or.inr ⟨rfl, rfl, rfl⟩)))) (hb hby d41_4) hr), hrun, hended, _, _, rfl, ?_, ⟨_, rfl⟩, hW, hsame.mono (by decide) (by decide)⟩
 show Q_getmsg Z G1 G3 g1 kg1 g2 kg2 uS sS d r h0 n0 (some (.ref r)) T_1.heap _
 rw [e_3]
 exact ⟨rfl, N0, rfl⟩
abbrev M843 : MethodName := ⟨"com/example/claimgate/claimgate/config/ConfigException", "<init>", "(Ljava/lang/String;ILjava/lang/String;)V"⟩
theorem ef_844 (m : MethodId) (x0 : Addr) (x1 : Addr) (x2 : Int32) (x3 : Addr) : entryFrame m #[(.ref x0), (.ref x1), (.int x2), (.ref x3)] 4 = mkF m 0 #[VR x0, VR x1, VI x2, VR x3] [] := by first | (simp [entryFrame, mkF, argsToLocals, Value.category]; done) | rfl
theorem pn_845 : plainName "com/example/claimgate/claimgate/config/ConfigException" = true := by first | (simp [plainName, overriddenIn]; done) | decide +kernel
theorem d42_0 : decode prog_18_method_1_code 0 = .ok (.aload_n 0, 1) := by decide +kernel
theorem w50 {Z a0} (hw : HW Z a0) : Cond.before (Cond.classLink "com/example/claimgate/claimgate/config/ConfigException" (1 : Nat) "java/lang/StringBuilder") a0 Z = true := hw _ (List.mem_of_getElem? (i := 50) rfl)
theorem d42_1 : decode prog_18_method_1_code 1 = .ok (.new 1, 3) := by decide +kernel
theorem d42_4 : decode prog_18_method_1_code 4 = .ok (.dup, 1) := by decide +kernel
theorem w55 {Z a0} (hw : HW Z a0) : Cond.before (Cond.code (⟨"java/lang/StringBuilder", "<init>", "()V"⟩ : MethodName) jdk_67_method_1_code (1 : Nat) (Option.none : Option FieldType)) a0 Z = true := hw _ (List.mem_of_getElem? (i := 55) rfl)
theorem pd_851 : parseMethodDescriptor "()V" = some ⟨[], none⟩ := by decide +kernel
theorem d42_5 : decode prog_18_method_1_code 5 = .ok (.invokespecial 3, 3) := by decide +kernel
theorem w53 {Z a0} (hw : HW Z a0) : Cond.before (Cond.methodLink "com/example/claimgate/claimgate/config/ConfigException" (3 : Nat) (⟨"java/lang/StringBuilder", "<init>", "()V"⟩ : MethodName)) a0 Z = true := hw _ (List.mem_of_getElem? (i := 53) rfl)
theorem w54 {Z a0} (hw : HW Z a0) : Cond.before (Cond.instanceMethod (⟨"java/lang/StringBuilder", "<init>", "()V"⟩ : MethodName)) a0 Z = true := hw _ (List.mem_of_getElem? (i := 54) rfl)
theorem d42_8 : decode prog_18_method_1_code 8 = .ok (.aload_n 1, 1) := by decide +kernel
theorem w72 {Z a0} (hw : HW Z a0) : Cond.before (Cond.code (⟨"java/lang/StringBuilder", "append", "(Ljava/lang/String;)Ljava/lang/StringBuilder;"⟩ : MethodName) jdk_67_method_7_code (2 : Nat) (Option.some (FieldType.object "java/lang/StringBuilder"))) a0 Z = true := hw _ (List.mem_of_getElem? (i := 72) rfl)
theorem pd_857 : parseMethodDescriptor "(Ljava/lang/String;)Ljava/lang/StringBuilder;" = some ⟨[(.object "java/lang/String")], some (.object "java/lang/StringBuilder")⟩ := by decide +kernel
theorem d42_9 : decode prog_18_method_1_code 9 = .ok (.invokevirtual 7, 3) := by decide +kernel
theorem w68 {Z a0} (hw : HW Z a0) : Cond.before (Cond.methodLink "com/example/claimgate/claimgate/config/ConfigException" (7 : Nat) (⟨"java/lang/StringBuilder", "append", "(Ljava/lang/String;)Ljava/lang/StringBuilder;"⟩ : MethodName)) a0 Z = true := hw _ (List.mem_of_getElem? (i := 68) rfl)
theorem w71 {Z a0} (hw : HW Z a0) : Cond.before (Cond.selects "java/lang/StringBuilder" (⟨"java/lang/StringBuilder", "append", "(Ljava/lang/String;)Ljava/lang/StringBuilder;"⟩ : MethodName) (⟨"java/lang/StringBuilder", "append", "(Ljava/lang/String;)Ljava/lang/StringBuilder;"⟩ : MethodName)) a0 Z = true := hw _ (List.mem_of_getElem? (i := 71) rfl)
theorem w70 {Z a0} (hw : HW Z a0) : Cond.before (Cond.instanceMethod (⟨"java/lang/StringBuilder", "append", "(Ljava/lang/String;)Ljava/lang/StringBuilder;"⟩ : MethodName)) a0 Z = true := hw _ (List.mem_of_getElem? (i := 70) rfl)
theorem w69 {Z a0} (hw : HW Z a0) : Cond.before (Cond.declares (⟨"java/lang/StringBuilder", "append", "(Ljava/lang/String;)Ljava/lang/StringBuilder;"⟩ : MethodName)) a0 Z = true := hw _ (List.mem_of_getElem? (i := 69) rfl)
theorem d42_12 : decode prog_18_method_1_code 12 = .ok (.iload_n 2, 1) := by decide +kernel
theorem d42_13 : decode prog_18_method_1_code 13 = .ok (.ifCond .le 25, 3) := by decide +kernel
theorem d42_16 : decode prog_18_method_1_code 16 = .ok (.new 1, 3) := by decide +kernel
theorem d42_19 : decode prog_18_method_1_code 19 = .ok (.dup, 1) := by decide +kernel
theorem d42_20 : decode prog_18_method_1_code 20 = .ok (.invokespecial 3, 3) := by decide +kernel
theorem w115 {Z a0} (hw : HW Z a0) : Cond.before (Cond.stringLink "com/example/claimgate/claimgate/config/ConfigException" (11 : Nat) ":") a0 Z = true := hw _ (List.mem_of_getElem? (i := 115) rfl)
theorem d42_23 : decode prog_18_method_1_code 23 = .ok (.ldc 11, 2) := by decide +kernel
theorem d42_25 : decode prog_18_method_1_code 25 = .ok (.invokevirtual 7, 3) := by decide +kernel
theorem d42_28 : decode prog_18_method_1_code 28 = .ok (.iload_n 2, 1) := by decide +kernel
theorem w122 {Z a0} (hw : HW Z a0) : Cond.before (Cond.code (⟨"java/lang/StringBuilder", "append", "(I)Ljava/lang/StringBuilder;"⟩ : MethodName) jdk_67_method_15_code (2 : Nat) (Option.some (FieldType.object "java/lang/StringBuilder"))) a0 Z = true := hw _ (List.mem_of_getElem? (i := 122) rfl)
theorem pd_873 : parseMethodDescriptor "(I)Ljava/lang/StringBuilder;" = some ⟨[.int], some (.object "java/lang/StringBuilder")⟩ := by decide +kernel
theorem d42_29 : decode prog_18_method_1_code 29 = .ok (.invokevirtual 13, 3) := by decide +kernel
theorem w118 {Z a0} (hw : HW Z a0) : Cond.before (Cond.methodLink "com/example/claimgate/claimgate/config/ConfigException" (13 : Nat) (⟨"java/lang/StringBuilder", "append", "(I)Ljava/lang/StringBuilder;"⟩ : MethodName)) a0 Z = true := hw _ (List.mem_of_getElem? (i := 118) rfl)
theorem w121 {Z a0} (hw : HW Z a0) : Cond.before (Cond.selects "java/lang/StringBuilder" (⟨"java/lang/StringBuilder", "append", "(I)Ljava/lang/StringBuilder;"⟩ : MethodName) (⟨"java/lang/StringBuilder", "append", "(I)Ljava/lang/StringBuilder;"⟩ : MethodName)) a0 Z = true := hw _ (List.mem_of_getElem? (i := 121) rfl)
theorem w120 {Z a0} (hw : HW Z a0) : Cond.before (Cond.instanceMethod (⟨"java/lang/StringBuilder", "append", "(I)Ljava/lang/StringBuilder;"⟩ : MethodName)) a0 Z = true := hw _ (List.mem_of_getElem? (i := 120) rfl)
theorem w119 {Z a0} (hw : HW Z a0) : Cond.before (Cond.declares (⟨"java/lang/StringBuilder", "append", "(I)Ljava/lang/StringBuilder;"⟩ : MethodName)) a0 Z = true := hw _ (List.mem_of_getElem? (i := 119) rfl)
theorem w144 {Z a0} (hw : HW Z a0) : Cond.before (Cond.code (⟨"java/lang/StringBuilder", "toString", "()Ljava/lang/String;"⟩ : MethodName) jdk_67_method_42_code (1 : Nat) (Option.some (FieldType.object "java/lang/String"))) a0 Z = true := hw _ (List.mem_of_getElem? (i := 144) rfl)
theorem pd_880 : parseMethodDescriptor "()Ljava/lang/String;" = some ⟨[], some (.object "java/lang/String")⟩ := by decide +kernel
theorem d42_32 : decode prog_18_method_1_code 32 = .ok (.invokevirtual 16, 3) := by decide +kernel
theorem w140 {Z a0} (hw : HW Z a0) : Cond.before (Cond.methodLink "com/example/claimgate/claimgate/config/ConfigException" (16 : Nat) (⟨"java/lang/StringBuilder", "toString", "()Ljava/lang/String;"⟩ : MethodName)) a0 Z = true := hw _ (List.mem_of_getElem? (i := 140) rfl)
theorem w143 {Z a0} (hw : HW Z a0) : Cond.before (Cond.selects "java/lang/StringBuilder" (⟨"java/lang/StringBuilder", "toString", "()Ljava/lang/String;"⟩ : MethodName) (⟨"java/lang/StringBuilder", "toString", "()Ljava/lang/String;"⟩ : MethodName)) a0 Z = true := hw _ (List.mem_of_getElem? (i := 143) rfl)
theorem w142 {Z a0} (hw : HW Z a0) : Cond.before (Cond.instanceMethod (⟨"java/lang/StringBuilder", "toString", "()Ljava/lang/String;"⟩ : MethodName)) a0 Z = true := hw _ (List.mem_of_getElem? (i := 142) rfl)
theorem w141 {Z a0} (hw : HW Z a0) : Cond.before (Cond.declares (⟨"java/lang/StringBuilder", "toString", "()Ljava/lang/String;"⟩ : MethodName)) a0 Z = true := hw _ (List.mem_of_getElem? (i := 141) rfl)
theorem d42_35 : decode prog_18_method_1_code 35 = .ok (.goto 5, 3) := by decide +kernel
theorem d42_40 : decode prog_18_method_1_code 40 = .ok (.invokevirtual 7, 3) := by decide +kernel
theorem w181 {Z a0} (hw : HW Z a0) : Cond.before (Cond.stringLink "com/example/claimgate/claimgate/config/ConfigException" (22 : Nat) ": ") a0 Z = true := hw _ (List.mem_of_getElem? (i := 181) rfl)
theorem d42_43 : decode prog_18_method_1_code 43 = .ok (.ldc 22, 2) := by decide +kernel
theorem d42_45 : decode prog_18_method_1_code 45 = .ok (.invokevirtual 7, 3) := by decide +kernel
theorem d42_48 : decode prog_18_method_1_code 48 = .ok (.aload_n 3, 1) := by decide +kernel
theorem d42_49 : decode prog_18_method_1_code 49 = .ok (.invokevirtual 7, 3) := by decide +kernel
theorem d42_52 : decode prog_18_method_1_code 52 = .ok (.invokevirtual 16, 3) := by decide +kernel
theorem w186 {Z a0} (hw : HW Z a0) : Cond.before (Cond.code (⟨"java/lang/Exception", "<init>", "(Ljava/lang/String;)V"⟩ : MethodName) jdk_59_method_2_code (2 : Nat) (Option.none : Option FieldType)) a0 Z = true := hw _ (List.mem_of_getElem? (i := 186) rfl)
theorem w185 {Z a0} (hw : HW Z a0) : Cond.before (Cond.initialized "java/lang/Exception") a0 Z = true := hw _ (List.mem_of_getElem? (i := 185) rfl)
theorem d42_55 : decode prog_18_method_1_code 55 = .ok (.invokespecial 24, 3) := by decide +kernel
theorem w182 {Z a0} (hw : HW Z a0) : Cond.before (Cond.methodLink "com/example/claimgate/claimgate/config/ConfigException" (24 : Nat) (⟨"java/lang/Exception", "<init>", "(Ljava/lang/String;)V"⟩ : MethodName)) a0 Z = true := hw _ (List.mem_of_getElem? (i := 182) rfl)
theorem w183 {Z a0} (hw : HW Z a0) : Cond.before (Cond.instanceMethod (⟨"java/lang/Exception", "<init>", "(Ljava/lang/String;)V"⟩ : MethodName)) a0 Z = true := hw _ (List.mem_of_getElem? (i := 183) rfl)
theorem d42_58 : decode prog_18_method_1_code 58 = .ok (.return_, 1) := by decide +kernel
theorem w284 {Z a0} (hw : HW Z a0) : Cond.before (Cond.stringLink "com/example/claimgate/claimgate/config/ConfigException" (20 : Nat) "") a0 Z = true := hw _ (List.mem_of_getElem? (i := 284) rfl)
theorem d42_38 : decode prog_18_method_1_code 38 = .ok (.ldc 20, 2) := by decide +kernel
abbrev R_cei : Room := { frames := 6, cells := 14, slots := 2922, locals := 93 }
def Q_cei (Z : State) (G1 : Int32) (G3 : Value) (g1 : Addr) (kg1 : ClassId) (g2 : Addr) (kg2 : ClassId) (uS : Value) (sS : Value) (d : Addr) (x : Addr) (t : Addr) (kt : ClassId) (c0 : Int32) (c1 : Int32) (ii : Int32) (y : Addr) (u : Addr) (ku : ClassId) (d0 : Int32) (d1 : Int32) (h0 : Heap) (n0 : Nat) (v : Option Value) (h : Heap) (L : List Loc) : Prop := (∃ rs : Addr, ∃ w : Addr, ∃ kw : ClassId, v = none ∧ Fr n0 L ∧ Keep h0 h [d] ∧ (Exa Z h d "com/example/claimgate/claimgate/config/ConfigException") ∧ (Fld Z h d "java/lang/Throwable" "detailMessage" "Ljava/lang/String;" (.ref rs)) ∧ (Exa Z h rs "java/lang/String") ∧ (Fld Z h rs "java/lang/String" "coder" "B" (.int 0)) ∧ (Fld Z h rs "java/lang/String" "value" "[B" (.ref w)) ∧ (Arv Z h w kw .byte (own_tl ii) (own_iv (own_bs (own_tx c0 c1 ii d0 d1))) (.int 0)))
theorem rm_cei (l : Launch) (Z : State) (a0 : Array Value) (hw : HW Z a0) (ws : List Jvm.Cond) (G1 : Int32) (G3 : Value) (g1 : Addr) (kg1 : ClassId) (g2 : Addr) (kg2 : ClassId) (uS : Value) (sS : Value) (HG : own_G l Z a0 G1 G3 g1 kg1 g2 kg2 uS sS) (h0 : Heap) (n0 : Nat) (X00 : Old Z n0 h0) (d : Addr) (x : Addr) (t : Addr) (kt : ClassId) (c0 : Int32) (c1 : Int32) (ii : Int32) (y : Addr) (u : Addr) (ku : ClassId) (d0 : Int32) (d1 : Int32) (hp0 : Exa Z h0 d "com/example/claimgate/claimgate/config/ConfigException") (hp1 : Unt h0 d) (hp2 : Fld Z h0 d "java/lang/Throwable" "cause" "Ljava/lang/Throwable;" .null) (hp3 : Fld Z h0 d "java/lang/Throwable" "stackTrace" "[Ljava/lang/StackTraceElement;" .null) (hp4 : Fld Z h0 d "java/lang/Throwable" "suppressedExceptions" "Ljava/util/List;" .null) (hp5 : Fld Z h0 d "java/lang/Throwable" "backtrace" "Ljava/lang/Object;" .null) (hp6 : Fld Z h0 d "java/lang/Throwable" "detailMessage" "Ljava/lang/String;" .null) (hp7 : n0 ≤ d) (hp8 : Exa Z h0 x "java/lang/String") (hp9 : Fld Z h0 x "java/lang/String" "coder" "B" (.int 0)) (hp10 : Fld Z h0 x "java/lang/String" "value" "[B" (.ref t)) (hp11 : Arv Z h0 t kt .byte (2 : Int32) (own_iv [(own_lo8 c0), (own_lo8 c1)]) (.int 0)) (hp12 : Exa Z h0 y "java/lang/String") (hp13 : Fld Z h0 y "java/lang/String" "coder" "B" (.int 0)) (hp14 : Fld Z h0 y "java/lang/String" "value" "[B" (.ref u)) (hp15 : Arv Z h0 u ku .byte (2 : Int32) (own_iv [(own_lo8 d0), (own_lo8 d1)]) (.int 0)) (hp16 : d ≠ x) (hp17 : d ≠ y) :
  own_CK l Z M843 prog_18_method_1_code 4 none ws R_cei #[(.ref d), (.ref x), (.int ii), (.ref y)] h0 (Q_cei Z G1 G3 g1 kg1 g2 kg2 uS sS d x t kt c0 c1 ii y u ku d0 d1 h0 n0) := by
 refine own_K (plainFor_of_name pn_845) ?_
 intro p e s m below meth c s₁ S0 Bd hZ hh CH0 hS0 CR0 hTK0 hBL0 hx hby hml hown hnm X0 e0 hS0d
 obtain ⟨O1, P1, O3f, rG3, Sg1, Dg1, Sg2, Dg2, hLT, OU, rU, OS, rS⟩ := id HG
 have hEL := own_EL hw
 have hSA := own_SA hw
 have N0 := Fr.nil n0
 have C0 : Steps p.tables e below S0 (s₁.setTop (mkF m 0 #[VR d, VR x, VI ii, VR y] [])) := by rw [hS0d]; exact castTop (ef_844 m d x ii y) (Steps.refl _)
 have hdr := own_dnr ii
 obtain ⟨T_1, h_2, X_3, e_4, E_5, A_6, D_7, U_11, st_8⟩ := newO X0 hx hZ hown (w50 hw) (w51 hw) (w52 hw) e0 (g := (mkF m 1 #[VR d, VR x, VI ii, VR y] [(.ref d)])) rfl (hb hby d42_1) (by decide) (by decide)
 obtain ⟨a_9, g_10⟩ : ∃ z, z = h0.size := ⟨_, rfl⟩
 rw [← g_10] at A_6 D_7 st_8 U_11
 have CH_12 : CHv Z consts_1 s.vm h_2 := CHv.ext E_5 CH0
 have CR_13 : CHr Z consts_1 s.vm h0 s.vm h_2 := CR0.trans (CHr.ext E_5 CH0)
 have O_14 : Old Z n0 h_2 := (X00.ext E_5)
 obtain ⟨_, _, ⟨T_15, L_15, k_15, n_15⟩, -, X_15, ⟨Lc_15, hQ_15, l_15, y_15, z_15⟩, st_15⟩ := X_3.specialBack hx (y := M229) rfl hown (mvT hZ (w53 hw)) (mvT hZ (w54 hw)) (mvT hZ (w55 hw)) (by decide) (backOf (W := 2) (rm_sbi l Z a0 hw [] G1 G3 g1 kg1 g2 kg2 uS sS HG h_2 n0 O_14 a_9 A_6 (D_7 (Or.inl (w65 hw)) (ty := (.array .byte)) (by decide)) (D_7 (Or.inl (w67 hw)) (ty := .byte) (by decide)) (D_7 (Or.inl (w89 hw)) (ty := .int) (by decide)) (Nat.le_trans (own_n0 X00) (Nat.le_of_eq g_10.symm))) hZ (w55 hw) (w52 hw) (by decide) (by decide)) (g := (mkF m 5 #[VR d, VR x, VI ii, VR y] [(.ref a_9), (.ref a_9), (.ref d)])) rfl (by rw [hml]; rfl) (Steps.refl _) (a := a_9) (argsL := []) (rest := [(.ref a_9), (.ref d)]) (lenOf pd_851 rfl) rfl (by show 2 * 0 + _ ≤ _; exact Nat.le_of_eq rfl) (hb hby d42_5) (fun _ _ => ⟨rfl, e_4, (by decide : 1 + 1 ≤ _), (by decide : 4 + 16 ≤ _)⟩)
 dsimp only [Pt.U, Pt.locs, Pt.cells, Pt.slots] at X_15 l_15 y_15 z_15 st_15 hQ_15
 have X_15 := own_cast X_15 l_15 y_15 z_15
 obtain ⟨a_16, k_17, rfl, N_18, K_19, g_20, g_21, g_22, g_23, g_24, g_25, g_26⟩ := hQ_15
 have N_27 := Fr.app N0 N_18
 have CH_28 : CHv Z consts_1 s.vm T_15.heap := CHv.keep K_19 (sfS (Safe.exa hZ.alike A_6 (by decide) (by decide)) sf0) CH_12
 have CR_29 : CHr Z consts_1 s.vm h0 s.vm T_15.heap := CR_13.trans (CHr.keep K_19 (sfS (Safe.exa hZ.alike A_6 (by decide) (by decide)) sf0) CH_12)
 have E_30 : Exa Z T_15.heap x "java/lang/String" := ((hp8.ext E_5).keep K_19)
 have F_31 : Fld Z T_15.heap x "java/lang/String" "coder" "B" (.int 0) := ((hp9.ext E_5).keep K_19 (ninS (Nat.ne_of_lt (Nat.lt_of_lt_of_le hp8.lt (Nat.le_trans (Nat.le_refl _) (Nat.le_of_eq g_10.symm)))) nin0))
 have F_32 : Fld Z T_15.heap x "java/lang/String" "value" "[B" (.ref t) := ((hp10.ext E_5).keep K_19 (ninS (Nat.ne_of_lt (Nat.lt_of_lt_of_le hp8.lt (Nat.le_trans (Nat.le_refl _) (Nat.le_of_eq g_10.symm)))) nin0))
 have V_33 : Arv Z T_15.heap t kt .byte (2 : Int32) (own_iv [(own_lo8 c0), (own_lo8 c1)]) (.int 0) := ((hp11.ext E_5).keep K_19 (ninS (Nat.ne_of_lt (Nat.lt_of_lt_of_le hp11.lt (Nat.le_trans (Nat.le_refl _) (Nat.le_of_eq g_10.symm)))) nin0))
 have O_34 : Old Z n0 T_15.heap := (O_14.keep K_19 (allS (Nat.le_trans (own_n0 X00) (Nat.le_of_eq g_10.symm)) all0))
 obtain ⟨q_36, q_37, q_38, q_39, q_40⟩ := isOf (T := T_15) hZ rfl g_20
 obtain ⟨_, _, ⟨T_35, L_35, k_35, n_35⟩, -, X_35, ⟨Lc_35, hQ_35, l_35, y_35, z_35⟩, st_35⟩ := X_15.virtualBack hx (y := M480) (z := M480) hown (mvT hZ (w68 hw)) (mvT hZ (w69 hw)) (notFace_of_selects (args := #[]) (mvT hZ (w71 hw))) (mvT hZ (w71 hw)) (mvT hZ (w70 hw)) (by decide) (backOf (W := 1) (rm_sapp l Z a0 hw [] G1 G3 g1 kg1 g2 kg2 uS sS HG T_15.heap n0 O_34 a_9 a_16 k_17 (16 : Int32) [] (0 : Int32) x t kt (2 : Int32) [(own_lo8 c0), (own_lo8 c1)] g_20 g_21 g_22 g_23 E_30 F_31 F_32 V_33 g_26 g_25 (Nat.le_trans (own_n0 X00) (Nat.le_of_eq g_10.symm)) (Nat.le_trans (own_n0 O_14) g_24) (Nat.ne_of_lt (Nat.lt_of_lt_of_le A_6.lt (Nat.le_trans (Nat.le_refl _) g_24))) (Ne.symm (Nat.ne_of_lt (Nat.lt_of_lt_of_le hp8.lt (Nat.le_trans (Nat.le_refl _) (Nat.le_of_eq g_10.symm))))) (by decide) (by decide) (by first | rfl | decide | (simp only [List.length_append, List.length_cons, List.length_nil, own_dl_len, own_c16, own_c34]; omega)) (by first | rfl | decide | (simp only [List.length_append, List.length_cons, List.length_nil, own_dl_len, own_c16, own_c34]; omega)) (by decide) (by first | rfl | decide | (simp only [List.length_append, List.length_cons, List.length_nil, own_dl_len, own_c16, own_c34]; omega)) (by first | rfl | decide | (simp only [List.length_append, List.length_cons, List.length_nil, own_dl_len, own_c16, own_c34]; omega))) hZ (w72 hw) (w52 hw) (by decide) (by decide)) q_38 q_40 (g := (mkF m 9 #[VR d, VR x, VI ii, VR y] [(.ref x), (.ref a_9), (.ref d)])) rfl (by rw [hml]; rfl) (Steps.refl _) (argsL := [(.ref x)]) (rest := [(.ref d)]) (lenOf pd_857 rfl) rfl (by show 2 * 0 + _ ≤ _; exact Nat.le_of_eq rfl) (hb hby d42_9) (fun _ _ => ⟨rfl, rfl, (by decide : 2 + 0 ≤ _), (by decide : 20 + 0 ≤ _)⟩)
 dsimp only [Pt.U, Pt.locs, Pt.cells, Pt.slots] at X_35 l_35 y_35 z_35 st_35 hQ_35
 have X_35 := own_cast X_35 l_35 y_35 z_35
 obtain ⟨rfl, N_41, K_42, g_43, g_44, g_45, g_46, g_47, g_48, g_49, g_50⟩ := hQ_35
 have N_51 := Fr.app N_27 N_41
 have Sf_52 : Safe Z consts_1 s.vm T_15.heap a_16 := (Safe.keep K_19 (sfS (Safe.exa hZ.alike A_6 (by decide) (by decide)) sf0) CH_12 (Safe.new (Z := Z) (EL := consts_1) (vm := s.vm) g_24))
 have CH_53 : CHv Z consts_1 s.vm T_35.heap := CHv.keep K_42 (sfS (Safe.exa hZ.alike g_20 (by decide) (by decide)) (sfS Sf_52 sf0)) CH_28
 have CR_54 : CHr Z consts_1 s.vm h0 s.vm T_35.heap := CR_29.trans (CHr.keep K_42 (sfS (Safe.exa hZ.alike g_20 (by decide) (by decide)) (sfS Sf_52 sf0)) CH_28)
 have C_55 : Steps p.tables e below S0 (T_35.setTop (mkF m 13 #[VR d, VR x, VI ii, VR y] [(.int ii), (.ref a_9), (.ref d)])) := by
  refine C0.trans ?_
  refine XS.aloadN X0.here hx rfl (hb hby d42_0) rfl rfl ?_
  refine st_8 _ ?_
  refine XS.dup X_3.here hx rfl (hb hby d42_4) rfl rfl ?_
  refine st_15.trans ?_
  refine XS.aloadN X_15.here hx rfl (hb hby d42_8) rfl rfl ?_
  refine st_35.trans ?_
  refine XS.iloadN X_35.here hx rfl (hb hby d42_12) rfl ?_
  exact Steps.refl _
 by_cases hc_56 : (0 : Int32) < ii
 ·skip
  obtain ⟨T_57, h_58, X_59, e_60, E_61, A_62, D_63, U_67, st_64⟩ := newO X_35 hx hZ hown (w50 hw) (w51 hw) (w52 hw) rfl (g := (mkF m 16 #[VR d, VR x, VI ii, VR y] [(.ref a_9), (.ref d)])) rfl (hb hby d42_16) (by decide) (by decide)
  obtain ⟨a_65, g_66⟩ : ∃ z, z = T_35.heap.size := ⟨_, rfl⟩
  rw [← g_66] at A_62 D_63 st_64 U_67
  have CH_68 : CHv Z consts_1 s.vm h_58 := CHv.ext E_61 CH_53
  have CR_69 : CHr Z consts_1 s.vm h0 s.vm h_58 := CR_54.trans (CHr.ext E_61 CH_53)
  have O_70 : Old Z n0 T_35.heap := (O_34.keep K_42 (allS (Nat.le_trans (own_n0 X00) (Nat.le_of_eq g_10.symm)) (allS (Nat.le_trans (own_n0 O_14) g_24) all0)))
  have O_71 : Old Z n0 h_58 := (O_70.ext E_61)
  obtain ⟨_, _, ⟨T_72, L_72, k_72, n_72⟩, -, X_72, ⟨Lc_72, hQ_72, l_72, y_72, z_72⟩, st_72⟩ := X_59.specialBack hx (y := M229) rfl hown (mvT hZ (w53 hw)) (mvT hZ (w54 hw)) (mvT hZ (w55 hw)) (by decide) (backOf (W := 3) (rm_sbi l Z a0 hw [] G1 G3 g1 kg1 g2 kg2 uS sS HG h_58 n0 O_71 a_65 A_62 (D_63 (Or.inl (w65 hw)) (ty := (.array .byte)) (by decide)) (D_63 (Or.inl (w67 hw)) (ty := .byte) (by decide)) (D_63 (Or.inl (w89 hw)) (ty := .int) (by decide)) (Nat.le_trans (own_n0 O_70) (Nat.le_of_eq g_66.symm))) hZ (w55 hw) (w52 hw) (by decide) (by decide)) (g := (mkF m 20 #[VR d, VR x, VI ii, VR y] [(.ref a_65), (.ref a_65), (.ref a_9), (.ref d)])) rfl (by rw [hml]; rfl) (Steps.refl _) (a := a_65) (argsL := []) (rest := [(.ref a_65), (.ref a_9), (.ref d)]) (lenOf pd_851 rfl) rfl (by show 2 * 0 + _ ≤ _; exact Nat.le_of_eq rfl) (hb hby d42_20) (fun _ _ => ⟨rfl, e_60, (by decide : 3 + 1 ≤ _), (by decide : 24 + 16 ≤ _)⟩)
  dsimp only [Pt.U, Pt.locs, Pt.cells, Pt.slots] at X_72 l_72 y_72 z_72 st_72 hQ_72
  have X_72 := own_cast X_72 l_72 y_72 z_72
  obtain ⟨a_73, k_74, rfl, N_75, K_76, g_77, g_78, g_79, g_80, g_81, g_82, g_83⟩ := hQ_72
  have N_84 := Fr.app N_51 N_75
  have CH_85 : CHv Z consts_1 s.vm T_72.heap := CHv.keep K_76 (sfS (Safe.exa hZ.alike A_62 (by decide) (by decide)) sf0) CH_68
  have CR_86 : CHr Z consts_1 s.vm h0 s.vm T_72.heap := CR_69.trans (CHr.keep K_76 (sfS (Safe.exa hZ.alike A_62 (by decide) (by decide)) sf0) CH_68)
  obtain ⟨a_87, T_88, h_89, k1_90, b_91, k_92, X_93, e_94, E_95, S_96, hk_97, hZ_98, ho_99, Ex_100, Fc_101, Fv_102, Va_103, la_104, lb_105, R_106, L_107, Sf_108, st_109⟩ := ldcCH (vm0 := s.vm) X_72 hx hZ hown (w115 hw) hSA rfl hS0 (Nat.le_trans (Nat.le_refl _) (Nat.le_trans (Nat.le_trans (Nat.le_trans (Nat.le_trans E_5.1 K_19.1) K_42.1) E_61.1) K_76.1)) hEL (by decide) CH_85 (vs := [(.int 58)]) (z := (1 : Int32)) ⟨by decide, by decide⟩ (by decide) (by decide) (g := (mkF m 23 #[VR d, VR x, VI ii, VR y] [(.ref a_65), (.ref a_9), (.ref d)])) rfl (hb hby d42_23) (n := 4) (by decide) (by decide) (by decide) (by decide)
  have CH_110 : CHv Z consts_1 T_88.vm h_89 := R_106.1
  have CR_111 : CHr Z consts_1 s.vm h0 T_88.vm h_89 := CR_86.trans R_106
  have Sf_112 : Safe Z consts_1 T_88.vm h_89 a_16 := (CHr.safe R_106 (own_lt g_25.lt (Nat.le_trans (Nat.le_trans K_42.1 E_61.1) K_76.1)) (Safe.keep K_76 (sfS (Safe.exa hZ.alike A_62 (by decide) (by decide)) sf0) CH_68 (Safe.ext E_61 CH_53 (Safe.keep K_42 (sfS (Safe.exa hZ.alike g_20 (by decide) (by decide)) (sfS Sf_52 sf0)) CH_28 Sf_52))))
  have hTK_113 : (s.setVm T_88.vm).vm.MethodsKnown := Vm.MethodsKnown.alikeC (S_96.1.alike) hTK0
  have hBL_114 : (s.setVm T_88.vm).vm.FramesKnown below := Vm.FramesKnown.alikeC (S_96.1.alike) hBL0
  have V_115 : Arv Z h_89 b_91 k_92 .byte (1 : Int32) (own_iv [(58 : Int32)]) (.int 0) := Va_103
  have E_116 : Exa Z h_89 a_65 "java/lang/StringBuilder" := (g_77.ext E_95)
  have F_117 : Fld Z h_89 a_65 "java/lang/AbstractStringBuilder" "value" "[B" (.ref a_73) := (g_78.ext E_95)
  have F_118 : Fld Z h_89 a_65 "java/lang/AbstractStringBuilder" "coder" "B" (.int 0) := (g_79.ext E_95)
  have F_119 : Fld Z h_89 a_65 "java/lang/AbstractStringBuilder" "count" "I" (.int 0) := (g_80.ext E_95)
  have V_120 : Arv Z h_89 a_73 k_74 .byte (16 : Int32) (own_iv (own_sb [] (16 : Int32).toNatClampNeg)) (.int 0) := (g_83.ext E_95)
  have E_121 : Exa Z h_89 a_73 "[B" := (g_82.ext E_95)
  have O_122 : Old Z n0 h_89 := ((O_71.keep K_76 (allS (Nat.le_trans (own_n0 O_70) (Nat.le_of_eq g_66.symm)) all0)).ext E_95)
  obtain ⟨q_124, q_125, q_126, q_127, q_128⟩ := isOf (T := T_88) hZ_98 e_94 E_116
  obtain ⟨_, _, ⟨T_123, L_123, k_123, n_123⟩, -, X_123, ⟨Lc_123, hQ_123, l_123, y_123, z_123⟩, st_123⟩ := X_93.virtualBack hx (y := M480) (z := M480) ho_99 (mvT hZ_98 (w68 hw)) (mvT hZ_98 (w69 hw)) (notFace_of_selects (args := #[]) (mvT hZ_98 (w71 hw))) (mvT hZ_98 (w71 hw)) (mvT hZ_98 (w70 hw)) (by decide) (backOf (W := 2) (rm_sapp l Z a0 hw [] G1 G3 g1 kg1 g2 kg2 uS sS HG h_89 n0 O_122 a_65 a_73 k_74 (16 : Int32) [] (0 : Int32) a_87 b_91 k_92 (1 : Int32) [(58 : Int32)] E_116 F_117 F_118 F_119 Ex_100 Fc_101 Fv_102 V_115 V_120 E_121 (Nat.le_trans (own_n0 O_70) (Nat.le_of_eq g_66.symm)) (Nat.le_trans (own_n0 O_71) g_81) (Nat.ne_of_lt (Nat.lt_of_lt_of_le A_62.lt (Nat.le_trans (Nat.le_refl _) g_81))) (Exa.ne E_116 Ex_100 (by decide)) (by decide) (by decide) (by first | rfl | decide | (simp only [List.length_append, List.length_cons, List.length_nil, own_dl_len, own_c16, own_c34]; omega)) (by first | rfl | decide | (simp only [List.length_append, List.length_cons, List.length_nil, own_dl_len, own_c16, own_c34]; omega)) (by decide) (by first | rfl | decide | (simp only [List.length_append, List.length_cons, List.length_nil, own_dl_len, own_c16, own_c34]; omega)) (by first | rfl | decide | (simp only [List.length_append, List.length_cons, List.length_nil, own_dl_len, own_c16, own_c34]; omega))) hZ_98 (w72 hw) (w52 hw) (by decide) (by decide)) q_126 q_128 (g := (mkF m 25 #[VR d, VR x, VI ii, VR y] [(.ref a_87), (.ref a_65), (.ref a_9), (.ref d)])) rfl (by rw [hml]; rfl) (Steps.refl _) (argsL := [(.ref a_87)]) (rest := [(.ref a_9), (.ref d)]) (lenOf pd_857 rfl) rfl (by show 2 * 0 + _ ≤ _; exact Nat.le_of_eq rfl) (hb hby d42_25) (fun _ _ => ⟨rfl, e_94, (by decide : 6 + 0 ≤ _), (by decide : 48 + 0 ≤ _)⟩)
  dsimp only [Pt.U, Pt.locs, Pt.cells, Pt.slots] at X_123 l_123 y_123 z_123 st_123 hQ_123
  have X_123 := own_cast X_123 l_123 y_123 z_123
  obtain ⟨rfl, N_129, K_130, g_131, g_132, g_133, g_134, g_135, g_136, g_137, g_138⟩ := hQ_123
  have N_139 := Fr.app N_84 N_129
  have Sf_140 : Safe Z consts_1 T_88.vm h_89 a_73 := (CHr.safe R_106 (own_lt g_82.lt (Nat.le_refl _)) (Safe.keep K_76 (sfS (Safe.exa hZ.alike A_62 (by decide) (by decide)) sf0) CH_68 (Safe.new (Z := Z) (EL := consts_1) (vm := s.vm) g_81)))
  have CH_141 : CHv Z consts_1 T_88.vm T_123.heap := CHv.keep K_130 (sfS (Safe.exa hZ_98.alike E_116 (by decide) (by decide)) (sfS Sf_140 sf0)) CH_110
  have CR_142 : CHr Z consts_1 s.vm h0 T_88.vm T_123.heap := CR_111.trans (CHr.keep K_130 (sfS (Safe.exa hZ_98.alike E_116 (by decide) (by decide)) (sfS Sf_140 sf0)) CH_110)
  have O_143 : Old Z n0 T_123.heap := (O_122.keep K_130 (allS (Nat.le_trans (own_n0 O_70) (Nat.le_of_eq g_66.symm)) (allS (Nat.le_trans (own_n0 O_71) g_81) all0)))
  obtain ⟨q_145, q_146, q_147, q_148, q_149⟩ := isOf (T := T_123) hZ_98 rfl g_131
  obtain ⟨_, _, ⟨T_144, L_144, k_144, n_144⟩, -, X_144, ⟨Lc_144, hQ_144, l_144, y_144, z_144⟩, st_144⟩ := X_123.virtualBack hx (y := M647) (z := M647) ho_99 (mvT hZ_98 (w118 hw)) (mvT hZ_98 (w119 hw)) (notFace_of_selects (args := #[]) (mvT hZ_98 (w121 hw))) (mvT hZ_98 (w121 hw)) (mvT hZ_98 (w120 hw)) (by decide) (backOf (W := 2) (rm_sappI l Z a0 hw [] G1 G3 g1 kg1 g2 kg2 uS sS HG T_123.heap n0 O_143 a_65 a_73 k_74 (16 : Int32) ([] ++ [(58 : Int32)]) ((0 : Int32) + (1 : Int32)) ii g_131 g_132 g_133 g_134 g_135 g_136 (Nat.le_trans (own_n0 O_70) (Nat.le_of_eq g_66.symm)) (Nat.le_trans (own_n0 O_71) g_81) (Nat.ne_of_lt (Nat.lt_of_lt_of_le A_62.lt (Nat.le_trans (Nat.le_refl _) g_81))) hc_56 g_138 (by decide) g_137 (by first | rfl | decide | (simp only [List.length_append, List.length_cons, List.length_nil, own_dl_len, own_c16, own_c34]; omega)) (by first | rfl | decide | (simp only [List.length_append, List.length_cons, List.length_nil, own_dl_len, own_c16, own_c34]; omega))) hZ_98 (w122 hw) (w52 hw) (by decide) (by decide)) q_147 q_149 (g := (mkF m 29 #[VR d, VR x, VI ii, VR y] [(.int ii), (.ref a_65), (.ref a_9), (.ref d)])) rfl (by rw [hml]; rfl) (Steps.refl _) (argsL := [(.int ii)]) (rest := [(.ref a_9), (.ref d)]) (lenOf pd_873 rfl) rfl (by show 2 * 0 + _ ≤ _; exact Nat.le_of_eq rfl) (hb hby d42_29) (fun _ _ => ⟨rfl, rfl, (by decide : 6 + 0 ≤ _), (by decide : 48 + 0 ≤ _)⟩)
  dsimp only [Pt.U, Pt.locs, Pt.cells, Pt.slots] at X_144 l_144 y_144 z_144 st_144 hQ_144
  have X_144 := own_cast X_144 l_144 y_144 z_144
  obtain ⟨rfl, N_150, K_151, g_152, g_153, g_154, g_155, g_156, g_157, g_158, g_159⟩ := hQ_144
  have N_160 := Fr.app N_139 N_150
  have Sf_161 : Safe Z consts_1 T_88.vm T_123.heap a_73 := (Safe.keep K_130 (sfS (Safe.exa hZ_98.alike E_116 (by decide) (by decide)) (sfS Sf_140 sf0)) CH_110 Sf_140)
  have CH_162 : CHv Z consts_1 T_88.vm T_144.heap := CHv.keep K_151 (sfS (Safe.exa hZ_98.alike g_131 (by decide) (by decide)) (sfS Sf_161 sf0)) CH_141
  have CR_163 : CHr Z consts_1 s.vm h0 T_88.vm T_144.heap := CR_142.trans (CHr.keep K_151 (sfS (Safe.exa hZ_98.alike g_131 (by decide) (by decide)) (sfS Sf_161 sf0)) CH_141)
  have O_164 : Old Z n0 T_144.heap := (O_143.keep K_151 (allS (Nat.le_trans (own_n0 O_70) (Nat.le_of_eq g_66.symm)) (allS (Nat.le_trans (own_n0 O_71) g_81) all0)))
  obtain ⟨q_166, q_167, q_168, q_169, q_170⟩ := isOf (T := T_144) hZ_98 rfl g_152
  obtain ⟨_, _, ⟨T_165, L_165, k_165, n_165⟩, -, X_165, ⟨Lc_165, hQ_165, l_165, y_165, z_165⟩, st_165⟩ := X_144.virtualBack hx (y := M785) (z := M785) ho_99 (mvT hZ_98 (w140 hw)) (mvT hZ_98 (w141 hw)) (notFace_of_selects (args := #[]) (mvT hZ_98 (w143 hw))) (mvT hZ_98 (w143 hw)) (mvT hZ_98 (w142 hw)) (by decide) (backOf (W := 2) (rm_tos l Z a0 hw [] G1 G3 g1 kg1 g2 kg2 uS sS HG T_144.heap n0 O_164 a_65 a_73 k_74 (16 : Int32) (([] ++ [(58 : Int32)]) ++ (own_dl (own_M ii) (own_dn ii))) (((0 : Int32) + (1 : Int32)) + (own_ssz ii)) g_152 g_153 g_154 g_155 g_156 g_157 g_159 (by decide) g_158 (by first | rfl | decide | (simp only [List.length_append, List.length_cons, List.length_nil, own_dl_len, own_c16, own_c34]; omega)) (by first | rfl | decide | (simp only [List.length_append, List.length_cons, List.length_nil, own_dl_len, own_c16, own_c34]; omega))) hZ_98 (w144 hw) (w52 hw) (by decide) (by decide)) q_168 q_170 (g := (mkF m 32 #[VR d, VR x, VI ii, VR y] [(.ref a_65), (.ref a_9), (.ref d)])) rfl (by rw [hml]; rfl) (Steps.refl _) (argsL := []) (rest := [(.ref a_9), (.ref d)]) (lenOf pd_880 rfl) rfl (by show 2 * 0 + _ ≤ _; exact Nat.le_of_eq rfl) (hb hby d42_32) (fun _ _ => ⟨rfl, rfl, (by decide : 6 + 2 ≤ _), (by decide : 48 + 38 ≤ _)⟩)
  dsimp only [Pt.U, Pt.locs, Pt.cells, Pt.slots] at X_165 l_165 y_165 z_165 st_165 hQ_165
  have X_165 := own_cast X_165 l_165 y_165 z_165
  obtain ⟨a_171, a_172, k_173, rfl, N_174, K_175, g_176, g_177, g_178, g_179, g_180, g_181, g_182⟩ := hQ_165
  have N_183 := Fr.app N_160 N_174
  have CH_184 : CHv Z consts_1 T_88.vm T_165.heap := CHv.keep K_175 sf0 CH_162
  have CR_185 : CHr Z consts_1 s.vm h0 T_88.vm T_165.heap := CR_163.trans (CHr.keep K_175 sf0 CH_162)
  have E_186 : Exa Z T_165.heap a_9 "java/lang/StringBuilder" := ((((((g_43.ext E_61).keep K_76).ext E_95).keep K_130).keep K_151).keep K_175)
  have F_187 : Fld Z T_165.heap a_9 "java/lang/AbstractStringBuilder" "value" "[B" (.ref a_16) := ((((((g_44.ext E_61).keep K_76 (ninS (Nat.ne_of_lt (Nat.lt_of_lt_of_le A_6.lt (Nat.le_trans (Nat.le_trans K_19.1 K_42.1) (Nat.le_of_eq g_66.symm)))) nin0)).ext E_95).keep K_130 (ninS (Nat.ne_of_lt (Nat.lt_of_lt_of_le A_6.lt (Nat.le_trans (Nat.le_trans K_19.1 K_42.1) (Nat.le_of_eq g_66.symm)))) (ninS (Nat.ne_of_lt (Nat.lt_of_lt_of_le A_6.lt (Nat.le_trans (Nat.le_trans (Nat.le_trans K_19.1 K_42.1) E_61.1) g_81))) nin0))).keep K_151 (ninS (Nat.ne_of_lt (Nat.lt_of_lt_of_le A_6.lt (Nat.le_trans (Nat.le_trans K_19.1 K_42.1) (Nat.le_of_eq g_66.symm)))) (ninS (Nat.ne_of_lt (Nat.lt_of_lt_of_le A_6.lt (Nat.le_trans (Nat.le_trans (Nat.le_trans K_19.1 K_42.1) E_61.1) g_81))) nin0))).keep K_175 nin0)
  have F_188 : Fld Z T_165.heap a_9 "java/lang/AbstractStringBuilder" "coder" "B" (.int 0) := ((((((g_45.ext E_61).keep K_76 (ninS (Nat.ne_of_lt (Nat.lt_of_lt_of_le A_6.lt (Nat.le_trans (Nat.le_trans K_19.1 K_42.1) (Nat.le_of_eq g_66.symm)))) nin0)).ext E_95).keep K_130 (ninS (Nat.ne_of_lt (Nat.lt_of_lt_of_le A_6.lt (Nat.le_trans (Nat.le_trans K_19.1 K_42.1) (Nat.le_of_eq g_66.symm)))) (ninS (Nat.ne_of_lt (Nat.lt_of_lt_of_le A_6.lt (Nat.le_trans (Nat.le_trans (Nat.le_trans K_19.1 K_42.1) E_61.1) g_81))) nin0))).keep K_151 (ninS (Nat.ne_of_lt (Nat.lt_of_lt_of_le A_6.lt (Nat.le_trans (Nat.le_trans K_19.1 K_42.1) (Nat.le_of_eq g_66.symm)))) (ninS (Nat.ne_of_lt (Nat.lt_of_lt_of_le A_6.lt (Nat.le_trans (Nat.le_trans (Nat.le_trans K_19.1 K_42.1) E_61.1) g_81))) nin0))).keep K_175 nin0)
  have F_189 : Fld Z T_165.heap a_9 "java/lang/AbstractStringBuilder" "count" "I" (.int ((0 : Int32) + (2 : Int32))) := ((((((g_46.ext E_61).keep K_76 (ninS (Nat.ne_of_lt (Nat.lt_of_lt_of_le A_6.lt (Nat.le_trans (Nat.le_trans K_19.1 K_42.1) (Nat.le_of_eq g_66.symm)))) nin0)).ext E_95).keep K_130 (ninS (Nat.ne_of_lt (Nat.lt_of_lt_of_le A_6.lt (Nat.le_trans (Nat.le_trans K_19.1 K_42.1) (Nat.le_of_eq g_66.symm)))) (ninS (Nat.ne_of_lt (Nat.lt_of_lt_of_le A_6.lt (Nat.le_trans (Nat.le_trans (Nat.le_trans K_19.1 K_42.1) E_61.1) g_81))) nin0))).keep K_151 (ninS (Nat.ne_of_lt (Nat.lt_of_lt_of_le A_6.lt (Nat.le_trans (Nat.le_trans K_19.1 K_42.1) (Nat.le_of_eq g_66.symm)))) (ninS (Nat.ne_of_lt (Nat.lt_of_lt_of_le A_6.lt (Nat.le_trans (Nat.le_trans (Nat.le_trans K_19.1 K_42.1) E_61.1) g_81))) nin0))).keep K_175 nin0)
  have V_190 : Arv Z T_165.heap a_16 k_17 .byte (16 : Int32) (own_iv (own_sb ([] ++ [(own_lo8 c0), (own_lo8 c1)]) (16 : Int32).toNatClampNeg)) (.int 0) := ((((((g_47.ext E_61).keep K_76 (ninS (Nat.ne_of_lt (Nat.lt_of_lt_of_le g_25.lt (Nat.le_trans K_42.1 (Nat.le_of_eq g_66.symm)))) nin0)).ext E_95).keep K_130 (ninS (Nat.ne_of_lt (Nat.lt_of_lt_of_le g_25.lt (Nat.le_trans K_42.1 (Nat.le_of_eq g_66.symm)))) (ninS (Nat.ne_of_lt (Nat.lt_of_lt_of_le g_25.lt (Nat.le_trans (Nat.le_trans K_42.1 E_61.1) g_81))) nin0))).keep K_151 (ninS (Nat.ne_of_lt (Nat.lt_of_lt_of_le g_25.lt (Nat.le_trans K_42.1 (Nat.le_of_eq g_66.symm)))) (ninS (Nat.ne_of_lt (Nat.lt_of_lt_of_le g_25.lt (Nat.le_trans (Nat.le_trans K_42.1 E_61.1) g_81))) nin0))).keep K_175 nin0)
  have E_191 : Exa Z T_165.heap a_16 "[B" := ((((((g_48.ext E_61).keep K_76).ext E_95).keep K_130).keep K_151).keep K_175)
  have O_192 : Old Z n0 T_165.heap := (O_164.keep K_175 all0)
  obtain ⟨q_194, q_195, q_196, q_197, q_198⟩ := isOf (T := T_165) hZ_98 rfl E_186
  obtain ⟨_, _, ⟨T_193, L_193, k_193, n_193⟩, -, X_193, ⟨Lc_193, hQ_193, l_193, y_193, z_193⟩, st_193⟩ := X_165.virtualBack hx (y := M480) (z := M480) ho_99 (mvT hZ_98 (w68 hw)) (mvT hZ_98 (w69 hw)) (notFace_of_selects (args := #[]) (mvT hZ_98 (w71 hw))) (mvT hZ_98 (w71 hw)) (mvT hZ_98 (w70 hw)) (by decide) (backOf (W := 1) (rm_sapp l Z a0 hw [] G1 G3 g1 kg1 g2 kg2 uS sS HG T_165.heap n0 O_192 a_9 a_16 k_17 (16 : Int32) ([] ++ [(own_lo8 c0), (own_lo8 c1)]) ((0 : Int32) + (2 : Int32)) a_171 a_172 k_173 (((0 : Int32) + (1 : Int32)) + (own_ssz ii)) (([] ++ [(58 : Int32)]) ++ (own_dl (own_M ii) (own_dn ii))) E_186 F_187 F_188 F_189 g_177 g_178 g_179 g_181 V_190 E_191 (Nat.le_trans (own_n0 X00) (Nat.le_of_eq g_10.symm)) (Nat.le_trans (own_n0 O_14) g_24) (Nat.ne_of_lt (Nat.lt_of_lt_of_le A_6.lt (Nat.le_trans (Nat.le_refl _) g_24))) (Nat.ne_of_lt (Nat.lt_of_lt_of_le A_6.lt (Nat.le_trans (Nat.le_trans (Nat.le_trans (Nat.le_trans (Nat.le_trans (Nat.le_trans (Nat.le_trans K_19.1 K_42.1) E_61.1) K_76.1) E_95.1) K_130.1) K_151.1) g_176))) g_50 (by decide) g_49 (by first | rfl | decide | (simp only [List.length_append, List.length_cons, List.length_nil, own_dl_len, own_c16, own_c34]; omega)) g_159 g_182 (by first | rfl | decide | (simp only [List.length_append, List.length_cons, List.length_nil, own_dl_len, own_c16, own_c34]; omega))) hZ_98 (w72 hw) (w52 hw) (by decide) (by decide)) q_196 q_198 (g := (mkF m 40 #[VR d, VR x, VI ii, VR y] [(.ref a_171), (.ref a_9), (.ref d)])) rfl (by rw [hml]; rfl) (Steps.refl _) (argsL := [(.ref a_171)]) (rest := [(.ref d)]) (lenOf pd_857 rfl) rfl (by show 2 * 0 + _ ≤ _; exact Nat.le_of_eq rfl) (hb hby d42_40) (fun _ _ => ⟨rfl, rfl, (by decide : 8 + 0 ≤ _), (by decide : 86 + 0 ≤ _)⟩)
  dsimp only [Pt.U, Pt.locs, Pt.cells, Pt.slots] at X_193 l_193 y_193 z_193 st_193 hQ_193
  have X_193 := own_cast X_193 l_193 y_193 z_193
  obtain ⟨rfl, N_199, K_200, g_201, g_202, g_203, g_204, g_205, g_206, g_207, g_208⟩ := hQ_193
  have N_209 := Fr.app N_183 N_199
  have Sf_210 : Safe Z consts_1 T_88.vm T_165.heap a_16 := (Safe.keep K_175 sf0 CH_162 (Safe.keep K_151 (sfS (Safe.exa hZ_98.alike g_131 (by decide) (by decide)) (sfS Sf_161 sf0)) CH_141 (Safe.keep K_130 (sfS (Safe.exa hZ_98.alike E_116 (by decide) (by decide)) (sfS Sf_140 sf0)) CH_110 Sf_112)))
  have CH_211 : CHv Z consts_1 T_88.vm T_193.heap := CHv.keep K_200 (sfS (Safe.exa hZ_98.alike E_186 (by decide) (by decide)) (sfS Sf_210 sf0)) CH_184
  have CR_212 : CHr Z consts_1 s.vm h0 T_88.vm T_193.heap := CR_185.trans (CHr.keep K_200 (sfS (Safe.exa hZ_98.alike E_186 (by decide) (by decide)) (sfS Sf_210 sf0)) CH_184)
  obtain ⟨a_213, T_214, h_215, k1_216, b_217, k_218, X_219, e_220, E_221, S_222, hk_223, hZ_224, ho_225, Ex_226, Fc_227, Fv_228, Va_229, la_230, lb_231, R_232, L_233, Sf_234, st_235⟩ := ldcCH (vm0 := T_88.vm) X_193 hx hZ_98 ho_99 (w181 hw) hSA rfl S_96 (Nat.le_trans hk_97 (Nat.le_trans (Nat.le_trans (Nat.le_trans K_130.1 K_151.1) K_175.1) K_200.1)) hEL (by decide) CH_211 (vs := [(.int 58), (.int 32)]) (z := (2 : Int32)) ⟨by decide, by decide⟩ (by decide) (by decide) (g := (mkF m 43 #[VR d, VR x, VI ii, VR y] [(.ref a_9), (.ref d)])) rfl (hb hby d42_43) (n := 8) (by decide) (by decide) (by decide) (by decide)
  have CH_236 : CHv Z consts_1 T_214.vm h_215 := R_232.1
  have CR_237 : CHr Z consts_1 s.vm h0 T_214.vm h_215 := CR_212.trans R_232
  have Sf_238 : Safe Z consts_1 T_214.vm h_215 a_16 := (CHr.safe R_232 (own_lt g_25.lt (Nat.le_trans (Nat.le_trans (Nat.le_trans (Nat.le_trans (Nat.le_trans (Nat.le_trans (Nat.le_trans K_42.1 E_61.1) K_76.1) E_95.1) K_130.1) K_151.1) K_175.1) K_200.1)) (Safe.keep K_200 (sfS (Safe.exa hZ_98.alike E_186 (by decide) (by decide)) (sfS Sf_210 sf0)) CH_184 Sf_210))
  have Sf_239 : Safe Z consts_1 T_214.vm h_215 a_73 := (CHr.safe R_232 (own_lt g_82.lt (Nat.le_trans (Nat.le_trans (Nat.le_trans (Nat.le_trans E_95.1 K_130.1) K_151.1) K_175.1) K_200.1)) (Safe.keep K_200 (sfS (Safe.exa hZ_98.alike E_186 (by decide) (by decide)) (sfS Sf_210 sf0)) CH_184 (Safe.keep K_175 sf0 CH_162 (Safe.keep K_151 (sfS (Safe.exa hZ_98.alike g_131 (by decide) (by decide)) (sfS Sf_161 sf0)) CH_141 Sf_161))))
  have hTK_240 : (s.setVm T_214.vm).vm.MethodsKnown := Vm.MethodsKnown.alikeC (S_222.1.alike) hTK0
  have hBL_241 : (s.setVm T_214.vm).vm.FramesKnown below := Vm.FramesKnown.alikeC (S_222.1.alike) hBL0
  have V_242 : Arv Z h_215 b_217 k_218 .byte (2 : Int32) (own_iv [(58 : Int32), (32 : Int32)]) (.int 0) := Va_229
  have E_243 : Exa Z h_215 a_9 "java/lang/StringBuilder" := (g_201.ext E_221)
  have F_244 : Fld Z h_215 a_9 "java/lang/AbstractStringBuilder" "value" "[B" (.ref a_16) := (g_202.ext E_221)
  have F_245 : Fld Z h_215 a_9 "java/lang/AbstractStringBuilder" "coder" "B" (.int 0) := (g_203.ext E_221)
  have F_246 : Fld Z h_215 a_9 "java/lang/AbstractStringBuilder" "count" "I" (.int (((0 : Int32) + (2 : Int32)) + (((0 : Int32) + (1 : Int32)) + (own_ssz ii)))) := (g_204.ext E_221)
  have V_247 : Arv Z h_215 a_16 k_17 .byte (16 : Int32) (own_iv (own_sb (([] ++ [(own_lo8 c0), (own_lo8 c1)]) ++ (([] ++ [(58 : Int32)]) ++ (own_dl (own_M ii) (own_dn ii)))) (16 : Int32).toNatClampNeg)) (.int 0) := (g_205.ext E_221)
  have E_248 : Exa Z h_215 a_16 "[B" := (g_206.ext E_221)
  have O_249 : Old Z n0 h_215 := ((O_192.keep K_200 (allS (Nat.le_trans (own_n0 X00) (Nat.le_of_eq g_10.symm)) (allS (Nat.le_trans (own_n0 O_14) g_24) all0))).ext E_221)
  obtain ⟨q_251, q_252, q_253, q_254, q_255⟩ := isOf (T := T_214) hZ_224 e_220 E_243
  obtain ⟨_, _, ⟨T_250, L_250, k_250, n_250⟩, -, X_250, ⟨Lc_250, hQ_250, l_250, y_250, z_250⟩, st_250⟩ := X_219.virtualBack hx (y := M480) (z := M480) ho_225 (mvT hZ_224 (w68 hw)) (mvT hZ_224 (w69 hw)) (notFace_of_selects (args := #[]) (mvT hZ_224 (w71 hw))) (mvT hZ_224 (w71 hw)) (mvT hZ_224 (w70 hw)) (by decide) (backOf (W := 1) (rm_sapp l Z a0 hw [] G1 G3 g1 kg1 g2 kg2 uS sS HG h_215 n0 O_249 a_9 a_16 k_17 (16 : Int32) (([] ++ [(own_lo8 c0), (own_lo8 c1)]) ++ (([] ++ [(58 : Int32)]) ++ (own_dl (own_M ii) (own_dn ii)))) (((0 : Int32) + (2 : Int32)) + (((0 : Int32) + (1 : Int32)) + (own_ssz ii))) a_213 b_217 k_218 (2 : Int32) [(58 : Int32), (32 : Int32)] E_243 F_244 F_245 F_246 Ex_226 Fc_227 Fv_228 V_242 V_247 E_248 (Nat.le_trans (own_n0 X00) (Nat.le_of_eq g_10.symm)) (Nat.le_trans (own_n0 O_14) g_24) (Nat.ne_of_lt (Nat.lt_of_lt_of_le A_6.lt (Nat.le_trans (Nat.le_refl _) g_24))) (Exa.ne E_243 Ex_226 (by decide)) g_208 (by decide) g_207 (by first | rfl | decide | (simp only [List.length_append, List.length_cons, List.length_nil, own_dl_len, own_c16, own_c34]; omega)) (by decide) (by first | rfl | decide | (simp only [List.length_append, List.length_cons, List.length_nil, own_dl_len, own_c16, own_c34]; omega)) (by first | rfl | decide | (simp only [List.length_append, List.length_cons, List.length_nil, own_dl_len, own_c16, own_c34]; omega))) hZ_224 (w72 hw) (w52 hw) (by decide) (by decide)) q_253 q_255 (g := (mkF m 45 #[VR d, VR x, VI ii, VR y] [(.ref a_213), (.ref a_9), (.ref d)])) rfl (by rw [hml]; rfl) (Steps.refl _) (argsL := [(.ref a_213)]) (rest := [(.ref d)]) (lenOf pd_857 rfl) rfl (by show 2 * 0 + _ ≤ _; exact Nat.le_of_eq rfl) (hb hby d42_45) (fun _ _ => ⟨rfl, e_220, (by decide : 10 + 0 ≤ _), (by decide : 98 + 0 ≤ _)⟩)
  dsimp only [Pt.U, Pt.locs, Pt.cells, Pt.slots] at X_250 l_250 y_250 z_250 st_250 hQ_250
  have X_250 := own_cast X_250 l_250 y_250 z_250
  obtain ⟨rfl, N_256, K_257, g_258, g_259, g_260, g_261, g_262, g_263, g_264, g_265⟩ := hQ_250
  have N_266 := Fr.app N_209 N_256
  have Sf_267 : Safe Z consts_1 T_214.vm h_215 a_16 := Sf_238
  have CH_268 : CHv Z consts_1 T_214.vm T_250.heap := CHv.keep K_257 (sfS (Safe.exa hZ_224.alike E_243 (by decide) (by decide)) (sfS Sf_267 sf0)) CH_236
  have CR_269 : CHr Z consts_1 s.vm h0 T_214.vm T_250.heap := CR_237.trans (CHr.keep K_257 (sfS (Safe.exa hZ_224.alike E_243 (by decide) (by decide)) (sfS Sf_267 sf0)) CH_236)
  have C_270 : Steps p.tables e below S0 (T_250.setTop (mkF m 48 #[VR d, VR x, VI ii, VR y] [(.ref a_9), (.ref d)])) := by
   refine C_55.trans ?_
   refine XS.ifNo X_35.here hx rfl (hb hby d42_13) rfl (i0_le_f hc_56) ?_
   refine st_64 _ ?_
   refine XS.dup X_59.here hx rfl (hb hby d42_19) rfl rfl ?_
   refine st_72.trans ?_
   refine st_109 _ ?_
   refine st_123.trans ?_
   refine XS.iloadN X_123.here hx rfl (hb hby d42_28) rfl ?_
   refine st_144.trans ?_
   show Steps p.tables e below (T_144.setTop (mkF m 32 #[VR d, VR x, VI ii, VR y] [(.ref a_65), (.ref a_9), (.ref d)])) _
   refine st_165.trans ?_
   refine XS.goto X_165.here hx rfl (pc0 := 35) (pc' := 40) rfl (hb hby d42_35) (by decide) (by decide) ?_
   refine st_193.trans ?_
   refine st_235 _ ?_
   refine st_250.trans ?_
   exact Steps.refl _
  by_cases hd_271 : own_dn ii ≤ 9
  ·skip
   have E_272 : Exa Z T_250.heap y "java/lang/String" := ((((((((((((hp12.ext E_5).keep K_19).keep K_42).ext E_61).keep K_76).ext E_95).keep K_130).keep K_151).keep K_175).keep K_200).ext E_221).keep K_257)
   have F_273 : Fld Z T_250.heap y "java/lang/String" "coder" "B" (.int 0) := ((((((((((((hp13.ext E_5).keep K_19 (ninS (Nat.ne_of_lt (Nat.lt_of_lt_of_le hp12.lt (Nat.le_trans (Nat.le_refl _) (Nat.le_of_eq g_10.symm)))) nin0)).keep K_42 (ninS (Nat.ne_of_lt (Nat.lt_of_lt_of_le hp12.lt (Nat.le_trans (Nat.le_refl _) (Nat.le_of_eq g_10.symm)))) (ninS (Nat.ne_of_lt (Nat.lt_of_lt_of_le hp12.lt (Nat.le_trans E_5.1 g_24))) nin0))).ext E_61).keep K_76 (ninS (Nat.ne_of_lt (Nat.lt_of_lt_of_le hp12.lt (Nat.le_trans (Nat.le_trans (Nat.le_trans E_5.1 K_19.1) K_42.1) (Nat.le_of_eq g_66.symm)))) nin0)).ext E_95).keep K_130 (ninS (Nat.ne_of_lt (Nat.lt_of_lt_of_le hp12.lt (Nat.le_trans (Nat.le_trans (Nat.le_trans E_5.1 K_19.1) K_42.1) (Nat.le_of_eq g_66.symm)))) (ninS (Nat.ne_of_lt (Nat.lt_of_lt_of_le hp12.lt (Nat.le_trans (Nat.le_trans (Nat.le_trans (Nat.le_trans E_5.1 K_19.1) K_42.1) E_61.1) g_81))) nin0))).keep K_151 (ninS (Nat.ne_of_lt (Nat.lt_of_lt_of_le hp12.lt (Nat.le_trans (Nat.le_trans (Nat.le_trans E_5.1 K_19.1) K_42.1) (Nat.le_of_eq g_66.symm)))) (ninS (Nat.ne_of_lt (Nat.lt_of_lt_of_le hp12.lt (Nat.le_trans (Nat.le_trans (Nat.le_trans (Nat.le_trans E_5.1 K_19.1) K_42.1) E_61.1) g_81))) nin0))).keep K_175 nin0).keep K_200 (ninS (Nat.ne_of_lt (Nat.lt_of_lt_of_le hp12.lt (Nat.le_trans (Nat.le_refl _) (Nat.le_of_eq g_10.symm)))) (ninS (Nat.ne_of_lt (Nat.lt_of_lt_of_le hp12.lt (Nat.le_trans E_5.1 g_24))) nin0))).ext E_221).keep K_257 (ninS (Nat.ne_of_lt (Nat.lt_of_lt_of_le hp12.lt (Nat.le_trans (Nat.le_refl _) (Nat.le_of_eq g_10.symm)))) (ninS (Nat.ne_of_lt (Nat.lt_of_lt_of_le hp12.lt (Nat.le_trans E_5.1 g_24))) nin0)))
   have F_274 : Fld Z T_250.heap y "java/lang/String" "value" "[B" (.ref u) := ((((((((((((hp14.ext E_5).keep K_19 (ninS (Nat.ne_of_lt (Nat.lt_of_lt_of_le hp12.lt (Nat.le_trans (Nat.le_refl _) (Nat.le_of_eq g_10.symm)))) nin0)).keep K_42 (ninS (Nat.ne_of_lt (Nat.lt_of_lt_of_le hp12.lt (Nat.le_trans (Nat.le_refl _) (Nat.le_of_eq g_10.symm)))) (ninS (Nat.ne_of_lt (Nat.lt_of_lt_of_le hp12.lt (Nat.le_trans E_5.1 g_24))) nin0))).ext E_61).keep K_76 (ninS (Nat.ne_of_lt (Nat.lt_of_lt_of_le hp12.lt (Nat.le_trans (Nat.le_trans (Nat.le_trans E_5.1 K_19.1) K_42.1) (Nat.le_of_eq g_66.symm)))) nin0)).ext E_95).keep K_130 (ninS (Nat.ne_of_lt (Nat.lt_of_lt_of_le hp12.lt (Nat.le_trans (Nat.le_trans (Nat.le_trans E_5.1 K_19.1) K_42.1) (Nat.le_of_eq g_66.symm)))) (ninS (Nat.ne_of_lt (Nat.lt_of_lt_of_le hp12.lt (Nat.le_trans (Nat.le_trans (Nat.le_trans (Nat.le_trans E_5.1 K_19.1) K_42.1) E_61.1) g_81))) nin0))).keep K_151 (ninS (Nat.ne_of_lt (Nat.lt_of_lt_of_le hp12.lt (Nat.le_trans (Nat.le_trans (Nat.le_trans E_5.1 K_19.1) K_42.1) (Nat.le_of_eq g_66.symm)))) (ninS (Nat.ne_of_lt (Nat.lt_of_lt_of_le hp12.lt (Nat.le_trans (Nat.le_trans (Nat.le_trans (Nat.le_trans E_5.1 K_19.1) K_42.1) E_61.1) g_81))) nin0))).keep K_175 nin0).keep K_200 (ninS (Nat.ne_of_lt (Nat.lt_of_lt_of_le hp12.lt (Nat.le_trans (Nat.le_refl _) (Nat.le_of_eq g_10.symm)))) (ninS (Nat.ne_of_lt (Nat.lt_of_lt_of_le hp12.lt (Nat.le_trans E_5.1 g_24))) nin0))).ext E_221).keep K_257 (ninS (Nat.ne_of_lt (Nat.lt_of_lt_of_le hp12.lt (Nat.le_trans (Nat.le_refl _) (Nat.le_of_eq g_10.symm)))) (ninS (Nat.ne_of_lt (Nat.lt_of_lt_of_le hp12.lt (Nat.le_trans E_5.1 g_24))) nin0)))
   have V_275 : Arv Z T_250.heap u ku .byte (2 : Int32) (own_iv [(own_lo8 d0), (own_lo8 d1)]) (.int 0) := ((((((((((((hp15.ext E_5).keep K_19 (ninS (Nat.ne_of_lt (Nat.lt_of_lt_of_le hp15.lt (Nat.le_trans (Nat.le_refl _) (Nat.le_of_eq g_10.symm)))) nin0)).keep K_42 (ninS (Nat.ne_of_lt (Nat.lt_of_lt_of_le hp15.lt (Nat.le_trans (Nat.le_refl _) (Nat.le_of_eq g_10.symm)))) (ninS (Nat.ne_of_lt (Nat.lt_of_lt_of_le hp15.lt (Nat.le_trans E_5.1 g_24))) nin0))).ext E_61).keep K_76 (ninS (Nat.ne_of_lt (Nat.lt_of_lt_of_le hp15.lt (Nat.le_trans (Nat.le_trans (Nat.le_trans E_5.1 K_19.1) K_42.1) (Nat.le_of_eq g_66.symm)))) nin0)).ext E_95).keep K_130 (ninS (Nat.ne_of_lt (Nat.lt_of_lt_of_le hp15.lt (Nat.le_trans (Nat.le_trans (Nat.le_trans E_5.1 K_19.1) K_42.1) (Nat.le_of_eq g_66.symm)))) (ninS (Nat.ne_of_lt (Nat.lt_of_lt_of_le hp15.lt (Nat.le_trans (Nat.le_trans (Nat.le_trans (Nat.le_trans E_5.1 K_19.1) K_42.1) E_61.1) g_81))) nin0))).keep K_151 (ninS (Nat.ne_of_lt (Nat.lt_of_lt_of_le hp15.lt (Nat.le_trans (Nat.le_trans (Nat.le_trans E_5.1 K_19.1) K_42.1) (Nat.le_of_eq g_66.symm)))) (ninS (Nat.ne_of_lt (Nat.lt_of_lt_of_le hp15.lt (Nat.le_trans (Nat.le_trans (Nat.le_trans (Nat.le_trans E_5.1 K_19.1) K_42.1) E_61.1) g_81))) nin0))).keep K_175 nin0).keep K_200 (ninS (Nat.ne_of_lt (Nat.lt_of_lt_of_le hp15.lt (Nat.le_trans (Nat.le_refl _) (Nat.le_of_eq g_10.symm)))) (ninS (Nat.ne_of_lt (Nat.lt_of_lt_of_le hp15.lt (Nat.le_trans E_5.1 g_24))) nin0))).ext E_221).keep K_257 (ninS (Nat.ne_of_lt (Nat.lt_of_lt_of_le hp15.lt (Nat.le_trans (Nat.le_refl _) (Nat.le_of_eq g_10.symm)))) (ninS (Nat.ne_of_lt (Nat.lt_of_lt_of_le hp15.lt (Nat.le_trans E_5.1 g_24))) nin0)))
   have O_276 : Old Z n0 T_250.heap := (O_249.keep K_257 (allS (Nat.le_trans (own_n0 X00) (Nat.le_of_eq g_10.symm)) (allS (Nat.le_trans (own_n0 O_14) g_24) all0)))
   obtain ⟨q_278, q_279, q_280, q_281, q_282⟩ := isOf (T := T_250) hZ_224 rfl g_258
   obtain ⟨_, _, ⟨T_277, L_277, k_277, n_277⟩, -, X_277, ⟨Lc_277, hQ_277, l_277, y_277, z_277⟩, st_277⟩ := X_250.virtualBack hx (y := M480) (z := M480) ho_225 (mvT hZ_224 (w68 hw)) (mvT hZ_224 (w69 hw)) (notFace_of_selects (args := #[]) (mvT hZ_224 (w71 hw))) (mvT hZ_224 (w71 hw)) (mvT hZ_224 (w70 hw)) (by decide) (backOf (W := 1) (rm_sapp l Z a0 hw [] G1 G3 g1 kg1 g2 kg2 uS sS HG T_250.heap n0 O_276 a_9 a_16 k_17 (16 : Int32) ((([] ++ [(own_lo8 c0), (own_lo8 c1)]) ++ (([] ++ [(58 : Int32)]) ++ (own_dl (own_M ii) (own_dn ii)))) ++ [(58 : Int32), (32 : Int32)]) ((((0 : Int32) + (2 : Int32)) + (((0 : Int32) + (1 : Int32)) + (own_ssz ii))) + (2 : Int32)) y u ku (2 : Int32) [(own_lo8 d0), (own_lo8 d1)] g_258 g_259 g_260 g_261 E_272 F_273 F_274 V_275 g_262 g_263 (Nat.le_trans (own_n0 X00) (Nat.le_of_eq g_10.symm)) (Nat.le_trans (own_n0 O_14) g_24) (Nat.ne_of_lt (Nat.lt_of_lt_of_le A_6.lt (Nat.le_trans (Nat.le_refl _) g_24))) (Ne.symm (Nat.ne_of_lt (Nat.lt_of_lt_of_le hp12.lt (Nat.le_trans (Nat.le_refl _) (Nat.le_of_eq g_10.symm))))) g_265 (by decide) g_264 (by first | rfl | decide | (simp only [List.length_append, List.length_cons, List.length_nil, own_dl_len, own_c16, own_c34]; omega)) (by decide) (by first | rfl | decide | (simp only [List.length_append, List.length_cons, List.length_nil, own_dl_len, own_c16, own_c34]; omega)) (by first | rfl | decide | (simp only [List.length_append, List.length_cons, List.length_nil, own_dl_len, own_c16, own_c34]; omega))) hZ_224 (w72 hw) (w52 hw) (by decide) (by decide)) q_280 q_282 (g := (mkF m 49 #[VR d, VR x, VI ii, VR y] [(.ref y), (.ref a_9), (.ref d)])) rfl (by rw [hml]; rfl) (Steps.refl _) (argsL := [(.ref y)]) (rest := [(.ref d)]) (lenOf pd_857 rfl) rfl (by show 2 * 0 + _ ≤ _; exact Nat.le_of_eq rfl) (hb hby d42_49) (fun _ _ => ⟨rfl, rfl, (by decide : 10 + 0 ≤ _), (by decide : 98 + 0 ≤ _)⟩)
   dsimp only [Pt.U, Pt.locs, Pt.cells, Pt.slots] at X_277 l_277 y_277 z_277 st_277 hQ_277
   have X_277 := own_cast X_277 l_277 y_277 z_277
   obtain ⟨rfl, N_283, K_284, g_285, g_286, g_287, g_288, g_289, g_290, g_291, g_292⟩ := hQ_277
   have N_293 := Fr.app N_266 N_283
   have Sf_294 : Safe Z consts_1 T_214.vm T_250.heap a_16 := (Safe.keep K_257 (sfS (Safe.exa hZ_224.alike E_243 (by decide) (by decide)) (sfS Sf_267 sf0)) CH_236 Sf_267)
   have CH_295 : CHv Z consts_1 T_214.vm T_277.heap := CHv.keep K_284 (sfS (Safe.exa hZ_224.alike g_258 (by decide) (by decide)) (sfS Sf_294 sf0)) CH_268
   have CR_296 : CHr Z consts_1 s.vm h0 T_214.vm T_277.heap := CR_269.trans (CHr.keep K_284 (sfS (Safe.exa hZ_224.alike g_258 (by decide) (by decide)) (sfS Sf_294 sf0)) CH_268)
   have O_297 : Old Z n0 T_277.heap := (O_276.keep K_284 (allS (Nat.le_trans (own_n0 X00) (Nat.le_of_eq g_10.symm)) (allS (Nat.le_trans (own_n0 O_14) g_24) all0)))
   obtain ⟨q_299, q_300, q_301, q_302, q_303⟩ := isOf (T := T_277) hZ_224 rfl g_285
   obtain ⟨_, _, ⟨T_298, L_298, k_298, n_298⟩, -, X_298, ⟨Lc_298, hQ_298, l_298, y_298, z_298⟩, st_298⟩ := X_277.virtualBack hx (y := M785) (z := M785) ho_225 (mvT hZ_224 (w140 hw)) (mvT hZ_224 (w141 hw)) (notFace_of_selects (args := #[]) (mvT hZ_224 (w143 hw))) (mvT hZ_224 (w143 hw)) (mvT hZ_224 (w142 hw)) (by decide) (backOf (W := 1) (rm_tos l Z a0 hw [] G1 G3 g1 kg1 g2 kg2 uS sS HG T_277.heap n0 O_297 a_9 a_16 k_17 (16 : Int32) (((([] ++ [(own_lo8 c0), (own_lo8 c1)]) ++ (([] ++ [(58 : Int32)]) ++ (own_dl (own_M ii) (own_dn ii)))) ++ [(58 : Int32), (32 : Int32)]) ++ [(own_lo8 d0), (own_lo8 d1)]) (((((0 : Int32) + (2 : Int32)) + (((0 : Int32) + (1 : Int32)) + (own_ssz ii))) + (2 : Int32)) + (2 : Int32)) g_285 g_286 g_287 g_288 g_289 g_290 g_292 (by decide) g_291 (by first | rfl | decide | (simp only [List.length_append, List.length_cons, List.length_nil, own_dl_len, own_c16, own_c34]; omega)) (by first | rfl | decide | (simp only [List.length_append, List.length_cons, List.length_nil, own_dl_len, own_c16, own_c34]; omega))) hZ_224 (w144 hw) (w52 hw) (by decide) (by decide)) q_301 q_303 (g := (mkF m 52 #[VR d, VR x, VI ii, VR y] [(.ref a_9), (.ref d)])) rfl (by rw [hml]; rfl) (Steps.refl _) (argsL := []) (rest := [(.ref d)]) (lenOf pd_880 rfl) rfl (by show 2 * 0 + _ ≤ _; exact Nat.le_of_eq rfl) (hb hby d42_52) (fun _ _ => ⟨rfl, rfl, (by decide : 10 + 2 ≤ _), (by decide : 98 + 38 ≤ _)⟩)
   dsimp only [Pt.U, Pt.locs, Pt.cells, Pt.slots] at X_298 l_298 y_298 z_298 st_298 hQ_298
   have X_298 := own_cast X_298 l_298 y_298 z_298
   obtain ⟨a_304, a_305, k_306, rfl, N_307, K_308, g_309, g_310, g_311, g_312, g_313, g_314, g_315⟩ := hQ_298
   have N_316 := Fr.app N_293 N_307
   have CH_317 : CHv Z consts_1 T_214.vm T_298.heap := CHv.keep K_308 sf0 CH_295
   have CR_318 : CHr Z consts_1 s.vm h0 T_214.vm T_298.heap := CR_296.trans (CHr.keep K_308 sf0 CH_295)
   have E_319 : Exa Z T_298.heap d "com/example/claimgate/claimgate/config/ConfigException" := ((((((((((((((hp0.ext E_5).keep K_19).keep K_42).ext E_61).keep K_76).ext E_95).keep K_130).keep K_151).keep K_175).keep K_200).ext E_221).keep K_257).keep K_284).keep K_308)
   have U_320 : Unt T_298.heap d := (Unt.keep K_308 nin0 (Unt.keep K_284 (ninS (Nat.ne_of_lt (Nat.lt_of_lt_of_le hp0.lt (Nat.le_trans (Nat.le_refl _) (Nat.le_of_eq g_10.symm)))) (ninS (Nat.ne_of_lt (Nat.lt_of_lt_of_le hp0.lt (Nat.le_trans E_5.1 g_24))) nin0)) (Unt.keep K_257 (ninS (Nat.ne_of_lt (Nat.lt_of_lt_of_le hp0.lt (Nat.le_trans (Nat.le_refl _) (Nat.le_of_eq g_10.symm)))) (ninS (Nat.ne_of_lt (Nat.lt_of_lt_of_le hp0.lt (Nat.le_trans E_5.1 g_24))) nin0)) ((Unt.keep K_200 (ninS (Nat.ne_of_lt (Nat.lt_of_lt_of_le hp0.lt (Nat.le_trans (Nat.le_refl _) (Nat.le_of_eq g_10.symm)))) (ninS (Nat.ne_of_lt (Nat.lt_of_lt_of_le hp0.lt (Nat.le_trans E_5.1 g_24))) nin0)) (Unt.keep K_175 nin0 (Unt.keep K_151 (ninS (Nat.ne_of_lt (Nat.lt_of_lt_of_le hp0.lt (Nat.le_trans (Nat.le_trans (Nat.le_trans E_5.1 K_19.1) K_42.1) (Nat.le_of_eq g_66.symm)))) (ninS (Nat.ne_of_lt (Nat.lt_of_lt_of_le hp0.lt (Nat.le_trans (Nat.le_trans (Nat.le_trans (Nat.le_trans E_5.1 K_19.1) K_42.1) E_61.1) g_81))) nin0)) (Unt.keep K_130 (ninS (Nat.ne_of_lt (Nat.lt_of_lt_of_le hp0.lt (Nat.le_trans (Nat.le_trans (Nat.le_trans E_5.1 K_19.1) K_42.1) (Nat.le_of_eq g_66.symm)))) (ninS (Nat.ne_of_lt (Nat.lt_of_lt_of_le hp0.lt (Nat.le_trans (Nat.le_trans (Nat.le_trans (Nat.le_trans E_5.1 K_19.1) K_42.1) E_61.1) g_81))) nin0)) ((Unt.keep K_76 (ninS (Nat.ne_of_lt (Nat.lt_of_lt_of_le hp0.lt (Nat.le_trans (Nat.le_trans (Nat.le_trans E_5.1 K_19.1) K_42.1) (Nat.le_of_eq g_66.symm)))) nin0) ((Unt.keep K_42 (ninS (Nat.ne_of_lt (Nat.lt_of_lt_of_le hp0.lt (Nat.le_trans (Nat.le_refl _) (Nat.le_of_eq g_10.symm)))) (ninS (Nat.ne_of_lt (Nat.lt_of_lt_of_le hp0.lt (Nat.le_trans E_5.1 g_24))) nin0)) (Unt.keep K_19 (ninS (Nat.ne_of_lt (Nat.lt_of_lt_of_le hp0.lt (Nat.le_trans (Nat.le_refl _) (Nat.le_of_eq g_10.symm)))) nin0) (hp1.ext E_5))).ext E_61)).ext E_95))))).ext E_221))))
   have F_321 : Fld Z T_298.heap d "java/lang/Throwable" "cause" "Ljava/lang/Throwable;" .null := ((((((((((((((hp2.ext E_5).keep K_19 (ninS (Nat.ne_of_lt (Nat.lt_of_lt_of_le hp0.lt (Nat.le_trans (Nat.le_refl _) (Nat.le_of_eq g_10.symm)))) nin0)).keep K_42 (ninS (Nat.ne_of_lt (Nat.lt_of_lt_of_le hp0.lt (Nat.le_trans (Nat.le_refl _) (Nat.le_of_eq g_10.symm)))) (ninS (Nat.ne_of_lt (Nat.lt_of_lt_of_le hp0.lt (Nat.le_trans E_5.1 g_24))) nin0))).ext E_61).keep K_76 (ninS (Nat.ne_of_lt (Nat.lt_of_lt_of_le hp0.lt (Nat.le_trans (Nat.le_trans (Nat.le_trans E_5.1 K_19.1) K_42.1) (Nat.le_of_eq g_66.symm)))) nin0)).ext E_95).keep K_130 (ninS (Nat.ne_of_lt (Nat.lt_of_lt_of_le hp0.lt (Nat.le_trans (Nat.le_trans (Nat.le_trans E_5.1 K_19.1) K_42.1) (Nat.le_of_eq g_66.symm)))) (ninS (Nat.ne_of_lt (Nat.lt_of_lt_of_le hp0.lt (Nat.le_trans (Nat.le_trans (Nat.le_trans (Nat.le_trans E_5.1 K_19.1) K_42.1) E_61.1) g_81))) nin0))).keep K_151 (ninS (Nat.ne_of_lt (Nat.lt_of_lt_of_le hp0.lt (Nat.le_trans (Nat.le_trans (Nat.le_trans E_5.1 K_19.1) K_42.1) (Nat.le_of_eq g_66.symm)))) (ninS (Nat.ne_of_lt (Nat.lt_of_lt_of_le hp0.lt (Nat.le_trans (Nat.le_trans (Nat.le_trans (Nat.le_trans E_5.1 K_19.1) K_42.1) E_61.1) g_81))) nin0))).keep K_175 nin0).keep K_200 (ninS (Nat.ne_of_lt (Nat.lt_of_lt_of_le hp0.lt (Nat.le_trans (Nat.le_refl _) (Nat.le_of_eq g_10.symm)))) (ninS (Nat.ne_of_lt (Nat.lt_of_lt_of_le hp0.lt (Nat.le_trans E_5.1 g_24))) nin0))).ext E_221).keep K_257 (ninS (Nat.ne_of_lt (Nat.lt_of_lt_of_le hp0.lt (Nat.le_trans (Nat.le_refl _) (Nat.le_of_eq g_10.symm)))) (ninS (Nat.ne_of_lt (Nat.lt_of_lt_of_le hp0.lt (Nat.le_trans E_5.1 g_24))) nin0))).keep K_284 (ninS (Nat.ne_of_lt (Nat.lt_of_lt_of_le hp0.lt (Nat.le_trans (Nat.le_refl _) (Nat.le_of_eq g_10.symm)))) (ninS (Nat.ne_of_lt (Nat.lt_of_lt_of_le hp0.lt (Nat.le_trans E_5.1 g_24))) nin0))).keep K_308 nin0)
   have F_322 : Fld Z T_298.heap d "java/lang/Throwable" "stackTrace" "[Ljava/lang/StackTraceElement;" .null := ((((((((((((((hp3.ext E_5).keep K_19 (ninS (Nat.ne_of_lt (Nat.lt_of_lt_of_le hp0.lt (Nat.le_trans (Nat.le_refl _) (Nat.le_of_eq g_10.symm)))) nin0)).keep K_42 (ninS (Nat.ne_of_lt (Nat.lt_of_lt_of_le hp0.lt (Nat.le_trans (Nat.le_refl _) (Nat.le_of_eq g_10.symm)))) (ninS (Nat.ne_of_lt (Nat.lt_of_lt_of_le hp0.lt (Nat.le_trans E_5.1 g_24))) nin0))).ext E_61).keep K_76 (ninS (Nat.ne_of_lt (Nat.lt_of_lt_of_le hp0.lt (Nat.le_trans (Nat.le_trans (Nat.le_trans E_5.1 K_19.1) K_42.1) (Nat.le_of_eq g_66.symm)))) nin0)).ext E_95).keep K_130 (ninS (Nat.ne_of_lt (Nat.lt_of_lt_of_le hp0.lt (Nat.le_trans (Nat.le_trans (Nat.le_trans E_5.1 K_19.1) K_42.1) (Nat.le_of_eq g_66.symm)))) (ninS (Nat.ne_of_lt (Nat.lt_of_lt_of_le hp0.lt (Nat.le_trans (Nat.le_trans (Nat.le_trans (Nat.le_trans E_5.1 K_19.1) K_42.1) E_61.1) g_81))) nin0))).keep K_151 (ninS (Nat.ne_of_lt (Nat.lt_of_lt_of_le hp0.lt (Nat.le_trans (Nat.le_trans (Nat.le_trans E_5.1 K_19.1) K_42.1) (Nat.le_of_eq g_66.symm)))) (ninS (Nat.ne_of_lt (Nat.lt_of_lt_of_le hp0.lt (Nat.le_trans (Nat.le_trans (Nat.le_trans (Nat.le_trans E_5.1 K_19.1) K_42.1) E_61.1) g_81))) nin0))).keep K_175 nin0).keep K_200 (ninS (Nat.ne_of_lt (Nat.lt_of_lt_of_le hp0.lt (Nat.le_trans (Nat.le_refl _) (Nat.le_of_eq g_10.symm)))) (ninS (Nat.ne_of_lt (Nat.lt_of_lt_of_le hp0.lt (Nat.le_trans E_5.1 g_24))) nin0))).ext E_221).keep K_257 (ninS (Nat.ne_of_lt (Nat.lt_of_lt_of_le hp0.lt (Nat.le_trans (Nat.le_refl _) (Nat.le_of_eq g_10.symm)))) (ninS (Nat.ne_of_lt (Nat.lt_of_lt_of_le hp0.lt (Nat.le_trans E_5.1 g_24))) nin0))).keep K_284 (ninS (Nat.ne_of_lt (Nat.lt_of_lt_of_le hp0.lt (Nat.le_trans (Nat.le_refl _) (Nat.le_of_eq g_10.symm)))) (ninS (Nat.ne_of_lt (Nat.lt_of_lt_of_le hp0.lt (Nat.le_trans E_5.1 g_24))) nin0))).keep K_308 nin0)
   have F_323 : Fld Z T_298.heap d "java/lang/Throwable" "suppressedExceptions" "Ljava/util/List;" .null := ((((((((((((((hp4.ext E_5).keep K_19 (ninS (Nat.ne_of_lt (Nat.lt_of_lt_of_le hp0.lt (Nat.le_trans (Nat.le_refl _) (Nat.le_of_eq g_10.symm)))) nin0)).keep K_42 (ninS (Nat.ne_of_lt (Nat.lt_of_lt_of_le hp0.lt (Nat.le_trans (Nat.le_refl _) (Nat.le_of_eq g_10.symm)))) (ninS (Nat.ne_of_lt (Nat.lt_of_lt_of_le hp0.lt (Nat.le_trans E_5.1 g_24))) nin0))).ext E_61).keep K_76 (ninS (Nat.ne_of_lt (Nat.lt_of_lt_of_le hp0.lt (Nat.le_trans (Nat.le_trans (Nat.le_trans E_5.1 K_19.1) K_42.1) (Nat.le_of_eq g_66.symm)))) nin0)).ext E_95).keep K_130 (ninS (Nat.ne_of_lt (Nat.lt_of_lt_of_le hp0.lt (Nat.le_trans (Nat.le_trans (Nat.le_trans E_5.1 K_19.1) K_42.1) (Nat.le_of_eq g_66.symm)))) (ninS (Nat.ne_of_lt (Nat.lt_of_lt_of_le hp0.lt (Nat.le_trans (Nat.le_trans (Nat.le_trans (Nat.le_trans E_5.1 K_19.1) K_42.1) E_61.1) g_81))) nin0))).keep K_151 (ninS (Nat.ne_of_lt (Nat.lt_of_lt_of_le hp0.lt (Nat.le_trans (Nat.le_trans (Nat.le_trans E_5.1 K_19.1) K_42.1) (Nat.le_of_eq g_66.symm)))) (ninS (Nat.ne_of_lt (Nat.lt_of_lt_of_le hp0.lt (Nat.le_trans (Nat.le_trans (Nat.le_trans (Nat.le_trans E_5.1 K_19.1) K_42.1) E_61.1) g_81))) nin0))).keep K_175 nin0).keep K_200 (ninS (Nat.ne_of_lt (Nat.lt_of_lt_of_le hp0.lt (Nat.le_trans (Nat.le_refl _) (Nat.le_of_eq g_10.symm)))) (ninS (Nat.ne_of_lt (Nat.lt_of_lt_of_le hp0.lt (Nat.le_trans E_5.1 g_24))) nin0))).ext E_221).keep K_257 (ninS (Nat.ne_of_lt (Nat.lt_of_lt_of_le hp0.lt (Nat.le_trans (Nat.le_refl _) (Nat.le_of_eq g_10.symm)))) (ninS (Nat.ne_of_lt (Nat.lt_of_lt_of_le hp0.lt (Nat.le_trans E_5.1 g_24))) nin0))).keep K_284 (ninS (Nat.ne_of_lt (Nat.lt_of_lt_of_le hp0.lt (Nat.le_trans (Nat.le_refl _) (Nat.le_of_eq g_10.symm)))) (ninS (Nat.ne_of_lt (Nat.lt_of_lt_of_le hp0.lt (Nat.le_trans E_5.1 g_24))) nin0))).keep K_308 nin0)
   have F_324 : Fld Z T_298.heap d "java/lang/Throwable" "backtrace" "Ljava/lang/Object;" .null := ((((((((((((((hp5.ext E_5).keep K_19 (ninS (Nat.ne_of_lt (Nat.lt_of_lt_of_le hp0.lt (Nat.le_trans (Nat.le_refl _) (Nat.le_of_eq g_10.symm)))) nin0)).keep K_42 (ninS (Nat.ne_of_lt (Nat.lt_of_lt_of_le hp0.lt (Nat.le_trans (Nat.le_refl _) (Nat.le_of_eq g_10.symm)))) (ninS (Nat.ne_of_lt (Nat.lt_of_lt_of_le hp0.lt (Nat.le_trans E_5.1 g_24))) nin0))).ext E_61).keep K_76 (ninS (Nat.ne_of_lt (Nat.lt_of_lt_of_le hp0.lt (Nat.le_trans (Nat.le_trans (Nat.le_trans E_5.1 K_19.1) K_42.1) (Nat.le_of_eq g_66.symm)))) nin0)).ext E_95).keep K_130 (ninS (Nat.ne_of_lt (Nat.lt_of_lt_of_le hp0.lt (Nat.le_trans (Nat.le_trans (Nat.le_trans E_5.1 K_19.1) K_42.1) (Nat.le_of_eq g_66.symm)))) (ninS (Nat.ne_of_lt (Nat.lt_of_lt_of_le hp0.lt (Nat.le_trans (Nat.le_trans (Nat.le_trans (Nat.le_trans E_5.1 K_19.1) K_42.1) E_61.1) g_81))) nin0))).keep K_151 (ninS (Nat.ne_of_lt (Nat.lt_of_lt_of_le hp0.lt (Nat.le_trans (Nat.le_trans (Nat.le_trans E_5.1 K_19.1) K_42.1) (Nat.le_of_eq g_66.symm)))) (ninS (Nat.ne_of_lt (Nat.lt_of_lt_of_le hp0.lt (Nat.le_trans (Nat.le_trans (Nat.le_trans (Nat.le_trans E_5.1 K_19.1) K_42.1) E_61.1) g_81))) nin0))).keep K_175 nin0).keep K_200 (ninS (Nat.ne_of_lt (Nat.lt_of_lt_of_le hp0.lt (Nat.le_trans (Nat.le_refl _) (Nat.le_of_eq g_10.symm)))) (ninS (Nat.ne_of_lt (Nat.lt_of_lt_of_le hp0.lt (Nat.le_trans E_5.1 g_24))) nin0))).ext E_221).keep K_257 (ninS (Nat.ne_of_lt (Nat.lt_of_lt_of_le hp0.lt (Nat.le_trans (Nat.le_refl _) (Nat.le_of_eq g_10.symm)))) (ninS (Nat.ne_of_lt (Nat.lt_of_lt_of_le hp0.lt (Nat.le_trans E_5.1 g_24))) nin0))).keep K_284 (ninS (Nat.ne_of_lt (Nat.lt_of_lt_of_le hp0.lt (Nat.le_trans (Nat.le_refl _) (Nat.le_of_eq g_10.symm)))) (ninS (Nat.ne_of_lt (Nat.lt_of_lt_of_le hp0.lt (Nat.le_trans E_5.1 g_24))) nin0))).keep K_308 nin0)
   have F_325 : Fld Z T_298.heap d "java/lang/Throwable" "detailMessage" "Ljava/lang/String;" .null := ((((((((((((((hp6.ext E_5).keep K_19 (ninS (Nat.ne_of_lt (Nat.lt_of_lt_of_le hp0.lt (Nat.le_trans (Nat.le_refl _) (Nat.le_of_eq g_10.symm)))) nin0)).keep K_42 (ninS (Nat.ne_of_lt (Nat.lt_of_lt_of_le hp0.lt (Nat.le_trans (Nat.le_refl _) (Nat.le_of_eq g_10.symm)))) (ninS (Nat.ne_of_lt (Nat.lt_of_lt_of_le hp0.lt (Nat.le_trans E_5.1 g_24))) nin0))).ext E_61).keep K_76 (ninS (Nat.ne_of_lt (Nat.lt_of_lt_of_le hp0.lt (Nat.le_trans (Nat.le_trans (Nat.le_trans E_5.1 K_19.1) K_42.1) (Nat.le_of_eq g_66.symm)))) nin0)).ext E_95).keep K_130 (ninS (Nat.ne_of_lt (Nat.lt_of_lt_of_le hp0.lt (Nat.le_trans (Nat.le_trans (Nat.le_trans E_5.1 K_19.1) K_42.1) (Nat.le_of_eq g_66.symm)))) (ninS (Nat.ne_of_lt (Nat.lt_of_lt_of_le hp0.lt (Nat.le_trans (Nat.le_trans (Nat.le_trans (Nat.le_trans E_5.1 K_19.1) K_42.1) E_61.1) g_81))) nin0))).keep K_151 (ninS (Nat.ne_of_lt (Nat.lt_of_lt_of_le hp0.lt (Nat.le_trans (Nat.le_trans (Nat.le_trans E_5.1 K_19.1) K_42.1) (Nat.le_of_eq g_66.symm)))) (ninS (Nat.ne_of_lt (Nat.lt_of_lt_of_le hp0.lt (Nat.le_trans (Nat.le_trans (Nat.le_trans (Nat.le_trans E_5.1 K_19.1) K_42.1) E_61.1) g_81))) nin0))).keep K_175 nin0).keep K_200 (ninS (Nat.ne_of_lt (Nat.lt_of_lt_of_le hp0.lt (Nat.le_trans (Nat.le_refl _) (Nat.le_of_eq g_10.symm)))) (ninS (Nat.ne_of_lt (Nat.lt_of_lt_of_le hp0.lt (Nat.le_trans E_5.1 g_24))) nin0))).ext E_221).keep K_257 (ninS (Nat.ne_of_lt (Nat.lt_of_lt_of_le hp0.lt (Nat.le_trans (Nat.le_refl _) (Nat.le_of_eq g_10.symm)))) (ninS (Nat.ne_of_lt (Nat.lt_of_lt_of_le hp0.lt (Nat.le_trans E_5.1 g_24))) nin0))).keep K_284 (ninS (Nat.ne_of_lt (Nat.lt_of_lt_of_le hp0.lt (Nat.le_trans (Nat.le_refl _) (Nat.le_of_eq g_10.symm)))) (ninS (Nat.ne_of_lt (Nat.lt_of_lt_of_le hp0.lt (Nat.le_trans E_5.1 g_24))) nin0))).keep K_308 nin0)
   have O_326 : Old Z n0 T_298.heap := (O_297.keep K_308 all0)
   obtain ⟨_, _, ⟨T_327, L_327, k_327, n_327⟩, -, Y_327, S_327, G_327, ⟨Lc_327, hQ_327, l_327, y_327, z_327, R_327⟩, st_327⟩ := X_298.specialBackS hx (y := M829) rfl ho_225 (mvT hZ_224 (w182 hw)) (mvT hZ_224 (w183 hw)) (mvT hZ_224 (w186 hw)) (by decide) (backOfSKH (vm0 := T_214.vm) (W := 0) (rm_ex0 l Z a0 hw [] G1 G3 g1 kg1 g2 kg2 uS sS HG T_298.heap n0 O_326 d a_304 E_319 U_320 F_321 F_322 F_323 F_324 F_325 hp7) hZ_224 (w186 hw) (w185 hw) (by decide) (by decide) hEL CH_317 hTK_240 hBL_241) (g := (mkF m 55 #[VR d, VR x, VI ii, VR y] [(.ref a_304), (.ref d)])) rfl (by rw [hml]; rfl) (Steps.refl _) (a := d) (argsL := [(.ref a_304)]) (rest := []) (lenOf pd_292 rfl) rfl (by show 2 * 0 + _ ≤ _; exact Nat.le_of_eq rfl) (hb hby d42_55) (fun _ _ => ⟨rfl, rfl, (by decide : 12 + 1 ≤ _), (by decide : 136 + 2752 ≤ _)⟩)
   dsimp only [Pt.U, Pt.locs, Pt.cells, Pt.slots] at Y_327 S_327 G_327 l_327 y_327 z_327 st_327 hQ_327 R_327
   have Y_327 := own_cast Y_327 l_327 y_327 z_327
   obtain ⟨X_327, hS_327, hZ_327, hown_327⟩ := rebS S_222 (n1 := T_298.heap.size) (by rw [show T_298.heap = T_298.heap from rfl]; exact (Nat.le_trans hk_223 (Nat.le_trans (Nat.le_trans K_257.1 K_284.1) K_308.1))) Y_327 S_327 G_327 hZ_224 ho_225
   obtain ⟨rfl, N_328, K_329, g_330, g_331⟩ := hQ_327
   have N_332 := Fr.app N_316 N_328
   have CH_333 : CHv Z consts_1 T_327.vm T_327.heap := R_327.1
   have CR_334 : CHr Z consts_1 s.vm h0 T_327.vm T_327.heap := CR_318.trans R_327
   have hTK_335 : (s.setVm T_327.vm).vm.MethodsKnown := Vm.MethodsKnown.alikeC (hS_327.1.alike) hTK0
   have hBL_336 : (s.setVm T_327.vm).vm.FramesKnown below := Vm.FramesKnown.alikeC (hS_327.1.alike) hBL0
   have C_337 : Steps p.tables e below S0 (T_327.setTop (mkF m 58 #[VR d, VR x, VI ii, VR y] [])) := by
    refine C_270.trans ?_
    refine XS.aloadN X_250.here hx rfl (hb hby d42_48) rfl rfl ?_
    refine st_277.trans ?_
    refine st_298.trans ?_
    refine st_327.trans ?_
    exact Steps.refl _
   have V_338 : Arv Z T_327.heap a_305 k_306 .byte (((((0 : Int32) + (2 : Int32)) + (((0 : Int32) + (1 : Int32)) + (own_ssz ii))) + (2 : Int32)) + (2 : Int32)) (own_iv (((([] ++ [(own_lo8 c0), (own_lo8 c1)]) ++ (([] ++ [(58 : Int32)]) ++ (own_dl (own_M ii) (own_dn ii)))) ++ [(58 : Int32), (32 : Int32)]) ++ [(own_lo8 d0), (own_lo8 d1)])) (.int 0) := (g_314.keep K_329 (ninS (Ne.symm (Nat.ne_of_lt (Nat.lt_of_lt_of_le hp0.lt (Nat.le_trans (Nat.le_trans (Nat.le_trans (Nat.le_trans (Nat.le_trans (Nat.le_trans (Nat.le_trans (Nat.le_trans (Nat.le_trans (Nat.le_trans (Nat.le_trans (Nat.le_trans (Nat.le_trans E_5.1 K_19.1) K_42.1) E_61.1) K_76.1) E_95.1) K_130.1) K_151.1) K_175.1) K_200.1) E_221.1) K_257.1) K_284.1) g_313)))) nin0))
   have E_339 : Exa Z T_327.heap a_304 "java/lang/String" := (g_310.keep K_329)
   have F_340 : Fld Z T_327.heap a_304 "java/lang/String" "coder" "B" (.int 0) := (g_311.keep K_329 (ninS (Ne.symm (Nat.ne_of_lt (Nat.lt_of_lt_of_le hp0.lt (Nat.le_trans (Nat.le_trans (Nat.le_trans (Nat.le_trans (Nat.le_trans (Nat.le_trans (Nat.le_trans (Nat.le_trans (Nat.le_trans (Nat.le_trans (Nat.le_trans (Nat.le_trans (Nat.le_trans E_5.1 K_19.1) K_42.1) E_61.1) K_76.1) E_95.1) K_130.1) K_151.1) K_175.1) K_200.1) E_221.1) K_257.1) K_284.1) g_309)))) nin0))
   have F_341 : Fld Z T_327.heap a_304 "java/lang/String" "value" "[B" (.ref a_305) := (g_312.keep K_329 (ninS (Ne.symm (Nat.ne_of_lt (Nat.lt_of_lt_of_le hp0.lt (Nat.le_trans (Nat.le_trans (Nat.le_trans (Nat.le_trans (Nat.le_trans (Nat.le_trans (Nat.le_trans (Nat.le_trans (Nat.le_trans (Nat.le_trans (Nat.le_trans (Nat.le_trans (Nat.le_trans E_5.1 K_19.1) K_42.1) E_61.1) K_76.1) E_95.1) K_130.1) K_151.1) K_175.1) K_200.1) E_221.1) K_257.1) K_284.1) g_309)))) nin0))
   have K_342 : Keep h0 T_327.heap [d] := ((((((((((((((((Keep.refl _ _).ext E_5).trans K_19 (allS (Or.inr (Nat.le_trans (Nat.le_refl _) (Nat.le_of_eq g_10.symm))) all0)).trans K_42 (allS (Or.inr (Nat.le_trans (Nat.le_refl _) (Nat.le_of_eq g_10.symm))) (allS (Or.inr (Nat.le_trans E_5.1 g_24)) all0))).ext E_61).trans K_76 (allS (Or.inr (Nat.le_trans (Nat.le_trans (Nat.le_trans E_5.1 K_19.1) K_42.1) (Nat.le_of_eq g_66.symm))) all0)).ext E_95).trans K_130 (allS (Or.inr (Nat.le_trans (Nat.le_trans (Nat.le_trans E_5.1 K_19.1) K_42.1) (Nat.le_of_eq g_66.symm))) (allS (Or.inr (Nat.le_trans (Nat.le_trans (Nat.le_trans (Nat.le_trans E_5.1 K_19.1) K_42.1) E_61.1) g_81)) all0))).trans K_151 (allS (Or.inr (Nat.le_trans (Nat.le_trans (Nat.le_trans E_5.1 K_19.1) K_42.1) (Nat.le_of_eq g_66.symm))) (allS (Or.inr (Nat.le_trans (Nat.le_trans (Nat.le_trans (Nat.le_trans E_5.1 K_19.1) K_42.1) E_61.1) g_81)) all0))).trans K_175 all0).trans K_200 (allS (Or.inr (Nat.le_trans (Nat.le_refl _) (Nat.le_of_eq g_10.symm))) (allS (Or.inr (Nat.le_trans E_5.1 g_24)) all0))).ext E_221).trans K_257 (allS (Or.inr (Nat.le_trans (Nat.le_refl _) (Nat.le_of_eq g_10.symm))) (allS (Or.inr (Nat.le_trans E_5.1 g_24)) all0))).trans K_284 (allS (Or.inr (Nat.le_trans (Nat.le_refl _) (Nat.le_of_eq g_10.symm))) (allS (Or.inr (Nat.le_trans E_5.1 g_24)) all0))).trans K_308 all0).trans K_329 (allS (Or.inl (List.mem_of_getElem? (i := 0) rfl)) all0))
   obtain ⟨fs, hr, hrun, hended, hRE⟩ := X_327.leaveW hS_327 (by rw [show T_327.heap = T_327.heap from rfl]; exact (Nat.le_refl _)) (v := none) (fun _ => rfl)
   refine ⟨_, _, C_337.trans (X_327.returnOut hx Bd.returns (hb hby d42_58) hr), hrun, hended, _, _, rfl, ?_, ?_, hRE.1, hRE.2.1, hRE.2.2.1, hRE.2.2.2.mono (by decide) (by decide)⟩
   ·show Q_cei Z G1 G3 g1 kg1 g2 kg2 uS sS d x t kt c0 c1 ii y u ku d0 d1 h0 n0 (none) T_327.heap _
    exact ⟨a_304, a_305, k_306, rfl, N_332, K_342, g_330, g_331, E_339, F_340, F_341, (own_fin V_338 (own_tlpos hc_56) (own_txpos hc_56))⟩
   ·show CHr Z consts_1 s.vm s.heap T_327.vm T_327.heap
    rw [hh]
    exact CR_334.trans (CHv.at X_327 hZ_327 hEL CH_333)
  ·skip
   have hd_343 : own_dn ii = 10 := by omega
   have F_344 : Fld Z T_250.heap a_9 "java/lang/AbstractStringBuilder" "count" "I" (.int 15) := by have q := g_261; rw [own_cnt15 hd_343] at q; exact q
   have E_345 : Exa Z T_250.heap y "java/lang/String" := ((((((((((((hp12.ext E_5).keep K_19).keep K_42).ext E_61).keep K_76).ext E_95).keep K_130).keep K_151).keep K_175).keep K_200).ext E_221).keep K_257)
   have F_346 : Fld Z T_250.heap y "java/lang/String" "coder" "B" (.int 0) := ((((((((((((hp13.ext E_5).keep K_19 (ninS (Nat.ne_of_lt (Nat.lt_of_lt_of_le hp12.lt (Nat.le_trans (Nat.le_refl _) (Nat.le_of_eq g_10.symm)))) nin0)).keep K_42 (ninS (Nat.ne_of_lt (Nat.lt_of_lt_of_le hp12.lt (Nat.le_trans (Nat.le_refl _) (Nat.le_of_eq g_10.symm)))) (ninS (Nat.ne_of_lt (Nat.lt_of_lt_of_le hp12.lt (Nat.le_trans E_5.1 g_24))) nin0))).ext E_61).keep K_76 (ninS (Nat.ne_of_lt (Nat.lt_of_lt_of_le hp12.lt (Nat.le_trans (Nat.le_trans (Nat.le_trans E_5.1 K_19.1) K_42.1) (Nat.le_of_eq g_66.symm)))) nin0)).ext E_95).keep K_130 (ninS (Nat.ne_of_lt (Nat.lt_of_lt_of_le hp12.lt (Nat.le_trans (Nat.le_trans (Nat.le_trans E_5.1 K_19.1) K_42.1) (Nat.le_of_eq g_66.symm)))) (ninS (Nat.ne_of_lt (Nat.lt_of_lt_of_le hp12.lt (Nat.le_trans (Nat.le_trans (Nat.le_trans (Nat.le_trans E_5.1 K_19.1) K_42.1) E_61.1) g_81))) nin0))).keep K_151 (ninS (Nat.ne_of_lt (Nat.lt_of_lt_of_le hp12.lt (Nat.le_trans (Nat.le_trans (Nat.le_trans E_5.1 K_19.1) K_42.1) (Nat.le_of_eq g_66.symm)))) (ninS (Nat.ne_of_lt (Nat.lt_of_lt_of_le hp12.lt (Nat.le_trans (Nat.le_trans (Nat.le_trans (Nat.le_trans E_5.1 K_19.1) K_42.1) E_61.1) g_81))) nin0))).keep K_175 nin0).keep K_200 (ninS (Nat.ne_of_lt (Nat.lt_of_lt_of_le hp12.lt (Nat.le_trans (Nat.le_refl _) (Nat.le_of_eq g_10.symm)))) (ninS (Nat.ne_of_lt (Nat.lt_of_lt_of_le hp12.lt (Nat.le_trans E_5.1 g_24))) nin0))).ext E_221).keep K_257 (ninS (Nat.ne_of_lt (Nat.lt_of_lt_of_le hp12.lt (Nat.le_trans (Nat.le_refl _) (Nat.le_of_eq g_10.symm)))) (ninS (Nat.ne_of_lt (Nat.lt_of_lt_of_le hp12.lt (Nat.le_trans E_5.1 g_24))) nin0)))
   have F_347 : Fld Z T_250.heap y "java/lang/String" "value" "[B" (.ref u) := ((((((((((((hp14.ext E_5).keep K_19 (ninS (Nat.ne_of_lt (Nat.lt_of_lt_of_le hp12.lt (Nat.le_trans (Nat.le_refl _) (Nat.le_of_eq g_10.symm)))) nin0)).keep K_42 (ninS (Nat.ne_of_lt (Nat.lt_of_lt_of_le hp12.lt (Nat.le_trans (Nat.le_refl _) (Nat.le_of_eq g_10.symm)))) (ninS (Nat.ne_of_lt (Nat.lt_of_lt_of_le hp12.lt (Nat.le_trans E_5.1 g_24))) nin0))).ext E_61).keep K_76 (ninS (Nat.ne_of_lt (Nat.lt_of_lt_of_le hp12.lt (Nat.le_trans (Nat.le_trans (Nat.le_trans E_5.1 K_19.1) K_42.1) (Nat.le_of_eq g_66.symm)))) nin0)).ext E_95).keep K_130 (ninS (Nat.ne_of_lt (Nat.lt_of_lt_of_le hp12.lt (Nat.le_trans (Nat.le_trans (Nat.le_trans E_5.1 K_19.1) K_42.1) (Nat.le_of_eq g_66.symm)))) (ninS (Nat.ne_of_lt (Nat.lt_of_lt_of_le hp12.lt (Nat.le_trans (Nat.le_trans (Nat.le_trans (Nat.le_trans E_5.1 K_19.1) K_42.1) E_61.1) g_81))) nin0))).keep K_151 (ninS (Nat.ne_of_lt (Nat.lt_of_lt_of_le hp12.lt (Nat.le_trans (Nat.le_trans (Nat.le_trans E_5.1 K_19.1) K_42.1) (Nat.le_of_eq g_66.symm)))) (ninS (Nat.ne_of_lt (Nat.lt_of_lt_of_le hp12.lt (Nat.le_trans (Nat.le_trans (Nat.le_trans (Nat.le_trans E_5.1 K_19.1) K_42.1) E_61.1) g_81))) nin0))).keep K_175 nin0).keep K_200 (ninS (Nat.ne_of_lt (Nat.lt_of_lt_of_le hp12.lt (Nat.le_trans (Nat.le_refl _) (Nat.le_of_eq g_10.symm)))) (ninS (Nat.ne_of_lt (Nat.lt_of_lt_of_le hp12.lt (Nat.le_trans E_5.1 g_24))) nin0))).ext E_221).keep K_257 (ninS (Nat.ne_of_lt (Nat.lt_of_lt_of_le hp12.lt (Nat.le_trans (Nat.le_refl _) (Nat.le_of_eq g_10.symm)))) (ninS (Nat.ne_of_lt (Nat.lt_of_lt_of_le hp12.lt (Nat.le_trans E_5.1 g_24))) nin0)))
   have V_348 : Arv Z T_250.heap u ku .byte (2 : Int32) (own_iv [(own_lo8 d0), (own_lo8 d1)]) (.int 0) := ((((((((((((hp15.ext E_5).keep K_19 (ninS (Nat.ne_of_lt (Nat.lt_of_lt_of_le hp15.lt (Nat.le_trans (Nat.le_refl _) (Nat.le_of_eq g_10.symm)))) nin0)).keep K_42 (ninS (Nat.ne_of_lt (Nat.lt_of_lt_of_le hp15.lt (Nat.le_trans (Nat.le_refl _) (Nat.le_of_eq g_10.symm)))) (ninS (Nat.ne_of_lt (Nat.lt_of_lt_of_le hp15.lt (Nat.le_trans E_5.1 g_24))) nin0))).ext E_61).keep K_76 (ninS (Nat.ne_of_lt (Nat.lt_of_lt_of_le hp15.lt (Nat.le_trans (Nat.le_trans (Nat.le_trans E_5.1 K_19.1) K_42.1) (Nat.le_of_eq g_66.symm)))) nin0)).ext E_95).keep K_130 (ninS (Nat.ne_of_lt (Nat.lt_of_lt_of_le hp15.lt (Nat.le_trans (Nat.le_trans (Nat.le_trans E_5.1 K_19.1) K_42.1) (Nat.le_of_eq g_66.symm)))) (ninS (Nat.ne_of_lt (Nat.lt_of_lt_of_le hp15.lt (Nat.le_trans (Nat.le_trans (Nat.le_trans (Nat.le_trans E_5.1 K_19.1) K_42.1) E_61.1) g_81))) nin0))).keep K_151 (ninS (Nat.ne_of_lt (Nat.lt_of_lt_of_le hp15.lt (Nat.le_trans (Nat.le_trans (Nat.le_trans E_5.1 K_19.1) K_42.1) (Nat.le_of_eq g_66.symm)))) (ninS (Nat.ne_of_lt (Nat.lt_of_lt_of_le hp15.lt (Nat.le_trans (Nat.le_trans (Nat.le_trans (Nat.le_trans E_5.1 K_19.1) K_42.1) E_61.1) g_81))) nin0))).keep K_175 nin0).keep K_200 (ninS (Nat.ne_of_lt (Nat.lt_of_lt_of_le hp15.lt (Nat.le_trans (Nat.le_refl _) (Nat.le_of_eq g_10.symm)))) (ninS (Nat.ne_of_lt (Nat.lt_of_lt_of_le hp15.lt (Nat.le_trans E_5.1 g_24))) nin0))).ext E_221).keep K_257 (ninS (Nat.ne_of_lt (Nat.lt_of_lt_of_le hp15.lt (Nat.le_trans (Nat.le_refl _) (Nat.le_of_eq g_10.symm)))) (ninS (Nat.ne_of_lt (Nat.lt_of_lt_of_le hp15.lt (Nat.le_trans E_5.1 g_24))) nin0)))
   have O_349 : Old Z n0 T_250.heap := (O_249.keep K_257 (allS (Nat.le_trans (own_n0 X00) (Nat.le_of_eq g_10.symm)) (allS (Nat.le_trans (own_n0 O_14) g_24) all0)))
   obtain ⟨q_351, q_352, q_353, q_354, q_355⟩ := isOf (T := T_250) hZ_224 rfl g_258
   obtain ⟨_, _, ⟨T_350, L_350, k_350, n_350⟩, -, X_350, ⟨Lc_350, hQ_350, l_350, y_350, z_350⟩, st_350⟩ := X_250.virtualBack hx (y := M480) (z := M480) ho_225 (mvT hZ_224 (w68 hw)) (mvT hZ_224 (w69 hw)) (notFace_of_selects (args := #[]) (mvT hZ_224 (w71 hw))) (mvT hZ_224 (w71 hw)) (mvT hZ_224 (w70 hw)) (by decide) (backOf (W := 1) (rm_sappG l Z a0 hw [] G1 G3 g1 kg1 g2 kg2 uS sS HG T_250.heap n0 O_349 a_9 a_16 k_17 ((([] ++ [(own_lo8 c0), (own_lo8 c1)]) ++ (([] ++ [(58 : Int32)]) ++ (own_dl (own_M ii) (own_dn ii)))) ++ [(58 : Int32), (32 : Int32)]) y u ku [(own_lo8 d0), (own_lo8 d1)] g_258 g_259 g_260 F_344 E_345 F_346 F_347 V_348 g_262 g_263 (Nat.le_trans (own_n0 X00) (Nat.le_of_eq g_10.symm)) (Nat.ne_of_lt (Nat.lt_of_lt_of_le A_6.lt (Nat.le_trans (Nat.le_refl _) g_24))) (Ne.symm (Nat.ne_of_lt (Nat.lt_of_lt_of_le hp12.lt (Nat.le_trans (Nat.le_refl _) (Nat.le_of_eq g_10.symm))))) (by first | rfl | decide | (simp only [List.length_append, List.length_cons, List.length_nil, own_dl_len, own_c16, own_c34]; omega)) (by first | rfl | decide | (simp only [List.length_append, List.length_cons, List.length_nil, own_dl_len, own_c16, own_c34]; omega))) hZ_224 (w72 hw) (w52 hw) (by decide) (by decide)) q_353 q_355 (g := (mkF m 49 #[VR d, VR x, VI ii, VR y] [(.ref y), (.ref a_9), (.ref d)])) rfl (by rw [hml]; rfl) (Steps.refl _) (argsL := [(.ref y)]) (rest := [(.ref d)]) (lenOf pd_857 rfl) rfl (by show 2 * 0 + _ ≤ _; exact Nat.le_of_eq rfl) (hb hby d42_49) (fun _ _ => ⟨rfl, rfl, (by decide : 10 + 1 ≤ _), (by decide : 98 + 34 ≤ _)⟩)
   dsimp only [Pt.U, Pt.locs, Pt.cells, Pt.slots] at X_350 l_350 y_350 z_350 st_350 hQ_350
   have X_350 := own_cast X_350 l_350 y_350 z_350
   obtain ⟨a_356, k_357, rfl, N_358, K_359, g_360, g_361, g_362, g_363, g_364, g_365, g_366, g_367⟩ := hQ_350
   have N_368 := Fr.app N_266 N_358
   have CH_369 : CHv Z consts_1 T_214.vm T_350.heap := CHv.keep K_359 (sfS (Safe.exa hZ_224.alike g_258 (by decide) (by decide)) sf0) CH_268
   have CR_370 : CHr Z consts_1 s.vm h0 T_214.vm T_350.heap := CR_269.trans (CHr.keep K_359 (sfS (Safe.exa hZ_224.alike g_258 (by decide) (by decide)) sf0) CH_268)
   have O_371 : Old Z n0 T_350.heap := (O_349.keep K_359 (allS (Nat.le_trans (own_n0 X00) (Nat.le_of_eq g_10.symm)) all0))
   obtain ⟨q_373, q_374, q_375, q_376, q_377⟩ := isOf (T := T_350) hZ_224 rfl g_360
   obtain ⟨_, _, ⟨T_372, L_372, k_372, n_372⟩, -, X_372, ⟨Lc_372, hQ_372, l_372, y_372, z_372⟩, st_372⟩ := X_350.virtualBack hx (y := M785) (z := M785) ho_225 (mvT hZ_224 (w140 hw)) (mvT hZ_224 (w141 hw)) (notFace_of_selects (args := #[]) (mvT hZ_224 (w143 hw))) (mvT hZ_224 (w143 hw)) (mvT hZ_224 (w142 hw)) (by decide) (backOf (W := 1) (rm_tos l Z a0 hw [] G1 G3 g1 kg1 g2 kg2 uS sS HG T_350.heap n0 O_371 a_9 a_356 k_357 (34 : Int32) (((([] ++ [(own_lo8 c0), (own_lo8 c1)]) ++ (([] ++ [(58 : Int32)]) ++ (own_dl (own_M ii) (own_dn ii)))) ++ [(58 : Int32), (32 : Int32)]) ++ [(own_lo8 d0), (own_lo8 d1)]) (17 : Int32) g_360 g_361 g_362 g_363 g_366 g_365 (by decide) (by decide) g_367 (by first | rfl | decide | (simp only [List.length_append, List.length_cons, List.length_nil, own_dl_len, own_c16, own_c34]; omega)) (by first | rfl | decide | (simp only [List.length_append, List.length_cons, List.length_nil, own_dl_len, own_c16, own_c34]; omega))) hZ_224 (w144 hw) (w52 hw) (by decide) (by decide)) q_375 q_377 (g := (mkF m 52 #[VR d, VR x, VI ii, VR y] [(.ref a_9), (.ref d)])) rfl (by rw [hml]; rfl) (Steps.refl _) (argsL := []) (rest := [(.ref d)]) (lenOf pd_880 rfl) rfl (by show 2 * 0 + _ ≤ _; exact Nat.le_of_eq rfl) (hb hby d42_52) (fun _ _ => ⟨rfl, rfl, (by decide : 11 + 2 ≤ _), (by decide : 132 + 38 ≤ _)⟩)
   dsimp only [Pt.U, Pt.locs, Pt.cells, Pt.slots] at X_372 l_372 y_372 z_372 st_372 hQ_372
   have X_372 := own_cast X_372 l_372 y_372 z_372
   obtain ⟨a_378, a_379, k_380, rfl, N_381, K_382, g_383, g_384, g_385, g_386, g_387, g_388, g_389⟩ := hQ_372
   have N_390 := Fr.app N_368 N_381
   have CH_391 : CHv Z consts_1 T_214.vm T_372.heap := CHv.keep K_382 sf0 CH_369
   have CR_392 : CHr Z consts_1 s.vm h0 T_214.vm T_372.heap := CR_370.trans (CHr.keep K_382 sf0 CH_369)
   have E_393 : Exa Z T_372.heap d "com/example/claimgate/claimgate/config/ConfigException" := ((((((((((((((hp0.ext E_5).keep K_19).keep K_42).ext E_61).keep K_76).ext E_95).keep K_130).keep K_151).keep K_175).keep K_200).ext E_221).keep K_257).keep K_359).keep K_382)
   have U_394 : Unt T_372.heap d := (Unt.keep K_382 nin0 (Unt.keep K_359 (ninS (Nat.ne_of_lt (Nat.lt_of_lt_of_le hp0.lt (Nat.le_trans (Nat.le_refl _) (Nat.le_of_eq g_10.symm)))) nin0) (Unt.keep K_257 (ninS (Nat.ne_of_lt (Nat.lt_of_lt_of_le hp0.lt (Nat.le_trans (Nat.le_refl _) (Nat.le_of_eq g_10.symm)))) (ninS (Nat.ne_of_lt (Nat.lt_of_lt_of_le hp0.lt (Nat.le_trans E_5.1 g_24))) nin0)) ((Unt.keep K_200 (ninS (Nat.ne_of_lt (Nat.lt_of_lt_of_le hp0.lt (Nat.le_trans (Nat.le_refl _) (Nat.le_of_eq g_10.symm)))) (ninS (Nat.ne_of_lt (Nat.lt_of_lt_of_le hp0.lt (Nat.le_trans E_5.1 g_24))) nin0)) (Unt.keep K_175 nin0 (Unt.keep K_151 (ninS (Nat.ne_of_lt (Nat.lt_of_lt_of_le hp0.lt (Nat.le_trans (Nat.le_trans (Nat.le_trans E_5.1 K_19.1) K_42.1) (Nat.le_of_eq g_66.symm)))) (ninS (Nat.ne_of_lt (Nat.lt_of_lt_of_le hp0.lt (Nat.le_trans (Nat.le_trans (Nat.le_trans (Nat.le_trans E_5.1 K_19.1) K_42.1) E_61.1) g_81))) nin0)) (Unt.keep K_130 (ninS (Nat.ne_of_lt (Nat.lt_of_lt_of_le hp0.lt (Nat.le_trans (Nat.le_trans (Nat.le_trans E_5.1 K_19.1) K_42.1) (Nat.le_of_eq g_66.symm)))) (ninS (Nat.ne_of_lt (Nat.lt_of_lt_of_le hp0.lt (Nat.le_trans (Nat.le_trans (Nat.le_trans (Nat.le_trans E_5.1 K_19.1) K_42.1) E_61.1) g_81))) nin0)) ((Unt.keep K_76 (ninS (Nat.ne_of_lt (Nat.lt_of_lt_of_le hp0.lt (Nat.le_trans (Nat.le_trans (Nat.le_trans E_5.1 K_19.1) K_42.1) (Nat.le_of_eq g_66.symm)))) nin0) ((Unt.keep K_42 (ninS (Nat.ne_of_lt (Nat.lt_of_lt_of_le hp0.lt (Nat.le_trans (Nat.le_refl _) (Nat.le_of_eq g_10.symm)))) (ninS (Nat.ne_of_lt (Nat.lt_of_lt_of_le hp0.lt (Nat.le_trans E_5.1 g_24))) nin0)) (Unt.keep K_19 (ninS (Nat.ne_of_lt (Nat.lt_of_lt_of_le hp0.lt (Nat.le_trans (Nat.le_refl _) (Nat.le_of_eq g_10.symm)))) nin0) (hp1.ext E_5))).ext E_61)).ext E_95))))).ext E_221))))
   have F_395 : Fld Z T_372.heap d "java/lang/Throwable" "cause" "Ljava/lang/Throwable;" .null := ((((((((((((((hp2.ext E_5).keep K_19 (ninS (Nat.ne_of_lt (Nat.lt_of_lt_of_le hp0.lt (Nat.le_trans (Nat.le_refl _) (Nat.le_of_eq g_10.symm)))) nin0)).keep K_42 (ninS (Nat.ne_of_lt (Nat.lt_of_lt_of_le hp0.lt (Nat.le_trans (Nat.le_refl _) (Nat.le_of_eq g_10.symm)))) (ninS (Nat.ne_of_lt (Nat.lt_of_lt_of_le hp0.lt (Nat.le_trans E_5.1 g_24))) nin0))).ext E_61).keep K_76 (ninS (Nat.ne_of_lt (Nat.lt_of_lt_of_le hp0.lt (Nat.le_trans (Nat.le_trans (Nat.le_trans E_5.1 K_19.1) K_42.1) (Nat.le_of_eq g_66.symm)))) nin0)).ext E_95).keep K_130 (ninS (Nat.ne_of_lt (Nat.lt_of_lt_of_le hp0.lt (Nat.le_trans (Nat.le_trans (Nat.le_trans E_5.1 K_19.1) K_42.1) (Nat.le_of_eq g_66.symm)))) (ninS (Nat.ne_of_lt (Nat.lt_of_lt_of_le hp0.lt (Nat.le_trans (Nat.le_trans (Nat.le_trans (Nat.le_trans E_5.1 K_19.1) K_42.1) E_61.1) g_81))) nin0))).keep K_151 (ninS (Nat.ne_of_lt (Nat.lt_of_lt_of_le hp0.lt (Nat.le_trans (Nat.le_trans (Nat.le_trans E_5.1 K_19.1) K_42.1) (Nat.le_of_eq g_66.symm)))) (ninS (Nat.ne_of_lt (Nat.lt_of_lt_of_le hp0.lt (Nat.le_trans (Nat.le_trans (Nat.le_trans (Nat.le_trans E_5.1 K_19.1) K_42.1) E_61.1) g_81))) nin0))).keep K_175 nin0).keep K_200 (ninS (Nat.ne_of_lt (Nat.lt_of_lt_of_le hp0.lt (Nat.le_trans (Nat.le_refl _) (Nat.le_of_eq g_10.symm)))) (ninS (Nat.ne_of_lt (Nat.lt_of_lt_of_le hp0.lt (Nat.le_trans E_5.1 g_24))) nin0))).ext E_221).keep K_257 (ninS (Nat.ne_of_lt (Nat.lt_of_lt_of_le hp0.lt (Nat.le_trans (Nat.le_refl _) (Nat.le_of_eq g_10.symm)))) (ninS (Nat.ne_of_lt (Nat.lt_of_lt_of_le hp0.lt (Nat.le_trans E_5.1 g_24))) nin0))).keep K_359 (ninS (Nat.ne_of_lt (Nat.lt_of_lt_of_le hp0.lt (Nat.le_trans (Nat.le_refl _) (Nat.le_of_eq g_10.symm)))) nin0)).keep K_382 nin0)
   have F_396 : Fld Z T_372.heap d "java/lang/Throwable" "stackTrace" "[Ljava/lang/StackTraceElement;" .null := ((((((((((((((hp3.ext E_5).keep K_19 (ninS (Nat.ne_of_lt (Nat.lt_of_lt_of_le hp0.lt (Nat.le_trans (Nat.le_refl _) (Nat.le_of_eq g_10.symm)))) nin0)).keep K_42 (ninS (Nat.ne_of_lt (Nat.lt_of_lt_of_le hp0.lt (Nat.le_trans (Nat.le_refl _) (Nat.le_of_eq g_10.symm)))) (ninS (Nat.ne_of_lt (Nat.lt_of_lt_of_le hp0.lt (Nat.le_trans E_5.1 g_24))) nin0))).ext E_61).keep K_76 (ninS (Nat.ne_of_lt (Nat.lt_of_lt_of_le hp0.lt (Nat.le_trans (Nat.le_trans (Nat.le_trans E_5.1 K_19.1) K_42.1) (Nat.le_of_eq g_66.symm)))) nin0)).ext E_95).keep K_130 (ninS (Nat.ne_of_lt (Nat.lt_of_lt_of_le hp0.lt (Nat.le_trans (Nat.le_trans (Nat.le_trans E_5.1 K_19.1) K_42.1) (Nat.le_of_eq g_66.symm)))) (ninS (Nat.ne_of_lt (Nat.lt_of_lt_of_le hp0.lt (Nat.le_trans (Nat.le_trans (Nat.le_trans (Nat.le_trans E_5.1 K_19.1) K_42.1) E_61.1) g_81))) nin0))).keep K_151 (ninS (Nat.ne_of_lt (Nat.lt_of_lt_of_le hp0.lt (Nat.le_trans (Nat.le_trans (Nat.le_trans E_5.1 K_19.1) K_42.1) (Nat.le_of_eq g_66.symm)))) (ninS (Nat.ne_of_lt (Nat.lt_of_lt_of_le hp0.lt (Nat.le_trans (Nat.le_trans (Nat.le_trans (Nat.le_trans E_5.1 K_19.1) K_42.1) E_61.1) g_81))) nin0))).keep K_175 nin0).keep K_200 (ninS (Nat.ne_of_lt (Nat.lt_of_lt_of_le hp0.lt (Nat.le_trans (Nat.le_refl _) (Nat.le_of_eq g_10.symm)))) (ninS (Nat.ne_of_lt (Nat.lt_of_lt_of_le hp0.lt (Nat.le_trans E_5.1 g_24))) nin0))).ext E_221).keep K_257 (ninS (Nat.ne_of_lt (Nat.lt_of_lt_of_le hp0.lt (Nat.le_trans (Nat.le_refl _) (Nat.le_of_eq g_10.symm)))) (ninS (Nat.ne_of_lt (Nat.lt_of_lt_of_le hp0.lt (Nat.le_trans E_5.1 g_24))) nin0))).keep K_359 (ninS (Nat.ne_of_lt (Nat.lt_of_lt_of_le hp0.lt (Nat.le_trans (Nat.le_refl _) (Nat.le_of_eq g_10.symm)))) nin0)).keep K_382 nin0)
   have F_397 : Fld Z T_372.heap d "java/lang/Throwable" "suppressedExceptions" "Ljava/util/List;" .null := ((((((((((((((hp4.ext E_5).keep K_19 (ninS (Nat.ne_of_lt (Nat.lt_of_lt_of_le hp0.lt (Nat.le_trans (Nat.le_refl _) (Nat.le_of_eq g_10.symm)))) nin0)).keep K_42 (ninS (Nat.ne_of_lt (Nat.lt_of_lt_of_le hp0.lt (Nat.le_trans (Nat.le_refl _) (Nat.le_of_eq g_10.symm)))) (ninS (Nat.ne_of_lt (Nat.lt_of_lt_of_le hp0.lt (Nat.le_trans E_5.1 g_24))) nin0))).ext E_61).keep K_76 (ninS (Nat.ne_of_lt (Nat.lt_of_lt_of_le hp0.lt (Nat.le_trans (Nat.le_trans (Nat.le_trans E_5.1 K_19.1) K_42.1) (Nat.le_of_eq g_66.symm)))) nin0)).ext E_95).keep K_130 (ninS (Nat.ne_of_lt (Nat.lt_of_lt_of_le hp0.lt (Nat.le_trans (Nat.le_trans (Nat.le_trans E_5.1 K_19.1) K_42.1) (Nat.le_of_eq g_66.symm)))) (ninS (Nat.ne_of_lt (Nat.lt_of_lt_of_le hp0.lt (Nat.le_trans (Nat.le_trans (Nat.le_trans (Nat.le_trans E_5.1 K_19.1) K_42.1) E_61.1) g_81))) nin0))).keep K_151 (ninS (Nat.ne_of_lt (Nat.lt_of_lt_of_le hp0.lt (Nat.le_trans (Nat.le_trans (Nat.le_trans E_5.1 K_19.1) K_42.1) (Nat.le_of_eq g_66.symm)))) (ninS (Nat.ne_of_lt (Nat.lt_of_lt_of_le hp0.lt (Nat.le_trans (Nat.le_trans (Nat.le_trans (Nat.le_trans E_5.1 K_19.1) K_42.1) E_61.1) g_81))) nin0))).keep K_175 nin0).keep K_200 (ninS (Nat.ne_of_lt (Nat.lt_of_lt_of_le hp0.lt (Nat.le_trans (Nat.le_refl _) (Nat.le_of_eq g_10.symm)))) (ninS (Nat.ne_of_lt (Nat.lt_of_lt_of_le hp0.lt (Nat.le_trans E_5.1 g_24))) nin0))).ext E_221).keep K_257 (ninS (Nat.ne_of_lt (Nat.lt_of_lt_of_le hp0.lt (Nat.le_trans (Nat.le_refl _) (Nat.le_of_eq g_10.symm)))) (ninS (Nat.ne_of_lt (Nat.lt_of_lt_of_le hp0.lt (Nat.le_trans E_5.1 g_24))) nin0))).keep K_359 (ninS (Nat.ne_of_lt (Nat.lt_of_lt_of_le hp0.lt (Nat.le_trans (Nat.le_refl _) (Nat.le_of_eq g_10.symm)))) nin0)).keep K_382 nin0)
   have F_398 : Fld Z T_372.heap d "java/lang/Throwable" "backtrace" "Ljava/lang/Object;" .null := ((((((((((((((hp5.ext E_5).keep K_19 (ninS (Nat.ne_of_lt (Nat.lt_of_lt_of_le hp0.lt (Nat.le_trans (Nat.le_refl _) (Nat.le_of_eq g_10.symm)))) nin0)).keep K_42 (ninS (Nat.ne_of_lt (Nat.lt_of_lt_of_le hp0.lt (Nat.le_trans (Nat.le_refl _) (Nat.le_of_eq g_10.symm)))) (ninS (Nat.ne_of_lt (Nat.lt_of_lt_of_le hp0.lt (Nat.le_trans E_5.1 g_24))) nin0))).ext E_61).keep K_76 (ninS (Nat.ne_of_lt (Nat.lt_of_lt_of_le hp0.lt (Nat.le_trans (Nat.le_trans (Nat.le_trans E_5.1 K_19.1) K_42.1) (Nat.le_of_eq g_66.symm)))) nin0)).ext E_95).keep K_130 (ninS (Nat.ne_of_lt (Nat.lt_of_lt_of_le hp0.lt (Nat.le_trans (Nat.le_trans (Nat.le_trans E_5.1 K_19.1) K_42.1) (Nat.le_of_eq g_66.symm)))) (ninS (Nat.ne_of_lt (Nat.lt_of_lt_of_le hp0.lt (Nat.le_trans (Nat.le_trans (Nat.le_trans (Nat.le_trans E_5.1 K_19.1) K_42.1) E_61.1) g_81))) nin0))).keep K_151 (ninS (Nat.ne_of_lt (Nat.lt_of_lt_of_le hp0.lt (Nat.le_trans (Nat.le_trans (Nat.le_trans E_5.1 K_19.1) K_42.1) (Nat.le_of_eq g_66.symm)))) (ninS (Nat.ne_of_lt (Nat.lt_of_lt_of_le hp0.lt (Nat.le_trans (Nat.le_trans (Nat.le_trans (Nat.le_trans E_5.1 K_19.1) K_42.1) E_61.1) g_81))) nin0))).keep K_175 nin0).keep K_200 (ninS (Nat.ne_of_lt (Nat.lt_of_lt_of_le hp0.lt (Nat.le_trans (Nat.le_refl _) (Nat.le_of_eq g_10.symm)))) (ninS (Nat.ne_of_lt (Nat.lt_of_lt_of_le hp0.lt (Nat.le_trans E_5.1 g_24))) nin0))).ext E_221).keep K_257 (ninS (Nat.ne_of_lt (Nat.lt_of_lt_of_le hp0.lt (Nat.le_trans (Nat.le_refl _) (Nat.le_of_eq g_10.symm)))) (ninS (Nat.ne_of_lt (Nat.lt_of_lt_of_le hp0.lt (Nat.le_trans E_5.1 g_24))) nin0))).keep K_359 (ninS (Nat.ne_of_lt (Nat.lt_of_lt_of_le hp0.lt (Nat.le_trans (Nat.le_refl _) (Nat.le_of_eq g_10.symm)))) nin0)).keep K_382 nin0)
   have F_399 : Fld Z T_372.heap d "java/lang/Throwable" "detailMessage" "Ljava/lang/String;" .null := ((((((((((((((hp6.ext E_5).keep K_19 (ninS (Nat.ne_of_lt (Nat.lt_of_lt_of_le hp0.lt (Nat.le_trans (Nat.le_refl _) (Nat.le_of_eq g_10.symm)))) nin0)).keep K_42 (ninS (Nat.ne_of_lt (Nat.lt_of_lt_of_le hp0.lt (Nat.le_trans (Nat.le_refl _) (Nat.le_of_eq g_10.symm)))) (ninS (Nat.ne_of_lt (Nat.lt_of_lt_of_le hp0.lt (Nat.le_trans E_5.1 g_24))) nin0))).ext E_61).keep K_76 (ninS (Nat.ne_of_lt (Nat.lt_of_lt_of_le hp0.lt (Nat.le_trans (Nat.le_trans (Nat.le_trans E_5.1 K_19.1) K_42.1) (Nat.le_of_eq g_66.symm)))) nin0)).ext E_95).keep K_130 (ninS (Nat.ne_of_lt (Nat.lt_of_lt_of_le hp0.lt (Nat.le_trans (Nat.le_trans (Nat.le_trans E_5.1 K_19.1) K_42.1) (Nat.le_of_eq g_66.symm)))) (ninS (Nat.ne_of_lt (Nat.lt_of_lt_of_le hp0.lt (Nat.le_trans (Nat.le_trans (Nat.le_trans (Nat.le_trans E_5.1 K_19.1) K_42.1) E_61.1) g_81))) nin0))).keep K_151 (ninS (Nat.ne_of_lt (Nat.lt_of_lt_of_le hp0.lt (Nat.le_trans (Nat.le_trans (Nat.le_trans E_5.1 K_19.1) K_42.1) (Nat.le_of_eq g_66.symm)))) (ninS (Nat.ne_of_lt (Nat.lt_of_lt_of_le hp0.lt (Nat.le_trans (Nat.le_trans (Nat.le_trans (Nat.le_trans E_5.1 K_19.1) K_42.1) E_61.1) g_81))) nin0))).keep K_175 nin0).keep K_200 (ninS (Nat.ne_of_lt (Nat.lt_of_lt_of_le hp0.lt (Nat.le_trans (Nat.le_refl _) (Nat.le_of_eq g_10.symm)))) (ninS (Nat.ne_of_lt (Nat.lt_of_lt_of_le hp0.lt (Nat.le_trans E_5.1 g_24))) nin0))).ext E_221).keep K_257 (ninS (Nat.ne_of_lt (Nat.lt_of_lt_of_le hp0.lt (Nat.le_trans (Nat.le_refl _) (Nat.le_of_eq g_10.symm)))) (ninS (Nat.ne_of_lt (Nat.lt_of_lt_of_le hp0.lt (Nat.le_trans E_5.1 g_24))) nin0))).keep K_359 (ninS (Nat.ne_of_lt (Nat.lt_of_lt_of_le hp0.lt (Nat.le_trans (Nat.le_refl _) (Nat.le_of_eq g_10.symm)))) nin0)).keep K_382 nin0)
   have O_400 : Old Z n0 T_372.heap := (O_371.keep K_382 all0)
   obtain ⟨_, _, ⟨T_401, L_401, k_401, n_401⟩, -, Y_401, S_401, G_401, ⟨Lc_401, hQ_401, l_401, y_401, z_401, R_401⟩, st_401⟩ := X_372.specialBackS hx (y := M829) rfl ho_225 (mvT hZ_224 (w182 hw)) (mvT hZ_224 (w183 hw)) (mvT hZ_224 (w186 hw)) (by decide) (backOfSKH (vm0 := T_214.vm) (W := 0) (rm_ex0 l Z a0 hw [] G1 G3 g1 kg1 g2 kg2 uS sS HG T_372.heap n0 O_400 d a_378 E_393 U_394 F_395 F_396 F_397 F_398 F_399 hp7) hZ_224 (w186 hw) (w185 hw) (by decide) (by decide) hEL CH_391 hTK_240 hBL_241) (g := (mkF m 55 #[VR d, VR x, VI ii, VR y] [(.ref a_378), (.ref d)])) rfl (by rw [hml]; rfl) (Steps.refl _) (a := d) (argsL := [(.ref a_378)]) (rest := []) (lenOf pd_292 rfl) rfl (by show 2 * 0 + _ ≤ _; exact Nat.le_of_eq rfl) (hb hby d42_55) (fun _ _ => ⟨rfl, rfl, (by decide : 13 + 1 ≤ _), (by decide : 170 + 2752 ≤ _)⟩)
   dsimp only [Pt.U, Pt.locs, Pt.cells, Pt.slots] at Y_401 S_401 G_401 l_401 y_401 z_401 st_401 hQ_401 R_401
   have Y_401 := own_cast Y_401 l_401 y_401 z_401
   obtain ⟨X_401, hS_401, hZ_401, hown_401⟩ := rebS S_222 (n1 := T_372.heap.size) (by rw [show T_372.heap = T_372.heap from rfl]; exact (Nat.le_trans hk_223 (Nat.le_trans (Nat.le_trans K_257.1 K_359.1) K_382.1))) Y_401 S_401 G_401 hZ_224 ho_225
   obtain ⟨rfl, N_402, K_403, g_404, g_405⟩ := hQ_401
   have N_406 := Fr.app N_390 N_402
   have CH_407 : CHv Z consts_1 T_401.vm T_401.heap := R_401.1
   have CR_408 : CHr Z consts_1 s.vm h0 T_401.vm T_401.heap := CR_392.trans R_401
   have hTK_409 : (s.setVm T_401.vm).vm.MethodsKnown := Vm.MethodsKnown.alikeC (hS_401.1.alike) hTK0
   have hBL_410 : (s.setVm T_401.vm).vm.FramesKnown below := Vm.FramesKnown.alikeC (hS_401.1.alike) hBL0
   have C_411 : Steps p.tables e below S0 (T_401.setTop (mkF m 58 #[VR d, VR x, VI ii, VR y] [])) := by
    refine C_270.trans ?_
    refine XS.aloadN X_250.here hx rfl (hb hby d42_48) rfl rfl ?_
    refine st_350.trans ?_
    refine st_372.trans ?_
    refine st_401.trans ?_
    exact Steps.refl _
   have V_412 : Arv Z T_401.heap a_379 k_380 .byte (17 : Int32) (own_iv (((([] ++ [(own_lo8 c0), (own_lo8 c1)]) ++ (([] ++ [(58 : Int32)]) ++ (own_dl (own_M ii) (own_dn ii)))) ++ [(58 : Int32), (32 : Int32)]) ++ [(own_lo8 d0), (own_lo8 d1)])) (.int 0) := (g_388.keep K_403 (ninS (Ne.symm (Nat.ne_of_lt (Nat.lt_of_lt_of_le hp0.lt (Nat.le_trans (Nat.le_trans (Nat.le_trans (Nat.le_trans (Nat.le_trans (Nat.le_trans (Nat.le_trans (Nat.le_trans (Nat.le_trans (Nat.le_trans (Nat.le_trans (Nat.le_trans (Nat.le_trans E_5.1 K_19.1) K_42.1) E_61.1) K_76.1) E_95.1) K_130.1) K_151.1) K_175.1) K_200.1) E_221.1) K_257.1) K_359.1) g_387)))) nin0))
   have E_413 : Exa Z T_401.heap a_378 "java/lang/String" := (g_384.keep K_403)
   have F_414 : Fld Z T_401.heap a_378 "java/lang/String" "coder" "B" (.int 0) := (g_385.keep K_403 (ninS (Ne.symm (Nat.ne_of_lt (Nat.lt_of_lt_of_le hp0.lt (Nat.le_trans (Nat.le_trans (Nat.le_trans (Nat.le_trans (Nat.le_trans (Nat.le_trans (Nat.le_trans (Nat.le_trans (Nat.le_trans (Nat.le_trans (Nat.le_trans (Nat.le_trans (Nat.le_trans E_5.1 K_19.1) K_42.1) E_61.1) K_76.1) E_95.1) K_130.1) K_151.1) K_175.1) K_200.1) E_221.1) K_257.1) K_359.1) g_383)))) nin0))
   have F_415 : Fld Z T_401.heap a_378 "java/lang/String" "value" "[B" (.ref a_379) := (g_386.keep K_403 (ninS (Ne.symm (Nat.ne_of_lt (Nat.lt_of_lt_of_le hp0.lt (Nat.le_trans (Nat.le_trans (Nat.le_trans (Nat.le_trans (Nat.le_trans (Nat.le_trans (Nat.le_trans (Nat.le_trans (Nat.le_trans (Nat.le_trans (Nat.le_trans (Nat.le_trans (Nat.le_trans E_5.1 K_19.1) K_42.1) E_61.1) K_76.1) E_95.1) K_130.1) K_151.1) K_175.1) K_200.1) E_221.1) K_257.1) K_359.1) g_383)))) nin0))
   have K_416 : Keep h0 T_401.heap [d] := ((((((((((((((((Keep.refl _ _).ext E_5).trans K_19 (allS (Or.inr (Nat.le_trans (Nat.le_refl _) (Nat.le_of_eq g_10.symm))) all0)).trans K_42 (allS (Or.inr (Nat.le_trans (Nat.le_refl _) (Nat.le_of_eq g_10.symm))) (allS (Or.inr (Nat.le_trans E_5.1 g_24)) all0))).ext E_61).trans K_76 (allS (Or.inr (Nat.le_trans (Nat.le_trans (Nat.le_trans E_5.1 K_19.1) K_42.1) (Nat.le_of_eq g_66.symm))) all0)).ext E_95).trans K_130 (allS (Or.inr (Nat.le_trans (Nat.le_trans (Nat.le_trans E_5.1 K_19.1) K_42.1) (Nat.le_of_eq g_66.symm))) (allS (Or.inr (Nat.le_trans (Nat.le_trans (Nat.le_trans (Nat.le_trans E_5.1 K_19.1) K_42.1) E_61.1) g_81)) all0))).trans K_151 (allS (Or.inr (Nat.le_trans (Nat.le_trans (Nat.le_trans E_5.1 K_19.1) K_42.1) (Nat.le_of_eq g_66.symm))) (allS (Or.inr (Nat.le_trans (Nat.le_trans (Nat.le_trans (Nat.le_trans E_5.1 K_19.1) K_42.1) E_61.1) g_81)) all0))).trans K_175 all0).trans K_200 (allS (Or.inr (Nat.le_trans (Nat.le_refl _) (Nat.le_of_eq g_10.symm))) (allS (Or.inr (Nat.le_trans E_5.1 g_24)) all0))).ext E_221).trans K_257 (allS (Or.inr (Nat.le_trans (Nat.le_refl _) (Nat.le_of_eq g_10.symm))) (allS (Or.inr (Nat.le_trans E_5.1 g_24)) all0))).trans K_359 (allS (Or.inr (Nat.le_trans (Nat.le_refl _) (Nat.le_of_eq g_10.symm))) all0)).trans K_382 all0).trans K_403 (allS (Or.inl (List.mem_of_getElem? (i := 0) rfl)) all0))
   obtain ⟨fs, hr, hrun, hended, hRE⟩ := X_401.leaveW hS_401 (by rw [show T_401.heap = T_401.heap from rfl]; exact (Nat.le_refl _)) (v := none) (fun _ => rfl)
   refine ⟨_, _, C_411.trans (X_401.returnOut hx Bd.returns (hb hby d42_58) hr), hrun, hended, _, _, rfl, ?_, ?_, hRE.1, hRE.2.1, hRE.2.2.1, hRE.2.2.2.mono (by decide) (by decide)⟩
   ·show Q_cei Z G1 G3 g1 kg1 g2 kg2 uS sS d x t kt c0 c1 ii y u ku d0 d1 h0 n0 (none) T_401.heap _
    exact ⟨a_378, a_379, k_380, rfl, N_406, K_416, g_404, g_405, E_413, F_414, F_415, (own_fin V_412 (own_tl10 hc_56 hd_343) (own_txpos hc_56))⟩
   ·show CHr Z consts_1 s.vm s.heap T_401.vm T_401.heap
    rw [hh]
    exact CR_408.trans (CHv.at X_401 hZ_401 hEL CH_407)
 ·skip
  obtain ⟨a_417, T_418, h_419, k1_420, b_421, k_422, X_423, e_424, E_425, S_426, hk_427, hZ_428, ho_429, Ex_430, Fc_431, Fv_432, Va_433, la_434, lb_435, R_436, L_437, Sf_438, st_439⟩ := ldcCH (vm0 := s.vm) X_35 hx hZ hown (w284 hw) hSA rfl hS0 (Nat.le_trans (Nat.le_refl _) (Nat.le_trans (Nat.le_trans E_5.1 K_19.1) K_42.1)) hEL (by decide) CH_53 (vs := []) (z := (0 : Int32)) ⟨by decide, by decide⟩ (by decide) (by decide) (g := (mkF m 38 #[VR d, VR x, VI ii, VR y] [(.ref a_9), (.ref d)])) rfl (hb hby d42_38) (n := 0) (by decide) (by decide) (by decide) (by decide)
  have CH_440 : CHv Z consts_1 T_418.vm h_419 := R_436.1
  have CR_441 : CHr Z consts_1 s.vm h0 T_418.vm h_419 := CR_54.trans R_436
  have Sf_442 : Safe Z consts_1 T_418.vm h_419 a_16 := (CHr.safe R_436 (own_lt g_25.lt K_42.1) (Safe.keep K_42 (sfS (Safe.exa hZ.alike g_20 (by decide) (by decide)) (sfS Sf_52 sf0)) CH_28 Sf_52))
  have hTK_443 : (s.setVm T_418.vm).vm.MethodsKnown := Vm.MethodsKnown.alikeC (S_426.1.alike) hTK0
  have hBL_444 : (s.setVm T_418.vm).vm.FramesKnown below := Vm.FramesKnown.alikeC (S_426.1.alike) hBL0
  have V_445 : Arv Z h_419 b_421 k_422 .byte (0 : Int32) (own_iv []) (.int 0) := Va_433
  have E_446 : Exa Z h_419 a_9 "java/lang/StringBuilder" := (g_43.ext E_425)
  have F_447 : Fld Z h_419 a_9 "java/lang/AbstractStringBuilder" "value" "[B" (.ref a_16) := (g_44.ext E_425)
  have F_448 : Fld Z h_419 a_9 "java/lang/AbstractStringBuilder" "coder" "B" (.int 0) := (g_45.ext E_425)
  have F_449 : Fld Z h_419 a_9 "java/lang/AbstractStringBuilder" "count" "I" (.int ((0 : Int32) + (2 : Int32))) := (g_46.ext E_425)
  have V_450 : Arv Z h_419 a_16 k_17 .byte (16 : Int32) (own_iv (own_sb ([] ++ [(own_lo8 c0), (own_lo8 c1)]) (16 : Int32).toNatClampNeg)) (.int 0) := (g_47.ext E_425)
  have E_451 : Exa Z h_419 a_16 "[B" := (g_48.ext E_425)
  have O_452 : Old Z n0 h_419 := ((O_34.keep K_42 (allS (Nat.le_trans (own_n0 X00) (Nat.le_of_eq g_10.symm)) (allS (Nat.le_trans (own_n0 O_14) g_24) all0))).ext E_425)
  obtain ⟨q_454, q_455, q_456, q_457, q_458⟩ := isOf (T := T_418) hZ_428 e_424 E_446
  obtain ⟨_, _, ⟨T_453, L_453, k_453, n_453⟩, -, X_453, ⟨Lc_453, hQ_453, l_453, y_453, z_453⟩, st_453⟩ := X_423.virtualBack hx (y := M480) (z := M480) ho_429 (mvT hZ_428 (w68 hw)) (mvT hZ_428 (w69 hw)) (notFace_of_selects (args := #[]) (mvT hZ_428 (w71 hw))) (mvT hZ_428 (w71 hw)) (mvT hZ_428 (w70 hw)) (by decide) (backOf (W := 1) (rm_sapp l Z a0 hw [] G1 G3 g1 kg1 g2 kg2 uS sS HG h_419 n0 O_452 a_9 a_16 k_17 (16 : Int32) ([] ++ [(own_lo8 c0), (own_lo8 c1)]) ((0 : Int32) + (2 : Int32)) a_417 b_421 k_422 (0 : Int32) [] E_446 F_447 F_448 F_449 Ex_430 Fc_431 Fv_432 V_445 V_450 E_451 (Nat.le_trans (own_n0 X00) (Nat.le_of_eq g_10.symm)) (Nat.le_trans (own_n0 O_14) g_24) (Nat.ne_of_lt (Nat.lt_of_lt_of_le A_6.lt (Nat.le_trans (Nat.le_refl _) g_24))) (Exa.ne E_446 Ex_430 (by decide)) g_50 (by decide) g_49 (by first | rfl | decide | (simp only [List.length_append, List.length_cons, List.length_nil, own_dl_len, own_c16, own_c34]; omega)) (by decide) (by first | rfl | decide | (simp only [List.length_append, List.length_cons, List.length_nil, own_dl_len, own_c16, own_c34]; omega)) (by first | rfl | decide | (simp only [List.length_append, List.length_cons, List.length_nil, own_dl_len, own_c16, own_c34]; omega))) hZ_428 (w72 hw) (w52 hw) (by decide) (by decide)) q_456 q_458 (g := (mkF m 40 #[VR d, VR x, VI ii, VR y] [(.ref a_417), (.ref a_9), (.ref d)])) rfl (by rw [hml]; rfl) (Steps.refl _) (argsL := [(.ref a_417)]) (rest := [(.ref d)]) (lenOf pd_857 rfl) rfl (by show 2 * 0 + _ ≤ _; exact Nat.le_of_eq rfl) (hb hby d42_40) (fun _ _ => ⟨rfl, e_424, (by decide : 4 + 0 ≤ _), (by decide : 24 + 0 ≤ _)⟩)
  dsimp only [Pt.U, Pt.locs, Pt.cells, Pt.slots] at X_453 l_453 y_453 z_453 st_453 hQ_453
  have X_453 := own_cast X_453 l_453 y_453 z_453
  obtain ⟨rfl, N_459, K_460, g_461, g_462, g_463, g_464, g_465, g_466, g_467, g_468⟩ := hQ_453
  have N_469 := Fr.app N_51 N_459
  have Sf_470 : Safe Z consts_1 T_418.vm h_419 a_16 := Sf_442
  have CH_471 : CHv Z consts_1 T_418.vm T_453.heap := CHv.keep K_460 (sfS (Safe.exa hZ_428.alike E_446 (by decide) (by decide)) (sfS Sf_470 sf0)) CH_440
  have CR_472 : CHr Z consts_1 s.vm h0 T_418.vm T_453.heap := CR_441.trans (CHr.keep K_460 (sfS (Safe.exa hZ_428.alike E_446 (by decide) (by decide)) (sfS Sf_470 sf0)) CH_440)
  obtain ⟨a_473, T_474, h_475, k1_476, b_477, k_478, X_479, e_480, E_481, S_482, hk_483, hZ_484, ho_485, Ex_486, Fc_487, Fv_488, Va_489, la_490, lb_491, R_492, L_493, Sf_494, st_495⟩ := ldcCH (vm0 := T_418.vm) X_453 hx hZ_428 ho_429 (w181 hw) hSA rfl S_426 (Nat.le_trans hk_427 K_460.1) hEL (by decide) CH_471 (vs := [(.int 58), (.int 32)]) (z := (2 : Int32)) ⟨by decide, by decide⟩ (by decide) (by decide) (g := (mkF m 43 #[VR d, VR x, VI ii, VR y] [(.ref a_9), (.ref d)])) rfl (hb hby d42_43) (n := 8) (by decide) (by decide) (by decide) (by decide)
  have CH_496 : CHv Z consts_1 T_474.vm h_475 := R_492.1
  have CR_497 : CHr Z consts_1 s.vm h0 T_474.vm h_475 := CR_472.trans R_492
  have Sf_498 : Safe Z consts_1 T_474.vm h_475 a_16 := (CHr.safe R_492 (own_lt g_25.lt (Nat.le_trans (Nat.le_trans K_42.1 E_425.1) K_460.1)) (Safe.keep K_460 (sfS (Safe.exa hZ_428.alike E_446 (by decide) (by decide)) (sfS Sf_470 sf0)) CH_440 Sf_470))
  have hTK_499 : (s.setVm T_474.vm).vm.MethodsKnown := Vm.MethodsKnown.alikeC (S_482.1.alike) hTK0
  have hBL_500 : (s.setVm T_474.vm).vm.FramesKnown below := Vm.FramesKnown.alikeC (S_482.1.alike) hBL0
  have V_501 : Arv Z h_475 b_477 k_478 .byte (2 : Int32) (own_iv [(58 : Int32), (32 : Int32)]) (.int 0) := Va_489
  have E_502 : Exa Z h_475 a_9 "java/lang/StringBuilder" := (g_461.ext E_481)
  have F_503 : Fld Z h_475 a_9 "java/lang/AbstractStringBuilder" "value" "[B" (.ref a_16) := (g_462.ext E_481)
  have F_504 : Fld Z h_475 a_9 "java/lang/AbstractStringBuilder" "coder" "B" (.int 0) := (g_463.ext E_481)
  have F_505 : Fld Z h_475 a_9 "java/lang/AbstractStringBuilder" "count" "I" (.int (((0 : Int32) + (2 : Int32)) + (0 : Int32))) := (g_464.ext E_481)
  have V_506 : Arv Z h_475 a_16 k_17 .byte (16 : Int32) (own_iv (own_sb (([] ++ [(own_lo8 c0), (own_lo8 c1)]) ++ []) (16 : Int32).toNatClampNeg)) (.int 0) := (g_465.ext E_481)
  have E_507 : Exa Z h_475 a_16 "[B" := (g_466.ext E_481)
  have O_508 : Old Z n0 h_475 := ((O_452.keep K_460 (allS (Nat.le_trans (own_n0 X00) (Nat.le_of_eq g_10.symm)) (allS (Nat.le_trans (own_n0 O_14) g_24) all0))).ext E_481)
  obtain ⟨q_510, q_511, q_512, q_513, q_514⟩ := isOf (T := T_474) hZ_484 e_480 E_502
  obtain ⟨_, _, ⟨T_509, L_509, k_509, n_509⟩, -, X_509, ⟨Lc_509, hQ_509, l_509, y_509, z_509⟩, st_509⟩ := X_479.virtualBack hx (y := M480) (z := M480) ho_485 (mvT hZ_484 (w68 hw)) (mvT hZ_484 (w69 hw)) (notFace_of_selects (args := #[]) (mvT hZ_484 (w71 hw))) (mvT hZ_484 (w71 hw)) (mvT hZ_484 (w70 hw)) (by decide) (backOf (W := 1) (rm_sapp l Z a0 hw [] G1 G3 g1 kg1 g2 kg2 uS sS HG h_475 n0 O_508 a_9 a_16 k_17 (16 : Int32) (([] ++ [(own_lo8 c0), (own_lo8 c1)]) ++ []) (((0 : Int32) + (2 : Int32)) + (0 : Int32)) a_473 b_477 k_478 (2 : Int32) [(58 : Int32), (32 : Int32)] E_502 F_503 F_504 F_505 Ex_486 Fc_487 Fv_488 V_501 V_506 E_507 (Nat.le_trans (own_n0 X00) (Nat.le_of_eq g_10.symm)) (Nat.le_trans (own_n0 O_14) g_24) (Nat.ne_of_lt (Nat.lt_of_lt_of_le A_6.lt (Nat.le_trans (Nat.le_refl _) g_24))) (Exa.ne E_502 Ex_486 (by decide)) g_468 (by decide) g_467 (by first | rfl | decide | (simp only [List.length_append, List.length_cons, List.length_nil, own_dl_len, own_c16, own_c34]; omega)) (by decide) (by first | rfl | decide | (simp only [List.length_append, List.length_cons, List.length_nil, own_dl_len, own_c16, own_c34]; omega)) (by first | rfl | decide | (simp only [List.length_append, List.length_cons, List.length_nil, own_dl_len, own_c16, own_c34]; omega))) hZ_484 (w72 hw) (w52 hw) (by decide) (by decide)) q_512 q_514 (g := (mkF m 45 #[VR d, VR x, VI ii, VR y] [(.ref a_473), (.ref a_9), (.ref d)])) rfl (by rw [hml]; rfl) (Steps.refl _) (argsL := [(.ref a_473)]) (rest := [(.ref d)]) (lenOf pd_857 rfl) rfl (by show 2 * 0 + _ ≤ _; exact Nat.le_of_eq rfl) (hb hby d42_45) (fun _ _ => ⟨rfl, e_480, (by decide : 6 + 0 ≤ _), (by decide : 36 + 0 ≤ _)⟩)
  dsimp only [Pt.U, Pt.locs, Pt.cells, Pt.slots] at X_509 l_509 y_509 z_509 st_509 hQ_509
  have X_509 := own_cast X_509 l_509 y_509 z_509
  obtain ⟨rfl, N_515, K_516, g_517, g_518, g_519, g_520, g_521, g_522, g_523, g_524⟩ := hQ_509
  have N_525 := Fr.app N_469 N_515
  have Sf_526 : Safe Z consts_1 T_474.vm h_475 a_16 := Sf_498
  have CH_527 : CHv Z consts_1 T_474.vm T_509.heap := CHv.keep K_516 (sfS (Safe.exa hZ_484.alike E_502 (by decide) (by decide)) (sfS Sf_526 sf0)) CH_496
  have CR_528 : CHr Z consts_1 s.vm h0 T_474.vm T_509.heap := CR_497.trans (CHr.keep K_516 (sfS (Safe.exa hZ_484.alike E_502 (by decide) (by decide)) (sfS Sf_526 sf0)) CH_496)
  have E_529 : Exa Z T_509.heap y "java/lang/String" := (((((((hp12.ext E_5).keep K_19).keep K_42).ext E_425).keep K_460).ext E_481).keep K_516)
  have F_530 : Fld Z T_509.heap y "java/lang/String" "coder" "B" (.int 0) := (((((((hp13.ext E_5).keep K_19 (ninS (Nat.ne_of_lt (Nat.lt_of_lt_of_le hp12.lt (Nat.le_trans (Nat.le_refl _) (Nat.le_of_eq g_10.symm)))) nin0)).keep K_42 (ninS (Nat.ne_of_lt (Nat.lt_of_lt_of_le hp12.lt (Nat.le_trans (Nat.le_refl _) (Nat.le_of_eq g_10.symm)))) (ninS (Nat.ne_of_lt (Nat.lt_of_lt_of_le hp12.lt (Nat.le_trans E_5.1 g_24))) nin0))).ext E_425).keep K_460 (ninS (Nat.ne_of_lt (Nat.lt_of_lt_of_le hp12.lt (Nat.le_trans (Nat.le_refl _) (Nat.le_of_eq g_10.symm)))) (ninS (Nat.ne_of_lt (Nat.lt_of_lt_of_le hp12.lt (Nat.le_trans E_5.1 g_24))) nin0))).ext E_481).keep K_516 (ninS (Nat.ne_of_lt (Nat.lt_of_lt_of_le hp12.lt (Nat.le_trans (Nat.le_refl _) (Nat.le_of_eq g_10.symm)))) (ninS (Nat.ne_of_lt (Nat.lt_of_lt_of_le hp12.lt (Nat.le_trans E_5.1 g_24))) nin0)))
  have F_531 : Fld Z T_509.heap y "java/lang/String" "value" "[B" (.ref u) := (((((((hp14.ext E_5).keep K_19 (ninS (Nat.ne_of_lt (Nat.lt_of_lt_of_le hp12.lt (Nat.le_trans (Nat.le_refl _) (Nat.le_of_eq g_10.symm)))) nin0)).keep K_42 (ninS (Nat.ne_of_lt (Nat.lt_of_lt_of_le hp12.lt (Nat.le_trans (Nat.le_refl _) (Nat.le_of_eq g_10.symm)))) (ninS (Nat.ne_of_lt (Nat.lt_of_lt_of_le hp12.lt (Nat.le_trans E_5.1 g_24))) nin0))).ext E_425).keep K_460 (ninS (Nat.ne_of_lt (Nat.lt_of_lt_of_le hp12.lt (Nat.le_trans (Nat.le_refl _) (Nat.le_of_eq g_10.symm)))) (ninS (Nat.ne_of_lt (Nat.lt_of_lt_of_le hp12.lt (Nat.le_trans E_5.1 g_24))) nin0))).ext E_481).keep K_516 (ninS (Nat.ne_of_lt (Nat.lt_of_lt_of_le hp12.lt (Nat.le_trans (Nat.le_refl _) (Nat.le_of_eq g_10.symm)))) (ninS (Nat.ne_of_lt (Nat.lt_of_lt_of_le hp12.lt (Nat.le_trans E_5.1 g_24))) nin0)))
  have V_532 : Arv Z T_509.heap u ku .byte (2 : Int32) (own_iv [(own_lo8 d0), (own_lo8 d1)]) (.int 0) := (((((((hp15.ext E_5).keep K_19 (ninS (Nat.ne_of_lt (Nat.lt_of_lt_of_le hp15.lt (Nat.le_trans (Nat.le_refl _) (Nat.le_of_eq g_10.symm)))) nin0)).keep K_42 (ninS (Nat.ne_of_lt (Nat.lt_of_lt_of_le hp15.lt (Nat.le_trans (Nat.le_refl _) (Nat.le_of_eq g_10.symm)))) (ninS (Nat.ne_of_lt (Nat.lt_of_lt_of_le hp15.lt (Nat.le_trans E_5.1 g_24))) nin0))).ext E_425).keep K_460 (ninS (Nat.ne_of_lt (Nat.lt_of_lt_of_le hp15.lt (Nat.le_trans (Nat.le_refl _) (Nat.le_of_eq g_10.symm)))) (ninS (Nat.ne_of_lt (Nat.lt_of_lt_of_le hp15.lt (Nat.le_trans E_5.1 g_24))) nin0))).ext E_481).keep K_516 (ninS (Nat.ne_of_lt (Nat.lt_of_lt_of_le hp15.lt (Nat.le_trans (Nat.le_refl _) (Nat.le_of_eq g_10.symm)))) (ninS (Nat.ne_of_lt (Nat.lt_of_lt_of_le hp15.lt (Nat.le_trans E_5.1 g_24))) nin0)))
  have O_533 : Old Z n0 T_509.heap := (O_508.keep K_516 (allS (Nat.le_trans (own_n0 X00) (Nat.le_of_eq g_10.symm)) (allS (Nat.le_trans (own_n0 O_14) g_24) all0)))
  obtain ⟨q_535, q_536, q_537, q_538, q_539⟩ := isOf (T := T_509) hZ_484 rfl g_517
  obtain ⟨_, _, ⟨T_534, L_534, k_534, n_534⟩, -, X_534, ⟨Lc_534, hQ_534, l_534, y_534, z_534⟩, st_534⟩ := X_509.virtualBack hx (y := M480) (z := M480) ho_485 (mvT hZ_484 (w68 hw)) (mvT hZ_484 (w69 hw)) (notFace_of_selects (args := #[]) (mvT hZ_484 (w71 hw))) (mvT hZ_484 (w71 hw)) (mvT hZ_484 (w70 hw)) (by decide) (backOf (W := 1) (rm_sapp l Z a0 hw [] G1 G3 g1 kg1 g2 kg2 uS sS HG T_509.heap n0 O_533 a_9 a_16 k_17 (16 : Int32) ((([] ++ [(own_lo8 c0), (own_lo8 c1)]) ++ []) ++ [(58 : Int32), (32 : Int32)]) ((((0 : Int32) + (2 : Int32)) + (0 : Int32)) + (2 : Int32)) y u ku (2 : Int32) [(own_lo8 d0), (own_lo8 d1)] g_517 g_518 g_519 g_520 E_529 F_530 F_531 V_532 g_521 g_522 (Nat.le_trans (own_n0 X00) (Nat.le_of_eq g_10.symm)) (Nat.le_trans (own_n0 O_14) g_24) (Nat.ne_of_lt (Nat.lt_of_lt_of_le A_6.lt (Nat.le_trans (Nat.le_refl _) g_24))) (Ne.symm (Nat.ne_of_lt (Nat.lt_of_lt_of_le hp12.lt (Nat.le_trans (Nat.le_refl _) (Nat.le_of_eq g_10.symm))))) g_524 (by decide) g_523 (by first | rfl | decide | (simp only [List.length_append, List.length_cons, List.length_nil, own_dl_len, own_c16, own_c34]; omega)) (by decide) (by first | rfl | decide | (simp only [List.length_append, List.length_cons, List.length_nil, own_dl_len, own_c16, own_c34]; omega)) (by first | rfl | decide | (simp only [List.length_append, List.length_cons, List.length_nil, own_dl_len, own_c16, own_c34]; omega))) hZ_484 (w72 hw) (w52 hw) (by decide) (by decide)) q_537 q_539 (g := (mkF m 49 #[VR d, VR x, VI ii, VR y] [(.ref y), (.ref a_9), (.ref d)])) rfl (by rw [hml]; rfl) (Steps.refl _) (argsL := [(.ref y)]) (rest := [(.ref d)]) (lenOf pd_857 rfl) rfl (by show 2 * 0 + _ ≤ _; exact Nat.le_of_eq rfl) (hb hby d42_49) (fun _ _ => ⟨rfl, rfl, (by decide : 6 + 0 ≤ _), (by decide : 36 + 0 ≤ _)⟩)
  dsimp only [Pt.U, Pt.locs, Pt.cells, Pt.slots] at X_534 l_534 y_534 z_534 st_534 hQ_534
  have X_534 := own_cast X_534 l_534 y_534 z_534
  obtain ⟨rfl, N_540, K_541, g_542, g_543, g_544, g_545, g_546, g_547, g_548, g_549⟩ := hQ_534
  have N_550 := Fr.app N_525 N_540
  have Sf_551 : Safe Z consts_1 T_474.vm T_509.heap a_16 := (Safe.keep K_516 (sfS (Safe.exa hZ_484.alike E_502 (by decide) (by decide)) (sfS Sf_526 sf0)) CH_496 Sf_526)
  have CH_552 : CHv Z consts_1 T_474.vm T_534.heap := CHv.keep K_541 (sfS (Safe.exa hZ_484.alike g_517 (by decide) (by decide)) (sfS Sf_551 sf0)) CH_527
  have CR_553 : CHr Z consts_1 s.vm h0 T_474.vm T_534.heap := CR_528.trans (CHr.keep K_541 (sfS (Safe.exa hZ_484.alike g_517 (by decide) (by decide)) (sfS Sf_551 sf0)) CH_527)
  have O_554 : Old Z n0 T_534.heap := (O_533.keep K_541 (allS (Nat.le_trans (own_n0 X00) (Nat.le_of_eq g_10.symm)) (allS (Nat.le_trans (own_n0 O_14) g_24) all0)))
  obtain ⟨q_556, q_557, q_558, q_559, q_560⟩ := isOf (T := T_534) hZ_484 rfl g_542
  obtain ⟨_, _, ⟨T_555, L_555, k_555, n_555⟩, -, X_555, ⟨Lc_555, hQ_555, l_555, y_555, z_555⟩, st_555⟩ := X_534.virtualBack hx (y := M785) (z := M785) ho_485 (mvT hZ_484 (w140 hw)) (mvT hZ_484 (w141 hw)) (notFace_of_selects (args := #[]) (mvT hZ_484 (w143 hw))) (mvT hZ_484 (w143 hw)) (mvT hZ_484 (w142 hw)) (by decide) (backOf (W := 1) (rm_tos l Z a0 hw [] G1 G3 g1 kg1 g2 kg2 uS sS HG T_534.heap n0 O_554 a_9 a_16 k_17 (16 : Int32) (((([] ++ [(own_lo8 c0), (own_lo8 c1)]) ++ []) ++ [(58 : Int32), (32 : Int32)]) ++ [(own_lo8 d0), (own_lo8 d1)]) (((((0 : Int32) + (2 : Int32)) + (0 : Int32)) + (2 : Int32)) + (2 : Int32)) g_542 g_543 g_544 g_545 g_546 g_547 g_549 (by decide) g_548 (by first | rfl | decide | (simp only [List.length_append, List.length_cons, List.length_nil, own_dl_len, own_c16, own_c34]; omega)) (by first | rfl | decide | (simp only [List.length_append, List.length_cons, List.length_nil, own_dl_len, own_c16, own_c34]; omega))) hZ_484 (w144 hw) (w52 hw) (by decide) (by decide)) q_558 q_560 (g := (mkF m 52 #[VR d, VR x, VI ii, VR y] [(.ref a_9), (.ref d)])) rfl (by rw [hml]; rfl) (Steps.refl _) (argsL := []) (rest := [(.ref d)]) (lenOf pd_880 rfl) rfl (by show 2 * 0 + _ ≤ _; exact Nat.le_of_eq rfl) (hb hby d42_52) (fun _ _ => ⟨rfl, rfl, (by decide : 6 + 2 ≤ _), (by decide : 36 + 38 ≤ _)⟩)
  dsimp only [Pt.U, Pt.locs, Pt.cells, Pt.slots] at X_555 l_555 y_555 z_555 st_555 hQ_555
  have X_555 := own_cast X_555 l_555 y_555 z_555
  obtain ⟨a_561, a_562, k_563, rfl, N_564, K_565, g_566, g_567, g_568, g_569, g_570, g_571, g_572⟩ := hQ_555
  have N_573 := Fr.app N_550 N_564
  have CH_574 : CHv Z consts_1 T_474.vm T_555.heap := CHv.keep K_565 sf0 CH_552
  have CR_575 : CHr Z consts_1 s.vm h0 T_474.vm T_555.heap := CR_553.trans (CHr.keep K_565 sf0 CH_552)
  have E_576 : Exa Z T_555.heap d "com/example/claimgate/claimgate/config/ConfigException" := (((((((((hp0.ext E_5).keep K_19).keep K_42).ext E_425).keep K_460).ext E_481).keep K_516).keep K_541).keep K_565)
  have U_577 : Unt T_555.heap d := (Unt.keep K_565 nin0 (Unt.keep K_541 (ninS (Nat.ne_of_lt (Nat.lt_of_lt_of_le hp0.lt (Nat.le_trans (Nat.le_refl _) (Nat.le_of_eq g_10.symm)))) (ninS (Nat.ne_of_lt (Nat.lt_of_lt_of_le hp0.lt (Nat.le_trans E_5.1 g_24))) nin0)) (Unt.keep K_516 (ninS (Nat.ne_of_lt (Nat.lt_of_lt_of_le hp0.lt (Nat.le_trans (Nat.le_refl _) (Nat.le_of_eq g_10.symm)))) (ninS (Nat.ne_of_lt (Nat.lt_of_lt_of_le hp0.lt (Nat.le_trans E_5.1 g_24))) nin0)) ((Unt.keep K_460 (ninS (Nat.ne_of_lt (Nat.lt_of_lt_of_le hp0.lt (Nat.le_trans (Nat.le_refl _) (Nat.le_of_eq g_10.symm)))) (ninS (Nat.ne_of_lt (Nat.lt_of_lt_of_le hp0.lt (Nat.le_trans E_5.1 g_24))) nin0)) ((Unt.keep K_42 (ninS (Nat.ne_of_lt (Nat.lt_of_lt_of_le hp0.lt (Nat.le_trans (Nat.le_refl _) (Nat.le_of_eq g_10.symm)))) (ninS (Nat.ne_of_lt (Nat.lt_of_lt_of_le hp0.lt (Nat.le_trans E_5.1 g_24))) nin0)) (Unt.keep K_19 (ninS (Nat.ne_of_lt (Nat.lt_of_lt_of_le hp0.lt (Nat.le_trans (Nat.le_refl _) (Nat.le_of_eq g_10.symm)))) nin0) (hp1.ext E_5))).ext E_425)).ext E_481))))
  have F_578 : Fld Z T_555.heap d "java/lang/Throwable" "cause" "Ljava/lang/Throwable;" .null := (((((((((hp2.ext E_5).keep K_19 (ninS (Nat.ne_of_lt (Nat.lt_of_lt_of_le hp0.lt (Nat.le_trans (Nat.le_refl _) (Nat.le_of_eq g_10.symm)))) nin0)).keep K_42 (ninS (Nat.ne_of_lt (Nat.lt_of_lt_of_le hp0.lt (Nat.le_trans (Nat.le_refl _) (Nat.le_of_eq g_10.symm)))) (ninS (Nat.ne_of_lt (Nat.lt_of_lt_of_le hp0.lt (Nat.le_trans E_5.1 g_24))) nin0))).ext E_425).keep K_460 (ninS (Nat.ne_of_lt (Nat.lt_of_lt_of_le hp0.lt (Nat.le_trans (Nat.le_refl _) (Nat.le_of_eq g_10.symm)))) (ninS (Nat.ne_of_lt (Nat.lt_of_lt_of_le hp0.lt (Nat.le_trans E_5.1 g_24))) nin0))).ext E_481).keep K_516 (ninS (Nat.ne_of_lt (Nat.lt_of_lt_of_le hp0.lt (Nat.le_trans (Nat.le_refl _) (Nat.le_of_eq g_10.symm)))) (ninS (Nat.ne_of_lt (Nat.lt_of_lt_of_le hp0.lt (Nat.le_trans E_5.1 g_24))) nin0))).keep K_541 (ninS (Nat.ne_of_lt (Nat.lt_of_lt_of_le hp0.lt (Nat.le_trans (Nat.le_refl _) (Nat.le_of_eq g_10.symm)))) (ninS (Nat.ne_of_lt (Nat.lt_of_lt_of_le hp0.lt (Nat.le_trans E_5.1 g_24))) nin0))).keep K_565 nin0)
  have F_579 : Fld Z T_555.heap d "java/lang/Throwable" "stackTrace" "[Ljava/lang/StackTraceElement;" .null := (((((((((hp3.ext E_5).keep K_19 (ninS (Nat.ne_of_lt (Nat.lt_of_lt_of_le hp0.lt (Nat.le_trans (Nat.le_refl _) (Nat.le_of_eq g_10.symm)))) nin0)).keep K_42 (ninS (Nat.ne_of_lt (Nat.lt_of_lt_of_le hp0.lt (Nat.le_trans (Nat.le_refl _) (Nat.le_of_eq g_10.symm)))) (ninS (Nat.ne_of_lt (Nat.lt_of_lt_of_le hp0.lt (Nat.le_trans E_5.1 g_24))) nin0))).ext E_425).keep K_460 (ninS (Nat.ne_of_lt (Nat.lt_of_lt_of_le hp0.lt (Nat.le_trans (Nat.le_refl _) (Nat.le_of_eq g_10.symm)))) (ninS (Nat.ne_of_lt (Nat.lt_of_lt_of_le hp0.lt (Nat.le_trans E_5.1 g_24))) nin0))).ext E_481).keep K_516 (ninS (Nat.ne_of_lt (Nat.lt_of_lt_of_le hp0.lt (Nat.le_trans (Nat.le_refl _) (Nat.le_of_eq g_10.symm)))) (ninS (Nat.ne_of_lt (Nat.lt_of_lt_of_le hp0.lt (Nat.le_trans E_5.1 g_24))) nin0))).keep K_541 (ninS (Nat.ne_of_lt (Nat.lt_of_lt_of_le hp0.lt (Nat.le_trans (Nat.le_refl _) (Nat.le_of_eq g_10.symm)))) (ninS (Nat.ne_of_lt (Nat.lt_of_lt_of_le hp0.lt (Nat.le_trans E_5.1 g_24))) nin0))).keep K_565 nin0)
  have F_580 : Fld Z T_555.heap d "java/lang/Throwable" "suppressedExceptions" "Ljava/util/List;" .null := (((((((((hp4.ext E_5).keep K_19 (ninS (Nat.ne_of_lt (Nat.lt_of_lt_of_le hp0.lt (Nat.le_trans (Nat.le_refl _) (Nat.le_of_eq g_10.symm)))) nin0)).keep K_42 (ninS (Nat.ne_of_lt (Nat.lt_of_lt_of_le hp0.lt (Nat.le_trans (Nat.le_refl _) (Nat.le_of_eq g_10.symm)))) (ninS (Nat.ne_of_lt (Nat.lt_of_lt_of_le hp0.lt (Nat.le_trans E_5.1 g_24))) nin0))).ext E_425).keep K_460 (ninS (Nat.ne_of_lt (Nat.lt_of_lt_of_le hp0.lt (Nat.le_trans (Nat.le_refl _) (Nat.le_of_eq g_10.symm)))) (ninS (Nat.ne_of_lt (Nat.lt_of_lt_of_le hp0.lt (Nat.le_trans E_5.1 g_24))) nin0))).ext E_481).keep K_516 (ninS (Nat.ne_of_lt (Nat.lt_of_lt_of_le hp0.lt (Nat.le_trans (Nat.le_refl _) (Nat.le_of_eq g_10.symm)))) (ninS (Nat.ne_of_lt (Nat.lt_of_lt_of_le hp0.lt (Nat.le_trans E_5.1 g_24))) nin0))).keep K_541 (ninS (Nat.ne_of_lt (Nat.lt_of_lt_of_le hp0.lt (Nat.le_trans (Nat.le_refl _) (Nat.le_of_eq g_10.symm)))) (ninS (Nat.ne_of_lt (Nat.lt_of_lt_of_le hp0.lt (Nat.le_trans E_5.1 g_24))) nin0))).keep K_565 nin0)
  have F_581 : Fld Z T_555.heap d "java/lang/Throwable" "backtrace" "Ljava/lang/Object;" .null := (((((((((hp5.ext E_5).keep K_19 (ninS (Nat.ne_of_lt (Nat.lt_of_lt_of_le hp0.lt (Nat.le_trans (Nat.le_refl _) (Nat.le_of_eq g_10.symm)))) nin0)).keep K_42 (ninS (Nat.ne_of_lt (Nat.lt_of_lt_of_le hp0.lt (Nat.le_trans (Nat.le_refl _) (Nat.le_of_eq g_10.symm)))) (ninS (Nat.ne_of_lt (Nat.lt_of_lt_of_le hp0.lt (Nat.le_trans E_5.1 g_24))) nin0))).ext E_425).keep K_460 (ninS (Nat.ne_of_lt (Nat.lt_of_lt_of_le hp0.lt (Nat.le_trans (Nat.le_refl _) (Nat.le_of_eq g_10.symm)))) (ninS (Nat.ne_of_lt (Nat.lt_of_lt_of_le hp0.lt (Nat.le_trans E_5.1 g_24))) nin0))).ext E_481).keep K_516 (ninS (Nat.ne_of_lt (Nat.lt_of_lt_of_le hp0.lt (Nat.le_trans (Nat.le_refl _) (Nat.le_of_eq g_10.symm)))) (ninS (Nat.ne_of_lt (Nat.lt_of_lt_of_le hp0.lt (Nat.le_trans E_5.1 g_24))) nin0))).keep K_541 (ninS (Nat.ne_of_lt (Nat.lt_of_lt_of_le hp0.lt (Nat.le_trans (Nat.le_refl _) (Nat.le_of_eq g_10.symm)))) (ninS (Nat.ne_of_lt (Nat.lt_of_lt_of_le hp0.lt (Nat.le_trans E_5.1 g_24))) nin0))).keep K_565 nin0)
  have F_582 : Fld Z T_555.heap d "java/lang/Throwable" "detailMessage" "Ljava/lang/String;" .null := (((((((((hp6.ext E_5).keep K_19 (ninS (Nat.ne_of_lt (Nat.lt_of_lt_of_le hp0.lt (Nat.le_trans (Nat.le_refl _) (Nat.le_of_eq g_10.symm)))) nin0)).keep K_42 (ninS (Nat.ne_of_lt (Nat.lt_of_lt_of_le hp0.lt (Nat.le_trans (Nat.le_refl _) (Nat.le_of_eq g_10.symm)))) (ninS (Nat.ne_of_lt (Nat.lt_of_lt_of_le hp0.lt (Nat.le_trans E_5.1 g_24))) nin0))).ext E_425).keep K_460 (ninS (Nat.ne_of_lt (Nat.lt_of_lt_of_le hp0.lt (Nat.le_trans (Nat.le_refl _) (Nat.le_of_eq g_10.symm)))) (ninS (Nat.ne_of_lt (Nat.lt_of_lt_of_le hp0.lt (Nat.le_trans E_5.1 g_24))) nin0))).ext E_481).keep K_516 (ninS (Nat.ne_of_lt (Nat.lt_of_lt_of_le hp0.lt (Nat.le_trans (Nat.le_refl _) (Nat.le_of_eq g_10.symm)))) (ninS (Nat.ne_of_lt (Nat.lt_of_lt_of_le hp0.lt (Nat.le_trans E_5.1 g_24))) nin0))).keep K_541 (ninS (Nat.ne_of_lt (Nat.lt_of_lt_of_le hp0.lt (Nat.le_trans (Nat.le_refl _) (Nat.le_of_eq g_10.symm)))) (ninS (Nat.ne_of_lt (Nat.lt_of_lt_of_le hp0.lt (Nat.le_trans E_5.1 g_24))) nin0))).keep K_565 nin0)
  have O_583 : Old Z n0 T_555.heap := (O_554.keep K_565 all0)
  obtain ⟨_, _, ⟨T_584, L_584, k_584, n_584⟩, -, Y_584, S_584, G_584, ⟨Lc_584, hQ_584, l_584, y_584, z_584, R_584⟩, st_584⟩ := X_555.specialBackS hx (y := M829) rfl ho_485 (mvT hZ_484 (w182 hw)) (mvT hZ_484 (w183 hw)) (mvT hZ_484 (w186 hw)) (by decide) (backOfSKH (vm0 := T_474.vm) (W := 0) (rm_ex0 l Z a0 hw [] G1 G3 g1 kg1 g2 kg2 uS sS HG T_555.heap n0 O_583 d a_561 E_576 U_577 F_578 F_579 F_580 F_581 F_582 hp7) hZ_484 (w186 hw) (w185 hw) (by decide) (by decide) hEL CH_574 hTK_499 hBL_500) (g := (mkF m 55 #[VR d, VR x, VI ii, VR y] [(.ref a_561), (.ref d)])) rfl (by rw [hml]; rfl) (Steps.refl _) (a := d) (argsL := [(.ref a_561)]) (rest := []) (lenOf pd_292 rfl) rfl (by show 2 * 0 + _ ≤ _; exact Nat.le_of_eq rfl) (hb hby d42_55) (fun _ _ => ⟨rfl, rfl, (by decide : 8 + 1 ≤ _), (by decide : 74 + 2752 ≤ _)⟩)
  dsimp only [Pt.U, Pt.locs, Pt.cells, Pt.slots] at Y_584 S_584 G_584 l_584 y_584 z_584 st_584 hQ_584 R_584
  have Y_584 := own_cast Y_584 l_584 y_584 z_584
  obtain ⟨X_584, hS_584, hZ_584, hown_584⟩ := rebS S_482 (n1 := T_555.heap.size) (by rw [show T_555.heap = T_555.heap from rfl]; exact (Nat.le_trans hk_483 (Nat.le_trans (Nat.le_trans K_516.1 K_541.1) K_565.1))) Y_584 S_584 G_584 hZ_484 ho_485
  obtain ⟨rfl, N_585, K_586, g_587, g_588⟩ := hQ_584
  have N_589 := Fr.app N_573 N_585
  have CH_590 : CHv Z consts_1 T_584.vm T_584.heap := R_584.1
  have CR_591 : CHr Z consts_1 s.vm h0 T_584.vm T_584.heap := CR_575.trans R_584
  have hTK_592 : (s.setVm T_584.vm).vm.MethodsKnown := Vm.MethodsKnown.alikeC (hS_584.1.alike) hTK0
  have hBL_593 : (s.setVm T_584.vm).vm.FramesKnown below := Vm.FramesKnown.alikeC (hS_584.1.alike) hBL0
  have C_594 : Steps p.tables e below S0 (T_584.setTop (mkF m 58 #[VR d, VR x, VI ii, VR y] [])) := by
   refine C_55.trans ?_
   refine XS.ifYes X_35.here hx rfl (pc0 := 13) (pc' := 38) rfl (hb hby d42_13) rfl (i0_le_t hc_56) (by decide) (by decide) ?_
   refine st_439 _ ?_
   refine st_453.trans ?_
   refine st_495 _ ?_
   refine st_509.trans ?_
   refine XS.aloadN X_509.here hx rfl (hb hby d42_48) rfl rfl ?_
   refine st_534.trans ?_
   refine st_555.trans ?_
   show Steps p.tables e below (T_555.setTop (mkF m 55 #[VR d, VR x, VI ii, VR y] [(.ref a_561), (.ref d)])) _
   refine st_584.trans ?_
   exact Steps.refl _
  have V_595 : Arv Z T_584.heap a_562 k_563 .byte (((((0 : Int32) + (2 : Int32)) + (0 : Int32)) + (2 : Int32)) + (2 : Int32)) (own_iv (((([] ++ [(own_lo8 c0), (own_lo8 c1)]) ++ []) ++ [(58 : Int32), (32 : Int32)]) ++ [(own_lo8 d0), (own_lo8 d1)])) (.int 0) := (g_571.keep K_586 (ninS (Ne.symm (Nat.ne_of_lt (Nat.lt_of_lt_of_le hp0.lt (Nat.le_trans (Nat.le_trans (Nat.le_trans (Nat.le_trans (Nat.le_trans (Nat.le_trans (Nat.le_trans (Nat.le_trans E_5.1 K_19.1) K_42.1) E_425.1) K_460.1) E_481.1) K_516.1) K_541.1) g_570)))) nin0))
  have E_596 : Exa Z T_584.heap a_561 "java/lang/String" := (g_567.keep K_586)
  have F_597 : Fld Z T_584.heap a_561 "java/lang/String" "coder" "B" (.int 0) := (g_568.keep K_586 (ninS (Ne.symm (Nat.ne_of_lt (Nat.lt_of_lt_of_le hp0.lt (Nat.le_trans (Nat.le_trans (Nat.le_trans (Nat.le_trans (Nat.le_trans (Nat.le_trans (Nat.le_trans (Nat.le_trans E_5.1 K_19.1) K_42.1) E_425.1) K_460.1) E_481.1) K_516.1) K_541.1) g_566)))) nin0))
  have F_598 : Fld Z T_584.heap a_561 "java/lang/String" "value" "[B" (.ref a_562) := (g_569.keep K_586 (ninS (Ne.symm (Nat.ne_of_lt (Nat.lt_of_lt_of_le hp0.lt (Nat.le_trans (Nat.le_trans (Nat.le_trans (Nat.le_trans (Nat.le_trans (Nat.le_trans (Nat.le_trans (Nat.le_trans E_5.1 K_19.1) K_42.1) E_425.1) K_460.1) E_481.1) K_516.1) K_541.1) g_566)))) nin0))
  have K_599 : Keep h0 T_584.heap [d] := (((((((((((Keep.refl _ _).ext E_5).trans K_19 (allS (Or.inr (Nat.le_trans (Nat.le_refl _) (Nat.le_of_eq g_10.symm))) all0)).trans K_42 (allS (Or.inr (Nat.le_trans (Nat.le_refl _) (Nat.le_of_eq g_10.symm))) (allS (Or.inr (Nat.le_trans E_5.1 g_24)) all0))).ext E_425).trans K_460 (allS (Or.inr (Nat.le_trans (Nat.le_refl _) (Nat.le_of_eq g_10.symm))) (allS (Or.inr (Nat.le_trans E_5.1 g_24)) all0))).ext E_481).trans K_516 (allS (Or.inr (Nat.le_trans (Nat.le_refl _) (Nat.le_of_eq g_10.symm))) (allS (Or.inr (Nat.le_trans E_5.1 g_24)) all0))).trans K_541 (allS (Or.inr (Nat.le_trans (Nat.le_refl _) (Nat.le_of_eq g_10.symm))) (allS (Or.inr (Nat.le_trans E_5.1 g_24)) all0))).trans K_565 all0).trans K_586 (allS (Or.inl (List.mem_of_getElem? (i := 0) rfl)) all0))
  obtain ⟨fs, hr, hrun, hended, hRE⟩ := X_584.leaveW hS_584 (by rw [show T_584.heap = T_584.heap from rfl]; exact (Nat.le_refl _)) (v := none) (fun _ => rfl)
  refine ⟨_, _, C_594.trans (X_584.returnOut hx Bd.returns (hb hby d42_58) hr), hrun, hended, _, _, rfl, ?_, ?_, hRE.1, hRE.2.1, hRE.2.2.1, hRE.2.2.2.mono (by decide) (by decide)⟩
  ·show Q_cei Z G1 G3 g1 kg1 g2 kg2 uS sS d x t kt c0 c1 ii y u ku d0 d1 h0 n0 (none) T_584.heap _
   exact ⟨a_561, a_562, k_563, rfl, N_589, K_599, g_587, g_588, E_596, F_597, F_598, (own_fin V_595 (own_tlneg hc_56) (own_txneg hc_56))⟩
  ·show CHr Z consts_1 s.vm s.heap T_584.vm T_584.heap
   rw [hh]
   exact CR_591.trans (CHv.at X_584 hZ_584 hEL CH_590)
abbrev M902 : MethodName := ⟨"com/example/claimgate/claimgate/config/ConfigSyntax", "<init>", "(Ljava/lang/String;)V"⟩
theorem pn_903 : plainName "com/example/claimgate/claimgate/config/ConfigSyntax" = true := by first | (simp [plainName, overriddenIn]; done) | decide +kernel
theorem d43_0 : decode prog_19_method_1_code 0 = .ok (.aload_n 0, 1) := by decide +kernel
theorem w36 {Z a0} (hw : HW Z a0) : Cond.before (Cond.methodLink "com/example/claimgate/claimgate/config/ConfigSyntax" (1 : Nat) (⟨"java/lang/Object", "<init>", "()V"⟩ : MethodName)) a0 Z = true := hw _ (List.mem_of_getElem? (i := 36) rfl)
theorem d43_1 : decode prog_19_method_1_code 1 = .ok (.invokespecial 1, 3) := by decide +kernel
theorem d43_4 : decode prog_19_method_1_code 4 = .ok (.aload_n 0, 1) := by decide +kernel
theorem d43_5 : decode prog_19_method_1_code 5 = .ok (.aload_n 1, 1) := by decide +kernel
theorem w37 {Z a0} (hw : HW Z a0) : Cond.before (Cond.fieldLink "com/example/claimgate/claimgate/config/ConfigSyntax" (7 : Nat) "com/example/claimgate/claimgate/config/ConfigSyntax" "source" "Ljava/lang/String;") a0 Z = true := hw _ (List.mem_of_getElem? (i := 37) rfl)
theorem w38 {Z a0} (hw : HW Z a0) : Cond.before (Cond.laysFinal "com/example/claimgate/claimgate/config/ConfigSyntax" "com/example/claimgate/claimgate/config/ConfigSyntax" "source" "Ljava/lang/String;") a0 Z = true := hw _ (List.mem_of_getElem? (i := 38) rfl)
theorem w31 {Z a0} (hw : HW Z a0) : Cond.before (Cond.instantiable "com/example/claimgate/claimgate/config/ConfigSyntax" (1 : Nat)) a0 Z = true := hw _ (List.mem_of_getElem? (i := 31) rfl)
theorem d43_6 : decode prog_19_method_1_code 6 = .ok (.putfield 7, 3) := by decide +kernel
theorem d43_9 : decode prog_19_method_1_code 9 = .ok (.return_, 1) := by decide +kernel
abbrev R_csi : Room := { frames := 1, cells := 0, slots := 0, locals := 12 }
def Q_csi (Z : State) (G1 : Int32) (G3 : Value) (g1 : Addr) (kg1 : ClassId) (g2 : Addr) (kg2 : ClassId) (uS : Value) (sS : Value) (b : Addr) (x : Addr) (h0 : Heap) (n0 : Nat) (v : Option Value) (h : Heap) (L : List Loc) : Prop := (v = none ∧ Fr n0 L ∧ Keep h0 h [b] ∧ (Exa Z h b "com/example/claimgate/claimgate/config/ConfigSyntax") ∧ (Fld Z h b "com/example/claimgate/claimgate/config/ConfigSyntax" "source" "Ljava/lang/String;" (.ref x)))
theorem rm_csi (l : Launch) (Z : State) (a0 : Array Value) (hw : HW Z a0) (ws : List Jvm.Cond) (G1 : Int32) (G3 : Value) (g1 : Addr) (kg1 : ClassId) (g2 : Addr) (kg2 : ClassId) (uS : Value) (sS : Value) (HG : own_G l Z a0 G1 G3 g1 kg1 g2 kg2 uS sS) (h0 : Heap) (n0 : Nat) (X00 : Old Z n0 h0) (b : Addr) (x : Addr) (hp0 : Exa Z h0 b "com/example/claimgate/claimgate/config/ConfigSyntax") (hp1 : Fld Z h0 b "com/example/claimgate/claimgate/config/ConfigSyntax" "source" "Ljava/lang/String;" .null) (hp2 : n0 ≤ b) :
  own_CP l Z M902 prog_19_method_1_code 2 none ws R_csi #[(.ref b), (.ref x)] h0 (Q_csi Z G1 G3 g1 kg1 g2 kg2 uS sS b x h0 n0) := by
 refine own_P (plainFor_of_name pn_903) ?_
 intro p e s m below meth c s₁ S0 Bd hZ hh hx hby hml hown hnm X0 e0 hS0d
 obtain ⟨O1, P1, O3f, rG3, Sg1, Dg1, Sg2, Dg2, hLT, OU, rU, OS, rS⟩ := id HG
 have N0 := Fr.nil n0
 have C0 : Steps p.tables e below S0 (s₁.setTop (mkF m 0 #[VR b, VR x] [])) := by rw [hS0d]; exact castTop (ef_100 m b x) (Steps.refl _)
 obtain ⟨T_1, X_2, e_3, st_4⟩ := initO X0 hx hZ hown (w36 hw) (w12 hw) (w13 hw) e0 (g := (mkF m 1 #[VR b, VR x] [(.ref b)])) rfl (by rw [hml]; rfl) rfl (hb hby d43_1) (by decide) (W := 0) (by show 2 * 0 + _ ≤ _; exact Nat.le_of_eq rfl) (by decide)
 obtain ⟨T_5, h_6, X_7, e_8, W_9, st_10⟩ := putF X_2 hx hZ hown (host := "") (Or.inl (w37 hw)) Via.refl e_3 hp1 hp0 (Or.inr ⟨(w38 hw), rfl, hnm⟩) (w31 hw) (ty := (.object "java/lang/String")) (by decide) rfl rfl (g := (mkF m 6 #[VR b, VR x] [(.ref x), (.ref b)])) rfl rfl (hb hby d43_6)
 have N_11 := Fr.snoc X_7 N0 hp2
 have F_12 : Fld Z h_6 b "com/example/claimgate/claimgate/config/ConfigSyntax" "source" "Ljava/lang/String;" (.ref x) := hp1.same W_9
 have C_13 : Steps p.tables e below S0 (T_5.setTop (mkF m 9 #[VR b, VR x] [])) := by
  refine C0.trans ?_
  refine XS.aloadN X0.here hx rfl (hb hby d43_0) rfl rfl ?_
  refine st_4 _ ?_
  refine XS.aloadN X_2.here hx rfl (hb hby d43_4) rfl rfl ?_
  refine XS.aloadN X_2.here hx rfl (hb hby d43_5) rfl rfl ?_
  refine st_10 _ ?_
  exact Steps.refl _
 have E_14 : Exa Z h_6 b "com/example/claimgate/claimgate/config/ConfigSyntax" := (hp0.wr W_9)
 have K_15 : Keep h0 h_6 [b] := ((Keep.refl _ _).wr W_9 (Or.inl (List.mem_of_getElem? (i := 0) rfl)))
 obtain ⟨fs, hr, hrun, hended, hW, hsame⟩ := X_7.leave (v := none) (fun _ => rfl)
 refine ⟨_, _, C_13.trans (X_7.returnOut hx Bd.returns (hb hby d43_9) hr), hrun, hended, _, _, rfl, ?_, ⟨_, rfl⟩, hW, hsame.mono (by decide) (by decide)⟩
 show Q_csi Z G1 G3 g1 kg1 g2 kg2 uS sS b x h0 n0 (none) T_5.heap _
 rw [e_8]
 exact ⟨rfl, N_11, K_15, E_14, F_12⟩
abbrev M914 : MethodName := ⟨"com/example/claimgate/claimgate/config/ConfigSyntax", "error", "(ILjava/lang/String;)Lcom/example/claimgate/claimgate/config/ConfigException;"⟩
theorem w44 {Z a0} (hw : HW Z a0) : Cond.before (Cond.classLink "com/example/claimgate/claimgate/config/ConfigSyntax" (13 : Nat) "com/example/claimgate/claimgate/config/ConfigException") a0 Z = true := hw _ (List.mem_of_getElem? (i := 44) rfl)
theorem w46 {Z a0} (hw : HW Z a0) : Cond.before (Cond.initialized "com/example/claimgate/claimgate/config/ConfigException") a0 Z = true := hw _ (List.mem_of_getElem? (i := 46) rfl)
theorem d44_0 : decode prog_19_method_2_code 0 = .ok (.new 13, 3) := by decide +kernel
theorem w227 {Z a0} (hw : HW Z a0) : Cond.before (Cond.lays "com/example/claimgate/claimgate/config/ConfigException" "java/lang/Throwable" "depth" "I") a0 Z = true := hw _ (List.mem_of_getElem? (i := 227) rfl)
theorem d44_3 : decode prog_19_method_2_code 3 = .ok (.dup, 1) := by decide +kernel
theorem d44_4 : decode prog_19_method_2_code 4 = .ok (.aload_n 0, 1) := by decide +kernel
theorem d44_5 : decode prog_19_method_2_code 5 = .ok (.getfield 7, 3) := by decide +kernel
theorem d44_8 : decode prog_19_method_2_code 8 = .ok (.iload_n 1, 1) := by decide +kernel
theorem d44_9 : decode prog_19_method_2_code 9 = .ok (.aload_n 2, 1) := by decide +kernel
theorem w49 {Z a0} (hw : HW Z a0) : Cond.before (Cond.code (⟨"com/example/claimgate/claimgate/config/ConfigException", "<init>", "(Ljava/lang/String;ILjava/lang/String;)V"⟩ : MethodName) prog_18_method_1_code (4 : Nat) (Option.none : Option FieldType)) a0 Z = true := hw _ (List.mem_of_getElem? (i := 49) rfl)
theorem pd_925 : parseMethodDescriptor "(Ljava/lang/String;ILjava/lang/String;)V" = some ⟨[(.object "java/lang/String"), .int, (.object "java/lang/String")], none⟩ := by decide +kernel
theorem d44_10 : decode prog_19_method_2_code 10 = .ok (.invokespecial 15, 3) := by decide +kernel
theorem w47 {Z a0} (hw : HW Z a0) : Cond.before (Cond.methodLink "com/example/claimgate/claimgate/config/ConfigSyntax" (15 : Nat) (⟨"com/example/claimgate/claimgate/config/ConfigException", "<init>", "(Ljava/lang/String;ILjava/lang/String;)V"⟩ : MethodName)) a0 Z = true := hw _ (List.mem_of_getElem? (i := 47) rfl)
theorem w48 {Z a0} (hw : HW Z a0) : Cond.before (Cond.instanceMethod (⟨"com/example/claimgate/claimgate/config/ConfigException", "<init>", "(Ljava/lang/String;ILjava/lang/String;)V"⟩ : MethodName)) a0 Z = true := hw _ (List.mem_of_getElem? (i := 48) rfl)
theorem d44_13 : decode prog_19_method_2_code 13 = .ok (.areturn, 1) := by decide +kernel
abbrev R_err : Room := { frames := 7, cells := 15, slots := 2928, locals := 109 }
def Q_err (Z : State) (G1 : Int32) (G3 : Value) (g1 : Addr) (kg1 : ClassId) (g2 : Addr) (kg2 : ClassId) (uS : Value) (sS : Value) (b : Addr) (x : Addr) (t : Addr) (kt : ClassId) (c0 : Int32) (c1 : Int32) (ii : Int32) (y : Addr) (u : Addr) (ku : ClassId) (d0 : Int32) (d1 : Int32) (h0 : Heap) (n0 : Nat) (v : Option Value) (h : Heap) (L : List Loc) : Prop := (∃ d : Addr, ∃ rs : Addr, ∃ w : Addr, ∃ kw : ClassId, v = some (.ref d) ∧ Fr n0 L ∧ Keep h0 h [] ∧ (h0.size ≤ d) ∧ (Exa Z h d "com/example/claimgate/claimgate/config/ConfigException") ∧ (Fld Z h d "java/lang/Throwable" "detailMessage" "Ljava/lang/String;" (.ref rs)) ∧ (Exa Z h rs "java/lang/String") ∧ (Fld Z h rs "java/lang/String" "coder" "B" (.int 0)) ∧ (Fld Z h rs "java/lang/String" "value" "[B" (.ref w)) ∧ (Arv Z h w kw .byte (own_tl ii) (own_iv (own_bs (own_tx c0 c1 ii d0 d1))) (.int 0)))
theorem rm_err (l : Launch) (Z : State) (a0 : Array Value) (hw : HW Z a0) (ws : List Jvm.Cond) (G1 : Int32) (G3 : Value) (g1 : Addr) (kg1 : ClassId) (g2 : Addr) (kg2 : ClassId) (uS : Value) (sS : Value) (HG : own_G l Z a0 G1 G3 g1 kg1 g2 kg2 uS sS) (h0 : Heap) (n0 : Nat) (X00 : Old Z n0 h0) (b : Addr) (x : Addr) (t : Addr) (kt : ClassId) (c0 : Int32) (c1 : Int32) (ii : Int32) (y : Addr) (u : Addr) (ku : ClassId) (d0 : Int32) (d1 : Int32) (hp0 : Exa Z h0 b "com/example/claimgate/claimgate/config/ConfigSyntax") (hp1 : Fld Z h0 b "com/example/claimgate/claimgate/config/ConfigSyntax" "source" "Ljava/lang/String;" (.ref x)) (hp2 : Exa Z h0 x "java/lang/String") (hp3 : Fld Z h0 x "java/lang/String" "coder" "B" (.int 0)) (hp4 : Fld Z h0 x "java/lang/String" "value" "[B" (.ref t)) (hp5 : Arv Z h0 t kt .byte (2 : Int32) (own_iv [(own_lo8 c0), (own_lo8 c1)]) (.int 0)) (hp6 : Exa Z h0 y "java/lang/String") (hp7 : Fld Z h0 y "java/lang/String" "coder" "B" (.int 0)) (hp8 : Fld Z h0 y "java/lang/String" "value" "[B" (.ref u)) (hp9 : Arv Z h0 u ku .byte (2 : Int32) (own_iv [(own_lo8 d0), (own_lo8 d1)]) (.int 0)) :
  own_CK l Z M914 prog_19_method_2_code 3 (some (.object "com/example/claimgate/claimgate/config/ConfigException")) ws R_err #[(.ref b), (.int ii), (.ref y)] h0 (Q_err Z G1 G3 g1 kg1 g2 kg2 uS sS b x t kt c0 c1 ii y u ku d0 d1 h0 n0) := by
 refine own_K (plainFor_of_name pn_903) ?_
 intro p e s m below meth c s₁ S0 Bd hZ hh CH0 hS0 CR0 hTK0 hBL0 hx hby hml hown hnm X0 e0 hS0d
 obtain ⟨O1, P1, O3f, rG3, Sg1, Dg1, Sg2, Dg2, hLT, OU, rU, OS, rS⟩ := id HG
 have hEL := own_EL hw
 have hSA := own_SA hw
 have N0 := Fr.nil n0
 have C0 : Steps p.tables e below S0 (s₁.setTop (mkF m 0 #[VR b, VI ii, VR y] [])) := by rw [hS0d]; exact castTop (ef_288 m b ii y) (Steps.refl _)
 obtain ⟨T_1, h_2, X_3, e_4, E_5, A_6, D_7, U_11, st_8⟩ := newO X0 hx hZ hown (w44 hw) (w45 hw) (w46 hw) e0 (g := (mkF m 0 #[VR b, VI ii, VR y] [])) rfl (hb hby d44_0) (by decide) (by decide)
 obtain ⟨a_9, g_10⟩ : ∃ z, z = h0.size := ⟨_, rfl⟩
 rw [← g_10] at A_6 D_7 st_8 U_11
 have CH_12 : CHv Z consts_1 s.vm h_2 := CHv.ext E_5 CH0
 have CR_13 : CHr Z consts_1 s.vm h0 s.vm h_2 := CR0.trans (CHr.ext E_5 CH0)
 have F_14 : Fld Z h_2 b "com/example/claimgate/claimgate/config/ConfigSyntax" "source" "Ljava/lang/String;" (.ref x) := (hp1.ext E_5)
 obtain ⟨T_15, X_16, e_17, st_18⟩ := getF X_3 hx hZ hown (host := "") (Or.inl (w37 hw)) Via.refl e_4 F_14 (g := (mkF m 5 #[VR b, VI ii, VR y] [(.ref b), (.ref a_9), (.ref a_9)])) rfl rfl (hb hby d44_5)
 have E_19 : Exa Z h_2 x "java/lang/String" := (hp2.ext E_5)
 have F_20 : Fld Z h_2 x "java/lang/String" "coder" "B" (.int 0) := (hp3.ext E_5)
 have F_21 : Fld Z h_2 x "java/lang/String" "value" "[B" (.ref t) := (hp4.ext E_5)
 have V_22 : Arv Z h_2 t kt .byte (2 : Int32) (own_iv [(own_lo8 c0), (own_lo8 c1)]) (.int 0) := (hp5.ext E_5)
 have E_23 : Exa Z h_2 y "java/lang/String" := (hp6.ext E_5)
 have F_24 : Fld Z h_2 y "java/lang/String" "coder" "B" (.int 0) := (hp7.ext E_5)
 have F_25 : Fld Z h_2 y "java/lang/String" "value" "[B" (.ref u) := (hp8.ext E_5)
 have V_26 : Arv Z h_2 u ku .byte (2 : Int32) (own_iv [(own_lo8 d0), (own_lo8 d1)]) (.int 0) := (hp9.ext E_5)
 have O_27 : Old Z n0 h_2 := (X00.ext E_5)
 obtain ⟨_, _, ⟨T_28, L_28, k_28, n_28⟩, -, Y_28, S_28, G_28, ⟨Lc_28, hQ_28, l_28, y_28, z_28, R_28⟩, st_28⟩ := X_16.specialBackS hx (y := M843) rfl hown (mvT hZ (w47 hw)) (mvT hZ (w48 hw)) (mvT hZ (w49 hw)) (by decide) (backOfSKH (vm0 := s.vm) (W := 1) (rm_cei l Z a0 hw [] G1 G3 g1 kg1 g2 kg2 uS sS HG h_2 n0 O_27 a_9 x t kt c0 c1 ii y u ku d0 d1 A_6 U_11 (D_7 (Or.inl (w195 hw)) (ty := (.object "java/lang/Throwable")) (by decide)) (D_7 (Or.inl (w198 hw)) (ty := (.array (.object "java/lang/StackTraceElement"))) (by decide)) (D_7 (Or.inl (w201 hw)) (ty := (.object "java/util/List")) (by decide)) (D_7 (Or.inl (w226 hw)) (ty := (.object "java/lang/Object")) (by decide)) (D_7 (Or.inl (w225 hw)) (ty := (.object "java/lang/String")) (by decide)) (Nat.le_trans (own_n0 X00) (Nat.le_of_eq g_10.symm)) E_19 F_20 F_21 V_22 E_23 F_24 F_25 V_26 (Ne.symm (Nat.ne_of_lt (Nat.lt_of_lt_of_le hp2.lt (Nat.le_trans (Nat.le_refl _) (Nat.le_of_eq g_10.symm))))) (Ne.symm (Nat.ne_of_lt (Nat.lt_of_lt_of_le hp6.lt (Nat.le_trans (Nat.le_refl _) (Nat.le_of_eq g_10.symm)))))) hZ (w49 hw) (w46 hw) (by decide) (by decide) hEL CH_12 hTK0 hBL0) (g := (mkF m 10 #[VR b, VI ii, VR y] [(.ref y), (.int ii), (.ref x), (.ref a_9), (.ref a_9)])) rfl (by rw [hml]; rfl) (Steps.refl _) (a := a_9) (argsL := [(.ref x), (.int ii), (.ref y)]) (rest := [(.ref a_9)]) (lenOf pd_925 rfl) rfl (by show 2 * 0 + _ ≤ _; exact Nat.le_of_eq rfl) (hb hby d44_10) (fun _ _ => ⟨rfl, e_17, (by decide : 1 + 14 ≤ _), (by decide : 6 + 2922 ≤ _)⟩)
 dsimp only [Pt.U, Pt.locs, Pt.cells, Pt.slots] at Y_28 S_28 G_28 l_28 y_28 z_28 st_28 hQ_28 R_28
 have Y_28 := own_cast Y_28 l_28 y_28 z_28
 obtain ⟨X_28, hS_28, hZ_28, hown_28⟩ := rebS hS0 (n1 := T_15.heap.size) (by rw [show T_15.heap = h_2 from e_17]; exact (Nat.le_trans (Nat.le_refl _) E_5.1)) Y_28 S_28 G_28 hZ hown
 obtain ⟨a_29, a_30, k_31, rfl, N_32, K_33, g_34, g_35, g_36, g_37, g_38, g_39⟩ := hQ_28
 have N_40 := Fr.app N0 N_32
 have CH_41 : CHv Z consts_1 T_28.vm T_28.heap := R_28.1
 have CR_42 : CHr Z consts_1 s.vm h0 T_28.vm T_28.heap := CR_13.trans R_28
 have hTK_43 : (s.setVm T_28.vm).vm.MethodsKnown := Vm.MethodsKnown.alikeC (hS_28.1.alike) hTK0
 have hBL_44 : (s.setVm T_28.vm).vm.FramesKnown below := Vm.FramesKnown.alikeC (hS_28.1.alike) hBL0
 have C_45 : Steps p.tables e below S0 (T_28.setTop (mkF m 13 #[VR b, VI ii, VR y] [(.ref a_9)])) := by
  refine C0.trans ?_
  refine st_8 _ ?_
  refine XS.dup X_3.here hx rfl (hb hby d44_3) rfl rfl ?_
  refine XS.aloadN X_3.here hx rfl (hb hby d44_4) rfl rfl ?_
  refine st_18 _ ?_
  refine XS.iloadN X_16.here hx rfl (hb hby d44_8) rfl ?_
  refine XS.aloadN X_16.here hx rfl (hb hby d44_9) rfl rfl ?_
  refine st_28.trans ?_
  exact Steps.refl _
 have K_46 : Keep h0 T_28.heap [] := (((Keep.refl _ _).ext E_5).trans K_33 (allS (Or.inr (Nat.le_trans (Nat.le_refl _) (Nat.le_of_eq g_10.symm))) all0))
 obtain ⟨fs, hr, hrun, hended, hRE⟩ := X_28.leaveW hS_28 (by rw [show T_28.heap = T_28.heap from rfl]; exact (Nat.le_refl _)) (v := some (.ref a_9)) (fun h => by rw [Bd.returns] at h; cases h)
 refine ⟨_, _, C_45.trans (retOut X_28 hx Bd.returns rfl (Or.inr (Or.inr (Or.inr (Or.inr ⟨rfl, rfl, rfl⟩)))) (hb hby d44_13) hr), hrun, hended, _, _, rfl, ?_, ?_, hRE.1, hRE.2.1, hRE.2.2.1, hRE.2.2.2.mono (by decide) (by decide)⟩
 ·show Q_err Z G1 G3 g1 kg1 g2 kg2 uS sS b x t kt c0 c1 ii y u ku d0 d1 h0 n0 (some (.ref a_9)) T_28.heap _
  exact ⟨a_9, a_29, a_30, k_31, rfl, N_40, K_46, (Nat.le_trans (Nat.le_refl _) (Nat.le_of_eq g_10.symm)), g_34, g_35, g_36, g_37, g_38, g_39⟩
 ·show CHr Z consts_1 s.vm s.heap T_28.vm T_28.heap
  rw [hh]
  exact CR_42.trans (CHv.at X_28 hZ_28 hEL CH_41)
abbrev M930 : MethodName := ⟨"com/example/claimgate/claimgate/config/ConfigSyntaxErrorPinLaw", "digits", "(I)I"⟩
theorem ef_931 (m : MethodId) (x0 : Int32) : entryFrame m #[(.int x0)] 2 = mkF m 0 #[VI x0, .unset] [] := by first | (simp [entryFrame, mkF, argsToLocals, Value.category]; done) | rfl
theorem pn_932 : plainName "com/example/claimgate/claimgate/config/ConfigSyntaxErrorPinLaw" = true := by first | (simp [plainName, overriddenIn]; done) | decide +kernel
theorem d45_0 : decode method_4_code 0 = .ok (.iconst 1, 1) := by decide +kernel
theorem d45_1 : decode method_4_code 1 = .ok (.istore_n 1, 1) := by decide +kernel
theorem d45_2 : decode method_4_code 2 = .ok (.iload_n 0, 1) := by decide +kernel
theorem d45_3 : decode method_4_code 3 = .ok (.bipush 10, 2) := by decide +kernel
theorem d45_5 : decode method_4_code 5 = .ok (.if_icmp .lt 5, 3) := by decide +kernel
theorem d45_10 : decode method_4_code 10 = .ok (.iload_n 0, 1) := by decide +kernel
theorem d45_11 : decode method_4_code 11 = .ok (.bipush 100, 2) := by decide +kernel
theorem d45_13 : decode method_4_code 13 = .ok (.if_icmp .lt 5, 3) := by decide +kernel
theorem d45_18 : decode method_4_code 18 = .ok (.iload_n 0, 1) := by decide +kernel
theorem d45_19 : decode method_4_code 19 = .ok (.sipush 1000, 3) := by decide +kernel
theorem d45_22 : decode method_4_code 22 = .ok (.if_icmp .lt 5, 3) := by decide +kernel
theorem d45_27 : decode method_4_code 27 = .ok (.iload_n 0, 1) := by decide +kernel
theorem d45_28 : decode method_4_code 28 = .ok (.sipush 10000, 3) := by decide +kernel
theorem d45_31 : decode method_4_code 31 = .ok (.if_icmp .lt 5, 3) := by decide +kernel
theorem d45_36 : decode method_4_code 36 = .ok (.iload_n 0, 1) := by decide +kernel
theorem w240 {Z a0} (hw : HW Z a0) : Cond.before (Cond.constant "com/example/claimgate/claimgate/config/ConfigSyntaxErrorPinLaw" (48 : Nat) (100000 : Int32)) a0 Z = true := hw _ (List.mem_of_getElem? (i := 240) rfl)
theorem d45_37 : decode method_4_code 37 = .ok (.ldc 48, 2) := by decide +kernel
theorem d45_39 : decode method_4_code 39 = .ok (.if_icmp .lt 6, 3) := by decide +kernel
theorem d45_45 : decode method_4_code 45 = .ok (.iload_n 0, 1) := by decide +kernel
theorem w241 {Z a0} (hw : HW Z a0) : Cond.before (Cond.constant "com/example/claimgate/claimgate/config/ConfigSyntaxErrorPinLaw" (49 : Nat) (1000000 : Int32)) a0 Z = true := hw _ (List.mem_of_getElem? (i := 241) rfl)
theorem d45_46 : decode method_4_code 46 = .ok (.ldc 49, 2) := by decide +kernel
theorem d45_48 : decode method_4_code 48 = .ok (.if_icmp .lt 6, 3) := by decide +kernel
theorem d45_54 : decode method_4_code 54 = .ok (.iload_n 0, 1) := by decide +kernel
theorem w242 {Z a0} (hw : HW Z a0) : Cond.before (Cond.constant "com/example/claimgate/claimgate/config/ConfigSyntaxErrorPinLaw" (50 : Nat) (10000000 : Int32)) a0 Z = true := hw _ (List.mem_of_getElem? (i := 242) rfl)
theorem d45_55 : decode method_4_code 55 = .ok (.ldc 50, 2) := by decide +kernel
theorem d45_57 : decode method_4_code 57 = .ok (.if_icmp .lt 6, 3) := by decide +kernel
theorem d45_63 : decode method_4_code 63 = .ok (.iload_n 0, 1) := by decide +kernel
theorem w243 {Z a0} (hw : HW Z a0) : Cond.before (Cond.constant "com/example/claimgate/claimgate/config/ConfigSyntaxErrorPinLaw" (51 : Nat) (100000000 : Int32)) a0 Z = true := hw _ (List.mem_of_getElem? (i := 243) rfl)
theorem d45_64 : decode method_4_code 64 = .ok (.ldc 51, 2) := by decide +kernel
theorem d45_66 : decode method_4_code 66 = .ok (.if_icmp .lt 6, 3) := by decide +kernel
theorem d45_72 : decode method_4_code 72 = .ok (.iload_n 0, 1) := by decide +kernel
theorem w244 {Z a0} (hw : HW Z a0) : Cond.before (Cond.constant "com/example/claimgate/claimgate/config/ConfigSyntaxErrorPinLaw" (52 : Nat) (1000000000 : Int32)) a0 Z = true := hw _ (List.mem_of_getElem? (i := 244) rfl)
theorem d45_73 : decode method_4_code 73 = .ok (.ldc 52, 2) := by decide +kernel
theorem d45_75 : decode method_4_code 75 = .ok (.if_icmp .lt 6, 3) := by decide +kernel
theorem d45_81 : decode method_4_code 81 = .ok (.iload_n 1, 1) := by decide +kernel
theorem d45_82 : decode method_4_code 82 = .ok (.ireturn, 1) := by decide +kernel
theorem d45_8 : decode method_4_code 8 = .ok (.iconst 2, 1) := by decide +kernel
theorem d45_9 : decode method_4_code 9 = .ok (.istore_n 1, 1) := by decide +kernel
theorem d45_16 : decode method_4_code 16 = .ok (.iconst 3, 1) := by decide +kernel
theorem d45_17 : decode method_4_code 17 = .ok (.istore_n 1, 1) := by decide +kernel
theorem d45_25 : decode method_4_code 25 = .ok (.iconst 4, 1) := by decide +kernel
theorem d45_26 : decode method_4_code 26 = .ok (.istore_n 1, 1) := by decide +kernel
theorem d45_34 : decode method_4_code 34 = .ok (.iconst 5, 1) := by decide +kernel
theorem d45_35 : decode method_4_code 35 = .ok (.istore_n 1, 1) := by decide +kernel
theorem d45_42 : decode method_4_code 42 = .ok (.bipush 6, 2) := by decide +kernel
theorem d45_44 : decode method_4_code 44 = .ok (.istore_n 1, 1) := by decide +kernel
theorem d45_51 : decode method_4_code 51 = .ok (.bipush 7, 2) := by decide +kernel
theorem d45_53 : decode method_4_code 53 = .ok (.istore_n 1, 1) := by decide +kernel
theorem d45_60 : decode method_4_code 60 = .ok (.bipush 8, 2) := by decide +kernel
theorem d45_62 : decode method_4_code 62 = .ok (.istore_n 1, 1) := by decide +kernel
theorem d45_69 : decode method_4_code 69 = .ok (.bipush 9, 2) := by decide +kernel
theorem d45_71 : decode method_4_code 71 = .ok (.istore_n 1, 1) := by decide +kernel
theorem d45_78 : decode method_4_code 78 = .ok (.bipush 10, 2) := by decide +kernel
theorem d45_80 : decode method_4_code 80 = .ok (.istore_n 1, 1) := by decide +kernel
abbrev R_dgs : Room := { frames := 0, cells := 0, slots := 0, locals := 0 }
def Q_dgs (Z : State) (G1 : Int32) (G3 : Value) (g1 : Addr) (kg1 : ClassId) (g2 : Addr) (kg2 : ClassId) (uS : Value) (sS : Value) (ii : Int32) (h0 : Heap) (n0 : Nat) (v : Option Value) (h : Heap) (L : List Loc) : Prop := (v = some (.int (own_ssz ii)) ∧ Fr n0 L ∧ h = h0)
theorem rm_dgs (l : Launch) (Z : State) (a0 : Array Value) (hw : HW Z a0) (ws : List Jvm.Cond) (G1 : Int32) (G3 : Value) (g1 : Addr) (kg1 : ClassId) (g2 : Addr) (kg2 : ClassId) (uS : Value) (sS : Value) (HG : own_G l Z a0 G1 G3 g1 kg1 g2 kg2 uS sS) (h0 : Heap) (n0 : Nat) (X00 : Old Z n0 h0) (ii : Int32)  :
  own_CP l Z M930 method_4_code 2 (some .int) ws R_dgs #[(.int ii)] h0 (Q_dgs Z G1 G3 g1 kg1 g2 kg2 uS sS ii h0 n0) := by
 refine own_P (plainFor_of_name pn_932) ?_
 intro p e s m below meth c s₁ S0 Bd hZ hh hx hby hml hown hnm X0 e0 hS0d
 obtain ⟨O1, P1, O3f, rG3, Sg1, Dg1, Sg2, Dg2, hLT, OU, rU, OS, rS⟩ := id HG
 have N0 := Fr.nil n0
 have C0 : Steps p.tables e below S0 (s₁.setTop (mkF m 0 #[VI ii, .unset] [])) := by rw [hS0d]; exact castTop (ef_931 m ii) (Steps.refl _)
 have C_1 : Steps p.tables e below S0 (s₁.setTop (mkF m 5 #[VI ii, VI 1] [(.int 10), (.int ii)])) := by
  refine C0.trans ?_
  refine XS.iconst X0.here hx rfl (hb hby d45_0) ?_
  refine XS.istoreN X0.here hx rfl (hb hby d45_1) rfl (l' := #[VI ii, VI 1]) rfl ?_
  refine XS.iloadN X0.here hx rfl (hb hby d45_2) rfl ?_
  refine XS.bipush X0.here hx rfl (hb hby d45_3) ?_
  exact Steps.refl _
 by_cases hc_2 : ii < (10 : Int32)
 ·skip
  have C_3 : Steps p.tables e below S0 (s₁.setTop (mkF m 82 #[VI ii, VI 1] [(.int 1)])) := by
   refine C_1.trans ?_
   refine XS.icmpYes X0.here hx rfl (pc0 := 5) (pc' := 10) rfl (hb hby d45_5) rfl (ii_lt_t hc_2) (by decide) (by decide) ?_
   refine XS.iloadN X0.here hx rfl (hb hby d45_10) rfl ?_
   refine XS.bipush X0.here hx rfl (hb hby d45_11) ?_
   refine XS.icmpYes X0.here hx rfl (pc0 := 13) (pc' := 18) rfl (hb hby d45_13) rfl (ii_lt_t (own_lt1 hc_2 (by decide))) (by decide) (by decide) ?_
   refine XS.iloadN X0.here hx rfl (hb hby d45_18) rfl ?_
   refine XS.sipush X0.here hx rfl (hb hby d45_19) ?_
   refine XS.icmpYes X0.here hx rfl (pc0 := 22) (pc' := 27) rfl (hb hby d45_22) rfl (ii_lt_t (own_lt1 hc_2 (by decide))) (by decide) (by decide) ?_
   refine XS.iloadN X0.here hx rfl (hb hby d45_27) rfl ?_
   show Steps p.tables e below (s₁.setTop (mkF m 28 #[VI ii, VI 1] [(.int ii)])) _
   refine XS.sipush X0.here hx rfl (hb hby d45_28) ?_
   refine XS.icmpYes X0.here hx rfl (pc0 := 31) (pc' := 36) rfl (hb hby d45_31) rfl (ii_lt_t (own_lt1 hc_2 (by decide))) (by decide) (by decide) ?_
   refine XS.iloadN X0.here hx rfl (hb hby d45_36) rfl ?_
   refine X0.ldcI hx hown (mvT hZ (w240 hw)) rfl (hb hby d45_37) ?_
   refine XS.icmpYes X0.here hx rfl (pc0 := 39) (pc' := 45) rfl (hb hby d45_39) rfl (ii_lt_t (own_lt1 hc_2 (by decide))) (by decide) (by decide) ?_
   refine XS.iloadN X0.here hx rfl (hb hby d45_45) rfl ?_
   refine X0.ldcI hx hown (mvT hZ (w241 hw)) rfl (hb hby d45_46) ?_
   refine XS.icmpYes X0.here hx rfl (pc0 := 48) (pc' := 54) rfl (hb hby d45_48) rfl (ii_lt_t (own_lt1 hc_2 (by decide))) (by decide) (by decide) ?_
   show Steps p.tables e below (s₁.setTop (mkF m 54 #[VI ii, VI 1] [])) _
   refine XS.iloadN X0.here hx rfl (hb hby d45_54) rfl ?_
   refine X0.ldcI hx hown (mvT hZ (w242 hw)) rfl (hb hby d45_55) ?_
   refine XS.icmpYes X0.here hx rfl (pc0 := 57) (pc' := 63) rfl (hb hby d45_57) rfl (ii_lt_t (own_lt1 hc_2 (by decide))) (by decide) (by decide) ?_
   refine XS.iloadN X0.here hx rfl (hb hby d45_63) rfl ?_
   refine X0.ldcI hx hown (mvT hZ (w243 hw)) rfl (hb hby d45_64) ?_
   refine XS.icmpYes X0.here hx rfl (pc0 := 66) (pc' := 72) rfl (hb hby d45_66) rfl (ii_lt_t (own_lt1 hc_2 (by decide))) (by decide) (by decide) ?_
   refine XS.iloadN X0.here hx rfl (hb hby d45_72) rfl ?_
   refine X0.ldcI hx hown (mvT hZ (w244 hw)) rfl (hb hby d45_73) ?_
   show Steps p.tables e below (s₁.setTop (mkF m 75 #[VI ii, VI 1] [(.int 1000000000), (.int ii)])) _
   refine XS.icmpYes X0.here hx rfl (pc0 := 75) (pc' := 81) rfl (hb hby d45_75) rfl (ii_lt_t (own_lt1 hc_2 (by decide))) (by decide) (by decide) ?_
   refine XS.iloadN X0.here hx rfl (hb hby d45_81) rfl ?_
   exact Steps.refl _
  obtain ⟨fs, hr, hrun, hended, hW, hsame⟩ := X0.leave (v := some (.int 1)) (fun h => by rw [Bd.returns] at h; cases h)
  refine ⟨_, _, C_3.trans (retOut X0 hx Bd.returns rfl (Or.inl ⟨rfl, Or.inl rfl, _, rfl⟩) (hb hby d45_82) hr), hrun, hended, _, _, rfl, ?_, ⟨_, rfl⟩, hW, hsame.mono (by decide) (by decide)⟩
  show Q_dgs Z G1 G3 g1 kg1 g2 kg2 uS sS ii h0 n0 (some (.int 1)) s₁.heap _
  rw [e0]
  exact ⟨(congrArg (fun q => some (Value.int q)) (by unfold own_ssz own_dn; rw [if_pos hc_2]; rfl)), N0, rfl⟩
 ·skip
  have C_4 : Steps p.tables e below S0 (s₁.setTop (mkF m 13 #[VI ii, VI 2] [(.int 100), (.int ii)])) := by
   refine C_1.trans ?_
   refine XS.icmpNo X0.here hx rfl (hb hby d45_5) rfl (ii_lt_f hc_2) ?_
   refine XS.iconst X0.here hx rfl (hb hby d45_8) ?_
   refine XS.istoreN X0.here hx rfl (hb hby d45_9) rfl (l' := #[VI ii, VI 2]) rfl ?_
   refine XS.iloadN X0.here hx rfl (hb hby d45_10) rfl ?_
   refine XS.bipush X0.here hx rfl (hb hby d45_11) ?_
   exact Steps.refl _
  by_cases hc_5 : ii < (100 : Int32)
  ·skip
   have C_6 : Steps p.tables e below S0 (s₁.setTop (mkF m 82 #[VI ii, VI 2] [(.int 2)])) := by
    refine C_4.trans ?_
    refine XS.icmpYes X0.here hx rfl (pc0 := 13) (pc' := 18) rfl (hb hby d45_13) rfl (ii_lt_t hc_5) (by decide) (by decide) ?_
    refine XS.iloadN X0.here hx rfl (hb hby d45_18) rfl ?_
    refine XS.sipush X0.here hx rfl (hb hby d45_19) ?_
    refine XS.icmpYes X0.here hx rfl (pc0 := 22) (pc' := 27) rfl (hb hby d45_22) rfl (ii_lt_t (own_lt1 hc_5 (by decide))) (by decide) (by decide) ?_
    refine XS.iloadN X0.here hx rfl (hb hby d45_27) rfl ?_
    refine XS.sipush X0.here hx rfl (hb hby d45_28) ?_
    refine XS.icmpYes X0.here hx rfl (pc0 := 31) (pc' := 36) rfl (hb hby d45_31) rfl (ii_lt_t (own_lt1 hc_5 (by decide))) (by decide) (by decide) ?_
    refine XS.iloadN X0.here hx rfl (hb hby d45_36) rfl ?_
    show Steps p.tables e below (s₁.setTop (mkF m 37 #[VI ii, VI 2] [(.int ii)])) _
    refine X0.ldcI hx hown (mvT hZ (w240 hw)) rfl (hb hby d45_37) ?_
    refine XS.icmpYes X0.here hx rfl (pc0 := 39) (pc' := 45) rfl (hb hby d45_39) rfl (ii_lt_t (own_lt1 hc_5 (by decide))) (by decide) (by decide) ?_
    refine XS.iloadN X0.here hx rfl (hb hby d45_45) rfl ?_
    refine X0.ldcI hx hown (mvT hZ (w241 hw)) rfl (hb hby d45_46) ?_
    refine XS.icmpYes X0.here hx rfl (pc0 := 48) (pc' := 54) rfl (hb hby d45_48) rfl (ii_lt_t (own_lt1 hc_5 (by decide))) (by decide) (by decide) ?_
    refine XS.iloadN X0.here hx rfl (hb hby d45_54) rfl ?_
    refine X0.ldcI hx hown (mvT hZ (w242 hw)) rfl (hb hby d45_55) ?_
    refine XS.icmpYes X0.here hx rfl (pc0 := 57) (pc' := 63) rfl (hb hby d45_57) rfl (ii_lt_t (own_lt1 hc_5 (by decide))) (by decide) (by decide) ?_
    show Steps p.tables e below (s₁.setTop (mkF m 63 #[VI ii, VI 2] [])) _
    refine XS.iloadN X0.here hx rfl (hb hby d45_63) rfl ?_
    refine X0.ldcI hx hown (mvT hZ (w243 hw)) rfl (hb hby d45_64) ?_
    refine XS.icmpYes X0.here hx rfl (pc0 := 66) (pc' := 72) rfl (hb hby d45_66) rfl (ii_lt_t (own_lt1 hc_5 (by decide))) (by decide) (by decide) ?_
    refine XS.iloadN X0.here hx rfl (hb hby d45_72) rfl ?_
    refine X0.ldcI hx hown (mvT hZ (w244 hw)) rfl (hb hby d45_73) ?_
    refine XS.icmpYes X0.here hx rfl (pc0 := 75) (pc' := 81) rfl (hb hby d45_75) rfl (ii_lt_t (own_lt1 hc_5 (by decide))) (by decide) (by decide) ?_
    refine XS.iloadN X0.here hx rfl (hb hby d45_81) rfl ?_
    exact Steps.refl _
   obtain ⟨fs, hr, hrun, hended, hW, hsame⟩ := X0.leave (v := some (.int 2)) (fun h => by rw [Bd.returns] at h; cases h)
   refine ⟨_, _, C_6.trans (retOut X0 hx Bd.returns rfl (Or.inl ⟨rfl, Or.inl rfl, _, rfl⟩) (hb hby d45_82) hr), hrun, hended, _, _, rfl, ?_, ⟨_, rfl⟩, hW, hsame.mono (by decide) (by decide)⟩
   show Q_dgs Z G1 G3 g1 kg1 g2 kg2 uS sS ii h0 n0 (some (.int 2)) s₁.heap _
   rw [e0]
   exact ⟨(congrArg (fun q => some (Value.int q)) (by unfold own_ssz own_dn; rw [if_neg hc_2, if_pos hc_5]; rfl)), N0, rfl⟩
  ·skip
   have C_7 : Steps p.tables e below S0 (s₁.setTop (mkF m 22 #[VI ii, VI 3] [(.int 1000), (.int ii)])) := by
    refine C_4.trans ?_
    refine XS.icmpNo X0.here hx rfl (hb hby d45_13) rfl (ii_lt_f hc_5) ?_
    refine XS.iconst X0.here hx rfl (hb hby d45_16) ?_
    refine XS.istoreN X0.here hx rfl (hb hby d45_17) rfl (l' := #[VI ii, VI 3]) rfl ?_
    refine XS.iloadN X0.here hx rfl (hb hby d45_18) rfl ?_
    refine XS.sipush X0.here hx rfl (hb hby d45_19) ?_
    exact Steps.refl _
   by_cases hc_8 : ii < (1000 : Int32)
   ·skip
    have C_9 : Steps p.tables e below S0 (s₁.setTop (mkF m 82 #[VI ii, VI 3] [(.int 3)])) := by
     refine C_7.trans ?_
     refine XS.icmpYes X0.here hx rfl (pc0 := 22) (pc' := 27) rfl (hb hby d45_22) rfl (ii_lt_t hc_8) (by decide) (by decide) ?_
     refine XS.iloadN X0.here hx rfl (hb hby d45_27) rfl ?_
     refine XS.sipush X0.here hx rfl (hb hby d45_28) ?_
     refine XS.icmpYes X0.here hx rfl (pc0 := 31) (pc' := 36) rfl (hb hby d45_31) rfl (ii_lt_t (own_lt1 hc_8 (by decide))) (by decide) (by decide) ?_
     refine XS.iloadN X0.here hx rfl (hb hby d45_36) rfl ?_
     refine X0.ldcI hx hown (mvT hZ (w240 hw)) rfl (hb hby d45_37) ?_
     refine XS.icmpYes X0.here hx rfl (pc0 := 39) (pc' := 45) rfl (hb hby d45_39) rfl (ii_lt_t (own_lt1 hc_8 (by decide))) (by decide) (by decide) ?_
     refine XS.iloadN X0.here hx rfl (hb hby d45_45) rfl ?_
     show Steps p.tables e below (s₁.setTop (mkF m 46 #[VI ii, VI 3] [(.int ii)])) _
     refine X0.ldcI hx hown (mvT hZ (w241 hw)) rfl (hb hby d45_46) ?_
     refine XS.icmpYes X0.here hx rfl (pc0 := 48) (pc' := 54) rfl (hb hby d45_48) rfl (ii_lt_t (own_lt1 hc_8 (by decide))) (by decide) (by decide) ?_
     refine XS.iloadN X0.here hx rfl (hb hby d45_54) rfl ?_
     refine X0.ldcI hx hown (mvT hZ (w242 hw)) rfl (hb hby d45_55) ?_
     refine XS.icmpYes X0.here hx rfl (pc0 := 57) (pc' := 63) rfl (hb hby d45_57) rfl (ii_lt_t (own_lt1 hc_8 (by decide))) (by decide) (by decide) ?_
     refine XS.iloadN X0.here hx rfl (hb hby d45_63) rfl ?_
     refine X0.ldcI hx hown (mvT hZ (w243 hw)) rfl (hb hby d45_64) ?_
     refine XS.icmpYes X0.here hx rfl (pc0 := 66) (pc' := 72) rfl (hb hby d45_66) rfl (ii_lt_t (own_lt1 hc_8 (by decide))) (by decide) (by decide) ?_
     show Steps p.tables e below (s₁.setTop (mkF m 72 #[VI ii, VI 3] [])) _
     refine XS.iloadN X0.here hx rfl (hb hby d45_72) rfl ?_
     refine X0.ldcI hx hown (mvT hZ (w244 hw)) rfl (hb hby d45_73) ?_
     refine XS.icmpYes X0.here hx rfl (pc0 := 75) (pc' := 81) rfl (hb hby d45_75) rfl (ii_lt_t (own_lt1 hc_8 (by decide))) (by decide) (by decide) ?_
     refine XS.iloadN X0.here hx rfl (hb hby d45_81) rfl ?_
     exact Steps.refl _
    obtain ⟨fs, hr, hrun, hended, hW, hsame⟩ := X0.leave (v := some (.int 3)) (fun h => by rw [Bd.returns] at h; cases h)
    refine ⟨_, _, C_9.trans (retOut X0 hx Bd.returns rfl (Or.inl ⟨rfl, Or.inl rfl, _, rfl⟩) (hb hby d45_82) hr), hrun, hended, _, _, rfl, ?_, ⟨_, rfl⟩, hW, hsame.mono (by decide) (by decide)⟩
    show Q_dgs Z G1 G3 g1 kg1 g2 kg2 uS sS ii h0 n0 (some (.int 3)) s₁.heap _
    rw [e0]
    exact ⟨(congrArg (fun q => some (Value.int q)) (by unfold own_ssz own_dn; rw [if_neg hc_2, if_neg hc_5, if_pos hc_8]; rfl)), N0, rfl⟩
   ·skip
    have C_10 : Steps p.tables e below S0 (s₁.setTop (mkF m 31 #[VI ii, VI 4] [(.int 10000), (.int ii)])) := by
     refine C_7.trans ?_
     refine XS.icmpNo X0.here hx rfl (hb hby d45_22) rfl (ii_lt_f hc_8) ?_
     refine XS.iconst X0.here hx rfl (hb hby d45_25) ?_
     refine XS.istoreN X0.here hx rfl (hb hby d45_26) rfl (l' := #[VI ii, VI 4]) rfl ?_
     refine XS.iloadN X0.here hx rfl (hb hby d45_27) rfl ?_
     refine XS.sipush X0.here hx rfl (hb hby d45_28) ?_
     exact Steps.refl _
    by_cases hc_11 : ii < (10000 : Int32)
    ·skip
     have C_12 : Steps p.tables e below S0 (s₁.setTop (mkF m 82 #[VI ii, VI 4] [(.int 4)])) := by
      refine C_10.trans ?_
      refine XS.icmpYes X0.here hx rfl (pc0 := 31) (pc' := 36) rfl (hb hby d45_31) rfl (ii_lt_t hc_11) (by decide) (by decide) ?_
      refine XS.iloadN X0.here hx rfl (hb hby d45_36) rfl ?_
      refine X0.ldcI hx hown (mvT hZ (w240 hw)) rfl (hb hby d45_37) ?_
      refine XS.icmpYes X0.here hx rfl (pc0 := 39) (pc' := 45) rfl (hb hby d45_39) rfl (ii_lt_t (own_lt1 hc_11 (by decide))) (by decide) (by decide) ?_
      refine XS.iloadN X0.here hx rfl (hb hby d45_45) rfl ?_
      refine X0.ldcI hx hown (mvT hZ (w241 hw)) rfl (hb hby d45_46) ?_
      refine XS.icmpYes X0.here hx rfl (pc0 := 48) (pc' := 54) rfl (hb hby d45_48) rfl (ii_lt_t (own_lt1 hc_11 (by decide))) (by decide) (by decide) ?_
      refine XS.iloadN X0.here hx rfl (hb hby d45_54) rfl ?_
      show Steps p.tables e below (s₁.setTop (mkF m 55 #[VI ii, VI 4] [(.int ii)])) _
      refine X0.ldcI hx hown (mvT hZ (w242 hw)) rfl (hb hby d45_55) ?_
      refine XS.icmpYes X0.here hx rfl (pc0 := 57) (pc' := 63) rfl (hb hby d45_57) rfl (ii_lt_t (own_lt1 hc_11 (by decide))) (by decide) (by decide) ?_
      refine XS.iloadN X0.here hx rfl (hb hby d45_63) rfl ?_
      refine X0.ldcI hx hown (mvT hZ (w243 hw)) rfl (hb hby d45_64) ?_
      refine XS.icmpYes X0.here hx rfl (pc0 := 66) (pc' := 72) rfl (hb hby d45_66) rfl (ii_lt_t (own_lt1 hc_11 (by decide))) (by decide) (by decide) ?_
      refine XS.iloadN X0.here hx rfl (hb hby d45_72) rfl ?_
      refine X0.ldcI hx hown (mvT hZ (w244 hw)) rfl (hb hby d45_73) ?_
      refine XS.icmpYes X0.here hx rfl (pc0 := 75) (pc' := 81) rfl (hb hby d45_75) rfl (ii_lt_t (own_lt1 hc_11 (by decide))) (by decide) (by decide) ?_
      show Steps p.tables e below (s₁.setTop (mkF m 81 #[VI ii, VI 4] [])) _
      refine XS.iloadN X0.here hx rfl (hb hby d45_81) rfl ?_
      exact Steps.refl _
     obtain ⟨fs, hr, hrun, hended, hW, hsame⟩ := X0.leave (v := some (.int 4)) (fun h => by rw [Bd.returns] at h; cases h)
     refine ⟨_, _, C_12.trans (retOut X0 hx Bd.returns rfl (Or.inl ⟨rfl, Or.inl rfl, _, rfl⟩) (hb hby d45_82) hr), hrun, hended, _, _, rfl, ?_, ⟨_, rfl⟩, hW, hsame.mono (by decide) (by decide)⟩
     show Q_dgs Z G1 G3 g1 kg1 g2 kg2 uS sS ii h0 n0 (some (.int 4)) s₁.heap _
     rw [e0]
     exact ⟨(congrArg (fun q => some (Value.int q)) (by unfold own_ssz own_dn; rw [if_neg hc_2, if_neg hc_5, if_neg hc_8, if_pos hc_11]; rfl)), N0, rfl⟩
    ·skip
     have C_13 : Steps p.tables e below S0 (s₁.setTop (mkF m 39 #[VI ii, VI 5] [(.int 100000), (.int ii)])) := by
      refine C_10.trans ?_
      refine XS.icmpNo X0.here hx rfl (hb hby d45_31) rfl (ii_lt_f hc_11) ?_
      refine XS.iconst X0.here hx rfl (hb hby d45_34) ?_
      refine XS.istoreN X0.here hx rfl (hb hby d45_35) rfl (l' := #[VI ii, VI 5]) rfl ?_
      refine XS.iloadN X0.here hx rfl (hb hby d45_36) rfl ?_
      refine X0.ldcI hx hown (mvT hZ (w240 hw)) rfl (hb hby d45_37) ?_
      exact Steps.refl _
     by_cases hc_14 : ii < (100000 : Int32)
     ·skip
      have C_15 : Steps p.tables e below S0 (s₁.setTop (mkF m 82 #[VI ii, VI 5] [(.int 5)])) := by
       refine C_13.trans ?_
       refine XS.icmpYes X0.here hx rfl (pc0 := 39) (pc' := 45) rfl (hb hby d45_39) rfl (ii_lt_t hc_14) (by decide) (by decide) ?_
       refine XS.iloadN X0.here hx rfl (hb hby d45_45) rfl ?_
       refine X0.ldcI hx hown (mvT hZ (w241 hw)) rfl (hb hby d45_46) ?_
       refine XS.icmpYes X0.here hx rfl (pc0 := 48) (pc' := 54) rfl (hb hby d45_48) rfl (ii_lt_t (own_lt1 hc_14 (by decide))) (by decide) (by decide) ?_
       refine XS.iloadN X0.here hx rfl (hb hby d45_54) rfl ?_
       refine X0.ldcI hx hown (mvT hZ (w242 hw)) rfl (hb hby d45_55) ?_
       refine XS.icmpYes X0.here hx rfl (pc0 := 57) (pc' := 63) rfl (hb hby d45_57) rfl (ii_lt_t (own_lt1 hc_14 (by decide))) (by decide) (by decide) ?_
       refine XS.iloadN X0.here hx rfl (hb hby d45_63) rfl ?_
       show Steps p.tables e below (s₁.setTop (mkF m 64 #[VI ii, VI 5] [(.int ii)])) _
       refine X0.ldcI hx hown (mvT hZ (w243 hw)) rfl (hb hby d45_64) ?_
       refine XS.icmpYes X0.here hx rfl (pc0 := 66) (pc' := 72) rfl (hb hby d45_66) rfl (ii_lt_t (own_lt1 hc_14 (by decide))) (by decide) (by decide) ?_
       refine XS.iloadN X0.here hx rfl (hb hby d45_72) rfl ?_
       refine X0.ldcI hx hown (mvT hZ (w244 hw)) rfl (hb hby d45_73) ?_
       refine XS.icmpYes X0.here hx rfl (pc0 := 75) (pc' := 81) rfl (hb hby d45_75) rfl (ii_lt_t (own_lt1 hc_14 (by decide))) (by decide) (by decide) ?_
       refine XS.iloadN X0.here hx rfl (hb hby d45_81) rfl ?_
       exact Steps.refl _
      obtain ⟨fs, hr, hrun, hended, hW, hsame⟩ := X0.leave (v := some (.int 5)) (fun h => by rw [Bd.returns] at h; cases h)
      refine ⟨_, _, C_15.trans (retOut X0 hx Bd.returns rfl (Or.inl ⟨rfl, Or.inl rfl, _, rfl⟩) (hb hby d45_82) hr), hrun, hended, _, _, rfl, ?_, ⟨_, rfl⟩, hW, hsame.mono (by decide) (by decide)⟩
      show Q_dgs Z G1 G3 g1 kg1 g2 kg2 uS sS ii h0 n0 (some (.int 5)) s₁.heap _
      rw [e0]
      exact ⟨(congrArg (fun q => some (Value.int q)) (by unfold own_ssz own_dn; rw [if_neg hc_2, if_neg hc_5, if_neg hc_8, if_neg hc_11, if_pos hc_14]; rfl)), N0, rfl⟩
     ·skip
      have C_16 : Steps p.tables e below S0 (s₁.setTop (mkF m 48 #[VI ii, VI 6] [(.int 1000000), (.int ii)])) := by
       refine C_13.trans ?_
       refine XS.icmpNo X0.here hx rfl (hb hby d45_39) rfl (ii_lt_f hc_14) ?_
       refine XS.bipush X0.here hx rfl (hb hby d45_42) ?_
       refine XS.istoreN X0.here hx rfl (hb hby d45_44) rfl (l' := #[VI ii, VI 6]) rfl ?_
       refine XS.iloadN X0.here hx rfl (hb hby d45_45) rfl ?_
       refine X0.ldcI hx hown (mvT hZ (w241 hw)) rfl (hb hby d45_46) ?_
       exact Steps.refl _
      by_cases hc_17 : ii < (1000000 : Int32)
      ·skip
       have C_18 : Steps p.tables e below S0 (s₁.setTop (mkF m 82 #[VI ii, VI 6] [(.int 6)])) := by
        refine C_16.trans ?_
        refine XS.icmpYes X0.here hx rfl (pc0 := 48) (pc' := 54) rfl (hb hby d45_48) rfl (ii_lt_t hc_17) (by decide) (by decide) ?_
        refine XS.iloadN X0.here hx rfl (hb hby d45_54) rfl ?_
        refine X0.ldcI hx hown (mvT hZ (w242 hw)) rfl (hb hby d45_55) ?_
        refine XS.icmpYes X0.here hx rfl (pc0 := 57) (pc' := 63) rfl (hb hby d45_57) rfl (ii_lt_t (own_lt1 hc_17 (by decide))) (by decide) (by decide) ?_
        refine XS.iloadN X0.here hx rfl (hb hby d45_63) rfl ?_
        refine X0.ldcI hx hown (mvT hZ (w243 hw)) rfl (hb hby d45_64) ?_
        refine XS.icmpYes X0.here hx rfl (pc0 := 66) (pc' := 72) rfl (hb hby d45_66) rfl (ii_lt_t (own_lt1 hc_17 (by decide))) (by decide) (by decide) ?_
        refine XS.iloadN X0.here hx rfl (hb hby d45_72) rfl ?_
        show Steps p.tables e below (s₁.setTop (mkF m 73 #[VI ii, VI 6] [(.int ii)])) _
        refine X0.ldcI hx hown (mvT hZ (w244 hw)) rfl (hb hby d45_73) ?_
        refine XS.icmpYes X0.here hx rfl (pc0 := 75) (pc' := 81) rfl (hb hby d45_75) rfl (ii_lt_t (own_lt1 hc_17 (by decide))) (by decide) (by decide) ?_
        refine XS.iloadN X0.here hx rfl (hb hby d45_81) rfl ?_
        exact Steps.refl _
       obtain ⟨fs, hr, hrun, hended, hW, hsame⟩ := X0.leave (v := some (.int 6)) (fun h => by rw [Bd.returns] at h; cases h)
       refine ⟨_, _, C_18.trans (retOut X0 hx Bd.returns rfl (Or.inl ⟨rfl, Or.inl rfl, _, rfl⟩) (hb hby d45_82) hr), hrun, hended, _, _, rfl, ?_, ⟨_, rfl⟩, hW, hsame.mono (by decide) (by decide)⟩
       show Q_dgs Z G1 G3 g1 kg1 g2 kg2 uS sS ii h0 n0 (some (.int 6)) s₁.heap _
       rw [e0]
       exact ⟨(congrArg (fun q => some (Value.int q)) (by unfold own_ssz own_dn; rw [if_neg hc_2, if_neg hc_5, if_neg hc_8, if_neg hc_11, if_neg hc_14, if_pos hc_17]; rfl)), N0, rfl⟩
      ·skip
       have C_19 : Steps p.tables e below S0 (s₁.setTop (mkF m 57 #[VI ii, VI 7] [(.int 10000000), (.int ii)])) := by
        refine C_16.trans ?_
        refine XS.icmpNo X0.here hx rfl (hb hby d45_48) rfl (ii_lt_f hc_17) ?_
        refine XS.bipush X0.here hx rfl (hb hby d45_51) ?_
        refine XS.istoreN X0.here hx rfl (hb hby d45_53) rfl (l' := #[VI ii, VI 7]) rfl ?_
        refine XS.iloadN X0.here hx rfl (hb hby d45_54) rfl ?_
        refine X0.ldcI hx hown (mvT hZ (w242 hw)) rfl (hb hby d45_55) ?_
        exact Steps.refl _
       by_cases hc_20 : ii < (10000000 : Int32)
       ·skip
        have C_21 : Steps p.tables e below S0 (s₁.setTop (mkF m 82 #[VI ii, VI 7] [(.int 7)])) := by
         refine C_19.trans ?_
         refine XS.icmpYes X0.here hx rfl (pc0 := 57) (pc' := 63) rfl (hb hby d45_57) rfl (ii_lt_t hc_20) (by decide) (by decide) ?_
         refine XS.iloadN X0.here hx rfl (hb hby d45_63) rfl ?_
         refine X0.ldcI hx hown (mvT hZ (w243 hw)) rfl (hb hby d45_64) ?_
         refine XS.icmpYes X0.here hx rfl (pc0 := 66) (pc' := 72) rfl (hb hby d45_66) rfl (ii_lt_t (own_lt1 hc_20 (by decide))) (by decide) (by decide) ?_
         refine XS.iloadN X0.here hx rfl (hb hby d45_72) rfl ?_
         refine X0.ldcI hx hown (mvT hZ (w244 hw)) rfl (hb hby d45_73) ?_
         refine XS.icmpYes X0.here hx rfl (pc0 := 75) (pc' := 81) rfl (hb hby d45_75) rfl (ii_lt_t (own_lt1 hc_20 (by decide))) (by decide) (by decide) ?_
         refine XS.iloadN X0.here hx rfl (hb hby d45_81) rfl ?_
         show Steps p.tables e below (s₁.setTop (mkF m 82 #[VI ii, VI 7] [(.int 7)])) _
         exact Steps.refl _
        obtain ⟨fs, hr, hrun, hended, hW, hsame⟩ := X0.leave (v := some (.int 7)) (fun h => by rw [Bd.returns] at h; cases h)
        refine ⟨_, _, C_21.trans (retOut X0 hx Bd.returns rfl (Or.inl ⟨rfl, Or.inl rfl, _, rfl⟩) (hb hby d45_82) hr), hrun, hended, _, _, rfl, ?_, ⟨_, rfl⟩, hW, hsame.mono (by decide) (by decide)⟩
        show Q_dgs Z G1 G3 g1 kg1 g2 kg2 uS sS ii h0 n0 (some (.int 7)) s₁.heap _
        rw [e0]
        exact ⟨(congrArg (fun q => some (Value.int q)) (by unfold own_ssz own_dn; rw [if_neg hc_2, if_neg hc_5, if_neg hc_8, if_neg hc_11, if_neg hc_14, if_neg hc_17, if_pos hc_20]; rfl)), N0, rfl⟩
       ·skip
        have C_22 : Steps p.tables e below S0 (s₁.setTop (mkF m 66 #[VI ii, VI 8] [(.int 100000000), (.int ii)])) := by
         refine C_19.trans ?_
         refine XS.icmpNo X0.here hx rfl (hb hby d45_57) rfl (ii_lt_f hc_20) ?_
         refine XS.bipush X0.here hx rfl (hb hby d45_60) ?_
         refine XS.istoreN X0.here hx rfl (hb hby d45_62) rfl (l' := #[VI ii, VI 8]) rfl ?_
         refine XS.iloadN X0.here hx rfl (hb hby d45_63) rfl ?_
         refine X0.ldcI hx hown (mvT hZ (w243 hw)) rfl (hb hby d45_64) ?_
         exact Steps.refl _
        by_cases hc_23 : ii < (100000000 : Int32)
        ·skip
         have C_24 : Steps p.tables e below S0 (s₁.setTop (mkF m 82 #[VI ii, VI 8] [(.int 8)])) := by
          refine C_22.trans ?_
          refine XS.icmpYes X0.here hx rfl (pc0 := 66) (pc' := 72) rfl (hb hby d45_66) rfl (ii_lt_t hc_23) (by decide) (by decide) ?_
          refine XS.iloadN X0.here hx rfl (hb hby d45_72) rfl ?_
          refine X0.ldcI hx hown (mvT hZ (w244 hw)) rfl (hb hby d45_73) ?_
          refine XS.icmpYes X0.here hx rfl (pc0 := 75) (pc' := 81) rfl (hb hby d45_75) rfl (ii_lt_t (own_lt1 hc_23 (by decide))) (by decide) (by decide) ?_
          refine XS.iloadN X0.here hx rfl (hb hby d45_81) rfl ?_
          exact Steps.refl _
         obtain ⟨fs, hr, hrun, hended, hW, hsame⟩ := X0.leave (v := some (.int 8)) (fun h => by rw [Bd.returns] at h; cases h)
         refine ⟨_, _, C_24.trans (retOut X0 hx Bd.returns rfl (Or.inl ⟨rfl, Or.inl rfl, _, rfl⟩) (hb hby d45_82) hr), hrun, hended, _, _, rfl, ?_, ⟨_, rfl⟩, hW, hsame.mono (by decide) (by decide)⟩
         show Q_dgs Z G1 G3 g1 kg1 g2 kg2 uS sS ii h0 n0 (some (.int 8)) s₁.heap _
         rw [e0]
         exact ⟨(congrArg (fun q => some (Value.int q)) (by unfold own_ssz own_dn; rw [if_neg hc_2, if_neg hc_5, if_neg hc_8, if_neg hc_11, if_neg hc_14, if_neg hc_17, if_neg hc_20, if_pos hc_23]; rfl)), N0, rfl⟩
        ·skip
         have C_25 : Steps p.tables e below S0 (s₁.setTop (mkF m 75 #[VI ii, VI 9] [(.int 1000000000), (.int ii)])) := by
          refine C_22.trans ?_
          refine XS.icmpNo X0.here hx rfl (hb hby d45_66) rfl (ii_lt_f hc_23) ?_
          refine XS.bipush X0.here hx rfl (hb hby d45_69) ?_
          refine XS.istoreN X0.here hx rfl (hb hby d45_71) rfl (l' := #[VI ii, VI 9]) rfl ?_
          refine XS.iloadN X0.here hx rfl (hb hby d45_72) rfl ?_
          refine X0.ldcI hx hown (mvT hZ (w244 hw)) rfl (hb hby d45_73) ?_
          exact Steps.refl _
         by_cases hc_26 : ii < (1000000000 : Int32)
         ·skip
          have C_27 : Steps p.tables e below S0 (s₁.setTop (mkF m 82 #[VI ii, VI 9] [(.int 9)])) := by
           refine C_25.trans ?_
           refine XS.icmpYes X0.here hx rfl (pc0 := 75) (pc' := 81) rfl (hb hby d45_75) rfl (ii_lt_t hc_26) (by decide) (by decide) ?_
           refine XS.iloadN X0.here hx rfl (hb hby d45_81) rfl ?_
           exact Steps.refl _
          obtain ⟨fs, hr, hrun, hended, hW, hsame⟩ := X0.leave (v := some (.int 9)) (fun h => by rw [Bd.returns] at h; cases h)
          refine ⟨_, _, C_27.trans (retOut X0 hx Bd.returns rfl (Or.inl ⟨rfl, Or.inl rfl, _, rfl⟩) (hb hby d45_82) hr), hrun, hended, _, _, rfl, ?_, ⟨_, rfl⟩, hW, hsame.mono (by decide) (by decide)⟩
          show Q_dgs Z G1 G3 g1 kg1 g2 kg2 uS sS ii h0 n0 (some (.int 9)) s₁.heap _
          rw [e0]
          exact ⟨(congrArg (fun q => some (Value.int q)) (by unfold own_ssz own_dn; rw [if_neg hc_2, if_neg hc_5, if_neg hc_8, if_neg hc_11, if_neg hc_14, if_neg hc_17, if_neg hc_20, if_neg hc_23, if_pos hc_26]; rfl)), N0, rfl⟩
         ·skip
          have C_28 : Steps p.tables e below S0 (s₁.setTop (mkF m 82 #[VI ii, VI 10] [(.int 10)])) := by
           refine C_25.trans ?_
           refine XS.icmpNo X0.here hx rfl (hb hby d45_75) rfl (ii_lt_f hc_26) ?_
           refine XS.bipush X0.here hx rfl (hb hby d45_78) ?_
           refine XS.istoreN X0.here hx rfl (hb hby d45_80) rfl (l' := #[VI ii, VI 10]) rfl ?_
           refine XS.iloadN X0.here hx rfl (hb hby d45_81) rfl ?_
           exact Steps.refl _
          obtain ⟨fs, hr, hrun, hended, hW, hsame⟩ := X0.leave (v := some (.int 10)) (fun h => by rw [Bd.returns] at h; cases h)
          refine ⟨_, _, C_28.trans (retOut X0 hx Bd.returns rfl (Or.inl ⟨rfl, Or.inl rfl, _, rfl⟩) (hb hby d45_82) hr), hrun, hended, _, _, rfl, ?_, ⟨_, rfl⟩, hW, hsame.mono (by decide) (by decide)⟩
          show Q_dgs Z G1 G3 g1 kg1 g2 kg2 uS sS ii h0 n0 (some (.int 10)) s₁.heap _
          rw [e0]
          exact ⟨(congrArg (fun q => some (Value.int q)) (by unfold own_ssz own_dn; rw [if_neg hc_2, if_neg hc_5, if_neg hc_8, if_neg hc_11, if_neg hc_14, if_neg hc_17, if_neg hc_20, if_neg hc_23, if_neg hc_26]; rfl)), N0, rfl⟩
abbrev M987 : MethodName := ⟨"com/example/claimgate/claimgate/config/ConfigSyntaxErrorPinLaw", "pow10", "(I)I"⟩
theorem ef_988 (m : MethodId) (x0 : Int32) : entryFrame m #[(.int x0)] 1 = mkF m 0 #[VI x0] [] := by first | (simp [entryFrame, mkF, argsToLocals, Value.category]; done) | rfl
theorem d46_0 : decode method_5_code 0 = .ok (.iload_n 0, 1) := by decide +kernel
theorem d46_1 : decode method_5_code 1 = .ok (.ifCond .ne 5, 3) := by decide +kernel
theorem d46_4 : decode method_5_code 4 = .ok (.iconst 1, 1) := by decide +kernel
theorem d46_5 : decode method_5_code 5 = .ok (.ireturn, 1) := by decide +kernel
theorem d46_6 : decode method_5_code 6 = .ok (.iload_n 0, 1) := by decide +kernel
theorem d46_7 : decode method_5_code 7 = .ok (.iconst 1, 1) := by decide +kernel
theorem d46_8 : decode method_5_code 8 = .ok (.if_icmp .ne 6, 3) := by decide +kernel
theorem d46_11 : decode method_5_code 11 = .ok (.bipush 10, 2) := by decide +kernel
theorem d46_13 : decode method_5_code 13 = .ok (.ireturn, 1) := by decide +kernel
theorem d46_14 : decode method_5_code 14 = .ok (.iload_n 0, 1) := by decide +kernel
theorem d46_15 : decode method_5_code 15 = .ok (.iconst 2, 1) := by decide +kernel
theorem d46_16 : decode method_5_code 16 = .ok (.if_icmp .ne 6, 3) := by decide +kernel
theorem d46_19 : decode method_5_code 19 = .ok (.bipush 100, 2) := by decide +kernel
theorem d46_21 : decode method_5_code 21 = .ok (.ireturn, 1) := by decide +kernel
theorem d46_22 : decode method_5_code 22 = .ok (.iload_n 0, 1) := by decide +kernel
theorem d46_23 : decode method_5_code 23 = .ok (.iconst 3, 1) := by decide +kernel
theorem d46_24 : decode method_5_code 24 = .ok (.if_icmp .ne 7, 3) := by decide +kernel
theorem d46_27 : decode method_5_code 27 = .ok (.sipush 1000, 3) := by decide +kernel
theorem d46_30 : decode method_5_code 30 = .ok (.ireturn, 1) := by decide +kernel
theorem d46_31 : decode method_5_code 31 = .ok (.iload_n 0, 1) := by decide +kernel
theorem d46_32 : decode method_5_code 32 = .ok (.iconst 4, 1) := by decide +kernel
theorem d46_33 : decode method_5_code 33 = .ok (.if_icmp .ne 7, 3) := by decide +kernel
theorem d46_36 : decode method_5_code 36 = .ok (.sipush 10000, 3) := by decide +kernel
theorem d46_39 : decode method_5_code 39 = .ok (.ireturn, 1) := by decide +kernel
theorem d46_40 : decode method_5_code 40 = .ok (.iload_n 0, 1) := by decide +kernel
theorem d46_41 : decode method_5_code 41 = .ok (.iconst 5, 1) := by decide +kernel
theorem d46_42 : decode method_5_code 42 = .ok (.if_icmp .ne 6, 3) := by decide +kernel
theorem d46_45 : decode method_5_code 45 = .ok (.ldc 48, 2) := by decide +kernel
theorem d46_47 : decode method_5_code 47 = .ok (.ireturn, 1) := by decide +kernel
theorem d46_48 : decode method_5_code 48 = .ok (.iload_n 0, 1) := by decide +kernel
theorem d46_49 : decode method_5_code 49 = .ok (.bipush 6, 2) := by decide +kernel
theorem d46_51 : decode method_5_code 51 = .ok (.if_icmp .ne 6, 3) := by decide +kernel
theorem d46_54 : decode method_5_code 54 = .ok (.ldc 49, 2) := by decide +kernel
theorem d46_56 : decode method_5_code 56 = .ok (.ireturn, 1) := by decide +kernel
theorem d46_57 : decode method_5_code 57 = .ok (.iload_n 0, 1) := by decide +kernel
theorem d46_58 : decode method_5_code 58 = .ok (.bipush 7, 2) := by decide +kernel
theorem d46_60 : decode method_5_code 60 = .ok (.if_icmp .ne 6, 3) := by decide +kernel
theorem d46_63 : decode method_5_code 63 = .ok (.ldc 50, 2) := by decide +kernel
theorem d46_65 : decode method_5_code 65 = .ok (.ireturn, 1) := by decide +kernel
theorem d46_66 : decode method_5_code 66 = .ok (.iload_n 0, 1) := by decide +kernel
theorem d46_67 : decode method_5_code 67 = .ok (.bipush 8, 2) := by decide +kernel
theorem d46_69 : decode method_5_code 69 = .ok (.if_icmp .ne 6, 3) := by decide +kernel
theorem d46_72 : decode method_5_code 72 = .ok (.ldc 51, 2) := by decide +kernel
theorem d46_74 : decode method_5_code 74 = .ok (.ireturn, 1) := by decide +kernel
theorem d46_75 : decode method_5_code 75 = .ok (.iload_n 0, 1) := by decide +kernel
theorem d46_76 : decode method_5_code 76 = .ok (.bipush 9, 2) := by decide +kernel
theorem d46_78 : decode method_5_code 78 = .ok (.if_icmp .ne 6, 3) := by decide +kernel
theorem d46_81 : decode method_5_code 81 = .ok (.ldc 52, 2) := by decide +kernel
theorem d46_83 : decode method_5_code 83 = .ok (.ireturn, 1) := by decide +kernel
theorem d46_84 : decode method_5_code 84 = .ok (.iconst 1, 1) := by decide +kernel
theorem d46_85 : decode method_5_code 85 = .ok (.ireturn, 1) := by decide +kernel
abbrev R_pw : Room := { frames := 0, cells := 0, slots := 0, locals := 0 }
def Q_pw (Z : State) (G1 : Int32) (G3 : Value) (g1 : Addr) (kg1 : ClassId) (g2 : Addr) (kg2 : ClassId) (uS : Value) (sS : Value) (ee : Int32) (h0 : Heap) (n0 : Nat) (v : Option Value) (h : Heap) (L : List Loc) : Prop := (v = some (.int (own_pw ee)) ∧ Fr n0 L ∧ h = h0)
theorem rm_pw (l : Launch) (Z : State) (a0 : Array Value) (hw : HW Z a0) (ws : List Jvm.Cond) (G1 : Int32) (G3 : Value) (g1 : Addr) (kg1 : ClassId) (g2 : Addr) (kg2 : ClassId) (uS : Value) (sS : Value) (HG : own_G l Z a0 G1 G3 g1 kg1 g2 kg2 uS sS) (h0 : Heap) (n0 : Nat) (X00 : Old Z n0 h0) (ee : Int32)  :
  own_CP l Z M987 method_5_code 1 (some .int) ws R_pw #[(.int ee)] h0 (Q_pw Z G1 G3 g1 kg1 g2 kg2 uS sS ee h0 n0) := by
 refine own_P (plainFor_of_name pn_932) ?_
 intro p e s m below meth c s₁ S0 Bd hZ hh hx hby hml hown hnm X0 e0 hS0d
 obtain ⟨O1, P1, O3f, rG3, Sg1, Dg1, Sg2, Dg2, hLT, OU, rU, OS, rS⟩ := id HG
 have N0 := Fr.nil n0
 have C0 : Steps p.tables e below S0 (s₁.setTop (mkF m 0 #[VI ee] [])) := by rw [hS0d]; exact castTop (ef_988 m ee) (Steps.refl _)
 have C_1 : Steps p.tables e below S0 (s₁.setTop (mkF m 1 #[VI ee] [(.int ee)])) := by
  refine C0.trans ?_
  refine XS.iloadN X0.here hx rfl (hb hby d46_0) rfl ?_
  exact Steps.refl _
 by_cases hc_2 : ee = (0 : Int32)
 ·skip
  have C_3 : Steps p.tables e below S0 (s₁.setTop (mkF m 5 #[VI ee] [(.int 1)])) := by
   refine C_1.trans ?_
   refine XS.ifNo X0.here hx rfl (hb hby d46_1) rfl (i0_ne_f hc_2) ?_
   refine XS.iconst X0.here hx rfl (hb hby d46_4) ?_
   exact Steps.refl _
  obtain ⟨fs, hr, hrun, hended, hW, hsame⟩ := X0.leave (v := some (.int 1)) (fun h => by rw [Bd.returns] at h; cases h)
  refine ⟨_, _, C_3.trans (retOut X0 hx Bd.returns rfl (Or.inl ⟨rfl, Or.inl rfl, _, rfl⟩) (hb hby d46_5) hr), hrun, hended, _, _, rfl, ?_, ⟨_, rfl⟩, hW, hsame.mono (by decide) (by decide)⟩
  show Q_pw Z G1 G3 g1 kg1 g2 kg2 uS sS ee h0 n0 (some (.int 1)) s₁.heap _
  rw [e0]
  exact ⟨(congrArg (fun q => some (Value.int q)) (by unfold own_pw; rw [if_pos hc_2])), N0, rfl⟩
 ·skip
  have C_4 : Steps p.tables e below S0 (s₁.setTop (mkF m 8 #[VI ee] [(.int 1), (.int ee)])) := by
   refine C_1.trans ?_
   refine XS.ifYes X0.here hx rfl (pc0 := 1) (pc' := 6) rfl (hb hby d46_1) rfl (i0_ne_t hc_2) (by decide) (by decide) ?_
   refine XS.iloadN X0.here hx rfl (hb hby d46_6) rfl ?_
   refine XS.iconst X0.here hx rfl (hb hby d46_7) ?_
   exact Steps.refl _
  by_cases hc_5 : ee = (1 : Int32)
  ·skip
   have C_6 : Steps p.tables e below S0 (s₁.setTop (mkF m 13 #[VI ee] [(.int 10)])) := by
    refine C_4.trans ?_
    refine XS.icmpNo X0.here hx rfl (hb hby d46_8) rfl (ii_ne_f hc_5) ?_
    refine XS.bipush X0.here hx rfl (hb hby d46_11) ?_
    exact Steps.refl _
   obtain ⟨fs, hr, hrun, hended, hW, hsame⟩ := X0.leave (v := some (.int 10)) (fun h => by rw [Bd.returns] at h; cases h)
   refine ⟨_, _, C_6.trans (retOut X0 hx Bd.returns rfl (Or.inl ⟨rfl, Or.inl rfl, _, rfl⟩) (hb hby d46_13) hr), hrun, hended, _, _, rfl, ?_, ⟨_, rfl⟩, hW, hsame.mono (by decide) (by decide)⟩
   show Q_pw Z G1 G3 g1 kg1 g2 kg2 uS sS ee h0 n0 (some (.int 10)) s₁.heap _
   rw [e0]
   exact ⟨(congrArg (fun q => some (Value.int q)) (by unfold own_pw; rw [if_neg hc_2, if_pos hc_5])), N0, rfl⟩
  ·skip
   have C_7 : Steps p.tables e below S0 (s₁.setTop (mkF m 16 #[VI ee] [(.int 2), (.int ee)])) := by
    refine C_4.trans ?_
    refine XS.icmpYes X0.here hx rfl (pc0 := 8) (pc' := 14) rfl (hb hby d46_8) rfl (ii_ne_t hc_5) (by decide) (by decide) ?_
    refine XS.iloadN X0.here hx rfl (hb hby d46_14) rfl ?_
    refine XS.iconst X0.here hx rfl (hb hby d46_15) ?_
    exact Steps.refl _
   by_cases hc_8 : ee = (2 : Int32)
   ·skip
    have C_9 : Steps p.tables e below S0 (s₁.setTop (mkF m 21 #[VI ee] [(.int 100)])) := by
     refine C_7.trans ?_
     refine XS.icmpNo X0.here hx rfl (hb hby d46_16) rfl (ii_ne_f hc_8) ?_
     refine XS.bipush X0.here hx rfl (hb hby d46_19) ?_
     exact Steps.refl _
    obtain ⟨fs, hr, hrun, hended, hW, hsame⟩ := X0.leave (v := some (.int 100)) (fun h => by rw [Bd.returns] at h; cases h)
    refine ⟨_, _, C_9.trans (retOut X0 hx Bd.returns rfl (Or.inl ⟨rfl, Or.inl rfl, _, rfl⟩) (hb hby d46_21) hr), hrun, hended, _, _, rfl, ?_, ⟨_, rfl⟩, hW, hsame.mono (by decide) (by decide)⟩
    show Q_pw Z G1 G3 g1 kg1 g2 kg2 uS sS ee h0 n0 (some (.int 100)) s₁.heap _
    rw [e0]
    exact ⟨(congrArg (fun q => some (Value.int q)) (by unfold own_pw; rw [if_neg hc_2, if_neg hc_5, if_pos hc_8])), N0, rfl⟩
   ·skip
    have C_10 : Steps p.tables e below S0 (s₁.setTop (mkF m 24 #[VI ee] [(.int 3), (.int ee)])) := by
     refine C_7.trans ?_
     refine XS.icmpYes X0.here hx rfl (pc0 := 16) (pc' := 22) rfl (hb hby d46_16) rfl (ii_ne_t hc_8) (by decide) (by decide) ?_
     refine XS.iloadN X0.here hx rfl (hb hby d46_22) rfl ?_
     refine XS.iconst X0.here hx rfl (hb hby d46_23) ?_
     exact Steps.refl _
    by_cases hc_11 : ee = (3 : Int32)
    ·skip
     have C_12 : Steps p.tables e below S0 (s₁.setTop (mkF m 30 #[VI ee] [(.int 1000)])) := by
      refine C_10.trans ?_
      refine XS.icmpNo X0.here hx rfl (hb hby d46_24) rfl (ii_ne_f hc_11) ?_
      refine XS.sipush X0.here hx rfl (hb hby d46_27) ?_
      exact Steps.refl _
     obtain ⟨fs, hr, hrun, hended, hW, hsame⟩ := X0.leave (v := some (.int 1000)) (fun h => by rw [Bd.returns] at h; cases h)
     refine ⟨_, _, C_12.trans (retOut X0 hx Bd.returns rfl (Or.inl ⟨rfl, Or.inl rfl, _, rfl⟩) (hb hby d46_30) hr), hrun, hended, _, _, rfl, ?_, ⟨_, rfl⟩, hW, hsame.mono (by decide) (by decide)⟩
     show Q_pw Z G1 G3 g1 kg1 g2 kg2 uS sS ee h0 n0 (some (.int 1000)) s₁.heap _
     rw [e0]
     exact ⟨(congrArg (fun q => some (Value.int q)) (by unfold own_pw; rw [if_neg hc_2, if_neg hc_5, if_neg hc_8, if_pos hc_11])), N0, rfl⟩
    ·skip
     have C_13 : Steps p.tables e below S0 (s₁.setTop (mkF m 33 #[VI ee] [(.int 4), (.int ee)])) := by
      refine C_10.trans ?_
      refine XS.icmpYes X0.here hx rfl (pc0 := 24) (pc' := 31) rfl (hb hby d46_24) rfl (ii_ne_t hc_11) (by decide) (by decide) ?_
      refine XS.iloadN X0.here hx rfl (hb hby d46_31) rfl ?_
      refine XS.iconst X0.here hx rfl (hb hby d46_32) ?_
      exact Steps.refl _
     by_cases hc_14 : ee = (4 : Int32)
     ·skip
      have C_15 : Steps p.tables e below S0 (s₁.setTop (mkF m 39 #[VI ee] [(.int 10000)])) := by
       refine C_13.trans ?_
       refine XS.icmpNo X0.here hx rfl (hb hby d46_33) rfl (ii_ne_f hc_14) ?_
       refine XS.sipush X0.here hx rfl (hb hby d46_36) ?_
       exact Steps.refl _
      obtain ⟨fs, hr, hrun, hended, hW, hsame⟩ := X0.leave (v := some (.int 10000)) (fun h => by rw [Bd.returns] at h; cases h)
      refine ⟨_, _, C_15.trans (retOut X0 hx Bd.returns rfl (Or.inl ⟨rfl, Or.inl rfl, _, rfl⟩) (hb hby d46_39) hr), hrun, hended, _, _, rfl, ?_, ⟨_, rfl⟩, hW, hsame.mono (by decide) (by decide)⟩
      show Q_pw Z G1 G3 g1 kg1 g2 kg2 uS sS ee h0 n0 (some (.int 10000)) s₁.heap _
      rw [e0]
      exact ⟨(congrArg (fun q => some (Value.int q)) (by unfold own_pw; rw [if_neg hc_2, if_neg hc_5, if_neg hc_8, if_neg hc_11, if_pos hc_14])), N0, rfl⟩
     ·skip
      have C_16 : Steps p.tables e below S0 (s₁.setTop (mkF m 42 #[VI ee] [(.int 5), (.int ee)])) := by
       refine C_13.trans ?_
       refine XS.icmpYes X0.here hx rfl (pc0 := 33) (pc' := 40) rfl (hb hby d46_33) rfl (ii_ne_t hc_14) (by decide) (by decide) ?_
       refine XS.iloadN X0.here hx rfl (hb hby d46_40) rfl ?_
       refine XS.iconst X0.here hx rfl (hb hby d46_41) ?_
       exact Steps.refl _
      by_cases hc_17 : ee = (5 : Int32)
      ·skip
       have C_18 : Steps p.tables e below S0 (s₁.setTop (mkF m 47 #[VI ee] [(.int 100000)])) := by
        refine C_16.trans ?_
        refine XS.icmpNo X0.here hx rfl (hb hby d46_42) rfl (ii_ne_f hc_17) ?_
        refine X0.ldcI hx hown (mvT hZ (w240 hw)) rfl (hb hby d46_45) ?_
        exact Steps.refl _
       obtain ⟨fs, hr, hrun, hended, hW, hsame⟩ := X0.leave (v := some (.int 100000)) (fun h => by rw [Bd.returns] at h; cases h)
       refine ⟨_, _, C_18.trans (retOut X0 hx Bd.returns rfl (Or.inl ⟨rfl, Or.inl rfl, _, rfl⟩) (hb hby d46_47) hr), hrun, hended, _, _, rfl, ?_, ⟨_, rfl⟩, hW, hsame.mono (by decide) (by decide)⟩
       show Q_pw Z G1 G3 g1 kg1 g2 kg2 uS sS ee h0 n0 (some (.int 100000)) s₁.heap _
       rw [e0]
       exact ⟨(congrArg (fun q => some (Value.int q)) (by unfold own_pw; rw [if_neg hc_2, if_neg hc_5, if_neg hc_8, if_neg hc_11, if_neg hc_14, if_pos hc_17])), N0, rfl⟩
      ·skip
       have C_19 : Steps p.tables e below S0 (s₁.setTop (mkF m 51 #[VI ee] [(.int 6), (.int ee)])) := by
        refine C_16.trans ?_
        refine XS.icmpYes X0.here hx rfl (pc0 := 42) (pc' := 48) rfl (hb hby d46_42) rfl (ii_ne_t hc_17) (by decide) (by decide) ?_
        refine XS.iloadN X0.here hx rfl (hb hby d46_48) rfl ?_
        refine XS.bipush X0.here hx rfl (hb hby d46_49) ?_
        exact Steps.refl _
       by_cases hc_20 : ee = (6 : Int32)
       ·skip
        have C_21 : Steps p.tables e below S0 (s₁.setTop (mkF m 56 #[VI ee] [(.int 1000000)])) := by
         refine C_19.trans ?_
         refine XS.icmpNo X0.here hx rfl (hb hby d46_51) rfl (ii_ne_f hc_20) ?_
         refine X0.ldcI hx hown (mvT hZ (w241 hw)) rfl (hb hby d46_54) ?_
         exact Steps.refl _
        obtain ⟨fs, hr, hrun, hended, hW, hsame⟩ := X0.leave (v := some (.int 1000000)) (fun h => by rw [Bd.returns] at h; cases h)
        refine ⟨_, _, C_21.trans (retOut X0 hx Bd.returns rfl (Or.inl ⟨rfl, Or.inl rfl, _, rfl⟩) (hb hby d46_56) hr), hrun, hended, _, _, rfl, ?_, ⟨_, rfl⟩, hW, hsame.mono (by decide) (by decide)⟩
        show Q_pw Z G1 G3 g1 kg1 g2 kg2 uS sS ee h0 n0 (some (.int 1000000)) s₁.heap _
        rw [e0]
        exact ⟨(congrArg (fun q => some (Value.int q)) (by unfold own_pw; rw [if_neg hc_2, if_neg hc_5, if_neg hc_8, if_neg hc_11, if_neg hc_14, if_neg hc_17, if_pos hc_20])), N0, rfl⟩
       ·skip
        have C_22 : Steps p.tables e below S0 (s₁.setTop (mkF m 60 #[VI ee] [(.int 7), (.int ee)])) := by
         refine C_19.trans ?_
         refine XS.icmpYes X0.here hx rfl (pc0 := 51) (pc' := 57) rfl (hb hby d46_51) rfl (ii_ne_t hc_20) (by decide) (by decide) ?_
         refine XS.iloadN X0.here hx rfl (hb hby d46_57) rfl ?_
         refine XS.bipush X0.here hx rfl (hb hby d46_58) ?_
         exact Steps.refl _
        by_cases hc_23 : ee = (7 : Int32)
        ·skip
         have C_24 : Steps p.tables e below S0 (s₁.setTop (mkF m 65 #[VI ee] [(.int 10000000)])) := by
          refine C_22.trans ?_
          refine XS.icmpNo X0.here hx rfl (hb hby d46_60) rfl (ii_ne_f hc_23) ?_
          refine X0.ldcI hx hown (mvT hZ (w242 hw)) rfl (hb hby d46_63) ?_
          exact Steps.refl _
         obtain ⟨fs, hr, hrun, hended, hW, hsame⟩ := X0.leave (v := some (.int 10000000)) (fun h => by rw [Bd.returns] at h; cases h)
         refine ⟨_, _, C_24.trans (retOut X0 hx Bd.returns rfl (Or.inl ⟨rfl, Or.inl rfl, _, rfl⟩) (hb hby d46_65) hr), hrun, hended, _, _, rfl, ?_, ⟨_, rfl⟩, hW, hsame.mono (by decide) (by decide)⟩
         show Q_pw Z G1 G3 g1 kg1 g2 kg2 uS sS ee h0 n0 (some (.int 10000000)) s₁.heap _
         rw [e0]
         exact ⟨(congrArg (fun q => some (Value.int q)) (by unfold own_pw; rw [if_neg hc_2, if_neg hc_5, if_neg hc_8, if_neg hc_11, if_neg hc_14, if_neg hc_17, if_neg hc_20, if_pos hc_23])), N0, rfl⟩
        ·skip
         have C_25 : Steps p.tables e below S0 (s₁.setTop (mkF m 69 #[VI ee] [(.int 8), (.int ee)])) := by
          refine C_22.trans ?_
          refine XS.icmpYes X0.here hx rfl (pc0 := 60) (pc' := 66) rfl (hb hby d46_60) rfl (ii_ne_t hc_23) (by decide) (by decide) ?_
          refine XS.iloadN X0.here hx rfl (hb hby d46_66) rfl ?_
          refine XS.bipush X0.here hx rfl (hb hby d46_67) ?_
          exact Steps.refl _
         by_cases hc_26 : ee = (8 : Int32)
         ·skip
          have C_27 : Steps p.tables e below S0 (s₁.setTop (mkF m 74 #[VI ee] [(.int 100000000)])) := by
           refine C_25.trans ?_
           refine XS.icmpNo X0.here hx rfl (hb hby d46_69) rfl (ii_ne_f hc_26) ?_
           refine X0.ldcI hx hown (mvT hZ (w243 hw)) rfl (hb hby d46_72) ?_
           exact Steps.refl _
          obtain ⟨fs, hr, hrun, hended, hW, hsame⟩ := X0.leave (v := some (.int 100000000)) (fun h => by rw [Bd.returns] at h; cases h)
          refine ⟨_, _, C_27.trans (retOut X0 hx Bd.returns rfl (Or.inl ⟨rfl, Or.inl rfl, _, rfl⟩) (hb hby d46_74) hr), hrun, hended, _, _, rfl, ?_, ⟨_, rfl⟩, hW, hsame.mono (by decide) (by decide)⟩
          show Q_pw Z G1 G3 g1 kg1 g2 kg2 uS sS ee h0 n0 (some (.int 100000000)) s₁.heap _
          rw [e0]
          exact ⟨(congrArg (fun q => some (Value.int q)) (by unfold own_pw; rw [if_neg hc_2, if_neg hc_5, if_neg hc_8, if_neg hc_11, if_neg hc_14, if_neg hc_17, if_neg hc_20, if_neg hc_23, if_pos hc_26])), N0, rfl⟩
         ·skip
          have C_28 : Steps p.tables e below S0 (s₁.setTop (mkF m 78 #[VI ee] [(.int 9), (.int ee)])) := by
           refine C_25.trans ?_
           refine XS.icmpYes X0.here hx rfl (pc0 := 69) (pc' := 75) rfl (hb hby d46_69) rfl (ii_ne_t hc_26) (by decide) (by decide) ?_
           refine XS.iloadN X0.here hx rfl (hb hby d46_75) rfl ?_
           refine XS.bipush X0.here hx rfl (hb hby d46_76) ?_
           exact Steps.refl _
          by_cases hc_29 : ee = (9 : Int32)
          ·skip
           have C_30 : Steps p.tables e below S0 (s₁.setTop (mkF m 83 #[VI ee] [(.int 1000000000)])) := by
            refine C_28.trans ?_
            refine XS.icmpNo X0.here hx rfl (hb hby d46_78) rfl (ii_ne_f hc_29) ?_
            refine X0.ldcI hx hown (mvT hZ (w244 hw)) rfl (hb hby d46_81) ?_
            exact Steps.refl _
           obtain ⟨fs, hr, hrun, hended, hW, hsame⟩ := X0.leave (v := some (.int 1000000000)) (fun h => by rw [Bd.returns] at h; cases h)
           refine ⟨_, _, C_30.trans (retOut X0 hx Bd.returns rfl (Or.inl ⟨rfl, Or.inl rfl, _, rfl⟩) (hb hby d46_83) hr), hrun, hended, _, _, rfl, ?_, ⟨_, rfl⟩, hW, hsame.mono (by decide) (by decide)⟩
           show Q_pw Z G1 G3 g1 kg1 g2 kg2 uS sS ee h0 n0 (some (.int 1000000000)) s₁.heap _
           rw [e0]
           exact ⟨(congrArg (fun q => some (Value.int q)) (by unfold own_pw; rw [if_neg hc_2, if_neg hc_5, if_neg hc_8, if_neg hc_11, if_neg hc_14, if_neg hc_17, if_neg hc_20, if_neg hc_23, if_neg hc_26, if_pos hc_29])), N0, rfl⟩
          ·skip
           have C_31 : Steps p.tables e below S0 (s₁.setTop (mkF m 85 #[VI ee] [(.int 1)])) := by
            refine C_28.trans ?_
            refine XS.icmpYes X0.here hx rfl (pc0 := 78) (pc' := 84) rfl (hb hby d46_78) rfl (ii_ne_t hc_29) (by decide) (by decide) ?_
            refine XS.iconst X0.here hx rfl (hb hby d46_84) ?_
            exact Steps.refl _
           obtain ⟨fs, hr, hrun, hended, hW, hsame⟩ := X0.leave (v := some (.int 1)) (fun h => by rw [Bd.returns] at h; cases h)
           refine ⟨_, _, C_31.trans (retOut X0 hx Bd.returns rfl (Or.inl ⟨rfl, Or.inl rfl, _, rfl⟩) (hb hby d46_85) hr), hrun, hended, _, _, rfl, ?_, ⟨_, rfl⟩, hW, hsame.mono (by decide) (by decide)⟩
           show Q_pw Z G1 G3 g1 kg1 g2 kg2 uS sS ee h0 n0 (some (.int 1)) s₁.heap _
           rw [e0]
           exact ⟨(congrArg (fun q => some (Value.int q)) (by unfold own_pw; rw [if_neg hc_2, if_neg hc_5, if_neg hc_8, if_neg hc_11, if_neg hc_14, if_neg hc_17, if_neg hc_20, if_neg hc_23, if_neg hc_26, if_neg hc_29])), N0, rfl⟩
abbrev M1040 : MethodName := ⟨"com/example/claimgate/claimgate/config/ConfigSyntaxErrorPinLaw", "digitOk", "(Ljava/lang/String;III)Z"⟩
theorem ef_1041 (m : MethodId) (x0 : Addr) (x1 : Int32) (x2 : Int32) (x3 : Int32) : entryFrame m #[(.ref x0), (.int x1), (.int x2), (.int x3)] 5 = mkF m 0 #[VR x0, VI x1, VI x2, VI x3, .unset] [] := by first | (simp [entryFrame, mkF, argsToLocals, Value.category]; done) | rfl
theorem d47_0 : decode method_3_code 0 = .ok (.iload_n 3, 1) := by decide +kernel
theorem d47_1 : decode method_3_code 1 = .ok (.iload_n 2, 1) := by decide +kernel
theorem d47_2 : decode method_3_code 2 = .ok (.if_icmp .lt 5, 3) := by decide +kernel
theorem d47_7 : decode method_3_code 7 = .ok (.iload_n 1, 1) := by decide +kernel
theorem d47_8 : decode method_3_code 8 = .ok (.iload_n 2, 1) := by decide +kernel
theorem d47_9 : decode method_3_code 9 = .ok (.iconst 1, 1) := by decide +kernel
theorem d47_10 : decode method_3_code 10 = .ok (.isub, 1) := by decide +kernel
theorem d47_11 : decode method_3_code 11 = .ok (.iload_n 3, 1) := by decide +kernel
theorem d47_12 : decode method_3_code 12 = .ok (.isub, 1) := by decide +kernel
theorem w273 {Z a0} (hw : HW Z a0) : Cond.before (Cond.code (⟨"com/example/claimgate/claimgate/config/ConfigSyntaxErrorPinLaw", "pow10", "(I)I"⟩ : MethodName) method_5_code (1 : Nat) (Option.some FieldType.int)) a0 Z = true := hw _ (List.mem_of_getElem? (i := 273) rfl)
theorem w238 {Z a0} (hw : HW Z a0) : Cond.before (Cond.initialized "com/example/claimgate/claimgate/config/ConfigSyntaxErrorPinLaw") a0 Z = true := hw _ (List.mem_of_getElem? (i := 238) rfl)
theorem d47_13 : decode method_3_code 13 = .ok (.invokestatic 45, 3) := by decide +kernel
theorem w271 {Z a0} (hw : HW Z a0) : Cond.before (Cond.methodLink "com/example/claimgate/claimgate/config/ConfigSyntaxErrorPinLaw" (45 : Nat) (⟨"com/example/claimgate/claimgate/config/ConfigSyntaxErrorPinLaw", "pow10", "(I)I"⟩ : MethodName)) a0 Z = true := hw _ (List.mem_of_getElem? (i := 271) rfl)
theorem w272 {Z a0} (hw : HW Z a0) : Cond.before (Cond.static (⟨"com/example/claimgate/claimgate/config/ConfigSyntaxErrorPinLaw", "pow10", "(I)I"⟩ : MethodName)) a0 Z = true := hw _ (List.mem_of_getElem? (i := 272) rfl)
theorem d47_16 : decode method_3_code 16 = .ok (.idiv, 1) := by decide +kernel
theorem d47_17 : decode method_3_code 17 = .ok (.bipush 10, 2) := by decide +kernel
theorem d47_19 : decode method_3_code 19 = .ok (.irem, 1) := by decide +kernel
theorem d47_20 : decode method_3_code 20 = .ok (.istore 4, 2) := by decide +kernel
theorem d47_22 : decode method_3_code 22 = .ok (.aload_n 0, 1) := by decide +kernel
theorem d47_23 : decode method_3_code 23 = .ok (.iconst 3, 1) := by decide +kernel
theorem d47_24 : decode method_3_code 24 = .ok (.iload_n 3, 1) := by decide +kernel
theorem d47_25 : decode method_3_code 25 = .ok (.iadd, 1) := by decide +kernel
theorem w250 {Z a0} (hw : HW Z a0) : Cond.before (Cond.code (⟨"java/lang/String", "charAt", "(I)C"⟩ : MethodName) jdk_42_method_56_code (2 : Nat) (Option.some FieldType.char)) a0 Z = true := hw _ (List.mem_of_getElem? (i := 250) rfl)
theorem pd_1065 : parseMethodDescriptor "(I)C" = some ⟨[.int], some .char⟩ := by decide +kernel
theorem d47_26 : decode method_3_code 26 = .ok (.invokevirtual 37, 3) := by decide +kernel
theorem w246 {Z a0} (hw : HW Z a0) : Cond.before (Cond.methodLink "com/example/claimgate/claimgate/config/ConfigSyntaxErrorPinLaw" (37 : Nat) (⟨"java/lang/String", "charAt", "(I)C"⟩ : MethodName)) a0 Z = true := hw _ (List.mem_of_getElem? (i := 246) rfl)
theorem w249 {Z a0} (hw : HW Z a0) : Cond.before (Cond.selects "java/lang/String" (⟨"java/lang/String", "charAt", "(I)C"⟩ : MethodName) (⟨"java/lang/String", "charAt", "(I)C"⟩ : MethodName)) a0 Z = true := hw _ (List.mem_of_getElem? (i := 249) rfl)
theorem w248 {Z a0} (hw : HW Z a0) : Cond.before (Cond.instanceMethod (⟨"java/lang/String", "charAt", "(I)C"⟩ : MethodName)) a0 Z = true := hw _ (List.mem_of_getElem? (i := 248) rfl)
theorem w247 {Z a0} (hw : HW Z a0) : Cond.before (Cond.declares (⟨"java/lang/String", "charAt", "(I)C"⟩ : MethodName)) a0 Z = true := hw _ (List.mem_of_getElem? (i := 247) rfl)
theorem d47_29 : decode method_3_code 29 = .ok (.bipush 48, 2) := by decide +kernel
theorem d47_31 : decode method_3_code 31 = .ok (.iload 4, 2) := by decide +kernel
theorem d47_33 : decode method_3_code 33 = .ok (.iadd, 1) := by decide +kernel
theorem d47_34 : decode method_3_code 34 = .ok (.i2c, 1) := by decide +kernel
theorem d47_35 : decode method_3_code 35 = .ok (.if_icmp .ne 7, 3) := by decide +kernel
theorem d47_38 : decode method_3_code 38 = .ok (.iconst 1, 1) := by decide +kernel
theorem d47_39 : decode method_3_code 39 = .ok (.goto 4, 3) := by decide +kernel
theorem d47_43 : decode method_3_code 43 = .ok (.ireturn, 1) := by decide +kernel
theorem d47_5 : decode method_3_code 5 = .ok (.iconst 1, 1) := by decide +kernel
theorem d47_6 : decode method_3_code 6 = .ok (.ireturn, 1) := by decide +kernel
abbrev R_dok : Room := { frames := 4, cells := 0, slots := 0, locals := 53 }
def Q_dok (Z : State) (G1 : Int32) (G3 : Value) (g1 : Addr) (kg1 : ClassId) (g2 : Addr) (kg2 : ClassId) (uS : Value) (sS : Value) (x : Addr) (t : Addr) (kt : ClassId) (c0 : Int32) (c1 : Int32) (ii : Int32) (d0 : Int32) (d1 : Int32) (kk : Int32) (h0 : Heap) (n0 : Nat) (v : Option Value) (h : Heap) (L : List Loc) : Prop := (v = some (.int 1) ∧ Fr n0 L ∧ h = h0)
theorem rm_dok (l : Launch) (Z : State) (a0 : Array Value) (hw : HW Z a0) (ws : List Jvm.Cond) (G1 : Int32) (G3 : Value) (g1 : Addr) (kg1 : ClassId) (g2 : Addr) (kg2 : ClassId) (uS : Value) (sS : Value) (HG : own_G l Z a0 G1 G3 g1 kg1 g2 kg2 uS sS) (h0 : Heap) (n0 : Nat) (X00 : Old Z n0 h0) (x : Addr) (t : Addr) (kt : ClassId) (c0 : Int32) (c1 : Int32) (ii : Int32) (d0 : Int32) (d1 : Int32) (kk : Int32) (hp0 : Exa Z h0 x "java/lang/String") (hp1 : Fld Z h0 x "java/lang/String" "coder" "B" (.int 0)) (hp2 : Fld Z h0 x "java/lang/String" "value" "[B" (.ref t)) (hp3 : Arv Z h0 t kt .byte (own_tl ii) (own_iv (own_bs (own_tx c0 c1 ii d0 d1))) (.int 0)) (hpos : (0 : Int32) < ii) (hk0 : ¬ (kk < (0 : Int32))) (hla : own_lat (own_tx c0 c1 ii d0 d1)) :
  own_CP l Z M1040 method_3_code 5 (some .boolean) ws R_dok #[(.ref x), (.int ii), (.int (own_ssz ii)), (.int kk)] h0 (Q_dok Z G1 G3 g1 kg1 g2 kg2 uS sS x t kt c0 c1 ii d0 d1 kk h0 n0) := by
 refine own_P (plainFor_of_name pn_932) ?_
 intro p e s m below meth c s₁ S0 Bd hZ hh hx hby hml hown hnm X0 e0 hS0d
 obtain ⟨O1, P1, O3f, rG3, Sg1, Dg1, Sg2, Dg2, hLT, OU, rU, OS, rS⟩ := id HG
 have N0 := Fr.nil n0
 have C0 : Steps p.tables e below S0 (s₁.setTop (mkF m 0 #[VR x, VI ii, .val (.int (own_ssz ii)), VI kk, .unset] [])) := by rw [hS0d]; exact castTop (ef_1041 m x ii (own_ssz ii) kk) (Steps.refl _)
 have C_1 : Steps p.tables e below S0 (s₁.setTop (mkF m 2 #[VR x, VI ii, .val (.int (own_ssz ii)), VI kk, .unset] [(.int (own_ssz ii)), (.int kk)])) := by
  refine C0.trans ?_
  refine XS.iloadN X0.here hx rfl (hb hby d47_0) rfl ?_
  refine XS.iloadN X0.here hx rfl (hb hby d47_1) rfl ?_
  exact Steps.refl _
 by_cases hc_2 : kk < (own_ssz ii)
 ·skip
  have k3_3 := own_k3 hpos hk0 hc_2
  obtain ⟨_, _, ⟨T_4, L_4, k_4, n_4⟩, -, X_4, ⟨Lc_4, hQ_4, l_4, y_4, z_4⟩, st_4⟩ := Jvm.LawKit.callS X0 hx (y := M987) hown (mvT hZ (w271 hw)) (mvT hZ (w272 hw)) (mvT hZ (w238 hw)) (mvT hZ (w273 hw)) (by decide) (backOf (W := 1) (rm_pw l Z a0 hw [] G1 G3 g1 kg1 g2 kg2 uS sS HG h0 n0 X00 (((own_ssz ii) - (1 : Int32)) - kk) ) hZ (w273 hw) (w238 hw) (by decide) (by decide)) (g := (mkF m 13 #[VR x, VI ii, .val (.int (own_ssz ii)), VI kk, .unset] [(.int (((own_ssz ii) - (1 : Int32)) - kk)), (.int ii)])) rfl (by rw [hml]; rfl) (argsL := [(.int (((own_ssz ii) - (1 : Int32)) - kk))]) (rest := [(.int ii)]) (lenOf pd_420 rfl) rfl (by show 2 * 0 + _ ≤ _; exact Nat.le_of_eq rfl) (hb hby d47_13) (fun _ _ => ⟨rfl, e0, (by decide : 0 + 0 ≤ _), (by decide : 0 + 0 ≤ _)⟩)
  dsimp only [Pt.U, Pt.locs, Pt.cells, Pt.slots] at X_4 l_4 y_4 z_4 st_4 hQ_4
  have X_4 := own_cast X_4 l_4 y_4 z_4
  obtain ⟨rfl, N_5, e_6⟩ := hQ_4
  have N_7 := Fr.app N0 N_5
  have e_8 : T_4.heap = h0 := e_6
  obtain ⟨q_10, q_11, q_12, q_13, q_14⟩ := isOf (T := T_4) hZ e_8 hp0
  obtain ⟨_, _, ⟨T_9, L_9, k_9, n_9⟩, -, X_9, ⟨Lc_9, hQ_9, l_9, y_9, z_9⟩, st_9⟩ := X_4.virtualBack hx (y := M186) (z := M186) hown (mvT hZ (w246 hw)) (mvT hZ (w247 hw)) (notFace_of_selects (args := #[]) (mvT hZ (w249 hw))) (mvT hZ (w249 hw)) (mvT hZ (w248 hw)) (by decide) (backOf (W := 0) (rm_chs l Z a0 hw [] G1 G3 g1 kg1 g2 kg2 uS sS HG h0 n0 X00 x t kt (own_tl ii) (own_tx c0 c1 ii d0 d1) ((3 : Int32) + kk) hp0 hp1 hp2 hp3 k3_3.2.2.1 k3_3.2.2.2 (own_txlen _ _ _ _ _) hla) hZ (w250 hw) (w3 hw) (by decide) (by decide)) q_12 q_14 (g := (mkF m 26 #[VR x, VI ii, .val (.int (own_ssz ii)), VI kk, .val (.int ((ii / (own_pw (((own_ssz ii) - (1 : Int32)) - kk))) % (10 : Int32)))] [(.int ((3 : Int32) + kk)), (.ref x)])) rfl (by rw [hml]; rfl) (Steps.refl _) (argsL := [(.int ((3 : Int32) + kk))]) (rest := []) (lenOf pd_1065 rfl) rfl (by show 2 * 0 + _ ≤ _; exact Nat.le_of_eq rfl) (hb hby d47_26) (fun _ _ => ⟨rfl, e_8, (by decide : 0 + 0 ≤ _), (by decide : 0 + 0 ≤ _)⟩)
  dsimp only [Pt.U, Pt.locs, Pt.cells, Pt.slots] at X_9 l_9 y_9 z_9 st_9 hQ_9
  have X_9 := own_cast X_9 l_9 y_9 z_9
  obtain ⟨rfl, N_15, e_16⟩ := hQ_9
  have N_17 := Fr.app N_7 N_15
  have e_18 : T_9.heap = h0 := e_16
  have C_19 : Steps p.tables e below S0 (T_9.setTop (mkF m 43 #[VR x, VI ii, .val (.int (own_ssz ii)), VI kk, .val (.int ((ii / (own_pw (((own_ssz ii) - (1 : Int32)) - kk))) % (10 : Int32)))] [(.int 1)])) := by
   refine C_1.trans ?_
   refine XS.icmpYes X0.here hx rfl (pc0 := 2) (pc' := 7) rfl (hb hby d47_2) rfl (ii_lt_t hc_2) (by decide) (by decide) ?_
   refine XS.iloadN X0.here hx rfl (hb hby d47_7) rfl ?_
   refine XS.iloadN X0.here hx rfl (hb hby d47_8) rfl ?_
   refine XS.iconst X0.here hx rfl (hb hby d47_9) ?_
   refine XS.isub X0.here hx rfl (hb hby d47_10) rfl ?_
   refine XS.iloadN X0.here hx rfl (hb hby d47_11) rfl ?_
   refine XS.isub X0.here hx rfl (hb hby d47_12) rfl ?_
   refine st_4 _ ?_
   show Steps p.tables e below (T_4.setTop (mkF m 16 #[VR x, VI ii, .val (.int (own_ssz ii)), VI kk, .unset] [(.int (own_pw (((own_ssz ii) - (1 : Int32)) - kk))), (.int ii)])) _
   refine XS.idiv X_4.here hx rfl (hb hby d47_16) rfl (own_pwn _) ?_
   refine XS.bipush X_4.here hx rfl (hb hby d47_17) ?_
   refine iremM X_4 hx rfl (hb hby d47_19) rfl (by decide) ?_
   refine XS.istore X_4.here hx rfl (hb hby d47_20) rfl (l' := #[VR x, VI ii, .val (.int (own_ssz ii)), VI kk, .val (.int ((ii / (own_pw (((own_ssz ii) - (1 : Int32)) - kk))) % (10 : Int32)))]) rfl ?_
   refine XS.aloadN X_4.here hx rfl (hb hby d47_22) rfl rfl ?_
   refine XS.iconst X_4.here hx rfl (hb hby d47_23) ?_
   refine XS.iloadN X_4.here hx rfl (hb hby d47_24) rfl ?_
   refine XS.iadd X_4.here hx rfl (hb hby d47_25) rfl ?_
   show Steps p.tables e below (T_4.setTop (mkF m 26 #[VR x, VI ii, .val (.int (own_ssz ii)), VI kk, .val (.int ((ii / (own_pw (((own_ssz ii) - (1 : Int32)) - kk))) % (10 : Int32)))] [(.int ((3 : Int32) + kk)), (.ref x)])) _
   refine st_9.trans ?_
   refine XS.bipush X_9.here hx rfl (hb hby d47_29) ?_
   refine XS.iload X_9.here hx rfl (hb hby d47_31) rfl ?_
   refine XS.iadd X_9.here hx rfl (hb hby d47_33) rfl ?_
   refine XS.i2c X_9.here hx rfl (hb hby d47_34) rfl ?_
   refine XS.icmpNo X_9.here hx rfl (hb hby d47_35) rfl (ii_ne_f (own_dok hpos hk0 hc_2)) ?_
   refine XS.iconst X_9.here hx rfl (hb hby d47_38) ?_
   refine XS.goto X_9.here hx rfl (pc0 := 39) (pc' := 43) rfl (hb hby d47_39) (by decide) (by decide) ?_
   show Steps p.tables e below (T_9.setTop (mkF m 43 #[VR x, VI ii, .val (.int (own_ssz ii)), VI kk, .val (.int ((ii / (own_pw (((own_ssz ii) - (1 : Int32)) - kk))) % (10 : Int32)))] [(.int 1)])) _
   exact Steps.refl _
  obtain ⟨fs, hr, hrun, hended, hW, hsame⟩ := X_9.leave (v := some (.int 1)) (fun h => by rw [Bd.returns] at h; cases h)
  refine ⟨_, _, C_19.trans (retN X_9 hx (t := .boolean) Bd.returns (by simp) (hb hby d47_43) hr), hrun, hended, _, _, rfl, ?_, ⟨_, rfl⟩, hW, hsame.mono (by decide) (by decide)⟩
  show Q_dok Z G1 G3 g1 kg1 g2 kg2 uS sS x t kt c0 c1 ii d0 d1 kk h0 n0 (some (.int 1)) T_9.heap _
  rw [e_18]
  exact ⟨rfl, N_17, rfl⟩
 ·skip
  have C_20 : Steps p.tables e below S0 (s₁.setTop (mkF m 6 #[VR x, VI ii, .val (.int (own_ssz ii)), VI kk, .unset] [(.int 1)])) := by
   refine C_1.trans ?_
   refine XS.icmpNo X0.here hx rfl (hb hby d47_2) rfl (ii_lt_f hc_2) ?_
   refine XS.iconst X0.here hx rfl (hb hby d47_5) ?_
   exact Steps.refl _
  obtain ⟨fs, hr, hrun, hended, hW, hsame⟩ := X0.leave (v := some (.int 1)) (fun h => by rw [Bd.returns] at h; cases h)
  refine ⟨_, _, C_20.trans (retN X0 hx (t := .boolean) Bd.returns (by simp) (hb hby d47_6) hr), hrun, hended, _, _, rfl, ?_, ⟨_, rfl⟩, hW, hsame.mono (by decide) (by decide)⟩
  show Q_dok Z G1 G3 g1 kg1 g2 kg2 uS sS x t kt c0 c1 ii d0 d1 kk h0 n0 (some (.int 1)) s₁.heap _
  rw [e0]
  exact ⟨rfl, N0, rfl⟩
theorem ef_1081 (m : MethodId) (x0 : Int32) (x1 : Int32) (x2 : Int32) : entryFrame m #[(.int x0), (.int x1), (.int x2)] maxLocals = mkF m 0 #[VI x0, VI x1, VI x2, .unset, .unset, .unset, .unset, .unset, .unset, .unset, .unset, .unset, .unset] [] := by first | (simp [entryFrame, mkF, argsToLocals, Value.category, maxLocals]; done) | rfl
theorem w0 {Z a0} (hw : HW Z a0) : Cond.before (Cond.arrayClass FieldType.char) a0 Z = true := hw _ (List.mem_of_getElem? (i := 0) rfl)
theorem w1 {Z a0} (hw : HW Z a0) : Cond.before (Cond.classLink "com/example/claimgate/claimgate/config/ConfigSyntaxErrorPinLaw" (7 : Nat) "java/lang/String") a0 Z = true := hw _ (List.mem_of_getElem? (i := 1) rfl)
theorem w6 {Z a0} (hw : HW Z a0) : Cond.before (Cond.code (⟨"java/lang/String", "<init>", "([C)V"⟩ : MethodName) jdk_42_method_3_code (2 : Nat) (Option.none : Option FieldType)) a0 Z = true := hw _ (List.mem_of_getElem? (i := 6) rfl)
theorem pd_1085 : parseMethodDescriptor "([C)V" = some ⟨[(.array .char)], none⟩ := by decide +kernel
theorem w4 {Z a0} (hw : HW Z a0) : Cond.before (Cond.methodLink "com/example/claimgate/claimgate/config/ConfigSyntaxErrorPinLaw" (9 : Nat) (⟨"java/lang/String", "<init>", "([C)V"⟩ : MethodName)) a0 Z = true := hw _ (List.mem_of_getElem? (i := 4) rfl)
theorem w5 {Z a0} (hw : HW Z a0) : Cond.before (Cond.instanceMethod (⟨"java/lang/String", "<init>", "([C)V"⟩ : MethodName)) a0 Z = true := hw _ (List.mem_of_getElem? (i := 5) rfl)
theorem w30 {Z a0} (hw : HW Z a0) : Cond.before (Cond.classLink "com/example/claimgate/claimgate/config/ConfigSyntaxErrorPinLaw" (12 : Nat) "com/example/claimgate/claimgate/config/ConfigSyntax") a0 Z = true := hw _ (List.mem_of_getElem? (i := 30) rfl)
theorem w32 {Z a0} (hw : HW Z a0) : Cond.before (Cond.initialized "com/example/claimgate/claimgate/config/ConfigSyntax") a0 Z = true := hw _ (List.mem_of_getElem? (i := 32) rfl)
theorem w35 {Z a0} (hw : HW Z a0) : Cond.before (Cond.code (⟨"com/example/claimgate/claimgate/config/ConfigSyntax", "<init>", "(Ljava/lang/String;)V"⟩ : MethodName) prog_19_method_1_code (2 : Nat) (Option.none : Option FieldType)) a0 Z = true := hw _ (List.mem_of_getElem? (i := 35) rfl)
theorem w33 {Z a0} (hw : HW Z a0) : Cond.before (Cond.methodLink "com/example/claimgate/claimgate/config/ConfigSyntaxErrorPinLaw" (14 : Nat) (⟨"com/example/claimgate/claimgate/config/ConfigSyntax", "<init>", "(Ljava/lang/String;)V"⟩ : MethodName)) a0 Z = true := hw _ (List.mem_of_getElem? (i := 33) rfl)
theorem w34 {Z a0} (hw : HW Z a0) : Cond.before (Cond.instanceMethod (⟨"com/example/claimgate/claimgate/config/ConfigSyntax", "<init>", "(Ljava/lang/String;)V"⟩ : MethodName)) a0 Z = true := hw _ (List.mem_of_getElem? (i := 34) rfl)
theorem w43 {Z a0} (hw : HW Z a0) : Cond.before (Cond.code (⟨"com/example/claimgate/claimgate/config/ConfigSyntax", "error", "(ILjava/lang/String;)Lcom/example/claimgate/claimgate/config/ConfigException;"⟩ : MethodName) prog_19_method_2_code (3 : Nat) (Option.some (FieldType.object "com/example/claimgate/claimgate/config/ConfigException"))) a0 Z = true := hw _ (List.mem_of_getElem? (i := 43) rfl)
theorem pd_1094 : parseMethodDescriptor "(ILjava/lang/String;)Lcom/example/claimgate/claimgate/config/ConfigException;" = some ⟨[.int, (.object "java/lang/String")], some (.object "com/example/claimgate/claimgate/config/ConfigException")⟩ := by decide +kernel
theorem w39 {Z a0} (hw : HW Z a0) : Cond.before (Cond.methodLink "com/example/claimgate/claimgate/config/ConfigSyntaxErrorPinLaw" (17 : Nat) (⟨"com/example/claimgate/claimgate/config/ConfigSyntax", "error", "(ILjava/lang/String;)Lcom/example/claimgate/claimgate/config/ConfigException;"⟩ : MethodName)) a0 Z = true := hw _ (List.mem_of_getElem? (i := 39) rfl)
theorem w42 {Z a0} (hw : HW Z a0) : Cond.before (Cond.selects "com/example/claimgate/claimgate/config/ConfigSyntax" (⟨"com/example/claimgate/claimgate/config/ConfigSyntax", "error", "(ILjava/lang/String;)Lcom/example/claimgate/claimgate/config/ConfigException;"⟩ : MethodName) (⟨"com/example/claimgate/claimgate/config/ConfigSyntax", "error", "(ILjava/lang/String;)Lcom/example/claimgate/claimgate/config/ConfigException;"⟩ : MethodName)) a0 Z = true := hw _ (List.mem_of_getElem? (i := 42) rfl)
theorem w41 {Z a0} (hw : HW Z a0) : Cond.before (Cond.instanceMethod (⟨"com/example/claimgate/claimgate/config/ConfigSyntax", "error", "(ILjava/lang/String;)Lcom/example/claimgate/claimgate/config/ConfigException;"⟩ : MethodName)) a0 Z = true := hw _ (List.mem_of_getElem? (i := 41) rfl)
theorem w40 {Z a0} (hw : HW Z a0) : Cond.before (Cond.declares (⟨"com/example/claimgate/claimgate/config/ConfigSyntax", "error", "(ILjava/lang/String;)Lcom/example/claimgate/claimgate/config/ConfigException;"⟩ : MethodName)) a0 Z = true := hw _ (List.mem_of_getElem? (i := 40) rfl)
theorem w235 {Z a0} (hw : HW Z a0) : Cond.before (Cond.code (⟨"java/lang/Throwable", "getMessage", "()Ljava/lang/String;"⟩ : MethodName) jdk_78_method_6_code (1 : Nat) (Option.some (FieldType.object "java/lang/String"))) a0 Z = true := hw _ (List.mem_of_getElem? (i := 235) rfl)
theorem w230 {Z a0} (hw : HW Z a0) : Cond.before (Cond.methodLink "com/example/claimgate/claimgate/config/ConfigSyntaxErrorPinLaw" (21 : Nat) (⟨"com/example/claimgate/claimgate/config/ConfigException", "getMessage", "()Ljava/lang/String;"⟩ : MethodName)) a0 Z = true := hw _ (List.mem_of_getElem? (i := 230) rfl)
theorem w234 {Z a0} (hw : HW Z a0) : Cond.before (Cond.selects "com/example/claimgate/claimgate/config/ConfigException" (⟨"com/example/claimgate/claimgate/config/ConfigException", "getMessage", "()Ljava/lang/String;"⟩ : MethodName) (⟨"java/lang/Throwable", "getMessage", "()Ljava/lang/String;"⟩ : MethodName)) a0 Z = true := hw _ (List.mem_of_getElem? (i := 234) rfl)
theorem w233 {Z a0} (hw : HW Z a0) : Cond.before (Cond.instanceMethod (⟨"java/lang/Throwable", "getMessage", "()Ljava/lang/String;"⟩ : MethodName)) a0 Z = true := hw _ (List.mem_of_getElem? (i := 233) rfl)
abbrev M1103 : MethodName := ⟨"com/example/claimgate/claimgate/config/ConfigException", "getMessage", "()Ljava/lang/String;"⟩
theorem w231 {Z a0} (hw : HW Z a0) : Cond.before (Cond.sameMethod "com/example/claimgate/claimgate/config/ConfigException" "java/lang/Throwable" "getMessage" "()Ljava/lang/String;") a0 Z = true := hw _ (List.mem_of_getElem? (i := 231) rfl)
theorem w232 {Z a0} (hw : HW Z a0) : Cond.before (Cond.declares (⟨"java/lang/Throwable", "getMessage", "()Ljava/lang/String;"⟩ : MethodName)) a0 Z = true := hw _ (List.mem_of_getElem? (i := 232) rfl)
theorem w239 {Z a0} (hw : HW Z a0) : Cond.before (Cond.code (⟨"com/example/claimgate/claimgate/config/ConfigSyntaxErrorPinLaw", "digits", "(I)I"⟩ : MethodName) method_4_code (2 : Nat) (Option.some FieldType.int)) a0 Z = true := hw _ (List.mem_of_getElem? (i := 239) rfl)
theorem w236 {Z a0} (hw : HW Z a0) : Cond.before (Cond.methodLink "com/example/claimgate/claimgate/config/ConfigSyntaxErrorPinLaw" (27 : Nat) (⟨"com/example/claimgate/claimgate/config/ConfigSyntaxErrorPinLaw", "digits", "(I)I"⟩ : MethodName)) a0 Z = true := hw _ (List.mem_of_getElem? (i := 236) rfl)
theorem w237 {Z a0} (hw : HW Z a0) : Cond.before (Cond.static (⟨"com/example/claimgate/claimgate/config/ConfigSyntaxErrorPinLaw", "digits", "(I)I"⟩ : MethodName)) a0 Z = true := hw _ (List.mem_of_getElem? (i := 237) rfl)
theorem w245 {Z a0} (hw : HW Z a0) : Cond.before (Cond.methodLink "com/example/claimgate/claimgate/config/ConfigSyntaxErrorPinLaw" (33 : Nat) (⟨"java/lang/String", "length", "()I"⟩ : MethodName)) a0 Z = true := hw _ (List.mem_of_getElem? (i := 245) rfl)
theorem w270 {Z a0} (hw : HW Z a0) : Cond.before (Cond.code (⟨"com/example/claimgate/claimgate/config/ConfigSyntaxErrorPinLaw", "digitOk", "(Ljava/lang/String;III)Z"⟩ : MethodName) method_3_code (5 : Nat) (Option.some FieldType.boolean)) a0 Z = true := hw _ (List.mem_of_getElem? (i := 270) rfl)
theorem pd_1111 : parseMethodDescriptor "(Ljava/lang/String;III)Z" = some ⟨[(.object "java/lang/String"), .int, .int, .int], some .boolean⟩ := by decide +kernel
theorem w268 {Z a0} (hw : HW Z a0) : Cond.before (Cond.methodLink "com/example/claimgate/claimgate/config/ConfigSyntaxErrorPinLaw" (41 : Nat) (⟨"com/example/claimgate/claimgate/config/ConfigSyntaxErrorPinLaw", "digitOk", "(Ljava/lang/String;III)Z"⟩ : MethodName)) a0 Z = true := hw _ (List.mem_of_getElem? (i := 268) rfl)
theorem w269 {Z a0} (hw : HW Z a0) : Cond.before (Cond.static (⟨"com/example/claimgate/claimgate/config/ConfigSyntaxErrorPinLaw", "digitOk", "(Ljava/lang/String;III)Z"⟩ : MethodName)) a0 Z = true := hw _ (List.mem_of_getElem? (i := 269) rfl)
def Q_law (Z : State) (G1 : Int32) (G3 : Value) (g1 : Addr) (kg1 : ClassId) (g2 : Addr) (kg2 : ClassId) (uS : Value) (sS : Value) (p0 : Int32) (p1 : Int32) (p2 : Int32) (h0 : Heap) (n0 : Nat) (v : Option Value) (h : Heap) (L : List Loc) : Prop := (v = some (.int 1) ∧ Fr n0 L ∧ Keep h0 h [])
theorem rm_law (l : Launch) (Z : State) (a0 : Array Value) (hw : HW Z a0) (ws : List Jvm.Cond) (G1 : Int32) (G3 : Value) (g1 : Addr) (kg1 : ClassId) (g2 : Addr) (kg2 : ClassId) (uS : Value) (sS : Value) (HG : own_G l Z a0 G1 G3 g1 kg1 g2 kg2 uS sS) (h0 : Heap) (n0 : Nat) (X00 : Old Z n0 h0) (p0 : Int32) (p1 : Int32) (p2 : Int32)  :
  own_CK l Z x code maxLocals ret ws room_1 #[(.int p0), (.int p1), (.int p2)] h0 (Q_law Z G1 G3 g1 kg1 g2 kg2 uS sS p0 p1 p2 h0 n0) := by
 refine own_K (plainFor_of_name pn_932) ?_
 intro p e s m below meth c s₁ S0 Bd hZ hh CH0 hS0 CR0 hTK0 hBL0 hx hby hml hown hnm X0 e0 hS0d
 obtain ⟨O1, P1, O3f, rG3, Sg1, Dg1, Sg2, Dg2, hLT, OU, rU, OS, rS⟩ := id HG
 have hEL := own_EL hw
 have hSA := own_SA hw
 have N0 := Fr.nil n0
 have C0 : Steps p.tables e below S0 (s₁.setTop (mkF m 0 #[VI p0, VI p1, VI p2, .unset, .unset, .unset, .unset, .unset, .unset, .unset, .unset, .unset, .unset] [])) := by rw [hS0d]; exact castTop (ef_1081 m p0 p1 p2) (Steps.refl _)
 obtain ⟨T_1, h_2, k_3, X_4, e_5, E_6, A_7, st_8⟩ := newP (aty := .char) X0 hx hZ (w0 hw) e0 (g := (mkF m 1 #[VI p0, VI p1, VI p2, .unset, .unset, .unset, .unset, .unset, .unset, .unset, .unset, .unset, .unset] [(.int 2)])) rfl (hb hby at_1) rfl (by decide : ¬ ((2 : Int32) < (0 : Int32))) (cap := 2) (by decide : (2 : Int32).toNatClampNeg ≤ 2) (by decide) (by decide) (by decide)
 obtain ⟨a_9, g_10⟩ : ∃ z, z = h0.size := ⟨_, rfl⟩
 rw [← g_10] at A_7 st_8
 have CH_12 : CHv Z consts_1 s.vm h_2 := CHv.ext E_6 CH0
 have CR_13 : CHr Z consts_1 s.vm h0 s.vm h_2 := CR0.trans (CHr.ext E_6 CH0)
 have V_14 : Arv Z h_2 a_9 k_3 .char (2 : Int32) [] (.int 0) := Arv.new A_7 (by decide : ¬ ((2 : Int32) < (0 : Int32)))
 have V_11 : Arv Z h_2 a_9 k_3 .char (2 : Int32) [(.int 0), (.int 0)] (.int 0) := (V_14.pad (pad_rep [] (.int 0) 2))
 obtain ⟨c_15, A_16, q_17, S_18, M_19, H_20, U_21⟩ := id V_11
 have hin_28 : ¬ ((0 : Int32) < 0 ∨ c_15.slots.size ≤ (0 : Int32).toNatClampNeg) := inb_of S_18 ⟨(by decide : ¬ ((0 : Int32) < (0 : Int32))), (by decide : (0 : Int32) < (2 : Int32))⟩
 obtain ⟨T_22, h_23, X_24, e_25, W_26, st_27⟩ := stC X_4 hx hZ e_5 A_16 (j := (0 : Int32)) hin_28 (g := (mkF m 11 #[VI p0, VI p1, VI p2, .unset, .unset, .unset, .unset, .unset, .unset, .unset, .unset, .unset, .unset] [(.int (own_cb p0)), (.int 0), (.ref a_9), (.ref a_9)])) rfl rfl (hb hby at_11)
 have N_29 := Fr.snoc X_24 N0 (Nat.le_trans (own_n0 X00) (Nat.le_of_eq g_10.symm))
 have CH_30 : CHv Z consts_1 s.vm h_23 := CHv.wr W_26 (Safe.arv hZ.alike V_11 (by decide)) CH_12
 have CR_31 : CHr Z consts_1 s.vm h0 s.vm h_23 := CR_13.trans (CHr.wr W_26 (Safe.arv hZ.alike V_11 (by decide)) CH_12)
 have V_32 : Arv Z h_23 a_9 k_3 .char (2 : Int32) [(.int (own_cb p0)), (.int 0)] (.int 0) := by have q := Arv.set A_16 q_17 S_18 M_19 H_20 U_21 (fits_nar_char _) W_26 0 rfl (Nat.le_of_ble_eq_true rfl); rw [own_cb_nar] at q; exact q
 obtain ⟨c_33, A_34, q_35, S_36, M_37, H_38, U_39⟩ := id V_32
 have hin_46 : ¬ ((1 : Int32) < 0 ∨ c_33.slots.size ≤ (1 : Int32).toNatClampNeg) := inb_of S_36 ⟨(by decide : ¬ ((1 : Int32) < (0 : Int32))), (by decide : (1 : Int32) < (2 : Int32))⟩
 obtain ⟨T_40, h_41, X_42, e_43, W_44, st_45⟩ := stC X_24 hx hZ e_25 A_34 (j := (1 : Int32)) hin_46 (g := (mkF m 23 #[VI p0, VI p1, VI p2, .unset, .unset, .unset, .unset, .unset, .unset, .unset, .unset, .unset, .unset] [(.int (own_cb (own_u8 p0))), (.int 1), (.ref a_9), (.ref a_9)])) rfl rfl (hb hby at_23)
 have N_47 := Fr.snoc X_42 N_29 (Nat.le_trans (own_n0 X00) (Nat.le_of_eq g_10.symm))
 have CH_48 : CHv Z consts_1 s.vm h_41 := CHv.wr W_44 (Safe.arv hZ.alike V_32 (by decide)) CH_30
 have CR_49 : CHr Z consts_1 s.vm h0 s.vm h_41 := CR_31.trans (CHr.wr W_44 (Safe.arv hZ.alike V_32 (by decide)) CH_30)
 have V_50 : Arv Z h_41 a_9 k_3 .char (2 : Int32) [(.int (own_cb p0)), (.int (own_cb (own_u8 p0)))] (.int 0) := by have q := Arv.set A_34 q_35 S_36 M_37 H_38 U_39 (fits_nar_char _) W_44 1 rfl (Nat.le_of_ble_eq_true rfl); rw [own_cb_nar] at q; exact q
 obtain ⟨T_51, h_52, k_53, X_54, e_55, E_56, A_57, st_58⟩ := newP (aty := .char) X_42 hx hZ (w0 hw) e_43 (g := (mkF m 26 #[VI p0, VI p1, VI p2, VR a_9, .unset, .unset, .unset, .unset, .unset, .unset, .unset, .unset, .unset] [(.int 2)])) rfl (hb hby at_26) rfl (by decide : ¬ ((2 : Int32) < (0 : Int32))) (cap := 2) (by decide : (2 : Int32).toNatClampNeg ≤ 2) (by decide) (by decide) (by decide)
 obtain ⟨a_59, g_60⟩ : ∃ z, z = h_41.size := ⟨_, rfl⟩
 rw [← g_60] at A_57 st_58
 have CH_62 : CHv Z consts_1 s.vm h_52 := CHv.ext E_56 CH_48
 have CR_63 : CHr Z consts_1 s.vm h0 s.vm h_52 := CR_49.trans (CHr.ext E_56 CH_48)
 have V_64 : Arv Z h_52 a_59 k_53 .char (2 : Int32) [] (.int 0) := Arv.new A_57 (by decide : ¬ ((2 : Int32) < (0 : Int32)))
 have V_61 : Arv Z h_52 a_59 k_53 .char (2 : Int32) [(.int 0), (.int 0)] (.int 0) := (V_64.pad (pad_rep [] (.int 0) 2))
 obtain ⟨c_65, A_66, q_67, S_68, M_69, H_70, U_71⟩ := id V_61
 have hin_78 : ¬ ((0 : Int32) < 0 ∨ c_65.slots.size ≤ (0 : Int32).toNatClampNeg) := inb_of S_68 ⟨(by decide : ¬ ((0 : Int32) < (0 : Int32))), (by decide : (0 : Int32) < (2 : Int32))⟩
 obtain ⟨T_72, h_73, X_74, e_75, W_76, st_77⟩ := stC X_54 hx hZ e_55 A_66 (j := (0 : Int32)) hin_78 (g := (mkF m 36 #[VI p0, VI p1, VI p2, VR a_9, .unset, .unset, .unset, .unset, .unset, .unset, .unset, .unset, .unset] [(.int (own_cb p1)), (.int 0), (.ref a_59), (.ref a_59)])) rfl rfl (hb hby at_36)
 have O_80 : Old Z n0 h_41 := (((X00.ext E_6).wr W_26 (Nat.le_trans (own_n0 X00) (Nat.le_of_eq g_10.symm))).wr W_44 (Nat.le_trans (own_n0 X00) (Nat.le_of_eq g_10.symm)))
 have N_79 := Fr.snoc X_74 N_47 (Nat.le_trans (own_n0 O_80) (Nat.le_of_eq g_60.symm))
 have CH_81 : CHv Z consts_1 s.vm h_73 := CHv.wr W_76 (Safe.arv hZ.alike V_61 (by decide)) CH_62
 have CR_82 : CHr Z consts_1 s.vm h0 s.vm h_73 := CR_63.trans (CHr.wr W_76 (Safe.arv hZ.alike V_61 (by decide)) CH_62)
 have V_83 : Arv Z h_73 a_59 k_53 .char (2 : Int32) [(.int (own_cb p1)), (.int 0)] (.int 0) := by have q := Arv.set A_66 q_67 S_68 M_69 H_70 U_71 (fits_nar_char _) W_76 0 rfl (Nat.le_of_ble_eq_true rfl); rw [own_cb_nar] at q; exact q
 have C_84 : Steps p.tables e below S0 (T_72.setTop (mkF m 48 #[VI p0, VI p1, VI p2, VR a_9, .unset, .unset, .unset, .unset, .unset, .unset, .unset, .unset, .unset] [(.int (own_cb (own_u8 p1))), (.int 1), (.ref a_59), (.ref a_59)])) := by
  refine C0.trans ?_
  refine XS.iconst X0.here hx rfl (hb hby at_0) ?_
  refine st_8 _ ?_
  refine XS.dup X_4.here hx rfl (hb hby at_3) rfl rfl ?_
  refine XS.iconst X_4.here hx rfl (hb hby at_4) ?_
  refine XS.iloadN X_4.here hx rfl (hb hby at_5) rfl ?_
  refine XS.sipush X_4.here hx rfl (hb hby at_6) ?_
  refine XS.iand X_4.here hx rfl (hb hby at_9) rfl ?_
  refine XS.i2c X_4.here hx rfl (hb hby at_10) rfl ?_
  show Steps p.tables e below (T_1.setTop (mkF m 11 #[VI p0, VI p1, VI p2, .unset, .unset, .unset, .unset, .unset, .unset, .unset, .unset, .unset, .unset] [(.int (own_cb p0)), (.int 0), (.ref a_9), (.ref a_9)])) _
  refine st_27 _ ?_
  refine XS.dup X_24.here hx rfl (hb hby at_12) rfl rfl ?_
  refine XS.iconst X_24.here hx rfl (hb hby at_13) ?_
  refine XS.iloadN X_24.here hx rfl (hb hby at_14) rfl ?_
  refine XS.bipush X_24.here hx rfl (hb hby at_15) ?_
  refine XS.iushr X_24.here hx rfl (hb hby at_17) rfl ?_
  refine XS.sipush X_24.here hx rfl (hb hby at_18) ?_
  refine XS.iand X_24.here hx rfl (hb hby at_21) rfl ?_
  show Steps p.tables e below (T_22.setTop (mkF m 22 #[VI p0, VI p1, VI p2, .unset, .unset, .unset, .unset, .unset, .unset, .unset, .unset, .unset, .unset] [(.int ((own_u8 p0) &&& (255 : Int32))), (.int 1), (.ref a_9), (.ref a_9)])) _
  refine XS.i2c X_24.here hx rfl (hb hby at_22) rfl ?_
  refine st_45 _ ?_
  refine XS.astoreN X_42.here hx rfl (hb hby at_24) rfl rfl (l' := #[VI p0, VI p1, VI p2, VR a_9, .unset, .unset, .unset, .unset, .unset, .unset, .unset, .unset, .unset]) rfl ?_
  refine XS.iconst X_42.here hx rfl (hb hby at_25) ?_
  refine st_58 _ ?_
  refine XS.dup X_54.here hx rfl (hb hby at_28) rfl rfl ?_
  refine XS.iconst X_54.here hx rfl (hb hby at_29) ?_
  refine XS.iloadN X_54.here hx rfl (hb hby at_30) rfl ?_
  show Steps p.tables e below (T_51.setTop (mkF m 31 #[VI p0, VI p1, VI p2, VR a_9, .unset, .unset, .unset, .unset, .unset, .unset, .unset, .unset, .unset] [(.int p1), (.int 0), (.ref a_59), (.ref a_59)])) _
  refine XS.sipush X_54.here hx rfl (hb hby at_31) ?_
  refine XS.iand X_54.here hx rfl (hb hby at_34) rfl ?_
  refine XS.i2c X_54.here hx rfl (hb hby at_35) rfl ?_
  refine st_77 _ ?_
  refine XS.dup X_74.here hx rfl (hb hby at_37) rfl rfl ?_
  refine XS.iconst X_74.here hx rfl (hb hby at_38) ?_
  refine XS.iloadN X_74.here hx rfl (hb hby at_39) rfl ?_
  refine XS.bipush X_74.here hx rfl (hb hby at_40) ?_
  show Steps p.tables e below (T_72.setTop (mkF m 42 #[VI p0, VI p1, VI p2, VR a_9, .unset, .unset, .unset, .unset, .unset, .unset, .unset, .unset, .unset] [(.int 8), (.int p1), (.int 1), (.ref a_59), (.ref a_59)])) _
  refine XS.iushr X_74.here hx rfl (hb hby at_42) rfl ?_
  refine XS.sipush X_74.here hx rfl (hb hby at_43) ?_
  refine XS.iand X_74.here hx rfl (hb hby at_46) rfl ?_
  refine XS.i2c X_74.here hx rfl (hb hby at_47) rfl ?_
  exact Steps.refl _
 obtain ⟨c_85, A_86, q_87, S_88, M_89, H_90, U_91⟩ := id V_83
 have hin_98 : ¬ ((1 : Int32) < 0 ∨ c_85.slots.size ≤ (1 : Int32).toNatClampNeg) := inb_of S_88 ⟨(by decide : ¬ ((1 : Int32) < (0 : Int32))), (by decide : (1 : Int32) < (2 : Int32))⟩
 obtain ⟨T_92, h_93, X_94, e_95, W_96, st_97⟩ := stC X_74 hx hZ e_75 A_86 (j := (1 : Int32)) hin_98 (g := (mkF m 48 #[VI p0, VI p1, VI p2, VR a_9, .unset, .unset, .unset, .unset, .unset, .unset, .unset, .unset, .unset] [(.int (own_cb (own_u8 p1))), (.int 1), (.ref a_59), (.ref a_59)])) rfl rfl (hb hby at_48)
 have N_99 := Fr.snoc X_94 N_79 (Nat.le_trans (own_n0 O_80) (Nat.le_of_eq g_60.symm))
 have CH_100 : CHv Z consts_1 s.vm h_93 := CHv.wr W_96 (Safe.arv hZ.alike V_83 (by decide)) CH_81
 have CR_101 : CHr Z consts_1 s.vm h0 s.vm h_93 := CR_82.trans (CHr.wr W_96 (Safe.arv hZ.alike V_83 (by decide)) CH_81)
 have V_102 : Arv Z h_93 a_59 k_53 .char (2 : Int32) [(.int (own_cb p1)), (.int (own_cb (own_u8 p1)))] (.int 0) := by have q := Arv.set A_86 q_87 S_88 M_89 H_90 U_91 (fits_nar_char _) W_96 1 rfl (Nat.le_of_ble_eq_true rfl); rw [own_cb_nar] at q; exact q
 obtain ⟨T_103, h_104, X_105, e_106, E_107, A_108, D_109, U_113, st_110⟩ := newO X_94 hx hZ hown (w1 hw) (w2 hw) (w3 hw) e_95 (g := (mkF m 51 #[VI p0, VI p1, VI p2, VR a_9, VR a_59, .unset, .unset, .unset, .unset, .unset, .unset, .unset, .unset] [])) rfl (hb hby at_51) (by decide) (by decide)
 obtain ⟨a_111, g_112⟩ : ∃ z, z = h_93.size := ⟨_, rfl⟩
 rw [← g_112] at A_108 D_109 st_110 U_113
 have CH_114 : CHv Z consts_1 s.vm h_104 := CHv.ext E_107 CH_100
 have CR_115 : CHr Z consts_1 s.vm h0 s.vm h_104 := CR_101.trans (CHr.ext E_107 CH_100)
 have O_116 : Old Z n0 h_93 := (((O_80.ext E_56).wr W_76 (Nat.le_trans (own_n0 O_80) (Nat.le_of_eq g_60.symm))).wr W_96 (Nat.le_trans (own_n0 O_80) (Nat.le_of_eq g_60.symm)))
 have V_117 : Arv Z h_104 a_9 k_3 .char (2 : Int32) [(.int (own_cb p0)), (.int (own_cb (own_u8 p0)))] (.int 0) := ((((V_50.ext E_56).other W_76 (Nat.ne_of_lt (Nat.lt_of_lt_of_le V_50.lt (Nat.le_trans (Nat.le_refl _) (Nat.le_of_eq g_60.symm))))).other W_96 (Nat.ne_of_lt (Nat.lt_of_lt_of_le V_50.lt (Nat.le_trans (Nat.le_refl _) (Nat.le_of_eq g_60.symm))))).ext E_107)
 have O_118 : Old Z n0 h_104 := (O_116.ext E_107)
 obtain ⟨_, _, ⟨T_119, L_119, k_119, n_119⟩, -, X_119, ⟨Lc_119, hQ_119, l_119, y_119, z_119⟩, st_119⟩ := X_105.specialBack hx (y := M99) rfl hown (mvT hZ (w4 hw)) (mvT hZ (w5 hw)) (mvT hZ (w6 hw)) (by decide) (backOf (W := 1) (rm_si1_2 l Z a0 hw [] G1 G3 g1 kg1 g2 kg2 uS sS HG h_104 n0 O_118 a_111 a_9 k_3 (own_cb p0) (own_cb (own_u8 p0)) A_108 (D_109 (Or.inr (w29 hw)) (ty := (.array .byte)) (by decide)) (D_109 (Or.inr (w27 hw)) (ty := .byte) (by decide)) (Nat.le_trans (own_n0 O_116) (Nat.le_of_eq g_112.symm)) V_117 (own_cb_hi _) (own_cb_hi _)) hZ (w6 hw) (w3 hw) (by decide) (by decide)) (g := (mkF m 56 #[VI p0, VI p1, VI p2, VR a_9, VR a_59, .unset, .unset, .unset, .unset, .unset, .unset, .unset, .unset] [(.ref a_9), (.ref a_111), (.ref a_111)])) rfl (by rw [hml]; rfl) (Steps.refl _) (a := a_111) (argsL := [(.ref a_9)]) (rest := [(.ref a_111)]) (lenOf pd_1085 rfl) rfl (by show 2 * 0 + _ ≤ _; exact Nat.le_of_eq rfl) (hb hby at_56) (fun _ _ => ⟨rfl, e_106, (by decide : 3 + 1 ≤ _), (by decide : 8 + 2 ≤ _)⟩)
 dsimp only [Pt.U, Pt.locs, Pt.cells, Pt.slots] at X_119 l_119 y_119 z_119 st_119 hQ_119
 have X_119 := own_cast X_119 l_119 y_119 z_119
 obtain ⟨a_120, k_121, rfl, N_122, K_123, g_124, g_125, g_126, g_127, g_128⟩ := hQ_119
 have N_129 := Fr.app N_99 N_122
 have CH_130 : CHv Z consts_1 s.vm T_119.heap := CHv.keep K_123 (sfS (own_safe_null hZ.alike A_108 (D_109 (Or.inr (w29 hw)) (ty := (.array .byte)) (by decide))) sf0) CH_114
 have CR_131 : CHr Z consts_1 s.vm h0 s.vm T_119.heap := CR_115.trans (CHr.keep K_123 (sfS (own_safe_null hZ.alike A_108 (D_109 (Or.inr (w29 hw)) (ty := (.array .byte)) (by decide))) sf0) CH_114)
 obtain ⟨T_132, h_133, X_134, e_135, E_136, A_137, D_138, U_142, st_139⟩ := newO X_119 hx hZ hown (w1 hw) (w2 hw) (w3 hw) rfl (g := (mkF m 61 #[VI p0, VI p1, VI p2, VR a_9, VR a_59, VR a_111, .unset, .unset, .unset, .unset, .unset, .unset, .unset] [])) rfl (hb hby at_61) (by decide) (by decide)
 obtain ⟨a_140, g_141⟩ : ∃ z, z = T_119.heap.size := ⟨_, rfl⟩
 rw [← g_141] at A_137 D_138 st_139 U_142
 have CH_143 : CHv Z consts_1 s.vm h_133 := CHv.ext E_136 CH_130
 have CR_144 : CHr Z consts_1 s.vm h0 s.vm h_133 := CR_131.trans (CHr.ext E_136 CH_130)
 have O_145 : Old Z n0 T_119.heap := (O_118.keep K_123 (allS (Nat.le_trans (own_n0 O_116) (Nat.le_of_eq g_112.symm)) all0))
 have V_146 : Arv Z h_133 a_59 k_53 .char (2 : Int32) [(.int (own_cb p1)), (.int (own_cb (own_u8 p1)))] (.int 0) := (((V_102.ext E_107).keep K_123 (ninS (Nat.ne_of_lt (Nat.lt_of_lt_of_le V_102.lt (Nat.le_trans (Nat.le_refl _) (Nat.le_of_eq g_112.symm)))) nin0)).ext E_136)
 have O_147 : Old Z n0 h_133 := (O_145.ext E_136)
 obtain ⟨_, _, ⟨T_148, L_148, k_148, n_148⟩, -, X_148, ⟨Lc_148, hQ_148, l_148, y_148, z_148⟩, st_148⟩ := X_134.specialBack hx (y := M99) rfl hown (mvT hZ (w4 hw)) (mvT hZ (w5 hw)) (mvT hZ (w6 hw)) (by decide) (backOf (W := 1) (rm_si1_2 l Z a0 hw [] G1 G3 g1 kg1 g2 kg2 uS sS HG h_133 n0 O_147 a_140 a_59 k_53 (own_cb p1) (own_cb (own_u8 p1)) A_137 (D_138 (Or.inr (w29 hw)) (ty := (.array .byte)) (by decide)) (D_138 (Or.inr (w27 hw)) (ty := .byte) (by decide)) (Nat.le_trans (own_n0 O_145) (Nat.le_of_eq g_141.symm)) V_146 (own_cb_hi _) (own_cb_hi _)) hZ (w6 hw) (w3 hw) (by decide) (by decide)) (g := (mkF m 67 #[VI p0, VI p1, VI p2, VR a_9, VR a_59, VR a_111, .unset, .unset, .unset, .unset, .unset, .unset, .unset] [(.ref a_59), (.ref a_140), (.ref a_140)])) rfl (by rw [hml]; rfl) (Steps.refl _) (a := a_140) (argsL := [(.ref a_59)]) (rest := [(.ref a_140)]) (lenOf pd_1085 rfl) rfl (by show 2 * 0 + _ ≤ _; exact Nat.le_of_eq rfl) (hb hby at_67) (fun _ _ => ⟨rfl, e_135, (by decide : 5 + 1 ≤ _), (by decide : 14 + 2 ≤ _)⟩)
 dsimp only [Pt.U, Pt.locs, Pt.cells, Pt.slots] at X_148 l_148 y_148 z_148 st_148 hQ_148
 have X_148 := own_cast X_148 l_148 y_148 z_148
 obtain ⟨a_149, k_150, rfl, N_151, K_152, g_153, g_154, g_155, g_156, g_157⟩ := hQ_148
 have N_158 := Fr.app N_129 N_151
 have CH_159 : CHv Z consts_1 s.vm T_148.heap := CHv.keep K_152 (sfS (own_safe_null hZ.alike A_137 (D_138 (Or.inr (w29 hw)) (ty := (.array .byte)) (by decide))) sf0) CH_143
 have CR_160 : CHr Z consts_1 s.vm h0 s.vm T_148.heap := CR_144.trans (CHr.keep K_152 (sfS (own_safe_null hZ.alike A_137 (D_138 (Or.inr (w29 hw)) (ty := (.array .byte)) (by decide))) sf0) CH_143)
 have V_161 : Arv Z T_148.heap a_120 k_121 .byte (2 : Int32) [(.int (own_lo8 (own_cb p0))), (.int (own_lo8 (own_cb (own_u8 p0))))] (.int 0) := ((g_128.ext E_136).keep K_152 (ninS (Nat.ne_of_lt (Nat.lt_of_lt_of_le g_128.lt (Nat.le_trans (Nat.le_refl _) (Nat.le_of_eq g_141.symm)))) nin0))
 have V_162 : Arv Z T_148.heap a_120 k_121 .byte (2 : Int32) (own_iv [(own_lo8 (own_cb p0)), (own_lo8 (own_cb (own_u8 p0)))]) (.int 0) := V_161
 have V_163 : Arv Z T_148.heap a_149 k_150 .byte (2 : Int32) (own_iv [(own_lo8 (own_cb p1)), (own_lo8 (own_cb (own_u8 p1)))]) (.int 0) := g_157
 obtain ⟨T_164, h_165, X_166, e_167, E_168, A_169, D_170, U_174, st_171⟩ := newO X_148 hx hZ hown (w30 hw) (w31 hw) (w32 hw) rfl (g := (mkF m 72 #[VI p0, VI p1, VI p2, VR a_9, VR a_59, VR a_111, VR a_140, .unset, .unset, .unset, .unset, .unset, .unset] [])) rfl (hb hby at_72) (by decide) (by decide)
 obtain ⟨a_172, g_173⟩ : ∃ z, z = T_148.heap.size := ⟨_, rfl⟩
 rw [← g_173] at A_169 D_170 st_171 U_174
 have CH_175 : CHv Z consts_1 s.vm h_165 := CHv.ext E_168 CH_159
 have CR_176 : CHr Z consts_1 s.vm h0 s.vm h_165 := CR_160.trans (CHr.ext E_168 CH_159)
 have O_177 : Old Z n0 T_148.heap := (O_147.keep K_152 (allS (Nat.le_trans (own_n0 O_145) (Nat.le_of_eq g_141.symm)) all0))
 have O_178 : Old Z n0 h_165 := (O_177.ext E_168)
 obtain ⟨_, _, ⟨T_179, L_179, k_179, n_179⟩, -, X_179, ⟨Lc_179, hQ_179, l_179, y_179, z_179⟩, st_179⟩ := X_166.specialBack hx (y := M902) rfl hown (mvT hZ (w33 hw)) (mvT hZ (w34 hw)) (mvT hZ (w35 hw)) (by decide) (backOf (W := 1) (rm_csi l Z a0 hw [] G1 G3 g1 kg1 g2 kg2 uS sS HG h_165 n0 O_178 a_172 a_111 A_169 (D_170 (Or.inr (w38 hw)) (ty := (.object "java/lang/String")) (by decide)) (Nat.le_trans (own_n0 O_177) (Nat.le_of_eq g_173.symm))) hZ (w35 hw) (w32 hw) (by decide) (by decide)) (g := (mkF m 78 #[VI p0, VI p1, VI p2, VR a_9, VR a_59, VR a_111, VR a_140, .unset, .unset, .unset, .unset, .unset, .unset] [(.ref a_111), (.ref a_172), (.ref a_172)])) rfl (by rw [hml]; rfl) (Steps.refl _) (a := a_172) (argsL := [(.ref a_111)]) (rest := [(.ref a_172)]) (lenOf pd_292 rfl) rfl (by show 2 * 0 + _ ≤ _; exact Nat.le_of_eq rfl) (hb hby at_78) (fun _ _ => ⟨rfl, e_167, (by decide : 7 + 0 ≤ _), (by decide : 17 + 0 ≤ _)⟩)
 dsimp only [Pt.U, Pt.locs, Pt.cells, Pt.slots] at X_179 l_179 y_179 z_179 st_179 hQ_179
 have X_179 := own_cast X_179 l_179 y_179 z_179
 obtain ⟨rfl, N_180, K_181, g_182, g_183⟩ := hQ_179
 have N_184 := Fr.app N_158 N_180
 have CH_185 : CHv Z consts_1 s.vm T_179.heap := CHv.keep K_181 (sfS (Safe.exa hZ.alike A_169 (by decide) (by decide)) sf0) CH_175
 have CR_186 : CHr Z consts_1 s.vm h0 s.vm T_179.heap := CR_176.trans (CHr.keep K_181 (sfS (Safe.exa hZ.alike A_169 (by decide) (by decide)) sf0) CH_175)
 have E_187 : Exa Z T_179.heap a_111 "java/lang/String" := ((((g_124.ext E_136).keep K_152).ext E_168).keep K_181)
 have F_188 : Fld Z T_179.heap a_111 "java/lang/String" "coder" "B" (.int 0) := ((((g_125.ext E_136).keep K_152 (ninS (Nat.ne_of_lt (Nat.lt_of_lt_of_le A_108.lt (Nat.le_trans K_123.1 (Nat.le_of_eq g_141.symm)))) nin0)).ext E_168).keep K_181 (ninS (Nat.ne_of_lt (Nat.lt_of_lt_of_le A_108.lt (Nat.le_trans (Nat.le_trans (Nat.le_trans K_123.1 E_136.1) K_152.1) (Nat.le_of_eq g_173.symm)))) nin0))
 have F_189 : Fld Z T_179.heap a_111 "java/lang/String" "value" "[B" (.ref a_120) := ((((g_126.ext E_136).keep K_152 (ninS (Nat.ne_of_lt (Nat.lt_of_lt_of_le A_108.lt (Nat.le_trans K_123.1 (Nat.le_of_eq g_141.symm)))) nin0)).ext E_168).keep K_181 (ninS (Nat.ne_of_lt (Nat.lt_of_lt_of_le A_108.lt (Nat.le_trans (Nat.le_trans (Nat.le_trans K_123.1 E_136.1) K_152.1) (Nat.le_of_eq g_173.symm)))) nin0))
 have V_190 : Arv Z T_179.heap a_120 k_121 .byte (2 : Int32) (own_iv [(own_lo8 (own_cb p0)), (own_lo8 (own_cb (own_u8 p0)))]) (.int 0) := ((V_162.ext E_168).keep K_181 (ninS (Nat.ne_of_lt (Nat.lt_of_lt_of_le V_162.lt (Nat.le_trans (Nat.le_refl _) (Nat.le_of_eq g_173.symm)))) nin0))
 have E_191 : Exa Z T_179.heap a_140 "java/lang/String" := ((g_153.ext E_168).keep K_181)
 have F_192 : Fld Z T_179.heap a_140 "java/lang/String" "coder" "B" (.int 0) := ((g_154.ext E_168).keep K_181 (ninS (Nat.ne_of_lt (Nat.lt_of_lt_of_le A_137.lt (Nat.le_trans K_152.1 (Nat.le_of_eq g_173.symm)))) nin0))
 have F_193 : Fld Z T_179.heap a_140 "java/lang/String" "value" "[B" (.ref a_149) := ((g_155.ext E_168).keep K_181 (ninS (Nat.ne_of_lt (Nat.lt_of_lt_of_le A_137.lt (Nat.le_trans K_152.1 (Nat.le_of_eq g_173.symm)))) nin0))
 have V_194 : Arv Z T_179.heap a_149 k_150 .byte (2 : Int32) (own_iv [(own_lo8 (own_cb p1)), (own_lo8 (own_cb (own_u8 p1)))]) (.int 0) := ((V_163.ext E_168).keep K_181 (ninS (Nat.ne_of_lt (Nat.lt_of_lt_of_le V_163.lt (Nat.le_trans (Nat.le_refl _) (Nat.le_of_eq g_173.symm)))) nin0))
 have O_195 : Old Z n0 T_179.heap := (O_178.keep K_181 (allS (Nat.le_trans (own_n0 O_177) (Nat.le_of_eq g_173.symm)) all0))
 obtain ⟨q_197, q_198, q_199, q_200, q_201⟩ := isOf (T := T_179) hZ rfl g_182
 obtain ⟨_, _, ⟨T_196, L_196, k_196, n_196⟩, -, Y_196, S_196, G_196, ⟨Lc_196, hQ_196, l_196, y_196, z_196, R_196⟩, st_196⟩ := X_179.virtualBackS hx (y := M914) (z := M914) hown (mvT hZ (w39 hw)) (mvT hZ (w40 hw)) (notFace_of_selects (args := #[]) (mvT hZ (w42 hw))) (mvT hZ (w42 hw)) (mvT hZ (w41 hw)) (by decide) (backOfSKH (vm0 := s.vm) (W := 0) (rm_err l Z a0 hw [] G1 G3 g1 kg1 g2 kg2 uS sS HG T_179.heap n0 O_195 a_172 a_111 a_120 k_121 (own_cb p0) (own_cb (own_u8 p0)) p2 a_140 a_149 k_150 (own_cb p1) (own_cb (own_u8 p1)) g_182 g_183 E_187 F_188 F_189 V_190 E_191 F_192 F_193 V_194) hZ (w43 hw) (w32 hw) (by decide) (by decide) hEL CH_185 hTK0 hBL0) q_199 q_201 (g := (mkF m 88 #[VI p0, VI p1, VI p2, VR a_9, VR a_59, VR a_111, VR a_140, VR a_172, .unset, .unset, .unset, .unset, .unset] [(.ref a_140), (.int p2), (.ref a_172)])) rfl (by rw [hml]; rfl) (Steps.refl _) (argsL := [(.int p2), (.ref a_140)]) (rest := []) (lenOf pd_1094 rfl) rfl (by show 2 * 0 + _ ≤ _; exact Nat.le_of_eq rfl) (hb hby at_88) (fun _ _ => ⟨rfl, rfl, (by decide : 7 + 15 ≤ _), (by decide : 17 + 2928 ≤ _)⟩)
 dsimp only [Pt.U, Pt.locs, Pt.cells, Pt.slots] at Y_196 S_196 G_196 l_196 y_196 z_196 st_196 hQ_196 R_196
 have Y_196 := own_cast Y_196 l_196 y_196 z_196
 obtain ⟨X_196, hS_196, hZ_196, hown_196⟩ := rebS hS0 (n1 := T_179.heap.size) (by rw [show T_179.heap = T_179.heap from rfl]; exact (Nat.le_trans (Nat.le_refl _) (Nat.le_trans (Nat.le_trans (Nat.le_trans (Nat.le_trans (Nat.le_trans (Nat.le_trans (Nat.le_trans (Nat.le_trans (Nat.le_trans (Nat.le_trans (Nat.le_trans E_6.1 (Keep.of_wr W_26).1) (Keep.of_wr W_44).1) E_56.1) (Keep.of_wr W_76).1) (Keep.of_wr W_96).1) E_107.1) K_123.1) E_136.1) K_152.1) E_168.1) K_181.1))) Y_196 S_196 G_196 hZ hown
 obtain ⟨a_202, a_203, a_204, k_205, rfl, N_206, K_207, g_208, g_209, g_210, g_211, g_212, g_213, g_214⟩ := hQ_196
 have N_215 := Fr.app N_184 N_206
 have CH_216 : CHv Z consts_1 T_196.vm T_196.heap := R_196.1
 have CR_217 : CHr Z consts_1 s.vm h0 T_196.vm T_196.heap := CR_186.trans R_196
 have hTK_218 : (s.setVm T_196.vm).vm.MethodsKnown := Vm.MethodsKnown.alikeC (hS_196.1.alike) hTK0
 have hBL_219 : (s.setVm T_196.vm).vm.FramesKnown below := Vm.FramesKnown.alikeC (hS_196.1.alike) hBL0
 have O_220 : Old Z n0 T_196.heap := (O_195.keep K_207 all0)
 obtain ⟨q_222, q_223, q_224, q_225, q_226⟩ := isOf (T := T_196) hZ_196 rfl g_209
 obtain ⟨_, _, ⟨T_221, L_221, k_221, n_221⟩, -, X_221, ⟨Lc_221, hQ_221, l_221, y_221, z_221⟩, st_221⟩ := X_196.virtualBackUp hx (owner := "java/lang/Throwable") (x := M1103) (y := M839) hown_196 (mvT hZ_196 (w230 hw)) (mvT hZ_196 (w231 hw)) (mvT hZ_196 (w232 hw)) (by decide) (mvT hZ_196 (w234 hw)) (mvT hZ_196 (w233 hw)) (backOf (W := 0) (rm_getmsg l Z a0 hw [] G1 G3 g1 kg1 g2 kg2 uS sS HG T_196.heap n0 O_220 a_202 a_203 g_210) hZ_196 (w235 hw) (w191 hw) (by decide) (by decide)) q_224 q_226 (g := (mkF m 102 #[VI p0, VI p1, VI p2, VR a_9, VR a_59, VR a_111, VR a_140, VR a_172, VR a_202, .unset, .unset, .unset, .unset] [(.ref a_202)])) rfl (by rw [hml]; rfl) (Steps.refl _) (argsL := []) (rest := []) (lenOf pd_880 rfl) rfl (by show 2 * 0 + _ ≤ _; exact Nat.le_of_eq rfl) (hb hby at_102) (fun _ _ => ⟨rfl, rfl, (by decide : 22 + 0 ≤ _), (by decide : 2945 + 0 ≤ _)⟩)
 dsimp only [Pt.U, Pt.locs, Pt.cells, Pt.slots] at X_221 l_221 y_221 z_221 st_221 hQ_221
 have X_221 := own_cast X_221 l_221 y_221 z_221
 obtain ⟨rfl, N_227, e_228⟩ := hQ_221
 have N_229 := Fr.app N_215 N_227
 have e_230 : T_221.heap = T_196.heap := e_228
 have C_231 : Steps p.tables e below S0 (T_221.setTop (mkF m 115 #[VI p0, VI p1, VI p2, VR a_9, VR a_59, VR a_111, VR a_140, VR a_172, VR a_202, VR a_203, .unset, .unset, .unset] [(.int p2)])) := by
  refine C_84.trans ?_
  refine st_97 _ ?_
  refine XS.astore X_94.here hx rfl (hb hby at_49) rfl rfl (l' := #[VI p0, VI p1, VI p2, VR a_9, VR a_59, .unset, .unset, .unset, .unset, .unset, .unset, .unset, .unset]) rfl ?_
  refine st_110 _ ?_
  refine XS.dup X_105.here hx rfl (hb hby at_54) rfl rfl ?_
  refine XS.aloadN X_105.here hx rfl (hb hby at_55) rfl rfl ?_
  refine st_119.trans ?_
  refine XS.astore X_119.here hx rfl (hb hby at_59) rfl rfl (l' := #[VI p0, VI p1, VI p2, VR a_9, VR a_59, VR a_111, .unset, .unset, .unset, .unset, .unset, .unset, .unset]) rfl ?_
  refine st_139 _ ?_
  show Steps p.tables e below (T_132.setTop (mkF m 64 #[VI p0, VI p1, VI p2, VR a_9, VR a_59, VR a_111, .unset, .unset, .unset, .unset, .unset, .unset, .unset] [(.ref a_140)])) _
  refine XS.dup X_134.here hx rfl (hb hby at_64) rfl rfl ?_
  refine XS.aload X_134.here hx rfl (hb hby at_65) rfl rfl ?_
  refine st_148.trans ?_
  refine XS.astore X_148.here hx rfl (hb hby at_70) rfl rfl (l' := #[VI p0, VI p1, VI p2, VR a_9, VR a_59, VR a_111, VR a_140, .unset, .unset, .unset, .unset, .unset, .unset]) rfl ?_
  refine st_171 _ ?_
  refine XS.dup X_166.here hx rfl (hb hby at_75) rfl rfl ?_
  refine XS.aload X_166.here hx rfl (hb hby at_76) rfl rfl ?_
  refine st_179.trans ?_
  show Steps p.tables e below (T_179.setTop (mkF m 81 #[VI p0, VI p1, VI p2, VR a_9, VR a_59, VR a_111, VR a_140, .unset, .unset, .unset, .unset, .unset, .unset] [(.ref a_172)])) _
  refine XS.astore X_179.here hx rfl (hb hby at_81) rfl rfl (l' := #[VI p0, VI p1, VI p2, VR a_9, VR a_59, VR a_111, VR a_140, VR a_172, .unset, .unset, .unset, .unset, .unset]) rfl ?_
  refine XS.aload X_179.here hx rfl (hb hby at_83) rfl rfl ?_
  refine XS.iloadN X_179.here hx rfl (hb hby at_85) rfl ?_
  refine XS.aload X_179.here hx rfl (hb hby at_86) rfl rfl ?_
  refine st_196.trans ?_
  refine XS.astore X_196.here hx rfl (hb hby at_91) rfl rfl (l' := #[VI p0, VI p1, VI p2, VR a_9, VR a_59, VR a_111, VR a_140, VR a_172, VR a_202, .unset, .unset, .unset, .unset]) rfl ?_
  refine XS.aload X_196.here hx rfl (hb hby at_93) rfl rfl ?_
  refine XS.ifnonnullYes X_196.here hx rfl (pc0 := 95) (pc' := 100) rfl (hb hby at_95) rfl (by decide) (by decide) ?_
  show Steps p.tables e below (T_196.setTop (mkF m 100 #[VI p0, VI p1, VI p2, VR a_9, VR a_59, VR a_111, VR a_140, VR a_172, VR a_202, .unset, .unset, .unset, .unset] [])) _
  refine XS.aload X_196.here hx rfl (hb hby at_100) rfl rfl ?_
  refine st_221.trans ?_
  refine XS.astore X_221.here hx rfl (hb hby at_105) rfl rfl (l' := #[VI p0, VI p1, VI p2, VR a_9, VR a_59, VR a_111, VR a_140, VR a_172, VR a_202, VR a_203, .unset, .unset, .unset]) rfl ?_
  refine XS.aload X_221.here hx rfl (hb hby at_107) rfl rfl ?_
  refine XS.ifnonnullYes X_221.here hx rfl (pc0 := 109) (pc' := 114) rfl (hb hby at_109) rfl (by decide) (by decide) ?_
  refine XS.iloadN X_221.here hx rfl (hb hby at_114) rfl ?_
  exact Steps.refl _
 by_cases hc_232 : (0 : Int32) < p2
 ·skip
  obtain ⟨_, _, ⟨T_233, L_233, k_233, n_233⟩, -, X_233, ⟨Lc_233, hQ_233, l_233, y_233, z_233⟩, st_233⟩ := Jvm.LawKit.callS X_221 hx (y := M930) hown_196 (mvT hZ_196 (w236 hw)) (mvT hZ_196 (w237 hw)) (mvT hZ_196 (w238 hw)) (mvT hZ_196 (w239 hw)) (by decide) (backOf (W := 0) (rm_dgs l Z a0 hw [] G1 G3 g1 kg1 g2 kg2 uS sS HG T_196.heap n0 O_220 p2 ) hZ_196 (w239 hw) (w238 hw) (by decide) (by decide)) (g := (mkF m 119 #[VI p0, VI p1, VI p2, VR a_9, VR a_59, VR a_111, VR a_140, VR a_172, VR a_202, VR a_203, .unset, .unset, .unset] [(.int p2)])) rfl (by rw [hml]; rfl) (argsL := [(.int p2)]) (rest := []) (lenOf pd_420 rfl) rfl (by show 2 * 0 + _ ≤ _; exact Nat.le_of_eq rfl) (hb hby at_119) (fun _ _ => ⟨rfl, e_230, (by decide : 22 + 0 ≤ _), (by decide : 2945 + 0 ≤ _)⟩)
  dsimp only [Pt.U, Pt.locs, Pt.cells, Pt.slots] at X_233 l_233 y_233 z_233 st_233 hQ_233
  have X_233 := own_cast X_233 l_233 y_233 z_233
  obtain ⟨rfl, N_234, e_235⟩ := hQ_233
  have N_236 := Fr.app N_229 N_234
  have e_237 : T_233.heap = T_196.heap := e_235
  obtain ⟨q_239, q_240, q_241, q_242, q_243⟩ := isOf (T := T_233) hZ_196 e_237 g_211
  obtain ⟨_, _, ⟨T_238, L_238, k_238, n_238⟩, -, X_238, ⟨Lc_238, hQ_238, l_238, y_238, z_238⟩, st_238⟩ := X_233.virtualBack hx (y := M131) (z := M131) hown_196 (mvT hZ_196 (w245 hw)) (mvT hZ_196 (w79 hw)) (notFace_of_selects (args := #[]) (mvT hZ_196 (w81 hw))) (mvT hZ_196 (w81 hw)) (mvT hZ_196 (w80 hw)) (by decide) (backOf (W := 0) (rm_lens l Z a0 hw [] G1 G3 g1 kg1 g2 kg2 uS sS HG T_196.heap n0 O_220 a_203 a_204 k_205 (own_tl p2) (own_iv (own_bs (own_tx (own_cb p0) (own_cb (own_u8 p0)) p2 (own_cb p1) (own_cb (own_u8 p1))))) g_211 g_212 g_213 g_214) hZ_196 (w82 hw) (w3 hw) (by decide) (by decide)) q_241 q_243 (g := (mkF m 144 #[VI p0, VI p1, VI p2, VR a_9, VR a_59, VR a_111, VR a_140, VR a_172, VR a_202, VR a_203, .val (.int (own_ssz p2)), .val (.int ((1 : Int32) + (own_ssz p2))), .unset] [(.ref a_203)])) rfl (by rw [hml]; rfl) (Steps.refl _) (argsL := []) (rest := []) (lenOf pd_442 rfl) rfl (by show 2 * 0 + _ ≤ _; exact Nat.le_of_eq rfl) (hb hby at_144) (fun _ _ => ⟨rfl, e_237, (by decide : 22 + 0 ≤ _), (by decide : 2945 + 0 ≤ _)⟩)
  dsimp only [Pt.U, Pt.locs, Pt.cells, Pt.slots] at X_238 l_238 y_238 z_238 st_238 hQ_238
  have X_238 := own_cast X_238 l_238 y_238 z_238
  obtain ⟨rfl, N_244, e_245⟩ := hQ_238
  have N_246 := Fr.app N_236 N_244
  have e_247 : T_238.heap = T_196.heap := e_245
  obtain ⟨q_249, q_250, q_251, q_252, q_253⟩ := isOf (T := T_238) hZ_196 e_247 g_211
  obtain ⟨_, _, ⟨T_248, L_248, k_248, n_248⟩, -, X_248, ⟨Lc_248, hQ_248, l_248, y_248, z_248⟩, st_248⟩ := X_238.virtualBack hx (y := M186) (z := M186) hown_196 (mvT hZ_196 (w246 hw)) (mvT hZ_196 (w247 hw)) (notFace_of_selects (args := #[]) (mvT hZ_196 (w249 hw))) (mvT hZ_196 (w249 hw)) (mvT hZ_196 (w248 hw)) (by decide) (backOf (W := 0) (rm_chs l Z a0 hw [] G1 G3 g1 kg1 g2 kg2 uS sS HG T_196.heap n0 O_220 a_203 a_204 k_205 (own_tl p2) (own_tx (own_cb p0) (own_cb (own_u8 p0)) p2 (own_cb p1) (own_cb (own_u8 p1))) (0 : Int32) g_211 g_212 g_213 g_214 (by decide) (own_small p2).1 (own_txlen _ _ _ _ _) (own_txlat ⟨own_cb_lo _, own_cb_hi _⟩ ⟨own_cb_lo _, own_cb_hi _⟩ ⟨own_cb_lo _, own_cb_hi _⟩ ⟨own_cb_lo _, own_cb_hi _⟩)) hZ_196 (w250 hw) (w3 hw) (by decide) (by decide)) q_251 q_253 (g := (mkF m 161 #[VI p0, VI p1, VI p2, VR a_9, VR a_59, VR a_111, VR a_140, VR a_172, VR a_202, VR a_203, .val (.int (own_ssz p2)), .val (.int ((1 : Int32) + (own_ssz p2))), .unset] [(.int 0), (.ref a_203)])) rfl (by rw [hml]; rfl) (Steps.refl _) (argsL := [(.int 0)]) (rest := []) (lenOf pd_1065 rfl) rfl (by show 2 * 0 + _ ≤ _; exact Nat.le_of_eq rfl) (hb hby at_161) (fun _ _ => ⟨rfl, e_247, (by decide : 22 + 0 ≤ _), (by decide : 2945 + 0 ≤ _)⟩)
  dsimp only [Pt.U, Pt.locs, Pt.cells, Pt.slots] at X_248 l_248 y_248 z_248 st_248 hQ_248
  have X_248 := own_cast X_248 l_248 y_248 z_248
  obtain ⟨rfl, N_254, e_255⟩ := hQ_248
  have N_256 := Fr.app N_246 N_254
  have e_257 : T_248.heap = T_196.heap := e_255
  have V_258 : Arv Z T_196.heap a_9 k_3 .char (2 : Int32) [(.int (own_cb p0)), (.int (own_cb (own_u8 p0)))] (.int 0) := ((((((V_117.keep K_123 (ninS (Nat.ne_of_lt (Nat.lt_of_lt_of_le V_50.lt (Nat.le_trans (Nat.le_trans (Nat.le_trans E_56.1 (Keep.of_wr W_76).1) (Keep.of_wr W_96).1) (Nat.le_of_eq g_112.symm)))) nin0)).ext E_136).keep K_152 (ninS (Nat.ne_of_lt (Nat.lt_of_lt_of_le V_50.lt (Nat.le_trans (Nat.le_trans (Nat.le_trans (Nat.le_trans (Nat.le_trans E_56.1 (Keep.of_wr W_76).1) (Keep.of_wr W_96).1) E_107.1) K_123.1) (Nat.le_of_eq g_141.symm)))) nin0)).ext E_168).keep K_181 (ninS (Nat.ne_of_lt (Nat.lt_of_lt_of_le V_50.lt (Nat.le_trans (Nat.le_trans (Nat.le_trans (Nat.le_trans (Nat.le_trans (Nat.le_trans (Nat.le_trans E_56.1 (Keep.of_wr W_76).1) (Keep.of_wr W_96).1) E_107.1) K_123.1) E_136.1) K_152.1) (Nat.le_of_eq g_173.symm)))) nin0)).keep K_207 nin0)
  obtain ⟨c_259, A_260, q_261, S_262, M_263, H_264, U_265⟩ := id V_258
  have hin_266 : ¬ ((0 : Int32) < 0 ∨ c_259.slots.size ≤ (0 : Int32).toNatClampNeg) := inb_of S_262 ⟨(by decide : ¬ ((0 : Int32) < (0 : Int32))), (by decide : (0 : Int32) < (2 : Int32))⟩
  have hat_267 : c_259.slots[(0 : Int32).toNatClampNeg]? = some (.int (own_cb p0)) := Has.at H_264 hin_266 rfl
  obtain ⟨q_269, q_270, q_271, q_272, q_273⟩ := isOf (T := T_248) hZ_196 e_257 g_211
  obtain ⟨_, _, ⟨T_268, L_268, k_268, n_268⟩, -, X_268, ⟨Lc_268, hQ_268, l_268, y_268, z_268⟩, st_268⟩ := X_248.virtualBack hx (y := M186) (z := M186) hown_196 (mvT hZ_196 (w246 hw)) (mvT hZ_196 (w247 hw)) (notFace_of_selects (args := #[]) (mvT hZ_196 (w249 hw))) (mvT hZ_196 (w249 hw)) (mvT hZ_196 (w248 hw)) (by decide) (backOf (W := 0) (rm_chs l Z a0 hw [] G1 G3 g1 kg1 g2 kg2 uS sS HG T_196.heap n0 O_220 a_203 a_204 k_205 (own_tl p2) (own_tx (own_cb p0) (own_cb (own_u8 p0)) p2 (own_cb p1) (own_cb (own_u8 p1))) (1 : Int32) g_211 g_212 g_213 g_214 (by decide) (own_small p2).2.1 (own_txlen _ _ _ _ _) (own_txlat ⟨own_cb_lo _, own_cb_hi _⟩ ⟨own_cb_lo _, own_cb_hi _⟩ ⟨own_cb_lo _, own_cb_hi _⟩ ⟨own_cb_lo _, own_cb_hi _⟩)) hZ_196 (w250 hw) (w3 hw) (by decide) (by decide)) q_271 q_273 (g := (mkF m 173 #[VI p0, VI p1, VI p2, VR a_9, VR a_59, VR a_111, VR a_140, VR a_172, VR a_202, VR a_203, .val (.int (own_ssz p2)), .val (.int ((1 : Int32) + (own_ssz p2))), .unset] [(.int 1), (.ref a_203)])) rfl (by rw [hml]; rfl) (Steps.refl _) (argsL := [(.int 1)]) (rest := []) (lenOf pd_1065 rfl) rfl (by show 2 * 0 + _ ≤ _; exact Nat.le_of_eq rfl) (hb hby at_173) (fun _ _ => ⟨rfl, e_257, (by decide : 22 + 0 ≤ _), (by decide : 2945 + 0 ≤ _)⟩)
  dsimp only [Pt.U, Pt.locs, Pt.cells, Pt.slots] at X_268 l_268 y_268 z_268 st_268 hQ_268
  have X_268 := own_cast X_268 l_268 y_268 z_268
  obtain ⟨rfl, N_274, e_275⟩ := hQ_268
  have N_276 := Fr.app N_256 N_274
  have e_277 : T_268.heap = T_196.heap := e_275
  obtain ⟨c_278, A_279, q_280, S_281, M_282, H_283, U_284⟩ := id V_258
  have hin_285 : ¬ ((1 : Int32) < 0 ∨ c_278.slots.size ≤ (1 : Int32).toNatClampNeg) := inb_of S_281 ⟨(by decide : ¬ ((1 : Int32) < (0 : Int32))), (by decide : (1 : Int32) < (2 : Int32))⟩
  have hat_286 : c_278.slots[(1 : Int32).toNatClampNeg]? = some (.int (own_cb (own_u8 p0))) := Has.at H_283 hin_285 rfl
  have C_287 : Steps p.tables e below S0 (T_268.setTop (mkF m 188 #[VI p0, VI p1, VI p2, VR a_9, VR a_59, VR a_111, VR a_140, VR a_172, VR a_202, VR a_203, .val (.int (own_ssz p2)), .val (.int ((1 : Int32) + (own_ssz p2))), .unset] [])) := by
   refine C_231.trans ?_
   refine XS.ifNo X_221.here hx rfl (hb hby at_115) rfl (i0_le_f hc_232) ?_
   refine XS.iloadN X_221.here hx rfl (hb hby at_118) rfl ?_
   refine st_233 _ ?_
   refine XS.goto X_233.here hx rfl (pc0 := 122) (pc' := 126) rfl (hb hby at_122) (by decide) (by decide) ?_
   refine XS.istore X_233.here hx rfl (hb hby at_126) rfl (l' := #[VI p0, VI p1, VI p2, VR a_9, VR a_59, VR a_111, VR a_140, VR a_172, VR a_202, VR a_203, .val (.int (own_ssz p2)), .unset, .unset]) rfl ?_
   refine XS.iloadN X_233.here hx rfl (hb hby at_128) rfl ?_
   refine XS.ifNo X_233.here hx rfl (hb hby at_129) rfl (i0_le_f hc_232) ?_
   refine XS.iconst X_233.here hx rfl (hb hby at_132) ?_
   show Steps p.tables e below (T_233.setTop (mkF m 133 #[VI p0, VI p1, VI p2, VR a_9, VR a_59, VR a_111, VR a_140, VR a_172, VR a_202, VR a_203, .val (.int (own_ssz p2)), .unset, .unset] [(.int 1)])) _
   refine XS.iload X_233.here hx rfl (hb hby at_133) rfl ?_
   refine XS.iadd X_233.here hx rfl (hb hby at_135) rfl ?_
   refine XS.goto X_233.here hx rfl (pc0 := 136) (pc' := 140) rfl (hb hby at_136) (by decide) (by decide) ?_
   refine XS.istore X_233.here hx rfl (hb hby at_140) rfl (l' := #[VI p0, VI p1, VI p2, VR a_9, VR a_59, VR a_111, VR a_140, VR a_172, VR a_202, VR a_203, .val (.int (own_ssz p2)), .val (.int ((1 : Int32) + (own_ssz p2))), .unset]) rfl ?_
   refine XS.aload X_233.here hx rfl (hb hby at_142) rfl rfl ?_
   refine st_238.trans ?_
   refine XS.iconst X_238.here hx rfl (hb hby at_147) ?_
   refine XS.iload X_238.here hx rfl (hb hby at_148) rfl ?_
   show Steps p.tables e below (T_238.setTop (mkF m 150 #[VI p0, VI p1, VI p2, VR a_9, VR a_59, VR a_111, VR a_140, VR a_172, VR a_202, VR a_203, .val (.int (own_ssz p2)), .val (.int ((1 : Int32) + (own_ssz p2))), .unset] [(.int ((1 : Int32) + (own_ssz p2))), (.int 2), (.int (own_tl p2))])) _
   refine XS.iadd X_238.here hx rfl (hb hby at_150) rfl ?_
   refine XS.iconst X_238.here hx rfl (hb hby at_151) ?_
   refine XS.iadd X_238.here hx rfl (hb hby at_152) rfl ?_
   refine XS.icmpYes X_238.here hx rfl (pc0 := 153) (pc' := 158) rfl (hb hby at_153) rfl (ii_eq_t (own_tlP hc_232)) (by decide) (by decide) ?_
   refine XS.aload X_238.here hx rfl (hb hby at_158) rfl rfl ?_
   refine XS.iconst X_238.here hx rfl (hb hby at_160) ?_
   refine st_248.trans ?_
   refine XS.aloadN X_248.here hx rfl (hb hby at_164) rfl rfl ?_
   show Steps p.tables e below (T_248.setTop (mkF m 165 #[VI p0, VI p1, VI p2, VR a_9, VR a_59, VR a_111, VR a_140, VR a_172, VR a_202, VR a_203, .val (.int (own_ssz p2)), .val (.int ((1 : Int32) + (own_ssz p2))), .unset] [(.ref a_9), (.int (own_gt (own_tx (own_cb p0) (own_cb (own_u8 p0)) p2 (own_cb p1) (own_cb (own_u8 p1))) (0 : Int32)))])) _
   refine XS.iconst X_248.here hx rfl (hb hby at_165) ?_
   refine X_248.caload hx (j := (0 : Int32)) (v := (.int (own_cb p0))) (by rw [e_257]; exact A_260.1) (State.isArrayOf_alike hZ_196.alike A_260.2.1) A_260.2.2 hin_266 hat_267 (g := (mkF m 166 #[VI p0, VI p1, VI p2, VR a_9, VR a_59, VR a_111, VR a_140, VR a_172, VR a_202, VR a_203, .val (.int (own_ssz p2)), .val (.int ((1 : Int32) + (own_ssz p2))), .unset] [(.int 0), (.ref a_9), (.int (own_gt (own_tx (own_cb p0) (own_cb (own_u8 p0)) p2 (own_cb p1) (own_cb (own_u8 p1))) (0 : Int32)))])) rfl rfl (hb hby at_166) _ ?_
   refine XS.icmpNo X_248.here hx rfl (hb hby at_167) rfl (ii_ne_f (own_tx0 _ _ _ _ _).1) ?_
   refine XS.aload X_248.here hx rfl (hb hby at_170) rfl rfl ?_
   refine XS.iconst X_248.here hx rfl (hb hby at_172) ?_
   refine st_268.trans ?_
   refine XS.aloadN X_268.here hx rfl (hb hby at_176) rfl rfl ?_
   refine XS.iconst X_268.here hx rfl (hb hby at_177) ?_
   show Steps p.tables e below (T_268.setTop (mkF m 178 #[VI p0, VI p1, VI p2, VR a_9, VR a_59, VR a_111, VR a_140, VR a_172, VR a_202, VR a_203, .val (.int (own_ssz p2)), .val (.int ((1 : Int32) + (own_ssz p2))), .unset] [(.int 1), (.ref a_9), (.int (own_gt (own_tx (own_cb p0) (own_cb (own_u8 p0)) p2 (own_cb p1) (own_cb (own_u8 p1))) (1 : Int32)))])) _
   refine X_268.caload hx (j := (1 : Int32)) (v := (.int (own_cb (own_u8 p0)))) (by rw [e_277]; exact A_279.1) (State.isArrayOf_alike hZ_196.alike A_279.2.1) A_279.2.2 hin_285 hat_286 (g := (mkF m 178 #[VI p0, VI p1, VI p2, VR a_9, VR a_59, VR a_111, VR a_140, VR a_172, VR a_202, VR a_203, .val (.int (own_ssz p2)), .val (.int ((1 : Int32) + (own_ssz p2))), .unset] [(.int 1), (.ref a_9), (.int (own_gt (own_tx (own_cb p0) (own_cb (own_u8 p0)) p2 (own_cb p1) (own_cb (own_u8 p1))) (1 : Int32)))])) rfl rfl (hb hby at_178) _ ?_
   refine XS.icmpYes X_268.here hx rfl (pc0 := 179) (pc' := 184) rfl (hb hby at_179) rfl (ii_eq_t (own_tx0 _ _ _ _ _).2) (by decide) (by decide) ?_
   refine XS.iloadN X_268.here hx rfl (hb hby at_184) rfl ?_
   refine XS.ifNo X_268.here hx rfl (hb hby at_185) rfl (i0_le_f hc_232) ?_
   exact Steps.refl _
  obtain ⟨q_289, q_290, q_291, q_292, q_293⟩ := isOf (T := T_268) hZ_196 e_277 g_211
  obtain ⟨_, _, ⟨T_288, L_288, k_288, n_288⟩, -, X_288, ⟨Lc_288, hQ_288, l_288, y_288, z_288⟩, st_288⟩ := X_268.virtualBack hx (y := M186) (z := M186) hown_196 (mvT hZ_196 (w246 hw)) (mvT hZ_196 (w247 hw)) (notFace_of_selects (args := #[]) (mvT hZ_196 (w249 hw))) (mvT hZ_196 (w249 hw)) (mvT hZ_196 (w248 hw)) (by decide) (backOf (W := 0) (rm_chs l Z a0 hw [] G1 G3 g1 kg1 g2 kg2 uS sS HG T_196.heap n0 O_220 a_203 a_204 k_205 (own_tl p2) (own_tx (own_cb p0) (own_cb (own_u8 p0)) p2 (own_cb p1) (own_cb (own_u8 p1))) (2 : Int32) g_211 g_212 g_213 g_214 (by decide) (own_small p2).2.2.1 (own_txlen _ _ _ _ _) (own_txlat ⟨own_cb_lo _, own_cb_hi _⟩ ⟨own_cb_lo _, own_cb_hi _⟩ ⟨own_cb_lo _, own_cb_hi _⟩ ⟨own_cb_lo _, own_cb_hi _⟩)) hZ_196 (w250 hw) (w3 hw) (by decide) (by decide)) q_291 q_293 (g := (mkF m 191 #[VI p0, VI p1, VI p2, VR a_9, VR a_59, VR a_111, VR a_140, VR a_172, VR a_202, VR a_203, .val (.int (own_ssz p2)), .val (.int ((1 : Int32) + (own_ssz p2))), .unset] [(.int 2), (.ref a_203)])) rfl (by rw [hml]; rfl) (Steps.refl _) (argsL := [(.int 2)]) (rest := []) (lenOf pd_1065 rfl) rfl (by show 2 * 0 + _ ≤ _; exact Nat.le_of_eq rfl) (hb hby at_191) (fun _ _ => ⟨rfl, e_277, (by decide : 22 + 0 ≤ _), (by decide : 2945 + 0 ≤ _)⟩)
  dsimp only [Pt.U, Pt.locs, Pt.cells, Pt.slots] at X_288 l_288 y_288 z_288 st_288 hQ_288
  have X_288 := own_cast X_288 l_288 y_288 z_288
  obtain ⟨rfl, N_294, e_295⟩ := hQ_288
  have N_296 := Fr.app N_276 N_294
  have e_297 : T_288.heap = T_196.heap := e_295
  obtain ⟨_, _, ⟨T_298, L_298, k_298, n_298⟩, -, X_298, ⟨Lc_298, hQ_298, l_298, y_298, z_298⟩, st_298⟩ := Jvm.LawKit.callS X_288 hx (y := M1040) hown_196 (mvT hZ_196 (w268 hw)) (mvT hZ_196 (w269 hw)) (mvT hZ_196 (w238 hw)) (mvT hZ_196 (w270 hw)) (by decide) (backOf (W := 0) (rm_dok l Z a0 hw [] G1 G3 g1 kg1 g2 kg2 uS sS HG T_196.heap n0 O_220 a_203 a_204 k_205 (own_cb p0) (own_cb (own_u8 p0)) p2 (own_cb p1) (own_cb (own_u8 p1)) (0 : Int32) g_211 g_212 g_213 g_214 hc_232 (by decide) (own_txlat ⟨own_cb_lo _, own_cb_hi _⟩ ⟨own_cb_lo _, own_cb_hi _⟩ ⟨own_cb_lo _, own_cb_hi _⟩ ⟨own_cb_lo _, own_cb_hi _⟩)) hZ_196 (w270 hw) (w238 hw) (by decide) (by decide)) (g := (mkF m 207 #[VI p0, VI p1, VI p2, VR a_9, VR a_59, VR a_111, VR a_140, VR a_172, VR a_202, VR a_203, .val (.int (own_ssz p2)), .val (.int ((1 : Int32) + (own_ssz p2))), .unset] [(.int 0), (.int (own_ssz p2)), (.int p2), (.ref a_203)])) rfl (by rw [hml]; rfl) (argsL := [(.ref a_203), (.int p2), (.int (own_ssz p2)), (.int 0)]) (rest := []) (lenOf pd_1111 rfl) rfl (by show 2 * 0 + _ ≤ _; exact Nat.le_of_eq rfl) (hb hby at_207) (fun _ _ => ⟨rfl, e_297, (by decide : 22 + 0 ≤ _), (by decide : 2945 + 0 ≤ _)⟩)
  dsimp only [Pt.U, Pt.locs, Pt.cells, Pt.slots] at X_298 l_298 y_298 z_298 st_298 hQ_298
  have X_298 := own_cast X_298 l_298 y_298 z_298
  obtain ⟨rfl, N_299, e_300⟩ := hQ_298
  have N_301 := Fr.app N_296 N_299
  have e_302 : T_298.heap = T_196.heap := e_300
  obtain ⟨_, _, ⟨T_303, L_303, k_303, n_303⟩, -, X_303, ⟨Lc_303, hQ_303, l_303, y_303, z_303⟩, st_303⟩ := Jvm.LawKit.callS X_298 hx (y := M1040) hown_196 (mvT hZ_196 (w268 hw)) (mvT hZ_196 (w269 hw)) (mvT hZ_196 (w238 hw)) (mvT hZ_196 (w270 hw)) (by decide) (backOf (W := 0) (rm_dok l Z a0 hw [] G1 G3 g1 kg1 g2 kg2 uS sS HG T_196.heap n0 O_220 a_203 a_204 k_205 (own_cb p0) (own_cb (own_u8 p0)) p2 (own_cb p1) (own_cb (own_u8 p1)) (1 : Int32) g_211 g_212 g_213 g_214 hc_232 (by decide) (own_txlat ⟨own_cb_lo _, own_cb_hi _⟩ ⟨own_cb_lo _, own_cb_hi _⟩ ⟨own_cb_lo _, own_cb_hi _⟩ ⟨own_cb_lo _, own_cb_hi _⟩)) hZ_196 (w270 hw) (w238 hw) (by decide) (by decide)) (g := (mkF m 219 #[VI p0, VI p1, VI p2, VR a_9, VR a_59, VR a_111, VR a_140, VR a_172, VR a_202, VR a_203, .val (.int (own_ssz p2)), .val (.int ((1 : Int32) + (own_ssz p2))), .unset] [(.int 1), (.int (own_ssz p2)), (.int p2), (.ref a_203)])) rfl (by rw [hml]; rfl) (argsL := [(.ref a_203), (.int p2), (.int (own_ssz p2)), (.int 1)]) (rest := []) (lenOf pd_1111 rfl) rfl (by show 2 * 0 + _ ≤ _; exact Nat.le_of_eq rfl) (hb hby at_219) (fun _ _ => ⟨rfl, e_302, (by decide : 22 + 0 ≤ _), (by decide : 2945 + 0 ≤ _)⟩)
  dsimp only [Pt.U, Pt.locs, Pt.cells, Pt.slots] at X_303 l_303 y_303 z_303 st_303 hQ_303
  have X_303 := own_cast X_303 l_303 y_303 z_303
  obtain ⟨rfl, N_304, e_305⟩ := hQ_303
  have N_306 := Fr.app N_301 N_304
  have e_307 : T_303.heap = T_196.heap := e_305
  obtain ⟨_, _, ⟨T_308, L_308, k_308, n_308⟩, -, X_308, ⟨Lc_308, hQ_308, l_308, y_308, z_308⟩, st_308⟩ := Jvm.LawKit.callS X_303 hx (y := M1040) hown_196 (mvT hZ_196 (w268 hw)) (mvT hZ_196 (w269 hw)) (mvT hZ_196 (w238 hw)) (mvT hZ_196 (w270 hw)) (by decide) (backOf (W := 0) (rm_dok l Z a0 hw [] G1 G3 g1 kg1 g2 kg2 uS sS HG T_196.heap n0 O_220 a_203 a_204 k_205 (own_cb p0) (own_cb (own_u8 p0)) p2 (own_cb p1) (own_cb (own_u8 p1)) (2 : Int32) g_211 g_212 g_213 g_214 hc_232 (by decide) (own_txlat ⟨own_cb_lo _, own_cb_hi _⟩ ⟨own_cb_lo _, own_cb_hi _⟩ ⟨own_cb_lo _, own_cb_hi _⟩ ⟨own_cb_lo _, own_cb_hi _⟩)) hZ_196 (w270 hw) (w238 hw) (by decide) (by decide)) (g := (mkF m 231 #[VI p0, VI p1, VI p2, VR a_9, VR a_59, VR a_111, VR a_140, VR a_172, VR a_202, VR a_203, .val (.int (own_ssz p2)), .val (.int ((1 : Int32) + (own_ssz p2))), .unset] [(.int 2), (.int (own_ssz p2)), (.int p2), (.ref a_203)])) rfl (by rw [hml]; rfl) (argsL := [(.ref a_203), (.int p2), (.int (own_ssz p2)), (.int 2)]) (rest := []) (lenOf pd_1111 rfl) rfl (by show 2 * 0 + _ ≤ _; exact Nat.le_of_eq rfl) (hb hby at_231) (fun _ _ => ⟨rfl, e_307, (by decide : 22 + 0 ≤ _), (by decide : 2945 + 0 ≤ _)⟩)
  dsimp only [Pt.U, Pt.locs, Pt.cells, Pt.slots] at X_308 l_308 y_308 z_308 st_308 hQ_308
  have X_308 := own_cast X_308 l_308 y_308 z_308
  obtain ⟨rfl, N_309, e_310⟩ := hQ_308
  have N_311 := Fr.app N_306 N_309
  have e_312 : T_308.heap = T_196.heap := e_310
  obtain ⟨_, _, ⟨T_313, L_313, k_313, n_313⟩, -, X_313, ⟨Lc_313, hQ_313, l_313, y_313, z_313⟩, st_313⟩ := Jvm.LawKit.callS X_308 hx (y := M1040) hown_196 (mvT hZ_196 (w268 hw)) (mvT hZ_196 (w269 hw)) (mvT hZ_196 (w238 hw)) (mvT hZ_196 (w270 hw)) (by decide) (backOf (W := 0) (rm_dok l Z a0 hw [] G1 G3 g1 kg1 g2 kg2 uS sS HG T_196.heap n0 O_220 a_203 a_204 k_205 (own_cb p0) (own_cb (own_u8 p0)) p2 (own_cb p1) (own_cb (own_u8 p1)) (3 : Int32) g_211 g_212 g_213 g_214 hc_232 (by decide) (own_txlat ⟨own_cb_lo _, own_cb_hi _⟩ ⟨own_cb_lo _, own_cb_hi _⟩ ⟨own_cb_lo _, own_cb_hi _⟩ ⟨own_cb_lo _, own_cb_hi _⟩)) hZ_196 (w270 hw) (w238 hw) (by decide) (by decide)) (g := (mkF m 243 #[VI p0, VI p1, VI p2, VR a_9, VR a_59, VR a_111, VR a_140, VR a_172, VR a_202, VR a_203, .val (.int (own_ssz p2)), .val (.int ((1 : Int32) + (own_ssz p2))), .unset] [(.int 3), (.int (own_ssz p2)), (.int p2), (.ref a_203)])) rfl (by rw [hml]; rfl) (argsL := [(.ref a_203), (.int p2), (.int (own_ssz p2)), (.int 3)]) (rest := []) (lenOf pd_1111 rfl) rfl (by show 2 * 0 + _ ≤ _; exact Nat.le_of_eq rfl) (hb hby at_243) (fun _ _ => ⟨rfl, e_312, (by decide : 22 + 0 ≤ _), (by decide : 2945 + 0 ≤ _)⟩)
  dsimp only [Pt.U, Pt.locs, Pt.cells, Pt.slots] at X_313 l_313 y_313 z_313 st_313 hQ_313
  have X_313 := own_cast X_313 l_313 y_313 z_313
  obtain ⟨rfl, N_314, e_315⟩ := hQ_313
  have N_316 := Fr.app N_311 N_314
  have e_317 : T_313.heap = T_196.heap := e_315
  obtain ⟨_, _, ⟨T_318, L_318, k_318, n_318⟩, -, X_318, ⟨Lc_318, hQ_318, l_318, y_318, z_318⟩, st_318⟩ := Jvm.LawKit.callS X_313 hx (y := M1040) hown_196 (mvT hZ_196 (w268 hw)) (mvT hZ_196 (w269 hw)) (mvT hZ_196 (w238 hw)) (mvT hZ_196 (w270 hw)) (by decide) (backOf (W := 0) (rm_dok l Z a0 hw [] G1 G3 g1 kg1 g2 kg2 uS sS HG T_196.heap n0 O_220 a_203 a_204 k_205 (own_cb p0) (own_cb (own_u8 p0)) p2 (own_cb p1) (own_cb (own_u8 p1)) (4 : Int32) g_211 g_212 g_213 g_214 hc_232 (by decide) (own_txlat ⟨own_cb_lo _, own_cb_hi _⟩ ⟨own_cb_lo _, own_cb_hi _⟩ ⟨own_cb_lo _, own_cb_hi _⟩ ⟨own_cb_lo _, own_cb_hi _⟩)) hZ_196 (w270 hw) (w238 hw) (by decide) (by decide)) (g := (mkF m 255 #[VI p0, VI p1, VI p2, VR a_9, VR a_59, VR a_111, VR a_140, VR a_172, VR a_202, VR a_203, .val (.int (own_ssz p2)), .val (.int ((1 : Int32) + (own_ssz p2))), .unset] [(.int 4), (.int (own_ssz p2)), (.int p2), (.ref a_203)])) rfl (by rw [hml]; rfl) (argsL := [(.ref a_203), (.int p2), (.int (own_ssz p2)), (.int 4)]) (rest := []) (lenOf pd_1111 rfl) rfl (by show 2 * 0 + _ ≤ _; exact Nat.le_of_eq rfl) (hb hby at_255) (fun _ _ => ⟨rfl, e_317, (by decide : 22 + 0 ≤ _), (by decide : 2945 + 0 ≤ _)⟩)
  dsimp only [Pt.U, Pt.locs, Pt.cells, Pt.slots] at X_318 l_318 y_318 z_318 st_318 hQ_318
  have X_318 := own_cast X_318 l_318 y_318 z_318
  obtain ⟨rfl, N_319, e_320⟩ := hQ_318
  have N_321 := Fr.app N_316 N_319
  have e_322 : T_318.heap = T_196.heap := e_320
  have C_323 : Steps p.tables e below S0 (T_318.setTop (mkF m 263 #[VI p0, VI p1, VI p2, VR a_9, VR a_59, VR a_111, VR a_140, VR a_172, VR a_202, VR a_203, .val (.int (own_ssz p2)), .val (.int ((1 : Int32) + (own_ssz p2))), .unset] [(.ref a_203)])) := by
   refine C_287.trans ?_
   refine XS.aload X_268.here hx rfl (hb hby at_188) rfl rfl ?_
   refine XS.iconst X_268.here hx rfl (hb hby at_190) ?_
   refine st_288.trans ?_
   refine XS.bipush X_288.here hx rfl (hb hby at_194) ?_
   refine XS.icmpYes X_288.here hx rfl (pc0 := 196) (pc' := 201) rfl (hb hby at_196) rfl (ii_eq_t (own_tx2 hc_232)) (by decide) (by decide) ?_
   refine XS.aload X_288.here hx rfl (hb hby at_201) rfl rfl ?_
   refine XS.iloadN X_288.here hx rfl (hb hby at_203) rfl ?_
   refine XS.iload X_288.here hx rfl (hb hby at_204) rfl ?_
   show Steps p.tables e below (T_288.setTop (mkF m 206 #[VI p0, VI p1, VI p2, VR a_9, VR a_59, VR a_111, VR a_140, VR a_172, VR a_202, VR a_203, .val (.int (own_ssz p2)), .val (.int ((1 : Int32) + (own_ssz p2))), .unset] [(.int (own_ssz p2)), (.int p2), (.ref a_203)])) _
   refine XS.iconst X_288.here hx rfl (hb hby at_206) ?_
   refine st_298 _ ?_
   refine XS.ifNo X_298.here hx rfl (hb hby at_210) rfl (by decide) ?_
   refine XS.aload X_298.here hx rfl (hb hby at_213) rfl rfl ?_
   refine XS.iloadN X_298.here hx rfl (hb hby at_215) rfl ?_
   refine XS.iload X_298.here hx rfl (hb hby at_216) rfl ?_
   refine XS.iconst X_298.here hx rfl (hb hby at_218) ?_
   refine st_303 _ ?_
   show Steps p.tables e below (T_303.setTop (mkF m 222 #[VI p0, VI p1, VI p2, VR a_9, VR a_59, VR a_111, VR a_140, VR a_172, VR a_202, VR a_203, .val (.int (own_ssz p2)), .val (.int ((1 : Int32) + (own_ssz p2))), .unset] [(.int 1)])) _
   refine XS.ifNo X_303.here hx rfl (hb hby at_222) rfl (by decide) ?_
   refine XS.aload X_303.here hx rfl (hb hby at_225) rfl rfl ?_
   refine XS.iloadN X_303.here hx rfl (hb hby at_227) rfl ?_
   refine XS.iload X_303.here hx rfl (hb hby at_228) rfl ?_
   refine XS.iconst X_303.here hx rfl (hb hby at_230) ?_
   refine st_308 _ ?_
   refine XS.ifNo X_308.here hx rfl (hb hby at_234) rfl (by decide) ?_
   refine XS.aload X_308.here hx rfl (hb hby at_237) rfl rfl ?_
   show Steps p.tables e below (T_308.setTop (mkF m 239 #[VI p0, VI p1, VI p2, VR a_9, VR a_59, VR a_111, VR a_140, VR a_172, VR a_202, VR a_203, .val (.int (own_ssz p2)), .val (.int ((1 : Int32) + (own_ssz p2))), .unset] [(.ref a_203)])) _
   refine XS.iloadN X_308.here hx rfl (hb hby at_239) rfl ?_
   refine XS.iload X_308.here hx rfl (hb hby at_240) rfl ?_
   refine XS.iconst X_308.here hx rfl (hb hby at_242) ?_
   refine st_313 _ ?_
   refine XS.ifNo X_313.here hx rfl (hb hby at_246) rfl (by decide) ?_
   refine XS.aload X_313.here hx rfl (hb hby at_249) rfl rfl ?_
   refine XS.iloadN X_313.here hx rfl (hb hby at_251) rfl ?_
   refine XS.iload X_313.here hx rfl (hb hby at_252) rfl ?_
   show Steps p.tables e below (T_313.setTop (mkF m 254 #[VI p0, VI p1, VI p2, VR a_9, VR a_59, VR a_111, VR a_140, VR a_172, VR a_202, VR a_203, .val (.int (own_ssz p2)), .val (.int ((1 : Int32) + (own_ssz p2))), .unset] [(.int (own_ssz p2)), (.int p2), (.ref a_203)])) _
   refine XS.iconst X_313.here hx rfl (hb hby at_254) ?_
   refine st_318 _ ?_
   refine XS.ifNo X_318.here hx rfl (hb hby at_258) rfl (by decide) ?_
   refine XS.aload X_318.here hx rfl (hb hby at_261) rfl rfl ?_
   exact Steps.refl _
  obtain ⟨_, _, ⟨T_324, L_324, k_324, n_324⟩, -, X_324, ⟨Lc_324, hQ_324, l_324, y_324, z_324⟩, st_324⟩ := Jvm.LawKit.callS X_318 hx (y := M1040) hown_196 (mvT hZ_196 (w268 hw)) (mvT hZ_196 (w269 hw)) (mvT hZ_196 (w238 hw)) (mvT hZ_196 (w270 hw)) (by decide) (backOf (W := 0) (rm_dok l Z a0 hw [] G1 G3 g1 kg1 g2 kg2 uS sS HG T_196.heap n0 O_220 a_203 a_204 k_205 (own_cb p0) (own_cb (own_u8 p0)) p2 (own_cb p1) (own_cb (own_u8 p1)) (5 : Int32) g_211 g_212 g_213 g_214 hc_232 (by decide) (own_txlat ⟨own_cb_lo _, own_cb_hi _⟩ ⟨own_cb_lo _, own_cb_hi _⟩ ⟨own_cb_lo _, own_cb_hi _⟩ ⟨own_cb_lo _, own_cb_hi _⟩)) hZ_196 (w270 hw) (w238 hw) (by decide) (by decide)) (g := (mkF m 267 #[VI p0, VI p1, VI p2, VR a_9, VR a_59, VR a_111, VR a_140, VR a_172, VR a_202, VR a_203, .val (.int (own_ssz p2)), .val (.int ((1 : Int32) + (own_ssz p2))), .unset] [(.int 5), (.int (own_ssz p2)), (.int p2), (.ref a_203)])) rfl (by rw [hml]; rfl) (argsL := [(.ref a_203), (.int p2), (.int (own_ssz p2)), (.int 5)]) (rest := []) (lenOf pd_1111 rfl) rfl (by show 2 * 0 + _ ≤ _; exact Nat.le_of_eq rfl) (hb hby at_267) (fun _ _ => ⟨rfl, e_322, (by decide : 22 + 0 ≤ _), (by decide : 2945 + 0 ≤ _)⟩)
  dsimp only [Pt.U, Pt.locs, Pt.cells, Pt.slots] at X_324 l_324 y_324 z_324 st_324 hQ_324
  have X_324 := own_cast X_324 l_324 y_324 z_324
  obtain ⟨rfl, N_325, e_326⟩ := hQ_324
  have N_327 := Fr.app N_321 N_325
  have e_328 : T_324.heap = T_196.heap := e_326
  obtain ⟨_, _, ⟨T_329, L_329, k_329, n_329⟩, -, X_329, ⟨Lc_329, hQ_329, l_329, y_329, z_329⟩, st_329⟩ := Jvm.LawKit.callS X_324 hx (y := M1040) hown_196 (mvT hZ_196 (w268 hw)) (mvT hZ_196 (w269 hw)) (mvT hZ_196 (w238 hw)) (mvT hZ_196 (w270 hw)) (by decide) (backOf (W := 0) (rm_dok l Z a0 hw [] G1 G3 g1 kg1 g2 kg2 uS sS HG T_196.heap n0 O_220 a_203 a_204 k_205 (own_cb p0) (own_cb (own_u8 p0)) p2 (own_cb p1) (own_cb (own_u8 p1)) (6 : Int32) g_211 g_212 g_213 g_214 hc_232 (by decide) (own_txlat ⟨own_cb_lo _, own_cb_hi _⟩ ⟨own_cb_lo _, own_cb_hi _⟩ ⟨own_cb_lo _, own_cb_hi _⟩ ⟨own_cb_lo _, own_cb_hi _⟩)) hZ_196 (w270 hw) (w238 hw) (by decide) (by decide)) (g := (mkF m 280 #[VI p0, VI p1, VI p2, VR a_9, VR a_59, VR a_111, VR a_140, VR a_172, VR a_202, VR a_203, .val (.int (own_ssz p2)), .val (.int ((1 : Int32) + (own_ssz p2))), .unset] [(.int 6), (.int (own_ssz p2)), (.int p2), (.ref a_203)])) rfl (by rw [hml]; rfl) (argsL := [(.ref a_203), (.int p2), (.int (own_ssz p2)), (.int 6)]) (rest := []) (lenOf pd_1111 rfl) rfl (by show 2 * 0 + _ ≤ _; exact Nat.le_of_eq rfl) (hb hby at_280) (fun _ _ => ⟨rfl, e_328, (by decide : 22 + 0 ≤ _), (by decide : 2945 + 0 ≤ _)⟩)
  dsimp only [Pt.U, Pt.locs, Pt.cells, Pt.slots] at X_329 l_329 y_329 z_329 st_329 hQ_329
  have X_329 := own_cast X_329 l_329 y_329 z_329
  obtain ⟨rfl, N_330, e_331⟩ := hQ_329
  have N_332 := Fr.app N_327 N_330
  have e_333 : T_329.heap = T_196.heap := e_331
  obtain ⟨_, _, ⟨T_334, L_334, k_334, n_334⟩, -, X_334, ⟨Lc_334, hQ_334, l_334, y_334, z_334⟩, st_334⟩ := Jvm.LawKit.callS X_329 hx (y := M1040) hown_196 (mvT hZ_196 (w268 hw)) (mvT hZ_196 (w269 hw)) (mvT hZ_196 (w238 hw)) (mvT hZ_196 (w270 hw)) (by decide) (backOf (W := 0) (rm_dok l Z a0 hw [] G1 G3 g1 kg1 g2 kg2 uS sS HG T_196.heap n0 O_220 a_203 a_204 k_205 (own_cb p0) (own_cb (own_u8 p0)) p2 (own_cb p1) (own_cb (own_u8 p1)) (7 : Int32) g_211 g_212 g_213 g_214 hc_232 (by decide) (own_txlat ⟨own_cb_lo _, own_cb_hi _⟩ ⟨own_cb_lo _, own_cb_hi _⟩ ⟨own_cb_lo _, own_cb_hi _⟩ ⟨own_cb_lo _, own_cb_hi _⟩)) hZ_196 (w270 hw) (w238 hw) (by decide) (by decide)) (g := (mkF m 293 #[VI p0, VI p1, VI p2, VR a_9, VR a_59, VR a_111, VR a_140, VR a_172, VR a_202, VR a_203, .val (.int (own_ssz p2)), .val (.int ((1 : Int32) + (own_ssz p2))), .unset] [(.int 7), (.int (own_ssz p2)), (.int p2), (.ref a_203)])) rfl (by rw [hml]; rfl) (argsL := [(.ref a_203), (.int p2), (.int (own_ssz p2)), (.int 7)]) (rest := []) (lenOf pd_1111 rfl) rfl (by show 2 * 0 + _ ≤ _; exact Nat.le_of_eq rfl) (hb hby at_293) (fun _ _ => ⟨rfl, e_333, (by decide : 22 + 0 ≤ _), (by decide : 2945 + 0 ≤ _)⟩)
  dsimp only [Pt.U, Pt.locs, Pt.cells, Pt.slots] at X_334 l_334 y_334 z_334 st_334 hQ_334
  have X_334 := own_cast X_334 l_334 y_334 z_334
  obtain ⟨rfl, N_335, e_336⟩ := hQ_334
  have N_337 := Fr.app N_332 N_335
  have e_338 : T_334.heap = T_196.heap := e_336
  obtain ⟨_, _, ⟨T_339, L_339, k_339, n_339⟩, -, X_339, ⟨Lc_339, hQ_339, l_339, y_339, z_339⟩, st_339⟩ := Jvm.LawKit.callS X_334 hx (y := M1040) hown_196 (mvT hZ_196 (w268 hw)) (mvT hZ_196 (w269 hw)) (mvT hZ_196 (w238 hw)) (mvT hZ_196 (w270 hw)) (by decide) (backOf (W := 0) (rm_dok l Z a0 hw [] G1 G3 g1 kg1 g2 kg2 uS sS HG T_196.heap n0 O_220 a_203 a_204 k_205 (own_cb p0) (own_cb (own_u8 p0)) p2 (own_cb p1) (own_cb (own_u8 p1)) (8 : Int32) g_211 g_212 g_213 g_214 hc_232 (by decide) (own_txlat ⟨own_cb_lo _, own_cb_hi _⟩ ⟨own_cb_lo _, own_cb_hi _⟩ ⟨own_cb_lo _, own_cb_hi _⟩ ⟨own_cb_lo _, own_cb_hi _⟩)) hZ_196 (w270 hw) (w238 hw) (by decide) (by decide)) (g := (mkF m 306 #[VI p0, VI p1, VI p2, VR a_9, VR a_59, VR a_111, VR a_140, VR a_172, VR a_202, VR a_203, .val (.int (own_ssz p2)), .val (.int ((1 : Int32) + (own_ssz p2))), .unset] [(.int 8), (.int (own_ssz p2)), (.int p2), (.ref a_203)])) rfl (by rw [hml]; rfl) (argsL := [(.ref a_203), (.int p2), (.int (own_ssz p2)), (.int 8)]) (rest := []) (lenOf pd_1111 rfl) rfl (by show 2 * 0 + _ ≤ _; exact Nat.le_of_eq rfl) (hb hby at_306) (fun _ _ => ⟨rfl, e_338, (by decide : 22 + 0 ≤ _), (by decide : 2945 + 0 ≤ _)⟩)
  dsimp only [Pt.U, Pt.locs, Pt.cells, Pt.slots] at X_339 l_339 y_339 z_339 st_339 hQ_339
  have X_339 := own_cast X_339 l_339 y_339 z_339
  obtain ⟨rfl, N_340, e_341⟩ := hQ_339
  have N_342 := Fr.app N_337 N_340
  have e_343 : T_339.heap = T_196.heap := e_341
  obtain ⟨_, _, ⟨T_344, L_344, k_344, n_344⟩, -, X_344, ⟨Lc_344, hQ_344, l_344, y_344, z_344⟩, st_344⟩ := Jvm.LawKit.callS X_339 hx (y := M1040) hown_196 (mvT hZ_196 (w268 hw)) (mvT hZ_196 (w269 hw)) (mvT hZ_196 (w238 hw)) (mvT hZ_196 (w270 hw)) (by decide) (backOf (W := 0) (rm_dok l Z a0 hw [] G1 G3 g1 kg1 g2 kg2 uS sS HG T_196.heap n0 O_220 a_203 a_204 k_205 (own_cb p0) (own_cb (own_u8 p0)) p2 (own_cb p1) (own_cb (own_u8 p1)) (9 : Int32) g_211 g_212 g_213 g_214 hc_232 (by decide) (own_txlat ⟨own_cb_lo _, own_cb_hi _⟩ ⟨own_cb_lo _, own_cb_hi _⟩ ⟨own_cb_lo _, own_cb_hi _⟩ ⟨own_cb_lo _, own_cb_hi _⟩)) hZ_196 (w270 hw) (w238 hw) (by decide) (by decide)) (g := (mkF m 319 #[VI p0, VI p1, VI p2, VR a_9, VR a_59, VR a_111, VR a_140, VR a_172, VR a_202, VR a_203, .val (.int (own_ssz p2)), .val (.int ((1 : Int32) + (own_ssz p2))), .unset] [(.int 9), (.int (own_ssz p2)), (.int p2), (.ref a_203)])) rfl (by rw [hml]; rfl) (argsL := [(.ref a_203), (.int p2), (.int (own_ssz p2)), (.int 9)]) (rest := []) (lenOf pd_1111 rfl) rfl (by show 2 * 0 + _ ≤ _; exact Nat.le_of_eq rfl) (hb hby at_319) (fun _ _ => ⟨rfl, e_343, (by decide : 22 + 0 ≤ _), (by decide : 2945 + 0 ≤ _)⟩)
  dsimp only [Pt.U, Pt.locs, Pt.cells, Pt.slots] at X_344 l_344 y_344 z_344 st_344 hQ_344
  have X_344 := own_cast X_344 l_344 y_344 z_344
  obtain ⟨rfl, N_345, e_346⟩ := hQ_344
  have N_347 := Fr.app N_342 N_345
  have e_348 : T_344.heap = T_196.heap := e_346
  obtain ⟨q_350, q_351, q_352, q_353, q_354⟩ := isOf (T := T_344) hZ_196 e_348 g_211
  obtain ⟨_, _, ⟨T_349, L_349, k_349, n_349⟩, -, X_349, ⟨Lc_349, hQ_349, l_349, y_349, z_349⟩, st_349⟩ := X_344.virtualBack hx (y := M186) (z := M186) hown_196 (mvT hZ_196 (w246 hw)) (mvT hZ_196 (w247 hw)) (notFace_of_selects (args := #[]) (mvT hZ_196 (w249 hw))) (mvT hZ_196 (w249 hw)) (mvT hZ_196 (w248 hw)) (by decide) (backOf (W := 0) (rm_chs l Z a0 hw [] G1 G3 g1 kg1 g2 kg2 uS sS HG T_196.heap n0 O_220 a_203 a_204 k_205 (own_tl p2) (own_tx (own_cb p0) (own_cb (own_u8 p0)) p2 (own_cb p1) (own_cb (own_u8 p1))) ((2 : Int32) + ((1 : Int32) + (own_ssz p2))) g_211 g_212 g_213 g_214 (own_pp p2).2 (own_pin hc_232).1.1 (own_txlen _ _ _ _ _) (own_txlat ⟨own_cb_lo _, own_cb_hi _⟩ ⟨own_cb_lo _, own_cb_hi _⟩ ⟨own_cb_lo _, own_cb_hi _⟩ ⟨own_cb_lo _, own_cb_hi _⟩)) hZ_196 (w250 hw) (w3 hw) (by decide) (by decide)) q_352 q_354 (g := (mkF m 337 #[VI p0, VI p1, VI p2, VR a_9, VR a_59, VR a_111, VR a_140, VR a_172, VR a_202, VR a_203, .val (.int (own_ssz p2)), .val (.int ((1 : Int32) + (own_ssz p2))), .val (.int ((2 : Int32) + ((1 : Int32) + (own_ssz p2))))] [(.int ((2 : Int32) + ((1 : Int32) + (own_ssz p2)))), (.ref a_203)])) rfl (by rw [hml]; rfl) (Steps.refl _) (argsL := [(.int ((2 : Int32) + ((1 : Int32) + (own_ssz p2))))]) (rest := []) (lenOf pd_1065 rfl) rfl (by show 2 * 0 + _ ≤ _; exact Nat.le_of_eq rfl) (hb hby at_337) (fun _ _ => ⟨rfl, e_348, (by decide : 22 + 0 ≤ _), (by decide : 2945 + 0 ≤ _)⟩)
  dsimp only [Pt.U, Pt.locs, Pt.cells, Pt.slots] at X_349 l_349 y_349 z_349 st_349 hQ_349
  have X_349 := own_cast X_349 l_349 y_349 z_349
  obtain ⟨rfl, N_355, e_356⟩ := hQ_349
  have N_357 := Fr.app N_347 N_355
  have e_358 : T_349.heap = T_196.heap := e_356
  have C_359 : Steps p.tables e below S0 (T_349.setTop (mkF m 340 #[VI p0, VI p1, VI p2, VR a_9, VR a_59, VR a_111, VR a_140, VR a_172, VR a_202, VR a_203, .val (.int (own_ssz p2)), .val (.int ((1 : Int32) + (own_ssz p2))), .val (.int ((2 : Int32) + ((1 : Int32) + (own_ssz p2))))] [(.int (own_gt (own_tx (own_cb p0) (own_cb (own_u8 p0)) p2 (own_cb p1) (own_cb (own_u8 p1))) ((2 : Int32) + ((1 : Int32) + (own_ssz p2)))))])) := by
   refine C_323.trans ?_
   refine XS.iloadN X_318.here hx rfl (hb hby at_263) rfl ?_
   refine XS.iload X_318.here hx rfl (hb hby at_264) rfl ?_
   refine XS.iconst X_318.here hx rfl (hb hby at_266) ?_
   refine st_324 _ ?_
   refine XS.ifNo X_324.here hx rfl (hb hby at_270) rfl (by decide) ?_
   refine XS.aload X_324.here hx rfl (hb hby at_273) rfl rfl ?_
   refine XS.iloadN X_324.here hx rfl (hb hby at_275) rfl ?_
   refine XS.iload X_324.here hx rfl (hb hby at_276) rfl ?_
   show Steps p.tables e below (T_324.setTop (mkF m 278 #[VI p0, VI p1, VI p2, VR a_9, VR a_59, VR a_111, VR a_140, VR a_172, VR a_202, VR a_203, .val (.int (own_ssz p2)), .val (.int ((1 : Int32) + (own_ssz p2))), .unset] [(.int (own_ssz p2)), (.int p2), (.ref a_203)])) _
   refine XS.bipush X_324.here hx rfl (hb hby at_278) ?_
   refine st_329 _ ?_
   refine XS.ifNo X_329.here hx rfl (hb hby at_283) rfl (by decide) ?_
   refine XS.aload X_329.here hx rfl (hb hby at_286) rfl rfl ?_
   refine XS.iloadN X_329.here hx rfl (hb hby at_288) rfl ?_
   refine XS.iload X_329.here hx rfl (hb hby at_289) rfl ?_
   refine XS.bipush X_329.here hx rfl (hb hby at_291) ?_
   refine st_334 _ ?_
   show Steps p.tables e below (T_334.setTop (mkF m 296 #[VI p0, VI p1, VI p2, VR a_9, VR a_59, VR a_111, VR a_140, VR a_172, VR a_202, VR a_203, .val (.int (own_ssz p2)), .val (.int ((1 : Int32) + (own_ssz p2))), .unset] [(.int 1)])) _
   refine XS.ifNo X_334.here hx rfl (hb hby at_296) rfl (by decide) ?_
   refine XS.aload X_334.here hx rfl (hb hby at_299) rfl rfl ?_
   refine XS.iloadN X_334.here hx rfl (hb hby at_301) rfl ?_
   refine XS.iload X_334.here hx rfl (hb hby at_302) rfl ?_
   refine XS.bipush X_334.here hx rfl (hb hby at_304) ?_
   refine st_339 _ ?_
   refine XS.ifNo X_339.here hx rfl (hb hby at_309) rfl (by decide) ?_
   refine XS.aload X_339.here hx rfl (hb hby at_312) rfl rfl ?_
   show Steps p.tables e below (T_339.setTop (mkF m 314 #[VI p0, VI p1, VI p2, VR a_9, VR a_59, VR a_111, VR a_140, VR a_172, VR a_202, VR a_203, .val (.int (own_ssz p2)), .val (.int ((1 : Int32) + (own_ssz p2))), .unset] [(.ref a_203)])) _
   refine XS.iloadN X_339.here hx rfl (hb hby at_314) rfl ?_
   refine XS.iload X_339.here hx rfl (hb hby at_315) rfl ?_
   refine XS.bipush X_339.here hx rfl (hb hby at_317) ?_
   refine st_344 _ ?_
   refine XS.ifYes X_344.here hx rfl (pc0 := 322) (pc' := 327) rfl (hb hby at_322) rfl (by decide) (by decide) (by decide) ?_
   refine XS.iconst X_344.here hx rfl (hb hby at_327) ?_
   refine XS.iload X_344.here hx rfl (hb hby at_328) rfl ?_
   refine XS.iadd X_344.here hx rfl (hb hby at_330) rfl ?_
   show Steps p.tables e below (T_344.setTop (mkF m 331 #[VI p0, VI p1, VI p2, VR a_9, VR a_59, VR a_111, VR a_140, VR a_172, VR a_202, VR a_203, .val (.int (own_ssz p2)), .val (.int ((1 : Int32) + (own_ssz p2))), .unset] [(.int ((2 : Int32) + ((1 : Int32) + (own_ssz p2))))])) _
   refine XS.istore X_344.here hx rfl (hb hby at_331) rfl (l' := #[VI p0, VI p1, VI p2, VR a_9, VR a_59, VR a_111, VR a_140, VR a_172, VR a_202, VR a_203, .val (.int (own_ssz p2)), .val (.int ((1 : Int32) + (own_ssz p2))), .val (.int ((2 : Int32) + ((1 : Int32) + (own_ssz p2))))]) rfl ?_
   refine XS.aload X_344.here hx rfl (hb hby at_333) rfl rfl ?_
   refine XS.iload X_344.here hx rfl (hb hby at_335) rfl ?_
   refine st_349.trans ?_
   exact Steps.refl _
  obtain ⟨q_361, q_362, q_363, q_364, q_365⟩ := isOf (T := T_349) hZ_196 e_358 g_211
  obtain ⟨_, _, ⟨T_360, L_360, k_360, n_360⟩, -, X_360, ⟨Lc_360, hQ_360, l_360, y_360, z_360⟩, st_360⟩ := X_349.virtualBack hx (y := M186) (z := M186) hown_196 (mvT hZ_196 (w246 hw)) (mvT hZ_196 (w247 hw)) (notFace_of_selects (args := #[]) (mvT hZ_196 (w249 hw))) (mvT hZ_196 (w249 hw)) (mvT hZ_196 (w248 hw)) (by decide) (backOf (W := 0) (rm_chs l Z a0 hw [] G1 G3 g1 kg1 g2 kg2 uS sS HG T_196.heap n0 O_220 a_203 a_204 k_205 (own_tl p2) (own_tx (own_cb p0) (own_cb (own_u8 p0)) p2 (own_cb p1) (own_cb (own_u8 p1))) (((2 : Int32) + ((1 : Int32) + (own_ssz p2))) + (1 : Int32)) g_211 g_212 g_213 g_214 (own_pge p2).1 (own_pin hc_232).1.2 (own_txlen _ _ _ _ _) (own_txlat ⟨own_cb_lo _, own_cb_hi _⟩ ⟨own_cb_lo _, own_cb_hi _⟩ ⟨own_cb_lo _, own_cb_hi _⟩ ⟨own_cb_lo _, own_cb_hi _⟩)) hZ_196 (w250 hw) (w3 hw) (by decide) (by decide)) q_363 q_365 (g := (mkF m 351 #[VI p0, VI p1, VI p2, VR a_9, VR a_59, VR a_111, VR a_140, VR a_172, VR a_202, VR a_203, .val (.int (own_ssz p2)), .val (.int ((1 : Int32) + (own_ssz p2))), .val (.int ((2 : Int32) + ((1 : Int32) + (own_ssz p2))))] [(.int (((2 : Int32) + ((1 : Int32) + (own_ssz p2))) + (1 : Int32))), (.ref a_203)])) rfl (by rw [hml]; rfl) (Steps.refl _) (argsL := [(.int (((2 : Int32) + ((1 : Int32) + (own_ssz p2))) + (1 : Int32)))]) (rest := []) (lenOf pd_1065 rfl) rfl (by show 2 * 0 + _ ≤ _; exact Nat.le_of_eq rfl) (hb hby at_351) (fun _ _ => ⟨rfl, e_358, (by decide : 22 + 0 ≤ _), (by decide : 2945 + 0 ≤ _)⟩)
  dsimp only [Pt.U, Pt.locs, Pt.cells, Pt.slots] at X_360 l_360 y_360 z_360 st_360 hQ_360
  have X_360 := own_cast X_360 l_360 y_360 z_360
  obtain ⟨rfl, N_366, e_367⟩ := hQ_360
  have N_368 := Fr.app N_357 N_366
  have e_369 : T_360.heap = T_196.heap := e_367
  obtain ⟨q_371, q_372, q_373, q_374, q_375⟩ := isOf (T := T_360) hZ_196 e_369 g_211
  obtain ⟨_, _, ⟨T_370, L_370, k_370, n_370⟩, -, X_370, ⟨Lc_370, hQ_370, l_370, y_370, z_370⟩, st_370⟩ := X_360.virtualBack hx (y := M186) (z := M186) hown_196 (mvT hZ_196 (w246 hw)) (mvT hZ_196 (w247 hw)) (notFace_of_selects (args := #[]) (mvT hZ_196 (w249 hw))) (mvT hZ_196 (w249 hw)) (mvT hZ_196 (w248 hw)) (by decide) (backOf (W := 0) (rm_chs l Z a0 hw [] G1 G3 g1 kg1 g2 kg2 uS sS HG T_196.heap n0 O_220 a_203 a_204 k_205 (own_tl p2) (own_tx (own_cb p0) (own_cb (own_u8 p0)) p2 (own_cb p1) (own_cb (own_u8 p1))) (((2 : Int32) + ((1 : Int32) + (own_ssz p2))) + (2 : Int32)) g_211 g_212 g_213 g_214 (own_pge p2).2.1 (own_pin hc_232).2.1 (own_txlen _ _ _ _ _) (own_txlat ⟨own_cb_lo _, own_cb_hi _⟩ ⟨own_cb_lo _, own_cb_hi _⟩ ⟨own_cb_lo _, own_cb_hi _⟩ ⟨own_cb_lo _, own_cb_hi _⟩)) hZ_196 (w250 hw) (w3 hw) (by decide) (by decide)) q_373 q_375 (g := (mkF m 365 #[VI p0, VI p1, VI p2, VR a_9, VR a_59, VR a_111, VR a_140, VR a_172, VR a_202, VR a_203, .val (.int (own_ssz p2)), .val (.int ((1 : Int32) + (own_ssz p2))), .val (.int ((2 : Int32) + ((1 : Int32) + (own_ssz p2))))] [(.int (((2 : Int32) + ((1 : Int32) + (own_ssz p2))) + (2 : Int32))), (.ref a_203)])) rfl (by rw [hml]; rfl) (Steps.refl _) (argsL := [(.int (((2 : Int32) + ((1 : Int32) + (own_ssz p2))) + (2 : Int32)))]) (rest := []) (lenOf pd_1065 rfl) rfl (by show 2 * 0 + _ ≤ _; exact Nat.le_of_eq rfl) (hb hby at_365) (fun _ _ => ⟨rfl, e_369, (by decide : 22 + 0 ≤ _), (by decide : 2945 + 0 ≤ _)⟩)
  dsimp only [Pt.U, Pt.locs, Pt.cells, Pt.slots] at X_370 l_370 y_370 z_370 st_370 hQ_370
  have X_370 := own_cast X_370 l_370 y_370 z_370
  obtain ⟨rfl, N_376, e_377⟩ := hQ_370
  have N_378 := Fr.app N_368 N_376
  have e_379 : T_370.heap = T_196.heap := e_377
  have V_380 : Arv Z T_196.heap a_59 k_53 .char (2 : Int32) [(.int (own_cb p1)), (.int (own_cb (own_u8 p1)))] (.int 0) := ((((V_146.keep K_152 (ninS (Nat.ne_of_lt (Nat.lt_of_lt_of_le V_102.lt (Nat.le_trans (Nat.le_trans E_107.1 K_123.1) (Nat.le_of_eq g_141.symm)))) nin0)).ext E_168).keep K_181 (ninS (Nat.ne_of_lt (Nat.lt_of_lt_of_le V_102.lt (Nat.le_trans (Nat.le_trans (Nat.le_trans (Nat.le_trans E_107.1 K_123.1) E_136.1) K_152.1) (Nat.le_of_eq g_173.symm)))) nin0)).keep K_207 nin0)
  obtain ⟨c_381, A_382, q_383, S_384, M_385, H_386, U_387⟩ := id V_380
  have hin_388 : ¬ ((0 : Int32) < 0 ∨ c_381.slots.size ≤ (0 : Int32).toNatClampNeg) := inb_of S_384 ⟨(by decide : ¬ ((0 : Int32) < (0 : Int32))), (by decide : (0 : Int32) < (2 : Int32))⟩
  have hat_389 : c_381.slots[(0 : Int32).toNatClampNeg]? = some (.int (own_cb p1)) := Has.at H_386 hin_388 rfl
  obtain ⟨q_391, q_392, q_393, q_394, q_395⟩ := isOf (T := T_370) hZ_196 e_379 g_211
  obtain ⟨_, _, ⟨T_390, L_390, k_390, n_390⟩, -, X_390, ⟨Lc_390, hQ_390, l_390, y_390, z_390⟩, st_390⟩ := X_370.virtualBack hx (y := M186) (z := M186) hown_196 (mvT hZ_196 (w246 hw)) (mvT hZ_196 (w247 hw)) (notFace_of_selects (args := #[]) (mvT hZ_196 (w249 hw))) (mvT hZ_196 (w249 hw)) (mvT hZ_196 (w248 hw)) (by decide) (backOf (W := 0) (rm_chs l Z a0 hw [] G1 G3 g1 kg1 g2 kg2 uS sS HG T_196.heap n0 O_220 a_203 a_204 k_205 (own_tl p2) (own_tx (own_cb p0) (own_cb (own_u8 p0)) p2 (own_cb p1) (own_cb (own_u8 p1))) (((2 : Int32) + ((1 : Int32) + (own_ssz p2))) + (3 : Int32)) g_211 g_212 g_213 g_214 (own_pge p2).2.2 (own_pin hc_232).2.2 (own_txlen _ _ _ _ _) (own_txlat ⟨own_cb_lo _, own_cb_hi _⟩ ⟨own_cb_lo _, own_cb_hi _⟩ ⟨own_cb_lo _, own_cb_hi _⟩ ⟨own_cb_lo _, own_cb_hi _⟩)) hZ_196 (w250 hw) (w3 hw) (by decide) (by decide)) q_393 q_395 (g := (mkF m 381 #[VI p0, VI p1, VI p2, VR a_9, VR a_59, VR a_111, VR a_140, VR a_172, VR a_202, VR a_203, .val (.int (own_ssz p2)), .val (.int ((1 : Int32) + (own_ssz p2))), .val (.int ((2 : Int32) + ((1 : Int32) + (own_ssz p2))))] [(.int (((2 : Int32) + ((1 : Int32) + (own_ssz p2))) + (3 : Int32))), (.ref a_203)])) rfl (by rw [hml]; rfl) (Steps.refl _) (argsL := [(.int (((2 : Int32) + ((1 : Int32) + (own_ssz p2))) + (3 : Int32)))]) (rest := []) (lenOf pd_1065 rfl) rfl (by show 2 * 0 + _ ≤ _; exact Nat.le_of_eq rfl) (hb hby at_381) (fun _ _ => ⟨rfl, e_379, (by decide : 22 + 0 ≤ _), (by decide : 2945 + 0 ≤ _)⟩)
  dsimp only [Pt.U, Pt.locs, Pt.cells, Pt.slots] at X_390 l_390 y_390 z_390 st_390 hQ_390
  have X_390 := own_cast X_390 l_390 y_390 z_390
  obtain ⟨rfl, N_396, e_397⟩ := hQ_390
  have N_398 := Fr.app N_378 N_396
  have e_399 : T_390.heap = T_196.heap := e_397
  obtain ⟨c_400, A_401, q_402, S_403, M_404, H_405, U_406⟩ := id V_380
  have hin_407 : ¬ ((1 : Int32) < 0 ∨ c_400.slots.size ≤ (1 : Int32).toNatClampNeg) := inb_of S_403 ⟨(by decide : ¬ ((1 : Int32) < (0 : Int32))), (by decide : (1 : Int32) < (2 : Int32))⟩
  have hat_408 : c_400.slots[(1 : Int32).toNatClampNeg]? = some (.int (own_cb (own_u8 p1))) := Has.at H_405 hin_407 rfl
  have C_409 : Steps p.tables e below S0 (T_390.setTop (mkF m 396 #[VI p0, VI p1, VI p2, VR a_9, VR a_59, VR a_111, VR a_140, VR a_172, VR a_202, VR a_203, .val (.int (own_ssz p2)), .val (.int ((1 : Int32) + (own_ssz p2))), .val (.int ((2 : Int32) + ((1 : Int32) + (own_ssz p2))))] [(.int 1)])) := by
   refine C_359.trans ?_
   refine XS.bipush X_349.here hx rfl (hb hby at_340) ?_
   refine XS.icmpNo X_349.here hx rfl (hb hby at_342) rfl (ii_ne_f (own_txPs hc_232).1) ?_
   refine XS.aload X_349.here hx rfl (hb hby at_345) rfl rfl ?_
   refine XS.iload X_349.here hx rfl (hb hby at_347) rfl ?_
   refine XS.iconst X_349.here hx rfl (hb hby at_349) ?_
   refine XS.iadd X_349.here hx rfl (hb hby at_350) rfl ?_
   refine st_360.trans ?_
   refine XS.bipush X_360.here hx rfl (hb hby at_354) ?_
   show Steps p.tables e below (T_360.setTop (mkF m 356 #[VI p0, VI p1, VI p2, VR a_9, VR a_59, VR a_111, VR a_140, VR a_172, VR a_202, VR a_203, .val (.int (own_ssz p2)), .val (.int ((1 : Int32) + (own_ssz p2))), .val (.int ((2 : Int32) + ((1 : Int32) + (own_ssz p2))))] [(.int 32), (.int (own_gt (own_tx (own_cb p0) (own_cb (own_u8 p0)) p2 (own_cb p1) (own_cb (own_u8 p1))) (((2 : Int32) + ((1 : Int32) + (own_ssz p2))) + (1 : Int32))))])) _
   refine XS.icmpNo X_360.here hx rfl (hb hby at_356) rfl (ii_ne_f (own_txPs hc_232).2.1) ?_
   refine XS.aload X_360.here hx rfl (hb hby at_359) rfl rfl ?_
   refine XS.iload X_360.here hx rfl (hb hby at_361) rfl ?_
   refine XS.iconst X_360.here hx rfl (hb hby at_363) ?_
   refine XS.iadd X_360.here hx rfl (hb hby at_364) rfl ?_
   refine st_370.trans ?_
   refine XS.aload X_370.here hx rfl (hb hby at_368) rfl rfl ?_
   refine XS.iconst X_370.here hx rfl (hb hby at_370) ?_
   show Steps p.tables e below (T_370.setTop (mkF m 371 #[VI p0, VI p1, VI p2, VR a_9, VR a_59, VR a_111, VR a_140, VR a_172, VR a_202, VR a_203, .val (.int (own_ssz p2)), .val (.int ((1 : Int32) + (own_ssz p2))), .val (.int ((2 : Int32) + ((1 : Int32) + (own_ssz p2))))] [(.int 0), (.ref a_59), (.int (own_gt (own_tx (own_cb p0) (own_cb (own_u8 p0)) p2 (own_cb p1) (own_cb (own_u8 p1))) (((2 : Int32) + ((1 : Int32) + (own_ssz p2))) + (2 : Int32))))])) _
   refine X_370.caload hx (j := (0 : Int32)) (v := (.int (own_cb p1))) (by rw [e_379]; exact A_382.1) (State.isArrayOf_alike hZ_196.alike A_382.2.1) A_382.2.2 hin_388 hat_389 (g := (mkF m 371 #[VI p0, VI p1, VI p2, VR a_9, VR a_59, VR a_111, VR a_140, VR a_172, VR a_202, VR a_203, .val (.int (own_ssz p2)), .val (.int ((1 : Int32) + (own_ssz p2))), .val (.int ((2 : Int32) + ((1 : Int32) + (own_ssz p2))))] [(.int 0), (.ref a_59), (.int (own_gt (own_tx (own_cb p0) (own_cb (own_u8 p0)) p2 (own_cb p1) (own_cb (own_u8 p1))) (((2 : Int32) + ((1 : Int32) + (own_ssz p2))) + (2 : Int32))))])) rfl rfl (hb hby at_371) _ ?_
   refine XS.icmpNo X_370.here hx rfl (hb hby at_372) rfl (ii_ne_f (own_txPs hc_232).2.2.1) ?_
   refine XS.aload X_370.here hx rfl (hb hby at_375) rfl rfl ?_
   refine XS.iload X_370.here hx rfl (hb hby at_377) rfl ?_
   refine XS.iconst X_370.here hx rfl (hb hby at_379) ?_
   refine XS.iadd X_370.here hx rfl (hb hby at_380) rfl ?_
   refine st_390.trans ?_
   refine XS.aload X_390.here hx rfl (hb hby at_384) rfl rfl ?_
   show Steps p.tables e below (T_390.setTop (mkF m 386 #[VI p0, VI p1, VI p2, VR a_9, VR a_59, VR a_111, VR a_140, VR a_172, VR a_202, VR a_203, .val (.int (own_ssz p2)), .val (.int ((1 : Int32) + (own_ssz p2))), .val (.int ((2 : Int32) + ((1 : Int32) + (own_ssz p2))))] [(.ref a_59), (.int (own_gt (own_tx (own_cb p0) (own_cb (own_u8 p0)) p2 (own_cb p1) (own_cb (own_u8 p1))) (((2 : Int32) + ((1 : Int32) + (own_ssz p2))) + (3 : Int32))))])) _
   refine XS.iconst X_390.here hx rfl (hb hby at_386) ?_
   refine X_390.caload hx (j := (1 : Int32)) (v := (.int (own_cb (own_u8 p1)))) (by rw [e_399]; exact A_401.1) (State.isArrayOf_alike hZ_196.alike A_401.2.1) A_401.2.2 hin_407 hat_408 (g := (mkF m 387 #[VI p0, VI p1, VI p2, VR a_9, VR a_59, VR a_111, VR a_140, VR a_172, VR a_202, VR a_203, .val (.int (own_ssz p2)), .val (.int ((1 : Int32) + (own_ssz p2))), .val (.int ((2 : Int32) + ((1 : Int32) + (own_ssz p2))))] [(.int 1), (.ref a_59), (.int (own_gt (own_tx (own_cb p0) (own_cb (own_u8 p0)) p2 (own_cb p1) (own_cb (own_u8 p1))) (((2 : Int32) + ((1 : Int32) + (own_ssz p2))) + (3 : Int32))))])) rfl rfl (hb hby at_387) _ ?_
   refine XS.icmpNo X_390.here hx rfl (hb hby at_388) rfl (ii_ne_f (own_txPs hc_232).2.2.2) ?_
   refine XS.iconst X_390.here hx rfl (hb hby at_391) ?_
   refine XS.goto X_390.here hx rfl (pc0 := 392) (pc' := 396) rfl (hb hby at_392) (by decide) (by decide) ?_
   exact Steps.refl _
  have K_410 : Keep h0 T_196.heap [] := ((((((((((((((Keep.refl _ _).ext E_6).wr W_26 (Or.inr (Nat.le_trans (Nat.le_refl _) (Nat.le_of_eq g_10.symm)))).wr W_44 (Or.inr (Nat.le_trans (Nat.le_refl _) (Nat.le_of_eq g_10.symm)))).ext E_56).wr W_76 (Or.inr (Nat.le_trans (Nat.le_trans (Nat.le_trans E_6.1 (Keep.of_wr W_26).1) (Keep.of_wr W_44).1) (Nat.le_of_eq g_60.symm)))).wr W_96 (Or.inr (Nat.le_trans (Nat.le_trans (Nat.le_trans E_6.1 (Keep.of_wr W_26).1) (Keep.of_wr W_44).1) (Nat.le_of_eq g_60.symm)))).ext E_107).trans K_123 (allS (Or.inr (Nat.le_trans (Nat.le_trans (Nat.le_trans (Nat.le_trans (Nat.le_trans (Nat.le_trans E_6.1 (Keep.of_wr W_26).1) (Keep.of_wr W_44).1) E_56.1) (Keep.of_wr W_76).1) (Keep.of_wr W_96).1) (Nat.le_of_eq g_112.symm))) all0)).ext E_136).trans K_152 (allS (Or.inr (Nat.le_trans (Nat.le_trans (Nat.le_trans (Nat.le_trans (Nat.le_trans (Nat.le_trans (Nat.le_trans (Nat.le_trans E_6.1 (Keep.of_wr W_26).1) (Keep.of_wr W_44).1) E_56.1) (Keep.of_wr W_76).1) (Keep.of_wr W_96).1) E_107.1) K_123.1) (Nat.le_of_eq g_141.symm))) all0)).ext E_168).trans K_181 (allS (Or.inr (Nat.le_trans (Nat.le_trans (Nat.le_trans (Nat.le_trans (Nat.le_trans (Nat.le_trans (Nat.le_trans (Nat.le_trans (Nat.le_trans (Nat.le_trans E_6.1 (Keep.of_wr W_26).1) (Keep.of_wr W_44).1) E_56.1) (Keep.of_wr W_76).1) (Keep.of_wr W_96).1) E_107.1) K_123.1) E_136.1) K_152.1) (Nat.le_of_eq g_173.symm))) all0)).trans K_207 all0)
  obtain ⟨fs, hr, hrun, hended, hRE⟩ := X_390.leaveW hS_196 (by rw [show T_390.heap = T_196.heap from e_399]; exact (Nat.le_refl _)) (v := some (.int 1)) (fun h => by rw [Bd.returns] at h; cases h)
  refine ⟨_, _, C_409.trans (retN X_390 hx (t := .boolean) Bd.returns (by simp) (hb hby at_396) hr), hrun, hended, _, _, rfl, ?_, ?_, hRE.1, hRE.2.1, hRE.2.2.1, hRE.2.2.2.mono (by decide) (by decide)⟩
  ·show Q_law Z G1 G3 g1 kg1 g2 kg2 uS sS p0 p1 p2 h0 n0 (some (.int 1)) T_390.heap _
   rw [e_399]
   exact ⟨rfl, N_398, K_410⟩
  ·show CHr Z consts_1 s.vm s.heap T_390.vm T_390.heap
   rw [hh, show T_390.heap = T_196.heap from e_399]
   exact CR_217.trans (CHv.at X_390 hZ_196 hEL CH_216)
 ·skip
  obtain ⟨q_412, q_413, q_414, q_415, q_416⟩ := isOf (T := T_221) hZ_196 e_230 g_211
  obtain ⟨_, _, ⟨T_411, L_411, k_411, n_411⟩, -, X_411, ⟨Lc_411, hQ_411, l_411, y_411, z_411⟩, st_411⟩ := X_221.virtualBack hx (y := M131) (z := M131) hown_196 (mvT hZ_196 (w245 hw)) (mvT hZ_196 (w79 hw)) (notFace_of_selects (args := #[]) (mvT hZ_196 (w81 hw))) (mvT hZ_196 (w81 hw)) (mvT hZ_196 (w80 hw)) (by decide) (backOf (W := 0) (rm_lens l Z a0 hw [] G1 G3 g1 kg1 g2 kg2 uS sS HG T_196.heap n0 O_220 a_203 a_204 k_205 (own_tl p2) (own_iv (own_bs (own_tx (own_cb p0) (own_cb (own_u8 p0)) p2 (own_cb p1) (own_cb (own_u8 p1))))) g_211 g_212 g_213 g_214) hZ_196 (w82 hw) (w3 hw) (by decide) (by decide)) q_414 q_416 (g := (mkF m 144 #[VI p0, VI p1, VI p2, VR a_9, VR a_59, VR a_111, VR a_140, VR a_172, VR a_202, VR a_203, VI 0, VI 0, .unset] [(.ref a_203)])) rfl (by rw [hml]; rfl) (Steps.refl _) (argsL := []) (rest := []) (lenOf pd_442 rfl) rfl (by show 2 * 0 + _ ≤ _; exact Nat.le_of_eq rfl) (hb hby at_144) (fun _ _ => ⟨rfl, e_230, (by decide : 22 + 0 ≤ _), (by decide : 2945 + 0 ≤ _)⟩)
  dsimp only [Pt.U, Pt.locs, Pt.cells, Pt.slots] at X_411 l_411 y_411 z_411 st_411 hQ_411
  have X_411 := own_cast X_411 l_411 y_411 z_411
  obtain ⟨rfl, N_417, e_418⟩ := hQ_411
  have N_419 := Fr.app N_229 N_417
  have e_420 : T_411.heap = T_196.heap := e_418
  obtain ⟨q_422, q_423, q_424, q_425, q_426⟩ := isOf (T := T_411) hZ_196 e_420 g_211
  obtain ⟨_, _, ⟨T_421, L_421, k_421, n_421⟩, -, X_421, ⟨Lc_421, hQ_421, l_421, y_421, z_421⟩, st_421⟩ := X_411.virtualBack hx (y := M186) (z := M186) hown_196 (mvT hZ_196 (w246 hw)) (mvT hZ_196 (w247 hw)) (notFace_of_selects (args := #[]) (mvT hZ_196 (w249 hw))) (mvT hZ_196 (w249 hw)) (mvT hZ_196 (w248 hw)) (by decide) (backOf (W := 0) (rm_chs l Z a0 hw [] G1 G3 g1 kg1 g2 kg2 uS sS HG T_196.heap n0 O_220 a_203 a_204 k_205 (own_tl p2) (own_tx (own_cb p0) (own_cb (own_u8 p0)) p2 (own_cb p1) (own_cb (own_u8 p1))) (0 : Int32) g_211 g_212 g_213 g_214 (by decide) (own_small p2).1 (own_txlen _ _ _ _ _) (own_txlat ⟨own_cb_lo _, own_cb_hi _⟩ ⟨own_cb_lo _, own_cb_hi _⟩ ⟨own_cb_lo _, own_cb_hi _⟩ ⟨own_cb_lo _, own_cb_hi _⟩)) hZ_196 (w250 hw) (w3 hw) (by decide) (by decide)) q_424 q_426 (g := (mkF m 161 #[VI p0, VI p1, VI p2, VR a_9, VR a_59, VR a_111, VR a_140, VR a_172, VR a_202, VR a_203, VI 0, VI 0, .unset] [(.int 0), (.ref a_203)])) rfl (by rw [hml]; rfl) (Steps.refl _) (argsL := [(.int 0)]) (rest := []) (lenOf pd_1065 rfl) rfl (by show 2 * 0 + _ ≤ _; exact Nat.le_of_eq rfl) (hb hby at_161) (fun _ _ => ⟨rfl, e_420, (by decide : 22 + 0 ≤ _), (by decide : 2945 + 0 ≤ _)⟩)
  dsimp only [Pt.U, Pt.locs, Pt.cells, Pt.slots] at X_421 l_421 y_421 z_421 st_421 hQ_421
  have X_421 := own_cast X_421 l_421 y_421 z_421
  obtain ⟨rfl, N_427, e_428⟩ := hQ_421
  have N_429 := Fr.app N_419 N_427
  have e_430 : T_421.heap = T_196.heap := e_428
  have V_431 : Arv Z T_196.heap a_9 k_3 .char (2 : Int32) [(.int (own_cb p0)), (.int (own_cb (own_u8 p0)))] (.int 0) := ((((((V_117.keep K_123 (ninS (Nat.ne_of_lt (Nat.lt_of_lt_of_le V_50.lt (Nat.le_trans (Nat.le_trans (Nat.le_trans E_56.1 (Keep.of_wr W_76).1) (Keep.of_wr W_96).1) (Nat.le_of_eq g_112.symm)))) nin0)).ext E_136).keep K_152 (ninS (Nat.ne_of_lt (Nat.lt_of_lt_of_le V_50.lt (Nat.le_trans (Nat.le_trans (Nat.le_trans (Nat.le_trans (Nat.le_trans E_56.1 (Keep.of_wr W_76).1) (Keep.of_wr W_96).1) E_107.1) K_123.1) (Nat.le_of_eq g_141.symm)))) nin0)).ext E_168).keep K_181 (ninS (Nat.ne_of_lt (Nat.lt_of_lt_of_le V_50.lt (Nat.le_trans (Nat.le_trans (Nat.le_trans (Nat.le_trans (Nat.le_trans (Nat.le_trans (Nat.le_trans E_56.1 (Keep.of_wr W_76).1) (Keep.of_wr W_96).1) E_107.1) K_123.1) E_136.1) K_152.1) (Nat.le_of_eq g_173.symm)))) nin0)).keep K_207 nin0)
  obtain ⟨c_432, A_433, q_434, S_435, M_436, H_437, U_438⟩ := id V_431
  have hin_439 : ¬ ((0 : Int32) < 0 ∨ c_432.slots.size ≤ (0 : Int32).toNatClampNeg) := inb_of S_435 ⟨(by decide : ¬ ((0 : Int32) < (0 : Int32))), (by decide : (0 : Int32) < (2 : Int32))⟩
  have hat_440 : c_432.slots[(0 : Int32).toNatClampNeg]? = some (.int (own_cb p0)) := Has.at H_437 hin_439 rfl
  obtain ⟨q_442, q_443, q_444, q_445, q_446⟩ := isOf (T := T_421) hZ_196 e_430 g_211
  obtain ⟨_, _, ⟨T_441, L_441, k_441, n_441⟩, -, X_441, ⟨Lc_441, hQ_441, l_441, y_441, z_441⟩, st_441⟩ := X_421.virtualBack hx (y := M186) (z := M186) hown_196 (mvT hZ_196 (w246 hw)) (mvT hZ_196 (w247 hw)) (notFace_of_selects (args := #[]) (mvT hZ_196 (w249 hw))) (mvT hZ_196 (w249 hw)) (mvT hZ_196 (w248 hw)) (by decide) (backOf (W := 0) (rm_chs l Z a0 hw [] G1 G3 g1 kg1 g2 kg2 uS sS HG T_196.heap n0 O_220 a_203 a_204 k_205 (own_tl p2) (own_tx (own_cb p0) (own_cb (own_u8 p0)) p2 (own_cb p1) (own_cb (own_u8 p1))) (1 : Int32) g_211 g_212 g_213 g_214 (by decide) (own_small p2).2.1 (own_txlen _ _ _ _ _) (own_txlat ⟨own_cb_lo _, own_cb_hi _⟩ ⟨own_cb_lo _, own_cb_hi _⟩ ⟨own_cb_lo _, own_cb_hi _⟩ ⟨own_cb_lo _, own_cb_hi _⟩)) hZ_196 (w250 hw) (w3 hw) (by decide) (by decide)) q_444 q_446 (g := (mkF m 173 #[VI p0, VI p1, VI p2, VR a_9, VR a_59, VR a_111, VR a_140, VR a_172, VR a_202, VR a_203, VI 0, VI 0, .unset] [(.int 1), (.ref a_203)])) rfl (by rw [hml]; rfl) (Steps.refl _) (argsL := [(.int 1)]) (rest := []) (lenOf pd_1065 rfl) rfl (by show 2 * 0 + _ ≤ _; exact Nat.le_of_eq rfl) (hb hby at_173) (fun _ _ => ⟨rfl, e_430, (by decide : 22 + 0 ≤ _), (by decide : 2945 + 0 ≤ _)⟩)
  dsimp only [Pt.U, Pt.locs, Pt.cells, Pt.slots] at X_441 l_441 y_441 z_441 st_441 hQ_441
  have X_441 := own_cast X_441 l_441 y_441 z_441
  obtain ⟨rfl, N_447, e_448⟩ := hQ_441
  have N_449 := Fr.app N_429 N_447
  have e_450 : T_441.heap = T_196.heap := e_448
  obtain ⟨c_451, A_452, q_453, S_454, M_455, H_456, U_457⟩ := id V_431
  have hin_458 : ¬ ((1 : Int32) < 0 ∨ c_451.slots.size ≤ (1 : Int32).toNatClampNeg) := inb_of S_454 ⟨(by decide : ¬ ((1 : Int32) < (0 : Int32))), (by decide : (1 : Int32) < (2 : Int32))⟩
  have hat_459 : c_451.slots[(1 : Int32).toNatClampNeg]? = some (.int (own_cb (own_u8 p0))) := Has.at H_456 hin_458 rfl
  have C_460 : Steps p.tables e below S0 (T_441.setTop (mkF m 335 #[VI p0, VI p1, VI p2, VR a_9, VR a_59, VR a_111, VR a_140, VR a_172, VR a_202, VR a_203, VI 0, VI 0, VI 2] [(.ref a_203)])) := by
   refine C_231.trans ?_
   refine XS.ifYes X_221.here hx rfl (pc0 := 115) (pc' := 125) rfl (hb hby at_115) rfl (i0_le_t hc_232) (by decide) (by decide) ?_
   refine XS.iconst X_221.here hx rfl (hb hby at_125) ?_
   refine XS.istore X_221.here hx rfl (hb hby at_126) rfl (l' := #[VI p0, VI p1, VI p2, VR a_9, VR a_59, VR a_111, VR a_140, VR a_172, VR a_202, VR a_203, VI 0, .unset, .unset]) rfl ?_
   refine XS.iloadN X_221.here hx rfl (hb hby at_128) rfl ?_
   refine XS.ifYes X_221.here hx rfl (pc0 := 129) (pc' := 139) rfl (hb hby at_129) rfl (i0_le_t hc_232) (by decide) (by decide) ?_
   refine XS.iconst X_221.here hx rfl (hb hby at_139) ?_
   refine XS.istore X_221.here hx rfl (hb hby at_140) rfl (l' := #[VI p0, VI p1, VI p2, VR a_9, VR a_59, VR a_111, VR a_140, VR a_172, VR a_202, VR a_203, VI 0, VI 0, .unset]) rfl ?_
   refine XS.aload X_221.here hx rfl (hb hby at_142) rfl rfl ?_
   show Steps p.tables e below (T_221.setTop (mkF m 144 #[VI p0, VI p1, VI p2, VR a_9, VR a_59, VR a_111, VR a_140, VR a_172, VR a_202, VR a_203, VI 0, VI 0, .unset] [(.ref a_203)])) _
   refine st_411.trans ?_
   refine XS.iconst X_411.here hx rfl (hb hby at_147) ?_
   refine XS.iload X_411.here hx rfl (hb hby at_148) rfl ?_
   refine XS.iadd X_411.here hx rfl (hb hby at_150) rfl ?_
   refine XS.iconst X_411.here hx rfl (hb hby at_151) ?_
   refine XS.iadd X_411.here hx rfl (hb hby at_152) rfl ?_
   refine XS.icmpYes X_411.here hx rfl (pc0 := 153) (pc' := 158) rfl (hb hby at_153) rfl (ii_eq_t (own_tlN hc_232)) (by decide) (by decide) ?_
   refine XS.aload X_411.here hx rfl (hb hby at_158) rfl rfl ?_
   show Steps p.tables e below (T_411.setTop (mkF m 160 #[VI p0, VI p1, VI p2, VR a_9, VR a_59, VR a_111, VR a_140, VR a_172, VR a_202, VR a_203, VI 0, VI 0, .unset] [(.ref a_203)])) _
   refine XS.iconst X_411.here hx rfl (hb hby at_160) ?_
   refine st_421.trans ?_
   refine XS.aloadN X_421.here hx rfl (hb hby at_164) rfl rfl ?_
   refine XS.iconst X_421.here hx rfl (hb hby at_165) ?_
   refine X_421.caload hx (j := (0 : Int32)) (v := (.int (own_cb p0))) (by rw [e_430]; exact A_433.1) (State.isArrayOf_alike hZ_196.alike A_433.2.1) A_433.2.2 hin_439 hat_440 (g := (mkF m 166 #[VI p0, VI p1, VI p2, VR a_9, VR a_59, VR a_111, VR a_140, VR a_172, VR a_202, VR a_203, VI 0, VI 0, .unset] [(.int 0), (.ref a_9), (.int (own_gt (own_tx (own_cb p0) (own_cb (own_u8 p0)) p2 (own_cb p1) (own_cb (own_u8 p1))) (0 : Int32)))])) rfl rfl (hb hby at_166) _ ?_
   refine XS.icmpNo X_421.here hx rfl (hb hby at_167) rfl (ii_ne_f (own_tx0 _ _ _ _ _).1) ?_
   refine XS.aload X_421.here hx rfl (hb hby at_170) rfl rfl ?_
   refine XS.iconst X_421.here hx rfl (hb hby at_172) ?_
   show Steps p.tables e below (T_421.setTop (mkF m 173 #[VI p0, VI p1, VI p2, VR a_9, VR a_59, VR a_111, VR a_140, VR a_172, VR a_202, VR a_203, VI 0, VI 0, .unset] [(.int 1), (.ref a_203)])) _
   refine st_441.trans ?_
   refine XS.aloadN X_441.here hx rfl (hb hby at_176) rfl rfl ?_
   refine XS.iconst X_441.here hx rfl (hb hby at_177) ?_
   refine X_441.caload hx (j := (1 : Int32)) (v := (.int (own_cb (own_u8 p0)))) (by rw [e_450]; exact A_452.1) (State.isArrayOf_alike hZ_196.alike A_452.2.1) A_452.2.2 hin_458 hat_459 (g := (mkF m 178 #[VI p0, VI p1, VI p2, VR a_9, VR a_59, VR a_111, VR a_140, VR a_172, VR a_202, VR a_203, VI 0, VI 0, .unset] [(.int 1), (.ref a_9), (.int (own_gt (own_tx (own_cb p0) (own_cb (own_u8 p0)) p2 (own_cb p1) (own_cb (own_u8 p1))) (1 : Int32)))])) rfl rfl (hb hby at_178) _ ?_
   refine XS.icmpYes X_441.here hx rfl (pc0 := 179) (pc' := 184) rfl (hb hby at_179) rfl (ii_eq_t (own_tx0 _ _ _ _ _).2) (by decide) (by decide) ?_
   refine XS.iloadN X_441.here hx rfl (hb hby at_184) rfl ?_
   refine XS.ifYes X_441.here hx rfl (pc0 := 185) (pc' := 327) rfl (hb hby at_185) rfl (i0_le_t hc_232) (by decide) (by decide) ?_
   refine XS.iconst X_441.here hx rfl (hb hby at_327) ?_
   show Steps p.tables e below (T_441.setTop (mkF m 328 #[VI p0, VI p1, VI p2, VR a_9, VR a_59, VR a_111, VR a_140, VR a_172, VR a_202, VR a_203, VI 0, VI 0, .unset] [(.int 2)])) _
   refine XS.iload X_441.here hx rfl (hb hby at_328) rfl ?_
   refine XS.iadd X_441.here hx rfl (hb hby at_330) rfl ?_
   refine XS.istore X_441.here hx rfl (hb hby at_331) rfl (l' := #[VI p0, VI p1, VI p2, VR a_9, VR a_59, VR a_111, VR a_140, VR a_172, VR a_202, VR a_203, VI 0, VI 0, VI 2]) rfl ?_
   refine XS.aload X_441.here hx rfl (hb hby at_333) rfl rfl ?_
   exact Steps.refl _
  obtain ⟨q_462, q_463, q_464, q_465, q_466⟩ := isOf (T := T_441) hZ_196 e_450 g_211
  obtain ⟨_, _, ⟨T_461, L_461, k_461, n_461⟩, -, X_461, ⟨Lc_461, hQ_461, l_461, y_461, z_461⟩, st_461⟩ := X_441.virtualBack hx (y := M186) (z := M186) hown_196 (mvT hZ_196 (w246 hw)) (mvT hZ_196 (w247 hw)) (notFace_of_selects (args := #[]) (mvT hZ_196 (w249 hw))) (mvT hZ_196 (w249 hw)) (mvT hZ_196 (w248 hw)) (by decide) (backOf (W := 0) (rm_chs l Z a0 hw [] G1 G3 g1 kg1 g2 kg2 uS sS HG T_196.heap n0 O_220 a_203 a_204 k_205 (own_tl p2) (own_tx (own_cb p0) (own_cb (own_u8 p0)) p2 (own_cb p1) (own_cb (own_u8 p1))) (2 : Int32) g_211 g_212 g_213 g_214 (by decide) (own_small p2).2.2.1 (own_txlen _ _ _ _ _) (own_txlat ⟨own_cb_lo _, own_cb_hi _⟩ ⟨own_cb_lo _, own_cb_hi _⟩ ⟨own_cb_lo _, own_cb_hi _⟩ ⟨own_cb_lo _, own_cb_hi _⟩)) hZ_196 (w250 hw) (w3 hw) (by decide) (by decide)) q_464 q_466 (g := (mkF m 337 #[VI p0, VI p1, VI p2, VR a_9, VR a_59, VR a_111, VR a_140, VR a_172, VR a_202, VR a_203, VI 0, VI 0, VI 2] [(.int 2), (.ref a_203)])) rfl (by rw [hml]; rfl) (Steps.refl _) (argsL := [(.int 2)]) (rest := []) (lenOf pd_1065 rfl) rfl (by show 2 * 0 + _ ≤ _; exact Nat.le_of_eq rfl) (hb hby at_337) (fun _ _ => ⟨rfl, e_450, (by decide : 22 + 0 ≤ _), (by decide : 2945 + 0 ≤ _)⟩)
  dsimp only [Pt.U, Pt.locs, Pt.cells, Pt.slots] at X_461 l_461 y_461 z_461 st_461 hQ_461
  have X_461 := own_cast X_461 l_461 y_461 z_461
  obtain ⟨rfl, N_467, e_468⟩ := hQ_461
  have N_469 := Fr.app N_449 N_467
  have e_470 : T_461.heap = T_196.heap := e_468
  obtain ⟨q_472, q_473, q_474, q_475, q_476⟩ := isOf (T := T_461) hZ_196 e_470 g_211
  obtain ⟨_, _, ⟨T_471, L_471, k_471, n_471⟩, -, X_471, ⟨Lc_471, hQ_471, l_471, y_471, z_471⟩, st_471⟩ := X_461.virtualBack hx (y := M186) (z := M186) hown_196 (mvT hZ_196 (w246 hw)) (mvT hZ_196 (w247 hw)) (notFace_of_selects (args := #[]) (mvT hZ_196 (w249 hw))) (mvT hZ_196 (w249 hw)) (mvT hZ_196 (w248 hw)) (by decide) (backOf (W := 0) (rm_chs l Z a0 hw [] G1 G3 g1 kg1 g2 kg2 uS sS HG T_196.heap n0 O_220 a_203 a_204 k_205 (own_tl p2) (own_tx (own_cb p0) (own_cb (own_u8 p0)) p2 (own_cb p1) (own_cb (own_u8 p1))) (3 : Int32) g_211 g_212 g_213 g_214 (by decide) (own_small p2).2.2.2.1 (own_txlen _ _ _ _ _) (own_txlat ⟨own_cb_lo _, own_cb_hi _⟩ ⟨own_cb_lo _, own_cb_hi _⟩ ⟨own_cb_lo _, own_cb_hi _⟩ ⟨own_cb_lo _, own_cb_hi _⟩)) hZ_196 (w250 hw) (w3 hw) (by decide) (by decide)) q_474 q_476 (g := (mkF m 351 #[VI p0, VI p1, VI p2, VR a_9, VR a_59, VR a_111, VR a_140, VR a_172, VR a_202, VR a_203, VI 0, VI 0, VI 2] [(.int 3), (.ref a_203)])) rfl (by rw [hml]; rfl) (Steps.refl _) (argsL := [(.int 3)]) (rest := []) (lenOf pd_1065 rfl) rfl (by show 2 * 0 + _ ≤ _; exact Nat.le_of_eq rfl) (hb hby at_351) (fun _ _ => ⟨rfl, e_470, (by decide : 22 + 0 ≤ _), (by decide : 2945 + 0 ≤ _)⟩)
  dsimp only [Pt.U, Pt.locs, Pt.cells, Pt.slots] at X_471 l_471 y_471 z_471 st_471 hQ_471
  have X_471 := own_cast X_471 l_471 y_471 z_471
  obtain ⟨rfl, N_477, e_478⟩ := hQ_471
  have N_479 := Fr.app N_469 N_477
  have e_480 : T_471.heap = T_196.heap := e_478
  obtain ⟨q_482, q_483, q_484, q_485, q_486⟩ := isOf (T := T_471) hZ_196 e_480 g_211
  obtain ⟨_, _, ⟨T_481, L_481, k_481, n_481⟩, -, X_481, ⟨Lc_481, hQ_481, l_481, y_481, z_481⟩, st_481⟩ := X_471.virtualBack hx (y := M186) (z := M186) hown_196 (mvT hZ_196 (w246 hw)) (mvT hZ_196 (w247 hw)) (notFace_of_selects (args := #[]) (mvT hZ_196 (w249 hw))) (mvT hZ_196 (w249 hw)) (mvT hZ_196 (w248 hw)) (by decide) (backOf (W := 0) (rm_chs l Z a0 hw [] G1 G3 g1 kg1 g2 kg2 uS sS HG T_196.heap n0 O_220 a_203 a_204 k_205 (own_tl p2) (own_tx (own_cb p0) (own_cb (own_u8 p0)) p2 (own_cb p1) (own_cb (own_u8 p1))) (4 : Int32) g_211 g_212 g_213 g_214 (by decide) (own_small p2).2.2.2.2.1 (own_txlen _ _ _ _ _) (own_txlat ⟨own_cb_lo _, own_cb_hi _⟩ ⟨own_cb_lo _, own_cb_hi _⟩ ⟨own_cb_lo _, own_cb_hi _⟩ ⟨own_cb_lo _, own_cb_hi _⟩)) hZ_196 (w250 hw) (w3 hw) (by decide) (by decide)) q_484 q_486 (g := (mkF m 365 #[VI p0, VI p1, VI p2, VR a_9, VR a_59, VR a_111, VR a_140, VR a_172, VR a_202, VR a_203, VI 0, VI 0, VI 2] [(.int 4), (.ref a_203)])) rfl (by rw [hml]; rfl) (Steps.refl _) (argsL := [(.int 4)]) (rest := []) (lenOf pd_1065 rfl) rfl (by show 2 * 0 + _ ≤ _; exact Nat.le_of_eq rfl) (hb hby at_365) (fun _ _ => ⟨rfl, e_480, (by decide : 22 + 0 ≤ _), (by decide : 2945 + 0 ≤ _)⟩)
  dsimp only [Pt.U, Pt.locs, Pt.cells, Pt.slots] at X_481 l_481 y_481 z_481 st_481 hQ_481
  have X_481 := own_cast X_481 l_481 y_481 z_481
  obtain ⟨rfl, N_487, e_488⟩ := hQ_481
  have N_489 := Fr.app N_479 N_487
  have e_490 : T_481.heap = T_196.heap := e_488
  have V_491 : Arv Z T_196.heap a_59 k_53 .char (2 : Int32) [(.int (own_cb p1)), (.int (own_cb (own_u8 p1)))] (.int 0) := ((((V_146.keep K_152 (ninS (Nat.ne_of_lt (Nat.lt_of_lt_of_le V_102.lt (Nat.le_trans (Nat.le_trans E_107.1 K_123.1) (Nat.le_of_eq g_141.symm)))) nin0)).ext E_168).keep K_181 (ninS (Nat.ne_of_lt (Nat.lt_of_lt_of_le V_102.lt (Nat.le_trans (Nat.le_trans (Nat.le_trans (Nat.le_trans E_107.1 K_123.1) E_136.1) K_152.1) (Nat.le_of_eq g_173.symm)))) nin0)).keep K_207 nin0)
  obtain ⟨c_492, A_493, q_494, S_495, M_496, H_497, U_498⟩ := id V_491
  have hin_499 : ¬ ((0 : Int32) < 0 ∨ c_492.slots.size ≤ (0 : Int32).toNatClampNeg) := inb_of S_495 ⟨(by decide : ¬ ((0 : Int32) < (0 : Int32))), (by decide : (0 : Int32) < (2 : Int32))⟩
  have hat_500 : c_492.slots[(0 : Int32).toNatClampNeg]? = some (.int (own_cb p1)) := Has.at H_497 hin_499 rfl
  obtain ⟨q_502, q_503, q_504, q_505, q_506⟩ := isOf (T := T_481) hZ_196 e_490 g_211
  obtain ⟨_, _, ⟨T_501, L_501, k_501, n_501⟩, -, X_501, ⟨Lc_501, hQ_501, l_501, y_501, z_501⟩, st_501⟩ := X_481.virtualBack hx (y := M186) (z := M186) hown_196 (mvT hZ_196 (w246 hw)) (mvT hZ_196 (w247 hw)) (notFace_of_selects (args := #[]) (mvT hZ_196 (w249 hw))) (mvT hZ_196 (w249 hw)) (mvT hZ_196 (w248 hw)) (by decide) (backOf (W := 0) (rm_chs l Z a0 hw [] G1 G3 g1 kg1 g2 kg2 uS sS HG T_196.heap n0 O_220 a_203 a_204 k_205 (own_tl p2) (own_tx (own_cb p0) (own_cb (own_u8 p0)) p2 (own_cb p1) (own_cb (own_u8 p1))) (5 : Int32) g_211 g_212 g_213 g_214 (by decide) (own_small p2).2.2.2.2.2 (own_txlen _ _ _ _ _) (own_txlat ⟨own_cb_lo _, own_cb_hi _⟩ ⟨own_cb_lo _, own_cb_hi _⟩ ⟨own_cb_lo _, own_cb_hi _⟩ ⟨own_cb_lo _, own_cb_hi _⟩)) hZ_196 (w250 hw) (w3 hw) (by decide) (by decide)) q_504 q_506 (g := (mkF m 381 #[VI p0, VI p1, VI p2, VR a_9, VR a_59, VR a_111, VR a_140, VR a_172, VR a_202, VR a_203, VI 0, VI 0, VI 2] [(.int 5), (.ref a_203)])) rfl (by rw [hml]; rfl) (Steps.refl _) (argsL := [(.int 5)]) (rest := []) (lenOf pd_1065 rfl) rfl (by show 2 * 0 + _ ≤ _; exact Nat.le_of_eq rfl) (hb hby at_381) (fun _ _ => ⟨rfl, e_490, (by decide : 22 + 0 ≤ _), (by decide : 2945 + 0 ≤ _)⟩)
  dsimp only [Pt.U, Pt.locs, Pt.cells, Pt.slots] at X_501 l_501 y_501 z_501 st_501 hQ_501
  have X_501 := own_cast X_501 l_501 y_501 z_501
  obtain ⟨rfl, N_507, e_508⟩ := hQ_501
  have N_509 := Fr.app N_489 N_507
  have e_510 : T_501.heap = T_196.heap := e_508
  obtain ⟨c_511, A_512, q_513, S_514, M_515, H_516, U_517⟩ := id V_491
  have hin_518 : ¬ ((1 : Int32) < 0 ∨ c_511.slots.size ≤ (1 : Int32).toNatClampNeg) := inb_of S_514 ⟨(by decide : ¬ ((1 : Int32) < (0 : Int32))), (by decide : (1 : Int32) < (2 : Int32))⟩
  have hat_519 : c_511.slots[(1 : Int32).toNatClampNeg]? = some (.int (own_cb (own_u8 p1))) := Has.at H_516 hin_518 rfl
  have C_520 : Steps p.tables e below S0 (T_501.setTop (mkF m 396 #[VI p0, VI p1, VI p2, VR a_9, VR a_59, VR a_111, VR a_140, VR a_172, VR a_202, VR a_203, VI 0, VI 0, VI 2] [(.int 1)])) := by
   refine C_460.trans ?_
   refine XS.iload X_441.here hx rfl (hb hby at_335) rfl ?_
   refine st_461.trans ?_
   refine XS.bipush X_461.here hx rfl (hb hby at_340) ?_
   refine XS.icmpNo X_461.here hx rfl (hb hby at_342) rfl (ii_ne_f (own_txNs hc_232).1) ?_
   refine XS.aload X_461.here hx rfl (hb hby at_345) rfl rfl ?_
   refine XS.iload X_461.here hx rfl (hb hby at_347) rfl ?_
   refine XS.iconst X_461.here hx rfl (hb hby at_349) ?_
   refine XS.iadd X_461.here hx rfl (hb hby at_350) rfl ?_
   show Steps p.tables e below (T_461.setTop (mkF m 351 #[VI p0, VI p1, VI p2, VR a_9, VR a_59, VR a_111, VR a_140, VR a_172, VR a_202, VR a_203, VI 0, VI 0, VI 2] [(.int 3), (.ref a_203)])) _
   refine st_471.trans ?_
   refine XS.bipush X_471.here hx rfl (hb hby at_354) ?_
   refine XS.icmpNo X_471.here hx rfl (hb hby at_356) rfl (ii_ne_f (own_txNs hc_232).2.1) ?_
   refine XS.aload X_471.here hx rfl (hb hby at_359) rfl rfl ?_
   refine XS.iload X_471.here hx rfl (hb hby at_361) rfl ?_
   refine XS.iconst X_471.here hx rfl (hb hby at_363) ?_
   refine XS.iadd X_471.here hx rfl (hb hby at_364) rfl ?_
   refine st_481.trans ?_
   show Steps p.tables e below (T_481.setTop (mkF m 368 #[VI p0, VI p1, VI p2, VR a_9, VR a_59, VR a_111, VR a_140, VR a_172, VR a_202, VR a_203, VI 0, VI 0, VI 2] [(.int (own_gt (own_tx (own_cb p0) (own_cb (own_u8 p0)) p2 (own_cb p1) (own_cb (own_u8 p1))) (4 : Int32)))])) _
   refine XS.aload X_481.here hx rfl (hb hby at_368) rfl rfl ?_
   refine XS.iconst X_481.here hx rfl (hb hby at_370) ?_
   refine X_481.caload hx (j := (0 : Int32)) (v := (.int (own_cb p1))) (by rw [e_490]; exact A_493.1) (State.isArrayOf_alike hZ_196.alike A_493.2.1) A_493.2.2 hin_499 hat_500 (g := (mkF m 371 #[VI p0, VI p1, VI p2, VR a_9, VR a_59, VR a_111, VR a_140, VR a_172, VR a_202, VR a_203, VI 0, VI 0, VI 2] [(.int 0), (.ref a_59), (.int (own_gt (own_tx (own_cb p0) (own_cb (own_u8 p0)) p2 (own_cb p1) (own_cb (own_u8 p1))) (4 : Int32)))])) rfl rfl (hb hby at_371) _ ?_
   refine XS.icmpNo X_481.here hx rfl (hb hby at_372) rfl (ii_ne_f (own_txNs hc_232).2.2.1) ?_
   refine XS.aload X_481.here hx rfl (hb hby at_375) rfl rfl ?_
   refine XS.iload X_481.here hx rfl (hb hby at_377) rfl ?_
   refine XS.iconst X_481.here hx rfl (hb hby at_379) ?_
   refine XS.iadd X_481.here hx rfl (hb hby at_380) rfl ?_
   show Steps p.tables e below (T_481.setTop (mkF m 381 #[VI p0, VI p1, VI p2, VR a_9, VR a_59, VR a_111, VR a_140, VR a_172, VR a_202, VR a_203, VI 0, VI 0, VI 2] [(.int 5), (.ref a_203)])) _
   refine st_501.trans ?_
   refine XS.aload X_501.here hx rfl (hb hby at_384) rfl rfl ?_
   refine XS.iconst X_501.here hx rfl (hb hby at_386) ?_
   refine X_501.caload hx (j := (1 : Int32)) (v := (.int (own_cb (own_u8 p1)))) (by rw [e_510]; exact A_512.1) (State.isArrayOf_alike hZ_196.alike A_512.2.1) A_512.2.2 hin_518 hat_519 (g := (mkF m 387 #[VI p0, VI p1, VI p2, VR a_9, VR a_59, VR a_111, VR a_140, VR a_172, VR a_202, VR a_203, VI 0, VI 0, VI 2] [(.int 1), (.ref a_59), (.int (own_gt (own_tx (own_cb p0) (own_cb (own_u8 p0)) p2 (own_cb p1) (own_cb (own_u8 p1))) (5 : Int32)))])) rfl rfl (hb hby at_387) _ ?_
   refine XS.icmpNo X_501.here hx rfl (hb hby at_388) rfl (ii_ne_f (own_txNs hc_232).2.2.2) ?_
   refine XS.iconst X_501.here hx rfl (hb hby at_391) ?_
   refine XS.goto X_501.here hx rfl (pc0 := 392) (pc' := 396) rfl (hb hby at_392) (by decide) (by decide) ?_
   exact Steps.refl _
  have K_521 : Keep h0 T_196.heap [] := ((((((((((((((Keep.refl _ _).ext E_6).wr W_26 (Or.inr (Nat.le_trans (Nat.le_refl _) (Nat.le_of_eq g_10.symm)))).wr W_44 (Or.inr (Nat.le_trans (Nat.le_refl _) (Nat.le_of_eq g_10.symm)))).ext E_56).wr W_76 (Or.inr (Nat.le_trans (Nat.le_trans (Nat.le_trans E_6.1 (Keep.of_wr W_26).1) (Keep.of_wr W_44).1) (Nat.le_of_eq g_60.symm)))).wr W_96 (Or.inr (Nat.le_trans (Nat.le_trans (Nat.le_trans E_6.1 (Keep.of_wr W_26).1) (Keep.of_wr W_44).1) (Nat.le_of_eq g_60.symm)))).ext E_107).trans K_123 (allS (Or.inr (Nat.le_trans (Nat.le_trans (Nat.le_trans (Nat.le_trans (Nat.le_trans (Nat.le_trans E_6.1 (Keep.of_wr W_26).1) (Keep.of_wr W_44).1) E_56.1) (Keep.of_wr W_76).1) (Keep.of_wr W_96).1) (Nat.le_of_eq g_112.symm))) all0)).ext E_136).trans K_152 (allS (Or.inr (Nat.le_trans (Nat.le_trans (Nat.le_trans (Nat.le_trans (Nat.le_trans (Nat.le_trans (Nat.le_trans (Nat.le_trans E_6.1 (Keep.of_wr W_26).1) (Keep.of_wr W_44).1) E_56.1) (Keep.of_wr W_76).1) (Keep.of_wr W_96).1) E_107.1) K_123.1) (Nat.le_of_eq g_141.symm))) all0)).ext E_168).trans K_181 (allS (Or.inr (Nat.le_trans (Nat.le_trans (Nat.le_trans (Nat.le_trans (Nat.le_trans (Nat.le_trans (Nat.le_trans (Nat.le_trans (Nat.le_trans (Nat.le_trans E_6.1 (Keep.of_wr W_26).1) (Keep.of_wr W_44).1) E_56.1) (Keep.of_wr W_76).1) (Keep.of_wr W_96).1) E_107.1) K_123.1) E_136.1) K_152.1) (Nat.le_of_eq g_173.symm))) all0)).trans K_207 all0)
  obtain ⟨fs, hr, hrun, hended, hRE⟩ := X_501.leaveW hS_196 (by rw [show T_501.heap = T_196.heap from e_510]; exact (Nat.le_refl _)) (v := some (.int 1)) (fun h => by rw [Bd.returns] at h; cases h)
  refine ⟨_, _, C_520.trans (retN X_501 hx (t := .boolean) Bd.returns (by simp) (hb hby at_396) hr), hrun, hended, _, _, rfl, ?_, ?_, hRE.1, hRE.2.1, hRE.2.2.1, hRE.2.2.2.mono (by decide) (by decide)⟩
  ·show Q_law Z G1 G3 g1 kg1 g2 kg2 uS sS p0 p1 p2 h0 n0 (some (.int 1)) T_501.heap _
   rw [e_510]
   exact ⟨rfl, N_509, K_521⟩
  ·show CHr Z consts_1 s.vm s.heap T_501.vm T_501.heap
   rw [hh, show T_501.heap = T_196.heap from e_510]
   exact CR_217.trans (CHv.at X_501 hZ_196 hEL CH_216)
theorem own_sta {s : State} {args : Array Value} {C n d K : String} (hx : (Jvm.Cond.exactly (.static C n d) K).value args s none s [] = some true) (hi : (Jvm.Cond.initialized C).before args s = true) (hl : (Jvm.Cond.laysStatic C n d).before args s = true) :
    ∃ a, Sta s s.heap C n d (.ref a) ∧ Exa s s.heap a K ∧ (Term.static C n d).eval args s none [] s = some (.ref a) := by
  obtain ⟨a, c', cell, k, e1, -⟩ := Cond.exactly_spec (Cond.before_iff.mpr hx)
  exact ⟨a, Sta.start e1 (Or.inr ⟨hi, hl⟩), Exa.start e1 hx, e1⟩
theorem own_fld {s : State} {args : Array Value} {t : Term} {a : Addr} {O n d : String} {v : Value} (ev : t.eval args s none [] s = some (.ref a)) (h : (Term.field t O n d).eval args s none [] s = some v) : Fld s s.heap a O n d v :=
  Fld.start (by simpa [Term.eval, ev] using h)
theorem own_fldI {s : State} {args : Array Value} {t : Term} {a : Addr} {O n d : String} {i : Int32} (ev : t.eval args s none [] s = some (.ref a)) (h : (Jvm.Cond.eq (Term.field t O n d) (.int i)).value args s none s [] = some true) : Fld s s.heap a O n d (.int i) :=
  own_fld ev (eqv_i (Term.int_eval i) h)
theorem own_o1 {args : Array Value} {s : State} {r : Nat} (hr : r < 100) : (Term.add (.int 48) (.rem (.index 0) (.int 10))).eval args s none [r] s = some (.int (Int32.ofNat (48 + r % 10))) := by
  have h : ∀ r, r < 100 → (48 : Int32) + Int32.ofNat r % 10 = Int32.ofNat (48 + r % 10) := by decide +kernel
  rw [← h r hr]; rfl
theorem own_o2 {args : Array Value} {s : State} {r : Nat} (hr : r < 100) : (Term.add (.int 48) (.div (.index 0) (.int 10))).eval args s none [r] s = some (.int (Int32.ofNat (48 + r / 10))) := by
  have h : ∀ r, r < 100 → (48 : Int32) + Int32.ofNat r / 10 = Int32.ofNat (48 + r / 10) := by decide +kernel
  rw [← h r hr]; rfl
open Jvm.Free.SBG Jvm.Free.SB Jvm.Free.SubstrLeaves Jvm.Free.AList Jvm.Stand in
theorem own_tab {s : State} {args : Array Value} {C n : String} {rhs : Term} {F : Nat → Nat} (hx : (Jvm.Cond.exactly (.static C n "[B") "[B").before args s = true) (hif : (Jvm.Cond.initializedFor C n "[B").before args s = true) (hl : (Jvm.Cond.eq (.length (.static C n "[B")) (.int 100)).before args s = true)
    (ha : (Jvm.Cond.all (.static C n "[B") (.eq (.elem (.static C n "[B") (.index 0)) rhs)).before args s = true) (hb : (Jvm.Cond.arrayClass .byte).before args s = true) (hr : ∀ r, r < 100 → rhs.eval args s none [r] s = some (.int (Int32.ofNat (F r)))) (hF : ∀ r, r < 100 → fits .byte (.int (Int32.ofNat (F r))) = true) :
    ∃ a k, Sta s s.heap C n "[B" (.ref a) ∧ Arv s s.heap a k .byte (100 : Int32) (own_iv ((List.range 100).map fun r => Int32.ofNat (F r))) (.int 0) := by
  obtain ⟨d, cB, D, kB, hev, hfcB, hcellD, hkB, hstatD, hclsD, -⟩ := Cond.exactly_spec hx
  have hevAll : ∀ idx, (Term.static C n "[B").eval args s none idx s = some (.ref d) := fun idx => by
    have : (Term.static C n "[B").eval args s none idx s = (Term.static C n "[B").eval args s none [] s := by simp only [Term.eval]
    rw [this]; exact hev
  have hl' := Cond.eq_int hl rfl
  obtain ⟨d', D', hev', harrAt, hlen⟩ := Term.length_spec hl'
  cases hev.symm.trans hev'
  obtain ⟨hcellD', hknD, -, -⟩ := State.arrayAt?_spec harrAt
  cases hcellD.symm.trans hcellD'
  have h31 := length_lt hev harrAt hl'
  have hsz : D.slots.size = 100 := by
    have h2 := congrArg Int32.toInt (Value.int.inj hlen)
    rw [len_toInt h31] at h2
    have h3 : (100 : Int32).toInt = 100 := rfl
    omega
  obtain ⟨cB', kB', comp, hnameB, hkB', hkindB⟩ := Cond.arrayClass_spec hb
  have eBA : ("[" ++ FieldType.toString .byte) = "[B" := by decide
  rw [eBA] at hnameB
  cases hfcB.symm.trans hnameB
  cases hkB.symm.trans hkB'
  have hA : Arr s s.heap d D .byte := ⟨hcellD, ⟨(fun q h => by rw [h] at hstatD; cases hstatD), kB, (by rw [hclsD]; exact hkB), comp, hkindB⟩, hknD⟩
  have hat : ∀ r, r < 100 → D.slots[r]? = some (.int (Int32.ofNat (F r))) := fun r hr' => by
    have h := Cond.all_elim (hevAll []) harrAt (val_of_holds ha) r (by omega)
    have eL : (Term.elem (.static C n "[B") (.index 0)).eval args s none [r] s = D.slots[r]? := elem_at (ix := .index 0) (hevAll [r]) harrAt (by omega) (by omega) rfl
    rw [← eL]
    exact eqv_i (hr r hr') h
  have hg : ∀ r, r < 100 → (own_iv ((List.range 100).map fun r => Int32.ofNat (F r))).getD r (.int 0) = .int (Int32.ofNat (F r)) := fun r hr' => by
    unfold own_iv
    rw [List.map_map, List.getD_eq_getElem?_getD, List.getElem?_map, List.getElem?_range hr']; rfl
  refine ⟨d, D.cls, Sta.start hev (Or.inl hif), D, hA, rfl, (by rw [hsz]; rfl), (by decide), (fun i hi => ?_), (fun i hi => ?_)⟩
  · rw [hg i (by omega)]; exact hat i (by omega)
  · rw [hg i (by omega)]; exact hF i (by omega)
theorem own_methods {s : State} (h : Jvm.Pilot.@@N@@.Jvm.D.tablesKnown s = true) : s.vm.MethodsKnown := MethodsKnown_of_tablesKnown h
theorem own_frames {s : State} {m : MethodId} {args : Array Value} {below : List Frame} (hf : s.frames = .invoking m args :: below) (h : Jvm.Pilot.@@N@@.Jvm.D.framesKnown s = true) : s.vm.FramesKnown below := FramesKnown_of_framesKnown h hf
theorem comes_1 {Post : Tables → Env → Array Value → State → Outcome → State → Prop} (hpost : ∀ tb e args s v u, (limb_1_1.after args s (.returned v) u = true ∧ limb_1_2.after args s (.returned v) u = true ∧ True) → ReturnedEndW s (.returned v) u (Jvm.fieldLocs frame_1_writes args s ++ Jvm.arrayLocs frame_1_arrays args s ++ Jvm.staticLocs frame_1_statics s) 56 8960 → Post tb e args s (.returned v) u) :
    ArmFor flags0 classFile x code maxLocals ret World_1 tables_1 room_1 Calls_1 rest_1 Pre_1 Post := by
  intro l hfl _ _ p e ha hc hk s m args below hf hA hF happ hP
  obtain ⟨hcalls, hrest, hpre⟩ := hP
  obtain ⟨-, -, -, hnamed, -, -, -, hat⟩ := (Spec.applies_iff hf).mp happ
  obtain ⟨hg, hn⟩ := and_e (Cond.before_iff.mp (show (Jvm.Cond.and given_1 narrow_1).before args s = true from hpre))
  obtain ⟨h1, g0⟩ := and_e hg
  obtain ⟨a0, g1⟩ := and_e g0
  obtain ⟨a1, g2⟩ := and_e g1
  have a2 := g2
  obtain ⟨w0, w1, w2, rfl⟩ : ∃ w0 w1 w2 : Value, args = #[w0, w1, w2] := by
    have hs : args.size = 3 := by simpa [Cond.value, given_1] using h1
    obtain ⟨L⟩ := args
    match L, hs with
    | [w0, w1, w2], _ => exact ⟨w0, w1, w2, rfl⟩
  have hw := fun d (hd : d ∈ tables_1) => atoms_spec (ws := Jvm.Cond.code x code maxLocals ret :: tables_1) hat d (List.mem_cons_of_mem _ hd)
  obtain ⟨hsets, hown0⟩ := atoms_of _ (rest_1_c_eq ▸ (show rest_1_c.before _ s = true from hrest))
  have hfit : Fit s := fun {y c} hc i hi => by
    obtain ⟨ha, rfl⟩ := Array.getElem?_eq_some_iff.mp hc
    have q := List.all_eq_true.mp ((Array.all_eq_true_iff_forall_mem.mp hF) _ (Array.getElem_mem ha)) i (List.mem_range.mpr hi)
    simpa [Array.getElem?_eq_getElem hi] using q
  obtain ⟨i0, q0⟩ := is_v a0
  obtain rfl : w0 = (.int i0) := Option.some.inj q0
  obtain ⟨i1, q1⟩ := is_v a1
  obtain rfl : w1 = (.int i1) := Option.some.inj q1
  obtain ⟨i2, q2⟩ := is_v a2
  obtain rfl : w2 = (.int i2) := Option.some.inj q2
  obtain ⟨iCS, eCS⟩ := is_v (Cond.before_iff.mp (hsets _ (List.mem_of_getElem? (i := 1) rfl)))
  have SCS : Sta s s.heap "java/lang/String" "COMPACT_STRINGS" "Z" (.int iCS) := Sta.start eCS (Or.inl (hsets _ (List.mem_of_getElem? (i := 0) rfl)))
  have PCS : ¬ (iCS = (0 : Int32)) := gotF (Cond.eq_ints eCS (Term.int_eval (0))) (not_v (Cond.before_iff.mp (hsets _ (List.mem_of_getElem? (i := 2) rfl))))
  obtain ⟨vF, eF, rF⟩ := isR_v (Cond.before_iff.mp (hsets _ (List.mem_of_getElem? (i := 8) rfl)))
  have SF : Sta s s.heap "jdk/internal/util/Preconditions" "SIOOBE_FORMATTER" "Ljava/util/function/BiFunction;" vF := Sta.start eF (Or.inl (hsets _ (List.mem_of_getElem? (i := 7) rfl)))
  obtain ⟨g1, kg1, Sg1, Dg1⟩ := own_tab (F := fun r => 48 + r % 10) (hsets _ (List.mem_of_getElem? (i := 12) rfl)) (hsets _ (List.mem_of_getElem? (i := 11) rfl)) (hsets _ (List.mem_of_getElem? (i := 13) rfl)) (hsets _ (List.mem_of_getElem? (i := 14) rfl)) (w19 hw) (fun r hr => own_o1 hr) (by decide +kernel)
  obtain ⟨g2, kg2, Sg2, Dg2⟩ := own_tab (F := fun r => 48 + r / 10) (hsets _ (List.mem_of_getElem? (i := 17) rfl)) (hsets _ (List.mem_of_getElem? (i := 16) rfl)) (hsets _ (List.mem_of_getElem? (i := 18) rfl)) (hsets _ (List.mem_of_getElem? (i := 19) rfl)) (w19 hw) (fun r hr => own_o2 hr) (by decide +kernel)
  have hLT : l.stackTraces = true := by unfold Launch.stackTraces; rw [hfl]; decide
  obtain ⟨uS, eU, rU⟩ := isR_v (Cond.before_iff.mp (hsets _ (List.mem_of_getElem? (i := 27) rfl)))
  have SU : Sta s s.heap "java/lang/Throwable" "UNASSIGNED_STACK" "[Ljava/lang/StackTraceElement;" uS := Sta.start eU (Or.inl (hsets _ (List.mem_of_getElem? (i := 26) rfl)))
  obtain ⟨sS, eS, rS⟩ := isR_v (Cond.before_iff.mp (hsets _ (List.mem_of_getElem? (i := 32) rfl)))
  have SS : Sta s s.heap "java/lang/Throwable" "SUPPRESSED_SENTINEL" "Ljava/util/List;" sS := Sta.start eS (Or.inl (hsets _ (List.mem_of_getElem? (i := 31) rfl)))
  have HG : own_G l s #[(.int i0), (.int i1), (.int i2)] iCS vF g1 kg1 g2 kg2 uS sS := ⟨SCS, PCS, SF, rF, Sg1, Dg1, Sg2, Dg2, hLT, SU, rU, SS, rS⟩
  have CH : CHv s consts_1 s.vm s.heap := CHv.start (own_EL hw) hcalls.2.2.1 (hsets _ (List.mem_of_getElem? (i := 2) rfl)) (hw _ (List.mem_of_getElem? (i := 19) rfl)) (hw _ (List.mem_of_getElem? (i := 2) rfl))
  have hTK : s.vm.MethodsKnown := own_methods hcalls.2.1
  have hBL : s.vm.FramesKnown below := own_frames hf hcalls.1
  obtain ⟨n, o, h1, h2, h3, _, L, rfl, ⟨rfl, N, -⟩, -, hq⟩ := rm_law l s _ hw tables_1 iCS vF g1 kg1 g2 kg2 uS sS HG s.heap s.heap.size (Old.start s) i0 i1 i2 p e ha hc hk s m _ below hf ((Spec.applies_iff_loose hf).mp happ).1 ⟨rfl, State.Warmed39.refl s, rfl, CH⟩ ⟨hTK, hBL⟩
  refine ⟨n, _, h1, h2, h3, hpost _ _ _ _ _ _ ⟨Cond.after_iff.mpr rfl, Cond.after_iff.mpr (eq_i res_at (Term.int_eval (1)) rfl), trivial⟩ ⟨hq.1, hq.2.1, hq.2.2.1, (hq.2.2.2.sift fun y hy => Or.inr (N y hy)).mono (by decide) (by decide)⟩⟩
theorem main_1_1 : Claimed_1_1 := comes_1 fun _ _ _ _ _ _ h hF => ⟨h.1, hF⟩
theorem main_1_2 : Claimed_1_2 := comes_1 fun _ _ _ _ _ _ h hF => ⟨h.2.1, hF⟩
end Jvm.Pilot.@@N@@
namespace Jvm.Pilot.@@N@@
open Jvm Jvm.ClassFile Sem Op Lib Jvm.Free Jvm.Stand Jvm.Pilot.@@N@@.Jvm.D
/-! MADE BY PROGRAM (witnessworld.py) out of the Statement's table words and the real class files: 44 classes; the members and pool entries that the words name. The judged class is class 1, her method 1. -/
namespace start1
open Jvm.ClassFile
def u (s : String) : CpInfo := .utf8 (stringToUtf16 s)
/-- a pool by its gaps: so many unusable entries, then the entry; so many at the end -/
def gap : Nat → List CpInfo → List CpInfo
  | 0, r => r
  | n + 1, r => .unusable :: gap n r
def poolList (es : List (Nat × CpInfo)) (last : Nat) : List CpInfo := es.foldr (fun e r => gap e.1 (e.2 :: r)) (gap last [])
def pool (es : List (Nat × CpInfo)) (last : Nat) : Array CpInfo := ⟨poolList es last⟩
def fileOf (pool : Array CpInfo) (this : Nat) (attrs : Array Attribute := #[]) (ms : Array MethodInfo := #[]) (fl : Nat := 33) (sup : Nat := 0) (ifs : Array Nat := #[]) (fds : Array FieldInfo := #[]) : ClassFile where
  minorVersion := 0
  majorVersion := 65
  constantPool := pool
  accessFlags := fl
  thisClass := this
  superClass := sup
  interfaces := ifs
  fields := fds
  methods := ms
  attributes := attrs
def plain (name : String) (sup : Option ClassId) : Class where
  name := name
  kind := .ordinary
  loader := none
  accessFlags := 33
  super := sup
  interfaces := #[]
  cf := none
  fields := #[]
  methods := #[]
  instanceTypes := #[]
  staticTypes := #[]
  resolved := #[]
  callSites := []
  init := .initialized
  statics := none
  mirror := none

def pool0 : Array CpInfo := pool [(5, u "<init>"), (0, u "()V"), (1, .class_ 10), (1, u "java/lang/Object"), (85, u "clone"), (0, u "()Ljava/lang/Object;")] 26

def k0c0 : Code := { maxStack := 0, maxLocals := 1, code := object_method_1_code, exceptionTable := #[], attributes := #[] }
def k0m0 : Method := { name := "<init>", desc := "()V", sig := { parameters := [], returnType := none }, accessFlags := 1, code := some k0c0 }
def k0m1 : Method := { name := "clone", desc := "()Ljava/lang/Object;", sig := { parameters := [], returnType := some (.object "java/lang/Object") }, accessFlags := 260, code := none }
/-- java/lang/Object -/
def k0 : Class := { plain "java/lang/Object" none with
  accessFlags := 33
  interfaces := #[]
  cf := some (fileOf pool0 8 #[] #[{ accessFlags := 1, nameIndex := 5, descriptorIndex := 6, attributes := #[] }, { accessFlags := 260, nameIndex := 96, descriptorIndex := 97, attributes := #[] }] 33 0 #[] #[])
  fields := #[]
  methods := #[k0m0, k0m1]
  instanceTypes := #[]
  staticTypes := #[]
  resolved := Array.replicate 124 none
  statics := none }

def pool1 : Array CpInfo := pool [(2, .class_ 4), (1, u "java/lang/Object"), (0, u "<init>"), (0, u "()V"), (0, .class_ 8), (0, u "java/lang/String"), (0, .methodref 7 10), (0, .nameAndType 5 11), (0, u "([C)V"), (0, .class_ 13), (0, u "com/example/claimgate/claimgate/config/ConfigSyntax"), (0, .methodref 12 15), (0, .nameAndType 5 16), (0, u "(Ljava/lang/String;)V"), (0, .methodref 12 18), (0, .nameAndType 19 20), (0, u "error"), (0, u "(ILjava/lang/String;)Lcom/example/claimgate/claimgate/config/ConfigException;"), (0, .methodref 22 23), (0, .class_ 24), (0, .nameAndType 25 26), (0, u "com/example/claimgate/claimgate/config/ConfigException"), (0, u "getMessage"), (0, u "()Ljava/lang/String;"), (0, .methodref 28 29), (0, .class_ 30), (0, .nameAndType 31 32), (0, u "com/example/claimgate/claimgate/config/ConfigSyntaxErrorPinLaw"), (0, u "digits"), (0, u "(I)I"), (0, .methodref 7 34), (0, .nameAndType 35 36), (0, u "length"), (0, u "()I"), (0, .methodref 7 38), (0, .nameAndType 39 40), (0, u "charAt"), (0, u "(I)C"), (0, .methodref 28 42), (0, .nameAndType 43 44), (0, u "digitOk"), (0, u "(Ljava/lang/String;III)Z"), (0, .methodref 28 46), (0, .nameAndType 47 32), (0, u "pow10"), (0, .integer 100000), (0, .integer 1000000), (0, .integer 10000000), (0, .integer 100000000), (0, .integer 1000000000), (2, u "law"), (0, u "(III)Z")] 5

def k1m0 : Method := { name := "<init>", desc := "()V", sig := { parameters := [], returnType := none }, accessFlags := 1, code := none }
def k1c1 : Code := { maxStack := 5, maxLocals := 13, code := code, exceptionTable := #[], attributes := #[] }
def k1m1 : Method := { name := "law", desc := "(III)Z", sig := { parameters := [.int, .int, .int], returnType := some .boolean }, accessFlags := 9, code := some k1c1 }
def k1c2 : Code := { maxStack := 3, maxLocals := 5, code := method_3_code, exceptionTable := #[], attributes := #[] }
def k1m2 : Method := { name := "digitOk", desc := "(Ljava/lang/String;III)Z", sig := { parameters := [(.object "java/lang/String"), .int, .int, .int], returnType := some .boolean }, accessFlags := 10, code := some k1c2 }
def k1c3 : Code := { maxStack := 2, maxLocals := 2, code := method_4_code, exceptionTable := #[], attributes := #[] }
def k1m3 : Method := { name := "digits", desc := "(I)I", sig := { parameters := [.int], returnType := some .int }, accessFlags := 10, code := some k1c3 }
def k1c4 : Code := { maxStack := 2, maxLocals := 1, code := method_5_code, exceptionTable := #[], attributes := #[] }
def k1m4 : Method := { name := "pow10", desc := "(I)I", sig := { parameters := [.int], returnType := some .int }, accessFlags := 10, code := some k1c4 }
/-- com/example/claimgate/claimgate/config/ConfigSyntaxErrorPinLaw -/
def k1 : Class := { plain "com/example/claimgate/claimgate/config/ConfigSyntaxErrorPinLaw" (some 0) with
  accessFlags := 49
  interfaces := #[]
  cf := some (fileOf pool1 28 #[] #[{ accessFlags := 1, nameIndex := 5, descriptorIndex := 6, attributes := #[] }, { accessFlags := 9, nameIndex := 55, descriptorIndex := 56, attributes := #[] }, { accessFlags := 10, nameIndex := 43, descriptorIndex := 44, attributes := #[] }, { accessFlags := 10, nameIndex := 31, descriptorIndex := 32, attributes := #[] }, { accessFlags := 10, nameIndex := 47, descriptorIndex := 32, attributes := #[] }] 49 2 #[] #[])
  fields := #[]
  methods := #[k1m0, k1m1, k1m2, k1m3, k1m4]
  instanceTypes := #[]
  staticTypes := #[]
  resolved := Array.replicate 62 none
  statics := none }

def pool2 : Array CpInfo := pool [(1, .class_ 2), (0, u "java/io/Serializable"), (0, .class_ 4), (0, u "java/lang/Object")] 2

/-- java/io/Serializable -/
def k2 : Class := { plain "java/io/Serializable" (some 0) with
  accessFlags := 1537
  interfaces := #[]
  cf := some (fileOf pool2 1 #[] #[] 1537 3 #[] #[])
  fields := #[]
  methods := #[]
  instanceTypes := #[]
  staticTypes := #[]
  resolved := Array.replicate 7 none
  statics := none }

def pool3 : Array CpInfo := pool [(1, .class_ 2), (0, u "java/lang/Comparable"), (0, .class_ 4), (0, u "java/lang/Object")] 7

/-- java/lang/Comparable -/
def k3 : Class := { plain "java/lang/Comparable" (some 0) with
  accessFlags := 1537
  interfaces := #[]
  cf := some (fileOf pool3 1 #[] #[] 1537 3 #[] #[])
  fields := #[]
  methods := #[]
  instanceTypes := #[]
  staticTypes := #[]
  resolved := Array.replicate 12 none
  statics := none }

def pool4 : Array CpInfo := pool [(2, .class_ 4), (1, u "java/lang/CharSequence"), (42, .class_ 48), (0, u "java/lang/CharSequence$1CodePointIterator"), (10, .class_ 60), (0, u "java/lang/CharSequence$1CharIterator"), (5, .class_ 67), (0, u "java/lang/Object")] 63

/-- java/lang/CharSequence -/
def k4 : Class := { plain "java/lang/CharSequence" (some 0) with
  accessFlags := 1537
  interfaces := #[]
  cf := some (fileOf pool4 2 #[.nestMembers #[47, 59]] #[] 1537 66 #[] #[])
  fields := #[]
  methods := #[]
  instanceTypes := #[]
  staticTypes := #[]
  resolved := Array.replicate 131 none
  statics := none }

def pool5 : Array CpInfo := pool [(1, .class_ 2), (0, u "java/lang/constant/Constable"), (0, .class_ 4), (0, u "java/lang/Object")] 6

/-- java/lang/constant/Constable -/
def k5 : Class := { plain "java/lang/constant/Constable" (some 0) with
  accessFlags := 1537
  interfaces := #[]
  cf := some (fileOf pool5 1 #[] #[] 1537 3 #[] #[])
  fields := #[]
  methods := #[]
  instanceTypes := #[]
  staticTypes := #[]
  resolved := Array.replicate 11 none
  statics := none }

def pool6 : Array CpInfo := pool [(1, .class_ 2), (0, u "java/lang/constant/ConstantDesc"), (0, .class_ 4), (0, u "java/lang/Object")] 32

/-- java/lang/constant/ConstantDesc -/
def k6 : Class := { plain "java/lang/constant/ConstantDesc" (some 0) with
  accessFlags := 1537
  interfaces := #[]
  cf := some (fileOf pool6 1 #[] #[] 1537 3 #[] #[])
  fields := #[]
  methods := #[]
  instanceTypes := #[]
  staticTypes := #[]
  resolved := Array.replicate 37 none
  statics := none }

def pool7 : Array CpInfo := pool [(1, .methodref 2 3), (0, .class_ 4), (0, .nameAndType 5 6), (0, u "java/lang/Object"), (0, u "<init>"), (0, u "()V"), (2, .fieldref 10 11), (0, .class_ 12), (0, .nameAndType 13 14), (0, u "java/lang/String"), (0, u "value"), (0, u "[B"), (0, .fieldref 10 16), (0, .nameAndType 17 18), (0, u "coder"), (0, u "B"), (2, u "hash"), (0, u "I"), (2, u "hashIsZero"), (0, u "Z"), (0, .methodref 10 28), (0, .nameAndType 5 29), (0, u "([CIILjava/lang/Void;)V"), (8, .fieldref 10 39), (0, .nameAndType 40 26), (0, u "COMPACT_STRINGS"), (1, .class_ 44), (1, u "java/lang/StringUTF16"), (0, u "compress"), (1, .methodref 42 48), (0, .nameAndType 49 50), (0, u "coderFromArrayLen"), (0, u "([BI)B"), (3, .methodref 55 56), (0, .class_ 57), (0, .nameAndType 58 59), (0, u "java/util/Arrays"), (0, u "copyOfRange"), (0, u "([BII)[B"), (47, .class_ 109), (1, u "java/lang/StringLatin1"), (32, u "()Z"), (34, .methodref 42 178), (0, .nameAndType 45 179), (0, u "([CII)[B"), (13, .class_ 195), (1, u "java/lang/System"), (16, .methodref 193 213), (0, .nameAndType 214 215), (0, u "arraycopy"), (0, u "(Ljava/lang/Object;ILjava/lang/Object;II)V"), (118, u "()I"), (0, .methodref 10 336), (0, .nameAndType 17 337), (0, u "()B"), (2, u "()[B"), (22, u "([BI)C"), (27, u "(II)V"), (35, u "(I)C"), (61, .methodref 10 490), (0, .nameAndType 5 491), (0, u "(Ljava/lang/AbstractStringBuilder;Ljava/lang/Void;)V"), (0, .methodref 10 493), (0, .nameAndType 494 142), (0, u "isLatin1"), (0, .methodref 107 496), (0, .nameAndType 497 363), (0, u "charAt"), (3, u "checkIndex"), (4, .nameAndType 507 334), (0, u "length"), (24, u "getBytes"), (16, .methodref 550 506), (0, .class_ 551), (0, u "java/lang/AbstractStringBuilder"), (0, .methodref 550 553), (0, .nameAndType 554 340), (0, u "getValue"), (20, .class_ 576), (0, u "java/lang/CharSequence"), (22, u "CASE_INSENSITIVE_ORDER"), (0, u "Ljava/util/Comparator;"), (220, u "([BIB)V"), (188, u "([C)V"), (36, .methodref 550 493), (5, .fieldref 1054 1055), (0, .class_ 1056), (0, .nameAndType 1057 1058), (0, u "jdk/internal/util/Preconditions"), (0, u "SIOOBE_FORMATTER"), (0, u "Ljava/util/function/BiFunction;"), (0, .methodref 1054 1060), (0, .nameAndType 501 1061), (0, u "(IILjava/util/function/BiFunction;)I"), (39, u "serialPersistentFields"), (0, u "[Ljava/io/ObjectStreamField;"), (0, .class_ 1104), (0, u "java/lang/String$CaseInsensitiveComparator"), (1, .class_ 1107), (0, u "java/io/Serializable"), (0, .class_ 1109), (0, u "java/lang/Comparable"), (0, .class_ 1111), (0, u "java/lang/constant/Constable"), (0, .class_ 1113), (0, u "java/lang/constant/ConstantDesc"), (2, u "serialVersionUID"), (0, u "J"), (3, u "REPL"), (0, u "C"), (2, u "LATIN1"), (1, u "UTF16"), (105, u "(Ljava/lang/StringBuilder;)V")] 217

def k7m0 : Method := { name := "<init>", desc := "()V", sig := { parameters := [], returnType := none }, accessFlags := 1, code := none }
def k7c1 : Code := { maxStack := 5, maxLocals := 2, code := jdk_42_method_3_code, exceptionTable := #[], attributes := #[] }
def k7m1 : Method := { name := "<init>", desc := "([C)V", sig := { parameters := [(.array .char)], returnType := none }, accessFlags := 1, code := some k7c1 }
def k7c2 : Code := { maxStack := 3, maxLocals := 2, code := jdk_42_method_53_code, exceptionTable := #[], attributes := #[] }
def k7m2 : Method := { name := "<init>", desc := "(Ljava/lang/StringBuilder;)V", sig := { parameters := [(.object "java/lang/StringBuilder")], returnType := none }, accessFlags := 1, code := some k7c2 }
def k7c3 : Code := { maxStack := 2, maxLocals := 1, code := jdk_42_method_54_code, exceptionTable := #[], attributes := #[] }
def k7m3 : Method := { name := "length", desc := "()I", sig := { parameters := [], returnType := some .int }, accessFlags := 1, code := some k7c3 }
def k7c4 : Code := { maxStack := 2, maxLocals := 2, code := jdk_42_method_56_code, exceptionTable := #[], attributes := #[] }
def k7m4 : Method := { name := "charAt", desc := "(I)C", sig := { parameters := [.int], returnType := some .char }, accessFlags := 1, code := some k7c4 }
def k7c5 : Code := { maxStack := 5, maxLocals := 4, code := jdk_42_method_147_code, exceptionTable := #[], attributes := #[] }
def k7m5 : Method := { name := "getBytes", desc := "([BIB)V", sig := { parameters := [(.array .byte), .int, .byte], returnType := none }, accessFlags := 0, code := some k7c5 }
def k7c6 : Code := { maxStack := 4, maxLocals := 6, code := jdk_42_method_149_code, exceptionTable := #[], attributes := #[] }
def k7m6 : Method := { name := "<init>", desc := "([CIILjava/lang/Void;)V", sig := { parameters := [(.array .char), .int, .int, (.object "java/lang/Void")], returnType := none }, accessFlags := 2, code := some k7c6 }
def k7c7 : Code := { maxStack := 5, maxLocals := 5, code := jdk_42_method_150_code, exceptionTable := #[], attributes := #[] }
def k7m7 : Method := { name := "<init>", desc := "(Ljava/lang/AbstractStringBuilder;Ljava/lang/Void;)V", sig := { parameters := [(.object "java/lang/AbstractStringBuilder"), (.object "java/lang/Void")], returnType := none }, accessFlags := 0, code := some k7c7 }
def k7c8 : Code := { maxStack := 1, maxLocals := 1, code := jdk_42_method_152_code, exceptionTable := #[], attributes := #[] }
def k7m8 : Method := { name := "coder", desc := "()B", sig := { parameters := [], returnType := some .byte }, accessFlags := 0, code := some k7c8 }
def k7c9 : Code := { maxStack := 1, maxLocals := 1, code := jdk_42_method_154_code, exceptionTable := #[], attributes := #[] }
def k7m9 : Method := { name := "isLatin1", desc := "()Z", sig := { parameters := [], returnType := some .boolean }, accessFlags := 0, code := some k7c9 }
def k7c10 : Code := { maxStack := 3, maxLocals := 2, code := jdk_42_method_155_code, exceptionTable := #[], attributes := #[] }
def k7m10 : Method := { name := "checkIndex", desc := "(II)V", sig := { parameters := [.int, .int], returnType := none }, accessFlags := 8, code := some k7c10 }
/-- java/lang/String -/
def k7 : Class := { plain "java/lang/String" (some 0) with
  accessFlags := 49
  interfaces := #[2, 3, 4, 5, 6]
  cf := some (fileOf pool7 10 #[.nestMembers #[1103]] #[{ accessFlags := 1, nameIndex := 5, descriptorIndex := 6, attributes := #[] }, { accessFlags := 1, nameIndex := 5, descriptorIndex := 1010, attributes := #[] }, { accessFlags := 1, nameIndex := 5, descriptorIndex := 1233, attributes := #[] }, { accessFlags := 1, nameIndex := 507, descriptorIndex := 334, attributes := #[] }, { accessFlags := 1, nameIndex := 497, descriptorIndex := 427, attributes := #[] }, { accessFlags := 0, nameIndex := 532, descriptorIndex := 821, attributes := #[] }, { accessFlags := 2, nameIndex := 5, descriptorIndex := 29, attributes := #[] }, { accessFlags := 0, nameIndex := 5, descriptorIndex := 491, attributes := #[] }, { accessFlags := 0, nameIndex := 17, descriptorIndex := 337, attributes := #[] }, { accessFlags := 0, nameIndex := 494, descriptorIndex := 142, attributes := #[] }, { accessFlags := 8, nameIndex := 501, descriptorIndex := 391, attributes := #[] }] 49 2 #[1106, 1108, 575, 1110, 1112] #[{ accessFlags := 18, nameIndex := 13, descriptorIndex := 14, attributes := #[] }, { accessFlags := 18, nameIndex := 17, descriptorIndex := 18, attributes := #[] }, { accessFlags := 2, nameIndex := 21, descriptorIndex := 22, attributes := #[] }, { accessFlags := 2, nameIndex := 25, descriptorIndex := 26, attributes := #[] }, { accessFlags := 26, nameIndex := 1116, descriptorIndex := 1117, attributes := #[] }, { accessFlags := 24, nameIndex := 40, descriptorIndex := 26, attributes := #[] }, { accessFlags := 26, nameIndex := 1101, descriptorIndex := 1102, attributes := #[] }, { accessFlags := 26, nameIndex := 1121, descriptorIndex := 1122, attributes := #[] }, { accessFlags := 25, nameIndex := 599, descriptorIndex := 600, attributes := #[] }, { accessFlags := 24, nameIndex := 1125, descriptorIndex := 18, attributes := #[] }, { accessFlags := 24, nameIndex := 1127, descriptorIndex := 18, attributes := #[] }])
  fields := #[{ name := "value", type := (.array .byte), accessFlags := 18, slot := 0, constantValue := 0 }, { name := "coder", type := .byte, accessFlags := 18, slot := 1, constantValue := 0 }, { name := "hash", type := .int, accessFlags := 2, slot := 2, constantValue := 0 }, { name := "hashIsZero", type := .boolean, accessFlags := 2, slot := 3, constantValue := 0 }, { name := "serialVersionUID", type := .long, accessFlags := 26, slot := 0, constantValue := 0 }, { name := "COMPACT_STRINGS", type := .boolean, accessFlags := 24, slot := 1, constantValue := 0 }, { name := "serialPersistentFields", type := (.array (.object "java/io/ObjectStreamField")), accessFlags := 26, slot := 2, constantValue := 0 }, { name := "REPL", type := .char, accessFlags := 26, slot := 3, constantValue := 0 }, { name := "CASE_INSENSITIVE_ORDER", type := (.object "java/util/Comparator"), accessFlags := 25, slot := 4, constantValue := 0 }, { name := "LATIN1", type := .byte, accessFlags := 24, slot := 5, constantValue := 0 }, { name := "UTF16", type := .byte, accessFlags := 24, slot := 6, constantValue := 0 }]
  methods := #[k7m0, k7m1, k7m2, k7m3, k7m4, k7m5, k7m6, k7m7, k7m8, k7m9, k7m10]
  instanceTypes := #[(.array .byte), .byte, .int, .boolean]
  staticTypes := #[.long, .boolean, (.array (.object "java/io/ObjectStreamField")), .char, (.object "java/util/Comparator"), .byte, .byte]
  resolved := Array.replicate 1451 none
  statics := some 0 }

def pool8 : Array CpInfo := pool [(6, .class_ 8), (1, u "java/lang/Object"), (0, u "<init>"), (0, u "()V"), (1, .class_ 14), (1, u "java/lang/StringUTF16"), (31, u "$assertionsDisabled"), (0, u "Z"), (13, u "HI_BYTE_SHIFT"), (0, u "I"), (2, u "LO_BYTE_SHIFT"), (49, .methodref 12 116), (0, .nameAndType 117 118), (0, u "compress"), (0, u "([CI[BII)I"), (3, u "([CII)[B"), (138, u "coderFromArrayLen"), (0, u "([BI)B"), (106, .class_ 371), (1, u "java/lang/StringUTF16$LinesSpliterator"), (58, u "MAX_LENGTH"), (196, .class_ 628), (0, u "java/lang/StringUTF16$CodePointsSpliterator"), (0, .class_ 630), (0, u "java/lang/StringUTF16$CharsSpliterator")] 4

def k8m0 : Method := { name := "<init>", desc := "()V", sig := { parameters := [], returnType := none }, accessFlags := 0, code := none }
def k8c1 : Code := { maxStack := 2, maxLocals := 2, code := jdk_52_method_15_code, exceptionTable := #[], attributes := #[] }
def k8m1 : Method := { name := "coderFromArrayLen", desc := "([BI)B", sig := { parameters := [(.array .byte), .int], returnType := some .byte }, accessFlags := 8, code := some k8c1 }
def k8c2 : Code := { maxStack := 5, maxLocals := 6, code := jdk_52_method_16_code, exceptionTable := #[], attributes := #[] }
def k8m2 : Method := { name := "compress", desc := "([CII)[B", sig := { parameters := [(.array .char), .int, .int], returnType := some (.array .byte) }, accessFlags := 9, code := some k8c2 }
def k8c3 : Code := { maxStack := 3, maxLocals := 7, code := jdk_52_method_21_code, exceptionTable := #[], attributes := #[] }
def k8m3 : Method := { name := "compress", desc := "([CI[BII)I", sig := { parameters := [(.array .char), .int, (.array .byte), .int, .int], returnType := some .int }, accessFlags := 9, code := some k8c3 }
/-- java/lang/StringUTF16 -/
def k8 : Class := { plain "java/lang/StringUTF16" (some 0) with
  accessFlags := 48
  interfaces := #[]
  cf := some (fileOf pool8 12 #[.nestMembers #[627, 629, 369]] #[{ accessFlags := 0, nameIndex := 9, descriptorIndex := 10, attributes := #[] }, { accessFlags := 8, nameIndex := 261, descriptorIndex := 262, attributes := #[] }, { accessFlags := 9, nameIndex := 117, descriptorIndex := 122, attributes := #[] }, { accessFlags := 9, nameIndex := 117, descriptorIndex := 118, attributes := #[] }] 48 6 #[] #[{ accessFlags := 26, nameIndex := 61, descriptorIndex := 62, attributes := #[] }, { accessFlags := 26, nameIndex := 65, descriptorIndex := 62, attributes := #[] }, { accessFlags := 24, nameIndex := 430, descriptorIndex := 62, attributes := #[] }, { accessFlags := 4120, nameIndex := 46, descriptorIndex := 47, attributes := #[] }])
  fields := #[{ name := "HI_BYTE_SHIFT", type := .int, accessFlags := 26, slot := 0, constantValue := 0 }, { name := "LO_BYTE_SHIFT", type := .int, accessFlags := 26, slot := 1, constantValue := 0 }, { name := "MAX_LENGTH", type := .int, accessFlags := 24, slot := 2, constantValue := 0 }, { name := "$assertionsDisabled", type := .boolean, accessFlags := 4120, slot := 3, constantValue := 0 }]
  methods := #[k8m0, k8m1, k8m2, k8m3]
  instanceTypes := #[]
  staticTypes := #[.int, .int, .int, .boolean]
  resolved := Array.replicate 635 none
  statics := none }

def pool9 : Array CpInfo := pool [(1, .methodref 2 3), (0, .class_ 4), (0, .nameAndType 5 6), (0, u "java/lang/Object"), (0, u "<init>"), (0, u "()V"), (0, .fieldref 8 9), (0, .class_ 10), (0, .nameAndType 11 12), (0, u "com/example/claimgate/claimgate/config/ConfigSyntax"), (0, u "source"), (0, u "Ljava/lang/String;"), (0, .class_ 14), (0, u "com/example/claimgate/claimgate/config/ConfigException"), (0, .methodref 13 16), (0, .nameAndType 5 17), (0, u "(Ljava/lang/String;ILjava/lang/String;)V"), (39, u "error"), (0, u "(ILjava/lang/String;)Lcom/example/claimgate/claimgate/config/ConfigException;"), (99, u "SHORTEST_HASH"), (0, u "I"), (2, u "(Ljava/lang/String;)V")] 19

def k9c0 : Code := { maxStack := 2, maxLocals := 2, code := prog_19_method_1_code, exceptionTable := #[], attributes := #[] }
def k9m0 : Method := { name := "<init>", desc := "(Ljava/lang/String;)V", sig := { parameters := [(.object "java/lang/String")], returnType := none }, accessFlags := 0, code := some k9c0 }
def k9c1 : Code := { maxStack := 5, maxLocals := 3, code := prog_19_method_2_code, exceptionTable := #[], attributes := #[] }
def k9m1 : Method := { name := "error", desc := "(ILjava/lang/String;)Lcom/example/claimgate/claimgate/config/ConfigException;", sig := { parameters := [.int, (.object "java/lang/String")], returnType := some (.object "com/example/claimgate/claimgate/config/ConfigException") }, accessFlags := 0, code := some k9c1 }
/-- com/example/claimgate/claimgate/config/ConfigSyntax -/
def k9 : Class := { plain "com/example/claimgate/claimgate/config/ConfigSyntax" (some 0) with
  accessFlags := 48
  interfaces := #[]
  cf := some (fileOf pool9 8 #[] #[{ accessFlags := 0, nameIndex := 5, descriptorIndex := 162, attributes := #[] }, { accessFlags := 0, nameIndex := 57, descriptorIndex := 58, attributes := #[] }] 48 2 #[] #[{ accessFlags := 26, nameIndex := 158, descriptorIndex := 159, attributes := #[] }, { accessFlags := 18, nameIndex := 11, descriptorIndex := 12, attributes := #[] }])
  fields := #[{ name := "SHORTEST_HASH", type := .int, accessFlags := 26, slot := 0, constantValue := 0 }, { name := "source", type := (.object "java/lang/String"), accessFlags := 18, slot := 0, constantValue := 0 }]
  methods := #[k9m0, k9m1]
  instanceTypes := #[(.object "java/lang/String")]
  staticTypes := #[.int]
  resolved := Array.replicate 182 none
  statics := none }

def pool10 : Array CpInfo := pool [(1, .methodref 2 3), (0, .class_ 4), (0, .nameAndType 5 6), (0, u "java/lang/Object"), (0, u "<init>"), (0, u "()V"), (0, .fieldref 8 9), (0, .class_ 10), (0, .nameAndType 11 12), (0, u "java/lang/Throwable"), (0, u "cause"), (0, u "Ljava/lang/Throwable;"), (0, .fieldref 8 14), (0, .nameAndType 15 16), (0, u "UNASSIGNED_STACK"), (0, u "[Ljava/lang/StackTraceElement;"), (0, .fieldref 8 18), (0, .nameAndType 19 16), (0, u "stackTrace"), (0, .fieldref 8 21), (0, .nameAndType 22 23), (0, u "SUPPRESSED_SENTINEL"), (0, u "Ljava/util/List;"), (0, .fieldref 8 25), (0, .nameAndType 26 23), (0, u "suppressedExceptions"), (0, .methodref 8 28), (0, .nameAndType 29 30), (0, u "fillInStackTrace"), (0, u "()Ljava/lang/Throwable;"), (0, .fieldref 8 32), (0, .nameAndType 33 34), (0, u "detailMessage"), (0, u "Ljava/lang/String;"), (3, u "()Ljava/lang/String;"), (2, u "getMessage"), (51, .class_ 94), (0, u "java/lang/Throwable$WrappedPrintStream"), (6, .class_ 103), (1, u "java/lang/Throwable$PrintStreamOrWriter"), (61, u "$assertionsDisabled"), (0, u "Z"), (26, .class_ 194), (0, u "java/lang/Throwable$WrappedPrintWriter"), (3, .fieldref 8 199), (0, .nameAndType 200 201), (0, u "backtrace"), (0, u "Ljava/lang/Object;"), (0, .methodref 8 203), (0, .nameAndType 29 204), (0, u "(I)Ljava/lang/Throwable;"), (6, u "depth"), (0, u "I"), (10, u "(Ljava/lang/String;)V"), (45, .class_ 271), (1, u "java/lang/Throwable$SentinelHolder"), (32, u "EMPTY_THROWABLE_ARRAY"), (0, u "[Ljava/lang/Throwable;"), (12, .class_ 319), (0, u "java/io/Serializable"), (0, u "serialVersionUID"), (0, u "J"), (5, u "NULL_CAUSE_MESSAGE"), (0, u "SELF_SUPPRESSION_MESSAGE"), (0, u "CAUSE_CAPTION"), (0, u "SUPPRESSED_CAPTION")] 73

def k10c0 : Code := { maxStack := 2, maxLocals := 1, code := jdk_78_method_1_code, exceptionTable := #[], attributes := #[] }
def k10m0 : Method := { name := "<init>", desc := "()V", sig := { parameters := [], returnType := none }, accessFlags := 1, code := some k10c0 }
def k10c1 : Code := { maxStack := 2, maxLocals := 2, code := jdk_78_method_2_code, exceptionTable := #[], attributes := #[] }
def k10m1 : Method := { name := "<init>", desc := "(Ljava/lang/String;)V", sig := { parameters := [(.object "java/lang/String")], returnType := none }, accessFlags := 1, code := some k10c1 }
def k10c2 : Code := { maxStack := 1, maxLocals := 1, code := jdk_78_method_6_code, exceptionTable := #[], attributes := #[] }
def k10m2 : Method := { name := "getMessage", desc := "()Ljava/lang/String;", sig := { parameters := [], returnType := some (.object "java/lang/String") }, accessFlags := 1, code := some k10c2 }
def k10c3 : Code := { maxStack := 2, maxLocals := 1, code := ⟨#[0x2a, 0xb4, 0x00, 0x11, 0xc7, 0x00, 0x0a, 0x2a, 0xb4, 0x00, 0xc6, 0xc6, 0x00, 0x10, 0x2a, 0x03, 0xb6, 0x00, 0xca, 0x57, 0x2a, 0xb2, 0x00, 0x0d, 0xb5, 0x00, 0x11, 0x2a, 0xb0]⟩, exceptionTable := #[], attributes := #[] }
def k10m3 : Method := { name := "fillInStackTrace", desc := "()Ljava/lang/Throwable;", sig := { parameters := [], returnType := some (.object "java/lang/Throwable") }, accessFlags := 33, code := some k10c3 }
def k10m4 : Method := { name := "fillInStackTrace", desc := "(I)Ljava/lang/Throwable;", sig := { parameters := [.int], returnType := some (.object "java/lang/Throwable") }, accessFlags := 258, code := none }
/-- java/lang/Throwable -/
def k10 : Class := { plain "java/lang/Throwable" (some 0) with
  accessFlags := 33
  interfaces := #[2]
  cf := some (fileOf pool10 8 #[.nestMembers #[193, 93, 101, 269]] #[{ accessFlags := 1, nameIndex := 5, descriptorIndex := 6, attributes := #[] }, { accessFlags := 1, nameIndex := 5, descriptorIndex := 223, attributes := #[] }, { accessFlags := 1, nameIndex := 41, descriptorIndex := 38, attributes := #[] }, { accessFlags := 33, nameIndex := 29, descriptorIndex := 30, attributes := #[] }, { accessFlags := 258, nameIndex := 29, descriptorIndex := 204, attributes := #[] }] 33 2 #[318] #[{ accessFlags := 26, nameIndex := 320, descriptorIndex := 321, attributes := #[] }, { accessFlags := 130, nameIndex := 200, descriptorIndex := 201, attributes := #[] }, { accessFlags := 2, nameIndex := 33, descriptorIndex := 34, attributes := #[] }, { accessFlags := 26, nameIndex := 15, descriptorIndex := 16, attributes := #[] }, { accessFlags := 2, nameIndex := 11, descriptorIndex := 12, attributes := #[] }, { accessFlags := 2, nameIndex := 19, descriptorIndex := 16, attributes := #[] }, { accessFlags := 130, nameIndex := 211, descriptorIndex := 212, attributes := #[] }, { accessFlags := 26, nameIndex := 22, descriptorIndex := 23, attributes := #[] }, { accessFlags := 2, nameIndex := 26, descriptorIndex := 23, attributes := #[] }, { accessFlags := 26, nameIndex := 327, descriptorIndex := 34, attributes := #[] }, { accessFlags := 26, nameIndex := 328, descriptorIndex := 34, attributes := #[] }, { accessFlags := 26, nameIndex := 329, descriptorIndex := 34, attributes := #[] }, { accessFlags := 26, nameIndex := 330, descriptorIndex := 34, attributes := #[] }, { accessFlags := 26, nameIndex := 304, descriptorIndex := 305, attributes := #[] }, { accessFlags := 4120, nameIndex := 165, descriptorIndex := 166, attributes := #[] }])
  fields := #[{ name := "serialVersionUID", type := .long, accessFlags := 26, slot := 0, constantValue := 0 }, { name := "backtrace", type := (.object "java/lang/Object"), accessFlags := 130, slot := 0, constantValue := 0 }, { name := "detailMessage", type := (.object "java/lang/String"), accessFlags := 2, slot := 1, constantValue := 0 }, { name := "UNASSIGNED_STACK", type := (.array (.object "java/lang/StackTraceElement")), accessFlags := 26, slot := 1, constantValue := 0 }, { name := "cause", type := (.object "java/lang/Throwable"), accessFlags := 2, slot := 2, constantValue := 0 }, { name := "stackTrace", type := (.array (.object "java/lang/StackTraceElement")), accessFlags := 2, slot := 3, constantValue := 0 }, { name := "depth", type := .int, accessFlags := 130, slot := 4, constantValue := 0 }, { name := "SUPPRESSED_SENTINEL", type := (.object "java/util/List"), accessFlags := 26, slot := 2, constantValue := 0 }, { name := "suppressedExceptions", type := (.object "java/util/List"), accessFlags := 2, slot := 5, constantValue := 0 }, { name := "NULL_CAUSE_MESSAGE", type := (.object "java/lang/String"), accessFlags := 26, slot := 3, constantValue := 0 }, { name := "SELF_SUPPRESSION_MESSAGE", type := (.object "java/lang/String"), accessFlags := 26, slot := 4, constantValue := 0 }, { name := "CAUSE_CAPTION", type := (.object "java/lang/String"), accessFlags := 26, slot := 5, constantValue := 0 }, { name := "SUPPRESSED_CAPTION", type := (.object "java/lang/String"), accessFlags := 26, slot := 6, constantValue := 0 }, { name := "EMPTY_THROWABLE_ARRAY", type := (.array (.object "java/lang/Throwable")), accessFlags := 26, slot := 7, constantValue := 0 }, { name := "$assertionsDisabled", type := .boolean, accessFlags := 4120, slot := 8, constantValue := 0 }]
  methods := #[k10m0, k10m1, k10m2, k10m3, k10m4]
  instanceTypes := #[(.object "java/lang/Object"), (.object "java/lang/String"), (.object "java/lang/Throwable"), (.array (.object "java/lang/StackTraceElement")), .int, (.object "java/util/List")]
  staticTypes := #[.long, (.array (.object "java/lang/StackTraceElement")), (.object "java/util/List"), (.object "java/lang/String"), (.object "java/lang/String"), (.object "java/lang/String"), (.object "java/lang/String"), (.array (.object "java/lang/Throwable")), .boolean]
  resolved := Array.replicate 404 none
  statics := some 1 }

def pool11 : Array CpInfo := pool [(2, .class_ 4), (1, u "java/lang/Throwable"), (0, u "<init>"), (0, u "()V"), (0, .methodref 2 8), (0, .nameAndType 5 9), (0, u "(Ljava/lang/String;)V"), (9, .class_ 20), (0, u "java/lang/Exception"), (0, u "serialVersionUID"), (0, u "J")] 17

def k11m0 : Method := { name := "<init>", desc := "()V", sig := { parameters := [], returnType := none }, accessFlags := 1, code := none }
def k11c1 : Code := { maxStack := 2, maxLocals := 2, code := jdk_59_method_2_code, exceptionTable := #[], attributes := #[] }
def k11m1 : Method := { name := "<init>", desc := "(Ljava/lang/String;)V", sig := { parameters := [(.object "java/lang/String")], returnType := none }, accessFlags := 1, code := some k11c1 }
/-- java/lang/Exception -/
def k11 : Class := { plain "java/lang/Exception" (some 10) with
  accessFlags := 33
  interfaces := #[]
  cf := some (fileOf pool11 19 #[] #[{ accessFlags := 1, nameIndex := 5, descriptorIndex := 6, attributes := #[] }, { accessFlags := 1, nameIndex := 5, descriptorIndex := 9, attributes := #[] }] 33 2 #[] #[{ accessFlags := 24, nameIndex := 21, descriptorIndex := 22, attributes := #[] }])
  fields := #[{ name := "serialVersionUID", type := .long, accessFlags := 24, slot := 0, constantValue := 0 }]
  methods := #[k11m0, k11m1]
  instanceTypes := #[(.object "java/lang/Object"), (.object "java/lang/String"), (.object "java/lang/Throwable"), (.array (.object "java/lang/StackTraceElement")), .int, (.object "java/util/List")]
  staticTypes := #[.long]
  resolved := Array.replicate 40 none
  statics := none }

def pool12 : Array CpInfo := pool [(1, .class_ 2), (0, u "java/lang/StringBuilder"), (0, .methodref 1 4), (0, .nameAndType 5 6), (0, u "<init>"), (0, u "()V"), (0, .methodref 1 8), (0, .nameAndType 9 10), (0, u "append"), (0, u "(Ljava/lang/String;)Ljava/lang/StringBuilder;"), (0, .string 12), (0, u ":"), (0, .methodref 1 14), (0, .nameAndType 9 15), (0, u "(I)Ljava/lang/StringBuilder;"), (0, .methodref 1 17), (0, .nameAndType 18 19), (0, u "toString"), (0, u "()Ljava/lang/String;"), (0, .string 21), (0, u ""), (0, .string 23), (0, u ": "), (0, .methodref 25 26), (0, .class_ 27), (0, .nameAndType 5 28), (0, u "java/lang/Exception"), (0, u "(Ljava/lang/String;)V"), (0, .class_ 30), (0, u "com/example/claimgate/claimgate/config/ConfigException"), (0, u "serialVersionUID"), (0, u "J"), (3, u "(Ljava/lang/String;ILjava/lang/String;)V")] 7

def k12c0 : Code := { maxStack := 4, maxLocals := 4, code := prog_18_method_1_code, exceptionTable := #[], attributes := #[] }
def k12m0 : Method := { name := "<init>", desc := "(Ljava/lang/String;ILjava/lang/String;)V", sig := { parameters := [(.object "java/lang/String"), .int, (.object "java/lang/String")], returnType := none }, accessFlags := 0, code := some k12c0 }
/-- com/example/claimgate/claimgate/config/ConfigException -/
def k12 : Class := { plain "com/example/claimgate/claimgate/config/ConfigException" (some 11) with
  accessFlags := 49
  interfaces := #[]
  cf := some (fileOf pool12 29 #[] #[{ accessFlags := 0, nameIndex := 5, descriptorIndex := 36, attributes := #[] }] 49 25 #[] #[{ accessFlags := 26, nameIndex := 31, descriptorIndex := 32, attributes := #[] }])
  fields := #[{ name := "serialVersionUID", type := .long, accessFlags := 26, slot := 0, constantValue := 0 }]
  methods := #[k12m0]
  instanceTypes := #[(.object "java/lang/Object"), (.object "java/lang/String"), (.object "java/lang/Throwable"), (.array (.object "java/lang/StackTraceElement")), .int, (.object "java/util/List")]
  staticTypes := #[.long]
  resolved := Array.replicate 44 none
  statics := none }

def pool13 : Array CpInfo := pool [(1, .class_ 2), (0, u "java/lang/Appendable"), (0, .class_ 4), (0, u "java/lang/Object")] 9

/-- java/lang/Appendable -/
def k13 : Class := { plain "java/lang/Appendable" (some 0) with
  accessFlags := 1537
  interfaces := #[]
  cf := some (fileOf pool13 1 #[] #[] 1537 3 #[] #[])
  fields := #[]
  methods := #[]
  instanceTypes := #[]
  staticTypes := #[]
  resolved := Array.replicate 14 none
  statics := none }

def pool14 : Array CpInfo := pool [(1, .class_ 2), (0, u "java/lang/String"), (0, .methodref 4 5), (0, .class_ 6), (0, .nameAndType 7 8), (0, u "java/lang/Object"), (0, u "<init>"), (0, u "()V"), (1, .class_ 12), (1, u "java/lang/AbstractStringBuilder"), (0, u "EMPTYVALUE"), (0, u "[B"), (0, .fieldref 10 16), (0, .nameAndType 17 14), (0, u "value"), (0, .fieldref 1 19), (0, .nameAndType 20 21), (0, u "COMPACT_STRINGS"), (0, u "Z"), (0, .fieldref 10 23), (0, .nameAndType 24 25), (0, u "coder"), (0, u "B"), (6, .methodref 1 33), (0, .nameAndType 34 35), (0, u "length"), (0, u "()I"), (0, .class_ 37), (0, u "java/lang/Integer"), (1, .integer 2147483647), (0, .methodref 1 41), (0, .nameAndType 24 42), (0, u "()B"), (2, u "append"), (0, u "(Ljava/lang/String;)Ljava/lang/AbstractStringBuilder;"), (1, .class_ 49), (0, u "java/lang/CharSequence"), (19, u "(Ljava/lang/String;)V"), (5, u "maybeLatin1"), (3, .fieldref 10 80), (0, .nameAndType 81 82), (0, u "count"), (0, u "I"), (0, .methodref 10 84), (0, .nameAndType 85 86), (0, u "isLatin1"), (0, u "()Z"), (13, .methodref 10 101), (0, .nameAndType 102 103), (0, u "ensureCapacityInternal"), (0, u "(I)V"), (0, .methodref 10 105), (0, .nameAndType 106 107), (0, u "newCapacity"), (0, u "(I)I"), (0, .methodref 109 110), (0, .class_ 111), (0, .nameAndType 112 113), (0, u "java/util/Arrays"), (0, u "copyOf"), (0, u "([BI)[B"), (0, .methodref 115 116), (0, .class_ 117), (0, .nameAndType 118 119), (0, u "jdk/internal/util/ArraysSupport"), (0, u "newLength"), (0, u "(III)I"), (68, u "getChars"), (19, .methodref 10 209), (0, .nameAndType 210 211), (0, u "putStringAt"), (0, u "(ILjava/lang/String;)V"), (5, u "inflateIfNeededFor"), (2, .nameAndType 221 222), (0, u "getBytes"), (0, u "([BIB)V"), (22, .methodref 36 246), (0, .nameAndType 247 107), (0, u "stringSize"), (0, .methodref 36 249), (0, .nameAndType 188 250), (0, u "(II[B)I"), (146, .methodref 10 398), (0, .nameAndType 217 69), (0, .methodref 1 220), (3, u "()[B"), (40, .class_ 445), (0, u "java/lang/Appendable"), (65, u "(I)Ljava/lang/AbstractStringBuilder;"), (40, u "getValue")] 56

def k14m0 : Method := { name := "<init>", desc := "()V", sig := { parameters := [], returnType := none }, accessFlags := 0, code := none }
def k14c1 : Code := { maxStack := 2, maxLocals := 2, code := jdk_68_method_2_code, exceptionTable := #[], attributes := #[] }
def k14m1 : Method := { name := "<init>", desc := "(I)V", sig := { parameters := [.int], returnType := none }, accessFlags := 0, code := some k14c1 }
def k14c2 : Code := { maxStack := 1, maxLocals := 1, code := jdk_68_method_6_code, exceptionTable := #[], attributes := #[] }
def k14m2 : Method := { name := "length", desc := "()I", sig := { parameters := [], returnType := some .int }, accessFlags := 1, code := some k14c2 }
def k14c3 : Code := { maxStack := 4, maxLocals := 3, code := jdk_68_method_9_code, exceptionTable := #[], attributes := #[] }
def k14m3 : Method := { name := "ensureCapacityInternal", desc := "(I)V", sig := { parameters := [.int], returnType := none }, accessFlags := 2, code := some k14c3 }
def k14c4 : Code := { maxStack := 5, maxLocals := 6, code := jdk_68_method_10_code, exceptionTable := #[], attributes := #[] }
def k14m4 : Method := { name := "newCapacity", desc := "(I)I", sig := { parameters := [.int], returnType := some .int }, accessFlags := 2, code := some k14c4 }
def k14c5 : Code := { maxStack := 3, maxLocals := 3, code := jdk_68_method_22_code, exceptionTable := #[], attributes := #[] }
def k14m5 : Method := { name := "append", desc := "(Ljava/lang/String;)Ljava/lang/AbstractStringBuilder;", sig := { parameters := [(.object "java/lang/String")], returnType := some (.object "java/lang/AbstractStringBuilder") }, accessFlags := 1, code := some k14c5 }
def k14c6 : Code := { maxStack := 4, maxLocals := 4, code := jdk_68_method_32_code, exceptionTable := #[], attributes := #[] }
def k14m6 : Method := { name := "append", desc := "(I)Ljava/lang/AbstractStringBuilder;", sig := { parameters := [.int], returnType := some (.object "java/lang/AbstractStringBuilder") }, accessFlags := 1, code := some k14c6 }
def k14c7 : Code := { maxStack := 1, maxLocals := 1, code := jdk_68_method_64_code, exceptionTable := #[], attributes := #[] }
def k14m7 : Method := { name := "getValue", desc := "()[B", sig := { parameters := [], returnType := some (.array .byte) }, accessFlags := 16, code := some k14c7 }
def k14c8 : Code := { maxStack := 1, maxLocals := 1, code := jdk_68_method_68_code, exceptionTable := #[], attributes := #[] }
def k14m8 : Method := { name := "isLatin1", desc := "()Z", sig := { parameters := [], returnType := some .boolean }, accessFlags := 16, code := some k14c8 }
def k14c9 : Code := { maxStack := 2, maxLocals := 2, code := jdk_68_method_71_code, exceptionTable := #[], attributes := #[] }
def k14m9 : Method := { name := "inflateIfNeededFor", desc := "(Ljava/lang/String;)V", sig := { parameters := [(.object "java/lang/String")], returnType := none }, accessFlags := 2, code := some k14c9 }
def k14c10 : Code := { maxStack := 4, maxLocals := 3, code := jdk_68_method_73_code, exceptionTable := #[], attributes := #[] }
def k14m10 : Method := { name := "putStringAt", desc := "(ILjava/lang/String;)V", sig := { parameters := [.int, (.object "java/lang/String")], returnType := none }, accessFlags := 2, code := some k14c10 }
/-- java/lang/AbstractStringBuilder -/
def k14 : Class := { plain "java/lang/AbstractStringBuilder" (some 0) with
  accessFlags := 1056
  interfaces := #[13, 4]
  cf := some (fileOf pool14 10 #[] #[{ accessFlags := 0, nameIndex := 7, descriptorIndex := 8, attributes := #[] }, { accessFlags := 0, nameIndex := 7, descriptorIndex := 103, attributes := #[] }, { accessFlags := 1, nameIndex := 34, descriptorIndex := 35, attributes := #[] }, { accessFlags := 2, nameIndex := 102, descriptorIndex := 103, attributes := #[] }, { accessFlags := 2, nameIndex := 106, descriptorIndex := 107, attributes := #[] }, { accessFlags := 1, nameIndex := 45, descriptorIndex := 46, attributes := #[] }, { accessFlags := 1, nameIndex := 45, descriptorIndex := 511, attributes := #[] }, { accessFlags := 16, nameIndex := 552, descriptorIndex := 403, attributes := #[] }, { accessFlags := 16, nameIndex := 85, descriptorIndex := 86, attributes := #[] }, { accessFlags := 2, nameIndex := 217, descriptorIndex := 69, attributes := #[] }, { accessFlags := 2, nameIndex := 210, descriptorIndex := 211, attributes := #[] }] 1056 4 #[444, 48] #[{ accessFlags := 0, nameIndex := 17, descriptorIndex := 14, attributes := #[] }, { accessFlags := 0, nameIndex := 24, descriptorIndex := 25, attributes := #[] }, { accessFlags := 0, nameIndex := 75, descriptorIndex := 21, attributes := #[] }, { accessFlags := 0, nameIndex := 81, descriptorIndex := 82, attributes := #[] }, { accessFlags := 26, nameIndex := 13, descriptorIndex := 14, attributes := #[] }])
  fields := #[{ name := "value", type := (.array .byte), accessFlags := 0, slot := 0, constantValue := 0 }, { name := "coder", type := .byte, accessFlags := 0, slot := 1, constantValue := 0 }, { name := "maybeLatin1", type := .boolean, accessFlags := 0, slot := 2, constantValue := 0 }, { name := "count", type := .int, accessFlags := 0, slot := 3, constantValue := 0 }, { name := "EMPTYVALUE", type := (.array .byte), accessFlags := 26, slot := 0, constantValue := 0 }]
  methods := #[k14m0, k14m1, k14m2, k14m3, k14m4, k14m5, k14m6, k14m7, k14m8, k14m9, k14m10]
  instanceTypes := #[(.array .byte), .byte, .boolean, .int]
  staticTypes := #[(.array .byte)]
  resolved := Array.replicate 609 none
  statics := none }

def pool15 : Array CpInfo := pool [(1, .methodref 2 3), (0, .class_ 4), (0, .nameAndType 5 6), (0, u "java/lang/AbstractStringBuilder"), (0, u "<init>"), (0, u "(I)V"), (11, .class_ 20), (1, u "java/lang/String"), (3, .class_ 26), (1, u "java/lang/StringBuilder"), (0, u "append"), (0, u "(Ljava/lang/String;)Ljava/lang/StringBuilder;"), (0, .methodref 2 30), (0, .nameAndType 27 31), (0, u "(Ljava/lang/String;)Ljava/lang/AbstractStringBuilder;"), (21, .methodref 2 54), (0, .nameAndType 27 55), (0, u "(I)Ljava/lang/AbstractStringBuilder;"), (81, .methodref 18 138), (0, .nameAndType 5 139), (0, u "(Ljava/lang/StringBuilder;)V"), (5, u "()V"), (10, u "()I"), (111, u "(I)Ljava/lang/StringBuilder;"), (74, .methodref 2 344), (0, .nameAndType 345 156), (0, u "length"), (3, .class_ 350), (0, u "java/lang/Appendable"), (0, .class_ 352), (0, u "java/io/Serializable"), (0, .class_ 354), (0, u "java/lang/Comparable"), (0, .class_ 356), (0, u "java/lang/CharSequence"), (0, u "serialVersionUID"), (0, u "J"), (40, u "toString"), (0, u "()Ljava/lang/String;")] 21

def k15c0 : Code := { maxStack := 2, maxLocals := 1, code := jdk_67_method_1_code, exceptionTable := #[], attributes := #[] }
def k15m0 : Method := { name := "<init>", desc := "()V", sig := { parameters := [], returnType := none }, accessFlags := 1, code := some k15c0 }
def k15c1 : Code := { maxStack := 2, maxLocals := 2, code := jdk_67_method_7_code, exceptionTable := #[], attributes := #[] }
def k15m1 : Method := { name := "append", desc := "(Ljava/lang/String;)Ljava/lang/StringBuilder;", sig := { parameters := [(.object "java/lang/String")], returnType := some (.object "java/lang/StringBuilder") }, accessFlags := 1, code := some k15c1 }
def k15c2 : Code := { maxStack := 2, maxLocals := 2, code := jdk_67_method_15_code, exceptionTable := #[], attributes := #[] }
def k15m2 : Method := { name := "append", desc := "(I)Ljava/lang/StringBuilder;", sig := { parameters := [.int], returnType := some (.object "java/lang/StringBuilder") }, accessFlags := 1, code := some k15c2 }
def k15c3 : Code := { maxStack := 3, maxLocals := 1, code := jdk_67_method_42_code, exceptionTable := #[], attributes := #[] }
def k15m3 : Method := { name := "toString", desc := "()Ljava/lang/String;", sig := { parameters := [], returnType := some (.object "java/lang/String") }, accessFlags := 1, code := some k15c3 }
def k15c4 : Code := { maxStack := 1, maxLocals := 1, code := jdk_67_method_93_code, exceptionTable := #[], attributes := #[] }
def k15m4 : Method := { name := "length", desc := "()I", sig := { parameters := [], returnType := some .int }, accessFlags := 4161, code := some k15c4 }
/-- java/lang/StringBuilder -/
def k15 : Class := { plain "java/lang/StringBuilder" (some 14) with
  accessFlags := 49
  interfaces := #[13, 2, 3, 4]
  cf := some (fileOf pool15 24 #[] #[{ accessFlags := 1, nameIndex := 5, descriptorIndex := 145, attributes := #[] }, { accessFlags := 1, nameIndex := 27, descriptorIndex := 28, attributes := #[] }, { accessFlags := 1, nameIndex := 27, descriptorIndex := 268, attributes := #[] }, { accessFlags := 1, nameIndex := 399, descriptorIndex := 400, attributes := #[] }, { accessFlags := 4161, nameIndex := 345, descriptorIndex := 156, attributes := #[] }] 49 2 #[349, 351, 353, 355] #[{ accessFlags := 24, nameIndex := 357, descriptorIndex := 358, attributes := #[] }])
  fields := #[{ name := "serialVersionUID", type := .long, accessFlags := 24, slot := 0, constantValue := 0 }]
  methods := #[k15m0, k15m1, k15m2, k15m3, k15m4]
  instanceTypes := #[(.array .byte), .byte, .boolean, .int]
  staticTypes := #[.long]
  resolved := Array.replicate 422 none
  statics := none }

def pool16 : Array CpInfo := pool [(2, .class_ 4), (1, u "java/lang/Object"), (0, u "<init>"), (0, u "()V"), (1, .class_ 10), (1, u "java/lang/System"), (0, u "allowSecurityManager"), (0, u "I"), (16, u "cons"), (0, u "Ljava/io/Console;"), (77, .class_ 110), (1, u "java/lang/System$CallersHolder"), (43, u "initialErrStream"), (0, u "Ljava/io/PrintStream;"), (19, u "security"), (0, u "Ljava/lang/SecurityManager;"), (31, .class_ 209), (0, u "java/lang/System$1"), (7, u "props"), (0, u "Ljava/util/Properties;"), (2, u "lineSeparator"), (0, u "Ljava/lang/String;"), (96, .class_ 321), (1, u "java/lang/System$LoggerFinder"), (5, .class_ 328), (0, u "java/lang/System$Logger"), (67, u "err"), (2, u "out"), (91, u "notSupportedJnuEncoding"), (15, u "in"), (17, u "initialIn"), (0, u "Ljava/io/InputStream;"), (35, u "bootLayer"), (0, u "Ljava/lang/ModuleLayer;"), (99, .class_ 664), (0, u "java/lang/System$2"), (9, u "NEVER"), (2, u "MAYBE"), (49, u "arraycopy"), (0, u "(Ljava/lang/Object;ILjava/lang/Object;II)V"), (72, .class_ 802), (0, u "java/lang/System$Logger$Level")] 31

def k16m0 : Method := { name := "<init>", desc := "()V", sig := { parameters := [], returnType := none }, accessFlags := 2, code := none }
def k16m1 : Method := { name := "arraycopy", desc := "(Ljava/lang/Object;ILjava/lang/Object;II)V", sig := { parameters := [(.object "java/lang/Object"), .int, (.object "java/lang/Object"), .int, .int], returnType := none }, accessFlags := 265, code := none }
/-- java/lang/System -/
def k16 : Class := { plain "java/lang/System" (some 0) with
  accessFlags := 49
  interfaces := #[]
  cf := some (fileOf pool16 8 #[.nestMembers #[319, 327, 801, 108, 663, 208]] #[{ accessFlags := 2, nameIndex := 5, descriptorIndex := 6, attributes := #[] }, { accessFlags := 265, nameIndex := 727, descriptorIndex := 728, attributes := #[] }] 49 2 #[] #[{ accessFlags := 25, nameIndex := 507, descriptorIndex := 526, attributes := #[] }, { accessFlags := 25, nameIndex := 399, descriptorIndex := 155, attributes := #[] }, { accessFlags := 25, nameIndex := 396, descriptorIndex := 155, attributes := #[] }, { accessFlags := 10, nameIndex := 525, descriptorIndex := 526, attributes := #[] }, { accessFlags := 26, nameIndex := 674, descriptorIndex := 12, attributes := #[] }, { accessFlags := 26, nameIndex := 677, descriptorIndex := 12, attributes := #[] }, { accessFlags := 10, nameIndex := 11, descriptorIndex := 12, attributes := #[] }, { accessFlags := 74, nameIndex := 175, descriptorIndex := 176, attributes := #[] }, { accessFlags := 10, nameIndex := 491, descriptorIndex := 222, attributes := #[] }, { accessFlags := 74, nameIndex := 29, descriptorIndex := 30, attributes := #[] }, { accessFlags := 74, nameIndex := 154, descriptorIndex := 155, attributes := #[] }, { accessFlags := 10, nameIndex := 217, descriptorIndex := 218, attributes := #[] }, { accessFlags := 10, nameIndex := 221, descriptorIndex := 222, attributes := #[] }, { accessFlags := 8, nameIndex := 562, descriptorIndex := 563, attributes := #[] }])
  fields := #[{ name := "in", type := (.object "java/io/InputStream"), accessFlags := 25, slot := 0, constantValue := 0 }, { name := "out", type := (.object "java/io/PrintStream"), accessFlags := 25, slot := 1, constantValue := 0 }, { name := "err", type := (.object "java/io/PrintStream"), accessFlags := 25, slot := 2, constantValue := 0 }, { name := "initialIn", type := (.object "java/io/InputStream"), accessFlags := 10, slot := 3, constantValue := 0 }, { name := "NEVER", type := .int, accessFlags := 26, slot := 4, constantValue := 0 }, { name := "MAYBE", type := .int, accessFlags := 26, slot := 5, constantValue := 0 }, { name := "allowSecurityManager", type := .int, accessFlags := 10, slot := 6, constantValue := 0 }, { name := "security", type := (.object "java/lang/SecurityManager"), accessFlags := 74, slot := 7, constantValue := 0 }, { name := "notSupportedJnuEncoding", type := (.object "java/lang/String"), accessFlags := 10, slot := 8, constantValue := 0 }, { name := "cons", type := (.object "java/io/Console"), accessFlags := 74, slot := 9, constantValue := 0 }, { name := "initialErrStream", type := (.object "java/io/PrintStream"), accessFlags := 74, slot := 10, constantValue := 0 }, { name := "props", type := (.object "java/util/Properties"), accessFlags := 10, slot := 11, constantValue := 0 }, { name := "lineSeparator", type := (.object "java/lang/String"), accessFlags := 10, slot := 12, constantValue := 0 }, { name := "bootLayer", type := (.object "java/lang/ModuleLayer"), accessFlags := 8, slot := 13, constantValue := 0 }]
  methods := #[k16m0, k16m1]
  instanceTypes := #[]
  staticTypes := #[(.object "java/io/InputStream"), (.object "java/io/PrintStream"), (.object "java/io/PrintStream"), (.object "java/io/InputStream"), .int, .int, .int, (.object "java/lang/SecurityManager"), (.object "java/lang/String"), (.object "java/io/Console"), (.object "java/io/PrintStream"), (.object "java/util/Properties"), (.object "java/lang/String"), (.object "java/lang/ModuleLayer")]
  resolved := Array.replicate 834 none
  statics := none }

def pool17 : Array CpInfo := pool [(2, .class_ 4), (1, u "java/lang/Object"), (0, u "<init>"), (0, u "()V"), (1, .class_ 10), (1, u "java/lang/Number"), (2, .class_ 14), (0, u "java/io/Serializable"), (0, u "serialVersionUID"), (0, u "J")] 20

def k17m0 : Method := { name := "<init>", desc := "()V", sig := { parameters := [], returnType := none }, accessFlags := 1, code := none }
/-- java/lang/Number -/
def k17 : Class := { plain "java/lang/Number" (some 0) with
  accessFlags := 1057
  interfaces := #[2]
  cf := some (fileOf pool17 8 #[] #[{ accessFlags := 1, nameIndex := 5, descriptorIndex := 6, attributes := #[] }] 1057 2 #[13] #[{ accessFlags := 26, nameIndex := 15, descriptorIndex := 16, attributes := #[] }])
  fields := #[{ name := "serialVersionUID", type := .long, accessFlags := 26, slot := 0, constantValue := 0 }]
  methods := #[k17m0]
  instanceTypes := #[]
  staticTypes := #[.long]
  resolved := Array.replicate 37 none
  statics := none }

def pool18 : Array CpInfo := pool [(1, .class_ 2), (0, u "java/lang/Integer"), (16, u "digits"), (0, u "[C"), (33, u "(I)I"), (19, u "stringSize"), (2, u "getChars"), (0, u "(II[B)I"), (4, .fieldref 1 84), (0, .nameAndType 85 86), (0, u "DigitOnes"), (0, u "[B"), (0, .fieldref 1 88), (0, .nameAndType 89 86), (0, u "DigitTens"), (99, .class_ 190), (0, u "java/lang/Integer$IntegerCache"), (3, u "I"), (8, .class_ 204), (0, u "java/lang/Number"), (2, u "value"), (94, u "TYPE"), (0, u "Ljava/lang/Class;"), (0, .class_ 305), (0, u "java/lang/Comparable"), (0, .class_ 307), (0, u "java/lang/constant/Constable"), (0, .class_ 309), (0, u "java/lang/constant/ConstantDesc"), (0, u "MIN_VALUE"), (1, u "MAX_VALUE"), (3, u "SIZE"), (1, u "BYTES"), (1, u "serialVersionUID"), (0, u "J")] 131

def k18c0 : Code := { maxStack := 4, maxLocals := 7, code := jdk_33_method_12_code, exceptionTable := #[], attributes := #[] }
def k18m0 : Method := { name := "getChars", desc := "(II[B)I", sig := { parameters := [.int, .int, (.array .byte)], returnType := some .int }, accessFlags := 8, code := some k18c0 }
def k18c1 : Code := { maxStack := 2, maxLocals := 4, code := jdk_33_method_13_code, exceptionTable := #[], attributes := #[] }
def k18m1 : Method := { name := "stringSize", desc := "(I)I", sig := { parameters := [.int], returnType := some .int }, accessFlags := 8, code := some k18c1 }
/-- java/lang/Integer -/
def k18 : Class := { plain "java/lang/Integer" (some 17) with
  accessFlags := 49
  interfaces := #[3, 5, 6]
  cf := some (fileOf pool18 1 #[.nestMembers #[189]] #[{ accessFlags := 8, nameIndex := 77, descriptorIndex := 78, attributes := #[] }, { accessFlags := 8, nameIndex := 74, descriptorIndex := 54, attributes := #[] }] 49 203 #[304, 306, 308] #[{ accessFlags := 25, nameIndex := 310, descriptorIndex := 194, attributes := #[] }, { accessFlags := 25, nameIndex := 312, descriptorIndex := 194, attributes := #[] }, { accessFlags := 25, nameIndex := 302, descriptorIndex := 303, attributes := #[] }, { accessFlags := 24, nameIndex := 19, descriptorIndex := 20, attributes := #[] }, { accessFlags := 24, nameIndex := 89, descriptorIndex := 86, attributes := #[] }, { accessFlags := 24, nameIndex := 85, descriptorIndex := 86, attributes := #[] }, { accessFlags := 18, nameIndex := 207, descriptorIndex := 194, attributes := #[] }, { accessFlags := 25, nameIndex := 316, descriptorIndex := 194, attributes := #[] }, { accessFlags := 25, nameIndex := 318, descriptorIndex := 194, attributes := #[] }, { accessFlags := 26, nameIndex := 320, descriptorIndex := 321, attributes := #[] }])
  fields := #[{ name := "MIN_VALUE", type := .int, accessFlags := 25, slot := 0, constantValue := 0 }, { name := "MAX_VALUE", type := .int, accessFlags := 25, slot := 1, constantValue := 0 }, { name := "TYPE", type := (.object "java/lang/Class"), accessFlags := 25, slot := 2, constantValue := 0 }, { name := "digits", type := (.array .char), accessFlags := 24, slot := 3, constantValue := 0 }, { name := "DigitTens", type := (.array .byte), accessFlags := 24, slot := 4, constantValue := 0 }, { name := "DigitOnes", type := (.array .byte), accessFlags := 24, slot := 5, constantValue := 0 }, { name := "value", type := .int, accessFlags := 18, slot := 0, constantValue := 0 }, { name := "SIZE", type := .int, accessFlags := 25, slot := 6, constantValue := 0 }, { name := "BYTES", type := .int, accessFlags := 25, slot := 7, constantValue := 0 }, { name := "serialVersionUID", type := .long, accessFlags := 26, slot := 8, constantValue := 0 }]
  methods := #[k18m0, k18m1]
  instanceTypes := #[.int]
  staticTypes := #[.int, .int, (.object "java/lang/Class"), (.array .char), (.array .byte), (.array .byte), .int, .int, .long]
  resolved := Array.replicate 453 none
  statics := some 2 }

def pool19 : Array CpInfo := pool [(2, .class_ 4), (1, u "java/lang/Object"), (0, u "<init>"), (0, u "()V"), (7, .class_ 16), (1, u "java/util/Arrays"), (57, .class_ 76), (1, u "java/util/Arrays$NaturalOrder"), (32, u "()Ljava/lang/Object;"), (3, .class_ 115), (1, u "java/util/Arrays$LegacyMergeSort"), (1, u "Z"), (10, .nameAndType 129 109), (0, u "clone"), (9, u "copyOfRange"), (10, .methodref 151 152), (0, .class_ 153), (0, .nameAndType 154 155), (0, u "java/lang/System"), (0, u "arraycopy"), (0, u "(Ljava/lang/Object;ILjava/lang/Object;II)V"), (146, u "copyOf"), (1, .methodref 305 306), (0, .class_ 307), (0, .nameAndType 308 309), (0, u "java/lang/Math"), (0, u "min"), (0, u "(II)I"), (0, .methodref 311 128), (0, .class_ 312), (0, u "[B"), (26, .methodref 14 340), (0, .nameAndType 341 342), (0, u "copyOfRangeByte"), (0, u "([BII)[B"), (0, .methodref 14 344), (0, .nameAndType 345 346), (0, u "checkLength"), (0, u "(II)V"), (28, .class_ 376), (0, u "java/util/Arrays$ArrayList"), (68, u "$assertionsDisabled"), (269, u "MIN_ARRAY_SORT_GRAN"), (0, u "I"), (2, u "INSERTIONSORT_THRESHOLD"), (149, u "([BI)[B"), (105, .class_ 976), (0, u "java/util/Arrays$ArrayItr")] 52

def k19m0 : Method := { name := "<init>", desc := "()V", sig := { parameters := [], returnType := none }, accessFlags := 2, code := none }
def k19c1 : Code := { maxStack := 6, maxLocals := 3, code := jdk_65_method_121_code, exceptionTable := #[], attributes := #[] }
def k19m1 : Method := { name := "copyOf", desc := "([BI)[B", sig := { parameters := [(.array .byte), .int], returnType := some (.array .byte) }, accessFlags := 9, code := some k19c1 }
def k19c2 : Code := { maxStack := 4, maxLocals := 2, code := jdk_65_method_131_code, exceptionTable := #[], attributes := #[] }
def k19m2 : Method := { name := "checkLength", desc := "(II)V", sig := { parameters := [.int, .int], returnType := none }, accessFlags := 10, code := some k19c2 }
def k19c3 : Code := { maxStack := 3, maxLocals := 3, code := jdk_65_method_132_code, exceptionTable := #[], attributes := #[] }
def k19m3 : Method := { name := "copyOfRange", desc := "([BII)[B", sig := { parameters := [(.array .byte), .int, .int], returnType := some (.array .byte) }, accessFlags := 9, code := some k19c3 }
def k19c4 : Code := { maxStack := 6, maxLocals := 5, code := jdk_65_method_133_code, exceptionTable := #[], attributes := #[] }
def k19m4 : Method := { name := "copyOfRangeByte", desc := "([BII)[B", sig := { parameters := [(.array .byte), .int, .int], returnType := some (.array .byte) }, accessFlags := 10, code := some k19c4 }
/-- java/util/Arrays -/
def k19 : Class := { plain "java/util/Arrays" (some 0) with
  accessFlags := 49
  interfaces := #[]
  cf := some (fileOf pool19 14 #[.nestMembers #[975, 375, 113, 74]] #[{ accessFlags := 2, nameIndex := 5, descriptorIndex := 6, attributes := #[] }, { accessFlags := 9, nameIndex := 302, descriptorIndex := 869, attributes := #[] }, { accessFlags := 10, nameIndex := 345, descriptorIndex := 346, attributes := #[] }, { accessFlags := 9, nameIndex := 139, descriptorIndex := 342, attributes := #[] }, { accessFlags := 10, nameIndex := 341, descriptorIndex := 342, attributes := #[] }] 49 2 #[] #[{ accessFlags := 26, nameIndex := 715, descriptorIndex := 716, attributes := #[] }, { accessFlags := 26, nameIndex := 719, descriptorIndex := 716, attributes := #[] }, { accessFlags := 4120, nameIndex := 445, descriptorIndex := 117, attributes := #[] }])
  fields := #[{ name := "MIN_ARRAY_SORT_GRAN", type := .int, accessFlags := 26, slot := 0, constantValue := 0 }, { name := "INSERTIONSORT_THRESHOLD", type := .int, accessFlags := 26, slot := 1, constantValue := 0 }, { name := "$assertionsDisabled", type := .boolean, accessFlags := 4120, slot := 2, constantValue := 0 }]
  methods := #[k19m0, k19m1, k19m2, k19m3, k19m4]
  instanceTypes := #[]
  staticTypes := #[.int, .int, .boolean]
  resolved := Array.replicate 1029 none
  statics := none }

def pool20 : Array CpInfo := pool [(1, .class_ 2), (0, u "java/lang/Math"), (1, .class_ 6), (1, u "java/lang/Object"), (0, u "<init>"), (0, u "()V"), (89, .class_ 100), (1, u "java/lang/Math$RandomNumberGeneratorHolder"), (71, u "negativeZeroFloatBits"), (0, u "J"), (2, u "negativeZeroDoubleBits"), (21, u "max"), (2, u "min"), (43, u "$assertionsDisabled"), (0, u "Z"), (88, u "(II)I"), (2, u "twoToTheDoubleScaleDown"), (0, u "D"), (4, u "twoToTheDoubleScaleUp"), (9, u "E"), (3, u "PI"), (2, u "TAU"), (2, u "DEGREES_TO_RADIANS"), (0, u "RADIANS_TO_DEGREES")] 94

def k20m0 : Method := { name := "<init>", desc := "()V", sig := { parameters := [], returnType := none }, accessFlags := 2, code := none }
def k20c1 : Code := { maxStack := 2, maxLocals := 2, code := jdk_29_method_65_code, exceptionTable := #[], attributes := #[] }
def k20m1 : Method := { name := "max", desc := "(II)I", sig := { parameters := [.int, .int], returnType := some .int }, accessFlags := 9, code := some k20c1 }
def k20c2 : Code := { maxStack := 2, maxLocals := 2, code := jdk_29_method_69_code, exceptionTable := #[], attributes := #[] }
def k20m2 : Method := { name := "min", desc := "(II)I", sig := { parameters := [.int, .int], returnType := some .int }, accessFlags := 9, code := some k20c2 }
/-- java/lang/Math -/
def k20 : Class := { plain "java/lang/Math" (some 0) with
  accessFlags := 49
  interfaces := #[]
  cf := some (fileOf pool20 1 #[.nestMembers #[98]] #[{ accessFlags := 2, nameIndex := 7, descriptorIndex := 8, attributes := #[] }, { accessFlags := 9, nameIndex := 198, descriptorIndex := 335, attributes := #[] }, { accessFlags := 9, nameIndex := 201, descriptorIndex := 335, attributes := #[] }] 49 4 #[] #[{ accessFlags := 25, nameIndex := 354, descriptorIndex := 339, attributes := #[] }, { accessFlags := 25, nameIndex := 358, descriptorIndex := 339, attributes := #[] }, { accessFlags := 25, nameIndex := 361, descriptorIndex := 339, attributes := #[] }, { accessFlags := 26, nameIndex := 364, descriptorIndex := 339, attributes := #[] }, { accessFlags := 26, nameIndex := 365, descriptorIndex := 339, attributes := #[] }, { accessFlags := 26, nameIndex := 172, descriptorIndex := 173, attributes := #[] }, { accessFlags := 26, nameIndex := 176, descriptorIndex := 173, attributes := #[] }, { accessFlags := 8, nameIndex := 344, descriptorIndex := 339, attributes := #[] }, { accessFlags := 8, nameIndex := 338, descriptorIndex := 339, attributes := #[] }, { accessFlags := 4120, nameIndex := 245, descriptorIndex := 246, attributes := #[] }])
  fields := #[{ name := "E", type := .double, accessFlags := 25, slot := 0, constantValue := 0 }, { name := "PI", type := .double, accessFlags := 25, slot := 1, constantValue := 0 }, { name := "TAU", type := .double, accessFlags := 25, slot := 2, constantValue := 0 }, { name := "DEGREES_TO_RADIANS", type := .double, accessFlags := 26, slot := 3, constantValue := 0 }, { name := "RADIANS_TO_DEGREES", type := .double, accessFlags := 26, slot := 4, constantValue := 0 }, { name := "negativeZeroFloatBits", type := .long, accessFlags := 26, slot := 5, constantValue := 0 }, { name := "negativeZeroDoubleBits", type := .long, accessFlags := 26, slot := 6, constantValue := 0 }, { name := "twoToTheDoubleScaleUp", type := .double, accessFlags := 8, slot := 7, constantValue := 0 }, { name := "twoToTheDoubleScaleDown", type := .double, accessFlags := 8, slot := 8, constantValue := 0 }, { name := "$assertionsDisabled", type := .boolean, accessFlags := 4120, slot := 9, constantValue := 0 }]
  methods := #[k20m0, k20m1, k20m2]
  instanceTypes := #[]
  staticTypes := #[.double, .double, .double, .double, .double, .long, .long, .double, .double, .boolean]
  resolved := Array.replicate 460 none
  statics := none }

def pool21 : Array CpInfo := pool [(1, .class_ 2), (0, u "java/lang/String"), (1, .class_ 6), (1, u "java/lang/Object"), (0, u "<init>"), (0, u "()V"), (0, .methodref 1 10), (0, .nameAndType 11 12), (0, u "checkIndex"), (0, u "(II)V"), (1, .class_ 16), (1, u "java/lang/StringLatin1"), (36, u "([BI)C"), (67, u "$assertionsDisabled"), (0, u "Z"), (98, .class_ 223), (1, u "java/lang/StringLatin1$LinesSpliterator"), (28, u "charAt"), (137, .class_ 391), (0, u "java/lang/StringLatin1$CharsSpliterator")] 3

def k21m0 : Method := { name := "<init>", desc := "()V", sig := { parameters := [], returnType := none }, accessFlags := 0, code := none }
def k21c1 : Code := { maxStack := 2, maxLocals := 2, code := jdk_43_method_2_code, exceptionTable := #[], attributes := #[] }
def k21m1 : Method := { name := "charAt", desc := "([BI)C", sig := { parameters := [(.array .byte), .int], returnType := some .char }, accessFlags := 9, code := some k21c1 }
/-- java/lang/StringLatin1 -/
def k21 : Class := { plain "java/lang/StringLatin1" (some 0) with
  accessFlags := 48
  interfaces := #[]
  cf := some (fileOf pool21 14 #[.nestMembers #[390, 221]] #[{ accessFlags := 0, nameIndex := 7, descriptorIndex := 8, attributes := #[] }, { accessFlags := 9, nameIndex := 252, descriptorIndex := 53, attributes := #[] }] 48 4 #[] #[{ accessFlags := 4120, nameIndex := 121, descriptorIndex := 122, attributes := #[] }])
  fields := #[{ name := "$assertionsDisabled", type := .boolean, accessFlags := 4120, slot := 0, constantValue := 0 }]
  methods := #[k21m0, k21m1]
  instanceTypes := #[]
  staticTypes := #[.boolean]
  resolved := Array.replicate 395 none
  statics := none }

def pool22 : Array CpInfo := pool [(2, .class_ 4), (1, u "java/lang/Object"), (0, u "<init>"), (0, u "()V"), (17, .class_ 26), (1, u "jdk/internal/util/Preconditions"), (6, u "checkIndex"), (21, .class_ 56), (0, u "jdk/internal/util/Preconditions$4"), (57, .class_ 115), (0, u "jdk/internal/util/Preconditions$1"), (7, u "SIOOBE_FORMATTER"), (0, u "Ljava/util/function/BiFunction;"), (0, .class_ 126), (0, u "jdk/internal/util/Preconditions$2"), (3, u "AIOOBE_FORMATTER"), (0, .class_ 132), (0, u "jdk/internal/util/Preconditions$3"), (3, u "IOOBE_FORMATTER"), (41, u "(IILjava/util/function/BiFunction;)I")] 15

def k22m0 : Method := { name := "<init>", desc := "()V", sig := { parameters := [], returnType := none }, accessFlags := 1, code := none }
def k22c1 : Code := { maxStack := 3, maxLocals := 3, code := jdk_41_method_11_code, exceptionTable := #[], attributes := #[] }
def k22m1 : Method := { name := "checkIndex", desc := "(IILjava/util/function/BiFunction;)I", sig := { parameters := [.int, .int, (.object "java/util/function/BiFunction")], returnType := some .int }, accessFlags := 9, code := some k22c1 }
/-- jdk/internal/util/Preconditions -/
def k22 : Class := { plain "jdk/internal/util/Preconditions" (some 0) with
  accessFlags := 33
  interfaces := #[]
  cf := some (fileOf pool22 24 #[.nestMembers #[55, 131, 125, 114]] #[{ accessFlags := 1, nameIndex := 5, descriptorIndex := 6, attributes := #[] }, { accessFlags := 9, nameIndex := 33, descriptorIndex := 178, attributes := #[] }] 33 2 #[] #[{ accessFlags := 25, nameIndex := 123, descriptorIndex := 124, attributes := #[] }, { accessFlags := 25, nameIndex := 130, descriptorIndex := 124, attributes := #[] }, { accessFlags := 25, nameIndex := 136, descriptorIndex := 124, attributes := #[] }])
  fields := #[{ name := "SIOOBE_FORMATTER", type := (.object "java/util/function/BiFunction"), accessFlags := 25, slot := 0, constantValue := 0 }, { name := "AIOOBE_FORMATTER", type := (.object "java/util/function/BiFunction"), accessFlags := 25, slot := 1, constantValue := 0 }, { name := "IOOBE_FORMATTER", type := (.object "java/util/function/BiFunction"), accessFlags := 25, slot := 2, constantValue := 0 }]
  methods := #[k22m0, k22m1]
  instanceTypes := #[]
  staticTypes := #[(.object "java/util/function/BiFunction"), (.object "java/util/function/BiFunction"), (.object "java/util/function/BiFunction")]
  resolved := Array.replicate 194 none
  statics := some 3 }

def pool23 : Array CpInfo := pool [(1, .class_ 2), (0, u "java/lang/Cloneable"), (0, .class_ 4), (0, u "java/lang/Object")] 2

/-- java/lang/Cloneable -/
def k23 : Class := { plain "java/lang/Cloneable" (some 0) with
  accessFlags := 1537
  interfaces := #[]
  cf := some (fileOf pool23 1 #[] #[] 1537 3 #[] #[])
  fields := #[]
  methods := #[]
  instanceTypes := #[]
  staticTypes := #[]
  resolved := Array.replicate 7 none
  statics := none }

def pool24 : Array CpInfo := pool [(9, u "<init>"), (6, .class_ 18), (1, u "java/lang/Object"), (0, u "()V"), (1, .class_ 23), (1, u "jdk/internal/util/ArraysSupport"), (0, u "LOG2_ARRAY_LONG_INDEX_SCALE"), (0, u "I"), (2, u "U"), (0, u "Ljdk/internal/misc/Unsafe;"), (8, u "BIG_ENDIAN"), (0, u "Z"), (8, u "LOG2_BYTE_BIT_SIZE"), (4, u "LOG2_ARRAY_INT_INDEX_SCALE"), (54, u "JLA"), (0, u "Ljdk/internal/access/JavaLangAccess;"), (11, u "LOG2_ARRAY_BOOLEAN_INDEX_SCALE"), (9, u "LOG2_ARRAY_BYTE_INDEX_SCALE"), (5, u "LOG2_ARRAY_CHAR_INDEX_SCALE"), (5, u "LOG2_ARRAY_SHORT_INDEX_SCALE"), (18, u "LOG2_ARRAY_FLOAT_INDEX_SCALE"), (24, u "LOG2_ARRAY_DOUBLE_INDEX_SCALE"), (6, .methodref 195 196), (0, .class_ 197), (0, .nameAndType 198 199), (0, u "java/lang/Math"), (0, u "max"), (0, u "(II)I"), (0, .integer 2147483639), (76, u "T_BOOLEAN"), (2, u "T_CHAR"), (1, u "T_FLOAT"), (1, u "T_DOUBLE"), (1, u "T_BYTE"), (1, u "T_SHORT"), (1, u "T_INT"), (1, u "T_LONG"), (1, u "SOFT_MAX_ARRAY_LENGTH"), (56, u "newLength"), (0, u "(III)I")] 25

def k24m0 : Method := { name := "<init>", desc := "()V", sig := { parameters := [], returnType := none }, accessFlags := 2, code := none }
def k24c1 : Code := { maxStack := 3, maxLocals := 4, code := jdk_48_method_27_code, exceptionTable := #[], attributes := #[] }
def k24m1 : Method := { name := "newLength", desc := "(III)I", sig := { parameters := [.int, .int, .int], returnType := some .int }, accessFlags := 9, code := some k24c1 }
/-- jdk/internal/util/ArraysSupport -/
def k24 : Class := { plain "jdk/internal/util/ArraysSupport" (some 0) with
  accessFlags := 33
  interfaces := #[]
  cf := some (fileOf pool24 21 #[] #[{ accessFlags := 2, nameIndex := 9, descriptorIndex := 19, attributes := #[] }, { accessFlags := 9, nameIndex := 351, descriptorIndex := 352, attributes := #[] }] 33 16 #[] #[{ accessFlags := 24, nameIndex := 28, descriptorIndex := 29, attributes := #[] }, { accessFlags := 26, nameIndex := 38, descriptorIndex := 39, attributes := #[] }, { accessFlags := 25, nameIndex := 121, descriptorIndex := 25, attributes := #[] }, { accessFlags := 25, nameIndex := 131, descriptorIndex := 25, attributes := #[] }, { accessFlags := 25, nameIndex := 137, descriptorIndex := 25, attributes := #[] }, { accessFlags := 25, nameIndex := 143, descriptorIndex := 25, attributes := #[] }, { accessFlags := 25, nameIndex := 53, descriptorIndex := 25, attributes := #[] }, { accessFlags := 25, nameIndex := 24, descriptorIndex := 25, attributes := #[] }, { accessFlags := 25, nameIndex := 162, descriptorIndex := 25, attributes := #[] }, { accessFlags := 25, nameIndex := 187, descriptorIndex := 25, attributes := #[] }, { accessFlags := 26, nameIndex := 48, descriptorIndex := 25, attributes := #[] }, { accessFlags := 25, nameIndex := 277, descriptorIndex := 25, attributes := #[] }, { accessFlags := 25, nameIndex := 280, descriptorIndex := 25, attributes := #[] }, { accessFlags := 25, nameIndex := 282, descriptorIndex := 25, attributes := #[] }, { accessFlags := 25, nameIndex := 284, descriptorIndex := 25, attributes := #[] }, { accessFlags := 25, nameIndex := 286, descriptorIndex := 25, attributes := #[] }, { accessFlags := 25, nameIndex := 288, descriptorIndex := 25, attributes := #[] }, { accessFlags := 25, nameIndex := 290, descriptorIndex := 25, attributes := #[] }, { accessFlags := 25, nameIndex := 292, descriptorIndex := 25, attributes := #[] }, { accessFlags := 26, nameIndex := 108, descriptorIndex := 109, attributes := #[] }, { accessFlags := 25, nameIndex := 294, descriptorIndex := 25, attributes := #[] }])
  fields := #[{ name := "U", type := (.object "jdk/internal/misc/Unsafe"), accessFlags := 24, slot := 0, constantValue := 0 }, { name := "BIG_ENDIAN", type := .boolean, accessFlags := 26, slot := 1, constantValue := 0 }, { name := "LOG2_ARRAY_BOOLEAN_INDEX_SCALE", type := .int, accessFlags := 25, slot := 2, constantValue := 0 }, { name := "LOG2_ARRAY_BYTE_INDEX_SCALE", type := .int, accessFlags := 25, slot := 3, constantValue := 0 }, { name := "LOG2_ARRAY_CHAR_INDEX_SCALE", type := .int, accessFlags := 25, slot := 4, constantValue := 0 }, { name := "LOG2_ARRAY_SHORT_INDEX_SCALE", type := .int, accessFlags := 25, slot := 5, constantValue := 0 }, { name := "LOG2_ARRAY_INT_INDEX_SCALE", type := .int, accessFlags := 25, slot := 6, constantValue := 0 }, { name := "LOG2_ARRAY_LONG_INDEX_SCALE", type := .int, accessFlags := 25, slot := 7, constantValue := 0 }, { name := "LOG2_ARRAY_FLOAT_INDEX_SCALE", type := .int, accessFlags := 25, slot := 8, constantValue := 0 }, { name := "LOG2_ARRAY_DOUBLE_INDEX_SCALE", type := .int, accessFlags := 25, slot := 9, constantValue := 0 }, { name := "LOG2_BYTE_BIT_SIZE", type := .int, accessFlags := 26, slot := 10, constantValue := 0 }, { name := "T_BOOLEAN", type := .int, accessFlags := 25, slot := 11, constantValue := 0 }, { name := "T_CHAR", type := .int, accessFlags := 25, slot := 12, constantValue := 0 }, { name := "T_FLOAT", type := .int, accessFlags := 25, slot := 13, constantValue := 0 }, { name := "T_DOUBLE", type := .int, accessFlags := 25, slot := 14, constantValue := 0 }, { name := "T_BYTE", type := .int, accessFlags := 25, slot := 15, constantValue := 0 }, { name := "T_SHORT", type := .int, accessFlags := 25, slot := 16, constantValue := 0 }, { name := "T_INT", type := .int, accessFlags := 25, slot := 17, constantValue := 0 }, { name := "T_LONG", type := .int, accessFlags := 25, slot := 18, constantValue := 0 }, { name := "JLA", type := (.object "jdk/internal/access/JavaLangAccess"), accessFlags := 26, slot := 19, constantValue := 0 }, { name := "SOFT_MAX_ARRAY_LENGTH", type := .int, accessFlags := 25, slot := 20, constantValue := 0 }]
  methods := #[k24m0, k24m1]
  instanceTypes := #[]
  staticTypes := #[(.object "jdk/internal/misc/Unsafe"), .boolean, .int, .int, .int, .int, .int, .int, .int, .int, .int, .int, .int, .int, .int, .int, .int, .int, .int, (.object "jdk/internal/access/JavaLangAccess"), .int]
  resolved := Array.replicate 378 none
  statics := none }

def pool25 : Array CpInfo := pool [(2, .class_ 4), (1, u "java/lang/Object"), (0, u "<init>"), (0, u "()V"), (12, .class_ 20), (0, u "java/util/Collections"), (63, u "r"), (0, u "Ljava/util/Random;"), (80, .class_ 167), (0, u "java/util/Collections$UnmodifiableCollection"), (6, .class_ 175), (0, u "java/util/Collections$UnmodifiableSequencedCollection"), (6, .class_ 183), (0, u "java/util/Collections$UnmodifiableSet"), (6, .class_ 191), (0, u "java/util/Collections$UnmodifiableSequencedSet"), (6, .class_ 199), (0, u "java/util/Collections$UnmodifiableSortedSet"), (6, .class_ 207), (0, u "java/util/Collections$UnmodifiableNavigableSet"), (4, .class_ 213), (0, u "java/util/Collections$UnmodifiableList"), (1, .class_ 216), (0, u "java/util/Collections$UnmodifiableRandomAccessList"), (6, .class_ 224), (0, u "java/util/Collections$UnmodifiableMap"), (6, .class_ 232), (0, u "java/util/Collections$UnmodifiableSequencedMap"), (4, .class_ 238), (0, u "java/util/Collections$UnmodifiableSortedMap"), (6, .class_ 246), (0, u "java/util/Collections$UnmodifiableNavigableMap"), (3, .class_ 251), (0, u "java/util/Collections$SynchronizedCollection"), (4, .class_ 257), (0, u "java/util/Collections$SynchronizedSet"), (4, .class_ 263), (0, u "java/util/Collections$SynchronizedSortedSet"), (1, .class_ 266), (0, u "java/util/Collections$SynchronizedNavigableSet"), (1, .class_ 269), (0, u "java/util/Collections$SynchronizedRandomAccessList"), (1, .class_ 272), (0, u "java/util/Collections$SynchronizedList"), (5, .class_ 279), (0, u "java/util/Collections$SynchronizedMap"), (1, .class_ 282), (0, u "java/util/Collections$SynchronizedSortedMap"), (1, .class_ 285), (0, u "java/util/Collections$SynchronizedNavigableMap"), (1, .class_ 288), (0, u "java/util/Collections$CheckedCollection"), (11, .class_ 301), (0, u "java/util/Collections$CheckedQueue"), (3, .class_ 306), (0, u "java/util/Collections$CheckedSet"), (3, .class_ 311), (0, u "java/util/Collections$CheckedSortedSet"), (3, .class_ 316), (0, u "java/util/Collections$CheckedNavigableSet"), (3, .class_ 321), (0, u "java/util/Collections$CheckedRandomAccessList"), (3, .class_ 326), (0, u "java/util/Collections$CheckedList"), (1, .class_ 329), (0, u "java/util/Collections$CheckedMap"), (3, .class_ 334), (0, u "java/util/Collections$CheckedSortedMap"), (3, .class_ 339), (0, u "java/util/Collections$CheckedNavigableMap"), (4, .class_ 346), (1, u "java/util/Collections$EmptyIterator"), (3, .class_ 352), (1, u "java/util/Collections$EmptyListIterator"), (2, .class_ 357), (1, u "java/util/Collections$EmptyEnumeration"), (4, u "EMPTY_SET"), (0, u "Ljava/util/Set;"), (6, u "EMPTY_LIST"), (0, u "Ljava/util/List;"), (2, u "EMPTY_MAP"), (0, u "Ljava/util/Map;"), (4, .class_ 381), (0, u "java/util/Collections$SingletonSet"), (2, .class_ 385), (0, u "java/util/Collections$1"), (1, .class_ 388), (0, u "java/util/Collections$2"), (1, .class_ 391), (0, u "java/util/Collections$SingletonList"), (1, .class_ 394), (0, u "java/util/Collections$SingletonMap"), (22, .class_ 418), (0, u "java/util/Collections$CopiesList"), (4, .class_ 425), (1, u "java/util/Collections$ReverseComparator"), (8, .class_ 435), (0, u "java/util/Collections$ReverseComparator2"), (6, .class_ 443), (0, u "java/util/Collections$3"), (25, .class_ 470), (0, u "java/util/Collections$SetFromMap"), (2, .class_ 474), (0, u "java/util/Collections$SequencedSetFromMap"), (3, .class_ 479), (0, u "java/util/Collections$AsLIFOQueue"), (11, .class_ 492), (0, u "java/util/Collections$EmptySet"), (1, .class_ 495), (0, u "java/util/Collections$EmptyList"), (1, .class_ 498), (0, u "java/util/Collections$EmptyMap"), (1, u "BINARYSEARCH_THRESHOLD"), (0, u "I"), (2, u "REVERSE_THRESHOLD"), (1, u "SHUFFLE_THRESHOLD"), (1, u "FILL_THRESHOLD"), (1, u "ROTATE_THRESHOLD"), (1, u "COPY_THRESHOLD"), (1, u "REPLACEALL_THRESHOLD"), (1, u "INDEXOFSUBLIST_THRESHOLD"), (333, .class_ 851), (0, u "java/util/Collections$CheckedMap$CheckedEntrySet"), (0, .class_ 853), (0, u "java/util/Collections$CheckedMap$CheckedEntrySet$CheckedEntry"), (0, .class_ 855), (0, u "java/util/Collections$CheckedMap$CheckedEntrySet$1"), (0, .class_ 857), (0, u "java/util/Collections$CheckedList$1"), (0, .class_ 859), (0, u "java/util/Collections$CheckedCollection$1"), (0, .class_ 861), (0, u "java/util/Collections$UnmodifiableNavigableMap$EmptyNavigableMap"), (0, .class_ 863), (0, u "java/util/Collections$UnmodifiableMap$UnmodifiableEntrySet"), (0, .class_ 865), (0, u "java/util/Collections$UnmodifiableMap$UnmodifiableEntrySet$UnmodifiableEntry"), (0, .class_ 867), (0, u "java/util/Collections$UnmodifiableMap$UnmodifiableEntrySet$UnmodifiableEntrySetSpliterator"), (0, .class_ 869), (0, u "java/util/Collections$UnmodifiableMap$UnmodifiableEntrySet$1"), (0, .class_ 871), (0, u "java/util/Collections$UnmodifiableList$1"), (0, .class_ 873), (0, u "java/util/Collections$UnmodifiableNavigableSet$EmptyNavigableSet"), (0, .class_ 875), (0, u "java/util/Collections$UnmodifiableCollection$1")] 57

def k25m0 : Method := { name := "<init>", desc := "()V", sig := { parameters := [], returnType := none }, accessFlags := 2, code := none }
/-- java/util/Collections -/
def k25 : Class := { plain "java/util/Collections" (some 0) with
  accessFlags := 33
  interfaces := #[]
  cf := some (fileOf pool25 19 #[.nestMembers #[478, 473, 469, 434, 423, 417, 393, 390, 380, 497, 494, 491, 355, 350, 344, 338, 333, 328, 850, 852, 854, 320, 325, 856, 315, 310, 305, 300, 287, 858, 284, 281, 278, 268, 271, 265, 262, 256, 250, 245, 860, 237, 231, 223, 862, 864, 866, 868, 215, 212, 870, 206, 872, 198, 190, 182, 174, 166, 874, 442, 387, 384]] #[{ accessFlags := 2, nameIndex := 5, descriptorIndex := 6, attributes := #[] }] 33 2 #[] #[{ accessFlags := 26, nameIndex := 500, descriptorIndex := 501, attributes := #[] }, { accessFlags := 26, nameIndex := 504, descriptorIndex := 501, attributes := #[] }, { accessFlags := 26, nameIndex := 506, descriptorIndex := 501, attributes := #[] }, { accessFlags := 26, nameIndex := 508, descriptorIndex := 501, attributes := #[] }, { accessFlags := 26, nameIndex := 510, descriptorIndex := 501, attributes := #[] }, { accessFlags := 26, nameIndex := 512, descriptorIndex := 501, attributes := #[] }, { accessFlags := 26, nameIndex := 514, descriptorIndex := 501, attributes := #[] }, { accessFlags := 26, nameIndex := 516, descriptorIndex := 501, attributes := #[] }, { accessFlags := 10, nameIndex := 84, descriptorIndex := 85, attributes := #[] }, { accessFlags := 25, nameIndex := 362, descriptorIndex := 363, attributes := #[] }, { accessFlags := 25, nameIndex := 370, descriptorIndex := 371, attributes := #[] }, { accessFlags := 25, nameIndex := 374, descriptorIndex := 375, attributes := #[] }])
  fields := #[{ name := "BINARYSEARCH_THRESHOLD", type := .int, accessFlags := 26, slot := 0, constantValue := 0 }, { name := "REVERSE_THRESHOLD", type := .int, accessFlags := 26, slot := 1, constantValue := 0 }, { name := "SHUFFLE_THRESHOLD", type := .int, accessFlags := 26, slot := 2, constantValue := 0 }, { name := "FILL_THRESHOLD", type := .int, accessFlags := 26, slot := 3, constantValue := 0 }, { name := "ROTATE_THRESHOLD", type := .int, accessFlags := 26, slot := 4, constantValue := 0 }, { name := "COPY_THRESHOLD", type := .int, accessFlags := 26, slot := 5, constantValue := 0 }, { name := "REPLACEALL_THRESHOLD", type := .int, accessFlags := 26, slot := 6, constantValue := 0 }, { name := "INDEXOFSUBLIST_THRESHOLD", type := .int, accessFlags := 26, slot := 7, constantValue := 0 }, { name := "r", type := (.object "java/util/Random"), accessFlags := 10, slot := 8, constantValue := 0 }, { name := "EMPTY_SET", type := (.object "java/util/Set"), accessFlags := 25, slot := 9, constantValue := 0 }, { name := "EMPTY_LIST", type := (.object "java/util/List"), accessFlags := 25, slot := 10, constantValue := 0 }, { name := "EMPTY_MAP", type := (.object "java/util/Map"), accessFlags := 25, slot := 11, constantValue := 0 }]
  methods := #[k25m0]
  instanceTypes := #[]
  staticTypes := #[.int, .int, .int, .int, .int, .int, .int, .int, (.object "java/util/Random"), (.object "java/util/Set"), (.object "java/util/List"), (.object "java/util/Map")]
  resolved := Array.replicate 933 none
  statics := some 4 }

def pool26 : Array CpInfo := pool [(8, .class_ 10), (1, u "java/lang/Iterable"), (24, .class_ 36), (0, u "java/lang/Object")] 25

/-- java/lang/Iterable -/
def k26 : Class := { plain "java/lang/Iterable" (some 0) with
  accessFlags := 1537
  interfaces := #[]
  cf := some (fileOf pool26 8 #[] #[] 1537 35 #[] #[])
  fields := #[]
  methods := #[]
  instanceTypes := #[]
  staticTypes := #[]
  resolved := Array.replicate 62 none
  statics := none }

def pool27 : Array CpInfo := pool [(10, .class_ 12), (1, u "java/util/Collection"), (47, .class_ 61), (0, u "java/lang/Object"), (0, .class_ 63), (0, u "java/lang/Iterable")] 51

/-- java/util/Collection -/
def k27 : Class := { plain "java/util/Collection" (some 0) with
  accessFlags := 1537
  interfaces := #[26]
  cf := some (fileOf pool27 10 #[] #[] 1537 60 #[62] #[])
  fields := #[]
  methods := #[]
  instanceTypes := #[]
  staticTypes := #[]
  resolved := Array.replicate 115 none
  statics := none }

def pool28 : Array CpInfo := pool [(2, .class_ 4), (1, u "java/lang/Object"), (0, u "<init>"), (0, u "()V"), (1, .class_ 10), (1, u "java/util/AbstractCollection"), (66, .class_ 78), (0, u "java/util/Collection")] 81

def k28m0 : Method := { name := "<init>", desc := "()V", sig := { parameters := [], returnType := none }, accessFlags := 4, code := none }
/-- java/util/AbstractCollection -/
def k28 : Class := { plain "java/util/AbstractCollection" (some 0) with
  accessFlags := 1057
  interfaces := #[27]
  cf := some (fileOf pool28 8 #[] #[{ accessFlags := 4, nameIndex := 5, descriptorIndex := 6, attributes := #[] }] 1057 2 #[77] #[])
  fields := #[]
  methods := #[k28m0]
  instanceTypes := #[]
  staticTypes := #[]
  resolved := Array.replicate 160 none
  statics := none }

def pool29 : Array CpInfo := pool [(8, .class_ 10), (1, u "java/util/SequencedCollection"), (15, .class_ 27), (0, u "java/lang/Object"), (0, .class_ 29), (0, u "java/util/Collection")] 27

/-- java/util/SequencedCollection -/
def k29 : Class := { plain "java/util/SequencedCollection" (some 0) with
  accessFlags := 1537
  interfaces := #[27]
  cf := some (fileOf pool29 8 #[] #[] 1537 26 #[28] #[])
  fields := #[]
  methods := #[]
  instanceTypes := #[]
  staticTypes := #[]
  resolved := Array.replicate 57 none
  statics := none }

def pool30 : Array CpInfo := pool [(8, .class_ 10), (1, u "java/util/List"), (92, .class_ 104), (0, u "java/lang/Object"), (15, .class_ 121), (0, u "java/util/SequencedCollection")] 129

/-- java/util/List -/
def k30 : Class := { plain "java/util/List" (some 0) with
  accessFlags := 1537
  interfaces := #[29]
  cf := some (fileOf pool30 8 #[] #[] 1537 103 #[120] #[])
  fields := #[]
  methods := #[]
  instanceTypes := #[]
  staticTypes := #[]
  resolved := Array.replicate 251 none
  statics := none }

def pool31 : Array CpInfo := pool [(2, .class_ 4), (1, u "java/util/AbstractCollection"), (0, u "<init>"), (0, u "()V"), (1, .class_ 10), (1, u "java/util/AbstractList"), (0, u "modCount"), (0, u "I"), (64, .class_ 78), (0, u "java/util/AbstractList$Itr"), (3, .class_ 83), (0, u "java/util/AbstractList$ListItr"), (9, .class_ 94), (0, u "java/util/AbstractList$RandomAccessSubList"), (3, .class_ 99), (0, u "java/util/AbstractList$SubList"), (33, .class_ 134), (0, u "java/util/List"), (73, .class_ 209), (0, u "java/util/AbstractList$SubList$1"), (0, .class_ 211), (0, u "java/util/AbstractList$RandomAccessSpliterator")] 6

def k31m0 : Method := { name := "<init>", desc := "()V", sig := { parameters := [], returnType := none }, accessFlags := 4, code := none }
/-- java/util/AbstractList -/
def k31 : Class := { plain "java/util/AbstractList" (some 28) with
  accessFlags := 1057
  interfaces := #[30]
  cf := some (fileOf pool31 8 #[.nestMembers #[93, 98, 208, 210, 82, 77]] #[{ accessFlags := 4, nameIndex := 5, descriptorIndex := 6, attributes := #[] }] 1057 2 #[133] #[{ accessFlags := 132, nameIndex := 11, descriptorIndex := 12, attributes := #[] }])
  fields := #[{ name := "modCount", type := .int, accessFlags := 132, slot := 0, constantValue := 0 }]
  methods := #[k31m0]
  instanceTypes := #[.int]
  staticTypes := #[]
  resolved := Array.replicate 218 none
  statics := none }

def pool32 : Array CpInfo := pool [(1, .class_ 2), (0, u "java/util/RandomAccess"), (0, .class_ 4), (0, u "java/lang/Object")] 2

/-- java/util/RandomAccess -/
def k32 : Class := { plain "java/util/RandomAccess" (some 0) with
  accessFlags := 1537
  interfaces := #[]
  cf := some (fileOf pool32 1 #[] #[] 1537 3 #[] #[])
  fields := #[]
  methods := #[]
  instanceTypes := #[]
  staticTypes := #[]
  resolved := Array.replicate 7 none
  statics := none }

def pool33 : Array CpInfo := pool [(2, .class_ 4), (1, u "java/util/AbstractList"), (0, u "<init>"), (0, u "()V"), (1, .class_ 10), (1, u "java/util/Collections"), (54, .class_ 66), (0, u "java/util/Collections$EmptyList"), (0, .class_ 68), (0, u "java/util/RandomAccess"), (0, .class_ 70), (0, u "java/io/Serializable"), (0, u "serialVersionUID"), (0, u "J")] 77

def k33m0 : Method := { name := "<init>", desc := "()V", sig := { parameters := [], returnType := none }, accessFlags := 2, code := none }
/-- java/util/Collections$EmptyList -/
def k33 : Class := { plain "java/util/Collections$EmptyList" (some 31) with
  accessFlags := 32
  interfaces := #[32, 2]
  cf := some (fileOf pool33 65 #[.nestHost 8] #[{ accessFlags := 2, nameIndex := 5, descriptorIndex := 6, attributes := #[] }] 32 2 #[67, 69] #[{ accessFlags := 26, nameIndex := 71, descriptorIndex := 72, attributes := #[] }])
  fields := #[{ name := "serialVersionUID", type := .long, accessFlags := 26, slot := 0, constantValue := 0 }]
  methods := #[k33m0]
  instanceTypes := #[.int]
  staticTypes := #[.long]
  resolved := Array.replicate 150 none
  statics := none }

def pool34 : Array CpInfo := pool [(2, .class_ 4), (1, u "java/lang/StackTraceElement"), (0, u "<init>"), (2, .class_ 10), (1, u "java/lang/Object"), (0, u "()V"), (2, u "format"), (0, u "B"), (2, u "classLoaderName"), (0, u "Ljava/lang/String;"), (2, u "moduleName"), (2, u "moduleVersion"), (12, u "declaringClass"), (4, u "methodName"), (2, u "fileName"), (2, u "lineNumber"), (0, u "I"), (65, u "declaringClassObject"), (0, u "Ljava/lang/Class;"), (33, .class_ 153), (1, u "java/lang/StackTraceElement$HashedModules"), (17, .class_ 172), (0, u "java/io/Serializable"), (0, u "NATIVE_METHOD"), (1, u "UNKNOWN_SOURCE"), (2, u "BUILTIN_CLASS_LOADER"), (1, u "JDK_NON_UPGRADEABLE_MODULE"), (1, u "serialVersionUID"), (0, u "J")] 51

def k34m0 : Method := { name := "<init>", desc := "()V", sig := { parameters := [], returnType := none }, accessFlags := 2, code := none }
/-- java/lang/StackTraceElement -/
def k34 : Class := { plain "java/lang/StackTraceElement" (some 0) with
  accessFlags := 49
  interfaces := #[2]
  cf := some (fileOf pool34 2 #[.nestMembers #[151]] #[{ accessFlags := 2, nameIndex := 5, descriptorIndex := 11, attributes := #[] }] 49 8 #[171] #[{ accessFlags := 26, nameIndex := 173, descriptorIndex := 19, attributes := #[] }, { accessFlags := 26, nameIndex := 175, descriptorIndex := 19, attributes := #[] }, { accessFlags := 130, nameIndex := 116, descriptorIndex := 117, attributes := #[] }, { accessFlags := 2, nameIndex := 18, descriptorIndex := 19, attributes := #[] }, { accessFlags := 2, nameIndex := 22, descriptorIndex := 19, attributes := #[] }, { accessFlags := 2, nameIndex := 25, descriptorIndex := 19, attributes := #[] }, { accessFlags := 2, nameIndex := 38, descriptorIndex := 19, attributes := #[] }, { accessFlags := 2, nameIndex := 43, descriptorIndex := 19, attributes := #[] }, { accessFlags := 2, nameIndex := 46, descriptorIndex := 19, attributes := #[] }, { accessFlags := 2, nameIndex := 49, descriptorIndex := 50, attributes := #[] }, { accessFlags := 2, nameIndex := 14, descriptorIndex := 15, attributes := #[] }, { accessFlags := 26, nameIndex := 178, descriptorIndex := 15, attributes := #[] }, { accessFlags := 26, nameIndex := 180, descriptorIndex := 15, attributes := #[] }, { accessFlags := 26, nameIndex := 182, descriptorIndex := 183, attributes := #[] }])
  fields := #[{ name := "NATIVE_METHOD", type := (.object "java/lang/String"), accessFlags := 26, slot := 0, constantValue := 0 }, { name := "UNKNOWN_SOURCE", type := (.object "java/lang/String"), accessFlags := 26, slot := 1, constantValue := 0 }, { name := "declaringClassObject", type := (.object "java/lang/Class"), accessFlags := 130, slot := 0, constantValue := 0 }, { name := "classLoaderName", type := (.object "java/lang/String"), accessFlags := 2, slot := 1, constantValue := 0 }, { name := "moduleName", type := (.object "java/lang/String"), accessFlags := 2, slot := 2, constantValue := 0 }, { name := "moduleVersion", type := (.object "java/lang/String"), accessFlags := 2, slot := 3, constantValue := 0 }, { name := "declaringClass", type := (.object "java/lang/String"), accessFlags := 2, slot := 4, constantValue := 0 }, { name := "methodName", type := (.object "java/lang/String"), accessFlags := 2, slot := 5, constantValue := 0 }, { name := "fileName", type := (.object "java/lang/String"), accessFlags := 2, slot := 6, constantValue := 0 }, { name := "lineNumber", type := .int, accessFlags := 2, slot := 7, constantValue := 0 }, { name := "format", type := .byte, accessFlags := 2, slot := 8, constantValue := 0 }, { name := "BUILTIN_CLASS_LOADER", type := .byte, accessFlags := 26, slot := 2, constantValue := 0 }, { name := "JDK_NON_UPGRADEABLE_MODULE", type := .byte, accessFlags := 26, slot := 3, constantValue := 0 }, { name := "serialVersionUID", type := .long, accessFlags := 26, slot := 4, constantValue := 0 }]
  methods := #[k34m0]
  instanceTypes := #[(.object "java/lang/Class"), (.object "java/lang/String"), (.object "java/lang/String"), (.object "java/lang/String"), (.object "java/lang/String"), (.object "java/lang/String"), (.object "java/lang/String"), .int, .byte]
  staticTypes := #[(.object "java/lang/String"), (.object "java/lang/String"), .byte, .byte, .long]
  resolved := Array.replicate 235 none
  statics := none }

/-- the primitive byte -/
def k35 : Class := { plain "byte" none with kind := .primitive 'B', accessFlags := 0x411 }
/-- [B -/
def k36 : Class := { plain "[B" (some 0) with kind := .array 35 .byte, interfaces := #[23, 2], accessFlags := 1041 }

/-- the primitive char -/
def k37 : Class := { plain "char" none with kind := .primitive 'C', accessFlags := 0x411 }
/-- [C -/
def k38 : Class := { plain "[C" (some 0) with kind := .array 37 .char, interfaces := #[23, 2], accessFlags := 1041 }

/-- the primitive int -/
def k39 : Class := { plain "int" none with kind := .primitive 'I', accessFlags := 0x411 }
/-- [I -/
def k40 : Class := { plain "[I" (some 0) with kind := .array 39 .int, interfaces := #[23, 2], accessFlags := 1041 }

/-- [Ljava/lang/Object; -/
def k41 : Class := { plain "[Ljava/lang/Object;" (some 0) with kind := .array 0 (.object "java/lang/Object"), interfaces := #[23, 2], accessFlags := 1041 }

/-- [Ljava/lang/StackTraceElement; -/
def k42 : Class := { plain "[Ljava/lang/StackTraceElement;" (some 0) with kind := .array 34 (.object "java/lang/StackTraceElement"), interfaces := #[23, 2], accessFlags := 1041 }

/-- [Ljava/lang/Throwable; -/
def k43 : Class := { plain "[Ljava/lang/Throwable;" (some 0) with kind := .array 10 (.object "java/lang/Throwable"), interfaces := #[23, 2], accessFlags := 1041 }

def heap : Heap := #[{ cls := 7, slots := #[.long 0, .int 1, .null, .int 0, .null, .int 0, .int 0], vm := .statics 7 },
  { cls := 10, slots := #[.long 0, .ref 7, .ref 8, .null, .null, .null, .null, .ref 9, .int 1], vm := .statics 10 },
  { cls := 18, slots := #[.int 0, .int 0, .null, .null, .ref 6, .ref 5, .int 0, .int 0, .long 0], vm := .statics 18 },
  { cls := 22, slots := #[.null, .null, .null], vm := .statics 22 },
  { cls := 25, slots := #[.int 0, .int 0, .int 0, .int 0, .int 0, .int 0, .int 0, .int 0, .null, .null, .ref 8, .null], vm := .statics 25 },
  { cls := 36, slots := #[.int 48, .int 49, .int 50, .int 51, .int 52, .int 53, .int 54, .int 55, .int 56, .int 57, .int 48, .int 49, .int 50, .int 51, .int 52, .int 53, .int 54, .int 55, .int 56, .int 57, .int 48, .int 49, .int 50, .int 51, .int 52, .int 53, .int 54, .int 55, .int 56, .int 57, .int 48, .int 49, .int 50, .int 51, .int 52, .int 53, .int 54, .int 55, .int 56, .int 57, .int 48, .int 49, .int 50, .int 51, .int 52, .int 53, .int 54, .int 55, .int 56, .int 57, .int 48, .int 49, .int 50, .int 51, .int 52, .int 53, .int 54, .int 55, .int 56, .int 57, .int 48, .int 49, .int 50, .int 51, .int 52, .int 53, .int 54, .int 55, .int 56, .int 57, .int 48, .int 49, .int 50, .int 51, .int 52, .int 53, .int 54, .int 55, .int 56, .int 57, .int 48, .int 49, .int 50, .int 51, .int 52, .int 53, .int 54, .int 55, .int 56, .int 57, .int 48, .int 49, .int 50, .int 51, .int 52, .int 53, .int 54, .int 55, .int 56, .int 57], vm := .none },
  { cls := 36, slots := #[.int 48, .int 48, .int 48, .int 48, .int 48, .int 48, .int 48, .int 48, .int 48, .int 48, .int 49, .int 49, .int 49, .int 49, .int 49, .int 49, .int 49, .int 49, .int 49, .int 49, .int 50, .int 50, .int 50, .int 50, .int 50, .int 50, .int 50, .int 50, .int 50, .int 50, .int 51, .int 51, .int 51, .int 51, .int 51, .int 51, .int 51, .int 51, .int 51, .int 51, .int 52, .int 52, .int 52, .int 52, .int 52, .int 52, .int 52, .int 52, .int 52, .int 52, .int 53, .int 53, .int 53, .int 53, .int 53, .int 53, .int 53, .int 53, .int 53, .int 53, .int 54, .int 54, .int 54, .int 54, .int 54, .int 54, .int 54, .int 54, .int 54, .int 54, .int 55, .int 55, .int 55, .int 55, .int 55, .int 55, .int 55, .int 55, .int 55, .int 55, .int 56, .int 56, .int 56, .int 56, .int 56, .int 56, .int 56, .int 56, .int 56, .int 56, .int 57, .int 57, .int 57, .int 57, .int 57, .int 57, .int 57, .int 57, .int 57, .int 57], vm := .none },
  { cls := 42, slots := #[], vm := .none },
  { cls := 33, slots := #[.int 0], vm := .none },
  { cls := 43, slots := #[], vm := .none }]
def classes : Array Class := #[k0, k1, k2, k3, k4, k5, k6, k7, k8, k9, k10, k11, k12, k13, k14, k15, k16, k17, k18, k19, k20, k21, k22, k23, k24, k25, k26, k27, k28, k29, k30, k31, k32, k33, k34, k35, k36, k37, k38, k39, k40, k41, k42, k43]
def interned : List (Array UInt16 × Addr) := []
def slotsUsed : Nat := 241
def theMethod : MethodId := ⟨1, 1⟩
def args0 : Array Value := #[.int 3, .int 5, .int 7]
def aboutOver (below : List Frame) : State where
  vm := { classes := classes, interned := interned.toArray }
  heap := heap
  slotsUsed := slotsUsed
  threads := #[{ frames := .invoking theMethod args0 :: below }]
def below0 : List Frame := [.native { method := ⟨0, 0⟩, args := #[] }]
def about1 : State := aboutOver below0
def p0 : Program := .bare "" "" ""
def e0 : Env := launch0.env 0 0 0
theorem w_frames : about1.frames = Frame.invoking theMethod args0 :: below0 := rfl
set_option maxRecDepth 65536 in
theorem w_args : argsFit about1.vm theMethod args0 = true := by decide +kernel
set_option maxRecDepth 65536 in
theorem w_heap : heapFits about1 = true := by decide +kernel
set_option maxRecDepth 65536 in
theorem w_runnable : about1.curStatus? = some .runnable := by decide +kernel
set_option maxRecDepth 65536 in
theorem w_alone : about1.alone = true := by decide +kernel
set_option maxRecDepth 65536 in
theorem w_named : about1.methodNamed? x = some theMethod := by decide +kernel
set_option maxRecDepth 65536 in
theorem w_hears : about1.hears theMethod below0 = true := by decide +kernel
set_option maxRecDepth 65536 in
theorem w_ripe : about1.ripe theMethod args0 below0 = true := by decide +kernel
theorem w_running : about1.status = .running := rfl
set_option maxRecDepth 65536 in
theorem w_room : about1.hasRoom e0.platform room_1 = true :=
  launch0.hasRoom_least _ room_1 (by decide +kernel) (by decide +kernel) (by decide +kernel) (by decide +kernel) (by decide +kernel) (by decide +kernel)
theorem allAtoms_all (ts : List Jvm.Cond) (a : Array Jvm.Value) (st : Jvm.State) : (allAtoms ts).before a st = ts.all (fun c => c.before a st) := by
  induction ts with
  | nil => rfl
  | cons c t ih =>
    show (Jvm.Cond.and c (allAtoms t)).before a st = _
    rw [Jvm.Cond.before_and, ih, List.all_cons]
def words1 : List Jvm.Cond := Jvm.Cond.code x code maxLocals ret :: tables_1
/-- a 'code' word, met by the world's own term for the bytes: nothing is compared byte by byte -/
theorem code_word {y : MethodName} {bytes : ByteArray} {mx : Nat} {rt : Option FieldType} {a : Array Value} {s : State} {m : MethodId} {meth : Method} {c : Code} (h1 : s.methodNamed? y = some m) (h2 : s.vm.method? m = some meth) (h3 : meth.code = some c) (h4 : c.code = bytes)
    (h5 : (c.maxLocals == mx && c.exceptionTable.isEmpty && decide (c.maxStack ≤ mostOperands) && decide (meth.sig.returnType = rt) && !meth.locks && decide (parseMethodDescriptor y.desc = some meth.sig)) = true) : (Jvm.Cond.code y bytes mx rt).before a s = true := by
  simp only [Bool.and_eq_true, beq_iff_eq, Bool.not_eq_true', decide_eq_true_eq] at h5
  obtain ⟨⟨⟨⟨⟨g1, g2⟩, g3⟩, g4⟩, g5⟩, g6⟩ := h5
  simp [Cond.before, Cond.holds, Cond.value, h1, h2, h3, h4, g1, g2, g3, g4, g5, g6]
def isCode : Jvm.Cond → Bool
  | .code _ _ _ _ => true
  | _ => false
theorem all_split {L : List Jvm.Cond} {P : Jvm.Cond → Bool} (h1 : L.all (fun c => isCode c || P c) = true) (h2 : ∀ c ∈ L.filter isCode, P c = true) : L.all P = true := by
  refine List.all_eq_true.mpr fun c hc => ?_
  have h := List.all_eq_true.mp h1 c hc
  rcases Bool.eq_false_or_eq_true (isCode c) with hi | hi
  · exact h2 c (List.mem_filter.mpr ⟨hc, hi⟩)
  · simpa [hi] using h
set_option maxRecDepth 65536 in
theorem w_c0 : (Jvm.Cond.code x code maxLocals ret).before args0 about1 = true := code_word (m := ⟨1, 1⟩) (meth := k1m1) (c := k1c1) (by decide +kernel) rfl rfl rfl (by decide +kernel)
set_option maxRecDepth 65536 in
theorem w_c1 : (Jvm.Cond.code ({ cls := "java/lang/String", name := "<init>", desc := "([C)V" } : Jvm.MethodName) jdk_42_method_3_code (2 : Nat) (Option.none : Option Jvm.ClassFile.FieldType)).before args0 about1 = true := code_word (m := ⟨7, 1⟩) (meth := k7m1) (c := k7c1) (by decide +kernel) rfl rfl rfl (by decide +kernel)
set_option maxRecDepth 65536 in
theorem w_c2 : (Jvm.Cond.code ({ cls := "java/lang/String", name := "<init>", desc := "([CIILjava/lang/Void;)V" } : Jvm.MethodName) jdk_42_method_149_code (6 : Nat) (Option.none : Option Jvm.ClassFile.FieldType)).before args0 about1 = true := code_word (m := ⟨7, 6⟩) (meth := k7m6) (c := k7c6) (by decide +kernel) rfl rfl rfl (by decide +kernel)
set_option maxRecDepth 65536 in
theorem w_c3 : (Jvm.Cond.code ({ cls := "java/lang/Object", name := "<init>", desc := "()V" } : Jvm.MethodName) object_method_1_code (1 : Nat) (Option.none : Option Jvm.ClassFile.FieldType)).before args0 about1 = true := code_word (m := ⟨0, 0⟩) (meth := k0m0) (c := k0c0) (by decide +kernel) rfl rfl rfl (by decide +kernel)
set_option maxRecDepth 65536 in
theorem w_c4 : (Jvm.Cond.code ({ cls := "java/lang/StringUTF16", name := "compress", desc := "([CII)[B" } : Jvm.MethodName) jdk_52_method_16_code (6 : Nat) (Option.some (Jvm.ClassFile.FieldType.array Jvm.ClassFile.FieldType.byte))).before args0 about1 = true := code_word (m := ⟨8, 2⟩) (meth := k8m2) (c := k8c2) (by decide +kernel) rfl rfl rfl (by decide +kernel)
set_option maxRecDepth 65536 in
theorem w_c5 : (Jvm.Cond.code ({ cls := "java/lang/StringUTF16", name := "compress", desc := "([CI[BII)I" } : Jvm.MethodName) jdk_52_method_21_code (7 : Nat) (Option.some Jvm.ClassFile.FieldType.int)).before args0 about1 = true := code_word (m := ⟨8, 3⟩) (meth := k8m3) (c := k8c3) (by decide +kernel) rfl rfl rfl (by decide +kernel)
set_option maxRecDepth 65536 in
theorem w_c6 : (Jvm.Cond.code ({ cls := "java/lang/StringUTF16", name := "coderFromArrayLen", desc := "([BI)B" } : Jvm.MethodName) jdk_52_method_15_code (2 : Nat) (Option.some Jvm.ClassFile.FieldType.byte)).before args0 about1 = true := code_word (m := ⟨8, 1⟩) (meth := k8m1) (c := k8c1) (by decide +kernel) rfl rfl rfl (by decide +kernel)
set_option maxRecDepth 65536 in
theorem w_c7 : (Jvm.Cond.code ({ cls := "com/example/claimgate/claimgate/config/ConfigSyntax", name := "<init>", desc := "(Ljava/lang/String;)V" } : Jvm.MethodName) prog_19_method_1_code (2 : Nat) (Option.none : Option Jvm.ClassFile.FieldType)).before args0 about1 = true := code_word (m := ⟨9, 0⟩) (meth := k9m0) (c := k9c0) (by decide +kernel) rfl rfl rfl (by decide +kernel)
set_option maxRecDepth 65536 in
theorem w_c8 : (Jvm.Cond.code ({ cls := "com/example/claimgate/claimgate/config/ConfigSyntax", name := "error", desc := "(ILjava/lang/String;)Lcom/example/claimgate/claimgate/config/ConfigException;" } : Jvm.MethodName) prog_19_method_2_code (3 : Nat) (Option.some (Jvm.ClassFile.FieldType.object "com/example/claimgate/claimgate/config/ConfigException"))).before args0 about1 = true := code_word (m := ⟨9, 1⟩) (meth := k9m1) (c := k9c1) (by decide +kernel) rfl rfl rfl (by decide +kernel)
set_option maxRecDepth 65536 in
theorem w_c9 : (Jvm.Cond.code ({ cls := "com/example/claimgate/claimgate/config/ConfigException", name := "<init>", desc := "(Ljava/lang/String;ILjava/lang/String;)V" } : Jvm.MethodName) prog_18_method_1_code (4 : Nat) (Option.none : Option Jvm.ClassFile.FieldType)).before args0 about1 = true := code_word (m := ⟨12, 0⟩) (meth := k12m0) (c := k12c0) (by decide +kernel) rfl rfl rfl (by decide +kernel)
set_option maxRecDepth 65536 in
theorem w_c10 : (Jvm.Cond.code ({ cls := "java/lang/StringBuilder", name := "<init>", desc := "()V" } : Jvm.MethodName) jdk_67_method_1_code (1 : Nat) (Option.none : Option Jvm.ClassFile.FieldType)).before args0 about1 = true := code_word (m := ⟨15, 0⟩) (meth := k15m0) (c := k15c0) (by decide +kernel) rfl rfl rfl (by decide +kernel)
set_option maxRecDepth 65536 in
theorem w_c11 : (Jvm.Cond.code ({ cls := "java/lang/AbstractStringBuilder", name := "<init>", desc := "(I)V" } : Jvm.MethodName) jdk_68_method_2_code (2 : Nat) (Option.none : Option Jvm.ClassFile.FieldType)).before args0 about1 = true := code_word (m := ⟨14, 1⟩) (meth := k14m1) (c := k14c1) (by decide +kernel) rfl rfl rfl (by decide +kernel)
set_option maxRecDepth 65536 in
theorem w_c12 : (Jvm.Cond.code ({ cls := "java/lang/StringBuilder", name := "append", desc := "(Ljava/lang/String;)Ljava/lang/StringBuilder;" } : Jvm.MethodName) jdk_67_method_7_code (2 : Nat) (Option.some (Jvm.ClassFile.FieldType.object "java/lang/StringBuilder"))).before args0 about1 = true := code_word (m := ⟨15, 1⟩) (meth := k15m1) (c := k15c1) (by decide +kernel) rfl rfl rfl (by decide +kernel)
set_option maxRecDepth 65536 in
theorem w_c13 : (Jvm.Cond.code ({ cls := "java/lang/AbstractStringBuilder", name := "append", desc := "(Ljava/lang/String;)Ljava/lang/AbstractStringBuilder;" } : Jvm.MethodName) jdk_68_method_22_code (3 : Nat) (Option.some (Jvm.ClassFile.FieldType.object "java/lang/AbstractStringBuilder"))).before args0 about1 = true := code_word (m := ⟨14, 5⟩) (meth := k14m5) (c := k14c5) (by decide +kernel) rfl rfl rfl (by decide +kernel)
set_option maxRecDepth 65536 in
theorem w_c14 : (Jvm.Cond.code ({ cls := "java/lang/String", name := "length", desc := "()I" } : Jvm.MethodName) jdk_42_method_54_code (1 : Nat) (Option.some Jvm.ClassFile.FieldType.int)).before args0 about1 = true := code_word (m := ⟨7, 3⟩) (meth := k7m3) (c := k7c3) (by decide +kernel) rfl rfl rfl (by decide +kernel)
set_option maxRecDepth 65536 in
theorem w_c15 : (Jvm.Cond.code ({ cls := "java/lang/String", name := "coder", desc := "()B" } : Jvm.MethodName) jdk_42_method_152_code (1 : Nat) (Option.some Jvm.ClassFile.FieldType.byte)).before args0 about1 = true := code_word (m := ⟨7, 8⟩) (meth := k7m8) (c := k7c8) (by decide +kernel) rfl rfl rfl (by decide +kernel)
set_option maxRecDepth 65536 in
theorem w_c16 : (Jvm.Cond.code ({ cls := "java/lang/AbstractStringBuilder", name := "ensureCapacityInternal", desc := "(I)V" } : Jvm.MethodName) jdk_68_method_9_code (3 : Nat) (Option.none : Option Jvm.ClassFile.FieldType)).before args0 about1 = true := code_word (m := ⟨14, 3⟩) (meth := k14m3) (c := k14c3) (by decide +kernel) rfl rfl rfl (by decide +kernel)
set_option maxRecDepth 65536 in
theorem w_c17 : (Jvm.Cond.code ({ cls := "java/lang/AbstractStringBuilder", name := "putStringAt", desc := "(ILjava/lang/String;)V" } : Jvm.MethodName) jdk_68_method_73_code (3 : Nat) (Option.none : Option Jvm.ClassFile.FieldType)).before args0 about1 = true := code_word (m := ⟨14, 10⟩) (meth := k14m10) (c := k14c10) (by decide +kernel) rfl rfl rfl (by decide +kernel)
set_option maxRecDepth 65536 in
theorem w_c18 : (Jvm.Cond.code ({ cls := "java/lang/AbstractStringBuilder", name := "inflateIfNeededFor", desc := "(Ljava/lang/String;)V" } : Jvm.MethodName) jdk_68_method_71_code (2 : Nat) (Option.none : Option Jvm.ClassFile.FieldType)).before args0 about1 = true := code_word (m := ⟨14, 9⟩) (meth := k14m9) (c := k14c9) (by decide +kernel) rfl rfl rfl (by decide +kernel)
set_option maxRecDepth 65536 in
theorem w_c19 : (Jvm.Cond.code ({ cls := "java/lang/String", name := "getBytes", desc := "([BIB)V" } : Jvm.MethodName) jdk_42_method_147_code (4 : Nat) (Option.none : Option Jvm.ClassFile.FieldType)).before args0 about1 = true := code_word (m := ⟨7, 5⟩) (meth := k7m5) (c := k7c5) (by decide +kernel) rfl rfl rfl (by decide +kernel)
set_option maxRecDepth 65536 in
theorem w_c20 : (Jvm.Cond.code ({ cls := "java/lang/StringBuilder", name := "append", desc := "(I)Ljava/lang/StringBuilder;" } : Jvm.MethodName) jdk_67_method_15_code (2 : Nat) (Option.some (Jvm.ClassFile.FieldType.object "java/lang/StringBuilder"))).before args0 about1 = true := code_word (m := ⟨15, 2⟩) (meth := k15m2) (c := k15c2) (by decide +kernel) rfl rfl rfl (by decide +kernel)
set_option maxRecDepth 65536 in
theorem w_c21 : (Jvm.Cond.code ({ cls := "java/lang/AbstractStringBuilder", name := "append", desc := "(I)Ljava/lang/AbstractStringBuilder;" } : Jvm.MethodName) jdk_68_method_32_code (4 : Nat) (Option.some (Jvm.ClassFile.FieldType.object "java/lang/AbstractStringBuilder"))).before args0 about1 = true := code_word (m := ⟨14, 6⟩) (meth := k14m6) (c := k14c6) (by decide +kernel) rfl rfl rfl (by decide +kernel)
set_option maxRecDepth 65536 in
theorem w_c22 : (Jvm.Cond.code ({ cls := "java/lang/Integer", name := "stringSize", desc := "(I)I" } : Jvm.MethodName) jdk_33_method_13_code (4 : Nat) (Option.some Jvm.ClassFile.FieldType.int)).before args0 about1 = true := code_word (m := ⟨18, 1⟩) (meth := k18m1) (c := k18c1) (by decide +kernel) rfl rfl rfl (by decide +kernel)
set_option maxRecDepth 65536 in
theorem w_c23 : (Jvm.Cond.code ({ cls := "java/lang/AbstractStringBuilder", name := "isLatin1", desc := "()Z" } : Jvm.MethodName) jdk_68_method_68_code (1 : Nat) (Option.some Jvm.ClassFile.FieldType.boolean)).before args0 about1 = true := code_word (m := ⟨14, 8⟩) (meth := k14m8) (c := k14c8) (by decide +kernel) rfl rfl rfl (by decide +kernel)
set_option maxRecDepth 65536 in
theorem w_c24 : (Jvm.Cond.code ({ cls := "java/lang/Integer", name := "getChars", desc := "(II[B)I" } : Jvm.MethodName) jdk_33_method_12_code (7 : Nat) (Option.some Jvm.ClassFile.FieldType.int)).before args0 about1 = true := code_word (m := ⟨18, 0⟩) (meth := k18m0) (c := k18c0) (by decide +kernel) rfl rfl rfl (by decide +kernel)
set_option maxRecDepth 65536 in
theorem w_c25 : (Jvm.Cond.code ({ cls := "java/lang/StringBuilder", name := "toString", desc := "()Ljava/lang/String;" } : Jvm.MethodName) jdk_67_method_42_code (1 : Nat) (Option.some (Jvm.ClassFile.FieldType.object "java/lang/String"))).before args0 about1 = true := code_word (m := ⟨15, 3⟩) (meth := k15m3) (c := k15c3) (by decide +kernel) rfl rfl rfl (by decide +kernel)
set_option maxRecDepth 65536 in
theorem w_c26 : (Jvm.Cond.code ({ cls := "java/lang/String", name := "<init>", desc := "(Ljava/lang/StringBuilder;)V" } : Jvm.MethodName) jdk_42_method_53_code (2 : Nat) (Option.none : Option Jvm.ClassFile.FieldType)).before args0 about1 = true := code_word (m := ⟨7, 2⟩) (meth := k7m2) (c := k7c2) (by decide +kernel) rfl rfl rfl (by decide +kernel)
set_option maxRecDepth 65536 in
theorem w_c27 : (Jvm.Cond.code ({ cls := "java/lang/String", name := "<init>", desc := "(Ljava/lang/AbstractStringBuilder;Ljava/lang/Void;)V" } : Jvm.MethodName) jdk_42_method_150_code (5 : Nat) (Option.none : Option Jvm.ClassFile.FieldType)).before args0 about1 = true := code_word (m := ⟨7, 7⟩) (meth := k7m7) (c := k7c7) (by decide +kernel) rfl rfl rfl (by decide +kernel)
set_option maxRecDepth 65536 in
theorem w_c28 : (Jvm.Cond.code ({ cls := "java/lang/AbstractStringBuilder", name := "getValue", desc := "()[B" } : Jvm.MethodName) jdk_68_method_64_code (1 : Nat) (Option.some (Jvm.ClassFile.FieldType.array Jvm.ClassFile.FieldType.byte))).before args0 about1 = true := code_word (m := ⟨14, 7⟩) (meth := k14m7) (c := k14c7) (by decide +kernel) rfl rfl rfl (by decide +kernel)
set_option maxRecDepth 65536 in
theorem w_c29 : (Jvm.Cond.code ({ cls := "java/lang/StringBuilder", name := "length", desc := "()I" } : Jvm.MethodName) jdk_67_method_93_code (1 : Nat) (Option.some Jvm.ClassFile.FieldType.int)).before args0 about1 = true := code_word (m := ⟨15, 4⟩) (meth := k15m4) (c := k15c4) (by decide +kernel) rfl rfl rfl (by decide +kernel)
set_option maxRecDepth 65536 in
theorem w_c30 : (Jvm.Cond.code ({ cls := "java/lang/AbstractStringBuilder", name := "length", desc := "()I" } : Jvm.MethodName) jdk_68_method_6_code (1 : Nat) (Option.some Jvm.ClassFile.FieldType.int)).before args0 about1 = true := code_word (m := ⟨14, 2⟩) (meth := k14m2) (c := k14c2) (by decide +kernel) rfl rfl rfl (by decide +kernel)
set_option maxRecDepth 65536 in
theorem w_c31 : (Jvm.Cond.code ({ cls := "java/util/Arrays", name := "copyOfRange", desc := "([BII)[B" } : Jvm.MethodName) jdk_65_method_132_code (3 : Nat) (Option.some (Jvm.ClassFile.FieldType.array Jvm.ClassFile.FieldType.byte))).before args0 about1 = true := code_word (m := ⟨19, 3⟩) (meth := k19m3) (c := k19c3) (by decide +kernel) rfl rfl rfl (by decide +kernel)
set_option maxRecDepth 65536 in
theorem w_c32 : (Jvm.Cond.code ({ cls := "java/util/Arrays", name := "copyOfRangeByte", desc := "([BII)[B" } : Jvm.MethodName) jdk_65_method_133_code (5 : Nat) (Option.some (Jvm.ClassFile.FieldType.array Jvm.ClassFile.FieldType.byte))).before args0 about1 = true := code_word (m := ⟨19, 4⟩) (meth := k19m4) (c := k19c4) (by decide +kernel) rfl rfl rfl (by decide +kernel)
set_option maxRecDepth 65536 in
theorem w_c33 : (Jvm.Cond.code ({ cls := "java/util/Arrays", name := "checkLength", desc := "(II)V" } : Jvm.MethodName) jdk_65_method_131_code (2 : Nat) (Option.none : Option Jvm.ClassFile.FieldType)).before args0 about1 = true := code_word (m := ⟨19, 2⟩) (meth := k19m2) (c := k19c2) (by decide +kernel) rfl rfl rfl (by decide +kernel)
set_option maxRecDepth 65536 in
theorem w_c34 : (Jvm.Cond.code ({ cls := "java/lang/Math", name := "min", desc := "(II)I" } : Jvm.MethodName) jdk_29_method_69_code (2 : Nat) (Option.some Jvm.ClassFile.FieldType.int)).before args0 about1 = true := code_word (m := ⟨20, 2⟩) (meth := k20m2) (c := k20c2) (by decide +kernel) rfl rfl rfl (by decide +kernel)
set_option maxRecDepth 65536 in
theorem w_c35 : (Jvm.Cond.code ({ cls := "java/lang/Exception", name := "<init>", desc := "(Ljava/lang/String;)V" } : Jvm.MethodName) jdk_59_method_2_code (2 : Nat) (Option.none : Option Jvm.ClassFile.FieldType)).before args0 about1 = true := code_word (m := ⟨11, 1⟩) (meth := k11m1) (c := k11c1) (by decide +kernel) rfl rfl rfl (by decide +kernel)
set_option maxRecDepth 65536 in
theorem w_c36 : (Jvm.Cond.code ({ cls := "java/lang/Throwable", name := "<init>", desc := "(Ljava/lang/String;)V" } : Jvm.MethodName) jdk_78_method_2_code (2 : Nat) (Option.none : Option Jvm.ClassFile.FieldType)).before args0 about1 = true := code_word (m := ⟨10, 1⟩) (meth := k10m1) (c := k10c1) (by decide +kernel) rfl rfl rfl (by decide +kernel)
set_option maxRecDepth 65536 in
theorem w_c37 : (Jvm.Cond.code ({ cls := "java/lang/Throwable", name := "<init>", desc := "()V" } : Jvm.MethodName) jdk_78_method_1_code (1 : Nat) (Option.none : Option Jvm.ClassFile.FieldType)).before args0 about1 = true := code_word (m := ⟨10, 0⟩) (meth := k10m0) (c := k10c0) (by decide +kernel) rfl rfl rfl (by decide +kernel)
set_option maxRecDepth 65536 in
theorem w_c38 : (Jvm.Cond.code ({ cls := "java/lang/Throwable", name := "getMessage", desc := "()Ljava/lang/String;" } : Jvm.MethodName) jdk_78_method_6_code (1 : Nat) (Option.some (Jvm.ClassFile.FieldType.object "java/lang/String"))).before args0 about1 = true := code_word (m := ⟨10, 2⟩) (meth := k10m2) (c := k10c2) (by decide +kernel) rfl rfl rfl (by decide +kernel)
set_option maxRecDepth 65536 in
theorem w_c39 : (Jvm.Cond.code ({ cls := "com/example/claimgate/claimgate/config/ConfigSyntaxErrorPinLaw", name := "digits", desc := "(I)I" } : Jvm.MethodName) method_4_code (2 : Nat) (Option.some Jvm.ClassFile.FieldType.int)).before args0 about1 = true := code_word (m := ⟨1, 3⟩) (meth := k1m3) (c := k1c3) (by decide +kernel) rfl rfl rfl (by decide +kernel)
set_option maxRecDepth 65536 in
theorem w_c40 : (Jvm.Cond.code ({ cls := "java/lang/String", name := "charAt", desc := "(I)C" } : Jvm.MethodName) jdk_42_method_56_code (2 : Nat) (Option.some Jvm.ClassFile.FieldType.char)).before args0 about1 = true := code_word (m := ⟨7, 4⟩) (meth := k7m4) (c := k7c4) (by decide +kernel) rfl rfl rfl (by decide +kernel)
set_option maxRecDepth 65536 in
theorem w_c41 : (Jvm.Cond.code ({ cls := "java/lang/String", name := "isLatin1", desc := "()Z" } : Jvm.MethodName) jdk_42_method_154_code (1 : Nat) (Option.some Jvm.ClassFile.FieldType.boolean)).before args0 about1 = true := code_word (m := ⟨7, 9⟩) (meth := k7m9) (c := k7c9) (by decide +kernel) rfl rfl rfl (by decide +kernel)
set_option maxRecDepth 65536 in
theorem w_c42 : (Jvm.Cond.code ({ cls := "java/lang/StringLatin1", name := "charAt", desc := "([BI)C" } : Jvm.MethodName) jdk_43_method_2_code (2 : Nat) (Option.some Jvm.ClassFile.FieldType.char)).before args0 about1 = true := code_word (m := ⟨21, 1⟩) (meth := k21m1) (c := k21c1) (by decide +kernel) rfl rfl rfl (by decide +kernel)
set_option maxRecDepth 65536 in
theorem w_c43 : (Jvm.Cond.code ({ cls := "java/lang/String", name := "checkIndex", desc := "(II)V" } : Jvm.MethodName) jdk_42_method_155_code (2 : Nat) (Option.none : Option Jvm.ClassFile.FieldType)).before args0 about1 = true := code_word (m := ⟨7, 10⟩) (meth := k7m10) (c := k7c10) (by decide +kernel) rfl rfl rfl (by decide +kernel)
set_option maxRecDepth 65536 in
theorem w_c44 : (Jvm.Cond.code ({ cls := "jdk/internal/util/Preconditions", name := "checkIndex", desc := "(IILjava/util/function/BiFunction;)I" } : Jvm.MethodName) jdk_41_method_11_code (3 : Nat) (Option.some Jvm.ClassFile.FieldType.int)).before args0 about1 = true := code_word (m := ⟨22, 1⟩) (meth := k22m1) (c := k22c1) (by decide +kernel) rfl rfl rfl (by decide +kernel)
set_option maxRecDepth 65536 in
theorem w_c45 : (Jvm.Cond.code ({ cls := "com/example/claimgate/claimgate/config/ConfigSyntaxErrorPinLaw", name := "digitOk", desc := "(Ljava/lang/String;III)Z" } : Jvm.MethodName) method_3_code (5 : Nat) (Option.some Jvm.ClassFile.FieldType.boolean)).before args0 about1 = true := code_word (m := ⟨1, 2⟩) (meth := k1m2) (c := k1c2) (by decide +kernel) rfl rfl rfl (by decide +kernel)
set_option maxRecDepth 65536 in
theorem w_c46 : (Jvm.Cond.code ({ cls := "com/example/claimgate/claimgate/config/ConfigSyntaxErrorPinLaw", name := "pow10", desc := "(I)I" } : Jvm.MethodName) method_5_code (1 : Nat) (Option.some Jvm.ClassFile.FieldType.int)).before args0 about1 = true := code_word (m := ⟨1, 4⟩) (meth := k1m4) (c := k1c4) (by decide +kernel) rfl rfl rfl (by decide +kernel)
set_option maxRecDepth 65536 in
theorem w_c47 : (Jvm.Cond.code ({ cls := "java/lang/AbstractStringBuilder", name := "newCapacity", desc := "(I)I" } : Jvm.MethodName) jdk_68_method_10_code (6 : Nat) (Option.some Jvm.ClassFile.FieldType.int)).before args0 about1 = true := code_word (m := ⟨14, 4⟩) (meth := k14m4) (c := k14c4) (by decide +kernel) rfl rfl rfl (by decide +kernel)
set_option maxRecDepth 65536 in
theorem w_c48 : (Jvm.Cond.code ({ cls := "jdk/internal/util/ArraysSupport", name := "newLength", desc := "(III)I" } : Jvm.MethodName) jdk_48_method_27_code (4 : Nat) (Option.some Jvm.ClassFile.FieldType.int)).before args0 about1 = true := code_word (m := ⟨24, 1⟩) (meth := k24m1) (c := k24c1) (by decide +kernel) rfl rfl rfl (by decide +kernel)
set_option maxRecDepth 65536 in
theorem w_c49 : (Jvm.Cond.code ({ cls := "java/lang/Math", name := "max", desc := "(II)I" } : Jvm.MethodName) jdk_29_method_65_code (2 : Nat) (Option.some Jvm.ClassFile.FieldType.int)).before args0 about1 = true := code_word (m := ⟨20, 1⟩) (meth := k20m1) (c := k20c1) (by decide +kernel) rfl rfl rfl (by decide +kernel)
set_option maxRecDepth 65536 in
theorem w_c50 : (Jvm.Cond.code ({ cls := "java/util/Arrays", name := "copyOf", desc := "([BI)[B" } : Jvm.MethodName) jdk_65_method_121_code (3 : Nat) (Option.some (Jvm.ClassFile.FieldType.array Jvm.ClassFile.FieldType.byte))).before args0 about1 = true := code_word (m := ⟨19, 1⟩) (meth := k19m1) (c := k19c1) (by decide +kernel) rfl rfl rfl (by decide +kernel)
def codes1 : List Jvm.Cond := [Jvm.Cond.code x code maxLocals ret, Jvm.Cond.code ({ cls := "java/lang/String", name := "<init>", desc := "([C)V" } : Jvm.MethodName) jdk_42_method_3_code (2 : Nat) (Option.none : Option Jvm.ClassFile.FieldType), Jvm.Cond.code ({ cls := "java/lang/String", name := "<init>", desc := "([CIILjava/lang/Void;)V" } : Jvm.MethodName) jdk_42_method_149_code (6 : Nat) (Option.none : Option Jvm.ClassFile.FieldType), Jvm.Cond.code ({ cls := "java/lang/Object", name := "<init>", desc := "()V" } : Jvm.MethodName) object_method_1_code (1 : Nat) (Option.none : Option Jvm.ClassFile.FieldType), Jvm.Cond.code ({ cls := "java/lang/StringUTF16", name := "compress", desc := "([CII)[B" } : Jvm.MethodName) jdk_52_method_16_code (6 : Nat) (Option.some (Jvm.ClassFile.FieldType.array Jvm.ClassFile.FieldType.byte)), Jvm.Cond.code ({ cls := "java/lang/StringUTF16", name := "compress", desc := "([CI[BII)I" } : Jvm.MethodName) jdk_52_method_21_code (7 : Nat) (Option.some Jvm.ClassFile.FieldType.int), Jvm.Cond.code ({ cls := "java/lang/StringUTF16", name := "coderFromArrayLen", desc := "([BI)B" } : Jvm.MethodName) jdk_52_method_15_code (2 : Nat) (Option.some Jvm.ClassFile.FieldType.byte), Jvm.Cond.code ({ cls := "com/example/claimgate/claimgate/config/ConfigSyntax", name := "<init>", desc := "(Ljava/lang/String;)V" } : Jvm.MethodName) prog_19_method_1_code (2 : Nat) (Option.none : Option Jvm.ClassFile.FieldType), Jvm.Cond.code ({ cls := "com/example/claimgate/claimgate/config/ConfigSyntax", name := "error", desc := "(ILjava/lang/String;)Lcom/example/claimgate/claimgate/config/ConfigException;" } : Jvm.MethodName) prog_19_method_2_code (3 : Nat) (Option.some (Jvm.ClassFile.FieldType.object "com/example/claimgate/claimgate/config/ConfigException")), Jvm.Cond.code ({ cls := "com/example/claimgate/claimgate/config/ConfigException", name := "<init>", desc := "(Ljava/lang/String;ILjava/lang/String;)V" } : Jvm.MethodName) prog_18_method_1_code (4 : Nat) (Option.none : Option Jvm.ClassFile.FieldType), Jvm.Cond.code ({ cls := "java/lang/StringBuilder", name := "<init>", desc := "()V" } : Jvm.MethodName) jdk_67_method_1_code (1 : Nat) (Option.none : Option Jvm.ClassFile.FieldType), Jvm.Cond.code ({ cls := "java/lang/AbstractStringBuilder", name := "<init>", desc := "(I)V" } : Jvm.MethodName) jdk_68_method_2_code (2 : Nat) (Option.none : Option Jvm.ClassFile.FieldType), Jvm.Cond.code ({ cls := "java/lang/StringBuilder", name := "append", desc := "(Ljava/lang/String;)Ljava/lang/StringBuilder;" } : Jvm.MethodName) jdk_67_method_7_code (2 : Nat) (Option.some (Jvm.ClassFile.FieldType.object "java/lang/StringBuilder")), Jvm.Cond.code ({ cls := "java/lang/AbstractStringBuilder", name := "append", desc := "(Ljava/lang/String;)Ljava/lang/AbstractStringBuilder;" } : Jvm.MethodName) jdk_68_method_22_code (3 : Nat) (Option.some (Jvm.ClassFile.FieldType.object "java/lang/AbstractStringBuilder")), Jvm.Cond.code ({ cls := "java/lang/String", name := "length", desc := "()I" } : Jvm.MethodName) jdk_42_method_54_code (1 : Nat) (Option.some Jvm.ClassFile.FieldType.int), Jvm.Cond.code ({ cls := "java/lang/String", name := "coder", desc := "()B" } : Jvm.MethodName) jdk_42_method_152_code (1 : Nat) (Option.some Jvm.ClassFile.FieldType.byte), Jvm.Cond.code ({ cls := "java/lang/AbstractStringBuilder", name := "ensureCapacityInternal", desc := "(I)V" } : Jvm.MethodName) jdk_68_method_9_code (3 : Nat) (Option.none : Option Jvm.ClassFile.FieldType), Jvm.Cond.code ({ cls := "java/lang/AbstractStringBuilder", name := "putStringAt", desc := "(ILjava/lang/String;)V" } : Jvm.MethodName) jdk_68_method_73_code (3 : Nat) (Option.none : Option Jvm.ClassFile.FieldType), Jvm.Cond.code ({ cls := "java/lang/AbstractStringBuilder", name := "inflateIfNeededFor", desc := "(Ljava/lang/String;)V" } : Jvm.MethodName) jdk_68_method_71_code (2 : Nat) (Option.none : Option Jvm.ClassFile.FieldType), Jvm.Cond.code ({ cls := "java/lang/String", name := "getBytes", desc := "([BIB)V" } : Jvm.MethodName) jdk_42_method_147_code (4 : Nat) (Option.none : Option Jvm.ClassFile.FieldType), Jvm.Cond.code ({ cls := "java/lang/StringBuilder", name := "append", desc := "(I)Ljava/lang/StringBuilder;" } : Jvm.MethodName) jdk_67_method_15_code (2 : Nat) (Option.some (Jvm.ClassFile.FieldType.object "java/lang/StringBuilder")), Jvm.Cond.code ({ cls := "java/lang/AbstractStringBuilder", name := "append", desc := "(I)Ljava/lang/AbstractStringBuilder;" } : Jvm.MethodName) jdk_68_method_32_code (4 : Nat) (Option.some (Jvm.ClassFile.FieldType.object "java/lang/AbstractStringBuilder")), Jvm.Cond.code ({ cls := "java/lang/Integer", name := "stringSize", desc := "(I)I" } : Jvm.MethodName) jdk_33_method_13_code (4 : Nat) (Option.some Jvm.ClassFile.FieldType.int), Jvm.Cond.code ({ cls := "java/lang/AbstractStringBuilder", name := "isLatin1", desc := "()Z" } : Jvm.MethodName) jdk_68_method_68_code (1 : Nat) (Option.some Jvm.ClassFile.FieldType.boolean), Jvm.Cond.code ({ cls := "java/lang/Integer", name := "getChars", desc := "(II[B)I" } : Jvm.MethodName) jdk_33_method_12_code (7 : Nat) (Option.some Jvm.ClassFile.FieldType.int), Jvm.Cond.code ({ cls := "java/lang/StringBuilder", name := "toString", desc := "()Ljava/lang/String;" } : Jvm.MethodName) jdk_67_method_42_code (1 : Nat) (Option.some (Jvm.ClassFile.FieldType.object "java/lang/String")), Jvm.Cond.code ({ cls := "java/lang/String", name := "<init>", desc := "(Ljava/lang/StringBuilder;)V" } : Jvm.MethodName) jdk_42_method_53_code (2 : Nat) (Option.none : Option Jvm.ClassFile.FieldType), Jvm.Cond.code ({ cls := "java/lang/String", name := "<init>", desc := "(Ljava/lang/AbstractStringBuilder;Ljava/lang/Void;)V" } : Jvm.MethodName) jdk_42_method_150_code (5 : Nat) (Option.none : Option Jvm.ClassFile.FieldType), Jvm.Cond.code ({ cls := "java/lang/AbstractStringBuilder", name := "getValue", desc := "()[B" } : Jvm.MethodName) jdk_68_method_64_code (1 : Nat) (Option.some (Jvm.ClassFile.FieldType.array Jvm.ClassFile.FieldType.byte)), Jvm.Cond.code ({ cls := "java/lang/StringBuilder", name := "length", desc := "()I" } : Jvm.MethodName) jdk_67_method_93_code (1 : Nat) (Option.some Jvm.ClassFile.FieldType.int), Jvm.Cond.code ({ cls := "java/lang/AbstractStringBuilder", name := "length", desc := "()I" } : Jvm.MethodName) jdk_68_method_6_code (1 : Nat) (Option.some Jvm.ClassFile.FieldType.int), Jvm.Cond.code ({ cls := "java/util/Arrays", name := "copyOfRange", desc := "([BII)[B" } : Jvm.MethodName) jdk_65_method_132_code (3 : Nat) (Option.some (Jvm.ClassFile.FieldType.array Jvm.ClassFile.FieldType.byte)), Jvm.Cond.code ({ cls := "java/util/Arrays", name := "copyOfRangeByte", desc := "([BII)[B" } : Jvm.MethodName) jdk_65_method_133_code (5 : Nat) (Option.some (Jvm.ClassFile.FieldType.array Jvm.ClassFile.FieldType.byte)), Jvm.Cond.code ({ cls := "java/util/Arrays", name := "checkLength", desc := "(II)V" } : Jvm.MethodName) jdk_65_method_131_code (2 : Nat) (Option.none : Option Jvm.ClassFile.FieldType), Jvm.Cond.code ({ cls := "java/lang/Math", name := "min", desc := "(II)I" } : Jvm.MethodName) jdk_29_method_69_code (2 : Nat) (Option.some Jvm.ClassFile.FieldType.int), Jvm.Cond.code ({ cls := "java/lang/Exception", name := "<init>", desc := "(Ljava/lang/String;)V" } : Jvm.MethodName) jdk_59_method_2_code (2 : Nat) (Option.none : Option Jvm.ClassFile.FieldType), Jvm.Cond.code ({ cls := "java/lang/Throwable", name := "<init>", desc := "(Ljava/lang/String;)V" } : Jvm.MethodName) jdk_78_method_2_code (2 : Nat) (Option.none : Option Jvm.ClassFile.FieldType), Jvm.Cond.code ({ cls := "java/lang/Throwable", name := "<init>", desc := "()V" } : Jvm.MethodName) jdk_78_method_1_code (1 : Nat) (Option.none : Option Jvm.ClassFile.FieldType), Jvm.Cond.code ({ cls := "java/lang/Throwable", name := "getMessage", desc := "()Ljava/lang/String;" } : Jvm.MethodName) jdk_78_method_6_code (1 : Nat) (Option.some (Jvm.ClassFile.FieldType.object "java/lang/String")), Jvm.Cond.code ({ cls := "com/example/claimgate/claimgate/config/ConfigSyntaxErrorPinLaw", name := "digits", desc := "(I)I" } : Jvm.MethodName) method_4_code (2 : Nat) (Option.some Jvm.ClassFile.FieldType.int), Jvm.Cond.code ({ cls := "java/lang/String", name := "charAt", desc := "(I)C" } : Jvm.MethodName) jdk_42_method_56_code (2 : Nat) (Option.some Jvm.ClassFile.FieldType.char), Jvm.Cond.code ({ cls := "java/lang/String", name := "isLatin1", desc := "()Z" } : Jvm.MethodName) jdk_42_method_154_code (1 : Nat) (Option.some Jvm.ClassFile.FieldType.boolean), Jvm.Cond.code ({ cls := "java/lang/StringLatin1", name := "charAt", desc := "([BI)C" } : Jvm.MethodName) jdk_43_method_2_code (2 : Nat) (Option.some Jvm.ClassFile.FieldType.char), Jvm.Cond.code ({ cls := "java/lang/String", name := "checkIndex", desc := "(II)V" } : Jvm.MethodName) jdk_42_method_155_code (2 : Nat) (Option.none : Option Jvm.ClassFile.FieldType), Jvm.Cond.code ({ cls := "jdk/internal/util/Preconditions", name := "checkIndex", desc := "(IILjava/util/function/BiFunction;)I" } : Jvm.MethodName) jdk_41_method_11_code (3 : Nat) (Option.some Jvm.ClassFile.FieldType.int), Jvm.Cond.code ({ cls := "com/example/claimgate/claimgate/config/ConfigSyntaxErrorPinLaw", name := "digitOk", desc := "(Ljava/lang/String;III)Z" } : Jvm.MethodName) method_3_code (5 : Nat) (Option.some Jvm.ClassFile.FieldType.boolean), Jvm.Cond.code ({ cls := "com/example/claimgate/claimgate/config/ConfigSyntaxErrorPinLaw", name := "pow10", desc := "(I)I" } : Jvm.MethodName) method_5_code (1 : Nat) (Option.some Jvm.ClassFile.FieldType.int), Jvm.Cond.code ({ cls := "java/lang/AbstractStringBuilder", name := "newCapacity", desc := "(I)I" } : Jvm.MethodName) jdk_68_method_10_code (6 : Nat) (Option.some Jvm.ClassFile.FieldType.int), Jvm.Cond.code ({ cls := "jdk/internal/util/ArraysSupport", name := "newLength", desc := "(III)I" } : Jvm.MethodName) jdk_48_method_27_code (4 : Nat) (Option.some Jvm.ClassFile.FieldType.int), Jvm.Cond.code ({ cls := "java/lang/Math", name := "max", desc := "(II)I" } : Jvm.MethodName) jdk_29_method_65_code (2 : Nat) (Option.some Jvm.ClassFile.FieldType.int), Jvm.Cond.code ({ cls := "java/util/Arrays", name := "copyOf", desc := "([BI)[B" } : Jvm.MethodName) jdk_65_method_121_code (3 : Nat) (Option.some (Jvm.ClassFile.FieldType.array Jvm.ClassFile.FieldType.byte))]
set_option maxRecDepth 65536 in
theorem codes_eq : words1.filter isCode = codes1 := rfl
theorem w_codes : ∀ c ∈ words1.filter isCode, c.before args0 about1 = true := by
  rw [codes_eq]
  intro c hc
  simp only [codes1, List.mem_cons, List.not_mem_nil, or_false] at hc
  rcases hc with rfl | rfl | rfl | rfl | rfl | rfl | rfl | rfl | rfl | rfl | rfl | rfl | rfl | rfl | rfl | rfl | rfl | rfl | rfl | rfl | rfl | rfl | rfl | rfl | rfl | rfl | rfl | rfl | rfl | rfl | rfl | rfl | rfl | rfl | rfl | rfl | rfl | rfl | rfl | rfl | rfl | rfl | rfl | rfl | rfl | rfl | rfl | rfl | rfl | rfl | rfl
  · exact w_c0
  · exact w_c1
  · exact w_c2
  · exact w_c3
  · exact w_c4
  · exact w_c5
  · exact w_c6
  · exact w_c7
  · exact w_c8
  · exact w_c9
  · exact w_c10
  · exact w_c11
  · exact w_c12
  · exact w_c13
  · exact w_c14
  · exact w_c15
  · exact w_c16
  · exact w_c17
  · exact w_c18
  · exact w_c19
  · exact w_c20
  · exact w_c21
  · exact w_c22
  · exact w_c23
  · exact w_c24
  · exact w_c25
  · exact w_c26
  · exact w_c27
  · exact w_c28
  · exact w_c29
  · exact w_c30
  · exact w_c31
  · exact w_c32
  · exact w_c33
  · exact w_c34
  · exact w_c35
  · exact w_c36
  · exact w_c37
  · exact w_c38
  · exact w_c39
  · exact w_c40
  · exact w_c41
  · exact w_c42
  · exact w_c43
  · exact w_c44
  · exact w_c45
  · exact w_c46
  · exact w_c47
  · exact w_c48
  · exact w_c49
  · exact w_c50
set_option maxRecDepth 65536 in
theorem w_t1 : (words1.take 24).all (fun c => isCode c || c.before args0 about1) = true := by decide +kernel
set_option maxRecDepth 65536 in
theorem w_t2 : ((words1.drop 24).take 24).all (fun c => isCode c || c.before args0 about1) = true := by decide +kernel
set_option maxRecDepth 65536 in
theorem w_t3 : (((words1.drop 24).drop 24).take 24).all (fun c => isCode c || c.before args0 about1) = true := by decide +kernel
set_option maxRecDepth 65536 in
theorem w_t4 : ((((words1.drop 24).drop 24).drop 24).take 24).all (fun c => isCode c || c.before args0 about1) = true := by decide +kernel
set_option maxRecDepth 65536 in
theorem w_t5 : (((((words1.drop 24).drop 24).drop 24).drop 24).take 24).all (fun c => isCode c || c.before args0 about1) = true := by decide +kernel
set_option maxRecDepth 65536 in
theorem w_t6 : ((((((words1.drop 24).drop 24).drop 24).drop 24).drop 24).take 24).all (fun c => isCode c || c.before args0 about1) = true := by decide +kernel
set_option maxRecDepth 65536 in
theorem w_t7 : (((((((words1.drop 24).drop 24).drop 24).drop 24).drop 24).drop 24).take 24).all (fun c => isCode c || c.before args0 about1) = true := by decide +kernel
set_option maxRecDepth 65536 in
theorem w_t8 : ((((((((words1.drop 24).drop 24).drop 24).drop 24).drop 24).drop 24).drop 24).take 24).all (fun c => isCode c || c.before args0 about1) = true := by decide +kernel
set_option maxRecDepth 65536 in
theorem w_t9 : (((((((((words1.drop 24).drop 24).drop 24).drop 24).drop 24).drop 24).drop 24).drop 24).take 24).all (fun c => isCode c || c.before args0 about1) = true := by decide +kernel
set_option maxRecDepth 65536 in
theorem w_t10 : ((((((((((words1.drop 24).drop 24).drop 24).drop 24).drop 24).drop 24).drop 24).drop 24).drop 24).take 24).all (fun c => isCode c || c.before args0 about1) = true := by decide +kernel
set_option maxRecDepth 65536 in
theorem w_t11 : (((((((((((words1.drop 24).drop 24).drop 24).drop 24).drop 24).drop 24).drop 24).drop 24).drop 24).drop 24).take 24).all (fun c => isCode c || c.before args0 about1) = true := by decide +kernel
set_option maxRecDepth 65536 in
theorem w_t12 : ((((((((((((words1.drop 24).drop 24).drop 24).drop 24).drop 24).drop 24).drop 24).drop 24).drop 24).drop 24).drop 24).take 24).all (fun c => isCode c || c.before args0 about1) = true := by decide +kernel
set_option maxRecDepth 65536 in
theorem w_t13 : ((((((((((((words1.drop 24).drop 24).drop 24).drop 24).drop 24).drop 24).drop 24).drop 24).drop 24).drop 24).drop 24).drop 24).all (fun c => isCode c || c.before args0 about1) = true := by decide +kernel
theorem w_tables : (allAtoms (Jvm.Cond.code x code maxLocals ret :: tables_1)).before args0 about1 = true := by
  rw [allAtoms_all]
  show words1.all (fun c => c.before args0 about1) = true
  refine all_split ?_ w_codes
  rw [← List.take_append_drop 24 words1, List.all_append, w_t1, ← List.take_append_drop 24 (words1.drop 24), List.all_append, w_t2, ← List.take_append_drop 24 ((words1.drop 24).drop 24), List.all_append, w_t3, ← List.take_append_drop 24 (((words1.drop 24).drop 24).drop 24), List.all_append, w_t4, ← List.take_append_drop 24 ((((words1.drop 24).drop 24).drop 24).drop 24), List.all_append, w_t5, ← List.take_append_drop 24 (((((words1.drop 24).drop 24).drop 24).drop 24).drop 24), List.all_append, w_t6, ← List.take_append_drop 24 ((((((words1.drop 24).drop 24).drop 24).drop 24).drop 24).drop 24), List.all_append, w_t7, ← List.take_append_drop 24 (((((((words1.drop 24).drop 24).drop 24).drop 24).drop 24).drop 24).drop 24), List.all_append, w_t8, ← List.take_append_drop 24 ((((((((words1.drop 24).drop 24).drop 24).drop 24).drop 24).drop 24).drop 24).drop 24), List.all_append, w_t9, ← List.take_append_drop 24 (((((((((words1.drop 24).drop 24).drop 24).drop 24).drop 24).drop 24).drop 24).drop 24).drop 24), List.all_append, w_t10, ← List.take_append_drop 24 ((((((((((words1.drop 24).drop 24).drop 24).drop 24).drop 24).drop 24).drop 24).drop 24).drop 24).drop 24), List.all_append, w_t11, ← List.take_append_drop 24 (((((((((((words1.drop 24).drop 24).drop 24).drop 24).drop 24).drop 24).drop 24).drop 24).drop 24).drop 24).drop 24), List.all_append, w_t12, w_t13]
  rfl
set_option maxRecDepth 65536 in
theorem w_rest : rest_1_c.before args0 about1 = true := by decide +kernel
set_option maxRecDepth 65536 in
theorem w_case : (Jvm.Cond.and given_1 narrow_1).before args0 about1 = true := by decide +kernel
set_option maxRecDepth 65536 in
theorem w_consts : constsHeld consts_1 about1 := Jvm.Lit.constsHeldB_iff.mp (by decide +kernel)
theorem w_applies : (headSpec (Jvm.Cond.code x code maxLocals ret :: tables_1) room_1).applies x e0.platform about1 = true :=
  (Spec.applies_iff w_frames).mpr ⟨w_running, w_runnable, w_alone, w_named, w_hears, w_ripe, w_room, w_tables⟩
theorem atStart : AtStart classFile x code maxLocals ret World_1 tables_1 room_1 Calls_1 rest_1 Pre_1 launch0 p0 e0 about1 theMethod args0 below0 :=
  ⟨lists_1, trivial, launch0.admits_env _ _ _, launch0.least_env, fairChoices_fair.cas, fairChoices_fair.clock, w_frames, w_args, w_heap, w_applies, ⟨(by decide +kernel : framesKnown about1 = true), ⟨(by decide +kernel : tablesKnown about1 = true), ⟨w_consts, trivial⟩⟩⟩, w_rest, w_case⟩
end start1
theorem witness_1 : WitnessClaimed_1 := ⟨start1.p0, start1.e0, start1.about1, start1.theMethod, start1.args0, start1.below0, start1.atStart⟩
end Jvm.Pilot.@@N@@
