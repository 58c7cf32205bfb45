import JvmDerived
import JvmDerived.Pilot.@@N@@Statement
import JvmDerived.Pilot.@@N@@Code
set_option linter.unusedVariables false
set_option linter.unusedSimpArgs false
namespace Jvm.Pilot.@@N@@
open Jvm Jvm.ClassFile Sem Op Lib Jvm.Free Jvm.Stand Jvm.LawKit Jvm.RoadKit Bundle Jvm.Free.XT Jvm.Pilot.@@N@@.Jvm.D
theorem own_n0 {Z : State} {n0 : Nat} {h : Heap} (X : Old Z n0 h) : n0 ≤ h.size := X.1 ▸ X.2.1
theorem own_lt {a m n : Nat} (h : a < m) (k : m ≤ n) : a < n := Nat.lt_of_lt_of_le h k
theorem own_since0 (s : State) (n : Nat) : s.Since s.vm n := ⟨State.Warmed39.refl s, fun j p hj hp => absurd (Array.getElem?_eq_some_iff.mp hp).1 (Nat.not_lt.mpr hj)⟩
theorem own_narR {v : Value} {t : FieldType} (h : v.isRef = true) : narrow t v = v := by rcases ref_cases h with rfl | ⟨a, rfl⟩ <;> cases t <;> rfl
theorem own_fitR {v : Value} {t : FieldType} (h : v.isRef = true) (ht : t.isReference = true := by rfl) : fits t v = true := by rcases ref_cases h with rfl | ⟨a, rfl⟩ <;> cases t <;> first | rfl | cases ht
theorem own_cast {p : Program} {l : Launch} {e : Env} {R : Room} {s : State} {m : MethodId} {args : Array Value} {below : List Frame} {meth : Method} {c : Code} {T : State} {L L' : List Loc} {k k' n n' : Nat} (X : Stand p l e R s m args below meth c T L k n) (h1 : L = L') (h2 : k = k') (h3 : n = n') : Stand p l e R s m args below meth c T L' k' n' := by
  subst h1 h2 h3; exact X
theorem own_priv {s : State} {args : Array Value} {y : MethodName} (h : (Jvm.Cond.privateMethod y).before args s = true) : s.PrivateAt y := Cond.privateMethod_at h
abbrev own_CP (l : Launch) (Z : State) (y : MethodName) (bytes : ByteArray) (ml : Nat) (ret : Option FieldType) (ws : List Jvm.Cond) (R : Room) (as' : Array Value) (h0 : Heap) (Q : Option Value → Heap → List Loc → Prop) : Prop :=
  MetFree l y (head1 (Jvm.Cond.code y bytes ml ret :: ws) R) (fun a U => a = as' ∧ Z.Warmed39 U.vm ∧ U.heap = h0) (fun _ _ _ _ _ => True) (fun _ U o U' => ∃ v L, o = .returned v ∧ Q v U'.heap L ∧ FrameEnd U o U' L R.cells R.slots)
theorem own_P {l : Launch} {Z : State} {y : MethodName} {bytes : ByteArray} {ml : Nat} {ret : Option FieldType} {ws : List Jvm.Cond} {R : Room} {as' : Array Value} {h0 : Heap} {Q : Option Value → Heap → List Loc → Prop} (hpl : plainFor y = true)
    (H : ∀ (p : Program) (e : Env) (s : State) (m : MethodId) (below : List Frame) (meth : Method) (c : ClassFile.Code) (s₁ S0 : State), BodyLoose p l y (head1 (Jvm.Cond.code y bytes ml ret :: ws) R) bytes ml ret e s m as' below meth c s₁ → Z.Warmed39 s.vm → s.heap = h0 → p.tables.exec = Jvm.exec → c.code = bytes → c.maxLocals = ml → s.vm.findClass y.cls = some m.cls → meth.name = y.name →
      Stand p l e R s m as' below meth c s₁ [] 0 0 → s₁.heap = h0 → S0 = s₁.setTop (entryFrame m as' ml) → ∃ s₂ o, Steps p.tables e below S0 s₂ ∧ s₂.status = .running ∧ Ended s₂ below o ∧ ∃ v L, o = .returned v ∧ Q v s₂.heap L ∧ FrameEnd s o s₂ L R.cells R.slots) : own_CP l Z y bytes ml ret ws R as' h0 Q := by
  refine MetFree.of_bodySF hpl hisR ?_
  intro p e s m args below meth c s₁ Bd hml hP hK
  obtain ⟨rfl, hZ, hh⟩ := hP
  exact H p e s m below meth c s₁ _ Bd hZ hh Bd.exec Bd.bytes hml (findClass_of_methodNamed Bd.named) (name_of_methodNamed Bd.named Bd.method).1 (Stand.of_body Bd) (by rw [← hh, Bd.state]; rfl) rfl
theorem own_EL {Z : State} {a0 : Array Value} (hw : ∀ d ∈ tables_1, d.before a0 Z = true) : EW Z a0 consts_1 := (EW.cons (hw _ (List.mem_of_getElem? (i := 23) rfl)) (by decide) EW.nil)
theorem own_SA {Z : State} {a0 : Array Value} (hw : ∀ d ∈ tables_1, d.before a0 Z = true) : ∀ d ∈ Bundle.stringAtoms, d.before a0 Z = true := fun d hd => hw d ((by decide +kernel : ∀ d ∈ Bundle.stringAtoms, d ∈ tables_1) d hd)
theorem own_safe_null {Z : State} {EL : List (String × Nat)} {vm : Vm} {h : Heap} {x : Addr} (hal : Z.vm.Alike vm) (E : Exa Z h x "java/lang/String") (F : Fld Z h x "java/lang/String" "value" "[B" .null) : Safe Z EL vm h x := by
  rintro ⟨p, hp, u, a, B, q, hqa, ⟨cS, ⟨S1, S2, S3⟩, -, hcl, hsb⟩, hy⟩
  rcases hy with hy | hy
  · subst hy
    obtain ⟨cell, cf, k, i, f, h1, h2, h3, h4, h5, h6, h7⟩ := F
    obtain ⟨k', h2', -⟩ := State.fieldFound?_setVm (s := Z) hal h2
    obtain ⟨c2, k2, i2, g1, -⟩ := S1.ffV
    have e1 : cell = q.sC := Option.some.inj (h1.symm.trans S1.ha)
    have e2 : (Z.setVm vm).fieldFound? "java/lang/String" "value" "[B" = some (c2, k2, i2, q.fSV) := g1
    have e3 := Option.some.inj (h2'.symm.trans e2)
    have e4 : f = q.fSV := congrArg (fun z => z.2.2.2) e3
    have e5 : q.sC.slots[q.fSV.slot]? = some (.ref q.sd) := S1.2.2.2.2.2.2.2.1
    rw [e1, e4, e5] at h7
    cases h7
  · subst hy
    obtain ⟨c1, k1, h1, h2, -⟩ := E
    have e1 : c1 = q.SA := Option.some.inj (h1.symm.trans S1.2.2.2.2.2.2.2.2.2.1)
    have h2' : vm.findClass "java/lang/String" = some c1.cls := by rw [hal.findClass]; exact h2
    have hcl' : vm.findClass "[B" = some q.SA.cls := hcl
    rw [e1] at h2'
    obtain ⟨k3, a1, a2⟩ := Vm.findClass_spec h2'
    obtain ⟨k4, b1, b2⟩ := Vm.findClass_spec hcl'
    cases a1.symm.trans b1
    exact absurd (a2.symm.trans b2) (by decide)
abbrev own_CH (l : Launch) (Z : State) (y : MethodName) (bytes : ByteArray) (ml : Nat) (ret : Option FieldType) (ws : List Jvm.Cond) (R : Room) (as' : Array Value) (h0 : Heap) (Q : Option Value → Heap → List Loc → Prop) : Prop :=
  MetFree l y (head1 (Jvm.Cond.code y bytes ml ret :: ws) R) (fun a U => a = as' ∧ Z.Warmed39 U.vm ∧ U.heap = h0 ∧ CHv Z consts_1 U.vm h0) (fun _ _ _ _ _ => True) (fun _ U o U' => ∃ v L, o = .returned v ∧ Q v U'.heap L ∧ CHr Z consts_1 U.vm U.heap U'.vm U'.heap ∧ ReturnedEndW U o U' L R.cells R.slots)
abbrev own_CK (l : Launch) (Z : State) (y : MethodName) (bytes : ByteArray) (ml : Nat) (ret : Option FieldType) (ws : List Jvm.Cond) (R : Room) (as' : Array Value) (h0 : Heap) (Q : Option Value → Heap → List Loc → Prop) : Prop :=
  MetFree l y (head1 (Jvm.Cond.code y bytes ml ret :: ws) R) (fun a U => a = as' ∧ Z.Warmed39 U.vm ∧ U.heap = h0 ∧ CHv Z consts_1 U.vm h0) (fun _ _ bl s _ => s.vm.MethodsKnown ∧ s.vm.FramesKnown bl) (fun _ U o U' => ∃ v L, o = .returned v ∧ Q v U'.heap L ∧ CHr Z consts_1 U.vm U.heap U'.vm U'.heap ∧ ReturnedEndW U o U' L R.cells R.slots)
theorem own_H {l : Launch} {Z : State} {y : MethodName} {bytes : ByteArray} {ml : Nat} {ret : Option FieldType} {ws : List Jvm.Cond} {R : Room} {as' : Array Value} {h0 : Heap} {Q : Option Value → Heap → List Loc → Prop} (hpl : plainFor y = true)
    (H : ∀ (p : Program) (e : Env) (s : State) (m : MethodId) (below : List Frame) (meth : Method) (c : ClassFile.Code) (s₁ S0 : State), BodyLoose p l y (head1 (Jvm.Cond.code y bytes ml ret :: ws) R) bytes ml ret e s m as' below meth c s₁ → Z.Warmed39 (s.setVm s.vm).vm → s.heap = h0 → CHv Z consts_1 s.vm h0 → s.Since s.vm h0.size → CHr Z consts_1 s.vm h0 s.vm h0 → p.tables.exec = Jvm.exec → c.code = bytes → c.maxLocals = ml → (s.setVm s.vm).vm.findClass y.cls = some m.cls → meth.name = y.name →
      Stand p l e R (s.setVm s.vm) m as' below meth c s₁ [] 0 0 → s₁.heap = h0 → S0 = s₁.setTop (entryFrame m as' ml) → ∃ s₂ o, Steps p.tables e below S0 s₂ ∧ s₂.status = .running ∧ Ended s₂ below o ∧ ∃ v L, o = .returned v ∧ Q v s₂.heap L ∧ CHr Z consts_1 s.vm s.heap s₂.vm s₂.heap ∧ ReturnedEndW s o s₂ L R.cells R.slots) : own_CH l Z y bytes ml ret ws R as' h0 Q := by
  refine MetFree.of_bodySF hpl hisR ?_
  intro p e s m args below meth c s₁ Bd hml hP hK
  obtain ⟨rfl, hZ, hh, CH0⟩ := hP
  exact H p e s m below meth c s₁ _ Bd hZ hh CH0 (own_since0 s _) (CHr.refl CH0) Bd.exec Bd.bytes hml (findClass_of_methodNamed Bd.named) (name_of_methodNamed Bd.named Bd.method).1 (Stand.of_body Bd) (by rw [← hh, Bd.state]; rfl) rfl
theorem own_K {l : Launch} {Z : State} {y : MethodName} {bytes : ByteArray} {ml : Nat} {ret : Option FieldType} {ws : List Jvm.Cond} {R : Room} {as' : Array Value} {h0 : Heap} {Q : Option Value → Heap → List Loc → Prop} (hpl : plainFor y = true)
    (H : ∀ (p : Program) (e : Env) (s : State) (m : MethodId) (below : List Frame) (meth : Method) (c : ClassFile.Code) (s₁ S0 : State), BodyLoose p l y (head1 (Jvm.Cond.code y bytes ml ret :: ws) R) bytes ml ret e s m as' below meth c s₁ → Z.Warmed39 (s.setVm s.vm).vm → s.heap = h0 → CHv Z consts_1 s.vm h0 → s.Since s.vm h0.size → CHr Z consts_1 s.vm h0 s.vm h0 → s.vm.MethodsKnown → s.vm.FramesKnown below → p.tables.exec = Jvm.exec → c.code = bytes → c.maxLocals = ml → (s.setVm s.vm).vm.findClass y.cls = some m.cls → meth.name = y.name →
      Stand p l e R (s.setVm s.vm) m as' below meth c s₁ [] 0 0 → s₁.heap = h0 → S0 = s₁.setTop (entryFrame m as' ml) → ∃ s₂ o, Steps p.tables e below S0 s₂ ∧ s₂.status = .running ∧ Ended s₂ below o ∧ ∃ v L, o = .returned v ∧ Q v s₂.heap L ∧ CHr Z consts_1 s.vm s.heap s₂.vm s₂.heap ∧ ReturnedEndW s o s₂ L R.cells R.slots) : own_CK l Z y bytes ml ret ws R as' h0 Q := by
  refine MetFree.of_bodySF hpl hisR ?_
  intro p e s m args below meth c s₁ Bd hml hP hK
  obtain ⟨rfl, hZ, hh, CH0⟩ := hP
  exact H p e s m below meth c s₁ _ Bd hZ hh CH0 (own_since0 s _) (CHr.refl CH0) hK.1 hK.2 Bd.exec Bd.bytes hml (findClass_of_methodNamed Bd.named) (name_of_methodNamed Bd.named Bd.method).1 (Stand.of_body Bd) (by rw [← hh, Bd.state]; rfl) rfl
def own_lo8 (x : Int32) : Int32 := nar .byte (x.toInt8.toInt32)
def own_ch (x : Int32) : Int32 := nar .char ((x &&& (255 : Int32)).toUInt32.toUInt16.toUInt32.toInt32)
def own_at (x : Int32) : Int32 := nar .char (own_ch x)
theorem own_at_says {c : Int32} (h0 : ¬ (c < (0 : Int32))) (h1 : ¬ ((255 : Int32) < c)) : own_at (own_lo8 c) = c := by
  rw [Int32.lt_iff_toInt_lt] at h0 h1
  have z0 : (0 : Int32).toInt = 0 := rfl
  have z1 : (255 : Int32).toInt = 255 := rfl
  have r1 := c_i2b c
  have r2 := c_i2b (c.toInt8.toInt32)
  have e1 : own_lo8 c = c.toInt8.toInt32.toInt8.toInt32 := rfl
  rw [← e1] at r2
  have m1 := c_mask (own_lo8 c) 255 8 (by decide) (by decide)
  have p8 : ((2 ^ 8 : Nat) : Int) = 256 := rfl
  rw [p8] at m1
  have k1 := c_i2c (own_lo8 c &&& 255)
  have k2 := c_i2c ((own_lo8 c &&& 255).toUInt32.toUInt16.toUInt32.toInt32)
  have k3 := c_i2c (((own_lo8 c &&& 255).toUInt32.toUInt16.toUInt32.toInt32).toUInt32.toUInt16.toUInt32.toInt32)
  have e3 : own_at (own_lo8 c) = (((own_lo8 c &&& 255).toUInt32.toUInt16.toUInt32.toInt32).toUInt32.toUInt16.toUInt32.toInt32).toUInt32.toUInt16.toUInt32.toInt32 := rfl
  rw [← e3] at k3
  apply Int32.toInt_inj.mp
  omega
def own_iv (cs : List Int32) : List Value := cs.map Value.int
def own_gt (cs : List Int32) (j : Int32) : Int32 := cs.getD j.toNatClampNeg 0
theorem own_iv_at (cs : List Int32) (j : Int32) : (own_iv cs).getD j.toNatClampNeg (.int 0) = .int (own_gt cs j) := by
  unfold own_iv own_gt
  rw [List.getD_eq_getElem?_getD, List.getD_eq_getElem?_getD, List.getElem?_map]
  cases cs[j.toNatClampNeg]? <;> rfl
theorem own_pad (n : Nat) : ∀ i, (own_iv (List.replicate n 0)).getD i (.int 0) = ([] : List Value).getD i (.int 0) := fun i => by
  unfold own_iv
  rw [List.map_replicate, List.getD_eq_getElem?_getD, List.getElem?_replicate]
  by_cases h : i < n <;> simp [h]
theorem own_iv_set {Z : State} {h : Heap} {a : Addr} {k : ClassId} {ty : FieldType} {z : Int32} {cs : List Int32} {i : Nat} {x : Int32} {d : Value} (A : Arv Z h a k ty z ((own_iv cs).set i (.int x)) d) : Arv Z h a k ty z (own_iv (cs.set i x)) d := by
  unfold own_iv at A ⊢
  rw [List.map_set]; exact A
theorem own_ix {cs : List Int32} {z j : Int32} (hl : cs.length = z.toNatClampNeg) (h0 : ¬ (j < (0 : Int32))) (h1 : j < z) : j.toNatClampNeg < (own_iv cs).length := by
  unfold own_iv
  rw [List.length_map, hl]
  rw [Int32.lt_iff_toInt_lt] at h0 h1
  have z0 : (0 : Int32).toInt = 0 := rfl
  show j.toInt.toNat < z.toInt.toNat
  omega
theorem own_setlen {cs : List Int32} {i : Nat} {x : Int32} {n : Nat} (h : cs.length = n) : (cs.set i x).length = n := by rw [List.length_set]; exact h
def own_bs (cs : List Int32) : List Int32 := cs.map own_lo8
def own_mix (cs ys : List Int32) (j : Int32) : List Int32 := (own_bs cs).take j.toNatClampNeg ++ ys.drop j.toNatClampNeg
theorem own_mix0 (cs ys : List Int32) : own_mix cs ys 0 = ys := by simp [own_mix, show (0 : Int32).toNatClampNeg = 0 from rfl]
theorem own_nat {j z : Int32} (h0 : ¬ (j < (0 : Int32))) (h1 : j < z) : j.toNatClampNeg < z.toNatClampNeg ∧ (j + (1 : Int32)).toNatClampNeg = j.toNatClampNeg + 1 ∧ ¬ ((j + (1 : Int32)) < (0 : Int32)) ∧ ¬ (z < (j + (1 : Int32))) := by
  rw [Int32.lt_iff_toInt_lt] at *
  have z0 : (0 : Int32).toInt = 0 := rfl
  have o : (1 : Int32).toInt = 1 := rfl
  have a := c_iadd j 1
  have r := rng32 (j + 1)
  have r1 := rng32 z
  rw [o] at a
  have e : (j + 1).toInt = j.toInt + 1 := by omega
  refine ⟨?_, ?_, ?_, ?_⟩
  · show j.toInt.toNat < z.toInt.toNat
    omega
  · show (j + 1).toInt.toNat = j.toInt.toNat + 1
    rw [e]; omega
  · omega
  · rw [Int32.lt_iff_toInt_lt]; omega
theorem own_mixlen {cs ys : List Int32} {n : Nat} (h1 : cs.length = n) (h2 : ys.length = n) {j : Int32} (hj : j.toNatClampNeg ≤ n) : (own_mix cs ys j).length = n := by
  simp [own_mix, own_bs, h1, h2]; omega
theorem own_mixset {cs ys : List Int32} {z j : Int32} (h1 : cs.length = z.toNatClampNeg) (h2 : ys.length = z.toNatClampNeg) (h0 : ¬ (j < (0 : Int32))) (hj : j < z) : (own_mix cs ys j).set j.toNatClampNeg (own_lo8 (own_gt cs j)) = own_mix cs ys (j + (1 : Int32)) := by
  obtain ⟨q1, q2, -, -⟩ := own_nat h0 hj
  unfold own_mix own_gt
  rw [q2]
  have l1 : ((own_bs cs).take j.toNatClampNeg).length = j.toNatClampNeg := by simp [own_bs, h1]; omega
  rw [List.set_append_right _ _ (by rw [l1]; exact Nat.le_refl _), l1, Nat.sub_self]
  have e1 : ys.drop j.toNatClampNeg = ys[j.toNatClampNeg]'(by omega) :: ys.drop (j.toNatClampNeg + 1) := List.drop_eq_getElem_cons (by omega)
  have e2 : (own_bs cs).take (j.toNatClampNeg + 1) = (own_bs cs).take j.toNatClampNeg ++ [own_lo8 (cs.getD j.toNatClampNeg 0)] := by
    rw [List.take_add_one]
    congr 1
    simp [own_bs, List.getElem?_map, List.getD_eq_getElem?_getD, List.getElem?_eq_getElem (show j.toNatClampNeg < cs.length by omega)]
  rw [e1, e2, List.set_cons_zero, List.append_assoc]
  rfl
theorem own_mixend {cs ys : List Int32} {z j : Int32} (h1 : cs.length = z.toNatClampNeg) (h2 : ys.length = z.toNatClampNeg) (hj : ¬ (j < z)) (hk : ¬ (z < j)) : own_mix cs ys j = own_bs cs := by
  obtain rfl : j = z := by
    rw [Int32.lt_iff_toInt_lt] at hj hk
    exact Int32.toInt_inj.mp (by omega)
  unfold own_mix
  rw [List.take_of_length_le (by simp [own_bs, h1]), List.drop_of_length_le (by rw [h2]; exact Nat.le_refl _), List.append_nil]
def own_lat (cs : List Int32) : Prop := ∀ c ∈ cs, ¬ (c < (0 : Int32)) ∧ ¬ ((255 : Int32) < c)
theorem own_lat_at {cs : List Int32} (h : own_lat cs) (j : Int32) : ¬ (own_gt cs j < (0 : Int32)) ∧ ¬ ((255 : Int32) < own_gt cs j) := by
  unfold own_gt
  rw [List.getD_eq_getElem?_getD]
  cases q : cs[j.toNatClampNeg]? with
  | none => exact ⟨by decide, by decide⟩
  | some c => exact h c (List.mem_of_getElem? q)
theorem own_dec {j z : Int32} (h0 : ¬ (j < (0 : Int32))) (h1 : j < z) : z.toNatClampNeg - (j + (1 : Int32)).toNatClampNeg < z.toNatClampNeg - j.toNatClampNeg := by
  obtain ⟨q1, q2, -, -⟩ := own_nat h0 h1
  omega
theorem own_jle {j z : Int32} (h : ¬ (z < j)) : j.toNatClampNeg ≤ z.toNatClampNeg := by
  rw [Int32.lt_iff_toInt_lt] at h
  show j.toInt.toNat ≤ z.toInt.toNat
  omega
theorem own_cod (n : Int32) : nar .byte (((n - n).toUInt32 >>> ((31 : Int32) &&& 31).toUInt32).toInt32.toInt8.toInt32) = 0 := by
  rw [Int32.sub_self]; rfl
theorem own_shr0 (x : Int32) : x >>> ((0 : Int32) &&& 31) = x := by
  rw [show ((0 : Int32) &&& 31) = 0 from rfl]
  exact Int32.shiftRight_zero
theorem own_chsays {cs : List Int32} {nn ii : Int32} (hl : cs.length = nn.toNatClampNeg) (hla : own_lat cs) (h1 : ¬ (ii < (0 : Int32))) (h2 : ii < nn) : own_at (own_gt (own_bs cs) ii) = own_gt cs ii := by
  have q := (own_nat h1 h2).1
  have e : own_gt (own_bs cs) ii = own_lo8 (own_gt cs ii) := by
    unfold own_gt own_bs
    rw [List.getD_eq_getElem?_getD, List.getD_eq_getElem?_getD, List.getElem?_map, List.getElem?_eq_getElem (show ii.toNatClampNeg < cs.length by omega)]
    rfl
  rw [e]
  exact own_at_says (own_lat_at hla ii).1 (own_lat_at hla ii).2
theorem own_narc {c : Int32} (h0 : ¬ (c < (0 : Int32))) (h1 : ¬ ((255 : Int32) < c)) : nar .char c = c := by
  rw [Int32.lt_iff_toInt_lt] at h0 h1
  have z0 : (0 : Int32).toInt = 0 := rfl
  have z1 : (255 : Int32).toInt = 255 := rfl
  have k := c_i2c c
  have e : nar .char c = c.toUInt32.toUInt16.toUInt32.toInt32 := rfl
  rw [e]
  apply Int32.toInt_inj.mp
  omega
theorem own_setlat {cs : List Int32} {i : Nat} {c : Int32} (h : own_lat cs) (h0 : ¬ (c < (0 : Int32))) (h1 : ¬ ((255 : Int32) < c)) : own_lat (cs.set i c) := fun d hd => by
  rcases List.mem_or_eq_of_mem_set hd with q | q
  · exact h d q
  · subst q; exact ⟨h0, h1⟩
def own_b (x : Bool) : Int32 := if x then 1 else 0
theorem own_rT {r : Int32} {x : Bool} (h : r = own_b x) (hr : ¬ (r = (0 : Int32))) : x = true := by
  cases x
  · exact absurd h hr
  · rfl
theorem own_rF {r : Int32} {x : Bool} (h : r = own_b x) (hr : r = (0 : Int32)) : x = false := by
  cases x
  · rfl
  · rw [h] at hr; exact absurd hr (by decide)
abbrev own_hp (c : Int32) : Prop := (¬ (c < (65 : Int32)) ∧ ¬ ((90 : Int32) < c)) ∨ (¬ (c < (97 : Int32)) ∧ ¬ ((122 : Int32) < c)) ∨ (¬ (c < (48 : Int32)) ∧ ¬ ((57 : Int32) < c)) ∨ c = (43 : Int32) ∨ c = (47 : Int32) ∨ c = (46 : Int32)
def own_hash (c : Int32) : Bool := decide (own_hp c)
theorem own_bT {c : Int32} (h : own_hp c) : (1 : Int32) = own_b (own_hash c) := by rw [own_hash, decide_eq_true h]; rfl
theorem own_bF {c : Int32} (h1 : ¬ (¬ (c < (65 : Int32)) ∧ ¬ ((90 : Int32) < c))) (h2 : ¬ (¬ (c < (97 : Int32)) ∧ ¬ ((122 : Int32) < c))) (h3 : ¬ (¬ (c < (48 : Int32)) ∧ ¬ ((57 : Int32) < c))) (h4 : ¬ (c = (43 : Int32))) (h5 : ¬ (c = (47 : Int32))) (h6 : ¬ (c = (46 : Int32))) : (0 : Int32) = own_b (own_hash c) := by
  have q : ¬ own_hp c := fun q => by
    rcases q with q | q | q | q | q | q
    · exact h1 q
    · exact h2 q
    · exact h3 q
    · exact h4 q
    · exact h5 q
    · exact h6 q
  rw [own_hash, decide_eq_false q]; rfl
def own_h (cs : List Int32) (i : Nat) : Bool := decide (i < cs.length) && own_hash (cs.getD i 0)
def own_d (cs : List Int32) (i : Nat) : Bool := decide (i < cs.length) && decide (cs.getD i 0 = 36)
def own_w (cs : List Int32) (i : Nat) : Bool := (List.range 13).all fun k => own_h cs (i + k)
theorem own_ge {cs : List Int32} {nn ii : Int32} (hl : cs.length = nn.toNatClampNeg) (h : ¬ (ii < nn)) : ¬ (ii.toNatClampNeg < cs.length) := by
  rw [hl]
  exact Nat.not_lt.mpr (own_jle h)
theorem own_h0 {cs : List Int32} {nn ii : Int32} (hl : cs.length = nn.toNatClampNeg) (h : ¬ (ii < nn)) : (0 : Int32) = own_b (own_h cs ii.toNatClampNeg) := by
  rw [own_h, decide_eq_false (own_ge hl h)]; rfl
theorem own_d0 {cs : List Int32} {nn ii : Int32} (hl : cs.length = nn.toNatClampNeg) (h : ¬ (ii < nn)) : (0 : Int32) = own_b (own_d cs ii.toNatClampNeg) := by
  rw [own_d, decide_eq_false (own_ge hl h)]; rfl
theorem own_h1 {cs : List Int32} {r ii : Int32} (h : r = own_b (own_hash (own_gt cs ii))) (hr : r = (0 : Int32)) : (0 : Int32) = own_b (own_h cs ii.toNatClampNeg) := by
  have q := own_rF h hr
  unfold own_gt at q
  rw [own_h, q, Bool.and_false]; rfl
theorem own_h2 {cs : List Int32} {nn r ii : Int32} (hl : cs.length = nn.toNatClampNeg) (h0 : ¬ (ii < (0 : Int32))) (hi : ii < nn) (h : r = own_b (own_hash (own_gt cs ii))) (hr : ¬ (r = (0 : Int32))) : (1 : Int32) = own_b (own_h cs ii.toNatClampNeg) := by
  have q := own_rT h hr
  unfold own_gt at q
  rw [own_h, q, decide_eq_true (by rw [hl]; exact (own_nat h0 hi).1)]; rfl
theorem own_d1 {cs : List Int32} {ii : Int32} (h : ¬ (own_gt cs ii = (36 : Int32))) : (0 : Int32) = own_b (own_d cs ii.toNatClampNeg) := by
  unfold own_gt at h
  rw [own_d, decide_eq_false h, Bool.and_false]; rfl
theorem own_d2 {cs : List Int32} {nn ii : Int32} (hl : cs.length = nn.toNatClampNeg) (h0 : ¬ (ii < (0 : Int32))) (hi : ii < nn) (h : own_gt cs ii = (36 : Int32)) : (1 : Int32) = own_b (own_d cs ii.toNatClampNeg) := by
  unfold own_gt at h
  rw [own_d, decide_eq_true h, decide_eq_true (by rw [hl]; exact (own_nat h0 hi).1)]; rfl
theorem own_w0 {cs : List Int32} {i k : Nat} (hk : k < 13) (h : own_h cs (i + k) = false) : (0 : Int32) = own_b (own_w cs i) := by
  have q : own_w cs i = false := by
    unfold own_w
    rw [List.all_eq_false]
    exact ⟨k, List.mem_range.mpr hk, by rw [h]; decide⟩
  rw [q]; rfl
theorem own_w1 {cs : List Int32} {i : Nat} (h0 : own_h cs (i + 0) = true) (h1 : own_h cs (i + 1) = true) (h2 : own_h cs (i + 2) = true) (h3 : own_h cs (i + 3) = true) (h4 : own_h cs (i + 4) = true) (h5 : own_h cs (i + 5) = true) (h6 : own_h cs (i + 6) = true) (h7 : own_h cs (i + 7) = true) (h8 : own_h cs (i + 8) = true) (h9 : own_h cs (i + 9) = true) (h10 : own_h cs (i + 10) = true) (h11 : own_h cs (i + 11) = true) (h12 : own_h cs (i + 12) = true) : (1 : Int32) = own_b (own_w cs i) := by
  have q : own_w cs i = true := by
    unfold own_w
    rw [show List.range 13 = [0, 1, 2, 3, 4, 5, 6, 7, 8, 9, 10, 11, 12] from rfl]
    simp only [List.all_cons, List.all_nil, h0, h1, h2, h3, h4, h5, h6, h7, h8, h9, h10, h11, h12]; rfl
  rw [q]; rfl
theorem own_chA (y : Int64) : ¬ (nar .char (((y &&& (255 : Int64)).toInt32).toUInt32.toUInt16.toUInt32.toInt32) < (0 : Int32)) ∧ ¬ ((255 : Int32) < nar .char (((y &&& (255 : Int64)).toInt32).toUInt32.toUInt16.toUInt32.toInt32)) := by
  have m := c_maskL y 255 8 (by decide) (by decide)
  have p8 : ((2 ^ 8 : Nat) : Int) = 256 := rfl
  rw [p8] at m
  have c := c_l2i (y &&& 255)
  have r := rng32 (y &&& 255).toInt32
  have k1 := c_i2c (y &&& 255).toInt32
  have k2 := c_i2c ((y &&& 255).toInt32.toUInt32.toUInt16.toUInt32.toInt32)
  have e : nar .char (((y &&& (255 : Int64)).toInt32).toUInt32.toUInt16.toUInt32.toInt32) = ((y &&& 255).toInt32.toUInt32.toUInt16.toUInt32.toInt32).toUInt32.toUInt16.toUInt32.toInt32 := rfl
  rw [e, Int32.lt_iff_toInt_lt, Int32.lt_iff_toInt_lt]
  have z0 : (0 : Int32).toInt = 0 := rfl
  have z1 : (255 : Int32).toInt = 255 := rfl
  omega
theorem own_chB (x : Int32) : ¬ (nar .char (((x &&& (63 : Int32)) ||| (64 : Int32)).toUInt32.toUInt16.toUInt32.toInt32) < (0 : Int32)) ∧ ¬ ((255 : Int32) < nar .char (((x &&& (63 : Int32)) ||| (64 : Int32)).toUInt32.toUInt16.toUInt32.toInt32)) := by
  have m := c_and x 63 (by decide)
  have z63 : (63 : Int32).toInt = 63 := rfl
  have z64 : (64 : Int32).toInt = 64 := rfl
  have o := c_or' (x &&& 63) 64 6 (by decide) 64 rfl (by decide) m.1 (by omega)
  have r := rng32 ((x &&& 63) ||| 64)
  have k1 := c_i2c ((x &&& 63) ||| 64)
  have k2 := c_i2c (((x &&& 63) ||| 64).toUInt32.toUInt16.toUInt32.toInt32)
  have e : nar .char (((x &&& (63 : Int32)) ||| (64 : Int32)).toUInt32.toUInt16.toUInt32.toInt32) = (((x &&& 63) ||| 64).toUInt32.toUInt16.toUInt32.toInt32).toUInt32.toUInt16.toUInt32.toInt32 := rfl
  rw [e, Int32.lt_iff_toInt_lt, Int32.lt_iff_toInt_lt]
  have z0 : (0 : Int32).toInt = 0 := rfl
  have z1 : (255 : Int32).toInt = 255 := rfl
  omega
def own_scan : List Int32 → Nat → Bool
  | [], _ => false
  | c :: l, r => if c = 36 then true else if (if own_hash c then r + 1 else 0) = 13 then true else own_scan l (if own_hash c then r + 1 else 0)
def own_ext (l : List Int32) (r m : Nat) : Bool := if m < r then true else own_h l (m - r)
def own_win (l : List Int32) (r : Nat) : Prop := ∃ i, ∀ k, k < 13 → own_ext l r (i + k) = true
theorem own_h_succ (c : Int32) (l : List Int32) (m : Nat) : own_h (c :: l) (m + 1) = own_h l m := by
  unfold own_h
  rw [List.getD_cons_succ, List.length_cons]
  congr 1
  exact decide_eq_decide.mpr ⟨fun h => by omega, fun h => by omega⟩
theorem own_h_zero (c : Int32) (l : List Int32) : own_h (c :: l) 0 = own_hash c := by
  unfold own_h
  rw [List.getD_cons_zero, decide_eq_true (by rw [List.length_cons]; omega), Bool.true_and]
theorem own_ext_hash {c : Int32} (h : own_hash c = true) (l : List Int32) (r m : Nat) : own_ext (c :: l) r m = own_ext l (r + 1) m := by
  unfold own_ext
  by_cases h1 : m < r
  · rw [if_pos h1, if_pos (by omega)]
  · by_cases h2 : m = r
    · subst h2
      rw [if_neg h1, if_pos (by omega), Nat.sub_self, own_h_zero, h]
    · rw [if_neg h1, if_neg (by omega), show m - r = (m - (r + 1)) + 1 by omega, own_h_succ]
theorem own_win_hash {c : Int32} (h : own_hash c = true) (l : List Int32) (r : Nat) : own_win (c :: l) r ↔ own_win l (r + 1) := by
  unfold own_win
  simp only [own_ext_hash h]
theorem own_win_not {c : Int32} (h : own_hash c = false) (l : List Int32) {r : Nat} (hr : r < 13) : own_win (c :: l) r ↔ own_win l 0 := by
  constructor
  · rintro ⟨i, hi⟩
    by_cases q : i ≤ r
    · have w := hi (r - i) (by omega)
      rw [show i + (r - i) = r by omega, own_ext, if_neg (by omega), Nat.sub_self, own_h_zero, h] at w
      cases w
    · refine ⟨i - (r + 1), fun k hk => ?_⟩
      have w := hi k hk
      rw [own_ext, if_neg (by omega), show i + k - r = (i - (r + 1) + k) + 1 by omega, own_h_succ] at w
      rw [own_ext, if_neg (by omega), Nat.sub_zero]; exact w
  · rintro ⟨i, hi⟩
    refine ⟨i + (r + 1), fun k hk => ?_⟩
    have w := hi k hk
    rw [own_ext, if_neg (by omega), Nat.sub_zero] at w
    rw [own_ext, if_neg (by omega), show i + (r + 1) + k - r = (i + k) + 1 by omega, own_h_succ]; exact w
theorem own_scan_iff : ∀ (l : List Int32) (r : Nat), r < 13 → (own_scan l r = true ↔ (36 : Int32) ∈ l ∨ own_win l r)
  | [], r, hr => by
    constructor
    · intro h; cases h
    · rintro (h | ⟨i, hi⟩)
      · cases h
      · have w := hi 12 (by omega)
        rw [own_ext, if_neg (by omega)] at w
        simp [own_h] at w
  | c :: l, r, hr => by
    by_cases h36 : c = 36
    · subst h36
      exact ⟨fun _ => Or.inl (List.mem_cons_self ..), fun _ => by rw [own_scan, if_pos rfl]⟩
    · rw [own_scan, if_neg h36]
      have hm : ((36 : Int32) ∈ c :: l) ↔ (36 : Int32) ∈ l := ⟨fun q => by rcases List.mem_cons.mp q with q | q; exact absurd q.symm h36; exact q, fun q => List.mem_cons_of_mem _ q⟩
      rw [hm]
      cases hh : own_hash c with
      | true =>
        rw [own_win_hash hh]
        simp only [if_true]
        by_cases h13 : r + 1 = 13
        · rw [if_pos h13]
          exact ⟨fun _ => Or.inr ⟨0, fun k hk => by rw [own_ext, if_pos (by omega)]⟩, fun _ => rfl⟩
        · rw [if_neg h13]; exact own_scan_iff l (r + 1) (by omega)
      | false =>
        rw [own_win_not hh l hr]
        simp only [Bool.false_eq_true, if_false]
        rw [if_neg (by decide)]; exact own_scan_iff l 0 (by omega)
def own_anyd (cs : List Int32) : Bool := (List.range 16).any fun i => own_d cs i
def own_anyw (cs : List Int32) : Bool := (List.range 4).any fun i => own_w cs i
theorem own_anyd_iff {cs : List Int32} (hl : cs.length ≤ 16) : own_anyd cs = true ↔ (36 : Int32) ∈ cs := by
  unfold own_anyd
  rw [List.any_eq_true]
  constructor
  · rintro ⟨i, -, hi⟩
    unfold own_d at hi
    rw [Bool.and_eq_true, decide_eq_true_eq, decide_eq_true_eq] at hi
    rw [List.getD_eq_getElem?_getD, List.getElem?_eq_getElem hi.1] at hi
    have e : cs[i] = 36 := hi.2
    exact e ▸ List.getElem_mem hi.1
  · intro h
    obtain ⟨i, hi, e⟩ := List.getElem_of_mem h
    refine ⟨i, List.mem_range.mpr (by omega), ?_⟩
    unfold own_d
    rw [Bool.and_eq_true, decide_eq_true_eq, decide_eq_true_eq, List.getD_eq_getElem?_getD, List.getElem?_eq_getElem hi]
    exact ⟨hi, e⟩
theorem own_anyw_iff {cs : List Int32} (hl : cs.length ≤ 16) : own_anyw cs = true ↔ own_win cs 0 := by
  unfold own_anyw own_win
  rw [List.any_eq_true]
  constructor
  · rintro ⟨i, -, hi⟩
    refine ⟨i, fun k hk => ?_⟩
    unfold own_w at hi
    have w := List.all_eq_true.mp hi k (List.mem_range.mpr hk)
    rw [own_ext, if_neg (by omega), Nat.sub_zero]; exact w
  · rintro ⟨i, hi⟩
    have key : ∀ k, k < 13 → own_h cs (i + k) = true := fun k hk => by
      have w := hi k hk
      rw [own_ext, if_neg (by omega), Nat.sub_zero] at w; exact w
    have w := key 12 (by omega)
    unfold own_h at w
    rw [Bool.and_eq_true, decide_eq_true_eq] at w
    refine ⟨i, List.mem_range.mpr (by omega), ?_⟩
    unfold own_w
    exact List.all_eq_true.mpr fun k hk => key k (List.mem_range.mp hk)
theorem own_plain {cs : List Int32} (hl : cs.length ≤ 16) : own_scan cs 0 = (own_anyd cs || own_anyw cs) := by
  have h := own_scan_iff cs 0 (by omega)
  rw [← own_anyd_iff hl, ← own_anyw_iff hl] at h
  cases a : own_scan cs 0 <;> cases b : own_anyd cs <;> cases c : own_anyw cs <;> simp [a, b, c] at h ⊢
theorem own_anyT {cs : List Int32} {k : Nat} (hk : k < 16) (h : own_d cs k = true) : (1 : Int32) = own_b (own_anyd cs) := by
  have q : own_anyd cs = true := List.any_eq_true.mpr ⟨k, List.mem_range.mpr hk, h⟩
  rw [q]; rfl
theorem own_anyF {cs : List Int32} (h0 : own_d cs 0 = false) (h1 : own_d cs 1 = false) (h2 : own_d cs 2 = false) (h3 : own_d cs 3 = false) (h4 : own_d cs 4 = false) (h5 : own_d cs 5 = false) (h6 : own_d cs 6 = false) (h7 : own_d cs 7 = false) (h8 : own_d cs 8 = false) (h9 : own_d cs 9 = false) (h10 : own_d cs 10 = false) (h11 : own_d cs 11 = false) (h12 : own_d cs 12 = false) (h13 : own_d cs 13 = false) (h14 : own_d cs 14 = false) (h15 : own_d cs 15 = false) : (0 : Int32) = own_b (own_anyd cs) := by
  have q : own_anyd cs = false := by
    unfold own_anyd
    rw [show List.range 16 = [0, 1, 2, 3, 4, 5, 6, 7, 8, 9, 10, 11, 12, 13, 14, 15] from rfl]
    simp only [List.any_cons, List.any_nil, h0, h1, h2, h3, h4, h5, h6, h7, h8, h9, h10, h11, h12, h13, h14, h15]; rfl
  rw [q]; rfl
theorem own_wT {cs : List Int32} {k : Nat} (hk : k < 4) (h : own_w cs k = true) : (1 : Int32) = own_b (own_anyw cs) := by
  have q : own_anyw cs = true := List.any_eq_true.mpr ⟨k, List.mem_range.mpr hk, h⟩
  rw [q]; rfl
theorem own_wF {cs : List Int32} (h0 : own_w cs 0 = false) (h1 : own_w cs 1 = false) (h2 : own_w cs 2 = false) (h3 : own_w cs 3 = false) : (0 : Int32) = own_b (own_anyw cs) := by
  have q : own_anyw cs = false := by
    unfold own_anyw
    rw [show List.range 4 = [0, 1, 2, 3] from rfl]
    simp only [List.any_cons, List.any_nil, h0, h1, h2, h3]; rfl
  rw [q]; rfl
theorem own_L1 {cs : List Int32} {r b : Int32} (hr : r = own_b (own_scan cs 0)) (hl : cs.length ≤ 16) (hb : b = own_b (own_anyd cs)) (h : ¬ (b = (0 : Int32))) : r = 1 := by
  rw [hr, own_plain hl, own_rT hb h]; rfl
theorem own_L2 {cs : List Int32} {r b : Int32} (hr : r = own_b (own_scan cs 0)) (hl : cs.length ≤ 16) (hb : b = own_b (own_anyw cs)) (h : ¬ (b = (0 : Int32))) : r = 1 := by
  rw [hr, own_plain hl, own_rT hb h, Bool.or_true]; rfl
theorem own_L0 {cs : List Int32} {r b d : Int32} (hr : r = own_b (own_scan cs 0)) (hl : cs.length ≤ 16) (hb : b = own_b (own_anyd cs)) (h : b = (0 : Int32)) (hd : d = own_b (own_anyw cs)) (h2 : d = (0 : Int32)) : r = 0 := by
  rw [hr, own_plain hl, own_rF hb h, own_rF hd h2]; rfl
theorem own_drop {cs : List Int32} {nn j : Int32} (hl : cs.length = nn.toNatClampNeg) (h0 : ¬ (j < (0 : Int32))) (h1 : j < nn) : cs.drop j.toNatClampNeg = own_gt cs j :: cs.drop (j + (1 : Int32)).toNatClampNeg := by
  obtain ⟨q1, q2, -, -⟩ := own_nat h0 h1
  rw [q2, List.drop_eq_getElem_cons (show j.toNatClampNeg < cs.length by omega)]
  unfold own_gt
  rw [List.getD_eq_getElem?_getD, List.getElem?_eq_getElem (show j.toNatClampNeg < cs.length by omega)]
  rfl
theorem own_s0 {cs : List Int32} {nn j r : Int32} (hl : cs.length = nn.toNatClampNeg) (h : own_scan cs 0 = own_scan (cs.drop j.toNatClampNeg) r.toNatClampNeg) (h1 : ¬ (j < nn)) : (0 : Int32) = own_b (own_scan cs 0) := by
  have q : cs.drop j.toNatClampNeg = [] := List.drop_of_length_le (by rw [hl]; rw [Int32.lt_iff_toInt_lt] at h1; show nn.toInt.toNat ≤ j.toInt.toNat; omega)
  rw [h, q]; rfl
theorem own_s36 {cs : List Int32} {nn j r : Int32} (hl : cs.length = nn.toNatClampNeg) (h : own_scan cs 0 = own_scan (cs.drop j.toNatClampNeg) r.toNatClampNeg) (h0 : ¬ (j < (0 : Int32))) (h1 : j < nn) (hc : own_gt cs j = (36 : Int32)) : (1 : Int32) = own_b (own_scan cs 0) := by
  rw [h, own_drop hl h0 h1, own_scan, if_pos hc]; rfl
theorem own_rn {r : Int32} (h0 : ¬ (r < (0 : Int32))) (h1 : r < (13 : Int32)) : (r + (1 : Int32)).toNatClampNeg = r.toNatClampNeg + 1 ∧ ¬ ((r + (1 : Int32)) < (0 : Int32)) := ⟨(own_nat h0 h1).2.1, (own_nat h0 h1).2.2.1⟩
theorem own_r13 {r : Int32} (h0 : ¬ (r < (0 : Int32))) (h1 : r < (13 : Int32)) (hn : ¬ ((r + (1 : Int32)) = (13 : Int32))) : (r + (1 : Int32)) < (13 : Int32) := by
  have q := (own_nat h0 h1).2.2.2
  rw [Int32.lt_iff_toInt_lt] at q ⊢
  have ne : ¬ ((r + 1).toInt = (13 : Int32).toInt) := fun e => hn (Int32.toInt_inj.mp e)
  omega
theorem own_s13 {cs : List Int32} {nn j r rr : Int32} (hl : cs.length = nn.toNatClampNeg) (h : own_scan cs 0 = own_scan (cs.drop j.toNatClampNeg) r.toNatClampNeg) (h0 : ¬ (j < (0 : Int32))) (h1 : j < nn) (hc : ¬ (own_gt cs j = (36 : Int32))) (hh : rr = own_b (own_hash (own_gt cs j))) (hr : ¬ (rr = (0 : Int32))) (r0 : ¬ (r < (0 : Int32))) (r1 : r < (13 : Int32)) (h13 : (r + (1 : Int32)) = (13 : Int32)) : (1 : Int32) = own_b (own_scan cs 0) := by
  have e : r.toNatClampNeg + 1 = 13 := by rw [← (own_rn r0 r1).1, h13]; rfl
  rw [h, own_drop hl h0 h1, own_scan, if_neg hc, own_rT hh hr, if_pos rfl, if_pos e]; rfl
theorem own_sA {cs : List Int32} {nn j r rr : Int32} (hl : cs.length = nn.toNatClampNeg) (h : own_scan cs 0 = own_scan (cs.drop j.toNatClampNeg) r.toNatClampNeg) (h0 : ¬ (j < (0 : Int32))) (h1 : j < nn) (hc : ¬ (own_gt cs j = (36 : Int32))) (hh : rr = own_b (own_hash (own_gt cs j))) (hr : ¬ (rr = (0 : Int32))) (r0 : ¬ (r < (0 : Int32))) (r1 : r < (13 : Int32)) (h13 : ¬ ((r + (1 : Int32)) = (13 : Int32))) : own_scan cs 0 = own_scan (cs.drop (j + (1 : Int32)).toNatClampNeg) (r + (1 : Int32)).toNatClampNeg := by
  have e : ¬ (r.toNatClampNeg + 1 = 13) := fun q => h13 (by
    rw [← (own_rn r0 r1).1] at q
    have w := own_r13 r0 r1 h13
    rw [Int32.lt_iff_toInt_lt] at w
    have q' : (r + 1).toInt.toNat = 13 := q
    have z : (13 : Int32).toInt = 13 := rfl
    omega)
  rw [h, own_drop hl h0 h1, own_scan, if_neg hc, own_rT hh hr, if_pos rfl, if_neg e, (own_rn r0 r1).1]
theorem own_sB {cs : List Int32} {nn j r rr : Int32} (hl : cs.length = nn.toNatClampNeg) (h : own_scan cs 0 = own_scan (cs.drop j.toNatClampNeg) r.toNatClampNeg) (h0 : ¬ (j < (0 : Int32))) (h1 : j < nn) (hc : ¬ (own_gt cs j = (36 : Int32))) (hh : rr = own_b (own_hash (own_gt cs j))) (hr : rr = (0 : Int32)) : own_scan cs 0 = own_scan (cs.drop (j + (1 : Int32)).toNatClampNeg) (0 : Int32).toNatClampNeg := by
  rw [h, own_drop hl h0 h1, own_scan, if_neg hc, own_rF hh hr]
  simp only [Bool.false_eq_true, if_false]
  rw [if_neg (by decide)]; rfl
def own_len (x : Int32) : Int32 := (x &&& (2147483647 : Int32)) % (17 : Int32)
theorem own_lenb (x : Int32) : 0 ≤ (own_len x).toInt ∧ (own_len x).toInt ≤ 16 := by
  have h := (c_and x 2147483647 (by decide)).1
  have h2 := (c_irem (x &&& 2147483647) 17 17 rfl).1 h
  unfold own_len
  omega
theorem own_len0 (x : Int32) : ¬ (own_len x < (0 : Int32)) := by
  rw [Int32.lt_iff_toInt_lt]
  have h := own_lenb x
  have z : (0 : Int32).toInt = 0 := rfl
  omega
theorem own_lenc (x : Int32) : (own_len x).toNatClampNeg ≤ 16 := by
  have h := own_lenb x
  show (own_len x).toInt.toNat ≤ 16
  omega
theorem own_rl (n : Nat) : own_lat (List.replicate n 0) := fun c hc => by
  rw [List.eq_of_mem_replicate hc]; exact ⟨by decide, by decide⟩
def own_G (l : Launch) (Z : State) (a0 : Array Value) (G1 : Int32) (G3 : Value) : Prop := (Sta Z Z.heap "java/lang/String" "COMPACT_STRINGS" "Z" (.int G1)) ∧ (¬ (G1 = (0 : Int32))) ∧ (Sta Z Z.heap "jdk/internal/util/Preconditions" "SIOOBE_FORMATTER" "Ljava/util/function/BiFunction;" G3) ∧ (G3.isRef = true)
abbrev M0 : MethodName := ⟨"java/lang/StringUTF16", "compress", "([CI[BII)I"⟩
theorem ef_1 (m : MethodId) (x0 : Addr) (x1 : Int32) (x2 : Addr) (x3 : Int32) (x4 : Int32) : entryFrame m #[(.ref x0), (.int x1), (.ref x2), (.int x3), (.int x4)] 7 = mkF m 0 #[.val (.ref x0), .val (.int x1), .val (.ref x2), .val (.int x3), .val (.int x4), .unset, .unset] [] := by first | (simp [entryFrame, mkF, argsToLocals, Value.category]; done) | rfl
theorem pn_2 : plainName "java/lang/StringUTF16" = true := by first | (simp [plainName, overriddenIn]; done) | decide +kernel
theorem d0_0 : decode jdk_52_method_21_code 0 = .ok (.iconst 0, 1) := by decide +kernel
theorem d0_1 : decode jdk_52_method_21_code 1 = .ok (.istore 5, 2) := by decide +kernel
theorem d0_3 : decode jdk_52_method_21_code 3 = .ok (.iload 5, 2) := by decide +kernel
theorem d0_5 : decode jdk_52_method_21_code 5 = .ok (.iload 4, 2) := by decide +kernel
theorem d0_7 : decode jdk_52_method_21_code 7 = .ok (.if_icmp .ge 37, 3) := by decide +kernel
theorem d0_10 : decode jdk_52_method_21_code 10 = .ok (.aload_n 0, 1) := by decide +kernel
theorem d0_11 : decode jdk_52_method_21_code 11 = .ok (.iload_n 1, 1) := by decide +kernel
theorem d0_12 : decode jdk_52_method_21_code 12 = .ok (.caload, 1) := by decide +kernel
theorem d0_13 : decode jdk_52_method_21_code 13 = .ok (.istore 6, 2) := by decide +kernel
theorem d0_15 : decode jdk_52_method_21_code 15 = .ok (.iload 6, 2) := by decide +kernel
theorem d0_17 : decode jdk_52_method_21_code 17 = .ok (.sipush 255, 3) := by decide +kernel
theorem d0_20 : decode jdk_52_method_21_code 20 = .ok (.if_icmp .le 6, 3) := by decide +kernel
theorem d0_26 : decode jdk_52_method_21_code 26 = .ok (.aload_n 2, 1) := by decide +kernel
theorem d0_27 : decode jdk_52_method_21_code 27 = .ok (.iload_n 3, 1) := by decide +kernel
theorem d0_28 : decode jdk_52_method_21_code 28 = .ok (.iload 6, 2) := by decide +kernel
theorem d0_30 : decode jdk_52_method_21_code 30 = .ok (.i2b, 1) := by decide +kernel
theorem d0_31 : decode jdk_52_method_21_code 31 = .ok (.bastore, 1) := by decide +kernel
theorem d0_32 : decode jdk_52_method_21_code 32 = .ok (.iinc 1 1, 3) := by decide +kernel
theorem d0_35 : decode jdk_52_method_21_code 35 = .ok (.iinc 3 1, 3) := by decide +kernel
theorem d0_38 : decode jdk_52_method_21_code 38 = .ok (.iinc 5 1, 3) := by decide +kernel
theorem d0_41 : decode jdk_52_method_21_code 41 = .ok (.goto (-38), 3) := by decide +kernel
theorem d0_44 : decode jdk_52_method_21_code 44 = .ok (.iload 4, 2) := by decide +kernel
theorem d0_46 : decode jdk_52_method_21_code 46 = .ok (.ireturn, 1) := by decide +kernel
abbrev R_cmp5s : Room := { frames := 0, cells := 0, slots := 0, locals := 0 }
def Q_cmp5s (Z : State) (G1 : Int32) (G3 : Value) (b : Addr) (k : ClassId) (t : Addr) (kt : ClassId) (nn : Int32) (cs : List Int32) (ys : List Int32) (h0 : Heap) (n0 : Nat) (v : Option Value) (h : Heap) (L : List Loc) : Prop := (v = some (.int nn) ∧ Fr n0 L ∧ Keep h0 h [t] ∧ (Arv Z h t kt .byte nn (own_iv (own_bs cs)) (.int (0 : Int32))))
set_option maxRecDepth 65536 in
set_option maxHeartbeats 40000000 in
theorem rm_cmp5s (l : Launch) (Z : State) (a0 : Array Value) (hw : ∀ d ∈ tables_1, d.before a0 Z = true) (ws : List Jvm.Cond) (G1 : Int32) (G3 : Value) (HG : own_G l Z a0 G1 G3) (h0 : Heap) (n0 : Nat) (X00 : Old Z n0 h0) (b : Addr) (k : ClassId) (t : Addr) (kt : ClassId) (nn : Int32) (cs : List Int32) (ys : List Int32) (hp0 : Arv Z h0 b k .char nn (own_iv cs) (.int (0 : Int32))) (hp1 : Arv Z h0 t kt .byte nn (own_iv ys) (.int (0 : Int32))) (hp2 : n0 ≤ t) (hp3 : b ≠ t) (hn0 : ¬ (nn < (0 : Int32))) (hl1 : cs.length = nn.toNatClampNeg) (hl2 : ys.length = nn.toNatClampNeg) (hla : own_lat cs) :
    own_CP l Z M0 jdk_52_method_21_code 7 (some .int) ws R_cmp5s #[(.ref b), (.int (0 : Int32)), (.ref t), (.int (0 : Int32)), (.int nn)] h0 (Q_cmp5s Z G1 G3 b k t kt nn cs ys h0 n0) := by
  refine own_P (plainFor_of_name pn_2) ?_
  intro p e s m below meth c s₁ S0 Bd hZ hh hx hby hml hown hnm X0 e0 hS0d
  obtain ⟨O1, P1, O3f, rG3⟩ := id HG
  have N0 := Fr.nil n0
  have C0 : Steps p.tables e below S0 (s₁.setTop (mkF m 0 #[.val (.ref b), .val (.int (0 : Int32)), .val (.ref t), .val (.int (0 : Int32)), .val (.int nn), .unset, .unset] [])) := by rw [hS0d]; exact castTop (ef_1 m b (0 : Int32) t (0 : Int32) nn) (Steps.refl _)
  have C_1 : Steps p.tables e below S0 (s₁.setTop (mkF m 3 #[.val (.ref b), .val (.int (0 : Int32)), .val (.ref t), .val (.int (0 : Int32)), .val (.int nn), .val (.int (0 : Int32)), .unset] [])) := by
    refine C0.trans ?_
    refine XS.iconst X0.here hx rfl (hb hby d0_0) ?_
    refine XS.istore X0.here hx rfl (hb hby d0_1) rfl (l' := #[.val (.ref b), .val (.int (0 : Int32)), .val (.ref t), .val (.int (0 : Int32)), .val (.int nn), .val (.int (0 : Int32)), .unset]) rfl ?_
    exact Steps.refl _
  obtain ⟨j_2, z6_3, T_4, L_5, h_10, I_6⟩ : ∃ (j_2 : Int32) (z6_3 : Slot) (T_4 : State) (L_5 : List Loc) (h_10 : Heap), Stand p l e R_cmp5s s m #[(.ref b), (.int (0 : Int32)), (.ref t), (.int (0 : Int32)), (.int nn)] below meth c T_4 L_5 0 0 ∧ T_4.heap = h_10 ∧ Fr n0 L_5 ∧ Keep h0 h_10 [t] ∧ (¬ (j_2 < (0 : Int32))) ∧ (¬ (nn < j_2)) ∧ (Arv Z h_10 t kt .byte nn (own_iv (own_mix cs ys j_2)) (.int (0 : Int32))) ∧ (z6_3 = .unset ∨ ∃ v : Int32, z6_3 = .val (.int v)) ∧ Steps p.tables e below S0 (T_4.setTop (mkF m 3 #[.val (.ref b), .val (.int j_2), .val (.ref t), .val (.int j_2), .val (.int nn), .val (.int j_2), z6_3] [])) := ⟨(0 : Int32), .unset, s₁, _, _, X0, e0, N0, (Keep.refl _ _), (by decide), hn0, (by rw [own_mix0]; exact hp1), Or.inl rfl, C_1⟩
  obtain ⟨d_7, hd_8⟩ : ∃ d : Nat, d = (nn.toNatClampNeg - j_2.toNatClampNeg) := ⟨_, rfl⟩
  induction d_7 using Nat.strongRecOn generalizing j_2 z6_3 T_4 L_5 h_10 with
  | _ d_7 ih_9 =>
    obtain ⟨X_11, e_12, N_13, K_14, g_16, g_17, g_18, hz_19, C_15⟩ := I_6
    rcases hz_19 with rfl | ⟨v_20, rfl⟩
    · skip
      have C_21 : Steps p.tables e below S0 (T_4.setTop (mkF m 7 #[.val (.ref b), .val (.int j_2), .val (.ref t), .val (.int j_2), .val (.int nn), .val (.int j_2), .unset] [(.int nn), (.int j_2)])) := by
        refine C_15.trans ?_
        refine XS.iload X_11.here hx rfl (hb hby d0_3) rfl ?_
        refine XS.iload X_11.here hx rfl (hb hby d0_5) rfl ?_
        exact Steps.refl _
      by_cases hc_22 : j_2 < nn
      · skip
        have V_23 : Arv Z h_10 b k .char nn (own_iv cs) (.int (0 : Int32)) := (hp0.keep K_14 (ninS hp3 nin0))
        obtain ⟨c_24, A_25, q_26, S_27, M_28, H_29, U_30⟩ := id V_23
        have hin_31 : ¬ (j_2 < 0 ∨ c_24.slots.size ≤ j_2.toNatClampNeg) := inb_of S_27 ⟨g_16, hc_22⟩
        have hat_32 : c_24.slots[j_2.toNatClampNeg]? = some (.int (own_gt cs j_2)) := Has.at H_29 hin_31 (own_iv_at cs j_2)
        obtain ⟨c_33, A_34, q_35, S_36, M_37, H_38, U_39⟩ := id g_18
        have hin_46 : ¬ (j_2 < 0 ∨ c_33.slots.size ≤ j_2.toNatClampNeg) := inb_of S_36 ⟨g_16, hc_22⟩
        obtain ⟨T_40, h_41, X_42, e_43, W_44, st_45⟩ := stB X_11 hx hZ e_12 A_34 (j := j_2) hin_46 (g := (mkF m 31 #[.val (.ref b), .val (.int j_2), .val (.ref t), .val (.int j_2), .val (.int nn), .val (.int j_2), .val (.int (own_gt cs j_2))] [(.int ((own_gt cs j_2).toInt8.toInt32)), (.int j_2), (.ref t)])) rfl rfl (hb hby d0_31)
        have N_47 := Fr.snoc X_42 N_13 hp2
        have V_48 : Arv Z h_41 t kt .byte nn (own_iv ((own_mix cs ys j_2).set j_2.toNatClampNeg (own_lo8 (own_gt cs j_2)))) (.int (0 : Int32)) := own_iv_set (Arv.set A_34 q_35 S_36 M_37 H_38 U_39 (fits_nar_byte _) W_44 j_2.toNatClampNeg rfl (own_ix (own_mixlen hl1 hl2 (own_jle g_17)) g_16 hc_22))
        rw [own_mixset hl1 hl2 g_16 hc_22] at V_48
        have C_49 : Steps p.tables e below S0 (T_40.setTop (mkF m 3 #[.val (.ref b), .val (.int (j_2 + (1 : Int32))), .val (.ref t), .val (.int (j_2 + (1 : Int32))), .val (.int nn), .val (.int (j_2 + (1 : Int32))), .val (.int (own_gt cs j_2))] [])) := by
          refine C_21.trans ?_
          refine XS.icmpNo X_11.here hx rfl (hb hby d0_7) rfl (ii_ge_f hc_22) ?_
          refine XS.aloadN X_11.here hx rfl (hb hby d0_10) rfl rfl ?_
          refine XS.iloadN X_11.here hx rfl (hb hby d0_11) rfl ?_
          refine X_11.caload hx (j := j_2) (v := (.int (own_gt cs j_2))) (by rw [e_12]; exact A_25.1) (State.isArrayOf_alike hZ.alike A_25.2.1) A_25.2.2 hin_31 hat_32 (g := (mkF m 12 #[.val (.ref b), .val (.int j_2), .val (.ref t), .val (.int j_2), .val (.int nn), .val (.int j_2), .unset] [(.int j_2), (.ref b)])) rfl rfl (hb hby d0_12) _ ?_
          refine XS.istore X_11.here hx rfl (hb hby d0_13) rfl (l' := #[.val (.ref b), .val (.int j_2), .val (.ref t), .val (.int j_2), .val (.int nn), .val (.int j_2), .val (.int (own_gt cs j_2))]) rfl ?_
          refine XS.iload X_11.here hx rfl (hb hby d0_15) rfl ?_
          refine XS.sipush X_11.here hx rfl (hb hby d0_17) ?_
          refine XS.icmpYes X_11.here hx rfl (pc0 := 20) (pc' := 26) rfl (hb hby d0_20) rfl (ii_le_t (own_lat_at hla j_2).2) (by decide) (by decide) ?_
          show Steps p.tables e below (T_4.setTop (mkF m 26 #[.val (.ref b), .val (.int j_2), .val (.ref t), .val (.int j_2), .val (.int nn), .val (.int j_2), .val (.int (own_gt cs j_2))] [])) _
          refine XS.aloadN X_11.here hx rfl (hb hby d0_26) rfl rfl ?_
          refine XS.iloadN X_11.here hx rfl (hb hby d0_27) rfl ?_
          refine XS.iload X_11.here hx rfl (hb hby d0_28) rfl ?_
          refine XS.i2b X_11.here hx rfl (hb hby d0_30) rfl ?_
          refine st_45 _ ?_
          refine XS.iinc X_42.here hx rfl (hb hby d0_32) (x := j_2) rfl (l' := #[.val (.ref b), .val (.int (j_2 + (1 : Int32))), .val (.ref t), .val (.int j_2), .val (.int nn), .val (.int j_2), .val (.int (own_gt cs j_2))]) rfl ?_
          refine XS.iinc X_42.here hx rfl (hb hby d0_35) (x := j_2) rfl (l' := #[.val (.ref b), .val (.int (j_2 + (1 : Int32))), .val (.ref t), .val (.int (j_2 + (1 : Int32))), .val (.int nn), .val (.int j_2), .val (.int (own_gt cs j_2))]) rfl ?_
          refine XS.iinc X_42.here hx rfl (hb hby d0_38) (x := j_2) rfl (l' := #[.val (.ref b), .val (.int (j_2 + (1 : Int32))), .val (.ref t), .val (.int (j_2 + (1 : Int32))), .val (.int nn), .val (.int (j_2 + (1 : Int32))), .val (.int (own_gt cs j_2))]) rfl ?_
          show Steps p.tables e below (T_40.setTop (mkF m 41 #[.val (.ref b), .val (.int (j_2 + (1 : Int32))), .val (.ref t), .val (.int (j_2 + (1 : Int32))), .val (.int nn), .val (.int (j_2 + (1 : Int32))), .val (.int (own_gt cs j_2))] [])) _
          refine XS.goto X_42.here hx rfl (pc0 := 41) (pc' := 3) rfl (hb hby d0_41) (by decide) (by decide) ?_
          exact Steps.refl _
        exact ih_9 _ (by rw [hd_8]; exact (own_dec g_16 hc_22)) (j_2 + (1 : Int32)) (.val (.int (own_gt cs j_2))) _ _ _ ⟨X_42, e_43, N_47, (((Keep.refl _ _).trans K_14 (allS (Or.inl (List.mem_of_getElem? (i := 0) rfl)) all0)).wr W_44 (Or.inl (List.mem_of_getElem? (i := 0) rfl))), (own_nat g_16 hc_22).2.2.1, (own_nat g_16 hc_22).2.2.2, V_48, Or.inr ⟨_, rfl⟩, C_49⟩ rfl
      · skip
        have C_50 : Steps p.tables e below S0 (T_4.setTop (mkF m 46 #[.val (.ref b), .val (.int j_2), .val (.ref t), .val (.int j_2), .val (.int nn), .val (.int j_2), .unset] [(.int nn)])) := by
          refine C_21.trans ?_
          refine XS.icmpYes X_11.here hx rfl (pc0 := 7) (pc' := 44) rfl (hb hby d0_7) rfl (ii_ge_t hc_22) (by decide) (by decide) ?_
          refine XS.iload X_11.here hx rfl (hb hby d0_44) rfl ?_
          exact Steps.refl _
        have K_51 : Keep h0 h_10 [t] := ((Keep.refl _ _).trans K_14 (allS (Or.inl (List.mem_of_getElem? (i := 0) rfl)) all0))
        obtain ⟨fs, hr, hrun, hended, hW, hsame⟩ := X_11.leave (v := some (.int nn)) (fun h => by rw [Bd.returns] at h; cases h)
        refine ⟨_, _, C_50.trans (retOut X_11 hx Bd.returns rfl (Or.inl ⟨rfl, Or.inl rfl, _, rfl⟩) (hb hby d0_46) hr), hrun, hended, _, _, rfl, ?_, ⟨_, rfl⟩, hW, hsame.mono (by decide) (by decide)⟩
        show Q_cmp5s Z G1 G3 b k t kt nn cs ys h0 n0 (some (.int nn)) T_4.heap _
        rw [e_12]
        exact ⟨rfl, N_13, K_51, (own_mixend hl1 hl2 hc_22 g_17 ▸ g_18)⟩
    · skip
      have C_52 : Steps p.tables e below S0 (T_4.setTop (mkF m 7 #[.val (.ref b), .val (.int j_2), .val (.ref t), .val (.int j_2), .val (.int nn), .val (.int j_2), .val (.int v_20)] [(.int nn), (.int j_2)])) := by
        refine C_15.trans ?_
        refine XS.iload X_11.here hx rfl (hb hby d0_3) rfl ?_
        refine XS.iload X_11.here hx rfl (hb hby d0_5) rfl ?_
        exact Steps.refl _
      by_cases hc_53 : j_2 < nn
      · skip
        have V_54 : Arv Z h_10 b k .char nn (own_iv cs) (.int (0 : Int32)) := (hp0.keep K_14 (ninS hp3 nin0))
        obtain ⟨c_55, A_56, q_57, S_58, M_59, H_60, U_61⟩ := id V_54
        have hin_62 : ¬ (j_2 < 0 ∨ c_55.slots.size ≤ j_2.toNatClampNeg) := inb_of S_58 ⟨g_16, hc_53⟩
        have hat_63 : c_55.slots[j_2.toNatClampNeg]? = some (.int (own_gt cs j_2)) := Has.at H_60 hin_62 (own_iv_at cs j_2)
        obtain ⟨c_64, A_65, q_66, S_67, M_68, H_69, U_70⟩ := id g_18
        have hin_77 : ¬ (j_2 < 0 ∨ c_64.slots.size ≤ j_2.toNatClampNeg) := inb_of S_67 ⟨g_16, hc_53⟩
        obtain ⟨T_71, h_72, X_73, e_74, W_75, st_76⟩ := stB X_11 hx hZ e_12 A_65 (j := j_2) hin_77 (g := (mkF m 31 #[.val (.ref b), .val (.int j_2), .val (.ref t), .val (.int j_2), .val (.int nn), .val (.int j_2), .val (.int (own_gt cs j_2))] [(.int ((own_gt cs j_2).toInt8.toInt32)), (.int j_2), (.ref t)])) rfl rfl (hb hby d0_31)
        have N_78 := Fr.snoc X_73 N_13 hp2
        have V_79 : Arv Z h_72 t kt .byte nn (own_iv ((own_mix cs ys j_2).set j_2.toNatClampNeg (own_lo8 (own_gt cs j_2)))) (.int (0 : Int32)) := own_iv_set (Arv.set A_65 q_66 S_67 M_68 H_69 U_70 (fits_nar_byte _) W_75 j_2.toNatClampNeg rfl (own_ix (own_mixlen hl1 hl2 (own_jle g_17)) g_16 hc_53))
        rw [own_mixset hl1 hl2 g_16 hc_53] at V_79
        have C_80 : Steps p.tables e below S0 (T_71.setTop (mkF m 3 #[.val (.ref b), .val (.int (j_2 + (1 : Int32))), .val (.ref t), .val (.int (j_2 + (1 : Int32))), .val (.int nn), .val (.int (j_2 + (1 : Int32))), .val (.int (own_gt cs j_2))] [])) := by
          refine C_52.trans ?_
          refine XS.icmpNo X_11.here hx rfl (hb hby d0_7) rfl (ii_ge_f hc_53) ?_
          refine XS.aloadN X_11.here hx rfl (hb hby d0_10) rfl rfl ?_
          refine XS.iloadN X_11.here hx rfl (hb hby d0_11) rfl ?_
          refine X_11.caload hx (j := j_2) (v := (.int (own_gt cs j_2))) (by rw [e_12]; exact A_56.1) (State.isArrayOf_alike hZ.alike A_56.2.1) A_56.2.2 hin_62 hat_63 (g := (mkF m 12 #[.val (.ref b), .val (.int j_2), .val (.ref t), .val (.int j_2), .val (.int nn), .val (.int j_2), .val (.int v_20)] [(.int j_2), (.ref b)])) rfl rfl (hb hby d0_12) _ ?_
          refine XS.istore X_11.here hx rfl (hb hby d0_13) rfl (l' := #[.val (.ref b), .val (.int j_2), .val (.ref t), .val (.int j_2), .val (.int nn), .val (.int j_2), .val (.int (own_gt cs j_2))]) rfl ?_
          refine XS.iload X_11.here hx rfl (hb hby d0_15) rfl ?_
          refine XS.sipush X_11.here hx rfl (hb hby d0_17) ?_
          refine XS.icmpYes X_11.here hx rfl (pc0 := 20) (pc' := 26) rfl (hb hby d0_20) rfl (ii_le_t (own_lat_at hla j_2).2) (by decide) (by decide) ?_
          show Steps p.tables e below (T_4.setTop (mkF m 26 #[.val (.ref b), .val (.int j_2), .val (.ref t), .val (.int j_2), .val (.int nn), .val (.int j_2), .val (.int (own_gt cs j_2))] [])) _
          refine XS.aloadN X_11.here hx rfl (hb hby d0_26) rfl rfl ?_
          refine XS.iloadN X_11.here hx rfl (hb hby d0_27) rfl ?_
          refine XS.iload X_11.here hx rfl (hb hby d0_28) rfl ?_
          refine XS.i2b X_11.here hx rfl (hb hby d0_30) rfl ?_
          refine st_76 _ ?_
          refine XS.iinc X_73.here hx rfl (hb hby d0_32) (x := j_2) rfl (l' := #[.val (.ref b), .val (.int (j_2 + (1 : Int32))), .val (.ref t), .val (.int j_2), .val (.int nn), .val (.int j_2), .val (.int (own_gt cs j_2))]) rfl ?_
          refine XS.iinc X_73.here hx rfl (hb hby d0_35) (x := j_2) rfl (l' := #[.val (.ref b), .val (.int (j_2 + (1 : Int32))), .val (.ref t), .val (.int (j_2 + (1 : Int32))), .val (.int nn), .val (.int j_2), .val (.int (own_gt cs j_2))]) rfl ?_
          refine XS.iinc X_73.here hx rfl (hb hby d0_38) (x := j_2) rfl (l' := #[.val (.ref b), .val (.int (j_2 + (1 : Int32))), .val (.ref t), .val (.int (j_2 + (1 : Int32))), .val (.int nn), .val (.int (j_2 + (1 : Int32))), .val (.int (own_gt cs j_2))]) rfl ?_
          show Steps p.tables e below (T_71.setTop (mkF m 41 #[.val (.ref b), .val (.int (j_2 + (1 : Int32))), .val (.ref t), .val (.int (j_2 + (1 : Int32))), .val (.int nn), .val (.int (j_2 + (1 : Int32))), .val (.int (own_gt cs j_2))] [])) _
          refine XS.goto X_73.here hx rfl (pc0 := 41) (pc' := 3) rfl (hb hby d0_41) (by decide) (by decide) ?_
          exact Steps.refl _
        exact ih_9 _ (by rw [hd_8]; exact (own_dec g_16 hc_53)) (j_2 + (1 : Int32)) (.val (.int (own_gt cs j_2))) _ _ _ ⟨X_73, e_74, N_78, (((Keep.refl _ _).trans K_14 (allS (Or.inl (List.mem_of_getElem? (i := 0) rfl)) all0)).wr W_75 (Or.inl (List.mem_of_getElem? (i := 0) rfl))), (own_nat g_16 hc_53).2.2.1, (own_nat g_16 hc_53).2.2.2, V_79, Or.inr ⟨_, rfl⟩, C_80⟩ rfl
      · skip
        have C_81 : Steps p.tables e below S0 (T_4.setTop (mkF m 46 #[.val (.ref b), .val (.int j_2), .val (.ref t), .val (.int j_2), .val (.int nn), .val (.int j_2), .val (.int v_20)] [(.int nn)])) := by
          refine C_52.trans ?_
          refine XS.icmpYes X_11.here hx rfl (pc0 := 7) (pc' := 44) rfl (hb hby d0_7) rfl (ii_ge_t hc_53) (by decide) (by decide) ?_
          refine XS.iload X_11.here hx rfl (hb hby d0_44) rfl ?_
          exact Steps.refl _
        have K_82 : Keep h0 h_10 [t] := ((Keep.refl _ _).trans K_14 (allS (Or.inl (List.mem_of_getElem? (i := 0) rfl)) all0))
        obtain ⟨fs, hr, hrun, hended, hW, hsame⟩ := X_11.leave (v := some (.int nn)) (fun h => by rw [Bd.returns] at h; cases h)
        refine ⟨_, _, C_81.trans (retOut X_11 hx Bd.returns rfl (Or.inl ⟨rfl, Or.inl rfl, _, rfl⟩) (hb hby d0_46) hr), hrun, hended, _, _, rfl, ?_, ⟨_, rfl⟩, hW, hsame.mono (by decide) (by decide)⟩
        show Q_cmp5s Z G1 G3 b k t kt nn cs ys h0 n0 (some (.int nn)) T_4.heap _
        rw [e_12]
        exact ⟨rfl, N_13, K_82, (own_mixend hl1 hl2 hc_53 g_17 ▸ g_18)⟩
abbrev M26 : MethodName := ⟨"java/lang/StringUTF16", "compress", "([CII)[B"⟩
theorem ef_27 (m : MethodId) (x0 : Addr) (x1 : Int32) (x2 : Int32) : entryFrame m #[(.ref x0), (.int x1), (.int x2)] 6 = mkF m 0 #[.val (.ref x0), .val (.int x1), .val (.int x2), .unset, .unset, .unset] [] := by first | (simp [entryFrame, mkF, argsToLocals, Value.category]; done) | rfl
theorem d1_0 : decode jdk_52_method_16_code 0 = .ok (.iload_n 2, 1) := by decide +kernel
theorem w24 {Z : State} {a0 : Array Value} (hw : ∀ d ∈ tables_1, d.before a0 Z = true) : Jvm.Cond.before (Jvm.Cond.arrayClass Jvm.ClassFile.FieldType.byte) a0 Z = true := hw _ (List.mem_of_getElem? (i := 24) rfl)
theorem d1_1 : decode jdk_52_method_16_code 1 = .ok (.newarray .byte, 2) := by decide +kernel
theorem d1_3 : decode jdk_52_method_16_code 3 = .ok (.astore_n 3, 1) := by decide +kernel
theorem d1_4 : decode jdk_52_method_16_code 4 = .ok (.aload_n 0, 1) := by decide +kernel
theorem d1_5 : decode jdk_52_method_16_code 5 = .ok (.iload_n 1, 1) := by decide +kernel
theorem d1_6 : decode jdk_52_method_16_code 6 = .ok (.aload_n 3, 1) := by decide +kernel
theorem d1_7 : decode jdk_52_method_16_code 7 = .ok (.iconst 0, 1) := by decide +kernel
theorem d1_8 : decode jdk_52_method_16_code 8 = .ok (.iload_n 2, 1) := by decide +kernel
theorem w61 {Z : State} {a0 : Array Value} (hw : ∀ d ∈ tables_1, d.before a0 Z = true) : Jvm.Cond.before (Jvm.Cond.code ({ cls := "java/lang/StringUTF16", name := "compress", desc := "([CI[BII)I" } : Jvm.MethodName) jdk_52_method_21_code (7 : Nat) (Option.some Jvm.ClassFile.FieldType.int)) a0 Z = true := hw _ (List.mem_of_getElem? (i := 61) rfl)
theorem w57 {Z : State} {a0 : Array Value} (hw : ∀ d ∈ tables_1, d.before a0 Z = true) : Jvm.Cond.before (Jvm.Cond.initialized "java/lang/StringUTF16") a0 Z = true := hw _ (List.mem_of_getElem? (i := 57) rfl)
theorem pd_39 : parseMethodDescriptor "([CI[BII)I" = some ⟨[(.array .char), .int, (.array .byte), .int, .int], some .int⟩ := by decide +kernel
theorem d1_9 : decode jdk_52_method_16_code 9 = .ok (.invokestatic 115, 3) := by decide +kernel
theorem w59 {Z : State} {a0 : Array Value} (hw : ∀ d ∈ tables_1, d.before a0 Z = true) : Jvm.Cond.before (Jvm.Cond.methodLink "java/lang/StringUTF16" (115 : Nat) ({ cls := "java/lang/StringUTF16", name := "compress", desc := "([CI[BII)I" } : Jvm.MethodName)) a0 Z = true := hw _ (List.mem_of_getElem? (i := 59) rfl)
theorem w60 {Z : State} {a0 : Array Value} (hw : ∀ d ∈ tables_1, d.before a0 Z = true) : Jvm.Cond.before (Jvm.Cond.static ({ cls := "java/lang/StringUTF16", name := "compress", desc := "([CI[BII)I" } : Jvm.MethodName)) a0 Z = true := hw _ (List.mem_of_getElem? (i := 60) rfl)
theorem d1_12 : decode jdk_52_method_16_code 12 = .ok (.istore 4, 2) := by decide +kernel
theorem d1_14 : decode jdk_52_method_16_code 14 = .ok (.iload 4, 2) := by decide +kernel
theorem d1_16 : decode jdk_52_method_16_code 16 = .ok (.iload_n 2, 1) := by decide +kernel
theorem d1_17 : decode jdk_52_method_16_code 17 = .ok (.if_icmp .eq 40, 3) := by decide +kernel
theorem d1_57 : decode jdk_52_method_16_code 57 = .ok (.aload_n 3, 1) := by decide +kernel
theorem d1_58 : decode jdk_52_method_16_code 58 = .ok (.areturn, 1) := by decide +kernel
abbrev R_cmp3s : Room := { frames := 1, cells := 1, slots := 16, locals := 18 }
def Q_cmp3s (Z : State) (G1 : Int32) (G3 : Value) (b : Addr) (k : ClassId) (nn : Int32) (cs : List Int32) (h0 : Heap) (n0 : Nat) (v : Option Value) (h : Heap) (L : List Loc) : Prop := (∃ t : Addr, ∃ kt : ClassId, v = some (.ref t) ∧ Fr n0 L ∧ Keep h0 h [] ∧ (h0.size ≤ t) ∧ (Arv Z h t kt .byte nn (own_iv (own_bs cs)) (.int (0 : Int32))))
set_option maxRecDepth 65536 in
set_option maxHeartbeats 40000000 in
theorem rm_cmp3s (l : Launch) (Z : State) (a0 : Array Value) (hw : ∀ d ∈ tables_1, d.before a0 Z = true) (ws : List Jvm.Cond) (G1 : Int32) (G3 : Value) (HG : own_G l Z a0 G1 G3) (h0 : Heap) (n0 : Nat) (X00 : Old Z n0 h0) (b : Addr) (k : ClassId) (nn : Int32) (cs : List Int32) (hp0 : Arv Z h0 b k .char nn (own_iv cs) (.int (0 : Int32))) (hn0 : ¬ (nn < (0 : Int32))) (hcap : nn.toNatClampNeg ≤ 16) (hl1 : cs.length = nn.toNatClampNeg) (hla : own_lat cs) :
    own_CP l Z M26 jdk_52_method_16_code 6 (some (.array .byte)) ws R_cmp3s #[(.ref b), (.int (0 : Int32)), (.int nn)] h0 (Q_cmp3s Z G1 G3 b k nn cs h0 n0) := by
  refine own_P (plainFor_of_name pn_2) ?_
  intro p e s m below meth c s₁ S0 Bd hZ hh hx hby hml hown hnm X0 e0 hS0d
  obtain ⟨O1, P1, O3f, rG3⟩ := id HG
  have N0 := Fr.nil n0
  have C0 : Steps p.tables e below S0 (s₁.setTop (mkF m 0 #[.val (.ref b), .val (.int (0 : Int32)), .val (.int nn), .unset, .unset, .unset] [])) := by rw [hS0d]; exact castTop (ef_27 m b (0 : Int32) nn) (Steps.refl _)
  obtain ⟨T_1, h_2, k_3, X_4, e_5, E_6, A_7, st_8⟩ := newP (aty := .byte) X0 hx hZ (w24 hw) e0 (g := (mkF m 1 #[.val (.ref b), .val (.int (0 : Int32)), .val (.int nn), .unset, .unset, .unset] [(.int nn)])) rfl (hb hby d1_1) rfl hn0 (cap := 16) hcap (by decide) (by decide) (by decide)
  obtain ⟨a_9, g_10⟩ : ∃ z, z = h0.size := ⟨_, rfl⟩
  rw [← g_10] at A_7 st_8
  have V_11 : Arv Z h_2 a_9 k_3 .byte nn (own_iv (List.replicate nn.toNatClampNeg 0)) (.int (0 : Int32)) := (Arv.new A_7 hn0).pad (own_pad _)
  have V_12 : Arv Z h_2 b k .char nn (own_iv cs) (.int (0 : Int32)) := (hp0.ext E_6)
  have O_13 : Old Z n0 h_2 := (X00.ext E_6)
  obtain ⟨_, _, ⟨T_14, L_14, k_14, n_14⟩, -, X_14, ⟨Lc_14, hQ_14, l_14, y_14, z_14⟩, st_14⟩ := Jvm.LawKit.callS X_4 hx (y := M0) hown (mvT hZ (w59 hw)) (mvT hZ (w60 hw)) (mvT hZ (w57 hw)) (mvT hZ (w61 hw)) (by decide) (backOf (W := 0) (rm_cmp5s l Z a0 hw [] G1 G3 HG h_2 n0 O_13 b k a_9 k_3 nn cs (List.replicate nn.toNatClampNeg 0) V_12 V_11 (Nat.le_trans (own_n0 X00) (Nat.le_of_eq g_10.symm)) (Nat.ne_of_lt (Nat.lt_of_lt_of_le hp0.lt (Nat.le_trans (Nat.le_refl _) (Nat.le_of_eq g_10.symm)))) hn0 hl1 (List.length_replicate) hla) hZ (w61 hw) (w57 hw) (by decide) (by decide)) (g := (mkF m 9 #[.val (.ref b), .val (.int (0 : Int32)), .val (.int nn), .val (.ref a_9), .unset, .unset] [(.int nn), (.int (0 : Int32)), (.ref a_9), (.int (0 : Int32)), (.ref b)])) rfl (by rw [hml]; rfl) (argsL := [(.ref b), (.int (0 : Int32)), (.ref a_9), (.int (0 : Int32)), (.int nn)]) (rest := []) (lenOf pd_39 rfl) rfl (by show 2 * 0 + _ ≤ _; exact Nat.le_of_eq rfl) (hb hby d1_9) (fun _ _ => ⟨rfl, e_5, (by decide : 1 + 0 ≤ _), (by decide : 16 + 0 ≤ _)⟩)
  dsimp only [Pt.U, Pt.locs, Pt.cells, Pt.slots] at X_14 l_14 y_14 z_14 st_14 hQ_14
  have X_14 := own_cast X_14 l_14 y_14 z_14
  obtain ⟨rfl, N_15, K_16, g_17⟩ := hQ_14
  have N_18 := Fr.app N0 N_15
  have C_19 : Steps p.tables e below S0 (T_14.setTop (mkF m 58 #[.val (.ref b), .val (.int (0 : Int32)), .val (.int nn), .val (.ref a_9), .val (.int nn), .unset] [(.ref a_9)])) := by
    refine C0.trans ?_
    refine XS.iloadN X0.here hx rfl (hb hby d1_0) rfl ?_
    refine st_8 _ ?_
    refine XS.astoreN X_4.here hx rfl (hb hby d1_3) rfl rfl (l' := #[.val (.ref b), .val (.int (0 : Int32)), .val (.int nn), .val (.ref a_9), .unset, .unset]) rfl ?_
    refine XS.aloadN X_4.here hx rfl (hb hby d1_4) rfl rfl ?_
    refine XS.iloadN X_4.here hx rfl (hb hby d1_5) rfl ?_
    refine XS.aloadN X_4.here hx rfl (hb hby d1_6) rfl rfl ?_
    refine XS.iconst X_4.here hx rfl (hb hby d1_7) ?_
    refine XS.iloadN X_4.here hx rfl (hb hby d1_8) rfl ?_
    show Steps p.tables e below (T_1.setTop (mkF m 9 #[.val (.ref b), .val (.int (0 : Int32)), .val (.int nn), .val (.ref a_9), .unset, .unset] [(.int nn), (.int (0 : Int32)), (.ref a_9), (.int (0 : Int32)), (.ref b)])) _
    refine st_14 _ ?_
    refine XS.istore X_14.here hx rfl (hb hby d1_12) rfl (l' := #[.val (.ref b), .val (.int (0 : Int32)), .val (.int nn), .val (.ref a_9), .val (.int nn), .unset]) rfl ?_
    refine XS.iload X_14.here hx rfl (hb hby d1_14) rfl ?_
    refine XS.iloadN X_14.here hx rfl (hb hby d1_16) rfl ?_
    refine XS.icmpYes X_14.here hx rfl (pc0 := 17) (pc' := 57) rfl (hb hby d1_17) rfl (ii_eq_t rfl) (by decide) (by decide) ?_
    refine XS.aloadN X_14.here hx rfl (hb hby d1_57) rfl rfl ?_
    exact Steps.refl _
  have K_20 : Keep h0 T_14.heap [] := (((Keep.refl _ _).ext E_6).trans K_16 (allS (Or.inr (Nat.le_trans (Nat.le_refl _) (Nat.le_of_eq g_10.symm))) all0))
  obtain ⟨fs, hr, hrun, hended, hW, hsame⟩ := X_14.leave (v := some (.ref a_9)) (fun h => by rw [Bd.returns] at h; cases h)
  refine ⟨_, _, C_19.trans (retOut X_14 hx Bd.returns rfl (Or.inr (Or.inr (Or.inr (Or.inr ⟨rfl, rfl, rfl⟩)))) (hb hby d1_58) hr), hrun, hended, _, _, rfl, ?_, ⟨_, rfl⟩, hW, hsame.mono (by decide) (by decide)⟩
  show Q_cmp3s Z G1 G3 b k nn cs h0 n0 (some (.ref a_9)) T_14.heap _
  exact ⟨a_9, k_3, rfl, N_18, K_20, (Nat.le_trans (Nat.le_refl _) (Nat.le_of_eq g_10.symm)), g_17⟩
abbrev M49 : MethodName := ⟨"java/lang/StringUTF16", "coderFromArrayLen", "([BI)B"⟩
theorem ef_50 (m : MethodId) (x0 : Addr) (x1 : Int32) : entryFrame m #[(.ref x0), (.int x1)] 2 = mkF m 0 #[.val (.ref x0), .val (.int x1)] [] := by first | (simp [entryFrame, mkF, argsToLocals, Value.category]; done) | rfl
theorem d2_0 : decode jdk_52_method_15_code 0 = .ok (.iload_n 1, 1) := by decide +kernel
theorem d2_1 : decode jdk_52_method_15_code 1 = .ok (.aload_n 0, 1) := by decide +kernel
theorem d2_2 : decode jdk_52_method_15_code 2 = .ok (.arraylength, 1) := by decide +kernel
theorem d2_3 : decode jdk_52_method_15_code 3 = .ok (.isub, 1) := by decide +kernel
theorem d2_4 : decode jdk_52_method_15_code 4 = .ok (.bipush 31, 2) := by decide +kernel
theorem d2_6 : decode jdk_52_method_15_code 6 = .ok (.iushr, 1) := by decide +kernel
theorem d2_7 : decode jdk_52_method_15_code 7 = .ok (.i2b, 1) := by decide +kernel
theorem d2_8 : decode jdk_52_method_15_code 8 = .ok (.ireturn, 1) := by decide +kernel
abbrev R_codls : Room := { frames := 0, cells := 0, slots := 0, locals := 0 }
def Q_codls (Z : State) (G1 : Int32) (G3 : Value) (t : Addr) (kt : ClassId) (nn : Int32) (ys : List Value) (h0 : Heap) (n0 : Nat) (v : Option Value) (h : Heap) (L : List Loc) : Prop := (v = some (.int (0 : Int32)) ∧ Fr n0 L ∧ h = h0)
set_option maxRecDepth 65536 in
set_option maxHeartbeats 40000000 in
theorem rm_codls (l : Launch) (Z : State) (a0 : Array Value) (hw : ∀ d ∈ tables_1, d.before a0 Z = true) (ws : List Jvm.Cond) (G1 : Int32) (G3 : Value) (HG : own_G l Z a0 G1 G3) (h0 : Heap) (n0 : Nat) (X00 : Old Z n0 h0) (t : Addr) (kt : ClassId) (nn : Int32) (ys : List Value) (hp0 : Arv Z h0 t kt .byte nn ys (.int (0 : Int32))) :
    own_CP l Z M49 jdk_52_method_15_code 2 (some .byte) ws R_codls #[(.ref t), (.int nn)] h0 (Q_codls Z G1 G3 t kt nn ys h0 n0) := by
  refine own_P (plainFor_of_name pn_2) ?_
  intro p e s m below meth c s₁ S0 Bd hZ hh hx hby hml hown hnm X0 e0 hS0d
  obtain ⟨O1, P1, O3f, rG3⟩ := id HG
  have N0 := Fr.nil n0
  have C0 : Steps p.tables e below S0 (s₁.setTop (mkF m 0 #[.val (.ref t), .val (.int nn)] [])) := by rw [hS0d]; exact castTop (ef_50 m t nn) (Steps.refl _)
  obtain ⟨c_1, A_2, q_3, S_4, M_5, H_6, U_7⟩ := id hp0
  have C_8 : Steps p.tables e below S0 (s₁.setTop (mkF m 8 #[.val (.ref t), .val (.int nn)] [(.int ((((nn - nn).toUInt32 >>> ((31 : Int32) &&& 31).toUInt32).toInt32).toInt8.toInt32))])) := by
    refine C0.trans ?_
    refine XS.iloadN X0.here hx rfl (hb hby d2_0) rfl ?_
    refine XS.aloadN X0.here hx rfl (hb hby d2_1) rfl rfl ?_
    refine X0.arraylength hx (by rw [e0]; exact A_2.1) (State.isArrayOf_alike hZ.alike A_2.2.1) (g := (mkF m 2 #[.val (.ref t), .val (.int nn)] [(.ref t), (.int nn)])) rfl rfl (hb hby d2_2) _ ?_
    rw [len_of S_4 M_5]
    refine XS.isub X0.here hx rfl (hb hby d2_3) rfl ?_
    refine XS.bipush X0.here hx rfl (hb hby d2_4) ?_
    refine XS.iushr X0.here hx rfl (hb hby d2_6) rfl ?_
    refine XS.i2b X0.here hx rfl (hb hby d2_7) rfl ?_
    exact Steps.refl _
  obtain ⟨fs, hr, hrun, hended, hW, hsame⟩ := X0.leave (v := some (.int (nar .byte ((((nn - nn).toUInt32 >>> ((31 : Int32) &&& 31).toUInt32).toInt32).toInt8.toInt32)))) (fun h => by rw [Bd.returns] at h; cases h)
  refine ⟨_, _, C_8.trans (retN X0 hx (t := .byte) Bd.returns (by simp) (hb hby d2_8) hr), hrun, hended, _, _, rfl, ?_, ⟨_, rfl⟩, hW, hsame.mono (by decide) (by decide)⟩
  show Q_codls Z G1 G3 t kt nn ys h0 n0 (some (.int (nar .byte ((((nn - nn).toUInt32 >>> ((31 : Int32) &&& 31).toUInt32).toInt32).toInt8.toInt32)))) s₁.heap _
  rw [e0]
  exact ⟨(congrArg (fun q => some (Value.int q)) (own_cod nn)), N0, rfl⟩
abbrev M59 : MethodName := ⟨"java/lang/String", "<init>", "([CIILjava/lang/Void;)V"⟩
theorem ef_60 (m : MethodId) (x0 : Addr) (x1 : Addr) (x2 : Int32) (x3 : Int32) : entryFrame m #[(.ref x0), (.ref x1), (.int x2), (.int x3), .null] 6 = mkF m 0 #[.val (.ref x0), .val (.ref x1), .val (.int x2), .val (.int x3), .val .null, .unset] [] := by first | (simp [entryFrame, mkF, argsToLocals, Value.category]; done) | rfl
theorem pn_61 : plainName "java/lang/String" = true := by first | (simp [plainName, overriddenIn]; done) | decide +kernel
theorem d3_0 : decode jdk_42_method_149_code 0 = .ok (.aload_n 0, 1) := by decide +kernel
theorem w20 {Z : State} {a0 : Array Value} (hw : ∀ d ∈ tables_1, d.before a0 Z = true) : Jvm.Cond.before (Jvm.Cond.methodLink "java/lang/String" (1 : Nat) ({ cls := "java/lang/Object", name := "<init>", desc := "()V" } : Jvm.MethodName)) a0 Z = true := hw _ (List.mem_of_getElem? (i := 20) rfl)
theorem w21 {Z : State} {a0 : Array Value} (hw : ∀ d ∈ tables_1, d.before a0 Z = true) : Jvm.Cond.before (Jvm.Cond.instanceMethod ({ cls := "java/lang/Object", name := "<init>", desc := "()V" } : Jvm.MethodName)) a0 Z = true := hw _ (List.mem_of_getElem? (i := 21) rfl)
theorem w22 {Z : State} {a0 : Array Value} (hw : ∀ d ∈ tables_1, d.before a0 Z = true) : Jvm.Cond.before (Jvm.Cond.code ({ cls := "java/lang/Object", name := "<init>", desc := "()V" } : Jvm.MethodName) object_method_1_code (1 : Nat) (Option.none : Option Jvm.ClassFile.FieldType)) a0 Z = true := hw _ (List.mem_of_getElem? (i := 22) rfl)
theorem d3_1 : decode jdk_42_method_149_code 1 = .ok (.invokespecial 1, 3) := by decide +kernel
theorem d3_4 : decode jdk_42_method_149_code 4 = .ok (.iload_n 3, 1) := by decide +kernel
theorem d3_5 : decode jdk_42_method_149_code 5 = .ok (.ifCond .ne 22, 3) := by decide +kernel
theorem w54 {Z : State} {a0 : Array Value} (hw : ∀ d ∈ tables_1, d.before a0 Z = true) : Jvm.Cond.before (Jvm.Cond.fieldLink "java/lang/String" (38 : Nat) "java/lang/String" "COMPACT_STRINGS" "Z") a0 Z = true := hw _ (List.mem_of_getElem? (i := 54) rfl)
theorem d3_27 : decode jdk_42_method_149_code 27 = .ok (.getstatic 38, 3) := by decide +kernel
theorem d3_30 : decode jdk_42_method_149_code 30 = .ok (.ifCond .eq 28, 3) := by decide +kernel
theorem d3_33 : decode jdk_42_method_149_code 33 = .ok (.aload_n 1, 1) := by decide +kernel
theorem d3_34 : decode jdk_42_method_149_code 34 = .ok (.iload_n 2, 1) := by decide +kernel
theorem d3_35 : decode jdk_42_method_149_code 35 = .ok (.iload_n 3, 1) := by decide +kernel
theorem w58 {Z : State} {a0 : Array Value} (hw : ∀ d ∈ tables_1, d.before a0 Z = true) : Jvm.Cond.before (Jvm.Cond.code ({ cls := "java/lang/StringUTF16", name := "compress", desc := "([CII)[B" } : Jvm.MethodName) jdk_52_method_16_code (6 : Nat) (Option.some (Jvm.ClassFile.FieldType.array Jvm.ClassFile.FieldType.byte))) a0 Z = true := hw _ (List.mem_of_getElem? (i := 58) rfl)
theorem pd_76 : parseMethodDescriptor "([CII)[B" = some ⟨[(.array .char), .int, .int], some (.array .byte)⟩ := by decide +kernel
theorem d3_36 : decode jdk_42_method_149_code 36 = .ok (.invokestatic 177, 3) := by decide +kernel
theorem w55 {Z : State} {a0 : Array Value} (hw : ∀ d ∈ tables_1, d.before a0 Z = true) : Jvm.Cond.before (Jvm.Cond.methodLink "java/lang/String" (177 : Nat) ({ cls := "java/lang/StringUTF16", name := "compress", desc := "([CII)[B" } : Jvm.MethodName)) a0 Z = true := hw _ (List.mem_of_getElem? (i := 55) rfl)
theorem w56 {Z : State} {a0 : Array Value} (hw : ∀ d ∈ tables_1, d.before a0 Z = true) : Jvm.Cond.before (Jvm.Cond.static ({ cls := "java/lang/StringUTF16", name := "compress", desc := "([CII)[B" } : Jvm.MethodName)) a0 Z = true := hw _ (List.mem_of_getElem? (i := 56) rfl)
theorem d3_39 : decode jdk_42_method_149_code 39 = .ok (.astore 5, 2) := by decide +kernel
theorem d3_41 : decode jdk_42_method_149_code 41 = .ok (.aload_n 0, 1) := by decide +kernel
theorem d3_42 : decode jdk_42_method_149_code 42 = .ok (.aload 5, 2) := by decide +kernel
theorem d3_44 : decode jdk_42_method_149_code 44 = .ok (.iload_n 3, 1) := by decide +kernel
theorem w64 {Z : State} {a0 : Array Value} (hw : ∀ d ∈ tables_1, d.before a0 Z = true) : Jvm.Cond.before (Jvm.Cond.code ({ cls := "java/lang/StringUTF16", name := "coderFromArrayLen", desc := "([BI)B" } : Jvm.MethodName) jdk_52_method_15_code (2 : Nat) (Option.some Jvm.ClassFile.FieldType.byte)) a0 Z = true := hw _ (List.mem_of_getElem? (i := 64) rfl)
theorem pd_85 : parseMethodDescriptor "([BI)B" = some ⟨[(.array .byte), .int], some .byte⟩ := by decide +kernel
theorem d3_45 : decode jdk_42_method_149_code 45 = .ok (.invokestatic 47, 3) := by decide +kernel
theorem w62 {Z : State} {a0 : Array Value} (hw : ∀ d ∈ tables_1, d.before a0 Z = true) : Jvm.Cond.before (Jvm.Cond.methodLink "java/lang/String" (47 : Nat) ({ cls := "java/lang/StringUTF16", name := "coderFromArrayLen", desc := "([BI)B" } : Jvm.MethodName)) a0 Z = true := hw _ (List.mem_of_getElem? (i := 62) rfl)
theorem w63 {Z : State} {a0 : Array Value} (hw : ∀ d ∈ tables_1, d.before a0 Z = true) : Jvm.Cond.before (Jvm.Cond.static ({ cls := "java/lang/StringUTF16", name := "coderFromArrayLen", desc := "([BI)B" } : Jvm.MethodName)) a0 Z = true := hw _ (List.mem_of_getElem? (i := 63) rfl)
theorem w30 {Z : State} {a0 : Array Value} (hw : ∀ d ∈ tables_1, d.before a0 Z = true) : Jvm.Cond.before (Jvm.Cond.fieldLink "java/lang/String" (15 : Nat) "java/lang/String" "coder" "B") a0 Z = true := hw _ (List.mem_of_getElem? (i := 30) rfl)
theorem w26 {Z : State} {a0 : Array Value} (hw : ∀ d ∈ tables_1, d.before a0 Z = true) : Jvm.Cond.before (Jvm.Cond.laysFinal "java/lang/String" "java/lang/String" "coder" "B") a0 Z = true := hw _ (List.mem_of_getElem? (i := 26) rfl)
theorem w11 {Z : State} {a0 : Array Value} (hw : ∀ d ∈ tables_1, d.before a0 Z = true) : Jvm.Cond.before (Jvm.Cond.instantiable "java/lang/String" (4 : Nat)) a0 Z = true := hw _ (List.mem_of_getElem? (i := 11) rfl)
theorem d3_48 : decode jdk_42_method_149_code 48 = .ok (.putfield 15, 3) := by decide +kernel
theorem d3_51 : decode jdk_42_method_149_code 51 = .ok (.aload_n 0, 1) := by decide +kernel
theorem d3_52 : decode jdk_42_method_149_code 52 = .ok (.aload 5, 2) := by decide +kernel
theorem w29 {Z : State} {a0 : Array Value} (hw : ∀ d ∈ tables_1, d.before a0 Z = true) : Jvm.Cond.before (Jvm.Cond.fieldLink "java/lang/String" (9 : Nat) "java/lang/String" "value" "[B") a0 Z = true := hw _ (List.mem_of_getElem? (i := 29) rfl)
theorem w25 {Z : State} {a0 : Array Value} (hw : ∀ d ∈ tables_1, d.before a0 Z = true) : Jvm.Cond.before (Jvm.Cond.laysFinal "java/lang/String" "java/lang/String" "value" "[B") a0 Z = true := hw _ (List.mem_of_getElem? (i := 25) rfl)
theorem d3_54 : decode jdk_42_method_149_code 54 = .ok (.putfield 9, 3) := by decide +kernel
theorem d3_57 : decode jdk_42_method_149_code 57 = .ok (.return_, 1) := by decide +kernel
abbrev R_si4s : Room := { frames := 2, cells := 1, slots := 16, locals := 35 }
def Q_si4s (Z : State) (G1 : Int32) (G3 : Value) (x : Addr) (b : Addr) (k : ClassId) (nn : Int32) (cs : List Int32) (h0 : Heap) (n0 : Nat) (v : Option Value) (h : Heap) (L : List Loc) : Prop := (∃ t : Addr, ∃ kt : ClassId, v = none ∧ Fr n0 L ∧ Keep h0 h [x] ∧ (Exa Z h x "java/lang/String") ∧ (Fld Z h x "java/lang/String" "coder" "B" (.int (0 : Int32))) ∧ (Fld Z h x "java/lang/String" "value" "[B" (.ref t)) ∧ (h0.size ≤ t) ∧ (Arv Z h t kt .byte nn (own_iv (own_bs cs)) (.int (0 : Int32))))
set_option maxRecDepth 65536 in
set_option maxHeartbeats 40000000 in
theorem rm_si4s (l : Launch) (Z : State) (a0 : Array Value) (hw : ∀ d ∈ tables_1, d.before a0 Z = true) (ws : List Jvm.Cond) (G1 : Int32) (G3 : Value) (HG : own_G l Z a0 G1 G3) (h0 : Heap) (n0 : Nat) (X00 : Old Z n0 h0) (x : Addr) (b : Addr) (k : ClassId) (nn : Int32) (cs : List Int32) (hp0 : Exa Z h0 x "java/lang/String") (hp1 : Fld Z h0 x "java/lang/String" "value" "[B" .null) (hp2 : Fld Z h0 x "java/lang/String" "coder" "B" (.int (0 : Int32))) (hp3 : n0 ≤ x) (hp4 : Arv Z h0 b k .char nn (own_iv cs) (.int (0 : Int32))) (hn0 : ¬ (nn < (0 : Int32))) (hnz : ¬ (nn = (0 : Int32))) (hcap : nn.toNatClampNeg ≤ 16) (hl1 : cs.length = nn.toNatClampNeg) (hla : own_lat cs) :
    own_CP l Z M59 jdk_42_method_149_code 6 none ws R_si4s #[(.ref x), (.ref b), (.int (0 : Int32)), (.int nn), .null] h0 (Q_si4s Z G1 G3 x b k nn cs h0 n0) := by
  refine own_P (plainFor_of_name pn_61) ?_
  intro p e s m below meth c s₁ S0 Bd hZ hh hx hby hml hown hnm X0 e0 hS0d
  obtain ⟨O1, P1, O3f, rG3⟩ := id HG
  have N0 := Fr.nil n0
  have C0 : Steps p.tables e below S0 (s₁.setTop (mkF m 0 #[.val (.ref x), .val (.ref b), .val (.int (0 : Int32)), .val (.int nn), .val .null, .unset] [])) := by rw [hS0d]; exact castTop (ef_60 m x b (0 : Int32) nn) (Steps.refl _)
  obtain ⟨T_1, X_2, e_3, st_4⟩ := initO X0 hx hZ hown (w20 hw) (w21 hw) (w22 hw) e0 (g := (mkF m 1 #[.val (.ref x), .val (.ref b), .val (.int (0 : Int32)), .val (.int nn), .val .null, .unset] [(.ref x)])) rfl (by rw [hml]; rfl) rfl (hb hby d3_1) (by decide) (W := 0) (by show 2 * 0 + _ ≤ _; exact Nat.le_of_eq rfl) (by decide)
  obtain ⟨T_5, X_6, e_7, st_8⟩ := getS X_2 hx hZ (host := "") hown (w54 hw) Via.refl e_3 (O1.ext X00.2) (g := (mkF m 27 #[.val (.ref x), .val (.ref b), .val (.int (0 : Int32)), .val (.int nn), .val .null, .unset] [])) rfl (hb hby d3_27)
  obtain ⟨_, _, ⟨T_9, L_9, k_9, n_9⟩, -, X_9, ⟨Lc_9, hQ_9, l_9, y_9, z_9⟩, st_9⟩ := Jvm.LawKit.callS X_6 hx (y := M26) hown (mvT hZ (w55 hw)) (mvT hZ (w56 hw)) (mvT hZ (w57 hw)) (mvT hZ (w58 hw)) (by decide) (backOf (W := 0) (rm_cmp3s l Z a0 hw [] G1 G3 HG h0 n0 X00 b k nn cs hp4 hn0 hcap hl1 hla) hZ (w58 hw) (w57 hw) (by decide) (by decide)) (g := (mkF m 36 #[.val (.ref x), .val (.ref b), .val (.int (0 : Int32)), .val (.int nn), .val .null, .unset] [(.int nn), (.int (0 : Int32)), (.ref b)])) rfl (by rw [hml]; rfl) (argsL := [(.ref b), (.int (0 : Int32)), (.int nn)]) (rest := []) (lenOf pd_76 rfl) rfl (by show 2 * 0 + _ ≤ _; exact Nat.le_of_eq rfl) (hb hby d3_36) (fun _ _ => ⟨rfl, e_7, (by decide : 0 + 1 ≤ _), (by decide : 0 + 16 ≤ _)⟩)
  dsimp only [Pt.U, Pt.locs, Pt.cells, Pt.slots] at X_9 l_9 y_9 z_9 st_9 hQ_9
  have X_9 := own_cast X_9 l_9 y_9 z_9
  obtain ⟨a_10, k_11, rfl, N_12, K_13, g_14, g_15⟩ := hQ_9
  have N_16 := Fr.app N0 N_12
  have O_17 : Old Z n0 T_9.heap := (X00.keep K_13 all0)
  obtain ⟨_, _, ⟨T_18, L_18, k_18, n_18⟩, -, X_18, ⟨Lc_18, hQ_18, l_18, y_18, z_18⟩, st_18⟩ := Jvm.LawKit.callS X_9 hx (y := M49) hown (mvT hZ (w62 hw)) (mvT hZ (w63 hw)) (mvT hZ (w57 hw)) (mvT hZ (w64 hw)) (by decide) (backOf (W := 1) (rm_codls l Z a0 hw [] G1 G3 HG T_9.heap n0 O_17 a_10 k_11 nn (own_iv (own_bs cs)) g_15) hZ (w64 hw) (w57 hw) (by decide) (by decide)) (g := (mkF m 45 #[.val (.ref x), .val (.ref b), .val (.int (0 : Int32)), .val (.int nn), .val .null, .val (.ref a_10)] [(.int nn), (.ref a_10), (.ref x)])) rfl (by rw [hml]; rfl) (argsL := [(.ref a_10), (.int nn)]) (rest := [(.ref x)]) (lenOf pd_85 rfl) rfl (by show 2 * 0 + _ ≤ _; exact Nat.le_of_eq rfl) (hb hby d3_45) (fun _ _ => ⟨rfl, rfl, (by decide : 1 + 0 ≤ _), (by decide : 16 + 0 ≤ _)⟩)
  dsimp only [Pt.U, Pt.locs, Pt.cells, Pt.slots] at X_18 l_18 y_18 z_18 st_18 hQ_18
  have X_18 := own_cast X_18 l_18 y_18 z_18
  obtain ⟨rfl, N_19, e_20⟩ := hQ_18
  have N_21 := Fr.app N_16 N_19
  have e_22 : T_18.heap = T_9.heap := e_20
  have F_23 : Fld Z T_9.heap x "java/lang/String" "coder" "B" (.int (0 : Int32)) := (hp2.keep K_13 nin0)
  have E_24 : Exa Z T_9.heap x "java/lang/String" := (hp0.keep K_13)
  obtain ⟨T_25, h_26, X_27, e_28, W_29, st_30⟩ := putF X_18 hx hZ hown (host := "") (Or.inl (w30 hw)) Via.refl e_22 F_23 E_24 (Or.inr ⟨(w26 hw), rfl, hnm⟩) (w11 hw) (ty := .byte) (by decide) rfl (by decide) (g := (mkF m 48 #[.val (.ref x), .val (.ref b), .val (.int (0 : Int32)), .val (.int nn), .val .null, .val (.ref a_10)] [(.int (0 : Int32)), (.ref x)])) rfl rfl (hb hby d3_48)
  have N_31 := Fr.snoc X_27 N_21 hp3
  have F_32 : Fld Z h_26 x "java/lang/String" "coder" "B" (.int (0 : Int32)) := F_23.same W_29
  have F_33 : Fld Z h_26 x "java/lang/String" "value" "[B" .null := ((hp1.keep K_13 nin0).other W_29 (Or.inr (slot_ne (Or.inr (w25 hw)) (Or.inr (w26 hw)) (by decide) (t := (.array .byte)) (by decide) (t' := .byte) (by decide))))
  have E_34 : Exa Z h_26 x "java/lang/String" := (E_24.wr W_29)
  obtain ⟨T_35, h_36, X_37, e_38, W_39, st_40⟩ := putF X_27 hx hZ hown (host := "") (Or.inl (w29 hw)) Via.refl e_28 F_33 E_34 (Or.inr ⟨(w25 hw), rfl, hnm⟩) (w11 hw) (ty := (.array .byte)) (by decide) rfl rfl (g := (mkF m 54 #[.val (.ref x), .val (.ref b), .val (.int (0 : Int32)), .val (.int nn), .val .null, .val (.ref a_10)] [(.ref a_10), (.ref x)])) rfl rfl (hb hby d3_54)
  have N_41 := Fr.snoc X_37 N_31 hp3
  have F_42 : Fld Z h_36 x "java/lang/String" "value" "[B" (.ref a_10) := F_33.same W_39
  have C_43 : Steps p.tables e below S0 (T_35.setTop (mkF m 57 #[.val (.ref x), .val (.ref b), .val (.int (0 : Int32)), .val (.int nn), .val .null, .val (.ref a_10)] [])) := by
    refine C0.trans ?_
    refine XS.aloadN X0.here hx rfl (hb hby d3_0) rfl rfl ?_
    refine st_4 _ ?_
    refine XS.iloadN X_2.here hx rfl (hb hby d3_4) rfl ?_
    refine XS.ifYes X_2.here hx rfl (pc0 := 5) (pc' := 27) rfl (hb hby d3_5) rfl (i0_ne_t hnz) (by decide) (by decide) ?_
    refine st_8 _ ?_
    refine XS.ifNo X_6.here hx rfl (hb hby d3_30) rfl (i0_eq_f P1) ?_
    refine XS.aloadN X_6.here hx rfl (hb hby d3_33) rfl rfl ?_
    refine XS.iloadN X_6.here hx rfl (hb hby d3_34) rfl ?_
    show Steps p.tables e below (T_5.setTop (mkF m 35 #[.val (.ref x), .val (.ref b), .val (.int (0 : Int32)), .val (.int nn), .val .null, .unset] [(.int (0 : Int32)), (.ref b)])) _
    refine XS.iloadN X_6.here hx rfl (hb hby d3_35) rfl ?_
    refine st_9 _ ?_
    refine XS.astore X_9.here hx rfl (hb hby d3_39) rfl rfl (l' := #[.val (.ref x), .val (.ref b), .val (.int (0 : Int32)), .val (.int nn), .val .null, .val (.ref a_10)]) rfl ?_
    refine XS.aloadN X_9.here hx rfl (hb hby d3_41) rfl rfl ?_
    refine XS.aload X_9.here hx rfl (hb hby d3_42) rfl rfl ?_
    refine XS.iloadN X_9.here hx rfl (hb hby d3_44) rfl ?_
    refine st_18 _ ?_
    refine st_30 _ ?_
    show Steps p.tables e below (T_25.setTop (mkF m 51 #[.val (.ref x), .val (.ref b), .val (.int (0 : Int32)), .val (.int nn), .val .null, .val (.ref a_10)] [])) _
    refine XS.aloadN X_27.here hx rfl (hb hby d3_51) rfl rfl ?_
    refine XS.aload X_27.here hx rfl (hb hby d3_52) rfl rfl ?_
    refine st_40 _ ?_
    exact Steps.refl _
  have E_44 : Exa Z h_36 x "java/lang/String" := (E_34.wr W_39)
  have F_45 : Fld Z h_36 x "java/lang/String" "coder" "B" (.int (0 : Int32)) := (F_32.other W_39 (Or.inr (slot_ne (Or.inr (w26 hw)) (Or.inr (w25 hw)) (by decide) (t := .byte) (by decide) (t' := (.array .byte)) (by decide))))
  have V_46 : Arv Z h_36 a_10 k_11 .byte nn (own_iv (own_bs cs)) (.int (0 : Int32)) := ((g_15.other W_29 (Ne.symm (Nat.ne_of_lt (Nat.lt_of_lt_of_le hp0.lt (Nat.le_trans (Nat.le_refl _) g_14))))).other W_39 (Ne.symm (Nat.ne_of_lt (Nat.lt_of_lt_of_le hp0.lt (Nat.le_trans (Nat.le_refl _) g_14)))))
  have K_47 : Keep h0 h_36 [x] := ((((Keep.refl _ _).trans K_13 all0).wr W_29 (Or.inl (List.mem_of_getElem? (i := 0) rfl))).wr W_39 (Or.inl (List.mem_of_getElem? (i := 0) rfl)))
  obtain ⟨fs, hr, hrun, hended, hW, hsame⟩ := X_37.leave (v := none) (fun _ => rfl)
  refine ⟨_, _, C_43.trans (X_37.returnOut hx Bd.returns (hb hby d3_57) hr), hrun, hended, _, _, rfl, ?_, ⟨_, rfl⟩, hW, hsame.mono (by decide) (by decide)⟩
  show Q_si4s Z G1 G3 x b k nn cs h0 n0 (none) T_35.heap _
  rw [e_38]
  exact ⟨a_10, k_11, rfl, N_41, K_47, E_44, F_45, F_42, (Nat.le_trans (Nat.le_refl _) g_14), V_46⟩
abbrev M99 : MethodName := ⟨"java/lang/String", "<init>", "([C)V"⟩
theorem ef_100 (m : MethodId) (x0 : Addr) (x1 : Addr) : entryFrame m #[(.ref x0), (.ref x1)] 2 = mkF m 0 #[.val (.ref x0), .val (.ref x1)] [] := by first | (simp [entryFrame, mkF, argsToLocals, Value.category]; done) | rfl
theorem d4_0 : decode jdk_42_method_3_code 0 = .ok (.aload_n 0, 1) := by decide +kernel
theorem d4_1 : decode jdk_42_method_3_code 1 = .ok (.aload_n 1, 1) := by decide +kernel
theorem d4_2 : decode jdk_42_method_3_code 2 = .ok (.iconst 0, 1) := by decide +kernel
theorem d4_3 : decode jdk_42_method_3_code 3 = .ok (.aload_n 1, 1) := by decide +kernel
theorem d4_4 : decode jdk_42_method_3_code 4 = .ok (.arraylength, 1) := by decide +kernel
theorem d4_5 : decode jdk_42_method_3_code 5 = .ok (.aconst_null, 1) := by decide +kernel
theorem w19 {Z : State} {a0 : Array Value} (hw : ∀ d ∈ tables_1, d.before a0 Z = true) : Jvm.Cond.before (Jvm.Cond.code ({ cls := "java/lang/String", name := "<init>", desc := "([CIILjava/lang/Void;)V" } : Jvm.MethodName) jdk_42_method_149_code (6 : Nat) (Option.none : Option Jvm.ClassFile.FieldType)) a0 Z = true := hw _ (List.mem_of_getElem? (i := 19) rfl)
theorem w12 {Z : State} {a0 : Array Value} (hw : ∀ d ∈ tables_1, d.before a0 Z = true) : Jvm.Cond.before (Jvm.Cond.initialized "java/lang/String") a0 Z = true := hw _ (List.mem_of_getElem? (i := 12) rfl)
theorem pd_109 : parseMethodDescriptor "([CIILjava/lang/Void;)V" = some ⟨[(.array .char), .int, .int, (.object "java/lang/Void")], none⟩ := by decide +kernel
theorem d4_6 : decode jdk_42_method_3_code 6 = .ok (.invokespecial 27, 3) := by decide +kernel
theorem w16 {Z : State} {a0 : Array Value} (hw : ∀ d ∈ tables_1, d.before a0 Z = true) : Jvm.Cond.before (Jvm.Cond.methodLink "java/lang/String" (27 : Nat) ({ cls := "java/lang/String", name := "<init>", desc := "([CIILjava/lang/Void;)V" } : Jvm.MethodName)) a0 Z = true := hw _ (List.mem_of_getElem? (i := 16) rfl)
theorem w17 {Z : State} {a0 : Array Value} (hw : ∀ d ∈ tables_1, d.before a0 Z = true) : Jvm.Cond.before (Jvm.Cond.instanceMethod ({ cls := "java/lang/String", name := "<init>", desc := "([CIILjava/lang/Void;)V" } : Jvm.MethodName)) a0 Z = true := hw _ (List.mem_of_getElem? (i := 17) rfl)
theorem d4_9 : decode jdk_42_method_3_code 9 = .ok (.return_, 1) := by decide +kernel
abbrev R_si1s : Room := { frames := 3, cells := 1, slots := 16, locals := 52 }
def Q_si1s (Z : State) (G1 : Int32) (G3 : Value) (x : Addr) (b : Addr) (k : ClassId) (nn : Int32) (cs : List Int32) (h0 : Heap) (n0 : Nat) (v : Option Value) (h : Heap) (L : List Loc) : Prop := (∃ t : Addr, ∃ kt : ClassId, v = none ∧ Fr n0 L ∧ Keep h0 h [x] ∧ (Exa Z h x "java/lang/String") ∧ (Fld Z h x "java/lang/String" "coder" "B" (.int (0 : Int32))) ∧ (Fld Z h x "java/lang/String" "value" "[B" (.ref t)) ∧ (h0.size ≤ t) ∧ (Arv Z h t kt .byte nn (own_iv (own_bs cs)) (.int (0 : Int32))))
set_option maxRecDepth 65536 in
set_option maxHeartbeats 40000000 in
theorem rm_si1s (l : Launch) (Z : State) (a0 : Array Value) (hw : ∀ d ∈ tables_1, d.before a0 Z = true) (ws : List Jvm.Cond) (G1 : Int32) (G3 : Value) (HG : own_G l Z a0 G1 G3) (h0 : Heap) (n0 : Nat) (X00 : Old Z n0 h0) (x : Addr) (b : Addr) (k : ClassId) (nn : Int32) (cs : List Int32) (hp0 : Exa Z h0 x "java/lang/String") (hp1 : Fld Z h0 x "java/lang/String" "value" "[B" .null) (hp2 : Fld Z h0 x "java/lang/String" "coder" "B" (.int (0 : Int32))) (hp3 : n0 ≤ x) (hp4 : Arv Z h0 b k .char nn (own_iv cs) (.int (0 : Int32))) (hn0 : ¬ (nn < (0 : Int32))) (hnz : ¬ (nn = (0 : Int32))) (hcap : nn.toNatClampNeg ≤ 16) (hl1 : cs.length = nn.toNatClampNeg) (hla : own_lat cs) :
    own_CP l Z M99 jdk_42_method_3_code 2 none ws R_si1s #[(.ref x), (.ref b)] h0 (Q_si1s Z G1 G3 x b k nn cs h0 n0) := by
  refine own_P (plainFor_of_name pn_61) ?_
  intro p e s m below meth c s₁ S0 Bd hZ hh hx hby hml hown hnm X0 e0 hS0d
  obtain ⟨O1, P1, O3f, rG3⟩ := id HG
  have N0 := Fr.nil n0
  have C0 : Steps p.tables e below S0 (s₁.setTop (mkF m 0 #[.val (.ref x), .val (.ref b)] [])) := by rw [hS0d]; exact castTop (ef_100 m x b) (Steps.refl _)
  obtain ⟨c_1, A_2, q_3, S_4, M_5, H_6, U_7⟩ := id hp4
  obtain ⟨_, _, ⟨T_8, L_8, k_8, n_8⟩, -, X_8, ⟨Lc_8, hQ_8, l_8, y_8, z_8⟩, st_8⟩ := X0.specialBack hx (y := M59) rfl hown (mvT hZ (w16 hw)) (mvT hZ (w17 hw)) (mvT hZ (w19 hw)) (by decide) (backOf (W := 0) (rm_si4s l Z a0 hw [] G1 G3 HG h0 n0 X00 x b k nn cs hp0 hp1 hp2 hp3 hp4 hn0 hnz hcap hl1 hla) hZ (w19 hw) (w12 hw) (by decide) (by decide)) (g := (mkF m 6 #[.val (.ref x), .val (.ref b)] [.null, (.int nn), (.int (0 : Int32)), (.ref b), (.ref x)])) rfl (by rw [hml]; rfl) (Steps.refl _) (a := x) (argsL := [(.ref b), (.int (0 : Int32)), (.int nn), .null]) (rest := []) (lenOf pd_109 rfl) rfl (by show 2 * 0 + _ ≤ _; exact Nat.le_of_eq rfl) (hb hby d4_6) (fun _ _ => ⟨rfl, e0, (by decide : 0 + 1 ≤ _), (by decide : 0 + 16 ≤ _)⟩)
  dsimp only [Pt.U, Pt.locs, Pt.cells, Pt.slots] at X_8 l_8 y_8 z_8 st_8 hQ_8
  have X_8 := own_cast X_8 l_8 y_8 z_8
  obtain ⟨a_9, k_10, rfl, N_11, K_12, g_13, g_14, g_15, g_16, g_17⟩ := hQ_8
  have N_18 := Fr.app N0 N_11
  have C_19 : Steps p.tables e below S0 (T_8.setTop (mkF m 9 #[.val (.ref x), .val (.ref b)] [])) := by
    refine C0.trans ?_
    refine XS.aloadN X0.here hx rfl (hb hby d4_0) rfl rfl ?_
    refine XS.aloadN X0.here hx rfl (hb hby d4_1) rfl rfl ?_
    refine XS.iconst X0.here hx rfl (hb hby d4_2) ?_
    refine XS.aloadN X0.here hx rfl (hb hby d4_3) rfl rfl ?_
    refine X0.arraylength hx (by rw [e0]; exact A_2.1) (State.isArrayOf_alike hZ.alike A_2.2.1) (g := (mkF m 4 #[.val (.ref x), .val (.ref b)] [(.ref b), (.int (0 : Int32)), (.ref b), (.ref x)])) rfl rfl (hb hby d4_4) _ ?_
    rw [len_of S_4 M_5]
    refine XS.aconstNull X0.here hx rfl (hb hby d4_5) ?_
    refine st_8.trans ?_
    exact Steps.refl _
  have K_20 : Keep h0 T_8.heap [x] := ((Keep.refl _ _).trans K_12 (allS (Or.inl (List.mem_of_getElem? (i := 0) rfl)) all0))
  obtain ⟨fs, hr, hrun, hended, hW, hsame⟩ := X_8.leave (v := none) (fun _ => rfl)
  refine ⟨_, _, C_19.trans (X_8.returnOut hx Bd.returns (hb hby d4_9) hr), hrun, hended, _, _, rfl, ?_, ⟨_, rfl⟩, hW, hsame.mono (by decide) (by decide)⟩
  show Q_si1s Z G1 G3 x b k nn cs h0 n0 (none) T_8.heap _
  exact ⟨a_9, k_10, rfl, N_18, K_20, g_13, g_14, g_15, (Nat.le_trans (Nat.le_refl _) g_16), g_17⟩
abbrev M114 : MethodName := ⟨"java/lang/String", "coder", "()B"⟩
theorem ef_115 (m : MethodId) (x0 : Addr) : entryFrame m #[(.ref x0)] 1 = mkF m 0 #[.val (.ref x0)] [] := by first | (simp [entryFrame, mkF, argsToLocals, Value.category]; done) | rfl
theorem d5_0 : decode jdk_42_method_152_code 0 = .ok (.getstatic 38, 3) := by decide +kernel
theorem d5_3 : decode jdk_42_method_152_code 3 = .ok (.ifCond .eq 10, 3) := by decide +kernel
theorem d5_6 : decode jdk_42_method_152_code 6 = .ok (.aload_n 0, 1) := by decide +kernel
theorem d5_7 : decode jdk_42_method_152_code 7 = .ok (.getfield 15, 3) := by decide +kernel
theorem d5_10 : decode jdk_42_method_152_code 10 = .ok (.goto 4, 3) := by decide +kernel
theorem d5_14 : decode jdk_42_method_152_code 14 = .ok (.ireturn, 1) := by decide +kernel
abbrev R_coder : Room := { frames := 0, cells := 0, slots := 0, locals := 0 }
def Q_coder (Z : State) (G1 : Int32) (G3 : Value) (x : Addr) (h0 : Heap) (n0 : Nat) (v : Option Value) (h : Heap) (L : List Loc) : Prop := (v = some (.int (0 : Int32)) ∧ Fr n0 L ∧ h = h0)
set_option maxRecDepth 65536 in
set_option maxHeartbeats 40000000 in
theorem rm_coder (l : Launch) (Z : State) (a0 : Array Value) (hw : ∀ d ∈ tables_1, d.before a0 Z = true) (ws : List Jvm.Cond) (G1 : Int32) (G3 : Value) (HG : own_G l Z a0 G1 G3) (h0 : Heap) (n0 : Nat) (X00 : Old Z n0 h0) (x : Addr) (hp0 : Fld Z h0 x "java/lang/String" "coder" "B" (.int (0 : Int32))) :
    own_CP l Z M114 jdk_42_method_152_code 1 (some .byte) ws R_coder #[(.ref x)] h0 (Q_coder Z G1 G3 x h0 n0) := by
  refine own_P (plainFor_of_name pn_61) ?_
  intro p e s m below meth c s₁ S0 Bd hZ hh hx hby hml hown hnm X0 e0 hS0d
  obtain ⟨O1, P1, O3f, rG3⟩ := id HG
  have N0 := Fr.nil n0
  have C0 : Steps p.tables e below S0 (s₁.setTop (mkF m 0 #[.val (.ref x)] [])) := by rw [hS0d]; exact castTop (ef_115 m x) (Steps.refl _)
  obtain ⟨T_1, X_2, e_3, st_4⟩ := getS X0 hx hZ (host := "") hown (w54 hw) Via.refl e0 (O1.ext X00.2) (g := (mkF m 0 #[.val (.ref x)] [])) rfl (hb hby d5_0)
  obtain ⟨T_5, X_6, e_7, st_8⟩ := getF X_2 hx hZ hown (host := "") (Or.inl (w30 hw)) Via.refl e_3 hp0 (g := (mkF m 7 #[.val (.ref x)] [(.ref x)])) rfl rfl (hb hby d5_7)
  have C_9 : Steps p.tables e below S0 (T_5.setTop (mkF m 14 #[.val (.ref x)] [(.int (0 : Int32))])) := by
    refine C0.trans ?_
    refine st_4 _ ?_
    refine XS.ifNo X_2.here hx rfl (hb hby d5_3) rfl (i0_eq_f P1) ?_
    refine XS.aloadN X_2.here hx rfl (hb hby d5_6) rfl rfl ?_
    refine st_8 _ ?_
    refine XS.goto X_6.here hx rfl (pc0 := 10) (pc' := 14) rfl (hb hby d5_10) (by decide) (by decide) ?_
    exact Steps.refl _
  obtain ⟨fs, hr, hrun, hended, hW, hsame⟩ := X_6.leave (v := some (.int (0 : Int32))) (fun h => by rw [Bd.returns] at h; cases h)
  refine ⟨_, _, C_9.trans (retN X_6 hx (t := .byte) Bd.returns (by simp) (hb hby d5_14) hr), hrun, hended, _, _, rfl, ?_, ⟨_, rfl⟩, hW, hsame.mono (by decide) (by decide)⟩
  show Q_coder Z G1 G3 x h0 n0 (some (.int (0 : Int32))) T_5.heap _
  rw [e_7]
  exact ⟨rfl, N0, rfl⟩
abbrev M122 : MethodName := ⟨"java/lang/String", "isLatin1", "()Z"⟩
theorem d6_0 : decode jdk_42_method_154_code 0 = .ok (.getstatic 38, 3) := by decide +kernel
theorem d6_3 : decode jdk_42_method_154_code 3 = .ok (.ifCond .eq 14, 3) := by decide +kernel
theorem d6_6 : decode jdk_42_method_154_code 6 = .ok (.aload_n 0, 1) := by decide +kernel
theorem d6_7 : decode jdk_42_method_154_code 7 = .ok (.getfield 15, 3) := by decide +kernel
theorem d6_10 : decode jdk_42_method_154_code 10 = .ok (.ifCond .ne 7, 3) := by decide +kernel
theorem d6_13 : decode jdk_42_method_154_code 13 = .ok (.iconst 1, 1) := by decide +kernel
theorem d6_14 : decode jdk_42_method_154_code 14 = .ok (.goto 4, 3) := by decide +kernel
theorem d6_18 : decode jdk_42_method_154_code 18 = .ok (.ireturn, 1) := by decide +kernel
abbrev R_islat : Room := { frames := 0, cells := 0, slots := 0, locals := 0 }
def Q_islat (Z : State) (G1 : Int32) (G3 : Value) (x : Addr) (h0 : Heap) (n0 : Nat) (v : Option Value) (h : Heap) (L : List Loc) : Prop := (v = some (.int (1 : Int32)) ∧ Fr n0 L ∧ h = h0)
set_option maxRecDepth 65536 in
set_option maxHeartbeats 40000000 in
theorem rm_islat (l : Launch) (Z : State) (a0 : Array Value) (hw : ∀ d ∈ tables_1, d.before a0 Z = true) (ws : List Jvm.Cond) (G1 : Int32) (G3 : Value) (HG : own_G l Z a0 G1 G3) (h0 : Heap) (n0 : Nat) (X00 : Old Z n0 h0) (x : Addr) (hp0 : Fld Z h0 x "java/lang/String" "coder" "B" (.int (0 : Int32))) :
    own_CP l Z M122 jdk_42_method_154_code 1 (some .boolean) ws R_islat #[(.ref x)] h0 (Q_islat Z G1 G3 x h0 n0) := by
  refine own_P (plainFor_of_name pn_61) ?_
  intro p e s m below meth c s₁ S0 Bd hZ hh hx hby hml hown hnm X0 e0 hS0d
  obtain ⟨O1, P1, O3f, rG3⟩ := id HG
  have N0 := Fr.nil n0
  have C0 : Steps p.tables e below S0 (s₁.setTop (mkF m 0 #[.val (.ref x)] [])) := by rw [hS0d]; exact castTop (ef_115 m x) (Steps.refl _)
  obtain ⟨T_1, X_2, e_3, st_4⟩ := getS X0 hx hZ (host := "") hown (w54 hw) Via.refl e0 (O1.ext X00.2) (g := (mkF m 0 #[.val (.ref x)] [])) rfl (hb hby d6_0)
  obtain ⟨T_5, X_6, e_7, st_8⟩ := getF X_2 hx hZ hown (host := "") (Or.inl (w30 hw)) Via.refl e_3 hp0 (g := (mkF m 7 #[.val (.ref x)] [(.ref x)])) rfl rfl (hb hby d6_7)
  have C_9 : Steps p.tables e below S0 (T_5.setTop (mkF m 18 #[.val (.ref x)] [(.int (1 : Int32))])) := by
    refine C0.trans ?_
    refine st_4 _ ?_
    refine XS.ifNo X_2.here hx rfl (hb hby d6_3) rfl (i0_eq_f P1) ?_
    refine XS.aloadN X_2.here hx rfl (hb hby d6_6) rfl rfl ?_
    refine st_8 _ ?_
    refine XS.ifNo X_6.here hx rfl (hb hby d6_10) rfl (by decide) ?_
    refine XS.iconst X_6.here hx rfl (hb hby d6_13) ?_
    refine XS.goto X_6.here hx rfl (pc0 := 14) (pc' := 18) rfl (hb hby d6_14) (by decide) (by decide) ?_
    exact Steps.refl _
  obtain ⟨fs, hr, hrun, hended, hW, hsame⟩ := X_6.leave (v := some (.int (1 : Int32))) (fun h => by rw [Bd.returns] at h; cases h)
  refine ⟨_, _, C_9.trans (retN X_6 hx (t := .boolean) Bd.returns (by simp) (hb hby d6_18) hr), hrun, hended, _, _, rfl, ?_, ⟨_, rfl⟩, hW, hsame.mono (by decide) (by decide)⟩
  show Q_islat Z G1 G3 x h0 n0 (some (.int (1 : Int32))) T_5.heap _
  rw [e_7]
  exact ⟨rfl, N0, rfl⟩
abbrev M131 : MethodName := ⟨"java/lang/String", "length", "()I"⟩
theorem d7_0 : decode jdk_42_method_54_code 0 = .ok (.aload_n 0, 1) := by decide +kernel
theorem d7_1 : decode jdk_42_method_54_code 1 = .ok (.getfield 9, 3) := by decide +kernel
theorem d7_4 : decode jdk_42_method_54_code 4 = .ok (.arraylength, 1) := by decide +kernel
theorem d7_5 : decode jdk_42_method_54_code 5 = .ok (.aload_n 0, 1) := by decide +kernel
theorem w53 {Z : State} {a0 : Array Value} (hw : ∀ d ∈ tables_1, d.before a0 Z = true) : Jvm.Cond.before (Jvm.Cond.code ({ cls := "java/lang/String", name := "coder", desc := "()B" } : Jvm.MethodName) jdk_42_method_152_code (1 : Nat) (Option.some Jvm.ClassFile.FieldType.byte)) a0 Z = true := hw _ (List.mem_of_getElem? (i := 53) rfl)
theorem pd_137 : parseMethodDescriptor "()B" = some ⟨[], some .byte⟩ := by decide +kernel
theorem d7_6 : decode jdk_42_method_54_code 6 = .ok (.invokevirtual 335, 3) := by decide +kernel
theorem w49 {Z : State} {a0 : Array Value} (hw : ∀ d ∈ tables_1, d.before a0 Z = true) : Jvm.Cond.before (Jvm.Cond.methodLink "java/lang/String" (335 : Nat) ({ cls := "java/lang/String", name := "coder", desc := "()B" } : Jvm.MethodName)) a0 Z = true := hw _ (List.mem_of_getElem? (i := 49) rfl)
theorem w52 {Z : State} {a0 : Array Value} (hw : ∀ d ∈ tables_1, d.before a0 Z = true) : Jvm.Cond.before (Jvm.Cond.selects "java/lang/String" ({ cls := "java/lang/String", name := "coder", desc := "()B" } : Jvm.MethodName) ({ cls := "java/lang/String", name := "coder", desc := "()B" } : Jvm.MethodName)) a0 Z = true := hw _ (List.mem_of_getElem? (i := 52) rfl)
theorem w51 {Z : State} {a0 : Array Value} (hw : ∀ d ∈ tables_1, d.before a0 Z = true) : Jvm.Cond.before (Jvm.Cond.instanceMethod ({ cls := "java/lang/String", name := "coder", desc := "()B" } : Jvm.MethodName)) a0 Z = true := hw _ (List.mem_of_getElem? (i := 51) rfl)
theorem w50 {Z : State} {a0 : Array Value} (hw : ∀ d ∈ tables_1, d.before a0 Z = true) : Jvm.Cond.before (Jvm.Cond.declares ({ cls := "java/lang/String", name := "coder", desc := "()B" } : Jvm.MethodName)) a0 Z = true := hw _ (List.mem_of_getElem? (i := 50) rfl)
theorem d7_9 : decode jdk_42_method_54_code 9 = .ok (.ishr, 1) := by decide +kernel
theorem d7_10 : decode jdk_42_method_54_code 10 = .ok (.ireturn, 1) := by decide +kernel
abbrev R_lens : Room := { frames := 1, cells := 0, slots := 0, locals := 13 }
def Q_lens (Z : State) (G1 : Int32) (G3 : Value) (x : Addr) (t : Addr) (kt : ClassId) (nn : Int32) (bs : List Value) (h0 : Heap) (n0 : Nat) (v : Option Value) (h : Heap) (L : List Loc) : Prop := (v = some (.int nn) ∧ Fr n0 L ∧ h = h0)
set_option maxRecDepth 65536 in
set_option maxHeartbeats 40000000 in
theorem rm_lens (l : Launch) (Z : State) (a0 : Array Value) (hw : ∀ d ∈ tables_1, d.before a0 Z = true) (ws : List Jvm.Cond) (G1 : Int32) (G3 : Value) (HG : own_G l Z a0 G1 G3) (h0 : Heap) (n0 : Nat) (X00 : Old Z n0 h0) (x : Addr) (t : Addr) (kt : ClassId) (nn : Int32) (bs : List Value) (hp0 : Exa Z h0 x "java/lang/String") (hp1 : Fld Z h0 x "java/lang/String" "coder" "B" (.int (0 : Int32))) (hp2 : Fld Z h0 x "java/lang/String" "value" "[B" (.ref t)) (hp3 : Arv Z h0 t kt .byte nn bs (.int (0 : Int32))) :
    own_CP l Z M131 jdk_42_method_54_code 1 (some .int) ws R_lens #[(.ref x)] h0 (Q_lens Z G1 G3 x t kt nn bs h0 n0) := by
  refine own_P (plainFor_of_name pn_61) ?_
  intro p e s m below meth c s₁ S0 Bd hZ hh hx hby hml hown hnm X0 e0 hS0d
  obtain ⟨O1, P1, O3f, rG3⟩ := id HG
  have N0 := Fr.nil n0
  have C0 : Steps p.tables e below S0 (s₁.setTop (mkF m 0 #[.val (.ref x)] [])) := by rw [hS0d]; exact castTop (ef_115 m x) (Steps.refl _)
  obtain ⟨T_1, X_2, e_3, st_4⟩ := getF X0 hx hZ hown (host := "") (Or.inl (w29 hw)) Via.refl e0 hp2 (g := (mkF m 1 #[.val (.ref x)] [(.ref x)])) rfl rfl (hb hby d7_1)
  obtain ⟨c_5, A_6, q_7, S_8, M_9, H_10, U_11⟩ := id hp3
  obtain ⟨q_13, q_14, q_15, q_16, q_17⟩ := isOf (T := T_1) hZ e_3 hp0
  obtain ⟨_, _, ⟨T_12, L_12, k_12, n_12⟩, -, X_12, ⟨Lc_12, hQ_12, l_12, y_12, z_12⟩, st_12⟩ := X_2.virtualBack hx (y := M114) (z := M114) hown (mvT hZ (w49 hw)) (mvT hZ (w50 hw)) (notFace_of_selects (args := #[]) (mvT hZ (w52 hw))) (mvT hZ (w52 hw)) (mvT hZ (w51 hw)) (by decide) (backOf (W := 1) (rm_coder l Z a0 hw [] G1 G3 HG h0 n0 X00 x hp1) hZ (w53 hw) (w12 hw) (by decide) (by decide)) q_15 q_17 (g := (mkF m 6 #[.val (.ref x)] [(.ref x), (.int nn)])) rfl (by rw [hml]; rfl) (Steps.refl _) (argsL := []) (rest := [(.int nn)]) (lenOf pd_137 rfl) rfl (by show 2 * 0 + _ ≤ _; exact Nat.le_of_eq rfl) (hb hby d7_6) (fun _ _ => ⟨rfl, e_3, (by decide : 0 + 0 ≤ _), (by decide : 0 + 0 ≤ _)⟩)
  dsimp only [Pt.U, Pt.locs, Pt.cells, Pt.slots] at X_12 l_12 y_12 z_12 st_12 hQ_12
  have X_12 := own_cast X_12 l_12 y_12 z_12
  obtain ⟨rfl, N_18, e_19⟩ := hQ_12
  have N_20 := Fr.app N0 N_18
  have e_21 : T_12.heap = h0 := e_19
  have C_22 : Steps p.tables e below S0 (T_12.setTop (mkF m 10 #[.val (.ref x)] [(.int (nn >>> ((0 : Int32) &&& 31)))])) := by
    refine C0.trans ?_
    refine XS.aloadN X0.here hx rfl (hb hby d7_0) rfl rfl ?_
    refine st_4 _ ?_
    refine X_2.arraylength hx (by rw [e_3]; exact A_6.1) (State.isArrayOf_alike hZ.alike A_6.2.1) (g := (mkF m 4 #[.val (.ref x)] [(.ref t)])) rfl rfl (hb hby d7_4) _ ?_
    rw [len_of S_8 M_9]
    refine XS.aloadN X_2.here hx rfl (hb hby d7_5) rfl rfl ?_
    refine st_12.trans ?_
    refine XS.ishr X_12.here hx rfl (hb hby d7_9) rfl ?_
    exact Steps.refl _
  obtain ⟨fs, hr, hrun, hended, hW, hsame⟩ := X_12.leave (v := some (.int (nn >>> ((0 : Int32) &&& 31)))) (fun h => by rw [Bd.returns] at h; cases h)
  refine ⟨_, _, C_22.trans (retOut X_12 hx Bd.returns rfl (Or.inl ⟨rfl, Or.inl rfl, _, rfl⟩) (hb hby d7_10) hr), hrun, hended, _, _, rfl, ?_, ⟨_, rfl⟩, hW, hsame.mono (by decide) (by decide)⟩
  show Q_lens Z G1 G3 x t kt nn bs h0 n0 (some (.int (nn >>> ((0 : Int32) &&& 31)))) T_12.heap _
  rw [e_21]
  exact ⟨(congrArg (fun q => some (Value.int q)) (own_shr0 nn)), N_20, rfl⟩
abbrev M145 : MethodName := ⟨"jdk/internal/util/Preconditions", "checkIndex", "(IILjava/util/function/BiFunction;)I"⟩
theorem ef_146 (m : MethodId) (x0 : Int32) (x1 : Int32) (x2 : Value) (r2 : x2.isRef = true) : entryFrame m #[(.int x0), (.int x1), x2] 3 = mkF m 0 #[.val (.int x0), .val (.int x1), .val x2] [] := by rcases ref_cases r2 with rfl | ⟨q2, rfl⟩ <;> first | (simp [entryFrame, mkF, argsToLocals, Value.category]; done) | rfl
theorem pn_147 : plainName "jdk/internal/util/Preconditions" = true := by first | (simp [plainName, overriddenIn]; done) | decide +kernel
theorem d8_0 : decode jdk_41_method_11_code 0 = .ok (.iload_n 0, 1) := by decide +kernel
theorem d8_1 : decode jdk_41_method_11_code 1 = .ok (.ifCond .lt 8, 3) := by decide +kernel
theorem d8_4 : decode jdk_41_method_11_code 4 = .ok (.iload_n 0, 1) := by decide +kernel
theorem d8_5 : decode jdk_41_method_11_code 5 = .ok (.iload_n 1, 1) := by decide +kernel
theorem d8_6 : decode jdk_41_method_11_code 6 = .ok (.if_icmp .lt 10, 3) := by decide +kernel
theorem d8_16 : decode jdk_41_method_11_code 16 = .ok (.iload_n 0, 1) := by decide +kernel
theorem d8_17 : decode jdk_41_method_11_code 17 = .ok (.ireturn, 1) := by decide +kernel
abbrev R_pchk : Room := { frames := 0, cells := 0, slots := 0, locals := 0 }
def Q_pchk (Z : State) (G1 : Int32) (G3 : Value) (i : Int32) (n : Int32) (h0 : Heap) (n0 : Nat) (v : Option Value) (h : Heap) (L : List Loc) : Prop := (v = some (.int i) ∧ Fr n0 L ∧ h = h0)
set_option maxRecDepth 65536 in
set_option maxHeartbeats 40000000 in
theorem rm_pchk (l : Launch) (Z : State) (a0 : Array Value) (hw : ∀ d ∈ tables_1, d.before a0 Z = true) (ws : List Jvm.Cond) (G1 : Int32) (G3 : Value) (HG : own_G l Z a0 G1 G3) (h0 : Heap) (n0 : Nat) (X00 : Old Z n0 h0) (i : Int32) (n : Int32) (h1 : ¬ (i < (0 : Int32))) (h2 : i < n) :
    own_CP l Z M145 jdk_41_method_11_code 3 (some .int) ws R_pchk #[(.int i), (.int n), G3] h0 (Q_pchk Z G1 G3 i n h0 n0) := by
  refine own_P (plainFor_of_name pn_147) ?_
  intro p e s m below meth c s₁ S0 Bd hZ hh hx hby hml hown hnm X0 e0 hS0d
  obtain ⟨O1, P1, O3f, rG3⟩ := id HG
  have N0 := Fr.nil n0
  have C0 : Steps p.tables e below S0 (s₁.setTop (mkF m 0 #[.val (.int i), .val (.int n), .val G3] [])) := by rw [hS0d]; exact castTop (ef_146 m i n G3 rG3) (Steps.refl _)
  have C_1 : Steps p.tables e below S0 (s₁.setTop (mkF m 17 #[.val (.int i), .val (.int n), .val G3] [(.int i)])) := by
    refine C0.trans ?_
    refine XS.iloadN X0.here hx rfl (hb hby d8_0) rfl ?_
    refine XS.ifNo X0.here hx rfl (hb hby d8_1) rfl (i0_lt_f h1) ?_
    refine XS.iloadN X0.here hx rfl (hb hby d8_4) rfl ?_
    refine XS.iloadN X0.here hx rfl (hb hby d8_5) rfl ?_
    refine XS.icmpYes X0.here hx rfl (pc0 := 6) (pc' := 16) rfl (hb hby d8_6) rfl (ii_lt_t h2) (by decide) (by decide) ?_
    refine XS.iloadN X0.here hx rfl (hb hby d8_16) rfl ?_
    exact Steps.refl _
  obtain ⟨fs, hr, hrun, hended, hW, hsame⟩ := X0.leave (v := some (.int i)) (fun h => by rw [Bd.returns] at h; cases h)
  refine ⟨_, _, C_1.trans (retOut X0 hx Bd.returns rfl (Or.inl ⟨rfl, Or.inl rfl, _, rfl⟩) (hb hby d8_17) hr), hrun, hended, _, _, rfl, ?_, ⟨_, rfl⟩, hW, hsame.mono (by decide) (by decide)⟩
  show Q_pchk Z G1 G3 i n h0 n0 (some (.int i)) s₁.heap _
  rw [e0]
  exact ⟨rfl, N0, rfl⟩
abbrev M155 : MethodName := ⟨"java/lang/String", "checkIndex", "(II)V"⟩
theorem ef_156 (m : MethodId) (x0 : Int32) (x1 : Int32) : entryFrame m #[(.int x0), (.int x1)] 2 = mkF m 0 #[.val (.int x0), .val (.int x1)] [] := by first | (simp [entryFrame, mkF, argsToLocals, Value.category]; done) | rfl
theorem d9_0 : decode jdk_42_method_155_code 0 = .ok (.iload_n 0, 1) := by decide +kernel
theorem d9_1 : decode jdk_42_method_155_code 1 = .ok (.iload_n 1, 1) := by decide +kernel
theorem w85 {Z : State} {a0 : Array Value} (hw : ∀ d ∈ tables_1, d.before a0 Z = true) : Jvm.Cond.before (Jvm.Cond.fieldLink "java/lang/String" (1053 : Nat) "jdk/internal/util/Preconditions" "SIOOBE_FORMATTER" "Ljava/util/function/BiFunction;") a0 Z = true := hw _ (List.mem_of_getElem? (i := 85) rfl)
theorem d9_2 : decode jdk_42_method_155_code 2 = .ok (.getstatic 1053, 3) := by decide +kernel
theorem w89 {Z : State} {a0 : Array Value} (hw : ∀ d ∈ tables_1, d.before a0 Z = true) : Jvm.Cond.before (Jvm.Cond.code ({ cls := "jdk/internal/util/Preconditions", name := "checkIndex", desc := "(IILjava/util/function/BiFunction;)I" } : Jvm.MethodName) jdk_41_method_11_code (3 : Nat) (Option.some Jvm.ClassFile.FieldType.int)) a0 Z = true := hw _ (List.mem_of_getElem? (i := 89) rfl)
theorem w86 {Z : State} {a0 : Array Value} (hw : ∀ d ∈ tables_1, d.before a0 Z = true) : Jvm.Cond.before (Jvm.Cond.initialized "jdk/internal/util/Preconditions") a0 Z = true := hw _ (List.mem_of_getElem? (i := 86) rfl)
theorem pd_163 : parseMethodDescriptor "(IILjava/util/function/BiFunction;)I" = some ⟨[.int, .int, (.object "java/util/function/BiFunction")], some .int⟩ := by decide +kernel
theorem d9_5 : decode jdk_42_method_155_code 5 = .ok (.invokestatic 1059, 3) := by decide +kernel
theorem w87 {Z : State} {a0 : Array Value} (hw : ∀ d ∈ tables_1, d.before a0 Z = true) : Jvm.Cond.before (Jvm.Cond.methodLink "java/lang/String" (1059 : Nat) ({ cls := "jdk/internal/util/Preconditions", name := "checkIndex", desc := "(IILjava/util/function/BiFunction;)I" } : Jvm.MethodName)) a0 Z = true := hw _ (List.mem_of_getElem? (i := 87) rfl)
theorem w88 {Z : State} {a0 : Array Value} (hw : ∀ d ∈ tables_1, d.before a0 Z = true) : Jvm.Cond.before (Jvm.Cond.static ({ cls := "jdk/internal/util/Preconditions", name := "checkIndex", desc := "(IILjava/util/function/BiFunction;)I" } : Jvm.MethodName)) a0 Z = true := hw _ (List.mem_of_getElem? (i := 88) rfl)
theorem d9_8 : decode jdk_42_method_155_code 8 = .ok (.pop, 1) := by decide +kernel
theorem d9_9 : decode jdk_42_method_155_code 9 = .ok (.return_, 1) := by decide +kernel
abbrev R_schk : Room := { frames := 1, cells := 0, slots := 0, locals := 14 }
def Q_schk (Z : State) (G1 : Int32) (G3 : Value) (i : Int32) (n : Int32) (h0 : Heap) (n0 : Nat) (v : Option Value) (h : Heap) (L : List Loc) : Prop := (v = none ∧ Fr n0 L ∧ h = h0)
set_option maxRecDepth 65536 in
set_option maxHeartbeats 40000000 in
theorem rm_schk (l : Launch) (Z : State) (a0 : Array Value) (hw : ∀ d ∈ tables_1, d.before a0 Z = true) (ws : List Jvm.Cond) (G1 : Int32) (G3 : Value) (HG : own_G l Z a0 G1 G3) (h0 : Heap) (n0 : Nat) (X00 : Old Z n0 h0) (i : Int32) (n : Int32) (h1 : ¬ (i < (0 : Int32))) (h2 : i < n) :
    own_CP l Z M155 jdk_42_method_155_code 2 none ws R_schk #[(.int i), (.int n)] h0 (Q_schk Z G1 G3 i n h0 n0) := by
  refine own_P (plainFor_of_name pn_61) ?_
  intro p e s m below meth c s₁ S0 Bd hZ hh hx hby hml hown hnm X0 e0 hS0d
  obtain ⟨O1, P1, O3f, rG3⟩ := id HG
  have N0 := Fr.nil n0
  have C0 : Steps p.tables e below S0 (s₁.setTop (mkF m 0 #[.val (.int i), .val (.int n)] [])) := by rw [hS0d]; exact castTop (ef_156 m i n) (Steps.refl _)
  obtain ⟨T_1, X_2, e_3, st_4⟩ := getS X0 hx hZ (host := "") hown (w85 hw) Via.refl e0 (O3f.ext X00.2) (g := (mkF m 2 #[.val (.int i), .val (.int n)] [(.int n), (.int i)])) rfl (hb hby d9_2)
  obtain ⟨_, _, ⟨T_5, L_5, k_5, n_5⟩, -, X_5, ⟨Lc_5, hQ_5, l_5, y_5, z_5⟩, st_5⟩ := Jvm.LawKit.callS X_2 hx (y := M145) hown (mvT hZ (w87 hw)) (mvT hZ (w88 hw)) (mvT hZ (w86 hw)) (mvT hZ (w89 hw)) (by decide) (backOf (W := 0) (rm_pchk l Z a0 hw [] G1 G3 HG h0 n0 X00 i n h1 h2) hZ (w89 hw) (w86 hw) (by decide) (by decide)) (g := (mkF m 5 #[.val (.int i), .val (.int n)] [G3, (.int n), (.int i)])) rfl (by rw [hml]; rfl) (argsL := [(.int i), (.int n), G3]) (rest := []) (lenOf pd_163 rfl) rfl (by show 2 * 0 + _ ≤ _; exact Nat.le_of_eq rfl) (hb hby d9_5) (fun _ _ => ⟨rfl, e_3, (by decide : 0 + 0 ≤ _), (by decide : 0 + 0 ≤ _)⟩)
  dsimp only [Pt.U, Pt.locs, Pt.cells, Pt.slots] at X_5 l_5 y_5 z_5 st_5 hQ_5
  have X_5 := own_cast X_5 l_5 y_5 z_5
  obtain ⟨rfl, N_6, e_7⟩ := hQ_5
  have N_8 := Fr.app N0 N_6
  have e_9 : T_5.heap = h0 := e_7
  have C_10 : Steps p.tables e below S0 (T_5.setTop (mkF m 9 #[.val (.int i), .val (.int n)] [])) := by
    refine C0.trans ?_
    refine XS.iloadN X0.here hx rfl (hb hby d9_0) rfl ?_
    refine XS.iloadN X0.here hx rfl (hb hby d9_1) rfl ?_
    refine st_4 _ ?_
    refine st_5 _ ?_
    refine XS.pop X_5.here hx rfl (hb hby d9_8) rfl rfl ?_
    exact Steps.refl _
  obtain ⟨fs, hr, hrun, hended, hW, hsame⟩ := X_5.leave (v := none) (fun _ => rfl)
  refine ⟨_, _, C_10.trans (X_5.returnOut hx Bd.returns (hb hby d9_9) hr), hrun, hended, _, _, rfl, ?_, ⟨_, rfl⟩, hW, hsame.mono (by decide) (by decide)⟩
  show Q_schk Z G1 G3 i n h0 n0 (none) T_5.heap _
  rw [e_9]
  exact ⟨rfl, N_8, rfl⟩
abbrev M169 : MethodName := ⟨"java/lang/StringLatin1", "charAt", "([BI)C"⟩
theorem pn_170 : plainName "java/lang/StringLatin1" = true := by first | (simp [plainName, overriddenIn]; done) | decide +kernel
theorem d10_0 : decode jdk_43_method_2_code 0 = .ok (.iload_n 1, 1) := by decide +kernel
theorem d10_1 : decode jdk_43_method_2_code 1 = .ok (.aload_n 0, 1) := by decide +kernel
theorem d10_2 : decode jdk_43_method_2_code 2 = .ok (.arraylength, 1) := by decide +kernel
theorem w84 {Z : State} {a0 : Array Value} (hw : ∀ d ∈ tables_1, d.before a0 Z = true) : Jvm.Cond.before (Jvm.Cond.code ({ cls := "java/lang/String", name := "checkIndex", desc := "(II)V" } : Jvm.MethodName) jdk_42_method_155_code (2 : Nat) (Option.none : Option Jvm.ClassFile.FieldType)) a0 Z = true := hw _ (List.mem_of_getElem? (i := 84) rfl)
theorem pd_175 : parseMethodDescriptor "(II)V" = some ⟨[.int, .int], none⟩ := by decide +kernel
theorem d10_3 : decode jdk_43_method_2_code 3 = .ok (.invokestatic 9, 3) := by decide +kernel
theorem w82 {Z : State} {a0 : Array Value} (hw : ∀ d ∈ tables_1, d.before a0 Z = true) : Jvm.Cond.before (Jvm.Cond.methodLink "java/lang/StringLatin1" (9 : Nat) ({ cls := "java/lang/String", name := "checkIndex", desc := "(II)V" } : Jvm.MethodName)) a0 Z = true := hw _ (List.mem_of_getElem? (i := 82) rfl)
theorem w83 {Z : State} {a0 : Array Value} (hw : ∀ d ∈ tables_1, d.before a0 Z = true) : Jvm.Cond.before (Jvm.Cond.static ({ cls := "java/lang/String", name := "checkIndex", desc := "(II)V" } : Jvm.MethodName)) a0 Z = true := hw _ (List.mem_of_getElem? (i := 83) rfl)
theorem d10_6 : decode jdk_43_method_2_code 6 = .ok (.aload_n 0, 1) := by decide +kernel
theorem d10_7 : decode jdk_43_method_2_code 7 = .ok (.iload_n 1, 1) := by decide +kernel
theorem d10_8 : decode jdk_43_method_2_code 8 = .ok (.baload, 1) := by decide +kernel
theorem d10_9 : decode jdk_43_method_2_code 9 = .ok (.sipush 255, 3) := by decide +kernel
theorem d10_12 : decode jdk_43_method_2_code 12 = .ok (.iand, 1) := by decide +kernel
theorem d10_13 : decode jdk_43_method_2_code 13 = .ok (.i2c, 1) := by decide +kernel
theorem d10_14 : decode jdk_43_method_2_code 14 = .ok (.ireturn, 1) := by decide +kernel
abbrev R_lchs : Room := { frames := 2, cells := 0, slots := 0, locals := 27 }
def Q_lchs (Z : State) (G1 : Int32) (G3 : Value) (t : Addr) (kt : ClassId) (nn : Int32) (bs : List Int32) (ii : Int32) (h0 : Heap) (n0 : Nat) (v : Option Value) (h : Heap) (L : List Loc) : Prop := (v = some (.int (own_ch (own_gt bs ii))) ∧ Fr n0 L ∧ h = h0)
set_option maxRecDepth 65536 in
set_option maxHeartbeats 40000000 in
theorem rm_lchs (l : Launch) (Z : State) (a0 : Array Value) (hw : ∀ d ∈ tables_1, d.before a0 Z = true) (ws : List Jvm.Cond) (G1 : Int32) (G3 : Value) (HG : own_G l Z a0 G1 G3) (h0 : Heap) (n0 : Nat) (X00 : Old Z n0 h0) (t : Addr) (kt : ClassId) (nn : Int32) (bs : List Int32) (ii : Int32) (hp0 : Arv Z h0 t kt .byte nn (own_iv bs) (.int (0 : Int32))) (h1 : ¬ (ii < (0 : Int32))) (h2 : ii < nn) :
    own_CP l Z M169 jdk_43_method_2_code 2 (some .char) ws R_lchs #[(.ref t), (.int ii)] h0 (Q_lchs Z G1 G3 t kt nn bs ii h0 n0) := by
  refine own_P (plainFor_of_name pn_170) ?_
  intro p e s m below meth c s₁ S0 Bd hZ hh hx hby hml hown hnm X0 e0 hS0d
  obtain ⟨O1, P1, O3f, rG3⟩ := id HG
  have N0 := Fr.nil n0
  have C0 : Steps p.tables e below S0 (s₁.setTop (mkF m 0 #[.val (.ref t), .val (.int ii)] [])) := by rw [hS0d]; exact castTop (ef_50 m t ii) (Steps.refl _)
  obtain ⟨c_1, A_2, q_3, S_4, M_5, H_6, U_7⟩ := id hp0
  obtain ⟨_, _, ⟨T_8, L_8, k_8, n_8⟩, -, X_8, ⟨Lc_8, hQ_8, l_8, y_8, z_8⟩, st_8⟩ := Jvm.LawKit.callS X0 hx (y := M155) hown (mvT hZ (w82 hw)) (mvT hZ (w83 hw)) (mvT hZ (w12 hw)) (mvT hZ (w84 hw)) (by decide) (backOf (W := 0) (rm_schk l Z a0 hw [] G1 G3 HG h0 n0 X00 ii nn h1 h2) hZ (w84 hw) (w12 hw) (by decide) (by decide)) (g := (mkF m 3 #[.val (.ref t), .val (.int ii)] [(.int nn), (.int ii)])) rfl (by rw [hml]; rfl) (argsL := [(.int ii), (.int nn)]) (rest := []) (lenOf pd_175 rfl) rfl (by show 2 * 0 + _ ≤ _; exact Nat.le_of_eq rfl) (hb hby d10_3) (fun _ _ => ⟨rfl, e0, (by decide : 0 + 0 ≤ _), (by decide : 0 + 0 ≤ _)⟩)
  dsimp only [Pt.U, Pt.locs, Pt.cells, Pt.slots] at X_8 l_8 y_8 z_8 st_8 hQ_8
  have X_8 := own_cast X_8 l_8 y_8 z_8
  obtain ⟨rfl, N_9, e_10⟩ := hQ_8
  have N_11 := Fr.app N0 N_9
  have e_12 : T_8.heap = h0 := e_10
  obtain ⟨c_13, A_14, q_15, S_16, M_17, H_18, U_19⟩ := id hp0
  have hin_20 : ¬ (ii < 0 ∨ c_13.slots.size ≤ ii.toNatClampNeg) := inb_of S_16 ⟨h1, h2⟩
  have hat_21 : c_13.slots[ii.toNatClampNeg]? = some (.int (own_gt bs ii)) := Has.at H_18 hin_20 (own_iv_at bs ii)
  have C_22 : Steps p.tables e below S0 (T_8.setTop (mkF m 14 #[.val (.ref t), .val (.int ii)] [(.int (((own_gt bs ii) &&& (255 : Int32)).toUInt32.toUInt16.toUInt32.toInt32))])) := by
    refine C0.trans ?_
    refine XS.iloadN X0.here hx rfl (hb hby d10_0) rfl ?_
    refine XS.aloadN X0.here hx rfl (hb hby d10_1) rfl rfl ?_
    refine X0.arraylength hx (by rw [e0]; exact A_2.1) (State.isArrayOf_alike hZ.alike A_2.2.1) (g := (mkF m 2 #[.val (.ref t), .val (.int ii)] [(.ref t), (.int ii)])) rfl rfl (hb hby d10_2) _ ?_
    rw [len_of S_4 M_5]
    refine st_8 _ ?_
    refine XS.aloadN X_8.here hx rfl (hb hby d10_6) rfl rfl ?_
    refine XS.iloadN X_8.here hx rfl (hb hby d10_7) rfl ?_
    refine X_8.baloadBytes hx (j := ii) (v := (.int (own_gt bs ii))) (by rw [e_12]; exact A_14.1) (State.isArrayOf_alike hZ.alike A_14.2.1) A_14.2.2 hin_20 hat_21 (g := (mkF m 8 #[.val (.ref t), .val (.int ii)] [(.int ii), (.ref t)])) rfl rfl (hb hby d10_8) _ ?_
    refine XS.sipush X_8.here hx rfl (hb hby d10_9) ?_
    show Steps p.tables e below (T_8.setTop (mkF m 12 #[.val (.ref t), .val (.int ii)] [(.int (255 : Int32)), (.int (own_gt bs ii))])) _
    refine XS.iand X_8.here hx rfl (hb hby d10_12) rfl ?_
    refine XS.i2c X_8.here hx rfl (hb hby d10_13) rfl ?_
    exact Steps.refl _
  obtain ⟨fs, hr, hrun, hended, hW, hsame⟩ := X_8.leave (v := some (.int (own_ch (own_gt bs ii)))) (fun h => by rw [Bd.returns] at h; cases h)
  refine ⟨_, _, C_22.trans (retN X_8 hx (t := .char) Bd.returns (by simp) (hb hby d10_14) hr), hrun, hended, _, _, rfl, ?_, ⟨_, rfl⟩, hW, hsame.mono (by decide) (by decide)⟩
  show Q_lchs Z G1 G3 t kt nn bs ii h0 n0 (some (.int (own_ch (own_gt bs ii)))) T_8.heap _
  rw [e_12]
  exact ⟨rfl, N_11, rfl⟩
abbrev M186 : MethodName := ⟨"java/lang/String", "charAt", "(I)C"⟩
theorem d11_0 : decode jdk_42_method_56_code 0 = .ok (.aload_n 0, 1) := by decide +kernel
theorem w77 {Z : State} {a0 : Array Value} (hw : ∀ d ∈ tables_1, d.before a0 Z = true) : Jvm.Cond.before (Jvm.Cond.code ({ cls := "java/lang/String", name := "isLatin1", desc := "()Z" } : Jvm.MethodName) jdk_42_method_154_code (1 : Nat) (Option.some Jvm.ClassFile.FieldType.boolean)) a0 Z = true := hw _ (List.mem_of_getElem? (i := 77) rfl)
theorem pd_189 : parseMethodDescriptor "()Z" = some ⟨[], some .boolean⟩ := by decide +kernel
theorem d11_1 : decode jdk_42_method_56_code 1 = .ok (.invokevirtual 492, 3) := by decide +kernel
theorem w73 {Z : State} {a0 : Array Value} (hw : ∀ d ∈ tables_1, d.before a0 Z = true) : Jvm.Cond.before (Jvm.Cond.methodLink "java/lang/String" (492 : Nat) ({ cls := "java/lang/String", name := "isLatin1", desc := "()Z" } : Jvm.MethodName)) a0 Z = true := hw _ (List.mem_of_getElem? (i := 73) rfl)
theorem w76 {Z : State} {a0 : Array Value} (hw : ∀ d ∈ tables_1, d.before a0 Z = true) : Jvm.Cond.before (Jvm.Cond.selects "java/lang/String" ({ cls := "java/lang/String", name := "isLatin1", desc := "()Z" } : Jvm.MethodName) ({ cls := "java/lang/String", name := "isLatin1", desc := "()Z" } : Jvm.MethodName)) a0 Z = true := hw _ (List.mem_of_getElem? (i := 76) rfl)
theorem w75 {Z : State} {a0 : Array Value} (hw : ∀ d ∈ tables_1, d.before a0 Z = true) : Jvm.Cond.before (Jvm.Cond.instanceMethod ({ cls := "java/lang/String", name := "isLatin1", desc := "()Z" } : Jvm.MethodName)) a0 Z = true := hw _ (List.mem_of_getElem? (i := 75) rfl)
theorem w74 {Z : State} {a0 : Array Value} (hw : ∀ d ∈ tables_1, d.before a0 Z = true) : Jvm.Cond.before (Jvm.Cond.declares ({ cls := "java/lang/String", name := "isLatin1", desc := "()Z" } : Jvm.MethodName)) a0 Z = true := hw _ (List.mem_of_getElem? (i := 74) rfl)
theorem d11_4 : decode jdk_42_method_56_code 4 = .ok (.ifCond .eq 12, 3) := by decide +kernel
theorem d11_7 : decode jdk_42_method_56_code 7 = .ok (.aload_n 0, 1) := by decide +kernel
theorem d11_8 : decode jdk_42_method_56_code 8 = .ok (.getfield 9, 3) := by decide +kernel
theorem d11_11 : decode jdk_42_method_56_code 11 = .ok (.iload_n 1, 1) := by decide +kernel
theorem w81 {Z : State} {a0 : Array Value} (hw : ∀ d ∈ tables_1, d.before a0 Z = true) : Jvm.Cond.before (Jvm.Cond.code ({ cls := "java/lang/StringLatin1", name := "charAt", desc := "([BI)C" } : Jvm.MethodName) jdk_43_method_2_code (2 : Nat) (Option.some Jvm.ClassFile.FieldType.char)) a0 Z = true := hw _ (List.mem_of_getElem? (i := 81) rfl)
theorem w80 {Z : State} {a0 : Array Value} (hw : ∀ d ∈ tables_1, d.before a0 Z = true) : Jvm.Cond.before (Jvm.Cond.initialized "java/lang/StringLatin1") a0 Z = true := hw _ (List.mem_of_getElem? (i := 80) rfl)
theorem pd_201 : parseMethodDescriptor "([BI)C" = some ⟨[(.array .byte), .int], some .char⟩ := by decide +kernel
theorem d11_12 : decode jdk_42_method_56_code 12 = .ok (.invokestatic 495, 3) := by decide +kernel
theorem w78 {Z : State} {a0 : Array Value} (hw : ∀ d ∈ tables_1, d.before a0 Z = true) : Jvm.Cond.before (Jvm.Cond.methodLink "java/lang/String" (495 : Nat) ({ cls := "java/lang/StringLatin1", name := "charAt", desc := "([BI)C" } : Jvm.MethodName)) a0 Z = true := hw _ (List.mem_of_getElem? (i := 78) rfl)
theorem w79 {Z : State} {a0 : Array Value} (hw : ∀ d ∈ tables_1, d.before a0 Z = true) : Jvm.Cond.before (Jvm.Cond.static ({ cls := "java/lang/StringLatin1", name := "charAt", desc := "([BI)C" } : Jvm.MethodName)) a0 Z = true := hw _ (List.mem_of_getElem? (i := 79) rfl)
theorem d11_15 : decode jdk_42_method_56_code 15 = .ok (.ireturn, 1) := by decide +kernel
abbrev R_chs : Room := { frames := 3, cells := 0, slots := 0, locals := 40 }
def Q_chs (Z : State) (G1 : Int32) (G3 : Value) (x : Addr) (t : Addr) (kt : ClassId) (nn : Int32) (cs : List Int32) (ii : Int32) (h0 : Heap) (n0 : Nat) (v : Option Value) (h : Heap) (L : List Loc) : Prop := (v = some (.int (own_gt cs ii)) ∧ Fr n0 L ∧ h = h0)
set_option maxRecDepth 65536 in
set_option maxHeartbeats 40000000 in
theorem rm_chs (l : Launch) (Z : State) (a0 : Array Value) (hw : ∀ d ∈ tables_1, d.before a0 Z = true) (ws : List Jvm.Cond) (G1 : Int32) (G3 : Value) (HG : own_G l Z a0 G1 G3) (h0 : Heap) (n0 : Nat) (X00 : Old Z n0 h0) (x : Addr) (t : Addr) (kt : ClassId) (nn : Int32) (cs : List Int32) (ii : Int32) (hp0 : Exa Z h0 x "java/lang/String") (hp1 : Fld Z h0 x "java/lang/String" "coder" "B" (.int (0 : Int32))) (hp2 : Fld Z h0 x "java/lang/String" "value" "[B" (.ref t)) (hp3 : Arv Z h0 t kt .byte nn (own_iv (own_bs cs)) (.int (0 : Int32))) (h1 : ¬ (ii < (0 : Int32))) (h2 : ii < nn) (hl1 : cs.length = nn.toNatClampNeg) (hla : own_lat cs) :
    own_CP l Z M186 jdk_42_method_56_code 2 (some .char) ws R_chs #[(.ref x), (.int ii)] h0 (Q_chs Z G1 G3 x t kt nn cs ii h0 n0) := by
  refine own_P (plainFor_of_name pn_61) ?_
  intro p e s m below meth c s₁ S0 Bd hZ hh hx hby hml hown hnm X0 e0 hS0d
  obtain ⟨O1, P1, O3f, rG3⟩ := id HG
  have N0 := Fr.nil n0
  have C0 : Steps p.tables e below S0 (s₁.setTop (mkF m 0 #[.val (.ref x), .val (.int ii)] [])) := by rw [hS0d]; exact castTop (ef_50 m x ii) (Steps.refl _)
  obtain ⟨q_2, q_3, q_4, q_5, q_6⟩ := isOf (T := s₁) hZ e0 hp0
  obtain ⟨_, _, ⟨T_1, L_1, k_1, n_1⟩, -, X_1, ⟨Lc_1, hQ_1, l_1, y_1, z_1⟩, st_1⟩ := X0.virtualBack hx (y := M122) (z := M122) hown (mvT hZ (w73 hw)) (mvT hZ (w74 hw)) (notFace_of_selects (args := #[]) (mvT hZ (w76 hw))) (mvT hZ (w76 hw)) (mvT hZ (w75 hw)) (by decide) (backOf (W := 0) (rm_islat l Z a0 hw [] G1 G3 HG h0 n0 X00 x hp1) hZ (w77 hw) (w12 hw) (by decide) (by decide)) q_4 q_6 (g := (mkF m 1 #[.val (.ref x), .val (.int ii)] [(.ref x)])) rfl (by rw [hml]; rfl) (Steps.refl _) (argsL := []) (rest := []) (lenOf pd_189 rfl) rfl (by show 2 * 0 + _ ≤ _; exact Nat.le_of_eq rfl) (hb hby d11_1) (fun _ _ => ⟨rfl, e0, (by decide : 0 + 0 ≤ _), (by decide : 0 + 0 ≤ _)⟩)
  dsimp only [Pt.U, Pt.locs, Pt.cells, Pt.slots] at X_1 l_1 y_1 z_1 st_1 hQ_1
  have X_1 := own_cast X_1 l_1 y_1 z_1
  obtain ⟨rfl, N_7, e_8⟩ := hQ_1
  have N_9 := Fr.app N0 N_7
  have e_10 : T_1.heap = h0 := e_8
  obtain ⟨T_11, X_12, e_13, st_14⟩ := getF X_1 hx hZ hown (host := "") (Or.inl (w29 hw)) Via.refl e_10 hp2 (g := (mkF m 8 #[.val (.ref x), .val (.int ii)] [(.ref x)])) rfl rfl (hb hby d11_8)
  obtain ⟨_, _, ⟨T_15, L_15, k_15, n_15⟩, -, X_15, ⟨Lc_15, hQ_15, l_15, y_15, z_15⟩, st_15⟩ := Jvm.LawKit.callS X_12 hx (y := M169) hown (mvT hZ (w78 hw)) (mvT hZ (w79 hw)) (mvT hZ (w80 hw)) (mvT hZ (w81 hw)) (by decide) (backOf (W := 0) (rm_lchs l Z a0 hw [] G1 G3 HG h0 n0 X00 t kt nn (own_bs cs) ii hp3 h1 h2) hZ (w81 hw) (w80 hw) (by decide) (by decide)) (g := (mkF m 12 #[.val (.ref x), .val (.int ii)] [(.int ii), (.ref t)])) rfl (by rw [hml]; rfl) (argsL := [(.ref t), (.int ii)]) (rest := []) (lenOf pd_201 rfl) rfl (by show 2 * 0 + _ ≤ _; exact Nat.le_of_eq rfl) (hb hby d11_12) (fun _ _ => ⟨rfl, e_13, (by decide : 0 + 0 ≤ _), (by decide : 0 + 0 ≤ _)⟩)
  dsimp only [Pt.U, Pt.locs, Pt.cells, Pt.slots] at X_15 l_15 y_15 z_15 st_15 hQ_15
  have X_15 := own_cast X_15 l_15 y_15 z_15
  obtain ⟨rfl, N_16, e_17⟩ := hQ_15
  have N_18 := Fr.app N_9 N_16
  have e_19 : T_15.heap = h0 := e_17
  have C_20 : Steps p.tables e below S0 (T_15.setTop (mkF m 15 #[.val (.ref x), .val (.int ii)] [(.int (own_ch (own_gt (own_bs cs) ii)))])) := by
    refine C0.trans ?_
    refine XS.aloadN X0.here hx rfl (hb hby d11_0) rfl rfl ?_
    refine st_1.trans ?_
    refine XS.ifNo X_1.here hx rfl (hb hby d11_4) rfl (by decide) ?_
    refine XS.aloadN X_1.here hx rfl (hb hby d11_7) rfl rfl ?_
    refine st_14 _ ?_
    refine XS.iloadN X_12.here hx rfl (hb hby d11_11) rfl ?_
    refine st_15 _ ?_
    exact Steps.refl _
  obtain ⟨fs, hr, hrun, hended, hW, hsame⟩ := X_15.leave (v := some (.int (nar .char (own_ch (own_gt (own_bs cs) ii))))) (fun h => by rw [Bd.returns] at h; cases h)
  refine ⟨_, _, C_20.trans (retN X_15 hx (t := .char) Bd.returns (by simp) (hb hby d11_15) hr), hrun, hended, _, _, rfl, ?_, ⟨_, rfl⟩, hW, hsame.mono (by decide) (by decide)⟩
  show Q_chs Z G1 G3 x t kt nn cs ii h0 n0 (some (.int (nar .char (own_ch (own_gt (own_bs cs) ii))))) T_15.heap _
  rw [e_19]
  exact ⟨(congrArg (fun q => some (Value.int q)) (own_chsays hl1 hla h1 h2)), N_18, rfl⟩
theorem d3_8 : decode jdk_42_method_149_code 8 = .ok (.aload_n 0, 1) := by decide +kernel
theorem w23 {Z : State} {a0 : Array Value} (hw : ∀ d ∈ tables_1, d.before a0 Z = true) : Jvm.Cond.before (Jvm.Cond.stringLink "java/lang/String" (7 : Nat) "") a0 Z = true := hw _ (List.mem_of_getElem? (i := 23) rfl)
theorem d3_9 : decode jdk_42_method_149_code 9 = .ok (.ldc 7, 2) := by decide +kernel
theorem d3_11 : decode jdk_42_method_149_code 11 = .ok (.getfield 9, 3) := by decide +kernel
theorem d3_14 : decode jdk_42_method_149_code 14 = .ok (.putfield 9, 3) := by decide +kernel
theorem d3_17 : decode jdk_42_method_149_code 17 = .ok (.aload_n 0, 1) := by decide +kernel
theorem d3_18 : decode jdk_42_method_149_code 18 = .ok (.ldc 7, 2) := by decide +kernel
theorem d3_20 : decode jdk_42_method_149_code 20 = .ok (.getfield 15, 3) := by decide +kernel
theorem d3_23 : decode jdk_42_method_149_code 23 = .ok (.putfield 15, 3) := by decide +kernel
theorem d3_26 : decode jdk_42_method_149_code 26 = .ok (.return_, 1) := by decide +kernel
abbrev R_si4_0 : Room := { frames := 1, cells := 4, slots := 8, locals := 12 }
def Q_si4_0 (Z : State) (G1 : Int32) (G3 : Value) (x : Addr) (b : Addr) (k : ClassId) (h0 : Heap) (n0 : Nat) (v : Option Value) (h : Heap) (L : List Loc) : Prop := (∃ t : Addr, ∃ kt : ClassId, v = none ∧ Fr n0 L ∧ Keep h0 h [x] ∧ (Exa Z h x "java/lang/String") ∧ (Fld Z h x "java/lang/String" "coder" "B" (.int (0 : Int32))) ∧ (Fld Z h x "java/lang/String" "value" "[B" (.ref t)) ∧ (Arv Z h t kt .byte (0 : Int32) [] (.int (0 : Int32))))
set_option maxRecDepth 65536 in
set_option maxHeartbeats 40000000 in
theorem rm_si4_0 (l : Launch) (Z : State) (a0 : Array Value) (hw : ∀ d ∈ tables_1, d.before a0 Z = true) (ws : List Jvm.Cond) (G1 : Int32) (G3 : Value) (HG : own_G l Z a0 G1 G3) (h0 : Heap) (n0 : Nat) (X00 : Old Z n0 h0) (x : Addr) (b : Addr) (k : ClassId) (hp0 : Exa Z h0 x "java/lang/String") (hp1 : Fld Z h0 x "java/lang/String" "value" "[B" .null) (hp2 : Fld Z h0 x "java/lang/String" "coder" "B" (.int (0 : Int32))) (hp3 : n0 ≤ x) (hp4 : Arv Z h0 b k .char (0 : Int32) [] (.int (0 : Int32))) :
    own_CH l Z M59 jdk_42_method_149_code 6 none ws R_si4_0 #[(.ref x), (.ref b), (.int (0 : Int32)), (.int (0 : Int32)), .null] h0 (Q_si4_0 Z G1 G3 x b k h0 n0) := by
  refine own_H (plainFor_of_name pn_61) ?_
  intro p e s m below meth c s₁ S0 Bd hZ hh CH0 hS0 CR0 hx hby hml hown hnm X0 e0 hS0d
  obtain ⟨O1, P1, O3f, rG3⟩ := id HG
  have hEL := own_EL hw
  have hSA := own_SA hw
  have N0 := Fr.nil n0
  have C0 : Steps p.tables e below S0 (s₁.setTop (mkF m 0 #[.val (.ref x), .val (.ref b), .val (.int (0 : Int32)), .val (.int (0 : Int32)), .val .null, .unset] [])) := by rw [hS0d]; exact castTop (ef_60 m x b (0 : Int32) (0 : Int32)) (Steps.refl _)
  have Sf_1 : Safe Z consts_1 s.vm h0 x := (own_safe_null hZ.alike hp0 hp1)
  obtain ⟨T_2, X_3, e_4, st_5⟩ := initO X0 hx hZ hown (w20 hw) (w21 hw) (w22 hw) e0 (g := (mkF m 1 #[.val (.ref x), .val (.ref b), .val (.int (0 : Int32)), .val (.int (0 : Int32)), .val .null, .unset] [(.ref x)])) rfl (by rw [hml]; rfl) rfl (hb hby d3_1) (by decide) (W := 0) (by show 2 * 0 + _ ≤ _; exact Nat.le_of_eq rfl) (by decide)
  obtain ⟨a_6, T_7, h_8, k1_9, b_10, k_11, X_12, e_13, E_14, S_15, hk_16, hZ_17, ho_18, Ex_19, Fc_20, Fv_21, Va_22, la_23, lb_24, R_25, L_26, Sf_27, st_28⟩ := ldcCH (vm0 := s.vm) X_3 hx hZ hown (w23 hw) hSA e_4 hS0 (Nat.le_refl _) hEL (by decide) CH0 (vs := []) (z := (0 : Int32)) ⟨by decide, by decide⟩ (by decide) (by decide) (g := (mkF m 9 #[.val (.ref x), .val (.ref b), .val (.int (0 : Int32)), .val (.int (0 : Int32)), .val .null, .unset] [(.ref x)])) rfl (hb hby d3_9) (n := 0) (by decide) (by decide) (by decide) (by decide)
  have CH_29 : CHv Z consts_1 T_7.vm h_8 := R_25.1
  have CR_30 : CHr Z consts_1 s.vm h0 T_7.vm h_8 := CR0.trans R_25
  have E_31 : Exa Z h_8 x "java/lang/String" := (hp0.ext E_14)
  have F_32 : Fld Z h_8 x "java/lang/String" "value" "[B" .null := (hp1.ext E_14)
  obtain ⟨T_33, X_34, e_35, st_36⟩ := getF X_12 hx hZ_17 ho_18 (host := "") (Or.inl (w29 hw)) Via.refl e_13 Fv_21 (g := (mkF m 11 #[.val (.ref x), .val (.ref b), .val (.int (0 : Int32)), .val (.int (0 : Int32)), .val .null, .unset] [(.ref a_6), (.ref x)])) rfl rfl (hb hby d3_11)
  obtain ⟨T_37, h_38, X_39, e_40, W_41, st_42⟩ := putF X_34 hx hZ_17 ho_18 (host := "") (Or.inl (w29 hw)) Via.refl e_35 F_32 E_31 (Or.inr ⟨(w25 hw), rfl, hnm⟩) (w11 hw) (ty := (.array .byte)) (by decide) rfl rfl (g := (mkF m 14 #[.val (.ref x), .val (.ref b), .val (.int (0 : Int32)), .val (.int (0 : Int32)), .val .null, .unset] [(.ref b_10), (.ref x)])) rfl rfl (hb hby d3_14)
  have N_43 := Fr.snoc X_39 N0 hp3
  have CH_44 : CHv Z consts_1 T_7.vm h_38 := CHv.wr W_41 (own_safe_null hZ_17.alike E_31 F_32) CH_29
  have CR_45 : CHr Z consts_1 s.vm h0 T_7.vm h_38 := CR_30.trans (CHr.wr W_41 (own_safe_null hZ_17.alike E_31 F_32) CH_29)
  have F_46 : Fld Z h_38 x "java/lang/String" "value" "[B" (.ref b_10) := F_32.same W_41
  obtain ⟨a_47, T_48, h_49, k1_50, b_51, k_52, X_53, e_54, E_55, S_56, hk_57, hZ_58, ho_59, Ex_60, Fc_61, Fv_62, Va_63, la_64, lb_65, R_66, L_67, Sf_68, st_69⟩ := ldcCH (vm0 := T_7.vm) X_39 hx hZ_17 ho_18 (w23 hw) hSA e_40 S_15 (Nat.le_trans hk_16 (Keep.of_wr W_41).1) hEL (by decide) CH_44 (vs := []) (z := (0 : Int32)) ⟨by decide, by decide⟩ (by decide) (by decide) (g := (mkF m 18 #[.val (.ref x), .val (.ref b), .val (.int (0 : Int32)), .val (.int (0 : Int32)), .val .null, .unset] [(.ref x)])) rfl (hb hby d3_18) (n := 0) (by decide) (by decide) (by decide) (by decide)
  have CH_70 : CHv Z consts_1 T_48.vm h_49 := R_66.1
  have CR_71 : CHr Z consts_1 s.vm h0 T_48.vm h_49 := CR_45.trans R_66
  have Sf_72 : Safe Z consts_1 T_48.vm h_49 x := (CHr.safe R_66 (own_lt hp0.lt (Nat.le_trans E_14.1 (Keep.of_wr W_41).1)) (Safe.wr W_41 (own_safe_null hZ_17.alike E_31 F_32) CH_29 (CHr.safe R_25 (own_lt hp0.lt (Nat.le_refl _)) Sf_1)))
  obtain ⟨T_73, X_74, e_75, st_76⟩ := getF X_53 hx hZ_58 ho_59 (host := "") (Or.inl (w30 hw)) Via.refl e_54 Fc_61 (g := (mkF m 20 #[.val (.ref x), .val (.ref b), .val (.int (0 : Int32)), .val (.int (0 : Int32)), .val .null, .unset] [(.ref a_47), (.ref x)])) rfl rfl (hb hby d3_20)
  have F_77 : Fld Z h_49 x "java/lang/String" "coder" "B" (.int (0 : Int32)) := (((hp2.ext E_14).other W_41 (Or.inr (slot_ne (Or.inr (w26 hw)) (Or.inr (w25 hw)) (by decide) (t := .byte) (by decide) (t' := (.array .byte)) (by decide)))).ext E_55)
  have E_78 : Exa Z h_49 x "java/lang/String" := ((E_31.wr W_41).ext E_55)
  obtain ⟨T_79, h_80, X_81, e_82, W_83, st_84⟩ := putF X_74 hx hZ_58 ho_59 (host := "") (Or.inl (w30 hw)) Via.refl e_75 F_77 E_78 (Or.inr ⟨(w26 hw), rfl, hnm⟩) (w11 hw) (ty := .byte) (by decide) rfl (by decide) (g := (mkF m 23 #[.val (.ref x), .val (.ref b), .val (.int (0 : Int32)), .val (.int (0 : Int32)), .val .null, .unset] [(.int (0 : Int32)), (.ref x)])) rfl rfl (hb hby d3_23)
  have N_85 := Fr.snoc X_81 N_43 hp3
  have Sf_86 : Safe Z consts_1 T_48.vm h_49 x := Sf_72
  have CH_87 : CHv Z consts_1 T_48.vm h_80 := CHv.wr W_83 Sf_86 CH_70
  have CR_88 : CHr Z consts_1 s.vm h0 T_48.vm h_80 := CR_71.trans (CHr.wr W_83 Sf_86 CH_70)
  have F_89 : Fld Z h_80 x "java/lang/String" "coder" "B" (.int (0 : Int32)) := F_77.same W_83
  have C_90 : Steps p.tables e below S0 (T_79.setTop (mkF m 26 #[.val (.ref x), .val (.ref b), .val (.int (0 : Int32)), .val (.int (0 : Int32)), .val .null, .unset] [])) := by
    refine C0.trans ?_
    refine XS.aloadN X0.here hx rfl (hb hby d3_0) rfl rfl ?_
    refine st_5 _ ?_
    refine XS.iloadN X_3.here hx rfl (hb hby d3_4) rfl ?_
    refine XS.ifNo X_3.here hx rfl (hb hby d3_5) rfl (by decide) ?_
    refine XS.aloadN X_3.here hx rfl (hb hby d3_8) rfl rfl ?_
    refine st_28 _ ?_
    refine st_36 _ ?_
    refine st_42 _ ?_
    show Steps p.tables e below (T_37.setTop (mkF m 17 #[.val (.ref x), .val (.ref b), .val (.int (0 : Int32)), .val (.int (0 : Int32)), .val .null, .unset] [])) _
    refine XS.aloadN X_39.here hx rfl (hb hby d3_17) rfl rfl ?_
    refine st_69 _ ?_
    refine st_76 _ ?_
    refine st_84 _ ?_
    exact Steps.refl _
  have E_91 : Exa Z h_80 x "java/lang/String" := (E_78.wr W_83)
  have F_92 : Fld Z h_80 x "java/lang/String" "value" "[B" (.ref b_10) := ((F_46.ext E_55).other W_83 (Or.inr (slot_ne (Or.inr (w25 hw)) (Or.inr (w26 hw)) (by decide) (t := (.array .byte)) (by decide) (t' := .byte) (by decide))))
  have V_93 : Arv Z h_80 b_10 k_11 .byte (0 : Int32) [] (.int (0 : Int32)) := (((Va_22.other W_41 (Ne.symm (Sf_27 _ (own_safe_null hZ_17.alike E_31 F_32)).2)).ext E_55).other W_83 (Ne.symm (Sf_27 _ (own_safe_null hZ_17.alike E_31 F_32)).2))
  have K_94 : Keep h0 h_80 [x] := (((((Keep.refl _ _).ext E_14).wr W_41 (Or.inl (List.mem_of_getElem? (i := 0) rfl))).ext E_55).wr W_83 (Or.inl (List.mem_of_getElem? (i := 0) rfl)))
  obtain ⟨fs, hr, hrun, hended, hRE⟩ := X_81.leaveW S_56 (by rw [show T_79.heap = h_80 from e_82]; exact (Nat.le_trans hk_57 (Keep.of_wr W_83).1)) (v := none) (fun _ => rfl)
  refine ⟨_, _, C_90.trans (X_81.returnOut hx Bd.returns (hb hby d3_26) hr), hrun, hended, _, _, rfl, ?_, ?_, hRE.1, hRE.2.1, hRE.2.2.1, hRE.2.2.2.mono (by decide) (by decide)⟩
  · show Q_si4_0 Z G1 G3 x b k h0 n0 (none) T_79.heap _
    rw [e_82]
    exact ⟨b_10, k_11, rfl, N_85, K_94, E_91, F_89, F_92, V_93⟩
  · show CHr Z consts_1 s.vm s.heap T_79.vm T_79.heap
    rw [hh, show T_79.heap = h_80 from e_82]
    exact CR_88.trans (CHv.at X_81 hZ_58 hEL CH_87)
abbrev R_si1_0 : Room := { frames := 2, cells := 4, slots := 8, locals := 29 }
def Q_si1_0 (Z : State) (G1 : Int32) (G3 : Value) (x : Addr) (b : Addr) (k : ClassId) (h0 : Heap) (n0 : Nat) (v : Option Value) (h : Heap) (L : List Loc) : Prop := (∃ t : Addr, ∃ kt : ClassId, v = none ∧ Fr n0 L ∧ Keep h0 h [x] ∧ (Exa Z h x "java/lang/String") ∧ (Fld Z h x "java/lang/String" "coder" "B" (.int (0 : Int32))) ∧ (Fld Z h x "java/lang/String" "value" "[B" (.ref t)) ∧ (Arv Z h t kt .byte (0 : Int32) [] (.int (0 : Int32))))
set_option maxRecDepth 65536 in
set_option maxHeartbeats 40000000 in
theorem rm_si1_0 (l : Launch) (Z : State) (a0 : Array Value) (hw : ∀ d ∈ tables_1, d.before a0 Z = true) (ws : List Jvm.Cond) (G1 : Int32) (G3 : Value) (HG : own_G l Z a0 G1 G3) (h0 : Heap) (n0 : Nat) (X00 : Old Z n0 h0) (x : Addr) (b : Addr) (k : ClassId) (hp0 : Exa Z h0 x "java/lang/String") (hp1 : Fld Z h0 x "java/lang/String" "value" "[B" .null) (hp2 : Fld Z h0 x "java/lang/String" "coder" "B" (.int (0 : Int32))) (hp3 : n0 ≤ x) (hp4 : Arv Z h0 b k .char (0 : Int32) [] (.int (0 : Int32))) :
    own_CH l Z M99 jdk_42_method_3_code 2 none ws R_si1_0 #[(.ref x), (.ref b)] h0 (Q_si1_0 Z G1 G3 x b k h0 n0) := by
  refine own_H (plainFor_of_name pn_61) ?_
  intro p e s m below meth c s₁ S0 Bd hZ hh CH0 hS0 CR0 hx hby hml hown hnm X0 e0 hS0d
  obtain ⟨O1, P1, O3f, rG3⟩ := id HG
  have hEL := own_EL hw
  have hSA := own_SA hw
  have N0 := Fr.nil n0
  have C0 : Steps p.tables e below S0 (s₁.setTop (mkF m 0 #[.val (.ref x), .val (.ref b)] [])) := by rw [hS0d]; exact castTop (ef_100 m x b) (Steps.refl _)
  obtain ⟨c_1, A_2, q_3, S_4, M_5, H_6, U_7⟩ := id hp4
  obtain ⟨_, _, ⟨T_8, L_8, k_8, n_8⟩, -, Y_8, S_8, G_8, ⟨Lc_8, hQ_8, l_8, y_8, z_8, R_8⟩, st_8⟩ := X0.specialBackS hx (y := M59) rfl hown (mvT hZ (w16 hw)) (mvT hZ (w17 hw)) (mvT hZ (w19 hw)) (by decide) (backOfSH (vm0 := s.vm) (W := 0) (rm_si4_0 l Z a0 hw [] G1 G3 HG h0 n0 X00 x b k hp0 hp1 hp2 hp3 hp4) hZ (w19 hw) (w12 hw) (by decide) (by decide) hEL CH0) (g := (mkF m 6 #[.val (.ref x), .val (.ref b)] [.null, (.int (0 : Int32)), (.int (0 : Int32)), (.ref b), (.ref x)])) rfl (by rw [hml]; rfl) (Steps.refl _) (a := x) (argsL := [(.ref b), (.int (0 : Int32)), (.int (0 : Int32)), .null]) (rest := []) (lenOf pd_109 rfl) rfl (by show 2 * 0 + _ ≤ _; exact Nat.le_of_eq rfl) (hb hby d4_6) (fun _ _ => ⟨rfl, e0, (by decide : 0 + 4 ≤ _), (by decide : 0 + 8 ≤ _)⟩)
  dsimp only [Pt.U, Pt.locs, Pt.cells, Pt.slots] at Y_8 S_8 G_8 l_8 y_8 z_8 st_8 hQ_8 R_8
  have Y_8 := own_cast Y_8 l_8 y_8 z_8
  obtain ⟨X_8, hS_8, hZ_8, hown_8⟩ := rebS hS0 (n1 := s₁.heap.size) (by rw [show s₁.heap = h0 from e0]; exact (Nat.le_refl _)) Y_8 S_8 G_8 hZ hown
  obtain ⟨a_9, k_10, rfl, N_11, K_12, g_13, g_14, g_15, g_16⟩ := hQ_8
  have N_17 := Fr.app N0 N_11
  have CH_18 : CHv Z consts_1 T_8.vm T_8.heap := R_8.1
  have CR_19 : CHr Z consts_1 s.vm h0 T_8.vm T_8.heap := CR0.trans R_8
  have C_20 : Steps p.tables e below S0 (T_8.setTop (mkF m 9 #[.val (.ref x), .val (.ref b)] [])) := by
    refine C0.trans ?_
    refine XS.aloadN X0.here hx rfl (hb hby d4_0) rfl rfl ?_
    refine XS.aloadN X0.here hx rfl (hb hby d4_1) rfl rfl ?_
    refine XS.iconst X0.here hx rfl (hb hby d4_2) ?_
    refine XS.aloadN X0.here hx rfl (hb hby d4_3) rfl rfl ?_
    refine X0.arraylength hx (by rw [e0]; exact A_2.1) (State.isArrayOf_alike hZ.alike A_2.2.1) (g := (mkF m 4 #[.val (.ref x), .val (.ref b)] [(.ref b), (.int (0 : Int32)), (.ref b), (.ref x)])) rfl rfl (hb hby d4_4) _ ?_
    rw [len_of S_4 M_5]
    refine XS.aconstNull X0.here hx rfl (hb hby d4_5) ?_
    refine st_8.trans ?_
    exact Steps.refl _
  have K_21 : Keep h0 T_8.heap [x] := ((Keep.refl _ _).trans K_12 (allS (Or.inl (List.mem_of_getElem? (i := 0) rfl)) all0))
  obtain ⟨fs, hr, hrun, hended, hRE⟩ := X_8.leaveW hS_8 (by rw [show T_8.heap = T_8.heap from rfl]; exact (Nat.le_refl _)) (v := none) (fun _ => rfl)
  refine ⟨_, _, C_20.trans (X_8.returnOut hx Bd.returns (hb hby d4_9) hr), hrun, hended, _, _, rfl, ?_, ?_, hRE.1, hRE.2.1, hRE.2.2.1, hRE.2.2.2.mono (by decide) (by decide)⟩
  · show Q_si1_0 Z G1 G3 x b k h0 n0 (none) T_8.heap _
    exact ⟨a_9, k_10, rfl, N_17, K_21, g_13, g_14, g_15, g_16⟩
  · show CHr Z consts_1 s.vm s.heap T_8.vm T_8.heap
    rw [hh]
    exact CR_19.trans (CHv.at X_8 hZ_8 hEL CH_18)
abbrev M216 : MethodName := ⟨"com/example/claimgate/claimgate/config/ConfigSyntaxMayHoldHashPinLaw", "ch", "(JIII)C"⟩
theorem ef_217 (m : MethodId) (x0 : Int64) (x1 : Int32) (x2 : Int32) (x3 : Int32) : entryFrame m #[(.long x0), (.int x1), (.int x2), (.int x3)] 6 = mkF m 0 #[.val (.long x0), .second, .val (.int x1), .val (.int x2), .val (.int x3), .unset] [] := by first | (simp [entryFrame, mkF, argsToLocals, Value.category]; done) | rfl
theorem pn_218 : plainName "com/example/claimgate/claimgate/config/ConfigSyntaxMayHoldHashPinLaw" = true := by first | (simp [plainName, overriddenIn]; done) | decide +kernel
theorem d12_0 : decode method_3_code 0 = .ok (.lload_n 0, 1) := by decide +kernel
theorem d12_1 : decode method_3_code 1 = .ok (.bipush 8, 2) := by decide +kernel
theorem d12_3 : decode method_3_code 3 = .ok (.iload_n 2, 1) := by decide +kernel
theorem d12_4 : decode method_3_code 4 = .ok (.imul, 1) := by decide +kernel
theorem d12_5 : decode method_3_code 5 = .ok (.lushr, 1) := by decide +kernel
theorem w6 {Z : State} {a0 : Array Value} (hw : ∀ d ∈ tables_1, d.before a0 Z = true) : Jvm.Cond.before (Jvm.Cond.constantLong "com/example/claimgate/claimgate/config/ConfigSyntaxMayHoldHashPinLaw" (36 : Nat) (255 : Int64)) a0 Z = true := hw _ (List.mem_of_getElem? (i := 6) rfl)
theorem d12_6 : decode method_3_code 6 = .ok (.ldc2_w 36, 3) := by decide +kernel
theorem d12_9 : decode method_3_code 9 = .ok (.land, 1) := by decide +kernel
theorem d12_10 : decode method_3_code 10 = .ok (.l2i, 1) := by decide +kernel
theorem d12_11 : decode method_3_code 11 = .ok (.istore 5, 2) := by decide +kernel
theorem d12_13 : decode method_3_code 13 = .ok (.iload_n 3, 1) := by decide +kernel
theorem d12_14 : decode method_3_code 14 = .ok (.iload 4, 2) := by decide +kernel
theorem d12_16 : decode method_3_code 16 = .ok (.iushr, 1) := by decide +kernel
theorem d12_17 : decode method_3_code 17 = .ok (.iconst 1, 1) := by decide +kernel
theorem d12_18 : decode method_3_code 18 = .ok (.iand, 1) := by decide +kernel
theorem d12_19 : decode method_3_code 19 = .ok (.ifCond .eq 13, 3) := by decide +kernel
theorem d12_32 : decode method_3_code 32 = .ok (.iload 5, 2) := by decide +kernel
theorem d12_34 : decode method_3_code 34 = .ok (.i2c, 1) := by decide +kernel
theorem d12_35 : decode method_3_code 35 = .ok (.ireturn, 1) := by decide +kernel
theorem d12_22 : decode method_3_code 22 = .ok (.iload 5, 2) := by decide +kernel
theorem d12_24 : decode method_3_code 24 = .ok (.bipush 63, 2) := by decide +kernel
theorem d12_26 : decode method_3_code 26 = .ok (.iand, 1) := by decide +kernel
theorem d12_27 : decode method_3_code 27 = .ok (.bipush 64, 2) := by decide +kernel
theorem d12_29 : decode method_3_code 29 = .ok (.ior, 1) := by decide +kernel
theorem d12_30 : decode method_3_code 30 = .ok (.istore 5, 2) := by decide +kernel
abbrev R_chc : Room := { frames := 0, cells := 0, slots := 0, locals := 0 }
def Q_chc (Z : State) (G1 : Int32) (G3 : Value) (xx : Int64) (ia : Int32) (ib : Int32) (ic : Int32) (h0 : Heap) (n0 : Nat) (v : Option Value) (h : Heap) (L : List Loc) : Prop := (∃ rr : Int32, v = some (.int rr) ∧ Fr n0 L ∧ h = h0 ∧ (¬ (rr < (0 : Int32))) ∧ (¬ ((255 : Int32) < rr)))
set_option maxRecDepth 65536 in
set_option maxHeartbeats 40000000 in
theorem rm_chc (l : Launch) (Z : State) (a0 : Array Value) (hw : ∀ d ∈ tables_1, d.before a0 Z = true) (ws : List Jvm.Cond) (G1 : Int32) (G3 : Value) (HG : own_G l Z a0 G1 G3) (h0 : Heap) (n0 : Nat) (X00 : Old Z n0 h0) (xx : Int64) (ia : Int32) (ib : Int32) (ic : Int32)  :
    own_CP l Z M216 method_3_code 6 (some .char) ws R_chc #[(.long xx), (.int ia), (.int ib), (.int ic)] h0 (Q_chc Z G1 G3 xx ia ib ic h0 n0) := by
  refine own_P (plainFor_of_name pn_218) ?_
  intro p e s m below meth c s₁ S0 Bd hZ hh hx hby hml hown hnm X0 e0 hS0d
  obtain ⟨O1, P1, O3f, rG3⟩ := id HG
  have N0 := Fr.nil n0
  have C0 : Steps p.tables e below S0 (s₁.setTop (mkF m 0 #[.val (.long xx), .second, .val (.int ia), .val (.int ib), .val (.int ic), .unset] [])) := by rw [hS0d]; exact castTop (ef_217 m xx ia ib ic) (Steps.refl _)
  have C_1 : Steps p.tables e below S0 (s₁.setTop (mkF m 19 #[.val (.long xx), .second, .val (.int ia), .val (.int ib), .val (.int ic), .val (.int ((((xx.toUInt64 >>> (((8 : Int32) * ia) &&& 0x3f).toInt64.toUInt64).toInt64) &&& (255 : Int64)).toInt32))] [(.int (((ib.toUInt32 >>> (ic &&& 31).toUInt32).toInt32) &&& (1 : Int32)))])) := by
    refine C0.trans ?_
    refine XS.lloadN X0.here hx rfl (hb hby d12_0) rfl ?_
    refine XS.bipush X0.here hx rfl (hb hby d12_1) ?_
    refine XS.iloadN X0.here hx rfl (hb hby d12_3) rfl ?_
    refine XS.imul X0.here hx rfl (hb hby d12_4) rfl ?_
    refine XS.lushr X0.here hx rfl (hb hby d12_5) rfl ?_
    refine X0.ldc2J hx hown (mvT hZ (w6 hw)) rfl (hb hby d12_6) ?_
    refine XS.land X0.here hx rfl (hb hby d12_9) rfl ?_
    refine XS.l2i X0.here hx rfl (hb hby d12_10) rfl ?_
    show Steps p.tables e below (s₁.setTop (mkF m 11 #[.val (.long xx), .second, .val (.int ia), .val (.int ib), .val (.int ic), .unset] [(.int ((((xx.toUInt64 >>> (((8 : Int32) * ia) &&& 0x3f).toInt64.toUInt64).toInt64) &&& (255 : Int64)).toInt32))])) _
    refine XS.istore X0.here hx rfl (hb hby d12_11) rfl (l' := #[.val (.long xx), .second, .val (.int ia), .val (.int ib), .val (.int ic), .val (.int ((((xx.toUInt64 >>> (((8 : Int32) * ia) &&& 0x3f).toInt64.toUInt64).toInt64) &&& (255 : Int64)).toInt32))]) rfl ?_
    refine XS.iloadN X0.here hx rfl (hb hby d12_13) rfl ?_
    refine XS.iload X0.here hx rfl (hb hby d12_14) rfl ?_
    refine XS.iushr X0.here hx rfl (hb hby d12_16) rfl ?_
    refine XS.iconst X0.here hx rfl (hb hby d12_17) ?_
    refine XS.iand X0.here hx rfl (hb hby d12_18) rfl ?_
    exact Steps.refl _
  by_cases hc_2 : (((ib.toUInt32 >>> (ic &&& 31).toUInt32).toInt32) &&& (1 : Int32)) = (0 : Int32)
  · skip
    have C_3 : Steps p.tables e below S0 (s₁.setTop (mkF m 35 #[.val (.long xx), .second, .val (.int ia), .val (.int ib), .val (.int ic), .val (.int ((((xx.toUInt64 >>> (((8 : Int32) * ia) &&& 0x3f).toInt64.toUInt64).toInt64) &&& (255 : Int64)).toInt32))] [(.int (((((xx.toUInt64 >>> (((8 : Int32) * ia) &&& 0x3f).toInt64.toUInt64).toInt64) &&& (255 : Int64)).toInt32).toUInt32.toUInt16.toUInt32.toInt32))])) := by
      refine C_1.trans ?_
      refine XS.ifYes X0.here hx rfl (pc0 := 19) (pc' := 32) rfl (hb hby d12_19) rfl (i0_eq_t hc_2) (by decide) (by decide) ?_
      refine XS.iload X0.here hx rfl (hb hby d12_32) rfl ?_
      refine XS.i2c X0.here hx rfl (hb hby d12_34) rfl ?_
      exact Steps.refl _
    obtain ⟨fs, hr, hrun, hended, hW, hsame⟩ := X0.leave (v := some (.int (nar .char (((((xx.toUInt64 >>> (((8 : Int32) * ia) &&& 0x3f).toInt64.toUInt64).toInt64) &&& (255 : Int64)).toInt32).toUInt32.toUInt16.toUInt32.toInt32)))) (fun h => by rw [Bd.returns] at h; cases h)
    refine ⟨_, _, C_3.trans (retN X0 hx (t := .char) Bd.returns (by simp) (hb hby d12_35) hr), hrun, hended, _, _, rfl, ?_, ⟨_, rfl⟩, hW, hsame.mono (by decide) (by decide)⟩
    show Q_chc Z G1 G3 xx ia ib ic h0 n0 (some (.int (nar .char (((((xx.toUInt64 >>> (((8 : Int32) * ia) &&& 0x3f).toInt64.toUInt64).toInt64) &&& (255 : Int64)).toInt32).toUInt32.toUInt16.toUInt32.toInt32)))) s₁.heap _
    rw [e0]
    exact ⟨(nar .char (((((xx.toUInt64 >>> (((8 : Int32) * ia) &&& 0x3f).toInt64.toUInt64).toInt64) &&& (255 : Int64)).toInt32).toUInt32.toUInt16.toUInt32.toInt32)), rfl, N0, rfl, (own_chA _).1, (own_chA _).2⟩
  · skip
    have C_4 : Steps p.tables e below S0 (s₁.setTop (mkF m 35 #[.val (.long xx), .second, .val (.int ia), .val (.int ib), .val (.int ic), .val (.int ((((((xx.toUInt64 >>> (((8 : Int32) * ia) &&& 0x3f).toInt64.toUInt64).toInt64) &&& (255 : Int64)).toInt32) &&& (63 : Int32)) ||| (64 : Int32)))] [(.int (((((((xx.toUInt64 >>> (((8 : Int32) * ia) &&& 0x3f).toInt64.toUInt64).toInt64) &&& (255 : Int64)).toInt32) &&& (63 : Int32)) ||| (64 : Int32)).toUInt32.toUInt16.toUInt32.toInt32))])) := by
      refine C_1.trans ?_
      refine XS.ifNo X0.here hx rfl (hb hby d12_19) rfl (i0_eq_f hc_2) ?_
      refine XS.iload X0.here hx rfl (hb hby d12_22) rfl ?_
      refine XS.bipush X0.here hx rfl (hb hby d12_24) ?_
      refine XS.iand X0.here hx rfl (hb hby d12_26) rfl ?_
      refine XS.bipush X0.here hx rfl (hb hby d12_27) ?_
      refine XS.ior X0.here hx rfl (hb hby d12_29) rfl ?_
      refine XS.istore X0.here hx rfl (hb hby d12_30) rfl (l' := #[.val (.long xx), .second, .val (.int ia), .val (.int ib), .val (.int ic), .val (.int ((((((xx.toUInt64 >>> (((8 : Int32) * ia) &&& 0x3f).toInt64.toUInt64).toInt64) &&& (255 : Int64)).toInt32) &&& (63 : Int32)) ||| (64 : Int32)))]) rfl ?_
      refine XS.iload X0.here hx rfl (hb hby d12_32) rfl ?_
      show Steps p.tables e below (s₁.setTop (mkF m 34 #[.val (.long xx), .second, .val (.int ia), .val (.int ib), .val (.int ic), .val (.int ((((((xx.toUInt64 >>> (((8 : Int32) * ia) &&& 0x3f).toInt64.toUInt64).toInt64) &&& (255 : Int64)).toInt32) &&& (63 : Int32)) ||| (64 : Int32)))] [(.int ((((((xx.toUInt64 >>> (((8 : Int32) * ia) &&& 0x3f).toInt64.toUInt64).toInt64) &&& (255 : Int64)).toInt32) &&& (63 : Int32)) ||| (64 : Int32)))])) _
      refine XS.i2c X0.here hx rfl (hb hby d12_34) rfl ?_
      exact Steps.refl _
    obtain ⟨fs, hr, hrun, hended, hW, hsame⟩ := X0.leave (v := some (.int (nar .char (((((((xx.toUInt64 >>> (((8 : Int32) * ia) &&& 0x3f).toInt64.toUInt64).toInt64) &&& (255 : Int64)).toInt32) &&& (63 : Int32)) ||| (64 : Int32)).toUInt32.toUInt16.toUInt32.toInt32)))) (fun h => by rw [Bd.returns] at h; cases h)
    refine ⟨_, _, C_4.trans (retN X0 hx (t := .char) Bd.returns (by simp) (hb hby d12_35) hr), hrun, hended, _, _, rfl, ?_, ⟨_, rfl⟩, hW, hsame.mono (by decide) (by decide)⟩
    show Q_chc Z G1 G3 xx ia ib ic h0 n0 (some (.int (nar .char (((((((xx.toUInt64 >>> (((8 : Int32) * ia) &&& 0x3f).toInt64.toUInt64).toInt64) &&& (255 : Int64)).toInt32) &&& (63 : Int32)) ||| (64 : Int32)).toUInt32.toUInt16.toUInt32.toInt32)))) s₁.heap _
    rw [e0]
    exact ⟨(nar .char (((((((xx.toUInt64 >>> (((8 : Int32) * ia) &&& 0x3f).toInt64.toUInt64).toInt64) &&& (255 : Int64)).toInt32) &&& (63 : Int32)) ||| (64 : Int32)).toUInt32.toUInt16.toUInt32.toInt32)), rfl, N0, rfl, (own_chB _).1, (own_chB _).2⟩
abbrev M244 : MethodName := ⟨"com/example/claimgate/claimgate/config/ConfigSyntaxMayHoldHashPinLaw", "put", "([CIC)V"⟩
theorem ef_245 (m : MethodId) (x0 : Addr) (x1 : Int32) (x2 : Int32) : entryFrame m #[(.ref x0), (.int x1), (.int x2)] 3 = mkF m 0 #[.val (.ref x0), .val (.int x1), .val (.int x2)] [] := by first | (simp [entryFrame, mkF, argsToLocals, Value.category]; done) | rfl
theorem d13_0 : decode method_4_code 0 = .ok (.iload_n 1, 1) := by decide +kernel
theorem d13_1 : decode method_4_code 1 = .ok (.aload_n 0, 1) := by decide +kernel
theorem d13_2 : decode method_4_code 2 = .ok (.arraylength, 1) := by decide +kernel
theorem d13_3 : decode method_4_code 3 = .ok (.if_icmp .ge 7, 3) := by decide +kernel
theorem d13_6 : decode method_4_code 6 = .ok (.aload_n 0, 1) := by decide +kernel
theorem d13_7 : decode method_4_code 7 = .ok (.iload_n 1, 1) := by decide +kernel
theorem d13_8 : decode method_4_code 8 = .ok (.iload_n 2, 1) := by decide +kernel
theorem d13_9 : decode method_4_code 9 = .ok (.castore, 1) := by decide +kernel
theorem d13_10 : decode method_4_code 10 = .ok (.return_, 1) := by decide +kernel
abbrev R_put : Room := { frames := 0, cells := 0, slots := 0, locals := 0 }
def Q_put (Z : State) (G1 : Int32) (G3 : Value) (b : Addr) (k : ClassId) (nn : Int32) (cs : List Int32) (ii : Int32) (cc : Int32) (h0 : Heap) (n0 : Nat) (v : Option Value) (h : Heap) (L : List Loc) : Prop := (∃ cs2 : List Int32, v = none ∧ Fr n0 L ∧ Keep h0 h [b] ∧ (Arv Z h b k .char nn (own_iv cs2) (.int (0 : Int32))) ∧ (cs2.length = nn.toNatClampNeg) ∧ (own_lat cs2))
set_option maxRecDepth 65536 in
set_option maxHeartbeats 40000000 in
theorem rm_put (l : Launch) (Z : State) (a0 : Array Value) (hw : ∀ d ∈ tables_1, d.before a0 Z = true) (ws : List Jvm.Cond) (G1 : Int32) (G3 : Value) (HG : own_G l Z a0 G1 G3) (h0 : Heap) (n0 : Nat) (X00 : Old Z n0 h0) (b : Addr) (k : ClassId) (nn : Int32) (cs : List Int32) (ii : Int32) (cc : Int32) (hp0 : Arv Z h0 b k .char nn (own_iv cs) (.int (0 : Int32))) (hl1 : cs.length = nn.toNatClampNeg) (hla : own_lat cs) (hi0 : ¬ (ii < (0 : Int32))) (hc0 : ¬ (cc < (0 : Int32))) (hc1 : ¬ ((255 : Int32) < cc)) (hp6 : n0 ≤ b) :
    own_CP l Z M244 method_4_code 3 none ws R_put #[(.ref b), (.int ii), (.int cc)] h0 (Q_put Z G1 G3 b k nn cs ii cc h0 n0) := by
  refine own_P (plainFor_of_name pn_218) ?_
  intro p e s m below meth c s₁ S0 Bd hZ hh hx hby hml hown hnm X0 e0 hS0d
  obtain ⟨O1, P1, O3f, rG3⟩ := id HG
  have N0 := Fr.nil n0
  have C0 : Steps p.tables e below S0 (s₁.setTop (mkF m 0 #[.val (.ref b), .val (.int ii), .val (.int cc)] [])) := by rw [hS0d]; exact castTop (ef_245 m b ii cc) (Steps.refl _)
  obtain ⟨c_1, A_2, q_3, S_4, M_5, H_6, U_7⟩ := id hp0
  have C_8 : Steps p.tables e below S0 (s₁.setTop (mkF m 3 #[.val (.ref b), .val (.int ii), .val (.int cc)] [(.int nn), (.int ii)])) := by
    refine C0.trans ?_
    refine XS.iloadN X0.here hx rfl (hb hby d13_0) rfl ?_
    refine XS.aloadN X0.here hx rfl (hb hby d13_1) rfl rfl ?_
    refine X0.arraylength hx (by rw [e0]; exact A_2.1) (State.isArrayOf_alike hZ.alike A_2.2.1) (g := (mkF m 2 #[.val (.ref b), .val (.int ii), .val (.int cc)] [(.ref b), (.int ii)])) rfl rfl (hb hby d13_2) _ ?_
    rw [len_of S_4 M_5]
    exact Steps.refl _
  by_cases hc_9 : ii < nn
  · skip
    obtain ⟨c_10, A_11, q_12, S_13, M_14, H_15, U_16⟩ := id hp0
    have hin_23 : ¬ (ii < 0 ∨ c_10.slots.size ≤ ii.toNatClampNeg) := inb_of S_13 ⟨hi0, hc_9⟩
    obtain ⟨T_17, h_18, X_19, e_20, W_21, st_22⟩ := stC X0 hx hZ e0 A_11 (j := ii) hin_23 (g := (mkF m 9 #[.val (.ref b), .val (.int ii), .val (.int cc)] [(.int cc), (.int ii), (.ref b)])) rfl rfl (hb hby d13_9)
    have N_24 := Fr.snoc X_19 N0 hp6
    have V_25 : Arv Z h_18 b k .char nn (own_iv (cs.set ii.toNatClampNeg cc)) (.int (0 : Int32)) := by have q := own_iv_set (Arv.set A_11 q_12 S_13 M_14 H_15 U_16 (fits_nar_char _) W_21 ii.toNatClampNeg rfl (own_ix hl1 hi0 hc_9)); rw [own_narc hc0 hc1] at q; exact q
    have C_26 : Steps p.tables e below S0 (T_17.setTop (mkF m 10 #[.val (.ref b), .val (.int ii), .val (.int cc)] [])) := by
      refine C_8.trans ?_
      refine XS.icmpNo X0.here hx rfl (hb hby d13_3) rfl (ii_ge_f hc_9) ?_
      refine XS.aloadN X0.here hx rfl (hb hby d13_6) rfl rfl ?_
      refine XS.iloadN X0.here hx rfl (hb hby d13_7) rfl ?_
      refine XS.iloadN X0.here hx rfl (hb hby d13_8) rfl ?_
      refine st_22 _ ?_
      exact Steps.refl _
    have K_27 : Keep h0 h_18 [b] := ((Keep.refl _ _).wr W_21 (Or.inl (List.mem_of_getElem? (i := 0) rfl)))
    obtain ⟨fs, hr, hrun, hended, hW, hsame⟩ := X_19.leave (v := none) (fun _ => rfl)
    refine ⟨_, _, C_26.trans (X_19.returnOut hx Bd.returns (hb hby d13_10) hr), hrun, hended, _, _, rfl, ?_, ⟨_, rfl⟩, hW, hsame.mono (by decide) (by decide)⟩
    show Q_put Z G1 G3 b k nn cs ii cc h0 n0 (none) T_17.heap _
    rw [e_20]
    exact ⟨(cs.set ii.toNatClampNeg cc), rfl, N_24, K_27, V_25, (own_setlen hl1), (own_setlat hla hc0 hc1)⟩
  · skip
    have C_28 : Steps p.tables e below S0 (s₁.setTop (mkF m 10 #[.val (.ref b), .val (.int ii), .val (.int cc)] [])) := by
      refine C_8.trans ?_
      refine XS.icmpYes X0.here hx rfl (pc0 := 3) (pc' := 10) rfl (hb hby d13_3) rfl (ii_ge_t hc_9) (by decide) (by decide) ?_
      exact Steps.refl _
    have K_29 : Keep h0 h0 [b] := (Keep.refl _ _)
    obtain ⟨fs, hr, hrun, hended, hW, hsame⟩ := X0.leave (v := none) (fun _ => rfl)
    refine ⟨_, _, C_28.trans (X0.returnOut hx Bd.returns (hb hby d13_10) hr), hrun, hended, _, _, rfl, ?_, ⟨_, rfl⟩, hW, hsame.mono (by decide) (by decide)⟩
    show Q_put Z G1 G3 b k nn cs ii cc h0 n0 (none) s₁.heap _
    rw [e0]
    exact ⟨cs, rfl, N0, K_29, hp0, hl1, hla⟩
abbrev R_put0 : Room := { frames := 0, cells := 0, slots := 0, locals := 0 }
def Q_put0 (Z : State) (G1 : Int32) (G3 : Value) (b : Addr) (k : ClassId) (ii : Int32) (cc : Int32) (h0 : Heap) (n0 : Nat) (v : Option Value) (h : Heap) (L : List Loc) : Prop := (v = none ∧ Fr n0 L ∧ h = h0)
set_option maxRecDepth 65536 in
set_option maxHeartbeats 40000000 in
theorem rm_put0 (l : Launch) (Z : State) (a0 : Array Value) (hw : ∀ d ∈ tables_1, d.before a0 Z = true) (ws : List Jvm.Cond) (G1 : Int32) (G3 : Value) (HG : own_G l Z a0 G1 G3) (h0 : Heap) (n0 : Nat) (X00 : Old Z n0 h0) (b : Addr) (k : ClassId) (ii : Int32) (cc : Int32) (hp0 : Arv Z h0 b k .char (0 : Int32) [] (.int (0 : Int32))) (hi0 : ¬ (ii < (0 : Int32))) :
    own_CP l Z M244 method_4_code 3 none ws R_put0 #[(.ref b), (.int ii), (.int cc)] h0 (Q_put0 Z G1 G3 b k ii cc h0 n0) := by
  refine own_P (plainFor_of_name pn_218) ?_
  intro p e s m below meth c s₁ S0 Bd hZ hh hx hby hml hown hnm X0 e0 hS0d
  obtain ⟨O1, P1, O3f, rG3⟩ := id HG
  have N0 := Fr.nil n0
  have C0 : Steps p.tables e below S0 (s₁.setTop (mkF m 0 #[.val (.ref b), .val (.int ii), .val (.int cc)] [])) := by rw [hS0d]; exact castTop (ef_245 m b ii cc) (Steps.refl _)
  obtain ⟨c_1, A_2, q_3, S_4, M_5, H_6, U_7⟩ := id hp0
  have C_8 : Steps p.tables e below S0 (s₁.setTop (mkF m 10 #[.val (.ref b), .val (.int ii), .val (.int cc)] [])) := by
    refine C0.trans ?_
    refine XS.iloadN X0.here hx rfl (hb hby d13_0) rfl ?_
    refine XS.aloadN X0.here hx rfl (hb hby d13_1) rfl rfl ?_
    refine X0.arraylength hx (by rw [e0]; exact A_2.1) (State.isArrayOf_alike hZ.alike A_2.2.1) (g := (mkF m 2 #[.val (.ref b), .val (.int ii), .val (.int cc)] [(.ref b), (.int ii)])) rfl rfl (hb hby d13_2) _ ?_
    rw [len_of S_4 M_5]
    refine XS.icmpYes X0.here hx rfl (pc0 := 3) (pc' := 10) rfl (hb hby d13_3) rfl (ii_ge_t hi0) (by decide) (by decide) ?_
    exact Steps.refl _
  obtain ⟨fs, hr, hrun, hended, hW, hsame⟩ := X0.leave (v := none) (fun _ => rfl)
  refine ⟨_, _, C_8.trans (X0.returnOut hx Bd.returns (hb hby d13_10) hr), hrun, hended, _, _, rfl, ?_, ⟨_, rfl⟩, hW, hsame.mono (by decide) (by decide)⟩
  show Q_put0 Z G1 G3 b k ii cc h0 n0 (none) s₁.heap _
  rw [e0]
  exact ⟨rfl, N0, rfl⟩
abbrev M255 : MethodName := ⟨"com/example/claimgate/claimgate/config/ConfigSyntaxMayHoldHashPinLaw", "hashChar", "(C)Z"⟩
theorem ef_256 (m : MethodId) (x0 : Int32) : entryFrame m #[(.int x0)] 1 = mkF m 0 #[.val (.int x0)] [] := by first | (simp [entryFrame, mkF, argsToLocals, Value.category]; done) | rfl
theorem d14_0 : decode method_7_code 0 = .ok (.iload_n 0, 1) := by decide +kernel
theorem d14_1 : decode method_7_code 1 = .ok (.bipush 65, 2) := by decide +kernel
theorem d14_3 : decode method_7_code 3 = .ok (.if_icmp .lt 11, 3) := by decide +kernel
theorem d14_14 : decode method_7_code 14 = .ok (.iload_n 0, 1) := by decide +kernel
theorem d14_15 : decode method_7_code 15 = .ok (.bipush 97, 2) := by decide +kernel
theorem d14_17 : decode method_7_code 17 = .ok (.if_icmp .lt 11, 3) := by decide +kernel
theorem d14_28 : decode method_7_code 28 = .ok (.iload_n 0, 1) := by decide +kernel
theorem d14_29 : decode method_7_code 29 = .ok (.bipush 48, 2) := by decide +kernel
theorem d14_31 : decode method_7_code 31 = .ok (.if_icmp .lt 11, 3) := by decide +kernel
theorem d14_42 : decode method_7_code 42 = .ok (.iload_n 0, 1) := by decide +kernel
theorem d14_43 : decode method_7_code 43 = .ok (.bipush 43, 2) := by decide +kernel
theorem d14_45 : decode method_7_code 45 = .ok (.if_icmp .eq 15, 3) := by decide +kernel
theorem d14_60 : decode method_7_code 60 = .ok (.iconst 1, 1) := by decide +kernel
theorem d14_61 : decode method_7_code 61 = .ok (.goto 4, 3) := by decide +kernel
theorem d14_65 : decode method_7_code 65 = .ok (.ireturn, 1) := by decide +kernel
theorem d14_48 : decode method_7_code 48 = .ok (.iload_n 0, 1) := by decide +kernel
theorem d14_49 : decode method_7_code 49 = .ok (.bipush 47, 2) := by decide +kernel
theorem d14_51 : decode method_7_code 51 = .ok (.if_icmp .eq 9, 3) := by decide +kernel
theorem d14_54 : decode method_7_code 54 = .ok (.iload_n 0, 1) := by decide +kernel
theorem d14_55 : decode method_7_code 55 = .ok (.bipush 46, 2) := by decide +kernel
theorem d14_57 : decode method_7_code 57 = .ok (.if_icmp .ne 7, 3) := by decide +kernel
theorem d14_64 : decode method_7_code 64 = .ok (.iconst 0, 1) := by decide +kernel
theorem d14_34 : decode method_7_code 34 = .ok (.iload_n 0, 1) := by decide +kernel
theorem d14_35 : decode method_7_code 35 = .ok (.bipush 57, 2) := by decide +kernel
theorem d14_37 : decode method_7_code 37 = .ok (.if_icmp .gt 5, 3) := by decide +kernel
theorem d14_40 : decode method_7_code 40 = .ok (.iconst 1, 1) := by decide +kernel
theorem d14_41 : decode method_7_code 41 = .ok (.ireturn, 1) := by decide +kernel
theorem d14_20 : decode method_7_code 20 = .ok (.iload_n 0, 1) := by decide +kernel
theorem d14_21 : decode method_7_code 21 = .ok (.bipush 122, 2) := by decide +kernel
theorem d14_23 : decode method_7_code 23 = .ok (.if_icmp .gt 5, 3) := by decide +kernel
theorem d14_26 : decode method_7_code 26 = .ok (.iconst 1, 1) := by decide +kernel
theorem d14_27 : decode method_7_code 27 = .ok (.ireturn, 1) := by decide +kernel
theorem d14_6 : decode method_7_code 6 = .ok (.iload_n 0, 1) := by decide +kernel
theorem d14_7 : decode method_7_code 7 = .ok (.bipush 90, 2) := by decide +kernel
theorem d14_9 : decode method_7_code 9 = .ok (.if_icmp .gt 5, 3) := by decide +kernel
theorem d14_12 : decode method_7_code 12 = .ok (.iconst 1, 1) := by decide +kernel
theorem d14_13 : decode method_7_code 13 = .ok (.ireturn, 1) := by decide +kernel
abbrev R_hashc : Room := { frames := 0, cells := 0, slots := 0, locals := 0 }
def Q_hashc (Z : State) (G1 : Int32) (G3 : Value) (cc : Int32) (h0 : Heap) (n0 : Nat) (v : Option Value) (h : Heap) (L : List Loc) : Prop := (∃ rr : Int32, v = some (.int rr) ∧ Fr n0 L ∧ h = h0 ∧ (rr = own_b (own_hash cc)))
set_option maxRecDepth 65536 in
set_option maxHeartbeats 40000000 in
theorem rm_hashc (l : Launch) (Z : State) (a0 : Array Value) (hw : ∀ d ∈ tables_1, d.before a0 Z = true) (ws : List Jvm.Cond) (G1 : Int32) (G3 : Value) (HG : own_G l Z a0 G1 G3) (h0 : Heap) (n0 : Nat) (X00 : Old Z n0 h0) (cc : Int32)  :
    own_CP l Z M255 method_7_code 1 (some .boolean) ws R_hashc #[(.int cc)] h0 (Q_hashc Z G1 G3 cc h0 n0) := by
  refine own_P (plainFor_of_name pn_218) ?_
  intro p e s m below meth c s₁ S0 Bd hZ hh hx hby hml hown hnm X0 e0 hS0d
  obtain ⟨O1, P1, O3f, rG3⟩ := id HG
  have N0 := Fr.nil n0
  have C0 : Steps p.tables e below S0 (s₁.setTop (mkF m 0 #[.val (.int cc)] [])) := by rw [hS0d]; exact castTop (ef_256 m cc) (Steps.refl _)
  have C_1 : Steps p.tables e below S0 (s₁.setTop (mkF m 3 #[.val (.int cc)] [(.int (65 : Int32)), (.int cc)])) := by
    refine C0.trans ?_
    refine XS.iloadN X0.here hx rfl (hb hby d14_0) rfl ?_
    refine XS.bipush X0.here hx rfl (hb hby d14_1) ?_
    exact Steps.refl _
  by_cases hc_2 : cc < (65 : Int32)
  · skip
    have C_3 : Steps p.tables e below S0 (s₁.setTop (mkF m 17 #[.val (.int cc)] [(.int (97 : Int32)), (.int cc)])) := by
      refine C_1.trans ?_
      refine XS.icmpYes X0.here hx rfl (pc0 := 3) (pc' := 14) rfl (hb hby d14_3) rfl (ii_lt_t hc_2) (by decide) (by decide) ?_
      refine XS.iloadN X0.here hx rfl (hb hby d14_14) rfl ?_
      refine XS.bipush X0.here hx rfl (hb hby d14_15) ?_
      exact Steps.refl _
    by_cases hc_4 : cc < (97 : Int32)
    · skip
      have C_5 : Steps p.tables e below S0 (s₁.setTop (mkF m 31 #[.val (.int cc)] [(.int (48 : Int32)), (.int cc)])) := by
        refine C_3.trans ?_
        refine XS.icmpYes X0.here hx rfl (pc0 := 17) (pc' := 28) rfl (hb hby d14_17) rfl (ii_lt_t hc_4) (by decide) (by decide) ?_
        refine XS.iloadN X0.here hx rfl (hb hby d14_28) rfl ?_
        refine XS.bipush X0.here hx rfl (hb hby d14_29) ?_
        exact Steps.refl _
      by_cases hc_6 : cc < (48 : Int32)
      · skip
        have C_7 : Steps p.tables e below S0 (s₁.setTop (mkF m 45 #[.val (.int cc)] [(.int (43 : Int32)), (.int cc)])) := by
          refine C_5.trans ?_
          refine XS.icmpYes X0.here hx rfl (pc0 := 31) (pc' := 42) rfl (hb hby d14_31) rfl (ii_lt_t hc_6) (by decide) (by decide) ?_
          refine XS.iloadN X0.here hx rfl (hb hby d14_42) rfl ?_
          refine XS.bipush X0.here hx rfl (hb hby d14_43) ?_
          exact Steps.refl _
        by_cases hc_8 : cc = (43 : Int32)
        · skip
          have C_9 : Steps p.tables e below S0 (s₁.setTop (mkF m 65 #[.val (.int cc)] [(.int (1 : Int32))])) := by
            refine C_7.trans ?_
            refine XS.icmpYes X0.here hx rfl (pc0 := 45) (pc' := 60) rfl (hb hby d14_45) rfl (ii_eq_t hc_8) (by decide) (by decide) ?_
            refine XS.iconst X0.here hx rfl (hb hby d14_60) ?_
            refine XS.goto X0.here hx rfl (pc0 := 61) (pc' := 65) rfl (hb hby d14_61) (by decide) (by decide) ?_
            exact Steps.refl _
          obtain ⟨fs, hr, hrun, hended, hW, hsame⟩ := X0.leave (v := some (.int (1 : Int32))) (fun h => by rw [Bd.returns] at h; cases h)
          refine ⟨_, _, C_9.trans (retN X0 hx (t := .boolean) Bd.returns (by simp) (hb hby d14_65) hr), hrun, hended, _, _, rfl, ?_, ⟨_, rfl⟩, hW, hsame.mono (by decide) (by decide)⟩
          show Q_hashc Z G1 G3 cc h0 n0 (some (.int (1 : Int32))) s₁.heap _
          rw [e0]
          exact ⟨(1 : Int32), rfl, N0, rfl, (own_bT (Or.inr (Or.inr (Or.inr (Or.inl hc_8)))))⟩
        · skip
          have C_10 : Steps p.tables e below S0 (s₁.setTop (mkF m 51 #[.val (.int cc)] [(.int (47 : Int32)), (.int cc)])) := by
            refine C_7.trans ?_
            refine XS.icmpNo X0.here hx rfl (hb hby d14_45) rfl (ii_eq_f hc_8) ?_
            refine XS.iloadN X0.here hx rfl (hb hby d14_48) rfl ?_
            refine XS.bipush X0.here hx rfl (hb hby d14_49) ?_
            exact Steps.refl _
          by_cases hc_11 : cc = (47 : Int32)
          · skip
            have C_12 : Steps p.tables e below S0 (s₁.setTop (mkF m 65 #[.val (.int cc)] [(.int (1 : Int32))])) := by
              refine C_10.trans ?_
              refine XS.icmpYes X0.here hx rfl (pc0 := 51) (pc' := 60) rfl (hb hby d14_51) rfl (ii_eq_t hc_11) (by decide) (by decide) ?_
              refine XS.iconst X0.here hx rfl (hb hby d14_60) ?_
              refine XS.goto X0.here hx rfl (pc0 := 61) (pc' := 65) rfl (hb hby d14_61) (by decide) (by decide) ?_
              exact Steps.refl _
            obtain ⟨fs, hr, hrun, hended, hW, hsame⟩ := X0.leave (v := some (.int (1 : Int32))) (fun h => by rw [Bd.returns] at h; cases h)
            refine ⟨_, _, C_12.trans (retN X0 hx (t := .boolean) Bd.returns (by simp) (hb hby d14_65) hr), hrun, hended, _, _, rfl, ?_, ⟨_, rfl⟩, hW, hsame.mono (by decide) (by decide)⟩
            show Q_hashc Z G1 G3 cc h0 n0 (some (.int (1 : Int32))) s₁.heap _
            rw [e0]
            exact ⟨(1 : Int32), rfl, N0, rfl, (own_bT (Or.inr (Or.inr (Or.inr (Or.inr (Or.inl hc_11))))))⟩
          · skip
            have C_13 : Steps p.tables e below S0 (s₁.setTop (mkF m 57 #[.val (.int cc)] [(.int (46 : Int32)), (.int cc)])) := by
              refine C_10.trans ?_
              refine XS.icmpNo X0.here hx rfl (hb hby d14_51) rfl (ii_eq_f hc_11) ?_
              refine XS.iloadN X0.here hx rfl (hb hby d14_54) rfl ?_
              refine XS.bipush X0.here hx rfl (hb hby d14_55) ?_
              exact Steps.refl _
            by_cases hc_14 : cc = (46 : Int32)
            · skip
              have C_15 : Steps p.tables e below S0 (s₁.setTop (mkF m 65 #[.val (.int cc)] [(.int (1 : Int32))])) := by
                refine C_13.trans ?_
                refine XS.icmpNo X0.here hx rfl (hb hby d14_57) rfl (ii_ne_f hc_14) ?_
                refine XS.iconst X0.here hx rfl (hb hby d14_60) ?_
                refine XS.goto X0.here hx rfl (pc0 := 61) (pc' := 65) rfl (hb hby d14_61) (by decide) (by decide) ?_
                exact Steps.refl _
              obtain ⟨fs, hr, hrun, hended, hW, hsame⟩ := X0.leave (v := some (.int (1 : Int32))) (fun h => by rw [Bd.returns] at h; cases h)
              refine ⟨_, _, C_15.trans (retN X0 hx (t := .boolean) Bd.returns (by simp) (hb hby d14_65) hr), hrun, hended, _, _, rfl, ?_, ⟨_, rfl⟩, hW, hsame.mono (by decide) (by decide)⟩
              show Q_hashc Z G1 G3 cc h0 n0 (some (.int (1 : Int32))) s₁.heap _
              rw [e0]
              exact ⟨(1 : Int32), rfl, N0, rfl, (own_bT (Or.inr (Or.inr (Or.inr (Or.inr (Or.inr hc_14))))))⟩
            · skip
              have C_16 : Steps p.tables e below S0 (s₁.setTop (mkF m 65 #[.val (.int cc)] [(.int (0 : Int32))])) := by
                refine C_13.trans ?_
                refine XS.icmpYes X0.here hx rfl (pc0 := 57) (pc' := 64) rfl (hb hby d14_57) rfl (ii_ne_t hc_14) (by decide) (by decide) ?_
                refine XS.iconst X0.here hx rfl (hb hby d14_64) ?_
                exact Steps.refl _
              obtain ⟨fs, hr, hrun, hended, hW, hsame⟩ := X0.leave (v := some (.int (0 : Int32))) (fun h => by rw [Bd.returns] at h; cases h)
              refine ⟨_, _, C_16.trans (retN X0 hx (t := .boolean) Bd.returns (by simp) (hb hby d14_65) hr), hrun, hended, _, _, rfl, ?_, ⟨_, rfl⟩, hW, hsame.mono (by decide) (by decide)⟩
              show Q_hashc Z G1 G3 cc h0 n0 (some (.int (0 : Int32))) s₁.heap _
              rw [e0]
              exact ⟨(0 : Int32), rfl, N0, rfl, (own_bF (fun q => q.1 hc_2) (fun q => q.1 hc_4) (fun q => q.1 hc_6) hc_8 hc_11 hc_14)⟩
      · skip
        have C_17 : Steps p.tables e below S0 (s₁.setTop (mkF m 37 #[.val (.int cc)] [(.int (57 : Int32)), (.int cc)])) := by
          refine C_5.trans ?_
          refine XS.icmpNo X0.here hx rfl (hb hby d14_31) rfl (ii_lt_f hc_6) ?_
          refine XS.iloadN X0.here hx rfl (hb hby d14_34) rfl ?_
          refine XS.bipush X0.here hx rfl (hb hby d14_35) ?_
          exact Steps.refl _
        by_cases hc_18 : (57 : Int32) < cc
        · skip
          have C_19 : Steps p.tables e below S0 (s₁.setTop (mkF m 45 #[.val (.int cc)] [(.int (43 : Int32)), (.int cc)])) := by
            refine C_17.trans ?_
            refine XS.icmpYes X0.here hx rfl (pc0 := 37) (pc' := 42) rfl (hb hby d14_37) rfl (ii_gt_t hc_18) (by decide) (by decide) ?_
            refine XS.iloadN X0.here hx rfl (hb hby d14_42) rfl ?_
            refine XS.bipush X0.here hx rfl (hb hby d14_43) ?_
            exact Steps.refl _
          by_cases hc_20 : cc = (43 : Int32)
          · skip
            have C_21 : Steps p.tables e below S0 (s₁.setTop (mkF m 65 #[.val (.int cc)] [(.int (1 : Int32))])) := by
              refine C_19.trans ?_
              refine XS.icmpYes X0.here hx rfl (pc0 := 45) (pc' := 60) rfl (hb hby d14_45) rfl (ii_eq_t hc_20) (by decide) (by decide) ?_
              refine XS.iconst X0.here hx rfl (hb hby d14_60) ?_
              refine XS.goto X0.here hx rfl (pc0 := 61) (pc' := 65) rfl (hb hby d14_61) (by decide) (by decide) ?_
              exact Steps.refl _
            obtain ⟨fs, hr, hrun, hended, hW, hsame⟩ := X0.leave (v := some (.int (1 : Int32))) (fun h => by rw [Bd.returns] at h; cases h)
            refine ⟨_, _, C_21.trans (retN X0 hx (t := .boolean) Bd.returns (by simp) (hb hby d14_65) hr), hrun, hended, _, _, rfl, ?_, ⟨_, rfl⟩, hW, hsame.mono (by decide) (by decide)⟩
            show Q_hashc Z G1 G3 cc h0 n0 (some (.int (1 : Int32))) s₁.heap _
            rw [e0]
            exact ⟨(1 : Int32), rfl, N0, rfl, (own_bT (Or.inr (Or.inr (Or.inr (Or.inl hc_20)))))⟩
          · skip
            have C_22 : Steps p.tables e below S0 (s₁.setTop (mkF m 51 #[.val (.int cc)] [(.int (47 : Int32)), (.int cc)])) := by
              refine C_19.trans ?_
              refine XS.icmpNo X0.here hx rfl (hb hby d14_45) rfl (ii_eq_f hc_20) ?_
              refine XS.iloadN X0.here hx rfl (hb hby d14_48) rfl ?_
              refine XS.bipush X0.here hx rfl (hb hby d14_49) ?_
              exact Steps.refl _
            by_cases hc_23 : cc = (47 : Int32)
            · skip
              have C_24 : Steps p.tables e below S0 (s₁.setTop (mkF m 65 #[.val (.int cc)] [(.int (1 : Int32))])) := by
                refine C_22.trans ?_
                refine XS.icmpYes X0.here hx rfl (pc0 := 51) (pc' := 60) rfl (hb hby d14_51) rfl (ii_eq_t hc_23) (by decide) (by decide) ?_
                refine XS.iconst X0.here hx rfl (hb hby d14_60) ?_
                refine XS.goto X0.here hx rfl (pc0 := 61) (pc' := 65) rfl (hb hby d14_61) (by decide) (by decide) ?_
                exact Steps.refl _
              obtain ⟨fs, hr, hrun, hended, hW, hsame⟩ := X0.leave (v := some (.int (1 : Int32))) (fun h => by rw [Bd.returns] at h; cases h)
              refine ⟨_, _, C_24.trans (retN X0 hx (t := .boolean) Bd.returns (by simp) (hb hby d14_65) hr), hrun, hended, _, _, rfl, ?_, ⟨_, rfl⟩, hW, hsame.mono (by decide) (by decide)⟩
              show Q_hashc Z G1 G3 cc h0 n0 (some (.int (1 : Int32))) s₁.heap _
              rw [e0]
              exact ⟨(1 : Int32), rfl, N0, rfl, (own_bT (Or.inr (Or.inr (Or.inr (Or.inr (Or.inl hc_23))))))⟩
            · skip
              have C_25 : Steps p.tables e below S0 (s₁.setTop (mkF m 57 #[.val (.int cc)] [(.int (46 : Int32)), (.int cc)])) := by
                refine C_22.trans ?_
                refine XS.icmpNo X0.here hx rfl (hb hby d14_51) rfl (ii_eq_f hc_23) ?_
                refine XS.iloadN X0.here hx rfl (hb hby d14_54) rfl ?_
                refine XS.bipush X0.here hx rfl (hb hby d14_55) ?_
                exact Steps.refl _
              by_cases hc_26 : cc = (46 : Int32)
              · skip
                have C_27 : Steps p.tables e below S0 (s₁.setTop (mkF m 65 #[.val (.int cc)] [(.int (1 : Int32))])) := by
                  refine C_25.trans ?_
                  refine XS.icmpNo X0.here hx rfl (hb hby d14_57) rfl (ii_ne_f hc_26) ?_
                  refine XS.iconst X0.here hx rfl (hb hby d14_60) ?_
                  refine XS.goto X0.here hx rfl (pc0 := 61) (pc' := 65) rfl (hb hby d14_61) (by decide) (by decide) ?_
                  exact Steps.refl _
                obtain ⟨fs, hr, hrun, hended, hW, hsame⟩ := X0.leave (v := some (.int (1 : Int32))) (fun h => by rw [Bd.returns] at h; cases h)
                refine ⟨_, _, C_27.trans (retN X0 hx (t := .boolean) Bd.returns (by simp) (hb hby d14_65) hr), hrun, hended, _, _, rfl, ?_, ⟨_, rfl⟩, hW, hsame.mono (by decide) (by decide)⟩
                show Q_hashc Z G1 G3 cc h0 n0 (some (.int (1 : Int32))) s₁.heap _
                rw [e0]
                exact ⟨(1 : Int32), rfl, N0, rfl, (own_bT (Or.inr (Or.inr (Or.inr (Or.inr (Or.inr hc_26))))))⟩
              · skip
                have C_28 : Steps p.tables e below S0 (s₁.setTop (mkF m 65 #[.val (.int cc)] [(.int (0 : Int32))])) := by
                  refine C_25.trans ?_
                  refine XS.icmpYes X0.here hx rfl (pc0 := 57) (pc' := 64) rfl (hb hby d14_57) rfl (ii_ne_t hc_26) (by decide) (by decide) ?_
                  refine XS.iconst X0.here hx rfl (hb hby d14_64) ?_
                  exact Steps.refl _
                obtain ⟨fs, hr, hrun, hended, hW, hsame⟩ := X0.leave (v := some (.int (0 : Int32))) (fun h => by rw [Bd.returns] at h; cases h)
                refine ⟨_, _, C_28.trans (retN X0 hx (t := .boolean) Bd.returns (by simp) (hb hby d14_65) hr), hrun, hended, _, _, rfl, ?_, ⟨_, rfl⟩, hW, hsame.mono (by decide) (by decide)⟩
                show Q_hashc Z G1 G3 cc h0 n0 (some (.int (0 : Int32))) s₁.heap _
                rw [e0]
                exact ⟨(0 : Int32), rfl, N0, rfl, (own_bF (fun q => q.1 hc_2) (fun q => q.1 hc_4) (fun q => q.2 hc_18) hc_20 hc_23 hc_26)⟩
        · skip
          have C_29 : Steps p.tables e below S0 (s₁.setTop (mkF m 41 #[.val (.int cc)] [(.int (1 : Int32))])) := by
            refine C_17.trans ?_
            refine XS.icmpNo X0.here hx rfl (hb hby d14_37) rfl (ii_gt_f hc_18) ?_
            refine XS.iconst X0.here hx rfl (hb hby d14_40) ?_
            exact Steps.refl _
          obtain ⟨fs, hr, hrun, hended, hW, hsame⟩ := X0.leave (v := some (.int (1 : Int32))) (fun h => by rw [Bd.returns] at h; cases h)
          refine ⟨_, _, C_29.trans (retN X0 hx (t := .boolean) Bd.returns (by simp) (hb hby d14_41) hr), hrun, hended, _, _, rfl, ?_, ⟨_, rfl⟩, hW, hsame.mono (by decide) (by decide)⟩
          show Q_hashc Z G1 G3 cc h0 n0 (some (.int (1 : Int32))) s₁.heap _
          rw [e0]
          exact ⟨(1 : Int32), rfl, N0, rfl, (own_bT (Or.inr (Or.inr (Or.inl ⟨hc_6, hc_18⟩))))⟩
    · skip
      have C_30 : Steps p.tables e below S0 (s₁.setTop (mkF m 23 #[.val (.int cc)] [(.int (122 : Int32)), (.int cc)])) := by
        refine C_3.trans ?_
        refine XS.icmpNo X0.here hx rfl (hb hby d14_17) rfl (ii_lt_f hc_4) ?_
        refine XS.iloadN X0.here hx rfl (hb hby d14_20) rfl ?_
        refine XS.bipush X0.here hx rfl (hb hby d14_21) ?_
        exact Steps.refl _
      by_cases hc_31 : (122 : Int32) < cc
      · skip
        have C_32 : Steps p.tables e below S0 (s₁.setTop (mkF m 31 #[.val (.int cc)] [(.int (48 : Int32)), (.int cc)])) := by
          refine C_30.trans ?_
          refine XS.icmpYes X0.here hx rfl (pc0 := 23) (pc' := 28) rfl (hb hby d14_23) rfl (ii_gt_t hc_31) (by decide) (by decide) ?_
          refine XS.iloadN X0.here hx rfl (hb hby d14_28) rfl ?_
          refine XS.bipush X0.here hx rfl (hb hby d14_29) ?_
          exact Steps.refl _
        by_cases hc_33 : cc < (48 : Int32)
        · skip
          have C_34 : Steps p.tables e below S0 (s₁.setTop (mkF m 45 #[.val (.int cc)] [(.int (43 : Int32)), (.int cc)])) := by
            refine C_32.trans ?_
            refine XS.icmpYes X0.here hx rfl (pc0 := 31) (pc' := 42) rfl (hb hby d14_31) rfl (ii_lt_t hc_33) (by decide) (by decide) ?_
            refine XS.iloadN X0.here hx rfl (hb hby d14_42) rfl ?_
            refine XS.bipush X0.here hx rfl (hb hby d14_43) ?_
            exact Steps.refl _
          by_cases hc_35 : cc = (43 : Int32)
          · skip
            have C_36 : Steps p.tables e below S0 (s₁.setTop (mkF m 65 #[.val (.int cc)] [(.int (1 : Int32))])) := by
              refine C_34.trans ?_
              refine XS.icmpYes X0.here hx rfl (pc0 := 45) (pc' := 60) rfl (hb hby d14_45) rfl (ii_eq_t hc_35) (by decide) (by decide) ?_
              refine XS.iconst X0.here hx rfl (hb hby d14_60) ?_
              refine XS.goto X0.here hx rfl (pc0 := 61) (pc' := 65) rfl (hb hby d14_61) (by decide) (by decide) ?_
              exact Steps.refl _
            obtain ⟨fs, hr, hrun, hended, hW, hsame⟩ := X0.leave (v := some (.int (1 : Int32))) (fun h => by rw [Bd.returns] at h; cases h)
            refine ⟨_, _, C_36.trans (retN X0 hx (t := .boolean) Bd.returns (by simp) (hb hby d14_65) hr), hrun, hended, _, _, rfl, ?_, ⟨_, rfl⟩, hW, hsame.mono (by decide) (by decide)⟩
            show Q_hashc Z G1 G3 cc h0 n0 (some (.int (1 : Int32))) s₁.heap _
            rw [e0]
            exact ⟨(1 : Int32), rfl, N0, rfl, (own_bT (Or.inr (Or.inr (Or.inr (Or.inl hc_35)))))⟩
          · skip
            have C_37 : Steps p.tables e below S0 (s₁.setTop (mkF m 51 #[.val (.int cc)] [(.int (47 : Int32)), (.int cc)])) := by
              refine C_34.trans ?_
              refine XS.icmpNo X0.here hx rfl (hb hby d14_45) rfl (ii_eq_f hc_35) ?_
              refine XS.iloadN X0.here hx rfl (hb hby d14_48) rfl ?_
              refine XS.bipush X0.here hx rfl (hb hby d14_49) ?_
              exact Steps.refl _
            by_cases hc_38 : cc = (47 : Int32)
            · skip
              have C_39 : Steps p.tables e below S0 (s₁.setTop (mkF m 65 #[.val (.int cc)] [(.int (1 : Int32))])) := by
                refine C_37.trans ?_
                refine XS.icmpYes X0.here hx rfl (pc0 := 51) (pc' := 60) rfl (hb hby d14_51) rfl (ii_eq_t hc_38) (by decide) (by decide) ?_
                refine XS.iconst X0.here hx rfl (hb hby d14_60) ?_
                refine XS.goto X0.here hx rfl (pc0 := 61) (pc' := 65) rfl (hb hby d14_61) (by decide) (by decide) ?_
                exact Steps.refl _
              obtain ⟨fs, hr, hrun, hended, hW, hsame⟩ := X0.leave (v := some (.int (1 : Int32))) (fun h => by rw [Bd.returns] at h; cases h)
              refine ⟨_, _, C_39.trans (retN X0 hx (t := .boolean) Bd.returns (by simp) (hb hby d14_65) hr), hrun, hended, _, _, rfl, ?_, ⟨_, rfl⟩, hW, hsame.mono (by decide) (by decide)⟩
              show Q_hashc Z G1 G3 cc h0 n0 (some (.int (1 : Int32))) s₁.heap _
              rw [e0]
              exact ⟨(1 : Int32), rfl, N0, rfl, (own_bT (Or.inr (Or.inr (Or.inr (Or.inr (Or.inl hc_38))))))⟩
            · skip
              have C_40 : Steps p.tables e below S0 (s₁.setTop (mkF m 57 #[.val (.int cc)] [(.int (46 : Int32)), (.int cc)])) := by
                refine C_37.trans ?_
                refine XS.icmpNo X0.here hx rfl (hb hby d14_51) rfl (ii_eq_f hc_38) ?_
                refine XS.iloadN X0.here hx rfl (hb hby d14_54) rfl ?_
                refine XS.bipush X0.here hx rfl (hb hby d14_55) ?_
                exact Steps.refl _
              by_cases hc_41 : cc = (46 : Int32)
              · skip
                have C_42 : Steps p.tables e below S0 (s₁.setTop (mkF m 65 #[.val (.int cc)] [(.int (1 : Int32))])) := by
                  refine C_40.trans ?_
                  refine XS.icmpNo X0.here hx rfl (hb hby d14_57) rfl (ii_ne_f hc_41) ?_
                  refine XS.iconst X0.here hx rfl (hb hby d14_60) ?_
                  refine XS.goto X0.here hx rfl (pc0 := 61) (pc' := 65) rfl (hb hby d14_61) (by decide) (by decide) ?_
                  exact Steps.refl _
                obtain ⟨fs, hr, hrun, hended, hW, hsame⟩ := X0.leave (v := some (.int (1 : Int32))) (fun h => by rw [Bd.returns] at h; cases h)
                refine ⟨_, _, C_42.trans (retN X0 hx (t := .boolean) Bd.returns (by simp) (hb hby d14_65) hr), hrun, hended, _, _, rfl, ?_, ⟨_, rfl⟩, hW, hsame.mono (by decide) (by decide)⟩
                show Q_hashc Z G1 G3 cc h0 n0 (some (.int (1 : Int32))) s₁.heap _
                rw [e0]
                exact ⟨(1 : Int32), rfl, N0, rfl, (own_bT (Or.inr (Or.inr (Or.inr (Or.inr (Or.inr hc_41))))))⟩
              · skip
                have C_43 : Steps p.tables e below S0 (s₁.setTop (mkF m 65 #[.val (.int cc)] [(.int (0 : Int32))])) := by
                  refine C_40.trans ?_
                  refine XS.icmpYes X0.here hx rfl (pc0 := 57) (pc' := 64) rfl (hb hby d14_57) rfl (ii_ne_t hc_41) (by decide) (by decide) ?_
                  refine XS.iconst X0.here hx rfl (hb hby d14_64) ?_
                  exact Steps.refl _
                obtain ⟨fs, hr, hrun, hended, hW, hsame⟩ := X0.leave (v := some (.int (0 : Int32))) (fun h => by rw [Bd.returns] at h; cases h)
                refine ⟨_, _, C_43.trans (retN X0 hx (t := .boolean) Bd.returns (by simp) (hb hby d14_65) hr), hrun, hended, _, _, rfl, ?_, ⟨_, rfl⟩, hW, hsame.mono (by decide) (by decide)⟩
                show Q_hashc Z G1 G3 cc h0 n0 (some (.int (0 : Int32))) s₁.heap _
                rw [e0]
                exact ⟨(0 : Int32), rfl, N0, rfl, (own_bF (fun q => q.1 hc_2) (fun q => q.2 hc_31) (fun q => q.1 hc_33) hc_35 hc_38 hc_41)⟩
        · skip
          have C_44 : Steps p.tables e below S0 (s₁.setTop (mkF m 37 #[.val (.int cc)] [(.int (57 : Int32)), (.int cc)])) := by
            refine C_32.trans ?_
            refine XS.icmpNo X0.here hx rfl (hb hby d14_31) rfl (ii_lt_f hc_33) ?_
            refine XS.iloadN X0.here hx rfl (hb hby d14_34) rfl ?_
            refine XS.bipush X0.here hx rfl (hb hby d14_35) ?_
            exact Steps.refl _
          by_cases hc_45 : (57 : Int32) < cc
          · skip
            have C_46 : Steps p.tables e below S0 (s₁.setTop (mkF m 45 #[.val (.int cc)] [(.int (43 : Int32)), (.int cc)])) := by
              refine C_44.trans ?_
              refine XS.icmpYes X0.here hx rfl (pc0 := 37) (pc' := 42) rfl (hb hby d14_37) rfl (ii_gt_t hc_45) (by decide) (by decide) ?_
              refine XS.iloadN X0.here hx rfl (hb hby d14_42) rfl ?_
              refine XS.bipush X0.here hx rfl (hb hby d14_43) ?_
              exact Steps.refl _
            by_cases hc_47 : cc = (43 : Int32)
            · skip
              have C_48 : Steps p.tables e below S0 (s₁.setTop (mkF m 65 #[.val (.int cc)] [(.int (1 : Int32))])) := by
                refine C_46.trans ?_
                refine XS.icmpYes X0.here hx rfl (pc0 := 45) (pc' := 60) rfl (hb hby d14_45) rfl (ii_eq_t hc_47) (by decide) (by decide) ?_
                refine XS.iconst X0.here hx rfl (hb hby d14_60) ?_
                refine XS.goto X0.here hx rfl (pc0 := 61) (pc' := 65) rfl (hb hby d14_61) (by decide) (by decide) ?_
                exact Steps.refl _
              obtain ⟨fs, hr, hrun, hended, hW, hsame⟩ := X0.leave (v := some (.int (1 : Int32))) (fun h => by rw [Bd.returns] at h; cases h)
              refine ⟨_, _, C_48.trans (retN X0 hx (t := .boolean) Bd.returns (by simp) (hb hby d14_65) hr), hrun, hended, _, _, rfl, ?_, ⟨_, rfl⟩, hW, hsame.mono (by decide) (by decide)⟩
              show Q_hashc Z G1 G3 cc h0 n0 (some (.int (1 : Int32))) s₁.heap _
              rw [e0]
              exact ⟨(1 : Int32), rfl, N0, rfl, (own_bT (Or.inr (Or.inr (Or.inr (Or.inl hc_47)))))⟩
            · skip
              have C_49 : Steps p.tables e below S0 (s₁.setTop (mkF m 51 #[.val (.int cc)] [(.int (47 : Int32)), (.int cc)])) := by
                refine C_46.trans ?_
                refine XS.icmpNo X0.here hx rfl (hb hby d14_45) rfl (ii_eq_f hc_47) ?_
                refine XS.iloadN X0.here hx rfl (hb hby d14_48) rfl ?_
                refine XS.bipush X0.here hx rfl (hb hby d14_49) ?_
                exact Steps.refl _
              by_cases hc_50 : cc = (47 : Int32)
              · skip
                have C_51 : Steps p.tables e below S0 (s₁.setTop (mkF m 65 #[.val (.int cc)] [(.int (1 : Int32))])) := by
                  refine C_49.trans ?_
                  refine XS.icmpYes X0.here hx rfl (pc0 := 51) (pc' := 60) rfl (hb hby d14_51) rfl (ii_eq_t hc_50) (by decide) (by decide) ?_
                  refine XS.iconst X0.here hx rfl (hb hby d14_60) ?_
                  refine XS.goto X0.here hx rfl (pc0 := 61) (pc' := 65) rfl (hb hby d14_61) (by decide) (by decide) ?_
                  exact Steps.refl _
                obtain ⟨fs, hr, hrun, hended, hW, hsame⟩ := X0.leave (v := some (.int (1 : Int32))) (fun h => by rw [Bd.returns] at h; cases h)
                refine ⟨_, _, C_51.trans (retN X0 hx (t := .boolean) Bd.returns (by simp) (hb hby d14_65) hr), hrun, hended, _, _, rfl, ?_, ⟨_, rfl⟩, hW, hsame.mono (by decide) (by decide)⟩
                show Q_hashc Z G1 G3 cc h0 n0 (some (.int (1 : Int32))) s₁.heap _
                rw [e0]
                exact ⟨(1 : Int32), rfl, N0, rfl, (own_bT (Or.inr (Or.inr (Or.inr (Or.inr (Or.inl hc_50))))))⟩
              · skip
                have C_52 : Steps p.tables e below S0 (s₁.setTop (mkF m 57 #[.val (.int cc)] [(.int (46 : Int32)), (.int cc)])) := by
                  refine C_49.trans ?_
                  refine XS.icmpNo X0.here hx rfl (hb hby d14_51) rfl (ii_eq_f hc_50) ?_
                  refine XS.iloadN X0.here hx rfl (hb hby d14_54) rfl ?_
                  refine XS.bipush X0.here hx rfl (hb hby d14_55) ?_
                  exact Steps.refl _
                by_cases hc_53 : cc = (46 : Int32)
                · skip
                  have C_54 : Steps p.tables e below S0 (s₁.setTop (mkF m 65 #[.val (.int cc)] [(.int (1 : Int32))])) := by
                    refine C_52.trans ?_
                    refine XS.icmpNo X0.here hx rfl (hb hby d14_57) rfl (ii_ne_f hc_53) ?_
                    refine XS.iconst X0.here hx rfl (hb hby d14_60) ?_
                    refine XS.goto X0.here hx rfl (pc0 := 61) (pc' := 65) rfl (hb hby d14_61) (by decide) (by decide) ?_
                    exact Steps.refl _
                  obtain ⟨fs, hr, hrun, hended, hW, hsame⟩ := X0.leave (v := some (.int (1 : Int32))) (fun h => by rw [Bd.returns] at h; cases h)
                  refine ⟨_, _, C_54.trans (retN X0 hx (t := .boolean) Bd.returns (by simp) (hb hby d14_65) hr), hrun, hended, _, _, rfl, ?_, ⟨_, rfl⟩, hW, hsame.mono (by decide) (by decide)⟩
                  show Q_hashc Z G1 G3 cc h0 n0 (some (.int (1 : Int32))) s₁.heap _
                  rw [e0]
                  exact ⟨(1 : Int32), rfl, N0, rfl, (own_bT (Or.inr (Or.inr (Or.inr (Or.inr (Or.inr hc_53))))))⟩
                · skip
                  have C_55 : Steps p.tables e below S0 (s₁.setTop (mkF m 65 #[.val (.int cc)] [(.int (0 : Int32))])) := by
                    refine C_52.trans ?_
                    refine XS.icmpYes X0.here hx rfl (pc0 := 57) (pc' := 64) rfl (hb hby d14_57) rfl (ii_ne_t hc_53) (by decide) (by decide) ?_
                    refine XS.iconst X0.here hx rfl (hb hby d14_64) ?_
                    exact Steps.refl _
                  obtain ⟨fs, hr, hrun, hended, hW, hsame⟩ := X0.leave (v := some (.int (0 : Int32))) (fun h => by rw [Bd.returns] at h; cases h)
                  refine ⟨_, _, C_55.trans (retN X0 hx (t := .boolean) Bd.returns (by simp) (hb hby d14_65) hr), hrun, hended, _, _, rfl, ?_, ⟨_, rfl⟩, hW, hsame.mono (by decide) (by decide)⟩
                  show Q_hashc Z G1 G3 cc h0 n0 (some (.int (0 : Int32))) s₁.heap _
                  rw [e0]
                  exact ⟨(0 : Int32), rfl, N0, rfl, (own_bF (fun q => q.1 hc_2) (fun q => q.2 hc_31) (fun q => q.2 hc_45) hc_47 hc_50 hc_53)⟩
          · skip
            have C_56 : Steps p.tables e below S0 (s₁.setTop (mkF m 41 #[.val (.int cc)] [(.int (1 : Int32))])) := by
              refine C_44.trans ?_
              refine XS.icmpNo X0.here hx rfl (hb hby d14_37) rfl (ii_gt_f hc_45) ?_
              refine XS.iconst X0.here hx rfl (hb hby d14_40) ?_
              exact Steps.refl _
            obtain ⟨fs, hr, hrun, hended, hW, hsame⟩ := X0.leave (v := some (.int (1 : Int32))) (fun h => by rw [Bd.returns] at h; cases h)
            refine ⟨_, _, C_56.trans (retN X0 hx (t := .boolean) Bd.returns (by simp) (hb hby d14_41) hr), hrun, hended, _, _, rfl, ?_, ⟨_, rfl⟩, hW, hsame.mono (by decide) (by decide)⟩
            show Q_hashc Z G1 G3 cc h0 n0 (some (.int (1 : Int32))) s₁.heap _
            rw [e0]
            exact ⟨(1 : Int32), rfl, N0, rfl, (own_bT (Or.inr (Or.inr (Or.inl ⟨hc_33, hc_45⟩))))⟩
      · skip
        have C_57 : Steps p.tables e below S0 (s₁.setTop (mkF m 27 #[.val (.int cc)] [(.int (1 : Int32))])) := by
          refine C_30.trans ?_
          refine XS.icmpNo X0.here hx rfl (hb hby d14_23) rfl (ii_gt_f hc_31) ?_
          refine XS.iconst X0.here hx rfl (hb hby d14_26) ?_
          exact Steps.refl _
        obtain ⟨fs, hr, hrun, hended, hW, hsame⟩ := X0.leave (v := some (.int (1 : Int32))) (fun h => by rw [Bd.returns] at h; cases h)
        refine ⟨_, _, C_57.trans (retN X0 hx (t := .boolean) Bd.returns (by simp) (hb hby d14_27) hr), hrun, hended, _, _, rfl, ?_, ⟨_, rfl⟩, hW, hsame.mono (by decide) (by decide)⟩
        show Q_hashc Z G1 G3 cc h0 n0 (some (.int (1 : Int32))) s₁.heap _
        rw [e0]
        exact ⟨(1 : Int32), rfl, N0, rfl, (own_bT (Or.inr (Or.inl ⟨hc_4, hc_31⟩)))⟩
  · skip
    have C_58 : Steps p.tables e below S0 (s₁.setTop (mkF m 9 #[.val (.int cc)] [(.int (90 : Int32)), (.int cc)])) := by
      refine C_1.trans ?_
      refine XS.icmpNo X0.here hx rfl (hb hby d14_3) rfl (ii_lt_f hc_2) ?_
      refine XS.iloadN X0.here hx rfl (hb hby d14_6) rfl ?_
      refine XS.bipush X0.here hx rfl (hb hby d14_7) ?_
      exact Steps.refl _
    by_cases hc_59 : (90 : Int32) < cc
    · skip
      have C_60 : Steps p.tables e below S0 (s₁.setTop (mkF m 17 #[.val (.int cc)] [(.int (97 : Int32)), (.int cc)])) := by
        refine C_58.trans ?_
        refine XS.icmpYes X0.here hx rfl (pc0 := 9) (pc' := 14) rfl (hb hby d14_9) rfl (ii_gt_t hc_59) (by decide) (by decide) ?_
        refine XS.iloadN X0.here hx rfl (hb hby d14_14) rfl ?_
        refine XS.bipush X0.here hx rfl (hb hby d14_15) ?_
        exact Steps.refl _
      by_cases hc_61 : cc < (97 : Int32)
      · skip
        have C_62 : Steps p.tables e below S0 (s₁.setTop (mkF m 31 #[.val (.int cc)] [(.int (48 : Int32)), (.int cc)])) := by
          refine C_60.trans ?_
          refine XS.icmpYes X0.here hx rfl (pc0 := 17) (pc' := 28) rfl (hb hby d14_17) rfl (ii_lt_t hc_61) (by decide) (by decide) ?_
          refine XS.iloadN X0.here hx rfl (hb hby d14_28) rfl ?_
          refine XS.bipush X0.here hx rfl (hb hby d14_29) ?_
          exact Steps.refl _
        by_cases hc_63 : cc < (48 : Int32)
        · skip
          have C_64 : Steps p.tables e below S0 (s₁.setTop (mkF m 45 #[.val (.int cc)] [(.int (43 : Int32)), (.int cc)])) := by
            refine C_62.trans ?_
            refine XS.icmpYes X0.here hx rfl (pc0 := 31) (pc' := 42) rfl (hb hby d14_31) rfl (ii_lt_t hc_63) (by decide) (by decide) ?_
            refine XS.iloadN X0.here hx rfl (hb hby d14_42) rfl ?_
            refine XS.bipush X0.here hx rfl (hb hby d14_43) ?_
            exact Steps.refl _
          by_cases hc_65 : cc = (43 : Int32)
          · skip
            have C_66 : Steps p.tables e below S0 (s₁.setTop (mkF m 65 #[.val (.int cc)] [(.int (1 : Int32))])) := by
              refine C_64.trans ?_
              refine XS.icmpYes X0.here hx rfl (pc0 := 45) (pc' := 60) rfl (hb hby d14_45) rfl (ii_eq_t hc_65) (by decide) (by decide) ?_
              refine XS.iconst X0.here hx rfl (hb hby d14_60) ?_
              refine XS.goto X0.here hx rfl (pc0 := 61) (pc' := 65) rfl (hb hby d14_61) (by decide) (by decide) ?_
              exact Steps.refl _
            obtain ⟨fs, hr, hrun, hended, hW, hsame⟩ := X0.leave (v := some (.int (1 : Int32))) (fun h => by rw [Bd.returns] at h; cases h)
            refine ⟨_, _, C_66.trans (retN X0 hx (t := .boolean) Bd.returns (by simp) (hb hby d14_65) hr), hrun, hended, _, _, rfl, ?_, ⟨_, rfl⟩, hW, hsame.mono (by decide) (by decide)⟩
            show Q_hashc Z G1 G3 cc h0 n0 (some (.int (1 : Int32))) s₁.heap _
            rw [e0]
            exact ⟨(1 : Int32), rfl, N0, rfl, (own_bT (Or.inr (Or.inr (Or.inr (Or.inl hc_65)))))⟩
          · skip
            have C_67 : Steps p.tables e below S0 (s₁.setTop (mkF m 51 #[.val (.int cc)] [(.int (47 : Int32)), (.int cc)])) := by
              refine C_64.trans ?_
              refine XS.icmpNo X0.here hx rfl (hb hby d14_45) rfl (ii_eq_f hc_65) ?_
              refine XS.iloadN X0.here hx rfl (hb hby d14_48) rfl ?_
              refine XS.bipush X0.here hx rfl (hb hby d14_49) ?_
              exact Steps.refl _
            by_cases hc_68 : cc = (47 : Int32)
            · skip
              have C_69 : Steps p.tables e below S0 (s₁.setTop (mkF m 65 #[.val (.int cc)] [(.int (1 : Int32))])) := by
                refine C_67.trans ?_
                refine XS.icmpYes X0.here hx rfl (pc0 := 51) (pc' := 60) rfl (hb hby d14_51) rfl (ii_eq_t hc_68) (by decide) (by decide) ?_
                refine XS.iconst X0.here hx rfl (hb hby d14_60) ?_
                refine XS.goto X0.here hx rfl (pc0 := 61) (pc' := 65) rfl (hb hby d14_61) (by decide) (by decide) ?_
                exact Steps.refl _
              obtain ⟨fs, hr, hrun, hended, hW, hsame⟩ := X0.leave (v := some (.int (1 : Int32))) (fun h => by rw [Bd.returns] at h; cases h)
              refine ⟨_, _, C_69.trans (retN X0 hx (t := .boolean) Bd.returns (by simp) (hb hby d14_65) hr), hrun, hended, _, _, rfl, ?_, ⟨_, rfl⟩, hW, hsame.mono (by decide) (by decide)⟩
              show Q_hashc Z G1 G3 cc h0 n0 (some (.int (1 : Int32))) s₁.heap _
              rw [e0]
              exact ⟨(1 : Int32), rfl, N0, rfl, (own_bT (Or.inr (Or.inr (Or.inr (Or.inr (Or.inl hc_68))))))⟩
            · skip
              have C_70 : Steps p.tables e below S0 (s₁.setTop (mkF m 57 #[.val (.int cc)] [(.int (46 : Int32)), (.int cc)])) := by
                refine C_67.trans ?_
                refine XS.icmpNo X0.here hx rfl (hb hby d14_51) rfl (ii_eq_f hc_68) ?_
                refine XS.iloadN X0.here hx rfl (hb hby d14_54) rfl ?_
                refine XS.bipush X0.here hx rfl (hb hby d14_55) ?_
                exact Steps.refl _
              by_cases hc_71 : cc = (46 : Int32)
              · skip
                have C_72 : Steps p.tables e below S0 (s₁.setTop (mkF m 65 #[.val (.int cc)] [(.int (1 : Int32))])) := by
                  refine C_70.trans ?_
                  refine XS.icmpNo X0.here hx rfl (hb hby d14_57) rfl (ii_ne_f hc_71) ?_
                  refine XS.iconst X0.here hx rfl (hb hby d14_60) ?_
                  refine XS.goto X0.here hx rfl (pc0 := 61) (pc' := 65) rfl (hb hby d14_61) (by decide) (by decide) ?_
                  exact Steps.refl _
                obtain ⟨fs, hr, hrun, hended, hW, hsame⟩ := X0.leave (v := some (.int (1 : Int32))) (fun h => by rw [Bd.returns] at h; cases h)
                refine ⟨_, _, C_72.trans (retN X0 hx (t := .boolean) Bd.returns (by simp) (hb hby d14_65) hr), hrun, hended, _, _, rfl, ?_, ⟨_, rfl⟩, hW, hsame.mono (by decide) (by decide)⟩
                show Q_hashc Z G1 G3 cc h0 n0 (some (.int (1 : Int32))) s₁.heap _
                rw [e0]
                exact ⟨(1 : Int32), rfl, N0, rfl, (own_bT (Or.inr (Or.inr (Or.inr (Or.inr (Or.inr hc_71))))))⟩
              · skip
                have C_73 : Steps p.tables e below S0 (s₁.setTop (mkF m 65 #[.val (.int cc)] [(.int (0 : Int32))])) := by
                  refine C_70.trans ?_
                  refine XS.icmpYes X0.here hx rfl (pc0 := 57) (pc' := 64) rfl (hb hby d14_57) rfl (ii_ne_t hc_71) (by decide) (by decide) ?_
                  refine XS.iconst X0.here hx rfl (hb hby d14_64) ?_
                  exact Steps.refl _
                obtain ⟨fs, hr, hrun, hended, hW, hsame⟩ := X0.leave (v := some (.int (0 : Int32))) (fun h => by rw [Bd.returns] at h; cases h)
                refine ⟨_, _, C_73.trans (retN X0 hx (t := .boolean) Bd.returns (by simp) (hb hby d14_65) hr), hrun, hended, _, _, rfl, ?_, ⟨_, rfl⟩, hW, hsame.mono (by decide) (by decide)⟩
                show Q_hashc Z G1 G3 cc h0 n0 (some (.int (0 : Int32))) s₁.heap _
                rw [e0]
                exact ⟨(0 : Int32), rfl, N0, rfl, (own_bF (fun q => q.2 hc_59) (fun q => q.1 hc_61) (fun q => q.1 hc_63) hc_65 hc_68 hc_71)⟩
        · skip
          have C_74 : Steps p.tables e below S0 (s₁.setTop (mkF m 37 #[.val (.int cc)] [(.int (57 : Int32)), (.int cc)])) := by
            refine C_62.trans ?_
            refine XS.icmpNo X0.here hx rfl (hb hby d14_31) rfl (ii_lt_f hc_63) ?_
            refine XS.iloadN X0.here hx rfl (hb hby d14_34) rfl ?_
            refine XS.bipush X0.here hx rfl (hb hby d14_35) ?_
            exact Steps.refl _
          by_cases hc_75 : (57 : Int32) < cc
          · skip
            have C_76 : Steps p.tables e below S0 (s₁.setTop (mkF m 45 #[.val (.int cc)] [(.int (43 : Int32)), (.int cc)])) := by
              refine C_74.trans ?_
              refine XS.icmpYes X0.here hx rfl (pc0 := 37) (pc' := 42) rfl (hb hby d14_37) rfl (ii_gt_t hc_75) (by decide) (by decide) ?_
              refine XS.iloadN X0.here hx rfl (hb hby d14_42) rfl ?_
              refine XS.bipush X0.here hx rfl (hb hby d14_43) ?_
              exact Steps.refl _
            by_cases hc_77 : cc = (43 : Int32)
            · skip
              have C_78 : Steps p.tables e below S0 (s₁.setTop (mkF m 65 #[.val (.int cc)] [(.int (1 : Int32))])) := by
                refine C_76.trans ?_
                refine XS.icmpYes X0.here hx rfl (pc0 := 45) (pc' := 60) rfl (hb hby d14_45) rfl (ii_eq_t hc_77) (by decide) (by decide) ?_
                refine XS.iconst X0.here hx rfl (hb hby d14_60) ?_
                refine XS.goto X0.here hx rfl (pc0 := 61) (pc' := 65) rfl (hb hby d14_61) (by decide) (by decide) ?_
                exact Steps.refl _
              obtain ⟨fs, hr, hrun, hended, hW, hsame⟩ := X0.leave (v := some (.int (1 : Int32))) (fun h => by rw [Bd.returns] at h; cases h)
              refine ⟨_, _, C_78.trans (retN X0 hx (t := .boolean) Bd.returns (by simp) (hb hby d14_65) hr), hrun, hended, _, _, rfl, ?_, ⟨_, rfl⟩, hW, hsame.mono (by decide) (by decide)⟩
              show Q_hashc Z G1 G3 cc h0 n0 (some (.int (1 : Int32))) s₁.heap _
              rw [e0]
              exact ⟨(1 : Int32), rfl, N0, rfl, (own_bT (Or.inr (Or.inr (Or.inr (Or.inl hc_77)))))⟩
            · skip
              have C_79 : Steps p.tables e below S0 (s₁.setTop (mkF m 51 #[.val (.int cc)] [(.int (47 : Int32)), (.int cc)])) := by
                refine C_76.trans ?_
                refine XS.icmpNo X0.here hx rfl (hb hby d14_45) rfl (ii_eq_f hc_77) ?_
                refine XS.iloadN X0.here hx rfl (hb hby d14_48) rfl ?_
                refine XS.bipush X0.here hx rfl (hb hby d14_49) ?_
                exact Steps.refl _
              by_cases hc_80 : cc = (47 : Int32)
              · skip
                have C_81 : Steps p.tables e below S0 (s₁.setTop (mkF m 65 #[.val (.int cc)] [(.int (1 : Int32))])) := by
                  refine C_79.trans ?_
                  refine XS.icmpYes X0.here hx rfl (pc0 := 51) (pc' := 60) rfl (hb hby d14_51) rfl (ii_eq_t hc_80) (by decide) (by decide) ?_
                  refine XS.iconst X0.here hx rfl (hb hby d14_60) ?_
                  refine XS.goto X0.here hx rfl (pc0 := 61) (pc' := 65) rfl (hb hby d14_61) (by decide) (by decide) ?_
                  exact Steps.refl _
                obtain ⟨fs, hr, hrun, hended, hW, hsame⟩ := X0.leave (v := some (.int (1 : Int32))) (fun h => by rw [Bd.returns] at h; cases h)
                refine ⟨_, _, C_81.trans (retN X0 hx (t := .boolean) Bd.returns (by simp) (hb hby d14_65) hr), hrun, hended, _, _, rfl, ?_, ⟨_, rfl⟩, hW, hsame.mono (by decide) (by decide)⟩
                show Q_hashc Z G1 G3 cc h0 n0 (some (.int (1 : Int32))) s₁.heap _
                rw [e0]
                exact ⟨(1 : Int32), rfl, N0, rfl, (own_bT (Or.inr (Or.inr (Or.inr (Or.inr (Or.inl hc_80))))))⟩
              · skip
                have C_82 : Steps p.tables e below S0 (s₁.setTop (mkF m 57 #[.val (.int cc)] [(.int (46 : Int32)), (.int cc)])) := by
                  refine C_79.trans ?_
                  refine XS.icmpNo X0.here hx rfl (hb hby d14_51) rfl (ii_eq_f hc_80) ?_
                  refine XS.iloadN X0.here hx rfl (hb hby d14_54) rfl ?_
                  refine XS.bipush X0.here hx rfl (hb hby d14_55) ?_
                  exact Steps.refl _
                by_cases hc_83 : cc = (46 : Int32)
                · skip
                  have C_84 : Steps p.tables e below S0 (s₁.setTop (mkF m 65 #[.val (.int cc)] [(.int (1 : Int32))])) := by
                    refine C_82.trans ?_
                    refine XS.icmpNo X0.here hx rfl (hb hby d14_57) rfl (ii_ne_f hc_83) ?_
                    refine XS.iconst X0.here hx rfl (hb hby d14_60) ?_
                    refine XS.goto X0.here hx rfl (pc0 := 61) (pc' := 65) rfl (hb hby d14_61) (by decide) (by decide) ?_
                    exact Steps.refl _
                  obtain ⟨fs, hr, hrun, hended, hW, hsame⟩ := X0.leave (v := some (.int (1 : Int32))) (fun h => by rw [Bd.returns] at h; cases h)
                  refine ⟨_, _, C_84.trans (retN X0 hx (t := .boolean) Bd.returns (by simp) (hb hby d14_65) hr), hrun, hended, _, _, rfl, ?_, ⟨_, rfl⟩, hW, hsame.mono (by decide) (by decide)⟩
                  show Q_hashc Z G1 G3 cc h0 n0 (some (.int (1 : Int32))) s₁.heap _
                  rw [e0]
                  exact ⟨(1 : Int32), rfl, N0, rfl, (own_bT (Or.inr (Or.inr (Or.inr (Or.inr (Or.inr hc_83))))))⟩
                · skip
                  have C_85 : Steps p.tables e below S0 (s₁.setTop (mkF m 65 #[.val (.int cc)] [(.int (0 : Int32))])) := by
                    refine C_82.trans ?_
                    refine XS.icmpYes X0.here hx rfl (pc0 := 57) (pc' := 64) rfl (hb hby d14_57) rfl (ii_ne_t hc_83) (by decide) (by decide) ?_
                    refine XS.iconst X0.here hx rfl (hb hby d14_64) ?_
                    exact Steps.refl _
                  obtain ⟨fs, hr, hrun, hended, hW, hsame⟩ := X0.leave (v := some (.int (0 : Int32))) (fun h => by rw [Bd.returns] at h; cases h)
                  refine ⟨_, _, C_85.trans (retN X0 hx (t := .boolean) Bd.returns (by simp) (hb hby d14_65) hr), hrun, hended, _, _, rfl, ?_, ⟨_, rfl⟩, hW, hsame.mono (by decide) (by decide)⟩
                  show Q_hashc Z G1 G3 cc h0 n0 (some (.int (0 : Int32))) s₁.heap _
                  rw [e0]
                  exact ⟨(0 : Int32), rfl, N0, rfl, (own_bF (fun q => q.2 hc_59) (fun q => q.1 hc_61) (fun q => q.2 hc_75) hc_77 hc_80 hc_83)⟩
          · skip
            have C_86 : Steps p.tables e below S0 (s₁.setTop (mkF m 41 #[.val (.int cc)] [(.int (1 : Int32))])) := by
              refine C_74.trans ?_
              refine XS.icmpNo X0.here hx rfl (hb hby d14_37) rfl (ii_gt_f hc_75) ?_
              refine XS.iconst X0.here hx rfl (hb hby d14_40) ?_
              exact Steps.refl _
            obtain ⟨fs, hr, hrun, hended, hW, hsame⟩ := X0.leave (v := some (.int (1 : Int32))) (fun h => by rw [Bd.returns] at h; cases h)
            refine ⟨_, _, C_86.trans (retN X0 hx (t := .boolean) Bd.returns (by simp) (hb hby d14_41) hr), hrun, hended, _, _, rfl, ?_, ⟨_, rfl⟩, hW, hsame.mono (by decide) (by decide)⟩
            show Q_hashc Z G1 G3 cc h0 n0 (some (.int (1 : Int32))) s₁.heap _
            rw [e0]
            exact ⟨(1 : Int32), rfl, N0, rfl, (own_bT (Or.inr (Or.inr (Or.inl ⟨hc_63, hc_75⟩))))⟩
      · skip
        have C_87 : Steps p.tables e below S0 (s₁.setTop (mkF m 23 #[.val (.int cc)] [(.int (122 : Int32)), (.int cc)])) := by
          refine C_60.trans ?_
          refine XS.icmpNo X0.here hx rfl (hb hby d14_17) rfl (ii_lt_f hc_61) ?_
          refine XS.iloadN X0.here hx rfl (hb hby d14_20) rfl ?_
          refine XS.bipush X0.here hx rfl (hb hby d14_21) ?_
          exact Steps.refl _
        by_cases hc_88 : (122 : Int32) < cc
        · skip
          have C_89 : Steps p.tables e below S0 (s₁.setTop (mkF m 31 #[.val (.int cc)] [(.int (48 : Int32)), (.int cc)])) := by
            refine C_87.trans ?_
            refine XS.icmpYes X0.here hx rfl (pc0 := 23) (pc' := 28) rfl (hb hby d14_23) rfl (ii_gt_t hc_88) (by decide) (by decide) ?_
            refine XS.iloadN X0.here hx rfl (hb hby d14_28) rfl ?_
            refine XS.bipush X0.here hx rfl (hb hby d14_29) ?_
            exact Steps.refl _
          by_cases hc_90 : cc < (48 : Int32)
          · skip
            have C_91 : Steps p.tables e below S0 (s₁.setTop (mkF m 45 #[.val (.int cc)] [(.int (43 : Int32)), (.int cc)])) := by
              refine C_89.trans ?_
              refine XS.icmpYes X0.here hx rfl (pc0 := 31) (pc' := 42) rfl (hb hby d14_31) rfl (ii_lt_t hc_90) (by decide) (by decide) ?_
              refine XS.iloadN X0.here hx rfl (hb hby d14_42) rfl ?_
              refine XS.bipush X0.here hx rfl (hb hby d14_43) ?_
              exact Steps.refl _
            by_cases hc_92 : cc = (43 : Int32)
            · skip
              have C_93 : Steps p.tables e below S0 (s₁.setTop (mkF m 65 #[.val (.int cc)] [(.int (1 : Int32))])) := by
                refine C_91.trans ?_
                refine XS.icmpYes X0.here hx rfl (pc0 := 45) (pc' := 60) rfl (hb hby d14_45) rfl (ii_eq_t hc_92) (by decide) (by decide) ?_
                refine XS.iconst X0.here hx rfl (hb hby d14_60) ?_
                refine XS.goto X0.here hx rfl (pc0 := 61) (pc' := 65) rfl (hb hby d14_61) (by decide) (by decide) ?_
                exact Steps.refl _
              obtain ⟨fs, hr, hrun, hended, hW, hsame⟩ := X0.leave (v := some (.int (1 : Int32))) (fun h => by rw [Bd.returns] at h; cases h)
              refine ⟨_, _, C_93.trans (retN X0 hx (t := .boolean) Bd.returns (by simp) (hb hby d14_65) hr), hrun, hended, _, _, rfl, ?_, ⟨_, rfl⟩, hW, hsame.mono (by decide) (by decide)⟩
              show Q_hashc Z G1 G3 cc h0 n0 (some (.int (1 : Int32))) s₁.heap _
              rw [e0]
              exact ⟨(1 : Int32), rfl, N0, rfl, (own_bT (Or.inr (Or.inr (Or.inr (Or.inl hc_92)))))⟩
            · skip
              have C_94 : Steps p.tables e below S0 (s₁.setTop (mkF m 51 #[.val (.int cc)] [(.int (47 : Int32)), (.int cc)])) := by
                refine C_91.trans ?_
                refine XS.icmpNo X0.here hx rfl (hb hby d14_45) rfl (ii_eq_f hc_92) ?_
                refine XS.iloadN X0.here hx rfl (hb hby d14_48) rfl ?_
                refine XS.bipush X0.here hx rfl (hb hby d14_49) ?_
                exact Steps.refl _
              by_cases hc_95 : cc = (47 : Int32)
              · skip
                have C_96 : Steps p.tables e below S0 (s₁.setTop (mkF m 65 #[.val (.int cc)] [(.int (1 : Int32))])) := by
                  refine C_94.trans ?_
                  refine XS.icmpYes X0.here hx rfl (pc0 := 51) (pc' := 60) rfl (hb hby d14_51) rfl (ii_eq_t hc_95) (by decide) (by decide) ?_
                  refine XS.iconst X0.here hx rfl (hb hby d14_60) ?_
                  refine XS.goto X0.here hx rfl (pc0 := 61) (pc' := 65) rfl (hb hby d14_61) (by decide) (by decide) ?_
                  exact Steps.refl _
                obtain ⟨fs, hr, hrun, hended, hW, hsame⟩ := X0.leave (v := some (.int (1 : Int32))) (fun h => by rw [Bd.returns] at h; cases h)
                refine ⟨_, _, C_96.trans (retN X0 hx (t := .boolean) Bd.returns (by simp) (hb hby d14_65) hr), hrun, hended, _, _, rfl, ?_, ⟨_, rfl⟩, hW, hsame.mono (by decide) (by decide)⟩
                show Q_hashc Z G1 G3 cc h0 n0 (some (.int (1 : Int32))) s₁.heap _
                rw [e0]
                exact ⟨(1 : Int32), rfl, N0, rfl, (own_bT (Or.inr (Or.inr (Or.inr (Or.inr (Or.inl hc_95))))))⟩
              · skip
                have C_97 : Steps p.tables e below S0 (s₁.setTop (mkF m 57 #[.val (.int cc)] [(.int (46 : Int32)), (.int cc)])) := by
                  refine C_94.trans ?_
                  refine XS.icmpNo X0.here hx rfl (hb hby d14_51) rfl (ii_eq_f hc_95) ?_
                  refine XS.iloadN X0.here hx rfl (hb hby d14_54) rfl ?_
                  refine XS.bipush X0.here hx rfl (hb hby d14_55) ?_
                  exact Steps.refl _
                by_cases hc_98 : cc = (46 : Int32)
                · skip
                  have C_99 : Steps p.tables e below S0 (s₁.setTop (mkF m 65 #[.val (.int cc)] [(.int (1 : Int32))])) := by
                    refine C_97.trans ?_
                    refine XS.icmpNo X0.here hx rfl (hb hby d14_57) rfl (ii_ne_f hc_98) ?_
                    refine XS.iconst X0.here hx rfl (hb hby d14_60) ?_
                    refine XS.goto X0.here hx rfl (pc0 := 61) (pc' := 65) rfl (hb hby d14_61) (by decide) (by decide) ?_
                    exact Steps.refl _
                  obtain ⟨fs, hr, hrun, hended, hW, hsame⟩ := X0.leave (v := some (.int (1 : Int32))) (fun h => by rw [Bd.returns] at h; cases h)
                  refine ⟨_, _, C_99.trans (retN X0 hx (t := .boolean) Bd.returns (by simp) (hb hby d14_65) hr), hrun, hended, _, _, rfl, ?_, ⟨_, rfl⟩, hW, hsame.mono (by decide) (by decide)⟩
                  show Q_hashc Z G1 G3 cc h0 n0 (some (.int (1 : Int32))) s₁.heap _
                  rw [e0]
                  exact ⟨(1 : Int32), rfl, N0, rfl, (own_bT (Or.inr (Or.inr (Or.inr (Or.inr (Or.inr hc_98))))))⟩
                · skip
                  have C_100 : Steps p.tables e below S0 (s₁.setTop (mkF m 65 #[.val (.int cc)] [(.int (0 : Int32))])) := by
                    refine C_97.trans ?_
                    refine XS.icmpYes X0.here hx rfl (pc0 := 57) (pc' := 64) rfl (hb hby d14_57) rfl (ii_ne_t hc_98) (by decide) (by decide) ?_
                    refine XS.iconst X0.here hx rfl (hb hby d14_64) ?_
                    exact Steps.refl _
                  obtain ⟨fs, hr, hrun, hended, hW, hsame⟩ := X0.leave (v := some (.int (0 : Int32))) (fun h => by rw [Bd.returns] at h; cases h)
                  refine ⟨_, _, C_100.trans (retN X0 hx (t := .boolean) Bd.returns (by simp) (hb hby d14_65) hr), hrun, hended, _, _, rfl, ?_, ⟨_, rfl⟩, hW, hsame.mono (by decide) (by decide)⟩
                  show Q_hashc Z G1 G3 cc h0 n0 (some (.int (0 : Int32))) s₁.heap _
                  rw [e0]
                  exact ⟨(0 : Int32), rfl, N0, rfl, (own_bF (fun q => q.2 hc_59) (fun q => q.2 hc_88) (fun q => q.1 hc_90) hc_92 hc_95 hc_98)⟩
          · skip
            have C_101 : Steps p.tables e below S0 (s₁.setTop (mkF m 37 #[.val (.int cc)] [(.int (57 : Int32)), (.int cc)])) := by
              refine C_89.trans ?_
              refine XS.icmpNo X0.here hx rfl (hb hby d14_31) rfl (ii_lt_f hc_90) ?_
              refine XS.iloadN X0.here hx rfl (hb hby d14_34) rfl ?_
              refine XS.bipush X0.here hx rfl (hb hby d14_35) ?_
              exact Steps.refl _
            by_cases hc_102 : (57 : Int32) < cc
            · skip
              have C_103 : Steps p.tables e below S0 (s₁.setTop (mkF m 45 #[.val (.int cc)] [(.int (43 : Int32)), (.int cc)])) := by
                refine C_101.trans ?_
                refine XS.icmpYes X0.here hx rfl (pc0 := 37) (pc' := 42) rfl (hb hby d14_37) rfl (ii_gt_t hc_102) (by decide) (by decide) ?_
                refine XS.iloadN X0.here hx rfl (hb hby d14_42) rfl ?_
                refine XS.bipush X0.here hx rfl (hb hby d14_43) ?_
                exact Steps.refl _
              by_cases hc_104 : cc = (43 : Int32)
              · skip
                have C_105 : Steps p.tables e below S0 (s₁.setTop (mkF m 65 #[.val (.int cc)] [(.int (1 : Int32))])) := by
                  refine C_103.trans ?_
                  refine XS.icmpYes X0.here hx rfl (pc0 := 45) (pc' := 60) rfl (hb hby d14_45) rfl (ii_eq_t hc_104) (by decide) (by decide) ?_
                  refine XS.iconst X0.here hx rfl (hb hby d14_60) ?_
                  refine XS.goto X0.here hx rfl (pc0 := 61) (pc' := 65) rfl (hb hby d14_61) (by decide) (by decide) ?_
                  exact Steps.refl _
                obtain ⟨fs, hr, hrun, hended, hW, hsame⟩ := X0.leave (v := some (.int (1 : Int32))) (fun h => by rw [Bd.returns] at h; cases h)
                refine ⟨_, _, C_105.trans (retN X0 hx (t := .boolean) Bd.returns (by simp) (hb hby d14_65) hr), hrun, hended, _, _, rfl, ?_, ⟨_, rfl⟩, hW, hsame.mono (by decide) (by decide)⟩
                show Q_hashc Z G1 G3 cc h0 n0 (some (.int (1 : Int32))) s₁.heap _
                rw [e0]
                exact ⟨(1 : Int32), rfl, N0, rfl, (own_bT (Or.inr (Or.inr (Or.inr (Or.inl hc_104)))))⟩
              · skip
                have C_106 : Steps p.tables e below S0 (s₁.setTop (mkF m 51 #[.val (.int cc)] [(.int (47 : Int32)), (.int cc)])) := by
                  refine C_103.trans ?_
                  refine XS.icmpNo X0.here hx rfl (hb hby d14_45) rfl (ii_eq_f hc_104) ?_
                  refine XS.iloadN X0.here hx rfl (hb hby d14_48) rfl ?_
                  refine XS.bipush X0.here hx rfl (hb hby d14_49) ?_
                  exact Steps.refl _
                by_cases hc_107 : cc = (47 : Int32)
                · skip
                  have C_108 : Steps p.tables e below S0 (s₁.setTop (mkF m 65 #[.val (.int cc)] [(.int (1 : Int32))])) := by
                    refine C_106.trans ?_
                    refine XS.icmpYes X0.here hx rfl (pc0 := 51) (pc' := 60) rfl (hb hby d14_51) rfl (ii_eq_t hc_107) (by decide) (by decide) ?_
                    refine XS.iconst X0.here hx rfl (hb hby d14_60) ?_
                    refine XS.goto X0.here hx rfl (pc0 := 61) (pc' := 65) rfl (hb hby d14_61) (by decide) (by decide) ?_
                    exact Steps.refl _
                  obtain ⟨fs, hr, hrun, hended, hW, hsame⟩ := X0.leave (v := some (.int (1 : Int32))) (fun h => by rw [Bd.returns] at h; cases h)
                  refine ⟨_, _, C_108.trans (retN X0 hx (t := .boolean) Bd.returns (by simp) (hb hby d14_65) hr), hrun, hended, _, _, rfl, ?_, ⟨_, rfl⟩, hW, hsame.mono (by decide) (by decide)⟩
                  show Q_hashc Z G1 G3 cc h0 n0 (some (.int (1 : Int32))) s₁.heap _
                  rw [e0]
                  exact ⟨(1 : Int32), rfl, N0, rfl, (own_bT (Or.inr (Or.inr (Or.inr (Or.inr (Or.inl hc_107))))))⟩
                · skip
                  have C_109 : Steps p.tables e below S0 (s₁.setTop (mkF m 57 #[.val (.int cc)] [(.int (46 : Int32)), (.int cc)])) := by
                    refine C_106.trans ?_
                    refine XS.icmpNo X0.here hx rfl (hb hby d14_51) rfl (ii_eq_f hc_107) ?_
                    refine XS.iloadN X0.here hx rfl (hb hby d14_54) rfl ?_
                    refine XS.bipush X0.here hx rfl (hb hby d14_55) ?_
                    exact Steps.refl _
                  by_cases hc_110 : cc = (46 : Int32)
                  · skip
                    have C_111 : Steps p.tables e below S0 (s₁.setTop (mkF m 65 #[.val (.int cc)] [(.int (1 : Int32))])) := by
                      refine C_109.trans ?_
                      refine XS.icmpNo X0.here hx rfl (hb hby d14_57) rfl (ii_ne_f hc_110) ?_
                      refine XS.iconst X0.here hx rfl (hb hby d14_60) ?_
                      refine XS.goto X0.here hx rfl (pc0 := 61) (pc' := 65) rfl (hb hby d14_61) (by decide) (by decide) ?_
                      exact Steps.refl _
                    obtain ⟨fs, hr, hrun, hended, hW, hsame⟩ := X0.leave (v := some (.int (1 : Int32))) (fun h => by rw [Bd.returns] at h; cases h)
                    refine ⟨_, _, C_111.trans (retN X0 hx (t := .boolean) Bd.returns (by simp) (hb hby d14_65) hr), hrun, hended, _, _, rfl, ?_, ⟨_, rfl⟩, hW, hsame.mono (by decide) (by decide)⟩
                    show Q_hashc Z G1 G3 cc h0 n0 (some (.int (1 : Int32))) s₁.heap _
                    rw [e0]
                    exact ⟨(1 : Int32), rfl, N0, rfl, (own_bT (Or.inr (Or.inr (Or.inr (Or.inr (Or.inr hc_110))))))⟩
                  · skip
                    have C_112 : Steps p.tables e below S0 (s₁.setTop (mkF m 65 #[.val (.int cc)] [(.int (0 : Int32))])) := by
                      refine C_109.trans ?_
                      refine XS.icmpYes X0.here hx rfl (pc0 := 57) (pc' := 64) rfl (hb hby d14_57) rfl (ii_ne_t hc_110) (by decide) (by decide) ?_
                      refine XS.iconst X0.here hx rfl (hb hby d14_64) ?_
                      exact Steps.refl _
                    obtain ⟨fs, hr, hrun, hended, hW, hsame⟩ := X0.leave (v := some (.int (0 : Int32))) (fun h => by rw [Bd.returns] at h; cases h)
                    refine ⟨_, _, C_112.trans (retN X0 hx (t := .boolean) Bd.returns (by simp) (hb hby d14_65) hr), hrun, hended, _, _, rfl, ?_, ⟨_, rfl⟩, hW, hsame.mono (by decide) (by decide)⟩
                    show Q_hashc Z G1 G3 cc h0 n0 (some (.int (0 : Int32))) s₁.heap _
                    rw [e0]
                    exact ⟨(0 : Int32), rfl, N0, rfl, (own_bF (fun q => q.2 hc_59) (fun q => q.2 hc_88) (fun q => q.2 hc_102) hc_104 hc_107 hc_110)⟩
            · skip
              have C_113 : Steps p.tables e below S0 (s₁.setTop (mkF m 41 #[.val (.int cc)] [(.int (1 : Int32))])) := by
                refine C_101.trans ?_
                refine XS.icmpNo X0.here hx rfl (hb hby d14_37) rfl (ii_gt_f hc_102) ?_
                refine XS.iconst X0.here hx rfl (hb hby d14_40) ?_
                exact Steps.refl _
              obtain ⟨fs, hr, hrun, hended, hW, hsame⟩ := X0.leave (v := some (.int (1 : Int32))) (fun h => by rw [Bd.returns] at h; cases h)
              refine ⟨_, _, C_113.trans (retN X0 hx (t := .boolean) Bd.returns (by simp) (hb hby d14_41) hr), hrun, hended, _, _, rfl, ?_, ⟨_, rfl⟩, hW, hsame.mono (by decide) (by decide)⟩
              show Q_hashc Z G1 G3 cc h0 n0 (some (.int (1 : Int32))) s₁.heap _
              rw [e0]
              exact ⟨(1 : Int32), rfl, N0, rfl, (own_bT (Or.inr (Or.inr (Or.inl ⟨hc_90, hc_102⟩))))⟩
        · skip
          have C_114 : Steps p.tables e below S0 (s₁.setTop (mkF m 27 #[.val (.int cc)] [(.int (1 : Int32))])) := by
            refine C_87.trans ?_
            refine XS.icmpNo X0.here hx rfl (hb hby d14_23) rfl (ii_gt_f hc_88) ?_
            refine XS.iconst X0.here hx rfl (hb hby d14_26) ?_
            exact Steps.refl _
          obtain ⟨fs, hr, hrun, hended, hW, hsame⟩ := X0.leave (v := some (.int (1 : Int32))) (fun h => by rw [Bd.returns] at h; cases h)
          refine ⟨_, _, C_114.trans (retN X0 hx (t := .boolean) Bd.returns (by simp) (hb hby d14_27) hr), hrun, hended, _, _, rfl, ?_, ⟨_, rfl⟩, hW, hsame.mono (by decide) (by decide)⟩
          show Q_hashc Z G1 G3 cc h0 n0 (some (.int (1 : Int32))) s₁.heap _
          rw [e0]
          exact ⟨(1 : Int32), rfl, N0, rfl, (own_bT (Or.inr (Or.inl ⟨hc_61, hc_88⟩)))⟩
    · skip
      have C_115 : Steps p.tables e below S0 (s₁.setTop (mkF m 13 #[.val (.int cc)] [(.int (1 : Int32))])) := by
        refine C_58.trans ?_
        refine XS.icmpNo X0.here hx rfl (hb hby d14_9) rfl (ii_gt_f hc_59) ?_
        refine XS.iconst X0.here hx rfl (hb hby d14_12) ?_
        exact Steps.refl _
      obtain ⟨fs, hr, hrun, hended, hW, hsame⟩ := X0.leave (v := some (.int (1 : Int32))) (fun h => by rw [Bd.returns] at h; cases h)
      refine ⟨_, _, C_115.trans (retN X0 hx (t := .boolean) Bd.returns (by simp) (hb hby d14_13) hr), hrun, hended, _, _, rfl, ?_, ⟨_, rfl⟩, hW, hsame.mono (by decide) (by decide)⟩
      show Q_hashc Z G1 G3 cc h0 n0 (some (.int (1 : Int32))) s₁.heap _
      rw [e0]
      exact ⟨(1 : Int32), rfl, N0, rfl, (own_bT (Or.inl ⟨hc_2, hc_59⟩))⟩
abbrev M294 : MethodName := ⟨"com/example/claimgate/claimgate/config/ConfigSyntax", "isHashCharacter", "(C)Z"⟩
theorem pn_295 : plainName "com/example/claimgate/claimgate/config/ConfigSyntax" = true := by first | (simp [plainName, overriddenIn]; done) | decide +kernel
theorem d15_0 : decode prog_19_method_11_code 0 = .ok (.iload_n 0, 1) := by decide +kernel
theorem d15_1 : decode prog_19_method_11_code 1 = .ok (.bipush 65, 2) := by decide +kernel
theorem d15_3 : decode prog_19_method_11_code 3 = .ok (.if_icmp .lt 9, 3) := by decide +kernel
theorem d15_12 : decode prog_19_method_11_code 12 = .ok (.iload_n 0, 1) := by decide +kernel
theorem d15_13 : decode prog_19_method_11_code 13 = .ok (.bipush 97, 2) := by decide +kernel
theorem d15_15 : decode prog_19_method_11_code 15 = .ok (.if_icmp .lt 9, 3) := by decide +kernel
theorem d15_24 : decode prog_19_method_11_code 24 = .ok (.iload_n 0, 1) := by decide +kernel
theorem d15_25 : decode prog_19_method_11_code 25 = .ok (.bipush 48, 2) := by decide +kernel
theorem d15_27 : decode prog_19_method_11_code 27 = .ok (.if_icmp .lt 9, 3) := by decide +kernel
theorem d15_36 : decode prog_19_method_11_code 36 = .ok (.iload_n 0, 1) := by decide +kernel
theorem d15_37 : decode prog_19_method_11_code 37 = .ok (.bipush 43, 2) := by decide +kernel
theorem d15_39 : decode prog_19_method_11_code 39 = .ok (.if_icmp .eq 15, 3) := by decide +kernel
theorem d15_54 : decode prog_19_method_11_code 54 = .ok (.iconst 1, 1) := by decide +kernel
theorem d15_55 : decode prog_19_method_11_code 55 = .ok (.goto 4, 3) := by decide +kernel
theorem d15_59 : decode prog_19_method_11_code 59 = .ok (.ireturn, 1) := by decide +kernel
theorem d15_42 : decode prog_19_method_11_code 42 = .ok (.iload_n 0, 1) := by decide +kernel
theorem d15_43 : decode prog_19_method_11_code 43 = .ok (.bipush 47, 2) := by decide +kernel
theorem d15_45 : decode prog_19_method_11_code 45 = .ok (.if_icmp .eq 9, 3) := by decide +kernel
theorem d15_48 : decode prog_19_method_11_code 48 = .ok (.iload_n 0, 1) := by decide +kernel
theorem d15_49 : decode prog_19_method_11_code 49 = .ok (.bipush 46, 2) := by decide +kernel
theorem d15_51 : decode prog_19_method_11_code 51 = .ok (.if_icmp .ne 7, 3) := by decide +kernel
theorem d15_58 : decode prog_19_method_11_code 58 = .ok (.iconst 0, 1) := by decide +kernel
theorem d15_30 : decode prog_19_method_11_code 30 = .ok (.iload_n 0, 1) := by decide +kernel
theorem d15_31 : decode prog_19_method_11_code 31 = .ok (.bipush 57, 2) := by decide +kernel
theorem d15_33 : decode prog_19_method_11_code 33 = .ok (.if_icmp .le 21, 3) := by decide +kernel
theorem d15_18 : decode prog_19_method_11_code 18 = .ok (.iload_n 0, 1) := by decide +kernel
theorem d15_19 : decode prog_19_method_11_code 19 = .ok (.bipush 122, 2) := by decide +kernel
theorem d15_21 : decode prog_19_method_11_code 21 = .ok (.if_icmp .le 33, 3) := by decide +kernel
theorem d15_6 : decode prog_19_method_11_code 6 = .ok (.iload_n 0, 1) := by decide +kernel
theorem d15_7 : decode prog_19_method_11_code 7 = .ok (.bipush 90, 2) := by decide +kernel
theorem d15_9 : decode prog_19_method_11_code 9 = .ok (.if_icmp .le 45, 3) := by decide +kernel
abbrev R_ishash : Room := { frames := 0, cells := 0, slots := 0, locals := 0 }
def Q_ishash (Z : State) (G1 : Int32) (G3 : Value) (cc : Int32) (h0 : Heap) (n0 : Nat) (v : Option Value) (h : Heap) (L : List Loc) : Prop := (∃ rr : Int32, v = some (.int rr) ∧ Fr n0 L ∧ h = h0 ∧ (rr = own_b (own_hash cc)))
set_option maxRecDepth 65536 in
set_option maxHeartbeats 40000000 in
theorem rm_ishash (l : Launch) (Z : State) (a0 : Array Value) (hw : ∀ d ∈ tables_1, d.before a0 Z = true) (ws : List Jvm.Cond) (G1 : Int32) (G3 : Value) (HG : own_G l Z a0 G1 G3) (h0 : Heap) (n0 : Nat) (X00 : Old Z n0 h0) (cc : Int32)  :
    own_CP l Z M294 prog_19_method_11_code 1 (some .boolean) ws R_ishash #[(.int cc)] h0 (Q_ishash Z G1 G3 cc h0 n0) := by
  refine own_P (plainFor_of_name pn_295) ?_
  intro p e s m below meth c s₁ S0 Bd hZ hh hx hby hml hown hnm X0 e0 hS0d
  obtain ⟨O1, P1, O3f, rG3⟩ := id HG
  have N0 := Fr.nil n0
  have C0 : Steps p.tables e below S0 (s₁.setTop (mkF m 0 #[.val (.int cc)] [])) := by rw [hS0d]; exact castTop (ef_256 m cc) (Steps.refl _)
  have C_1 : Steps p.tables e below S0 (s₁.setTop (mkF m 3 #[.val (.int cc)] [(.int (65 : Int32)), (.int cc)])) := by
    refine C0.trans ?_
    refine XS.iloadN X0.here hx rfl (hb hby d15_0) rfl ?_
    refine XS.bipush X0.here hx rfl (hb hby d15_1) ?_
    exact Steps.refl _
  by_cases hc_2 : cc < (65 : Int32)
  · skip
    have C_3 : Steps p.tables e below S0 (s₁.setTop (mkF m 15 #[.val (.int cc)] [(.int (97 : Int32)), (.int cc)])) := by
      refine C_1.trans ?_
      refine XS.icmpYes X0.here hx rfl (pc0 := 3) (pc' := 12) rfl (hb hby d15_3) rfl (ii_lt_t hc_2) (by decide) (by decide) ?_
      refine XS.iloadN X0.here hx rfl (hb hby d15_12) rfl ?_
      refine XS.bipush X0.here hx rfl (hb hby d15_13) ?_
      exact Steps.refl _
    by_cases hc_4 : cc < (97 : Int32)
    · skip
      have C_5 : Steps p.tables e below S0 (s₁.setTop (mkF m 27 #[.val (.int cc)] [(.int (48 : Int32)), (.int cc)])) := by
        refine C_3.trans ?_
        refine XS.icmpYes X0.here hx rfl (pc0 := 15) (pc' := 24) rfl (hb hby d15_15) rfl (ii_lt_t hc_4) (by decide) (by decide) ?_
        refine XS.iloadN X0.here hx rfl (hb hby d15_24) rfl ?_
        refine XS.bipush X0.here hx rfl (hb hby d15_25) ?_
        exact Steps.refl _
      by_cases hc_6 : cc < (48 : Int32)
      · skip
        have C_7 : Steps p.tables e below S0 (s₁.setTop (mkF m 39 #[.val (.int cc)] [(.int (43 : Int32)), (.int cc)])) := by
          refine C_5.trans ?_
          refine XS.icmpYes X0.here hx rfl (pc0 := 27) (pc' := 36) rfl (hb hby d15_27) rfl (ii_lt_t hc_6) (by decide) (by decide) ?_
          refine XS.iloadN X0.here hx rfl (hb hby d15_36) rfl ?_
          refine XS.bipush X0.here hx rfl (hb hby d15_37) ?_
          exact Steps.refl _
        by_cases hc_8 : cc = (43 : Int32)
        · skip
          have C_9 : Steps p.tables e below S0 (s₁.setTop (mkF m 59 #[.val (.int cc)] [(.int (1 : Int32))])) := by
            refine C_7.trans ?_
            refine XS.icmpYes X0.here hx rfl (pc0 := 39) (pc' := 54) rfl (hb hby d15_39) rfl (ii_eq_t hc_8) (by decide) (by decide) ?_
            refine XS.iconst X0.here hx rfl (hb hby d15_54) ?_
            refine XS.goto X0.here hx rfl (pc0 := 55) (pc' := 59) rfl (hb hby d15_55) (by decide) (by decide) ?_
            exact Steps.refl _
          obtain ⟨fs, hr, hrun, hended, hW, hsame⟩ := X0.leave (v := some (.int (1 : Int32))) (fun h => by rw [Bd.returns] at h; cases h)
          refine ⟨_, _, C_9.trans (retN X0 hx (t := .boolean) Bd.returns (by simp) (hb hby d15_59) hr), hrun, hended, _, _, rfl, ?_, ⟨_, rfl⟩, hW, hsame.mono (by decide) (by decide)⟩
          show Q_ishash Z G1 G3 cc h0 n0 (some (.int (1 : Int32))) s₁.heap _
          rw [e0]
          exact ⟨(1 : Int32), rfl, N0, rfl, (own_bT (Or.inr (Or.inr (Or.inr (Or.inl hc_8)))))⟩
        · skip
          have C_10 : Steps p.tables e below S0 (s₁.setTop (mkF m 45 #[.val (.int cc)] [(.int (47 : Int32)), (.int cc)])) := by
            refine C_7.trans ?_
            refine XS.icmpNo X0.here hx rfl (hb hby d15_39) rfl (ii_eq_f hc_8) ?_
            refine XS.iloadN X0.here hx rfl (hb hby d15_42) rfl ?_
            refine XS.bipush X0.here hx rfl (hb hby d15_43) ?_
            exact Steps.refl _
          by_cases hc_11 : cc = (47 : Int32)
          · skip
            have C_12 : Steps p.tables e below S0 (s₁.setTop (mkF m 59 #[.val (.int cc)] [(.int (1 : Int32))])) := by
              refine C_10.trans ?_
              refine XS.icmpYes X0.here hx rfl (pc0 := 45) (pc' := 54) rfl (hb hby d15_45) rfl (ii_eq_t hc_11) (by decide) (by decide) ?_
              refine XS.iconst X0.here hx rfl (hb hby d15_54) ?_
              refine XS.goto X0.here hx rfl (pc0 := 55) (pc' := 59) rfl (hb hby d15_55) (by decide) (by decide) ?_
              exact Steps.refl _
            obtain ⟨fs, hr, hrun, hended, hW, hsame⟩ := X0.leave (v := some (.int (1 : Int32))) (fun h => by rw [Bd.returns] at h; cases h)
            refine ⟨_, _, C_12.trans (retN X0 hx (t := .boolean) Bd.returns (by simp) (hb hby d15_59) hr), hrun, hended, _, _, rfl, ?_, ⟨_, rfl⟩, hW, hsame.mono (by decide) (by decide)⟩
            show Q_ishash Z G1 G3 cc h0 n0 (some (.int (1 : Int32))) s₁.heap _
            rw [e0]
            exact ⟨(1 : Int32), rfl, N0, rfl, (own_bT (Or.inr (Or.inr (Or.inr (Or.inr (Or.inl hc_11))))))⟩
          · skip
            have C_13 : Steps p.tables e below S0 (s₁.setTop (mkF m 51 #[.val (.int cc)] [(.int (46 : Int32)), (.int cc)])) := by
              refine C_10.trans ?_
              refine XS.icmpNo X0.here hx rfl (hb hby d15_45) rfl (ii_eq_f hc_11) ?_
              refine XS.iloadN X0.here hx rfl (hb hby d15_48) rfl ?_
              refine XS.bipush X0.here hx rfl (hb hby d15_49) ?_
              exact Steps.refl _
            by_cases hc_14 : cc = (46 : Int32)
            · skip
              have C_15 : Steps p.tables e below S0 (s₁.setTop (mkF m 59 #[.val (.int cc)] [(.int (1 : Int32))])) := by
                refine C_13.trans ?_
                refine XS.icmpNo X0.here hx rfl (hb hby d15_51) rfl (ii_ne_f hc_14) ?_
                refine XS.iconst X0.here hx rfl (hb hby d15_54) ?_
                refine XS.goto X0.here hx rfl (pc0 := 55) (pc' := 59) rfl (hb hby d15_55) (by decide) (by decide) ?_
                exact Steps.refl _
              obtain ⟨fs, hr, hrun, hended, hW, hsame⟩ := X0.leave (v := some (.int (1 : Int32))) (fun h => by rw [Bd.returns] at h; cases h)
              refine ⟨_, _, C_15.trans (retN X0 hx (t := .boolean) Bd.returns (by simp) (hb hby d15_59) hr), hrun, hended, _, _, rfl, ?_, ⟨_, rfl⟩, hW, hsame.mono (by decide) (by decide)⟩
              show Q_ishash Z G1 G3 cc h0 n0 (some (.int (1 : Int32))) s₁.heap _
              rw [e0]
              exact ⟨(1 : Int32), rfl, N0, rfl, (own_bT (Or.inr (Or.inr (Or.inr (Or.inr (Or.inr hc_14))))))⟩
            · skip
              have C_16 : Steps p.tables e below S0 (s₁.setTop (mkF m 59 #[.val (.int cc)] [(.int (0 : Int32))])) := by
                refine C_13.trans ?_
                refine XS.icmpYes X0.here hx rfl (pc0 := 51) (pc' := 58) rfl (hb hby d15_51) rfl (ii_ne_t hc_14) (by decide) (by decide) ?_
                refine XS.iconst X0.here hx rfl (hb hby d15_58) ?_
                exact Steps.refl _
              obtain ⟨fs, hr, hrun, hended, hW, hsame⟩ := X0.leave (v := some (.int (0 : Int32))) (fun h => by rw [Bd.returns] at h; cases h)
              refine ⟨_, _, C_16.trans (retN X0 hx (t := .boolean) Bd.returns (by simp) (hb hby d15_59) hr), hrun, hended, _, _, rfl, ?_, ⟨_, rfl⟩, hW, hsame.mono (by decide) (by decide)⟩
              show Q_ishash Z G1 G3 cc h0 n0 (some (.int (0 : Int32))) s₁.heap _
              rw [e0]
              exact ⟨(0 : Int32), rfl, N0, rfl, (own_bF (fun q => q.1 hc_2) (fun q => q.1 hc_4) (fun q => q.1 hc_6) hc_8 hc_11 hc_14)⟩
      · skip
        have C_17 : Steps p.tables e below S0 (s₁.setTop (mkF m 33 #[.val (.int cc)] [(.int (57 : Int32)), (.int cc)])) := by
          refine C_5.trans ?_
          refine XS.icmpNo X0.here hx rfl (hb hby d15_27) rfl (ii_lt_f hc_6) ?_
          refine XS.iloadN X0.here hx rfl (hb hby d15_30) rfl ?_
          refine XS.bipush X0.here hx rfl (hb hby d15_31) ?_
          exact Steps.refl _
        by_cases hc_18 : (57 : Int32) < cc
        · skip
          have C_19 : Steps p.tables e below S0 (s₁.setTop (mkF m 39 #[.val (.int cc)] [(.int (43 : Int32)), (.int cc)])) := by
            refine C_17.trans ?_
            refine XS.icmpNo X0.here hx rfl (hb hby d15_33) rfl (ii_le_f hc_18) ?_
            refine XS.iloadN X0.here hx rfl (hb hby d15_36) rfl ?_
            refine XS.bipush X0.here hx rfl (hb hby d15_37) ?_
            exact Steps.refl _
          by_cases hc_20 : cc = (43 : Int32)
          · skip
            have C_21 : Steps p.tables e below S0 (s₁.setTop (mkF m 59 #[.val (.int cc)] [(.int (1 : Int32))])) := by
              refine C_19.trans ?_
              refine XS.icmpYes X0.here hx rfl (pc0 := 39) (pc' := 54) rfl (hb hby d15_39) rfl (ii_eq_t hc_20) (by decide) (by decide) ?_
              refine XS.iconst X0.here hx rfl (hb hby d15_54) ?_
              refine XS.goto X0.here hx rfl (pc0 := 55) (pc' := 59) rfl (hb hby d15_55) (by decide) (by decide) ?_
              exact Steps.refl _
            obtain ⟨fs, hr, hrun, hended, hW, hsame⟩ := X0.leave (v := some (.int (1 : Int32))) (fun h => by rw [Bd.returns] at h; cases h)
            refine ⟨_, _, C_21.trans (retN X0 hx (t := .boolean) Bd.returns (by simp) (hb hby d15_59) hr), hrun, hended, _, _, rfl, ?_, ⟨_, rfl⟩, hW, hsame.mono (by decide) (by decide)⟩
            show Q_ishash Z G1 G3 cc h0 n0 (some (.int (1 : Int32))) s₁.heap _
            rw [e0]
            exact ⟨(1 : Int32), rfl, N0, rfl, (own_bT (Or.inr (Or.inr (Or.inr (Or.inl hc_20)))))⟩
          · skip
            have C_22 : Steps p.tables e below S0 (s₁.setTop (mkF m 45 #[.val (.int cc)] [(.int (47 : Int32)), (.int cc)])) := by
              refine C_19.trans ?_
              refine XS.icmpNo X0.here hx rfl (hb hby d15_39) rfl (ii_eq_f hc_20) ?_
              refine XS.iloadN X0.here hx rfl (hb hby d15_42) rfl ?_
              refine XS.bipush X0.here hx rfl (hb hby d15_43) ?_
              exact Steps.refl _
            by_cases hc_23 : cc = (47 : Int32)
            · skip
              have C_24 : Steps p.tables e below S0 (s₁.setTop (mkF m 59 #[.val (.int cc)] [(.int (1 : Int32))])) := by
                refine C_22.trans ?_
                refine XS.icmpYes X0.here hx rfl (pc0 := 45) (pc' := 54) rfl (hb hby d15_45) rfl (ii_eq_t hc_23) (by decide) (by decide) ?_
                refine XS.iconst X0.here hx rfl (hb hby d15_54) ?_
                refine XS.goto X0.here hx rfl (pc0 := 55) (pc' := 59) rfl (hb hby d15_55) (by decide) (by decide) ?_
                exact Steps.refl _
              obtain ⟨fs, hr, hrun, hended, hW, hsame⟩ := X0.leave (v := some (.int (1 : Int32))) (fun h => by rw [Bd.returns] at h; cases h)
              refine ⟨_, _, C_24.trans (retN X0 hx (t := .boolean) Bd.returns (by simp) (hb hby d15_59) hr), hrun, hended, _, _, rfl, ?_, ⟨_, rfl⟩, hW, hsame.mono (by decide) (by decide)⟩
              show Q_ishash Z G1 G3 cc h0 n0 (some (.int (1 : Int32))) s₁.heap _
              rw [e0]
              exact ⟨(1 : Int32), rfl, N0, rfl, (own_bT (Or.inr (Or.inr (Or.inr (Or.inr (Or.inl hc_23))))))⟩
            · skip
              have C_25 : Steps p.tables e below S0 (s₁.setTop (mkF m 51 #[.val (.int cc)] [(.int (46 : Int32)), (.int cc)])) := by
                refine C_22.trans ?_
                refine XS.icmpNo X0.here hx rfl (hb hby d15_45) rfl (ii_eq_f hc_23) ?_
                refine XS.iloadN X0.here hx rfl (hb hby d15_48) rfl ?_
                refine XS.bipush X0.here hx rfl (hb hby d15_49) ?_
                exact Steps.refl _
              by_cases hc_26 : cc = (46 : Int32)
              · skip
                have C_27 : Steps p.tables e below S0 (s₁.setTop (mkF m 59 #[.val (.int cc)] [(.int (1 : Int32))])) := by
                  refine C_25.trans ?_
                  refine XS.icmpNo X0.here hx rfl (hb hby d15_51) rfl (ii_ne_f hc_26) ?_
                  refine XS.iconst X0.here hx rfl (hb hby d15_54) ?_
                  refine XS.goto X0.here hx rfl (pc0 := 55) (pc' := 59) rfl (hb hby d15_55) (by decide) (by decide) ?_
                  exact Steps.refl _
                obtain ⟨fs, hr, hrun, hended, hW, hsame⟩ := X0.leave (v := some (.int (1 : Int32))) (fun h => by rw [Bd.returns] at h; cases h)
                refine ⟨_, _, C_27.trans (retN X0 hx (t := .boolean) Bd.returns (by simp) (hb hby d15_59) hr), hrun, hended, _, _, rfl, ?_, ⟨_, rfl⟩, hW, hsame.mono (by decide) (by decide)⟩
                show Q_ishash Z G1 G3 cc h0 n0 (some (.int (1 : Int32))) s₁.heap _
                rw [e0]
                exact ⟨(1 : Int32), rfl, N0, rfl, (own_bT (Or.inr (Or.inr (Or.inr (Or.inr (Or.inr hc_26))))))⟩
              · skip
                have C_28 : Steps p.tables e below S0 (s₁.setTop (mkF m 59 #[.val (.int cc)] [(.int (0 : Int32))])) := by
                  refine C_25.trans ?_
                  refine XS.icmpYes X0.here hx rfl (pc0 := 51) (pc' := 58) rfl (hb hby d15_51) rfl (ii_ne_t hc_26) (by decide) (by decide) ?_
                  refine XS.iconst X0.here hx rfl (hb hby d15_58) ?_
                  exact Steps.refl _
                obtain ⟨fs, hr, hrun, hended, hW, hsame⟩ := X0.leave (v := some (.int (0 : Int32))) (fun h => by rw [Bd.returns] at h; cases h)
                refine ⟨_, _, C_28.trans (retN X0 hx (t := .boolean) Bd.returns (by simp) (hb hby d15_59) hr), hrun, hended, _, _, rfl, ?_, ⟨_, rfl⟩, hW, hsame.mono (by decide) (by decide)⟩
                show Q_ishash Z G1 G3 cc h0 n0 (some (.int (0 : Int32))) s₁.heap _
                rw [e0]
                exact ⟨(0 : Int32), rfl, N0, rfl, (own_bF (fun q => q.1 hc_2) (fun q => q.1 hc_4) (fun q => q.2 hc_18) hc_20 hc_23 hc_26)⟩
        · skip
          have C_29 : Steps p.tables e below S0 (s₁.setTop (mkF m 59 #[.val (.int cc)] [(.int (1 : Int32))])) := by
            refine C_17.trans ?_
            refine XS.icmpYes X0.here hx rfl (pc0 := 33) (pc' := 54) rfl (hb hby d15_33) rfl (ii_le_t hc_18) (by decide) (by decide) ?_
            refine XS.iconst X0.here hx rfl (hb hby d15_54) ?_
            refine XS.goto X0.here hx rfl (pc0 := 55) (pc' := 59) rfl (hb hby d15_55) (by decide) (by decide) ?_
            exact Steps.refl _
          obtain ⟨fs, hr, hrun, hended, hW, hsame⟩ := X0.leave (v := some (.int (1 : Int32))) (fun h => by rw [Bd.returns] at h; cases h)
          refine ⟨_, _, C_29.trans (retN X0 hx (t := .boolean) Bd.returns (by simp) (hb hby d15_59) hr), hrun, hended, _, _, rfl, ?_, ⟨_, rfl⟩, hW, hsame.mono (by decide) (by decide)⟩
          show Q_ishash Z G1 G3 cc h0 n0 (some (.int (1 : Int32))) s₁.heap _
          rw [e0]
          exact ⟨(1 : Int32), rfl, N0, rfl, (own_bT (Or.inr (Or.inr (Or.inl ⟨hc_6, hc_18⟩))))⟩
    · skip
      have C_30 : Steps p.tables e below S0 (s₁.setTop (mkF m 21 #[.val (.int cc)] [(.int (122 : Int32)), (.int cc)])) := by
        refine C_3.trans ?_
        refine XS.icmpNo X0.here hx rfl (hb hby d15_15) rfl (ii_lt_f hc_4) ?_
        refine XS.iloadN X0.here hx rfl (hb hby d15_18) rfl ?_
        refine XS.bipush X0.here hx rfl (hb hby d15_19) ?_
        exact Steps.refl _
      by_cases hc_31 : (122 : Int32) < cc
      · skip
        have C_32 : Steps p.tables e below S0 (s₁.setTop (mkF m 27 #[.val (.int cc)] [(.int (48 : Int32)), (.int cc)])) := by
          refine C_30.trans ?_
          refine XS.icmpNo X0.here hx rfl (hb hby d15_21) rfl (ii_le_f hc_31) ?_
          refine XS.iloadN X0.here hx rfl (hb hby d15_24) rfl ?_
          refine XS.bipush X0.here hx rfl (hb hby d15_25) ?_
          exact Steps.refl _
        by_cases hc_33 : cc < (48 : Int32)
        · skip
          have C_34 : Steps p.tables e below S0 (s₁.setTop (mkF m 39 #[.val (.int cc)] [(.int (43 : Int32)), (.int cc)])) := by
            refine C_32.trans ?_
            refine XS.icmpYes X0.here hx rfl (pc0 := 27) (pc' := 36) rfl (hb hby d15_27) rfl (ii_lt_t hc_33) (by decide) (by decide) ?_
            refine XS.iloadN X0.here hx rfl (hb hby d15_36) rfl ?_
            refine XS.bipush X0.here hx rfl (hb hby d15_37) ?_
            exact Steps.refl _
          by_cases hc_35 : cc = (43 : Int32)
          · skip
            have C_36 : Steps p.tables e below S0 (s₁.setTop (mkF m 59 #[.val (.int cc)] [(.int (1 : Int32))])) := by
              refine C_34.trans ?_
              refine XS.icmpYes X0.here hx rfl (pc0 := 39) (pc' := 54) rfl (hb hby d15_39) rfl (ii_eq_t hc_35) (by decide) (by decide) ?_
              refine XS.iconst X0.here hx rfl (hb hby d15_54) ?_
              refine XS.goto X0.here hx rfl (pc0 := 55) (pc' := 59) rfl (hb hby d15_55) (by decide) (by decide) ?_
              exact Steps.refl _
            obtain ⟨fs, hr, hrun, hended, hW, hsame⟩ := X0.leave (v := some (.int (1 : Int32))) (fun h => by rw [Bd.returns] at h; cases h)
            refine ⟨_, _, C_36.trans (retN X0 hx (t := .boolean) Bd.returns (by simp) (hb hby d15_59) hr), hrun, hended, _, _, rfl, ?_, ⟨_, rfl⟩, hW, hsame.mono (by decide) (by decide)⟩
            show Q_ishash Z G1 G3 cc h0 n0 (some (.int (1 : Int32))) s₁.heap _
            rw [e0]
            exact ⟨(1 : Int32), rfl, N0, rfl, (own_bT (Or.inr (Or.inr (Or.inr (Or.inl hc_35)))))⟩
          · skip
            have C_37 : Steps p.tables e below S0 (s₁.setTop (mkF m 45 #[.val (.int cc)] [(.int (47 : Int32)), (.int cc)])) := by
              refine C_34.trans ?_
              refine XS.icmpNo X0.here hx rfl (hb hby d15_39) rfl (ii_eq_f hc_35) ?_
              refine XS.iloadN X0.here hx rfl (hb hby d15_42) rfl ?_
              refine XS.bipush X0.here hx rfl (hb hby d15_43) ?_
              exact Steps.refl _
            by_cases hc_38 : cc = (47 : Int32)
            · skip
              have C_39 : Steps p.tables e below S0 (s₁.setTop (mkF m 59 #[.val (.int cc)] [(.int (1 : Int32))])) := by
                refine C_37.trans ?_
                refine XS.icmpYes X0.here hx rfl (pc0 := 45) (pc' := 54) rfl (hb hby d15_45) rfl (ii_eq_t hc_38) (by decide) (by decide) ?_
                refine XS.iconst X0.here hx rfl (hb hby d15_54) ?_
                refine XS.goto X0.here hx rfl (pc0 := 55) (pc' := 59) rfl (hb hby d15_55) (by decide) (by decide) ?_
                exact Steps.refl _
              obtain ⟨fs, hr, hrun, hended, hW, hsame⟩ := X0.leave (v := some (.int (1 : Int32))) (fun h => by rw [Bd.returns] at h; cases h)
              refine ⟨_, _, C_39.trans (retN X0 hx (t := .boolean) Bd.returns (by simp) (hb hby d15_59) hr), hrun, hended, _, _, rfl, ?_, ⟨_, rfl⟩, hW, hsame.mono (by decide) (by decide)⟩
              show Q_ishash Z G1 G3 cc h0 n0 (some (.int (1 : Int32))) s₁.heap _
              rw [e0]
              exact ⟨(1 : Int32), rfl, N0, rfl, (own_bT (Or.inr (Or.inr (Or.inr (Or.inr (Or.inl hc_38))))))⟩
            · skip
              have C_40 : Steps p.tables e below S0 (s₁.setTop (mkF m 51 #[.val (.int cc)] [(.int (46 : Int32)), (.int cc)])) := by
                refine C_37.trans ?_
                refine XS.icmpNo X0.here hx rfl (hb hby d15_45) rfl (ii_eq_f hc_38) ?_
                refine XS.iloadN X0.here hx rfl (hb hby d15_48) rfl ?_
                refine XS.bipush X0.here hx rfl (hb hby d15_49) ?_
                exact Steps.refl _
              by_cases hc_41 : cc = (46 : Int32)
              · skip
                have C_42 : Steps p.tables e below S0 (s₁.setTop (mkF m 59 #[.val (.int cc)] [(.int (1 : Int32))])) := by
                  refine C_40.trans ?_
                  refine XS.icmpNo X0.here hx rfl (hb hby d15_51) rfl (ii_ne_f hc_41) ?_
                  refine XS.iconst X0.here hx rfl (hb hby d15_54) ?_
                  refine XS.goto X0.here hx rfl (pc0 := 55) (pc' := 59) rfl (hb hby d15_55) (by decide) (by decide) ?_
                  exact Steps.refl _
                obtain ⟨fs, hr, hrun, hended, hW, hsame⟩ := X0.leave (v := some (.int (1 : Int32))) (fun h => by rw [Bd.returns] at h; cases h)
                refine ⟨_, _, C_42.trans (retN X0 hx (t := .boolean) Bd.returns (by simp) (hb hby d15_59) hr), hrun, hended, _, _, rfl, ?_, ⟨_, rfl⟩, hW, hsame.mono (by decide) (by decide)⟩
                show Q_ishash Z G1 G3 cc h0 n0 (some (.int (1 : Int32))) s₁.heap _
                rw [e0]
                exact ⟨(1 : Int32), rfl, N0, rfl, (own_bT (Or.inr (Or.inr (Or.inr (Or.inr (Or.inr hc_41))))))⟩
              · skip
                have C_43 : Steps p.tables e below S0 (s₁.setTop (mkF m 59 #[.val (.int cc)] [(.int (0 : Int32))])) := by
                  refine C_40.trans ?_
                  refine XS.icmpYes X0.here hx rfl (pc0 := 51) (pc' := 58) rfl (hb hby d15_51) rfl (ii_ne_t hc_41) (by decide) (by decide) ?_
                  refine XS.iconst X0.here hx rfl (hb hby d15_58) ?_
                  exact Steps.refl _
                obtain ⟨fs, hr, hrun, hended, hW, hsame⟩ := X0.leave (v := some (.int (0 : Int32))) (fun h => by rw [Bd.returns] at h; cases h)
                refine ⟨_, _, C_43.trans (retN X0 hx (t := .boolean) Bd.returns (by simp) (hb hby d15_59) hr), hrun, hended, _, _, rfl, ?_, ⟨_, rfl⟩, hW, hsame.mono (by decide) (by decide)⟩
                show Q_ishash Z G1 G3 cc h0 n0 (some (.int (0 : Int32))) s₁.heap _
                rw [e0]
                exact ⟨(0 : Int32), rfl, N0, rfl, (own_bF (fun q => q.1 hc_2) (fun q => q.2 hc_31) (fun q => q.1 hc_33) hc_35 hc_38 hc_41)⟩
        · skip
          have C_44 : Steps p.tables e below S0 (s₁.setTop (mkF m 33 #[.val (.int cc)] [(.int (57 : Int32)), (.int cc)])) := by
            refine C_32.trans ?_
            refine XS.icmpNo X0.here hx rfl (hb hby d15_27) rfl (ii_lt_f hc_33) ?_
            refine XS.iloadN X0.here hx rfl (hb hby d15_30) rfl ?_
            refine XS.bipush X0.here hx rfl (hb hby d15_31) ?_
            exact Steps.refl _
          by_cases hc_45 : (57 : Int32) < cc
          · skip
            have C_46 : Steps p.tables e below S0 (s₁.setTop (mkF m 39 #[.val (.int cc)] [(.int (43 : Int32)), (.int cc)])) := by
              refine C_44.trans ?_
              refine XS.icmpNo X0.here hx rfl (hb hby d15_33) rfl (ii_le_f hc_45) ?_
              refine XS.iloadN X0.here hx rfl (hb hby d15_36) rfl ?_
              refine XS.bipush X0.here hx rfl (hb hby d15_37) ?_
              exact Steps.refl _
            by_cases hc_47 : cc = (43 : Int32)
            · skip
              have C_48 : Steps p.tables e below S0 (s₁.setTop (mkF m 59 #[.val (.int cc)] [(.int (1 : Int32))])) := by
                refine C_46.trans ?_
                refine XS.icmpYes X0.here hx rfl (pc0 := 39) (pc' := 54) rfl (hb hby d15_39) rfl (ii_eq_t hc_47) (by decide) (by decide) ?_
                refine XS.iconst X0.here hx rfl (hb hby d15_54) ?_
                refine XS.goto X0.here hx rfl (pc0 := 55) (pc' := 59) rfl (hb hby d15_55) (by decide) (by decide) ?_
                exact Steps.refl _
              obtain ⟨fs, hr, hrun, hended, hW, hsame⟩ := X0.leave (v := some (.int (1 : Int32))) (fun h => by rw [Bd.returns] at h; cases h)
              refine ⟨_, _, C_48.trans (retN X0 hx (t := .boolean) Bd.returns (by simp) (hb hby d15_59) hr), hrun, hended, _, _, rfl, ?_, ⟨_, rfl⟩, hW, hsame.mono (by decide) (by decide)⟩
              show Q_ishash Z G1 G3 cc h0 n0 (some (.int (1 : Int32))) s₁.heap _
              rw [e0]
              exact ⟨(1 : Int32), rfl, N0, rfl, (own_bT (Or.inr (Or.inr (Or.inr (Or.inl hc_47)))))⟩
            · skip
              have C_49 : Steps p.tables e below S0 (s₁.setTop (mkF m 45 #[.val (.int cc)] [(.int (47 : Int32)), (.int cc)])) := by
                refine C_46.trans ?_
                refine XS.icmpNo X0.here hx rfl (hb hby d15_39) rfl (ii_eq_f hc_47) ?_
                refine XS.iloadN X0.here hx rfl (hb hby d15_42) rfl ?_
                refine XS.bipush X0.here hx rfl (hb hby d15_43) ?_
                exact Steps.refl _
              by_cases hc_50 : cc = (47 : Int32)
              · skip
                have C_51 : Steps p.tables e below S0 (s₁.setTop (mkF m 59 #[.val (.int cc)] [(.int (1 : Int32))])) := by
                  refine C_49.trans ?_
                  refine XS.icmpYes X0.here hx rfl (pc0 := 45) (pc' := 54) rfl (hb hby d15_45) rfl (ii_eq_t hc_50) (by decide) (by decide) ?_
                  refine XS.iconst X0.here hx rfl (hb hby d15_54) ?_
                  refine XS.goto X0.here hx rfl (pc0 := 55) (pc' := 59) rfl (hb hby d15_55) (by decide) (by decide) ?_
                  exact Steps.refl _
                obtain ⟨fs, hr, hrun, hended, hW, hsame⟩ := X0.leave (v := some (.int (1 : Int32))) (fun h => by rw [Bd.returns] at h; cases h)
                refine ⟨_, _, C_51.trans (retN X0 hx (t := .boolean) Bd.returns (by simp) (hb hby d15_59) hr), hrun, hended, _, _, rfl, ?_, ⟨_, rfl⟩, hW, hsame.mono (by decide) (by decide)⟩
                show Q_ishash Z G1 G3 cc h0 n0 (some (.int (1 : Int32))) s₁.heap _
                rw [e0]
                exact ⟨(1 : Int32), rfl, N0, rfl, (own_bT (Or.inr (Or.inr (Or.inr (Or.inr (Or.inl hc_50))))))⟩
              · skip
                have C_52 : Steps p.tables e below S0 (s₁.setTop (mkF m 51 #[.val (.int cc)] [(.int (46 : Int32)), (.int cc)])) := by
                  refine C_49.trans ?_
                  refine XS.icmpNo X0.here hx rfl (hb hby d15_45) rfl (ii_eq_f hc_50) ?_
                  refine XS.iloadN X0.here hx rfl (hb hby d15_48) rfl ?_
                  refine XS.bipush X0.here hx rfl (hb hby d15_49) ?_
                  exact Steps.refl _
                by_cases hc_53 : cc = (46 : Int32)
                · skip
                  have C_54 : Steps p.tables e below S0 (s₁.setTop (mkF m 59 #[.val (.int cc)] [(.int (1 : Int32))])) := by
                    refine C_52.trans ?_
                    refine XS.icmpNo X0.here hx rfl (hb hby d15_51) rfl (ii_ne_f hc_53) ?_
                    refine XS.iconst X0.here hx rfl (hb hby d15_54) ?_
                    refine XS.goto X0.here hx rfl (pc0 := 55) (pc' := 59) rfl (hb hby d15_55) (by decide) (by decide) ?_
                    exact Steps.refl _
                  obtain ⟨fs, hr, hrun, hended, hW, hsame⟩ := X0.leave (v := some (.int (1 : Int32))) (fun h => by rw [Bd.returns] at h; cases h)
                  refine ⟨_, _, C_54.trans (retN X0 hx (t := .boolean) Bd.returns (by simp) (hb hby d15_59) hr), hrun, hended, _, _, rfl, ?_, ⟨_, rfl⟩, hW, hsame.mono (by decide) (by decide)⟩
                  show Q_ishash Z G1 G3 cc h0 n0 (some (.int (1 : Int32))) s₁.heap _
                  rw [e0]
                  exact ⟨(1 : Int32), rfl, N0, rfl, (own_bT (Or.inr (Or.inr (Or.inr (Or.inr (Or.inr hc_53))))))⟩
                · skip
                  have C_55 : Steps p.tables e below S0 (s₁.setTop (mkF m 59 #[.val (.int cc)] [(.int (0 : Int32))])) := by
                    refine C_52.trans ?_
                    refine XS.icmpYes X0.here hx rfl (pc0 := 51) (pc' := 58) rfl (hb hby d15_51) rfl (ii_ne_t hc_53) (by decide) (by decide) ?_
                    refine XS.iconst X0.here hx rfl (hb hby d15_58) ?_
                    exact Steps.refl _
                  obtain ⟨fs, hr, hrun, hended, hW, hsame⟩ := X0.leave (v := some (.int (0 : Int32))) (fun h => by rw [Bd.returns] at h; cases h)
                  refine ⟨_, _, C_55.trans (retN X0 hx (t := .boolean) Bd.returns (by simp) (hb hby d15_59) hr), hrun, hended, _, _, rfl, ?_, ⟨_, rfl⟩, hW, hsame.mono (by decide) (by decide)⟩
                  show Q_ishash Z G1 G3 cc h0 n0 (some (.int (0 : Int32))) s₁.heap _
                  rw [e0]
                  exact ⟨(0 : Int32), rfl, N0, rfl, (own_bF (fun q => q.1 hc_2) (fun q => q.2 hc_31) (fun q => q.2 hc_45) hc_47 hc_50 hc_53)⟩
          · skip
            have C_56 : Steps p.tables e below S0 (s₁.setTop (mkF m 59 #[.val (.int cc)] [(.int (1 : Int32))])) := by
              refine C_44.trans ?_
              refine XS.icmpYes X0.here hx rfl (pc0 := 33) (pc' := 54) rfl (hb hby d15_33) rfl (ii_le_t hc_45) (by decide) (by decide) ?_
              refine XS.iconst X0.here hx rfl (hb hby d15_54) ?_
              refine XS.goto X0.here hx rfl (pc0 := 55) (pc' := 59) rfl (hb hby d15_55) (by decide) (by decide) ?_
              exact Steps.refl _
            obtain ⟨fs, hr, hrun, hended, hW, hsame⟩ := X0.leave (v := some (.int (1 : Int32))) (fun h => by rw [Bd.returns] at h; cases h)
            refine ⟨_, _, C_56.trans (retN X0 hx (t := .boolean) Bd.returns (by simp) (hb hby d15_59) hr), hrun, hended, _, _, rfl, ?_, ⟨_, rfl⟩, hW, hsame.mono (by decide) (by decide)⟩
            show Q_ishash Z G1 G3 cc h0 n0 (some (.int (1 : Int32))) s₁.heap _
            rw [e0]
            exact ⟨(1 : Int32), rfl, N0, rfl, (own_bT (Or.inr (Or.inr (Or.inl ⟨hc_33, hc_45⟩))))⟩
      · skip
        have C_57 : Steps p.tables e below S0 (s₁.setTop (mkF m 59 #[.val (.int cc)] [(.int (1 : Int32))])) := by
          refine C_30.trans ?_
          refine XS.icmpYes X0.here hx rfl (pc0 := 21) (pc' := 54) rfl (hb hby d15_21) rfl (ii_le_t hc_31) (by decide) (by decide) ?_
          refine XS.iconst X0.here hx rfl (hb hby d15_54) ?_
          refine XS.goto X0.here hx rfl (pc0 := 55) (pc' := 59) rfl (hb hby d15_55) (by decide) (by decide) ?_
          exact Steps.refl _
        obtain ⟨fs, hr, hrun, hended, hW, hsame⟩ := X0.leave (v := some (.int (1 : Int32))) (fun h => by rw [Bd.returns] at h; cases h)
        refine ⟨_, _, C_57.trans (retN X0 hx (t := .boolean) Bd.returns (by simp) (hb hby d15_59) hr), hrun, hended, _, _, rfl, ?_, ⟨_, rfl⟩, hW, hsame.mono (by decide) (by decide)⟩
        show Q_ishash Z G1 G3 cc h0 n0 (some (.int (1 : Int32))) s₁.heap _
        rw [e0]
        exact ⟨(1 : Int32), rfl, N0, rfl, (own_bT (Or.inr (Or.inl ⟨hc_4, hc_31⟩)))⟩
  · skip
    have C_58 : Steps p.tables e below S0 (s₁.setTop (mkF m 9 #[.val (.int cc)] [(.int (90 : Int32)), (.int cc)])) := by
      refine C_1.trans ?_
      refine XS.icmpNo X0.here hx rfl (hb hby d15_3) rfl (ii_lt_f hc_2) ?_
      refine XS.iloadN X0.here hx rfl (hb hby d15_6) rfl ?_
      refine XS.bipush X0.here hx rfl (hb hby d15_7) ?_
      exact Steps.refl _
    by_cases hc_59 : (90 : Int32) < cc
    · skip
      have C_60 : Steps p.tables e below S0 (s₁.setTop (mkF m 15 #[.val (.int cc)] [(.int (97 : Int32)), (.int cc)])) := by
        refine C_58.trans ?_
        refine XS.icmpNo X0.here hx rfl (hb hby d15_9) rfl (ii_le_f hc_59) ?_
        refine XS.iloadN X0.here hx rfl (hb hby d15_12) rfl ?_
        refine XS.bipush X0.here hx rfl (hb hby d15_13) ?_
        exact Steps.refl _
      by_cases hc_61 : cc < (97 : Int32)
      · skip
        have C_62 : Steps p.tables e below S0 (s₁.setTop (mkF m 27 #[.val (.int cc)] [(.int (48 : Int32)), (.int cc)])) := by
          refine C_60.trans ?_
          refine XS.icmpYes X0.here hx rfl (pc0 := 15) (pc' := 24) rfl (hb hby d15_15) rfl (ii_lt_t hc_61) (by decide) (by decide) ?_
          refine XS.iloadN X0.here hx rfl (hb hby d15_24) rfl ?_
          refine XS.bipush X0.here hx rfl (hb hby d15_25) ?_
          exact Steps.refl _
        by_cases hc_63 : cc < (48 : Int32)
        · skip
          have C_64 : Steps p.tables e below S0 (s₁.setTop (mkF m 39 #[.val (.int cc)] [(.int (43 : Int32)), (.int cc)])) := by
            refine C_62.trans ?_
            refine XS.icmpYes X0.here hx rfl (pc0 := 27) (pc' := 36) rfl (hb hby d15_27) rfl (ii_lt_t hc_63) (by decide) (by decide) ?_
            refine XS.iloadN X0.here hx rfl (hb hby d15_36) rfl ?_
            refine XS.bipush X0.here hx rfl (hb hby d15_37) ?_
            exact Steps.refl _
          by_cases hc_65 : cc = (43 : Int32)
          · skip
            have C_66 : Steps p.tables e below S0 (s₁.setTop (mkF m 59 #[.val (.int cc)] [(.int (1 : Int32))])) := by
              refine C_64.trans ?_
              refine XS.icmpYes X0.here hx rfl (pc0 := 39) (pc' := 54) rfl (hb hby d15_39) rfl (ii_eq_t hc_65) (by decide) (by decide) ?_
              refine XS.iconst X0.here hx rfl (hb hby d15_54) ?_
              refine XS.goto X0.here hx rfl (pc0 := 55) (pc' := 59) rfl (hb hby d15_55) (by decide) (by decide) ?_
              exact Steps.refl _
            obtain ⟨fs, hr, hrun, hended, hW, hsame⟩ := X0.leave (v := some (.int (1 : Int32))) (fun h => by rw [Bd.returns] at h; cases h)
            refine ⟨_, _, C_66.trans (retN X0 hx (t := .boolean) Bd.returns (by simp) (hb hby d15_59) hr), hrun, hended, _, _, rfl, ?_, ⟨_, rfl⟩, hW, hsame.mono (by decide) (by decide)⟩
            show Q_ishash Z G1 G3 cc h0 n0 (some (.int (1 : Int32))) s₁.heap _
            rw [e0]
            exact ⟨(1 : Int32), rfl, N0, rfl, (own_bT (Or.inr (Or.inr (Or.inr (Or.inl hc_65)))))⟩
          · skip
            have C_67 : Steps p.tables e below S0 (s₁.setTop (mkF m 45 #[.val (.int cc)] [(.int (47 : Int32)), (.int cc)])) := by
              refine C_64.trans ?_
              refine XS.icmpNo X0.here hx rfl (hb hby d15_39) rfl (ii_eq_f hc_65) ?_
              refine XS.iloadN X0.here hx rfl (hb hby d15_42) rfl ?_
              refine XS.bipush X0.here hx rfl (hb hby d15_43) ?_
              exact Steps.refl _
            by_cases hc_68 : cc = (47 : Int32)
            · skip
              have C_69 : Steps p.tables e below S0 (s₁.setTop (mkF m 59 #[.val (.int cc)] [(.int (1 : Int32))])) := by
                refine C_67.trans ?_
                refine XS.icmpYes X0.here hx rfl (pc0 := 45) (pc' := 54) rfl (hb hby d15_45) rfl (ii_eq_t hc_68) (by decide) (by decide) ?_
                refine XS.iconst X0.here hx rfl (hb hby d15_54) ?_
                refine XS.goto X0.here hx rfl (pc0 := 55) (pc' := 59) rfl (hb hby d15_55) (by decide) (by decide) ?_
                exact Steps.refl _
              obtain ⟨fs, hr, hrun, hended, hW, hsame⟩ := X0.leave (v := some (.int (1 : Int32))) (fun h => by rw [Bd.returns] at h; cases h)
              refine ⟨_, _, C_69.trans (retN X0 hx (t := .boolean) Bd.returns (by simp) (hb hby d15_59) hr), hrun, hended, _, _, rfl, ?_, ⟨_, rfl⟩, hW, hsame.mono (by decide) (by decide)⟩
              show Q_ishash Z G1 G3 cc h0 n0 (some (.int (1 : Int32))) s₁.heap _
              rw [e0]
              exact ⟨(1 : Int32), rfl, N0, rfl, (own_bT (Or.inr (Or.inr (Or.inr (Or.inr (Or.inl hc_68))))))⟩
            · skip
              have C_70 : Steps p.tables e below S0 (s₁.setTop (mkF m 51 #[.val (.int cc)] [(.int (46 : Int32)), (.int cc)])) := by
                refine C_67.trans ?_
                refine XS.icmpNo X0.here hx rfl (hb hby d15_45) rfl (ii_eq_f hc_68) ?_
                refine XS.iloadN X0.here hx rfl (hb hby d15_48) rfl ?_
                refine XS.bipush X0.here hx rfl (hb hby d15_49) ?_
                exact Steps.refl _
              by_cases hc_71 : cc = (46 : Int32)
              · skip
                have C_72 : Steps p.tables e below S0 (s₁.setTop (mkF m 59 #[.val (.int cc)] [(.int (1 : Int32))])) := by
                  refine C_70.trans ?_
                  refine XS.icmpNo X0.here hx rfl (hb hby d15_51) rfl (ii_ne_f hc_71) ?_
                  refine XS.iconst X0.here hx rfl (hb hby d15_54) ?_
                  refine XS.goto X0.here hx rfl (pc0 := 55) (pc' := 59) rfl (hb hby d15_55) (by decide) (by decide) ?_
                  exact Steps.refl _
                obtain ⟨fs, hr, hrun, hended, hW, hsame⟩ := X0.leave (v := some (.int (1 : Int32))) (fun h => by rw [Bd.returns] at h; cases h)
                refine ⟨_, _, C_72.trans (retN X0 hx (t := .boolean) Bd.returns (by simp) (hb hby d15_59) hr), hrun, hended, _, _, rfl, ?_, ⟨_, rfl⟩, hW, hsame.mono (by decide) (by decide)⟩
                show Q_ishash Z G1 G3 cc h0 n0 (some (.int (1 : Int32))) s₁.heap _
                rw [e0]
                exact ⟨(1 : Int32), rfl, N0, rfl, (own_bT (Or.inr (Or.inr (Or.inr (Or.inr (Or.inr hc_71))))))⟩
              · skip
                have C_73 : Steps p.tables e below S0 (s₁.setTop (mkF m 59 #[.val (.int cc)] [(.int (0 : Int32))])) := by
                  refine C_70.trans ?_
                  refine XS.icmpYes X0.here hx rfl (pc0 := 51) (pc' := 58) rfl (hb hby d15_51) rfl (ii_ne_t hc_71) (by decide) (by decide) ?_
                  refine XS.iconst X0.here hx rfl (hb hby d15_58) ?_
                  exact Steps.refl _
                obtain ⟨fs, hr, hrun, hended, hW, hsame⟩ := X0.leave (v := some (.int (0 : Int32))) (fun h => by rw [Bd.returns] at h; cases h)
                refine ⟨_, _, C_73.trans (retN X0 hx (t := .boolean) Bd.returns (by simp) (hb hby d15_59) hr), hrun, hended, _, _, rfl, ?_, ⟨_, rfl⟩, hW, hsame.mono (by decide) (by decide)⟩
                show Q_ishash Z G1 G3 cc h0 n0 (some (.int (0 : Int32))) s₁.heap _
                rw [e0]
                exact ⟨(0 : Int32), rfl, N0, rfl, (own_bF (fun q => q.2 hc_59) (fun q => q.1 hc_61) (fun q => q.1 hc_63) hc_65 hc_68 hc_71)⟩
        · skip
          have C_74 : Steps p.tables e below S0 (s₁.setTop (mkF m 33 #[.val (.int cc)] [(.int (57 : Int32)), (.int cc)])) := by
            refine C_62.trans ?_
            refine XS.icmpNo X0.here hx rfl (hb hby d15_27) rfl (ii_lt_f hc_63) ?_
            refine XS.iloadN X0.here hx rfl (hb hby d15_30) rfl ?_
            refine XS.bipush X0.here hx rfl (hb hby d15_31) ?_
            exact Steps.refl _
          by_cases hc_75 : (57 : Int32) < cc
          · skip
            have C_76 : Steps p.tables e below S0 (s₁.setTop (mkF m 39 #[.val (.int cc)] [(.int (43 : Int32)), (.int cc)])) := by
              refine C_74.trans ?_
              refine XS.icmpNo X0.here hx rfl (hb hby d15_33) rfl (ii_le_f hc_75) ?_
              refine XS.iloadN X0.here hx rfl (hb hby d15_36) rfl ?_
              refine XS.bipush X0.here hx rfl (hb hby d15_37) ?_
              exact Steps.refl _
            by_cases hc_77 : cc = (43 : Int32)
            · skip
              have C_78 : Steps p.tables e below S0 (s₁.setTop (mkF m 59 #[.val (.int cc)] [(.int (1 : Int32))])) := by
                refine C_76.trans ?_
                refine XS.icmpYes X0.here hx rfl (pc0 := 39) (pc' := 54) rfl (hb hby d15_39) rfl (ii_eq_t hc_77) (by decide) (by decide) ?_
                refine XS.iconst X0.here hx rfl (hb hby d15_54) ?_
                refine XS.goto X0.here hx rfl (pc0 := 55) (pc' := 59) rfl (hb hby d15_55) (by decide) (by decide) ?_
                exact Steps.refl _
              obtain ⟨fs, hr, hrun, hended, hW, hsame⟩ := X0.leave (v := some (.int (1 : Int32))) (fun h => by rw [Bd.returns] at h; cases h)
              refine ⟨_, _, C_78.trans (retN X0 hx (t := .boolean) Bd.returns (by simp) (hb hby d15_59) hr), hrun, hended, _, _, rfl, ?_, ⟨_, rfl⟩, hW, hsame.mono (by decide) (by decide)⟩
              show Q_ishash Z G1 G3 cc h0 n0 (some (.int (1 : Int32))) s₁.heap _
              rw [e0]
              exact ⟨(1 : Int32), rfl, N0, rfl, (own_bT (Or.inr (Or.inr (Or.inr (Or.inl hc_77)))))⟩
            · skip
              have C_79 : Steps p.tables e below S0 (s₁.setTop (mkF m 45 #[.val (.int cc)] [(.int (47 : Int32)), (.int cc)])) := by
                refine C_76.trans ?_
                refine XS.icmpNo X0.here hx rfl (hb hby d15_39) rfl (ii_eq_f hc_77) ?_
                refine XS.iloadN X0.here hx rfl (hb hby d15_42) rfl ?_
                refine XS.bipush X0.here hx rfl (hb hby d15_43) ?_
                exact Steps.refl _
              by_cases hc_80 : cc = (47 : Int32)
              · skip
                have C_81 : Steps p.tables e below S0 (s₁.setTop (mkF m 59 #[.val (.int cc)] [(.int (1 : Int32))])) := by
                  refine C_79.trans ?_
                  refine XS.icmpYes X0.here hx rfl (pc0 := 45) (pc' := 54) rfl (hb hby d15_45) rfl (ii_eq_t hc_80) (by decide) (by decide) ?_
                  refine XS.iconst X0.here hx rfl (hb hby d15_54) ?_
                  refine XS.goto X0.here hx rfl (pc0 := 55) (pc' := 59) rfl (hb hby d15_55) (by decide) (by decide) ?_
                  exact Steps.refl _
                obtain ⟨fs, hr, hrun, hended, hW, hsame⟩ := X0.leave (v := some (.int (1 : Int32))) (fun h => by rw [Bd.returns] at h; cases h)
                refine ⟨_, _, C_81.trans (retN X0 hx (t := .boolean) Bd.returns (by simp) (hb hby d15_59) hr), hrun, hended, _, _, rfl, ?_, ⟨_, rfl⟩, hW, hsame.mono (by decide) (by decide)⟩
                show Q_ishash Z G1 G3 cc h0 n0 (some (.int (1 : Int32))) s₁.heap _
                rw [e0]
                exact ⟨(1 : Int32), rfl, N0, rfl, (own_bT (Or.inr (Or.inr (Or.inr (Or.inr (Or.inl hc_80))))))⟩
              · skip
                have C_82 : Steps p.tables e below S0 (s₁.setTop (mkF m 51 #[.val (.int cc)] [(.int (46 : Int32)), (.int cc)])) := by
                  refine C_79.trans ?_
                  refine XS.icmpNo X0.here hx rfl (hb hby d15_45) rfl (ii_eq_f hc_80) ?_
                  refine XS.iloadN X0.here hx rfl (hb hby d15_48) rfl ?_
                  refine XS.bipush X0.here hx rfl (hb hby d15_49) ?_
                  exact Steps.refl _
                by_cases hc_83 : cc = (46 : Int32)
                · skip
                  have C_84 : Steps p.tables e below S0 (s₁.setTop (mkF m 59 #[.val (.int cc)] [(.int (1 : Int32))])) := by
                    refine C_82.trans ?_
                    refine XS.icmpNo X0.here hx rfl (hb hby d15_51) rfl (ii_ne_f hc_83) ?_
                    refine XS.iconst X0.here hx rfl (hb hby d15_54) ?_
                    refine XS.goto X0.here hx rfl (pc0 := 55) (pc' := 59) rfl (hb hby d15_55) (by decide) (by decide) ?_
                    exact Steps.refl _
                  obtain ⟨fs, hr, hrun, hended, hW, hsame⟩ := X0.leave (v := some (.int (1 : Int32))) (fun h => by rw [Bd.returns] at h; cases h)
                  refine ⟨_, _, C_84.trans (retN X0 hx (t := .boolean) Bd.returns (by simp) (hb hby d15_59) hr), hrun, hended, _, _, rfl, ?_, ⟨_, rfl⟩, hW, hsame.mono (by decide) (by decide)⟩
                  show Q_ishash Z G1 G3 cc h0 n0 (some (.int (1 : Int32))) s₁.heap _
                  rw [e0]
                  exact ⟨(1 : Int32), rfl, N0, rfl, (own_bT (Or.inr (Or.inr (Or.inr (Or.inr (Or.inr hc_83))))))⟩
                · skip
                  have C_85 : Steps p.tables e below S0 (s₁.setTop (mkF m 59 #[.val (.int cc)] [(.int (0 : Int32))])) := by
                    refine C_82.trans ?_
                    refine XS.icmpYes X0.here hx rfl (pc0 := 51) (pc' := 58) rfl (hb hby d15_51) rfl (ii_ne_t hc_83) (by decide) (by decide) ?_
                    refine XS.iconst X0.here hx rfl (hb hby d15_58) ?_
                    exact Steps.refl _
                  obtain ⟨fs, hr, hrun, hended, hW, hsame⟩ := X0.leave (v := some (.int (0 : Int32))) (fun h => by rw [Bd.returns] at h; cases h)
                  refine ⟨_, _, C_85.trans (retN X0 hx (t := .boolean) Bd.returns (by simp) (hb hby d15_59) hr), hrun, hended, _, _, rfl, ?_, ⟨_, rfl⟩, hW, hsame.mono (by decide) (by decide)⟩
                  show Q_ishash Z G1 G3 cc h0 n0 (some (.int (0 : Int32))) s₁.heap _
                  rw [e0]
                  exact ⟨(0 : Int32), rfl, N0, rfl, (own_bF (fun q => q.2 hc_59) (fun q => q.1 hc_61) (fun q => q.2 hc_75) hc_77 hc_80 hc_83)⟩
          · skip
            have C_86 : Steps p.tables e below S0 (s₁.setTop (mkF m 59 #[.val (.int cc)] [(.int (1 : Int32))])) := by
              refine C_74.trans ?_
              refine XS.icmpYes X0.here hx rfl (pc0 := 33) (pc' := 54) rfl (hb hby d15_33) rfl (ii_le_t hc_75) (by decide) (by decide) ?_
              refine XS.iconst X0.here hx rfl (hb hby d15_54) ?_
              refine XS.goto X0.here hx rfl (pc0 := 55) (pc' := 59) rfl (hb hby d15_55) (by decide) (by decide) ?_
              exact Steps.refl _
            obtain ⟨fs, hr, hrun, hended, hW, hsame⟩ := X0.leave (v := some (.int (1 : Int32))) (fun h => by rw [Bd.returns] at h; cases h)
            refine ⟨_, _, C_86.trans (retN X0 hx (t := .boolean) Bd.returns (by simp) (hb hby d15_59) hr), hrun, hended, _, _, rfl, ?_, ⟨_, rfl⟩, hW, hsame.mono (by decide) (by decide)⟩
            show Q_ishash Z G1 G3 cc h0 n0 (some (.int (1 : Int32))) s₁.heap _
            rw [e0]
            exact ⟨(1 : Int32), rfl, N0, rfl, (own_bT (Or.inr (Or.inr (Or.inl ⟨hc_63, hc_75⟩))))⟩
      · skip
        have C_87 : Steps p.tables e below S0 (s₁.setTop (mkF m 21 #[.val (.int cc)] [(.int (122 : Int32)), (.int cc)])) := by
          refine C_60.trans ?_
          refine XS.icmpNo X0.here hx rfl (hb hby d15_15) rfl (ii_lt_f hc_61) ?_
          refine XS.iloadN X0.here hx rfl (hb hby d15_18) rfl ?_
          refine XS.bipush X0.here hx rfl (hb hby d15_19) ?_
          exact Steps.refl _
        by_cases hc_88 : (122 : Int32) < cc
        · skip
          have C_89 : Steps p.tables e below S0 (s₁.setTop (mkF m 27 #[.val (.int cc)] [(.int (48 : Int32)), (.int cc)])) := by
            refine C_87.trans ?_
            refine XS.icmpNo X0.here hx rfl (hb hby d15_21) rfl (ii_le_f hc_88) ?_
            refine XS.iloadN X0.here hx rfl (hb hby d15_24) rfl ?_
            refine XS.bipush X0.here hx rfl (hb hby d15_25) ?_
            exact Steps.refl _
          by_cases hc_90 : cc < (48 : Int32)
          · skip
            have C_91 : Steps p.tables e below S0 (s₁.setTop (mkF m 39 #[.val (.int cc)] [(.int (43 : Int32)), (.int cc)])) := by
              refine C_89.trans ?_
              refine XS.icmpYes X0.here hx rfl (pc0 := 27) (pc' := 36) rfl (hb hby d15_27) rfl (ii_lt_t hc_90) (by decide) (by decide) ?_
              refine XS.iloadN X0.here hx rfl (hb hby d15_36) rfl ?_
              refine XS.bipush X0.here hx rfl (hb hby d15_37) ?_
              exact Steps.refl _
            by_cases hc_92 : cc = (43 : Int32)
            · skip
              have C_93 : Steps p.tables e below S0 (s₁.setTop (mkF m 59 #[.val (.int cc)] [(.int (1 : Int32))])) := by
                refine C_91.trans ?_
                refine XS.icmpYes X0.here hx rfl (pc0 := 39) (pc' := 54) rfl (hb hby d15_39) rfl (ii_eq_t hc_92) (by decide) (by decide) ?_
                refine XS.iconst X0.here hx rfl (hb hby d15_54) ?_
                refine XS.goto X0.here hx rfl (pc0 := 55) (pc' := 59) rfl (hb hby d15_55) (by decide) (by decide) ?_
                exact Steps.refl _
              obtain ⟨fs, hr, hrun, hended, hW, hsame⟩ := X0.leave (v := some (.int (1 : Int32))) (fun h => by rw [Bd.returns] at h; cases h)
              refine ⟨_, _, C_93.trans (retN X0 hx (t := .boolean) Bd.returns (by simp) (hb hby d15_59) hr), hrun, hended, _, _, rfl, ?_, ⟨_, rfl⟩, hW, hsame.mono (by decide) (by decide)⟩
              show Q_ishash Z G1 G3 cc h0 n0 (some (.int (1 : Int32))) s₁.heap _
              rw [e0]
              exact ⟨(1 : Int32), rfl, N0, rfl, (own_bT (Or.inr (Or.inr (Or.inr (Or.inl hc_92)))))⟩
            · skip
              have C_94 : Steps p.tables e below S0 (s₁.setTop (mkF m 45 #[.val (.int cc)] [(.int (47 : Int32)), (.int cc)])) := by
                refine C_91.trans ?_
                refine XS.icmpNo X0.here hx rfl (hb hby d15_39) rfl (ii_eq_f hc_92) ?_
                refine XS.iloadN X0.here hx rfl (hb hby d15_42) rfl ?_
                refine XS.bipush X0.here hx rfl (hb hby d15_43) ?_
                exact Steps.refl _
              by_cases hc_95 : cc = (47 : Int32)
              · skip
                have C_96 : Steps p.tables e below S0 (s₁.setTop (mkF m 59 #[.val (.int cc)] [(.int (1 : Int32))])) := by
                  refine C_94.trans ?_
                  refine XS.icmpYes X0.here hx rfl (pc0 := 45) (pc' := 54) rfl (hb hby d15_45) rfl (ii_eq_t hc_95) (by decide) (by decide) ?_
                  refine XS.iconst X0.here hx rfl (hb hby d15_54) ?_
                  refine XS.goto X0.here hx rfl (pc0 := 55) (pc' := 59) rfl (hb hby d15_55) (by decide) (by decide) ?_
                  exact Steps.refl _
                obtain ⟨fs, hr, hrun, hended, hW, hsame⟩ := X0.leave (v := some (.int (1 : Int32))) (fun h => by rw [Bd.returns] at h; cases h)
                refine ⟨_, _, C_96.trans (retN X0 hx (t := .boolean) Bd.returns (by simp) (hb hby d15_59) hr), hrun, hended, _, _, rfl, ?_, ⟨_, rfl⟩, hW, hsame.mono (by decide) (by decide)⟩
                show Q_ishash Z G1 G3 cc h0 n0 (some (.int (1 : Int32))) s₁.heap _
                rw [e0]
                exact ⟨(1 : Int32), rfl, N0, rfl, (own_bT (Or.inr (Or.inr (Or.inr (Or.inr (Or.inl hc_95))))))⟩
              · skip
                have C_97 : Steps p.tables e below S0 (s₁.setTop (mkF m 51 #[.val (.int cc)] [(.int (46 : Int32)), (.int cc)])) := by
                  refine C_94.trans ?_
                  refine XS.icmpNo X0.here hx rfl (hb hby d15_45) rfl (ii_eq_f hc_95) ?_
                  refine XS.iloadN X0.here hx rfl (hb hby d15_48) rfl ?_
                  refine XS.bipush X0.here hx rfl (hb hby d15_49) ?_
                  exact Steps.refl _
                by_cases hc_98 : cc = (46 : Int32)
                · skip
                  have C_99 : Steps p.tables e below S0 (s₁.setTop (mkF m 59 #[.val (.int cc)] [(.int (1 : Int32))])) := by
                    refine C_97.trans ?_
                    refine XS.icmpNo X0.here hx rfl (hb hby d15_51) rfl (ii_ne_f hc_98) ?_
                    refine XS.iconst X0.here hx rfl (hb hby d15_54) ?_
                    refine XS.goto X0.here hx rfl (pc0 := 55) (pc' := 59) rfl (hb hby d15_55) (by decide) (by decide) ?_
                    exact Steps.refl _
                  obtain ⟨fs, hr, hrun, hended, hW, hsame⟩ := X0.leave (v := some (.int (1 : Int32))) (fun h => by rw [Bd.returns] at h; cases h)
                  refine ⟨_, _, C_99.trans (retN X0 hx (t := .boolean) Bd.returns (by simp) (hb hby d15_59) hr), hrun, hended, _, _, rfl, ?_, ⟨_, rfl⟩, hW, hsame.mono (by decide) (by decide)⟩
                  show Q_ishash Z G1 G3 cc h0 n0 (some (.int (1 : Int32))) s₁.heap _
                  rw [e0]
                  exact ⟨(1 : Int32), rfl, N0, rfl, (own_bT (Or.inr (Or.inr (Or.inr (Or.inr (Or.inr hc_98))))))⟩
                · skip
                  have C_100 : Steps p.tables e below S0 (s₁.setTop (mkF m 59 #[.val (.int cc)] [(.int (0 : Int32))])) := by
                    refine C_97.trans ?_
                    refine XS.icmpYes X0.here hx rfl (pc0 := 51) (pc' := 58) rfl (hb hby d15_51) rfl (ii_ne_t hc_98) (by decide) (by decide) ?_
                    refine XS.iconst X0.here hx rfl (hb hby d15_58) ?_
                    exact Steps.refl _
                  obtain ⟨fs, hr, hrun, hended, hW, hsame⟩ := X0.leave (v := some (.int (0 : Int32))) (fun h => by rw [Bd.returns] at h; cases h)
                  refine ⟨_, _, C_100.trans (retN X0 hx (t := .boolean) Bd.returns (by simp) (hb hby d15_59) hr), hrun, hended, _, _, rfl, ?_, ⟨_, rfl⟩, hW, hsame.mono (by decide) (by decide)⟩
                  show Q_ishash Z G1 G3 cc h0 n0 (some (.int (0 : Int32))) s₁.heap _
                  rw [e0]
                  exact ⟨(0 : Int32), rfl, N0, rfl, (own_bF (fun q => q.2 hc_59) (fun q => q.2 hc_88) (fun q => q.1 hc_90) hc_92 hc_95 hc_98)⟩
          · skip
            have C_101 : Steps p.tables e below S0 (s₁.setTop (mkF m 33 #[.val (.int cc)] [(.int (57 : Int32)), (.int cc)])) := by
              refine C_89.trans ?_
              refine XS.icmpNo X0.here hx rfl (hb hby d15_27) rfl (ii_lt_f hc_90) ?_
              refine XS.iloadN X0.here hx rfl (hb hby d15_30) rfl ?_
              refine XS.bipush X0.here hx rfl (hb hby d15_31) ?_
              exact Steps.refl _
            by_cases hc_102 : (57 : Int32) < cc
            · skip
              have C_103 : Steps p.tables e below S0 (s₁.setTop (mkF m 39 #[.val (.int cc)] [(.int (43 : Int32)), (.int cc)])) := by
                refine C_101.trans ?_
                refine XS.icmpNo X0.here hx rfl (hb hby d15_33) rfl (ii_le_f hc_102) ?_
                refine XS.iloadN X0.here hx rfl (hb hby d15_36) rfl ?_
                refine XS.bipush X0.here hx rfl (hb hby d15_37) ?_
                exact Steps.refl _
              by_cases hc_104 : cc = (43 : Int32)
              · skip
                have C_105 : Steps p.tables e below S0 (s₁.setTop (mkF m 59 #[.val (.int cc)] [(.int (1 : Int32))])) := by
                  refine C_103.trans ?_
                  refine XS.icmpYes X0.here hx rfl (pc0 := 39) (pc' := 54) rfl (hb hby d15_39) rfl (ii_eq_t hc_104) (by decide) (by decide) ?_
                  refine XS.iconst X0.here hx rfl (hb hby d15_54) ?_
                  refine XS.goto X0.here hx rfl (pc0 := 55) (pc' := 59) rfl (hb hby d15_55) (by decide) (by decide) ?_
                  exact Steps.refl _
                obtain ⟨fs, hr, hrun, hended, hW, hsame⟩ := X0.leave (v := some (.int (1 : Int32))) (fun h => by rw [Bd.returns] at h; cases h)
                refine ⟨_, _, C_105.trans (retN X0 hx (t := .boolean) Bd.returns (by simp) (hb hby d15_59) hr), hrun, hended, _, _, rfl, ?_, ⟨_, rfl⟩, hW, hsame.mono (by decide) (by decide)⟩
                show Q_ishash Z G1 G3 cc h0 n0 (some (.int (1 : Int32))) s₁.heap _
                rw [e0]
                exact ⟨(1 : Int32), rfl, N0, rfl, (own_bT (Or.inr (Or.inr (Or.inr (Or.inl hc_104)))))⟩
              · skip
                have C_106 : Steps p.tables e below S0 (s₁.setTop (mkF m 45 #[.val (.int cc)] [(.int (47 : Int32)), (.int cc)])) := by
                  refine C_103.trans ?_
                  refine XS.icmpNo X0.here hx rfl (hb hby d15_39) rfl (ii_eq_f hc_104) ?_
                  refine XS.iloadN X0.here hx rfl (hb hby d15_42) rfl ?_
                  refine XS.bipush X0.here hx rfl (hb hby d15_43) ?_
                  exact Steps.refl _
                by_cases hc_107 : cc = (47 : Int32)
                · skip
                  have C_108 : Steps p.tables e below S0 (s₁.setTop (mkF m 59 #[.val (.int cc)] [(.int (1 : Int32))])) := by
                    refine C_106.trans ?_
                    refine XS.icmpYes X0.here hx rfl (pc0 := 45) (pc' := 54) rfl (hb hby d15_45) rfl (ii_eq_t hc_107) (by decide) (by decide) ?_
                    refine XS.iconst X0.here hx rfl (hb hby d15_54) ?_
                    refine XS.goto X0.here hx rfl (pc0 := 55) (pc' := 59) rfl (hb hby d15_55) (by decide) (by decide) ?_
                    exact Steps.refl _
                  obtain ⟨fs, hr, hrun, hended, hW, hsame⟩ := X0.leave (v := some (.int (1 : Int32))) (fun h => by rw [Bd.returns] at h; cases h)
                  refine ⟨_, _, C_108.trans (retN X0 hx (t := .boolean) Bd.returns (by simp) (hb hby d15_59) hr), hrun, hended, _, _, rfl, ?_, ⟨_, rfl⟩, hW, hsame.mono (by decide) (by decide)⟩
                  show Q_ishash Z G1 G3 cc h0 n0 (some (.int (1 : Int32))) s₁.heap _
                  rw [e0]
                  exact ⟨(1 : Int32), rfl, N0, rfl, (own_bT (Or.inr (Or.inr (Or.inr (Or.inr (Or.inl hc_107))))))⟩
                · skip
                  have C_109 : Steps p.tables e below S0 (s₁.setTop (mkF m 51 #[.val (.int cc)] [(.int (46 : Int32)), (.int cc)])) := by
                    refine C_106.trans ?_
                    refine XS.icmpNo X0.here hx rfl (hb hby d15_45) rfl (ii_eq_f hc_107) ?_
                    refine XS.iloadN X0.here hx rfl (hb hby d15_48) rfl ?_
                    refine XS.bipush X0.here hx rfl (hb hby d15_49) ?_
                    exact Steps.refl _
                  by_cases hc_110 : cc = (46 : Int32)
                  · skip
                    have C_111 : Steps p.tables e below S0 (s₁.setTop (mkF m 59 #[.val (.int cc)] [(.int (1 : Int32))])) := by
                      refine C_109.trans ?_
                      refine XS.icmpNo X0.here hx rfl (hb hby d15_51) rfl (ii_ne_f hc_110) ?_
                      refine XS.iconst X0.here hx rfl (hb hby d15_54) ?_
                      refine XS.goto X0.here hx rfl (pc0 := 55) (pc' := 59) rfl (hb hby d15_55) (by decide) (by decide) ?_
                      exact Steps.refl _
                    obtain ⟨fs, hr, hrun, hended, hW, hsame⟩ := X0.leave (v := some (.int (1 : Int32))) (fun h => by rw [Bd.returns] at h; cases h)
                    refine ⟨_, _, C_111.trans (retN X0 hx (t := .boolean) Bd.returns (by simp) (hb hby d15_59) hr), hrun, hended, _, _, rfl, ?_, ⟨_, rfl⟩, hW, hsame.mono (by decide) (by decide)⟩
                    show Q_ishash Z G1 G3 cc h0 n0 (some (.int (1 : Int32))) s₁.heap _
                    rw [e0]
                    exact ⟨(1 : Int32), rfl, N0, rfl, (own_bT (Or.inr (Or.inr (Or.inr (Or.inr (Or.inr hc_110))))))⟩
                  · skip
                    have C_112 : Steps p.tables e below S0 (s₁.setTop (mkF m 59 #[.val (.int cc)] [(.int (0 : Int32))])) := by
                      refine C_109.trans ?_
                      refine XS.icmpYes X0.here hx rfl (pc0 := 51) (pc' := 58) rfl (hb hby d15_51) rfl (ii_ne_t hc_110) (by decide) (by decide) ?_
                      refine XS.iconst X0.here hx rfl (hb hby d15_58) ?_
                      exact Steps.refl _
                    obtain ⟨fs, hr, hrun, hended, hW, hsame⟩ := X0.leave (v := some (.int (0 : Int32))) (fun h => by rw [Bd.returns] at h; cases h)
                    refine ⟨_, _, C_112.trans (retN X0 hx (t := .boolean) Bd.returns (by simp) (hb hby d15_59) hr), hrun, hended, _, _, rfl, ?_, ⟨_, rfl⟩, hW, hsame.mono (by decide) (by decide)⟩
                    show Q_ishash Z G1 G3 cc h0 n0 (some (.int (0 : Int32))) s₁.heap _
                    rw [e0]
                    exact ⟨(0 : Int32), rfl, N0, rfl, (own_bF (fun q => q.2 hc_59) (fun q => q.2 hc_88) (fun q => q.2 hc_102) hc_104 hc_107 hc_110)⟩
            · skip
              have C_113 : Steps p.tables e below S0 (s₁.setTop (mkF m 59 #[.val (.int cc)] [(.int (1 : Int32))])) := by
                refine C_101.trans ?_
                refine XS.icmpYes X0.here hx rfl (pc0 := 33) (pc' := 54) rfl (hb hby d15_33) rfl (ii_le_t hc_102) (by decide) (by decide) ?_
                refine XS.iconst X0.here hx rfl (hb hby d15_54) ?_
                refine XS.goto X0.here hx rfl (pc0 := 55) (pc' := 59) rfl (hb hby d15_55) (by decide) (by decide) ?_
                exact Steps.refl _
              obtain ⟨fs, hr, hrun, hended, hW, hsame⟩ := X0.leave (v := some (.int (1 : Int32))) (fun h => by rw [Bd.returns] at h; cases h)
              refine ⟨_, _, C_113.trans (retN X0 hx (t := .boolean) Bd.returns (by simp) (hb hby d15_59) hr), hrun, hended, _, _, rfl, ?_, ⟨_, rfl⟩, hW, hsame.mono (by decide) (by decide)⟩
              show Q_ishash Z G1 G3 cc h0 n0 (some (.int (1 : Int32))) s₁.heap _
              rw [e0]
              exact ⟨(1 : Int32), rfl, N0, rfl, (own_bT (Or.inr (Or.inr (Or.inl ⟨hc_90, hc_102⟩))))⟩
        · skip
          have C_114 : Steps p.tables e below S0 (s₁.setTop (mkF m 59 #[.val (.int cc)] [(.int (1 : Int32))])) := by
            refine C_87.trans ?_
            refine XS.icmpYes X0.here hx rfl (pc0 := 21) (pc' := 54) rfl (hb hby d15_21) rfl (ii_le_t hc_88) (by decide) (by decide) ?_
            refine XS.iconst X0.here hx rfl (hb hby d15_54) ?_
            refine XS.goto X0.here hx rfl (pc0 := 55) (pc' := 59) rfl (hb hby d15_55) (by decide) (by decide) ?_
            exact Steps.refl _
          obtain ⟨fs, hr, hrun, hended, hW, hsame⟩ := X0.leave (v := some (.int (1 : Int32))) (fun h => by rw [Bd.returns] at h; cases h)
          refine ⟨_, _, C_114.trans (retN X0 hx (t := .boolean) Bd.returns (by simp) (hb hby d15_59) hr), hrun, hended, _, _, rfl, ?_, ⟨_, rfl⟩, hW, hsame.mono (by decide) (by decide)⟩
          show Q_ishash Z G1 G3 cc h0 n0 (some (.int (1 : Int32))) s₁.heap _
          rw [e0]
          exact ⟨(1 : Int32), rfl, N0, rfl, (own_bT (Or.inr (Or.inl ⟨hc_61, hc_88⟩)))⟩
    · skip
      have C_115 : Steps p.tables e below S0 (s₁.setTop (mkF m 59 #[.val (.int cc)] [(.int (1 : Int32))])) := by
        refine C_58.trans ?_
        refine XS.icmpYes X0.here hx rfl (pc0 := 9) (pc' := 54) rfl (hb hby d15_9) rfl (ii_le_t hc_59) (by decide) (by decide) ?_
        refine XS.iconst X0.here hx rfl (hb hby d15_54) ?_
        refine XS.goto X0.here hx rfl (pc0 := 55) (pc' := 59) rfl (hb hby d15_55) (by decide) (by decide) ?_
        exact Steps.refl _
      obtain ⟨fs, hr, hrun, hended, hW, hsame⟩ := X0.leave (v := some (.int (1 : Int32))) (fun h => by rw [Bd.returns] at h; cases h)
      refine ⟨_, _, C_115.trans (retN X0 hx (t := .boolean) Bd.returns (by simp) (hb hby d15_59) hr), hrun, hended, _, _, rfl, ?_, ⟨_, rfl⟩, hW, hsame.mono (by decide) (by decide)⟩
      show Q_ishash Z G1 G3 cc h0 n0 (some (.int (1 : Int32))) s₁.heap _
      rw [e0]
      exact ⟨(1 : Int32), rfl, N0, rfl, (own_bT (Or.inl ⟨hc_2, hc_59⟩))⟩
abbrev M327 : MethodName := ⟨"com/example/claimgate/claimgate/config/ConfigSyntaxMayHoldHashPinLaw", "h", "([CI)Z"⟩
theorem d16_0 : decode method_6_code 0 = .ok (.iload_n 1, 1) := by decide +kernel
theorem d16_1 : decode method_6_code 1 = .ok (.aload_n 0, 1) := by decide +kernel
theorem d16_2 : decode method_6_code 2 = .ok (.arraylength, 1) := by decide +kernel
theorem d16_3 : decode method_6_code 3 = .ok (.if_icmp .ge 16, 3) := by decide +kernel
theorem d16_6 : decode method_6_code 6 = .ok (.aload_n 0, 1) := by decide +kernel
theorem d16_7 : decode method_6_code 7 = .ok (.iload_n 1, 1) := by decide +kernel
theorem d16_8 : decode method_6_code 8 = .ok (.caload, 1) := by decide +kernel
theorem w67 {Z : State} {a0 : Array Value} (hw : ∀ d ∈ tables_1, d.before a0 Z = true) : Jvm.Cond.before (Jvm.Cond.code ({ cls := "com/example/claimgate/claimgate/config/ConfigSyntaxMayHoldHashPinLaw", name := "hashChar", desc := "(C)Z" } : Jvm.MethodName) method_7_code (1 : Nat) (Option.some Jvm.ClassFile.FieldType.boolean)) a0 Z = true := hw _ (List.mem_of_getElem? (i := 67) rfl)
theorem w4 {Z : State} {a0 : Array Value} (hw : ∀ d ∈ tables_1, d.before a0 Z = true) : Jvm.Cond.before (Jvm.Cond.initialized "com/example/claimgate/claimgate/config/ConfigSyntaxMayHoldHashPinLaw") a0 Z = true := hw _ (List.mem_of_getElem? (i := 4) rfl)
theorem pd_337 : parseMethodDescriptor "(C)Z" = some ⟨[.char], some .boolean⟩ := by decide +kernel
theorem d16_9 : decode method_6_code 9 = .ok (.invokestatic 38, 3) := by decide +kernel
theorem w65 {Z : State} {a0 : Array Value} (hw : ∀ d ∈ tables_1, d.before a0 Z = true) : Jvm.Cond.before (Jvm.Cond.methodLink "com/example/claimgate/claimgate/config/ConfigSyntaxMayHoldHashPinLaw" (38 : Nat) ({ cls := "com/example/claimgate/claimgate/config/ConfigSyntaxMayHoldHashPinLaw", name := "hashChar", desc := "(C)Z" } : Jvm.MethodName)) a0 Z = true := hw _ (List.mem_of_getElem? (i := 65) rfl)
theorem w66 {Z : State} {a0 : Array Value} (hw : ∀ d ∈ tables_1, d.before a0 Z = true) : Jvm.Cond.before (Jvm.Cond.static ({ cls := "com/example/claimgate/claimgate/config/ConfigSyntaxMayHoldHashPinLaw", name := "hashChar", desc := "(C)Z" } : Jvm.MethodName)) a0 Z = true := hw _ (List.mem_of_getElem? (i := 66) rfl)
theorem d16_12 : decode method_6_code 12 = .ok (.ifCond .eq 7, 3) := by decide +kernel
theorem d16_19 : decode method_6_code 19 = .ok (.iconst 0, 1) := by decide +kernel
theorem d16_20 : decode method_6_code 20 = .ok (.ireturn, 1) := by decide +kernel
theorem d16_15 : decode method_6_code 15 = .ok (.iconst 1, 1) := by decide +kernel
theorem d16_16 : decode method_6_code 16 = .ok (.goto 4, 3) := by decide +kernel
abbrev R_hh_ : Room := { frames := 1, cells := 0, slots := 0, locals := 12 }
def Q_hh_ (Z : State) (G1 : Int32) (G3 : Value) (b : Addr) (k : ClassId) (nn : Int32) (cs : List Int32) (ii : Int32) (h0 : Heap) (n0 : Nat) (v : Option Value) (h : Heap) (L : List Loc) : Prop := (∃ rr : Int32, v = some (.int rr) ∧ Fr n0 L ∧ h = h0 ∧ (rr = own_b (own_h cs ii.toNatClampNeg)))
set_option maxRecDepth 65536 in
set_option maxHeartbeats 40000000 in
theorem rm_hh_ (l : Launch) (Z : State) (a0 : Array Value) (hw : ∀ d ∈ tables_1, d.before a0 Z = true) (ws : List Jvm.Cond) (G1 : Int32) (G3 : Value) (HG : own_G l Z a0 G1 G3) (h0 : Heap) (n0 : Nat) (X00 : Old Z n0 h0) (b : Addr) (k : ClassId) (nn : Int32) (cs : List Int32) (ii : Int32) (hp0 : Arv Z h0 b k .char nn (own_iv cs) (.int (0 : Int32))) (hl1 : cs.length = nn.toNatClampNeg) (hla : own_lat cs) (hi0 : ¬ (ii < (0 : Int32))) :
    own_CP l Z M327 method_6_code 2 (some .boolean) ws R_hh_ #[(.ref b), (.int ii)] h0 (Q_hh_ Z G1 G3 b k nn cs ii h0 n0) := by
  refine own_P (plainFor_of_name pn_218) ?_
  intro p e s m below meth c s₁ S0 Bd hZ hh hx hby hml hown hnm X0 e0 hS0d
  obtain ⟨O1, P1, O3f, rG3⟩ := id HG
  have N0 := Fr.nil n0
  have C0 : Steps p.tables e below S0 (s₁.setTop (mkF m 0 #[.val (.ref b), .val (.int ii)] [])) := by rw [hS0d]; exact castTop (ef_50 m b ii) (Steps.refl _)
  obtain ⟨c_1, A_2, q_3, S_4, M_5, H_6, U_7⟩ := id hp0
  have C_8 : Steps p.tables e below S0 (s₁.setTop (mkF m 3 #[.val (.ref b), .val (.int ii)] [(.int nn), (.int ii)])) := by
    refine C0.trans ?_
    refine XS.iloadN X0.here hx rfl (hb hby d16_0) rfl ?_
    refine XS.aloadN X0.here hx rfl (hb hby d16_1) rfl rfl ?_
    refine X0.arraylength hx (by rw [e0]; exact A_2.1) (State.isArrayOf_alike hZ.alike A_2.2.1) (g := (mkF m 2 #[.val (.ref b), .val (.int ii)] [(.ref b), (.int ii)])) rfl rfl (hb hby d16_2) _ ?_
    rw [len_of S_4 M_5]
    exact Steps.refl _
  by_cases hc_9 : ii < nn
  · skip
    obtain ⟨c_10, A_11, q_12, S_13, M_14, H_15, U_16⟩ := id hp0
    have hin_17 : ¬ (ii < 0 ∨ c_10.slots.size ≤ ii.toNatClampNeg) := inb_of S_13 ⟨hi0, hc_9⟩
    have hat_18 : c_10.slots[ii.toNatClampNeg]? = some (.int (own_gt cs ii)) := Has.at H_15 hin_17 (own_iv_at cs ii)
    obtain ⟨_, _, ⟨T_19, L_19, k_19, n_19⟩, -, X_19, ⟨Lc_19, hQ_19, l_19, y_19, z_19⟩, st_19⟩ := Jvm.LawKit.callS X0 hx (y := M255) hown (mvT hZ (w65 hw)) (mvT hZ (w66 hw)) (mvT hZ (w4 hw)) (mvT hZ (w67 hw)) (by decide) (backOf (W := 0) (rm_hashc l Z a0 hw [] G1 G3 HG h0 n0 X00 (own_gt cs ii) ) hZ (w67 hw) (w4 hw) (by decide) (by decide)) (g := (mkF m 9 #[.val (.ref b), .val (.int ii)] [(.int (own_gt cs ii))])) rfl (by rw [hml]; rfl) (argsL := [(.int (own_gt cs ii))]) (rest := []) (lenOf pd_337 rfl) rfl (by show 2 * 0 + _ ≤ _; exact Nat.le_of_eq rfl) (hb hby d16_9) (fun _ _ => ⟨rfl, e0, (by decide : 0 + 0 ≤ _), (by decide : 0 + 0 ≤ _)⟩)
    dsimp only [Pt.U, Pt.locs, Pt.cells, Pt.slots] at X_19 l_19 y_19 z_19 st_19 hQ_19
    have X_19 := own_cast X_19 l_19 y_19 z_19
    obtain ⟨i_20, rfl, N_21, e_22, g_23⟩ := hQ_19
    have N_24 := Fr.app N0 N_21
    have e_25 : T_19.heap = h0 := e_22
    have C_26 : Steps p.tables e below S0 (T_19.setTop (mkF m 12 #[.val (.ref b), .val (.int ii)] [(.int i_20)])) := by
      refine C_8.trans ?_
      refine XS.icmpNo X0.here hx rfl (hb hby d16_3) rfl (ii_ge_f hc_9) ?_
      refine XS.aloadN X0.here hx rfl (hb hby d16_6) rfl rfl ?_
      refine XS.iloadN X0.here hx rfl (hb hby d16_7) rfl ?_
      refine X0.caload hx (j := ii) (v := (.int (own_gt cs ii))) (by rw [e0]; exact A_11.1) (State.isArrayOf_alike hZ.alike A_11.2.1) A_11.2.2 hin_17 hat_18 (g := (mkF m 8 #[.val (.ref b), .val (.int ii)] [(.int ii), (.ref b)])) rfl rfl (hb hby d16_8) _ ?_
      refine st_19 _ ?_
      exact Steps.refl _
    by_cases hc_27 : i_20 = (0 : Int32)
    · skip
      have C_28 : Steps p.tables e below S0 (T_19.setTop (mkF m 20 #[.val (.ref b), .val (.int ii)] [(.int (0 : Int32))])) := by
        refine C_26.trans ?_
        refine XS.ifYes X_19.here hx rfl (pc0 := 12) (pc' := 19) rfl (hb hby d16_12) rfl (i0_eq_t hc_27) (by decide) (by decide) ?_
        refine XS.iconst X_19.here hx rfl (hb hby d16_19) ?_
        exact Steps.refl _
      obtain ⟨fs, hr, hrun, hended, hW, hsame⟩ := X_19.leave (v := some (.int (0 : Int32))) (fun h => by rw [Bd.returns] at h; cases h)
      refine ⟨_, _, C_28.trans (retN X_19 hx (t := .boolean) Bd.returns (by simp) (hb hby d16_20) hr), hrun, hended, _, _, rfl, ?_, ⟨_, rfl⟩, hW, hsame.mono (by decide) (by decide)⟩
      show Q_hh_ Z G1 G3 b k nn cs ii h0 n0 (some (.int (0 : Int32))) T_19.heap _
      rw [e_25]
      exact ⟨(0 : Int32), rfl, N_24, rfl, (own_h1 g_23 hc_27)⟩
    · skip
      have C_29 : Steps p.tables e below S0 (T_19.setTop (mkF m 20 #[.val (.ref b), .val (.int ii)] [(.int (1 : Int32))])) := by
        refine C_26.trans ?_
        refine XS.ifNo X_19.here hx rfl (hb hby d16_12) rfl (i0_eq_f hc_27) ?_
        refine XS.iconst X_19.here hx rfl (hb hby d16_15) ?_
        refine XS.goto X_19.here hx rfl (pc0 := 16) (pc' := 20) rfl (hb hby d16_16) (by decide) (by decide) ?_
        exact Steps.refl _
      obtain ⟨fs, hr, hrun, hended, hW, hsame⟩ := X_19.leave (v := some (.int (1 : Int32))) (fun h => by rw [Bd.returns] at h; cases h)
      refine ⟨_, _, C_29.trans (retN X_19 hx (t := .boolean) Bd.returns (by simp) (hb hby d16_20) hr), hrun, hended, _, _, rfl, ?_, ⟨_, rfl⟩, hW, hsame.mono (by decide) (by decide)⟩
      show Q_hh_ Z G1 G3 b k nn cs ii h0 n0 (some (.int (1 : Int32))) T_19.heap _
      rw [e_25]
      exact ⟨(1 : Int32), rfl, N_24, rfl, (own_h2 hl1 hi0 hc_9 g_23 hc_27)⟩
  · skip
    have C_30 : Steps p.tables e below S0 (s₁.setTop (mkF m 20 #[.val (.ref b), .val (.int ii)] [(.int (0 : Int32))])) := by
      refine C_8.trans ?_
      refine XS.icmpYes X0.here hx rfl (pc0 := 3) (pc' := 19) rfl (hb hby d16_3) rfl (ii_ge_t hc_9) (by decide) (by decide) ?_
      refine XS.iconst X0.here hx rfl (hb hby d16_19) ?_
      exact Steps.refl _
    obtain ⟨fs, hr, hrun, hended, hW, hsame⟩ := X0.leave (v := some (.int (0 : Int32))) (fun h => by rw [Bd.returns] at h; cases h)
    refine ⟨_, _, C_30.trans (retN X0 hx (t := .boolean) Bd.returns (by simp) (hb hby d16_20) hr), hrun, hended, _, _, rfl, ?_, ⟨_, rfl⟩, hW, hsame.mono (by decide) (by decide)⟩
    show Q_hh_ Z G1 G3 b k nn cs ii h0 n0 (some (.int (0 : Int32))) s₁.heap _
    rw [e0]
    exact ⟨(0 : Int32), rfl, N0, rfl, (own_h0 hl1 hc_9)⟩
abbrev M346 : MethodName := ⟨"com/example/claimgate/claimgate/config/ConfigSyntaxMayHoldHashPinLaw", "d", "([CI)Z"⟩
theorem d17_0 : decode method_5_code 0 = .ok (.iload_n 1, 1) := by decide +kernel
theorem d17_1 : decode method_5_code 1 = .ok (.aload_n 0, 1) := by decide +kernel
theorem d17_2 : decode method_5_code 2 = .ok (.arraylength, 1) := by decide +kernel
theorem d17_3 : decode method_5_code 3 = .ok (.if_icmp .ge 15, 3) := by decide +kernel
theorem d17_6 : decode method_5_code 6 = .ok (.aload_n 0, 1) := by decide +kernel
theorem d17_7 : decode method_5_code 7 = .ok (.iload_n 1, 1) := by decide +kernel
theorem d17_8 : decode method_5_code 8 = .ok (.caload, 1) := by decide +kernel
theorem d17_9 : decode method_5_code 9 = .ok (.bipush 36, 2) := by decide +kernel
theorem d17_11 : decode method_5_code 11 = .ok (.if_icmp .ne 7, 3) := by decide +kernel
theorem d17_14 : decode method_5_code 14 = .ok (.iconst 1, 1) := by decide +kernel
theorem d17_15 : decode method_5_code 15 = .ok (.goto 4, 3) := by decide +kernel
theorem d17_19 : decode method_5_code 19 = .ok (.ireturn, 1) := by decide +kernel
theorem d17_18 : decode method_5_code 18 = .ok (.iconst 0, 1) := by decide +kernel
abbrev R_dd_ : Room := { frames := 0, cells := 0, slots := 0, locals := 0 }
def Q_dd_ (Z : State) (G1 : Int32) (G3 : Value) (b : Addr) (k : ClassId) (nn : Int32) (cs : List Int32) (ii : Int32) (h0 : Heap) (n0 : Nat) (v : Option Value) (h : Heap) (L : List Loc) : Prop := (∃ rr : Int32, v = some (.int rr) ∧ Fr n0 L ∧ h = h0 ∧ (rr = own_b (own_d cs ii.toNatClampNeg)))
set_option maxRecDepth 65536 in
set_option maxHeartbeats 40000000 in
theorem rm_dd_ (l : Launch) (Z : State) (a0 : Array Value) (hw : ∀ d ∈ tables_1, d.before a0 Z = true) (ws : List Jvm.Cond) (G1 : Int32) (G3 : Value) (HG : own_G l Z a0 G1 G3) (h0 : Heap) (n0 : Nat) (X00 : Old Z n0 h0) (b : Addr) (k : ClassId) (nn : Int32) (cs : List Int32) (ii : Int32) (hp0 : Arv Z h0 b k .char nn (own_iv cs) (.int (0 : Int32))) (hl1 : cs.length = nn.toNatClampNeg) (hla : own_lat cs) (hi0 : ¬ (ii < (0 : Int32))) :
    own_CP l Z M346 method_5_code 2 (some .boolean) ws R_dd_ #[(.ref b), (.int ii)] h0 (Q_dd_ Z G1 G3 b k nn cs ii h0 n0) := by
  refine own_P (plainFor_of_name pn_218) ?_
  intro p e s m below meth c s₁ S0 Bd hZ hh hx hby hml hown hnm X0 e0 hS0d
  obtain ⟨O1, P1, O3f, rG3⟩ := id HG
  have N0 := Fr.nil n0
  have C0 : Steps p.tables e below S0 (s₁.setTop (mkF m 0 #[.val (.ref b), .val (.int ii)] [])) := by rw [hS0d]; exact castTop (ef_50 m b ii) (Steps.refl _)
  obtain ⟨c_1, A_2, q_3, S_4, M_5, H_6, U_7⟩ := id hp0
  have C_8 : Steps p.tables e below S0 (s₁.setTop (mkF m 3 #[.val (.ref b), .val (.int ii)] [(.int nn), (.int ii)])) := by
    refine C0.trans ?_
    refine XS.iloadN X0.here hx rfl (hb hby d17_0) rfl ?_
    refine XS.aloadN X0.here hx rfl (hb hby d17_1) rfl rfl ?_
    refine X0.arraylength hx (by rw [e0]; exact A_2.1) (State.isArrayOf_alike hZ.alike A_2.2.1) (g := (mkF m 2 #[.val (.ref b), .val (.int ii)] [(.ref b), (.int ii)])) rfl rfl (hb hby d17_2) _ ?_
    rw [len_of S_4 M_5]
    exact Steps.refl _
  by_cases hc_9 : ii < nn
  · skip
    obtain ⟨c_10, A_11, q_12, S_13, M_14, H_15, U_16⟩ := id hp0
    have hin_17 : ¬ (ii < 0 ∨ c_10.slots.size ≤ ii.toNatClampNeg) := inb_of S_13 ⟨hi0, hc_9⟩
    have hat_18 : c_10.slots[ii.toNatClampNeg]? = some (.int (own_gt cs ii)) := Has.at H_15 hin_17 (own_iv_at cs ii)
    have C_19 : Steps p.tables e below S0 (s₁.setTop (mkF m 11 #[.val (.ref b), .val (.int ii)] [(.int (36 : Int32)), (.int (own_gt cs ii))])) := by
      refine C_8.trans ?_
      refine XS.icmpNo X0.here hx rfl (hb hby d17_3) rfl (ii_ge_f hc_9) ?_
      refine XS.aloadN X0.here hx rfl (hb hby d17_6) rfl rfl ?_
      refine XS.iloadN X0.here hx rfl (hb hby d17_7) rfl ?_
      refine X0.caload hx (j := ii) (v := (.int (own_gt cs ii))) (by rw [e0]; exact A_11.1) (State.isArrayOf_alike hZ.alike A_11.2.1) A_11.2.2 hin_17 hat_18 (g := (mkF m 8 #[.val (.ref b), .val (.int ii)] [(.int ii), (.ref b)])) rfl rfl (hb hby d17_8) _ ?_
      refine XS.bipush X0.here hx rfl (hb hby d17_9) ?_
      exact Steps.refl _
    by_cases hc_20 : (own_gt cs ii) = (36 : Int32)
    · skip
      have C_21 : Steps p.tables e below S0 (s₁.setTop (mkF m 19 #[.val (.ref b), .val (.int ii)] [(.int (1 : Int32))])) := by
        refine C_19.trans ?_
        refine XS.icmpNo X0.here hx rfl (hb hby d17_11) rfl (ii_ne_f hc_20) ?_
        refine XS.iconst X0.here hx rfl (hb hby d17_14) ?_
        refine XS.goto X0.here hx rfl (pc0 := 15) (pc' := 19) rfl (hb hby d17_15) (by decide) (by decide) ?_
        exact Steps.refl _
      obtain ⟨fs, hr, hrun, hended, hW, hsame⟩ := X0.leave (v := some (.int (1 : Int32))) (fun h => by rw [Bd.returns] at h; cases h)
      refine ⟨_, _, C_21.trans (retN X0 hx (t := .boolean) Bd.returns (by simp) (hb hby d17_19) hr), hrun, hended, _, _, rfl, ?_, ⟨_, rfl⟩, hW, hsame.mono (by decide) (by decide)⟩
      show Q_dd_ Z G1 G3 b k nn cs ii h0 n0 (some (.int (1 : Int32))) s₁.heap _
      rw [e0]
      exact ⟨(1 : Int32), rfl, N0, rfl, (own_d2 hl1 hi0 hc_9 hc_20)⟩
    · skip
      have C_22 : Steps p.tables e below S0 (s₁.setTop (mkF m 19 #[.val (.ref b), .val (.int ii)] [(.int (0 : Int32))])) := by
        refine C_19.trans ?_
        refine XS.icmpYes X0.here hx rfl (pc0 := 11) (pc' := 18) rfl (hb hby d17_11) rfl (ii_ne_t hc_20) (by decide) (by decide) ?_
        refine XS.iconst X0.here hx rfl (hb hby d17_18) ?_
        exact Steps.refl _
      obtain ⟨fs, hr, hrun, hended, hW, hsame⟩ := X0.leave (v := some (.int (0 : Int32))) (fun h => by rw [Bd.returns] at h; cases h)
      refine ⟨_, _, C_22.trans (retN X0 hx (t := .boolean) Bd.returns (by simp) (hb hby d17_19) hr), hrun, hended, _, _, rfl, ?_, ⟨_, rfl⟩, hW, hsame.mono (by decide) (by decide)⟩
      show Q_dd_ Z G1 G3 b k nn cs ii h0 n0 (some (.int (0 : Int32))) s₁.heap _
      rw [e0]
      exact ⟨(0 : Int32), rfl, N0, rfl, (own_d1 hc_20)⟩
  · skip
    have C_23 : Steps p.tables e below S0 (s₁.setTop (mkF m 19 #[.val (.ref b), .val (.int ii)] [(.int (0 : Int32))])) := by
      refine C_8.trans ?_
      refine XS.icmpYes X0.here hx rfl (pc0 := 3) (pc' := 18) rfl (hb hby d17_3) rfl (ii_ge_t hc_9) (by decide) (by decide) ?_
      refine XS.iconst X0.here hx rfl (hb hby d17_18) ?_
      exact Steps.refl _
    obtain ⟨fs, hr, hrun, hended, hW, hsame⟩ := X0.leave (v := some (.int (0 : Int32))) (fun h => by rw [Bd.returns] at h; cases h)
    refine ⟨_, _, C_23.trans (retN X0 hx (t := .boolean) Bd.returns (by simp) (hb hby d17_19) hr), hrun, hended, _, _, rfl, ?_, ⟨_, rfl⟩, hW, hsame.mono (by decide) (by decide)⟩
    show Q_dd_ Z G1 G3 b k nn cs ii h0 n0 (some (.int (0 : Int32))) s₁.heap _
    rw [e0]
    exact ⟨(0 : Int32), rfl, N0, rfl, (own_d0 hl1 hc_9)⟩
abbrev R_h0_ : Room := { frames := 0, cells := 0, slots := 0, locals := 0 }
def Q_h0_ (Z : State) (G1 : Int32) (G3 : Value) (b : Addr) (k : ClassId) (ii : Int32) (h0 : Heap) (n0 : Nat) (v : Option Value) (h : Heap) (L : List Loc) : Prop := (v = some (.int (0 : Int32)) ∧ Fr n0 L ∧ h = h0)
set_option maxRecDepth 65536 in
set_option maxHeartbeats 40000000 in
theorem rm_h0_ (l : Launch) (Z : State) (a0 : Array Value) (hw : ∀ d ∈ tables_1, d.before a0 Z = true) (ws : List Jvm.Cond) (G1 : Int32) (G3 : Value) (HG : own_G l Z a0 G1 G3) (h0 : Heap) (n0 : Nat) (X00 : Old Z n0 h0) (b : Addr) (k : ClassId) (ii : Int32) (hp0 : Arv Z h0 b k .char (0 : Int32) [] (.int (0 : Int32))) (hi0 : ¬ (ii < (0 : Int32))) :
    own_CP l Z M327 method_6_code 2 (some .boolean) ws R_h0_ #[(.ref b), (.int ii)] h0 (Q_h0_ Z G1 G3 b k ii h0 n0) := by
  refine own_P (plainFor_of_name pn_218) ?_
  intro p e s m below meth c s₁ S0 Bd hZ hh hx hby hml hown hnm X0 e0 hS0d
  obtain ⟨O1, P1, O3f, rG3⟩ := id HG
  have N0 := Fr.nil n0
  have C0 : Steps p.tables e below S0 (s₁.setTop (mkF m 0 #[.val (.ref b), .val (.int ii)] [])) := by rw [hS0d]; exact castTop (ef_50 m b ii) (Steps.refl _)
  obtain ⟨c_1, A_2, q_3, S_4, M_5, H_6, U_7⟩ := id hp0
  have C_8 : Steps p.tables e below S0 (s₁.setTop (mkF m 20 #[.val (.ref b), .val (.int ii)] [(.int (0 : Int32))])) := by
    refine C0.trans ?_
    refine XS.iloadN X0.here hx rfl (hb hby d16_0) rfl ?_
    refine XS.aloadN X0.here hx rfl (hb hby d16_1) rfl rfl ?_
    refine X0.arraylength hx (by rw [e0]; exact A_2.1) (State.isArrayOf_alike hZ.alike A_2.2.1) (g := (mkF m 2 #[.val (.ref b), .val (.int ii)] [(.ref b), (.int ii)])) rfl rfl (hb hby d16_2) _ ?_
    rw [len_of S_4 M_5]
    refine XS.icmpYes X0.here hx rfl (pc0 := 3) (pc' := 19) rfl (hb hby d16_3) rfl (ii_ge_t hi0) (by decide) (by decide) ?_
    refine XS.iconst X0.here hx rfl (hb hby d16_19) ?_
    exact Steps.refl _
  obtain ⟨fs, hr, hrun, hended, hW, hsame⟩ := X0.leave (v := some (.int (0 : Int32))) (fun h => by rw [Bd.returns] at h; cases h)
  refine ⟨_, _, C_8.trans (retN X0 hx (t := .boolean) Bd.returns (by simp) (hb hby d16_20) hr), hrun, hended, _, _, rfl, ?_, ⟨_, rfl⟩, hW, hsame.mono (by decide) (by decide)⟩
  show Q_h0_ Z G1 G3 b k ii h0 n0 (some (.int (0 : Int32))) s₁.heap _
  rw [e0]
  exact ⟨rfl, N0, rfl⟩
abbrev R_d0_ : Room := { frames := 0, cells := 0, slots := 0, locals := 0 }
def Q_d0_ (Z : State) (G1 : Int32) (G3 : Value) (b : Addr) (k : ClassId) (ii : Int32) (h0 : Heap) (n0 : Nat) (v : Option Value) (h : Heap) (L : List Loc) : Prop := (v = some (.int (0 : Int32)) ∧ Fr n0 L ∧ h = h0)
set_option maxRecDepth 65536 in
set_option maxHeartbeats 40000000 in
theorem rm_d0_ (l : Launch) (Z : State) (a0 : Array Value) (hw : ∀ d ∈ tables_1, d.before a0 Z = true) (ws : List Jvm.Cond) (G1 : Int32) (G3 : Value) (HG : own_G l Z a0 G1 G3) (h0 : Heap) (n0 : Nat) (X00 : Old Z n0 h0) (b : Addr) (k : ClassId) (ii : Int32) (hp0 : Arv Z h0 b k .char (0 : Int32) [] (.int (0 : Int32))) (hi0 : ¬ (ii < (0 : Int32))) :
    own_CP l Z M346 method_5_code 2 (some .boolean) ws R_d0_ #[(.ref b), (.int ii)] h0 (Q_d0_ Z G1 G3 b k ii h0 n0) := by
  refine own_P (plainFor_of_name pn_218) ?_
  intro p e s m below meth c s₁ S0 Bd hZ hh hx hby hml hown hnm X0 e0 hS0d
  obtain ⟨O1, P1, O3f, rG3⟩ := id HG
  have N0 := Fr.nil n0
  have C0 : Steps p.tables e below S0 (s₁.setTop (mkF m 0 #[.val (.ref b), .val (.int ii)] [])) := by rw [hS0d]; exact castTop (ef_50 m b ii) (Steps.refl _)
  obtain ⟨c_1, A_2, q_3, S_4, M_5, H_6, U_7⟩ := id hp0
  have C_8 : Steps p.tables e below S0 (s₁.setTop (mkF m 19 #[.val (.ref b), .val (.int ii)] [(.int (0 : Int32))])) := by
    refine C0.trans ?_
    refine XS.iloadN X0.here hx rfl (hb hby d17_0) rfl ?_
    refine XS.aloadN X0.here hx rfl (hb hby d17_1) rfl rfl ?_
    refine X0.arraylength hx (by rw [e0]; exact A_2.1) (State.isArrayOf_alike hZ.alike A_2.2.1) (g := (mkF m 2 #[.val (.ref b), .val (.int ii)] [(.ref b), (.int ii)])) rfl rfl (hb hby d17_2) _ ?_
    rw [len_of S_4 M_5]
    refine XS.icmpYes X0.here hx rfl (pc0 := 3) (pc' := 18) rfl (hb hby d17_3) rfl (ii_ge_t hi0) (by decide) (by decide) ?_
    refine XS.iconst X0.here hx rfl (hb hby d17_18) ?_
    exact Steps.refl _
  obtain ⟨fs, hr, hrun, hended, hW, hsame⟩ := X0.leave (v := some (.int (0 : Int32))) (fun h => by rw [Bd.returns] at h; cases h)
  refine ⟨_, _, C_8.trans (retN X0 hx (t := .boolean) Bd.returns (by simp) (hb hby d17_19) hr), hrun, hended, _, _, rfl, ?_, ⟨_, rfl⟩, hW, hsame.mono (by decide) (by decide)⟩
  show Q_d0_ Z G1 G3 b k ii h0 n0 (some (.int (0 : Int32))) s₁.heap _
  rw [e0]
  exact ⟨rfl, N0, rfl⟩
abbrev M360 : MethodName := ⟨"com/example/claimgate/claimgate/config/ConfigSyntaxMayHoldHashPinLaw", "w", "([CI)Z"⟩
theorem d18_0 : decode method_8_code 0 = .ok (.aload_n 0, 1) := by decide +kernel
theorem d18_1 : decode method_8_code 1 = .ok (.iload_n 1, 1) := by decide +kernel
theorem w39 {Z : State} {a0 : Array Value} (hw : ∀ d ∈ tables_1, d.before a0 Z = true) : Jvm.Cond.before (Jvm.Cond.code ({ cls := "com/example/claimgate/claimgate/config/ConfigSyntaxMayHoldHashPinLaw", name := "h", desc := "([CI)Z" } : Jvm.MethodName) method_6_code (2 : Nat) (Option.some Jvm.ClassFile.FieldType.boolean)) a0 Z = true := hw _ (List.mem_of_getElem? (i := 39) rfl)
theorem pd_364 : parseMethodDescriptor "([CI)Z" = some ⟨[(.array .char), .int], some .boolean⟩ := by decide +kernel
theorem d18_2 : decode method_8_code 2 = .ok (.invokestatic 42, 3) := by decide +kernel
theorem w37 {Z : State} {a0 : Array Value} (hw : ∀ d ∈ tables_1, d.before a0 Z = true) : Jvm.Cond.before (Jvm.Cond.methodLink "com/example/claimgate/claimgate/config/ConfigSyntaxMayHoldHashPinLaw" (42 : Nat) ({ cls := "com/example/claimgate/claimgate/config/ConfigSyntaxMayHoldHashPinLaw", name := "h", desc := "([CI)Z" } : Jvm.MethodName)) a0 Z = true := hw _ (List.mem_of_getElem? (i := 37) rfl)
theorem w38 {Z : State} {a0 : Array Value} (hw : ∀ d ∈ tables_1, d.before a0 Z = true) : Jvm.Cond.before (Jvm.Cond.static ({ cls := "com/example/claimgate/claimgate/config/ConfigSyntaxMayHoldHashPinLaw", name := "h", desc := "([CI)Z" } : Jvm.MethodName)) a0 Z = true := hw _ (List.mem_of_getElem? (i := 38) rfl)
theorem d18_5 : decode method_8_code 5 = .ok (.ifCond .eq 134, 3) := by decide +kernel
theorem d18_139 : decode method_8_code 139 = .ok (.iconst 0, 1) := by decide +kernel
theorem d18_140 : decode method_8_code 140 = .ok (.ireturn, 1) := by decide +kernel
abbrev R_w0_ : Room := { frames := 1, cells := 0, slots := 0, locals := 13 }
def Q_w0_ (Z : State) (G1 : Int32) (G3 : Value) (b : Addr) (k : ClassId) (ii : Int32) (h0 : Heap) (n0 : Nat) (v : Option Value) (h : Heap) (L : List Loc) : Prop := (v = some (.int (0 : Int32)) ∧ Fr n0 L ∧ h = h0)
set_option maxRecDepth 65536 in
set_option maxHeartbeats 40000000 in
theorem rm_w0_ (l : Launch) (Z : State) (a0 : Array Value) (hw : ∀ d ∈ tables_1, d.before a0 Z = true) (ws : List Jvm.Cond) (G1 : Int32) (G3 : Value) (HG : own_G l Z a0 G1 G3) (h0 : Heap) (n0 : Nat) (X00 : Old Z n0 h0) (b : Addr) (k : ClassId) (ii : Int32) (hp0 : Arv Z h0 b k .char (0 : Int32) [] (.int (0 : Int32))) (hi0 : ¬ (ii < (0 : Int32))) :
    own_CP l Z M360 method_8_code 2 (some .boolean) ws R_w0_ #[(.ref b), (.int ii)] h0 (Q_w0_ Z G1 G3 b k ii h0 n0) := by
  refine own_P (plainFor_of_name pn_218) ?_
  intro p e s m below meth c s₁ S0 Bd hZ hh hx hby hml hown hnm X0 e0 hS0d
  obtain ⟨O1, P1, O3f, rG3⟩ := id HG
  have N0 := Fr.nil n0
  have C0 : Steps p.tables e below S0 (s₁.setTop (mkF m 0 #[.val (.ref b), .val (.int ii)] [])) := by rw [hS0d]; exact castTop (ef_50 m b ii) (Steps.refl _)
  obtain ⟨_, _, ⟨T_1, L_1, k_1, n_1⟩, -, X_1, ⟨Lc_1, hQ_1, l_1, y_1, z_1⟩, st_1⟩ := Jvm.LawKit.callS X0 hx (y := M327) hown (mvT hZ (w37 hw)) (mvT hZ (w38 hw)) (mvT hZ (w4 hw)) (mvT hZ (w39 hw)) (by decide) (backOf (W := 0) (rm_h0_ l Z a0 hw [] G1 G3 HG h0 n0 X00 b k ii hp0 hi0) hZ (w39 hw) (w4 hw) (by decide) (by decide)) (g := (mkF m 2 #[.val (.ref b), .val (.int ii)] [(.int ii), (.ref b)])) rfl (by rw [hml]; rfl) (argsL := [(.ref b), (.int ii)]) (rest := []) (lenOf pd_364 rfl) rfl (by show 2 * 0 + _ ≤ _; exact Nat.le_of_eq rfl) (hb hby d18_2) (fun _ _ => ⟨rfl, e0, (by decide : 0 + 0 ≤ _), (by decide : 0 + 0 ≤ _)⟩)
  dsimp only [Pt.U, Pt.locs, Pt.cells, Pt.slots] at X_1 l_1 y_1 z_1 st_1 hQ_1
  have X_1 := own_cast X_1 l_1 y_1 z_1
  obtain ⟨rfl, N_2, e_3⟩ := hQ_1
  have N_4 := Fr.app N0 N_2
  have e_5 : T_1.heap = h0 := e_3
  have C_6 : Steps p.tables e below S0 (T_1.setTop (mkF m 140 #[.val (.ref b), .val (.int ii)] [(.int (0 : Int32))])) := by
    refine C0.trans ?_
    refine XS.aloadN X0.here hx rfl (hb hby d18_0) rfl rfl ?_
    refine XS.iloadN X0.here hx rfl (hb hby d18_1) rfl ?_
    refine st_1 _ ?_
    refine XS.ifYes X_1.here hx rfl (pc0 := 5) (pc' := 139) rfl (hb hby d18_5) rfl (by decide) (by decide) (by decide) ?_
    refine XS.iconst X_1.here hx rfl (hb hby d18_139) ?_
    exact Steps.refl _
  obtain ⟨fs, hr, hrun, hended, hW, hsame⟩ := X_1.leave (v := some (.int (0 : Int32))) (fun h => by rw [Bd.returns] at h; cases h)
  refine ⟨_, _, C_6.trans (retN X_1 hx (t := .boolean) Bd.returns (by simp) (hb hby d18_140) hr), hrun, hended, _, _, rfl, ?_, ⟨_, rfl⟩, hW, hsame.mono (by decide) (by decide)⟩
  show Q_w0_ Z G1 G3 b k ii h0 n0 (some (.int (0 : Int32))) T_1.heap _
  rw [e_5]
  exact ⟨rfl, N_4, rfl⟩
theorem d18_8 : decode method_8_code 8 = .ok (.aload_n 0, 1) := by decide +kernel
theorem d18_9 : decode method_8_code 9 = .ok (.iload_n 1, 1) := by decide +kernel
theorem d18_10 : decode method_8_code 10 = .ok (.iconst 1, 1) := by decide +kernel
theorem d18_11 : decode method_8_code 11 = .ok (.iadd, 1) := by decide +kernel
theorem d18_12 : decode method_8_code 12 = .ok (.invokestatic 42, 3) := by decide +kernel
theorem d18_15 : decode method_8_code 15 = .ok (.ifCond .eq 124, 3) := by decide +kernel
theorem d18_18 : decode method_8_code 18 = .ok (.aload_n 0, 1) := by decide +kernel
theorem d18_19 : decode method_8_code 19 = .ok (.iload_n 1, 1) := by decide +kernel
theorem d18_20 : decode method_8_code 20 = .ok (.iconst 2, 1) := by decide +kernel
theorem d18_21 : decode method_8_code 21 = .ok (.iadd, 1) := by decide +kernel
theorem d18_22 : decode method_8_code 22 = .ok (.invokestatic 42, 3) := by decide +kernel
theorem d18_25 : decode method_8_code 25 = .ok (.ifCond .eq 114, 3) := by decide +kernel
theorem d18_28 : decode method_8_code 28 = .ok (.aload_n 0, 1) := by decide +kernel
theorem d18_29 : decode method_8_code 29 = .ok (.iload_n 1, 1) := by decide +kernel
theorem d18_30 : decode method_8_code 30 = .ok (.iconst 3, 1) := by decide +kernel
theorem d18_31 : decode method_8_code 31 = .ok (.iadd, 1) := by decide +kernel
theorem d18_32 : decode method_8_code 32 = .ok (.invokestatic 42, 3) := by decide +kernel
theorem d18_35 : decode method_8_code 35 = .ok (.ifCond .eq 104, 3) := by decide +kernel
theorem d18_38 : decode method_8_code 38 = .ok (.aload_n 0, 1) := by decide +kernel
theorem d18_39 : decode method_8_code 39 = .ok (.iload_n 1, 1) := by decide +kernel
theorem d18_40 : decode method_8_code 40 = .ok (.iconst 4, 1) := by decide +kernel
theorem d18_41 : decode method_8_code 41 = .ok (.iadd, 1) := by decide +kernel
theorem d18_42 : decode method_8_code 42 = .ok (.invokestatic 42, 3) := by decide +kernel
theorem d18_45 : decode method_8_code 45 = .ok (.ifCond .eq 94, 3) := by decide +kernel
theorem d18_48 : decode method_8_code 48 = .ok (.aload_n 0, 1) := by decide +kernel
theorem d18_49 : decode method_8_code 49 = .ok (.iload_n 1, 1) := by decide +kernel
theorem d18_50 : decode method_8_code 50 = .ok (.iconst 5, 1) := by decide +kernel
theorem d18_51 : decode method_8_code 51 = .ok (.iadd, 1) := by decide +kernel
theorem d18_52 : decode method_8_code 52 = .ok (.invokestatic 42, 3) := by decide +kernel
theorem d18_55 : decode method_8_code 55 = .ok (.ifCond .eq 84, 3) := by decide +kernel
theorem d18_58 : decode method_8_code 58 = .ok (.aload_n 0, 1) := by decide +kernel
theorem d18_59 : decode method_8_code 59 = .ok (.iload_n 1, 1) := by decide +kernel
theorem d18_60 : decode method_8_code 60 = .ok (.bipush 6, 2) := by decide +kernel
theorem d18_62 : decode method_8_code 62 = .ok (.iadd, 1) := by decide +kernel
theorem d18_63 : decode method_8_code 63 = .ok (.invokestatic 42, 3) := by decide +kernel
theorem d18_66 : decode method_8_code 66 = .ok (.ifCond .eq 73, 3) := by decide +kernel
theorem d18_69 : decode method_8_code 69 = .ok (.aload_n 0, 1) := by decide +kernel
theorem d18_70 : decode method_8_code 70 = .ok (.iload_n 1, 1) := by decide +kernel
theorem d18_71 : decode method_8_code 71 = .ok (.bipush 7, 2) := by decide +kernel
theorem d18_73 : decode method_8_code 73 = .ok (.iadd, 1) := by decide +kernel
theorem d18_74 : decode method_8_code 74 = .ok (.invokestatic 42, 3) := by decide +kernel
theorem d18_77 : decode method_8_code 77 = .ok (.ifCond .eq 62, 3) := by decide +kernel
theorem d18_80 : decode method_8_code 80 = .ok (.aload_n 0, 1) := by decide +kernel
theorem d18_81 : decode method_8_code 81 = .ok (.iload_n 1, 1) := by decide +kernel
theorem d18_82 : decode method_8_code 82 = .ok (.bipush 8, 2) := by decide +kernel
theorem d18_84 : decode method_8_code 84 = .ok (.iadd, 1) := by decide +kernel
theorem d18_85 : decode method_8_code 85 = .ok (.invokestatic 42, 3) := by decide +kernel
theorem d18_88 : decode method_8_code 88 = .ok (.ifCond .eq 51, 3) := by decide +kernel
theorem d18_91 : decode method_8_code 91 = .ok (.aload_n 0, 1) := by decide +kernel
theorem d18_92 : decode method_8_code 92 = .ok (.iload_n 1, 1) := by decide +kernel
theorem d18_93 : decode method_8_code 93 = .ok (.bipush 9, 2) := by decide +kernel
theorem d18_95 : decode method_8_code 95 = .ok (.iadd, 1) := by decide +kernel
theorem d18_96 : decode method_8_code 96 = .ok (.invokestatic 42, 3) := by decide +kernel
theorem d18_99 : decode method_8_code 99 = .ok (.ifCond .eq 40, 3) := by decide +kernel
theorem d18_102 : decode method_8_code 102 = .ok (.aload_n 0, 1) := by decide +kernel
theorem d18_103 : decode method_8_code 103 = .ok (.iload_n 1, 1) := by decide +kernel
theorem d18_104 : decode method_8_code 104 = .ok (.bipush 10, 2) := by decide +kernel
theorem d18_106 : decode method_8_code 106 = .ok (.iadd, 1) := by decide +kernel
theorem d18_107 : decode method_8_code 107 = .ok (.invokestatic 42, 3) := by decide +kernel
theorem d18_110 : decode method_8_code 110 = .ok (.ifCond .eq 29, 3) := by decide +kernel
theorem d18_113 : decode method_8_code 113 = .ok (.aload_n 0, 1) := by decide +kernel
theorem d18_114 : decode method_8_code 114 = .ok (.iload_n 1, 1) := by decide +kernel
theorem d18_115 : decode method_8_code 115 = .ok (.bipush 11, 2) := by decide +kernel
theorem d18_117 : decode method_8_code 117 = .ok (.iadd, 1) := by decide +kernel
theorem d18_118 : decode method_8_code 118 = .ok (.invokestatic 42, 3) := by decide +kernel
theorem d18_121 : decode method_8_code 121 = .ok (.ifCond .eq 18, 3) := by decide +kernel
theorem d18_124 : decode method_8_code 124 = .ok (.aload_n 0, 1) := by decide +kernel
theorem d18_125 : decode method_8_code 125 = .ok (.iload_n 1, 1) := by decide +kernel
theorem d18_126 : decode method_8_code 126 = .ok (.bipush 12, 2) := by decide +kernel
theorem d18_128 : decode method_8_code 128 = .ok (.iadd, 1) := by decide +kernel
theorem d18_129 : decode method_8_code 129 = .ok (.invokestatic 42, 3) := by decide +kernel
theorem d18_132 : decode method_8_code 132 = .ok (.ifCond .eq 7, 3) := by decide +kernel
theorem d18_135 : decode method_8_code 135 = .ok (.iconst 1, 1) := by decide +kernel
theorem d18_136 : decode method_8_code 136 = .ok (.goto 4, 3) := by decide +kernel
abbrev R_ww_0 : Room := { frames := 2, cells := 0, slots := 0, locals := 25 }
def Q_ww_0 (Z : State) (G1 : Int32) (G3 : Value) (b : Addr) (k : ClassId) (nn : Int32) (cs : List Int32) (h0 : Heap) (n0 : Nat) (v : Option Value) (h : Heap) (L : List Loc) : Prop := (∃ rr : Int32, v = some (.int rr) ∧ Fr n0 L ∧ h = h0 ∧ (rr = own_b (own_w cs 0)))
set_option maxRecDepth 65536 in
set_option maxHeartbeats 40000000 in
theorem rm_ww_0 (l : Launch) (Z : State) (a0 : Array Value) (hw : ∀ d ∈ tables_1, d.before a0 Z = true) (ws : List Jvm.Cond) (G1 : Int32) (G3 : Value) (HG : own_G l Z a0 G1 G3) (h0 : Heap) (n0 : Nat) (X00 : Old Z n0 h0) (b : Addr) (k : ClassId) (nn : Int32) (cs : List Int32) (hp0 : Arv Z h0 b k .char nn (own_iv cs) (.int (0 : Int32))) (hl1 : cs.length = nn.toNatClampNeg) (hla : own_lat cs) :
    own_CP l Z M360 method_8_code 2 (some .boolean) ws R_ww_0 #[(.ref b), (.int (0 : Int32))] h0 (Q_ww_0 Z G1 G3 b k nn cs h0 n0) := by
  refine own_P (plainFor_of_name pn_218) ?_
  intro p e s m below meth c s₁ S0 Bd hZ hh hx hby hml hown hnm X0 e0 hS0d
  obtain ⟨O1, P1, O3f, rG3⟩ := id HG
  have N0 := Fr.nil n0
  have C0 : Steps p.tables e below S0 (s₁.setTop (mkF m 0 #[.val (.ref b), .val (.int (0 : Int32))] [])) := by rw [hS0d]; exact castTop (ef_50 m b (0 : Int32)) (Steps.refl _)
  obtain ⟨_, _, ⟨T_1, L_1, k_1, n_1⟩, -, X_1, ⟨Lc_1, hQ_1, l_1, y_1, z_1⟩, st_1⟩ := Jvm.LawKit.callS X0 hx (y := M327) hown (mvT hZ (w37 hw)) (mvT hZ (w38 hw)) (mvT hZ (w4 hw)) (mvT hZ (w39 hw)) (by decide) (backOf (W := 0) (rm_hh_ l Z a0 hw [] G1 G3 HG h0 n0 X00 b k nn cs (0 : Int32) hp0 hl1 hla (by decide)) hZ (w39 hw) (w4 hw) (by decide) (by decide)) (g := (mkF m 2 #[.val (.ref b), .val (.int (0 : Int32))] [(.int (0 : Int32)), (.ref b)])) rfl (by rw [hml]; rfl) (argsL := [(.ref b), (.int (0 : Int32))]) (rest := []) (lenOf pd_364 rfl) rfl (by show 2 * 0 + _ ≤ _; exact Nat.le_of_eq rfl) (hb hby d18_2) (fun _ _ => ⟨rfl, e0, (by decide : 0 + 0 ≤ _), (by decide : 0 + 0 ≤ _)⟩)
  dsimp only [Pt.U, Pt.locs, Pt.cells, Pt.slots] at X_1 l_1 y_1 z_1 st_1 hQ_1
  have X_1 := own_cast X_1 l_1 y_1 z_1
  obtain ⟨i_2, rfl, N_3, e_4, g_5⟩ := hQ_1
  have N_6 := Fr.app N0 N_3
  have e_7 : T_1.heap = h0 := e_4
  have C_8 : Steps p.tables e below S0 (T_1.setTop (mkF m 5 #[.val (.ref b), .val (.int (0 : Int32))] [(.int i_2)])) := by
    refine C0.trans ?_
    refine XS.aloadN X0.here hx rfl (hb hby d18_0) rfl rfl ?_
    refine XS.iloadN X0.here hx rfl (hb hby d18_1) rfl ?_
    refine st_1 _ ?_
    exact Steps.refl _
  by_cases hc_9 : i_2 = (0 : Int32)
  · skip
    have C_10 : Steps p.tables e below S0 (T_1.setTop (mkF m 140 #[.val (.ref b), .val (.int (0 : Int32))] [(.int (0 : Int32))])) := by
      refine C_8.trans ?_
      refine XS.ifYes X_1.here hx rfl (pc0 := 5) (pc' := 139) rfl (hb hby d18_5) rfl (i0_eq_t hc_9) (by decide) (by decide) ?_
      refine XS.iconst X_1.here hx rfl (hb hby d18_139) ?_
      exact Steps.refl _
    obtain ⟨fs, hr, hrun, hended, hW, hsame⟩ := X_1.leave (v := some (.int (0 : Int32))) (fun h => by rw [Bd.returns] at h; cases h)
    refine ⟨_, _, C_10.trans (retN X_1 hx (t := .boolean) Bd.returns (by simp) (hb hby d18_140) hr), hrun, hended, _, _, rfl, ?_, ⟨_, rfl⟩, hW, hsame.mono (by decide) (by decide)⟩
    show Q_ww_0 Z G1 G3 b k nn cs h0 n0 (some (.int (0 : Int32))) T_1.heap _
    rw [e_7]
    exact ⟨(0 : Int32), rfl, N_6, rfl, (own_w0 (k := 0) (by decide) (own_rF g_5 hc_9))⟩
  · skip
    obtain ⟨_, _, ⟨T_11, L_11, k_11, n_11⟩, -, X_11, ⟨Lc_11, hQ_11, l_11, y_11, z_11⟩, st_11⟩ := Jvm.LawKit.callS X_1 hx (y := M327) hown (mvT hZ (w37 hw)) (mvT hZ (w38 hw)) (mvT hZ (w4 hw)) (mvT hZ (w39 hw)) (by decide) (backOf (W := 0) (rm_hh_ l Z a0 hw [] G1 G3 HG h0 n0 X00 b k nn cs (1 : Int32) hp0 hl1 hla (by decide)) hZ (w39 hw) (w4 hw) (by decide) (by decide)) (g := (mkF m 12 #[.val (.ref b), .val (.int (0 : Int32))] [(.int (1 : Int32)), (.ref b)])) rfl (by rw [hml]; rfl) (argsL := [(.ref b), (.int (1 : Int32))]) (rest := []) (lenOf pd_364 rfl) rfl (by show 2 * 0 + _ ≤ _; exact Nat.le_of_eq rfl) (hb hby d18_12) (fun _ _ => ⟨rfl, e_7, (by decide : 0 + 0 ≤ _), (by decide : 0 + 0 ≤ _)⟩)
    dsimp only [Pt.U, Pt.locs, Pt.cells, Pt.slots] at X_11 l_11 y_11 z_11 st_11 hQ_11
    have X_11 := own_cast X_11 l_11 y_11 z_11
    obtain ⟨i_12, rfl, N_13, e_14, g_15⟩ := hQ_11
    have N_16 := Fr.app N_6 N_13
    have e_17 : T_11.heap = h0 := e_14
    have C_18 : Steps p.tables e below S0 (T_11.setTop (mkF m 15 #[.val (.ref b), .val (.int (0 : Int32))] [(.int i_12)])) := by
      refine C_8.trans ?_
      refine XS.ifNo X_1.here hx rfl (hb hby d18_5) rfl (i0_eq_f hc_9) ?_
      refine XS.aloadN X_1.here hx rfl (hb hby d18_8) rfl rfl ?_
      refine XS.iloadN X_1.here hx rfl (hb hby d18_9) rfl ?_
      refine XS.iconst X_1.here hx rfl (hb hby d18_10) ?_
      refine XS.iadd X_1.here hx rfl (hb hby d18_11) rfl ?_
      refine st_11 _ ?_
      exact Steps.refl _
    by_cases hc_19 : i_12 = (0 : Int32)
    · skip
      have C_20 : Steps p.tables e below S0 (T_11.setTop (mkF m 140 #[.val (.ref b), .val (.int (0 : Int32))] [(.int (0 : Int32))])) := by
        refine C_18.trans ?_
        refine XS.ifYes X_11.here hx rfl (pc0 := 15) (pc' := 139) rfl (hb hby d18_15) rfl (i0_eq_t hc_19) (by decide) (by decide) ?_
        refine XS.iconst X_11.here hx rfl (hb hby d18_139) ?_
        exact Steps.refl _
      obtain ⟨fs, hr, hrun, hended, hW, hsame⟩ := X_11.leave (v := some (.int (0 : Int32))) (fun h => by rw [Bd.returns] at h; cases h)
      refine ⟨_, _, C_20.trans (retN X_11 hx (t := .boolean) Bd.returns (by simp) (hb hby d18_140) hr), hrun, hended, _, _, rfl, ?_, ⟨_, rfl⟩, hW, hsame.mono (by decide) (by decide)⟩
      show Q_ww_0 Z G1 G3 b k nn cs h0 n0 (some (.int (0 : Int32))) T_11.heap _
      rw [e_17]
      exact ⟨(0 : Int32), rfl, N_16, rfl, (own_w0 (k := 1) (by decide) (own_rF g_15 hc_19))⟩
    · skip
      obtain ⟨_, _, ⟨T_21, L_21, k_21, n_21⟩, -, X_21, ⟨Lc_21, hQ_21, l_21, y_21, z_21⟩, st_21⟩ := Jvm.LawKit.callS X_11 hx (y := M327) hown (mvT hZ (w37 hw)) (mvT hZ (w38 hw)) (mvT hZ (w4 hw)) (mvT hZ (w39 hw)) (by decide) (backOf (W := 0) (rm_hh_ l Z a0 hw [] G1 G3 HG h0 n0 X00 b k nn cs (2 : Int32) hp0 hl1 hla (by decide)) hZ (w39 hw) (w4 hw) (by decide) (by decide)) (g := (mkF m 22 #[.val (.ref b), .val (.int (0 : Int32))] [(.int (2 : Int32)), (.ref b)])) rfl (by rw [hml]; rfl) (argsL := [(.ref b), (.int (2 : Int32))]) (rest := []) (lenOf pd_364 rfl) rfl (by show 2 * 0 + _ ≤ _; exact Nat.le_of_eq rfl) (hb hby d18_22) (fun _ _ => ⟨rfl, e_17, (by decide : 0 + 0 ≤ _), (by decide : 0 + 0 ≤ _)⟩)
      dsimp only [Pt.U, Pt.locs, Pt.cells, Pt.slots] at X_21 l_21 y_21 z_21 st_21 hQ_21
      have X_21 := own_cast X_21 l_21 y_21 z_21
      obtain ⟨i_22, rfl, N_23, e_24, g_25⟩ := hQ_21
      have N_26 := Fr.app N_16 N_23
      have e_27 : T_21.heap = h0 := e_24
      have C_28 : Steps p.tables e below S0 (T_21.setTop (mkF m 25 #[.val (.ref b), .val (.int (0 : Int32))] [(.int i_22)])) := by
        refine C_18.trans ?_
        refine XS.ifNo X_11.here hx rfl (hb hby d18_15) rfl (i0_eq_f hc_19) ?_
        refine XS.aloadN X_11.here hx rfl (hb hby d18_18) rfl rfl ?_
        refine XS.iloadN X_11.here hx rfl (hb hby d18_19) rfl ?_
        refine XS.iconst X_11.here hx rfl (hb hby d18_20) ?_
        refine XS.iadd X_11.here hx rfl (hb hby d18_21) rfl ?_
        refine st_21 _ ?_
        exact Steps.refl _
      by_cases hc_29 : i_22 = (0 : Int32)
      · skip
        have C_30 : Steps p.tables e below S0 (T_21.setTop (mkF m 140 #[.val (.ref b), .val (.int (0 : Int32))] [(.int (0 : Int32))])) := by
          refine C_28.trans ?_
          refine XS.ifYes X_21.here hx rfl (pc0 := 25) (pc' := 139) rfl (hb hby d18_25) rfl (i0_eq_t hc_29) (by decide) (by decide) ?_
          refine XS.iconst X_21.here hx rfl (hb hby d18_139) ?_
          exact Steps.refl _
        obtain ⟨fs, hr, hrun, hended, hW, hsame⟩ := X_21.leave (v := some (.int (0 : Int32))) (fun h => by rw [Bd.returns] at h; cases h)
        refine ⟨_, _, C_30.trans (retN X_21 hx (t := .boolean) Bd.returns (by simp) (hb hby d18_140) hr), hrun, hended, _, _, rfl, ?_, ⟨_, rfl⟩, hW, hsame.mono (by decide) (by decide)⟩
        show Q_ww_0 Z G1 G3 b k nn cs h0 n0 (some (.int (0 : Int32))) T_21.heap _
        rw [e_27]
        exact ⟨(0 : Int32), rfl, N_26, rfl, (own_w0 (k := 2) (by decide) (own_rF g_25 hc_29))⟩
      · skip
        obtain ⟨_, _, ⟨T_31, L_31, k_31, n_31⟩, -, X_31, ⟨Lc_31, hQ_31, l_31, y_31, z_31⟩, st_31⟩ := Jvm.LawKit.callS X_21 hx (y := M327) hown (mvT hZ (w37 hw)) (mvT hZ (w38 hw)) (mvT hZ (w4 hw)) (mvT hZ (w39 hw)) (by decide) (backOf (W := 0) (rm_hh_ l Z a0 hw [] G1 G3 HG h0 n0 X00 b k nn cs (3 : Int32) hp0 hl1 hla (by decide)) hZ (w39 hw) (w4 hw) (by decide) (by decide)) (g := (mkF m 32 #[.val (.ref b), .val (.int (0 : Int32))] [(.int (3 : Int32)), (.ref b)])) rfl (by rw [hml]; rfl) (argsL := [(.ref b), (.int (3 : Int32))]) (rest := []) (lenOf pd_364 rfl) rfl (by show 2 * 0 + _ ≤ _; exact Nat.le_of_eq rfl) (hb hby d18_32) (fun _ _ => ⟨rfl, e_27, (by decide : 0 + 0 ≤ _), (by decide : 0 + 0 ≤ _)⟩)
        dsimp only [Pt.U, Pt.locs, Pt.cells, Pt.slots] at X_31 l_31 y_31 z_31 st_31 hQ_31
        have X_31 := own_cast X_31 l_31 y_31 z_31
        obtain ⟨i_32, rfl, N_33, e_34, g_35⟩ := hQ_31
        have N_36 := Fr.app N_26 N_33
        have e_37 : T_31.heap = h0 := e_34
        have C_38 : Steps p.tables e below S0 (T_31.setTop (mkF m 35 #[.val (.ref b), .val (.int (0 : Int32))] [(.int i_32)])) := by
          refine C_28.trans ?_
          refine XS.ifNo X_21.here hx rfl (hb hby d18_25) rfl (i0_eq_f hc_29) ?_
          refine XS.aloadN X_21.here hx rfl (hb hby d18_28) rfl rfl ?_
          refine XS.iloadN X_21.here hx rfl (hb hby d18_29) rfl ?_
          refine XS.iconst X_21.here hx rfl (hb hby d18_30) ?_
          refine XS.iadd X_21.here hx rfl (hb hby d18_31) rfl ?_
          refine st_31 _ ?_
          exact Steps.refl _
        by_cases hc_39 : i_32 = (0 : Int32)
        · skip
          have C_40 : Steps p.tables e below S0 (T_31.setTop (mkF m 140 #[.val (.ref b), .val (.int (0 : Int32))] [(.int (0 : Int32))])) := by
            refine C_38.trans ?_
            refine XS.ifYes X_31.here hx rfl (pc0 := 35) (pc' := 139) rfl (hb hby d18_35) rfl (i0_eq_t hc_39) (by decide) (by decide) ?_
            refine XS.iconst X_31.here hx rfl (hb hby d18_139) ?_
            exact Steps.refl _
          obtain ⟨fs, hr, hrun, hended, hW, hsame⟩ := X_31.leave (v := some (.int (0 : Int32))) (fun h => by rw [Bd.returns] at h; cases h)
          refine ⟨_, _, C_40.trans (retN X_31 hx (t := .boolean) Bd.returns (by simp) (hb hby d18_140) hr), hrun, hended, _, _, rfl, ?_, ⟨_, rfl⟩, hW, hsame.mono (by decide) (by decide)⟩
          show Q_ww_0 Z G1 G3 b k nn cs h0 n0 (some (.int (0 : Int32))) T_31.heap _
          rw [e_37]
          exact ⟨(0 : Int32), rfl, N_36, rfl, (own_w0 (k := 3) (by decide) (own_rF g_35 hc_39))⟩
        · skip
          obtain ⟨_, _, ⟨T_41, L_41, k_41, n_41⟩, -, X_41, ⟨Lc_41, hQ_41, l_41, y_41, z_41⟩, st_41⟩ := Jvm.LawKit.callS X_31 hx (y := M327) hown (mvT hZ (w37 hw)) (mvT hZ (w38 hw)) (mvT hZ (w4 hw)) (mvT hZ (w39 hw)) (by decide) (backOf (W := 0) (rm_hh_ l Z a0 hw [] G1 G3 HG h0 n0 X00 b k nn cs (4 : Int32) hp0 hl1 hla (by decide)) hZ (w39 hw) (w4 hw) (by decide) (by decide)) (g := (mkF m 42 #[.val (.ref b), .val (.int (0 : Int32))] [(.int (4 : Int32)), (.ref b)])) rfl (by rw [hml]; rfl) (argsL := [(.ref b), (.int (4 : Int32))]) (rest := []) (lenOf pd_364 rfl) rfl (by show 2 * 0 + _ ≤ _; exact Nat.le_of_eq rfl) (hb hby d18_42) (fun _ _ => ⟨rfl, e_37, (by decide : 0 + 0 ≤ _), (by decide : 0 + 0 ≤ _)⟩)
          dsimp only [Pt.U, Pt.locs, Pt.cells, Pt.slots] at X_41 l_41 y_41 z_41 st_41 hQ_41
          have X_41 := own_cast X_41 l_41 y_41 z_41
          obtain ⟨i_42, rfl, N_43, e_44, g_45⟩ := hQ_41
          have N_46 := Fr.app N_36 N_43
          have e_47 : T_41.heap = h0 := e_44
          have C_48 : Steps p.tables e below S0 (T_41.setTop (mkF m 45 #[.val (.ref b), .val (.int (0 : Int32))] [(.int i_42)])) := by
            refine C_38.trans ?_
            refine XS.ifNo X_31.here hx rfl (hb hby d18_35) rfl (i0_eq_f hc_39) ?_
            refine XS.aloadN X_31.here hx rfl (hb hby d18_38) rfl rfl ?_
            refine XS.iloadN X_31.here hx rfl (hb hby d18_39) rfl ?_
            refine XS.iconst X_31.here hx rfl (hb hby d18_40) ?_
            refine XS.iadd X_31.here hx rfl (hb hby d18_41) rfl ?_
            refine st_41 _ ?_
            exact Steps.refl _
          by_cases hc_49 : i_42 = (0 : Int32)
          · skip
            have C_50 : Steps p.tables e below S0 (T_41.setTop (mkF m 140 #[.val (.ref b), .val (.int (0 : Int32))] [(.int (0 : Int32))])) := by
              refine C_48.trans ?_
              refine XS.ifYes X_41.here hx rfl (pc0 := 45) (pc' := 139) rfl (hb hby d18_45) rfl (i0_eq_t hc_49) (by decide) (by decide) ?_
              refine XS.iconst X_41.here hx rfl (hb hby d18_139) ?_
              exact Steps.refl _
            obtain ⟨fs, hr, hrun, hended, hW, hsame⟩ := X_41.leave (v := some (.int (0 : Int32))) (fun h => by rw [Bd.returns] at h; cases h)
            refine ⟨_, _, C_50.trans (retN X_41 hx (t := .boolean) Bd.returns (by simp) (hb hby d18_140) hr), hrun, hended, _, _, rfl, ?_, ⟨_, rfl⟩, hW, hsame.mono (by decide) (by decide)⟩
            show Q_ww_0 Z G1 G3 b k nn cs h0 n0 (some (.int (0 : Int32))) T_41.heap _
            rw [e_47]
            exact ⟨(0 : Int32), rfl, N_46, rfl, (own_w0 (k := 4) (by decide) (own_rF g_45 hc_49))⟩
          · skip
            obtain ⟨_, _, ⟨T_51, L_51, k_51, n_51⟩, -, X_51, ⟨Lc_51, hQ_51, l_51, y_51, z_51⟩, st_51⟩ := Jvm.LawKit.callS X_41 hx (y := M327) hown (mvT hZ (w37 hw)) (mvT hZ (w38 hw)) (mvT hZ (w4 hw)) (mvT hZ (w39 hw)) (by decide) (backOf (W := 0) (rm_hh_ l Z a0 hw [] G1 G3 HG h0 n0 X00 b k nn cs (5 : Int32) hp0 hl1 hla (by decide)) hZ (w39 hw) (w4 hw) (by decide) (by decide)) (g := (mkF m 52 #[.val (.ref b), .val (.int (0 : Int32))] [(.int (5 : Int32)), (.ref b)])) rfl (by rw [hml]; rfl) (argsL := [(.ref b), (.int (5 : Int32))]) (rest := []) (lenOf pd_364 rfl) rfl (by show 2 * 0 + _ ≤ _; exact Nat.le_of_eq rfl) (hb hby d18_52) (fun _ _ => ⟨rfl, e_47, (by decide : 0 + 0 ≤ _), (by decide : 0 + 0 ≤ _)⟩)
            dsimp only [Pt.U, Pt.locs, Pt.cells, Pt.slots] at X_51 l_51 y_51 z_51 st_51 hQ_51
            have X_51 := own_cast X_51 l_51 y_51 z_51
            obtain ⟨i_52, rfl, N_53, e_54, g_55⟩ := hQ_51
            have N_56 := Fr.app N_46 N_53
            have e_57 : T_51.heap = h0 := e_54
            have C_58 : Steps p.tables e below S0 (T_51.setTop (mkF m 55 #[.val (.ref b), .val (.int (0 : Int32))] [(.int i_52)])) := by
              refine C_48.trans ?_
              refine XS.ifNo X_41.here hx rfl (hb hby d18_45) rfl (i0_eq_f hc_49) ?_
              refine XS.aloadN X_41.here hx rfl (hb hby d18_48) rfl rfl ?_
              refine XS.iloadN X_41.here hx rfl (hb hby d18_49) rfl ?_
              refine XS.iconst X_41.here hx rfl (hb hby d18_50) ?_
              refine XS.iadd X_41.here hx rfl (hb hby d18_51) rfl ?_
              refine st_51 _ ?_
              exact Steps.refl _
            by_cases hc_59 : i_52 = (0 : Int32)
            · skip
              have C_60 : Steps p.tables e below S0 (T_51.setTop (mkF m 140 #[.val (.ref b), .val (.int (0 : Int32))] [(.int (0 : Int32))])) := by
                refine C_58.trans ?_
                refine XS.ifYes X_51.here hx rfl (pc0 := 55) (pc' := 139) rfl (hb hby d18_55) rfl (i0_eq_t hc_59) (by decide) (by decide) ?_
                refine XS.iconst X_51.here hx rfl (hb hby d18_139) ?_
                exact Steps.refl _
              obtain ⟨fs, hr, hrun, hended, hW, hsame⟩ := X_51.leave (v := some (.int (0 : Int32))) (fun h => by rw [Bd.returns] at h; cases h)
              refine ⟨_, _, C_60.trans (retN X_51 hx (t := .boolean) Bd.returns (by simp) (hb hby d18_140) hr), hrun, hended, _, _, rfl, ?_, ⟨_, rfl⟩, hW, hsame.mono (by decide) (by decide)⟩
              show Q_ww_0 Z G1 G3 b k nn cs h0 n0 (some (.int (0 : Int32))) T_51.heap _
              rw [e_57]
              exact ⟨(0 : Int32), rfl, N_56, rfl, (own_w0 (k := 5) (by decide) (own_rF g_55 hc_59))⟩
            · skip
              obtain ⟨_, _, ⟨T_61, L_61, k_61, n_61⟩, -, X_61, ⟨Lc_61, hQ_61, l_61, y_61, z_61⟩, st_61⟩ := Jvm.LawKit.callS X_51 hx (y := M327) hown (mvT hZ (w37 hw)) (mvT hZ (w38 hw)) (mvT hZ (w4 hw)) (mvT hZ (w39 hw)) (by decide) (backOf (W := 0) (rm_hh_ l Z a0 hw [] G1 G3 HG h0 n0 X00 b k nn cs (6 : Int32) hp0 hl1 hla (by decide)) hZ (w39 hw) (w4 hw) (by decide) (by decide)) (g := (mkF m 63 #[.val (.ref b), .val (.int (0 : Int32))] [(.int (6 : Int32)), (.ref b)])) rfl (by rw [hml]; rfl) (argsL := [(.ref b), (.int (6 : Int32))]) (rest := []) (lenOf pd_364 rfl) rfl (by show 2 * 0 + _ ≤ _; exact Nat.le_of_eq rfl) (hb hby d18_63) (fun _ _ => ⟨rfl, e_57, (by decide : 0 + 0 ≤ _), (by decide : 0 + 0 ≤ _)⟩)
              dsimp only [Pt.U, Pt.locs, Pt.cells, Pt.slots] at X_61 l_61 y_61 z_61 st_61 hQ_61
              have X_61 := own_cast X_61 l_61 y_61 z_61
              obtain ⟨i_62, rfl, N_63, e_64, g_65⟩ := hQ_61
              have N_66 := Fr.app N_56 N_63
              have e_67 : T_61.heap = h0 := e_64
              have C_68 : Steps p.tables e below S0 (T_61.setTop (mkF m 66 #[.val (.ref b), .val (.int (0 : Int32))] [(.int i_62)])) := by
                refine C_58.trans ?_
                refine XS.ifNo X_51.here hx rfl (hb hby d18_55) rfl (i0_eq_f hc_59) ?_
                refine XS.aloadN X_51.here hx rfl (hb hby d18_58) rfl rfl ?_
                refine XS.iloadN X_51.here hx rfl (hb hby d18_59) rfl ?_
                refine XS.bipush X_51.here hx rfl (hb hby d18_60) ?_
                refine XS.iadd X_51.here hx rfl (hb hby d18_62) rfl ?_
                refine st_61 _ ?_
                exact Steps.refl _
              by_cases hc_69 : i_62 = (0 : Int32)
              · skip
                have C_70 : Steps p.tables e below S0 (T_61.setTop (mkF m 140 #[.val (.ref b), .val (.int (0 : Int32))] [(.int (0 : Int32))])) := by
                  refine C_68.trans ?_
                  refine XS.ifYes X_61.here hx rfl (pc0 := 66) (pc' := 139) rfl (hb hby d18_66) rfl (i0_eq_t hc_69) (by decide) (by decide) ?_
                  refine XS.iconst X_61.here hx rfl (hb hby d18_139) ?_
                  exact Steps.refl _
                obtain ⟨fs, hr, hrun, hended, hW, hsame⟩ := X_61.leave (v := some (.int (0 : Int32))) (fun h => by rw [Bd.returns] at h; cases h)
                refine ⟨_, _, C_70.trans (retN X_61 hx (t := .boolean) Bd.returns (by simp) (hb hby d18_140) hr), hrun, hended, _, _, rfl, ?_, ⟨_, rfl⟩, hW, hsame.mono (by decide) (by decide)⟩
                show Q_ww_0 Z G1 G3 b k nn cs h0 n0 (some (.int (0 : Int32))) T_61.heap _
                rw [e_67]
                exact ⟨(0 : Int32), rfl, N_66, rfl, (own_w0 (k := 6) (by decide) (own_rF g_65 hc_69))⟩
              · skip
                obtain ⟨_, _, ⟨T_71, L_71, k_71, n_71⟩, -, X_71, ⟨Lc_71, hQ_71, l_71, y_71, z_71⟩, st_71⟩ := Jvm.LawKit.callS X_61 hx (y := M327) hown (mvT hZ (w37 hw)) (mvT hZ (w38 hw)) (mvT hZ (w4 hw)) (mvT hZ (w39 hw)) (by decide) (backOf (W := 0) (rm_hh_ l Z a0 hw [] G1 G3 HG h0 n0 X00 b k nn cs (7 : Int32) hp0 hl1 hla (by decide)) hZ (w39 hw) (w4 hw) (by decide) (by decide)) (g := (mkF m 74 #[.val (.ref b), .val (.int (0 : Int32))] [(.int (7 : Int32)), (.ref b)])) rfl (by rw [hml]; rfl) (argsL := [(.ref b), (.int (7 : Int32))]) (rest := []) (lenOf pd_364 rfl) rfl (by show 2 * 0 + _ ≤ _; exact Nat.le_of_eq rfl) (hb hby d18_74) (fun _ _ => ⟨rfl, e_67, (by decide : 0 + 0 ≤ _), (by decide : 0 + 0 ≤ _)⟩)
                dsimp only [Pt.U, Pt.locs, Pt.cells, Pt.slots] at X_71 l_71 y_71 z_71 st_71 hQ_71
                have X_71 := own_cast X_71 l_71 y_71 z_71
                obtain ⟨i_72, rfl, N_73, e_74, g_75⟩ := hQ_71
                have N_76 := Fr.app N_66 N_73
                have e_77 : T_71.heap = h0 := e_74
                have C_78 : Steps p.tables e below S0 (T_71.setTop (mkF m 77 #[.val (.ref b), .val (.int (0 : Int32))] [(.int i_72)])) := by
                  refine C_68.trans ?_
                  refine XS.ifNo X_61.here hx rfl (hb hby d18_66) rfl (i0_eq_f hc_69) ?_
                  refine XS.aloadN X_61.here hx rfl (hb hby d18_69) rfl rfl ?_
                  refine XS.iloadN X_61.here hx rfl (hb hby d18_70) rfl ?_
                  refine XS.bipush X_61.here hx rfl (hb hby d18_71) ?_
                  refine XS.iadd X_61.here hx rfl (hb hby d18_73) rfl ?_
                  refine st_71 _ ?_
                  exact Steps.refl _
                by_cases hc_79 : i_72 = (0 : Int32)
                · skip
                  have C_80 : Steps p.tables e below S0 (T_71.setTop (mkF m 140 #[.val (.ref b), .val (.int (0 : Int32))] [(.int (0 : Int32))])) := by
                    refine C_78.trans ?_
                    refine XS.ifYes X_71.here hx rfl (pc0 := 77) (pc' := 139) rfl (hb hby d18_77) rfl (i0_eq_t hc_79) (by decide) (by decide) ?_
                    refine XS.iconst X_71.here hx rfl (hb hby d18_139) ?_
                    exact Steps.refl _
                  obtain ⟨fs, hr, hrun, hended, hW, hsame⟩ := X_71.leave (v := some (.int (0 : Int32))) (fun h => by rw [Bd.returns] at h; cases h)
                  refine ⟨_, _, C_80.trans (retN X_71 hx (t := .boolean) Bd.returns (by simp) (hb hby d18_140) hr), hrun, hended, _, _, rfl, ?_, ⟨_, rfl⟩, hW, hsame.mono (by decide) (by decide)⟩
                  show Q_ww_0 Z G1 G3 b k nn cs h0 n0 (some (.int (0 : Int32))) T_71.heap _
                  rw [e_77]
                  exact ⟨(0 : Int32), rfl, N_76, rfl, (own_w0 (k := 7) (by decide) (own_rF g_75 hc_79))⟩
                · skip
                  obtain ⟨_, _, ⟨T_81, L_81, k_81, n_81⟩, -, X_81, ⟨Lc_81, hQ_81, l_81, y_81, z_81⟩, st_81⟩ := Jvm.LawKit.callS X_71 hx (y := M327) hown (mvT hZ (w37 hw)) (mvT hZ (w38 hw)) (mvT hZ (w4 hw)) (mvT hZ (w39 hw)) (by decide) (backOf (W := 0) (rm_hh_ l Z a0 hw [] G1 G3 HG h0 n0 X00 b k nn cs (8 : Int32) hp0 hl1 hla (by decide)) hZ (w39 hw) (w4 hw) (by decide) (by decide)) (g := (mkF m 85 #[.val (.ref b), .val (.int (0 : Int32))] [(.int (8 : Int32)), (.ref b)])) rfl (by rw [hml]; rfl) (argsL := [(.ref b), (.int (8 : Int32))]) (rest := []) (lenOf pd_364 rfl) rfl (by show 2 * 0 + _ ≤ _; exact Nat.le_of_eq rfl) (hb hby d18_85) (fun _ _ => ⟨rfl, e_77, (by decide : 0 + 0 ≤ _), (by decide : 0 + 0 ≤ _)⟩)
                  dsimp only [Pt.U, Pt.locs, Pt.cells, Pt.slots] at X_81 l_81 y_81 z_81 st_81 hQ_81
                  have X_81 := own_cast X_81 l_81 y_81 z_81
                  obtain ⟨i_82, rfl, N_83, e_84, g_85⟩ := hQ_81
                  have N_86 := Fr.app N_76 N_83
                  have e_87 : T_81.heap = h0 := e_84
                  have C_88 : Steps p.tables e below S0 (T_81.setTop (mkF m 88 #[.val (.ref b), .val (.int (0 : Int32))] [(.int i_82)])) := by
                    refine C_78.trans ?_
                    refine XS.ifNo X_71.here hx rfl (hb hby d18_77) rfl (i0_eq_f hc_79) ?_
                    refine XS.aloadN X_71.here hx rfl (hb hby d18_80) rfl rfl ?_
                    refine XS.iloadN X_71.here hx rfl (hb hby d18_81) rfl ?_
                    refine XS.bipush X_71.here hx rfl (hb hby d18_82) ?_
                    refine XS.iadd X_71.here hx rfl (hb hby d18_84) rfl ?_
                    refine st_81 _ ?_
                    exact Steps.refl _
                  by_cases hc_89 : i_82 = (0 : Int32)
                  · skip
                    have C_90 : Steps p.tables e below S0 (T_81.setTop (mkF m 140 #[.val (.ref b), .val (.int (0 : Int32))] [(.int (0 : Int32))])) := by
                      refine C_88.trans ?_
                      refine XS.ifYes X_81.here hx rfl (pc0 := 88) (pc' := 139) rfl (hb hby d18_88) rfl (i0_eq_t hc_89) (by decide) (by decide) ?_
                      refine XS.iconst X_81.here hx rfl (hb hby d18_139) ?_
                      exact Steps.refl _
                    obtain ⟨fs, hr, hrun, hended, hW, hsame⟩ := X_81.leave (v := some (.int (0 : Int32))) (fun h => by rw [Bd.returns] at h; cases h)
                    refine ⟨_, _, C_90.trans (retN X_81 hx (t := .boolean) Bd.returns (by simp) (hb hby d18_140) hr), hrun, hended, _, _, rfl, ?_, ⟨_, rfl⟩, hW, hsame.mono (by decide) (by decide)⟩
                    show Q_ww_0 Z G1 G3 b k nn cs h0 n0 (some (.int (0 : Int32))) T_81.heap _
                    rw [e_87]
                    exact ⟨(0 : Int32), rfl, N_86, rfl, (own_w0 (k := 8) (by decide) (own_rF g_85 hc_89))⟩
                  · skip
                    obtain ⟨_, _, ⟨T_91, L_91, k_91, n_91⟩, -, X_91, ⟨Lc_91, hQ_91, l_91, y_91, z_91⟩, st_91⟩ := Jvm.LawKit.callS X_81 hx (y := M327) hown (mvT hZ (w37 hw)) (mvT hZ (w38 hw)) (mvT hZ (w4 hw)) (mvT hZ (w39 hw)) (by decide) (backOf (W := 0) (rm_hh_ l Z a0 hw [] G1 G3 HG h0 n0 X00 b k nn cs (9 : Int32) hp0 hl1 hla (by decide)) hZ (w39 hw) (w4 hw) (by decide) (by decide)) (g := (mkF m 96 #[.val (.ref b), .val (.int (0 : Int32))] [(.int (9 : Int32)), (.ref b)])) rfl (by rw [hml]; rfl) (argsL := [(.ref b), (.int (9 : Int32))]) (rest := []) (lenOf pd_364 rfl) rfl (by show 2 * 0 + _ ≤ _; exact Nat.le_of_eq rfl) (hb hby d18_96) (fun _ _ => ⟨rfl, e_87, (by decide : 0 + 0 ≤ _), (by decide : 0 + 0 ≤ _)⟩)
                    dsimp only [Pt.U, Pt.locs, Pt.cells, Pt.slots] at X_91 l_91 y_91 z_91 st_91 hQ_91
                    have X_91 := own_cast X_91 l_91 y_91 z_91
                    obtain ⟨i_92, rfl, N_93, e_94, g_95⟩ := hQ_91
                    have N_96 := Fr.app N_86 N_93
                    have e_97 : T_91.heap = h0 := e_94
                    have C_98 : Steps p.tables e below S0 (T_91.setTop (mkF m 99 #[.val (.ref b), .val (.int (0 : Int32))] [(.int i_92)])) := by
                      refine C_88.trans ?_
                      refine XS.ifNo X_81.here hx rfl (hb hby d18_88) rfl (i0_eq_f hc_89) ?_
                      refine XS.aloadN X_81.here hx rfl (hb hby d18_91) rfl rfl ?_
                      refine XS.iloadN X_81.here hx rfl (hb hby d18_92) rfl ?_
                      refine XS.bipush X_81.here hx rfl (hb hby d18_93) ?_
                      refine XS.iadd X_81.here hx rfl (hb hby d18_95) rfl ?_
                      refine st_91 _ ?_
                      exact Steps.refl _
                    by_cases hc_99 : i_92 = (0 : Int32)
                    · skip
                      have C_100 : Steps p.tables e below S0 (T_91.setTop (mkF m 140 #[.val (.ref b), .val (.int (0 : Int32))] [(.int (0 : Int32))])) := by
                        refine C_98.trans ?_
                        refine XS.ifYes X_91.here hx rfl (pc0 := 99) (pc' := 139) rfl (hb hby d18_99) rfl (i0_eq_t hc_99) (by decide) (by decide) ?_
                        refine XS.iconst X_91.here hx rfl (hb hby d18_139) ?_
                        exact Steps.refl _
                      obtain ⟨fs, hr, hrun, hended, hW, hsame⟩ := X_91.leave (v := some (.int (0 : Int32))) (fun h => by rw [Bd.returns] at h; cases h)
                      refine ⟨_, _, C_100.trans (retN X_91 hx (t := .boolean) Bd.returns (by simp) (hb hby d18_140) hr), hrun, hended, _, _, rfl, ?_, ⟨_, rfl⟩, hW, hsame.mono (by decide) (by decide)⟩
                      show Q_ww_0 Z G1 G3 b k nn cs h0 n0 (some (.int (0 : Int32))) T_91.heap _
                      rw [e_97]
                      exact ⟨(0 : Int32), rfl, N_96, rfl, (own_w0 (k := 9) (by decide) (own_rF g_95 hc_99))⟩
                    · skip
                      obtain ⟨_, _, ⟨T_101, L_101, k_101, n_101⟩, -, X_101, ⟨Lc_101, hQ_101, l_101, y_101, z_101⟩, st_101⟩ := Jvm.LawKit.callS X_91 hx (y := M327) hown (mvT hZ (w37 hw)) (mvT hZ (w38 hw)) (mvT hZ (w4 hw)) (mvT hZ (w39 hw)) (by decide) (backOf (W := 0) (rm_hh_ l Z a0 hw [] G1 G3 HG h0 n0 X00 b k nn cs (10 : Int32) hp0 hl1 hla (by decide)) hZ (w39 hw) (w4 hw) (by decide) (by decide)) (g := (mkF m 107 #[.val (.ref b), .val (.int (0 : Int32))] [(.int (10 : Int32)), (.ref b)])) rfl (by rw [hml]; rfl) (argsL := [(.ref b), (.int (10 : Int32))]) (rest := []) (lenOf pd_364 rfl) rfl (by show 2 * 0 + _ ≤ _; exact Nat.le_of_eq rfl) (hb hby d18_107) (fun _ _ => ⟨rfl, e_97, (by decide : 0 + 0 ≤ _), (by decide : 0 + 0 ≤ _)⟩)
                      dsimp only [Pt.U, Pt.locs, Pt.cells, Pt.slots] at X_101 l_101 y_101 z_101 st_101 hQ_101
                      have X_101 := own_cast X_101 l_101 y_101 z_101
                      obtain ⟨i_102, rfl, N_103, e_104, g_105⟩ := hQ_101
                      have N_106 := Fr.app N_96 N_103
                      have e_107 : T_101.heap = h0 := e_104
                      have C_108 : Steps p.tables e below S0 (T_101.setTop (mkF m 110 #[.val (.ref b), .val (.int (0 : Int32))] [(.int i_102)])) := by
                        refine C_98.trans ?_
                        refine XS.ifNo X_91.here hx rfl (hb hby d18_99) rfl (i0_eq_f hc_99) ?_
                        refine XS.aloadN X_91.here hx rfl (hb hby d18_102) rfl rfl ?_
                        refine XS.iloadN X_91.here hx rfl (hb hby d18_103) rfl ?_
                        refine XS.bipush X_91.here hx rfl (hb hby d18_104) ?_
                        refine XS.iadd X_91.here hx rfl (hb hby d18_106) rfl ?_
                        refine st_101 _ ?_
                        exact Steps.refl _
                      by_cases hc_109 : i_102 = (0 : Int32)
                      · skip
                        have C_110 : Steps p.tables e below S0 (T_101.setTop (mkF m 140 #[.val (.ref b), .val (.int (0 : Int32))] [(.int (0 : Int32))])) := by
                          refine C_108.trans ?_
                          refine XS.ifYes X_101.here hx rfl (pc0 := 110) (pc' := 139) rfl (hb hby d18_110) rfl (i0_eq_t hc_109) (by decide) (by decide) ?_
                          refine XS.iconst X_101.here hx rfl (hb hby d18_139) ?_
                          exact Steps.refl _
                        obtain ⟨fs, hr, hrun, hended, hW, hsame⟩ := X_101.leave (v := some (.int (0 : Int32))) (fun h => by rw [Bd.returns] at h; cases h)
                        refine ⟨_, _, C_110.trans (retN X_101 hx (t := .boolean) Bd.returns (by simp) (hb hby d18_140) hr), hrun, hended, _, _, rfl, ?_, ⟨_, rfl⟩, hW, hsame.mono (by decide) (by decide)⟩
                        show Q_ww_0 Z G1 G3 b k nn cs h0 n0 (some (.int (0 : Int32))) T_101.heap _
                        rw [e_107]
                        exact ⟨(0 : Int32), rfl, N_106, rfl, (own_w0 (k := 10) (by decide) (own_rF g_105 hc_109))⟩
                      · skip
                        obtain ⟨_, _, ⟨T_111, L_111, k_111, n_111⟩, -, X_111, ⟨Lc_111, hQ_111, l_111, y_111, z_111⟩, st_111⟩ := Jvm.LawKit.callS X_101 hx (y := M327) hown (mvT hZ (w37 hw)) (mvT hZ (w38 hw)) (mvT hZ (w4 hw)) (mvT hZ (w39 hw)) (by decide) (backOf (W := 0) (rm_hh_ l Z a0 hw [] G1 G3 HG h0 n0 X00 b k nn cs (11 : Int32) hp0 hl1 hla (by decide)) hZ (w39 hw) (w4 hw) (by decide) (by decide)) (g := (mkF m 118 #[.val (.ref b), .val (.int (0 : Int32))] [(.int (11 : Int32)), (.ref b)])) rfl (by rw [hml]; rfl) (argsL := [(.ref b), (.int (11 : Int32))]) (rest := []) (lenOf pd_364 rfl) rfl (by show 2 * 0 + _ ≤ _; exact Nat.le_of_eq rfl) (hb hby d18_118) (fun _ _ => ⟨rfl, e_107, (by decide : 0 + 0 ≤ _), (by decide : 0 + 0 ≤ _)⟩)
                        dsimp only [Pt.U, Pt.locs, Pt.cells, Pt.slots] at X_111 l_111 y_111 z_111 st_111 hQ_111
                        have X_111 := own_cast X_111 l_111 y_111 z_111
                        obtain ⟨i_112, rfl, N_113, e_114, g_115⟩ := hQ_111
                        have N_116 := Fr.app N_106 N_113
                        have e_117 : T_111.heap = h0 := e_114
                        have C_118 : Steps p.tables e below S0 (T_111.setTop (mkF m 121 #[.val (.ref b), .val (.int (0 : Int32))] [(.int i_112)])) := by
                          refine C_108.trans ?_
                          refine XS.ifNo X_101.here hx rfl (hb hby d18_110) rfl (i0_eq_f hc_109) ?_
                          refine XS.aloadN X_101.here hx rfl (hb hby d18_113) rfl rfl ?_
                          refine XS.iloadN X_101.here hx rfl (hb hby d18_114) rfl ?_
                          refine XS.bipush X_101.here hx rfl (hb hby d18_115) ?_
                          refine XS.iadd X_101.here hx rfl (hb hby d18_117) rfl ?_
                          refine st_111 _ ?_
                          exact Steps.refl _
                        by_cases hc_119 : i_112 = (0 : Int32)
                        · skip
                          have C_120 : Steps p.tables e below S0 (T_111.setTop (mkF m 140 #[.val (.ref b), .val (.int (0 : Int32))] [(.int (0 : Int32))])) := by
                            refine C_118.trans ?_
                            refine XS.ifYes X_111.here hx rfl (pc0 := 121) (pc' := 139) rfl (hb hby d18_121) rfl (i0_eq_t hc_119) (by decide) (by decide) ?_
                            refine XS.iconst X_111.here hx rfl (hb hby d18_139) ?_
                            exact Steps.refl _
                          obtain ⟨fs, hr, hrun, hended, hW, hsame⟩ := X_111.leave (v := some (.int (0 : Int32))) (fun h => by rw [Bd.returns] at h; cases h)
                          refine ⟨_, _, C_120.trans (retN X_111 hx (t := .boolean) Bd.returns (by simp) (hb hby d18_140) hr), hrun, hended, _, _, rfl, ?_, ⟨_, rfl⟩, hW, hsame.mono (by decide) (by decide)⟩
                          show Q_ww_0 Z G1 G3 b k nn cs h0 n0 (some (.int (0 : Int32))) T_111.heap _
                          rw [e_117]
                          exact ⟨(0 : Int32), rfl, N_116, rfl, (own_w0 (k := 11) (by decide) (own_rF g_115 hc_119))⟩
                        · skip
                          obtain ⟨_, _, ⟨T_121, L_121, k_121, n_121⟩, -, X_121, ⟨Lc_121, hQ_121, l_121, y_121, z_121⟩, st_121⟩ := Jvm.LawKit.callS X_111 hx (y := M327) hown (mvT hZ (w37 hw)) (mvT hZ (w38 hw)) (mvT hZ (w4 hw)) (mvT hZ (w39 hw)) (by decide) (backOf (W := 0) (rm_hh_ l Z a0 hw [] G1 G3 HG h0 n0 X00 b k nn cs (12 : Int32) hp0 hl1 hla (by decide)) hZ (w39 hw) (w4 hw) (by decide) (by decide)) (g := (mkF m 129 #[.val (.ref b), .val (.int (0 : Int32))] [(.int (12 : Int32)), (.ref b)])) rfl (by rw [hml]; rfl) (argsL := [(.ref b), (.int (12 : Int32))]) (rest := []) (lenOf pd_364 rfl) rfl (by show 2 * 0 + _ ≤ _; exact Nat.le_of_eq rfl) (hb hby d18_129) (fun _ _ => ⟨rfl, e_117, (by decide : 0 + 0 ≤ _), (by decide : 0 + 0 ≤ _)⟩)
                          dsimp only [Pt.U, Pt.locs, Pt.cells, Pt.slots] at X_121 l_121 y_121 z_121 st_121 hQ_121
                          have X_121 := own_cast X_121 l_121 y_121 z_121
                          obtain ⟨i_122, rfl, N_123, e_124, g_125⟩ := hQ_121
                          have N_126 := Fr.app N_116 N_123
                          have e_127 : T_121.heap = h0 := e_124
                          have C_128 : Steps p.tables e below S0 (T_121.setTop (mkF m 132 #[.val (.ref b), .val (.int (0 : Int32))] [(.int i_122)])) := by
                            refine C_118.trans ?_
                            refine XS.ifNo X_111.here hx rfl (hb hby d18_121) rfl (i0_eq_f hc_119) ?_
                            refine XS.aloadN X_111.here hx rfl (hb hby d18_124) rfl rfl ?_
                            refine XS.iloadN X_111.here hx rfl (hb hby d18_125) rfl ?_
                            refine XS.bipush X_111.here hx rfl (hb hby d18_126) ?_
                            refine XS.iadd X_111.here hx rfl (hb hby d18_128) rfl ?_
                            refine st_121 _ ?_
                            exact Steps.refl _
                          by_cases hc_129 : i_122 = (0 : Int32)
                          · skip
                            have C_130 : Steps p.tables e below S0 (T_121.setTop (mkF m 140 #[.val (.ref b), .val (.int (0 : Int32))] [(.int (0 : Int32))])) := by
                              refine C_128.trans ?_
                              refine XS.ifYes X_121.here hx rfl (pc0 := 132) (pc' := 139) rfl (hb hby d18_132) rfl (i0_eq_t hc_129) (by decide) (by decide) ?_
                              refine XS.iconst X_121.here hx rfl (hb hby d18_139) ?_
                              exact Steps.refl _
                            obtain ⟨fs, hr, hrun, hended, hW, hsame⟩ := X_121.leave (v := some (.int (0 : Int32))) (fun h => by rw [Bd.returns] at h; cases h)
                            refine ⟨_, _, C_130.trans (retN X_121 hx (t := .boolean) Bd.returns (by simp) (hb hby d18_140) hr), hrun, hended, _, _, rfl, ?_, ⟨_, rfl⟩, hW, hsame.mono (by decide) (by decide)⟩
                            show Q_ww_0 Z G1 G3 b k nn cs h0 n0 (some (.int (0 : Int32))) T_121.heap _
                            rw [e_127]
                            exact ⟨(0 : Int32), rfl, N_126, rfl, (own_w0 (k := 12) (by decide) (own_rF g_125 hc_129))⟩
                          · skip
                            have C_131 : Steps p.tables e below S0 (T_121.setTop (mkF m 140 #[.val (.ref b), .val (.int (0 : Int32))] [(.int (1 : Int32))])) := by
                              refine C_128.trans ?_
                              refine XS.ifNo X_121.here hx rfl (hb hby d18_132) rfl (i0_eq_f hc_129) ?_
                              refine XS.iconst X_121.here hx rfl (hb hby d18_135) ?_
                              refine XS.goto X_121.here hx rfl (pc0 := 136) (pc' := 140) rfl (hb hby d18_136) (by decide) (by decide) ?_
                              exact Steps.refl _
                            obtain ⟨fs, hr, hrun, hended, hW, hsame⟩ := X_121.leave (v := some (.int (1 : Int32))) (fun h => by rw [Bd.returns] at h; cases h)
                            refine ⟨_, _, C_131.trans (retN X_121 hx (t := .boolean) Bd.returns (by simp) (hb hby d18_140) hr), hrun, hended, _, _, rfl, ?_, ⟨_, rfl⟩, hW, hsame.mono (by decide) (by decide)⟩
                            show Q_ww_0 Z G1 G3 b k nn cs h0 n0 (some (.int (1 : Int32))) T_121.heap _
                            rw [e_127]
                            exact ⟨(1 : Int32), rfl, N_126, rfl, (own_w1 (own_rT g_5 hc_9) (own_rT g_15 hc_19) (own_rT g_25 hc_29) (own_rT g_35 hc_39) (own_rT g_45 hc_49) (own_rT g_55 hc_59) (own_rT g_65 hc_69) (own_rT g_75 hc_79) (own_rT g_85 hc_89) (own_rT g_95 hc_99) (own_rT g_105 hc_109) (own_rT g_115 hc_119) (own_rT g_125 hc_129))⟩
abbrev R_ww_1 : Room := { frames := 2, cells := 0, slots := 0, locals := 25 }
def Q_ww_1 (Z : State) (G1 : Int32) (G3 : Value) (b : Addr) (k : ClassId) (nn : Int32) (cs : List Int32) (h0 : Heap) (n0 : Nat) (v : Option Value) (h : Heap) (L : List Loc) : Prop := (∃ rr : Int32, v = some (.int rr) ∧ Fr n0 L ∧ h = h0 ∧ (rr = own_b (own_w cs 1)))
set_option maxRecDepth 65536 in
set_option maxHeartbeats 40000000 in
theorem rm_ww_1 (l : Launch) (Z : State) (a0 : Array Value) (hw : ∀ d ∈ tables_1, d.before a0 Z = true) (ws : List Jvm.Cond) (G1 : Int32) (G3 : Value) (HG : own_G l Z a0 G1 G3) (h0 : Heap) (n0 : Nat) (X00 : Old Z n0 h0) (b : Addr) (k : ClassId) (nn : Int32) (cs : List Int32) (hp0 : Arv Z h0 b k .char nn (own_iv cs) (.int (0 : Int32))) (hl1 : cs.length = nn.toNatClampNeg) (hla : own_lat cs) :
    own_CP l Z M360 method_8_code 2 (some .boolean) ws R_ww_1 #[(.ref b), (.int (1 : Int32))] h0 (Q_ww_1 Z G1 G3 b k nn cs h0 n0) := by
  refine own_P (plainFor_of_name pn_218) ?_
  intro p e s m below meth c s₁ S0 Bd hZ hh hx hby hml hown hnm X0 e0 hS0d
  obtain ⟨O1, P1, O3f, rG3⟩ := id HG
  have N0 := Fr.nil n0
  have C0 : Steps p.tables e below S0 (s₁.setTop (mkF m 0 #[.val (.ref b), .val (.int (1 : Int32))] [])) := by rw [hS0d]; exact castTop (ef_50 m b (1 : Int32)) (Steps.refl _)
  obtain ⟨_, _, ⟨T_1, L_1, k_1, n_1⟩, -, X_1, ⟨Lc_1, hQ_1, l_1, y_1, z_1⟩, st_1⟩ := Jvm.LawKit.callS X0 hx (y := M327) hown (mvT hZ (w37 hw)) (mvT hZ (w38 hw)) (mvT hZ (w4 hw)) (mvT hZ (w39 hw)) (by decide) (backOf (W := 0) (rm_hh_ l Z a0 hw [] G1 G3 HG h0 n0 X00 b k nn cs (1 : Int32) hp0 hl1 hla (by decide)) hZ (w39 hw) (w4 hw) (by decide) (by decide)) (g := (mkF m 2 #[.val (.ref b), .val (.int (1 : Int32))] [(.int (1 : Int32)), (.ref b)])) rfl (by rw [hml]; rfl) (argsL := [(.ref b), (.int (1 : Int32))]) (rest := []) (lenOf pd_364 rfl) rfl (by show 2 * 0 + _ ≤ _; exact Nat.le_of_eq rfl) (hb hby d18_2) (fun _ _ => ⟨rfl, e0, (by decide : 0 + 0 ≤ _), (by decide : 0 + 0 ≤ _)⟩)
  dsimp only [Pt.U, Pt.locs, Pt.cells, Pt.slots] at X_1 l_1 y_1 z_1 st_1 hQ_1
  have X_1 := own_cast X_1 l_1 y_1 z_1
  obtain ⟨i_2, rfl, N_3, e_4, g_5⟩ := hQ_1
  have N_6 := Fr.app N0 N_3
  have e_7 : T_1.heap = h0 := e_4
  have C_8 : Steps p.tables e below S0 (T_1.setTop (mkF m 5 #[.val (.ref b), .val (.int (1 : Int32))] [(.int i_2)])) := by
    refine C0.trans ?_
    refine XS.aloadN X0.here hx rfl (hb hby d18_0) rfl rfl ?_
    refine XS.iloadN X0.here hx rfl (hb hby d18_1) rfl ?_
    refine st_1 _ ?_
    exact Steps.refl _
  by_cases hc_9 : i_2 = (0 : Int32)
  · skip
    have C_10 : Steps p.tables e below S0 (T_1.setTop (mkF m 140 #[.val (.ref b), .val (.int (1 : Int32))] [(.int (0 : Int32))])) := by
      refine C_8.trans ?_
      refine XS.ifYes X_1.here hx rfl (pc0 := 5) (pc' := 139) rfl (hb hby d18_5) rfl (i0_eq_t hc_9) (by decide) (by decide) ?_
      refine XS.iconst X_1.here hx rfl (hb hby d18_139) ?_
      exact Steps.refl _
    obtain ⟨fs, hr, hrun, hended, hW, hsame⟩ := X_1.leave (v := some (.int (0 : Int32))) (fun h => by rw [Bd.returns] at h; cases h)
    refine ⟨_, _, C_10.trans (retN X_1 hx (t := .boolean) Bd.returns (by simp) (hb hby d18_140) hr), hrun, hended, _, _, rfl, ?_, ⟨_, rfl⟩, hW, hsame.mono (by decide) (by decide)⟩
    show Q_ww_1 Z G1 G3 b k nn cs h0 n0 (some (.int (0 : Int32))) T_1.heap _
    rw [e_7]
    exact ⟨(0 : Int32), rfl, N_6, rfl, (own_w0 (k := 0) (by decide) (own_rF g_5 hc_9))⟩
  · skip
    obtain ⟨_, _, ⟨T_11, L_11, k_11, n_11⟩, -, X_11, ⟨Lc_11, hQ_11, l_11, y_11, z_11⟩, st_11⟩ := Jvm.LawKit.callS X_1 hx (y := M327) hown (mvT hZ (w37 hw)) (mvT hZ (w38 hw)) (mvT hZ (w4 hw)) (mvT hZ (w39 hw)) (by decide) (backOf (W := 0) (rm_hh_ l Z a0 hw [] G1 G3 HG h0 n0 X00 b k nn cs (2 : Int32) hp0 hl1 hla (by decide)) hZ (w39 hw) (w4 hw) (by decide) (by decide)) (g := (mkF m 12 #[.val (.ref b), .val (.int (1 : Int32))] [(.int (2 : Int32)), (.ref b)])) rfl (by rw [hml]; rfl) (argsL := [(.ref b), (.int (2 : Int32))]) (rest := []) (lenOf pd_364 rfl) rfl (by show 2 * 0 + _ ≤ _; exact Nat.le_of_eq rfl) (hb hby d18_12) (fun _ _ => ⟨rfl, e_7, (by decide : 0 + 0 ≤ _), (by decide : 0 + 0 ≤ _)⟩)
    dsimp only [Pt.U, Pt.locs, Pt.cells, Pt.slots] at X_11 l_11 y_11 z_11 st_11 hQ_11
    have X_11 := own_cast X_11 l_11 y_11 z_11
    obtain ⟨i_12, rfl, N_13, e_14, g_15⟩ := hQ_11
    have N_16 := Fr.app N_6 N_13
    have e_17 : T_11.heap = h0 := e_14
    have C_18 : Steps p.tables e below S0 (T_11.setTop (mkF m 15 #[.val (.ref b), .val (.int (1 : Int32))] [(.int i_12)])) := by
      refine C_8.trans ?_
      refine XS.ifNo X_1.here hx rfl (hb hby d18_5) rfl (i0_eq_f hc_9) ?_
      refine XS.aloadN X_1.here hx rfl (hb hby d18_8) rfl rfl ?_
      refine XS.iloadN X_1.here hx rfl (hb hby d18_9) rfl ?_
      refine XS.iconst X_1.here hx rfl (hb hby d18_10) ?_
      refine XS.iadd X_1.here hx rfl (hb hby d18_11) rfl ?_
      refine st_11 _ ?_
      exact Steps.refl _
    by_cases hc_19 : i_12 = (0 : Int32)
    · skip
      have C_20 : Steps p.tables e below S0 (T_11.setTop (mkF m 140 #[.val (.ref b), .val (.int (1 : Int32))] [(.int (0 : Int32))])) := by
        refine C_18.trans ?_
        refine XS.ifYes X_11.here hx rfl (pc0 := 15) (pc' := 139) rfl (hb hby d18_15) rfl (i0_eq_t hc_19) (by decide) (by decide) ?_
        refine XS.iconst X_11.here hx rfl (hb hby d18_139) ?_
        exact Steps.refl _
      obtain ⟨fs, hr, hrun, hended, hW, hsame⟩ := X_11.leave (v := some (.int (0 : Int32))) (fun h => by rw [Bd.returns] at h; cases h)
      refine ⟨_, _, C_20.trans (retN X_11 hx (t := .boolean) Bd.returns (by simp) (hb hby d18_140) hr), hrun, hended, _, _, rfl, ?_, ⟨_, rfl⟩, hW, hsame.mono (by decide) (by decide)⟩
      show Q_ww_1 Z G1 G3 b k nn cs h0 n0 (some (.int (0 : Int32))) T_11.heap _
      rw [e_17]
      exact ⟨(0 : Int32), rfl, N_16, rfl, (own_w0 (k := 1) (by decide) (own_rF g_15 hc_19))⟩
    · skip
      obtain ⟨_, _, ⟨T_21, L_21, k_21, n_21⟩, -, X_21, ⟨Lc_21, hQ_21, l_21, y_21, z_21⟩, st_21⟩ := Jvm.LawKit.callS X_11 hx (y := M327) hown (mvT hZ (w37 hw)) (mvT hZ (w38 hw)) (mvT hZ (w4 hw)) (mvT hZ (w39 hw)) (by decide) (backOf (W := 0) (rm_hh_ l Z a0 hw [] G1 G3 HG h0 n0 X00 b k nn cs (3 : Int32) hp0 hl1 hla (by decide)) hZ (w39 hw) (w4 hw) (by decide) (by decide)) (g := (mkF m 22 #[.val (.ref b), .val (.int (1 : Int32))] [(.int (3 : Int32)), (.ref b)])) rfl (by rw [hml]; rfl) (argsL := [(.ref b), (.int (3 : Int32))]) (rest := []) (lenOf pd_364 rfl) rfl (by show 2 * 0 + _ ≤ _; exact Nat.le_of_eq rfl) (hb hby d18_22) (fun _ _ => ⟨rfl, e_17, (by decide : 0 + 0 ≤ _), (by decide : 0 + 0 ≤ _)⟩)
      dsimp only [Pt.U, Pt.locs, Pt.cells, Pt.slots] at X_21 l_21 y_21 z_21 st_21 hQ_21
      have X_21 := own_cast X_21 l_21 y_21 z_21
      obtain ⟨i_22, rfl, N_23, e_24, g_25⟩ := hQ_21
      have N_26 := Fr.app N_16 N_23
      have e_27 : T_21.heap = h0 := e_24
      have C_28 : Steps p.tables e below S0 (T_21.setTop (mkF m 25 #[.val (.ref b), .val (.int (1 : Int32))] [(.int i_22)])) := by
        refine C_18.trans ?_
        refine XS.ifNo X_11.here hx rfl (hb hby d18_15) rfl (i0_eq_f hc_19) ?_
        refine XS.aloadN X_11.here hx rfl (hb hby d18_18) rfl rfl ?_
        refine XS.iloadN X_11.here hx rfl (hb hby d18_19) rfl ?_
        refine XS.iconst X_11.here hx rfl (hb hby d18_20) ?_
        refine XS.iadd X_11.here hx rfl (hb hby d18_21) rfl ?_
        refine st_21 _ ?_
        exact Steps.refl _
      by_cases hc_29 : i_22 = (0 : Int32)
      · skip
        have C_30 : Steps p.tables e below S0 (T_21.setTop (mkF m 140 #[.val (.ref b), .val (.int (1 : Int32))] [(.int (0 : Int32))])) := by
          refine C_28.trans ?_
          refine XS.ifYes X_21.here hx rfl (pc0 := 25) (pc' := 139) rfl (hb hby d18_25) rfl (i0_eq_t hc_29) (by decide) (by decide) ?_
          refine XS.iconst X_21.here hx rfl (hb hby d18_139) ?_
          exact Steps.refl _
        obtain ⟨fs, hr, hrun, hended, hW, hsame⟩ := X_21.leave (v := some (.int (0 : Int32))) (fun h => by rw [Bd.returns] at h; cases h)
        refine ⟨_, _, C_30.trans (retN X_21 hx (t := .boolean) Bd.returns (by simp) (hb hby d18_140) hr), hrun, hended, _, _, rfl, ?_, ⟨_, rfl⟩, hW, hsame.mono (by decide) (by decide)⟩
        show Q_ww_1 Z G1 G3 b k nn cs h0 n0 (some (.int (0 : Int32))) T_21.heap _
        rw [e_27]
        exact ⟨(0 : Int32), rfl, N_26, rfl, (own_w0 (k := 2) (by decide) (own_rF g_25 hc_29))⟩
      · skip
        obtain ⟨_, _, ⟨T_31, L_31, k_31, n_31⟩, -, X_31, ⟨Lc_31, hQ_31, l_31, y_31, z_31⟩, st_31⟩ := Jvm.LawKit.callS X_21 hx (y := M327) hown (mvT hZ (w37 hw)) (mvT hZ (w38 hw)) (mvT hZ (w4 hw)) (mvT hZ (w39 hw)) (by decide) (backOf (W := 0) (rm_hh_ l Z a0 hw [] G1 G3 HG h0 n0 X00 b k nn cs (4 : Int32) hp0 hl1 hla (by decide)) hZ (w39 hw) (w4 hw) (by decide) (by decide)) (g := (mkF m 32 #[.val (.ref b), .val (.int (1 : Int32))] [(.int (4 : Int32)), (.ref b)])) rfl (by rw [hml]; rfl) (argsL := [(.ref b), (.int (4 : Int32))]) (rest := []) (lenOf pd_364 rfl) rfl (by show 2 * 0 + _ ≤ _; exact Nat.le_of_eq rfl) (hb hby d18_32) (fun _ _ => ⟨rfl, e_27, (by decide : 0 + 0 ≤ _), (by decide : 0 + 0 ≤ _)⟩)
        dsimp only [Pt.U, Pt.locs, Pt.cells, Pt.slots] at X_31 l_31 y_31 z_31 st_31 hQ_31
        have X_31 := own_cast X_31 l_31 y_31 z_31
        obtain ⟨i_32, rfl, N_33, e_34, g_35⟩ := hQ_31
        have N_36 := Fr.app N_26 N_33
        have e_37 : T_31.heap = h0 := e_34
        have C_38 : Steps p.tables e below S0 (T_31.setTop (mkF m 35 #[.val (.ref b), .val (.int (1 : Int32))] [(.int i_32)])) := by
          refine C_28.trans ?_
          refine XS.ifNo X_21.here hx rfl (hb hby d18_25) rfl (i0_eq_f hc_29) ?_
          refine XS.aloadN X_21.here hx rfl (hb hby d18_28) rfl rfl ?_
          refine XS.iloadN X_21.here hx rfl (hb hby d18_29) rfl ?_
          refine XS.iconst X_21.here hx rfl (hb hby d18_30) ?_
          refine XS.iadd X_21.here hx rfl (hb hby d18_31) rfl ?_
          refine st_31 _ ?_
          exact Steps.refl _
        by_cases hc_39 : i_32 = (0 : Int32)
        · skip
          have C_40 : Steps p.tables e below S0 (T_31.setTop (mkF m 140 #[.val (.ref b), .val (.int (1 : Int32))] [(.int (0 : Int32))])) := by
            refine C_38.trans ?_
            refine XS.ifYes X_31.here hx rfl (pc0 := 35) (pc' := 139) rfl (hb hby d18_35) rfl (i0_eq_t hc_39) (by decide) (by decide) ?_
            refine XS.iconst X_31.here hx rfl (hb hby d18_139) ?_
            exact Steps.refl _
          obtain ⟨fs, hr, hrun, hended, hW, hsame⟩ := X_31.leave (v := some (.int (0 : Int32))) (fun h => by rw [Bd.returns] at h; cases h)
          refine ⟨_, _, C_40.trans (retN X_31 hx (t := .boolean) Bd.returns (by simp) (hb hby d18_140) hr), hrun, hended, _, _, rfl, ?_, ⟨_, rfl⟩, hW, hsame.mono (by decide) (by decide)⟩
          show Q_ww_1 Z G1 G3 b k nn cs h0 n0 (some (.int (0 : Int32))) T_31.heap _
          rw [e_37]
          exact ⟨(0 : Int32), rfl, N_36, rfl, (own_w0 (k := 3) (by decide) (own_rF g_35 hc_39))⟩
        · skip
          obtain ⟨_, _, ⟨T_41, L_41, k_41, n_41⟩, -, X_41, ⟨Lc_41, hQ_41, l_41, y_41, z_41⟩, st_41⟩ := Jvm.LawKit.callS X_31 hx (y := M327) hown (mvT hZ (w37 hw)) (mvT hZ (w38 hw)) (mvT hZ (w4 hw)) (mvT hZ (w39 hw)) (by decide) (backOf (W := 0) (rm_hh_ l Z a0 hw [] G1 G3 HG h0 n0 X00 b k nn cs (5 : Int32) hp0 hl1 hla (by decide)) hZ (w39 hw) (w4 hw) (by decide) (by decide)) (g := (mkF m 42 #[.val (.ref b), .val (.int (1 : Int32))] [(.int (5 : Int32)), (.ref b)])) rfl (by rw [hml]; rfl) (argsL := [(.ref b), (.int (5 : Int32))]) (rest := []) (lenOf pd_364 rfl) rfl (by show 2 * 0 + _ ≤ _; exact Nat.le_of_eq rfl) (hb hby d18_42) (fun _ _ => ⟨rfl, e_37, (by decide : 0 + 0 ≤ _), (by decide : 0 + 0 ≤ _)⟩)
          dsimp only [Pt.U, Pt.locs, Pt.cells, Pt.slots] at X_41 l_41 y_41 z_41 st_41 hQ_41
          have X_41 := own_cast X_41 l_41 y_41 z_41
          obtain ⟨i_42, rfl, N_43, e_44, g_45⟩ := hQ_41
          have N_46 := Fr.app N_36 N_43
          have e_47 : T_41.heap = h0 := e_44
          have C_48 : Steps p.tables e below S0 (T_41.setTop (mkF m 45 #[.val (.ref b), .val (.int (1 : Int32))] [(.int i_42)])) := by
            refine C_38.trans ?_
            refine XS.ifNo X_31.here hx rfl (hb hby d18_35) rfl (i0_eq_f hc_39) ?_
            refine XS.aloadN X_31.here hx rfl (hb hby d18_38) rfl rfl ?_
            refine XS.iloadN X_31.here hx rfl (hb hby d18_39) rfl ?_
            refine XS.iconst X_31.here hx rfl (hb hby d18_40) ?_
            refine XS.iadd X_31.here hx rfl (hb hby d18_41) rfl ?_
            refine st_41 _ ?_
            exact Steps.refl _
          by_cases hc_49 : i_42 = (0 : Int32)
          · skip
            have C_50 : Steps p.tables e below S0 (T_41.setTop (mkF m 140 #[.val (.ref b), .val (.int (1 : Int32))] [(.int (0 : Int32))])) := by
              refine C_48.trans ?_
              refine XS.ifYes X_41.here hx rfl (pc0 := 45) (pc' := 139) rfl (hb hby d18_45) rfl (i0_eq_t hc_49) (by decide) (by decide) ?_
              refine XS.iconst X_41.here hx rfl (hb hby d18_139) ?_
              exact Steps.refl _
            obtain ⟨fs, hr, hrun, hended, hW, hsame⟩ := X_41.leave (v := some (.int (0 : Int32))) (fun h => by rw [Bd.returns] at h; cases h)
            refine ⟨_, _, C_50.trans (retN X_41 hx (t := .boolean) Bd.returns (by simp) (hb hby d18_140) hr), hrun, hended, _, _, rfl, ?_, ⟨_, rfl⟩, hW, hsame.mono (by decide) (by decide)⟩
            show Q_ww_1 Z G1 G3 b k nn cs h0 n0 (some (.int (0 : Int32))) T_41.heap _
            rw [e_47]
            exact ⟨(0 : Int32), rfl, N_46, rfl, (own_w0 (k := 4) (by decide) (own_rF g_45 hc_49))⟩
          · skip
            obtain ⟨_, _, ⟨T_51, L_51, k_51, n_51⟩, -, X_51, ⟨Lc_51, hQ_51, l_51, y_51, z_51⟩, st_51⟩ := Jvm.LawKit.callS X_41 hx (y := M327) hown (mvT hZ (w37 hw)) (mvT hZ (w38 hw)) (mvT hZ (w4 hw)) (mvT hZ (w39 hw)) (by decide) (backOf (W := 0) (rm_hh_ l Z a0 hw [] G1 G3 HG h0 n0 X00 b k nn cs (6 : Int32) hp0 hl1 hla (by decide)) hZ (w39 hw) (w4 hw) (by decide) (by decide)) (g := (mkF m 52 #[.val (.ref b), .val (.int (1 : Int32))] [(.int (6 : Int32)), (.ref b)])) rfl (by rw [hml]; rfl) (argsL := [(.ref b), (.int (6 : Int32))]) (rest := []) (lenOf pd_364 rfl) rfl (by show 2 * 0 + _ ≤ _; exact Nat.le_of_eq rfl) (hb hby d18_52) (fun _ _ => ⟨rfl, e_47, (by decide : 0 + 0 ≤ _), (by decide : 0 + 0 ≤ _)⟩)
            dsimp only [Pt.U, Pt.locs, Pt.cells, Pt.slots] at X_51 l_51 y_51 z_51 st_51 hQ_51
            have X_51 := own_cast X_51 l_51 y_51 z_51
            obtain ⟨i_52, rfl, N_53, e_54, g_55⟩ := hQ_51
            have N_56 := Fr.app N_46 N_53
            have e_57 : T_51.heap = h0 := e_54
            have C_58 : Steps p.tables e below S0 (T_51.setTop (mkF m 55 #[.val (.ref b), .val (.int (1 : Int32))] [(.int i_52)])) := by
              refine C_48.trans ?_
              refine XS.ifNo X_41.here hx rfl (hb hby d18_45) rfl (i0_eq_f hc_49) ?_
              refine XS.aloadN X_41.here hx rfl (hb hby d18_48) rfl rfl ?_
              refine XS.iloadN X_41.here hx rfl (hb hby d18_49) rfl ?_
              refine XS.iconst X_41.here hx rfl (hb hby d18_50) ?_
              refine XS.iadd X_41.here hx rfl (hb hby d18_51) rfl ?_
              refine st_51 _ ?_
              exact Steps.refl _
            by_cases hc_59 : i_52 = (0 : Int32)
            · skip
              have C_60 : Steps p.tables e below S0 (T_51.setTop (mkF m 140 #[.val (.ref b), .val (.int (1 : Int32))] [(.int (0 : Int32))])) := by
                refine C_58.trans ?_
                refine XS.ifYes X_51.here hx rfl (pc0 := 55) (pc' := 139) rfl (hb hby d18_55) rfl (i0_eq_t hc_59) (by decide) (by decide) ?_
                refine XS.iconst X_51.here hx rfl (hb hby d18_139) ?_
                exact Steps.refl _
              obtain ⟨fs, hr, hrun, hended, hW, hsame⟩ := X_51.leave (v := some (.int (0 : Int32))) (fun h => by rw [Bd.returns] at h; cases h)
              refine ⟨_, _, C_60.trans (retN X_51 hx (t := .boolean) Bd.returns (by simp) (hb hby d18_140) hr), hrun, hended, _, _, rfl, ?_, ⟨_, rfl⟩, hW, hsame.mono (by decide) (by decide)⟩
              show Q_ww_1 Z G1 G3 b k nn cs h0 n0 (some (.int (0 : Int32))) T_51.heap _
              rw [e_57]
              exact ⟨(0 : Int32), rfl, N_56, rfl, (own_w0 (k := 5) (by decide) (own_rF g_55 hc_59))⟩
            · skip
              obtain ⟨_, _, ⟨T_61, L_61, k_61, n_61⟩, -, X_61, ⟨Lc_61, hQ_61, l_61, y_61, z_61⟩, st_61⟩ := Jvm.LawKit.callS X_51 hx (y := M327) hown (mvT hZ (w37 hw)) (mvT hZ (w38 hw)) (mvT hZ (w4 hw)) (mvT hZ (w39 hw)) (by decide) (backOf (W := 0) (rm_hh_ l Z a0 hw [] G1 G3 HG h0 n0 X00 b k nn cs (7 : Int32) hp0 hl1 hla (by decide)) hZ (w39 hw) (w4 hw) (by decide) (by decide)) (g := (mkF m 63 #[.val (.ref b), .val (.int (1 : Int32))] [(.int (7 : Int32)), (.ref b)])) rfl (by rw [hml]; rfl) (argsL := [(.ref b), (.int (7 : Int32))]) (rest := []) (lenOf pd_364 rfl) rfl (by show 2 * 0 + _ ≤ _; exact Nat.le_of_eq rfl) (hb hby d18_63) (fun _ _ => ⟨rfl, e_57, (by decide : 0 + 0 ≤ _), (by decide : 0 + 0 ≤ _)⟩)
              dsimp only [Pt.U, Pt.locs, Pt.cells, Pt.slots] at X_61 l_61 y_61 z_61 st_61 hQ_61
              have X_61 := own_cast X_61 l_61 y_61 z_61
              obtain ⟨i_62, rfl, N_63, e_64, g_65⟩ := hQ_61
              have N_66 := Fr.app N_56 N_63
              have e_67 : T_61.heap = h0 := e_64
              have C_68 : Steps p.tables e below S0 (T_61.setTop (mkF m 66 #[.val (.ref b), .val (.int (1 : Int32))] [(.int i_62)])) := by
                refine C_58.trans ?_
                refine XS.ifNo X_51.here hx rfl (hb hby d18_55) rfl (i0_eq_f hc_59) ?_
                refine XS.aloadN X_51.here hx rfl (hb hby d18_58) rfl rfl ?_
                refine XS.iloadN X_51.here hx rfl (hb hby d18_59) rfl ?_
                refine XS.bipush X_51.here hx rfl (hb hby d18_60) ?_
                refine XS.iadd X_51.here hx rfl (hb hby d18_62) rfl ?_
                refine st_61 _ ?_
                exact Steps.refl _
              by_cases hc_69 : i_62 = (0 : Int32)
              · skip
                have C_70 : Steps p.tables e below S0 (T_61.setTop (mkF m 140 #[.val (.ref b), .val (.int (1 : Int32))] [(.int (0 : Int32))])) := by
                  refine C_68.trans ?_
                  refine XS.ifYes X_61.here hx rfl (pc0 := 66) (pc' := 139) rfl (hb hby d18_66) rfl (i0_eq_t hc_69) (by decide) (by decide) ?_
                  refine XS.iconst X_61.here hx rfl (hb hby d18_139) ?_
                  exact Steps.refl _
                obtain ⟨fs, hr, hrun, hended, hW, hsame⟩ := X_61.leave (v := some (.int (0 : Int32))) (fun h => by rw [Bd.returns] at h; cases h)
                refine ⟨_, _, C_70.trans (retN X_61 hx (t := .boolean) Bd.returns (by simp) (hb hby d18_140) hr), hrun, hended, _, _, rfl, ?_, ⟨_, rfl⟩, hW, hsame.mono (by decide) (by decide)⟩
                show Q_ww_1 Z G1 G3 b k nn cs h0 n0 (some (.int (0 : Int32))) T_61.heap _
                rw [e_67]
                exact ⟨(0 : Int32), rfl, N_66, rfl, (own_w0 (k := 6) (by decide) (own_rF g_65 hc_69))⟩
              · skip
                obtain ⟨_, _, ⟨T_71, L_71, k_71, n_71⟩, -, X_71, ⟨Lc_71, hQ_71, l_71, y_71, z_71⟩, st_71⟩ := Jvm.LawKit.callS X_61 hx (y := M327) hown (mvT hZ (w37 hw)) (mvT hZ (w38 hw)) (mvT hZ (w4 hw)) (mvT hZ (w39 hw)) (by decide) (backOf (W := 0) (rm_hh_ l Z a0 hw [] G1 G3 HG h0 n0 X00 b k nn cs (8 : Int32) hp0 hl1 hla (by decide)) hZ (w39 hw) (w4 hw) (by decide) (by decide)) (g := (mkF m 74 #[.val (.ref b), .val (.int (1 : Int32))] [(.int (8 : Int32)), (.ref b)])) rfl (by rw [hml]; rfl) (argsL := [(.ref b), (.int (8 : Int32))]) (rest := []) (lenOf pd_364 rfl) rfl (by show 2 * 0 + _ ≤ _; exact Nat.le_of_eq rfl) (hb hby d18_74) (fun _ _ => ⟨rfl, e_67, (by decide : 0 + 0 ≤ _), (by decide : 0 + 0 ≤ _)⟩)
                dsimp only [Pt.U, Pt.locs, Pt.cells, Pt.slots] at X_71 l_71 y_71 z_71 st_71 hQ_71
                have X_71 := own_cast X_71 l_71 y_71 z_71
                obtain ⟨i_72, rfl, N_73, e_74, g_75⟩ := hQ_71
                have N_76 := Fr.app N_66 N_73
                have e_77 : T_71.heap = h0 := e_74
                have C_78 : Steps p.tables e below S0 (T_71.setTop (mkF m 77 #[.val (.ref b), .val (.int (1 : Int32))] [(.int i_72)])) := by
                  refine C_68.trans ?_
                  refine XS.ifNo X_61.here hx rfl (hb hby d18_66) rfl (i0_eq_f hc_69) ?_
                  refine XS.aloadN X_61.here hx rfl (hb hby d18_69) rfl rfl ?_
                  refine XS.iloadN X_61.here hx rfl (hb hby d18_70) rfl ?_
                  refine XS.bipush X_61.here hx rfl (hb hby d18_71) ?_
                  refine XS.iadd X_61.here hx rfl (hb hby d18_73) rfl ?_
                  refine st_71 _ ?_
                  exact Steps.refl _
                by_cases hc_79 : i_72 = (0 : Int32)
                · skip
                  have C_80 : Steps p.tables e below S0 (T_71.setTop (mkF m 140 #[.val (.ref b), .val (.int (1 : Int32))] [(.int (0 : Int32))])) := by
                    refine C_78.trans ?_
                    refine XS.ifYes X_71.here hx rfl (pc0 := 77) (pc' := 139) rfl (hb hby d18_77) rfl (i0_eq_t hc_79) (by decide) (by decide) ?_
                    refine XS.iconst X_71.here hx rfl (hb hby d18_139) ?_
                    exact Steps.refl _
                  obtain ⟨fs, hr, hrun, hended, hW, hsame⟩ := X_71.leave (v := some (.int (0 : Int32))) (fun h => by rw [Bd.returns] at h; cases h)
                  refine ⟨_, _, C_80.trans (retN X_71 hx (t := .boolean) Bd.returns (by simp) (hb hby d18_140) hr), hrun, hended, _, _, rfl, ?_, ⟨_, rfl⟩, hW, hsame.mono (by decide) (by decide)⟩
                  show Q_ww_1 Z G1 G3 b k nn cs h0 n0 (some (.int (0 : Int32))) T_71.heap _
                  rw [e_77]
                  exact ⟨(0 : Int32), rfl, N_76, rfl, (own_w0 (k := 7) (by decide) (own_rF g_75 hc_79))⟩
                · skip
                  obtain ⟨_, _, ⟨T_81, L_81, k_81, n_81⟩, -, X_81, ⟨Lc_81, hQ_81, l_81, y_81, z_81⟩, st_81⟩ := Jvm.LawKit.callS X_71 hx (y := M327) hown (mvT hZ (w37 hw)) (mvT hZ (w38 hw)) (mvT hZ (w4 hw)) (mvT hZ (w39 hw)) (by decide) (backOf (W := 0) (rm_hh_ l Z a0 hw [] G1 G3 HG h0 n0 X00 b k nn cs (9 : Int32) hp0 hl1 hla (by decide)) hZ (w39 hw) (w4 hw) (by decide) (by decide)) (g := (mkF m 85 #[.val (.ref b), .val (.int (1 : Int32))] [(.int (9 : Int32)), (.ref b)])) rfl (by rw [hml]; rfl) (argsL := [(.ref b), (.int (9 : Int32))]) (rest := []) (lenOf pd_364 rfl) rfl (by show 2 * 0 + _ ≤ _; exact Nat.le_of_eq rfl) (hb hby d18_85) (fun _ _ => ⟨rfl, e_77, (by decide : 0 + 0 ≤ _), (by decide : 0 + 0 ≤ _)⟩)
                  dsimp only [Pt.U, Pt.locs, Pt.cells, Pt.slots] at X_81 l_81 y_81 z_81 st_81 hQ_81
                  have X_81 := own_cast X_81 l_81 y_81 z_81
                  obtain ⟨i_82, rfl, N_83, e_84, g_85⟩ := hQ_81
                  have N_86 := Fr.app N_76 N_83
                  have e_87 : T_81.heap = h0 := e_84
                  have C_88 : Steps p.tables e below S0 (T_81.setTop (mkF m 88 #[.val (.ref b), .val (.int (1 : Int32))] [(.int i_82)])) := by
                    refine C_78.trans ?_
                    refine XS.ifNo X_71.here hx rfl (hb hby d18_77) rfl (i0_eq_f hc_79) ?_
                    refine XS.aloadN X_71.here hx rfl (hb hby d18_80) rfl rfl ?_
                    refine XS.iloadN X_71.here hx rfl (hb hby d18_81) rfl ?_
                    refine XS.bipush X_71.here hx rfl (hb hby d18_82) ?_
                    refine XS.iadd X_71.here hx rfl (hb hby d18_84) rfl ?_
                    refine st_81 _ ?_
                    exact Steps.refl _
                  by_cases hc_89 : i_82 = (0 : Int32)
                  · skip
                    have C_90 : Steps p.tables e below S0 (T_81.setTop (mkF m 140 #[.val (.ref b), .val (.int (1 : Int32))] [(.int (0 : Int32))])) := by
                      refine C_88.trans ?_
                      refine XS.ifYes X_81.here hx rfl (pc0 := 88) (pc' := 139) rfl (hb hby d18_88) rfl (i0_eq_t hc_89) (by decide) (by decide) ?_
                      refine XS.iconst X_81.here hx rfl (hb hby d18_139) ?_
                      exact Steps.refl _
                    obtain ⟨fs, hr, hrun, hended, hW, hsame⟩ := X_81.leave (v := some (.int (0 : Int32))) (fun h => by rw [Bd.returns] at h; cases h)
                    refine ⟨_, _, C_90.trans (retN X_81 hx (t := .boolean) Bd.returns (by simp) (hb hby d18_140) hr), hrun, hended, _, _, rfl, ?_, ⟨_, rfl⟩, hW, hsame.mono (by decide) (by decide)⟩
                    show Q_ww_1 Z G1 G3 b k nn cs h0 n0 (some (.int (0 : Int32))) T_81.heap _
                    rw [e_87]
                    exact ⟨(0 : Int32), rfl, N_86, rfl, (own_w0 (k := 8) (by decide) (own_rF g_85 hc_89))⟩
                  · skip
                    obtain ⟨_, _, ⟨T_91, L_91, k_91, n_91⟩, -, X_91, ⟨Lc_91, hQ_91, l_91, y_91, z_91⟩, st_91⟩ := Jvm.LawKit.callS X_81 hx (y := M327) hown (mvT hZ (w37 hw)) (mvT hZ (w38 hw)) (mvT hZ (w4 hw)) (mvT hZ (w39 hw)) (by decide) (backOf (W := 0) (rm_hh_ l Z a0 hw [] G1 G3 HG h0 n0 X00 b k nn cs (10 : Int32) hp0 hl1 hla (by decide)) hZ (w39 hw) (w4 hw) (by decide) (by decide)) (g := (mkF m 96 #[.val (.ref b), .val (.int (1 : Int32))] [(.int (10 : Int32)), (.ref b)])) rfl (by rw [hml]; rfl) (argsL := [(.ref b), (.int (10 : Int32))]) (rest := []) (lenOf pd_364 rfl) rfl (by show 2 * 0 + _ ≤ _; exact Nat.le_of_eq rfl) (hb hby d18_96) (fun _ _ => ⟨rfl, e_87, (by decide : 0 + 0 ≤ _), (by decide : 0 + 0 ≤ _)⟩)
                    dsimp only [Pt.U, Pt.locs, Pt.cells, Pt.slots] at X_91 l_91 y_91 z_91 st_91 hQ_91
                    have X_91 := own_cast X_91 l_91 y_91 z_91
                    obtain ⟨i_92, rfl, N_93, e_94, g_95⟩ := hQ_91
                    have N_96 := Fr.app N_86 N_93
                    have e_97 : T_91.heap = h0 := e_94
                    have C_98 : Steps p.tables e below S0 (T_91.setTop (mkF m 99 #[.val (.ref b), .val (.int (1 : Int32))] [(.int i_92)])) := by
                      refine C_88.trans ?_
                      refine XS.ifNo X_81.here hx rfl (hb hby d18_88) rfl (i0_eq_f hc_89) ?_
                      refine XS.aloadN X_81.here hx rfl (hb hby d18_91) rfl rfl ?_
                      refine XS.iloadN X_81.here hx rfl (hb hby d18_92) rfl ?_
                      refine XS.bipush X_81.here hx rfl (hb hby d18_93) ?_
                      refine XS.iadd X_81.here hx rfl (hb hby d18_95) rfl ?_
                      refine st_91 _ ?_
                      exact Steps.refl _
                    by_cases hc_99 : i_92 = (0 : Int32)
                    · skip
                      have C_100 : Steps p.tables e below S0 (T_91.setTop (mkF m 140 #[.val (.ref b), .val (.int (1 : Int32))] [(.int (0 : Int32))])) := by
                        refine C_98.trans ?_
                        refine XS.ifYes X_91.here hx rfl (pc0 := 99) (pc' := 139) rfl (hb hby d18_99) rfl (i0_eq_t hc_99) (by decide) (by decide) ?_
                        refine XS.iconst X_91.here hx rfl (hb hby d18_139) ?_
                        exact Steps.refl _
                      obtain ⟨fs, hr, hrun, hended, hW, hsame⟩ := X_91.leave (v := some (.int (0 : Int32))) (fun h => by rw [Bd.returns] at h; cases h)
                      refine ⟨_, _, C_100.trans (retN X_91 hx (t := .boolean) Bd.returns (by simp) (hb hby d18_140) hr), hrun, hended, _, _, rfl, ?_, ⟨_, rfl⟩, hW, hsame.mono (by decide) (by decide)⟩
                      show Q_ww_1 Z G1 G3 b k nn cs h0 n0 (some (.int (0 : Int32))) T_91.heap _
                      rw [e_97]
                      exact ⟨(0 : Int32), rfl, N_96, rfl, (own_w0 (k := 9) (by decide) (own_rF g_95 hc_99))⟩
                    · skip
                      obtain ⟨_, _, ⟨T_101, L_101, k_101, n_101⟩, -, X_101, ⟨Lc_101, hQ_101, l_101, y_101, z_101⟩, st_101⟩ := Jvm.LawKit.callS X_91 hx (y := M327) hown (mvT hZ (w37 hw)) (mvT hZ (w38 hw)) (mvT hZ (w4 hw)) (mvT hZ (w39 hw)) (by decide) (backOf (W := 0) (rm_hh_ l Z a0 hw [] G1 G3 HG h0 n0 X00 b k nn cs (11 : Int32) hp0 hl1 hla (by decide)) hZ (w39 hw) (w4 hw) (by decide) (by decide)) (g := (mkF m 107 #[.val (.ref b), .val (.int (1 : Int32))] [(.int (11 : Int32)), (.ref b)])) rfl (by rw [hml]; rfl) (argsL := [(.ref b), (.int (11 : Int32))]) (rest := []) (lenOf pd_364 rfl) rfl (by show 2 * 0 + _ ≤ _; exact Nat.le_of_eq rfl) (hb hby d18_107) (fun _ _ => ⟨rfl, e_97, (by decide : 0 + 0 ≤ _), (by decide : 0 + 0 ≤ _)⟩)
                      dsimp only [Pt.U, Pt.locs, Pt.cells, Pt.slots] at X_101 l_101 y_101 z_101 st_101 hQ_101
                      have X_101 := own_cast X_101 l_101 y_101 z_101
                      obtain ⟨i_102, rfl, N_103, e_104, g_105⟩ := hQ_101
                      have N_106 := Fr.app N_96 N_103
                      have e_107 : T_101.heap = h0 := e_104
                      have C_108 : Steps p.tables e below S0 (T_101.setTop (mkF m 110 #[.val (.ref b), .val (.int (1 : Int32))] [(.int i_102)])) := by
                        refine C_98.trans ?_
                        refine XS.ifNo X_91.here hx rfl (hb hby d18_99) rfl (i0_eq_f hc_99) ?_
                        refine XS.aloadN X_91.here hx rfl (hb hby d18_102) rfl rfl ?_
                        refine XS.iloadN X_91.here hx rfl (hb hby d18_103) rfl ?_
                        refine XS.bipush X_91.here hx rfl (hb hby d18_104) ?_
                        refine XS.iadd X_91.here hx rfl (hb hby d18_106) rfl ?_
                        refine st_101 _ ?_
                        exact Steps.refl _
                      by_cases hc_109 : i_102 = (0 : Int32)
                      · skip
                        have C_110 : Steps p.tables e below S0 (T_101.setTop (mkF m 140 #[.val (.ref b), .val (.int (1 : Int32))] [(.int (0 : Int32))])) := by
                          refine C_108.trans ?_
                          refine XS.ifYes X_101.here hx rfl (pc0 := 110) (pc' := 139) rfl (hb hby d18_110) rfl (i0_eq_t hc_109) (by decide) (by decide) ?_
                          refine XS.iconst X_101.here hx rfl (hb hby d18_139) ?_
                          exact Steps.refl _
                        obtain ⟨fs, hr, hrun, hended, hW, hsame⟩ := X_101.leave (v := some (.int (0 : Int32))) (fun h => by rw [Bd.returns] at h; cases h)
                        refine ⟨_, _, C_110.trans (retN X_101 hx (t := .boolean) Bd.returns (by simp) (hb hby d18_140) hr), hrun, hended, _, _, rfl, ?_, ⟨_, rfl⟩, hW, hsame.mono (by decide) (by decide)⟩
                        show Q_ww_1 Z G1 G3 b k nn cs h0 n0 (some (.int (0 : Int32))) T_101.heap _
                        rw [e_107]
                        exact ⟨(0 : Int32), rfl, N_106, rfl, (own_w0 (k := 10) (by decide) (own_rF g_105 hc_109))⟩
                      · skip
                        obtain ⟨_, _, ⟨T_111, L_111, k_111, n_111⟩, -, X_111, ⟨Lc_111, hQ_111, l_111, y_111, z_111⟩, st_111⟩ := Jvm.LawKit.callS X_101 hx (y := M327) hown (mvT hZ (w37 hw)) (mvT hZ (w38 hw)) (mvT hZ (w4 hw)) (mvT hZ (w39 hw)) (by decide) (backOf (W := 0) (rm_hh_ l Z a0 hw [] G1 G3 HG h0 n0 X00 b k nn cs (12 : Int32) hp0 hl1 hla (by decide)) hZ (w39 hw) (w4 hw) (by decide) (by decide)) (g := (mkF m 118 #[.val (.ref b), .val (.int (1 : Int32))] [(.int (12 : Int32)), (.ref b)])) rfl (by rw [hml]; rfl) (argsL := [(.ref b), (.int (12 : Int32))]) (rest := []) (lenOf pd_364 rfl) rfl (by show 2 * 0 + _ ≤ _; exact Nat.le_of_eq rfl) (hb hby d18_118) (fun _ _ => ⟨rfl, e_107, (by decide : 0 + 0 ≤ _), (by decide : 0 + 0 ≤ _)⟩)
                        dsimp only [Pt.U, Pt.locs, Pt.cells, Pt.slots] at X_111 l_111 y_111 z_111 st_111 hQ_111
                        have X_111 := own_cast X_111 l_111 y_111 z_111
                        obtain ⟨i_112, rfl, N_113, e_114, g_115⟩ := hQ_111
                        have N_116 := Fr.app N_106 N_113
                        have e_117 : T_111.heap = h0 := e_114
                        have C_118 : Steps p.tables e below S0 (T_111.setTop (mkF m 121 #[.val (.ref b), .val (.int (1 : Int32))] [(.int i_112)])) := by
                          refine C_108.trans ?_
                          refine XS.ifNo X_101.here hx rfl (hb hby d18_110) rfl (i0_eq_f hc_109) ?_
                          refine XS.aloadN X_101.here hx rfl (hb hby d18_113) rfl rfl ?_
                          refine XS.iloadN X_101.here hx rfl (hb hby d18_114) rfl ?_
                          refine XS.bipush X_101.here hx rfl (hb hby d18_115) ?_
                          refine XS.iadd X_101.here hx rfl (hb hby d18_117) rfl ?_
                          refine st_111 _ ?_
                          exact Steps.refl _
                        by_cases hc_119 : i_112 = (0 : Int32)
                        · skip
                          have C_120 : Steps p.tables e below S0 (T_111.setTop (mkF m 140 #[.val (.ref b), .val (.int (1 : Int32))] [(.int (0 : Int32))])) := by
                            refine C_118.trans ?_
                            refine XS.ifYes X_111.here hx rfl (pc0 := 121) (pc' := 139) rfl (hb hby d18_121) rfl (i0_eq_t hc_119) (by decide) (by decide) ?_
                            refine XS.iconst X_111.here hx rfl (hb hby d18_139) ?_
                            exact Steps.refl _
                          obtain ⟨fs, hr, hrun, hended, hW, hsame⟩ := X_111.leave (v := some (.int (0 : Int32))) (fun h => by rw [Bd.returns] at h; cases h)
                          refine ⟨_, _, C_120.trans (retN X_111 hx (t := .boolean) Bd.returns (by simp) (hb hby d18_140) hr), hrun, hended, _, _, rfl, ?_, ⟨_, rfl⟩, hW, hsame.mono (by decide) (by decide)⟩
                          show Q_ww_1 Z G1 G3 b k nn cs h0 n0 (some (.int (0 : Int32))) T_111.heap _
                          rw [e_117]
                          exact ⟨(0 : Int32), rfl, N_116, rfl, (own_w0 (k := 11) (by decide) (own_rF g_115 hc_119))⟩
                        · skip
                          obtain ⟨_, _, ⟨T_121, L_121, k_121, n_121⟩, -, X_121, ⟨Lc_121, hQ_121, l_121, y_121, z_121⟩, st_121⟩ := Jvm.LawKit.callS X_111 hx (y := M327) hown (mvT hZ (w37 hw)) (mvT hZ (w38 hw)) (mvT hZ (w4 hw)) (mvT hZ (w39 hw)) (by decide) (backOf (W := 0) (rm_hh_ l Z a0 hw [] G1 G3 HG h0 n0 X00 b k nn cs (13 : Int32) hp0 hl1 hla (by decide)) hZ (w39 hw) (w4 hw) (by decide) (by decide)) (g := (mkF m 129 #[.val (.ref b), .val (.int (1 : Int32))] [(.int (13 : Int32)), (.ref b)])) rfl (by rw [hml]; rfl) (argsL := [(.ref b), (.int (13 : Int32))]) (rest := []) (lenOf pd_364 rfl) rfl (by show 2 * 0 + _ ≤ _; exact Nat.le_of_eq rfl) (hb hby d18_129) (fun _ _ => ⟨rfl, e_117, (by decide : 0 + 0 ≤ _), (by decide : 0 + 0 ≤ _)⟩)
                          dsimp only [Pt.U, Pt.locs, Pt.cells, Pt.slots] at X_121 l_121 y_121 z_121 st_121 hQ_121
                          have X_121 := own_cast X_121 l_121 y_121 z_121
                          obtain ⟨i_122, rfl, N_123, e_124, g_125⟩ := hQ_121
                          have N_126 := Fr.app N_116 N_123
                          have e_127 : T_121.heap = h0 := e_124
                          have C_128 : Steps p.tables e below S0 (T_121.setTop (mkF m 132 #[.val (.ref b), .val (.int (1 : Int32))] [(.int i_122)])) := by
                            refine C_118.trans ?_
                            refine XS.ifNo X_111.here hx rfl (hb hby d18_121) rfl (i0_eq_f hc_119) ?_
                            refine XS.aloadN X_111.here hx rfl (hb hby d18_124) rfl rfl ?_
                            refine XS.iloadN X_111.here hx rfl (hb hby d18_125) rfl ?_
                            refine XS.bipush X_111.here hx rfl (hb hby d18_126) ?_
                            refine XS.iadd X_111.here hx rfl (hb hby d18_128) rfl ?_
                            refine st_121 _ ?_
                            exact Steps.refl _
                          by_cases hc_129 : i_122 = (0 : Int32)
                          · skip
                            have C_130 : Steps p.tables e below S0 (T_121.setTop (mkF m 140 #[.val (.ref b), .val (.int (1 : Int32))] [(.int (0 : Int32))])) := by
                              refine C_128.trans ?_
                              refine XS.ifYes X_121.here hx rfl (pc0 := 132) (pc' := 139) rfl (hb hby d18_132) rfl (i0_eq_t hc_129) (by decide) (by decide) ?_
                              refine XS.iconst X_121.here hx rfl (hb hby d18_139) ?_
                              exact Steps.refl _
                            obtain ⟨fs, hr, hrun, hended, hW, hsame⟩ := X_121.leave (v := some (.int (0 : Int32))) (fun h => by rw [Bd.returns] at h; cases h)
                            refine ⟨_, _, C_130.trans (retN X_121 hx (t := .boolean) Bd.returns (by simp) (hb hby d18_140) hr), hrun, hended, _, _, rfl, ?_, ⟨_, rfl⟩, hW, hsame.mono (by decide) (by decide)⟩
                            show Q_ww_1 Z G1 G3 b k nn cs h0 n0 (some (.int (0 : Int32))) T_121.heap _
                            rw [e_127]
                            exact ⟨(0 : Int32), rfl, N_126, rfl, (own_w0 (k := 12) (by decide) (own_rF g_125 hc_129))⟩
                          · skip
                            have C_131 : Steps p.tables e below S0 (T_121.setTop (mkF m 140 #[.val (.ref b), .val (.int (1 : Int32))] [(.int (1 : Int32))])) := by
                              refine C_128.trans ?_
                              refine XS.ifNo X_121.here hx rfl (hb hby d18_132) rfl (i0_eq_f hc_129) ?_
                              refine XS.iconst X_121.here hx rfl (hb hby d18_135) ?_
                              refine XS.goto X_121.here hx rfl (pc0 := 136) (pc' := 140) rfl (hb hby d18_136) (by decide) (by decide) ?_
                              exact Steps.refl _
                            obtain ⟨fs, hr, hrun, hended, hW, hsame⟩ := X_121.leave (v := some (.int (1 : Int32))) (fun h => by rw [Bd.returns] at h; cases h)
                            refine ⟨_, _, C_131.trans (retN X_121 hx (t := .boolean) Bd.returns (by simp) (hb hby d18_140) hr), hrun, hended, _, _, rfl, ?_, ⟨_, rfl⟩, hW, hsame.mono (by decide) (by decide)⟩
                            show Q_ww_1 Z G1 G3 b k nn cs h0 n0 (some (.int (1 : Int32))) T_121.heap _
                            rw [e_127]
                            exact ⟨(1 : Int32), rfl, N_126, rfl, (own_w1 (own_rT g_5 hc_9) (own_rT g_15 hc_19) (own_rT g_25 hc_29) (own_rT g_35 hc_39) (own_rT g_45 hc_49) (own_rT g_55 hc_59) (own_rT g_65 hc_69) (own_rT g_75 hc_79) (own_rT g_85 hc_89) (own_rT g_95 hc_99) (own_rT g_105 hc_109) (own_rT g_115 hc_119) (own_rT g_125 hc_129))⟩
abbrev R_ww_2 : Room := { frames := 2, cells := 0, slots := 0, locals := 25 }
def Q_ww_2 (Z : State) (G1 : Int32) (G3 : Value) (b : Addr) (k : ClassId) (nn : Int32) (cs : List Int32) (h0 : Heap) (n0 : Nat) (v : Option Value) (h : Heap) (L : List Loc) : Prop := (∃ rr : Int32, v = some (.int rr) ∧ Fr n0 L ∧ h = h0 ∧ (rr = own_b (own_w cs 2)))
set_option maxRecDepth 65536 in
set_option maxHeartbeats 40000000 in
theorem rm_ww_2 (l : Launch) (Z : State) (a0 : Array Value) (hw : ∀ d ∈ tables_1, d.before a0 Z = true) (ws : List Jvm.Cond) (G1 : Int32) (G3 : Value) (HG : own_G l Z a0 G1 G3) (h0 : Heap) (n0 : Nat) (X00 : Old Z n0 h0) (b : Addr) (k : ClassId) (nn : Int32) (cs : List Int32) (hp0 : Arv Z h0 b k .char nn (own_iv cs) (.int (0 : Int32))) (hl1 : cs.length = nn.toNatClampNeg) (hla : own_lat cs) :
    own_CP l Z M360 method_8_code 2 (some .boolean) ws R_ww_2 #[(.ref b), (.int (2 : Int32))] h0 (Q_ww_2 Z G1 G3 b k nn cs h0 n0) := by
  refine own_P (plainFor_of_name pn_218) ?_
  intro p e s m below meth c s₁ S0 Bd hZ hh hx hby hml hown hnm X0 e0 hS0d
  obtain ⟨O1, P1, O3f, rG3⟩ := id HG
  have N0 := Fr.nil n0
  have C0 : Steps p.tables e below S0 (s₁.setTop (mkF m 0 #[.val (.ref b), .val (.int (2 : Int32))] [])) := by rw [hS0d]; exact castTop (ef_50 m b (2 : Int32)) (Steps.refl _)
  obtain ⟨_, _, ⟨T_1, L_1, k_1, n_1⟩, -, X_1, ⟨Lc_1, hQ_1, l_1, y_1, z_1⟩, st_1⟩ := Jvm.LawKit.callS X0 hx (y := M327) hown (mvT hZ (w37 hw)) (mvT hZ (w38 hw)) (mvT hZ (w4 hw)) (mvT hZ (w39 hw)) (by decide) (backOf (W := 0) (rm_hh_ l Z a0 hw [] G1 G3 HG h0 n0 X00 b k nn cs (2 : Int32) hp0 hl1 hla (by decide)) hZ (w39 hw) (w4 hw) (by decide) (by decide)) (g := (mkF m 2 #[.val (.ref b), .val (.int (2 : Int32))] [(.int (2 : Int32)), (.ref b)])) rfl (by rw [hml]; rfl) (argsL := [(.ref b), (.int (2 : Int32))]) (rest := []) (lenOf pd_364 rfl) rfl (by show 2 * 0 + _ ≤ _; exact Nat.le_of_eq rfl) (hb hby d18_2) (fun _ _ => ⟨rfl, e0, (by decide : 0 + 0 ≤ _), (by decide : 0 + 0 ≤ _)⟩)
  dsimp only [Pt.U, Pt.locs, Pt.cells, Pt.slots] at X_1 l_1 y_1 z_1 st_1 hQ_1
  have X_1 := own_cast X_1 l_1 y_1 z_1
  obtain ⟨i_2, rfl, N_3, e_4, g_5⟩ := hQ_1
  have N_6 := Fr.app N0 N_3
  have e_7 : T_1.heap = h0 := e_4
  have C_8 : Steps p.tables e below S0 (T_1.setTop (mkF m 5 #[.val (.ref b), .val (.int (2 : Int32))] [(.int i_2)])) := by
    refine C0.trans ?_
    refine XS.aloadN X0.here hx rfl (hb hby d18_0) rfl rfl ?_
    refine XS.iloadN X0.here hx rfl (hb hby d18_1) rfl ?_
    refine st_1 _ ?_
    exact Steps.refl _
  by_cases hc_9 : i_2 = (0 : Int32)
  · skip
    have C_10 : Steps p.tables e below S0 (T_1.setTop (mkF m 140 #[.val (.ref b), .val (.int (2 : Int32))] [(.int (0 : Int32))])) := by
      refine C_8.trans ?_
      refine XS.ifYes X_1.here hx rfl (pc0 := 5) (pc' := 139) rfl (hb hby d18_5) rfl (i0_eq_t hc_9) (by decide) (by decide) ?_
      refine XS.iconst X_1.here hx rfl (hb hby d18_139) ?_
      exact Steps.refl _
    obtain ⟨fs, hr, hrun, hended, hW, hsame⟩ := X_1.leave (v := some (.int (0 : Int32))) (fun h => by rw [Bd.returns] at h; cases h)
    refine ⟨_, _, C_10.trans (retN X_1 hx (t := .boolean) Bd.returns (by simp) (hb hby d18_140) hr), hrun, hended, _, _, rfl, ?_, ⟨_, rfl⟩, hW, hsame.mono (by decide) (by decide)⟩
    show Q_ww_2 Z G1 G3 b k nn cs h0 n0 (some (.int (0 : Int32))) T_1.heap _
    rw [e_7]
    exact ⟨(0 : Int32), rfl, N_6, rfl, (own_w0 (k := 0) (by decide) (own_rF g_5 hc_9))⟩
  · skip
    obtain ⟨_, _, ⟨T_11, L_11, k_11, n_11⟩, -, X_11, ⟨Lc_11, hQ_11, l_11, y_11, z_11⟩, st_11⟩ := Jvm.LawKit.callS X_1 hx (y := M327) hown (mvT hZ (w37 hw)) (mvT hZ (w38 hw)) (mvT hZ (w4 hw)) (mvT hZ (w39 hw)) (by decide) (backOf (W := 0) (rm_hh_ l Z a0 hw [] G1 G3 HG h0 n0 X00 b k nn cs (3 : Int32) hp0 hl1 hla (by decide)) hZ (w39 hw) (w4 hw) (by decide) (by decide)) (g := (mkF m 12 #[.val (.ref b), .val (.int (2 : Int32))] [(.int (3 : Int32)), (.ref b)])) rfl (by rw [hml]; rfl) (argsL := [(.ref b), (.int (3 : Int32))]) (rest := []) (lenOf pd_364 rfl) rfl (by show 2 * 0 + _ ≤ _; exact Nat.le_of_eq rfl) (hb hby d18_12) (fun _ _ => ⟨rfl, e_7, (by decide : 0 + 0 ≤ _), (by decide : 0 + 0 ≤ _)⟩)
    dsimp only [Pt.U, Pt.locs, Pt.cells, Pt.slots] at X_11 l_11 y_11 z_11 st_11 hQ_11
    have X_11 := own_cast X_11 l_11 y_11 z_11
    obtain ⟨i_12, rfl, N_13, e_14, g_15⟩ := hQ_11
    have N_16 := Fr.app N_6 N_13
    have e_17 : T_11.heap = h0 := e_14
    have C_18 : Steps p.tables e below S0 (T_11.setTop (mkF m 15 #[.val (.ref b), .val (.int (2 : Int32))] [(.int i_12)])) := by
      refine C_8.trans ?_
      refine XS.ifNo X_1.here hx rfl (hb hby d18_5) rfl (i0_eq_f hc_9) ?_
      refine XS.aloadN X_1.here hx rfl (hb hby d18_8) rfl rfl ?_
      refine XS.iloadN X_1.here hx rfl (hb hby d18_9) rfl ?_
      refine XS.iconst X_1.here hx rfl (hb hby d18_10) ?_
      refine XS.iadd X_1.here hx rfl (hb hby d18_11) rfl ?_
      refine st_11 _ ?_
      exact Steps.refl _
    by_cases hc_19 : i_12 = (0 : Int32)
    · skip
      have C_20 : Steps p.tables e below S0 (T_11.setTop (mkF m 140 #[.val (.ref b), .val (.int (2 : Int32))] [(.int (0 : Int32))])) := by
        refine C_18.trans ?_
        refine XS.ifYes X_11.here hx rfl (pc0 := 15) (pc' := 139) rfl (hb hby d18_15) rfl (i0_eq_t hc_19) (by decide) (by decide) ?_
        refine XS.iconst X_11.here hx rfl (hb hby d18_139) ?_
        exact Steps.refl _
      obtain ⟨fs, hr, hrun, hended, hW, hsame⟩ := X_11.leave (v := some (.int (0 : Int32))) (fun h => by rw [Bd.returns] at h; cases h)
      refine ⟨_, _, C_20.trans (retN X_11 hx (t := .boolean) Bd.returns (by simp) (hb hby d18_140) hr), hrun, hended, _, _, rfl, ?_, ⟨_, rfl⟩, hW, hsame.mono (by decide) (by decide)⟩
      show Q_ww_2 Z G1 G3 b k nn cs h0 n0 (some (.int (0 : Int32))) T_11.heap _
      rw [e_17]
      exact ⟨(0 : Int32), rfl, N_16, rfl, (own_w0 (k := 1) (by decide) (own_rF g_15 hc_19))⟩
    · skip
      obtain ⟨_, _, ⟨T_21, L_21, k_21, n_21⟩, -, X_21, ⟨Lc_21, hQ_21, l_21, y_21, z_21⟩, st_21⟩ := Jvm.LawKit.callS X_11 hx (y := M327) hown (mvT hZ (w37 hw)) (mvT hZ (w38 hw)) (mvT hZ (w4 hw)) (mvT hZ (w39 hw)) (by decide) (backOf (W := 0) (rm_hh_ l Z a0 hw [] G1 G3 HG h0 n0 X00 b k nn cs (4 : Int32) hp0 hl1 hla (by decide)) hZ (w39 hw) (w4 hw) (by decide) (by decide)) (g := (mkF m 22 #[.val (.ref b), .val (.int (2 : Int32))] [(.int (4 : Int32)), (.ref b)])) rfl (by rw [hml]; rfl) (argsL := [(.ref b), (.int (4 : Int32))]) (rest := []) (lenOf pd_364 rfl) rfl (by show 2 * 0 + _ ≤ _; exact Nat.le_of_eq rfl) (hb hby d18_22) (fun _ _ => ⟨rfl, e_17, (by decide : 0 + 0 ≤ _), (by decide : 0 + 0 ≤ _)⟩)
      dsimp only [Pt.U, Pt.locs, Pt.cells, Pt.slots] at X_21 l_21 y_21 z_21 st_21 hQ_21
      have X_21 := own_cast X_21 l_21 y_21 z_21
      obtain ⟨i_22, rfl, N_23, e_24, g_25⟩ := hQ_21
      have N_26 := Fr.app N_16 N_23
      have e_27 : T_21.heap = h0 := e_24
      have C_28 : Steps p.tables e below S0 (T_21.setTop (mkF m 25 #[.val (.ref b), .val (.int (2 : Int32))] [(.int i_22)])) := by
        refine C_18.trans ?_
        refine XS.ifNo X_11.here hx rfl (hb hby d18_15) rfl (i0_eq_f hc_19) ?_
        refine XS.aloadN X_11.here hx rfl (hb hby d18_18) rfl rfl ?_
        refine XS.iloadN X_11.here hx rfl (hb hby d18_19) rfl ?_
        refine XS.iconst X_11.here hx rfl (hb hby d18_20) ?_
        refine XS.iadd X_11.here hx rfl (hb hby d18_21) rfl ?_
        refine st_21 _ ?_
        exact Steps.refl _
      by_cases hc_29 : i_22 = (0 : Int32)
      · skip
        have C_30 : Steps p.tables e below S0 (T_21.setTop (mkF m 140 #[.val (.ref b), .val (.int (2 : Int32))] [(.int (0 : Int32))])) := by
          refine C_28.trans ?_
          refine XS.ifYes X_21.here hx rfl (pc0 := 25) (pc' := 139) rfl (hb hby d18_25) rfl (i0_eq_t hc_29) (by decide) (by decide) ?_
          refine XS.iconst X_21.here hx rfl (hb hby d18_139) ?_
          exact Steps.refl _
        obtain ⟨fs, hr, hrun, hended, hW, hsame⟩ := X_21.leave (v := some (.int (0 : Int32))) (fun h => by rw [Bd.returns] at h; cases h)
        refine ⟨_, _, C_30.trans (retN X_21 hx (t := .boolean) Bd.returns (by simp) (hb hby d18_140) hr), hrun, hended, _, _, rfl, ?_, ⟨_, rfl⟩, hW, hsame.mono (by decide) (by decide)⟩
        show Q_ww_2 Z G1 G3 b k nn cs h0 n0 (some (.int (0 : Int32))) T_21.heap _
        rw [e_27]
        exact ⟨(0 : Int32), rfl, N_26, rfl, (own_w0 (k := 2) (by decide) (own_rF g_25 hc_29))⟩
      · skip
        obtain ⟨_, _, ⟨T_31, L_31, k_31, n_31⟩, -, X_31, ⟨Lc_31, hQ_31, l_31, y_31, z_31⟩, st_31⟩ := Jvm.LawKit.callS X_21 hx (y := M327) hown (mvT hZ (w37 hw)) (mvT hZ (w38 hw)) (mvT hZ (w4 hw)) (mvT hZ (w39 hw)) (by decide) (backOf (W := 0) (rm_hh_ l Z a0 hw [] G1 G3 HG h0 n0 X00 b k nn cs (5 : Int32) hp0 hl1 hla (by decide)) hZ (w39 hw) (w4 hw) (by decide) (by decide)) (g := (mkF m 32 #[.val (.ref b), .val (.int (2 : Int32))] [(.int (5 : Int32)), (.ref b)])) rfl (by rw [hml]; rfl) (argsL := [(.ref b), (.int (5 : Int32))]) (rest := []) (lenOf pd_364 rfl) rfl (by show 2 * 0 + _ ≤ _; exact Nat.le_of_eq rfl) (hb hby d18_32) (fun _ _ => ⟨rfl, e_27, (by decide : 0 + 0 ≤ _), (by decide : 0 + 0 ≤ _)⟩)
        dsimp only [Pt.U, Pt.locs, Pt.cells, Pt.slots] at X_31 l_31 y_31 z_31 st_31 hQ_31
        have X_31 := own_cast X_31 l_31 y_31 z_31
        obtain ⟨i_32, rfl, N_33, e_34, g_35⟩ := hQ_31
        have N_36 := Fr.app N_26 N_33
        have e_37 : T_31.heap = h0 := e_34
        have C_38 : Steps p.tables e below S0 (T_31.setTop (mkF m 35 #[.val (.ref b), .val (.int (2 : Int32))] [(.int i_32)])) := by
          refine C_28.trans ?_
          refine XS.ifNo X_21.here hx rfl (hb hby d18_25) rfl (i0_eq_f hc_29) ?_
          refine XS.aloadN X_21.here hx rfl (hb hby d18_28) rfl rfl ?_
          refine XS.iloadN X_21.here hx rfl (hb hby d18_29) rfl ?_
          refine XS.iconst X_21.here hx rfl (hb hby d18_30) ?_
          refine XS.iadd X_21.here hx rfl (hb hby d18_31) rfl ?_
          refine st_31 _ ?_
          exact Steps.refl _
        by_cases hc_39 : i_32 = (0 : Int32)
        · skip
          have C_40 : Steps p.tables e below S0 (T_31.setTop (mkF m 140 #[.val (.ref b), .val (.int (2 : Int32))] [(.int (0 : Int32))])) := by
            refine C_38.trans ?_
            refine XS.ifYes X_31.here hx rfl (pc0 := 35) (pc' := 139) rfl (hb hby d18_35) rfl (i0_eq_t hc_39) (by decide) (by decide) ?_
            refine XS.iconst X_31.here hx rfl (hb hby d18_139) ?_
            exact Steps.refl _
          obtain ⟨fs, hr, hrun, hended, hW, hsame⟩ := X_31.leave (v := some (.int (0 : Int32))) (fun h => by rw [Bd.returns] at h; cases h)
          refine ⟨_, _, C_40.trans (retN X_31 hx (t := .boolean) Bd.returns (by simp) (hb hby d18_140) hr), hrun, hended, _, _, rfl, ?_, ⟨_, rfl⟩, hW, hsame.mono (by decide) (by decide)⟩
          show Q_ww_2 Z G1 G3 b k nn cs h0 n0 (some (.int (0 : Int32))) T_31.heap _
          rw [e_37]
          exact ⟨(0 : Int32), rfl, N_36, rfl, (own_w0 (k := 3) (by decide) (own_rF g_35 hc_39))⟩
        · skip
          obtain ⟨_, _, ⟨T_41, L_41, k_41, n_41⟩, -, X_41, ⟨Lc_41, hQ_41, l_41, y_41, z_41⟩, st_41⟩ := Jvm.LawKit.callS X_31 hx (y := M327) hown (mvT hZ (w37 hw)) (mvT hZ (w38 hw)) (mvT hZ (w4 hw)) (mvT hZ (w39 hw)) (by decide) (backOf (W := 0) (rm_hh_ l Z a0 hw [] G1 G3 HG h0 n0 X00 b k nn cs (6 : Int32) hp0 hl1 hla (by decide)) hZ (w39 hw) (w4 hw) (by decide) (by decide)) (g := (mkF m 42 #[.val (.ref b), .val (.int (2 : Int32))] [(.int (6 : Int32)), (.ref b)])) rfl (by rw [hml]; rfl) (argsL := [(.ref b), (.int (6 : Int32))]) (rest := []) (lenOf pd_364 rfl) rfl (by show 2 * 0 + _ ≤ _; exact Nat.le_of_eq rfl) (hb hby d18_42) (fun _ _ => ⟨rfl, e_37, (by decide : 0 + 0 ≤ _), (by decide : 0 + 0 ≤ _)⟩)
          dsimp only [Pt.U, Pt.locs, Pt.cells, Pt.slots] at X_41 l_41 y_41 z_41 st_41 hQ_41
          have X_41 := own_cast X_41 l_41 y_41 z_41
          obtain ⟨i_42, rfl, N_43, e_44, g_45⟩ := hQ_41
          have N_46 := Fr.app N_36 N_43
          have e_47 : T_41.heap = h0 := e_44
          have C_48 : Steps p.tables e below S0 (T_41.setTop (mkF m 45 #[.val (.ref b), .val (.int (2 : Int32))] [(.int i_42)])) := by
            refine C_38.trans ?_
            refine XS.ifNo X_31.here hx rfl (hb hby d18_35) rfl (i0_eq_f hc_39) ?_
            refine XS.aloadN X_31.here hx rfl (hb hby d18_38) rfl rfl ?_
            refine XS.iloadN X_31.here hx rfl (hb hby d18_39) rfl ?_
            refine XS.iconst X_31.here hx rfl (hb hby d18_40) ?_
            refine XS.iadd X_31.here hx rfl (hb hby d18_41) rfl ?_
            refine st_41 _ ?_
            exact Steps.refl _
          by_cases hc_49 : i_42 = (0 : Int32)
          · skip
            have C_50 : Steps p.tables e below S0 (T_41.setTop (mkF m 140 #[.val (.ref b), .val (.int (2 : Int32))] [(.int (0 : Int32))])) := by
              refine C_48.trans ?_
              refine XS.ifYes X_41.here hx rfl (pc0 := 45) (pc' := 139) rfl (hb hby d18_45) rfl (i0_eq_t hc_49) (by decide) (by decide) ?_
              refine XS.iconst X_41.here hx rfl (hb hby d18_139) ?_
              exact Steps.refl _
            obtain ⟨fs, hr, hrun, hended, hW, hsame⟩ := X_41.leave (v := some (.int (0 : Int32))) (fun h => by rw [Bd.returns] at h; cases h)
            refine ⟨_, _, C_50.trans (retN X_41 hx (t := .boolean) Bd.returns (by simp) (hb hby d18_140) hr), hrun, hended, _, _, rfl, ?_, ⟨_, rfl⟩, hW, hsame.mono (by decide) (by decide)⟩
            show Q_ww_2 Z G1 G3 b k nn cs h0 n0 (some (.int (0 : Int32))) T_41.heap _
            rw [e_47]
            exact ⟨(0 : Int32), rfl, N_46, rfl, (own_w0 (k := 4) (by decide) (own_rF g_45 hc_49))⟩
          · skip
            obtain ⟨_, _, ⟨T_51, L_51, k_51, n_51⟩, -, X_51, ⟨Lc_51, hQ_51, l_51, y_51, z_51⟩, st_51⟩ := Jvm.LawKit.callS X_41 hx (y := M327) hown (mvT hZ (w37 hw)) (mvT hZ (w38 hw)) (mvT hZ (w4 hw)) (mvT hZ (w39 hw)) (by decide) (backOf (W := 0) (rm_hh_ l Z a0 hw [] G1 G3 HG h0 n0 X00 b k nn cs (7 : Int32) hp0 hl1 hla (by decide)) hZ (w39 hw) (w4 hw) (by decide) (by decide)) (g := (mkF m 52 #[.val (.ref b), .val (.int (2 : Int32))] [(.int (7 : Int32)), (.ref b)])) rfl (by rw [hml]; rfl) (argsL := [(.ref b), (.int (7 : Int32))]) (rest := []) (lenOf pd_364 rfl) rfl (by show 2 * 0 + _ ≤ _; exact Nat.le_of_eq rfl) (hb hby d18_52) (fun _ _ => ⟨rfl, e_47, (by decide : 0 + 0 ≤ _), (by decide : 0 + 0 ≤ _)⟩)
            dsimp only [Pt.U, Pt.locs, Pt.cells, Pt.slots] at X_51 l_51 y_51 z_51 st_51 hQ_51
            have X_51 := own_cast X_51 l_51 y_51 z_51
            obtain ⟨i_52, rfl, N_53, e_54, g_55⟩ := hQ_51
            have N_56 := Fr.app N_46 N_53
            have e_57 : T_51.heap = h0 := e_54
            have C_58 : Steps p.tables e below S0 (T_51.setTop (mkF m 55 #[.val (.ref b), .val (.int (2 : Int32))] [(.int i_52)])) := by
              refine C_48.trans ?_
              refine XS.ifNo X_41.here hx rfl (hb hby d18_45) rfl (i0_eq_f hc_49) ?_
              refine XS.aloadN X_41.here hx rfl (hb hby d18_48) rfl rfl ?_
              refine XS.iloadN X_41.here hx rfl (hb hby d18_49) rfl ?_
              refine XS.iconst X_41.here hx rfl (hb hby d18_50) ?_
              refine XS.iadd X_41.here hx rfl (hb hby d18_51) rfl ?_
              refine st_51 _ ?_
              exact Steps.refl _
            by_cases hc_59 : i_52 = (0 : Int32)
            · skip
              have C_60 : Steps p.tables e below S0 (T_51.setTop (mkF m 140 #[.val (.ref b), .val (.int (2 : Int32))] [(.int (0 : Int32))])) := by
                refine C_58.trans ?_
                refine XS.ifYes X_51.here hx rfl (pc0 := 55) (pc' := 139) rfl (hb hby d18_55) rfl (i0_eq_t hc_59) (by decide) (by decide) ?_
                refine XS.iconst X_51.here hx rfl (hb hby d18_139) ?_
                exact Steps.refl _
              obtain ⟨fs, hr, hrun, hended, hW, hsame⟩ := X_51.leave (v := some (.int (0 : Int32))) (fun h => by rw [Bd.returns] at h; cases h)
              refine ⟨_, _, C_60.trans (retN X_51 hx (t := .boolean) Bd.returns (by simp) (hb hby d18_140) hr), hrun, hended, _, _, rfl, ?_, ⟨_, rfl⟩, hW, hsame.mono (by decide) (by decide)⟩
              show Q_ww_2 Z G1 G3 b k nn cs h0 n0 (some (.int (0 : Int32))) T_51.heap _
              rw [e_57]
              exact ⟨(0 : Int32), rfl, N_56, rfl, (own_w0 (k := 5) (by decide) (own_rF g_55 hc_59))⟩
            · skip
              obtain ⟨_, _, ⟨T_61, L_61, k_61, n_61⟩, -, X_61, ⟨Lc_61, hQ_61, l_61, y_61, z_61⟩, st_61⟩ := Jvm.LawKit.callS X_51 hx (y := M327) hown (mvT hZ (w37 hw)) (mvT hZ (w38 hw)) (mvT hZ (w4 hw)) (mvT hZ (w39 hw)) (by decide) (backOf (W := 0) (rm_hh_ l Z a0 hw [] G1 G3 HG h0 n0 X00 b k nn cs (8 : Int32) hp0 hl1 hla (by decide)) hZ (w39 hw) (w4 hw) (by decide) (by decide)) (g := (mkF m 63 #[.val (.ref b), .val (.int (2 : Int32))] [(.int (8 : Int32)), (.ref b)])) rfl (by rw [hml]; rfl) (argsL := [(.ref b), (.int (8 : Int32))]) (rest := []) (lenOf pd_364 rfl) rfl (by show 2 * 0 + _ ≤ _; exact Nat.le_of_eq rfl) (hb hby d18_63) (fun _ _ => ⟨rfl, e_57, (by decide : 0 + 0 ≤ _), (by decide : 0 + 0 ≤ _)⟩)
              dsimp only [Pt.U, Pt.locs, Pt.cells, Pt.slots] at X_61 l_61 y_61 z_61 st_61 hQ_61
              have X_61 := own_cast X_61 l_61 y_61 z_61
              obtain ⟨i_62, rfl, N_63, e_64, g_65⟩ := hQ_61
              have N_66 := Fr.app N_56 N_63
              have e_67 : T_61.heap = h0 := e_64
              have C_68 : Steps p.tables e below S0 (T_61.setTop (mkF m 66 #[.val (.ref b), .val (.int (2 : Int32))] [(.int i_62)])) := by
                refine C_58.trans ?_
                refine XS.ifNo X_51.here hx rfl (hb hby d18_55) rfl (i0_eq_f hc_59) ?_
                refine XS.aloadN X_51.here hx rfl (hb hby d18_58) rfl rfl ?_
                refine XS.iloadN X_51.here hx rfl (hb hby d18_59) rfl ?_
                refine XS.bipush X_51.here hx rfl (hb hby d18_60) ?_
                refine XS.iadd X_51.here hx rfl (hb hby d18_62) rfl ?_
                refine st_61 _ ?_
                exact Steps.refl _
              by_cases hc_69 : i_62 = (0 : Int32)
              · skip
                have C_70 : Steps p.tables e below S0 (T_61.setTop (mkF m 140 #[.val (.ref b), .val (.int (2 : Int32))] [(.int (0 : Int32))])) := by
                  refine C_68.trans ?_
                  refine XS.ifYes X_61.here hx rfl (pc0 := 66) (pc' := 139) rfl (hb hby d18_66) rfl (i0_eq_t hc_69) (by decide) (by decide) ?_
                  refine XS.iconst X_61.here hx rfl (hb hby d18_139) ?_
                  exact Steps.refl _
                obtain ⟨fs, hr, hrun, hended, hW, hsame⟩ := X_61.leave (v := some (.int (0 : Int32))) (fun h => by rw [Bd.returns] at h; cases h)
                refine ⟨_, _, C_70.trans (retN X_61 hx (t := .boolean) Bd.returns (by simp) (hb hby d18_140) hr), hrun, hended, _, _, rfl, ?_, ⟨_, rfl⟩, hW, hsame.mono (by decide) (by decide)⟩
                show Q_ww_2 Z G1 G3 b k nn cs h0 n0 (some (.int (0 : Int32))) T_61.heap _
                rw [e_67]
                exact ⟨(0 : Int32), rfl, N_66, rfl, (own_w0 (k := 6) (by decide) (own_rF g_65 hc_69))⟩
              · skip
                obtain ⟨_, _, ⟨T_71, L_71, k_71, n_71⟩, -, X_71, ⟨Lc_71, hQ_71, l_71, y_71, z_71⟩, st_71⟩ := Jvm.LawKit.callS X_61 hx (y := M327) hown (mvT hZ (w37 hw)) (mvT hZ (w38 hw)) (mvT hZ (w4 hw)) (mvT hZ (w39 hw)) (by decide) (backOf (W := 0) (rm_hh_ l Z a0 hw [] G1 G3 HG h0 n0 X00 b k nn cs (9 : Int32) hp0 hl1 hla (by decide)) hZ (w39 hw) (w4 hw) (by decide) (by decide)) (g := (mkF m 74 #[.val (.ref b), .val (.int (2 : Int32))] [(.int (9 : Int32)), (.ref b)])) rfl (by rw [hml]; rfl) (argsL := [(.ref b), (.int (9 : Int32))]) (rest := []) (lenOf pd_364 rfl) rfl (by show 2 * 0 + _ ≤ _; exact Nat.le_of_eq rfl) (hb hby d18_74) (fun _ _ => ⟨rfl, e_67, (by decide : 0 + 0 ≤ _), (by decide : 0 + 0 ≤ _)⟩)
                dsimp only [Pt.U, Pt.locs, Pt.cells, Pt.slots] at X_71 l_71 y_71 z_71 st_71 hQ_71
                have X_71 := own_cast X_71 l_71 y_71 z_71
                obtain ⟨i_72, rfl, N_73, e_74, g_75⟩ := hQ_71
                have N_76 := Fr.app N_66 N_73
                have e_77 : T_71.heap = h0 := e_74
                have C_78 : Steps p.tables e below S0 (T_71.setTop (mkF m 77 #[.val (.ref b), .val (.int (2 : Int32))] [(.int i_72)])) := by
                  refine C_68.trans ?_
                  refine XS.ifNo X_61.here hx rfl (hb hby d18_66) rfl (i0_eq_f hc_69) ?_
                  refine XS.aloadN X_61.here hx rfl (hb hby d18_69) rfl rfl ?_
                  refine XS.iloadN X_61.here hx rfl (hb hby d18_70) rfl ?_
                  refine XS.bipush X_61.here hx rfl (hb hby d18_71) ?_
                  refine XS.iadd X_61.here hx rfl (hb hby d18_73) rfl ?_
                  refine st_71 _ ?_
                  exact Steps.refl _
                by_cases hc_79 : i_72 = (0 : Int32)
                · skip
                  have C_80 : Steps p.tables e below S0 (T_71.setTop (mkF m 140 #[.val (.ref b), .val (.int (2 : Int32))] [(.int (0 : Int32))])) := by
                    refine C_78.trans ?_
                    refine XS.ifYes X_71.here hx rfl (pc0 := 77) (pc' := 139) rfl (hb hby d18_77) rfl (i0_eq_t hc_79) (by decide) (by decide) ?_
                    refine XS.iconst X_71.here hx rfl (hb hby d18_139) ?_
                    exact Steps.refl _
                  obtain ⟨fs, hr, hrun, hended, hW, hsame⟩ := X_71.leave (v := some (.int (0 : Int32))) (fun h => by rw [Bd.returns] at h; cases h)
                  refine ⟨_, _, C_80.trans (retN X_71 hx (t := .boolean) Bd.returns (by simp) (hb hby d18_140) hr), hrun, hended, _, _, rfl, ?_, ⟨_, rfl⟩, hW, hsame.mono (by decide) (by decide)⟩
                  show Q_ww_2 Z G1 G3 b k nn cs h0 n0 (some (.int (0 : Int32))) T_71.heap _
                  rw [e_77]
                  exact ⟨(0 : Int32), rfl, N_76, rfl, (own_w0 (k := 7) (by decide) (own_rF g_75 hc_79))⟩
                · skip
                  obtain ⟨_, _, ⟨T_81, L_81, k_81, n_81⟩, -, X_81, ⟨Lc_81, hQ_81, l_81, y_81, z_81⟩, st_81⟩ := Jvm.LawKit.callS X_71 hx (y := M327) hown (mvT hZ (w37 hw)) (mvT hZ (w38 hw)) (mvT hZ (w4 hw)) (mvT hZ (w39 hw)) (by decide) (backOf (W := 0) (rm_hh_ l Z a0 hw [] G1 G3 HG h0 n0 X00 b k nn cs (10 : Int32) hp0 hl1 hla (by decide)) hZ (w39 hw) (w4 hw) (by decide) (by decide)) (g := (mkF m 85 #[.val (.ref b), .val (.int (2 : Int32))] [(.int (10 : Int32)), (.ref b)])) rfl (by rw [hml]; rfl) (argsL := [(.ref b), (.int (10 : Int32))]) (rest := []) (lenOf pd_364 rfl) rfl (by show 2 * 0 + _ ≤ _; exact Nat.le_of_eq rfl) (hb hby d18_85) (fun _ _ => ⟨rfl, e_77, (by decide : 0 + 0 ≤ _), (by decide : 0 + 0 ≤ _)⟩)
                  dsimp only [Pt.U, Pt.locs, Pt.cells, Pt.slots] at X_81 l_81 y_81 z_81 st_81 hQ_81
                  have X_81 := own_cast X_81 l_81 y_81 z_81
                  obtain ⟨i_82, rfl, N_83, e_84, g_85⟩ := hQ_81
                  have N_86 := Fr.app N_76 N_83
                  have e_87 : T_81.heap = h0 := e_84
                  have C_88 : Steps p.tables e below S0 (T_81.setTop (mkF m 88 #[.val (.ref b), .val (.int (2 : Int32))] [(.int i_82)])) := by
                    refine C_78.trans ?_
                    refine XS.ifNo X_71.here hx rfl (hb hby d18_77) rfl (i0_eq_f hc_79) ?_
                    refine XS.aloadN X_71.here hx rfl (hb hby d18_80) rfl rfl ?_
                    refine XS.iloadN X_71.here hx rfl (hb hby d18_81) rfl ?_
                    refine XS.bipush X_71.here hx rfl (hb hby d18_82) ?_
                    refine XS.iadd X_71.here hx rfl (hb hby d18_84) rfl ?_
                    refine st_81 _ ?_
                    exact Steps.refl _
                  by_cases hc_89 : i_82 = (0 : Int32)
                  · skip
                    have C_90 : Steps p.tables e below S0 (T_81.setTop (mkF m 140 #[.val (.ref b), .val (.int (2 : Int32))] [(.int (0 : Int32))])) := by
                      refine C_88.trans ?_
                      refine XS.ifYes X_81.here hx rfl (pc0 := 88) (pc' := 139) rfl (hb hby d18_88) rfl (i0_eq_t hc_89) (by decide) (by decide) ?_
                      refine XS.iconst X_81.here hx rfl (hb hby d18_139) ?_
                      exact Steps.refl _
                    obtain ⟨fs, hr, hrun, hended, hW, hsame⟩ := X_81.leave (v := some (.int (0 : Int32))) (fun h => by rw [Bd.returns] at h; cases h)
                    refine ⟨_, _, C_90.trans (retN X_81 hx (t := .boolean) Bd.returns (by simp) (hb hby d18_140) hr), hrun, hended, _, _, rfl, ?_, ⟨_, rfl⟩, hW, hsame.mono (by decide) (by decide)⟩
                    show Q_ww_2 Z G1 G3 b k nn cs h0 n0 (some (.int (0 : Int32))) T_81.heap _
                    rw [e_87]
                    exact ⟨(0 : Int32), rfl, N_86, rfl, (own_w0 (k := 8) (by decide) (own_rF g_85 hc_89))⟩
                  · skip
                    obtain ⟨_, _, ⟨T_91, L_91, k_91, n_91⟩, -, X_91, ⟨Lc_91, hQ_91, l_91, y_91, z_91⟩, st_91⟩ := Jvm.LawKit.callS X_81 hx (y := M327) hown (mvT hZ (w37 hw)) (mvT hZ (w38 hw)) (mvT hZ (w4 hw)) (mvT hZ (w39 hw)) (by decide) (backOf (W := 0) (rm_hh_ l Z a0 hw [] G1 G3 HG h0 n0 X00 b k nn cs (11 : Int32) hp0 hl1 hla (by decide)) hZ (w39 hw) (w4 hw) (by decide) (by decide)) (g := (mkF m 96 #[.val (.ref b), .val (.int (2 : Int32))] [(.int (11 : Int32)), (.ref b)])) rfl (by rw [hml]; rfl) (argsL := [(.ref b), (.int (11 : Int32))]) (rest := []) (lenOf pd_364 rfl) rfl (by show 2 * 0 + _ ≤ _; exact Nat.le_of_eq rfl) (hb hby d18_96) (fun _ _ => ⟨rfl, e_87, (by decide : 0 + 0 ≤ _), (by decide : 0 + 0 ≤ _)⟩)
                    dsimp only [Pt.U, Pt.locs, Pt.cells, Pt.slots] at X_91 l_91 y_91 z_91 st_91 hQ_91
                    have X_91 := own_cast X_91 l_91 y_91 z_91
                    obtain ⟨i_92, rfl, N_93, e_94, g_95⟩ := hQ_91
                    have N_96 := Fr.app N_86 N_93
                    have e_97 : T_91.heap = h0 := e_94
                    have C_98 : Steps p.tables e below S0 (T_91.setTop (mkF m 99 #[.val (.ref b), .val (.int (2 : Int32))] [(.int i_92)])) := by
                      refine C_88.trans ?_
                      refine XS.ifNo X_81.here hx rfl (hb hby d18_88) rfl (i0_eq_f hc_89) ?_
                      refine XS.aloadN X_81.here hx rfl (hb hby d18_91) rfl rfl ?_
                      refine XS.iloadN X_81.here hx rfl (hb hby d18_92) rfl ?_
                      refine XS.bipush X_81.here hx rfl (hb hby d18_93) ?_
                      refine XS.iadd X_81.here hx rfl (hb hby d18_95) rfl ?_
                      refine st_91 _ ?_
                      exact Steps.refl _
                    by_cases hc_99 : i_92 = (0 : Int32)
                    · skip
                      have C_100 : Steps p.tables e below S0 (T_91.setTop (mkF m 140 #[.val (.ref b), .val (.int (2 : Int32))] [(.int (0 : Int32))])) := by
                        refine C_98.trans ?_
                        refine XS.ifYes X_91.here hx rfl (pc0 := 99) (pc' := 139) rfl (hb hby d18_99) rfl (i0_eq_t hc_99) (by decide) (by decide) ?_
                        refine XS.iconst X_91.here hx rfl (hb hby d18_139) ?_
                        exact Steps.refl _
                      obtain ⟨fs, hr, hrun, hended, hW, hsame⟩ := X_91.leave (v := some (.int (0 : Int32))) (fun h => by rw [Bd.returns] at h; cases h)
                      refine ⟨_, _, C_100.trans (retN X_91 hx (t := .boolean) Bd.returns (by simp) (hb hby d18_140) hr), hrun, hended, _, _, rfl, ?_, ⟨_, rfl⟩, hW, hsame.mono (by decide) (by decide)⟩
                      show Q_ww_2 Z G1 G3 b k nn cs h0 n0 (some (.int (0 : Int32))) T_91.heap _
                      rw [e_97]
                      exact ⟨(0 : Int32), rfl, N_96, rfl, (own_w0 (k := 9) (by decide) (own_rF g_95 hc_99))⟩
                    · skip
                      obtain ⟨_, _, ⟨T_101, L_101, k_101, n_101⟩, -, X_101, ⟨Lc_101, hQ_101, l_101, y_101, z_101⟩, st_101⟩ := Jvm.LawKit.callS X_91 hx (y := M327) hown (mvT hZ (w37 hw)) (mvT hZ (w38 hw)) (mvT hZ (w4 hw)) (mvT hZ (w39 hw)) (by decide) (backOf (W := 0) (rm_hh_ l Z a0 hw [] G1 G3 HG h0 n0 X00 b k nn cs (12 : Int32) hp0 hl1 hla (by decide)) hZ (w39 hw) (w4 hw) (by decide) (by decide)) (g := (mkF m 107 #[.val (.ref b), .val (.int (2 : Int32))] [(.int (12 : Int32)), (.ref b)])) rfl (by rw [hml]; rfl) (argsL := [(.ref b), (.int (12 : Int32))]) (rest := []) (lenOf pd_364 rfl) rfl (by show 2 * 0 + _ ≤ _; exact Nat.le_of_eq rfl) (hb hby d18_107) (fun _ _ => ⟨rfl, e_97, (by decide : 0 + 0 ≤ _), (by decide : 0 + 0 ≤ _)⟩)
                      dsimp only [Pt.U, Pt.locs, Pt.cells, Pt.slots] at X_101 l_101 y_101 z_101 st_101 hQ_101
                      have X_101 := own_cast X_101 l_101 y_101 z_101
                      obtain ⟨i_102, rfl, N_103, e_104, g_105⟩ := hQ_101
                      have N_106 := Fr.app N_96 N_103
                      have e_107 : T_101.heap = h0 := e_104
                      have C_108 : Steps p.tables e below S0 (T_101.setTop (mkF m 110 #[.val (.ref b), .val (.int (2 : Int32))] [(.int i_102)])) := by
                        refine C_98.trans ?_
                        refine XS.ifNo X_91.here hx rfl (hb hby d18_99) rfl (i0_eq_f hc_99) ?_
                        refine XS.aloadN X_91.here hx rfl (hb hby d18_102) rfl rfl ?_
                        refine XS.iloadN X_91.here hx rfl (hb hby d18_103) rfl ?_
                        refine XS.bipush X_91.here hx rfl (hb hby d18_104) ?_
                        refine XS.iadd X_91.here hx rfl (hb hby d18_106) rfl ?_
                        refine st_101 _ ?_
                        exact Steps.refl _
                      by_cases hc_109 : i_102 = (0 : Int32)
                      · skip
                        have C_110 : Steps p.tables e below S0 (T_101.setTop (mkF m 140 #[.val (.ref b), .val (.int (2 : Int32))] [(.int (0 : Int32))])) := by
                          refine C_108.trans ?_
                          refine XS.ifYes X_101.here hx rfl (pc0 := 110) (pc' := 139) rfl (hb hby d18_110) rfl (i0_eq_t hc_109) (by decide) (by decide) ?_
                          refine XS.iconst X_101.here hx rfl (hb hby d18_139) ?_
                          exact Steps.refl _
                        obtain ⟨fs, hr, hrun, hended, hW, hsame⟩ := X_101.leave (v := some (.int (0 : Int32))) (fun h => by rw [Bd.returns] at h; cases h)
                        refine ⟨_, _, C_110.trans (retN X_101 hx (t := .boolean) Bd.returns (by simp) (hb hby d18_140) hr), hrun, hended, _, _, rfl, ?_, ⟨_, rfl⟩, hW, hsame.mono (by decide) (by decide)⟩
                        show Q_ww_2 Z G1 G3 b k nn cs h0 n0 (some (.int (0 : Int32))) T_101.heap _
                        rw [e_107]
                        exact ⟨(0 : Int32), rfl, N_106, rfl, (own_w0 (k := 10) (by decide) (own_rF g_105 hc_109))⟩
                      · skip
                        obtain ⟨_, _, ⟨T_111, L_111, k_111, n_111⟩, -, X_111, ⟨Lc_111, hQ_111, l_111, y_111, z_111⟩, st_111⟩ := Jvm.LawKit.callS X_101 hx (y := M327) hown (mvT hZ (w37 hw)) (mvT hZ (w38 hw)) (mvT hZ (w4 hw)) (mvT hZ (w39 hw)) (by decide) (backOf (W := 0) (rm_hh_ l Z a0 hw [] G1 G3 HG h0 n0 X00 b k nn cs (13 : Int32) hp0 hl1 hla (by decide)) hZ (w39 hw) (w4 hw) (by decide) (by decide)) (g := (mkF m 118 #[.val (.ref b), .val (.int (2 : Int32))] [(.int (13 : Int32)), (.ref b)])) rfl (by rw [hml]; rfl) (argsL := [(.ref b), (.int (13 : Int32))]) (rest := []) (lenOf pd_364 rfl) rfl (by show 2 * 0 + _ ≤ _; exact Nat.le_of_eq rfl) (hb hby d18_118) (fun _ _ => ⟨rfl, e_107, (by decide : 0 + 0 ≤ _), (by decide : 0 + 0 ≤ _)⟩)
                        dsimp only [Pt.U, Pt.locs, Pt.cells, Pt.slots] at X_111 l_111 y_111 z_111 st_111 hQ_111
                        have X_111 := own_cast X_111 l_111 y_111 z_111
                        obtain ⟨i_112, rfl, N_113, e_114, g_115⟩ := hQ_111
                        have N_116 := Fr.app N_106 N_113
                        have e_117 : T_111.heap = h0 := e_114
                        have C_118 : Steps p.tables e below S0 (T_111.setTop (mkF m 121 #[.val (.ref b), .val (.int (2 : Int32))] [(.int i_112)])) := by
                          refine C_108.trans ?_
                          refine XS.ifNo X_101.here hx rfl (hb hby d18_110) rfl (i0_eq_f hc_109) ?_
                          refine XS.aloadN X_101.here hx rfl (hb hby d18_113) rfl rfl ?_
                          refine XS.iloadN X_101.here hx rfl (hb hby d18_114) rfl ?_
                          refine XS.bipush X_101.here hx rfl (hb hby d18_115) ?_
                          refine XS.iadd X_101.here hx rfl (hb hby d18_117) rfl ?_
                          refine st_111 _ ?_
                          exact Steps.refl _
                        by_cases hc_119 : i_112 = (0 : Int32)
                        · skip
                          have C_120 : Steps p.tables e below S0 (T_111.setTop (mkF m 140 #[.val (.ref b), .val (.int (2 : Int32))] [(.int (0 : Int32))])) := by
                            refine C_118.trans ?_
                            refine XS.ifYes X_111.here hx rfl (pc0 := 121) (pc' := 139) rfl (hb hby d18_121) rfl (i0_eq_t hc_119) (by decide) (by decide) ?_
                            refine XS.iconst X_111.here hx rfl (hb hby d18_139) ?_
                            exact Steps.refl _
                          obtain ⟨fs, hr, hrun, hended, hW, hsame⟩ := X_111.leave (v := some (.int (0 : Int32))) (fun h => by rw [Bd.returns] at h; cases h)
                          refine ⟨_, _, C_120.trans (retN X_111 hx (t := .boolean) Bd.returns (by simp) (hb hby d18_140) hr), hrun, hended, _, _, rfl, ?_, ⟨_, rfl⟩, hW, hsame.mono (by decide) (by decide)⟩
                          show Q_ww_2 Z G1 G3 b k nn cs h0 n0 (some (.int (0 : Int32))) T_111.heap _
                          rw [e_117]
                          exact ⟨(0 : Int32), rfl, N_116, rfl, (own_w0 (k := 11) (by decide) (own_rF g_115 hc_119))⟩
                        · skip
                          obtain ⟨_, _, ⟨T_121, L_121, k_121, n_121⟩, -, X_121, ⟨Lc_121, hQ_121, l_121, y_121, z_121⟩, st_121⟩ := Jvm.LawKit.callS X_111 hx (y := M327) hown (mvT hZ (w37 hw)) (mvT hZ (w38 hw)) (mvT hZ (w4 hw)) (mvT hZ (w39 hw)) (by decide) (backOf (W := 0) (rm_hh_ l Z a0 hw [] G1 G3 HG h0 n0 X00 b k nn cs (14 : Int32) hp0 hl1 hla (by decide)) hZ (w39 hw) (w4 hw) (by decide) (by decide)) (g := (mkF m 129 #[.val (.ref b), .val (.int (2 : Int32))] [(.int (14 : Int32)), (.ref b)])) rfl (by rw [hml]; rfl) (argsL := [(.ref b), (.int (14 : Int32))]) (rest := []) (lenOf pd_364 rfl) rfl (by show 2 * 0 + _ ≤ _; exact Nat.le_of_eq rfl) (hb hby d18_129) (fun _ _ => ⟨rfl, e_117, (by decide : 0 + 0 ≤ _), (by decide : 0 + 0 ≤ _)⟩)
                          dsimp only [Pt.U, Pt.locs, Pt.cells, Pt.slots] at X_121 l_121 y_121 z_121 st_121 hQ_121
                          have X_121 := own_cast X_121 l_121 y_121 z_121
                          obtain ⟨i_122, rfl, N_123, e_124, g_125⟩ := hQ_121
                          have N_126 := Fr.app N_116 N_123
                          have e_127 : T_121.heap = h0 := e_124
                          have C_128 : Steps p.tables e below S0 (T_121.setTop (mkF m 132 #[.val (.ref b), .val (.int (2 : Int32))] [(.int i_122)])) := by
                            refine C_118.trans ?_
                            refine XS.ifNo X_111.here hx rfl (hb hby d18_121) rfl (i0_eq_f hc_119) ?_
                            refine XS.aloadN X_111.here hx rfl (hb hby d18_124) rfl rfl ?_
                            refine XS.iloadN X_111.here hx rfl (hb hby d18_125) rfl ?_
                            refine XS.bipush X_111.here hx rfl (hb hby d18_126) ?_
                            refine XS.iadd X_111.here hx rfl (hb hby d18_128) rfl ?_
                            refine st_121 _ ?_
                            exact Steps.refl _
                          by_cases hc_129 : i_122 = (0 : Int32)
                          · skip
                            have C_130 : Steps p.tables e below S0 (T_121.setTop (mkF m 140 #[.val (.ref b), .val (.int (2 : Int32))] [(.int (0 : Int32))])) := by
                              refine C_128.trans ?_
                              refine XS.ifYes X_121.here hx rfl (pc0 := 132) (pc' := 139) rfl (hb hby d18_132) rfl (i0_eq_t hc_129) (by decide) (by decide) ?_
                              refine XS.iconst X_121.here hx rfl (hb hby d18_139) ?_
                              exact Steps.refl _
                            obtain ⟨fs, hr, hrun, hended, hW, hsame⟩ := X_121.leave (v := some (.int (0 : Int32))) (fun h => by rw [Bd.returns] at h; cases h)
                            refine ⟨_, _, C_130.trans (retN X_121 hx (t := .boolean) Bd.returns (by simp) (hb hby d18_140) hr), hrun, hended, _, _, rfl, ?_, ⟨_, rfl⟩, hW, hsame.mono (by decide) (by decide)⟩
                            show Q_ww_2 Z G1 G3 b k nn cs h0 n0 (some (.int (0 : Int32))) T_121.heap _
                            rw [e_127]
                            exact ⟨(0 : Int32), rfl, N_126, rfl, (own_w0 (k := 12) (by decide) (own_rF g_125 hc_129))⟩
                          · skip
                            have C_131 : Steps p.tables e below S0 (T_121.setTop (mkF m 140 #[.val (.ref b), .val (.int (2 : Int32))] [(.int (1 : Int32))])) := by
                              refine C_128.trans ?_
                              refine XS.ifNo X_121.here hx rfl (hb hby d18_132) rfl (i0_eq_f hc_129) ?_
                              refine XS.iconst X_121.here hx rfl (hb hby d18_135) ?_
                              refine XS.goto X_121.here hx rfl (pc0 := 136) (pc' := 140) rfl (hb hby d18_136) (by decide) (by decide) ?_
                              exact Steps.refl _
                            obtain ⟨fs, hr, hrun, hended, hW, hsame⟩ := X_121.leave (v := some (.int (1 : Int32))) (fun h => by rw [Bd.returns] at h; cases h)
                            refine ⟨_, _, C_131.trans (retN X_121 hx (t := .boolean) Bd.returns (by simp) (hb hby d18_140) hr), hrun, hended, _, _, rfl, ?_, ⟨_, rfl⟩, hW, hsame.mono (by decide) (by decide)⟩
                            show Q_ww_2 Z G1 G3 b k nn cs h0 n0 (some (.int (1 : Int32))) T_121.heap _
                            rw [e_127]
                            exact ⟨(1 : Int32), rfl, N_126, rfl, (own_w1 (own_rT g_5 hc_9) (own_rT g_15 hc_19) (own_rT g_25 hc_29) (own_rT g_35 hc_39) (own_rT g_45 hc_49) (own_rT g_55 hc_59) (own_rT g_65 hc_69) (own_rT g_75 hc_79) (own_rT g_85 hc_89) (own_rT g_95 hc_99) (own_rT g_105 hc_109) (own_rT g_115 hc_119) (own_rT g_125 hc_129))⟩
abbrev R_ww_3 : Room := { frames := 2, cells := 0, slots := 0, locals := 25 }
def Q_ww_3 (Z : State) (G1 : Int32) (G3 : Value) (b : Addr) (k : ClassId) (nn : Int32) (cs : List Int32) (h0 : Heap) (n0 : Nat) (v : Option Value) (h : Heap) (L : List Loc) : Prop := (∃ rr : Int32, v = some (.int rr) ∧ Fr n0 L ∧ h = h0 ∧ (rr = own_b (own_w cs 3)))
set_option maxRecDepth 65536 in
set_option maxHeartbeats 40000000 in
theorem rm_ww_3 (l : Launch) (Z : State) (a0 : Array Value) (hw : ∀ d ∈ tables_1, d.before a0 Z = true) (ws : List Jvm.Cond) (G1 : Int32) (G3 : Value) (HG : own_G l Z a0 G1 G3) (h0 : Heap) (n0 : Nat) (X00 : Old Z n0 h0) (b : Addr) (k : ClassId) (nn : Int32) (cs : List Int32) (hp0 : Arv Z h0 b k .char nn (own_iv cs) (.int (0 : Int32))) (hl1 : cs.length = nn.toNatClampNeg) (hla : own_lat cs) :
    own_CP l Z M360 method_8_code 2 (some .boolean) ws R_ww_3 #[(.ref b), (.int (3 : Int32))] h0 (Q_ww_3 Z G1 G3 b k nn cs h0 n0) := by
  refine own_P (plainFor_of_name pn_218) ?_
  intro p e s m below meth c s₁ S0 Bd hZ hh hx hby hml hown hnm X0 e0 hS0d
  obtain ⟨O1, P1, O3f, rG3⟩ := id HG
  have N0 := Fr.nil n0
  have C0 : Steps p.tables e below S0 (s₁.setTop (mkF m 0 #[.val (.ref b), .val (.int (3 : Int32))] [])) := by rw [hS0d]; exact castTop (ef_50 m b (3 : Int32)) (Steps.refl _)
  obtain ⟨_, _, ⟨T_1, L_1, k_1, n_1⟩, -, X_1, ⟨Lc_1, hQ_1, l_1, y_1, z_1⟩, st_1⟩ := Jvm.LawKit.callS X0 hx (y := M327) hown (mvT hZ (w37 hw)) (mvT hZ (w38 hw)) (mvT hZ (w4 hw)) (mvT hZ (w39 hw)) (by decide) (backOf (W := 0) (rm_hh_ l Z a0 hw [] G1 G3 HG h0 n0 X00 b k nn cs (3 : Int32) hp0 hl1 hla (by decide)) hZ (w39 hw) (w4 hw) (by decide) (by decide)) (g := (mkF m 2 #[.val (.ref b), .val (.int (3 : Int32))] [(.int (3 : Int32)), (.ref b)])) rfl (by rw [hml]; rfl) (argsL := [(.ref b), (.int (3 : Int32))]) (rest := []) (lenOf pd_364 rfl) rfl (by show 2 * 0 + _ ≤ _; exact Nat.le_of_eq rfl) (hb hby d18_2) (fun _ _ => ⟨rfl, e0, (by decide : 0 + 0 ≤ _), (by decide : 0 + 0 ≤ _)⟩)
  dsimp only [Pt.U, Pt.locs, Pt.cells, Pt.slots] at X_1 l_1 y_1 z_1 st_1 hQ_1
  have X_1 := own_cast X_1 l_1 y_1 z_1
  obtain ⟨i_2, rfl, N_3, e_4, g_5⟩ := hQ_1
  have N_6 := Fr.app N0 N_3
  have e_7 : T_1.heap = h0 := e_4
  have C_8 : Steps p.tables e below S0 (T_1.setTop (mkF m 5 #[.val (.ref b), .val (.int (3 : Int32))] [(.int i_2)])) := by
    refine C0.trans ?_
    refine XS.aloadN X0.here hx rfl (hb hby d18_0) rfl rfl ?_
    refine XS.iloadN X0.here hx rfl (hb hby d18_1) rfl ?_
    refine st_1 _ ?_
    exact Steps.refl _
  by_cases hc_9 : i_2 = (0 : Int32)
  · skip
    have C_10 : Steps p.tables e below S0 (T_1.setTop (mkF m 140 #[.val (.ref b), .val (.int (3 : Int32))] [(.int (0 : Int32))])) := by
      refine C_8.trans ?_
      refine XS.ifYes X_1.here hx rfl (pc0 := 5) (pc' := 139) rfl (hb hby d18_5) rfl (i0_eq_t hc_9) (by decide) (by decide) ?_
      refine XS.iconst X_1.here hx rfl (hb hby d18_139) ?_
      exact Steps.refl _
    obtain ⟨fs, hr, hrun, hended, hW, hsame⟩ := X_1.leave (v := some (.int (0 : Int32))) (fun h => by rw [Bd.returns] at h; cases h)
    refine ⟨_, _, C_10.trans (retN X_1 hx (t := .boolean) Bd.returns (by simp) (hb hby d18_140) hr), hrun, hended, _, _, rfl, ?_, ⟨_, rfl⟩, hW, hsame.mono (by decide) (by decide)⟩
    show Q_ww_3 Z G1 G3 b k nn cs h0 n0 (some (.int (0 : Int32))) T_1.heap _
    rw [e_7]
    exact ⟨(0 : Int32), rfl, N_6, rfl, (own_w0 (k := 0) (by decide) (own_rF g_5 hc_9))⟩
  · skip
    obtain ⟨_, _, ⟨T_11, L_11, k_11, n_11⟩, -, X_11, ⟨Lc_11, hQ_11, l_11, y_11, z_11⟩, st_11⟩ := Jvm.LawKit.callS X_1 hx (y := M327) hown (mvT hZ (w37 hw)) (mvT hZ (w38 hw)) (mvT hZ (w4 hw)) (mvT hZ (w39 hw)) (by decide) (backOf (W := 0) (rm_hh_ l Z a0 hw [] G1 G3 HG h0 n0 X00 b k nn cs (4 : Int32) hp0 hl1 hla (by decide)) hZ (w39 hw) (w4 hw) (by decide) (by decide)) (g := (mkF m 12 #[.val (.ref b), .val (.int (3 : Int32))] [(.int (4 : Int32)), (.ref b)])) rfl (by rw [hml]; rfl) (argsL := [(.ref b), (.int (4 : Int32))]) (rest := []) (lenOf pd_364 rfl) rfl (by show 2 * 0 + _ ≤ _; exact Nat.le_of_eq rfl) (hb hby d18_12) (fun _ _ => ⟨rfl, e_7, (by decide : 0 + 0 ≤ _), (by decide : 0 + 0 ≤ _)⟩)
    dsimp only [Pt.U, Pt.locs, Pt.cells, Pt.slots] at X_11 l_11 y_11 z_11 st_11 hQ_11
    have X_11 := own_cast X_11 l_11 y_11 z_11
    obtain ⟨i_12, rfl, N_13, e_14, g_15⟩ := hQ_11
    have N_16 := Fr.app N_6 N_13
    have e_17 : T_11.heap = h0 := e_14
    have C_18 : Steps p.tables e below S0 (T_11.setTop (mkF m 15 #[.val (.ref b), .val (.int (3 : Int32))] [(.int i_12)])) := by
      refine C_8.trans ?_
      refine XS.ifNo X_1.here hx rfl (hb hby d18_5) rfl (i0_eq_f hc_9) ?_
      refine XS.aloadN X_1.here hx rfl (hb hby d18_8) rfl rfl ?_
      refine XS.iloadN X_1.here hx rfl (hb hby d18_9) rfl ?_
      refine XS.iconst X_1.here hx rfl (hb hby d18_10) ?_
      refine XS.iadd X_1.here hx rfl (hb hby d18_11) rfl ?_
      refine st_11 _ ?_
      exact Steps.refl _
    by_cases hc_19 : i_12 = (0 : Int32)
    · skip
      have C_20 : Steps p.tables e below S0 (T_11.setTop (mkF m 140 #[.val (.ref b), .val (.int (3 : Int32))] [(.int (0 : Int32))])) := by
        refine C_18.trans ?_
        refine XS.ifYes X_11.here hx rfl (pc0 := 15) (pc' := 139) rfl (hb hby d18_15) rfl (i0_eq_t hc_19) (by decide) (by decide) ?_
        refine XS.iconst X_11.here hx rfl (hb hby d18_139) ?_
        exact Steps.refl _
      obtain ⟨fs, hr, hrun, hended, hW, hsame⟩ := X_11.leave (v := some (.int (0 : Int32))) (fun h => by rw [Bd.returns] at h; cases h)
      refine ⟨_, _, C_20.trans (retN X_11 hx (t := .boolean) Bd.returns (by simp) (hb hby d18_140) hr), hrun, hended, _, _, rfl, ?_, ⟨_, rfl⟩, hW, hsame.mono (by decide) (by decide)⟩
      show Q_ww_3 Z G1 G3 b k nn cs h0 n0 (some (.int (0 : Int32))) T_11.heap _
      rw [e_17]
      exact ⟨(0 : Int32), rfl, N_16, rfl, (own_w0 (k := 1) (by decide) (own_rF g_15 hc_19))⟩
    · skip
      obtain ⟨_, _, ⟨T_21, L_21, k_21, n_21⟩, -, X_21, ⟨Lc_21, hQ_21, l_21, y_21, z_21⟩, st_21⟩ := Jvm.LawKit.callS X_11 hx (y := M327) hown (mvT hZ (w37 hw)) (mvT hZ (w38 hw)) (mvT hZ (w4 hw)) (mvT hZ (w39 hw)) (by decide) (backOf (W := 0) (rm_hh_ l Z a0 hw [] G1 G3 HG h0 n0 X00 b k nn cs (5 : Int32) hp0 hl1 hla (by decide)) hZ (w39 hw) (w4 hw) (by decide) (by decide)) (g := (mkF m 22 #[.val (.ref b), .val (.int (3 : Int32))] [(.int (5 : Int32)), (.ref b)])) rfl (by rw [hml]; rfl) (argsL := [(.ref b), (.int (5 : Int32))]) (rest := []) (lenOf pd_364 rfl) rfl (by show 2 * 0 + _ ≤ _; exact Nat.le_of_eq rfl) (hb hby d18_22) (fun _ _ => ⟨rfl, e_17, (by decide : 0 + 0 ≤ _), (by decide : 0 + 0 ≤ _)⟩)
      dsimp only [Pt.U, Pt.locs, Pt.cells, Pt.slots] at X_21 l_21 y_21 z_21 st_21 hQ_21
      have X_21 := own_cast X_21 l_21 y_21 z_21
      obtain ⟨i_22, rfl, N_23, e_24, g_25⟩ := hQ_21
      have N_26 := Fr.app N_16 N_23
      have e_27 : T_21.heap = h0 := e_24
      have C_28 : Steps p.tables e below S0 (T_21.setTop (mkF m 25 #[.val (.ref b), .val (.int (3 : Int32))] [(.int i_22)])) := by
        refine C_18.trans ?_
        refine XS.ifNo X_11.here hx rfl (hb hby d18_15) rfl (i0_eq_f hc_19) ?_
        refine XS.aloadN X_11.here hx rfl (hb hby d18_18) rfl rfl ?_
        refine XS.iloadN X_11.here hx rfl (hb hby d18_19) rfl ?_
        refine XS.iconst X_11.here hx rfl (hb hby d18_20) ?_
        refine XS.iadd X_11.here hx rfl (hb hby d18_21) rfl ?_
        refine st_21 _ ?_
        exact Steps.refl _
      by_cases hc_29 : i_22 = (0 : Int32)
      · skip
        have C_30 : Steps p.tables e below S0 (T_21.setTop (mkF m 140 #[.val (.ref b), .val (.int (3 : Int32))] [(.int (0 : Int32))])) := by
          refine C_28.trans ?_
          refine XS.ifYes X_21.here hx rfl (pc0 := 25) (pc' := 139) rfl (hb hby d18_25) rfl (i0_eq_t hc_29) (by decide) (by decide) ?_
          refine XS.iconst X_21.here hx rfl (hb hby d18_139) ?_
          exact Steps.refl _
        obtain ⟨fs, hr, hrun, hended, hW, hsame⟩ := X_21.leave (v := some (.int (0 : Int32))) (fun h => by rw [Bd.returns] at h; cases h)
        refine ⟨_, _, C_30.trans (retN X_21 hx (t := .boolean) Bd.returns (by simp) (hb hby d18_140) hr), hrun, hended, _, _, rfl, ?_, ⟨_, rfl⟩, hW, hsame.mono (by decide) (by decide)⟩
        show Q_ww_3 Z G1 G3 b k nn cs h0 n0 (some (.int (0 : Int32))) T_21.heap _
        rw [e_27]
        exact ⟨(0 : Int32), rfl, N_26, rfl, (own_w0 (k := 2) (by decide) (own_rF g_25 hc_29))⟩
      · skip
        obtain ⟨_, _, ⟨T_31, L_31, k_31, n_31⟩, -, X_31, ⟨Lc_31, hQ_31, l_31, y_31, z_31⟩, st_31⟩ := Jvm.LawKit.callS X_21 hx (y := M327) hown (mvT hZ (w37 hw)) (mvT hZ (w38 hw)) (mvT hZ (w4 hw)) (mvT hZ (w39 hw)) (by decide) (backOf (W := 0) (rm_hh_ l Z a0 hw [] G1 G3 HG h0 n0 X00 b k nn cs (6 : Int32) hp0 hl1 hla (by decide)) hZ (w39 hw) (w4 hw) (by decide) (by decide)) (g := (mkF m 32 #[.val (.ref b), .val (.int (3 : Int32))] [(.int (6 : Int32)), (.ref b)])) rfl (by rw [hml]; rfl) (argsL := [(.ref b), (.int (6 : Int32))]) (rest := []) (lenOf pd_364 rfl) rfl (by show 2 * 0 + _ ≤ _; exact Nat.le_of_eq rfl) (hb hby d18_32) (fun _ _ => ⟨rfl, e_27, (by decide : 0 + 0 ≤ _), (by decide : 0 + 0 ≤ _)⟩)
        dsimp only [Pt.U, Pt.locs, Pt.cells, Pt.slots] at X_31 l_31 y_31 z_31 st_31 hQ_31
        have X_31 := own_cast X_31 l_31 y_31 z_31
        obtain ⟨i_32, rfl, N_33, e_34, g_35⟩ := hQ_31
        have N_36 := Fr.app N_26 N_33
        have e_37 : T_31.heap = h0 := e_34
        have C_38 : Steps p.tables e below S0 (T_31.setTop (mkF m 35 #[.val (.ref b), .val (.int (3 : Int32))] [(.int i_32)])) := by
          refine C_28.trans ?_
          refine XS.ifNo X_21.here hx rfl (hb hby d18_25) rfl (i0_eq_f hc_29) ?_
          refine XS.aloadN X_21.here hx rfl (hb hby d18_28) rfl rfl ?_
          refine XS.iloadN X_21.here hx rfl (hb hby d18_29) rfl ?_
          refine XS.iconst X_21.here hx rfl (hb hby d18_30) ?_
          refine XS.iadd X_21.here hx rfl (hb hby d18_31) rfl ?_
          refine st_31 _ ?_
          exact Steps.refl _
        by_cases hc_39 : i_32 = (0 : Int32)
        · skip
          have C_40 : Steps p.tables e below S0 (T_31.setTop (mkF m 140 #[.val (.ref b), .val (.int (3 : Int32))] [(.int (0 : Int32))])) := by
            refine C_38.trans ?_
            refine XS.ifYes X_31.here hx rfl (pc0 := 35) (pc' := 139) rfl (hb hby d18_35) rfl (i0_eq_t hc_39) (by decide) (by decide) ?_
            refine XS.iconst X_31.here hx rfl (hb hby d18_139) ?_
            exact Steps.refl _
          obtain ⟨fs, hr, hrun, hended, hW, hsame⟩ := X_31.leave (v := some (.int (0 : Int32))) (fun h => by rw [Bd.returns] at h; cases h)
          refine ⟨_, _, C_40.trans (retN X_31 hx (t := .boolean) Bd.returns (by simp) (hb hby d18_140) hr), hrun, hended, _, _, rfl, ?_, ⟨_, rfl⟩, hW, hsame.mono (by decide) (by decide)⟩
          show Q_ww_3 Z G1 G3 b k nn cs h0 n0 (some (.int (0 : Int32))) T_31.heap _
          rw [e_37]
          exact ⟨(0 : Int32), rfl, N_36, rfl, (own_w0 (k := 3) (by decide) (own_rF g_35 hc_39))⟩
        · skip
          obtain ⟨_, _, ⟨T_41, L_41, k_41, n_41⟩, -, X_41, ⟨Lc_41, hQ_41, l_41, y_41, z_41⟩, st_41⟩ := Jvm.LawKit.callS X_31 hx (y := M327) hown (mvT hZ (w37 hw)) (mvT hZ (w38 hw)) (mvT hZ (w4 hw)) (mvT hZ (w39 hw)) (by decide) (backOf (W := 0) (rm_hh_ l Z a0 hw [] G1 G3 HG h0 n0 X00 b k nn cs (7 : Int32) hp0 hl1 hla (by decide)) hZ (w39 hw) (w4 hw) (by decide) (by decide)) (g := (mkF m 42 #[.val (.ref b), .val (.int (3 : Int32))] [(.int (7 : Int32)), (.ref b)])) rfl (by rw [hml]; rfl) (argsL := [(.ref b), (.int (7 : Int32))]) (rest := []) (lenOf pd_364 rfl) rfl (by show 2 * 0 + _ ≤ _; exact Nat.le_of_eq rfl) (hb hby d18_42) (fun _ _ => ⟨rfl, e_37, (by decide : 0 + 0 ≤ _), (by decide : 0 + 0 ≤ _)⟩)
          dsimp only [Pt.U, Pt.locs, Pt.cells, Pt.slots] at X_41 l_41 y_41 z_41 st_41 hQ_41
          have X_41 := own_cast X_41 l_41 y_41 z_41
          obtain ⟨i_42, rfl, N_43, e_44, g_45⟩ := hQ_41
          have N_46 := Fr.app N_36 N_43
          have e_47 : T_41.heap = h0 := e_44
          have C_48 : Steps p.tables e below S0 (T_41.setTop (mkF m 45 #[.val (.ref b), .val (.int (3 : Int32))] [(.int i_42)])) := by
            refine C_38.trans ?_
            refine XS.ifNo X_31.here hx rfl (hb hby d18_35) rfl (i0_eq_f hc_39) ?_
            refine XS.aloadN X_31.here hx rfl (hb hby d18_38) rfl rfl ?_
            refine XS.iloadN X_31.here hx rfl (hb hby d18_39) rfl ?_
            refine XS.iconst X_31.here hx rfl (hb hby d18_40) ?_
            refine XS.iadd X_31.here hx rfl (hb hby d18_41) rfl ?_
            refine st_41 _ ?_
            exact Steps.refl _
          by_cases hc_49 : i_42 = (0 : Int32)
          · skip
            have C_50 : Steps p.tables e below S0 (T_41.setTop (mkF m 140 #[.val (.ref b), .val (.int (3 : Int32))] [(.int (0 : Int32))])) := by
              refine C_48.trans ?_
              refine XS.ifYes X_41.here hx rfl (pc0 := 45) (pc' := 139) rfl (hb hby d18_45) rfl (i0_eq_t hc_49) (by decide) (by decide) ?_
              refine XS.iconst X_41.here hx rfl (hb hby d18_139) ?_
              exact Steps.refl _
            obtain ⟨fs, hr, hrun, hended, hW, hsame⟩ := X_41.leave (v := some (.int (0 : Int32))) (fun h => by rw [Bd.returns] at h; cases h)
            refine ⟨_, _, C_50.trans (retN X_41 hx (t := .boolean) Bd.returns (by simp) (hb hby d18_140) hr), hrun, hended, _, _, rfl, ?_, ⟨_, rfl⟩, hW, hsame.mono (by decide) (by decide)⟩
            show Q_ww_3 Z G1 G3 b k nn cs h0 n0 (some (.int (0 : Int32))) T_41.heap _
            rw [e_47]
            exact ⟨(0 : Int32), rfl, N_46, rfl, (own_w0 (k := 4) (by decide) (own_rF g_45 hc_49))⟩
          · skip
            obtain ⟨_, _, ⟨T_51, L_51, k_51, n_51⟩, -, X_51, ⟨Lc_51, hQ_51, l_51, y_51, z_51⟩, st_51⟩ := Jvm.LawKit.callS X_41 hx (y := M327) hown (mvT hZ (w37 hw)) (mvT hZ (w38 hw)) (mvT hZ (w4 hw)) (mvT hZ (w39 hw)) (by decide) (backOf (W := 0) (rm_hh_ l Z a0 hw [] G1 G3 HG h0 n0 X00 b k nn cs (8 : Int32) hp0 hl1 hla (by decide)) hZ (w39 hw) (w4 hw) (by decide) (by decide)) (g := (mkF m 52 #[.val (.ref b), .val (.int (3 : Int32))] [(.int (8 : Int32)), (.ref b)])) rfl (by rw [hml]; rfl) (argsL := [(.ref b), (.int (8 : Int32))]) (rest := []) (lenOf pd_364 rfl) rfl (by show 2 * 0 + _ ≤ _; exact Nat.le_of_eq rfl) (hb hby d18_52) (fun _ _ => ⟨rfl, e_47, (by decide : 0 + 0 ≤ _), (by decide : 0 + 0 ≤ _)⟩)
            dsimp only [Pt.U, Pt.locs, Pt.cells, Pt.slots] at X_51 l_51 y_51 z_51 st_51 hQ_51
            have X_51 := own_cast X_51 l_51 y_51 z_51
            obtain ⟨i_52, rfl, N_53, e_54, g_55⟩ := hQ_51
            have N_56 := Fr.app N_46 N_53
            have e_57 : T_51.heap = h0 := e_54
            have C_58 : Steps p.tables e below S0 (T_51.setTop (mkF m 55 #[.val (.ref b), .val (.int (3 : Int32))] [(.int i_52)])) := by
              refine C_48.trans ?_
              refine XS.ifNo X_41.here hx rfl (hb hby d18_45) rfl (i0_eq_f hc_49) ?_
              refine XS.aloadN X_41.here hx rfl (hb hby d18_48) rfl rfl ?_
              refine XS.iloadN X_41.here hx rfl (hb hby d18_49) rfl ?_
              refine XS.iconst X_41.here hx rfl (hb hby d18_50) ?_
              refine XS.iadd X_41.here hx rfl (hb hby d18_51) rfl ?_
              refine st_51 _ ?_
              exact Steps.refl _
            by_cases hc_59 : i_52 = (0 : Int32)
            · skip
              have C_60 : Steps p.tables e below S0 (T_51.setTop (mkF m 140 #[.val (.ref b), .val (.int (3 : Int32))] [(.int (0 : Int32))])) := by
                refine C_58.trans ?_
                refine XS.ifYes X_51.here hx rfl (pc0 := 55) (pc' := 139) rfl (hb hby d18_55) rfl (i0_eq_t hc_59) (by decide) (by decide) ?_
                refine XS.iconst X_51.here hx rfl (hb hby d18_139) ?_
                exact Steps.refl _
              obtain ⟨fs, hr, hrun, hended, hW, hsame⟩ := X_51.leave (v := some (.int (0 : Int32))) (fun h => by rw [Bd.returns] at h; cases h)
              refine ⟨_, _, C_60.trans (retN X_51 hx (t := .boolean) Bd.returns (by simp) (hb hby d18_140) hr), hrun, hended, _, _, rfl, ?_, ⟨_, rfl⟩, hW, hsame.mono (by decide) (by decide)⟩
              show Q_ww_3 Z G1 G3 b k nn cs h0 n0 (some (.int (0 : Int32))) T_51.heap _
              rw [e_57]
              exact ⟨(0 : Int32), rfl, N_56, rfl, (own_w0 (k := 5) (by decide) (own_rF g_55 hc_59))⟩
            · skip
              obtain ⟨_, _, ⟨T_61, L_61, k_61, n_61⟩, -, X_61, ⟨Lc_61, hQ_61, l_61, y_61, z_61⟩, st_61⟩ := Jvm.LawKit.callS X_51 hx (y := M327) hown (mvT hZ (w37 hw)) (mvT hZ (w38 hw)) (mvT hZ (w4 hw)) (mvT hZ (w39 hw)) (by decide) (backOf (W := 0) (rm_hh_ l Z a0 hw [] G1 G3 HG h0 n0 X00 b k nn cs (9 : Int32) hp0 hl1 hla (by decide)) hZ (w39 hw) (w4 hw) (by decide) (by decide)) (g := (mkF m 63 #[.val (.ref b), .val (.int (3 : Int32))] [(.int (9 : Int32)), (.ref b)])) rfl (by rw [hml]; rfl) (argsL := [(.ref b), (.int (9 : Int32))]) (rest := []) (lenOf pd_364 rfl) rfl (by show 2 * 0 + _ ≤ _; exact Nat.le_of_eq rfl) (hb hby d18_63) (fun _ _ => ⟨rfl, e_57, (by decide : 0 + 0 ≤ _), (by decide : 0 + 0 ≤ _)⟩)
              dsimp only [Pt.U, Pt.locs, Pt.cells, Pt.slots] at X_61 l_61 y_61 z_61 st_61 hQ_61
              have X_61 := own_cast X_61 l_61 y_61 z_61
              obtain ⟨i_62, rfl, N_63, e_64, g_65⟩ := hQ_61
              have N_66 := Fr.app N_56 N_63
              have e_67 : T_61.heap = h0 := e_64
              have C_68 : Steps p.tables e below S0 (T_61.setTop (mkF m 66 #[.val (.ref b), .val (.int (3 : Int32))] [(.int i_62)])) := by
                refine C_58.trans ?_
                refine XS.ifNo X_51.here hx rfl (hb hby d18_55) rfl (i0_eq_f hc_59) ?_
                refine XS.aloadN X_51.here hx rfl (hb hby d18_58) rfl rfl ?_
                refine XS.iloadN X_51.here hx rfl (hb hby d18_59) rfl ?_
                refine XS.bipush X_51.here hx rfl (hb hby d18_60) ?_
                refine XS.iadd X_51.here hx rfl (hb hby d18_62) rfl ?_
                refine st_61 _ ?_
                exact Steps.refl _
              by_cases hc_69 : i_62 = (0 : Int32)
              · skip
                have C_70 : Steps p.tables e below S0 (T_61.setTop (mkF m 140 #[.val (.ref b), .val (.int (3 : Int32))] [(.int (0 : Int32))])) := by
                  refine C_68.trans ?_
                  refine XS.ifYes X_61.here hx rfl (pc0 := 66) (pc' := 139) rfl (hb hby d18_66) rfl (i0_eq_t hc_69) (by decide) (by decide) ?_
                  refine XS.iconst X_61.here hx rfl (hb hby d18_139) ?_
                  exact Steps.refl _
                obtain ⟨fs, hr, hrun, hended, hW, hsame⟩ := X_61.leave (v := some (.int (0 : Int32))) (fun h => by rw [Bd.returns] at h; cases h)
                refine ⟨_, _, C_70.trans (retN X_61 hx (t := .boolean) Bd.returns (by simp) (hb hby d18_140) hr), hrun, hended, _, _, rfl, ?_, ⟨_, rfl⟩, hW, hsame.mono (by decide) (by decide)⟩
                show Q_ww_3 Z G1 G3 b k nn cs h0 n0 (some (.int (0 : Int32))) T_61.heap _
                rw [e_67]
                exact ⟨(0 : Int32), rfl, N_66, rfl, (own_w0 (k := 6) (by decide) (own_rF g_65 hc_69))⟩
              · skip
                obtain ⟨_, _, ⟨T_71, L_71, k_71, n_71⟩, -, X_71, ⟨Lc_71, hQ_71, l_71, y_71, z_71⟩, st_71⟩ := Jvm.LawKit.callS X_61 hx (y := M327) hown (mvT hZ (w37 hw)) (mvT hZ (w38 hw)) (mvT hZ (w4 hw)) (mvT hZ (w39 hw)) (by decide) (backOf (W := 0) (rm_hh_ l Z a0 hw [] G1 G3 HG h0 n0 X00 b k nn cs (10 : Int32) hp0 hl1 hla (by decide)) hZ (w39 hw) (w4 hw) (by decide) (by decide)) (g := (mkF m 74 #[.val (.ref b), .val (.int (3 : Int32))] [(.int (10 : Int32)), (.ref b)])) rfl (by rw [hml]; rfl) (argsL := [(.ref b), (.int (10 : Int32))]) (rest := []) (lenOf pd_364 rfl) rfl (by show 2 * 0 + _ ≤ _; exact Nat.le_of_eq rfl) (hb hby d18_74) (fun _ _ => ⟨rfl, e_67, (by decide : 0 + 0 ≤ _), (by decide : 0 + 0 ≤ _)⟩)
                dsimp only [Pt.U, Pt.locs, Pt.cells, Pt.slots] at X_71 l_71 y_71 z_71 st_71 hQ_71
                have X_71 := own_cast X_71 l_71 y_71 z_71
                obtain ⟨i_72, rfl, N_73, e_74, g_75⟩ := hQ_71
                have N_76 := Fr.app N_66 N_73
                have e_77 : T_71.heap = h0 := e_74
                have C_78 : Steps p.tables e below S0 (T_71.setTop (mkF m 77 #[.val (.ref b), .val (.int (3 : Int32))] [(.int i_72)])) := by
                  refine C_68.trans ?_
                  refine XS.ifNo X_61.here hx rfl (hb hby d18_66) rfl (i0_eq_f hc_69) ?_
                  refine XS.aloadN X_61.here hx rfl (hb hby d18_69) rfl rfl ?_
                  refine XS.iloadN X_61.here hx rfl (hb hby d18_70) rfl ?_
                  refine XS.bipush X_61.here hx rfl (hb hby d18_71) ?_
                  refine XS.iadd X_61.here hx rfl (hb hby d18_73) rfl ?_
                  refine st_71 _ ?_
                  exact Steps.refl _
                by_cases hc_79 : i_72 = (0 : Int32)
                · skip
                  have C_80 : Steps p.tables e below S0 (T_71.setTop (mkF m 140 #[.val (.ref b), .val (.int (3 : Int32))] [(.int (0 : Int32))])) := by
                    refine C_78.trans ?_
                    refine XS.ifYes X_71.here hx rfl (pc0 := 77) (pc' := 139) rfl (hb hby d18_77) rfl (i0_eq_t hc_79) (by decide) (by decide) ?_
                    refine XS.iconst X_71.here hx rfl (hb hby d18_139) ?_
                    exact Steps.refl _
                  obtain ⟨fs, hr, hrun, hended, hW, hsame⟩ := X_71.leave (v := some (.int (0 : Int32))) (fun h => by rw [Bd.returns] at h; cases h)
                  refine ⟨_, _, C_80.trans (retN X_71 hx (t := .boolean) Bd.returns (by simp) (hb hby d18_140) hr), hrun, hended, _, _, rfl, ?_, ⟨_, rfl⟩, hW, hsame.mono (by decide) (by decide)⟩
                  show Q_ww_3 Z G1 G3 b k nn cs h0 n0 (some (.int (0 : Int32))) T_71.heap _
                  rw [e_77]
                  exact ⟨(0 : Int32), rfl, N_76, rfl, (own_w0 (k := 7) (by decide) (own_rF g_75 hc_79))⟩
                · skip
                  obtain ⟨_, _, ⟨T_81, L_81, k_81, n_81⟩, -, X_81, ⟨Lc_81, hQ_81, l_81, y_81, z_81⟩, st_81⟩ := Jvm.LawKit.callS X_71 hx (y := M327) hown (mvT hZ (w37 hw)) (mvT hZ (w38 hw)) (mvT hZ (w4 hw)) (mvT hZ (w39 hw)) (by decide) (backOf (W := 0) (rm_hh_ l Z a0 hw [] G1 G3 HG h0 n0 X00 b k nn cs (11 : Int32) hp0 hl1 hla (by decide)) hZ (w39 hw) (w4 hw) (by decide) (by decide)) (g := (mkF m 85 #[.val (.ref b), .val (.int (3 : Int32))] [(.int (11 : Int32)), (.ref b)])) rfl (by rw [hml]; rfl) (argsL := [(.ref b), (.int (11 : Int32))]) (rest := []) (lenOf pd_364 rfl) rfl (by show 2 * 0 + _ ≤ _; exact Nat.le_of_eq rfl) (hb hby d18_85) (fun _ _ => ⟨rfl, e_77, (by decide : 0 + 0 ≤ _), (by decide : 0 + 0 ≤ _)⟩)
                  dsimp only [Pt.U, Pt.locs, Pt.cells, Pt.slots] at X_81 l_81 y_81 z_81 st_81 hQ_81
                  have X_81 := own_cast X_81 l_81 y_81 z_81
                  obtain ⟨i_82, rfl, N_83, e_84, g_85⟩ := hQ_81
                  have N_86 := Fr.app N_76 N_83
                  have e_87 : T_81.heap = h0 := e_84
                  have C_88 : Steps p.tables e below S0 (T_81.setTop (mkF m 88 #[.val (.ref b), .val (.int (3 : Int32))] [(.int i_82)])) := by
                    refine C_78.trans ?_
                    refine XS.ifNo X_71.here hx rfl (hb hby d18_77) rfl (i0_eq_f hc_79) ?_
                    refine XS.aloadN X_71.here hx rfl (hb hby d18_80) rfl rfl ?_
                    refine XS.iloadN X_71.here hx rfl (hb hby d18_81) rfl ?_
                    refine XS.bipush X_71.here hx rfl (hb hby d18_82) ?_
                    refine XS.iadd X_71.here hx rfl (hb hby d18_84) rfl ?_
                    refine st_81 _ ?_
                    exact Steps.refl _
                  by_cases hc_89 : i_82 = (0 : Int32)
                  · skip
                    have C_90 : Steps p.tables e below S0 (T_81.setTop (mkF m 140 #[.val (.ref b), .val (.int (3 : Int32))] [(.int (0 : Int32))])) := by
                      refine C_88.trans ?_
                      refine XS.ifYes X_81.here hx rfl (pc0 := 88) (pc' := 139) rfl (hb hby d18_88) rfl (i0_eq_t hc_89) (by decide) (by decide) ?_
                      refine XS.iconst X_81.here hx rfl (hb hby d18_139) ?_
                      exact Steps.refl _
                    obtain ⟨fs, hr, hrun, hended, hW, hsame⟩ := X_81.leave (v := some (.int (0 : Int32))) (fun h => by rw [Bd.returns] at h; cases h)
                    refine ⟨_, _, C_90.trans (retN X_81 hx (t := .boolean) Bd.returns (by simp) (hb hby d18_140) hr), hrun, hended, _, _, rfl, ?_, ⟨_, rfl⟩, hW, hsame.mono (by decide) (by decide)⟩
                    show Q_ww_3 Z G1 G3 b k nn cs h0 n0 (some (.int (0 : Int32))) T_81.heap _
                    rw [e_87]
                    exact ⟨(0 : Int32), rfl, N_86, rfl, (own_w0 (k := 8) (by decide) (own_rF g_85 hc_89))⟩
                  · skip
                    obtain ⟨_, _, ⟨T_91, L_91, k_91, n_91⟩, -, X_91, ⟨Lc_91, hQ_91, l_91, y_91, z_91⟩, st_91⟩ := Jvm.LawKit.callS X_81 hx (y := M327) hown (mvT hZ (w37 hw)) (mvT hZ (w38 hw)) (mvT hZ (w4 hw)) (mvT hZ (w39 hw)) (by decide) (backOf (W := 0) (rm_hh_ l Z a0 hw [] G1 G3 HG h0 n0 X00 b k nn cs (12 : Int32) hp0 hl1 hla (by decide)) hZ (w39 hw) (w4 hw) (by decide) (by decide)) (g := (mkF m 96 #[.val (.ref b), .val (.int (3 : Int32))] [(.int (12 : Int32)), (.ref b)])) rfl (by rw [hml]; rfl) (argsL := [(.ref b), (.int (12 : Int32))]) (rest := []) (lenOf pd_364 rfl) rfl (by show 2 * 0 + _ ≤ _; exact Nat.le_of_eq rfl) (hb hby d18_96) (fun _ _ => ⟨rfl, e_87, (by decide : 0 + 0 ≤ _), (by decide : 0 + 0 ≤ _)⟩)
                    dsimp only [Pt.U, Pt.locs, Pt.cells, Pt.slots] at X_91 l_91 y_91 z_91 st_91 hQ_91
                    have X_91 := own_cast X_91 l_91 y_91 z_91
                    obtain ⟨i_92, rfl, N_93, e_94, g_95⟩ := hQ_91
                    have N_96 := Fr.app N_86 N_93
                    have e_97 : T_91.heap = h0 := e_94
                    have C_98 : Steps p.tables e below S0 (T_91.setTop (mkF m 99 #[.val (.ref b), .val (.int (3 : Int32))] [(.int i_92)])) := by
                      refine C_88.trans ?_
                      refine XS.ifNo X_81.here hx rfl (hb hby d18_88) rfl (i0_eq_f hc_89) ?_
                      refine XS.aloadN X_81.here hx rfl (hb hby d18_91) rfl rfl ?_
                      refine XS.iloadN X_81.here hx rfl (hb hby d18_92) rfl ?_
                      refine XS.bipush X_81.here hx rfl (hb hby d18_93) ?_
                      refine XS.iadd X_81.here hx rfl (hb hby d18_95) rfl ?_
                      refine st_91 _ ?_
                      exact Steps.refl _
                    by_cases hc_99 : i_92 = (0 : Int32)
                    · skip
                      have C_100 : Steps p.tables e below S0 (T_91.setTop (mkF m 140 #[.val (.ref b), .val (.int (3 : Int32))] [(.int (0 : Int32))])) := by
                        refine C_98.trans ?_
                        refine XS.ifYes X_91.here hx rfl (pc0 := 99) (pc' := 139) rfl (hb hby d18_99) rfl (i0_eq_t hc_99) (by decide) (by decide) ?_
                        refine XS.iconst X_91.here hx rfl (hb hby d18_139) ?_
                        exact Steps.refl _
                      obtain ⟨fs, hr, hrun, hended, hW, hsame⟩ := X_91.leave (v := some (.int (0 : Int32))) (fun h => by rw [Bd.returns] at h; cases h)
                      refine ⟨_, _, C_100.trans (retN X_91 hx (t := .boolean) Bd.returns (by simp) (hb hby d18_140) hr), hrun, hended, _, _, rfl, ?_, ⟨_, rfl⟩, hW, hsame.mono (by decide) (by decide)⟩
                      show Q_ww_3 Z G1 G3 b k nn cs h0 n0 (some (.int (0 : Int32))) T_91.heap _
                      rw [e_97]
                      exact ⟨(0 : Int32), rfl, N_96, rfl, (own_w0 (k := 9) (by decide) (own_rF g_95 hc_99))⟩
                    · skip
                      obtain ⟨_, _, ⟨T_101, L_101, k_101, n_101⟩, -, X_101, ⟨Lc_101, hQ_101, l_101, y_101, z_101⟩, st_101⟩ := Jvm.LawKit.callS X_91 hx (y := M327) hown (mvT hZ (w37 hw)) (mvT hZ (w38 hw)) (mvT hZ (w4 hw)) (mvT hZ (w39 hw)) (by decide) (backOf (W := 0) (rm_hh_ l Z a0 hw [] G1 G3 HG h0 n0 X00 b k nn cs (13 : Int32) hp0 hl1 hla (by decide)) hZ (w39 hw) (w4 hw) (by decide) (by decide)) (g := (mkF m 107 #[.val (.ref b), .val (.int (3 : Int32))] [(.int (13 : Int32)), (.ref b)])) rfl (by rw [hml]; rfl) (argsL := [(.ref b), (.int (13 : Int32))]) (rest := []) (lenOf pd_364 rfl) rfl (by show 2 * 0 + _ ≤ _; exact Nat.le_of_eq rfl) (hb hby d18_107) (fun _ _ => ⟨rfl, e_97, (by decide : 0 + 0 ≤ _), (by decide : 0 + 0 ≤ _)⟩)
                      dsimp only [Pt.U, Pt.locs, Pt.cells, Pt.slots] at X_101 l_101 y_101 z_101 st_101 hQ_101
                      have X_101 := own_cast X_101 l_101 y_101 z_101
                      obtain ⟨i_102, rfl, N_103, e_104, g_105⟩ := hQ_101
                      have N_106 := Fr.app N_96 N_103
                      have e_107 : T_101.heap = h0 := e_104
                      have C_108 : Steps p.tables e below S0 (T_101.setTop (mkF m 110 #[.val (.ref b), .val (.int (3 : Int32))] [(.int i_102)])) := by
                        refine C_98.trans ?_
                        refine XS.ifNo X_91.here hx rfl (hb hby d18_99) rfl (i0_eq_f hc_99) ?_
                        refine XS.aloadN X_91.here hx rfl (hb hby d18_102) rfl rfl ?_
                        refine XS.iloadN X_91.here hx rfl (hb hby d18_103) rfl ?_
                        refine XS.bipush X_91.here hx rfl (hb hby d18_104) ?_
                        refine XS.iadd X_91.here hx rfl (hb hby d18_106) rfl ?_
                        refine st_101 _ ?_
                        exact Steps.refl _
                      by_cases hc_109 : i_102 = (0 : Int32)
                      · skip
                        have C_110 : Steps p.tables e below S0 (T_101.setTop (mkF m 140 #[.val (.ref b), .val (.int (3 : Int32))] [(.int (0 : Int32))])) := by
                          refine C_108.trans ?_
                          refine XS.ifYes X_101.here hx rfl (pc0 := 110) (pc' := 139) rfl (hb hby d18_110) rfl (i0_eq_t hc_109) (by decide) (by decide) ?_
                          refine XS.iconst X_101.here hx rfl (hb hby d18_139) ?_
                          exact Steps.refl _
                        obtain ⟨fs, hr, hrun, hended, hW, hsame⟩ := X_101.leave (v := some (.int (0 : Int32))) (fun h => by rw [Bd.returns] at h; cases h)
                        refine ⟨_, _, C_110.trans (retN X_101 hx (t := .boolean) Bd.returns (by simp) (hb hby d18_140) hr), hrun, hended, _, _, rfl, ?_, ⟨_, rfl⟩, hW, hsame.mono (by decide) (by decide)⟩
                        show Q_ww_3 Z G1 G3 b k nn cs h0 n0 (some (.int (0 : Int32))) T_101.heap _
                        rw [e_107]
                        exact ⟨(0 : Int32), rfl, N_106, rfl, (own_w0 (k := 10) (by decide) (own_rF g_105 hc_109))⟩
                      · skip
                        obtain ⟨_, _, ⟨T_111, L_111, k_111, n_111⟩, -, X_111, ⟨Lc_111, hQ_111, l_111, y_111, z_111⟩, st_111⟩ := Jvm.LawKit.callS X_101 hx (y := M327) hown (mvT hZ (w37 hw)) (mvT hZ (w38 hw)) (mvT hZ (w4 hw)) (mvT hZ (w39 hw)) (by decide) (backOf (W := 0) (rm_hh_ l Z a0 hw [] G1 G3 HG h0 n0 X00 b k nn cs (14 : Int32) hp0 hl1 hla (by decide)) hZ (w39 hw) (w4 hw) (by decide) (by decide)) (g := (mkF m 118 #[.val (.ref b), .val (.int (3 : Int32))] [(.int (14 : Int32)), (.ref b)])) rfl (by rw [hml]; rfl) (argsL := [(.ref b), (.int (14 : Int32))]) (rest := []) (lenOf pd_364 rfl) rfl (by show 2 * 0 + _ ≤ _; exact Nat.le_of_eq rfl) (hb hby d18_118) (fun _ _ => ⟨rfl, e_107, (by decide : 0 + 0 ≤ _), (by decide : 0 + 0 ≤ _)⟩)
                        dsimp only [Pt.U, Pt.locs, Pt.cells, Pt.slots] at X_111 l_111 y_111 z_111 st_111 hQ_111
                        have X_111 := own_cast X_111 l_111 y_111 z_111
                        obtain ⟨i_112, rfl, N_113, e_114, g_115⟩ := hQ_111
                        have N_116 := Fr.app N_106 N_113
                        have e_117 : T_111.heap = h0 := e_114
                        have C_118 : Steps p.tables e below S0 (T_111.setTop (mkF m 121 #[.val (.ref b), .val (.int (3 : Int32))] [(.int i_112)])) := by
                          refine C_108.trans ?_
                          refine XS.ifNo X_101.here hx rfl (hb hby d18_110) rfl (i0_eq_f hc_109) ?_
                          refine XS.aloadN X_101.here hx rfl (hb hby d18_113) rfl rfl ?_
                          refine XS.iloadN X_101.here hx rfl (hb hby d18_114) rfl ?_
                          refine XS.bipush X_101.here hx rfl (hb hby d18_115) ?_
                          refine XS.iadd X_101.here hx rfl (hb hby d18_117) rfl ?_
                          refine st_111 _ ?_
                          exact Steps.refl _
                        by_cases hc_119 : i_112 = (0 : Int32)
                        · skip
                          have C_120 : Steps p.tables e below S0 (T_111.setTop (mkF m 140 #[.val (.ref b), .val (.int (3 : Int32))] [(.int (0 : Int32))])) := by
                            refine C_118.trans ?_
                            refine XS.ifYes X_111.here hx rfl (pc0 := 121) (pc' := 139) rfl (hb hby d18_121) rfl (i0_eq_t hc_119) (by decide) (by decide) ?_
                            refine XS.iconst X_111.here hx rfl (hb hby d18_139) ?_
                            exact Steps.refl _
                          obtain ⟨fs, hr, hrun, hended, hW, hsame⟩ := X_111.leave (v := some (.int (0 : Int32))) (fun h => by rw [Bd.returns] at h; cases h)
                          refine ⟨_, _, C_120.trans (retN X_111 hx (t := .boolean) Bd.returns (by simp) (hb hby d18_140) hr), hrun, hended, _, _, rfl, ?_, ⟨_, rfl⟩, hW, hsame.mono (by decide) (by decide)⟩
                          show Q_ww_3 Z G1 G3 b k nn cs h0 n0 (some (.int (0 : Int32))) T_111.heap _
                          rw [e_117]
                          exact ⟨(0 : Int32), rfl, N_116, rfl, (own_w0 (k := 11) (by decide) (own_rF g_115 hc_119))⟩
                        · skip
                          obtain ⟨_, _, ⟨T_121, L_121, k_121, n_121⟩, -, X_121, ⟨Lc_121, hQ_121, l_121, y_121, z_121⟩, st_121⟩ := Jvm.LawKit.callS X_111 hx (y := M327) hown (mvT hZ (w37 hw)) (mvT hZ (w38 hw)) (mvT hZ (w4 hw)) (mvT hZ (w39 hw)) (by decide) (backOf (W := 0) (rm_hh_ l Z a0 hw [] G1 G3 HG h0 n0 X00 b k nn cs (15 : Int32) hp0 hl1 hla (by decide)) hZ (w39 hw) (w4 hw) (by decide) (by decide)) (g := (mkF m 129 #[.val (.ref b), .val (.int (3 : Int32))] [(.int (15 : Int32)), (.ref b)])) rfl (by rw [hml]; rfl) (argsL := [(.ref b), (.int (15 : Int32))]) (rest := []) (lenOf pd_364 rfl) rfl (by show 2 * 0 + _ ≤ _; exact Nat.le_of_eq rfl) (hb hby d18_129) (fun _ _ => ⟨rfl, e_117, (by decide : 0 + 0 ≤ _), (by decide : 0 + 0 ≤ _)⟩)
                          dsimp only [Pt.U, Pt.locs, Pt.cells, Pt.slots] at X_121 l_121 y_121 z_121 st_121 hQ_121
                          have X_121 := own_cast X_121 l_121 y_121 z_121
                          obtain ⟨i_122, rfl, N_123, e_124, g_125⟩ := hQ_121
                          have N_126 := Fr.app N_116 N_123
                          have e_127 : T_121.heap = h0 := e_124
                          have C_128 : Steps p.tables e below S0 (T_121.setTop (mkF m 132 #[.val (.ref b), .val (.int (3 : Int32))] [(.int i_122)])) := by
                            refine C_118.trans ?_
                            refine XS.ifNo X_111.here hx rfl (hb hby d18_121) rfl (i0_eq_f hc_119) ?_
                            refine XS.aloadN X_111.here hx rfl (hb hby d18_124) rfl rfl ?_
                            refine XS.iloadN X_111.here hx rfl (hb hby d18_125) rfl ?_
                            refine XS.bipush X_111.here hx rfl (hb hby d18_126) ?_
                            refine XS.iadd X_111.here hx rfl (hb hby d18_128) rfl ?_
                            refine st_121 _ ?_
                            exact Steps.refl _
                          by_cases hc_129 : i_122 = (0 : Int32)
                          · skip
                            have C_130 : Steps p.tables e below S0 (T_121.setTop (mkF m 140 #[.val (.ref b), .val (.int (3 : Int32))] [(.int (0 : Int32))])) := by
                              refine C_128.trans ?_
                              refine XS.ifYes X_121.here hx rfl (pc0 := 132) (pc' := 139) rfl (hb hby d18_132) rfl (i0_eq_t hc_129) (by decide) (by decide) ?_
                              refine XS.iconst X_121.here hx rfl (hb hby d18_139) ?_
                              exact Steps.refl _
                            obtain ⟨fs, hr, hrun, hended, hW, hsame⟩ := X_121.leave (v := some (.int (0 : Int32))) (fun h => by rw [Bd.returns] at h; cases h)
                            refine ⟨_, _, C_130.trans (retN X_121 hx (t := .boolean) Bd.returns (by simp) (hb hby d18_140) hr), hrun, hended, _, _, rfl, ?_, ⟨_, rfl⟩, hW, hsame.mono (by decide) (by decide)⟩
                            show Q_ww_3 Z G1 G3 b k nn cs h0 n0 (some (.int (0 : Int32))) T_121.heap _
                            rw [e_127]
                            exact ⟨(0 : Int32), rfl, N_126, rfl, (own_w0 (k := 12) (by decide) (own_rF g_125 hc_129))⟩
                          · skip
                            have C_131 : Steps p.tables e below S0 (T_121.setTop (mkF m 140 #[.val (.ref b), .val (.int (3 : Int32))] [(.int (1 : Int32))])) := by
                              refine C_128.trans ?_
                              refine XS.ifNo X_121.here hx rfl (hb hby d18_132) rfl (i0_eq_f hc_129) ?_
                              refine XS.iconst X_121.here hx rfl (hb hby d18_135) ?_
                              refine XS.goto X_121.here hx rfl (pc0 := 136) (pc' := 140) rfl (hb hby d18_136) (by decide) (by decide) ?_
                              exact Steps.refl _
                            obtain ⟨fs, hr, hrun, hended, hW, hsame⟩ := X_121.leave (v := some (.int (1 : Int32))) (fun h => by rw [Bd.returns] at h; cases h)
                            refine ⟨_, _, C_131.trans (retN X_121 hx (t := .boolean) Bd.returns (by simp) (hb hby d18_140) hr), hrun, hended, _, _, rfl, ?_, ⟨_, rfl⟩, hW, hsame.mono (by decide) (by decide)⟩
                            show Q_ww_3 Z G1 G3 b k nn cs h0 n0 (some (.int (1 : Int32))) T_121.heap _
                            rw [e_127]
                            exact ⟨(1 : Int32), rfl, N_126, rfl, (own_w1 (own_rT g_5 hc_9) (own_rT g_15 hc_19) (own_rT g_25 hc_29) (own_rT g_35 hc_39) (own_rT g_45 hc_49) (own_rT g_55 hc_59) (own_rT g_65 hc_69) (own_rT g_75 hc_79) (own_rT g_85 hc_89) (own_rT g_95 hc_99) (own_rT g_105 hc_109) (own_rT g_115 hc_119) (own_rT g_125 hc_129))⟩
abbrev M445 : MethodName := ⟨"com/example/claimgate/claimgate/config/ConfigSyntax", "mayHoldHash", "(Ljava/lang/String;)Z"⟩
theorem ef_446 (m : MethodId) (x0 : Addr) : entryFrame m #[(.ref x0)] 4 = mkF m 0 #[.val (.ref x0), .unset, .unset, .unset] [] := by first | (simp [entryFrame, mkF, argsToLocals, Value.category]; done) | rfl
theorem d19_0 : decode prog_19_method_10_code 0 = .ok (.iconst 0, 1) := by decide +kernel
theorem d19_1 : decode prog_19_method_10_code 1 = .ok (.istore_n 1, 1) := by decide +kernel
theorem d19_2 : decode prog_19_method_10_code 2 = .ok (.iconst 0, 1) := by decide +kernel
theorem d19_3 : decode prog_19_method_10_code 3 = .ok (.istore_n 2, 1) := by decide +kernel
theorem d19_4 : decode prog_19_method_10_code 4 = .ok (.iload_n 2, 1) := by decide +kernel
theorem d19_5 : decode prog_19_method_10_code 5 = .ok (.aload_n 0, 1) := by decide +kernel
theorem w48 {Z : State} {a0 : Array Value} (hw : ∀ d ∈ tables_1, d.before a0 Z = true) : Jvm.Cond.before (Jvm.Cond.code ({ cls := "java/lang/String", name := "length", desc := "()I" } : Jvm.MethodName) jdk_42_method_54_code (1 : Nat) (Option.some Jvm.ClassFile.FieldType.int)) a0 Z = true := hw _ (List.mem_of_getElem? (i := 48) rfl)
theorem pd_454 : parseMethodDescriptor "()I" = some ⟨[], some .int⟩ := by decide +kernel
theorem d19_6 : decode prog_19_method_10_code 6 = .ok (.invokevirtual 27, 3) := by decide +kernel
theorem w44 {Z : State} {a0 : Array Value} (hw : ∀ d ∈ tables_1, d.before a0 Z = true) : Jvm.Cond.before (Jvm.Cond.methodLink "com/example/claimgate/claimgate/config/ConfigSyntax" (27 : Nat) ({ cls := "java/lang/String", name := "length", desc := "()I" } : Jvm.MethodName)) a0 Z = true := hw _ (List.mem_of_getElem? (i := 44) rfl)
theorem w47 {Z : State} {a0 : Array Value} (hw : ∀ d ∈ tables_1, d.before a0 Z = true) : Jvm.Cond.before (Jvm.Cond.selects "java/lang/String" ({ cls := "java/lang/String", name := "length", desc := "()I" } : Jvm.MethodName) ({ cls := "java/lang/String", name := "length", desc := "()I" } : Jvm.MethodName)) a0 Z = true := hw _ (List.mem_of_getElem? (i := 47) rfl)
theorem w46 {Z : State} {a0 : Array Value} (hw : ∀ d ∈ tables_1, d.before a0 Z = true) : Jvm.Cond.before (Jvm.Cond.instanceMethod ({ cls := "java/lang/String", name := "length", desc := "()I" } : Jvm.MethodName)) a0 Z = true := hw _ (List.mem_of_getElem? (i := 46) rfl)
theorem w45 {Z : State} {a0 : Array Value} (hw : ∀ d ∈ tables_1, d.before a0 Z = true) : Jvm.Cond.before (Jvm.Cond.declares ({ cls := "java/lang/String", name := "length", desc := "()I" } : Jvm.MethodName)) a0 Z = true := hw _ (List.mem_of_getElem? (i := 45) rfl)
theorem d19_9 : decode prog_19_method_10_code 9 = .ok (.if_icmp .ge 46, 3) := by decide +kernel
theorem d19_12 : decode prog_19_method_10_code 12 = .ok (.aload_n 0, 1) := by decide +kernel
theorem d19_13 : decode prog_19_method_10_code 13 = .ok (.iload_n 2, 1) := by decide +kernel
theorem w72 {Z : State} {a0 : Array Value} (hw : ∀ d ∈ tables_1, d.before a0 Z = true) : Jvm.Cond.before (Jvm.Cond.code ({ cls := "java/lang/String", name := "charAt", desc := "(I)C" } : Jvm.MethodName) jdk_42_method_56_code (2 : Nat) (Option.some Jvm.ClassFile.FieldType.char)) a0 Z = true := hw _ (List.mem_of_getElem? (i := 72) rfl)
theorem pd_464 : parseMethodDescriptor "(I)C" = some ⟨[.int], some .char⟩ := by decide +kernel
theorem d19_14 : decode prog_19_method_10_code 14 = .ok (.invokevirtual 31, 3) := by decide +kernel
theorem w68 {Z : State} {a0 : Array Value} (hw : ∀ d ∈ tables_1, d.before a0 Z = true) : Jvm.Cond.before (Jvm.Cond.methodLink "com/example/claimgate/claimgate/config/ConfigSyntax" (31 : Nat) ({ cls := "java/lang/String", name := "charAt", desc := "(I)C" } : Jvm.MethodName)) a0 Z = true := hw _ (List.mem_of_getElem? (i := 68) rfl)
theorem w71 {Z : State} {a0 : Array Value} (hw : ∀ d ∈ tables_1, d.before a0 Z = true) : Jvm.Cond.before (Jvm.Cond.selects "java/lang/String" ({ cls := "java/lang/String", name := "charAt", desc := "(I)C" } : Jvm.MethodName) ({ cls := "java/lang/String", name := "charAt", desc := "(I)C" } : Jvm.MethodName)) a0 Z = true := hw _ (List.mem_of_getElem? (i := 71) rfl)
theorem w70 {Z : State} {a0 : Array Value} (hw : ∀ d ∈ tables_1, d.before a0 Z = true) : Jvm.Cond.before (Jvm.Cond.instanceMethod ({ cls := "java/lang/String", name := "charAt", desc := "(I)C" } : Jvm.MethodName)) a0 Z = true := hw _ (List.mem_of_getElem? (i := 70) rfl)
theorem w69 {Z : State} {a0 : Array Value} (hw : ∀ d ∈ tables_1, d.before a0 Z = true) : Jvm.Cond.before (Jvm.Cond.declares ({ cls := "java/lang/String", name := "charAt", desc := "(I)C" } : Jvm.MethodName)) a0 Z = true := hw _ (List.mem_of_getElem? (i := 69) rfl)
theorem d19_17 : decode prog_19_method_10_code 17 = .ok (.istore_n 3, 1) := by decide +kernel
theorem d19_18 : decode prog_19_method_10_code 18 = .ok (.iload_n 3, 1) := by decide +kernel
theorem d19_19 : decode prog_19_method_10_code 19 = .ok (.bipush 36, 2) := by decide +kernel
theorem d19_21 : decode prog_19_method_10_code 21 = .ok (.if_icmp .ne 5, 3) := by decide +kernel
theorem d19_24 : decode prog_19_method_10_code 24 = .ok (.iconst 1, 1) := by decide +kernel
theorem d19_25 : decode prog_19_method_10_code 25 = .ok (.ireturn, 1) := by decide +kernel
theorem d19_26 : decode prog_19_method_10_code 26 = .ok (.iload_n 3, 1) := by decide +kernel
theorem w92 {Z : State} {a0 : Array Value} (hw : ∀ d ∈ tables_1, d.before a0 Z = true) : Jvm.Cond.before (Jvm.Cond.code ({ cls := "com/example/claimgate/claimgate/config/ConfigSyntax", name := "isHashCharacter", desc := "(C)Z" } : Jvm.MethodName) prog_19_method_11_code (1 : Nat) (Option.some Jvm.ClassFile.FieldType.boolean)) a0 Z = true := hw _ (List.mem_of_getElem? (i := 92) rfl)
theorem w42 {Z : State} {a0 : Array Value} (hw : ∀ d ∈ tables_1, d.before a0 Z = true) : Jvm.Cond.before (Jvm.Cond.initialized "com/example/claimgate/claimgate/config/ConfigSyntax") a0 Z = true := hw _ (List.mem_of_getElem? (i := 42) rfl)
theorem d19_27 : decode prog_19_method_10_code 27 = .ok (.invokestatic 142, 3) := by decide +kernel
theorem w90 {Z : State} {a0 : Array Value} (hw : ∀ d ∈ tables_1, d.before a0 Z = true) : Jvm.Cond.before (Jvm.Cond.methodLink "com/example/claimgate/claimgate/config/ConfigSyntax" (142 : Nat) ({ cls := "com/example/claimgate/claimgate/config/ConfigSyntax", name := "isHashCharacter", desc := "(C)Z" } : Jvm.MethodName)) a0 Z = true := hw _ (List.mem_of_getElem? (i := 90) rfl)
theorem w91 {Z : State} {a0 : Array Value} (hw : ∀ d ∈ tables_1, d.before a0 Z = true) : Jvm.Cond.before (Jvm.Cond.static ({ cls := "com/example/claimgate/claimgate/config/ConfigSyntax", name := "isHashCharacter", desc := "(C)Z" } : Jvm.MethodName)) a0 Z = true := hw _ (List.mem_of_getElem? (i := 91) rfl)
theorem d19_30 : decode prog_19_method_10_code 30 = .ok (.ifCond .eq 9, 3) := by decide +kernel
theorem d19_39 : decode prog_19_method_10_code 39 = .ok (.iconst 0, 1) := by decide +kernel
theorem d19_40 : decode prog_19_method_10_code 40 = .ok (.istore_n 1, 1) := by decide +kernel
theorem d19_41 : decode prog_19_method_10_code 41 = .ok (.iload_n 1, 1) := by decide +kernel
theorem d19_42 : decode prog_19_method_10_code 42 = .ok (.bipush 13, 2) := by decide +kernel
theorem d19_44 : decode prog_19_method_10_code 44 = .ok (.if_icmp .ne 5, 3) := by decide +kernel
theorem d19_49 : decode prog_19_method_10_code 49 = .ok (.iinc 2 1, 3) := by decide +kernel
theorem d19_52 : decode prog_19_method_10_code 52 = .ok (.goto (-48), 3) := by decide +kernel
theorem d19_33 : decode prog_19_method_10_code 33 = .ok (.iload_n 1, 1) := by decide +kernel
theorem d19_34 : decode prog_19_method_10_code 34 = .ok (.iconst 1, 1) := by decide +kernel
theorem d19_35 : decode prog_19_method_10_code 35 = .ok (.iadd, 1) := by decide +kernel
theorem d19_36 : decode prog_19_method_10_code 36 = .ok (.goto 4, 3) := by decide +kernel
theorem d19_47 : decode prog_19_method_10_code 47 = .ok (.iconst 1, 1) := by decide +kernel
theorem d19_48 : decode prog_19_method_10_code 48 = .ok (.ireturn, 1) := by decide +kernel
theorem d19_55 : decode prog_19_method_10_code 55 = .ok (.iconst 0, 1) := by decide +kernel
theorem d19_56 : decode prog_19_method_10_code 56 = .ok (.ireturn, 1) := by decide +kernel
abbrev R_mhh : Room := { frames := 4, cells := 0, slots := 0, locals := 53 }
def Q_mhh (Z : State) (G1 : Int32) (G3 : Value) (x : Addr) (t : Addr) (kt : ClassId) (nn : Int32) (cs : List Int32) (h0 : Heap) (n0 : Nat) (v : Option Value) (h : Heap) (L : List Loc) : Prop := (∃ rr : Int32, v = some (.int rr) ∧ Fr n0 L ∧ h = h0 ∧ (rr = own_b (own_scan cs 0)))
set_option maxRecDepth 65536 in
set_option maxHeartbeats 40000000 in
theorem rm_mhh (l : Launch) (Z : State) (a0 : Array Value) (hw : ∀ d ∈ tables_1, d.before a0 Z = true) (ws : List Jvm.Cond) (G1 : Int32) (G3 : Value) (HG : own_G l Z a0 G1 G3) (h0 : Heap) (n0 : Nat) (X00 : Old Z n0 h0) (x : Addr) (t : Addr) (kt : ClassId) (nn : Int32) (cs : List Int32) (hp0 : Exa Z h0 x "java/lang/String") (hp1 : Fld Z h0 x "java/lang/String" "coder" "B" (.int (0 : Int32))) (hp2 : Fld Z h0 x "java/lang/String" "value" "[B" (.ref t)) (hp3 : Arv Z h0 t kt .byte nn (own_iv (own_bs cs)) (.int (0 : Int32))) (hn0 : ¬ (nn < (0 : Int32))) (hl1 : cs.length = nn.toNatClampNeg) (hla : own_lat cs) :
    own_CP l Z M445 prog_19_method_10_code 4 (some .boolean) ws R_mhh #[(.ref x)] h0 (Q_mhh Z G1 G3 x t kt nn cs h0 n0) := by
  refine own_P (plainFor_of_name pn_295) ?_
  intro p e s m below meth c s₁ S0 Bd hZ hh hx hby hml hown hnm X0 e0 hS0d
  obtain ⟨O1, P1, O3f, rG3⟩ := id HG
  have N0 := Fr.nil n0
  have C0 : Steps p.tables e below S0 (s₁.setTop (mkF m 0 #[.val (.ref x), .unset, .unset, .unset] [])) := by rw [hS0d]; exact castTop (ef_446 m x) (Steps.refl _)
  have C_1 : Steps p.tables e below S0 (s₁.setTop (mkF m 4 #[.val (.ref x), .val (.int (0 : Int32)), .val (.int (0 : Int32)), .unset] [])) := by
    refine C0.trans ?_
    refine XS.iconst X0.here hx rfl (hb hby d19_0) ?_
    refine XS.istoreN X0.here hx rfl (hb hby d19_1) rfl (l' := #[.val (.ref x), .val (.int (0 : Int32)), .unset, .unset]) rfl ?_
    refine XS.iconst X0.here hx rfl (hb hby d19_2) ?_
    refine XS.istoreN X0.here hx rfl (hb hby d19_3) rfl (l' := #[.val (.ref x), .val (.int (0 : Int32)), .val (.int (0 : Int32)), .unset]) rfl ?_
    exact Steps.refl _
  obtain ⟨r_2, j_3, z3_4, T_5, L_6, I_7⟩ : ∃ (r_2 : Int32) (j_3 : Int32) (z3_4 : Slot) (T_5 : State) (L_6 : List Loc), Stand p l e R_mhh s m #[(.ref x)] below meth c T_5 L_6 0 0 ∧ T_5.heap = h0 ∧ Fr n0 L_6 ∧ h0 = h0 ∧ (¬ (j_3 < (0 : Int32))) ∧ (¬ (nn < j_3)) ∧ (¬ (r_2 < (0 : Int32))) ∧ (r_2 < (13 : Int32)) ∧ (own_scan cs 0 = own_scan (cs.drop j_3.toNatClampNeg) r_2.toNatClampNeg) ∧ (z3_4 = .unset ∨ ∃ v : Int32, z3_4 = .val (.int v)) ∧ Steps p.tables e below S0 (T_5.setTop (mkF m 4 #[.val (.ref x), .val (.int r_2), .val (.int j_3), z3_4] [])) := ⟨(0 : Int32), (0 : Int32), .unset, s₁, _, X0, e0, N0, rfl, (by decide), hn0, (by decide), (by decide), rfl, Or.inl rfl, C_1⟩
  obtain ⟨d_8, hd_9⟩ : ∃ d : Nat, d = (nn.toNatClampNeg - j_3.toNatClampNeg) := ⟨_, rfl⟩
  induction d_8 using Nat.strongRecOn generalizing r_2 j_3 z3_4 T_5 L_6 with
  | _ d_8 ih_10 =>
    obtain ⟨X_11, e_12, N_13, K_14, g_16, g_17, g_18, g_19, g_20, hz_21, C_15⟩ := I_7
    rcases hz_21 with rfl | ⟨v_22, rfl⟩
    · skip
      obtain ⟨q_24, q_25, q_26, q_27, q_28⟩ := isOf (T := T_5) hZ e_12 hp0
      obtain ⟨_, _, ⟨T_23, L_23, k_23, n_23⟩, -, X_23, ⟨Lc_23, hQ_23, l_23, y_23, z_23⟩, st_23⟩ := X_11.virtualBack hx (y := M131) (z := M131) hown (mvT hZ (w44 hw)) (mvT hZ (w45 hw)) (notFace_of_selects (args := #[]) (mvT hZ (w47 hw))) (mvT hZ (w47 hw)) (mvT hZ (w46 hw)) (by decide) (backOf (W := 1) (rm_lens l Z a0 hw [] G1 G3 HG h0 n0 X00 x t kt nn (own_iv (own_bs cs)) hp0 hp1 hp2 hp3) hZ (w48 hw) (w12 hw) (by decide) (by decide)) q_26 q_28 (g := (mkF m 6 #[.val (.ref x), .val (.int r_2), .val (.int j_3), .unset] [(.ref x), (.int j_3)])) rfl (by rw [hml]; rfl) (Steps.refl _) (argsL := []) (rest := [(.int j_3)]) (lenOf pd_454 rfl) rfl (by show 2 * 0 + _ ≤ _; exact Nat.le_of_eq rfl) (hb hby d19_6) (fun _ _ => ⟨rfl, e_12, (by decide : 0 + 0 ≤ _), (by decide : 0 + 0 ≤ _)⟩)
      dsimp only [Pt.U, Pt.locs, Pt.cells, Pt.slots] at X_23 l_23 y_23 z_23 st_23 hQ_23
      have X_23 := own_cast X_23 l_23 y_23 z_23
      obtain ⟨rfl, N_29, e_30⟩ := hQ_23
      have N_31 := Fr.app N_13 N_29
      have e_32 : T_23.heap = h0 := e_30
      have C_33 : Steps p.tables e below S0 (T_23.setTop (mkF m 9 #[.val (.ref x), .val (.int r_2), .val (.int j_3), .unset] [(.int nn), (.int j_3)])) := by
        refine C_15.trans ?_
        refine XS.iloadN X_11.here hx rfl (hb hby d19_4) rfl ?_
        refine XS.aloadN X_11.here hx rfl (hb hby d19_5) rfl rfl ?_
        refine st_23.trans ?_
        exact Steps.refl _
      by_cases hc_34 : j_3 < nn
      · skip
        obtain ⟨q_36, q_37, q_38, q_39, q_40⟩ := isOf (T := T_23) hZ e_32 hp0
        obtain ⟨_, _, ⟨T_35, L_35, k_35, n_35⟩, -, X_35, ⟨Lc_35, hQ_35, l_35, y_35, z_35⟩, st_35⟩ := X_23.virtualBack hx (y := M186) (z := M186) hown (mvT hZ (w68 hw)) (mvT hZ (w69 hw)) (notFace_of_selects (args := #[]) (mvT hZ (w71 hw))) (mvT hZ (w71 hw)) (mvT hZ (w70 hw)) (by decide) (backOf (W := 0) (rm_chs l Z a0 hw [] G1 G3 HG h0 n0 X00 x t kt nn cs j_3 hp0 hp1 hp2 hp3 g_16 hc_34 hl1 hla) hZ (w72 hw) (w12 hw) (by decide) (by decide)) q_38 q_40 (g := (mkF m 14 #[.val (.ref x), .val (.int r_2), .val (.int j_3), .unset] [(.int j_3), (.ref x)])) rfl (by rw [hml]; rfl) (Steps.refl _) (argsL := [(.int j_3)]) (rest := []) (lenOf pd_464 rfl) rfl (by show 2 * 0 + _ ≤ _; exact Nat.le_of_eq rfl) (hb hby d19_14) (fun _ _ => ⟨rfl, e_32, (by decide : 0 + 0 ≤ _), (by decide : 0 + 0 ≤ _)⟩)
        dsimp only [Pt.U, Pt.locs, Pt.cells, Pt.slots] at X_35 l_35 y_35 z_35 st_35 hQ_35
        have X_35 := own_cast X_35 l_35 y_35 z_35
        obtain ⟨rfl, N_41, e_42⟩ := hQ_35
        have N_43 := Fr.app N_31 N_41
        have e_44 : T_35.heap = h0 := e_42
        have C_45 : Steps p.tables e below S0 (T_35.setTop (mkF m 21 #[.val (.ref x), .val (.int r_2), .val (.int j_3), .val (.int (own_gt cs j_3))] [(.int (36 : Int32)), (.int (own_gt cs j_3))])) := by
          refine C_33.trans ?_
          refine XS.icmpNo X_23.here hx rfl (hb hby d19_9) rfl (ii_ge_f hc_34) ?_
          refine XS.aloadN X_23.here hx rfl (hb hby d19_12) rfl rfl ?_
          refine XS.iloadN X_23.here hx rfl (hb hby d19_13) rfl ?_
          refine st_35.trans ?_
          refine XS.istoreN X_35.here hx rfl (hb hby d19_17) rfl (l' := #[.val (.ref x), .val (.int r_2), .val (.int j_3), .val (.int (own_gt cs j_3))]) rfl ?_
          refine XS.iloadN X_35.here hx rfl (hb hby d19_18) rfl ?_
          refine XS.bipush X_35.here hx rfl (hb hby d19_19) ?_
          exact Steps.refl _
        by_cases hc_46 : (own_gt cs j_3) = (36 : Int32)
        · skip
          have C_47 : Steps p.tables e below S0 (T_35.setTop (mkF m 25 #[.val (.ref x), .val (.int r_2), .val (.int j_3), .val (.int (own_gt cs j_3))] [(.int (1 : Int32))])) := by
            refine C_45.trans ?_
            refine XS.icmpNo X_35.here hx rfl (hb hby d19_21) rfl (ii_ne_f hc_46) ?_
            refine XS.iconst X_35.here hx rfl (hb hby d19_24) ?_
            exact Steps.refl _
          obtain ⟨fs, hr, hrun, hended, hW, hsame⟩ := X_35.leave (v := some (.int (1 : Int32))) (fun h => by rw [Bd.returns] at h; cases h)
          refine ⟨_, _, C_47.trans (retN X_35 hx (t := .boolean) Bd.returns (by simp) (hb hby d19_25) hr), hrun, hended, _, _, rfl, ?_, ⟨_, rfl⟩, hW, hsame.mono (by decide) (by decide)⟩
          show Q_mhh Z G1 G3 x t kt nn cs h0 n0 (some (.int (1 : Int32))) T_35.heap _
          rw [e_44]
          exact ⟨(1 : Int32), rfl, N_43, rfl, (own_s36 hl1 g_20 g_16 hc_34 hc_46)⟩
        · skip
          obtain ⟨_, _, ⟨T_48, L_48, k_48, n_48⟩, -, X_48, ⟨Lc_48, hQ_48, l_48, y_48, z_48⟩, st_48⟩ := Jvm.LawKit.callS X_35 hx (y := M294) hown (mvT hZ (w90 hw)) (mvT hZ (w91 hw)) (mvT hZ (w42 hw)) (mvT hZ (w92 hw)) (by decide) (backOf (W := 0) (rm_ishash l Z a0 hw [] G1 G3 HG h0 n0 X00 (own_gt cs j_3) ) hZ (w92 hw) (w42 hw) (by decide) (by decide)) (g := (mkF m 27 #[.val (.ref x), .val (.int r_2), .val (.int j_3), .val (.int (own_gt cs j_3))] [(.int (own_gt cs j_3))])) rfl (by rw [hml]; rfl) (argsL := [(.int (own_gt cs j_3))]) (rest := []) (lenOf pd_337 rfl) rfl (by show 2 * 0 + _ ≤ _; exact Nat.le_of_eq rfl) (hb hby d19_27) (fun _ _ => ⟨rfl, e_44, (by decide : 0 + 0 ≤ _), (by decide : 0 + 0 ≤ _)⟩)
          dsimp only [Pt.U, Pt.locs, Pt.cells, Pt.slots] at X_48 l_48 y_48 z_48 st_48 hQ_48
          have X_48 := own_cast X_48 l_48 y_48 z_48
          obtain ⟨i_49, rfl, N_50, e_51, g_52⟩ := hQ_48
          have N_53 := Fr.app N_43 N_50
          have e_54 : T_48.heap = h0 := e_51
          have C_55 : Steps p.tables e below S0 (T_48.setTop (mkF m 30 #[.val (.ref x), .val (.int r_2), .val (.int j_3), .val (.int (own_gt cs j_3))] [(.int i_49)])) := by
            refine C_45.trans ?_
            refine XS.icmpYes X_35.here hx rfl (pc0 := 21) (pc' := 26) rfl (hb hby d19_21) rfl (ii_ne_t hc_46) (by decide) (by decide) ?_
            refine XS.iloadN X_35.here hx rfl (hb hby d19_26) rfl ?_
            refine st_48 _ ?_
            exact Steps.refl _
          by_cases hc_56 : i_49 = (0 : Int32)
          · skip
            have C_57 : Steps p.tables e below S0 (T_48.setTop (mkF m 4 #[.val (.ref x), .val (.int (0 : Int32)), .val (.int (j_3 + (1 : Int32))), .val (.int (own_gt cs j_3))] [])) := by
              refine C_55.trans ?_
              refine XS.ifYes X_48.here hx rfl (pc0 := 30) (pc' := 39) rfl (hb hby d19_30) rfl (i0_eq_t hc_56) (by decide) (by decide) ?_
              refine XS.iconst X_48.here hx rfl (hb hby d19_39) ?_
              refine XS.istoreN X_48.here hx rfl (hb hby d19_40) rfl (l' := #[.val (.ref x), .val (.int (0 : Int32)), .val (.int j_3), .val (.int (own_gt cs j_3))]) rfl ?_
              refine XS.iloadN X_48.here hx rfl (hb hby d19_41) rfl ?_
              refine XS.bipush X_48.here hx rfl (hb hby d19_42) ?_
              refine XS.icmpYes X_48.here hx rfl (pc0 := 44) (pc' := 49) rfl (hb hby d19_44) rfl (by decide) (by decide) (by decide) ?_
              refine XS.iinc X_48.here hx rfl (hb hby d19_49) (x := j_3) rfl (l' := #[.val (.ref x), .val (.int (0 : Int32)), .val (.int (j_3 + (1 : Int32))), .val (.int (own_gt cs j_3))]) rfl ?_
              refine XS.goto X_48.here hx rfl (pc0 := 52) (pc' := 4) rfl (hb hby d19_52) (by decide) (by decide) ?_
              show Steps p.tables e below (T_48.setTop (mkF m 4 #[.val (.ref x), .val (.int (0 : Int32)), .val (.int (j_3 + (1 : Int32))), .val (.int (own_gt cs j_3))] [])) _
              exact Steps.refl _
            exact ih_10 _ (by rw [hd_9]; exact (own_dec g_16 hc_34)) (0 : Int32) (j_3 + (1 : Int32)) (.val (.int (own_gt cs j_3))) _ _  ⟨X_48, e_54, N_53, rfl, (own_nat g_16 hc_34).2.2.1, (own_nat g_16 hc_34).2.2.2, (by decide), (by decide), (own_sB hl1 g_20 g_16 hc_34 hc_46 g_52 hc_56), Or.inr ⟨_, rfl⟩, C_57⟩ rfl
          · skip
            have C_58 : Steps p.tables e below S0 (T_48.setTop (mkF m 44 #[.val (.ref x), .val (.int (r_2 + (1 : Int32))), .val (.int j_3), .val (.int (own_gt cs j_3))] [(.int (13 : Int32)), (.int (r_2 + (1 : Int32)))])) := by
              refine C_55.trans ?_
              refine XS.ifNo X_48.here hx rfl (hb hby d19_30) rfl (i0_eq_f hc_56) ?_
              refine XS.iloadN X_48.here hx rfl (hb hby d19_33) rfl ?_
              refine XS.iconst X_48.here hx rfl (hb hby d19_34) ?_
              refine XS.iadd X_48.here hx rfl (hb hby d19_35) rfl ?_
              refine XS.goto X_48.here hx rfl (pc0 := 36) (pc' := 40) rfl (hb hby d19_36) (by decide) (by decide) ?_
              refine XS.istoreN X_48.here hx rfl (hb hby d19_40) rfl (l' := #[.val (.ref x), .val (.int (r_2 + (1 : Int32))), .val (.int j_3), .val (.int (own_gt cs j_3))]) rfl ?_
              refine XS.iloadN X_48.here hx rfl (hb hby d19_41) rfl ?_
              refine XS.bipush X_48.here hx rfl (hb hby d19_42) ?_
              show Steps p.tables e below (T_48.setTop (mkF m 44 #[.val (.ref x), .val (.int (r_2 + (1 : Int32))), .val (.int j_3), .val (.int (own_gt cs j_3))] [(.int (13 : Int32)), (.int (r_2 + (1 : Int32)))])) _
              exact Steps.refl _
            by_cases hc_59 : (r_2 + (1 : Int32)) = (13 : Int32)
            · skip
              have C_60 : Steps p.tables e below S0 (T_48.setTop (mkF m 48 #[.val (.ref x), .val (.int (r_2 + (1 : Int32))), .val (.int j_3), .val (.int (own_gt cs j_3))] [(.int (1 : Int32))])) := by
                refine C_58.trans ?_
                refine XS.icmpNo X_48.here hx rfl (hb hby d19_44) rfl (ii_ne_f hc_59) ?_
                refine XS.iconst X_48.here hx rfl (hb hby d19_47) ?_
                exact Steps.refl _
              obtain ⟨fs, hr, hrun, hended, hW, hsame⟩ := X_48.leave (v := some (.int (1 : Int32))) (fun h => by rw [Bd.returns] at h; cases h)
              refine ⟨_, _, C_60.trans (retN X_48 hx (t := .boolean) Bd.returns (by simp) (hb hby d19_48) hr), hrun, hended, _, _, rfl, ?_, ⟨_, rfl⟩, hW, hsame.mono (by decide) (by decide)⟩
              show Q_mhh Z G1 G3 x t kt nn cs h0 n0 (some (.int (1 : Int32))) T_48.heap _
              rw [e_54]
              exact ⟨(1 : Int32), rfl, N_53, rfl, (own_s13 hl1 g_20 g_16 hc_34 hc_46 g_52 hc_56 g_18 g_19 hc_59)⟩
            · skip
              have C_61 : Steps p.tables e below S0 (T_48.setTop (mkF m 4 #[.val (.ref x), .val (.int (r_2 + (1 : Int32))), .val (.int (j_3 + (1 : Int32))), .val (.int (own_gt cs j_3))] [])) := by
                refine C_58.trans ?_
                refine XS.icmpYes X_48.here hx rfl (pc0 := 44) (pc' := 49) rfl (hb hby d19_44) rfl (ii_ne_t hc_59) (by decide) (by decide) ?_
                refine XS.iinc X_48.here hx rfl (hb hby d19_49) (x := j_3) rfl (l' := #[.val (.ref x), .val (.int (r_2 + (1 : Int32))), .val (.int (j_3 + (1 : Int32))), .val (.int (own_gt cs j_3))]) rfl ?_
                refine XS.goto X_48.here hx rfl (pc0 := 52) (pc' := 4) rfl (hb hby d19_52) (by decide) (by decide) ?_
                exact Steps.refl _
              exact ih_10 _ (by rw [hd_9]; exact (own_dec g_16 hc_34)) (r_2 + (1 : Int32)) (j_3 + (1 : Int32)) (.val (.int (own_gt cs j_3))) _ _  ⟨X_48, e_54, N_53, rfl, (own_nat g_16 hc_34).2.2.1, (own_nat g_16 hc_34).2.2.2, (own_rn g_18 g_19).2, (own_r13 g_18 g_19 hc_59), (own_sA hl1 g_20 g_16 hc_34 hc_46 g_52 hc_56 g_18 g_19 hc_59), Or.inr ⟨_, rfl⟩, C_61⟩ rfl
      · skip
        have C_62 : Steps p.tables e below S0 (T_23.setTop (mkF m 56 #[.val (.ref x), .val (.int r_2), .val (.int j_3), .unset] [(.int (0 : Int32))])) := by
          refine C_33.trans ?_
          refine XS.icmpYes X_23.here hx rfl (pc0 := 9) (pc' := 55) rfl (hb hby d19_9) rfl (ii_ge_t hc_34) (by decide) (by decide) ?_
          refine XS.iconst X_23.here hx rfl (hb hby d19_55) ?_
          exact Steps.refl _
        obtain ⟨fs, hr, hrun, hended, hW, hsame⟩ := X_23.leave (v := some (.int (0 : Int32))) (fun h => by rw [Bd.returns] at h; cases h)
        refine ⟨_, _, C_62.trans (retN X_23 hx (t := .boolean) Bd.returns (by simp) (hb hby d19_56) hr), hrun, hended, _, _, rfl, ?_, ⟨_, rfl⟩, hW, hsame.mono (by decide) (by decide)⟩
        show Q_mhh Z G1 G3 x t kt nn cs h0 n0 (some (.int (0 : Int32))) T_23.heap _
        rw [e_32]
        exact ⟨(0 : Int32), rfl, N_31, rfl, (own_s0 hl1 g_20 hc_34)⟩
    · skip
      obtain ⟨q_64, q_65, q_66, q_67, q_68⟩ := isOf (T := T_5) hZ e_12 hp0
      obtain ⟨_, _, ⟨T_63, L_63, k_63, n_63⟩, -, X_63, ⟨Lc_63, hQ_63, l_63, y_63, z_63⟩, st_63⟩ := X_11.virtualBack hx (y := M131) (z := M131) hown (mvT hZ (w44 hw)) (mvT hZ (w45 hw)) (notFace_of_selects (args := #[]) (mvT hZ (w47 hw))) (mvT hZ (w47 hw)) (mvT hZ (w46 hw)) (by decide) (backOf (W := 1) (rm_lens l Z a0 hw [] G1 G3 HG h0 n0 X00 x t kt nn (own_iv (own_bs cs)) hp0 hp1 hp2 hp3) hZ (w48 hw) (w12 hw) (by decide) (by decide)) q_66 q_68 (g := (mkF m 6 #[.val (.ref x), .val (.int r_2), .val (.int j_3), .val (.int v_22)] [(.ref x), (.int j_3)])) rfl (by rw [hml]; rfl) (Steps.refl _) (argsL := []) (rest := [(.int j_3)]) (lenOf pd_454 rfl) rfl (by show 2 * 0 + _ ≤ _; exact Nat.le_of_eq rfl) (hb hby d19_6) (fun _ _ => ⟨rfl, e_12, (by decide : 0 + 0 ≤ _), (by decide : 0 + 0 ≤ _)⟩)
      dsimp only [Pt.U, Pt.locs, Pt.cells, Pt.slots] at X_63 l_63 y_63 z_63 st_63 hQ_63
      have X_63 := own_cast X_63 l_63 y_63 z_63
      obtain ⟨rfl, N_69, e_70⟩ := hQ_63
      have N_71 := Fr.app N_13 N_69
      have e_72 : T_63.heap = h0 := e_70
      have C_73 : Steps p.tables e below S0 (T_63.setTop (mkF m 9 #[.val (.ref x), .val (.int r_2), .val (.int j_3), .val (.int v_22)] [(.int nn), (.int j_3)])) := by
        refine C_15.trans ?_
        refine XS.iloadN X_11.here hx rfl (hb hby d19_4) rfl ?_
        refine XS.aloadN X_11.here hx rfl (hb hby d19_5) rfl rfl ?_
        refine st_63.trans ?_
        exact Steps.refl _
      by_cases hc_74 : j_3 < nn
      · skip
        obtain ⟨q_76, q_77, q_78, q_79, q_80⟩ := isOf (T := T_63) hZ e_72 hp0
        obtain ⟨_, _, ⟨T_75, L_75, k_75, n_75⟩, -, X_75, ⟨Lc_75, hQ_75, l_75, y_75, z_75⟩, st_75⟩ := X_63.virtualBack hx (y := M186) (z := M186) hown (mvT hZ (w68 hw)) (mvT hZ (w69 hw)) (notFace_of_selects (args := #[]) (mvT hZ (w71 hw))) (mvT hZ (w71 hw)) (mvT hZ (w70 hw)) (by decide) (backOf (W := 0) (rm_chs l Z a0 hw [] G1 G3 HG h0 n0 X00 x t kt nn cs j_3 hp0 hp1 hp2 hp3 g_16 hc_74 hl1 hla) hZ (w72 hw) (w12 hw) (by decide) (by decide)) q_78 q_80 (g := (mkF m 14 #[.val (.ref x), .val (.int r_2), .val (.int j_3), .val (.int v_22)] [(.int j_3), (.ref x)])) rfl (by rw [hml]; rfl) (Steps.refl _) (argsL := [(.int j_3)]) (rest := []) (lenOf pd_464 rfl) rfl (by show 2 * 0 + _ ≤ _; exact Nat.le_of_eq rfl) (hb hby d19_14) (fun _ _ => ⟨rfl, e_72, (by decide : 0 + 0 ≤ _), (by decide : 0 + 0 ≤ _)⟩)
        dsimp only [Pt.U, Pt.locs, Pt.cells, Pt.slots] at X_75 l_75 y_75 z_75 st_75 hQ_75
        have X_75 := own_cast X_75 l_75 y_75 z_75
        obtain ⟨rfl, N_81, e_82⟩ := hQ_75
        have N_83 := Fr.app N_71 N_81
        have e_84 : T_75.heap = h0 := e_82
        have C_85 : Steps p.tables e below S0 (T_75.setTop (mkF m 21 #[.val (.ref x), .val (.int r_2), .val (.int j_3), .val (.int (own_gt cs j_3))] [(.int (36 : Int32)), (.int (own_gt cs j_3))])) := by
          refine C_73.trans ?_
          refine XS.icmpNo X_63.here hx rfl (hb hby d19_9) rfl (ii_ge_f hc_74) ?_
          refine XS.aloadN X_63.here hx rfl (hb hby d19_12) rfl rfl ?_
          refine XS.iloadN X_63.here hx rfl (hb hby d19_13) rfl ?_
          refine st_75.trans ?_
          refine XS.istoreN X_75.here hx rfl (hb hby d19_17) rfl (l' := #[.val (.ref x), .val (.int r_2), .val (.int j_3), .val (.int (own_gt cs j_3))]) rfl ?_
          refine XS.iloadN X_75.here hx rfl (hb hby d19_18) rfl ?_
          refine XS.bipush X_75.here hx rfl (hb hby d19_19) ?_
          exact Steps.refl _
        by_cases hc_86 : (own_gt cs j_3) = (36 : Int32)
        · skip
          have C_87 : Steps p.tables e below S0 (T_75.setTop (mkF m 25 #[.val (.ref x), .val (.int r_2), .val (.int j_3), .val (.int (own_gt cs j_3))] [(.int (1 : Int32))])) := by
            refine C_85.trans ?_
            refine XS.icmpNo X_75.here hx rfl (hb hby d19_21) rfl (ii_ne_f hc_86) ?_
            refine XS.iconst X_75.here hx rfl (hb hby d19_24) ?_
            exact Steps.refl _
          obtain ⟨fs, hr, hrun, hended, hW, hsame⟩ := X_75.leave (v := some (.int (1 : Int32))) (fun h => by rw [Bd.returns] at h; cases h)
          refine ⟨_, _, C_87.trans (retN X_75 hx (t := .boolean) Bd.returns (by simp) (hb hby d19_25) hr), hrun, hended, _, _, rfl, ?_, ⟨_, rfl⟩, hW, hsame.mono (by decide) (by decide)⟩
          show Q_mhh Z G1 G3 x t kt nn cs h0 n0 (some (.int (1 : Int32))) T_75.heap _
          rw [e_84]
          exact ⟨(1 : Int32), rfl, N_83, rfl, (own_s36 hl1 g_20 g_16 hc_74 hc_86)⟩
        · skip
          obtain ⟨_, _, ⟨T_88, L_88, k_88, n_88⟩, -, X_88, ⟨Lc_88, hQ_88, l_88, y_88, z_88⟩, st_88⟩ := Jvm.LawKit.callS X_75 hx (y := M294) hown (mvT hZ (w90 hw)) (mvT hZ (w91 hw)) (mvT hZ (w42 hw)) (mvT hZ (w92 hw)) (by decide) (backOf (W := 0) (rm_ishash l Z a0 hw [] G1 G3 HG h0 n0 X00 (own_gt cs j_3) ) hZ (w92 hw) (w42 hw) (by decide) (by decide)) (g := (mkF m 27 #[.val (.ref x), .val (.int r_2), .val (.int j_3), .val (.int (own_gt cs j_3))] [(.int (own_gt cs j_3))])) rfl (by rw [hml]; rfl) (argsL := [(.int (own_gt cs j_3))]) (rest := []) (lenOf pd_337 rfl) rfl (by show 2 * 0 + _ ≤ _; exact Nat.le_of_eq rfl) (hb hby d19_27) (fun _ _ => ⟨rfl, e_84, (by decide : 0 + 0 ≤ _), (by decide : 0 + 0 ≤ _)⟩)
          dsimp only [Pt.U, Pt.locs, Pt.cells, Pt.slots] at X_88 l_88 y_88 z_88 st_88 hQ_88
          have X_88 := own_cast X_88 l_88 y_88 z_88
          obtain ⟨i_89, rfl, N_90, e_91, g_92⟩ := hQ_88
          have N_93 := Fr.app N_83 N_90
          have e_94 : T_88.heap = h0 := e_91
          have C_95 : Steps p.tables e below S0 (T_88.setTop (mkF m 30 #[.val (.ref x), .val (.int r_2), .val (.int j_3), .val (.int (own_gt cs j_3))] [(.int i_89)])) := by
            refine C_85.trans ?_
            refine XS.icmpYes X_75.here hx rfl (pc0 := 21) (pc' := 26) rfl (hb hby d19_21) rfl (ii_ne_t hc_86) (by decide) (by decide) ?_
            refine XS.iloadN X_75.here hx rfl (hb hby d19_26) rfl ?_
            refine st_88 _ ?_
            exact Steps.refl _
          by_cases hc_96 : i_89 = (0 : Int32)
          · skip
            have C_97 : Steps p.tables e below S0 (T_88.setTop (mkF m 4 #[.val (.ref x), .val (.int (0 : Int32)), .val (.int (j_3 + (1 : Int32))), .val (.int (own_gt cs j_3))] [])) := by
              refine C_95.trans ?_
              refine XS.ifYes X_88.here hx rfl (pc0 := 30) (pc' := 39) rfl (hb hby d19_30) rfl (i0_eq_t hc_96) (by decide) (by decide) ?_
              refine XS.iconst X_88.here hx rfl (hb hby d19_39) ?_
              refine XS.istoreN X_88.here hx rfl (hb hby d19_40) rfl (l' := #[.val (.ref x), .val (.int (0 : Int32)), .val (.int j_3), .val (.int (own_gt cs j_3))]) rfl ?_
              refine XS.iloadN X_88.here hx rfl (hb hby d19_41) rfl ?_
              refine XS.bipush X_88.here hx rfl (hb hby d19_42) ?_
              refine XS.icmpYes X_88.here hx rfl (pc0 := 44) (pc' := 49) rfl (hb hby d19_44) rfl (by decide) (by decide) (by decide) ?_
              refine XS.iinc X_88.here hx rfl (hb hby d19_49) (x := j_3) rfl (l' := #[.val (.ref x), .val (.int (0 : Int32)), .val (.int (j_3 + (1 : Int32))), .val (.int (own_gt cs j_3))]) rfl ?_
              refine XS.goto X_88.here hx rfl (pc0 := 52) (pc' := 4) rfl (hb hby d19_52) (by decide) (by decide) ?_
              show Steps p.tables e below (T_88.setTop (mkF m 4 #[.val (.ref x), .val (.int (0 : Int32)), .val (.int (j_3 + (1 : Int32))), .val (.int (own_gt cs j_3))] [])) _
              exact Steps.refl _
            exact ih_10 _ (by rw [hd_9]; exact (own_dec g_16 hc_74)) (0 : Int32) (j_3 + (1 : Int32)) (.val (.int (own_gt cs j_3))) _ _  ⟨X_88, e_94, N_93, rfl, (own_nat g_16 hc_74).2.2.1, (own_nat g_16 hc_74).2.2.2, (by decide), (by decide), (own_sB hl1 g_20 g_16 hc_74 hc_86 g_92 hc_96), Or.inr ⟨_, rfl⟩, C_97⟩ rfl
          · skip
            have C_98 : Steps p.tables e below S0 (T_88.setTop (mkF m 44 #[.val (.ref x), .val (.int (r_2 + (1 : Int32))), .val (.int j_3), .val (.int (own_gt cs j_3))] [(.int (13 : Int32)), (.int (r_2 + (1 : Int32)))])) := by
              refine C_95.trans ?_
              refine XS.ifNo X_88.here hx rfl (hb hby d19_30) rfl (i0_eq_f hc_96) ?_
              refine XS.iloadN X_88.here hx rfl (hb hby d19_33) rfl ?_
              refine XS.iconst X_88.here hx rfl (hb hby d19_34) ?_
              refine XS.iadd X_88.here hx rfl (hb hby d19_35) rfl ?_
              refine XS.goto X_88.here hx rfl (pc0 := 36) (pc' := 40) rfl (hb hby d19_36) (by decide) (by decide) ?_
              refine XS.istoreN X_88.here hx rfl (hb hby d19_40) rfl (l' := #[.val (.ref x), .val (.int (r_2 + (1 : Int32))), .val (.int j_3), .val (.int (own_gt cs j_3))]) rfl ?_
              refine XS.iloadN X_88.here hx rfl (hb hby d19_41) rfl ?_
              refine XS.bipush X_88.here hx rfl (hb hby d19_42) ?_
              show Steps p.tables e below (T_88.setTop (mkF m 44 #[.val (.ref x), .val (.int (r_2 + (1 : Int32))), .val (.int j_3), .val (.int (own_gt cs j_3))] [(.int (13 : Int32)), (.int (r_2 + (1 : Int32)))])) _
              exact Steps.refl _
            by_cases hc_99 : (r_2 + (1 : Int32)) = (13 : Int32)
            · skip
              have C_100 : Steps p.tables e below S0 (T_88.setTop (mkF m 48 #[.val (.ref x), .val (.int (r_2 + (1 : Int32))), .val (.int j_3), .val (.int (own_gt cs j_3))] [(.int (1 : Int32))])) := by
                refine C_98.trans ?_
                refine XS.icmpNo X_88.here hx rfl (hb hby d19_44) rfl (ii_ne_f hc_99) ?_
                refine XS.iconst X_88.here hx rfl (hb hby d19_47) ?_
                exact Steps.refl _
              obtain ⟨fs, hr, hrun, hended, hW, hsame⟩ := X_88.leave (v := some (.int (1 : Int32))) (fun h => by rw [Bd.returns] at h; cases h)
              refine ⟨_, _, C_100.trans (retN X_88 hx (t := .boolean) Bd.returns (by simp) (hb hby d19_48) hr), hrun, hended, _, _, rfl, ?_, ⟨_, rfl⟩, hW, hsame.mono (by decide) (by decide)⟩
              show Q_mhh Z G1 G3 x t kt nn cs h0 n0 (some (.int (1 : Int32))) T_88.heap _
              rw [e_94]
              exact ⟨(1 : Int32), rfl, N_93, rfl, (own_s13 hl1 g_20 g_16 hc_74 hc_86 g_92 hc_96 g_18 g_19 hc_99)⟩
            · skip
              have C_101 : Steps p.tables e below S0 (T_88.setTop (mkF m 4 #[.val (.ref x), .val (.int (r_2 + (1 : Int32))), .val (.int (j_3 + (1 : Int32))), .val (.int (own_gt cs j_3))] [])) := by
                refine C_98.trans ?_
                refine XS.icmpYes X_88.here hx rfl (pc0 := 44) (pc' := 49) rfl (hb hby d19_44) rfl (ii_ne_t hc_99) (by decide) (by decide) ?_
                refine XS.iinc X_88.here hx rfl (hb hby d19_49) (x := j_3) rfl (l' := #[.val (.ref x), .val (.int (r_2 + (1 : Int32))), .val (.int (j_3 + (1 : Int32))), .val (.int (own_gt cs j_3))]) rfl ?_
                refine XS.goto X_88.here hx rfl (pc0 := 52) (pc' := 4) rfl (hb hby d19_52) (by decide) (by decide) ?_
                exact Steps.refl _
              exact ih_10 _ (by rw [hd_9]; exact (own_dec g_16 hc_74)) (r_2 + (1 : Int32)) (j_3 + (1 : Int32)) (.val (.int (own_gt cs j_3))) _ _  ⟨X_88, e_94, N_93, rfl, (own_nat g_16 hc_74).2.2.1, (own_nat g_16 hc_74).2.2.2, (own_rn g_18 g_19).2, (own_r13 g_18 g_19 hc_99), (own_sA hl1 g_20 g_16 hc_74 hc_86 g_92 hc_96 g_18 g_19 hc_99), Or.inr ⟨_, rfl⟩, C_101⟩ rfl
      · skip
        have C_102 : Steps p.tables e below S0 (T_63.setTop (mkF m 56 #[.val (.ref x), .val (.int r_2), .val (.int j_3), .val (.int v_22)] [(.int (0 : Int32))])) := by
          refine C_73.trans ?_
          refine XS.icmpYes X_63.here hx rfl (pc0 := 9) (pc' := 55) rfl (hb hby d19_9) rfl (ii_ge_t hc_74) (by decide) (by decide) ?_
          refine XS.iconst X_63.here hx rfl (hb hby d19_55) ?_
          exact Steps.refl _
        obtain ⟨fs, hr, hrun, hended, hW, hsame⟩ := X_63.leave (v := some (.int (0 : Int32))) (fun h => by rw [Bd.returns] at h; cases h)
        refine ⟨_, _, C_102.trans (retN X_63 hx (t := .boolean) Bd.returns (by simp) (hb hby d19_56) hr), hrun, hended, _, _, rfl, ?_, ⟨_, rfl⟩, hW, hsame.mono (by decide) (by decide)⟩
        show Q_mhh Z G1 G3 x t kt nn cs h0 n0 (some (.int (0 : Int32))) T_63.heap _
        rw [e_72]
        exact ⟨(0 : Int32), rfl, N_71, rfl, (own_s0 hl1 g_20 hc_74)⟩
abbrev R_mhh0 : Room := { frames := 2, cells := 0, slots := 0, locals := 26 }
def Q_mhh0 (Z : State) (G1 : Int32) (G3 : Value) (x : Addr) (t : Addr) (kt : ClassId) (h0 : Heap) (n0 : Nat) (v : Option Value) (h : Heap) (L : List Loc) : Prop := (v = some (.int (0 : Int32)) ∧ Fr n0 L ∧ h = h0)
set_option maxRecDepth 65536 in
set_option maxHeartbeats 40000000 in
theorem rm_mhh0 (l : Launch) (Z : State) (a0 : Array Value) (hw : ∀ d ∈ tables_1, d.before a0 Z = true) (ws : List Jvm.Cond) (G1 : Int32) (G3 : Value) (HG : own_G l Z a0 G1 G3) (h0 : Heap) (n0 : Nat) (X00 : Old Z n0 h0) (x : Addr) (t : Addr) (kt : ClassId) (hp0 : Exa Z h0 x "java/lang/String") (hp1 : Fld Z h0 x "java/lang/String" "coder" "B" (.int (0 : Int32))) (hp2 : Fld Z h0 x "java/lang/String" "value" "[B" (.ref t)) (hp3 : Arv Z h0 t kt .byte (0 : Int32) [] (.int (0 : Int32))) :
    own_CP l Z M445 prog_19_method_10_code 4 (some .boolean) ws R_mhh0 #[(.ref x)] h0 (Q_mhh0 Z G1 G3 x t kt h0 n0) := by
  refine own_P (plainFor_of_name pn_295) ?_
  intro p e s m below meth c s₁ S0 Bd hZ hh hx hby hml hown hnm X0 e0 hS0d
  obtain ⟨O1, P1, O3f, rG3⟩ := id HG
  have N0 := Fr.nil n0
  have C0 : Steps p.tables e below S0 (s₁.setTop (mkF m 0 #[.val (.ref x), .unset, .unset, .unset] [])) := by rw [hS0d]; exact castTop (ef_446 m x) (Steps.refl _)
  obtain ⟨q_2, q_3, q_4, q_5, q_6⟩ := isOf (T := s₁) hZ e0 hp0
  obtain ⟨_, _, ⟨T_1, L_1, k_1, n_1⟩, -, X_1, ⟨Lc_1, hQ_1, l_1, y_1, z_1⟩, st_1⟩ := X0.virtualBack hx (y := M131) (z := M131) hown (mvT hZ (w44 hw)) (mvT hZ (w45 hw)) (notFace_of_selects (args := #[]) (mvT hZ (w47 hw))) (mvT hZ (w47 hw)) (mvT hZ (w46 hw)) (by decide) (backOf (W := 1) (rm_lens l Z a0 hw [] G1 G3 HG h0 n0 X00 x t kt (0 : Int32) [] hp0 hp1 hp2 hp3) hZ (w48 hw) (w12 hw) (by decide) (by decide)) q_4 q_6 (g := (mkF m 6 #[.val (.ref x), .val (.int (0 : Int32)), .val (.int (0 : Int32)), .unset] [(.ref x), (.int (0 : Int32))])) rfl (by rw [hml]; rfl) (Steps.refl _) (argsL := []) (rest := [(.int (0 : Int32))]) (lenOf pd_454 rfl) rfl (by show 2 * 0 + _ ≤ _; exact Nat.le_of_eq rfl) (hb hby d19_6) (fun _ _ => ⟨rfl, e0, (by decide : 0 + 0 ≤ _), (by decide : 0 + 0 ≤ _)⟩)
  dsimp only [Pt.U, Pt.locs, Pt.cells, Pt.slots] at X_1 l_1 y_1 z_1 st_1 hQ_1
  have X_1 := own_cast X_1 l_1 y_1 z_1
  obtain ⟨rfl, N_7, e_8⟩ := hQ_1
  have N_9 := Fr.app N0 N_7
  have e_10 : T_1.heap = h0 := e_8
  have C_11 : Steps p.tables e below S0 (T_1.setTop (mkF m 56 #[.val (.ref x), .val (.int (0 : Int32)), .val (.int (0 : Int32)), .unset] [(.int (0 : Int32))])) := by
    refine C0.trans ?_
    refine XS.iconst X0.here hx rfl (hb hby d19_0) ?_
    refine XS.istoreN X0.here hx rfl (hb hby d19_1) rfl (l' := #[.val (.ref x), .val (.int (0 : Int32)), .unset, .unset]) rfl ?_
    refine XS.iconst X0.here hx rfl (hb hby d19_2) ?_
    refine XS.istoreN X0.here hx rfl (hb hby d19_3) rfl (l' := #[.val (.ref x), .val (.int (0 : Int32)), .val (.int (0 : Int32)), .unset]) rfl ?_
    refine XS.iloadN X0.here hx rfl (hb hby d19_4) rfl ?_
    refine XS.aloadN X0.here hx rfl (hb hby d19_5) rfl rfl ?_
    refine st_1.trans ?_
    refine XS.icmpYes X_1.here hx rfl (pc0 := 9) (pc' := 55) rfl (hb hby d19_9) rfl (by decide) (by decide) (by decide) ?_
    show Steps p.tables e below (T_1.setTop (mkF m 55 #[.val (.ref x), .val (.int (0 : Int32)), .val (.int (0 : Int32)), .unset] [])) _
    refine XS.iconst X_1.here hx rfl (hb hby d19_55) ?_
    exact Steps.refl _
  obtain ⟨fs, hr, hrun, hended, hW, hsame⟩ := X_1.leave (v := some (.int (0 : Int32))) (fun h => by rw [Bd.returns] at h; cases h)
  refine ⟨_, _, C_11.trans (retN X_1 hx (t := .boolean) Bd.returns (by simp) (hb hby d19_56) hr), hrun, hended, _, _, rfl, ?_, ⟨_, rfl⟩, hW, hsame.mono (by decide) (by decide)⟩
  show Q_mhh0 Z G1 G3 x t kt h0 n0 (some (.int (0 : Int32))) T_1.heap _
  rw [e_10]
  exact ⟨rfl, N_9, rfl⟩
theorem ef_498 (m : MethodId) (x0 : Int32) (x1 : Int64) (x2 : Int64) (x3 : Int32) : entryFrame m #[(.int x0), (.long x1), (.long x2), (.int x3)] maxLocals = mkF m 0 #[.val (.int x0), .val (.long x1), .second, .val (.long x2), .second, .val (.int x3), .unset, .unset, .unset, .unset, .unset] [] := by first | (simp [entryFrame, mkF, argsToLocals, Value.category, maxLocals]; done) | rfl
theorem w0 {Z : State} {a0 : Array Value} (hw : ∀ d ∈ tables_1, d.before a0 Z = true) : Jvm.Cond.before (Jvm.Cond.constant "com/example/claimgate/claimgate/config/ConfigSyntaxMayHoldHashPinLaw" (7 : Nat) (2147483647 : Int32)) a0 Z = true := hw _ (List.mem_of_getElem? (i := 0) rfl)
theorem w1 {Z : State} {a0 : Array Value} (hw : ∀ d ∈ tables_1, d.before a0 Z = true) : Jvm.Cond.before (Jvm.Cond.arrayClass Jvm.ClassFile.FieldType.char) a0 Z = true := hw _ (List.mem_of_getElem? (i := 1) rfl)
theorem w5 {Z : State} {a0 : Array Value} (hw : ∀ d ∈ tables_1, d.before a0 Z = true) : Jvm.Cond.before (Jvm.Cond.code ({ cls := "com/example/claimgate/claimgate/config/ConfigSyntaxMayHoldHashPinLaw", name := "ch", desc := "(JIII)C" } : Jvm.MethodName) method_3_code (6 : Nat) (Option.some Jvm.ClassFile.FieldType.char)) a0 Z = true := hw _ (List.mem_of_getElem? (i := 5) rfl)
theorem pd_502 : parseMethodDescriptor "(JIII)C" = some ⟨[.long, .int, .int, .int], some .char⟩ := by decide +kernel
theorem w2 {Z : State} {a0 : Array Value} (hw : ∀ d ∈ tables_1, d.before a0 Z = true) : Jvm.Cond.before (Jvm.Cond.methodLink "com/example/claimgate/claimgate/config/ConfigSyntaxMayHoldHashPinLaw" (8 : Nat) ({ cls := "com/example/claimgate/claimgate/config/ConfigSyntaxMayHoldHashPinLaw", name := "ch", desc := "(JIII)C" } : Jvm.MethodName)) a0 Z = true := hw _ (List.mem_of_getElem? (i := 2) rfl)
theorem w3 {Z : State} {a0 : Array Value} (hw : ∀ d ∈ tables_1, d.before a0 Z = true) : Jvm.Cond.before (Jvm.Cond.static ({ cls := "com/example/claimgate/claimgate/config/ConfigSyntaxMayHoldHashPinLaw", name := "ch", desc := "(JIII)C" } : Jvm.MethodName)) a0 Z = true := hw _ (List.mem_of_getElem? (i := 3) rfl)
theorem w9 {Z : State} {a0 : Array Value} (hw : ∀ d ∈ tables_1, d.before a0 Z = true) : Jvm.Cond.before (Jvm.Cond.code ({ cls := "com/example/claimgate/claimgate/config/ConfigSyntaxMayHoldHashPinLaw", name := "put", desc := "([CIC)V" } : Jvm.MethodName) method_4_code (3 : Nat) (Option.none : Option Jvm.ClassFile.FieldType)) a0 Z = true := hw _ (List.mem_of_getElem? (i := 9) rfl)
theorem pd_506 : parseMethodDescriptor "([CIC)V" = some ⟨[(.array .char), .int, .char], none⟩ := by decide +kernel
theorem w7 {Z : State} {a0 : Array Value} (hw : ∀ d ∈ tables_1, d.before a0 Z = true) : Jvm.Cond.before (Jvm.Cond.methodLink "com/example/claimgate/claimgate/config/ConfigSyntaxMayHoldHashPinLaw" (14 : Nat) ({ cls := "com/example/claimgate/claimgate/config/ConfigSyntaxMayHoldHashPinLaw", name := "put", desc := "([CIC)V" } : Jvm.MethodName)) a0 Z = true := hw _ (List.mem_of_getElem? (i := 7) rfl)
theorem w8 {Z : State} {a0 : Array Value} (hw : ∀ d ∈ tables_1, d.before a0 Z = true) : Jvm.Cond.before (Jvm.Cond.static ({ cls := "com/example/claimgate/claimgate/config/ConfigSyntaxMayHoldHashPinLaw", name := "put", desc := "([CIC)V" } : Jvm.MethodName)) a0 Z = true := hw _ (List.mem_of_getElem? (i := 8) rfl)
theorem w10 {Z : State} {a0 : Array Value} (hw : ∀ d ∈ tables_1, d.before a0 Z = true) : Jvm.Cond.before (Jvm.Cond.classLink "com/example/claimgate/claimgate/config/ConfigSyntaxMayHoldHashPinLaw" (18 : Nat) "java/lang/String") a0 Z = true := hw _ (List.mem_of_getElem? (i := 10) rfl)
theorem w15 {Z : State} {a0 : Array Value} (hw : ∀ d ∈ tables_1, d.before a0 Z = true) : Jvm.Cond.before (Jvm.Cond.code ({ cls := "java/lang/String", name := "<init>", desc := "([C)V" } : Jvm.MethodName) jdk_42_method_3_code (2 : Nat) (Option.none : Option Jvm.ClassFile.FieldType)) a0 Z = true := hw _ (List.mem_of_getElem? (i := 15) rfl)
theorem pd_511 : parseMethodDescriptor "([C)V" = some ⟨[(.array .char)], none⟩ := by decide +kernel
theorem w13 {Z : State} {a0 : Array Value} (hw : ∀ d ∈ tables_1, d.before a0 Z = true) : Jvm.Cond.before (Jvm.Cond.methodLink "com/example/claimgate/claimgate/config/ConfigSyntaxMayHoldHashPinLaw" (20 : Nat) ({ cls := "java/lang/String", name := "<init>", desc := "([C)V" } : Jvm.MethodName)) a0 Z = true := hw _ (List.mem_of_getElem? (i := 13) rfl)
theorem w14 {Z : State} {a0 : Array Value} (hw : ∀ d ∈ tables_1, d.before a0 Z = true) : Jvm.Cond.before (Jvm.Cond.instanceMethod ({ cls := "java/lang/String", name := "<init>", desc := "([C)V" } : Jvm.MethodName)) a0 Z = true := hw _ (List.mem_of_getElem? (i := 14) rfl)
theorem w33 {Z : State} {a0 : Array Value} (hw : ∀ d ∈ tables_1, d.before a0 Z = true) : Jvm.Cond.before (Jvm.Cond.code ({ cls := "com/example/claimgate/claimgate/config/ConfigSyntaxMayHoldHashPinLaw", name := "d", desc := "([CI)Z" } : Jvm.MethodName) method_5_code (2 : Nat) (Option.some Jvm.ClassFile.FieldType.boolean)) a0 Z = true := hw _ (List.mem_of_getElem? (i := 33) rfl)
theorem w31 {Z : State} {a0 : Array Value} (hw : ∀ d ∈ tables_1, d.before a0 Z = true) : Jvm.Cond.before (Jvm.Cond.methodLink "com/example/claimgate/claimgate/config/ConfigSyntaxMayHoldHashPinLaw" (23 : Nat) ({ cls := "com/example/claimgate/claimgate/config/ConfigSyntaxMayHoldHashPinLaw", name := "d", desc := "([CI)Z" } : Jvm.MethodName)) a0 Z = true := hw _ (List.mem_of_getElem? (i := 31) rfl)
theorem w32 {Z : State} {a0 : Array Value} (hw : ∀ d ∈ tables_1, d.before a0 Z = true) : Jvm.Cond.before (Jvm.Cond.static ({ cls := "com/example/claimgate/claimgate/config/ConfigSyntaxMayHoldHashPinLaw", name := "d", desc := "([CI)Z" } : Jvm.MethodName)) a0 Z = true := hw _ (List.mem_of_getElem? (i := 32) rfl)
theorem w36 {Z : State} {a0 : Array Value} (hw : ∀ d ∈ tables_1, d.before a0 Z = true) : Jvm.Cond.before (Jvm.Cond.code ({ cls := "com/example/claimgate/claimgate/config/ConfigSyntaxMayHoldHashPinLaw", name := "w", desc := "([CI)Z" } : Jvm.MethodName) method_8_code (2 : Nat) (Option.some Jvm.ClassFile.FieldType.boolean)) a0 Z = true := hw _ (List.mem_of_getElem? (i := 36) rfl)
theorem w34 {Z : State} {a0 : Array Value} (hw : ∀ d ∈ tables_1, d.before a0 Z = true) : Jvm.Cond.before (Jvm.Cond.methodLink "com/example/claimgate/claimgate/config/ConfigSyntaxMayHoldHashPinLaw" (27 : Nat) ({ cls := "com/example/claimgate/claimgate/config/ConfigSyntaxMayHoldHashPinLaw", name := "w", desc := "([CI)Z" } : Jvm.MethodName)) a0 Z = true := hw _ (List.mem_of_getElem? (i := 34) rfl)
theorem w35 {Z : State} {a0 : Array Value} (hw : ∀ d ∈ tables_1, d.before a0 Z = true) : Jvm.Cond.before (Jvm.Cond.static ({ cls := "com/example/claimgate/claimgate/config/ConfigSyntaxMayHoldHashPinLaw", name := "w", desc := "([CI)Z" } : Jvm.MethodName)) a0 Z = true := hw _ (List.mem_of_getElem? (i := 35) rfl)
theorem w43 {Z : State} {a0 : Array Value} (hw : ∀ d ∈ tables_1, d.before a0 Z = true) : Jvm.Cond.before (Jvm.Cond.code ({ cls := "com/example/claimgate/claimgate/config/ConfigSyntax", name := "mayHoldHash", desc := "(Ljava/lang/String;)Z" } : Jvm.MethodName) prog_19_method_10_code (4 : Nat) (Option.some Jvm.ClassFile.FieldType.boolean)) a0 Z = true := hw _ (List.mem_of_getElem? (i := 43) rfl)
theorem pd_521 : parseMethodDescriptor "(Ljava/lang/String;)Z" = some ⟨[(.object "java/lang/String")], some .boolean⟩ := by decide +kernel
theorem w40 {Z : State} {a0 : Array Value} (hw : ∀ d ∈ tables_1, d.before a0 Z = true) : Jvm.Cond.before (Jvm.Cond.methodLink "com/example/claimgate/claimgate/config/ConfigSyntaxMayHoldHashPinLaw" (30 : Nat) ({ cls := "com/example/claimgate/claimgate/config/ConfigSyntax", name := "mayHoldHash", desc := "(Ljava/lang/String;)Z" } : Jvm.MethodName)) a0 Z = true := hw _ (List.mem_of_getElem? (i := 40) rfl)
theorem w41 {Z : State} {a0 : Array Value} (hw : ∀ d ∈ tables_1, d.before a0 Z = true) : Jvm.Cond.before (Jvm.Cond.static ({ cls := "com/example/claimgate/claimgate/config/ConfigSyntax", name := "mayHoldHash", desc := "(Ljava/lang/String;)Z" } : Jvm.MethodName)) a0 Z = true := hw _ (List.mem_of_getElem? (i := 41) rfl)
def Q_law (Z : State) (G1 : Int32) (G3 : Value) (p0 : Int32) (p1 : Int64) (p2 : Int64) (p3 : Int32) (h0 : Heap) (n0 : Nat) (v : Option Value) (h : Heap) (L : List Loc) : Prop := (v = some (.int (1 : Int32)) ∧ Fr n0 L ∧ Keep h0 h [])
set_option maxRecDepth 65536 in
set_option maxHeartbeats 40000000 in
theorem rm_law (l : Launch) (Z : State) (a0 : Array Value) (hw : ∀ d ∈ tables_1, d.before a0 Z = true) (ws : List Jvm.Cond) (G1 : Int32) (G3 : Value) (HG : own_G l Z a0 G1 G3) (h0 : Heap) (n0 : Nat) (X00 : Old Z n0 h0) (p0 : Int32) (p1 : Int64) (p2 : Int64) (p3 : Int32)  :
    own_CH l Z x code maxLocals ret ws room_1 #[(.int p0), (.long p1), (.long p2), (.int p3)] h0 (Q_law Z G1 G3 p0 p1 p2 p3 h0 n0) := by
  refine own_H (plainFor_of_name pn_218) ?_
  intro p e s m below meth c s₁ S0 Bd hZ hh CH0 hS0 CR0 hx hby hml hown hnm X0 e0 hS0d
  obtain ⟨O1, P1, O3f, rG3⟩ := id HG
  have hEL := own_EL hw
  have hSA := own_SA hw
  have N0 := Fr.nil n0
  have C0 : Steps p.tables e below S0 (s₁.setTop (mkF m 0 #[.val (.int p0), .val (.long p1), .second, .val (.long p2), .second, .val (.int p3), .unset, .unset, .unset, .unset, .unset] [])) := by rw [hS0d]; exact castTop (ef_498 m p0 p1 p2 p3) (Steps.refl _)
  have C_1 : Steps p.tables e below S0 (s₁.setTop (mkF m 7 #[.val (.int p0), .val (.long p1), .second, .val (.long p2), .second, .val (.int p3), .unset, .unset, .unset, .unset, .unset] [(.int (own_len p0))])) := by
    refine C0.trans ?_
    refine XS.iloadN X0.here hx rfl (hb hby at_0) rfl ?_
    refine X0.ldcI hx hown (mvT hZ (w0 hw)) rfl (hb hby at_1) ?_
    refine XS.iand X0.here hx rfl (hb hby at_3) rfl ?_
    refine XS.bipush X0.here hx rfl (hb hby at_4) ?_
    refine iremM X0 hx rfl (hb hby at_6) rfl (by decide) ?_
    exact Steps.refl _
  by_cases hn_2 : (own_len p0) = (0 : Int32)
  · skip
    have C_3 : Steps p.tables e below S0 (s₁.setTop (mkF m 7 #[.val (.int p0), .val (.long p1), .second, .val (.long p2), .second, .val (.int p3), .unset, .unset, .unset, .unset, .unset] [(.int (0 : Int32))])) := by have q := C_1; rw [hn_2] at q; exact q
    obtain ⟨T_4, h_5, k_6, X_7, e_8, E_9, A_10, st_11⟩ := newP (aty := .char) X0 hx hZ (w1 hw) e0 (g := (mkF m 11 #[.val (.int p0), .val (.long p1), .second, .val (.long p2), .second, .val (.int p3), .val (.int (0 : Int32)), .unset, .unset, .unset, .unset] [(.int (0 : Int32))])) rfl (hb hby at_11) rfl (by decide : ¬ ((0 : Int32) < (0 : Int32))) (cap := 0) (by decide : (0 : Int32).toNatClampNeg ≤ 0) (by decide) (by decide) (by decide)
    obtain ⟨a_12, g_13⟩ : ∃ z, z = h0.size := ⟨_, rfl⟩
    rw [← g_13] at A_10 st_11
    have CH_15 : CHv Z consts_1 s.vm h_5 := CHv.ext E_9 CH0
    have CR_16 : CHr Z consts_1 s.vm h0 s.vm h_5 := CR0.trans (CHr.ext E_9 CH0)
    have V_17 : Arv Z h_5 a_12 k_6 .char (0 : Int32) [] (.int (0 : Int32)) := Arv.new A_10 (by decide : ¬ ((0 : Int32) < (0 : Int32)))
    have O_18 : Old Z n0 h_5 := (X00.ext E_9)
    obtain ⟨_, _, ⟨T_19, L_19, k_19, n_19⟩, -, X_19, ⟨Lc_19, hQ_19, l_19, y_19, z_19⟩, st_19⟩ := Jvm.LawKit.callS X_7 hx (y := M216) hown (mvT hZ (w2 hw)) (mvT hZ (w3 hw)) (mvT hZ (w4 hw)) (mvT hZ (w5 hw)) (by decide) (backOf (W := 2) (rm_chc l Z a0 hw [] G1 G3 HG h_5 n0 O_18 p1 (0 : Int32) p3 (0 : Int32) ) hZ (w5 hw) (w4 hw) (by decide) (by decide)) (g := (mkF m 23 #[.val (.int p0), .val (.long p1), .second, .val (.long p2), .second, .val (.int p3), .val (.int (0 : Int32)), .val (.ref a_12), .unset, .unset, .unset] [(.int (0 : Int32)), (.int p3), (.int (0 : Int32)), (.long p1), (.int (0 : Int32)), (.ref a_12)])) rfl (by rw [hml]; rfl) (argsL := [(.long p1), (.int (0 : Int32)), (.int p3), (.int (0 : Int32))]) (rest := [(.int (0 : Int32)), (.ref a_12)]) (lenOf pd_502 rfl) rfl (by show 2 * 0 + _ ≤ _; exact Nat.le_of_eq rfl) (hb hby at_23) (fun _ _ => ⟨rfl, e_8, (by decide : 1 + 0 ≤ _), (by decide : 0 + 0 ≤ _)⟩)
    dsimp only [Pt.U, Pt.locs, Pt.cells, Pt.slots] at X_19 l_19 y_19 z_19 st_19 hQ_19
    have X_19 := own_cast X_19 l_19 y_19 z_19
    obtain ⟨i_20, rfl, N_21, e_22, g_23, g_24⟩ := hQ_19
    have N_25 := Fr.app N0 N_21
    have e_26 : T_19.heap = h_5 := e_22
    obtain ⟨_, _, ⟨T_27, L_27, k_27, n_27⟩, -, X_27, ⟨Lc_27, hQ_27, l_27, y_27, z_27⟩, st_27⟩ := Jvm.LawKit.callS X_19 hx (y := M244) hown (mvT hZ (w7 hw)) (mvT hZ (w8 hw)) (mvT hZ (w4 hw)) (mvT hZ (w9 hw)) (by decide) (backOf (W := 0) (rm_put0 l Z a0 hw [] G1 G3 HG h_5 n0 O_18 a_12 k_6 (0 : Int32) i_20 V_17 (by decide)) hZ (w9 hw) (w4 hw) (by decide) (by decide)) (g := (mkF m 26 #[.val (.int p0), .val (.long p1), .second, .val (.long p2), .second, .val (.int p3), .val (.int (0 : Int32)), .val (.ref a_12), .unset, .unset, .unset] [(.int i_20), (.int (0 : Int32)), (.ref a_12)])) rfl (by rw [hml]; rfl) (argsL := [(.ref a_12), (.int (0 : Int32)), (.int i_20)]) (rest := []) (lenOf pd_506 rfl) rfl (by show 2 * 0 + _ ≤ _; exact Nat.le_of_eq rfl) (hb hby at_26) (fun _ _ => ⟨rfl, e_26, (by decide : 1 + 0 ≤ _), (by decide : 0 + 0 ≤ _)⟩)
    dsimp only [Pt.U, Pt.locs, Pt.cells, Pt.slots] at X_27 l_27 y_27 z_27 st_27 hQ_27
    have X_27 := own_cast X_27 l_27 y_27 z_27
    obtain ⟨rfl, N_28, e_29⟩ := hQ_27
    have N_30 := Fr.app N_25 N_28
    have e_31 : T_27.heap = h_5 := e_29
    obtain ⟨_, _, ⟨T_32, L_32, k_32, n_32⟩, -, X_32, ⟨Lc_32, hQ_32, l_32, y_32, z_32⟩, st_32⟩ := Jvm.LawKit.callS X_27 hx (y := M216) hown (mvT hZ (w2 hw)) (mvT hZ (w3 hw)) (mvT hZ (w4 hw)) (mvT hZ (w5 hw)) (by decide) (backOf (W := 2) (rm_chc l Z a0 hw [] G1 G3 HG h_5 n0 O_18 p1 (1 : Int32) p3 (1 : Int32) ) hZ (w5 hw) (w4 hw) (by decide) (by decide)) (g := (mkF m 37 #[.val (.int p0), .val (.long p1), .second, .val (.long p2), .second, .val (.int p3), .val (.int (0 : Int32)), .val (.ref a_12), .unset, .unset, .unset] [(.int (1 : Int32)), (.int p3), (.int (1 : Int32)), (.long p1), (.int (1 : Int32)), (.ref a_12)])) rfl (by rw [hml]; rfl) (argsL := [(.long p1), (.int (1 : Int32)), (.int p3), (.int (1 : Int32))]) (rest := [(.int (1 : Int32)), (.ref a_12)]) (lenOf pd_502 rfl) rfl (by show 2 * 0 + _ ≤ _; exact Nat.le_of_eq rfl) (hb hby at_37) (fun _ _ => ⟨rfl, e_31, (by decide : 1 + 0 ≤ _), (by decide : 0 + 0 ≤ _)⟩)
    dsimp only [Pt.U, Pt.locs, Pt.cells, Pt.slots] at X_32 l_32 y_32 z_32 st_32 hQ_32
    have X_32 := own_cast X_32 l_32 y_32 z_32
    obtain ⟨i_33, rfl, N_34, e_35, g_36, g_37⟩ := hQ_32
    have N_38 := Fr.app N_30 N_34
    have e_39 : T_32.heap = h_5 := e_35
    obtain ⟨_, _, ⟨T_40, L_40, k_40, n_40⟩, -, X_40, ⟨Lc_40, hQ_40, l_40, y_40, z_40⟩, st_40⟩ := Jvm.LawKit.callS X_32 hx (y := M244) hown (mvT hZ (w7 hw)) (mvT hZ (w8 hw)) (mvT hZ (w4 hw)) (mvT hZ (w9 hw)) (by decide) (backOf (W := 0) (rm_put0 l Z a0 hw [] G1 G3 HG h_5 n0 O_18 a_12 k_6 (1 : Int32) i_33 V_17 (by decide)) hZ (w9 hw) (w4 hw) (by decide) (by decide)) (g := (mkF m 40 #[.val (.int p0), .val (.long p1), .second, .val (.long p2), .second, .val (.int p3), .val (.int (0 : Int32)), .val (.ref a_12), .unset, .unset, .unset] [(.int i_33), (.int (1 : Int32)), (.ref a_12)])) rfl (by rw [hml]; rfl) (argsL := [(.ref a_12), (.int (1 : Int32)), (.int i_33)]) (rest := []) (lenOf pd_506 rfl) rfl (by show 2 * 0 + _ ≤ _; exact Nat.le_of_eq rfl) (hb hby at_40) (fun _ _ => ⟨rfl, e_39, (by decide : 1 + 0 ≤ _), (by decide : 0 + 0 ≤ _)⟩)
    dsimp only [Pt.U, Pt.locs, Pt.cells, Pt.slots] at X_40 l_40 y_40 z_40 st_40 hQ_40
    have X_40 := own_cast X_40 l_40 y_40 z_40
    obtain ⟨rfl, N_41, e_42⟩ := hQ_40
    have N_43 := Fr.app N_38 N_41
    have e_44 : T_40.heap = h_5 := e_42
    obtain ⟨_, _, ⟨T_45, L_45, k_45, n_45⟩, -, X_45, ⟨Lc_45, hQ_45, l_45, y_45, z_45⟩, st_45⟩ := Jvm.LawKit.callS X_40 hx (y := M216) hown (mvT hZ (w2 hw)) (mvT hZ (w3 hw)) (mvT hZ (w4 hw)) (mvT hZ (w5 hw)) (by decide) (backOf (W := 2) (rm_chc l Z a0 hw [] G1 G3 HG h_5 n0 O_18 p1 (2 : Int32) p3 (2 : Int32) ) hZ (w5 hw) (w4 hw) (by decide) (by decide)) (g := (mkF m 51 #[.val (.int p0), .val (.long p1), .second, .val (.long p2), .second, .val (.int p3), .val (.int (0 : Int32)), .val (.ref a_12), .unset, .unset, .unset] [(.int (2 : Int32)), (.int p3), (.int (2 : Int32)), (.long p1), (.int (2 : Int32)), (.ref a_12)])) rfl (by rw [hml]; rfl) (argsL := [(.long p1), (.int (2 : Int32)), (.int p3), (.int (2 : Int32))]) (rest := [(.int (2 : Int32)), (.ref a_12)]) (lenOf pd_502 rfl) rfl (by show 2 * 0 + _ ≤ _; exact Nat.le_of_eq rfl) (hb hby at_51) (fun _ _ => ⟨rfl, e_44, (by decide : 1 + 0 ≤ _), (by decide : 0 + 0 ≤ _)⟩)
    dsimp only [Pt.U, Pt.locs, Pt.cells, Pt.slots] at X_45 l_45 y_45 z_45 st_45 hQ_45
    have X_45 := own_cast X_45 l_45 y_45 z_45
    obtain ⟨i_46, rfl, N_47, e_48, g_49, g_50⟩ := hQ_45
    have N_51 := Fr.app N_43 N_47
    have e_52 : T_45.heap = h_5 := e_48
    obtain ⟨_, _, ⟨T_53, L_53, k_53, n_53⟩, -, X_53, ⟨Lc_53, hQ_53, l_53, y_53, z_53⟩, st_53⟩ := Jvm.LawKit.callS X_45 hx (y := M244) hown (mvT hZ (w7 hw)) (mvT hZ (w8 hw)) (mvT hZ (w4 hw)) (mvT hZ (w9 hw)) (by decide) (backOf (W := 0) (rm_put0 l Z a0 hw [] G1 G3 HG h_5 n0 O_18 a_12 k_6 (2 : Int32) i_46 V_17 (by decide)) hZ (w9 hw) (w4 hw) (by decide) (by decide)) (g := (mkF m 54 #[.val (.int p0), .val (.long p1), .second, .val (.long p2), .second, .val (.int p3), .val (.int (0 : Int32)), .val (.ref a_12), .unset, .unset, .unset] [(.int i_46), (.int (2 : Int32)), (.ref a_12)])) rfl (by rw [hml]; rfl) (argsL := [(.ref a_12), (.int (2 : Int32)), (.int i_46)]) (rest := []) (lenOf pd_506 rfl) rfl (by show 2 * 0 + _ ≤ _; exact Nat.le_of_eq rfl) (hb hby at_54) (fun _ _ => ⟨rfl, e_52, (by decide : 1 + 0 ≤ _), (by decide : 0 + 0 ≤ _)⟩)
    dsimp only [Pt.U, Pt.locs, Pt.cells, Pt.slots] at X_53 l_53 y_53 z_53 st_53 hQ_53
    have X_53 := own_cast X_53 l_53 y_53 z_53
    obtain ⟨rfl, N_54, e_55⟩ := hQ_53
    have N_56 := Fr.app N_51 N_54
    have e_57 : T_53.heap = h_5 := e_55
    obtain ⟨_, _, ⟨T_58, L_58, k_58, n_58⟩, -, X_58, ⟨Lc_58, hQ_58, l_58, y_58, z_58⟩, st_58⟩ := Jvm.LawKit.callS X_53 hx (y := M216) hown (mvT hZ (w2 hw)) (mvT hZ (w3 hw)) (mvT hZ (w4 hw)) (mvT hZ (w5 hw)) (by decide) (backOf (W := 2) (rm_chc l Z a0 hw [] G1 G3 HG h_5 n0 O_18 p1 (3 : Int32) p3 (3 : Int32) ) hZ (w5 hw) (w4 hw) (by decide) (by decide)) (g := (mkF m 65 #[.val (.int p0), .val (.long p1), .second, .val (.long p2), .second, .val (.int p3), .val (.int (0 : Int32)), .val (.ref a_12), .unset, .unset, .unset] [(.int (3 : Int32)), (.int p3), (.int (3 : Int32)), (.long p1), (.int (3 : Int32)), (.ref a_12)])) rfl (by rw [hml]; rfl) (argsL := [(.long p1), (.int (3 : Int32)), (.int p3), (.int (3 : Int32))]) (rest := [(.int (3 : Int32)), (.ref a_12)]) (lenOf pd_502 rfl) rfl (by show 2 * 0 + _ ≤ _; exact Nat.le_of_eq rfl) (hb hby at_65) (fun _ _ => ⟨rfl, e_57, (by decide : 1 + 0 ≤ _), (by decide : 0 + 0 ≤ _)⟩)
    dsimp only [Pt.U, Pt.locs, Pt.cells, Pt.slots] at X_58 l_58 y_58 z_58 st_58 hQ_58
    have X_58 := own_cast X_58 l_58 y_58 z_58
    obtain ⟨i_59, rfl, N_60, e_61, g_62, g_63⟩ := hQ_58
    have N_64 := Fr.app N_56 N_60
    have e_65 : T_58.heap = h_5 := e_61
    obtain ⟨_, _, ⟨T_66, L_66, k_66, n_66⟩, -, X_66, ⟨Lc_66, hQ_66, l_66, y_66, z_66⟩, st_66⟩ := Jvm.LawKit.callS X_58 hx (y := M244) hown (mvT hZ (w7 hw)) (mvT hZ (w8 hw)) (mvT hZ (w4 hw)) (mvT hZ (w9 hw)) (by decide) (backOf (W := 0) (rm_put0 l Z a0 hw [] G1 G3 HG h_5 n0 O_18 a_12 k_6 (3 : Int32) i_59 V_17 (by decide)) hZ (w9 hw) (w4 hw) (by decide) (by decide)) (g := (mkF m 68 #[.val (.int p0), .val (.long p1), .second, .val (.long p2), .second, .val (.int p3), .val (.int (0 : Int32)), .val (.ref a_12), .unset, .unset, .unset] [(.int i_59), (.int (3 : Int32)), (.ref a_12)])) rfl (by rw [hml]; rfl) (argsL := [(.ref a_12), (.int (3 : Int32)), (.int i_59)]) (rest := []) (lenOf pd_506 rfl) rfl (by show 2 * 0 + _ ≤ _; exact Nat.le_of_eq rfl) (hb hby at_68) (fun _ _ => ⟨rfl, e_65, (by decide : 1 + 0 ≤ _), (by decide : 0 + 0 ≤ _)⟩)
    dsimp only [Pt.U, Pt.locs, Pt.cells, Pt.slots] at X_66 l_66 y_66 z_66 st_66 hQ_66
    have X_66 := own_cast X_66 l_66 y_66 z_66
    obtain ⟨rfl, N_67, e_68⟩ := hQ_66
    have N_69 := Fr.app N_64 N_67
    have e_70 : T_66.heap = h_5 := e_68
    have C_71 : Steps p.tables e below S0 (T_66.setTop (mkF m 71 #[.val (.int p0), .val (.long p1), .second, .val (.long p2), .second, .val (.int p3), .val (.int (0 : Int32)), .val (.ref a_12), .unset, .unset, .unset] [])) := by
      refine C_3.trans ?_
      refine XS.istore X0.here hx rfl (hb hby at_7) rfl (l' := #[.val (.int p0), .val (.long p1), .second, .val (.long p2), .second, .val (.int p3), .val (.int (0 : Int32)), .unset, .unset, .unset, .unset]) rfl ?_
      refine XS.iload X0.here hx rfl (hb hby at_9) rfl ?_
      refine st_11 _ ?_
      refine XS.astore X_7.here hx rfl (hb hby at_13) rfl rfl (l' := #[.val (.int p0), .val (.long p1), .second, .val (.long p2), .second, .val (.int p3), .val (.int (0 : Int32)), .val (.ref a_12), .unset, .unset, .unset]) rfl ?_
      refine XS.aload X_7.here hx rfl (hb hby at_15) rfl rfl ?_
      refine XS.iconst X_7.here hx rfl (hb hby at_17) ?_
      refine XS.lloadN X_7.here hx rfl (hb hby at_18) rfl ?_
      refine XS.iconst X_7.here hx rfl (hb hby at_19) ?_
      show Steps p.tables e below (T_4.setTop (mkF m 20 #[.val (.int p0), .val (.long p1), .second, .val (.long p2), .second, .val (.int p3), .val (.int (0 : Int32)), .val (.ref a_12), .unset, .unset, .unset] [(.int (0 : Int32)), (.long p1), (.int (0 : Int32)), (.ref a_12)])) _
      refine XS.iload X_7.here hx rfl (hb hby at_20) rfl ?_
      refine XS.iconst X_7.here hx rfl (hb hby at_22) ?_
      refine st_19 _ ?_
      refine st_27 _ ?_
      refine XS.aload X_27.here hx rfl (hb hby at_29) rfl rfl ?_
      refine XS.iconst X_27.here hx rfl (hb hby at_31) ?_
      refine XS.lloadN X_27.here hx rfl (hb hby at_32) rfl ?_
      refine XS.iconst X_27.here hx rfl (hb hby at_33) ?_
      show Steps p.tables e below (T_27.setTop (mkF m 34 #[.val (.int p0), .val (.long p1), .second, .val (.long p2), .second, .val (.int p3), .val (.int (0 : Int32)), .val (.ref a_12), .unset, .unset, .unset] [(.int (1 : Int32)), (.long p1), (.int (1 : Int32)), (.ref a_12)])) _
      refine XS.iload X_27.here hx rfl (hb hby at_34) rfl ?_
      refine XS.iconst X_27.here hx rfl (hb hby at_36) ?_
      refine st_32 _ ?_
      refine st_40 _ ?_
      refine XS.aload X_40.here hx rfl (hb hby at_43) rfl rfl ?_
      refine XS.iconst X_40.here hx rfl (hb hby at_45) ?_
      refine XS.lloadN X_40.here hx rfl (hb hby at_46) rfl ?_
      refine XS.iconst X_40.here hx rfl (hb hby at_47) ?_
      show Steps p.tables e below (T_40.setTop (mkF m 48 #[.val (.int p0), .val (.long p1), .second, .val (.long p2), .second, .val (.int p3), .val (.int (0 : Int32)), .val (.ref a_12), .unset, .unset, .unset] [(.int (2 : Int32)), (.long p1), (.int (2 : Int32)), (.ref a_12)])) _
      refine XS.iload X_40.here hx rfl (hb hby at_48) rfl ?_
      refine XS.iconst X_40.here hx rfl (hb hby at_50) ?_
      refine st_45 _ ?_
      refine st_53 _ ?_
      refine XS.aload X_53.here hx rfl (hb hby at_57) rfl rfl ?_
      refine XS.iconst X_53.here hx rfl (hb hby at_59) ?_
      refine XS.lloadN X_53.here hx rfl (hb hby at_60) rfl ?_
      refine XS.iconst X_53.here hx rfl (hb hby at_61) ?_
      show Steps p.tables e below (T_53.setTop (mkF m 62 #[.val (.int p0), .val (.long p1), .second, .val (.long p2), .second, .val (.int p3), .val (.int (0 : Int32)), .val (.ref a_12), .unset, .unset, .unset] [(.int (3 : Int32)), (.long p1), (.int (3 : Int32)), (.ref a_12)])) _
      refine XS.iload X_53.here hx rfl (hb hby at_62) rfl ?_
      refine XS.iconst X_53.here hx rfl (hb hby at_64) ?_
      refine st_58 _ ?_
      refine st_66 _ ?_
      exact Steps.refl _
    obtain ⟨_, _, ⟨T_72, L_72, k_72, n_72⟩, -, X_72, ⟨Lc_72, hQ_72, l_72, y_72, z_72⟩, st_72⟩ := Jvm.LawKit.callS X_66 hx (y := M216) hown (mvT hZ (w2 hw)) (mvT hZ (w3 hw)) (mvT hZ (w4 hw)) (mvT hZ (w5 hw)) (by decide) (backOf (W := 2) (rm_chc l Z a0 hw [] G1 G3 HG h_5 n0 O_18 p1 (4 : Int32) p3 (4 : Int32) ) hZ (w5 hw) (w4 hw) (by decide) (by decide)) (g := (mkF m 79 #[.val (.int p0), .val (.long p1), .second, .val (.long p2), .second, .val (.int p3), .val (.int (0 : Int32)), .val (.ref a_12), .unset, .unset, .unset] [(.int (4 : Int32)), (.int p3), (.int (4 : Int32)), (.long p1), (.int (4 : Int32)), (.ref a_12)])) rfl (by rw [hml]; rfl) (argsL := [(.long p1), (.int (4 : Int32)), (.int p3), (.int (4 : Int32))]) (rest := [(.int (4 : Int32)), (.ref a_12)]) (lenOf pd_502 rfl) rfl (by show 2 * 0 + _ ≤ _; exact Nat.le_of_eq rfl) (hb hby at_79) (fun _ _ => ⟨rfl, e_70, (by decide : 1 + 0 ≤ _), (by decide : 0 + 0 ≤ _)⟩)
    dsimp only [Pt.U, Pt.locs, Pt.cells, Pt.slots] at X_72 l_72 y_72 z_72 st_72 hQ_72
    have X_72 := own_cast X_72 l_72 y_72 z_72
    obtain ⟨i_73, rfl, N_74, e_75, g_76, g_77⟩ := hQ_72
    have N_78 := Fr.app N_69 N_74
    have e_79 : T_72.heap = h_5 := e_75
    obtain ⟨_, _, ⟨T_80, L_80, k_80, n_80⟩, -, X_80, ⟨Lc_80, hQ_80, l_80, y_80, z_80⟩, st_80⟩ := Jvm.LawKit.callS X_72 hx (y := M244) hown (mvT hZ (w7 hw)) (mvT hZ (w8 hw)) (mvT hZ (w4 hw)) (mvT hZ (w9 hw)) (by decide) (backOf (W := 0) (rm_put0 l Z a0 hw [] G1 G3 HG h_5 n0 O_18 a_12 k_6 (4 : Int32) i_73 V_17 (by decide)) hZ (w9 hw) (w4 hw) (by decide) (by decide)) (g := (mkF m 82 #[.val (.int p0), .val (.long p1), .second, .val (.long p2), .second, .val (.int p3), .val (.int (0 : Int32)), .val (.ref a_12), .unset, .unset, .unset] [(.int i_73), (.int (4 : Int32)), (.ref a_12)])) rfl (by rw [hml]; rfl) (argsL := [(.ref a_12), (.int (4 : Int32)), (.int i_73)]) (rest := []) (lenOf pd_506 rfl) rfl (by show 2 * 0 + _ ≤ _; exact Nat.le_of_eq rfl) (hb hby at_82) (fun _ _ => ⟨rfl, e_79, (by decide : 1 + 0 ≤ _), (by decide : 0 + 0 ≤ _)⟩)
    dsimp only [Pt.U, Pt.locs, Pt.cells, Pt.slots] at X_80 l_80 y_80 z_80 st_80 hQ_80
    have X_80 := own_cast X_80 l_80 y_80 z_80
    obtain ⟨rfl, N_81, e_82⟩ := hQ_80
    have N_83 := Fr.app N_78 N_81
    have e_84 : T_80.heap = h_5 := e_82
    obtain ⟨_, _, ⟨T_85, L_85, k_85, n_85⟩, -, X_85, ⟨Lc_85, hQ_85, l_85, y_85, z_85⟩, st_85⟩ := Jvm.LawKit.callS X_80 hx (y := M216) hown (mvT hZ (w2 hw)) (mvT hZ (w3 hw)) (mvT hZ (w4 hw)) (mvT hZ (w5 hw)) (by decide) (backOf (W := 2) (rm_chc l Z a0 hw [] G1 G3 HG h_5 n0 O_18 p1 (5 : Int32) p3 (5 : Int32) ) hZ (w5 hw) (w4 hw) (by decide) (by decide)) (g := (mkF m 93 #[.val (.int p0), .val (.long p1), .second, .val (.long p2), .second, .val (.int p3), .val (.int (0 : Int32)), .val (.ref a_12), .unset, .unset, .unset] [(.int (5 : Int32)), (.int p3), (.int (5 : Int32)), (.long p1), (.int (5 : Int32)), (.ref a_12)])) rfl (by rw [hml]; rfl) (argsL := [(.long p1), (.int (5 : Int32)), (.int p3), (.int (5 : Int32))]) (rest := [(.int (5 : Int32)), (.ref a_12)]) (lenOf pd_502 rfl) rfl (by show 2 * 0 + _ ≤ _; exact Nat.le_of_eq rfl) (hb hby at_93) (fun _ _ => ⟨rfl, e_84, (by decide : 1 + 0 ≤ _), (by decide : 0 + 0 ≤ _)⟩)
    dsimp only [Pt.U, Pt.locs, Pt.cells, Pt.slots] at X_85 l_85 y_85 z_85 st_85 hQ_85
    have X_85 := own_cast X_85 l_85 y_85 z_85
    obtain ⟨i_86, rfl, N_87, e_88, g_89, g_90⟩ := hQ_85
    have N_91 := Fr.app N_83 N_87
    have e_92 : T_85.heap = h_5 := e_88
    obtain ⟨_, _, ⟨T_93, L_93, k_93, n_93⟩, -, X_93, ⟨Lc_93, hQ_93, l_93, y_93, z_93⟩, st_93⟩ := Jvm.LawKit.callS X_85 hx (y := M244) hown (mvT hZ (w7 hw)) (mvT hZ (w8 hw)) (mvT hZ (w4 hw)) (mvT hZ (w9 hw)) (by decide) (backOf (W := 0) (rm_put0 l Z a0 hw [] G1 G3 HG h_5 n0 O_18 a_12 k_6 (5 : Int32) i_86 V_17 (by decide)) hZ (w9 hw) (w4 hw) (by decide) (by decide)) (g := (mkF m 96 #[.val (.int p0), .val (.long p1), .second, .val (.long p2), .second, .val (.int p3), .val (.int (0 : Int32)), .val (.ref a_12), .unset, .unset, .unset] [(.int i_86), (.int (5 : Int32)), (.ref a_12)])) rfl (by rw [hml]; rfl) (argsL := [(.ref a_12), (.int (5 : Int32)), (.int i_86)]) (rest := []) (lenOf pd_506 rfl) rfl (by show 2 * 0 + _ ≤ _; exact Nat.le_of_eq rfl) (hb hby at_96) (fun _ _ => ⟨rfl, e_92, (by decide : 1 + 0 ≤ _), (by decide : 0 + 0 ≤ _)⟩)
    dsimp only [Pt.U, Pt.locs, Pt.cells, Pt.slots] at X_93 l_93 y_93 z_93 st_93 hQ_93
    have X_93 := own_cast X_93 l_93 y_93 z_93
    obtain ⟨rfl, N_94, e_95⟩ := hQ_93
    have N_96 := Fr.app N_91 N_94
    have e_97 : T_93.heap = h_5 := e_95
    obtain ⟨_, _, ⟨T_98, L_98, k_98, n_98⟩, -, X_98, ⟨Lc_98, hQ_98, l_98, y_98, z_98⟩, st_98⟩ := Jvm.LawKit.callS X_93 hx (y := M216) hown (mvT hZ (w2 hw)) (mvT hZ (w3 hw)) (mvT hZ (w4 hw)) (mvT hZ (w5 hw)) (by decide) (backOf (W := 2) (rm_chc l Z a0 hw [] G1 G3 HG h_5 n0 O_18 p1 (6 : Int32) p3 (6 : Int32) ) hZ (w5 hw) (w4 hw) (by decide) (by decide)) (g := (mkF m 110 #[.val (.int p0), .val (.long p1), .second, .val (.long p2), .second, .val (.int p3), .val (.int (0 : Int32)), .val (.ref a_12), .unset, .unset, .unset] [(.int (6 : Int32)), (.int p3), (.int (6 : Int32)), (.long p1), (.int (6 : Int32)), (.ref a_12)])) rfl (by rw [hml]; rfl) (argsL := [(.long p1), (.int (6 : Int32)), (.int p3), (.int (6 : Int32))]) (rest := [(.int (6 : Int32)), (.ref a_12)]) (lenOf pd_502 rfl) rfl (by show 2 * 0 + _ ≤ _; exact Nat.le_of_eq rfl) (hb hby at_110) (fun _ _ => ⟨rfl, e_97, (by decide : 1 + 0 ≤ _), (by decide : 0 + 0 ≤ _)⟩)
    dsimp only [Pt.U, Pt.locs, Pt.cells, Pt.slots] at X_98 l_98 y_98 z_98 st_98 hQ_98
    have X_98 := own_cast X_98 l_98 y_98 z_98
    obtain ⟨i_99, rfl, N_100, e_101, g_102, g_103⟩ := hQ_98
    have N_104 := Fr.app N_96 N_100
    have e_105 : T_98.heap = h_5 := e_101
    obtain ⟨_, _, ⟨T_106, L_106, k_106, n_106⟩, -, X_106, ⟨Lc_106, hQ_106, l_106, y_106, z_106⟩, st_106⟩ := Jvm.LawKit.callS X_98 hx (y := M244) hown (mvT hZ (w7 hw)) (mvT hZ (w8 hw)) (mvT hZ (w4 hw)) (mvT hZ (w9 hw)) (by decide) (backOf (W := 0) (rm_put0 l Z a0 hw [] G1 G3 HG h_5 n0 O_18 a_12 k_6 (6 : Int32) i_99 V_17 (by decide)) hZ (w9 hw) (w4 hw) (by decide) (by decide)) (g := (mkF m 113 #[.val (.int p0), .val (.long p1), .second, .val (.long p2), .second, .val (.int p3), .val (.int (0 : Int32)), .val (.ref a_12), .unset, .unset, .unset] [(.int i_99), (.int (6 : Int32)), (.ref a_12)])) rfl (by rw [hml]; rfl) (argsL := [(.ref a_12), (.int (6 : Int32)), (.int i_99)]) (rest := []) (lenOf pd_506 rfl) rfl (by show 2 * 0 + _ ≤ _; exact Nat.le_of_eq rfl) (hb hby at_113) (fun _ _ => ⟨rfl, e_105, (by decide : 1 + 0 ≤ _), (by decide : 0 + 0 ≤ _)⟩)
    dsimp only [Pt.U, Pt.locs, Pt.cells, Pt.slots] at X_106 l_106 y_106 z_106 st_106 hQ_106
    have X_106 := own_cast X_106 l_106 y_106 z_106
    obtain ⟨rfl, N_107, e_108⟩ := hQ_106
    have N_109 := Fr.app N_104 N_107
    have e_110 : T_106.heap = h_5 := e_108
    obtain ⟨_, _, ⟨T_111, L_111, k_111, n_111⟩, -, X_111, ⟨Lc_111, hQ_111, l_111, y_111, z_111⟩, st_111⟩ := Jvm.LawKit.callS X_106 hx (y := M216) hown (mvT hZ (w2 hw)) (mvT hZ (w3 hw)) (mvT hZ (w4 hw)) (mvT hZ (w5 hw)) (by decide) (backOf (W := 2) (rm_chc l Z a0 hw [] G1 G3 HG h_5 n0 O_18 p1 (7 : Int32) p3 (7 : Int32) ) hZ (w5 hw) (w4 hw) (by decide) (by decide)) (g := (mkF m 127 #[.val (.int p0), .val (.long p1), .second, .val (.long p2), .second, .val (.int p3), .val (.int (0 : Int32)), .val (.ref a_12), .unset, .unset, .unset] [(.int (7 : Int32)), (.int p3), (.int (7 : Int32)), (.long p1), (.int (7 : Int32)), (.ref a_12)])) rfl (by rw [hml]; rfl) (argsL := [(.long p1), (.int (7 : Int32)), (.int p3), (.int (7 : Int32))]) (rest := [(.int (7 : Int32)), (.ref a_12)]) (lenOf pd_502 rfl) rfl (by show 2 * 0 + _ ≤ _; exact Nat.le_of_eq rfl) (hb hby at_127) (fun _ _ => ⟨rfl, e_110, (by decide : 1 + 0 ≤ _), (by decide : 0 + 0 ≤ _)⟩)
    dsimp only [Pt.U, Pt.locs, Pt.cells, Pt.slots] at X_111 l_111 y_111 z_111 st_111 hQ_111
    have X_111 := own_cast X_111 l_111 y_111 z_111
    obtain ⟨i_112, rfl, N_113, e_114, g_115, g_116⟩ := hQ_111
    have N_117 := Fr.app N_109 N_113
    have e_118 : T_111.heap = h_5 := e_114
    obtain ⟨_, _, ⟨T_119, L_119, k_119, n_119⟩, -, X_119, ⟨Lc_119, hQ_119, l_119, y_119, z_119⟩, st_119⟩ := Jvm.LawKit.callS X_111 hx (y := M244) hown (mvT hZ (w7 hw)) (mvT hZ (w8 hw)) (mvT hZ (w4 hw)) (mvT hZ (w9 hw)) (by decide) (backOf (W := 0) (rm_put0 l Z a0 hw [] G1 G3 HG h_5 n0 O_18 a_12 k_6 (7 : Int32) i_112 V_17 (by decide)) hZ (w9 hw) (w4 hw) (by decide) (by decide)) (g := (mkF m 130 #[.val (.int p0), .val (.long p1), .second, .val (.long p2), .second, .val (.int p3), .val (.int (0 : Int32)), .val (.ref a_12), .unset, .unset, .unset] [(.int i_112), (.int (7 : Int32)), (.ref a_12)])) rfl (by rw [hml]; rfl) (argsL := [(.ref a_12), (.int (7 : Int32)), (.int i_112)]) (rest := []) (lenOf pd_506 rfl) rfl (by show 2 * 0 + _ ≤ _; exact Nat.le_of_eq rfl) (hb hby at_130) (fun _ _ => ⟨rfl, e_118, (by decide : 1 + 0 ≤ _), (by decide : 0 + 0 ≤ _)⟩)
    dsimp only [Pt.U, Pt.locs, Pt.cells, Pt.slots] at X_119 l_119 y_119 z_119 st_119 hQ_119
    have X_119 := own_cast X_119 l_119 y_119 z_119
    obtain ⟨rfl, N_120, e_121⟩ := hQ_119
    have N_122 := Fr.app N_117 N_120
    have e_123 : T_119.heap = h_5 := e_121
    have C_124 : Steps p.tables e below S0 (T_119.setTop (mkF m 139 #[.val (.int p0), .val (.long p1), .second, .val (.long p2), .second, .val (.int p3), .val (.int (0 : Int32)), .val (.ref a_12), .unset, .unset, .unset] [(.int (0 : Int32)), (.long p2), (.int (8 : Int32)), (.ref a_12)])) := by
      refine C_71.trans ?_
      refine XS.aload X_66.here hx rfl (hb hby at_71) rfl rfl ?_
      refine XS.iconst X_66.here hx rfl (hb hby at_73) ?_
      refine XS.lloadN X_66.here hx rfl (hb hby at_74) rfl ?_
      refine XS.iconst X_66.here hx rfl (hb hby at_75) ?_
      refine XS.iload X_66.here hx rfl (hb hby at_76) rfl ?_
      refine XS.iconst X_66.here hx rfl (hb hby at_78) ?_
      refine st_72 _ ?_
      refine st_80 _ ?_
      show Steps p.tables e below (T_80.setTop (mkF m 85 #[.val (.int p0), .val (.long p1), .second, .val (.long p2), .second, .val (.int p3), .val (.int (0 : Int32)), .val (.ref a_12), .unset, .unset, .unset] [])) _
      refine XS.aload X_80.here hx rfl (hb hby at_85) rfl rfl ?_
      refine XS.iconst X_80.here hx rfl (hb hby at_87) ?_
      refine XS.lloadN X_80.here hx rfl (hb hby at_88) rfl ?_
      refine XS.iconst X_80.here hx rfl (hb hby at_89) ?_
      refine XS.iload X_80.here hx rfl (hb hby at_90) rfl ?_
      refine XS.iconst X_80.here hx rfl (hb hby at_92) ?_
      refine st_85 _ ?_
      refine st_93 _ ?_
      show Steps p.tables e below (T_93.setTop (mkF m 99 #[.val (.int p0), .val (.long p1), .second, .val (.long p2), .second, .val (.int p3), .val (.int (0 : Int32)), .val (.ref a_12), .unset, .unset, .unset] [])) _
      refine XS.aload X_93.here hx rfl (hb hby at_99) rfl rfl ?_
      refine XS.bipush X_93.here hx rfl (hb hby at_101) ?_
      refine XS.lloadN X_93.here hx rfl (hb hby at_103) rfl ?_
      refine XS.bipush X_93.here hx rfl (hb hby at_104) ?_
      refine XS.iload X_93.here hx rfl (hb hby at_106) rfl ?_
      refine XS.bipush X_93.here hx rfl (hb hby at_108) ?_
      refine st_98 _ ?_
      refine st_106 _ ?_
      show Steps p.tables e below (T_106.setTop (mkF m 116 #[.val (.int p0), .val (.long p1), .second, .val (.long p2), .second, .val (.int p3), .val (.int (0 : Int32)), .val (.ref a_12), .unset, .unset, .unset] [])) _
      refine XS.aload X_106.here hx rfl (hb hby at_116) rfl rfl ?_
      refine XS.bipush X_106.here hx rfl (hb hby at_118) ?_
      refine XS.lloadN X_106.here hx rfl (hb hby at_120) rfl ?_
      refine XS.bipush X_106.here hx rfl (hb hby at_121) ?_
      refine XS.iload X_106.here hx rfl (hb hby at_123) rfl ?_
      refine XS.bipush X_106.here hx rfl (hb hby at_125) ?_
      refine st_111 _ ?_
      refine st_119 _ ?_
      show Steps p.tables e below (T_119.setTop (mkF m 133 #[.val (.int p0), .val (.long p1), .second, .val (.long p2), .second, .val (.int p3), .val (.int (0 : Int32)), .val (.ref a_12), .unset, .unset, .unset] [])) _
      refine XS.aload X_119.here hx rfl (hb hby at_133) rfl rfl ?_
      refine XS.bipush X_119.here hx rfl (hb hby at_135) ?_
      refine XS.lloadN X_119.here hx rfl (hb hby at_137) rfl ?_
      refine XS.iconst X_119.here hx rfl (hb hby at_138) ?_
      exact Steps.refl _
    obtain ⟨_, _, ⟨T_125, L_125, k_125, n_125⟩, -, X_125, ⟨Lc_125, hQ_125, l_125, y_125, z_125⟩, st_125⟩ := Jvm.LawKit.callS X_119 hx (y := M216) hown (mvT hZ (w2 hw)) (mvT hZ (w3 hw)) (mvT hZ (w4 hw)) (mvT hZ (w5 hw)) (by decide) (backOf (W := 2) (rm_chc l Z a0 hw [] G1 G3 HG h_5 n0 O_18 p2 (0 : Int32) p3 (8 : Int32) ) hZ (w5 hw) (w4 hw) (by decide) (by decide)) (g := (mkF m 143 #[.val (.int p0), .val (.long p1), .second, .val (.long p2), .second, .val (.int p3), .val (.int (0 : Int32)), .val (.ref a_12), .unset, .unset, .unset] [(.int (8 : Int32)), (.int p3), (.int (0 : Int32)), (.long p2), (.int (8 : Int32)), (.ref a_12)])) rfl (by rw [hml]; rfl) (argsL := [(.long p2), (.int (0 : Int32)), (.int p3), (.int (8 : Int32))]) (rest := [(.int (8 : Int32)), (.ref a_12)]) (lenOf pd_502 rfl) rfl (by show 2 * 0 + _ ≤ _; exact Nat.le_of_eq rfl) (hb hby at_143) (fun _ _ => ⟨rfl, e_123, (by decide : 1 + 0 ≤ _), (by decide : 0 + 0 ≤ _)⟩)
    dsimp only [Pt.U, Pt.locs, Pt.cells, Pt.slots] at X_125 l_125 y_125 z_125 st_125 hQ_125
    have X_125 := own_cast X_125 l_125 y_125 z_125
    obtain ⟨i_126, rfl, N_127, e_128, g_129, g_130⟩ := hQ_125
    have N_131 := Fr.app N_122 N_127
    have e_132 : T_125.heap = h_5 := e_128
    obtain ⟨_, _, ⟨T_133, L_133, k_133, n_133⟩, -, X_133, ⟨Lc_133, hQ_133, l_133, y_133, z_133⟩, st_133⟩ := Jvm.LawKit.callS X_125 hx (y := M244) hown (mvT hZ (w7 hw)) (mvT hZ (w8 hw)) (mvT hZ (w4 hw)) (mvT hZ (w9 hw)) (by decide) (backOf (W := 0) (rm_put0 l Z a0 hw [] G1 G3 HG h_5 n0 O_18 a_12 k_6 (8 : Int32) i_126 V_17 (by decide)) hZ (w9 hw) (w4 hw) (by decide) (by decide)) (g := (mkF m 146 #[.val (.int p0), .val (.long p1), .second, .val (.long p2), .second, .val (.int p3), .val (.int (0 : Int32)), .val (.ref a_12), .unset, .unset, .unset] [(.int i_126), (.int (8 : Int32)), (.ref a_12)])) rfl (by rw [hml]; rfl) (argsL := [(.ref a_12), (.int (8 : Int32)), (.int i_126)]) (rest := []) (lenOf pd_506 rfl) rfl (by show 2 * 0 + _ ≤ _; exact Nat.le_of_eq rfl) (hb hby at_146) (fun _ _ => ⟨rfl, e_132, (by decide : 1 + 0 ≤ _), (by decide : 0 + 0 ≤ _)⟩)
    dsimp only [Pt.U, Pt.locs, Pt.cells, Pt.slots] at X_133 l_133 y_133 z_133 st_133 hQ_133
    have X_133 := own_cast X_133 l_133 y_133 z_133
    obtain ⟨rfl, N_134, e_135⟩ := hQ_133
    have N_136 := Fr.app N_131 N_134
    have e_137 : T_133.heap = h_5 := e_135
    obtain ⟨_, _, ⟨T_138, L_138, k_138, n_138⟩, -, X_138, ⟨Lc_138, hQ_138, l_138, y_138, z_138⟩, st_138⟩ := Jvm.LawKit.callS X_133 hx (y := M216) hown (mvT hZ (w2 hw)) (mvT hZ (w3 hw)) (mvT hZ (w4 hw)) (mvT hZ (w5 hw)) (by decide) (backOf (W := 2) (rm_chc l Z a0 hw [] G1 G3 HG h_5 n0 O_18 p2 (1 : Int32) p3 (9 : Int32) ) hZ (w5 hw) (w4 hw) (by decide) (by decide)) (g := (mkF m 159 #[.val (.int p0), .val (.long p1), .second, .val (.long p2), .second, .val (.int p3), .val (.int (0 : Int32)), .val (.ref a_12), .unset, .unset, .unset] [(.int (9 : Int32)), (.int p3), (.int (1 : Int32)), (.long p2), (.int (9 : Int32)), (.ref a_12)])) rfl (by rw [hml]; rfl) (argsL := [(.long p2), (.int (1 : Int32)), (.int p3), (.int (9 : Int32))]) (rest := [(.int (9 : Int32)), (.ref a_12)]) (lenOf pd_502 rfl) rfl (by show 2 * 0 + _ ≤ _; exact Nat.le_of_eq rfl) (hb hby at_159) (fun _ _ => ⟨rfl, e_137, (by decide : 1 + 0 ≤ _), (by decide : 0 + 0 ≤ _)⟩)
    dsimp only [Pt.U, Pt.locs, Pt.cells, Pt.slots] at X_138 l_138 y_138 z_138 st_138 hQ_138
    have X_138 := own_cast X_138 l_138 y_138 z_138
    obtain ⟨i_139, rfl, N_140, e_141, g_142, g_143⟩ := hQ_138
    have N_144 := Fr.app N_136 N_140
    have e_145 : T_138.heap = h_5 := e_141
    obtain ⟨_, _, ⟨T_146, L_146, k_146, n_146⟩, -, X_146, ⟨Lc_146, hQ_146, l_146, y_146, z_146⟩, st_146⟩ := Jvm.LawKit.callS X_138 hx (y := M244) hown (mvT hZ (w7 hw)) (mvT hZ (w8 hw)) (mvT hZ (w4 hw)) (mvT hZ (w9 hw)) (by decide) (backOf (W := 0) (rm_put0 l Z a0 hw [] G1 G3 HG h_5 n0 O_18 a_12 k_6 (9 : Int32) i_139 V_17 (by decide)) hZ (w9 hw) (w4 hw) (by decide) (by decide)) (g := (mkF m 162 #[.val (.int p0), .val (.long p1), .second, .val (.long p2), .second, .val (.int p3), .val (.int (0 : Int32)), .val (.ref a_12), .unset, .unset, .unset] [(.int i_139), (.int (9 : Int32)), (.ref a_12)])) rfl (by rw [hml]; rfl) (argsL := [(.ref a_12), (.int (9 : Int32)), (.int i_139)]) (rest := []) (lenOf pd_506 rfl) rfl (by show 2 * 0 + _ ≤ _; exact Nat.le_of_eq rfl) (hb hby at_162) (fun _ _ => ⟨rfl, e_145, (by decide : 1 + 0 ≤ _), (by decide : 0 + 0 ≤ _)⟩)
    dsimp only [Pt.U, Pt.locs, Pt.cells, Pt.slots] at X_146 l_146 y_146 z_146 st_146 hQ_146
    have X_146 := own_cast X_146 l_146 y_146 z_146
    obtain ⟨rfl, N_147, e_148⟩ := hQ_146
    have N_149 := Fr.app N_144 N_147
    have e_150 : T_146.heap = h_5 := e_148
    obtain ⟨_, _, ⟨T_151, L_151, k_151, n_151⟩, -, X_151, ⟨Lc_151, hQ_151, l_151, y_151, z_151⟩, st_151⟩ := Jvm.LawKit.callS X_146 hx (y := M216) hown (mvT hZ (w2 hw)) (mvT hZ (w3 hw)) (mvT hZ (w4 hw)) (mvT hZ (w5 hw)) (by decide) (backOf (W := 2) (rm_chc l Z a0 hw [] G1 G3 HG h_5 n0 O_18 p2 (2 : Int32) p3 (10 : Int32) ) hZ (w5 hw) (w4 hw) (by decide) (by decide)) (g := (mkF m 175 #[.val (.int p0), .val (.long p1), .second, .val (.long p2), .second, .val (.int p3), .val (.int (0 : Int32)), .val (.ref a_12), .unset, .unset, .unset] [(.int (10 : Int32)), (.int p3), (.int (2 : Int32)), (.long p2), (.int (10 : Int32)), (.ref a_12)])) rfl (by rw [hml]; rfl) (argsL := [(.long p2), (.int (2 : Int32)), (.int p3), (.int (10 : Int32))]) (rest := [(.int (10 : Int32)), (.ref a_12)]) (lenOf pd_502 rfl) rfl (by show 2 * 0 + _ ≤ _; exact Nat.le_of_eq rfl) (hb hby at_175) (fun _ _ => ⟨rfl, e_150, (by decide : 1 + 0 ≤ _), (by decide : 0 + 0 ≤ _)⟩)
    dsimp only [Pt.U, Pt.locs, Pt.cells, Pt.slots] at X_151 l_151 y_151 z_151 st_151 hQ_151
    have X_151 := own_cast X_151 l_151 y_151 z_151
    obtain ⟨i_152, rfl, N_153, e_154, g_155, g_156⟩ := hQ_151
    have N_157 := Fr.app N_149 N_153
    have e_158 : T_151.heap = h_5 := e_154
    obtain ⟨_, _, ⟨T_159, L_159, k_159, n_159⟩, -, X_159, ⟨Lc_159, hQ_159, l_159, y_159, z_159⟩, st_159⟩ := Jvm.LawKit.callS X_151 hx (y := M244) hown (mvT hZ (w7 hw)) (mvT hZ (w8 hw)) (mvT hZ (w4 hw)) (mvT hZ (w9 hw)) (by decide) (backOf (W := 0) (rm_put0 l Z a0 hw [] G1 G3 HG h_5 n0 O_18 a_12 k_6 (10 : Int32) i_152 V_17 (by decide)) hZ (w9 hw) (w4 hw) (by decide) (by decide)) (g := (mkF m 178 #[.val (.int p0), .val (.long p1), .second, .val (.long p2), .second, .val (.int p3), .val (.int (0 : Int32)), .val (.ref a_12), .unset, .unset, .unset] [(.int i_152), (.int (10 : Int32)), (.ref a_12)])) rfl (by rw [hml]; rfl) (argsL := [(.ref a_12), (.int (10 : Int32)), (.int i_152)]) (rest := []) (lenOf pd_506 rfl) rfl (by show 2 * 0 + _ ≤ _; exact Nat.le_of_eq rfl) (hb hby at_178) (fun _ _ => ⟨rfl, e_158, (by decide : 1 + 0 ≤ _), (by decide : 0 + 0 ≤ _)⟩)
    dsimp only [Pt.U, Pt.locs, Pt.cells, Pt.slots] at X_159 l_159 y_159 z_159 st_159 hQ_159
    have X_159 := own_cast X_159 l_159 y_159 z_159
    obtain ⟨rfl, N_160, e_161⟩ := hQ_159
    have N_162 := Fr.app N_157 N_160
    have e_163 : T_159.heap = h_5 := e_161
    obtain ⟨_, _, ⟨T_164, L_164, k_164, n_164⟩, -, X_164, ⟨Lc_164, hQ_164, l_164, y_164, z_164⟩, st_164⟩ := Jvm.LawKit.callS X_159 hx (y := M216) hown (mvT hZ (w2 hw)) (mvT hZ (w3 hw)) (mvT hZ (w4 hw)) (mvT hZ (w5 hw)) (by decide) (backOf (W := 2) (rm_chc l Z a0 hw [] G1 G3 HG h_5 n0 O_18 p2 (3 : Int32) p3 (11 : Int32) ) hZ (w5 hw) (w4 hw) (by decide) (by decide)) (g := (mkF m 191 #[.val (.int p0), .val (.long p1), .second, .val (.long p2), .second, .val (.int p3), .val (.int (0 : Int32)), .val (.ref a_12), .unset, .unset, .unset] [(.int (11 : Int32)), (.int p3), (.int (3 : Int32)), (.long p2), (.int (11 : Int32)), (.ref a_12)])) rfl (by rw [hml]; rfl) (argsL := [(.long p2), (.int (3 : Int32)), (.int p3), (.int (11 : Int32))]) (rest := [(.int (11 : Int32)), (.ref a_12)]) (lenOf pd_502 rfl) rfl (by show 2 * 0 + _ ≤ _; exact Nat.le_of_eq rfl) (hb hby at_191) (fun _ _ => ⟨rfl, e_163, (by decide : 1 + 0 ≤ _), (by decide : 0 + 0 ≤ _)⟩)
    dsimp only [Pt.U, Pt.locs, Pt.cells, Pt.slots] at X_164 l_164 y_164 z_164 st_164 hQ_164
    have X_164 := own_cast X_164 l_164 y_164 z_164
    obtain ⟨i_165, rfl, N_166, e_167, g_168, g_169⟩ := hQ_164
    have N_170 := Fr.app N_162 N_166
    have e_171 : T_164.heap = h_5 := e_167
    obtain ⟨_, _, ⟨T_172, L_172, k_172, n_172⟩, -, X_172, ⟨Lc_172, hQ_172, l_172, y_172, z_172⟩, st_172⟩ := Jvm.LawKit.callS X_164 hx (y := M244) hown (mvT hZ (w7 hw)) (mvT hZ (w8 hw)) (mvT hZ (w4 hw)) (mvT hZ (w9 hw)) (by decide) (backOf (W := 0) (rm_put0 l Z a0 hw [] G1 G3 HG h_5 n0 O_18 a_12 k_6 (11 : Int32) i_165 V_17 (by decide)) hZ (w9 hw) (w4 hw) (by decide) (by decide)) (g := (mkF m 194 #[.val (.int p0), .val (.long p1), .second, .val (.long p2), .second, .val (.int p3), .val (.int (0 : Int32)), .val (.ref a_12), .unset, .unset, .unset] [(.int i_165), (.int (11 : Int32)), (.ref a_12)])) rfl (by rw [hml]; rfl) (argsL := [(.ref a_12), (.int (11 : Int32)), (.int i_165)]) (rest := []) (lenOf pd_506 rfl) rfl (by show 2 * 0 + _ ≤ _; exact Nat.le_of_eq rfl) (hb hby at_194) (fun _ _ => ⟨rfl, e_171, (by decide : 1 + 0 ≤ _), (by decide : 0 + 0 ≤ _)⟩)
    dsimp only [Pt.U, Pt.locs, Pt.cells, Pt.slots] at X_172 l_172 y_172 z_172 st_172 hQ_172
    have X_172 := own_cast X_172 l_172 y_172 z_172
    obtain ⟨rfl, N_173, e_174⟩ := hQ_172
    have N_175 := Fr.app N_170 N_173
    have e_176 : T_172.heap = h_5 := e_174
    obtain ⟨_, _, ⟨T_177, L_177, k_177, n_177⟩, -, X_177, ⟨Lc_177, hQ_177, l_177, y_177, z_177⟩, st_177⟩ := Jvm.LawKit.callS X_172 hx (y := M216) hown (mvT hZ (w2 hw)) (mvT hZ (w3 hw)) (mvT hZ (w4 hw)) (mvT hZ (w5 hw)) (by decide) (backOf (W := 2) (rm_chc l Z a0 hw [] G1 G3 HG h_5 n0 O_18 p2 (4 : Int32) p3 (12 : Int32) ) hZ (w5 hw) (w4 hw) (by decide) (by decide)) (g := (mkF m 207 #[.val (.int p0), .val (.long p1), .second, .val (.long p2), .second, .val (.int p3), .val (.int (0 : Int32)), .val (.ref a_12), .unset, .unset, .unset] [(.int (12 : Int32)), (.int p3), (.int (4 : Int32)), (.long p2), (.int (12 : Int32)), (.ref a_12)])) rfl (by rw [hml]; rfl) (argsL := [(.long p2), (.int (4 : Int32)), (.int p3), (.int (12 : Int32))]) (rest := [(.int (12 : Int32)), (.ref a_12)]) (lenOf pd_502 rfl) rfl (by show 2 * 0 + _ ≤ _; exact Nat.le_of_eq rfl) (hb hby at_207) (fun _ _ => ⟨rfl, e_176, (by decide : 1 + 0 ≤ _), (by decide : 0 + 0 ≤ _)⟩)
    dsimp only [Pt.U, Pt.locs, Pt.cells, Pt.slots] at X_177 l_177 y_177 z_177 st_177 hQ_177
    have X_177 := own_cast X_177 l_177 y_177 z_177
    obtain ⟨i_178, rfl, N_179, e_180, g_181, g_182⟩ := hQ_177
    have N_183 := Fr.app N_175 N_179
    have e_184 : T_177.heap = h_5 := e_180
    obtain ⟨_, _, ⟨T_185, L_185, k_185, n_185⟩, -, X_185, ⟨Lc_185, hQ_185, l_185, y_185, z_185⟩, st_185⟩ := Jvm.LawKit.callS X_177 hx (y := M244) hown (mvT hZ (w7 hw)) (mvT hZ (w8 hw)) (mvT hZ (w4 hw)) (mvT hZ (w9 hw)) (by decide) (backOf (W := 0) (rm_put0 l Z a0 hw [] G1 G3 HG h_5 n0 O_18 a_12 k_6 (12 : Int32) i_178 V_17 (by decide)) hZ (w9 hw) (w4 hw) (by decide) (by decide)) (g := (mkF m 210 #[.val (.int p0), .val (.long p1), .second, .val (.long p2), .second, .val (.int p3), .val (.int (0 : Int32)), .val (.ref a_12), .unset, .unset, .unset] [(.int i_178), (.int (12 : Int32)), (.ref a_12)])) rfl (by rw [hml]; rfl) (argsL := [(.ref a_12), (.int (12 : Int32)), (.int i_178)]) (rest := []) (lenOf pd_506 rfl) rfl (by show 2 * 0 + _ ≤ _; exact Nat.le_of_eq rfl) (hb hby at_210) (fun _ _ => ⟨rfl, e_184, (by decide : 1 + 0 ≤ _), (by decide : 0 + 0 ≤ _)⟩)
    dsimp only [Pt.U, Pt.locs, Pt.cells, Pt.slots] at X_185 l_185 y_185 z_185 st_185 hQ_185
    have X_185 := own_cast X_185 l_185 y_185 z_185
    obtain ⟨rfl, N_186, e_187⟩ := hQ_185
    have N_188 := Fr.app N_183 N_186
    have e_189 : T_185.heap = h_5 := e_187
    have C_190 : Steps p.tables e below S0 (T_185.setTop (mkF m 213 #[.val (.int p0), .val (.long p1), .second, .val (.long p2), .second, .val (.int p3), .val (.int (0 : Int32)), .val (.ref a_12), .unset, .unset, .unset] [])) := by
      refine C_124.trans ?_
      refine XS.iload X_119.here hx rfl (hb hby at_139) rfl ?_
      refine XS.bipush X_119.here hx rfl (hb hby at_141) ?_
      refine st_125 _ ?_
      refine st_133 _ ?_
      refine XS.aload X_133.here hx rfl (hb hby at_149) rfl rfl ?_
      refine XS.bipush X_133.here hx rfl (hb hby at_151) ?_
      refine XS.lloadN X_133.here hx rfl (hb hby at_153) rfl ?_
      refine XS.iconst X_133.here hx rfl (hb hby at_154) ?_
      show Steps p.tables e below (T_133.setTop (mkF m 155 #[.val (.int p0), .val (.long p1), .second, .val (.long p2), .second, .val (.int p3), .val (.int (0 : Int32)), .val (.ref a_12), .unset, .unset, .unset] [(.int (1 : Int32)), (.long p2), (.int (9 : Int32)), (.ref a_12)])) _
      refine XS.iload X_133.here hx rfl (hb hby at_155) rfl ?_
      refine XS.bipush X_133.here hx rfl (hb hby at_157) ?_
      refine st_138 _ ?_
      refine st_146 _ ?_
      refine XS.aload X_146.here hx rfl (hb hby at_165) rfl rfl ?_
      refine XS.bipush X_146.here hx rfl (hb hby at_167) ?_
      refine XS.lloadN X_146.here hx rfl (hb hby at_169) rfl ?_
      refine XS.iconst X_146.here hx rfl (hb hby at_170) ?_
      show Steps p.tables e below (T_146.setTop (mkF m 171 #[.val (.int p0), .val (.long p1), .second, .val (.long p2), .second, .val (.int p3), .val (.int (0 : Int32)), .val (.ref a_12), .unset, .unset, .unset] [(.int (2 : Int32)), (.long p2), (.int (10 : Int32)), (.ref a_12)])) _
      refine XS.iload X_146.here hx rfl (hb hby at_171) rfl ?_
      refine XS.bipush X_146.here hx rfl (hb hby at_173) ?_
      refine st_151 _ ?_
      refine st_159 _ ?_
      refine XS.aload X_159.here hx rfl (hb hby at_181) rfl rfl ?_
      refine XS.bipush X_159.here hx rfl (hb hby at_183) ?_
      refine XS.lloadN X_159.here hx rfl (hb hby at_185) rfl ?_
      refine XS.iconst X_159.here hx rfl (hb hby at_186) ?_
      show Steps p.tables e below (T_159.setTop (mkF m 187 #[.val (.int p0), .val (.long p1), .second, .val (.long p2), .second, .val (.int p3), .val (.int (0 : Int32)), .val (.ref a_12), .unset, .unset, .unset] [(.int (3 : Int32)), (.long p2), (.int (11 : Int32)), (.ref a_12)])) _
      refine XS.iload X_159.here hx rfl (hb hby at_187) rfl ?_
      refine XS.bipush X_159.here hx rfl (hb hby at_189) ?_
      refine st_164 _ ?_
      refine st_172 _ ?_
      refine XS.aload X_172.here hx rfl (hb hby at_197) rfl rfl ?_
      refine XS.bipush X_172.here hx rfl (hb hby at_199) ?_
      refine XS.lloadN X_172.here hx rfl (hb hby at_201) rfl ?_
      refine XS.iconst X_172.here hx rfl (hb hby at_202) ?_
      show Steps p.tables e below (T_172.setTop (mkF m 203 #[.val (.int p0), .val (.long p1), .second, .val (.long p2), .second, .val (.int p3), .val (.int (0 : Int32)), .val (.ref a_12), .unset, .unset, .unset] [(.int (4 : Int32)), (.long p2), (.int (12 : Int32)), (.ref a_12)])) _
      refine XS.iload X_172.here hx rfl (hb hby at_203) rfl ?_
      refine XS.bipush X_172.here hx rfl (hb hby at_205) ?_
      refine st_177 _ ?_
      refine st_185 _ ?_
      exact Steps.refl _
    obtain ⟨_, _, ⟨T_191, L_191, k_191, n_191⟩, -, X_191, ⟨Lc_191, hQ_191, l_191, y_191, z_191⟩, st_191⟩ := Jvm.LawKit.callS X_185 hx (y := M216) hown (mvT hZ (w2 hw)) (mvT hZ (w3 hw)) (mvT hZ (w4 hw)) (mvT hZ (w5 hw)) (by decide) (backOf (W := 2) (rm_chc l Z a0 hw [] G1 G3 HG h_5 n0 O_18 p2 (5 : Int32) p3 (13 : Int32) ) hZ (w5 hw) (w4 hw) (by decide) (by decide)) (g := (mkF m 223 #[.val (.int p0), .val (.long p1), .second, .val (.long p2), .second, .val (.int p3), .val (.int (0 : Int32)), .val (.ref a_12), .unset, .unset, .unset] [(.int (13 : Int32)), (.int p3), (.int (5 : Int32)), (.long p2), (.int (13 : Int32)), (.ref a_12)])) rfl (by rw [hml]; rfl) (argsL := [(.long p2), (.int (5 : Int32)), (.int p3), (.int (13 : Int32))]) (rest := [(.int (13 : Int32)), (.ref a_12)]) (lenOf pd_502 rfl) rfl (by show 2 * 0 + _ ≤ _; exact Nat.le_of_eq rfl) (hb hby at_223) (fun _ _ => ⟨rfl, e_189, (by decide : 1 + 0 ≤ _), (by decide : 0 + 0 ≤ _)⟩)
    dsimp only [Pt.U, Pt.locs, Pt.cells, Pt.slots] at X_191 l_191 y_191 z_191 st_191 hQ_191
    have X_191 := own_cast X_191 l_191 y_191 z_191
    obtain ⟨i_192, rfl, N_193, e_194, g_195, g_196⟩ := hQ_191
    have N_197 := Fr.app N_188 N_193
    have e_198 : T_191.heap = h_5 := e_194
    obtain ⟨_, _, ⟨T_199, L_199, k_199, n_199⟩, -, X_199, ⟨Lc_199, hQ_199, l_199, y_199, z_199⟩, st_199⟩ := Jvm.LawKit.callS X_191 hx (y := M244) hown (mvT hZ (w7 hw)) (mvT hZ (w8 hw)) (mvT hZ (w4 hw)) (mvT hZ (w9 hw)) (by decide) (backOf (W := 0) (rm_put0 l Z a0 hw [] G1 G3 HG h_5 n0 O_18 a_12 k_6 (13 : Int32) i_192 V_17 (by decide)) hZ (w9 hw) (w4 hw) (by decide) (by decide)) (g := (mkF m 226 #[.val (.int p0), .val (.long p1), .second, .val (.long p2), .second, .val (.int p3), .val (.int (0 : Int32)), .val (.ref a_12), .unset, .unset, .unset] [(.int i_192), (.int (13 : Int32)), (.ref a_12)])) rfl (by rw [hml]; rfl) (argsL := [(.ref a_12), (.int (13 : Int32)), (.int i_192)]) (rest := []) (lenOf pd_506 rfl) rfl (by show 2 * 0 + _ ≤ _; exact Nat.le_of_eq rfl) (hb hby at_226) (fun _ _ => ⟨rfl, e_198, (by decide : 1 + 0 ≤ _), (by decide : 0 + 0 ≤ _)⟩)
    dsimp only [Pt.U, Pt.locs, Pt.cells, Pt.slots] at X_199 l_199 y_199 z_199 st_199 hQ_199
    have X_199 := own_cast X_199 l_199 y_199 z_199
    obtain ⟨rfl, N_200, e_201⟩ := hQ_199
    have N_202 := Fr.app N_197 N_200
    have e_203 : T_199.heap = h_5 := e_201
    obtain ⟨_, _, ⟨T_204, L_204, k_204, n_204⟩, -, X_204, ⟨Lc_204, hQ_204, l_204, y_204, z_204⟩, st_204⟩ := Jvm.LawKit.callS X_199 hx (y := M216) hown (mvT hZ (w2 hw)) (mvT hZ (w3 hw)) (mvT hZ (w4 hw)) (mvT hZ (w5 hw)) (by decide) (backOf (W := 2) (rm_chc l Z a0 hw [] G1 G3 HG h_5 n0 O_18 p2 (6 : Int32) p3 (14 : Int32) ) hZ (w5 hw) (w4 hw) (by decide) (by decide)) (g := (mkF m 240 #[.val (.int p0), .val (.long p1), .second, .val (.long p2), .second, .val (.int p3), .val (.int (0 : Int32)), .val (.ref a_12), .unset, .unset, .unset] [(.int (14 : Int32)), (.int p3), (.int (6 : Int32)), (.long p2), (.int (14 : Int32)), (.ref a_12)])) rfl (by rw [hml]; rfl) (argsL := [(.long p2), (.int (6 : Int32)), (.int p3), (.int (14 : Int32))]) (rest := [(.int (14 : Int32)), (.ref a_12)]) (lenOf pd_502 rfl) rfl (by show 2 * 0 + _ ≤ _; exact Nat.le_of_eq rfl) (hb hby at_240) (fun _ _ => ⟨rfl, e_203, (by decide : 1 + 0 ≤ _), (by decide : 0 + 0 ≤ _)⟩)
    dsimp only [Pt.U, Pt.locs, Pt.cells, Pt.slots] at X_204 l_204 y_204 z_204 st_204 hQ_204
    have X_204 := own_cast X_204 l_204 y_204 z_204
    obtain ⟨i_205, rfl, N_206, e_207, g_208, g_209⟩ := hQ_204
    have N_210 := Fr.app N_202 N_206
    have e_211 : T_204.heap = h_5 := e_207
    obtain ⟨_, _, ⟨T_212, L_212, k_212, n_212⟩, -, X_212, ⟨Lc_212, hQ_212, l_212, y_212, z_212⟩, st_212⟩ := Jvm.LawKit.callS X_204 hx (y := M244) hown (mvT hZ (w7 hw)) (mvT hZ (w8 hw)) (mvT hZ (w4 hw)) (mvT hZ (w9 hw)) (by decide) (backOf (W := 0) (rm_put0 l Z a0 hw [] G1 G3 HG h_5 n0 O_18 a_12 k_6 (14 : Int32) i_205 V_17 (by decide)) hZ (w9 hw) (w4 hw) (by decide) (by decide)) (g := (mkF m 243 #[.val (.int p0), .val (.long p1), .second, .val (.long p2), .second, .val (.int p3), .val (.int (0 : Int32)), .val (.ref a_12), .unset, .unset, .unset] [(.int i_205), (.int (14 : Int32)), (.ref a_12)])) rfl (by rw [hml]; rfl) (argsL := [(.ref a_12), (.int (14 : Int32)), (.int i_205)]) (rest := []) (lenOf pd_506 rfl) rfl (by show 2 * 0 + _ ≤ _; exact Nat.le_of_eq rfl) (hb hby at_243) (fun _ _ => ⟨rfl, e_211, (by decide : 1 + 0 ≤ _), (by decide : 0 + 0 ≤ _)⟩)
    dsimp only [Pt.U, Pt.locs, Pt.cells, Pt.slots] at X_212 l_212 y_212 z_212 st_212 hQ_212
    have X_212 := own_cast X_212 l_212 y_212 z_212
    obtain ⟨rfl, N_213, e_214⟩ := hQ_212
    have N_215 := Fr.app N_210 N_213
    have e_216 : T_212.heap = h_5 := e_214
    obtain ⟨_, _, ⟨T_217, L_217, k_217, n_217⟩, -, X_217, ⟨Lc_217, hQ_217, l_217, y_217, z_217⟩, st_217⟩ := Jvm.LawKit.callS X_212 hx (y := M216) hown (mvT hZ (w2 hw)) (mvT hZ (w3 hw)) (mvT hZ (w4 hw)) (mvT hZ (w5 hw)) (by decide) (backOf (W := 2) (rm_chc l Z a0 hw [] G1 G3 HG h_5 n0 O_18 p2 (7 : Int32) p3 (15 : Int32) ) hZ (w5 hw) (w4 hw) (by decide) (by decide)) (g := (mkF m 257 #[.val (.int p0), .val (.long p1), .second, .val (.long p2), .second, .val (.int p3), .val (.int (0 : Int32)), .val (.ref a_12), .unset, .unset, .unset] [(.int (15 : Int32)), (.int p3), (.int (7 : Int32)), (.long p2), (.int (15 : Int32)), (.ref a_12)])) rfl (by rw [hml]; rfl) (argsL := [(.long p2), (.int (7 : Int32)), (.int p3), (.int (15 : Int32))]) (rest := [(.int (15 : Int32)), (.ref a_12)]) (lenOf pd_502 rfl) rfl (by show 2 * 0 + _ ≤ _; exact Nat.le_of_eq rfl) (hb hby at_257) (fun _ _ => ⟨rfl, e_216, (by decide : 1 + 0 ≤ _), (by decide : 0 + 0 ≤ _)⟩)
    dsimp only [Pt.U, Pt.locs, Pt.cells, Pt.slots] at X_217 l_217 y_217 z_217 st_217 hQ_217
    have X_217 := own_cast X_217 l_217 y_217 z_217
    obtain ⟨i_218, rfl, N_219, e_220, g_221, g_222⟩ := hQ_217
    have N_223 := Fr.app N_215 N_219
    have e_224 : T_217.heap = h_5 := e_220
    obtain ⟨_, _, ⟨T_225, L_225, k_225, n_225⟩, -, X_225, ⟨Lc_225, hQ_225, l_225, y_225, z_225⟩, st_225⟩ := Jvm.LawKit.callS X_217 hx (y := M244) hown (mvT hZ (w7 hw)) (mvT hZ (w8 hw)) (mvT hZ (w4 hw)) (mvT hZ (w9 hw)) (by decide) (backOf (W := 0) (rm_put0 l Z a0 hw [] G1 G3 HG h_5 n0 O_18 a_12 k_6 (15 : Int32) i_218 V_17 (by decide)) hZ (w9 hw) (w4 hw) (by decide) (by decide)) (g := (mkF m 260 #[.val (.int p0), .val (.long p1), .second, .val (.long p2), .second, .val (.int p3), .val (.int (0 : Int32)), .val (.ref a_12), .unset, .unset, .unset] [(.int i_218), (.int (15 : Int32)), (.ref a_12)])) rfl (by rw [hml]; rfl) (argsL := [(.ref a_12), (.int (15 : Int32)), (.int i_218)]) (rest := []) (lenOf pd_506 rfl) rfl (by show 2 * 0 + _ ≤ _; exact Nat.le_of_eq rfl) (hb hby at_260) (fun _ _ => ⟨rfl, e_224, (by decide : 1 + 0 ≤ _), (by decide : 0 + 0 ≤ _)⟩)
    dsimp only [Pt.U, Pt.locs, Pt.cells, Pt.slots] at X_225 l_225 y_225 z_225 st_225 hQ_225
    have X_225 := own_cast X_225 l_225 y_225 z_225
    obtain ⟨rfl, N_226, e_227⟩ := hQ_225
    have N_228 := Fr.app N_223 N_226
    have e_229 : T_225.heap = h_5 := e_227
    obtain ⟨T_230, h_231, X_232, e_233, E_234, A_235, D_236, U_240, st_237⟩ := newO X_225 hx hZ hown (w10 hw) (w11 hw) (w12 hw) e_229 (g := (mkF m 263 #[.val (.int p0), .val (.long p1), .second, .val (.long p2), .second, .val (.int p3), .val (.int (0 : Int32)), .val (.ref a_12), .unset, .unset, .unset] [])) rfl (hb hby at_263) (by decide) (by decide)
    obtain ⟨a_238, g_239⟩ : ∃ z, z = h_5.size := ⟨_, rfl⟩
    rw [← g_239] at A_235 D_236 st_237 U_240
    have CH_241 : CHv Z consts_1 s.vm h_231 := CHv.ext E_234 CH_15
    have CR_242 : CHr Z consts_1 s.vm h0 s.vm h_231 := CR_16.trans (CHr.ext E_234 CH_15)
    have V_243 : Arv Z h_231 a_12 k_6 .char (0 : Int32) [] (.int (0 : Int32)) := (V_17.ext E_234)
    have O_244 : Old Z n0 h_231 := (O_18.ext E_234)
    obtain ⟨_, _, ⟨T_245, L_245, k_245, n_245⟩, -, Y_245, S_245, G_245, ⟨Lc_245, hQ_245, l_245, y_245, z_245, R_245⟩, st_245⟩ := X_232.specialBackS hx (y := M99) rfl hown (mvT hZ (w13 hw)) (mvT hZ (w14 hw)) (mvT hZ (w15 hw)) (by decide) (backOfSH (vm0 := s.vm) (W := 1) (rm_si1_0 l Z a0 hw [] G1 G3 HG h_231 n0 O_244 a_238 a_12 k_6 A_235 (D_236 (Or.inr (w25 hw)) (ty := (.array .byte)) (by decide)) (D_236 (Or.inr (w26 hw)) (ty := .byte) (by decide)) (Nat.le_trans (own_n0 O_18) (Nat.le_of_eq g_239.symm)) V_243) hZ (w15 hw) (w12 hw) (by decide) (by decide) hEL CH_241) (g := (mkF m 269 #[.val (.int p0), .val (.long p1), .second, .val (.long p2), .second, .val (.int p3), .val (.int (0 : Int32)), .val (.ref a_12), .unset, .unset, .unset] [(.ref a_12), (.ref a_238), (.ref a_238)])) rfl (by rw [hml]; rfl) (Steps.refl _) (a := a_238) (argsL := [(.ref a_12)]) (rest := [(.ref a_238)]) (lenOf pd_511 rfl) rfl (by show 2 * 0 + _ ≤ _; exact Nat.le_of_eq rfl) (hb hby at_269) (fun _ _ => ⟨rfl, e_233, (by decide : 2 + 4 ≤ _), (by decide : 4 + 8 ≤ _)⟩)
    dsimp only [Pt.U, Pt.locs, Pt.cells, Pt.slots] at Y_245 S_245 G_245 l_245 y_245 z_245 st_245 hQ_245 R_245
    have Y_245 := own_cast Y_245 l_245 y_245 z_245
    obtain ⟨X_245, hS_245, hZ_245, hown_245⟩ := rebS hS0 (n1 := T_230.heap.size) (by rw [show T_230.heap = h_231 from e_233]; exact (Nat.le_trans (Nat.le_refl _) (Nat.le_trans E_9.1 E_234.1))) Y_245 S_245 G_245 hZ hown
    obtain ⟨a_246, k_247, rfl, N_248, K_249, g_250, g_251, g_252, g_253⟩ := hQ_245
    have N_254 := Fr.app N_228 N_248
    have CH_255 : CHv Z consts_1 T_245.vm T_245.heap := R_245.1
    have CR_256 : CHr Z consts_1 s.vm h0 T_245.vm T_245.heap := CR_242.trans R_245
    have V_257 : Arv Z T_245.heap a_12 k_6 .char (0 : Int32) [] (.int (0 : Int32)) := (V_243.keep K_249 (ninS (Nat.ne_of_lt (Nat.lt_of_lt_of_le V_17.lt (Nat.le_trans (Nat.le_refl _) (Nat.le_of_eq g_239.symm)))) nin0))
    have O_258 : Old Z n0 T_245.heap := (O_244.keep K_249 (allS (Nat.le_trans (own_n0 O_18) (Nat.le_of_eq g_239.symm)) all0))
    obtain ⟨_, _, ⟨T_259, L_259, k_259, n_259⟩, -, X_259, ⟨Lc_259, hQ_259, l_259, y_259, z_259⟩, st_259⟩ := Jvm.LawKit.callS X_245 hx (y := M346) hown_245 (mvT hZ_245 (w31 hw)) (mvT hZ_245 (w32 hw)) (mvT hZ_245 (w4 hw)) (mvT hZ_245 (w33 hw)) (by decide) (backOf (W := 0) (rm_d0_ l Z a0 hw [] G1 G3 HG T_245.heap n0 O_258 a_12 k_6 (0 : Int32) V_257 (by decide)) hZ_245 (w33 hw) (w4 hw) (by decide) (by decide)) (g := (mkF m 277 #[.val (.int p0), .val (.long p1), .second, .val (.long p2), .second, .val (.int p3), .val (.int (0 : Int32)), .val (.ref a_12), .val (.ref a_238), .unset, .unset] [(.int (0 : Int32)), (.ref a_12)])) rfl (by rw [hml]; rfl) (argsL := [(.ref a_12), (.int (0 : Int32))]) (rest := []) (lenOf pd_364 rfl) rfl (by show 2 * 0 + _ ≤ _; exact Nat.le_of_eq rfl) (hb hby at_277) (fun _ _ => ⟨rfl, rfl, (by decide : 6 + 0 ≤ _), (by decide : 12 + 0 ≤ _)⟩)
    dsimp only [Pt.U, Pt.locs, Pt.cells, Pt.slots] at X_259 l_259 y_259 z_259 st_259 hQ_259
    have X_259 := own_cast X_259 l_259 y_259 z_259
    obtain ⟨rfl, N_260, e_261⟩ := hQ_259
    have N_262 := Fr.app N_254 N_260
    have e_263 : T_259.heap = T_245.heap := e_261
    obtain ⟨_, _, ⟨T_264, L_264, k_264, n_264⟩, -, X_264, ⟨Lc_264, hQ_264, l_264, y_264, z_264⟩, st_264⟩ := Jvm.LawKit.callS X_259 hx (y := M346) hown_245 (mvT hZ_245 (w31 hw)) (mvT hZ_245 (w32 hw)) (mvT hZ_245 (w4 hw)) (mvT hZ_245 (w33 hw)) (by decide) (backOf (W := 0) (rm_d0_ l Z a0 hw [] G1 G3 HG T_245.heap n0 O_258 a_12 k_6 (1 : Int32) V_257 (by decide)) hZ_245 (w33 hw) (w4 hw) (by decide) (by decide)) (g := (mkF m 286 #[.val (.int p0), .val (.long p1), .second, .val (.long p2), .second, .val (.int p3), .val (.int (0 : Int32)), .val (.ref a_12), .val (.ref a_238), .unset, .unset] [(.int (1 : Int32)), (.ref a_12)])) rfl (by rw [hml]; rfl) (argsL := [(.ref a_12), (.int (1 : Int32))]) (rest := []) (lenOf pd_364 rfl) rfl (by show 2 * 0 + _ ≤ _; exact Nat.le_of_eq rfl) (hb hby at_286) (fun _ _ => ⟨rfl, e_263, (by decide : 6 + 0 ≤ _), (by decide : 12 + 0 ≤ _)⟩)
    dsimp only [Pt.U, Pt.locs, Pt.cells, Pt.slots] at X_264 l_264 y_264 z_264 st_264 hQ_264
    have X_264 := own_cast X_264 l_264 y_264 z_264
    obtain ⟨rfl, N_265, e_266⟩ := hQ_264
    have N_267 := Fr.app N_262 N_265
    have e_268 : T_264.heap = T_245.heap := e_266
    have C_269 : Steps p.tables e below S0 (T_264.setTop (mkF m 289 #[.val (.int p0), .val (.long p1), .second, .val (.long p2), .second, .val (.int p3), .val (.int (0 : Int32)), .val (.ref a_12), .val (.ref a_238), .unset, .unset] [(.int (0 : Int32))])) := by
      refine C_190.trans ?_
      refine XS.aload X_185.here hx rfl (hb hby at_213) rfl rfl ?_
      refine XS.bipush X_185.here hx rfl (hb hby at_215) ?_
      refine XS.lloadN X_185.here hx rfl (hb hby at_217) rfl ?_
      refine XS.iconst X_185.here hx rfl (hb hby at_218) ?_
      refine XS.iload X_185.here hx rfl (hb hby at_219) rfl ?_
      refine XS.bipush X_185.here hx rfl (hb hby at_221) ?_
      refine st_191 _ ?_
      refine st_199 _ ?_
      show Steps p.tables e below (T_199.setTop (mkF m 229 #[.val (.int p0), .val (.long p1), .second, .val (.long p2), .second, .val (.int p3), .val (.int (0 : Int32)), .val (.ref a_12), .unset, .unset, .unset] [])) _
      refine XS.aload X_199.here hx rfl (hb hby at_229) rfl rfl ?_
      refine XS.bipush X_199.here hx rfl (hb hby at_231) ?_
      refine XS.lloadN X_199.here hx rfl (hb hby at_233) rfl ?_
      refine XS.bipush X_199.here hx rfl (hb hby at_234) ?_
      refine XS.iload X_199.here hx rfl (hb hby at_236) rfl ?_
      refine XS.bipush X_199.here hx rfl (hb hby at_238) ?_
      refine st_204 _ ?_
      refine st_212 _ ?_
      show Steps p.tables e below (T_212.setTop (mkF m 246 #[.val (.int p0), .val (.long p1), .second, .val (.long p2), .second, .val (.int p3), .val (.int (0 : Int32)), .val (.ref a_12), .unset, .unset, .unset] [])) _
      refine XS.aload X_212.here hx rfl (hb hby at_246) rfl rfl ?_
      refine XS.bipush X_212.here hx rfl (hb hby at_248) ?_
      refine XS.lloadN X_212.here hx rfl (hb hby at_250) rfl ?_
      refine XS.bipush X_212.here hx rfl (hb hby at_251) ?_
      refine XS.iload X_212.here hx rfl (hb hby at_253) rfl ?_
      refine XS.bipush X_212.here hx rfl (hb hby at_255) ?_
      refine st_217 _ ?_
      refine st_225 _ ?_
      show Steps p.tables e below (T_225.setTop (mkF m 263 #[.val (.int p0), .val (.long p1), .second, .val (.long p2), .second, .val (.int p3), .val (.int (0 : Int32)), .val (.ref a_12), .unset, .unset, .unset] [])) _
      refine st_237 _ ?_
      refine XS.dup X_232.here hx rfl (hb hby at_266) rfl rfl ?_
      refine XS.aload X_232.here hx rfl (hb hby at_267) rfl rfl ?_
      refine st_245.trans ?_
      refine XS.astore X_245.here hx rfl (hb hby at_272) rfl rfl (l' := #[.val (.int p0), .val (.long p1), .second, .val (.long p2), .second, .val (.int p3), .val (.int (0 : Int32)), .val (.ref a_12), .val (.ref a_238), .unset, .unset]) rfl ?_
      refine XS.aload X_245.here hx rfl (hb hby at_274) rfl rfl ?_
      refine XS.iconst X_245.here hx rfl (hb hby at_276) ?_
      refine st_259 _ ?_
      show Steps p.tables e below (T_259.setTop (mkF m 280 #[.val (.int p0), .val (.long p1), .second, .val (.long p2), .second, .val (.int p3), .val (.int (0 : Int32)), .val (.ref a_12), .val (.ref a_238), .unset, .unset] [(.int (0 : Int32))])) _
      refine XS.ifNo X_259.here hx rfl (hb hby at_280) rfl (by decide) ?_
      refine XS.aload X_259.here hx rfl (hb hby at_283) rfl rfl ?_
      refine XS.iconst X_259.here hx rfl (hb hby at_285) ?_
      refine st_264 _ ?_
      exact Steps.refl _
    obtain ⟨_, _, ⟨T_270, L_270, k_270, n_270⟩, -, X_270, ⟨Lc_270, hQ_270, l_270, y_270, z_270⟩, st_270⟩ := Jvm.LawKit.callS X_264 hx (y := M346) hown_245 (mvT hZ_245 (w31 hw)) (mvT hZ_245 (w32 hw)) (mvT hZ_245 (w4 hw)) (mvT hZ_245 (w33 hw)) (by decide) (backOf (W := 0) (rm_d0_ l Z a0 hw [] G1 G3 HG T_245.heap n0 O_258 a_12 k_6 (2 : Int32) V_257 (by decide)) hZ_245 (w33 hw) (w4 hw) (by decide) (by decide)) (g := (mkF m 295 #[.val (.int p0), .val (.long p1), .second, .val (.long p2), .second, .val (.int p3), .val (.int (0 : Int32)), .val (.ref a_12), .val (.ref a_238), .unset, .unset] [(.int (2 : Int32)), (.ref a_12)])) rfl (by rw [hml]; rfl) (argsL := [(.ref a_12), (.int (2 : Int32))]) (rest := []) (lenOf pd_364 rfl) rfl (by show 2 * 0 + _ ≤ _; exact Nat.le_of_eq rfl) (hb hby at_295) (fun _ _ => ⟨rfl, e_268, (by decide : 6 + 0 ≤ _), (by decide : 12 + 0 ≤ _)⟩)
    dsimp only [Pt.U, Pt.locs, Pt.cells, Pt.slots] at X_270 l_270 y_270 z_270 st_270 hQ_270
    have X_270 := own_cast X_270 l_270 y_270 z_270
    obtain ⟨rfl, N_271, e_272⟩ := hQ_270
    have N_273 := Fr.app N_267 N_271
    have e_274 : T_270.heap = T_245.heap := e_272
    obtain ⟨_, _, ⟨T_275, L_275, k_275, n_275⟩, -, X_275, ⟨Lc_275, hQ_275, l_275, y_275, z_275⟩, st_275⟩ := Jvm.LawKit.callS X_270 hx (y := M346) hown_245 (mvT hZ_245 (w31 hw)) (mvT hZ_245 (w32 hw)) (mvT hZ_245 (w4 hw)) (mvT hZ_245 (w33 hw)) (by decide) (backOf (W := 0) (rm_d0_ l Z a0 hw [] G1 G3 HG T_245.heap n0 O_258 a_12 k_6 (3 : Int32) V_257 (by decide)) hZ_245 (w33 hw) (w4 hw) (by decide) (by decide)) (g := (mkF m 304 #[.val (.int p0), .val (.long p1), .second, .val (.long p2), .second, .val (.int p3), .val (.int (0 : Int32)), .val (.ref a_12), .val (.ref a_238), .unset, .unset] [(.int (3 : Int32)), (.ref a_12)])) rfl (by rw [hml]; rfl) (argsL := [(.ref a_12), (.int (3 : Int32))]) (rest := []) (lenOf pd_364 rfl) rfl (by show 2 * 0 + _ ≤ _; exact Nat.le_of_eq rfl) (hb hby at_304) (fun _ _ => ⟨rfl, e_274, (by decide : 6 + 0 ≤ _), (by decide : 12 + 0 ≤ _)⟩)
    dsimp only [Pt.U, Pt.locs, Pt.cells, Pt.slots] at X_275 l_275 y_275 z_275 st_275 hQ_275
    have X_275 := own_cast X_275 l_275 y_275 z_275
    obtain ⟨rfl, N_276, e_277⟩ := hQ_275
    have N_278 := Fr.app N_273 N_276
    have e_279 : T_275.heap = T_245.heap := e_277
    obtain ⟨_, _, ⟨T_280, L_280, k_280, n_280⟩, -, X_280, ⟨Lc_280, hQ_280, l_280, y_280, z_280⟩, st_280⟩ := Jvm.LawKit.callS X_275 hx (y := M346) hown_245 (mvT hZ_245 (w31 hw)) (mvT hZ_245 (w32 hw)) (mvT hZ_245 (w4 hw)) (mvT hZ_245 (w33 hw)) (by decide) (backOf (W := 0) (rm_d0_ l Z a0 hw [] G1 G3 HG T_245.heap n0 O_258 a_12 k_6 (4 : Int32) V_257 (by decide)) hZ_245 (w33 hw) (w4 hw) (by decide) (by decide)) (g := (mkF m 313 #[.val (.int p0), .val (.long p1), .second, .val (.long p2), .second, .val (.int p3), .val (.int (0 : Int32)), .val (.ref a_12), .val (.ref a_238), .unset, .unset] [(.int (4 : Int32)), (.ref a_12)])) rfl (by rw [hml]; rfl) (argsL := [(.ref a_12), (.int (4 : Int32))]) (rest := []) (lenOf pd_364 rfl) rfl (by show 2 * 0 + _ ≤ _; exact Nat.le_of_eq rfl) (hb hby at_313) (fun _ _ => ⟨rfl, e_279, (by decide : 6 + 0 ≤ _), (by decide : 12 + 0 ≤ _)⟩)
    dsimp only [Pt.U, Pt.locs, Pt.cells, Pt.slots] at X_280 l_280 y_280 z_280 st_280 hQ_280
    have X_280 := own_cast X_280 l_280 y_280 z_280
    obtain ⟨rfl, N_281, e_282⟩ := hQ_280
    have N_283 := Fr.app N_278 N_281
    have e_284 : T_280.heap = T_245.heap := e_282
    obtain ⟨_, _, ⟨T_285, L_285, k_285, n_285⟩, -, X_285, ⟨Lc_285, hQ_285, l_285, y_285, z_285⟩, st_285⟩ := Jvm.LawKit.callS X_280 hx (y := M346) hown_245 (mvT hZ_245 (w31 hw)) (mvT hZ_245 (w32 hw)) (mvT hZ_245 (w4 hw)) (mvT hZ_245 (w33 hw)) (by decide) (backOf (W := 0) (rm_d0_ l Z a0 hw [] G1 G3 HG T_245.heap n0 O_258 a_12 k_6 (5 : Int32) V_257 (by decide)) hZ_245 (w33 hw) (w4 hw) (by decide) (by decide)) (g := (mkF m 322 #[.val (.int p0), .val (.long p1), .second, .val (.long p2), .second, .val (.int p3), .val (.int (0 : Int32)), .val (.ref a_12), .val (.ref a_238), .unset, .unset] [(.int (5 : Int32)), (.ref a_12)])) rfl (by rw [hml]; rfl) (argsL := [(.ref a_12), (.int (5 : Int32))]) (rest := []) (lenOf pd_364 rfl) rfl (by show 2 * 0 + _ ≤ _; exact Nat.le_of_eq rfl) (hb hby at_322) (fun _ _ => ⟨rfl, e_284, (by decide : 6 + 0 ≤ _), (by decide : 12 + 0 ≤ _)⟩)
    dsimp only [Pt.U, Pt.locs, Pt.cells, Pt.slots] at X_285 l_285 y_285 z_285 st_285 hQ_285
    have X_285 := own_cast X_285 l_285 y_285 z_285
    obtain ⟨rfl, N_286, e_287⟩ := hQ_285
    have N_288 := Fr.app N_283 N_286
    have e_289 : T_285.heap = T_245.heap := e_287
    obtain ⟨_, _, ⟨T_290, L_290, k_290, n_290⟩, -, X_290, ⟨Lc_290, hQ_290, l_290, y_290, z_290⟩, st_290⟩ := Jvm.LawKit.callS X_285 hx (y := M346) hown_245 (mvT hZ_245 (w31 hw)) (mvT hZ_245 (w32 hw)) (mvT hZ_245 (w4 hw)) (mvT hZ_245 (w33 hw)) (by decide) (backOf (W := 0) (rm_d0_ l Z a0 hw [] G1 G3 HG T_245.heap n0 O_258 a_12 k_6 (6 : Int32) V_257 (by decide)) hZ_245 (w33 hw) (w4 hw) (by decide) (by decide)) (g := (mkF m 332 #[.val (.int p0), .val (.long p1), .second, .val (.long p2), .second, .val (.int p3), .val (.int (0 : Int32)), .val (.ref a_12), .val (.ref a_238), .unset, .unset] [(.int (6 : Int32)), (.ref a_12)])) rfl (by rw [hml]; rfl) (argsL := [(.ref a_12), (.int (6 : Int32))]) (rest := []) (lenOf pd_364 rfl) rfl (by show 2 * 0 + _ ≤ _; exact Nat.le_of_eq rfl) (hb hby at_332) (fun _ _ => ⟨rfl, e_289, (by decide : 6 + 0 ≤ _), (by decide : 12 + 0 ≤ _)⟩)
    dsimp only [Pt.U, Pt.locs, Pt.cells, Pt.slots] at X_290 l_290 y_290 z_290 st_290 hQ_290
    have X_290 := own_cast X_290 l_290 y_290 z_290
    obtain ⟨rfl, N_291, e_292⟩ := hQ_290
    have N_293 := Fr.app N_288 N_291
    have e_294 : T_290.heap = T_245.heap := e_292
    obtain ⟨_, _, ⟨T_295, L_295, k_295, n_295⟩, -, X_295, ⟨Lc_295, hQ_295, l_295, y_295, z_295⟩, st_295⟩ := Jvm.LawKit.callS X_290 hx (y := M346) hown_245 (mvT hZ_245 (w31 hw)) (mvT hZ_245 (w32 hw)) (mvT hZ_245 (w4 hw)) (mvT hZ_245 (w33 hw)) (by decide) (backOf (W := 0) (rm_d0_ l Z a0 hw [] G1 G3 HG T_245.heap n0 O_258 a_12 k_6 (7 : Int32) V_257 (by decide)) hZ_245 (w33 hw) (w4 hw) (by decide) (by decide)) (g := (mkF m 342 #[.val (.int p0), .val (.long p1), .second, .val (.long p2), .second, .val (.int p3), .val (.int (0 : Int32)), .val (.ref a_12), .val (.ref a_238), .unset, .unset] [(.int (7 : Int32)), (.ref a_12)])) rfl (by rw [hml]; rfl) (argsL := [(.ref a_12), (.int (7 : Int32))]) (rest := []) (lenOf pd_364 rfl) rfl (by show 2 * 0 + _ ≤ _; exact Nat.le_of_eq rfl) (hb hby at_342) (fun _ _ => ⟨rfl, e_294, (by decide : 6 + 0 ≤ _), (by decide : 12 + 0 ≤ _)⟩)
    dsimp only [Pt.U, Pt.locs, Pt.cells, Pt.slots] at X_295 l_295 y_295 z_295 st_295 hQ_295
    have X_295 := own_cast X_295 l_295 y_295 z_295
    obtain ⟨rfl, N_296, e_297⟩ := hQ_295
    have N_298 := Fr.app N_293 N_296
    have e_299 : T_295.heap = T_245.heap := e_297
    obtain ⟨_, _, ⟨T_300, L_300, k_300, n_300⟩, -, X_300, ⟨Lc_300, hQ_300, l_300, y_300, z_300⟩, st_300⟩ := Jvm.LawKit.callS X_295 hx (y := M346) hown_245 (mvT hZ_245 (w31 hw)) (mvT hZ_245 (w32 hw)) (mvT hZ_245 (w4 hw)) (mvT hZ_245 (w33 hw)) (by decide) (backOf (W := 0) (rm_d0_ l Z a0 hw [] G1 G3 HG T_245.heap n0 O_258 a_12 k_6 (8 : Int32) V_257 (by decide)) hZ_245 (w33 hw) (w4 hw) (by decide) (by decide)) (g := (mkF m 352 #[.val (.int p0), .val (.long p1), .second, .val (.long p2), .second, .val (.int p3), .val (.int (0 : Int32)), .val (.ref a_12), .val (.ref a_238), .unset, .unset] [(.int (8 : Int32)), (.ref a_12)])) rfl (by rw [hml]; rfl) (argsL := [(.ref a_12), (.int (8 : Int32))]) (rest := []) (lenOf pd_364 rfl) rfl (by show 2 * 0 + _ ≤ _; exact Nat.le_of_eq rfl) (hb hby at_352) (fun _ _ => ⟨rfl, e_299, (by decide : 6 + 0 ≤ _), (by decide : 12 + 0 ≤ _)⟩)
    dsimp only [Pt.U, Pt.locs, Pt.cells, Pt.slots] at X_300 l_300 y_300 z_300 st_300 hQ_300
    have X_300 := own_cast X_300 l_300 y_300 z_300
    obtain ⟨rfl, N_301, e_302⟩ := hQ_300
    have N_303 := Fr.app N_298 N_301
    have e_304 : T_300.heap = T_245.heap := e_302
    obtain ⟨_, _, ⟨T_305, L_305, k_305, n_305⟩, -, X_305, ⟨Lc_305, hQ_305, l_305, y_305, z_305⟩, st_305⟩ := Jvm.LawKit.callS X_300 hx (y := M346) hown_245 (mvT hZ_245 (w31 hw)) (mvT hZ_245 (w32 hw)) (mvT hZ_245 (w4 hw)) (mvT hZ_245 (w33 hw)) (by decide) (backOf (W := 0) (rm_d0_ l Z a0 hw [] G1 G3 HG T_245.heap n0 O_258 a_12 k_6 (9 : Int32) V_257 (by decide)) hZ_245 (w33 hw) (w4 hw) (by decide) (by decide)) (g := (mkF m 362 #[.val (.int p0), .val (.long p1), .second, .val (.long p2), .second, .val (.int p3), .val (.int (0 : Int32)), .val (.ref a_12), .val (.ref a_238), .unset, .unset] [(.int (9 : Int32)), (.ref a_12)])) rfl (by rw [hml]; rfl) (argsL := [(.ref a_12), (.int (9 : Int32))]) (rest := []) (lenOf pd_364 rfl) rfl (by show 2 * 0 + _ ≤ _; exact Nat.le_of_eq rfl) (hb hby at_362) (fun _ _ => ⟨rfl, e_304, (by decide : 6 + 0 ≤ _), (by decide : 12 + 0 ≤ _)⟩)
    dsimp only [Pt.U, Pt.locs, Pt.cells, Pt.slots] at X_305 l_305 y_305 z_305 st_305 hQ_305
    have X_305 := own_cast X_305 l_305 y_305 z_305
    obtain ⟨rfl, N_306, e_307⟩ := hQ_305
    have N_308 := Fr.app N_303 N_306
    have e_309 : T_305.heap = T_245.heap := e_307
    obtain ⟨_, _, ⟨T_310, L_310, k_310, n_310⟩, -, X_310, ⟨Lc_310, hQ_310, l_310, y_310, z_310⟩, st_310⟩ := Jvm.LawKit.callS X_305 hx (y := M346) hown_245 (mvT hZ_245 (w31 hw)) (mvT hZ_245 (w32 hw)) (mvT hZ_245 (w4 hw)) (mvT hZ_245 (w33 hw)) (by decide) (backOf (W := 0) (rm_d0_ l Z a0 hw [] G1 G3 HG T_245.heap n0 O_258 a_12 k_6 (10 : Int32) V_257 (by decide)) hZ_245 (w33 hw) (w4 hw) (by decide) (by decide)) (g := (mkF m 372 #[.val (.int p0), .val (.long p1), .second, .val (.long p2), .second, .val (.int p3), .val (.int (0 : Int32)), .val (.ref a_12), .val (.ref a_238), .unset, .unset] [(.int (10 : Int32)), (.ref a_12)])) rfl (by rw [hml]; rfl) (argsL := [(.ref a_12), (.int (10 : Int32))]) (rest := []) (lenOf pd_364 rfl) rfl (by show 2 * 0 + _ ≤ _; exact Nat.le_of_eq rfl) (hb hby at_372) (fun _ _ => ⟨rfl, e_309, (by decide : 6 + 0 ≤ _), (by decide : 12 + 0 ≤ _)⟩)
    dsimp only [Pt.U, Pt.locs, Pt.cells, Pt.slots] at X_310 l_310 y_310 z_310 st_310 hQ_310
    have X_310 := own_cast X_310 l_310 y_310 z_310
    obtain ⟨rfl, N_311, e_312⟩ := hQ_310
    have N_313 := Fr.app N_308 N_311
    have e_314 : T_310.heap = T_245.heap := e_312
    have C_315 : Steps p.tables e below S0 (T_310.setTop (mkF m 375 #[.val (.int p0), .val (.long p1), .second, .val (.long p2), .second, .val (.int p3), .val (.int (0 : Int32)), .val (.ref a_12), .val (.ref a_238), .unset, .unset] [(.int (0 : Int32))])) := by
      refine C_269.trans ?_
      refine XS.ifNo X_264.here hx rfl (hb hby at_289) rfl (by decide) ?_
      refine XS.aload X_264.here hx rfl (hb hby at_292) rfl rfl ?_
      refine XS.iconst X_264.here hx rfl (hb hby at_294) ?_
      refine st_270 _ ?_
      refine XS.ifNo X_270.here hx rfl (hb hby at_298) rfl (by decide) ?_
      refine XS.aload X_270.here hx rfl (hb hby at_301) rfl rfl ?_
      refine XS.iconst X_270.here hx rfl (hb hby at_303) ?_
      refine st_275 _ ?_
      show Steps p.tables e below (T_275.setTop (mkF m 307 #[.val (.int p0), .val (.long p1), .second, .val (.long p2), .second, .val (.int p3), .val (.int (0 : Int32)), .val (.ref a_12), .val (.ref a_238), .unset, .unset] [(.int (0 : Int32))])) _
      refine XS.ifNo X_275.here hx rfl (hb hby at_307) rfl (by decide) ?_
      refine XS.aload X_275.here hx rfl (hb hby at_310) rfl rfl ?_
      refine XS.iconst X_275.here hx rfl (hb hby at_312) ?_
      refine st_280 _ ?_
      refine XS.ifNo X_280.here hx rfl (hb hby at_316) rfl (by decide) ?_
      refine XS.aload X_280.here hx rfl (hb hby at_319) rfl rfl ?_
      refine XS.iconst X_280.here hx rfl (hb hby at_321) ?_
      refine st_285 _ ?_
      show Steps p.tables e below (T_285.setTop (mkF m 325 #[.val (.int p0), .val (.long p1), .second, .val (.long p2), .second, .val (.int p3), .val (.int (0 : Int32)), .val (.ref a_12), .val (.ref a_238), .unset, .unset] [(.int (0 : Int32))])) _
      refine XS.ifNo X_285.here hx rfl (hb hby at_325) rfl (by decide) ?_
      refine XS.aload X_285.here hx rfl (hb hby at_328) rfl rfl ?_
      refine XS.bipush X_285.here hx rfl (hb hby at_330) ?_
      refine st_290 _ ?_
      refine XS.ifNo X_290.here hx rfl (hb hby at_335) rfl (by decide) ?_
      refine XS.aload X_290.here hx rfl (hb hby at_338) rfl rfl ?_
      refine XS.bipush X_290.here hx rfl (hb hby at_340) ?_
      refine st_295 _ ?_
      show Steps p.tables e below (T_295.setTop (mkF m 345 #[.val (.int p0), .val (.long p1), .second, .val (.long p2), .second, .val (.int p3), .val (.int (0 : Int32)), .val (.ref a_12), .val (.ref a_238), .unset, .unset] [(.int (0 : Int32))])) _
      refine XS.ifNo X_295.here hx rfl (hb hby at_345) rfl (by decide) ?_
      refine XS.aload X_295.here hx rfl (hb hby at_348) rfl rfl ?_
      refine XS.bipush X_295.here hx rfl (hb hby at_350) ?_
      refine st_300 _ ?_
      refine XS.ifNo X_300.here hx rfl (hb hby at_355) rfl (by decide) ?_
      refine XS.aload X_300.here hx rfl (hb hby at_358) rfl rfl ?_
      refine XS.bipush X_300.here hx rfl (hb hby at_360) ?_
      refine st_305 _ ?_
      show Steps p.tables e below (T_305.setTop (mkF m 365 #[.val (.int p0), .val (.long p1), .second, .val (.long p2), .second, .val (.int p3), .val (.int (0 : Int32)), .val (.ref a_12), .val (.ref a_238), .unset, .unset] [(.int (0 : Int32))])) _
      refine XS.ifNo X_305.here hx rfl (hb hby at_365) rfl (by decide) ?_
      refine XS.aload X_305.here hx rfl (hb hby at_368) rfl rfl ?_
      refine XS.bipush X_305.here hx rfl (hb hby at_370) ?_
      refine st_310 _ ?_
      exact Steps.refl _
    obtain ⟨_, _, ⟨T_316, L_316, k_316, n_316⟩, -, X_316, ⟨Lc_316, hQ_316, l_316, y_316, z_316⟩, st_316⟩ := Jvm.LawKit.callS X_310 hx (y := M346) hown_245 (mvT hZ_245 (w31 hw)) (mvT hZ_245 (w32 hw)) (mvT hZ_245 (w4 hw)) (mvT hZ_245 (w33 hw)) (by decide) (backOf (W := 0) (rm_d0_ l Z a0 hw [] G1 G3 HG T_245.heap n0 O_258 a_12 k_6 (11 : Int32) V_257 (by decide)) hZ_245 (w33 hw) (w4 hw) (by decide) (by decide)) (g := (mkF m 382 #[.val (.int p0), .val (.long p1), .second, .val (.long p2), .second, .val (.int p3), .val (.int (0 : Int32)), .val (.ref a_12), .val (.ref a_238), .unset, .unset] [(.int (11 : Int32)), (.ref a_12)])) rfl (by rw [hml]; rfl) (argsL := [(.ref a_12), (.int (11 : Int32))]) (rest := []) (lenOf pd_364 rfl) rfl (by show 2 * 0 + _ ≤ _; exact Nat.le_of_eq rfl) (hb hby at_382) (fun _ _ => ⟨rfl, e_314, (by decide : 6 + 0 ≤ _), (by decide : 12 + 0 ≤ _)⟩)
    dsimp only [Pt.U, Pt.locs, Pt.cells, Pt.slots] at X_316 l_316 y_316 z_316 st_316 hQ_316
    have X_316 := own_cast X_316 l_316 y_316 z_316
    obtain ⟨rfl, N_317, e_318⟩ := hQ_316
    have N_319 := Fr.app N_313 N_317
    have e_320 : T_316.heap = T_245.heap := e_318
    obtain ⟨_, _, ⟨T_321, L_321, k_321, n_321⟩, -, X_321, ⟨Lc_321, hQ_321, l_321, y_321, z_321⟩, st_321⟩ := Jvm.LawKit.callS X_316 hx (y := M346) hown_245 (mvT hZ_245 (w31 hw)) (mvT hZ_245 (w32 hw)) (mvT hZ_245 (w4 hw)) (mvT hZ_245 (w33 hw)) (by decide) (backOf (W := 0) (rm_d0_ l Z a0 hw [] G1 G3 HG T_245.heap n0 O_258 a_12 k_6 (12 : Int32) V_257 (by decide)) hZ_245 (w33 hw) (w4 hw) (by decide) (by decide)) (g := (mkF m 392 #[.val (.int p0), .val (.long p1), .second, .val (.long p2), .second, .val (.int p3), .val (.int (0 : Int32)), .val (.ref a_12), .val (.ref a_238), .unset, .unset] [(.int (12 : Int32)), (.ref a_12)])) rfl (by rw [hml]; rfl) (argsL := [(.ref a_12), (.int (12 : Int32))]) (rest := []) (lenOf pd_364 rfl) rfl (by show 2 * 0 + _ ≤ _; exact Nat.le_of_eq rfl) (hb hby at_392) (fun _ _ => ⟨rfl, e_320, (by decide : 6 + 0 ≤ _), (by decide : 12 + 0 ≤ _)⟩)
    dsimp only [Pt.U, Pt.locs, Pt.cells, Pt.slots] at X_321 l_321 y_321 z_321 st_321 hQ_321
    have X_321 := own_cast X_321 l_321 y_321 z_321
    obtain ⟨rfl, N_322, e_323⟩ := hQ_321
    have N_324 := Fr.app N_319 N_322
    have e_325 : T_321.heap = T_245.heap := e_323
    obtain ⟨_, _, ⟨T_326, L_326, k_326, n_326⟩, -, X_326, ⟨Lc_326, hQ_326, l_326, y_326, z_326⟩, st_326⟩ := Jvm.LawKit.callS X_321 hx (y := M346) hown_245 (mvT hZ_245 (w31 hw)) (mvT hZ_245 (w32 hw)) (mvT hZ_245 (w4 hw)) (mvT hZ_245 (w33 hw)) (by decide) (backOf (W := 0) (rm_d0_ l Z a0 hw [] G1 G3 HG T_245.heap n0 O_258 a_12 k_6 (13 : Int32) V_257 (by decide)) hZ_245 (w33 hw) (w4 hw) (by decide) (by decide)) (g := (mkF m 402 #[.val (.int p0), .val (.long p1), .second, .val (.long p2), .second, .val (.int p3), .val (.int (0 : Int32)), .val (.ref a_12), .val (.ref a_238), .unset, .unset] [(.int (13 : Int32)), (.ref a_12)])) rfl (by rw [hml]; rfl) (argsL := [(.ref a_12), (.int (13 : Int32))]) (rest := []) (lenOf pd_364 rfl) rfl (by show 2 * 0 + _ ≤ _; exact Nat.le_of_eq rfl) (hb hby at_402) (fun _ _ => ⟨rfl, e_325, (by decide : 6 + 0 ≤ _), (by decide : 12 + 0 ≤ _)⟩)
    dsimp only [Pt.U, Pt.locs, Pt.cells, Pt.slots] at X_326 l_326 y_326 z_326 st_326 hQ_326
    have X_326 := own_cast X_326 l_326 y_326 z_326
    obtain ⟨rfl, N_327, e_328⟩ := hQ_326
    have N_329 := Fr.app N_324 N_327
    have e_330 : T_326.heap = T_245.heap := e_328
    obtain ⟨_, _, ⟨T_331, L_331, k_331, n_331⟩, -, X_331, ⟨Lc_331, hQ_331, l_331, y_331, z_331⟩, st_331⟩ := Jvm.LawKit.callS X_326 hx (y := M346) hown_245 (mvT hZ_245 (w31 hw)) (mvT hZ_245 (w32 hw)) (mvT hZ_245 (w4 hw)) (mvT hZ_245 (w33 hw)) (by decide) (backOf (W := 0) (rm_d0_ l Z a0 hw [] G1 G3 HG T_245.heap n0 O_258 a_12 k_6 (14 : Int32) V_257 (by decide)) hZ_245 (w33 hw) (w4 hw) (by decide) (by decide)) (g := (mkF m 412 #[.val (.int p0), .val (.long p1), .second, .val (.long p2), .second, .val (.int p3), .val (.int (0 : Int32)), .val (.ref a_12), .val (.ref a_238), .unset, .unset] [(.int (14 : Int32)), (.ref a_12)])) rfl (by rw [hml]; rfl) (argsL := [(.ref a_12), (.int (14 : Int32))]) (rest := []) (lenOf pd_364 rfl) rfl (by show 2 * 0 + _ ≤ _; exact Nat.le_of_eq rfl) (hb hby at_412) (fun _ _ => ⟨rfl, e_330, (by decide : 6 + 0 ≤ _), (by decide : 12 + 0 ≤ _)⟩)
    dsimp only [Pt.U, Pt.locs, Pt.cells, Pt.slots] at X_331 l_331 y_331 z_331 st_331 hQ_331
    have X_331 := own_cast X_331 l_331 y_331 z_331
    obtain ⟨rfl, N_332, e_333⟩ := hQ_331
    have N_334 := Fr.app N_329 N_332
    have e_335 : T_331.heap = T_245.heap := e_333
    obtain ⟨_, _, ⟨T_336, L_336, k_336, n_336⟩, -, X_336, ⟨Lc_336, hQ_336, l_336, y_336, z_336⟩, st_336⟩ := Jvm.LawKit.callS X_331 hx (y := M346) hown_245 (mvT hZ_245 (w31 hw)) (mvT hZ_245 (w32 hw)) (mvT hZ_245 (w4 hw)) (mvT hZ_245 (w33 hw)) (by decide) (backOf (W := 0) (rm_d0_ l Z a0 hw [] G1 G3 HG T_245.heap n0 O_258 a_12 k_6 (15 : Int32) V_257 (by decide)) hZ_245 (w33 hw) (w4 hw) (by decide) (by decide)) (g := (mkF m 422 #[.val (.int p0), .val (.long p1), .second, .val (.long p2), .second, .val (.int p3), .val (.int (0 : Int32)), .val (.ref a_12), .val (.ref a_238), .unset, .unset] [(.int (15 : Int32)), (.ref a_12)])) rfl (by rw [hml]; rfl) (argsL := [(.ref a_12), (.int (15 : Int32))]) (rest := []) (lenOf pd_364 rfl) rfl (by show 2 * 0 + _ ≤ _; exact Nat.le_of_eq rfl) (hb hby at_422) (fun _ _ => ⟨rfl, e_335, (by decide : 6 + 0 ≤ _), (by decide : 12 + 0 ≤ _)⟩)
    dsimp only [Pt.U, Pt.locs, Pt.cells, Pt.slots] at X_336 l_336 y_336 z_336 st_336 hQ_336
    have X_336 := own_cast X_336 l_336 y_336 z_336
    obtain ⟨rfl, N_337, e_338⟩ := hQ_336
    have N_339 := Fr.app N_334 N_337
    have e_340 : T_336.heap = T_245.heap := e_338
    obtain ⟨_, _, ⟨T_341, L_341, k_341, n_341⟩, -, X_341, ⟨Lc_341, hQ_341, l_341, y_341, z_341⟩, st_341⟩ := Jvm.LawKit.callS X_336 hx (y := M360) hown_245 (mvT hZ_245 (w34 hw)) (mvT hZ_245 (w35 hw)) (mvT hZ_245 (w4 hw)) (mvT hZ_245 (w36 hw)) (by decide) (backOf (W := 0) (rm_w0_ l Z a0 hw [] G1 G3 HG T_245.heap n0 O_258 a_12 k_6 (0 : Int32) V_257 (by decide)) hZ_245 (w36 hw) (w4 hw) (by decide) (by decide)) (g := (mkF m 438 #[.val (.int p0), .val (.long p1), .second, .val (.long p2), .second, .val (.int p3), .val (.int (0 : Int32)), .val (.ref a_12), .val (.ref a_238), .val (.int (0 : Int32)), .unset] [(.int (0 : Int32)), (.ref a_12)])) rfl (by rw [hml]; rfl) (argsL := [(.ref a_12), (.int (0 : Int32))]) (rest := []) (lenOf pd_364 rfl) rfl (by show 2 * 0 + _ ≤ _; exact Nat.le_of_eq rfl) (hb hby at_438) (fun _ _ => ⟨rfl, e_340, (by decide : 6 + 0 ≤ _), (by decide : 12 + 0 ≤ _)⟩)
    dsimp only [Pt.U, Pt.locs, Pt.cells, Pt.slots] at X_341 l_341 y_341 z_341 st_341 hQ_341
    have X_341 := own_cast X_341 l_341 y_341 z_341
    obtain ⟨rfl, N_342, e_343⟩ := hQ_341
    have N_344 := Fr.app N_339 N_342
    have e_345 : T_341.heap = T_245.heap := e_343
    obtain ⟨_, _, ⟨T_346, L_346, k_346, n_346⟩, -, X_346, ⟨Lc_346, hQ_346, l_346, y_346, z_346⟩, st_346⟩ := Jvm.LawKit.callS X_341 hx (y := M360) hown_245 (mvT hZ_245 (w34 hw)) (mvT hZ_245 (w35 hw)) (mvT hZ_245 (w4 hw)) (mvT hZ_245 (w36 hw)) (by decide) (backOf (W := 0) (rm_w0_ l Z a0 hw [] G1 G3 HG T_245.heap n0 O_258 a_12 k_6 (1 : Int32) V_257 (by decide)) hZ_245 (w36 hw) (w4 hw) (by decide) (by decide)) (g := (mkF m 447 #[.val (.int p0), .val (.long p1), .second, .val (.long p2), .second, .val (.int p3), .val (.int (0 : Int32)), .val (.ref a_12), .val (.ref a_238), .val (.int (0 : Int32)), .unset] [(.int (1 : Int32)), (.ref a_12)])) rfl (by rw [hml]; rfl) (argsL := [(.ref a_12), (.int (1 : Int32))]) (rest := []) (lenOf pd_364 rfl) rfl (by show 2 * 0 + _ ≤ _; exact Nat.le_of_eq rfl) (hb hby at_447) (fun _ _ => ⟨rfl, e_345, (by decide : 6 + 0 ≤ _), (by decide : 12 + 0 ≤ _)⟩)
    dsimp only [Pt.U, Pt.locs, Pt.cells, Pt.slots] at X_346 l_346 y_346 z_346 st_346 hQ_346
    have X_346 := own_cast X_346 l_346 y_346 z_346
    obtain ⟨rfl, N_347, e_348⟩ := hQ_346
    have N_349 := Fr.app N_344 N_347
    have e_350 : T_346.heap = T_245.heap := e_348
    obtain ⟨_, _, ⟨T_351, L_351, k_351, n_351⟩, -, X_351, ⟨Lc_351, hQ_351, l_351, y_351, z_351⟩, st_351⟩ := Jvm.LawKit.callS X_346 hx (y := M360) hown_245 (mvT hZ_245 (w34 hw)) (mvT hZ_245 (w35 hw)) (mvT hZ_245 (w4 hw)) (mvT hZ_245 (w36 hw)) (by decide) (backOf (W := 0) (rm_w0_ l Z a0 hw [] G1 G3 HG T_245.heap n0 O_258 a_12 k_6 (2 : Int32) V_257 (by decide)) hZ_245 (w36 hw) (w4 hw) (by decide) (by decide)) (g := (mkF m 456 #[.val (.int p0), .val (.long p1), .second, .val (.long p2), .second, .val (.int p3), .val (.int (0 : Int32)), .val (.ref a_12), .val (.ref a_238), .val (.int (0 : Int32)), .unset] [(.int (2 : Int32)), (.ref a_12)])) rfl (by rw [hml]; rfl) (argsL := [(.ref a_12), (.int (2 : Int32))]) (rest := []) (lenOf pd_364 rfl) rfl (by show 2 * 0 + _ ≤ _; exact Nat.le_of_eq rfl) (hb hby at_456) (fun _ _ => ⟨rfl, e_350, (by decide : 6 + 0 ≤ _), (by decide : 12 + 0 ≤ _)⟩)
    dsimp only [Pt.U, Pt.locs, Pt.cells, Pt.slots] at X_351 l_351 y_351 z_351 st_351 hQ_351
    have X_351 := own_cast X_351 l_351 y_351 z_351
    obtain ⟨rfl, N_352, e_353⟩ := hQ_351
    have N_354 := Fr.app N_349 N_352
    have e_355 : T_351.heap = T_245.heap := e_353
    have C_356 : Steps p.tables e below S0 (T_351.setTop (mkF m 464 #[.val (.int p0), .val (.long p1), .second, .val (.long p2), .second, .val (.int p3), .val (.int (0 : Int32)), .val (.ref a_12), .val (.ref a_238), .val (.int (0 : Int32)), .unset] [(.ref a_12)])) := by
      refine C_315.trans ?_
      refine XS.ifNo X_310.here hx rfl (hb hby at_375) rfl (by decide) ?_
      refine XS.aload X_310.here hx rfl (hb hby at_378) rfl rfl ?_
      refine XS.bipush X_310.here hx rfl (hb hby at_380) ?_
      refine st_316 _ ?_
      refine XS.ifNo X_316.here hx rfl (hb hby at_385) rfl (by decide) ?_
      refine XS.aload X_316.here hx rfl (hb hby at_388) rfl rfl ?_
      refine XS.bipush X_316.here hx rfl (hb hby at_390) ?_
      refine st_321 _ ?_
      show Steps p.tables e below (T_321.setTop (mkF m 395 #[.val (.int p0), .val (.long p1), .second, .val (.long p2), .second, .val (.int p3), .val (.int (0 : Int32)), .val (.ref a_12), .val (.ref a_238), .unset, .unset] [(.int (0 : Int32))])) _
      refine XS.ifNo X_321.here hx rfl (hb hby at_395) rfl (by decide) ?_
      refine XS.aload X_321.here hx rfl (hb hby at_398) rfl rfl ?_
      refine XS.bipush X_321.here hx rfl (hb hby at_400) ?_
      refine st_326 _ ?_
      refine XS.ifNo X_326.here hx rfl (hb hby at_405) rfl (by decide) ?_
      refine XS.aload X_326.here hx rfl (hb hby at_408) rfl rfl ?_
      refine XS.bipush X_326.here hx rfl (hb hby at_410) ?_
      refine st_331 _ ?_
      show Steps p.tables e below (T_331.setTop (mkF m 415 #[.val (.int p0), .val (.long p1), .second, .val (.long p2), .second, .val (.int p3), .val (.int (0 : Int32)), .val (.ref a_12), .val (.ref a_238), .unset, .unset] [(.int (0 : Int32))])) _
      refine XS.ifNo X_331.here hx rfl (hb hby at_415) rfl (by decide) ?_
      refine XS.aload X_331.here hx rfl (hb hby at_418) rfl rfl ?_
      refine XS.bipush X_331.here hx rfl (hb hby at_420) ?_
      refine st_336 _ ?_
      refine XS.ifYes X_336.here hx rfl (pc0 := 425) (pc' := 432) rfl (hb hby at_425) rfl (by decide) (by decide) (by decide) ?_
      refine XS.iconst X_336.here hx rfl (hb hby at_432) ?_
      refine XS.istore X_336.here hx rfl (hb hby at_433) rfl (l' := #[.val (.int p0), .val (.long p1), .second, .val (.long p2), .second, .val (.int p3), .val (.int (0 : Int32)), .val (.ref a_12), .val (.ref a_238), .val (.int (0 : Int32)), .unset]) rfl ?_
      refine XS.aload X_336.here hx rfl (hb hby at_435) rfl rfl ?_
      show Steps p.tables e below (T_336.setTop (mkF m 437 #[.val (.int p0), .val (.long p1), .second, .val (.long p2), .second, .val (.int p3), .val (.int (0 : Int32)), .val (.ref a_12), .val (.ref a_238), .val (.int (0 : Int32)), .unset] [(.ref a_12)])) _
      refine XS.iconst X_336.here hx rfl (hb hby at_437) ?_
      refine st_341 _ ?_
      refine XS.ifNo X_341.here hx rfl (hb hby at_441) rfl (by decide) ?_
      refine XS.aload X_341.here hx rfl (hb hby at_444) rfl rfl ?_
      refine XS.iconst X_341.here hx rfl (hb hby at_446) ?_
      refine st_346 _ ?_
      refine XS.ifNo X_346.here hx rfl (hb hby at_450) rfl (by decide) ?_
      refine XS.aload X_346.here hx rfl (hb hby at_453) rfl rfl ?_
      show Steps p.tables e below (T_346.setTop (mkF m 455 #[.val (.int p0), .val (.long p1), .second, .val (.long p2), .second, .val (.int p3), .val (.int (0 : Int32)), .val (.ref a_12), .val (.ref a_238), .val (.int (0 : Int32)), .unset] [(.ref a_12)])) _
      refine XS.iconst X_346.here hx rfl (hb hby at_455) ?_
      refine st_351 _ ?_
      refine XS.ifNo X_351.here hx rfl (hb hby at_459) rfl (by decide) ?_
      refine XS.aload X_351.here hx rfl (hb hby at_462) rfl rfl ?_
      exact Steps.refl _
    obtain ⟨_, _, ⟨T_357, L_357, k_357, n_357⟩, -, X_357, ⟨Lc_357, hQ_357, l_357, y_357, z_357⟩, st_357⟩ := Jvm.LawKit.callS X_351 hx (y := M360) hown_245 (mvT hZ_245 (w34 hw)) (mvT hZ_245 (w35 hw)) (mvT hZ_245 (w4 hw)) (mvT hZ_245 (w36 hw)) (by decide) (backOf (W := 0) (rm_w0_ l Z a0 hw [] G1 G3 HG T_245.heap n0 O_258 a_12 k_6 (3 : Int32) V_257 (by decide)) hZ_245 (w36 hw) (w4 hw) (by decide) (by decide)) (g := (mkF m 465 #[.val (.int p0), .val (.long p1), .second, .val (.long p2), .second, .val (.int p3), .val (.int (0 : Int32)), .val (.ref a_12), .val (.ref a_238), .val (.int (0 : Int32)), .unset] [(.int (3 : Int32)), (.ref a_12)])) rfl (by rw [hml]; rfl) (argsL := [(.ref a_12), (.int (3 : Int32))]) (rest := []) (lenOf pd_364 rfl) rfl (by show 2 * 0 + _ ≤ _; exact Nat.le_of_eq rfl) (hb hby at_465) (fun _ _ => ⟨rfl, e_355, (by decide : 6 + 0 ≤ _), (by decide : 12 + 0 ≤ _)⟩)
    dsimp only [Pt.U, Pt.locs, Pt.cells, Pt.slots] at X_357 l_357 y_357 z_357 st_357 hQ_357
    have X_357 := own_cast X_357 l_357 y_357 z_357
    obtain ⟨rfl, N_358, e_359⟩ := hQ_357
    have N_360 := Fr.app N_354 N_358
    have e_361 : T_357.heap = T_245.heap := e_359
    obtain ⟨_, _, ⟨T_362, L_362, k_362, n_362⟩, -, X_362, ⟨Lc_362, hQ_362, l_362, y_362, z_362⟩, st_362⟩ := Jvm.LawKit.callS X_357 hx (y := M445) hown_245 (mvT hZ_245 (w40 hw)) (mvT hZ_245 (w41 hw)) (mvT hZ_245 (w42 hw)) (mvT hZ_245 (w43 hw)) (by decide) (backOf (W := 0) (rm_mhh0 l Z a0 hw [] G1 G3 HG T_245.heap n0 O_258 a_238 a_246 k_247 g_250 g_251 g_252 g_253) hZ_245 (w43 hw) (w42 hw) (by decide) (by decide)) (g := (mkF m 480 #[.val (.int p0), .val (.long p1), .second, .val (.long p2), .second, .val (.int p3), .val (.int (0 : Int32)), .val (.ref a_12), .val (.ref a_238), .val (.int (0 : Int32)), .val (.int (0 : Int32))] [(.ref a_238)])) rfl (by rw [hml]; rfl) (argsL := [(.ref a_238)]) (rest := []) (lenOf pd_521 rfl) rfl (by show 2 * 0 + _ ≤ _; exact Nat.le_of_eq rfl) (hb hby at_480) (fun _ _ => ⟨rfl, e_361, (by decide : 6 + 0 ≤ _), (by decide : 12 + 0 ≤ _)⟩)
    dsimp only [Pt.U, Pt.locs, Pt.cells, Pt.slots] at X_362 l_362 y_362 z_362 st_362 hQ_362
    have X_362 := own_cast X_362 l_362 y_362 z_362
    obtain ⟨rfl, N_363, e_364⟩ := hQ_362
    have N_365 := Fr.app N_360 N_363
    have e_366 : T_362.heap = T_245.heap := e_364
    have C_367 : Steps p.tables e below S0 (T_362.setTop (mkF m 506 #[.val (.int p0), .val (.long p1), .second, .val (.long p2), .second, .val (.int p3), .val (.int (0 : Int32)), .val (.ref a_12), .val (.ref a_238), .val (.int (0 : Int32)), .val (.int (0 : Int32))] [(.int (1 : Int32))])) := by
      refine C_356.trans ?_
      refine XS.iconst X_351.here hx rfl (hb hby at_464) ?_
      refine st_357 _ ?_
      refine XS.ifYes X_357.here hx rfl (pc0 := 468) (pc' := 475) rfl (hb hby at_468) rfl (by decide) (by decide) (by decide) ?_
      refine XS.iconst X_357.here hx rfl (hb hby at_475) ?_
      refine XS.istore X_357.here hx rfl (hb hby at_476) rfl (l' := #[.val (.int p0), .val (.long p1), .second, .val (.long p2), .second, .val (.int p3), .val (.int (0 : Int32)), .val (.ref a_12), .val (.ref a_238), .val (.int (0 : Int32)), .val (.int (0 : Int32))]) rfl ?_
      refine XS.aload X_357.here hx rfl (hb hby at_478) rfl rfl ?_
      refine st_362 _ ?_
      refine XS.iload X_362.here hx rfl (hb hby at_483) rfl ?_
      show Steps p.tables e below (T_362.setTop (mkF m 485 #[.val (.int p0), .val (.long p1), .second, .val (.long p2), .second, .val (.int p3), .val (.int (0 : Int32)), .val (.ref a_12), .val (.ref a_238), .val (.int (0 : Int32)), .val (.int (0 : Int32))] [(.int (0 : Int32)), (.int (0 : Int32))])) _
      refine XS.ifNo X_362.here hx rfl (hb hby at_485) rfl (by decide) ?_
      refine XS.iload X_362.here hx rfl (hb hby at_488) rfl ?_
      refine XS.ifYes X_362.here hx rfl (pc0 := 490) (pc' := 497) rfl (hb hby at_490) rfl (by decide) (by decide) (by decide) ?_
      refine XS.iconst X_362.here hx rfl (hb hby at_497) ?_
      refine XS.icmpNo X_362.here hx rfl (hb hby at_498) rfl (by decide) ?_
      refine XS.iconst X_362.here hx rfl (hb hby at_501) ?_
      refine XS.goto X_362.here hx rfl (pc0 := 502) (pc' := 506) rfl (hb hby at_502) (by decide) (by decide) ?_
      exact Steps.refl _
    have K_368 : Keep h0 T_245.heap [] := ((((Keep.refl _ _).ext E_9).ext E_234).trans K_249 (allS (Or.inr (Nat.le_trans E_9.1 (Nat.le_of_eq g_239.symm))) all0))
    obtain ⟨fs, hr, hrun, hended, hRE⟩ := X_362.leaveW hS_245 (by rw [show T_362.heap = T_245.heap from e_366]; exact (Nat.le_refl _)) (v := some (.int (1 : Int32))) (fun h => by rw [Bd.returns] at h; cases h)
    refine ⟨_, _, C_367.trans (retN X_362 hx (t := .boolean) Bd.returns (by simp) (hb hby at_506) hr), hrun, hended, _, _, rfl, ?_, ?_, hRE.1, hRE.2.1, hRE.2.2.1, hRE.2.2.2.mono (by decide) (by decide)⟩
    · show Q_law Z G1 G3 p0 p1 p2 p3 h0 n0 (some (.int (1 : Int32))) T_362.heap _
      rw [e_366]
      exact ⟨rfl, N_365, K_368⟩
    · show CHr Z consts_1 s.vm s.heap T_362.vm T_362.heap
      rw [hh, show T_362.heap = T_245.heap from e_366]
      exact CR_256.trans (CHv.at X_362 hZ_245 hEL CH_255)
  · skip
    obtain ⟨T_369, h_370, k_371, X_372, e_373, E_374, A_375, st_376⟩ := newP (aty := .char) X0 hx hZ (w1 hw) e0 (g := (mkF m 11 #[.val (.int p0), .val (.long p1), .second, .val (.long p2), .second, .val (.int p3), .val (.int (own_len p0)), .unset, .unset, .unset, .unset] [(.int (own_len p0))])) rfl (hb hby at_11) rfl (own_len0 p0) (cap := 16) (own_lenc p0) (by decide) (by decide) (by decide)
    obtain ⟨a_377, g_378⟩ : ∃ z, z = h0.size := ⟨_, rfl⟩
    rw [← g_378] at A_375 st_376
    have CH_380 : CHv Z consts_1 s.vm h_370 := CHv.ext E_374 CH0
    have CR_381 : CHr Z consts_1 s.vm h0 s.vm h_370 := CR0.trans (CHr.ext E_374 CH0)
    have V_379 : Arv Z h_370 a_377 k_371 .char (own_len p0) (own_iv (List.replicate (own_len p0).toNatClampNeg 0)) (.int (0 : Int32)) := (Arv.new A_375 (own_len0 p0)).pad (own_pad _)
    have O_382 : Old Z n0 h_370 := (X00.ext E_374)
    obtain ⟨_, _, ⟨T_383, L_383, k_383, n_383⟩, -, X_383, ⟨Lc_383, hQ_383, l_383, y_383, z_383⟩, st_383⟩ := Jvm.LawKit.callS X_372 hx (y := M216) hown (mvT hZ (w2 hw)) (mvT hZ (w3 hw)) (mvT hZ (w4 hw)) (mvT hZ (w5 hw)) (by decide) (backOf (W := 2) (rm_chc l Z a0 hw [] G1 G3 HG h_370 n0 O_382 p1 (0 : Int32) p3 (0 : Int32) ) hZ (w5 hw) (w4 hw) (by decide) (by decide)) (g := (mkF m 23 #[.val (.int p0), .val (.long p1), .second, .val (.long p2), .second, .val (.int p3), .val (.int (own_len p0)), .val (.ref a_377), .unset, .unset, .unset] [(.int (0 : Int32)), (.int p3), (.int (0 : Int32)), (.long p1), (.int (0 : Int32)), (.ref a_377)])) rfl (by rw [hml]; rfl) (argsL := [(.long p1), (.int (0 : Int32)), (.int p3), (.int (0 : Int32))]) (rest := [(.int (0 : Int32)), (.ref a_377)]) (lenOf pd_502 rfl) rfl (by show 2 * 0 + _ ≤ _; exact Nat.le_of_eq rfl) (hb hby at_23) (fun _ _ => ⟨rfl, e_373, (by decide : 1 + 0 ≤ _), (by decide : 16 + 0 ≤ _)⟩)
    dsimp only [Pt.U, Pt.locs, Pt.cells, Pt.slots] at X_383 l_383 y_383 z_383 st_383 hQ_383
    have X_383 := own_cast X_383 l_383 y_383 z_383
    obtain ⟨i_384, rfl, N_385, e_386, g_387, g_388⟩ := hQ_383
    have N_389 := Fr.app N0 N_385
    have e_390 : T_383.heap = h_370 := e_386
    obtain ⟨_, _, ⟨T_391, L_391, k_391, n_391⟩, -, X_391, ⟨Lc_391, hQ_391, l_391, y_391, z_391⟩, st_391⟩ := Jvm.LawKit.callS X_383 hx (y := M244) hown (mvT hZ (w7 hw)) (mvT hZ (w8 hw)) (mvT hZ (w4 hw)) (mvT hZ (w9 hw)) (by decide) (backOf (W := 0) (rm_put l Z a0 hw [] G1 G3 HG h_370 n0 O_382 a_377 k_371 (own_len p0) (List.replicate (own_len p0).toNatClampNeg 0) (0 : Int32) i_384 V_379 (List.length_replicate) (own_rl _) (by decide) g_387 g_388 (Nat.le_trans (own_n0 X00) (Nat.le_of_eq g_378.symm))) hZ (w9 hw) (w4 hw) (by decide) (by decide)) (g := (mkF m 26 #[.val (.int p0), .val (.long p1), .second, .val (.long p2), .second, .val (.int p3), .val (.int (own_len p0)), .val (.ref a_377), .unset, .unset, .unset] [(.int i_384), (.int (0 : Int32)), (.ref a_377)])) rfl (by rw [hml]; rfl) (argsL := [(.ref a_377), (.int (0 : Int32)), (.int i_384)]) (rest := []) (lenOf pd_506 rfl) rfl (by show 2 * 0 + _ ≤ _; exact Nat.le_of_eq rfl) (hb hby at_26) (fun _ _ => ⟨rfl, e_390, (by decide : 1 + 0 ≤ _), (by decide : 16 + 0 ≤ _)⟩)
    dsimp only [Pt.U, Pt.locs, Pt.cells, Pt.slots] at X_391 l_391 y_391 z_391 st_391 hQ_391
    have X_391 := own_cast X_391 l_391 y_391 z_391
    obtain ⟨x_392, rfl, N_393, K_394, g_395, g_396, g_397⟩ := hQ_391
    have N_398 := Fr.app N_389 N_393
    have CH_399 : CHv Z consts_1 s.vm T_391.heap := CHv.keep K_394 (sfS (Safe.arv hZ.alike V_379 (by decide)) sf0) CH_380
    have CR_400 : CHr Z consts_1 s.vm h0 s.vm T_391.heap := CR_381.trans (CHr.keep K_394 (sfS (Safe.arv hZ.alike V_379 (by decide)) sf0) CH_380)
    have O_401 : Old Z n0 T_391.heap := (O_382.keep K_394 (allS (Nat.le_trans (own_n0 X00) (Nat.le_of_eq g_378.symm)) all0))
    obtain ⟨_, _, ⟨T_402, L_402, k_402, n_402⟩, -, X_402, ⟨Lc_402, hQ_402, l_402, y_402, z_402⟩, st_402⟩ := Jvm.LawKit.callS X_391 hx (y := M216) hown (mvT hZ (w2 hw)) (mvT hZ (w3 hw)) (mvT hZ (w4 hw)) (mvT hZ (w5 hw)) (by decide) (backOf (W := 2) (rm_chc l Z a0 hw [] G1 G3 HG T_391.heap n0 O_401 p1 (1 : Int32) p3 (1 : Int32) ) hZ (w5 hw) (w4 hw) (by decide) (by decide)) (g := (mkF m 37 #[.val (.int p0), .val (.long p1), .second, .val (.long p2), .second, .val (.int p3), .val (.int (own_len p0)), .val (.ref a_377), .unset, .unset, .unset] [(.int (1 : Int32)), (.int p3), (.int (1 : Int32)), (.long p1), (.int (1 : Int32)), (.ref a_377)])) rfl (by rw [hml]; rfl) (argsL := [(.long p1), (.int (1 : Int32)), (.int p3), (.int (1 : Int32))]) (rest := [(.int (1 : Int32)), (.ref a_377)]) (lenOf pd_502 rfl) rfl (by show 2 * 0 + _ ≤ _; exact Nat.le_of_eq rfl) (hb hby at_37) (fun _ _ => ⟨rfl, rfl, (by decide : 1 + 0 ≤ _), (by decide : 16 + 0 ≤ _)⟩)
    dsimp only [Pt.U, Pt.locs, Pt.cells, Pt.slots] at X_402 l_402 y_402 z_402 st_402 hQ_402
    have X_402 := own_cast X_402 l_402 y_402 z_402
    obtain ⟨i_403, rfl, N_404, e_405, g_406, g_407⟩ := hQ_402
    have N_408 := Fr.app N_398 N_404
    have e_409 : T_402.heap = T_391.heap := e_405
    obtain ⟨_, _, ⟨T_410, L_410, k_410, n_410⟩, -, X_410, ⟨Lc_410, hQ_410, l_410, y_410, z_410⟩, st_410⟩ := Jvm.LawKit.callS X_402 hx (y := M244) hown (mvT hZ (w7 hw)) (mvT hZ (w8 hw)) (mvT hZ (w4 hw)) (mvT hZ (w9 hw)) (by decide) (backOf (W := 0) (rm_put l Z a0 hw [] G1 G3 HG T_391.heap n0 O_401 a_377 k_371 (own_len p0) x_392 (1 : Int32) i_403 g_395 g_396 g_397 (by decide) g_406 g_407 (Nat.le_trans (own_n0 X00) (Nat.le_of_eq g_378.symm))) hZ (w9 hw) (w4 hw) (by decide) (by decide)) (g := (mkF m 40 #[.val (.int p0), .val (.long p1), .second, .val (.long p2), .second, .val (.int p3), .val (.int (own_len p0)), .val (.ref a_377), .unset, .unset, .unset] [(.int i_403), (.int (1 : Int32)), (.ref a_377)])) rfl (by rw [hml]; rfl) (argsL := [(.ref a_377), (.int (1 : Int32)), (.int i_403)]) (rest := []) (lenOf pd_506 rfl) rfl (by show 2 * 0 + _ ≤ _; exact Nat.le_of_eq rfl) (hb hby at_40) (fun _ _ => ⟨rfl, e_409, (by decide : 1 + 0 ≤ _), (by decide : 16 + 0 ≤ _)⟩)
    dsimp only [Pt.U, Pt.locs, Pt.cells, Pt.slots] at X_410 l_410 y_410 z_410 st_410 hQ_410
    have X_410 := own_cast X_410 l_410 y_410 z_410
    obtain ⟨x_411, rfl, N_412, K_413, g_414, g_415, g_416⟩ := hQ_410
    have N_417 := Fr.app N_408 N_412
    have CH_418 : CHv Z consts_1 s.vm T_410.heap := CHv.keep K_413 (sfS (Safe.arv hZ.alike g_395 (by decide)) sf0) CH_399
    have CR_419 : CHr Z consts_1 s.vm h0 s.vm T_410.heap := CR_400.trans (CHr.keep K_413 (sfS (Safe.arv hZ.alike g_395 (by decide)) sf0) CH_399)
    have O_420 : Old Z n0 T_410.heap := (O_401.keep K_413 (allS (Nat.le_trans (own_n0 X00) (Nat.le_of_eq g_378.symm)) all0))
    obtain ⟨_, _, ⟨T_421, L_421, k_421, n_421⟩, -, X_421, ⟨Lc_421, hQ_421, l_421, y_421, z_421⟩, st_421⟩ := Jvm.LawKit.callS X_410 hx (y := M216) hown (mvT hZ (w2 hw)) (mvT hZ (w3 hw)) (mvT hZ (w4 hw)) (mvT hZ (w5 hw)) (by decide) (backOf (W := 2) (rm_chc l Z a0 hw [] G1 G3 HG T_410.heap n0 O_420 p1 (2 : Int32) p3 (2 : Int32) ) hZ (w5 hw) (w4 hw) (by decide) (by decide)) (g := (mkF m 51 #[.val (.int p0), .val (.long p1), .second, .val (.long p2), .second, .val (.int p3), .val (.int (own_len p0)), .val (.ref a_377), .unset, .unset, .unset] [(.int (2 : Int32)), (.int p3), (.int (2 : Int32)), (.long p1), (.int (2 : Int32)), (.ref a_377)])) rfl (by rw [hml]; rfl) (argsL := [(.long p1), (.int (2 : Int32)), (.int p3), (.int (2 : Int32))]) (rest := [(.int (2 : Int32)), (.ref a_377)]) (lenOf pd_502 rfl) rfl (by show 2 * 0 + _ ≤ _; exact Nat.le_of_eq rfl) (hb hby at_51) (fun _ _ => ⟨rfl, rfl, (by decide : 1 + 0 ≤ _), (by decide : 16 + 0 ≤ _)⟩)
    dsimp only [Pt.U, Pt.locs, Pt.cells, Pt.slots] at X_421 l_421 y_421 z_421 st_421 hQ_421
    have X_421 := own_cast X_421 l_421 y_421 z_421
    obtain ⟨i_422, rfl, N_423, e_424, g_425, g_426⟩ := hQ_421
    have N_427 := Fr.app N_417 N_423
    have e_428 : T_421.heap = T_410.heap := e_424
    obtain ⟨_, _, ⟨T_429, L_429, k_429, n_429⟩, -, X_429, ⟨Lc_429, hQ_429, l_429, y_429, z_429⟩, st_429⟩ := Jvm.LawKit.callS X_421 hx (y := M244) hown (mvT hZ (w7 hw)) (mvT hZ (w8 hw)) (mvT hZ (w4 hw)) (mvT hZ (w9 hw)) (by decide) (backOf (W := 0) (rm_put l Z a0 hw [] G1 G3 HG T_410.heap n0 O_420 a_377 k_371 (own_len p0) x_411 (2 : Int32) i_422 g_414 g_415 g_416 (by decide) g_425 g_426 (Nat.le_trans (own_n0 X00) (Nat.le_of_eq g_378.symm))) hZ (w9 hw) (w4 hw) (by decide) (by decide)) (g := (mkF m 54 #[.val (.int p0), .val (.long p1), .second, .val (.long p2), .second, .val (.int p3), .val (.int (own_len p0)), .val (.ref a_377), .unset, .unset, .unset] [(.int i_422), (.int (2 : Int32)), (.ref a_377)])) rfl (by rw [hml]; rfl) (argsL := [(.ref a_377), (.int (2 : Int32)), (.int i_422)]) (rest := []) (lenOf pd_506 rfl) rfl (by show 2 * 0 + _ ≤ _; exact Nat.le_of_eq rfl) (hb hby at_54) (fun _ _ => ⟨rfl, e_428, (by decide : 1 + 0 ≤ _), (by decide : 16 + 0 ≤ _)⟩)
    dsimp only [Pt.U, Pt.locs, Pt.cells, Pt.slots] at X_429 l_429 y_429 z_429 st_429 hQ_429
    have X_429 := own_cast X_429 l_429 y_429 z_429
    obtain ⟨x_430, rfl, N_431, K_432, g_433, g_434, g_435⟩ := hQ_429
    have N_436 := Fr.app N_427 N_431
    have CH_437 : CHv Z consts_1 s.vm T_429.heap := CHv.keep K_432 (sfS (Safe.arv hZ.alike g_414 (by decide)) sf0) CH_418
    have CR_438 : CHr Z consts_1 s.vm h0 s.vm T_429.heap := CR_419.trans (CHr.keep K_432 (sfS (Safe.arv hZ.alike g_414 (by decide)) sf0) CH_418)
    have O_439 : Old Z n0 T_429.heap := (O_420.keep K_432 (allS (Nat.le_trans (own_n0 X00) (Nat.le_of_eq g_378.symm)) all0))
    obtain ⟨_, _, ⟨T_440, L_440, k_440, n_440⟩, -, X_440, ⟨Lc_440, hQ_440, l_440, y_440, z_440⟩, st_440⟩ := Jvm.LawKit.callS X_429 hx (y := M216) hown (mvT hZ (w2 hw)) (mvT hZ (w3 hw)) (mvT hZ (w4 hw)) (mvT hZ (w5 hw)) (by decide) (backOf (W := 2) (rm_chc l Z a0 hw [] G1 G3 HG T_429.heap n0 O_439 p1 (3 : Int32) p3 (3 : Int32) ) hZ (w5 hw) (w4 hw) (by decide) (by decide)) (g := (mkF m 65 #[.val (.int p0), .val (.long p1), .second, .val (.long p2), .second, .val (.int p3), .val (.int (own_len p0)), .val (.ref a_377), .unset, .unset, .unset] [(.int (3 : Int32)), (.int p3), (.int (3 : Int32)), (.long p1), (.int (3 : Int32)), (.ref a_377)])) rfl (by rw [hml]; rfl) (argsL := [(.long p1), (.int (3 : Int32)), (.int p3), (.int (3 : Int32))]) (rest := [(.int (3 : Int32)), (.ref a_377)]) (lenOf pd_502 rfl) rfl (by show 2 * 0 + _ ≤ _; exact Nat.le_of_eq rfl) (hb hby at_65) (fun _ _ => ⟨rfl, rfl, (by decide : 1 + 0 ≤ _), (by decide : 16 + 0 ≤ _)⟩)
    dsimp only [Pt.U, Pt.locs, Pt.cells, Pt.slots] at X_440 l_440 y_440 z_440 st_440 hQ_440
    have X_440 := own_cast X_440 l_440 y_440 z_440
    obtain ⟨i_441, rfl, N_442, e_443, g_444, g_445⟩ := hQ_440
    have N_446 := Fr.app N_436 N_442
    have e_447 : T_440.heap = T_429.heap := e_443
    obtain ⟨_, _, ⟨T_448, L_448, k_448, n_448⟩, -, X_448, ⟨Lc_448, hQ_448, l_448, y_448, z_448⟩, st_448⟩ := Jvm.LawKit.callS X_440 hx (y := M244) hown (mvT hZ (w7 hw)) (mvT hZ (w8 hw)) (mvT hZ (w4 hw)) (mvT hZ (w9 hw)) (by decide) (backOf (W := 0) (rm_put l Z a0 hw [] G1 G3 HG T_429.heap n0 O_439 a_377 k_371 (own_len p0) x_430 (3 : Int32) i_441 g_433 g_434 g_435 (by decide) g_444 g_445 (Nat.le_trans (own_n0 X00) (Nat.le_of_eq g_378.symm))) hZ (w9 hw) (w4 hw) (by decide) (by decide)) (g := (mkF m 68 #[.val (.int p0), .val (.long p1), .second, .val (.long p2), .second, .val (.int p3), .val (.int (own_len p0)), .val (.ref a_377), .unset, .unset, .unset] [(.int i_441), (.int (3 : Int32)), (.ref a_377)])) rfl (by rw [hml]; rfl) (argsL := [(.ref a_377), (.int (3 : Int32)), (.int i_441)]) (rest := []) (lenOf pd_506 rfl) rfl (by show 2 * 0 + _ ≤ _; exact Nat.le_of_eq rfl) (hb hby at_68) (fun _ _ => ⟨rfl, e_447, (by decide : 1 + 0 ≤ _), (by decide : 16 + 0 ≤ _)⟩)
    dsimp only [Pt.U, Pt.locs, Pt.cells, Pt.slots] at X_448 l_448 y_448 z_448 st_448 hQ_448
    have X_448 := own_cast X_448 l_448 y_448 z_448
    obtain ⟨x_449, rfl, N_450, K_451, g_452, g_453, g_454⟩ := hQ_448
    have N_455 := Fr.app N_446 N_450
    have CH_456 : CHv Z consts_1 s.vm T_448.heap := CHv.keep K_451 (sfS (Safe.arv hZ.alike g_433 (by decide)) sf0) CH_437
    have CR_457 : CHr Z consts_1 s.vm h0 s.vm T_448.heap := CR_438.trans (CHr.keep K_451 (sfS (Safe.arv hZ.alike g_433 (by decide)) sf0) CH_437)
    have C_458 : Steps p.tables e below S0 (T_448.setTop (mkF m 71 #[.val (.int p0), .val (.long p1), .second, .val (.long p2), .second, .val (.int p3), .val (.int (own_len p0)), .val (.ref a_377), .unset, .unset, .unset] [])) := by
      refine C_1.trans ?_
      refine XS.istore X0.here hx rfl (hb hby at_7) rfl (l' := #[.val (.int p0), .val (.long p1), .second, .val (.long p2), .second, .val (.int p3), .val (.int (own_len p0)), .unset, .unset, .unset, .unset]) rfl ?_
      refine XS.iload X0.here hx rfl (hb hby at_9) rfl ?_
      refine st_376 _ ?_
      refine XS.astore X_372.here hx rfl (hb hby at_13) rfl rfl (l' := #[.val (.int p0), .val (.long p1), .second, .val (.long p2), .second, .val (.int p3), .val (.int (own_len p0)), .val (.ref a_377), .unset, .unset, .unset]) rfl ?_
      refine XS.aload X_372.here hx rfl (hb hby at_15) rfl rfl ?_
      refine XS.iconst X_372.here hx rfl (hb hby at_17) ?_
      refine XS.lloadN X_372.here hx rfl (hb hby at_18) rfl ?_
      refine XS.iconst X_372.here hx rfl (hb hby at_19) ?_
      show Steps p.tables e below (T_369.setTop (mkF m 20 #[.val (.int p0), .val (.long p1), .second, .val (.long p2), .second, .val (.int p3), .val (.int (own_len p0)), .val (.ref a_377), .unset, .unset, .unset] [(.int (0 : Int32)), (.long p1), (.int (0 : Int32)), (.ref a_377)])) _
      refine XS.iload X_372.here hx rfl (hb hby at_20) rfl ?_
      refine XS.iconst X_372.here hx rfl (hb hby at_22) ?_
      refine st_383 _ ?_
      refine st_391 _ ?_
      refine XS.aload X_391.here hx rfl (hb hby at_29) rfl rfl ?_
      refine XS.iconst X_391.here hx rfl (hb hby at_31) ?_
      refine XS.lloadN X_391.here hx rfl (hb hby at_32) rfl ?_
      refine XS.iconst X_391.here hx rfl (hb hby at_33) ?_
      show Steps p.tables e below (T_391.setTop (mkF m 34 #[.val (.int p0), .val (.long p1), .second, .val (.long p2), .second, .val (.int p3), .val (.int (own_len p0)), .val (.ref a_377), .unset, .unset, .unset] [(.int (1 : Int32)), (.long p1), (.int (1 : Int32)), (.ref a_377)])) _
      refine XS.iload X_391.here hx rfl (hb hby at_34) rfl ?_
      refine XS.iconst X_391.here hx rfl (hb hby at_36) ?_
      refine st_402 _ ?_
      refine st_410 _ ?_
      refine XS.aload X_410.here hx rfl (hb hby at_43) rfl rfl ?_
      refine XS.iconst X_410.here hx rfl (hb hby at_45) ?_
      refine XS.lloadN X_410.here hx rfl (hb hby at_46) rfl ?_
      refine XS.iconst X_410.here hx rfl (hb hby at_47) ?_
      show Steps p.tables e below (T_410.setTop (mkF m 48 #[.val (.int p0), .val (.long p1), .second, .val (.long p2), .second, .val (.int p3), .val (.int (own_len p0)), .val (.ref a_377), .unset, .unset, .unset] [(.int (2 : Int32)), (.long p1), (.int (2 : Int32)), (.ref a_377)])) _
      refine XS.iload X_410.here hx rfl (hb hby at_48) rfl ?_
      refine XS.iconst X_410.here hx rfl (hb hby at_50) ?_
      refine st_421 _ ?_
      refine st_429 _ ?_
      refine XS.aload X_429.here hx rfl (hb hby at_57) rfl rfl ?_
      refine XS.iconst X_429.here hx rfl (hb hby at_59) ?_
      refine XS.lloadN X_429.here hx rfl (hb hby at_60) rfl ?_
      refine XS.iconst X_429.here hx rfl (hb hby at_61) ?_
      show Steps p.tables e below (T_429.setTop (mkF m 62 #[.val (.int p0), .val (.long p1), .second, .val (.long p2), .second, .val (.int p3), .val (.int (own_len p0)), .val (.ref a_377), .unset, .unset, .unset] [(.int (3 : Int32)), (.long p1), (.int (3 : Int32)), (.ref a_377)])) _
      refine XS.iload X_429.here hx rfl (hb hby at_62) rfl ?_
      refine XS.iconst X_429.here hx rfl (hb hby at_64) ?_
      refine st_440 _ ?_
      refine st_448 _ ?_
      exact Steps.refl _
    have O_459 : Old Z n0 T_448.heap := (O_439.keep K_451 (allS (Nat.le_trans (own_n0 X00) (Nat.le_of_eq g_378.symm)) all0))
    obtain ⟨_, _, ⟨T_460, L_460, k_460, n_460⟩, -, X_460, ⟨Lc_460, hQ_460, l_460, y_460, z_460⟩, st_460⟩ := Jvm.LawKit.callS X_448 hx (y := M216) hown (mvT hZ (w2 hw)) (mvT hZ (w3 hw)) (mvT hZ (w4 hw)) (mvT hZ (w5 hw)) (by decide) (backOf (W := 2) (rm_chc l Z a0 hw [] G1 G3 HG T_448.heap n0 O_459 p1 (4 : Int32) p3 (4 : Int32) ) hZ (w5 hw) (w4 hw) (by decide) (by decide)) (g := (mkF m 79 #[.val (.int p0), .val (.long p1), .second, .val (.long p2), .second, .val (.int p3), .val (.int (own_len p0)), .val (.ref a_377), .unset, .unset, .unset] [(.int (4 : Int32)), (.int p3), (.int (4 : Int32)), (.long p1), (.int (4 : Int32)), (.ref a_377)])) rfl (by rw [hml]; rfl) (argsL := [(.long p1), (.int (4 : Int32)), (.int p3), (.int (4 : Int32))]) (rest := [(.int (4 : Int32)), (.ref a_377)]) (lenOf pd_502 rfl) rfl (by show 2 * 0 + _ ≤ _; exact Nat.le_of_eq rfl) (hb hby at_79) (fun _ _ => ⟨rfl, rfl, (by decide : 1 + 0 ≤ _), (by decide : 16 + 0 ≤ _)⟩)
    dsimp only [Pt.U, Pt.locs, Pt.cells, Pt.slots] at X_460 l_460 y_460 z_460 st_460 hQ_460
    have X_460 := own_cast X_460 l_460 y_460 z_460
    obtain ⟨i_461, rfl, N_462, e_463, g_464, g_465⟩ := hQ_460
    have N_466 := Fr.app N_455 N_462
    have e_467 : T_460.heap = T_448.heap := e_463
    obtain ⟨_, _, ⟨T_468, L_468, k_468, n_468⟩, -, X_468, ⟨Lc_468, hQ_468, l_468, y_468, z_468⟩, st_468⟩ := Jvm.LawKit.callS X_460 hx (y := M244) hown (mvT hZ (w7 hw)) (mvT hZ (w8 hw)) (mvT hZ (w4 hw)) (mvT hZ (w9 hw)) (by decide) (backOf (W := 0) (rm_put l Z a0 hw [] G1 G3 HG T_448.heap n0 O_459 a_377 k_371 (own_len p0) x_449 (4 : Int32) i_461 g_452 g_453 g_454 (by decide) g_464 g_465 (Nat.le_trans (own_n0 X00) (Nat.le_of_eq g_378.symm))) hZ (w9 hw) (w4 hw) (by decide) (by decide)) (g := (mkF m 82 #[.val (.int p0), .val (.long p1), .second, .val (.long p2), .second, .val (.int p3), .val (.int (own_len p0)), .val (.ref a_377), .unset, .unset, .unset] [(.int i_461), (.int (4 : Int32)), (.ref a_377)])) rfl (by rw [hml]; rfl) (argsL := [(.ref a_377), (.int (4 : Int32)), (.int i_461)]) (rest := []) (lenOf pd_506 rfl) rfl (by show 2 * 0 + _ ≤ _; exact Nat.le_of_eq rfl) (hb hby at_82) (fun _ _ => ⟨rfl, e_467, (by decide : 1 + 0 ≤ _), (by decide : 16 + 0 ≤ _)⟩)
    dsimp only [Pt.U, Pt.locs, Pt.cells, Pt.slots] at X_468 l_468 y_468 z_468 st_468 hQ_468
    have X_468 := own_cast X_468 l_468 y_468 z_468
    obtain ⟨x_469, rfl, N_470, K_471, g_472, g_473, g_474⟩ := hQ_468
    have N_475 := Fr.app N_466 N_470
    have CH_476 : CHv Z consts_1 s.vm T_468.heap := CHv.keep K_471 (sfS (Safe.arv hZ.alike g_452 (by decide)) sf0) CH_456
    have CR_477 : CHr Z consts_1 s.vm h0 s.vm T_468.heap := CR_457.trans (CHr.keep K_471 (sfS (Safe.arv hZ.alike g_452 (by decide)) sf0) CH_456)
    have O_478 : Old Z n0 T_468.heap := (O_459.keep K_471 (allS (Nat.le_trans (own_n0 X00) (Nat.le_of_eq g_378.symm)) all0))
    obtain ⟨_, _, ⟨T_479, L_479, k_479, n_479⟩, -, X_479, ⟨Lc_479, hQ_479, l_479, y_479, z_479⟩, st_479⟩ := Jvm.LawKit.callS X_468 hx (y := M216) hown (mvT hZ (w2 hw)) (mvT hZ (w3 hw)) (mvT hZ (w4 hw)) (mvT hZ (w5 hw)) (by decide) (backOf (W := 2) (rm_chc l Z a0 hw [] G1 G3 HG T_468.heap n0 O_478 p1 (5 : Int32) p3 (5 : Int32) ) hZ (w5 hw) (w4 hw) (by decide) (by decide)) (g := (mkF m 93 #[.val (.int p0), .val (.long p1), .second, .val (.long p2), .second, .val (.int p3), .val (.int (own_len p0)), .val (.ref a_377), .unset, .unset, .unset] [(.int (5 : Int32)), (.int p3), (.int (5 : Int32)), (.long p1), (.int (5 : Int32)), (.ref a_377)])) rfl (by rw [hml]; rfl) (argsL := [(.long p1), (.int (5 : Int32)), (.int p3), (.int (5 : Int32))]) (rest := [(.int (5 : Int32)), (.ref a_377)]) (lenOf pd_502 rfl) rfl (by show 2 * 0 + _ ≤ _; exact Nat.le_of_eq rfl) (hb hby at_93) (fun _ _ => ⟨rfl, rfl, (by decide : 1 + 0 ≤ _), (by decide : 16 + 0 ≤ _)⟩)
    dsimp only [Pt.U, Pt.locs, Pt.cells, Pt.slots] at X_479 l_479 y_479 z_479 st_479 hQ_479
    have X_479 := own_cast X_479 l_479 y_479 z_479
    obtain ⟨i_480, rfl, N_481, e_482, g_483, g_484⟩ := hQ_479
    have N_485 := Fr.app N_475 N_481
    have e_486 : T_479.heap = T_468.heap := e_482
    obtain ⟨_, _, ⟨T_487, L_487, k_487, n_487⟩, -, X_487, ⟨Lc_487, hQ_487, l_487, y_487, z_487⟩, st_487⟩ := Jvm.LawKit.callS X_479 hx (y := M244) hown (mvT hZ (w7 hw)) (mvT hZ (w8 hw)) (mvT hZ (w4 hw)) (mvT hZ (w9 hw)) (by decide) (backOf (W := 0) (rm_put l Z a0 hw [] G1 G3 HG T_468.heap n0 O_478 a_377 k_371 (own_len p0) x_469 (5 : Int32) i_480 g_472 g_473 g_474 (by decide) g_483 g_484 (Nat.le_trans (own_n0 X00) (Nat.le_of_eq g_378.symm))) hZ (w9 hw) (w4 hw) (by decide) (by decide)) (g := (mkF m 96 #[.val (.int p0), .val (.long p1), .second, .val (.long p2), .second, .val (.int p3), .val (.int (own_len p0)), .val (.ref a_377), .unset, .unset, .unset] [(.int i_480), (.int (5 : Int32)), (.ref a_377)])) rfl (by rw [hml]; rfl) (argsL := [(.ref a_377), (.int (5 : Int32)), (.int i_480)]) (rest := []) (lenOf pd_506 rfl) rfl (by show 2 * 0 + _ ≤ _; exact Nat.le_of_eq rfl) (hb hby at_96) (fun _ _ => ⟨rfl, e_486, (by decide : 1 + 0 ≤ _), (by decide : 16 + 0 ≤ _)⟩)
    dsimp only [Pt.U, Pt.locs, Pt.cells, Pt.slots] at X_487 l_487 y_487 z_487 st_487 hQ_487
    have X_487 := own_cast X_487 l_487 y_487 z_487
    obtain ⟨x_488, rfl, N_489, K_490, g_491, g_492, g_493⟩ := hQ_487
    have N_494 := Fr.app N_485 N_489
    have CH_495 : CHv Z consts_1 s.vm T_487.heap := CHv.keep K_490 (sfS (Safe.arv hZ.alike g_472 (by decide)) sf0) CH_476
    have CR_496 : CHr Z consts_1 s.vm h0 s.vm T_487.heap := CR_477.trans (CHr.keep K_490 (sfS (Safe.arv hZ.alike g_472 (by decide)) sf0) CH_476)
    have O_497 : Old Z n0 T_487.heap := (O_478.keep K_490 (allS (Nat.le_trans (own_n0 X00) (Nat.le_of_eq g_378.symm)) all0))
    obtain ⟨_, _, ⟨T_498, L_498, k_498, n_498⟩, -, X_498, ⟨Lc_498, hQ_498, l_498, y_498, z_498⟩, st_498⟩ := Jvm.LawKit.callS X_487 hx (y := M216) hown (mvT hZ (w2 hw)) (mvT hZ (w3 hw)) (mvT hZ (w4 hw)) (mvT hZ (w5 hw)) (by decide) (backOf (W := 2) (rm_chc l Z a0 hw [] G1 G3 HG T_487.heap n0 O_497 p1 (6 : Int32) p3 (6 : Int32) ) hZ (w5 hw) (w4 hw) (by decide) (by decide)) (g := (mkF m 110 #[.val (.int p0), .val (.long p1), .second, .val (.long p2), .second, .val (.int p3), .val (.int (own_len p0)), .val (.ref a_377), .unset, .unset, .unset] [(.int (6 : Int32)), (.int p3), (.int (6 : Int32)), (.long p1), (.int (6 : Int32)), (.ref a_377)])) rfl (by rw [hml]; rfl) (argsL := [(.long p1), (.int (6 : Int32)), (.int p3), (.int (6 : Int32))]) (rest := [(.int (6 : Int32)), (.ref a_377)]) (lenOf pd_502 rfl) rfl (by show 2 * 0 + _ ≤ _; exact Nat.le_of_eq rfl) (hb hby at_110) (fun _ _ => ⟨rfl, rfl, (by decide : 1 + 0 ≤ _), (by decide : 16 + 0 ≤ _)⟩)
    dsimp only [Pt.U, Pt.locs, Pt.cells, Pt.slots] at X_498 l_498 y_498 z_498 st_498 hQ_498
    have X_498 := own_cast X_498 l_498 y_498 z_498
    obtain ⟨i_499, rfl, N_500, e_501, g_502, g_503⟩ := hQ_498
    have N_504 := Fr.app N_494 N_500
    have e_505 : T_498.heap = T_487.heap := e_501
    obtain ⟨_, _, ⟨T_506, L_506, k_506, n_506⟩, -, X_506, ⟨Lc_506, hQ_506, l_506, y_506, z_506⟩, st_506⟩ := Jvm.LawKit.callS X_498 hx (y := M244) hown (mvT hZ (w7 hw)) (mvT hZ (w8 hw)) (mvT hZ (w4 hw)) (mvT hZ (w9 hw)) (by decide) (backOf (W := 0) (rm_put l Z a0 hw [] G1 G3 HG T_487.heap n0 O_497 a_377 k_371 (own_len p0) x_488 (6 : Int32) i_499 g_491 g_492 g_493 (by decide) g_502 g_503 (Nat.le_trans (own_n0 X00) (Nat.le_of_eq g_378.symm))) hZ (w9 hw) (w4 hw) (by decide) (by decide)) (g := (mkF m 113 #[.val (.int p0), .val (.long p1), .second, .val (.long p2), .second, .val (.int p3), .val (.int (own_len p0)), .val (.ref a_377), .unset, .unset, .unset] [(.int i_499), (.int (6 : Int32)), (.ref a_377)])) rfl (by rw [hml]; rfl) (argsL := [(.ref a_377), (.int (6 : Int32)), (.int i_499)]) (rest := []) (lenOf pd_506 rfl) rfl (by show 2 * 0 + _ ≤ _; exact Nat.le_of_eq rfl) (hb hby at_113) (fun _ _ => ⟨rfl, e_505, (by decide : 1 + 0 ≤ _), (by decide : 16 + 0 ≤ _)⟩)
    dsimp only [Pt.U, Pt.locs, Pt.cells, Pt.slots] at X_506 l_506 y_506 z_506 st_506 hQ_506
    have X_506 := own_cast X_506 l_506 y_506 z_506
    obtain ⟨x_507, rfl, N_508, K_509, g_510, g_511, g_512⟩ := hQ_506
    have N_513 := Fr.app N_504 N_508
    have CH_514 : CHv Z consts_1 s.vm T_506.heap := CHv.keep K_509 (sfS (Safe.arv hZ.alike g_491 (by decide)) sf0) CH_495
    have CR_515 : CHr Z consts_1 s.vm h0 s.vm T_506.heap := CR_496.trans (CHr.keep K_509 (sfS (Safe.arv hZ.alike g_491 (by decide)) sf0) CH_495)
    have O_516 : Old Z n0 T_506.heap := (O_497.keep K_509 (allS (Nat.le_trans (own_n0 X00) (Nat.le_of_eq g_378.symm)) all0))
    obtain ⟨_, _, ⟨T_517, L_517, k_517, n_517⟩, -, X_517, ⟨Lc_517, hQ_517, l_517, y_517, z_517⟩, st_517⟩ := Jvm.LawKit.callS X_506 hx (y := M216) hown (mvT hZ (w2 hw)) (mvT hZ (w3 hw)) (mvT hZ (w4 hw)) (mvT hZ (w5 hw)) (by decide) (backOf (W := 2) (rm_chc l Z a0 hw [] G1 G3 HG T_506.heap n0 O_516 p1 (7 : Int32) p3 (7 : Int32) ) hZ (w5 hw) (w4 hw) (by decide) (by decide)) (g := (mkF m 127 #[.val (.int p0), .val (.long p1), .second, .val (.long p2), .second, .val (.int p3), .val (.int (own_len p0)), .val (.ref a_377), .unset, .unset, .unset] [(.int (7 : Int32)), (.int p3), (.int (7 : Int32)), (.long p1), (.int (7 : Int32)), (.ref a_377)])) rfl (by rw [hml]; rfl) (argsL := [(.long p1), (.int (7 : Int32)), (.int p3), (.int (7 : Int32))]) (rest := [(.int (7 : Int32)), (.ref a_377)]) (lenOf pd_502 rfl) rfl (by show 2 * 0 + _ ≤ _; exact Nat.le_of_eq rfl) (hb hby at_127) (fun _ _ => ⟨rfl, rfl, (by decide : 1 + 0 ≤ _), (by decide : 16 + 0 ≤ _)⟩)
    dsimp only [Pt.U, Pt.locs, Pt.cells, Pt.slots] at X_517 l_517 y_517 z_517 st_517 hQ_517
    have X_517 := own_cast X_517 l_517 y_517 z_517
    obtain ⟨i_518, rfl, N_519, e_520, g_521, g_522⟩ := hQ_517
    have N_523 := Fr.app N_513 N_519
    have e_524 : T_517.heap = T_506.heap := e_520
    obtain ⟨_, _, ⟨T_525, L_525, k_525, n_525⟩, -, X_525, ⟨Lc_525, hQ_525, l_525, y_525, z_525⟩, st_525⟩ := Jvm.LawKit.callS X_517 hx (y := M244) hown (mvT hZ (w7 hw)) (mvT hZ (w8 hw)) (mvT hZ (w4 hw)) (mvT hZ (w9 hw)) (by decide) (backOf (W := 0) (rm_put l Z a0 hw [] G1 G3 HG T_506.heap n0 O_516 a_377 k_371 (own_len p0) x_507 (7 : Int32) i_518 g_510 g_511 g_512 (by decide) g_521 g_522 (Nat.le_trans (own_n0 X00) (Nat.le_of_eq g_378.symm))) hZ (w9 hw) (w4 hw) (by decide) (by decide)) (g := (mkF m 130 #[.val (.int p0), .val (.long p1), .second, .val (.long p2), .second, .val (.int p3), .val (.int (own_len p0)), .val (.ref a_377), .unset, .unset, .unset] [(.int i_518), (.int (7 : Int32)), (.ref a_377)])) rfl (by rw [hml]; rfl) (argsL := [(.ref a_377), (.int (7 : Int32)), (.int i_518)]) (rest := []) (lenOf pd_506 rfl) rfl (by show 2 * 0 + _ ≤ _; exact Nat.le_of_eq rfl) (hb hby at_130) (fun _ _ => ⟨rfl, e_524, (by decide : 1 + 0 ≤ _), (by decide : 16 + 0 ≤ _)⟩)
    dsimp only [Pt.U, Pt.locs, Pt.cells, Pt.slots] at X_525 l_525 y_525 z_525 st_525 hQ_525
    have X_525 := own_cast X_525 l_525 y_525 z_525
    obtain ⟨x_526, rfl, N_527, K_528, g_529, g_530, g_531⟩ := hQ_525
    have N_532 := Fr.app N_523 N_527
    have CH_533 : CHv Z consts_1 s.vm T_525.heap := CHv.keep K_528 (sfS (Safe.arv hZ.alike g_510 (by decide)) sf0) CH_514
    have CR_534 : CHr Z consts_1 s.vm h0 s.vm T_525.heap := CR_515.trans (CHr.keep K_528 (sfS (Safe.arv hZ.alike g_510 (by decide)) sf0) CH_514)
    have C_535 : Steps p.tables e below S0 (T_525.setTop (mkF m 139 #[.val (.int p0), .val (.long p1), .second, .val (.long p2), .second, .val (.int p3), .val (.int (own_len p0)), .val (.ref a_377), .unset, .unset, .unset] [(.int (0 : Int32)), (.long p2), (.int (8 : Int32)), (.ref a_377)])) := by
      refine C_458.trans ?_
      refine XS.aload X_448.here hx rfl (hb hby at_71) rfl rfl ?_
      refine XS.iconst X_448.here hx rfl (hb hby at_73) ?_
      refine XS.lloadN X_448.here hx rfl (hb hby at_74) rfl ?_
      refine XS.iconst X_448.here hx rfl (hb hby at_75) ?_
      refine XS.iload X_448.here hx rfl (hb hby at_76) rfl ?_
      refine XS.iconst X_448.here hx rfl (hb hby at_78) ?_
      refine st_460 _ ?_
      refine st_468 _ ?_
      show Steps p.tables e below (T_468.setTop (mkF m 85 #[.val (.int p0), .val (.long p1), .second, .val (.long p2), .second, .val (.int p3), .val (.int (own_len p0)), .val (.ref a_377), .unset, .unset, .unset] [])) _
      refine XS.aload X_468.here hx rfl (hb hby at_85) rfl rfl ?_
      refine XS.iconst X_468.here hx rfl (hb hby at_87) ?_
      refine XS.lloadN X_468.here hx rfl (hb hby at_88) rfl ?_
      refine XS.iconst X_468.here hx rfl (hb hby at_89) ?_
      refine XS.iload X_468.here hx rfl (hb hby at_90) rfl ?_
      refine XS.iconst X_468.here hx rfl (hb hby at_92) ?_
      refine st_479 _ ?_
      refine st_487 _ ?_
      show Steps p.tables e below (T_487.setTop (mkF m 99 #[.val (.int p0), .val (.long p1), .second, .val (.long p2), .second, .val (.int p3), .val (.int (own_len p0)), .val (.ref a_377), .unset, .unset, .unset] [])) _
      refine XS.aload X_487.here hx rfl (hb hby at_99) rfl rfl ?_
      refine XS.bipush X_487.here hx rfl (hb hby at_101) ?_
      refine XS.lloadN X_487.here hx rfl (hb hby at_103) rfl ?_
      refine XS.bipush X_487.here hx rfl (hb hby at_104) ?_
      refine XS.iload X_487.here hx rfl (hb hby at_106) rfl ?_
      refine XS.bipush X_487.here hx rfl (hb hby at_108) ?_
      refine st_498 _ ?_
      refine st_506 _ ?_
      show Steps p.tables e below (T_506.setTop (mkF m 116 #[.val (.int p0), .val (.long p1), .second, .val (.long p2), .second, .val (.int p3), .val (.int (own_len p0)), .val (.ref a_377), .unset, .unset, .unset] [])) _
      refine XS.aload X_506.here hx rfl (hb hby at_116) rfl rfl ?_
      refine XS.bipush X_506.here hx rfl (hb hby at_118) ?_
      refine XS.lloadN X_506.here hx rfl (hb hby at_120) rfl ?_
      refine XS.bipush X_506.here hx rfl (hb hby at_121) ?_
      refine XS.iload X_506.here hx rfl (hb hby at_123) rfl ?_
      refine XS.bipush X_506.here hx rfl (hb hby at_125) ?_
      refine st_517 _ ?_
      refine st_525 _ ?_
      show Steps p.tables e below (T_525.setTop (mkF m 133 #[.val (.int p0), .val (.long p1), .second, .val (.long p2), .second, .val (.int p3), .val (.int (own_len p0)), .val (.ref a_377), .unset, .unset, .unset] [])) _
      refine XS.aload X_525.here hx rfl (hb hby at_133) rfl rfl ?_
      refine XS.bipush X_525.here hx rfl (hb hby at_135) ?_
      refine XS.lloadN X_525.here hx rfl (hb hby at_137) rfl ?_
      refine XS.iconst X_525.here hx rfl (hb hby at_138) ?_
      exact Steps.refl _
    have O_536 : Old Z n0 T_525.heap := (O_516.keep K_528 (allS (Nat.le_trans (own_n0 X00) (Nat.le_of_eq g_378.symm)) all0))
    obtain ⟨_, _, ⟨T_537, L_537, k_537, n_537⟩, -, X_537, ⟨Lc_537, hQ_537, l_537, y_537, z_537⟩, st_537⟩ := Jvm.LawKit.callS X_525 hx (y := M216) hown (mvT hZ (w2 hw)) (mvT hZ (w3 hw)) (mvT hZ (w4 hw)) (mvT hZ (w5 hw)) (by decide) (backOf (W := 2) (rm_chc l Z a0 hw [] G1 G3 HG T_525.heap n0 O_536 p2 (0 : Int32) p3 (8 : Int32) ) hZ (w5 hw) (w4 hw) (by decide) (by decide)) (g := (mkF m 143 #[.val (.int p0), .val (.long p1), .second, .val (.long p2), .second, .val (.int p3), .val (.int (own_len p0)), .val (.ref a_377), .unset, .unset, .unset] [(.int (8 : Int32)), (.int p3), (.int (0 : Int32)), (.long p2), (.int (8 : Int32)), (.ref a_377)])) rfl (by rw [hml]; rfl) (argsL := [(.long p2), (.int (0 : Int32)), (.int p3), (.int (8 : Int32))]) (rest := [(.int (8 : Int32)), (.ref a_377)]) (lenOf pd_502 rfl) rfl (by show 2 * 0 + _ ≤ _; exact Nat.le_of_eq rfl) (hb hby at_143) (fun _ _ => ⟨rfl, rfl, (by decide : 1 + 0 ≤ _), (by decide : 16 + 0 ≤ _)⟩)
    dsimp only [Pt.U, Pt.locs, Pt.cells, Pt.slots] at X_537 l_537 y_537 z_537 st_537 hQ_537
    have X_537 := own_cast X_537 l_537 y_537 z_537
    obtain ⟨i_538, rfl, N_539, e_540, g_541, g_542⟩ := hQ_537
    have N_543 := Fr.app N_532 N_539
    have e_544 : T_537.heap = T_525.heap := e_540
    obtain ⟨_, _, ⟨T_545, L_545, k_545, n_545⟩, -, X_545, ⟨Lc_545, hQ_545, l_545, y_545, z_545⟩, st_545⟩ := Jvm.LawKit.callS X_537 hx (y := M244) hown (mvT hZ (w7 hw)) (mvT hZ (w8 hw)) (mvT hZ (w4 hw)) (mvT hZ (w9 hw)) (by decide) (backOf (W := 0) (rm_put l Z a0 hw [] G1 G3 HG T_525.heap n0 O_536 a_377 k_371 (own_len p0) x_526 (8 : Int32) i_538 g_529 g_530 g_531 (by decide) g_541 g_542 (Nat.le_trans (own_n0 X00) (Nat.le_of_eq g_378.symm))) hZ (w9 hw) (w4 hw) (by decide) (by decide)) (g := (mkF m 146 #[.val (.int p0), .val (.long p1), .second, .val (.long p2), .second, .val (.int p3), .val (.int (own_len p0)), .val (.ref a_377), .unset, .unset, .unset] [(.int i_538), (.int (8 : Int32)), (.ref a_377)])) rfl (by rw [hml]; rfl) (argsL := [(.ref a_377), (.int (8 : Int32)), (.int i_538)]) (rest := []) (lenOf pd_506 rfl) rfl (by show 2 * 0 + _ ≤ _; exact Nat.le_of_eq rfl) (hb hby at_146) (fun _ _ => ⟨rfl, e_544, (by decide : 1 + 0 ≤ _), (by decide : 16 + 0 ≤ _)⟩)
    dsimp only [Pt.U, Pt.locs, Pt.cells, Pt.slots] at X_545 l_545 y_545 z_545 st_545 hQ_545
    have X_545 := own_cast X_545 l_545 y_545 z_545
    obtain ⟨x_546, rfl, N_547, K_548, g_549, g_550, g_551⟩ := hQ_545
    have N_552 := Fr.app N_543 N_547
    have CH_553 : CHv Z consts_1 s.vm T_545.heap := CHv.keep K_548 (sfS (Safe.arv hZ.alike g_529 (by decide)) sf0) CH_533
    have CR_554 : CHr Z consts_1 s.vm h0 s.vm T_545.heap := CR_534.trans (CHr.keep K_548 (sfS (Safe.arv hZ.alike g_529 (by decide)) sf0) CH_533)
    have O_555 : Old Z n0 T_545.heap := (O_536.keep K_548 (allS (Nat.le_trans (own_n0 X00) (Nat.le_of_eq g_378.symm)) all0))
    obtain ⟨_, _, ⟨T_556, L_556, k_556, n_556⟩, -, X_556, ⟨Lc_556, hQ_556, l_556, y_556, z_556⟩, st_556⟩ := Jvm.LawKit.callS X_545 hx (y := M216) hown (mvT hZ (w2 hw)) (mvT hZ (w3 hw)) (mvT hZ (w4 hw)) (mvT hZ (w5 hw)) (by decide) (backOf (W := 2) (rm_chc l Z a0 hw [] G1 G3 HG T_545.heap n0 O_555 p2 (1 : Int32) p3 (9 : Int32) ) hZ (w5 hw) (w4 hw) (by decide) (by decide)) (g := (mkF m 159 #[.val (.int p0), .val (.long p1), .second, .val (.long p2), .second, .val (.int p3), .val (.int (own_len p0)), .val (.ref a_377), .unset, .unset, .unset] [(.int (9 : Int32)), (.int p3), (.int (1 : Int32)), (.long p2), (.int (9 : Int32)), (.ref a_377)])) rfl (by rw [hml]; rfl) (argsL := [(.long p2), (.int (1 : Int32)), (.int p3), (.int (9 : Int32))]) (rest := [(.int (9 : Int32)), (.ref a_377)]) (lenOf pd_502 rfl) rfl (by show 2 * 0 + _ ≤ _; exact Nat.le_of_eq rfl) (hb hby at_159) (fun _ _ => ⟨rfl, rfl, (by decide : 1 + 0 ≤ _), (by decide : 16 + 0 ≤ _)⟩)
    dsimp only [Pt.U, Pt.locs, Pt.cells, Pt.slots] at X_556 l_556 y_556 z_556 st_556 hQ_556
    have X_556 := own_cast X_556 l_556 y_556 z_556
    obtain ⟨i_557, rfl, N_558, e_559, g_560, g_561⟩ := hQ_556
    have N_562 := Fr.app N_552 N_558
    have e_563 : T_556.heap = T_545.heap := e_559
    obtain ⟨_, _, ⟨T_564, L_564, k_564, n_564⟩, -, X_564, ⟨Lc_564, hQ_564, l_564, y_564, z_564⟩, st_564⟩ := Jvm.LawKit.callS X_556 hx (y := M244) hown (mvT hZ (w7 hw)) (mvT hZ (w8 hw)) (mvT hZ (w4 hw)) (mvT hZ (w9 hw)) (by decide) (backOf (W := 0) (rm_put l Z a0 hw [] G1 G3 HG T_545.heap n0 O_555 a_377 k_371 (own_len p0) x_546 (9 : Int32) i_557 g_549 g_550 g_551 (by decide) g_560 g_561 (Nat.le_trans (own_n0 X00) (Nat.le_of_eq g_378.symm))) hZ (w9 hw) (w4 hw) (by decide) (by decide)) (g := (mkF m 162 #[.val (.int p0), .val (.long p1), .second, .val (.long p2), .second, .val (.int p3), .val (.int (own_len p0)), .val (.ref a_377), .unset, .unset, .unset] [(.int i_557), (.int (9 : Int32)), (.ref a_377)])) rfl (by rw [hml]; rfl) (argsL := [(.ref a_377), (.int (9 : Int32)), (.int i_557)]) (rest := []) (lenOf pd_506 rfl) rfl (by show 2 * 0 + _ ≤ _; exact Nat.le_of_eq rfl) (hb hby at_162) (fun _ _ => ⟨rfl, e_563, (by decide : 1 + 0 ≤ _), (by decide : 16 + 0 ≤ _)⟩)
    dsimp only [Pt.U, Pt.locs, Pt.cells, Pt.slots] at X_564 l_564 y_564 z_564 st_564 hQ_564
    have X_564 := own_cast X_564 l_564 y_564 z_564
    obtain ⟨x_565, rfl, N_566, K_567, g_568, g_569, g_570⟩ := hQ_564
    have N_571 := Fr.app N_562 N_566
    have CH_572 : CHv Z consts_1 s.vm T_564.heap := CHv.keep K_567 (sfS (Safe.arv hZ.alike g_549 (by decide)) sf0) CH_553
    have CR_573 : CHr Z consts_1 s.vm h0 s.vm T_564.heap := CR_554.trans (CHr.keep K_567 (sfS (Safe.arv hZ.alike g_549 (by decide)) sf0) CH_553)
    have O_574 : Old Z n0 T_564.heap := (O_555.keep K_567 (allS (Nat.le_trans (own_n0 X00) (Nat.le_of_eq g_378.symm)) all0))
    obtain ⟨_, _, ⟨T_575, L_575, k_575, n_575⟩, -, X_575, ⟨Lc_575, hQ_575, l_575, y_575, z_575⟩, st_575⟩ := Jvm.LawKit.callS X_564 hx (y := M216) hown (mvT hZ (w2 hw)) (mvT hZ (w3 hw)) (mvT hZ (w4 hw)) (mvT hZ (w5 hw)) (by decide) (backOf (W := 2) (rm_chc l Z a0 hw [] G1 G3 HG T_564.heap n0 O_574 p2 (2 : Int32) p3 (10 : Int32) ) hZ (w5 hw) (w4 hw) (by decide) (by decide)) (g := (mkF m 175 #[.val (.int p0), .val (.long p1), .second, .val (.long p2), .second, .val (.int p3), .val (.int (own_len p0)), .val (.ref a_377), .unset, .unset, .unset] [(.int (10 : Int32)), (.int p3), (.int (2 : Int32)), (.long p2), (.int (10 : Int32)), (.ref a_377)])) rfl (by rw [hml]; rfl) (argsL := [(.long p2), (.int (2 : Int32)), (.int p3), (.int (10 : Int32))]) (rest := [(.int (10 : Int32)), (.ref a_377)]) (lenOf pd_502 rfl) rfl (by show 2 * 0 + _ ≤ _; exact Nat.le_of_eq rfl) (hb hby at_175) (fun _ _ => ⟨rfl, rfl, (by decide : 1 + 0 ≤ _), (by decide : 16 + 0 ≤ _)⟩)
    dsimp only [Pt.U, Pt.locs, Pt.cells, Pt.slots] at X_575 l_575 y_575 z_575 st_575 hQ_575
    have X_575 := own_cast X_575 l_575 y_575 z_575
    obtain ⟨i_576, rfl, N_577, e_578, g_579, g_580⟩ := hQ_575
    have N_581 := Fr.app N_571 N_577
    have e_582 : T_575.heap = T_564.heap := e_578
    obtain ⟨_, _, ⟨T_583, L_583, k_583, n_583⟩, -, X_583, ⟨Lc_583, hQ_583, l_583, y_583, z_583⟩, st_583⟩ := Jvm.LawKit.callS X_575 hx (y := M244) hown (mvT hZ (w7 hw)) (mvT hZ (w8 hw)) (mvT hZ (w4 hw)) (mvT hZ (w9 hw)) (by decide) (backOf (W := 0) (rm_put l Z a0 hw [] G1 G3 HG T_564.heap n0 O_574 a_377 k_371 (own_len p0) x_565 (10 : Int32) i_576 g_568 g_569 g_570 (by decide) g_579 g_580 (Nat.le_trans (own_n0 X00) (Nat.le_of_eq g_378.symm))) hZ (w9 hw) (w4 hw) (by decide) (by decide)) (g := (mkF m 178 #[.val (.int p0), .val (.long p1), .second, .val (.long p2), .second, .val (.int p3), .val (.int (own_len p0)), .val (.ref a_377), .unset, .unset, .unset] [(.int i_576), (.int (10 : Int32)), (.ref a_377)])) rfl (by rw [hml]; rfl) (argsL := [(.ref a_377), (.int (10 : Int32)), (.int i_576)]) (rest := []) (lenOf pd_506 rfl) rfl (by show 2 * 0 + _ ≤ _; exact Nat.le_of_eq rfl) (hb hby at_178) (fun _ _ => ⟨rfl, e_582, (by decide : 1 + 0 ≤ _), (by decide : 16 + 0 ≤ _)⟩)
    dsimp only [Pt.U, Pt.locs, Pt.cells, Pt.slots] at X_583 l_583 y_583 z_583 st_583 hQ_583
    have X_583 := own_cast X_583 l_583 y_583 z_583
    obtain ⟨x_584, rfl, N_585, K_586, g_587, g_588, g_589⟩ := hQ_583
    have N_590 := Fr.app N_581 N_585
    have CH_591 : CHv Z consts_1 s.vm T_583.heap := CHv.keep K_586 (sfS (Safe.arv hZ.alike g_568 (by decide)) sf0) CH_572
    have CR_592 : CHr Z consts_1 s.vm h0 s.vm T_583.heap := CR_573.trans (CHr.keep K_586 (sfS (Safe.arv hZ.alike g_568 (by decide)) sf0) CH_572)
    have O_593 : Old Z n0 T_583.heap := (O_574.keep K_586 (allS (Nat.le_trans (own_n0 X00) (Nat.le_of_eq g_378.symm)) all0))
    obtain ⟨_, _, ⟨T_594, L_594, k_594, n_594⟩, -, X_594, ⟨Lc_594, hQ_594, l_594, y_594, z_594⟩, st_594⟩ := Jvm.LawKit.callS X_583 hx (y := M216) hown (mvT hZ (w2 hw)) (mvT hZ (w3 hw)) (mvT hZ (w4 hw)) (mvT hZ (w5 hw)) (by decide) (backOf (W := 2) (rm_chc l Z a0 hw [] G1 G3 HG T_583.heap n0 O_593 p2 (3 : Int32) p3 (11 : Int32) ) hZ (w5 hw) (w4 hw) (by decide) (by decide)) (g := (mkF m 191 #[.val (.int p0), .val (.long p1), .second, .val (.long p2), .second, .val (.int p3), .val (.int (own_len p0)), .val (.ref a_377), .unset, .unset, .unset] [(.int (11 : Int32)), (.int p3), (.int (3 : Int32)), (.long p2), (.int (11 : Int32)), (.ref a_377)])) rfl (by rw [hml]; rfl) (argsL := [(.long p2), (.int (3 : Int32)), (.int p3), (.int (11 : Int32))]) (rest := [(.int (11 : Int32)), (.ref a_377)]) (lenOf pd_502 rfl) rfl (by show 2 * 0 + _ ≤ _; exact Nat.le_of_eq rfl) (hb hby at_191) (fun _ _ => ⟨rfl, rfl, (by decide : 1 + 0 ≤ _), (by decide : 16 + 0 ≤ _)⟩)
    dsimp only [Pt.U, Pt.locs, Pt.cells, Pt.slots] at X_594 l_594 y_594 z_594 st_594 hQ_594
    have X_594 := own_cast X_594 l_594 y_594 z_594
    obtain ⟨i_595, rfl, N_596, e_597, g_598, g_599⟩ := hQ_594
    have N_600 := Fr.app N_590 N_596
    have e_601 : T_594.heap = T_583.heap := e_597
    obtain ⟨_, _, ⟨T_602, L_602, k_602, n_602⟩, -, X_602, ⟨Lc_602, hQ_602, l_602, y_602, z_602⟩, st_602⟩ := Jvm.LawKit.callS X_594 hx (y := M244) hown (mvT hZ (w7 hw)) (mvT hZ (w8 hw)) (mvT hZ (w4 hw)) (mvT hZ (w9 hw)) (by decide) (backOf (W := 0) (rm_put l Z a0 hw [] G1 G3 HG T_583.heap n0 O_593 a_377 k_371 (own_len p0) x_584 (11 : Int32) i_595 g_587 g_588 g_589 (by decide) g_598 g_599 (Nat.le_trans (own_n0 X00) (Nat.le_of_eq g_378.symm))) hZ (w9 hw) (w4 hw) (by decide) (by decide)) (g := (mkF m 194 #[.val (.int p0), .val (.long p1), .second, .val (.long p2), .second, .val (.int p3), .val (.int (own_len p0)), .val (.ref a_377), .unset, .unset, .unset] [(.int i_595), (.int (11 : Int32)), (.ref a_377)])) rfl (by rw [hml]; rfl) (argsL := [(.ref a_377), (.int (11 : Int32)), (.int i_595)]) (rest := []) (lenOf pd_506 rfl) rfl (by show 2 * 0 + _ ≤ _; exact Nat.le_of_eq rfl) (hb hby at_194) (fun _ _ => ⟨rfl, e_601, (by decide : 1 + 0 ≤ _), (by decide : 16 + 0 ≤ _)⟩)
    dsimp only [Pt.U, Pt.locs, Pt.cells, Pt.slots] at X_602 l_602 y_602 z_602 st_602 hQ_602
    have X_602 := own_cast X_602 l_602 y_602 z_602
    obtain ⟨x_603, rfl, N_604, K_605, g_606, g_607, g_608⟩ := hQ_602
    have N_609 := Fr.app N_600 N_604
    have CH_610 : CHv Z consts_1 s.vm T_602.heap := CHv.keep K_605 (sfS (Safe.arv hZ.alike g_587 (by decide)) sf0) CH_591
    have CR_611 : CHr Z consts_1 s.vm h0 s.vm T_602.heap := CR_592.trans (CHr.keep K_605 (sfS (Safe.arv hZ.alike g_587 (by decide)) sf0) CH_591)
    have O_612 : Old Z n0 T_602.heap := (O_593.keep K_605 (allS (Nat.le_trans (own_n0 X00) (Nat.le_of_eq g_378.symm)) all0))
    obtain ⟨_, _, ⟨T_613, L_613, k_613, n_613⟩, -, X_613, ⟨Lc_613, hQ_613, l_613, y_613, z_613⟩, st_613⟩ := Jvm.LawKit.callS X_602 hx (y := M216) hown (mvT hZ (w2 hw)) (mvT hZ (w3 hw)) (mvT hZ (w4 hw)) (mvT hZ (w5 hw)) (by decide) (backOf (W := 2) (rm_chc l Z a0 hw [] G1 G3 HG T_602.heap n0 O_612 p2 (4 : Int32) p3 (12 : Int32) ) hZ (w5 hw) (w4 hw) (by decide) (by decide)) (g := (mkF m 207 #[.val (.int p0), .val (.long p1), .second, .val (.long p2), .second, .val (.int p3), .val (.int (own_len p0)), .val (.ref a_377), .unset, .unset, .unset] [(.int (12 : Int32)), (.int p3), (.int (4 : Int32)), (.long p2), (.int (12 : Int32)), (.ref a_377)])) rfl (by rw [hml]; rfl) (argsL := [(.long p2), (.int (4 : Int32)), (.int p3), (.int (12 : Int32))]) (rest := [(.int (12 : Int32)), (.ref a_377)]) (lenOf pd_502 rfl) rfl (by show 2 * 0 + _ ≤ _; exact Nat.le_of_eq rfl) (hb hby at_207) (fun _ _ => ⟨rfl, rfl, (by decide : 1 + 0 ≤ _), (by decide : 16 + 0 ≤ _)⟩)
    dsimp only [Pt.U, Pt.locs, Pt.cells, Pt.slots] at X_613 l_613 y_613 z_613 st_613 hQ_613
    have X_613 := own_cast X_613 l_613 y_613 z_613
    obtain ⟨i_614, rfl, N_615, e_616, g_617, g_618⟩ := hQ_613
    have N_619 := Fr.app N_609 N_615
    have e_620 : T_613.heap = T_602.heap := e_616
    obtain ⟨_, _, ⟨T_621, L_621, k_621, n_621⟩, -, X_621, ⟨Lc_621, hQ_621, l_621, y_621, z_621⟩, st_621⟩ := Jvm.LawKit.callS X_613 hx (y := M244) hown (mvT hZ (w7 hw)) (mvT hZ (w8 hw)) (mvT hZ (w4 hw)) (mvT hZ (w9 hw)) (by decide) (backOf (W := 0) (rm_put l Z a0 hw [] G1 G3 HG T_602.heap n0 O_612 a_377 k_371 (own_len p0) x_603 (12 : Int32) i_614 g_606 g_607 g_608 (by decide) g_617 g_618 (Nat.le_trans (own_n0 X00) (Nat.le_of_eq g_378.symm))) hZ (w9 hw) (w4 hw) (by decide) (by decide)) (g := (mkF m 210 #[.val (.int p0), .val (.long p1), .second, .val (.long p2), .second, .val (.int p3), .val (.int (own_len p0)), .val (.ref a_377), .unset, .unset, .unset] [(.int i_614), (.int (12 : Int32)), (.ref a_377)])) rfl (by rw [hml]; rfl) (argsL := [(.ref a_377), (.int (12 : Int32)), (.int i_614)]) (rest := []) (lenOf pd_506 rfl) rfl (by show 2 * 0 + _ ≤ _; exact Nat.le_of_eq rfl) (hb hby at_210) (fun _ _ => ⟨rfl, e_620, (by decide : 1 + 0 ≤ _), (by decide : 16 + 0 ≤ _)⟩)
    dsimp only [Pt.U, Pt.locs, Pt.cells, Pt.slots] at X_621 l_621 y_621 z_621 st_621 hQ_621
    have X_621 := own_cast X_621 l_621 y_621 z_621
    obtain ⟨x_622, rfl, N_623, K_624, g_625, g_626, g_627⟩ := hQ_621
    have N_628 := Fr.app N_619 N_623
    have CH_629 : CHv Z consts_1 s.vm T_621.heap := CHv.keep K_624 (sfS (Safe.arv hZ.alike g_606 (by decide)) sf0) CH_610
    have CR_630 : CHr Z consts_1 s.vm h0 s.vm T_621.heap := CR_611.trans (CHr.keep K_624 (sfS (Safe.arv hZ.alike g_606 (by decide)) sf0) CH_610)
    have C_631 : Steps p.tables e below S0 (T_621.setTop (mkF m 213 #[.val (.int p0), .val (.long p1), .second, .val (.long p2), .second, .val (.int p3), .val (.int (own_len p0)), .val (.ref a_377), .unset, .unset, .unset] [])) := by
      refine C_535.trans ?_
      refine XS.iload X_525.here hx rfl (hb hby at_139) rfl ?_
      refine XS.bipush X_525.here hx rfl (hb hby at_141) ?_
      refine st_537 _ ?_
      refine st_545 _ ?_
      refine XS.aload X_545.here hx rfl (hb hby at_149) rfl rfl ?_
      refine XS.bipush X_545.here hx rfl (hb hby at_151) ?_
      refine XS.lloadN X_545.here hx rfl (hb hby at_153) rfl ?_
      refine XS.iconst X_545.here hx rfl (hb hby at_154) ?_
      show Steps p.tables e below (T_545.setTop (mkF m 155 #[.val (.int p0), .val (.long p1), .second, .val (.long p2), .second, .val (.int p3), .val (.int (own_len p0)), .val (.ref a_377), .unset, .unset, .unset] [(.int (1 : Int32)), (.long p2), (.int (9 : Int32)), (.ref a_377)])) _
      refine XS.iload X_545.here hx rfl (hb hby at_155) rfl ?_
      refine XS.bipush X_545.here hx rfl (hb hby at_157) ?_
      refine st_556 _ ?_
      refine st_564 _ ?_
      refine XS.aload X_564.here hx rfl (hb hby at_165) rfl rfl ?_
      refine XS.bipush X_564.here hx rfl (hb hby at_167) ?_
      refine XS.lloadN X_564.here hx rfl (hb hby at_169) rfl ?_
      refine XS.iconst X_564.here hx rfl (hb hby at_170) ?_
      show Steps p.tables e below (T_564.setTop (mkF m 171 #[.val (.int p0), .val (.long p1), .second, .val (.long p2), .second, .val (.int p3), .val (.int (own_len p0)), .val (.ref a_377), .unset, .unset, .unset] [(.int (2 : Int32)), (.long p2), (.int (10 : Int32)), (.ref a_377)])) _
      refine XS.iload X_564.here hx rfl (hb hby at_171) rfl ?_
      refine XS.bipush X_564.here hx rfl (hb hby at_173) ?_
      refine st_575 _ ?_
      refine st_583 _ ?_
      refine XS.aload X_583.here hx rfl (hb hby at_181) rfl rfl ?_
      refine XS.bipush X_583.here hx rfl (hb hby at_183) ?_
      refine XS.lloadN X_583.here hx rfl (hb hby at_185) rfl ?_
      refine XS.iconst X_583.here hx rfl (hb hby at_186) ?_
      show Steps p.tables e below (T_583.setTop (mkF m 187 #[.val (.int p0), .val (.long p1), .second, .val (.long p2), .second, .val (.int p3), .val (.int (own_len p0)), .val (.ref a_377), .unset, .unset, .unset] [(.int (3 : Int32)), (.long p2), (.int (11 : Int32)), (.ref a_377)])) _
      refine XS.iload X_583.here hx rfl (hb hby at_187) rfl ?_
      refine XS.bipush X_583.here hx rfl (hb hby at_189) ?_
      refine st_594 _ ?_
      refine st_602 _ ?_
      refine XS.aload X_602.here hx rfl (hb hby at_197) rfl rfl ?_
      refine XS.bipush X_602.here hx rfl (hb hby at_199) ?_
      refine XS.lloadN X_602.here hx rfl (hb hby at_201) rfl ?_
      refine XS.iconst X_602.here hx rfl (hb hby at_202) ?_
      show Steps p.tables e below (T_602.setTop (mkF m 203 #[.val (.int p0), .val (.long p1), .second, .val (.long p2), .second, .val (.int p3), .val (.int (own_len p0)), .val (.ref a_377), .unset, .unset, .unset] [(.int (4 : Int32)), (.long p2), (.int (12 : Int32)), (.ref a_377)])) _
      refine XS.iload X_602.here hx rfl (hb hby at_203) rfl ?_
      refine XS.bipush X_602.here hx rfl (hb hby at_205) ?_
      refine st_613 _ ?_
      refine st_621 _ ?_
      exact Steps.refl _
    have O_632 : Old Z n0 T_621.heap := (O_612.keep K_624 (allS (Nat.le_trans (own_n0 X00) (Nat.le_of_eq g_378.symm)) all0))
    obtain ⟨_, _, ⟨T_633, L_633, k_633, n_633⟩, -, X_633, ⟨Lc_633, hQ_633, l_633, y_633, z_633⟩, st_633⟩ := Jvm.LawKit.callS X_621 hx (y := M216) hown (mvT hZ (w2 hw)) (mvT hZ (w3 hw)) (mvT hZ (w4 hw)) (mvT hZ (w5 hw)) (by decide) (backOf (W := 2) (rm_chc l Z a0 hw [] G1 G3 HG T_621.heap n0 O_632 p2 (5 : Int32) p3 (13 : Int32) ) hZ (w5 hw) (w4 hw) (by decide) (by decide)) (g := (mkF m 223 #[.val (.int p0), .val (.long p1), .second, .val (.long p2), .second, .val (.int p3), .val (.int (own_len p0)), .val (.ref a_377), .unset, .unset, .unset] [(.int (13 : Int32)), (.int p3), (.int (5 : Int32)), (.long p2), (.int (13 : Int32)), (.ref a_377)])) rfl (by rw [hml]; rfl) (argsL := [(.long p2), (.int (5 : Int32)), (.int p3), (.int (13 : Int32))]) (rest := [(.int (13 : Int32)), (.ref a_377)]) (lenOf pd_502 rfl) rfl (by show 2 * 0 + _ ≤ _; exact Nat.le_of_eq rfl) (hb hby at_223) (fun _ _ => ⟨rfl, rfl, (by decide : 1 + 0 ≤ _), (by decide : 16 + 0 ≤ _)⟩)
    dsimp only [Pt.U, Pt.locs, Pt.cells, Pt.slots] at X_633 l_633 y_633 z_633 st_633 hQ_633
    have X_633 := own_cast X_633 l_633 y_633 z_633
    obtain ⟨i_634, rfl, N_635, e_636, g_637, g_638⟩ := hQ_633
    have N_639 := Fr.app N_628 N_635
    have e_640 : T_633.heap = T_621.heap := e_636
    obtain ⟨_, _, ⟨T_641, L_641, k_641, n_641⟩, -, X_641, ⟨Lc_641, hQ_641, l_641, y_641, z_641⟩, st_641⟩ := Jvm.LawKit.callS X_633 hx (y := M244) hown (mvT hZ (w7 hw)) (mvT hZ (w8 hw)) (mvT hZ (w4 hw)) (mvT hZ (w9 hw)) (by decide) (backOf (W := 0) (rm_put l Z a0 hw [] G1 G3 HG T_621.heap n0 O_632 a_377 k_371 (own_len p0) x_622 (13 : Int32) i_634 g_625 g_626 g_627 (by decide) g_637 g_638 (Nat.le_trans (own_n0 X00) (Nat.le_of_eq g_378.symm))) hZ (w9 hw) (w4 hw) (by decide) (by decide)) (g := (mkF m 226 #[.val (.int p0), .val (.long p1), .second, .val (.long p2), .second, .val (.int p3), .val (.int (own_len p0)), .val (.ref a_377), .unset, .unset, .unset] [(.int i_634), (.int (13 : Int32)), (.ref a_377)])) rfl (by rw [hml]; rfl) (argsL := [(.ref a_377), (.int (13 : Int32)), (.int i_634)]) (rest := []) (lenOf pd_506 rfl) rfl (by show 2 * 0 + _ ≤ _; exact Nat.le_of_eq rfl) (hb hby at_226) (fun _ _ => ⟨rfl, e_640, (by decide : 1 + 0 ≤ _), (by decide : 16 + 0 ≤ _)⟩)
    dsimp only [Pt.U, Pt.locs, Pt.cells, Pt.slots] at X_641 l_641 y_641 z_641 st_641 hQ_641
    have X_641 := own_cast X_641 l_641 y_641 z_641
    obtain ⟨x_642, rfl, N_643, K_644, g_645, g_646, g_647⟩ := hQ_641
    have N_648 := Fr.app N_639 N_643
    have CH_649 : CHv Z consts_1 s.vm T_641.heap := CHv.keep K_644 (sfS (Safe.arv hZ.alike g_625 (by decide)) sf0) CH_629
    have CR_650 : CHr Z consts_1 s.vm h0 s.vm T_641.heap := CR_630.trans (CHr.keep K_644 (sfS (Safe.arv hZ.alike g_625 (by decide)) sf0) CH_629)
    have O_651 : Old Z n0 T_641.heap := (O_632.keep K_644 (allS (Nat.le_trans (own_n0 X00) (Nat.le_of_eq g_378.symm)) all0))
    obtain ⟨_, _, ⟨T_652, L_652, k_652, n_652⟩, -, X_652, ⟨Lc_652, hQ_652, l_652, y_652, z_652⟩, st_652⟩ := Jvm.LawKit.callS X_641 hx (y := M216) hown (mvT hZ (w2 hw)) (mvT hZ (w3 hw)) (mvT hZ (w4 hw)) (mvT hZ (w5 hw)) (by decide) (backOf (W := 2) (rm_chc l Z a0 hw [] G1 G3 HG T_641.heap n0 O_651 p2 (6 : Int32) p3 (14 : Int32) ) hZ (w5 hw) (w4 hw) (by decide) (by decide)) (g := (mkF m 240 #[.val (.int p0), .val (.long p1), .second, .val (.long p2), .second, .val (.int p3), .val (.int (own_len p0)), .val (.ref a_377), .unset, .unset, .unset] [(.int (14 : Int32)), (.int p3), (.int (6 : Int32)), (.long p2), (.int (14 : Int32)), (.ref a_377)])) rfl (by rw [hml]; rfl) (argsL := [(.long p2), (.int (6 : Int32)), (.int p3), (.int (14 : Int32))]) (rest := [(.int (14 : Int32)), (.ref a_377)]) (lenOf pd_502 rfl) rfl (by show 2 * 0 + _ ≤ _; exact Nat.le_of_eq rfl) (hb hby at_240) (fun _ _ => ⟨rfl, rfl, (by decide : 1 + 0 ≤ _), (by decide : 16 + 0 ≤ _)⟩)
    dsimp only [Pt.U, Pt.locs, Pt.cells, Pt.slots] at X_652 l_652 y_652 z_652 st_652 hQ_652
    have X_652 := own_cast X_652 l_652 y_652 z_652
    obtain ⟨i_653, rfl, N_654, e_655, g_656, g_657⟩ := hQ_652
    have N_658 := Fr.app N_648 N_654
    have e_659 : T_652.heap = T_641.heap := e_655
    obtain ⟨_, _, ⟨T_660, L_660, k_660, n_660⟩, -, X_660, ⟨Lc_660, hQ_660, l_660, y_660, z_660⟩, st_660⟩ := Jvm.LawKit.callS X_652 hx (y := M244) hown (mvT hZ (w7 hw)) (mvT hZ (w8 hw)) (mvT hZ (w4 hw)) (mvT hZ (w9 hw)) (by decide) (backOf (W := 0) (rm_put l Z a0 hw [] G1 G3 HG T_641.heap n0 O_651 a_377 k_371 (own_len p0) x_642 (14 : Int32) i_653 g_645 g_646 g_647 (by decide) g_656 g_657 (Nat.le_trans (own_n0 X00) (Nat.le_of_eq g_378.symm))) hZ (w9 hw) (w4 hw) (by decide) (by decide)) (g := (mkF m 243 #[.val (.int p0), .val (.long p1), .second, .val (.long p2), .second, .val (.int p3), .val (.int (own_len p0)), .val (.ref a_377), .unset, .unset, .unset] [(.int i_653), (.int (14 : Int32)), (.ref a_377)])) rfl (by rw [hml]; rfl) (argsL := [(.ref a_377), (.int (14 : Int32)), (.int i_653)]) (rest := []) (lenOf pd_506 rfl) rfl (by show 2 * 0 + _ ≤ _; exact Nat.le_of_eq rfl) (hb hby at_243) (fun _ _ => ⟨rfl, e_659, (by decide : 1 + 0 ≤ _), (by decide : 16 + 0 ≤ _)⟩)
    dsimp only [Pt.U, Pt.locs, Pt.cells, Pt.slots] at X_660 l_660 y_660 z_660 st_660 hQ_660
    have X_660 := own_cast X_660 l_660 y_660 z_660
    obtain ⟨x_661, rfl, N_662, K_663, g_664, g_665, g_666⟩ := hQ_660
    have N_667 := Fr.app N_658 N_662
    have CH_668 : CHv Z consts_1 s.vm T_660.heap := CHv.keep K_663 (sfS (Safe.arv hZ.alike g_645 (by decide)) sf0) CH_649
    have CR_669 : CHr Z consts_1 s.vm h0 s.vm T_660.heap := CR_650.trans (CHr.keep K_663 (sfS (Safe.arv hZ.alike g_645 (by decide)) sf0) CH_649)
    have O_670 : Old Z n0 T_660.heap := (O_651.keep K_663 (allS (Nat.le_trans (own_n0 X00) (Nat.le_of_eq g_378.symm)) all0))
    obtain ⟨_, _, ⟨T_671, L_671, k_671, n_671⟩, -, X_671, ⟨Lc_671, hQ_671, l_671, y_671, z_671⟩, st_671⟩ := Jvm.LawKit.callS X_660 hx (y := M216) hown (mvT hZ (w2 hw)) (mvT hZ (w3 hw)) (mvT hZ (w4 hw)) (mvT hZ (w5 hw)) (by decide) (backOf (W := 2) (rm_chc l Z a0 hw [] G1 G3 HG T_660.heap n0 O_670 p2 (7 : Int32) p3 (15 : Int32) ) hZ (w5 hw) (w4 hw) (by decide) (by decide)) (g := (mkF m 257 #[.val (.int p0), .val (.long p1), .second, .val (.long p2), .second, .val (.int p3), .val (.int (own_len p0)), .val (.ref a_377), .unset, .unset, .unset] [(.int (15 : Int32)), (.int p3), (.int (7 : Int32)), (.long p2), (.int (15 : Int32)), (.ref a_377)])) rfl (by rw [hml]; rfl) (argsL := [(.long p2), (.int (7 : Int32)), (.int p3), (.int (15 : Int32))]) (rest := [(.int (15 : Int32)), (.ref a_377)]) (lenOf pd_502 rfl) rfl (by show 2 * 0 + _ ≤ _; exact Nat.le_of_eq rfl) (hb hby at_257) (fun _ _ => ⟨rfl, rfl, (by decide : 1 + 0 ≤ _), (by decide : 16 + 0 ≤ _)⟩)
    dsimp only [Pt.U, Pt.locs, Pt.cells, Pt.slots] at X_671 l_671 y_671 z_671 st_671 hQ_671
    have X_671 := own_cast X_671 l_671 y_671 z_671
    obtain ⟨i_672, rfl, N_673, e_674, g_675, g_676⟩ := hQ_671
    have N_677 := Fr.app N_667 N_673
    have e_678 : T_671.heap = T_660.heap := e_674
    obtain ⟨_, _, ⟨T_679, L_679, k_679, n_679⟩, -, X_679, ⟨Lc_679, hQ_679, l_679, y_679, z_679⟩, st_679⟩ := Jvm.LawKit.callS X_671 hx (y := M244) hown (mvT hZ (w7 hw)) (mvT hZ (w8 hw)) (mvT hZ (w4 hw)) (mvT hZ (w9 hw)) (by decide) (backOf (W := 0) (rm_put l Z a0 hw [] G1 G3 HG T_660.heap n0 O_670 a_377 k_371 (own_len p0) x_661 (15 : Int32) i_672 g_664 g_665 g_666 (by decide) g_675 g_676 (Nat.le_trans (own_n0 X00) (Nat.le_of_eq g_378.symm))) hZ (w9 hw) (w4 hw) (by decide) (by decide)) (g := (mkF m 260 #[.val (.int p0), .val (.long p1), .second, .val (.long p2), .second, .val (.int p3), .val (.int (own_len p0)), .val (.ref a_377), .unset, .unset, .unset] [(.int i_672), (.int (15 : Int32)), (.ref a_377)])) rfl (by rw [hml]; rfl) (argsL := [(.ref a_377), (.int (15 : Int32)), (.int i_672)]) (rest := []) (lenOf pd_506 rfl) rfl (by show 2 * 0 + _ ≤ _; exact Nat.le_of_eq rfl) (hb hby at_260) (fun _ _ => ⟨rfl, e_678, (by decide : 1 + 0 ≤ _), (by decide : 16 + 0 ≤ _)⟩)
    dsimp only [Pt.U, Pt.locs, Pt.cells, Pt.slots] at X_679 l_679 y_679 z_679 st_679 hQ_679
    have X_679 := own_cast X_679 l_679 y_679 z_679
    obtain ⟨x_680, rfl, N_681, K_682, g_683, g_684, g_685⟩ := hQ_679
    have N_686 := Fr.app N_677 N_681
    have CH_687 : CHv Z consts_1 s.vm T_679.heap := CHv.keep K_682 (sfS (Safe.arv hZ.alike g_664 (by decide)) sf0) CH_668
    have CR_688 : CHr Z consts_1 s.vm h0 s.vm T_679.heap := CR_669.trans (CHr.keep K_682 (sfS (Safe.arv hZ.alike g_664 (by decide)) sf0) CH_668)
    obtain ⟨T_689, h_690, X_691, e_692, E_693, A_694, D_695, U_699, st_696⟩ := newO X_679 hx hZ hown (w10 hw) (w11 hw) (w12 hw) rfl (g := (mkF m 263 #[.val (.int p0), .val (.long p1), .second, .val (.long p2), .second, .val (.int p3), .val (.int (own_len p0)), .val (.ref a_377), .unset, .unset, .unset] [])) rfl (hb hby at_263) (by decide) (by decide)
    obtain ⟨a_697, g_698⟩ : ∃ z, z = T_679.heap.size := ⟨_, rfl⟩
    rw [← g_698] at A_694 D_695 st_696 U_699
    have CH_700 : CHv Z consts_1 s.vm h_690 := CHv.ext E_693 CH_687
    have CR_701 : CHr Z consts_1 s.vm h0 s.vm h_690 := CR_688.trans (CHr.ext E_693 CH_687)
    have O_702 : Old Z n0 T_679.heap := (O_670.keep K_682 (allS (Nat.le_trans (own_n0 X00) (Nat.le_of_eq g_378.symm)) all0))
    have V_703 : Arv Z h_690 a_377 k_371 .char (own_len p0) (own_iv x_680) (.int (0 : Int32)) := (g_683.ext E_693)
    have O_704 : Old Z n0 h_690 := (O_702.ext E_693)
    obtain ⟨_, _, ⟨T_705, L_705, k_705, n_705⟩, -, X_705, ⟨Lc_705, hQ_705, l_705, y_705, z_705⟩, st_705⟩ := X_691.specialBack hx (y := M99) rfl hown (mvT hZ (w13 hw)) (mvT hZ (w14 hw)) (mvT hZ (w15 hw)) (by decide) (backOf (W := 1) (rm_si1s l Z a0 hw [] G1 G3 HG h_690 n0 O_704 a_697 a_377 k_371 (own_len p0) x_680 A_694 (D_695 (Or.inr (w25 hw)) (ty := (.array .byte)) (by decide)) (D_695 (Or.inr (w26 hw)) (ty := .byte) (by decide)) (Nat.le_trans (own_n0 O_702) (Nat.le_of_eq g_698.symm)) V_703 (own_len0 p0) hn_2 (own_lenc p0) g_684 g_685) hZ (w15 hw) (w12 hw) (by decide) (by decide)) (g := (mkF m 269 #[.val (.int p0), .val (.long p1), .second, .val (.long p2), .second, .val (.int p3), .val (.int (own_len p0)), .val (.ref a_377), .unset, .unset, .unset] [(.ref a_377), (.ref a_697), (.ref a_697)])) rfl (by rw [hml]; rfl) (Steps.refl _) (a := a_697) (argsL := [(.ref a_377)]) (rest := [(.ref a_697)]) (lenOf pd_511 rfl) rfl (by show 2 * 0 + _ ≤ _; exact Nat.le_of_eq rfl) (hb hby at_269) (fun _ _ => ⟨rfl, e_692, (by decide : 2 + 1 ≤ _), (by decide : 20 + 16 ≤ _)⟩)
    dsimp only [Pt.U, Pt.locs, Pt.cells, Pt.slots] at X_705 l_705 y_705 z_705 st_705 hQ_705
    have X_705 := own_cast X_705 l_705 y_705 z_705
    obtain ⟨a_706, k_707, rfl, N_708, K_709, g_710, g_711, g_712, g_713, g_714⟩ := hQ_705
    have N_715 := Fr.app N_686 N_708
    have CH_716 : CHv Z consts_1 s.vm T_705.heap := CHv.keep K_709 (sfS (own_safe_null hZ.alike A_694 (D_695 (Or.inr (w25 hw)) (ty := (.array .byte)) (by decide))) sf0) CH_700
    have CR_717 : CHr Z consts_1 s.vm h0 s.vm T_705.heap := CR_701.trans (CHr.keep K_709 (sfS (own_safe_null hZ.alike A_694 (D_695 (Or.inr (w25 hw)) (ty := (.array .byte)) (by decide))) sf0) CH_700)
    have C_718 : Steps p.tables e below S0 (T_705.setTop (mkF m 274 #[.val (.int p0), .val (.long p1), .second, .val (.long p2), .second, .val (.int p3), .val (.int (own_len p0)), .val (.ref a_377), .val (.ref a_697), .unset, .unset] [])) := by
      refine C_631.trans ?_
      refine XS.aload X_621.here hx rfl (hb hby at_213) rfl rfl ?_
      refine XS.bipush X_621.here hx rfl (hb hby at_215) ?_
      refine XS.lloadN X_621.here hx rfl (hb hby at_217) rfl ?_
      refine XS.iconst X_621.here hx rfl (hb hby at_218) ?_
      refine XS.iload X_621.here hx rfl (hb hby at_219) rfl ?_
      refine XS.bipush X_621.here hx rfl (hb hby at_221) ?_
      refine st_633 _ ?_
      refine st_641 _ ?_
      show Steps p.tables e below (T_641.setTop (mkF m 229 #[.val (.int p0), .val (.long p1), .second, .val (.long p2), .second, .val (.int p3), .val (.int (own_len p0)), .val (.ref a_377), .unset, .unset, .unset] [])) _
      refine XS.aload X_641.here hx rfl (hb hby at_229) rfl rfl ?_
      refine XS.bipush X_641.here hx rfl (hb hby at_231) ?_
      refine XS.lloadN X_641.here hx rfl (hb hby at_233) rfl ?_
      refine XS.bipush X_641.here hx rfl (hb hby at_234) ?_
      refine XS.iload X_641.here hx rfl (hb hby at_236) rfl ?_
      refine XS.bipush X_641.here hx rfl (hb hby at_238) ?_
      refine st_652 _ ?_
      refine st_660 _ ?_
      show Steps p.tables e below (T_660.setTop (mkF m 246 #[.val (.int p0), .val (.long p1), .second, .val (.long p2), .second, .val (.int p3), .val (.int (own_len p0)), .val (.ref a_377), .unset, .unset, .unset] [])) _
      refine XS.aload X_660.here hx rfl (hb hby at_246) rfl rfl ?_
      refine XS.bipush X_660.here hx rfl (hb hby at_248) ?_
      refine XS.lloadN X_660.here hx rfl (hb hby at_250) rfl ?_
      refine XS.bipush X_660.here hx rfl (hb hby at_251) ?_
      refine XS.iload X_660.here hx rfl (hb hby at_253) rfl ?_
      refine XS.bipush X_660.here hx rfl (hb hby at_255) ?_
      refine st_671 _ ?_
      refine st_679 _ ?_
      show Steps p.tables e below (T_679.setTop (mkF m 263 #[.val (.int p0), .val (.long p1), .second, .val (.long p2), .second, .val (.int p3), .val (.int (own_len p0)), .val (.ref a_377), .unset, .unset, .unset] [])) _
      refine st_696 _ ?_
      refine XS.dup X_691.here hx rfl (hb hby at_266) rfl rfl ?_
      refine XS.aload X_691.here hx rfl (hb hby at_267) rfl rfl ?_
      refine st_705.trans ?_
      refine XS.astore X_705.here hx rfl (hb hby at_272) rfl rfl (l' := #[.val (.int p0), .val (.long p1), .second, .val (.long p2), .second, .val (.int p3), .val (.int (own_len p0)), .val (.ref a_377), .val (.ref a_697), .unset, .unset]) rfl ?_
      exact Steps.refl _
    have J_722 : ∃ (bb_719 : Int32) (T_720 : State) (L_721 : List Loc), Stand p l e room_1 (s.setVm s.vm) m #[(.int p0), (.long p1), (.long p2), (.int p3)] below meth c T_720 L_721 3 36 ∧ T_720.heap = T_705.heap ∧ Fr n0 L_721 ∧ T_705.heap = T_705.heap ∧ (bb_719 = own_b (own_anyd x_680)) ∧ Steps p.tables e below S0 (T_720.setTop (mkF m 433 #[.val (.int p0), .val (.long p1), .second, .val (.long p2), .second, .val (.int p3), .val (.int (own_len p0)), .val (.ref a_377), .val (.ref a_697), .unset, .unset] [(.int bb_719)])) := by
      have V_723 : Arv Z T_705.heap a_377 k_371 .char (own_len p0) (own_iv x_680) (.int (0 : Int32)) := (V_703.keep K_709 (ninS (Nat.ne_of_lt (Nat.lt_of_lt_of_le g_683.lt (Nat.le_trans (Nat.le_refl _) (Nat.le_of_eq g_698.symm)))) nin0))
      have O_724 : Old Z n0 T_705.heap := (O_704.keep K_709 (allS (Nat.le_trans (own_n0 O_702) (Nat.le_of_eq g_698.symm)) all0))
      obtain ⟨_, _, ⟨T_725, L_725, k_725, n_725⟩, -, X_725, ⟨Lc_725, hQ_725, l_725, y_725, z_725⟩, st_725⟩ := Jvm.LawKit.callS X_705 hx (y := M346) hown (mvT hZ (w31 hw)) (mvT hZ (w32 hw)) (mvT hZ (w4 hw)) (mvT hZ (w33 hw)) (by decide) (backOf (W := 0) (rm_dd_ l Z a0 hw [] G1 G3 HG T_705.heap n0 O_724 a_377 k_371 (own_len p0) x_680 (0 : Int32) V_723 g_684 g_685 (by decide)) hZ (w33 hw) (w4 hw) (by decide) (by decide)) (g := (mkF m 277 #[.val (.int p0), .val (.long p1), .second, .val (.long p2), .second, .val (.int p3), .val (.int (own_len p0)), .val (.ref a_377), .val (.ref a_697), .unset, .unset] [(.int (0 : Int32)), (.ref a_377)])) rfl (by rw [hml]; rfl) (argsL := [(.ref a_377), (.int (0 : Int32))]) (rest := []) (lenOf pd_364 rfl) rfl (by show 2 * 0 + _ ≤ _; exact Nat.le_of_eq rfl) (hb hby at_277) (fun _ _ => ⟨rfl, rfl, (by decide : 3 + 0 ≤ _), (by decide : 36 + 0 ≤ _)⟩)
      dsimp only [Pt.U, Pt.locs, Pt.cells, Pt.slots] at X_725 l_725 y_725 z_725 st_725 hQ_725
      have X_725 := own_cast X_725 l_725 y_725 z_725
      obtain ⟨i_726, rfl, N_727, e_728, g_729⟩ := hQ_725
      have N_730 := Fr.app N_715 N_727
      have e_731 : T_725.heap = T_705.heap := e_728
      have C_732 : Steps p.tables e below S0 (T_725.setTop (mkF m 280 #[.val (.int p0), .val (.long p1), .second, .val (.long p2), .second, .val (.int p3), .val (.int (own_len p0)), .val (.ref a_377), .val (.ref a_697), .unset, .unset] [(.int i_726)])) := by
        refine C_718.trans ?_
        refine XS.aload X_705.here hx rfl (hb hby at_274) rfl rfl ?_
        refine XS.iconst X_705.here hx rfl (hb hby at_276) ?_
        refine st_725 _ ?_
        exact Steps.refl _
      by_cases hc_733 : i_726 = (0 : Int32)
      · skip
        obtain ⟨_, _, ⟨T_734, L_734, k_734, n_734⟩, -, X_734, ⟨Lc_734, hQ_734, l_734, y_734, z_734⟩, st_734⟩ := Jvm.LawKit.callS X_725 hx (y := M346) hown (mvT hZ (w31 hw)) (mvT hZ (w32 hw)) (mvT hZ (w4 hw)) (mvT hZ (w33 hw)) (by decide) (backOf (W := 0) (rm_dd_ l Z a0 hw [] G1 G3 HG T_705.heap n0 O_724 a_377 k_371 (own_len p0) x_680 (1 : Int32) V_723 g_684 g_685 (by decide)) hZ (w33 hw) (w4 hw) (by decide) (by decide)) (g := (mkF m 286 #[.val (.int p0), .val (.long p1), .second, .val (.long p2), .second, .val (.int p3), .val (.int (own_len p0)), .val (.ref a_377), .val (.ref a_697), .unset, .unset] [(.int (1 : Int32)), (.ref a_377)])) rfl (by rw [hml]; rfl) (argsL := [(.ref a_377), (.int (1 : Int32))]) (rest := []) (lenOf pd_364 rfl) rfl (by show 2 * 0 + _ ≤ _; exact Nat.le_of_eq rfl) (hb hby at_286) (fun _ _ => ⟨rfl, e_731, (by decide : 3 + 0 ≤ _), (by decide : 36 + 0 ≤ _)⟩)
        dsimp only [Pt.U, Pt.locs, Pt.cells, Pt.slots] at X_734 l_734 y_734 z_734 st_734 hQ_734
        have X_734 := own_cast X_734 l_734 y_734 z_734
        obtain ⟨i_735, rfl, N_736, e_737, g_738⟩ := hQ_734
        have N_739 := Fr.app N_730 N_736
        have e_740 : T_734.heap = T_705.heap := e_737
        have C_741 : Steps p.tables e below S0 (T_734.setTop (mkF m 289 #[.val (.int p0), .val (.long p1), .second, .val (.long p2), .second, .val (.int p3), .val (.int (own_len p0)), .val (.ref a_377), .val (.ref a_697), .unset, .unset] [(.int i_735)])) := by
          refine C_732.trans ?_
          refine XS.ifNo X_725.here hx rfl (hb hby at_280) rfl (i0_ne_f hc_733) ?_
          refine XS.aload X_725.here hx rfl (hb hby at_283) rfl rfl ?_
          refine XS.iconst X_725.here hx rfl (hb hby at_285) ?_
          refine st_734 _ ?_
          exact Steps.refl _
        by_cases hc_742 : i_735 = (0 : Int32)
        · skip
          obtain ⟨_, _, ⟨T_743, L_743, k_743, n_743⟩, -, X_743, ⟨Lc_743, hQ_743, l_743, y_743, z_743⟩, st_743⟩ := Jvm.LawKit.callS X_734 hx (y := M346) hown (mvT hZ (w31 hw)) (mvT hZ (w32 hw)) (mvT hZ (w4 hw)) (mvT hZ (w33 hw)) (by decide) (backOf (W := 0) (rm_dd_ l Z a0 hw [] G1 G3 HG T_705.heap n0 O_724 a_377 k_371 (own_len p0) x_680 (2 : Int32) V_723 g_684 g_685 (by decide)) hZ (w33 hw) (w4 hw) (by decide) (by decide)) (g := (mkF m 295 #[.val (.int p0), .val (.long p1), .second, .val (.long p2), .second, .val (.int p3), .val (.int (own_len p0)), .val (.ref a_377), .val (.ref a_697), .unset, .unset] [(.int (2 : Int32)), (.ref a_377)])) rfl (by rw [hml]; rfl) (argsL := [(.ref a_377), (.int (2 : Int32))]) (rest := []) (lenOf pd_364 rfl) rfl (by show 2 * 0 + _ ≤ _; exact Nat.le_of_eq rfl) (hb hby at_295) (fun _ _ => ⟨rfl, e_740, (by decide : 3 + 0 ≤ _), (by decide : 36 + 0 ≤ _)⟩)
          dsimp only [Pt.U, Pt.locs, Pt.cells, Pt.slots] at X_743 l_743 y_743 z_743 st_743 hQ_743
          have X_743 := own_cast X_743 l_743 y_743 z_743
          obtain ⟨i_744, rfl, N_745, e_746, g_747⟩ := hQ_743
          have N_748 := Fr.app N_739 N_745
          have e_749 : T_743.heap = T_705.heap := e_746
          have C_750 : Steps p.tables e below S0 (T_743.setTop (mkF m 298 #[.val (.int p0), .val (.long p1), .second, .val (.long p2), .second, .val (.int p3), .val (.int (own_len p0)), .val (.ref a_377), .val (.ref a_697), .unset, .unset] [(.int i_744)])) := by
            refine C_741.trans ?_
            refine XS.ifNo X_734.here hx rfl (hb hby at_289) rfl (i0_ne_f hc_742) ?_
            refine XS.aload X_734.here hx rfl (hb hby at_292) rfl rfl ?_
            refine XS.iconst X_734.here hx rfl (hb hby at_294) ?_
            refine st_743 _ ?_
            exact Steps.refl _
          by_cases hc_751 : i_744 = (0 : Int32)
          · skip
            obtain ⟨_, _, ⟨T_752, L_752, k_752, n_752⟩, -, X_752, ⟨Lc_752, hQ_752, l_752, y_752, z_752⟩, st_752⟩ := Jvm.LawKit.callS X_743 hx (y := M346) hown (mvT hZ (w31 hw)) (mvT hZ (w32 hw)) (mvT hZ (w4 hw)) (mvT hZ (w33 hw)) (by decide) (backOf (W := 0) (rm_dd_ l Z a0 hw [] G1 G3 HG T_705.heap n0 O_724 a_377 k_371 (own_len p0) x_680 (3 : Int32) V_723 g_684 g_685 (by decide)) hZ (w33 hw) (w4 hw) (by decide) (by decide)) (g := (mkF m 304 #[.val (.int p0), .val (.long p1), .second, .val (.long p2), .second, .val (.int p3), .val (.int (own_len p0)), .val (.ref a_377), .val (.ref a_697), .unset, .unset] [(.int (3 : Int32)), (.ref a_377)])) rfl (by rw [hml]; rfl) (argsL := [(.ref a_377), (.int (3 : Int32))]) (rest := []) (lenOf pd_364 rfl) rfl (by show 2 * 0 + _ ≤ _; exact Nat.le_of_eq rfl) (hb hby at_304) (fun _ _ => ⟨rfl, e_749, (by decide : 3 + 0 ≤ _), (by decide : 36 + 0 ≤ _)⟩)
            dsimp only [Pt.U, Pt.locs, Pt.cells, Pt.slots] at X_752 l_752 y_752 z_752 st_752 hQ_752
            have X_752 := own_cast X_752 l_752 y_752 z_752
            obtain ⟨i_753, rfl, N_754, e_755, g_756⟩ := hQ_752
            have N_757 := Fr.app N_748 N_754
            have e_758 : T_752.heap = T_705.heap := e_755
            have C_759 : Steps p.tables e below S0 (T_752.setTop (mkF m 307 #[.val (.int p0), .val (.long p1), .second, .val (.long p2), .second, .val (.int p3), .val (.int (own_len p0)), .val (.ref a_377), .val (.ref a_697), .unset, .unset] [(.int i_753)])) := by
              refine C_750.trans ?_
              refine XS.ifNo X_743.here hx rfl (hb hby at_298) rfl (i0_ne_f hc_751) ?_
              refine XS.aload X_743.here hx rfl (hb hby at_301) rfl rfl ?_
              refine XS.iconst X_743.here hx rfl (hb hby at_303) ?_
              refine st_752 _ ?_
              exact Steps.refl _
            by_cases hc_760 : i_753 = (0 : Int32)
            · skip
              obtain ⟨_, _, ⟨T_761, L_761, k_761, n_761⟩, -, X_761, ⟨Lc_761, hQ_761, l_761, y_761, z_761⟩, st_761⟩ := Jvm.LawKit.callS X_752 hx (y := M346) hown (mvT hZ (w31 hw)) (mvT hZ (w32 hw)) (mvT hZ (w4 hw)) (mvT hZ (w33 hw)) (by decide) (backOf (W := 0) (rm_dd_ l Z a0 hw [] G1 G3 HG T_705.heap n0 O_724 a_377 k_371 (own_len p0) x_680 (4 : Int32) V_723 g_684 g_685 (by decide)) hZ (w33 hw) (w4 hw) (by decide) (by decide)) (g := (mkF m 313 #[.val (.int p0), .val (.long p1), .second, .val (.long p2), .second, .val (.int p3), .val (.int (own_len p0)), .val (.ref a_377), .val (.ref a_697), .unset, .unset] [(.int (4 : Int32)), (.ref a_377)])) rfl (by rw [hml]; rfl) (argsL := [(.ref a_377), (.int (4 : Int32))]) (rest := []) (lenOf pd_364 rfl) rfl (by show 2 * 0 + _ ≤ _; exact Nat.le_of_eq rfl) (hb hby at_313) (fun _ _ => ⟨rfl, e_758, (by decide : 3 + 0 ≤ _), (by decide : 36 + 0 ≤ _)⟩)
              dsimp only [Pt.U, Pt.locs, Pt.cells, Pt.slots] at X_761 l_761 y_761 z_761 st_761 hQ_761
              have X_761 := own_cast X_761 l_761 y_761 z_761
              obtain ⟨i_762, rfl, N_763, e_764, g_765⟩ := hQ_761
              have N_766 := Fr.app N_757 N_763
              have e_767 : T_761.heap = T_705.heap := e_764
              have C_768 : Steps p.tables e below S0 (T_761.setTop (mkF m 316 #[.val (.int p0), .val (.long p1), .second, .val (.long p2), .second, .val (.int p3), .val (.int (own_len p0)), .val (.ref a_377), .val (.ref a_697), .unset, .unset] [(.int i_762)])) := by
                refine C_759.trans ?_
                refine XS.ifNo X_752.here hx rfl (hb hby at_307) rfl (i0_ne_f hc_760) ?_
                refine XS.aload X_752.here hx rfl (hb hby at_310) rfl rfl ?_
                refine XS.iconst X_752.here hx rfl (hb hby at_312) ?_
                refine st_761 _ ?_
                exact Steps.refl _
              by_cases hc_769 : i_762 = (0 : Int32)
              · skip
                obtain ⟨_, _, ⟨T_770, L_770, k_770, n_770⟩, -, X_770, ⟨Lc_770, hQ_770, l_770, y_770, z_770⟩, st_770⟩ := Jvm.LawKit.callS X_761 hx (y := M346) hown (mvT hZ (w31 hw)) (mvT hZ (w32 hw)) (mvT hZ (w4 hw)) (mvT hZ (w33 hw)) (by decide) (backOf (W := 0) (rm_dd_ l Z a0 hw [] G1 G3 HG T_705.heap n0 O_724 a_377 k_371 (own_len p0) x_680 (5 : Int32) V_723 g_684 g_685 (by decide)) hZ (w33 hw) (w4 hw) (by decide) (by decide)) (g := (mkF m 322 #[.val (.int p0), .val (.long p1), .second, .val (.long p2), .second, .val (.int p3), .val (.int (own_len p0)), .val (.ref a_377), .val (.ref a_697), .unset, .unset] [(.int (5 : Int32)), (.ref a_377)])) rfl (by rw [hml]; rfl) (argsL := [(.ref a_377), (.int (5 : Int32))]) (rest := []) (lenOf pd_364 rfl) rfl (by show 2 * 0 + _ ≤ _; exact Nat.le_of_eq rfl) (hb hby at_322) (fun _ _ => ⟨rfl, e_767, (by decide : 3 + 0 ≤ _), (by decide : 36 + 0 ≤ _)⟩)
                dsimp only [Pt.U, Pt.locs, Pt.cells, Pt.slots] at X_770 l_770 y_770 z_770 st_770 hQ_770
                have X_770 := own_cast X_770 l_770 y_770 z_770
                obtain ⟨i_771, rfl, N_772, e_773, g_774⟩ := hQ_770
                have N_775 := Fr.app N_766 N_772
                have e_776 : T_770.heap = T_705.heap := e_773
                have C_777 : Steps p.tables e below S0 (T_770.setTop (mkF m 325 #[.val (.int p0), .val (.long p1), .second, .val (.long p2), .second, .val (.int p3), .val (.int (own_len p0)), .val (.ref a_377), .val (.ref a_697), .unset, .unset] [(.int i_771)])) := by
                  refine C_768.trans ?_
                  refine XS.ifNo X_761.here hx rfl (hb hby at_316) rfl (i0_ne_f hc_769) ?_
                  refine XS.aload X_761.here hx rfl (hb hby at_319) rfl rfl ?_
                  refine XS.iconst X_761.here hx rfl (hb hby at_321) ?_
                  refine st_770 _ ?_
                  exact Steps.refl _
                by_cases hc_778 : i_771 = (0 : Int32)
                · skip
                  obtain ⟨_, _, ⟨T_779, L_779, k_779, n_779⟩, -, X_779, ⟨Lc_779, hQ_779, l_779, y_779, z_779⟩, st_779⟩ := Jvm.LawKit.callS X_770 hx (y := M346) hown (mvT hZ (w31 hw)) (mvT hZ (w32 hw)) (mvT hZ (w4 hw)) (mvT hZ (w33 hw)) (by decide) (backOf (W := 0) (rm_dd_ l Z a0 hw [] G1 G3 HG T_705.heap n0 O_724 a_377 k_371 (own_len p0) x_680 (6 : Int32) V_723 g_684 g_685 (by decide)) hZ (w33 hw) (w4 hw) (by decide) (by decide)) (g := (mkF m 332 #[.val (.int p0), .val (.long p1), .second, .val (.long p2), .second, .val (.int p3), .val (.int (own_len p0)), .val (.ref a_377), .val (.ref a_697), .unset, .unset] [(.int (6 : Int32)), (.ref a_377)])) rfl (by rw [hml]; rfl) (argsL := [(.ref a_377), (.int (6 : Int32))]) (rest := []) (lenOf pd_364 rfl) rfl (by show 2 * 0 + _ ≤ _; exact Nat.le_of_eq rfl) (hb hby at_332) (fun _ _ => ⟨rfl, e_776, (by decide : 3 + 0 ≤ _), (by decide : 36 + 0 ≤ _)⟩)
                  dsimp only [Pt.U, Pt.locs, Pt.cells, Pt.slots] at X_779 l_779 y_779 z_779 st_779 hQ_779
                  have X_779 := own_cast X_779 l_779 y_779 z_779
                  obtain ⟨i_780, rfl, N_781, e_782, g_783⟩ := hQ_779
                  have N_784 := Fr.app N_775 N_781
                  have e_785 : T_779.heap = T_705.heap := e_782
                  have C_786 : Steps p.tables e below S0 (T_779.setTop (mkF m 335 #[.val (.int p0), .val (.long p1), .second, .val (.long p2), .second, .val (.int p3), .val (.int (own_len p0)), .val (.ref a_377), .val (.ref a_697), .unset, .unset] [(.int i_780)])) := by
                    refine C_777.trans ?_
                    refine XS.ifNo X_770.here hx rfl (hb hby at_325) rfl (i0_ne_f hc_778) ?_
                    refine XS.aload X_770.here hx rfl (hb hby at_328) rfl rfl ?_
                    refine XS.bipush X_770.here hx rfl (hb hby at_330) ?_
                    refine st_779 _ ?_
                    exact Steps.refl _
                  by_cases hc_787 : i_780 = (0 : Int32)
                  · skip
                    obtain ⟨_, _, ⟨T_788, L_788, k_788, n_788⟩, -, X_788, ⟨Lc_788, hQ_788, l_788, y_788, z_788⟩, st_788⟩ := Jvm.LawKit.callS X_779 hx (y := M346) hown (mvT hZ (w31 hw)) (mvT hZ (w32 hw)) (mvT hZ (w4 hw)) (mvT hZ (w33 hw)) (by decide) (backOf (W := 0) (rm_dd_ l Z a0 hw [] G1 G3 HG T_705.heap n0 O_724 a_377 k_371 (own_len p0) x_680 (7 : Int32) V_723 g_684 g_685 (by decide)) hZ (w33 hw) (w4 hw) (by decide) (by decide)) (g := (mkF m 342 #[.val (.int p0), .val (.long p1), .second, .val (.long p2), .second, .val (.int p3), .val (.int (own_len p0)), .val (.ref a_377), .val (.ref a_697), .unset, .unset] [(.int (7 : Int32)), (.ref a_377)])) rfl (by rw [hml]; rfl) (argsL := [(.ref a_377), (.int (7 : Int32))]) (rest := []) (lenOf pd_364 rfl) rfl (by show 2 * 0 + _ ≤ _; exact Nat.le_of_eq rfl) (hb hby at_342) (fun _ _ => ⟨rfl, e_785, (by decide : 3 + 0 ≤ _), (by decide : 36 + 0 ≤ _)⟩)
                    dsimp only [Pt.U, Pt.locs, Pt.cells, Pt.slots] at X_788 l_788 y_788 z_788 st_788 hQ_788
                    have X_788 := own_cast X_788 l_788 y_788 z_788
                    obtain ⟨i_789, rfl, N_790, e_791, g_792⟩ := hQ_788
                    have N_793 := Fr.app N_784 N_790
                    have e_794 : T_788.heap = T_705.heap := e_791
                    have C_795 : Steps p.tables e below S0 (T_788.setTop (mkF m 345 #[.val (.int p0), .val (.long p1), .second, .val (.long p2), .second, .val (.int p3), .val (.int (own_len p0)), .val (.ref a_377), .val (.ref a_697), .unset, .unset] [(.int i_789)])) := by
                      refine C_786.trans ?_
                      refine XS.ifNo X_779.here hx rfl (hb hby at_335) rfl (i0_ne_f hc_787) ?_
                      refine XS.aload X_779.here hx rfl (hb hby at_338) rfl rfl ?_
                      refine XS.bipush X_779.here hx rfl (hb hby at_340) ?_
                      refine st_788 _ ?_
                      exact Steps.refl _
                    by_cases hc_796 : i_789 = (0 : Int32)
                    · skip
                      obtain ⟨_, _, ⟨T_797, L_797, k_797, n_797⟩, -, X_797, ⟨Lc_797, hQ_797, l_797, y_797, z_797⟩, st_797⟩ := Jvm.LawKit.callS X_788 hx (y := M346) hown (mvT hZ (w31 hw)) (mvT hZ (w32 hw)) (mvT hZ (w4 hw)) (mvT hZ (w33 hw)) (by decide) (backOf (W := 0) (rm_dd_ l Z a0 hw [] G1 G3 HG T_705.heap n0 O_724 a_377 k_371 (own_len p0) x_680 (8 : Int32) V_723 g_684 g_685 (by decide)) hZ (w33 hw) (w4 hw) (by decide) (by decide)) (g := (mkF m 352 #[.val (.int p0), .val (.long p1), .second, .val (.long p2), .second, .val (.int p3), .val (.int (own_len p0)), .val (.ref a_377), .val (.ref a_697), .unset, .unset] [(.int (8 : Int32)), (.ref a_377)])) rfl (by rw [hml]; rfl) (argsL := [(.ref a_377), (.int (8 : Int32))]) (rest := []) (lenOf pd_364 rfl) rfl (by show 2 * 0 + _ ≤ _; exact Nat.le_of_eq rfl) (hb hby at_352) (fun _ _ => ⟨rfl, e_794, (by decide : 3 + 0 ≤ _), (by decide : 36 + 0 ≤ _)⟩)
                      dsimp only [Pt.U, Pt.locs, Pt.cells, Pt.slots] at X_797 l_797 y_797 z_797 st_797 hQ_797
                      have X_797 := own_cast X_797 l_797 y_797 z_797
                      obtain ⟨i_798, rfl, N_799, e_800, g_801⟩ := hQ_797
                      have N_802 := Fr.app N_793 N_799
                      have e_803 : T_797.heap = T_705.heap := e_800
                      have C_804 : Steps p.tables e below S0 (T_797.setTop (mkF m 355 #[.val (.int p0), .val (.long p1), .second, .val (.long p2), .second, .val (.int p3), .val (.int (own_len p0)), .val (.ref a_377), .val (.ref a_697), .unset, .unset] [(.int i_798)])) := by
                        refine C_795.trans ?_
                        refine XS.ifNo X_788.here hx rfl (hb hby at_345) rfl (i0_ne_f hc_796) ?_
                        refine XS.aload X_788.here hx rfl (hb hby at_348) rfl rfl ?_
                        refine XS.bipush X_788.here hx rfl (hb hby at_350) ?_
                        refine st_797 _ ?_
                        exact Steps.refl _
                      by_cases hc_805 : i_798 = (0 : Int32)
                      · skip
                        obtain ⟨_, _, ⟨T_806, L_806, k_806, n_806⟩, -, X_806, ⟨Lc_806, hQ_806, l_806, y_806, z_806⟩, st_806⟩ := Jvm.LawKit.callS X_797 hx (y := M346) hown (mvT hZ (w31 hw)) (mvT hZ (w32 hw)) (mvT hZ (w4 hw)) (mvT hZ (w33 hw)) (by decide) (backOf (W := 0) (rm_dd_ l Z a0 hw [] G1 G3 HG T_705.heap n0 O_724 a_377 k_371 (own_len p0) x_680 (9 : Int32) V_723 g_684 g_685 (by decide)) hZ (w33 hw) (w4 hw) (by decide) (by decide)) (g := (mkF m 362 #[.val (.int p0), .val (.long p1), .second, .val (.long p2), .second, .val (.int p3), .val (.int (own_len p0)), .val (.ref a_377), .val (.ref a_697), .unset, .unset] [(.int (9 : Int32)), (.ref a_377)])) rfl (by rw [hml]; rfl) (argsL := [(.ref a_377), (.int (9 : Int32))]) (rest := []) (lenOf pd_364 rfl) rfl (by show 2 * 0 + _ ≤ _; exact Nat.le_of_eq rfl) (hb hby at_362) (fun _ _ => ⟨rfl, e_803, (by decide : 3 + 0 ≤ _), (by decide : 36 + 0 ≤ _)⟩)
                        dsimp only [Pt.U, Pt.locs, Pt.cells, Pt.slots] at X_806 l_806 y_806 z_806 st_806 hQ_806
                        have X_806 := own_cast X_806 l_806 y_806 z_806
                        obtain ⟨i_807, rfl, N_808, e_809, g_810⟩ := hQ_806
                        have N_811 := Fr.app N_802 N_808
                        have e_812 : T_806.heap = T_705.heap := e_809
                        have C_813 : Steps p.tables e below S0 (T_806.setTop (mkF m 365 #[.val (.int p0), .val (.long p1), .second, .val (.long p2), .second, .val (.int p3), .val (.int (own_len p0)), .val (.ref a_377), .val (.ref a_697), .unset, .unset] [(.int i_807)])) := by
                          refine C_804.trans ?_
                          refine XS.ifNo X_797.here hx rfl (hb hby at_355) rfl (i0_ne_f hc_805) ?_
                          refine XS.aload X_797.here hx rfl (hb hby at_358) rfl rfl ?_
                          refine XS.bipush X_797.here hx rfl (hb hby at_360) ?_
                          refine st_806 _ ?_
                          exact Steps.refl _
                        by_cases hc_814 : i_807 = (0 : Int32)
                        · skip
                          obtain ⟨_, _, ⟨T_815, L_815, k_815, n_815⟩, -, X_815, ⟨Lc_815, hQ_815, l_815, y_815, z_815⟩, st_815⟩ := Jvm.LawKit.callS X_806 hx (y := M346) hown (mvT hZ (w31 hw)) (mvT hZ (w32 hw)) (mvT hZ (w4 hw)) (mvT hZ (w33 hw)) (by decide) (backOf (W := 0) (rm_dd_ l Z a0 hw [] G1 G3 HG T_705.heap n0 O_724 a_377 k_371 (own_len p0) x_680 (10 : Int32) V_723 g_684 g_685 (by decide)) hZ (w33 hw) (w4 hw) (by decide) (by decide)) (g := (mkF m 372 #[.val (.int p0), .val (.long p1), .second, .val (.long p2), .second, .val (.int p3), .val (.int (own_len p0)), .val (.ref a_377), .val (.ref a_697), .unset, .unset] [(.int (10 : Int32)), (.ref a_377)])) rfl (by rw [hml]; rfl) (argsL := [(.ref a_377), (.int (10 : Int32))]) (rest := []) (lenOf pd_364 rfl) rfl (by show 2 * 0 + _ ≤ _; exact Nat.le_of_eq rfl) (hb hby at_372) (fun _ _ => ⟨rfl, e_812, (by decide : 3 + 0 ≤ _), (by decide : 36 + 0 ≤ _)⟩)
                          dsimp only [Pt.U, Pt.locs, Pt.cells, Pt.slots] at X_815 l_815 y_815 z_815 st_815 hQ_815
                          have X_815 := own_cast X_815 l_815 y_815 z_815
                          obtain ⟨i_816, rfl, N_817, e_818, g_819⟩ := hQ_815
                          have N_820 := Fr.app N_811 N_817
                          have e_821 : T_815.heap = T_705.heap := e_818
                          have C_822 : Steps p.tables e below S0 (T_815.setTop (mkF m 375 #[.val (.int p0), .val (.long p1), .second, .val (.long p2), .second, .val (.int p3), .val (.int (own_len p0)), .val (.ref a_377), .val (.ref a_697), .unset, .unset] [(.int i_816)])) := by
                            refine C_813.trans ?_
                            refine XS.ifNo X_806.here hx rfl (hb hby at_365) rfl (i0_ne_f hc_814) ?_
                            refine XS.aload X_806.here hx rfl (hb hby at_368) rfl rfl ?_
                            refine XS.bipush X_806.here hx rfl (hb hby at_370) ?_
                            refine st_815 _ ?_
                            exact Steps.refl _
                          by_cases hc_823 : i_816 = (0 : Int32)
                          · skip
                            obtain ⟨_, _, ⟨T_824, L_824, k_824, n_824⟩, -, X_824, ⟨Lc_824, hQ_824, l_824, y_824, z_824⟩, st_824⟩ := Jvm.LawKit.callS X_815 hx (y := M346) hown (mvT hZ (w31 hw)) (mvT hZ (w32 hw)) (mvT hZ (w4 hw)) (mvT hZ (w33 hw)) (by decide) (backOf (W := 0) (rm_dd_ l Z a0 hw [] G1 G3 HG T_705.heap n0 O_724 a_377 k_371 (own_len p0) x_680 (11 : Int32) V_723 g_684 g_685 (by decide)) hZ (w33 hw) (w4 hw) (by decide) (by decide)) (g := (mkF m 382 #[.val (.int p0), .val (.long p1), .second, .val (.long p2), .second, .val (.int p3), .val (.int (own_len p0)), .val (.ref a_377), .val (.ref a_697), .unset, .unset] [(.int (11 : Int32)), (.ref a_377)])) rfl (by rw [hml]; rfl) (argsL := [(.ref a_377), (.int (11 : Int32))]) (rest := []) (lenOf pd_364 rfl) rfl (by show 2 * 0 + _ ≤ _; exact Nat.le_of_eq rfl) (hb hby at_382) (fun _ _ => ⟨rfl, e_821, (by decide : 3 + 0 ≤ _), (by decide : 36 + 0 ≤ _)⟩)
                            dsimp only [Pt.U, Pt.locs, Pt.cells, Pt.slots] at X_824 l_824 y_824 z_824 st_824 hQ_824
                            have X_824 := own_cast X_824 l_824 y_824 z_824
                            obtain ⟨i_825, rfl, N_826, e_827, g_828⟩ := hQ_824
                            have N_829 := Fr.app N_820 N_826
                            have e_830 : T_824.heap = T_705.heap := e_827
                            have C_831 : Steps p.tables e below S0 (T_824.setTop (mkF m 385 #[.val (.int p0), .val (.long p1), .second, .val (.long p2), .second, .val (.int p3), .val (.int (own_len p0)), .val (.ref a_377), .val (.ref a_697), .unset, .unset] [(.int i_825)])) := by
                              refine C_822.trans ?_
                              refine XS.ifNo X_815.here hx rfl (hb hby at_375) rfl (i0_ne_f hc_823) ?_
                              refine XS.aload X_815.here hx rfl (hb hby at_378) rfl rfl ?_
                              refine XS.bipush X_815.here hx rfl (hb hby at_380) ?_
                              refine st_824 _ ?_
                              exact Steps.refl _
                            by_cases hc_832 : i_825 = (0 : Int32)
                            · skip
                              obtain ⟨_, _, ⟨T_833, L_833, k_833, n_833⟩, -, X_833, ⟨Lc_833, hQ_833, l_833, y_833, z_833⟩, st_833⟩ := Jvm.LawKit.callS X_824 hx (y := M346) hown (mvT hZ (w31 hw)) (mvT hZ (w32 hw)) (mvT hZ (w4 hw)) (mvT hZ (w33 hw)) (by decide) (backOf (W := 0) (rm_dd_ l Z a0 hw [] G1 G3 HG T_705.heap n0 O_724 a_377 k_371 (own_len p0) x_680 (12 : Int32) V_723 g_684 g_685 (by decide)) hZ (w33 hw) (w4 hw) (by decide) (by decide)) (g := (mkF m 392 #[.val (.int p0), .val (.long p1), .second, .val (.long p2), .second, .val (.int p3), .val (.int (own_len p0)), .val (.ref a_377), .val (.ref a_697), .unset, .unset] [(.int (12 : Int32)), (.ref a_377)])) rfl (by rw [hml]; rfl) (argsL := [(.ref a_377), (.int (12 : Int32))]) (rest := []) (lenOf pd_364 rfl) rfl (by show 2 * 0 + _ ≤ _; exact Nat.le_of_eq rfl) (hb hby at_392) (fun _ _ => ⟨rfl, e_830, (by decide : 3 + 0 ≤ _), (by decide : 36 + 0 ≤ _)⟩)
                              dsimp only [Pt.U, Pt.locs, Pt.cells, Pt.slots] at X_833 l_833 y_833 z_833 st_833 hQ_833
                              have X_833 := own_cast X_833 l_833 y_833 z_833
                              obtain ⟨i_834, rfl, N_835, e_836, g_837⟩ := hQ_833
                              have N_838 := Fr.app N_829 N_835
                              have e_839 : T_833.heap = T_705.heap := e_836
                              have C_840 : Steps p.tables e below S0 (T_833.setTop (mkF m 395 #[.val (.int p0), .val (.long p1), .second, .val (.long p2), .second, .val (.int p3), .val (.int (own_len p0)), .val (.ref a_377), .val (.ref a_697), .unset, .unset] [(.int i_834)])) := by
                                refine C_831.trans ?_
                                refine XS.ifNo X_824.here hx rfl (hb hby at_385) rfl (i0_ne_f hc_832) ?_
                                refine XS.aload X_824.here hx rfl (hb hby at_388) rfl rfl ?_
                                refine XS.bipush X_824.here hx rfl (hb hby at_390) ?_
                                refine st_833 _ ?_
                                exact Steps.refl _
                              by_cases hc_841 : i_834 = (0 : Int32)
                              · skip
                                obtain ⟨_, _, ⟨T_842, L_842, k_842, n_842⟩, -, X_842, ⟨Lc_842, hQ_842, l_842, y_842, z_842⟩, st_842⟩ := Jvm.LawKit.callS X_833 hx (y := M346) hown (mvT hZ (w31 hw)) (mvT hZ (w32 hw)) (mvT hZ (w4 hw)) (mvT hZ (w33 hw)) (by decide) (backOf (W := 0) (rm_dd_ l Z a0 hw [] G1 G3 HG T_705.heap n0 O_724 a_377 k_371 (own_len p0) x_680 (13 : Int32) V_723 g_684 g_685 (by decide)) hZ (w33 hw) (w4 hw) (by decide) (by decide)) (g := (mkF m 402 #[.val (.int p0), .val (.long p1), .second, .val (.long p2), .second, .val (.int p3), .val (.int (own_len p0)), .val (.ref a_377), .val (.ref a_697), .unset, .unset] [(.int (13 : Int32)), (.ref a_377)])) rfl (by rw [hml]; rfl) (argsL := [(.ref a_377), (.int (13 : Int32))]) (rest := []) (lenOf pd_364 rfl) rfl (by show 2 * 0 + _ ≤ _; exact Nat.le_of_eq rfl) (hb hby at_402) (fun _ _ => ⟨rfl, e_839, (by decide : 3 + 0 ≤ _), (by decide : 36 + 0 ≤ _)⟩)
                                dsimp only [Pt.U, Pt.locs, Pt.cells, Pt.slots] at X_842 l_842 y_842 z_842 st_842 hQ_842
                                have X_842 := own_cast X_842 l_842 y_842 z_842
                                obtain ⟨i_843, rfl, N_844, e_845, g_846⟩ := hQ_842
                                have N_847 := Fr.app N_838 N_844
                                have e_848 : T_842.heap = T_705.heap := e_845
                                have C_849 : Steps p.tables e below S0 (T_842.setTop (mkF m 405 #[.val (.int p0), .val (.long p1), .second, .val (.long p2), .second, .val (.int p3), .val (.int (own_len p0)), .val (.ref a_377), .val (.ref a_697), .unset, .unset] [(.int i_843)])) := by
                                  refine C_840.trans ?_
                                  refine XS.ifNo X_833.here hx rfl (hb hby at_395) rfl (i0_ne_f hc_841) ?_
                                  refine XS.aload X_833.here hx rfl (hb hby at_398) rfl rfl ?_
                                  refine XS.bipush X_833.here hx rfl (hb hby at_400) ?_
                                  refine st_842 _ ?_
                                  exact Steps.refl _
                                by_cases hc_850 : i_843 = (0 : Int32)
                                · skip
                                  obtain ⟨_, _, ⟨T_851, L_851, k_851, n_851⟩, -, X_851, ⟨Lc_851, hQ_851, l_851, y_851, z_851⟩, st_851⟩ := Jvm.LawKit.callS X_842 hx (y := M346) hown (mvT hZ (w31 hw)) (mvT hZ (w32 hw)) (mvT hZ (w4 hw)) (mvT hZ (w33 hw)) (by decide) (backOf (W := 0) (rm_dd_ l Z a0 hw [] G1 G3 HG T_705.heap n0 O_724 a_377 k_371 (own_len p0) x_680 (14 : Int32) V_723 g_684 g_685 (by decide)) hZ (w33 hw) (w4 hw) (by decide) (by decide)) (g := (mkF m 412 #[.val (.int p0), .val (.long p1), .second, .val (.long p2), .second, .val (.int p3), .val (.int (own_len p0)), .val (.ref a_377), .val (.ref a_697), .unset, .unset] [(.int (14 : Int32)), (.ref a_377)])) rfl (by rw [hml]; rfl) (argsL := [(.ref a_377), (.int (14 : Int32))]) (rest := []) (lenOf pd_364 rfl) rfl (by show 2 * 0 + _ ≤ _; exact Nat.le_of_eq rfl) (hb hby at_412) (fun _ _ => ⟨rfl, e_848, (by decide : 3 + 0 ≤ _), (by decide : 36 + 0 ≤ _)⟩)
                                  dsimp only [Pt.U, Pt.locs, Pt.cells, Pt.slots] at X_851 l_851 y_851 z_851 st_851 hQ_851
                                  have X_851 := own_cast X_851 l_851 y_851 z_851
                                  obtain ⟨i_852, rfl, N_853, e_854, g_855⟩ := hQ_851
                                  have N_856 := Fr.app N_847 N_853
                                  have e_857 : T_851.heap = T_705.heap := e_854
                                  have C_858 : Steps p.tables e below S0 (T_851.setTop (mkF m 415 #[.val (.int p0), .val (.long p1), .second, .val (.long p2), .second, .val (.int p3), .val (.int (own_len p0)), .val (.ref a_377), .val (.ref a_697), .unset, .unset] [(.int i_852)])) := by
                                    refine C_849.trans ?_
                                    refine XS.ifNo X_842.here hx rfl (hb hby at_405) rfl (i0_ne_f hc_850) ?_
                                    refine XS.aload X_842.here hx rfl (hb hby at_408) rfl rfl ?_
                                    refine XS.bipush X_842.here hx rfl (hb hby at_410) ?_
                                    refine st_851 _ ?_
                                    exact Steps.refl _
                                  by_cases hc_859 : i_852 = (0 : Int32)
                                  · skip
                                    obtain ⟨_, _, ⟨T_860, L_860, k_860, n_860⟩, -, X_860, ⟨Lc_860, hQ_860, l_860, y_860, z_860⟩, st_860⟩ := Jvm.LawKit.callS X_851 hx (y := M346) hown (mvT hZ (w31 hw)) (mvT hZ (w32 hw)) (mvT hZ (w4 hw)) (mvT hZ (w33 hw)) (by decide) (backOf (W := 0) (rm_dd_ l Z a0 hw [] G1 G3 HG T_705.heap n0 O_724 a_377 k_371 (own_len p0) x_680 (15 : Int32) V_723 g_684 g_685 (by decide)) hZ (w33 hw) (w4 hw) (by decide) (by decide)) (g := (mkF m 422 #[.val (.int p0), .val (.long p1), .second, .val (.long p2), .second, .val (.int p3), .val (.int (own_len p0)), .val (.ref a_377), .val (.ref a_697), .unset, .unset] [(.int (15 : Int32)), (.ref a_377)])) rfl (by rw [hml]; rfl) (argsL := [(.ref a_377), (.int (15 : Int32))]) (rest := []) (lenOf pd_364 rfl) rfl (by show 2 * 0 + _ ≤ _; exact Nat.le_of_eq rfl) (hb hby at_422) (fun _ _ => ⟨rfl, e_857, (by decide : 3 + 0 ≤ _), (by decide : 36 + 0 ≤ _)⟩)
                                    dsimp only [Pt.U, Pt.locs, Pt.cells, Pt.slots] at X_860 l_860 y_860 z_860 st_860 hQ_860
                                    have X_860 := own_cast X_860 l_860 y_860 z_860
                                    obtain ⟨i_861, rfl, N_862, e_863, g_864⟩ := hQ_860
                                    have N_865 := Fr.app N_856 N_862
                                    have e_866 : T_860.heap = T_705.heap := e_863
                                    have C_867 : Steps p.tables e below S0 (T_860.setTop (mkF m 425 #[.val (.int p0), .val (.long p1), .second, .val (.long p2), .second, .val (.int p3), .val (.int (own_len p0)), .val (.ref a_377), .val (.ref a_697), .unset, .unset] [(.int i_861)])) := by
                                      refine C_858.trans ?_
                                      refine XS.ifNo X_851.here hx rfl (hb hby at_415) rfl (i0_ne_f hc_859) ?_
                                      refine XS.aload X_851.here hx rfl (hb hby at_418) rfl rfl ?_
                                      refine XS.bipush X_851.here hx rfl (hb hby at_420) ?_
                                      refine st_860 _ ?_
                                      exact Steps.refl _
                                    by_cases hc_868 : i_861 = (0 : Int32)
                                    · skip
                                      have C_869 : Steps p.tables e below S0 (T_860.setTop (mkF m 433 #[.val (.int p0), .val (.long p1), .second, .val (.long p2), .second, .val (.int p3), .val (.int (own_len p0)), .val (.ref a_377), .val (.ref a_697), .unset, .unset] [(.int (0 : Int32))])) := by
                                        refine C_867.trans ?_
                                        refine XS.ifYes X_860.here hx rfl (pc0 := 425) (pc' := 432) rfl (hb hby at_425) rfl (i0_eq_t hc_868) (by decide) (by decide) ?_
                                        refine XS.iconst X_860.here hx rfl (hb hby at_432) ?_
                                        exact Steps.refl _
                                      exact ⟨(0 : Int32), T_860, _, X_860, e_866, N_865, rfl, (own_anyF (own_rF g_729 hc_733) (own_rF g_738 hc_742) (own_rF g_747 hc_751) (own_rF g_756 hc_760) (own_rF g_765 hc_769) (own_rF g_774 hc_778) (own_rF g_783 hc_787) (own_rF g_792 hc_796) (own_rF g_801 hc_805) (own_rF g_810 hc_814) (own_rF g_819 hc_823) (own_rF g_828 hc_832) (own_rF g_837 hc_841) (own_rF g_846 hc_850) (own_rF g_855 hc_859) (own_rF g_864 hc_868)), C_869⟩
                                    · skip
                                      have C_870 : Steps p.tables e below S0 (T_860.setTop (mkF m 433 #[.val (.int p0), .val (.long p1), .second, .val (.long p2), .second, .val (.int p3), .val (.int (own_len p0)), .val (.ref a_377), .val (.ref a_697), .unset, .unset] [(.int (1 : Int32))])) := by
                                        refine C_867.trans ?_
                                        refine XS.ifNo X_860.here hx rfl (hb hby at_425) rfl (i0_eq_f hc_868) ?_
                                        refine XS.iconst X_860.here hx rfl (hb hby at_428) ?_
                                        refine XS.goto X_860.here hx rfl (pc0 := 429) (pc' := 433) rfl (hb hby at_429) (by decide) (by decide) ?_
                                        exact Steps.refl _
                                      exact ⟨(1 : Int32), T_860, _, X_860, e_866, N_865, rfl, (own_anyT (k := 15) (by decide) (own_rT g_864 hc_868)), C_870⟩
                                  · skip
                                    have C_871 : Steps p.tables e below S0 (T_851.setTop (mkF m 433 #[.val (.int p0), .val (.long p1), .second, .val (.long p2), .second, .val (.int p3), .val (.int (own_len p0)), .val (.ref a_377), .val (.ref a_697), .unset, .unset] [(.int (1 : Int32))])) := by
                                      refine C_858.trans ?_
                                      refine XS.ifYes X_851.here hx rfl (pc0 := 415) (pc' := 428) rfl (hb hby at_415) rfl (i0_ne_t hc_859) (by decide) (by decide) ?_
                                      refine XS.iconst X_851.here hx rfl (hb hby at_428) ?_
                                      refine XS.goto X_851.here hx rfl (pc0 := 429) (pc' := 433) rfl (hb hby at_429) (by decide) (by decide) ?_
                                      exact Steps.refl _
                                    exact ⟨(1 : Int32), T_851, _, X_851, e_857, N_856, rfl, (own_anyT (k := 14) (by decide) (own_rT g_855 hc_859)), C_871⟩
                                · skip
                                  have C_872 : Steps p.tables e below S0 (T_842.setTop (mkF m 433 #[.val (.int p0), .val (.long p1), .second, .val (.long p2), .second, .val (.int p3), .val (.int (own_len p0)), .val (.ref a_377), .val (.ref a_697), .unset, .unset] [(.int (1 : Int32))])) := by
                                    refine C_849.trans ?_
                                    refine XS.ifYes X_842.here hx rfl (pc0 := 405) (pc' := 428) rfl (hb hby at_405) rfl (i0_ne_t hc_850) (by decide) (by decide) ?_
                                    refine XS.iconst X_842.here hx rfl (hb hby at_428) ?_
                                    refine XS.goto X_842.here hx rfl (pc0 := 429) (pc' := 433) rfl (hb hby at_429) (by decide) (by decide) ?_
                                    exact Steps.refl _
                                  exact ⟨(1 : Int32), T_842, _, X_842, e_848, N_847, rfl, (own_anyT (k := 13) (by decide) (own_rT g_846 hc_850)), C_872⟩
                              · skip
                                have C_873 : Steps p.tables e below S0 (T_833.setTop (mkF m 433 #[.val (.int p0), .val (.long p1), .second, .val (.long p2), .second, .val (.int p3), .val (.int (own_len p0)), .val (.ref a_377), .val (.ref a_697), .unset, .unset] [(.int (1 : Int32))])) := by
                                  refine C_840.trans ?_
                                  refine XS.ifYes X_833.here hx rfl (pc0 := 395) (pc' := 428) rfl (hb hby at_395) rfl (i0_ne_t hc_841) (by decide) (by decide) ?_
                                  refine XS.iconst X_833.here hx rfl (hb hby at_428) ?_
                                  refine XS.goto X_833.here hx rfl (pc0 := 429) (pc' := 433) rfl (hb hby at_429) (by decide) (by decide) ?_
                                  exact Steps.refl _
                                exact ⟨(1 : Int32), T_833, _, X_833, e_839, N_838, rfl, (own_anyT (k := 12) (by decide) (own_rT g_837 hc_841)), C_873⟩
                            · skip
                              have C_874 : Steps p.tables e below S0 (T_824.setTop (mkF m 433 #[.val (.int p0), .val (.long p1), .second, .val (.long p2), .second, .val (.int p3), .val (.int (own_len p0)), .val (.ref a_377), .val (.ref a_697), .unset, .unset] [(.int (1 : Int32))])) := by
                                refine C_831.trans ?_
                                refine XS.ifYes X_824.here hx rfl (pc0 := 385) (pc' := 428) rfl (hb hby at_385) rfl (i0_ne_t hc_832) (by decide) (by decide) ?_
                                refine XS.iconst X_824.here hx rfl (hb hby at_428) ?_
                                refine XS.goto X_824.here hx rfl (pc0 := 429) (pc' := 433) rfl (hb hby at_429) (by decide) (by decide) ?_
                                exact Steps.refl _
                              exact ⟨(1 : Int32), T_824, _, X_824, e_830, N_829, rfl, (own_anyT (k := 11) (by decide) (own_rT g_828 hc_832)), C_874⟩
                          · skip
                            have C_875 : Steps p.tables e below S0 (T_815.setTop (mkF m 433 #[.val (.int p0), .val (.long p1), .second, .val (.long p2), .second, .val (.int p3), .val (.int (own_len p0)), .val (.ref a_377), .val (.ref a_697), .unset, .unset] [(.int (1 : Int32))])) := by
                              refine C_822.trans ?_
                              refine XS.ifYes X_815.here hx rfl (pc0 := 375) (pc' := 428) rfl (hb hby at_375) rfl (i0_ne_t hc_823) (by decide) (by decide) ?_
                              refine XS.iconst X_815.here hx rfl (hb hby at_428) ?_
                              refine XS.goto X_815.here hx rfl (pc0 := 429) (pc' := 433) rfl (hb hby at_429) (by decide) (by decide) ?_
                              exact Steps.refl _
                            exact ⟨(1 : Int32), T_815, _, X_815, e_821, N_820, rfl, (own_anyT (k := 10) (by decide) (own_rT g_819 hc_823)), C_875⟩
                        · skip
                          have C_876 : Steps p.tables e below S0 (T_806.setTop (mkF m 433 #[.val (.int p0), .val (.long p1), .second, .val (.long p2), .second, .val (.int p3), .val (.int (own_len p0)), .val (.ref a_377), .val (.ref a_697), .unset, .unset] [(.int (1 : Int32))])) := by
                            refine C_813.trans ?_
                            refine XS.ifYes X_806.here hx rfl (pc0 := 365) (pc' := 428) rfl (hb hby at_365) rfl (i0_ne_t hc_814) (by decide) (by decide) ?_
                            refine XS.iconst X_806.here hx rfl (hb hby at_428) ?_
                            refine XS.goto X_806.here hx rfl (pc0 := 429) (pc' := 433) rfl (hb hby at_429) (by decide) (by decide) ?_
                            exact Steps.refl _
                          exact ⟨(1 : Int32), T_806, _, X_806, e_812, N_811, rfl, (own_anyT (k := 9) (by decide) (own_rT g_810 hc_814)), C_876⟩
                      · skip
                        have C_877 : Steps p.tables e below S0 (T_797.setTop (mkF m 433 #[.val (.int p0), .val (.long p1), .second, .val (.long p2), .second, .val (.int p3), .val (.int (own_len p0)), .val (.ref a_377), .val (.ref a_697), .unset, .unset] [(.int (1 : Int32))])) := by
                          refine C_804.trans ?_
                          refine XS.ifYes X_797.here hx rfl (pc0 := 355) (pc' := 428) rfl (hb hby at_355) rfl (i0_ne_t hc_805) (by decide) (by decide) ?_
                          refine XS.iconst X_797.here hx rfl (hb hby at_428) ?_
                          refine XS.goto X_797.here hx rfl (pc0 := 429) (pc' := 433) rfl (hb hby at_429) (by decide) (by decide) ?_
                          exact Steps.refl _
                        exact ⟨(1 : Int32), T_797, _, X_797, e_803, N_802, rfl, (own_anyT (k := 8) (by decide) (own_rT g_801 hc_805)), C_877⟩
                    · skip
                      have C_878 : Steps p.tables e below S0 (T_788.setTop (mkF m 433 #[.val (.int p0), .val (.long p1), .second, .val (.long p2), .second, .val (.int p3), .val (.int (own_len p0)), .val (.ref a_377), .val (.ref a_697), .unset, .unset] [(.int (1 : Int32))])) := by
                        refine C_795.trans ?_
                        refine XS.ifYes X_788.here hx rfl (pc0 := 345) (pc' := 428) rfl (hb hby at_345) rfl (i0_ne_t hc_796) (by decide) (by decide) ?_
                        refine XS.iconst X_788.here hx rfl (hb hby at_428) ?_
                        refine XS.goto X_788.here hx rfl (pc0 := 429) (pc' := 433) rfl (hb hby at_429) (by decide) (by decide) ?_
                        exact Steps.refl _
                      exact ⟨(1 : Int32), T_788, _, X_788, e_794, N_793, rfl, (own_anyT (k := 7) (by decide) (own_rT g_792 hc_796)), C_878⟩
                  · skip
                    have C_879 : Steps p.tables e below S0 (T_779.setTop (mkF m 433 #[.val (.int p0), .val (.long p1), .second, .val (.long p2), .second, .val (.int p3), .val (.int (own_len p0)), .val (.ref a_377), .val (.ref a_697), .unset, .unset] [(.int (1 : Int32))])) := by
                      refine C_786.trans ?_
                      refine XS.ifYes X_779.here hx rfl (pc0 := 335) (pc' := 428) rfl (hb hby at_335) rfl (i0_ne_t hc_787) (by decide) (by decide) ?_
                      refine XS.iconst X_779.here hx rfl (hb hby at_428) ?_
                      refine XS.goto X_779.here hx rfl (pc0 := 429) (pc' := 433) rfl (hb hby at_429) (by decide) (by decide) ?_
                      exact Steps.refl _
                    exact ⟨(1 : Int32), T_779, _, X_779, e_785, N_784, rfl, (own_anyT (k := 6) (by decide) (own_rT g_783 hc_787)), C_879⟩
                · skip
                  have C_880 : Steps p.tables e below S0 (T_770.setTop (mkF m 433 #[.val (.int p0), .val (.long p1), .second, .val (.long p2), .second, .val (.int p3), .val (.int (own_len p0)), .val (.ref a_377), .val (.ref a_697), .unset, .unset] [(.int (1 : Int32))])) := by
                    refine C_777.trans ?_
                    refine XS.ifYes X_770.here hx rfl (pc0 := 325) (pc' := 428) rfl (hb hby at_325) rfl (i0_ne_t hc_778) (by decide) (by decide) ?_
                    refine XS.iconst X_770.here hx rfl (hb hby at_428) ?_
                    refine XS.goto X_770.here hx rfl (pc0 := 429) (pc' := 433) rfl (hb hby at_429) (by decide) (by decide) ?_
                    exact Steps.refl _
                  exact ⟨(1 : Int32), T_770, _, X_770, e_776, N_775, rfl, (own_anyT (k := 5) (by decide) (own_rT g_774 hc_778)), C_880⟩
              · skip
                have C_881 : Steps p.tables e below S0 (T_761.setTop (mkF m 433 #[.val (.int p0), .val (.long p1), .second, .val (.long p2), .second, .val (.int p3), .val (.int (own_len p0)), .val (.ref a_377), .val (.ref a_697), .unset, .unset] [(.int (1 : Int32))])) := by
                  refine C_768.trans ?_
                  refine XS.ifYes X_761.here hx rfl (pc0 := 316) (pc' := 428) rfl (hb hby at_316) rfl (i0_ne_t hc_769) (by decide) (by decide) ?_
                  refine XS.iconst X_761.here hx rfl (hb hby at_428) ?_
                  refine XS.goto X_761.here hx rfl (pc0 := 429) (pc' := 433) rfl (hb hby at_429) (by decide) (by decide) ?_
                  exact Steps.refl _
                exact ⟨(1 : Int32), T_761, _, X_761, e_767, N_766, rfl, (own_anyT (k := 4) (by decide) (own_rT g_765 hc_769)), C_881⟩
            · skip
              have C_882 : Steps p.tables e below S0 (T_752.setTop (mkF m 433 #[.val (.int p0), .val (.long p1), .second, .val (.long p2), .second, .val (.int p3), .val (.int (own_len p0)), .val (.ref a_377), .val (.ref a_697), .unset, .unset] [(.int (1 : Int32))])) := by
                refine C_759.trans ?_
                refine XS.ifYes X_752.here hx rfl (pc0 := 307) (pc' := 428) rfl (hb hby at_307) rfl (i0_ne_t hc_760) (by decide) (by decide) ?_
                refine XS.iconst X_752.here hx rfl (hb hby at_428) ?_
                refine XS.goto X_752.here hx rfl (pc0 := 429) (pc' := 433) rfl (hb hby at_429) (by decide) (by decide) ?_
                exact Steps.refl _
              exact ⟨(1 : Int32), T_752, _, X_752, e_758, N_757, rfl, (own_anyT (k := 3) (by decide) (own_rT g_756 hc_760)), C_882⟩
          · skip
            have C_883 : Steps p.tables e below S0 (T_743.setTop (mkF m 433 #[.val (.int p0), .val (.long p1), .second, .val (.long p2), .second, .val (.int p3), .val (.int (own_len p0)), .val (.ref a_377), .val (.ref a_697), .unset, .unset] [(.int (1 : Int32))])) := by
              refine C_750.trans ?_
              refine XS.ifYes X_743.here hx rfl (pc0 := 298) (pc' := 428) rfl (hb hby at_298) rfl (i0_ne_t hc_751) (by decide) (by decide) ?_
              refine XS.iconst X_743.here hx rfl (hb hby at_428) ?_
              refine XS.goto X_743.here hx rfl (pc0 := 429) (pc' := 433) rfl (hb hby at_429) (by decide) (by decide) ?_
              exact Steps.refl _
            exact ⟨(1 : Int32), T_743, _, X_743, e_749, N_748, rfl, (own_anyT (k := 2) (by decide) (own_rT g_747 hc_751)), C_883⟩
        · skip
          have C_884 : Steps p.tables e below S0 (T_734.setTop (mkF m 433 #[.val (.int p0), .val (.long p1), .second, .val (.long p2), .second, .val (.int p3), .val (.int (own_len p0)), .val (.ref a_377), .val (.ref a_697), .unset, .unset] [(.int (1 : Int32))])) := by
            refine C_741.trans ?_
            refine XS.ifYes X_734.here hx rfl (pc0 := 289) (pc' := 428) rfl (hb hby at_289) rfl (i0_ne_t hc_742) (by decide) (by decide) ?_
            refine XS.iconst X_734.here hx rfl (hb hby at_428) ?_
            refine XS.goto X_734.here hx rfl (pc0 := 429) (pc' := 433) rfl (hb hby at_429) (by decide) (by decide) ?_
            exact Steps.refl _
          exact ⟨(1 : Int32), T_734, _, X_734, e_740, N_739, rfl, (own_anyT (k := 1) (by decide) (own_rT g_738 hc_742)), C_884⟩
      · skip
        have C_885 : Steps p.tables e below S0 (T_725.setTop (mkF m 433 #[.val (.int p0), .val (.long p1), .second, .val (.long p2), .second, .val (.int p3), .val (.int (own_len p0)), .val (.ref a_377), .val (.ref a_697), .unset, .unset] [(.int (1 : Int32))])) := by
          refine C_732.trans ?_
          refine XS.ifYes X_725.here hx rfl (pc0 := 280) (pc' := 428) rfl (hb hby at_280) rfl (i0_ne_t hc_733) (by decide) (by decide) ?_
          refine XS.iconst X_725.here hx rfl (hb hby at_428) ?_
          refine XS.goto X_725.here hx rfl (pc0 := 429) (pc' := 433) rfl (hb hby at_429) (by decide) (by decide) ?_
          exact Steps.refl _
        exact ⟨(1 : Int32), T_725, _, X_725, e_731, N_730, rfl, (own_anyT (k := 0) (by decide) (own_rT g_729 hc_733)), C_885⟩
    obtain ⟨bb_719, T_720, L_721, X_886, e_887, N_888, K_889, g_891, C_890⟩ := J_722
    have C_892 : Steps p.tables e below S0 (T_720.setTop (mkF m 435 #[.val (.int p0), .val (.long p1), .second, .val (.long p2), .second, .val (.int p3), .val (.int (own_len p0)), .val (.ref a_377), .val (.ref a_697), .val (.int bb_719), .unset] [])) := by
      refine C_890.trans ?_
      refine XS.istore X_886.here hx rfl (hb hby at_433) rfl (l' := #[.val (.int p0), .val (.long p1), .second, .val (.long p2), .second, .val (.int p3), .val (.int (own_len p0)), .val (.ref a_377), .val (.ref a_697), .val (.int bb_719), .unset]) rfl ?_
      exact Steps.refl _
    have J_896 : ∃ (bb_893 : Int32) (T_894 : State) (L_895 : List Loc), Stand p l e room_1 (s.setVm s.vm) m #[(.int p0), (.long p1), (.long p2), (.int p3)] below meth c T_894 L_895 3 36 ∧ T_894.heap = T_705.heap ∧ Fr n0 L_895 ∧ T_705.heap = T_705.heap ∧ (bb_893 = own_b (own_anyw x_680)) ∧ Steps p.tables e below S0 (T_894.setTop (mkF m 476 #[.val (.int p0), .val (.long p1), .second, .val (.long p2), .second, .val (.int p3), .val (.int (own_len p0)), .val (.ref a_377), .val (.ref a_697), .val (.int bb_719), .unset] [(.int bb_893)])) := by
      have V_897 : Arv Z T_705.heap a_377 k_371 .char (own_len p0) (own_iv x_680) (.int (0 : Int32)) := (V_703.keep K_709 (ninS (Nat.ne_of_lt (Nat.lt_of_lt_of_le g_683.lt (Nat.le_trans (Nat.le_refl _) (Nat.le_of_eq g_698.symm)))) nin0))
      have O_898 : Old Z n0 T_705.heap := (O_704.keep K_709 (allS (Nat.le_trans (own_n0 O_702) (Nat.le_of_eq g_698.symm)) all0))
      obtain ⟨_, _, ⟨T_899, L_899, k_899, n_899⟩, -, X_899, ⟨Lc_899, hQ_899, l_899, y_899, z_899⟩, st_899⟩ := Jvm.LawKit.callS X_886 hx (y := M360) hown (mvT hZ (w34 hw)) (mvT hZ (w35 hw)) (mvT hZ (w4 hw)) (mvT hZ (w36 hw)) (by decide) (backOf (W := 0) (rm_ww_0 l Z a0 hw [] G1 G3 HG T_705.heap n0 O_898 a_377 k_371 (own_len p0) x_680 V_897 g_684 g_685) hZ (w36 hw) (w4 hw) (by decide) (by decide)) (g := (mkF m 438 #[.val (.int p0), .val (.long p1), .second, .val (.long p2), .second, .val (.int p3), .val (.int (own_len p0)), .val (.ref a_377), .val (.ref a_697), .val (.int bb_719), .unset] [(.int (0 : Int32)), (.ref a_377)])) rfl (by rw [hml]; rfl) (argsL := [(.ref a_377), (.int (0 : Int32))]) (rest := []) (lenOf pd_364 rfl) rfl (by show 2 * 0 + _ ≤ _; exact Nat.le_of_eq rfl) (hb hby at_438) (fun _ _ => ⟨rfl, e_887, (by decide : 3 + 0 ≤ _), (by decide : 36 + 0 ≤ _)⟩)
      dsimp only [Pt.U, Pt.locs, Pt.cells, Pt.slots] at X_899 l_899 y_899 z_899 st_899 hQ_899
      have X_899 := own_cast X_899 l_899 y_899 z_899
      obtain ⟨i_900, rfl, N_901, e_902, g_903⟩ := hQ_899
      have N_904 := Fr.app N_888 N_901
      have e_905 : T_899.heap = T_705.heap := e_902
      have C_906 : Steps p.tables e below S0 (T_899.setTop (mkF m 441 #[.val (.int p0), .val (.long p1), .second, .val (.long p2), .second, .val (.int p3), .val (.int (own_len p0)), .val (.ref a_377), .val (.ref a_697), .val (.int bb_719), .unset] [(.int i_900)])) := by
        refine C_892.trans ?_
        refine XS.aload X_886.here hx rfl (hb hby at_435) rfl rfl ?_
        refine XS.iconst X_886.here hx rfl (hb hby at_437) ?_
        refine st_899 _ ?_
        exact Steps.refl _
      by_cases hc_907 : i_900 = (0 : Int32)
      · skip
        obtain ⟨_, _, ⟨T_908, L_908, k_908, n_908⟩, -, X_908, ⟨Lc_908, hQ_908, l_908, y_908, z_908⟩, st_908⟩ := Jvm.LawKit.callS X_899 hx (y := M360) hown (mvT hZ (w34 hw)) (mvT hZ (w35 hw)) (mvT hZ (w4 hw)) (mvT hZ (w36 hw)) (by decide) (backOf (W := 0) (rm_ww_1 l Z a0 hw [] G1 G3 HG T_705.heap n0 O_898 a_377 k_371 (own_len p0) x_680 V_897 g_684 g_685) hZ (w36 hw) (w4 hw) (by decide) (by decide)) (g := (mkF m 447 #[.val (.int p0), .val (.long p1), .second, .val (.long p2), .second, .val (.int p3), .val (.int (own_len p0)), .val (.ref a_377), .val (.ref a_697), .val (.int bb_719), .unset] [(.int (1 : Int32)), (.ref a_377)])) rfl (by rw [hml]; rfl) (argsL := [(.ref a_377), (.int (1 : Int32))]) (rest := []) (lenOf pd_364 rfl) rfl (by show 2 * 0 + _ ≤ _; exact Nat.le_of_eq rfl) (hb hby at_447) (fun _ _ => ⟨rfl, e_905, (by decide : 3 + 0 ≤ _), (by decide : 36 + 0 ≤ _)⟩)
        dsimp only [Pt.U, Pt.locs, Pt.cells, Pt.slots] at X_908 l_908 y_908 z_908 st_908 hQ_908
        have X_908 := own_cast X_908 l_908 y_908 z_908
        obtain ⟨i_909, rfl, N_910, e_911, g_912⟩ := hQ_908
        have N_913 := Fr.app N_904 N_910
        have e_914 : T_908.heap = T_705.heap := e_911
        have C_915 : Steps p.tables e below S0 (T_908.setTop (mkF m 450 #[.val (.int p0), .val (.long p1), .second, .val (.long p2), .second, .val (.int p3), .val (.int (own_len p0)), .val (.ref a_377), .val (.ref a_697), .val (.int bb_719), .unset] [(.int i_909)])) := by
          refine C_906.trans ?_
          refine XS.ifNo X_899.here hx rfl (hb hby at_441) rfl (i0_ne_f hc_907) ?_
          refine XS.aload X_899.here hx rfl (hb hby at_444) rfl rfl ?_
          refine XS.iconst X_899.here hx rfl (hb hby at_446) ?_
          refine st_908 _ ?_
          exact Steps.refl _
        by_cases hc_916 : i_909 = (0 : Int32)
        · skip
          obtain ⟨_, _, ⟨T_917, L_917, k_917, n_917⟩, -, X_917, ⟨Lc_917, hQ_917, l_917, y_917, z_917⟩, st_917⟩ := Jvm.LawKit.callS X_908 hx (y := M360) hown (mvT hZ (w34 hw)) (mvT hZ (w35 hw)) (mvT hZ (w4 hw)) (mvT hZ (w36 hw)) (by decide) (backOf (W := 0) (rm_ww_2 l Z a0 hw [] G1 G3 HG T_705.heap n0 O_898 a_377 k_371 (own_len p0) x_680 V_897 g_684 g_685) hZ (w36 hw) (w4 hw) (by decide) (by decide)) (g := (mkF m 456 #[.val (.int p0), .val (.long p1), .second, .val (.long p2), .second, .val (.int p3), .val (.int (own_len p0)), .val (.ref a_377), .val (.ref a_697), .val (.int bb_719), .unset] [(.int (2 : Int32)), (.ref a_377)])) rfl (by rw [hml]; rfl) (argsL := [(.ref a_377), (.int (2 : Int32))]) (rest := []) (lenOf pd_364 rfl) rfl (by show 2 * 0 + _ ≤ _; exact Nat.le_of_eq rfl) (hb hby at_456) (fun _ _ => ⟨rfl, e_914, (by decide : 3 + 0 ≤ _), (by decide : 36 + 0 ≤ _)⟩)
          dsimp only [Pt.U, Pt.locs, Pt.cells, Pt.slots] at X_917 l_917 y_917 z_917 st_917 hQ_917
          have X_917 := own_cast X_917 l_917 y_917 z_917
          obtain ⟨i_918, rfl, N_919, e_920, g_921⟩ := hQ_917
          have N_922 := Fr.app N_913 N_919
          have e_923 : T_917.heap = T_705.heap := e_920
          have C_924 : Steps p.tables e below S0 (T_917.setTop (mkF m 459 #[.val (.int p0), .val (.long p1), .second, .val (.long p2), .second, .val (.int p3), .val (.int (own_len p0)), .val (.ref a_377), .val (.ref a_697), .val (.int bb_719), .unset] [(.int i_918)])) := by
            refine C_915.trans ?_
            refine XS.ifNo X_908.here hx rfl (hb hby at_450) rfl (i0_ne_f hc_916) ?_
            refine XS.aload X_908.here hx rfl (hb hby at_453) rfl rfl ?_
            refine XS.iconst X_908.here hx rfl (hb hby at_455) ?_
            refine st_917 _ ?_
            exact Steps.refl _
          by_cases hc_925 : i_918 = (0 : Int32)
          · skip
            obtain ⟨_, _, ⟨T_926, L_926, k_926, n_926⟩, -, X_926, ⟨Lc_926, hQ_926, l_926, y_926, z_926⟩, st_926⟩ := Jvm.LawKit.callS X_917 hx (y := M360) hown (mvT hZ (w34 hw)) (mvT hZ (w35 hw)) (mvT hZ (w4 hw)) (mvT hZ (w36 hw)) (by decide) (backOf (W := 0) (rm_ww_3 l Z a0 hw [] G1 G3 HG T_705.heap n0 O_898 a_377 k_371 (own_len p0) x_680 V_897 g_684 g_685) hZ (w36 hw) (w4 hw) (by decide) (by decide)) (g := (mkF m 465 #[.val (.int p0), .val (.long p1), .second, .val (.long p2), .second, .val (.int p3), .val (.int (own_len p0)), .val (.ref a_377), .val (.ref a_697), .val (.int bb_719), .unset] [(.int (3 : Int32)), (.ref a_377)])) rfl (by rw [hml]; rfl) (argsL := [(.ref a_377), (.int (3 : Int32))]) (rest := []) (lenOf pd_364 rfl) rfl (by show 2 * 0 + _ ≤ _; exact Nat.le_of_eq rfl) (hb hby at_465) (fun _ _ => ⟨rfl, e_923, (by decide : 3 + 0 ≤ _), (by decide : 36 + 0 ≤ _)⟩)
            dsimp only [Pt.U, Pt.locs, Pt.cells, Pt.slots] at X_926 l_926 y_926 z_926 st_926 hQ_926
            have X_926 := own_cast X_926 l_926 y_926 z_926
            obtain ⟨i_927, rfl, N_928, e_929, g_930⟩ := hQ_926
            have N_931 := Fr.app N_922 N_928
            have e_932 : T_926.heap = T_705.heap := e_929
            have C_933 : Steps p.tables e below S0 (T_926.setTop (mkF m 468 #[.val (.int p0), .val (.long p1), .second, .val (.long p2), .second, .val (.int p3), .val (.int (own_len p0)), .val (.ref a_377), .val (.ref a_697), .val (.int bb_719), .unset] [(.int i_927)])) := by
              refine C_924.trans ?_
              refine XS.ifNo X_917.here hx rfl (hb hby at_459) rfl (i0_ne_f hc_925) ?_
              refine XS.aload X_917.here hx rfl (hb hby at_462) rfl rfl ?_
              refine XS.iconst X_917.here hx rfl (hb hby at_464) ?_
              refine st_926 _ ?_
              exact Steps.refl _
            by_cases hc_934 : i_927 = (0 : Int32)
            · skip
              have C_935 : Steps p.tables e below S0 (T_926.setTop (mkF m 476 #[.val (.int p0), .val (.long p1), .second, .val (.long p2), .second, .val (.int p3), .val (.int (own_len p0)), .val (.ref a_377), .val (.ref a_697), .val (.int bb_719), .unset] [(.int (0 : Int32))])) := by
                refine C_933.trans ?_
                refine XS.ifYes X_926.here hx rfl (pc0 := 468) (pc' := 475) rfl (hb hby at_468) rfl (i0_eq_t hc_934) (by decide) (by decide) ?_
                refine XS.iconst X_926.here hx rfl (hb hby at_475) ?_
                exact Steps.refl _
              exact ⟨(0 : Int32), T_926, _, X_926, e_932, N_931, rfl, (own_wF (own_rF g_903 hc_907) (own_rF g_912 hc_916) (own_rF g_921 hc_925) (own_rF g_930 hc_934)), C_935⟩
            · skip
              have C_936 : Steps p.tables e below S0 (T_926.setTop (mkF m 476 #[.val (.int p0), .val (.long p1), .second, .val (.long p2), .second, .val (.int p3), .val (.int (own_len p0)), .val (.ref a_377), .val (.ref a_697), .val (.int bb_719), .unset] [(.int (1 : Int32))])) := by
                refine C_933.trans ?_
                refine XS.ifNo X_926.here hx rfl (hb hby at_468) rfl (i0_eq_f hc_934) ?_
                refine XS.iconst X_926.here hx rfl (hb hby at_471) ?_
                refine XS.goto X_926.here hx rfl (pc0 := 472) (pc' := 476) rfl (hb hby at_472) (by decide) (by decide) ?_
                exact Steps.refl _
              exact ⟨(1 : Int32), T_926, _, X_926, e_932, N_931, rfl, (own_wT (k := 3) (by decide) (own_rT g_930 hc_934)), C_936⟩
          · skip
            have C_937 : Steps p.tables e below S0 (T_917.setTop (mkF m 476 #[.val (.int p0), .val (.long p1), .second, .val (.long p2), .second, .val (.int p3), .val (.int (own_len p0)), .val (.ref a_377), .val (.ref a_697), .val (.int bb_719), .unset] [(.int (1 : Int32))])) := by
              refine C_924.trans ?_
              refine XS.ifYes X_917.here hx rfl (pc0 := 459) (pc' := 471) rfl (hb hby at_459) rfl (i0_ne_t hc_925) (by decide) (by decide) ?_
              refine XS.iconst X_917.here hx rfl (hb hby at_471) ?_
              refine XS.goto X_917.here hx rfl (pc0 := 472) (pc' := 476) rfl (hb hby at_472) (by decide) (by decide) ?_
              exact Steps.refl _
            exact ⟨(1 : Int32), T_917, _, X_917, e_923, N_922, rfl, (own_wT (k := 2) (by decide) (own_rT g_921 hc_925)), C_937⟩
        · skip
          have C_938 : Steps p.tables e below S0 (T_908.setTop (mkF m 476 #[.val (.int p0), .val (.long p1), .second, .val (.long p2), .second, .val (.int p3), .val (.int (own_len p0)), .val (.ref a_377), .val (.ref a_697), .val (.int bb_719), .unset] [(.int (1 : Int32))])) := by
            refine C_915.trans ?_
            refine XS.ifYes X_908.here hx rfl (pc0 := 450) (pc' := 471) rfl (hb hby at_450) rfl (i0_ne_t hc_916) (by decide) (by decide) ?_
            refine XS.iconst X_908.here hx rfl (hb hby at_471) ?_
            refine XS.goto X_908.here hx rfl (pc0 := 472) (pc' := 476) rfl (hb hby at_472) (by decide) (by decide) ?_
            exact Steps.refl _
          exact ⟨(1 : Int32), T_908, _, X_908, e_914, N_913, rfl, (own_wT (k := 1) (by decide) (own_rT g_912 hc_916)), C_938⟩
      · skip
        have C_939 : Steps p.tables e below S0 (T_899.setTop (mkF m 476 #[.val (.int p0), .val (.long p1), .second, .val (.long p2), .second, .val (.int p3), .val (.int (own_len p0)), .val (.ref a_377), .val (.ref a_697), .val (.int bb_719), .unset] [(.int (1 : Int32))])) := by
          refine C_906.trans ?_
          refine XS.ifYes X_899.here hx rfl (pc0 := 441) (pc' := 471) rfl (hb hby at_441) rfl (i0_ne_t hc_907) (by decide) (by decide) ?_
          refine XS.iconst X_899.here hx rfl (hb hby at_471) ?_
          refine XS.goto X_899.here hx rfl (pc0 := 472) (pc' := 476) rfl (hb hby at_472) (by decide) (by decide) ?_
          exact Steps.refl _
        exact ⟨(1 : Int32), T_899, _, X_899, e_905, N_904, rfl, (own_wT (k := 0) (by decide) (own_rT g_903 hc_907)), C_939⟩
    obtain ⟨bb_893, T_894, L_895, X_940, e_941, N_942, K_943, g_945, C_944⟩ := J_896
    have O_946 : Old Z n0 T_705.heap := (O_704.keep K_709 (allS (Nat.le_trans (own_n0 O_702) (Nat.le_of_eq g_698.symm)) all0))
    obtain ⟨_, _, ⟨T_947, L_947, k_947, n_947⟩, -, X_947, ⟨Lc_947, hQ_947, l_947, y_947, z_947⟩, st_947⟩ := Jvm.LawKit.callS X_940 hx (y := M445) hown (mvT hZ (w40 hw)) (mvT hZ (w41 hw)) (mvT hZ (w42 hw)) (mvT hZ (w43 hw)) (by decide) (backOf (W := 0) (rm_mhh l Z a0 hw [] G1 G3 HG T_705.heap n0 O_946 a_697 a_706 k_707 (own_len p0) x_680 g_710 g_711 g_712 g_714 (own_len0 p0) g_684 g_685) hZ (w43 hw) (w42 hw) (by decide) (by decide)) (g := (mkF m 480 #[.val (.int p0), .val (.long p1), .second, .val (.long p2), .second, .val (.int p3), .val (.int (own_len p0)), .val (.ref a_377), .val (.ref a_697), .val (.int bb_719), .val (.int bb_893)] [(.ref a_697)])) rfl (by rw [hml]; rfl) (argsL := [(.ref a_697)]) (rest := []) (lenOf pd_521 rfl) rfl (by show 2 * 0 + _ ≤ _; exact Nat.le_of_eq rfl) (hb hby at_480) (fun _ _ => ⟨rfl, e_941, (by decide : 3 + 0 ≤ _), (by decide : 36 + 0 ≤ _)⟩)
    dsimp only [Pt.U, Pt.locs, Pt.cells, Pt.slots] at X_947 l_947 y_947 z_947 st_947 hQ_947
    have X_947 := own_cast X_947 l_947 y_947 z_947
    obtain ⟨i_948, rfl, N_949, e_950, g_951⟩ := hQ_947
    have N_952 := Fr.app N_942 N_949
    have e_953 : T_947.heap = T_705.heap := e_950
    have C_954 : Steps p.tables e below S0 (T_947.setTop (mkF m 485 #[.val (.int p0), .val (.long p1), .second, .val (.long p2), .second, .val (.int p3), .val (.int (own_len p0)), .val (.ref a_377), .val (.ref a_697), .val (.int bb_719), .val (.int bb_893)] [(.int bb_719), (.int i_948)])) := by
      refine C_944.trans ?_
      refine XS.istore X_940.here hx rfl (hb hby at_476) rfl (l' := #[.val (.int p0), .val (.long p1), .second, .val (.long p2), .second, .val (.int p3), .val (.int (own_len p0)), .val (.ref a_377), .val (.ref a_697), .val (.int bb_719), .val (.int bb_893)]) rfl ?_
      refine XS.aload X_940.here hx rfl (hb hby at_478) rfl rfl ?_
      refine st_947 _ ?_
      refine XS.iload X_947.here hx rfl (hb hby at_483) rfl ?_
      exact Steps.refl _
    by_cases hc_955 : bb_719 = (0 : Int32)
    · skip
      have C_956 : Steps p.tables e below S0 (T_947.setTop (mkF m 490 #[.val (.int p0), .val (.long p1), .second, .val (.long p2), .second, .val (.int p3), .val (.int (own_len p0)), .val (.ref a_377), .val (.ref a_697), .val (.int bb_719), .val (.int bb_893)] [(.int bb_893), (.int i_948)])) := by
        refine C_954.trans ?_
        refine XS.ifNo X_947.here hx rfl (hb hby at_485) rfl (i0_ne_f hc_955) ?_
        refine XS.iload X_947.here hx rfl (hb hby at_488) rfl ?_
        exact Steps.refl _
      by_cases hc_957 : bb_893 = (0 : Int32)
      · skip
        have C_958 : Steps p.tables e below S0 (T_947.setTop (mkF m 506 #[.val (.int p0), .val (.long p1), .second, .val (.long p2), .second, .val (.int p3), .val (.int (own_len p0)), .val (.ref a_377), .val (.ref a_697), .val (.int bb_719), .val (.int bb_893)] [(.int (1 : Int32))])) := by
          refine C_956.trans ?_
          refine XS.ifYes X_947.here hx rfl (pc0 := 490) (pc' := 497) rfl (hb hby at_490) rfl (i0_eq_t hc_957) (by decide) (by decide) ?_
          refine XS.iconst X_947.here hx rfl (hb hby at_497) ?_
          refine XS.icmpNo X_947.here hx rfl (hb hby at_498) rfl (ii_ne_f (own_L0 g_951 (Nat.le_trans (Nat.le_of_eq g_684) (own_lenc p0)) g_891 hc_955 g_945 hc_957)) ?_
          refine XS.iconst X_947.here hx rfl (hb hby at_501) ?_
          refine XS.goto X_947.here hx rfl (pc0 := 502) (pc' := 506) rfl (hb hby at_502) (by decide) (by decide) ?_
          exact Steps.refl _
        have K_959 : Keep h0 T_705.heap [] := ((((((((((((((((((((Keep.refl _ _).ext E_374).trans K_394 (allS (Or.inr (Nat.le_trans (Nat.le_refl _) (Nat.le_of_eq g_378.symm))) all0)).trans K_413 (allS (Or.inr (Nat.le_trans (Nat.le_refl _) (Nat.le_of_eq g_378.symm))) all0)).trans K_432 (allS (Or.inr (Nat.le_trans (Nat.le_refl _) (Nat.le_of_eq g_378.symm))) all0)).trans K_451 (allS (Or.inr (Nat.le_trans (Nat.le_refl _) (Nat.le_of_eq g_378.symm))) all0)).trans K_471 (allS (Or.inr (Nat.le_trans (Nat.le_refl _) (Nat.le_of_eq g_378.symm))) all0)).trans K_490 (allS (Or.inr (Nat.le_trans (Nat.le_refl _) (Nat.le_of_eq g_378.symm))) all0)).trans K_509 (allS (Or.inr (Nat.le_trans (Nat.le_refl _) (Nat.le_of_eq g_378.symm))) all0)).trans K_528 (allS (Or.inr (Nat.le_trans (Nat.le_refl _) (Nat.le_of_eq g_378.symm))) all0)).trans K_548 (allS (Or.inr (Nat.le_trans (Nat.le_refl _) (Nat.le_of_eq g_378.symm))) all0)).trans K_567 (allS (Or.inr (Nat.le_trans (Nat.le_refl _) (Nat.le_of_eq g_378.symm))) all0)).trans K_586 (allS (Or.inr (Nat.le_trans (Nat.le_refl _) (Nat.le_of_eq g_378.symm))) all0)).trans K_605 (allS (Or.inr (Nat.le_trans (Nat.le_refl _) (Nat.le_of_eq g_378.symm))) all0)).trans K_624 (allS (Or.inr (Nat.le_trans (Nat.le_refl _) (Nat.le_of_eq g_378.symm))) all0)).trans K_644 (allS (Or.inr (Nat.le_trans (Nat.le_refl _) (Nat.le_of_eq g_378.symm))) all0)).trans K_663 (allS (Or.inr (Nat.le_trans (Nat.le_refl _) (Nat.le_of_eq g_378.symm))) all0)).trans K_682 (allS (Or.inr (Nat.le_trans (Nat.le_refl _) (Nat.le_of_eq g_378.symm))) all0)).ext E_693).trans K_709 (allS (Or.inr (Nat.le_trans (Nat.le_trans (Nat.le_trans (Nat.le_trans (Nat.le_trans (Nat.le_trans (Nat.le_trans (Nat.le_trans (Nat.le_trans (Nat.le_trans (Nat.le_trans (Nat.le_trans (Nat.le_trans (Nat.le_trans (Nat.le_trans (Nat.le_trans (Nat.le_trans E_374.1 K_394.1) K_413.1) K_432.1) K_451.1) K_471.1) K_490.1) K_509.1) K_528.1) K_548.1) K_567.1) K_586.1) K_605.1) K_624.1) K_644.1) K_663.1) K_682.1) (Nat.le_of_eq g_698.symm))) all0))
        obtain ⟨fs, hr, hrun, hended, hRE⟩ := X_947.leaveW hS0 (by rw [show T_947.heap = T_705.heap from e_953]; exact (Nat.le_trans (Nat.le_refl _) (Nat.le_trans (Nat.le_trans (Nat.le_trans (Nat.le_trans (Nat.le_trans (Nat.le_trans (Nat.le_trans (Nat.le_trans (Nat.le_trans (Nat.le_trans (Nat.le_trans (Nat.le_trans (Nat.le_trans (Nat.le_trans (Nat.le_trans (Nat.le_trans (Nat.le_trans (Nat.le_trans E_374.1 K_394.1) K_413.1) K_432.1) K_451.1) K_471.1) K_490.1) K_509.1) K_528.1) K_548.1) K_567.1) K_586.1) K_605.1) K_624.1) K_644.1) K_663.1) K_682.1) E_693.1) K_709.1))) (v := some (.int (1 : Int32))) (fun h => by rw [Bd.returns] at h; cases h)
        refine ⟨_, _, C_958.trans (retN X_947 hx (t := .boolean) Bd.returns (by simp) (hb hby at_506) hr), hrun, hended, _, _, rfl, ?_, ?_, hRE.1, hRE.2.1, hRE.2.2.1, hRE.2.2.2.mono (by decide) (by decide)⟩
        · show Q_law Z G1 G3 p0 p1 p2 p3 h0 n0 (some (.int (1 : Int32))) T_947.heap _
          rw [e_953]
          exact ⟨rfl, N_952, K_959⟩
        · show CHr Z consts_1 s.vm s.heap T_947.vm T_947.heap
          rw [hh, show T_947.heap = T_705.heap from e_953]
          exact CR_717.trans (CHv.at X_947 hZ hEL CH_716)
      · skip
        have C_960 : Steps p.tables e below S0 (T_947.setTop (mkF m 506 #[.val (.int p0), .val (.long p1), .second, .val (.long p2), .second, .val (.int p3), .val (.int (own_len p0)), .val (.ref a_377), .val (.ref a_697), .val (.int bb_719), .val (.int bb_893)] [(.int (1 : Int32))])) := by
          refine C_956.trans ?_
          refine XS.ifNo X_947.here hx rfl (hb hby at_490) rfl (i0_eq_f hc_957) ?_
          refine XS.iconst X_947.here hx rfl (hb hby at_493) ?_
          refine XS.goto X_947.here hx rfl (pc0 := 494) (pc' := 498) rfl (hb hby at_494) (by decide) (by decide) ?_
          refine XS.icmpNo X_947.here hx rfl (hb hby at_498) rfl (ii_ne_f (own_L2 g_951 (Nat.le_trans (Nat.le_of_eq g_684) (own_lenc p0)) g_945 hc_957)) ?_
          refine XS.iconst X_947.here hx rfl (hb hby at_501) ?_
          refine XS.goto X_947.here hx rfl (pc0 := 502) (pc' := 506) rfl (hb hby at_502) (by decide) (by decide) ?_
          exact Steps.refl _
        have K_961 : Keep h0 T_705.heap [] := ((((((((((((((((((((Keep.refl _ _).ext E_374).trans K_394 (allS (Or.inr (Nat.le_trans (Nat.le_refl _) (Nat.le_of_eq g_378.symm))) all0)).trans K_413 (allS (Or.inr (Nat.le_trans (Nat.le_refl _) (Nat.le_of_eq g_378.symm))) all0)).trans K_432 (allS (Or.inr (Nat.le_trans (Nat.le_refl _) (Nat.le_of_eq g_378.symm))) all0)).trans K_451 (allS (Or.inr (Nat.le_trans (Nat.le_refl _) (Nat.le_of_eq g_378.symm))) all0)).trans K_471 (allS (Or.inr (Nat.le_trans (Nat.le_refl _) (Nat.le_of_eq g_378.symm))) all0)).trans K_490 (allS (Or.inr (Nat.le_trans (Nat.le_refl _) (Nat.le_of_eq g_378.symm))) all0)).trans K_509 (allS (Or.inr (Nat.le_trans (Nat.le_refl _) (Nat.le_of_eq g_378.symm))) all0)).trans K_528 (allS (Or.inr (Nat.le_trans (Nat.le_refl _) (Nat.le_of_eq g_378.symm))) all0)).trans K_548 (allS (Or.inr (Nat.le_trans (Nat.le_refl _) (Nat.le_of_eq g_378.symm))) all0)).trans K_567 (allS (Or.inr (Nat.le_trans (Nat.le_refl _) (Nat.le_of_eq g_378.symm))) all0)).trans K_586 (allS (Or.inr (Nat.le_trans (Nat.le_refl _) (Nat.le_of_eq g_378.symm))) all0)).trans K_605 (allS (Or.inr (Nat.le_trans (Nat.le_refl _) (Nat.le_of_eq g_378.symm))) all0)).trans K_624 (allS (Or.inr (Nat.le_trans (Nat.le_refl _) (Nat.le_of_eq g_378.symm))) all0)).trans K_644 (allS (Or.inr (Nat.le_trans (Nat.le_refl _) (Nat.le_of_eq g_378.symm))) all0)).trans K_663 (allS (Or.inr (Nat.le_trans (Nat.le_refl _) (Nat.le_of_eq g_378.symm))) all0)).trans K_682 (allS (Or.inr (Nat.le_trans (Nat.le_refl _) (Nat.le_of_eq g_378.symm))) all0)).ext E_693).trans K_709 (allS (Or.inr (Nat.le_trans (Nat.le_trans (Nat.le_trans (Nat.le_trans (Nat.le_trans (Nat.le_trans (Nat.le_trans (Nat.le_trans (Nat.le_trans (Nat.le_trans (Nat.le_trans (Nat.le_trans (Nat.le_trans (Nat.le_trans (Nat.le_trans (Nat.le_trans (Nat.le_trans E_374.1 K_394.1) K_413.1) K_432.1) K_451.1) K_471.1) K_490.1) K_509.1) K_528.1) K_548.1) K_567.1) K_586.1) K_605.1) K_624.1) K_644.1) K_663.1) K_682.1) (Nat.le_of_eq g_698.symm))) all0))
        obtain ⟨fs, hr, hrun, hended, hRE⟩ := X_947.leaveW hS0 (by rw [show T_947.heap = T_705.heap from e_953]; exact (Nat.le_trans (Nat.le_refl _) (Nat.le_trans (Nat.le_trans (Nat.le_trans (Nat.le_trans (Nat.le_trans (Nat.le_trans (Nat.le_trans (Nat.le_trans (Nat.le_trans (Nat.le_trans (Nat.le_trans (Nat.le_trans (Nat.le_trans (Nat.le_trans (Nat.le_trans (Nat.le_trans (Nat.le_trans (Nat.le_trans E_374.1 K_394.1) K_413.1) K_432.1) K_451.1) K_471.1) K_490.1) K_509.1) K_528.1) K_548.1) K_567.1) K_586.1) K_605.1) K_624.1) K_644.1) K_663.1) K_682.1) E_693.1) K_709.1))) (v := some (.int (1 : Int32))) (fun h => by rw [Bd.returns] at h; cases h)
        refine ⟨_, _, C_960.trans (retN X_947 hx (t := .boolean) Bd.returns (by simp) (hb hby at_506) hr), hrun, hended, _, _, rfl, ?_, ?_, hRE.1, hRE.2.1, hRE.2.2.1, hRE.2.2.2.mono (by decide) (by decide)⟩
        · show Q_law Z G1 G3 p0 p1 p2 p3 h0 n0 (some (.int (1 : Int32))) T_947.heap _
          rw [e_953]
          exact ⟨rfl, N_952, K_961⟩
        · show CHr Z consts_1 s.vm s.heap T_947.vm T_947.heap
          rw [hh, show T_947.heap = T_705.heap from e_953]
          exact CR_717.trans (CHv.at X_947 hZ hEL CH_716)
    · skip
      have C_962 : Steps p.tables e below S0 (T_947.setTop (mkF m 506 #[.val (.int p0), .val (.long p1), .second, .val (.long p2), .second, .val (.int p3), .val (.int (own_len p0)), .val (.ref a_377), .val (.ref a_697), .val (.int bb_719), .val (.int bb_893)] [(.int (1 : Int32))])) := by
        refine C_954.trans ?_
        refine XS.ifYes X_947.here hx rfl (pc0 := 485) (pc' := 493) rfl (hb hby at_485) rfl (i0_ne_t hc_955) (by decide) (by decide) ?_
        refine XS.iconst X_947.here hx rfl (hb hby at_493) ?_
        refine XS.goto X_947.here hx rfl (pc0 := 494) (pc' := 498) rfl (hb hby at_494) (by decide) (by decide) ?_
        refine XS.icmpNo X_947.here hx rfl (hb hby at_498) rfl (ii_ne_f (own_L1 g_951 (Nat.le_trans (Nat.le_of_eq g_684) (own_lenc p0)) g_891 hc_955)) ?_
        refine XS.iconst X_947.here hx rfl (hb hby at_501) ?_
        refine XS.goto X_947.here hx rfl (pc0 := 502) (pc' := 506) rfl (hb hby at_502) (by decide) (by decide) ?_
        exact Steps.refl _
      have K_963 : Keep h0 T_705.heap [] := ((((((((((((((((((((Keep.refl _ _).ext E_374).trans K_394 (allS (Or.inr (Nat.le_trans (Nat.le_refl _) (Nat.le_of_eq g_378.symm))) all0)).trans K_413 (allS (Or.inr (Nat.le_trans (Nat.le_refl _) (Nat.le_of_eq g_378.symm))) all0)).trans K_432 (allS (Or.inr (Nat.le_trans (Nat.le_refl _) (Nat.le_of_eq g_378.symm))) all0)).trans K_451 (allS (Or.inr (Nat.le_trans (Nat.le_refl _) (Nat.le_of_eq g_378.symm))) all0)).trans K_471 (allS (Or.inr (Nat.le_trans (Nat.le_refl _) (Nat.le_of_eq g_378.symm))) all0)).trans K_490 (allS (Or.inr (Nat.le_trans (Nat.le_refl _) (Nat.le_of_eq g_378.symm))) all0)).trans K_509 (allS (Or.inr (Nat.le_trans (Nat.le_refl _) (Nat.le_of_eq g_378.symm))) all0)).trans K_528 (allS (Or.inr (Nat.le_trans (Nat.le_refl _) (Nat.le_of_eq g_378.symm))) all0)).trans K_548 (allS (Or.inr (Nat.le_trans (Nat.le_refl _) (Nat.le_of_eq g_378.symm))) all0)).trans K_567 (allS (Or.inr (Nat.le_trans (Nat.le_refl _) (Nat.le_of_eq g_378.symm))) all0)).trans K_586 (allS (Or.inr (Nat.le_trans (Nat.le_refl _) (Nat.le_of_eq g_378.symm))) all0)).trans K_605 (allS (Or.inr (Nat.le_trans (Nat.le_refl _) (Nat.le_of_eq g_378.symm))) all0)).trans K_624 (allS (Or.inr (Nat.le_trans (Nat.le_refl _) (Nat.le_of_eq g_378.symm))) all0)).trans K_644 (allS (Or.inr (Nat.le_trans (Nat.le_refl _) (Nat.le_of_eq g_378.symm))) all0)).trans K_663 (allS (Or.inr (Nat.le_trans (Nat.le_refl _) (Nat.le_of_eq g_378.symm))) all0)).trans K_682 (allS (Or.inr (Nat.le_trans (Nat.le_refl _) (Nat.le_of_eq g_378.symm))) all0)).ext E_693).trans K_709 (allS (Or.inr (Nat.le_trans (Nat.le_trans (Nat.le_trans (Nat.le_trans (Nat.le_trans (Nat.le_trans (Nat.le_trans (Nat.le_trans (Nat.le_trans (Nat.le_trans (Nat.le_trans (Nat.le_trans (Nat.le_trans (Nat.le_trans (Nat.le_trans (Nat.le_trans (Nat.le_trans E_374.1 K_394.1) K_413.1) K_432.1) K_451.1) K_471.1) K_490.1) K_509.1) K_528.1) K_548.1) K_567.1) K_586.1) K_605.1) K_624.1) K_644.1) K_663.1) K_682.1) (Nat.le_of_eq g_698.symm))) all0))
      obtain ⟨fs, hr, hrun, hended, hRE⟩ := X_947.leaveW hS0 (by rw [show T_947.heap = T_705.heap from e_953]; exact (Nat.le_trans (Nat.le_refl _) (Nat.le_trans (Nat.le_trans (Nat.le_trans (Nat.le_trans (Nat.le_trans (Nat.le_trans (Nat.le_trans (Nat.le_trans (Nat.le_trans (Nat.le_trans (Nat.le_trans (Nat.le_trans (Nat.le_trans (Nat.le_trans (Nat.le_trans (Nat.le_trans (Nat.le_trans (Nat.le_trans E_374.1 K_394.1) K_413.1) K_432.1) K_451.1) K_471.1) K_490.1) K_509.1) K_528.1) K_548.1) K_567.1) K_586.1) K_605.1) K_624.1) K_644.1) K_663.1) K_682.1) E_693.1) K_709.1))) (v := some (.int (1 : Int32))) (fun h => by rw [Bd.returns] at h; cases h)
      refine ⟨_, _, C_962.trans (retN X_947 hx (t := .boolean) Bd.returns (by simp) (hb hby at_506) hr), hrun, hended, _, _, rfl, ?_, ?_, hRE.1, hRE.2.1, hRE.2.2.1, hRE.2.2.2.mono (by decide) (by decide)⟩
      · show Q_law Z G1 G3 p0 p1 p2 p3 h0 n0 (some (.int (1 : Int32))) T_947.heap _
        rw [e_953]
        exact ⟨rfl, N_952, K_963⟩
      · show CHr Z consts_1 s.vm s.heap T_947.vm T_947.heap
        rw [hh, show T_947.heap = T_705.heap from e_953]
        exact CR_717.trans (CHv.at X_947 hZ hEL CH_716)
theorem own_sta {s : State} {args : Array Value} {C n d K : String} (hx : (Jvm.Cond.exactly (.static C n d) K).value args s none s [] = some true) (hi : (Jvm.Cond.initialized C).before args s = true) (hl : (Jvm.Cond.laysStatic C n d).before args s = true) :
    ∃ a, Sta s s.heap C n d (.ref a) ∧ Exa s s.heap a K ∧ (Term.static C n d).eval args s none [] s = some (.ref a) := by
  obtain ⟨a, c', cell, k, e1, -⟩ := Cond.exactly_spec (Cond.before_iff.mpr hx)
  exact ⟨a, Sta.start e1 (Or.inr ⟨hi, hl⟩), Exa.start e1 hx, e1⟩
theorem own_fld {s : State} {args : Array Value} {t : Term} {a : Addr} {O n d : String} {v : Value} (ev : t.eval args s none [] s = some (.ref a)) (h : (Term.field t O n d).eval args s none [] s = some v) : Fld s s.heap a O n d v :=
  Fld.start (by simpa [Term.eval, ev] using h)
theorem own_fldI {s : State} {args : Array Value} {t : Term} {a : Addr} {O n d : String} {i : Int32} (ev : t.eval args s none [] s = some (.ref a)) (h : (Jvm.Cond.eq (Term.field t O n d) (.int i)).value args s none s [] = some true) : Fld s s.heap a O n d (.int i) :=
  own_fld ev (eqv_i (Term.int_eval i) h)
set_option maxRecDepth 65536 in
set_option maxHeartbeats 40000000 in
theorem comes_1 {Post : Tables → Env → Array Value → State → Outcome → State → Prop} (hpost : ∀ tb e args s v u, (limb_1_1.after args s (.returned v) u = true ∧ limb_1_2.after args s (.returned v) u = true ∧ True) → ReturnedEndW s (.returned v) u (Jvm.fieldLocs frame_1_writes args s ++ Jvm.arrayLocs frame_1_arrays args s ++ Jvm.staticLocs frame_1_statics s) 16 1216 → Post tb e args s (.returned v) u) :
    ArmFor flags0 classFile x code maxLocals ret World_1 tables_1 room_1 Calls_1 rest_1 Pre_1 Post := by
  intro l hfl _ _ p e ha hc hk s m args below hf hA hF happ hP
  obtain ⟨hcalls, hrest, hpre⟩ := hP
  obtain ⟨-, -, -, hnamed, -, -, -, hat⟩ := (Spec.applies_iff hf).mp happ
  obtain ⟨hg, hn⟩ := and_e (Cond.before_iff.mp (show (Jvm.Cond.and given_1 narrow_1).before args s = true from hpre))
  obtain ⟨h1, g0⟩ := and_e hg
  obtain ⟨a0, g1⟩ := and_e g0
  obtain ⟨a1, g2⟩ := and_e g1
  obtain ⟨a2, g3⟩ := and_e g2
  have a3 := g3
  obtain ⟨w0, w1, w2, w3, rfl⟩ : ∃ w0 w1 w2 w3 : Value, args = #[w0, w1, w2, w3] := by
    have hs : args.size = 4 := by simpa [Cond.value, given_1] using h1
    obtain ⟨L⟩ := args
    match L, hs with
    | [w0, w1, w2, w3], _ => exact ⟨w0, w1, w2, w3, rfl⟩
  have hw := fun d (hd : d ∈ tables_1) => atoms_spec (ws := Jvm.Cond.code x code maxLocals ret :: tables_1) hat d (List.mem_cons_of_mem _ hd)
  obtain ⟨hsets, hown0⟩ := atoms_of _ (rest_1_c_eq ▸ (show rest_1_c.before _ s = true from hrest))
  have hfit : Fit s := fun {y c} hc i hi => by
    obtain ⟨ha, rfl⟩ := Array.getElem?_eq_some_iff.mp hc
    have q := List.all_eq_true.mp ((Array.all_eq_true_iff_forall_mem.mp hF) _ (Array.getElem_mem ha)) i (List.mem_range.mpr hi)
    simpa [Array.getElem?_eq_getElem hi] using q
  obtain ⟨i0, q0⟩ := is_v a0
  obtain rfl : w0 = (.int i0) := Option.some.inj q0
  obtain ⟨i1, q1⟩ := isL_v a1
  obtain rfl : w1 = (.long i1) := Option.some.inj q1
  obtain ⟨i2, q2⟩ := isL_v a2
  obtain rfl : w2 = (.long i2) := Option.some.inj q2
  obtain ⟨i3, q3⟩ := is_v a3
  obtain rfl : w3 = (.int i3) := Option.some.inj q3
  obtain ⟨iCS, eCS⟩ := is_v (Cond.before_iff.mp (hsets _ (List.mem_of_getElem? (i := 1) rfl)))
  have SCS : Sta s s.heap "java/lang/String" "COMPACT_STRINGS" "Z" (.int iCS) := Sta.start eCS (Or.inl (hsets _ (List.mem_of_getElem? (i := 0) rfl)))
  have PCS : ¬ (iCS = (0 : Int32)) := gotF (Cond.eq_ints eCS (Term.int_eval (0))) (not_v (Cond.before_iff.mp (hsets _ (List.mem_of_getElem? (i := 2) rfl))))
  obtain ⟨vF, eF, rF⟩ := isR_v (Cond.before_iff.mp (hsets _ (List.mem_of_getElem? (i := 8) rfl)))
  have SF : Sta s s.heap "jdk/internal/util/Preconditions" "SIOOBE_FORMATTER" "Ljava/util/function/BiFunction;" vF := Sta.start eF (Or.inl (hsets _ (List.mem_of_getElem? (i := 7) rfl)))
  have HG : own_G l s #[(.int i0), (.long i1), (.long i2), (.int i3)] iCS vF := ⟨SCS, PCS, SF, rF⟩
  have CH : CHv s consts_1 s.vm s.heap := CHv.start (own_EL hw) hcalls.1 (hsets _ (List.mem_of_getElem? (i := 2) rfl)) (hw _ (List.mem_of_getElem? (i := 24) rfl)) (hw _ (List.mem_of_getElem? (i := 11) rfl))
  obtain ⟨n, o, h1, h2, h3, _, L, rfl, ⟨rfl, N, -⟩, -, hq⟩ := rm_law l s _ hw tables_1 iCS vF HG s.heap s.heap.size (Old.start s) i0 i1 i2 i3 p e ha hc hk s m _ below hf ((Spec.applies_iff_loose hf).mp happ).1 ⟨rfl, State.Warmed39.refl s, rfl, CH⟩ trivial
  refine ⟨n, _, h1, h2, h3, hpost _ _ _ _ _ _ ⟨Cond.after_iff.mpr rfl, Cond.after_iff.mpr (eq_i res_at (Term.int_eval (1)) rfl), trivial⟩ ⟨hq.1, hq.2.1, hq.2.2.1, (hq.2.2.2.sift fun y hy => Or.inr (N y hy)).mono (by decide) (by decide)⟩⟩
theorem main_1_1 : Claimed_1_1 := comes_1 fun _ _ _ _ _ _ h hF => ⟨h.1, hF⟩
theorem main_1_2 : Claimed_1_2 := comes_1 fun _ _ _ _ _ _ h hF => ⟨h.2.1, hF⟩
end Jvm.Pilot.@@N@@
namespace Jvm.Pilot.@@N@@
open Jvm Jvm.ClassFile Sem Op Lib Jvm.Free Jvm.Stand Jvm.Pilot.@@N@@.Jvm.D
/-! MADE BY PROGRAM (witnessworld.py) out of the Statement's table words and the real class files: 20 classes; the members and pool entries that the words name. The judged class is class 1, her method 1. -/
namespace start1
open Jvm.ClassFile
def u (s : String) : CpInfo := .utf8 (stringToUtf16 s)
/-- a pool by its gaps: so many unusable entries, then the entry; so many at the end -/
def gap : Nat → List CpInfo → List CpInfo
  | 0, r => r
  | n + 1, r => .unusable :: gap n r
def poolList (es : List (Nat × CpInfo)) (last : Nat) : List CpInfo := es.foldr (fun e r => gap e.1 (e.2 :: r)) (gap last [])
def pool (es : List (Nat × CpInfo)) (last : Nat) : Array CpInfo := ⟨poolList es last⟩
def fileOf (pool : Array CpInfo) (this : Nat) (attrs : Array Attribute := #[]) (ms : Array MethodInfo := #[]) (fl : Nat := 33) (sup : Nat := 0) (ifs : Array Nat := #[]) (fds : Array FieldInfo := #[]) : ClassFile where
  minorVersion := 0
  majorVersion := 65
  constantPool := pool
  accessFlags := fl
  thisClass := this
  superClass := sup
  interfaces := ifs
  fields := fds
  methods := ms
  attributes := attrs
def plain (name : String) (sup : Option ClassId) : Class where
  name := name
  kind := .ordinary
  loader := none
  accessFlags := 33
  super := sup
  interfaces := #[]
  cf := none
  fields := #[]
  methods := #[]
  instanceTypes := #[]
  staticTypes := #[]
  resolved := #[]
  callSites := []
  init := .initialized
  statics := none
  mirror := none

def pool0 : Array CpInfo := pool [(5, u "<init>"), (0, u "()V"), (1, .class_ 10), (1, u "java/lang/Object")] 113

def k0c0 : Code := { maxStack := 0, maxLocals := 1, code := object_method_1_code, exceptionTable := #[], attributes := #[] }
def k0m0 : Method := { name := "<init>", desc := "()V", sig := { parameters := [], returnType := none }, accessFlags := 1, code := some k0c0 }
/-- java/lang/Object -/
def k0 : Class := { plain "java/lang/Object" none with
  accessFlags := 33
  interfaces := #[]
  cf := some (fileOf pool0 8 #[] #[{ accessFlags := 1, nameIndex := 5, descriptorIndex := 6, attributes := #[] }] 33 0 #[] #[])
  fields := #[]
  methods := #[k0m0]
  instanceTypes := #[]
  staticTypes := #[]
  resolved := Array.replicate 124 none
  statics := none }

def pool1 : Array CpInfo := pool [(2, .class_ 4), (1, u "java/lang/Object"), (0, u "<init>"), (0, u "()V"), (0, .integer 2147483647), (0, .methodref 9 10), (0, .class_ 11), (0, .nameAndType 12 13), (0, u "com/example/claimgate/claimgate/config/ConfigSyntaxMayHoldHashPinLaw"), (0, u "ch"), (0, u "(JIII)C"), (0, .methodref 9 15), (0, .nameAndType 16 17), (0, u "put"), (0, u "([CIC)V"), (0, .class_ 19), (0, u "java/lang/String"), (0, .methodref 18 21), (0, .nameAndType 5 22), (0, u "([C)V"), (0, .methodref 9 24), (0, .nameAndType 25 26), (0, u "d"), (0, u "([CI)Z"), (0, .methodref 9 28), (0, .nameAndType 29 26), (0, u "w"), (0, .methodref 31 32), (0, .class_ 33), (0, .nameAndType 34 35), (0, u "com/example/claimgate/claimgate/config/ConfigSyntax"), (0, u "mayHoldHash"), (0, u "(Ljava/lang/String;)Z"), (0, .long 255), (1, .methodref 9 39), (0, .nameAndType 40 41), (0, u "hashChar"), (0, u "(C)Z"), (0, .methodref 9 43), (0, .nameAndType 44 26), (0, u "h"), (2, u "law"), (0, u "(IJJI)Z")] 5

def k1m0 : Method := { name := "<init>", desc := "()V", sig := { parameters := [], returnType := none }, accessFlags := 2, code := none }
def k1c1 : Code := { maxStack := 7, maxLocals := 11, code := code, exceptionTable := #[], attributes := #[] }
def k1m1 : Method := { name := "law", desc := "(IJJI)Z", sig := { parameters := [.int, .long, .long, .int], returnType := some .boolean }, accessFlags := 9, code := some k1c1 }
def k1c2 : Code := { maxStack := 4, maxLocals := 6, code := method_3_code, exceptionTable := #[], attributes := #[] }
def k1m2 : Method := { name := "ch", desc := "(JIII)C", sig := { parameters := [.long, .int, .int, .int], returnType := some .char }, accessFlags := 10, code := some k1c2 }
def k1c3 : Code := { maxStack := 3, maxLocals := 3, code := method_4_code, exceptionTable := #[], attributes := #[] }
def k1m3 : Method := { name := "put", desc := "([CIC)V", sig := { parameters := [(.array .char), .int, .char], returnType := none }, accessFlags := 10, code := some k1c3 }
def k1c4 : Code := { maxStack := 2, maxLocals := 2, code := method_5_code, exceptionTable := #[], attributes := #[] }
def k1m4 : Method := { name := "d", desc := "([CI)Z", sig := { parameters := [(.array .char), .int], returnType := some .boolean }, accessFlags := 10, code := some k1c4 }
def k1c5 : Code := { maxStack := 2, maxLocals := 2, code := method_6_code, exceptionTable := #[], attributes := #[] }
def k1m5 : Method := { name := "h", desc := "([CI)Z", sig := { parameters := [(.array .char), .int], returnType := some .boolean }, accessFlags := 10, code := some k1c5 }
def k1c6 : Code := { maxStack := 2, maxLocals := 1, code := method_7_code, exceptionTable := #[], attributes := #[] }
def k1m6 : Method := { name := "hashChar", desc := "(C)Z", sig := { parameters := [.char], returnType := some .boolean }, accessFlags := 10, code := some k1c6 }
def k1c7 : Code := { maxStack := 3, maxLocals := 2, code := method_8_code, exceptionTable := #[], attributes := #[] }
def k1m7 : Method := { name := "w", desc := "([CI)Z", sig := { parameters := [(.array .char), .int], returnType := some .boolean }, accessFlags := 10, code := some k1c7 }
/-- com/example/claimgate/claimgate/config/ConfigSyntaxMayHoldHashPinLaw -/
def k1 : Class := { plain "com/example/claimgate/claimgate/config/ConfigSyntaxMayHoldHashPinLaw" (some 0) with
  accessFlags := 49
  interfaces := #[]
  cf := some (fileOf pool1 9 #[] #[{ accessFlags := 2, nameIndex := 5, descriptorIndex := 6, attributes := #[] }, { accessFlags := 9, nameIndex := 47, descriptorIndex := 48, attributes := #[] }, { accessFlags := 10, nameIndex := 12, descriptorIndex := 13, attributes := #[] }, { accessFlags := 10, nameIndex := 16, descriptorIndex := 17, attributes := #[] }, { accessFlags := 10, nameIndex := 25, descriptorIndex := 26, attributes := #[] }, { accessFlags := 10, nameIndex := 44, descriptorIndex := 26, attributes := #[] }, { accessFlags := 10, nameIndex := 40, descriptorIndex := 41, attributes := #[] }, { accessFlags := 10, nameIndex := 29, descriptorIndex := 26, attributes := #[] }] 49 2 #[] #[])
  fields := #[]
  methods := #[k1m0, k1m1, k1m2, k1m3, k1m4, k1m5, k1m6, k1m7]
  instanceTypes := #[]
  staticTypes := #[]
  resolved := Array.replicate 54 none
  statics := none }

def pool2 : Array CpInfo := pool [(1, .class_ 2), (0, u "java/io/Serializable"), (0, .class_ 4), (0, u "java/lang/Object")] 2

/-- java/io/Serializable -/
def k2 : Class := { plain "java/io/Serializable" (some 0) with
  accessFlags := 1537
  interfaces := #[]
  cf := some (fileOf pool2 1 #[] #[] 1537 3 #[] #[])
  fields := #[]
  methods := #[]
  instanceTypes := #[]
  staticTypes := #[]
  resolved := Array.replicate 7 none
  statics := none }

def pool3 : Array CpInfo := pool [(1, .class_ 2), (0, u "java/lang/Comparable"), (0, .class_ 4), (0, u "java/lang/Object")] 7

/-- java/lang/Comparable -/
def k3 : Class := { plain "java/lang/Comparable" (some 0) with
  accessFlags := 1537
  interfaces := #[]
  cf := some (fileOf pool3 1 #[] #[] 1537 3 #[] #[])
  fields := #[]
  methods := #[]
  instanceTypes := #[]
  staticTypes := #[]
  resolved := Array.replicate 12 none
  statics := none }

def pool4 : Array CpInfo := pool [(2, .class_ 4), (1, u "java/lang/CharSequence"), (42, .class_ 48), (0, u "java/lang/CharSequence$1CodePointIterator"), (10, .class_ 60), (0, u "java/lang/CharSequence$1CharIterator"), (5, .class_ 67), (0, u "java/lang/Object")] 63

/-- java/lang/CharSequence -/
def k4 : Class := { plain "java/lang/CharSequence" (some 0) with
  accessFlags := 1537
  interfaces := #[]
  cf := some (fileOf pool4 2 #[.nestMembers #[47, 59]] #[] 1537 66 #[] #[])
  fields := #[]
  methods := #[]
  instanceTypes := #[]
  staticTypes := #[]
  resolved := Array.replicate 131 none
  statics := none }

def pool5 : Array CpInfo := pool [(1, .class_ 2), (0, u "java/lang/constant/Constable"), (0, .class_ 4), (0, u "java/lang/Object")] 6

/-- java/lang/constant/Constable -/
def k5 : Class := { plain "java/lang/constant/Constable" (some 0) with
  accessFlags := 1537
  interfaces := #[]
  cf := some (fileOf pool5 1 #[] #[] 1537 3 #[] #[])
  fields := #[]
  methods := #[]
  instanceTypes := #[]
  staticTypes := #[]
  resolved := Array.replicate 11 none
  statics := none }

def pool6 : Array CpInfo := pool [(1, .class_ 2), (0, u "java/lang/constant/ConstantDesc"), (0, .class_ 4), (0, u "java/lang/Object")] 32

/-- java/lang/constant/ConstantDesc -/
def k6 : Class := { plain "java/lang/constant/ConstantDesc" (some 0) with
  accessFlags := 1537
  interfaces := #[]
  cf := some (fileOf pool6 1 #[] #[] 1537 3 #[] #[])
  fields := #[]
  methods := #[]
  instanceTypes := #[]
  staticTypes := #[]
  resolved := Array.replicate 37 none
  statics := none }

def pool7 : Array CpInfo := pool [(1, .methodref 2 3), (0, .class_ 4), (0, .nameAndType 5 6), (0, u "java/lang/Object"), (0, u "<init>"), (0, u "()V"), (0, .string 8), (0, u ""), (0, .fieldref 10 11), (0, .class_ 12), (0, .nameAndType 13 14), (0, u "java/lang/String"), (0, u "value"), (0, u "[B"), (0, .fieldref 10 16), (0, .nameAndType 17 18), (0, u "coder"), (0, u "B"), (2, u "hash"), (0, u "I"), (2, u "hashIsZero"), (0, u "Z"), (0, .methodref 10 28), (0, .nameAndType 5 29), (0, u "([CIILjava/lang/Void;)V"), (8, .fieldref 10 39), (0, .nameAndType 40 26), (0, u "COMPACT_STRINGS"), (1, .class_ 44), (1, u "java/lang/StringUTF16"), (0, u "compress"), (1, .methodref 42 48), (0, .nameAndType 49 50), (0, u "coderFromArrayLen"), (0, u "([BI)B"), (56, .class_ 109), (1, u "java/lang/StringLatin1"), (32, u "()Z"), (34, .methodref 42 178), (0, .nameAndType 45 179), (0, u "([CII)[B"), (154, u "()I"), (0, .methodref 10 336), (0, .nameAndType 17 337), (0, u "()B"), (25, u "([BI)C"), (27, u "(II)V"), (35, u "(I)C"), (64, .methodref 10 493), (0, .nameAndType 494 142), (0, u "isLatin1"), (0, .methodref 107 496), (0, .nameAndType 497 363), (0, u "charAt"), (3, u "checkIndex"), (5, u "length"), (67, .class_ 576), (0, u "java/lang/CharSequence"), (22, u "CASE_INSENSITIVE_ORDER"), (0, u "Ljava/util/Comparator;"), (409, u "([C)V"), (42, .fieldref 1054 1055), (0, .class_ 1056), (0, .nameAndType 1057 1058), (0, u "jdk/internal/util/Preconditions"), (0, u "SIOOBE_FORMATTER"), (0, u "Ljava/util/function/BiFunction;"), (0, .methodref 1054 1060), (0, .nameAndType 501 1061), (0, u "(IILjava/util/function/BiFunction;)I"), (39, u "serialPersistentFields"), (0, u "[Ljava/io/ObjectStreamField;"), (0, .class_ 1104), (0, u "java/lang/String$CaseInsensitiveComparator"), (1, .class_ 1107), (0, u "java/io/Serializable"), (0, .class_ 1109), (0, u "java/lang/Comparable"), (0, .class_ 1111), (0, u "java/lang/constant/Constable"), (0, .class_ 1113), (0, u "java/lang/constant/ConstantDesc"), (2, u "serialVersionUID"), (0, u "J"), (3, u "REPL"), (0, u "C"), (2, u "LATIN1"), (1, u "UTF16")] 323

def k7m0 : Method := { name := "<init>", desc := "()V", sig := { parameters := [], returnType := none }, accessFlags := 1, code := none }
def k7c1 : Code := { maxStack := 5, maxLocals := 2, code := jdk_42_method_3_code, exceptionTable := #[], attributes := #[] }
def k7m1 : Method := { name := "<init>", desc := "([C)V", sig := { parameters := [(.array .char)], returnType := none }, accessFlags := 1, code := some k7c1 }
def k7c2 : Code := { maxStack := 2, maxLocals := 1, code := jdk_42_method_54_code, exceptionTable := #[], attributes := #[] }
def k7m2 : Method := { name := "length", desc := "()I", sig := { parameters := [], returnType := some .int }, accessFlags := 1, code := some k7c2 }
def k7c3 : Code := { maxStack := 2, maxLocals := 2, code := jdk_42_method_56_code, exceptionTable := #[], attributes := #[] }
def k7m3 : Method := { name := "charAt", desc := "(I)C", sig := { parameters := [.int], returnType := some .char }, accessFlags := 1, code := some k7c3 }
def k7c4 : Code := { maxStack := 4, maxLocals := 6, code := jdk_42_method_149_code, exceptionTable := #[], attributes := #[] }
def k7m4 : Method := { name := "<init>", desc := "([CIILjava/lang/Void;)V", sig := { parameters := [(.array .char), .int, .int, (.object "java/lang/Void")], returnType := none }, accessFlags := 2, code := some k7c4 }
def k7c5 : Code := { maxStack := 1, maxLocals := 1, code := jdk_42_method_152_code, exceptionTable := #[], attributes := #[] }
def k7m5 : Method := { name := "coder", desc := "()B", sig := { parameters := [], returnType := some .byte }, accessFlags := 0, code := some k7c5 }
def k7c6 : Code := { maxStack := 1, maxLocals := 1, code := jdk_42_method_154_code, exceptionTable := #[], attributes := #[] }
def k7m6 : Method := { name := "isLatin1", desc := "()Z", sig := { parameters := [], returnType := some .boolean }, accessFlags := 0, code := some k7c6 }
def k7c7 : Code := { maxStack := 3, maxLocals := 2, code := jdk_42_method_155_code, exceptionTable := #[], attributes := #[] }
def k7m7 : Method := { name := "checkIndex", desc := "(II)V", sig := { parameters := [.int, .int], returnType := none }, accessFlags := 8, code := some k7c7 }
/-- java/lang/String -/
def k7 : Class := { plain "java/lang/String" (some 0) with
  accessFlags := 49
  interfaces := #[2, 3, 4, 5, 6]
  cf := some (fileOf pool7 10 #[.nestMembers #[1103]] #[{ accessFlags := 1, nameIndex := 5, descriptorIndex := 6, attributes := #[] }, { accessFlags := 1, nameIndex := 5, descriptorIndex := 1010, attributes := #[] }, { accessFlags := 1, nameIndex := 507, descriptorIndex := 334, attributes := #[] }, { accessFlags := 1, nameIndex := 497, descriptorIndex := 427, attributes := #[] }, { accessFlags := 2, nameIndex := 5, descriptorIndex := 29, attributes := #[] }, { accessFlags := 0, nameIndex := 17, descriptorIndex := 337, attributes := #[] }, { accessFlags := 0, nameIndex := 494, descriptorIndex := 142, attributes := #[] }, { accessFlags := 8, nameIndex := 501, descriptorIndex := 391, attributes := #[] }] 49 2 #[1106, 1108, 575, 1110, 1112] #[{ accessFlags := 18, nameIndex := 13, descriptorIndex := 14, attributes := #[] }, { accessFlags := 18, nameIndex := 17, descriptorIndex := 18, attributes := #[] }, { accessFlags := 2, nameIndex := 21, descriptorIndex := 22, attributes := #[] }, { accessFlags := 2, nameIndex := 25, descriptorIndex := 26, attributes := #[] }, { accessFlags := 26, nameIndex := 1116, descriptorIndex := 1117, attributes := #[] }, { accessFlags := 24, nameIndex := 40, descriptorIndex := 26, attributes := #[] }, { accessFlags := 26, nameIndex := 1101, descriptorIndex := 1102, attributes := #[] }, { accessFlags := 26, nameIndex := 1121, descriptorIndex := 1122, attributes := #[] }, { accessFlags := 25, nameIndex := 599, descriptorIndex := 600, attributes := #[] }, { accessFlags := 24, nameIndex := 1125, descriptorIndex := 18, attributes := #[] }, { accessFlags := 24, nameIndex := 1127, descriptorIndex := 18, attributes := #[] }])
  fields := #[{ name := "value", type := (.array .byte), accessFlags := 18, slot := 0, constantValue := 0 }, { name := "coder", type := .byte, accessFlags := 18, slot := 1, constantValue := 0 }, { name := "hash", type := .int, accessFlags := 2, slot := 2, constantValue := 0 }, { name := "hashIsZero", type := .boolean, accessFlags := 2, slot := 3, constantValue := 0 }, { name := "serialVersionUID", type := .long, accessFlags := 26, slot := 0, constantValue := 0 }, { name := "COMPACT_STRINGS", type := .boolean, accessFlags := 24, slot := 1, constantValue := 0 }, { name := "serialPersistentFields", type := (.array (.object "java/io/ObjectStreamField")), accessFlags := 26, slot := 2, constantValue := 0 }, { name := "REPL", type := .char, accessFlags := 26, slot := 3, constantValue := 0 }, { name := "CASE_INSENSITIVE_ORDER", type := (.object "java/util/Comparator"), accessFlags := 25, slot := 4, constantValue := 0 }, { name := "LATIN1", type := .byte, accessFlags := 24, slot := 5, constantValue := 0 }, { name := "UTF16", type := .byte, accessFlags := 24, slot := 6, constantValue := 0 }]
  methods := #[k7m0, k7m1, k7m2, k7m3, k7m4, k7m5, k7m6, k7m7]
  instanceTypes := #[(.array .byte), .byte, .int, .boolean]
  staticTypes := #[.long, .boolean, (.array (.object "java/io/ObjectStreamField")), .char, (.object "java/util/Comparator"), .byte, .byte]
  resolved := Array.replicate 1451 none
  statics := some 0 }

def pool8 : Array CpInfo := pool [(2, .class_ 4), (1, u "java/lang/Object"), (3, .class_ 10), (1, u "com/example/claimgate/claimgate/config/ConfigSyntax"), (0, u "source"), (0, u "Ljava/lang/String;"), (9, .class_ 24), (1, u "java/lang/String"), (2, .methodref 22 28), (0, .nameAndType 29 30), (0, u "length"), (0, u "()I"), (0, .methodref 22 32), (0, .nameAndType 33 34), (0, u "charAt"), (0, u "(I)C"), (29, u "(Ljava/lang/String;)Z"), (67, u "(C)Z"), (5, u "mayHoldHash"), (3, .methodref 8 143), (0, .nameAndType 144 132), (0, u "isHashCharacter"), (0, u "SHORTEST_HASH"), (0, u "I")] 41

def k8c0 : Code := { maxStack := 2, maxLocals := 4, code := prog_19_method_10_code, exceptionTable := #[], attributes := #[] }
def k8m0 : Method := { name := "mayHoldHash", desc := "(Ljava/lang/String;)Z", sig := { parameters := [(.object "java/lang/String")], returnType := some .boolean }, accessFlags := 8, code := some k8c0 }
def k8c1 : Code := { maxStack := 2, maxLocals := 1, code := prog_19_method_11_code, exceptionTable := #[], attributes := #[] }
def k8m1 : Method := { name := "isHashCharacter", desc := "(C)Z", sig := { parameters := [.char], returnType := some .boolean }, accessFlags := 10, code := some k8c1 }
/-- com/example/claimgate/claimgate/config/ConfigSyntax -/
def k8 : Class := { plain "com/example/claimgate/claimgate/config/ConfigSyntax" (some 0) with
  accessFlags := 48
  interfaces := #[]
  cf := some (fileOf pool8 8 #[] #[{ accessFlags := 8, nameIndex := 138, descriptorIndex := 64, attributes := #[] }, { accessFlags := 10, nameIndex := 144, descriptorIndex := 132, attributes := #[] }] 48 2 #[] #[{ accessFlags := 26, nameIndex := 145, descriptorIndex := 146, attributes := #[] }, { accessFlags := 18, nameIndex := 11, descriptorIndex := 12, attributes := #[] }])
  fields := #[{ name := "SHORTEST_HASH", type := .int, accessFlags := 26, slot := 0, constantValue := 0 }, { name := "source", type := (.object "java/lang/String"), accessFlags := 18, slot := 0, constantValue := 0 }]
  methods := #[k8m0, k8m1]
  instanceTypes := #[(.object "java/lang/String")]
  staticTypes := #[.int]
  resolved := Array.replicate 188 none
  statics := none }

def pool9 : Array CpInfo := pool [(6, .class_ 8), (1, u "java/lang/Object"), (0, u "<init>"), (0, u "()V"), (1, .class_ 14), (1, u "java/lang/StringUTF16"), (31, u "$assertionsDisabled"), (0, u "Z"), (13, u "HI_BYTE_SHIFT"), (0, u "I"), (2, u "LO_BYTE_SHIFT"), (49, .methodref 12 116), (0, .nameAndType 117 118), (0, u "compress"), (0, u "([CI[BII)I"), (3, u "([CII)[B"), (138, u "coderFromArrayLen"), (0, u "([BI)B"), (106, .class_ 371), (1, u "java/lang/StringUTF16$LinesSpliterator"), (58, u "MAX_LENGTH"), (196, .class_ 628), (0, u "java/lang/StringUTF16$CodePointsSpliterator"), (0, .class_ 630), (0, u "java/lang/StringUTF16$CharsSpliterator")] 4

def k9m0 : Method := { name := "<init>", desc := "()V", sig := { parameters := [], returnType := none }, accessFlags := 0, code := none }
def k9c1 : Code := { maxStack := 2, maxLocals := 2, code := jdk_52_method_15_code, exceptionTable := #[], attributes := #[] }
def k9m1 : Method := { name := "coderFromArrayLen", desc := "([BI)B", sig := { parameters := [(.array .byte), .int], returnType := some .byte }, accessFlags := 8, code := some k9c1 }
def k9c2 : Code := { maxStack := 5, maxLocals := 6, code := jdk_52_method_16_code, exceptionTable := #[], attributes := #[] }
def k9m2 : Method := { name := "compress", desc := "([CII)[B", sig := { parameters := [(.array .char), .int, .int], returnType := some (.array .byte) }, accessFlags := 9, code := some k9c2 }
def k9c3 : Code := { maxStack := 3, maxLocals := 7, code := jdk_52_method_21_code, exceptionTable := #[], attributes := #[] }
def k9m3 : Method := { name := "compress", desc := "([CI[BII)I", sig := { parameters := [(.array .char), .int, (.array .byte), .int, .int], returnType := some .int }, accessFlags := 9, code := some k9c3 }
/-- java/lang/StringUTF16 -/
def k9 : Class := { plain "java/lang/StringUTF16" (some 0) with
  accessFlags := 48
  interfaces := #[]
  cf := some (fileOf pool9 12 #[.nestMembers #[627, 629, 369]] #[{ accessFlags := 0, nameIndex := 9, descriptorIndex := 10, attributes := #[] }, { accessFlags := 8, nameIndex := 261, descriptorIndex := 262, attributes := #[] }, { accessFlags := 9, nameIndex := 117, descriptorIndex := 122, attributes := #[] }, { accessFlags := 9, nameIndex := 117, descriptorIndex := 118, attributes := #[] }] 48 6 #[] #[{ accessFlags := 26, nameIndex := 61, descriptorIndex := 62, attributes := #[] }, { accessFlags := 26, nameIndex := 65, descriptorIndex := 62, attributes := #[] }, { accessFlags := 24, nameIndex := 430, descriptorIndex := 62, attributes := #[] }, { accessFlags := 4120, nameIndex := 46, descriptorIndex := 47, attributes := #[] }])
  fields := #[{ name := "HI_BYTE_SHIFT", type := .int, accessFlags := 26, slot := 0, constantValue := 0 }, { name := "LO_BYTE_SHIFT", type := .int, accessFlags := 26, slot := 1, constantValue := 0 }, { name := "MAX_LENGTH", type := .int, accessFlags := 24, slot := 2, constantValue := 0 }, { name := "$assertionsDisabled", type := .boolean, accessFlags := 4120, slot := 3, constantValue := 0 }]
  methods := #[k9m0, k9m1, k9m2, k9m3]
  instanceTypes := #[]
  staticTypes := #[.int, .int, .int, .boolean]
  resolved := Array.replicate 635 none
  statics := none }

def pool10 : Array CpInfo := pool [(1, .class_ 2), (0, u "java/lang/String"), (1, .class_ 6), (1, u "java/lang/Object"), (0, u "<init>"), (0, u "()V"), (0, .methodref 1 10), (0, .nameAndType 11 12), (0, u "checkIndex"), (0, u "(II)V"), (1, .class_ 16), (1, u "java/lang/StringLatin1"), (36, u "([BI)C"), (67, u "$assertionsDisabled"), (0, u "Z"), (98, .class_ 223), (1, u "java/lang/StringLatin1$LinesSpliterator"), (28, u "charAt"), (137, .class_ 391), (0, u "java/lang/StringLatin1$CharsSpliterator")] 3

def k10m0 : Method := { name := "<init>", desc := "()V", sig := { parameters := [], returnType := none }, accessFlags := 0, code := none }
def k10c1 : Code := { maxStack := 2, maxLocals := 2, code := jdk_43_method_2_code, exceptionTable := #[], attributes := #[] }
def k10m1 : Method := { name := "charAt", desc := "([BI)C", sig := { parameters := [(.array .byte), .int], returnType := some .char }, accessFlags := 9, code := some k10c1 }
/-- java/lang/StringLatin1 -/
def k10 : Class := { plain "java/lang/StringLatin1" (some 0) with
  accessFlags := 48
  interfaces := #[]
  cf := some (fileOf pool10 14 #[.nestMembers #[390, 221]] #[{ accessFlags := 0, nameIndex := 7, descriptorIndex := 8, attributes := #[] }, { accessFlags := 9, nameIndex := 252, descriptorIndex := 53, attributes := #[] }] 48 4 #[] #[{ accessFlags := 4120, nameIndex := 121, descriptorIndex := 122, attributes := #[] }])
  fields := #[{ name := "$assertionsDisabled", type := .boolean, accessFlags := 4120, slot := 0, constantValue := 0 }]
  methods := #[k10m0, k10m1]
  instanceTypes := #[]
  staticTypes := #[.boolean]
  resolved := Array.replicate 395 none
  statics := none }

def pool11 : Array CpInfo := pool [(2, .class_ 4), (1, u "java/lang/Object"), (0, u "<init>"), (0, u "()V"), (17, .class_ 26), (1, u "jdk/internal/util/Preconditions"), (6, u "checkIndex"), (21, .class_ 56), (0, u "jdk/internal/util/Preconditions$4"), (57, .class_ 115), (0, u "jdk/internal/util/Preconditions$1"), (7, u "SIOOBE_FORMATTER"), (0, u "Ljava/util/function/BiFunction;"), (0, .class_ 126), (0, u "jdk/internal/util/Preconditions$2"), (3, u "AIOOBE_FORMATTER"), (0, .class_ 132), (0, u "jdk/internal/util/Preconditions$3"), (3, u "IOOBE_FORMATTER"), (41, u "(IILjava/util/function/BiFunction;)I")] 15

def k11m0 : Method := { name := "<init>", desc := "()V", sig := { parameters := [], returnType := none }, accessFlags := 1, code := none }
def k11c1 : Code := { maxStack := 3, maxLocals := 3, code := jdk_41_method_11_code, exceptionTable := #[], attributes := #[] }
def k11m1 : Method := { name := "checkIndex", desc := "(IILjava/util/function/BiFunction;)I", sig := { parameters := [.int, .int, (.object "java/util/function/BiFunction")], returnType := some .int }, accessFlags := 9, code := some k11c1 }
/-- jdk/internal/util/Preconditions -/
def k11 : Class := { plain "jdk/internal/util/Preconditions" (some 0) with
  accessFlags := 33
  interfaces := #[]
  cf := some (fileOf pool11 24 #[.nestMembers #[55, 131, 125, 114]] #[{ accessFlags := 1, nameIndex := 5, descriptorIndex := 6, attributes := #[] }, { accessFlags := 9, nameIndex := 33, descriptorIndex := 178, attributes := #[] }] 33 2 #[] #[{ accessFlags := 25, nameIndex := 123, descriptorIndex := 124, attributes := #[] }, { accessFlags := 25, nameIndex := 130, descriptorIndex := 124, attributes := #[] }, { accessFlags := 25, nameIndex := 136, descriptorIndex := 124, attributes := #[] }])
  fields := #[{ name := "SIOOBE_FORMATTER", type := (.object "java/util/function/BiFunction"), accessFlags := 25, slot := 0, constantValue := 0 }, { name := "AIOOBE_FORMATTER", type := (.object "java/util/function/BiFunction"), accessFlags := 25, slot := 1, constantValue := 0 }, { name := "IOOBE_FORMATTER", type := (.object "java/util/function/BiFunction"), accessFlags := 25, slot := 2, constantValue := 0 }]
  methods := #[k11m0, k11m1]
  instanceTypes := #[]
  staticTypes := #[(.object "java/util/function/BiFunction"), (.object "java/util/function/BiFunction"), (.object "java/util/function/BiFunction")]
  resolved := Array.replicate 194 none
  statics := some 1 }

def pool12 : Array CpInfo := pool [(9, u "<init>"), (6, .class_ 18), (1, u "java/lang/Object"), (0, u "()V"), (1, .class_ 23), (1, u "jdk/internal/util/ArraysSupport"), (0, u "LOG2_ARRAY_LONG_INDEX_SCALE"), (0, u "I"), (2, u "U"), (0, u "Ljdk/internal/misc/Unsafe;"), (8, u "BIG_ENDIAN"), (0, u "Z"), (8, u "LOG2_BYTE_BIT_SIZE"), (4, u "LOG2_ARRAY_INT_INDEX_SCALE"), (54, u "JLA"), (0, u "Ljdk/internal/access/JavaLangAccess;"), (11, u "LOG2_ARRAY_BOOLEAN_INDEX_SCALE"), (9, u "LOG2_ARRAY_BYTE_INDEX_SCALE"), (5, u "LOG2_ARRAY_CHAR_INDEX_SCALE"), (5, u "LOG2_ARRAY_SHORT_INDEX_SCALE"), (18, u "LOG2_ARRAY_FLOAT_INDEX_SCALE"), (24, u "LOG2_ARRAY_DOUBLE_INDEX_SCALE"), (89, u "T_BOOLEAN"), (2, u "T_CHAR"), (1, u "T_FLOAT"), (1, u "T_DOUBLE"), (1, u "T_BYTE"), (1, u "T_SHORT"), (1, u "T_INT"), (1, u "T_LONG"), (1, u "SOFT_MAX_ARRAY_LENGTH")] 83

def k12m0 : Method := { name := "<init>", desc := "()V", sig := { parameters := [], returnType := none }, accessFlags := 2, code := none }
/-- jdk/internal/util/ArraysSupport -/
def k12 : Class := { plain "jdk/internal/util/ArraysSupport" (some 0) with
  accessFlags := 33
  interfaces := #[]
  cf := some (fileOf pool12 21 #[] #[{ accessFlags := 2, nameIndex := 9, descriptorIndex := 19, attributes := #[] }] 33 16 #[] #[{ accessFlags := 24, nameIndex := 28, descriptorIndex := 29, attributes := #[] }, { accessFlags := 26, nameIndex := 38, descriptorIndex := 39, attributes := #[] }, { accessFlags := 25, nameIndex := 121, descriptorIndex := 25, attributes := #[] }, { accessFlags := 25, nameIndex := 131, descriptorIndex := 25, attributes := #[] }, { accessFlags := 25, nameIndex := 137, descriptorIndex := 25, attributes := #[] }, { accessFlags := 25, nameIndex := 143, descriptorIndex := 25, attributes := #[] }, { accessFlags := 25, nameIndex := 53, descriptorIndex := 25, attributes := #[] }, { accessFlags := 25, nameIndex := 24, descriptorIndex := 25, attributes := #[] }, { accessFlags := 25, nameIndex := 162, descriptorIndex := 25, attributes := #[] }, { accessFlags := 25, nameIndex := 187, descriptorIndex := 25, attributes := #[] }, { accessFlags := 26, nameIndex := 48, descriptorIndex := 25, attributes := #[] }, { accessFlags := 25, nameIndex := 277, descriptorIndex := 25, attributes := #[] }, { accessFlags := 25, nameIndex := 280, descriptorIndex := 25, attributes := #[] }, { accessFlags := 25, nameIndex := 282, descriptorIndex := 25, attributes := #[] }, { accessFlags := 25, nameIndex := 284, descriptorIndex := 25, attributes := #[] }, { accessFlags := 25, nameIndex := 286, descriptorIndex := 25, attributes := #[] }, { accessFlags := 25, nameIndex := 288, descriptorIndex := 25, attributes := #[] }, { accessFlags := 25, nameIndex := 290, descriptorIndex := 25, attributes := #[] }, { accessFlags := 25, nameIndex := 292, descriptorIndex := 25, attributes := #[] }, { accessFlags := 26, nameIndex := 108, descriptorIndex := 109, attributes := #[] }, { accessFlags := 25, nameIndex := 294, descriptorIndex := 25, attributes := #[] }])
  fields := #[{ name := "U", type := (.object "jdk/internal/misc/Unsafe"), accessFlags := 24, slot := 0, constantValue := 0 }, { name := "BIG_ENDIAN", type := .boolean, accessFlags := 26, slot := 1, constantValue := 0 }, { name := "LOG2_ARRAY_BOOLEAN_INDEX_SCALE", type := .int, accessFlags := 25, slot := 2, constantValue := 0 }, { name := "LOG2_ARRAY_BYTE_INDEX_SCALE", type := .int, accessFlags := 25, slot := 3, constantValue := 0 }, { name := "LOG2_ARRAY_CHAR_INDEX_SCALE", type := .int, accessFlags := 25, slot := 4, constantValue := 0 }, { name := "LOG2_ARRAY_SHORT_INDEX_SCALE", type := .int, accessFlags := 25, slot := 5, constantValue := 0 }, { name := "LOG2_ARRAY_INT_INDEX_SCALE", type := .int, accessFlags := 25, slot := 6, constantValue := 0 }, { name := "LOG2_ARRAY_LONG_INDEX_SCALE", type := .int, accessFlags := 25, slot := 7, constantValue := 0 }, { name := "LOG2_ARRAY_FLOAT_INDEX_SCALE", type := .int, accessFlags := 25, slot := 8, constantValue := 0 }, { name := "LOG2_ARRAY_DOUBLE_INDEX_SCALE", type := .int, accessFlags := 25, slot := 9, constantValue := 0 }, { name := "LOG2_BYTE_BIT_SIZE", type := .int, accessFlags := 26, slot := 10, constantValue := 0 }, { name := "T_BOOLEAN", type := .int, accessFlags := 25, slot := 11, constantValue := 0 }, { name := "T_CHAR", type := .int, accessFlags := 25, slot := 12, constantValue := 0 }, { name := "T_FLOAT", type := .int, accessFlags := 25, slot := 13, constantValue := 0 }, { name := "T_DOUBLE", type := .int, accessFlags := 25, slot := 14, constantValue := 0 }, { name := "T_BYTE", type := .int, accessFlags := 25, slot := 15, constantValue := 0 }, { name := "T_SHORT", type := .int, accessFlags := 25, slot := 16, constantValue := 0 }, { name := "T_INT", type := .int, accessFlags := 25, slot := 17, constantValue := 0 }, { name := "T_LONG", type := .int, accessFlags := 25, slot := 18, constantValue := 0 }, { name := "JLA", type := (.object "jdk/internal/access/JavaLangAccess"), accessFlags := 26, slot := 19, constantValue := 0 }, { name := "SOFT_MAX_ARRAY_LENGTH", type := .int, accessFlags := 25, slot := 20, constantValue := 0 }]
  methods := #[k12m0]
  instanceTypes := #[]
  staticTypes := #[(.object "jdk/internal/misc/Unsafe"), .boolean, .int, .int, .int, .int, .int, .int, .int, .int, .int, .int, .int, .int, .int, .int, .int, .int, .int, (.object "jdk/internal/access/JavaLangAccess"), .int]
  resolved := Array.replicate 378 none
  statics := none }

def pool13 : Array CpInfo := pool [(1, u "java/lang/Cloneable"), (0, .class_ 1), (0, u "java/lang/Object"), (0, .class_ 3)] 3

/-- java/lang/Cloneable -/
def k13 : Class := { plain "java/lang/Cloneable" (some 0) with
  accessFlags := 1537
  interfaces := #[]
  cf := some (fileOf pool13 2 #[] #[] 1537 4 #[] #[])
  fields := #[]
  methods := #[]
  instanceTypes := #[]
  staticTypes := #[]
  resolved := Array.replicate 8 none
  statics := none }

/-- the primitive byte -/
def k14 : Class := { plain "byte" none with kind := .primitive 'B', accessFlags := 0x411 }
/-- [B -/
def k15 : Class := { plain "[B" (some 0) with kind := .array 14 .byte, interfaces := #[13, 2], accessFlags := 1041 }

/-- the primitive char -/
def k16 : Class := { plain "char" none with kind := .primitive 'C', accessFlags := 0x411 }
/-- [C -/
def k17 : Class := { plain "[C" (some 0) with kind := .array 16 .char, interfaces := #[13, 2], accessFlags := 1041 }

/-- the primitive int -/
def k18 : Class := { plain "int" none with kind := .primitive 'I', accessFlags := 0x411 }
/-- [I -/
def k19 : Class := { plain "[I" (some 0) with kind := .array 18 .int, interfaces := #[13, 2], accessFlags := 1041 }

def heap : Heap := #[{ cls := 7, slots := #[.long 0, .int 1, .null, .int 0, .null, .int 0, .int 0], vm := .statics 7 },
  { cls := 11, slots := #[.null, .null, .null], vm := .statics 11 }]
def classes : Array Class := #[k0, k1, k2, k3, k4, k5, k6, k7, k8, k9, k10, k11, k12, k13, k14, k15, k16, k17, k18, k19]
def interned : List (Array UInt16 × Addr) := []
def slotsUsed : Nat := 10
def theMethod : MethodId := ⟨1, 1⟩
def args0 : Array Value := #[.int 3, .long 5, .long 7, .int 2]
def aboutOver (below : List Frame) : State where
  vm := { classes := classes, interned := interned.toArray }
  heap := heap
  slotsUsed := slotsUsed
  threads := #[{ frames := .invoking theMethod args0 :: below }]
def below0 : List Frame := [.native { method := ⟨0, 0⟩, args := #[] }]
def about1 : State := aboutOver below0
def p0 : Program := .bare "" "" ""
def e0 : Env := launch0.env 0 0 0
theorem w_frames : about1.frames = Frame.invoking theMethod args0 :: below0 := rfl
set_option maxRecDepth 65536 in
theorem w_args : argsFit about1.vm theMethod args0 = true := by decide +kernel
set_option maxRecDepth 65536 in
theorem w_heap : heapFits about1 = true := by decide +kernel
set_option maxRecDepth 65536 in
theorem w_runnable : about1.curStatus? = some .runnable := by decide +kernel
set_option maxRecDepth 65536 in
theorem w_alone : about1.alone = true := by decide +kernel
set_option maxRecDepth 65536 in
theorem w_named : about1.methodNamed? x = some theMethod := by decide +kernel
set_option maxRecDepth 65536 in
theorem w_hears : about1.hears theMethod below0 = true := by decide +kernel
set_option maxRecDepth 65536 in
theorem w_ripe : about1.ripe theMethod args0 below0 = true := by decide +kernel
theorem w_running : about1.status = .running := rfl
set_option maxRecDepth 65536 in
theorem w_room : about1.hasRoom e0.platform room_1 = true :=
  launch0.hasRoom_least _ room_1 (by decide +kernel) (by decide +kernel) (by decide +kernel) (by decide +kernel) (by decide +kernel) (by decide +kernel)
theorem allAtoms_all (ts : List Jvm.Cond) (a : Array Jvm.Value) (st : Jvm.State) : (allAtoms ts).before a st = ts.all (fun c => c.before a st) := by
  induction ts with
  | nil => rfl
  | cons c t ih =>
    show (Jvm.Cond.and c (allAtoms t)).before a st = _
    rw [Jvm.Cond.before_and, ih, List.all_cons]
def words1 : List Jvm.Cond := Jvm.Cond.code x code maxLocals ret :: tables_1
/-- a 'code' word, met by the world's own term for the bytes: nothing is compared byte by byte -/
theorem code_word {y : MethodName} {bytes : ByteArray} {mx : Nat} {rt : Option FieldType} {a : Array Value} {s : State} {m : MethodId} {meth : Method} {c : Code} (h1 : s.methodNamed? y = some m) (h2 : s.vm.method? m = some meth) (h3 : meth.code = some c) (h4 : c.code = bytes)
    (h5 : (c.maxLocals == mx && c.exceptionTable.isEmpty && decide (c.maxStack ≤ mostOperands) && decide (meth.sig.returnType = rt) && !meth.locks && decide (parseMethodDescriptor y.desc = some meth.sig)) = true) : (Jvm.Cond.code y bytes mx rt).before a s = true := by
  simp only [Bool.and_eq_true, beq_iff_eq, Bool.not_eq_true', decide_eq_true_eq] at h5
  obtain ⟨⟨⟨⟨⟨g1, g2⟩, g3⟩, g4⟩, g5⟩, g6⟩ := h5
  simp [Cond.before, Cond.holds, Cond.value, h1, h2, h3, h4, g1, g2, g3, g4, g5, g6]
def isCode : Jvm.Cond → Bool
  | .code _ _ _ _ => true
  | _ => false
theorem all_split {L : List Jvm.Cond} {P : Jvm.Cond → Bool} (h1 : L.all (fun c => isCode c || P c) = true) (h2 : ∀ c ∈ L.filter isCode, P c = true) : L.all P = true := by
  refine List.all_eq_true.mpr fun c hc => ?_
  have h := List.all_eq_true.mp h1 c hc
  rcases Bool.eq_false_or_eq_true (isCode c) with hi | hi
  · exact h2 c (List.mem_filter.mpr ⟨hc, hi⟩)
  · simpa [hi] using h
set_option maxRecDepth 65536 in
theorem w_c0 : (Jvm.Cond.code x code maxLocals ret).before args0 about1 = true := code_word (m := ⟨1, 1⟩) (meth := k1m1) (c := k1c1) (by decide +kernel) rfl rfl rfl (by decide +kernel)
set_option maxRecDepth 65536 in
theorem w_c1 : (Jvm.Cond.code ({ cls := "com/example/claimgate/claimgate/config/ConfigSyntaxMayHoldHashPinLaw", name := "ch", desc := "(JIII)C" } : Jvm.MethodName) method_3_code (6 : Nat) (Option.some Jvm.ClassFile.FieldType.char)).before args0 about1 = true := code_word (m := ⟨1, 2⟩) (meth := k1m2) (c := k1c2) (by decide +kernel) rfl rfl rfl (by decide +kernel)
set_option maxRecDepth 65536 in
theorem w_c2 : (Jvm.Cond.code ({ cls := "com/example/claimgate/claimgate/config/ConfigSyntaxMayHoldHashPinLaw", name := "put", desc := "([CIC)V" } : Jvm.MethodName) method_4_code (3 : Nat) (Option.none : Option Jvm.ClassFile.FieldType)).before args0 about1 = true := code_word (m := ⟨1, 3⟩) (meth := k1m3) (c := k1c3) (by decide +kernel) rfl rfl rfl (by decide +kernel)
set_option maxRecDepth 65536 in
theorem w_c3 : (Jvm.Cond.code ({ cls := "java/lang/String", name := "<init>", desc := "([C)V" } : Jvm.MethodName) jdk_42_method_3_code (2 : Nat) (Option.none : Option Jvm.ClassFile.FieldType)).before args0 about1 = true := code_word (m := ⟨7, 1⟩) (meth := k7m1) (c := k7c1) (by decide +kernel) rfl rfl rfl (by decide +kernel)
set_option maxRecDepth 65536 in
theorem w_c4 : (Jvm.Cond.code ({ cls := "java/lang/String", name := "<init>", desc := "([CIILjava/lang/Void;)V" } : Jvm.MethodName) jdk_42_method_149_code (6 : Nat) (Option.none : Option Jvm.ClassFile.FieldType)).before args0 about1 = true := code_word (m := ⟨7, 4⟩) (meth := k7m4) (c := k7c4) (by decide +kernel) rfl rfl rfl (by decide +kernel)
set_option maxRecDepth 65536 in
theorem w_c5 : (Jvm.Cond.code ({ cls := "java/lang/Object", name := "<init>", desc := "()V" } : Jvm.MethodName) object_method_1_code (1 : Nat) (Option.none : Option Jvm.ClassFile.FieldType)).before args0 about1 = true := code_word (m := ⟨0, 0⟩) (meth := k0m0) (c := k0c0) (by decide +kernel) rfl rfl rfl (by decide +kernel)
set_option maxRecDepth 65536 in
theorem w_c6 : (Jvm.Cond.code ({ cls := "com/example/claimgate/claimgate/config/ConfigSyntaxMayHoldHashPinLaw", name := "d", desc := "([CI)Z" } : Jvm.MethodName) method_5_code (2 : Nat) (Option.some Jvm.ClassFile.FieldType.boolean)).before args0 about1 = true := code_word (m := ⟨1, 4⟩) (meth := k1m4) (c := k1c4) (by decide +kernel) rfl rfl rfl (by decide +kernel)
set_option maxRecDepth 65536 in
theorem w_c7 : (Jvm.Cond.code ({ cls := "com/example/claimgate/claimgate/config/ConfigSyntaxMayHoldHashPinLaw", name := "w", desc := "([CI)Z" } : Jvm.MethodName) method_8_code (2 : Nat) (Option.some Jvm.ClassFile.FieldType.boolean)).before args0 about1 = true := code_word (m := ⟨1, 7⟩) (meth := k1m7) (c := k1c7) (by decide +kernel) rfl rfl rfl (by decide +kernel)
set_option maxRecDepth 65536 in
theorem w_c8 : (Jvm.Cond.code ({ cls := "com/example/claimgate/claimgate/config/ConfigSyntaxMayHoldHashPinLaw", name := "h", desc := "([CI)Z" } : Jvm.MethodName) method_6_code (2 : Nat) (Option.some Jvm.ClassFile.FieldType.boolean)).before args0 about1 = true := code_word (m := ⟨1, 5⟩) (meth := k1m5) (c := k1c5) (by decide +kernel) rfl rfl rfl (by decide +kernel)
set_option maxRecDepth 65536 in
theorem w_c9 : (Jvm.Cond.code ({ cls := "com/example/claimgate/claimgate/config/ConfigSyntax", name := "mayHoldHash", desc := "(Ljava/lang/String;)Z" } : Jvm.MethodName) prog_19_method_10_code (4 : Nat) (Option.some Jvm.ClassFile.FieldType.boolean)).before args0 about1 = true := code_word (m := ⟨8, 0⟩) (meth := k8m0) (c := k8c0) (by decide +kernel) rfl rfl rfl (by decide +kernel)
set_option maxRecDepth 65536 in
theorem w_c10 : (Jvm.Cond.code ({ cls := "java/lang/String", name := "length", desc := "()I" } : Jvm.MethodName) jdk_42_method_54_code (1 : Nat) (Option.some Jvm.ClassFile.FieldType.int)).before args0 about1 = true := code_word (m := ⟨7, 2⟩) (meth := k7m2) (c := k7c2) (by decide +kernel) rfl rfl rfl (by decide +kernel)
set_option maxRecDepth 65536 in
theorem w_c11 : (Jvm.Cond.code ({ cls := "java/lang/String", name := "coder", desc := "()B" } : Jvm.MethodName) jdk_42_method_152_code (1 : Nat) (Option.some Jvm.ClassFile.FieldType.byte)).before args0 about1 = true := code_word (m := ⟨7, 5⟩) (meth := k7m5) (c := k7c5) (by decide +kernel) rfl rfl rfl (by decide +kernel)
set_option maxRecDepth 65536 in
theorem w_c12 : (Jvm.Cond.code ({ cls := "java/lang/StringUTF16", name := "compress", desc := "([CII)[B" } : Jvm.MethodName) jdk_52_method_16_code (6 : Nat) (Option.some (Jvm.ClassFile.FieldType.array Jvm.ClassFile.FieldType.byte))).before args0 about1 = true := code_word (m := ⟨9, 2⟩) (meth := k9m2) (c := k9c2) (by decide +kernel) rfl rfl rfl (by decide +kernel)
set_option maxRecDepth 65536 in
theorem w_c13 : (Jvm.Cond.code ({ cls := "java/lang/StringUTF16", name := "compress", desc := "([CI[BII)I" } : Jvm.MethodName) jdk_52_method_21_code (7 : Nat) (Option.some Jvm.ClassFile.FieldType.int)).before args0 about1 = true := code_word (m := ⟨9, 3⟩) (meth := k9m3) (c := k9c3) (by decide +kernel) rfl rfl rfl (by decide +kernel)
set_option maxRecDepth 65536 in
theorem w_c14 : (Jvm.Cond.code ({ cls := "java/lang/StringUTF16", name := "coderFromArrayLen", desc := "([BI)B" } : Jvm.MethodName) jdk_52_method_15_code (2 : Nat) (Option.some Jvm.ClassFile.FieldType.byte)).before args0 about1 = true := code_word (m := ⟨9, 1⟩) (meth := k9m1) (c := k9c1) (by decide +kernel) rfl rfl rfl (by decide +kernel)
set_option maxRecDepth 65536 in
theorem w_c15 : (Jvm.Cond.code ({ cls := "com/example/claimgate/claimgate/config/ConfigSyntaxMayHoldHashPinLaw", name := "hashChar", desc := "(C)Z" } : Jvm.MethodName) method_7_code (1 : Nat) (Option.some Jvm.ClassFile.FieldType.boolean)).before args0 about1 = true := code_word (m := ⟨1, 6⟩) (meth := k1m6) (c := k1c6) (by decide +kernel) rfl rfl rfl (by decide +kernel)
set_option maxRecDepth 65536 in
theorem w_c16 : (Jvm.Cond.code ({ cls := "java/lang/String", name := "charAt", desc := "(I)C" } : Jvm.MethodName) jdk_42_method_56_code (2 : Nat) (Option.some Jvm.ClassFile.FieldType.char)).before args0 about1 = true := code_word (m := ⟨7, 3⟩) (meth := k7m3) (c := k7c3) (by decide +kernel) rfl rfl rfl (by decide +kernel)
set_option maxRecDepth 65536 in
theorem w_c17 : (Jvm.Cond.code ({ cls := "java/lang/String", name := "isLatin1", desc := "()Z" } : Jvm.MethodName) jdk_42_method_154_code (1 : Nat) (Option.some Jvm.ClassFile.FieldType.boolean)).before args0 about1 = true := code_word (m := ⟨7, 6⟩) (meth := k7m6) (c := k7c6) (by decide +kernel) rfl rfl rfl (by decide +kernel)
set_option maxRecDepth 65536 in
theorem w_c18 : (Jvm.Cond.code ({ cls := "java/lang/StringLatin1", name := "charAt", desc := "([BI)C" } : Jvm.MethodName) jdk_43_method_2_code (2 : Nat) (Option.some Jvm.ClassFile.FieldType.char)).before args0 about1 = true := code_word (m := ⟨10, 1⟩) (meth := k10m1) (c := k10c1) (by decide +kernel) rfl rfl rfl (by decide +kernel)
set_option maxRecDepth 65536 in
theorem w_c19 : (Jvm.Cond.code ({ cls := "java/lang/String", name := "checkIndex", desc := "(II)V" } : Jvm.MethodName) jdk_42_method_155_code (2 : Nat) (Option.none : Option Jvm.ClassFile.FieldType)).before args0 about1 = true := code_word (m := ⟨7, 7⟩) (meth := k7m7) (c := k7c7) (by decide +kernel) rfl rfl rfl (by decide +kernel)
set_option maxRecDepth 65536 in
theorem w_c20 : (Jvm.Cond.code ({ cls := "jdk/internal/util/Preconditions", name := "checkIndex", desc := "(IILjava/util/function/BiFunction;)I" } : Jvm.MethodName) jdk_41_method_11_code (3 : Nat) (Option.some Jvm.ClassFile.FieldType.int)).before args0 about1 = true := code_word (m := ⟨11, 1⟩) (meth := k11m1) (c := k11c1) (by decide +kernel) rfl rfl rfl (by decide +kernel)
set_option maxRecDepth 65536 in
theorem w_c21 : (Jvm.Cond.code ({ cls := "com/example/claimgate/claimgate/config/ConfigSyntax", name := "isHashCharacter", desc := "(C)Z" } : Jvm.MethodName) prog_19_method_11_code (1 : Nat) (Option.some Jvm.ClassFile.FieldType.boolean)).before args0 about1 = true := code_word (m := ⟨8, 1⟩) (meth := k8m1) (c := k8c1) (by decide +kernel) rfl rfl rfl (by decide +kernel)
def codes1 : List Jvm.Cond := [Jvm.Cond.code x code maxLocals ret, Jvm.Cond.code ({ cls := "com/example/claimgate/claimgate/config/ConfigSyntaxMayHoldHashPinLaw", name := "ch", desc := "(JIII)C" } : Jvm.MethodName) method_3_code (6 : Nat) (Option.some Jvm.ClassFile.FieldType.char), Jvm.Cond.code ({ cls := "com/example/claimgate/claimgate/config/ConfigSyntaxMayHoldHashPinLaw", name := "put", desc := "([CIC)V" } : Jvm.MethodName) method_4_code (3 : Nat) (Option.none : Option Jvm.ClassFile.FieldType), Jvm.Cond.code ({ cls := "java/lang/String", name := "<init>", desc := "([C)V" } : Jvm.MethodName) jdk_42_method_3_code (2 : Nat) (Option.none : Option Jvm.ClassFile.FieldType), Jvm.Cond.code ({ cls := "java/lang/String", name := "<init>", desc := "([CIILjava/lang/Void;)V" } : Jvm.MethodName) jdk_42_method_149_code (6 : Nat) (Option.none : Option Jvm.ClassFile.FieldType), Jvm.Cond.code ({ cls := "java/lang/Object", name := "<init>", desc := "()V" } : Jvm.MethodName) object_method_1_code (1 : Nat) (Option.none : Option Jvm.ClassFile.FieldType), Jvm.Cond.code ({ cls := "com/example/claimgate/claimgate/config/ConfigSyntaxMayHoldHashPinLaw", name := "d", desc := "([CI)Z" } : Jvm.MethodName) method_5_code (2 : Nat) (Option.some Jvm.ClassFile.FieldType.boolean), Jvm.Cond.code ({ cls := "com/example/claimgate/claimgate/config/ConfigSyntaxMayHoldHashPinLaw", name := "w", desc := "([CI)Z" } : Jvm.MethodName) method_8_code (2 : Nat) (Option.some Jvm.ClassFile.FieldType.boolean), Jvm.Cond.code ({ cls := "com/example/claimgate/claimgate/config/ConfigSyntaxMayHoldHashPinLaw", name := "h", desc := "([CI)Z" } : Jvm.MethodName) method_6_code (2 : Nat) (Option.some Jvm.ClassFile.FieldType.boolean), Jvm.Cond.code ({ cls := "com/example/claimgate/claimgate/config/ConfigSyntax", name := "mayHoldHash", desc := "(Ljava/lang/String;)Z" } : Jvm.MethodName) prog_19_method_10_code (4 : Nat) (Option.some Jvm.ClassFile.FieldType.boolean), Jvm.Cond.code ({ cls := "java/lang/String", name := "length", desc := "()I" } : Jvm.MethodName) jdk_42_method_54_code (1 : Nat) (Option.some Jvm.ClassFile.FieldType.int), Jvm.Cond.code ({ cls := "java/lang/String", name := "coder", desc := "()B" } : Jvm.MethodName) jdk_42_method_152_code (1 : Nat) (Option.some Jvm.ClassFile.FieldType.byte), Jvm.Cond.code ({ cls := "java/lang/StringUTF16", name := "compress", desc := "([CII)[B" } : Jvm.MethodName) jdk_52_method_16_code (6 : Nat) (Option.some (Jvm.ClassFile.FieldType.array Jvm.ClassFile.FieldType.byte)), Jvm.Cond.code ({ cls := "java/lang/StringUTF16", name := "compress", desc := "([CI[BII)I" } : Jvm.MethodName) jdk_52_method_21_code (7 : Nat) (Option.some Jvm.ClassFile.FieldType.int), Jvm.Cond.code ({ cls := "java/lang/StringUTF16", name := "coderFromArrayLen", desc := "([BI)B" } : Jvm.MethodName) jdk_52_method_15_code (2 : Nat) (Option.some Jvm.ClassFile.FieldType.byte), Jvm.Cond.code ({ cls := "com/example/claimgate/claimgate/config/ConfigSyntaxMayHoldHashPinLaw", name := "hashChar", desc := "(C)Z" } : Jvm.MethodName) method_7_code (1 : Nat) (Option.some Jvm.ClassFile.FieldType.boolean), Jvm.Cond.code ({ cls := "java/lang/String", name := "charAt", desc := "(I)C" } : Jvm.MethodName) jdk_42_method_56_code (2 : Nat) (Option.some Jvm.ClassFile.FieldType.char), Jvm.Cond.code ({ cls := "java/lang/String", name := "isLatin1", desc := "()Z" } : Jvm.MethodName) jdk_42_method_154_code (1 : Nat) (Option.some Jvm.ClassFile.FieldType.boolean), Jvm.Cond.code ({ cls := "java/lang/StringLatin1", name := "charAt", desc := "([BI)C" } : Jvm.MethodName) jdk_43_method_2_code (2 : Nat) (Option.some Jvm.ClassFile.FieldType.char), Jvm.Cond.code ({ cls := "java/lang/String", name := "checkIndex", desc := "(II)V" } : Jvm.MethodName) jdk_42_method_155_code (2 : Nat) (Option.none : Option Jvm.ClassFile.FieldType), Jvm.Cond.code ({ cls := "jdk/internal/util/Preconditions", name := "checkIndex", desc := "(IILjava/util/function/BiFunction;)I" } : Jvm.MethodName) jdk_41_method_11_code (3 : Nat) (Option.some Jvm.ClassFile.FieldType.int), Jvm.Cond.code ({ cls := "com/example/claimgate/claimgate/config/ConfigSyntax", name := "isHashCharacter", desc := "(C)Z" } : Jvm.MethodName) prog_19_method_11_code (1 : Nat) (Option.some Jvm.ClassFile.FieldType.boolean)]
set_option maxRecDepth 65536 in
theorem codes_eq : words1.filter isCode = codes1 := rfl
theorem w_codes : ∀ c ∈ words1.filter isCode, c.before args0 about1 = true := by
  rw [codes_eq]
  intro c hc
  simp only [codes1, List.mem_cons, List.not_mem_nil, or_false] at hc
  rcases hc with rfl | rfl | rfl | rfl | rfl | rfl | rfl | rfl | rfl | rfl | rfl | rfl | rfl | rfl | rfl | rfl | rfl | rfl | rfl | rfl | rfl | rfl
  · exact w_c0
  · exact w_c1
  · exact w_c2
  · exact w_c3
  · exact w_c4
  · exact w_c5
  · exact w_c6
  · exact w_c7
  · exact w_c8
  · exact w_c9
  · exact w_c10
  · exact w_c11
  · exact w_c12
  · exact w_c13
  · exact w_c14
  · exact w_c15
  · exact w_c16
  · exact w_c17
  · exact w_c18
  · exact w_c19
  · exact w_c20
  · exact w_c21
set_option maxRecDepth 65536 in
theorem w_t1 : (words1.take 24).all (fun c => isCode c || c.before args0 about1) = true := by decide +kernel
set_option maxRecDepth 65536 in
theorem w_t2 : ((words1.drop 24).take 24).all (fun c => isCode c || c.before args0 about1) = true := by decide +kernel
set_option maxRecDepth 65536 in
theorem w_t3 : (((words1.drop 24).drop 24).take 24).all (fun c => isCode c || c.before args0 about1) = true := by decide +kernel
set_option maxRecDepth 65536 in
theorem w_t4 : (((words1.drop 24).drop 24).drop 24).all (fun c => isCode c || c.before args0 about1) = true := by decide +kernel
theorem w_tables : (allAtoms (Jvm.Cond.code x code maxLocals ret :: tables_1)).before args0 about1 = true := by
  rw [allAtoms_all]
  show words1.all (fun c => c.before args0 about1) = true
  refine all_split ?_ w_codes
  rw [← List.take_append_drop 24 words1, List.all_append, w_t1, ← List.take_append_drop 24 (words1.drop 24), List.all_append, w_t2, ← List.take_append_drop 24 ((words1.drop 24).drop 24), List.all_append, w_t3, w_t4]
  rfl
set_option maxRecDepth 65536 in
theorem w_rest : rest_1_c.before args0 about1 = true := by decide +kernel
set_option maxRecDepth 65536 in
theorem w_case : (Jvm.Cond.and given_1 narrow_1).before args0 about1 = true := by decide +kernel
set_option maxRecDepth 65536 in
theorem w_consts : constsHeld consts_1 about1 := Jvm.Lit.constsHeldB_iff.mp (by decide +kernel)
theorem w_applies : (headSpec (Jvm.Cond.code x code maxLocals ret :: tables_1) room_1).applies x e0.platform about1 = true :=
  (Spec.applies_iff w_frames).mpr ⟨w_running, w_runnable, w_alone, w_named, w_hears, w_ripe, w_room, w_tables⟩
theorem atStart : AtStart classFile x code maxLocals ret World_1 tables_1 room_1 Calls_1 rest_1 Pre_1 launch0 p0 e0 about1 theMethod args0 below0 :=
  ⟨lists_1, trivial, launch0.admits_env _ _ _, launch0.least_env, fairChoices_fair.cas, fairChoices_fair.clock, w_frames, w_args, w_heap, w_applies, ⟨w_consts, trivial⟩, w_rest, w_case⟩
end start1
theorem witness_1 : WitnessClaimed_1 := ⟨start1.p0, start1.e0, start1.about1, start1.theMethod, start1.args0, start1.below0, start1.atStart⟩
end Jvm.Pilot.@@N@@
