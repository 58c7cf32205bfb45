import JvmDerived
import JvmDerived.Pilot.@@N@@Statement
import JvmDerived.Pilot.@@N@@Code
set_option linter.unusedVariables false
set_option linter.unusedSimpArgs false
namespace Jvm.Pilot.@@N@@
open Jvm Jvm.ClassFile Sem Op Lib Jvm.Free Jvm.Stand Jvm.LawKit Jvm.RoadKit Bundle Jvm.Free.XT Jvm.Pilot.@@N@@.Jvm.D
theorem own_n0 {Z : State} {n0 : Nat} {h : Heap} (X : Old Z n0 h) : n0 ≤ h.size := X.1 ▸ X.2.1
theorem own_lt {a m n : Nat} (h : a < m) (k : m ≤ n) : a < n := Nat.lt_of_lt_of_le h k
theorem own_since0 (s : State) (n : Nat) : s.Since s.vm n := ⟨State.Warmed39.refl s, fun j p hj hp => absurd (Array.getElem?_eq_some_iff.mp hp).1 (Nat.not_lt.mpr hj)⟩
theorem own_narR {v : Value} {t : FieldType} (h : v.isRef = true) : narrow t v = v := by rcases ref_cases h with rfl | ⟨a, rfl⟩ <;> cases t <;> rfl
theorem own_fitR {v : Value} {t : FieldType} (h : v.isRef = true) (ht : t.isReference = true := by rfl) : fits t v = true := by rcases ref_cases h with rfl | ⟨a, rfl⟩ <;> cases t <;> first | rfl | cases ht
theorem own_cast {p : Program} {l : Launch} {e : Env} {R : Room} {s : State} {m : MethodId} {args : Array Value} {below : List Frame} {meth : Method} {c : Code} {T : State} {L L' : List Loc} {k k' n n' : Nat} (X : Stand p l e R s m args below meth c T L k n) (h1 : L = L') (h2 : k = k') (h3 : n = n') : Stand p l e R s m args below meth c T L' k' n' := by
  subst h1 h2 h3; exact X
theorem own_priv {s : State} {args : Array Value} {y : MethodName} (h : (Jvm.Cond.privateMethod y).before args s = true) : s.PrivateAt y := Cond.privateMethod_at h
abbrev own_CP (l : Launch) (Z : State) (y : MethodName) (bytes : ByteArray) (ml : Nat) (ret : Option FieldType) (ws : List Jvm.Cond) (R : Room) (as' : Array Value) (h0 : Heap) (Q : Option Value → Heap → List Loc → Prop) : Prop :=
  MetFree l y (head1 (Jvm.Cond.code y bytes ml ret :: ws) R) (fun a U => a = as' ∧ Z.Warmed39 U.vm ∧ U.heap = h0) (fun _ _ _ _ _ => True) (fun _ U o U' => ∃ v L, o = .returned v ∧ Q v U'.heap L ∧ FrameEnd U o U' L R.cells R.slots)
theorem own_P {l : Launch} {Z : State} {y : MethodName} {bytes : ByteArray} {ml : Nat} {ret : Option FieldType} {ws : List Jvm.Cond} {R : Room} {as' : Array Value} {h0 : Heap} {Q : Option Value → Heap → List Loc → Prop} (hpl : plainFor y = true)
    (H : ∀ (p : Program) (e : Env) (s : State) (m : MethodId) (below : List Frame) (meth : Method) (c : ClassFile.Code) (s₁ S0 : State), BodyLoose p l y (head1 (Jvm.Cond.code y bytes ml ret :: ws) R) bytes ml ret e s m as' below meth c s₁ → Z.Warmed39 s.vm → s.heap = h0 → p.tables.exec = Jvm.exec → c.code = bytes → c.maxLocals = ml → s.vm.findClass y.cls = some m.cls → meth.name = y.name →
      Stand p l e R s m as' below meth c s₁ [] 0 0 → s₁.heap = h0 → S0 = s₁.setTop (entryFrame m as' ml) → ∃ s₂ o, Steps p.tables e below S0 s₂ ∧ s₂.status = .running ∧ Ended s₂ below o ∧ ∃ v L, o = .returned v ∧ Q v s₂.heap L ∧ FrameEnd s o s₂ L R.cells R.slots) : own_CP l Z y bytes ml ret ws R as' h0 Q := by
  refine MetFree.of_bodySF hpl hisR ?_
  intro p e s m args below meth c s₁ Bd hml hP hK
  obtain ⟨rfl, hZ, hh⟩ := hP
  exact H p e s m below meth c s₁ _ Bd hZ hh Bd.exec Bd.bytes hml (findClass_of_methodNamed Bd.named) (name_of_methodNamed Bd.named Bd.method).1 (Stand.of_body Bd) (by rw [← hh, Bd.state]; rfl) rfl
theorem own_EL {Z : State} {a0 : Array Value} (hw : ∀ d ∈ tables_1, d.before a0 Z = true) : EW Z a0 consts_1 := (EW.cons (hw _ (List.mem_of_getElem? (i := 38) rfl)) (by decide) EW.nil)
theorem own_SA {Z : State} {a0 : Array Value} (hw : ∀ d ∈ tables_1, d.before a0 Z = true) : ∀ d ∈ Bundle.stringAtoms, d.before a0 Z = true := fun d hd => hw d ((by decide +kernel : ∀ d ∈ Bundle.stringAtoms, d ∈ tables_1) d hd)
theorem own_safe_null {Z : State} {EL : List (String × Nat)} {vm : Vm} {h : Heap} {x : Addr} (hal : Z.vm.Alike vm) (E : Exa Z h x "java/lang/String") (F : Fld Z h x "java/lang/String" "value" "[B" .null) : Safe Z EL vm h x := by
  rintro ⟨p, hp, u, a, B, q, hqa, ⟨cS, ⟨S1, S2, S3⟩, -, hcl, hsb⟩, hy⟩
  rcases hy with hy | hy
  · subst hy
    obtain ⟨cell, cf, k, i, f, h1, h2, h3, h4, h5, h6, h7⟩ := F
    obtain ⟨k', h2', -⟩ := State.fieldFound?_setVm (s := Z) hal h2
    obtain ⟨c2, k2, i2, g1, -⟩ := S1.ffV
    have e1 : cell = q.sC := Option.some.inj (h1.symm.trans S1.ha)
    have e2 : (Z.setVm vm).fieldFound? "java/lang/String" "value" "[B" = some (c2, k2, i2, q.fSV) := g1
    have e3 := Option.some.inj (h2'.symm.trans e2)
    have e4 : f = q.fSV := congrArg (fun z => z.2.2.2) e3
    have e5 : q.sC.slots[q.fSV.slot]? = some (.ref q.sd) := S1.2.2.2.2.2.2.2.1
    rw [e1, e4, e5] at h7
    cases h7
  · subst hy
    obtain ⟨c1, k1, h1, h2, -⟩ := E
    have e1 : c1 = q.SA := Option.some.inj (h1.symm.trans S1.2.2.2.2.2.2.2.2.2.1)
    have h2' : vm.findClass "java/lang/String" = some c1.cls := by rw [hal.findClass]; exact h2
    have hcl' : vm.findClass "[B" = some q.SA.cls := hcl
    rw [e1] at h2'
    obtain ⟨k3, a1, a2⟩ := Vm.findClass_spec h2'
    obtain ⟨k4, b1, b2⟩ := Vm.findClass_spec hcl'
    cases a1.symm.trans b1
    exact absurd (a2.symm.trans b2) (by decide)
abbrev own_CH (l : Launch) (Z : State) (y : MethodName) (bytes : ByteArray) (ml : Nat) (ret : Option FieldType) (ws : List Jvm.Cond) (R : Room) (as' : Array Value) (h0 : Heap) (Q : Option Value → Heap → List Loc → Prop) : Prop :=
  MetFree l y (head1 (Jvm.Cond.code y bytes ml ret :: ws) R) (fun a U => a = as' ∧ Z.Warmed39 U.vm ∧ U.heap = h0 ∧ CHv Z consts_1 U.vm h0) (fun _ _ _ _ _ => True) (fun _ U o U' => ∃ v L, o = .returned v ∧ Q v U'.heap L ∧ CHr Z consts_1 U.vm U.heap U'.vm U'.heap ∧ ReturnedEndW U o U' L R.cells R.slots)
abbrev own_CK (l : Launch) (Z : State) (y : MethodName) (bytes : ByteArray) (ml : Nat) (ret : Option FieldType) (ws : List Jvm.Cond) (R : Room) (as' : Array Value) (h0 : Heap) (Q : Option Value → Heap → List Loc → Prop) : Prop :=
  MetFree l y (head1 (Jvm.Cond.code y bytes ml ret :: ws) R) (fun a U => a = as' ∧ Z.Warmed39 U.vm ∧ U.heap = h0 ∧ CHv Z consts_1 U.vm h0) (fun _ _ bl s _ => s.vm.MethodsKnown ∧ s.vm.FramesKnown bl) (fun _ U o U' => ∃ v L, o = .returned v ∧ Q v U'.heap L ∧ CHr Z consts_1 U.vm U.heap U'.vm U'.heap ∧ ReturnedEndW U o U' L R.cells R.slots)
theorem own_H {l : Launch} {Z : State} {y : MethodName} {bytes : ByteArray} {ml : Nat} {ret : Option FieldType} {ws : List Jvm.Cond} {R : Room} {as' : Array Value} {h0 : Heap} {Q : Option Value → Heap → List Loc → Prop} (hpl : plainFor y = true)
    (H : ∀ (p : Program) (e : Env) (s : State) (m : MethodId) (below : List Frame) (meth : Method) (c : ClassFile.Code) (s₁ S0 : State), BodyLoose p l y (head1 (Jvm.Cond.code y bytes ml ret :: ws) R) bytes ml ret e s m as' below meth c s₁ → Z.Warmed39 (s.setVm s.vm).vm → s.heap = h0 → CHv Z consts_1 s.vm h0 → s.Since s.vm h0.size → CHr Z consts_1 s.vm h0 s.vm h0 → p.tables.exec = Jvm.exec → c.code = bytes → c.maxLocals = ml → (s.setVm s.vm).vm.findClass y.cls = some m.cls → meth.name = y.name →
      Stand p l e R (s.setVm s.vm) m as' below meth c s₁ [] 0 0 → s₁.heap = h0 → S0 = s₁.setTop (entryFrame m as' ml) → ∃ s₂ o, Steps p.tables e below S0 s₂ ∧ s₂.status = .running ∧ Ended s₂ below o ∧ ∃ v L, o = .returned v ∧ Q v s₂.heap L ∧ CHr Z consts_1 s.vm s.heap s₂.vm s₂.heap ∧ ReturnedEndW s o s₂ L R.cells R.slots) : own_CH l Z y bytes ml ret ws R as' h0 Q := by
  refine MetFree.of_bodySF hpl hisR ?_
  intro p e s m args below meth c s₁ Bd hml hP hK
  obtain ⟨rfl, hZ, hh, CH0⟩ := hP
  exact H p e s m below meth c s₁ _ Bd hZ hh CH0 (own_since0 s _) (CHr.refl CH0) Bd.exec Bd.bytes hml (findClass_of_methodNamed Bd.named) (name_of_methodNamed Bd.named Bd.method).1 (Stand.of_body Bd) (by rw [← hh, Bd.state]; rfl) rfl
theorem own_K {l : Launch} {Z : State} {y : MethodName} {bytes : ByteArray} {ml : Nat} {ret : Option FieldType} {ws : List Jvm.Cond} {R : Room} {as' : Array Value} {h0 : Heap} {Q : Option Value → Heap → List Loc → Prop} (hpl : plainFor y = true)
    (H : ∀ (p : Program) (e : Env) (s : State) (m : MethodId) (below : List Frame) (meth : Method) (c : ClassFile.Code) (s₁ S0 : State), BodyLoose p l y (head1 (Jvm.Cond.code y bytes ml ret :: ws) R) bytes ml ret e s m as' below meth c s₁ → Z.Warmed39 (s.setVm s.vm).vm → s.heap = h0 → CHv Z consts_1 s.vm h0 → s.Since s.vm h0.size → CHr Z consts_1 s.vm h0 s.vm h0 → s.vm.MethodsKnown → s.vm.FramesKnown below → p.tables.exec = Jvm.exec → c.code = bytes → c.maxLocals = ml → (s.setVm s.vm).vm.findClass y.cls = some m.cls → meth.name = y.name →
      Stand p l e R (s.setVm s.vm) m as' below meth c s₁ [] 0 0 → s₁.heap = h0 → S0 = s₁.setTop (entryFrame m as' ml) → ∃ s₂ o, Steps p.tables e below S0 s₂ ∧ s₂.status = .running ∧ Ended s₂ below o ∧ ∃ v L, o = .returned v ∧ Q v s₂.heap L ∧ CHr Z consts_1 s.vm s.heap s₂.vm s₂.heap ∧ ReturnedEndW s o s₂ L R.cells R.slots) : own_CK l Z y bytes ml ret ws R as' h0 Q := by
  refine MetFree.of_bodySF hpl hisR ?_
  intro p e s m args below meth c s₁ Bd hml hP hK
  obtain ⟨rfl, hZ, hh, CH0⟩ := hP
  exact H p e s m below meth c s₁ _ Bd hZ hh CH0 (own_since0 s _) (CHr.refl CH0) hK.1 hK.2 Bd.exec Bd.bytes hml (findClass_of_methodNamed Bd.named) (name_of_methodNamed Bd.named Bd.method).1 (Stand.of_body Bd) (by rw [← hh, Bd.state]; rfl) rfl
def own_lo8 (x : Int32) : Int32 := nar .byte (x.toInt8.toInt32)
def own_ch (x : Int32) : Int32 := nar .char ((x &&& (255 : Int32)).toUInt32.toUInt16.toUInt32.toInt32)
def own_at (x : Int32) : Int32 := nar .char (own_ch x)
theorem own_at_says {c : Int32} (h0 : ¬ (c < (0 : Int32))) (h1 : ¬ ((255 : Int32) < c)) : own_at (own_lo8 c) = c := by
  rw [Int32.lt_iff_toInt_lt] at h0 h1
  have z0 : (0 : Int32).toInt = 0 := rfl
  have z1 : (255 : Int32).toInt = 255 := rfl
  have r1 := c_i2b c
  have r2 := c_i2b (c.toInt8.toInt32)
  have e1 : own_lo8 c = c.toInt8.toInt32.toInt8.toInt32 := rfl
  rw [← e1] at r2
  have m1 := c_mask (own_lo8 c) 255 8 (by decide) (by decide)
  have p8 : ((2 ^ 8 : Nat) : Int) = 256 := rfl
  rw [p8] at m1
  have k1 := c_i2c (own_lo8 c &&& 255)
  have k2 := c_i2c ((own_lo8 c &&& 255).toUInt32.toUInt16.toUInt32.toInt32)
  have k3 := c_i2c (((own_lo8 c &&& 255).toUInt32.toUInt16.toUInt32.toInt32).toUInt32.toUInt16.toUInt32.toInt32)
  have e3 : own_at (own_lo8 c) = (((own_lo8 c &&& 255).toUInt32.toUInt16.toUInt32.toInt32).toUInt32.toUInt16.toUInt32.toInt32).toUInt32.toUInt16.toUInt32.toInt32 := rfl
  rw [← e3] at k3
  apply Int32.toInt_inj.mp
  omega
def own_iv (cs : List Int32) : List Value := cs.map Value.int
def own_gt (cs : List Int32) (j : Int32) : Int32 := cs.getD j.toNatClampNeg 0
theorem own_iv_at (cs : List Int32) (j : Int32) : (own_iv cs).getD j.toNatClampNeg (.int 0) = .int (own_gt cs j) := by
  unfold own_iv own_gt
  rw [List.getD_eq_getElem?_getD, List.getD_eq_getElem?_getD, List.getElem?_map]
  cases cs[j.toNatClampNeg]? <;> rfl
theorem own_pad (n : Nat) : ∀ i, (own_iv (List.replicate n 0)).getD i (.int 0) = ([] : List Value).getD i (.int 0) := fun i => by
  unfold own_iv
  rw [List.map_replicate, List.getD_eq_getElem?_getD, List.getElem?_replicate]
  by_cases h : i < n <;> simp [h]
theorem own_iv_set {Z : State} {h : Heap} {a : Addr} {k : ClassId} {ty : FieldType} {z : Int32} {cs : List Int32} {i : Nat} {x : Int32} {d : Value} (A : Arv Z h a k ty z ((own_iv cs).set i (.int x)) d) : Arv Z h a k ty z (own_iv (cs.set i x)) d := by
  unfold own_iv at A ⊢
  rw [List.map_set]; exact A
theorem own_ix {cs : List Int32} {z j : Int32} (hl : cs.length = z.toNatClampNeg) (h0 : ¬ (j < (0 : Int32))) (h1 : j < z) : j.toNatClampNeg < (own_iv cs).length := by
  unfold own_iv
  rw [List.length_map, hl]
  rw [Int32.lt_iff_toInt_lt] at h0 h1
  have z0 : (0 : Int32).toInt = 0 := rfl
  show j.toInt.toNat < z.toInt.toNat
  omega
theorem own_setlen {cs : List Int32} {i : Nat} {x : Int32} {n : Nat} (h : cs.length = n) : (cs.set i x).length = n := by rw [List.length_set]; exact h
def own_bs (cs : List Int32) : List Int32 := cs.map own_lo8
def own_mix (cs ys : List Int32) (j : Int32) : List Int32 := (own_bs cs).take j.toNatClampNeg ++ ys.drop j.toNatClampNeg
theorem own_mix0 (cs ys : List Int32) : own_mix cs ys 0 = ys := by simp [own_mix, show (0 : Int32).toNatClampNeg = 0 from rfl]
theorem own_nat {j z : Int32} (h0 : ¬ (j < (0 : Int32))) (h1 : j < z) : j.toNatClampNeg < z.toNatClampNeg ∧ (j + (1 : Int32)).toNatClampNeg = j.toNatClampNeg + 1 ∧ ¬ ((j + (1 : Int32)) < (0 : Int32)) ∧ ¬ (z < (j + (1 : Int32))) := by
  rw [Int32.lt_iff_toInt_lt] at *
  have z0 : (0 : Int32).toInt = 0 := rfl
  have o : (1 : Int32).toInt = 1 := rfl
  have a := c_iadd j 1
  have r := rng32 (j + 1)
  have r1 := rng32 z
  rw [o] at a
  have e : (j + 1).toInt = j.toInt + 1 := by omega
  refine ⟨?_, ?_, ?_, ?_⟩
  · show j.toInt.toNat < z.toInt.toNat
    omega
  · show (j + 1).toInt.toNat = j.toInt.toNat + 1
    rw [e]; omega
  · omega
  · rw [Int32.lt_iff_toInt_lt]; omega
theorem own_mixlen {cs ys : List Int32} {n : Nat} (h1 : cs.length = n) (h2 : ys.length = n) {j : Int32} (hj : j.toNatClampNeg ≤ n) : (own_mix cs ys j).length = n := by
  simp [own_mix, own_bs, h1, h2]; omega
theorem own_mixset {cs ys : List Int32} {z j : Int32} (h1 : cs.length = z.toNatClampNeg) (h2 : ys.length = z.toNatClampNeg) (h0 : ¬ (j < (0 : Int32))) (hj : j < z) : (own_mix cs ys j).set j.toNatClampNeg (own_lo8 (own_gt cs j)) = own_mix cs ys (j + (1 : Int32)) := by
  obtain ⟨q1, q2, -, -⟩ := own_nat h0 hj
  unfold own_mix own_gt
  rw [q2]
  have l1 : ((own_bs cs).take j.toNatClampNeg).length = j.toNatClampNeg := by simp [own_bs, h1]; omega
  rw [List.set_append_right _ _ (by rw [l1]; exact Nat.le_refl _), l1, Nat.sub_self]
  have e1 : ys.drop j.toNatClampNeg = ys[j.toNatClampNeg]'(by omega) :: ys.drop (j.toNatClampNeg + 1) := List.drop_eq_getElem_cons (by omega)
  have e2 : (own_bs cs).take (j.toNatClampNeg + 1) = (own_bs cs).take j.toNatClampNeg ++ [own_lo8 (cs.getD j.toNatClampNeg 0)] := by
    rw [List.take_add_one]
    congr 1
    simp [own_bs, List.getElem?_map, List.getD_eq_getElem?_getD, List.getElem?_eq_getElem (show j.toNatClampNeg < cs.length by omega)]
  rw [e1, e2, List.set_cons_zero, List.append_assoc]
  rfl
theorem own_mixend {cs ys : List Int32} {z j : Int32} (h1 : cs.length = z.toNatClampNeg) (h2 : ys.length = z.toNatClampNeg) (hj : ¬ (j < z)) (hk : ¬ (z < j)) : own_mix cs ys j = own_bs cs := by
  obtain rfl : j = z := by
    rw [Int32.lt_iff_toInt_lt] at hj hk
    exact Int32.toInt_inj.mp (by omega)
  unfold own_mix
  rw [List.take_of_length_le (by simp [own_bs, h1]), List.drop_of_length_le (by rw [h2]; exact Nat.le_refl _), List.append_nil]
def own_lat (cs : List Int32) : Prop := ∀ c ∈ cs, ¬ (c < (0 : Int32)) ∧ ¬ ((255 : Int32) < c)
theorem own_lat_at {cs : List Int32} (h : own_lat cs) (j : Int32) : ¬ (own_gt cs j < (0 : Int32)) ∧ ¬ ((255 : Int32) < own_gt cs j) := by
  unfold own_gt
  rw [List.getD_eq_getElem?_getD]
  cases q : cs[j.toNatClampNeg]? with
  | none => exact ⟨by decide, by decide⟩
  | some c => exact h c (List.mem_of_getElem? q)
theorem own_dec {j z : Int32} (h0 : ¬ (j < (0 : Int32))) (h1 : j < z) : z.toNatClampNeg - (j + (1 : Int32)).toNatClampNeg < z.toNatClampNeg - j.toNatClampNeg := by
  obtain ⟨q1, q2, -, -⟩ := own_nat h0 h1
  omega
theorem own_jle {j z : Int32} (h : ¬ (z < j)) : j.toNatClampNeg ≤ z.toNatClampNeg := by
  rw [Int32.lt_iff_toInt_lt] at h
  show j.toInt.toNat ≤ z.toInt.toNat
  omega
theorem own_cod (n : Int32) : nar .byte (((n - n).toUInt32 >>> ((31 : Int32) &&& 31).toUInt32).toInt32.toInt8.toInt32) = 0 := by
  rw [Int32.sub_self]; rfl
theorem own_shr0 (x : Int32) : x >>> ((0 : Int32) &&& 31) = x := by
  rw [show ((0 : Int32) &&& 31) = 0 from rfl]
  exact Int32.shiftRight_zero
theorem own_chsays {cs : List Int32} {nn ii : Int32} (hl : cs.length = nn.toNatClampNeg) (hla : own_lat cs) (h1 : ¬ (ii < (0 : Int32))) (h2 : ii < nn) : own_at (own_gt (own_bs cs) ii) = own_gt cs ii := by
  have q := (own_nat h1 h2).1
  have e : own_gt (own_bs cs) ii = own_lo8 (own_gt cs ii) := by
    unfold own_gt own_bs
    rw [List.getD_eq_getElem?_getD, List.getD_eq_getElem?_getD, List.getElem?_map, List.getElem?_eq_getElem (show ii.toNatClampNeg < cs.length by omega)]
    rfl
  rw [e]
  exact own_at_says (own_lat_at hla ii).1 (own_lat_at hla ii).2
theorem own_narc {c : Int32} (h0 : ¬ (c < (0 : Int32))) (h1 : ¬ ((255 : Int32) < c)) : nar .char c = c := by
  rw [Int32.lt_iff_toInt_lt] at h0 h1
  have z0 : (0 : Int32).toInt = 0 := rfl
  have z1 : (255 : Int32).toInt = 255 := rfl
  have k := c_i2c c
  have e : nar .char c = c.toUInt32.toUInt16.toUInt32.toInt32 := rfl
  rw [e]
  apply Int32.toInt_inj.mp
  omega
theorem own_setlat {cs : List Int32} {i : Nat} {c : Int32} (h : own_lat cs) (h0 : ¬ (c < (0 : Int32))) (h1 : ¬ ((255 : Int32) < c)) : own_lat (cs.set i c) := fun d hd => by
  rcases List.mem_or_eq_of_mem_set hd with q | q
  · exact h d q
  · subst q; exact ⟨h0, h1⟩
def own_b (x : Bool) : Int32 := if x then 1 else 0
theorem own_rT {r : Int32} {x : Bool} (h : r = own_b x) (hr : ¬ (r = (0 : Int32))) : x = true := by
  cases x
  · exact absurd h hr
  · rfl
theorem own_rF {r : Int32} {x : Bool} (h : r = own_b x) (hr : r = (0 : Int32)) : x = false := by
  cases x
  · rfl
  · rw [h] at hr; exact absurd hr (by decide)
abbrev own_hp (c : Int32) : Prop := (¬ (c < (65 : Int32)) ∧ ¬ ((90 : Int32) < c)) ∨ (¬ (c < (97 : Int32)) ∧ ¬ ((122 : Int32) < c)) ∨ (¬ (c < (48 : Int32)) ∧ ¬ ((57 : Int32) < c)) ∨ c = (43 : Int32) ∨ c = (47 : Int32) ∨ c = (46 : Int32)
def own_hash (c : Int32) : Bool := decide (own_hp c)
theorem own_bT {c : Int32} (h : own_hp c) : (1 : Int32) = own_b (own_hash c) := by rw [own_hash, decide_eq_true h]; rfl
theorem own_bF {c : Int32} (h1 : ¬ (¬ (c < (65 : Int32)) ∧ ¬ ((90 : Int32) < c))) (h2 : ¬ (¬ (c < (97 : Int32)) ∧ ¬ ((122 : Int32) < c))) (h3 : ¬ (¬ (c < (48 : Int32)) ∧ ¬ ((57 : Int32) < c))) (h4 : ¬ (c = (43 : Int32))) (h5 : ¬ (c = (47 : Int32))) (h6 : ¬ (c = (46 : Int32))) : (0 : Int32) = own_b (own_hash c) := by
  have q : ¬ own_hp c := fun q => by
    rcases q with q | q | q | q | q | q
    · exact h1 q
    · exact h2 q
    · exact h3 q
    · exact h4 q
    · exact h5 q
    · exact h6 q
  rw [own_hash, decide_eq_false q]; rfl
def own_h (cs : List Int32) (i : Nat) : Bool := decide (i < cs.length) && own_hash (cs.getD i 0)
def own_d (cs : List Int32) (i : Nat) : Bool := decide (i < cs.length) && decide (cs.getD i 0 = 36)
def own_w (cs : List Int32) (i : Nat) : Bool := (List.range 13).all fun k => own_h cs (i + k)
theorem own_ge {cs : List Int32} {nn ii : Int32} (hl : cs.length = nn.toNatClampNeg) (h : ¬ (ii < nn)) : ¬ (ii.toNatClampNeg < cs.length) := by
  rw [hl]
  exact Nat.not_lt.mpr (own_jle h)
theorem own_h0 {cs : List Int32} {nn ii : Int32} (hl : cs.length = nn.toNatClampNeg) (h : ¬ (ii < nn)) : (0 : Int32) = own_b (own_h cs ii.toNatClampNeg) := by
  rw [own_h, decide_eq_false (own_ge hl h)]; rfl
theorem own_d0 {cs : List Int32} {nn ii : Int32} (hl : cs.length = nn.toNatClampNeg) (h : ¬ (ii < nn)) : (0 : Int32) = own_b (own_d cs ii.toNatClampNeg) := by
  rw [own_d, decide_eq_false (own_ge hl h)]; rfl
theorem own_h1 {cs : List Int32} {r ii : Int32} (h : r = own_b (own_hash (own_gt cs ii))) (hr : r = (0 : Int32)) : (0 : Int32) = own_b (own_h cs ii.toNatClampNeg) := by
  have q := own_rF h hr
  unfold own_gt at q
  rw [own_h, q, Bool.and_false]; rfl
theorem own_h2 {cs : List Int32} {nn r ii : Int32} (hl : cs.length = nn.toNatClampNeg) (h0 : ¬ (ii < (0 : Int32))) (hi : ii < nn) (h : r = own_b (own_hash (own_gt cs ii))) (hr : ¬ (r = (0 : Int32))) : (1 : Int32) = own_b (own_h cs ii.toNatClampNeg) := by
  have q := own_rT h hr
  unfold own_gt at q
  rw [own_h, q, decide_eq_true (by rw [hl]; exact (own_nat h0 hi).1)]; rfl
theorem own_d1 {cs : List Int32} {ii : Int32} (h : ¬ (own_gt cs ii = (36 : Int32))) : (0 : Int32) = own_b (own_d cs ii.toNatClampNeg) := by
  unfold own_gt at h
  rw [own_d, decide_eq_false h, Bool.and_false]; rfl
theorem own_d2 {cs : List Int32} {nn ii : Int32} (hl : cs.length = nn.toNatClampNeg) (h0 : ¬ (ii < (0 : Int32))) (hi : ii < nn) (h : own_gt cs ii = (36 : Int32)) : (1 : Int32) = own_b (own_d cs ii.toNatClampNeg) := by
  unfold own_gt at h
  rw [own_d, decide_eq_true h, decide_eq_true (by rw [hl]; exact (own_nat h0 hi).1)]; rfl
theorem own_w0 {cs : List Int32} {i k : Nat} (hk : k < 13) (h : own_h cs (i + k) = false) : (0 : Int32) = own_b (own_w cs i) := by
  have q : own_w cs i = false := by
    unfold own_w
    rw [List.all_eq_false]
    exact ⟨k, List.mem_range.mpr hk, by rw [h]; decide⟩
  rw [q]; rfl
theorem own_w1 {cs : List Int32} {i : Nat} (h0 : own_h cs (i + 0) = true) (h1 : own_h cs (i + 1) = true) (h2 : own_h cs (i + 2) = true) (h3 : own_h cs (i + 3) = true) (h4 : own_h cs (i + 4) = true) (h5 : own_h cs (i + 5) = true) (h6 : own_h cs (i + 6) = true) (h7 : own_h cs (i + 7) = true) (h8 : own_h cs (i + 8) = true) (h9 : own_h cs (i + 9) = true) (h10 : own_h cs (i + 10) = true) (h11 : own_h cs (i + 11) = true) (h12 : own_h cs (i + 12) = true) : (1 : Int32) = own_b (own_w cs i) := by
  have q : own_w cs i = true := by
    unfold own_w
    rw [show List.range 13 = [0, 1, 2, 3, 4, 5, 6, 7, 8, 9, 10, 11, 12] from rfl]
    simp only [List.all_cons, List.all_nil, h0, h1, h2, h3, h4, h5, h6, h7, h8, h9, h10, h11, h12]; rfl
  rw [q]; rfl
theorem own_chA (y : Int64) : ¬ (nar .char (((y &&& (255 : Int64)).toInt32).toUInt32.toUInt16.toUInt32.toInt32) < (0 : Int32)) ∧ ¬ ((255 : Int32) < nar .char (((y &&& (255 : Int64)).toInt32).toUInt32.toUInt16.toUInt32.toInt32)) := by
  have m := c_maskL y 255 8 (by decide) (by decide)
  have p8 : ((2 ^ 8 : Nat) : Int) = 256 := rfl
  rw [p8] at m
  have c := c_l2i (y &&& 255)
  have r := rng32 (y &&& 255).toInt32
  have k1 := c_i2c (y &&& 255).toInt32
  have k2 := c_i2c ((y &&& 255).toInt32.toUInt32.toUInt16.toUInt32.toInt32)
  have e : nar .char (((y &&& (255 : Int64)).toInt32).toUInt32.toUInt16.toUInt32.toInt32) = ((y &&& 255).toInt32.toUInt32.toUInt16.toUInt32.toInt32).toUInt32.toUInt16.toUInt32.toInt32 := rfl
  rw [e, Int32.lt_iff_toInt_lt, Int32.lt_iff_toInt_lt]
  have z0 : (0 : Int32).toInt = 0 := rfl
  have z1 : (255 : Int32).toInt = 255 := rfl
  omega
theorem own_chB (x : Int32) : ¬ (nar .char (((x &&& (63 : Int32)) ||| (64 : Int32)).toUInt32.toUInt16.toUInt32.toInt32) < (0 : Int32)) ∧ ¬ ((255 : Int32) < nar .char (((x &&& (63 : Int32)) ||| (64 : Int32)).toUInt32.toUInt16.toUInt32.toInt32)) := by
  have m := c_and x 63 (by decide)
  have z63 : (63 : Int32).toInt = 63 := rfl
  have z64 : (64 : Int32).toInt = 64 := rfl
  have o := c_or' (x &&& 63) 64 6 (by decide) 64 rfl (by decide) m.1 (by omega)
  have r := rng32 ((x &&& 63) ||| 64)
  have k1 := c_i2c ((x &&& 63) ||| 64)
  have k2 := c_i2c (((x &&& 63) ||| 64).toUInt32.toUInt16.toUInt32.toInt32)
  have e : nar .char (((x &&& (63 : Int32)) ||| (64 : Int32)).toUInt32.toUInt16.toUInt32.toInt32) = (((x &&& 63) ||| 64).toUInt32.toUInt16.toUInt32.toInt32).toUInt32.toUInt16.toUInt32.toInt32 := rfl
  rw [e, Int32.lt_iff_toInt_lt, Int32.lt_iff_toInt_lt]
  have z0 : (0 : Int32).toInt = 0 := rfl
  have z1 : (255 : Int32).toInt = 255 := rfl
  omega
def own_pws : List Int64 := [1, 10, 100, 1000, 10000, 100000, 1000000, 10000000, 100000000, 1000000000, 10000000000, 100000000000, 1000000000000, 10000000000000, 100000000000000, 1000000000000000, 10000000000000000, 100000000000000000, 1000000000000000000]
def own_jv (cs : List Int64) : List Value := cs.map Value.long
def own_gj (cs : List Int64) (j : Int32) : Int64 := cs.getD j.toNatClampNeg 0
theorem own_jv_at (cs : List Int64) (j : Int32) : (own_jv cs).getD j.toNatClampNeg (.long 0) = .long (own_gj cs j) := by
  unfold own_jv own_gj
  rw [List.getD_eq_getElem?_getD, List.getD_eq_getElem?_getD, List.getElem?_map]
  cases cs[j.toNatClampNeg]? <;> rfl
def own_dig (y : Int64) (n i : Int32) : Int64 := ((y / (own_gj own_pws ((n - (1 : Int32)) - i))) - ((y / (own_gj own_pws ((n - (1 : Int32)) - i))) / (10 : Int64)) * (10 : Int64))
def own_dcr (y : Int64) (n i : Int32) : Int32 := (((48 : Int32) + (own_dig y n i).toInt32).toUInt32.toUInt16.toUInt32.toInt32)
def own_isd (c : Int32) : Bool := !(decide (c < (48 : Int32))) && !(decide ((57 : Int32) < c))
def own_go : List Int32 → Int64 → Int64
  | [], a => a
  | c :: cs, a => if own_isd c = true then own_go cs ((a * (10 : Int64)) + ((c - (48 : Int32)).toInt64)) else -1
def own_value (cs : List Int32) : Int64 := if cs.length = 0 ∨ 18 < cs.length ∨ (1 < cs.length ∧ own_gt cs 0 = (48 : Int32)) then -1 else own_go cs 0
-- powers
theorem own_pwsk : ∀ k : Nat, k < 19 → own_pws.getD k 0 = Int64.ofNat (10 ^ k) := by decide +kernel
theorem own_pow_lt (k : Nat) (h : k < 19) : 0 < 10 ^ k ∧ 10 ^ k < 2 ^ 63 := by
  have : ∀ k : Nat, k < 19 → 0 < 10 ^ k ∧ 10 ^ k < 2 ^ 63 := by decide +kernel
  exact this k h
theorem own_divN {N M : Nat} (h : N < 2 ^ 63) (hM : M < 2 ^ 63) : Int64.ofNat N / Int64.ofNat M = Int64.ofNat (N / M) := by
  have hd : N / M < 2 ^ 63 := Nat.lt_of_le_of_lt (Nat.div_le_self _ _) h
  apply Int64.toInt_inj.mp
  rw [Int64.toInt_div, Int64.toInt_ofNat_of_lt h, Int64.toInt_ofNat_of_lt hM, Int64.toInt_ofNat_of_lt hd, ← Int.ofNat_tdiv]
  generalize N / M = q at *
  exact Int.bmod_eq_of_le (by omega) (by omega)
theorem own_modN {N M : Nat} (h : N < 2 ^ 63) (hM : M < 2 ^ 63) : Int64.ofNat N - (Int64.ofNat N / Int64.ofNat M) * Int64.ofNat M = Int64.ofNat (N % M) := by
  rw [own_divN h hM, ← Int64.ofNat_mul]
  have e : Int64.ofNat N = Int64.ofNat (N / M * M) + Int64.ofNat (N % M) := by
    rw [← Int64.ofNat_add]; congr 1
    have := Nat.div_add_mod N M
    rw [Nat.mul_comm] at this; omega
  rw [e]; grind
def own_N (y : Int64) : Nat := y.toInt.toNat
theorem own_Ny {y : Int64} (h : ¬ (y < (0 : Int64))) : y = Int64.ofNat (own_N y) ∧ own_N y < 2 ^ 63 := by
  rw [Int64.lt_iff_toInt_lt] at h
  have z0 : (0 : Int64).toInt = 0 := rfl
  rw [z0] at h
  have r1 := Int64.toInt_lt y
  have hN : own_N y < 2 ^ 63 := by unfold own_N; omega
  refine ⟨?_, hN⟩
  apply Int64.toInt_inj.mp
  rw [Int64.toInt_ofNat_of_lt hN]; unfold own_N; omega
theorem own_gjk {j : Int32} (h : j.toNatClampNeg < 19) : own_gj own_pws j = Int64.ofNat (10 ^ j.toNatClampNeg) := own_pwsk _ h
theorem own_dig_eq {y : Int64} {n i : Int32} (hy : ¬ (y < (0 : Int64))) (hi : ((n - (1 : Int32)) - i).toNatClampNeg < 19) : own_dig y n i = Int64.ofNat (own_N y / 10 ^ ((n - (1 : Int32)) - i).toNatClampNeg % 10) := by
  obtain ⟨e, hN⟩ := own_Ny hy
  obtain ⟨p0, p1⟩ := own_pow_lt _ hi
  unfold own_dig
  rw [own_gjk hi]
  generalize 10 ^ ((n - (1 : Int32)) - i).toNatClampNeg = M at *
  have h2 : own_N y / M < 2 ^ 63 := Nat.lt_of_le_of_lt (Nat.div_le_self _ _) hN
  have e1 : y / Int64.ofNat M = Int64.ofNat (own_N y / M) := by
    conv => lhs; rw [e]
    exact own_divN hN p1
  rw [e1]
  exact own_modN (M := 10) h2 (by decide)
theorem own_sub_nat {n i : Int32} (h0 : ¬ (i < (0 : Int32))) (h1 : i < n) : ((n - (1 : Int32)) - i).toNatClampNeg = n.toNatClampNeg - 1 - i.toNatClampNeg ∧ ¬ (((n - (1 : Int32)) - i) < (0 : Int32)) ∧ n.toInt.toNat = n.toNatClampNeg ∧ i.toNatClampNeg < n.toNatClampNeg := by
  rw [Int32.lt_iff_toInt_lt] at *
  have z0 : (0 : Int32).toInt = 0 := rfl
  have o : (1 : Int32).toInt = 1 := rfl
  rw [z0] at h0
  have r1 := Int32.toInt_lt n
  have e1 : (n - (1 : Int32)).toInt = n.toInt - 1 := by
    rw [Int32.toInt_sub, o]; exact Int.bmod_eq_of_le (by omega) (by omega)
  have e2 : ((n - (1 : Int32)) - i).toInt = n.toInt - 1 - i.toInt := by
    rw [Int32.toInt_sub, e1]; exact Int.bmod_eq_of_le (by omega) (by omega)
  refine ⟨?_, ?_, rfl, ?_⟩
  · show ((n - (1 : Int32)) - i).toInt.toNat = n.toInt.toNat - 1 - i.toInt.toNat
    omega
  · rw [e2, z0]; omega
  · show i.toInt.toNat < n.toInt.toNat
    omega
theorem own_lt19 {n i : Int32} (h0 : ¬ (i < (0 : Int32))) (h1 : i < n) (h2 : ¬ ((19 : Int32) < n)) : ((n - (1 : Int32)) - i).toNatClampNeg < 19 ∧ ((n - (1 : Int32)) - i) < (19 : Int32) ∧ n.toNatClampNeg ≤ 19 := by
  obtain ⟨q1, q2, q3, q4⟩ := own_sub_nat h0 h1
  rw [Int32.lt_iff_toInt_lt] at h2 q2 ⊢
  have o : (19 : Int32).toInt = 19 := rfl
  have z0 : (0 : Int32).toInt = 0 := rfl
  rw [o] at h2 ⊢
  rw [z0] at q2
  have q6 : i.toNatClampNeg = i.toInt.toNat := rfl
  have q5 : ((n - (1 : Int32)) - i).toNatClampNeg = ((n - (1 : Int32)) - i).toInt.toNat := rfl
  refine ⟨?_, ?_, ?_⟩ <;> omega
theorem own_pnz {j : Int32} (h : j.toNatClampNeg < 19) : ¬ (own_gj own_pws j = (0 : Int64)) := by
  have : ∀ k : Nat, k < 19 → ¬ (own_pws.getD k 0 = (0 : Int64)) := by decide +kernel
  exact this _ h
-- the digits
def own_dl (N : Nat) : Nat → List Int32
  | 0 => []
  | k + 1 => Int32.ofNat (48 + N / 10 ^ k % 10) :: own_dl N k
theorem own_dl_len (N : Nat) : ∀ k, (own_dl N k).length = k
  | 0 => rfl
  | k + 1 => by rw [own_dl, List.length_cons, own_dl_len N k]
theorem own_dl_at (N : Nat) : ∀ k i, i < k → (own_dl N k)[i]? = some (Int32.ofNat (48 + N / 10 ^ (k - 1 - i) % 10))
  | 0, _, h => by omega
  | k + 1, 0, _ => by rw [own_dl, List.getElem?_cons_zero]; rfl
  | k + 1, i + 1, h => by
    rw [own_dl, List.getElem?_cons_succ, own_dl_at N k i (by omega)]
    rw [show k - 1 - i = k + 1 - 1 - (i + 1) by omega]
theorem own_d10 : ∀ d : Nat, d < 10 → own_isd (Int32.ofNat (48 + d)) = true ∧ (((48 : Int32) + (Int64.ofNat d).toInt32).toUInt32.toUInt16.toUInt32.toInt32) = Int32.ofNat (48 + d) ∧ ((Int32.ofNat (48 + d)) - (48 : Int32)).toInt64 = Int64.ofNat d ∧ ¬ (Int32.ofNat (48 + d) < (0 : Int32)) ∧ ¬ ((255 : Int32) < Int32.ofNat (48 + d)) := by decide +kernel
theorem own_dl_dig (N : Nat) : ∀ k, ∀ c ∈ own_dl N k, own_isd c = true ∧ ¬ (c < (0 : Int32)) ∧ ¬ ((255 : Int32) < c)
  | 0, c, h => by cases h
  | k + 1, c, h => by
    rw [own_dl] at h
    rcases List.mem_cons.mp h with rfl | h
    · have q := own_d10 (N / 10 ^ k % 10) (Nat.mod_lt _ (by decide))
      exact ⟨q.1, q.2.2.2.1, q.2.2.2.2⟩
    · exact own_dl_dig N k c h
def own_fl (y : Int64) (n : Int32) (k : Nat) : List Int32 := (own_dl (own_N y) n.toNatClampNeg).take k ++ List.replicate (n.toNatClampNeg - k) 0
def own_ds (y : Int64) (n : Int32) : List Int32 := own_fl y n 19
theorem own_fl0 (y : Int64) (n : Int32) : List.replicate n.toNatClampNeg 0 = own_fl y n 0 := by simp [own_fl]
theorem own_fllen (y : Int64) (n : Int32) (k : Nat) : (own_fl y n k).length = n.toNatClampNeg := by
  simp [own_fl, own_dl_len]; omega
theorem own_dcr_eq {y : Int64} {n i : Int32} (hy : ¬ (y < (0 : Int64))) (h0 : ¬ (i < (0 : Int32))) (h1 : i < n) (h2 : ¬ ((19 : Int32) < n)) : own_dcr y n i = Int32.ofNat (48 + own_N y / 10 ^ (n.toNatClampNeg - 1 - i.toNatClampNeg) % 10) := by
  obtain ⟨q1, -, -, -⟩ := own_sub_nat h0 h1
  obtain ⟨r1, -, -⟩ := own_lt19 h0 h1 h2
  unfold own_dcr
  rw [own_dig_eq hy r1, q1]
  exact (own_d10 _ (Nat.mod_lt _ (by decide))).2.1
theorem own_dcr_lat {y : Int64} {n i : Int32} (hy : ¬ (y < (0 : Int64))) (h0 : ¬ (i < (0 : Int32))) (h1 : i < n) (h2 : ¬ ((19 : Int32) < n)) : ¬ (own_dcr y n i < (0 : Int32)) ∧ ¬ ((255 : Int32) < own_dcr y n i) := by
  rw [own_dcr_eq hy h0 h1 h2]
  exact (own_d10 _ (Nat.mod_lt _ (by decide))).2.2.2
theorem own_flset {y : Int64} {n i : Int32} {k : Nat} (hy : ¬ (y < (0 : Int64))) (h0 : ¬ (i < (0 : Int32))) (h1 : i < n) (h2 : ¬ ((19 : Int32) < n)) (hk : i.toNatClampNeg = k) : (own_fl y n k).set i.toNatClampNeg (own_dcr y n i) = own_fl y n (k + 1) := by
  obtain ⟨-, -, -, q4⟩ := own_sub_nat h0 h1
  rw [own_dcr_eq hy h0 h1 h2, hk]
  rw [hk] at q4
  unfold own_fl
  generalize n.toNatClampNeg = m at *
  generalize own_N y = N at *
  have hl : ((own_dl N m).take k).length = k := by rw [List.length_take, own_dl_len]; omega
  rw [List.set_append_right _ _ (by omega), hl, Nat.sub_self]
  rw [show m - k = (m - (k + 1)) + 1 by omega, List.replicate_succ, List.set_cons_zero, List.take_add_one, own_dl_at N m k q4]
  simp
theorem own_flge {y : Int64} {n i : Int32} {k : Nat} (h0 : ¬ (i < (0 : Int32))) (h1 : ¬ (i < n)) (hk : i.toNatClampNeg = k) : own_fl y n (k + 1) = own_fl y n k := by
  have h : n.toNatClampNeg ≤ k := by
    rw [Int32.lt_iff_toInt_lt] at h0 h1
    have z0 : (0 : Int32).toInt = 0 := rfl
    have : i.toInt.toNat = k := hk
    show n.toInt.toNat ≤ k
    omega
  unfold own_fl
  rw [List.take_of_length_le (by rw [own_dl_len]; omega), List.take_of_length_le (by rw [own_dl_len]; omega), show n.toNatClampNeg - (k + 1) = n.toNatClampNeg - k by omega]
theorem own_ds_eq {y : Int64} {n : Int32} (h : n.toNatClampNeg ≤ 19) : own_ds y n = own_dl (own_N y) n.toNatClampNeg := by
  unfold own_ds own_fl
  rw [List.take_of_length_le (by rw [own_dl_len]; exact h), show n.toNatClampNeg - 19 = 0 by omega]
  simp
-- Horner
def own_hor : List Int32 → Int64 → Int64
  | [], a => a
  | c :: cs, a => own_hor cs ((a * (10 : Int64)) + ((c - (48 : Int32)).toInt64))
def own_p (k : Nat) : Int64 := Int64.ofNat (10 ^ k)
theorem own_p1 (k : Nat) : own_p (k + 1) = own_p k * 10 := by
  unfold own_p
  rw [Nat.pow_succ, Int64.ofNat_mul]; rfl
theorem own_hor_acc : ∀ (cs : List Int32) (a : Int64), own_hor cs a = a * own_p cs.length + own_hor cs 0
  | [], a => by
    show a = a * own_p 0 + 0
    have : own_p 0 = 1 := rfl
    rw [this]; grind
  | c :: cs, a => by
    rw [own_hor, own_hor, own_hor_acc cs, own_hor_acc cs (0 * 10 + _), List.length_cons, own_p1]
    grind
theorem own_hor_set : ∀ (cs : List Int32) (i : Nat) (c : Int32), i < cs.length → own_hor (cs.set i c) 0 = own_hor cs 0 + ((c - (48 : Int32)).toInt64 - ((cs.getD i 0) - (48 : Int32)).toInt64) * own_p (cs.length - 1 - i)
  | [], _, _, h => by simp at h
  | d :: cs, 0, c, _ => by
    rw [List.set_cons_zero, own_hor, own_hor, own_hor_acc cs, own_hor_acc cs (0 * 10 + (d - 48).toInt64), List.getD_cons_zero, List.length_cons, Nat.add_sub_cancel, Nat.sub_zero]
    grind
  | d :: cs, i + 1, c, h => by
    rw [List.length_cons] at h
    rw [List.set_cons_succ, own_hor, own_hor, own_hor_acc, own_hor_acc cs (0 * 10 + (d - 48).toInt64), own_hor_set cs i c (by omega), List.getD_cons_succ, List.length_cons, List.length_set, show cs.length + 1 - 1 - (i + 1) = cs.length - 1 - i by omega]
    grind
theorem own_hor_dl (N : Nat) : ∀ k, own_hor (own_dl N k) 0 = Int64.ofNat (N % 10 ^ k)
  | 0 => by
    show (0 : Int64) = Int64.ofNat (N % 10 ^ 0)
    rw [Nat.pow_zero, Nat.mod_one]; rfl
  | k + 1 => by
    rw [own_dl, own_hor, own_hor_acc, own_hor_dl N k, own_dl_len, (own_d10 _ (Nat.mod_lt _ (by decide))).2.2.1, Nat.pow_succ, Nat.mod_mul, Int64.ofNat_add, Int64.ofNat_mul]
    unfold own_p
    grind
theorem own_go_hor : ∀ (cs : List Int32) (a : Int64), (∀ c ∈ cs, own_isd c = true) → own_go cs a = own_hor cs a
  | [], a, _ => rfl
  | c :: cs, a, h => by
    rw [own_go, own_hor, if_pos (h c (List.mem_cons_self ..)), own_go_hor cs _ (fun d hd => h d (List.mem_cons_of_mem _ hd))]
theorem own_go_bad : ∀ (cs : List Int32) (a : Int64) (c : Int32), c ∈ cs → own_isd c = false → own_go cs a = -1
  | [], a, c, h, _ => by cases h
  | d :: cs, a, c, h, hc => by
    rw [own_go]
    rcases List.mem_cons.mp h with rfl | h
    · rw [if_neg (by rw [hc]; decide)]
    · by_cases hd : own_isd d = true
      · rw [if_pos hd]; exact own_go_bad cs _ c h hc
      · rw [if_neg hd]
-- value
theorem own_vbad {cs : List Int32} {c : Int32} (h : c ∈ cs) (hc : own_isd c = false) : own_value cs = -1 := by
  unfold own_value
  split
  · rfl
  · exact own_go_bad cs 0 c h hc
theorem own_vlong {cs : List Int32} {n : Int32} (hl : cs.length = n.toNatClampNeg) (h : (18 : Int32) < n) : own_value cs = -1 := by
  unfold own_value
  rw [Int32.lt_iff_toInt_lt] at h
  have o : (18 : Int32).toInt = 18 := rfl
  have e : n.toNatClampNeg = n.toInt.toNat := rfl
  rw [if_pos (Or.inr (Or.inl (by omega)))]
theorem own_vzero {cs : List Int32} {n : Int32} (hl : cs.length = n.toNatClampNeg) (h : (1 : Int32) < n) (h2 : own_gt cs (0 : Int32) = (48 : Int32)) : own_value cs = -1 := by
  unfold own_value
  rw [Int32.lt_iff_toInt_lt] at h
  have o : (1 : Int32).toInt = 1 := rfl
  have e : n.toNatClampNeg = n.toInt.toNat := rfl
  rw [if_pos (Or.inr (Or.inr ⟨by omega, h2⟩))]
theorem own_vempty {cs : List Int32} {n : Int32} (hl : cs.length = n.toNatClampNeg) (h : n = (0 : Int32)) : own_value cs = -1 := by
  subst h
  unfold own_value
  exact if_pos (Or.inl (hl.trans (show (0 : Int32).toNatClampNeg = 0 from rfl)))
theorem own_vgood {cs : List Int32} {n : Int32} (hl : cs.length = n.toNatClampNeg) (hn : ¬ (n < (0 : Int32))) (h0 : ¬ (n = (0 : Int32))) (h1 : ¬ ((18 : Int32) < n)) (h2 : ¬ ((1 : Int32) < n) ∨ ¬ (own_gt cs (0 : Int32) = (48 : Int32))) : own_value cs = own_go cs 0 := by
  unfold own_value
  rw [Int32.lt_iff_toInt_lt] at h1 hn
  have o : (1 : Int32).toInt = 1 := rfl
  have o2 : (18 : Int32).toInt = 18 := rfl
  have z0 : (0 : Int32).toInt = 0 := rfl
  have e : n.toNatClampNeg = n.toInt.toNat := rfl
  have hz : n.toInt ≠ 0 := fun q => h0 (Int32.toInt_inj.mp (q.trans z0.symm))
  rw [if_neg]
  rintro (q | q | ⟨q1, q2⟩)
  · omega
  · omega
  · rcases h2 with h2 | h2
    · rw [Int32.lt_iff_toInt_lt] at h2; omega
    · exact h2 q2
-- the loop of value
theorem own_vend {cs : List Int32} {n j : Int32} {a : Int64} (hl : cs.length = n.toNatClampNeg) (hs : own_value cs = own_go (cs.drop j.toNatClampNeg) a) (hj : ¬ (j < n)) : a = own_value cs := by
  have : n.toNatClampNeg ≤ j.toNatClampNeg := by
    rw [Int32.lt_iff_toInt_lt] at hj
    show n.toInt.toNat ≤ j.toInt.toNat
    omega
  rw [hs, List.drop_of_length_le (by omega)]; rfl
theorem own_vdrop {cs : List Int32} {n j : Int32} (hl : cs.length = n.toNatClampNeg) (h0 : ¬ (j < (0 : Int32))) (h1 : j < n) : cs.drop j.toNatClampNeg = own_gt cs j :: cs.drop (j.toNatClampNeg + 1) := by
  have : j.toNatClampNeg < n.toNatClampNeg := (own_sub_nat h0 h1).2.2.2
  rw [List.drop_eq_getElem_cons (by omega)]
  congr 1
  unfold own_gt
  rw [List.getD_eq_getElem?_getD, List.getElem?_eq_getElem (by omega)]; rfl
theorem own_isdT {c : Int32} (h1 : ¬ (c < (48 : Int32))) (h2 : ¬ ((57 : Int32) < c)) : own_isd c = true := by simp [own_isd, h1, h2]
theorem own_isdF1 {c : Int32} (h1 : c < (48 : Int32)) : own_isd c = false := by simp [own_isd, h1]
theorem own_isdF2 {c : Int32} (h1 : (57 : Int32) < c) : own_isd c = false := by simp [own_isd, h1]
theorem own_vstep {cs : List Int32} {n j : Int32} {a : Int64} (hl : cs.length = n.toNatClampNeg) (hs : own_value cs = own_go (cs.drop j.toNatClampNeg) a) (h0 : ¬ (j < (0 : Int32))) (h1 : j < n) (hj : (j + (1 : Int32)).toNatClampNeg = j.toNatClampNeg + 1) (hc : own_isd (own_gt cs j) = true) : own_value cs = own_go (cs.drop (j + (1 : Int32)).toNatClampNeg) ((a * (10 : Int64)) + (((own_gt cs j) - (48 : Int32)).toInt64)) := by
  rw [hs, own_vdrop hl h0 h1, own_go, if_pos hc, hj]
theorem own_vstop {cs : List Int32} {n j : Int32} {a : Int64} (hl : cs.length = n.toNatClampNeg) (hs : own_value cs = own_go (cs.drop j.toNatClampNeg) a) (h0 : ¬ (j < (0 : Int32))) (h1 : j < n) (hc : own_isd (own_gt cs j) = false) : (-1 : Int64) = own_value cs := by
  rw [hs, own_vdrop hl h0 h1, own_go, if_neg (by rw [hc]; decide)]
-- the places
def own_l20 (x : Int32) : Int32 := ((x &&& (255 : Int32)) % (20 : Int32))
theorem own_and255 (x : Int32) : 0 ≤ (x &&& (255 : Int32)).toInt ∧ (x &&& (255 : Int32)).toInt ≤ 255 := by
  have h : ∀ b : BitVec 32, 0 ≤ (b &&& 255#32).toInt ∧ (b &&& 255#32).toInt ≤ 255 := fun b => by
    have h1 : (b &&& 255#32).toNat ≤ 255 := by rw [BitVec.toNat_and]; exact Nat.and_le_right
    rw [BitVec.toInt_eq_toNat_of_lt (by omega)]
    omega
  exact h x.toBitVec
theorem own_and65535 (x : Int32) : 0 ≤ (x &&& (65535 : Int32)).toInt ∧ (x &&& (65535 : Int32)).toInt ≤ 65535 := by
  have h : ∀ b : BitVec 32, 0 ≤ (b &&& 65535#32).toInt ∧ (b &&& 65535#32).toInt ≤ 65535 := fun b => by
    have h1 : (b &&& 65535#32).toNat ≤ 65535 := by rw [BitVec.toNat_and]; exact Nat.and_le_right
    rw [BitVec.toInt_eq_toNat_of_lt (by omega)]
    omega
  exact h x.toBitVec
theorem own_modI {x n : Int32} (h : 0 ≤ x.toInt) (hn : 0 < n.toInt) : (x % n).toInt = x.toInt % n.toInt := by
  rw [Int32.toInt_mod, Int.tmod_eq_emod_of_nonneg h]
theorem own_l20r (x : Int32) : 0 ≤ (own_l20 x).toInt ∧ (own_l20 x).toInt ≤ 19 := by
  unfold own_l20
  rw [own_modI (own_and255 x).1 (by decide), show (20 : Int32).toInt = 20 from rfl]
  omega
theorem own_l0 (x : Int32) : ¬ (own_l20 x < (0 : Int32)) := by
  rw [Int32.lt_iff_toInt_lt, show (0 : Int32).toInt = 0 from rfl]; have := own_l20r x; omega
theorem own_l19 (x : Int32) : ¬ ((19 : Int32) < own_l20 x) := by
  rw [Int32.lt_iff_toInt_lt, show (19 : Int32).toInt = 19 from rfl]; have := own_l20r x; omega
theorem own_lc (x : Int32) : (own_l20 x).toNatClampNeg ≤ 19 := by
  show (own_l20 x).toInt.toNat ≤ 19
  have := own_l20r x; omega
theorem own_lpos {n : Int32} (h : ¬ (n < (0 : Int32))) (h2 : ¬ (n = (0 : Int32))) : (0 : Int32) < n := by
  rw [Int32.lt_iff_toInt_lt] at h ⊢
  have z0 : (0 : Int32).toInt = 0 := rfl
  have hz : n.toInt ≠ 0 := fun q => h2 (Int32.toInt_inj.mp (q.trans z0.symm))
  omega
theorem own_l18 {n : Int32} (h : ¬ ((18 : Int32) < n)) : n < (19 : Int32) ∧ n.toNatClampNeg < 19 := by
  rw [Int32.lt_iff_toInt_lt] at h ⊢
  have o : (18 : Int32).toInt = 18 := rfl
  have o2 : (19 : Int32).toInt = 19 := rfl
  refine ⟨by omega, ?_⟩
  show n.toInt.toNat < 19
  omega
def own_pl (x n : Int32) : Int32 := ((((x.toUInt32 >>> ((8 : Int32) &&& 31).toUInt32).toInt32) &&& (65535 : Int32)) % n)
theorem own_plr {x n : Int32} (h : (0 : Int32) < n) : ¬ (own_pl x n < (0 : Int32)) ∧ own_pl x n < n := by
  rw [Int32.lt_iff_toInt_lt] at *
  rw [Int32.lt_iff_toInt_lt]
  have z0 : (0 : Int32).toInt = 0 := rfl
  unfold own_pl
  rw [own_modI (own_and65535 _).1 (by omega), z0]
  rw [z0] at h
  have q1 := Int.emod_nonneg (((x.toUInt32 >>> ((8 : Int32) &&& 31).toUInt32).toInt32) &&& (65535 : Int32)).toInt (Int.ne_of_gt h)
  have q2 := Int.emod_lt_of_pos (((x.toUInt32 >>> ((8 : Int32) &&& 31).toUInt32).toInt32) &&& (65535 : Int32)).toInt h
  omega
def own_cc (x : Int32) : Int32 := ((x &&& (255 : Int32)).toUInt32.toUInt16.toUInt32.toInt32)
theorem own_ccr (x : Int32) : ¬ (own_cc x < (0 : Int32)) ∧ ¬ ((255 : Int32) < own_cc x) := by
  have h : ∀ b : BitVec 32, 0 ≤ (BitVec.setWidth 32 (BitVec.setWidth 16 (b &&& 255#32))).toInt ∧ (BitVec.setWidth 32 (BitVec.setWidth 16 (b &&& 255#32))).toInt ≤ 255 := fun b => by
    have h1 : (b &&& 255#32).toNat ≤ 255 := by rw [BitVec.toNat_and]; exact Nat.and_le_right
    have h2 : (BitVec.setWidth 32 (BitVec.setWidth 16 (b &&& 255#32))).toNat ≤ 255 := by
      rw [BitVec.toNat_setWidth, BitVec.toNat_setWidth]
      exact Nat.le_trans (Nat.mod_le _ _) (Nat.le_trans (Nat.mod_le _ _) h1)
    rw [BitVec.toInt_eq_toNat_of_lt (by omega)]
    omega
  have q : 0 ≤ (own_cc x).toInt ∧ (own_cc x).toInt ≤ 255 := h x.toBitVec
  rw [Int32.lt_iff_toInt_lt, Int32.lt_iff_toInt_lt, show (255 : Int32).toInt = 255 from rfl, show (0 : Int32).toInt = 0 from rfl]
  omega
def own_Y (x : Int64) : Int64 := (x &&& (9223372036854775807 : Int64))
theorem own_Y0 (x : Int64) : ¬ (own_Y x < (0 : Int64)) := by
  have h : ∀ b : BitVec 64, 0 ≤ (b &&& 9223372036854775807#64).toInt := fun b => by
    have h1 : (b &&& 9223372036854775807#64).toNat ≤ 9223372036854775807 := by rw [BitVec.toNat_and]; exact Nat.and_le_right
    rw [BitVec.toInt_eq_toNat_of_lt (by omega)]
    omega
  rw [Int64.lt_iff_toInt_lt, show (0 : Int64).toInt = 0 from rfl]
  have q : 0 ≤ (own_Y x).toInt := h x.toBitVec
  omega
-- the law
theorem own_ds_dig {y : Int64} {n : Int32} (h : ¬ ((19 : Int32) < n)) : ∀ c ∈ own_ds y n, own_isd c = true ∧ ¬ (c < (0 : Int32)) ∧ ¬ ((255 : Int32) < c) := by
  rw [own_ds_eq (by rw [Int32.lt_iff_toInt_lt] at h; have o2 : (19 : Int32).toInt = 19 := rfl; show n.toInt.toNat ≤ 19; omega)]
  exact own_dl_dig _ _
theorem own_dsl (y : Int64) (n : Int32) : (own_ds y n).length = n.toNatClampNeg := own_fllen y n 19
theorem own_ms {X : List Int32} {n a c : Int32} (hl : X.length = n.toNatClampNeg) (h0 : ¬ (a < (0 : Int32))) (h1 : a < n) : c ∈ X.set a.toNatClampNeg c := by
  have := (own_sub_nat h0 h1).2.2.2
  exact List.mem_set (by omega) c
theorem own_clne {a b : Int32} (h0 : ¬ (a < (0 : Int32))) (h1 : ¬ (b < (0 : Int32))) (h : ¬ (b = a)) : a.toNatClampNeg ≠ b.toNatClampNeg := by
  rw [Int32.lt_iff_toInt_lt] at h0 h1
  have z0 : (0 : Int32).toInt = 0 := rfl
  intro q
  have q2 : a.toInt.toNat = b.toInt.toNat := q
  exact h (Int32.toInt_inj.mp (by omega))
theorem own_ms2 {X : List Int32} {n a b c d : Int32} (hl : X.length = n.toNatClampNeg) (h0 : ¬ (a < (0 : Int32))) (h1 : a < n) (hb : ¬ (b < (0 : Int32))) (h : ¬ (b = a)) : c ∈ (X.set a.toNatClampNeg c).set b.toNatClampNeg d := by
  have h2 := (own_sub_nat h0 h1).2.2.2
  have h3 := own_clne h0 hb h
  refine List.mem_of_getElem? (i := a.toNatClampNeg) ?_
  rw [List.getElem?_set_ne h3.symm, List.getElem?_set_self (by omega)]
theorem own_setD {X : List Int32} {i : Nat} {c : Int32} (h : ∀ d ∈ X, own_isd d = true) (hc : own_isd c = true) : ∀ d ∈ X.set i c, own_isd d = true := fun d hd => by
  rcases List.mem_or_eq_of_mem_set hd with q | q
  · exact h d q
  · rw [q]; exact hc
theorem own_term {X : List Int32} {n a c : Int32} (hl : X.length = n.toNatClampNeg) (h0 : ¬ (a < (0 : Int32))) (h1 : a < n) (h2 : ¬ ((19 : Int32) < n)) : own_hor (X.set a.toNatClampNeg c) 0 = own_hor X 0 + ((c - (48 : Int32)).toInt64 - ((X.getD a.toNatClampNeg 0) - (48 : Int32)).toInt64) * own_gj own_pws ((n - (1 : Int32)) - a) := by
  obtain ⟨q1, -, -, q4⟩ := own_sub_nat h0 h1
  rw [own_hor_set _ _ _ (by omega), own_gjk (own_lt19 h0 h1 h2).1, q1, hl]
  rfl
theorem own_dsa {y : Int64} {n a : Int32} (hy : ¬ (y < (0 : Int64))) (h0 : ¬ (a < (0 : Int32))) (h1 : a < n) (h2 : ¬ ((19 : Int32) < n)) : (((own_ds y n).getD a.toNatClampNeg 0) - (48 : Int32)).toInt64 = own_dig y n a := by
  obtain ⟨q1, -, -, q4⟩ := own_sub_nat h0 h1
  obtain ⟨r1, -, r3⟩ := own_lt19 h0 h1 h2
  rw [own_ds_eq r3, List.getD_eq_getElem?_getD, own_dl_at _ _ _ q4, own_dig_eq hy r1, q1]
  exact (own_d10 _ (Nat.mod_lt _ (by decide))).2.2.1
theorem own_E {y : Int64} {n : Int32} (hy : ¬ (y < (0 : Int64))) (h : ¬ ((18 : Int32) < n)) : own_hor (own_ds y n) 0 = (y - (y / (own_gj own_pws n)) * (own_gj own_pws n)) := by
  obtain ⟨e, hN⟩ := own_Ny hy
  have q := (own_l18 h).2
  rw [own_ds_eq (by omega), own_hor_dl, own_gjk q]
  conv => rhs; rw [e]
  exact (own_modN hN (own_pow_lt _ q).2).symm
theorem own_V {X : List Int32} {n : Int32} (hl : X.length = n.toNatClampNeg) (hn : (0 : Int32) < n) (h1 : ¬ ((18 : Int32) < n)) (h2 : ¬ ((1 : Int32) < n) ∨ ¬ (own_gt X (0 : Int32) = (48 : Int32))) (hd : ∀ d ∈ X, own_isd d = true) : own_value X = own_hor X 0 := by
  rw [own_vgood hl ?_ ?_ h1 h2, own_go_hor _ _ hd]
  · rw [Int32.lt_iff_toInt_lt] at *; omega
  · rintro rfl; exact absurd hn (by decide)
theorem own_le19 {n : Int32} (h : ¬ ((18 : Int32) < n)) : ¬ ((19 : Int32) < n) := by
  rw [Int32.lt_iff_toInt_lt] at *
  have o : (18 : Int32).toInt = 18 := rfl
  have o2 : (19 : Int32).toInt = 19 := rfl
  omega
theorem own_F0 {y : Int64} {n : Int32} (hy : ¬ (y < (0 : Int64))) (hn : (0 : Int32) < n) (h1 : ¬ ((18 : Int32) < n)) (h2 : ¬ ((1 : Int32) < n) ∨ ¬ (own_gt (own_ds y n) (0 : Int32) = (48 : Int32))) : own_value (own_ds y n) = (y - (y / (own_gj own_pws n)) * (own_gj own_pws n)) := by
  rw [own_V (own_dsl y n) hn h1 h2 (fun d hd => (own_ds_dig (own_le19 h1) d hd).1), own_E hy h1]
theorem own_F1 {y : Int64} {n a c : Int32} (hy : ¬ (y < (0 : Int64))) (hn : (0 : Int32) < n) (h1 : ¬ ((18 : Int32) < n)) (ha0 : ¬ (a < (0 : Int32))) (ha : a < n) (hc : own_isd c = true)
    (h2 : ¬ ((1 : Int32) < n) ∨ ¬ (own_gt ((own_ds y n).set a.toNatClampNeg c) (0 : Int32) = (48 : Int32))) :
    own_value ((own_ds y n).set a.toNatClampNeg c) = ((y - (y / (own_gj own_pws n)) * (own_gj own_pws n)) + (((c - (48 : Int32)).toInt64) - (own_dig y n a)) * (own_gj own_pws ((n - (1 : Int32)) - a))) := by
  have hl := own_dsl y n
  rw [own_V (by rw [List.length_set]; exact hl) hn h1 h2 (own_setD (fun d hd => (own_ds_dig (own_le19 h1) d hd).1) hc), own_term hl ha0 ha (own_le19 h1), own_dsa hy ha0 ha (own_le19 h1), own_E hy h1]
theorem own_F2 {y : Int64} {n a b c d : Int32} (hy : ¬ (y < (0 : Int64))) (hn : (0 : Int32) < n) (h1 : ¬ ((18 : Int32) < n)) (ha0 : ¬ (a < (0 : Int32))) (ha : a < n) (hc : own_isd c = true) (hb0 : ¬ (b < (0 : Int32))) (hb : b < n) (hd : own_isd d = true) (hab : ¬ (b = a))
    (h2 : ¬ ((1 : Int32) < n) ∨ ¬ (own_gt (((own_ds y n).set a.toNatClampNeg c).set b.toNatClampNeg d) (0 : Int32) = (48 : Int32))) :
    own_value (((own_ds y n).set a.toNatClampNeg c).set b.toNatClampNeg d) = (((y - (y / (own_gj own_pws n)) * (own_gj own_pws n)) + (((c - (48 : Int32)).toInt64) - (own_dig y n a)) * (own_gj own_pws ((n - (1 : Int32)) - a))) + (((d - (48 : Int32)).toInt64) - (own_dig y n b)) * (own_gj own_pws ((n - (1 : Int32)) - b))) := by
  have hl := own_dsl y n
  have hl2 : ((own_ds y n).set a.toNatClampNeg c).length = n.toNatClampNeg := by rw [List.length_set]; exact hl
  rw [own_V (by rw [List.length_set]; exact hl2) hn h1 h2 (own_setD (own_setD (fun d hd => (own_ds_dig (own_le19 h1) d hd).1) hc) hd), own_term hl2 hb0 hb (own_le19 h1), own_term hl ha0 ha (own_le19 h1), own_dsa hy ha0 ha (own_le19 h1), own_E hy h1]
  rw [show ((own_ds y n).set a.toNatClampNeg c).getD b.toNatClampNeg 0 = (own_ds y n).getD b.toNatClampNeg 0 by
    rw [List.getD_eq_getElem?_getD, List.getD_eq_getElem?_getD, List.getElem?_set_ne (own_clne ha0 hb0 hab)]]
  rw [own_dsa hy hb0 hb (own_le19 h1)]
theorem own_F3 {y : Int64} {n a b c d : Int32} (hy : ¬ (y < (0 : Int64))) (hn : (0 : Int32) < n) (h1 : ¬ ((18 : Int32) < n)) (hb0 : ¬ (b < (0 : Int32))) (hb : b < n) (hd : own_isd d = true) (hab : b = a)
    (h2 : ¬ ((1 : Int32) < n) ∨ ¬ (own_gt (((own_ds y n).set a.toNatClampNeg c).set b.toNatClampNeg d) (0 : Int32) = (48 : Int32))) :
    own_value (((own_ds y n).set a.toNatClampNeg c).set b.toNatClampNeg d) = ((y - (y / (own_gj own_pws n)) * (own_gj own_pws n)) + (((d - (48 : Int32)).toInt64) - (own_dig y n b)) * (own_gj own_pws ((n - (1 : Int32)) - b))) := by
  subst hab
  rw [List.set_set] at h2 ⊢
  exact own_F1 hy hn h1 hb0 hb hd h2
theorem own_dslat {y : Int64} {n : Int32} (h : ¬ ((19 : Int32) < n)) : own_lat (own_ds y n) := fun c hc => (own_ds_dig h c hc).2
theorem own_flsetn {y : Int64} {n i : Int32} {k : Nat} (hy : ¬ (y < (0 : Int64))) (h0 : ¬ (i < (0 : Int32))) (h1 : i < n) (h2 : ¬ ((19 : Int32) < n)) (hk : i.toNatClampNeg = k) : (own_fl y n k).set i.toNatClampNeg (nar .char (own_dcr y n i)) = own_fl y n (k + 1) := by
  rw [own_narc (own_dcr_lat hy h0 h1 h2).1 (own_dcr_lat hy h0 h1 h2).2]
  exact own_flset hy h0 h1 h2 hk
def own_G (l : Launch) (Z : State) (a0 : Array Value) (G1 : Int32) (G3 : Value) : Prop := (Sta Z Z.heap "java/lang/String" "COMPACT_STRINGS" "Z" (.int G1)) ∧ (¬ (G1 = (0 : Int32))) ∧ (Sta Z Z.heap "jdk/internal/util/Preconditions" "SIOOBE_FORMATTER" "Ljava/util/function/BiFunction;" G3) ∧ (G3.isRef = true)
abbrev M0 : MethodName := ⟨"java/lang/StringUTF16", "compress", "([CI[BII)I"⟩
theorem ef_1 (m : MethodId) (x0 : Addr) (x1 : Int32) (x2 : Addr) (x3 : Int32) (x4 : Int32) : entryFrame m #[(.ref x0), (.int x1), (.ref x2), (.int x3), (.int x4)] 7 = mkF m 0 #[.val (.ref x0), .val (.int x1), .val (.ref x2), .val (.int x3), .val (.int x4), .unset, .unset] [] := by first | (simp [entryFrame, mkF, argsToLocals, Value.category]; done) | rfl
theorem pn_2 : plainName "java/lang/StringUTF16" = true := by first | (simp [plainName, overriddenIn]; done) | decide +kernel
theorem d0_0 : decode jdk_52_method_21_code 0 = .ok (.iconst 0, 1) := by decide +kernel
theorem d0_1 : decode jdk_52_method_21_code 1 = .ok (.istore 5, 2) := by decide +kernel
theorem d0_3 : decode jdk_52_method_21_code 3 = .ok (.iload 5, 2) := by decide +kernel
theorem d0_5 : decode jdk_52_method_21_code 5 = .ok (.iload 4, 2) := by decide +kernel
theorem d0_7 : decode jdk_52_method_21_code 7 = .ok (.if_icmp .ge 37, 3) := by decide +kernel
theorem d0_10 : decode jdk_52_method_21_code 10 = .ok (.aload_n 0, 1) := by decide +kernel
theorem d0_11 : decode jdk_52_method_21_code 11 = .ok (.iload_n 1, 1) := by decide +kernel
theorem d0_12 : decode jdk_52_method_21_code 12 = .ok (.caload, 1) := by decide +kernel
theorem d0_13 : decode jdk_52_method_21_code 13 = .ok (.istore 6, 2) := by decide +kernel
theorem d0_15 : decode jdk_52_method_21_code 15 = .ok (.iload 6, 2) := by decide +kernel
theorem d0_17 : decode jdk_52_method_21_code 17 = .ok (.sipush 255, 3) := by decide +kernel
theorem d0_20 : decode jdk_52_method_21_code 20 = .ok (.if_icmp .le 6, 3) := by decide +kernel
theorem d0_26 : decode jdk_52_method_21_code 26 = .ok (.aload_n 2, 1) := by decide +kernel
theorem d0_27 : decode jdk_52_method_21_code 27 = .ok (.iload_n 3, 1) := by decide +kernel
theorem d0_28 : decode jdk_52_method_21_code 28 = .ok (.iload 6, 2) := by decide +kernel
theorem d0_30 : decode jdk_52_method_21_code 30 = .ok (.i2b, 1) := by decide +kernel
theorem d0_31 : decode jdk_52_method_21_code 31 = .ok (.bastore, 1) := by decide +kernel
theorem d0_32 : decode jdk_52_method_21_code 32 = .ok (.iinc 1 1, 3) := by decide +kernel
theorem d0_35 : decode jdk_52_method_21_code 35 = .ok (.iinc 3 1, 3) := by decide +kernel
theorem d0_38 : decode jdk_52_method_21_code 38 = .ok (.iinc 5 1, 3) := by decide +kernel
theorem d0_41 : decode jdk_52_method_21_code 41 = .ok (.goto (-38), 3) := by decide +kernel
theorem d0_44 : decode jdk_52_method_21_code 44 = .ok (.iload 4, 2) := by decide +kernel
theorem d0_46 : decode jdk_52_method_21_code 46 = .ok (.ireturn, 1) := by decide +kernel
abbrev R_cmp5s : Room := { frames := 0, cells := 0, slots := 0, locals := 0 }
def Q_cmp5s (Z : State) (G1 : Int32) (G3 : Value) (b : Addr) (k : ClassId) (t : Addr) (kt : ClassId) (nn : Int32) (cs : List Int32) (ys : List Int32) (h0 : Heap) (n0 : Nat) (v : Option Value) (h : Heap) (L : List Loc) : Prop := (v = some (.int nn) ∧ Fr n0 L ∧ Keep h0 h [t] ∧ (Arv Z h t kt .byte nn (own_iv (own_bs cs)) (.int (0 : Int32))))
set_option maxRecDepth 65536 in
set_option maxHeartbeats 40000000 in
theorem rm_cmp5s (l : Launch) (Z : State) (a0 : Array Value) (hw : ∀ d ∈ tables_1, d.before a0 Z = true) (ws : List Jvm.Cond) (G1 : Int32) (G3 : Value) (HG : own_G l Z a0 G1 G3) (h0 : Heap) (n0 : Nat) (X00 : Old Z n0 h0) (b : Addr) (k : ClassId) (t : Addr) (kt : ClassId) (nn : Int32) (cs : List Int32) (ys : List Int32) (hp0 : Arv Z h0 b k .char nn (own_iv cs) (.int (0 : Int32))) (hp1 : Arv Z h0 t kt .byte nn (own_iv ys) (.int (0 : Int32))) (hp2 : n0 ≤ t) (hp3 : b ≠ t) (hn0 : ¬ (nn < (0 : Int32))) (hl1 : cs.length = nn.toNatClampNeg) (hl2 : ys.length = nn.toNatClampNeg) (hla : own_lat cs) :
    own_CP l Z M0 jdk_52_method_21_code 7 (some .int) ws R_cmp5s #[(.ref b), (.int (0 : Int32)), (.ref t), (.int (0 : Int32)), (.int nn)] h0 (Q_cmp5s Z G1 G3 b k t kt nn cs ys h0 n0) := by
  refine own_P (plainFor_of_name pn_2) ?_
  intro p e s m below meth c s₁ S0 Bd hZ hh hx hby hml hown hnm X0 e0 hS0d
  obtain ⟨O1, P1, O3f, rG3⟩ := id HG
  have N0 := Fr.nil n0
  have C0 : Steps p.tables e below S0 (s₁.setTop (mkF m 0 #[.val (.ref b), .val (.int (0 : Int32)), .val (.ref t), .val (.int (0 : Int32)), .val (.int nn), .unset, .unset] [])) := by rw [hS0d]; exact castTop (ef_1 m b (0 : Int32) t (0 : Int32) nn) (Steps.refl _)
  have C_1 : Steps p.tables e below S0 (s₁.setTop (mkF m 3 #[.val (.ref b), .val (.int (0 : Int32)), .val (.ref t), .val (.int (0 : Int32)), .val (.int nn), .val (.int (0 : Int32)), .unset] [])) := by
    refine C0.trans ?_
    refine XS.iconst X0.here hx rfl (hb hby d0_0) ?_
    refine XS.istore X0.here hx rfl (hb hby d0_1) rfl (l' := #[.val (.ref b), .val (.int (0 : Int32)), .val (.ref t), .val (.int (0 : Int32)), .val (.int nn), .val (.int (0 : Int32)), .unset]) rfl ?_
    exact Steps.refl _
  obtain ⟨j_2, z6_3, T_4, L_5, h_10, I_6⟩ : ∃ (j_2 : Int32) (z6_3 : Slot) (T_4 : State) (L_5 : List Loc) (h_10 : Heap), Stand p l e R_cmp5s s m #[(.ref b), (.int (0 : Int32)), (.ref t), (.int (0 : Int32)), (.int nn)] below meth c T_4 L_5 0 0 ∧ T_4.heap = h_10 ∧ Fr n0 L_5 ∧ Keep h0 h_10 [t] ∧ (¬ (j_2 < (0 : Int32))) ∧ (¬ (nn < j_2)) ∧ (Arv Z h_10 t kt .byte nn (own_iv (own_mix cs ys j_2)) (.int (0 : Int32))) ∧ (z6_3 = .unset ∨ ∃ v : Int32, z6_3 = .val (.int v)) ∧ Steps p.tables e below S0 (T_4.setTop (mkF m 3 #[.val (.ref b), .val (.int j_2), .val (.ref t), .val (.int j_2), .val (.int nn), .val (.int j_2), z6_3] [])) := ⟨(0 : Int32), .unset, s₁, _, _, X0, e0, N0, (Keep.refl _ _), (by decide), hn0, (by rw [own_mix0]; exact hp1), Or.inl rfl, C_1⟩
  obtain ⟨d_7, hd_8⟩ : ∃ d : Nat, d = (nn.toNatClampNeg - j_2.toNatClampNeg) := ⟨_, rfl⟩
  induction d_7 using Nat.strongRecOn generalizing j_2 z6_3 T_4 L_5 h_10 with
  | _ d_7 ih_9 =>
    obtain ⟨X_11, e_12, N_13, K_14, g_16, g_17, g_18, hz_19, C_15⟩ := I_6
    rcases hz_19 with rfl | ⟨v_20, rfl⟩
    · skip
      have C_21 : Steps p.tables e below S0 (T_4.setTop (mkF m 7 #[.val (.ref b), .val (.int j_2), .val (.ref t), .val (.int j_2), .val (.int nn), .val (.int j_2), .unset] [(.int nn), (.int j_2)])) := by
        refine C_15.trans ?_
        refine XS.iload X_11.here hx rfl (hb hby d0_3) rfl ?_
        refine XS.iload X_11.here hx rfl (hb hby d0_5) rfl ?_
        exact Steps.refl _
      by_cases hc_22 : j_2 < nn
      · skip
        have V_23 : Arv Z h_10 b k .char nn (own_iv cs) (.int (0 : Int32)) := (hp0.keep K_14 (ninS hp3 nin0))
        obtain ⟨c_24, A_25, q_26, S_27, M_28, H_29, U_30⟩ := id V_23
        have hin_31 : ¬ (j_2 < 0 ∨ c_24.slots.size ≤ j_2.toNatClampNeg) := inb_of S_27 ⟨g_16, hc_22⟩
        have hat_32 : c_24.slots[j_2.toNatClampNeg]? = some (.int (own_gt cs j_2)) := Has.at H_29 hin_31 (own_iv_at cs j_2)
        obtain ⟨c_33, A_34, q_35, S_36, M_37, H_38, U_39⟩ := id g_18
        have hin_46 : ¬ (j_2 < 0 ∨ c_33.slots.size ≤ j_2.toNatClampNeg) := inb_of S_36 ⟨g_16, hc_22⟩
        obtain ⟨T_40, h_41, X_42, e_43, W_44, st_45⟩ := stB X_11 hx hZ e_12 A_34 (j := j_2) hin_46 (g := (mkF m 31 #[.val (.ref b), .val (.int j_2), .val (.ref t), .val (.int j_2), .val (.int nn), .val (.int j_2), .val (.int (own_gt cs j_2))] [(.int ((own_gt cs j_2).toInt8.toInt32)), (.int j_2), (.ref t)])) rfl rfl (hb hby d0_31)
        have N_47 := Fr.snoc X_42 N_13 hp2
        have V_48 : Arv Z h_41 t kt .byte nn (own_iv ((own_mix cs ys j_2).set j_2.toNatClampNeg (own_lo8 (own_gt cs j_2)))) (.int (0 : Int32)) := own_iv_set (Arv.set A_34 q_35 S_36 M_37 H_38 U_39 (fits_nar_byte _) W_44 j_2.toNatClampNeg rfl (own_ix (own_mixlen hl1 hl2 (own_jle g_17)) g_16 hc_22))
        rw [own_mixset hl1 hl2 g_16 hc_22] at V_48
        have C_49 : Steps p.tables e below S0 (T_40.setTop (mkF m 3 #[.val (.ref b), .val (.int (j_2 + (1 : Int32))), .val (.ref t), .val (.int (j_2 + (1 : Int32))), .val (.int nn), .val (.int (j_2 + (1 : Int32))), .val (.int (own_gt cs j_2))] [])) := by
          refine C_21.trans ?_
          refine XS.icmpNo X_11.here hx rfl (hb hby d0_7) rfl (ii_ge_f hc_22) ?_
          refine XS.aloadN X_11.here hx rfl (hb hby d0_10) rfl rfl ?_
          refine XS.iloadN X_11.here hx rfl (hb hby d0_11) rfl ?_
          refine X_11.caload hx (j := j_2) (v := (.int (own_gt cs j_2))) (by rw [e_12]; exact A_25.1) (State.isArrayOf_alike hZ.alike A_25.2.1) A_25.2.2 hin_31 hat_32 (g := (mkF m 12 #[.val (.ref b), .val (.int j_2), .val (.ref t), .val (.int j_2), .val (.int nn), .val (.int j_2), .unset] [(.int j_2), (.ref b)])) rfl rfl (hb hby d0_12) _ ?_
          refine XS.istore X_11.here hx rfl (hb hby d0_13) rfl (l' := #[.val (.ref b), .val (.int j_2), .val (.ref t), .val (.int j_2), .val (.int nn), .val (.int j_2), .val (.int (own_gt cs j_2))]) rfl ?_
          refine XS.iload X_11.here hx rfl (hb hby d0_15) rfl ?_
          refine XS.sipush X_11.here hx rfl (hb hby d0_17) ?_
          refine XS.icmpYes X_11.here hx rfl (pc0 := 20) (pc' := 26) rfl (hb hby d0_20) rfl (ii_le_t (own_lat_at hla j_2).2) (by decide) (by decide) ?_
          show Steps p.tables e below (T_4.setTop (mkF m 26 #[.val (.ref b), .val (.int j_2), .val (.ref t), .val (.int j_2), .val (.int nn), .val (.int j_2), .val (.int (own_gt cs j_2))] [])) _
          refine XS.aloadN X_11.here hx rfl (hb hby d0_26) rfl rfl ?_
          refine XS.iloadN X_11.here hx rfl (hb hby d0_27) rfl ?_
          refine XS.iload X_11.here hx rfl (hb hby d0_28) rfl ?_
          refine XS.i2b X_11.here hx rfl (hb hby d0_30) rfl ?_
          refine st_45 _ ?_
          refine XS.iinc X_42.here hx rfl (hb hby d0_32) (x := j_2) rfl (l' := #[.val (.ref b), .val (.int (j_2 + (1 : Int32))), .val (.ref t), .val (.int j_2), .val (.int nn), .val (.int j_2), .val (.int (own_gt cs j_2))]) rfl ?_
          refine XS.iinc X_42.here hx rfl (hb hby d0_35) (x := j_2) rfl (l' := #[.val (.ref b), .val (.int (j_2 + (1 : Int32))), .val (.ref t), .val (.int (j_2 + (1 : Int32))), .val (.int nn), .val (.int j_2), .val (.int (own_gt cs j_2))]) rfl ?_
          refine XS.iinc X_42.here hx rfl (hb hby d0_38) (x := j_2) rfl (l' := #[.val (.ref b), .val (.int (j_2 + (1 : Int32))), .val (.ref t), .val (.int (j_2 + (1 : Int32))), .val (.int nn), .val (.int (j_2 + (1 : Int32))), .val (.int (own_gt cs j_2))]) rfl ?_
          show Steps p.tables e below (T_40.setTop (mkF m 41 #[.val (.ref b), .val (.int (j_2 + (1 : Int32))), .val (.ref t), .val (.int (j_2 + (1 : Int32))), .val (.int nn), .val (.int (j_2 + (1 : Int32))), .val (.int (own_gt cs j_2))] [])) _
          refine XS.goto X_42.here hx rfl (pc0 := 41) (pc' := 3) rfl (hb hby d0_41) (by decide) (by decide) ?_
          exact Steps.refl _
        exact ih_9 _ (by rw [hd_8]; exact (own_dec g_16 hc_22)) (j_2 + (1 : Int32)) (.val (.int (own_gt cs j_2))) _ _ _ ⟨X_42, e_43, N_47, (((Keep.refl _ _).trans K_14 (allS (Or.inl (List.mem_of_getElem? (i := 0) rfl)) all0)).wr W_44 (Or.inl (List.mem_of_getElem? (i := 0) rfl))), (own_nat g_16 hc_22).2.2.1, (own_nat g_16 hc_22).2.2.2, V_48, Or.inr ⟨_, rfl⟩, C_49⟩ rfl
      · skip
        have C_50 : Steps p.tables e below S0 (T_4.setTop (mkF m 46 #[.val (.ref b), .val (.int j_2), .val (.ref t), .val (.int j_2), .val (.int nn), .val (.int j_2), .unset] [(.int nn)])) := by
          refine C_21.trans ?_
          refine XS.icmpYes X_11.here hx rfl (pc0 := 7) (pc' := 44) rfl (hb hby d0_7) rfl (ii_ge_t hc_22) (by decide) (by decide) ?_
          refine XS.iload X_11.here hx rfl (hb hby d0_44) rfl ?_
          exact Steps.refl _
        have K_51 : Keep h0 h_10 [t] := ((Keep.refl _ _).trans K_14 (allS (Or.inl (List.mem_of_getElem? (i := 0) rfl)) all0))
        obtain ⟨fs, hr, hrun, hended, hW, hsame⟩ := X_11.leave (v := some (.int nn)) (fun h => by rw [Bd.returns] at h; cases h)
        refine ⟨_, _, C_50.trans (retOut X_11 hx Bd.returns rfl (Or.inl ⟨rfl, Or.inl rfl, _, rfl⟩) (hb hby d0_46) hr), hrun, hended, _, _, rfl, ?_, ⟨_, rfl⟩, hW, hsame.mono (by decide) (by decide)⟩
        show Q_cmp5s Z G1 G3 b k t kt nn cs ys h0 n0 (some (.int nn)) T_4.heap _
        rw [e_12]
        exact ⟨rfl, N_13, K_51, (own_mixend hl1 hl2 hc_22 g_17 ▸ g_18)⟩
    · skip
      have C_52 : Steps p.tables e below S0 (T_4.setTop (mkF m 7 #[.val (.ref b), .val (.int j_2), .val (.ref t), .val (.int j_2), .val (.int nn), .val (.int j_2), .val (.int v_20)] [(.int nn), (.int j_2)])) := by
        refine C_15.trans ?_
        refine XS.iload X_11.here hx rfl (hb hby d0_3) rfl ?_
        refine XS.iload X_11.here hx rfl (hb hby d0_5) rfl ?_
        exact Steps.refl _
      by_cases hc_53 : j_2 < nn
      · skip
        have V_54 : Arv Z h_10 b k .char nn (own_iv cs) (.int (0 : Int32)) := (hp0.keep K_14 (ninS hp3 nin0))
        obtain ⟨c_55, A_56, q_57, S_58, M_59, H_60, U_61⟩ := id V_54
        have hin_62 : ¬ (j_2 < 0 ∨ c_55.slots.size ≤ j_2.toNatClampNeg) := inb_of S_58 ⟨g_16, hc_53⟩
        have hat_63 : c_55.slots[j_2.toNatClampNeg]? = some (.int (own_gt cs j_2)) := Has.at H_60 hin_62 (own_iv_at cs j_2)
        obtain ⟨c_64, A_65, q_66, S_67, M_68, H_69, U_70⟩ := id g_18
        have hin_77 : ¬ (j_2 < 0 ∨ c_64.slots.size ≤ j_2.toNatClampNeg) := inb_of S_67 ⟨g_16, hc_53⟩
        obtain ⟨T_71, h_72, X_73, e_74, W_75, st_76⟩ := stB X_11 hx hZ e_12 A_65 (j := j_2) hin_77 (g := (mkF m 31 #[.val (.ref b), .val (.int j_2), .val (.ref t), .val (.int j_2), .val (.int nn), .val (.int j_2), .val (.int (own_gt cs j_2))] [(.int ((own_gt cs j_2).toInt8.toInt32)), (.int j_2), (.ref t)])) rfl rfl (hb hby d0_31)
        have N_78 := Fr.snoc X_73 N_13 hp2
        have V_79 : Arv Z h_72 t kt .byte nn (own_iv ((own_mix cs ys j_2).set j_2.toNatClampNeg (own_lo8 (own_gt cs j_2)))) (.int (0 : Int32)) := own_iv_set (Arv.set A_65 q_66 S_67 M_68 H_69 U_70 (fits_nar_byte _) W_75 j_2.toNatClampNeg rfl (own_ix (own_mixlen hl1 hl2 (own_jle g_17)) g_16 hc_53))
        rw [own_mixset hl1 hl2 g_16 hc_53] at V_79
        have C_80 : Steps p.tables e below S0 (T_71.setTop (mkF m 3 #[.val (.ref b), .val (.int (j_2 + (1 : Int32))), .val (.ref t), .val (.int (j_2 + (1 : Int32))), .val (.int nn), .val (.int (j_2 + (1 : Int32))), .val (.int (own_gt cs j_2))] [])) := by
          refine C_52.trans ?_
          refine XS.icmpNo X_11.here hx rfl (hb hby d0_7) rfl (ii_ge_f hc_53) ?_
          refine XS.aloadN X_11.here hx rfl (hb hby d0_10) rfl rfl ?_
          refine XS.iloadN X_11.here hx rfl (hb hby d0_11) rfl ?_
          refine X_11.caload hx (j := j_2) (v := (.int (own_gt cs j_2))) (by rw [e_12]; exact A_56.1) (State.isArrayOf_alike hZ.alike A_56.2.1) A_56.2.2 hin_62 hat_63 (g := (mkF m 12 #[.val (.ref b), .val (.int j_2), .val (.ref t), .val (.int j_2), .val (.int nn), .val (.int j_2), .val (.int v_20)] [(.int j_2), (.ref b)])) rfl rfl (hb hby d0_12) _ ?_
          refine XS.istore X_11.here hx rfl (hb hby d0_13) rfl (l' := #[.val (.ref b), .val (.int j_2), .val (.ref t), .val (.int j_2), .val (.int nn), .val (.int j_2), .val (.int (own_gt cs j_2))]) rfl ?_
          refine XS.iload X_11.here hx rfl (hb hby d0_15) rfl ?_
          refine XS.sipush X_11.here hx rfl (hb hby d0_17) ?_
          refine XS.icmpYes X_11.here hx rfl (pc0 := 20) (pc' := 26) rfl (hb hby d0_20) rfl (ii_le_t (own_lat_at hla j_2).2) (by decide) (by decide) ?_
          show Steps p.tables e below (T_4.setTop (mkF m 26 #[.val (.ref b), .val (.int j_2), .val (.ref t), .val (.int j_2), .val (.int nn), .val (.int j_2), .val (.int (own_gt cs j_2))] [])) _
          refine XS.aloadN X_11.here hx rfl (hb hby d0_26) rfl rfl ?_
          refine XS.iloadN X_11.here hx rfl (hb hby d0_27) rfl ?_
          refine XS.iload X_11.here hx rfl (hb hby d0_28) rfl ?_
          refine XS.i2b X_11.here hx rfl (hb hby d0_30) rfl ?_
          refine st_76 _ ?_
          refine XS.iinc X_73.here hx rfl (hb hby d0_32) (x := j_2) rfl (l' := #[.val (.ref b), .val (.int (j_2 + (1 : Int32))), .val (.ref t), .val (.int j_2), .val (.int nn), .val (.int j_2), .val (.int (own_gt cs j_2))]) rfl ?_
          refine XS.iinc X_73.here hx rfl (hb hby d0_35) (x := j_2) rfl (l' := #[.val (.ref b), .val (.int (j_2 + (1 : Int32))), .val (.ref t), .val (.int (j_2 + (1 : Int32))), .val (.int nn), .val (.int j_2), .val (.int (own_gt cs j_2))]) rfl ?_
          refine XS.iinc X_73.here hx rfl (hb hby d0_38) (x := j_2) rfl (l' := #[.val (.ref b), .val (.int (j_2 + (1 : Int32))), .val (.ref t), .val (.int (j_2 + (1 : Int32))), .val (.int nn), .val (.int (j_2 + (1 : Int32))), .val (.int (own_gt cs j_2))]) rfl ?_
          show Steps p.tables e below (T_71.setTop (mkF m 41 #[.val (.ref b), .val (.int (j_2 + (1 : Int32))), .val (.ref t), .val (.int (j_2 + (1 : Int32))), .val (.int nn), .val (.int (j_2 + (1 : Int32))), .val (.int (own_gt cs j_2))] [])) _
          refine XS.goto X_73.here hx rfl (pc0 := 41) (pc' := 3) rfl (hb hby d0_41) (by decide) (by decide) ?_
          exact Steps.refl _
        exact ih_9 _ (by rw [hd_8]; exact (own_dec g_16 hc_53)) (j_2 + (1 : Int32)) (.val (.int (own_gt cs j_2))) _ _ _ ⟨X_73, e_74, N_78, (((Keep.refl _ _).trans K_14 (allS (Or.inl (List.mem_of_getElem? (i := 0) rfl)) all0)).wr W_75 (Or.inl (List.mem_of_getElem? (i := 0) rfl))), (own_nat g_16 hc_53).2.2.1, (own_nat g_16 hc_53).2.2.2, V_79, Or.inr ⟨_, rfl⟩, C_80⟩ rfl
      · skip
        have C_81 : Steps p.tables e below S0 (T_4.setTop (mkF m 46 #[.val (.ref b), .val (.int j_2), .val (.ref t), .val (.int j_2), .val (.int nn), .val (.int j_2), .val (.int v_20)] [(.int nn)])) := by
          refine C_52.trans ?_
          refine XS.icmpYes X_11.here hx rfl (pc0 := 7) (pc' := 44) rfl (hb hby d0_7) rfl (ii_ge_t hc_53) (by decide) (by decide) ?_
          refine XS.iload X_11.here hx rfl (hb hby d0_44) rfl ?_
          exact Steps.refl _
        have K_82 : Keep h0 h_10 [t] := ((Keep.refl _ _).trans K_14 (allS (Or.inl (List.mem_of_getElem? (i := 0) rfl)) all0))
        obtain ⟨fs, hr, hrun, hended, hW, hsame⟩ := X_11.leave (v := some (.int nn)) (fun h => by rw [Bd.returns] at h; cases h)
        refine ⟨_, _, C_81.trans (retOut X_11 hx Bd.returns rfl (Or.inl ⟨rfl, Or.inl rfl, _, rfl⟩) (hb hby d0_46) hr), hrun, hended, _, _, rfl, ?_, ⟨_, rfl⟩, hW, hsame.mono (by decide) (by decide)⟩
        show Q_cmp5s Z G1 G3 b k t kt nn cs ys h0 n0 (some (.int nn)) T_4.heap _
        rw [e_12]
        exact ⟨rfl, N_13, K_82, (own_mixend hl1 hl2 hc_53 g_17 ▸ g_18)⟩
abbrev M26 : MethodName := ⟨"java/lang/StringUTF16", "compress", "([CII)[B"⟩
theorem ef_27 (m : MethodId) (x0 : Addr) (x1 : Int32) (x2 : Int32) : entryFrame m #[(.ref x0), (.int x1), (.int x2)] 6 = mkF m 0 #[.val (.ref x0), .val (.int x1), .val (.int x2), .unset, .unset, .unset] [] := by first | (simp [entryFrame, mkF, argsToLocals, Value.category]; done) | rfl
theorem d1_0 : decode jdk_52_method_16_code 0 = .ok (.iload_n 2, 1) := by decide +kernel
theorem w39 {Z : State} {a0 : Array Value} (hw : ∀ d ∈ tables_1, d.before a0 Z = true) : Jvm.Cond.before (Jvm.Cond.arrayClass Jvm.ClassFile.FieldType.byte) a0 Z = true := hw _ (List.mem_of_getElem? (i := 39) rfl)
theorem d1_1 : decode jdk_52_method_16_code 1 = .ok (.newarray .byte, 2) := by decide +kernel
theorem d1_3 : decode jdk_52_method_16_code 3 = .ok (.astore_n 3, 1) := by decide +kernel
theorem d1_4 : decode jdk_52_method_16_code 4 = .ok (.aload_n 0, 1) := by decide +kernel
theorem d1_5 : decode jdk_52_method_16_code 5 = .ok (.iload_n 1, 1) := by decide +kernel
theorem d1_6 : decode jdk_52_method_16_code 6 = .ok (.aload_n 3, 1) := by decide +kernel
theorem d1_7 : decode jdk_52_method_16_code 7 = .ok (.iconst 0, 1) := by decide +kernel
theorem d1_8 : decode jdk_52_method_16_code 8 = .ok (.iload_n 2, 1) := by decide +kernel
theorem w72 {Z : State} {a0 : Array Value} (hw : ∀ d ∈ tables_1, d.before a0 Z = true) : Jvm.Cond.before (Jvm.Cond.code ({ cls := "java/lang/StringUTF16", name := "compress", desc := "([CI[BII)I" } : Jvm.MethodName) jdk_52_method_21_code (7 : Nat) (Option.some Jvm.ClassFile.FieldType.int)) a0 Z = true := hw _ (List.mem_of_getElem? (i := 72) rfl)
theorem w68 {Z : State} {a0 : Array Value} (hw : ∀ d ∈ tables_1, d.before a0 Z = true) : Jvm.Cond.before (Jvm.Cond.initialized "java/lang/StringUTF16") a0 Z = true := hw _ (List.mem_of_getElem? (i := 68) rfl)
theorem pd_39 : parseMethodDescriptor "([CI[BII)I" = some ⟨[(.array .char), .int, (.array .byte), .int, .int], some .int⟩ := by decide +kernel
theorem d1_9 : decode jdk_52_method_16_code 9 = .ok (.invokestatic 115, 3) := by decide +kernel
theorem w70 {Z : State} {a0 : Array Value} (hw : ∀ d ∈ tables_1, d.before a0 Z = true) : Jvm.Cond.before (Jvm.Cond.methodLink "java/lang/StringUTF16" (115 : Nat) ({ cls := "java/lang/StringUTF16", name := "compress", desc := "([CI[BII)I" } : Jvm.MethodName)) a0 Z = true := hw _ (List.mem_of_getElem? (i := 70) rfl)
theorem w71 {Z : State} {a0 : Array Value} (hw : ∀ d ∈ tables_1, d.before a0 Z = true) : Jvm.Cond.before (Jvm.Cond.static ({ cls := "java/lang/StringUTF16", name := "compress", desc := "([CI[BII)I" } : Jvm.MethodName)) a0 Z = true := hw _ (List.mem_of_getElem? (i := 71) rfl)
theorem d1_12 : decode jdk_52_method_16_code 12 = .ok (.istore 4, 2) := by decide +kernel
theorem d1_14 : decode jdk_52_method_16_code 14 = .ok (.iload 4, 2) := by decide +kernel
theorem d1_16 : decode jdk_52_method_16_code 16 = .ok (.iload_n 2, 1) := by decide +kernel
theorem d1_17 : decode jdk_52_method_16_code 17 = .ok (.if_icmp .eq 40, 3) := by decide +kernel
theorem d1_57 : decode jdk_52_method_16_code 57 = .ok (.aload_n 3, 1) := by decide +kernel
theorem d1_58 : decode jdk_52_method_16_code 58 = .ok (.areturn, 1) := by decide +kernel
abbrev R_cmp3s : Room := { frames := 1, cells := 1, slots := 19, locals := 18 }
def Q_cmp3s (Z : State) (G1 : Int32) (G3 : Value) (b : Addr) (k : ClassId) (nn : Int32) (cs : List Int32) (h0 : Heap) (n0 : Nat) (v : Option Value) (h : Heap) (L : List Loc) : Prop := (∃ t : Addr, ∃ kt : ClassId, v = some (.ref t) ∧ Fr n0 L ∧ Keep h0 h [] ∧ (h0.size ≤ t) ∧ (Arv Z h t kt .byte nn (own_iv (own_bs cs)) (.int (0 : Int32))))
set_option maxRecDepth 65536 in
set_option maxHeartbeats 40000000 in
theorem rm_cmp3s (l : Launch) (Z : State) (a0 : Array Value) (hw : ∀ d ∈ tables_1, d.before a0 Z = true) (ws : List Jvm.Cond) (G1 : Int32) (G3 : Value) (HG : own_G l Z a0 G1 G3) (h0 : Heap) (n0 : Nat) (X00 : Old Z n0 h0) (b : Addr) (k : ClassId) (nn : Int32) (cs : List Int32) (hp0 : Arv Z h0 b k .char nn (own_iv cs) (.int (0 : Int32))) (hn0 : ¬ (nn < (0 : Int32))) (hcap : nn.toNatClampNeg ≤ 19) (hl1 : cs.length = nn.toNatClampNeg) (hla : own_lat cs) :
    own_CP l Z M26 jdk_52_method_16_code 6 (some (.array .byte)) ws R_cmp3s #[(.ref b), (.int (0 : Int32)), (.int nn)] h0 (Q_cmp3s Z G1 G3 b k nn cs h0 n0) := by
  refine own_P (plainFor_of_name pn_2) ?_
  intro p e s m below meth c s₁ S0 Bd hZ hh hx hby hml hown hnm X0 e0 hS0d
  obtain ⟨O1, P1, O3f, rG3⟩ := id HG
  have N0 := Fr.nil n0
  have C0 : Steps p.tables e below S0 (s₁.setTop (mkF m 0 #[.val (.ref b), .val (.int (0 : Int32)), .val (.int nn), .unset, .unset, .unset] [])) := by rw [hS0d]; exact castTop (ef_27 m b (0 : Int32) nn) (Steps.refl _)
  obtain ⟨T_1, h_2, k_3, X_4, e_5, E_6, A_7, st_8⟩ := newP (aty := .byte) X0 hx hZ (w39 hw) e0 (g := (mkF m 1 #[.val (.ref b), .val (.int (0 : Int32)), .val (.int nn), .unset, .unset, .unset] [(.int nn)])) rfl (hb hby d1_1) rfl hn0 (cap := 19) hcap (by decide) (by decide) (by decide)
  obtain ⟨a_9, g_10⟩ : ∃ z, z = h0.size := ⟨_, rfl⟩
  rw [← g_10] at A_7 st_8
  have V_11 : Arv Z h_2 a_9 k_3 .byte nn (own_iv (List.replicate nn.toNatClampNeg 0)) (.int (0 : Int32)) := (Arv.new A_7 hn0).pad (own_pad _)
  have V_12 : Arv Z h_2 b k .char nn (own_iv cs) (.int (0 : Int32)) := (hp0.ext E_6)
  have O_13 : Old Z n0 h_2 := (X00.ext E_6)
  obtain ⟨_, _, ⟨T_14, L_14, k_14, n_14⟩, -, X_14, ⟨Lc_14, hQ_14, l_14, y_14, z_14⟩, st_14⟩ := Jvm.LawKit.callS X_4 hx (y := M0) hown (mvT hZ (w70 hw)) (mvT hZ (w71 hw)) (mvT hZ (w68 hw)) (mvT hZ (w72 hw)) (by decide) (backOf (W := 0) (rm_cmp5s l Z a0 hw [] G1 G3 HG h_2 n0 O_13 b k a_9 k_3 nn cs (List.replicate nn.toNatClampNeg 0) V_12 V_11 (Nat.le_trans (own_n0 X00) (Nat.le_of_eq g_10.symm)) (Nat.ne_of_lt (Nat.lt_of_lt_of_le hp0.lt (Nat.le_trans (Nat.le_refl _) (Nat.le_of_eq g_10.symm)))) hn0 hl1 (List.length_replicate) hla) hZ (w72 hw) (w68 hw) (by decide) (by decide)) (g := (mkF m 9 #[.val (.ref b), .val (.int (0 : Int32)), .val (.int nn), .val (.ref a_9), .unset, .unset] [(.int nn), (.int (0 : Int32)), (.ref a_9), (.int (0 : Int32)), (.ref b)])) rfl (by rw [hml]; rfl) (argsL := [(.ref b), (.int (0 : Int32)), (.ref a_9), (.int (0 : Int32)), (.int nn)]) (rest := []) (lenOf pd_39 rfl) rfl (by show 2 * 0 + _ ≤ _; exact Nat.le_of_eq rfl) (hb hby d1_9) (fun _ _ => ⟨rfl, e_5, (by decide : 1 + 0 ≤ _), (by decide : 19 + 0 ≤ _)⟩)
  dsimp only [Pt.U, Pt.locs, Pt.cells, Pt.slots] at X_14 l_14 y_14 z_14 st_14 hQ_14
  have X_14 := own_cast X_14 l_14 y_14 z_14
  obtain ⟨rfl, N_15, K_16, g_17⟩ := hQ_14
  have N_18 := Fr.app N0 N_15
  have C_19 : Steps p.tables e below S0 (T_14.setTop (mkF m 58 #[.val (.ref b), .val (.int (0 : Int32)), .val (.int nn), .val (.ref a_9), .val (.int nn), .unset] [(.ref a_9)])) := by
    refine C0.trans ?_
    refine XS.iloadN X0.here hx rfl (hb hby d1_0) rfl ?_
    refine st_8 _ ?_
    refine XS.astoreN X_4.here hx rfl (hb hby d1_3) rfl rfl (l' := #[.val (.ref b), .val (.int (0 : Int32)), .val (.int nn), .val (.ref a_9), .unset, .unset]) rfl ?_
    refine XS.aloadN X_4.here hx rfl (hb hby d1_4) rfl rfl ?_
    refine XS.iloadN X_4.here hx rfl (hb hby d1_5) rfl ?_
    refine XS.aloadN X_4.here hx rfl (hb hby d1_6) rfl rfl ?_
    refine XS.iconst X_4.here hx rfl (hb hby d1_7) ?_
    refine XS.iloadN X_4.here hx rfl (hb hby d1_8) rfl ?_
    show Steps p.tables e below (T_1.setTop (mkF m 9 #[.val (.ref b), .val (.int (0 : Int32)), .val (.int nn), .val (.ref a_9), .unset, .unset] [(.int nn), (.int (0 : Int32)), (.ref a_9), (.int (0 : Int32)), (.ref b)])) _
    refine st_14 _ ?_
    refine XS.istore X_14.here hx rfl (hb hby d1_12) rfl (l' := #[.val (.ref b), .val (.int (0 : Int32)), .val (.int nn), .val (.ref a_9), .val (.int nn), .unset]) rfl ?_
    refine XS.iload X_14.here hx rfl (hb hby d1_14) rfl ?_
    refine XS.iloadN X_14.here hx rfl (hb hby d1_16) rfl ?_
    refine XS.icmpYes X_14.here hx rfl (pc0 := 17) (pc' := 57) rfl (hb hby d1_17) rfl (ii_eq_t rfl) (by decide) (by decide) ?_
    refine XS.aloadN X_14.here hx rfl (hb hby d1_57) rfl rfl ?_
    exact Steps.refl _
  have K_20 : Keep h0 T_14.heap [] := (((Keep.refl _ _).ext E_6).trans K_16 (allS (Or.inr (Nat.le_trans (Nat.le_refl _) (Nat.le_of_eq g_10.symm))) all0))
  obtain ⟨fs, hr, hrun, hended, hW, hsame⟩ := X_14.leave (v := some (.ref a_9)) (fun h => by rw [Bd.returns] at h; cases h)
  refine ⟨_, _, C_19.trans (retOut X_14 hx Bd.returns rfl (Or.inr (Or.inr (Or.inr (Or.inr ⟨rfl, rfl, rfl⟩)))) (hb hby d1_58) hr), hrun, hended, _, _, rfl, ?_, ⟨_, rfl⟩, hW, hsame.mono (by decide) (by decide)⟩
  show Q_cmp3s Z G1 G3 b k nn cs h0 n0 (some (.ref a_9)) T_14.heap _
  exact ⟨a_9, k_3, rfl, N_18, K_20, (Nat.le_trans (Nat.le_refl _) (Nat.le_of_eq g_10.symm)), g_17⟩
abbrev M49 : MethodName := ⟨"java/lang/StringUTF16", "coderFromArrayLen", "([BI)B"⟩
theorem ef_50 (m : MethodId) (x0 : Addr) (x1 : Int32) : entryFrame m #[(.ref x0), (.int x1)] 2 = mkF m 0 #[.val (.ref x0), .val (.int x1)] [] := by first | (simp [entryFrame, mkF, argsToLocals, Value.category]; done) | rfl
theorem d2_0 : decode jdk_52_method_15_code 0 = .ok (.iload_n 1, 1) := by decide +kernel
theorem d2_1 : decode jdk_52_method_15_code 1 = .ok (.aload_n 0, 1) := by decide +kernel
theorem d2_2 : decode jdk_52_method_15_code 2 = .ok (.arraylength, 1) := by decide +kernel
theorem d2_3 : decode jdk_52_method_15_code 3 = .ok (.isub, 1) := by decide +kernel
theorem d2_4 : decode jdk_52_method_15_code 4 = .ok (.bipush 31, 2) := by decide +kernel
theorem d2_6 : decode jdk_52_method_15_code 6 = .ok (.iushr, 1) := by decide +kernel
theorem d2_7 : decode jdk_52_method_15_code 7 = .ok (.i2b, 1) := by decide +kernel
theorem d2_8 : decode jdk_52_method_15_code 8 = .ok (.ireturn, 1) := by decide +kernel
abbrev R_codls : Room := { frames := 0, cells := 0, slots := 0, locals := 0 }
def Q_codls (Z : State) (G1 : Int32) (G3 : Value) (t : Addr) (kt : ClassId) (nn : Int32) (ys : List Value) (h0 : Heap) (n0 : Nat) (v : Option Value) (h : Heap) (L : List Loc) : Prop := (v = some (.int (0 : Int32)) ∧ Fr n0 L ∧ h = h0)
set_option maxRecDepth 65536 in
set_option maxHeartbeats 40000000 in
theorem rm_codls (l : Launch) (Z : State) (a0 : Array Value) (hw : ∀ d ∈ tables_1, d.before a0 Z = true) (ws : List Jvm.Cond) (G1 : Int32) (G3 : Value) (HG : own_G l Z a0 G1 G3) (h0 : Heap) (n0 : Nat) (X00 : Old Z n0 h0) (t : Addr) (kt : ClassId) (nn : Int32) (ys : List Value) (hp0 : Arv Z h0 t kt .byte nn ys (.int (0 : Int32))) :
    own_CP l Z M49 jdk_52_method_15_code 2 (some .byte) ws R_codls #[(.ref t), (.int nn)] h0 (Q_codls Z G1 G3 t kt nn ys h0 n0) := by
  refine own_P (plainFor_of_name pn_2) ?_
  intro p e s m below meth c s₁ S0 Bd hZ hh hx hby hml hown hnm X0 e0 hS0d
  obtain ⟨O1, P1, O3f, rG3⟩ := id HG
  have N0 := Fr.nil n0
  have C0 : Steps p.tables e below S0 (s₁.setTop (mkF m 0 #[.val (.ref t), .val (.int nn)] [])) := by rw [hS0d]; exact castTop (ef_50 m t nn) (Steps.refl _)
  obtain ⟨c_1, A_2, q_3, S_4, M_5, H_6, U_7⟩ := id hp0
  have C_8 : Steps p.tables e below S0 (s₁.setTop (mkF m 8 #[.val (.ref t), .val (.int nn)] [(.int ((((nn - nn).toUInt32 >>> ((31 : Int32) &&& 31).toUInt32).toInt32).toInt8.toInt32))])) := by
    refine C0.trans ?_
    refine XS.iloadN X0.here hx rfl (hb hby d2_0) rfl ?_
    refine XS.aloadN X0.here hx rfl (hb hby d2_1) rfl rfl ?_
    refine X0.arraylength hx (by rw [e0]; exact A_2.1) (State.isArrayOf_alike hZ.alike A_2.2.1) (g := (mkF m 2 #[.val (.ref t), .val (.int nn)] [(.ref t), (.int nn)])) rfl rfl (hb hby d2_2) _ ?_
    rw [len_of S_4 M_5]
    refine XS.isub X0.here hx rfl (hb hby d2_3) rfl ?_
    refine XS.bipush X0.here hx rfl (hb hby d2_4) ?_
    refine XS.iushr X0.here hx rfl (hb hby d2_6) rfl ?_
    refine XS.i2b X0.here hx rfl (hb hby d2_7) rfl ?_
    exact Steps.refl _
  obtain ⟨fs, hr, hrun, hended, hW, hsame⟩ := X0.leave (v := some (.int (nar .byte ((((nn - nn).toUInt32 >>> ((31 : Int32) &&& 31).toUInt32).toInt32).toInt8.toInt32)))) (fun h => by rw [Bd.returns] at h; cases h)
  refine ⟨_, _, C_8.trans (retN X0 hx (t := .byte) Bd.returns (by simp) (hb hby d2_8) hr), hrun, hended, _, _, rfl, ?_, ⟨_, rfl⟩, hW, hsame.mono (by decide) (by decide)⟩
  show Q_codls Z G1 G3 t kt nn ys h0 n0 (some (.int (nar .byte ((((nn - nn).toUInt32 >>> ((31 : Int32) &&& 31).toUInt32).toInt32).toInt8.toInt32)))) s₁.heap _
  rw [e0]
  exact ⟨(congrArg (fun q => some (Value.int q)) (own_cod nn)), N0, rfl⟩
abbrev M59 : MethodName := ⟨"java/lang/String", "<init>", "([CIILjava/lang/Void;)V"⟩
theorem ef_60 (m : MethodId) (x0 : Addr) (x1 : Addr) (x2 : Int32) (x3 : Int32) : entryFrame m #[(.ref x0), (.ref x1), (.int x2), (.int x3), .null] 6 = mkF m 0 #[.val (.ref x0), .val (.ref x1), .val (.int x2), .val (.int x3), .val .null, .unset] [] := by first | (simp [entryFrame, mkF, argsToLocals, Value.category]; done) | rfl
theorem pn_61 : plainName "java/lang/String" = true := by first | (simp [plainName, overriddenIn]; done) | decide +kernel
theorem d3_0 : decode jdk_42_method_149_code 0 = .ok (.aload_n 0, 1) := by decide +kernel
theorem w35 {Z : State} {a0 : Array Value} (hw : ∀ d ∈ tables_1, d.before a0 Z = true) : Jvm.Cond.before (Jvm.Cond.methodLink "java/lang/String" (1 : Nat) ({ cls := "java/lang/Object", name := "<init>", desc := "()V" } : Jvm.MethodName)) a0 Z = true := hw _ (List.mem_of_getElem? (i := 35) rfl)
theorem w36 {Z : State} {a0 : Array Value} (hw : ∀ d ∈ tables_1, d.before a0 Z = true) : Jvm.Cond.before (Jvm.Cond.instanceMethod ({ cls := "java/lang/Object", name := "<init>", desc := "()V" } : Jvm.MethodName)) a0 Z = true := hw _ (List.mem_of_getElem? (i := 36) rfl)
theorem w37 {Z : State} {a0 : Array Value} (hw : ∀ d ∈ tables_1, d.before a0 Z = true) : Jvm.Cond.before (Jvm.Cond.code ({ cls := "java/lang/Object", name := "<init>", desc := "()V" } : Jvm.MethodName) object_method_1_code (1 : Nat) (Option.none : Option Jvm.ClassFile.FieldType)) a0 Z = true := hw _ (List.mem_of_getElem? (i := 37) rfl)
theorem d3_1 : decode jdk_42_method_149_code 1 = .ok (.invokespecial 1, 3) := by decide +kernel
theorem d3_4 : decode jdk_42_method_149_code 4 = .ok (.iload_n 3, 1) := by decide +kernel
theorem d3_5 : decode jdk_42_method_149_code 5 = .ok (.ifCond .ne 22, 3) := by decide +kernel
theorem w60 {Z : State} {a0 : Array Value} (hw : ∀ d ∈ tables_1, d.before a0 Z = true) : Jvm.Cond.before (Jvm.Cond.fieldLink "java/lang/String" (38 : Nat) "java/lang/String" "COMPACT_STRINGS" "Z") a0 Z = true := hw _ (List.mem_of_getElem? (i := 60) rfl)
theorem d3_27 : decode jdk_42_method_149_code 27 = .ok (.getstatic 38, 3) := by decide +kernel
theorem d3_30 : decode jdk_42_method_149_code 30 = .ok (.ifCond .eq 28, 3) := by decide +kernel
theorem d3_33 : decode jdk_42_method_149_code 33 = .ok (.aload_n 1, 1) := by decide +kernel
theorem d3_34 : decode jdk_42_method_149_code 34 = .ok (.iload_n 2, 1) := by decide +kernel
theorem d3_35 : decode jdk_42_method_149_code 35 = .ok (.iload_n 3, 1) := by decide +kernel
theorem w69 {Z : State} {a0 : Array Value} (hw : ∀ d ∈ tables_1, d.before a0 Z = true) : Jvm.Cond.before (Jvm.Cond.code ({ cls := "java/lang/StringUTF16", name := "compress", desc := "([CII)[B" } : Jvm.MethodName) jdk_52_method_16_code (6 : Nat) (Option.some (Jvm.ClassFile.FieldType.array Jvm.ClassFile.FieldType.byte))) a0 Z = true := hw _ (List.mem_of_getElem? (i := 69) rfl)
theorem pd_76 : parseMethodDescriptor "([CII)[B" = some ⟨[(.array .char), .int, .int], some (.array .byte)⟩ := by decide +kernel
theorem d3_36 : decode jdk_42_method_149_code 36 = .ok (.invokestatic 177, 3) := by decide +kernel
theorem w66 {Z : State} {a0 : Array Value} (hw : ∀ d ∈ tables_1, d.before a0 Z = true) : Jvm.Cond.before (Jvm.Cond.methodLink "java/lang/String" (177 : Nat) ({ cls := "java/lang/StringUTF16", name := "compress", desc := "([CII)[B" } : Jvm.MethodName)) a0 Z = true := hw _ (List.mem_of_getElem? (i := 66) rfl)
theorem w67 {Z : State} {a0 : Array Value} (hw : ∀ d ∈ tables_1, d.before a0 Z = true) : Jvm.Cond.before (Jvm.Cond.static ({ cls := "java/lang/StringUTF16", name := "compress", desc := "([CII)[B" } : Jvm.MethodName)) a0 Z = true := hw _ (List.mem_of_getElem? (i := 67) rfl)
theorem d3_39 : decode jdk_42_method_149_code 39 = .ok (.astore 5, 2) := by decide +kernel
theorem d3_41 : decode jdk_42_method_149_code 41 = .ok (.aload_n 0, 1) := by decide +kernel
theorem d3_42 : decode jdk_42_method_149_code 42 = .ok (.aload 5, 2) := by decide +kernel
theorem d3_44 : decode jdk_42_method_149_code 44 = .ok (.iload_n 3, 1) := by decide +kernel
theorem w75 {Z : State} {a0 : Array Value} (hw : ∀ d ∈ tables_1, d.before a0 Z = true) : Jvm.Cond.before (Jvm.Cond.code ({ cls := "java/lang/StringUTF16", name := "coderFromArrayLen", desc := "([BI)B" } : Jvm.MethodName) jdk_52_method_15_code (2 : Nat) (Option.some Jvm.ClassFile.FieldType.byte)) a0 Z = true := hw _ (List.mem_of_getElem? (i := 75) rfl)
theorem pd_85 : parseMethodDescriptor "([BI)B" = some ⟨[(.array .byte), .int], some .byte⟩ := by decide +kernel
theorem d3_45 : decode jdk_42_method_149_code 45 = .ok (.invokestatic 47, 3) := by decide +kernel
theorem w73 {Z : State} {a0 : Array Value} (hw : ∀ d ∈ tables_1, d.before a0 Z = true) : Jvm.Cond.before (Jvm.Cond.methodLink "java/lang/String" (47 : Nat) ({ cls := "java/lang/StringUTF16", name := "coderFromArrayLen", desc := "([BI)B" } : Jvm.MethodName)) a0 Z = true := hw _ (List.mem_of_getElem? (i := 73) rfl)
theorem w74 {Z : State} {a0 : Array Value} (hw : ∀ d ∈ tables_1, d.before a0 Z = true) : Jvm.Cond.before (Jvm.Cond.static ({ cls := "java/lang/StringUTF16", name := "coderFromArrayLen", desc := "([BI)B" } : Jvm.MethodName)) a0 Z = true := hw _ (List.mem_of_getElem? (i := 74) rfl)
theorem w45 {Z : State} {a0 : Array Value} (hw : ∀ d ∈ tables_1, d.before a0 Z = true) : Jvm.Cond.before (Jvm.Cond.fieldLink "java/lang/String" (15 : Nat) "java/lang/String" "coder" "B") a0 Z = true := hw _ (List.mem_of_getElem? (i := 45) rfl)
theorem w41 {Z : State} {a0 : Array Value} (hw : ∀ d ∈ tables_1, d.before a0 Z = true) : Jvm.Cond.before (Jvm.Cond.laysFinal "java/lang/String" "java/lang/String" "coder" "B") a0 Z = true := hw _ (List.mem_of_getElem? (i := 41) rfl)
theorem w26 {Z : State} {a0 : Array Value} (hw : ∀ d ∈ tables_1, d.before a0 Z = true) : Jvm.Cond.before (Jvm.Cond.instantiable "java/lang/String" (4 : Nat)) a0 Z = true := hw _ (List.mem_of_getElem? (i := 26) rfl)
theorem d3_48 : decode jdk_42_method_149_code 48 = .ok (.putfield 15, 3) := by decide +kernel
theorem d3_51 : decode jdk_42_method_149_code 51 = .ok (.aload_n 0, 1) := by decide +kernel
theorem d3_52 : decode jdk_42_method_149_code 52 = .ok (.aload 5, 2) := by decide +kernel
theorem w44 {Z : State} {a0 : Array Value} (hw : ∀ d ∈ tables_1, d.before a0 Z = true) : Jvm.Cond.before (Jvm.Cond.fieldLink "java/lang/String" (9 : Nat) "java/lang/String" "value" "[B") a0 Z = true := hw _ (List.mem_of_getElem? (i := 44) rfl)
theorem w40 {Z : State} {a0 : Array Value} (hw : ∀ d ∈ tables_1, d.before a0 Z = true) : Jvm.Cond.before (Jvm.Cond.laysFinal "java/lang/String" "java/lang/String" "value" "[B") a0 Z = true := hw _ (List.mem_of_getElem? (i := 40) rfl)
theorem d3_54 : decode jdk_42_method_149_code 54 = .ok (.putfield 9, 3) := by decide +kernel
theorem d3_57 : decode jdk_42_method_149_code 57 = .ok (.return_, 1) := by decide +kernel
abbrev R_si4s : Room := { frames := 2, cells := 1, slots := 19, locals := 35 }
def Q_si4s (Z : State) (G1 : Int32) (G3 : Value) (x : Addr) (b : Addr) (k : ClassId) (nn : Int32) (cs : List Int32) (h0 : Heap) (n0 : Nat) (v : Option Value) (h : Heap) (L : List Loc) : Prop := (∃ t : Addr, ∃ kt : ClassId, v = none ∧ Fr n0 L ∧ Keep h0 h [x] ∧ (Exa Z h x "java/lang/String") ∧ (Fld Z h x "java/lang/String" "coder" "B" (.int (0 : Int32))) ∧ (Fld Z h x "java/lang/String" "value" "[B" (.ref t)) ∧ (h0.size ≤ t) ∧ (Arv Z h t kt .byte nn (own_iv (own_bs cs)) (.int (0 : Int32))))
set_option maxRecDepth 65536 in
set_option maxHeartbeats 40000000 in
theorem rm_si4s (l : Launch) (Z : State) (a0 : Array Value) (hw : ∀ d ∈ tables_1, d.before a0 Z = true) (ws : List Jvm.Cond) (G1 : Int32) (G3 : Value) (HG : own_G l Z a0 G1 G3) (h0 : Heap) (n0 : Nat) (X00 : Old Z n0 h0) (x : Addr) (b : Addr) (k : ClassId) (nn : Int32) (cs : List Int32) (hp0 : Exa Z h0 x "java/lang/String") (hp1 : Fld Z h0 x "java/lang/String" "value" "[B" .null) (hp2 : Fld Z h0 x "java/lang/String" "coder" "B" (.int (0 : Int32))) (hp3 : n0 ≤ x) (hp4 : Arv Z h0 b k .char nn (own_iv cs) (.int (0 : Int32))) (hn0 : ¬ (nn < (0 : Int32))) (hnz : ¬ (nn = (0 : Int32))) (hcap : nn.toNatClampNeg ≤ 19) (hl1 : cs.length = nn.toNatClampNeg) (hla : own_lat cs) :
    own_CP l Z M59 jdk_42_method_149_code 6 none ws R_si4s #[(.ref x), (.ref b), (.int (0 : Int32)), (.int nn), .null] h0 (Q_si4s Z G1 G3 x b k nn cs h0 n0) := by
  refine own_P (plainFor_of_name pn_61) ?_
  intro p e s m below meth c s₁ S0 Bd hZ hh hx hby hml hown hnm X0 e0 hS0d
  obtain ⟨O1, P1, O3f, rG3⟩ := id HG
  have N0 := Fr.nil n0
  have C0 : Steps p.tables e below S0 (s₁.setTop (mkF m 0 #[.val (.ref x), .val (.ref b), .val (.int (0 : Int32)), .val (.int nn), .val .null, .unset] [])) := by rw [hS0d]; exact castTop (ef_60 m x b (0 : Int32) nn) (Steps.refl _)
  obtain ⟨T_1, X_2, e_3, st_4⟩ := initO X0 hx hZ hown (w35 hw) (w36 hw) (w37 hw) e0 (g := (mkF m 1 #[.val (.ref x), .val (.ref b), .val (.int (0 : Int32)), .val (.int nn), .val .null, .unset] [(.ref x)])) rfl (by rw [hml]; rfl) rfl (hb hby d3_1) (by decide) (W := 0) (by show 2 * 0 + _ ≤ _; exact Nat.le_of_eq rfl) (by decide)
  obtain ⟨T_5, X_6, e_7, st_8⟩ := getS X_2 hx hZ (host := "") hown (w60 hw) Via.refl e_3 (O1.ext X00.2) (g := (mkF m 27 #[.val (.ref x), .val (.ref b), .val (.int (0 : Int32)), .val (.int nn), .val .null, .unset] [])) rfl (hb hby d3_27)
  obtain ⟨_, _, ⟨T_9, L_9, k_9, n_9⟩, -, X_9, ⟨Lc_9, hQ_9, l_9, y_9, z_9⟩, st_9⟩ := Jvm.LawKit.callS X_6 hx (y := M26) hown (mvT hZ (w66 hw)) (mvT hZ (w67 hw)) (mvT hZ (w68 hw)) (mvT hZ (w69 hw)) (by decide) (backOf (W := 0) (rm_cmp3s l Z a0 hw [] G1 G3 HG h0 n0 X00 b k nn cs hp4 hn0 hcap hl1 hla) hZ (w69 hw) (w68 hw) (by decide) (by decide)) (g := (mkF m 36 #[.val (.ref x), .val (.ref b), .val (.int (0 : Int32)), .val (.int nn), .val .null, .unset] [(.int nn), (.int (0 : Int32)), (.ref b)])) rfl (by rw [hml]; rfl) (argsL := [(.ref b), (.int (0 : Int32)), (.int nn)]) (rest := []) (lenOf pd_76 rfl) rfl (by show 2 * 0 + _ ≤ _; exact Nat.le_of_eq rfl) (hb hby d3_36) (fun _ _ => ⟨rfl, e_7, (by decide : 0 + 1 ≤ _), (by decide : 0 + 19 ≤ _)⟩)
  dsimp only [Pt.U, Pt.locs, Pt.cells, Pt.slots] at X_9 l_9 y_9 z_9 st_9 hQ_9
  have X_9 := own_cast X_9 l_9 y_9 z_9
  obtain ⟨a_10, k_11, rfl, N_12, K_13, g_14, g_15⟩ := hQ_9
  have N_16 := Fr.app N0 N_12
  have O_17 : Old Z n0 T_9.heap := (X00.keep K_13 all0)
  obtain ⟨_, _, ⟨T_18, L_18, k_18, n_18⟩, -, X_18, ⟨Lc_18, hQ_18, l_18, y_18, z_18⟩, st_18⟩ := Jvm.LawKit.callS X_9 hx (y := M49) hown (mvT hZ (w73 hw)) (mvT hZ (w74 hw)) (mvT hZ (w68 hw)) (mvT hZ (w75 hw)) (by decide) (backOf (W := 1) (rm_codls l Z a0 hw [] G1 G3 HG T_9.heap n0 O_17 a_10 k_11 nn (own_iv (own_bs cs)) g_15) hZ (w75 hw) (w68 hw) (by decide) (by decide)) (g := (mkF m 45 #[.val (.ref x), .val (.ref b), .val (.int (0 : Int32)), .val (.int nn), .val .null, .val (.ref a_10)] [(.int nn), (.ref a_10), (.ref x)])) rfl (by rw [hml]; rfl) (argsL := [(.ref a_10), (.int nn)]) (rest := [(.ref x)]) (lenOf pd_85 rfl) rfl (by show 2 * 0 + _ ≤ _; exact Nat.le_of_eq rfl) (hb hby d3_45) (fun _ _ => ⟨rfl, rfl, (by decide : 1 + 0 ≤ _), (by decide : 19 + 0 ≤ _)⟩)
  dsimp only [Pt.U, Pt.locs, Pt.cells, Pt.slots] at X_18 l_18 y_18 z_18 st_18 hQ_18
  have X_18 := own_cast X_18 l_18 y_18 z_18
  obtain ⟨rfl, N_19, e_20⟩ := hQ_18
  have N_21 := Fr.app N_16 N_19
  have e_22 : T_18.heap = T_9.heap := e_20
  have F_23 : Fld Z T_9.heap x "java/lang/String" "coder" "B" (.int (0 : Int32)) := (hp2.keep K_13 nin0)
  have E_24 : Exa Z T_9.heap x "java/lang/String" := (hp0.keep K_13)
  obtain ⟨T_25, h_26, X_27, e_28, W_29, st_30⟩ := putF X_18 hx hZ hown (host := "") (Or.inl (w45 hw)) Via.refl e_22 F_23 E_24 (Or.inr ⟨(w41 hw), rfl, hnm⟩) (w26 hw) (ty := .byte) (by decide) rfl (by decide) (g := (mkF m 48 #[.val (.ref x), .val (.ref b), .val (.int (0 : Int32)), .val (.int nn), .val .null, .val (.ref a_10)] [(.int (0 : Int32)), (.ref x)])) rfl rfl (hb hby d3_48)
  have N_31 := Fr.snoc X_27 N_21 hp3
  have F_32 : Fld Z h_26 x "java/lang/String" "coder" "B" (.int (0 : Int32)) := F_23.same W_29
  have F_33 : Fld Z h_26 x "java/lang/String" "value" "[B" .null := ((hp1.keep K_13 nin0).other W_29 (Or.inr (slot_ne (Or.inr (w40 hw)) (Or.inr (w41 hw)) (by decide) (t := (.array .byte)) (by decide) (t' := .byte) (by decide))))
  have E_34 : Exa Z h_26 x "java/lang/String" := (E_24.wr W_29)
  obtain ⟨T_35, h_36, X_37, e_38, W_39, st_40⟩ := putF X_27 hx hZ hown (host := "") (Or.inl (w44 hw)) Via.refl e_28 F_33 E_34 (Or.inr ⟨(w40 hw), rfl, hnm⟩) (w26 hw) (ty := (.array .byte)) (by decide) rfl rfl (g := (mkF m 54 #[.val (.ref x), .val (.ref b), .val (.int (0 : Int32)), .val (.int nn), .val .null, .val (.ref a_10)] [(.ref a_10), (.ref x)])) rfl rfl (hb hby d3_54)
  have N_41 := Fr.snoc X_37 N_31 hp3
  have F_42 : Fld Z h_36 x "java/lang/String" "value" "[B" (.ref a_10) := F_33.same W_39
  have C_43 : Steps p.tables e below S0 (T_35.setTop (mkF m 57 #[.val (.ref x), .val (.ref b), .val (.int (0 : Int32)), .val (.int nn), .val .null, .val (.ref a_10)] [])) := by
    refine C0.trans ?_
    refine XS.aloadN X0.here hx rfl (hb hby d3_0) rfl rfl ?_
    refine st_4 _ ?_
    refine XS.iloadN X_2.here hx rfl (hb hby d3_4) rfl ?_
    refine XS.ifYes X_2.here hx rfl (pc0 := 5) (pc' := 27) rfl (hb hby d3_5) rfl (i0_ne_t hnz) (by decide) (by decide) ?_
    refine st_8 _ ?_
    refine XS.ifNo X_6.here hx rfl (hb hby d3_30) rfl (i0_eq_f P1) ?_
    refine XS.aloadN X_6.here hx rfl (hb hby d3_33) rfl rfl ?_
    refine XS.iloadN X_6.here hx rfl (hb hby d3_34) rfl ?_
    show Steps p.tables e below (T_5.setTop (mkF m 35 #[.val (.ref x), .val (.ref b), .val (.int (0 : Int32)), .val (.int nn), .val .null, .unset] [(.int (0 : Int32)), (.ref b)])) _
    refine XS.iloadN X_6.here hx rfl (hb hby d3_35) rfl ?_
    refine st_9 _ ?_
    refine XS.astore X_9.here hx rfl (hb hby d3_39) rfl rfl (l' := #[.val (.ref x), .val (.ref b), .val (.int (0 : Int32)), .val (.int nn), .val .null, .val (.ref a_10)]) rfl ?_
    refine XS.aloadN X_9.here hx rfl (hb hby d3_41) rfl rfl ?_
    refine XS.aload X_9.here hx rfl (hb hby d3_42) rfl rfl ?_
    refine XS.iloadN X_9.here hx rfl (hb hby d3_44) rfl ?_
    refine st_18 _ ?_
    refine st_30 _ ?_
    show Steps p.tables e below (T_25.setTop (mkF m 51 #[.val (.ref x), .val (.ref b), .val (.int (0 : Int32)), .val (.int nn), .val .null, .val (.ref a_10)] [])) _
    refine XS.aloadN X_27.here hx rfl (hb hby d3_51) rfl rfl ?_
    refine XS.aload X_27.here hx rfl (hb hby d3_52) rfl rfl ?_
    refine st_40 _ ?_
    exact Steps.refl _
  have E_44 : Exa Z h_36 x "java/lang/String" := (E_34.wr W_39)
  have F_45 : Fld Z h_36 x "java/lang/String" "coder" "B" (.int (0 : Int32)) := (F_32.other W_39 (Or.inr (slot_ne (Or.inr (w41 hw)) (Or.inr (w40 hw)) (by decide) (t := .byte) (by decide) (t' := (.array .byte)) (by decide))))
  have V_46 : Arv Z h_36 a_10 k_11 .byte nn (own_iv (own_bs cs)) (.int (0 : Int32)) := ((g_15.other W_29 (Ne.symm (Nat.ne_of_lt (Nat.lt_of_lt_of_le hp0.lt (Nat.le_trans (Nat.le_refl _) g_14))))).other W_39 (Ne.symm (Nat.ne_of_lt (Nat.lt_of_lt_of_le hp0.lt (Nat.le_trans (Nat.le_refl _) g_14)))))
  have K_47 : Keep h0 h_36 [x] := ((((Keep.refl _ _).trans K_13 all0).wr W_29 (Or.inl (List.mem_of_getElem? (i := 0) rfl))).wr W_39 (Or.inl (List.mem_of_getElem? (i := 0) rfl)))
  obtain ⟨fs, hr, hrun, hended, hW, hsame⟩ := X_37.leave (v := none) (fun _ => rfl)
  refine ⟨_, _, C_43.trans (X_37.returnOut hx Bd.returns (hb hby d3_57) hr), hrun, hended, _, _, rfl, ?_, ⟨_, rfl⟩, hW, hsame.mono (by decide) (by decide)⟩
  show Q_si4s Z G1 G3 x b k nn cs h0 n0 (none) T_35.heap _
  rw [e_38]
  exact ⟨a_10, k_11, rfl, N_41, K_47, E_44, F_45, F_42, (Nat.le_trans (Nat.le_refl _) g_14), V_46⟩
abbrev M99 : MethodName := ⟨"java/lang/String", "<init>", "([C)V"⟩
theorem ef_100 (m : MethodId) (x0 : Addr) (x1 : Addr) : entryFrame m #[(.ref x0), (.ref x1)] 2 = mkF m 0 #[.val (.ref x0), .val (.ref x1)] [] := by first | (simp [entryFrame, mkF, argsToLocals, Value.category]; done) | rfl
theorem d4_0 : decode jdk_42_method_3_code 0 = .ok (.aload_n 0, 1) := by decide +kernel
theorem d4_1 : decode jdk_42_method_3_code 1 = .ok (.aload_n 1, 1) := by decide +kernel
theorem d4_2 : decode jdk_42_method_3_code 2 = .ok (.iconst 0, 1) := by decide +kernel
theorem d4_3 : decode jdk_42_method_3_code 3 = .ok (.aload_n 1, 1) := by decide +kernel
theorem d4_4 : decode jdk_42_method_3_code 4 = .ok (.arraylength, 1) := by decide +kernel
theorem d4_5 : decode jdk_42_method_3_code 5 = .ok (.aconst_null, 1) := by decide +kernel
theorem w34 {Z : State} {a0 : Array Value} (hw : ∀ d ∈ tables_1, d.before a0 Z = true) : Jvm.Cond.before (Jvm.Cond.code ({ cls := "java/lang/String", name := "<init>", desc := "([CIILjava/lang/Void;)V" } : Jvm.MethodName) jdk_42_method_149_code (6 : Nat) (Option.none : Option Jvm.ClassFile.FieldType)) a0 Z = true := hw _ (List.mem_of_getElem? (i := 34) rfl)
theorem w27 {Z : State} {a0 : Array Value} (hw : ∀ d ∈ tables_1, d.before a0 Z = true) : Jvm.Cond.before (Jvm.Cond.initialized "java/lang/String") a0 Z = true := hw _ (List.mem_of_getElem? (i := 27) rfl)
theorem pd_109 : parseMethodDescriptor "([CIILjava/lang/Void;)V" = some ⟨[(.array .char), .int, .int, (.object "java/lang/Void")], none⟩ := by decide +kernel
theorem d4_6 : decode jdk_42_method_3_code 6 = .ok (.invokespecial 27, 3) := by decide +kernel
theorem w31 {Z : State} {a0 : Array Value} (hw : ∀ d ∈ tables_1, d.before a0 Z = true) : Jvm.Cond.before (Jvm.Cond.methodLink "java/lang/String" (27 : Nat) ({ cls := "java/lang/String", name := "<init>", desc := "([CIILjava/lang/Void;)V" } : Jvm.MethodName)) a0 Z = true := hw _ (List.mem_of_getElem? (i := 31) rfl)
theorem w32 {Z : State} {a0 : Array Value} (hw : ∀ d ∈ tables_1, d.before a0 Z = true) : Jvm.Cond.before (Jvm.Cond.instanceMethod ({ cls := "java/lang/String", name := "<init>", desc := "([CIILjava/lang/Void;)V" } : Jvm.MethodName)) a0 Z = true := hw _ (List.mem_of_getElem? (i := 32) rfl)
theorem d4_9 : decode jdk_42_method_3_code 9 = .ok (.return_, 1) := by decide +kernel
abbrev R_si1s : Room := { frames := 3, cells := 1, slots := 19, locals := 52 }
def Q_si1s (Z : State) (G1 : Int32) (G3 : Value) (x : Addr) (b : Addr) (k : ClassId) (nn : Int32) (cs : List Int32) (h0 : Heap) (n0 : Nat) (v : Option Value) (h : Heap) (L : List Loc) : Prop := (∃ t : Addr, ∃ kt : ClassId, v = none ∧ Fr n0 L ∧ Keep h0 h [x] ∧ (Exa Z h x "java/lang/String") ∧ (Fld Z h x "java/lang/String" "coder" "B" (.int (0 : Int32))) ∧ (Fld Z h x "java/lang/String" "value" "[B" (.ref t)) ∧ (h0.size ≤ t) ∧ (Arv Z h t kt .byte nn (own_iv (own_bs cs)) (.int (0 : Int32))))
set_option maxRecDepth 65536 in
set_option maxHeartbeats 40000000 in
theorem rm_si1s (l : Launch) (Z : State) (a0 : Array Value) (hw : ∀ d ∈ tables_1, d.before a0 Z = true) (ws : List Jvm.Cond) (G1 : Int32) (G3 : Value) (HG : own_G l Z a0 G1 G3) (h0 : Heap) (n0 : Nat) (X00 : Old Z n0 h0) (x : Addr) (b : Addr) (k : ClassId) (nn : Int32) (cs : List Int32) (hp0 : Exa Z h0 x "java/lang/String") (hp1 : Fld Z h0 x "java/lang/String" "value" "[B" .null) (hp2 : Fld Z h0 x "java/lang/String" "coder" "B" (.int (0 : Int32))) (hp3 : n0 ≤ x) (hp4 : Arv Z h0 b k .char nn (own_iv cs) (.int (0 : Int32))) (hn0 : ¬ (nn < (0 : Int32))) (hnz : ¬ (nn = (0 : Int32))) (hcap : nn.toNatClampNeg ≤ 19) (hl1 : cs.length = nn.toNatClampNeg) (hla : own_lat cs) :
    own_CP l Z M99 jdk_42_method_3_code 2 none ws R_si1s #[(.ref x), (.ref b)] h0 (Q_si1s Z G1 G3 x b k nn cs h0 n0) := by
  refine own_P (plainFor_of_name pn_61) ?_
  intro p e s m below meth c s₁ S0 Bd hZ hh hx hby hml hown hnm X0 e0 hS0d
  obtain ⟨O1, P1, O3f, rG3⟩ := id HG
  have N0 := Fr.nil n0
  have C0 : Steps p.tables e below S0 (s₁.setTop (mkF m 0 #[.val (.ref x), .val (.ref b)] [])) := by rw [hS0d]; exact castTop (ef_100 m x b) (Steps.refl _)
  obtain ⟨c_1, A_2, q_3, S_4, M_5, H_6, U_7⟩ := id hp4
  obtain ⟨_, _, ⟨T_8, L_8, k_8, n_8⟩, -, X_8, ⟨Lc_8, hQ_8, l_8, y_8, z_8⟩, st_8⟩ := X0.specialBack hx (y := M59) rfl hown (mvT hZ (w31 hw)) (mvT hZ (w32 hw)) (mvT hZ (w34 hw)) (by decide) (backOf (W := 0) (rm_si4s l Z a0 hw [] G1 G3 HG h0 n0 X00 x b k nn cs hp0 hp1 hp2 hp3 hp4 hn0 hnz hcap hl1 hla) hZ (w34 hw) (w27 hw) (by decide) (by decide)) (g := (mkF m 6 #[.val (.ref x), .val (.ref b)] [.null, (.int nn), (.int (0 : Int32)), (.ref b), (.ref x)])) rfl (by rw [hml]; rfl) (Steps.refl _) (a := x) (argsL := [(.ref b), (.int (0 : Int32)), (.int nn), .null]) (rest := []) (lenOf pd_109 rfl) rfl (by show 2 * 0 + _ ≤ _; exact Nat.le_of_eq rfl) (hb hby d4_6) (fun _ _ => ⟨rfl, e0, (by decide : 0 + 1 ≤ _), (by decide : 0 + 19 ≤ _)⟩)
  dsimp only [Pt.U, Pt.locs, Pt.cells, Pt.slots] at X_8 l_8 y_8 z_8 st_8 hQ_8
  have X_8 := own_cast X_8 l_8 y_8 z_8
  obtain ⟨a_9, k_10, rfl, N_11, K_12, g_13, g_14, g_15, g_16, g_17⟩ := hQ_8
  have N_18 := Fr.app N0 N_11
  have C_19 : Steps p.tables e below S0 (T_8.setTop (mkF m 9 #[.val (.ref x), .val (.ref b)] [])) := by
    refine C0.trans ?_
    refine XS.aloadN X0.here hx rfl (hb hby d4_0) rfl rfl ?_
    refine XS.aloadN X0.here hx rfl (hb hby d4_1) rfl rfl ?_
    refine XS.iconst X0.here hx rfl (hb hby d4_2) ?_
    refine XS.aloadN X0.here hx rfl (hb hby d4_3) rfl rfl ?_
    refine X0.arraylength hx (by rw [e0]; exact A_2.1) (State.isArrayOf_alike hZ.alike A_2.2.1) (g := (mkF m 4 #[.val (.ref x), .val (.ref b)] [(.ref b), (.int (0 : Int32)), (.ref b), (.ref x)])) rfl rfl (hb hby d4_4) _ ?_
    rw [len_of S_4 M_5]
    refine XS.aconstNull X0.here hx rfl (hb hby d4_5) ?_
    refine st_8.trans ?_
    exact Steps.refl _
  have K_20 : Keep h0 T_8.heap [x] := ((Keep.refl _ _).trans K_12 (allS (Or.inl (List.mem_of_getElem? (i := 0) rfl)) all0))
  obtain ⟨fs, hr, hrun, hended, hW, hsame⟩ := X_8.leave (v := none) (fun _ => rfl)
  refine ⟨_, _, C_19.trans (X_8.returnOut hx Bd.returns (hb hby d4_9) hr), hrun, hended, _, _, rfl, ?_, ⟨_, rfl⟩, hW, hsame.mono (by decide) (by decide)⟩
  show Q_si1s Z G1 G3 x b k nn cs h0 n0 (none) T_8.heap _
  exact ⟨a_9, k_10, rfl, N_18, K_20, g_13, g_14, g_15, (Nat.le_trans (Nat.le_refl _) g_16), g_17⟩
abbrev M114 : MethodName := ⟨"java/lang/String", "coder", "()B"⟩
theorem ef_115 (m : MethodId) (x0 : Addr) : entryFrame m #[(.ref x0)] 1 = mkF m 0 #[.val (.ref x0)] [] := by first | (simp [entryFrame, mkF, argsToLocals, Value.category]; done) | rfl
theorem d5_0 : decode jdk_42_method_152_code 0 = .ok (.getstatic 38, 3) := by decide +kernel
theorem d5_3 : decode jdk_42_method_152_code 3 = .ok (.ifCond .eq 10, 3) := by decide +kernel
theorem d5_6 : decode jdk_42_method_152_code 6 = .ok (.aload_n 0, 1) := by decide +kernel
theorem d5_7 : decode jdk_42_method_152_code 7 = .ok (.getfield 15, 3) := by decide +kernel
theorem d5_10 : decode jdk_42_method_152_code 10 = .ok (.goto 4, 3) := by decide +kernel
theorem d5_14 : decode jdk_42_method_152_code 14 = .ok (.ireturn, 1) := by decide +kernel
abbrev R_coder : Room := { frames := 0, cells := 0, slots := 0, locals := 0 }
def Q_coder (Z : State) (G1 : Int32) (G3 : Value) (x : Addr) (h0 : Heap) (n0 : Nat) (v : Option Value) (h : Heap) (L : List Loc) : Prop := (v = some (.int (0 : Int32)) ∧ Fr n0 L ∧ h = h0)
set_option maxRecDepth 65536 in
set_option maxHeartbeats 40000000 in
theorem rm_coder (l : Launch) (Z : State) (a0 : Array Value) (hw : ∀ d ∈ tables_1, d.before a0 Z = true) (ws : List Jvm.Cond) (G1 : Int32) (G3 : Value) (HG : own_G l Z a0 G1 G3) (h0 : Heap) (n0 : Nat) (X00 : Old Z n0 h0) (x : Addr) (hp0 : Fld Z h0 x "java/lang/String" "coder" "B" (.int (0 : Int32))) :
    own_CP l Z M114 jdk_42_method_152_code 1 (some .byte) ws R_coder #[(.ref x)] h0 (Q_coder Z G1 G3 x h0 n0) := by
  refine own_P (plainFor_of_name pn_61) ?_
  intro p e s m below meth c s₁ S0 Bd hZ hh hx hby hml hown hnm X0 e0 hS0d
  obtain ⟨O1, P1, O3f, rG3⟩ := id HG
  have N0 := Fr.nil n0
  have C0 : Steps p.tables e below S0 (s₁.setTop (mkF m 0 #[.val (.ref x)] [])) := by rw [hS0d]; exact castTop (ef_115 m x) (Steps.refl _)
  obtain ⟨T_1, X_2, e_3, st_4⟩ := getS X0 hx hZ (host := "") hown (w60 hw) Via.refl e0 (O1.ext X00.2) (g := (mkF m 0 #[.val (.ref x)] [])) rfl (hb hby d5_0)
  obtain ⟨T_5, X_6, e_7, st_8⟩ := getF X_2 hx hZ hown (host := "") (Or.inl (w45 hw)) Via.refl e_3 hp0 (g := (mkF m 7 #[.val (.ref x)] [(.ref x)])) rfl rfl (hb hby d5_7)
  have C_9 : Steps p.tables e below S0 (T_5.setTop (mkF m 14 #[.val (.ref x)] [(.int (0 : Int32))])) := by
    refine C0.trans ?_
    refine st_4 _ ?_
    refine XS.ifNo X_2.here hx rfl (hb hby d5_3) rfl (i0_eq_f P1) ?_
    refine XS.aloadN X_2.here hx rfl (hb hby d5_6) rfl rfl ?_
    refine st_8 _ ?_
    refine XS.goto X_6.here hx rfl (pc0 := 10) (pc' := 14) rfl (hb hby d5_10) (by decide) (by decide) ?_
    exact Steps.refl _
  obtain ⟨fs, hr, hrun, hended, hW, hsame⟩ := X_6.leave (v := some (.int (0 : Int32))) (fun h => by rw [Bd.returns] at h; cases h)
  refine ⟨_, _, C_9.trans (retN X_6 hx (t := .byte) Bd.returns (by simp) (hb hby d5_14) hr), hrun, hended, _, _, rfl, ?_, ⟨_, rfl⟩, hW, hsame.mono (by decide) (by decide)⟩
  show Q_coder Z G1 G3 x h0 n0 (some (.int (0 : Int32))) T_5.heap _
  rw [e_7]
  exact ⟨rfl, N0, rfl⟩
abbrev M122 : MethodName := ⟨"java/lang/String", "isLatin1", "()Z"⟩
theorem d6_0 : decode jdk_42_method_154_code 0 = .ok (.getstatic 38, 3) := by decide +kernel
theorem d6_3 : decode jdk_42_method_154_code 3 = .ok (.ifCond .eq 14, 3) := by decide +kernel
theorem d6_6 : decode jdk_42_method_154_code 6 = .ok (.aload_n 0, 1) := by decide +kernel
theorem d6_7 : decode jdk_42_method_154_code 7 = .ok (.getfield 15, 3) := by decide +kernel
theorem d6_10 : decode jdk_42_method_154_code 10 = .ok (.ifCond .ne 7, 3) := by decide +kernel
theorem d6_13 : decode jdk_42_method_154_code 13 = .ok (.iconst 1, 1) := by decide +kernel
theorem d6_14 : decode jdk_42_method_154_code 14 = .ok (.goto 4, 3) := by decide +kernel
theorem d6_18 : decode jdk_42_method_154_code 18 = .ok (.ireturn, 1) := by decide +kernel
abbrev R_islat : Room := { frames := 0, cells := 0, slots := 0, locals := 0 }
def Q_islat (Z : State) (G1 : Int32) (G3 : Value) (x : Addr) (h0 : Heap) (n0 : Nat) (v : Option Value) (h : Heap) (L : List Loc) : Prop := (v = some (.int (1 : Int32)) ∧ Fr n0 L ∧ h = h0)
set_option maxRecDepth 65536 in
set_option maxHeartbeats 40000000 in
theorem rm_islat (l : Launch) (Z : State) (a0 : Array Value) (hw : ∀ d ∈ tables_1, d.before a0 Z = true) (ws : List Jvm.Cond) (G1 : Int32) (G3 : Value) (HG : own_G l Z a0 G1 G3) (h0 : Heap) (n0 : Nat) (X00 : Old Z n0 h0) (x : Addr) (hp0 : Fld Z h0 x "java/lang/String" "coder" "B" (.int (0 : Int32))) :
    own_CP l Z M122 jdk_42_method_154_code 1 (some .boolean) ws R_islat #[(.ref x)] h0 (Q_islat Z G1 G3 x h0 n0) := by
  refine own_P (plainFor_of_name pn_61) ?_
  intro p e s m below meth c s₁ S0 Bd hZ hh hx hby hml hown hnm X0 e0 hS0d
  obtain ⟨O1, P1, O3f, rG3⟩ := id HG
  have N0 := Fr.nil n0
  have C0 : Steps p.tables e below S0 (s₁.setTop (mkF m 0 #[.val (.ref x)] [])) := by rw [hS0d]; exact castTop (ef_115 m x) (Steps.refl _)
  obtain ⟨T_1, X_2, e_3, st_4⟩ := getS X0 hx hZ (host := "") hown (w60 hw) Via.refl e0 (O1.ext X00.2) (g := (mkF m 0 #[.val (.ref x)] [])) rfl (hb hby d6_0)
  obtain ⟨T_5, X_6, e_7, st_8⟩ := getF X_2 hx hZ hown (host := "") (Or.inl (w45 hw)) Via.refl e_3 hp0 (g := (mkF m 7 #[.val (.ref x)] [(.ref x)])) rfl rfl (hb hby d6_7)
  have C_9 : Steps p.tables e below S0 (T_5.setTop (mkF m 18 #[.val (.ref x)] [(.int (1 : Int32))])) := by
    refine C0.trans ?_
    refine st_4 _ ?_
    refine XS.ifNo X_2.here hx rfl (hb hby d6_3) rfl (i0_eq_f P1) ?_
    refine XS.aloadN X_2.here hx rfl (hb hby d6_6) rfl rfl ?_
    refine st_8 _ ?_
    refine XS.ifNo X_6.here hx rfl (hb hby d6_10) rfl (by decide) ?_
    refine XS.iconst X_6.here hx rfl (hb hby d6_13) ?_
    refine XS.goto X_6.here hx rfl (pc0 := 14) (pc' := 18) rfl (hb hby d6_14) (by decide) (by decide) ?_
    exact Steps.refl _
  obtain ⟨fs, hr, hrun, hended, hW, hsame⟩ := X_6.leave (v := some (.int (1 : Int32))) (fun h => by rw [Bd.returns] at h; cases h)
  refine ⟨_, _, C_9.trans (retN X_6 hx (t := .boolean) Bd.returns (by simp) (hb hby d6_18) hr), hrun, hended, _, _, rfl, ?_, ⟨_, rfl⟩, hW, hsame.mono (by decide) (by decide)⟩
  show Q_islat Z G1 G3 x h0 n0 (some (.int (1 : Int32))) T_5.heap _
  rw [e_7]
  exact ⟨rfl, N0, rfl⟩
abbrev M131 : MethodName := ⟨"java/lang/String", "length", "()I"⟩
theorem d7_0 : decode jdk_42_method_54_code 0 = .ok (.aload_n 0, 1) := by decide +kernel
theorem d7_1 : decode jdk_42_method_54_code 1 = .ok (.getfield 9, 3) := by decide +kernel
theorem d7_4 : decode jdk_42_method_54_code 4 = .ok (.arraylength, 1) := by decide +kernel
theorem d7_5 : decode jdk_42_method_54_code 5 = .ok (.aload_n 0, 1) := by decide +kernel
theorem w59 {Z : State} {a0 : Array Value} (hw : ∀ d ∈ tables_1, d.before a0 Z = true) : Jvm.Cond.before (Jvm.Cond.code ({ cls := "java/lang/String", name := "coder", desc := "()B" } : Jvm.MethodName) jdk_42_method_152_code (1 : Nat) (Option.some Jvm.ClassFile.FieldType.byte)) a0 Z = true := hw _ (List.mem_of_getElem? (i := 59) rfl)
theorem pd_137 : parseMethodDescriptor "()B" = some ⟨[], some .byte⟩ := by decide +kernel
theorem d7_6 : decode jdk_42_method_54_code 6 = .ok (.invokevirtual 335, 3) := by decide +kernel
theorem w55 {Z : State} {a0 : Array Value} (hw : ∀ d ∈ tables_1, d.before a0 Z = true) : Jvm.Cond.before (Jvm.Cond.methodLink "java/lang/String" (335 : Nat) ({ cls := "java/lang/String", name := "coder", desc := "()B" } : Jvm.MethodName)) a0 Z = true := hw _ (List.mem_of_getElem? (i := 55) rfl)
theorem w58 {Z : State} {a0 : Array Value} (hw : ∀ d ∈ tables_1, d.before a0 Z = true) : Jvm.Cond.before (Jvm.Cond.selects "java/lang/String" ({ cls := "java/lang/String", name := "coder", desc := "()B" } : Jvm.MethodName) ({ cls := "java/lang/String", name := "coder", desc := "()B" } : Jvm.MethodName)) a0 Z = true := hw _ (List.mem_of_getElem? (i := 58) rfl)
theorem w57 {Z : State} {a0 : Array Value} (hw : ∀ d ∈ tables_1, d.before a0 Z = true) : Jvm.Cond.before (Jvm.Cond.instanceMethod ({ cls := "java/lang/String", name := "coder", desc := "()B" } : Jvm.MethodName)) a0 Z = true := hw _ (List.mem_of_getElem? (i := 57) rfl)
theorem w56 {Z : State} {a0 : Array Value} (hw : ∀ d ∈ tables_1, d.before a0 Z = true) : Jvm.Cond.before (Jvm.Cond.declares ({ cls := "java/lang/String", name := "coder", desc := "()B" } : Jvm.MethodName)) a0 Z = true := hw _ (List.mem_of_getElem? (i := 56) rfl)
theorem d7_9 : decode jdk_42_method_54_code 9 = .ok (.ishr, 1) := by decide +kernel
theorem d7_10 : decode jdk_42_method_54_code 10 = .ok (.ireturn, 1) := by decide +kernel
abbrev R_lens : Room := { frames := 1, cells := 0, slots := 0, locals := 13 }
def Q_lens (Z : State) (G1 : Int32) (G3 : Value) (x : Addr) (t : Addr) (kt : ClassId) (nn : Int32) (bs : List Value) (h0 : Heap) (n0 : Nat) (v : Option Value) (h : Heap) (L : List Loc) : Prop := (v = some (.int nn) ∧ Fr n0 L ∧ h = h0)
set_option maxRecDepth 65536 in
set_option maxHeartbeats 40000000 in
theorem rm_lens (l : Launch) (Z : State) (a0 : Array Value) (hw : ∀ d ∈ tables_1, d.before a0 Z = true) (ws : List Jvm.Cond) (G1 : Int32) (G3 : Value) (HG : own_G l Z a0 G1 G3) (h0 : Heap) (n0 : Nat) (X00 : Old Z n0 h0) (x : Addr) (t : Addr) (kt : ClassId) (nn : Int32) (bs : List Value) (hp0 : Exa Z h0 x "java/lang/String") (hp1 : Fld Z h0 x "java/lang/String" "coder" "B" (.int (0 : Int32))) (hp2 : Fld Z h0 x "java/lang/String" "value" "[B" (.ref t)) (hp3 : Arv Z h0 t kt .byte nn bs (.int (0 : Int32))) :
    own_CP l Z M131 jdk_42_method_54_code 1 (some .int) ws R_lens #[(.ref x)] h0 (Q_lens Z G1 G3 x t kt nn bs h0 n0) := by
  refine own_P (plainFor_of_name pn_61) ?_
  intro p e s m below meth c s₁ S0 Bd hZ hh hx hby hml hown hnm X0 e0 hS0d
  obtain ⟨O1, P1, O3f, rG3⟩ := id HG
  have N0 := Fr.nil n0
  have C0 : Steps p.tables e below S0 (s₁.setTop (mkF m 0 #[.val (.ref x)] [])) := by rw [hS0d]; exact castTop (ef_115 m x) (Steps.refl _)
  obtain ⟨T_1, X_2, e_3, st_4⟩ := getF X0 hx hZ hown (host := "") (Or.inl (w44 hw)) Via.refl e0 hp2 (g := (mkF m 1 #[.val (.ref x)] [(.ref x)])) rfl rfl (hb hby d7_1)
  obtain ⟨c_5, A_6, q_7, S_8, M_9, H_10, U_11⟩ := id hp3
  obtain ⟨q_13, q_14, q_15, q_16, q_17⟩ := isOf (T := T_1) hZ e_3 hp0
  obtain ⟨_, _, ⟨T_12, L_12, k_12, n_12⟩, -, X_12, ⟨Lc_12, hQ_12, l_12, y_12, z_12⟩, st_12⟩ := X_2.virtualBack hx (y := M114) (z := M114) hown (mvT hZ (w55 hw)) (mvT hZ (w56 hw)) (notFace_of_selects (args := #[]) (mvT hZ (w58 hw))) (mvT hZ (w58 hw)) (mvT hZ (w57 hw)) (by decide) (backOf (W := 1) (rm_coder l Z a0 hw [] G1 G3 HG h0 n0 X00 x hp1) hZ (w59 hw) (w27 hw) (by decide) (by decide)) q_15 q_17 (g := (mkF m 6 #[.val (.ref x)] [(.ref x), (.int nn)])) rfl (by rw [hml]; rfl) (Steps.refl _) (argsL := []) (rest := [(.int nn)]) (lenOf pd_137 rfl) rfl (by show 2 * 0 + _ ≤ _; exact Nat.le_of_eq rfl) (hb hby d7_6) (fun _ _ => ⟨rfl, e_3, (by decide : 0 + 0 ≤ _), (by decide : 0 + 0 ≤ _)⟩)
  dsimp only [Pt.U, Pt.locs, Pt.cells, Pt.slots] at X_12 l_12 y_12 z_12 st_12 hQ_12
  have X_12 := own_cast X_12 l_12 y_12 z_12
  obtain ⟨rfl, N_18, e_19⟩ := hQ_12
  have N_20 := Fr.app N0 N_18
  have e_21 : T_12.heap = h0 := e_19
  have C_22 : Steps p.tables e below S0 (T_12.setTop (mkF m 10 #[.val (.ref x)] [(.int (nn >>> ((0 : Int32) &&& 31)))])) := by
    refine C0.trans ?_
    refine XS.aloadN X0.here hx rfl (hb hby d7_0) rfl rfl ?_
    refine st_4 _ ?_
    refine X_2.arraylength hx (by rw [e_3]; exact A_6.1) (State.isArrayOf_alike hZ.alike A_6.2.1) (g := (mkF m 4 #[.val (.ref x)] [(.ref t)])) rfl rfl (hb hby d7_4) _ ?_
    rw [len_of S_8 M_9]
    refine XS.aloadN X_2.here hx rfl (hb hby d7_5) rfl rfl ?_
    refine st_12.trans ?_
    refine XS.ishr X_12.here hx rfl (hb hby d7_9) rfl ?_
    exact Steps.refl _
  obtain ⟨fs, hr, hrun, hended, hW, hsame⟩ := X_12.leave (v := some (.int (nn >>> ((0 : Int32) &&& 31)))) (fun h => by rw [Bd.returns] at h; cases h)
  refine ⟨_, _, C_22.trans (retOut X_12 hx Bd.returns rfl (Or.inl ⟨rfl, Or.inl rfl, _, rfl⟩) (hb hby d7_10) hr), hrun, hended, _, _, rfl, ?_, ⟨_, rfl⟩, hW, hsame.mono (by decide) (by decide)⟩
  show Q_lens Z G1 G3 x t kt nn bs h0 n0 (some (.int (nn >>> ((0 : Int32) &&& 31)))) T_12.heap _
  rw [e_21]
  exact ⟨(congrArg (fun q => some (Value.int q)) (own_shr0 nn)), N_20, rfl⟩
abbrev M145 : MethodName := ⟨"jdk/internal/util/Preconditions", "checkIndex", "(IILjava/util/function/BiFunction;)I"⟩
theorem ef_146 (m : MethodId) (x0 : Int32) (x1 : Int32) (x2 : Value) (r2 : x2.isRef = true) : entryFrame m #[(.int x0), (.int x1), x2] 3 = mkF m 0 #[.val (.int x0), .val (.int x1), .val x2] [] := by rcases ref_cases r2 with rfl | ⟨q2, rfl⟩ <;> first | (simp [entryFrame, mkF, argsToLocals, Value.category]; done) | rfl
theorem pn_147 : plainName "jdk/internal/util/Preconditions" = true := by first | (simp [plainName, overriddenIn]; done) | decide +kernel
theorem d8_0 : decode jdk_41_method_11_code 0 = .ok (.iload_n 0, 1) := by decide +kernel
theorem d8_1 : decode jdk_41_method_11_code 1 = .ok (.ifCond .lt 8, 3) := by decide +kernel
theorem d8_4 : decode jdk_41_method_11_code 4 = .ok (.iload_n 0, 1) := by decide +kernel
theorem d8_5 : decode jdk_41_method_11_code 5 = .ok (.iload_n 1, 1) := by decide +kernel
theorem d8_6 : decode jdk_41_method_11_code 6 = .ok (.if_icmp .lt 10, 3) := by decide +kernel
theorem d8_16 : decode jdk_41_method_11_code 16 = .ok (.iload_n 0, 1) := by decide +kernel
theorem d8_17 : decode jdk_41_method_11_code 17 = .ok (.ireturn, 1) := by decide +kernel
abbrev R_pchk : Room := { frames := 0, cells := 0, slots := 0, locals := 0 }
def Q_pchk (Z : State) (G1 : Int32) (G3 : Value) (i : Int32) (n : Int32) (h0 : Heap) (n0 : Nat) (v : Option Value) (h : Heap) (L : List Loc) : Prop := (v = some (.int i) ∧ Fr n0 L ∧ h = h0)
set_option maxRecDepth 65536 in
set_option maxHeartbeats 40000000 in
theorem rm_pchk (l : Launch) (Z : State) (a0 : Array Value) (hw : ∀ d ∈ tables_1, d.before a0 Z = true) (ws : List Jvm.Cond) (G1 : Int32) (G3 : Value) (HG : own_G l Z a0 G1 G3) (h0 : Heap) (n0 : Nat) (X00 : Old Z n0 h0) (i : Int32) (n : Int32) (h1 : ¬ (i < (0 : Int32))) (h2 : i < n) :
    own_CP l Z M145 jdk_41_method_11_code 3 (some .int) ws R_pchk #[(.int i), (.int n), G3] h0 (Q_pchk Z G1 G3 i n h0 n0) := by
  refine own_P (plainFor_of_name pn_147) ?_
  intro p e s m below meth c s₁ S0 Bd hZ hh hx hby hml hown hnm X0 e0 hS0d
  obtain ⟨O1, P1, O3f, rG3⟩ := id HG
  have N0 := Fr.nil n0
  have C0 : Steps p.tables e below S0 (s₁.setTop (mkF m 0 #[.val (.int i), .val (.int n), .val G3] [])) := by rw [hS0d]; exact castTop (ef_146 m i n G3 rG3) (Steps.refl _)
  have C_1 : Steps p.tables e below S0 (s₁.setTop (mkF m 17 #[.val (.int i), .val (.int n), .val G3] [(.int i)])) := by
    refine C0.trans ?_
    refine XS.iloadN X0.here hx rfl (hb hby d8_0) rfl ?_
    refine XS.ifNo X0.here hx rfl (hb hby d8_1) rfl (i0_lt_f h1) ?_
    refine XS.iloadN X0.here hx rfl (hb hby d8_4) rfl ?_
    refine XS.iloadN X0.here hx rfl (hb hby d8_5) rfl ?_
    refine XS.icmpYes X0.here hx rfl (pc0 := 6) (pc' := 16) rfl (hb hby d8_6) rfl (ii_lt_t h2) (by decide) (by decide) ?_
    refine XS.iloadN X0.here hx rfl (hb hby d8_16) rfl ?_
    exact Steps.refl _
  obtain ⟨fs, hr, hrun, hended, hW, hsame⟩ := X0.leave (v := some (.int i)) (fun h => by rw [Bd.returns] at h; cases h)
  refine ⟨_, _, C_1.trans (retOut X0 hx Bd.returns rfl (Or.inl ⟨rfl, Or.inl rfl, _, rfl⟩) (hb hby d8_17) hr), hrun, hended, _, _, rfl, ?_, ⟨_, rfl⟩, hW, hsame.mono (by decide) (by decide)⟩
  show Q_pchk Z G1 G3 i n h0 n0 (some (.int i)) s₁.heap _
  rw [e0]
  exact ⟨rfl, N0, rfl⟩
abbrev M155 : MethodName := ⟨"java/lang/String", "checkIndex", "(II)V"⟩
theorem ef_156 (m : MethodId) (x0 : Int32) (x1 : Int32) : entryFrame m #[(.int x0), (.int x1)] 2 = mkF m 0 #[.val (.int x0), .val (.int x1)] [] := by first | (simp [entryFrame, mkF, argsToLocals, Value.category]; done) | rfl
theorem d9_0 : decode jdk_42_method_155_code 0 = .ok (.iload_n 0, 1) := by decide +kernel
theorem d9_1 : decode jdk_42_method_155_code 1 = .ok (.iload_n 1, 1) := by decide +kernel
theorem w93 {Z : State} {a0 : Array Value} (hw : ∀ d ∈ tables_1, d.before a0 Z = true) : Jvm.Cond.before (Jvm.Cond.fieldLink "java/lang/String" (1053 : Nat) "jdk/internal/util/Preconditions" "SIOOBE_FORMATTER" "Ljava/util/function/BiFunction;") a0 Z = true := hw _ (List.mem_of_getElem? (i := 93) rfl)
theorem d9_2 : decode jdk_42_method_155_code 2 = .ok (.getstatic 1053, 3) := by decide +kernel
theorem w97 {Z : State} {a0 : Array Value} (hw : ∀ d ∈ tables_1, d.before a0 Z = true) : Jvm.Cond.before (Jvm.Cond.code ({ cls := "jdk/internal/util/Preconditions", name := "checkIndex", desc := "(IILjava/util/function/BiFunction;)I" } : Jvm.MethodName) jdk_41_method_11_code (3 : Nat) (Option.some Jvm.ClassFile.FieldType.int)) a0 Z = true := hw _ (List.mem_of_getElem? (i := 97) rfl)
theorem w94 {Z : State} {a0 : Array Value} (hw : ∀ d ∈ tables_1, d.before a0 Z = true) : Jvm.Cond.before (Jvm.Cond.initialized "jdk/internal/util/Preconditions") a0 Z = true := hw _ (List.mem_of_getElem? (i := 94) rfl)
theorem pd_163 : parseMethodDescriptor "(IILjava/util/function/BiFunction;)I" = some ⟨[.int, .int, (.object "java/util/function/BiFunction")], some .int⟩ := by decide +kernel
theorem d9_5 : decode jdk_42_method_155_code 5 = .ok (.invokestatic 1059, 3) := by decide +kernel
theorem w95 {Z : State} {a0 : Array Value} (hw : ∀ d ∈ tables_1, d.before a0 Z = true) : Jvm.Cond.before (Jvm.Cond.methodLink "java/lang/String" (1059 : Nat) ({ cls := "jdk/internal/util/Preconditions", name := "checkIndex", desc := "(IILjava/util/function/BiFunction;)I" } : Jvm.MethodName)) a0 Z = true := hw _ (List.mem_of_getElem? (i := 95) rfl)
theorem w96 {Z : State} {a0 : Array Value} (hw : ∀ d ∈ tables_1, d.before a0 Z = true) : Jvm.Cond.before (Jvm.Cond.static ({ cls := "jdk/internal/util/Preconditions", name := "checkIndex", desc := "(IILjava/util/function/BiFunction;)I" } : Jvm.MethodName)) a0 Z = true := hw _ (List.mem_of_getElem? (i := 96) rfl)
theorem d9_8 : decode jdk_42_method_155_code 8 = .ok (.pop, 1) := by decide +kernel
theorem d9_9 : decode jdk_42_method_155_code 9 = .ok (.return_, 1) := by decide +kernel
abbrev R_schk : Room := { frames := 1, cells := 0, slots := 0, locals := 14 }
def Q_schk (Z : State) (G1 : Int32) (G3 : Value) (i : Int32) (n : Int32) (h0 : Heap) (n0 : Nat) (v : Option Value) (h : Heap) (L : List Loc) : Prop := (v = none ∧ Fr n0 L ∧ h = h0)
set_option maxRecDepth 65536 in
set_option maxHeartbeats 40000000 in
theorem rm_schk (l : Launch) (Z : State) (a0 : Array Value) (hw : ∀ d ∈ tables_1, d.before a0 Z = true) (ws : List Jvm.Cond) (G1 : Int32) (G3 : Value) (HG : own_G l Z a0 G1 G3) (h0 : Heap) (n0 : Nat) (X00 : Old Z n0 h0) (i : Int32) (n : Int32) (h1 : ¬ (i < (0 : Int32))) (h2 : i < n) :
    own_CP l Z M155 jdk_42_method_155_code 2 none ws R_schk #[(.int i), (.int n)] h0 (Q_schk Z G1 G3 i n h0 n0) := by
  refine own_P (plainFor_of_name pn_61) ?_
  intro p e s m below meth c s₁ S0 Bd hZ hh hx hby hml hown hnm X0 e0 hS0d
  obtain ⟨O1, P1, O3f, rG3⟩ := id HG
  have N0 := Fr.nil n0
  have C0 : Steps p.tables e below S0 (s₁.setTop (mkF m 0 #[.val (.int i), .val (.int n)] [])) := by rw [hS0d]; exact castTop (ef_156 m i n) (Steps.refl _)
  obtain ⟨T_1, X_2, e_3, st_4⟩ := getS X0 hx hZ (host := "") hown (w93 hw) Via.refl e0 (O3f.ext X00.2) (g := (mkF m 2 #[.val (.int i), .val (.int n)] [(.int n), (.int i)])) rfl (hb hby d9_2)
  obtain ⟨_, _, ⟨T_5, L_5, k_5, n_5⟩, -, X_5, ⟨Lc_5, hQ_5, l_5, y_5, z_5⟩, st_5⟩ := Jvm.LawKit.callS X_2 hx (y := M145) hown (mvT hZ (w95 hw)) (mvT hZ (w96 hw)) (mvT hZ (w94 hw)) (mvT hZ (w97 hw)) (by decide) (backOf (W := 0) (rm_pchk l Z a0 hw [] G1 G3 HG h0 n0 X00 i n h1 h2) hZ (w97 hw) (w94 hw) (by decide) (by decide)) (g := (mkF m 5 #[.val (.int i), .val (.int n)] [G3, (.int n), (.int i)])) rfl (by rw [hml]; rfl) (argsL := [(.int i), (.int n), G3]) (rest := []) (lenOf pd_163 rfl) rfl (by show 2 * 0 + _ ≤ _; exact Nat.le_of_eq rfl) (hb hby d9_5) (fun _ _ => ⟨rfl, e_3, (by decide : 0 + 0 ≤ _), (by decide : 0 + 0 ≤ _)⟩)
  dsimp only [Pt.U, Pt.locs, Pt.cells, Pt.slots] at X_5 l_5 y_5 z_5 st_5 hQ_5
  have X_5 := own_cast X_5 l_5 y_5 z_5
  obtain ⟨rfl, N_6, e_7⟩ := hQ_5
  have N_8 := Fr.app N0 N_6
  have e_9 : T_5.heap = h0 := e_7
  have C_10 : Steps p.tables e below S0 (T_5.setTop (mkF m 9 #[.val (.int i), .val (.int n)] [])) := by
    refine C0.trans ?_
    refine XS.iloadN X0.here hx rfl (hb hby d9_0) rfl ?_
    refine XS.iloadN X0.here hx rfl (hb hby d9_1) rfl ?_
    refine st_4 _ ?_
    refine st_5 _ ?_
    refine XS.pop X_5.here hx rfl (hb hby d9_8) rfl rfl ?_
    exact Steps.refl _
  obtain ⟨fs, hr, hrun, hended, hW, hsame⟩ := X_5.leave (v := none) (fun _ => rfl)
  refine ⟨_, _, C_10.trans (X_5.returnOut hx Bd.returns (hb hby d9_9) hr), hrun, hended, _, _, rfl, ?_, ⟨_, rfl⟩, hW, hsame.mono (by decide) (by decide)⟩
  show Q_schk Z G1 G3 i n h0 n0 (none) T_5.heap _
  rw [e_9]
  exact ⟨rfl, N_8, rfl⟩
abbrev M169 : MethodName := ⟨"java/lang/StringLatin1", "charAt", "([BI)C"⟩
theorem pn_170 : plainName "java/lang/StringLatin1" = true := by first | (simp [plainName, overriddenIn]; done) | decide +kernel
theorem d10_0 : decode jdk_43_method_2_code 0 = .ok (.iload_n 1, 1) := by decide +kernel
theorem d10_1 : decode jdk_43_method_2_code 1 = .ok (.aload_n 0, 1) := by decide +kernel
theorem d10_2 : decode jdk_43_method_2_code 2 = .ok (.arraylength, 1) := by decide +kernel
theorem w92 {Z : State} {a0 : Array Value} (hw : ∀ d ∈ tables_1, d.before a0 Z = true) : Jvm.Cond.before (Jvm.Cond.code ({ cls := "java/lang/String", name := "checkIndex", desc := "(II)V" } : Jvm.MethodName) jdk_42_method_155_code (2 : Nat) (Option.none : Option Jvm.ClassFile.FieldType)) a0 Z = true := hw _ (List.mem_of_getElem? (i := 92) rfl)
theorem pd_175 : parseMethodDescriptor "(II)V" = some ⟨[.int, .int], none⟩ := by decide +kernel
theorem d10_3 : decode jdk_43_method_2_code 3 = .ok (.invokestatic 9, 3) := by decide +kernel
theorem w90 {Z : State} {a0 : Array Value} (hw : ∀ d ∈ tables_1, d.before a0 Z = true) : Jvm.Cond.before (Jvm.Cond.methodLink "java/lang/StringLatin1" (9 : Nat) ({ cls := "java/lang/String", name := "checkIndex", desc := "(II)V" } : Jvm.MethodName)) a0 Z = true := hw _ (List.mem_of_getElem? (i := 90) rfl)
theorem w91 {Z : State} {a0 : Array Value} (hw : ∀ d ∈ tables_1, d.before a0 Z = true) : Jvm.Cond.before (Jvm.Cond.static ({ cls := "java/lang/String", name := "checkIndex", desc := "(II)V" } : Jvm.MethodName)) a0 Z = true := hw _ (List.mem_of_getElem? (i := 91) rfl)
theorem d10_6 : decode jdk_43_method_2_code 6 = .ok (.aload_n 0, 1) := by decide +kernel
theorem d10_7 : decode jdk_43_method_2_code 7 = .ok (.iload_n 1, 1) := by decide +kernel
theorem d10_8 : decode jdk_43_method_2_code 8 = .ok (.baload, 1) := by decide +kernel
theorem d10_9 : decode jdk_43_method_2_code 9 = .ok (.sipush 255, 3) := by decide +kernel
theorem d10_12 : decode jdk_43_method_2_code 12 = .ok (.iand, 1) := by decide +kernel
theorem d10_13 : decode jdk_43_method_2_code 13 = .ok (.i2c, 1) := by decide +kernel
theorem d10_14 : decode jdk_43_method_2_code 14 = .ok (.ireturn, 1) := by decide +kernel
abbrev R_lchs : Room := { frames := 2, cells := 0, slots := 0, locals := 27 }
def Q_lchs (Z : State) (G1 : Int32) (G3 : Value) (t : Addr) (kt : ClassId) (nn : Int32) (bs : List Int32) (ii : Int32) (h0 : Heap) (n0 : Nat) (v : Option Value) (h : Heap) (L : List Loc) : Prop := (v = some (.int (own_ch (own_gt bs ii))) ∧ Fr n0 L ∧ h = h0)
set_option maxRecDepth 65536 in
set_option maxHeartbeats 40000000 in
theorem rm_lchs (l : Launch) (Z : State) (a0 : Array Value) (hw : ∀ d ∈ tables_1, d.before a0 Z = true) (ws : List Jvm.Cond) (G1 : Int32) (G3 : Value) (HG : own_G l Z a0 G1 G3) (h0 : Heap) (n0 : Nat) (X00 : Old Z n0 h0) (t : Addr) (kt : ClassId) (nn : Int32) (bs : List Int32) (ii : Int32) (hp0 : Arv Z h0 t kt .byte nn (own_iv bs) (.int (0 : Int32))) (h1 : ¬ (ii < (0 : Int32))) (h2 : ii < nn) :
    own_CP l Z M169 jdk_43_method_2_code 2 (some .char) ws R_lchs #[(.ref t), (.int ii)] h0 (Q_lchs Z G1 G3 t kt nn bs ii h0 n0) := by
  refine own_P (plainFor_of_name pn_170) ?_
  intro p e s m below meth c s₁ S0 Bd hZ hh hx hby hml hown hnm X0 e0 hS0d
  obtain ⟨O1, P1, O3f, rG3⟩ := id HG
  have N0 := Fr.nil n0
  have C0 : Steps p.tables e below S0 (s₁.setTop (mkF m 0 #[.val (.ref t), .val (.int ii)] [])) := by rw [hS0d]; exact castTop (ef_50 m t ii) (Steps.refl _)
  obtain ⟨c_1, A_2, q_3, S_4, M_5, H_6, U_7⟩ := id hp0
  obtain ⟨_, _, ⟨T_8, L_8, k_8, n_8⟩, -, X_8, ⟨Lc_8, hQ_8, l_8, y_8, z_8⟩, st_8⟩ := Jvm.LawKit.callS X0 hx (y := M155) hown (mvT hZ (w90 hw)) (mvT hZ (w91 hw)) (mvT hZ (w27 hw)) (mvT hZ (w92 hw)) (by decide) (backOf (W := 0) (rm_schk l Z a0 hw [] G1 G3 HG h0 n0 X00 ii nn h1 h2) hZ (w92 hw) (w27 hw) (by decide) (by decide)) (g := (mkF m 3 #[.val (.ref t), .val (.int ii)] [(.int nn), (.int ii)])) rfl (by rw [hml]; rfl) (argsL := [(.int ii), (.int nn)]) (rest := []) (lenOf pd_175 rfl) rfl (by show 2 * 0 + _ ≤ _; exact Nat.le_of_eq rfl) (hb hby d10_3) (fun _ _ => ⟨rfl, e0, (by decide : 0 + 0 ≤ _), (by decide : 0 + 0 ≤ _)⟩)
  dsimp only [Pt.U, Pt.locs, Pt.cells, Pt.slots] at X_8 l_8 y_8 z_8 st_8 hQ_8
  have X_8 := own_cast X_8 l_8 y_8 z_8
  obtain ⟨rfl, N_9, e_10⟩ := hQ_8
  have N_11 := Fr.app N0 N_9
  have e_12 : T_8.heap = h0 := e_10
  obtain ⟨c_13, A_14, q_15, S_16, M_17, H_18, U_19⟩ := id hp0
  have hin_20 : ¬ (ii < 0 ∨ c_13.slots.size ≤ ii.toNatClampNeg) := inb_of S_16 ⟨h1, h2⟩
  have hat_21 : c_13.slots[ii.toNatClampNeg]? = some (.int (own_gt bs ii)) := Has.at H_18 hin_20 (own_iv_at bs ii)
  have C_22 : Steps p.tables e below S0 (T_8.setTop (mkF m 14 #[.val (.ref t), .val (.int ii)] [(.int (((own_gt bs ii) &&& (255 : Int32)).toUInt32.toUInt16.toUInt32.toInt32))])) := by
    refine C0.trans ?_
    refine XS.iloadN X0.here hx rfl (hb hby d10_0) rfl ?_
    refine XS.aloadN X0.here hx rfl (hb hby d10_1) rfl rfl ?_
    refine X0.arraylength hx (by rw [e0]; exact A_2.1) (State.isArrayOf_alike hZ.alike A_2.2.1) (g := (mkF m 2 #[.val (.ref t), .val (.int ii)] [(.ref t), (.int ii)])) rfl rfl (hb hby d10_2) _ ?_
    rw [len_of S_4 M_5]
    refine st_8 _ ?_
    refine XS.aloadN X_8.here hx rfl (hb hby d10_6) rfl rfl ?_
    refine XS.iloadN X_8.here hx rfl (hb hby d10_7) rfl ?_
    refine X_8.baloadBytes hx (j := ii) (v := (.int (own_gt bs ii))) (by rw [e_12]; exact A_14.1) (State.isArrayOf_alike hZ.alike A_14.2.1) A_14.2.2 hin_20 hat_21 (g := (mkF m 8 #[.val (.ref t), .val (.int ii)] [(.int ii), (.ref t)])) rfl rfl (hb hby d10_8) _ ?_
    refine XS.sipush X_8.here hx rfl (hb hby d10_9) ?_
    show Steps p.tables e below (T_8.setTop (mkF m 12 #[.val (.ref t), .val (.int ii)] [(.int (255 : Int32)), (.int (own_gt bs ii))])) _
    refine XS.iand X_8.here hx rfl (hb hby d10_12) rfl ?_
    refine XS.i2c X_8.here hx rfl (hb hby d10_13) rfl ?_
    exact Steps.refl _
  obtain ⟨fs, hr, hrun, hended, hW, hsame⟩ := X_8.leave (v := some (.int (own_ch (own_gt bs ii)))) (fun h => by rw [Bd.returns] at h; cases h)
  refine ⟨_, _, C_22.trans (retN X_8 hx (t := .char) Bd.returns (by simp) (hb hby d10_14) hr), hrun, hended, _, _, rfl, ?_, ⟨_, rfl⟩, hW, hsame.mono (by decide) (by decide)⟩
  show Q_lchs Z G1 G3 t kt nn bs ii h0 n0 (some (.int (own_ch (own_gt bs ii)))) T_8.heap _
  rw [e_12]
  exact ⟨rfl, N_11, rfl⟩
abbrev M186 : MethodName := ⟨"java/lang/String", "charAt", "(I)C"⟩
theorem d11_0 : decode jdk_42_method_56_code 0 = .ok (.aload_n 0, 1) := by decide +kernel
theorem w85 {Z : State} {a0 : Array Value} (hw : ∀ d ∈ tables_1, d.before a0 Z = true) : Jvm.Cond.before (Jvm.Cond.code ({ cls := "java/lang/String", name := "isLatin1", desc := "()Z" } : Jvm.MethodName) jdk_42_method_154_code (1 : Nat) (Option.some Jvm.ClassFile.FieldType.boolean)) a0 Z = true := hw _ (List.mem_of_getElem? (i := 85) rfl)
theorem pd_189 : parseMethodDescriptor "()Z" = some ⟨[], some .boolean⟩ := by decide +kernel
theorem d11_1 : decode jdk_42_method_56_code 1 = .ok (.invokevirtual 492, 3) := by decide +kernel
theorem w81 {Z : State} {a0 : Array Value} (hw : ∀ d ∈ tables_1, d.before a0 Z = true) : Jvm.Cond.before (Jvm.Cond.methodLink "java/lang/String" (492 : Nat) ({ cls := "java/lang/String", name := "isLatin1", desc := "()Z" } : Jvm.MethodName)) a0 Z = true := hw _ (List.mem_of_getElem? (i := 81) rfl)
theorem w84 {Z : State} {a0 : Array Value} (hw : ∀ d ∈ tables_1, d.before a0 Z = true) : Jvm.Cond.before (Jvm.Cond.selects "java/lang/String" ({ cls := "java/lang/String", name := "isLatin1", desc := "()Z" } : Jvm.MethodName) ({ cls := "java/lang/String", name := "isLatin1", desc := "()Z" } : Jvm.MethodName)) a0 Z = true := hw _ (List.mem_of_getElem? (i := 84) rfl)
theorem w83 {Z : State} {a0 : Array Value} (hw : ∀ d ∈ tables_1, d.before a0 Z = true) : Jvm.Cond.before (Jvm.Cond.instanceMethod ({ cls := "java/lang/String", name := "isLatin1", desc := "()Z" } : Jvm.MethodName)) a0 Z = true := hw _ (List.mem_of_getElem? (i := 83) rfl)
theorem w82 {Z : State} {a0 : Array Value} (hw : ∀ d ∈ tables_1, d.before a0 Z = true) : Jvm.Cond.before (Jvm.Cond.declares ({ cls := "java/lang/String", name := "isLatin1", desc := "()Z" } : Jvm.MethodName)) a0 Z = true := hw _ (List.mem_of_getElem? (i := 82) rfl)
theorem d11_4 : decode jdk_42_method_56_code 4 = .ok (.ifCond .eq 12, 3) := by decide +kernel
theorem d11_7 : decode jdk_42_method_56_code 7 = .ok (.aload_n 0, 1) := by decide +kernel
theorem d11_8 : decode jdk_42_method_56_code 8 = .ok (.getfield 9, 3) := by decide +kernel
theorem d11_11 : decode jdk_42_method_56_code 11 = .ok (.iload_n 1, 1) := by decide +kernel
theorem w89 {Z : State} {a0 : Array Value} (hw : ∀ d ∈ tables_1, d.before a0 Z = true) : Jvm.Cond.before (Jvm.Cond.code ({ cls := "java/lang/StringLatin1", name := "charAt", desc := "([BI)C" } : Jvm.MethodName) jdk_43_method_2_code (2 : Nat) (Option.some Jvm.ClassFile.FieldType.char)) a0 Z = true := hw _ (List.mem_of_getElem? (i := 89) rfl)
theorem w88 {Z : State} {a0 : Array Value} (hw : ∀ d ∈ tables_1, d.before a0 Z = true) : Jvm.Cond.before (Jvm.Cond.initialized "java/lang/StringLatin1") a0 Z = true := hw _ (List.mem_of_getElem? (i := 88) rfl)
theorem pd_201 : parseMethodDescriptor "([BI)C" = some ⟨[(.array .byte), .int], some .char⟩ := by decide +kernel
theorem d11_12 : decode jdk_42_method_56_code 12 = .ok (.invokestatic 495, 3) := by decide +kernel
theorem w86 {Z : State} {a0 : Array Value} (hw : ∀ d ∈ tables_1, d.before a0 Z = true) : Jvm.Cond.before (Jvm.Cond.methodLink "java/lang/String" (495 : Nat) ({ cls := "java/lang/StringLatin1", name := "charAt", desc := "([BI)C" } : Jvm.MethodName)) a0 Z = true := hw _ (List.mem_of_getElem? (i := 86) rfl)
theorem w87 {Z : State} {a0 : Array Value} (hw : ∀ d ∈ tables_1, d.before a0 Z = true) : Jvm.Cond.before (Jvm.Cond.static ({ cls := "java/lang/StringLatin1", name := "charAt", desc := "([BI)C" } : Jvm.MethodName)) a0 Z = true := hw _ (List.mem_of_getElem? (i := 87) rfl)
theorem d11_15 : decode jdk_42_method_56_code 15 = .ok (.ireturn, 1) := by decide +kernel
abbrev R_chs : Room := { frames := 3, cells := 0, slots := 0, locals := 40 }
def Q_chs (Z : State) (G1 : Int32) (G3 : Value) (x : Addr) (t : Addr) (kt : ClassId) (nn : Int32) (cs : List Int32) (ii : Int32) (h0 : Heap) (n0 : Nat) (v : Option Value) (h : Heap) (L : List Loc) : Prop := (v = some (.int (own_gt cs ii)) ∧ Fr n0 L ∧ h = h0)
set_option maxRecDepth 65536 in
set_option maxHeartbeats 40000000 in
theorem rm_chs (l : Launch) (Z : State) (a0 : Array Value) (hw : ∀ d ∈ tables_1, d.before a0 Z = true) (ws : List Jvm.Cond) (G1 : Int32) (G3 : Value) (HG : own_G l Z a0 G1 G3) (h0 : Heap) (n0 : Nat) (X00 : Old Z n0 h0) (x : Addr) (t : Addr) (kt : ClassId) (nn : Int32) (cs : List Int32) (ii : Int32) (hp0 : Exa Z h0 x "java/lang/String") (hp1 : Fld Z h0 x "java/lang/String" "coder" "B" (.int (0 : Int32))) (hp2 : Fld Z h0 x "java/lang/String" "value" "[B" (.ref t)) (hp3 : Arv Z h0 t kt .byte nn (own_iv (own_bs cs)) (.int (0 : Int32))) (h1 : ¬ (ii < (0 : Int32))) (h2 : ii < nn) (hl1 : cs.length = nn.toNatClampNeg) (hla : own_lat cs) :
    own_CP l Z M186 jdk_42_method_56_code 2 (some .char) ws R_chs #[(.ref x), (.int ii)] h0 (Q_chs Z G1 G3 x t kt nn cs ii h0 n0) := by
  refine own_P (plainFor_of_name pn_61) ?_
  intro p e s m below meth c s₁ S0 Bd hZ hh hx hby hml hown hnm X0 e0 hS0d
  obtain ⟨O1, P1, O3f, rG3⟩ := id HG
  have N0 := Fr.nil n0
  have C0 : Steps p.tables e below S0 (s₁.setTop (mkF m 0 #[.val (.ref x), .val (.int ii)] [])) := by rw [hS0d]; exact castTop (ef_50 m x ii) (Steps.refl _)
  obtain ⟨q_2, q_3, q_4, q_5, q_6⟩ := isOf (T := s₁) hZ e0 hp0
  obtain ⟨_, _, ⟨T_1, L_1, k_1, n_1⟩, -, X_1, ⟨Lc_1, hQ_1, l_1, y_1, z_1⟩, st_1⟩ := X0.virtualBack hx (y := M122) (z := M122) hown (mvT hZ (w81 hw)) (mvT hZ (w82 hw)) (notFace_of_selects (args := #[]) (mvT hZ (w84 hw))) (mvT hZ (w84 hw)) (mvT hZ (w83 hw)) (by decide) (backOf (W := 0) (rm_islat l Z a0 hw [] G1 G3 HG h0 n0 X00 x hp1) hZ (w85 hw) (w27 hw) (by decide) (by decide)) q_4 q_6 (g := (mkF m 1 #[.val (.ref x), .val (.int ii)] [(.ref x)])) rfl (by rw [hml]; rfl) (Steps.refl _) (argsL := []) (rest := []) (lenOf pd_189 rfl) rfl (by show 2 * 0 + _ ≤ _; exact Nat.le_of_eq rfl) (hb hby d11_1) (fun _ _ => ⟨rfl, e0, (by decide : 0 + 0 ≤ _), (by decide : 0 + 0 ≤ _)⟩)
  dsimp only [Pt.U, Pt.locs, Pt.cells, Pt.slots] at X_1 l_1 y_1 z_1 st_1 hQ_1
  have X_1 := own_cast X_1 l_1 y_1 z_1
  obtain ⟨rfl, N_7, e_8⟩ := hQ_1
  have N_9 := Fr.app N0 N_7
  have e_10 : T_1.heap = h0 := e_8
  obtain ⟨T_11, X_12, e_13, st_14⟩ := getF X_1 hx hZ hown (host := "") (Or.inl (w44 hw)) Via.refl e_10 hp2 (g := (mkF m 8 #[.val (.ref x), .val (.int ii)] [(.ref x)])) rfl rfl (hb hby d11_8)
  obtain ⟨_, _, ⟨T_15, L_15, k_15, n_15⟩, -, X_15, ⟨Lc_15, hQ_15, l_15, y_15, z_15⟩, st_15⟩ := Jvm.LawKit.callS X_12 hx (y := M169) hown (mvT hZ (w86 hw)) (mvT hZ (w87 hw)) (mvT hZ (w88 hw)) (mvT hZ (w89 hw)) (by decide) (backOf (W := 0) (rm_lchs l Z a0 hw [] G1 G3 HG h0 n0 X00 t kt nn (own_bs cs) ii hp3 h1 h2) hZ (w89 hw) (w88 hw) (by decide) (by decide)) (g := (mkF m 12 #[.val (.ref x), .val (.int ii)] [(.int ii), (.ref t)])) rfl (by rw [hml]; rfl) (argsL := [(.ref t), (.int ii)]) (rest := []) (lenOf pd_201 rfl) rfl (by show 2 * 0 + _ ≤ _; exact Nat.le_of_eq rfl) (hb hby d11_12) (fun _ _ => ⟨rfl, e_13, (by decide : 0 + 0 ≤ _), (by decide : 0 + 0 ≤ _)⟩)
  dsimp only [Pt.U, Pt.locs, Pt.cells, Pt.slots] at X_15 l_15 y_15 z_15 st_15 hQ_15
  have X_15 := own_cast X_15 l_15 y_15 z_15
  obtain ⟨rfl, N_16, e_17⟩ := hQ_15
  have N_18 := Fr.app N_9 N_16
  have e_19 : T_15.heap = h0 := e_17
  have C_20 : Steps p.tables e below S0 (T_15.setTop (mkF m 15 #[.val (.ref x), .val (.int ii)] [(.int (own_ch (own_gt (own_bs cs) ii)))])) := by
    refine C0.trans ?_
    refine XS.aloadN X0.here hx rfl (hb hby d11_0) rfl rfl ?_
    refine st_1.trans ?_
    refine XS.ifNo X_1.here hx rfl (hb hby d11_4) rfl (by decide) ?_
    refine XS.aloadN X_1.here hx rfl (hb hby d11_7) rfl rfl ?_
    refine st_14 _ ?_
    refine XS.iloadN X_12.here hx rfl (hb hby d11_11) rfl ?_
    refine st_15 _ ?_
    exact Steps.refl _
  obtain ⟨fs, hr, hrun, hended, hW, hsame⟩ := X_15.leave (v := some (.int (nar .char (own_ch (own_gt (own_bs cs) ii))))) (fun h => by rw [Bd.returns] at h; cases h)
  refine ⟨_, _, C_20.trans (retN X_15 hx (t := .char) Bd.returns (by simp) (hb hby d11_15) hr), hrun, hended, _, _, rfl, ?_, ⟨_, rfl⟩, hW, hsame.mono (by decide) (by decide)⟩
  show Q_chs Z G1 G3 x t kt nn cs ii h0 n0 (some (.int (nar .char (own_ch (own_gt (own_bs cs) ii))))) T_15.heap _
  rw [e_19]
  exact ⟨(congrArg (fun q => some (Value.int q)) (own_chsays hl1 hla h1 h2)), N_18, rfl⟩
theorem d3_8 : decode jdk_42_method_149_code 8 = .ok (.aload_n 0, 1) := by decide +kernel
theorem w38 {Z : State} {a0 : Array Value} (hw : ∀ d ∈ tables_1, d.before a0 Z = true) : Jvm.Cond.before (Jvm.Cond.stringLink "java/lang/String" (7 : Nat) "") a0 Z = true := hw _ (List.mem_of_getElem? (i := 38) rfl)
theorem d3_9 : decode jdk_42_method_149_code 9 = .ok (.ldc 7, 2) := by decide +kernel
theorem d3_11 : decode jdk_42_method_149_code 11 = .ok (.getfield 9, 3) := by decide +kernel
theorem d3_14 : decode jdk_42_method_149_code 14 = .ok (.putfield 9, 3) := by decide +kernel
theorem d3_17 : decode jdk_42_method_149_code 17 = .ok (.aload_n 0, 1) := by decide +kernel
theorem d3_18 : decode jdk_42_method_149_code 18 = .ok (.ldc 7, 2) := by decide +kernel
theorem d3_20 : decode jdk_42_method_149_code 20 = .ok (.getfield 15, 3) := by decide +kernel
theorem d3_23 : decode jdk_42_method_149_code 23 = .ok (.putfield 15, 3) := by decide +kernel
theorem d3_26 : decode jdk_42_method_149_code 26 = .ok (.return_, 1) := by decide +kernel
abbrev R_si4_0 : Room := { frames := 1, cells := 4, slots := 8, locals := 12 }
def Q_si4_0 (Z : State) (G1 : Int32) (G3 : Value) (x : Addr) (b : Addr) (k : ClassId) (h0 : Heap) (n0 : Nat) (v : Option Value) (h : Heap) (L : List Loc) : Prop := (∃ t : Addr, ∃ kt : ClassId, v = none ∧ Fr n0 L ∧ Keep h0 h [x] ∧ (Exa Z h x "java/lang/String") ∧ (Fld Z h x "java/lang/String" "coder" "B" (.int (0 : Int32))) ∧ (Fld Z h x "java/lang/String" "value" "[B" (.ref t)) ∧ (Arv Z h t kt .byte (0 : Int32) [] (.int (0 : Int32))))
set_option maxRecDepth 65536 in
set_option maxHeartbeats 40000000 in
theorem rm_si4_0 (l : Launch) (Z : State) (a0 : Array Value) (hw : ∀ d ∈ tables_1, d.before a0 Z = true) (ws : List Jvm.Cond) (G1 : Int32) (G3 : Value) (HG : own_G l Z a0 G1 G3) (h0 : Heap) (n0 : Nat) (X00 : Old Z n0 h0) (x : Addr) (b : Addr) (k : ClassId) (hp0 : Exa Z h0 x "java/lang/String") (hp1 : Fld Z h0 x "java/lang/String" "value" "[B" .null) (hp2 : Fld Z h0 x "java/lang/String" "coder" "B" (.int (0 : Int32))) (hp3 : n0 ≤ x) (hp4 : Arv Z h0 b k .char (0 : Int32) [] (.int (0 : Int32))) :
    own_CH l Z M59 jdk_42_method_149_code 6 none ws R_si4_0 #[(.ref x), (.ref b), (.int (0 : Int32)), (.int (0 : Int32)), .null] h0 (Q_si4_0 Z G1 G3 x b k h0 n0) := by
  refine own_H (plainFor_of_name pn_61) ?_
  intro p e s m below meth c s₁ S0 Bd hZ hh CH0 hS0 CR0 hx hby hml hown hnm X0 e0 hS0d
  obtain ⟨O1, P1, O3f, rG3⟩ := id HG
  have hEL := own_EL hw
  have hSA := own_SA hw
  have N0 := Fr.nil n0
  have C0 : Steps p.tables e below S0 (s₁.setTop (mkF m 0 #[.val (.ref x), .val (.ref b), .val (.int (0 : Int32)), .val (.int (0 : Int32)), .val .null, .unset] [])) := by rw [hS0d]; exact castTop (ef_60 m x b (0 : Int32) (0 : Int32)) (Steps.refl _)
  have Sf_1 : Safe Z consts_1 s.vm h0 x := (own_safe_null hZ.alike hp0 hp1)
  obtain ⟨T_2, X_3, e_4, st_5⟩ := initO X0 hx hZ hown (w35 hw) (w36 hw) (w37 hw) e0 (g := (mkF m 1 #[.val (.ref x), .val (.ref b), .val (.int (0 : Int32)), .val (.int (0 : Int32)), .val .null, .unset] [(.ref x)])) rfl (by rw [hml]; rfl) rfl (hb hby d3_1) (by decide) (W := 0) (by show 2 * 0 + _ ≤ _; exact Nat.le_of_eq rfl) (by decide)
  obtain ⟨a_6, T_7, h_8, k1_9, b_10, k_11, X_12, e_13, E_14, S_15, hk_16, hZ_17, ho_18, Ex_19, Fc_20, Fv_21, Va_22, la_23, lb_24, R_25, L_26, Sf_27, st_28⟩ := ldcCH (vm0 := s.vm) X_3 hx hZ hown (w38 hw) hSA e_4 hS0 (Nat.le_refl _) hEL (by decide) CH0 (vs := []) (z := (0 : Int32)) ⟨by decide, by decide⟩ (by decide) (by decide) (g := (mkF m 9 #[.val (.ref x), .val (.ref b), .val (.int (0 : Int32)), .val (.int (0 : Int32)), .val .null, .unset] [(.ref x)])) rfl (hb hby d3_9) (n := 0) (by decide) (by decide) (by decide) (by decide)
  have CH_29 : CHv Z consts_1 T_7.vm h_8 := R_25.1
  have CR_30 : CHr Z consts_1 s.vm h0 T_7.vm h_8 := CR0.trans R_25
  have E_31 : Exa Z h_8 x "java/lang/String" := (hp0.ext E_14)
  have F_32 : Fld Z h_8 x "java/lang/String" "value" "[B" .null := (hp1.ext E_14)
  obtain ⟨T_33, X_34, e_35, st_36⟩ := getF X_12 hx hZ_17 ho_18 (host := "") (Or.inl (w44 hw)) Via.refl e_13 Fv_21 (g := (mkF m 11 #[.val (.ref x), .val (.ref b), .val (.int (0 : Int32)), .val (.int (0 : Int32)), .val .null, .unset] [(.ref a_6), (.ref x)])) rfl rfl (hb hby d3_11)
  obtain ⟨T_37, h_38, X_39, e_40, W_41, st_42⟩ := putF X_34 hx hZ_17 ho_18 (host := "") (Or.inl (w44 hw)) Via.refl e_35 F_32 E_31 (Or.inr ⟨(w40 hw), rfl, hnm⟩) (w26 hw) (ty := (.array .byte)) (by decide) rfl rfl (g := (mkF m 14 #[.val (.ref x), .val (.ref b), .val (.int (0 : Int32)), .val (.int (0 : Int32)), .val .null, .unset] [(.ref b_10), (.ref x)])) rfl rfl (hb hby d3_14)
  have N_43 := Fr.snoc X_39 N0 hp3
  have CH_44 : CHv Z consts_1 T_7.vm h_38 := CHv.wr W_41 (own_safe_null hZ_17.alike E_31 F_32) CH_29
  have CR_45 : CHr Z consts_1 s.vm h0 T_7.vm h_38 := CR_30.trans (CHr.wr W_41 (own_safe_null hZ_17.alike E_31 F_32) CH_29)
  have F_46 : Fld Z h_38 x "java/lang/String" "value" "[B" (.ref b_10) := F_32.same W_41
  obtain ⟨a_47, T_48, h_49, k1_50, b_51, k_52, X_53, e_54, E_55, S_56, hk_57, hZ_58, ho_59, Ex_60, Fc_61, Fv_62, Va_63, la_64, lb_65, R_66, L_67, Sf_68, st_69⟩ := ldcCH (vm0 := T_7.vm) X_39 hx hZ_17 ho_18 (w38 hw) hSA e_40 S_15 (Nat.le_trans hk_16 (Keep.of_wr W_41).1) hEL (by decide) CH_44 (vs := []) (z := (0 : Int32)) ⟨by decide, by decide⟩ (by decide) (by decide) (g := (mkF m 18 #[.val (.ref x), .val (.ref b), .val (.int (0 : Int32)), .val (.int (0 : Int32)), .val .null, .unset] [(.ref x)])) rfl (hb hby d3_18) (n := 0) (by decide) (by decide) (by decide) (by decide)
  have CH_70 : CHv Z consts_1 T_48.vm h_49 := R_66.1
  have CR_71 : CHr Z consts_1 s.vm h0 T_48.vm h_49 := CR_45.trans R_66
  have Sf_72 : Safe Z consts_1 T_48.vm h_49 x := (CHr.safe R_66 (own_lt hp0.lt (Nat.le_trans E_14.1 (Keep.of_wr W_41).1)) (Safe.wr W_41 (own_safe_null hZ_17.alike E_31 F_32) CH_29 (CHr.safe R_25 (own_lt hp0.lt (Nat.le_refl _)) Sf_1)))
  obtain ⟨T_73, X_74, e_75, st_76⟩ := getF X_53 hx hZ_58 ho_59 (host := "") (Or.inl (w45 hw)) Via.refl e_54 Fc_61 (g := (mkF m 20 #[.val (.ref x), .val (.ref b), .val (.int (0 : Int32)), .val (.int (0 : Int32)), .val .null, .unset] [(.ref a_47), (.ref x)])) rfl rfl (hb hby d3_20)
  have F_77 : Fld Z h_49 x "java/lang/String" "coder" "B" (.int (0 : Int32)) := (((hp2.ext E_14).other W_41 (Or.inr (slot_ne (Or.inr (w41 hw)) (Or.inr (w40 hw)) (by decide) (t := .byte) (by decide) (t' := (.array .byte)) (by decide)))).ext E_55)
  have E_78 : Exa Z h_49 x "java/lang/String" := ((E_31.wr W_41).ext E_55)
  obtain ⟨T_79, h_80, X_81, e_82, W_83, st_84⟩ := putF X_74 hx hZ_58 ho_59 (host := "") (Or.inl (w45 hw)) Via.refl e_75 F_77 E_78 (Or.inr ⟨(w41 hw), rfl, hnm⟩) (w26 hw) (ty := .byte) (by decide) rfl (by decide) (g := (mkF m 23 #[.val (.ref x), .val (.ref b), .val (.int (0 : Int32)), .val (.int (0 : Int32)), .val .null, .unset] [(.int (0 : Int32)), (.ref x)])) rfl rfl (hb hby d3_23)
  have N_85 := Fr.snoc X_81 N_43 hp3
  have Sf_86 : Safe Z consts_1 T_48.vm h_49 x := Sf_72
  have CH_87 : CHv Z consts_1 T_48.vm h_80 := CHv.wr W_83 Sf_86 CH_70
  have CR_88 : CHr Z consts_1 s.vm h0 T_48.vm h_80 := CR_71.trans (CHr.wr W_83 Sf_86 CH_70)
  have F_89 : Fld Z h_80 x "java/lang/String" "coder" "B" (.int (0 : Int32)) := F_77.same W_83
  have C_90 : Steps p.tables e below S0 (T_79.setTop (mkF m 26 #[.val (.ref x), .val (.ref b), .val (.int (0 : Int32)), .val (.int (0 : Int32)), .val .null, .unset] [])) := by
    refine C0.trans ?_
    refine XS.aloadN X0.here hx rfl (hb hby d3_0) rfl rfl ?_
    refine st_5 _ ?_
    refine XS.iloadN X_3.here hx rfl (hb hby d3_4) rfl ?_
    refine XS.ifNo X_3.here hx rfl (hb hby d3_5) rfl (by decide) ?_
    refine XS.aloadN X_3.here hx rfl (hb hby d3_8) rfl rfl ?_
    refine st_28 _ ?_
    refine st_36 _ ?_
    refine st_42 _ ?_
    show Steps p.tables e below (T_37.setTop (mkF m 17 #[.val (.ref x), .val (.ref b), .val (.int (0 : Int32)), .val (.int (0 : Int32)), .val .null, .unset] [])) _
    refine XS.aloadN X_39.here hx rfl (hb hby d3_17) rfl rfl ?_
    refine st_69 _ ?_
    refine st_76 _ ?_
    refine st_84 _ ?_
    exact Steps.refl _
  have E_91 : Exa Z h_80 x "java/lang/String" := (E_78.wr W_83)
  have F_92 : Fld Z h_80 x "java/lang/String" "value" "[B" (.ref b_10) := ((F_46.ext E_55).other W_83 (Or.inr (slot_ne (Or.inr (w40 hw)) (Or.inr (w41 hw)) (by decide) (t := (.array .byte)) (by decide) (t' := .byte) (by decide))))
  have V_93 : Arv Z h_80 b_10 k_11 .byte (0 : Int32) [] (.int (0 : Int32)) := (((Va_22.other W_41 (Ne.symm (Sf_27 _ (own_safe_null hZ_17.alike E_31 F_32)).2)).ext E_55).other W_83 (Ne.symm (Sf_27 _ (own_safe_null hZ_17.alike E_31 F_32)).2))
  have K_94 : Keep h0 h_80 [x] := (((((Keep.refl _ _).ext E_14).wr W_41 (Or.inl (List.mem_of_getElem? (i := 0) rfl))).ext E_55).wr W_83 (Or.inl (List.mem_of_getElem? (i := 0) rfl)))
  obtain ⟨fs, hr, hrun, hended, hRE⟩ := X_81.leaveW S_56 (by rw [show T_79.heap = h_80 from e_82]; exact (Nat.le_trans hk_57 (Keep.of_wr W_83).1)) (v := none) (fun _ => rfl)
  refine ⟨_, _, C_90.trans (X_81.returnOut hx Bd.returns (hb hby d3_26) hr), hrun, hended, _, _, rfl, ?_, ?_, hRE.1, hRE.2.1, hRE.2.2.1, hRE.2.2.2.mono (by decide) (by decide)⟩
  · show Q_si4_0 Z G1 G3 x b k h0 n0 (none) T_79.heap _
    rw [e_82]
    exact ⟨b_10, k_11, rfl, N_85, K_94, E_91, F_89, F_92, V_93⟩
  · show CHr Z consts_1 s.vm s.heap T_79.vm T_79.heap
    rw [hh, show T_79.heap = h_80 from e_82]
    exact CR_88.trans (CHv.at X_81 hZ_58 hEL CH_87)
abbrev R_si1_0 : Room := { frames := 2, cells := 4, slots := 8, locals := 29 }
def Q_si1_0 (Z : State) (G1 : Int32) (G3 : Value) (x : Addr) (b : Addr) (k : ClassId) (h0 : Heap) (n0 : Nat) (v : Option Value) (h : Heap) (L : List Loc) : Prop := (∃ t : Addr, ∃ kt : ClassId, v = none ∧ Fr n0 L ∧ Keep h0 h [x] ∧ (Exa Z h x "java/lang/String") ∧ (Fld Z h x "java/lang/String" "coder" "B" (.int (0 : Int32))) ∧ (Fld Z h x "java/lang/String" "value" "[B" (.ref t)) ∧ (Arv Z h t kt .byte (0 : Int32) [] (.int (0 : Int32))))
set_option maxRecDepth 65536 in
set_option maxHeartbeats 40000000 in
theorem rm_si1_0 (l : Launch) (Z : State) (a0 : Array Value) (hw : ∀ d ∈ tables_1, d.before a0 Z = true) (ws : List Jvm.Cond) (G1 : Int32) (G3 : Value) (HG : own_G l Z a0 G1 G3) (h0 : Heap) (n0 : Nat) (X00 : Old Z n0 h0) (x : Addr) (b : Addr) (k : ClassId) (hp0 : Exa Z h0 x "java/lang/String") (hp1 : Fld Z h0 x "java/lang/String" "value" "[B" .null) (hp2 : Fld Z h0 x "java/lang/String" "coder" "B" (.int (0 : Int32))) (hp3 : n0 ≤ x) (hp4 : Arv Z h0 b k .char (0 : Int32) [] (.int (0 : Int32))) :
    own_CH l Z M99 jdk_42_method_3_code 2 none ws R_si1_0 #[(.ref x), (.ref b)] h0 (Q_si1_0 Z G1 G3 x b k h0 n0) := by
  refine own_H (plainFor_of_name pn_61) ?_
  intro p e s m below meth c s₁ S0 Bd hZ hh CH0 hS0 CR0 hx hby hml hown hnm X0 e0 hS0d
  obtain ⟨O1, P1, O3f, rG3⟩ := id HG
  have hEL := own_EL hw
  have hSA := own_SA hw
  have N0 := Fr.nil n0
  have C0 : Steps p.tables e below S0 (s₁.setTop (mkF m 0 #[.val (.ref x), .val (.ref b)] [])) := by rw [hS0d]; exact castTop (ef_100 m x b) (Steps.refl _)
  obtain ⟨c_1, A_2, q_3, S_4, M_5, H_6, U_7⟩ := id hp4
  obtain ⟨_, _, ⟨T_8, L_8, k_8, n_8⟩, -, Y_8, S_8, G_8, ⟨Lc_8, hQ_8, l_8, y_8, z_8, R_8⟩, st_8⟩ := X0.specialBackS hx (y := M59) rfl hown (mvT hZ (w31 hw)) (mvT hZ (w32 hw)) (mvT hZ (w34 hw)) (by decide) (backOfSH (vm0 := s.vm) (W := 0) (rm_si4_0 l Z a0 hw [] G1 G3 HG h0 n0 X00 x b k hp0 hp1 hp2 hp3 hp4) hZ (w34 hw) (w27 hw) (by decide) (by decide) hEL CH0) (g := (mkF m 6 #[.val (.ref x), .val (.ref b)] [.null, (.int (0 : Int32)), (.int (0 : Int32)), (.ref b), (.ref x)])) rfl (by rw [hml]; rfl) (Steps.refl _) (a := x) (argsL := [(.ref b), (.int (0 : Int32)), (.int (0 : Int32)), .null]) (rest := []) (lenOf pd_109 rfl) rfl (by show 2 * 0 + _ ≤ _; exact Nat.le_of_eq rfl) (hb hby d4_6) (fun _ _ => ⟨rfl, e0, (by decide : 0 + 4 ≤ _), (by decide : 0 + 8 ≤ _)⟩)
  dsimp only [Pt.U, Pt.locs, Pt.cells, Pt.slots] at Y_8 S_8 G_8 l_8 y_8 z_8 st_8 hQ_8 R_8
  have Y_8 := own_cast Y_8 l_8 y_8 z_8
  obtain ⟨X_8, hS_8, hZ_8, hown_8⟩ := rebS hS0 (n1 := s₁.heap.size) (by rw [show s₁.heap = h0 from e0]; exact (Nat.le_refl _)) Y_8 S_8 G_8 hZ hown
  obtain ⟨a_9, k_10, rfl, N_11, K_12, g_13, g_14, g_15, g_16⟩ := hQ_8
  have N_17 := Fr.app N0 N_11
  have CH_18 : CHv Z consts_1 T_8.vm T_8.heap := R_8.1
  have CR_19 : CHr Z consts_1 s.vm h0 T_8.vm T_8.heap := CR0.trans R_8
  have C_20 : Steps p.tables e below S0 (T_8.setTop (mkF m 9 #[.val (.ref x), .val (.ref b)] [])) := by
    refine C0.trans ?_
    refine XS.aloadN X0.here hx rfl (hb hby d4_0) rfl rfl ?_
    refine XS.aloadN X0.here hx rfl (hb hby d4_1) rfl rfl ?_
    refine XS.iconst X0.here hx rfl (hb hby d4_2) ?_
    refine XS.aloadN X0.here hx rfl (hb hby d4_3) rfl rfl ?_
    refine X0.arraylength hx (by rw [e0]; exact A_2.1) (State.isArrayOf_alike hZ.alike A_2.2.1) (g := (mkF m 4 #[.val (.ref x), .val (.ref b)] [(.ref b), (.int (0 : Int32)), (.ref b), (.ref x)])) rfl rfl (hb hby d4_4) _ ?_
    rw [len_of S_4 M_5]
    refine XS.aconstNull X0.here hx rfl (hb hby d4_5) ?_
    refine st_8.trans ?_
    exact Steps.refl _
  have K_21 : Keep h0 T_8.heap [x] := ((Keep.refl _ _).trans K_12 (allS (Or.inl (List.mem_of_getElem? (i := 0) rfl)) all0))
  obtain ⟨fs, hr, hrun, hended, hRE⟩ := X_8.leaveW hS_8 (by rw [show T_8.heap = T_8.heap from rfl]; exact (Nat.le_refl _)) (v := none) (fun _ => rfl)
  refine ⟨_, _, C_20.trans (X_8.returnOut hx Bd.returns (hb hby d4_9) hr), hrun, hended, _, _, rfl, ?_, ?_, hRE.1, hRE.2.1, hRE.2.2.1, hRE.2.2.2.mono (by decide) (by decide)⟩
  · show Q_si1_0 Z G1 G3 x b k h0 n0 (none) T_8.heap _
    exact ⟨a_9, k_10, rfl, N_17, K_21, g_13, g_14, g_15, g_16⟩
  · show CHr Z consts_1 s.vm s.heap T_8.vm T_8.heap
    rw [hh]
    exact CR_19.trans (CHv.at X_8 hZ_8 hEL CH_18)
abbrev R_lenany : Room := { frames := 1, cells := 0, slots := 0, locals := 13 }
def Q_lenany (Z : State) (G1 : Int32) (G3 : Value) (x : Addr) (t : Addr) (kt : ClassId) (z : Int32) (bs : List Value) (h0 : Heap) (n0 : Nat) (v : Option Value) (h : Heap) (L : List Loc) : Prop := (v = some (.int (z >>> ((0 : Int32) &&& 31))) ∧ Fr n0 L ∧ h = h0)
set_option maxRecDepth 65536 in
set_option maxHeartbeats 40000000 in
theorem rm_lenany (l : Launch) (Z : State) (a0 : Array Value) (hw : ∀ d ∈ tables_1, d.before a0 Z = true) (ws : List Jvm.Cond) (G1 : Int32) (G3 : Value) (HG : own_G l Z a0 G1 G3) (h0 : Heap) (n0 : Nat) (X00 : Old Z n0 h0) (x : Addr) (t : Addr) (kt : ClassId) (z : Int32) (bs : List Value) (hp0 : Exa Z h0 x "java/lang/String") (hp1 : Fld Z h0 x "java/lang/String" "coder" "B" (.int (0 : Int32))) (hp2 : Fld Z h0 x "java/lang/String" "value" "[B" (.ref t)) (hp3 : Arv Z h0 t kt .byte z bs (.int (0 : Int32))) :
    own_CP l Z M131 jdk_42_method_54_code 1 (some .int) ws R_lenany #[(.ref x)] h0 (Q_lenany Z G1 G3 x t kt z bs h0 n0) := by
  refine own_P (plainFor_of_name pn_61) ?_
  intro p e s m below meth c s₁ S0 Bd hZ hh hx hby hml hown hnm X0 e0 hS0d
  obtain ⟨O1, P1, O3f, rG3⟩ := id HG
  have N0 := Fr.nil n0
  have C0 : Steps p.tables e below S0 (s₁.setTop (mkF m 0 #[.val (.ref x)] [])) := by rw [hS0d]; exact castTop (ef_115 m x) (Steps.refl _)
  obtain ⟨T_1, X_2, e_3, st_4⟩ := getF X0 hx hZ hown (host := "") (Or.inl (w44 hw)) Via.refl e0 hp2 (g := (mkF m 1 #[.val (.ref x)] [(.ref x)])) rfl rfl (hb hby d7_1)
  obtain ⟨c_5, A_6, q_7, S_8, M_9, H_10, U_11⟩ := id hp3
  obtain ⟨q_13, q_14, q_15, q_16, q_17⟩ := isOf (T := T_1) hZ e_3 hp0
  obtain ⟨_, _, ⟨T_12, L_12, k_12, n_12⟩, -, X_12, ⟨Lc_12, hQ_12, l_12, y_12, z_12⟩, st_12⟩ := X_2.virtualBack hx (y := M114) (z := M114) hown (mvT hZ (w55 hw)) (mvT hZ (w56 hw)) (notFace_of_selects (args := #[]) (mvT hZ (w58 hw))) (mvT hZ (w58 hw)) (mvT hZ (w57 hw)) (by decide) (backOf (W := 1) (rm_coder l Z a0 hw [] G1 G3 HG h0 n0 X00 x hp1) hZ (w59 hw) (w27 hw) (by decide) (by decide)) q_15 q_17 (g := (mkF m 6 #[.val (.ref x)] [(.ref x), (.int z)])) rfl (by rw [hml]; rfl) (Steps.refl _) (argsL := []) (rest := [(.int z)]) (lenOf pd_137 rfl) rfl (by show 2 * 0 + _ ≤ _; exact Nat.le_of_eq rfl) (hb hby d7_6) (fun _ _ => ⟨rfl, e_3, (by decide : 0 + 0 ≤ _), (by decide : 0 + 0 ≤ _)⟩)
  dsimp only [Pt.U, Pt.locs, Pt.cells, Pt.slots] at X_12 l_12 y_12 z_12 st_12 hQ_12
  have X_12 := own_cast X_12 l_12 y_12 z_12
  obtain ⟨rfl, N_18, e_19⟩ := hQ_12
  have N_20 := Fr.app N0 N_18
  have e_21 : T_12.heap = h0 := e_19
  have C_22 : Steps p.tables e below S0 (T_12.setTop (mkF m 10 #[.val (.ref x)] [(.int (z >>> ((0 : Int32) &&& 31)))])) := by
    refine C0.trans ?_
    refine XS.aloadN X0.here hx rfl (hb hby d7_0) rfl rfl ?_
    refine st_4 _ ?_
    refine X_2.arraylength hx (by rw [e_3]; exact A_6.1) (State.isArrayOf_alike hZ.alike A_6.2.1) (g := (mkF m 4 #[.val (.ref x)] [(.ref t)])) rfl rfl (hb hby d7_4) _ ?_
    rw [len_of S_8 M_9]
    refine XS.aloadN X_2.here hx rfl (hb hby d7_5) rfl rfl ?_
    refine st_12.trans ?_
    refine XS.ishr X_12.here hx rfl (hb hby d7_9) rfl ?_
    exact Steps.refl _
  obtain ⟨fs, hr, hrun, hended, hW, hsame⟩ := X_12.leave (v := some (.int (z >>> ((0 : Int32) &&& 31)))) (fun h => by rw [Bd.returns] at h; cases h)
  refine ⟨_, _, C_22.trans (retOut X_12 hx Bd.returns rfl (Or.inl ⟨rfl, Or.inl rfl, _, rfl⟩) (hb hby d7_10) hr), hrun, hended, _, _, rfl, ?_, ⟨_, rfl⟩, hW, hsame.mono (by decide) (by decide)⟩
  show Q_lenany Z G1 G3 x t kt z bs h0 n0 (some (.int (z >>> ((0 : Int32) &&& 31)))) T_12.heap _
  rw [e_21]
  exact ⟨rfl, N_20, rfl⟩
abbrev M216 : MethodName := ⟨"com/example/fleetyard/fleetyard/model/IdsValuePinLaw", "digit", "([JJII)J"⟩
theorem ef_217 (m : MethodId) (x0 : Addr) (x1 : Int64) (x2 : Int32) (x3 : Int32) : entryFrame m #[(.ref x0), (.long x1), (.int x2), (.int x3)] 5 = mkF m 0 #[.val (.ref x0), .val (.long x1), .second, .val (.int x2), .val (.int x3)] [] := by first | (simp [entryFrame, mkF, argsToLocals, Value.category]; done) | rfl
theorem pn_218 : plainName "com/example/fleetyard/fleetyard/model/IdsValuePinLaw" = true := by first | (simp [plainName, overriddenIn]; done) | decide +kernel
theorem d12_0 : decode method_2_code 0 = .ok (.lload_n 1, 1) := by decide +kernel
theorem d12_1 : decode method_2_code 1 = .ok (.aload_n 0, 1) := by decide +kernel
theorem d12_2 : decode method_2_code 2 = .ok (.iload_n 3, 1) := by decide +kernel
theorem d12_3 : decode method_2_code 3 = .ok (.iconst 1, 1) := by decide +kernel
theorem d12_4 : decode method_2_code 4 = .ok (.isub, 1) := by decide +kernel
theorem d12_5 : decode method_2_code 5 = .ok (.iload 4, 2) := by decide +kernel
theorem d12_7 : decode method_2_code 7 = .ok (.isub, 1) := by decide +kernel
theorem d12_8 : decode method_2_code 8 = .ok (.laload, 1) := by decide +kernel
theorem d12_9 : decode method_2_code 9 = .ok (.ldiv, 1) := by decide +kernel
theorem w1 {Z : State} {a0 : Array Value} (hw : ∀ d ∈ tables_1, d.before a0 Z = true) : Jvm.Cond.before (Jvm.Cond.constantLong "com/example/fleetyard/fleetyard/model/IdsValuePinLaw" (7 : Nat) (10 : Int64)) a0 Z = true := hw _ (List.mem_of_getElem? (i := 1) rfl)
theorem d12_10 : decode method_2_code 10 = .ok (.ldc2_w 7, 3) := by decide +kernel
theorem d12_13 : decode method_2_code 13 = .ok (.lrem, 1) := by decide +kernel
theorem d12_14 : decode method_2_code 14 = .ok (.lreturn, 1) := by decide +kernel
abbrev R_digit : Room := { frames := 0, cells := 0, slots := 0, locals := 0 }
def Q_digit (Z : State) (G1 : Int32) (G3 : Value) (t : Addr) (kt : ClassId) (yy : Int64) (nn : Int32) (ii : Int32) (h0 : Heap) (n0 : Nat) (v : Option Value) (h : Heap) (L : List Loc) : Prop := (v = some (.long (own_dig yy nn ii)) ∧ Fr n0 L ∧ h = h0)
set_option maxRecDepth 65536 in
set_option maxHeartbeats 40000000 in
theorem rm_digit (l : Launch) (Z : State) (a0 : Array Value) (hw : ∀ d ∈ tables_1, d.before a0 Z = true) (ws : List Jvm.Cond) (G1 : Int32) (G3 : Value) (HG : own_G l Z a0 G1 G3) (h0 : Heap) (n0 : Nat) (X00 : Old Z n0 h0) (t : Addr) (kt : ClassId) (yy : Int64) (nn : Int32) (ii : Int32) (hp0 : Arv Z h0 t kt .long (19 : Int32) (own_jv own_pws) (.long (0 : Int64))) (hi0 : ¬ (ii < (0 : Int32))) (hi1 : ii < nn) (h19 : ¬ ((19 : Int32) < nn)) :
    own_CP l Z M216 method_2_code 5 (some .long) ws R_digit #[(.ref t), (.long yy), (.int nn), (.int ii)] h0 (Q_digit Z G1 G3 t kt yy nn ii h0 n0) := by
  refine own_P (plainFor_of_name pn_218) ?_
  intro p e s m below meth c s₁ S0 Bd hZ hh hx hby hml hown hnm X0 e0 hS0d
  obtain ⟨O1, P1, O3f, rG3⟩ := id HG
  have N0 := Fr.nil n0
  have C0 : Steps p.tables e below S0 (s₁.setTop (mkF m 0 #[.val (.ref t), .val (.long yy), .second, .val (.int nn), .val (.int ii)] [])) := by rw [hS0d]; exact castTop (ef_217 m t yy nn ii) (Steps.refl _)
  obtain ⟨c_1, A_2, q_3, S_4, M_5, H_6, U_7⟩ := id hp0
  have hin_8 : ¬ (((nn - (1 : Int32)) - ii) < 0 ∨ c_1.slots.size ≤ ((nn - (1 : Int32)) - ii).toNatClampNeg) := inb_of S_4 ⟨(own_sub_nat hi0 hi1).2.1, (own_lt19 hi0 hi1 h19).2.1⟩
  have hat_9 : c_1.slots[((nn - (1 : Int32)) - ii).toNatClampNeg]? = some (.long (own_gj own_pws ((nn - (1 : Int32)) - ii))) := Has.at H_6 hin_8 (own_jv_at own_pws ((nn - (1 : Int32)) - ii))
  have C_10 : Steps p.tables e below S0 (s₁.setTop (mkF m 14 #[.val (.ref t), .val (.long yy), .second, .val (.int nn), .val (.int ii)] [(.long ((yy / (own_gj own_pws ((nn - (1 : Int32)) - ii))) - ((yy / (own_gj own_pws ((nn - (1 : Int32)) - ii))) / (10 : Int64)) * (10 : Int64)))])) := by
    refine C0.trans ?_
    refine XS.lloadN X0.here hx rfl (hb hby d12_0) rfl ?_
    refine XS.aloadN X0.here hx rfl (hb hby d12_1) rfl rfl ?_
    refine XS.iloadN X0.here hx rfl (hb hby d12_2) rfl ?_
    refine XS.iconst X0.here hx rfl (hb hby d12_3) ?_
    refine XS.isub X0.here hx rfl (hb hby d12_4) rfl ?_
    refine XS.iload X0.here hx rfl (hb hby d12_5) rfl ?_
    refine XS.isub X0.here hx rfl (hb hby d12_7) rfl ?_
    refine X0.laload hx (j := ((nn - (1 : Int32)) - ii)) (v := (.long (own_gj own_pws ((nn - (1 : Int32)) - ii)))) (by rw [e0]; exact A_2.1) (State.isArrayOf_alike hZ.alike A_2.2.1) A_2.2.2 hin_8 hat_9 (g := (mkF m 8 #[.val (.ref t), .val (.long yy), .second, .val (.int nn), .val (.int ii)] [(.int ((nn - (1 : Int32)) - ii)), (.ref t), (.long yy)])) rfl rfl (hb hby d12_8) _ ?_
    show Steps p.tables e below (s₁.setTop (mkF m 9 #[.val (.ref t), .val (.long yy), .second, .val (.int nn), .val (.int ii)] [(.long (own_gj own_pws ((nn - (1 : Int32)) - ii))), (.long yy)])) _
    refine XS.ldiv X0.here hx rfl (hb hby d12_9) rfl (own_pnz (own_lt19 hi0 hi1 h19).1) ?_
    refine X0.ldc2J hx hown (mvT hZ (w1 hw)) rfl (hb hby d12_10) ?_
    refine XS.lrem X0.here hx rfl (hb hby d12_13) rfl (by decide) ?_
    exact Steps.refl _
  obtain ⟨fs, hr, hrun, hended, hW, hsame⟩ := X0.leave (v := some (.long ((yy / (own_gj own_pws ((nn - (1 : Int32)) - ii))) - ((yy / (own_gj own_pws ((nn - (1 : Int32)) - ii))) / (10 : Int64)) * (10 : Int64)))) (fun h => by rw [Bd.returns] at h; cases h)
  refine ⟨_, _, C_10.trans (retOut X0 hx Bd.returns rfl (Or.inr (Or.inl ⟨rfl, rfl, _, rfl⟩)) (hb hby d12_14) hr), hrun, hended, _, _, rfl, ?_, ⟨_, rfl⟩, hW, hsame.mono (by decide) (by decide)⟩
  show Q_digit Z G1 G3 t kt yy nn ii h0 n0 (some (.long ((yy / (own_gj own_pws ((nn - (1 : Int32)) - ii))) - ((yy / (own_gj own_pws ((nn - (1 : Int32)) - ii))) / (10 : Int64)) * (10 : Int64)))) s₁.heap _
  rw [e0]
  exact ⟨rfl, N0, rfl⟩
abbrev M232 : MethodName := ⟨"com/example/fleetyard/fleetyard/model/IdsValuePinLaw", "put", "([C[JJI)V"⟩
theorem ef_233 (m : MethodId) (x0 : Addr) (x1 : Addr) (x2 : Int64) (x3 : Int32) : entryFrame m #[(.ref x0), (.ref x1), (.long x2), (.int x3)] 5 = mkF m 0 #[.val (.ref x0), .val (.ref x1), .val (.long x2), .second, .val (.int x3)] [] := by first | (simp [entryFrame, mkF, argsToLocals, Value.category]; done) | rfl
theorem d13_0 : decode method_3_code 0 = .ok (.iload 4, 2) := by decide +kernel
theorem d13_2 : decode method_3_code 2 = .ok (.aload_n 0, 1) := by decide +kernel
theorem d13_3 : decode method_3_code 3 = .ok (.arraylength, 1) := by decide +kernel
theorem d13_4 : decode method_3_code 4 = .ok (.if_icmp .ge 21, 3) := by decide +kernel
theorem d13_7 : decode method_3_code 7 = .ok (.aload_n 0, 1) := by decide +kernel
theorem d13_8 : decode method_3_code 8 = .ok (.iload 4, 2) := by decide +kernel
theorem d13_10 : decode method_3_code 10 = .ok (.bipush 48, 2) := by decide +kernel
theorem d13_12 : decode method_3_code 12 = .ok (.aload_n 1, 1) := by decide +kernel
theorem d13_13 : decode method_3_code 13 = .ok (.lload_n 2, 1) := by decide +kernel
theorem d13_14 : decode method_3_code 14 = .ok (.aload_n 0, 1) := by decide +kernel
theorem d13_15 : decode method_3_code 15 = .ok (.arraylength, 1) := by decide +kernel
theorem d13_16 : decode method_3_code 16 = .ok (.iload 4, 2) := by decide +kernel
theorem w65 {Z : State} {a0 : Array Value} (hw : ∀ d ∈ tables_1, d.before a0 Z = true) : Jvm.Cond.before (Jvm.Cond.code ({ cls := "com/example/fleetyard/fleetyard/model/IdsValuePinLaw", name := "digit", desc := "([JJII)J" } : Jvm.MethodName) method_2_code (5 : Nat) (Option.some Jvm.ClassFile.FieldType.long)) a0 Z = true := hw _ (List.mem_of_getElem? (i := 65) rfl)
theorem w23 {Z : State} {a0 : Array Value} (hw : ∀ d ∈ tables_1, d.before a0 Z = true) : Jvm.Cond.before (Jvm.Cond.initialized "com/example/fleetyard/fleetyard/model/IdsValuePinLaw") a0 Z = true := hw _ (List.mem_of_getElem? (i := 23) rfl)
theorem pd_248 : parseMethodDescriptor "([JJII)J" = some ⟨[(.array .long), .long, .int, .int], some .long⟩ := by decide +kernel
theorem d13_18 : decode method_3_code 18 = .ok (.invokestatic 9, 3) := by decide +kernel
theorem w63 {Z : State} {a0 : Array Value} (hw : ∀ d ∈ tables_1, d.before a0 Z = true) : Jvm.Cond.before (Jvm.Cond.methodLink "com/example/fleetyard/fleetyard/model/IdsValuePinLaw" (9 : Nat) ({ cls := "com/example/fleetyard/fleetyard/model/IdsValuePinLaw", name := "digit", desc := "([JJII)J" } : Jvm.MethodName)) a0 Z = true := hw _ (List.mem_of_getElem? (i := 63) rfl)
theorem w64 {Z : State} {a0 : Array Value} (hw : ∀ d ∈ tables_1, d.before a0 Z = true) : Jvm.Cond.before (Jvm.Cond.static ({ cls := "com/example/fleetyard/fleetyard/model/IdsValuePinLaw", name := "digit", desc := "([JJII)J" } : Jvm.MethodName)) a0 Z = true := hw _ (List.mem_of_getElem? (i := 64) rfl)
theorem d13_21 : decode method_3_code 21 = .ok (.l2i, 1) := by decide +kernel
theorem d13_22 : decode method_3_code 22 = .ok (.iadd, 1) := by decide +kernel
theorem d13_23 : decode method_3_code 23 = .ok (.i2c, 1) := by decide +kernel
theorem d13_24 : decode method_3_code 24 = .ok (.castore, 1) := by decide +kernel
theorem d13_25 : decode method_3_code 25 = .ok (.return_, 1) := by decide +kernel
abbrev R_put : Room := { frames := 1, cells := 0, slots := 0, locals := 19 }
def Q_put (Z : State) (G1 : Int32) (G3 : Value) (b : Addr) (k : ClassId) (t : Addr) (kt : ClassId) (yy : Int64) (nn : Int32) (ii : Int32) (ki : Nat) (h0 : Heap) (n0 : Nat) (v : Option Value) (h : Heap) (L : List Loc) : Prop := (v = none ∧ Fr n0 L ∧ Keep h0 h [b] ∧ (Arv Z h b k .char nn (own_iv (own_fl yy nn (ki + 1))) (.int (0 : Int32))))
set_option maxRecDepth 65536 in
set_option maxHeartbeats 40000000 in
theorem rm_put (l : Launch) (Z : State) (a0 : Array Value) (hw : ∀ d ∈ tables_1, d.before a0 Z = true) (ws : List Jvm.Cond) (G1 : Int32) (G3 : Value) (HG : own_G l Z a0 G1 G3) (h0 : Heap) (n0 : Nat) (X00 : Old Z n0 h0) (b : Addr) (k : ClassId) (t : Addr) (kt : ClassId) (yy : Int64) (nn : Int32) (ii : Int32) (ki : Nat) (hp0 : Arv Z h0 b k .char nn (own_iv (own_fl yy nn ki)) (.int (0 : Int32))) (hp1 : Arv Z h0 t kt .long (19 : Int32) (own_jv own_pws) (.long (0 : Int64))) (hp2 : n0 ≤ b) (hy : ¬ (yy < (0 : Int64))) (hi0 : ¬ (ii < (0 : Int32))) (h19 : ¬ ((19 : Int32) < nn)) (hk : ii.toNatClampNeg = ki) :
    own_CP l Z M232 method_3_code 5 none ws R_put #[(.ref b), (.ref t), (.long yy), (.int ii)] h0 (Q_put Z G1 G3 b k t kt yy nn ii ki h0 n0) := by
  refine own_P (plainFor_of_name pn_218) ?_
  intro p e s m below meth c s₁ S0 Bd hZ hh hx hby hml hown hnm X0 e0 hS0d
  obtain ⟨O1, P1, O3f, rG3⟩ := id HG
  have N0 := Fr.nil n0
  have C0 : Steps p.tables e below S0 (s₁.setTop (mkF m 0 #[.val (.ref b), .val (.ref t), .val (.long yy), .second, .val (.int ii)] [])) := by rw [hS0d]; exact castTop (ef_233 m b t yy ii) (Steps.refl _)
  obtain ⟨c_1, A_2, q_3, S_4, M_5, H_6, U_7⟩ := id hp0
  have C_8 : Steps p.tables e below S0 (s₁.setTop (mkF m 4 #[.val (.ref b), .val (.ref t), .val (.long yy), .second, .val (.int ii)] [(.int nn), (.int ii)])) := by
    refine C0.trans ?_
    refine XS.iload X0.here hx rfl (hb hby d13_0) rfl ?_
    refine XS.aloadN X0.here hx rfl (hb hby d13_2) rfl rfl ?_
    refine X0.arraylength hx (by rw [e0]; exact A_2.1) (State.isArrayOf_alike hZ.alike A_2.2.1) (g := (mkF m 3 #[.val (.ref b), .val (.ref t), .val (.long yy), .second, .val (.int ii)] [(.ref b), (.int ii)])) rfl rfl (hb hby d13_3) _ ?_
    rw [len_of S_4 M_5]
    exact Steps.refl _
  by_cases hc_9 : ii < nn
  · skip
    obtain ⟨c_10, A_11, q_12, S_13, M_14, H_15, U_16⟩ := id hp0
    obtain ⟨_, _, ⟨T_17, L_17, k_17, n_17⟩, -, X_17, ⟨Lc_17, hQ_17, l_17, y_17, z_17⟩, st_17⟩ := Jvm.LawKit.callS X0 hx (y := M216) hown (mvT hZ (w63 hw)) (mvT hZ (w64 hw)) (mvT hZ (w23 hw)) (mvT hZ (w65 hw)) (by decide) (backOf (W := 3) (rm_digit l Z a0 hw [] G1 G3 HG h0 n0 X00 t kt yy nn ii hp1 hi0 hc_9 h19) hZ (w65 hw) (w23 hw) (by decide) (by decide)) (g := (mkF m 18 #[.val (.ref b), .val (.ref t), .val (.long yy), .second, .val (.int ii)] [(.int ii), (.int nn), (.long yy), (.ref t), (.int (48 : Int32)), (.int ii), (.ref b)])) rfl (by rw [hml]; rfl) (argsL := [(.ref t), (.long yy), (.int nn), (.int ii)]) (rest := [(.int (48 : Int32)), (.int ii), (.ref b)]) (lenOf pd_248 rfl) rfl (by show 2 * 0 + _ ≤ _; exact Nat.le_of_eq rfl) (hb hby d13_18) (fun _ _ => ⟨rfl, e0, (by decide : 0 + 0 ≤ _), (by decide : 0 + 0 ≤ _)⟩)
    dsimp only [Pt.U, Pt.locs, Pt.cells, Pt.slots] at X_17 l_17 y_17 z_17 st_17 hQ_17
    have X_17 := own_cast X_17 l_17 y_17 z_17
    obtain ⟨rfl, N_18, e_19⟩ := hQ_17
    have N_20 := Fr.app N0 N_18
    have e_21 : T_17.heap = h0 := e_19
    obtain ⟨c_22, A_23, q_24, S_25, M_26, H_27, U_28⟩ := id hp0
    have hin_35 : ¬ (ii < 0 ∨ c_22.slots.size ≤ ii.toNatClampNeg) := inb_of S_25 ⟨hi0, hc_9⟩
    obtain ⟨T_29, h_30, X_31, e_32, W_33, st_34⟩ := stC X_17 hx hZ e_21 A_23 (j := ii) hin_35 (g := (mkF m 24 #[.val (.ref b), .val (.ref t), .val (.long yy), .second, .val (.int ii)] [(.int (own_dcr yy nn ii)), (.int ii), (.ref b)])) rfl rfl (hb hby d13_24)
    have N_36 := Fr.snoc X_31 N_20 hp2
    have V_37 : Arv Z h_30 b k .char nn (own_iv ((own_fl yy nn ki).set ii.toNatClampNeg (nar .char (own_dcr yy nn ii)))) (.int (0 : Int32)) := own_iv_set (Arv.set A_23 q_24 S_25 M_26 H_27 U_28 (fits_nar_char _) W_33 ii.toNatClampNeg rfl (own_ix (own_fllen yy nn ki) hi0 hc_9))
    rw [own_flsetn hy hi0 hc_9 h19 hk] at V_37
    have C_38 : Steps p.tables e below S0 (T_29.setTop (mkF m 25 #[.val (.ref b), .val (.ref t), .val (.long yy), .second, .val (.int ii)] [])) := by
      refine C_8.trans ?_
      refine XS.icmpNo X0.here hx rfl (hb hby d13_4) rfl (ii_ge_f hc_9) ?_
      refine XS.aloadN X0.here hx rfl (hb hby d13_7) rfl rfl ?_
      refine XS.iload X0.here hx rfl (hb hby d13_8) rfl ?_
      refine XS.bipush X0.here hx rfl (hb hby d13_10) ?_
      refine XS.aloadN X0.here hx rfl (hb hby d13_12) rfl rfl ?_
      refine XS.lloadN X0.here hx rfl (hb hby d13_13) rfl ?_
      refine XS.aloadN X0.here hx rfl (hb hby d13_14) rfl rfl ?_
      refine X0.arraylength hx (by rw [e0]; exact A_11.1) (State.isArrayOf_alike hZ.alike A_11.2.1) (g := (mkF m 15 #[.val (.ref b), .val (.ref t), .val (.long yy), .second, .val (.int ii)] [(.ref b), (.long yy), (.ref t), (.int (48 : Int32)), (.int ii), (.ref b)])) rfl rfl (hb hby d13_15) _ ?_
      rw [len_of S_13 M_14]
      show Steps p.tables e below (s₁.setTop (mkF m 16 #[.val (.ref b), .val (.ref t), .val (.long yy), .second, .val (.int ii)] [(.int nn), (.long yy), (.ref t), (.int (48 : Int32)), (.int ii), (.ref b)])) _
      refine XS.iload X0.here hx rfl (hb hby d13_16) rfl ?_
      refine st_17 _ ?_
      refine XS.l2i X_17.here hx rfl (hb hby d13_21) rfl ?_
      refine XS.iadd X_17.here hx rfl (hb hby d13_22) rfl ?_
      refine XS.i2c X_17.here hx rfl (hb hby d13_23) rfl ?_
      refine st_34 _ ?_
      exact Steps.refl _
    have K_39 : Keep h0 h_30 [b] := ((Keep.refl _ _).wr W_33 (Or.inl (List.mem_of_getElem? (i := 0) rfl)))
    obtain ⟨fs, hr, hrun, hended, hW, hsame⟩ := X_31.leave (v := none) (fun _ => rfl)
    refine ⟨_, _, C_38.trans (X_31.returnOut hx Bd.returns (hb hby d13_25) hr), hrun, hended, _, _, rfl, ?_, ⟨_, rfl⟩, hW, hsame.mono (by decide) (by decide)⟩
    show Q_put Z G1 G3 b k t kt yy nn ii ki h0 n0 (none) T_29.heap _
    rw [e_32]
    exact ⟨rfl, N_36, K_39, V_37⟩
  · skip
    have C_40 : Steps p.tables e below S0 (s₁.setTop (mkF m 25 #[.val (.ref b), .val (.ref t), .val (.long yy), .second, .val (.int ii)] [])) := by
      refine C_8.trans ?_
      refine XS.icmpYes X0.here hx rfl (pc0 := 4) (pc' := 25) rfl (hb hby d13_4) rfl (ii_ge_t hc_9) (by decide) (by decide) ?_
      exact Steps.refl _
    have K_41 : Keep h0 h0 [b] := (Keep.refl _ _)
    obtain ⟨fs, hr, hrun, hended, hW, hsame⟩ := X0.leave (v := none) (fun _ => rfl)
    refine ⟨_, _, C_40.trans (X0.returnOut hx Bd.returns (hb hby d13_25) hr), hrun, hended, _, _, rfl, ?_, ⟨_, rfl⟩, hW, hsame.mono (by decide) (by decide)⟩
    show Q_put Z G1 G3 b k t kt yy nn ii ki h0 n0 (none) s₁.heap _
    rw [e0]
    exact ⟨rfl, N0, K_41, (by rw [own_flge hi0 hc_9 hk]; exact hp0)⟩
abbrev R_put0 : Room := { frames := 0, cells := 0, slots := 0, locals := 0 }
def Q_put0 (Z : State) (G1 : Int32) (G3 : Value) (b : Addr) (k : ClassId) (t : Addr) (yy : Int64) (ii : Int32) (h0 : Heap) (n0 : Nat) (v : Option Value) (h : Heap) (L : List Loc) : Prop := (v = none ∧ Fr n0 L ∧ h = h0)
set_option maxRecDepth 65536 in
set_option maxHeartbeats 40000000 in
theorem rm_put0 (l : Launch) (Z : State) (a0 : Array Value) (hw : ∀ d ∈ tables_1, d.before a0 Z = true) (ws : List Jvm.Cond) (G1 : Int32) (G3 : Value) (HG : own_G l Z a0 G1 G3) (h0 : Heap) (n0 : Nat) (X00 : Old Z n0 h0) (b : Addr) (k : ClassId) (t : Addr) (yy : Int64) (ii : Int32) (hp0 : Arv Z h0 b k .char (0 : Int32) [] (.int (0 : Int32))) (hi0 : ¬ (ii < (0 : Int32))) :
    own_CP l Z M232 method_3_code 5 none ws R_put0 #[(.ref b), (.ref t), (.long yy), (.int ii)] h0 (Q_put0 Z G1 G3 b k t yy ii h0 n0) := by
  refine own_P (plainFor_of_name pn_218) ?_
  intro p e s m below meth c s₁ S0 Bd hZ hh hx hby hml hown hnm X0 e0 hS0d
  obtain ⟨O1, P1, O3f, rG3⟩ := id HG
  have N0 := Fr.nil n0
  have C0 : Steps p.tables e below S0 (s₁.setTop (mkF m 0 #[.val (.ref b), .val (.ref t), .val (.long yy), .second, .val (.int ii)] [])) := by rw [hS0d]; exact castTop (ef_233 m b t yy ii) (Steps.refl _)
  obtain ⟨c_1, A_2, q_3, S_4, M_5, H_6, U_7⟩ := id hp0
  have C_8 : Steps p.tables e below S0 (s₁.setTop (mkF m 25 #[.val (.ref b), .val (.ref t), .val (.long yy), .second, .val (.int ii)] [])) := by
    refine C0.trans ?_
    refine XS.iload X0.here hx rfl (hb hby d13_0) rfl ?_
    refine XS.aloadN X0.here hx rfl (hb hby d13_2) rfl rfl ?_
    refine X0.arraylength hx (by rw [e0]; exact A_2.1) (State.isArrayOf_alike hZ.alike A_2.2.1) (g := (mkF m 3 #[.val (.ref b), .val (.ref t), .val (.long yy), .second, .val (.int ii)] [(.ref b), (.int ii)])) rfl rfl (hb hby d13_3) _ ?_
    rw [len_of S_4 M_5]
    refine XS.icmpYes X0.here hx rfl (pc0 := 4) (pc' := 25) rfl (hb hby d13_4) rfl (ii_ge_t hi0) (by decide) (by decide) ?_
    exact Steps.refl _
  obtain ⟨fs, hr, hrun, hended, hW, hsame⟩ := X0.leave (v := none) (fun _ => rfl)
  refine ⟨_, _, C_8.trans (X0.returnOut hx Bd.returns (hb hby d13_25) hr), hrun, hended, _, _, rfl, ?_, ⟨_, rfl⟩, hW, hsame.mono (by decide) (by decide)⟩
  show Q_put0 Z G1 G3 b k t yy ii h0 n0 (none) s₁.heap _
  rw [e0]
  exact ⟨rfl, N0, rfl⟩
abbrev M257 : MethodName := ⟨"com/example/fleetyard/fleetyard/model/IdsValuePinLaw", "isDigit", "(C)Z"⟩
theorem ef_258 (m : MethodId) (x0 : Int32) : entryFrame m #[(.int x0)] 1 = mkF m 0 #[.val (.int x0)] [] := by first | (simp [entryFrame, mkF, argsToLocals, Value.category]; done) | rfl
theorem d14_0 : decode method_4_code 0 = .ok (.iload_n 0, 1) := by decide +kernel
theorem d14_1 : decode method_4_code 1 = .ok (.bipush 48, 2) := by decide +kernel
theorem d14_3 : decode method_4_code 3 = .ok (.if_icmp .lt 13, 3) := by decide +kernel
theorem d14_16 : decode method_4_code 16 = .ok (.iconst 0, 1) := by decide +kernel
theorem d14_17 : decode method_4_code 17 = .ok (.ireturn, 1) := by decide +kernel
theorem d14_6 : decode method_4_code 6 = .ok (.iload_n 0, 1) := by decide +kernel
theorem d14_7 : decode method_4_code 7 = .ok (.bipush 57, 2) := by decide +kernel
theorem d14_9 : decode method_4_code 9 = .ok (.if_icmp .gt 7, 3) := by decide +kernel
theorem d14_12 : decode method_4_code 12 = .ok (.iconst 1, 1) := by decide +kernel
theorem d14_13 : decode method_4_code 13 = .ok (.goto 4, 3) := by decide +kernel
abbrev R_isdg : Room := { frames := 0, cells := 0, slots := 0, locals := 0 }
def Q_isdg (Z : State) (G1 : Int32) (G3 : Value) (cc : Int32) (h0 : Heap) (n0 : Nat) (v : Option Value) (h : Heap) (L : List Loc) : Prop := (v = some (.int (1 : Int32)) ∧ Fr n0 L ∧ h = h0 ∧ (own_isd cc = true)) ∨ (v = some (.int (0 : Int32)) ∧ Fr n0 L ∧ h = h0 ∧ (own_isd cc = false))
set_option maxRecDepth 65536 in
set_option maxHeartbeats 40000000 in
theorem rm_isdg (l : Launch) (Z : State) (a0 : Array Value) (hw : ∀ d ∈ tables_1, d.before a0 Z = true) (ws : List Jvm.Cond) (G1 : Int32) (G3 : Value) (HG : own_G l Z a0 G1 G3) (h0 : Heap) (n0 : Nat) (X00 : Old Z n0 h0) (cc : Int32)  :
    own_CP l Z M257 method_4_code 1 (some .boolean) ws R_isdg #[(.int cc)] h0 (Q_isdg Z G1 G3 cc h0 n0) := by
  refine own_P (plainFor_of_name pn_218) ?_
  intro p e s m below meth c s₁ S0 Bd hZ hh hx hby hml hown hnm X0 e0 hS0d
  obtain ⟨O1, P1, O3f, rG3⟩ := id HG
  have N0 := Fr.nil n0
  have C0 : Steps p.tables e below S0 (s₁.setTop (mkF m 0 #[.val (.int cc)] [])) := by rw [hS0d]; exact castTop (ef_258 m cc) (Steps.refl _)
  have C_1 : Steps p.tables e below S0 (s₁.setTop (mkF m 3 #[.val (.int cc)] [(.int (48 : Int32)), (.int cc)])) := by
    refine C0.trans ?_
    refine XS.iloadN X0.here hx rfl (hb hby d14_0) rfl ?_
    refine XS.bipush X0.here hx rfl (hb hby d14_1) ?_
    exact Steps.refl _
  by_cases hc_2 : cc < (48 : Int32)
  · skip
    have C_3 : Steps p.tables e below S0 (s₁.setTop (mkF m 17 #[.val (.int cc)] [(.int (0 : Int32))])) := by
      refine C_1.trans ?_
      refine XS.icmpYes X0.here hx rfl (pc0 := 3) (pc' := 16) rfl (hb hby d14_3) rfl (ii_lt_t hc_2) (by decide) (by decide) ?_
      refine XS.iconst X0.here hx rfl (hb hby d14_16) ?_
      exact Steps.refl _
    obtain ⟨fs, hr, hrun, hended, hW, hsame⟩ := X0.leave (v := some (.int (0 : Int32))) (fun h => by rw [Bd.returns] at h; cases h)
    refine ⟨_, _, C_3.trans (retN X0 hx (t := .boolean) Bd.returns (by simp) (hb hby d14_17) hr), hrun, hended, _, _, rfl, ?_, ⟨_, rfl⟩, hW, hsame.mono (by decide) (by decide)⟩
    show Q_isdg Z G1 G3 cc h0 n0 (some (.int (0 : Int32))) s₁.heap _
    rw [e0]
    exact Or.inr (⟨rfl, N0, rfl, (own_isdF1 hc_2)⟩)
  · skip
    have C_4 : Steps p.tables e below S0 (s₁.setTop (mkF m 9 #[.val (.int cc)] [(.int (57 : Int32)), (.int cc)])) := by
      refine C_1.trans ?_
      refine XS.icmpNo X0.here hx rfl (hb hby d14_3) rfl (ii_lt_f hc_2) ?_
      refine XS.iloadN X0.here hx rfl (hb hby d14_6) rfl ?_
      refine XS.bipush X0.here hx rfl (hb hby d14_7) ?_
      exact Steps.refl _
    by_cases hc_5 : (57 : Int32) < cc
    · skip
      have C_6 : Steps p.tables e below S0 (s₁.setTop (mkF m 17 #[.val (.int cc)] [(.int (0 : Int32))])) := by
        refine C_4.trans ?_
        refine XS.icmpYes X0.here hx rfl (pc0 := 9) (pc' := 16) rfl (hb hby d14_9) rfl (ii_gt_t hc_5) (by decide) (by decide) ?_
        refine XS.iconst X0.here hx rfl (hb hby d14_16) ?_
        exact Steps.refl _
      obtain ⟨fs, hr, hrun, hended, hW, hsame⟩ := X0.leave (v := some (.int (0 : Int32))) (fun h => by rw [Bd.returns] at h; cases h)
      refine ⟨_, _, C_6.trans (retN X0 hx (t := .boolean) Bd.returns (by simp) (hb hby d14_17) hr), hrun, hended, _, _, rfl, ?_, ⟨_, rfl⟩, hW, hsame.mono (by decide) (by decide)⟩
      show Q_isdg Z G1 G3 cc h0 n0 (some (.int (0 : Int32))) s₁.heap _
      rw [e0]
      exact Or.inr (⟨rfl, N0, rfl, (own_isdF2 hc_5)⟩)
    · skip
      have C_7 : Steps p.tables e below S0 (s₁.setTop (mkF m 17 #[.val (.int cc)] [(.int (1 : Int32))])) := by
        refine C_4.trans ?_
        refine XS.icmpNo X0.here hx rfl (hb hby d14_9) rfl (ii_gt_f hc_5) ?_
        refine XS.iconst X0.here hx rfl (hb hby d14_12) ?_
        refine XS.goto X0.here hx rfl (pc0 := 13) (pc' := 17) rfl (hb hby d14_13) (by decide) (by decide) ?_
        exact Steps.refl _
      obtain ⟨fs, hr, hrun, hended, hW, hsame⟩ := X0.leave (v := some (.int (1 : Int32))) (fun h => by rw [Bd.returns] at h; cases h)
      refine ⟨_, _, C_7.trans (retN X0 hx (t := .boolean) Bd.returns (by simp) (hb hby d14_17) hr), hrun, hended, _, _, rfl, ?_, ⟨_, rfl⟩, hW, hsame.mono (by decide) (by decide)⟩
      show Q_isdg Z G1 G3 cc h0 n0 (some (.int (1 : Int32))) s₁.heap _
      rw [e0]
      exact Or.inl ⟨rfl, N0, rfl, (own_isdT hc_2 hc_5)⟩
abbrev M269 : MethodName := ⟨"com/example/fleetyard/fleetyard/model/Ids", "value", "(Ljava/lang/String;)J"⟩
theorem ef_270 (m : MethodId) (x0 : Addr) : entryFrame m #[(.ref x0)] 6 = mkF m 0 #[.val (.ref x0), .unset, .unset, .unset, .unset, .unset] [] := by first | (simp [entryFrame, mkF, argsToLocals, Value.category]; done) | rfl
theorem pn_271 : plainName "com/example/fleetyard/fleetyard/model/Ids" = true := by first | (simp [plainName, overriddenIn]; done) | decide +kernel
theorem d15_0 : decode prog_30_method_3_code 0 = .ok (.aload_n 0, 1) := by decide +kernel
theorem w54 {Z : State} {a0 : Array Value} (hw : ∀ d ∈ tables_1, d.before a0 Z = true) : Jvm.Cond.before (Jvm.Cond.code ({ cls := "java/lang/String", name := "length", desc := "()I" } : Jvm.MethodName) jdk_42_method_54_code (1 : Nat) (Option.some Jvm.ClassFile.FieldType.int)) a0 Z = true := hw _ (List.mem_of_getElem? (i := 54) rfl)
theorem pd_274 : parseMethodDescriptor "()I" = some ⟨[], some .int⟩ := by decide +kernel
theorem d15_1 : decode prog_30_method_3_code 1 = .ok (.invokevirtual 17, 3) := by decide +kernel
theorem w50 {Z : State} {a0 : Array Value} (hw : ∀ d ∈ tables_1, d.before a0 Z = true) : Jvm.Cond.before (Jvm.Cond.methodLink "com/example/fleetyard/fleetyard/model/Ids" (17 : Nat) ({ cls := "java/lang/String", name := "length", desc := "()I" } : Jvm.MethodName)) a0 Z = true := hw _ (List.mem_of_getElem? (i := 50) rfl)
theorem w53 {Z : State} {a0 : Array Value} (hw : ∀ d ∈ tables_1, d.before a0 Z = true) : Jvm.Cond.before (Jvm.Cond.selects "java/lang/String" ({ cls := "java/lang/String", name := "length", desc := "()I" } : Jvm.MethodName) ({ cls := "java/lang/String", name := "length", desc := "()I" } : Jvm.MethodName)) a0 Z = true := hw _ (List.mem_of_getElem? (i := 53) rfl)
theorem w52 {Z : State} {a0 : Array Value} (hw : ∀ d ∈ tables_1, d.before a0 Z = true) : Jvm.Cond.before (Jvm.Cond.instanceMethod ({ cls := "java/lang/String", name := "length", desc := "()I" } : Jvm.MethodName)) a0 Z = true := hw _ (List.mem_of_getElem? (i := 52) rfl)
theorem w51 {Z : State} {a0 : Array Value} (hw : ∀ d ∈ tables_1, d.before a0 Z = true) : Jvm.Cond.before (Jvm.Cond.declares ({ cls := "java/lang/String", name := "length", desc := "()I" } : Jvm.MethodName)) a0 Z = true := hw _ (List.mem_of_getElem? (i := 51) rfl)
theorem d15_4 : decode prog_30_method_3_code 4 = .ok (.istore_n 1, 1) := by decide +kernel
theorem d15_5 : decode prog_30_method_3_code 5 = .ok (.iload_n 1, 1) := by decide +kernel
theorem d15_6 : decode prog_30_method_3_code 6 = .ok (.ifCond .eq 24, 3) := by decide +kernel
theorem w61 {Z : State} {a0 : Array Value} (hw : ∀ d ∈ tables_1, d.before a0 Z = true) : Jvm.Cond.before (Jvm.Cond.constantLong "com/example/fleetyard/fleetyard/model/Ids" (37 : Nat) (-1 : Int64)) a0 Z = true := hw _ (List.mem_of_getElem? (i := 61) rfl)
theorem d15_30 : decode prog_30_method_3_code 30 = .ok (.ldc2_w 37, 3) := by decide +kernel
theorem d15_33 : decode prog_30_method_3_code 33 = .ok (.lreturn, 1) := by decide +kernel
theorem d15_9 : decode prog_30_method_3_code 9 = .ok (.iload_n 1, 1) := by decide +kernel
theorem d15_10 : decode prog_30_method_3_code 10 = .ok (.bipush 18, 2) := by decide +kernel
theorem d15_12 : decode prog_30_method_3_code 12 = .ok (.if_icmp .gt 18, 3) := by decide +kernel
theorem d15_15 : decode prog_30_method_3_code 15 = .ok (.iload_n 1, 1) := by decide +kernel
theorem d15_16 : decode prog_30_method_3_code 16 = .ok (.iconst 1, 1) := by decide +kernel
theorem d15_17 : decode prog_30_method_3_code 17 = .ok (.if_icmp .le 17, 3) := by decide +kernel
theorem d15_20 : decode prog_30_method_3_code 20 = .ok (.aload_n 0, 1) := by decide +kernel
theorem d15_21 : decode prog_30_method_3_code 21 = .ok (.iconst 0, 1) := by decide +kernel
theorem w80 {Z : State} {a0 : Array Value} (hw : ∀ d ∈ tables_1, d.before a0 Z = true) : Jvm.Cond.before (Jvm.Cond.code ({ cls := "java/lang/String", name := "charAt", desc := "(I)C" } : Jvm.MethodName) jdk_42_method_56_code (2 : Nat) (Option.some Jvm.ClassFile.FieldType.char)) a0 Z = true := hw _ (List.mem_of_getElem? (i := 80) rfl)
theorem pd_295 : parseMethodDescriptor "(I)C" = some ⟨[.int], some .char⟩ := by decide +kernel
theorem d15_22 : decode prog_30_method_3_code 22 = .ok (.invokevirtual 33, 3) := by decide +kernel
theorem w76 {Z : State} {a0 : Array Value} (hw : ∀ d ∈ tables_1, d.before a0 Z = true) : Jvm.Cond.before (Jvm.Cond.methodLink "com/example/fleetyard/fleetyard/model/Ids" (33 : Nat) ({ cls := "java/lang/String", name := "charAt", desc := "(I)C" } : Jvm.MethodName)) a0 Z = true := hw _ (List.mem_of_getElem? (i := 76) rfl)
theorem w79 {Z : State} {a0 : Array Value} (hw : ∀ d ∈ tables_1, d.before a0 Z = true) : Jvm.Cond.before (Jvm.Cond.selects "java/lang/String" ({ cls := "java/lang/String", name := "charAt", desc := "(I)C" } : Jvm.MethodName) ({ cls := "java/lang/String", name := "charAt", desc := "(I)C" } : Jvm.MethodName)) a0 Z = true := hw _ (List.mem_of_getElem? (i := 79) rfl)
theorem w78 {Z : State} {a0 : Array Value} (hw : ∀ d ∈ tables_1, d.before a0 Z = true) : Jvm.Cond.before (Jvm.Cond.instanceMethod ({ cls := "java/lang/String", name := "charAt", desc := "(I)C" } : Jvm.MethodName)) a0 Z = true := hw _ (List.mem_of_getElem? (i := 78) rfl)
theorem w77 {Z : State} {a0 : Array Value} (hw : ∀ d ∈ tables_1, d.before a0 Z = true) : Jvm.Cond.before (Jvm.Cond.declares ({ cls := "java/lang/String", name := "charAt", desc := "(I)C" } : Jvm.MethodName)) a0 Z = true := hw _ (List.mem_of_getElem? (i := 77) rfl)
theorem d15_25 : decode prog_30_method_3_code 25 = .ok (.bipush 48, 2) := by decide +kernel
theorem d15_27 : decode prog_30_method_3_code 27 = .ok (.if_icmp .ne 7, 3) := by decide +kernel
theorem d15_34 : decode prog_30_method_3_code 34 = .ok (.lconst 0, 1) := by decide +kernel
theorem d15_35 : decode prog_30_method_3_code 35 = .ok (.lstore_n 2, 1) := by decide +kernel
theorem d15_36 : decode prog_30_method_3_code 36 = .ok (.iconst 0, 1) := by decide +kernel
theorem d15_37 : decode prog_30_method_3_code 37 = .ok (.istore 4, 2) := by decide +kernel
theorem d15_39 : decode prog_30_method_3_code 39 = .ok (.iload 4, 2) := by decide +kernel
theorem d15_41 : decode prog_30_method_3_code 41 = .ok (.iload_n 1, 1) := by decide +kernel
theorem d15_42 : decode prog_30_method_3_code 42 = .ok (.if_icmp .ge 48, 3) := by decide +kernel
theorem d15_45 : decode prog_30_method_3_code 45 = .ok (.aload_n 0, 1) := by decide +kernel
theorem d15_46 : decode prog_30_method_3_code 46 = .ok (.iload 4, 2) := by decide +kernel
theorem d15_48 : decode prog_30_method_3_code 48 = .ok (.invokevirtual 33, 3) := by decide +kernel
theorem d15_51 : decode prog_30_method_3_code 51 = .ok (.istore 5, 2) := by decide +kernel
theorem d15_53 : decode prog_30_method_3_code 53 = .ok (.iload 5, 2) := by decide +kernel
theorem d15_55 : decode prog_30_method_3_code 55 = .ok (.bipush 48, 2) := by decide +kernel
theorem d15_57 : decode prog_30_method_3_code 57 = .ok (.if_icmp .lt 10, 3) := by decide +kernel
theorem d15_67 : decode prog_30_method_3_code 67 = .ok (.ldc2_w 37, 3) := by decide +kernel
theorem d15_70 : decode prog_30_method_3_code 70 = .ok (.lreturn, 1) := by decide +kernel
theorem d15_60 : decode prog_30_method_3_code 60 = .ok (.iload 5, 2) := by decide +kernel
theorem d15_62 : decode prog_30_method_3_code 62 = .ok (.bipush 57, 2) := by decide +kernel
theorem d15_64 : decode prog_30_method_3_code 64 = .ok (.if_icmp .le 7, 3) := by decide +kernel
theorem d15_71 : decode prog_30_method_3_code 71 = .ok (.lload_n 2, 1) := by decide +kernel
theorem w98 {Z : State} {a0 : Array Value} (hw : ∀ d ∈ tables_1, d.before a0 Z = true) : Jvm.Cond.before (Jvm.Cond.constantLong "com/example/fleetyard/fleetyard/model/Ids" (39 : Nat) (10 : Int64)) a0 Z = true := hw _ (List.mem_of_getElem? (i := 98) rfl)
theorem d15_72 : decode prog_30_method_3_code 72 = .ok (.ldc2_w 39, 3) := by decide +kernel
theorem d15_75 : decode prog_30_method_3_code 75 = .ok (.lmul, 1) := by decide +kernel
theorem d15_76 : decode prog_30_method_3_code 76 = .ok (.iload 5, 2) := by decide +kernel
theorem d15_78 : decode prog_30_method_3_code 78 = .ok (.bipush 48, 2) := by decide +kernel
theorem d15_80 : decode prog_30_method_3_code 80 = .ok (.isub, 1) := by decide +kernel
theorem d15_81 : decode prog_30_method_3_code 81 = .ok (.i2l, 1) := by decide +kernel
theorem d15_82 : decode prog_30_method_3_code 82 = .ok (.ladd, 1) := by decide +kernel
theorem d15_83 : decode prog_30_method_3_code 83 = .ok (.lstore_n 2, 1) := by decide +kernel
theorem d15_84 : decode prog_30_method_3_code 84 = .ok (.iinc 4 1, 3) := by decide +kernel
theorem d15_87 : decode prog_30_method_3_code 87 = .ok (.goto (-48), 3) := by decide +kernel
theorem d15_90 : decode prog_30_method_3_code 90 = .ok (.lload_n 2, 1) := by decide +kernel
theorem d15_91 : decode prog_30_method_3_code 91 = .ok (.lreturn, 1) := by decide +kernel
abbrev R_val : Room := { frames := 4, cells := 0, slots := 0, locals := 53 }
def Q_val (Z : State) (G1 : Int32) (G3 : Value) (x : Addr) (t : Addr) (kt : ClassId) (nn : Int32) (cs : List Int32) (h0 : Heap) (n0 : Nat) (v : Option Value) (h : Heap) (L : List Loc) : Prop := (v = some (.long (own_value cs)) ∧ Fr n0 L ∧ h = h0)
set_option maxRecDepth 65536 in
set_option maxHeartbeats 40000000 in
theorem rm_val (l : Launch) (Z : State) (a0 : Array Value) (hw : ∀ d ∈ tables_1, d.before a0 Z = true) (ws : List Jvm.Cond) (G1 : Int32) (G3 : Value) (HG : own_G l Z a0 G1 G3) (h0 : Heap) (n0 : Nat) (X00 : Old Z n0 h0) (x : Addr) (t : Addr) (kt : ClassId) (nn : Int32) (cs : List Int32) (hp0 : Exa Z h0 x "java/lang/String") (hp1 : Fld Z h0 x "java/lang/String" "coder" "B" (.int (0 : Int32))) (hp2 : Fld Z h0 x "java/lang/String" "value" "[B" (.ref t)) (hp3 : Arv Z h0 t kt .byte nn (own_iv (own_bs cs)) (.int (0 : Int32))) (hn0 : ¬ (nn < (0 : Int32))) (hl1 : cs.length = nn.toNatClampNeg) (hla : own_lat cs) :
    own_CP l Z M269 prog_30_method_3_code 6 (some .long) ws R_val #[(.ref x)] h0 (Q_val Z G1 G3 x t kt nn cs h0 n0) := by
  refine own_P (plainFor_of_name pn_271) ?_
  intro p e s m below meth c s₁ S0 Bd hZ hh hx hby hml hown hnm X0 e0 hS0d
  obtain ⟨O1, P1, O3f, rG3⟩ := id HG
  have N0 := Fr.nil n0
  have C0 : Steps p.tables e below S0 (s₁.setTop (mkF m 0 #[.val (.ref x), .unset, .unset, .unset, .unset, .unset] [])) := by rw [hS0d]; exact castTop (ef_270 m x) (Steps.refl _)
  obtain ⟨q_2, q_3, q_4, q_5, q_6⟩ := isOf (T := s₁) hZ e0 hp0
  obtain ⟨_, _, ⟨T_1, L_1, k_1, n_1⟩, -, X_1, ⟨Lc_1, hQ_1, l_1, y_1, z_1⟩, st_1⟩ := X0.virtualBack hx (y := M131) (z := M131) hown (mvT hZ (w50 hw)) (mvT hZ (w51 hw)) (notFace_of_selects (args := #[]) (mvT hZ (w53 hw))) (mvT hZ (w53 hw)) (mvT hZ (w52 hw)) (by decide) (backOf (W := 0) (rm_lens l Z a0 hw [] G1 G3 HG h0 n0 X00 x t kt nn (own_iv (own_bs cs)) hp0 hp1 hp2 hp3) hZ (w54 hw) (w27 hw) (by decide) (by decide)) q_4 q_6 (g := (mkF m 1 #[.val (.ref x), .unset, .unset, .unset, .unset, .unset] [(.ref x)])) rfl (by rw [hml]; rfl) (Steps.refl _) (argsL := []) (rest := []) (lenOf pd_274 rfl) rfl (by show 2 * 0 + _ ≤ _; exact Nat.le_of_eq rfl) (hb hby d15_1) (fun _ _ => ⟨rfl, e0, (by decide : 0 + 0 ≤ _), (by decide : 0 + 0 ≤ _)⟩)
  dsimp only [Pt.U, Pt.locs, Pt.cells, Pt.slots] at X_1 l_1 y_1 z_1 st_1 hQ_1
  have X_1 := own_cast X_1 l_1 y_1 z_1
  obtain ⟨rfl, N_7, e_8⟩ := hQ_1
  have N_9 := Fr.app N0 N_7
  have e_10 : T_1.heap = h0 := e_8
  have C_11 : Steps p.tables e below S0 (T_1.setTop (mkF m 6 #[.val (.ref x), .val (.int nn), .unset, .unset, .unset, .unset] [(.int nn)])) := by
    refine C0.trans ?_
    refine XS.aloadN X0.here hx rfl (hb hby d15_0) rfl rfl ?_
    refine st_1.trans ?_
    refine XS.istoreN X_1.here hx rfl (hb hby d15_4) rfl (l' := #[.val (.ref x), .val (.int nn), .unset, .unset, .unset, .unset]) rfl ?_
    refine XS.iloadN X_1.here hx rfl (hb hby d15_5) rfl ?_
    exact Steps.refl _
  by_cases hc_12 : nn = (0 : Int32)
  · skip
    have C_13 : Steps p.tables e below S0 (T_1.setTop (mkF m 33 #[.val (.ref x), .val (.int nn), .unset, .unset, .unset, .unset] [(.long (-1 : Int64))])) := by
      refine C_11.trans ?_
      refine XS.ifYes X_1.here hx rfl (pc0 := 6) (pc' := 30) rfl (hb hby d15_6) rfl (i0_eq_t hc_12) (by decide) (by decide) ?_
      refine X_1.ldc2J hx hown (mvT hZ (w61 hw)) rfl (hb hby d15_30) ?_
      exact Steps.refl _
    obtain ⟨fs, hr, hrun, hended, hW, hsame⟩ := X_1.leave (v := some (.long (-1 : Int64))) (fun h => by rw [Bd.returns] at h; cases h)
    refine ⟨_, _, C_13.trans (retOut X_1 hx Bd.returns rfl (Or.inr (Or.inl ⟨rfl, rfl, _, rfl⟩)) (hb hby d15_33) hr), hrun, hended, _, _, rfl, ?_, ⟨_, rfl⟩, hW, hsame.mono (by decide) (by decide)⟩
    show Q_val Z G1 G3 x t kt nn cs h0 n0 (some (.long (-1 : Int64))) T_1.heap _
    rw [e_10]
    exact ⟨(congrArg (fun q => some (Value.long q)) (own_vempty hl1 hc_12).symm), N_9, rfl⟩
  · skip
    have C_14 : Steps p.tables e below S0 (T_1.setTop (mkF m 12 #[.val (.ref x), .val (.int nn), .unset, .unset, .unset, .unset] [(.int (18 : Int32)), (.int nn)])) := by
      refine C_11.trans ?_
      refine XS.ifNo X_1.here hx rfl (hb hby d15_6) rfl (i0_eq_f hc_12) ?_
      refine XS.iloadN X_1.here hx rfl (hb hby d15_9) rfl ?_
      refine XS.bipush X_1.here hx rfl (hb hby d15_10) ?_
      exact Steps.refl _
    by_cases hc_15 : (18 : Int32) < nn
    · skip
      have C_16 : Steps p.tables e below S0 (T_1.setTop (mkF m 33 #[.val (.ref x), .val (.int nn), .unset, .unset, .unset, .unset] [(.long (-1 : Int64))])) := by
        refine C_14.trans ?_
        refine XS.icmpYes X_1.here hx rfl (pc0 := 12) (pc' := 30) rfl (hb hby d15_12) rfl (ii_gt_t hc_15) (by decide) (by decide) ?_
        refine X_1.ldc2J hx hown (mvT hZ (w61 hw)) rfl (hb hby d15_30) ?_
        exact Steps.refl _
      obtain ⟨fs, hr, hrun, hended, hW, hsame⟩ := X_1.leave (v := some (.long (-1 : Int64))) (fun h => by rw [Bd.returns] at h; cases h)
      refine ⟨_, _, C_16.trans (retOut X_1 hx Bd.returns rfl (Or.inr (Or.inl ⟨rfl, rfl, _, rfl⟩)) (hb hby d15_33) hr), hrun, hended, _, _, rfl, ?_, ⟨_, rfl⟩, hW, hsame.mono (by decide) (by decide)⟩
      show Q_val Z G1 G3 x t kt nn cs h0 n0 (some (.long (-1 : Int64))) T_1.heap _
      rw [e_10]
      exact ⟨(congrArg (fun q => some (Value.long q)) (own_vlong hl1 hc_15).symm), N_9, rfl⟩
    · skip
      have C_17 : Steps p.tables e below S0 (T_1.setTop (mkF m 17 #[.val (.ref x), .val (.int nn), .unset, .unset, .unset, .unset] [(.int (1 : Int32)), (.int nn)])) := by
        refine C_14.trans ?_
        refine XS.icmpNo X_1.here hx rfl (hb hby d15_12) rfl (ii_gt_f hc_15) ?_
        refine XS.iloadN X_1.here hx rfl (hb hby d15_15) rfl ?_
        refine XS.iconst X_1.here hx rfl (hb hby d15_16) ?_
        exact Steps.refl _
      by_cases hc_18 : (1 : Int32) < nn
      · skip
        obtain ⟨q_20, q_21, q_22, q_23, q_24⟩ := isOf (T := T_1) hZ e_10 hp0
        obtain ⟨_, _, ⟨T_19, L_19, k_19, n_19⟩, -, X_19, ⟨Lc_19, hQ_19, l_19, y_19, z_19⟩, st_19⟩ := X_1.virtualBack hx (y := M186) (z := M186) hown (mvT hZ (w76 hw)) (mvT hZ (w77 hw)) (notFace_of_selects (args := #[]) (mvT hZ (w79 hw))) (mvT hZ (w79 hw)) (mvT hZ (w78 hw)) (by decide) (backOf (W := 0) (rm_chs l Z a0 hw [] G1 G3 HG h0 n0 X00 x t kt nn cs (0 : Int32) hp0 hp1 hp2 hp3 (by decide) (own_lpos hn0 hc_12) hl1 hla) hZ (w80 hw) (w27 hw) (by decide) (by decide)) q_22 q_24 (g := (mkF m 22 #[.val (.ref x), .val (.int nn), .unset, .unset, .unset, .unset] [(.int (0 : Int32)), (.ref x)])) rfl (by rw [hml]; rfl) (Steps.refl _) (argsL := [(.int (0 : Int32))]) (rest := []) (lenOf pd_295 rfl) rfl (by show 2 * 0 + _ ≤ _; exact Nat.le_of_eq rfl) (hb hby d15_22) (fun _ _ => ⟨rfl, e_10, (by decide : 0 + 0 ≤ _), (by decide : 0 + 0 ≤ _)⟩)
        dsimp only [Pt.U, Pt.locs, Pt.cells, Pt.slots] at X_19 l_19 y_19 z_19 st_19 hQ_19
        have X_19 := own_cast X_19 l_19 y_19 z_19
        obtain ⟨rfl, N_25, e_26⟩ := hQ_19
        have N_27 := Fr.app N_9 N_25
        have e_28 : T_19.heap = h0 := e_26
        have C_29 : Steps p.tables e below S0 (T_19.setTop (mkF m 27 #[.val (.ref x), .val (.int nn), .unset, .unset, .unset, .unset] [(.int (48 : Int32)), (.int (own_gt cs (0 : Int32)))])) := by
          refine C_17.trans ?_
          refine XS.icmpNo X_1.here hx rfl (hb hby d15_17) rfl (ii_le_f hc_18) ?_
          refine XS.aloadN X_1.here hx rfl (hb hby d15_20) rfl rfl ?_
          refine XS.iconst X_1.here hx rfl (hb hby d15_21) ?_
          refine st_19.trans ?_
          refine XS.bipush X_19.here hx rfl (hb hby d15_25) ?_
          exact Steps.refl _
        by_cases hc_30 : (own_gt cs (0 : Int32)) = (48 : Int32)
        · skip
          have C_31 : Steps p.tables e below S0 (T_19.setTop (mkF m 33 #[.val (.ref x), .val (.int nn), .unset, .unset, .unset, .unset] [(.long (-1 : Int64))])) := by
            refine C_29.trans ?_
            refine XS.icmpNo X_19.here hx rfl (hb hby d15_27) rfl (ii_ne_f hc_30) ?_
            refine X_19.ldc2J hx hown (mvT hZ (w61 hw)) rfl (hb hby d15_30) ?_
            exact Steps.refl _
          obtain ⟨fs, hr, hrun, hended, hW, hsame⟩ := X_19.leave (v := some (.long (-1 : Int64))) (fun h => by rw [Bd.returns] at h; cases h)
          refine ⟨_, _, C_31.trans (retOut X_19 hx Bd.returns rfl (Or.inr (Or.inl ⟨rfl, rfl, _, rfl⟩)) (hb hby d15_33) hr), hrun, hended, _, _, rfl, ?_, ⟨_, rfl⟩, hW, hsame.mono (by decide) (by decide)⟩
          show Q_val Z G1 G3 x t kt nn cs h0 n0 (some (.long (-1 : Int64))) T_19.heap _
          rw [e_28]
          exact ⟨(congrArg (fun q => some (Value.long q)) (own_vzero hl1 hc_18 hc_30).symm), N_27, rfl⟩
        · skip
          have C_32 : Steps p.tables e below S0 (T_19.setTop (mkF m 39 #[.val (.ref x), .val (.int nn), .val (.long (0 : Int64)), .second, .val (.int (0 : Int32)), .unset] [])) := by
            refine C_29.trans ?_
            refine XS.icmpYes X_19.here hx rfl (pc0 := 27) (pc' := 34) rfl (hb hby d15_27) rfl (ii_ne_t hc_30) (by decide) (by decide) ?_
            refine XS.lconst X_19.here hx rfl (hb hby d15_34) ?_
            refine XS.lstoreN X_19.here hx rfl (hb hby d15_35) rfl (l' := #[.val (.ref x), .val (.int nn), .val (.long (0 : Int64)), .second, .unset, .unset]) rfl ?_
            refine XS.iconst X_19.here hx rfl (hb hby d15_36) ?_
            refine XS.istore X_19.here hx rfl (hb hby d15_37) rfl (l' := #[.val (.ref x), .val (.int nn), .val (.long (0 : Int64)), .second, .val (.int (0 : Int32)), .unset]) rfl ?_
            exact Steps.refl _
          obtain ⟨acc_33, j_34, z5_35, T_36, L_37, I_38⟩ : ∃ (acc_33 : Int64) (j_34 : Int32) (z5_35 : Slot) (T_36 : State) (L_37 : List Loc), Stand p l e R_val s m #[(.ref x)] below meth c T_36 L_37 0 0 ∧ T_36.heap = h0 ∧ Fr n0 L_37 ∧ h0 = h0 ∧ (¬ (j_34 < (0 : Int32))) ∧ (¬ (nn < j_34)) ∧ (own_value cs = own_go (cs.drop j_34.toNatClampNeg) acc_33) ∧ (z5_35 = .unset ∨ ∃ v : Int32, z5_35 = .val (.int v)) ∧ Steps p.tables e below S0 (T_36.setTop (mkF m 39 #[.val (.ref x), .val (.int nn), .val (.long acc_33), .second, .val (.int j_34), z5_35] [])) := ⟨(0 : Int64), (0 : Int32), .unset, T_19, _, X_19, e_28, N_27, rfl, (by decide), hn0, (own_vgood hl1 hn0 hc_12 hc_15 (Or.inr hc_30)), Or.inl rfl, C_32⟩
          obtain ⟨d_39, hd_40⟩ : ∃ d : Nat, d = (nn.toNatClampNeg - j_34.toNatClampNeg) := ⟨_, rfl⟩
          induction d_39 using Nat.strongRecOn generalizing acc_33 j_34 z5_35 T_36 L_37 with
          | _ d_39 ih_41 =>
            obtain ⟨X_42, e_43, N_44, K_45, g_47, g_48, g_49, hz_50, C_46⟩ := I_38
            rcases hz_50 with rfl | ⟨v_51, rfl⟩
            · skip
              have C_52 : Steps p.tables e below S0 (T_36.setTop (mkF m 42 #[.val (.ref x), .val (.int nn), .val (.long acc_33), .second, .val (.int j_34), .unset] [(.int nn), (.int j_34)])) := by
                refine C_46.trans ?_
                refine XS.iload X_42.here hx rfl (hb hby d15_39) rfl ?_
                refine XS.iloadN X_42.here hx rfl (hb hby d15_41) rfl ?_
                exact Steps.refl _
              by_cases hc_53 : j_34 < nn
              · skip
                obtain ⟨q_55, q_56, q_57, q_58, q_59⟩ := isOf (T := T_36) hZ e_43 hp0
                obtain ⟨_, _, ⟨T_54, L_54, k_54, n_54⟩, -, X_54, ⟨Lc_54, hQ_54, l_54, y_54, z_54⟩, st_54⟩ := X_42.virtualBack hx (y := M186) (z := M186) hown (mvT hZ (w76 hw)) (mvT hZ (w77 hw)) (notFace_of_selects (args := #[]) (mvT hZ (w79 hw))) (mvT hZ (w79 hw)) (mvT hZ (w78 hw)) (by decide) (backOf (W := 0) (rm_chs l Z a0 hw [] G1 G3 HG h0 n0 X00 x t kt nn cs j_34 hp0 hp1 hp2 hp3 g_47 hc_53 hl1 hla) hZ (w80 hw) (w27 hw) (by decide) (by decide)) q_57 q_59 (g := (mkF m 48 #[.val (.ref x), .val (.int nn), .val (.long acc_33), .second, .val (.int j_34), .unset] [(.int j_34), (.ref x)])) rfl (by rw [hml]; rfl) (Steps.refl _) (argsL := [(.int j_34)]) (rest := []) (lenOf pd_295 rfl) rfl (by show 2 * 0 + _ ≤ _; exact Nat.le_of_eq rfl) (hb hby d15_48) (fun _ _ => ⟨rfl, e_43, (by decide : 0 + 0 ≤ _), (by decide : 0 + 0 ≤ _)⟩)
                dsimp only [Pt.U, Pt.locs, Pt.cells, Pt.slots] at X_54 l_54 y_54 z_54 st_54 hQ_54
                have X_54 := own_cast X_54 l_54 y_54 z_54
                obtain ⟨rfl, N_60, e_61⟩ := hQ_54
                have N_62 := Fr.app N_44 N_60
                have e_63 : T_54.heap = h0 := e_61
                have C_64 : Steps p.tables e below S0 (T_54.setTop (mkF m 57 #[.val (.ref x), .val (.int nn), .val (.long acc_33), .second, .val (.int j_34), .val (.int (own_gt cs j_34))] [(.int (48 : Int32)), (.int (own_gt cs j_34))])) := by
                  refine C_52.trans ?_
                  refine XS.icmpNo X_42.here hx rfl (hb hby d15_42) rfl (ii_ge_f hc_53) ?_
                  refine XS.aloadN X_42.here hx rfl (hb hby d15_45) rfl rfl ?_
                  refine XS.iload X_42.here hx rfl (hb hby d15_46) rfl ?_
                  refine st_54.trans ?_
                  refine XS.istore X_54.here hx rfl (hb hby d15_51) rfl (l' := #[.val (.ref x), .val (.int nn), .val (.long acc_33), .second, .val (.int j_34), .val (.int (own_gt cs j_34))]) rfl ?_
                  refine XS.iload X_54.here hx rfl (hb hby d15_53) rfl ?_
                  refine XS.bipush X_54.here hx rfl (hb hby d15_55) ?_
                  exact Steps.refl _
                by_cases hc_65 : (own_gt cs j_34) < (48 : Int32)
                · skip
                  have C_66 : Steps p.tables e below S0 (T_54.setTop (mkF m 70 #[.val (.ref x), .val (.int nn), .val (.long acc_33), .second, .val (.int j_34), .val (.int (own_gt cs j_34))] [(.long (-1 : Int64))])) := by
                    refine C_64.trans ?_
                    refine XS.icmpYes X_54.here hx rfl (pc0 := 57) (pc' := 67) rfl (hb hby d15_57) rfl (ii_lt_t hc_65) (by decide) (by decide) ?_
                    refine X_54.ldc2J hx hown (mvT hZ (w61 hw)) rfl (hb hby d15_67) ?_
                    exact Steps.refl _
                  obtain ⟨fs, hr, hrun, hended, hW, hsame⟩ := X_54.leave (v := some (.long (-1 : Int64))) (fun h => by rw [Bd.returns] at h; cases h)
                  refine ⟨_, _, C_66.trans (retOut X_54 hx Bd.returns rfl (Or.inr (Or.inl ⟨rfl, rfl, _, rfl⟩)) (hb hby d15_70) hr), hrun, hended, _, _, rfl, ?_, ⟨_, rfl⟩, hW, hsame.mono (by decide) (by decide)⟩
                  show Q_val Z G1 G3 x t kt nn cs h0 n0 (some (.long (-1 : Int64))) T_54.heap _
                  rw [e_63]
                  exact ⟨(congrArg (fun q => some (Value.long q)) (own_vstop hl1 g_49 g_47 hc_53 (own_isdF1 hc_65))), N_62, rfl⟩
                · skip
                  have C_67 : Steps p.tables e below S0 (T_54.setTop (mkF m 64 #[.val (.ref x), .val (.int nn), .val (.long acc_33), .second, .val (.int j_34), .val (.int (own_gt cs j_34))] [(.int (57 : Int32)), (.int (own_gt cs j_34))])) := by
                    refine C_64.trans ?_
                    refine XS.icmpNo X_54.here hx rfl (hb hby d15_57) rfl (ii_lt_f hc_65) ?_
                    refine XS.iload X_54.here hx rfl (hb hby d15_60) rfl ?_
                    refine XS.bipush X_54.here hx rfl (hb hby d15_62) ?_
                    exact Steps.refl _
                  by_cases hc_68 : (57 : Int32) < (own_gt cs j_34)
                  · skip
                    have C_69 : Steps p.tables e below S0 (T_54.setTop (mkF m 70 #[.val (.ref x), .val (.int nn), .val (.long acc_33), .second, .val (.int j_34), .val (.int (own_gt cs j_34))] [(.long (-1 : Int64))])) := by
                      refine C_67.trans ?_
                      refine XS.icmpNo X_54.here hx rfl (hb hby d15_64) rfl (ii_le_f hc_68) ?_
                      refine X_54.ldc2J hx hown (mvT hZ (w61 hw)) rfl (hb hby d15_67) ?_
                      exact Steps.refl _
                    obtain ⟨fs, hr, hrun, hended, hW, hsame⟩ := X_54.leave (v := some (.long (-1 : Int64))) (fun h => by rw [Bd.returns] at h; cases h)
                    refine ⟨_, _, C_69.trans (retOut X_54 hx Bd.returns rfl (Or.inr (Or.inl ⟨rfl, rfl, _, rfl⟩)) (hb hby d15_70) hr), hrun, hended, _, _, rfl, ?_, ⟨_, rfl⟩, hW, hsame.mono (by decide) (by decide)⟩
                    show Q_val Z G1 G3 x t kt nn cs h0 n0 (some (.long (-1 : Int64))) T_54.heap _
                    rw [e_63]
                    exact ⟨(congrArg (fun q => some (Value.long q)) (own_vstop hl1 g_49 g_47 hc_53 (own_isdF2 hc_68))), N_62, rfl⟩
                  · skip
                    have C_70 : Steps p.tables e below S0 (T_54.setTop (mkF m 39 #[.val (.ref x), .val (.int nn), .val (.long ((acc_33 * (10 : Int64)) + (((own_gt cs j_34) - (48 : Int32)).toInt64))), .second, .val (.int (j_34 + (1 : Int32))), .val (.int (own_gt cs j_34))] [])) := by
                      refine C_67.trans ?_
                      refine XS.icmpYes X_54.here hx rfl (pc0 := 64) (pc' := 71) rfl (hb hby d15_64) rfl (ii_le_t hc_68) (by decide) (by decide) ?_
                      refine XS.lloadN X_54.here hx rfl (hb hby d15_71) rfl ?_
                      refine X_54.ldc2J hx hown (mvT hZ (w98 hw)) rfl (hb hby d15_72) ?_
                      refine XS.lmul X_54.here hx rfl (hb hby d15_75) rfl ?_
                      refine XS.iload X_54.here hx rfl (hb hby d15_76) rfl ?_
                      refine XS.bipush X_54.here hx rfl (hb hby d15_78) ?_
                      refine XS.isub X_54.here hx rfl (hb hby d15_80) rfl ?_
                      refine XS.i2l X_54.here hx rfl (hb hby d15_81) rfl ?_
                      show Steps p.tables e below (T_54.setTop (mkF m 82 #[.val (.ref x), .val (.int nn), .val (.long acc_33), .second, .val (.int j_34), .val (.int (own_gt cs j_34))] [(.long (((own_gt cs j_34) - (48 : Int32)).toInt64)), (.long (acc_33 * (10 : Int64)))])) _
                      refine XS.ladd X_54.here hx rfl (hb hby d15_82) rfl ?_
                      refine XS.lstoreN X_54.here hx rfl (hb hby d15_83) rfl (l' := #[.val (.ref x), .val (.int nn), .val (.long ((acc_33 * (10 : Int64)) + (((own_gt cs j_34) - (48 : Int32)).toInt64))), .second, .val (.int j_34), .val (.int (own_gt cs j_34))]) rfl ?_
                      refine XS.iinc X_54.here hx rfl (hb hby d15_84) (x := j_34) rfl (l' := #[.val (.ref x), .val (.int nn), .val (.long ((acc_33 * (10 : Int64)) + (((own_gt cs j_34) - (48 : Int32)).toInt64))), .second, .val (.int (j_34 + (1 : Int32))), .val (.int (own_gt cs j_34))]) rfl ?_
                      refine XS.goto X_54.here hx rfl (pc0 := 87) (pc' := 39) rfl (hb hby d15_87) (by decide) (by decide) ?_
                      exact Steps.refl _
                    exact ih_41 _ (by rw [hd_40]; exact (own_dec g_47 hc_53)) ((acc_33 * (10 : Int64)) + (((own_gt cs j_34) - (48 : Int32)).toInt64)) (j_34 + (1 : Int32)) (.val (.int (own_gt cs j_34))) _ _  ⟨X_54, e_63, N_62, rfl, (own_nat g_47 hc_53).2.2.1, (own_nat g_47 hc_53).2.2.2, (own_vstep hl1 g_49 g_47 hc_53 (own_nat g_47 hc_53).2.1 (own_isdT hc_65 hc_68)), Or.inr ⟨_, rfl⟩, C_70⟩ rfl
              · skip
                have C_71 : Steps p.tables e below S0 (T_36.setTop (mkF m 91 #[.val (.ref x), .val (.int nn), .val (.long acc_33), .second, .val (.int j_34), .unset] [(.long acc_33)])) := by
                  refine C_52.trans ?_
                  refine XS.icmpYes X_42.here hx rfl (pc0 := 42) (pc' := 90) rfl (hb hby d15_42) rfl (ii_ge_t hc_53) (by decide) (by decide) ?_
                  refine XS.lloadN X_42.here hx rfl (hb hby d15_90) rfl ?_
                  exact Steps.refl _
                obtain ⟨fs, hr, hrun, hended, hW, hsame⟩ := X_42.leave (v := some (.long acc_33)) (fun h => by rw [Bd.returns] at h; cases h)
                refine ⟨_, _, C_71.trans (retOut X_42 hx Bd.returns rfl (Or.inr (Or.inl ⟨rfl, rfl, _, rfl⟩)) (hb hby d15_91) hr), hrun, hended, _, _, rfl, ?_, ⟨_, rfl⟩, hW, hsame.mono (by decide) (by decide)⟩
                show Q_val Z G1 G3 x t kt nn cs h0 n0 (some (.long acc_33)) T_36.heap _
                rw [e_43]
                exact ⟨(congrArg (fun q => some (Value.long q)) (own_vend hl1 g_49 hc_53)), N_44, rfl⟩
            · skip
              have C_72 : Steps p.tables e below S0 (T_36.setTop (mkF m 42 #[.val (.ref x), .val (.int nn), .val (.long acc_33), .second, .val (.int j_34), .val (.int v_51)] [(.int nn), (.int j_34)])) := by
                refine C_46.trans ?_
                refine XS.iload X_42.here hx rfl (hb hby d15_39) rfl ?_
                refine XS.iloadN X_42.here hx rfl (hb hby d15_41) rfl ?_
                exact Steps.refl _
              by_cases hc_73 : j_34 < nn
              · skip
                obtain ⟨q_75, q_76, q_77, q_78, q_79⟩ := isOf (T := T_36) hZ e_43 hp0
                obtain ⟨_, _, ⟨T_74, L_74, k_74, n_74⟩, -, X_74, ⟨Lc_74, hQ_74, l_74, y_74, z_74⟩, st_74⟩ := X_42.virtualBack hx (y := M186) (z := M186) hown (mvT hZ (w76 hw)) (mvT hZ (w77 hw)) (notFace_of_selects (args := #[]) (mvT hZ (w79 hw))) (mvT hZ (w79 hw)) (mvT hZ (w78 hw)) (by decide) (backOf (W := 0) (rm_chs l Z a0 hw [] G1 G3 HG h0 n0 X00 x t kt nn cs j_34 hp0 hp1 hp2 hp3 g_47 hc_73 hl1 hla) hZ (w80 hw) (w27 hw) (by decide) (by decide)) q_77 q_79 (g := (mkF m 48 #[.val (.ref x), .val (.int nn), .val (.long acc_33), .second, .val (.int j_34), .val (.int v_51)] [(.int j_34), (.ref x)])) rfl (by rw [hml]; rfl) (Steps.refl _) (argsL := [(.int j_34)]) (rest := []) (lenOf pd_295 rfl) rfl (by show 2 * 0 + _ ≤ _; exact Nat.le_of_eq rfl) (hb hby d15_48) (fun _ _ => ⟨rfl, e_43, (by decide : 0 + 0 ≤ _), (by decide : 0 + 0 ≤ _)⟩)
                dsimp only [Pt.U, Pt.locs, Pt.cells, Pt.slots] at X_74 l_74 y_74 z_74 st_74 hQ_74
                have X_74 := own_cast X_74 l_74 y_74 z_74
                obtain ⟨rfl, N_80, e_81⟩ := hQ_74
                have N_82 := Fr.app N_44 N_80
                have e_83 : T_74.heap = h0 := e_81
                have C_84 : Steps p.tables e below S0 (T_74.setTop (mkF m 57 #[.val (.ref x), .val (.int nn), .val (.long acc_33), .second, .val (.int j_34), .val (.int (own_gt cs j_34))] [(.int (48 : Int32)), (.int (own_gt cs j_34))])) := by
                  refine C_72.trans ?_
                  refine XS.icmpNo X_42.here hx rfl (hb hby d15_42) rfl (ii_ge_f hc_73) ?_
                  refine XS.aloadN X_42.here hx rfl (hb hby d15_45) rfl rfl ?_
                  refine XS.iload X_42.here hx rfl (hb hby d15_46) rfl ?_
                  refine st_74.trans ?_
                  refine XS.istore X_74.here hx rfl (hb hby d15_51) rfl (l' := #[.val (.ref x), .val (.int nn), .val (.long acc_33), .second, .val (.int j_34), .val (.int (own_gt cs j_34))]) rfl ?_
                  refine XS.iload X_74.here hx rfl (hb hby d15_53) rfl ?_
                  refine XS.bipush X_74.here hx rfl (hb hby d15_55) ?_
                  exact Steps.refl _
                by_cases hc_85 : (own_gt cs j_34) < (48 : Int32)
                · skip
                  have C_86 : Steps p.tables e below S0 (T_74.setTop (mkF m 70 #[.val (.ref x), .val (.int nn), .val (.long acc_33), .second, .val (.int j_34), .val (.int (own_gt cs j_34))] [(.long (-1 : Int64))])) := by
                    refine C_84.trans ?_
                    refine XS.icmpYes X_74.here hx rfl (pc0 := 57) (pc' := 67) rfl (hb hby d15_57) rfl (ii_lt_t hc_85) (by decide) (by decide) ?_
                    refine X_74.ldc2J hx hown (mvT hZ (w61 hw)) rfl (hb hby d15_67) ?_
                    exact Steps.refl _
                  obtain ⟨fs, hr, hrun, hended, hW, hsame⟩ := X_74.leave (v := some (.long (-1 : Int64))) (fun h => by rw [Bd.returns] at h; cases h)
                  refine ⟨_, _, C_86.trans (retOut X_74 hx Bd.returns rfl (Or.inr (Or.inl ⟨rfl, rfl, _, rfl⟩)) (hb hby d15_70) hr), hrun, hended, _, _, rfl, ?_, ⟨_, rfl⟩, hW, hsame.mono (by decide) (by decide)⟩
                  show Q_val Z G1 G3 x t kt nn cs h0 n0 (some (.long (-1 : Int64))) T_74.heap _
                  rw [e_83]
                  exact ⟨(congrArg (fun q => some (Value.long q)) (own_vstop hl1 g_49 g_47 hc_73 (own_isdF1 hc_85))), N_82, rfl⟩
                · skip
                  have C_87 : Steps p.tables e below S0 (T_74.setTop (mkF m 64 #[.val (.ref x), .val (.int nn), .val (.long acc_33), .second, .val (.int j_34), .val (.int (own_gt cs j_34))] [(.int (57 : Int32)), (.int (own_gt cs j_34))])) := by
                    refine C_84.trans ?_
                    refine XS.icmpNo X_74.here hx rfl (hb hby d15_57) rfl (ii_lt_f hc_85) ?_
                    refine XS.iload X_74.here hx rfl (hb hby d15_60) rfl ?_
                    refine XS.bipush X_74.here hx rfl (hb hby d15_62) ?_
                    exact Steps.refl _
                  by_cases hc_88 : (57 : Int32) < (own_gt cs j_34)
                  · skip
                    have C_89 : Steps p.tables e below S0 (T_74.setTop (mkF m 70 #[.val (.ref x), .val (.int nn), .val (.long acc_33), .second, .val (.int j_34), .val (.int (own_gt cs j_34))] [(.long (-1 : Int64))])) := by
                      refine C_87.trans ?_
                      refine XS.icmpNo X_74.here hx rfl (hb hby d15_64) rfl (ii_le_f hc_88) ?_
                      refine X_74.ldc2J hx hown (mvT hZ (w61 hw)) rfl (hb hby d15_67) ?_
                      exact Steps.refl _
                    obtain ⟨fs, hr, hrun, hended, hW, hsame⟩ := X_74.leave (v := some (.long (-1 : Int64))) (fun h => by rw [Bd.returns] at h; cases h)
                    refine ⟨_, _, C_89.trans (retOut X_74 hx Bd.returns rfl (Or.inr (Or.inl ⟨rfl, rfl, _, rfl⟩)) (hb hby d15_70) hr), hrun, hended, _, _, rfl, ?_, ⟨_, rfl⟩, hW, hsame.mono (by decide) (by decide)⟩
                    show Q_val Z G1 G3 x t kt nn cs h0 n0 (some (.long (-1 : Int64))) T_74.heap _
                    rw [e_83]
                    exact ⟨(congrArg (fun q => some (Value.long q)) (own_vstop hl1 g_49 g_47 hc_73 (own_isdF2 hc_88))), N_82, rfl⟩
                  · skip
                    have C_90 : Steps p.tables e below S0 (T_74.setTop (mkF m 39 #[.val (.ref x), .val (.int nn), .val (.long ((acc_33 * (10 : Int64)) + (((own_gt cs j_34) - (48 : Int32)).toInt64))), .second, .val (.int (j_34 + (1 : Int32))), .val (.int (own_gt cs j_34))] [])) := by
                      refine C_87.trans ?_
                      refine XS.icmpYes X_74.here hx rfl (pc0 := 64) (pc' := 71) rfl (hb hby d15_64) rfl (ii_le_t hc_88) (by decide) (by decide) ?_
                      refine XS.lloadN X_74.here hx rfl (hb hby d15_71) rfl ?_
                      refine X_74.ldc2J hx hown (mvT hZ (w98 hw)) rfl (hb hby d15_72) ?_
                      refine XS.lmul X_74.here hx rfl (hb hby d15_75) rfl ?_
                      refine XS.iload X_74.here hx rfl (hb hby d15_76) rfl ?_
                      refine XS.bipush X_74.here hx rfl (hb hby d15_78) ?_
                      refine XS.isub X_74.here hx rfl (hb hby d15_80) rfl ?_
                      refine XS.i2l X_74.here hx rfl (hb hby d15_81) rfl ?_
                      show Steps p.tables e below (T_74.setTop (mkF m 82 #[.val (.ref x), .val (.int nn), .val (.long acc_33), .second, .val (.int j_34), .val (.int (own_gt cs j_34))] [(.long (((own_gt cs j_34) - (48 : Int32)).toInt64)), (.long (acc_33 * (10 : Int64)))])) _
                      refine XS.ladd X_74.here hx rfl (hb hby d15_82) rfl ?_
                      refine XS.lstoreN X_74.here hx rfl (hb hby d15_83) rfl (l' := #[.val (.ref x), .val (.int nn), .val (.long ((acc_33 * (10 : Int64)) + (((own_gt cs j_34) - (48 : Int32)).toInt64))), .second, .val (.int j_34), .val (.int (own_gt cs j_34))]) rfl ?_
                      refine XS.iinc X_74.here hx rfl (hb hby d15_84) (x := j_34) rfl (l' := #[.val (.ref x), .val (.int nn), .val (.long ((acc_33 * (10 : Int64)) + (((own_gt cs j_34) - (48 : Int32)).toInt64))), .second, .val (.int (j_34 + (1 : Int32))), .val (.int (own_gt cs j_34))]) rfl ?_
                      refine XS.goto X_74.here hx rfl (pc0 := 87) (pc' := 39) rfl (hb hby d15_87) (by decide) (by decide) ?_
                      exact Steps.refl _
                    exact ih_41 _ (by rw [hd_40]; exact (own_dec g_47 hc_73)) ((acc_33 * (10 : Int64)) + (((own_gt cs j_34) - (48 : Int32)).toInt64)) (j_34 + (1 : Int32)) (.val (.int (own_gt cs j_34))) _ _  ⟨X_74, e_83, N_82, rfl, (own_nat g_47 hc_73).2.2.1, (own_nat g_47 hc_73).2.2.2, (own_vstep hl1 g_49 g_47 hc_73 (own_nat g_47 hc_73).2.1 (own_isdT hc_85 hc_88)), Or.inr ⟨_, rfl⟩, C_90⟩ rfl
              · skip
                have C_91 : Steps p.tables e below S0 (T_36.setTop (mkF m 91 #[.val (.ref x), .val (.int nn), .val (.long acc_33), .second, .val (.int j_34), .val (.int v_51)] [(.long acc_33)])) := by
                  refine C_72.trans ?_
                  refine XS.icmpYes X_42.here hx rfl (pc0 := 42) (pc' := 90) rfl (hb hby d15_42) rfl (ii_ge_t hc_73) (by decide) (by decide) ?_
                  refine XS.lloadN X_42.here hx rfl (hb hby d15_90) rfl ?_
                  exact Steps.refl _
                obtain ⟨fs, hr, hrun, hended, hW, hsame⟩ := X_42.leave (v := some (.long acc_33)) (fun h => by rw [Bd.returns] at h; cases h)
                refine ⟨_, _, C_91.trans (retOut X_42 hx Bd.returns rfl (Or.inr (Or.inl ⟨rfl, rfl, _, rfl⟩)) (hb hby d15_91) hr), hrun, hended, _, _, rfl, ?_, ⟨_, rfl⟩, hW, hsame.mono (by decide) (by decide)⟩
                show Q_val Z G1 G3 x t kt nn cs h0 n0 (some (.long acc_33)) T_36.heap _
                rw [e_43]
                exact ⟨(congrArg (fun q => some (Value.long q)) (own_vend hl1 g_49 hc_73)), N_44, rfl⟩
      · skip
        have C_92 : Steps p.tables e below S0 (T_1.setTop (mkF m 39 #[.val (.ref x), .val (.int nn), .val (.long (0 : Int64)), .second, .val (.int (0 : Int32)), .unset] [])) := by
          refine C_17.trans ?_
          refine XS.icmpYes X_1.here hx rfl (pc0 := 17) (pc' := 34) rfl (hb hby d15_17) rfl (ii_le_t hc_18) (by decide) (by decide) ?_
          refine XS.lconst X_1.here hx rfl (hb hby d15_34) ?_
          refine XS.lstoreN X_1.here hx rfl (hb hby d15_35) rfl (l' := #[.val (.ref x), .val (.int nn), .val (.long (0 : Int64)), .second, .unset, .unset]) rfl ?_
          refine XS.iconst X_1.here hx rfl (hb hby d15_36) ?_
          refine XS.istore X_1.here hx rfl (hb hby d15_37) rfl (l' := #[.val (.ref x), .val (.int nn), .val (.long (0 : Int64)), .second, .val (.int (0 : Int32)), .unset]) rfl ?_
          exact Steps.refl _
        obtain ⟨acc_93, j_94, z5_95, T_96, L_97, I_98⟩ : ∃ (acc_93 : Int64) (j_94 : Int32) (z5_95 : Slot) (T_96 : State) (L_97 : List Loc), Stand p l e R_val s m #[(.ref x)] below meth c T_96 L_97 0 0 ∧ T_96.heap = h0 ∧ Fr n0 L_97 ∧ h0 = h0 ∧ (¬ (j_94 < (0 : Int32))) ∧ (¬ (nn < j_94)) ∧ (own_value cs = own_go (cs.drop j_94.toNatClampNeg) acc_93) ∧ (z5_95 = .unset ∨ ∃ v : Int32, z5_95 = .val (.int v)) ∧ Steps p.tables e below S0 (T_96.setTop (mkF m 39 #[.val (.ref x), .val (.int nn), .val (.long acc_93), .second, .val (.int j_94), z5_95] [])) := ⟨(0 : Int64), (0 : Int32), .unset, T_1, _, X_1, e_10, N_9, rfl, (by decide), hn0, (own_vgood hl1 hn0 hc_12 hc_15 (Or.inl hc_18)), Or.inl rfl, C_92⟩
        obtain ⟨d_99, hd_100⟩ : ∃ d : Nat, d = (nn.toNatClampNeg - j_94.toNatClampNeg) := ⟨_, rfl⟩
        induction d_99 using Nat.strongRecOn generalizing acc_93 j_94 z5_95 T_96 L_97 with
        | _ d_99 ih_101 =>
          obtain ⟨X_102, e_103, N_104, K_105, g_107, g_108, g_109, hz_110, C_106⟩ := I_98
          rcases hz_110 with rfl | ⟨v_111, rfl⟩
          · skip
            have C_112 : Steps p.tables e below S0 (T_96.setTop (mkF m 42 #[.val (.ref x), .val (.int nn), .val (.long acc_93), .second, .val (.int j_94), .unset] [(.int nn), (.int j_94)])) := by
              refine C_106.trans ?_
              refine XS.iload X_102.here hx rfl (hb hby d15_39) rfl ?_
              refine XS.iloadN X_102.here hx rfl (hb hby d15_41) rfl ?_
              exact Steps.refl _
            by_cases hc_113 : j_94 < nn
            · skip
              obtain ⟨q_115, q_116, q_117, q_118, q_119⟩ := isOf (T := T_96) hZ e_103 hp0
              obtain ⟨_, _, ⟨T_114, L_114, k_114, n_114⟩, -, X_114, ⟨Lc_114, hQ_114, l_114, y_114, z_114⟩, st_114⟩ := X_102.virtualBack hx (y := M186) (z := M186) hown (mvT hZ (w76 hw)) (mvT hZ (w77 hw)) (notFace_of_selects (args := #[]) (mvT hZ (w79 hw))) (mvT hZ (w79 hw)) (mvT hZ (w78 hw)) (by decide) (backOf (W := 0) (rm_chs l Z a0 hw [] G1 G3 HG h0 n0 X00 x t kt nn cs j_94 hp0 hp1 hp2 hp3 g_107 hc_113 hl1 hla) hZ (w80 hw) (w27 hw) (by decide) (by decide)) q_117 q_119 (g := (mkF m 48 #[.val (.ref x), .val (.int nn), .val (.long acc_93), .second, .val (.int j_94), .unset] [(.int j_94), (.ref x)])) rfl (by rw [hml]; rfl) (Steps.refl _) (argsL := [(.int j_94)]) (rest := []) (lenOf pd_295 rfl) rfl (by show 2 * 0 + _ ≤ _; exact Nat.le_of_eq rfl) (hb hby d15_48) (fun _ _ => ⟨rfl, e_103, (by decide : 0 + 0 ≤ _), (by decide : 0 + 0 ≤ _)⟩)
              dsimp only [Pt.U, Pt.locs, Pt.cells, Pt.slots] at X_114 l_114 y_114 z_114 st_114 hQ_114
              have X_114 := own_cast X_114 l_114 y_114 z_114
              obtain ⟨rfl, N_120, e_121⟩ := hQ_114
              have N_122 := Fr.app N_104 N_120
              have e_123 : T_114.heap = h0 := e_121
              have C_124 : Steps p.tables e below S0 (T_114.setTop (mkF m 57 #[.val (.ref x), .val (.int nn), .val (.long acc_93), .second, .val (.int j_94), .val (.int (own_gt cs j_94))] [(.int (48 : Int32)), (.int (own_gt cs j_94))])) := by
                refine C_112.trans ?_
                refine XS.icmpNo X_102.here hx rfl (hb hby d15_42) rfl (ii_ge_f hc_113) ?_
                refine XS.aloadN X_102.here hx rfl (hb hby d15_45) rfl rfl ?_
                refine XS.iload X_102.here hx rfl (hb hby d15_46) rfl ?_
                refine st_114.trans ?_
                refine XS.istore X_114.here hx rfl (hb hby d15_51) rfl (l' := #[.val (.ref x), .val (.int nn), .val (.long acc_93), .second, .val (.int j_94), .val (.int (own_gt cs j_94))]) rfl ?_
                refine XS.iload X_114.here hx rfl (hb hby d15_53) rfl ?_
                refine XS.bipush X_114.here hx rfl (hb hby d15_55) ?_
                exact Steps.refl _
              by_cases hc_125 : (own_gt cs j_94) < (48 : Int32)
              · skip
                have C_126 : Steps p.tables e below S0 (T_114.setTop (mkF m 70 #[.val (.ref x), .val (.int nn), .val (.long acc_93), .second, .val (.int j_94), .val (.int (own_gt cs j_94))] [(.long (-1 : Int64))])) := by
                  refine C_124.trans ?_
                  refine XS.icmpYes X_114.here hx rfl (pc0 := 57) (pc' := 67) rfl (hb hby d15_57) rfl (ii_lt_t hc_125) (by decide) (by decide) ?_
                  refine X_114.ldc2J hx hown (mvT hZ (w61 hw)) rfl (hb hby d15_67) ?_
                  exact Steps.refl _
                obtain ⟨fs, hr, hrun, hended, hW, hsame⟩ := X_114.leave (v := some (.long (-1 : Int64))) (fun h => by rw [Bd.returns] at h; cases h)
                refine ⟨_, _, C_126.trans (retOut X_114 hx Bd.returns rfl (Or.inr (Or.inl ⟨rfl, rfl, _, rfl⟩)) (hb hby d15_70) hr), hrun, hended, _, _, rfl, ?_, ⟨_, rfl⟩, hW, hsame.mono (by decide) (by decide)⟩
                show Q_val Z G1 G3 x t kt nn cs h0 n0 (some (.long (-1 : Int64))) T_114.heap _
                rw [e_123]
                exact ⟨(congrArg (fun q => some (Value.long q)) (own_vstop hl1 g_109 g_107 hc_113 (own_isdF1 hc_125))), N_122, rfl⟩
              · skip
                have C_127 : Steps p.tables e below S0 (T_114.setTop (mkF m 64 #[.val (.ref x), .val (.int nn), .val (.long acc_93), .second, .val (.int j_94), .val (.int (own_gt cs j_94))] [(.int (57 : Int32)), (.int (own_gt cs j_94))])) := by
                  refine C_124.trans ?_
                  refine XS.icmpNo X_114.here hx rfl (hb hby d15_57) rfl (ii_lt_f hc_125) ?_
                  refine XS.iload X_114.here hx rfl (hb hby d15_60) rfl ?_
                  refine XS.bipush X_114.here hx rfl (hb hby d15_62) ?_
                  exact Steps.refl _
                by_cases hc_128 : (57 : Int32) < (own_gt cs j_94)
                · skip
                  have C_129 : Steps p.tables e below S0 (T_114.setTop (mkF m 70 #[.val (.ref x), .val (.int nn), .val (.long acc_93), .second, .val (.int j_94), .val (.int (own_gt cs j_94))] [(.long (-1 : Int64))])) := by
                    refine C_127.trans ?_
                    refine XS.icmpNo X_114.here hx rfl (hb hby d15_64) rfl (ii_le_f hc_128) ?_
                    refine X_114.ldc2J hx hown (mvT hZ (w61 hw)) rfl (hb hby d15_67) ?_
                    exact Steps.refl _
                  obtain ⟨fs, hr, hrun, hended, hW, hsame⟩ := X_114.leave (v := some (.long (-1 : Int64))) (fun h => by rw [Bd.returns] at h; cases h)
                  refine ⟨_, _, C_129.trans (retOut X_114 hx Bd.returns rfl (Or.inr (Or.inl ⟨rfl, rfl, _, rfl⟩)) (hb hby d15_70) hr), hrun, hended, _, _, rfl, ?_, ⟨_, rfl⟩, hW, hsame.mono (by decide) (by decide)⟩
                  show Q_val Z G1 G3 x t kt nn cs h0 n0 (some (.long (-1 : Int64))) T_114.heap _
                  rw [e_123]
                  exact ⟨(congrArg (fun q => some (Value.long q)) (own_vstop hl1 g_109 g_107 hc_113 (own_isdF2 hc_128))), N_122, rfl⟩
                · skip
                  have C_130 : Steps p.tables e below S0 (T_114.setTop (mkF m 39 #[.val (.ref x), .val (.int nn), .val (.long ((acc_93 * (10 : Int64)) + (((own_gt cs j_94) - (48 : Int32)).toInt64))), .second, .val (.int (j_94 + (1 : Int32))), .val (.int (own_gt cs j_94))] [])) := by
                    refine C_127.trans ?_
                    refine XS.icmpYes X_114.here hx rfl (pc0 := 64) (pc' := 71) rfl (hb hby d15_64) rfl (ii_le_t hc_128) (by decide) (by decide) ?_
                    refine XS.lloadN X_114.here hx rfl (hb hby d15_71) rfl ?_
                    refine X_114.ldc2J hx hown (mvT hZ (w98 hw)) rfl (hb hby d15_72) ?_
                    refine XS.lmul X_114.here hx rfl (hb hby d15_75) rfl ?_
                    refine XS.iload X_114.here hx rfl (hb hby d15_76) rfl ?_
                    refine XS.bipush X_114.here hx rfl (hb hby d15_78) ?_
                    refine XS.isub X_114.here hx rfl (hb hby d15_80) rfl ?_
                    refine XS.i2l X_114.here hx rfl (hb hby d15_81) rfl ?_
                    show Steps p.tables e below (T_114.setTop (mkF m 82 #[.val (.ref x), .val (.int nn), .val (.long acc_93), .second, .val (.int j_94), .val (.int (own_gt cs j_94))] [(.long (((own_gt cs j_94) - (48 : Int32)).toInt64)), (.long (acc_93 * (10 : Int64)))])) _
                    refine XS.ladd X_114.here hx rfl (hb hby d15_82) rfl ?_
                    refine XS.lstoreN X_114.here hx rfl (hb hby d15_83) rfl (l' := #[.val (.ref x), .val (.int nn), .val (.long ((acc_93 * (10 : Int64)) + (((own_gt cs j_94) - (48 : Int32)).toInt64))), .second, .val (.int j_94), .val (.int (own_gt cs j_94))]) rfl ?_
                    refine XS.iinc X_114.here hx rfl (hb hby d15_84) (x := j_94) rfl (l' := #[.val (.ref x), .val (.int nn), .val (.long ((acc_93 * (10 : Int64)) + (((own_gt cs j_94) - (48 : Int32)).toInt64))), .second, .val (.int (j_94 + (1 : Int32))), .val (.int (own_gt cs j_94))]) rfl ?_
                    refine XS.goto X_114.here hx rfl (pc0 := 87) (pc' := 39) rfl (hb hby d15_87) (by decide) (by decide) ?_
                    exact Steps.refl _
                  exact ih_101 _ (by rw [hd_100]; exact (own_dec g_107 hc_113)) ((acc_93 * (10 : Int64)) + (((own_gt cs j_94) - (48 : Int32)).toInt64)) (j_94 + (1 : Int32)) (.val (.int (own_gt cs j_94))) _ _  ⟨X_114, e_123, N_122, rfl, (own_nat g_107 hc_113).2.2.1, (own_nat g_107 hc_113).2.2.2, (own_vstep hl1 g_109 g_107 hc_113 (own_nat g_107 hc_113).2.1 (own_isdT hc_125 hc_128)), Or.inr ⟨_, rfl⟩, C_130⟩ rfl
            · skip
              have C_131 : Steps p.tables e below S0 (T_96.setTop (mkF m 91 #[.val (.ref x), .val (.int nn), .val (.long acc_93), .second, .val (.int j_94), .unset] [(.long acc_93)])) := by
                refine C_112.trans ?_
                refine XS.icmpYes X_102.here hx rfl (pc0 := 42) (pc' := 90) rfl (hb hby d15_42) rfl (ii_ge_t hc_113) (by decide) (by decide) ?_
                refine XS.lloadN X_102.here hx rfl (hb hby d15_90) rfl ?_
                exact Steps.refl _
              obtain ⟨fs, hr, hrun, hended, hW, hsame⟩ := X_102.leave (v := some (.long acc_93)) (fun h => by rw [Bd.returns] at h; cases h)
              refine ⟨_, _, C_131.trans (retOut X_102 hx Bd.returns rfl (Or.inr (Or.inl ⟨rfl, rfl, _, rfl⟩)) (hb hby d15_91) hr), hrun, hended, _, _, rfl, ?_, ⟨_, rfl⟩, hW, hsame.mono (by decide) (by decide)⟩
              show Q_val Z G1 G3 x t kt nn cs h0 n0 (some (.long acc_93)) T_96.heap _
              rw [e_103]
              exact ⟨(congrArg (fun q => some (Value.long q)) (own_vend hl1 g_109 hc_113)), N_104, rfl⟩
          · skip
            have C_132 : Steps p.tables e below S0 (T_96.setTop (mkF m 42 #[.val (.ref x), .val (.int nn), .val (.long acc_93), .second, .val (.int j_94), .val (.int v_111)] [(.int nn), (.int j_94)])) := by
              refine C_106.trans ?_
              refine XS.iload X_102.here hx rfl (hb hby d15_39) rfl ?_
              refine XS.iloadN X_102.here hx rfl (hb hby d15_41) rfl ?_
              exact Steps.refl _
            by_cases hc_133 : j_94 < nn
            · skip
              obtain ⟨q_135, q_136, q_137, q_138, q_139⟩ := isOf (T := T_96) hZ e_103 hp0
              obtain ⟨_, _, ⟨T_134, L_134, k_134, n_134⟩, -, X_134, ⟨Lc_134, hQ_134, l_134, y_134, z_134⟩, st_134⟩ := X_102.virtualBack hx (y := M186) (z := M186) hown (mvT hZ (w76 hw)) (mvT hZ (w77 hw)) (notFace_of_selects (args := #[]) (mvT hZ (w79 hw))) (mvT hZ (w79 hw)) (mvT hZ (w78 hw)) (by decide) (backOf (W := 0) (rm_chs l Z a0 hw [] G1 G3 HG h0 n0 X00 x t kt nn cs j_94 hp0 hp1 hp2 hp3 g_107 hc_133 hl1 hla) hZ (w80 hw) (w27 hw) (by decide) (by decide)) q_137 q_139 (g := (mkF m 48 #[.val (.ref x), .val (.int nn), .val (.long acc_93), .second, .val (.int j_94), .val (.int v_111)] [(.int j_94), (.ref x)])) rfl (by rw [hml]; rfl) (Steps.refl _) (argsL := [(.int j_94)]) (rest := []) (lenOf pd_295 rfl) rfl (by show 2 * 0 + _ ≤ _; exact Nat.le_of_eq rfl) (hb hby d15_48) (fun _ _ => ⟨rfl, e_103, (by decide : 0 + 0 ≤ _), (by decide : 0 + 0 ≤ _)⟩)
              dsimp only [Pt.U, Pt.locs, Pt.cells, Pt.slots] at X_134 l_134 y_134 z_134 st_134 hQ_134
              have X_134 := own_cast X_134 l_134 y_134 z_134
              obtain ⟨rfl, N_140, e_141⟩ := hQ_134
              have N_142 := Fr.app N_104 N_140
              have e_143 : T_134.heap = h0 := e_141
              have C_144 : Steps p.tables e below S0 (T_134.setTop (mkF m 57 #[.val (.ref x), .val (.int nn), .val (.long acc_93), .second, .val (.int j_94), .val (.int (own_gt cs j_94))] [(.int (48 : Int32)), (.int (own_gt cs j_94))])) := by
                refine C_132.trans ?_
                refine XS.icmpNo X_102.here hx rfl (hb hby d15_42) rfl (ii_ge_f hc_133) ?_
                refine XS.aloadN X_102.here hx rfl (hb hby d15_45) rfl rfl ?_
                refine XS.iload X_102.here hx rfl (hb hby d15_46) rfl ?_
                refine st_134.trans ?_
                refine XS.istore X_134.here hx rfl (hb hby d15_51) rfl (l' := #[.val (.ref x), .val (.int nn), .val (.long acc_93), .second, .val (.int j_94), .val (.int (own_gt cs j_94))]) rfl ?_
                refine XS.iload X_134.here hx rfl (hb hby d15_53) rfl ?_
                refine XS.bipush X_134.here hx rfl (hb hby d15_55) ?_
                exact Steps.refl _
              by_cases hc_145 : (own_gt cs j_94) < (48 : Int32)
              · skip
                have C_146 : Steps p.tables e below S0 (T_134.setTop (mkF m 70 #[.val (.ref x), .val (.int nn), .val (.long acc_93), .second, .val (.int j_94), .val (.int (own_gt cs j_94))] [(.long (-1 : Int64))])) := by
                  refine C_144.trans ?_
                  refine XS.icmpYes X_134.here hx rfl (pc0 := 57) (pc' := 67) rfl (hb hby d15_57) rfl (ii_lt_t hc_145) (by decide) (by decide) ?_
                  refine X_134.ldc2J hx hown (mvT hZ (w61 hw)) rfl (hb hby d15_67) ?_
                  exact Steps.refl _
                obtain ⟨fs, hr, hrun, hended, hW, hsame⟩ := X_134.leave (v := some (.long (-1 : Int64))) (fun h => by rw [Bd.returns] at h; cases h)
                refine ⟨_, _, C_146.trans (retOut X_134 hx Bd.returns rfl (Or.inr (Or.inl ⟨rfl, rfl, _, rfl⟩)) (hb hby d15_70) hr), hrun, hended, _, _, rfl, ?_, ⟨_, rfl⟩, hW, hsame.mono (by decide) (by decide)⟩
                show Q_val Z G1 G3 x t kt nn cs h0 n0 (some (.long (-1 : Int64))) T_134.heap _
                rw [e_143]
                exact ⟨(congrArg (fun q => some (Value.long q)) (own_vstop hl1 g_109 g_107 hc_133 (own_isdF1 hc_145))), N_142, rfl⟩
              · skip
                have C_147 : Steps p.tables e below S0 (T_134.setTop (mkF m 64 #[.val (.ref x), .val (.int nn), .val (.long acc_93), .second, .val (.int j_94), .val (.int (own_gt cs j_94))] [(.int (57 : Int32)), (.int (own_gt cs j_94))])) := by
                  refine C_144.trans ?_
                  refine XS.icmpNo X_134.here hx rfl (hb hby d15_57) rfl (ii_lt_f hc_145) ?_
                  refine XS.iload X_134.here hx rfl (hb hby d15_60) rfl ?_
                  refine XS.bipush X_134.here hx rfl (hb hby d15_62) ?_
                  exact Steps.refl _
                by_cases hc_148 : (57 : Int32) < (own_gt cs j_94)
                · skip
                  have C_149 : Steps p.tables e below S0 (T_134.setTop (mkF m 70 #[.val (.ref x), .val (.int nn), .val (.long acc_93), .second, .val (.int j_94), .val (.int (own_gt cs j_94))] [(.long (-1 : Int64))])) := by
                    refine C_147.trans ?_
                    refine XS.icmpNo X_134.here hx rfl (hb hby d15_64) rfl (ii_le_f hc_148) ?_
                    refine X_134.ldc2J hx hown (mvT hZ (w61 hw)) rfl (hb hby d15_67) ?_
                    exact Steps.refl _
                  obtain ⟨fs, hr, hrun, hended, hW, hsame⟩ := X_134.leave (v := some (.long (-1 : Int64))) (fun h => by rw [Bd.returns] at h; cases h)
                  refine ⟨_, _, C_149.trans (retOut X_134 hx Bd.returns rfl (Or.inr (Or.inl ⟨rfl, rfl, _, rfl⟩)) (hb hby d15_70) hr), hrun, hended, _, _, rfl, ?_, ⟨_, rfl⟩, hW, hsame.mono (by decide) (by decide)⟩
                  show Q_val Z G1 G3 x t kt nn cs h0 n0 (some (.long (-1 : Int64))) T_134.heap _
                  rw [e_143]
                  exact ⟨(congrArg (fun q => some (Value.long q)) (own_vstop hl1 g_109 g_107 hc_133 (own_isdF2 hc_148))), N_142, rfl⟩
                · skip
                  have C_150 : Steps p.tables e below S0 (T_134.setTop (mkF m 39 #[.val (.ref x), .val (.int nn), .val (.long ((acc_93 * (10 : Int64)) + (((own_gt cs j_94) - (48 : Int32)).toInt64))), .second, .val (.int (j_94 + (1 : Int32))), .val (.int (own_gt cs j_94))] [])) := by
                    refine C_147.trans ?_
                    refine XS.icmpYes X_134.here hx rfl (pc0 := 64) (pc' := 71) rfl (hb hby d15_64) rfl (ii_le_t hc_148) (by decide) (by decide) ?_
                    refine XS.lloadN X_134.here hx rfl (hb hby d15_71) rfl ?_
                    refine X_134.ldc2J hx hown (mvT hZ (w98 hw)) rfl (hb hby d15_72) ?_
                    refine XS.lmul X_134.here hx rfl (hb hby d15_75) rfl ?_
                    refine XS.iload X_134.here hx rfl (hb hby d15_76) rfl ?_
                    refine XS.bipush X_134.here hx rfl (hb hby d15_78) ?_
                    refine XS.isub X_134.here hx rfl (hb hby d15_80) rfl ?_
                    refine XS.i2l X_134.here hx rfl (hb hby d15_81) rfl ?_
                    show Steps p.tables e below (T_134.setTop (mkF m 82 #[.val (.ref x), .val (.int nn), .val (.long acc_93), .second, .val (.int j_94), .val (.int (own_gt cs j_94))] [(.long (((own_gt cs j_94) - (48 : Int32)).toInt64)), (.long (acc_93 * (10 : Int64)))])) _
                    refine XS.ladd X_134.here hx rfl (hb hby d15_82) rfl ?_
                    refine XS.lstoreN X_134.here hx rfl (hb hby d15_83) rfl (l' := #[.val (.ref x), .val (.int nn), .val (.long ((acc_93 * (10 : Int64)) + (((own_gt cs j_94) - (48 : Int32)).toInt64))), .second, .val (.int j_94), .val (.int (own_gt cs j_94))]) rfl ?_
                    refine XS.iinc X_134.here hx rfl (hb hby d15_84) (x := j_94) rfl (l' := #[.val (.ref x), .val (.int nn), .val (.long ((acc_93 * (10 : Int64)) + (((own_gt cs j_94) - (48 : Int32)).toInt64))), .second, .val (.int (j_94 + (1 : Int32))), .val (.int (own_gt cs j_94))]) rfl ?_
                    refine XS.goto X_134.here hx rfl (pc0 := 87) (pc' := 39) rfl (hb hby d15_87) (by decide) (by decide) ?_
                    exact Steps.refl _
                  exact ih_101 _ (by rw [hd_100]; exact (own_dec g_107 hc_133)) ((acc_93 * (10 : Int64)) + (((own_gt cs j_94) - (48 : Int32)).toInt64)) (j_94 + (1 : Int32)) (.val (.int (own_gt cs j_94))) _ _  ⟨X_134, e_143, N_142, rfl, (own_nat g_107 hc_133).2.2.1, (own_nat g_107 hc_133).2.2.2, (own_vstep hl1 g_109 g_107 hc_133 (own_nat g_107 hc_133).2.1 (own_isdT hc_145 hc_148)), Or.inr ⟨_, rfl⟩, C_150⟩ rfl
            · skip
              have C_151 : Steps p.tables e below S0 (T_96.setTop (mkF m 91 #[.val (.ref x), .val (.int nn), .val (.long acc_93), .second, .val (.int j_94), .val (.int v_111)] [(.long acc_93)])) := by
                refine C_132.trans ?_
                refine XS.icmpYes X_102.here hx rfl (pc0 := 42) (pc' := 90) rfl (hb hby d15_42) rfl (ii_ge_t hc_133) (by decide) (by decide) ?_
                refine XS.lloadN X_102.here hx rfl (hb hby d15_90) rfl ?_
                exact Steps.refl _
              obtain ⟨fs, hr, hrun, hended, hW, hsame⟩ := X_102.leave (v := some (.long acc_93)) (fun h => by rw [Bd.returns] at h; cases h)
              refine ⟨_, _, C_151.trans (retOut X_102 hx Bd.returns rfl (Or.inr (Or.inl ⟨rfl, rfl, _, rfl⟩)) (hb hby d15_91) hr), hrun, hended, _, _, rfl, ?_, ⟨_, rfl⟩, hW, hsame.mono (by decide) (by decide)⟩
              show Q_val Z G1 G3 x t kt nn cs h0 n0 (some (.long acc_93)) T_96.heap _
              rw [e_103]
              exact ⟨(congrArg (fun q => some (Value.long q)) (own_vend hl1 g_109 hc_133)), N_104, rfl⟩
abbrev R_val0 : Room := { frames := 2, cells := 0, slots := 0, locals := 25 }
def Q_val0 (Z : State) (G1 : Int32) (G3 : Value) (x : Addr) (t : Addr) (kt : ClassId) (h0 : Heap) (n0 : Nat) (v : Option Value) (h : Heap) (L : List Loc) : Prop := (v = some (.long (-1 : Int64)) ∧ Fr n0 L ∧ h = h0)
set_option maxRecDepth 65536 in
set_option maxHeartbeats 40000000 in
theorem rm_val0 (l : Launch) (Z : State) (a0 : Array Value) (hw : ∀ d ∈ tables_1, d.before a0 Z = true) (ws : List Jvm.Cond) (G1 : Int32) (G3 : Value) (HG : own_G l Z a0 G1 G3) (h0 : Heap) (n0 : Nat) (X00 : Old Z n0 h0) (x : Addr) (t : Addr) (kt : ClassId) (hp0 : Exa Z h0 x "java/lang/String") (hp1 : Fld Z h0 x "java/lang/String" "coder" "B" (.int (0 : Int32))) (hp2 : Fld Z h0 x "java/lang/String" "value" "[B" (.ref t)) (hp3 : Arv Z h0 t kt .byte (0 : Int32) [] (.int (0 : Int32))) :
    own_CP l Z M269 prog_30_method_3_code 6 (some .long) ws R_val0 #[(.ref x)] h0 (Q_val0 Z G1 G3 x t kt h0 n0) := by
  refine own_P (plainFor_of_name pn_271) ?_
  intro p e s m below meth c s₁ S0 Bd hZ hh hx hby hml hown hnm X0 e0 hS0d
  obtain ⟨O1, P1, O3f, rG3⟩ := id HG
  have N0 := Fr.nil n0
  have C0 : Steps p.tables e below S0 (s₁.setTop (mkF m 0 #[.val (.ref x), .unset, .unset, .unset, .unset, .unset] [])) := by rw [hS0d]; exact castTop (ef_270 m x) (Steps.refl _)
  obtain ⟨q_2, q_3, q_4, q_5, q_6⟩ := isOf (T := s₁) hZ e0 hp0
  obtain ⟨_, _, ⟨T_1, L_1, k_1, n_1⟩, -, X_1, ⟨Lc_1, hQ_1, l_1, y_1, z_1⟩, st_1⟩ := X0.virtualBack hx (y := M131) (z := M131) hown (mvT hZ (w50 hw)) (mvT hZ (w51 hw)) (notFace_of_selects (args := #[]) (mvT hZ (w53 hw))) (mvT hZ (w53 hw)) (mvT hZ (w52 hw)) (by decide) (backOf (W := 0) (rm_lens l Z a0 hw [] G1 G3 HG h0 n0 X00 x t kt (0 : Int32) [] hp0 hp1 hp2 hp3) hZ (w54 hw) (w27 hw) (by decide) (by decide)) q_4 q_6 (g := (mkF m 1 #[.val (.ref x), .unset, .unset, .unset, .unset, .unset] [(.ref x)])) rfl (by rw [hml]; rfl) (Steps.refl _) (argsL := []) (rest := []) (lenOf pd_274 rfl) rfl (by show 2 * 0 + _ ≤ _; exact Nat.le_of_eq rfl) (hb hby d15_1) (fun _ _ => ⟨rfl, e0, (by decide : 0 + 0 ≤ _), (by decide : 0 + 0 ≤ _)⟩)
  dsimp only [Pt.U, Pt.locs, Pt.cells, Pt.slots] at X_1 l_1 y_1 z_1 st_1 hQ_1
  have X_1 := own_cast X_1 l_1 y_1 z_1
  obtain ⟨rfl, N_7, e_8⟩ := hQ_1
  have N_9 := Fr.app N0 N_7
  have e_10 : T_1.heap = h0 := e_8
  have C_11 : Steps p.tables e below S0 (T_1.setTop (mkF m 33 #[.val (.ref x), .val (.int (0 : Int32)), .unset, .unset, .unset, .unset] [(.long (-1 : Int64))])) := by
    refine C0.trans ?_
    refine XS.aloadN X0.here hx rfl (hb hby d15_0) rfl rfl ?_
    refine st_1.trans ?_
    refine XS.istoreN X_1.here hx rfl (hb hby d15_4) rfl (l' := #[.val (.ref x), .val (.int (0 : Int32)), .unset, .unset, .unset, .unset]) rfl ?_
    refine XS.iloadN X_1.here hx rfl (hb hby d15_5) rfl ?_
    refine XS.ifYes X_1.here hx rfl (pc0 := 6) (pc' := 30) rfl (hb hby d15_6) rfl (by decide) (by decide) (by decide) ?_
    refine X_1.ldc2J hx hown (mvT hZ (w61 hw)) rfl (hb hby d15_30) ?_
    exact Steps.refl _
  obtain ⟨fs, hr, hrun, hended, hW, hsame⟩ := X_1.leave (v := some (.long (-1 : Int64))) (fun h => by rw [Bd.returns] at h; cases h)
  refine ⟨_, _, C_11.trans (retOut X_1 hx Bd.returns rfl (Or.inr (Or.inl ⟨rfl, rfl, _, rfl⟩)) (hb hby d15_33) hr), hrun, hended, _, _, rfl, ?_, ⟨_, rfl⟩, hW, hsame.mono (by decide) (by decide)⟩
  show Q_val0 Z G1 G3 x t kt h0 n0 (some (.long (-1 : Int64))) T_1.heap _
  rw [e_10]
  exact ⟨rfl, N_9, rfl⟩
theorem ef_336 (m : MethodId) (x0 : Int32) (x1 : Int64) (x2 : Int32) (x3 : Int32) : entryFrame m #[(.int x0), (.long x1), (.int x2), (.int x3)] maxLocals = mkF m 0 #[.val (.int x0), .val (.long x1), .second, .val (.int x2), .val (.int x3), .unset, .unset, .unset, .unset, .unset, .unset, .unset, .unset, .unset, .unset, .unset, .unset, .unset, .unset, .unset, .unset, .unset, .unset] [] := by first | (simp [entryFrame, mkF, argsToLocals, Value.category, maxLocals]; done) | rfl
theorem w0 {Z : State} {a0 : Array Value} (hw : ∀ d ∈ tables_1, d.before a0 Z = true) : Jvm.Cond.before (Jvm.Cond.arrayClass Jvm.ClassFile.FieldType.long) a0 Z = true := hw _ (List.mem_of_getElem? (i := 0) rfl)
theorem w2 {Z : State} {a0 : Array Value} (hw : ∀ d ∈ tables_1, d.before a0 Z = true) : Jvm.Cond.before (Jvm.Cond.constantLong "com/example/fleetyard/fleetyard/model/IdsValuePinLaw" (15 : Nat) (100 : Int64)) a0 Z = true := hw _ (List.mem_of_getElem? (i := 2) rfl)
theorem w3 {Z : State} {a0 : Array Value} (hw : ∀ d ∈ tables_1, d.before a0 Z = true) : Jvm.Cond.before (Jvm.Cond.constantLong "com/example/fleetyard/fleetyard/model/IdsValuePinLaw" (17 : Nat) (1000 : Int64)) a0 Z = true := hw _ (List.mem_of_getElem? (i := 3) rfl)
theorem w4 {Z : State} {a0 : Array Value} (hw : ∀ d ∈ tables_1, d.before a0 Z = true) : Jvm.Cond.before (Jvm.Cond.constantLong "com/example/fleetyard/fleetyard/model/IdsValuePinLaw" (19 : Nat) (10000 : Int64)) a0 Z = true := hw _ (List.mem_of_getElem? (i := 4) rfl)
theorem w5 {Z : State} {a0 : Array Value} (hw : ∀ d ∈ tables_1, d.before a0 Z = true) : Jvm.Cond.before (Jvm.Cond.constantLong "com/example/fleetyard/fleetyard/model/IdsValuePinLaw" (21 : Nat) (100000 : Int64)) a0 Z = true := hw _ (List.mem_of_getElem? (i := 5) rfl)
theorem w6 {Z : State} {a0 : Array Value} (hw : ∀ d ∈ tables_1, d.before a0 Z = true) : Jvm.Cond.before (Jvm.Cond.constantLong "com/example/fleetyard/fleetyard/model/IdsValuePinLaw" (23 : Nat) (1000000 : Int64)) a0 Z = true := hw _ (List.mem_of_getElem? (i := 6) rfl)
theorem w7 {Z : State} {a0 : Array Value} (hw : ∀ d ∈ tables_1, d.before a0 Z = true) : Jvm.Cond.before (Jvm.Cond.constantLong "com/example/fleetyard/fleetyard/model/IdsValuePinLaw" (25 : Nat) (10000000 : Int64)) a0 Z = true := hw _ (List.mem_of_getElem? (i := 7) rfl)
theorem w8 {Z : State} {a0 : Array Value} (hw : ∀ d ∈ tables_1, d.before a0 Z = true) : Jvm.Cond.before (Jvm.Cond.constantLong "com/example/fleetyard/fleetyard/model/IdsValuePinLaw" (27 : Nat) (100000000 : Int64)) a0 Z = true := hw _ (List.mem_of_getElem? (i := 8) rfl)
theorem w9 {Z : State} {a0 : Array Value} (hw : ∀ d ∈ tables_1, d.before a0 Z = true) : Jvm.Cond.before (Jvm.Cond.constantLong "com/example/fleetyard/fleetyard/model/IdsValuePinLaw" (29 : Nat) (1000000000 : Int64)) a0 Z = true := hw _ (List.mem_of_getElem? (i := 9) rfl)
theorem w10 {Z : State} {a0 : Array Value} (hw : ∀ d ∈ tables_1, d.before a0 Z = true) : Jvm.Cond.before (Jvm.Cond.constantLong "com/example/fleetyard/fleetyard/model/IdsValuePinLaw" (31 : Nat) (10000000000 : Int64)) a0 Z = true := hw _ (List.mem_of_getElem? (i := 10) rfl)
theorem w11 {Z : State} {a0 : Array Value} (hw : ∀ d ∈ tables_1, d.before a0 Z = true) : Jvm.Cond.before (Jvm.Cond.constantLong "com/example/fleetyard/fleetyard/model/IdsValuePinLaw" (33 : Nat) (100000000000 : Int64)) a0 Z = true := hw _ (List.mem_of_getElem? (i := 11) rfl)
theorem w12 {Z : State} {a0 : Array Value} (hw : ∀ d ∈ tables_1, d.before a0 Z = true) : Jvm.Cond.before (Jvm.Cond.constantLong "com/example/fleetyard/fleetyard/model/IdsValuePinLaw" (35 : Nat) (1000000000000 : Int64)) a0 Z = true := hw _ (List.mem_of_getElem? (i := 12) rfl)
theorem w13 {Z : State} {a0 : Array Value} (hw : ∀ d ∈ tables_1, d.before a0 Z = true) : Jvm.Cond.before (Jvm.Cond.constantLong "com/example/fleetyard/fleetyard/model/IdsValuePinLaw" (37 : Nat) (10000000000000 : Int64)) a0 Z = true := hw _ (List.mem_of_getElem? (i := 13) rfl)
theorem w14 {Z : State} {a0 : Array Value} (hw : ∀ d ∈ tables_1, d.before a0 Z = true) : Jvm.Cond.before (Jvm.Cond.constantLong "com/example/fleetyard/fleetyard/model/IdsValuePinLaw" (39 : Nat) (100000000000000 : Int64)) a0 Z = true := hw _ (List.mem_of_getElem? (i := 14) rfl)
theorem w15 {Z : State} {a0 : Array Value} (hw : ∀ d ∈ tables_1, d.before a0 Z = true) : Jvm.Cond.before (Jvm.Cond.constantLong "com/example/fleetyard/fleetyard/model/IdsValuePinLaw" (41 : Nat) (1000000000000000 : Int64)) a0 Z = true := hw _ (List.mem_of_getElem? (i := 15) rfl)
theorem w16 {Z : State} {a0 : Array Value} (hw : ∀ d ∈ tables_1, d.before a0 Z = true) : Jvm.Cond.before (Jvm.Cond.constantLong "com/example/fleetyard/fleetyard/model/IdsValuePinLaw" (43 : Nat) (10000000000000000 : Int64)) a0 Z = true := hw _ (List.mem_of_getElem? (i := 16) rfl)
theorem w17 {Z : State} {a0 : Array Value} (hw : ∀ d ∈ tables_1, d.before a0 Z = true) : Jvm.Cond.before (Jvm.Cond.constantLong "com/example/fleetyard/fleetyard/model/IdsValuePinLaw" (45 : Nat) (100000000000000000 : Int64)) a0 Z = true := hw _ (List.mem_of_getElem? (i := 17) rfl)
theorem w18 {Z : State} {a0 : Array Value} (hw : ∀ d ∈ tables_1, d.before a0 Z = true) : Jvm.Cond.before (Jvm.Cond.constantLong "com/example/fleetyard/fleetyard/model/IdsValuePinLaw" (47 : Nat) (1000000000000000000 : Int64)) a0 Z = true := hw _ (List.mem_of_getElem? (i := 18) rfl)
theorem w19 {Z : State} {a0 : Array Value} (hw : ∀ d ∈ tables_1, d.before a0 Z = true) : Jvm.Cond.before (Jvm.Cond.constantLong "com/example/fleetyard/fleetyard/model/IdsValuePinLaw" (51 : Nat) (9223372036854775807 : Int64)) a0 Z = true := hw _ (List.mem_of_getElem? (i := 19) rfl)
theorem w20 {Z : State} {a0 : Array Value} (hw : ∀ d ∈ tables_1, d.before a0 Z = true) : Jvm.Cond.before (Jvm.Cond.arrayClass Jvm.ClassFile.FieldType.char) a0 Z = true := hw _ (List.mem_of_getElem? (i := 20) rfl)
theorem w24 {Z : State} {a0 : Array Value} (hw : ∀ d ∈ tables_1, d.before a0 Z = true) : Jvm.Cond.before (Jvm.Cond.code ({ cls := "com/example/fleetyard/fleetyard/model/IdsValuePinLaw", name := "put", desc := "([C[JJI)V" } : Jvm.MethodName) method_3_code (5 : Nat) (Option.none : Option Jvm.ClassFile.FieldType)) a0 Z = true := hw _ (List.mem_of_getElem? (i := 24) rfl)
theorem pd_358 : parseMethodDescriptor "([C[JJI)V" = some ⟨[(.array .char), (.array .long), .long, .int], none⟩ := by decide +kernel
theorem w21 {Z : State} {a0 : Array Value} (hw : ∀ d ∈ tables_1, d.before a0 Z = true) : Jvm.Cond.before (Jvm.Cond.methodLink "com/example/fleetyard/fleetyard/model/IdsValuePinLaw" (53 : Nat) ({ cls := "com/example/fleetyard/fleetyard/model/IdsValuePinLaw", name := "put", desc := "([C[JJI)V" } : Jvm.MethodName)) a0 Z = true := hw _ (List.mem_of_getElem? (i := 21) rfl)
theorem w22 {Z : State} {a0 : Array Value} (hw : ∀ d ∈ tables_1, d.before a0 Z = true) : Jvm.Cond.before (Jvm.Cond.static ({ cls := "com/example/fleetyard/fleetyard/model/IdsValuePinLaw", name := "put", desc := "([C[JJI)V" } : Jvm.MethodName)) a0 Z = true := hw _ (List.mem_of_getElem? (i := 22) rfl)
theorem w25 {Z : State} {a0 : Array Value} (hw : ∀ d ∈ tables_1, d.before a0 Z = true) : Jvm.Cond.before (Jvm.Cond.classLink "com/example/fleetyard/fleetyard/model/IdsValuePinLaw" (58 : Nat) "java/lang/String") a0 Z = true := hw _ (List.mem_of_getElem? (i := 25) rfl)
theorem w30 {Z : State} {a0 : Array Value} (hw : ∀ d ∈ tables_1, d.before a0 Z = true) : Jvm.Cond.before (Jvm.Cond.code ({ cls := "java/lang/String", name := "<init>", desc := "([C)V" } : Jvm.MethodName) jdk_42_method_3_code (2 : Nat) (Option.none : Option Jvm.ClassFile.FieldType)) a0 Z = true := hw _ (List.mem_of_getElem? (i := 30) rfl)
theorem pd_363 : parseMethodDescriptor "([C)V" = some ⟨[(.array .char)], none⟩ := by decide +kernel
theorem w28 {Z : State} {a0 : Array Value} (hw : ∀ d ∈ tables_1, d.before a0 Z = true) : Jvm.Cond.before (Jvm.Cond.methodLink "com/example/fleetyard/fleetyard/model/IdsValuePinLaw" (60 : Nat) ({ cls := "java/lang/String", name := "<init>", desc := "([C)V" } : Jvm.MethodName)) a0 Z = true := hw _ (List.mem_of_getElem? (i := 28) rfl)
theorem w29 {Z : State} {a0 : Array Value} (hw : ∀ d ∈ tables_1, d.before a0 Z = true) : Jvm.Cond.before (Jvm.Cond.instanceMethod ({ cls := "java/lang/String", name := "<init>", desc := "([C)V" } : Jvm.MethodName)) a0 Z = true := hw _ (List.mem_of_getElem? (i := 29) rfl)
theorem w49 {Z : State} {a0 : Array Value} (hw : ∀ d ∈ tables_1, d.before a0 Z = true) : Jvm.Cond.before (Jvm.Cond.code ({ cls := "com/example/fleetyard/fleetyard/model/Ids", name := "value", desc := "(Ljava/lang/String;)J" } : Jvm.MethodName) prog_30_method_3_code (6 : Nat) (Option.some Jvm.ClassFile.FieldType.long)) a0 Z = true := hw _ (List.mem_of_getElem? (i := 49) rfl)
theorem w48 {Z : State} {a0 : Array Value} (hw : ∀ d ∈ tables_1, d.before a0 Z = true) : Jvm.Cond.before (Jvm.Cond.initialized "com/example/fleetyard/fleetyard/model/Ids") a0 Z = true := hw _ (List.mem_of_getElem? (i := 48) rfl)
theorem pd_368 : parseMethodDescriptor "(Ljava/lang/String;)J" = some ⟨[(.object "java/lang/String")], some .long⟩ := by decide +kernel
theorem w46 {Z : State} {a0 : Array Value} (hw : ∀ d ∈ tables_1, d.before a0 Z = true) : Jvm.Cond.before (Jvm.Cond.methodLink "com/example/fleetyard/fleetyard/model/IdsValuePinLaw" (63 : Nat) ({ cls := "com/example/fleetyard/fleetyard/model/Ids", name := "value", desc := "(Ljava/lang/String;)J" } : Jvm.MethodName)) a0 Z = true := hw _ (List.mem_of_getElem? (i := 46) rfl)
theorem w47 {Z : State} {a0 : Array Value} (hw : ∀ d ∈ tables_1, d.before a0 Z = true) : Jvm.Cond.before (Jvm.Cond.static ({ cls := "com/example/fleetyard/fleetyard/model/Ids", name := "value", desc := "(Ljava/lang/String;)J" } : Jvm.MethodName)) a0 Z = true := hw _ (List.mem_of_getElem? (i := 47) rfl)
theorem w62 {Z : State} {a0 : Array Value} (hw : ∀ d ∈ tables_1, d.before a0 Z = true) : Jvm.Cond.before (Jvm.Cond.constantLong "com/example/fleetyard/fleetyard/model/IdsValuePinLaw" (73 : Nat) (-1 : Int64)) a0 Z = true := hw _ (List.mem_of_getElem? (i := 62) rfl)
theorem w99 {Z : State} {a0 : Array Value} (hw : ∀ d ∈ tables_1, d.before a0 Z = true) : Jvm.Cond.before (Jvm.Cond.constant "com/example/fleetyard/fleetyard/model/IdsValuePinLaw" (57 : Nat) (65535 : Int32)) a0 Z = true := hw _ (List.mem_of_getElem? (i := 99) rfl)
theorem w102 {Z : State} {a0 : Array Value} (hw : ∀ d ∈ tables_1, d.before a0 Z = true) : Jvm.Cond.before (Jvm.Cond.code ({ cls := "com/example/fleetyard/fleetyard/model/IdsValuePinLaw", name := "isDigit", desc := "(C)Z" } : Jvm.MethodName) method_4_code (1 : Nat) (Option.some Jvm.ClassFile.FieldType.boolean)) a0 Z = true := hw _ (List.mem_of_getElem? (i := 102) rfl)
theorem pd_374 : parseMethodDescriptor "(C)Z" = some ⟨[.char], some .boolean⟩ := by decide +kernel
theorem w100 {Z : State} {a0 : Array Value} (hw : ∀ d ∈ tables_1, d.before a0 Z = true) : Jvm.Cond.before (Jvm.Cond.methodLink "com/example/fleetyard/fleetyard/model/IdsValuePinLaw" (69 : Nat) ({ cls := "com/example/fleetyard/fleetyard/model/IdsValuePinLaw", name := "isDigit", desc := "(C)Z" } : Jvm.MethodName)) a0 Z = true := hw _ (List.mem_of_getElem? (i := 100) rfl)
theorem w101 {Z : State} {a0 : Array Value} (hw : ∀ d ∈ tables_1, d.before a0 Z = true) : Jvm.Cond.before (Jvm.Cond.static ({ cls := "com/example/fleetyard/fleetyard/model/IdsValuePinLaw", name := "isDigit", desc := "(C)Z" } : Jvm.MethodName)) a0 Z = true := hw _ (List.mem_of_getElem? (i := 101) rfl)
def Q_law (Z : State) (G1 : Int32) (G3 : Value) (p0 : Int32) (p1 : Int64) (p2 : Int32) (p3 : Int32) (h0 : Heap) (n0 : Nat) (v : Option Value) (h : Heap) (L : List Loc) : Prop := (v = some (.int (1 : Int32)) ∧ Fr n0 L ∧ Keep h0 h [])
set_option maxRecDepth 65536 in
set_option maxHeartbeats 40000000 in
theorem rm_law (l : Launch) (Z : State) (a0 : Array Value) (hw : ∀ d ∈ tables_1, d.before a0 Z = true) (ws : List Jvm.Cond) (G1 : Int32) (G3 : Value) (HG : own_G l Z a0 G1 G3) (h0 : Heap) (n0 : Nat) (X00 : Old Z n0 h0) (p0 : Int32) (p1 : Int64) (p2 : Int32) (p3 : Int32)  :
    own_CH l Z x code maxLocals ret ws room_1 #[(.int p0), (.long p1), (.int p2), (.int p3)] h0 (Q_law Z G1 G3 p0 p1 p2 p3 h0 n0) := by
  refine own_H (plainFor_of_name pn_218) ?_
  intro p e s m below meth c s₁ S0 Bd hZ hh CH0 hS0 CR0 hx hby hml hown hnm X0 e0 hS0d
  obtain ⟨O1, P1, O3f, rG3⟩ := id HG
  have hEL := own_EL hw
  have hSA := own_SA hw
  have N0 := Fr.nil n0
  have C0 : Steps p.tables e below S0 (s₁.setTop (mkF m 0 #[.val (.int p0), .val (.long p1), .second, .val (.int p2), .val (.int p3), .unset, .unset, .unset, .unset, .unset, .unset, .unset, .unset, .unset, .unset, .unset, .unset, .unset, .unset, .unset, .unset, .unset, .unset] [])) := by rw [hS0d]; exact castTop (ef_336 m p0 p1 p2 p3) (Steps.refl _)
  obtain ⟨T_1, h_2, k_3, X_4, e_5, E_6, A_7, st_8⟩ := newP (aty := .long) X0 hx hZ (w0 hw) e0 (g := (mkF m 2 #[.val (.int p0), .val (.long p1), .second, .val (.int p2), .val (.int p3), .unset, .unset, .unset, .unset, .unset, .unset, .unset, .unset, .unset, .unset, .unset, .unset, .unset, .unset, .unset, .unset, .unset, .unset] [(.int (19 : Int32))])) rfl (hb hby at_2) rfl (by decide : ¬ ((19 : Int32) < (0 : Int32))) (cap := 19) (by decide : (19 : Int32).toNatClampNeg ≤ 19) (by decide) (by decide) (by decide)
  obtain ⟨a_9, g_10⟩ : ∃ z, z = h0.size := ⟨_, rfl⟩
  rw [← g_10] at A_7 st_8
  have CH_12 : CHv Z consts_1 s.vm h_2 := CHv.ext E_6 CH0
  have CR_13 : CHr Z consts_1 s.vm h0 s.vm h_2 := CR0.trans (CHr.ext E_6 CH0)
  have V_14 : Arv Z h_2 a_9 k_3 .long (19 : Int32) [] (.long (0 : Int64)) := Arv.new A_7 (by decide : ¬ ((19 : Int32) < (0 : Int32)))
  have V_11 : Arv Z h_2 a_9 k_3 .long (19 : Int32) [(.long (0 : Int64)), (.long (0 : Int64)), (.long (0 : Int64)), (.long (0 : Int64)), (.long (0 : Int64)), (.long (0 : Int64)), (.long (0 : Int64)), (.long (0 : Int64)), (.long (0 : Int64)), (.long (0 : Int64)), (.long (0 : Int64)), (.long (0 : Int64)), (.long (0 : Int64)), (.long (0 : Int64)), (.long (0 : Int64)), (.long (0 : Int64)), (.long (0 : Int64)), (.long (0 : Int64)), (.long (0 : Int64))] (.long (0 : Int64)) := (V_14.pad (pad_rep [] (.long (0 : Int64)) 19))
  obtain ⟨c_15, A_16, q_17, S_18, M_19, H_20, U_21⟩ := id V_11
  have hin_28 : ¬ ((0 : Int32) < 0 ∨ c_15.slots.size ≤ (0 : Int32).toNatClampNeg) := inb_of S_18 ⟨(by decide : ¬ ((0 : Int32) < (0 : Int32))), (by decide : (0 : Int32) < (19 : Int32))⟩
  obtain ⟨T_22, h_23, X_24, e_25, W_26, st_27⟩ := stJ X_4 hx hZ e_5 A_16 (j := (0 : Int32)) hin_28 (g := (mkF m 7 #[.val (.int p0), .val (.long p1), .second, .val (.int p2), .val (.int p3), .unset, .unset, .unset, .unset, .unset, .unset, .unset, .unset, .unset, .unset, .unset, .unset, .unset, .unset, .unset, .unset, .unset, .unset] [(.long (1 : Int64)), (.int (0 : Int32)), (.ref a_9), (.ref a_9)])) rfl rfl (hb hby at_7)
  have N_29 := Fr.snoc X_24 N0 (Nat.le_trans (own_n0 X00) (Nat.le_of_eq g_10.symm))
  have CH_30 : CHv Z consts_1 s.vm h_23 := CHv.wr W_26 (Safe.arv hZ.alike V_11 (by decide)) CH_12
  have CR_31 : CHr Z consts_1 s.vm h0 s.vm h_23 := CR_13.trans (CHr.wr W_26 (Safe.arv hZ.alike V_11 (by decide)) CH_12)
  have V_32 : Arv Z h_23 a_9 k_3 .long (19 : Int32) [(.long (1 : Int64)), (.long (0 : Int64)), (.long (0 : Int64)), (.long (0 : Int64)), (.long (0 : Int64)), (.long (0 : Int64)), (.long (0 : Int64)), (.long (0 : Int64)), (.long (0 : Int64)), (.long (0 : Int64)), (.long (0 : Int64)), (.long (0 : Int64)), (.long (0 : Int64)), (.long (0 : Int64)), (.long (0 : Int64)), (.long (0 : Int64)), (.long (0 : Int64)), (.long (0 : Int64)), (.long (0 : Int64))] (.long (0 : Int64)) := Arv.set A_16 q_17 S_18 M_19 H_20 U_21 rfl W_26 0 rfl (Nat.le_of_ble_eq_true rfl)
  obtain ⟨c_33, A_34, q_35, S_36, M_37, H_38, U_39⟩ := id V_32
  have hin_46 : ¬ ((1 : Int32) < 0 ∨ c_33.slots.size ≤ (1 : Int32).toNatClampNeg) := inb_of S_36 ⟨(by decide : ¬ ((1 : Int32) < (0 : Int32))), (by decide : (1 : Int32) < (19 : Int32))⟩
  obtain ⟨T_40, h_41, X_42, e_43, W_44, st_45⟩ := stJ X_24 hx hZ e_25 A_34 (j := (1 : Int32)) hin_46 (g := (mkF m 13 #[.val (.int p0), .val (.long p1), .second, .val (.int p2), .val (.int p3), .unset, .unset, .unset, .unset, .unset, .unset, .unset, .unset, .unset, .unset, .unset, .unset, .unset, .unset, .unset, .unset, .unset, .unset] [(.long (10 : Int64)), (.int (1 : Int32)), (.ref a_9), (.ref a_9)])) rfl rfl (hb hby at_13)
  have N_47 := Fr.snoc X_42 N_29 (Nat.le_trans (own_n0 X00) (Nat.le_of_eq g_10.symm))
  have CH_48 : CHv Z consts_1 s.vm h_41 := CHv.wr W_44 (Safe.arv hZ.alike V_32 (by decide)) CH_30
  have CR_49 : CHr Z consts_1 s.vm h0 s.vm h_41 := CR_31.trans (CHr.wr W_44 (Safe.arv hZ.alike V_32 (by decide)) CH_30)
  have V_50 : Arv Z h_41 a_9 k_3 .long (19 : Int32) [(.long (1 : Int64)), (.long (10 : Int64)), (.long (0 : Int64)), (.long (0 : Int64)), (.long (0 : Int64)), (.long (0 : Int64)), (.long (0 : Int64)), (.long (0 : Int64)), (.long (0 : Int64)), (.long (0 : Int64)), (.long (0 : Int64)), (.long (0 : Int64)), (.long (0 : Int64)), (.long (0 : Int64)), (.long (0 : Int64)), (.long (0 : Int64)), (.long (0 : Int64)), (.long (0 : Int64)), (.long (0 : Int64))] (.long (0 : Int64)) := Arv.set A_34 q_35 S_36 M_37 H_38 U_39 rfl W_44 1 rfl (Nat.le_of_ble_eq_true rfl)
  obtain ⟨c_51, A_52, q_53, S_54, M_55, H_56, U_57⟩ := id V_50
  have hin_64 : ¬ ((2 : Int32) < 0 ∨ c_51.slots.size ≤ (2 : Int32).toNatClampNeg) := inb_of S_54 ⟨(by decide : ¬ ((2 : Int32) < (0 : Int32))), (by decide : (2 : Int32) < (19 : Int32))⟩
  obtain ⟨T_58, h_59, X_60, e_61, W_62, st_63⟩ := stJ X_42 hx hZ e_43 A_52 (j := (2 : Int32)) hin_64 (g := (mkF m 19 #[.val (.int p0), .val (.long p1), .second, .val (.int p2), .val (.int p3), .unset, .unset, .unset, .unset, .unset, .unset, .unset, .unset, .unset, .unset, .unset, .unset, .unset, .unset, .unset, .unset, .unset, .unset] [(.long (100 : Int64)), (.int (2 : Int32)), (.ref a_9), (.ref a_9)])) rfl rfl (hb hby at_19)
  have N_65 := Fr.snoc X_60 N_47 (Nat.le_trans (own_n0 X00) (Nat.le_of_eq g_10.symm))
  have CH_66 : CHv Z consts_1 s.vm h_59 := CHv.wr W_62 (Safe.arv hZ.alike V_50 (by decide)) CH_48
  have CR_67 : CHr Z consts_1 s.vm h0 s.vm h_59 := CR_49.trans (CHr.wr W_62 (Safe.arv hZ.alike V_50 (by decide)) CH_48)
  have V_68 : Arv Z h_59 a_9 k_3 .long (19 : Int32) [(.long (1 : Int64)), (.long (10 : Int64)), (.long (100 : Int64)), (.long (0 : Int64)), (.long (0 : Int64)), (.long (0 : Int64)), (.long (0 : Int64)), (.long (0 : Int64)), (.long (0 : Int64)), (.long (0 : Int64)), (.long (0 : Int64)), (.long (0 : Int64)), (.long (0 : Int64)), (.long (0 : Int64)), (.long (0 : Int64)), (.long (0 : Int64)), (.long (0 : Int64)), (.long (0 : Int64)), (.long (0 : Int64))] (.long (0 : Int64)) := Arv.set A_52 q_53 S_54 M_55 H_56 U_57 rfl W_62 2 rfl (Nat.le_of_ble_eq_true rfl)
  obtain ⟨c_69, A_70, q_71, S_72, M_73, H_74, U_75⟩ := id V_68
  have hin_82 : ¬ ((3 : Int32) < 0 ∨ c_69.slots.size ≤ (3 : Int32).toNatClampNeg) := inb_of S_72 ⟨(by decide : ¬ ((3 : Int32) < (0 : Int32))), (by decide : (3 : Int32) < (19 : Int32))⟩
  obtain ⟨T_76, h_77, X_78, e_79, W_80, st_81⟩ := stJ X_60 hx hZ e_61 A_70 (j := (3 : Int32)) hin_82 (g := (mkF m 25 #[.val (.int p0), .val (.long p1), .second, .val (.int p2), .val (.int p3), .unset, .unset, .unset, .unset, .unset, .unset, .unset, .unset, .unset, .unset, .unset, .unset, .unset, .unset, .unset, .unset, .unset, .unset] [(.long (1000 : Int64)), (.int (3 : Int32)), (.ref a_9), (.ref a_9)])) rfl rfl (hb hby at_25)
  have N_83 := Fr.snoc X_78 N_65 (Nat.le_trans (own_n0 X00) (Nat.le_of_eq g_10.symm))
  have CH_84 : CHv Z consts_1 s.vm h_77 := CHv.wr W_80 (Safe.arv hZ.alike V_68 (by decide)) CH_66
  have CR_85 : CHr Z consts_1 s.vm h0 s.vm h_77 := CR_67.trans (CHr.wr W_80 (Safe.arv hZ.alike V_68 (by decide)) CH_66)
  have V_86 : Arv Z h_77 a_9 k_3 .long (19 : Int32) [(.long (1 : Int64)), (.long (10 : Int64)), (.long (100 : Int64)), (.long (1000 : Int64)), (.long (0 : Int64)), (.long (0 : Int64)), (.long (0 : Int64)), (.long (0 : Int64)), (.long (0 : Int64)), (.long (0 : Int64)), (.long (0 : Int64)), (.long (0 : Int64)), (.long (0 : Int64)), (.long (0 : Int64)), (.long (0 : Int64)), (.long (0 : Int64)), (.long (0 : Int64)), (.long (0 : Int64)), (.long (0 : Int64))] (.long (0 : Int64)) := Arv.set A_70 q_71 S_72 M_73 H_74 U_75 rfl W_80 3 rfl (Nat.le_of_ble_eq_true rfl)
  obtain ⟨c_87, A_88, q_89, S_90, M_91, H_92, U_93⟩ := id V_86
  have hin_100 : ¬ ((4 : Int32) < 0 ∨ c_87.slots.size ≤ (4 : Int32).toNatClampNeg) := inb_of S_90 ⟨(by decide : ¬ ((4 : Int32) < (0 : Int32))), (by decide : (4 : Int32) < (19 : Int32))⟩
  obtain ⟨T_94, h_95, X_96, e_97, W_98, st_99⟩ := stJ X_78 hx hZ e_79 A_88 (j := (4 : Int32)) hin_100 (g := (mkF m 31 #[.val (.int p0), .val (.long p1), .second, .val (.int p2), .val (.int p3), .unset, .unset, .unset, .unset, .unset, .unset, .unset, .unset, .unset, .unset, .unset, .unset, .unset, .unset, .unset, .unset, .unset, .unset] [(.long (10000 : Int64)), (.int (4 : Int32)), (.ref a_9), (.ref a_9)])) rfl rfl (hb hby at_31)
  have N_101 := Fr.snoc X_96 N_83 (Nat.le_trans (own_n0 X00) (Nat.le_of_eq g_10.symm))
  have CH_102 : CHv Z consts_1 s.vm h_95 := CHv.wr W_98 (Safe.arv hZ.alike V_86 (by decide)) CH_84
  have CR_103 : CHr Z consts_1 s.vm h0 s.vm h_95 := CR_85.trans (CHr.wr W_98 (Safe.arv hZ.alike V_86 (by decide)) CH_84)
  have V_104 : Arv Z h_95 a_9 k_3 .long (19 : Int32) [(.long (1 : Int64)), (.long (10 : Int64)), (.long (100 : Int64)), (.long (1000 : Int64)), (.long (10000 : Int64)), (.long (0 : Int64)), (.long (0 : Int64)), (.long (0 : Int64)), (.long (0 : Int64)), (.long (0 : Int64)), (.long (0 : Int64)), (.long (0 : Int64)), (.long (0 : Int64)), (.long (0 : Int64)), (.long (0 : Int64)), (.long (0 : Int64)), (.long (0 : Int64)), (.long (0 : Int64)), (.long (0 : Int64))] (.long (0 : Int64)) := Arv.set A_88 q_89 S_90 M_91 H_92 U_93 rfl W_98 4 rfl (Nat.le_of_ble_eq_true rfl)
  obtain ⟨c_105, A_106, q_107, S_108, M_109, H_110, U_111⟩ := id V_104
  have hin_118 : ¬ ((5 : Int32) < 0 ∨ c_105.slots.size ≤ (5 : Int32).toNatClampNeg) := inb_of S_108 ⟨(by decide : ¬ ((5 : Int32) < (0 : Int32))), (by decide : (5 : Int32) < (19 : Int32))⟩
  obtain ⟨T_112, h_113, X_114, e_115, W_116, st_117⟩ := stJ X_96 hx hZ e_97 A_106 (j := (5 : Int32)) hin_118 (g := (mkF m 37 #[.val (.int p0), .val (.long p1), .second, .val (.int p2), .val (.int p3), .unset, .unset, .unset, .unset, .unset, .unset, .unset, .unset, .unset, .unset, .unset, .unset, .unset, .unset, .unset, .unset, .unset, .unset] [(.long (100000 : Int64)), (.int (5 : Int32)), (.ref a_9), (.ref a_9)])) rfl rfl (hb hby at_37)
  have N_119 := Fr.snoc X_114 N_101 (Nat.le_trans (own_n0 X00) (Nat.le_of_eq g_10.symm))
  have CH_120 : CHv Z consts_1 s.vm h_113 := CHv.wr W_116 (Safe.arv hZ.alike V_104 (by decide)) CH_102
  have CR_121 : CHr Z consts_1 s.vm h0 s.vm h_113 := CR_103.trans (CHr.wr W_116 (Safe.arv hZ.alike V_104 (by decide)) CH_102)
  have V_122 : Arv Z h_113 a_9 k_3 .long (19 : Int32) [(.long (1 : Int64)), (.long (10 : Int64)), (.long (100 : Int64)), (.long (1000 : Int64)), (.long (10000 : Int64)), (.long (100000 : Int64)), (.long (0 : Int64)), (.long (0 : Int64)), (.long (0 : Int64)), (.long (0 : Int64)), (.long (0 : Int64)), (.long (0 : Int64)), (.long (0 : Int64)), (.long (0 : Int64)), (.long (0 : Int64)), (.long (0 : Int64)), (.long (0 : Int64)), (.long (0 : Int64)), (.long (0 : Int64))] (.long (0 : Int64)) := Arv.set A_106 q_107 S_108 M_109 H_110 U_111 rfl W_116 5 rfl (Nat.le_of_ble_eq_true rfl)
  obtain ⟨c_123, A_124, q_125, S_126, M_127, H_128, U_129⟩ := id V_122
  have hin_136 : ¬ ((6 : Int32) < 0 ∨ c_123.slots.size ≤ (6 : Int32).toNatClampNeg) := inb_of S_126 ⟨(by decide : ¬ ((6 : Int32) < (0 : Int32))), (by decide : (6 : Int32) < (19 : Int32))⟩
  obtain ⟨T_130, h_131, X_132, e_133, W_134, st_135⟩ := stJ X_114 hx hZ e_115 A_124 (j := (6 : Int32)) hin_136 (g := (mkF m 44 #[.val (.int p0), .val (.long p1), .second, .val (.int p2), .val (.int p3), .unset, .unset, .unset, .unset, .unset, .unset, .unset, .unset, .unset, .unset, .unset, .unset, .unset, .unset, .unset, .unset, .unset, .unset] [(.long (1000000 : Int64)), (.int (6 : Int32)), (.ref a_9), (.ref a_9)])) rfl rfl (hb hby at_44)
  have N_137 := Fr.snoc X_132 N_119 (Nat.le_trans (own_n0 X00) (Nat.le_of_eq g_10.symm))
  have CH_138 : CHv Z consts_1 s.vm h_131 := CHv.wr W_134 (Safe.arv hZ.alike V_122 (by decide)) CH_120
  have CR_139 : CHr Z consts_1 s.vm h0 s.vm h_131 := CR_121.trans (CHr.wr W_134 (Safe.arv hZ.alike V_122 (by decide)) CH_120)
  have V_140 : Arv Z h_131 a_9 k_3 .long (19 : Int32) [(.long (1 : Int64)), (.long (10 : Int64)), (.long (100 : Int64)), (.long (1000 : Int64)), (.long (10000 : Int64)), (.long (100000 : Int64)), (.long (1000000 : Int64)), (.long (0 : Int64)), (.long (0 : Int64)), (.long (0 : Int64)), (.long (0 : Int64)), (.long (0 : Int64)), (.long (0 : Int64)), (.long (0 : Int64)), (.long (0 : Int64)), (.long (0 : Int64)), (.long (0 : Int64)), (.long (0 : Int64)), (.long (0 : Int64))] (.long (0 : Int64)) := Arv.set A_124 q_125 S_126 M_127 H_128 U_129 rfl W_134 6 rfl (Nat.le_of_ble_eq_true rfl)
  obtain ⟨c_141, A_142, q_143, S_144, M_145, H_146, U_147⟩ := id V_140
  have hin_154 : ¬ ((7 : Int32) < 0 ∨ c_141.slots.size ≤ (7 : Int32).toNatClampNeg) := inb_of S_144 ⟨(by decide : ¬ ((7 : Int32) < (0 : Int32))), (by decide : (7 : Int32) < (19 : Int32))⟩
  obtain ⟨T_148, h_149, X_150, e_151, W_152, st_153⟩ := stJ X_132 hx hZ e_133 A_142 (j := (7 : Int32)) hin_154 (g := (mkF m 51 #[.val (.int p0), .val (.long p1), .second, .val (.int p2), .val (.int p3), .unset, .unset, .unset, .unset, .unset, .unset, .unset, .unset, .unset, .unset, .unset, .unset, .unset, .unset, .unset, .unset, .unset, .unset] [(.long (10000000 : Int64)), (.int (7 : Int32)), (.ref a_9), (.ref a_9)])) rfl rfl (hb hby at_51)
  have N_155 := Fr.snoc X_150 N_137 (Nat.le_trans (own_n0 X00) (Nat.le_of_eq g_10.symm))
  have CH_156 : CHv Z consts_1 s.vm h_149 := CHv.wr W_152 (Safe.arv hZ.alike V_140 (by decide)) CH_138
  have CR_157 : CHr Z consts_1 s.vm h0 s.vm h_149 := CR_139.trans (CHr.wr W_152 (Safe.arv hZ.alike V_140 (by decide)) CH_138)
  have V_158 : Arv Z h_149 a_9 k_3 .long (19 : Int32) [(.long (1 : Int64)), (.long (10 : Int64)), (.long (100 : Int64)), (.long (1000 : Int64)), (.long (10000 : Int64)), (.long (100000 : Int64)), (.long (1000000 : Int64)), (.long (10000000 : Int64)), (.long (0 : Int64)), (.long (0 : Int64)), (.long (0 : Int64)), (.long (0 : Int64)), (.long (0 : Int64)), (.long (0 : Int64)), (.long (0 : Int64)), (.long (0 : Int64)), (.long (0 : Int64)), (.long (0 : Int64)), (.long (0 : Int64))] (.long (0 : Int64)) := Arv.set A_142 q_143 S_144 M_145 H_146 U_147 rfl W_152 7 rfl (Nat.le_of_ble_eq_true rfl)
  have C_159 : Steps p.tables e below S0 (T_148.setTop (mkF m 55 #[.val (.int p0), .val (.long p1), .second, .val (.int p2), .val (.int p3), .unset, .unset, .unset, .unset, .unset, .unset, .unset, .unset, .unset, .unset, .unset, .unset, .unset, .unset, .unset, .unset, .unset, .unset] [(.int (8 : Int32)), (.ref a_9), (.ref a_9)])) := by
    refine C0.trans ?_
    refine XS.bipush X0.here hx rfl (hb hby at_0) ?_
    refine st_8 _ ?_
    refine XS.dup X_4.here hx rfl (hb hby at_4) rfl rfl ?_
    refine XS.iconst X_4.here hx rfl (hb hby at_5) ?_
    refine XS.lconst X_4.here hx rfl (hb hby at_6) ?_
    refine st_27 _ ?_
    refine XS.dup X_24.here hx rfl (hb hby at_8) rfl rfl ?_
    refine XS.iconst X_24.here hx rfl (hb hby at_9) ?_
    show Steps p.tables e below (T_22.setTop (mkF m 10 #[.val (.int p0), .val (.long p1), .second, .val (.int p2), .val (.int p3), .unset, .unset, .unset, .unset, .unset, .unset, .unset, .unset, .unset, .unset, .unset, .unset, .unset, .unset, .unset, .unset, .unset, .unset] [(.int (1 : Int32)), (.ref a_9), (.ref a_9)])) _
    refine X_24.ldc2J hx hown (mvT hZ (w1 hw)) rfl (hb hby at_10) ?_
    refine st_45 _ ?_
    refine XS.dup X_42.here hx rfl (hb hby at_14) rfl rfl ?_
    refine XS.iconst X_42.here hx rfl (hb hby at_15) ?_
    refine X_42.ldc2J hx hown (mvT hZ (w2 hw)) rfl (hb hby at_16) ?_
    refine st_63 _ ?_
    refine XS.dup X_60.here hx rfl (hb hby at_20) rfl rfl ?_
    refine XS.iconst X_60.here hx rfl (hb hby at_21) ?_
    show Steps p.tables e below (T_58.setTop (mkF m 22 #[.val (.int p0), .val (.long p1), .second, .val (.int p2), .val (.int p3), .unset, .unset, .unset, .unset, .unset, .unset, .unset, .unset, .unset, .unset, .unset, .unset, .unset, .unset, .unset, .unset, .unset, .unset] [(.int (3 : Int32)), (.ref a_9), (.ref a_9)])) _
    refine X_60.ldc2J hx hown (mvT hZ (w3 hw)) rfl (hb hby at_22) ?_
    refine st_81 _ ?_
    refine XS.dup X_78.here hx rfl (hb hby at_26) rfl rfl ?_
    refine XS.iconst X_78.here hx rfl (hb hby at_27) ?_
    refine X_78.ldc2J hx hown (mvT hZ (w4 hw)) rfl (hb hby at_28) ?_
    refine st_99 _ ?_
    refine XS.dup X_96.here hx rfl (hb hby at_32) rfl rfl ?_
    refine XS.iconst X_96.here hx rfl (hb hby at_33) ?_
    show Steps p.tables e below (T_94.setTop (mkF m 34 #[.val (.int p0), .val (.long p1), .second, .val (.int p2), .val (.int p3), .unset, .unset, .unset, .unset, .unset, .unset, .unset, .unset, .unset, .unset, .unset, .unset, .unset, .unset, .unset, .unset, .unset, .unset] [(.int (5 : Int32)), (.ref a_9), (.ref a_9)])) _
    refine X_96.ldc2J hx hown (mvT hZ (w5 hw)) rfl (hb hby at_34) ?_
    refine st_117 _ ?_
    refine XS.dup X_114.here hx rfl (hb hby at_38) rfl rfl ?_
    refine XS.bipush X_114.here hx rfl (hb hby at_39) ?_
    refine X_114.ldc2J hx hown (mvT hZ (w6 hw)) rfl (hb hby at_41) ?_
    refine st_135 _ ?_
    refine XS.dup X_132.here hx rfl (hb hby at_45) rfl rfl ?_
    refine XS.bipush X_132.here hx rfl (hb hby at_46) ?_
    show Steps p.tables e below (T_130.setTop (mkF m 48 #[.val (.int p0), .val (.long p1), .second, .val (.int p2), .val (.int p3), .unset, .unset, .unset, .unset, .unset, .unset, .unset, .unset, .unset, .unset, .unset, .unset, .unset, .unset, .unset, .unset, .unset, .unset] [(.int (7 : Int32)), (.ref a_9), (.ref a_9)])) _
    refine X_132.ldc2J hx hown (mvT hZ (w7 hw)) rfl (hb hby at_48) ?_
    refine st_153 _ ?_
    refine XS.dup X_150.here hx rfl (hb hby at_52) rfl rfl ?_
    refine XS.bipush X_150.here hx rfl (hb hby at_53) ?_
    exact Steps.refl _
  obtain ⟨c_160, A_161, q_162, S_163, M_164, H_165, U_166⟩ := id V_158
  have hin_173 : ¬ ((8 : Int32) < 0 ∨ c_160.slots.size ≤ (8 : Int32).toNatClampNeg) := inb_of S_163 ⟨(by decide : ¬ ((8 : Int32) < (0 : Int32))), (by decide : (8 : Int32) < (19 : Int32))⟩
  obtain ⟨T_167, h_168, X_169, e_170, W_171, st_172⟩ := stJ X_150 hx hZ e_151 A_161 (j := (8 : Int32)) hin_173 (g := (mkF m 58 #[.val (.int p0), .val (.long p1), .second, .val (.int p2), .val (.int p3), .unset, .unset, .unset, .unset, .unset, .unset, .unset, .unset, .unset, .unset, .unset, .unset, .unset, .unset, .unset, .unset, .unset, .unset] [(.long (100000000 : Int64)), (.int (8 : Int32)), (.ref a_9), (.ref a_9)])) rfl rfl (hb hby at_58)
  have N_174 := Fr.snoc X_169 N_155 (Nat.le_trans (own_n0 X00) (Nat.le_of_eq g_10.symm))
  have CH_175 : CHv Z consts_1 s.vm h_168 := CHv.wr W_171 (Safe.arv hZ.alike V_158 (by decide)) CH_156
  have CR_176 : CHr Z consts_1 s.vm h0 s.vm h_168 := CR_157.trans (CHr.wr W_171 (Safe.arv hZ.alike V_158 (by decide)) CH_156)
  have V_177 : Arv Z h_168 a_9 k_3 .long (19 : Int32) [(.long (1 : Int64)), (.long (10 : Int64)), (.long (100 : Int64)), (.long (1000 : Int64)), (.long (10000 : Int64)), (.long (100000 : Int64)), (.long (1000000 : Int64)), (.long (10000000 : Int64)), (.long (100000000 : Int64)), (.long (0 : Int64)), (.long (0 : Int64)), (.long (0 : Int64)), (.long (0 : Int64)), (.long (0 : Int64)), (.long (0 : Int64)), (.long (0 : Int64)), (.long (0 : Int64)), (.long (0 : Int64)), (.long (0 : Int64))] (.long (0 : Int64)) := Arv.set A_161 q_162 S_163 M_164 H_165 U_166 rfl W_171 8 rfl (Nat.le_of_ble_eq_true rfl)
  obtain ⟨c_178, A_179, q_180, S_181, M_182, H_183, U_184⟩ := id V_177
  have hin_191 : ¬ ((9 : Int32) < 0 ∨ c_178.slots.size ≤ (9 : Int32).toNatClampNeg) := inb_of S_181 ⟨(by decide : ¬ ((9 : Int32) < (0 : Int32))), (by decide : (9 : Int32) < (19 : Int32))⟩
  obtain ⟨T_185, h_186, X_187, e_188, W_189, st_190⟩ := stJ X_169 hx hZ e_170 A_179 (j := (9 : Int32)) hin_191 (g := (mkF m 65 #[.val (.int p0), .val (.long p1), .second, .val (.int p2), .val (.int p3), .unset, .unset, .unset, .unset, .unset, .unset, .unset, .unset, .unset, .unset, .unset, .unset, .unset, .unset, .unset, .unset, .unset, .unset] [(.long (1000000000 : Int64)), (.int (9 : Int32)), (.ref a_9), (.ref a_9)])) rfl rfl (hb hby at_65)
  have N_192 := Fr.snoc X_187 N_174 (Nat.le_trans (own_n0 X00) (Nat.le_of_eq g_10.symm))
  have CH_193 : CHv Z consts_1 s.vm h_186 := CHv.wr W_189 (Safe.arv hZ.alike V_177 (by decide)) CH_175
  have CR_194 : CHr Z consts_1 s.vm h0 s.vm h_186 := CR_176.trans (CHr.wr W_189 (Safe.arv hZ.alike V_177 (by decide)) CH_175)
  have V_195 : Arv Z h_186 a_9 k_3 .long (19 : Int32) [(.long (1 : Int64)), (.long (10 : Int64)), (.long (100 : Int64)), (.long (1000 : Int64)), (.long (10000 : Int64)), (.long (100000 : Int64)), (.long (1000000 : Int64)), (.long (10000000 : Int64)), (.long (100000000 : Int64)), (.long (1000000000 : Int64)), (.long (0 : Int64)), (.long (0 : Int64)), (.long (0 : Int64)), (.long (0 : Int64)), (.long (0 : Int64)), (.long (0 : Int64)), (.long (0 : Int64)), (.long (0 : Int64)), (.long (0 : Int64))] (.long (0 : Int64)) := Arv.set A_179 q_180 S_181 M_182 H_183 U_184 rfl W_189 9 rfl (Nat.le_of_ble_eq_true rfl)
  obtain ⟨c_196, A_197, q_198, S_199, M_200, H_201, U_202⟩ := id V_195
  have hin_209 : ¬ ((10 : Int32) < 0 ∨ c_196.slots.size ≤ (10 : Int32).toNatClampNeg) := inb_of S_199 ⟨(by decide : ¬ ((10 : Int32) < (0 : Int32))), (by decide : (10 : Int32) < (19 : Int32))⟩
  obtain ⟨T_203, h_204, X_205, e_206, W_207, st_208⟩ := stJ X_187 hx hZ e_188 A_197 (j := (10 : Int32)) hin_209 (g := (mkF m 72 #[.val (.int p0), .val (.long p1), .second, .val (.int p2), .val (.int p3), .unset, .unset, .unset, .unset, .unset, .unset, .unset, .unset, .unset, .unset, .unset, .unset, .unset, .unset, .unset, .unset, .unset, .unset] [(.long (10000000000 : Int64)), (.int (10 : Int32)), (.ref a_9), (.ref a_9)])) rfl rfl (hb hby at_72)
  have N_210 := Fr.snoc X_205 N_192 (Nat.le_trans (own_n0 X00) (Nat.le_of_eq g_10.symm))
  have CH_211 : CHv Z consts_1 s.vm h_204 := CHv.wr W_207 (Safe.arv hZ.alike V_195 (by decide)) CH_193
  have CR_212 : CHr Z consts_1 s.vm h0 s.vm h_204 := CR_194.trans (CHr.wr W_207 (Safe.arv hZ.alike V_195 (by decide)) CH_193)
  have V_213 : Arv Z h_204 a_9 k_3 .long (19 : Int32) [(.long (1 : Int64)), (.long (10 : Int64)), (.long (100 : Int64)), (.long (1000 : Int64)), (.long (10000 : Int64)), (.long (100000 : Int64)), (.long (1000000 : Int64)), (.long (10000000 : Int64)), (.long (100000000 : Int64)), (.long (1000000000 : Int64)), (.long (10000000000 : Int64)), (.long (0 : Int64)), (.long (0 : Int64)), (.long (0 : Int64)), (.long (0 : Int64)), (.long (0 : Int64)), (.long (0 : Int64)), (.long (0 : Int64)), (.long (0 : Int64))] (.long (0 : Int64)) := Arv.set A_197 q_198 S_199 M_200 H_201 U_202 rfl W_207 10 rfl (Nat.le_of_ble_eq_true rfl)
  obtain ⟨c_214, A_215, q_216, S_217, M_218, H_219, U_220⟩ := id V_213
  have hin_227 : ¬ ((11 : Int32) < 0 ∨ c_214.slots.size ≤ (11 : Int32).toNatClampNeg) := inb_of S_217 ⟨(by decide : ¬ ((11 : Int32) < (0 : Int32))), (by decide : (11 : Int32) < (19 : Int32))⟩
  obtain ⟨T_221, h_222, X_223, e_224, W_225, st_226⟩ := stJ X_205 hx hZ e_206 A_215 (j := (11 : Int32)) hin_227 (g := (mkF m 79 #[.val (.int p0), .val (.long p1), .second, .val (.int p2), .val (.int p3), .unset, .unset, .unset, .unset, .unset, .unset, .unset, .unset, .unset, .unset, .unset, .unset, .unset, .unset, .unset, .unset, .unset, .unset] [(.long (100000000000 : Int64)), (.int (11 : Int32)), (.ref a_9), (.ref a_9)])) rfl rfl (hb hby at_79)
  have N_228 := Fr.snoc X_223 N_210 (Nat.le_trans (own_n0 X00) (Nat.le_of_eq g_10.symm))
  have CH_229 : CHv Z consts_1 s.vm h_222 := CHv.wr W_225 (Safe.arv hZ.alike V_213 (by decide)) CH_211
  have CR_230 : CHr Z consts_1 s.vm h0 s.vm h_222 := CR_212.trans (CHr.wr W_225 (Safe.arv hZ.alike V_213 (by decide)) CH_211)
  have V_231 : Arv Z h_222 a_9 k_3 .long (19 : Int32) [(.long (1 : Int64)), (.long (10 : Int64)), (.long (100 : Int64)), (.long (1000 : Int64)), (.long (10000 : Int64)), (.long (100000 : Int64)), (.long (1000000 : Int64)), (.long (10000000 : Int64)), (.long (100000000 : Int64)), (.long (1000000000 : Int64)), (.long (10000000000 : Int64)), (.long (100000000000 : Int64)), (.long (0 : Int64)), (.long (0 : Int64)), (.long (0 : Int64)), (.long (0 : Int64)), (.long (0 : Int64)), (.long (0 : Int64)), (.long (0 : Int64))] (.long (0 : Int64)) := Arv.set A_215 q_216 S_217 M_218 H_219 U_220 rfl W_225 11 rfl (Nat.le_of_ble_eq_true rfl)
  obtain ⟨c_232, A_233, q_234, S_235, M_236, H_237, U_238⟩ := id V_231
  have hin_245 : ¬ ((12 : Int32) < 0 ∨ c_232.slots.size ≤ (12 : Int32).toNatClampNeg) := inb_of S_235 ⟨(by decide : ¬ ((12 : Int32) < (0 : Int32))), (by decide : (12 : Int32) < (19 : Int32))⟩
  obtain ⟨T_239, h_240, X_241, e_242, W_243, st_244⟩ := stJ X_223 hx hZ e_224 A_233 (j := (12 : Int32)) hin_245 (g := (mkF m 86 #[.val (.int p0), .val (.long p1), .second, .val (.int p2), .val (.int p3), .unset, .unset, .unset, .unset, .unset, .unset, .unset, .unset, .unset, .unset, .unset, .unset, .unset, .unset, .unset, .unset, .unset, .unset] [(.long (1000000000000 : Int64)), (.int (12 : Int32)), (.ref a_9), (.ref a_9)])) rfl rfl (hb hby at_86)
  have N_246 := Fr.snoc X_241 N_228 (Nat.le_trans (own_n0 X00) (Nat.le_of_eq g_10.symm))
  have CH_247 : CHv Z consts_1 s.vm h_240 := CHv.wr W_243 (Safe.arv hZ.alike V_231 (by decide)) CH_229
  have CR_248 : CHr Z consts_1 s.vm h0 s.vm h_240 := CR_230.trans (CHr.wr W_243 (Safe.arv hZ.alike V_231 (by decide)) CH_229)
  have V_249 : Arv Z h_240 a_9 k_3 .long (19 : Int32) [(.long (1 : Int64)), (.long (10 : Int64)), (.long (100 : Int64)), (.long (1000 : Int64)), (.long (10000 : Int64)), (.long (100000 : Int64)), (.long (1000000 : Int64)), (.long (10000000 : Int64)), (.long (100000000 : Int64)), (.long (1000000000 : Int64)), (.long (10000000000 : Int64)), (.long (100000000000 : Int64)), (.long (1000000000000 : Int64)), (.long (0 : Int64)), (.long (0 : Int64)), (.long (0 : Int64)), (.long (0 : Int64)), (.long (0 : Int64)), (.long (0 : Int64))] (.long (0 : Int64)) := Arv.set A_233 q_234 S_235 M_236 H_237 U_238 rfl W_243 12 rfl (Nat.le_of_ble_eq_true rfl)
  obtain ⟨c_250, A_251, q_252, S_253, M_254, H_255, U_256⟩ := id V_249
  have hin_263 : ¬ ((13 : Int32) < 0 ∨ c_250.slots.size ≤ (13 : Int32).toNatClampNeg) := inb_of S_253 ⟨(by decide : ¬ ((13 : Int32) < (0 : Int32))), (by decide : (13 : Int32) < (19 : Int32))⟩
  obtain ⟨T_257, h_258, X_259, e_260, W_261, st_262⟩ := stJ X_241 hx hZ e_242 A_251 (j := (13 : Int32)) hin_263 (g := (mkF m 93 #[.val (.int p0), .val (.long p1), .second, .val (.int p2), .val (.int p3), .unset, .unset, .unset, .unset, .unset, .unset, .unset, .unset, .unset, .unset, .unset, .unset, .unset, .unset, .unset, .unset, .unset, .unset] [(.long (10000000000000 : Int64)), (.int (13 : Int32)), (.ref a_9), (.ref a_9)])) rfl rfl (hb hby at_93)
  have N_264 := Fr.snoc X_259 N_246 (Nat.le_trans (own_n0 X00) (Nat.le_of_eq g_10.symm))
  have CH_265 : CHv Z consts_1 s.vm h_258 := CHv.wr W_261 (Safe.arv hZ.alike V_249 (by decide)) CH_247
  have CR_266 : CHr Z consts_1 s.vm h0 s.vm h_258 := CR_248.trans (CHr.wr W_261 (Safe.arv hZ.alike V_249 (by decide)) CH_247)
  have V_267 : Arv Z h_258 a_9 k_3 .long (19 : Int32) [(.long (1 : Int64)), (.long (10 : Int64)), (.long (100 : Int64)), (.long (1000 : Int64)), (.long (10000 : Int64)), (.long (100000 : Int64)), (.long (1000000 : Int64)), (.long (10000000 : Int64)), (.long (100000000 : Int64)), (.long (1000000000 : Int64)), (.long (10000000000 : Int64)), (.long (100000000000 : Int64)), (.long (1000000000000 : Int64)), (.long (10000000000000 : Int64)), (.long (0 : Int64)), (.long (0 : Int64)), (.long (0 : Int64)), (.long (0 : Int64)), (.long (0 : Int64))] (.long (0 : Int64)) := Arv.set A_251 q_252 S_253 M_254 H_255 U_256 rfl W_261 13 rfl (Nat.le_of_ble_eq_true rfl)
  obtain ⟨c_268, A_269, q_270, S_271, M_272, H_273, U_274⟩ := id V_267
  have hin_281 : ¬ ((14 : Int32) < 0 ∨ c_268.slots.size ≤ (14 : Int32).toNatClampNeg) := inb_of S_271 ⟨(by decide : ¬ ((14 : Int32) < (0 : Int32))), (by decide : (14 : Int32) < (19 : Int32))⟩
  obtain ⟨T_275, h_276, X_277, e_278, W_279, st_280⟩ := stJ X_259 hx hZ e_260 A_269 (j := (14 : Int32)) hin_281 (g := (mkF m 100 #[.val (.int p0), .val (.long p1), .second, .val (.int p2), .val (.int p3), .unset, .unset, .unset, .unset, .unset, .unset, .unset, .unset, .unset, .unset, .unset, .unset, .unset, .unset, .unset, .unset, .unset, .unset] [(.long (100000000000000 : Int64)), (.int (14 : Int32)), (.ref a_9), (.ref a_9)])) rfl rfl (hb hby at_100)
  have N_282 := Fr.snoc X_277 N_264 (Nat.le_trans (own_n0 X00) (Nat.le_of_eq g_10.symm))
  have CH_283 : CHv Z consts_1 s.vm h_276 := CHv.wr W_279 (Safe.arv hZ.alike V_267 (by decide)) CH_265
  have CR_284 : CHr Z consts_1 s.vm h0 s.vm h_276 := CR_266.trans (CHr.wr W_279 (Safe.arv hZ.alike V_267 (by decide)) CH_265)
  have V_285 : Arv Z h_276 a_9 k_3 .long (19 : Int32) [(.long (1 : Int64)), (.long (10 : Int64)), (.long (100 : Int64)), (.long (1000 : Int64)), (.long (10000 : Int64)), (.long (100000 : Int64)), (.long (1000000 : Int64)), (.long (10000000 : Int64)), (.long (100000000 : Int64)), (.long (1000000000 : Int64)), (.long (10000000000 : Int64)), (.long (100000000000 : Int64)), (.long (1000000000000 : Int64)), (.long (10000000000000 : Int64)), (.long (100000000000000 : Int64)), (.long (0 : Int64)), (.long (0 : Int64)), (.long (0 : Int64)), (.long (0 : Int64))] (.long (0 : Int64)) := Arv.set A_269 q_270 S_271 M_272 H_273 U_274 rfl W_279 14 rfl (Nat.le_of_ble_eq_true rfl)
  obtain ⟨c_286, A_287, q_288, S_289, M_290, H_291, U_292⟩ := id V_285
  have hin_299 : ¬ ((15 : Int32) < 0 ∨ c_286.slots.size ≤ (15 : Int32).toNatClampNeg) := inb_of S_289 ⟨(by decide : ¬ ((15 : Int32) < (0 : Int32))), (by decide : (15 : Int32) < (19 : Int32))⟩
  obtain ⟨T_293, h_294, X_295, e_296, W_297, st_298⟩ := stJ X_277 hx hZ e_278 A_287 (j := (15 : Int32)) hin_299 (g := (mkF m 107 #[.val (.int p0), .val (.long p1), .second, .val (.int p2), .val (.int p3), .unset, .unset, .unset, .unset, .unset, .unset, .unset, .unset, .unset, .unset, .unset, .unset, .unset, .unset, .unset, .unset, .unset, .unset] [(.long (1000000000000000 : Int64)), (.int (15 : Int32)), (.ref a_9), (.ref a_9)])) rfl rfl (hb hby at_107)
  have N_300 := Fr.snoc X_295 N_282 (Nat.le_trans (own_n0 X00) (Nat.le_of_eq g_10.symm))
  have CH_301 : CHv Z consts_1 s.vm h_294 := CHv.wr W_297 (Safe.arv hZ.alike V_285 (by decide)) CH_283
  have CR_302 : CHr Z consts_1 s.vm h0 s.vm h_294 := CR_284.trans (CHr.wr W_297 (Safe.arv hZ.alike V_285 (by decide)) CH_283)
  have V_303 : Arv Z h_294 a_9 k_3 .long (19 : Int32) [(.long (1 : Int64)), (.long (10 : Int64)), (.long (100 : Int64)), (.long (1000 : Int64)), (.long (10000 : Int64)), (.long (100000 : Int64)), (.long (1000000 : Int64)), (.long (10000000 : Int64)), (.long (100000000 : Int64)), (.long (1000000000 : Int64)), (.long (10000000000 : Int64)), (.long (100000000000 : Int64)), (.long (1000000000000 : Int64)), (.long (10000000000000 : Int64)), (.long (100000000000000 : Int64)), (.long (1000000000000000 : Int64)), (.long (0 : Int64)), (.long (0 : Int64)), (.long (0 : Int64))] (.long (0 : Int64)) := Arv.set A_287 q_288 S_289 M_290 H_291 U_292 rfl W_297 15 rfl (Nat.le_of_ble_eq_true rfl)
  obtain ⟨c_304, A_305, q_306, S_307, M_308, H_309, U_310⟩ := id V_303
  have hin_317 : ¬ ((16 : Int32) < 0 ∨ c_304.slots.size ≤ (16 : Int32).toNatClampNeg) := inb_of S_307 ⟨(by decide : ¬ ((16 : Int32) < (0 : Int32))), (by decide : (16 : Int32) < (19 : Int32))⟩
  obtain ⟨T_311, h_312, X_313, e_314, W_315, st_316⟩ := stJ X_295 hx hZ e_296 A_305 (j := (16 : Int32)) hin_317 (g := (mkF m 114 #[.val (.int p0), .val (.long p1), .second, .val (.int p2), .val (.int p3), .unset, .unset, .unset, .unset, .unset, .unset, .unset, .unset, .unset, .unset, .unset, .unset, .unset, .unset, .unset, .unset, .unset, .unset] [(.long (10000000000000000 : Int64)), (.int (16 : Int32)), (.ref a_9), (.ref a_9)])) rfl rfl (hb hby at_114)
  have N_318 := Fr.snoc X_313 N_300 (Nat.le_trans (own_n0 X00) (Nat.le_of_eq g_10.symm))
  have CH_319 : CHv Z consts_1 s.vm h_312 := CHv.wr W_315 (Safe.arv hZ.alike V_303 (by decide)) CH_301
  have CR_320 : CHr Z consts_1 s.vm h0 s.vm h_312 := CR_302.trans (CHr.wr W_315 (Safe.arv hZ.alike V_303 (by decide)) CH_301)
  have V_321 : Arv Z h_312 a_9 k_3 .long (19 : Int32) [(.long (1 : Int64)), (.long (10 : Int64)), (.long (100 : Int64)), (.long (1000 : Int64)), (.long (10000 : Int64)), (.long (100000 : Int64)), (.long (1000000 : Int64)), (.long (10000000 : Int64)), (.long (100000000 : Int64)), (.long (1000000000 : Int64)), (.long (10000000000 : Int64)), (.long (100000000000 : Int64)), (.long (1000000000000 : Int64)), (.long (10000000000000 : Int64)), (.long (100000000000000 : Int64)), (.long (1000000000000000 : Int64)), (.long (10000000000000000 : Int64)), (.long (0 : Int64)), (.long (0 : Int64))] (.long (0 : Int64)) := Arv.set A_305 q_306 S_307 M_308 H_309 U_310 rfl W_315 16 rfl (Nat.le_of_ble_eq_true rfl)
  have C_322 : Steps p.tables e below S0 (T_311.setTop (mkF m 118 #[.val (.int p0), .val (.long p1), .second, .val (.int p2), .val (.int p3), .unset, .unset, .unset, .unset, .unset, .unset, .unset, .unset, .unset, .unset, .unset, .unset, .unset, .unset, .unset, .unset, .unset, .unset] [(.int (17 : Int32)), (.ref a_9), (.ref a_9)])) := by
    refine C_159.trans ?_
    refine X_150.ldc2J hx hown (mvT hZ (w8 hw)) rfl (hb hby at_55) ?_
    refine st_172 _ ?_
    refine XS.dup X_169.here hx rfl (hb hby at_59) rfl rfl ?_
    refine XS.bipush X_169.here hx rfl (hb hby at_60) ?_
    refine X_169.ldc2J hx hown (mvT hZ (w9 hw)) rfl (hb hby at_62) ?_
    refine st_190 _ ?_
    refine XS.dup X_187.here hx rfl (hb hby at_66) rfl rfl ?_
    refine XS.bipush X_187.here hx rfl (hb hby at_67) ?_
    show Steps p.tables e below (T_185.setTop (mkF m 69 #[.val (.int p0), .val (.long p1), .second, .val (.int p2), .val (.int p3), .unset, .unset, .unset, .unset, .unset, .unset, .unset, .unset, .unset, .unset, .unset, .unset, .unset, .unset, .unset, .unset, .unset, .unset] [(.int (10 : Int32)), (.ref a_9), (.ref a_9)])) _
    refine X_187.ldc2J hx hown (mvT hZ (w10 hw)) rfl (hb hby at_69) ?_
    refine st_208 _ ?_
    refine XS.dup X_205.here hx rfl (hb hby at_73) rfl rfl ?_
    refine XS.bipush X_205.here hx rfl (hb hby at_74) ?_
    refine X_205.ldc2J hx hown (mvT hZ (w11 hw)) rfl (hb hby at_76) ?_
    refine st_226 _ ?_
    refine XS.dup X_223.here hx rfl (hb hby at_80) rfl rfl ?_
    refine XS.bipush X_223.here hx rfl (hb hby at_81) ?_
    show Steps p.tables e below (T_221.setTop (mkF m 83 #[.val (.int p0), .val (.long p1), .second, .val (.int p2), .val (.int p3), .unset, .unset, .unset, .unset, .unset, .unset, .unset, .unset, .unset, .unset, .unset, .unset, .unset, .unset, .unset, .unset, .unset, .unset] [(.int (12 : Int32)), (.ref a_9), (.ref a_9)])) _
    refine X_223.ldc2J hx hown (mvT hZ (w12 hw)) rfl (hb hby at_83) ?_
    refine st_244 _ ?_
    refine XS.dup X_241.here hx rfl (hb hby at_87) rfl rfl ?_
    refine XS.bipush X_241.here hx rfl (hb hby at_88) ?_
    refine X_241.ldc2J hx hown (mvT hZ (w13 hw)) rfl (hb hby at_90) ?_
    refine st_262 _ ?_
    refine XS.dup X_259.here hx rfl (hb hby at_94) rfl rfl ?_
    refine XS.bipush X_259.here hx rfl (hb hby at_95) ?_
    show Steps p.tables e below (T_257.setTop (mkF m 97 #[.val (.int p0), .val (.long p1), .second, .val (.int p2), .val (.int p3), .unset, .unset, .unset, .unset, .unset, .unset, .unset, .unset, .unset, .unset, .unset, .unset, .unset, .unset, .unset, .unset, .unset, .unset] [(.int (14 : Int32)), (.ref a_9), (.ref a_9)])) _
    refine X_259.ldc2J hx hown (mvT hZ (w14 hw)) rfl (hb hby at_97) ?_
    refine st_280 _ ?_
    refine XS.dup X_277.here hx rfl (hb hby at_101) rfl rfl ?_
    refine XS.bipush X_277.here hx rfl (hb hby at_102) ?_
    refine X_277.ldc2J hx hown (mvT hZ (w15 hw)) rfl (hb hby at_104) ?_
    refine st_298 _ ?_
    refine XS.dup X_295.here hx rfl (hb hby at_108) rfl rfl ?_
    refine XS.bipush X_295.here hx rfl (hb hby at_109) ?_
    show Steps p.tables e below (T_293.setTop (mkF m 111 #[.val (.int p0), .val (.long p1), .second, .val (.int p2), .val (.int p3), .unset, .unset, .unset, .unset, .unset, .unset, .unset, .unset, .unset, .unset, .unset, .unset, .unset, .unset, .unset, .unset, .unset, .unset] [(.int (16 : Int32)), (.ref a_9), (.ref a_9)])) _
    refine X_295.ldc2J hx hown (mvT hZ (w16 hw)) rfl (hb hby at_111) ?_
    refine st_316 _ ?_
    refine XS.dup X_313.here hx rfl (hb hby at_115) rfl rfl ?_
    refine XS.bipush X_313.here hx rfl (hb hby at_116) ?_
    exact Steps.refl _
  obtain ⟨c_323, A_324, q_325, S_326, M_327, H_328, U_329⟩ := id V_321
  have hin_336 : ¬ ((17 : Int32) < 0 ∨ c_323.slots.size ≤ (17 : Int32).toNatClampNeg) := inb_of S_326 ⟨(by decide : ¬ ((17 : Int32) < (0 : Int32))), (by decide : (17 : Int32) < (19 : Int32))⟩
  obtain ⟨T_330, h_331, X_332, e_333, W_334, st_335⟩ := stJ X_313 hx hZ e_314 A_324 (j := (17 : Int32)) hin_336 (g := (mkF m 121 #[.val (.int p0), .val (.long p1), .second, .val (.int p2), .val (.int p3), .unset, .unset, .unset, .unset, .unset, .unset, .unset, .unset, .unset, .unset, .unset, .unset, .unset, .unset, .unset, .unset, .unset, .unset] [(.long (100000000000000000 : Int64)), (.int (17 : Int32)), (.ref a_9), (.ref a_9)])) rfl rfl (hb hby at_121)
  have N_337 := Fr.snoc X_332 N_318 (Nat.le_trans (own_n0 X00) (Nat.le_of_eq g_10.symm))
  have CH_338 : CHv Z consts_1 s.vm h_331 := CHv.wr W_334 (Safe.arv hZ.alike V_321 (by decide)) CH_319
  have CR_339 : CHr Z consts_1 s.vm h0 s.vm h_331 := CR_320.trans (CHr.wr W_334 (Safe.arv hZ.alike V_321 (by decide)) CH_319)
  have V_340 : Arv Z h_331 a_9 k_3 .long (19 : Int32) [(.long (1 : Int64)), (.long (10 : Int64)), (.long (100 : Int64)), (.long (1000 : Int64)), (.long (10000 : Int64)), (.long (100000 : Int64)), (.long (1000000 : Int64)), (.long (10000000 : Int64)), (.long (100000000 : Int64)), (.long (1000000000 : Int64)), (.long (10000000000 : Int64)), (.long (100000000000 : Int64)), (.long (1000000000000 : Int64)), (.long (10000000000000 : Int64)), (.long (100000000000000 : Int64)), (.long (1000000000000000 : Int64)), (.long (10000000000000000 : Int64)), (.long (100000000000000000 : Int64)), (.long (0 : Int64))] (.long (0 : Int64)) := Arv.set A_324 q_325 S_326 M_327 H_328 U_329 rfl W_334 17 rfl (Nat.le_of_ble_eq_true rfl)
  obtain ⟨c_341, A_342, q_343, S_344, M_345, H_346, U_347⟩ := id V_340
  have hin_354 : ¬ ((18 : Int32) < 0 ∨ c_341.slots.size ≤ (18 : Int32).toNatClampNeg) := inb_of S_344 ⟨(by decide : ¬ ((18 : Int32) < (0 : Int32))), (by decide : (18 : Int32) < (19 : Int32))⟩
  obtain ⟨T_348, h_349, X_350, e_351, W_352, st_353⟩ := stJ X_332 hx hZ e_333 A_342 (j := (18 : Int32)) hin_354 (g := (mkF m 128 #[.val (.int p0), .val (.long p1), .second, .val (.int p2), .val (.int p3), .unset, .unset, .unset, .unset, .unset, .unset, .unset, .unset, .unset, .unset, .unset, .unset, .unset, .unset, .unset, .unset, .unset, .unset] [(.long (1000000000000000000 : Int64)), (.int (18 : Int32)), (.ref a_9), (.ref a_9)])) rfl rfl (hb hby at_128)
  have N_355 := Fr.snoc X_350 N_337 (Nat.le_trans (own_n0 X00) (Nat.le_of_eq g_10.symm))
  have CH_356 : CHv Z consts_1 s.vm h_349 := CHv.wr W_352 (Safe.arv hZ.alike V_340 (by decide)) CH_338
  have CR_357 : CHr Z consts_1 s.vm h0 s.vm h_349 := CR_339.trans (CHr.wr W_352 (Safe.arv hZ.alike V_340 (by decide)) CH_338)
  have V_358 : Arv Z h_349 a_9 k_3 .long (19 : Int32) [(.long (1 : Int64)), (.long (10 : Int64)), (.long (100 : Int64)), (.long (1000 : Int64)), (.long (10000 : Int64)), (.long (100000 : Int64)), (.long (1000000 : Int64)), (.long (10000000 : Int64)), (.long (100000000 : Int64)), (.long (1000000000 : Int64)), (.long (10000000000 : Int64)), (.long (100000000000 : Int64)), (.long (1000000000000 : Int64)), (.long (10000000000000 : Int64)), (.long (100000000000000 : Int64)), (.long (1000000000000000 : Int64)), (.long (10000000000000000 : Int64)), (.long (100000000000000000 : Int64)), (.long (1000000000000000000 : Int64))] (.long (0 : Int64)) := Arv.set A_342 q_343 S_344 M_345 H_346 U_347 rfl W_352 18 rfl (Nat.le_of_ble_eq_true rfl)
  have V_359 : Arv Z h_349 a_9 k_3 .long (19 : Int32) (own_jv own_pws) (.long (0 : Int64)) := V_358
  have C_360 : Steps p.tables e below S0 (T_348.setTop (mkF m 139 #[.val (.int p0), .val (.long p1), .second, .val (.int p2), .val (.int p3), .val (.ref a_9), .unset, .unset, .unset, .unset, .unset, .unset, .unset, .unset, .unset, .unset, .unset, .unset, .unset, .unset, .unset, .unset, .unset] [(.int (own_l20 p0))])) := by
    refine C_322.trans ?_
    refine X_313.ldc2J hx hown (mvT hZ (w17 hw)) rfl (hb hby at_118) ?_
    refine st_335 _ ?_
    refine XS.dup X_332.here hx rfl (hb hby at_122) rfl rfl ?_
    refine XS.bipush X_332.here hx rfl (hb hby at_123) ?_
    refine X_332.ldc2J hx hown (mvT hZ (w18 hw)) rfl (hb hby at_125) ?_
    refine st_353 _ ?_
    refine XS.astore X_350.here hx rfl (hb hby at_129) rfl rfl (l' := #[.val (.int p0), .val (.long p1), .second, .val (.int p2), .val (.int p3), .val (.ref a_9), .unset, .unset, .unset, .unset, .unset, .unset, .unset, .unset, .unset, .unset, .unset, .unset, .unset, .unset, .unset, .unset, .unset]) rfl ?_
    refine XS.iloadN X_350.here hx rfl (hb hby at_131) rfl ?_
    show Steps p.tables e below (T_348.setTop (mkF m 132 #[.val (.int p0), .val (.long p1), .second, .val (.int p2), .val (.int p3), .val (.ref a_9), .unset, .unset, .unset, .unset, .unset, .unset, .unset, .unset, .unset, .unset, .unset, .unset, .unset, .unset, .unset, .unset, .unset] [(.int p0)])) _
    refine XS.sipush X_350.here hx rfl (hb hby at_132) ?_
    refine XS.iand X_350.here hx rfl (hb hby at_135) rfl ?_
    refine XS.bipush X_350.here hx rfl (hb hby at_136) ?_
    refine iremM X_350 hx rfl (hb hby at_138) rfl (by decide) ?_
    exact Steps.refl _
  by_cases hn_361 : (own_l20 p0) = (0 : Int32)
  · skip
    have C_362 : Steps p.tables e below S0 (T_348.setTop (mkF m 139 #[.val (.int p0), .val (.long p1), .second, .val (.int p2), .val (.int p3), .val (.ref a_9), .unset, .unset, .unset, .unset, .unset, .unset, .unset, .unset, .unset, .unset, .unset, .unset, .unset, .unset, .unset, .unset, .unset] [(.int (0 : Int32))])) := by have q := C_360; rw [hn_361] at q; exact q
    obtain ⟨T_363, h_364, k_365, X_366, e_367, E_368, A_369, st_370⟩ := newP (aty := .char) X_350 hx hZ (w20 hw) e_351 (g := (mkF m 150 #[.val (.int p0), .val (.long p1), .second, .val (.int p2), .val (.int p3), .val (.ref a_9), .val (.int (0 : Int32)), .val (.long (own_Y p1)), .second, .unset, .unset, .unset, .unset, .unset, .unset, .unset, .unset, .unset, .unset, .unset, .unset, .unset, .unset] [(.int (0 : Int32))])) rfl (hb hby at_150) rfl (by decide : ¬ ((0 : Int32) < (0 : Int32))) (cap := 0) (by decide : (0 : Int32).toNatClampNeg ≤ 0) (by decide) (by decide) (by decide)
    obtain ⟨a_371, g_372⟩ : ∃ z, z = h_349.size := ⟨_, rfl⟩
    rw [← g_372] at A_369 st_370
    have CH_374 : CHv Z consts_1 s.vm h_364 := CHv.ext E_368 CH_356
    have CR_375 : CHr Z consts_1 s.vm h0 s.vm h_364 := CR_357.trans (CHr.ext E_368 CH_356)
    have V_376 : Arv Z h_364 a_371 k_365 .char (0 : Int32) [] (.int (0 : Int32)) := Arv.new A_369 (by decide : ¬ ((0 : Int32) < (0 : Int32)))
    have O_377 : Old Z n0 h_364 := (((((((((((((((((((((X00.ext E_6).wr W_26 (Nat.le_trans (own_n0 X00) (Nat.le_of_eq g_10.symm))).wr W_44 (Nat.le_trans (own_n0 X00) (Nat.le_of_eq g_10.symm))).wr W_62 (Nat.le_trans (own_n0 X00) (Nat.le_of_eq g_10.symm))).wr W_80 (Nat.le_trans (own_n0 X00) (Nat.le_of_eq g_10.symm))).wr W_98 (Nat.le_trans (own_n0 X00) (Nat.le_of_eq g_10.symm))).wr W_116 (Nat.le_trans (own_n0 X00) (Nat.le_of_eq g_10.symm))).wr W_134 (Nat.le_trans (own_n0 X00) (Nat.le_of_eq g_10.symm))).wr W_152 (Nat.le_trans (own_n0 X00) (Nat.le_of_eq g_10.symm))).wr W_171 (Nat.le_trans (own_n0 X00) (Nat.le_of_eq g_10.symm))).wr W_189 (Nat.le_trans (own_n0 X00) (Nat.le_of_eq g_10.symm))).wr W_207 (Nat.le_trans (own_n0 X00) (Nat.le_of_eq g_10.symm))).wr W_225 (Nat.le_trans (own_n0 X00) (Nat.le_of_eq g_10.symm))).wr W_243 (Nat.le_trans (own_n0 X00) (Nat.le_of_eq g_10.symm))).wr W_261 (Nat.le_trans (own_n0 X00) (Nat.le_of_eq g_10.symm))).wr W_279 (Nat.le_trans (own_n0 X00) (Nat.le_of_eq g_10.symm))).wr W_297 (Nat.le_trans (own_n0 X00) (Nat.le_of_eq g_10.symm))).wr W_315 (Nat.le_trans (own_n0 X00) (Nat.le_of_eq g_10.symm))).wr W_334 (Nat.le_trans (own_n0 X00) (Nat.le_of_eq g_10.symm))).wr W_352 (Nat.le_trans (own_n0 X00) (Nat.le_of_eq g_10.symm))).ext E_368)
    obtain ⟨_, _, ⟨T_378, L_378, k_378, n_378⟩, -, X_378, ⟨Lc_378, hQ_378, l_378, y_378, z_378⟩, st_378⟩ := Jvm.LawKit.callS X_366 hx (y := M232) hown (mvT hZ (w21 hw)) (mvT hZ (w22 hw)) (mvT hZ (w23 hw)) (mvT hZ (w24 hw)) (by decide) (backOf (W := 0) (rm_put0 l Z a0 hw [] G1 G3 HG h_364 n0 O_377 a_371 k_365 a_9 (own_Y p1) (0 : Int32) V_376 (by decide)) hZ (w24 hw) (w23 hw) (by decide) (by decide)) (g := (mkF m 161 #[.val (.int p0), .val (.long p1), .second, .val (.int p2), .val (.int p3), .val (.ref a_9), .val (.int (0 : Int32)), .val (.long (own_Y p1)), .second, .val (.ref a_371), .unset, .unset, .unset, .unset, .unset, .unset, .unset, .unset, .unset, .unset, .unset, .unset, .unset] [(.int (0 : Int32)), (.long (own_Y p1)), (.ref a_9), (.ref a_371)])) rfl (by rw [hml]; rfl) (argsL := [(.ref a_371), (.ref a_9), (.long (own_Y p1)), (.int (0 : Int32))]) (rest := []) (lenOf pd_358 rfl) rfl (by show 2 * 0 + _ ≤ _; exact Nat.le_of_eq rfl) (hb hby at_161) (fun _ _ => ⟨rfl, e_367, (by decide : 2 + 0 ≤ _), (by decide : 19 + 0 ≤ _)⟩)
    dsimp only [Pt.U, Pt.locs, Pt.cells, Pt.slots] at X_378 l_378 y_378 z_378 st_378 hQ_378
    have X_378 := own_cast X_378 l_378 y_378 z_378
    obtain ⟨rfl, N_379, e_380⟩ := hQ_378
    have N_381 := Fr.app N_355 N_379
    have e_382 : T_378.heap = h_364 := e_380
    obtain ⟨_, _, ⟨T_383, L_383, k_383, n_383⟩, -, X_383, ⟨Lc_383, hQ_383, l_383, y_383, z_383⟩, st_383⟩ := Jvm.LawKit.callS X_378 hx (y := M232) hown (mvT hZ (w21 hw)) (mvT hZ (w22 hw)) (mvT hZ (w23 hw)) (mvT hZ (w24 hw)) (by decide) (backOf (W := 0) (rm_put0 l Z a0 hw [] G1 G3 HG h_364 n0 O_377 a_371 k_365 a_9 (own_Y p1) (1 : Int32) V_376 (by decide)) hZ (w24 hw) (w23 hw) (by decide) (by decide)) (g := (mkF m 171 #[.val (.int p0), .val (.long p1), .second, .val (.int p2), .val (.int p3), .val (.ref a_9), .val (.int (0 : Int32)), .val (.long (own_Y p1)), .second, .val (.ref a_371), .unset, .unset, .unset, .unset, .unset, .unset, .unset, .unset, .unset, .unset, .unset, .unset, .unset] [(.int (1 : Int32)), (.long (own_Y p1)), (.ref a_9), (.ref a_371)])) rfl (by rw [hml]; rfl) (argsL := [(.ref a_371), (.ref a_9), (.long (own_Y p1)), (.int (1 : Int32))]) (rest := []) (lenOf pd_358 rfl) rfl (by show 2 * 0 + _ ≤ _; exact Nat.le_of_eq rfl) (hb hby at_171) (fun _ _ => ⟨rfl, e_382, (by decide : 2 + 0 ≤ _), (by decide : 19 + 0 ≤ _)⟩)
    dsimp only [Pt.U, Pt.locs, Pt.cells, Pt.slots] at X_383 l_383 y_383 z_383 st_383 hQ_383
    have X_383 := own_cast X_383 l_383 y_383 z_383
    obtain ⟨rfl, N_384, e_385⟩ := hQ_383
    have N_386 := Fr.app N_381 N_384
    have e_387 : T_383.heap = h_364 := e_385
    obtain ⟨_, _, ⟨T_388, L_388, k_388, n_388⟩, -, X_388, ⟨Lc_388, hQ_388, l_388, y_388, z_388⟩, st_388⟩ := Jvm.LawKit.callS X_383 hx (y := M232) hown (mvT hZ (w21 hw)) (mvT hZ (w22 hw)) (mvT hZ (w23 hw)) (mvT hZ (w24 hw)) (by decide) (backOf (W := 0) (rm_put0 l Z a0 hw [] G1 G3 HG h_364 n0 O_377 a_371 k_365 a_9 (own_Y p1) (2 : Int32) V_376 (by decide)) hZ (w24 hw) (w23 hw) (by decide) (by decide)) (g := (mkF m 181 #[.val (.int p0), .val (.long p1), .second, .val (.int p2), .val (.int p3), .val (.ref a_9), .val (.int (0 : Int32)), .val (.long (own_Y p1)), .second, .val (.ref a_371), .unset, .unset, .unset, .unset, .unset, .unset, .unset, .unset, .unset, .unset, .unset, .unset, .unset] [(.int (2 : Int32)), (.long (own_Y p1)), (.ref a_9), (.ref a_371)])) rfl (by rw [hml]; rfl) (argsL := [(.ref a_371), (.ref a_9), (.long (own_Y p1)), (.int (2 : Int32))]) (rest := []) (lenOf pd_358 rfl) rfl (by show 2 * 0 + _ ≤ _; exact Nat.le_of_eq rfl) (hb hby at_181) (fun _ _ => ⟨rfl, e_387, (by decide : 2 + 0 ≤ _), (by decide : 19 + 0 ≤ _)⟩)
    dsimp only [Pt.U, Pt.locs, Pt.cells, Pt.slots] at X_388 l_388 y_388 z_388 st_388 hQ_388
    have X_388 := own_cast X_388 l_388 y_388 z_388
    obtain ⟨rfl, N_389, e_390⟩ := hQ_388
    have N_391 := Fr.app N_386 N_389
    have e_392 : T_388.heap = h_364 := e_390
    obtain ⟨_, _, ⟨T_393, L_393, k_393, n_393⟩, -, X_393, ⟨Lc_393, hQ_393, l_393, y_393, z_393⟩, st_393⟩ := Jvm.LawKit.callS X_388 hx (y := M232) hown (mvT hZ (w21 hw)) (mvT hZ (w22 hw)) (mvT hZ (w23 hw)) (mvT hZ (w24 hw)) (by decide) (backOf (W := 0) (rm_put0 l Z a0 hw [] G1 G3 HG h_364 n0 O_377 a_371 k_365 a_9 (own_Y p1) (3 : Int32) V_376 (by decide)) hZ (w24 hw) (w23 hw) (by decide) (by decide)) (g := (mkF m 191 #[.val (.int p0), .val (.long p1), .second, .val (.int p2), .val (.int p3), .val (.ref a_9), .val (.int (0 : Int32)), .val (.long (own_Y p1)), .second, .val (.ref a_371), .unset, .unset, .unset, .unset, .unset, .unset, .unset, .unset, .unset, .unset, .unset, .unset, .unset] [(.int (3 : Int32)), (.long (own_Y p1)), (.ref a_9), (.ref a_371)])) rfl (by rw [hml]; rfl) (argsL := [(.ref a_371), (.ref a_9), (.long (own_Y p1)), (.int (3 : Int32))]) (rest := []) (lenOf pd_358 rfl) rfl (by show 2 * 0 + _ ≤ _; exact Nat.le_of_eq rfl) (hb hby at_191) (fun _ _ => ⟨rfl, e_392, (by decide : 2 + 0 ≤ _), (by decide : 19 + 0 ≤ _)⟩)
    dsimp only [Pt.U, Pt.locs, Pt.cells, Pt.slots] at X_393 l_393 y_393 z_393 st_393 hQ_393
    have X_393 := own_cast X_393 l_393 y_393 z_393
    obtain ⟨rfl, N_394, e_395⟩ := hQ_393
    have N_396 := Fr.app N_391 N_394
    have e_397 : T_393.heap = h_364 := e_395
    obtain ⟨_, _, ⟨T_398, L_398, k_398, n_398⟩, -, X_398, ⟨Lc_398, hQ_398, l_398, y_398, z_398⟩, st_398⟩ := Jvm.LawKit.callS X_393 hx (y := M232) hown (mvT hZ (w21 hw)) (mvT hZ (w22 hw)) (mvT hZ (w23 hw)) (mvT hZ (w24 hw)) (by decide) (backOf (W := 0) (rm_put0 l Z a0 hw [] G1 G3 HG h_364 n0 O_377 a_371 k_365 a_9 (own_Y p1) (4 : Int32) V_376 (by decide)) hZ (w24 hw) (w23 hw) (by decide) (by decide)) (g := (mkF m 201 #[.val (.int p0), .val (.long p1), .second, .val (.int p2), .val (.int p3), .val (.ref a_9), .val (.int (0 : Int32)), .val (.long (own_Y p1)), .second, .val (.ref a_371), .unset, .unset, .unset, .unset, .unset, .unset, .unset, .unset, .unset, .unset, .unset, .unset, .unset] [(.int (4 : Int32)), (.long (own_Y p1)), (.ref a_9), (.ref a_371)])) rfl (by rw [hml]; rfl) (argsL := [(.ref a_371), (.ref a_9), (.long (own_Y p1)), (.int (4 : Int32))]) (rest := []) (lenOf pd_358 rfl) rfl (by show 2 * 0 + _ ≤ _; exact Nat.le_of_eq rfl) (hb hby at_201) (fun _ _ => ⟨rfl, e_397, (by decide : 2 + 0 ≤ _), (by decide : 19 + 0 ≤ _)⟩)
    dsimp only [Pt.U, Pt.locs, Pt.cells, Pt.slots] at X_398 l_398 y_398 z_398 st_398 hQ_398
    have X_398 := own_cast X_398 l_398 y_398 z_398
    obtain ⟨rfl, N_399, e_400⟩ := hQ_398
    have N_401 := Fr.app N_396 N_399
    have e_402 : T_398.heap = h_364 := e_400
    have C_403 : Steps p.tables e below S0 (T_398.setTop (mkF m 210 #[.val (.int p0), .val (.long p1), .second, .val (.int p2), .val (.int p3), .val (.ref a_9), .val (.int (0 : Int32)), .val (.long (own_Y p1)), .second, .val (.ref a_371), .unset, .unset, .unset, .unset, .unset, .unset, .unset, .unset, .unset, .unset, .unset, .unset, .unset] [(.long (own_Y p1)), (.ref a_9), (.ref a_371)])) := by
      refine C_362.trans ?_
      refine XS.istore X_350.here hx rfl (hb hby at_139) rfl (l' := #[.val (.int p0), .val (.long p1), .second, .val (.int p2), .val (.int p3), .val (.ref a_9), .val (.int (0 : Int32)), .unset, .unset, .unset, .unset, .unset, .unset, .unset, .unset, .unset, .unset, .unset, .unset, .unset, .unset, .unset, .unset]) rfl ?_
      refine XS.lloadN X_350.here hx rfl (hb hby at_141) rfl ?_
      refine X_350.ldc2J hx hown (mvT hZ (w19 hw)) rfl (hb hby at_142) ?_
      refine XS.land X_350.here hx rfl (hb hby at_145) rfl ?_
      refine XS.lstore X_350.here hx rfl (hb hby at_146) rfl (l' := #[.val (.int p0), .val (.long p1), .second, .val (.int p2), .val (.int p3), .val (.ref a_9), .val (.int (0 : Int32)), .val (.long (own_Y p1)), .second, .unset, .unset, .unset, .unset, .unset, .unset, .unset, .unset, .unset, .unset, .unset, .unset, .unset, .unset]) rfl ?_
      refine XS.iload X_350.here hx rfl (hb hby at_148) rfl ?_
      refine st_370 _ ?_
      refine XS.astore X_366.here hx rfl (hb hby at_152) rfl rfl (l' := #[.val (.int p0), .val (.long p1), .second, .val (.int p2), .val (.int p3), .val (.ref a_9), .val (.int (0 : Int32)), .val (.long (own_Y p1)), .second, .val (.ref a_371), .unset, .unset, .unset, .unset, .unset, .unset, .unset, .unset, .unset, .unset, .unset, .unset, .unset]) rfl ?_
      show Steps p.tables e below (T_363.setTop (mkF m 154 #[.val (.int p0), .val (.long p1), .second, .val (.int p2), .val (.int p3), .val (.ref a_9), .val (.int (0 : Int32)), .val (.long (own_Y p1)), .second, .val (.ref a_371), .unset, .unset, .unset, .unset, .unset, .unset, .unset, .unset, .unset, .unset, .unset, .unset, .unset] [])) _
      refine XS.aload X_366.here hx rfl (hb hby at_154) rfl rfl ?_
      refine XS.aload X_366.here hx rfl (hb hby at_156) rfl rfl ?_
      refine XS.lload X_366.here hx rfl (hb hby at_158) rfl ?_
      refine XS.iconst X_366.here hx rfl (hb hby at_160) ?_
      refine st_378 _ ?_
      refine XS.aload X_378.here hx rfl (hb hby at_164) rfl rfl ?_
      refine XS.aload X_378.here hx rfl (hb hby at_166) rfl rfl ?_
      refine XS.lload X_378.here hx rfl (hb hby at_168) rfl ?_
      show Steps p.tables e below (T_378.setTop (mkF m 170 #[.val (.int p0), .val (.long p1), .second, .val (.int p2), .val (.int p3), .val (.ref a_9), .val (.int (0 : Int32)), .val (.long (own_Y p1)), .second, .val (.ref a_371), .unset, .unset, .unset, .unset, .unset, .unset, .unset, .unset, .unset, .unset, .unset, .unset, .unset] [(.long (own_Y p1)), (.ref a_9), (.ref a_371)])) _
      refine XS.iconst X_378.here hx rfl (hb hby at_170) ?_
      refine st_383 _ ?_
      refine XS.aload X_383.here hx rfl (hb hby at_174) rfl rfl ?_
      refine XS.aload X_383.here hx rfl (hb hby at_176) rfl rfl ?_
      refine XS.lload X_383.here hx rfl (hb hby at_178) rfl ?_
      refine XS.iconst X_383.here hx rfl (hb hby at_180) ?_
      refine st_388 _ ?_
      refine XS.aload X_388.here hx rfl (hb hby at_184) rfl rfl ?_
      show Steps p.tables e below (T_388.setTop (mkF m 186 #[.val (.int p0), .val (.long p1), .second, .val (.int p2), .val (.int p3), .val (.ref a_9), .val (.int (0 : Int32)), .val (.long (own_Y p1)), .second, .val (.ref a_371), .unset, .unset, .unset, .unset, .unset, .unset, .unset, .unset, .unset, .unset, .unset, .unset, .unset] [(.ref a_371)])) _
      refine XS.aload X_388.here hx rfl (hb hby at_186) rfl rfl ?_
      refine XS.lload X_388.here hx rfl (hb hby at_188) rfl ?_
      refine XS.iconst X_388.here hx rfl (hb hby at_190) ?_
      refine st_393 _ ?_
      refine XS.aload X_393.here hx rfl (hb hby at_194) rfl rfl ?_
      refine XS.aload X_393.here hx rfl (hb hby at_196) rfl rfl ?_
      refine XS.lload X_393.here hx rfl (hb hby at_198) rfl ?_
      refine XS.iconst X_393.here hx rfl (hb hby at_200) ?_
      show Steps p.tables e below (T_393.setTop (mkF m 201 #[.val (.int p0), .val (.long p1), .second, .val (.int p2), .val (.int p3), .val (.ref a_9), .val (.int (0 : Int32)), .val (.long (own_Y p1)), .second, .val (.ref a_371), .unset, .unset, .unset, .unset, .unset, .unset, .unset, .unset, .unset, .unset, .unset, .unset, .unset] [(.int (4 : Int32)), (.long (own_Y p1)), (.ref a_9), (.ref a_371)])) _
      refine st_398 _ ?_
      refine XS.aload X_398.here hx rfl (hb hby at_204) rfl rfl ?_
      refine XS.aload X_398.here hx rfl (hb hby at_206) rfl rfl ?_
      refine XS.lload X_398.here hx rfl (hb hby at_208) rfl ?_
      exact Steps.refl _
    obtain ⟨_, _, ⟨T_404, L_404, k_404, n_404⟩, -, X_404, ⟨Lc_404, hQ_404, l_404, y_404, z_404⟩, st_404⟩ := Jvm.LawKit.callS X_398 hx (y := M232) hown (mvT hZ (w21 hw)) (mvT hZ (w22 hw)) (mvT hZ (w23 hw)) (mvT hZ (w24 hw)) (by decide) (backOf (W := 0) (rm_put0 l Z a0 hw [] G1 G3 HG h_364 n0 O_377 a_371 k_365 a_9 (own_Y p1) (5 : Int32) V_376 (by decide)) hZ (w24 hw) (w23 hw) (by decide) (by decide)) (g := (mkF m 211 #[.val (.int p0), .val (.long p1), .second, .val (.int p2), .val (.int p3), .val (.ref a_9), .val (.int (0 : Int32)), .val (.long (own_Y p1)), .second, .val (.ref a_371), .unset, .unset, .unset, .unset, .unset, .unset, .unset, .unset, .unset, .unset, .unset, .unset, .unset] [(.int (5 : Int32)), (.long (own_Y p1)), (.ref a_9), (.ref a_371)])) rfl (by rw [hml]; rfl) (argsL := [(.ref a_371), (.ref a_9), (.long (own_Y p1)), (.int (5 : Int32))]) (rest := []) (lenOf pd_358 rfl) rfl (by show 2 * 0 + _ ≤ _; exact Nat.le_of_eq rfl) (hb hby at_211) (fun _ _ => ⟨rfl, e_402, (by decide : 2 + 0 ≤ _), (by decide : 19 + 0 ≤ _)⟩)
    dsimp only [Pt.U, Pt.locs, Pt.cells, Pt.slots] at X_404 l_404 y_404 z_404 st_404 hQ_404
    have X_404 := own_cast X_404 l_404 y_404 z_404
    obtain ⟨rfl, N_405, e_406⟩ := hQ_404
    have N_407 := Fr.app N_401 N_405
    have e_408 : T_404.heap = h_364 := e_406
    obtain ⟨_, _, ⟨T_409, L_409, k_409, n_409⟩, -, X_409, ⟨Lc_409, hQ_409, l_409, y_409, z_409⟩, st_409⟩ := Jvm.LawKit.callS X_404 hx (y := M232) hown (mvT hZ (w21 hw)) (mvT hZ (w22 hw)) (mvT hZ (w23 hw)) (mvT hZ (w24 hw)) (by decide) (backOf (W := 0) (rm_put0 l Z a0 hw [] G1 G3 HG h_364 n0 O_377 a_371 k_365 a_9 (own_Y p1) (6 : Int32) V_376 (by decide)) hZ (w24 hw) (w23 hw) (by decide) (by decide)) (g := (mkF m 222 #[.val (.int p0), .val (.long p1), .second, .val (.int p2), .val (.int p3), .val (.ref a_9), .val (.int (0 : Int32)), .val (.long (own_Y p1)), .second, .val (.ref a_371), .unset, .unset, .unset, .unset, .unset, .unset, .unset, .unset, .unset, .unset, .unset, .unset, .unset] [(.int (6 : Int32)), (.long (own_Y p1)), (.ref a_9), (.ref a_371)])) rfl (by rw [hml]; rfl) (argsL := [(.ref a_371), (.ref a_9), (.long (own_Y p1)), (.int (6 : Int32))]) (rest := []) (lenOf pd_358 rfl) rfl (by show 2 * 0 + _ ≤ _; exact Nat.le_of_eq rfl) (hb hby at_222) (fun _ _ => ⟨rfl, e_408, (by decide : 2 + 0 ≤ _), (by decide : 19 + 0 ≤ _)⟩)
    dsimp only [Pt.U, Pt.locs, Pt.cells, Pt.slots] at X_409 l_409 y_409 z_409 st_409 hQ_409
    have X_409 := own_cast X_409 l_409 y_409 z_409
    obtain ⟨rfl, N_410, e_411⟩ := hQ_409
    have N_412 := Fr.app N_407 N_410
    have e_413 : T_409.heap = h_364 := e_411
    obtain ⟨_, _, ⟨T_414, L_414, k_414, n_414⟩, -, X_414, ⟨Lc_414, hQ_414, l_414, y_414, z_414⟩, st_414⟩ := Jvm.LawKit.callS X_409 hx (y := M232) hown (mvT hZ (w21 hw)) (mvT hZ (w22 hw)) (mvT hZ (w23 hw)) (mvT hZ (w24 hw)) (by decide) (backOf (W := 0) (rm_put0 l Z a0 hw [] G1 G3 HG h_364 n0 O_377 a_371 k_365 a_9 (own_Y p1) (7 : Int32) V_376 (by decide)) hZ (w24 hw) (w23 hw) (by decide) (by decide)) (g := (mkF m 233 #[.val (.int p0), .val (.long p1), .second, .val (.int p2), .val (.int p3), .val (.ref a_9), .val (.int (0 : Int32)), .val (.long (own_Y p1)), .second, .val (.ref a_371), .unset, .unset, .unset, .unset, .unset, .unset, .unset, .unset, .unset, .unset, .unset, .unset, .unset] [(.int (7 : Int32)), (.long (own_Y p1)), (.ref a_9), (.ref a_371)])) rfl (by rw [hml]; rfl) (argsL := [(.ref a_371), (.ref a_9), (.long (own_Y p1)), (.int (7 : Int32))]) (rest := []) (lenOf pd_358 rfl) rfl (by show 2 * 0 + _ ≤ _; exact Nat.le_of_eq rfl) (hb hby at_233) (fun _ _ => ⟨rfl, e_413, (by decide : 2 + 0 ≤ _), (by decide : 19 + 0 ≤ _)⟩)
    dsimp only [Pt.U, Pt.locs, Pt.cells, Pt.slots] at X_414 l_414 y_414 z_414 st_414 hQ_414
    have X_414 := own_cast X_414 l_414 y_414 z_414
    obtain ⟨rfl, N_415, e_416⟩ := hQ_414
    have N_417 := Fr.app N_412 N_415
    have e_418 : T_414.heap = h_364 := e_416
    obtain ⟨_, _, ⟨T_419, L_419, k_419, n_419⟩, -, X_419, ⟨Lc_419, hQ_419, l_419, y_419, z_419⟩, st_419⟩ := Jvm.LawKit.callS X_414 hx (y := M232) hown (mvT hZ (w21 hw)) (mvT hZ (w22 hw)) (mvT hZ (w23 hw)) (mvT hZ (w24 hw)) (by decide) (backOf (W := 0) (rm_put0 l Z a0 hw [] G1 G3 HG h_364 n0 O_377 a_371 k_365 a_9 (own_Y p1) (8 : Int32) V_376 (by decide)) hZ (w24 hw) (w23 hw) (by decide) (by decide)) (g := (mkF m 244 #[.val (.int p0), .val (.long p1), .second, .val (.int p2), .val (.int p3), .val (.ref a_9), .val (.int (0 : Int32)), .val (.long (own_Y p1)), .second, .val (.ref a_371), .unset, .unset, .unset, .unset, .unset, .unset, .unset, .unset, .unset, .unset, .unset, .unset, .unset] [(.int (8 : Int32)), (.long (own_Y p1)), (.ref a_9), (.ref a_371)])) rfl (by rw [hml]; rfl) (argsL := [(.ref a_371), (.ref a_9), (.long (own_Y p1)), (.int (8 : Int32))]) (rest := []) (lenOf pd_358 rfl) rfl (by show 2 * 0 + _ ≤ _; exact Nat.le_of_eq rfl) (hb hby at_244) (fun _ _ => ⟨rfl, e_418, (by decide : 2 + 0 ≤ _), (by decide : 19 + 0 ≤ _)⟩)
    dsimp only [Pt.U, Pt.locs, Pt.cells, Pt.slots] at X_419 l_419 y_419 z_419 st_419 hQ_419
    have X_419 := own_cast X_419 l_419 y_419 z_419
    obtain ⟨rfl, N_420, e_421⟩ := hQ_419
    have N_422 := Fr.app N_417 N_420
    have e_423 : T_419.heap = h_364 := e_421
    obtain ⟨_, _, ⟨T_424, L_424, k_424, n_424⟩, -, X_424, ⟨Lc_424, hQ_424, l_424, y_424, z_424⟩, st_424⟩ := Jvm.LawKit.callS X_419 hx (y := M232) hown (mvT hZ (w21 hw)) (mvT hZ (w22 hw)) (mvT hZ (w23 hw)) (mvT hZ (w24 hw)) (by decide) (backOf (W := 0) (rm_put0 l Z a0 hw [] G1 G3 HG h_364 n0 O_377 a_371 k_365 a_9 (own_Y p1) (9 : Int32) V_376 (by decide)) hZ (w24 hw) (w23 hw) (by decide) (by decide)) (g := (mkF m 255 #[.val (.int p0), .val (.long p1), .second, .val (.int p2), .val (.int p3), .val (.ref a_9), .val (.int (0 : Int32)), .val (.long (own_Y p1)), .second, .val (.ref a_371), .unset, .unset, .unset, .unset, .unset, .unset, .unset, .unset, .unset, .unset, .unset, .unset, .unset] [(.int (9 : Int32)), (.long (own_Y p1)), (.ref a_9), (.ref a_371)])) rfl (by rw [hml]; rfl) (argsL := [(.ref a_371), (.ref a_9), (.long (own_Y p1)), (.int (9 : Int32))]) (rest := []) (lenOf pd_358 rfl) rfl (by show 2 * 0 + _ ≤ _; exact Nat.le_of_eq rfl) (hb hby at_255) (fun _ _ => ⟨rfl, e_423, (by decide : 2 + 0 ≤ _), (by decide : 19 + 0 ≤ _)⟩)
    dsimp only [Pt.U, Pt.locs, Pt.cells, Pt.slots] at X_424 l_424 y_424 z_424 st_424 hQ_424
    have X_424 := own_cast X_424 l_424 y_424 z_424
    obtain ⟨rfl, N_425, e_426⟩ := hQ_424
    have N_427 := Fr.app N_422 N_425
    have e_428 : T_424.heap = h_364 := e_426
    obtain ⟨_, _, ⟨T_429, L_429, k_429, n_429⟩, -, X_429, ⟨Lc_429, hQ_429, l_429, y_429, z_429⟩, st_429⟩ := Jvm.LawKit.callS X_424 hx (y := M232) hown (mvT hZ (w21 hw)) (mvT hZ (w22 hw)) (mvT hZ (w23 hw)) (mvT hZ (w24 hw)) (by decide) (backOf (W := 0) (rm_put0 l Z a0 hw [] G1 G3 HG h_364 n0 O_377 a_371 k_365 a_9 (own_Y p1) (10 : Int32) V_376 (by decide)) hZ (w24 hw) (w23 hw) (by decide) (by decide)) (g := (mkF m 266 #[.val (.int p0), .val (.long p1), .second, .val (.int p2), .val (.int p3), .val (.ref a_9), .val (.int (0 : Int32)), .val (.long (own_Y p1)), .second, .val (.ref a_371), .unset, .unset, .unset, .unset, .unset, .unset, .unset, .unset, .unset, .unset, .unset, .unset, .unset] [(.int (10 : Int32)), (.long (own_Y p1)), (.ref a_9), (.ref a_371)])) rfl (by rw [hml]; rfl) (argsL := [(.ref a_371), (.ref a_9), (.long (own_Y p1)), (.int (10 : Int32))]) (rest := []) (lenOf pd_358 rfl) rfl (by show 2 * 0 + _ ≤ _; exact Nat.le_of_eq rfl) (hb hby at_266) (fun _ _ => ⟨rfl, e_428, (by decide : 2 + 0 ≤ _), (by decide : 19 + 0 ≤ _)⟩)
    dsimp only [Pt.U, Pt.locs, Pt.cells, Pt.slots] at X_429 l_429 y_429 z_429 st_429 hQ_429
    have X_429 := own_cast X_429 l_429 y_429 z_429
    obtain ⟨rfl, N_430, e_431⟩ := hQ_429
    have N_432 := Fr.app N_427 N_430
    have e_433 : T_429.heap = h_364 := e_431
    obtain ⟨_, _, ⟨T_434, L_434, k_434, n_434⟩, -, X_434, ⟨Lc_434, hQ_434, l_434, y_434, z_434⟩, st_434⟩ := Jvm.LawKit.callS X_429 hx (y := M232) hown (mvT hZ (w21 hw)) (mvT hZ (w22 hw)) (mvT hZ (w23 hw)) (mvT hZ (w24 hw)) (by decide) (backOf (W := 0) (rm_put0 l Z a0 hw [] G1 G3 HG h_364 n0 O_377 a_371 k_365 a_9 (own_Y p1) (11 : Int32) V_376 (by decide)) hZ (w24 hw) (w23 hw) (by decide) (by decide)) (g := (mkF m 277 #[.val (.int p0), .val (.long p1), .second, .val (.int p2), .val (.int p3), .val (.ref a_9), .val (.int (0 : Int32)), .val (.long (own_Y p1)), .second, .val (.ref a_371), .unset, .unset, .unset, .unset, .unset, .unset, .unset, .unset, .unset, .unset, .unset, .unset, .unset] [(.int (11 : Int32)), (.long (own_Y p1)), (.ref a_9), (.ref a_371)])) rfl (by rw [hml]; rfl) (argsL := [(.ref a_371), (.ref a_9), (.long (own_Y p1)), (.int (11 : Int32))]) (rest := []) (lenOf pd_358 rfl) rfl (by show 2 * 0 + _ ≤ _; exact Nat.le_of_eq rfl) (hb hby at_277) (fun _ _ => ⟨rfl, e_433, (by decide : 2 + 0 ≤ _), (by decide : 19 + 0 ≤ _)⟩)
    dsimp only [Pt.U, Pt.locs, Pt.cells, Pt.slots] at X_434 l_434 y_434 z_434 st_434 hQ_434
    have X_434 := own_cast X_434 l_434 y_434 z_434
    obtain ⟨rfl, N_435, e_436⟩ := hQ_434
    have N_437 := Fr.app N_432 N_435
    have e_438 : T_434.heap = h_364 := e_436
    have C_439 : Steps p.tables e below S0 (T_434.setTop (mkF m 288 #[.val (.int p0), .val (.long p1), .second, .val (.int p2), .val (.int p3), .val (.ref a_9), .val (.int (0 : Int32)), .val (.long (own_Y p1)), .second, .val (.ref a_371), .unset, .unset, .unset, .unset, .unset, .unset, .unset, .unset, .unset, .unset, .unset, .unset, .unset] [(.int (12 : Int32)), (.long (own_Y p1)), (.ref a_9), (.ref a_371)])) := by
      refine C_403.trans ?_
      refine XS.iconst X_398.here hx rfl (hb hby at_210) ?_
      refine st_404 _ ?_
      refine XS.aload X_404.here hx rfl (hb hby at_214) rfl rfl ?_
      refine XS.aload X_404.here hx rfl (hb hby at_216) rfl rfl ?_
      refine XS.lload X_404.here hx rfl (hb hby at_218) rfl ?_
      refine XS.bipush X_404.here hx rfl (hb hby at_220) ?_
      refine st_409 _ ?_
      refine XS.aload X_409.here hx rfl (hb hby at_225) rfl rfl ?_
      show Steps p.tables e below (T_409.setTop (mkF m 227 #[.val (.int p0), .val (.long p1), .second, .val (.int p2), .val (.int p3), .val (.ref a_9), .val (.int (0 : Int32)), .val (.long (own_Y p1)), .second, .val (.ref a_371), .unset, .unset, .unset, .unset, .unset, .unset, .unset, .unset, .unset, .unset, .unset, .unset, .unset] [(.ref a_371)])) _
      refine XS.aload X_409.here hx rfl (hb hby at_227) rfl rfl ?_
      refine XS.lload X_409.here hx rfl (hb hby at_229) rfl ?_
      refine XS.bipush X_409.here hx rfl (hb hby at_231) ?_
      refine st_414 _ ?_
      refine XS.aload X_414.here hx rfl (hb hby at_236) rfl rfl ?_
      refine XS.aload X_414.here hx rfl (hb hby at_238) rfl rfl ?_
      refine XS.lload X_414.here hx rfl (hb hby at_240) rfl ?_
      refine XS.bipush X_414.here hx rfl (hb hby at_242) ?_
      show Steps p.tables e below (T_414.setTop (mkF m 244 #[.val (.int p0), .val (.long p1), .second, .val (.int p2), .val (.int p3), .val (.ref a_9), .val (.int (0 : Int32)), .val (.long (own_Y p1)), .second, .val (.ref a_371), .unset, .unset, .unset, .unset, .unset, .unset, .unset, .unset, .unset, .unset, .unset, .unset, .unset] [(.int (8 : Int32)), (.long (own_Y p1)), (.ref a_9), (.ref a_371)])) _
      refine st_419 _ ?_
      refine XS.aload X_419.here hx rfl (hb hby at_247) rfl rfl ?_
      refine XS.aload X_419.here hx rfl (hb hby at_249) rfl rfl ?_
      refine XS.lload X_419.here hx rfl (hb hby at_251) rfl ?_
      refine XS.bipush X_419.here hx rfl (hb hby at_253) ?_
      refine st_424 _ ?_
      refine XS.aload X_424.here hx rfl (hb hby at_258) rfl rfl ?_
      refine XS.aload X_424.here hx rfl (hb hby at_260) rfl rfl ?_
      show Steps p.tables e below (T_424.setTop (mkF m 262 #[.val (.int p0), .val (.long p1), .second, .val (.int p2), .val (.int p3), .val (.ref a_9), .val (.int (0 : Int32)), .val (.long (own_Y p1)), .second, .val (.ref a_371), .unset, .unset, .unset, .unset, .unset, .unset, .unset, .unset, .unset, .unset, .unset, .unset, .unset] [(.ref a_9), (.ref a_371)])) _
      refine XS.lload X_424.here hx rfl (hb hby at_262) rfl ?_
      refine XS.bipush X_424.here hx rfl (hb hby at_264) ?_
      refine st_429 _ ?_
      refine XS.aload X_429.here hx rfl (hb hby at_269) rfl rfl ?_
      refine XS.aload X_429.here hx rfl (hb hby at_271) rfl rfl ?_
      refine XS.lload X_429.here hx rfl (hb hby at_273) rfl ?_
      refine XS.bipush X_429.here hx rfl (hb hby at_275) ?_
      refine st_434 _ ?_
      show Steps p.tables e below (T_434.setTop (mkF m 280 #[.val (.int p0), .val (.long p1), .second, .val (.int p2), .val (.int p3), .val (.ref a_9), .val (.int (0 : Int32)), .val (.long (own_Y p1)), .second, .val (.ref a_371), .unset, .unset, .unset, .unset, .unset, .unset, .unset, .unset, .unset, .unset, .unset, .unset, .unset] [])) _
      refine XS.aload X_434.here hx rfl (hb hby at_280) rfl rfl ?_
      refine XS.aload X_434.here hx rfl (hb hby at_282) rfl rfl ?_
      refine XS.lload X_434.here hx rfl (hb hby at_284) rfl ?_
      refine XS.bipush X_434.here hx rfl (hb hby at_286) ?_
      exact Steps.refl _
    obtain ⟨_, _, ⟨T_440, L_440, k_440, n_440⟩, -, X_440, ⟨Lc_440, hQ_440, l_440, y_440, z_440⟩, st_440⟩ := Jvm.LawKit.callS X_434 hx (y := M232) hown (mvT hZ (w21 hw)) (mvT hZ (w22 hw)) (mvT hZ (w23 hw)) (mvT hZ (w24 hw)) (by decide) (backOf (W := 0) (rm_put0 l Z a0 hw [] G1 G3 HG h_364 n0 O_377 a_371 k_365 a_9 (own_Y p1) (12 : Int32) V_376 (by decide)) hZ (w24 hw) (w23 hw) (by decide) (by decide)) (g := (mkF m 288 #[.val (.int p0), .val (.long p1), .second, .val (.int p2), .val (.int p3), .val (.ref a_9), .val (.int (0 : Int32)), .val (.long (own_Y p1)), .second, .val (.ref a_371), .unset, .unset, .unset, .unset, .unset, .unset, .unset, .unset, .unset, .unset, .unset, .unset, .unset] [(.int (12 : Int32)), (.long (own_Y p1)), (.ref a_9), (.ref a_371)])) rfl (by rw [hml]; rfl) (argsL := [(.ref a_371), (.ref a_9), (.long (own_Y p1)), (.int (12 : Int32))]) (rest := []) (lenOf pd_358 rfl) rfl (by show 2 * 0 + _ ≤ _; exact Nat.le_of_eq rfl) (hb hby at_288) (fun _ _ => ⟨rfl, e_438, (by decide : 2 + 0 ≤ _), (by decide : 19 + 0 ≤ _)⟩)
    dsimp only [Pt.U, Pt.locs, Pt.cells, Pt.slots] at X_440 l_440 y_440 z_440 st_440 hQ_440
    have X_440 := own_cast X_440 l_440 y_440 z_440
    obtain ⟨rfl, N_441, e_442⟩ := hQ_440
    have N_443 := Fr.app N_437 N_441
    have e_444 : T_440.heap = h_364 := e_442
    obtain ⟨_, _, ⟨T_445, L_445, k_445, n_445⟩, -, X_445, ⟨Lc_445, hQ_445, l_445, y_445, z_445⟩, st_445⟩ := Jvm.LawKit.callS X_440 hx (y := M232) hown (mvT hZ (w21 hw)) (mvT hZ (w22 hw)) (mvT hZ (w23 hw)) (mvT hZ (w24 hw)) (by decide) (backOf (W := 0) (rm_put0 l Z a0 hw [] G1 G3 HG h_364 n0 O_377 a_371 k_365 a_9 (own_Y p1) (13 : Int32) V_376 (by decide)) hZ (w24 hw) (w23 hw) (by decide) (by decide)) (g := (mkF m 299 #[.val (.int p0), .val (.long p1), .second, .val (.int p2), .val (.int p3), .val (.ref a_9), .val (.int (0 : Int32)), .val (.long (own_Y p1)), .second, .val (.ref a_371), .unset, .unset, .unset, .unset, .unset, .unset, .unset, .unset, .unset, .unset, .unset, .unset, .unset] [(.int (13 : Int32)), (.long (own_Y p1)), (.ref a_9), (.ref a_371)])) rfl (by rw [hml]; rfl) (argsL := [(.ref a_371), (.ref a_9), (.long (own_Y p1)), (.int (13 : Int32))]) (rest := []) (lenOf pd_358 rfl) rfl (by show 2 * 0 + _ ≤ _; exact Nat.le_of_eq rfl) (hb hby at_299) (fun _ _ => ⟨rfl, e_444, (by decide : 2 + 0 ≤ _), (by decide : 19 + 0 ≤ _)⟩)
    dsimp only [Pt.U, Pt.locs, Pt.cells, Pt.slots] at X_445 l_445 y_445 z_445 st_445 hQ_445
    have X_445 := own_cast X_445 l_445 y_445 z_445
    obtain ⟨rfl, N_446, e_447⟩ := hQ_445
    have N_448 := Fr.app N_443 N_446
    have e_449 : T_445.heap = h_364 := e_447
    obtain ⟨_, _, ⟨T_450, L_450, k_450, n_450⟩, -, X_450, ⟨Lc_450, hQ_450, l_450, y_450, z_450⟩, st_450⟩ := Jvm.LawKit.callS X_445 hx (y := M232) hown (mvT hZ (w21 hw)) (mvT hZ (w22 hw)) (mvT hZ (w23 hw)) (mvT hZ (w24 hw)) (by decide) (backOf (W := 0) (rm_put0 l Z a0 hw [] G1 G3 HG h_364 n0 O_377 a_371 k_365 a_9 (own_Y p1) (14 : Int32) V_376 (by decide)) hZ (w24 hw) (w23 hw) (by decide) (by decide)) (g := (mkF m 310 #[.val (.int p0), .val (.long p1), .second, .val (.int p2), .val (.int p3), .val (.ref a_9), .val (.int (0 : Int32)), .val (.long (own_Y p1)), .second, .val (.ref a_371), .unset, .unset, .unset, .unset, .unset, .unset, .unset, .unset, .unset, .unset, .unset, .unset, .unset] [(.int (14 : Int32)), (.long (own_Y p1)), (.ref a_9), (.ref a_371)])) rfl (by rw [hml]; rfl) (argsL := [(.ref a_371), (.ref a_9), (.long (own_Y p1)), (.int (14 : Int32))]) (rest := []) (lenOf pd_358 rfl) rfl (by show 2 * 0 + _ ≤ _; exact Nat.le_of_eq rfl) (hb hby at_310) (fun _ _ => ⟨rfl, e_449, (by decide : 2 + 0 ≤ _), (by decide : 19 + 0 ≤ _)⟩)
    dsimp only [Pt.U, Pt.locs, Pt.cells, Pt.slots] at X_450 l_450 y_450 z_450 st_450 hQ_450
    have X_450 := own_cast X_450 l_450 y_450 z_450
    obtain ⟨rfl, N_451, e_452⟩ := hQ_450
    have N_453 := Fr.app N_448 N_451
    have e_454 : T_450.heap = h_364 := e_452
    obtain ⟨_, _, ⟨T_455, L_455, k_455, n_455⟩, -, X_455, ⟨Lc_455, hQ_455, l_455, y_455, z_455⟩, st_455⟩ := Jvm.LawKit.callS X_450 hx (y := M232) hown (mvT hZ (w21 hw)) (mvT hZ (w22 hw)) (mvT hZ (w23 hw)) (mvT hZ (w24 hw)) (by decide) (backOf (W := 0) (rm_put0 l Z a0 hw [] G1 G3 HG h_364 n0 O_377 a_371 k_365 a_9 (own_Y p1) (15 : Int32) V_376 (by decide)) hZ (w24 hw) (w23 hw) (by decide) (by decide)) (g := (mkF m 321 #[.val (.int p0), .val (.long p1), .second, .val (.int p2), .val (.int p3), .val (.ref a_9), .val (.int (0 : Int32)), .val (.long (own_Y p1)), .second, .val (.ref a_371), .unset, .unset, .unset, .unset, .unset, .unset, .unset, .unset, .unset, .unset, .unset, .unset, .unset] [(.int (15 : Int32)), (.long (own_Y p1)), (.ref a_9), (.ref a_371)])) rfl (by rw [hml]; rfl) (argsL := [(.ref a_371), (.ref a_9), (.long (own_Y p1)), (.int (15 : Int32))]) (rest := []) (lenOf pd_358 rfl) rfl (by show 2 * 0 + _ ≤ _; exact Nat.le_of_eq rfl) (hb hby at_321) (fun _ _ => ⟨rfl, e_454, (by decide : 2 + 0 ≤ _), (by decide : 19 + 0 ≤ _)⟩)
    dsimp only [Pt.U, Pt.locs, Pt.cells, Pt.slots] at X_455 l_455 y_455 z_455 st_455 hQ_455
    have X_455 := own_cast X_455 l_455 y_455 z_455
    obtain ⟨rfl, N_456, e_457⟩ := hQ_455
    have N_458 := Fr.app N_453 N_456
    have e_459 : T_455.heap = h_364 := e_457
    obtain ⟨_, _, ⟨T_460, L_460, k_460, n_460⟩, -, X_460, ⟨Lc_460, hQ_460, l_460, y_460, z_460⟩, st_460⟩ := Jvm.LawKit.callS X_455 hx (y := M232) hown (mvT hZ (w21 hw)) (mvT hZ (w22 hw)) (mvT hZ (w23 hw)) (mvT hZ (w24 hw)) (by decide) (backOf (W := 0) (rm_put0 l Z a0 hw [] G1 G3 HG h_364 n0 O_377 a_371 k_365 a_9 (own_Y p1) (16 : Int32) V_376 (by decide)) hZ (w24 hw) (w23 hw) (by decide) (by decide)) (g := (mkF m 332 #[.val (.int p0), .val (.long p1), .second, .val (.int p2), .val (.int p3), .val (.ref a_9), .val (.int (0 : Int32)), .val (.long (own_Y p1)), .second, .val (.ref a_371), .unset, .unset, .unset, .unset, .unset, .unset, .unset, .unset, .unset, .unset, .unset, .unset, .unset] [(.int (16 : Int32)), (.long (own_Y p1)), (.ref a_9), (.ref a_371)])) rfl (by rw [hml]; rfl) (argsL := [(.ref a_371), (.ref a_9), (.long (own_Y p1)), (.int (16 : Int32))]) (rest := []) (lenOf pd_358 rfl) rfl (by show 2 * 0 + _ ≤ _; exact Nat.le_of_eq rfl) (hb hby at_332) (fun _ _ => ⟨rfl, e_459, (by decide : 2 + 0 ≤ _), (by decide : 19 + 0 ≤ _)⟩)
    dsimp only [Pt.U, Pt.locs, Pt.cells, Pt.slots] at X_460 l_460 y_460 z_460 st_460 hQ_460
    have X_460 := own_cast X_460 l_460 y_460 z_460
    obtain ⟨rfl, N_461, e_462⟩ := hQ_460
    have N_463 := Fr.app N_458 N_461
    have e_464 : T_460.heap = h_364 := e_462
    obtain ⟨_, _, ⟨T_465, L_465, k_465, n_465⟩, -, X_465, ⟨Lc_465, hQ_465, l_465, y_465, z_465⟩, st_465⟩ := Jvm.LawKit.callS X_460 hx (y := M232) hown (mvT hZ (w21 hw)) (mvT hZ (w22 hw)) (mvT hZ (w23 hw)) (mvT hZ (w24 hw)) (by decide) (backOf (W := 0) (rm_put0 l Z a0 hw [] G1 G3 HG h_364 n0 O_377 a_371 k_365 a_9 (own_Y p1) (17 : Int32) V_376 (by decide)) hZ (w24 hw) (w23 hw) (by decide) (by decide)) (g := (mkF m 343 #[.val (.int p0), .val (.long p1), .second, .val (.int p2), .val (.int p3), .val (.ref a_9), .val (.int (0 : Int32)), .val (.long (own_Y p1)), .second, .val (.ref a_371), .unset, .unset, .unset, .unset, .unset, .unset, .unset, .unset, .unset, .unset, .unset, .unset, .unset] [(.int (17 : Int32)), (.long (own_Y p1)), (.ref a_9), (.ref a_371)])) rfl (by rw [hml]; rfl) (argsL := [(.ref a_371), (.ref a_9), (.long (own_Y p1)), (.int (17 : Int32))]) (rest := []) (lenOf pd_358 rfl) rfl (by show 2 * 0 + _ ≤ _; exact Nat.le_of_eq rfl) (hb hby at_343) (fun _ _ => ⟨rfl, e_464, (by decide : 2 + 0 ≤ _), (by decide : 19 + 0 ≤ _)⟩)
    dsimp only [Pt.U, Pt.locs, Pt.cells, Pt.slots] at X_465 l_465 y_465 z_465 st_465 hQ_465
    have X_465 := own_cast X_465 l_465 y_465 z_465
    obtain ⟨rfl, N_466, e_467⟩ := hQ_465
    have N_468 := Fr.app N_463 N_466
    have e_469 : T_465.heap = h_364 := e_467
    obtain ⟨_, _, ⟨T_470, L_470, k_470, n_470⟩, -, X_470, ⟨Lc_470, hQ_470, l_470, y_470, z_470⟩, st_470⟩ := Jvm.LawKit.callS X_465 hx (y := M232) hown (mvT hZ (w21 hw)) (mvT hZ (w22 hw)) (mvT hZ (w23 hw)) (mvT hZ (w24 hw)) (by decide) (backOf (W := 0) (rm_put0 l Z a0 hw [] G1 G3 HG h_364 n0 O_377 a_371 k_365 a_9 (own_Y p1) (18 : Int32) V_376 (by decide)) hZ (w24 hw) (w23 hw) (by decide) (by decide)) (g := (mkF m 354 #[.val (.int p0), .val (.long p1), .second, .val (.int p2), .val (.int p3), .val (.ref a_9), .val (.int (0 : Int32)), .val (.long (own_Y p1)), .second, .val (.ref a_371), .unset, .unset, .unset, .unset, .unset, .unset, .unset, .unset, .unset, .unset, .unset, .unset, .unset] [(.int (18 : Int32)), (.long (own_Y p1)), (.ref a_9), (.ref a_371)])) rfl (by rw [hml]; rfl) (argsL := [(.ref a_371), (.ref a_9), (.long (own_Y p1)), (.int (18 : Int32))]) (rest := []) (lenOf pd_358 rfl) rfl (by show 2 * 0 + _ ≤ _; exact Nat.le_of_eq rfl) (hb hby at_354) (fun _ _ => ⟨rfl, e_469, (by decide : 2 + 0 ≤ _), (by decide : 19 + 0 ≤ _)⟩)
    dsimp only [Pt.U, Pt.locs, Pt.cells, Pt.slots] at X_470 l_470 y_470 z_470 st_470 hQ_470
    have X_470 := own_cast X_470 l_470 y_470 z_470
    obtain ⟨rfl, N_471, e_472⟩ := hQ_470
    have N_473 := Fr.app N_468 N_471
    have e_474 : T_470.heap = h_364 := e_472
    have C_475 : Steps p.tables e below S0 (T_470.setTop (mkF m 379 #[.val (.int p0), .val (.long p1), .second, .val (.int p2), .val (.int p3), .val (.ref a_9), .val (.int (0 : Int32)), .val (.long (own_Y p1)), .second, .val (.ref a_371), .val (.int (0 : Int32)), .unset, .unset, .unset, .unset, .unset, .unset, .unset, .unset, .unset, .unset, .unset, .unset] [(.int (0 : Int32))])) := by
      refine C_439.trans ?_
      refine st_440 _ ?_
      refine XS.aload X_440.here hx rfl (hb hby at_291) rfl rfl ?_
      refine XS.aload X_440.here hx rfl (hb hby at_293) rfl rfl ?_
      refine XS.lload X_440.here hx rfl (hb hby at_295) rfl ?_
      refine XS.bipush X_440.here hx rfl (hb hby at_297) ?_
      refine st_445 _ ?_
      refine XS.aload X_445.here hx rfl (hb hby at_302) rfl rfl ?_
      refine XS.aload X_445.here hx rfl (hb hby at_304) rfl rfl ?_
      show Steps p.tables e below (T_445.setTop (mkF m 306 #[.val (.int p0), .val (.long p1), .second, .val (.int p2), .val (.int p3), .val (.ref a_9), .val (.int (0 : Int32)), .val (.long (own_Y p1)), .second, .val (.ref a_371), .unset, .unset, .unset, .unset, .unset, .unset, .unset, .unset, .unset, .unset, .unset, .unset, .unset] [(.ref a_9), (.ref a_371)])) _
      refine XS.lload X_445.here hx rfl (hb hby at_306) rfl ?_
      refine XS.bipush X_445.here hx rfl (hb hby at_308) ?_
      refine st_450 _ ?_
      refine XS.aload X_450.here hx rfl (hb hby at_313) rfl rfl ?_
      refine XS.aload X_450.here hx rfl (hb hby at_315) rfl rfl ?_
      refine XS.lload X_450.here hx rfl (hb hby at_317) rfl ?_
      refine XS.bipush X_450.here hx rfl (hb hby at_319) ?_
      refine st_455 _ ?_
      show Steps p.tables e below (T_455.setTop (mkF m 324 #[.val (.int p0), .val (.long p1), .second, .val (.int p2), .val (.int p3), .val (.ref a_9), .val (.int (0 : Int32)), .val (.long (own_Y p1)), .second, .val (.ref a_371), .unset, .unset, .unset, .unset, .unset, .unset, .unset, .unset, .unset, .unset, .unset, .unset, .unset] [])) _
      refine XS.aload X_455.here hx rfl (hb hby at_324) rfl rfl ?_
      refine XS.aload X_455.here hx rfl (hb hby at_326) rfl rfl ?_
      refine XS.lload X_455.here hx rfl (hb hby at_328) rfl ?_
      refine XS.bipush X_455.here hx rfl (hb hby at_330) ?_
      refine st_460 _ ?_
      refine XS.aload X_460.here hx rfl (hb hby at_335) rfl rfl ?_
      refine XS.aload X_460.here hx rfl (hb hby at_337) rfl rfl ?_
      refine XS.lload X_460.here hx rfl (hb hby at_339) rfl ?_
      show Steps p.tables e below (T_460.setTop (mkF m 341 #[.val (.int p0), .val (.long p1), .second, .val (.int p2), .val (.int p3), .val (.ref a_9), .val (.int (0 : Int32)), .val (.long (own_Y p1)), .second, .val (.ref a_371), .unset, .unset, .unset, .unset, .unset, .unset, .unset, .unset, .unset, .unset, .unset, .unset, .unset] [(.long (own_Y p1)), (.ref a_9), (.ref a_371)])) _
      refine XS.bipush X_460.here hx rfl (hb hby at_341) ?_
      refine st_465 _ ?_
      refine XS.aload X_465.here hx rfl (hb hby at_346) rfl rfl ?_
      refine XS.aload X_465.here hx rfl (hb hby at_348) rfl rfl ?_
      refine XS.lload X_465.here hx rfl (hb hby at_350) rfl ?_
      refine XS.bipush X_465.here hx rfl (hb hby at_352) ?_
      refine st_470 _ ?_
      refine XS.iload X_470.here hx rfl (hb hby at_357) rfl ?_
      show Steps p.tables e below (T_470.setTop (mkF m 359 #[.val (.int p0), .val (.long p1), .second, .val (.int p2), .val (.int p3), .val (.ref a_9), .val (.int (0 : Int32)), .val (.long (own_Y p1)), .second, .val (.ref a_371), .unset, .unset, .unset, .unset, .unset, .unset, .unset, .unset, .unset, .unset, .unset, .unset, .unset] [(.int (0 : Int32))])) _
      refine XS.ifYes X_470.here hx rfl (pc0 := 359) (pc' := 374) rfl (hb hby at_359) rfl (by decide) (by decide) (by decide) ?_
      refine XS.iconst X_470.here hx rfl (hb hby at_374) ?_
      refine XS.istore X_470.here hx rfl (hb hby at_375) rfl (l' := #[.val (.int p0), .val (.long p1), .second, .val (.int p2), .val (.int p3), .val (.ref a_9), .val (.int (0 : Int32)), .val (.long (own_Y p1)), .second, .val (.ref a_371), .val (.int (0 : Int32)), .unset, .unset, .unset, .unset, .unset, .unset, .unset, .unset, .unset, .unset, .unset, .unset]) rfl ?_
      refine XS.iload X_470.here hx rfl (hb hby at_377) rfl ?_
      exact Steps.refl _
    obtain ⟨T_476, h_477, X_478, e_479, E_480, A_481, D_482, U_486, st_483⟩ := newO X_470 hx hZ hown (w25 hw) (w26 hw) (w27 hw) e_474 (g := (mkF m 481 #[.val (.int p0), .val (.long p1), .second, .val (.int p2), .val (.int p3), .val (.ref a_9), .val (.int (0 : Int32)), .val (.long (own_Y p1)), .second, .val (.ref a_371), .val (.int (0 : Int32)), .val (.int (0 : Int32)), .val (.int (0 : Int32)), .val (.int (0 : Int32)), .val (.int (own_cc p2)), .val (.int (own_cc p3)), .unset, .unset, .unset, .unset, .unset, .unset, .unset] [])) rfl (hb hby at_481) (by decide) (by decide)
    obtain ⟨a_484, g_485⟩ : ∃ z, z = h_364.size := ⟨_, rfl⟩
    rw [← g_485] at A_481 D_482 st_483 U_486
    have CH_487 : CHv Z consts_1 s.vm h_477 := CHv.ext E_480 CH_374
    have CR_488 : CHr Z consts_1 s.vm h0 s.vm h_477 := CR_375.trans (CHr.ext E_480 CH_374)
    have V_489 : Arv Z h_477 a_371 k_365 .char (0 : Int32) [] (.int (0 : Int32)) := (V_376.ext E_480)
    have O_490 : Old Z n0 h_477 := (O_377.ext E_480)
    obtain ⟨_, _, ⟨T_491, L_491, k_491, n_491⟩, -, Y_491, S_491, G_491, ⟨Lc_491, hQ_491, l_491, y_491, z_491, R_491⟩, st_491⟩ := X_478.specialBackS hx (y := M99) rfl hown (mvT hZ (w28 hw)) (mvT hZ (w29 hw)) (mvT hZ (w30 hw)) (by decide) (backOfSH (vm0 := s.vm) (W := 1) (rm_si1_0 l Z a0 hw [] G1 G3 HG h_477 n0 O_490 a_484 a_371 k_365 A_481 (D_482 (Or.inr (w40 hw)) (ty := (.array .byte)) (by decide)) (D_482 (Or.inr (w41 hw)) (ty := .byte) (by decide)) (Nat.le_trans (own_n0 O_377) (Nat.le_of_eq g_485.symm)) V_489) hZ (w30 hw) (w27 hw) (by decide) (by decide) hEL CH_487) (g := (mkF m 487 #[.val (.int p0), .val (.long p1), .second, .val (.int p2), .val (.int p3), .val (.ref a_9), .val (.int (0 : Int32)), .val (.long (own_Y p1)), .second, .val (.ref a_371), .val (.int (0 : Int32)), .val (.int (0 : Int32)), .val (.int (0 : Int32)), .val (.int (0 : Int32)), .val (.int (own_cc p2)), .val (.int (own_cc p3)), .unset, .unset, .unset, .unset, .unset, .unset, .unset] [(.ref a_371), (.ref a_484), (.ref a_484)])) rfl (by rw [hml]; rfl) (Steps.refl _) (a := a_484) (argsL := [(.ref a_371)]) (rest := [(.ref a_484)]) (lenOf pd_363 rfl) rfl (by show 2 * 0 + _ ≤ _; exact Nat.le_of_eq rfl) (hb hby at_487) (fun _ _ => ⟨rfl, e_479, (by decide : 3 + 4 ≤ _), (by decide : 23 + 8 ≤ _)⟩)
    dsimp only [Pt.U, Pt.locs, Pt.cells, Pt.slots] at Y_491 S_491 G_491 l_491 y_491 z_491 st_491 hQ_491 R_491
    have Y_491 := own_cast Y_491 l_491 y_491 z_491
    obtain ⟨X_491, hS_491, hZ_491, hown_491⟩ := rebS hS0 (n1 := T_476.heap.size) (by rw [show T_476.heap = h_477 from e_479]; exact (Nat.le_trans (Nat.le_refl _) (Nat.le_trans (Nat.le_trans (Nat.le_trans (Nat.le_trans (Nat.le_trans (Nat.le_trans (Nat.le_trans (Nat.le_trans (Nat.le_trans (Nat.le_trans (Nat.le_trans (Nat.le_trans (Nat.le_trans (Nat.le_trans (Nat.le_trans (Nat.le_trans (Nat.le_trans (Nat.le_trans (Nat.le_trans (Nat.le_trans (Nat.le_trans E_6.1 (Keep.of_wr W_26).1) (Keep.of_wr W_44).1) (Keep.of_wr W_62).1) (Keep.of_wr W_80).1) (Keep.of_wr W_98).1) (Keep.of_wr W_116).1) (Keep.of_wr W_134).1) (Keep.of_wr W_152).1) (Keep.of_wr W_171).1) (Keep.of_wr W_189).1) (Keep.of_wr W_207).1) (Keep.of_wr W_225).1) (Keep.of_wr W_243).1) (Keep.of_wr W_261).1) (Keep.of_wr W_279).1) (Keep.of_wr W_297).1) (Keep.of_wr W_315).1) (Keep.of_wr W_334).1) (Keep.of_wr W_352).1) E_368.1) E_480.1))) Y_491 S_491 G_491 hZ hown
    obtain ⟨a_492, k_493, rfl, N_494, K_495, g_496, g_497, g_498, g_499⟩ := hQ_491
    have N_500 := Fr.app N_473 N_494
    have CH_501 : CHv Z consts_1 T_491.vm T_491.heap := R_491.1
    have CR_502 : CHr Z consts_1 s.vm h0 T_491.vm T_491.heap := CR_488.trans R_491
    have O_503 : Old Z n0 T_491.heap := (O_490.keep K_495 (allS (Nat.le_trans (own_n0 O_377) (Nat.le_of_eq g_485.symm)) all0))
    obtain ⟨_, _, ⟨T_504, L_504, k_504, n_504⟩, -, X_504, ⟨Lc_504, hQ_504, l_504, y_504, z_504⟩, st_504⟩ := Jvm.LawKit.callS X_491 hx (y := M269) hown_491 (mvT hZ_491 (w46 hw)) (mvT hZ_491 (w47 hw)) (mvT hZ_491 (w48 hw)) (mvT hZ_491 (w49 hw)) (by decide) (backOf (W := 0) (rm_val0 l Z a0 hw [] G1 G3 HG T_491.heap n0 O_503 a_484 a_492 k_493 g_496 g_497 g_498 g_499) hZ_491 (w49 hw) (w48 hw) (by decide) (by decide)) (g := (mkF m 490 #[.val (.int p0), .val (.long p1), .second, .val (.int p2), .val (.int p3), .val (.ref a_9), .val (.int (0 : Int32)), .val (.long (own_Y p1)), .second, .val (.ref a_371), .val (.int (0 : Int32)), .val (.int (0 : Int32)), .val (.int (0 : Int32)), .val (.int (0 : Int32)), .val (.int (own_cc p2)), .val (.int (own_cc p3)), .unset, .unset, .unset, .unset, .unset, .unset, .unset] [(.ref a_484)])) rfl (by rw [hml]; rfl) (argsL := [(.ref a_484)]) (rest := []) (lenOf pd_368 rfl) rfl (by show 2 * 0 + _ ≤ _; exact Nat.le_of_eq rfl) (hb hby at_490) (fun _ _ => ⟨rfl, rfl, (by decide : 7 + 0 ≤ _), (by decide : 31 + 0 ≤ _)⟩)
    dsimp only [Pt.U, Pt.locs, Pt.cells, Pt.slots] at X_504 l_504 y_504 z_504 st_504 hQ_504
    have X_504 := own_cast X_504 l_504 y_504 z_504
    obtain ⟨rfl, N_505, e_506⟩ := hQ_504
    have N_507 := Fr.app N_500 N_505
    have e_508 : T_504.heap = T_491.heap := e_506
    have C_509 : Steps p.tables e below S0 (T_504.setTop (mkF m 521 #[.val (.int p0), .val (.long p1), .second, .val (.int p2), .val (.int p3), .val (.ref a_9), .val (.int (0 : Int32)), .val (.long (own_Y p1)), .second, .val (.ref a_371), .val (.int (0 : Int32)), .val (.int (0 : Int32)), .val (.int (0 : Int32)), .val (.int (0 : Int32)), .val (.int (own_cc p2)), .val (.int (own_cc p3)), .val (.long (-1 : Int64)), .second, .val (.int (0 : Int32)), .unset, .unset, .unset, .unset] [(.int (0 : Int32))])) := by
      refine C_475.trans ?_
      refine XS.ifYes X_470.here hx rfl (pc0 := 379) (pc' := 394) rfl (hb hby at_379) rfl (by decide) (by decide) (by decide) ?_
      refine XS.iconst X_470.here hx rfl (hb hby at_394) ?_
      refine XS.istore X_470.here hx rfl (hb hby at_395) rfl (l' := #[.val (.int p0), .val (.long p1), .second, .val (.int p2), .val (.int p3), .val (.ref a_9), .val (.int (0 : Int32)), .val (.long (own_Y p1)), .second, .val (.ref a_371), .val (.int (0 : Int32)), .val (.int (0 : Int32)), .unset, .unset, .unset, .unset, .unset, .unset, .unset, .unset, .unset, .unset, .unset]) rfl ?_
      refine XS.iload X_470.here hx rfl (hb hby at_397) rfl ?_
      refine XS.ifYes X_470.here hx rfl (pc0 := 399) (pc' := 415) rfl (hb hby at_399) rfl (by decide) (by decide) (by decide) ?_
      refine XS.iconst X_470.here hx rfl (hb hby at_415) ?_
      refine XS.istore X_470.here hx rfl (hb hby at_416) rfl (l' := #[.val (.int p0), .val (.long p1), .second, .val (.int p2), .val (.int p3), .val (.ref a_9), .val (.int (0 : Int32)), .val (.long (own_Y p1)), .second, .val (.ref a_371), .val (.int (0 : Int32)), .val (.int (0 : Int32)), .val (.int (0 : Int32)), .unset, .unset, .unset, .unset, .unset, .unset, .unset, .unset, .unset, .unset]) rfl ?_
      refine XS.iload X_470.here hx rfl (hb hby at_418) rfl ?_
      show Steps p.tables e below (T_470.setTop (mkF m 420 #[.val (.int p0), .val (.long p1), .second, .val (.int p2), .val (.int p3), .val (.ref a_9), .val (.int (0 : Int32)), .val (.long (own_Y p1)), .second, .val (.ref a_371), .val (.int (0 : Int32)), .val (.int (0 : Int32)), .val (.int (0 : Int32)), .unset, .unset, .unset, .unset, .unset, .unset, .unset, .unset, .unset, .unset] [(.int (0 : Int32))])) _
      refine XS.ifYes X_470.here hx rfl (pc0 := 420) (pc' := 437) rfl (hb hby at_420) rfl (by decide) (by decide) (by decide) ?_
      refine XS.iconst X_470.here hx rfl (hb hby at_437) ?_
      refine XS.istore X_470.here hx rfl (hb hby at_438) rfl (l' := #[.val (.int p0), .val (.long p1), .second, .val (.int p2), .val (.int p3), .val (.ref a_9), .val (.int (0 : Int32)), .val (.long (own_Y p1)), .second, .val (.ref a_371), .val (.int (0 : Int32)), .val (.int (0 : Int32)), .val (.int (0 : Int32)), .val (.int (0 : Int32)), .unset, .unset, .unset, .unset, .unset, .unset, .unset, .unset, .unset]) rfl ?_
      refine XS.iloadN X_470.here hx rfl (hb hby at_440) rfl ?_
      refine XS.sipush X_470.here hx rfl (hb hby at_441) ?_
      refine XS.iand X_470.here hx rfl (hb hby at_444) rfl ?_
      refine XS.i2c X_470.here hx rfl (hb hby at_445) rfl ?_
      refine XS.istore X_470.here hx rfl (hb hby at_446) rfl (l' := #[.val (.int p0), .val (.long p1), .second, .val (.int p2), .val (.int p3), .val (.ref a_9), .val (.int (0 : Int32)), .val (.long (own_Y p1)), .second, .val (.ref a_371), .val (.int (0 : Int32)), .val (.int (0 : Int32)), .val (.int (0 : Int32)), .val (.int (0 : Int32)), .val (.int (own_cc p2)), .unset, .unset, .unset, .unset, .unset, .unset, .unset, .unset]) rfl ?_
      show Steps p.tables e below (T_470.setTop (mkF m 448 #[.val (.int p0), .val (.long p1), .second, .val (.int p2), .val (.int p3), .val (.ref a_9), .val (.int (0 : Int32)), .val (.long (own_Y p1)), .second, .val (.ref a_371), .val (.int (0 : Int32)), .val (.int (0 : Int32)), .val (.int (0 : Int32)), .val (.int (0 : Int32)), .val (.int (own_cc p2)), .unset, .unset, .unset, .unset, .unset, .unset, .unset, .unset] [])) _
      refine XS.iload X_470.here hx rfl (hb hby at_448) rfl ?_
      refine XS.sipush X_470.here hx rfl (hb hby at_450) ?_
      refine XS.iand X_470.here hx rfl (hb hby at_453) rfl ?_
      refine XS.i2c X_470.here hx rfl (hb hby at_454) rfl ?_
      refine XS.istore X_470.here hx rfl (hb hby at_455) rfl (l' := #[.val (.int p0), .val (.long p1), .second, .val (.int p2), .val (.int p3), .val (.ref a_9), .val (.int (0 : Int32)), .val (.long (own_Y p1)), .second, .val (.ref a_371), .val (.int (0 : Int32)), .val (.int (0 : Int32)), .val (.int (0 : Int32)), .val (.int (0 : Int32)), .val (.int (own_cc p2)), .val (.int (own_cc p3)), .unset, .unset, .unset, .unset, .unset, .unset, .unset]) rfl ?_
      refine XS.iload X_470.here hx rfl (hb hby at_457) rfl ?_
      refine XS.ifYes X_470.here hx rfl (pc0 := 459) (pc' := 469) rfl (hb hby at_459) rfl (by decide) (by decide) (by decide) ?_
      refine XS.iload X_470.here hx rfl (hb hby at_469) rfl ?_
      show Steps p.tables e below (T_470.setTop (mkF m 471 #[.val (.int p0), .val (.long p1), .second, .val (.int p2), .val (.int p3), .val (.ref a_9), .val (.int (0 : Int32)), .val (.long (own_Y p1)), .second, .val (.ref a_371), .val (.int (0 : Int32)), .val (.int (0 : Int32)), .val (.int (0 : Int32)), .val (.int (0 : Int32)), .val (.int (own_cc p2)), .val (.int (own_cc p3)), .unset, .unset, .unset, .unset, .unset, .unset, .unset] [(.int (0 : Int32))])) _
      refine XS.ifYes X_470.here hx rfl (pc0 := 471) (pc' := 481) rfl (hb hby at_471) rfl (by decide) (by decide) (by decide) ?_
      refine st_483 _ ?_
      refine XS.dup X_478.here hx rfl (hb hby at_484) rfl rfl ?_
      refine XS.aload X_478.here hx rfl (hb hby at_485) rfl rfl ?_
      refine st_491.trans ?_
      refine st_504 _ ?_
      refine XS.lstore X_504.here hx rfl (hb hby at_493) rfl (l' := #[.val (.int p0), .val (.long p1), .second, .val (.int p2), .val (.int p3), .val (.ref a_9), .val (.int (0 : Int32)), .val (.long (own_Y p1)), .second, .val (.ref a_371), .val (.int (0 : Int32)), .val (.int (0 : Int32)), .val (.int (0 : Int32)), .val (.int (0 : Int32)), .val (.int (own_cc p2)), .val (.int (own_cc p3)), .val (.long (-1 : Int64)), .second, .unset, .unset, .unset, .unset, .unset]) rfl ?_
      refine XS.iload X_504.here hx rfl (hb hby at_495) rfl ?_
      show Steps p.tables e below (T_504.setTop (mkF m 497 #[.val (.int p0), .val (.long p1), .second, .val (.int p2), .val (.int p3), .val (.ref a_9), .val (.int (0 : Int32)), .val (.long (own_Y p1)), .second, .val (.ref a_371), .val (.int (0 : Int32)), .val (.int (0 : Int32)), .val (.int (0 : Int32)), .val (.int (0 : Int32)), .val (.int (own_cc p2)), .val (.int (own_cc p3)), .val (.long (-1 : Int64)), .second, .unset, .unset, .unset, .unset, .unset] [(.int (0 : Int32))])) _
      refine XS.ifYes X_504.here hx rfl (pc0 := 497) (pc' := 516) rfl (hb hby at_497) rfl (by decide) (by decide) (by decide) ?_
      refine XS.iconst X_504.here hx rfl (hb hby at_516) ?_
      refine XS.istore X_504.here hx rfl (hb hby at_517) rfl (l' := #[.val (.int p0), .val (.long p1), .second, .val (.int p2), .val (.int p3), .val (.ref a_9), .val (.int (0 : Int32)), .val (.long (own_Y p1)), .second, .val (.ref a_371), .val (.int (0 : Int32)), .val (.int (0 : Int32)), .val (.int (0 : Int32)), .val (.int (0 : Int32)), .val (.int (own_cc p2)), .val (.int (own_cc p3)), .val (.long (-1 : Int64)), .second, .val (.int (0 : Int32)), .unset, .unset, .unset, .unset]) rfl ?_
      refine XS.iload X_504.here hx rfl (hb hby at_519) rfl ?_
      exact Steps.refl _
    have C_510 : Steps p.tables e below S0 (T_504.setTop (mkF m 685 #[.val (.int p0), .val (.long p1), .second, .val (.int p2), .val (.int p3), .val (.ref a_9), .val (.int (0 : Int32)), .val (.long (own_Y p1)), .second, .val (.ref a_371), .val (.int (0 : Int32)), .val (.int (0 : Int32)), .val (.int (0 : Int32)), .val (.int (0 : Int32)), .val (.int (own_cc p2)), .val (.int (own_cc p3)), .val (.long (-1 : Int64)), .second, .val (.int (0 : Int32)), .val (.long (-1 : Int64)), .second, .unset, .unset] [(.int (1 : Int32))])) := by
      refine C_509.trans ?_
      refine XS.ifYes X_504.here hx rfl (pc0 := 521) (pc' := 572) rfl (hb hby at_521) rfl (by decide) (by decide) (by decide) ?_
      refine X_504.ldc2J hx hown_491 (mvT hZ_491 (w62 hw)) rfl (hb hby at_572) ?_
      refine XS.lstore X_504.here hx rfl (hb hby at_575) rfl (l' := #[.val (.int p0), .val (.long p1), .second, .val (.int p2), .val (.int p3), .val (.ref a_9), .val (.int (0 : Int32)), .val (.long (own_Y p1)), .second, .val (.ref a_371), .val (.int (0 : Int32)), .val (.int (0 : Int32)), .val (.int (0 : Int32)), .val (.int (0 : Int32)), .val (.int (own_cc p2)), .val (.int (own_cc p3)), .val (.long (-1 : Int64)), .second, .val (.int (0 : Int32)), .val (.long (-1 : Int64)), .second, .unset, .unset]) rfl ?_
      refine XS.goto X_504.here hx rfl (pc0 := 577) (pc' := 672) rfl (hb hby at_577) (by decide) (by decide) ?_
      refine XS.lload X_504.here hx rfl (hb hby at_672) rfl ?_
      refine XS.lload X_504.here hx rfl (hb hby at_674) rfl ?_
      refine XS.lcmp X_504.here hx rfl (hb hby at_676) rfl ?_
      refine XS.ifNo X_504.here hx rfl (hb hby at_677) rfl (by decide) ?_
      show Steps p.tables e below (T_504.setTop (mkF m 680 #[.val (.int p0), .val (.long p1), .second, .val (.int p2), .val (.int p3), .val (.ref a_9), .val (.int (0 : Int32)), .val (.long (own_Y p1)), .second, .val (.ref a_371), .val (.int (0 : Int32)), .val (.int (0 : Int32)), .val (.int (0 : Int32)), .val (.int (0 : Int32)), .val (.int (own_cc p2)), .val (.int (own_cc p3)), .val (.long (-1 : Int64)), .second, .val (.int (0 : Int32)), .val (.long (-1 : Int64)), .second, .unset, .unset] [])) _
      refine XS.iconst X_504.here hx rfl (hb hby at_680) ?_
      refine XS.goto X_504.here hx rfl (pc0 := 681) (pc' := 685) rfl (hb hby at_681) (by decide) (by decide) ?_
      exact Steps.refl _
    have K_511 : Keep h0 T_491.heap [] := ((((((((((((((((((((((((Keep.refl _ _).ext E_6).wr W_26 (Or.inr (Nat.le_trans (Nat.le_refl _) (Nat.le_of_eq g_10.symm)))).wr W_44 (Or.inr (Nat.le_trans (Nat.le_refl _) (Nat.le_of_eq g_10.symm)))).wr W_62 (Or.inr (Nat.le_trans (Nat.le_refl _) (Nat.le_of_eq g_10.symm)))).wr W_80 (Or.inr (Nat.le_trans (Nat.le_refl _) (Nat.le_of_eq g_10.symm)))).wr W_98 (Or.inr (Nat.le_trans (Nat.le_refl _) (Nat.le_of_eq g_10.symm)))).wr W_116 (Or.inr (Nat.le_trans (Nat.le_refl _) (Nat.le_of_eq g_10.symm)))).wr W_134 (Or.inr (Nat.le_trans (Nat.le_refl _) (Nat.le_of_eq g_10.symm)))).wr W_152 (Or.inr (Nat.le_trans (Nat.le_refl _) (Nat.le_of_eq g_10.symm)))).wr W_171 (Or.inr (Nat.le_trans (Nat.le_refl _) (Nat.le_of_eq g_10.symm)))).wr W_189 (Or.inr (Nat.le_trans (Nat.le_refl _) (Nat.le_of_eq g_10.symm)))).wr W_207 (Or.inr (Nat.le_trans (Nat.le_refl _) (Nat.le_of_eq g_10.symm)))).wr W_225 (Or.inr (Nat.le_trans (Nat.le_refl _) (Nat.le_of_eq g_10.symm)))).wr W_243 (Or.inr (Nat.le_trans (Nat.le_refl _) (Nat.le_of_eq g_10.symm)))).wr W_261 (Or.inr (Nat.le_trans (Nat.le_refl _) (Nat.le_of_eq g_10.symm)))).wr W_279 (Or.inr (Nat.le_trans (Nat.le_refl _) (Nat.le_of_eq g_10.symm)))).wr W_297 (Or.inr (Nat.le_trans (Nat.le_refl _) (Nat.le_of_eq g_10.symm)))).wr W_315 (Or.inr (Nat.le_trans (Nat.le_refl _) (Nat.le_of_eq g_10.symm)))).wr W_334 (Or.inr (Nat.le_trans (Nat.le_refl _) (Nat.le_of_eq g_10.symm)))).wr W_352 (Or.inr (Nat.le_trans (Nat.le_refl _) (Nat.le_of_eq g_10.symm)))).ext E_368).ext E_480).trans K_495 (allS (Or.inr (Nat.le_trans (Nat.le_trans (Nat.le_trans (Nat.le_trans (Nat.le_trans (Nat.le_trans (Nat.le_trans (Nat.le_trans (Nat.le_trans (Nat.le_trans (Nat.le_trans (Nat.le_trans (Nat.le_trans (Nat.le_trans (Nat.le_trans (Nat.le_trans (Nat.le_trans (Nat.le_trans (Nat.le_trans (Nat.le_trans (Nat.le_trans E_6.1 (Keep.of_wr W_26).1) (Keep.of_wr W_44).1) (Keep.of_wr W_62).1) (Keep.of_wr W_80).1) (Keep.of_wr W_98).1) (Keep.of_wr W_116).1) (Keep.of_wr W_134).1) (Keep.of_wr W_152).1) (Keep.of_wr W_171).1) (Keep.of_wr W_189).1) (Keep.of_wr W_207).1) (Keep.of_wr W_225).1) (Keep.of_wr W_243).1) (Keep.of_wr W_261).1) (Keep.of_wr W_279).1) (Keep.of_wr W_297).1) (Keep.of_wr W_315).1) (Keep.of_wr W_334).1) (Keep.of_wr W_352).1) E_368.1) (Nat.le_of_eq g_485.symm))) all0))
    obtain ⟨fs, hr, hrun, hended, hRE⟩ := X_504.leaveW hS_491 (by rw [show T_504.heap = T_491.heap from e_508]; exact (Nat.le_refl _)) (v := some (.int (1 : Int32))) (fun h => by rw [Bd.returns] at h; cases h)
    refine ⟨_, _, C_510.trans (retN X_504 hx (t := .boolean) Bd.returns (by simp) (hb hby at_685) hr), hrun, hended, _, _, rfl, ?_, ?_, hRE.1, hRE.2.1, hRE.2.2.1, hRE.2.2.2.mono (by decide) (by decide)⟩
    · show Q_law Z G1 G3 p0 p1 p2 p3 h0 n0 (some (.int (1 : Int32))) T_504.heap _
      rw [e_508]
      exact ⟨rfl, N_507, K_511⟩
    · show CHr Z consts_1 s.vm s.heap T_504.vm T_504.heap
      rw [hh, show T_504.heap = T_491.heap from e_508]
      exact CR_502.trans (CHv.at X_504 hZ_491 hEL CH_501)
  · skip
    have hp_512 := own_lpos (own_l0 p0) hn_361
    have hr_513 := own_plr (x := p2) hp_512
    have hr_514 := own_plr (x := p3) hp_512
    obtain ⟨T_515, h_516, k_517, X_518, e_519, E_520, A_521, st_522⟩ := newP (aty := .char) X_350 hx hZ (w20 hw) e_351 (g := (mkF m 150 #[.val (.int p0), .val (.long p1), .second, .val (.int p2), .val (.int p3), .val (.ref a_9), .val (.int (own_l20 p0)), .val (.long (own_Y p1)), .second, .unset, .unset, .unset, .unset, .unset, .unset, .unset, .unset, .unset, .unset, .unset, .unset, .unset, .unset] [(.int (own_l20 p0))])) rfl (hb hby at_150) rfl (own_l0 p0) (cap := 19) (own_lc p0) (by decide) (by decide) (by decide)
    obtain ⟨a_523, g_524⟩ : ∃ z, z = h_349.size := ⟨_, rfl⟩
    rw [← g_524] at A_521 st_522
    have CH_526 : CHv Z consts_1 s.vm h_516 := CHv.ext E_520 CH_356
    have CR_527 : CHr Z consts_1 s.vm h0 s.vm h_516 := CR_357.trans (CHr.ext E_520 CH_356)
    have V_525 : Arv Z h_516 a_523 k_517 .char (own_l20 p0) (own_iv (List.replicate (own_l20 p0).toNatClampNeg 0)) (.int (0 : Int32)) := (Arv.new A_521 (own_l0 p0)).pad (own_pad _)
    have V_528 : Arv Z h_516 a_523 k_517 .char (own_l20 p0) (own_iv (own_fl (own_Y p1) (own_l20 p0) 0)) (.int (0 : Int32)) := (by rw [← own_fl0]; exact V_525)
    have V_529 : Arv Z h_516 a_9 k_3 .long (19 : Int32) (own_jv own_pws) (.long (0 : Int64)) := (V_359.ext E_520)
    have O_530 : Old Z n0 h_349 := ((((((((((((((((((((X00.ext E_6).wr W_26 (Nat.le_trans (own_n0 X00) (Nat.le_of_eq g_10.symm))).wr W_44 (Nat.le_trans (own_n0 X00) (Nat.le_of_eq g_10.symm))).wr W_62 (Nat.le_trans (own_n0 X00) (Nat.le_of_eq g_10.symm))).wr W_80 (Nat.le_trans (own_n0 X00) (Nat.le_of_eq g_10.symm))).wr W_98 (Nat.le_trans (own_n0 X00) (Nat.le_of_eq g_10.symm))).wr W_116 (Nat.le_trans (own_n0 X00) (Nat.le_of_eq g_10.symm))).wr W_134 (Nat.le_trans (own_n0 X00) (Nat.le_of_eq g_10.symm))).wr W_152 (Nat.le_trans (own_n0 X00) (Nat.le_of_eq g_10.symm))).wr W_171 (Nat.le_trans (own_n0 X00) (Nat.le_of_eq g_10.symm))).wr W_189 (Nat.le_trans (own_n0 X00) (Nat.le_of_eq g_10.symm))).wr W_207 (Nat.le_trans (own_n0 X00) (Nat.le_of_eq g_10.symm))).wr W_225 (Nat.le_trans (own_n0 X00) (Nat.le_of_eq g_10.symm))).wr W_243 (Nat.le_trans (own_n0 X00) (Nat.le_of_eq g_10.symm))).wr W_261 (Nat.le_trans (own_n0 X00) (Nat.le_of_eq g_10.symm))).wr W_279 (Nat.le_trans (own_n0 X00) (Nat.le_of_eq g_10.symm))).wr W_297 (Nat.le_trans (own_n0 X00) (Nat.le_of_eq g_10.symm))).wr W_315 (Nat.le_trans (own_n0 X00) (Nat.le_of_eq g_10.symm))).wr W_334 (Nat.le_trans (own_n0 X00) (Nat.le_of_eq g_10.symm))).wr W_352 (Nat.le_trans (own_n0 X00) (Nat.le_of_eq g_10.symm)))
    have O_531 : Old Z n0 h_516 := (O_530.ext E_520)
    obtain ⟨_, _, ⟨T_532, L_532, k_532, n_532⟩, -, X_532, ⟨Lc_532, hQ_532, l_532, y_532, z_532⟩, st_532⟩ := Jvm.LawKit.callS X_518 hx (y := M232) hown (mvT hZ (w21 hw)) (mvT hZ (w22 hw)) (mvT hZ (w23 hw)) (mvT hZ (w24 hw)) (by decide) (backOf (W := 0) (rm_put l Z a0 hw [] G1 G3 HG h_516 n0 O_531 a_523 k_517 a_9 k_3 (own_Y p1) (own_l20 p0) (0 : Int32) 0 V_528 V_529 (Nat.le_trans (own_n0 O_530) (Nat.le_of_eq g_524.symm)) (own_Y0 p1) (by decide) (own_l19 p0) (by decide)) hZ (w24 hw) (w23 hw) (by decide) (by decide)) (g := (mkF m 161 #[.val (.int p0), .val (.long p1), .second, .val (.int p2), .val (.int p3), .val (.ref a_9), .val (.int (own_l20 p0)), .val (.long (own_Y p1)), .second, .val (.ref a_523), .unset, .unset, .unset, .unset, .unset, .unset, .unset, .unset, .unset, .unset, .unset, .unset, .unset] [(.int (0 : Int32)), (.long (own_Y p1)), (.ref a_9), (.ref a_523)])) rfl (by rw [hml]; rfl) (argsL := [(.ref a_523), (.ref a_9), (.long (own_Y p1)), (.int (0 : Int32))]) (rest := []) (lenOf pd_358 rfl) rfl (by show 2 * 0 + _ ≤ _; exact Nat.le_of_eq rfl) (hb hby at_161) (fun _ _ => ⟨rfl, e_519, (by decide : 2 + 0 ≤ _), (by decide : 38 + 0 ≤ _)⟩)
    dsimp only [Pt.U, Pt.locs, Pt.cells, Pt.slots] at X_532 l_532 y_532 z_532 st_532 hQ_532
    have X_532 := own_cast X_532 l_532 y_532 z_532
    obtain ⟨rfl, N_533, K_534, g_535⟩ := hQ_532
    have N_536 := Fr.app N_355 N_533
    have CH_537 : CHv Z consts_1 s.vm T_532.heap := CHv.keep K_534 (sfS (Safe.arv hZ.alike V_528 (by decide)) sf0) CH_526
    have CR_538 : CHr Z consts_1 s.vm h0 s.vm T_532.heap := CR_527.trans (CHr.keep K_534 (sfS (Safe.arv hZ.alike V_528 (by decide)) sf0) CH_526)
    have V_539 : Arv Z T_532.heap a_9 k_3 .long (19 : Int32) (own_jv own_pws) (.long (0 : Int64)) := (V_529.keep K_534 (ninS (Nat.ne_of_lt (Nat.lt_of_lt_of_le V_359.lt (Nat.le_trans (Nat.le_refl _) (Nat.le_of_eq g_524.symm)))) nin0))
    have O_540 : Old Z n0 T_532.heap := (O_531.keep K_534 (allS (Nat.le_trans (own_n0 O_530) (Nat.le_of_eq g_524.symm)) all0))
    obtain ⟨_, _, ⟨T_541, L_541, k_541, n_541⟩, -, X_541, ⟨Lc_541, hQ_541, l_541, y_541, z_541⟩, st_541⟩ := Jvm.LawKit.callS X_532 hx (y := M232) hown (mvT hZ (w21 hw)) (mvT hZ (w22 hw)) (mvT hZ (w23 hw)) (mvT hZ (w24 hw)) (by decide) (backOf (W := 0) (rm_put l Z a0 hw [] G1 G3 HG T_532.heap n0 O_540 a_523 k_517 a_9 k_3 (own_Y p1) (own_l20 p0) (1 : Int32) (0 + 1) g_535 V_539 (Nat.le_trans (own_n0 O_530) (Nat.le_of_eq g_524.symm)) (own_Y0 p1) (by decide) (own_l19 p0) (by decide)) hZ (w24 hw) (w23 hw) (by decide) (by decide)) (g := (mkF m 171 #[.val (.int p0), .val (.long p1), .second, .val (.int p2), .val (.int p3), .val (.ref a_9), .val (.int (own_l20 p0)), .val (.long (own_Y p1)), .second, .val (.ref a_523), .unset, .unset, .unset, .unset, .unset, .unset, .unset, .unset, .unset, .unset, .unset, .unset, .unset] [(.int (1 : Int32)), (.long (own_Y p1)), (.ref a_9), (.ref a_523)])) rfl (by rw [hml]; rfl) (argsL := [(.ref a_523), (.ref a_9), (.long (own_Y p1)), (.int (1 : Int32))]) (rest := []) (lenOf pd_358 rfl) rfl (by show 2 * 0 + _ ≤ _; exact Nat.le_of_eq rfl) (hb hby at_171) (fun _ _ => ⟨rfl, rfl, (by decide : 2 + 0 ≤ _), (by decide : 38 + 0 ≤ _)⟩)
    dsimp only [Pt.U, Pt.locs, Pt.cells, Pt.slots] at X_541 l_541 y_541 z_541 st_541 hQ_541
    have X_541 := own_cast X_541 l_541 y_541 z_541
    obtain ⟨rfl, N_542, K_543, g_544⟩ := hQ_541
    have N_545 := Fr.app N_536 N_542
    have CH_546 : CHv Z consts_1 s.vm T_541.heap := CHv.keep K_543 (sfS (Safe.arv hZ.alike g_535 (by decide)) sf0) CH_537
    have CR_547 : CHr Z consts_1 s.vm h0 s.vm T_541.heap := CR_538.trans (CHr.keep K_543 (sfS (Safe.arv hZ.alike g_535 (by decide)) sf0) CH_537)
    have V_548 : Arv Z T_541.heap a_9 k_3 .long (19 : Int32) (own_jv own_pws) (.long (0 : Int64)) := (V_539.keep K_543 (ninS (Nat.ne_of_lt (Nat.lt_of_lt_of_le V_359.lt (Nat.le_trans (Nat.le_refl _) (Nat.le_of_eq g_524.symm)))) nin0))
    have O_549 : Old Z n0 T_541.heap := (O_540.keep K_543 (allS (Nat.le_trans (own_n0 O_530) (Nat.le_of_eq g_524.symm)) all0))
    obtain ⟨_, _, ⟨T_550, L_550, k_550, n_550⟩, -, X_550, ⟨Lc_550, hQ_550, l_550, y_550, z_550⟩, st_550⟩ := Jvm.LawKit.callS X_541 hx (y := M232) hown (mvT hZ (w21 hw)) (mvT hZ (w22 hw)) (mvT hZ (w23 hw)) (mvT hZ (w24 hw)) (by decide) (backOf (W := 0) (rm_put l Z a0 hw [] G1 G3 HG T_541.heap n0 O_549 a_523 k_517 a_9 k_3 (own_Y p1) (own_l20 p0) (2 : Int32) ((0 + 1) + 1) g_544 V_548 (Nat.le_trans (own_n0 O_530) (Nat.le_of_eq g_524.symm)) (own_Y0 p1) (by decide) (own_l19 p0) (by decide)) hZ (w24 hw) (w23 hw) (by decide) (by decide)) (g := (mkF m 181 #[.val (.int p0), .val (.long p1), .second, .val (.int p2), .val (.int p3), .val (.ref a_9), .val (.int (own_l20 p0)), .val (.long (own_Y p1)), .second, .val (.ref a_523), .unset, .unset, .unset, .unset, .unset, .unset, .unset, .unset, .unset, .unset, .unset, .unset, .unset] [(.int (2 : Int32)), (.long (own_Y p1)), (.ref a_9), (.ref a_523)])) rfl (by rw [hml]; rfl) (argsL := [(.ref a_523), (.ref a_9), (.long (own_Y p1)), (.int (2 : Int32))]) (rest := []) (lenOf pd_358 rfl) rfl (by show 2 * 0 + _ ≤ _; exact Nat.le_of_eq rfl) (hb hby at_181) (fun _ _ => ⟨rfl, rfl, (by decide : 2 + 0 ≤ _), (by decide : 38 + 0 ≤ _)⟩)
    dsimp only [Pt.U, Pt.locs, Pt.cells, Pt.slots] at X_550 l_550 y_550 z_550 st_550 hQ_550
    have X_550 := own_cast X_550 l_550 y_550 z_550
    obtain ⟨rfl, N_551, K_552, g_553⟩ := hQ_550
    have N_554 := Fr.app N_545 N_551
    have CH_555 : CHv Z consts_1 s.vm T_550.heap := CHv.keep K_552 (sfS (Safe.arv hZ.alike g_544 (by decide)) sf0) CH_546
    have CR_556 : CHr Z consts_1 s.vm h0 s.vm T_550.heap := CR_547.trans (CHr.keep K_552 (sfS (Safe.arv hZ.alike g_544 (by decide)) sf0) CH_546)
    have V_557 : Arv Z T_550.heap a_9 k_3 .long (19 : Int32) (own_jv own_pws) (.long (0 : Int64)) := (V_548.keep K_552 (ninS (Nat.ne_of_lt (Nat.lt_of_lt_of_le V_359.lt (Nat.le_trans (Nat.le_refl _) (Nat.le_of_eq g_524.symm)))) nin0))
    have O_558 : Old Z n0 T_550.heap := (O_549.keep K_552 (allS (Nat.le_trans (own_n0 O_530) (Nat.le_of_eq g_524.symm)) all0))
    obtain ⟨_, _, ⟨T_559, L_559, k_559, n_559⟩, -, X_559, ⟨Lc_559, hQ_559, l_559, y_559, z_559⟩, st_559⟩ := Jvm.LawKit.callS X_550 hx (y := M232) hown (mvT hZ (w21 hw)) (mvT hZ (w22 hw)) (mvT hZ (w23 hw)) (mvT hZ (w24 hw)) (by decide) (backOf (W := 0) (rm_put l Z a0 hw [] G1 G3 HG T_550.heap n0 O_558 a_523 k_517 a_9 k_3 (own_Y p1) (own_l20 p0) (3 : Int32) (((0 + 1) + 1) + 1) g_553 V_557 (Nat.le_trans (own_n0 O_530) (Nat.le_of_eq g_524.symm)) (own_Y0 p1) (by decide) (own_l19 p0) (by decide)) hZ (w24 hw) (w23 hw) (by decide) (by decide)) (g := (mkF m 191 #[.val (.int p0), .val (.long p1), .second, .val (.int p2), .val (.int p3), .val (.ref a_9), .val (.int (own_l20 p0)), .val (.long (own_Y p1)), .second, .val (.ref a_523), .unset, .unset, .unset, .unset, .unset, .unset, .unset, .unset, .unset, .unset, .unset, .unset, .unset] [(.int (3 : Int32)), (.long (own_Y p1)), (.ref a_9), (.ref a_523)])) rfl (by rw [hml]; rfl) (argsL := [(.ref a_523), (.ref a_9), (.long (own_Y p1)), (.int (3 : Int32))]) (rest := []) (lenOf pd_358 rfl) rfl (by show 2 * 0 + _ ≤ _; exact Nat.le_of_eq rfl) (hb hby at_191) (fun _ _ => ⟨rfl, rfl, (by decide : 2 + 0 ≤ _), (by decide : 38 + 0 ≤ _)⟩)
    dsimp only [Pt.U, Pt.locs, Pt.cells, Pt.slots] at X_559 l_559 y_559 z_559 st_559 hQ_559
    have X_559 := own_cast X_559 l_559 y_559 z_559
    obtain ⟨rfl, N_560, K_561, g_562⟩ := hQ_559
    have N_563 := Fr.app N_554 N_560
    have CH_564 : CHv Z consts_1 s.vm T_559.heap := CHv.keep K_561 (sfS (Safe.arv hZ.alike g_553 (by decide)) sf0) CH_555
    have CR_565 : CHr Z consts_1 s.vm h0 s.vm T_559.heap := CR_556.trans (CHr.keep K_561 (sfS (Safe.arv hZ.alike g_553 (by decide)) sf0) CH_555)
    have V_566 : Arv Z T_559.heap a_9 k_3 .long (19 : Int32) (own_jv own_pws) (.long (0 : Int64)) := (V_557.keep K_561 (ninS (Nat.ne_of_lt (Nat.lt_of_lt_of_le V_359.lt (Nat.le_trans (Nat.le_refl _) (Nat.le_of_eq g_524.symm)))) nin0))
    have O_567 : Old Z n0 T_559.heap := (O_558.keep K_561 (allS (Nat.le_trans (own_n0 O_530) (Nat.le_of_eq g_524.symm)) all0))
    obtain ⟨_, _, ⟨T_568, L_568, k_568, n_568⟩, -, X_568, ⟨Lc_568, hQ_568, l_568, y_568, z_568⟩, st_568⟩ := Jvm.LawKit.callS X_559 hx (y := M232) hown (mvT hZ (w21 hw)) (mvT hZ (w22 hw)) (mvT hZ (w23 hw)) (mvT hZ (w24 hw)) (by decide) (backOf (W := 0) (rm_put l Z a0 hw [] G1 G3 HG T_559.heap n0 O_567 a_523 k_517 a_9 k_3 (own_Y p1) (own_l20 p0) (4 : Int32) ((((0 + 1) + 1) + 1) + 1) g_562 V_566 (Nat.le_trans (own_n0 O_530) (Nat.le_of_eq g_524.symm)) (own_Y0 p1) (by decide) (own_l19 p0) (by decide)) hZ (w24 hw) (w23 hw) (by decide) (by decide)) (g := (mkF m 201 #[.val (.int p0), .val (.long p1), .second, .val (.int p2), .val (.int p3), .val (.ref a_9), .val (.int (own_l20 p0)), .val (.long (own_Y p1)), .second, .val (.ref a_523), .unset, .unset, .unset, .unset, .unset, .unset, .unset, .unset, .unset, .unset, .unset, .unset, .unset] [(.int (4 : Int32)), (.long (own_Y p1)), (.ref a_9), (.ref a_523)])) rfl (by rw [hml]; rfl) (argsL := [(.ref a_523), (.ref a_9), (.long (own_Y p1)), (.int (4 : Int32))]) (rest := []) (lenOf pd_358 rfl) rfl (by show 2 * 0 + _ ≤ _; exact Nat.le_of_eq rfl) (hb hby at_201) (fun _ _ => ⟨rfl, rfl, (by decide : 2 + 0 ≤ _), (by decide : 38 + 0 ≤ _)⟩)
    dsimp only [Pt.U, Pt.locs, Pt.cells, Pt.slots] at X_568 l_568 y_568 z_568 st_568 hQ_568
    have X_568 := own_cast X_568 l_568 y_568 z_568
    obtain ⟨rfl, N_569, K_570, g_571⟩ := hQ_568
    have N_572 := Fr.app N_563 N_569
    have CH_573 : CHv Z consts_1 s.vm T_568.heap := CHv.keep K_570 (sfS (Safe.arv hZ.alike g_562 (by decide)) sf0) CH_564
    have CR_574 : CHr Z consts_1 s.vm h0 s.vm T_568.heap := CR_565.trans (CHr.keep K_570 (sfS (Safe.arv hZ.alike g_562 (by decide)) sf0) CH_564)
    have C_575 : Steps p.tables e below S0 (T_568.setTop (mkF m 210 #[.val (.int p0), .val (.long p1), .second, .val (.int p2), .val (.int p3), .val (.ref a_9), .val (.int (own_l20 p0)), .val (.long (own_Y p1)), .second, .val (.ref a_523), .unset, .unset, .unset, .unset, .unset, .unset, .unset, .unset, .unset, .unset, .unset, .unset, .unset] [(.long (own_Y p1)), (.ref a_9), (.ref a_523)])) := by
      refine C_360.trans ?_
      refine XS.istore X_350.here hx rfl (hb hby at_139) rfl (l' := #[.val (.int p0), .val (.long p1), .second, .val (.int p2), .val (.int p3), .val (.ref a_9), .val (.int (own_l20 p0)), .unset, .unset, .unset, .unset, .unset, .unset, .unset, .unset, .unset, .unset, .unset, .unset, .unset, .unset, .unset, .unset]) rfl ?_
      refine XS.lloadN X_350.here hx rfl (hb hby at_141) rfl ?_
      refine X_350.ldc2J hx hown (mvT hZ (w19 hw)) rfl (hb hby at_142) ?_
      refine XS.land X_350.here hx rfl (hb hby at_145) rfl ?_
      refine XS.lstore X_350.here hx rfl (hb hby at_146) rfl (l' := #[.val (.int p0), .val (.long p1), .second, .val (.int p2), .val (.int p3), .val (.ref a_9), .val (.int (own_l20 p0)), .val (.long (own_Y p1)), .second, .unset, .unset, .unset, .unset, .unset, .unset, .unset, .unset, .unset, .unset, .unset, .unset, .unset, .unset]) rfl ?_
      refine XS.iload X_350.here hx rfl (hb hby at_148) rfl ?_
      refine st_522 _ ?_
      refine XS.astore X_518.here hx rfl (hb hby at_152) rfl rfl (l' := #[.val (.int p0), .val (.long p1), .second, .val (.int p2), .val (.int p3), .val (.ref a_9), .val (.int (own_l20 p0)), .val (.long (own_Y p1)), .second, .val (.ref a_523), .unset, .unset, .unset, .unset, .unset, .unset, .unset, .unset, .unset, .unset, .unset, .unset, .unset]) rfl ?_
      show Steps p.tables e below (T_515.setTop (mkF m 154 #[.val (.int p0), .val (.long p1), .second, .val (.int p2), .val (.int p3), .val (.ref a_9), .val (.int (own_l20 p0)), .val (.long (own_Y p1)), .second, .val (.ref a_523), .unset, .unset, .unset, .unset, .unset, .unset, .unset, .unset, .unset, .unset, .unset, .unset, .unset] [])) _
      refine XS.aload X_518.here hx rfl (hb hby at_154) rfl rfl ?_
      refine XS.aload X_518.here hx rfl (hb hby at_156) rfl rfl ?_
      refine XS.lload X_518.here hx rfl (hb hby at_158) rfl ?_
      refine XS.iconst X_518.here hx rfl (hb hby at_160) ?_
      refine st_532 _ ?_
      refine XS.aload X_532.here hx rfl (hb hby at_164) rfl rfl ?_
      refine XS.aload X_532.here hx rfl (hb hby at_166) rfl rfl ?_
      refine XS.lload X_532.here hx rfl (hb hby at_168) rfl ?_
      show Steps p.tables e below (T_532.setTop (mkF m 170 #[.val (.int p0), .val (.long p1), .second, .val (.int p2), .val (.int p3), .val (.ref a_9), .val (.int (own_l20 p0)), .val (.long (own_Y p1)), .second, .val (.ref a_523), .unset, .unset, .unset, .unset, .unset, .unset, .unset, .unset, .unset, .unset, .unset, .unset, .unset] [(.long (own_Y p1)), (.ref a_9), (.ref a_523)])) _
      refine XS.iconst X_532.here hx rfl (hb hby at_170) ?_
      refine st_541 _ ?_
      refine XS.aload X_541.here hx rfl (hb hby at_174) rfl rfl ?_
      refine XS.aload X_541.here hx rfl (hb hby at_176) rfl rfl ?_
      refine XS.lload X_541.here hx rfl (hb hby at_178) rfl ?_
      refine XS.iconst X_541.here hx rfl (hb hby at_180) ?_
      refine st_550 _ ?_
      refine XS.aload X_550.here hx rfl (hb hby at_184) rfl rfl ?_
      show Steps p.tables e below (T_550.setTop (mkF m 186 #[.val (.int p0), .val (.long p1), .second, .val (.int p2), .val (.int p3), .val (.ref a_9), .val (.int (own_l20 p0)), .val (.long (own_Y p1)), .second, .val (.ref a_523), .unset, .unset, .unset, .unset, .unset, .unset, .unset, .unset, .unset, .unset, .unset, .unset, .unset] [(.ref a_523)])) _
      refine XS.aload X_550.here hx rfl (hb hby at_186) rfl rfl ?_
      refine XS.lload X_550.here hx rfl (hb hby at_188) rfl ?_
      refine XS.iconst X_550.here hx rfl (hb hby at_190) ?_
      refine st_559 _ ?_
      refine XS.aload X_559.here hx rfl (hb hby at_194) rfl rfl ?_
      refine XS.aload X_559.here hx rfl (hb hby at_196) rfl rfl ?_
      refine XS.lload X_559.here hx rfl (hb hby at_198) rfl ?_
      refine XS.iconst X_559.here hx rfl (hb hby at_200) ?_
      show Steps p.tables e below (T_559.setTop (mkF m 201 #[.val (.int p0), .val (.long p1), .second, .val (.int p2), .val (.int p3), .val (.ref a_9), .val (.int (own_l20 p0)), .val (.long (own_Y p1)), .second, .val (.ref a_523), .unset, .unset, .unset, .unset, .unset, .unset, .unset, .unset, .unset, .unset, .unset, .unset, .unset] [(.int (4 : Int32)), (.long (own_Y p1)), (.ref a_9), (.ref a_523)])) _
      refine st_568 _ ?_
      refine XS.aload X_568.here hx rfl (hb hby at_204) rfl rfl ?_
      refine XS.aload X_568.here hx rfl (hb hby at_206) rfl rfl ?_
      refine XS.lload X_568.here hx rfl (hb hby at_208) rfl ?_
      exact Steps.refl _
    have V_576 : Arv Z T_568.heap a_9 k_3 .long (19 : Int32) (own_jv own_pws) (.long (0 : Int64)) := (V_566.keep K_570 (ninS (Nat.ne_of_lt (Nat.lt_of_lt_of_le V_359.lt (Nat.le_trans (Nat.le_refl _) (Nat.le_of_eq g_524.symm)))) nin0))
    have O_577 : Old Z n0 T_568.heap := (O_567.keep K_570 (allS (Nat.le_trans (own_n0 O_530) (Nat.le_of_eq g_524.symm)) all0))
    obtain ⟨_, _, ⟨T_578, L_578, k_578, n_578⟩, -, X_578, ⟨Lc_578, hQ_578, l_578, y_578, z_578⟩, st_578⟩ := Jvm.LawKit.callS X_568 hx (y := M232) hown (mvT hZ (w21 hw)) (mvT hZ (w22 hw)) (mvT hZ (w23 hw)) (mvT hZ (w24 hw)) (by decide) (backOf (W := 0) (rm_put l Z a0 hw [] G1 G3 HG T_568.heap n0 O_577 a_523 k_517 a_9 k_3 (own_Y p1) (own_l20 p0) (5 : Int32) (((((0 + 1) + 1) + 1) + 1) + 1) g_571 V_576 (Nat.le_trans (own_n0 O_530) (Nat.le_of_eq g_524.symm)) (own_Y0 p1) (by decide) (own_l19 p0) (by decide)) hZ (w24 hw) (w23 hw) (by decide) (by decide)) (g := (mkF m 211 #[.val (.int p0), .val (.long p1), .second, .val (.int p2), .val (.int p3), .val (.ref a_9), .val (.int (own_l20 p0)), .val (.long (own_Y p1)), .second, .val (.ref a_523), .unset, .unset, .unset, .unset, .unset, .unset, .unset, .unset, .unset, .unset, .unset, .unset, .unset] [(.int (5 : Int32)), (.long (own_Y p1)), (.ref a_9), (.ref a_523)])) rfl (by rw [hml]; rfl) (argsL := [(.ref a_523), (.ref a_9), (.long (own_Y p1)), (.int (5 : Int32))]) (rest := []) (lenOf pd_358 rfl) rfl (by show 2 * 0 + _ ≤ _; exact Nat.le_of_eq rfl) (hb hby at_211) (fun _ _ => ⟨rfl, rfl, (by decide : 2 + 0 ≤ _), (by decide : 38 + 0 ≤ _)⟩)
    dsimp only [Pt.U, Pt.locs, Pt.cells, Pt.slots] at X_578 l_578 y_578 z_578 st_578 hQ_578
    have X_578 := own_cast X_578 l_578 y_578 z_578
    obtain ⟨rfl, N_579, K_580, g_581⟩ := hQ_578
    have N_582 := Fr.app N_572 N_579
    have CH_583 : CHv Z consts_1 s.vm T_578.heap := CHv.keep K_580 (sfS (Safe.arv hZ.alike g_571 (by decide)) sf0) CH_573
    have CR_584 : CHr Z consts_1 s.vm h0 s.vm T_578.heap := CR_574.trans (CHr.keep K_580 (sfS (Safe.arv hZ.alike g_571 (by decide)) sf0) CH_573)
    have V_585 : Arv Z T_578.heap a_9 k_3 .long (19 : Int32) (own_jv own_pws) (.long (0 : Int64)) := (V_576.keep K_580 (ninS (Nat.ne_of_lt (Nat.lt_of_lt_of_le V_359.lt (Nat.le_trans (Nat.le_refl _) (Nat.le_of_eq g_524.symm)))) nin0))
    have O_586 : Old Z n0 T_578.heap := (O_577.keep K_580 (allS (Nat.le_trans (own_n0 O_530) (Nat.le_of_eq g_524.symm)) all0))
    obtain ⟨_, _, ⟨T_587, L_587, k_587, n_587⟩, -, X_587, ⟨Lc_587, hQ_587, l_587, y_587, z_587⟩, st_587⟩ := Jvm.LawKit.callS X_578 hx (y := M232) hown (mvT hZ (w21 hw)) (mvT hZ (w22 hw)) (mvT hZ (w23 hw)) (mvT hZ (w24 hw)) (by decide) (backOf (W := 0) (rm_put l Z a0 hw [] G1 G3 HG T_578.heap n0 O_586 a_523 k_517 a_9 k_3 (own_Y p1) (own_l20 p0) (6 : Int32) ((((((0 + 1) + 1) + 1) + 1) + 1) + 1) g_581 V_585 (Nat.le_trans (own_n0 O_530) (Nat.le_of_eq g_524.symm)) (own_Y0 p1) (by decide) (own_l19 p0) (by decide)) hZ (w24 hw) (w23 hw) (by decide) (by decide)) (g := (mkF m 222 #[.val (.int p0), .val (.long p1), .second, .val (.int p2), .val (.int p3), .val (.ref a_9), .val (.int (own_l20 p0)), .val (.long (own_Y p1)), .second, .val (.ref a_523), .unset, .unset, .unset, .unset, .unset, .unset, .unset, .unset, .unset, .unset, .unset, .unset, .unset] [(.int (6 : Int32)), (.long (own_Y p1)), (.ref a_9), (.ref a_523)])) rfl (by rw [hml]; rfl) (argsL := [(.ref a_523), (.ref a_9), (.long (own_Y p1)), (.int (6 : Int32))]) (rest := []) (lenOf pd_358 rfl) rfl (by show 2 * 0 + _ ≤ _; exact Nat.le_of_eq rfl) (hb hby at_222) (fun _ _ => ⟨rfl, rfl, (by decide : 2 + 0 ≤ _), (by decide : 38 + 0 ≤ _)⟩)
    dsimp only [Pt.U, Pt.locs, Pt.cells, Pt.slots] at X_587 l_587 y_587 z_587 st_587 hQ_587
    have X_587 := own_cast X_587 l_587 y_587 z_587
    obtain ⟨rfl, N_588, K_589, g_590⟩ := hQ_587
    have N_591 := Fr.app N_582 N_588
    have CH_592 : CHv Z consts_1 s.vm T_587.heap := CHv.keep K_589 (sfS (Safe.arv hZ.alike g_581 (by decide)) sf0) CH_583
    have CR_593 : CHr Z consts_1 s.vm h0 s.vm T_587.heap := CR_584.trans (CHr.keep K_589 (sfS (Safe.arv hZ.alike g_581 (by decide)) sf0) CH_583)
    have V_594 : Arv Z T_587.heap a_9 k_3 .long (19 : Int32) (own_jv own_pws) (.long (0 : Int64)) := (V_585.keep K_589 (ninS (Nat.ne_of_lt (Nat.lt_of_lt_of_le V_359.lt (Nat.le_trans (Nat.le_refl _) (Nat.le_of_eq g_524.symm)))) nin0))
    have O_595 : Old Z n0 T_587.heap := (O_586.keep K_589 (allS (Nat.le_trans (own_n0 O_530) (Nat.le_of_eq g_524.symm)) all0))
    obtain ⟨_, _, ⟨T_596, L_596, k_596, n_596⟩, -, X_596, ⟨Lc_596, hQ_596, l_596, y_596, z_596⟩, st_596⟩ := Jvm.LawKit.callS X_587 hx (y := M232) hown (mvT hZ (w21 hw)) (mvT hZ (w22 hw)) (mvT hZ (w23 hw)) (mvT hZ (w24 hw)) (by decide) (backOf (W := 0) (rm_put l Z a0 hw [] G1 G3 HG T_587.heap n0 O_595 a_523 k_517 a_9 k_3 (own_Y p1) (own_l20 p0) (7 : Int32) (((((((0 + 1) + 1) + 1) + 1) + 1) + 1) + 1) g_590 V_594 (Nat.le_trans (own_n0 O_530) (Nat.le_of_eq g_524.symm)) (own_Y0 p1) (by decide) (own_l19 p0) (by decide)) hZ (w24 hw) (w23 hw) (by decide) (by decide)) (g := (mkF m 233 #[.val (.int p0), .val (.long p1), .second, .val (.int p2), .val (.int p3), .val (.ref a_9), .val (.int (own_l20 p0)), .val (.long (own_Y p1)), .second, .val (.ref a_523), .unset, .unset, .unset, .unset, .unset, .unset, .unset, .unset, .unset, .unset, .unset, .unset, .unset] [(.int (7 : Int32)), (.long (own_Y p1)), (.ref a_9), (.ref a_523)])) rfl (by rw [hml]; rfl) (argsL := [(.ref a_523), (.ref a_9), (.long (own_Y p1)), (.int (7 : Int32))]) (rest := []) (lenOf pd_358 rfl) rfl (by show 2 * 0 + _ ≤ _; exact Nat.le_of_eq rfl) (hb hby at_233) (fun _ _ => ⟨rfl, rfl, (by decide : 2 + 0 ≤ _), (by decide : 38 + 0 ≤ _)⟩)
    dsimp only [Pt.U, Pt.locs, Pt.cells, Pt.slots] at X_596 l_596 y_596 z_596 st_596 hQ_596
    have X_596 := own_cast X_596 l_596 y_596 z_596
    obtain ⟨rfl, N_597, K_598, g_599⟩ := hQ_596
    have N_600 := Fr.app N_591 N_597
    have CH_601 : CHv Z consts_1 s.vm T_596.heap := CHv.keep K_598 (sfS (Safe.arv hZ.alike g_590 (by decide)) sf0) CH_592
    have CR_602 : CHr Z consts_1 s.vm h0 s.vm T_596.heap := CR_593.trans (CHr.keep K_598 (sfS (Safe.arv hZ.alike g_590 (by decide)) sf0) CH_592)
    have V_603 : Arv Z T_596.heap a_9 k_3 .long (19 : Int32) (own_jv own_pws) (.long (0 : Int64)) := (V_594.keep K_598 (ninS (Nat.ne_of_lt (Nat.lt_of_lt_of_le V_359.lt (Nat.le_trans (Nat.le_refl _) (Nat.le_of_eq g_524.symm)))) nin0))
    have O_604 : Old Z n0 T_596.heap := (O_595.keep K_598 (allS (Nat.le_trans (own_n0 O_530) (Nat.le_of_eq g_524.symm)) all0))
    obtain ⟨_, _, ⟨T_605, L_605, k_605, n_605⟩, -, X_605, ⟨Lc_605, hQ_605, l_605, y_605, z_605⟩, st_605⟩ := Jvm.LawKit.callS X_596 hx (y := M232) hown (mvT hZ (w21 hw)) (mvT hZ (w22 hw)) (mvT hZ (w23 hw)) (mvT hZ (w24 hw)) (by decide) (backOf (W := 0) (rm_put l Z a0 hw [] G1 G3 HG T_596.heap n0 O_604 a_523 k_517 a_9 k_3 (own_Y p1) (own_l20 p0) (8 : Int32) ((((((((0 + 1) + 1) + 1) + 1) + 1) + 1) + 1) + 1) g_599 V_603 (Nat.le_trans (own_n0 O_530) (Nat.le_of_eq g_524.symm)) (own_Y0 p1) (by decide) (own_l19 p0) (by decide)) hZ (w24 hw) (w23 hw) (by decide) (by decide)) (g := (mkF m 244 #[.val (.int p0), .val (.long p1), .second, .val (.int p2), .val (.int p3), .val (.ref a_9), .val (.int (own_l20 p0)), .val (.long (own_Y p1)), .second, .val (.ref a_523), .unset, .unset, .unset, .unset, .unset, .unset, .unset, .unset, .unset, .unset, .unset, .unset, .unset] [(.int (8 : Int32)), (.long (own_Y p1)), (.ref a_9), (.ref a_523)])) rfl (by rw [hml]; rfl) (argsL := [(.ref a_523), (.ref a_9), (.long (own_Y p1)), (.int (8 : Int32))]) (rest := []) (lenOf pd_358 rfl) rfl (by show 2 * 0 + _ ≤ _; exact Nat.le_of_eq rfl) (hb hby at_244) (fun _ _ => ⟨rfl, rfl, (by decide : 2 + 0 ≤ _), (by decide : 38 + 0 ≤ _)⟩)
    dsimp only [Pt.U, Pt.locs, Pt.cells, Pt.slots] at X_605 l_605 y_605 z_605 st_605 hQ_605
    have X_605 := own_cast X_605 l_605 y_605 z_605
    obtain ⟨rfl, N_606, K_607, g_608⟩ := hQ_605
    have N_609 := Fr.app N_600 N_606
    have CH_610 : CHv Z consts_1 s.vm T_605.heap := CHv.keep K_607 (sfS (Safe.arv hZ.alike g_599 (by decide)) sf0) CH_601
    have CR_611 : CHr Z consts_1 s.vm h0 s.vm T_605.heap := CR_602.trans (CHr.keep K_607 (sfS (Safe.arv hZ.alike g_599 (by decide)) sf0) CH_601)
    have V_612 : Arv Z T_605.heap a_9 k_3 .long (19 : Int32) (own_jv own_pws) (.long (0 : Int64)) := (V_603.keep K_607 (ninS (Nat.ne_of_lt (Nat.lt_of_lt_of_le V_359.lt (Nat.le_trans (Nat.le_refl _) (Nat.le_of_eq g_524.symm)))) nin0))
    have O_613 : Old Z n0 T_605.heap := (O_604.keep K_607 (allS (Nat.le_trans (own_n0 O_530) (Nat.le_of_eq g_524.symm)) all0))
    obtain ⟨_, _, ⟨T_614, L_614, k_614, n_614⟩, -, X_614, ⟨Lc_614, hQ_614, l_614, y_614, z_614⟩, st_614⟩ := Jvm.LawKit.callS X_605 hx (y := M232) hown (mvT hZ (w21 hw)) (mvT hZ (w22 hw)) (mvT hZ (w23 hw)) (mvT hZ (w24 hw)) (by decide) (backOf (W := 0) (rm_put l Z a0 hw [] G1 G3 HG T_605.heap n0 O_613 a_523 k_517 a_9 k_3 (own_Y p1) (own_l20 p0) (9 : Int32) (((((((((0 + 1) + 1) + 1) + 1) + 1) + 1) + 1) + 1) + 1) g_608 V_612 (Nat.le_trans (own_n0 O_530) (Nat.le_of_eq g_524.symm)) (own_Y0 p1) (by decide) (own_l19 p0) (by decide)) hZ (w24 hw) (w23 hw) (by decide) (by decide)) (g := (mkF m 255 #[.val (.int p0), .val (.long p1), .second, .val (.int p2), .val (.int p3), .val (.ref a_9), .val (.int (own_l20 p0)), .val (.long (own_Y p1)), .second, .val (.ref a_523), .unset, .unset, .unset, .unset, .unset, .unset, .unset, .unset, .unset, .unset, .unset, .unset, .unset] [(.int (9 : Int32)), (.long (own_Y p1)), (.ref a_9), (.ref a_523)])) rfl (by rw [hml]; rfl) (argsL := [(.ref a_523), (.ref a_9), (.long (own_Y p1)), (.int (9 : Int32))]) (rest := []) (lenOf pd_358 rfl) rfl (by show 2 * 0 + _ ≤ _; exact Nat.le_of_eq rfl) (hb hby at_255) (fun _ _ => ⟨rfl, rfl, (by decide : 2 + 0 ≤ _), (by decide : 38 + 0 ≤ _)⟩)
    dsimp only [Pt.U, Pt.locs, Pt.cells, Pt.slots] at X_614 l_614 y_614 z_614 st_614 hQ_614
    have X_614 := own_cast X_614 l_614 y_614 z_614
    obtain ⟨rfl, N_615, K_616, g_617⟩ := hQ_614
    have N_618 := Fr.app N_609 N_615
    have CH_619 : CHv Z consts_1 s.vm T_614.heap := CHv.keep K_616 (sfS (Safe.arv hZ.alike g_608 (by decide)) sf0) CH_610
    have CR_620 : CHr Z consts_1 s.vm h0 s.vm T_614.heap := CR_611.trans (CHr.keep K_616 (sfS (Safe.arv hZ.alike g_608 (by decide)) sf0) CH_610)
    have V_621 : Arv Z T_614.heap a_9 k_3 .long (19 : Int32) (own_jv own_pws) (.long (0 : Int64)) := (V_612.keep K_616 (ninS (Nat.ne_of_lt (Nat.lt_of_lt_of_le V_359.lt (Nat.le_trans (Nat.le_refl _) (Nat.le_of_eq g_524.symm)))) nin0))
    have O_622 : Old Z n0 T_614.heap := (O_613.keep K_616 (allS (Nat.le_trans (own_n0 O_530) (Nat.le_of_eq g_524.symm)) all0))
    obtain ⟨_, _, ⟨T_623, L_623, k_623, n_623⟩, -, X_623, ⟨Lc_623, hQ_623, l_623, y_623, z_623⟩, st_623⟩ := Jvm.LawKit.callS X_614 hx (y := M232) hown (mvT hZ (w21 hw)) (mvT hZ (w22 hw)) (mvT hZ (w23 hw)) (mvT hZ (w24 hw)) (by decide) (backOf (W := 0) (rm_put l Z a0 hw [] G1 G3 HG T_614.heap n0 O_622 a_523 k_517 a_9 k_3 (own_Y p1) (own_l20 p0) (10 : Int32) ((((((((((0 + 1) + 1) + 1) + 1) + 1) + 1) + 1) + 1) + 1) + 1) g_617 V_621 (Nat.le_trans (own_n0 O_530) (Nat.le_of_eq g_524.symm)) (own_Y0 p1) (by decide) (own_l19 p0) (by decide)) hZ (w24 hw) (w23 hw) (by decide) (by decide)) (g := (mkF m 266 #[.val (.int p0), .val (.long p1), .second, .val (.int p2), .val (.int p3), .val (.ref a_9), .val (.int (own_l20 p0)), .val (.long (own_Y p1)), .second, .val (.ref a_523), .unset, .unset, .unset, .unset, .unset, .unset, .unset, .unset, .unset, .unset, .unset, .unset, .unset] [(.int (10 : Int32)), (.long (own_Y p1)), (.ref a_9), (.ref a_523)])) rfl (by rw [hml]; rfl) (argsL := [(.ref a_523), (.ref a_9), (.long (own_Y p1)), (.int (10 : Int32))]) (rest := []) (lenOf pd_358 rfl) rfl (by show 2 * 0 + _ ≤ _; exact Nat.le_of_eq rfl) (hb hby at_266) (fun _ _ => ⟨rfl, rfl, (by decide : 2 + 0 ≤ _), (by decide : 38 + 0 ≤ _)⟩)
    dsimp only [Pt.U, Pt.locs, Pt.cells, Pt.slots] at X_623 l_623 y_623 z_623 st_623 hQ_623
    have X_623 := own_cast X_623 l_623 y_623 z_623
    obtain ⟨rfl, N_624, K_625, g_626⟩ := hQ_623
    have N_627 := Fr.app N_618 N_624
    have CH_628 : CHv Z consts_1 s.vm T_623.heap := CHv.keep K_625 (sfS (Safe.arv hZ.alike g_617 (by decide)) sf0) CH_619
    have CR_629 : CHr Z consts_1 s.vm h0 s.vm T_623.heap := CR_620.trans (CHr.keep K_625 (sfS (Safe.arv hZ.alike g_617 (by decide)) sf0) CH_619)
    have V_630 : Arv Z T_623.heap a_9 k_3 .long (19 : Int32) (own_jv own_pws) (.long (0 : Int64)) := (V_621.keep K_625 (ninS (Nat.ne_of_lt (Nat.lt_of_lt_of_le V_359.lt (Nat.le_trans (Nat.le_refl _) (Nat.le_of_eq g_524.symm)))) nin0))
    have O_631 : Old Z n0 T_623.heap := (O_622.keep K_625 (allS (Nat.le_trans (own_n0 O_530) (Nat.le_of_eq g_524.symm)) all0))
    obtain ⟨_, _, ⟨T_632, L_632, k_632, n_632⟩, -, X_632, ⟨Lc_632, hQ_632, l_632, y_632, z_632⟩, st_632⟩ := Jvm.LawKit.callS X_623 hx (y := M232) hown (mvT hZ (w21 hw)) (mvT hZ (w22 hw)) (mvT hZ (w23 hw)) (mvT hZ (w24 hw)) (by decide) (backOf (W := 0) (rm_put l Z a0 hw [] G1 G3 HG T_623.heap n0 O_631 a_523 k_517 a_9 k_3 (own_Y p1) (own_l20 p0) (11 : Int32) (((((((((((0 + 1) + 1) + 1) + 1) + 1) + 1) + 1) + 1) + 1) + 1) + 1) g_626 V_630 (Nat.le_trans (own_n0 O_530) (Nat.le_of_eq g_524.symm)) (own_Y0 p1) (by decide) (own_l19 p0) (by decide)) hZ (w24 hw) (w23 hw) (by decide) (by decide)) (g := (mkF m 277 #[.val (.int p0), .val (.long p1), .second, .val (.int p2), .val (.int p3), .val (.ref a_9), .val (.int (own_l20 p0)), .val (.long (own_Y p1)), .second, .val (.ref a_523), .unset, .unset, .unset, .unset, .unset, .unset, .unset, .unset, .unset, .unset, .unset, .unset, .unset] [(.int (11 : Int32)), (.long (own_Y p1)), (.ref a_9), (.ref a_523)])) rfl (by rw [hml]; rfl) (argsL := [(.ref a_523), (.ref a_9), (.long (own_Y p1)), (.int (11 : Int32))]) (rest := []) (lenOf pd_358 rfl) rfl (by show 2 * 0 + _ ≤ _; exact Nat.le_of_eq rfl) (hb hby at_277) (fun _ _ => ⟨rfl, rfl, (by decide : 2 + 0 ≤ _), (by decide : 38 + 0 ≤ _)⟩)
    dsimp only [Pt.U, Pt.locs, Pt.cells, Pt.slots] at X_632 l_632 y_632 z_632 st_632 hQ_632
    have X_632 := own_cast X_632 l_632 y_632 z_632
    obtain ⟨rfl, N_633, K_634, g_635⟩ := hQ_632
    have N_636 := Fr.app N_627 N_633
    have CH_637 : CHv Z consts_1 s.vm T_632.heap := CHv.keep K_634 (sfS (Safe.arv hZ.alike g_626 (by decide)) sf0) CH_628
    have CR_638 : CHr Z consts_1 s.vm h0 s.vm T_632.heap := CR_629.trans (CHr.keep K_634 (sfS (Safe.arv hZ.alike g_626 (by decide)) sf0) CH_628)
    have C_639 : Steps p.tables e below S0 (T_632.setTop (mkF m 288 #[.val (.int p0), .val (.long p1), .second, .val (.int p2), .val (.int p3), .val (.ref a_9), .val (.int (own_l20 p0)), .val (.long (own_Y p1)), .second, .val (.ref a_523), .unset, .unset, .unset, .unset, .unset, .unset, .unset, .unset, .unset, .unset, .unset, .unset, .unset] [(.int (12 : Int32)), (.long (own_Y p1)), (.ref a_9), (.ref a_523)])) := by
      refine C_575.trans ?_
      refine XS.iconst X_568.here hx rfl (hb hby at_210) ?_
      refine st_578 _ ?_
      refine XS.aload X_578.here hx rfl (hb hby at_214) rfl rfl ?_
      refine XS.aload X_578.here hx rfl (hb hby at_216) rfl rfl ?_
      refine XS.lload X_578.here hx rfl (hb hby at_218) rfl ?_
      refine XS.bipush X_578.here hx rfl (hb hby at_220) ?_
      refine st_587 _ ?_
      refine XS.aload X_587.here hx rfl (hb hby at_225) rfl rfl ?_
      show Steps p.tables e below (T_587.setTop (mkF m 227 #[.val (.int p0), .val (.long p1), .second, .val (.int p2), .val (.int p3), .val (.ref a_9), .val (.int (own_l20 p0)), .val (.long (own_Y p1)), .second, .val (.ref a_523), .unset, .unset, .unset, .unset, .unset, .unset, .unset, .unset, .unset, .unset, .unset, .unset, .unset] [(.ref a_523)])) _
      refine XS.aload X_587.here hx rfl (hb hby at_227) rfl rfl ?_
      refine XS.lload X_587.here hx rfl (hb hby at_229) rfl ?_
      refine XS.bipush X_587.here hx rfl (hb hby at_231) ?_
      refine st_596 _ ?_
      refine XS.aload X_596.here hx rfl (hb hby at_236) rfl rfl ?_
      refine XS.aload X_596.here hx rfl (hb hby at_238) rfl rfl ?_
      refine XS.lload X_596.here hx rfl (hb hby at_240) rfl ?_
      refine XS.bipush X_596.here hx rfl (hb hby at_242) ?_
      show Steps p.tables e below (T_596.setTop (mkF m 244 #[.val (.int p0), .val (.long p1), .second, .val (.int p2), .val (.int p3), .val (.ref a_9), .val (.int (own_l20 p0)), .val (.long (own_Y p1)), .second, .val (.ref a_523), .unset, .unset, .unset, .unset, .unset, .unset, .unset, .unset, .unset, .unset, .unset, .unset, .unset] [(.int (8 : Int32)), (.long (own_Y p1)), (.ref a_9), (.ref a_523)])) _
      refine st_605 _ ?_
      refine XS.aload X_605.here hx rfl (hb hby at_247) rfl rfl ?_
      refine XS.aload X_605.here hx rfl (hb hby at_249) rfl rfl ?_
      refine XS.lload X_605.here hx rfl (hb hby at_251) rfl ?_
      refine XS.bipush X_605.here hx rfl (hb hby at_253) ?_
      refine st_614 _ ?_
      refine XS.aload X_614.here hx rfl (hb hby at_258) rfl rfl ?_
      refine XS.aload X_614.here hx rfl (hb hby at_260) rfl rfl ?_
      show Steps p.tables e below (T_614.setTop (mkF m 262 #[.val (.int p0), .val (.long p1), .second, .val (.int p2), .val (.int p3), .val (.ref a_9), .val (.int (own_l20 p0)), .val (.long (own_Y p1)), .second, .val (.ref a_523), .unset, .unset, .unset, .unset, .unset, .unset, .unset, .unset, .unset, .unset, .unset, .unset, .unset] [(.ref a_9), (.ref a_523)])) _
      refine XS.lload X_614.here hx rfl (hb hby at_262) rfl ?_
      refine XS.bipush X_614.here hx rfl (hb hby at_264) ?_
      refine st_623 _ ?_
      refine XS.aload X_623.here hx rfl (hb hby at_269) rfl rfl ?_
      refine XS.aload X_623.here hx rfl (hb hby at_271) rfl rfl ?_
      refine XS.lload X_623.here hx rfl (hb hby at_273) rfl ?_
      refine XS.bipush X_623.here hx rfl (hb hby at_275) ?_
      refine st_632 _ ?_
      show Steps p.tables e below (T_632.setTop (mkF m 280 #[.val (.int p0), .val (.long p1), .second, .val (.int p2), .val (.int p3), .val (.ref a_9), .val (.int (own_l20 p0)), .val (.long (own_Y p1)), .second, .val (.ref a_523), .unset, .unset, .unset, .unset, .unset, .unset, .unset, .unset, .unset, .unset, .unset, .unset, .unset] [])) _
      refine XS.aload X_632.here hx rfl (hb hby at_280) rfl rfl ?_
      refine XS.aload X_632.here hx rfl (hb hby at_282) rfl rfl ?_
      refine XS.lload X_632.here hx rfl (hb hby at_284) rfl ?_
      refine XS.bipush X_632.here hx rfl (hb hby at_286) ?_
      exact Steps.refl _
    have V_640 : Arv Z T_632.heap a_9 k_3 .long (19 : Int32) (own_jv own_pws) (.long (0 : Int64)) := (V_630.keep K_634 (ninS (Nat.ne_of_lt (Nat.lt_of_lt_of_le V_359.lt (Nat.le_trans (Nat.le_refl _) (Nat.le_of_eq g_524.symm)))) nin0))
    have O_641 : Old Z n0 T_632.heap := (O_631.keep K_634 (allS (Nat.le_trans (own_n0 O_530) (Nat.le_of_eq g_524.symm)) all0))
    obtain ⟨_, _, ⟨T_642, L_642, k_642, n_642⟩, -, X_642, ⟨Lc_642, hQ_642, l_642, y_642, z_642⟩, st_642⟩ := Jvm.LawKit.callS X_632 hx (y := M232) hown (mvT hZ (w21 hw)) (mvT hZ (w22 hw)) (mvT hZ (w23 hw)) (mvT hZ (w24 hw)) (by decide) (backOf (W := 0) (rm_put l Z a0 hw [] G1 G3 HG T_632.heap n0 O_641 a_523 k_517 a_9 k_3 (own_Y p1) (own_l20 p0) (12 : Int32) ((((((((((((0 + 1) + 1) + 1) + 1) + 1) + 1) + 1) + 1) + 1) + 1) + 1) + 1) g_635 V_640 (Nat.le_trans (own_n0 O_530) (Nat.le_of_eq g_524.symm)) (own_Y0 p1) (by decide) (own_l19 p0) (by decide)) hZ (w24 hw) (w23 hw) (by decide) (by decide)) (g := (mkF m 288 #[.val (.int p0), .val (.long p1), .second, .val (.int p2), .val (.int p3), .val (.ref a_9), .val (.int (own_l20 p0)), .val (.long (own_Y p1)), .second, .val (.ref a_523), .unset, .unset, .unset, .unset, .unset, .unset, .unset, .unset, .unset, .unset, .unset, .unset, .unset] [(.int (12 : Int32)), (.long (own_Y p1)), (.ref a_9), (.ref a_523)])) rfl (by rw [hml]; rfl) (argsL := [(.ref a_523), (.ref a_9), (.long (own_Y p1)), (.int (12 : Int32))]) (rest := []) (lenOf pd_358 rfl) rfl (by show 2 * 0 + _ ≤ _; exact Nat.le_of_eq rfl) (hb hby at_288) (fun _ _ => ⟨rfl, rfl, (by decide : 2 + 0 ≤ _), (by decide : 38 + 0 ≤ _)⟩)
    dsimp only [Pt.U, Pt.locs, Pt.cells, Pt.slots] at X_642 l_642 y_642 z_642 st_642 hQ_642
    have X_642 := own_cast X_642 l_642 y_642 z_642
    obtain ⟨rfl, N_643, K_644, g_645⟩ := hQ_642
    have N_646 := Fr.app N_636 N_643
    have CH_647 : CHv Z consts_1 s.vm T_642.heap := CHv.keep K_644 (sfS (Safe.arv hZ.alike g_635 (by decide)) sf0) CH_637
    have CR_648 : CHr Z consts_1 s.vm h0 s.vm T_642.heap := CR_638.trans (CHr.keep K_644 (sfS (Safe.arv hZ.alike g_635 (by decide)) sf0) CH_637)
    have V_649 : Arv Z T_642.heap a_9 k_3 .long (19 : Int32) (own_jv own_pws) (.long (0 : Int64)) := (V_640.keep K_644 (ninS (Nat.ne_of_lt (Nat.lt_of_lt_of_le V_359.lt (Nat.le_trans (Nat.le_refl _) (Nat.le_of_eq g_524.symm)))) nin0))
    have O_650 : Old Z n0 T_642.heap := (O_641.keep K_644 (allS (Nat.le_trans (own_n0 O_530) (Nat.le_of_eq g_524.symm)) all0))
    obtain ⟨_, _, ⟨T_651, L_651, k_651, n_651⟩, -, X_651, ⟨Lc_651, hQ_651, l_651, y_651, z_651⟩, st_651⟩ := Jvm.LawKit.callS X_642 hx (y := M232) hown (mvT hZ (w21 hw)) (mvT hZ (w22 hw)) (mvT hZ (w23 hw)) (mvT hZ (w24 hw)) (by decide) (backOf (W := 0) (rm_put l Z a0 hw [] G1 G3 HG T_642.heap n0 O_650 a_523 k_517 a_9 k_3 (own_Y p1) (own_l20 p0) (13 : Int32) (((((((((((((0 + 1) + 1) + 1) + 1) + 1) + 1) + 1) + 1) + 1) + 1) + 1) + 1) + 1) g_645 V_649 (Nat.le_trans (own_n0 O_530) (Nat.le_of_eq g_524.symm)) (own_Y0 p1) (by decide) (own_l19 p0) (by decide)) hZ (w24 hw) (w23 hw) (by decide) (by decide)) (g := (mkF m 299 #[.val (.int p0), .val (.long p1), .second, .val (.int p2), .val (.int p3), .val (.ref a_9), .val (.int (own_l20 p0)), .val (.long (own_Y p1)), .second, .val (.ref a_523), .unset, .unset, .unset, .unset, .unset, .unset, .unset, .unset, .unset, .unset, .unset, .unset, .unset] [(.int (13 : Int32)), (.long (own_Y p1)), (.ref a_9), (.ref a_523)])) rfl (by rw [hml]; rfl) (argsL := [(.ref a_523), (.ref a_9), (.long (own_Y p1)), (.int (13 : Int32))]) (rest := []) (lenOf pd_358 rfl) rfl (by show 2 * 0 + _ ≤ _; exact Nat.le_of_eq rfl) (hb hby at_299) (fun _ _ => ⟨rfl, rfl, (by decide : 2 + 0 ≤ _), (by decide : 38 + 0 ≤ _)⟩)
    dsimp only [Pt.U, Pt.locs, Pt.cells, Pt.slots] at X_651 l_651 y_651 z_651 st_651 hQ_651
    have X_651 := own_cast X_651 l_651 y_651 z_651
    obtain ⟨rfl, N_652, K_653, g_654⟩ := hQ_651
    have N_655 := Fr.app N_646 N_652
    have CH_656 : CHv Z consts_1 s.vm T_651.heap := CHv.keep K_653 (sfS (Safe.arv hZ.alike g_645 (by decide)) sf0) CH_647
    have CR_657 : CHr Z consts_1 s.vm h0 s.vm T_651.heap := CR_648.trans (CHr.keep K_653 (sfS (Safe.arv hZ.alike g_645 (by decide)) sf0) CH_647)
    have V_658 : Arv Z T_651.heap a_9 k_3 .long (19 : Int32) (own_jv own_pws) (.long (0 : Int64)) := (V_649.keep K_653 (ninS (Nat.ne_of_lt (Nat.lt_of_lt_of_le V_359.lt (Nat.le_trans (Nat.le_refl _) (Nat.le_of_eq g_524.symm)))) nin0))
    have O_659 : Old Z n0 T_651.heap := (O_650.keep K_653 (allS (Nat.le_trans (own_n0 O_530) (Nat.le_of_eq g_524.symm)) all0))
    obtain ⟨_, _, ⟨T_660, L_660, k_660, n_660⟩, -, X_660, ⟨Lc_660, hQ_660, l_660, y_660, z_660⟩, st_660⟩ := Jvm.LawKit.callS X_651 hx (y := M232) hown (mvT hZ (w21 hw)) (mvT hZ (w22 hw)) (mvT hZ (w23 hw)) (mvT hZ (w24 hw)) (by decide) (backOf (W := 0) (rm_put l Z a0 hw [] G1 G3 HG T_651.heap n0 O_659 a_523 k_517 a_9 k_3 (own_Y p1) (own_l20 p0) (14 : Int32) ((((((((((((((0 + 1) + 1) + 1) + 1) + 1) + 1) + 1) + 1) + 1) + 1) + 1) + 1) + 1) + 1) g_654 V_658 (Nat.le_trans (own_n0 O_530) (Nat.le_of_eq g_524.symm)) (own_Y0 p1) (by decide) (own_l19 p0) (by decide)) hZ (w24 hw) (w23 hw) (by decide) (by decide)) (g := (mkF m 310 #[.val (.int p0), .val (.long p1), .second, .val (.int p2), .val (.int p3), .val (.ref a_9), .val (.int (own_l20 p0)), .val (.long (own_Y p1)), .second, .val (.ref a_523), .unset, .unset, .unset, .unset, .unset, .unset, .unset, .unset, .unset, .unset, .unset, .unset, .unset] [(.int (14 : Int32)), (.long (own_Y p1)), (.ref a_9), (.ref a_523)])) rfl (by rw [hml]; rfl) (argsL := [(.ref a_523), (.ref a_9), (.long (own_Y p1)), (.int (14 : Int32))]) (rest := []) (lenOf pd_358 rfl) rfl (by show 2 * 0 + _ ≤ _; exact Nat.le_of_eq rfl) (hb hby at_310) (fun _ _ => ⟨rfl, rfl, (by decide : 2 + 0 ≤ _), (by decide : 38 + 0 ≤ _)⟩)
    dsimp only [Pt.U, Pt.locs, Pt.cells, Pt.slots] at X_660 l_660 y_660 z_660 st_660 hQ_660
    have X_660 := own_cast X_660 l_660 y_660 z_660
    obtain ⟨rfl, N_661, K_662, g_663⟩ := hQ_660
    have N_664 := Fr.app N_655 N_661
    have CH_665 : CHv Z consts_1 s.vm T_660.heap := CHv.keep K_662 (sfS (Safe.arv hZ.alike g_654 (by decide)) sf0) CH_656
    have CR_666 : CHr Z consts_1 s.vm h0 s.vm T_660.heap := CR_657.trans (CHr.keep K_662 (sfS (Safe.arv hZ.alike g_654 (by decide)) sf0) CH_656)
    have V_667 : Arv Z T_660.heap a_9 k_3 .long (19 : Int32) (own_jv own_pws) (.long (0 : Int64)) := (V_658.keep K_662 (ninS (Nat.ne_of_lt (Nat.lt_of_lt_of_le V_359.lt (Nat.le_trans (Nat.le_refl _) (Nat.le_of_eq g_524.symm)))) nin0))
    have O_668 : Old Z n0 T_660.heap := (O_659.keep K_662 (allS (Nat.le_trans (own_n0 O_530) (Nat.le_of_eq g_524.symm)) all0))
    obtain ⟨_, _, ⟨T_669, L_669, k_669, n_669⟩, -, X_669, ⟨Lc_669, hQ_669, l_669, y_669, z_669⟩, st_669⟩ := Jvm.LawKit.callS X_660 hx (y := M232) hown (mvT hZ (w21 hw)) (mvT hZ (w22 hw)) (mvT hZ (w23 hw)) (mvT hZ (w24 hw)) (by decide) (backOf (W := 0) (rm_put l Z a0 hw [] G1 G3 HG T_660.heap n0 O_668 a_523 k_517 a_9 k_3 (own_Y p1) (own_l20 p0) (15 : Int32) (((((((((((((((0 + 1) + 1) + 1) + 1) + 1) + 1) + 1) + 1) + 1) + 1) + 1) + 1) + 1) + 1) + 1) g_663 V_667 (Nat.le_trans (own_n0 O_530) (Nat.le_of_eq g_524.symm)) (own_Y0 p1) (by decide) (own_l19 p0) (by decide)) hZ (w24 hw) (w23 hw) (by decide) (by decide)) (g := (mkF m 321 #[.val (.int p0), .val (.long p1), .second, .val (.int p2), .val (.int p3), .val (.ref a_9), .val (.int (own_l20 p0)), .val (.long (own_Y p1)), .second, .val (.ref a_523), .unset, .unset, .unset, .unset, .unset, .unset, .unset, .unset, .unset, .unset, .unset, .unset, .unset] [(.int (15 : Int32)), (.long (own_Y p1)), (.ref a_9), (.ref a_523)])) rfl (by rw [hml]; rfl) (argsL := [(.ref a_523), (.ref a_9), (.long (own_Y p1)), (.int (15 : Int32))]) (rest := []) (lenOf pd_358 rfl) rfl (by show 2 * 0 + _ ≤ _; exact Nat.le_of_eq rfl) (hb hby at_321) (fun _ _ => ⟨rfl, rfl, (by decide : 2 + 0 ≤ _), (by decide : 38 + 0 ≤ _)⟩)
    dsimp only [Pt.U, Pt.locs, Pt.cells, Pt.slots] at X_669 l_669 y_669 z_669 st_669 hQ_669
    have X_669 := own_cast X_669 l_669 y_669 z_669
    obtain ⟨rfl, N_670, K_671, g_672⟩ := hQ_669
    have N_673 := Fr.app N_664 N_670
    have CH_674 : CHv Z consts_1 s.vm T_669.heap := CHv.keep K_671 (sfS (Safe.arv hZ.alike g_663 (by decide)) sf0) CH_665
    have CR_675 : CHr Z consts_1 s.vm h0 s.vm T_669.heap := CR_666.trans (CHr.keep K_671 (sfS (Safe.arv hZ.alike g_663 (by decide)) sf0) CH_665)
    have V_676 : Arv Z T_669.heap a_9 k_3 .long (19 : Int32) (own_jv own_pws) (.long (0 : Int64)) := (V_667.keep K_671 (ninS (Nat.ne_of_lt (Nat.lt_of_lt_of_le V_359.lt (Nat.le_trans (Nat.le_refl _) (Nat.le_of_eq g_524.symm)))) nin0))
    have O_677 : Old Z n0 T_669.heap := (O_668.keep K_671 (allS (Nat.le_trans (own_n0 O_530) (Nat.le_of_eq g_524.symm)) all0))
    obtain ⟨_, _, ⟨T_678, L_678, k_678, n_678⟩, -, X_678, ⟨Lc_678, hQ_678, l_678, y_678, z_678⟩, st_678⟩ := Jvm.LawKit.callS X_669 hx (y := M232) hown (mvT hZ (w21 hw)) (mvT hZ (w22 hw)) (mvT hZ (w23 hw)) (mvT hZ (w24 hw)) (by decide) (backOf (W := 0) (rm_put l Z a0 hw [] G1 G3 HG T_669.heap n0 O_677 a_523 k_517 a_9 k_3 (own_Y p1) (own_l20 p0) (16 : Int32) ((((((((((((((((0 + 1) + 1) + 1) + 1) + 1) + 1) + 1) + 1) + 1) + 1) + 1) + 1) + 1) + 1) + 1) + 1) g_672 V_676 (Nat.le_trans (own_n0 O_530) (Nat.le_of_eq g_524.symm)) (own_Y0 p1) (by decide) (own_l19 p0) (by decide)) hZ (w24 hw) (w23 hw) (by decide) (by decide)) (g := (mkF m 332 #[.val (.int p0), .val (.long p1), .second, .val (.int p2), .val (.int p3), .val (.ref a_9), .val (.int (own_l20 p0)), .val (.long (own_Y p1)), .second, .val (.ref a_523), .unset, .unset, .unset, .unset, .unset, .unset, .unset, .unset, .unset, .unset, .unset, .unset, .unset] [(.int (16 : Int32)), (.long (own_Y p1)), (.ref a_9), (.ref a_523)])) rfl (by rw [hml]; rfl) (argsL := [(.ref a_523), (.ref a_9), (.long (own_Y p1)), (.int (16 : Int32))]) (rest := []) (lenOf pd_358 rfl) rfl (by show 2 * 0 + _ ≤ _; exact Nat.le_of_eq rfl) (hb hby at_332) (fun _ _ => ⟨rfl, rfl, (by decide : 2 + 0 ≤ _), (by decide : 38 + 0 ≤ _)⟩)
    dsimp only [Pt.U, Pt.locs, Pt.cells, Pt.slots] at X_678 l_678 y_678 z_678 st_678 hQ_678
    have X_678 := own_cast X_678 l_678 y_678 z_678
    obtain ⟨rfl, N_679, K_680, g_681⟩ := hQ_678
    have N_682 := Fr.app N_673 N_679
    have CH_683 : CHv Z consts_1 s.vm T_678.heap := CHv.keep K_680 (sfS (Safe.arv hZ.alike g_672 (by decide)) sf0) CH_674
    have CR_684 : CHr Z consts_1 s.vm h0 s.vm T_678.heap := CR_675.trans (CHr.keep K_680 (sfS (Safe.arv hZ.alike g_672 (by decide)) sf0) CH_674)
    have V_685 : Arv Z T_678.heap a_9 k_3 .long (19 : Int32) (own_jv own_pws) (.long (0 : Int64)) := (V_676.keep K_680 (ninS (Nat.ne_of_lt (Nat.lt_of_lt_of_le V_359.lt (Nat.le_trans (Nat.le_refl _) (Nat.le_of_eq g_524.symm)))) nin0))
    have O_686 : Old Z n0 T_678.heap := (O_677.keep K_680 (allS (Nat.le_trans (own_n0 O_530) (Nat.le_of_eq g_524.symm)) all0))
    obtain ⟨_, _, ⟨T_687, L_687, k_687, n_687⟩, -, X_687, ⟨Lc_687, hQ_687, l_687, y_687, z_687⟩, st_687⟩ := Jvm.LawKit.callS X_678 hx (y := M232) hown (mvT hZ (w21 hw)) (mvT hZ (w22 hw)) (mvT hZ (w23 hw)) (mvT hZ (w24 hw)) (by decide) (backOf (W := 0) (rm_put l Z a0 hw [] G1 G3 HG T_678.heap n0 O_686 a_523 k_517 a_9 k_3 (own_Y p1) (own_l20 p0) (17 : Int32) (((((((((((((((((0 + 1) + 1) + 1) + 1) + 1) + 1) + 1) + 1) + 1) + 1) + 1) + 1) + 1) + 1) + 1) + 1) + 1) g_681 V_685 (Nat.le_trans (own_n0 O_530) (Nat.le_of_eq g_524.symm)) (own_Y0 p1) (by decide) (own_l19 p0) (by decide)) hZ (w24 hw) (w23 hw) (by decide) (by decide)) (g := (mkF m 343 #[.val (.int p0), .val (.long p1), .second, .val (.int p2), .val (.int p3), .val (.ref a_9), .val (.int (own_l20 p0)), .val (.long (own_Y p1)), .second, .val (.ref a_523), .unset, .unset, .unset, .unset, .unset, .unset, .unset, .unset, .unset, .unset, .unset, .unset, .unset] [(.int (17 : Int32)), (.long (own_Y p1)), (.ref a_9), (.ref a_523)])) rfl (by rw [hml]; rfl) (argsL := [(.ref a_523), (.ref a_9), (.long (own_Y p1)), (.int (17 : Int32))]) (rest := []) (lenOf pd_358 rfl) rfl (by show 2 * 0 + _ ≤ _; exact Nat.le_of_eq rfl) (hb hby at_343) (fun _ _ => ⟨rfl, rfl, (by decide : 2 + 0 ≤ _), (by decide : 38 + 0 ≤ _)⟩)
    dsimp only [Pt.U, Pt.locs, Pt.cells, Pt.slots] at X_687 l_687 y_687 z_687 st_687 hQ_687
    have X_687 := own_cast X_687 l_687 y_687 z_687
    obtain ⟨rfl, N_688, K_689, g_690⟩ := hQ_687
    have N_691 := Fr.app N_682 N_688
    have CH_692 : CHv Z consts_1 s.vm T_687.heap := CHv.keep K_689 (sfS (Safe.arv hZ.alike g_681 (by decide)) sf0) CH_683
    have CR_693 : CHr Z consts_1 s.vm h0 s.vm T_687.heap := CR_684.trans (CHr.keep K_689 (sfS (Safe.arv hZ.alike g_681 (by decide)) sf0) CH_683)
    have V_694 : Arv Z T_687.heap a_9 k_3 .long (19 : Int32) (own_jv own_pws) (.long (0 : Int64)) := (V_685.keep K_689 (ninS (Nat.ne_of_lt (Nat.lt_of_lt_of_le V_359.lt (Nat.le_trans (Nat.le_refl _) (Nat.le_of_eq g_524.symm)))) nin0))
    have O_695 : Old Z n0 T_687.heap := (O_686.keep K_689 (allS (Nat.le_trans (own_n0 O_530) (Nat.le_of_eq g_524.symm)) all0))
    obtain ⟨_, _, ⟨T_696, L_696, k_696, n_696⟩, -, X_696, ⟨Lc_696, hQ_696, l_696, y_696, z_696⟩, st_696⟩ := Jvm.LawKit.callS X_687 hx (y := M232) hown (mvT hZ (w21 hw)) (mvT hZ (w22 hw)) (mvT hZ (w23 hw)) (mvT hZ (w24 hw)) (by decide) (backOf (W := 0) (rm_put l Z a0 hw [] G1 G3 HG T_687.heap n0 O_695 a_523 k_517 a_9 k_3 (own_Y p1) (own_l20 p0) (18 : Int32) ((((((((((((((((((0 + 1) + 1) + 1) + 1) + 1) + 1) + 1) + 1) + 1) + 1) + 1) + 1) + 1) + 1) + 1) + 1) + 1) + 1) g_690 V_694 (Nat.le_trans (own_n0 O_530) (Nat.le_of_eq g_524.symm)) (own_Y0 p1) (by decide) (own_l19 p0) (by decide)) hZ (w24 hw) (w23 hw) (by decide) (by decide)) (g := (mkF m 354 #[.val (.int p0), .val (.long p1), .second, .val (.int p2), .val (.int p3), .val (.ref a_9), .val (.int (own_l20 p0)), .val (.long (own_Y p1)), .second, .val (.ref a_523), .unset, .unset, .unset, .unset, .unset, .unset, .unset, .unset, .unset, .unset, .unset, .unset, .unset] [(.int (18 : Int32)), (.long (own_Y p1)), (.ref a_9), (.ref a_523)])) rfl (by rw [hml]; rfl) (argsL := [(.ref a_523), (.ref a_9), (.long (own_Y p1)), (.int (18 : Int32))]) (rest := []) (lenOf pd_358 rfl) rfl (by show 2 * 0 + _ ≤ _; exact Nat.le_of_eq rfl) (hb hby at_354) (fun _ _ => ⟨rfl, rfl, (by decide : 2 + 0 ≤ _), (by decide : 38 + 0 ≤ _)⟩)
    dsimp only [Pt.U, Pt.locs, Pt.cells, Pt.slots] at X_696 l_696 y_696 z_696 st_696 hQ_696
    have X_696 := own_cast X_696 l_696 y_696 z_696
    obtain ⟨rfl, N_697, K_698, g_699⟩ := hQ_696
    have N_700 := Fr.app N_691 N_697
    have CH_701 : CHv Z consts_1 s.vm T_696.heap := CHv.keep K_698 (sfS (Safe.arv hZ.alike g_690 (by decide)) sf0) CH_692
    have CR_702 : CHr Z consts_1 s.vm h0 s.vm T_696.heap := CR_693.trans (CHr.keep K_698 (sfS (Safe.arv hZ.alike g_690 (by decide)) sf0) CH_692)
    have K_703 : Keep h0 T_696.heap [] := (((((((((((((((((((((((((((((((((((((((((Keep.refl _ _).ext E_6).wr W_26 (Or.inr (Nat.le_trans (Nat.le_refl _) (Nat.le_of_eq g_10.symm)))).wr W_44 (Or.inr (Nat.le_trans (Nat.le_refl _) (Nat.le_of_eq g_10.symm)))).wr W_62 (Or.inr (Nat.le_trans (Nat.le_refl _) (Nat.le_of_eq g_10.symm)))).wr W_80 (Or.inr (Nat.le_trans (Nat.le_refl _) (Nat.le_of_eq g_10.symm)))).wr W_98 (Or.inr (Nat.le_trans (Nat.le_refl _) (Nat.le_of_eq g_10.symm)))).wr W_116 (Or.inr (Nat.le_trans (Nat.le_refl _) (Nat.le_of_eq g_10.symm)))).wr W_134 (Or.inr (Nat.le_trans (Nat.le_refl _) (Nat.le_of_eq g_10.symm)))).wr W_152 (Or.inr (Nat.le_trans (Nat.le_refl _) (Nat.le_of_eq g_10.symm)))).wr W_171 (Or.inr (Nat.le_trans (Nat.le_refl _) (Nat.le_of_eq g_10.symm)))).wr W_189 (Or.inr (Nat.le_trans (Nat.le_refl _) (Nat.le_of_eq g_10.symm)))).wr W_207 (Or.inr (Nat.le_trans (Nat.le_refl _) (Nat.le_of_eq g_10.symm)))).wr W_225 (Or.inr (Nat.le_trans (Nat.le_refl _) (Nat.le_of_eq g_10.symm)))).wr W_243 (Or.inr (Nat.le_trans (Nat.le_refl _) (Nat.le_of_eq g_10.symm)))).wr W_261 (Or.inr (Nat.le_trans (Nat.le_refl _) (Nat.le_of_eq g_10.symm)))).wr W_279 (Or.inr (Nat.le_trans (Nat.le_refl _) (Nat.le_of_eq g_10.symm)))).wr W_297 (Or.inr (Nat.le_trans (Nat.le_refl _) (Nat.le_of_eq g_10.symm)))).wr W_315 (Or.inr (Nat.le_trans (Nat.le_refl _) (Nat.le_of_eq g_10.symm)))).wr W_334 (Or.inr (Nat.le_trans (Nat.le_refl _) (Nat.le_of_eq g_10.symm)))).wr W_352 (Or.inr (Nat.le_trans (Nat.le_refl _) (Nat.le_of_eq g_10.symm)))).ext E_520).trans K_534 (allS (Or.inr (Nat.le_trans (Nat.le_trans (Nat.le_trans (Nat.le_trans (Nat.le_trans (Nat.le_trans (Nat.le_trans (Nat.le_trans (Nat.le_trans (Nat.le_trans (Nat.le_trans (Nat.le_trans (Nat.le_trans (Nat.le_trans (Nat.le_trans (Nat.le_trans (Nat.le_trans (Nat.le_trans (Nat.le_trans (Nat.le_trans E_6.1 (Keep.of_wr W_26).1) (Keep.of_wr W_44).1) (Keep.of_wr W_62).1) (Keep.of_wr W_80).1) (Keep.of_wr W_98).1) (Keep.of_wr W_116).1) (Keep.of_wr W_134).1) (Keep.of_wr W_152).1) (Keep.of_wr W_171).1) (Keep.of_wr W_189).1) (Keep.of_wr W_207).1) (Keep.of_wr W_225).1) (Keep.of_wr W_243).1) (Keep.of_wr W_261).1) (Keep.of_wr W_279).1) (Keep.of_wr W_297).1) (Keep.of_wr W_315).1) (Keep.of_wr W_334).1) (Keep.of_wr W_352).1) (Nat.le_of_eq g_524.symm))) all0)).trans K_543 (allS (Or.inr (Nat.le_trans (Nat.le_trans (Nat.le_trans (Nat.le_trans (Nat.le_trans (Nat.le_trans (Nat.le_trans (Nat.le_trans (Nat.le_trans (Nat.le_trans (Nat.le_trans (Nat.le_trans (Nat.le_trans (Nat.le_trans (Nat.le_trans (Nat.le_trans (Nat.le_trans (Nat.le_trans (Nat.le_trans (Nat.le_trans E_6.1 (Keep.of_wr W_26).1) (Keep.of_wr W_44).1) (Keep.of_wr W_62).1) (Keep.of_wr W_80).1) (Keep.of_wr W_98).1) (Keep.of_wr W_116).1) (Keep.of_wr W_134).1) (Keep.of_wr W_152).1) (Keep.of_wr W_171).1) (Keep.of_wr W_189).1) (Keep.of_wr W_207).1) (Keep.of_wr W_225).1) (Keep.of_wr W_243).1) (Keep.of_wr W_261).1) (Keep.of_wr W_279).1) (Keep.of_wr W_297).1) (Keep.of_wr W_315).1) (Keep.of_wr W_334).1) (Keep.of_wr W_352).1) (Nat.le_of_eq g_524.symm))) all0)).trans K_552 (allS (Or.inr (Nat.le_trans (Nat.le_trans (Nat.le_trans (Nat.le_trans (Nat.le_trans (Nat.le_trans (Nat.le_trans (Nat.le_trans (Nat.le_trans (Nat.le_trans (Nat.le_trans (Nat.le_trans (Nat.le_trans (Nat.le_trans (Nat.le_trans (Nat.le_trans (Nat.le_trans (Nat.le_trans (Nat.le_trans (Nat.le_trans E_6.1 (Keep.of_wr W_26).1) (Keep.of_wr W_44).1) (Keep.of_wr W_62).1) (Keep.of_wr W_80).1) (Keep.of_wr W_98).1) (Keep.of_wr W_116).1) (Keep.of_wr W_134).1) (Keep.of_wr W_152).1) (Keep.of_wr W_171).1) (Keep.of_wr W_189).1) (Keep.of_wr W_207).1) (Keep.of_wr W_225).1) (Keep.of_wr W_243).1) (Keep.of_wr W_261).1) (Keep.of_wr W_279).1) (Keep.of_wr W_297).1) (Keep.of_wr W_315).1) (Keep.of_wr W_334).1) (Keep.of_wr W_352).1) (Nat.le_of_eq g_524.symm))) all0)).trans K_561 (allS (Or.inr (Nat.le_trans (Nat.le_trans (Nat.le_trans (Nat.le_trans (Nat.le_trans (Nat.le_trans (Nat.le_trans (Nat.le_trans (Nat.le_trans (Nat.le_trans (Nat.le_trans (Nat.le_trans (Nat.le_trans (Nat.le_trans (Nat.le_trans (Nat.le_trans (Nat.le_trans (Nat.le_trans (Nat.le_trans (Nat.le_trans E_6.1 (Keep.of_wr W_26).1) (Keep.of_wr W_44).1) (Keep.of_wr W_62).1) (Keep.of_wr W_80).1) (Keep.of_wr W_98).1) (Keep.of_wr W_116).1) (Keep.of_wr W_134).1) (Keep.of_wr W_152).1) (Keep.of_wr W_171).1) (Keep.of_wr W_189).1) (Keep.of_wr W_207).1) (Keep.of_wr W_225).1) (Keep.of_wr W_243).1) (Keep.of_wr W_261).1) (Keep.of_wr W_279).1) (Keep.of_wr W_297).1) (Keep.of_wr W_315).1) (Keep.of_wr W_334).1) (Keep.of_wr W_352).1) (Nat.le_of_eq g_524.symm))) all0)).trans K_570 (allS (Or.inr (Nat.le_trans (Nat.le_trans (Nat.le_trans (Nat.le_trans (Nat.le_trans (Nat.le_trans (Nat.le_trans (Nat.le_trans (Nat.le_trans (Nat.le_trans (Nat.le_trans (Nat.le_trans (Nat.le_trans (Nat.le_trans (Nat.le_trans (Nat.le_trans (Nat.le_trans (Nat.le_trans (Nat.le_trans (Nat.le_trans E_6.1 (Keep.of_wr W_26).1) (Keep.of_wr W_44).1) (Keep.of_wr W_62).1) (Keep.of_wr W_80).1) (Keep.of_wr W_98).1) (Keep.of_wr W_116).1) (Keep.of_wr W_134).1) (Keep.of_wr W_152).1) (Keep.of_wr W_171).1) (Keep.of_wr W_189).1) (Keep.of_wr W_207).1) (Keep.of_wr W_225).1) (Keep.of_wr W_243).1) (Keep.of_wr W_261).1) (Keep.of_wr W_279).1) (Keep.of_wr W_297).1) (Keep.of_wr W_315).1) (Keep.of_wr W_334).1) (Keep.of_wr W_352).1) (Nat.le_of_eq g_524.symm))) all0)).trans K_580 (allS (Or.inr (Nat.le_trans (Nat.le_trans (Nat.le_trans (Nat.le_trans (Nat.le_trans (Nat.le_trans (Nat.le_trans (Nat.le_trans (Nat.le_trans (Nat.le_trans (Nat.le_trans (Nat.le_trans (Nat.le_trans (Nat.le_trans (Nat.le_trans (Nat.le_trans (Nat.le_trans (Nat.le_trans (Nat.le_trans (Nat.le_trans E_6.1 (Keep.of_wr W_26).1) (Keep.of_wr W_44).1) (Keep.of_wr W_62).1) (Keep.of_wr W_80).1) (Keep.of_wr W_98).1) (Keep.of_wr W_116).1) (Keep.of_wr W_134).1) (Keep.of_wr W_152).1) (Keep.of_wr W_171).1) (Keep.of_wr W_189).1) (Keep.of_wr W_207).1) (Keep.of_wr W_225).1) (Keep.of_wr W_243).1) (Keep.of_wr W_261).1) (Keep.of_wr W_279).1) (Keep.of_wr W_297).1) (Keep.of_wr W_315).1) (Keep.of_wr W_334).1) (Keep.of_wr W_352).1) (Nat.le_of_eq g_524.symm))) all0)).trans K_589 (allS (Or.inr (Nat.le_trans (Nat.le_trans (Nat.le_trans (Nat.le_trans (Nat.le_trans (Nat.le_trans (Nat.le_trans (Nat.le_trans (Nat.le_trans (Nat.le_trans (Nat.le_trans (Nat.le_trans (Nat.le_trans (Nat.le_trans (Nat.le_trans (Nat.le_trans (Nat.le_trans (Nat.le_trans (Nat.le_trans (Nat.le_trans E_6.1 (Keep.of_wr W_26).1) (Keep.of_wr W_44).1) (Keep.of_wr W_62).1) (Keep.of_wr W_80).1) (Keep.of_wr W_98).1) (Keep.of_wr W_116).1) (Keep.of_wr W_134).1) (Keep.of_wr W_152).1) (Keep.of_wr W_171).1) (Keep.of_wr W_189).1) (Keep.of_wr W_207).1) (Keep.of_wr W_225).1) (Keep.of_wr W_243).1) (Keep.of_wr W_261).1) (Keep.of_wr W_279).1) (Keep.of_wr W_297).1) (Keep.of_wr W_315).1) (Keep.of_wr W_334).1) (Keep.of_wr W_352).1) (Nat.le_of_eq g_524.symm))) all0)).trans K_598 (allS (Or.inr (Nat.le_trans (Nat.le_trans (Nat.le_trans (Nat.le_trans (Nat.le_trans (Nat.le_trans (Nat.le_trans (Nat.le_trans (Nat.le_trans (Nat.le_trans (Nat.le_trans (Nat.le_trans (Nat.le_trans (Nat.le_trans (Nat.le_trans (Nat.le_trans (Nat.le_trans (Nat.le_trans (Nat.le_trans (Nat.le_trans E_6.1 (Keep.of_wr W_26).1) (Keep.of_wr W_44).1) (Keep.of_wr W_62).1) (Keep.of_wr W_80).1) (Keep.of_wr W_98).1) (Keep.of_wr W_116).1) (Keep.of_wr W_134).1) (Keep.of_wr W_152).1) (Keep.of_wr W_171).1) (Keep.of_wr W_189).1) (Keep.of_wr W_207).1) (Keep.of_wr W_225).1) (Keep.of_wr W_243).1) (Keep.of_wr W_261).1) (Keep.of_wr W_279).1) (Keep.of_wr W_297).1) (Keep.of_wr W_315).1) (Keep.of_wr W_334).1) (Keep.of_wr W_352).1) (Nat.le_of_eq g_524.symm))) all0)).trans K_607 (allS (Or.inr (Nat.le_trans (Nat.le_trans (Nat.le_trans (Nat.le_trans (Nat.le_trans (Nat.le_trans (Nat.le_trans (Nat.le_trans (Nat.le_trans (Nat.le_trans (Nat.le_trans (Nat.le_trans (Nat.le_trans (Nat.le_trans (Nat.le_trans (Nat.le_trans (Nat.le_trans (Nat.le_trans (Nat.le_trans (Nat.le_trans E_6.1 (Keep.of_wr W_26).1) (Keep.of_wr W_44).1) (Keep.of_wr W_62).1) (Keep.of_wr W_80).1) (Keep.of_wr W_98).1) (Keep.of_wr W_116).1) (Keep.of_wr W_134).1) (Keep.of_wr W_152).1) (Keep.of_wr W_171).1) (Keep.of_wr W_189).1) (Keep.of_wr W_207).1) (Keep.of_wr W_225).1) (Keep.of_wr W_243).1) (Keep.of_wr W_261).1) (Keep.of_wr W_279).1) (Keep.of_wr W_297).1) (Keep.of_wr W_315).1) (Keep.of_wr W_334).1) (Keep.of_wr W_352).1) (Nat.le_of_eq g_524.symm))) all0)).trans K_616 (allS (Or.inr (Nat.le_trans (Nat.le_trans (Nat.le_trans (Nat.le_trans (Nat.le_trans (Nat.le_trans (Nat.le_trans (Nat.le_trans (Nat.le_trans (Nat.le_trans (Nat.le_trans (Nat.le_trans (Nat.le_trans (Nat.le_trans (Nat.le_trans (Nat.le_trans (Nat.le_trans (Nat.le_trans (Nat.le_trans (Nat.le_trans E_6.1 (Keep.of_wr W_26).1) (Keep.of_wr W_44).1) (Keep.of_wr W_62).1) (Keep.of_wr W_80).1) (Keep.of_wr W_98).1) (Keep.of_wr W_116).1) (Keep.of_wr W_134).1) (Keep.of_wr W_152).1) (Keep.of_wr W_171).1) (Keep.of_wr W_189).1) (Keep.of_wr W_207).1) (Keep.of_wr W_225).1) (Keep.of_wr W_243).1) (Keep.of_wr W_261).1) (Keep.of_wr W_279).1) (Keep.of_wr W_297).1) (Keep.of_wr W_315).1) (Keep.of_wr W_334).1) (Keep.of_wr W_352).1) (Nat.le_of_eq g_524.symm))) all0)).trans K_625 (allS (Or.inr (Nat.le_trans (Nat.le_trans (Nat.le_trans (Nat.le_trans (Nat.le_trans (Nat.le_trans (Nat.le_trans (Nat.le_trans (Nat.le_trans (Nat.le_trans (Nat.le_trans (Nat.le_trans (Nat.le_trans (Nat.le_trans (Nat.le_trans (Nat.le_trans (Nat.le_trans (Nat.le_trans (Nat.le_trans (Nat.le_trans E_6.1 (Keep.of_wr W_26).1) (Keep.of_wr W_44).1) (Keep.of_wr W_62).1) (Keep.of_wr W_80).1) (Keep.of_wr W_98).1) (Keep.of_wr W_116).1) (Keep.of_wr W_134).1) (Keep.of_wr W_152).1) (Keep.of_wr W_171).1) (Keep.of_wr W_189).1) (Keep.of_wr W_207).1) (Keep.of_wr W_225).1) (Keep.of_wr W_243).1) (Keep.of_wr W_261).1) (Keep.of_wr W_279).1) (Keep.of_wr W_297).1) (Keep.of_wr W_315).1) (Keep.of_wr W_334).1) (Keep.of_wr W_352).1) (Nat.le_of_eq g_524.symm))) all0)).trans K_634 (allS (Or.inr (Nat.le_trans (Nat.le_trans (Nat.le_trans (Nat.le_trans (Nat.le_trans (Nat.le_trans (Nat.le_trans (Nat.le_trans (Nat.le_trans (Nat.le_trans (Nat.le_trans (Nat.le_trans (Nat.le_trans (Nat.le_trans (Nat.le_trans (Nat.le_trans (Nat.le_trans (Nat.le_trans (Nat.le_trans (Nat.le_trans E_6.1 (Keep.of_wr W_26).1) (Keep.of_wr W_44).1) (Keep.of_wr W_62).1) (Keep.of_wr W_80).1) (Keep.of_wr W_98).1) (Keep.of_wr W_116).1) (Keep.of_wr W_134).1) (Keep.of_wr W_152).1) (Keep.of_wr W_171).1) (Keep.of_wr W_189).1) (Keep.of_wr W_207).1) (Keep.of_wr W_225).1) (Keep.of_wr W_243).1) (Keep.of_wr W_261).1) (Keep.of_wr W_279).1) (Keep.of_wr W_297).1) (Keep.of_wr W_315).1) (Keep.of_wr W_334).1) (Keep.of_wr W_352).1) (Nat.le_of_eq g_524.symm))) all0)).trans K_644 (allS (Or.inr (Nat.le_trans (Nat.le_trans (Nat.le_trans (Nat.le_trans (Nat.le_trans (Nat.le_trans (Nat.le_trans (Nat.le_trans (Nat.le_trans (Nat.le_trans (Nat.le_trans (Nat.le_trans (Nat.le_trans (Nat.le_trans (Nat.le_trans (Nat.le_trans (Nat.le_trans (Nat.le_trans (Nat.le_trans (Nat.le_trans E_6.1 (Keep.of_wr W_26).1) (Keep.of_wr W_44).1) (Keep.of_wr W_62).1) (Keep.of_wr W_80).1) (Keep.of_wr W_98).1) (Keep.of_wr W_116).1) (Keep.of_wr W_134).1) (Keep.of_wr W_152).1) (Keep.of_wr W_171).1) (Keep.of_wr W_189).1) (Keep.of_wr W_207).1) (Keep.of_wr W_225).1) (Keep.of_wr W_243).1) (Keep.of_wr W_261).1) (Keep.of_wr W_279).1) (Keep.of_wr W_297).1) (Keep.of_wr W_315).1) (Keep.of_wr W_334).1) (Keep.of_wr W_352).1) (Nat.le_of_eq g_524.symm))) all0)).trans K_653 (allS (Or.inr (Nat.le_trans (Nat.le_trans (Nat.le_trans (Nat.le_trans (Nat.le_trans (Nat.le_trans (Nat.le_trans (Nat.le_trans (Nat.le_trans (Nat.le_trans (Nat.le_trans (Nat.le_trans (Nat.le_trans (Nat.le_trans (Nat.le_trans (Nat.le_trans (Nat.le_trans (Nat.le_trans (Nat.le_trans (Nat.le_trans E_6.1 (Keep.of_wr W_26).1) (Keep.of_wr W_44).1) (Keep.of_wr W_62).1) (Keep.of_wr W_80).1) (Keep.of_wr W_98).1) (Keep.of_wr W_116).1) (Keep.of_wr W_134).1) (Keep.of_wr W_152).1) (Keep.of_wr W_171).1) (Keep.of_wr W_189).1) (Keep.of_wr W_207).1) (Keep.of_wr W_225).1) (Keep.of_wr W_243).1) (Keep.of_wr W_261).1) (Keep.of_wr W_279).1) (Keep.of_wr W_297).1) (Keep.of_wr W_315).1) (Keep.of_wr W_334).1) (Keep.of_wr W_352).1) (Nat.le_of_eq g_524.symm))) all0)).trans K_662 (allS (Or.inr (Nat.le_trans (Nat.le_trans (Nat.le_trans (Nat.le_trans (Nat.le_trans (Nat.le_trans (Nat.le_trans (Nat.le_trans (Nat.le_trans (Nat.le_trans (Nat.le_trans (Nat.le_trans (Nat.le_trans (Nat.le_trans (Nat.le_trans (Nat.le_trans (Nat.le_trans (Nat.le_trans (Nat.le_trans (Nat.le_trans E_6.1 (Keep.of_wr W_26).1) (Keep.of_wr W_44).1) (Keep.of_wr W_62).1) (Keep.of_wr W_80).1) (Keep.of_wr W_98).1) (Keep.of_wr W_116).1) (Keep.of_wr W_134).1) (Keep.of_wr W_152).1) (Keep.of_wr W_171).1) (Keep.of_wr W_189).1) (Keep.of_wr W_207).1) (Keep.of_wr W_225).1) (Keep.of_wr W_243).1) (Keep.of_wr W_261).1) (Keep.of_wr W_279).1) (Keep.of_wr W_297).1) (Keep.of_wr W_315).1) (Keep.of_wr W_334).1) (Keep.of_wr W_352).1) (Nat.le_of_eq g_524.symm))) all0)).trans K_671 (allS (Or.inr (Nat.le_trans (Nat.le_trans (Nat.le_trans (Nat.le_trans (Nat.le_trans (Nat.le_trans (Nat.le_trans (Nat.le_trans (Nat.le_trans (Nat.le_trans (Nat.le_trans (Nat.le_trans (Nat.le_trans (Nat.le_trans (Nat.le_trans (Nat.le_trans (Nat.le_trans (Nat.le_trans (Nat.le_trans (Nat.le_trans E_6.1 (Keep.of_wr W_26).1) (Keep.of_wr W_44).1) (Keep.of_wr W_62).1) (Keep.of_wr W_80).1) (Keep.of_wr W_98).1) (Keep.of_wr W_116).1) (Keep.of_wr W_134).1) (Keep.of_wr W_152).1) (Keep.of_wr W_171).1) (Keep.of_wr W_189).1) (Keep.of_wr W_207).1) (Keep.of_wr W_225).1) (Keep.of_wr W_243).1) (Keep.of_wr W_261).1) (Keep.of_wr W_279).1) (Keep.of_wr W_297).1) (Keep.of_wr W_315).1) (Keep.of_wr W_334).1) (Keep.of_wr W_352).1) (Nat.le_of_eq g_524.symm))) all0)).trans K_680 (allS (Or.inr (Nat.le_trans (Nat.le_trans (Nat.le_trans (Nat.le_trans (Nat.le_trans (Nat.le_trans (Nat.le_trans (Nat.le_trans (Nat.le_trans (Nat.le_trans (Nat.le_trans (Nat.le_trans (Nat.le_trans (Nat.le_trans (Nat.le_trans (Nat.le_trans (Nat.le_trans (Nat.le_trans (Nat.le_trans (Nat.le_trans E_6.1 (Keep.of_wr W_26).1) (Keep.of_wr W_44).1) (Keep.of_wr W_62).1) (Keep.of_wr W_80).1) (Keep.of_wr W_98).1) (Keep.of_wr W_116).1) (Keep.of_wr W_134).1) (Keep.of_wr W_152).1) (Keep.of_wr W_171).1) (Keep.of_wr W_189).1) (Keep.of_wr W_207).1) (Keep.of_wr W_225).1) (Keep.of_wr W_243).1) (Keep.of_wr W_261).1) (Keep.of_wr W_279).1) (Keep.of_wr W_297).1) (Keep.of_wr W_315).1) (Keep.of_wr W_334).1) (Keep.of_wr W_352).1) (Nat.le_of_eq g_524.symm))) all0)).trans K_689 (allS (Or.inr (Nat.le_trans (Nat.le_trans (Nat.le_trans (Nat.le_trans (Nat.le_trans (Nat.le_trans (Nat.le_trans (Nat.le_trans (Nat.le_trans (Nat.le_trans (Nat.le_trans (Nat.le_trans (Nat.le_trans (Nat.le_trans (Nat.le_trans (Nat.le_trans (Nat.le_trans (Nat.le_trans (Nat.le_trans (Nat.le_trans E_6.1 (Keep.of_wr W_26).1) (Keep.of_wr W_44).1) (Keep.of_wr W_62).1) (Keep.of_wr W_80).1) (Keep.of_wr W_98).1) (Keep.of_wr W_116).1) (Keep.of_wr W_134).1) (Keep.of_wr W_152).1) (Keep.of_wr W_171).1) (Keep.of_wr W_189).1) (Keep.of_wr W_207).1) (Keep.of_wr W_225).1) (Keep.of_wr W_243).1) (Keep.of_wr W_261).1) (Keep.of_wr W_279).1) (Keep.of_wr W_297).1) (Keep.of_wr W_315).1) (Keep.of_wr W_334).1) (Keep.of_wr W_352).1) (Nat.le_of_eq g_524.symm))) all0)).trans K_698 (allS (Or.inr (Nat.le_trans (Nat.le_trans (Nat.le_trans (Nat.le_trans (Nat.le_trans (Nat.le_trans (Nat.le_trans (Nat.le_trans (Nat.le_trans (Nat.le_trans (Nat.le_trans (Nat.le_trans (Nat.le_trans (Nat.le_trans (Nat.le_trans (Nat.le_trans (Nat.le_trans (Nat.le_trans (Nat.le_trans (Nat.le_trans E_6.1 (Keep.of_wr W_26).1) (Keep.of_wr W_44).1) (Keep.of_wr W_62).1) (Keep.of_wr W_80).1) (Keep.of_wr W_98).1) (Keep.of_wr W_116).1) (Keep.of_wr W_134).1) (Keep.of_wr W_152).1) (Keep.of_wr W_171).1) (Keep.of_wr W_189).1) (Keep.of_wr W_207).1) (Keep.of_wr W_225).1) (Keep.of_wr W_243).1) (Keep.of_wr W_261).1) (Keep.of_wr W_279).1) (Keep.of_wr W_297).1) (Keep.of_wr W_315).1) (Keep.of_wr W_334).1) (Keep.of_wr W_352).1) (Nat.le_of_eq g_524.symm))) all0))
    have V_704 : Arv Z T_696.heap a_523 k_517 .char (own_l20 p0) (own_iv (own_ds (own_Y p1) (own_l20 p0))) (.int (0 : Int32)) := g_699
    have C_705 : Steps p.tables e below S0 (T_696.setTop (mkF m 367 #[.val (.int p0), .val (.long p1), .second, .val (.int p2), .val (.int p3), .val (.ref a_9), .val (.int (own_l20 p0)), .val (.long (own_Y p1)), .second, .val (.ref a_523), .unset, .unset, .unset, .unset, .unset, .unset, .unset, .unset, .unset, .unset, .unset, .unset, .unset] [(.int (p0 &&& (256 : Int32)))])) := by
      refine C_639.trans ?_
      refine st_642 _ ?_
      refine XS.aload X_642.here hx rfl (hb hby at_291) rfl rfl ?_
      refine XS.aload X_642.here hx rfl (hb hby at_293) rfl rfl ?_
      refine XS.lload X_642.here hx rfl (hb hby at_295) rfl ?_
      refine XS.bipush X_642.here hx rfl (hb hby at_297) ?_
      refine st_651 _ ?_
      refine XS.aload X_651.here hx rfl (hb hby at_302) rfl rfl ?_
      refine XS.aload X_651.here hx rfl (hb hby at_304) rfl rfl ?_
      show Steps p.tables e below (T_651.setTop (mkF m 306 #[.val (.int p0), .val (.long p1), .second, .val (.int p2), .val (.int p3), .val (.ref a_9), .val (.int (own_l20 p0)), .val (.long (own_Y p1)), .second, .val (.ref a_523), .unset, .unset, .unset, .unset, .unset, .unset, .unset, .unset, .unset, .unset, .unset, .unset, .unset] [(.ref a_9), (.ref a_523)])) _
      refine XS.lload X_651.here hx rfl (hb hby at_306) rfl ?_
      refine XS.bipush X_651.here hx rfl (hb hby at_308) ?_
      refine st_660 _ ?_
      refine XS.aload X_660.here hx rfl (hb hby at_313) rfl rfl ?_
      refine XS.aload X_660.here hx rfl (hb hby at_315) rfl rfl ?_
      refine XS.lload X_660.here hx rfl (hb hby at_317) rfl ?_
      refine XS.bipush X_660.here hx rfl (hb hby at_319) ?_
      refine st_669 _ ?_
      show Steps p.tables e below (T_669.setTop (mkF m 324 #[.val (.int p0), .val (.long p1), .second, .val (.int p2), .val (.int p3), .val (.ref a_9), .val (.int (own_l20 p0)), .val (.long (own_Y p1)), .second, .val (.ref a_523), .unset, .unset, .unset, .unset, .unset, .unset, .unset, .unset, .unset, .unset, .unset, .unset, .unset] [])) _
      refine XS.aload X_669.here hx rfl (hb hby at_324) rfl rfl ?_
      refine XS.aload X_669.here hx rfl (hb hby at_326) rfl rfl ?_
      refine XS.lload X_669.here hx rfl (hb hby at_328) rfl ?_
      refine XS.bipush X_669.here hx rfl (hb hby at_330) ?_
      refine st_678 _ ?_
      refine XS.aload X_678.here hx rfl (hb hby at_335) rfl rfl ?_
      refine XS.aload X_678.here hx rfl (hb hby at_337) rfl rfl ?_
      refine XS.lload X_678.here hx rfl (hb hby at_339) rfl ?_
      show Steps p.tables e below (T_678.setTop (mkF m 341 #[.val (.int p0), .val (.long p1), .second, .val (.int p2), .val (.int p3), .val (.ref a_9), .val (.int (own_l20 p0)), .val (.long (own_Y p1)), .second, .val (.ref a_523), .unset, .unset, .unset, .unset, .unset, .unset, .unset, .unset, .unset, .unset, .unset, .unset, .unset] [(.long (own_Y p1)), (.ref a_9), (.ref a_523)])) _
      refine XS.bipush X_678.here hx rfl (hb hby at_341) ?_
      refine st_687 _ ?_
      refine XS.aload X_687.here hx rfl (hb hby at_346) rfl rfl ?_
      refine XS.aload X_687.here hx rfl (hb hby at_348) rfl rfl ?_
      refine XS.lload X_687.here hx rfl (hb hby at_350) rfl ?_
      refine XS.bipush X_687.here hx rfl (hb hby at_352) ?_
      refine st_696 _ ?_
      refine XS.iload X_696.here hx rfl (hb hby at_357) rfl ?_
      show Steps p.tables e below (T_696.setTop (mkF m 359 #[.val (.int p0), .val (.long p1), .second, .val (.int p2), .val (.int p3), .val (.ref a_9), .val (.int (own_l20 p0)), .val (.long (own_Y p1)), .second, .val (.ref a_523), .unset, .unset, .unset, .unset, .unset, .unset, .unset, .unset, .unset, .unset, .unset, .unset, .unset] [(.int (own_l20 p0))])) _
      refine XS.ifNo X_696.here hx rfl (hb hby at_359) rfl (i0_le_f hp_512) ?_
      refine XS.iloadN X_696.here hx rfl (hb hby at_362) rfl ?_
      refine XS.sipush X_696.here hx rfl (hb hby at_363) ?_
      refine XS.iand X_696.here hx rfl (hb hby at_366) rfl ?_
      exact Steps.refl _
    by_cases hc_706 : (p0 &&& (256 : Int32)) = (0 : Int32)
    · skip
      have C_707 : Steps p.tables e below S0 (T_696.setTop (mkF m 387 #[.val (.int p0), .val (.long p1), .second, .val (.int p2), .val (.int p3), .val (.ref a_9), .val (.int (own_l20 p0)), .val (.long (own_Y p1)), .second, .val (.ref a_523), .val (.int (0 : Int32)), .unset, .unset, .unset, .unset, .unset, .unset, .unset, .unset, .unset, .unset, .unset, .unset] [(.int (p0 &&& (512 : Int32)))])) := by
        refine C_705.trans ?_
        refine XS.ifYes X_696.here hx rfl (pc0 := 367) (pc' := 374) rfl (hb hby at_367) rfl (i0_eq_t hc_706) (by decide) (by decide) ?_
        refine XS.iconst X_696.here hx rfl (hb hby at_374) ?_
        refine XS.istore X_696.here hx rfl (hb hby at_375) rfl (l' := #[.val (.int p0), .val (.long p1), .second, .val (.int p2), .val (.int p3), .val (.ref a_9), .val (.int (own_l20 p0)), .val (.long (own_Y p1)), .second, .val (.ref a_523), .val (.int (0 : Int32)), .unset, .unset, .unset, .unset, .unset, .unset, .unset, .unset, .unset, .unset, .unset, .unset]) rfl ?_
        refine XS.iload X_696.here hx rfl (hb hby at_377) rfl ?_
        refine XS.ifNo X_696.here hx rfl (hb hby at_379) rfl (i0_le_f hp_512) ?_
        refine XS.iloadN X_696.here hx rfl (hb hby at_382) rfl ?_
        refine XS.sipush X_696.here hx rfl (hb hby at_383) ?_
        refine XS.iand X_696.here hx rfl (hb hby at_386) rfl ?_
        show Steps p.tables e below (T_696.setTop (mkF m 387 #[.val (.int p0), .val (.long p1), .second, .val (.int p2), .val (.int p3), .val (.ref a_9), .val (.int (own_l20 p0)), .val (.long (own_Y p1)), .second, .val (.ref a_523), .val (.int (0 : Int32)), .unset, .unset, .unset, .unset, .unset, .unset, .unset, .unset, .unset, .unset, .unset, .unset] [(.int (p0 &&& (512 : Int32)))])) _
        exact Steps.refl _
      by_cases hc_708 : (p0 &&& (512 : Int32)) = (0 : Int32)
      · skip
        obtain ⟨T_709, h_710, X_711, e_712, E_713, A_714, D_715, U_719, st_716⟩ := newO X_696 hx hZ hown (w25 hw) (w26 hw) (w27 hw) rfl (g := (mkF m 481 #[.val (.int p0), .val (.long p1), .second, .val (.int p2), .val (.int p3), .val (.ref a_9), .val (.int (own_l20 p0)), .val (.long (own_Y p1)), .second, .val (.ref a_523), .val (.int (0 : Int32)), .val (.int (0 : Int32)), .val (.int (0 : Int32)), .val (.int (0 : Int32)), .val (.int (own_cc p2)), .val (.int (own_cc p3)), .unset, .unset, .unset, .unset, .unset, .unset, .unset] [])) rfl (hb hby at_481) (by decide) (by decide)
        obtain ⟨a_717, g_718⟩ : ∃ z, z = T_696.heap.size := ⟨_, rfl⟩
        rw [← g_718] at A_714 D_715 st_716 U_719
        have CH_720 : CHv Z consts_1 s.vm h_710 := CHv.ext E_713 CH_701
        have CR_721 : CHr Z consts_1 s.vm h0 s.vm h_710 := CR_702.trans (CHr.ext E_713 CH_701)
        have O_722 : Old Z n0 T_696.heap := (O_695.keep K_698 (allS (Nat.le_trans (own_n0 O_530) (Nat.le_of_eq g_524.symm)) all0))
        have V_723 : Arv Z h_710 a_523 k_517 .char (own_l20 p0) (own_iv (own_ds (own_Y p1) (own_l20 p0))) (.int (0 : Int32)) := (V_704.ext E_713)
        have O_724 : Old Z n0 h_710 := (O_722.ext E_713)
        obtain ⟨_, _, ⟨T_725, L_725, k_725, n_725⟩, -, X_725, ⟨Lc_725, hQ_725, l_725, y_725, z_725⟩, st_725⟩ := X_711.specialBack hx (y := M99) rfl hown (mvT hZ (w28 hw)) (mvT hZ (w29 hw)) (mvT hZ (w30 hw)) (by decide) (backOf (W := 1) (rm_si1s l Z a0 hw [] G1 G3 HG h_710 n0 O_724 a_717 a_523 k_517 (own_l20 p0) (own_ds (own_Y p1) (own_l20 p0)) A_714 (D_715 (Or.inr (w40 hw)) (ty := (.array .byte)) (by decide)) (D_715 (Or.inr (w41 hw)) (ty := .byte) (by decide)) (Nat.le_trans (own_n0 O_722) (Nat.le_of_eq g_718.symm)) V_723 (own_l0 p0) hn_361 (own_lc p0) (own_dsl _ _) (own_dslat (own_l19 p0))) hZ (w30 hw) (w27 hw) (by decide) (by decide)) (g := (mkF m 487 #[.val (.int p0), .val (.long p1), .second, .val (.int p2), .val (.int p3), .val (.ref a_9), .val (.int (own_l20 p0)), .val (.long (own_Y p1)), .second, .val (.ref a_523), .val (.int (0 : Int32)), .val (.int (0 : Int32)), .val (.int (0 : Int32)), .val (.int (0 : Int32)), .val (.int (own_cc p2)), .val (.int (own_cc p3)), .unset, .unset, .unset, .unset, .unset, .unset, .unset] [(.ref a_523), (.ref a_717), (.ref a_717)])) rfl (by rw [hml]; rfl) (Steps.refl _) (a := a_717) (argsL := [(.ref a_523)]) (rest := [(.ref a_717)]) (lenOf pd_363 rfl) rfl (by show 2 * 0 + _ ≤ _; exact Nat.le_of_eq rfl) (hb hby at_487) (fun _ _ => ⟨rfl, e_712, (by decide : 3 + 1 ≤ _), (by decide : 42 + 19 ≤ _)⟩)
        dsimp only [Pt.U, Pt.locs, Pt.cells, Pt.slots] at X_725 l_725 y_725 z_725 st_725 hQ_725
        have X_725 := own_cast X_725 l_725 y_725 z_725
        obtain ⟨a_726, k_727, rfl, N_728, K_729, g_730, g_731, g_732, g_733, g_734⟩ := hQ_725
        have N_735 := Fr.app N_700 N_728
        have CH_736 : CHv Z consts_1 s.vm T_725.heap := CHv.keep K_729 (sfS (own_safe_null hZ.alike A_714 (D_715 (Or.inr (w40 hw)) (ty := (.array .byte)) (by decide))) sf0) CH_720
        have CR_737 : CHr Z consts_1 s.vm h0 s.vm T_725.heap := CR_721.trans (CHr.keep K_729 (sfS (own_safe_null hZ.alike A_714 (D_715 (Or.inr (w40 hw)) (ty := (.array .byte)) (by decide))) sf0) CH_720)
        have O_738 : Old Z n0 T_725.heap := (O_724.keep K_729 (allS (Nat.le_trans (own_n0 O_722) (Nat.le_of_eq g_718.symm)) all0))
        obtain ⟨_, _, ⟨T_739, L_739, k_739, n_739⟩, -, X_739, ⟨Lc_739, hQ_739, l_739, y_739, z_739⟩, st_739⟩ := Jvm.LawKit.callS X_725 hx (y := M269) hown (mvT hZ (w46 hw)) (mvT hZ (w47 hw)) (mvT hZ (w48 hw)) (mvT hZ (w49 hw)) (by decide) (backOf (W := 0) (rm_val l Z a0 hw [] G1 G3 HG T_725.heap n0 O_738 a_717 a_726 k_727 (own_l20 p0) (own_ds (own_Y p1) (own_l20 p0)) g_730 g_731 g_732 g_734 (own_l0 p0) (own_dsl _ _) (own_dslat (own_l19 p0))) hZ (w49 hw) (w48 hw) (by decide) (by decide)) (g := (mkF m 490 #[.val (.int p0), .val (.long p1), .second, .val (.int p2), .val (.int p3), .val (.ref a_9), .val (.int (own_l20 p0)), .val (.long (own_Y p1)), .second, .val (.ref a_523), .val (.int (0 : Int32)), .val (.int (0 : Int32)), .val (.int (0 : Int32)), .val (.int (0 : Int32)), .val (.int (own_cc p2)), .val (.int (own_cc p3)), .unset, .unset, .unset, .unset, .unset, .unset, .unset] [(.ref a_717)])) rfl (by rw [hml]; rfl) (argsL := [(.ref a_717)]) (rest := []) (lenOf pd_368 rfl) rfl (by show 2 * 0 + _ ≤ _; exact Nat.le_of_eq rfl) (hb hby at_490) (fun _ _ => ⟨rfl, rfl, (by decide : 4 + 0 ≤ _), (by decide : 61 + 0 ≤ _)⟩)
        dsimp only [Pt.U, Pt.locs, Pt.cells, Pt.slots] at X_739 l_739 y_739 z_739 st_739 hQ_739
        have X_739 := own_cast X_739 l_739 y_739 z_739
        obtain ⟨rfl, N_740, e_741⟩ := hQ_739
        have N_742 := Fr.app N_735 N_740
        have e_743 : T_739.heap = T_725.heap := e_741
        have K_744 : Keep h0 T_725.heap [] := ((K_703.ext E_713).trans K_729 (allS (Or.inr (Nat.le_trans (Nat.le_trans (Nat.le_trans (Nat.le_trans (Nat.le_trans (Nat.le_trans (Nat.le_trans (Nat.le_trans (Nat.le_trans (Nat.le_trans (Nat.le_trans (Nat.le_trans (Nat.le_trans (Nat.le_trans (Nat.le_trans (Nat.le_trans (Nat.le_trans (Nat.le_trans (Nat.le_trans (Nat.le_trans (Nat.le_trans (Nat.le_trans (Nat.le_trans (Nat.le_trans (Nat.le_trans (Nat.le_trans (Nat.le_trans (Nat.le_trans (Nat.le_trans (Nat.le_trans (Nat.le_trans (Nat.le_trans (Nat.le_trans (Nat.le_trans (Nat.le_trans (Nat.le_trans (Nat.le_trans (Nat.le_trans (Nat.le_trans (Nat.le_trans E_6.1 (Keep.of_wr W_26).1) (Keep.of_wr W_44).1) (Keep.of_wr W_62).1) (Keep.of_wr W_80).1) (Keep.of_wr W_98).1) (Keep.of_wr W_116).1) (Keep.of_wr W_134).1) (Keep.of_wr W_152).1) (Keep.of_wr W_171).1) (Keep.of_wr W_189).1) (Keep.of_wr W_207).1) (Keep.of_wr W_225).1) (Keep.of_wr W_243).1) (Keep.of_wr W_261).1) (Keep.of_wr W_279).1) (Keep.of_wr W_297).1) (Keep.of_wr W_315).1) (Keep.of_wr W_334).1) (Keep.of_wr W_352).1) E_520.1) K_534.1) K_543.1) K_552.1) K_561.1) K_570.1) K_580.1) K_589.1) K_598.1) K_607.1) K_616.1) K_625.1) K_634.1) K_644.1) K_653.1) K_662.1) K_671.1) K_680.1) K_689.1) K_698.1) (Nat.le_of_eq g_718.symm))) all0))
        have C_745 : Steps p.tables e below S0 (T_739.setTop (mkF m 521 #[.val (.int p0), .val (.long p1), .second, .val (.int p2), .val (.int p3), .val (.ref a_9), .val (.int (own_l20 p0)), .val (.long (own_Y p1)), .second, .val (.ref a_523), .val (.int (0 : Int32)), .val (.int (0 : Int32)), .val (.int (0 : Int32)), .val (.int (0 : Int32)), .val (.int (own_cc p2)), .val (.int (own_cc p3)), .val (.long (own_value (own_ds (own_Y p1) (own_l20 p0)))), .second, .val (.int (0 : Int32)), .unset, .unset, .unset, .unset] [(.int (own_l20 p0))])) := by
          refine C_707.trans ?_
          refine XS.ifYes X_696.here hx rfl (pc0 := 387) (pc' := 394) rfl (hb hby at_387) rfl (i0_eq_t hc_708) (by decide) (by decide) ?_
          refine XS.iconst X_696.here hx rfl (hb hby at_394) ?_
          refine XS.istore X_696.here hx rfl (hb hby at_395) rfl (l' := #[.val (.int p0), .val (.long p1), .second, .val (.int p2), .val (.int p3), .val (.ref a_9), .val (.int (own_l20 p0)), .val (.long (own_Y p1)), .second, .val (.ref a_523), .val (.int (0 : Int32)), .val (.int (0 : Int32)), .unset, .unset, .unset, .unset, .unset, .unset, .unset, .unset, .unset, .unset, .unset]) rfl ?_
          refine XS.iload X_696.here hx rfl (hb hby at_397) rfl ?_
          refine XS.ifYes X_696.here hx rfl (pc0 := 399) (pc' := 415) rfl (hb hby at_399) rfl (by decide) (by decide) (by decide) ?_
          refine XS.iconst X_696.here hx rfl (hb hby at_415) ?_
          refine XS.istore X_696.here hx rfl (hb hby at_416) rfl (l' := #[.val (.int p0), .val (.long p1), .second, .val (.int p2), .val (.int p3), .val (.ref a_9), .val (.int (own_l20 p0)), .val (.long (own_Y p1)), .second, .val (.ref a_523), .val (.int (0 : Int32)), .val (.int (0 : Int32)), .val (.int (0 : Int32)), .unset, .unset, .unset, .unset, .unset, .unset, .unset, .unset, .unset, .unset]) rfl ?_
          refine XS.iload X_696.here hx rfl (hb hby at_418) rfl ?_
          show Steps p.tables e below (T_696.setTop (mkF m 420 #[.val (.int p0), .val (.long p1), .second, .val (.int p2), .val (.int p3), .val (.ref a_9), .val (.int (own_l20 p0)), .val (.long (own_Y p1)), .second, .val (.ref a_523), .val (.int (0 : Int32)), .val (.int (0 : Int32)), .val (.int (0 : Int32)), .unset, .unset, .unset, .unset, .unset, .unset, .unset, .unset, .unset, .unset] [(.int (0 : Int32))])) _
          refine XS.ifYes X_696.here hx rfl (pc0 := 420) (pc' := 437) rfl (hb hby at_420) rfl (by decide) (by decide) (by decide) ?_
          refine XS.iconst X_696.here hx rfl (hb hby at_437) ?_
          refine XS.istore X_696.here hx rfl (hb hby at_438) rfl (l' := #[.val (.int p0), .val (.long p1), .second, .val (.int p2), .val (.int p3), .val (.ref a_9), .val (.int (own_l20 p0)), .val (.long (own_Y p1)), .second, .val (.ref a_523), .val (.int (0 : Int32)), .val (.int (0 : Int32)), .val (.int (0 : Int32)), .val (.int (0 : Int32)), .unset, .unset, .unset, .unset, .unset, .unset, .unset, .unset, .unset]) rfl ?_
          refine XS.iloadN X_696.here hx rfl (hb hby at_440) rfl ?_
          refine XS.sipush X_696.here hx rfl (hb hby at_441) ?_
          refine XS.iand X_696.here hx rfl (hb hby at_444) rfl ?_
          refine XS.i2c X_696.here hx rfl (hb hby at_445) rfl ?_
          refine XS.istore X_696.here hx rfl (hb hby at_446) rfl (l' := #[.val (.int p0), .val (.long p1), .second, .val (.int p2), .val (.int p3), .val (.ref a_9), .val (.int (own_l20 p0)), .val (.long (own_Y p1)), .second, .val (.ref a_523), .val (.int (0 : Int32)), .val (.int (0 : Int32)), .val (.int (0 : Int32)), .val (.int (0 : Int32)), .val (.int (own_cc p2)), .unset, .unset, .unset, .unset, .unset, .unset, .unset, .unset]) rfl ?_
          show Steps p.tables e below (T_696.setTop (mkF m 448 #[.val (.int p0), .val (.long p1), .second, .val (.int p2), .val (.int p3), .val (.ref a_9), .val (.int (own_l20 p0)), .val (.long (own_Y p1)), .second, .val (.ref a_523), .val (.int (0 : Int32)), .val (.int (0 : Int32)), .val (.int (0 : Int32)), .val (.int (0 : Int32)), .val (.int (own_cc p2)), .unset, .unset, .unset, .unset, .unset, .unset, .unset, .unset] [])) _
          refine XS.iload X_696.here hx rfl (hb hby at_448) rfl ?_
          refine XS.sipush X_696.here hx rfl (hb hby at_450) ?_
          refine XS.iand X_696.here hx rfl (hb hby at_453) rfl ?_
          refine XS.i2c X_696.here hx rfl (hb hby at_454) rfl ?_
          refine XS.istore X_696.here hx rfl (hb hby at_455) rfl (l' := #[.val (.int p0), .val (.long p1), .second, .val (.int p2), .val (.int p3), .val (.ref a_9), .val (.int (own_l20 p0)), .val (.long (own_Y p1)), .second, .val (.ref a_523), .val (.int (0 : Int32)), .val (.int (0 : Int32)), .val (.int (0 : Int32)), .val (.int (0 : Int32)), .val (.int (own_cc p2)), .val (.int (own_cc p3)), .unset, .unset, .unset, .unset, .unset, .unset, .unset]) rfl ?_
          refine XS.iload X_696.here hx rfl (hb hby at_457) rfl ?_
          refine XS.ifYes X_696.here hx rfl (pc0 := 459) (pc' := 469) rfl (hb hby at_459) rfl (by decide) (by decide) (by decide) ?_
          refine XS.iload X_696.here hx rfl (hb hby at_469) rfl ?_
          show Steps p.tables e below (T_696.setTop (mkF m 471 #[.val (.int p0), .val (.long p1), .second, .val (.int p2), .val (.int p3), .val (.ref a_9), .val (.int (own_l20 p0)), .val (.long (own_Y p1)), .second, .val (.ref a_523), .val (.int (0 : Int32)), .val (.int (0 : Int32)), .val (.int (0 : Int32)), .val (.int (0 : Int32)), .val (.int (own_cc p2)), .val (.int (own_cc p3)), .unset, .unset, .unset, .unset, .unset, .unset, .unset] [(.int (0 : Int32))])) _
          refine XS.ifYes X_696.here hx rfl (pc0 := 471) (pc' := 481) rfl (hb hby at_471) rfl (by decide) (by decide) (by decide) ?_
          refine st_716 _ ?_
          refine XS.dup X_711.here hx rfl (hb hby at_484) rfl rfl ?_
          refine XS.aload X_711.here hx rfl (hb hby at_485) rfl rfl ?_
          refine st_725.trans ?_
          refine st_739 _ ?_
          refine XS.lstore X_739.here hx rfl (hb hby at_493) rfl (l' := #[.val (.int p0), .val (.long p1), .second, .val (.int p2), .val (.int p3), .val (.ref a_9), .val (.int (own_l20 p0)), .val (.long (own_Y p1)), .second, .val (.ref a_523), .val (.int (0 : Int32)), .val (.int (0 : Int32)), .val (.int (0 : Int32)), .val (.int (0 : Int32)), .val (.int (own_cc p2)), .val (.int (own_cc p3)), .val (.long (own_value (own_ds (own_Y p1) (own_l20 p0)))), .second, .unset, .unset, .unset, .unset, .unset]) rfl ?_
          refine XS.iload X_739.here hx rfl (hb hby at_495) rfl ?_
          show Steps p.tables e below (T_739.setTop (mkF m 497 #[.val (.int p0), .val (.long p1), .second, .val (.int p2), .val (.int p3), .val (.ref a_9), .val (.int (own_l20 p0)), .val (.long (own_Y p1)), .second, .val (.ref a_523), .val (.int (0 : Int32)), .val (.int (0 : Int32)), .val (.int (0 : Int32)), .val (.int (0 : Int32)), .val (.int (own_cc p2)), .val (.int (own_cc p3)), .val (.long (own_value (own_ds (own_Y p1) (own_l20 p0)))), .second, .unset, .unset, .unset, .unset, .unset] [(.int (0 : Int32))])) _
          refine XS.ifYes X_739.here hx rfl (pc0 := 497) (pc' := 516) rfl (hb hby at_497) rfl (by decide) (by decide) (by decide) ?_
          refine XS.iconst X_739.here hx rfl (hb hby at_516) ?_
          refine XS.istore X_739.here hx rfl (hb hby at_517) rfl (l' := #[.val (.int p0), .val (.long p1), .second, .val (.int p2), .val (.int p3), .val (.ref a_9), .val (.int (own_l20 p0)), .val (.long (own_Y p1)), .second, .val (.ref a_523), .val (.int (0 : Int32)), .val (.int (0 : Int32)), .val (.int (0 : Int32)), .val (.int (0 : Int32)), .val (.int (own_cc p2)), .val (.int (own_cc p3)), .val (.long (own_value (own_ds (own_Y p1) (own_l20 p0)))), .second, .val (.int (0 : Int32)), .unset, .unset, .unset, .unset]) rfl ?_
          refine XS.iload X_739.here hx rfl (hb hby at_519) rfl ?_
          exact Steps.refl _
        have C_746 : Steps p.tables e below S0 (T_739.setTop (mkF m 528 #[.val (.int p0), .val (.long p1), .second, .val (.int p2), .val (.int p3), .val (.ref a_9), .val (.int (own_l20 p0)), .val (.long (own_Y p1)), .second, .val (.ref a_523), .val (.int (0 : Int32)), .val (.int (0 : Int32)), .val (.int (0 : Int32)), .val (.int (0 : Int32)), .val (.int (own_cc p2)), .val (.int (own_cc p3)), .val (.long (own_value (own_ds (own_Y p1) (own_l20 p0)))), .second, .val (.int (0 : Int32)), .unset, .unset, .unset, .unset] [(.int (18 : Int32)), (.int (own_l20 p0))])) := by
          refine C_745.trans ?_
          refine XS.ifNo X_739.here hx rfl (hb hby at_521) rfl (i0_eq_f hn_361) ?_
          refine XS.iload X_739.here hx rfl (hb hby at_524) rfl ?_
          refine XS.bipush X_739.here hx rfl (hb hby at_526) ?_
          exact Steps.refl _
        by_cases hc_747 : (18 : Int32) < (own_l20 p0)
        · skip
          have C_748 : Steps p.tables e below S0 (T_739.setTop (mkF m 685 #[.val (.int p0), .val (.long p1), .second, .val (.int p2), .val (.int p3), .val (.ref a_9), .val (.int (own_l20 p0)), .val (.long (own_Y p1)), .second, .val (.ref a_523), .val (.int (0 : Int32)), .val (.int (0 : Int32)), .val (.int (0 : Int32)), .val (.int (0 : Int32)), .val (.int (own_cc p2)), .val (.int (own_cc p3)), .val (.long (own_value (own_ds (own_Y p1) (own_l20 p0)))), .second, .val (.int (0 : Int32)), .val (.long (-1 : Int64)), .second, .unset, .unset] [(.int (1 : Int32))])) := by
            refine C_746.trans ?_
            refine XS.icmpYes X_739.here hx rfl (pc0 := 528) (pc' := 572) rfl (hb hby at_528) rfl (ii_gt_t hc_747) (by decide) (by decide) ?_
            refine X_739.ldc2J hx hown (mvT hZ (w62 hw)) rfl (hb hby at_572) ?_
            refine XS.lstore X_739.here hx rfl (hb hby at_575) rfl (l' := #[.val (.int p0), .val (.long p1), .second, .val (.int p2), .val (.int p3), .val (.ref a_9), .val (.int (own_l20 p0)), .val (.long (own_Y p1)), .second, .val (.ref a_523), .val (.int (0 : Int32)), .val (.int (0 : Int32)), .val (.int (0 : Int32)), .val (.int (0 : Int32)), .val (.int (own_cc p2)), .val (.int (own_cc p3)), .val (.long (own_value (own_ds (own_Y p1) (own_l20 p0)))), .second, .val (.int (0 : Int32)), .val (.long (-1 : Int64)), .second, .unset, .unset]) rfl ?_
            refine XS.goto X_739.here hx rfl (pc0 := 577) (pc' := 672) rfl (hb hby at_577) (by decide) (by decide) ?_
            refine XS.lload X_739.here hx rfl (hb hby at_672) rfl ?_
            refine XS.lload X_739.here hx rfl (hb hby at_674) rfl ?_
            refine XS.lcmp X_739.here hx rfl (hb hby at_676) rfl ?_
            refine XS.ifNo X_739.here hx rfl (hb hby at_677) rfl (i0_ne_f ((lw_eq (own_value (own_ds (own_Y p1) (own_l20 p0))) (-1 : Int64)).mpr (own_vlong (own_dsl _ _) hc_747))) ?_
            show Steps p.tables e below (T_739.setTop (mkF m 680 #[.val (.int p0), .val (.long p1), .second, .val (.int p2), .val (.int p3), .val (.ref a_9), .val (.int (own_l20 p0)), .val (.long (own_Y p1)), .second, .val (.ref a_523), .val (.int (0 : Int32)), .val (.int (0 : Int32)), .val (.int (0 : Int32)), .val (.int (0 : Int32)), .val (.int (own_cc p2)), .val (.int (own_cc p3)), .val (.long (own_value (own_ds (own_Y p1) (own_l20 p0)))), .second, .val (.int (0 : Int32)), .val (.long (-1 : Int64)), .second, .unset, .unset] [])) _
            refine XS.iconst X_739.here hx rfl (hb hby at_680) ?_
            refine XS.goto X_739.here hx rfl (pc0 := 681) (pc' := 685) rfl (hb hby at_681) (by decide) (by decide) ?_
            exact Steps.refl _
          have K_749 : Keep h0 T_725.heap [] := K_744
          obtain ⟨fs, hr, hrun, hended, hRE⟩ := X_739.leaveW hS0 (by rw [show T_739.heap = T_725.heap from e_743]; exact (Nat.le_trans (Nat.le_refl _) (Nat.le_trans (Nat.le_trans (Nat.le_trans (Nat.le_trans (Nat.le_trans (Nat.le_trans (Nat.le_trans (Nat.le_trans (Nat.le_trans (Nat.le_trans (Nat.le_trans (Nat.le_trans (Nat.le_trans (Nat.le_trans (Nat.le_trans (Nat.le_trans (Nat.le_trans (Nat.le_trans (Nat.le_trans (Nat.le_trans (Nat.le_trans (Nat.le_trans (Nat.le_trans (Nat.le_trans (Nat.le_trans (Nat.le_trans (Nat.le_trans (Nat.le_trans (Nat.le_trans (Nat.le_trans (Nat.le_trans (Nat.le_trans (Nat.le_trans (Nat.le_trans (Nat.le_trans (Nat.le_trans (Nat.le_trans (Nat.le_trans (Nat.le_trans (Nat.le_trans (Nat.le_trans E_6.1 (Keep.of_wr W_26).1) (Keep.of_wr W_44).1) (Keep.of_wr W_62).1) (Keep.of_wr W_80).1) (Keep.of_wr W_98).1) (Keep.of_wr W_116).1) (Keep.of_wr W_134).1) (Keep.of_wr W_152).1) (Keep.of_wr W_171).1) (Keep.of_wr W_189).1) (Keep.of_wr W_207).1) (Keep.of_wr W_225).1) (Keep.of_wr W_243).1) (Keep.of_wr W_261).1) (Keep.of_wr W_279).1) (Keep.of_wr W_297).1) (Keep.of_wr W_315).1) (Keep.of_wr W_334).1) (Keep.of_wr W_352).1) E_520.1) K_534.1) K_543.1) K_552.1) K_561.1) K_570.1) K_580.1) K_589.1) K_598.1) K_607.1) K_616.1) K_625.1) K_634.1) K_644.1) K_653.1) K_662.1) K_671.1) K_680.1) K_689.1) K_698.1) E_713.1) K_729.1))) (v := some (.int (1 : Int32))) (fun h => by rw [Bd.returns] at h; cases h)
          refine ⟨_, _, C_748.trans (retN X_739 hx (t := .boolean) Bd.returns (by simp) (hb hby at_685) hr), hrun, hended, _, _, rfl, ?_, ?_, hRE.1, hRE.2.1, hRE.2.2.1, hRE.2.2.2.mono (by decide) (by decide)⟩
          · show Q_law Z G1 G3 p0 p1 p2 p3 h0 n0 (some (.int (1 : Int32))) T_739.heap _
            rw [e_743]
            exact ⟨rfl, N_742, K_749⟩
          · show CHr Z consts_1 s.vm s.heap T_739.vm T_739.heap
            rw [hh, show T_739.heap = T_725.heap from e_743]
            exact CR_737.trans (CHv.at X_739 hZ hEL CH_736)
        · skip
          have C_750 : Steps p.tables e below S0 (T_739.setTop (mkF m 560 #[.val (.int p0), .val (.long p1), .second, .val (.int p2), .val (.int p3), .val (.ref a_9), .val (.int (own_l20 p0)), .val (.long (own_Y p1)), .second, .val (.ref a_523), .val (.int (0 : Int32)), .val (.int (0 : Int32)), .val (.int (0 : Int32)), .val (.int (0 : Int32)), .val (.int (own_cc p2)), .val (.int (own_cc p3)), .val (.long (own_value (own_ds (own_Y p1) (own_l20 p0)))), .second, .val (.int (0 : Int32)), .unset, .unset, .unset, .unset] [(.int (1 : Int32)), (.int (own_l20 p0))])) := by
            refine C_746.trans ?_
            refine XS.icmpNo X_739.here hx rfl (hb hby at_528) rfl (ii_gt_f hc_747) ?_
            refine XS.iload X_739.here hx rfl (hb hby at_531) rfl ?_
            refine XS.ifYes X_739.here hx rfl (pc0 := 533) (pc' := 544) rfl (hb hby at_533) rfl (by decide) (by decide) (by decide) ?_
            refine XS.iload X_739.here hx rfl (hb hby at_544) rfl ?_
            refine XS.ifYes X_739.here hx rfl (pc0 := 546) (pc' := 557) rfl (hb hby at_546) rfl (by decide) (by decide) (by decide) ?_
            refine XS.iload X_739.here hx rfl (hb hby at_557) rfl ?_
            refine XS.iconst X_739.here hx rfl (hb hby at_559) ?_
            exact Steps.refl _
          by_cases hc_751 : (1 : Int32) < (own_l20 p0)
          · skip
            have V_752 : Arv Z T_725.heap a_523 k_517 .char (own_l20 p0) (own_iv (own_ds (own_Y p1) (own_l20 p0))) (.int (0 : Int32)) := (V_723.keep K_729 (ninS (Nat.ne_of_lt (Nat.lt_of_lt_of_le V_704.lt (Nat.le_trans (Nat.le_refl _) (Nat.le_of_eq g_718.symm)))) nin0))
            obtain ⟨c_753, A_754, q_755, S_756, M_757, H_758, U_759⟩ := id V_752
            have hin_760 : ¬ ((0 : Int32) < 0 ∨ c_753.slots.size ≤ (0 : Int32).toNatClampNeg) := inb_of S_756 ⟨(by decide : ¬ ((0 : Int32) < (0 : Int32))), hp_512⟩
            have hat_761 : c_753.slots[(0 : Int32).toNatClampNeg]? = some (.int (own_gt (own_ds (own_Y p1) (own_l20 p0)) (0 : Int32))) := Has.at H_758 hin_760 (own_iv_at (own_ds (own_Y p1) (own_l20 p0)) (0 : Int32))
            have C_762 : Steps p.tables e below S0 (T_739.setTop (mkF m 569 #[.val (.int p0), .val (.long p1), .second, .val (.int p2), .val (.int p3), .val (.ref a_9), .val (.int (own_l20 p0)), .val (.long (own_Y p1)), .second, .val (.ref a_523), .val (.int (0 : Int32)), .val (.int (0 : Int32)), .val (.int (0 : Int32)), .val (.int (0 : Int32)), .val (.int (own_cc p2)), .val (.int (own_cc p3)), .val (.long (own_value (own_ds (own_Y p1) (own_l20 p0)))), .second, .val (.int (0 : Int32)), .unset, .unset, .unset, .unset] [(.int (48 : Int32)), (.int (own_gt (own_ds (own_Y p1) (own_l20 p0)) (0 : Int32)))])) := by
              refine C_750.trans ?_
              refine XS.icmpNo X_739.here hx rfl (hb hby at_560) rfl (ii_le_f hc_751) ?_
              refine XS.aload X_739.here hx rfl (hb hby at_563) rfl rfl ?_
              refine XS.iconst X_739.here hx rfl (hb hby at_565) ?_
              refine X_739.caload hx (j := (0 : Int32)) (v := (.int (own_gt (own_ds (own_Y p1) (own_l20 p0)) (0 : Int32)))) (by rw [e_743]; exact A_754.1) (State.isArrayOf_alike hZ.alike A_754.2.1) A_754.2.2 hin_760 hat_761 (g := (mkF m 566 #[.val (.int p0), .val (.long p1), .second, .val (.int p2), .val (.int p3), .val (.ref a_9), .val (.int (own_l20 p0)), .val (.long (own_Y p1)), .second, .val (.ref a_523), .val (.int (0 : Int32)), .val (.int (0 : Int32)), .val (.int (0 : Int32)), .val (.int (0 : Int32)), .val (.int (own_cc p2)), .val (.int (own_cc p3)), .val (.long (own_value (own_ds (own_Y p1) (own_l20 p0)))), .second, .val (.int (0 : Int32)), .unset, .unset, .unset, .unset] [(.int (0 : Int32)), (.ref a_523)])) rfl rfl (hb hby at_566) _ ?_
              refine XS.bipush X_739.here hx rfl (hb hby at_567) ?_
              exact Steps.refl _
            by_cases hc_763 : (own_gt (own_ds (own_Y p1) (own_l20 p0)) (0 : Int32)) = (48 : Int32)
            · skip
              have C_764 : Steps p.tables e below S0 (T_739.setTop (mkF m 685 #[.val (.int p0), .val (.long p1), .second, .val (.int p2), .val (.int p3), .val (.ref a_9), .val (.int (own_l20 p0)), .val (.long (own_Y p1)), .second, .val (.ref a_523), .val (.int (0 : Int32)), .val (.int (0 : Int32)), .val (.int (0 : Int32)), .val (.int (0 : Int32)), .val (.int (own_cc p2)), .val (.int (own_cc p3)), .val (.long (own_value (own_ds (own_Y p1) (own_l20 p0)))), .second, .val (.int (0 : Int32)), .val (.long (-1 : Int64)), .second, .unset, .unset] [(.int (1 : Int32))])) := by
                refine C_762.trans ?_
                refine XS.icmpNo X_739.here hx rfl (hb hby at_569) rfl (ii_ne_f hc_763) ?_
                refine X_739.ldc2J hx hown (mvT hZ (w62 hw)) rfl (hb hby at_572) ?_
                refine XS.lstore X_739.here hx rfl (hb hby at_575) rfl (l' := #[.val (.int p0), .val (.long p1), .second, .val (.int p2), .val (.int p3), .val (.ref a_9), .val (.int (own_l20 p0)), .val (.long (own_Y p1)), .second, .val (.ref a_523), .val (.int (0 : Int32)), .val (.int (0 : Int32)), .val (.int (0 : Int32)), .val (.int (0 : Int32)), .val (.int (own_cc p2)), .val (.int (own_cc p3)), .val (.long (own_value (own_ds (own_Y p1) (own_l20 p0)))), .second, .val (.int (0 : Int32)), .val (.long (-1 : Int64)), .second, .unset, .unset]) rfl ?_
                refine XS.goto X_739.here hx rfl (pc0 := 577) (pc' := 672) rfl (hb hby at_577) (by decide) (by decide) ?_
                refine XS.lload X_739.here hx rfl (hb hby at_672) rfl ?_
                refine XS.lload X_739.here hx rfl (hb hby at_674) rfl ?_
                refine XS.lcmp X_739.here hx rfl (hb hby at_676) rfl ?_
                refine XS.ifNo X_739.here hx rfl (hb hby at_677) rfl (i0_ne_f ((lw_eq (own_value (own_ds (own_Y p1) (own_l20 p0))) (-1 : Int64)).mpr (own_vzero (own_dsl _ _) hc_751 hc_763))) ?_
                show Steps p.tables e below (T_739.setTop (mkF m 680 #[.val (.int p0), .val (.long p1), .second, .val (.int p2), .val (.int p3), .val (.ref a_9), .val (.int (own_l20 p0)), .val (.long (own_Y p1)), .second, .val (.ref a_523), .val (.int (0 : Int32)), .val (.int (0 : Int32)), .val (.int (0 : Int32)), .val (.int (0 : Int32)), .val (.int (own_cc p2)), .val (.int (own_cc p3)), .val (.long (own_value (own_ds (own_Y p1) (own_l20 p0)))), .second, .val (.int (0 : Int32)), .val (.long (-1 : Int64)), .second, .unset, .unset] [])) _
                refine XS.iconst X_739.here hx rfl (hb hby at_680) ?_
                refine XS.goto X_739.here hx rfl (pc0 := 681) (pc' := 685) rfl (hb hby at_681) (by decide) (by decide) ?_
                exact Steps.refl _
              have K_765 : Keep h0 T_725.heap [] := K_744
              obtain ⟨fs, hr, hrun, hended, hRE⟩ := X_739.leaveW hS0 (by rw [show T_739.heap = T_725.heap from e_743]; exact (Nat.le_trans (Nat.le_refl _) (Nat.le_trans (Nat.le_trans (Nat.le_trans (Nat.le_trans (Nat.le_trans (Nat.le_trans (Nat.le_trans (Nat.le_trans (Nat.le_trans (Nat.le_trans (Nat.le_trans (Nat.le_trans (Nat.le_trans (Nat.le_trans (Nat.le_trans (Nat.le_trans (Nat.le_trans (Nat.le_trans (Nat.le_trans (Nat.le_trans (Nat.le_trans (Nat.le_trans (Nat.le_trans (Nat.le_trans (Nat.le_trans (Nat.le_trans (Nat.le_trans (Nat.le_trans (Nat.le_trans (Nat.le_trans (Nat.le_trans (Nat.le_trans (Nat.le_trans (Nat.le_trans (Nat.le_trans (Nat.le_trans (Nat.le_trans (Nat.le_trans (Nat.le_trans (Nat.le_trans (Nat.le_trans E_6.1 (Keep.of_wr W_26).1) (Keep.of_wr W_44).1) (Keep.of_wr W_62).1) (Keep.of_wr W_80).1) (Keep.of_wr W_98).1) (Keep.of_wr W_116).1) (Keep.of_wr W_134).1) (Keep.of_wr W_152).1) (Keep.of_wr W_171).1) (Keep.of_wr W_189).1) (Keep.of_wr W_207).1) (Keep.of_wr W_225).1) (Keep.of_wr W_243).1) (Keep.of_wr W_261).1) (Keep.of_wr W_279).1) (Keep.of_wr W_297).1) (Keep.of_wr W_315).1) (Keep.of_wr W_334).1) (Keep.of_wr W_352).1) E_520.1) K_534.1) K_543.1) K_552.1) K_561.1) K_570.1) K_580.1) K_589.1) K_598.1) K_607.1) K_616.1) K_625.1) K_634.1) K_644.1) K_653.1) K_662.1) K_671.1) K_680.1) K_689.1) K_698.1) E_713.1) K_729.1))) (v := some (.int (1 : Int32))) (fun h => by rw [Bd.returns] at h; cases h)
              refine ⟨_, _, C_764.trans (retN X_739 hx (t := .boolean) Bd.returns (by simp) (hb hby at_685) hr), hrun, hended, _, _, rfl, ?_, ?_, hRE.1, hRE.2.1, hRE.2.2.1, hRE.2.2.2.mono (by decide) (by decide)⟩
              · show Q_law Z G1 G3 p0 p1 p2 p3 h0 n0 (some (.int (1 : Int32))) T_739.heap _
                rw [e_743]
                exact ⟨rfl, N_742, K_765⟩
              · show CHr Z consts_1 s.vm s.heap T_739.vm T_739.heap
                rw [hh, show T_739.heap = T_725.heap from e_743]
                exact CR_737.trans (CHv.at X_739 hZ hEL CH_736)
            · skip
              have V_766 : Arv Z T_725.heap a_9 k_3 .long (19 : Int32) (own_jv own_pws) (.long (0 : Int64)) := (((V_694.keep K_698 (ninS (Nat.ne_of_lt (Nat.lt_of_lt_of_le V_359.lt (Nat.le_trans (Nat.le_refl _) (Nat.le_of_eq g_524.symm)))) nin0)).ext E_713).keep K_729 (ninS (Nat.ne_of_lt (Nat.lt_of_lt_of_le V_359.lt (Nat.le_trans (Nat.le_trans (Nat.le_trans (Nat.le_trans (Nat.le_trans (Nat.le_trans (Nat.le_trans (Nat.le_trans (Nat.le_trans (Nat.le_trans (Nat.le_trans (Nat.le_trans (Nat.le_trans (Nat.le_trans (Nat.le_trans (Nat.le_trans (Nat.le_trans (Nat.le_trans (Nat.le_trans (Nat.le_trans E_520.1 K_534.1) K_543.1) K_552.1) K_561.1) K_570.1) K_580.1) K_589.1) K_598.1) K_607.1) K_616.1) K_625.1) K_634.1) K_644.1) K_653.1) K_662.1) K_671.1) K_680.1) K_689.1) K_698.1) (Nat.le_of_eq g_718.symm)))) nin0))
              obtain ⟨c_767, A_768, q_769, S_770, M_771, H_772, U_773⟩ := id V_766
              have hin_774 : ¬ ((own_l20 p0) < 0 ∨ c_767.slots.size ≤ (own_l20 p0).toNatClampNeg) := inb_of S_770 ⟨(own_l0 p0), (own_l18 hc_747).1⟩
              have hat_775 : c_767.slots[(own_l20 p0).toNatClampNeg]? = some (.long (own_gj own_pws (own_l20 p0))) := Has.at H_772 hin_774 (own_jv_at own_pws (own_l20 p0))
              have C_776 : Steps p.tables e below S0 (T_739.setTop (mkF m 685 #[.val (.int p0), .val (.long p1), .second, .val (.int p2), .val (.int p3), .val (.ref a_9), .val (.int (own_l20 p0)), .val (.long (own_Y p1)), .second, .val (.ref a_523), .val (.int (0 : Int32)), .val (.int (0 : Int32)), .val (.int (0 : Int32)), .val (.int (0 : Int32)), .val (.int (own_cc p2)), .val (.int (own_cc p3)), .val (.long (own_value (own_ds (own_Y p1) (own_l20 p0)))), .second, .val (.int (0 : Int32)), .val (.long ((own_Y p1) - ((own_Y p1) / (own_gj own_pws (own_l20 p0))) * (own_gj own_pws (own_l20 p0)))), .second, .val (.long ((own_Y p1) - ((own_Y p1) / (own_gj own_pws (own_l20 p0))) * (own_gj own_pws (own_l20 p0)))), .second] [(.int (1 : Int32))])) := by
                refine C_762.trans ?_
                refine XS.icmpYes X_739.here hx rfl (pc0 := 569) (pc' := 580) rfl (hb hby at_569) rfl (ii_ne_t hc_763) (by decide) (by decide) ?_
                refine XS.lload X_739.here hx rfl (hb hby at_580) rfl ?_
                refine XS.aload X_739.here hx rfl (hb hby at_582) rfl rfl ?_
                refine XS.iload X_739.here hx rfl (hb hby at_584) rfl ?_
                refine X_739.laload hx (j := (own_l20 p0)) (v := (.long (own_gj own_pws (own_l20 p0)))) (by rw [e_743]; exact A_768.1) (State.isArrayOf_alike hZ.alike A_768.2.1) A_768.2.2 hin_774 hat_775 (g := (mkF m 586 #[.val (.int p0), .val (.long p1), .second, .val (.int p2), .val (.int p3), .val (.ref a_9), .val (.int (own_l20 p0)), .val (.long (own_Y p1)), .second, .val (.ref a_523), .val (.int (0 : Int32)), .val (.int (0 : Int32)), .val (.int (0 : Int32)), .val (.int (0 : Int32)), .val (.int (own_cc p2)), .val (.int (own_cc p3)), .val (.long (own_value (own_ds (own_Y p1) (own_l20 p0)))), .second, .val (.int (0 : Int32)), .unset, .unset, .unset, .unset] [(.int (own_l20 p0)), (.ref a_9), (.long (own_Y p1))])) rfl rfl (hb hby at_586) _ ?_
                refine XS.lrem X_739.here hx rfl (hb hby at_587) rfl (own_pnz (own_l18 hc_747).2) ?_
                refine XS.lstore X_739.here hx rfl (hb hby at_588) rfl (l' := #[.val (.int p0), .val (.long p1), .second, .val (.int p2), .val (.int p3), .val (.ref a_9), .val (.int (own_l20 p0)), .val (.long (own_Y p1)), .second, .val (.ref a_523), .val (.int (0 : Int32)), .val (.int (0 : Int32)), .val (.int (0 : Int32)), .val (.int (0 : Int32)), .val (.int (own_cc p2)), .val (.int (own_cc p3)), .val (.long (own_value (own_ds (own_Y p1) (own_l20 p0)))), .second, .val (.int (0 : Int32)), .unset, .unset, .val (.long ((own_Y p1) - ((own_Y p1) / (own_gj own_pws (own_l20 p0))) * (own_gj own_pws (own_l20 p0)))), .second]) rfl ?_
                refine XS.iload X_739.here hx rfl (hb hby at_590) rfl ?_
                show Steps p.tables e below (T_739.setTop (mkF m 592 #[.val (.int p0), .val (.long p1), .second, .val (.int p2), .val (.int p3), .val (.ref a_9), .val (.int (own_l20 p0)), .val (.long (own_Y p1)), .second, .val (.ref a_523), .val (.int (0 : Int32)), .val (.int (0 : Int32)), .val (.int (0 : Int32)), .val (.int (0 : Int32)), .val (.int (own_cc p2)), .val (.int (own_cc p3)), .val (.long (own_value (own_ds (own_Y p1) (own_l20 p0)))), .second, .val (.int (0 : Int32)), .unset, .unset, .val (.long ((own_Y p1) - ((own_Y p1) / (own_gj own_pws (own_l20 p0))) * (own_gj own_pws (own_l20 p0)))), .second] [(.int (0 : Int32))])) _
                refine XS.ifYes X_739.here hx rfl (pc0 := 592) (pc' := 629) rfl (hb hby at_592) rfl (by decide) (by decide) (by decide) ?_
                refine XS.iload X_739.here hx rfl (hb hby at_629) rfl ?_
                refine XS.ifYes X_739.here hx rfl (pc0 := 631) (pc' := 668) rfl (hb hby at_631) rfl (by decide) (by decide) (by decide) ?_
                refine XS.lload X_739.here hx rfl (hb hby at_668) rfl ?_
                refine XS.lstore X_739.here hx rfl (hb hby at_670) rfl (l' := #[.val (.int p0), .val (.long p1), .second, .val (.int p2), .val (.int p3), .val (.ref a_9), .val (.int (own_l20 p0)), .val (.long (own_Y p1)), .second, .val (.ref a_523), .val (.int (0 : Int32)), .val (.int (0 : Int32)), .val (.int (0 : Int32)), .val (.int (0 : Int32)), .val (.int (own_cc p2)), .val (.int (own_cc p3)), .val (.long (own_value (own_ds (own_Y p1) (own_l20 p0)))), .second, .val (.int (0 : Int32)), .val (.long ((own_Y p1) - ((own_Y p1) / (own_gj own_pws (own_l20 p0))) * (own_gj own_pws (own_l20 p0)))), .second, .val (.long ((own_Y p1) - ((own_Y p1) / (own_gj own_pws (own_l20 p0))) * (own_gj own_pws (own_l20 p0)))), .second]) rfl ?_
                refine XS.lload X_739.here hx rfl (hb hby at_672) rfl ?_
                refine XS.lload X_739.here hx rfl (hb hby at_674) rfl ?_
                refine XS.lcmp X_739.here hx rfl (hb hby at_676) rfl ?_
                show Steps p.tables e below (T_739.setTop (mkF m 677 #[.val (.int p0), .val (.long p1), .second, .val (.int p2), .val (.int p3), .val (.ref a_9), .val (.int (own_l20 p0)), .val (.long (own_Y p1)), .second, .val (.ref a_523), .val (.int (0 : Int32)), .val (.int (0 : Int32)), .val (.int (0 : Int32)), .val (.int (0 : Int32)), .val (.int (own_cc p2)), .val (.int (own_cc p3)), .val (.long (own_value (own_ds (own_Y p1) (own_l20 p0)))), .second, .val (.int (0 : Int32)), .val (.long ((own_Y p1) - ((own_Y p1) / (own_gj own_pws (own_l20 p0))) * (own_gj own_pws (own_l20 p0)))), .second, .val (.long ((own_Y p1) - ((own_Y p1) / (own_gj own_pws (own_l20 p0))) * (own_gj own_pws (own_l20 p0)))), .second] [(.int (lcmpW (own_value (own_ds (own_Y p1) (own_l20 p0))) ((own_Y p1) - ((own_Y p1) / (own_gj own_pws (own_l20 p0))) * (own_gj own_pws (own_l20 p0)))))])) _
                refine XS.ifNo X_739.here hx rfl (hb hby at_677) rfl (i0_ne_f ((lw_eq (own_value (own_ds (own_Y p1) (own_l20 p0))) ((own_Y p1) - ((own_Y p1) / (own_gj own_pws (own_l20 p0))) * (own_gj own_pws (own_l20 p0)))).mpr (own_F0 (own_Y0 p1) hp_512 hc_747 (Or.inr hc_763)))) ?_
                refine XS.iconst X_739.here hx rfl (hb hby at_680) ?_
                refine XS.goto X_739.here hx rfl (pc0 := 681) (pc' := 685) rfl (hb hby at_681) (by decide) (by decide) ?_
                exact Steps.refl _
              have K_777 : Keep h0 T_725.heap [] := K_744
              obtain ⟨fs, hr, hrun, hended, hRE⟩ := X_739.leaveW hS0 (by rw [show T_739.heap = T_725.heap from e_743]; exact (Nat.le_trans (Nat.le_refl _) (Nat.le_trans (Nat.le_trans (Nat.le_trans (Nat.le_trans (Nat.le_trans (Nat.le_trans (Nat.le_trans (Nat.le_trans (Nat.le_trans (Nat.le_trans (Nat.le_trans (Nat.le_trans (Nat.le_trans (Nat.le_trans (Nat.le_trans (Nat.le_trans (Nat.le_trans (Nat.le_trans (Nat.le_trans (Nat.le_trans (Nat.le_trans (Nat.le_trans (Nat.le_trans (Nat.le_trans (Nat.le_trans (Nat.le_trans (Nat.le_trans (Nat.le_trans (Nat.le_trans (Nat.le_trans (Nat.le_trans (Nat.le_trans (Nat.le_trans (Nat.le_trans (Nat.le_trans (Nat.le_trans (Nat.le_trans (Nat.le_trans (Nat.le_trans (Nat.le_trans (Nat.le_trans E_6.1 (Keep.of_wr W_26).1) (Keep.of_wr W_44).1) (Keep.of_wr W_62).1) (Keep.of_wr W_80).1) (Keep.of_wr W_98).1) (Keep.of_wr W_116).1) (Keep.of_wr W_134).1) (Keep.of_wr W_152).1) (Keep.of_wr W_171).1) (Keep.of_wr W_189).1) (Keep.of_wr W_207).1) (Keep.of_wr W_225).1) (Keep.of_wr W_243).1) (Keep.of_wr W_261).1) (Keep.of_wr W_279).1) (Keep.of_wr W_297).1) (Keep.of_wr W_315).1) (Keep.of_wr W_334).1) (Keep.of_wr W_352).1) E_520.1) K_534.1) K_543.1) K_552.1) K_561.1) K_570.1) K_580.1) K_589.1) K_598.1) K_607.1) K_616.1) K_625.1) K_634.1) K_644.1) K_653.1) K_662.1) K_671.1) K_680.1) K_689.1) K_698.1) E_713.1) K_729.1))) (v := some (.int (1 : Int32))) (fun h => by rw [Bd.returns] at h; cases h)
              refine ⟨_, _, C_776.trans (retN X_739 hx (t := .boolean) Bd.returns (by simp) (hb hby at_685) hr), hrun, hended, _, _, rfl, ?_, ?_, hRE.1, hRE.2.1, hRE.2.2.1, hRE.2.2.2.mono (by decide) (by decide)⟩
              · show Q_law Z G1 G3 p0 p1 p2 p3 h0 n0 (some (.int (1 : Int32))) T_739.heap _
                rw [e_743]
                exact ⟨rfl, N_742, K_777⟩
              · show CHr Z consts_1 s.vm s.heap T_739.vm T_739.heap
                rw [hh, show T_739.heap = T_725.heap from e_743]
                exact CR_737.trans (CHv.at X_739 hZ hEL CH_736)
          · skip
            have V_778 : Arv Z T_725.heap a_9 k_3 .long (19 : Int32) (own_jv own_pws) (.long (0 : Int64)) := (((V_694.keep K_698 (ninS (Nat.ne_of_lt (Nat.lt_of_lt_of_le V_359.lt (Nat.le_trans (Nat.le_refl _) (Nat.le_of_eq g_524.symm)))) nin0)).ext E_713).keep K_729 (ninS (Nat.ne_of_lt (Nat.lt_of_lt_of_le V_359.lt (Nat.le_trans (Nat.le_trans (Nat.le_trans (Nat.le_trans (Nat.le_trans (Nat.le_trans (Nat.le_trans (Nat.le_trans (Nat.le_trans (Nat.le_trans (Nat.le_trans (Nat.le_trans (Nat.le_trans (Nat.le_trans (Nat.le_trans (Nat.le_trans (Nat.le_trans (Nat.le_trans (Nat.le_trans (Nat.le_trans E_520.1 K_534.1) K_543.1) K_552.1) K_561.1) K_570.1) K_580.1) K_589.1) K_598.1) K_607.1) K_616.1) K_625.1) K_634.1) K_644.1) K_653.1) K_662.1) K_671.1) K_680.1) K_689.1) K_698.1) (Nat.le_of_eq g_718.symm)))) nin0))
            obtain ⟨c_779, A_780, q_781, S_782, M_783, H_784, U_785⟩ := id V_778
            have hin_786 : ¬ ((own_l20 p0) < 0 ∨ c_779.slots.size ≤ (own_l20 p0).toNatClampNeg) := inb_of S_782 ⟨(own_l0 p0), (own_l18 hc_747).1⟩
            have hat_787 : c_779.slots[(own_l20 p0).toNatClampNeg]? = some (.long (own_gj own_pws (own_l20 p0))) := Has.at H_784 hin_786 (own_jv_at own_pws (own_l20 p0))
            have C_788 : Steps p.tables e below S0 (T_739.setTop (mkF m 685 #[.val (.int p0), .val (.long p1), .second, .val (.int p2), .val (.int p3), .val (.ref a_9), .val (.int (own_l20 p0)), .val (.long (own_Y p1)), .second, .val (.ref a_523), .val (.int (0 : Int32)), .val (.int (0 : Int32)), .val (.int (0 : Int32)), .val (.int (0 : Int32)), .val (.int (own_cc p2)), .val (.int (own_cc p3)), .val (.long (own_value (own_ds (own_Y p1) (own_l20 p0)))), .second, .val (.int (0 : Int32)), .val (.long ((own_Y p1) - ((own_Y p1) / (own_gj own_pws (own_l20 p0))) * (own_gj own_pws (own_l20 p0)))), .second, .val (.long ((own_Y p1) - ((own_Y p1) / (own_gj own_pws (own_l20 p0))) * (own_gj own_pws (own_l20 p0)))), .second] [(.int (1 : Int32))])) := by
              refine C_750.trans ?_
              refine XS.icmpYes X_739.here hx rfl (pc0 := 560) (pc' := 580) rfl (hb hby at_560) rfl (ii_le_t hc_751) (by decide) (by decide) ?_
              refine XS.lload X_739.here hx rfl (hb hby at_580) rfl ?_
              refine XS.aload X_739.here hx rfl (hb hby at_582) rfl rfl ?_
              refine XS.iload X_739.here hx rfl (hb hby at_584) rfl ?_
              refine X_739.laload hx (j := (own_l20 p0)) (v := (.long (own_gj own_pws (own_l20 p0)))) (by rw [e_743]; exact A_780.1) (State.isArrayOf_alike hZ.alike A_780.2.1) A_780.2.2 hin_786 hat_787 (g := (mkF m 586 #[.val (.int p0), .val (.long p1), .second, .val (.int p2), .val (.int p3), .val (.ref a_9), .val (.int (own_l20 p0)), .val (.long (own_Y p1)), .second, .val (.ref a_523), .val (.int (0 : Int32)), .val (.int (0 : Int32)), .val (.int (0 : Int32)), .val (.int (0 : Int32)), .val (.int (own_cc p2)), .val (.int (own_cc p3)), .val (.long (own_value (own_ds (own_Y p1) (own_l20 p0)))), .second, .val (.int (0 : Int32)), .unset, .unset, .unset, .unset] [(.int (own_l20 p0)), (.ref a_9), (.long (own_Y p1))])) rfl rfl (hb hby at_586) _ ?_
              refine XS.lrem X_739.here hx rfl (hb hby at_587) rfl (own_pnz (own_l18 hc_747).2) ?_
              refine XS.lstore X_739.here hx rfl (hb hby at_588) rfl (l' := #[.val (.int p0), .val (.long p1), .second, .val (.int p2), .val (.int p3), .val (.ref a_9), .val (.int (own_l20 p0)), .val (.long (own_Y p1)), .second, .val (.ref a_523), .val (.int (0 : Int32)), .val (.int (0 : Int32)), .val (.int (0 : Int32)), .val (.int (0 : Int32)), .val (.int (own_cc p2)), .val (.int (own_cc p3)), .val (.long (own_value (own_ds (own_Y p1) (own_l20 p0)))), .second, .val (.int (0 : Int32)), .unset, .unset, .val (.long ((own_Y p1) - ((own_Y p1) / (own_gj own_pws (own_l20 p0))) * (own_gj own_pws (own_l20 p0)))), .second]) rfl ?_
              refine XS.iload X_739.here hx rfl (hb hby at_590) rfl ?_
              show Steps p.tables e below (T_739.setTop (mkF m 592 #[.val (.int p0), .val (.long p1), .second, .val (.int p2), .val (.int p3), .val (.ref a_9), .val (.int (own_l20 p0)), .val (.long (own_Y p1)), .second, .val (.ref a_523), .val (.int (0 : Int32)), .val (.int (0 : Int32)), .val (.int (0 : Int32)), .val (.int (0 : Int32)), .val (.int (own_cc p2)), .val (.int (own_cc p3)), .val (.long (own_value (own_ds (own_Y p1) (own_l20 p0)))), .second, .val (.int (0 : Int32)), .unset, .unset, .val (.long ((own_Y p1) - ((own_Y p1) / (own_gj own_pws (own_l20 p0))) * (own_gj own_pws (own_l20 p0)))), .second] [(.int (0 : Int32))])) _
              refine XS.ifYes X_739.here hx rfl (pc0 := 592) (pc' := 629) rfl (hb hby at_592) rfl (by decide) (by decide) (by decide) ?_
              refine XS.iload X_739.here hx rfl (hb hby at_629) rfl ?_
              refine XS.ifYes X_739.here hx rfl (pc0 := 631) (pc' := 668) rfl (hb hby at_631) rfl (by decide) (by decide) (by decide) ?_
              refine XS.lload X_739.here hx rfl (hb hby at_668) rfl ?_
              refine XS.lstore X_739.here hx rfl (hb hby at_670) rfl (l' := #[.val (.int p0), .val (.long p1), .second, .val (.int p2), .val (.int p3), .val (.ref a_9), .val (.int (own_l20 p0)), .val (.long (own_Y p1)), .second, .val (.ref a_523), .val (.int (0 : Int32)), .val (.int (0 : Int32)), .val (.int (0 : Int32)), .val (.int (0 : Int32)), .val (.int (own_cc p2)), .val (.int (own_cc p3)), .val (.long (own_value (own_ds (own_Y p1) (own_l20 p0)))), .second, .val (.int (0 : Int32)), .val (.long ((own_Y p1) - ((own_Y p1) / (own_gj own_pws (own_l20 p0))) * (own_gj own_pws (own_l20 p0)))), .second, .val (.long ((own_Y p1) - ((own_Y p1) / (own_gj own_pws (own_l20 p0))) * (own_gj own_pws (own_l20 p0)))), .second]) rfl ?_
              refine XS.lload X_739.here hx rfl (hb hby at_672) rfl ?_
              refine XS.lload X_739.here hx rfl (hb hby at_674) rfl ?_
              refine XS.lcmp X_739.here hx rfl (hb hby at_676) rfl ?_
              show Steps p.tables e below (T_739.setTop (mkF m 677 #[.val (.int p0), .val (.long p1), .second, .val (.int p2), .val (.int p3), .val (.ref a_9), .val (.int (own_l20 p0)), .val (.long (own_Y p1)), .second, .val (.ref a_523), .val (.int (0 : Int32)), .val (.int (0 : Int32)), .val (.int (0 : Int32)), .val (.int (0 : Int32)), .val (.int (own_cc p2)), .val (.int (own_cc p3)), .val (.long (own_value (own_ds (own_Y p1) (own_l20 p0)))), .second, .val (.int (0 : Int32)), .val (.long ((own_Y p1) - ((own_Y p1) / (own_gj own_pws (own_l20 p0))) * (own_gj own_pws (own_l20 p0)))), .second, .val (.long ((own_Y p1) - ((own_Y p1) / (own_gj own_pws (own_l20 p0))) * (own_gj own_pws (own_l20 p0)))), .second] [(.int (lcmpW (own_value (own_ds (own_Y p1) (own_l20 p0))) ((own_Y p1) - ((own_Y p1) / (own_gj own_pws (own_l20 p0))) * (own_gj own_pws (own_l20 p0)))))])) _
              refine XS.ifNo X_739.here hx rfl (hb hby at_677) rfl (i0_ne_f ((lw_eq (own_value (own_ds (own_Y p1) (own_l20 p0))) ((own_Y p1) - ((own_Y p1) / (own_gj own_pws (own_l20 p0))) * (own_gj own_pws (own_l20 p0)))).mpr (own_F0 (own_Y0 p1) hp_512 hc_747 (Or.inl hc_751)))) ?_
              refine XS.iconst X_739.here hx rfl (hb hby at_680) ?_
              refine XS.goto X_739.here hx rfl (pc0 := 681) (pc' := 685) rfl (hb hby at_681) (by decide) (by decide) ?_
              exact Steps.refl _
            have K_789 : Keep h0 T_725.heap [] := K_744
            obtain ⟨fs, hr, hrun, hended, hRE⟩ := X_739.leaveW hS0 (by rw [show T_739.heap = T_725.heap from e_743]; exact (Nat.le_trans (Nat.le_refl _) (Nat.le_trans (Nat.le_trans (Nat.le_trans (Nat.le_trans (Nat.le_trans (Nat.le_trans (Nat.le_trans (Nat.le_trans (Nat.le_trans (Nat.le_trans (Nat.le_trans (Nat.le_trans (Nat.le_trans (Nat.le_trans (Nat.le_trans (Nat.le_trans (Nat.le_trans (Nat.le_trans (Nat.le_trans (Nat.le_trans (Nat.le_trans (Nat.le_trans (Nat.le_trans (Nat.le_trans (Nat.le_trans (Nat.le_trans (Nat.le_trans (Nat.le_trans (Nat.le_trans (Nat.le_trans (Nat.le_trans (Nat.le_trans (Nat.le_trans (Nat.le_trans (Nat.le_trans (Nat.le_trans (Nat.le_trans (Nat.le_trans (Nat.le_trans (Nat.le_trans (Nat.le_trans E_6.1 (Keep.of_wr W_26).1) (Keep.of_wr W_44).1) (Keep.of_wr W_62).1) (Keep.of_wr W_80).1) (Keep.of_wr W_98).1) (Keep.of_wr W_116).1) (Keep.of_wr W_134).1) (Keep.of_wr W_152).1) (Keep.of_wr W_171).1) (Keep.of_wr W_189).1) (Keep.of_wr W_207).1) (Keep.of_wr W_225).1) (Keep.of_wr W_243).1) (Keep.of_wr W_261).1) (Keep.of_wr W_279).1) (Keep.of_wr W_297).1) (Keep.of_wr W_315).1) (Keep.of_wr W_334).1) (Keep.of_wr W_352).1) E_520.1) K_534.1) K_543.1) K_552.1) K_561.1) K_570.1) K_580.1) K_589.1) K_598.1) K_607.1) K_616.1) K_625.1) K_634.1) K_644.1) K_653.1) K_662.1) K_671.1) K_680.1) K_689.1) K_698.1) E_713.1) K_729.1))) (v := some (.int (1 : Int32))) (fun h => by rw [Bd.returns] at h; cases h)
            refine ⟨_, _, C_788.trans (retN X_739 hx (t := .boolean) Bd.returns (by simp) (hb hby at_685) hr), hrun, hended, _, _, rfl, ?_, ?_, hRE.1, hRE.2.1, hRE.2.2.1, hRE.2.2.2.mono (by decide) (by decide)⟩
            · show Q_law Z G1 G3 p0 p1 p2 p3 h0 n0 (some (.int (1 : Int32))) T_739.heap _
              rw [e_743]
              exact ⟨rfl, N_742, K_789⟩
            · show CHr Z consts_1 s.vm s.heap T_739.vm T_739.heap
              rw [hh, show T_739.heap = T_725.heap from e_743]
              exact CR_737.trans (CHv.at X_739 hZ hEL CH_736)
      · skip
        have C_790 : Steps p.tables e below S0 (T_696.setTop (mkF m 480 #[.val (.int p0), .val (.long p1), .second, .val (.int p2), .val (.int p3), .val (.ref a_9), .val (.int (own_l20 p0)), .val (.long (own_Y p1)), .second, .val (.ref a_523), .val (.int (0 : Int32)), .val (.int (1 : Int32)), .val (.int (0 : Int32)), .val (.int (own_pl p3 (own_l20 p0))), .val (.int (own_cc p2)), .val (.int (own_cc p3)), .unset, .unset, .unset, .unset, .unset, .unset, .unset] [(.int (own_cc p3)), (.int (own_pl p3 (own_l20 p0))), (.ref a_523)])) := by
          refine C_707.trans ?_
          refine XS.ifNo X_696.here hx rfl (hb hby at_387) rfl (i0_eq_f hc_708) ?_
          refine XS.iconst X_696.here hx rfl (hb hby at_390) ?_
          refine XS.goto X_696.here hx rfl (pc0 := 391) (pc' := 395) rfl (hb hby at_391) (by decide) (by decide) ?_
          refine XS.istore X_696.here hx rfl (hb hby at_395) rfl (l' := #[.val (.int p0), .val (.long p1), .second, .val (.int p2), .val (.int p3), .val (.ref a_9), .val (.int (own_l20 p0)), .val (.long (own_Y p1)), .second, .val (.ref a_523), .val (.int (0 : Int32)), .val (.int (1 : Int32)), .unset, .unset, .unset, .unset, .unset, .unset, .unset, .unset, .unset, .unset, .unset]) rfl ?_
          refine XS.iload X_696.here hx rfl (hb hby at_397) rfl ?_
          refine XS.ifYes X_696.here hx rfl (pc0 := 399) (pc' := 415) rfl (hb hby at_399) rfl (by decide) (by decide) (by decide) ?_
          refine XS.iconst X_696.here hx rfl (hb hby at_415) ?_
          refine XS.istore X_696.here hx rfl (hb hby at_416) rfl (l' := #[.val (.int p0), .val (.long p1), .second, .val (.int p2), .val (.int p3), .val (.ref a_9), .val (.int (own_l20 p0)), .val (.long (own_Y p1)), .second, .val (.ref a_523), .val (.int (0 : Int32)), .val (.int (1 : Int32)), .val (.int (0 : Int32)), .unset, .unset, .unset, .unset, .unset, .unset, .unset, .unset, .unset, .unset]) rfl ?_
          show Steps p.tables e below (T_696.setTop (mkF m 418 #[.val (.int p0), .val (.long p1), .second, .val (.int p2), .val (.int p3), .val (.ref a_9), .val (.int (own_l20 p0)), .val (.long (own_Y p1)), .second, .val (.ref a_523), .val (.int (0 : Int32)), .val (.int (1 : Int32)), .val (.int (0 : Int32)), .unset, .unset, .unset, .unset, .unset, .unset, .unset, .unset, .unset, .unset] [])) _
          refine XS.iload X_696.here hx rfl (hb hby at_418) rfl ?_
          refine XS.ifNo X_696.here hx rfl (hb hby at_420) rfl (by decide) ?_
          refine XS.iload X_696.here hx rfl (hb hby at_423) rfl ?_
          refine XS.bipush X_696.here hx rfl (hb hby at_425) ?_
          refine XS.iushr X_696.here hx rfl (hb hby at_427) rfl ?_
          refine X_696.ldcI hx hown (mvT hZ (w99 hw)) rfl (hb hby at_428) ?_
          refine XS.iand X_696.here hx rfl (hb hby at_430) rfl ?_
          refine XS.iload X_696.here hx rfl (hb hby at_431) rfl ?_
          show Steps p.tables e below (T_696.setTop (mkF m 433 #[.val (.int p0), .val (.long p1), .second, .val (.int p2), .val (.int p3), .val (.ref a_9), .val (.int (own_l20 p0)), .val (.long (own_Y p1)), .second, .val (.ref a_523), .val (.int (0 : Int32)), .val (.int (1 : Int32)), .val (.int (0 : Int32)), .unset, .unset, .unset, .unset, .unset, .unset, .unset, .unset, .unset, .unset] [(.int (own_l20 p0)), (.int (((p3.toUInt32 >>> ((8 : Int32) &&& 31).toUInt32).toInt32) &&& (65535 : Int32)))])) _
          refine iremM X_696 hx rfl (hb hby at_433) rfl hn_361 ?_
          refine XS.goto X_696.here hx rfl (pc0 := 434) (pc' := 438) rfl (hb hby at_434) (by decide) (by decide) ?_
          refine XS.istore X_696.here hx rfl (hb hby at_438) rfl (l' := #[.val (.int p0), .val (.long p1), .second, .val (.int p2), .val (.int p3), .val (.ref a_9), .val (.int (own_l20 p0)), .val (.long (own_Y p1)), .second, .val (.ref a_523), .val (.int (0 : Int32)), .val (.int (1 : Int32)), .val (.int (0 : Int32)), .val (.int (own_pl p3 (own_l20 p0))), .unset, .unset, .unset, .unset, .unset, .unset, .unset, .unset, .unset]) rfl ?_
          refine XS.iloadN X_696.here hx rfl (hb hby at_440) rfl ?_
          refine XS.sipush X_696.here hx rfl (hb hby at_441) ?_
          refine XS.iand X_696.here hx rfl (hb hby at_444) rfl ?_
          refine XS.i2c X_696.here hx rfl (hb hby at_445) rfl ?_
          refine XS.istore X_696.here hx rfl (hb hby at_446) rfl (l' := #[.val (.int p0), .val (.long p1), .second, .val (.int p2), .val (.int p3), .val (.ref a_9), .val (.int (own_l20 p0)), .val (.long (own_Y p1)), .second, .val (.ref a_523), .val (.int (0 : Int32)), .val (.int (1 : Int32)), .val (.int (0 : Int32)), .val (.int (own_pl p3 (own_l20 p0))), .val (.int (own_cc p2)), .unset, .unset, .unset, .unset, .unset, .unset, .unset, .unset]) rfl ?_
          show Steps p.tables e below (T_696.setTop (mkF m 448 #[.val (.int p0), .val (.long p1), .second, .val (.int p2), .val (.int p3), .val (.ref a_9), .val (.int (own_l20 p0)), .val (.long (own_Y p1)), .second, .val (.ref a_523), .val (.int (0 : Int32)), .val (.int (1 : Int32)), .val (.int (0 : Int32)), .val (.int (own_pl p3 (own_l20 p0))), .val (.int (own_cc p2)), .unset, .unset, .unset, .unset, .unset, .unset, .unset, .unset] [])) _
          refine XS.iload X_696.here hx rfl (hb hby at_448) rfl ?_
          refine XS.sipush X_696.here hx rfl (hb hby at_450) ?_
          refine XS.iand X_696.here hx rfl (hb hby at_453) rfl ?_
          refine XS.i2c X_696.here hx rfl (hb hby at_454) rfl ?_
          refine XS.istore X_696.here hx rfl (hb hby at_455) rfl (l' := #[.val (.int p0), .val (.long p1), .second, .val (.int p2), .val (.int p3), .val (.ref a_9), .val (.int (own_l20 p0)), .val (.long (own_Y p1)), .second, .val (.ref a_523), .val (.int (0 : Int32)), .val (.int (1 : Int32)), .val (.int (0 : Int32)), .val (.int (own_pl p3 (own_l20 p0))), .val (.int (own_cc p2)), .val (.int (own_cc p3)), .unset, .unset, .unset, .unset, .unset, .unset, .unset]) rfl ?_
          refine XS.iload X_696.here hx rfl (hb hby at_457) rfl ?_
          refine XS.ifYes X_696.here hx rfl (pc0 := 459) (pc' := 469) rfl (hb hby at_459) rfl (by decide) (by decide) (by decide) ?_
          refine XS.iload X_696.here hx rfl (hb hby at_469) rfl ?_
          show Steps p.tables e below (T_696.setTop (mkF m 471 #[.val (.int p0), .val (.long p1), .second, .val (.int p2), .val (.int p3), .val (.ref a_9), .val (.int (own_l20 p0)), .val (.long (own_Y p1)), .second, .val (.ref a_523), .val (.int (0 : Int32)), .val (.int (1 : Int32)), .val (.int (0 : Int32)), .val (.int (own_pl p3 (own_l20 p0))), .val (.int (own_cc p2)), .val (.int (own_cc p3)), .unset, .unset, .unset, .unset, .unset, .unset, .unset] [(.int (1 : Int32))])) _
          refine XS.ifNo X_696.here hx rfl (hb hby at_471) rfl (by decide) ?_
          refine XS.aload X_696.here hx rfl (hb hby at_474) rfl rfl ?_
          refine XS.iload X_696.here hx rfl (hb hby at_476) rfl ?_
          refine XS.iload X_696.here hx rfl (hb hby at_478) rfl ?_
          exact Steps.refl _
        obtain ⟨c_791, A_792, q_793, S_794, M_795, H_796, U_797⟩ := id V_704
        have hin_804 : ¬ ((own_pl p3 (own_l20 p0)) < 0 ∨ c_791.slots.size ≤ (own_pl p3 (own_l20 p0)).toNatClampNeg) := inb_of S_794 ⟨hr_514.1, hr_514.2⟩
        obtain ⟨T_798, h_799, X_800, e_801, W_802, st_803⟩ := stC X_696 hx hZ rfl A_792 (j := (own_pl p3 (own_l20 p0))) hin_804 (g := (mkF m 480 #[.val (.int p0), .val (.long p1), .second, .val (.int p2), .val (.int p3), .val (.ref a_9), .val (.int (own_l20 p0)), .val (.long (own_Y p1)), .second, .val (.ref a_523), .val (.int (0 : Int32)), .val (.int (1 : Int32)), .val (.int (0 : Int32)), .val (.int (own_pl p3 (own_l20 p0))), .val (.int (own_cc p2)), .val (.int (own_cc p3)), .unset, .unset, .unset, .unset, .unset, .unset, .unset] [(.int (own_cc p3)), (.int (own_pl p3 (own_l20 p0))), (.ref a_523)])) rfl rfl (hb hby at_480)
        have N_805 := Fr.snoc X_800 N_700 (Nat.le_trans (own_n0 O_530) (Nat.le_of_eq g_524.symm))
        have CH_806 : CHv Z consts_1 s.vm h_799 := CHv.wr W_802 (Safe.arv hZ.alike V_704 (by decide)) CH_701
        have CR_807 : CHr Z consts_1 s.vm h0 s.vm h_799 := CR_702.trans (CHr.wr W_802 (Safe.arv hZ.alike V_704 (by decide)) CH_701)
        have V_808 : Arv Z h_799 a_523 k_517 .char (own_l20 p0) (own_iv ((own_ds (own_Y p1) (own_l20 p0)).set (own_pl p3 (own_l20 p0)).toNatClampNeg (own_cc p3))) (.int (0 : Int32)) := by have q := own_iv_set (Arv.set A_792 q_793 S_794 M_795 H_796 U_797 (fits_nar_char _) W_802 (own_pl p3 (own_l20 p0)).toNatClampNeg rfl (own_ix (own_dsl _ _) hr_514.1 hr_514.2)); rw [own_narc (own_ccr p3).1 (own_ccr p3).2] at q; exact q
        obtain ⟨T_809, h_810, X_811, e_812, E_813, A_814, D_815, U_819, st_816⟩ := newO X_800 hx hZ hown (w25 hw) (w26 hw) (w27 hw) e_801 (g := (mkF m 481 #[.val (.int p0), .val (.long p1), .second, .val (.int p2), .val (.int p3), .val (.ref a_9), .val (.int (own_l20 p0)), .val (.long (own_Y p1)), .second, .val (.ref a_523), .val (.int (0 : Int32)), .val (.int (1 : Int32)), .val (.int (0 : Int32)), .val (.int (own_pl p3 (own_l20 p0))), .val (.int (own_cc p2)), .val (.int (own_cc p3)), .unset, .unset, .unset, .unset, .unset, .unset, .unset] [])) rfl (hb hby at_481) (by decide) (by decide)
        obtain ⟨a_817, g_818⟩ : ∃ z, z = h_799.size := ⟨_, rfl⟩
        rw [← g_818] at A_814 D_815 st_816 U_819
        have CH_820 : CHv Z consts_1 s.vm h_810 := CHv.ext E_813 CH_806
        have CR_821 : CHr Z consts_1 s.vm h0 s.vm h_810 := CR_807.trans (CHr.ext E_813 CH_806)
        have O_822 : Old Z n0 h_799 := ((O_695.keep K_698 (allS (Nat.le_trans (own_n0 O_530) (Nat.le_of_eq g_524.symm)) all0)).wr W_802 (Nat.le_trans (own_n0 O_530) (Nat.le_of_eq g_524.symm)))
        have V_823 : Arv Z h_810 a_523 k_517 .char (own_l20 p0) (own_iv ((own_ds (own_Y p1) (own_l20 p0)).set (own_pl p3 (own_l20 p0)).toNatClampNeg (own_cc p3))) (.int (0 : Int32)) := (V_808.ext E_813)
        have O_824 : Old Z n0 h_810 := (O_822.ext E_813)
        obtain ⟨_, _, ⟨T_825, L_825, k_825, n_825⟩, -, X_825, ⟨Lc_825, hQ_825, l_825, y_825, z_825⟩, st_825⟩ := X_811.specialBack hx (y := M99) rfl hown (mvT hZ (w28 hw)) (mvT hZ (w29 hw)) (mvT hZ (w30 hw)) (by decide) (backOf (W := 1) (rm_si1s l Z a0 hw [] G1 G3 HG h_810 n0 O_824 a_817 a_523 k_517 (own_l20 p0) ((own_ds (own_Y p1) (own_l20 p0)).set (own_pl p3 (own_l20 p0)).toNatClampNeg (own_cc p3)) A_814 (D_815 (Or.inr (w40 hw)) (ty := (.array .byte)) (by decide)) (D_815 (Or.inr (w41 hw)) (ty := .byte) (by decide)) (Nat.le_trans (own_n0 O_822) (Nat.le_of_eq g_818.symm)) V_823 (own_l0 p0) hn_361 (own_lc p0) (own_setlen (own_dsl _ _)) (own_setlat (own_dslat (own_l19 p0)) (own_ccr p3).1 (own_ccr p3).2)) hZ (w30 hw) (w27 hw) (by decide) (by decide)) (g := (mkF m 487 #[.val (.int p0), .val (.long p1), .second, .val (.int p2), .val (.int p3), .val (.ref a_9), .val (.int (own_l20 p0)), .val (.long (own_Y p1)), .second, .val (.ref a_523), .val (.int (0 : Int32)), .val (.int (1 : Int32)), .val (.int (0 : Int32)), .val (.int (own_pl p3 (own_l20 p0))), .val (.int (own_cc p2)), .val (.int (own_cc p3)), .unset, .unset, .unset, .unset, .unset, .unset, .unset] [(.ref a_523), (.ref a_817), (.ref a_817)])) rfl (by rw [hml]; rfl) (Steps.refl _) (a := a_817) (argsL := [(.ref a_523)]) (rest := [(.ref a_817)]) (lenOf pd_363 rfl) rfl (by show 2 * 0 + _ ≤ _; exact Nat.le_of_eq rfl) (hb hby at_487) (fun _ _ => ⟨rfl, e_812, (by decide : 3 + 1 ≤ _), (by decide : 42 + 19 ≤ _)⟩)
        dsimp only [Pt.U, Pt.locs, Pt.cells, Pt.slots] at X_825 l_825 y_825 z_825 st_825 hQ_825
        have X_825 := own_cast X_825 l_825 y_825 z_825
        obtain ⟨a_826, k_827, rfl, N_828, K_829, g_830, g_831, g_832, g_833, g_834⟩ := hQ_825
        have N_835 := Fr.app N_805 N_828
        have CH_836 : CHv Z consts_1 s.vm T_825.heap := CHv.keep K_829 (sfS (own_safe_null hZ.alike A_814 (D_815 (Or.inr (w40 hw)) (ty := (.array .byte)) (by decide))) sf0) CH_820
        have CR_837 : CHr Z consts_1 s.vm h0 s.vm T_825.heap := CR_821.trans (CHr.keep K_829 (sfS (own_safe_null hZ.alike A_814 (D_815 (Or.inr (w40 hw)) (ty := (.array .byte)) (by decide))) sf0) CH_820)
        have O_838 : Old Z n0 T_825.heap := (O_824.keep K_829 (allS (Nat.le_trans (own_n0 O_822) (Nat.le_of_eq g_818.symm)) all0))
        obtain ⟨_, _, ⟨T_839, L_839, k_839, n_839⟩, -, X_839, ⟨Lc_839, hQ_839, l_839, y_839, z_839⟩, st_839⟩ := Jvm.LawKit.callS X_825 hx (y := M269) hown (mvT hZ (w46 hw)) (mvT hZ (w47 hw)) (mvT hZ (w48 hw)) (mvT hZ (w49 hw)) (by decide) (backOf (W := 0) (rm_val l Z a0 hw [] G1 G3 HG T_825.heap n0 O_838 a_817 a_826 k_827 (own_l20 p0) ((own_ds (own_Y p1) (own_l20 p0)).set (own_pl p3 (own_l20 p0)).toNatClampNeg (own_cc p3)) g_830 g_831 g_832 g_834 (own_l0 p0) (own_setlen (own_dsl _ _)) (own_setlat (own_dslat (own_l19 p0)) (own_ccr p3).1 (own_ccr p3).2)) hZ (w49 hw) (w48 hw) (by decide) (by decide)) (g := (mkF m 490 #[.val (.int p0), .val (.long p1), .second, .val (.int p2), .val (.int p3), .val (.ref a_9), .val (.int (own_l20 p0)), .val (.long (own_Y p1)), .second, .val (.ref a_523), .val (.int (0 : Int32)), .val (.int (1 : Int32)), .val (.int (0 : Int32)), .val (.int (own_pl p3 (own_l20 p0))), .val (.int (own_cc p2)), .val (.int (own_cc p3)), .unset, .unset, .unset, .unset, .unset, .unset, .unset] [(.ref a_817)])) rfl (by rw [hml]; rfl) (argsL := [(.ref a_817)]) (rest := []) (lenOf pd_368 rfl) rfl (by show 2 * 0 + _ ≤ _; exact Nat.le_of_eq rfl) (hb hby at_490) (fun _ _ => ⟨rfl, rfl, (by decide : 4 + 0 ≤ _), (by decide : 61 + 0 ≤ _)⟩)
        dsimp only [Pt.U, Pt.locs, Pt.cells, Pt.slots] at X_839 l_839 y_839 z_839 st_839 hQ_839
        have X_839 := own_cast X_839 l_839 y_839 z_839
        obtain ⟨rfl, N_840, e_841⟩ := hQ_839
        have N_842 := Fr.app N_835 N_840
        have e_843 : T_839.heap = T_825.heap := e_841
        have K_844 : Keep h0 T_825.heap [] := (((K_703.wr W_802 (Or.inr (Nat.le_trans (Nat.le_trans (Nat.le_trans (Nat.le_trans (Nat.le_trans (Nat.le_trans (Nat.le_trans (Nat.le_trans (Nat.le_trans (Nat.le_trans (Nat.le_trans (Nat.le_trans (Nat.le_trans (Nat.le_trans (Nat.le_trans (Nat.le_trans (Nat.le_trans (Nat.le_trans (Nat.le_trans (Nat.le_trans E_6.1 (Keep.of_wr W_26).1) (Keep.of_wr W_44).1) (Keep.of_wr W_62).1) (Keep.of_wr W_80).1) (Keep.of_wr W_98).1) (Keep.of_wr W_116).1) (Keep.of_wr W_134).1) (Keep.of_wr W_152).1) (Keep.of_wr W_171).1) (Keep.of_wr W_189).1) (Keep.of_wr W_207).1) (Keep.of_wr W_225).1) (Keep.of_wr W_243).1) (Keep.of_wr W_261).1) (Keep.of_wr W_279).1) (Keep.of_wr W_297).1) (Keep.of_wr W_315).1) (Keep.of_wr W_334).1) (Keep.of_wr W_352).1) (Nat.le_of_eq g_524.symm)))).ext E_813).trans K_829 (allS (Or.inr (Nat.le_trans (Nat.le_trans (Nat.le_trans (Nat.le_trans (Nat.le_trans (Nat.le_trans (Nat.le_trans (Nat.le_trans (Nat.le_trans (Nat.le_trans (Nat.le_trans (Nat.le_trans (Nat.le_trans (Nat.le_trans (Nat.le_trans (Nat.le_trans (Nat.le_trans (Nat.le_trans (Nat.le_trans (Nat.le_trans (Nat.le_trans (Nat.le_trans (Nat.le_trans (Nat.le_trans (Nat.le_trans (Nat.le_trans (Nat.le_trans (Nat.le_trans (Nat.le_trans (Nat.le_trans (Nat.le_trans (Nat.le_trans (Nat.le_trans (Nat.le_trans (Nat.le_trans (Nat.le_trans (Nat.le_trans (Nat.le_trans (Nat.le_trans (Nat.le_trans (Nat.le_trans E_6.1 (Keep.of_wr W_26).1) (Keep.of_wr W_44).1) (Keep.of_wr W_62).1) (Keep.of_wr W_80).1) (Keep.of_wr W_98).1) (Keep.of_wr W_116).1) (Keep.of_wr W_134).1) (Keep.of_wr W_152).1) (Keep.of_wr W_171).1) (Keep.of_wr W_189).1) (Keep.of_wr W_207).1) (Keep.of_wr W_225).1) (Keep.of_wr W_243).1) (Keep.of_wr W_261).1) (Keep.of_wr W_279).1) (Keep.of_wr W_297).1) (Keep.of_wr W_315).1) (Keep.of_wr W_334).1) (Keep.of_wr W_352).1) E_520.1) K_534.1) K_543.1) K_552.1) K_561.1) K_570.1) K_580.1) K_589.1) K_598.1) K_607.1) K_616.1) K_625.1) K_634.1) K_644.1) K_653.1) K_662.1) K_671.1) K_680.1) K_689.1) K_698.1) (Keep.of_wr W_802).1) (Nat.le_of_eq g_818.symm))) all0))
        have C_845 : Steps p.tables e below S0 (T_839.setTop (mkF m 528 #[.val (.int p0), .val (.long p1), .second, .val (.int p2), .val (.int p3), .val (.ref a_9), .val (.int (own_l20 p0)), .val (.long (own_Y p1)), .second, .val (.ref a_523), .val (.int (0 : Int32)), .val (.int (1 : Int32)), .val (.int (0 : Int32)), .val (.int (own_pl p3 (own_l20 p0))), .val (.int (own_cc p2)), .val (.int (own_cc p3)), .val (.long (own_value ((own_ds (own_Y p1) (own_l20 p0)).set (own_pl p3 (own_l20 p0)).toNatClampNeg (own_cc p3)))), .second, .val (.int (0 : Int32)), .unset, .unset, .unset, .unset] [(.int (18 : Int32)), (.int (own_l20 p0))])) := by
          refine C_790.trans ?_
          refine st_803 _ ?_
          refine st_816 _ ?_
          refine XS.dup X_811.here hx rfl (hb hby at_484) rfl rfl ?_
          refine XS.aload X_811.here hx rfl (hb hby at_485) rfl rfl ?_
          refine st_825.trans ?_
          refine st_839 _ ?_
          refine XS.lstore X_839.here hx rfl (hb hby at_493) rfl (l' := #[.val (.int p0), .val (.long p1), .second, .val (.int p2), .val (.int p3), .val (.ref a_9), .val (.int (own_l20 p0)), .val (.long (own_Y p1)), .second, .val (.ref a_523), .val (.int (0 : Int32)), .val (.int (1 : Int32)), .val (.int (0 : Int32)), .val (.int (own_pl p3 (own_l20 p0))), .val (.int (own_cc p2)), .val (.int (own_cc p3)), .val (.long (own_value ((own_ds (own_Y p1) (own_l20 p0)).set (own_pl p3 (own_l20 p0)).toNatClampNeg (own_cc p3)))), .second, .unset, .unset, .unset, .unset, .unset]) rfl ?_
          refine XS.iload X_839.here hx rfl (hb hby at_495) rfl ?_
          show Steps p.tables e below (T_839.setTop (mkF m 497 #[.val (.int p0), .val (.long p1), .second, .val (.int p2), .val (.int p3), .val (.ref a_9), .val (.int (own_l20 p0)), .val (.long (own_Y p1)), .second, .val (.ref a_523), .val (.int (0 : Int32)), .val (.int (1 : Int32)), .val (.int (0 : Int32)), .val (.int (own_pl p3 (own_l20 p0))), .val (.int (own_cc p2)), .val (.int (own_cc p3)), .val (.long (own_value ((own_ds (own_Y p1) (own_l20 p0)).set (own_pl p3 (own_l20 p0)).toNatClampNeg (own_cc p3)))), .second, .unset, .unset, .unset, .unset, .unset] [(.int (0 : Int32))])) _
          refine XS.ifYes X_839.here hx rfl (pc0 := 497) (pc' := 516) rfl (hb hby at_497) rfl (by decide) (by decide) (by decide) ?_
          refine XS.iconst X_839.here hx rfl (hb hby at_516) ?_
          refine XS.istore X_839.here hx rfl (hb hby at_517) rfl (l' := #[.val (.int p0), .val (.long p1), .second, .val (.int p2), .val (.int p3), .val (.ref a_9), .val (.int (own_l20 p0)), .val (.long (own_Y p1)), .second, .val (.ref a_523), .val (.int (0 : Int32)), .val (.int (1 : Int32)), .val (.int (0 : Int32)), .val (.int (own_pl p3 (own_l20 p0))), .val (.int (own_cc p2)), .val (.int (own_cc p3)), .val (.long (own_value ((own_ds (own_Y p1) (own_l20 p0)).set (own_pl p3 (own_l20 p0)).toNatClampNeg (own_cc p3)))), .second, .val (.int (0 : Int32)), .unset, .unset, .unset, .unset]) rfl ?_
          refine XS.iload X_839.here hx rfl (hb hby at_519) rfl ?_
          refine XS.ifNo X_839.here hx rfl (hb hby at_521) rfl (i0_eq_f hn_361) ?_
          refine XS.iload X_839.here hx rfl (hb hby at_524) rfl ?_
          refine XS.bipush X_839.here hx rfl (hb hby at_526) ?_
          exact Steps.refl _
        by_cases hc_846 : (18 : Int32) < (own_l20 p0)
        · skip
          have C_847 : Steps p.tables e below S0 (T_839.setTop (mkF m 685 #[.val (.int p0), .val (.long p1), .second, .val (.int p2), .val (.int p3), .val (.ref a_9), .val (.int (own_l20 p0)), .val (.long (own_Y p1)), .second, .val (.ref a_523), .val (.int (0 : Int32)), .val (.int (1 : Int32)), .val (.int (0 : Int32)), .val (.int (own_pl p3 (own_l20 p0))), .val (.int (own_cc p2)), .val (.int (own_cc p3)), .val (.long (own_value ((own_ds (own_Y p1) (own_l20 p0)).set (own_pl p3 (own_l20 p0)).toNatClampNeg (own_cc p3)))), .second, .val (.int (0 : Int32)), .val (.long (-1 : Int64)), .second, .unset, .unset] [(.int (1 : Int32))])) := by
            refine C_845.trans ?_
            refine XS.icmpYes X_839.here hx rfl (pc0 := 528) (pc' := 572) rfl (hb hby at_528) rfl (ii_gt_t hc_846) (by decide) (by decide) ?_
            refine X_839.ldc2J hx hown (mvT hZ (w62 hw)) rfl (hb hby at_572) ?_
            refine XS.lstore X_839.here hx rfl (hb hby at_575) rfl (l' := #[.val (.int p0), .val (.long p1), .second, .val (.int p2), .val (.int p3), .val (.ref a_9), .val (.int (own_l20 p0)), .val (.long (own_Y p1)), .second, .val (.ref a_523), .val (.int (0 : Int32)), .val (.int (1 : Int32)), .val (.int (0 : Int32)), .val (.int (own_pl p3 (own_l20 p0))), .val (.int (own_cc p2)), .val (.int (own_cc p3)), .val (.long (own_value ((own_ds (own_Y p1) (own_l20 p0)).set (own_pl p3 (own_l20 p0)).toNatClampNeg (own_cc p3)))), .second, .val (.int (0 : Int32)), .val (.long (-1 : Int64)), .second, .unset, .unset]) rfl ?_
            refine XS.goto X_839.here hx rfl (pc0 := 577) (pc' := 672) rfl (hb hby at_577) (by decide) (by decide) ?_
            refine XS.lload X_839.here hx rfl (hb hby at_672) rfl ?_
            refine XS.lload X_839.here hx rfl (hb hby at_674) rfl ?_
            refine XS.lcmp X_839.here hx rfl (hb hby at_676) rfl ?_
            refine XS.ifNo X_839.here hx rfl (hb hby at_677) rfl (i0_ne_f ((lw_eq (own_value ((own_ds (own_Y p1) (own_l20 p0)).set (own_pl p3 (own_l20 p0)).toNatClampNeg (own_cc p3))) (-1 : Int64)).mpr (own_vlong (own_setlen (own_dsl _ _)) hc_846))) ?_
            show Steps p.tables e below (T_839.setTop (mkF m 680 #[.val (.int p0), .val (.long p1), .second, .val (.int p2), .val (.int p3), .val (.ref a_9), .val (.int (own_l20 p0)), .val (.long (own_Y p1)), .second, .val (.ref a_523), .val (.int (0 : Int32)), .val (.int (1 : Int32)), .val (.int (0 : Int32)), .val (.int (own_pl p3 (own_l20 p0))), .val (.int (own_cc p2)), .val (.int (own_cc p3)), .val (.long (own_value ((own_ds (own_Y p1) (own_l20 p0)).set (own_pl p3 (own_l20 p0)).toNatClampNeg (own_cc p3)))), .second, .val (.int (0 : Int32)), .val (.long (-1 : Int64)), .second, .unset, .unset] [])) _
            refine XS.iconst X_839.here hx rfl (hb hby at_680) ?_
            refine XS.goto X_839.here hx rfl (pc0 := 681) (pc' := 685) rfl (hb hby at_681) (by decide) (by decide) ?_
            exact Steps.refl _
          have K_848 : Keep h0 T_825.heap [] := K_844
          obtain ⟨fs, hr, hrun, hended, hRE⟩ := X_839.leaveW hS0 (by rw [show T_839.heap = T_825.heap from e_843]; exact (Nat.le_trans (Nat.le_refl _) (Nat.le_trans (Nat.le_trans (Nat.le_trans (Nat.le_trans (Nat.le_trans (Nat.le_trans (Nat.le_trans (Nat.le_trans (Nat.le_trans (Nat.le_trans (Nat.le_trans (Nat.le_trans (Nat.le_trans (Nat.le_trans (Nat.le_trans (Nat.le_trans (Nat.le_trans (Nat.le_trans (Nat.le_trans (Nat.le_trans (Nat.le_trans (Nat.le_trans (Nat.le_trans (Nat.le_trans (Nat.le_trans (Nat.le_trans (Nat.le_trans (Nat.le_trans (Nat.le_trans (Nat.le_trans (Nat.le_trans (Nat.le_trans (Nat.le_trans (Nat.le_trans (Nat.le_trans (Nat.le_trans (Nat.le_trans (Nat.le_trans (Nat.le_trans (Nat.le_trans (Nat.le_trans (Nat.le_trans E_6.1 (Keep.of_wr W_26).1) (Keep.of_wr W_44).1) (Keep.of_wr W_62).1) (Keep.of_wr W_80).1) (Keep.of_wr W_98).1) (Keep.of_wr W_116).1) (Keep.of_wr W_134).1) (Keep.of_wr W_152).1) (Keep.of_wr W_171).1) (Keep.of_wr W_189).1) (Keep.of_wr W_207).1) (Keep.of_wr W_225).1) (Keep.of_wr W_243).1) (Keep.of_wr W_261).1) (Keep.of_wr W_279).1) (Keep.of_wr W_297).1) (Keep.of_wr W_315).1) (Keep.of_wr W_334).1) (Keep.of_wr W_352).1) E_520.1) K_534.1) K_543.1) K_552.1) K_561.1) K_570.1) K_580.1) K_589.1) K_598.1) K_607.1) K_616.1) K_625.1) K_634.1) K_644.1) K_653.1) K_662.1) K_671.1) K_680.1) K_689.1) K_698.1) (Keep.of_wr W_802).1) E_813.1) K_829.1))) (v := some (.int (1 : Int32))) (fun h => by rw [Bd.returns] at h; cases h)
          refine ⟨_, _, C_847.trans (retN X_839 hx (t := .boolean) Bd.returns (by simp) (hb hby at_685) hr), hrun, hended, _, _, rfl, ?_, ?_, hRE.1, hRE.2.1, hRE.2.2.1, hRE.2.2.2.mono (by decide) (by decide)⟩
          · show Q_law Z G1 G3 p0 p1 p2 p3 h0 n0 (some (.int (1 : Int32))) T_839.heap _
            rw [e_843]
            exact ⟨rfl, N_842, K_848⟩
          · show CHr Z consts_1 s.vm s.heap T_839.vm T_839.heap
            rw [hh, show T_839.heap = T_825.heap from e_843]
            exact CR_837.trans (CHv.at X_839 hZ hEL CH_836)
        · skip
          obtain ⟨_, _, ⟨T_849, L_849, k_849, n_849⟩, -, X_849, ⟨Lc_849, hQ_849, l_849, y_849, z_849⟩, st_849⟩ := Jvm.LawKit.callS X_839 hx (y := M257) hown (mvT hZ (w100 hw)) (mvT hZ (w101 hw)) (mvT hZ (w23 hw)) (mvT hZ (w102 hw)) (by decide) (backOf (W := 0) (rm_isdg l Z a0 hw [] G1 G3 HG T_825.heap n0 O_838 (own_cc p3) ) hZ (w102 hw) (w23 hw) (by decide) (by decide)) (g := (mkF m 551 #[.val (.int p0), .val (.long p1), .second, .val (.int p2), .val (.int p3), .val (.ref a_9), .val (.int (own_l20 p0)), .val (.long (own_Y p1)), .second, .val (.ref a_523), .val (.int (0 : Int32)), .val (.int (1 : Int32)), .val (.int (0 : Int32)), .val (.int (own_pl p3 (own_l20 p0))), .val (.int (own_cc p2)), .val (.int (own_cc p3)), .val (.long (own_value ((own_ds (own_Y p1) (own_l20 p0)).set (own_pl p3 (own_l20 p0)).toNatClampNeg (own_cc p3)))), .second, .val (.int (0 : Int32)), .unset, .unset, .unset, .unset] [(.int (own_cc p3))])) rfl (by rw [hml]; rfl) (argsL := [(.int (own_cc p3))]) (rest := []) (lenOf pd_374 rfl) rfl (by show 2 * 0 + _ ≤ _; exact Nat.le_of_eq rfl) (hb hby at_551) (fun _ _ => ⟨rfl, e_843, (by decide : 4 + 0 ≤ _), (by decide : 61 + 0 ≤ _)⟩)
          dsimp only [Pt.U, Pt.locs, Pt.cells, Pt.slots] at X_849 l_849 y_849 z_849 st_849 hQ_849
          have X_849 := own_cast X_849 l_849 y_849 z_849
          have C_850 : Steps p.tables e below S0 (T_839.setTop (mkF m 551 #[.val (.int p0), .val (.long p1), .second, .val (.int p2), .val (.int p3), .val (.ref a_9), .val (.int (own_l20 p0)), .val (.long (own_Y p1)), .second, .val (.ref a_523), .val (.int (0 : Int32)), .val (.int (1 : Int32)), .val (.int (0 : Int32)), .val (.int (own_pl p3 (own_l20 p0))), .val (.int (own_cc p2)), .val (.int (own_cc p3)), .val (.long (own_value ((own_ds (own_Y p1) (own_l20 p0)).set (own_pl p3 (own_l20 p0)).toNatClampNeg (own_cc p3)))), .second, .val (.int (0 : Int32)), .unset, .unset, .unset, .unset] [(.int (own_cc p3))])) := by
            refine C_845.trans ?_
            refine XS.icmpNo X_839.here hx rfl (hb hby at_528) rfl (ii_gt_f hc_846) ?_
            refine XS.iload X_839.here hx rfl (hb hby at_531) rfl ?_
            refine XS.ifYes X_839.here hx rfl (pc0 := 533) (pc' := 544) rfl (hb hby at_533) rfl (by decide) (by decide) (by decide) ?_
            refine XS.iload X_839.here hx rfl (hb hby at_544) rfl ?_
            refine XS.ifNo X_839.here hx rfl (hb hby at_546) rfl (by decide) ?_
            refine XS.iload X_839.here hx rfl (hb hby at_549) rfl ?_
            exact Steps.refl _
          rcases hQ_849 with hQ_851 | hQ_852
          · skip
            obtain ⟨rfl, N_853, e_854, g_855⟩ := hQ_851
            have N_856 := Fr.app N_842 N_853
            have e_857 : T_849.heap = T_825.heap := e_854
            have C_858 : Steps p.tables e below S0 (T_849.setTop (mkF m 560 #[.val (.int p0), .val (.long p1), .second, .val (.int p2), .val (.int p3), .val (.ref a_9), .val (.int (own_l20 p0)), .val (.long (own_Y p1)), .second, .val (.ref a_523), .val (.int (0 : Int32)), .val (.int (1 : Int32)), .val (.int (0 : Int32)), .val (.int (own_pl p3 (own_l20 p0))), .val (.int (own_cc p2)), .val (.int (own_cc p3)), .val (.long (own_value ((own_ds (own_Y p1) (own_l20 p0)).set (own_pl p3 (own_l20 p0)).toNatClampNeg (own_cc p3)))), .second, .val (.int (0 : Int32)), .unset, .unset, .unset, .unset] [(.int (1 : Int32)), (.int (own_l20 p0))])) := by
              refine C_850.trans ?_
              refine st_849 _ ?_
              refine XS.ifNo X_849.here hx rfl (hb hby at_554) rfl (by decide) ?_
              refine XS.iload X_849.here hx rfl (hb hby at_557) rfl ?_
              refine XS.iconst X_849.here hx rfl (hb hby at_559) ?_
              exact Steps.refl _
            by_cases hc_859 : (1 : Int32) < (own_l20 p0)
            · skip
              have V_860 : Arv Z T_825.heap a_523 k_517 .char (own_l20 p0) (own_iv ((own_ds (own_Y p1) (own_l20 p0)).set (own_pl p3 (own_l20 p0)).toNatClampNeg (own_cc p3))) (.int (0 : Int32)) := (V_823.keep K_829 (ninS (Nat.ne_of_lt (Nat.lt_of_lt_of_le V_808.lt (Nat.le_trans (Nat.le_refl _) (Nat.le_of_eq g_818.symm)))) nin0))
              obtain ⟨c_861, A_862, q_863, S_864, M_865, H_866, U_867⟩ := id V_860
              have hin_868 : ¬ ((0 : Int32) < 0 ∨ c_861.slots.size ≤ (0 : Int32).toNatClampNeg) := inb_of S_864 ⟨(by decide : ¬ ((0 : Int32) < (0 : Int32))), hp_512⟩
              have hat_869 : c_861.slots[(0 : Int32).toNatClampNeg]? = some (.int (own_gt ((own_ds (own_Y p1) (own_l20 p0)).set (own_pl p3 (own_l20 p0)).toNatClampNeg (own_cc p3)) (0 : Int32))) := Has.at H_866 hin_868 (own_iv_at ((own_ds (own_Y p1) (own_l20 p0)).set (own_pl p3 (own_l20 p0)).toNatClampNeg (own_cc p3)) (0 : Int32))
              have C_870 : Steps p.tables e below S0 (T_849.setTop (mkF m 569 #[.val (.int p0), .val (.long p1), .second, .val (.int p2), .val (.int p3), .val (.ref a_9), .val (.int (own_l20 p0)), .val (.long (own_Y p1)), .second, .val (.ref a_523), .val (.int (0 : Int32)), .val (.int (1 : Int32)), .val (.int (0 : Int32)), .val (.int (own_pl p3 (own_l20 p0))), .val (.int (own_cc p2)), .val (.int (own_cc p3)), .val (.long (own_value ((own_ds (own_Y p1) (own_l20 p0)).set (own_pl p3 (own_l20 p0)).toNatClampNeg (own_cc p3)))), .second, .val (.int (0 : Int32)), .unset, .unset, .unset, .unset] [(.int (48 : Int32)), (.int (own_gt ((own_ds (own_Y p1) (own_l20 p0)).set (own_pl p3 (own_l20 p0)).toNatClampNeg (own_cc p3)) (0 : Int32)))])) := by
                refine C_858.trans ?_
                refine XS.icmpNo X_849.here hx rfl (hb hby at_560) rfl (ii_le_f hc_859) ?_
                refine XS.aload X_849.here hx rfl (hb hby at_563) rfl rfl ?_
                refine XS.iconst X_849.here hx rfl (hb hby at_565) ?_
                refine X_849.caload hx (j := (0 : Int32)) (v := (.int (own_gt ((own_ds (own_Y p1) (own_l20 p0)).set (own_pl p3 (own_l20 p0)).toNatClampNeg (own_cc p3)) (0 : Int32)))) (by rw [e_857]; exact A_862.1) (State.isArrayOf_alike hZ.alike A_862.2.1) A_862.2.2 hin_868 hat_869 (g := (mkF m 566 #[.val (.int p0), .val (.long p1), .second, .val (.int p2), .val (.int p3), .val (.ref a_9), .val (.int (own_l20 p0)), .val (.long (own_Y p1)), .second, .val (.ref a_523), .val (.int (0 : Int32)), .val (.int (1 : Int32)), .val (.int (0 : Int32)), .val (.int (own_pl p3 (own_l20 p0))), .val (.int (own_cc p2)), .val (.int (own_cc p3)), .val (.long (own_value ((own_ds (own_Y p1) (own_l20 p0)).set (own_pl p3 (own_l20 p0)).toNatClampNeg (own_cc p3)))), .second, .val (.int (0 : Int32)), .unset, .unset, .unset, .unset] [(.int (0 : Int32)), (.ref a_523)])) rfl rfl (hb hby at_566) _ ?_
                refine XS.bipush X_849.here hx rfl (hb hby at_567) ?_
                exact Steps.refl _
              by_cases hc_871 : (own_gt ((own_ds (own_Y p1) (own_l20 p0)).set (own_pl p3 (own_l20 p0)).toNatClampNeg (own_cc p3)) (0 : Int32)) = (48 : Int32)
              · skip
                have C_872 : Steps p.tables e below S0 (T_849.setTop (mkF m 685 #[.val (.int p0), .val (.long p1), .second, .val (.int p2), .val (.int p3), .val (.ref a_9), .val (.int (own_l20 p0)), .val (.long (own_Y p1)), .second, .val (.ref a_523), .val (.int (0 : Int32)), .val (.int (1 : Int32)), .val (.int (0 : Int32)), .val (.int (own_pl p3 (own_l20 p0))), .val (.int (own_cc p2)), .val (.int (own_cc p3)), .val (.long (own_value ((own_ds (own_Y p1) (own_l20 p0)).set (own_pl p3 (own_l20 p0)).toNatClampNeg (own_cc p3)))), .second, .val (.int (0 : Int32)), .val (.long (-1 : Int64)), .second, .unset, .unset] [(.int (1 : Int32))])) := by
                  refine C_870.trans ?_
                  refine XS.icmpNo X_849.here hx rfl (hb hby at_569) rfl (ii_ne_f hc_871) ?_
                  refine X_849.ldc2J hx hown (mvT hZ (w62 hw)) rfl (hb hby at_572) ?_
                  refine XS.lstore X_849.here hx rfl (hb hby at_575) rfl (l' := #[.val (.int p0), .val (.long p1), .second, .val (.int p2), .val (.int p3), .val (.ref a_9), .val (.int (own_l20 p0)), .val (.long (own_Y p1)), .second, .val (.ref a_523), .val (.int (0 : Int32)), .val (.int (1 : Int32)), .val (.int (0 : Int32)), .val (.int (own_pl p3 (own_l20 p0))), .val (.int (own_cc p2)), .val (.int (own_cc p3)), .val (.long (own_value ((own_ds (own_Y p1) (own_l20 p0)).set (own_pl p3 (own_l20 p0)).toNatClampNeg (own_cc p3)))), .second, .val (.int (0 : Int32)), .val (.long (-1 : Int64)), .second, .unset, .unset]) rfl ?_
                  refine XS.goto X_849.here hx rfl (pc0 := 577) (pc' := 672) rfl (hb hby at_577) (by decide) (by decide) ?_
                  refine XS.lload X_849.here hx rfl (hb hby at_672) rfl ?_
                  refine XS.lload X_849.here hx rfl (hb hby at_674) rfl ?_
                  refine XS.lcmp X_849.here hx rfl (hb hby at_676) rfl ?_
                  refine XS.ifNo X_849.here hx rfl (hb hby at_677) rfl (i0_ne_f ((lw_eq (own_value ((own_ds (own_Y p1) (own_l20 p0)).set (own_pl p3 (own_l20 p0)).toNatClampNeg (own_cc p3))) (-1 : Int64)).mpr (own_vzero (own_setlen (own_dsl _ _)) hc_859 hc_871))) ?_
                  show Steps p.tables e below (T_849.setTop (mkF m 680 #[.val (.int p0), .val (.long p1), .second, .val (.int p2), .val (.int p3), .val (.ref a_9), .val (.int (own_l20 p0)), .val (.long (own_Y p1)), .second, .val (.ref a_523), .val (.int (0 : Int32)), .val (.int (1 : Int32)), .val (.int (0 : Int32)), .val (.int (own_pl p3 (own_l20 p0))), .val (.int (own_cc p2)), .val (.int (own_cc p3)), .val (.long (own_value ((own_ds (own_Y p1) (own_l20 p0)).set (own_pl p3 (own_l20 p0)).toNatClampNeg (own_cc p3)))), .second, .val (.int (0 : Int32)), .val (.long (-1 : Int64)), .second, .unset, .unset] [])) _
                  refine XS.iconst X_849.here hx rfl (hb hby at_680) ?_
                  refine XS.goto X_849.here hx rfl (pc0 := 681) (pc' := 685) rfl (hb hby at_681) (by decide) (by decide) ?_
                  exact Steps.refl _
                have K_873 : Keep h0 T_825.heap [] := K_844
                obtain ⟨fs, hr, hrun, hended, hRE⟩ := X_849.leaveW hS0 (by rw [show T_849.heap = T_825.heap from e_857]; exact (Nat.le_trans (Nat.le_refl _) (Nat.le_trans (Nat.le_trans (Nat.le_trans (Nat.le_trans (Nat.le_trans (Nat.le_trans (Nat.le_trans (Nat.le_trans (Nat.le_trans (Nat.le_trans (Nat.le_trans (Nat.le_trans (Nat.le_trans (Nat.le_trans (Nat.le_trans (Nat.le_trans (Nat.le_trans (Nat.le_trans (Nat.le_trans (Nat.le_trans (Nat.le_trans (Nat.le_trans (Nat.le_trans (Nat.le_trans (Nat.le_trans (Nat.le_trans (Nat.le_trans (Nat.le_trans (Nat.le_trans (Nat.le_trans (Nat.le_trans (Nat.le_trans (Nat.le_trans (Nat.le_trans (Nat.le_trans (Nat.le_trans (Nat.le_trans (Nat.le_trans (Nat.le_trans (Nat.le_trans (Nat.le_trans (Nat.le_trans E_6.1 (Keep.of_wr W_26).1) (Keep.of_wr W_44).1) (Keep.of_wr W_62).1) (Keep.of_wr W_80).1) (Keep.of_wr W_98).1) (Keep.of_wr W_116).1) (Keep.of_wr W_134).1) (Keep.of_wr W_152).1) (Keep.of_wr W_171).1) (Keep.of_wr W_189).1) (Keep.of_wr W_207).1) (Keep.of_wr W_225).1) (Keep.of_wr W_243).1) (Keep.of_wr W_261).1) (Keep.of_wr W_279).1) (Keep.of_wr W_297).1) (Keep.of_wr W_315).1) (Keep.of_wr W_334).1) (Keep.of_wr W_352).1) E_520.1) K_534.1) K_543.1) K_552.1) K_561.1) K_570.1) K_580.1) K_589.1) K_598.1) K_607.1) K_616.1) K_625.1) K_634.1) K_644.1) K_653.1) K_662.1) K_671.1) K_680.1) K_689.1) K_698.1) (Keep.of_wr W_802).1) E_813.1) K_829.1))) (v := some (.int (1 : Int32))) (fun h => by rw [Bd.returns] at h; cases h)
                refine ⟨_, _, C_872.trans (retN X_849 hx (t := .boolean) Bd.returns (by simp) (hb hby at_685) hr), hrun, hended, _, _, rfl, ?_, ?_, hRE.1, hRE.2.1, hRE.2.2.1, hRE.2.2.2.mono (by decide) (by decide)⟩
                · show Q_law Z G1 G3 p0 p1 p2 p3 h0 n0 (some (.int (1 : Int32))) T_849.heap _
                  rw [e_857]
                  exact ⟨rfl, N_856, K_873⟩
                · show CHr Z consts_1 s.vm s.heap T_849.vm T_849.heap
                  rw [hh, show T_849.heap = T_825.heap from e_857]
                  exact CR_837.trans (CHv.at X_849 hZ hEL CH_836)
              · skip
                have V_874 : Arv Z T_825.heap a_9 k_3 .long (19 : Int32) (own_jv own_pws) (.long (0 : Int64)) := ((((V_694.keep K_698 (ninS (Nat.ne_of_lt (Nat.lt_of_lt_of_le V_359.lt (Nat.le_trans (Nat.le_refl _) (Nat.le_of_eq g_524.symm)))) nin0)).other W_802 (Nat.ne_of_lt (Nat.lt_of_lt_of_le V_359.lt (Nat.le_trans (Nat.le_refl _) (Nat.le_of_eq g_524.symm))))).ext E_813).keep K_829 (ninS (Nat.ne_of_lt (Nat.lt_of_lt_of_le V_359.lt (Nat.le_trans (Nat.le_trans (Nat.le_trans (Nat.le_trans (Nat.le_trans (Nat.le_trans (Nat.le_trans (Nat.le_trans (Nat.le_trans (Nat.le_trans (Nat.le_trans (Nat.le_trans (Nat.le_trans (Nat.le_trans (Nat.le_trans (Nat.le_trans (Nat.le_trans (Nat.le_trans (Nat.le_trans (Nat.le_trans (Nat.le_trans E_520.1 K_534.1) K_543.1) K_552.1) K_561.1) K_570.1) K_580.1) K_589.1) K_598.1) K_607.1) K_616.1) K_625.1) K_634.1) K_644.1) K_653.1) K_662.1) K_671.1) K_680.1) K_689.1) K_698.1) (Keep.of_wr W_802).1) (Nat.le_of_eq g_818.symm)))) nin0))
                obtain ⟨c_875, A_876, q_877, S_878, M_879, H_880, U_881⟩ := id V_874
                have hin_882 : ¬ ((own_l20 p0) < 0 ∨ c_875.slots.size ≤ (own_l20 p0).toNatClampNeg) := inb_of S_878 ⟨(own_l0 p0), (own_l18 hc_846).1⟩
                have hat_883 : c_875.slots[(own_l20 p0).toNatClampNeg]? = some (.long (own_gj own_pws (own_l20 p0))) := Has.at H_880 hin_882 (own_jv_at own_pws (own_l20 p0))
                obtain ⟨_, _, ⟨T_884, L_884, k_884, n_884⟩, -, X_884, ⟨Lc_884, hQ_884, l_884, y_884, z_884⟩, st_884⟩ := Jvm.LawKit.callS X_849 hx (y := M216) hown (mvT hZ (w63 hw)) (mvT hZ (w64 hw)) (mvT hZ (w23 hw)) (mvT hZ (w65 hw)) (by decide) (backOf (W := 4) (rm_digit l Z a0 hw [] G1 G3 HG T_825.heap n0 O_838 a_9 k_3 (own_Y p1) (own_l20 p0) (own_pl p3 (own_l20 p0)) V_874 hr_514.1 hr_514.2 (own_l19 p0)) hZ (w65 hw) (w23 hw) (by decide) (by decide)) (g := (mkF m 650 #[.val (.int p0), .val (.long p1), .second, .val (.int p2), .val (.int p3), .val (.ref a_9), .val (.int (own_l20 p0)), .val (.long (own_Y p1)), .second, .val (.ref a_523), .val (.int (0 : Int32)), .val (.int (1 : Int32)), .val (.int (0 : Int32)), .val (.int (own_pl p3 (own_l20 p0))), .val (.int (own_cc p2)), .val (.int (own_cc p3)), .val (.long (own_value ((own_ds (own_Y p1) (own_l20 p0)).set (own_pl p3 (own_l20 p0)).toNatClampNeg (own_cc p3)))), .second, .val (.int (0 : Int32)), .unset, .unset, .val (.long ((own_Y p1) - ((own_Y p1) / (own_gj own_pws (own_l20 p0))) * (own_gj own_pws (own_l20 p0)))), .second] [(.int (own_pl p3 (own_l20 p0))), (.int (own_l20 p0)), (.long (own_Y p1)), (.ref a_9), (.long (((own_cc p3) - (48 : Int32)).toInt64)), (.long ((own_Y p1) - ((own_Y p1) / (own_gj own_pws (own_l20 p0))) * (own_gj own_pws (own_l20 p0))))])) rfl (by rw [hml]; rfl) (argsL := [(.ref a_9), (.long (own_Y p1)), (.int (own_l20 p0)), (.int (own_pl p3 (own_l20 p0)))]) (rest := [(.long (((own_cc p3) - (48 : Int32)).toInt64)), (.long ((own_Y p1) - ((own_Y p1) / (own_gj own_pws (own_l20 p0))) * (own_gj own_pws (own_l20 p0))))]) (lenOf pd_248 rfl) rfl (by show 2 * 0 + _ ≤ _; exact Nat.le_of_eq rfl) (hb hby at_650) (fun _ _ => ⟨rfl, e_857, (by decide : 4 + 0 ≤ _), (by decide : 61 + 0 ≤ _)⟩)
                dsimp only [Pt.U, Pt.locs, Pt.cells, Pt.slots] at X_884 l_884 y_884 z_884 st_884 hQ_884
                have X_884 := own_cast X_884 l_884 y_884 z_884
                obtain ⟨rfl, N_885, e_886⟩ := hQ_884
                have N_887 := Fr.app N_856 N_885
                have e_888 : T_884.heap = T_825.heap := e_886
                obtain ⟨c_889, A_890, q_891, S_892, M_893, H_894, U_895⟩ := id V_874
                have hin_896 : ¬ ((((own_l20 p0) - (1 : Int32)) - (own_pl p3 (own_l20 p0))) < 0 ∨ c_889.slots.size ≤ (((own_l20 p0) - (1 : Int32)) - (own_pl p3 (own_l20 p0))).toNatClampNeg) := inb_of S_892 ⟨(own_sub_nat hr_514.1 hr_514.2).2.1, (own_lt19 hr_514.1 hr_514.2 (own_l19 p0)).2.1⟩
                have hat_897 : c_889.slots[(((own_l20 p0) - (1 : Int32)) - (own_pl p3 (own_l20 p0))).toNatClampNeg]? = some (.long (own_gj own_pws (((own_l20 p0) - (1 : Int32)) - (own_pl p3 (own_l20 p0))))) := Has.at H_894 hin_896 (own_jv_at own_pws (((own_l20 p0) - (1 : Int32)) - (own_pl p3 (own_l20 p0))))
                have C_898 : Steps p.tables e below S0 (T_884.setTop (mkF m 676 #[.val (.int p0), .val (.long p1), .second, .val (.int p2), .val (.int p3), .val (.ref a_9), .val (.int (own_l20 p0)), .val (.long (own_Y p1)), .second, .val (.ref a_523), .val (.int (0 : Int32)), .val (.int (1 : Int32)), .val (.int (0 : Int32)), .val (.int (own_pl p3 (own_l20 p0))), .val (.int (own_cc p2)), .val (.int (own_cc p3)), .val (.long (own_value ((own_ds (own_Y p1) (own_l20 p0)).set (own_pl p3 (own_l20 p0)).toNatClampNeg (own_cc p3)))), .second, .val (.int (0 : Int32)), .val (.long (((own_Y p1) - ((own_Y p1) / (own_gj own_pws (own_l20 p0))) * (own_gj own_pws (own_l20 p0))) + (((((own_cc p3) - (48 : Int32)).toInt64) - (own_dig (own_Y p1) (own_l20 p0) (own_pl p3 (own_l20 p0)))) * (own_gj own_pws (((own_l20 p0) - (1 : Int32)) - (own_pl p3 (own_l20 p0))))))), .second, .val (.long (((own_Y p1) - ((own_Y p1) / (own_gj own_pws (own_l20 p0))) * (own_gj own_pws (own_l20 p0))) + (((((own_cc p3) - (48 : Int32)).toInt64) - (own_dig (own_Y p1) (own_l20 p0) (own_pl p3 (own_l20 p0)))) * (own_gj own_pws (((own_l20 p0) - (1 : Int32)) - (own_pl p3 (own_l20 p0))))))), .second] [(.long (((own_Y p1) - ((own_Y p1) / (own_gj own_pws (own_l20 p0))) * (own_gj own_pws (own_l20 p0))) + (((((own_cc p3) - (48 : Int32)).toInt64) - (own_dig (own_Y p1) (own_l20 p0) (own_pl p3 (own_l20 p0)))) * (own_gj own_pws (((own_l20 p0) - (1 : Int32)) - (own_pl p3 (own_l20 p0))))))), (.long (own_value ((own_ds (own_Y p1) (own_l20 p0)).set (own_pl p3 (own_l20 p0)).toNatClampNeg (own_cc p3))))])) := by
                  refine C_870.trans ?_
                  refine XS.icmpYes X_849.here hx rfl (pc0 := 569) (pc' := 580) rfl (hb hby at_569) rfl (ii_ne_t hc_871) (by decide) (by decide) ?_
                  refine XS.lload X_849.here hx rfl (hb hby at_580) rfl ?_
                  refine XS.aload X_849.here hx rfl (hb hby at_582) rfl rfl ?_
                  refine XS.iload X_849.here hx rfl (hb hby at_584) rfl ?_
                  refine X_849.laload hx (j := (own_l20 p0)) (v := (.long (own_gj own_pws (own_l20 p0)))) (by rw [e_857]; exact A_876.1) (State.isArrayOf_alike hZ.alike A_876.2.1) A_876.2.2 hin_882 hat_883 (g := (mkF m 586 #[.val (.int p0), .val (.long p1), .second, .val (.int p2), .val (.int p3), .val (.ref a_9), .val (.int (own_l20 p0)), .val (.long (own_Y p1)), .second, .val (.ref a_523), .val (.int (0 : Int32)), .val (.int (1 : Int32)), .val (.int (0 : Int32)), .val (.int (own_pl p3 (own_l20 p0))), .val (.int (own_cc p2)), .val (.int (own_cc p3)), .val (.long (own_value ((own_ds (own_Y p1) (own_l20 p0)).set (own_pl p3 (own_l20 p0)).toNatClampNeg (own_cc p3)))), .second, .val (.int (0 : Int32)), .unset, .unset, .unset, .unset] [(.int (own_l20 p0)), (.ref a_9), (.long (own_Y p1))])) rfl rfl (hb hby at_586) _ ?_
                  refine XS.lrem X_849.here hx rfl (hb hby at_587) rfl (own_pnz (own_l18 hc_846).2) ?_
                  refine XS.lstore X_849.here hx rfl (hb hby at_588) rfl (l' := #[.val (.int p0), .val (.long p1), .second, .val (.int p2), .val (.int p3), .val (.ref a_9), .val (.int (own_l20 p0)), .val (.long (own_Y p1)), .second, .val (.ref a_523), .val (.int (0 : Int32)), .val (.int (1 : Int32)), .val (.int (0 : Int32)), .val (.int (own_pl p3 (own_l20 p0))), .val (.int (own_cc p2)), .val (.int (own_cc p3)), .val (.long (own_value ((own_ds (own_Y p1) (own_l20 p0)).set (own_pl p3 (own_l20 p0)).toNatClampNeg (own_cc p3)))), .second, .val (.int (0 : Int32)), .unset, .unset, .val (.long ((own_Y p1) - ((own_Y p1) / (own_gj own_pws (own_l20 p0))) * (own_gj own_pws (own_l20 p0)))), .second]) rfl ?_
                  refine XS.iload X_849.here hx rfl (hb hby at_590) rfl ?_
                  show Steps p.tables e below (T_849.setTop (mkF m 592 #[.val (.int p0), .val (.long p1), .second, .val (.int p2), .val (.int p3), .val (.ref a_9), .val (.int (own_l20 p0)), .val (.long (own_Y p1)), .second, .val (.ref a_523), .val (.int (0 : Int32)), .val (.int (1 : Int32)), .val (.int (0 : Int32)), .val (.int (own_pl p3 (own_l20 p0))), .val (.int (own_cc p2)), .val (.int (own_cc p3)), .val (.long (own_value ((own_ds (own_Y p1) (own_l20 p0)).set (own_pl p3 (own_l20 p0)).toNatClampNeg (own_cc p3)))), .second, .val (.int (0 : Int32)), .unset, .unset, .val (.long ((own_Y p1) - ((own_Y p1) / (own_gj own_pws (own_l20 p0))) * (own_gj own_pws (own_l20 p0)))), .second] [(.int (0 : Int32))])) _
                  refine XS.ifYes X_849.here hx rfl (pc0 := 592) (pc' := 629) rfl (hb hby at_592) rfl (by decide) (by decide) (by decide) ?_
                  refine XS.iload X_849.here hx rfl (hb hby at_629) rfl ?_
                  refine XS.ifNo X_849.here hx rfl (hb hby at_631) rfl (by decide) ?_
                  refine XS.lload X_849.here hx rfl (hb hby at_634) rfl ?_
                  refine XS.iload X_849.here hx rfl (hb hby at_636) rfl ?_
                  refine XS.bipush X_849.here hx rfl (hb hby at_638) ?_
                  refine XS.isub X_849.here hx rfl (hb hby at_640) rfl ?_
                  refine XS.i2l X_849.here hx rfl (hb hby at_641) rfl ?_
                  show Steps p.tables e below (T_849.setTop (mkF m 642 #[.val (.int p0), .val (.long p1), .second, .val (.int p2), .val (.int p3), .val (.ref a_9), .val (.int (own_l20 p0)), .val (.long (own_Y p1)), .second, .val (.ref a_523), .val (.int (0 : Int32)), .val (.int (1 : Int32)), .val (.int (0 : Int32)), .val (.int (own_pl p3 (own_l20 p0))), .val (.int (own_cc p2)), .val (.int (own_cc p3)), .val (.long (own_value ((own_ds (own_Y p1) (own_l20 p0)).set (own_pl p3 (own_l20 p0)).toNatClampNeg (own_cc p3)))), .second, .val (.int (0 : Int32)), .unset, .unset, .val (.long ((own_Y p1) - ((own_Y p1) / (own_gj own_pws (own_l20 p0))) * (own_gj own_pws (own_l20 p0)))), .second] [(.long (((own_cc p3) - (48 : Int32)).toInt64)), (.long ((own_Y p1) - ((own_Y p1) / (own_gj own_pws (own_l20 p0))) * (own_gj own_pws (own_l20 p0))))])) _
                  refine XS.aload X_849.here hx rfl (hb hby at_642) rfl rfl ?_
                  refine XS.lload X_849.here hx rfl (hb hby at_644) rfl ?_
                  refine XS.iload X_849.here hx rfl (hb hby at_646) rfl ?_
                  refine XS.iload X_849.here hx rfl (hb hby at_648) rfl ?_
                  refine st_884 _ ?_
                  refine XS.lsub X_884.here hx rfl (hb hby at_653) rfl ?_
                  refine XS.aload X_884.here hx rfl (hb hby at_654) rfl rfl ?_
                  refine XS.iload X_884.here hx rfl (hb hby at_656) rfl ?_
                  show Steps p.tables e below (T_884.setTop (mkF m 658 #[.val (.int p0), .val (.long p1), .second, .val (.int p2), .val (.int p3), .val (.ref a_9), .val (.int (own_l20 p0)), .val (.long (own_Y p1)), .second, .val (.ref a_523), .val (.int (0 : Int32)), .val (.int (1 : Int32)), .val (.int (0 : Int32)), .val (.int (own_pl p3 (own_l20 p0))), .val (.int (own_cc p2)), .val (.int (own_cc p3)), .val (.long (own_value ((own_ds (own_Y p1) (own_l20 p0)).set (own_pl p3 (own_l20 p0)).toNatClampNeg (own_cc p3)))), .second, .val (.int (0 : Int32)), .unset, .unset, .val (.long ((own_Y p1) - ((own_Y p1) / (own_gj own_pws (own_l20 p0))) * (own_gj own_pws (own_l20 p0)))), .second] [(.int (own_l20 p0)), (.ref a_9), (.long ((((own_cc p3) - (48 : Int32)).toInt64) - (own_dig (own_Y p1) (own_l20 p0) (own_pl p3 (own_l20 p0))))), (.long ((own_Y p1) - ((own_Y p1) / (own_gj own_pws (own_l20 p0))) * (own_gj own_pws (own_l20 p0))))])) _
                  refine XS.iconst X_884.here hx rfl (hb hby at_658) ?_
                  refine XS.isub X_884.here hx rfl (hb hby at_659) rfl ?_
                  refine XS.iload X_884.here hx rfl (hb hby at_660) rfl ?_
                  refine XS.isub X_884.here hx rfl (hb hby at_662) rfl ?_
                  refine X_884.laload hx (j := (((own_l20 p0) - (1 : Int32)) - (own_pl p3 (own_l20 p0)))) (v := (.long (own_gj own_pws (((own_l20 p0) - (1 : Int32)) - (own_pl p3 (own_l20 p0)))))) (by rw [e_888]; exact A_890.1) (State.isArrayOf_alike hZ.alike A_890.2.1) A_890.2.2 hin_896 hat_897 (g := (mkF m 663 #[.val (.int p0), .val (.long p1), .second, .val (.int p2), .val (.int p3), .val (.ref a_9), .val (.int (own_l20 p0)), .val (.long (own_Y p1)), .second, .val (.ref a_523), .val (.int (0 : Int32)), .val (.int (1 : Int32)), .val (.int (0 : Int32)), .val (.int (own_pl p3 (own_l20 p0))), .val (.int (own_cc p2)), .val (.int (own_cc p3)), .val (.long (own_value ((own_ds (own_Y p1) (own_l20 p0)).set (own_pl p3 (own_l20 p0)).toNatClampNeg (own_cc p3)))), .second, .val (.int (0 : Int32)), .unset, .unset, .val (.long ((own_Y p1) - ((own_Y p1) / (own_gj own_pws (own_l20 p0))) * (own_gj own_pws (own_l20 p0)))), .second] [(.int (((own_l20 p0) - (1 : Int32)) - (own_pl p3 (own_l20 p0)))), (.ref a_9), (.long ((((own_cc p3) - (48 : Int32)).toInt64) - (own_dig (own_Y p1) (own_l20 p0) (own_pl p3 (own_l20 p0))))), (.long ((own_Y p1) - ((own_Y p1) / (own_gj own_pws (own_l20 p0))) * (own_gj own_pws (own_l20 p0))))])) rfl rfl (hb hby at_663) _ ?_
                  refine XS.lmul X_884.here hx rfl (hb hby at_664) rfl ?_
                  refine XS.ladd X_884.here hx rfl (hb hby at_665) rfl ?_
                  refine XS.lstore X_884.here hx rfl (hb hby at_666) rfl (l' := #[.val (.int p0), .val (.long p1), .second, .val (.int p2), .val (.int p3), .val (.ref a_9), .val (.int (own_l20 p0)), .val (.long (own_Y p1)), .second, .val (.ref a_523), .val (.int (0 : Int32)), .val (.int (1 : Int32)), .val (.int (0 : Int32)), .val (.int (own_pl p3 (own_l20 p0))), .val (.int (own_cc p2)), .val (.int (own_cc p3)), .val (.long (own_value ((own_ds (own_Y p1) (own_l20 p0)).set (own_pl p3 (own_l20 p0)).toNatClampNeg (own_cc p3)))), .second, .val (.int (0 : Int32)), .unset, .unset, .val (.long (((own_Y p1) - ((own_Y p1) / (own_gj own_pws (own_l20 p0))) * (own_gj own_pws (own_l20 p0))) + (((((own_cc p3) - (48 : Int32)).toInt64) - (own_dig (own_Y p1) (own_l20 p0) (own_pl p3 (own_l20 p0)))) * (own_gj own_pws (((own_l20 p0) - (1 : Int32)) - (own_pl p3 (own_l20 p0))))))), .second]) rfl ?_
                  show Steps p.tables e below (T_884.setTop (mkF m 668 #[.val (.int p0), .val (.long p1), .second, .val (.int p2), .val (.int p3), .val (.ref a_9), .val (.int (own_l20 p0)), .val (.long (own_Y p1)), .second, .val (.ref a_523), .val (.int (0 : Int32)), .val (.int (1 : Int32)), .val (.int (0 : Int32)), .val (.int (own_pl p3 (own_l20 p0))), .val (.int (own_cc p2)), .val (.int (own_cc p3)), .val (.long (own_value ((own_ds (own_Y p1) (own_l20 p0)).set (own_pl p3 (own_l20 p0)).toNatClampNeg (own_cc p3)))), .second, .val (.int (0 : Int32)), .unset, .unset, .val (.long (((own_Y p1) - ((own_Y p1) / (own_gj own_pws (own_l20 p0))) * (own_gj own_pws (own_l20 p0))) + (((((own_cc p3) - (48 : Int32)).toInt64) - (own_dig (own_Y p1) (own_l20 p0) (own_pl p3 (own_l20 p0)))) * (own_gj own_pws (((own_l20 p0) - (1 : Int32)) - (own_pl p3 (own_l20 p0))))))), .second] [])) _
                  refine XS.lload X_884.here hx rfl (hb hby at_668) rfl ?_
                  refine XS.lstore X_884.here hx rfl (hb hby at_670) rfl (l' := #[.val (.int p0), .val (.long p1), .second, .val (.int p2), .val (.int p3), .val (.ref a_9), .val (.int (own_l20 p0)), .val (.long (own_Y p1)), .second, .val (.ref a_523), .val (.int (0 : Int32)), .val (.int (1 : Int32)), .val (.int (0 : Int32)), .val (.int (own_pl p3 (own_l20 p0))), .val (.int (own_cc p2)), .val (.int (own_cc p3)), .val (.long (own_value ((own_ds (own_Y p1) (own_l20 p0)).set (own_pl p3 (own_l20 p0)).toNatClampNeg (own_cc p3)))), .second, .val (.int (0 : Int32)), .val (.long (((own_Y p1) - ((own_Y p1) / (own_gj own_pws (own_l20 p0))) * (own_gj own_pws (own_l20 p0))) + (((((own_cc p3) - (48 : Int32)).toInt64) - (own_dig (own_Y p1) (own_l20 p0) (own_pl p3 (own_l20 p0)))) * (own_gj own_pws (((own_l20 p0) - (1 : Int32)) - (own_pl p3 (own_l20 p0))))))), .second, .val (.long (((own_Y p1) - ((own_Y p1) / (own_gj own_pws (own_l20 p0))) * (own_gj own_pws (own_l20 p0))) + (((((own_cc p3) - (48 : Int32)).toInt64) - (own_dig (own_Y p1) (own_l20 p0) (own_pl p3 (own_l20 p0)))) * (own_gj own_pws (((own_l20 p0) - (1 : Int32)) - (own_pl p3 (own_l20 p0))))))), .second]) rfl ?_
                  refine XS.lload X_884.here hx rfl (hb hby at_672) rfl ?_
                  refine XS.lload X_884.here hx rfl (hb hby at_674) rfl ?_
                  exact Steps.refl _
                have C_899 : Steps p.tables e below S0 (T_884.setTop (mkF m 685 #[.val (.int p0), .val (.long p1), .second, .val (.int p2), .val (.int p3), .val (.ref a_9), .val (.int (own_l20 p0)), .val (.long (own_Y p1)), .second, .val (.ref a_523), .val (.int (0 : Int32)), .val (.int (1 : Int32)), .val (.int (0 : Int32)), .val (.int (own_pl p3 (own_l20 p0))), .val (.int (own_cc p2)), .val (.int (own_cc p3)), .val (.long (own_value ((own_ds (own_Y p1) (own_l20 p0)).set (own_pl p3 (own_l20 p0)).toNatClampNeg (own_cc p3)))), .second, .val (.int (0 : Int32)), .val (.long (((own_Y p1) - ((own_Y p1) / (own_gj own_pws (own_l20 p0))) * (own_gj own_pws (own_l20 p0))) + (((((own_cc p3) - (48 : Int32)).toInt64) - (own_dig (own_Y p1) (own_l20 p0) (own_pl p3 (own_l20 p0)))) * (own_gj own_pws (((own_l20 p0) - (1 : Int32)) - (own_pl p3 (own_l20 p0))))))), .second, .val (.long (((own_Y p1) - ((own_Y p1) / (own_gj own_pws (own_l20 p0))) * (own_gj own_pws (own_l20 p0))) + (((((own_cc p3) - (48 : Int32)).toInt64) - (own_dig (own_Y p1) (own_l20 p0) (own_pl p3 (own_l20 p0)))) * (own_gj own_pws (((own_l20 p0) - (1 : Int32)) - (own_pl p3 (own_l20 p0))))))), .second] [(.int (1 : Int32))])) := by
                  refine C_898.trans ?_
                  refine XS.lcmp X_884.here hx rfl (hb hby at_676) rfl ?_
                  refine XS.ifNo X_884.here hx rfl (hb hby at_677) rfl (i0_ne_f ((lw_eq (own_value ((own_ds (own_Y p1) (own_l20 p0)).set (own_pl p3 (own_l20 p0)).toNatClampNeg (own_cc p3))) (((own_Y p1) - ((own_Y p1) / (own_gj own_pws (own_l20 p0))) * (own_gj own_pws (own_l20 p0))) + (((((own_cc p3) - (48 : Int32)).toInt64) - (own_dig (own_Y p1) (own_l20 p0) (own_pl p3 (own_l20 p0)))) * (own_gj own_pws (((own_l20 p0) - (1 : Int32)) - (own_pl p3 (own_l20 p0))))))).mpr (own_F1 (own_Y0 p1) hp_512 hc_846 hr_514.1 hr_514.2 g_855 (Or.inr hc_871)))) ?_
                  refine XS.iconst X_884.here hx rfl (hb hby at_680) ?_
                  refine XS.goto X_884.here hx rfl (pc0 := 681) (pc' := 685) rfl (hb hby at_681) (by decide) (by decide) ?_
                  exact Steps.refl _
                have K_900 : Keep h0 T_825.heap [] := K_844
                obtain ⟨fs, hr, hrun, hended, hRE⟩ := X_884.leaveW hS0 (by rw [show T_884.heap = T_825.heap from e_888]; exact (Nat.le_trans (Nat.le_refl _) (Nat.le_trans (Nat.le_trans (Nat.le_trans (Nat.le_trans (Nat.le_trans (Nat.le_trans (Nat.le_trans (Nat.le_trans (Nat.le_trans (Nat.le_trans (Nat.le_trans (Nat.le_trans (Nat.le_trans (Nat.le_trans (Nat.le_trans (Nat.le_trans (Nat.le_trans (Nat.le_trans (Nat.le_trans (Nat.le_trans (Nat.le_trans (Nat.le_trans (Nat.le_trans (Nat.le_trans (Nat.le_trans (Nat.le_trans (Nat.le_trans (Nat.le_trans (Nat.le_trans (Nat.le_trans (Nat.le_trans (Nat.le_trans (Nat.le_trans (Nat.le_trans (Nat.le_trans (Nat.le_trans (Nat.le_trans (Nat.le_trans (Nat.le_trans (Nat.le_trans (Nat.le_trans (Nat.le_trans E_6.1 (Keep.of_wr W_26).1) (Keep.of_wr W_44).1) (Keep.of_wr W_62).1) (Keep.of_wr W_80).1) (Keep.of_wr W_98).1) (Keep.of_wr W_116).1) (Keep.of_wr W_134).1) (Keep.of_wr W_152).1) (Keep.of_wr W_171).1) (Keep.of_wr W_189).1) (Keep.of_wr W_207).1) (Keep.of_wr W_225).1) (Keep.of_wr W_243).1) (Keep.of_wr W_261).1) (Keep.of_wr W_279).1) (Keep.of_wr W_297).1) (Keep.of_wr W_315).1) (Keep.of_wr W_334).1) (Keep.of_wr W_352).1) E_520.1) K_534.1) K_543.1) K_552.1) K_561.1) K_570.1) K_580.1) K_589.1) K_598.1) K_607.1) K_616.1) K_625.1) K_634.1) K_644.1) K_653.1) K_662.1) K_671.1) K_680.1) K_689.1) K_698.1) (Keep.of_wr W_802).1) E_813.1) K_829.1))) (v := some (.int (1 : Int32))) (fun h => by rw [Bd.returns] at h; cases h)
                refine ⟨_, _, C_899.trans (retN X_884 hx (t := .boolean) Bd.returns (by simp) (hb hby at_685) hr), hrun, hended, _, _, rfl, ?_, ?_, hRE.1, hRE.2.1, hRE.2.2.1, hRE.2.2.2.mono (by decide) (by decide)⟩
                · show Q_law Z G1 G3 p0 p1 p2 p3 h0 n0 (some (.int (1 : Int32))) T_884.heap _
                  rw [e_888]
                  exact ⟨rfl, N_887, K_900⟩
                · show CHr Z consts_1 s.vm s.heap T_884.vm T_884.heap
                  rw [hh, show T_884.heap = T_825.heap from e_888]
                  exact CR_837.trans (CHv.at X_884 hZ hEL CH_836)
            · skip
              have V_901 : Arv Z T_825.heap a_9 k_3 .long (19 : Int32) (own_jv own_pws) (.long (0 : Int64)) := ((((V_694.keep K_698 (ninS (Nat.ne_of_lt (Nat.lt_of_lt_of_le V_359.lt (Nat.le_trans (Nat.le_refl _) (Nat.le_of_eq g_524.symm)))) nin0)).other W_802 (Nat.ne_of_lt (Nat.lt_of_lt_of_le V_359.lt (Nat.le_trans (Nat.le_refl _) (Nat.le_of_eq g_524.symm))))).ext E_813).keep K_829 (ninS (Nat.ne_of_lt (Nat.lt_of_lt_of_le V_359.lt (Nat.le_trans (Nat.le_trans (Nat.le_trans (Nat.le_trans (Nat.le_trans (Nat.le_trans (Nat.le_trans (Nat.le_trans (Nat.le_trans (Nat.le_trans (Nat.le_trans (Nat.le_trans (Nat.le_trans (Nat.le_trans (Nat.le_trans (Nat.le_trans (Nat.le_trans (Nat.le_trans (Nat.le_trans (Nat.le_trans (Nat.le_trans E_520.1 K_534.1) K_543.1) K_552.1) K_561.1) K_570.1) K_580.1) K_589.1) K_598.1) K_607.1) K_616.1) K_625.1) K_634.1) K_644.1) K_653.1) K_662.1) K_671.1) K_680.1) K_689.1) K_698.1) (Keep.of_wr W_802).1) (Nat.le_of_eq g_818.symm)))) nin0))
              obtain ⟨c_902, A_903, q_904, S_905, M_906, H_907, U_908⟩ := id V_901
              have hin_909 : ¬ ((own_l20 p0) < 0 ∨ c_902.slots.size ≤ (own_l20 p0).toNatClampNeg) := inb_of S_905 ⟨(own_l0 p0), (own_l18 hc_846).1⟩
              have hat_910 : c_902.slots[(own_l20 p0).toNatClampNeg]? = some (.long (own_gj own_pws (own_l20 p0))) := Has.at H_907 hin_909 (own_jv_at own_pws (own_l20 p0))
              obtain ⟨_, _, ⟨T_911, L_911, k_911, n_911⟩, -, X_911, ⟨Lc_911, hQ_911, l_911, y_911, z_911⟩, st_911⟩ := Jvm.LawKit.callS X_849 hx (y := M216) hown (mvT hZ (w63 hw)) (mvT hZ (w64 hw)) (mvT hZ (w23 hw)) (mvT hZ (w65 hw)) (by decide) (backOf (W := 4) (rm_digit l Z a0 hw [] G1 G3 HG T_825.heap n0 O_838 a_9 k_3 (own_Y p1) (own_l20 p0) (own_pl p3 (own_l20 p0)) V_901 hr_514.1 hr_514.2 (own_l19 p0)) hZ (w65 hw) (w23 hw) (by decide) (by decide)) (g := (mkF m 650 #[.val (.int p0), .val (.long p1), .second, .val (.int p2), .val (.int p3), .val (.ref a_9), .val (.int (own_l20 p0)), .val (.long (own_Y p1)), .second, .val (.ref a_523), .val (.int (0 : Int32)), .val (.int (1 : Int32)), .val (.int (0 : Int32)), .val (.int (own_pl p3 (own_l20 p0))), .val (.int (own_cc p2)), .val (.int (own_cc p3)), .val (.long (own_value ((own_ds (own_Y p1) (own_l20 p0)).set (own_pl p3 (own_l20 p0)).toNatClampNeg (own_cc p3)))), .second, .val (.int (0 : Int32)), .unset, .unset, .val (.long ((own_Y p1) - ((own_Y p1) / (own_gj own_pws (own_l20 p0))) * (own_gj own_pws (own_l20 p0)))), .second] [(.int (own_pl p3 (own_l20 p0))), (.int (own_l20 p0)), (.long (own_Y p1)), (.ref a_9), (.long (((own_cc p3) - (48 : Int32)).toInt64)), (.long ((own_Y p1) - ((own_Y p1) / (own_gj own_pws (own_l20 p0))) * (own_gj own_pws (own_l20 p0))))])) rfl (by rw [hml]; rfl) (argsL := [(.ref a_9), (.long (own_Y p1)), (.int (own_l20 p0)), (.int (own_pl p3 (own_l20 p0)))]) (rest := [(.long (((own_cc p3) - (48 : Int32)).toInt64)), (.long ((own_Y p1) - ((own_Y p1) / (own_gj own_pws (own_l20 p0))) * (own_gj own_pws (own_l20 p0))))]) (lenOf pd_248 rfl) rfl (by show 2 * 0 + _ ≤ _; exact Nat.le_of_eq rfl) (hb hby at_650) (fun _ _ => ⟨rfl, e_857, (by decide : 4 + 0 ≤ _), (by decide : 61 + 0 ≤ _)⟩)
              dsimp only [Pt.U, Pt.locs, Pt.cells, Pt.slots] at X_911 l_911 y_911 z_911 st_911 hQ_911
              have X_911 := own_cast X_911 l_911 y_911 z_911
              obtain ⟨rfl, N_912, e_913⟩ := hQ_911
              have N_914 := Fr.app N_856 N_912
              have e_915 : T_911.heap = T_825.heap := e_913
              obtain ⟨c_916, A_917, q_918, S_919, M_920, H_921, U_922⟩ := id V_901
              have hin_923 : ¬ ((((own_l20 p0) - (1 : Int32)) - (own_pl p3 (own_l20 p0))) < 0 ∨ c_916.slots.size ≤ (((own_l20 p0) - (1 : Int32)) - (own_pl p3 (own_l20 p0))).toNatClampNeg) := inb_of S_919 ⟨(own_sub_nat hr_514.1 hr_514.2).2.1, (own_lt19 hr_514.1 hr_514.2 (own_l19 p0)).2.1⟩
              have hat_924 : c_916.slots[(((own_l20 p0) - (1 : Int32)) - (own_pl p3 (own_l20 p0))).toNatClampNeg]? = some (.long (own_gj own_pws (((own_l20 p0) - (1 : Int32)) - (own_pl p3 (own_l20 p0))))) := Has.at H_921 hin_923 (own_jv_at own_pws (((own_l20 p0) - (1 : Int32)) - (own_pl p3 (own_l20 p0))))
              have C_925 : Steps p.tables e below S0 (T_911.setTop (mkF m 676 #[.val (.int p0), .val (.long p1), .second, .val (.int p2), .val (.int p3), .val (.ref a_9), .val (.int (own_l20 p0)), .val (.long (own_Y p1)), .second, .val (.ref a_523), .val (.int (0 : Int32)), .val (.int (1 : Int32)), .val (.int (0 : Int32)), .val (.int (own_pl p3 (own_l20 p0))), .val (.int (own_cc p2)), .val (.int (own_cc p3)), .val (.long (own_value ((own_ds (own_Y p1) (own_l20 p0)).set (own_pl p3 (own_l20 p0)).toNatClampNeg (own_cc p3)))), .second, .val (.int (0 : Int32)), .val (.long (((own_Y p1) - ((own_Y p1) / (own_gj own_pws (own_l20 p0))) * (own_gj own_pws (own_l20 p0))) + (((((own_cc p3) - (48 : Int32)).toInt64) - (own_dig (own_Y p1) (own_l20 p0) (own_pl p3 (own_l20 p0)))) * (own_gj own_pws (((own_l20 p0) - (1 : Int32)) - (own_pl p3 (own_l20 p0))))))), .second, .val (.long (((own_Y p1) - ((own_Y p1) / (own_gj own_pws (own_l20 p0))) * (own_gj own_pws (own_l20 p0))) + (((((own_cc p3) - (48 : Int32)).toInt64) - (own_dig (own_Y p1) (own_l20 p0) (own_pl p3 (own_l20 p0)))) * (own_gj own_pws (((own_l20 p0) - (1 : Int32)) - (own_pl p3 (own_l20 p0))))))), .second] [(.long (((own_Y p1) - ((own_Y p1) / (own_gj own_pws (own_l20 p0))) * (own_gj own_pws (own_l20 p0))) + (((((own_cc p3) - (48 : Int32)).toInt64) - (own_dig (own_Y p1) (own_l20 p0) (own_pl p3 (own_l20 p0)))) * (own_gj own_pws (((own_l20 p0) - (1 : Int32)) - (own_pl p3 (own_l20 p0))))))), (.long (own_value ((own_ds (own_Y p1) (own_l20 p0)).set (own_pl p3 (own_l20 p0)).toNatClampNeg (own_cc p3))))])) := by
                refine C_858.trans ?_
                refine XS.icmpYes X_849.here hx rfl (pc0 := 560) (pc' := 580) rfl (hb hby at_560) rfl (ii_le_t hc_859) (by decide) (by decide) ?_
                refine XS.lload X_849.here hx rfl (hb hby at_580) rfl ?_
                refine XS.aload X_849.here hx rfl (hb hby at_582) rfl rfl ?_
                refine XS.iload X_849.here hx rfl (hb hby at_584) rfl ?_
                refine X_849.laload hx (j := (own_l20 p0)) (v := (.long (own_gj own_pws (own_l20 p0)))) (by rw [e_857]; exact A_903.1) (State.isArrayOf_alike hZ.alike A_903.2.1) A_903.2.2 hin_909 hat_910 (g := (mkF m 586 #[.val (.int p0), .val (.long p1), .second, .val (.int p2), .val (.int p3), .val (.ref a_9), .val (.int (own_l20 p0)), .val (.long (own_Y p1)), .second, .val (.ref a_523), .val (.int (0 : Int32)), .val (.int (1 : Int32)), .val (.int (0 : Int32)), .val (.int (own_pl p3 (own_l20 p0))), .val (.int (own_cc p2)), .val (.int (own_cc p3)), .val (.long (own_value ((own_ds (own_Y p1) (own_l20 p0)).set (own_pl p3 (own_l20 p0)).toNatClampNeg (own_cc p3)))), .second, .val (.int (0 : Int32)), .unset, .unset, .unset, .unset] [(.int (own_l20 p0)), (.ref a_9), (.long (own_Y p1))])) rfl rfl (hb hby at_586) _ ?_
                refine XS.lrem X_849.here hx rfl (hb hby at_587) rfl (own_pnz (own_l18 hc_846).2) ?_
                refine XS.lstore X_849.here hx rfl (hb hby at_588) rfl (l' := #[.val (.int p0), .val (.long p1), .second, .val (.int p2), .val (.int p3), .val (.ref a_9), .val (.int (own_l20 p0)), .val (.long (own_Y p1)), .second, .val (.ref a_523), .val (.int (0 : Int32)), .val (.int (1 : Int32)), .val (.int (0 : Int32)), .val (.int (own_pl p3 (own_l20 p0))), .val (.int (own_cc p2)), .val (.int (own_cc p3)), .val (.long (own_value ((own_ds (own_Y p1) (own_l20 p0)).set (own_pl p3 (own_l20 p0)).toNatClampNeg (own_cc p3)))), .second, .val (.int (0 : Int32)), .unset, .unset, .val (.long ((own_Y p1) - ((own_Y p1) / (own_gj own_pws (own_l20 p0))) * (own_gj own_pws (own_l20 p0)))), .second]) rfl ?_
                refine XS.iload X_849.here hx rfl (hb hby at_590) rfl ?_
                show Steps p.tables e below (T_849.setTop (mkF m 592 #[.val (.int p0), .val (.long p1), .second, .val (.int p2), .val (.int p3), .val (.ref a_9), .val (.int (own_l20 p0)), .val (.long (own_Y p1)), .second, .val (.ref a_523), .val (.int (0 : Int32)), .val (.int (1 : Int32)), .val (.int (0 : Int32)), .val (.int (own_pl p3 (own_l20 p0))), .val (.int (own_cc p2)), .val (.int (own_cc p3)), .val (.long (own_value ((own_ds (own_Y p1) (own_l20 p0)).set (own_pl p3 (own_l20 p0)).toNatClampNeg (own_cc p3)))), .second, .val (.int (0 : Int32)), .unset, .unset, .val (.long ((own_Y p1) - ((own_Y p1) / (own_gj own_pws (own_l20 p0))) * (own_gj own_pws (own_l20 p0)))), .second] [(.int (0 : Int32))])) _
                refine XS.ifYes X_849.here hx rfl (pc0 := 592) (pc' := 629) rfl (hb hby at_592) rfl (by decide) (by decide) (by decide) ?_
                refine XS.iload X_849.here hx rfl (hb hby at_629) rfl ?_
                refine XS.ifNo X_849.here hx rfl (hb hby at_631) rfl (by decide) ?_
                refine XS.lload X_849.here hx rfl (hb hby at_634) rfl ?_
                refine XS.iload X_849.here hx rfl (hb hby at_636) rfl ?_
                refine XS.bipush X_849.here hx rfl (hb hby at_638) ?_
                refine XS.isub X_849.here hx rfl (hb hby at_640) rfl ?_
                refine XS.i2l X_849.here hx rfl (hb hby at_641) rfl ?_
                show Steps p.tables e below (T_849.setTop (mkF m 642 #[.val (.int p0), .val (.long p1), .second, .val (.int p2), .val (.int p3), .val (.ref a_9), .val (.int (own_l20 p0)), .val (.long (own_Y p1)), .second, .val (.ref a_523), .val (.int (0 : Int32)), .val (.int (1 : Int32)), .val (.int (0 : Int32)), .val (.int (own_pl p3 (own_l20 p0))), .val (.int (own_cc p2)), .val (.int (own_cc p3)), .val (.long (own_value ((own_ds (own_Y p1) (own_l20 p0)).set (own_pl p3 (own_l20 p0)).toNatClampNeg (own_cc p3)))), .second, .val (.int (0 : Int32)), .unset, .unset, .val (.long ((own_Y p1) - ((own_Y p1) / (own_gj own_pws (own_l20 p0))) * (own_gj own_pws (own_l20 p0)))), .second] [(.long (((own_cc p3) - (48 : Int32)).toInt64)), (.long ((own_Y p1) - ((own_Y p1) / (own_gj own_pws (own_l20 p0))) * (own_gj own_pws (own_l20 p0))))])) _
                refine XS.aload X_849.here hx rfl (hb hby at_642) rfl rfl ?_
                refine XS.lload X_849.here hx rfl (hb hby at_644) rfl ?_
                refine XS.iload X_849.here hx rfl (hb hby at_646) rfl ?_
                refine XS.iload X_849.here hx rfl (hb hby at_648) rfl ?_
                refine st_911 _ ?_
                refine XS.lsub X_911.here hx rfl (hb hby at_653) rfl ?_
                refine XS.aload X_911.here hx rfl (hb hby at_654) rfl rfl ?_
                refine XS.iload X_911.here hx rfl (hb hby at_656) rfl ?_
                show Steps p.tables e below (T_911.setTop (mkF m 658 #[.val (.int p0), .val (.long p1), .second, .val (.int p2), .val (.int p3), .val (.ref a_9), .val (.int (own_l20 p0)), .val (.long (own_Y p1)), .second, .val (.ref a_523), .val (.int (0 : Int32)), .val (.int (1 : Int32)), .val (.int (0 : Int32)), .val (.int (own_pl p3 (own_l20 p0))), .val (.int (own_cc p2)), .val (.int (own_cc p3)), .val (.long (own_value ((own_ds (own_Y p1) (own_l20 p0)).set (own_pl p3 (own_l20 p0)).toNatClampNeg (own_cc p3)))), .second, .val (.int (0 : Int32)), .unset, .unset, .val (.long ((own_Y p1) - ((own_Y p1) / (own_gj own_pws (own_l20 p0))) * (own_gj own_pws (own_l20 p0)))), .second] [(.int (own_l20 p0)), (.ref a_9), (.long ((((own_cc p3) - (48 : Int32)).toInt64) - (own_dig (own_Y p1) (own_l20 p0) (own_pl p3 (own_l20 p0))))), (.long ((own_Y p1) - ((own_Y p1) / (own_gj own_pws (own_l20 p0))) * (own_gj own_pws (own_l20 p0))))])) _
                refine XS.iconst X_911.here hx rfl (hb hby at_658) ?_
                refine XS.isub X_911.here hx rfl (hb hby at_659) rfl ?_
                refine XS.iload X_911.here hx rfl (hb hby at_660) rfl ?_
                refine XS.isub X_911.here hx rfl (hb hby at_662) rfl ?_
                refine X_911.laload hx (j := (((own_l20 p0) - (1 : Int32)) - (own_pl p3 (own_l20 p0)))) (v := (.long (own_gj own_pws (((own_l20 p0) - (1 : Int32)) - (own_pl p3 (own_l20 p0)))))) (by rw [e_915]; exact A_917.1) (State.isArrayOf_alike hZ.alike A_917.2.1) A_917.2.2 hin_923 hat_924 (g := (mkF m 663 #[.val (.int p0), .val (.long p1), .second, .val (.int p2), .val (.int p3), .val (.ref a_9), .val (.int (own_l20 p0)), .val (.long (own_Y p1)), .second, .val (.ref a_523), .val (.int (0 : Int32)), .val (.int (1 : Int32)), .val (.int (0 : Int32)), .val (.int (own_pl p3 (own_l20 p0))), .val (.int (own_cc p2)), .val (.int (own_cc p3)), .val (.long (own_value ((own_ds (own_Y p1) (own_l20 p0)).set (own_pl p3 (own_l20 p0)).toNatClampNeg (own_cc p3)))), .second, .val (.int (0 : Int32)), .unset, .unset, .val (.long ((own_Y p1) - ((own_Y p1) / (own_gj own_pws (own_l20 p0))) * (own_gj own_pws (own_l20 p0)))), .second] [(.int (((own_l20 p0) - (1 : Int32)) - (own_pl p3 (own_l20 p0)))), (.ref a_9), (.long ((((own_cc p3) - (48 : Int32)).toInt64) - (own_dig (own_Y p1) (own_l20 p0) (own_pl p3 (own_l20 p0))))), (.long ((own_Y p1) - ((own_Y p1) / (own_gj own_pws (own_l20 p0))) * (own_gj own_pws (own_l20 p0))))])) rfl rfl (hb hby at_663) _ ?_
                refine XS.lmul X_911.here hx rfl (hb hby at_664) rfl ?_
                refine XS.ladd X_911.here hx rfl (hb hby at_665) rfl ?_
                refine XS.lstore X_911.here hx rfl (hb hby at_666) rfl (l' := #[.val (.int p0), .val (.long p1), .second, .val (.int p2), .val (.int p3), .val (.ref a_9), .val (.int (own_l20 p0)), .val (.long (own_Y p1)), .second, .val (.ref a_523), .val (.int (0 : Int32)), .val (.int (1 : Int32)), .val (.int (0 : Int32)), .val (.int (own_pl p3 (own_l20 p0))), .val (.int (own_cc p2)), .val (.int (own_cc p3)), .val (.long (own_value ((own_ds (own_Y p1) (own_l20 p0)).set (own_pl p3 (own_l20 p0)).toNatClampNeg (own_cc p3)))), .second, .val (.int (0 : Int32)), .unset, .unset, .val (.long (((own_Y p1) - ((own_Y p1) / (own_gj own_pws (own_l20 p0))) * (own_gj own_pws (own_l20 p0))) + (((((own_cc p3) - (48 : Int32)).toInt64) - (own_dig (own_Y p1) (own_l20 p0) (own_pl p3 (own_l20 p0)))) * (own_gj own_pws (((own_l20 p0) - (1 : Int32)) - (own_pl p3 (own_l20 p0))))))), .second]) rfl ?_
                show Steps p.tables e below (T_911.setTop (mkF m 668 #[.val (.int p0), .val (.long p1), .second, .val (.int p2), .val (.int p3), .val (.ref a_9), .val (.int (own_l20 p0)), .val (.long (own_Y p1)), .second, .val (.ref a_523), .val (.int (0 : Int32)), .val (.int (1 : Int32)), .val (.int (0 : Int32)), .val (.int (own_pl p3 (own_l20 p0))), .val (.int (own_cc p2)), .val (.int (own_cc p3)), .val (.long (own_value ((own_ds (own_Y p1) (own_l20 p0)).set (own_pl p3 (own_l20 p0)).toNatClampNeg (own_cc p3)))), .second, .val (.int (0 : Int32)), .unset, .unset, .val (.long (((own_Y p1) - ((own_Y p1) / (own_gj own_pws (own_l20 p0))) * (own_gj own_pws (own_l20 p0))) + (((((own_cc p3) - (48 : Int32)).toInt64) - (own_dig (own_Y p1) (own_l20 p0) (own_pl p3 (own_l20 p0)))) * (own_gj own_pws (((own_l20 p0) - (1 : Int32)) - (own_pl p3 (own_l20 p0))))))), .second] [])) _
                refine XS.lload X_911.here hx rfl (hb hby at_668) rfl ?_
                refine XS.lstore X_911.here hx rfl (hb hby at_670) rfl (l' := #[.val (.int p0), .val (.long p1), .second, .val (.int p2), .val (.int p3), .val (.ref a_9), .val (.int (own_l20 p0)), .val (.long (own_Y p1)), .second, .val (.ref a_523), .val (.int (0 : Int32)), .val (.int (1 : Int32)), .val (.int (0 : Int32)), .val (.int (own_pl p3 (own_l20 p0))), .val (.int (own_cc p2)), .val (.int (own_cc p3)), .val (.long (own_value ((own_ds (own_Y p1) (own_l20 p0)).set (own_pl p3 (own_l20 p0)).toNatClampNeg (own_cc p3)))), .second, .val (.int (0 : Int32)), .val (.long (((own_Y p1) - ((own_Y p1) / (own_gj own_pws (own_l20 p0))) * (own_gj own_pws (own_l20 p0))) + (((((own_cc p3) - (48 : Int32)).toInt64) - (own_dig (own_Y p1) (own_l20 p0) (own_pl p3 (own_l20 p0)))) * (own_gj own_pws (((own_l20 p0) - (1 : Int32)) - (own_pl p3 (own_l20 p0))))))), .second, .val (.long (((own_Y p1) - ((own_Y p1) / (own_gj own_pws (own_l20 p0))) * (own_gj own_pws (own_l20 p0))) + (((((own_cc p3) - (48 : Int32)).toInt64) - (own_dig (own_Y p1) (own_l20 p0) (own_pl p3 (own_l20 p0)))) * (own_gj own_pws (((own_l20 p0) - (1 : Int32)) - (own_pl p3 (own_l20 p0))))))), .second]) rfl ?_
                refine XS.lload X_911.here hx rfl (hb hby at_672) rfl ?_
                refine XS.lload X_911.here hx rfl (hb hby at_674) rfl ?_
                exact Steps.refl _
              have C_926 : Steps p.tables e below S0 (T_911.setTop (mkF m 685 #[.val (.int p0), .val (.long p1), .second, .val (.int p2), .val (.int p3), .val (.ref a_9), .val (.int (own_l20 p0)), .val (.long (own_Y p1)), .second, .val (.ref a_523), .val (.int (0 : Int32)), .val (.int (1 : Int32)), .val (.int (0 : Int32)), .val (.int (own_pl p3 (own_l20 p0))), .val (.int (own_cc p2)), .val (.int (own_cc p3)), .val (.long (own_value ((own_ds (own_Y p1) (own_l20 p0)).set (own_pl p3 (own_l20 p0)).toNatClampNeg (own_cc p3)))), .second, .val (.int (0 : Int32)), .val (.long (((own_Y p1) - ((own_Y p1) / (own_gj own_pws (own_l20 p0))) * (own_gj own_pws (own_l20 p0))) + (((((own_cc p3) - (48 : Int32)).toInt64) - (own_dig (own_Y p1) (own_l20 p0) (own_pl p3 (own_l20 p0)))) * (own_gj own_pws (((own_l20 p0) - (1 : Int32)) - (own_pl p3 (own_l20 p0))))))), .second, .val (.long (((own_Y p1) - ((own_Y p1) / (own_gj own_pws (own_l20 p0))) * (own_gj own_pws (own_l20 p0))) + (((((own_cc p3) - (48 : Int32)).toInt64) - (own_dig (own_Y p1) (own_l20 p0) (own_pl p3 (own_l20 p0)))) * (own_gj own_pws (((own_l20 p0) - (1 : Int32)) - (own_pl p3 (own_l20 p0))))))), .second] [(.int (1 : Int32))])) := by
                refine C_925.trans ?_
                refine XS.lcmp X_911.here hx rfl (hb hby at_676) rfl ?_
                refine XS.ifNo X_911.here hx rfl (hb hby at_677) rfl (i0_ne_f ((lw_eq (own_value ((own_ds (own_Y p1) (own_l20 p0)).set (own_pl p3 (own_l20 p0)).toNatClampNeg (own_cc p3))) (((own_Y p1) - ((own_Y p1) / (own_gj own_pws (own_l20 p0))) * (own_gj own_pws (own_l20 p0))) + (((((own_cc p3) - (48 : Int32)).toInt64) - (own_dig (own_Y p1) (own_l20 p0) (own_pl p3 (own_l20 p0)))) * (own_gj own_pws (((own_l20 p0) - (1 : Int32)) - (own_pl p3 (own_l20 p0))))))).mpr (own_F1 (own_Y0 p1) hp_512 hc_846 hr_514.1 hr_514.2 g_855 (Or.inl hc_859)))) ?_
                refine XS.iconst X_911.here hx rfl (hb hby at_680) ?_
                refine XS.goto X_911.here hx rfl (pc0 := 681) (pc' := 685) rfl (hb hby at_681) (by decide) (by decide) ?_
                exact Steps.refl _
              have K_927 : Keep h0 T_825.heap [] := K_844
              obtain ⟨fs, hr, hrun, hended, hRE⟩ := X_911.leaveW hS0 (by rw [show T_911.heap = T_825.heap from e_915]; exact (Nat.le_trans (Nat.le_refl _) (Nat.le_trans (Nat.le_trans (Nat.le_trans (Nat.le_trans (Nat.le_trans (Nat.le_trans (Nat.le_trans (Nat.le_trans (Nat.le_trans (Nat.le_trans (Nat.le_trans (Nat.le_trans (Nat.le_trans (Nat.le_trans (Nat.le_trans (Nat.le_trans (Nat.le_trans (Nat.le_trans (Nat.le_trans (Nat.le_trans (Nat.le_trans (Nat.le_trans (Nat.le_trans (Nat.le_trans (Nat.le_trans (Nat.le_trans (Nat.le_trans (Nat.le_trans (Nat.le_trans (Nat.le_trans (Nat.le_trans (Nat.le_trans (Nat.le_trans (Nat.le_trans (Nat.le_trans (Nat.le_trans (Nat.le_trans (Nat.le_trans (Nat.le_trans (Nat.le_trans (Nat.le_trans (Nat.le_trans E_6.1 (Keep.of_wr W_26).1) (Keep.of_wr W_44).1) (Keep.of_wr W_62).1) (Keep.of_wr W_80).1) (Keep.of_wr W_98).1) (Keep.of_wr W_116).1) (Keep.of_wr W_134).1) (Keep.of_wr W_152).1) (Keep.of_wr W_171).1) (Keep.of_wr W_189).1) (Keep.of_wr W_207).1) (Keep.of_wr W_225).1) (Keep.of_wr W_243).1) (Keep.of_wr W_261).1) (Keep.of_wr W_279).1) (Keep.of_wr W_297).1) (Keep.of_wr W_315).1) (Keep.of_wr W_334).1) (Keep.of_wr W_352).1) E_520.1) K_534.1) K_543.1) K_552.1) K_561.1) K_570.1) K_580.1) K_589.1) K_598.1) K_607.1) K_616.1) K_625.1) K_634.1) K_644.1) K_653.1) K_662.1) K_671.1) K_680.1) K_689.1) K_698.1) (Keep.of_wr W_802).1) E_813.1) K_829.1))) (v := some (.int (1 : Int32))) (fun h => by rw [Bd.returns] at h; cases h)
              refine ⟨_, _, C_926.trans (retN X_911 hx (t := .boolean) Bd.returns (by simp) (hb hby at_685) hr), hrun, hended, _, _, rfl, ?_, ?_, hRE.1, hRE.2.1, hRE.2.2.1, hRE.2.2.2.mono (by decide) (by decide)⟩
              · show Q_law Z G1 G3 p0 p1 p2 p3 h0 n0 (some (.int (1 : Int32))) T_911.heap _
                rw [e_915]
                exact ⟨rfl, N_914, K_927⟩
              · show CHr Z consts_1 s.vm s.heap T_911.vm T_911.heap
                rw [hh, show T_911.heap = T_825.heap from e_915]
                exact CR_837.trans (CHv.at X_911 hZ hEL CH_836)
          · skip
            obtain ⟨rfl, N_928, e_929, g_930⟩ := hQ_852
            have N_931 := Fr.app N_842 N_928
            have e_932 : T_849.heap = T_825.heap := e_929
            have C_933 : Steps p.tables e below S0 (T_849.setTop (mkF m 685 #[.val (.int p0), .val (.long p1), .second, .val (.int p2), .val (.int p3), .val (.ref a_9), .val (.int (own_l20 p0)), .val (.long (own_Y p1)), .second, .val (.ref a_523), .val (.int (0 : Int32)), .val (.int (1 : Int32)), .val (.int (0 : Int32)), .val (.int (own_pl p3 (own_l20 p0))), .val (.int (own_cc p2)), .val (.int (own_cc p3)), .val (.long (own_value ((own_ds (own_Y p1) (own_l20 p0)).set (own_pl p3 (own_l20 p0)).toNatClampNeg (own_cc p3)))), .second, .val (.int (0 : Int32)), .val (.long (-1 : Int64)), .second, .unset, .unset] [(.int (1 : Int32))])) := by
              refine C_850.trans ?_
              refine st_849 _ ?_
              refine XS.ifYes X_849.here hx rfl (pc0 := 554) (pc' := 572) rfl (hb hby at_554) rfl (by decide) (by decide) (by decide) ?_
              refine X_849.ldc2J hx hown (mvT hZ (w62 hw)) rfl (hb hby at_572) ?_
              refine XS.lstore X_849.here hx rfl (hb hby at_575) rfl (l' := #[.val (.int p0), .val (.long p1), .second, .val (.int p2), .val (.int p3), .val (.ref a_9), .val (.int (own_l20 p0)), .val (.long (own_Y p1)), .second, .val (.ref a_523), .val (.int (0 : Int32)), .val (.int (1 : Int32)), .val (.int (0 : Int32)), .val (.int (own_pl p3 (own_l20 p0))), .val (.int (own_cc p2)), .val (.int (own_cc p3)), .val (.long (own_value ((own_ds (own_Y p1) (own_l20 p0)).set (own_pl p3 (own_l20 p0)).toNatClampNeg (own_cc p3)))), .second, .val (.int (0 : Int32)), .val (.long (-1 : Int64)), .second, .unset, .unset]) rfl ?_
              refine XS.goto X_849.here hx rfl (pc0 := 577) (pc' := 672) rfl (hb hby at_577) (by decide) (by decide) ?_
              refine XS.lload X_849.here hx rfl (hb hby at_672) rfl ?_
              refine XS.lload X_849.here hx rfl (hb hby at_674) rfl ?_
              refine XS.lcmp X_849.here hx rfl (hb hby at_676) rfl ?_
              show Steps p.tables e below (T_849.setTop (mkF m 677 #[.val (.int p0), .val (.long p1), .second, .val (.int p2), .val (.int p3), .val (.ref a_9), .val (.int (own_l20 p0)), .val (.long (own_Y p1)), .second, .val (.ref a_523), .val (.int (0 : Int32)), .val (.int (1 : Int32)), .val (.int (0 : Int32)), .val (.int (own_pl p3 (own_l20 p0))), .val (.int (own_cc p2)), .val (.int (own_cc p3)), .val (.long (own_value ((own_ds (own_Y p1) (own_l20 p0)).set (own_pl p3 (own_l20 p0)).toNatClampNeg (own_cc p3)))), .second, .val (.int (0 : Int32)), .val (.long (-1 : Int64)), .second, .unset, .unset] [(.int (lcmpW (own_value ((own_ds (own_Y p1) (own_l20 p0)).set (own_pl p3 (own_l20 p0)).toNatClampNeg (own_cc p3))) (-1 : Int64)))])) _
              refine XS.ifNo X_849.here hx rfl (hb hby at_677) rfl (i0_ne_f ((lw_eq (own_value ((own_ds (own_Y p1) (own_l20 p0)).set (own_pl p3 (own_l20 p0)).toNatClampNeg (own_cc p3))) (-1 : Int64)).mpr (own_vbad (own_ms (own_dsl _ _) hr_514.1 hr_514.2) g_930))) ?_
              refine XS.iconst X_849.here hx rfl (hb hby at_680) ?_
              refine XS.goto X_849.here hx rfl (pc0 := 681) (pc' := 685) rfl (hb hby at_681) (by decide) (by decide) ?_
              exact Steps.refl _
            have K_934 : Keep h0 T_825.heap [] := K_844
            obtain ⟨fs, hr, hrun, hended, hRE⟩ := X_849.leaveW hS0 (by rw [show T_849.heap = T_825.heap from e_932]; exact (Nat.le_trans (Nat.le_refl _) (Nat.le_trans (Nat.le_trans (Nat.le_trans (Nat.le_trans (Nat.le_trans (Nat.le_trans (Nat.le_trans (Nat.le_trans (Nat.le_trans (Nat.le_trans (Nat.le_trans (Nat.le_trans (Nat.le_trans (Nat.le_trans (Nat.le_trans (Nat.le_trans (Nat.le_trans (Nat.le_trans (Nat.le_trans (Nat.le_trans (Nat.le_trans (Nat.le_trans (Nat.le_trans (Nat.le_trans (Nat.le_trans (Nat.le_trans (Nat.le_trans (Nat.le_trans (Nat.le_trans (Nat.le_trans (Nat.le_trans (Nat.le_trans (Nat.le_trans (Nat.le_trans (Nat.le_trans (Nat.le_trans (Nat.le_trans (Nat.le_trans (Nat.le_trans (Nat.le_trans (Nat.le_trans (Nat.le_trans E_6.1 (Keep.of_wr W_26).1) (Keep.of_wr W_44).1) (Keep.of_wr W_62).1) (Keep.of_wr W_80).1) (Keep.of_wr W_98).1) (Keep.of_wr W_116).1) (Keep.of_wr W_134).1) (Keep.of_wr W_152).1) (Keep.of_wr W_171).1) (Keep.of_wr W_189).1) (Keep.of_wr W_207).1) (Keep.of_wr W_225).1) (Keep.of_wr W_243).1) (Keep.of_wr W_261).1) (Keep.of_wr W_279).1) (Keep.of_wr W_297).1) (Keep.of_wr W_315).1) (Keep.of_wr W_334).1) (Keep.of_wr W_352).1) E_520.1) K_534.1) K_543.1) K_552.1) K_561.1) K_570.1) K_580.1) K_589.1) K_598.1) K_607.1) K_616.1) K_625.1) K_634.1) K_644.1) K_653.1) K_662.1) K_671.1) K_680.1) K_689.1) K_698.1) (Keep.of_wr W_802).1) E_813.1) K_829.1))) (v := some (.int (1 : Int32))) (fun h => by rw [Bd.returns] at h; cases h)
            refine ⟨_, _, C_933.trans (retN X_849 hx (t := .boolean) Bd.returns (by simp) (hb hby at_685) hr), hrun, hended, _, _, rfl, ?_, ?_, hRE.1, hRE.2.1, hRE.2.2.1, hRE.2.2.2.mono (by decide) (by decide)⟩
            · show Q_law Z G1 G3 p0 p1 p2 p3 h0 n0 (some (.int (1 : Int32))) T_849.heap _
              rw [e_932]
              exact ⟨rfl, N_931, K_934⟩
            · show CHr Z consts_1 s.vm s.heap T_849.vm T_849.heap
              rw [hh, show T_849.heap = T_825.heap from e_932]
              exact CR_837.trans (CHv.at X_849 hZ hEL CH_836)
    · skip
      have C_935 : Steps p.tables e below S0 (T_696.setTop (mkF m 387 #[.val (.int p0), .val (.long p1), .second, .val (.int p2), .val (.int p3), .val (.ref a_9), .val (.int (own_l20 p0)), .val (.long (own_Y p1)), .second, .val (.ref a_523), .val (.int (1 : Int32)), .unset, .unset, .unset, .unset, .unset, .unset, .unset, .unset, .unset, .unset, .unset, .unset] [(.int (p0 &&& (512 : Int32)))])) := by
        refine C_705.trans ?_
        refine XS.ifNo X_696.here hx rfl (hb hby at_367) rfl (i0_eq_f hc_706) ?_
        refine XS.iconst X_696.here hx rfl (hb hby at_370) ?_
        refine XS.goto X_696.here hx rfl (pc0 := 371) (pc' := 375) rfl (hb hby at_371) (by decide) (by decide) ?_
        refine XS.istore X_696.here hx rfl (hb hby at_375) rfl (l' := #[.val (.int p0), .val (.long p1), .second, .val (.int p2), .val (.int p3), .val (.ref a_9), .val (.int (own_l20 p0)), .val (.long (own_Y p1)), .second, .val (.ref a_523), .val (.int (1 : Int32)), .unset, .unset, .unset, .unset, .unset, .unset, .unset, .unset, .unset, .unset, .unset, .unset]) rfl ?_
        refine XS.iload X_696.here hx rfl (hb hby at_377) rfl ?_
        refine XS.ifNo X_696.here hx rfl (hb hby at_379) rfl (i0_le_f hp_512) ?_
        refine XS.iloadN X_696.here hx rfl (hb hby at_382) rfl ?_
        refine XS.sipush X_696.here hx rfl (hb hby at_383) ?_
        show Steps p.tables e below (T_696.setTop (mkF m 386 #[.val (.int p0), .val (.long p1), .second, .val (.int p2), .val (.int p3), .val (.ref a_9), .val (.int (own_l20 p0)), .val (.long (own_Y p1)), .second, .val (.ref a_523), .val (.int (1 : Int32)), .unset, .unset, .unset, .unset, .unset, .unset, .unset, .unset, .unset, .unset, .unset, .unset] [(.int (512 : Int32)), (.int p0)])) _
        refine XS.iand X_696.here hx rfl (hb hby at_386) rfl ?_
        exact Steps.refl _
      by_cases hc_936 : (p0 &&& (512 : Int32)) = (0 : Int32)
      · skip
        obtain ⟨c_937, A_938, q_939, S_940, M_941, H_942, U_943⟩ := id V_704
        have hin_950 : ¬ ((own_pl p2 (own_l20 p0)) < 0 ∨ c_937.slots.size ≤ (own_pl p2 (own_l20 p0)).toNatClampNeg) := inb_of S_940 ⟨hr_513.1, hr_513.2⟩
        obtain ⟨T_944, h_945, X_946, e_947, W_948, st_949⟩ := stC X_696 hx hZ rfl A_938 (j := (own_pl p2 (own_l20 p0))) hin_950 (g := (mkF m 468 #[.val (.int p0), .val (.long p1), .second, .val (.int p2), .val (.int p3), .val (.ref a_9), .val (.int (own_l20 p0)), .val (.long (own_Y p1)), .second, .val (.ref a_523), .val (.int (1 : Int32)), .val (.int (0 : Int32)), .val (.int (own_pl p2 (own_l20 p0))), .val (.int (0 : Int32)), .val (.int (own_cc p2)), .val (.int (own_cc p3)), .unset, .unset, .unset, .unset, .unset, .unset, .unset] [(.int (own_cc p2)), (.int (own_pl p2 (own_l20 p0))), (.ref a_523)])) rfl rfl (hb hby at_468)
        have N_951 := Fr.snoc X_946 N_700 (Nat.le_trans (own_n0 O_530) (Nat.le_of_eq g_524.symm))
        have CH_952 : CHv Z consts_1 s.vm h_945 := CHv.wr W_948 (Safe.arv hZ.alike V_704 (by decide)) CH_701
        have CR_953 : CHr Z consts_1 s.vm h0 s.vm h_945 := CR_702.trans (CHr.wr W_948 (Safe.arv hZ.alike V_704 (by decide)) CH_701)
        have V_954 : Arv Z h_945 a_523 k_517 .char (own_l20 p0) (own_iv ((own_ds (own_Y p1) (own_l20 p0)).set (own_pl p2 (own_l20 p0)).toNatClampNeg (own_cc p2))) (.int (0 : Int32)) := by have q := own_iv_set (Arv.set A_938 q_939 S_940 M_941 H_942 U_943 (fits_nar_char _) W_948 (own_pl p2 (own_l20 p0)).toNatClampNeg rfl (own_ix (own_dsl _ _) hr_513.1 hr_513.2)); rw [own_narc (own_ccr p2).1 (own_ccr p2).2] at q; exact q
        have C_955 : Steps p.tables e below S0 (T_944.setTop (mkF m 481 #[.val (.int p0), .val (.long p1), .second, .val (.int p2), .val (.int p3), .val (.ref a_9), .val (.int (own_l20 p0)), .val (.long (own_Y p1)), .second, .val (.ref a_523), .val (.int (1 : Int32)), .val (.int (0 : Int32)), .val (.int (own_pl p2 (own_l20 p0))), .val (.int (0 : Int32)), .val (.int (own_cc p2)), .val (.int (own_cc p3)), .unset, .unset, .unset, .unset, .unset, .unset, .unset] [])) := by
          refine C_935.trans ?_
          refine XS.ifYes X_696.here hx rfl (pc0 := 387) (pc' := 394) rfl (hb hby at_387) rfl (i0_eq_t hc_936) (by decide) (by decide) ?_
          refine XS.iconst X_696.here hx rfl (hb hby at_394) ?_
          refine XS.istore X_696.here hx rfl (hb hby at_395) rfl (l' := #[.val (.int p0), .val (.long p1), .second, .val (.int p2), .val (.int p3), .val (.ref a_9), .val (.int (own_l20 p0)), .val (.long (own_Y p1)), .second, .val (.ref a_523), .val (.int (1 : Int32)), .val (.int (0 : Int32)), .unset, .unset, .unset, .unset, .unset, .unset, .unset, .unset, .unset, .unset, .unset]) rfl ?_
          refine XS.iload X_696.here hx rfl (hb hby at_397) rfl ?_
          refine XS.ifNo X_696.here hx rfl (hb hby at_399) rfl (by decide) ?_
          refine XS.iloadN X_696.here hx rfl (hb hby at_402) rfl ?_
          refine XS.bipush X_696.here hx rfl (hb hby at_403) ?_
          refine XS.iushr X_696.here hx rfl (hb hby at_405) rfl ?_
          show Steps p.tables e below (T_696.setTop (mkF m 406 #[.val (.int p0), .val (.long p1), .second, .val (.int p2), .val (.int p3), .val (.ref a_9), .val (.int (own_l20 p0)), .val (.long (own_Y p1)), .second, .val (.ref a_523), .val (.int (1 : Int32)), .val (.int (0 : Int32)), .unset, .unset, .unset, .unset, .unset, .unset, .unset, .unset, .unset, .unset, .unset] [(.int ((p2.toUInt32 >>> ((8 : Int32) &&& 31).toUInt32).toInt32))])) _
          refine X_696.ldcI hx hown (mvT hZ (w99 hw)) rfl (hb hby at_406) ?_
          refine XS.iand X_696.here hx rfl (hb hby at_408) rfl ?_
          refine XS.iload X_696.here hx rfl (hb hby at_409) rfl ?_
          refine iremM X_696 hx rfl (hb hby at_411) rfl hn_361 ?_
          refine XS.goto X_696.here hx rfl (pc0 := 412) (pc' := 416) rfl (hb hby at_412) (by decide) (by decide) ?_
          refine XS.istore X_696.here hx rfl (hb hby at_416) rfl (l' := #[.val (.int p0), .val (.long p1), .second, .val (.int p2), .val (.int p3), .val (.ref a_9), .val (.int (own_l20 p0)), .val (.long (own_Y p1)), .second, .val (.ref a_523), .val (.int (1 : Int32)), .val (.int (0 : Int32)), .val (.int (own_pl p2 (own_l20 p0))), .unset, .unset, .unset, .unset, .unset, .unset, .unset, .unset, .unset, .unset]) rfl ?_
          refine XS.iload X_696.here hx rfl (hb hby at_418) rfl ?_
          refine XS.ifYes X_696.here hx rfl (pc0 := 420) (pc' := 437) rfl (hb hby at_420) rfl (by decide) (by decide) (by decide) ?_
          show Steps p.tables e below (T_696.setTop (mkF m 437 #[.val (.int p0), .val (.long p1), .second, .val (.int p2), .val (.int p3), .val (.ref a_9), .val (.int (own_l20 p0)), .val (.long (own_Y p1)), .second, .val (.ref a_523), .val (.int (1 : Int32)), .val (.int (0 : Int32)), .val (.int (own_pl p2 (own_l20 p0))), .unset, .unset, .unset, .unset, .unset, .unset, .unset, .unset, .unset, .unset] [])) _
          refine XS.iconst X_696.here hx rfl (hb hby at_437) ?_
          refine XS.istore X_696.here hx rfl (hb hby at_438) rfl (l' := #[.val (.int p0), .val (.long p1), .second, .val (.int p2), .val (.int p3), .val (.ref a_9), .val (.int (own_l20 p0)), .val (.long (own_Y p1)), .second, .val (.ref a_523), .val (.int (1 : Int32)), .val (.int (0 : Int32)), .val (.int (own_pl p2 (own_l20 p0))), .val (.int (0 : Int32)), .unset, .unset, .unset, .unset, .unset, .unset, .unset, .unset, .unset]) rfl ?_
          refine XS.iloadN X_696.here hx rfl (hb hby at_440) rfl ?_
          refine XS.sipush X_696.here hx rfl (hb hby at_441) ?_
          refine XS.iand X_696.here hx rfl (hb hby at_444) rfl ?_
          refine XS.i2c X_696.here hx rfl (hb hby at_445) rfl ?_
          refine XS.istore X_696.here hx rfl (hb hby at_446) rfl (l' := #[.val (.int p0), .val (.long p1), .second, .val (.int p2), .val (.int p3), .val (.ref a_9), .val (.int (own_l20 p0)), .val (.long (own_Y p1)), .second, .val (.ref a_523), .val (.int (1 : Int32)), .val (.int (0 : Int32)), .val (.int (own_pl p2 (own_l20 p0))), .val (.int (0 : Int32)), .val (.int (own_cc p2)), .unset, .unset, .unset, .unset, .unset, .unset, .unset, .unset]) rfl ?_
          refine XS.iload X_696.here hx rfl (hb hby at_448) rfl ?_
          show Steps p.tables e below (T_696.setTop (mkF m 450 #[.val (.int p0), .val (.long p1), .second, .val (.int p2), .val (.int p3), .val (.ref a_9), .val (.int (own_l20 p0)), .val (.long (own_Y p1)), .second, .val (.ref a_523), .val (.int (1 : Int32)), .val (.int (0 : Int32)), .val (.int (own_pl p2 (own_l20 p0))), .val (.int (0 : Int32)), .val (.int (own_cc p2)), .unset, .unset, .unset, .unset, .unset, .unset, .unset, .unset] [(.int p3)])) _
          refine XS.sipush X_696.here hx rfl (hb hby at_450) ?_
          refine XS.iand X_696.here hx rfl (hb hby at_453) rfl ?_
          refine XS.i2c X_696.here hx rfl (hb hby at_454) rfl ?_
          refine XS.istore X_696.here hx rfl (hb hby at_455) rfl (l' := #[.val (.int p0), .val (.long p1), .second, .val (.int p2), .val (.int p3), .val (.ref a_9), .val (.int (own_l20 p0)), .val (.long (own_Y p1)), .second, .val (.ref a_523), .val (.int (1 : Int32)), .val (.int (0 : Int32)), .val (.int (own_pl p2 (own_l20 p0))), .val (.int (0 : Int32)), .val (.int (own_cc p2)), .val (.int (own_cc p3)), .unset, .unset, .unset, .unset, .unset, .unset, .unset]) rfl ?_
          refine XS.iload X_696.here hx rfl (hb hby at_457) rfl ?_
          refine XS.ifNo X_696.here hx rfl (hb hby at_459) rfl (by decide) ?_
          refine XS.aload X_696.here hx rfl (hb hby at_462) rfl rfl ?_
          refine XS.iload X_696.here hx rfl (hb hby at_464) rfl ?_
          show Steps p.tables e below (T_696.setTop (mkF m 466 #[.val (.int p0), .val (.long p1), .second, .val (.int p2), .val (.int p3), .val (.ref a_9), .val (.int (own_l20 p0)), .val (.long (own_Y p1)), .second, .val (.ref a_523), .val (.int (1 : Int32)), .val (.int (0 : Int32)), .val (.int (own_pl p2 (own_l20 p0))), .val (.int (0 : Int32)), .val (.int (own_cc p2)), .val (.int (own_cc p3)), .unset, .unset, .unset, .unset, .unset, .unset, .unset] [(.int (own_pl p2 (own_l20 p0))), (.ref a_523)])) _
          refine XS.iload X_696.here hx rfl (hb hby at_466) rfl ?_
          refine st_949 _ ?_
          refine XS.iload X_946.here hx rfl (hb hby at_469) rfl ?_
          refine XS.ifYes X_946.here hx rfl (pc0 := 471) (pc' := 481) rfl (hb hby at_471) rfl (by decide) (by decide) (by decide) ?_
          exact Steps.refl _
        obtain ⟨T_956, h_957, X_958, e_959, E_960, A_961, D_962, U_966, st_963⟩ := newO X_946 hx hZ hown (w25 hw) (w26 hw) (w27 hw) e_947 (g := (mkF m 481 #[.val (.int p0), .val (.long p1), .second, .val (.int p2), .val (.int p3), .val (.ref a_9), .val (.int (own_l20 p0)), .val (.long (own_Y p1)), .second, .val (.ref a_523), .val (.int (1 : Int32)), .val (.int (0 : Int32)), .val (.int (own_pl p2 (own_l20 p0))), .val (.int (0 : Int32)), .val (.int (own_cc p2)), .val (.int (own_cc p3)), .unset, .unset, .unset, .unset, .unset, .unset, .unset] [])) rfl (hb hby at_481) (by decide) (by decide)
        obtain ⟨a_964, g_965⟩ : ∃ z, z = h_945.size := ⟨_, rfl⟩
        rw [← g_965] at A_961 D_962 st_963 U_966
        have CH_967 : CHv Z consts_1 s.vm h_957 := CHv.ext E_960 CH_952
        have CR_968 : CHr Z consts_1 s.vm h0 s.vm h_957 := CR_953.trans (CHr.ext E_960 CH_952)
        have O_969 : Old Z n0 h_945 := ((O_695.keep K_698 (allS (Nat.le_trans (own_n0 O_530) (Nat.le_of_eq g_524.symm)) all0)).wr W_948 (Nat.le_trans (own_n0 O_530) (Nat.le_of_eq g_524.symm)))
        have V_970 : Arv Z h_957 a_523 k_517 .char (own_l20 p0) (own_iv ((own_ds (own_Y p1) (own_l20 p0)).set (own_pl p2 (own_l20 p0)).toNatClampNeg (own_cc p2))) (.int (0 : Int32)) := (V_954.ext E_960)
        have O_971 : Old Z n0 h_957 := (O_969.ext E_960)
        obtain ⟨_, _, ⟨T_972, L_972, k_972, n_972⟩, -, X_972, ⟨Lc_972, hQ_972, l_972, y_972, z_972⟩, st_972⟩ := X_958.specialBack hx (y := M99) rfl hown (mvT hZ (w28 hw)) (mvT hZ (w29 hw)) (mvT hZ (w30 hw)) (by decide) (backOf (W := 1) (rm_si1s l Z a0 hw [] G1 G3 HG h_957 n0 O_971 a_964 a_523 k_517 (own_l20 p0) ((own_ds (own_Y p1) (own_l20 p0)).set (own_pl p2 (own_l20 p0)).toNatClampNeg (own_cc p2)) A_961 (D_962 (Or.inr (w40 hw)) (ty := (.array .byte)) (by decide)) (D_962 (Or.inr (w41 hw)) (ty := .byte) (by decide)) (Nat.le_trans (own_n0 O_969) (Nat.le_of_eq g_965.symm)) V_970 (own_l0 p0) hn_361 (own_lc p0) (own_setlen (own_dsl _ _)) (own_setlat (own_dslat (own_l19 p0)) (own_ccr p2).1 (own_ccr p2).2)) hZ (w30 hw) (w27 hw) (by decide) (by decide)) (g := (mkF m 487 #[.val (.int p0), .val (.long p1), .second, .val (.int p2), .val (.int p3), .val (.ref a_9), .val (.int (own_l20 p0)), .val (.long (own_Y p1)), .second, .val (.ref a_523), .val (.int (1 : Int32)), .val (.int (0 : Int32)), .val (.int (own_pl p2 (own_l20 p0))), .val (.int (0 : Int32)), .val (.int (own_cc p2)), .val (.int (own_cc p3)), .unset, .unset, .unset, .unset, .unset, .unset, .unset] [(.ref a_523), (.ref a_964), (.ref a_964)])) rfl (by rw [hml]; rfl) (Steps.refl _) (a := a_964) (argsL := [(.ref a_523)]) (rest := [(.ref a_964)]) (lenOf pd_363 rfl) rfl (by show 2 * 0 + _ ≤ _; exact Nat.le_of_eq rfl) (hb hby at_487) (fun _ _ => ⟨rfl, e_959, (by decide : 3 + 1 ≤ _), (by decide : 42 + 19 ≤ _)⟩)
        dsimp only [Pt.U, Pt.locs, Pt.cells, Pt.slots] at X_972 l_972 y_972 z_972 st_972 hQ_972
        have X_972 := own_cast X_972 l_972 y_972 z_972
        obtain ⟨a_973, k_974, rfl, N_975, K_976, g_977, g_978, g_979, g_980, g_981⟩ := hQ_972
        have N_982 := Fr.app N_951 N_975
        have CH_983 : CHv Z consts_1 s.vm T_972.heap := CHv.keep K_976 (sfS (own_safe_null hZ.alike A_961 (D_962 (Or.inr (w40 hw)) (ty := (.array .byte)) (by decide))) sf0) CH_967
        have CR_984 : CHr Z consts_1 s.vm h0 s.vm T_972.heap := CR_968.trans (CHr.keep K_976 (sfS (own_safe_null hZ.alike A_961 (D_962 (Or.inr (w40 hw)) (ty := (.array .byte)) (by decide))) sf0) CH_967)
        have O_985 : Old Z n0 T_972.heap := (O_971.keep K_976 (allS (Nat.le_trans (own_n0 O_969) (Nat.le_of_eq g_965.symm)) all0))
        obtain ⟨_, _, ⟨T_986, L_986, k_986, n_986⟩, -, X_986, ⟨Lc_986, hQ_986, l_986, y_986, z_986⟩, st_986⟩ := Jvm.LawKit.callS X_972 hx (y := M269) hown (mvT hZ (w46 hw)) (mvT hZ (w47 hw)) (mvT hZ (w48 hw)) (mvT hZ (w49 hw)) (by decide) (backOf (W := 0) (rm_val l Z a0 hw [] G1 G3 HG T_972.heap n0 O_985 a_964 a_973 k_974 (own_l20 p0) ((own_ds (own_Y p1) (own_l20 p0)).set (own_pl p2 (own_l20 p0)).toNatClampNeg (own_cc p2)) g_977 g_978 g_979 g_981 (own_l0 p0) (own_setlen (own_dsl _ _)) (own_setlat (own_dslat (own_l19 p0)) (own_ccr p2).1 (own_ccr p2).2)) hZ (w49 hw) (w48 hw) (by decide) (by decide)) (g := (mkF m 490 #[.val (.int p0), .val (.long p1), .second, .val (.int p2), .val (.int p3), .val (.ref a_9), .val (.int (own_l20 p0)), .val (.long (own_Y p1)), .second, .val (.ref a_523), .val (.int (1 : Int32)), .val (.int (0 : Int32)), .val (.int (own_pl p2 (own_l20 p0))), .val (.int (0 : Int32)), .val (.int (own_cc p2)), .val (.int (own_cc p3)), .unset, .unset, .unset, .unset, .unset, .unset, .unset] [(.ref a_964)])) rfl (by rw [hml]; rfl) (argsL := [(.ref a_964)]) (rest := []) (lenOf pd_368 rfl) rfl (by show 2 * 0 + _ ≤ _; exact Nat.le_of_eq rfl) (hb hby at_490) (fun _ _ => ⟨rfl, rfl, (by decide : 4 + 0 ≤ _), (by decide : 61 + 0 ≤ _)⟩)
        dsimp only [Pt.U, Pt.locs, Pt.cells, Pt.slots] at X_986 l_986 y_986 z_986 st_986 hQ_986
        have X_986 := own_cast X_986 l_986 y_986 z_986
        obtain ⟨rfl, N_987, e_988⟩ := hQ_986
        have N_989 := Fr.app N_982 N_987
        have e_990 : T_986.heap = T_972.heap := e_988
        have K_991 : Keep h0 T_972.heap [] := (((K_703.wr W_948 (Or.inr (Nat.le_trans (Nat.le_trans (Nat.le_trans (Nat.le_trans (Nat.le_trans (Nat.le_trans (Nat.le_trans (Nat.le_trans (Nat.le_trans (Nat.le_trans (Nat.le_trans (Nat.le_trans (Nat.le_trans (Nat.le_trans (Nat.le_trans (Nat.le_trans (Nat.le_trans (Nat.le_trans (Nat.le_trans (Nat.le_trans E_6.1 (Keep.of_wr W_26).1) (Keep.of_wr W_44).1) (Keep.of_wr W_62).1) (Keep.of_wr W_80).1) (Keep.of_wr W_98).1) (Keep.of_wr W_116).1) (Keep.of_wr W_134).1) (Keep.of_wr W_152).1) (Keep.of_wr W_171).1) (Keep.of_wr W_189).1) (Keep.of_wr W_207).1) (Keep.of_wr W_225).1) (Keep.of_wr W_243).1) (Keep.of_wr W_261).1) (Keep.of_wr W_279).1) (Keep.of_wr W_297).1) (Keep.of_wr W_315).1) (Keep.of_wr W_334).1) (Keep.of_wr W_352).1) (Nat.le_of_eq g_524.symm)))).ext E_960).trans K_976 (allS (Or.inr (Nat.le_trans (Nat.le_trans (Nat.le_trans (Nat.le_trans (Nat.le_trans (Nat.le_trans (Nat.le_trans (Nat.le_trans (Nat.le_trans (Nat.le_trans (Nat.le_trans (Nat.le_trans (Nat.le_trans (Nat.le_trans (Nat.le_trans (Nat.le_trans (Nat.le_trans (Nat.le_trans (Nat.le_trans (Nat.le_trans (Nat.le_trans (Nat.le_trans (Nat.le_trans (Nat.le_trans (Nat.le_trans (Nat.le_trans (Nat.le_trans (Nat.le_trans (Nat.le_trans (Nat.le_trans (Nat.le_trans (Nat.le_trans (Nat.le_trans (Nat.le_trans (Nat.le_trans (Nat.le_trans (Nat.le_trans (Nat.le_trans (Nat.le_trans (Nat.le_trans (Nat.le_trans E_6.1 (Keep.of_wr W_26).1) (Keep.of_wr W_44).1) (Keep.of_wr W_62).1) (Keep.of_wr W_80).1) (Keep.of_wr W_98).1) (Keep.of_wr W_116).1) (Keep.of_wr W_134).1) (Keep.of_wr W_152).1) (Keep.of_wr W_171).1) (Keep.of_wr W_189).1) (Keep.of_wr W_207).1) (Keep.of_wr W_225).1) (Keep.of_wr W_243).1) (Keep.of_wr W_261).1) (Keep.of_wr W_279).1) (Keep.of_wr W_297).1) (Keep.of_wr W_315).1) (Keep.of_wr W_334).1) (Keep.of_wr W_352).1) E_520.1) K_534.1) K_543.1) K_552.1) K_561.1) K_570.1) K_580.1) K_589.1) K_598.1) K_607.1) K_616.1) K_625.1) K_634.1) K_644.1) K_653.1) K_662.1) K_671.1) K_680.1) K_689.1) K_698.1) (Keep.of_wr W_948).1) (Nat.le_of_eq g_965.symm))) all0))
        have C_992 : Steps p.tables e below S0 (T_986.setTop (mkF m 528 #[.val (.int p0), .val (.long p1), .second, .val (.int p2), .val (.int p3), .val (.ref a_9), .val (.int (own_l20 p0)), .val (.long (own_Y p1)), .second, .val (.ref a_523), .val (.int (1 : Int32)), .val (.int (0 : Int32)), .val (.int (own_pl p2 (own_l20 p0))), .val (.int (0 : Int32)), .val (.int (own_cc p2)), .val (.int (own_cc p3)), .val (.long (own_value ((own_ds (own_Y p1) (own_l20 p0)).set (own_pl p2 (own_l20 p0)).toNatClampNeg (own_cc p2)))), .second, .val (.int (1 : Int32)), .unset, .unset, .unset, .unset] [(.int (18 : Int32)), (.int (own_l20 p0))])) := by
          refine C_955.trans ?_
          refine st_963 _ ?_
          refine XS.dup X_958.here hx rfl (hb hby at_484) rfl rfl ?_
          refine XS.aload X_958.here hx rfl (hb hby at_485) rfl rfl ?_
          refine st_972.trans ?_
          refine st_986 _ ?_
          refine XS.lstore X_986.here hx rfl (hb hby at_493) rfl (l' := #[.val (.int p0), .val (.long p1), .second, .val (.int p2), .val (.int p3), .val (.ref a_9), .val (.int (own_l20 p0)), .val (.long (own_Y p1)), .second, .val (.ref a_523), .val (.int (1 : Int32)), .val (.int (0 : Int32)), .val (.int (own_pl p2 (own_l20 p0))), .val (.int (0 : Int32)), .val (.int (own_cc p2)), .val (.int (own_cc p3)), .val (.long (own_value ((own_ds (own_Y p1) (own_l20 p0)).set (own_pl p2 (own_l20 p0)).toNatClampNeg (own_cc p2)))), .second, .unset, .unset, .unset, .unset, .unset]) rfl ?_
          refine XS.iload X_986.here hx rfl (hb hby at_495) rfl ?_
          refine XS.ifNo X_986.here hx rfl (hb hby at_497) rfl (by decide) ?_
          show Steps p.tables e below (T_986.setTop (mkF m 500 #[.val (.int p0), .val (.long p1), .second, .val (.int p2), .val (.int p3), .val (.ref a_9), .val (.int (own_l20 p0)), .val (.long (own_Y p1)), .second, .val (.ref a_523), .val (.int (1 : Int32)), .val (.int (0 : Int32)), .val (.int (own_pl p2 (own_l20 p0))), .val (.int (0 : Int32)), .val (.int (own_cc p2)), .val (.int (own_cc p3)), .val (.long (own_value ((own_ds (own_Y p1) (own_l20 p0)).set (own_pl p2 (own_l20 p0)).toNatClampNeg (own_cc p2)))), .second, .unset, .unset, .unset, .unset, .unset] [])) _
          refine XS.iload X_986.here hx rfl (hb hby at_500) rfl ?_
          refine XS.ifYes X_986.here hx rfl (pc0 := 502) (pc' := 512) rfl (hb hby at_502) rfl (by decide) (by decide) (by decide) ?_
          refine XS.iconst X_986.here hx rfl (hb hby at_512) ?_
          refine XS.goto X_986.here hx rfl (pc0 := 513) (pc' := 517) rfl (hb hby at_513) (by decide) (by decide) ?_
          refine XS.istore X_986.here hx rfl (hb hby at_517) rfl (l' := #[.val (.int p0), .val (.long p1), .second, .val (.int p2), .val (.int p3), .val (.ref a_9), .val (.int (own_l20 p0)), .val (.long (own_Y p1)), .second, .val (.ref a_523), .val (.int (1 : Int32)), .val (.int (0 : Int32)), .val (.int (own_pl p2 (own_l20 p0))), .val (.int (0 : Int32)), .val (.int (own_cc p2)), .val (.int (own_cc p3)), .val (.long (own_value ((own_ds (own_Y p1) (own_l20 p0)).set (own_pl p2 (own_l20 p0)).toNatClampNeg (own_cc p2)))), .second, .val (.int (1 : Int32)), .unset, .unset, .unset, .unset]) rfl ?_
          refine XS.iload X_986.here hx rfl (hb hby at_519) rfl ?_
          refine XS.ifNo X_986.here hx rfl (hb hby at_521) rfl (i0_eq_f hn_361) ?_
          refine XS.iload X_986.here hx rfl (hb hby at_524) rfl ?_
          show Steps p.tables e below (T_986.setTop (mkF m 526 #[.val (.int p0), .val (.long p1), .second, .val (.int p2), .val (.int p3), .val (.ref a_9), .val (.int (own_l20 p0)), .val (.long (own_Y p1)), .second, .val (.ref a_523), .val (.int (1 : Int32)), .val (.int (0 : Int32)), .val (.int (own_pl p2 (own_l20 p0))), .val (.int (0 : Int32)), .val (.int (own_cc p2)), .val (.int (own_cc p3)), .val (.long (own_value ((own_ds (own_Y p1) (own_l20 p0)).set (own_pl p2 (own_l20 p0)).toNatClampNeg (own_cc p2)))), .second, .val (.int (1 : Int32)), .unset, .unset, .unset, .unset] [(.int (own_l20 p0))])) _
          refine XS.bipush X_986.here hx rfl (hb hby at_526) ?_
          exact Steps.refl _
        by_cases hc_993 : (18 : Int32) < (own_l20 p0)
        · skip
          have C_994 : Steps p.tables e below S0 (T_986.setTop (mkF m 685 #[.val (.int p0), .val (.long p1), .second, .val (.int p2), .val (.int p3), .val (.ref a_9), .val (.int (own_l20 p0)), .val (.long (own_Y p1)), .second, .val (.ref a_523), .val (.int (1 : Int32)), .val (.int (0 : Int32)), .val (.int (own_pl p2 (own_l20 p0))), .val (.int (0 : Int32)), .val (.int (own_cc p2)), .val (.int (own_cc p3)), .val (.long (own_value ((own_ds (own_Y p1) (own_l20 p0)).set (own_pl p2 (own_l20 p0)).toNatClampNeg (own_cc p2)))), .second, .val (.int (1 : Int32)), .val (.long (-1 : Int64)), .second, .unset, .unset] [(.int (1 : Int32))])) := by
            refine C_992.trans ?_
            refine XS.icmpYes X_986.here hx rfl (pc0 := 528) (pc' := 572) rfl (hb hby at_528) rfl (ii_gt_t hc_993) (by decide) (by decide) ?_
            refine X_986.ldc2J hx hown (mvT hZ (w62 hw)) rfl (hb hby at_572) ?_
            refine XS.lstore X_986.here hx rfl (hb hby at_575) rfl (l' := #[.val (.int p0), .val (.long p1), .second, .val (.int p2), .val (.int p3), .val (.ref a_9), .val (.int (own_l20 p0)), .val (.long (own_Y p1)), .second, .val (.ref a_523), .val (.int (1 : Int32)), .val (.int (0 : Int32)), .val (.int (own_pl p2 (own_l20 p0))), .val (.int (0 : Int32)), .val (.int (own_cc p2)), .val (.int (own_cc p3)), .val (.long (own_value ((own_ds (own_Y p1) (own_l20 p0)).set (own_pl p2 (own_l20 p0)).toNatClampNeg (own_cc p2)))), .second, .val (.int (1 : Int32)), .val (.long (-1 : Int64)), .second, .unset, .unset]) rfl ?_
            refine XS.goto X_986.here hx rfl (pc0 := 577) (pc' := 672) rfl (hb hby at_577) (by decide) (by decide) ?_
            refine XS.lload X_986.here hx rfl (hb hby at_672) rfl ?_
            refine XS.lload X_986.here hx rfl (hb hby at_674) rfl ?_
            refine XS.lcmp X_986.here hx rfl (hb hby at_676) rfl ?_
            refine XS.ifNo X_986.here hx rfl (hb hby at_677) rfl (i0_ne_f ((lw_eq (own_value ((own_ds (own_Y p1) (own_l20 p0)).set (own_pl p2 (own_l20 p0)).toNatClampNeg (own_cc p2))) (-1 : Int64)).mpr (own_vlong (own_setlen (own_dsl _ _)) hc_993))) ?_
            show Steps p.tables e below (T_986.setTop (mkF m 680 #[.val (.int p0), .val (.long p1), .second, .val (.int p2), .val (.int p3), .val (.ref a_9), .val (.int (own_l20 p0)), .val (.long (own_Y p1)), .second, .val (.ref a_523), .val (.int (1 : Int32)), .val (.int (0 : Int32)), .val (.int (own_pl p2 (own_l20 p0))), .val (.int (0 : Int32)), .val (.int (own_cc p2)), .val (.int (own_cc p3)), .val (.long (own_value ((own_ds (own_Y p1) (own_l20 p0)).set (own_pl p2 (own_l20 p0)).toNatClampNeg (own_cc p2)))), .second, .val (.int (1 : Int32)), .val (.long (-1 : Int64)), .second, .unset, .unset] [])) _
            refine XS.iconst X_986.here hx rfl (hb hby at_680) ?_
            refine XS.goto X_986.here hx rfl (pc0 := 681) (pc' := 685) rfl (hb hby at_681) (by decide) (by decide) ?_
            exact Steps.refl _
          have K_995 : Keep h0 T_972.heap [] := K_991
          obtain ⟨fs, hr, hrun, hended, hRE⟩ := X_986.leaveW hS0 (by rw [show T_986.heap = T_972.heap from e_990]; exact (Nat.le_trans (Nat.le_refl _) (Nat.le_trans (Nat.le_trans (Nat.le_trans (Nat.le_trans (Nat.le_trans (Nat.le_trans (Nat.le_trans (Nat.le_trans (Nat.le_trans (Nat.le_trans (Nat.le_trans (Nat.le_trans (Nat.le_trans (Nat.le_trans (Nat.le_trans (Nat.le_trans (Nat.le_trans (Nat.le_trans (Nat.le_trans (Nat.le_trans (Nat.le_trans (Nat.le_trans (Nat.le_trans (Nat.le_trans (Nat.le_trans (Nat.le_trans (Nat.le_trans (Nat.le_trans (Nat.le_trans (Nat.le_trans (Nat.le_trans (Nat.le_trans (Nat.le_trans (Nat.le_trans (Nat.le_trans (Nat.le_trans (Nat.le_trans (Nat.le_trans (Nat.le_trans (Nat.le_trans (Nat.le_trans (Nat.le_trans E_6.1 (Keep.of_wr W_26).1) (Keep.of_wr W_44).1) (Keep.of_wr W_62).1) (Keep.of_wr W_80).1) (Keep.of_wr W_98).1) (Keep.of_wr W_116).1) (Keep.of_wr W_134).1) (Keep.of_wr W_152).1) (Keep.of_wr W_171).1) (Keep.of_wr W_189).1) (Keep.of_wr W_207).1) (Keep.of_wr W_225).1) (Keep.of_wr W_243).1) (Keep.of_wr W_261).1) (Keep.of_wr W_279).1) (Keep.of_wr W_297).1) (Keep.of_wr W_315).1) (Keep.of_wr W_334).1) (Keep.of_wr W_352).1) E_520.1) K_534.1) K_543.1) K_552.1) K_561.1) K_570.1) K_580.1) K_589.1) K_598.1) K_607.1) K_616.1) K_625.1) K_634.1) K_644.1) K_653.1) K_662.1) K_671.1) K_680.1) K_689.1) K_698.1) (Keep.of_wr W_948).1) E_960.1) K_976.1))) (v := some (.int (1 : Int32))) (fun h => by rw [Bd.returns] at h; cases h)
          refine ⟨_, _, C_994.trans (retN X_986 hx (t := .boolean) Bd.returns (by simp) (hb hby at_685) hr), hrun, hended, _, _, rfl, ?_, ?_, hRE.1, hRE.2.1, hRE.2.2.1, hRE.2.2.2.mono (by decide) (by decide)⟩
          · show Q_law Z G1 G3 p0 p1 p2 p3 h0 n0 (some (.int (1 : Int32))) T_986.heap _
            rw [e_990]
            exact ⟨rfl, N_989, K_995⟩
          · show CHr Z consts_1 s.vm s.heap T_986.vm T_986.heap
            rw [hh, show T_986.heap = T_972.heap from e_990]
            exact CR_984.trans (CHv.at X_986 hZ hEL CH_983)
        · skip
          obtain ⟨_, _, ⟨T_996, L_996, k_996, n_996⟩, -, X_996, ⟨Lc_996, hQ_996, l_996, y_996, z_996⟩, st_996⟩ := Jvm.LawKit.callS X_986 hx (y := M257) hown (mvT hZ (w100 hw)) (mvT hZ (w101 hw)) (mvT hZ (w23 hw)) (mvT hZ (w102 hw)) (by decide) (backOf (W := 0) (rm_isdg l Z a0 hw [] G1 G3 HG T_972.heap n0 O_985 (own_cc p2) ) hZ (w102 hw) (w23 hw) (by decide) (by decide)) (g := (mkF m 538 #[.val (.int p0), .val (.long p1), .second, .val (.int p2), .val (.int p3), .val (.ref a_9), .val (.int (own_l20 p0)), .val (.long (own_Y p1)), .second, .val (.ref a_523), .val (.int (1 : Int32)), .val (.int (0 : Int32)), .val (.int (own_pl p2 (own_l20 p0))), .val (.int (0 : Int32)), .val (.int (own_cc p2)), .val (.int (own_cc p3)), .val (.long (own_value ((own_ds (own_Y p1) (own_l20 p0)).set (own_pl p2 (own_l20 p0)).toNatClampNeg (own_cc p2)))), .second, .val (.int (1 : Int32)), .unset, .unset, .unset, .unset] [(.int (own_cc p2))])) rfl (by rw [hml]; rfl) (argsL := [(.int (own_cc p2))]) (rest := []) (lenOf pd_374 rfl) rfl (by show 2 * 0 + _ ≤ _; exact Nat.le_of_eq rfl) (hb hby at_538) (fun _ _ => ⟨rfl, e_990, (by decide : 4 + 0 ≤ _), (by decide : 61 + 0 ≤ _)⟩)
          dsimp only [Pt.U, Pt.locs, Pt.cells, Pt.slots] at X_996 l_996 y_996 z_996 st_996 hQ_996
          have X_996 := own_cast X_996 l_996 y_996 z_996
          have C_997 : Steps p.tables e below S0 (T_986.setTop (mkF m 538 #[.val (.int p0), .val (.long p1), .second, .val (.int p2), .val (.int p3), .val (.ref a_9), .val (.int (own_l20 p0)), .val (.long (own_Y p1)), .second, .val (.ref a_523), .val (.int (1 : Int32)), .val (.int (0 : Int32)), .val (.int (own_pl p2 (own_l20 p0))), .val (.int (0 : Int32)), .val (.int (own_cc p2)), .val (.int (own_cc p3)), .val (.long (own_value ((own_ds (own_Y p1) (own_l20 p0)).set (own_pl p2 (own_l20 p0)).toNatClampNeg (own_cc p2)))), .second, .val (.int (1 : Int32)), .unset, .unset, .unset, .unset] [(.int (own_cc p2))])) := by
            refine C_992.trans ?_
            refine XS.icmpNo X_986.here hx rfl (hb hby at_528) rfl (ii_gt_f hc_993) ?_
            refine XS.iload X_986.here hx rfl (hb hby at_531) rfl ?_
            refine XS.ifNo X_986.here hx rfl (hb hby at_533) rfl (by decide) ?_
            refine XS.iload X_986.here hx rfl (hb hby at_536) rfl ?_
            exact Steps.refl _
          rcases hQ_996 with hQ_998 | hQ_999
          · skip
            obtain ⟨rfl, N_1000, e_1001, g_1002⟩ := hQ_998
            have N_1003 := Fr.app N_989 N_1000
            have e_1004 : T_996.heap = T_972.heap := e_1001
            have C_1005 : Steps p.tables e below S0 (T_996.setTop (mkF m 560 #[.val (.int p0), .val (.long p1), .second, .val (.int p2), .val (.int p3), .val (.ref a_9), .val (.int (own_l20 p0)), .val (.long (own_Y p1)), .second, .val (.ref a_523), .val (.int (1 : Int32)), .val (.int (0 : Int32)), .val (.int (own_pl p2 (own_l20 p0))), .val (.int (0 : Int32)), .val (.int (own_cc p2)), .val (.int (own_cc p3)), .val (.long (own_value ((own_ds (own_Y p1) (own_l20 p0)).set (own_pl p2 (own_l20 p0)).toNatClampNeg (own_cc p2)))), .second, .val (.int (1 : Int32)), .unset, .unset, .unset, .unset] [(.int (1 : Int32)), (.int (own_l20 p0))])) := by
              refine C_997.trans ?_
              refine st_996 _ ?_
              refine XS.ifNo X_996.here hx rfl (hb hby at_541) rfl (by decide) ?_
              refine XS.iload X_996.here hx rfl (hb hby at_544) rfl ?_
              refine XS.ifYes X_996.here hx rfl (pc0 := 546) (pc' := 557) rfl (hb hby at_546) rfl (by decide) (by decide) (by decide) ?_
              refine XS.iload X_996.here hx rfl (hb hby at_557) rfl ?_
              refine XS.iconst X_996.here hx rfl (hb hby at_559) ?_
              exact Steps.refl _
            by_cases hc_1006 : (1 : Int32) < (own_l20 p0)
            · skip
              have V_1007 : Arv Z T_972.heap a_523 k_517 .char (own_l20 p0) (own_iv ((own_ds (own_Y p1) (own_l20 p0)).set (own_pl p2 (own_l20 p0)).toNatClampNeg (own_cc p2))) (.int (0 : Int32)) := (V_970.keep K_976 (ninS (Nat.ne_of_lt (Nat.lt_of_lt_of_le V_954.lt (Nat.le_trans (Nat.le_refl _) (Nat.le_of_eq g_965.symm)))) nin0))
              obtain ⟨c_1008, A_1009, q_1010, S_1011, M_1012, H_1013, U_1014⟩ := id V_1007
              have hin_1015 : ¬ ((0 : Int32) < 0 ∨ c_1008.slots.size ≤ (0 : Int32).toNatClampNeg) := inb_of S_1011 ⟨(by decide : ¬ ((0 : Int32) < (0 : Int32))), hp_512⟩
              have hat_1016 : c_1008.slots[(0 : Int32).toNatClampNeg]? = some (.int (own_gt ((own_ds (own_Y p1) (own_l20 p0)).set (own_pl p2 (own_l20 p0)).toNatClampNeg (own_cc p2)) (0 : Int32))) := Has.at H_1013 hin_1015 (own_iv_at ((own_ds (own_Y p1) (own_l20 p0)).set (own_pl p2 (own_l20 p0)).toNatClampNeg (own_cc p2)) (0 : Int32))
              have C_1017 : Steps p.tables e below S0 (T_996.setTop (mkF m 569 #[.val (.int p0), .val (.long p1), .second, .val (.int p2), .val (.int p3), .val (.ref a_9), .val (.int (own_l20 p0)), .val (.long (own_Y p1)), .second, .val (.ref a_523), .val (.int (1 : Int32)), .val (.int (0 : Int32)), .val (.int (own_pl p2 (own_l20 p0))), .val (.int (0 : Int32)), .val (.int (own_cc p2)), .val (.int (own_cc p3)), .val (.long (own_value ((own_ds (own_Y p1) (own_l20 p0)).set (own_pl p2 (own_l20 p0)).toNatClampNeg (own_cc p2)))), .second, .val (.int (1 : Int32)), .unset, .unset, .unset, .unset] [(.int (48 : Int32)), (.int (own_gt ((own_ds (own_Y p1) (own_l20 p0)).set (own_pl p2 (own_l20 p0)).toNatClampNeg (own_cc p2)) (0 : Int32)))])) := by
                refine C_1005.trans ?_
                refine XS.icmpNo X_996.here hx rfl (hb hby at_560) rfl (ii_le_f hc_1006) ?_
                refine XS.aload X_996.here hx rfl (hb hby at_563) rfl rfl ?_
                refine XS.iconst X_996.here hx rfl (hb hby at_565) ?_
                refine X_996.caload hx (j := (0 : Int32)) (v := (.int (own_gt ((own_ds (own_Y p1) (own_l20 p0)).set (own_pl p2 (own_l20 p0)).toNatClampNeg (own_cc p2)) (0 : Int32)))) (by rw [e_1004]; exact A_1009.1) (State.isArrayOf_alike hZ.alike A_1009.2.1) A_1009.2.2 hin_1015 hat_1016 (g := (mkF m 566 #[.val (.int p0), .val (.long p1), .second, .val (.int p2), .val (.int p3), .val (.ref a_9), .val (.int (own_l20 p0)), .val (.long (own_Y p1)), .second, .val (.ref a_523), .val (.int (1 : Int32)), .val (.int (0 : Int32)), .val (.int (own_pl p2 (own_l20 p0))), .val (.int (0 : Int32)), .val (.int (own_cc p2)), .val (.int (own_cc p3)), .val (.long (own_value ((own_ds (own_Y p1) (own_l20 p0)).set (own_pl p2 (own_l20 p0)).toNatClampNeg (own_cc p2)))), .second, .val (.int (1 : Int32)), .unset, .unset, .unset, .unset] [(.int (0 : Int32)), (.ref a_523)])) rfl rfl (hb hby at_566) _ ?_
                refine XS.bipush X_996.here hx rfl (hb hby at_567) ?_
                exact Steps.refl _
              by_cases hc_1018 : (own_gt ((own_ds (own_Y p1) (own_l20 p0)).set (own_pl p2 (own_l20 p0)).toNatClampNeg (own_cc p2)) (0 : Int32)) = (48 : Int32)
              · skip
                have C_1019 : Steps p.tables e below S0 (T_996.setTop (mkF m 685 #[.val (.int p0), .val (.long p1), .second, .val (.int p2), .val (.int p3), .val (.ref a_9), .val (.int (own_l20 p0)), .val (.long (own_Y p1)), .second, .val (.ref a_523), .val (.int (1 : Int32)), .val (.int (0 : Int32)), .val (.int (own_pl p2 (own_l20 p0))), .val (.int (0 : Int32)), .val (.int (own_cc p2)), .val (.int (own_cc p3)), .val (.long (own_value ((own_ds (own_Y p1) (own_l20 p0)).set (own_pl p2 (own_l20 p0)).toNatClampNeg (own_cc p2)))), .second, .val (.int (1 : Int32)), .val (.long (-1 : Int64)), .second, .unset, .unset] [(.int (1 : Int32))])) := by
                  refine C_1017.trans ?_
                  refine XS.icmpNo X_996.here hx rfl (hb hby at_569) rfl (ii_ne_f hc_1018) ?_
                  refine X_996.ldc2J hx hown (mvT hZ (w62 hw)) rfl (hb hby at_572) ?_
                  refine XS.lstore X_996.here hx rfl (hb hby at_575) rfl (l' := #[.val (.int p0), .val (.long p1), .second, .val (.int p2), .val (.int p3), .val (.ref a_9), .val (.int (own_l20 p0)), .val (.long (own_Y p1)), .second, .val (.ref a_523), .val (.int (1 : Int32)), .val (.int (0 : Int32)), .val (.int (own_pl p2 (own_l20 p0))), .val (.int (0 : Int32)), .val (.int (own_cc p2)), .val (.int (own_cc p3)), .val (.long (own_value ((own_ds (own_Y p1) (own_l20 p0)).set (own_pl p2 (own_l20 p0)).toNatClampNeg (own_cc p2)))), .second, .val (.int (1 : Int32)), .val (.long (-1 : Int64)), .second, .unset, .unset]) rfl ?_
                  refine XS.goto X_996.here hx rfl (pc0 := 577) (pc' := 672) rfl (hb hby at_577) (by decide) (by decide) ?_
                  refine XS.lload X_996.here hx rfl (hb hby at_672) rfl ?_
                  refine XS.lload X_996.here hx rfl (hb hby at_674) rfl ?_
                  refine XS.lcmp X_996.here hx rfl (hb hby at_676) rfl ?_
                  refine XS.ifNo X_996.here hx rfl (hb hby at_677) rfl (i0_ne_f ((lw_eq (own_value ((own_ds (own_Y p1) (own_l20 p0)).set (own_pl p2 (own_l20 p0)).toNatClampNeg (own_cc p2))) (-1 : Int64)).mpr (own_vzero (own_setlen (own_dsl _ _)) hc_1006 hc_1018))) ?_
                  show Steps p.tables e below (T_996.setTop (mkF m 680 #[.val (.int p0), .val (.long p1), .second, .val (.int p2), .val (.int p3), .val (.ref a_9), .val (.int (own_l20 p0)), .val (.long (own_Y p1)), .second, .val (.ref a_523), .val (.int (1 : Int32)), .val (.int (0 : Int32)), .val (.int (own_pl p2 (own_l20 p0))), .val (.int (0 : Int32)), .val (.int (own_cc p2)), .val (.int (own_cc p3)), .val (.long (own_value ((own_ds (own_Y p1) (own_l20 p0)).set (own_pl p2 (own_l20 p0)).toNatClampNeg (own_cc p2)))), .second, .val (.int (1 : Int32)), .val (.long (-1 : Int64)), .second, .unset, .unset] [])) _
                  refine XS.iconst X_996.here hx rfl (hb hby at_680) ?_
                  refine XS.goto X_996.here hx rfl (pc0 := 681) (pc' := 685) rfl (hb hby at_681) (by decide) (by decide) ?_
                  exact Steps.refl _
                have K_1020 : Keep h0 T_972.heap [] := K_991
                obtain ⟨fs, hr, hrun, hended, hRE⟩ := X_996.leaveW hS0 (by rw [show T_996.heap = T_972.heap from e_1004]; exact (Nat.le_trans (Nat.le_refl _) (Nat.le_trans (Nat.le_trans (Nat.le_trans (Nat.le_trans (Nat.le_trans (Nat.le_trans (Nat.le_trans (Nat.le_trans (Nat.le_trans (Nat.le_trans (Nat.le_trans (Nat.le_trans (Nat.le_trans (Nat.le_trans (Nat.le_trans (Nat.le_trans (Nat.le_trans (Nat.le_trans (Nat.le_trans (Nat.le_trans (Nat.le_trans (Nat.le_trans (Nat.le_trans (Nat.le_trans (Nat.le_trans (Nat.le_trans (Nat.le_trans (Nat.le_trans (Nat.le_trans (Nat.le_trans (Nat.le_trans (Nat.le_trans (Nat.le_trans (Nat.le_trans (Nat.le_trans (Nat.le_trans (Nat.le_trans (Nat.le_trans (Nat.le_trans (Nat.le_trans (Nat.le_trans (Nat.le_trans E_6.1 (Keep.of_wr W_26).1) (Keep.of_wr W_44).1) (Keep.of_wr W_62).1) (Keep.of_wr W_80).1) (Keep.of_wr W_98).1) (Keep.of_wr W_116).1) (Keep.of_wr W_134).1) (Keep.of_wr W_152).1) (Keep.of_wr W_171).1) (Keep.of_wr W_189).1) (Keep.of_wr W_207).1) (Keep.of_wr W_225).1) (Keep.of_wr W_243).1) (Keep.of_wr W_261).1) (Keep.of_wr W_279).1) (Keep.of_wr W_297).1) (Keep.of_wr W_315).1) (Keep.of_wr W_334).1) (Keep.of_wr W_352).1) E_520.1) K_534.1) K_543.1) K_552.1) K_561.1) K_570.1) K_580.1) K_589.1) K_598.1) K_607.1) K_616.1) K_625.1) K_634.1) K_644.1) K_653.1) K_662.1) K_671.1) K_680.1) K_689.1) K_698.1) (Keep.of_wr W_948).1) E_960.1) K_976.1))) (v := some (.int (1 : Int32))) (fun h => by rw [Bd.returns] at h; cases h)
                refine ⟨_, _, C_1019.trans (retN X_996 hx (t := .boolean) Bd.returns (by simp) (hb hby at_685) hr), hrun, hended, _, _, rfl, ?_, ?_, hRE.1, hRE.2.1, hRE.2.2.1, hRE.2.2.2.mono (by decide) (by decide)⟩
                · show Q_law Z G1 G3 p0 p1 p2 p3 h0 n0 (some (.int (1 : Int32))) T_996.heap _
                  rw [e_1004]
                  exact ⟨rfl, N_1003, K_1020⟩
                · show CHr Z consts_1 s.vm s.heap T_996.vm T_996.heap
                  rw [hh, show T_996.heap = T_972.heap from e_1004]
                  exact CR_984.trans (CHv.at X_996 hZ hEL CH_983)
              · skip
                have V_1021 : Arv Z T_972.heap a_9 k_3 .long (19 : Int32) (own_jv own_pws) (.long (0 : Int64)) := ((((V_694.keep K_698 (ninS (Nat.ne_of_lt (Nat.lt_of_lt_of_le V_359.lt (Nat.le_trans (Nat.le_refl _) (Nat.le_of_eq g_524.symm)))) nin0)).other W_948 (Nat.ne_of_lt (Nat.lt_of_lt_of_le V_359.lt (Nat.le_trans (Nat.le_refl _) (Nat.le_of_eq g_524.symm))))).ext E_960).keep K_976 (ninS (Nat.ne_of_lt (Nat.lt_of_lt_of_le V_359.lt (Nat.le_trans (Nat.le_trans (Nat.le_trans (Nat.le_trans (Nat.le_trans (Nat.le_trans (Nat.le_trans (Nat.le_trans (Nat.le_trans (Nat.le_trans (Nat.le_trans (Nat.le_trans (Nat.le_trans (Nat.le_trans (Nat.le_trans (Nat.le_trans (Nat.le_trans (Nat.le_trans (Nat.le_trans (Nat.le_trans (Nat.le_trans E_520.1 K_534.1) K_543.1) K_552.1) K_561.1) K_570.1) K_580.1) K_589.1) K_598.1) K_607.1) K_616.1) K_625.1) K_634.1) K_644.1) K_653.1) K_662.1) K_671.1) K_680.1) K_689.1) K_698.1) (Keep.of_wr W_948).1) (Nat.le_of_eq g_965.symm)))) nin0))
                obtain ⟨c_1022, A_1023, q_1024, S_1025, M_1026, H_1027, U_1028⟩ := id V_1021
                have hin_1029 : ¬ ((own_l20 p0) < 0 ∨ c_1022.slots.size ≤ (own_l20 p0).toNatClampNeg) := inb_of S_1025 ⟨(own_l0 p0), (own_l18 hc_993).1⟩
                have hat_1030 : c_1022.slots[(own_l20 p0).toNatClampNeg]? = some (.long (own_gj own_pws (own_l20 p0))) := Has.at H_1027 hin_1029 (own_jv_at own_pws (own_l20 p0))
                obtain ⟨_, _, ⟨T_1031, L_1031, k_1031, n_1031⟩, -, X_1031, ⟨Lc_1031, hQ_1031, l_1031, y_1031, z_1031⟩, st_1031⟩ := Jvm.LawKit.callS X_996 hx (y := M216) hown (mvT hZ (w63 hw)) (mvT hZ (w64 hw)) (mvT hZ (w23 hw)) (mvT hZ (w65 hw)) (by decide) (backOf (W := 4) (rm_digit l Z a0 hw [] G1 G3 HG T_972.heap n0 O_985 a_9 k_3 (own_Y p1) (own_l20 p0) (own_pl p2 (own_l20 p0)) V_1021 hr_513.1 hr_513.2 (own_l19 p0)) hZ (w65 hw) (w23 hw) (by decide) (by decide)) (g := (mkF m 611 #[.val (.int p0), .val (.long p1), .second, .val (.int p2), .val (.int p3), .val (.ref a_9), .val (.int (own_l20 p0)), .val (.long (own_Y p1)), .second, .val (.ref a_523), .val (.int (1 : Int32)), .val (.int (0 : Int32)), .val (.int (own_pl p2 (own_l20 p0))), .val (.int (0 : Int32)), .val (.int (own_cc p2)), .val (.int (own_cc p3)), .val (.long (own_value ((own_ds (own_Y p1) (own_l20 p0)).set (own_pl p2 (own_l20 p0)).toNatClampNeg (own_cc p2)))), .second, .val (.int (1 : Int32)), .unset, .unset, .val (.long ((own_Y p1) - ((own_Y p1) / (own_gj own_pws (own_l20 p0))) * (own_gj own_pws (own_l20 p0)))), .second] [(.int (own_pl p2 (own_l20 p0))), (.int (own_l20 p0)), (.long (own_Y p1)), (.ref a_9), (.long (((own_cc p2) - (48 : Int32)).toInt64)), (.long ((own_Y p1) - ((own_Y p1) / (own_gj own_pws (own_l20 p0))) * (own_gj own_pws (own_l20 p0))))])) rfl (by rw [hml]; rfl) (argsL := [(.ref a_9), (.long (own_Y p1)), (.int (own_l20 p0)), (.int (own_pl p2 (own_l20 p0)))]) (rest := [(.long (((own_cc p2) - (48 : Int32)).toInt64)), (.long ((own_Y p1) - ((own_Y p1) / (own_gj own_pws (own_l20 p0))) * (own_gj own_pws (own_l20 p0))))]) (lenOf pd_248 rfl) rfl (by show 2 * 0 + _ ≤ _; exact Nat.le_of_eq rfl) (hb hby at_611) (fun _ _ => ⟨rfl, e_1004, (by decide : 4 + 0 ≤ _), (by decide : 61 + 0 ≤ _)⟩)
                dsimp only [Pt.U, Pt.locs, Pt.cells, Pt.slots] at X_1031 l_1031 y_1031 z_1031 st_1031 hQ_1031
                have X_1031 := own_cast X_1031 l_1031 y_1031 z_1031
                obtain ⟨rfl, N_1032, e_1033⟩ := hQ_1031
                have N_1034 := Fr.app N_1003 N_1032
                have e_1035 : T_1031.heap = T_972.heap := e_1033
                obtain ⟨c_1036, A_1037, q_1038, S_1039, M_1040, H_1041, U_1042⟩ := id V_1021
                have hin_1043 : ¬ ((((own_l20 p0) - (1 : Int32)) - (own_pl p2 (own_l20 p0))) < 0 ∨ c_1036.slots.size ≤ (((own_l20 p0) - (1 : Int32)) - (own_pl p2 (own_l20 p0))).toNatClampNeg) := inb_of S_1039 ⟨(own_sub_nat hr_513.1 hr_513.2).2.1, (own_lt19 hr_513.1 hr_513.2 (own_l19 p0)).2.1⟩
                have hat_1044 : c_1036.slots[(((own_l20 p0) - (1 : Int32)) - (own_pl p2 (own_l20 p0))).toNatClampNeg]? = some (.long (own_gj own_pws (((own_l20 p0) - (1 : Int32)) - (own_pl p2 (own_l20 p0))))) := Has.at H_1041 hin_1043 (own_jv_at own_pws (((own_l20 p0) - (1 : Int32)) - (own_pl p2 (own_l20 p0))))
                have C_1045 : Steps p.tables e below S0 (T_1031.setTop (mkF m 676 #[.val (.int p0), .val (.long p1), .second, .val (.int p2), .val (.int p3), .val (.ref a_9), .val (.int (own_l20 p0)), .val (.long (own_Y p1)), .second, .val (.ref a_523), .val (.int (1 : Int32)), .val (.int (0 : Int32)), .val (.int (own_pl p2 (own_l20 p0))), .val (.int (0 : Int32)), .val (.int (own_cc p2)), .val (.int (own_cc p3)), .val (.long (own_value ((own_ds (own_Y p1) (own_l20 p0)).set (own_pl p2 (own_l20 p0)).toNatClampNeg (own_cc p2)))), .second, .val (.int (1 : Int32)), .val (.long (((own_Y p1) - ((own_Y p1) / (own_gj own_pws (own_l20 p0))) * (own_gj own_pws (own_l20 p0))) + (((((own_cc p2) - (48 : Int32)).toInt64) - (own_dig (own_Y p1) (own_l20 p0) (own_pl p2 (own_l20 p0)))) * (own_gj own_pws (((own_l20 p0) - (1 : Int32)) - (own_pl p2 (own_l20 p0))))))), .second, .val (.long (((own_Y p1) - ((own_Y p1) / (own_gj own_pws (own_l20 p0))) * (own_gj own_pws (own_l20 p0))) + (((((own_cc p2) - (48 : Int32)).toInt64) - (own_dig (own_Y p1) (own_l20 p0) (own_pl p2 (own_l20 p0)))) * (own_gj own_pws (((own_l20 p0) - (1 : Int32)) - (own_pl p2 (own_l20 p0))))))), .second] [(.long (((own_Y p1) - ((own_Y p1) / (own_gj own_pws (own_l20 p0))) * (own_gj own_pws (own_l20 p0))) + (((((own_cc p2) - (48 : Int32)).toInt64) - (own_dig (own_Y p1) (own_l20 p0) (own_pl p2 (own_l20 p0)))) * (own_gj own_pws (((own_l20 p0) - (1 : Int32)) - (own_pl p2 (own_l20 p0))))))), (.long (own_value ((own_ds (own_Y p1) (own_l20 p0)).set (own_pl p2 (own_l20 p0)).toNatClampNeg (own_cc p2))))])) := by
                  refine C_1017.trans ?_
                  refine XS.icmpYes X_996.here hx rfl (pc0 := 569) (pc' := 580) rfl (hb hby at_569) rfl (ii_ne_t hc_1018) (by decide) (by decide) ?_
                  refine XS.lload X_996.here hx rfl (hb hby at_580) rfl ?_
                  refine XS.aload X_996.here hx rfl (hb hby at_582) rfl rfl ?_
                  refine XS.iload X_996.here hx rfl (hb hby at_584) rfl ?_
                  refine X_996.laload hx (j := (own_l20 p0)) (v := (.long (own_gj own_pws (own_l20 p0)))) (by rw [e_1004]; exact A_1023.1) (State.isArrayOf_alike hZ.alike A_1023.2.1) A_1023.2.2 hin_1029 hat_1030 (g := (mkF m 586 #[.val (.int p0), .val (.long p1), .second, .val (.int p2), .val (.int p3), .val (.ref a_9), .val (.int (own_l20 p0)), .val (.long (own_Y p1)), .second, .val (.ref a_523), .val (.int (1 : Int32)), .val (.int (0 : Int32)), .val (.int (own_pl p2 (own_l20 p0))), .val (.int (0 : Int32)), .val (.int (own_cc p2)), .val (.int (own_cc p3)), .val (.long (own_value ((own_ds (own_Y p1) (own_l20 p0)).set (own_pl p2 (own_l20 p0)).toNatClampNeg (own_cc p2)))), .second, .val (.int (1 : Int32)), .unset, .unset, .unset, .unset] [(.int (own_l20 p0)), (.ref a_9), (.long (own_Y p1))])) rfl rfl (hb hby at_586) _ ?_
                  refine XS.lrem X_996.here hx rfl (hb hby at_587) rfl (own_pnz (own_l18 hc_993).2) ?_
                  refine XS.lstore X_996.here hx rfl (hb hby at_588) rfl (l' := #[.val (.int p0), .val (.long p1), .second, .val (.int p2), .val (.int p3), .val (.ref a_9), .val (.int (own_l20 p0)), .val (.long (own_Y p1)), .second, .val (.ref a_523), .val (.int (1 : Int32)), .val (.int (0 : Int32)), .val (.int (own_pl p2 (own_l20 p0))), .val (.int (0 : Int32)), .val (.int (own_cc p2)), .val (.int (own_cc p3)), .val (.long (own_value ((own_ds (own_Y p1) (own_l20 p0)).set (own_pl p2 (own_l20 p0)).toNatClampNeg (own_cc p2)))), .second, .val (.int (1 : Int32)), .unset, .unset, .val (.long ((own_Y p1) - ((own_Y p1) / (own_gj own_pws (own_l20 p0))) * (own_gj own_pws (own_l20 p0)))), .second]) rfl ?_
                  refine XS.iload X_996.here hx rfl (hb hby at_590) rfl ?_
                  show Steps p.tables e below (T_996.setTop (mkF m 592 #[.val (.int p0), .val (.long p1), .second, .val (.int p2), .val (.int p3), .val (.ref a_9), .val (.int (own_l20 p0)), .val (.long (own_Y p1)), .second, .val (.ref a_523), .val (.int (1 : Int32)), .val (.int (0 : Int32)), .val (.int (own_pl p2 (own_l20 p0))), .val (.int (0 : Int32)), .val (.int (own_cc p2)), .val (.int (own_cc p3)), .val (.long (own_value ((own_ds (own_Y p1) (own_l20 p0)).set (own_pl p2 (own_l20 p0)).toNatClampNeg (own_cc p2)))), .second, .val (.int (1 : Int32)), .unset, .unset, .val (.long ((own_Y p1) - ((own_Y p1) / (own_gj own_pws (own_l20 p0))) * (own_gj own_pws (own_l20 p0)))), .second] [(.int (1 : Int32))])) _
                  refine XS.ifNo X_996.here hx rfl (hb hby at_592) rfl (by decide) ?_
                  refine XS.lload X_996.here hx rfl (hb hby at_595) rfl ?_
                  refine XS.iload X_996.here hx rfl (hb hby at_597) rfl ?_
                  refine XS.bipush X_996.here hx rfl (hb hby at_599) ?_
                  refine XS.isub X_996.here hx rfl (hb hby at_601) rfl ?_
                  refine XS.i2l X_996.here hx rfl (hb hby at_602) rfl ?_
                  refine XS.aload X_996.here hx rfl (hb hby at_603) rfl rfl ?_
                  refine XS.lload X_996.here hx rfl (hb hby at_605) rfl ?_
                  show Steps p.tables e below (T_996.setTop (mkF m 607 #[.val (.int p0), .val (.long p1), .second, .val (.int p2), .val (.int p3), .val (.ref a_9), .val (.int (own_l20 p0)), .val (.long (own_Y p1)), .second, .val (.ref a_523), .val (.int (1 : Int32)), .val (.int (0 : Int32)), .val (.int (own_pl p2 (own_l20 p0))), .val (.int (0 : Int32)), .val (.int (own_cc p2)), .val (.int (own_cc p3)), .val (.long (own_value ((own_ds (own_Y p1) (own_l20 p0)).set (own_pl p2 (own_l20 p0)).toNatClampNeg (own_cc p2)))), .second, .val (.int (1 : Int32)), .unset, .unset, .val (.long ((own_Y p1) - ((own_Y p1) / (own_gj own_pws (own_l20 p0))) * (own_gj own_pws (own_l20 p0)))), .second] [(.long (own_Y p1)), (.ref a_9), (.long (((own_cc p2) - (48 : Int32)).toInt64)), (.long ((own_Y p1) - ((own_Y p1) / (own_gj own_pws (own_l20 p0))) * (own_gj own_pws (own_l20 p0))))])) _
                  refine XS.iload X_996.here hx rfl (hb hby at_607) rfl ?_
                  refine XS.iload X_996.here hx rfl (hb hby at_609) rfl ?_
                  refine st_1031 _ ?_
                  refine XS.lsub X_1031.here hx rfl (hb hby at_614) rfl ?_
                  refine XS.aload X_1031.here hx rfl (hb hby at_615) rfl rfl ?_
                  refine XS.iload X_1031.here hx rfl (hb hby at_617) rfl ?_
                  refine XS.iconst X_1031.here hx rfl (hb hby at_619) ?_
                  refine XS.isub X_1031.here hx rfl (hb hby at_620) rfl ?_
                  show Steps p.tables e below (T_1031.setTop (mkF m 621 #[.val (.int p0), .val (.long p1), .second, .val (.int p2), .val (.int p3), .val (.ref a_9), .val (.int (own_l20 p0)), .val (.long (own_Y p1)), .second, .val (.ref a_523), .val (.int (1 : Int32)), .val (.int (0 : Int32)), .val (.int (own_pl p2 (own_l20 p0))), .val (.int (0 : Int32)), .val (.int (own_cc p2)), .val (.int (own_cc p3)), .val (.long (own_value ((own_ds (own_Y p1) (own_l20 p0)).set (own_pl p2 (own_l20 p0)).toNatClampNeg (own_cc p2)))), .second, .val (.int (1 : Int32)), .unset, .unset, .val (.long ((own_Y p1) - ((own_Y p1) / (own_gj own_pws (own_l20 p0))) * (own_gj own_pws (own_l20 p0)))), .second] [(.int ((own_l20 p0) - (1 : Int32))), (.ref a_9), (.long ((((own_cc p2) - (48 : Int32)).toInt64) - (own_dig (own_Y p1) (own_l20 p0) (own_pl p2 (own_l20 p0))))), (.long ((own_Y p1) - ((own_Y p1) / (own_gj own_pws (own_l20 p0))) * (own_gj own_pws (own_l20 p0))))])) _
                  refine XS.iload X_1031.here hx rfl (hb hby at_621) rfl ?_
                  refine XS.isub X_1031.here hx rfl (hb hby at_623) rfl ?_
                  refine X_1031.laload hx (j := (((own_l20 p0) - (1 : Int32)) - (own_pl p2 (own_l20 p0)))) (v := (.long (own_gj own_pws (((own_l20 p0) - (1 : Int32)) - (own_pl p2 (own_l20 p0)))))) (by rw [e_1035]; exact A_1037.1) (State.isArrayOf_alike hZ.alike A_1037.2.1) A_1037.2.2 hin_1043 hat_1044 (g := (mkF m 624 #[.val (.int p0), .val (.long p1), .second, .val (.int p2), .val (.int p3), .val (.ref a_9), .val (.int (own_l20 p0)), .val (.long (own_Y p1)), .second, .val (.ref a_523), .val (.int (1 : Int32)), .val (.int (0 : Int32)), .val (.int (own_pl p2 (own_l20 p0))), .val (.int (0 : Int32)), .val (.int (own_cc p2)), .val (.int (own_cc p3)), .val (.long (own_value ((own_ds (own_Y p1) (own_l20 p0)).set (own_pl p2 (own_l20 p0)).toNatClampNeg (own_cc p2)))), .second, .val (.int (1 : Int32)), .unset, .unset, .val (.long ((own_Y p1) - ((own_Y p1) / (own_gj own_pws (own_l20 p0))) * (own_gj own_pws (own_l20 p0)))), .second] [(.int (((own_l20 p0) - (1 : Int32)) - (own_pl p2 (own_l20 p0)))), (.ref a_9), (.long ((((own_cc p2) - (48 : Int32)).toInt64) - (own_dig (own_Y p1) (own_l20 p0) (own_pl p2 (own_l20 p0))))), (.long ((own_Y p1) - ((own_Y p1) / (own_gj own_pws (own_l20 p0))) * (own_gj own_pws (own_l20 p0))))])) rfl rfl (hb hby at_624) _ ?_
                  refine XS.lmul X_1031.here hx rfl (hb hby at_625) rfl ?_
                  refine XS.ladd X_1031.here hx rfl (hb hby at_626) rfl ?_
                  refine XS.lstore X_1031.here hx rfl (hb hby at_627) rfl (l' := #[.val (.int p0), .val (.long p1), .second, .val (.int p2), .val (.int p3), .val (.ref a_9), .val (.int (own_l20 p0)), .val (.long (own_Y p1)), .second, .val (.ref a_523), .val (.int (1 : Int32)), .val (.int (0 : Int32)), .val (.int (own_pl p2 (own_l20 p0))), .val (.int (0 : Int32)), .val (.int (own_cc p2)), .val (.int (own_cc p3)), .val (.long (own_value ((own_ds (own_Y p1) (own_l20 p0)).set (own_pl p2 (own_l20 p0)).toNatClampNeg (own_cc p2)))), .second, .val (.int (1 : Int32)), .unset, .unset, .val (.long (((own_Y p1) - ((own_Y p1) / (own_gj own_pws (own_l20 p0))) * (own_gj own_pws (own_l20 p0))) + (((((own_cc p2) - (48 : Int32)).toInt64) - (own_dig (own_Y p1) (own_l20 p0) (own_pl p2 (own_l20 p0)))) * (own_gj own_pws (((own_l20 p0) - (1 : Int32)) - (own_pl p2 (own_l20 p0))))))), .second]) rfl ?_
                  refine XS.iload X_1031.here hx rfl (hb hby at_629) rfl ?_
                  refine XS.ifYes X_1031.here hx rfl (pc0 := 631) (pc' := 668) rfl (hb hby at_631) rfl (by decide) (by decide) (by decide) ?_
                  show Steps p.tables e below (T_1031.setTop (mkF m 668 #[.val (.int p0), .val (.long p1), .second, .val (.int p2), .val (.int p3), .val (.ref a_9), .val (.int (own_l20 p0)), .val (.long (own_Y p1)), .second, .val (.ref a_523), .val (.int (1 : Int32)), .val (.int (0 : Int32)), .val (.int (own_pl p2 (own_l20 p0))), .val (.int (0 : Int32)), .val (.int (own_cc p2)), .val (.int (own_cc p3)), .val (.long (own_value ((own_ds (own_Y p1) (own_l20 p0)).set (own_pl p2 (own_l20 p0)).toNatClampNeg (own_cc p2)))), .second, .val (.int (1 : Int32)), .unset, .unset, .val (.long (((own_Y p1) - ((own_Y p1) / (own_gj own_pws (own_l20 p0))) * (own_gj own_pws (own_l20 p0))) + (((((own_cc p2) - (48 : Int32)).toInt64) - (own_dig (own_Y p1) (own_l20 p0) (own_pl p2 (own_l20 p0)))) * (own_gj own_pws (((own_l20 p0) - (1 : Int32)) - (own_pl p2 (own_l20 p0))))))), .second] [])) _
                  refine XS.lload X_1031.here hx rfl (hb hby at_668) rfl ?_
                  refine XS.lstore X_1031.here hx rfl (hb hby at_670) rfl (l' := #[.val (.int p0), .val (.long p1), .second, .val (.int p2), .val (.int p3), .val (.ref a_9), .val (.int (own_l20 p0)), .val (.long (own_Y p1)), .second, .val (.ref a_523), .val (.int (1 : Int32)), .val (.int (0 : Int32)), .val (.int (own_pl p2 (own_l20 p0))), .val (.int (0 : Int32)), .val (.int (own_cc p2)), .val (.int (own_cc p3)), .val (.long (own_value ((own_ds (own_Y p1) (own_l20 p0)).set (own_pl p2 (own_l20 p0)).toNatClampNeg (own_cc p2)))), .second, .val (.int (1 : Int32)), .val (.long (((own_Y p1) - ((own_Y p1) / (own_gj own_pws (own_l20 p0))) * (own_gj own_pws (own_l20 p0))) + (((((own_cc p2) - (48 : Int32)).toInt64) - (own_dig (own_Y p1) (own_l20 p0) (own_pl p2 (own_l20 p0)))) * (own_gj own_pws (((own_l20 p0) - (1 : Int32)) - (own_pl p2 (own_l20 p0))))))), .second, .val (.long (((own_Y p1) - ((own_Y p1) / (own_gj own_pws (own_l20 p0))) * (own_gj own_pws (own_l20 p0))) + (((((own_cc p2) - (48 : Int32)).toInt64) - (own_dig (own_Y p1) (own_l20 p0) (own_pl p2 (own_l20 p0)))) * (own_gj own_pws (((own_l20 p0) - (1 : Int32)) - (own_pl p2 (own_l20 p0))))))), .second]) rfl ?_
                  refine XS.lload X_1031.here hx rfl (hb hby at_672) rfl ?_
                  refine XS.lload X_1031.here hx rfl (hb hby at_674) rfl ?_
                  exact Steps.refl _
                have C_1046 : Steps p.tables e below S0 (T_1031.setTop (mkF m 685 #[.val (.int p0), .val (.long p1), .second, .val (.int p2), .val (.int p3), .val (.ref a_9), .val (.int (own_l20 p0)), .val (.long (own_Y p1)), .second, .val (.ref a_523), .val (.int (1 : Int32)), .val (.int (0 : Int32)), .val (.int (own_pl p2 (own_l20 p0))), .val (.int (0 : Int32)), .val (.int (own_cc p2)), .val (.int (own_cc p3)), .val (.long (own_value ((own_ds (own_Y p1) (own_l20 p0)).set (own_pl p2 (own_l20 p0)).toNatClampNeg (own_cc p2)))), .second, .val (.int (1 : Int32)), .val (.long (((own_Y p1) - ((own_Y p1) / (own_gj own_pws (own_l20 p0))) * (own_gj own_pws (own_l20 p0))) + (((((own_cc p2) - (48 : Int32)).toInt64) - (own_dig (own_Y p1) (own_l20 p0) (own_pl p2 (own_l20 p0)))) * (own_gj own_pws (((own_l20 p0) - (1 : Int32)) - (own_pl p2 (own_l20 p0))))))), .second, .val (.long (((own_Y p1) - ((own_Y p1) / (own_gj own_pws (own_l20 p0))) * (own_gj own_pws (own_l20 p0))) + (((((own_cc p2) - (48 : Int32)).toInt64) - (own_dig (own_Y p1) (own_l20 p0) (own_pl p2 (own_l20 p0)))) * (own_gj own_pws (((own_l20 p0) - (1 : Int32)) - (own_pl p2 (own_l20 p0))))))), .second] [(.int (1 : Int32))])) := by
                  refine C_1045.trans ?_
                  refine XS.lcmp X_1031.here hx rfl (hb hby at_676) rfl ?_
                  refine XS.ifNo X_1031.here hx rfl (hb hby at_677) rfl (i0_ne_f ((lw_eq (own_value ((own_ds (own_Y p1) (own_l20 p0)).set (own_pl p2 (own_l20 p0)).toNatClampNeg (own_cc p2))) (((own_Y p1) - ((own_Y p1) / (own_gj own_pws (own_l20 p0))) * (own_gj own_pws (own_l20 p0))) + (((((own_cc p2) - (48 : Int32)).toInt64) - (own_dig (own_Y p1) (own_l20 p0) (own_pl p2 (own_l20 p0)))) * (own_gj own_pws (((own_l20 p0) - (1 : Int32)) - (own_pl p2 (own_l20 p0))))))).mpr (own_F1 (own_Y0 p1) hp_512 hc_993 hr_513.1 hr_513.2 g_1002 (Or.inr hc_1018)))) ?_
                  refine XS.iconst X_1031.here hx rfl (hb hby at_680) ?_
                  refine XS.goto X_1031.here hx rfl (pc0 := 681) (pc' := 685) rfl (hb hby at_681) (by decide) (by decide) ?_
                  exact Steps.refl _
                have K_1047 : Keep h0 T_972.heap [] := K_991
                obtain ⟨fs, hr, hrun, hended, hRE⟩ := X_1031.leaveW hS0 (by rw [show T_1031.heap = T_972.heap from e_1035]; exact (Nat.le_trans (Nat.le_refl _) (Nat.le_trans (Nat.le_trans (Nat.le_trans (Nat.le_trans (Nat.le_trans (Nat.le_trans (Nat.le_trans (Nat.le_trans (Nat.le_trans (Nat.le_trans (Nat.le_trans (Nat.le_trans (Nat.le_trans (Nat.le_trans (Nat.le_trans (Nat.le_trans (Nat.le_trans (Nat.le_trans (Nat.le_trans (Nat.le_trans (Nat.le_trans (Nat.le_trans (Nat.le_trans (Nat.le_trans (Nat.le_trans (Nat.le_trans (Nat.le_trans (Nat.le_trans (Nat.le_trans (Nat.le_trans (Nat.le_trans (Nat.le_trans (Nat.le_trans (Nat.le_trans (Nat.le_trans (Nat.le_trans (Nat.le_trans (Nat.le_trans (Nat.le_trans (Nat.le_trans (Nat.le_trans (Nat.le_trans E_6.1 (Keep.of_wr W_26).1) (Keep.of_wr W_44).1) (Keep.of_wr W_62).1) (Keep.of_wr W_80).1) (Keep.of_wr W_98).1) (Keep.of_wr W_116).1) (Keep.of_wr W_134).1) (Keep.of_wr W_152).1) (Keep.of_wr W_171).1) (Keep.of_wr W_189).1) (Keep.of_wr W_207).1) (Keep.of_wr W_225).1) (Keep.of_wr W_243).1) (Keep.of_wr W_261).1) (Keep.of_wr W_279).1) (Keep.of_wr W_297).1) (Keep.of_wr W_315).1) (Keep.of_wr W_334).1) (Keep.of_wr W_352).1) E_520.1) K_534.1) K_543.1) K_552.1) K_561.1) K_570.1) K_580.1) K_589.1) K_598.1) K_607.1) K_616.1) K_625.1) K_634.1) K_644.1) K_653.1) K_662.1) K_671.1) K_680.1) K_689.1) K_698.1) (Keep.of_wr W_948).1) E_960.1) K_976.1))) (v := some (.int (1 : Int32))) (fun h => by rw [Bd.returns] at h; cases h)
                refine ⟨_, _, C_1046.trans (retN X_1031 hx (t := .boolean) Bd.returns (by simp) (hb hby at_685) hr), hrun, hended, _, _, rfl, ?_, ?_, hRE.1, hRE.2.1, hRE.2.2.1, hRE.2.2.2.mono (by decide) (by decide)⟩
                · show Q_law Z G1 G3 p0 p1 p2 p3 h0 n0 (some (.int (1 : Int32))) T_1031.heap _
                  rw [e_1035]
                  exact ⟨rfl, N_1034, K_1047⟩
                · show CHr Z consts_1 s.vm s.heap T_1031.vm T_1031.heap
                  rw [hh, show T_1031.heap = T_972.heap from e_1035]
                  exact CR_984.trans (CHv.at X_1031 hZ hEL CH_983)
            · skip
              have V_1048 : Arv Z T_972.heap a_9 k_3 .long (19 : Int32) (own_jv own_pws) (.long (0 : Int64)) := ((((V_694.keep K_698 (ninS (Nat.ne_of_lt (Nat.lt_of_lt_of_le V_359.lt (Nat.le_trans (Nat.le_refl _) (Nat.le_of_eq g_524.symm)))) nin0)).other W_948 (Nat.ne_of_lt (Nat.lt_of_lt_of_le V_359.lt (Nat.le_trans (Nat.le_refl _) (Nat.le_of_eq g_524.symm))))).ext E_960).keep K_976 (ninS (Nat.ne_of_lt (Nat.lt_of_lt_of_le V_359.lt (Nat.le_trans (Nat.le_trans (Nat.le_trans (Nat.le_trans (Nat.le_trans (Nat.le_trans (Nat.le_trans (Nat.le_trans (Nat.le_trans (Nat.le_trans (Nat.le_trans (Nat.le_trans (Nat.le_trans (Nat.le_trans (Nat.le_trans (Nat.le_trans (Nat.le_trans (Nat.le_trans (Nat.le_trans (Nat.le_trans (Nat.le_trans E_520.1 K_534.1) K_543.1) K_552.1) K_561.1) K_570.1) K_580.1) K_589.1) K_598.1) K_607.1) K_616.1) K_625.1) K_634.1) K_644.1) K_653.1) K_662.1) K_671.1) K_680.1) K_689.1) K_698.1) (Keep.of_wr W_948).1) (Nat.le_of_eq g_965.symm)))) nin0))
              obtain ⟨c_1049, A_1050, q_1051, S_1052, M_1053, H_1054, U_1055⟩ := id V_1048
              have hin_1056 : ¬ ((own_l20 p0) < 0 ∨ c_1049.slots.size ≤ (own_l20 p0).toNatClampNeg) := inb_of S_1052 ⟨(own_l0 p0), (own_l18 hc_993).1⟩
              have hat_1057 : c_1049.slots[(own_l20 p0).toNatClampNeg]? = some (.long (own_gj own_pws (own_l20 p0))) := Has.at H_1054 hin_1056 (own_jv_at own_pws (own_l20 p0))
              obtain ⟨_, _, ⟨T_1058, L_1058, k_1058, n_1058⟩, -, X_1058, ⟨Lc_1058, hQ_1058, l_1058, y_1058, z_1058⟩, st_1058⟩ := Jvm.LawKit.callS X_996 hx (y := M216) hown (mvT hZ (w63 hw)) (mvT hZ (w64 hw)) (mvT hZ (w23 hw)) (mvT hZ (w65 hw)) (by decide) (backOf (W := 4) (rm_digit l Z a0 hw [] G1 G3 HG T_972.heap n0 O_985 a_9 k_3 (own_Y p1) (own_l20 p0) (own_pl p2 (own_l20 p0)) V_1048 hr_513.1 hr_513.2 (own_l19 p0)) hZ (w65 hw) (w23 hw) (by decide) (by decide)) (g := (mkF m 611 #[.val (.int p0), .val (.long p1), .second, .val (.int p2), .val (.int p3), .val (.ref a_9), .val (.int (own_l20 p0)), .val (.long (own_Y p1)), .second, .val (.ref a_523), .val (.int (1 : Int32)), .val (.int (0 : Int32)), .val (.int (own_pl p2 (own_l20 p0))), .val (.int (0 : Int32)), .val (.int (own_cc p2)), .val (.int (own_cc p3)), .val (.long (own_value ((own_ds (own_Y p1) (own_l20 p0)).set (own_pl p2 (own_l20 p0)).toNatClampNeg (own_cc p2)))), .second, .val (.int (1 : Int32)), .unset, .unset, .val (.long ((own_Y p1) - ((own_Y p1) / (own_gj own_pws (own_l20 p0))) * (own_gj own_pws (own_l20 p0)))), .second] [(.int (own_pl p2 (own_l20 p0))), (.int (own_l20 p0)), (.long (own_Y p1)), (.ref a_9), (.long (((own_cc p2) - (48 : Int32)).toInt64)), (.long ((own_Y p1) - ((own_Y p1) / (own_gj own_pws (own_l20 p0))) * (own_gj own_pws (own_l20 p0))))])) rfl (by rw [hml]; rfl) (argsL := [(.ref a_9), (.long (own_Y p1)), (.int (own_l20 p0)), (.int (own_pl p2 (own_l20 p0)))]) (rest := [(.long (((own_cc p2) - (48 : Int32)).toInt64)), (.long ((own_Y p1) - ((own_Y p1) / (own_gj own_pws (own_l20 p0))) * (own_gj own_pws (own_l20 p0))))]) (lenOf pd_248 rfl) rfl (by show 2 * 0 + _ ≤ _; exact Nat.le_of_eq rfl) (hb hby at_611) (fun _ _ => ⟨rfl, e_1004, (by decide : 4 + 0 ≤ _), (by decide : 61 + 0 ≤ _)⟩)
              dsimp only [Pt.U, Pt.locs, Pt.cells, Pt.slots] at X_1058 l_1058 y_1058 z_1058 st_1058 hQ_1058
              have X_1058 := own_cast X_1058 l_1058 y_1058 z_1058
              obtain ⟨rfl, N_1059, e_1060⟩ := hQ_1058
              have N_1061 := Fr.app N_1003 N_1059
              have e_1062 : T_1058.heap = T_972.heap := e_1060
              obtain ⟨c_1063, A_1064, q_1065, S_1066, M_1067, H_1068, U_1069⟩ := id V_1048
              have hin_1070 : ¬ ((((own_l20 p0) - (1 : Int32)) - (own_pl p2 (own_l20 p0))) < 0 ∨ c_1063.slots.size ≤ (((own_l20 p0) - (1 : Int32)) - (own_pl p2 (own_l20 p0))).toNatClampNeg) := inb_of S_1066 ⟨(own_sub_nat hr_513.1 hr_513.2).2.1, (own_lt19 hr_513.1 hr_513.2 (own_l19 p0)).2.1⟩
              have hat_1071 : c_1063.slots[(((own_l20 p0) - (1 : Int32)) - (own_pl p2 (own_l20 p0))).toNatClampNeg]? = some (.long (own_gj own_pws (((own_l20 p0) - (1 : Int32)) - (own_pl p2 (own_l20 p0))))) := Has.at H_1068 hin_1070 (own_jv_at own_pws (((own_l20 p0) - (1 : Int32)) - (own_pl p2 (own_l20 p0))))
              have C_1072 : Steps p.tables e below S0 (T_1058.setTop (mkF m 676 #[.val (.int p0), .val (.long p1), .second, .val (.int p2), .val (.int p3), .val (.ref a_9), .val (.int (own_l20 p0)), .val (.long (own_Y p1)), .second, .val (.ref a_523), .val (.int (1 : Int32)), .val (.int (0 : Int32)), .val (.int (own_pl p2 (own_l20 p0))), .val (.int (0 : Int32)), .val (.int (own_cc p2)), .val (.int (own_cc p3)), .val (.long (own_value ((own_ds (own_Y p1) (own_l20 p0)).set (own_pl p2 (own_l20 p0)).toNatClampNeg (own_cc p2)))), .second, .val (.int (1 : Int32)), .val (.long (((own_Y p1) - ((own_Y p1) / (own_gj own_pws (own_l20 p0))) * (own_gj own_pws (own_l20 p0))) + (((((own_cc p2) - (48 : Int32)).toInt64) - (own_dig (own_Y p1) (own_l20 p0) (own_pl p2 (own_l20 p0)))) * (own_gj own_pws (((own_l20 p0) - (1 : Int32)) - (own_pl p2 (own_l20 p0))))))), .second, .val (.long (((own_Y p1) - ((own_Y p1) / (own_gj own_pws (own_l20 p0))) * (own_gj own_pws (own_l20 p0))) + (((((own_cc p2) - (48 : Int32)).toInt64) - (own_dig (own_Y p1) (own_l20 p0) (own_pl p2 (own_l20 p0)))) * (own_gj own_pws (((own_l20 p0) - (1 : Int32)) - (own_pl p2 (own_l20 p0))))))), .second] [(.long (((own_Y p1) - ((own_Y p1) / (own_gj own_pws (own_l20 p0))) * (own_gj own_pws (own_l20 p0))) + (((((own_cc p2) - (48 : Int32)).toInt64) - (own_dig (own_Y p1) (own_l20 p0) (own_pl p2 (own_l20 p0)))) * (own_gj own_pws (((own_l20 p0) - (1 : Int32)) - (own_pl p2 (own_l20 p0))))))), (.long (own_value ((own_ds (own_Y p1) (own_l20 p0)).set (own_pl p2 (own_l20 p0)).toNatClampNeg (own_cc p2))))])) := by
                refine C_1005.trans ?_
                refine XS.icmpYes X_996.here hx rfl (pc0 := 560) (pc' := 580) rfl (hb hby at_560) rfl (ii_le_t hc_1006) (by decide) (by decide) ?_
                refine XS.lload X_996.here hx rfl (hb hby at_580) rfl ?_
                refine XS.aload X_996.here hx rfl (hb hby at_582) rfl rfl ?_
                refine XS.iload X_996.here hx rfl (hb hby at_584) rfl ?_
                refine X_996.laload hx (j := (own_l20 p0)) (v := (.long (own_gj own_pws (own_l20 p0)))) (by rw [e_1004]; exact A_1050.1) (State.isArrayOf_alike hZ.alike A_1050.2.1) A_1050.2.2 hin_1056 hat_1057 (g := (mkF m 586 #[.val (.int p0), .val (.long p1), .second, .val (.int p2), .val (.int p3), .val (.ref a_9), .val (.int (own_l20 p0)), .val (.long (own_Y p1)), .second, .val (.ref a_523), .val (.int (1 : Int32)), .val (.int (0 : Int32)), .val (.int (own_pl p2 (own_l20 p0))), .val (.int (0 : Int32)), .val (.int (own_cc p2)), .val (.int (own_cc p3)), .val (.long (own_value ((own_ds (own_Y p1) (own_l20 p0)).set (own_pl p2 (own_l20 p0)).toNatClampNeg (own_cc p2)))), .second, .val (.int (1 : Int32)), .unset, .unset, .unset, .unset] [(.int (own_l20 p0)), (.ref a_9), (.long (own_Y p1))])) rfl rfl (hb hby at_586) _ ?_
                refine XS.lrem X_996.here hx rfl (hb hby at_587) rfl (own_pnz (own_l18 hc_993).2) ?_
                refine XS.lstore X_996.here hx rfl (hb hby at_588) rfl (l' := #[.val (.int p0), .val (.long p1), .second, .val (.int p2), .val (.int p3), .val (.ref a_9), .val (.int (own_l20 p0)), .val (.long (own_Y p1)), .second, .val (.ref a_523), .val (.int (1 : Int32)), .val (.int (0 : Int32)), .val (.int (own_pl p2 (own_l20 p0))), .val (.int (0 : Int32)), .val (.int (own_cc p2)), .val (.int (own_cc p3)), .val (.long (own_value ((own_ds (own_Y p1) (own_l20 p0)).set (own_pl p2 (own_l20 p0)).toNatClampNeg (own_cc p2)))), .second, .val (.int (1 : Int32)), .unset, .unset, .val (.long ((own_Y p1) - ((own_Y p1) / (own_gj own_pws (own_l20 p0))) * (own_gj own_pws (own_l20 p0)))), .second]) rfl ?_
                refine XS.iload X_996.here hx rfl (hb hby at_590) rfl ?_
                show Steps p.tables e below (T_996.setTop (mkF m 592 #[.val (.int p0), .val (.long p1), .second, .val (.int p2), .val (.int p3), .val (.ref a_9), .val (.int (own_l20 p0)), .val (.long (own_Y p1)), .second, .val (.ref a_523), .val (.int (1 : Int32)), .val (.int (0 : Int32)), .val (.int (own_pl p2 (own_l20 p0))), .val (.int (0 : Int32)), .val (.int (own_cc p2)), .val (.int (own_cc p3)), .val (.long (own_value ((own_ds (own_Y p1) (own_l20 p0)).set (own_pl p2 (own_l20 p0)).toNatClampNeg (own_cc p2)))), .second, .val (.int (1 : Int32)), .unset, .unset, .val (.long ((own_Y p1) - ((own_Y p1) / (own_gj own_pws (own_l20 p0))) * (own_gj own_pws (own_l20 p0)))), .second] [(.int (1 : Int32))])) _
                refine XS.ifNo X_996.here hx rfl (hb hby at_592) rfl (by decide) ?_
                refine XS.lload X_996.here hx rfl (hb hby at_595) rfl ?_
                refine XS.iload X_996.here hx rfl (hb hby at_597) rfl ?_
                refine XS.bipush X_996.here hx rfl (hb hby at_599) ?_
                refine XS.isub X_996.here hx rfl (hb hby at_601) rfl ?_
                refine XS.i2l X_996.here hx rfl (hb hby at_602) rfl ?_
                refine XS.aload X_996.here hx rfl (hb hby at_603) rfl rfl ?_
                refine XS.lload X_996.here hx rfl (hb hby at_605) rfl ?_
                show Steps p.tables e below (T_996.setTop (mkF m 607 #[.val (.int p0), .val (.long p1), .second, .val (.int p2), .val (.int p3), .val (.ref a_9), .val (.int (own_l20 p0)), .val (.long (own_Y p1)), .second, .val (.ref a_523), .val (.int (1 : Int32)), .val (.int (0 : Int32)), .val (.int (own_pl p2 (own_l20 p0))), .val (.int (0 : Int32)), .val (.int (own_cc p2)), .val (.int (own_cc p3)), .val (.long (own_value ((own_ds (own_Y p1) (own_l20 p0)).set (own_pl p2 (own_l20 p0)).toNatClampNeg (own_cc p2)))), .second, .val (.int (1 : Int32)), .unset, .unset, .val (.long ((own_Y p1) - ((own_Y p1) / (own_gj own_pws (own_l20 p0))) * (own_gj own_pws (own_l20 p0)))), .second] [(.long (own_Y p1)), (.ref a_9), (.long (((own_cc p2) - (48 : Int32)).toInt64)), (.long ((own_Y p1) - ((own_Y p1) / (own_gj own_pws (own_l20 p0))) * (own_gj own_pws (own_l20 p0))))])) _
                refine XS.iload X_996.here hx rfl (hb hby at_607) rfl ?_
                refine XS.iload X_996.here hx rfl (hb hby at_609) rfl ?_
                refine st_1058 _ ?_
                refine XS.lsub X_1058.here hx rfl (hb hby at_614) rfl ?_
                refine XS.aload X_1058.here hx rfl (hb hby at_615) rfl rfl ?_
                refine XS.iload X_1058.here hx rfl (hb hby at_617) rfl ?_
                refine XS.iconst X_1058.here hx rfl (hb hby at_619) ?_
                refine XS.isub X_1058.here hx rfl (hb hby at_620) rfl ?_
                show Steps p.tables e below (T_1058.setTop (mkF m 621 #[.val (.int p0), .val (.long p1), .second, .val (.int p2), .val (.int p3), .val (.ref a_9), .val (.int (own_l20 p0)), .val (.long (own_Y p1)), .second, .val (.ref a_523), .val (.int (1 : Int32)), .val (.int (0 : Int32)), .val (.int (own_pl p2 (own_l20 p0))), .val (.int (0 : Int32)), .val (.int (own_cc p2)), .val (.int (own_cc p3)), .val (.long (own_value ((own_ds (own_Y p1) (own_l20 p0)).set (own_pl p2 (own_l20 p0)).toNatClampNeg (own_cc p2)))), .second, .val (.int (1 : Int32)), .unset, .unset, .val (.long ((own_Y p1) - ((own_Y p1) / (own_gj own_pws (own_l20 p0))) * (own_gj own_pws (own_l20 p0)))), .second] [(.int ((own_l20 p0) - (1 : Int32))), (.ref a_9), (.long ((((own_cc p2) - (48 : Int32)).toInt64) - (own_dig (own_Y p1) (own_l20 p0) (own_pl p2 (own_l20 p0))))), (.long ((own_Y p1) - ((own_Y p1) / (own_gj own_pws (own_l20 p0))) * (own_gj own_pws (own_l20 p0))))])) _
                refine XS.iload X_1058.here hx rfl (hb hby at_621) rfl ?_
                refine XS.isub X_1058.here hx rfl (hb hby at_623) rfl ?_
                refine X_1058.laload hx (j := (((own_l20 p0) - (1 : Int32)) - (own_pl p2 (own_l20 p0)))) (v := (.long (own_gj own_pws (((own_l20 p0) - (1 : Int32)) - (own_pl p2 (own_l20 p0)))))) (by rw [e_1062]; exact A_1064.1) (State.isArrayOf_alike hZ.alike A_1064.2.1) A_1064.2.2 hin_1070 hat_1071 (g := (mkF m 624 #[.val (.int p0), .val (.long p1), .second, .val (.int p2), .val (.int p3), .val (.ref a_9), .val (.int (own_l20 p0)), .val (.long (own_Y p1)), .second, .val (.ref a_523), .val (.int (1 : Int32)), .val (.int (0 : Int32)), .val (.int (own_pl p2 (own_l20 p0))), .val (.int (0 : Int32)), .val (.int (own_cc p2)), .val (.int (own_cc p3)), .val (.long (own_value ((own_ds (own_Y p1) (own_l20 p0)).set (own_pl p2 (own_l20 p0)).toNatClampNeg (own_cc p2)))), .second, .val (.int (1 : Int32)), .unset, .unset, .val (.long ((own_Y p1) - ((own_Y p1) / (own_gj own_pws (own_l20 p0))) * (own_gj own_pws (own_l20 p0)))), .second] [(.int (((own_l20 p0) - (1 : Int32)) - (own_pl p2 (own_l20 p0)))), (.ref a_9), (.long ((((own_cc p2) - (48 : Int32)).toInt64) - (own_dig (own_Y p1) (own_l20 p0) (own_pl p2 (own_l20 p0))))), (.long ((own_Y p1) - ((own_Y p1) / (own_gj own_pws (own_l20 p0))) * (own_gj own_pws (own_l20 p0))))])) rfl rfl (hb hby at_624) _ ?_
                refine XS.lmul X_1058.here hx rfl (hb hby at_625) rfl ?_
                refine XS.ladd X_1058.here hx rfl (hb hby at_626) rfl ?_
                refine XS.lstore X_1058.here hx rfl (hb hby at_627) rfl (l' := #[.val (.int p0), .val (.long p1), .second, .val (.int p2), .val (.int p3), .val (.ref a_9), .val (.int (own_l20 p0)), .val (.long (own_Y p1)), .second, .val (.ref a_523), .val (.int (1 : Int32)), .val (.int (0 : Int32)), .val (.int (own_pl p2 (own_l20 p0))), .val (.int (0 : Int32)), .val (.int (own_cc p2)), .val (.int (own_cc p3)), .val (.long (own_value ((own_ds (own_Y p1) (own_l20 p0)).set (own_pl p2 (own_l20 p0)).toNatClampNeg (own_cc p2)))), .second, .val (.int (1 : Int32)), .unset, .unset, .val (.long (((own_Y p1) - ((own_Y p1) / (own_gj own_pws (own_l20 p0))) * (own_gj own_pws (own_l20 p0))) + (((((own_cc p2) - (48 : Int32)).toInt64) - (own_dig (own_Y p1) (own_l20 p0) (own_pl p2 (own_l20 p0)))) * (own_gj own_pws (((own_l20 p0) - (1 : Int32)) - (own_pl p2 (own_l20 p0))))))), .second]) rfl ?_
                refine XS.iload X_1058.here hx rfl (hb hby at_629) rfl ?_
                refine XS.ifYes X_1058.here hx rfl (pc0 := 631) (pc' := 668) rfl (hb hby at_631) rfl (by decide) (by decide) (by decide) ?_
                show Steps p.tables e below (T_1058.setTop (mkF m 668 #[.val (.int p0), .val (.long p1), .second, .val (.int p2), .val (.int p3), .val (.ref a_9), .val (.int (own_l20 p0)), .val (.long (own_Y p1)), .second, .val (.ref a_523), .val (.int (1 : Int32)), .val (.int (0 : Int32)), .val (.int (own_pl p2 (own_l20 p0))), .val (.int (0 : Int32)), .val (.int (own_cc p2)), .val (.int (own_cc p3)), .val (.long (own_value ((own_ds (own_Y p1) (own_l20 p0)).set (own_pl p2 (own_l20 p0)).toNatClampNeg (own_cc p2)))), .second, .val (.int (1 : Int32)), .unset, .unset, .val (.long (((own_Y p1) - ((own_Y p1) / (own_gj own_pws (own_l20 p0))) * (own_gj own_pws (own_l20 p0))) + (((((own_cc p2) - (48 : Int32)).toInt64) - (own_dig (own_Y p1) (own_l20 p0) (own_pl p2 (own_l20 p0)))) * (own_gj own_pws (((own_l20 p0) - (1 : Int32)) - (own_pl p2 (own_l20 p0))))))), .second] [])) _
                refine XS.lload X_1058.here hx rfl (hb hby at_668) rfl ?_
                refine XS.lstore X_1058.here hx rfl (hb hby at_670) rfl (l' := #[.val (.int p0), .val (.long p1), .second, .val (.int p2), .val (.int p3), .val (.ref a_9), .val (.int (own_l20 p0)), .val (.long (own_Y p1)), .second, .val (.ref a_523), .val (.int (1 : Int32)), .val (.int (0 : Int32)), .val (.int (own_pl p2 (own_l20 p0))), .val (.int (0 : Int32)), .val (.int (own_cc p2)), .val (.int (own_cc p3)), .val (.long (own_value ((own_ds (own_Y p1) (own_l20 p0)).set (own_pl p2 (own_l20 p0)).toNatClampNeg (own_cc p2)))), .second, .val (.int (1 : Int32)), .val (.long (((own_Y p1) - ((own_Y p1) / (own_gj own_pws (own_l20 p0))) * (own_gj own_pws (own_l20 p0))) + (((((own_cc p2) - (48 : Int32)).toInt64) - (own_dig (own_Y p1) (own_l20 p0) (own_pl p2 (own_l20 p0)))) * (own_gj own_pws (((own_l20 p0) - (1 : Int32)) - (own_pl p2 (own_l20 p0))))))), .second, .val (.long (((own_Y p1) - ((own_Y p1) / (own_gj own_pws (own_l20 p0))) * (own_gj own_pws (own_l20 p0))) + (((((own_cc p2) - (48 : Int32)).toInt64) - (own_dig (own_Y p1) (own_l20 p0) (own_pl p2 (own_l20 p0)))) * (own_gj own_pws (((own_l20 p0) - (1 : Int32)) - (own_pl p2 (own_l20 p0))))))), .second]) rfl ?_
                refine XS.lload X_1058.here hx rfl (hb hby at_672) rfl ?_
                refine XS.lload X_1058.here hx rfl (hb hby at_674) rfl ?_
                exact Steps.refl _
              have C_1073 : Steps p.tables e below S0 (T_1058.setTop (mkF m 685 #[.val (.int p0), .val (.long p1), .second, .val (.int p2), .val (.int p3), .val (.ref a_9), .val (.int (own_l20 p0)), .val (.long (own_Y p1)), .second, .val (.ref a_523), .val (.int (1 : Int32)), .val (.int (0 : Int32)), .val (.int (own_pl p2 (own_l20 p0))), .val (.int (0 : Int32)), .val (.int (own_cc p2)), .val (.int (own_cc p3)), .val (.long (own_value ((own_ds (own_Y p1) (own_l20 p0)).set (own_pl p2 (own_l20 p0)).toNatClampNeg (own_cc p2)))), .second, .val (.int (1 : Int32)), .val (.long (((own_Y p1) - ((own_Y p1) / (own_gj own_pws (own_l20 p0))) * (own_gj own_pws (own_l20 p0))) + (((((own_cc p2) - (48 : Int32)).toInt64) - (own_dig (own_Y p1) (own_l20 p0) (own_pl p2 (own_l20 p0)))) * (own_gj own_pws (((own_l20 p0) - (1 : Int32)) - (own_pl p2 (own_l20 p0))))))), .second, .val (.long (((own_Y p1) - ((own_Y p1) / (own_gj own_pws (own_l20 p0))) * (own_gj own_pws (own_l20 p0))) + (((((own_cc p2) - (48 : Int32)).toInt64) - (own_dig (own_Y p1) (own_l20 p0) (own_pl p2 (own_l20 p0)))) * (own_gj own_pws (((own_l20 p0) - (1 : Int32)) - (own_pl p2 (own_l20 p0))))))), .second] [(.int (1 : Int32))])) := by
                refine C_1072.trans ?_
                refine XS.lcmp X_1058.here hx rfl (hb hby at_676) rfl ?_
                refine XS.ifNo X_1058.here hx rfl (hb hby at_677) rfl (i0_ne_f ((lw_eq (own_value ((own_ds (own_Y p1) (own_l20 p0)).set (own_pl p2 (own_l20 p0)).toNatClampNeg (own_cc p2))) (((own_Y p1) - ((own_Y p1) / (own_gj own_pws (own_l20 p0))) * (own_gj own_pws (own_l20 p0))) + (((((own_cc p2) - (48 : Int32)).toInt64) - (own_dig (own_Y p1) (own_l20 p0) (own_pl p2 (own_l20 p0)))) * (own_gj own_pws (((own_l20 p0) - (1 : Int32)) - (own_pl p2 (own_l20 p0))))))).mpr (own_F1 (own_Y0 p1) hp_512 hc_993 hr_513.1 hr_513.2 g_1002 (Or.inl hc_1006)))) ?_
                refine XS.iconst X_1058.here hx rfl (hb hby at_680) ?_
                refine XS.goto X_1058.here hx rfl (pc0 := 681) (pc' := 685) rfl (hb hby at_681) (by decide) (by decide) ?_
                exact Steps.refl _
              have K_1074 : Keep h0 T_972.heap [] := K_991
              obtain ⟨fs, hr, hrun, hended, hRE⟩ := X_1058.leaveW hS0 (by rw [show T_1058.heap = T_972.heap from e_1062]; exact (Nat.le_trans (Nat.le_refl _) (Nat.le_trans (Nat.le_trans (Nat.le_trans (Nat.le_trans (Nat.le_trans (Nat.le_trans (Nat.le_trans (Nat.le_trans (Nat.le_trans (Nat.le_trans (Nat.le_trans (Nat.le_trans (Nat.le_trans (Nat.le_trans (Nat.le_trans (Nat.le_trans (Nat.le_trans (Nat.le_trans (Nat.le_trans (Nat.le_trans (Nat.le_trans (Nat.le_trans (Nat.le_trans (Nat.le_trans (Nat.le_trans (Nat.le_trans (Nat.le_trans (Nat.le_trans (Nat.le_trans (Nat.le_trans (Nat.le_trans (Nat.le_trans (Nat.le_trans (Nat.le_trans (Nat.le_trans (Nat.le_trans (Nat.le_trans (Nat.le_trans (Nat.le_trans (Nat.le_trans (Nat.le_trans (Nat.le_trans E_6.1 (Keep.of_wr W_26).1) (Keep.of_wr W_44).1) (Keep.of_wr W_62).1) (Keep.of_wr W_80).1) (Keep.of_wr W_98).1) (Keep.of_wr W_116).1) (Keep.of_wr W_134).1) (Keep.of_wr W_152).1) (Keep.of_wr W_171).1) (Keep.of_wr W_189).1) (Keep.of_wr W_207).1) (Keep.of_wr W_225).1) (Keep.of_wr W_243).1) (Keep.of_wr W_261).1) (Keep.of_wr W_279).1) (Keep.of_wr W_297).1) (Keep.of_wr W_315).1) (Keep.of_wr W_334).1) (Keep.of_wr W_352).1) E_520.1) K_534.1) K_543.1) K_552.1) K_561.1) K_570.1) K_580.1) K_589.1) K_598.1) K_607.1) K_616.1) K_625.1) K_634.1) K_644.1) K_653.1) K_662.1) K_671.1) K_680.1) K_689.1) K_698.1) (Keep.of_wr W_948).1) E_960.1) K_976.1))) (v := some (.int (1 : Int32))) (fun h => by rw [Bd.returns] at h; cases h)
              refine ⟨_, _, C_1073.trans (retN X_1058 hx (t := .boolean) Bd.returns (by simp) (hb hby at_685) hr), hrun, hended, _, _, rfl, ?_, ?_, hRE.1, hRE.2.1, hRE.2.2.1, hRE.2.2.2.mono (by decide) (by decide)⟩
              · show Q_law Z G1 G3 p0 p1 p2 p3 h0 n0 (some (.int (1 : Int32))) T_1058.heap _
                rw [e_1062]
                exact ⟨rfl, N_1061, K_1074⟩
              · show CHr Z consts_1 s.vm s.heap T_1058.vm T_1058.heap
                rw [hh, show T_1058.heap = T_972.heap from e_1062]
                exact CR_984.trans (CHv.at X_1058 hZ hEL CH_983)
          · skip
            obtain ⟨rfl, N_1075, e_1076, g_1077⟩ := hQ_999
            have N_1078 := Fr.app N_989 N_1075
            have e_1079 : T_996.heap = T_972.heap := e_1076
            have C_1080 : Steps p.tables e below S0 (T_996.setTop (mkF m 685 #[.val (.int p0), .val (.long p1), .second, .val (.int p2), .val (.int p3), .val (.ref a_9), .val (.int (own_l20 p0)), .val (.long (own_Y p1)), .second, .val (.ref a_523), .val (.int (1 : Int32)), .val (.int (0 : Int32)), .val (.int (own_pl p2 (own_l20 p0))), .val (.int (0 : Int32)), .val (.int (own_cc p2)), .val (.int (own_cc p3)), .val (.long (own_value ((own_ds (own_Y p1) (own_l20 p0)).set (own_pl p2 (own_l20 p0)).toNatClampNeg (own_cc p2)))), .second, .val (.int (1 : Int32)), .val (.long (-1 : Int64)), .second, .unset, .unset] [(.int (1 : Int32))])) := by
              refine C_997.trans ?_
              refine st_996 _ ?_
              refine XS.ifYes X_996.here hx rfl (pc0 := 541) (pc' := 572) rfl (hb hby at_541) rfl (by decide) (by decide) (by decide) ?_
              refine X_996.ldc2J hx hown (mvT hZ (w62 hw)) rfl (hb hby at_572) ?_
              refine XS.lstore X_996.here hx rfl (hb hby at_575) rfl (l' := #[.val (.int p0), .val (.long p1), .second, .val (.int p2), .val (.int p3), .val (.ref a_9), .val (.int (own_l20 p0)), .val (.long (own_Y p1)), .second, .val (.ref a_523), .val (.int (1 : Int32)), .val (.int (0 : Int32)), .val (.int (own_pl p2 (own_l20 p0))), .val (.int (0 : Int32)), .val (.int (own_cc p2)), .val (.int (own_cc p3)), .val (.long (own_value ((own_ds (own_Y p1) (own_l20 p0)).set (own_pl p2 (own_l20 p0)).toNatClampNeg (own_cc p2)))), .second, .val (.int (1 : Int32)), .val (.long (-1 : Int64)), .second, .unset, .unset]) rfl ?_
              refine XS.goto X_996.here hx rfl (pc0 := 577) (pc' := 672) rfl (hb hby at_577) (by decide) (by decide) ?_
              refine XS.lload X_996.here hx rfl (hb hby at_672) rfl ?_
              refine XS.lload X_996.here hx rfl (hb hby at_674) rfl ?_
              refine XS.lcmp X_996.here hx rfl (hb hby at_676) rfl ?_
              show Steps p.tables e below (T_996.setTop (mkF m 677 #[.val (.int p0), .val (.long p1), .second, .val (.int p2), .val (.int p3), .val (.ref a_9), .val (.int (own_l20 p0)), .val (.long (own_Y p1)), .second, .val (.ref a_523), .val (.int (1 : Int32)), .val (.int (0 : Int32)), .val (.int (own_pl p2 (own_l20 p0))), .val (.int (0 : Int32)), .val (.int (own_cc p2)), .val (.int (own_cc p3)), .val (.long (own_value ((own_ds (own_Y p1) (own_l20 p0)).set (own_pl p2 (own_l20 p0)).toNatClampNeg (own_cc p2)))), .second, .val (.int (1 : Int32)), .val (.long (-1 : Int64)), .second, .unset, .unset] [(.int (lcmpW (own_value ((own_ds (own_Y p1) (own_l20 p0)).set (own_pl p2 (own_l20 p0)).toNatClampNeg (own_cc p2))) (-1 : Int64)))])) _
              refine XS.ifNo X_996.here hx rfl (hb hby at_677) rfl (i0_ne_f ((lw_eq (own_value ((own_ds (own_Y p1) (own_l20 p0)).set (own_pl p2 (own_l20 p0)).toNatClampNeg (own_cc p2))) (-1 : Int64)).mpr (own_vbad (own_ms (own_dsl _ _) hr_513.1 hr_513.2) g_1077))) ?_
              refine XS.iconst X_996.here hx rfl (hb hby at_680) ?_
              refine XS.goto X_996.here hx rfl (pc0 := 681) (pc' := 685) rfl (hb hby at_681) (by decide) (by decide) ?_
              exact Steps.refl _
            have K_1081 : Keep h0 T_972.heap [] := K_991
            obtain ⟨fs, hr, hrun, hended, hRE⟩ := X_996.leaveW hS0 (by rw [show T_996.heap = T_972.heap from e_1079]; exact (Nat.le_trans (Nat.le_refl _) (Nat.le_trans (Nat.le_trans (Nat.le_trans (Nat.le_trans (Nat.le_trans (Nat.le_trans (Nat.le_trans (Nat.le_trans (Nat.le_trans (Nat.le_trans (Nat.le_trans (Nat.le_trans (Nat.le_trans (Nat.le_trans (Nat.le_trans (Nat.le_trans (Nat.le_trans (Nat.le_trans (Nat.le_trans (Nat.le_trans (Nat.le_trans (Nat.le_trans (Nat.le_trans (Nat.le_trans (Nat.le_trans (Nat.le_trans (Nat.le_trans (Nat.le_trans (Nat.le_trans (Nat.le_trans (Nat.le_trans (Nat.le_trans (Nat.le_trans (Nat.le_trans (Nat.le_trans (Nat.le_trans (Nat.le_trans (Nat.le_trans (Nat.le_trans (Nat.le_trans (Nat.le_trans (Nat.le_trans E_6.1 (Keep.of_wr W_26).1) (Keep.of_wr W_44).1) (Keep.of_wr W_62).1) (Keep.of_wr W_80).1) (Keep.of_wr W_98).1) (Keep.of_wr W_116).1) (Keep.of_wr W_134).1) (Keep.of_wr W_152).1) (Keep.of_wr W_171).1) (Keep.of_wr W_189).1) (Keep.of_wr W_207).1) (Keep.of_wr W_225).1) (Keep.of_wr W_243).1) (Keep.of_wr W_261).1) (Keep.of_wr W_279).1) (Keep.of_wr W_297).1) (Keep.of_wr W_315).1) (Keep.of_wr W_334).1) (Keep.of_wr W_352).1) E_520.1) K_534.1) K_543.1) K_552.1) K_561.1) K_570.1) K_580.1) K_589.1) K_598.1) K_607.1) K_616.1) K_625.1) K_634.1) K_644.1) K_653.1) K_662.1) K_671.1) K_680.1) K_689.1) K_698.1) (Keep.of_wr W_948).1) E_960.1) K_976.1))) (v := some (.int (1 : Int32))) (fun h => by rw [Bd.returns] at h; cases h)
            refine ⟨_, _, C_1080.trans (retN X_996 hx (t := .boolean) Bd.returns (by simp) (hb hby at_685) hr), hrun, hended, _, _, rfl, ?_, ?_, hRE.1, hRE.2.1, hRE.2.2.1, hRE.2.2.2.mono (by decide) (by decide)⟩
            · show Q_law Z G1 G3 p0 p1 p2 p3 h0 n0 (some (.int (1 : Int32))) T_996.heap _
              rw [e_1079]
              exact ⟨rfl, N_1078, K_1081⟩
            · show CHr Z consts_1 s.vm s.heap T_996.vm T_996.heap
              rw [hh, show T_996.heap = T_972.heap from e_1079]
              exact CR_984.trans (CHv.at X_996 hZ hEL CH_983)
      · skip
        have C_1082 : Steps p.tables e below S0 (T_696.setTop (mkF m 457 #[.val (.int p0), .val (.long p1), .second, .val (.int p2), .val (.int p3), .val (.ref a_9), .val (.int (own_l20 p0)), .val (.long (own_Y p1)), .second, .val (.ref a_523), .val (.int (1 : Int32)), .val (.int (1 : Int32)), .val (.int (own_pl p2 (own_l20 p0))), .val (.int (own_pl p3 (own_l20 p0))), .val (.int (own_cc p2)), .val (.int (own_cc p3)), .unset, .unset, .unset, .unset, .unset, .unset, .unset] [])) := by
          refine C_935.trans ?_
          refine XS.ifNo X_696.here hx rfl (hb hby at_387) rfl (i0_eq_f hc_936) ?_
          refine XS.iconst X_696.here hx rfl (hb hby at_390) ?_
          refine XS.goto X_696.here hx rfl (pc0 := 391) (pc' := 395) rfl (hb hby at_391) (by decide) (by decide) ?_
          refine XS.istore X_696.here hx rfl (hb hby at_395) rfl (l' := #[.val (.int p0), .val (.long p1), .second, .val (.int p2), .val (.int p3), .val (.ref a_9), .val (.int (own_l20 p0)), .val (.long (own_Y p1)), .second, .val (.ref a_523), .val (.int (1 : Int32)), .val (.int (1 : Int32)), .unset, .unset, .unset, .unset, .unset, .unset, .unset, .unset, .unset, .unset, .unset]) rfl ?_
          refine XS.iload X_696.here hx rfl (hb hby at_397) rfl ?_
          refine XS.ifNo X_696.here hx rfl (hb hby at_399) rfl (by decide) ?_
          refine XS.iloadN X_696.here hx rfl (hb hby at_402) rfl ?_
          refine XS.bipush X_696.here hx rfl (hb hby at_403) ?_
          show Steps p.tables e below (T_696.setTop (mkF m 405 #[.val (.int p0), .val (.long p1), .second, .val (.int p2), .val (.int p3), .val (.ref a_9), .val (.int (own_l20 p0)), .val (.long (own_Y p1)), .second, .val (.ref a_523), .val (.int (1 : Int32)), .val (.int (1 : Int32)), .unset, .unset, .unset, .unset, .unset, .unset, .unset, .unset, .unset, .unset, .unset] [(.int (8 : Int32)), (.int p2)])) _
          refine XS.iushr X_696.here hx rfl (hb hby at_405) rfl ?_
          refine X_696.ldcI hx hown (mvT hZ (w99 hw)) rfl (hb hby at_406) ?_
          refine XS.iand X_696.here hx rfl (hb hby at_408) rfl ?_
          refine XS.iload X_696.here hx rfl (hb hby at_409) rfl ?_
          refine iremM X_696 hx rfl (hb hby at_411) rfl hn_361 ?_
          refine XS.goto X_696.here hx rfl (pc0 := 412) (pc' := 416) rfl (hb hby at_412) (by decide) (by decide) ?_
          refine XS.istore X_696.here hx rfl (hb hby at_416) rfl (l' := #[.val (.int p0), .val (.long p1), .second, .val (.int p2), .val (.int p3), .val (.ref a_9), .val (.int (own_l20 p0)), .val (.long (own_Y p1)), .second, .val (.ref a_523), .val (.int (1 : Int32)), .val (.int (1 : Int32)), .val (.int (own_pl p2 (own_l20 p0))), .unset, .unset, .unset, .unset, .unset, .unset, .unset, .unset, .unset, .unset]) rfl ?_
          refine XS.iload X_696.here hx rfl (hb hby at_418) rfl ?_
          show Steps p.tables e below (T_696.setTop (mkF m 420 #[.val (.int p0), .val (.long p1), .second, .val (.int p2), .val (.int p3), .val (.ref a_9), .val (.int (own_l20 p0)), .val (.long (own_Y p1)), .second, .val (.ref a_523), .val (.int (1 : Int32)), .val (.int (1 : Int32)), .val (.int (own_pl p2 (own_l20 p0))), .unset, .unset, .unset, .unset, .unset, .unset, .unset, .unset, .unset, .unset] [(.int (1 : Int32))])) _
          refine XS.ifNo X_696.here hx rfl (hb hby at_420) rfl (by decide) ?_
          refine XS.iload X_696.here hx rfl (hb hby at_423) rfl ?_
          refine XS.bipush X_696.here hx rfl (hb hby at_425) ?_
          refine XS.iushr X_696.here hx rfl (hb hby at_427) rfl ?_
          refine X_696.ldcI hx hown (mvT hZ (w99 hw)) rfl (hb hby at_428) ?_
          refine XS.iand X_696.here hx rfl (hb hby at_430) rfl ?_
          refine XS.iload X_696.here hx rfl (hb hby at_431) rfl ?_
          refine iremM X_696 hx rfl (hb hby at_433) rfl hn_361 ?_
          show Steps p.tables e below (T_696.setTop (mkF m 434 #[.val (.int p0), .val (.long p1), .second, .val (.int p2), .val (.int p3), .val (.ref a_9), .val (.int (own_l20 p0)), .val (.long (own_Y p1)), .second, .val (.ref a_523), .val (.int (1 : Int32)), .val (.int (1 : Int32)), .val (.int (own_pl p2 (own_l20 p0))), .unset, .unset, .unset, .unset, .unset, .unset, .unset, .unset, .unset, .unset] [(.int (own_pl p3 (own_l20 p0)))])) _
          refine XS.goto X_696.here hx rfl (pc0 := 434) (pc' := 438) rfl (hb hby at_434) (by decide) (by decide) ?_
          refine XS.istore X_696.here hx rfl (hb hby at_438) rfl (l' := #[.val (.int p0), .val (.long p1), .second, .val (.int p2), .val (.int p3), .val (.ref a_9), .val (.int (own_l20 p0)), .val (.long (own_Y p1)), .second, .val (.ref a_523), .val (.int (1 : Int32)), .val (.int (1 : Int32)), .val (.int (own_pl p2 (own_l20 p0))), .val (.int (own_pl p3 (own_l20 p0))), .unset, .unset, .unset, .unset, .unset, .unset, .unset, .unset, .unset]) rfl ?_
          refine XS.iloadN X_696.here hx rfl (hb hby at_440) rfl ?_
          refine XS.sipush X_696.here hx rfl (hb hby at_441) ?_
          refine XS.iand X_696.here hx rfl (hb hby at_444) rfl ?_
          refine XS.i2c X_696.here hx rfl (hb hby at_445) rfl ?_
          refine XS.istore X_696.here hx rfl (hb hby at_446) rfl (l' := #[.val (.int p0), .val (.long p1), .second, .val (.int p2), .val (.int p3), .val (.ref a_9), .val (.int (own_l20 p0)), .val (.long (own_Y p1)), .second, .val (.ref a_523), .val (.int (1 : Int32)), .val (.int (1 : Int32)), .val (.int (own_pl p2 (own_l20 p0))), .val (.int (own_pl p3 (own_l20 p0))), .val (.int (own_cc p2)), .unset, .unset, .unset, .unset, .unset, .unset, .unset, .unset]) rfl ?_
          refine XS.iload X_696.here hx rfl (hb hby at_448) rfl ?_
          show Steps p.tables e below (T_696.setTop (mkF m 450 #[.val (.int p0), .val (.long p1), .second, .val (.int p2), .val (.int p3), .val (.ref a_9), .val (.int (own_l20 p0)), .val (.long (own_Y p1)), .second, .val (.ref a_523), .val (.int (1 : Int32)), .val (.int (1 : Int32)), .val (.int (own_pl p2 (own_l20 p0))), .val (.int (own_pl p3 (own_l20 p0))), .val (.int (own_cc p2)), .unset, .unset, .unset, .unset, .unset, .unset, .unset, .unset] [(.int p3)])) _
          refine XS.sipush X_696.here hx rfl (hb hby at_450) ?_
          refine XS.iand X_696.here hx rfl (hb hby at_453) rfl ?_
          refine XS.i2c X_696.here hx rfl (hb hby at_454) rfl ?_
          refine XS.istore X_696.here hx rfl (hb hby at_455) rfl (l' := #[.val (.int p0), .val (.long p1), .second, .val (.int p2), .val (.int p3), .val (.ref a_9), .val (.int (own_l20 p0)), .val (.long (own_Y p1)), .second, .val (.ref a_523), .val (.int (1 : Int32)), .val (.int (1 : Int32)), .val (.int (own_pl p2 (own_l20 p0))), .val (.int (own_pl p3 (own_l20 p0))), .val (.int (own_cc p2)), .val (.int (own_cc p3)), .unset, .unset, .unset, .unset, .unset, .unset, .unset]) rfl ?_
          exact Steps.refl _
        obtain ⟨c_1083, A_1084, q_1085, S_1086, M_1087, H_1088, U_1089⟩ := id V_704
        have hin_1096 : ¬ ((own_pl p2 (own_l20 p0)) < 0 ∨ c_1083.slots.size ≤ (own_pl p2 (own_l20 p0)).toNatClampNeg) := inb_of S_1086 ⟨hr_513.1, hr_513.2⟩
        obtain ⟨T_1090, h_1091, X_1092, e_1093, W_1094, st_1095⟩ := stC X_696 hx hZ rfl A_1084 (j := (own_pl p2 (own_l20 p0))) hin_1096 (g := (mkF m 468 #[.val (.int p0), .val (.long p1), .second, .val (.int p2), .val (.int p3), .val (.ref a_9), .val (.int (own_l20 p0)), .val (.long (own_Y p1)), .second, .val (.ref a_523), .val (.int (1 : Int32)), .val (.int (1 : Int32)), .val (.int (own_pl p2 (own_l20 p0))), .val (.int (own_pl p3 (own_l20 p0))), .val (.int (own_cc p2)), .val (.int (own_cc p3)), .unset, .unset, .unset, .unset, .unset, .unset, .unset] [(.int (own_cc p2)), (.int (own_pl p2 (own_l20 p0))), (.ref a_523)])) rfl rfl (hb hby at_468)
        have N_1097 := Fr.snoc X_1092 N_700 (Nat.le_trans (own_n0 O_530) (Nat.le_of_eq g_524.symm))
        have CH_1098 : CHv Z consts_1 s.vm h_1091 := CHv.wr W_1094 (Safe.arv hZ.alike V_704 (by decide)) CH_701
        have CR_1099 : CHr Z consts_1 s.vm h0 s.vm h_1091 := CR_702.trans (CHr.wr W_1094 (Safe.arv hZ.alike V_704 (by decide)) CH_701)
        have V_1100 : Arv Z h_1091 a_523 k_517 .char (own_l20 p0) (own_iv ((own_ds (own_Y p1) (own_l20 p0)).set (own_pl p2 (own_l20 p0)).toNatClampNeg (own_cc p2))) (.int (0 : Int32)) := by have q := own_iv_set (Arv.set A_1084 q_1085 S_1086 M_1087 H_1088 U_1089 (fits_nar_char _) W_1094 (own_pl p2 (own_l20 p0)).toNatClampNeg rfl (own_ix (own_dsl _ _) hr_513.1 hr_513.2)); rw [own_narc (own_ccr p2).1 (own_ccr p2).2] at q; exact q
        obtain ⟨c_1101, A_1102, q_1103, S_1104, M_1105, H_1106, U_1107⟩ := id V_1100
        have hin_1114 : ¬ ((own_pl p3 (own_l20 p0)) < 0 ∨ c_1101.slots.size ≤ (own_pl p3 (own_l20 p0)).toNatClampNeg) := inb_of S_1104 ⟨hr_514.1, hr_514.2⟩
        obtain ⟨T_1108, h_1109, X_1110, e_1111, W_1112, st_1113⟩ := stC X_1092 hx hZ e_1093 A_1102 (j := (own_pl p3 (own_l20 p0))) hin_1114 (g := (mkF m 480 #[.val (.int p0), .val (.long p1), .second, .val (.int p2), .val (.int p3), .val (.ref a_9), .val (.int (own_l20 p0)), .val (.long (own_Y p1)), .second, .val (.ref a_523), .val (.int (1 : Int32)), .val (.int (1 : Int32)), .val (.int (own_pl p2 (own_l20 p0))), .val (.int (own_pl p3 (own_l20 p0))), .val (.int (own_cc p2)), .val (.int (own_cc p3)), .unset, .unset, .unset, .unset, .unset, .unset, .unset] [(.int (own_cc p3)), (.int (own_pl p3 (own_l20 p0))), (.ref a_523)])) rfl rfl (hb hby at_480)
        have N_1115 := Fr.snoc X_1110 N_1097 (Nat.le_trans (own_n0 O_530) (Nat.le_of_eq g_524.symm))
        have CH_1116 : CHv Z consts_1 s.vm h_1109 := CHv.wr W_1112 (Safe.arv hZ.alike V_1100 (by decide)) CH_1098
        have CR_1117 : CHr Z consts_1 s.vm h0 s.vm h_1109 := CR_1099.trans (CHr.wr W_1112 (Safe.arv hZ.alike V_1100 (by decide)) CH_1098)
        have V_1118 : Arv Z h_1109 a_523 k_517 .char (own_l20 p0) (own_iv (((own_ds (own_Y p1) (own_l20 p0)).set (own_pl p2 (own_l20 p0)).toNatClampNeg (own_cc p2)).set (own_pl p3 (own_l20 p0)).toNatClampNeg (own_cc p3))) (.int (0 : Int32)) := by have q := own_iv_set (Arv.set A_1102 q_1103 S_1104 M_1105 H_1106 U_1107 (fits_nar_char _) W_1112 (own_pl p3 (own_l20 p0)).toNatClampNeg rfl (own_ix (own_setlen (own_dsl _ _)) hr_514.1 hr_514.2)); rw [own_narc (own_ccr p3).1 (own_ccr p3).2] at q; exact q
        obtain ⟨T_1119, h_1120, X_1121, e_1122, E_1123, A_1124, D_1125, U_1129, st_1126⟩ := newO X_1110 hx hZ hown (w25 hw) (w26 hw) (w27 hw) e_1111 (g := (mkF m 481 #[.val (.int p0), .val (.long p1), .second, .val (.int p2), .val (.int p3), .val (.ref a_9), .val (.int (own_l20 p0)), .val (.long (own_Y p1)), .second, .val (.ref a_523), .val (.int (1 : Int32)), .val (.int (1 : Int32)), .val (.int (own_pl p2 (own_l20 p0))), .val (.int (own_pl p3 (own_l20 p0))), .val (.int (own_cc p2)), .val (.int (own_cc p3)), .unset, .unset, .unset, .unset, .unset, .unset, .unset] [])) rfl (hb hby at_481) (by decide) (by decide)
        obtain ⟨a_1127, g_1128⟩ : ∃ z, z = h_1109.size := ⟨_, rfl⟩
        rw [← g_1128] at A_1124 D_1125 st_1126 U_1129
        have CH_1130 : CHv Z consts_1 s.vm h_1120 := CHv.ext E_1123 CH_1116
        have CR_1131 : CHr Z consts_1 s.vm h0 s.vm h_1120 := CR_1117.trans (CHr.ext E_1123 CH_1116)
        have O_1132 : Old Z n0 h_1109 := (((O_695.keep K_698 (allS (Nat.le_trans (own_n0 O_530) (Nat.le_of_eq g_524.symm)) all0)).wr W_1094 (Nat.le_trans (own_n0 O_530) (Nat.le_of_eq g_524.symm))).wr W_1112 (Nat.le_trans (own_n0 O_530) (Nat.le_of_eq g_524.symm)))
        have V_1133 : Arv Z h_1120 a_523 k_517 .char (own_l20 p0) (own_iv (((own_ds (own_Y p1) (own_l20 p0)).set (own_pl p2 (own_l20 p0)).toNatClampNeg (own_cc p2)).set (own_pl p3 (own_l20 p0)).toNatClampNeg (own_cc p3))) (.int (0 : Int32)) := (V_1118.ext E_1123)
        have O_1134 : Old Z n0 h_1120 := (O_1132.ext E_1123)
        obtain ⟨_, _, ⟨T_1135, L_1135, k_1135, n_1135⟩, -, X_1135, ⟨Lc_1135, hQ_1135, l_1135, y_1135, z_1135⟩, st_1135⟩ := X_1121.specialBack hx (y := M99) rfl hown (mvT hZ (w28 hw)) (mvT hZ (w29 hw)) (mvT hZ (w30 hw)) (by decide) (backOf (W := 1) (rm_si1s l Z a0 hw [] G1 G3 HG h_1120 n0 O_1134 a_1127 a_523 k_517 (own_l20 p0) (((own_ds (own_Y p1) (own_l20 p0)).set (own_pl p2 (own_l20 p0)).toNatClampNeg (own_cc p2)).set (own_pl p3 (own_l20 p0)).toNatClampNeg (own_cc p3)) A_1124 (D_1125 (Or.inr (w40 hw)) (ty := (.array .byte)) (by decide)) (D_1125 (Or.inr (w41 hw)) (ty := .byte) (by decide)) (Nat.le_trans (own_n0 O_1132) (Nat.le_of_eq g_1128.symm)) V_1133 (own_l0 p0) hn_361 (own_lc p0) (own_setlen (own_setlen (own_dsl _ _))) (own_setlat (own_setlat (own_dslat (own_l19 p0)) (own_ccr p2).1 (own_ccr p2).2) (own_ccr p3).1 (own_ccr p3).2)) hZ (w30 hw) (w27 hw) (by decide) (by decide)) (g := (mkF m 487 #[.val (.int p0), .val (.long p1), .second, .val (.int p2), .val (.int p3), .val (.ref a_9), .val (.int (own_l20 p0)), .val (.long (own_Y p1)), .second, .val (.ref a_523), .val (.int (1 : Int32)), .val (.int (1 : Int32)), .val (.int (own_pl p2 (own_l20 p0))), .val (.int (own_pl p3 (own_l20 p0))), .val (.int (own_cc p2)), .val (.int (own_cc p3)), .unset, .unset, .unset, .unset, .unset, .unset, .unset] [(.ref a_523), (.ref a_1127), (.ref a_1127)])) rfl (by rw [hml]; rfl) (Steps.refl _) (a := a_1127) (argsL := [(.ref a_523)]) (rest := [(.ref a_1127)]) (lenOf pd_363 rfl) rfl (by show 2 * 0 + _ ≤ _; exact Nat.le_of_eq rfl) (hb hby at_487) (fun _ _ => ⟨rfl, e_1122, (by decide : 3 + 1 ≤ _), (by decide : 42 + 19 ≤ _)⟩)
        dsimp only [Pt.U, Pt.locs, Pt.cells, Pt.slots] at X_1135 l_1135 y_1135 z_1135 st_1135 hQ_1135
        have X_1135 := own_cast X_1135 l_1135 y_1135 z_1135
        obtain ⟨a_1136, k_1137, rfl, N_1138, K_1139, g_1140, g_1141, g_1142, g_1143, g_1144⟩ := hQ_1135
        have N_1145 := Fr.app N_1115 N_1138
        have CH_1146 : CHv Z consts_1 s.vm T_1135.heap := CHv.keep K_1139 (sfS (own_safe_null hZ.alike A_1124 (D_1125 (Or.inr (w40 hw)) (ty := (.array .byte)) (by decide))) sf0) CH_1130
        have CR_1147 : CHr Z consts_1 s.vm h0 s.vm T_1135.heap := CR_1131.trans (CHr.keep K_1139 (sfS (own_safe_null hZ.alike A_1124 (D_1125 (Or.inr (w40 hw)) (ty := (.array .byte)) (by decide))) sf0) CH_1130)
        have O_1148 : Old Z n0 T_1135.heap := (O_1134.keep K_1139 (allS (Nat.le_trans (own_n0 O_1132) (Nat.le_of_eq g_1128.symm)) all0))
        obtain ⟨_, _, ⟨T_1149, L_1149, k_1149, n_1149⟩, -, X_1149, ⟨Lc_1149, hQ_1149, l_1149, y_1149, z_1149⟩, st_1149⟩ := Jvm.LawKit.callS X_1135 hx (y := M269) hown (mvT hZ (w46 hw)) (mvT hZ (w47 hw)) (mvT hZ (w48 hw)) (mvT hZ (w49 hw)) (by decide) (backOf (W := 0) (rm_val l Z a0 hw [] G1 G3 HG T_1135.heap n0 O_1148 a_1127 a_1136 k_1137 (own_l20 p0) (((own_ds (own_Y p1) (own_l20 p0)).set (own_pl p2 (own_l20 p0)).toNatClampNeg (own_cc p2)).set (own_pl p3 (own_l20 p0)).toNatClampNeg (own_cc p3)) g_1140 g_1141 g_1142 g_1144 (own_l0 p0) (own_setlen (own_setlen (own_dsl _ _))) (own_setlat (own_setlat (own_dslat (own_l19 p0)) (own_ccr p2).1 (own_ccr p2).2) (own_ccr p3).1 (own_ccr p3).2)) hZ (w49 hw) (w48 hw) (by decide) (by decide)) (g := (mkF m 490 #[.val (.int p0), .val (.long p1), .second, .val (.int p2), .val (.int p3), .val (.ref a_9), .val (.int (own_l20 p0)), .val (.long (own_Y p1)), .second, .val (.ref a_523), .val (.int (1 : Int32)), .val (.int (1 : Int32)), .val (.int (own_pl p2 (own_l20 p0))), .val (.int (own_pl p3 (own_l20 p0))), .val (.int (own_cc p2)), .val (.int (own_cc p3)), .unset, .unset, .unset, .unset, .unset, .unset, .unset] [(.ref a_1127)])) rfl (by rw [hml]; rfl) (argsL := [(.ref a_1127)]) (rest := []) (lenOf pd_368 rfl) rfl (by show 2 * 0 + _ ≤ _; exact Nat.le_of_eq rfl) (hb hby at_490) (fun _ _ => ⟨rfl, rfl, (by decide : 4 + 0 ≤ _), (by decide : 61 + 0 ≤ _)⟩)
        dsimp only [Pt.U, Pt.locs, Pt.cells, Pt.slots] at X_1149 l_1149 y_1149 z_1149 st_1149 hQ_1149
        have X_1149 := own_cast X_1149 l_1149 y_1149 z_1149
        obtain ⟨rfl, N_1150, e_1151⟩ := hQ_1149
        have N_1152 := Fr.app N_1145 N_1150
        have e_1153 : T_1149.heap = T_1135.heap := e_1151
        have K_1154 : Keep h0 T_1135.heap [] := ((((K_703.wr W_1094 (Or.inr (Nat.le_trans (Nat.le_trans (Nat.le_trans (Nat.le_trans (Nat.le_trans (Nat.le_trans (Nat.le_trans (Nat.le_trans (Nat.le_trans (Nat.le_trans (Nat.le_trans (Nat.le_trans (Nat.le_trans (Nat.le_trans (Nat.le_trans (Nat.le_trans (Nat.le_trans (Nat.le_trans (Nat.le_trans (Nat.le_trans E_6.1 (Keep.of_wr W_26).1) (Keep.of_wr W_44).1) (Keep.of_wr W_62).1) (Keep.of_wr W_80).1) (Keep.of_wr W_98).1) (Keep.of_wr W_116).1) (Keep.of_wr W_134).1) (Keep.of_wr W_152).1) (Keep.of_wr W_171).1) (Keep.of_wr W_189).1) (Keep.of_wr W_207).1) (Keep.of_wr W_225).1) (Keep.of_wr W_243).1) (Keep.of_wr W_261).1) (Keep.of_wr W_279).1) (Keep.of_wr W_297).1) (Keep.of_wr W_315).1) (Keep.of_wr W_334).1) (Keep.of_wr W_352).1) (Nat.le_of_eq g_524.symm)))).wr W_1112 (Or.inr (Nat.le_trans (Nat.le_trans (Nat.le_trans (Nat.le_trans (Nat.le_trans (Nat.le_trans (Nat.le_trans (Nat.le_trans (Nat.le_trans (Nat.le_trans (Nat.le_trans (Nat.le_trans (Nat.le_trans (Nat.le_trans (Nat.le_trans (Nat.le_trans (Nat.le_trans (Nat.le_trans (Nat.le_trans (Nat.le_trans E_6.1 (Keep.of_wr W_26).1) (Keep.of_wr W_44).1) (Keep.of_wr W_62).1) (Keep.of_wr W_80).1) (Keep.of_wr W_98).1) (Keep.of_wr W_116).1) (Keep.of_wr W_134).1) (Keep.of_wr W_152).1) (Keep.of_wr W_171).1) (Keep.of_wr W_189).1) (Keep.of_wr W_207).1) (Keep.of_wr W_225).1) (Keep.of_wr W_243).1) (Keep.of_wr W_261).1) (Keep.of_wr W_279).1) (Keep.of_wr W_297).1) (Keep.of_wr W_315).1) (Keep.of_wr W_334).1) (Keep.of_wr W_352).1) (Nat.le_of_eq g_524.symm)))).ext E_1123).trans K_1139 (allS (Or.inr (Nat.le_trans (Nat.le_trans (Nat.le_trans (Nat.le_trans (Nat.le_trans (Nat.le_trans (Nat.le_trans (Nat.le_trans (Nat.le_trans (Nat.le_trans (Nat.le_trans (Nat.le_trans (Nat.le_trans (Nat.le_trans (Nat.le_trans (Nat.le_trans (Nat.le_trans (Nat.le_trans (Nat.le_trans (Nat.le_trans (Nat.le_trans (Nat.le_trans (Nat.le_trans (Nat.le_trans (Nat.le_trans (Nat.le_trans (Nat.le_trans (Nat.le_trans (Nat.le_trans (Nat.le_trans (Nat.le_trans (Nat.le_trans (Nat.le_trans (Nat.le_trans (Nat.le_trans (Nat.le_trans (Nat.le_trans (Nat.le_trans (Nat.le_trans (Nat.le_trans (Nat.le_trans (Nat.le_trans E_6.1 (Keep.of_wr W_26).1) (Keep.of_wr W_44).1) (Keep.of_wr W_62).1) (Keep.of_wr W_80).1) (Keep.of_wr W_98).1) (Keep.of_wr W_116).1) (Keep.of_wr W_134).1) (Keep.of_wr W_152).1) (Keep.of_wr W_171).1) (Keep.of_wr W_189).1) (Keep.of_wr W_207).1) (Keep.of_wr W_225).1) (Keep.of_wr W_243).1) (Keep.of_wr W_261).1) (Keep.of_wr W_279).1) (Keep.of_wr W_297).1) (Keep.of_wr W_315).1) (Keep.of_wr W_334).1) (Keep.of_wr W_352).1) E_520.1) K_534.1) K_543.1) K_552.1) K_561.1) K_570.1) K_580.1) K_589.1) K_598.1) K_607.1) K_616.1) K_625.1) K_634.1) K_644.1) K_653.1) K_662.1) K_671.1) K_680.1) K_689.1) K_698.1) (Keep.of_wr W_1094).1) (Keep.of_wr W_1112).1) (Nat.le_of_eq g_1128.symm))) all0))
        have C_1155 : Steps p.tables e below S0 (T_1149.setTop (mkF m 509 #[.val (.int p0), .val (.long p1), .second, .val (.int p2), .val (.int p3), .val (.ref a_9), .val (.int (own_l20 p0)), .val (.long (own_Y p1)), .second, .val (.ref a_523), .val (.int (1 : Int32)), .val (.int (1 : Int32)), .val (.int (own_pl p2 (own_l20 p0))), .val (.int (own_pl p3 (own_l20 p0))), .val (.int (own_cc p2)), .val (.int (own_cc p3)), .val (.long (own_value (((own_ds (own_Y p1) (own_l20 p0)).set (own_pl p2 (own_l20 p0)).toNatClampNeg (own_cc p2)).set (own_pl p3 (own_l20 p0)).toNatClampNeg (own_cc p3)))), .second, .unset, .unset, .unset, .unset, .unset] [(.int (own_pl p2 (own_l20 p0))), (.int (own_pl p3 (own_l20 p0)))])) := by
          refine C_1082.trans ?_
          refine XS.iload X_696.here hx rfl (hb hby at_457) rfl ?_
          refine XS.ifNo X_696.here hx rfl (hb hby at_459) rfl (by decide) ?_
          refine XS.aload X_696.here hx rfl (hb hby at_462) rfl rfl ?_
          refine XS.iload X_696.here hx rfl (hb hby at_464) rfl ?_
          refine XS.iload X_696.here hx rfl (hb hby at_466) rfl ?_
          refine st_1095 _ ?_
          refine XS.iload X_1092.here hx rfl (hb hby at_469) rfl ?_
          refine XS.ifNo X_1092.here hx rfl (hb hby at_471) rfl (by decide) ?_
          show Steps p.tables e below (T_1090.setTop (mkF m 474 #[.val (.int p0), .val (.long p1), .second, .val (.int p2), .val (.int p3), .val (.ref a_9), .val (.int (own_l20 p0)), .val (.long (own_Y p1)), .second, .val (.ref a_523), .val (.int (1 : Int32)), .val (.int (1 : Int32)), .val (.int (own_pl p2 (own_l20 p0))), .val (.int (own_pl p3 (own_l20 p0))), .val (.int (own_cc p2)), .val (.int (own_cc p3)), .unset, .unset, .unset, .unset, .unset, .unset, .unset] [])) _
          refine XS.aload X_1092.here hx rfl (hb hby at_474) rfl rfl ?_
          refine XS.iload X_1092.here hx rfl (hb hby at_476) rfl ?_
          refine XS.iload X_1092.here hx rfl (hb hby at_478) rfl ?_
          refine st_1113 _ ?_
          refine st_1126 _ ?_
          refine XS.dup X_1121.here hx rfl (hb hby at_484) rfl rfl ?_
          refine XS.aload X_1121.here hx rfl (hb hby at_485) rfl rfl ?_
          refine st_1135.trans ?_
          show Steps p.tables e below (T_1135.setTop (mkF m 490 #[.val (.int p0), .val (.long p1), .second, .val (.int p2), .val (.int p3), .val (.ref a_9), .val (.int (own_l20 p0)), .val (.long (own_Y p1)), .second, .val (.ref a_523), .val (.int (1 : Int32)), .val (.int (1 : Int32)), .val (.int (own_pl p2 (own_l20 p0))), .val (.int (own_pl p3 (own_l20 p0))), .val (.int (own_cc p2)), .val (.int (own_cc p3)), .unset, .unset, .unset, .unset, .unset, .unset, .unset] [(.ref a_1127)])) _
          refine st_1149 _ ?_
          refine XS.lstore X_1149.here hx rfl (hb hby at_493) rfl (l' := #[.val (.int p0), .val (.long p1), .second, .val (.int p2), .val (.int p3), .val (.ref a_9), .val (.int (own_l20 p0)), .val (.long (own_Y p1)), .second, .val (.ref a_523), .val (.int (1 : Int32)), .val (.int (1 : Int32)), .val (.int (own_pl p2 (own_l20 p0))), .val (.int (own_pl p3 (own_l20 p0))), .val (.int (own_cc p2)), .val (.int (own_cc p3)), .val (.long (own_value (((own_ds (own_Y p1) (own_l20 p0)).set (own_pl p2 (own_l20 p0)).toNatClampNeg (own_cc p2)).set (own_pl p3 (own_l20 p0)).toNatClampNeg (own_cc p3)))), .second, .unset, .unset, .unset, .unset, .unset]) rfl ?_
          refine XS.iload X_1149.here hx rfl (hb hby at_495) rfl ?_
          refine XS.ifNo X_1149.here hx rfl (hb hby at_497) rfl (by decide) ?_
          refine XS.iload X_1149.here hx rfl (hb hby at_500) rfl ?_
          refine XS.ifNo X_1149.here hx rfl (hb hby at_502) rfl (by decide) ?_
          refine XS.iload X_1149.here hx rfl (hb hby at_505) rfl ?_
          refine XS.iload X_1149.here hx rfl (hb hby at_507) rfl ?_
          show Steps p.tables e below (T_1149.setTop (mkF m 509 #[.val (.int p0), .val (.long p1), .second, .val (.int p2), .val (.int p3), .val (.ref a_9), .val (.int (own_l20 p0)), .val (.long (own_Y p1)), .second, .val (.ref a_523), .val (.int (1 : Int32)), .val (.int (1 : Int32)), .val (.int (own_pl p2 (own_l20 p0))), .val (.int (own_pl p3 (own_l20 p0))), .val (.int (own_cc p2)), .val (.int (own_cc p3)), .val (.long (own_value (((own_ds (own_Y p1) (own_l20 p0)).set (own_pl p2 (own_l20 p0)).toNatClampNeg (own_cc p2)).set (own_pl p3 (own_l20 p0)).toNatClampNeg (own_cc p3)))), .second, .unset, .unset, .unset, .unset, .unset] [(.int (own_pl p2 (own_l20 p0))), (.int (own_pl p3 (own_l20 p0)))])) _
          exact Steps.refl _
        by_cases hc_1156 : (own_pl p3 (own_l20 p0)) = (own_pl p2 (own_l20 p0))
        · skip
          have C_1157 : Steps p.tables e below S0 (T_1149.setTop (mkF m 528 #[.val (.int p0), .val (.long p1), .second, .val (.int p2), .val (.int p3), .val (.ref a_9), .val (.int (own_l20 p0)), .val (.long (own_Y p1)), .second, .val (.ref a_523), .val (.int (1 : Int32)), .val (.int (1 : Int32)), .val (.int (own_pl p2 (own_l20 p0))), .val (.int (own_pl p3 (own_l20 p0))), .val (.int (own_cc p2)), .val (.int (own_cc p3)), .val (.long (own_value (((own_ds (own_Y p1) (own_l20 p0)).set (own_pl p2 (own_l20 p0)).toNatClampNeg (own_cc p2)).set (own_pl p3 (own_l20 p0)).toNatClampNeg (own_cc p3)))), .second, .val (.int (0 : Int32)), .unset, .unset, .unset, .unset] [(.int (18 : Int32)), (.int (own_l20 p0))])) := by
            refine C_1155.trans ?_
            refine XS.icmpYes X_1149.here hx rfl (pc0 := 509) (pc' := 516) rfl (hb hby at_509) rfl (ii_eq_t hc_1156) (by decide) (by decide) ?_
            refine XS.iconst X_1149.here hx rfl (hb hby at_516) ?_
            refine XS.istore X_1149.here hx rfl (hb hby at_517) rfl (l' := #[.val (.int p0), .val (.long p1), .second, .val (.int p2), .val (.int p3), .val (.ref a_9), .val (.int (own_l20 p0)), .val (.long (own_Y p1)), .second, .val (.ref a_523), .val (.int (1 : Int32)), .val (.int (1 : Int32)), .val (.int (own_pl p2 (own_l20 p0))), .val (.int (own_pl p3 (own_l20 p0))), .val (.int (own_cc p2)), .val (.int (own_cc p3)), .val (.long (own_value (((own_ds (own_Y p1) (own_l20 p0)).set (own_pl p2 (own_l20 p0)).toNatClampNeg (own_cc p2)).set (own_pl p3 (own_l20 p0)).toNatClampNeg (own_cc p3)))), .second, .val (.int (0 : Int32)), .unset, .unset, .unset, .unset]) rfl ?_
            refine XS.iload X_1149.here hx rfl (hb hby at_519) rfl ?_
            refine XS.ifNo X_1149.here hx rfl (hb hby at_521) rfl (i0_eq_f hn_361) ?_
            refine XS.iload X_1149.here hx rfl (hb hby at_524) rfl ?_
            refine XS.bipush X_1149.here hx rfl (hb hby at_526) ?_
            exact Steps.refl _
          by_cases hc_1158 : (18 : Int32) < (own_l20 p0)
          · skip
            have C_1159 : Steps p.tables e below S0 (T_1149.setTop (mkF m 685 #[.val (.int p0), .val (.long p1), .second, .val (.int p2), .val (.int p3), .val (.ref a_9), .val (.int (own_l20 p0)), .val (.long (own_Y p1)), .second, .val (.ref a_523), .val (.int (1 : Int32)), .val (.int (1 : Int32)), .val (.int (own_pl p2 (own_l20 p0))), .val (.int (own_pl p3 (own_l20 p0))), .val (.int (own_cc p2)), .val (.int (own_cc p3)), .val (.long (own_value (((own_ds (own_Y p1) (own_l20 p0)).set (own_pl p2 (own_l20 p0)).toNatClampNeg (own_cc p2)).set (own_pl p3 (own_l20 p0)).toNatClampNeg (own_cc p3)))), .second, .val (.int (0 : Int32)), .val (.long (-1 : Int64)), .second, .unset, .unset] [(.int (1 : Int32))])) := by
              refine C_1157.trans ?_
              refine XS.icmpYes X_1149.here hx rfl (pc0 := 528) (pc' := 572) rfl (hb hby at_528) rfl (ii_gt_t hc_1158) (by decide) (by decide) ?_
              refine X_1149.ldc2J hx hown (mvT hZ (w62 hw)) rfl (hb hby at_572) ?_
              refine XS.lstore X_1149.here hx rfl (hb hby at_575) rfl (l' := #[.val (.int p0), .val (.long p1), .second, .val (.int p2), .val (.int p3), .val (.ref a_9), .val (.int (own_l20 p0)), .val (.long (own_Y p1)), .second, .val (.ref a_523), .val (.int (1 : Int32)), .val (.int (1 : Int32)), .val (.int (own_pl p2 (own_l20 p0))), .val (.int (own_pl p3 (own_l20 p0))), .val (.int (own_cc p2)), .val (.int (own_cc p3)), .val (.long (own_value (((own_ds (own_Y p1) (own_l20 p0)).set (own_pl p2 (own_l20 p0)).toNatClampNeg (own_cc p2)).set (own_pl p3 (own_l20 p0)).toNatClampNeg (own_cc p3)))), .second, .val (.int (0 : Int32)), .val (.long (-1 : Int64)), .second, .unset, .unset]) rfl ?_
              refine XS.goto X_1149.here hx rfl (pc0 := 577) (pc' := 672) rfl (hb hby at_577) (by decide) (by decide) ?_
              refine XS.lload X_1149.here hx rfl (hb hby at_672) rfl ?_
              refine XS.lload X_1149.here hx rfl (hb hby at_674) rfl ?_
              refine XS.lcmp X_1149.here hx rfl (hb hby at_676) rfl ?_
              refine XS.ifNo X_1149.here hx rfl (hb hby at_677) rfl (i0_ne_f ((lw_eq (own_value (((own_ds (own_Y p1) (own_l20 p0)).set (own_pl p2 (own_l20 p0)).toNatClampNeg (own_cc p2)).set (own_pl p3 (own_l20 p0)).toNatClampNeg (own_cc p3))) (-1 : Int64)).mpr (own_vlong (own_setlen (own_setlen (own_dsl _ _))) hc_1158))) ?_
              show Steps p.tables e below (T_1149.setTop (mkF m 680 #[.val (.int p0), .val (.long p1), .second, .val (.int p2), .val (.int p3), .val (.ref a_9), .val (.int (own_l20 p0)), .val (.long (own_Y p1)), .second, .val (.ref a_523), .val (.int (1 : Int32)), .val (.int (1 : Int32)), .val (.int (own_pl p2 (own_l20 p0))), .val (.int (own_pl p3 (own_l20 p0))), .val (.int (own_cc p2)), .val (.int (own_cc p3)), .val (.long (own_value (((own_ds (own_Y p1) (own_l20 p0)).set (own_pl p2 (own_l20 p0)).toNatClampNeg (own_cc p2)).set (own_pl p3 (own_l20 p0)).toNatClampNeg (own_cc p3)))), .second, .val (.int (0 : Int32)), .val (.long (-1 : Int64)), .second, .unset, .unset] [])) _
              refine XS.iconst X_1149.here hx rfl (hb hby at_680) ?_
              refine XS.goto X_1149.here hx rfl (pc0 := 681) (pc' := 685) rfl (hb hby at_681) (by decide) (by decide) ?_
              exact Steps.refl _
            have K_1160 : Keep h0 T_1135.heap [] := K_1154
            obtain ⟨fs, hr, hrun, hended, hRE⟩ := X_1149.leaveW hS0 (by rw [show T_1149.heap = T_1135.heap from e_1153]; exact (Nat.le_trans (Nat.le_refl _) (Nat.le_trans (Nat.le_trans (Nat.le_trans (Nat.le_trans (Nat.le_trans (Nat.le_trans (Nat.le_trans (Nat.le_trans (Nat.le_trans (Nat.le_trans (Nat.le_trans (Nat.le_trans (Nat.le_trans (Nat.le_trans (Nat.le_trans (Nat.le_trans (Nat.le_trans (Nat.le_trans (Nat.le_trans (Nat.le_trans (Nat.le_trans (Nat.le_trans (Nat.le_trans (Nat.le_trans (Nat.le_trans (Nat.le_trans (Nat.le_trans (Nat.le_trans (Nat.le_trans (Nat.le_trans (Nat.le_trans (Nat.le_trans (Nat.le_trans (Nat.le_trans (Nat.le_trans (Nat.le_trans (Nat.le_trans (Nat.le_trans (Nat.le_trans (Nat.le_trans (Nat.le_trans (Nat.le_trans (Nat.le_trans E_6.1 (Keep.of_wr W_26).1) (Keep.of_wr W_44).1) (Keep.of_wr W_62).1) (Keep.of_wr W_80).1) (Keep.of_wr W_98).1) (Keep.of_wr W_116).1) (Keep.of_wr W_134).1) (Keep.of_wr W_152).1) (Keep.of_wr W_171).1) (Keep.of_wr W_189).1) (Keep.of_wr W_207).1) (Keep.of_wr W_225).1) (Keep.of_wr W_243).1) (Keep.of_wr W_261).1) (Keep.of_wr W_279).1) (Keep.of_wr W_297).1) (Keep.of_wr W_315).1) (Keep.of_wr W_334).1) (Keep.of_wr W_352).1) E_520.1) K_534.1) K_543.1) K_552.1) K_561.1) K_570.1) K_580.1) K_589.1) K_598.1) K_607.1) K_616.1) K_625.1) K_634.1) K_644.1) K_653.1) K_662.1) K_671.1) K_680.1) K_689.1) K_698.1) (Keep.of_wr W_1094).1) (Keep.of_wr W_1112).1) E_1123.1) K_1139.1))) (v := some (.int (1 : Int32))) (fun h => by rw [Bd.returns] at h; cases h)
            refine ⟨_, _, C_1159.trans (retN X_1149 hx (t := .boolean) Bd.returns (by simp) (hb hby at_685) hr), hrun, hended, _, _, rfl, ?_, ?_, hRE.1, hRE.2.1, hRE.2.2.1, hRE.2.2.2.mono (by decide) (by decide)⟩
            · show Q_law Z G1 G3 p0 p1 p2 p3 h0 n0 (some (.int (1 : Int32))) T_1149.heap _
              rw [e_1153]
              exact ⟨rfl, N_1152, K_1160⟩
            · show CHr Z consts_1 s.vm s.heap T_1149.vm T_1149.heap
              rw [hh, show T_1149.heap = T_1135.heap from e_1153]
              exact CR_1147.trans (CHv.at X_1149 hZ hEL CH_1146)
          · skip
            obtain ⟨_, _, ⟨T_1161, L_1161, k_1161, n_1161⟩, -, X_1161, ⟨Lc_1161, hQ_1161, l_1161, y_1161, z_1161⟩, st_1161⟩ := Jvm.LawKit.callS X_1149 hx (y := M257) hown (mvT hZ (w100 hw)) (mvT hZ (w101 hw)) (mvT hZ (w23 hw)) (mvT hZ (w102 hw)) (by decide) (backOf (W := 0) (rm_isdg l Z a0 hw [] G1 G3 HG T_1135.heap n0 O_1148 (own_cc p3) ) hZ (w102 hw) (w23 hw) (by decide) (by decide)) (g := (mkF m 551 #[.val (.int p0), .val (.long p1), .second, .val (.int p2), .val (.int p3), .val (.ref a_9), .val (.int (own_l20 p0)), .val (.long (own_Y p1)), .second, .val (.ref a_523), .val (.int (1 : Int32)), .val (.int (1 : Int32)), .val (.int (own_pl p2 (own_l20 p0))), .val (.int (own_pl p3 (own_l20 p0))), .val (.int (own_cc p2)), .val (.int (own_cc p3)), .val (.long (own_value (((own_ds (own_Y p1) (own_l20 p0)).set (own_pl p2 (own_l20 p0)).toNatClampNeg (own_cc p2)).set (own_pl p3 (own_l20 p0)).toNatClampNeg (own_cc p3)))), .second, .val (.int (0 : Int32)), .unset, .unset, .unset, .unset] [(.int (own_cc p3))])) rfl (by rw [hml]; rfl) (argsL := [(.int (own_cc p3))]) (rest := []) (lenOf pd_374 rfl) rfl (by show 2 * 0 + _ ≤ _; exact Nat.le_of_eq rfl) (hb hby at_551) (fun _ _ => ⟨rfl, e_1153, (by decide : 4 + 0 ≤ _), (by decide : 61 + 0 ≤ _)⟩)
            dsimp only [Pt.U, Pt.locs, Pt.cells, Pt.slots] at X_1161 l_1161 y_1161 z_1161 st_1161 hQ_1161
            have X_1161 := own_cast X_1161 l_1161 y_1161 z_1161
            have C_1162 : Steps p.tables e below S0 (T_1149.setTop (mkF m 551 #[.val (.int p0), .val (.long p1), .second, .val (.int p2), .val (.int p3), .val (.ref a_9), .val (.int (own_l20 p0)), .val (.long (own_Y p1)), .second, .val (.ref a_523), .val (.int (1 : Int32)), .val (.int (1 : Int32)), .val (.int (own_pl p2 (own_l20 p0))), .val (.int (own_pl p3 (own_l20 p0))), .val (.int (own_cc p2)), .val (.int (own_cc p3)), .val (.long (own_value (((own_ds (own_Y p1) (own_l20 p0)).set (own_pl p2 (own_l20 p0)).toNatClampNeg (own_cc p2)).set (own_pl p3 (own_l20 p0)).toNatClampNeg (own_cc p3)))), .second, .val (.int (0 : Int32)), .unset, .unset, .unset, .unset] [(.int (own_cc p3))])) := by
              refine C_1157.trans ?_
              refine XS.icmpNo X_1149.here hx rfl (hb hby at_528) rfl (ii_gt_f hc_1158) ?_
              refine XS.iload X_1149.here hx rfl (hb hby at_531) rfl ?_
              refine XS.ifYes X_1149.here hx rfl (pc0 := 533) (pc' := 544) rfl (hb hby at_533) rfl (by decide) (by decide) (by decide) ?_
              refine XS.iload X_1149.here hx rfl (hb hby at_544) rfl ?_
              refine XS.ifNo X_1149.here hx rfl (hb hby at_546) rfl (by decide) ?_
              refine XS.iload X_1149.here hx rfl (hb hby at_549) rfl ?_
              exact Steps.refl _
            rcases hQ_1161 with hQ_1163 | hQ_1164
            · skip
              obtain ⟨rfl, N_1165, e_1166, g_1167⟩ := hQ_1163
              have N_1168 := Fr.app N_1152 N_1165
              have e_1169 : T_1161.heap = T_1135.heap := e_1166
              have C_1170 : Steps p.tables e below S0 (T_1161.setTop (mkF m 560 #[.val (.int p0), .val (.long p1), .second, .val (.int p2), .val (.int p3), .val (.ref a_9), .val (.int (own_l20 p0)), .val (.long (own_Y p1)), .second, .val (.ref a_523), .val (.int (1 : Int32)), .val (.int (1 : Int32)), .val (.int (own_pl p2 (own_l20 p0))), .val (.int (own_pl p3 (own_l20 p0))), .val (.int (own_cc p2)), .val (.int (own_cc p3)), .val (.long (own_value (((own_ds (own_Y p1) (own_l20 p0)).set (own_pl p2 (own_l20 p0)).toNatClampNeg (own_cc p2)).set (own_pl p3 (own_l20 p0)).toNatClampNeg (own_cc p3)))), .second, .val (.int (0 : Int32)), .unset, .unset, .unset, .unset] [(.int (1 : Int32)), (.int (own_l20 p0))])) := by
                refine C_1162.trans ?_
                refine st_1161 _ ?_
                refine XS.ifNo X_1161.here hx rfl (hb hby at_554) rfl (by decide) ?_
                refine XS.iload X_1161.here hx rfl (hb hby at_557) rfl ?_
                refine XS.iconst X_1161.here hx rfl (hb hby at_559) ?_
                exact Steps.refl _
              by_cases hc_1171 : (1 : Int32) < (own_l20 p0)
              · skip
                have V_1172 : Arv Z T_1135.heap a_523 k_517 .char (own_l20 p0) (own_iv (((own_ds (own_Y p1) (own_l20 p0)).set (own_pl p2 (own_l20 p0)).toNatClampNeg (own_cc p2)).set (own_pl p3 (own_l20 p0)).toNatClampNeg (own_cc p3))) (.int (0 : Int32)) := (V_1133.keep K_1139 (ninS (Nat.ne_of_lt (Nat.lt_of_lt_of_le V_1118.lt (Nat.le_trans (Nat.le_refl _) (Nat.le_of_eq g_1128.symm)))) nin0))
                obtain ⟨c_1173, A_1174, q_1175, S_1176, M_1177, H_1178, U_1179⟩ := id V_1172
                have hin_1180 : ¬ ((0 : Int32) < 0 ∨ c_1173.slots.size ≤ (0 : Int32).toNatClampNeg) := inb_of S_1176 ⟨(by decide : ¬ ((0 : Int32) < (0 : Int32))), hp_512⟩
                have hat_1181 : c_1173.slots[(0 : Int32).toNatClampNeg]? = some (.int (own_gt (((own_ds (own_Y p1) (own_l20 p0)).set (own_pl p2 (own_l20 p0)).toNatClampNeg (own_cc p2)).set (own_pl p3 (own_l20 p0)).toNatClampNeg (own_cc p3)) (0 : Int32))) := Has.at H_1178 hin_1180 (own_iv_at (((own_ds (own_Y p1) (own_l20 p0)).set (own_pl p2 (own_l20 p0)).toNatClampNeg (own_cc p2)).set (own_pl p3 (own_l20 p0)).toNatClampNeg (own_cc p3)) (0 : Int32))
                have C_1182 : Steps p.tables e below S0 (T_1161.setTop (mkF m 569 #[.val (.int p0), .val (.long p1), .second, .val (.int p2), .val (.int p3), .val (.ref a_9), .val (.int (own_l20 p0)), .val (.long (own_Y p1)), .second, .val (.ref a_523), .val (.int (1 : Int32)), .val (.int (1 : Int32)), .val (.int (own_pl p2 (own_l20 p0))), .val (.int (own_pl p3 (own_l20 p0))), .val (.int (own_cc p2)), .val (.int (own_cc p3)), .val (.long (own_value (((own_ds (own_Y p1) (own_l20 p0)).set (own_pl p2 (own_l20 p0)).toNatClampNeg (own_cc p2)).set (own_pl p3 (own_l20 p0)).toNatClampNeg (own_cc p3)))), .second, .val (.int (0 : Int32)), .unset, .unset, .unset, .unset] [(.int (48 : Int32)), (.int (own_gt (((own_ds (own_Y p1) (own_l20 p0)).set (own_pl p2 (own_l20 p0)).toNatClampNeg (own_cc p2)).set (own_pl p3 (own_l20 p0)).toNatClampNeg (own_cc p3)) (0 : Int32)))])) := by
                  refine C_1170.trans ?_
                  refine XS.icmpNo X_1161.here hx rfl (hb hby at_560) rfl (ii_le_f hc_1171) ?_
                  refine XS.aload X_1161.here hx rfl (hb hby at_563) rfl rfl ?_
                  refine XS.iconst X_1161.here hx rfl (hb hby at_565) ?_
                  refine X_1161.caload hx (j := (0 : Int32)) (v := (.int (own_gt (((own_ds (own_Y p1) (own_l20 p0)).set (own_pl p2 (own_l20 p0)).toNatClampNeg (own_cc p2)).set (own_pl p3 (own_l20 p0)).toNatClampNeg (own_cc p3)) (0 : Int32)))) (by rw [e_1169]; exact A_1174.1) (State.isArrayOf_alike hZ.alike A_1174.2.1) A_1174.2.2 hin_1180 hat_1181 (g := (mkF m 566 #[.val (.int p0), .val (.long p1), .second, .val (.int p2), .val (.int p3), .val (.ref a_9), .val (.int (own_l20 p0)), .val (.long (own_Y p1)), .second, .val (.ref a_523), .val (.int (1 : Int32)), .val (.int (1 : Int32)), .val (.int (own_pl p2 (own_l20 p0))), .val (.int (own_pl p3 (own_l20 p0))), .val (.int (own_cc p2)), .val (.int (own_cc p3)), .val (.long (own_value (((own_ds (own_Y p1) (own_l20 p0)).set (own_pl p2 (own_l20 p0)).toNatClampNeg (own_cc p2)).set (own_pl p3 (own_l20 p0)).toNatClampNeg (own_cc p3)))), .second, .val (.int (0 : Int32)), .unset, .unset, .unset, .unset] [(.int (0 : Int32)), (.ref a_523)])) rfl rfl (hb hby at_566) _ ?_
                  refine XS.bipush X_1161.here hx rfl (hb hby at_567) ?_
                  exact Steps.refl _
                by_cases hc_1183 : (own_gt (((own_ds (own_Y p1) (own_l20 p0)).set (own_pl p2 (own_l20 p0)).toNatClampNeg (own_cc p2)).set (own_pl p3 (own_l20 p0)).toNatClampNeg (own_cc p3)) (0 : Int32)) = (48 : Int32)
                · skip
                  have C_1184 : Steps p.tables e below S0 (T_1161.setTop (mkF m 685 #[.val (.int p0), .val (.long p1), .second, .val (.int p2), .val (.int p3), .val (.ref a_9), .val (.int (own_l20 p0)), .val (.long (own_Y p1)), .second, .val (.ref a_523), .val (.int (1 : Int32)), .val (.int (1 : Int32)), .val (.int (own_pl p2 (own_l20 p0))), .val (.int (own_pl p3 (own_l20 p0))), .val (.int (own_cc p2)), .val (.int (own_cc p3)), .val (.long (own_value (((own_ds (own_Y p1) (own_l20 p0)).set (own_pl p2 (own_l20 p0)).toNatClampNeg (own_cc p2)).set (own_pl p3 (own_l20 p0)).toNatClampNeg (own_cc p3)))), .second, .val (.int (0 : Int32)), .val (.long (-1 : Int64)), .second, .unset, .unset] [(.int (1 : Int32))])) := by
                    refine C_1182.trans ?_
                    refine XS.icmpNo X_1161.here hx rfl (hb hby at_569) rfl (ii_ne_f hc_1183) ?_
                    refine X_1161.ldc2J hx hown (mvT hZ (w62 hw)) rfl (hb hby at_572) ?_
                    refine XS.lstore X_1161.here hx rfl (hb hby at_575) rfl (l' := #[.val (.int p0), .val (.long p1), .second, .val (.int p2), .val (.int p3), .val (.ref a_9), .val (.int (own_l20 p0)), .val (.long (own_Y p1)), .second, .val (.ref a_523), .val (.int (1 : Int32)), .val (.int (1 : Int32)), .val (.int (own_pl p2 (own_l20 p0))), .val (.int (own_pl p3 (own_l20 p0))), .val (.int (own_cc p2)), .val (.int (own_cc p3)), .val (.long (own_value (((own_ds (own_Y p1) (own_l20 p0)).set (own_pl p2 (own_l20 p0)).toNatClampNeg (own_cc p2)).set (own_pl p3 (own_l20 p0)).toNatClampNeg (own_cc p3)))), .second, .val (.int (0 : Int32)), .val (.long (-1 : Int64)), .second, .unset, .unset]) rfl ?_
                    refine XS.goto X_1161.here hx rfl (pc0 := 577) (pc' := 672) rfl (hb hby at_577) (by decide) (by decide) ?_
                    refine XS.lload X_1161.here hx rfl (hb hby at_672) rfl ?_
                    refine XS.lload X_1161.here hx rfl (hb hby at_674) rfl ?_
                    refine XS.lcmp X_1161.here hx rfl (hb hby at_676) rfl ?_
                    refine XS.ifNo X_1161.here hx rfl (hb hby at_677) rfl (i0_ne_f ((lw_eq (own_value (((own_ds (own_Y p1) (own_l20 p0)).set (own_pl p2 (own_l20 p0)).toNatClampNeg (own_cc p2)).set (own_pl p3 (own_l20 p0)).toNatClampNeg (own_cc p3))) (-1 : Int64)).mpr (own_vzero (own_setlen (own_setlen (own_dsl _ _))) hc_1171 hc_1183))) ?_
                    show Steps p.tables e below (T_1161.setTop (mkF m 680 #[.val (.int p0), .val (.long p1), .second, .val (.int p2), .val (.int p3), .val (.ref a_9), .val (.int (own_l20 p0)), .val (.long (own_Y p1)), .second, .val (.ref a_523), .val (.int (1 : Int32)), .val (.int (1 : Int32)), .val (.int (own_pl p2 (own_l20 p0))), .val (.int (own_pl p3 (own_l20 p0))), .val (.int (own_cc p2)), .val (.int (own_cc p3)), .val (.long (own_value (((own_ds (own_Y p1) (own_l20 p0)).set (own_pl p2 (own_l20 p0)).toNatClampNeg (own_cc p2)).set (own_pl p3 (own_l20 p0)).toNatClampNeg (own_cc p3)))), .second, .val (.int (0 : Int32)), .val (.long (-1 : Int64)), .second, .unset, .unset] [])) _
                    refine XS.iconst X_1161.here hx rfl (hb hby at_680) ?_
                    refine XS.goto X_1161.here hx rfl (pc0 := 681) (pc' := 685) rfl (hb hby at_681) (by decide) (by decide) ?_
                    exact Steps.refl _
                  have K_1185 : Keep h0 T_1135.heap [] := K_1154
                  obtain ⟨fs, hr, hrun, hended, hRE⟩ := X_1161.leaveW hS0 (by rw [show T_1161.heap = T_1135.heap from e_1169]; exact (Nat.le_trans (Nat.le_refl _) (Nat.le_trans (Nat.le_trans (Nat.le_trans (Nat.le_trans (Nat.le_trans (Nat.le_trans (Nat.le_trans (Nat.le_trans (Nat.le_trans (Nat.le_trans (Nat.le_trans (Nat.le_trans (Nat.le_trans (Nat.le_trans (Nat.le_trans (Nat.le_trans (Nat.le_trans (Nat.le_trans (Nat.le_trans (Nat.le_trans (Nat.le_trans (Nat.le_trans (Nat.le_trans (Nat.le_trans (Nat.le_trans (Nat.le_trans (Nat.le_trans (Nat.le_trans (Nat.le_trans (Nat.le_trans (Nat.le_trans (Nat.le_trans (Nat.le_trans (Nat.le_trans (Nat.le_trans (Nat.le_trans (Nat.le_trans (Nat.le_trans (Nat.le_trans (Nat.le_trans (Nat.le_trans (Nat.le_trans (Nat.le_trans E_6.1 (Keep.of_wr W_26).1) (Keep.of_wr W_44).1) (Keep.of_wr W_62).1) (Keep.of_wr W_80).1) (Keep.of_wr W_98).1) (Keep.of_wr W_116).1) (Keep.of_wr W_134).1) (Keep.of_wr W_152).1) (Keep.of_wr W_171).1) (Keep.of_wr W_189).1) (Keep.of_wr W_207).1) (Keep.of_wr W_225).1) (Keep.of_wr W_243).1) (Keep.of_wr W_261).1) (Keep.of_wr W_279).1) (Keep.of_wr W_297).1) (Keep.of_wr W_315).1) (Keep.of_wr W_334).1) (Keep.of_wr W_352).1) E_520.1) K_534.1) K_543.1) K_552.1) K_561.1) K_570.1) K_580.1) K_589.1) K_598.1) K_607.1) K_616.1) K_625.1) K_634.1) K_644.1) K_653.1) K_662.1) K_671.1) K_680.1) K_689.1) K_698.1) (Keep.of_wr W_1094).1) (Keep.of_wr W_1112).1) E_1123.1) K_1139.1))) (v := some (.int (1 : Int32))) (fun h => by rw [Bd.returns] at h; cases h)
                  refine ⟨_, _, C_1184.trans (retN X_1161 hx (t := .boolean) Bd.returns (by simp) (hb hby at_685) hr), hrun, hended, _, _, rfl, ?_, ?_, hRE.1, hRE.2.1, hRE.2.2.1, hRE.2.2.2.mono (by decide) (by decide)⟩
                  · show Q_law Z G1 G3 p0 p1 p2 p3 h0 n0 (some (.int (1 : Int32))) T_1161.heap _
                    rw [e_1169]
                    exact ⟨rfl, N_1168, K_1185⟩
                  · show CHr Z consts_1 s.vm s.heap T_1161.vm T_1161.heap
                    rw [hh, show T_1161.heap = T_1135.heap from e_1169]
                    exact CR_1147.trans (CHv.at X_1161 hZ hEL CH_1146)
                · skip
                  have V_1186 : Arv Z T_1135.heap a_9 k_3 .long (19 : Int32) (own_jv own_pws) (.long (0 : Int64)) := (((((V_694.keep K_698 (ninS (Nat.ne_of_lt (Nat.lt_of_lt_of_le V_359.lt (Nat.le_trans (Nat.le_refl _) (Nat.le_of_eq g_524.symm)))) nin0)).other W_1094 (Nat.ne_of_lt (Nat.lt_of_lt_of_le V_359.lt (Nat.le_trans (Nat.le_refl _) (Nat.le_of_eq g_524.symm))))).other W_1112 (Nat.ne_of_lt (Nat.lt_of_lt_of_le V_359.lt (Nat.le_trans (Nat.le_refl _) (Nat.le_of_eq g_524.symm))))).ext E_1123).keep K_1139 (ninS (Nat.ne_of_lt (Nat.lt_of_lt_of_le V_359.lt (Nat.le_trans (Nat.le_trans (Nat.le_trans (Nat.le_trans (Nat.le_trans (Nat.le_trans (Nat.le_trans (Nat.le_trans (Nat.le_trans (Nat.le_trans (Nat.le_trans (Nat.le_trans (Nat.le_trans (Nat.le_trans (Nat.le_trans (Nat.le_trans (Nat.le_trans (Nat.le_trans (Nat.le_trans (Nat.le_trans (Nat.le_trans (Nat.le_trans E_520.1 K_534.1) K_543.1) K_552.1) K_561.1) K_570.1) K_580.1) K_589.1) K_598.1) K_607.1) K_616.1) K_625.1) K_634.1) K_644.1) K_653.1) K_662.1) K_671.1) K_680.1) K_689.1) K_698.1) (Keep.of_wr W_1094).1) (Keep.of_wr W_1112).1) (Nat.le_of_eq g_1128.symm)))) nin0))
                  obtain ⟨c_1187, A_1188, q_1189, S_1190, M_1191, H_1192, U_1193⟩ := id V_1186
                  have hin_1194 : ¬ ((own_l20 p0) < 0 ∨ c_1187.slots.size ≤ (own_l20 p0).toNatClampNeg) := inb_of S_1190 ⟨(own_l0 p0), (own_l18 hc_1158).1⟩
                  have hat_1195 : c_1187.slots[(own_l20 p0).toNatClampNeg]? = some (.long (own_gj own_pws (own_l20 p0))) := Has.at H_1192 hin_1194 (own_jv_at own_pws (own_l20 p0))
                  obtain ⟨_, _, ⟨T_1196, L_1196, k_1196, n_1196⟩, -, X_1196, ⟨Lc_1196, hQ_1196, l_1196, y_1196, z_1196⟩, st_1196⟩ := Jvm.LawKit.callS X_1161 hx (y := M216) hown (mvT hZ (w63 hw)) (mvT hZ (w64 hw)) (mvT hZ (w23 hw)) (mvT hZ (w65 hw)) (by decide) (backOf (W := 4) (rm_digit l Z a0 hw [] G1 G3 HG T_1135.heap n0 O_1148 a_9 k_3 (own_Y p1) (own_l20 p0) (own_pl p3 (own_l20 p0)) V_1186 hr_514.1 hr_514.2 (own_l19 p0)) hZ (w65 hw) (w23 hw) (by decide) (by decide)) (g := (mkF m 650 #[.val (.int p0), .val (.long p1), .second, .val (.int p2), .val (.int p3), .val (.ref a_9), .val (.int (own_l20 p0)), .val (.long (own_Y p1)), .second, .val (.ref a_523), .val (.int (1 : Int32)), .val (.int (1 : Int32)), .val (.int (own_pl p2 (own_l20 p0))), .val (.int (own_pl p3 (own_l20 p0))), .val (.int (own_cc p2)), .val (.int (own_cc p3)), .val (.long (own_value (((own_ds (own_Y p1) (own_l20 p0)).set (own_pl p2 (own_l20 p0)).toNatClampNeg (own_cc p2)).set (own_pl p3 (own_l20 p0)).toNatClampNeg (own_cc p3)))), .second, .val (.int (0 : Int32)), .unset, .unset, .val (.long ((own_Y p1) - ((own_Y p1) / (own_gj own_pws (own_l20 p0))) * (own_gj own_pws (own_l20 p0)))), .second] [(.int (own_pl p3 (own_l20 p0))), (.int (own_l20 p0)), (.long (own_Y p1)), (.ref a_9), (.long (((own_cc p3) - (48 : Int32)).toInt64)), (.long ((own_Y p1) - ((own_Y p1) / (own_gj own_pws (own_l20 p0))) * (own_gj own_pws (own_l20 p0))))])) rfl (by rw [hml]; rfl) (argsL := [(.ref a_9), (.long (own_Y p1)), (.int (own_l20 p0)), (.int (own_pl p3 (own_l20 p0)))]) (rest := [(.long (((own_cc p3) - (48 : Int32)).toInt64)), (.long ((own_Y p1) - ((own_Y p1) / (own_gj own_pws (own_l20 p0))) * (own_gj own_pws (own_l20 p0))))]) (lenOf pd_248 rfl) rfl (by show 2 * 0 + _ ≤ _; exact Nat.le_of_eq rfl) (hb hby at_650) (fun _ _ => ⟨rfl, e_1169, (by decide : 4 + 0 ≤ _), (by decide : 61 + 0 ≤ _)⟩)
                  dsimp only [Pt.U, Pt.locs, Pt.cells, Pt.slots] at X_1196 l_1196 y_1196 z_1196 st_1196 hQ_1196
                  have X_1196 := own_cast X_1196 l_1196 y_1196 z_1196
                  obtain ⟨rfl, N_1197, e_1198⟩ := hQ_1196
                  have N_1199 := Fr.app N_1168 N_1197
                  have e_1200 : T_1196.heap = T_1135.heap := e_1198
                  obtain ⟨c_1201, A_1202, q_1203, S_1204, M_1205, H_1206, U_1207⟩ := id V_1186
                  have hin_1208 : ¬ ((((own_l20 p0) - (1 : Int32)) - (own_pl p3 (own_l20 p0))) < 0 ∨ c_1201.slots.size ≤ (((own_l20 p0) - (1 : Int32)) - (own_pl p3 (own_l20 p0))).toNatClampNeg) := inb_of S_1204 ⟨(own_sub_nat hr_514.1 hr_514.2).2.1, (own_lt19 hr_514.1 hr_514.2 (own_l19 p0)).2.1⟩
                  have hat_1209 : c_1201.slots[(((own_l20 p0) - (1 : Int32)) - (own_pl p3 (own_l20 p0))).toNatClampNeg]? = some (.long (own_gj own_pws (((own_l20 p0) - (1 : Int32)) - (own_pl p3 (own_l20 p0))))) := Has.at H_1206 hin_1208 (own_jv_at own_pws (((own_l20 p0) - (1 : Int32)) - (own_pl p3 (own_l20 p0))))
                  have C_1210 : Steps p.tables e below S0 (T_1196.setTop (mkF m 676 #[.val (.int p0), .val (.long p1), .second, .val (.int p2), .val (.int p3), .val (.ref a_9), .val (.int (own_l20 p0)), .val (.long (own_Y p1)), .second, .val (.ref a_523), .val (.int (1 : Int32)), .val (.int (1 : Int32)), .val (.int (own_pl p2 (own_l20 p0))), .val (.int (own_pl p3 (own_l20 p0))), .val (.int (own_cc p2)), .val (.int (own_cc p3)), .val (.long (own_value (((own_ds (own_Y p1) (own_l20 p0)).set (own_pl p2 (own_l20 p0)).toNatClampNeg (own_cc p2)).set (own_pl p3 (own_l20 p0)).toNatClampNeg (own_cc p3)))), .second, .val (.int (0 : Int32)), .val (.long (((own_Y p1) - ((own_Y p1) / (own_gj own_pws (own_l20 p0))) * (own_gj own_pws (own_l20 p0))) + (((((own_cc p3) - (48 : Int32)).toInt64) - (own_dig (own_Y p1) (own_l20 p0) (own_pl p3 (own_l20 p0)))) * (own_gj own_pws (((own_l20 p0) - (1 : Int32)) - (own_pl p3 (own_l20 p0))))))), .second, .val (.long (((own_Y p1) - ((own_Y p1) / (own_gj own_pws (own_l20 p0))) * (own_gj own_pws (own_l20 p0))) + (((((own_cc p3) - (48 : Int32)).toInt64) - (own_dig (own_Y p1) (own_l20 p0) (own_pl p3 (own_l20 p0)))) * (own_gj own_pws (((own_l20 p0) - (1 : Int32)) - (own_pl p3 (own_l20 p0))))))), .second] [(.long (((own_Y p1) - ((own_Y p1) / (own_gj own_pws (own_l20 p0))) * (own_gj own_pws (own_l20 p0))) + (((((own_cc p3) - (48 : Int32)).toInt64) - (own_dig (own_Y p1) (own_l20 p0) (own_pl p3 (own_l20 p0)))) * (own_gj own_pws (((own_l20 p0) - (1 : Int32)) - (own_pl p3 (own_l20 p0))))))), (.long (own_value (((own_ds (own_Y p1) (own_l20 p0)).set (own_pl p2 (own_l20 p0)).toNatClampNeg (own_cc p2)).set (own_pl p3 (own_l20 p0)).toNatClampNeg (own_cc p3))))])) := by
                    refine C_1182.trans ?_
                    refine XS.icmpYes X_1161.here hx rfl (pc0 := 569) (pc' := 580) rfl (hb hby at_569) rfl (ii_ne_t hc_1183) (by decide) (by decide) ?_
                    refine XS.lload X_1161.here hx rfl (hb hby at_580) rfl ?_
                    refine XS.aload X_1161.here hx rfl (hb hby at_582) rfl rfl ?_
                    refine XS.iload X_1161.here hx rfl (hb hby at_584) rfl ?_
                    refine X_1161.laload hx (j := (own_l20 p0)) (v := (.long (own_gj own_pws (own_l20 p0)))) (by rw [e_1169]; exact A_1188.1) (State.isArrayOf_alike hZ.alike A_1188.2.1) A_1188.2.2 hin_1194 hat_1195 (g := (mkF m 586 #[.val (.int p0), .val (.long p1), .second, .val (.int p2), .val (.int p3), .val (.ref a_9), .val (.int (own_l20 p0)), .val (.long (own_Y p1)), .second, .val (.ref a_523), .val (.int (1 : Int32)), .val (.int (1 : Int32)), .val (.int (own_pl p2 (own_l20 p0))), .val (.int (own_pl p3 (own_l20 p0))), .val (.int (own_cc p2)), .val (.int (own_cc p3)), .val (.long (own_value (((own_ds (own_Y p1) (own_l20 p0)).set (own_pl p2 (own_l20 p0)).toNatClampNeg (own_cc p2)).set (own_pl p3 (own_l20 p0)).toNatClampNeg (own_cc p3)))), .second, .val (.int (0 : Int32)), .unset, .unset, .unset, .unset] [(.int (own_l20 p0)), (.ref a_9), (.long (own_Y p1))])) rfl rfl (hb hby at_586) _ ?_
                    refine XS.lrem X_1161.here hx rfl (hb hby at_587) rfl (own_pnz (own_l18 hc_1158).2) ?_
                    refine XS.lstore X_1161.here hx rfl (hb hby at_588) rfl (l' := #[.val (.int p0), .val (.long p1), .second, .val (.int p2), .val (.int p3), .val (.ref a_9), .val (.int (own_l20 p0)), .val (.long (own_Y p1)), .second, .val (.ref a_523), .val (.int (1 : Int32)), .val (.int (1 : Int32)), .val (.int (own_pl p2 (own_l20 p0))), .val (.int (own_pl p3 (own_l20 p0))), .val (.int (own_cc p2)), .val (.int (own_cc p3)), .val (.long (own_value (((own_ds (own_Y p1) (own_l20 p0)).set (own_pl p2 (own_l20 p0)).toNatClampNeg (own_cc p2)).set (own_pl p3 (own_l20 p0)).toNatClampNeg (own_cc p3)))), .second, .val (.int (0 : Int32)), .unset, .unset, .val (.long ((own_Y p1) - ((own_Y p1) / (own_gj own_pws (own_l20 p0))) * (own_gj own_pws (own_l20 p0)))), .second]) rfl ?_
                    refine XS.iload X_1161.here hx rfl (hb hby at_590) rfl ?_
                    show Steps p.tables e below (T_1161.setTop (mkF m 592 #[.val (.int p0), .val (.long p1), .second, .val (.int p2), .val (.int p3), .val (.ref a_9), .val (.int (own_l20 p0)), .val (.long (own_Y p1)), .second, .val (.ref a_523), .val (.int (1 : Int32)), .val (.int (1 : Int32)), .val (.int (own_pl p2 (own_l20 p0))), .val (.int (own_pl p3 (own_l20 p0))), .val (.int (own_cc p2)), .val (.int (own_cc p3)), .val (.long (own_value (((own_ds (own_Y p1) (own_l20 p0)).set (own_pl p2 (own_l20 p0)).toNatClampNeg (own_cc p2)).set (own_pl p3 (own_l20 p0)).toNatClampNeg (own_cc p3)))), .second, .val (.int (0 : Int32)), .unset, .unset, .val (.long ((own_Y p1) - ((own_Y p1) / (own_gj own_pws (own_l20 p0))) * (own_gj own_pws (own_l20 p0)))), .second] [(.int (0 : Int32))])) _
                    refine XS.ifYes X_1161.here hx rfl (pc0 := 592) (pc' := 629) rfl (hb hby at_592) rfl (by decide) (by decide) (by decide) ?_
                    refine XS.iload X_1161.here hx rfl (hb hby at_629) rfl ?_
                    refine XS.ifNo X_1161.here hx rfl (hb hby at_631) rfl (by decide) ?_
                    refine XS.lload X_1161.here hx rfl (hb hby at_634) rfl ?_
                    refine XS.iload X_1161.here hx rfl (hb hby at_636) rfl ?_
                    refine XS.bipush X_1161.here hx rfl (hb hby at_638) ?_
                    refine XS.isub X_1161.here hx rfl (hb hby at_640) rfl ?_
                    refine XS.i2l X_1161.here hx rfl (hb hby at_641) rfl ?_
                    show Steps p.tables e below (T_1161.setTop (mkF m 642 #[.val (.int p0), .val (.long p1), .second, .val (.int p2), .val (.int p3), .val (.ref a_9), .val (.int (own_l20 p0)), .val (.long (own_Y p1)), .second, .val (.ref a_523), .val (.int (1 : Int32)), .val (.int (1 : Int32)), .val (.int (own_pl p2 (own_l20 p0))), .val (.int (own_pl p3 (own_l20 p0))), .val (.int (own_cc p2)), .val (.int (own_cc p3)), .val (.long (own_value (((own_ds (own_Y p1) (own_l20 p0)).set (own_pl p2 (own_l20 p0)).toNatClampNeg (own_cc p2)).set (own_pl p3 (own_l20 p0)).toNatClampNeg (own_cc p3)))), .second, .val (.int (0 : Int32)), .unset, .unset, .val (.long ((own_Y p1) - ((own_Y p1) / (own_gj own_pws (own_l20 p0))) * (own_gj own_pws (own_l20 p0)))), .second] [(.long (((own_cc p3) - (48 : Int32)).toInt64)), (.long ((own_Y p1) - ((own_Y p1) / (own_gj own_pws (own_l20 p0))) * (own_gj own_pws (own_l20 p0))))])) _
                    refine XS.aload X_1161.here hx rfl (hb hby at_642) rfl rfl ?_
                    refine XS.lload X_1161.here hx rfl (hb hby at_644) rfl ?_
                    refine XS.iload X_1161.here hx rfl (hb hby at_646) rfl ?_
                    refine XS.iload X_1161.here hx rfl (hb hby at_648) rfl ?_
                    refine st_1196 _ ?_
                    refine XS.lsub X_1196.here hx rfl (hb hby at_653) rfl ?_
                    refine XS.aload X_1196.here hx rfl (hb hby at_654) rfl rfl ?_
                    refine XS.iload X_1196.here hx rfl (hb hby at_656) rfl ?_
                    show Steps p.tables e below (T_1196.setTop (mkF m 658 #[.val (.int p0), .val (.long p1), .second, .val (.int p2), .val (.int p3), .val (.ref a_9), .val (.int (own_l20 p0)), .val (.long (own_Y p1)), .second, .val (.ref a_523), .val (.int (1 : Int32)), .val (.int (1 : Int32)), .val (.int (own_pl p2 (own_l20 p0))), .val (.int (own_pl p3 (own_l20 p0))), .val (.int (own_cc p2)), .val (.int (own_cc p3)), .val (.long (own_value (((own_ds (own_Y p1) (own_l20 p0)).set (own_pl p2 (own_l20 p0)).toNatClampNeg (own_cc p2)).set (own_pl p3 (own_l20 p0)).toNatClampNeg (own_cc p3)))), .second, .val (.int (0 : Int32)), .unset, .unset, .val (.long ((own_Y p1) - ((own_Y p1) / (own_gj own_pws (own_l20 p0))) * (own_gj own_pws (own_l20 p0)))), .second] [(.int (own_l20 p0)), (.ref a_9), (.long ((((own_cc p3) - (48 : Int32)).toInt64) - (own_dig (own_Y p1) (own_l20 p0) (own_pl p3 (own_l20 p0))))), (.long ((own_Y p1) - ((own_Y p1) / (own_gj own_pws (own_l20 p0))) * (own_gj own_pws (own_l20 p0))))])) _
                    refine XS.iconst X_1196.here hx rfl (hb hby at_658) ?_
                    refine XS.isub X_1196.here hx rfl (hb hby at_659) rfl ?_
                    refine XS.iload X_1196.here hx rfl (hb hby at_660) rfl ?_
                    refine XS.isub X_1196.here hx rfl (hb hby at_662) rfl ?_
                    refine X_1196.laload hx (j := (((own_l20 p0) - (1 : Int32)) - (own_pl p3 (own_l20 p0)))) (v := (.long (own_gj own_pws (((own_l20 p0) - (1 : Int32)) - (own_pl p3 (own_l20 p0)))))) (by rw [e_1200]; exact A_1202.1) (State.isArrayOf_alike hZ.alike A_1202.2.1) A_1202.2.2 hin_1208 hat_1209 (g := (mkF m 663 #[.val (.int p0), .val (.long p1), .second, .val (.int p2), .val (.int p3), .val (.ref a_9), .val (.int (own_l20 p0)), .val (.long (own_Y p1)), .second, .val (.ref a_523), .val (.int (1 : Int32)), .val (.int (1 : Int32)), .val (.int (own_pl p2 (own_l20 p0))), .val (.int (own_pl p3 (own_l20 p0))), .val (.int (own_cc p2)), .val (.int (own_cc p3)), .val (.long (own_value (((own_ds (own_Y p1) (own_l20 p0)).set (own_pl p2 (own_l20 p0)).toNatClampNeg (own_cc p2)).set (own_pl p3 (own_l20 p0)).toNatClampNeg (own_cc p3)))), .second, .val (.int (0 : Int32)), .unset, .unset, .val (.long ((own_Y p1) - ((own_Y p1) / (own_gj own_pws (own_l20 p0))) * (own_gj own_pws (own_l20 p0)))), .second] [(.int (((own_l20 p0) - (1 : Int32)) - (own_pl p3 (own_l20 p0)))), (.ref a_9), (.long ((((own_cc p3) - (48 : Int32)).toInt64) - (own_dig (own_Y p1) (own_l20 p0) (own_pl p3 (own_l20 p0))))), (.long ((own_Y p1) - ((own_Y p1) / (own_gj own_pws (own_l20 p0))) * (own_gj own_pws (own_l20 p0))))])) rfl rfl (hb hby at_663) _ ?_
                    refine XS.lmul X_1196.here hx rfl (hb hby at_664) rfl ?_
                    refine XS.ladd X_1196.here hx rfl (hb hby at_665) rfl ?_
                    refine XS.lstore X_1196.here hx rfl (hb hby at_666) rfl (l' := #[.val (.int p0), .val (.long p1), .second, .val (.int p2), .val (.int p3), .val (.ref a_9), .val (.int (own_l20 p0)), .val (.long (own_Y p1)), .second, .val (.ref a_523), .val (.int (1 : Int32)), .val (.int (1 : Int32)), .val (.int (own_pl p2 (own_l20 p0))), .val (.int (own_pl p3 (own_l20 p0))), .val (.int (own_cc p2)), .val (.int (own_cc p3)), .val (.long (own_value (((own_ds (own_Y p1) (own_l20 p0)).set (own_pl p2 (own_l20 p0)).toNatClampNeg (own_cc p2)).set (own_pl p3 (own_l20 p0)).toNatClampNeg (own_cc p3)))), .second, .val (.int (0 : Int32)), .unset, .unset, .val (.long (((own_Y p1) - ((own_Y p1) / (own_gj own_pws (own_l20 p0))) * (own_gj own_pws (own_l20 p0))) + (((((own_cc p3) - (48 : Int32)).toInt64) - (own_dig (own_Y p1) (own_l20 p0) (own_pl p3 (own_l20 p0)))) * (own_gj own_pws (((own_l20 p0) - (1 : Int32)) - (own_pl p3 (own_l20 p0))))))), .second]) rfl ?_
                    show Steps p.tables e below (T_1196.setTop (mkF m 668 #[.val (.int p0), .val (.long p1), .second, .val (.int p2), .val (.int p3), .val (.ref a_9), .val (.int (own_l20 p0)), .val (.long (own_Y p1)), .second, .val (.ref a_523), .val (.int (1 : Int32)), .val (.int (1 : Int32)), .val (.int (own_pl p2 (own_l20 p0))), .val (.int (own_pl p3 (own_l20 p0))), .val (.int (own_cc p2)), .val (.int (own_cc p3)), .val (.long (own_value (((own_ds (own_Y p1) (own_l20 p0)).set (own_pl p2 (own_l20 p0)).toNatClampNeg (own_cc p2)).set (own_pl p3 (own_l20 p0)).toNatClampNeg (own_cc p3)))), .second, .val (.int (0 : Int32)), .unset, .unset, .val (.long (((own_Y p1) - ((own_Y p1) / (own_gj own_pws (own_l20 p0))) * (own_gj own_pws (own_l20 p0))) + (((((own_cc p3) - (48 : Int32)).toInt64) - (own_dig (own_Y p1) (own_l20 p0) (own_pl p3 (own_l20 p0)))) * (own_gj own_pws (((own_l20 p0) - (1 : Int32)) - (own_pl p3 (own_l20 p0))))))), .second] [])) _
                    refine XS.lload X_1196.here hx rfl (hb hby at_668) rfl ?_
                    refine XS.lstore X_1196.here hx rfl (hb hby at_670) rfl (l' := #[.val (.int p0), .val (.long p1), .second, .val (.int p2), .val (.int p3), .val (.ref a_9), .val (.int (own_l20 p0)), .val (.long (own_Y p1)), .second, .val (.ref a_523), .val (.int (1 : Int32)), .val (.int (1 : Int32)), .val (.int (own_pl p2 (own_l20 p0))), .val (.int (own_pl p3 (own_l20 p0))), .val (.int (own_cc p2)), .val (.int (own_cc p3)), .val (.long (own_value (((own_ds (own_Y p1) (own_l20 p0)).set (own_pl p2 (own_l20 p0)).toNatClampNeg (own_cc p2)).set (own_pl p3 (own_l20 p0)).toNatClampNeg (own_cc p3)))), .second, .val (.int (0 : Int32)), .val (.long (((own_Y p1) - ((own_Y p1) / (own_gj own_pws (own_l20 p0))) * (own_gj own_pws (own_l20 p0))) + (((((own_cc p3) - (48 : Int32)).toInt64) - (own_dig (own_Y p1) (own_l20 p0) (own_pl p3 (own_l20 p0)))) * (own_gj own_pws (((own_l20 p0) - (1 : Int32)) - (own_pl p3 (own_l20 p0))))))), .second, .val (.long (((own_Y p1) - ((own_Y p1) / (own_gj own_pws (own_l20 p0))) * (own_gj own_pws (own_l20 p0))) + (((((own_cc p3) - (48 : Int32)).toInt64) - (own_dig (own_Y p1) (own_l20 p0) (own_pl p3 (own_l20 p0)))) * (own_gj own_pws (((own_l20 p0) - (1 : Int32)) - (own_pl p3 (own_l20 p0))))))), .second]) rfl ?_
                    refine XS.lload X_1196.here hx rfl (hb hby at_672) rfl ?_
                    refine XS.lload X_1196.here hx rfl (hb hby at_674) rfl ?_
                    exact Steps.refl _
                  have C_1211 : Steps p.tables e below S0 (T_1196.setTop (mkF m 685 #[.val (.int p0), .val (.long p1), .second, .val (.int p2), .val (.int p3), .val (.ref a_9), .val (.int (own_l20 p0)), .val (.long (own_Y p1)), .second, .val (.ref a_523), .val (.int (1 : Int32)), .val (.int (1 : Int32)), .val (.int (own_pl p2 (own_l20 p0))), .val (.int (own_pl p3 (own_l20 p0))), .val (.int (own_cc p2)), .val (.int (own_cc p3)), .val (.long (own_value (((own_ds (own_Y p1) (own_l20 p0)).set (own_pl p2 (own_l20 p0)).toNatClampNeg (own_cc p2)).set (own_pl p3 (own_l20 p0)).toNatClampNeg (own_cc p3)))), .second, .val (.int (0 : Int32)), .val (.long (((own_Y p1) - ((own_Y p1) / (own_gj own_pws (own_l20 p0))) * (own_gj own_pws (own_l20 p0))) + (((((own_cc p3) - (48 : Int32)).toInt64) - (own_dig (own_Y p1) (own_l20 p0) (own_pl p3 (own_l20 p0)))) * (own_gj own_pws (((own_l20 p0) - (1 : Int32)) - (own_pl p3 (own_l20 p0))))))), .second, .val (.long (((own_Y p1) - ((own_Y p1) / (own_gj own_pws (own_l20 p0))) * (own_gj own_pws (own_l20 p0))) + (((((own_cc p3) - (48 : Int32)).toInt64) - (own_dig (own_Y p1) (own_l20 p0) (own_pl p3 (own_l20 p0)))) * (own_gj own_pws (((own_l20 p0) - (1 : Int32)) - (own_pl p3 (own_l20 p0))))))), .second] [(.int (1 : Int32))])) := by
                    refine C_1210.trans ?_
                    refine XS.lcmp X_1196.here hx rfl (hb hby at_676) rfl ?_
                    refine XS.ifNo X_1196.here hx rfl (hb hby at_677) rfl (i0_ne_f ((lw_eq (own_value (((own_ds (own_Y p1) (own_l20 p0)).set (own_pl p2 (own_l20 p0)).toNatClampNeg (own_cc p2)).set (own_pl p3 (own_l20 p0)).toNatClampNeg (own_cc p3))) (((own_Y p1) - ((own_Y p1) / (own_gj own_pws (own_l20 p0))) * (own_gj own_pws (own_l20 p0))) + (((((own_cc p3) - (48 : Int32)).toInt64) - (own_dig (own_Y p1) (own_l20 p0) (own_pl p3 (own_l20 p0)))) * (own_gj own_pws (((own_l20 p0) - (1 : Int32)) - (own_pl p3 (own_l20 p0))))))).mpr (own_F3 (own_Y0 p1) hp_512 hc_1158 hr_514.1 hr_514.2 g_1167 hc_1156 (Or.inr hc_1183)))) ?_
                    refine XS.iconst X_1196.here hx rfl (hb hby at_680) ?_
                    refine XS.goto X_1196.here hx rfl (pc0 := 681) (pc' := 685) rfl (hb hby at_681) (by decide) (by decide) ?_
                    exact Steps.refl _
                  have K_1212 : Keep h0 T_1135.heap [] := K_1154
                  obtain ⟨fs, hr, hrun, hended, hRE⟩ := X_1196.leaveW hS0 (by rw [show T_1196.heap = T_1135.heap from e_1200]; exact (Nat.le_trans (Nat.le_refl _) (Nat.le_trans (Nat.le_trans (Nat.le_trans (Nat.le_trans (Nat.le_trans (Nat.le_trans (Nat.le_trans (Nat.le_trans (Nat.le_trans (Nat.le_trans (Nat.le_trans (Nat.le_trans (Nat.le_trans (Nat.le_trans (Nat.le_trans (Nat.le_trans (Nat.le_trans (Nat.le_trans (Nat.le_trans (Nat.le_trans (Nat.le_trans (Nat.le_trans (Nat.le_trans (Nat.le_trans (Nat.le_trans (Nat.le_trans (Nat.le_trans (Nat.le_trans (Nat.le_trans (Nat.le_trans (Nat.le_trans (Nat.le_trans (Nat.le_trans (Nat.le_trans (Nat.le_trans (Nat.le_trans (Nat.le_trans (Nat.le_trans (Nat.le_trans (Nat.le_trans (Nat.le_trans (Nat.le_trans (Nat.le_trans E_6.1 (Keep.of_wr W_26).1) (Keep.of_wr W_44).1) (Keep.of_wr W_62).1) (Keep.of_wr W_80).1) (Keep.of_wr W_98).1) (Keep.of_wr W_116).1) (Keep.of_wr W_134).1) (Keep.of_wr W_152).1) (Keep.of_wr W_171).1) (Keep.of_wr W_189).1) (Keep.of_wr W_207).1) (Keep.of_wr W_225).1) (Keep.of_wr W_243).1) (Keep.of_wr W_261).1) (Keep.of_wr W_279).1) (Keep.of_wr W_297).1) (Keep.of_wr W_315).1) (Keep.of_wr W_334).1) (Keep.of_wr W_352).1) E_520.1) K_534.1) K_543.1) K_552.1) K_561.1) K_570.1) K_580.1) K_589.1) K_598.1) K_607.1) K_616.1) K_625.1) K_634.1) K_644.1) K_653.1) K_662.1) K_671.1) K_680.1) K_689.1) K_698.1) (Keep.of_wr W_1094).1) (Keep.of_wr W_1112).1) E_1123.1) K_1139.1))) (v := some (.int (1 : Int32))) (fun h => by rw [Bd.returns] at h; cases h)
                  refine ⟨_, _, C_1211.trans (retN X_1196 hx (t := .boolean) Bd.returns (by simp) (hb hby at_685) hr), hrun, hended, _, _, rfl, ?_, ?_, hRE.1, hRE.2.1, hRE.2.2.1, hRE.2.2.2.mono (by decide) (by decide)⟩
                  · show Q_law Z G1 G3 p0 p1 p2 p3 h0 n0 (some (.int (1 : Int32))) T_1196.heap _
                    rw [e_1200]
                    exact ⟨rfl, N_1199, K_1212⟩
                  · show CHr Z consts_1 s.vm s.heap T_1196.vm T_1196.heap
                    rw [hh, show T_1196.heap = T_1135.heap from e_1200]
                    exact CR_1147.trans (CHv.at X_1196 hZ hEL CH_1146)
              · skip
                have V_1213 : Arv Z T_1135.heap a_9 k_3 .long (19 : Int32) (own_jv own_pws) (.long (0 : Int64)) := (((((V_694.keep K_698 (ninS (Nat.ne_of_lt (Nat.lt_of_lt_of_le V_359.lt (Nat.le_trans (Nat.le_refl _) (Nat.le_of_eq g_524.symm)))) nin0)).other W_1094 (Nat.ne_of_lt (Nat.lt_of_lt_of_le V_359.lt (Nat.le_trans (Nat.le_refl _) (Nat.le_of_eq g_524.symm))))).other W_1112 (Nat.ne_of_lt (Nat.lt_of_lt_of_le V_359.lt (Nat.le_trans (Nat.le_refl _) (Nat.le_of_eq g_524.symm))))).ext E_1123).keep K_1139 (ninS (Nat.ne_of_lt (Nat.lt_of_lt_of_le V_359.lt (Nat.le_trans (Nat.le_trans (Nat.le_trans (Nat.le_trans (Nat.le_trans (Nat.le_trans (Nat.le_trans (Nat.le_trans (Nat.le_trans (Nat.le_trans (Nat.le_trans (Nat.le_trans (Nat.le_trans (Nat.le_trans (Nat.le_trans (Nat.le_trans (Nat.le_trans (Nat.le_trans (Nat.le_trans (Nat.le_trans (Nat.le_trans (Nat.le_trans E_520.1 K_534.1) K_543.1) K_552.1) K_561.1) K_570.1) K_580.1) K_589.1) K_598.1) K_607.1) K_616.1) K_625.1) K_634.1) K_644.1) K_653.1) K_662.1) K_671.1) K_680.1) K_689.1) K_698.1) (Keep.of_wr W_1094).1) (Keep.of_wr W_1112).1) (Nat.le_of_eq g_1128.symm)))) nin0))
                obtain ⟨c_1214, A_1215, q_1216, S_1217, M_1218, H_1219, U_1220⟩ := id V_1213
                have hin_1221 : ¬ ((own_l20 p0) < 0 ∨ c_1214.slots.size ≤ (own_l20 p0).toNatClampNeg) := inb_of S_1217 ⟨(own_l0 p0), (own_l18 hc_1158).1⟩
                have hat_1222 : c_1214.slots[(own_l20 p0).toNatClampNeg]? = some (.long (own_gj own_pws (own_l20 p0))) := Has.at H_1219 hin_1221 (own_jv_at own_pws (own_l20 p0))
                obtain ⟨_, _, ⟨T_1223, L_1223, k_1223, n_1223⟩, -, X_1223, ⟨Lc_1223, hQ_1223, l_1223, y_1223, z_1223⟩, st_1223⟩ := Jvm.LawKit.callS X_1161 hx (y := M216) hown (mvT hZ (w63 hw)) (mvT hZ (w64 hw)) (mvT hZ (w23 hw)) (mvT hZ (w65 hw)) (by decide) (backOf (W := 4) (rm_digit l Z a0 hw [] G1 G3 HG T_1135.heap n0 O_1148 a_9 k_3 (own_Y p1) (own_l20 p0) (own_pl p3 (own_l20 p0)) V_1213 hr_514.1 hr_514.2 (own_l19 p0)) hZ (w65 hw) (w23 hw) (by decide) (by decide)) (g := (mkF m 650 #[.val (.int p0), .val (.long p1), .second, .val (.int p2), .val (.int p3), .val (.ref a_9), .val (.int (own_l20 p0)), .val (.long (own_Y p1)), .second, .val (.ref a_523), .val (.int (1 : Int32)), .val (.int (1 : Int32)), .val (.int (own_pl p2 (own_l20 p0))), .val (.int (own_pl p3 (own_l20 p0))), .val (.int (own_cc p2)), .val (.int (own_cc p3)), .val (.long (own_value (((own_ds (own_Y p1) (own_l20 p0)).set (own_pl p2 (own_l20 p0)).toNatClampNeg (own_cc p2)).set (own_pl p3 (own_l20 p0)).toNatClampNeg (own_cc p3)))), .second, .val (.int (0 : Int32)), .unset, .unset, .val (.long ((own_Y p1) - ((own_Y p1) / (own_gj own_pws (own_l20 p0))) * (own_gj own_pws (own_l20 p0)))), .second] [(.int (own_pl p3 (own_l20 p0))), (.int (own_l20 p0)), (.long (own_Y p1)), (.ref a_9), (.long (((own_cc p3) - (48 : Int32)).toInt64)), (.long ((own_Y p1) - ((own_Y p1) / (own_gj own_pws (own_l20 p0))) * (own_gj own_pws (own_l20 p0))))])) rfl (by rw [hml]; rfl) (argsL := [(.ref a_9), (.long (own_Y p1)), (.int (own_l20 p0)), (.int (own_pl p3 (own_l20 p0)))]) (rest := [(.long (((own_cc p3) - (48 : Int32)).toInt64)), (.long ((own_Y p1) - ((own_Y p1) / (own_gj own_pws (own_l20 p0))) * (own_gj own_pws (own_l20 p0))))]) (lenOf pd_248 rfl) rfl (by show 2 * 0 + _ ≤ _; exact Nat.le_of_eq rfl) (hb hby at_650) (fun _ _ => ⟨rfl, e_1169, (by decide : 4 + 0 ≤ _), (by decide : 61 + 0 ≤ _)⟩)
                dsimp only [Pt.U, Pt.locs, Pt.cells, Pt.slots] at X_1223 l_1223 y_1223 z_1223 st_1223 hQ_1223
                have X_1223 := own_cast X_1223 l_1223 y_1223 z_1223
                obtain ⟨rfl, N_1224, e_1225⟩ := hQ_1223
                have N_1226 := Fr.app N_1168 N_1224
                have e_1227 : T_1223.heap = T_1135.heap := e_1225
                obtain ⟨c_1228, A_1229, q_1230, S_1231, M_1232, H_1233, U_1234⟩ := id V_1213
                have hin_1235 : ¬ ((((own_l20 p0) - (1 : Int32)) - (own_pl p3 (own_l20 p0))) < 0 ∨ c_1228.slots.size ≤ (((own_l20 p0) - (1 : Int32)) - (own_pl p3 (own_l20 p0))).toNatClampNeg) := inb_of S_1231 ⟨(own_sub_nat hr_514.1 hr_514.2).2.1, (own_lt19 hr_514.1 hr_514.2 (own_l19 p0)).2.1⟩
                have hat_1236 : c_1228.slots[(((own_l20 p0) - (1 : Int32)) - (own_pl p3 (own_l20 p0))).toNatClampNeg]? = some (.long (own_gj own_pws (((own_l20 p0) - (1 : Int32)) - (own_pl p3 (own_l20 p0))))) := Has.at H_1233 hin_1235 (own_jv_at own_pws (((own_l20 p0) - (1 : Int32)) - (own_pl p3 (own_l20 p0))))
                have C_1237 : Steps p.tables e below S0 (T_1223.setTop (mkF m 676 #[.val (.int p0), .val (.long p1), .second, .val (.int p2), .val (.int p3), .val (.ref a_9), .val (.int (own_l20 p0)), .val (.long (own_Y p1)), .second, .val (.ref a_523), .val (.int (1 : Int32)), .val (.int (1 : Int32)), .val (.int (own_pl p2 (own_l20 p0))), .val (.int (own_pl p3 (own_l20 p0))), .val (.int (own_cc p2)), .val (.int (own_cc p3)), .val (.long (own_value (((own_ds (own_Y p1) (own_l20 p0)).set (own_pl p2 (own_l20 p0)).toNatClampNeg (own_cc p2)).set (own_pl p3 (own_l20 p0)).toNatClampNeg (own_cc p3)))), .second, .val (.int (0 : Int32)), .val (.long (((own_Y p1) - ((own_Y p1) / (own_gj own_pws (own_l20 p0))) * (own_gj own_pws (own_l20 p0))) + (((((own_cc p3) - (48 : Int32)).toInt64) - (own_dig (own_Y p1) (own_l20 p0) (own_pl p3 (own_l20 p0)))) * (own_gj own_pws (((own_l20 p0) - (1 : Int32)) - (own_pl p3 (own_l20 p0))))))), .second, .val (.long (((own_Y p1) - ((own_Y p1) / (own_gj own_pws (own_l20 p0))) * (own_gj own_pws (own_l20 p0))) + (((((own_cc p3) - (48 : Int32)).toInt64) - (own_dig (own_Y p1) (own_l20 p0) (own_pl p3 (own_l20 p0)))) * (own_gj own_pws (((own_l20 p0) - (1 : Int32)) - (own_pl p3 (own_l20 p0))))))), .second] [(.long (((own_Y p1) - ((own_Y p1) / (own_gj own_pws (own_l20 p0))) * (own_gj own_pws (own_l20 p0))) + (((((own_cc p3) - (48 : Int32)).toInt64) - (own_dig (own_Y p1) (own_l20 p0) (own_pl p3 (own_l20 p0)))) * (own_gj own_pws (((own_l20 p0) - (1 : Int32)) - (own_pl p3 (own_l20 p0))))))), (.long (own_value (((own_ds (own_Y p1) (own_l20 p0)).set (own_pl p2 (own_l20 p0)).toNatClampNeg (own_cc p2)).set (own_pl p3 (own_l20 p0)).toNatClampNeg (own_cc p3))))])) := by
                  refine C_1170.trans ?_
                  refine XS.icmpYes X_1161.here hx rfl (pc0 := 560) (pc' := 580) rfl (hb hby at_560) rfl (ii_le_t hc_1171) (by decide) (by decide) ?_
                  refine XS.lload X_1161.here hx rfl (hb hby at_580) rfl ?_
                  refine XS.aload X_1161.here hx rfl (hb hby at_582) rfl rfl ?_
                  refine XS.iload X_1161.here hx rfl (hb hby at_584) rfl ?_
                  refine X_1161.laload hx (j := (own_l20 p0)) (v := (.long (own_gj own_pws (own_l20 p0)))) (by rw [e_1169]; exact A_1215.1) (State.isArrayOf_alike hZ.alike A_1215.2.1) A_1215.2.2 hin_1221 hat_1222 (g := (mkF m 586 #[.val (.int p0), .val (.long p1), .second, .val (.int p2), .val (.int p3), .val (.ref a_9), .val (.int (own_l20 p0)), .val (.long (own_Y p1)), .second, .val (.ref a_523), .val (.int (1 : Int32)), .val (.int (1 : Int32)), .val (.int (own_pl p2 (own_l20 p0))), .val (.int (own_pl p3 (own_l20 p0))), .val (.int (own_cc p2)), .val (.int (own_cc p3)), .val (.long (own_value (((own_ds (own_Y p1) (own_l20 p0)).set (own_pl p2 (own_l20 p0)).toNatClampNeg (own_cc p2)).set (own_pl p3 (own_l20 p0)).toNatClampNeg (own_cc p3)))), .second, .val (.int (0 : Int32)), .unset, .unset, .unset, .unset] [(.int (own_l20 p0)), (.ref a_9), (.long (own_Y p1))])) rfl rfl (hb hby at_586) _ ?_
                  refine XS.lrem X_1161.here hx rfl (hb hby at_587) rfl (own_pnz (own_l18 hc_1158).2) ?_
                  refine XS.lstore X_1161.here hx rfl (hb hby at_588) rfl (l' := #[.val (.int p0), .val (.long p1), .second, .val (.int p2), .val (.int p3), .val (.ref a_9), .val (.int (own_l20 p0)), .val (.long (own_Y p1)), .second, .val (.ref a_523), .val (.int (1 : Int32)), .val (.int (1 : Int32)), .val (.int (own_pl p2 (own_l20 p0))), .val (.int (own_pl p3 (own_l20 p0))), .val (.int (own_cc p2)), .val (.int (own_cc p3)), .val (.long (own_value (((own_ds (own_Y p1) (own_l20 p0)).set (own_pl p2 (own_l20 p0)).toNatClampNeg (own_cc p2)).set (own_pl p3 (own_l20 p0)).toNatClampNeg (own_cc p3)))), .second, .val (.int (0 : Int32)), .unset, .unset, .val (.long ((own_Y p1) - ((own_Y p1) / (own_gj own_pws (own_l20 p0))) * (own_gj own_pws (own_l20 p0)))), .second]) rfl ?_
                  refine XS.iload X_1161.here hx rfl (hb hby at_590) rfl ?_
                  show Steps p.tables e below (T_1161.setTop (mkF m 592 #[.val (.int p0), .val (.long p1), .second, .val (.int p2), .val (.int p3), .val (.ref a_9), .val (.int (own_l20 p0)), .val (.long (own_Y p1)), .second, .val (.ref a_523), .val (.int (1 : Int32)), .val (.int (1 : Int32)), .val (.int (own_pl p2 (own_l20 p0))), .val (.int (own_pl p3 (own_l20 p0))), .val (.int (own_cc p2)), .val (.int (own_cc p3)), .val (.long (own_value (((own_ds (own_Y p1) (own_l20 p0)).set (own_pl p2 (own_l20 p0)).toNatClampNeg (own_cc p2)).set (own_pl p3 (own_l20 p0)).toNatClampNeg (own_cc p3)))), .second, .val (.int (0 : Int32)), .unset, .unset, .val (.long ((own_Y p1) - ((own_Y p1) / (own_gj own_pws (own_l20 p0))) * (own_gj own_pws (own_l20 p0)))), .second] [(.int (0 : Int32))])) _
                  refine XS.ifYes X_1161.here hx rfl (pc0 := 592) (pc' := 629) rfl (hb hby at_592) rfl (by decide) (by decide) (by decide) ?_
                  refine XS.iload X_1161.here hx rfl (hb hby at_629) rfl ?_
                  refine XS.ifNo X_1161.here hx rfl (hb hby at_631) rfl (by decide) ?_
                  refine XS.lload X_1161.here hx rfl (hb hby at_634) rfl ?_
                  refine XS.iload X_1161.here hx rfl (hb hby at_636) rfl ?_
                  refine XS.bipush X_1161.here hx rfl (hb hby at_638) ?_
                  refine XS.isub X_1161.here hx rfl (hb hby at_640) rfl ?_
                  refine XS.i2l X_1161.here hx rfl (hb hby at_641) rfl ?_
                  show Steps p.tables e below (T_1161.setTop (mkF m 642 #[.val (.int p0), .val (.long p1), .second, .val (.int p2), .val (.int p3), .val (.ref a_9), .val (.int (own_l20 p0)), .val (.long (own_Y p1)), .second, .val (.ref a_523), .val (.int (1 : Int32)), .val (.int (1 : Int32)), .val (.int (own_pl p2 (own_l20 p0))), .val (.int (own_pl p3 (own_l20 p0))), .val (.int (own_cc p2)), .val (.int (own_cc p3)), .val (.long (own_value (((own_ds (own_Y p1) (own_l20 p0)).set (own_pl p2 (own_l20 p0)).toNatClampNeg (own_cc p2)).set (own_pl p3 (own_l20 p0)).toNatClampNeg (own_cc p3)))), .second, .val (.int (0 : Int32)), .unset, .unset, .val (.long ((own_Y p1) - ((own_Y p1) / (own_gj own_pws (own_l20 p0))) * (own_gj own_pws (own_l20 p0)))), .second] [(.long (((own_cc p3) - (48 : Int32)).toInt64)), (.long ((own_Y p1) - ((own_Y p1) / (own_gj own_pws (own_l20 p0))) * (own_gj own_pws (own_l20 p0))))])) _
                  refine XS.aload X_1161.here hx rfl (hb hby at_642) rfl rfl ?_
                  refine XS.lload X_1161.here hx rfl (hb hby at_644) rfl ?_
                  refine XS.iload X_1161.here hx rfl (hb hby at_646) rfl ?_
                  refine XS.iload X_1161.here hx rfl (hb hby at_648) rfl ?_
                  refine st_1223 _ ?_
                  refine XS.lsub X_1223.here hx rfl (hb hby at_653) rfl ?_
                  refine XS.aload X_1223.here hx rfl (hb hby at_654) rfl rfl ?_
                  refine XS.iload X_1223.here hx rfl (hb hby at_656) rfl ?_
                  show Steps p.tables e below (T_1223.setTop (mkF m 658 #[.val (.int p0), .val (.long p1), .second, .val (.int p2), .val (.int p3), .val (.ref a_9), .val (.int (own_l20 p0)), .val (.long (own_Y p1)), .second, .val (.ref a_523), .val (.int (1 : Int32)), .val (.int (1 : Int32)), .val (.int (own_pl p2 (own_l20 p0))), .val (.int (own_pl p3 (own_l20 p0))), .val (.int (own_cc p2)), .val (.int (own_cc p3)), .val (.long (own_value (((own_ds (own_Y p1) (own_l20 p0)).set (own_pl p2 (own_l20 p0)).toNatClampNeg (own_cc p2)).set (own_pl p3 (own_l20 p0)).toNatClampNeg (own_cc p3)))), .second, .val (.int (0 : Int32)), .unset, .unset, .val (.long ((own_Y p1) - ((own_Y p1) / (own_gj own_pws (own_l20 p0))) * (own_gj own_pws (own_l20 p0)))), .second] [(.int (own_l20 p0)), (.ref a_9), (.long ((((own_cc p3) - (48 : Int32)).toInt64) - (own_dig (own_Y p1) (own_l20 p0) (own_pl p3 (own_l20 p0))))), (.long ((own_Y p1) - ((own_Y p1) / (own_gj own_pws (own_l20 p0))) * (own_gj own_pws (own_l20 p0))))])) _
                  refine XS.iconst X_1223.here hx rfl (hb hby at_658) ?_
                  refine XS.isub X_1223.here hx rfl (hb hby at_659) rfl ?_
                  refine XS.iload X_1223.here hx rfl (hb hby at_660) rfl ?_
                  refine XS.isub X_1223.here hx rfl (hb hby at_662) rfl ?_
                  refine X_1223.laload hx (j := (((own_l20 p0) - (1 : Int32)) - (own_pl p3 (own_l20 p0)))) (v := (.long (own_gj own_pws (((own_l20 p0) - (1 : Int32)) - (own_pl p3 (own_l20 p0)))))) (by rw [e_1227]; exact A_1229.1) (State.isArrayOf_alike hZ.alike A_1229.2.1) A_1229.2.2 hin_1235 hat_1236 (g := (mkF m 663 #[.val (.int p0), .val (.long p1), .second, .val (.int p2), .val (.int p3), .val (.ref a_9), .val (.int (own_l20 p0)), .val (.long (own_Y p1)), .second, .val (.ref a_523), .val (.int (1 : Int32)), .val (.int (1 : Int32)), .val (.int (own_pl p2 (own_l20 p0))), .val (.int (own_pl p3 (own_l20 p0))), .val (.int (own_cc p2)), .val (.int (own_cc p3)), .val (.long (own_value (((own_ds (own_Y p1) (own_l20 p0)).set (own_pl p2 (own_l20 p0)).toNatClampNeg (own_cc p2)).set (own_pl p3 (own_l20 p0)).toNatClampNeg (own_cc p3)))), .second, .val (.int (0 : Int32)), .unset, .unset, .val (.long ((own_Y p1) - ((own_Y p1) / (own_gj own_pws (own_l20 p0))) * (own_gj own_pws (own_l20 p0)))), .second] [(.int (((own_l20 p0) - (1 : Int32)) - (own_pl p3 (own_l20 p0)))), (.ref a_9), (.long ((((own_cc p3) - (48 : Int32)).toInt64) - (own_dig (own_Y p1) (own_l20 p0) (own_pl p3 (own_l20 p0))))), (.long ((own_Y p1) - ((own_Y p1) / (own_gj own_pws (own_l20 p0))) * (own_gj own_pws (own_l20 p0))))])) rfl rfl (hb hby at_663) _ ?_
                  refine XS.lmul X_1223.here hx rfl (hb hby at_664) rfl ?_
                  refine XS.ladd X_1223.here hx rfl (hb hby at_665) rfl ?_
                  refine XS.lstore X_1223.here hx rfl (hb hby at_666) rfl (l' := #[.val (.int p0), .val (.long p1), .second, .val (.int p2), .val (.int p3), .val (.ref a_9), .val (.int (own_l20 p0)), .val (.long (own_Y p1)), .second, .val (.ref a_523), .val (.int (1 : Int32)), .val (.int (1 : Int32)), .val (.int (own_pl p2 (own_l20 p0))), .val (.int (own_pl p3 (own_l20 p0))), .val (.int (own_cc p2)), .val (.int (own_cc p3)), .val (.long (own_value (((own_ds (own_Y p1) (own_l20 p0)).set (own_pl p2 (own_l20 p0)).toNatClampNeg (own_cc p2)).set (own_pl p3 (own_l20 p0)).toNatClampNeg (own_cc p3)))), .second, .val (.int (0 : Int32)), .unset, .unset, .val (.long (((own_Y p1) - ((own_Y p1) / (own_gj own_pws (own_l20 p0))) * (own_gj own_pws (own_l20 p0))) + (((((own_cc p3) - (48 : Int32)).toInt64) - (own_dig (own_Y p1) (own_l20 p0) (own_pl p3 (own_l20 p0)))) * (own_gj own_pws (((own_l20 p0) - (1 : Int32)) - (own_pl p3 (own_l20 p0))))))), .second]) rfl ?_
                  show Steps p.tables e below (T_1223.setTop (mkF m 668 #[.val (.int p0), .val (.long p1), .second, .val (.int p2), .val (.int p3), .val (.ref a_9), .val (.int (own_l20 p0)), .val (.long (own_Y p1)), .second, .val (.ref a_523), .val (.int (1 : Int32)), .val (.int (1 : Int32)), .val (.int (own_pl p2 (own_l20 p0))), .val (.int (own_pl p3 (own_l20 p0))), .val (.int (own_cc p2)), .val (.int (own_cc p3)), .val (.long (own_value (((own_ds (own_Y p1) (own_l20 p0)).set (own_pl p2 (own_l20 p0)).toNatClampNeg (own_cc p2)).set (own_pl p3 (own_l20 p0)).toNatClampNeg (own_cc p3)))), .second, .val (.int (0 : Int32)), .unset, .unset, .val (.long (((own_Y p1) - ((own_Y p1) / (own_gj own_pws (own_l20 p0))) * (own_gj own_pws (own_l20 p0))) + (((((own_cc p3) - (48 : Int32)).toInt64) - (own_dig (own_Y p1) (own_l20 p0) (own_pl p3 (own_l20 p0)))) * (own_gj own_pws (((own_l20 p0) - (1 : Int32)) - (own_pl p3 (own_l20 p0))))))), .second] [])) _
                  refine XS.lload X_1223.here hx rfl (hb hby at_668) rfl ?_
                  refine XS.lstore X_1223.here hx rfl (hb hby at_670) rfl (l' := #[.val (.int p0), .val (.long p1), .second, .val (.int p2), .val (.int p3), .val (.ref a_9), .val (.int (own_l20 p0)), .val (.long (own_Y p1)), .second, .val (.ref a_523), .val (.int (1 : Int32)), .val (.int (1 : Int32)), .val (.int (own_pl p2 (own_l20 p0))), .val (.int (own_pl p3 (own_l20 p0))), .val (.int (own_cc p2)), .val (.int (own_cc p3)), .val (.long (own_value (((own_ds (own_Y p1) (own_l20 p0)).set (own_pl p2 (own_l20 p0)).toNatClampNeg (own_cc p2)).set (own_pl p3 (own_l20 p0)).toNatClampNeg (own_cc p3)))), .second, .val (.int (0 : Int32)), .val (.long (((own_Y p1) - ((own_Y p1) / (own_gj own_pws (own_l20 p0))) * (own_gj own_pws (own_l20 p0))) + (((((own_cc p3) - (48 : Int32)).toInt64) - (own_dig (own_Y p1) (own_l20 p0) (own_pl p3 (own_l20 p0)))) * (own_gj own_pws (((own_l20 p0) - (1 : Int32)) - (own_pl p3 (own_l20 p0))))))), .second, .val (.long (((own_Y p1) - ((own_Y p1) / (own_gj own_pws (own_l20 p0))) * (own_gj own_pws (own_l20 p0))) + (((((own_cc p3) - (48 : Int32)).toInt64) - (own_dig (own_Y p1) (own_l20 p0) (own_pl p3 (own_l20 p0)))) * (own_gj own_pws (((own_l20 p0) - (1 : Int32)) - (own_pl p3 (own_l20 p0))))))), .second]) rfl ?_
                  refine XS.lload X_1223.here hx rfl (hb hby at_672) rfl ?_
                  refine XS.lload X_1223.here hx rfl (hb hby at_674) rfl ?_
                  exact Steps.refl _
                have C_1238 : Steps p.tables e below S0 (T_1223.setTop (mkF m 685 #[.val (.int p0), .val (.long p1), .second, .val (.int p2), .val (.int p3), .val (.ref a_9), .val (.int (own_l20 p0)), .val (.long (own_Y p1)), .second, .val (.ref a_523), .val (.int (1 : Int32)), .val (.int (1 : Int32)), .val (.int (own_pl p2 (own_l20 p0))), .val (.int (own_pl p3 (own_l20 p0))), .val (.int (own_cc p2)), .val (.int (own_cc p3)), .val (.long (own_value (((own_ds (own_Y p1) (own_l20 p0)).set (own_pl p2 (own_l20 p0)).toNatClampNeg (own_cc p2)).set (own_pl p3 (own_l20 p0)).toNatClampNeg (own_cc p3)))), .second, .val (.int (0 : Int32)), .val (.long (((own_Y p1) - ((own_Y p1) / (own_gj own_pws (own_l20 p0))) * (own_gj own_pws (own_l20 p0))) + (((((own_cc p3) - (48 : Int32)).toInt64) - (own_dig (own_Y p1) (own_l20 p0) (own_pl p3 (own_l20 p0)))) * (own_gj own_pws (((own_l20 p0) - (1 : Int32)) - (own_pl p3 (own_l20 p0))))))), .second, .val (.long (((own_Y p1) - ((own_Y p1) / (own_gj own_pws (own_l20 p0))) * (own_gj own_pws (own_l20 p0))) + (((((own_cc p3) - (48 : Int32)).toInt64) - (own_dig (own_Y p1) (own_l20 p0) (own_pl p3 (own_l20 p0)))) * (own_gj own_pws (((own_l20 p0) - (1 : Int32)) - (own_pl p3 (own_l20 p0))))))), .second] [(.int (1 : Int32))])) := by
                  refine C_1237.trans ?_
                  refine XS.lcmp X_1223.here hx rfl (hb hby at_676) rfl ?_
                  refine XS.ifNo X_1223.here hx rfl (hb hby at_677) rfl (i0_ne_f ((lw_eq (own_value (((own_ds (own_Y p1) (own_l20 p0)).set (own_pl p2 (own_l20 p0)).toNatClampNeg (own_cc p2)).set (own_pl p3 (own_l20 p0)).toNatClampNeg (own_cc p3))) (((own_Y p1) - ((own_Y p1) / (own_gj own_pws (own_l20 p0))) * (own_gj own_pws (own_l20 p0))) + (((((own_cc p3) - (48 : Int32)).toInt64) - (own_dig (own_Y p1) (own_l20 p0) (own_pl p3 (own_l20 p0)))) * (own_gj own_pws (((own_l20 p0) - (1 : Int32)) - (own_pl p3 (own_l20 p0))))))).mpr (own_F3 (own_Y0 p1) hp_512 hc_1158 hr_514.1 hr_514.2 g_1167 hc_1156 (Or.inl hc_1171)))) ?_
                  refine XS.iconst X_1223.here hx rfl (hb hby at_680) ?_
                  refine XS.goto X_1223.here hx rfl (pc0 := 681) (pc' := 685) rfl (hb hby at_681) (by decide) (by decide) ?_
                  exact Steps.refl _
                have K_1239 : Keep h0 T_1135.heap [] := K_1154
                obtain ⟨fs, hr, hrun, hended, hRE⟩ := X_1223.leaveW hS0 (by rw [show T_1223.heap = T_1135.heap from e_1227]; exact (Nat.le_trans (Nat.le_refl _) (Nat.le_trans (Nat.le_trans (Nat.le_trans (Nat.le_trans (Nat.le_trans (Nat.le_trans (Nat.le_trans (Nat.le_trans (Nat.le_trans (Nat.le_trans (Nat.le_trans (Nat.le_trans (Nat.le_trans (Nat.le_trans (Nat.le_trans (Nat.le_trans (Nat.le_trans (Nat.le_trans (Nat.le_trans (Nat.le_trans (Nat.le_trans (Nat.le_trans (Nat.le_trans (Nat.le_trans (Nat.le_trans (Nat.le_trans (Nat.le_trans (Nat.le_trans (Nat.le_trans (Nat.le_trans (Nat.le_trans (Nat.le_trans (Nat.le_trans (Nat.le_trans (Nat.le_trans (Nat.le_trans (Nat.le_trans (Nat.le_trans (Nat.le_trans (Nat.le_trans (Nat.le_trans (Nat.le_trans (Nat.le_trans E_6.1 (Keep.of_wr W_26).1) (Keep.of_wr W_44).1) (Keep.of_wr W_62).1) (Keep.of_wr W_80).1) (Keep.of_wr W_98).1) (Keep.of_wr W_116).1) (Keep.of_wr W_134).1) (Keep.of_wr W_152).1) (Keep.of_wr W_171).1) (Keep.of_wr W_189).1) (Keep.of_wr W_207).1) (Keep.of_wr W_225).1) (Keep.of_wr W_243).1) (Keep.of_wr W_261).1) (Keep.of_wr W_279).1) (Keep.of_wr W_297).1) (Keep.of_wr W_315).1) (Keep.of_wr W_334).1) (Keep.of_wr W_352).1) E_520.1) K_534.1) K_543.1) K_552.1) K_561.1) K_570.1) K_580.1) K_589.1) K_598.1) K_607.1) K_616.1) K_625.1) K_634.1) K_644.1) K_653.1) K_662.1) K_671.1) K_680.1) K_689.1) K_698.1) (Keep.of_wr W_1094).1) (Keep.of_wr W_1112).1) E_1123.1) K_1139.1))) (v := some (.int (1 : Int32))) (fun h => by rw [Bd.returns] at h; cases h)
                refine ⟨_, _, C_1238.trans (retN X_1223 hx (t := .boolean) Bd.returns (by simp) (hb hby at_685) hr), hrun, hended, _, _, rfl, ?_, ?_, hRE.1, hRE.2.1, hRE.2.2.1, hRE.2.2.2.mono (by decide) (by decide)⟩
                · show Q_law Z G1 G3 p0 p1 p2 p3 h0 n0 (some (.int (1 : Int32))) T_1223.heap _
                  rw [e_1227]
                  exact ⟨rfl, N_1226, K_1239⟩
                · show CHr Z consts_1 s.vm s.heap T_1223.vm T_1223.heap
                  rw [hh, show T_1223.heap = T_1135.heap from e_1227]
                  exact CR_1147.trans (CHv.at X_1223 hZ hEL CH_1146)
            · skip
              obtain ⟨rfl, N_1240, e_1241, g_1242⟩ := hQ_1164
              have N_1243 := Fr.app N_1152 N_1240
              have e_1244 : T_1161.heap = T_1135.heap := e_1241
              have C_1245 : Steps p.tables e below S0 (T_1161.setTop (mkF m 685 #[.val (.int p0), .val (.long p1), .second, .val (.int p2), .val (.int p3), .val (.ref a_9), .val (.int (own_l20 p0)), .val (.long (own_Y p1)), .second, .val (.ref a_523), .val (.int (1 : Int32)), .val (.int (1 : Int32)), .val (.int (own_pl p2 (own_l20 p0))), .val (.int (own_pl p3 (own_l20 p0))), .val (.int (own_cc p2)), .val (.int (own_cc p3)), .val (.long (own_value (((own_ds (own_Y p1) (own_l20 p0)).set (own_pl p2 (own_l20 p0)).toNatClampNeg (own_cc p2)).set (own_pl p3 (own_l20 p0)).toNatClampNeg (own_cc p3)))), .second, .val (.int (0 : Int32)), .val (.long (-1 : Int64)), .second, .unset, .unset] [(.int (1 : Int32))])) := by
                refine C_1162.trans ?_
                refine st_1161 _ ?_
                refine XS.ifYes X_1161.here hx rfl (pc0 := 554) (pc' := 572) rfl (hb hby at_554) rfl (by decide) (by decide) (by decide) ?_
                refine X_1161.ldc2J hx hown (mvT hZ (w62 hw)) rfl (hb hby at_572) ?_
                refine XS.lstore X_1161.here hx rfl (hb hby at_575) rfl (l' := #[.val (.int p0), .val (.long p1), .second, .val (.int p2), .val (.int p3), .val (.ref a_9), .val (.int (own_l20 p0)), .val (.long (own_Y p1)), .second, .val (.ref a_523), .val (.int (1 : Int32)), .val (.int (1 : Int32)), .val (.int (own_pl p2 (own_l20 p0))), .val (.int (own_pl p3 (own_l20 p0))), .val (.int (own_cc p2)), .val (.int (own_cc p3)), .val (.long (own_value (((own_ds (own_Y p1) (own_l20 p0)).set (own_pl p2 (own_l20 p0)).toNatClampNeg (own_cc p2)).set (own_pl p3 (own_l20 p0)).toNatClampNeg (own_cc p3)))), .second, .val (.int (0 : Int32)), .val (.long (-1 : Int64)), .second, .unset, .unset]) rfl ?_
                refine XS.goto X_1161.here hx rfl (pc0 := 577) (pc' := 672) rfl (hb hby at_577) (by decide) (by decide) ?_
                refine XS.lload X_1161.here hx rfl (hb hby at_672) rfl ?_
                refine XS.lload X_1161.here hx rfl (hb hby at_674) rfl ?_
                refine XS.lcmp X_1161.here hx rfl (hb hby at_676) rfl ?_
                show Steps p.tables e below (T_1161.setTop (mkF m 677 #[.val (.int p0), .val (.long p1), .second, .val (.int p2), .val (.int p3), .val (.ref a_9), .val (.int (own_l20 p0)), .val (.long (own_Y p1)), .second, .val (.ref a_523), .val (.int (1 : Int32)), .val (.int (1 : Int32)), .val (.int (own_pl p2 (own_l20 p0))), .val (.int (own_pl p3 (own_l20 p0))), .val (.int (own_cc p2)), .val (.int (own_cc p3)), .val (.long (own_value (((own_ds (own_Y p1) (own_l20 p0)).set (own_pl p2 (own_l20 p0)).toNatClampNeg (own_cc p2)).set (own_pl p3 (own_l20 p0)).toNatClampNeg (own_cc p3)))), .second, .val (.int (0 : Int32)), .val (.long (-1 : Int64)), .second, .unset, .unset] [(.int (lcmpW (own_value (((own_ds (own_Y p1) (own_l20 p0)).set (own_pl p2 (own_l20 p0)).toNatClampNeg (own_cc p2)).set (own_pl p3 (own_l20 p0)).toNatClampNeg (own_cc p3))) (-1 : Int64)))])) _
                refine XS.ifNo X_1161.here hx rfl (hb hby at_677) rfl (i0_ne_f ((lw_eq (own_value (((own_ds (own_Y p1) (own_l20 p0)).set (own_pl p2 (own_l20 p0)).toNatClampNeg (own_cc p2)).set (own_pl p3 (own_l20 p0)).toNatClampNeg (own_cc p3))) (-1 : Int64)).mpr (own_vbad (own_ms (own_setlen (own_dsl _ _)) hr_514.1 hr_514.2) g_1242))) ?_
                refine XS.iconst X_1161.here hx rfl (hb hby at_680) ?_
                refine XS.goto X_1161.here hx rfl (pc0 := 681) (pc' := 685) rfl (hb hby at_681) (by decide) (by decide) ?_
                exact Steps.refl _
              have K_1246 : Keep h0 T_1135.heap [] := K_1154
              obtain ⟨fs, hr, hrun, hended, hRE⟩ := X_1161.leaveW hS0 (by rw [show T_1161.heap = T_1135.heap from e_1244]; exact (Nat.le_trans (Nat.le_refl _) (Nat.le_trans (Nat.le_trans (Nat.le_trans (Nat.le_trans (Nat.le_trans (Nat.le_trans (Nat.le_trans (Nat.le_trans (Nat.le_trans (Nat.le_trans (Nat.le_trans (Nat.le_trans (Nat.le_trans (Nat.le_trans (Nat.le_trans (Nat.le_trans (Nat.le_trans (Nat.le_trans (Nat.le_trans (Nat.le_trans (Nat.le_trans (Nat.le_trans (Nat.le_trans (Nat.le_trans (Nat.le_trans (Nat.le_trans (Nat.le_trans (Nat.le_trans (Nat.le_trans (Nat.le_trans (Nat.le_trans (Nat.le_trans (Nat.le_trans (Nat.le_trans (Nat.le_trans (Nat.le_trans (Nat.le_trans (Nat.le_trans (Nat.le_trans (Nat.le_trans (Nat.le_trans (Nat.le_trans (Nat.le_trans E_6.1 (Keep.of_wr W_26).1) (Keep.of_wr W_44).1) (Keep.of_wr W_62).1) (Keep.of_wr W_80).1) (Keep.of_wr W_98).1) (Keep.of_wr W_116).1) (Keep.of_wr W_134).1) (Keep.of_wr W_152).1) (Keep.of_wr W_171).1) (Keep.of_wr W_189).1) (Keep.of_wr W_207).1) (Keep.of_wr W_225).1) (Keep.of_wr W_243).1) (Keep.of_wr W_261).1) (Keep.of_wr W_279).1) (Keep.of_wr W_297).1) (Keep.of_wr W_315).1) (Keep.of_wr W_334).1) (Keep.of_wr W_352).1) E_520.1) K_534.1) K_543.1) K_552.1) K_561.1) K_570.1) K_580.1) K_589.1) K_598.1) K_607.1) K_616.1) K_625.1) K_634.1) K_644.1) K_653.1) K_662.1) K_671.1) K_680.1) K_689.1) K_698.1) (Keep.of_wr W_1094).1) (Keep.of_wr W_1112).1) E_1123.1) K_1139.1))) (v := some (.int (1 : Int32))) (fun h => by rw [Bd.returns] at h; cases h)
              refine ⟨_, _, C_1245.trans (retN X_1161 hx (t := .boolean) Bd.returns (by simp) (hb hby at_685) hr), hrun, hended, _, _, rfl, ?_, ?_, hRE.1, hRE.2.1, hRE.2.2.1, hRE.2.2.2.mono (by decide) (by decide)⟩
              · show Q_law Z G1 G3 p0 p1 p2 p3 h0 n0 (some (.int (1 : Int32))) T_1161.heap _
                rw [e_1244]
                exact ⟨rfl, N_1243, K_1246⟩
              · show CHr Z consts_1 s.vm s.heap T_1161.vm T_1161.heap
                rw [hh, show T_1161.heap = T_1135.heap from e_1244]
                exact CR_1147.trans (CHv.at X_1161 hZ hEL CH_1146)
        · skip
          have C_1247 : Steps p.tables e below S0 (T_1149.setTop (mkF m 528 #[.val (.int p0), .val (.long p1), .second, .val (.int p2), .val (.int p3), .val (.ref a_9), .val (.int (own_l20 p0)), .val (.long (own_Y p1)), .second, .val (.ref a_523), .val (.int (1 : Int32)), .val (.int (1 : Int32)), .val (.int (own_pl p2 (own_l20 p0))), .val (.int (own_pl p3 (own_l20 p0))), .val (.int (own_cc p2)), .val (.int (own_cc p3)), .val (.long (own_value (((own_ds (own_Y p1) (own_l20 p0)).set (own_pl p2 (own_l20 p0)).toNatClampNeg (own_cc p2)).set (own_pl p3 (own_l20 p0)).toNatClampNeg (own_cc p3)))), .second, .val (.int (1 : Int32)), .unset, .unset, .unset, .unset] [(.int (18 : Int32)), (.int (own_l20 p0))])) := by
            refine C_1155.trans ?_
            refine XS.icmpNo X_1149.here hx rfl (hb hby at_509) rfl (ii_eq_f hc_1156) ?_
            refine XS.iconst X_1149.here hx rfl (hb hby at_512) ?_
            refine XS.goto X_1149.here hx rfl (pc0 := 513) (pc' := 517) rfl (hb hby at_513) (by decide) (by decide) ?_
            refine XS.istore X_1149.here hx rfl (hb hby at_517) rfl (l' := #[.val (.int p0), .val (.long p1), .second, .val (.int p2), .val (.int p3), .val (.ref a_9), .val (.int (own_l20 p0)), .val (.long (own_Y p1)), .second, .val (.ref a_523), .val (.int (1 : Int32)), .val (.int (1 : Int32)), .val (.int (own_pl p2 (own_l20 p0))), .val (.int (own_pl p3 (own_l20 p0))), .val (.int (own_cc p2)), .val (.int (own_cc p3)), .val (.long (own_value (((own_ds (own_Y p1) (own_l20 p0)).set (own_pl p2 (own_l20 p0)).toNatClampNeg (own_cc p2)).set (own_pl p3 (own_l20 p0)).toNatClampNeg (own_cc p3)))), .second, .val (.int (1 : Int32)), .unset, .unset, .unset, .unset]) rfl ?_
            refine XS.iload X_1149.here hx rfl (hb hby at_519) rfl ?_
            refine XS.ifNo X_1149.here hx rfl (hb hby at_521) rfl (i0_eq_f hn_361) ?_
            refine XS.iload X_1149.here hx rfl (hb hby at_524) rfl ?_
            refine XS.bipush X_1149.here hx rfl (hb hby at_526) ?_
            show Steps p.tables e below (T_1149.setTop (mkF m 528 #[.val (.int p0), .val (.long p1), .second, .val (.int p2), .val (.int p3), .val (.ref a_9), .val (.int (own_l20 p0)), .val (.long (own_Y p1)), .second, .val (.ref a_523), .val (.int (1 : Int32)), .val (.int (1 : Int32)), .val (.int (own_pl p2 (own_l20 p0))), .val (.int (own_pl p3 (own_l20 p0))), .val (.int (own_cc p2)), .val (.int (own_cc p3)), .val (.long (own_value (((own_ds (own_Y p1) (own_l20 p0)).set (own_pl p2 (own_l20 p0)).toNatClampNeg (own_cc p2)).set (own_pl p3 (own_l20 p0)).toNatClampNeg (own_cc p3)))), .second, .val (.int (1 : Int32)), .unset, .unset, .unset, .unset] [(.int (18 : Int32)), (.int (own_l20 p0))])) _
            exact Steps.refl _
          by_cases hc_1248 : (18 : Int32) < (own_l20 p0)
          · skip
            have C_1249 : Steps p.tables e below S0 (T_1149.setTop (mkF m 685 #[.val (.int p0), .val (.long p1), .second, .val (.int p2), .val (.int p3), .val (.ref a_9), .val (.int (own_l20 p0)), .val (.long (own_Y p1)), .second, .val (.ref a_523), .val (.int (1 : Int32)), .val (.int (1 : Int32)), .val (.int (own_pl p2 (own_l20 p0))), .val (.int (own_pl p3 (own_l20 p0))), .val (.int (own_cc p2)), .val (.int (own_cc p3)), .val (.long (own_value (((own_ds (own_Y p1) (own_l20 p0)).set (own_pl p2 (own_l20 p0)).toNatClampNeg (own_cc p2)).set (own_pl p3 (own_l20 p0)).toNatClampNeg (own_cc p3)))), .second, .val (.int (1 : Int32)), .val (.long (-1 : Int64)), .second, .unset, .unset] [(.int (1 : Int32))])) := by
              refine C_1247.trans ?_
              refine XS.icmpYes X_1149.here hx rfl (pc0 := 528) (pc' := 572) rfl (hb hby at_528) rfl (ii_gt_t hc_1248) (by decide) (by decide) ?_
              refine X_1149.ldc2J hx hown (mvT hZ (w62 hw)) rfl (hb hby at_572) ?_
              refine XS.lstore X_1149.here hx rfl (hb hby at_575) rfl (l' := #[.val (.int p0), .val (.long p1), .second, .val (.int p2), .val (.int p3), .val (.ref a_9), .val (.int (own_l20 p0)), .val (.long (own_Y p1)), .second, .val (.ref a_523), .val (.int (1 : Int32)), .val (.int (1 : Int32)), .val (.int (own_pl p2 (own_l20 p0))), .val (.int (own_pl p3 (own_l20 p0))), .val (.int (own_cc p2)), .val (.int (own_cc p3)), .val (.long (own_value (((own_ds (own_Y p1) (own_l20 p0)).set (own_pl p2 (own_l20 p0)).toNatClampNeg (own_cc p2)).set (own_pl p3 (own_l20 p0)).toNatClampNeg (own_cc p3)))), .second, .val (.int (1 : Int32)), .val (.long (-1 : Int64)), .second, .unset, .unset]) rfl ?_
              refine XS.goto X_1149.here hx rfl (pc0 := 577) (pc' := 672) rfl (hb hby at_577) (by decide) (by decide) ?_
              refine XS.lload X_1149.here hx rfl (hb hby at_672) rfl ?_
              refine XS.lload X_1149.here hx rfl (hb hby at_674) rfl ?_
              refine XS.lcmp X_1149.here hx rfl (hb hby at_676) rfl ?_
              refine XS.ifNo X_1149.here hx rfl (hb hby at_677) rfl (i0_ne_f ((lw_eq (own_value (((own_ds (own_Y p1) (own_l20 p0)).set (own_pl p2 (own_l20 p0)).toNatClampNeg (own_cc p2)).set (own_pl p3 (own_l20 p0)).toNatClampNeg (own_cc p3))) (-1 : Int64)).mpr (own_vlong (own_setlen (own_setlen (own_dsl _ _))) hc_1248))) ?_
              show Steps p.tables e below (T_1149.setTop (mkF m 680 #[.val (.int p0), .val (.long p1), .second, .val (.int p2), .val (.int p3), .val (.ref a_9), .val (.int (own_l20 p0)), .val (.long (own_Y p1)), .second, .val (.ref a_523), .val (.int (1 : Int32)), .val (.int (1 : Int32)), .val (.int (own_pl p2 (own_l20 p0))), .val (.int (own_pl p3 (own_l20 p0))), .val (.int (own_cc p2)), .val (.int (own_cc p3)), .val (.long (own_value (((own_ds (own_Y p1) (own_l20 p0)).set (own_pl p2 (own_l20 p0)).toNatClampNeg (own_cc p2)).set (own_pl p3 (own_l20 p0)).toNatClampNeg (own_cc p3)))), .second, .val (.int (1 : Int32)), .val (.long (-1 : Int64)), .second, .unset, .unset] [])) _
              refine XS.iconst X_1149.here hx rfl (hb hby at_680) ?_
              refine XS.goto X_1149.here hx rfl (pc0 := 681) (pc' := 685) rfl (hb hby at_681) (by decide) (by decide) ?_
              exact Steps.refl _
            have K_1250 : Keep h0 T_1135.heap [] := K_1154
            obtain ⟨fs, hr, hrun, hended, hRE⟩ := X_1149.leaveW hS0 (by rw [show T_1149.heap = T_1135.heap from e_1153]; exact (Nat.le_trans (Nat.le_refl _) (Nat.le_trans (Nat.le_trans (Nat.le_trans (Nat.le_trans (Nat.le_trans (Nat.le_trans (Nat.le_trans (Nat.le_trans (Nat.le_trans (Nat.le_trans (Nat.le_trans (Nat.le_trans (Nat.le_trans (Nat.le_trans (Nat.le_trans (Nat.le_trans (Nat.le_trans (Nat.le_trans (Nat.le_trans (Nat.le_trans (Nat.le_trans (Nat.le_trans (Nat.le_trans (Nat.le_trans (Nat.le_trans (Nat.le_trans (Nat.le_trans (Nat.le_trans (Nat.le_trans (Nat.le_trans (Nat.le_trans (Nat.le_trans (Nat.le_trans (Nat.le_trans (Nat.le_trans (Nat.le_trans (Nat.le_trans (Nat.le_trans (Nat.le_trans (Nat.le_trans (Nat.le_trans (Nat.le_trans (Nat.le_trans E_6.1 (Keep.of_wr W_26).1) (Keep.of_wr W_44).1) (Keep.of_wr W_62).1) (Keep.of_wr W_80).1) (Keep.of_wr W_98).1) (Keep.of_wr W_116).1) (Keep.of_wr W_134).1) (Keep.of_wr W_152).1) (Keep.of_wr W_171).1) (Keep.of_wr W_189).1) (Keep.of_wr W_207).1) (Keep.of_wr W_225).1) (Keep.of_wr W_243).1) (Keep.of_wr W_261).1) (Keep.of_wr W_279).1) (Keep.of_wr W_297).1) (Keep.of_wr W_315).1) (Keep.of_wr W_334).1) (Keep.of_wr W_352).1) E_520.1) K_534.1) K_543.1) K_552.1) K_561.1) K_570.1) K_580.1) K_589.1) K_598.1) K_607.1) K_616.1) K_625.1) K_634.1) K_644.1) K_653.1) K_662.1) K_671.1) K_680.1) K_689.1) K_698.1) (Keep.of_wr W_1094).1) (Keep.of_wr W_1112).1) E_1123.1) K_1139.1))) (v := some (.int (1 : Int32))) (fun h => by rw [Bd.returns] at h; cases h)
            refine ⟨_, _, C_1249.trans (retN X_1149 hx (t := .boolean) Bd.returns (by simp) (hb hby at_685) hr), hrun, hended, _, _, rfl, ?_, ?_, hRE.1, hRE.2.1, hRE.2.2.1, hRE.2.2.2.mono (by decide) (by decide)⟩
            · show Q_law Z G1 G3 p0 p1 p2 p3 h0 n0 (some (.int (1 : Int32))) T_1149.heap _
              rw [e_1153]
              exact ⟨rfl, N_1152, K_1250⟩
            · show CHr Z consts_1 s.vm s.heap T_1149.vm T_1149.heap
              rw [hh, show T_1149.heap = T_1135.heap from e_1153]
              exact CR_1147.trans (CHv.at X_1149 hZ hEL CH_1146)
          · skip
            obtain ⟨_, _, ⟨T_1251, L_1251, k_1251, n_1251⟩, -, X_1251, ⟨Lc_1251, hQ_1251, l_1251, y_1251, z_1251⟩, st_1251⟩ := Jvm.LawKit.callS X_1149 hx (y := M257) hown (mvT hZ (w100 hw)) (mvT hZ (w101 hw)) (mvT hZ (w23 hw)) (mvT hZ (w102 hw)) (by decide) (backOf (W := 0) (rm_isdg l Z a0 hw [] G1 G3 HG T_1135.heap n0 O_1148 (own_cc p2) ) hZ (w102 hw) (w23 hw) (by decide) (by decide)) (g := (mkF m 538 #[.val (.int p0), .val (.long p1), .second, .val (.int p2), .val (.int p3), .val (.ref a_9), .val (.int (own_l20 p0)), .val (.long (own_Y p1)), .second, .val (.ref a_523), .val (.int (1 : Int32)), .val (.int (1 : Int32)), .val (.int (own_pl p2 (own_l20 p0))), .val (.int (own_pl p3 (own_l20 p0))), .val (.int (own_cc p2)), .val (.int (own_cc p3)), .val (.long (own_value (((own_ds (own_Y p1) (own_l20 p0)).set (own_pl p2 (own_l20 p0)).toNatClampNeg (own_cc p2)).set (own_pl p3 (own_l20 p0)).toNatClampNeg (own_cc p3)))), .second, .val (.int (1 : Int32)), .unset, .unset, .unset, .unset] [(.int (own_cc p2))])) rfl (by rw [hml]; rfl) (argsL := [(.int (own_cc p2))]) (rest := []) (lenOf pd_374 rfl) rfl (by show 2 * 0 + _ ≤ _; exact Nat.le_of_eq rfl) (hb hby at_538) (fun _ _ => ⟨rfl, e_1153, (by decide : 4 + 0 ≤ _), (by decide : 61 + 0 ≤ _)⟩)
            dsimp only [Pt.U, Pt.locs, Pt.cells, Pt.slots] at X_1251 l_1251 y_1251 z_1251 st_1251 hQ_1251
            have X_1251 := own_cast X_1251 l_1251 y_1251 z_1251
            have C_1252 : Steps p.tables e below S0 (T_1149.setTop (mkF m 538 #[.val (.int p0), .val (.long p1), .second, .val (.int p2), .val (.int p3), .val (.ref a_9), .val (.int (own_l20 p0)), .val (.long (own_Y p1)), .second, .val (.ref a_523), .val (.int (1 : Int32)), .val (.int (1 : Int32)), .val (.int (own_pl p2 (own_l20 p0))), .val (.int (own_pl p3 (own_l20 p0))), .val (.int (own_cc p2)), .val (.int (own_cc p3)), .val (.long (own_value (((own_ds (own_Y p1) (own_l20 p0)).set (own_pl p2 (own_l20 p0)).toNatClampNeg (own_cc p2)).set (own_pl p3 (own_l20 p0)).toNatClampNeg (own_cc p3)))), .second, .val (.int (1 : Int32)), .unset, .unset, .unset, .unset] [(.int (own_cc p2))])) := by
              refine C_1247.trans ?_
              refine XS.icmpNo X_1149.here hx rfl (hb hby at_528) rfl (ii_gt_f hc_1248) ?_
              refine XS.iload X_1149.here hx rfl (hb hby at_531) rfl ?_
              refine XS.ifNo X_1149.here hx rfl (hb hby at_533) rfl (by decide) ?_
              refine XS.iload X_1149.here hx rfl (hb hby at_536) rfl ?_
              exact Steps.refl _
            rcases hQ_1251 with hQ_1253 | hQ_1254
            · skip
              obtain ⟨rfl, N_1255, e_1256, g_1257⟩ := hQ_1253
              have N_1258 := Fr.app N_1152 N_1255
              have e_1259 : T_1251.heap = T_1135.heap := e_1256
              obtain ⟨_, _, ⟨T_1260, L_1260, k_1260, n_1260⟩, -, X_1260, ⟨Lc_1260, hQ_1260, l_1260, y_1260, z_1260⟩, st_1260⟩ := Jvm.LawKit.callS X_1251 hx (y := M257) hown (mvT hZ (w100 hw)) (mvT hZ (w101 hw)) (mvT hZ (w23 hw)) (mvT hZ (w102 hw)) (by decide) (backOf (W := 0) (rm_isdg l Z a0 hw [] G1 G3 HG T_1135.heap n0 O_1148 (own_cc p3) ) hZ (w102 hw) (w23 hw) (by decide) (by decide)) (g := (mkF m 551 #[.val (.int p0), .val (.long p1), .second, .val (.int p2), .val (.int p3), .val (.ref a_9), .val (.int (own_l20 p0)), .val (.long (own_Y p1)), .second, .val (.ref a_523), .val (.int (1 : Int32)), .val (.int (1 : Int32)), .val (.int (own_pl p2 (own_l20 p0))), .val (.int (own_pl p3 (own_l20 p0))), .val (.int (own_cc p2)), .val (.int (own_cc p3)), .val (.long (own_value (((own_ds (own_Y p1) (own_l20 p0)).set (own_pl p2 (own_l20 p0)).toNatClampNeg (own_cc p2)).set (own_pl p3 (own_l20 p0)).toNatClampNeg (own_cc p3)))), .second, .val (.int (1 : Int32)), .unset, .unset, .unset, .unset] [(.int (own_cc p3))])) rfl (by rw [hml]; rfl) (argsL := [(.int (own_cc p3))]) (rest := []) (lenOf pd_374 rfl) rfl (by show 2 * 0 + _ ≤ _; exact Nat.le_of_eq rfl) (hb hby at_551) (fun _ _ => ⟨rfl, e_1259, (by decide : 4 + 0 ≤ _), (by decide : 61 + 0 ≤ _)⟩)
              dsimp only [Pt.U, Pt.locs, Pt.cells, Pt.slots] at X_1260 l_1260 y_1260 z_1260 st_1260 hQ_1260
              have X_1260 := own_cast X_1260 l_1260 y_1260 z_1260
              have C_1261 : Steps p.tables e below S0 (T_1251.setTop (mkF m 551 #[.val (.int p0), .val (.long p1), .second, .val (.int p2), .val (.int p3), .val (.ref a_9), .val (.int (own_l20 p0)), .val (.long (own_Y p1)), .second, .val (.ref a_523), .val (.int (1 : Int32)), .val (.int (1 : Int32)), .val (.int (own_pl p2 (own_l20 p0))), .val (.int (own_pl p3 (own_l20 p0))), .val (.int (own_cc p2)), .val (.int (own_cc p3)), .val (.long (own_value (((own_ds (own_Y p1) (own_l20 p0)).set (own_pl p2 (own_l20 p0)).toNatClampNeg (own_cc p2)).set (own_pl p3 (own_l20 p0)).toNatClampNeg (own_cc p3)))), .second, .val (.int (1 : Int32)), .unset, .unset, .unset, .unset] [(.int (own_cc p3))])) := by
                refine C_1252.trans ?_
                refine st_1251 _ ?_
                refine XS.ifNo X_1251.here hx rfl (hb hby at_541) rfl (by decide) ?_
                refine XS.iload X_1251.here hx rfl (hb hby at_544) rfl ?_
                refine XS.ifNo X_1251.here hx rfl (hb hby at_546) rfl (by decide) ?_
                refine XS.iload X_1251.here hx rfl (hb hby at_549) rfl ?_
                exact Steps.refl _
              rcases hQ_1260 with hQ_1262 | hQ_1263
              · skip
                obtain ⟨rfl, N_1264, e_1265, g_1266⟩ := hQ_1262
                have N_1267 := Fr.app N_1258 N_1264
                have e_1268 : T_1260.heap = T_1135.heap := e_1265
                have C_1269 : Steps p.tables e below S0 (T_1260.setTop (mkF m 560 #[.val (.int p0), .val (.long p1), .second, .val (.int p2), .val (.int p3), .val (.ref a_9), .val (.int (own_l20 p0)), .val (.long (own_Y p1)), .second, .val (.ref a_523), .val (.int (1 : Int32)), .val (.int (1 : Int32)), .val (.int (own_pl p2 (own_l20 p0))), .val (.int (own_pl p3 (own_l20 p0))), .val (.int (own_cc p2)), .val (.int (own_cc p3)), .val (.long (own_value (((own_ds (own_Y p1) (own_l20 p0)).set (own_pl p2 (own_l20 p0)).toNatClampNeg (own_cc p2)).set (own_pl p3 (own_l20 p0)).toNatClampNeg (own_cc p3)))), .second, .val (.int (1 : Int32)), .unset, .unset, .unset, .unset] [(.int (1 : Int32)), (.int (own_l20 p0))])) := by
                  refine C_1261.trans ?_
                  refine st_1260 _ ?_
                  refine XS.ifNo X_1260.here hx rfl (hb hby at_554) rfl (by decide) ?_
                  refine XS.iload X_1260.here hx rfl (hb hby at_557) rfl ?_
                  refine XS.iconst X_1260.here hx rfl (hb hby at_559) ?_
                  exact Steps.refl _
                by_cases hc_1270 : (1 : Int32) < (own_l20 p0)
                · skip
                  have V_1271 : Arv Z T_1135.heap a_523 k_517 .char (own_l20 p0) (own_iv (((own_ds (own_Y p1) (own_l20 p0)).set (own_pl p2 (own_l20 p0)).toNatClampNeg (own_cc p2)).set (own_pl p3 (own_l20 p0)).toNatClampNeg (own_cc p3))) (.int (0 : Int32)) := (V_1133.keep K_1139 (ninS (Nat.ne_of_lt (Nat.lt_of_lt_of_le V_1118.lt (Nat.le_trans (Nat.le_refl _) (Nat.le_of_eq g_1128.symm)))) nin0))
                  obtain ⟨c_1272, A_1273, q_1274, S_1275, M_1276, H_1277, U_1278⟩ := id V_1271
                  have hin_1279 : ¬ ((0 : Int32) < 0 ∨ c_1272.slots.size ≤ (0 : Int32).toNatClampNeg) := inb_of S_1275 ⟨(by decide : ¬ ((0 : Int32) < (0 : Int32))), hp_512⟩
                  have hat_1280 : c_1272.slots[(0 : Int32).toNatClampNeg]? = some (.int (own_gt (((own_ds (own_Y p1) (own_l20 p0)).set (own_pl p2 (own_l20 p0)).toNatClampNeg (own_cc p2)).set (own_pl p3 (own_l20 p0)).toNatClampNeg (own_cc p3)) (0 : Int32))) := Has.at H_1277 hin_1279 (own_iv_at (((own_ds (own_Y p1) (own_l20 p0)).set (own_pl p2 (own_l20 p0)).toNatClampNeg (own_cc p2)).set (own_pl p3 (own_l20 p0)).toNatClampNeg (own_cc p3)) (0 : Int32))
                  have C_1281 : Steps p.tables e below S0 (T_1260.setTop (mkF m 569 #[.val (.int p0), .val (.long p1), .second, .val (.int p2), .val (.int p3), .val (.ref a_9), .val (.int (own_l20 p0)), .val (.long (own_Y p1)), .second, .val (.ref a_523), .val (.int (1 : Int32)), .val (.int (1 : Int32)), .val (.int (own_pl p2 (own_l20 p0))), .val (.int (own_pl p3 (own_l20 p0))), .val (.int (own_cc p2)), .val (.int (own_cc p3)), .val (.long (own_value (((own_ds (own_Y p1) (own_l20 p0)).set (own_pl p2 (own_l20 p0)).toNatClampNeg (own_cc p2)).set (own_pl p3 (own_l20 p0)).toNatClampNeg (own_cc p3)))), .second, .val (.int (1 : Int32)), .unset, .unset, .unset, .unset] [(.int (48 : Int32)), (.int (own_gt (((own_ds (own_Y p1) (own_l20 p0)).set (own_pl p2 (own_l20 p0)).toNatClampNeg (own_cc p2)).set (own_pl p3 (own_l20 p0)).toNatClampNeg (own_cc p3)) (0 : Int32)))])) := by
                    refine C_1269.trans ?_
                    refine XS.icmpNo X_1260.here hx rfl (hb hby at_560) rfl (ii_le_f hc_1270) ?_
                    refine XS.aload X_1260.here hx rfl (hb hby at_563) rfl rfl ?_
                    refine XS.iconst X_1260.here hx rfl (hb hby at_565) ?_
                    refine X_1260.caload hx (j := (0 : Int32)) (v := (.int (own_gt (((own_ds (own_Y p1) (own_l20 p0)).set (own_pl p2 (own_l20 p0)).toNatClampNeg (own_cc p2)).set (own_pl p3 (own_l20 p0)).toNatClampNeg (own_cc p3)) (0 : Int32)))) (by rw [e_1268]; exact A_1273.1) (State.isArrayOf_alike hZ.alike A_1273.2.1) A_1273.2.2 hin_1279 hat_1280 (g := (mkF m 566 #[.val (.int p0), .val (.long p1), .second, .val (.int p2), .val (.int p3), .val (.ref a_9), .val (.int (own_l20 p0)), .val (.long (own_Y p1)), .second, .val (.ref a_523), .val (.int (1 : Int32)), .val (.int (1 : Int32)), .val (.int (own_pl p2 (own_l20 p0))), .val (.int (own_pl p3 (own_l20 p0))), .val (.int (own_cc p2)), .val (.int (own_cc p3)), .val (.long (own_value (((own_ds (own_Y p1) (own_l20 p0)).set (own_pl p2 (own_l20 p0)).toNatClampNeg (own_cc p2)).set (own_pl p3 (own_l20 p0)).toNatClampNeg (own_cc p3)))), .second, .val (.int (1 : Int32)), .unset, .unset, .unset, .unset] [(.int (0 : Int32)), (.ref a_523)])) rfl rfl (hb hby at_566) _ ?_
                    refine XS.bipush X_1260.here hx rfl (hb hby at_567) ?_
                    exact Steps.refl _
                  by_cases hc_1282 : (own_gt (((own_ds (own_Y p1) (own_l20 p0)).set (own_pl p2 (own_l20 p0)).toNatClampNeg (own_cc p2)).set (own_pl p3 (own_l20 p0)).toNatClampNeg (own_cc p3)) (0 : Int32)) = (48 : Int32)
                  · skip
                    have C_1283 : Steps p.tables e below S0 (T_1260.setTop (mkF m 685 #[.val (.int p0), .val (.long p1), .second, .val (.int p2), .val (.int p3), .val (.ref a_9), .val (.int (own_l20 p0)), .val (.long (own_Y p1)), .second, .val (.ref a_523), .val (.int (1 : Int32)), .val (.int (1 : Int32)), .val (.int (own_pl p2 (own_l20 p0))), .val (.int (own_pl p3 (own_l20 p0))), .val (.int (own_cc p2)), .val (.int (own_cc p3)), .val (.long (own_value (((own_ds (own_Y p1) (own_l20 p0)).set (own_pl p2 (own_l20 p0)).toNatClampNeg (own_cc p2)).set (own_pl p3 (own_l20 p0)).toNatClampNeg (own_cc p3)))), .second, .val (.int (1 : Int32)), .val (.long (-1 : Int64)), .second, .unset, .unset] [(.int (1 : Int32))])) := by
                      refine C_1281.trans ?_
                      refine XS.icmpNo X_1260.here hx rfl (hb hby at_569) rfl (ii_ne_f hc_1282) ?_
                      refine X_1260.ldc2J hx hown (mvT hZ (w62 hw)) rfl (hb hby at_572) ?_
                      refine XS.lstore X_1260.here hx rfl (hb hby at_575) rfl (l' := #[.val (.int p0), .val (.long p1), .second, .val (.int p2), .val (.int p3), .val (.ref a_9), .val (.int (own_l20 p0)), .val (.long (own_Y p1)), .second, .val (.ref a_523), .val (.int (1 : Int32)), .val (.int (1 : Int32)), .val (.int (own_pl p2 (own_l20 p0))), .val (.int (own_pl p3 (own_l20 p0))), .val (.int (own_cc p2)), .val (.int (own_cc p3)), .val (.long (own_value (((own_ds (own_Y p1) (own_l20 p0)).set (own_pl p2 (own_l20 p0)).toNatClampNeg (own_cc p2)).set (own_pl p3 (own_l20 p0)).toNatClampNeg (own_cc p3)))), .second, .val (.int (1 : Int32)), .val (.long (-1 : Int64)), .second, .unset, .unset]) rfl ?_
                      refine XS.goto X_1260.here hx rfl (pc0 := 577) (pc' := 672) rfl (hb hby at_577) (by decide) (by decide) ?_
                      refine XS.lload X_1260.here hx rfl (hb hby at_672) rfl ?_
                      refine XS.lload X_1260.here hx rfl (hb hby at_674) rfl ?_
                      refine XS.lcmp X_1260.here hx rfl (hb hby at_676) rfl ?_
                      refine XS.ifNo X_1260.here hx rfl (hb hby at_677) rfl (i0_ne_f ((lw_eq (own_value (((own_ds (own_Y p1) (own_l20 p0)).set (own_pl p2 (own_l20 p0)).toNatClampNeg (own_cc p2)).set (own_pl p3 (own_l20 p0)).toNatClampNeg (own_cc p3))) (-1 : Int64)).mpr (own_vzero (own_setlen (own_setlen (own_dsl _ _))) hc_1270 hc_1282))) ?_
                      show Steps p.tables e below (T_1260.setTop (mkF m 680 #[.val (.int p0), .val (.long p1), .second, .val (.int p2), .val (.int p3), .val (.ref a_9), .val (.int (own_l20 p0)), .val (.long (own_Y p1)), .second, .val (.ref a_523), .val (.int (1 : Int32)), .val (.int (1 : Int32)), .val (.int (own_pl p2 (own_l20 p0))), .val (.int (own_pl p3 (own_l20 p0))), .val (.int (own_cc p2)), .val (.int (own_cc p3)), .val (.long (own_value (((own_ds (own_Y p1) (own_l20 p0)).set (own_pl p2 (own_l20 p0)).toNatClampNeg (own_cc p2)).set (own_pl p3 (own_l20 p0)).toNatClampNeg (own_cc p3)))), .second, .val (.int (1 : Int32)), .val (.long (-1 : Int64)), .second, .unset, .unset] [])) _
                      refine XS.iconst X_1260.here hx rfl (hb hby at_680) ?_
                      refine XS.goto X_1260.here hx rfl (pc0 := 681) (pc' := 685) rfl (hb hby at_681) (by decide) (by decide) ?_
                      exact Steps.refl _
                    have K_1284 : Keep h0 T_1135.heap [] := K_1154
                    obtain ⟨fs, hr, hrun, hended, hRE⟩ := X_1260.leaveW hS0 (by rw [show T_1260.heap = T_1135.heap from e_1268]; exact (Nat.le_trans (Nat.le_refl _) (Nat.le_trans (Nat.le_trans (Nat.le_trans (Nat.le_trans (Nat.le_trans (Nat.le_trans (Nat.le_trans (Nat.le_trans (Nat.le_trans (Nat.le_trans (Nat.le_trans (Nat.le_trans (Nat.le_trans (Nat.le_trans (Nat.le_trans (Nat.le_trans (Nat.le_trans (Nat.le_trans (Nat.le_trans (Nat.le_trans (Nat.le_trans (Nat.le_trans (Nat.le_trans (Nat.le_trans (Nat.le_trans (Nat.le_trans (Nat.le_trans (Nat.le_trans (Nat.le_trans (Nat.le_trans (Nat.le_trans (Nat.le_trans (Nat.le_trans (Nat.le_trans (Nat.le_trans (Nat.le_trans (Nat.le_trans (Nat.le_trans (Nat.le_trans (Nat.le_trans (Nat.le_trans (Nat.le_trans (Nat.le_trans E_6.1 (Keep.of_wr W_26).1) (Keep.of_wr W_44).1) (Keep.of_wr W_62).1) (Keep.of_wr W_80).1) (Keep.of_wr W_98).1) (Keep.of_wr W_116).1) (Keep.of_wr W_134).1) (Keep.of_wr W_152).1) (Keep.of_wr W_171).1) (Keep.of_wr W_189).1) (Keep.of_wr W_207).1) (Keep.of_wr W_225).1) (Keep.of_wr W_243).1) (Keep.of_wr W_261).1) (Keep.of_wr W_279).1) (Keep.of_wr W_297).1) (Keep.of_wr W_315).1) (Keep.of_wr W_334).1) (Keep.of_wr W_352).1) E_520.1) K_534.1) K_543.1) K_552.1) K_561.1) K_570.1) K_580.1) K_589.1) K_598.1) K_607.1) K_616.1) K_625.1) K_634.1) K_644.1) K_653.1) K_662.1) K_671.1) K_680.1) K_689.1) K_698.1) (Keep.of_wr W_1094).1) (Keep.of_wr W_1112).1) E_1123.1) K_1139.1))) (v := some (.int (1 : Int32))) (fun h => by rw [Bd.returns] at h; cases h)
                    refine ⟨_, _, C_1283.trans (retN X_1260 hx (t := .boolean) Bd.returns (by simp) (hb hby at_685) hr), hrun, hended, _, _, rfl, ?_, ?_, hRE.1, hRE.2.1, hRE.2.2.1, hRE.2.2.2.mono (by decide) (by decide)⟩
                    · show Q_law Z G1 G3 p0 p1 p2 p3 h0 n0 (some (.int (1 : Int32))) T_1260.heap _
                      rw [e_1268]
                      exact ⟨rfl, N_1267, K_1284⟩
                    · show CHr Z consts_1 s.vm s.heap T_1260.vm T_1260.heap
                      rw [hh, show T_1260.heap = T_1135.heap from e_1268]
                      exact CR_1147.trans (CHv.at X_1260 hZ hEL CH_1146)
                  · skip
                    have V_1285 : Arv Z T_1135.heap a_9 k_3 .long (19 : Int32) (own_jv own_pws) (.long (0 : Int64)) := (((((V_694.keep K_698 (ninS (Nat.ne_of_lt (Nat.lt_of_lt_of_le V_359.lt (Nat.le_trans (Nat.le_refl _) (Nat.le_of_eq g_524.symm)))) nin0)).other W_1094 (Nat.ne_of_lt (Nat.lt_of_lt_of_le V_359.lt (Nat.le_trans (Nat.le_refl _) (Nat.le_of_eq g_524.symm))))).other W_1112 (Nat.ne_of_lt (Nat.lt_of_lt_of_le V_359.lt (Nat.le_trans (Nat.le_refl _) (Nat.le_of_eq g_524.symm))))).ext E_1123).keep K_1139 (ninS (Nat.ne_of_lt (Nat.lt_of_lt_of_le V_359.lt (Nat.le_trans (Nat.le_trans (Nat.le_trans (Nat.le_trans (Nat.le_trans (Nat.le_trans (Nat.le_trans (Nat.le_trans (Nat.le_trans (Nat.le_trans (Nat.le_trans (Nat.le_trans (Nat.le_trans (Nat.le_trans (Nat.le_trans (Nat.le_trans (Nat.le_trans (Nat.le_trans (Nat.le_trans (Nat.le_trans (Nat.le_trans (Nat.le_trans E_520.1 K_534.1) K_543.1) K_552.1) K_561.1) K_570.1) K_580.1) K_589.1) K_598.1) K_607.1) K_616.1) K_625.1) K_634.1) K_644.1) K_653.1) K_662.1) K_671.1) K_680.1) K_689.1) K_698.1) (Keep.of_wr W_1094).1) (Keep.of_wr W_1112).1) (Nat.le_of_eq g_1128.symm)))) nin0))
                    obtain ⟨c_1286, A_1287, q_1288, S_1289, M_1290, H_1291, U_1292⟩ := id V_1285
                    have hin_1293 : ¬ ((own_l20 p0) < 0 ∨ c_1286.slots.size ≤ (own_l20 p0).toNatClampNeg) := inb_of S_1289 ⟨(own_l0 p0), (own_l18 hc_1248).1⟩
                    have hat_1294 : c_1286.slots[(own_l20 p0).toNatClampNeg]? = some (.long (own_gj own_pws (own_l20 p0))) := Has.at H_1291 hin_1293 (own_jv_at own_pws (own_l20 p0))
                    obtain ⟨_, _, ⟨T_1295, L_1295, k_1295, n_1295⟩, -, X_1295, ⟨Lc_1295, hQ_1295, l_1295, y_1295, z_1295⟩, st_1295⟩ := Jvm.LawKit.callS X_1260 hx (y := M216) hown (mvT hZ (w63 hw)) (mvT hZ (w64 hw)) (mvT hZ (w23 hw)) (mvT hZ (w65 hw)) (by decide) (backOf (W := 4) (rm_digit l Z a0 hw [] G1 G3 HG T_1135.heap n0 O_1148 a_9 k_3 (own_Y p1) (own_l20 p0) (own_pl p2 (own_l20 p0)) V_1285 hr_513.1 hr_513.2 (own_l19 p0)) hZ (w65 hw) (w23 hw) (by decide) (by decide)) (g := (mkF m 611 #[.val (.int p0), .val (.long p1), .second, .val (.int p2), .val (.int p3), .val (.ref a_9), .val (.int (own_l20 p0)), .val (.long (own_Y p1)), .second, .val (.ref a_523), .val (.int (1 : Int32)), .val (.int (1 : Int32)), .val (.int (own_pl p2 (own_l20 p0))), .val (.int (own_pl p3 (own_l20 p0))), .val (.int (own_cc p2)), .val (.int (own_cc p3)), .val (.long (own_value (((own_ds (own_Y p1) (own_l20 p0)).set (own_pl p2 (own_l20 p0)).toNatClampNeg (own_cc p2)).set (own_pl p3 (own_l20 p0)).toNatClampNeg (own_cc p3)))), .second, .val (.int (1 : Int32)), .unset, .unset, .val (.long ((own_Y p1) - ((own_Y p1) / (own_gj own_pws (own_l20 p0))) * (own_gj own_pws (own_l20 p0)))), .second] [(.int (own_pl p2 (own_l20 p0))), (.int (own_l20 p0)), (.long (own_Y p1)), (.ref a_9), (.long (((own_cc p2) - (48 : Int32)).toInt64)), (.long ((own_Y p1) - ((own_Y p1) / (own_gj own_pws (own_l20 p0))) * (own_gj own_pws (own_l20 p0))))])) rfl (by rw [hml]; rfl) (argsL := [(.ref a_9), (.long (own_Y p1)), (.int (own_l20 p0)), (.int (own_pl p2 (own_l20 p0)))]) (rest := [(.long (((own_cc p2) - (48 : Int32)).toInt64)), (.long ((own_Y p1) - ((own_Y p1) / (own_gj own_pws (own_l20 p0))) * (own_gj own_pws (own_l20 p0))))]) (lenOf pd_248 rfl) rfl (by show 2 * 0 + _ ≤ _; exact Nat.le_of_eq rfl) (hb hby at_611) (fun _ _ => ⟨rfl, e_1268, (by decide : 4 + 0 ≤ _), (by decide : 61 + 0 ≤ _)⟩)
                    dsimp only [Pt.U, Pt.locs, Pt.cells, Pt.slots] at X_1295 l_1295 y_1295 z_1295 st_1295 hQ_1295
                    have X_1295 := own_cast X_1295 l_1295 y_1295 z_1295
                    obtain ⟨rfl, N_1296, e_1297⟩ := hQ_1295
                    have N_1298 := Fr.app N_1267 N_1296
                    have e_1299 : T_1295.heap = T_1135.heap := e_1297
                    obtain ⟨c_1300, A_1301, q_1302, S_1303, M_1304, H_1305, U_1306⟩ := id V_1285
                    have hin_1307 : ¬ ((((own_l20 p0) - (1 : Int32)) - (own_pl p2 (own_l20 p0))) < 0 ∨ c_1300.slots.size ≤ (((own_l20 p0) - (1 : Int32)) - (own_pl p2 (own_l20 p0))).toNatClampNeg) := inb_of S_1303 ⟨(own_sub_nat hr_513.1 hr_513.2).2.1, (own_lt19 hr_513.1 hr_513.2 (own_l19 p0)).2.1⟩
                    have hat_1308 : c_1300.slots[(((own_l20 p0) - (1 : Int32)) - (own_pl p2 (own_l20 p0))).toNatClampNeg]? = some (.long (own_gj own_pws (((own_l20 p0) - (1 : Int32)) - (own_pl p2 (own_l20 p0))))) := Has.at H_1305 hin_1307 (own_jv_at own_pws (((own_l20 p0) - (1 : Int32)) - (own_pl p2 (own_l20 p0))))
                    have C_1309 : Steps p.tables e below S0 (T_1295.setTop (mkF m 641 #[.val (.int p0), .val (.long p1), .second, .val (.int p2), .val (.int p3), .val (.ref a_9), .val (.int (own_l20 p0)), .val (.long (own_Y p1)), .second, .val (.ref a_523), .val (.int (1 : Int32)), .val (.int (1 : Int32)), .val (.int (own_pl p2 (own_l20 p0))), .val (.int (own_pl p3 (own_l20 p0))), .val (.int (own_cc p2)), .val (.int (own_cc p3)), .val (.long (own_value (((own_ds (own_Y p1) (own_l20 p0)).set (own_pl p2 (own_l20 p0)).toNatClampNeg (own_cc p2)).set (own_pl p3 (own_l20 p0)).toNatClampNeg (own_cc p3)))), .second, .val (.int (1 : Int32)), .unset, .unset, .val (.long (((own_Y p1) - ((own_Y p1) / (own_gj own_pws (own_l20 p0))) * (own_gj own_pws (own_l20 p0))) + (((((own_cc p2) - (48 : Int32)).toInt64) - (own_dig (own_Y p1) (own_l20 p0) (own_pl p2 (own_l20 p0)))) * (own_gj own_pws (((own_l20 p0) - (1 : Int32)) - (own_pl p2 (own_l20 p0))))))), .second] [(.int ((own_cc p3) - (48 : Int32))), (.long (((own_Y p1) - ((own_Y p1) / (own_gj own_pws (own_l20 p0))) * (own_gj own_pws (own_l20 p0))) + (((((own_cc p2) - (48 : Int32)).toInt64) - (own_dig (own_Y p1) (own_l20 p0) (own_pl p2 (own_l20 p0)))) * (own_gj own_pws (((own_l20 p0) - (1 : Int32)) - (own_pl p2 (own_l20 p0)))))))])) := by
                      refine C_1281.trans ?_
                      refine XS.icmpYes X_1260.here hx rfl (pc0 := 569) (pc' := 580) rfl (hb hby at_569) rfl (ii_ne_t hc_1282) (by decide) (by decide) ?_
                      refine XS.lload X_1260.here hx rfl (hb hby at_580) rfl ?_
                      refine XS.aload X_1260.here hx rfl (hb hby at_582) rfl rfl ?_
                      refine XS.iload X_1260.here hx rfl (hb hby at_584) rfl ?_
                      refine X_1260.laload hx (j := (own_l20 p0)) (v := (.long (own_gj own_pws (own_l20 p0)))) (by rw [e_1268]; exact A_1287.1) (State.isArrayOf_alike hZ.alike A_1287.2.1) A_1287.2.2 hin_1293 hat_1294 (g := (mkF m 586 #[.val (.int p0), .val (.long p1), .second, .val (.int p2), .val (.int p3), .val (.ref a_9), .val (.int (own_l20 p0)), .val (.long (own_Y p1)), .second, .val (.ref a_523), .val (.int (1 : Int32)), .val (.int (1 : Int32)), .val (.int (own_pl p2 (own_l20 p0))), .val (.int (own_pl p3 (own_l20 p0))), .val (.int (own_cc p2)), .val (.int (own_cc p3)), .val (.long (own_value (((own_ds (own_Y p1) (own_l20 p0)).set (own_pl p2 (own_l20 p0)).toNatClampNeg (own_cc p2)).set (own_pl p3 (own_l20 p0)).toNatClampNeg (own_cc p3)))), .second, .val (.int (1 : Int32)), .unset, .unset, .unset, .unset] [(.int (own_l20 p0)), (.ref a_9), (.long (own_Y p1))])) rfl rfl (hb hby at_586) _ ?_
                      refine XS.lrem X_1260.here hx rfl (hb hby at_587) rfl (own_pnz (own_l18 hc_1248).2) ?_
                      refine XS.lstore X_1260.here hx rfl (hb hby at_588) rfl (l' := #[.val (.int p0), .val (.long p1), .second, .val (.int p2), .val (.int p3), .val (.ref a_9), .val (.int (own_l20 p0)), .val (.long (own_Y p1)), .second, .val (.ref a_523), .val (.int (1 : Int32)), .val (.int (1 : Int32)), .val (.int (own_pl p2 (own_l20 p0))), .val (.int (own_pl p3 (own_l20 p0))), .val (.int (own_cc p2)), .val (.int (own_cc p3)), .val (.long (own_value (((own_ds (own_Y p1) (own_l20 p0)).set (own_pl p2 (own_l20 p0)).toNatClampNeg (own_cc p2)).set (own_pl p3 (own_l20 p0)).toNatClampNeg (own_cc p3)))), .second, .val (.int (1 : Int32)), .unset, .unset, .val (.long ((own_Y p1) - ((own_Y p1) / (own_gj own_pws (own_l20 p0))) * (own_gj own_pws (own_l20 p0)))), .second]) rfl ?_
                      refine XS.iload X_1260.here hx rfl (hb hby at_590) rfl ?_
                      show Steps p.tables e below (T_1260.setTop (mkF m 592 #[.val (.int p0), .val (.long p1), .second, .val (.int p2), .val (.int p3), .val (.ref a_9), .val (.int (own_l20 p0)), .val (.long (own_Y p1)), .second, .val (.ref a_523), .val (.int (1 : Int32)), .val (.int (1 : Int32)), .val (.int (own_pl p2 (own_l20 p0))), .val (.int (own_pl p3 (own_l20 p0))), .val (.int (own_cc p2)), .val (.int (own_cc p3)), .val (.long (own_value (((own_ds (own_Y p1) (own_l20 p0)).set (own_pl p2 (own_l20 p0)).toNatClampNeg (own_cc p2)).set (own_pl p3 (own_l20 p0)).toNatClampNeg (own_cc p3)))), .second, .val (.int (1 : Int32)), .unset, .unset, .val (.long ((own_Y p1) - ((own_Y p1) / (own_gj own_pws (own_l20 p0))) * (own_gj own_pws (own_l20 p0)))), .second] [(.int (1 : Int32))])) _
                      refine XS.ifNo X_1260.here hx rfl (hb hby at_592) rfl (by decide) ?_
                      refine XS.lload X_1260.here hx rfl (hb hby at_595) rfl ?_
                      refine XS.iload X_1260.here hx rfl (hb hby at_597) rfl ?_
                      refine XS.bipush X_1260.here hx rfl (hb hby at_599) ?_
                      refine XS.isub X_1260.here hx rfl (hb hby at_601) rfl ?_
                      refine XS.i2l X_1260.here hx rfl (hb hby at_602) rfl ?_
                      refine XS.aload X_1260.here hx rfl (hb hby at_603) rfl rfl ?_
                      refine XS.lload X_1260.here hx rfl (hb hby at_605) rfl ?_
                      show Steps p.tables e below (T_1260.setTop (mkF m 607 #[.val (.int p0), .val (.long p1), .second, .val (.int p2), .val (.int p3), .val (.ref a_9), .val (.int (own_l20 p0)), .val (.long (own_Y p1)), .second, .val (.ref a_523), .val (.int (1 : Int32)), .val (.int (1 : Int32)), .val (.int (own_pl p2 (own_l20 p0))), .val (.int (own_pl p3 (own_l20 p0))), .val (.int (own_cc p2)), .val (.int (own_cc p3)), .val (.long (own_value (((own_ds (own_Y p1) (own_l20 p0)).set (own_pl p2 (own_l20 p0)).toNatClampNeg (own_cc p2)).set (own_pl p3 (own_l20 p0)).toNatClampNeg (own_cc p3)))), .second, .val (.int (1 : Int32)), .unset, .unset, .val (.long ((own_Y p1) - ((own_Y p1) / (own_gj own_pws (own_l20 p0))) * (own_gj own_pws (own_l20 p0)))), .second] [(.long (own_Y p1)), (.ref a_9), (.long (((own_cc p2) - (48 : Int32)).toInt64)), (.long ((own_Y p1) - ((own_Y p1) / (own_gj own_pws (own_l20 p0))) * (own_gj own_pws (own_l20 p0))))])) _
                      refine XS.iload X_1260.here hx rfl (hb hby at_607) rfl ?_
                      refine XS.iload X_1260.here hx rfl (hb hby at_609) rfl ?_
                      refine st_1295 _ ?_
                      refine XS.lsub X_1295.here hx rfl (hb hby at_614) rfl ?_
                      refine XS.aload X_1295.here hx rfl (hb hby at_615) rfl rfl ?_
                      refine XS.iload X_1295.here hx rfl (hb hby at_617) rfl ?_
                      refine XS.iconst X_1295.here hx rfl (hb hby at_619) ?_
                      refine XS.isub X_1295.here hx rfl (hb hby at_620) rfl ?_
                      show Steps p.tables e below (T_1295.setTop (mkF m 621 #[.val (.int p0), .val (.long p1), .second, .val (.int p2), .val (.int p3), .val (.ref a_9), .val (.int (own_l20 p0)), .val (.long (own_Y p1)), .second, .val (.ref a_523), .val (.int (1 : Int32)), .val (.int (1 : Int32)), .val (.int (own_pl p2 (own_l20 p0))), .val (.int (own_pl p3 (own_l20 p0))), .val (.int (own_cc p2)), .val (.int (own_cc p3)), .val (.long (own_value (((own_ds (own_Y p1) (own_l20 p0)).set (own_pl p2 (own_l20 p0)).toNatClampNeg (own_cc p2)).set (own_pl p3 (own_l20 p0)).toNatClampNeg (own_cc p3)))), .second, .val (.int (1 : Int32)), .unset, .unset, .val (.long ((own_Y p1) - ((own_Y p1) / (own_gj own_pws (own_l20 p0))) * (own_gj own_pws (own_l20 p0)))), .second] [(.int ((own_l20 p0) - (1 : Int32))), (.ref a_9), (.long ((((own_cc p2) - (48 : Int32)).toInt64) - (own_dig (own_Y p1) (own_l20 p0) (own_pl p2 (own_l20 p0))))), (.long ((own_Y p1) - ((own_Y p1) / (own_gj own_pws (own_l20 p0))) * (own_gj own_pws (own_l20 p0))))])) _
                      refine XS.iload X_1295.here hx rfl (hb hby at_621) rfl ?_
                      refine XS.isub X_1295.here hx rfl (hb hby at_623) rfl ?_
                      refine X_1295.laload hx (j := (((own_l20 p0) - (1 : Int32)) - (own_pl p2 (own_l20 p0)))) (v := (.long (own_gj own_pws (((own_l20 p0) - (1 : Int32)) - (own_pl p2 (own_l20 p0)))))) (by rw [e_1299]; exact A_1301.1) (State.isArrayOf_alike hZ.alike A_1301.2.1) A_1301.2.2 hin_1307 hat_1308 (g := (mkF m 624 #[.val (.int p0), .val (.long p1), .second, .val (.int p2), .val (.int p3), .val (.ref a_9), .val (.int (own_l20 p0)), .val (.long (own_Y p1)), .second, .val (.ref a_523), .val (.int (1 : Int32)), .val (.int (1 : Int32)), .val (.int (own_pl p2 (own_l20 p0))), .val (.int (own_pl p3 (own_l20 p0))), .val (.int (own_cc p2)), .val (.int (own_cc p3)), .val (.long (own_value (((own_ds (own_Y p1) (own_l20 p0)).set (own_pl p2 (own_l20 p0)).toNatClampNeg (own_cc p2)).set (own_pl p3 (own_l20 p0)).toNatClampNeg (own_cc p3)))), .second, .val (.int (1 : Int32)), .unset, .unset, .val (.long ((own_Y p1) - ((own_Y p1) / (own_gj own_pws (own_l20 p0))) * (own_gj own_pws (own_l20 p0)))), .second] [(.int (((own_l20 p0) - (1 : Int32)) - (own_pl p2 (own_l20 p0)))), (.ref a_9), (.long ((((own_cc p2) - (48 : Int32)).toInt64) - (own_dig (own_Y p1) (own_l20 p0) (own_pl p2 (own_l20 p0))))), (.long ((own_Y p1) - ((own_Y p1) / (own_gj own_pws (own_l20 p0))) * (own_gj own_pws (own_l20 p0))))])) rfl rfl (hb hby at_624) _ ?_
                      refine XS.lmul X_1295.here hx rfl (hb hby at_625) rfl ?_
                      refine XS.ladd X_1295.here hx rfl (hb hby at_626) rfl ?_
                      refine XS.lstore X_1295.here hx rfl (hb hby at_627) rfl (l' := #[.val (.int p0), .val (.long p1), .second, .val (.int p2), .val (.int p3), .val (.ref a_9), .val (.int (own_l20 p0)), .val (.long (own_Y p1)), .second, .val (.ref a_523), .val (.int (1 : Int32)), .val (.int (1 : Int32)), .val (.int (own_pl p2 (own_l20 p0))), .val (.int (own_pl p3 (own_l20 p0))), .val (.int (own_cc p2)), .val (.int (own_cc p3)), .val (.long (own_value (((own_ds (own_Y p1) (own_l20 p0)).set (own_pl p2 (own_l20 p0)).toNatClampNeg (own_cc p2)).set (own_pl p3 (own_l20 p0)).toNatClampNeg (own_cc p3)))), .second, .val (.int (1 : Int32)), .unset, .unset, .val (.long (((own_Y p1) - ((own_Y p1) / (own_gj own_pws (own_l20 p0))) * (own_gj own_pws (own_l20 p0))) + (((((own_cc p2) - (48 : Int32)).toInt64) - (own_dig (own_Y p1) (own_l20 p0) (own_pl p2 (own_l20 p0)))) * (own_gj own_pws (((own_l20 p0) - (1 : Int32)) - (own_pl p2 (own_l20 p0))))))), .second]) rfl ?_
                      refine XS.iload X_1295.here hx rfl (hb hby at_629) rfl ?_
                      refine XS.ifNo X_1295.here hx rfl (hb hby at_631) rfl (by decide) ?_
                      show Steps p.tables e below (T_1295.setTop (mkF m 634 #[.val (.int p0), .val (.long p1), .second, .val (.int p2), .val (.int p3), .val (.ref a_9), .val (.int (own_l20 p0)), .val (.long (own_Y p1)), .second, .val (.ref a_523), .val (.int (1 : Int32)), .val (.int (1 : Int32)), .val (.int (own_pl p2 (own_l20 p0))), .val (.int (own_pl p3 (own_l20 p0))), .val (.int (own_cc p2)), .val (.int (own_cc p3)), .val (.long (own_value (((own_ds (own_Y p1) (own_l20 p0)).set (own_pl p2 (own_l20 p0)).toNatClampNeg (own_cc p2)).set (own_pl p3 (own_l20 p0)).toNatClampNeg (own_cc p3)))), .second, .val (.int (1 : Int32)), .unset, .unset, .val (.long (((own_Y p1) - ((own_Y p1) / (own_gj own_pws (own_l20 p0))) * (own_gj own_pws (own_l20 p0))) + (((((own_cc p2) - (48 : Int32)).toInt64) - (own_dig (own_Y p1) (own_l20 p0) (own_pl p2 (own_l20 p0)))) * (own_gj own_pws (((own_l20 p0) - (1 : Int32)) - (own_pl p2 (own_l20 p0))))))), .second] [])) _
                      refine XS.lload X_1295.here hx rfl (hb hby at_634) rfl ?_
                      refine XS.iload X_1295.here hx rfl (hb hby at_636) rfl ?_
                      refine XS.bipush X_1295.here hx rfl (hb hby at_638) ?_
                      refine XS.isub X_1295.here hx rfl (hb hby at_640) rfl ?_
                      exact Steps.refl _
                    obtain ⟨_, _, ⟨T_1310, L_1310, k_1310, n_1310⟩, -, X_1310, ⟨Lc_1310, hQ_1310, l_1310, y_1310, z_1310⟩, st_1310⟩ := Jvm.LawKit.callS X_1295 hx (y := M216) hown (mvT hZ (w63 hw)) (mvT hZ (w64 hw)) (mvT hZ (w23 hw)) (mvT hZ (w65 hw)) (by decide) (backOf (W := 4) (rm_digit l Z a0 hw [] G1 G3 HG T_1135.heap n0 O_1148 a_9 k_3 (own_Y p1) (own_l20 p0) (own_pl p3 (own_l20 p0)) V_1285 hr_514.1 hr_514.2 (own_l19 p0)) hZ (w65 hw) (w23 hw) (by decide) (by decide)) (g := (mkF m 650 #[.val (.int p0), .val (.long p1), .second, .val (.int p2), .val (.int p3), .val (.ref a_9), .val (.int (own_l20 p0)), .val (.long (own_Y p1)), .second, .val (.ref a_523), .val (.int (1 : Int32)), .val (.int (1 : Int32)), .val (.int (own_pl p2 (own_l20 p0))), .val (.int (own_pl p3 (own_l20 p0))), .val (.int (own_cc p2)), .val (.int (own_cc p3)), .val (.long (own_value (((own_ds (own_Y p1) (own_l20 p0)).set (own_pl p2 (own_l20 p0)).toNatClampNeg (own_cc p2)).set (own_pl p3 (own_l20 p0)).toNatClampNeg (own_cc p3)))), .second, .val (.int (1 : Int32)), .unset, .unset, .val (.long (((own_Y p1) - ((own_Y p1) / (own_gj own_pws (own_l20 p0))) * (own_gj own_pws (own_l20 p0))) + (((((own_cc p2) - (48 : Int32)).toInt64) - (own_dig (own_Y p1) (own_l20 p0) (own_pl p2 (own_l20 p0)))) * (own_gj own_pws (((own_l20 p0) - (1 : Int32)) - (own_pl p2 (own_l20 p0))))))), .second] [(.int (own_pl p3 (own_l20 p0))), (.int (own_l20 p0)), (.long (own_Y p1)), (.ref a_9), (.long (((own_cc p3) - (48 : Int32)).toInt64)), (.long (((own_Y p1) - ((own_Y p1) / (own_gj own_pws (own_l20 p0))) * (own_gj own_pws (own_l20 p0))) + (((((own_cc p2) - (48 : Int32)).toInt64) - (own_dig (own_Y p1) (own_l20 p0) (own_pl p2 (own_l20 p0)))) * (own_gj own_pws (((own_l20 p0) - (1 : Int32)) - (own_pl p2 (own_l20 p0)))))))])) rfl (by rw [hml]; rfl) (argsL := [(.ref a_9), (.long (own_Y p1)), (.int (own_l20 p0)), (.int (own_pl p3 (own_l20 p0)))]) (rest := [(.long (((own_cc p3) - (48 : Int32)).toInt64)), (.long (((own_Y p1) - ((own_Y p1) / (own_gj own_pws (own_l20 p0))) * (own_gj own_pws (own_l20 p0))) + (((((own_cc p2) - (48 : Int32)).toInt64) - (own_dig (own_Y p1) (own_l20 p0) (own_pl p2 (own_l20 p0)))) * (own_gj own_pws (((own_l20 p0) - (1 : Int32)) - (own_pl p2 (own_l20 p0)))))))]) (lenOf pd_248 rfl) rfl (by show 2 * 0 + _ ≤ _; exact Nat.le_of_eq rfl) (hb hby at_650) (fun _ _ => ⟨rfl, e_1299, (by decide : 4 + 0 ≤ _), (by decide : 61 + 0 ≤ _)⟩)
                    dsimp only [Pt.U, Pt.locs, Pt.cells, Pt.slots] at X_1310 l_1310 y_1310 z_1310 st_1310 hQ_1310
                    have X_1310 := own_cast X_1310 l_1310 y_1310 z_1310
                    obtain ⟨rfl, N_1311, e_1312⟩ := hQ_1310
                    have N_1313 := Fr.app N_1298 N_1311
                    have e_1314 : T_1310.heap = T_1135.heap := e_1312
                    obtain ⟨c_1315, A_1316, q_1317, S_1318, M_1319, H_1320, U_1321⟩ := id V_1285
                    have hin_1322 : ¬ ((((own_l20 p0) - (1 : Int32)) - (own_pl p3 (own_l20 p0))) < 0 ∨ c_1315.slots.size ≤ (((own_l20 p0) - (1 : Int32)) - (own_pl p3 (own_l20 p0))).toNatClampNeg) := inb_of S_1318 ⟨(own_sub_nat hr_514.1 hr_514.2).2.1, (own_lt19 hr_514.1 hr_514.2 (own_l19 p0)).2.1⟩
                    have hat_1323 : c_1315.slots[(((own_l20 p0) - (1 : Int32)) - (own_pl p3 (own_l20 p0))).toNatClampNeg]? = some (.long (own_gj own_pws (((own_l20 p0) - (1 : Int32)) - (own_pl p3 (own_l20 p0))))) := Has.at H_1320 hin_1322 (own_jv_at own_pws (((own_l20 p0) - (1 : Int32)) - (own_pl p3 (own_l20 p0))))
                    have C_1324 : Steps p.tables e below S0 (T_1310.setTop (mkF m 685 #[.val (.int p0), .val (.long p1), .second, .val (.int p2), .val (.int p3), .val (.ref a_9), .val (.int (own_l20 p0)), .val (.long (own_Y p1)), .second, .val (.ref a_523), .val (.int (1 : Int32)), .val (.int (1 : Int32)), .val (.int (own_pl p2 (own_l20 p0))), .val (.int (own_pl p3 (own_l20 p0))), .val (.int (own_cc p2)), .val (.int (own_cc p3)), .val (.long (own_value (((own_ds (own_Y p1) (own_l20 p0)).set (own_pl p2 (own_l20 p0)).toNatClampNeg (own_cc p2)).set (own_pl p3 (own_l20 p0)).toNatClampNeg (own_cc p3)))), .second, .val (.int (1 : Int32)), .val (.long ((((own_Y p1) - ((own_Y p1) / (own_gj own_pws (own_l20 p0))) * (own_gj own_pws (own_l20 p0))) + (((((own_cc p2) - (48 : Int32)).toInt64) - (own_dig (own_Y p1) (own_l20 p0) (own_pl p2 (own_l20 p0)))) * (own_gj own_pws (((own_l20 p0) - (1 : Int32)) - (own_pl p2 (own_l20 p0)))))) + (((((own_cc p3) - (48 : Int32)).toInt64) - (own_dig (own_Y p1) (own_l20 p0) (own_pl p3 (own_l20 p0)))) * (own_gj own_pws (((own_l20 p0) - (1 : Int32)) - (own_pl p3 (own_l20 p0))))))), .second, .val (.long ((((own_Y p1) - ((own_Y p1) / (own_gj own_pws (own_l20 p0))) * (own_gj own_pws (own_l20 p0))) + (((((own_cc p2) - (48 : Int32)).toInt64) - (own_dig (own_Y p1) (own_l20 p0) (own_pl p2 (own_l20 p0)))) * (own_gj own_pws (((own_l20 p0) - (1 : Int32)) - (own_pl p2 (own_l20 p0)))))) + (((((own_cc p3) - (48 : Int32)).toInt64) - (own_dig (own_Y p1) (own_l20 p0) (own_pl p3 (own_l20 p0)))) * (own_gj own_pws (((own_l20 p0) - (1 : Int32)) - (own_pl p3 (own_l20 p0))))))), .second] [(.int (1 : Int32))])) := by
                      refine C_1309.trans ?_
                      refine XS.i2l X_1295.here hx rfl (hb hby at_641) rfl ?_
                      refine XS.aload X_1295.here hx rfl (hb hby at_642) rfl rfl ?_
                      refine XS.lload X_1295.here hx rfl (hb hby at_644) rfl ?_
                      refine XS.iload X_1295.here hx rfl (hb hby at_646) rfl ?_
                      refine XS.iload X_1295.here hx rfl (hb hby at_648) rfl ?_
                      refine st_1310 _ ?_
                      refine XS.lsub X_1310.here hx rfl (hb hby at_653) rfl ?_
                      refine XS.aload X_1310.here hx rfl (hb hby at_654) rfl rfl ?_
                      show Steps p.tables e below (T_1310.setTop (mkF m 656 #[.val (.int p0), .val (.long p1), .second, .val (.int p2), .val (.int p3), .val (.ref a_9), .val (.int (own_l20 p0)), .val (.long (own_Y p1)), .second, .val (.ref a_523), .val (.int (1 : Int32)), .val (.int (1 : Int32)), .val (.int (own_pl p2 (own_l20 p0))), .val (.int (own_pl p3 (own_l20 p0))), .val (.int (own_cc p2)), .val (.int (own_cc p3)), .val (.long (own_value (((own_ds (own_Y p1) (own_l20 p0)).set (own_pl p2 (own_l20 p0)).toNatClampNeg (own_cc p2)).set (own_pl p3 (own_l20 p0)).toNatClampNeg (own_cc p3)))), .second, .val (.int (1 : Int32)), .unset, .unset, .val (.long (((own_Y p1) - ((own_Y p1) / (own_gj own_pws (own_l20 p0))) * (own_gj own_pws (own_l20 p0))) + (((((own_cc p2) - (48 : Int32)).toInt64) - (own_dig (own_Y p1) (own_l20 p0) (own_pl p2 (own_l20 p0)))) * (own_gj own_pws (((own_l20 p0) - (1 : Int32)) - (own_pl p2 (own_l20 p0))))))), .second] [(.ref a_9), (.long ((((own_cc p3) - (48 : Int32)).toInt64) - (own_dig (own_Y p1) (own_l20 p0) (own_pl p3 (own_l20 p0))))), (.long (((own_Y p1) - ((own_Y p1) / (own_gj own_pws (own_l20 p0))) * (own_gj own_pws (own_l20 p0))) + (((((own_cc p2) - (48 : Int32)).toInt64) - (own_dig (own_Y p1) (own_l20 p0) (own_pl p2 (own_l20 p0)))) * (own_gj own_pws (((own_l20 p0) - (1 : Int32)) - (own_pl p2 (own_l20 p0)))))))])) _
                      refine XS.iload X_1310.here hx rfl (hb hby at_656) rfl ?_
                      refine XS.iconst X_1310.here hx rfl (hb hby at_658) ?_
                      refine XS.isub X_1310.here hx rfl (hb hby at_659) rfl ?_
                      refine XS.iload X_1310.here hx rfl (hb hby at_660) rfl ?_
                      refine XS.isub X_1310.here hx rfl (hb hby at_662) rfl ?_
                      refine X_1310.laload hx (j := (((own_l20 p0) - (1 : Int32)) - (own_pl p3 (own_l20 p0)))) (v := (.long (own_gj own_pws (((own_l20 p0) - (1 : Int32)) - (own_pl p3 (own_l20 p0)))))) (by rw [e_1314]; exact A_1316.1) (State.isArrayOf_alike hZ.alike A_1316.2.1) A_1316.2.2 hin_1322 hat_1323 (g := (mkF m 663 #[.val (.int p0), .val (.long p1), .second, .val (.int p2), .val (.int p3), .val (.ref a_9), .val (.int (own_l20 p0)), .val (.long (own_Y p1)), .second, .val (.ref a_523), .val (.int (1 : Int32)), .val (.int (1 : Int32)), .val (.int (own_pl p2 (own_l20 p0))), .val (.int (own_pl p3 (own_l20 p0))), .val (.int (own_cc p2)), .val (.int (own_cc p3)), .val (.long (own_value (((own_ds (own_Y p1) (own_l20 p0)).set (own_pl p2 (own_l20 p0)).toNatClampNeg (own_cc p2)).set (own_pl p3 (own_l20 p0)).toNatClampNeg (own_cc p3)))), .second, .val (.int (1 : Int32)), .unset, .unset, .val (.long (((own_Y p1) - ((own_Y p1) / (own_gj own_pws (own_l20 p0))) * (own_gj own_pws (own_l20 p0))) + (((((own_cc p2) - (48 : Int32)).toInt64) - (own_dig (own_Y p1) (own_l20 p0) (own_pl p2 (own_l20 p0)))) * (own_gj own_pws (((own_l20 p0) - (1 : Int32)) - (own_pl p2 (own_l20 p0))))))), .second] [(.int (((own_l20 p0) - (1 : Int32)) - (own_pl p3 (own_l20 p0)))), (.ref a_9), (.long ((((own_cc p3) - (48 : Int32)).toInt64) - (own_dig (own_Y p1) (own_l20 p0) (own_pl p3 (own_l20 p0))))), (.long (((own_Y p1) - ((own_Y p1) / (own_gj own_pws (own_l20 p0))) * (own_gj own_pws (own_l20 p0))) + (((((own_cc p2) - (48 : Int32)).toInt64) - (own_dig (own_Y p1) (own_l20 p0) (own_pl p2 (own_l20 p0)))) * (own_gj own_pws (((own_l20 p0) - (1 : Int32)) - (own_pl p2 (own_l20 p0)))))))])) rfl rfl (hb hby at_663) _ ?_
                      refine XS.lmul X_1310.here hx rfl (hb hby at_664) rfl ?_
                      refine XS.ladd X_1310.here hx rfl (hb hby at_665) rfl ?_
                      show Steps p.tables e below (T_1310.setTop (mkF m 666 #[.val (.int p0), .val (.long p1), .second, .val (.int p2), .val (.int p3), .val (.ref a_9), .val (.int (own_l20 p0)), .val (.long (own_Y p1)), .second, .val (.ref a_523), .val (.int (1 : Int32)), .val (.int (1 : Int32)), .val (.int (own_pl p2 (own_l20 p0))), .val (.int (own_pl p3 (own_l20 p0))), .val (.int (own_cc p2)), .val (.int (own_cc p3)), .val (.long (own_value (((own_ds (own_Y p1) (own_l20 p0)).set (own_pl p2 (own_l20 p0)).toNatClampNeg (own_cc p2)).set (own_pl p3 (own_l20 p0)).toNatClampNeg (own_cc p3)))), .second, .val (.int (1 : Int32)), .unset, .unset, .val (.long (((own_Y p1) - ((own_Y p1) / (own_gj own_pws (own_l20 p0))) * (own_gj own_pws (own_l20 p0))) + (((((own_cc p2) - (48 : Int32)).toInt64) - (own_dig (own_Y p1) (own_l20 p0) (own_pl p2 (own_l20 p0)))) * (own_gj own_pws (((own_l20 p0) - (1 : Int32)) - (own_pl p2 (own_l20 p0))))))), .second] [(.long ((((own_Y p1) - ((own_Y p1) / (own_gj own_pws (own_l20 p0))) * (own_gj own_pws (own_l20 p0))) + (((((own_cc p2) - (48 : Int32)).toInt64) - (own_dig (own_Y p1) (own_l20 p0) (own_pl p2 (own_l20 p0)))) * (own_gj own_pws (((own_l20 p0) - (1 : Int32)) - (own_pl p2 (own_l20 p0)))))) + (((((own_cc p3) - (48 : Int32)).toInt64) - (own_dig (own_Y p1) (own_l20 p0) (own_pl p3 (own_l20 p0)))) * (own_gj own_pws (((own_l20 p0) - (1 : Int32)) - (own_pl p3 (own_l20 p0)))))))])) _
                      refine XS.lstore X_1310.here hx rfl (hb hby at_666) rfl (l' := #[.val (.int p0), .val (.long p1), .second, .val (.int p2), .val (.int p3), .val (.ref a_9), .val (.int (own_l20 p0)), .val (.long (own_Y p1)), .second, .val (.ref a_523), .val (.int (1 : Int32)), .val (.int (1 : Int32)), .val (.int (own_pl p2 (own_l20 p0))), .val (.int (own_pl p3 (own_l20 p0))), .val (.int (own_cc p2)), .val (.int (own_cc p3)), .val (.long (own_value (((own_ds (own_Y p1) (own_l20 p0)).set (own_pl p2 (own_l20 p0)).toNatClampNeg (own_cc p2)).set (own_pl p3 (own_l20 p0)).toNatClampNeg (own_cc p3)))), .second, .val (.int (1 : Int32)), .unset, .unset, .val (.long ((((own_Y p1) - ((own_Y p1) / (own_gj own_pws (own_l20 p0))) * (own_gj own_pws (own_l20 p0))) + (((((own_cc p2) - (48 : Int32)).toInt64) - (own_dig (own_Y p1) (own_l20 p0) (own_pl p2 (own_l20 p0)))) * (own_gj own_pws (((own_l20 p0) - (1 : Int32)) - (own_pl p2 (own_l20 p0)))))) + (((((own_cc p3) - (48 : Int32)).toInt64) - (own_dig (own_Y p1) (own_l20 p0) (own_pl p3 (own_l20 p0)))) * (own_gj own_pws (((own_l20 p0) - (1 : Int32)) - (own_pl p3 (own_l20 p0))))))), .second]) rfl ?_
                      refine XS.lload X_1310.here hx rfl (hb hby at_668) rfl ?_
                      refine XS.lstore X_1310.here hx rfl (hb hby at_670) rfl (l' := #[.val (.int p0), .val (.long p1), .second, .val (.int p2), .val (.int p3), .val (.ref a_9), .val (.int (own_l20 p0)), .val (.long (own_Y p1)), .second, .val (.ref a_523), .val (.int (1 : Int32)), .val (.int (1 : Int32)), .val (.int (own_pl p2 (own_l20 p0))), .val (.int (own_pl p3 (own_l20 p0))), .val (.int (own_cc p2)), .val (.int (own_cc p3)), .val (.long (own_value (((own_ds (own_Y p1) (own_l20 p0)).set (own_pl p2 (own_l20 p0)).toNatClampNeg (own_cc p2)).set (own_pl p3 (own_l20 p0)).toNatClampNeg (own_cc p3)))), .second, .val (.int (1 : Int32)), .val (.long ((((own_Y p1) - ((own_Y p1) / (own_gj own_pws (own_l20 p0))) * (own_gj own_pws (own_l20 p0))) + (((((own_cc p2) - (48 : Int32)).toInt64) - (own_dig (own_Y p1) (own_l20 p0) (own_pl p2 (own_l20 p0)))) * (own_gj own_pws (((own_l20 p0) - (1 : Int32)) - (own_pl p2 (own_l20 p0)))))) + (((((own_cc p3) - (48 : Int32)).toInt64) - (own_dig (own_Y p1) (own_l20 p0) (own_pl p3 (own_l20 p0)))) * (own_gj own_pws (((own_l20 p0) - (1 : Int32)) - (own_pl p3 (own_l20 p0))))))), .second, .val (.long ((((own_Y p1) - ((own_Y p1) / (own_gj own_pws (own_l20 p0))) * (own_gj own_pws (own_l20 p0))) + (((((own_cc p2) - (48 : Int32)).toInt64) - (own_dig (own_Y p1) (own_l20 p0) (own_pl p2 (own_l20 p0)))) * (own_gj own_pws (((own_l20 p0) - (1 : Int32)) - (own_pl p2 (own_l20 p0)))))) + (((((own_cc p3) - (48 : Int32)).toInt64) - (own_dig (own_Y p1) (own_l20 p0) (own_pl p3 (own_l20 p0)))) * (own_gj own_pws (((own_l20 p0) - (1 : Int32)) - (own_pl p3 (own_l20 p0))))))), .second]) rfl ?_
                      refine XS.lload X_1310.here hx rfl (hb hby at_672) rfl ?_
                      refine XS.lload X_1310.here hx rfl (hb hby at_674) rfl ?_
                      refine XS.lcmp X_1310.here hx rfl (hb hby at_676) rfl ?_
                      refine XS.ifNo X_1310.here hx rfl (hb hby at_677) rfl (i0_ne_f ((lw_eq (own_value (((own_ds (own_Y p1) (own_l20 p0)).set (own_pl p2 (own_l20 p0)).toNatClampNeg (own_cc p2)).set (own_pl p3 (own_l20 p0)).toNatClampNeg (own_cc p3))) ((((own_Y p1) - ((own_Y p1) / (own_gj own_pws (own_l20 p0))) * (own_gj own_pws (own_l20 p0))) + (((((own_cc p2) - (48 : Int32)).toInt64) - (own_dig (own_Y p1) (own_l20 p0) (own_pl p2 (own_l20 p0)))) * (own_gj own_pws (((own_l20 p0) - (1 : Int32)) - (own_pl p2 (own_l20 p0)))))) + (((((own_cc p3) - (48 : Int32)).toInt64) - (own_dig (own_Y p1) (own_l20 p0) (own_pl p3 (own_l20 p0)))) * (own_gj own_pws (((own_l20 p0) - (1 : Int32)) - (own_pl p3 (own_l20 p0))))))).mpr (own_F2 (own_Y0 p1) hp_512 hc_1248 hr_513.1 hr_513.2 g_1257 hr_514.1 hr_514.2 g_1266 hc_1156 (Or.inr hc_1282)))) ?_
                      refine XS.iconst X_1310.here hx rfl (hb hby at_680) ?_
                      show Steps p.tables e below (T_1310.setTop (mkF m 681 #[.val (.int p0), .val (.long p1), .second, .val (.int p2), .val (.int p3), .val (.ref a_9), .val (.int (own_l20 p0)), .val (.long (own_Y p1)), .second, .val (.ref a_523), .val (.int (1 : Int32)), .val (.int (1 : Int32)), .val (.int (own_pl p2 (own_l20 p0))), .val (.int (own_pl p3 (own_l20 p0))), .val (.int (own_cc p2)), .val (.int (own_cc p3)), .val (.long (own_value (((own_ds (own_Y p1) (own_l20 p0)).set (own_pl p2 (own_l20 p0)).toNatClampNeg (own_cc p2)).set (own_pl p3 (own_l20 p0)).toNatClampNeg (own_cc p3)))), .second, .val (.int (1 : Int32)), .val (.long ((((own_Y p1) - ((own_Y p1) / (own_gj own_pws (own_l20 p0))) * (own_gj own_pws (own_l20 p0))) + (((((own_cc p2) - (48 : Int32)).toInt64) - (own_dig (own_Y p1) (own_l20 p0) (own_pl p2 (own_l20 p0)))) * (own_gj own_pws (((own_l20 p0) - (1 : Int32)) - (own_pl p2 (own_l20 p0)))))) + (((((own_cc p3) - (48 : Int32)).toInt64) - (own_dig (own_Y p1) (own_l20 p0) (own_pl p3 (own_l20 p0)))) * (own_gj own_pws (((own_l20 p0) - (1 : Int32)) - (own_pl p3 (own_l20 p0))))))), .second, .val (.long ((((own_Y p1) - ((own_Y p1) / (own_gj own_pws (own_l20 p0))) * (own_gj own_pws (own_l20 p0))) + (((((own_cc p2) - (48 : Int32)).toInt64) - (own_dig (own_Y p1) (own_l20 p0) (own_pl p2 (own_l20 p0)))) * (own_gj own_pws (((own_l20 p0) - (1 : Int32)) - (own_pl p2 (own_l20 p0)))))) + (((((own_cc p3) - (48 : Int32)).toInt64) - (own_dig (own_Y p1) (own_l20 p0) (own_pl p3 (own_l20 p0)))) * (own_gj own_pws (((own_l20 p0) - (1 : Int32)) - (own_pl p3 (own_l20 p0))))))), .second] [(.int (1 : Int32))])) _
                      refine XS.goto X_1310.here hx rfl (pc0 := 681) (pc' := 685) rfl (hb hby at_681) (by decide) (by decide) ?_
                      exact Steps.refl _
                    have K_1325 : Keep h0 T_1135.heap [] := K_1154
                    obtain ⟨fs, hr, hrun, hended, hRE⟩ := X_1310.leaveW hS0 (by rw [show T_1310.heap = T_1135.heap from e_1314]; exact (Nat.le_trans (Nat.le_refl _) (Nat.le_trans (Nat.le_trans (Nat.le_trans (Nat.le_trans (Nat.le_trans (Nat.le_trans (Nat.le_trans (Nat.le_trans (Nat.le_trans (Nat.le_trans (Nat.le_trans (Nat.le_trans (Nat.le_trans (Nat.le_trans (Nat.le_trans (Nat.le_trans (Nat.le_trans (Nat.le_trans (Nat.le_trans (Nat.le_trans (Nat.le_trans (Nat.le_trans (Nat.le_trans (Nat.le_trans (Nat.le_trans (Nat.le_trans (Nat.le_trans (Nat.le_trans (Nat.le_trans (Nat.le_trans (Nat.le_trans (Nat.le_trans (Nat.le_trans (Nat.le_trans (Nat.le_trans (Nat.le_trans (Nat.le_trans (Nat.le_trans (Nat.le_trans (Nat.le_trans (Nat.le_trans (Nat.le_trans (Nat.le_trans E_6.1 (Keep.of_wr W_26).1) (Keep.of_wr W_44).1) (Keep.of_wr W_62).1) (Keep.of_wr W_80).1) (Keep.of_wr W_98).1) (Keep.of_wr W_116).1) (Keep.of_wr W_134).1) (Keep.of_wr W_152).1) (Keep.of_wr W_171).1) (Keep.of_wr W_189).1) (Keep.of_wr W_207).1) (Keep.of_wr W_225).1) (Keep.of_wr W_243).1) (Keep.of_wr W_261).1) (Keep.of_wr W_279).1) (Keep.of_wr W_297).1) (Keep.of_wr W_315).1) (Keep.of_wr W_334).1) (Keep.of_wr W_352).1) E_520.1) K_534.1) K_543.1) K_552.1) K_561.1) K_570.1) K_580.1) K_589.1) K_598.1) K_607.1) K_616.1) K_625.1) K_634.1) K_644.1) K_653.1) K_662.1) K_671.1) K_680.1) K_689.1) K_698.1) (Keep.of_wr W_1094).1) (Keep.of_wr W_1112).1) E_1123.1) K_1139.1))) (v := some (.int (1 : Int32))) (fun h => by rw [Bd.returns] at h; cases h)
                    refine ⟨_, _, C_1324.trans (retN X_1310 hx (t := .boolean) Bd.returns (by simp) (hb hby at_685) hr), hrun, hended, _, _, rfl, ?_, ?_, hRE.1, hRE.2.1, hRE.2.2.1, hRE.2.2.2.mono (by decide) (by decide)⟩
                    · show Q_law Z G1 G3 p0 p1 p2 p3 h0 n0 (some (.int (1 : Int32))) T_1310.heap _
                      rw [e_1314]
                      exact ⟨rfl, N_1313, K_1325⟩
                    · show CHr Z consts_1 s.vm s.heap T_1310.vm T_1310.heap
                      rw [hh, show T_1310.heap = T_1135.heap from e_1314]
                      exact CR_1147.trans (CHv.at X_1310 hZ hEL CH_1146)
                · skip
                  have V_1326 : Arv Z T_1135.heap a_9 k_3 .long (19 : Int32) (own_jv own_pws) (.long (0 : Int64)) := (((((V_694.keep K_698 (ninS (Nat.ne_of_lt (Nat.lt_of_lt_of_le V_359.lt (Nat.le_trans (Nat.le_refl _) (Nat.le_of_eq g_524.symm)))) nin0)).other W_1094 (Nat.ne_of_lt (Nat.lt_of_lt_of_le V_359.lt (Nat.le_trans (Nat.le_refl _) (Nat.le_of_eq g_524.symm))))).other W_1112 (Nat.ne_of_lt (Nat.lt_of_lt_of_le V_359.lt (Nat.le_trans (Nat.le_refl _) (Nat.le_of_eq g_524.symm))))).ext E_1123).keep K_1139 (ninS (Nat.ne_of_lt (Nat.lt_of_lt_of_le V_359.lt (Nat.le_trans (Nat.le_trans (Nat.le_trans (Nat.le_trans (Nat.le_trans (Nat.le_trans (Nat.le_trans (Nat.le_trans (Nat.le_trans (Nat.le_trans (Nat.le_trans (Nat.le_trans (Nat.le_trans (Nat.le_trans (Nat.le_trans (Nat.le_trans (Nat.le_trans (Nat.le_trans (Nat.le_trans (Nat.le_trans (Nat.le_trans (Nat.le_trans E_520.1 K_534.1) K_543.1) K_552.1) K_561.1) K_570.1) K_580.1) K_589.1) K_598.1) K_607.1) K_616.1) K_625.1) K_634.1) K_644.1) K_653.1) K_662.1) K_671.1) K_680.1) K_689.1) K_698.1) (Keep.of_wr W_1094).1) (Keep.of_wr W_1112).1) (Nat.le_of_eq g_1128.symm)))) nin0))
                  obtain ⟨c_1327, A_1328, q_1329, S_1330, M_1331, H_1332, U_1333⟩ := id V_1326
                  have hin_1334 : ¬ ((own_l20 p0) < 0 ∨ c_1327.slots.size ≤ (own_l20 p0).toNatClampNeg) := inb_of S_1330 ⟨(own_l0 p0), (own_l18 hc_1248).1⟩
                  have hat_1335 : c_1327.slots[(own_l20 p0).toNatClampNeg]? = some (.long (own_gj own_pws (own_l20 p0))) := Has.at H_1332 hin_1334 (own_jv_at own_pws (own_l20 p0))
                  obtain ⟨_, _, ⟨T_1336, L_1336, k_1336, n_1336⟩, -, X_1336, ⟨Lc_1336, hQ_1336, l_1336, y_1336, z_1336⟩, st_1336⟩ := Jvm.LawKit.callS X_1260 hx (y := M216) hown (mvT hZ (w63 hw)) (mvT hZ (w64 hw)) (mvT hZ (w23 hw)) (mvT hZ (w65 hw)) (by decide) (backOf (W := 4) (rm_digit l Z a0 hw [] G1 G3 HG T_1135.heap n0 O_1148 a_9 k_3 (own_Y p1) (own_l20 p0) (own_pl p2 (own_l20 p0)) V_1326 hr_513.1 hr_513.2 (own_l19 p0)) hZ (w65 hw) (w23 hw) (by decide) (by decide)) (g := (mkF m 611 #[.val (.int p0), .val (.long p1), .second, .val (.int p2), .val (.int p3), .val (.ref a_9), .val (.int (own_l20 p0)), .val (.long (own_Y p1)), .second, .val (.ref a_523), .val (.int (1 : Int32)), .val (.int (1 : Int32)), .val (.int (own_pl p2 (own_l20 p0))), .val (.int (own_pl p3 (own_l20 p0))), .val (.int (own_cc p2)), .val (.int (own_cc p3)), .val (.long (own_value (((own_ds (own_Y p1) (own_l20 p0)).set (own_pl p2 (own_l20 p0)).toNatClampNeg (own_cc p2)).set (own_pl p3 (own_l20 p0)).toNatClampNeg (own_cc p3)))), .second, .val (.int (1 : Int32)), .unset, .unset, .val (.long ((own_Y p1) - ((own_Y p1) / (own_gj own_pws (own_l20 p0))) * (own_gj own_pws (own_l20 p0)))), .second] [(.int (own_pl p2 (own_l20 p0))), (.int (own_l20 p0)), (.long (own_Y p1)), (.ref a_9), (.long (((own_cc p2) - (48 : Int32)).toInt64)), (.long ((own_Y p1) - ((own_Y p1) / (own_gj own_pws (own_l20 p0))) * (own_gj own_pws (own_l20 p0))))])) rfl (by rw [hml]; rfl) (argsL := [(.ref a_9), (.long (own_Y p1)), (.int (own_l20 p0)), (.int (own_pl p2 (own_l20 p0)))]) (rest := [(.long (((own_cc p2) - (48 : Int32)).toInt64)), (.long ((own_Y p1) - ((own_Y p1) / (own_gj own_pws (own_l20 p0))) * (own_gj own_pws (own_l20 p0))))]) (lenOf pd_248 rfl) rfl (by show 2 * 0 + _ ≤ _; exact Nat.le_of_eq rfl) (hb hby at_611) (fun _ _ => ⟨rfl, e_1268, (by decide : 4 + 0 ≤ _), (by decide : 61 + 0 ≤ _)⟩)
                  dsimp only [Pt.U, Pt.locs, Pt.cells, Pt.slots] at X_1336 l_1336 y_1336 z_1336 st_1336 hQ_1336
                  have X_1336 := own_cast X_1336 l_1336 y_1336 z_1336
                  obtain ⟨rfl, N_1337, e_1338⟩ := hQ_1336
                  have N_1339 := Fr.app N_1267 N_1337
                  have e_1340 : T_1336.heap = T_1135.heap := e_1338
                  obtain ⟨c_1341, A_1342, q_1343, S_1344, M_1345, H_1346, U_1347⟩ := id V_1326
                  have hin_1348 : ¬ ((((own_l20 p0) - (1 : Int32)) - (own_pl p2 (own_l20 p0))) < 0 ∨ c_1341.slots.size ≤ (((own_l20 p0) - (1 : Int32)) - (own_pl p2 (own_l20 p0))).toNatClampNeg) := inb_of S_1344 ⟨(own_sub_nat hr_513.1 hr_513.2).2.1, (own_lt19 hr_513.1 hr_513.2 (own_l19 p0)).2.1⟩
                  have hat_1349 : c_1341.slots[(((own_l20 p0) - (1 : Int32)) - (own_pl p2 (own_l20 p0))).toNatClampNeg]? = some (.long (own_gj own_pws (((own_l20 p0) - (1 : Int32)) - (own_pl p2 (own_l20 p0))))) := Has.at H_1346 hin_1348 (own_jv_at own_pws (((own_l20 p0) - (1 : Int32)) - (own_pl p2 (own_l20 p0))))
                  have C_1350 : Steps p.tables e below S0 (T_1336.setTop (mkF m 641 #[.val (.int p0), .val (.long p1), .second, .val (.int p2), .val (.int p3), .val (.ref a_9), .val (.int (own_l20 p0)), .val (.long (own_Y p1)), .second, .val (.ref a_523), .val (.int (1 : Int32)), .val (.int (1 : Int32)), .val (.int (own_pl p2 (own_l20 p0))), .val (.int (own_pl p3 (own_l20 p0))), .val (.int (own_cc p2)), .val (.int (own_cc p3)), .val (.long (own_value (((own_ds (own_Y p1) (own_l20 p0)).set (own_pl p2 (own_l20 p0)).toNatClampNeg (own_cc p2)).set (own_pl p3 (own_l20 p0)).toNatClampNeg (own_cc p3)))), .second, .val (.int (1 : Int32)), .unset, .unset, .val (.long (((own_Y p1) - ((own_Y p1) / (own_gj own_pws (own_l20 p0))) * (own_gj own_pws (own_l20 p0))) + (((((own_cc p2) - (48 : Int32)).toInt64) - (own_dig (own_Y p1) (own_l20 p0) (own_pl p2 (own_l20 p0)))) * (own_gj own_pws (((own_l20 p0) - (1 : Int32)) - (own_pl p2 (own_l20 p0))))))), .second] [(.int ((own_cc p3) - (48 : Int32))), (.long (((own_Y p1) - ((own_Y p1) / (own_gj own_pws (own_l20 p0))) * (own_gj own_pws (own_l20 p0))) + (((((own_cc p2) - (48 : Int32)).toInt64) - (own_dig (own_Y p1) (own_l20 p0) (own_pl p2 (own_l20 p0)))) * (own_gj own_pws (((own_l20 p0) - (1 : Int32)) - (own_pl p2 (own_l20 p0)))))))])) := by
                    refine C_1269.trans ?_
                    refine XS.icmpYes X_1260.here hx rfl (pc0 := 560) (pc' := 580) rfl (hb hby at_560) rfl (ii_le_t hc_1270) (by decide) (by decide) ?_
                    refine XS.lload X_1260.here hx rfl (hb hby at_580) rfl ?_
                    refine XS.aload X_1260.here hx rfl (hb hby at_582) rfl rfl ?_
                    refine XS.iload X_1260.here hx rfl (hb hby at_584) rfl ?_
                    refine X_1260.laload hx (j := (own_l20 p0)) (v := (.long (own_gj own_pws (own_l20 p0)))) (by rw [e_1268]; exact A_1328.1) (State.isArrayOf_alike hZ.alike A_1328.2.1) A_1328.2.2 hin_1334 hat_1335 (g := (mkF m 586 #[.val (.int p0), .val (.long p1), .second, .val (.int p2), .val (.int p3), .val (.ref a_9), .val (.int (own_l20 p0)), .val (.long (own_Y p1)), .second, .val (.ref a_523), .val (.int (1 : Int32)), .val (.int (1 : Int32)), .val (.int (own_pl p2 (own_l20 p0))), .val (.int (own_pl p3 (own_l20 p0))), .val (.int (own_cc p2)), .val (.int (own_cc p3)), .val (.long (own_value (((own_ds (own_Y p1) (own_l20 p0)).set (own_pl p2 (own_l20 p0)).toNatClampNeg (own_cc p2)).set (own_pl p3 (own_l20 p0)).toNatClampNeg (own_cc p3)))), .second, .val (.int (1 : Int32)), .unset, .unset, .unset, .unset] [(.int (own_l20 p0)), (.ref a_9), (.long (own_Y p1))])) rfl rfl (hb hby at_586) _ ?_
                    refine XS.lrem X_1260.here hx rfl (hb hby at_587) rfl (own_pnz (own_l18 hc_1248).2) ?_
                    refine XS.lstore X_1260.here hx rfl (hb hby at_588) rfl (l' := #[.val (.int p0), .val (.long p1), .second, .val (.int p2), .val (.int p3), .val (.ref a_9), .val (.int (own_l20 p0)), .val (.long (own_Y p1)), .second, .val (.ref a_523), .val (.int (1 : Int32)), .val (.int (1 : Int32)), .val (.int (own_pl p2 (own_l20 p0))), .val (.int (own_pl p3 (own_l20 p0))), .val (.int (own_cc p2)), .val (.int (own_cc p3)), .val (.long (own_value (((own_ds (own_Y p1) (own_l20 p0)).set (own_pl p2 (own_l20 p0)).toNatClampNeg (own_cc p2)).set (own_pl p3 (own_l20 p0)).toNatClampNeg (own_cc p3)))), .second, .val (.int (1 : Int32)), .unset, .unset, .val (.long ((own_Y p1) - ((own_Y p1) / (own_gj own_pws (own_l20 p0))) * (own_gj own_pws (own_l20 p0)))), .second]) rfl ?_
                    refine XS.iload X_1260.here hx rfl (hb hby at_590) rfl ?_
                    show Steps p.tables e below (T_1260.setTop (mkF m 592 #[.val (.int p0), .val (.long p1), .second, .val (.int p2), .val (.int p3), .val (.ref a_9), .val (.int (own_l20 p0)), .val (.long (own_Y p1)), .second, .val (.ref a_523), .val (.int (1 : Int32)), .val (.int (1 : Int32)), .val (.int (own_pl p2 (own_l20 p0))), .val (.int (own_pl p3 (own_l20 p0))), .val (.int (own_cc p2)), .val (.int (own_cc p3)), .val (.long (own_value (((own_ds (own_Y p1) (own_l20 p0)).set (own_pl p2 (own_l20 p0)).toNatClampNeg (own_cc p2)).set (own_pl p3 (own_l20 p0)).toNatClampNeg (own_cc p3)))), .second, .val (.int (1 : Int32)), .unset, .unset, .val (.long ((own_Y p1) - ((own_Y p1) / (own_gj own_pws (own_l20 p0))) * (own_gj own_pws (own_l20 p0)))), .second] [(.int (1 : Int32))])) _
                    refine XS.ifNo X_1260.here hx rfl (hb hby at_592) rfl (by decide) ?_
                    refine XS.lload X_1260.here hx rfl (hb hby at_595) rfl ?_
                    refine XS.iload X_1260.here hx rfl (hb hby at_597) rfl ?_
                    refine XS.bipush X_1260.here hx rfl (hb hby at_599) ?_
                    refine XS.isub X_1260.here hx rfl (hb hby at_601) rfl ?_
                    refine XS.i2l X_1260.here hx rfl (hb hby at_602) rfl ?_
                    refine XS.aload X_1260.here hx rfl (hb hby at_603) rfl rfl ?_
                    refine XS.lload X_1260.here hx rfl (hb hby at_605) rfl ?_
                    show Steps p.tables e below (T_1260.setTop (mkF m 607 #[.val (.int p0), .val (.long p1), .second, .val (.int p2), .val (.int p3), .val (.ref a_9), .val (.int (own_l20 p0)), .val (.long (own_Y p1)), .second, .val (.ref a_523), .val (.int (1 : Int32)), .val (.int (1 : Int32)), .val (.int (own_pl p2 (own_l20 p0))), .val (.int (own_pl p3 (own_l20 p0))), .val (.int (own_cc p2)), .val (.int (own_cc p3)), .val (.long (own_value (((own_ds (own_Y p1) (own_l20 p0)).set (own_pl p2 (own_l20 p0)).toNatClampNeg (own_cc p2)).set (own_pl p3 (own_l20 p0)).toNatClampNeg (own_cc p3)))), .second, .val (.int (1 : Int32)), .unset, .unset, .val (.long ((own_Y p1) - ((own_Y p1) / (own_gj own_pws (own_l20 p0))) * (own_gj own_pws (own_l20 p0)))), .second] [(.long (own_Y p1)), (.ref a_9), (.long (((own_cc p2) - (48 : Int32)).toInt64)), (.long ((own_Y p1) - ((own_Y p1) / (own_gj own_pws (own_l20 p0))) * (own_gj own_pws (own_l20 p0))))])) _
                    refine XS.iload X_1260.here hx rfl (hb hby at_607) rfl ?_
                    refine XS.iload X_1260.here hx rfl (hb hby at_609) rfl ?_
                    refine st_1336 _ ?_
                    refine XS.lsub X_1336.here hx rfl (hb hby at_614) rfl ?_
                    refine XS.aload X_1336.here hx rfl (hb hby at_615) rfl rfl ?_
                    refine XS.iload X_1336.here hx rfl (hb hby at_617) rfl ?_
                    refine XS.iconst X_1336.here hx rfl (hb hby at_619) ?_
                    refine XS.isub X_1336.here hx rfl (hb hby at_620) rfl ?_
                    show Steps p.tables e below (T_1336.setTop (mkF m 621 #[.val (.int p0), .val (.long p1), .second, .val (.int p2), .val (.int p3), .val (.ref a_9), .val (.int (own_l20 p0)), .val (.long (own_Y p1)), .second, .val (.ref a_523), .val (.int (1 : Int32)), .val (.int (1 : Int32)), .val (.int (own_pl p2 (own_l20 p0))), .val (.int (own_pl p3 (own_l20 p0))), .val (.int (own_cc p2)), .val (.int (own_cc p3)), .val (.long (own_value (((own_ds (own_Y p1) (own_l20 p0)).set (own_pl p2 (own_l20 p0)).toNatClampNeg (own_cc p2)).set (own_pl p3 (own_l20 p0)).toNatClampNeg (own_cc p3)))), .second, .val (.int (1 : Int32)), .unset, .unset, .val (.long ((own_Y p1) - ((own_Y p1) / (own_gj own_pws (own_l20 p0))) * (own_gj own_pws (own_l20 p0)))), .second] [(.int ((own_l20 p0) - (1 : Int32))), (.ref a_9), (.long ((((own_cc p2) - (48 : Int32)).toInt64) - (own_dig (own_Y p1) (own_l20 p0) (own_pl p2 (own_l20 p0))))), (.long ((own_Y p1) - ((own_Y p1) / (own_gj own_pws (own_l20 p0))) * (own_gj own_pws (own_l20 p0))))])) _
                    refine XS.iload X_1336.here hx rfl (hb hby at_621) rfl ?_
                    refine XS.isub X_1336.here hx rfl (hb hby at_623) rfl ?_
                    refine X_1336.laload hx (j := (((own_l20 p0) - (1 : Int32)) - (own_pl p2 (own_l20 p0)))) (v := (.long (own_gj own_pws (((own_l20 p0) - (1 : Int32)) - (own_pl p2 (own_l20 p0)))))) (by rw [e_1340]; exact A_1342.1) (State.isArrayOf_alike hZ.alike A_1342.2.1) A_1342.2.2 hin_1348 hat_1349 (g := (mkF m 624 #[.val (.int p0), .val (.long p1), .second, .val (.int p2), .val (.int p3), .val (.ref a_9), .val (.int (own_l20 p0)), .val (.long (own_Y p1)), .second, .val (.ref a_523), .val (.int (1 : Int32)), .val (.int (1 : Int32)), .val (.int (own_pl p2 (own_l20 p0))), .val (.int (own_pl p3 (own_l20 p0))), .val (.int (own_cc p2)), .val (.int (own_cc p3)), .val (.long (own_value (((own_ds (own_Y p1) (own_l20 p0)).set (own_pl p2 (own_l20 p0)).toNatClampNeg (own_cc p2)).set (own_pl p3 (own_l20 p0)).toNatClampNeg (own_cc p3)))), .second, .val (.int (1 : Int32)), .unset, .unset, .val (.long ((own_Y p1) - ((own_Y p1) / (own_gj own_pws (own_l20 p0))) * (own_gj own_pws (own_l20 p0)))), .second] [(.int (((own_l20 p0) - (1 : Int32)) - (own_pl p2 (own_l20 p0)))), (.ref a_9), (.long ((((own_cc p2) - (48 : Int32)).toInt64) - (own_dig (own_Y p1) (own_l20 p0) (own_pl p2 (own_l20 p0))))), (.long ((own_Y p1) - ((own_Y p1) / (own_gj own_pws (own_l20 p0))) * (own_gj own_pws (own_l20 p0))))])) rfl rfl (hb hby at_624) _ ?_
                    refine XS.lmul X_1336.here hx rfl (hb hby at_625) rfl ?_
                    refine XS.ladd X_1336.here hx rfl (hb hby at_626) rfl ?_
                    refine XS.lstore X_1336.here hx rfl (hb hby at_627) rfl (l' := #[.val (.int p0), .val (.long p1), .second, .val (.int p2), .val (.int p3), .val (.ref a_9), .val (.int (own_l20 p0)), .val (.long (own_Y p1)), .second, .val (.ref a_523), .val (.int (1 : Int32)), .val (.int (1 : Int32)), .val (.int (own_pl p2 (own_l20 p0))), .val (.int (own_pl p3 (own_l20 p0))), .val (.int (own_cc p2)), .val (.int (own_cc p3)), .val (.long (own_value (((own_ds (own_Y p1) (own_l20 p0)).set (own_pl p2 (own_l20 p0)).toNatClampNeg (own_cc p2)).set (own_pl p3 (own_l20 p0)).toNatClampNeg (own_cc p3)))), .second, .val (.int (1 : Int32)), .unset, .unset, .val (.long (((own_Y p1) - ((own_Y p1) / (own_gj own_pws (own_l20 p0))) * (own_gj own_pws (own_l20 p0))) + (((((own_cc p2) - (48 : Int32)).toInt64) - (own_dig (own_Y p1) (own_l20 p0) (own_pl p2 (own_l20 p0)))) * (own_gj own_pws (((own_l20 p0) - (1 : Int32)) - (own_pl p2 (own_l20 p0))))))), .second]) rfl ?_
                    refine XS.iload X_1336.here hx rfl (hb hby at_629) rfl ?_
                    refine XS.ifNo X_1336.here hx rfl (hb hby at_631) rfl (by decide) ?_
                    show Steps p.tables e below (T_1336.setTop (mkF m 634 #[.val (.int p0), .val (.long p1), .second, .val (.int p2), .val (.int p3), .val (.ref a_9), .val (.int (own_l20 p0)), .val (.long (own_Y p1)), .second, .val (.ref a_523), .val (.int (1 : Int32)), .val (.int (1 : Int32)), .val (.int (own_pl p2 (own_l20 p0))), .val (.int (own_pl p3 (own_l20 p0))), .val (.int (own_cc p2)), .val (.int (own_cc p3)), .val (.long (own_value (((own_ds (own_Y p1) (own_l20 p0)).set (own_pl p2 (own_l20 p0)).toNatClampNeg (own_cc p2)).set (own_pl p3 (own_l20 p0)).toNatClampNeg (own_cc p3)))), .second, .val (.int (1 : Int32)), .unset, .unset, .val (.long (((own_Y p1) - ((own_Y p1) / (own_gj own_pws (own_l20 p0))) * (own_gj own_pws (own_l20 p0))) + (((((own_cc p2) - (48 : Int32)).toInt64) - (own_dig (own_Y p1) (own_l20 p0) (own_pl p2 (own_l20 p0)))) * (own_gj own_pws (((own_l20 p0) - (1 : Int32)) - (own_pl p2 (own_l20 p0))))))), .second] [])) _
                    refine XS.lload X_1336.here hx rfl (hb hby at_634) rfl ?_
                    refine XS.iload X_1336.here hx rfl (hb hby at_636) rfl ?_
                    refine XS.bipush X_1336.here hx rfl (hb hby at_638) ?_
                    refine XS.isub X_1336.here hx rfl (hb hby at_640) rfl ?_
                    exact Steps.refl _
                  obtain ⟨_, _, ⟨T_1351, L_1351, k_1351, n_1351⟩, -, X_1351, ⟨Lc_1351, hQ_1351, l_1351, y_1351, z_1351⟩, st_1351⟩ := Jvm.LawKit.callS X_1336 hx (y := M216) hown (mvT hZ (w63 hw)) (mvT hZ (w64 hw)) (mvT hZ (w23 hw)) (mvT hZ (w65 hw)) (by decide) (backOf (W := 4) (rm_digit l Z a0 hw [] G1 G3 HG T_1135.heap n0 O_1148 a_9 k_3 (own_Y p1) (own_l20 p0) (own_pl p3 (own_l20 p0)) V_1326 hr_514.1 hr_514.2 (own_l19 p0)) hZ (w65 hw) (w23 hw) (by decide) (by decide)) (g := (mkF m 650 #[.val (.int p0), .val (.long p1), .second, .val (.int p2), .val (.int p3), .val (.ref a_9), .val (.int (own_l20 p0)), .val (.long (own_Y p1)), .second, .val (.ref a_523), .val (.int (1 : Int32)), .val (.int (1 : Int32)), .val (.int (own_pl p2 (own_l20 p0))), .val (.int (own_pl p3 (own_l20 p0))), .val (.int (own_cc p2)), .val (.int (own_cc p3)), .val (.long (own_value (((own_ds (own_Y p1) (own_l20 p0)).set (own_pl p2 (own_l20 p0)).toNatClampNeg (own_cc p2)).set (own_pl p3 (own_l20 p0)).toNatClampNeg (own_cc p3)))), .second, .val (.int (1 : Int32)), .unset, .unset, .val (.long (((own_Y p1) - ((own_Y p1) / (own_gj own_pws (own_l20 p0))) * (own_gj own_pws (own_l20 p0))) + (((((own_cc p2) - (48 : Int32)).toInt64) - (own_dig (own_Y p1) (own_l20 p0) (own_pl p2 (own_l20 p0)))) * (own_gj own_pws (((own_l20 p0) - (1 : Int32)) - (own_pl p2 (own_l20 p0))))))), .second] [(.int (own_pl p3 (own_l20 p0))), (.int (own_l20 p0)), (.long (own_Y p1)), (.ref a_9), (.long (((own_cc p3) - (48 : Int32)).toInt64)), (.long (((own_Y p1) - ((own_Y p1) / (own_gj own_pws (own_l20 p0))) * (own_gj own_pws (own_l20 p0))) + (((((own_cc p2) - (48 : Int32)).toInt64) - (own_dig (own_Y p1) (own_l20 p0) (own_pl p2 (own_l20 p0)))) * (own_gj own_pws (((own_l20 p0) - (1 : Int32)) - (own_pl p2 (own_l20 p0)))))))])) rfl (by rw [hml]; rfl) (argsL := [(.ref a_9), (.long (own_Y p1)), (.int (own_l20 p0)), (.int (own_pl p3 (own_l20 p0)))]) (rest := [(.long (((own_cc p3) - (48 : Int32)).toInt64)), (.long (((own_Y p1) - ((own_Y p1) / (own_gj own_pws (own_l20 p0))) * (own_gj own_pws (own_l20 p0))) + (((((own_cc p2) - (48 : Int32)).toInt64) - (own_dig (own_Y p1) (own_l20 p0) (own_pl p2 (own_l20 p0)))) * (own_gj own_pws (((own_l20 p0) - (1 : Int32)) - (own_pl p2 (own_l20 p0)))))))]) (lenOf pd_248 rfl) rfl (by show 2 * 0 + _ ≤ _; exact Nat.le_of_eq rfl) (hb hby at_650) (fun _ _ => ⟨rfl, e_1340, (by decide : 4 + 0 ≤ _), (by decide : 61 + 0 ≤ _)⟩)
                  dsimp only [Pt.U, Pt.locs, Pt.cells, Pt.slots] at X_1351 l_1351 y_1351 z_1351 st_1351 hQ_1351
                  have X_1351 := own_cast X_1351 l_1351 y_1351 z_1351
                  obtain ⟨rfl, N_1352, e_1353⟩ := hQ_1351
                  have N_1354 := Fr.app N_1339 N_1352
                  have e_1355 : T_1351.heap = T_1135.heap := e_1353
                  obtain ⟨c_1356, A_1357, q_1358, S_1359, M_1360, H_1361, U_1362⟩ := id V_1326
                  have hin_1363 : ¬ ((((own_l20 p0) - (1 : Int32)) - (own_pl p3 (own_l20 p0))) < 0 ∨ c_1356.slots.size ≤ (((own_l20 p0) - (1 : Int32)) - (own_pl p3 (own_l20 p0))).toNatClampNeg) := inb_of S_1359 ⟨(own_sub_nat hr_514.1 hr_514.2).2.1, (own_lt19 hr_514.1 hr_514.2 (own_l19 p0)).2.1⟩
                  have hat_1364 : c_1356.slots[(((own_l20 p0) - (1 : Int32)) - (own_pl p3 (own_l20 p0))).toNatClampNeg]? = some (.long (own_gj own_pws (((own_l20 p0) - (1 : Int32)) - (own_pl p3 (own_l20 p0))))) := Has.at H_1361 hin_1363 (own_jv_at own_pws (((own_l20 p0) - (1 : Int32)) - (own_pl p3 (own_l20 p0))))
                  have C_1365 : Steps p.tables e below S0 (T_1351.setTop (mkF m 685 #[.val (.int p0), .val (.long p1), .second, .val (.int p2), .val (.int p3), .val (.ref a_9), .val (.int (own_l20 p0)), .val (.long (own_Y p1)), .second, .val (.ref a_523), .val (.int (1 : Int32)), .val (.int (1 : Int32)), .val (.int (own_pl p2 (own_l20 p0))), .val (.int (own_pl p3 (own_l20 p0))), .val (.int (own_cc p2)), .val (.int (own_cc p3)), .val (.long (own_value (((own_ds (own_Y p1) (own_l20 p0)).set (own_pl p2 (own_l20 p0)).toNatClampNeg (own_cc p2)).set (own_pl p3 (own_l20 p0)).toNatClampNeg (own_cc p3)))), .second, .val (.int (1 : Int32)), .val (.long ((((own_Y p1) - ((own_Y p1) / (own_gj own_pws (own_l20 p0))) * (own_gj own_pws (own_l20 p0))) + (((((own_cc p2) - (48 : Int32)).toInt64) - (own_dig (own_Y p1) (own_l20 p0) (own_pl p2 (own_l20 p0)))) * (own_gj own_pws (((own_l20 p0) - (1 : Int32)) - (own_pl p2 (own_l20 p0)))))) + (((((own_cc p3) - (48 : Int32)).toInt64) - (own_dig (own_Y p1) (own_l20 p0) (own_pl p3 (own_l20 p0)))) * (own_gj own_pws (((own_l20 p0) - (1 : Int32)) - (own_pl p3 (own_l20 p0))))))), .second, .val (.long ((((own_Y p1) - ((own_Y p1) / (own_gj own_pws (own_l20 p0))) * (own_gj own_pws (own_l20 p0))) + (((((own_cc p2) - (48 : Int32)).toInt64) - (own_dig (own_Y p1) (own_l20 p0) (own_pl p2 (own_l20 p0)))) * (own_gj own_pws (((own_l20 p0) - (1 : Int32)) - (own_pl p2 (own_l20 p0)))))) + (((((own_cc p3) - (48 : Int32)).toInt64) - (own_dig (own_Y p1) (own_l20 p0) (own_pl p3 (own_l20 p0)))) * (own_gj own_pws (((own_l20 p0) - (1 : Int32)) - (own_pl p3 (own_l20 p0))))))), .second] [(.int (1 : Int32))])) := by
                    refine C_1350.trans ?_
                    refine XS.i2l X_1336.here hx rfl (hb hby at_641) rfl ?_
                    refine XS.aload X_1336.here hx rfl (hb hby at_642) rfl rfl ?_
                    refine XS.lload X_1336.here hx rfl (hb hby at_644) rfl ?_
                    refine XS.iload X_1336.here hx rfl (hb hby at_646) rfl ?_
                    refine XS.iload X_1336.here hx rfl (hb hby at_648) rfl ?_
                    refine st_1351 _ ?_
                    refine XS.lsub X_1351.here hx rfl (hb hby at_653) rfl ?_
                    refine XS.aload X_1351.here hx rfl (hb hby at_654) rfl rfl ?_
                    show Steps p.tables e below (T_1351.setTop (mkF m 656 #[.val (.int p0), .val (.long p1), .second, .val (.int p2), .val (.int p3), .val (.ref a_9), .val (.int (own_l20 p0)), .val (.long (own_Y p1)), .second, .val (.ref a_523), .val (.int (1 : Int32)), .val (.int (1 : Int32)), .val (.int (own_pl p2 (own_l20 p0))), .val (.int (own_pl p3 (own_l20 p0))), .val (.int (own_cc p2)), .val (.int (own_cc p3)), .val (.long (own_value (((own_ds (own_Y p1) (own_l20 p0)).set (own_pl p2 (own_l20 p0)).toNatClampNeg (own_cc p2)).set (own_pl p3 (own_l20 p0)).toNatClampNeg (own_cc p3)))), .second, .val (.int (1 : Int32)), .unset, .unset, .val (.long (((own_Y p1) - ((own_Y p1) / (own_gj own_pws (own_l20 p0))) * (own_gj own_pws (own_l20 p0))) + (((((own_cc p2) - (48 : Int32)).toInt64) - (own_dig (own_Y p1) (own_l20 p0) (own_pl p2 (own_l20 p0)))) * (own_gj own_pws (((own_l20 p0) - (1 : Int32)) - (own_pl p2 (own_l20 p0))))))), .second] [(.ref a_9), (.long ((((own_cc p3) - (48 : Int32)).toInt64) - (own_dig (own_Y p1) (own_l20 p0) (own_pl p3 (own_l20 p0))))), (.long (((own_Y p1) - ((own_Y p1) / (own_gj own_pws (own_l20 p0))) * (own_gj own_pws (own_l20 p0))) + (((((own_cc p2) - (48 : Int32)).toInt64) - (own_dig (own_Y p1) (own_l20 p0) (own_pl p2 (own_l20 p0)))) * (own_gj own_pws (((own_l20 p0) - (1 : Int32)) - (own_pl p2 (own_l20 p0)))))))])) _
                    refine XS.iload X_1351.here hx rfl (hb hby at_656) rfl ?_
                    refine XS.iconst X_1351.here hx rfl (hb hby at_658) ?_
                    refine XS.isub X_1351.here hx rfl (hb hby at_659) rfl ?_
                    refine XS.iload X_1351.here hx rfl (hb hby at_660) rfl ?_
                    refine XS.isub X_1351.here hx rfl (hb hby at_662) rfl ?_
                    refine X_1351.laload hx (j := (((own_l20 p0) - (1 : Int32)) - (own_pl p3 (own_l20 p0)))) (v := (.long (own_gj own_pws (((own_l20 p0) - (1 : Int32)) - (own_pl p3 (own_l20 p0)))))) (by rw [e_1355]; exact A_1357.1) (State.isArrayOf_alike hZ.alike A_1357.2.1) A_1357.2.2 hin_1363 hat_1364 (g := (mkF m 663 #[.val (.int p0), .val (.long p1), .second, .val (.int p2), .val (.int p3), .val (.ref a_9), .val (.int (own_l20 p0)), .val (.long (own_Y p1)), .second, .val (.ref a_523), .val (.int (1 : Int32)), .val (.int (1 : Int32)), .val (.int (own_pl p2 (own_l20 p0))), .val (.int (own_pl p3 (own_l20 p0))), .val (.int (own_cc p2)), .val (.int (own_cc p3)), .val (.long (own_value (((own_ds (own_Y p1) (own_l20 p0)).set (own_pl p2 (own_l20 p0)).toNatClampNeg (own_cc p2)).set (own_pl p3 (own_l20 p0)).toNatClampNeg (own_cc p3)))), .second, .val (.int (1 : Int32)), .unset, .unset, .val (.long (((own_Y p1) - ((own_Y p1) / (own_gj own_pws (own_l20 p0))) * (own_gj own_pws (own_l20 p0))) + (((((own_cc p2) - (48 : Int32)).toInt64) - (own_dig (own_Y p1) (own_l20 p0) (own_pl p2 (own_l20 p0)))) * (own_gj own_pws (((own_l20 p0) - (1 : Int32)) - (own_pl p2 (own_l20 p0))))))), .second] [(.int (((own_l20 p0) - (1 : Int32)) - (own_pl p3 (own_l20 p0)))), (.ref a_9), (.long ((((own_cc p3) - (48 : Int32)).toInt64) - (own_dig (own_Y p1) (own_l20 p0) (own_pl p3 (own_l20 p0))))), (.long (((own_Y p1) - ((own_Y p1) / (own_gj own_pws (own_l20 p0))) * (own_gj own_pws (own_l20 p0))) + (((((own_cc p2) - (48 : Int32)).toInt64) - (own_dig (own_Y p1) (own_l20 p0) (own_pl p2 (own_l20 p0)))) * (own_gj own_pws (((own_l20 p0) - (1 : Int32)) - (own_pl p2 (own_l20 p0)))))))])) rfl rfl (hb hby at_663) _ ?_
                    refine XS.lmul X_1351.here hx rfl (hb hby at_664) rfl ?_
                    refine XS.ladd X_1351.here hx rfl (hb hby at_665) rfl ?_
                    show Steps p.tables e below (T_1351.setTop (mkF m 666 #[.val (.int p0), .val (.long p1), .second, .val (.int p2), .val (.int p3), .val (.ref a_9), .val (.int (own_l20 p0)), .val (.long (own_Y p1)), .second, .val (.ref a_523), .val (.int (1 : Int32)), .val (.int (1 : Int32)), .val (.int (own_pl p2 (own_l20 p0))), .val (.int (own_pl p3 (own_l20 p0))), .val (.int (own_cc p2)), .val (.int (own_cc p3)), .val (.long (own_value (((own_ds (own_Y p1) (own_l20 p0)).set (own_pl p2 (own_l20 p0)).toNatClampNeg (own_cc p2)).set (own_pl p3 (own_l20 p0)).toNatClampNeg (own_cc p3)))), .second, .val (.int (1 : Int32)), .unset, .unset, .val (.long (((own_Y p1) - ((own_Y p1) / (own_gj own_pws (own_l20 p0))) * (own_gj own_pws (own_l20 p0))) + (((((own_cc p2) - (48 : Int32)).toInt64) - (own_dig (own_Y p1) (own_l20 p0) (own_pl p2 (own_l20 p0)))) * (own_gj own_pws (((own_l20 p0) - (1 : Int32)) - (own_pl p2 (own_l20 p0))))))), .second] [(.long ((((own_Y p1) - ((own_Y p1) / (own_gj own_pws (own_l20 p0))) * (own_gj own_pws (own_l20 p0))) + (((((own_cc p2) - (48 : Int32)).toInt64) - (own_dig (own_Y p1) (own_l20 p0) (own_pl p2 (own_l20 p0)))) * (own_gj own_pws (((own_l20 p0) - (1 : Int32)) - (own_pl p2 (own_l20 p0)))))) + (((((own_cc p3) - (48 : Int32)).toInt64) - (own_dig (own_Y p1) (own_l20 p0) (own_pl p3 (own_l20 p0)))) * (own_gj own_pws (((own_l20 p0) - (1 : Int32)) - (own_pl p3 (own_l20 p0)))))))])) _
                    refine XS.lstore X_1351.here hx rfl (hb hby at_666) rfl (l' := #[.val (.int p0), .val (.long p1), .second, .val (.int p2), .val (.int p3), .val (.ref a_9), .val (.int (own_l20 p0)), .val (.long (own_Y p1)), .second, .val (.ref a_523), .val (.int (1 : Int32)), .val (.int (1 : Int32)), .val (.int (own_pl p2 (own_l20 p0))), .val (.int (own_pl p3 (own_l20 p0))), .val (.int (own_cc p2)), .val (.int (own_cc p3)), .val (.long (own_value (((own_ds (own_Y p1) (own_l20 p0)).set (own_pl p2 (own_l20 p0)).toNatClampNeg (own_cc p2)).set (own_pl p3 (own_l20 p0)).toNatClampNeg (own_cc p3)))), .second, .val (.int (1 : Int32)), .unset, .unset, .val (.long ((((own_Y p1) - ((own_Y p1) / (own_gj own_pws (own_l20 p0))) * (own_gj own_pws (own_l20 p0))) + (((((own_cc p2) - (48 : Int32)).toInt64) - (own_dig (own_Y p1) (own_l20 p0) (own_pl p2 (own_l20 p0)))) * (own_gj own_pws (((own_l20 p0) - (1 : Int32)) - (own_pl p2 (own_l20 p0)))))) + (((((own_cc p3) - (48 : Int32)).toInt64) - (own_dig (own_Y p1) (own_l20 p0) (own_pl p3 (own_l20 p0)))) * (own_gj own_pws (((own_l20 p0) - (1 : Int32)) - (own_pl p3 (own_l20 p0))))))), .second]) rfl ?_
                    refine XS.lload X_1351.here hx rfl (hb hby at_668) rfl ?_
                    refine XS.lstore X_1351.here hx rfl (hb hby at_670) rfl (l' := #[.val (.int p0), .val (.long p1), .second, .val (.int p2), .val (.int p3), .val (.ref a_9), .val (.int (own_l20 p0)), .val (.long (own_Y p1)), .second, .val (.ref a_523), .val (.int (1 : Int32)), .val (.int (1 : Int32)), .val (.int (own_pl p2 (own_l20 p0))), .val (.int (own_pl p3 (own_l20 p0))), .val (.int (own_cc p2)), .val (.int (own_cc p3)), .val (.long (own_value (((own_ds (own_Y p1) (own_l20 p0)).set (own_pl p2 (own_l20 p0)).toNatClampNeg (own_cc p2)).set (own_pl p3 (own_l20 p0)).toNatClampNeg (own_cc p3)))), .second, .val (.int (1 : Int32)), .val (.long ((((own_Y p1) - ((own_Y p1) / (own_gj own_pws (own_l20 p0))) * (own_gj own_pws (own_l20 p0))) + (((((own_cc p2) - (48 : Int32)).toInt64) - (own_dig (own_Y p1) (own_l20 p0) (own_pl p2 (own_l20 p0)))) * (own_gj own_pws (((own_l20 p0) - (1 : Int32)) - (own_pl p2 (own_l20 p0)))))) + (((((own_cc p3) - (48 : Int32)).toInt64) - (own_dig (own_Y p1) (own_l20 p0) (own_pl p3 (own_l20 p0)))) * (own_gj own_pws (((own_l20 p0) - (1 : Int32)) - (own_pl p3 (own_l20 p0))))))), .second, .val (.long ((((own_Y p1) - ((own_Y p1) / (own_gj own_pws (own_l20 p0))) * (own_gj own_pws (own_l20 p0))) + (((((own_cc p2) - (48 : Int32)).toInt64) - (own_dig (own_Y p1) (own_l20 p0) (own_pl p2 (own_l20 p0)))) * (own_gj own_pws (((own_l20 p0) - (1 : Int32)) - (own_pl p2 (own_l20 p0)))))) + (((((own_cc p3) - (48 : Int32)).toInt64) - (own_dig (own_Y p1) (own_l20 p0) (own_pl p3 (own_l20 p0)))) * (own_gj own_pws (((own_l20 p0) - (1 : Int32)) - (own_pl p3 (own_l20 p0))))))), .second]) rfl ?_
                    refine XS.lload X_1351.here hx rfl (hb hby at_672) rfl ?_
                    refine XS.lload X_1351.here hx rfl (hb hby at_674) rfl ?_
                    refine XS.lcmp X_1351.here hx rfl (hb hby at_676) rfl ?_
                    refine XS.ifNo X_1351.here hx rfl (hb hby at_677) rfl (i0_ne_f ((lw_eq (own_value (((own_ds (own_Y p1) (own_l20 p0)).set (own_pl p2 (own_l20 p0)).toNatClampNeg (own_cc p2)).set (own_pl p3 (own_l20 p0)).toNatClampNeg (own_cc p3))) ((((own_Y p1) - ((own_Y p1) / (own_gj own_pws (own_l20 p0))) * (own_gj own_pws (own_l20 p0))) + (((((own_cc p2) - (48 : Int32)).toInt64) - (own_dig (own_Y p1) (own_l20 p0) (own_pl p2 (own_l20 p0)))) * (own_gj own_pws (((own_l20 p0) - (1 : Int32)) - (own_pl p2 (own_l20 p0)))))) + (((((own_cc p3) - (48 : Int32)).toInt64) - (own_dig (own_Y p1) (own_l20 p0) (own_pl p3 (own_l20 p0)))) * (own_gj own_pws (((own_l20 p0) - (1 : Int32)) - (own_pl p3 (own_l20 p0))))))).mpr (own_F2 (own_Y0 p1) hp_512 hc_1248 hr_513.1 hr_513.2 g_1257 hr_514.1 hr_514.2 g_1266 hc_1156 (Or.inl hc_1270)))) ?_
                    refine XS.iconst X_1351.here hx rfl (hb hby at_680) ?_
                    show Steps p.tables e below (T_1351.setTop (mkF m 681 #[.val (.int p0), .val (.long p1), .second, .val (.int p2), .val (.int p3), .val (.ref a_9), .val (.int (own_l20 p0)), .val (.long (own_Y p1)), .second, .val (.ref a_523), .val (.int (1 : Int32)), .val (.int (1 : Int32)), .val (.int (own_pl p2 (own_l20 p0))), .val (.int (own_pl p3 (own_l20 p0))), .val (.int (own_cc p2)), .val (.int (own_cc p3)), .val (.long (own_value (((own_ds (own_Y p1) (own_l20 p0)).set (own_pl p2 (own_l20 p0)).toNatClampNeg (own_cc p2)).set (own_pl p3 (own_l20 p0)).toNatClampNeg (own_cc p3)))), .second, .val (.int (1 : Int32)), .val (.long ((((own_Y p1) - ((own_Y p1) / (own_gj own_pws (own_l20 p0))) * (own_gj own_pws (own_l20 p0))) + (((((own_cc p2) - (48 : Int32)).toInt64) - (own_dig (own_Y p1) (own_l20 p0) (own_pl p2 (own_l20 p0)))) * (own_gj own_pws (((own_l20 p0) - (1 : Int32)) - (own_pl p2 (own_l20 p0)))))) + (((((own_cc p3) - (48 : Int32)).toInt64) - (own_dig (own_Y p1) (own_l20 p0) (own_pl p3 (own_l20 p0)))) * (own_gj own_pws (((own_l20 p0) - (1 : Int32)) - (own_pl p3 (own_l20 p0))))))), .second, .val (.long ((((own_Y p1) - ((own_Y p1) / (own_gj own_pws (own_l20 p0))) * (own_gj own_pws (own_l20 p0))) + (((((own_cc p2) - (48 : Int32)).toInt64) - (own_dig (own_Y p1) (own_l20 p0) (own_pl p2 (own_l20 p0)))) * (own_gj own_pws (((own_l20 p0) - (1 : Int32)) - (own_pl p2 (own_l20 p0)))))) + (((((own_cc p3) - (48 : Int32)).toInt64) - (own_dig (own_Y p1) (own_l20 p0) (own_pl p3 (own_l20 p0)))) * (own_gj own_pws (((own_l20 p0) - (1 : Int32)) - (own_pl p3 (own_l20 p0))))))), .second] [(.int (1 : Int32))])) _
                    refine XS.goto X_1351.here hx rfl (pc0 := 681) (pc' := 685) rfl (hb hby at_681) (by decide) (by decide) ?_
                    exact Steps.refl _
                  have K_1366 : Keep h0 T_1135.heap [] := K_1154
                  obtain ⟨fs, hr, hrun, hended, hRE⟩ := X_1351.leaveW hS0 (by rw [show T_1351.heap = T_1135.heap from e_1355]; exact (Nat.le_trans (Nat.le_refl _) (Nat.le_trans (Nat.le_trans (Nat.le_trans (Nat.le_trans (Nat.le_trans (Nat.le_trans (Nat.le_trans (Nat.le_trans (Nat.le_trans (Nat.le_trans (Nat.le_trans (Nat.le_trans (Nat.le_trans (Nat.le_trans (Nat.le_trans (Nat.le_trans (Nat.le_trans (Nat.le_trans (Nat.le_trans (Nat.le_trans (Nat.le_trans (Nat.le_trans (Nat.le_trans (Nat.le_trans (Nat.le_trans (Nat.le_trans (Nat.le_trans (Nat.le_trans (Nat.le_trans (Nat.le_trans (Nat.le_trans (Nat.le_trans (Nat.le_trans (Nat.le_trans (Nat.le_trans (Nat.le_trans (Nat.le_trans (Nat.le_trans (Nat.le_trans (Nat.le_trans (Nat.le_trans (Nat.le_trans (Nat.le_trans E_6.1 (Keep.of_wr W_26).1) (Keep.of_wr W_44).1) (Keep.of_wr W_62).1) (Keep.of_wr W_80).1) (Keep.of_wr W_98).1) (Keep.of_wr W_116).1) (Keep.of_wr W_134).1) (Keep.of_wr W_152).1) (Keep.of_wr W_171).1) (Keep.of_wr W_189).1) (Keep.of_wr W_207).1) (Keep.of_wr W_225).1) (Keep.of_wr W_243).1) (Keep.of_wr W_261).1) (Keep.of_wr W_279).1) (Keep.of_wr W_297).1) (Keep.of_wr W_315).1) (Keep.of_wr W_334).1) (Keep.of_wr W_352).1) E_520.1) K_534.1) K_543.1) K_552.1) K_561.1) K_570.1) K_580.1) K_589.1) K_598.1) K_607.1) K_616.1) K_625.1) K_634.1) K_644.1) K_653.1) K_662.1) K_671.1) K_680.1) K_689.1) K_698.1) (Keep.of_wr W_1094).1) (Keep.of_wr W_1112).1) E_1123.1) K_1139.1))) (v := some (.int (1 : Int32))) (fun h => by rw [Bd.returns] at h; cases h)
                  refine ⟨_, _, C_1365.trans (retN X_1351 hx (t := .boolean) Bd.returns (by simp) (hb hby at_685) hr), hrun, hended, _, _, rfl, ?_, ?_, hRE.1, hRE.2.1, hRE.2.2.1, hRE.2.2.2.mono (by decide) (by decide)⟩
                  · show Q_law Z G1 G3 p0 p1 p2 p3 h0 n0 (some (.int (1 : Int32))) T_1351.heap _
                    rw [e_1355]
                    exact ⟨rfl, N_1354, K_1366⟩
                  · show CHr Z consts_1 s.vm s.heap T_1351.vm T_1351.heap
                    rw [hh, show T_1351.heap = T_1135.heap from e_1355]
                    exact CR_1147.trans (CHv.at X_1351 hZ hEL CH_1146)
              · skip
                obtain ⟨rfl, N_1367, e_1368, g_1369⟩ := hQ_1263
                have N_1370 := Fr.app N_1258 N_1367
                have e_1371 : T_1260.heap = T_1135.heap := e_1368
                have C_1372 : Steps p.tables e below S0 (T_1260.setTop (mkF m 685 #[.val (.int p0), .val (.long p1), .second, .val (.int p2), .val (.int p3), .val (.ref a_9), .val (.int (own_l20 p0)), .val (.long (own_Y p1)), .second, .val (.ref a_523), .val (.int (1 : Int32)), .val (.int (1 : Int32)), .val (.int (own_pl p2 (own_l20 p0))), .val (.int (own_pl p3 (own_l20 p0))), .val (.int (own_cc p2)), .val (.int (own_cc p3)), .val (.long (own_value (((own_ds (own_Y p1) (own_l20 p0)).set (own_pl p2 (own_l20 p0)).toNatClampNeg (own_cc p2)).set (own_pl p3 (own_l20 p0)).toNatClampNeg (own_cc p3)))), .second, .val (.int (1 : Int32)), .val (.long (-1 : Int64)), .second, .unset, .unset] [(.int (1 : Int32))])) := by
                  refine C_1261.trans ?_
                  refine st_1260 _ ?_
                  refine XS.ifYes X_1260.here hx rfl (pc0 := 554) (pc' := 572) rfl (hb hby at_554) rfl (by decide) (by decide) (by decide) ?_
                  refine X_1260.ldc2J hx hown (mvT hZ (w62 hw)) rfl (hb hby at_572) ?_
                  refine XS.lstore X_1260.here hx rfl (hb hby at_575) rfl (l' := #[.val (.int p0), .val (.long p1), .second, .val (.int p2), .val (.int p3), .val (.ref a_9), .val (.int (own_l20 p0)), .val (.long (own_Y p1)), .second, .val (.ref a_523), .val (.int (1 : Int32)), .val (.int (1 : Int32)), .val (.int (own_pl p2 (own_l20 p0))), .val (.int (own_pl p3 (own_l20 p0))), .val (.int (own_cc p2)), .val (.int (own_cc p3)), .val (.long (own_value (((own_ds (own_Y p1) (own_l20 p0)).set (own_pl p2 (own_l20 p0)).toNatClampNeg (own_cc p2)).set (own_pl p3 (own_l20 p0)).toNatClampNeg (own_cc p3)))), .second, .val (.int (1 : Int32)), .val (.long (-1 : Int64)), .second, .unset, .unset]) rfl ?_
                  refine XS.goto X_1260.here hx rfl (pc0 := 577) (pc' := 672) rfl (hb hby at_577) (by decide) (by decide) ?_
                  refine XS.lload X_1260.here hx rfl (hb hby at_672) rfl ?_
                  refine XS.lload X_1260.here hx rfl (hb hby at_674) rfl ?_
                  refine XS.lcmp X_1260.here hx rfl (hb hby at_676) rfl ?_
                  show Steps p.tables e below (T_1260.setTop (mkF m 677 #[.val (.int p0), .val (.long p1), .second, .val (.int p2), .val (.int p3), .val (.ref a_9), .val (.int (own_l20 p0)), .val (.long (own_Y p1)), .second, .val (.ref a_523), .val (.int (1 : Int32)), .val (.int (1 : Int32)), .val (.int (own_pl p2 (own_l20 p0))), .val (.int (own_pl p3 (own_l20 p0))), .val (.int (own_cc p2)), .val (.int (own_cc p3)), .val (.long (own_value (((own_ds (own_Y p1) (own_l20 p0)).set (own_pl p2 (own_l20 p0)).toNatClampNeg (own_cc p2)).set (own_pl p3 (own_l20 p0)).toNatClampNeg (own_cc p3)))), .second, .val (.int (1 : Int32)), .val (.long (-1 : Int64)), .second, .unset, .unset] [(.int (lcmpW (own_value (((own_ds (own_Y p1) (own_l20 p0)).set (own_pl p2 (own_l20 p0)).toNatClampNeg (own_cc p2)).set (own_pl p3 (own_l20 p0)).toNatClampNeg (own_cc p3))) (-1 : Int64)))])) _
                  refine XS.ifNo X_1260.here hx rfl (hb hby at_677) rfl (i0_ne_f ((lw_eq (own_value (((own_ds (own_Y p1) (own_l20 p0)).set (own_pl p2 (own_l20 p0)).toNatClampNeg (own_cc p2)).set (own_pl p3 (own_l20 p0)).toNatClampNeg (own_cc p3))) (-1 : Int64)).mpr (own_vbad (own_ms (own_setlen (own_dsl _ _)) hr_514.1 hr_514.2) g_1369))) ?_
                  refine XS.iconst X_1260.here hx rfl (hb hby at_680) ?_
                  refine XS.goto X_1260.here hx rfl (pc0 := 681) (pc' := 685) rfl (hb hby at_681) (by decide) (by decide) ?_
                  exact Steps.refl _
                have K_1373 : Keep h0 T_1135.heap [] := K_1154
                obtain ⟨fs, hr, hrun, hended, hRE⟩ := X_1260.leaveW hS0 (by rw [show T_1260.heap = T_1135.heap from e_1371]; exact (Nat.le_trans (Nat.le_refl _) (Nat.le_trans (Nat.le_trans (Nat.le_trans (Nat.le_trans (Nat.le_trans (Nat.le_trans (Nat.le_trans (Nat.le_trans (Nat.le_trans (Nat.le_trans (Nat.le_trans (Nat.le_trans (Nat.le_trans (Nat.le_trans (Nat.le_trans (Nat.le_trans (Nat.le_trans (Nat.le_trans (Nat.le_trans (Nat.le_trans (Nat.le_trans (Nat.le_trans (Nat.le_trans (Nat.le_trans (Nat.le_trans (Nat.le_trans (Nat.le_trans (Nat.le_trans (Nat.le_trans (Nat.le_trans (Nat.le_trans (Nat.le_trans (Nat.le_trans (Nat.le_trans (Nat.le_trans (Nat.le_trans (Nat.le_trans (Nat.le_trans (Nat.le_trans (Nat.le_trans (Nat.le_trans (Nat.le_trans (Nat.le_trans E_6.1 (Keep.of_wr W_26).1) (Keep.of_wr W_44).1) (Keep.of_wr W_62).1) (Keep.of_wr W_80).1) (Keep.of_wr W_98).1) (Keep.of_wr W_116).1) (Keep.of_wr W_134).1) (Keep.of_wr W_152).1) (Keep.of_wr W_171).1) (Keep.of_wr W_189).1) (Keep.of_wr W_207).1) (Keep.of_wr W_225).1) (Keep.of_wr W_243).1) (Keep.of_wr W_261).1) (Keep.of_wr W_279).1) (Keep.of_wr W_297).1) (Keep.of_wr W_315).1) (Keep.of_wr W_334).1) (Keep.of_wr W_352).1) E_520.1) K_534.1) K_543.1) K_552.1) K_561.1) K_570.1) K_580.1) K_589.1) K_598.1) K_607.1) K_616.1) K_625.1) K_634.1) K_644.1) K_653.1) K_662.1) K_671.1) K_680.1) K_689.1) K_698.1) (Keep.of_wr W_1094).1) (Keep.of_wr W_1112).1) E_1123.1) K_1139.1))) (v := some (.int (1 : Int32))) (fun h => by rw [Bd.returns] at h; cases h)
                refine ⟨_, _, C_1372.trans (retN X_1260 hx (t := .boolean) Bd.returns (by simp) (hb hby at_685) hr), hrun, hended, _, _, rfl, ?_, ?_, hRE.1, hRE.2.1, hRE.2.2.1, hRE.2.2.2.mono (by decide) (by decide)⟩
                · show Q_law Z G1 G3 p0 p1 p2 p3 h0 n0 (some (.int (1 : Int32))) T_1260.heap _
                  rw [e_1371]
                  exact ⟨rfl, N_1370, K_1373⟩
                · show CHr Z consts_1 s.vm s.heap T_1260.vm T_1260.heap
                  rw [hh, show T_1260.heap = T_1135.heap from e_1371]
                  exact CR_1147.trans (CHv.at X_1260 hZ hEL CH_1146)
            · skip
              obtain ⟨rfl, N_1374, e_1375, g_1376⟩ := hQ_1254
              have N_1377 := Fr.app N_1152 N_1374
              have e_1378 : T_1251.heap = T_1135.heap := e_1375
              have C_1379 : Steps p.tables e below S0 (T_1251.setTop (mkF m 685 #[.val (.int p0), .val (.long p1), .second, .val (.int p2), .val (.int p3), .val (.ref a_9), .val (.int (own_l20 p0)), .val (.long (own_Y p1)), .second, .val (.ref a_523), .val (.int (1 : Int32)), .val (.int (1 : Int32)), .val (.int (own_pl p2 (own_l20 p0))), .val (.int (own_pl p3 (own_l20 p0))), .val (.int (own_cc p2)), .val (.int (own_cc p3)), .val (.long (own_value (((own_ds (own_Y p1) (own_l20 p0)).set (own_pl p2 (own_l20 p0)).toNatClampNeg (own_cc p2)).set (own_pl p3 (own_l20 p0)).toNatClampNeg (own_cc p3)))), .second, .val (.int (1 : Int32)), .val (.long (-1 : Int64)), .second, .unset, .unset] [(.int (1 : Int32))])) := by
                refine C_1252.trans ?_
                refine st_1251 _ ?_
                refine XS.ifYes X_1251.here hx rfl (pc0 := 541) (pc' := 572) rfl (hb hby at_541) rfl (by decide) (by decide) (by decide) ?_
                refine X_1251.ldc2J hx hown (mvT hZ (w62 hw)) rfl (hb hby at_572) ?_
                refine XS.lstore X_1251.here hx rfl (hb hby at_575) rfl (l' := #[.val (.int p0), .val (.long p1), .second, .val (.int p2), .val (.int p3), .val (.ref a_9), .val (.int (own_l20 p0)), .val (.long (own_Y p1)), .second, .val (.ref a_523), .val (.int (1 : Int32)), .val (.int (1 : Int32)), .val (.int (own_pl p2 (own_l20 p0))), .val (.int (own_pl p3 (own_l20 p0))), .val (.int (own_cc p2)), .val (.int (own_cc p3)), .val (.long (own_value (((own_ds (own_Y p1) (own_l20 p0)).set (own_pl p2 (own_l20 p0)).toNatClampNeg (own_cc p2)).set (own_pl p3 (own_l20 p0)).toNatClampNeg (own_cc p3)))), .second, .val (.int (1 : Int32)), .val (.long (-1 : Int64)), .second, .unset, .unset]) rfl ?_
                refine XS.goto X_1251.here hx rfl (pc0 := 577) (pc' := 672) rfl (hb hby at_577) (by decide) (by decide) ?_
                refine XS.lload X_1251.here hx rfl (hb hby at_672) rfl ?_
                refine XS.lload X_1251.here hx rfl (hb hby at_674) rfl ?_
                refine XS.lcmp X_1251.here hx rfl (hb hby at_676) rfl ?_
                show Steps p.tables e below (T_1251.setTop (mkF m 677 #[.val (.int p0), .val (.long p1), .second, .val (.int p2), .val (.int p3), .val (.ref a_9), .val (.int (own_l20 p0)), .val (.long (own_Y p1)), .second, .val (.ref a_523), .val (.int (1 : Int32)), .val (.int (1 : Int32)), .val (.int (own_pl p2 (own_l20 p0))), .val (.int (own_pl p3 (own_l20 p0))), .val (.int (own_cc p2)), .val (.int (own_cc p3)), .val (.long (own_value (((own_ds (own_Y p1) (own_l20 p0)).set (own_pl p2 (own_l20 p0)).toNatClampNeg (own_cc p2)).set (own_pl p3 (own_l20 p0)).toNatClampNeg (own_cc p3)))), .second, .val (.int (1 : Int32)), .val (.long (-1 : Int64)), .second, .unset, .unset] [(.int (lcmpW (own_value (((own_ds (own_Y p1) (own_l20 p0)).set (own_pl p2 (own_l20 p0)).toNatClampNeg (own_cc p2)).set (own_pl p3 (own_l20 p0)).toNatClampNeg (own_cc p3))) (-1 : Int64)))])) _
                refine XS.ifNo X_1251.here hx rfl (hb hby at_677) rfl (i0_ne_f ((lw_eq (own_value (((own_ds (own_Y p1) (own_l20 p0)).set (own_pl p2 (own_l20 p0)).toNatClampNeg (own_cc p2)).set (own_pl p3 (own_l20 p0)).toNatClampNeg (own_cc p3))) (-1 : Int64)).mpr (own_vbad (own_ms2 (own_dsl _ _) hr_513.1 hr_513.2 hr_514.1 hc_1156) g_1376))) ?_
                refine XS.iconst X_1251.here hx rfl (hb hby at_680) ?_
                refine XS.goto X_1251.here hx rfl (pc0 := 681) (pc' := 685) rfl (hb hby at_681) (by decide) (by decide) ?_
                exact Steps.refl _
              have K_1380 : Keep h0 T_1135.heap [] := K_1154
              obtain ⟨fs, hr, hrun, hended, hRE⟩ := X_1251.leaveW hS0 (by rw [show T_1251.heap = T_1135.heap from e_1378]; exact (Nat.le_trans (Nat.le_refl _) (Nat.le_trans (Nat.le_trans (Nat.le_trans (Nat.le_trans (Nat.le_trans (Nat.le_trans (Nat.le_trans (Nat.le_trans (Nat.le_trans (Nat.le_trans (Nat.le_trans (Nat.le_trans (Nat.le_trans (Nat.le_trans (Nat.le_trans (Nat.le_trans (Nat.le_trans (Nat.le_trans (Nat.le_trans (Nat.le_trans (Nat.le_trans (Nat.le_trans (Nat.le_trans (Nat.le_trans (Nat.le_trans (Nat.le_trans (Nat.le_trans (Nat.le_trans (Nat.le_trans (Nat.le_trans (Nat.le_trans (Nat.le_trans (Nat.le_trans (Nat.le_trans (Nat.le_trans (Nat.le_trans (Nat.le_trans (Nat.le_trans (Nat.le_trans (Nat.le_trans (Nat.le_trans (Nat.le_trans (Nat.le_trans E_6.1 (Keep.of_wr W_26).1) (Keep.of_wr W_44).1) (Keep.of_wr W_62).1) (Keep.of_wr W_80).1) (Keep.of_wr W_98).1) (Keep.of_wr W_116).1) (Keep.of_wr W_134).1) (Keep.of_wr W_152).1) (Keep.of_wr W_171).1) (Keep.of_wr W_189).1) (Keep.of_wr W_207).1) (Keep.of_wr W_225).1) (Keep.of_wr W_243).1) (Keep.of_wr W_261).1) (Keep.of_wr W_279).1) (Keep.of_wr W_297).1) (Keep.of_wr W_315).1) (Keep.of_wr W_334).1) (Keep.of_wr W_352).1) E_520.1) K_534.1) K_543.1) K_552.1) K_561.1) K_570.1) K_580.1) K_589.1) K_598.1) K_607.1) K_616.1) K_625.1) K_634.1) K_644.1) K_653.1) K_662.1) K_671.1) K_680.1) K_689.1) K_698.1) (Keep.of_wr W_1094).1) (Keep.of_wr W_1112).1) E_1123.1) K_1139.1))) (v := some (.int (1 : Int32))) (fun h => by rw [Bd.returns] at h; cases h)
              refine ⟨_, _, C_1379.trans (retN X_1251 hx (t := .boolean) Bd.returns (by simp) (hb hby at_685) hr), hrun, hended, _, _, rfl, ?_, ?_, hRE.1, hRE.2.1, hRE.2.2.1, hRE.2.2.2.mono (by decide) (by decide)⟩
              · show Q_law Z G1 G3 p0 p1 p2 p3 h0 n0 (some (.int (1 : Int32))) T_1251.heap _
                rw [e_1378]
                exact ⟨rfl, N_1377, K_1380⟩
              · show CHr Z consts_1 s.vm s.heap T_1251.vm T_1251.heap
                rw [hh, show T_1251.heap = T_1135.heap from e_1378]
                exact CR_1147.trans (CHv.at X_1251 hZ hEL CH_1146)
theorem own_sta {s : State} {args : Array Value} {C n d K : String} (hx : (Jvm.Cond.exactly (.static C n d) K).value args s none s [] = some true) (hi : (Jvm.Cond.initialized C).before args s = true) (hl : (Jvm.Cond.laysStatic C n d).before args s = true) :
    ∃ a, Sta s s.heap C n d (.ref a) ∧ Exa s s.heap a K ∧ (Term.static C n d).eval args s none [] s = some (.ref a) := by
  obtain ⟨a, c', cell, k, e1, -⟩ := Cond.exactly_spec (Cond.before_iff.mpr hx)
  exact ⟨a, Sta.start e1 (Or.inr ⟨hi, hl⟩), Exa.start e1 hx, e1⟩
theorem own_fld {s : State} {args : Array Value} {t : Term} {a : Addr} {O n d : String} {v : Value} (ev : t.eval args s none [] s = some (.ref a)) (h : (Term.field t O n d).eval args s none [] s = some v) : Fld s s.heap a O n d v :=
  Fld.start (by simpa [Term.eval, ev] using h)
theorem own_fldI {s : State} {args : Array Value} {t : Term} {a : Addr} {O n d : String} {i : Int32} (ev : t.eval args s none [] s = some (.ref a)) (h : (Jvm.Cond.eq (Term.field t O n d) (.int i)).value args s none s [] = some true) : Fld s s.heap a O n d (.int i) :=
  own_fld ev (eqv_i (Term.int_eval i) h)
set_option maxRecDepth 65536 in
set_option maxHeartbeats 40000000 in
theorem comes_1 {Post : Tables → Env → Array Value → State → Outcome → State → Prop} (hpost : ∀ tb e args s v u, (limb_1_1.after args s (.returned v) u = true ∧ limb_1_2.after args s (.returned v) u = true ∧ True) → ReturnedEndW s (.returned v) u (Jvm.fieldLocs frame_1_writes args s ++ Jvm.arrayLocs frame_1_arrays args s ++ Jvm.staticLocs frame_1_statics s) 24 1216 → Post tb e args s (.returned v) u) :
    ArmFor flags0 classFile x code maxLocals ret World_1 tables_1 room_1 Calls_1 rest_1 Pre_1 Post := by
  intro l hfl _ _ p e ha hc hk s m args below hf hA hF happ hP
  obtain ⟨hcalls, hrest, hpre⟩ := hP
  obtain ⟨-, -, -, hnamed, -, -, -, hat⟩ := (Spec.applies_iff hf).mp happ
  obtain ⟨hg, hn⟩ := and_e (Cond.before_iff.mp (show (Jvm.Cond.and given_1 narrow_1).before args s = true from hpre))
  obtain ⟨h1, g0⟩ := and_e hg
  obtain ⟨a0, g1⟩ := and_e g0
  obtain ⟨a1, g2⟩ := and_e g1
  obtain ⟨a2, g3⟩ := and_e g2
  have a3 := g3
  obtain ⟨w0, w1, w2, w3, rfl⟩ : ∃ w0 w1 w2 w3 : Value, args = #[w0, w1, w2, w3] := by
    have hs : args.size = 4 := by simpa [Cond.value, given_1] using h1
    obtain ⟨L⟩ := args
    match L, hs with
    | [w0, w1, w2, w3], _ => exact ⟨w0, w1, w2, w3, rfl⟩
  have hw := fun d (hd : d ∈ tables_1) => atoms_spec (ws := Jvm.Cond.code x code maxLocals ret :: tables_1) hat d (List.mem_cons_of_mem _ hd)
  obtain ⟨hsets, hown0⟩ := atoms_of _ (rest_1_c_eq ▸ (show rest_1_c.before _ s = true from hrest))
  have hfit : Fit s := fun {y c} hc i hi => by
    obtain ⟨ha, rfl⟩ := Array.getElem?_eq_some_iff.mp hc
    have q := List.all_eq_true.mp ((Array.all_eq_true_iff_forall_mem.mp hF) _ (Array.getElem_mem ha)) i (List.mem_range.mpr hi)
    simpa [Array.getElem?_eq_getElem hi] using q
  obtain ⟨i0, q0⟩ := is_v a0
  obtain rfl : w0 = (.int i0) := Option.some.inj q0
  obtain ⟨i1, q1⟩ := isL_v a1
  obtain rfl : w1 = (.long i1) := Option.some.inj q1
  obtain ⟨i2, q2⟩ := is_v a2
  obtain rfl : w2 = (.int i2) := Option.some.inj q2
  obtain ⟨i3, q3⟩ := is_v a3
  obtain rfl : w3 = (.int i3) := Option.some.inj q3
  obtain ⟨iCS, eCS⟩ := is_v (Cond.before_iff.mp (hsets _ (List.mem_of_getElem? (i := 1) rfl)))
  have SCS : Sta s s.heap "java/lang/String" "COMPACT_STRINGS" "Z" (.int iCS) := Sta.start eCS (Or.inl (hsets _ (List.mem_of_getElem? (i := 0) rfl)))
  have PCS : ¬ (iCS = (0 : Int32)) := gotF (Cond.eq_ints eCS (Term.int_eval (0))) (not_v (Cond.before_iff.mp (hsets _ (List.mem_of_getElem? (i := 2) rfl))))
  obtain ⟨vF, eF, rF⟩ := isR_v (Cond.before_iff.mp (hsets _ (List.mem_of_getElem? (i := 8) rfl)))
  have SF : Sta s s.heap "jdk/internal/util/Preconditions" "SIOOBE_FORMATTER" "Ljava/util/function/BiFunction;" vF := Sta.start eF (Or.inl (hsets _ (List.mem_of_getElem? (i := 7) rfl)))
  have HG : own_G l s #[(.int i0), (.long i1), (.int i2), (.int i3)] iCS vF := ⟨SCS, PCS, SF, rF⟩
  have CH : CHv s consts_1 s.vm s.heap := CHv.start (own_EL hw) hcalls.1 (hsets _ (List.mem_of_getElem? (i := 2) rfl)) (hw _ (List.mem_of_getElem? (i := 39) rfl)) (hw _ (List.mem_of_getElem? (i := 26) rfl))
  obtain ⟨n, o, h1, h2, h3, _, L, rfl, ⟨rfl, N, -⟩, -, hq⟩ := rm_law l s _ hw tables_1 iCS vF HG s.heap s.heap.size (Old.start s) i0 i1 i2 i3 p e ha hc hk s m _ below hf ((Spec.applies_iff_loose hf).mp happ).1 ⟨rfl, State.Warmed39.refl s, rfl, CH⟩ trivial
  refine ⟨n, _, h1, h2, h3, hpost _ _ _ _ _ _ ⟨Cond.after_iff.mpr rfl, Cond.after_iff.mpr (eq_i res_at (Term.int_eval (1)) rfl), trivial⟩ ⟨hq.1, hq.2.1, hq.2.2.1, (hq.2.2.2.sift fun y hy => Or.inr (N y hy)).mono (by decide) (by decide)⟩⟩
theorem main_1_1 : Claimed_1_1 := comes_1 fun _ _ _ _ _ _ h hF => ⟨h.1, hF⟩
theorem main_1_2 : Claimed_1_2 := comes_1 fun _ _ _ _ _ _ h hF => ⟨h.2.1, hF⟩
end Jvm.Pilot.@@N@@
namespace Jvm.Pilot.@@N@@
open Jvm Jvm.ClassFile Sem Op Lib Jvm.Free Jvm.Stand Jvm.Pilot.@@N@@.Jvm.D
/-! MADE BY PROGRAM (witnessworld.py) out of the Statement's table words and the real class files: 22 classes; the members and pool entries that the words name. The judged class is class 1, her method 4. -/
namespace start1
open Jvm.ClassFile
def u (s : String) : CpInfo := .utf8 (stringToUtf16 s)
/-- a pool by its gaps: so many unusable entries, then the entry; so many at the end -/
def gap : Nat → List CpInfo → List CpInfo
  | 0, r => r
  | n + 1, r => .unusable :: gap n r
def poolList (es : List (Nat × CpInfo)) (last : Nat) : List CpInfo := es.foldr (fun e r => gap e.1 (e.2 :: r)) (gap last [])
def pool (es : List (Nat × CpInfo)) (last : Nat) : Array CpInfo := ⟨poolList es last⟩
def fileOf (pool : Array CpInfo) (this : Nat) (attrs : Array Attribute := #[]) (ms : Array MethodInfo := #[]) (fl : Nat := 33) (sup : Nat := 0) (ifs : Array Nat := #[]) (fds : Array FieldInfo := #[]) : ClassFile where
  minorVersion := 0
  majorVersion := 65
  constantPool := pool
  accessFlags := fl
  thisClass := this
  superClass := sup
  interfaces := ifs
  fields := fds
  methods := ms
  attributes := attrs
def plain (name : String) (sup : Option ClassId) : Class where
  name := name
  kind := .ordinary
  loader := none
  accessFlags := 33
  super := sup
  interfaces := #[]
  cf := none
  fields := #[]
  methods := #[]
  instanceTypes := #[]
  staticTypes := #[]
  resolved := #[]
  callSites := []
  init := .initialized
  statics := none
  mirror := none

def pool0 : Array CpInfo := pool [(5, u "<init>"), (0, u "()V"), (1, .class_ 10), (1, u "java/lang/Object")] 113

def k0c0 : Code := { maxStack := 0, maxLocals := 1, code := object_method_1_code, exceptionTable := #[], attributes := #[] }
def k0m0 : Method := { name := "<init>", desc := "()V", sig := { parameters := [], returnType := none }, accessFlags := 1, code := some k0c0 }
/-- java/lang/Object -/
def k0 : Class := { plain "java/lang/Object" none with
  accessFlags := 33
  interfaces := #[]
  cf := some (fileOf pool0 8 #[] #[{ accessFlags := 1, nameIndex := 5, descriptorIndex := 6, attributes := #[] }] 33 0 #[] #[])
  fields := #[]
  methods := #[k0m0]
  instanceTypes := #[]
  staticTypes := #[]
  resolved := Array.replicate 124 none
  statics := none }

def pool1 : Array CpInfo := pool [(2, .class_ 4), (1, u "java/lang/Object"), (0, u "<init>"), (0, u "()V"), (0, .long 10), (1, .methodref 10 11), (0, .class_ 12), (0, .nameAndType 13 14), (0, u "com/example/fleetyard/fleetyard/model/IdsValuePinLaw"), (0, u "digit"), (0, u "([JJII)J"), (0, .long 100), (1, .long 1000), (1, .long 10000), (1, .long 100000), (1, .long 1000000), (1, .long 10000000), (1, .long 100000000), (1, .long 1000000000), (1, .long 10000000000), (1, .long 100000000000), (1, .long 1000000000000), (1, .long 10000000000000), (1, .long 100000000000000), (1, .long 1000000000000000), (1, .long 10000000000000000), (1, .long 100000000000000000), (1, .long 1000000000000000000), (3, .long 9223372036854775807), (1, .methodref 10 54), (0, .nameAndType 55 56), (0, u "put"), (0, u "([C[JJI)V"), (0, .integer 65535), (0, .class_ 59), (0, u "java/lang/String"), (0, .methodref 58 61), (0, .nameAndType 5 62), (0, u "([C)V"), (0, .methodref 64 65), (0, .class_ 66), (0, .nameAndType 67 68), (0, u "com/example/fleetyard/fleetyard/model/Ids"), (0, u "value"), (0, u "(Ljava/lang/String;)J"), (0, .methodref 10 70), (0, .nameAndType 71 72), (0, u "isDigit"), (0, u "(C)Z"), (0, .long 18446744073709551615), (4, u "law"), (0, u "(IJII)Z")] 6

def k1m0 : Method := { name := "<init>", desc := "()V", sig := { parameters := [], returnType := none }, accessFlags := 1, code := none }
def k1c1 : Code := { maxStack := 5, maxLocals := 5, code := method_2_code, exceptionTable := #[], attributes := #[] }
def k1m1 : Method := { name := "digit", desc := "([JJII)J", sig := { parameters := [(.array .long), .long, .int, .int], returnType := some .long }, accessFlags := 10, code := some k1c1 }
def k1c2 : Code := { maxStack := 8, maxLocals := 5, code := method_3_code, exceptionTable := #[], attributes := #[] }
def k1m2 : Method := { name := "put", desc := "([C[JJI)V", sig := { parameters := [(.array .char), (.array .long), .long, .int], returnType := none }, accessFlags := 10, code := some k1c2 }
def k1c3 : Code := { maxStack := 2, maxLocals := 1, code := method_4_code, exceptionTable := #[], attributes := #[] }
def k1m3 : Method := { name := "isDigit", desc := "(C)Z", sig := { parameters := [.char], returnType := some .boolean }, accessFlags := 10, code := some k1c3 }
def k1c4 : Code := { maxStack := 9, maxLocals := 23, code := code, exceptionTable := #[], attributes := #[] }
def k1m4 : Method := { name := "law", desc := "(IJII)Z", sig := { parameters := [.int, .long, .int, .int], returnType := some .boolean }, accessFlags := 9, code := some k1c4 }
/-- com/example/fleetyard/fleetyard/model/IdsValuePinLaw -/
def k1 : Class := { plain "com/example/fleetyard/fleetyard/model/IdsValuePinLaw" (some 0) with
  accessFlags := 49
  interfaces := #[]
  cf := some (fileOf pool1 10 #[] #[{ accessFlags := 1, nameIndex := 5, descriptorIndex := 6, attributes := #[] }, { accessFlags := 10, nameIndex := 13, descriptorIndex := 14, attributes := #[] }, { accessFlags := 10, nameIndex := 55, descriptorIndex := 56, attributes := #[] }, { accessFlags := 10, nameIndex := 71, descriptorIndex := 72, attributes := #[] }, { accessFlags := 9, nameIndex := 78, descriptorIndex := 79, attributes := #[] }] 49 2 #[] #[])
  fields := #[]
  methods := #[k1m0, k1m1, k1m2, k1m3, k1m4]
  instanceTypes := #[]
  staticTypes := #[]
  resolved := Array.replicate 86 none
  statics := none }

def pool2 : Array CpInfo := pool [(1, .class_ 2), (0, u "java/io/Serializable"), (0, .class_ 4), (0, u "java/lang/Object")] 2

/-- java/io/Serializable -/
def k2 : Class := { plain "java/io/Serializable" (some 0) with
  accessFlags := 1537
  interfaces := #[]
  cf := some (fileOf pool2 1 #[] #[] 1537 3 #[] #[])
  fields := #[]
  methods := #[]
  instanceTypes := #[]
  staticTypes := #[]
  resolved := Array.replicate 7 none
  statics := none }

def pool3 : Array CpInfo := pool [(1, .class_ 2), (0, u "java/lang/Comparable"), (0, .class_ 4), (0, u "java/lang/Object")] 7

/-- java/lang/Comparable -/
def k3 : Class := { plain "java/lang/Comparable" (some 0) with
  accessFlags := 1537
  interfaces := #[]
  cf := some (fileOf pool3 1 #[] #[] 1537 3 #[] #[])
  fields := #[]
  methods := #[]
  instanceTypes := #[]
  staticTypes := #[]
  resolved := Array.replicate 12 none
  statics := none }

def pool4 : Array CpInfo := pool [(2, .class_ 4), (1, u "java/lang/CharSequence"), (42, .class_ 48), (0, u "java/lang/CharSequence$1CodePointIterator"), (10, .class_ 60), (0, u "java/lang/CharSequence$1CharIterator"), (5, .class_ 67), (0, u "java/lang/Object")] 63

/-- java/lang/CharSequence -/
def k4 : Class := { plain "java/lang/CharSequence" (some 0) with
  accessFlags := 1537
  interfaces := #[]
  cf := some (fileOf pool4 2 #[.nestMembers #[47, 59]] #[] 1537 66 #[] #[])
  fields := #[]
  methods := #[]
  instanceTypes := #[]
  staticTypes := #[]
  resolved := Array.replicate 131 none
  statics := none }

def pool5 : Array CpInfo := pool [(1, .class_ 2), (0, u "java/lang/constant/Constable"), (0, .class_ 4), (0, u "java/lang/Object")] 6

/-- java/lang/constant/Constable -/
def k5 : Class := { plain "java/lang/constant/Constable" (some 0) with
  accessFlags := 1537
  interfaces := #[]
  cf := some (fileOf pool5 1 #[] #[] 1537 3 #[] #[])
  fields := #[]
  methods := #[]
  instanceTypes := #[]
  staticTypes := #[]
  resolved := Array.replicate 11 none
  statics := none }

def pool6 : Array CpInfo := pool [(1, .class_ 2), (0, u "java/lang/constant/ConstantDesc"), (0, .class_ 4), (0, u "java/lang/Object")] 32

/-- java/lang/constant/ConstantDesc -/
def k6 : Class := { plain "java/lang/constant/ConstantDesc" (some 0) with
  accessFlags := 1537
  interfaces := #[]
  cf := some (fileOf pool6 1 #[] #[] 1537 3 #[] #[])
  fields := #[]
  methods := #[]
  instanceTypes := #[]
  staticTypes := #[]
  resolved := Array.replicate 37 none
  statics := none }

def pool7 : Array CpInfo := pool [(1, .methodref 2 3), (0, .class_ 4), (0, .nameAndType 5 6), (0, u "java/lang/Object"), (0, u "<init>"), (0, u "()V"), (0, .string 8), (0, u ""), (0, .fieldref 10 11), (0, .class_ 12), (0, .nameAndType 13 14), (0, u "java/lang/String"), (0, u "value"), (0, u "[B"), (0, .fieldref 10 16), (0, .nameAndType 17 18), (0, u "coder"), (0, u "B"), (2, u "hash"), (0, u "I"), (2, u "hashIsZero"), (0, u "Z"), (0, .methodref 10 28), (0, .nameAndType 5 29), (0, u "([CIILjava/lang/Void;)V"), (8, .fieldref 10 39), (0, .nameAndType 40 26), (0, u "COMPACT_STRINGS"), (1, .class_ 44), (1, u "java/lang/StringUTF16"), (0, u "compress"), (1, .methodref 42 48), (0, .nameAndType 49 50), (0, u "coderFromArrayLen"), (0, u "([BI)B"), (56, .class_ 109), (1, u "java/lang/StringLatin1"), (32, u "()Z"), (34, .methodref 42 178), (0, .nameAndType 45 179), (0, u "([CII)[B"), (154, u "()I"), (0, .methodref 10 336), (0, .nameAndType 17 337), (0, u "()B"), (25, u "([BI)C"), (27, u "(II)V"), (35, u "(I)C"), (64, .methodref 10 493), (0, .nameAndType 494 142), (0, u "isLatin1"), (0, .methodref 107 496), (0, .nameAndType 497 363), (0, u "charAt"), (3, u "checkIndex"), (5, u "length"), (67, .class_ 576), (0, u "java/lang/CharSequence"), (22, u "CASE_INSENSITIVE_ORDER"), (0, u "Ljava/util/Comparator;"), (409, u "([C)V"), (42, .fieldref 1054 1055), (0, .class_ 1056), (0, .nameAndType 1057 1058), (0, u "jdk/internal/util/Preconditions"), (0, u "SIOOBE_FORMATTER"), (0, u "Ljava/util/function/BiFunction;"), (0, .methodref 1054 1060), (0, .nameAndType 501 1061), (0, u "(IILjava/util/function/BiFunction;)I"), (39, u "serialPersistentFields"), (0, u "[Ljava/io/ObjectStreamField;"), (0, .class_ 1104), (0, u "java/lang/String$CaseInsensitiveComparator"), (1, .class_ 1107), (0, u "java/io/Serializable"), (0, .class_ 1109), (0, u "java/lang/Comparable"), (0, .class_ 1111), (0, u "java/lang/constant/Constable"), (0, .class_ 1113), (0, u "java/lang/constant/ConstantDesc"), (2, u "serialVersionUID"), (0, u "J"), (3, u "REPL"), (0, u "C"), (2, u "LATIN1"), (1, u "UTF16")] 323

def k7m0 : Method := { name := "<init>", desc := "()V", sig := { parameters := [], returnType := none }, accessFlags := 1, code := none }
def k7c1 : Code := { maxStack := 5, maxLocals := 2, code := jdk_42_method_3_code, exceptionTable := #[], attributes := #[] }
def k7m1 : Method := { name := "<init>", desc := "([C)V", sig := { parameters := [(.array .char)], returnType := none }, accessFlags := 1, code := some k7c1 }
def k7c2 : Code := { maxStack := 2, maxLocals := 1, code := jdk_42_method_54_code, exceptionTable := #[], attributes := #[] }
def k7m2 : Method := { name := "length", desc := "()I", sig := { parameters := [], returnType := some .int }, accessFlags := 1, code := some k7c2 }
def k7c3 : Code := { maxStack := 2, maxLocals := 2, code := jdk_42_method_56_code, exceptionTable := #[], attributes := #[] }
def k7m3 : Method := { name := "charAt", desc := "(I)C", sig := { parameters := [.int], returnType := some .char }, accessFlags := 1, code := some k7c3 }
def k7c4 : Code := { maxStack := 4, maxLocals := 6, code := jdk_42_method_149_code, exceptionTable := #[], attributes := #[] }
def k7m4 : Method := { name := "<init>", desc := "([CIILjava/lang/Void;)V", sig := { parameters := [(.array .char), .int, .int, (.object "java/lang/Void")], returnType := none }, accessFlags := 2, code := some k7c4 }
def k7c5 : Code := { maxStack := 1, maxLocals := 1, code := jdk_42_method_152_code, exceptionTable := #[], attributes := #[] }
def k7m5 : Method := { name := "coder", desc := "()B", sig := { parameters := [], returnType := some .byte }, accessFlags := 0, code := some k7c5 }
def k7c6 : Code := { maxStack := 1, maxLocals := 1, code := jdk_42_method_154_code, exceptionTable := #[], attributes := #[] }
def k7m6 : Method := { name := "isLatin1", desc := "()Z", sig := { parameters := [], returnType := some .boolean }, accessFlags := 0, code := some k7c6 }
def k7c7 : Code := { maxStack := 3, maxLocals := 2, code := jdk_42_method_155_code, exceptionTable := #[], attributes := #[] }
def k7m7 : Method := { name := "checkIndex", desc := "(II)V", sig := { parameters := [.int, .int], returnType := none }, accessFlags := 8, code := some k7c7 }
/-- java/lang/String -/
def k7 : Class := { plain "java/lang/String" (some 0) with
  accessFlags := 49
  interfaces := #[2, 3, 4, 5, 6]
  cf := some (fileOf pool7 10 #[.nestMembers #[1103]] #[{ accessFlags := 1, nameIndex := 5, descriptorIndex := 6, attributes := #[] }, { accessFlags := 1, nameIndex := 5, descriptorIndex := 1010, attributes := #[] }, { accessFlags := 1, nameIndex := 507, descriptorIndex := 334, attributes := #[] }, { accessFlags := 1, nameIndex := 497, descriptorIndex := 427, attributes := #[] }, { accessFlags := 2, nameIndex := 5, descriptorIndex := 29, attributes := #[] }, { accessFlags := 0, nameIndex := 17, descriptorIndex := 337, attributes := #[] }, { accessFlags := 0, nameIndex := 494, descriptorIndex := 142, attributes := #[] }, { accessFlags := 8, nameIndex := 501, descriptorIndex := 391, attributes := #[] }] 49 2 #[1106, 1108, 575, 1110, 1112] #[{ accessFlags := 18, nameIndex := 13, descriptorIndex := 14, attributes := #[] }, { accessFlags := 18, nameIndex := 17, descriptorIndex := 18, attributes := #[] }, { accessFlags := 2, nameIndex := 21, descriptorIndex := 22, attributes := #[] }, { accessFlags := 2, nameIndex := 25, descriptorIndex := 26, attributes := #[] }, { accessFlags := 26, nameIndex := 1116, descriptorIndex := 1117, attributes := #[] }, { accessFlags := 24, nameIndex := 40, descriptorIndex := 26, attributes := #[] }, { accessFlags := 26, nameIndex := 1101, descriptorIndex := 1102, attributes := #[] }, { accessFlags := 26, nameIndex := 1121, descriptorIndex := 1122, attributes := #[] }, { accessFlags := 25, nameIndex := 599, descriptorIndex := 600, attributes := #[] }, { accessFlags := 24, nameIndex := 1125, descriptorIndex := 18, attributes := #[] }, { accessFlags := 24, nameIndex := 1127, descriptorIndex := 18, attributes := #[] }])
  fields := #[{ name := "value", type := (.array .byte), accessFlags := 18, slot := 0, constantValue := 0 }, { name := "coder", type := .byte, accessFlags := 18, slot := 1, constantValue := 0 }, { name := "hash", type := .int, accessFlags := 2, slot := 2, constantValue := 0 }, { name := "hashIsZero", type := .boolean, accessFlags := 2, slot := 3, constantValue := 0 }, { name := "serialVersionUID", type := .long, accessFlags := 26, slot := 0, constantValue := 0 }, { name := "COMPACT_STRINGS", type := .boolean, accessFlags := 24, slot := 1, constantValue := 0 }, { name := "serialPersistentFields", type := (.array (.object "java/io/ObjectStreamField")), accessFlags := 26, slot := 2, constantValue := 0 }, { name := "REPL", type := .char, accessFlags := 26, slot := 3, constantValue := 0 }, { name := "CASE_INSENSITIVE_ORDER", type := (.object "java/util/Comparator"), accessFlags := 25, slot := 4, constantValue := 0 }, { name := "LATIN1", type := .byte, accessFlags := 24, slot := 5, constantValue := 0 }, { name := "UTF16", type := .byte, accessFlags := 24, slot := 6, constantValue := 0 }]
  methods := #[k7m0, k7m1, k7m2, k7m3, k7m4, k7m5, k7m6, k7m7]
  instanceTypes := #[(.array .byte), .byte, .int, .boolean]
  staticTypes := #[.long, .boolean, (.array (.object "java/io/ObjectStreamField")), .char, (.object "java/util/Comparator"), .byte, .byte]
  resolved := Array.replicate 1451 none
  statics := some 0 }

def pool8 : Array CpInfo := pool [(2, .class_ 4), (1, u "java/lang/Object"), (0, u "<init>"), (0, u "()V"), (1, .class_ 10), (1, u "com/example/fleetyard/fleetyard/model/Ids"), (6, .methodref 18 19), (0, .class_ 20), (0, .nameAndType 21 22), (0, u "java/lang/String"), (0, u "length"), (0, u "()I"), (10, .methodref 18 34), (0, .nameAndType 35 36), (0, u "charAt"), (0, u "(I)C"), (0, .long 18446744073709551615), (1, .long 10), (9, u "VALUED_DIGITS"), (0, u "I"), (6, u "value"), (0, u "(Ljava/lang/String;)J")] 2

def k8m0 : Method := { name := "<init>", desc := "()V", sig := { parameters := [], returnType := none }, accessFlags := 2, code := none }
def k8c1 : Code := { maxStack := 4, maxLocals := 6, code := prog_30_method_3_code, exceptionTable := #[], attributes := #[] }
def k8m1 : Method := { name := "value", desc := "(Ljava/lang/String;)J", sig := { parameters := [(.object "java/lang/String")], returnType := some .long }, accessFlags := 9, code := some k8c1 }
/-- com/example/fleetyard/fleetyard/model/Ids -/
def k8 : Class := { plain "com/example/fleetyard/fleetyard/model/Ids" (some 0) with
  accessFlags := 49
  interfaces := #[]
  cf := some (fileOf pool8 8 #[] #[{ accessFlags := 2, nameIndex := 5, descriptorIndex := 6, attributes := #[] }, { accessFlags := 9, nameIndex := 57, descriptorIndex := 58, attributes := #[] }] 49 2 #[] #[{ accessFlags := 25, nameIndex := 49, descriptorIndex := 50, attributes := #[] }])
  fields := #[{ name := "VALUED_DIGITS", type := .int, accessFlags := 25, slot := 0, constantValue := 0 }]
  methods := #[k8m0, k8m1]
  instanceTypes := #[]
  staticTypes := #[.int]
  resolved := Array.replicate 61 none
  statics := none }

def pool9 : Array CpInfo := pool [(6, .class_ 8), (1, u "java/lang/Object"), (0, u "<init>"), (0, u "()V"), (1, .class_ 14), (1, u "java/lang/StringUTF16"), (31, u "$assertionsDisabled"), (0, u "Z"), (13, u "HI_BYTE_SHIFT"), (0, u "I"), (2, u "LO_BYTE_SHIFT"), (49, .methodref 12 116), (0, .nameAndType 117 118), (0, u "compress"), (0, u "([CI[BII)I"), (3, u "([CII)[B"), (138, u "coderFromArrayLen"), (0, u "([BI)B"), (106, .class_ 371), (1, u "java/lang/StringUTF16$LinesSpliterator"), (58, u "MAX_LENGTH"), (196, .class_ 628), (0, u "java/lang/StringUTF16$CodePointsSpliterator"), (0, .class_ 630), (0, u "java/lang/StringUTF16$CharsSpliterator")] 4

def k9m0 : Method := { name := "<init>", desc := "()V", sig := { parameters := [], returnType := none }, accessFlags := 0, code := none }
def k9c1 : Code := { maxStack := 2, maxLocals := 2, code := jdk_52_method_15_code, exceptionTable := #[], attributes := #[] }
def k9m1 : Method := { name := "coderFromArrayLen", desc := "([BI)B", sig := { parameters := [(.array .byte), .int], returnType := some .byte }, accessFlags := 8, code := some k9c1 }
def k9c2 : Code := { maxStack := 5, maxLocals := 6, code := jdk_52_method_16_code, exceptionTable := #[], attributes := #[] }
def k9m2 : Method := { name := "compress", desc := "([CII)[B", sig := { parameters := [(.array .char), .int, .int], returnType := some (.array .byte) }, accessFlags := 9, code := some k9c2 }
def k9c3 : Code := { maxStack := 3, maxLocals := 7, code := jdk_52_method_21_code, exceptionTable := #[], attributes := #[] }
def k9m3 : Method := { name := "compress", desc := "([CI[BII)I", sig := { parameters := [(.array .char), .int, (.array .byte), .int, .int], returnType := some .int }, accessFlags := 9, code := some k9c3 }
/-- java/lang/StringUTF16 -/
def k9 : Class := { plain "java/lang/StringUTF16" (some 0) with
  accessFlags := 48
  interfaces := #[]
  cf := some (fileOf pool9 12 #[.nestMembers #[627, 629, 369]] #[{ accessFlags := 0, nameIndex := 9, descriptorIndex := 10, attributes := #[] }, { accessFlags := 8, nameIndex := 261, descriptorIndex := 262, attributes := #[] }, { accessFlags := 9, nameIndex := 117, descriptorIndex := 122, attributes := #[] }, { accessFlags := 9, nameIndex := 117, descriptorIndex := 118, attributes := #[] }] 48 6 #[] #[{ accessFlags := 26, nameIndex := 61, descriptorIndex := 62, attributes := #[] }, { accessFlags := 26, nameIndex := 65, descriptorIndex := 62, attributes := #[] }, { accessFlags := 24, nameIndex := 430, descriptorIndex := 62, attributes := #[] }, { accessFlags := 4120, nameIndex := 46, descriptorIndex := 47, attributes := #[] }])
  fields := #[{ name := "HI_BYTE_SHIFT", type := .int, accessFlags := 26, slot := 0, constantValue := 0 }, { name := "LO_BYTE_SHIFT", type := .int, accessFlags := 26, slot := 1, constantValue := 0 }, { name := "MAX_LENGTH", type := .int, accessFlags := 24, slot := 2, constantValue := 0 }, { name := "$assertionsDisabled", type := .boolean, accessFlags := 4120, slot := 3, constantValue := 0 }]
  methods := #[k9m0, k9m1, k9m2, k9m3]
  instanceTypes := #[]
  staticTypes := #[.int, .int, .int, .boolean]
  resolved := Array.replicate 635 none
  statics := none }

def pool10 : Array CpInfo := pool [(1, .class_ 2), (0, u "java/lang/String"), (1, .class_ 6), (1, u "java/lang/Object"), (0, u "<init>"), (0, u "()V"), (0, .methodref 1 10), (0, .nameAndType 11 12), (0, u "checkIndex"), (0, u "(II)V"), (1, .class_ 16), (1, u "java/lang/StringLatin1"), (36, u "([BI)C"), (67, u "$assertionsDisabled"), (0, u "Z"), (98, .class_ 223), (1, u "java/lang/StringLatin1$LinesSpliterator"), (28, u "charAt"), (137, .class_ 391), (0, u "java/lang/StringLatin1$CharsSpliterator")] 3

def k10m0 : Method := { name := "<init>", desc := "()V", sig := { parameters := [], returnType := none }, accessFlags := 0, code := none }
def k10c1 : Code := { maxStack := 2, maxLocals := 2, code := jdk_43_method_2_code, exceptionTable := #[], attributes := #[] }
def k10m1 : Method := { name := "charAt", desc := "([BI)C", sig := { parameters := [(.array .byte), .int], returnType := some .char }, accessFlags := 9, code := some k10c1 }
/-- java/lang/StringLatin1 -/
def k10 : Class := { plain "java/lang/StringLatin1" (some 0) with
  accessFlags := 48
  interfaces := #[]
  cf := some (fileOf pool10 14 #[.nestMembers #[390, 221]] #[{ accessFlags := 0, nameIndex := 7, descriptorIndex := 8, attributes := #[] }, { accessFlags := 9, nameIndex := 252, descriptorIndex := 53, attributes := #[] }] 48 4 #[] #[{ accessFlags := 4120, nameIndex := 121, descriptorIndex := 122, attributes := #[] }])
  fields := #[{ name := "$assertionsDisabled", type := .boolean, accessFlags := 4120, slot := 0, constantValue := 0 }]
  methods := #[k10m0, k10m1]
  instanceTypes := #[]
  staticTypes := #[.boolean]
  resolved := Array.replicate 395 none
  statics := none }

def pool11 : Array CpInfo := pool [(2, .class_ 4), (1, u "java/lang/Object"), (0, u "<init>"), (0, u "()V"), (17, .class_ 26), (1, u "jdk/internal/util/Preconditions"), (6, u "checkIndex"), (21, .class_ 56), (0, u "jdk/internal/util/Preconditions$4"), (57, .class_ 115), (0, u "jdk/internal/util/Preconditions$1"), (7, u "SIOOBE_FORMATTER"), (0, u "Ljava/util/function/BiFunction;"), (0, .class_ 126), (0, u "jdk/internal/util/Preconditions$2"), (3, u "AIOOBE_FORMATTER"), (0, .class_ 132), (0, u "jdk/internal/util/Preconditions$3"), (3, u "IOOBE_FORMATTER"), (41, u "(IILjava/util/function/BiFunction;)I")] 15

def k11m0 : Method := { name := "<init>", desc := "()V", sig := { parameters := [], returnType := none }, accessFlags := 1, code := none }
def k11c1 : Code := { maxStack := 3, maxLocals := 3, code := jdk_41_method_11_code, exceptionTable := #[], attributes := #[] }
def k11m1 : Method := { name := "checkIndex", desc := "(IILjava/util/function/BiFunction;)I", sig := { parameters := [.int, .int, (.object "java/util/function/BiFunction")], returnType := some .int }, accessFlags := 9, code := some k11c1 }
/-- jdk/internal/util/Preconditions -/
def k11 : Class := { plain "jdk/internal/util/Preconditions" (some 0) with
  accessFlags := 33
  interfaces := #[]
  cf := some (fileOf pool11 24 #[.nestMembers #[55, 131, 125, 114]] #[{ accessFlags := 1, nameIndex := 5, descriptorIndex := 6, attributes := #[] }, { accessFlags := 9, nameIndex := 33, descriptorIndex := 178, attributes := #[] }] 33 2 #[] #[{ accessFlags := 25, nameIndex := 123, descriptorIndex := 124, attributes := #[] }, { accessFlags := 25, nameIndex := 130, descriptorIndex := 124, attributes := #[] }, { accessFlags := 25, nameIndex := 136, descriptorIndex := 124, attributes := #[] }])
  fields := #[{ name := "SIOOBE_FORMATTER", type := (.object "java/util/function/BiFunction"), accessFlags := 25, slot := 0, constantValue := 0 }, { name := "AIOOBE_FORMATTER", type := (.object "java/util/function/BiFunction"), accessFlags := 25, slot := 1, constantValue := 0 }, { name := "IOOBE_FORMATTER", type := (.object "java/util/function/BiFunction"), accessFlags := 25, slot := 2, constantValue := 0 }]
  methods := #[k11m0, k11m1]
  instanceTypes := #[]
  staticTypes := #[(.object "java/util/function/BiFunction"), (.object "java/util/function/BiFunction"), (.object "java/util/function/BiFunction")]
  resolved := Array.replicate 194 none
  statics := some 1 }

def pool12 : Array CpInfo := pool [(9, u "<init>"), (6, .class_ 18), (1, u "java/lang/Object"), (0, u "()V"), (1, .class_ 23), (1, u "jdk/internal/util/ArraysSupport"), (0, u "LOG2_ARRAY_LONG_INDEX_SCALE"), (0, u "I"), (2, u "U"), (0, u "Ljdk/internal/misc/Unsafe;"), (8, u "BIG_ENDIAN"), (0, u "Z"), (8, u "LOG2_BYTE_BIT_SIZE"), (4, u "LOG2_ARRAY_INT_INDEX_SCALE"), (54, u "JLA"), (0, u "Ljdk/internal/access/JavaLangAccess;"), (11, u "LOG2_ARRAY_BOOLEAN_INDEX_SCALE"), (9, u "LOG2_ARRAY_BYTE_INDEX_SCALE"), (5, u "LOG2_ARRAY_CHAR_INDEX_SCALE"), (5, u "LOG2_ARRAY_SHORT_INDEX_SCALE"), (18, u "LOG2_ARRAY_FLOAT_INDEX_SCALE"), (24, u "LOG2_ARRAY_DOUBLE_INDEX_SCALE"), (89, u "T_BOOLEAN"), (2, u "T_CHAR"), (1, u "T_FLOAT"), (1, u "T_DOUBLE"), (1, u "T_BYTE"), (1, u "T_SHORT"), (1, u "T_INT"), (1, u "T_LONG"), (1, u "SOFT_MAX_ARRAY_LENGTH")] 83

def k12m0 : Method := { name := "<init>", desc := "()V", sig := { parameters := [], returnType := none }, accessFlags := 2, code := none }
/-- jdk/internal/util/ArraysSupport -/
def k12 : Class := { plain "jdk/internal/util/ArraysSupport" (some 0) with
  accessFlags := 33
  interfaces := #[]
  cf := some (fileOf pool12 21 #[] #[{ accessFlags := 2, nameIndex := 9, descriptorIndex := 19, attributes := #[] }] 33 16 #[] #[{ accessFlags := 24, nameIndex := 28, descriptorIndex := 29, attributes := #[] }, { accessFlags := 26, nameIndex := 38, descriptorIndex := 39, attributes := #[] }, { accessFlags := 25, nameIndex := 121, descriptorIndex := 25, attributes := #[] }, { accessFlags := 25, nameIndex := 131, descriptorIndex := 25, attributes := #[] }, { accessFlags := 25, nameIndex := 137, descriptorIndex := 25, attributes := #[] }, { accessFlags := 25, nameIndex := 143, descriptorIndex := 25, attributes := #[] }, { accessFlags := 25, nameIndex := 53, descriptorIndex := 25, attributes := #[] }, { accessFlags := 25, nameIndex := 24, descriptorIndex := 25, attributes := #[] }, { accessFlags := 25, nameIndex := 162, descriptorIndex := 25, attributes := #[] }, { accessFlags := 25, nameIndex := 187, descriptorIndex := 25, attributes := #[] }, { accessFlags := 26, nameIndex := 48, descriptorIndex := 25, attributes := #[] }, { accessFlags := 25, nameIndex := 277, descriptorIndex := 25, attributes := #[] }, { accessFlags := 25, nameIndex := 280, descriptorIndex := 25, attributes := #[] }, { accessFlags := 25, nameIndex := 282, descriptorIndex := 25, attributes := #[] }, { accessFlags := 25, nameIndex := 284, descriptorIndex := 25, attributes := #[] }, { accessFlags := 25, nameIndex := 286, descriptorIndex := 25, attributes := #[] }, { accessFlags := 25, nameIndex := 288, descriptorIndex := 25, attributes := #[] }, { accessFlags := 25, nameIndex := 290, descriptorIndex := 25, attributes := #[] }, { accessFlags := 25, nameIndex := 292, descriptorIndex := 25, attributes := #[] }, { accessFlags := 26, nameIndex := 108, descriptorIndex := 109, attributes := #[] }, { accessFlags := 25, nameIndex := 294, descriptorIndex := 25, attributes := #[] }])
  fields := #[{ name := "U", type := (.object "jdk/internal/misc/Unsafe"), accessFlags := 24, slot := 0, constantValue := 0 }, { name := "BIG_ENDIAN", type := .boolean, accessFlags := 26, slot := 1, constantValue := 0 }, { name := "LOG2_ARRAY_BOOLEAN_INDEX_SCALE", type := .int, accessFlags := 25, slot := 2, constantValue := 0 }, { name := "LOG2_ARRAY_BYTE_INDEX_SCALE", type := .int, accessFlags := 25, slot := 3, constantValue := 0 }, { name := "LOG2_ARRAY_CHAR_INDEX_SCALE", type := .int, accessFlags := 25, slot := 4, constantValue := 0 }, { name := "LOG2_ARRAY_SHORT_INDEX_SCALE", type := .int, accessFlags := 25, slot := 5, constantValue := 0 }, { name := "LOG2_ARRAY_INT_INDEX_SCALE", type := .int, accessFlags := 25, slot := 6, constantValue := 0 }, { name := "LOG2_ARRAY_LONG_INDEX_SCALE", type := .int, accessFlags := 25, slot := 7, constantValue := 0 }, { name := "LOG2_ARRAY_FLOAT_INDEX_SCALE", type := .int, accessFlags := 25, slot := 8, constantValue := 0 }, { name := "LOG2_ARRAY_DOUBLE_INDEX_SCALE", type := .int, accessFlags := 25, slot := 9, constantValue := 0 }, { name := "LOG2_BYTE_BIT_SIZE", type := .int, accessFlags := 26, slot := 10, constantValue := 0 }, { name := "T_BOOLEAN", type := .int, accessFlags := 25, slot := 11, constantValue := 0 }, { name := "T_CHAR", type := .int, accessFlags := 25, slot := 12, constantValue := 0 }, { name := "T_FLOAT", type := .int, accessFlags := 25, slot := 13, constantValue := 0 }, { name := "T_DOUBLE", type := .int, accessFlags := 25, slot := 14, constantValue := 0 }, { name := "T_BYTE", type := .int, accessFlags := 25, slot := 15, constantValue := 0 }, { name := "T_SHORT", type := .int, accessFlags := 25, slot := 16, constantValue := 0 }, { name := "T_INT", type := .int, accessFlags := 25, slot := 17, constantValue := 0 }, { name := "T_LONG", type := .int, accessFlags := 25, slot := 18, constantValue := 0 }, { name := "JLA", type := (.object "jdk/internal/access/JavaLangAccess"), accessFlags := 26, slot := 19, constantValue := 0 }, { name := "SOFT_MAX_ARRAY_LENGTH", type := .int, accessFlags := 25, slot := 20, constantValue := 0 }]
  methods := #[k12m0]
  instanceTypes := #[]
  staticTypes := #[(.object "jdk/internal/misc/Unsafe"), .boolean, .int, .int, .int, .int, .int, .int, .int, .int, .int, .int, .int, .int, .int, .int, .int, .int, .int, (.object "jdk/internal/access/JavaLangAccess"), .int]
  resolved := Array.replicate 378 none
  statics := none }

def pool13 : Array CpInfo := pool [(1, u "java/lang/Cloneable"), (0, .class_ 1), (0, u "java/lang/Object"), (0, .class_ 3)] 3

/-- java/lang/Cloneable -/
def k13 : Class := { plain "java/lang/Cloneable" (some 0) with
  accessFlags := 1537
  interfaces := #[]
  cf := some (fileOf pool13 2 #[] #[] 1537 4 #[] #[])
  fields := #[]
  methods := #[]
  instanceTypes := #[]
  staticTypes := #[]
  resolved := Array.replicate 8 none
  statics := none }

/-- the primitive byte -/
def k14 : Class := { plain "byte" none with kind := .primitive 'B', accessFlags := 0x411 }
/-- [B -/
def k15 : Class := { plain "[B" (some 0) with kind := .array 14 .byte, interfaces := #[13, 2], accessFlags := 1041 }

/-- the primitive char -/
def k16 : Class := { plain "char" none with kind := .primitive 'C', accessFlags := 0x411 }
/-- [C -/
def k17 : Class := { plain "[C" (some 0) with kind := .array 16 .char, interfaces := #[13, 2], accessFlags := 1041 }

/-- the primitive int -/
def k18 : Class := { plain "int" none with kind := .primitive 'I', accessFlags := 0x411 }
/-- [I -/
def k19 : Class := { plain "[I" (some 0) with kind := .array 18 .int, interfaces := #[13, 2], accessFlags := 1041 }

/-- the primitive long -/
def k20 : Class := { plain "long" none with kind := .primitive 'J', accessFlags := 0x411 }
/-- [J -/
def k21 : Class := { plain "[J" (some 0) with kind := .array 20 .long, interfaces := #[13, 2], accessFlags := 1041 }

def heap : Heap := #[{ cls := 7, slots := #[.long 0, .int 1, .null, .int 0, .null, .int 0, .int 0], vm := .statics 7 },
  { cls := 11, slots := #[.null, .null, .null], vm := .statics 11 }]
def classes : Array Class := #[k0, k1, k2, k3, k4, k5, k6, k7, k8, k9, k10, k11, k12, k13, k14, k15, k16, k17, k18, k19, k20, k21]
def interned : List (Array UInt16 × Addr) := []
def slotsUsed : Nat := 10
def theMethod : MethodId := ⟨1, 4⟩
def args0 : Array Value := #[.int 3, .long 5, .int 7, .int 2]
def aboutOver (below : List Frame) : State where
  vm := { classes := classes, interned := interned.toArray }
  heap := heap
  slotsUsed := slotsUsed
  threads := #[{ frames := .invoking theMethod args0 :: below }]
def below0 : List Frame := [.native { method := ⟨0, 0⟩, args := #[] }]
def about1 : State := aboutOver below0
def p0 : Program := .bare "" "" ""
def e0 : Env := launch0.env 0 0 0
theorem w_frames : about1.frames = Frame.invoking theMethod args0 :: below0 := rfl
set_option maxRecDepth 65536 in
theorem w_args : argsFit about1.vm theMethod args0 = true := by decide +kernel
set_option maxRecDepth 65536 in
theorem w_heap : heapFits about1 = true := by decide +kernel
set_option maxRecDepth 65536 in
theorem w_runnable : about1.curStatus? = some .runnable := by decide +kernel
set_option maxRecDepth 65536 in
theorem w_alone : about1.alone = true := by decide +kernel
set_option maxRecDepth 65536 in
theorem w_named : about1.methodNamed? x = some theMethod := by decide +kernel
set_option maxRecDepth 65536 in
theorem w_hears : about1.hears theMethod below0 = true := by decide +kernel
set_option maxRecDepth 65536 in
theorem w_ripe : about1.ripe theMethod args0 below0 = true := by decide +kernel
theorem w_running : about1.status = .running := rfl
set_option maxRecDepth 65536 in
theorem w_room : about1.hasRoom e0.platform room_1 = true :=
  launch0.hasRoom_least _ room_1 (by decide +kernel) (by decide +kernel) (by decide +kernel) (by decide +kernel) (by decide +kernel) (by decide +kernel)
theorem allAtoms_all (ts : List Jvm.Cond) (a : Array Jvm.Value) (st : Jvm.State) : (allAtoms ts).before a st = ts.all (fun c => c.before a st) := by
  induction ts with
  | nil => rfl
  | cons c t ih =>
    show (Jvm.Cond.and c (allAtoms t)).before a st = _
    rw [Jvm.Cond.before_and, ih, List.all_cons]
def words1 : List Jvm.Cond := Jvm.Cond.code x code maxLocals ret :: tables_1
/-- a 'code' word, met by the world's own term for the bytes: nothing is compared byte by byte -/
theorem code_word {y : MethodName} {bytes : ByteArray} {mx : Nat} {rt : Option FieldType} {a : Array Value} {s : State} {m : MethodId} {meth : Method} {c : Code} (h1 : s.methodNamed? y = some m) (h2 : s.vm.method? m = some meth) (h3 : meth.code = some c) (h4 : c.code = bytes)
    (h5 : (c.maxLocals == mx && c.exceptionTable.isEmpty && decide (c.maxStack ≤ mostOperands) && decide (meth.sig.returnType = rt) && !meth.locks && decide (parseMethodDescriptor y.desc = some meth.sig)) = true) : (Jvm.Cond.code y bytes mx rt).before a s = true := by
  simp only [Bool.and_eq_true, beq_iff_eq, Bool.not_eq_true', decide_eq_true_eq] at h5
  obtain ⟨⟨⟨⟨⟨g1, g2⟩, g3⟩, g4⟩, g5⟩, g6⟩ := h5
  simp [Cond.before, Cond.holds, Cond.value, h1, h2, h3, h4, g1, g2, g3, g4, g5, g6]
def isCode : Jvm.Cond → Bool
  | .code _ _ _ _ => true
  | _ => false
theorem all_split {L : List Jvm.Cond} {P : Jvm.Cond → Bool} (h1 : L.all (fun c => isCode c || P c) = true) (h2 : ∀ c ∈ L.filter isCode, P c = true) : L.all P = true := by
  refine List.all_eq_true.mpr fun c hc => ?_
  have h := List.all_eq_true.mp h1 c hc
  rcases Bool.eq_false_or_eq_true (isCode c) with hi | hi
  · exact h2 c (List.mem_filter.mpr ⟨hc, hi⟩)
  · simpa [hi] using h
set_option maxRecDepth 65536 in
theorem w_c0 : (Jvm.Cond.code x code maxLocals ret).before args0 about1 = true := code_word (m := ⟨1, 4⟩) (meth := k1m4) (c := k1c4) (by decide +kernel) rfl rfl rfl (by decide +kernel)
set_option maxRecDepth 65536 in
theorem w_c1 : (Jvm.Cond.code ({ cls := "com/example/fleetyard/fleetyard/model/IdsValuePinLaw", name := "put", desc := "([C[JJI)V" } : Jvm.MethodName) method_3_code (5 : Nat) (Option.none : Option Jvm.ClassFile.FieldType)).before args0 about1 = true := code_word (m := ⟨1, 2⟩) (meth := k1m2) (c := k1c2) (by decide +kernel) rfl rfl rfl (by decide +kernel)
set_option maxRecDepth 65536 in
theorem w_c2 : (Jvm.Cond.code ({ cls := "java/lang/String", name := "<init>", desc := "([C)V" } : Jvm.MethodName) jdk_42_method_3_code (2 : Nat) (Option.none : Option Jvm.ClassFile.FieldType)).before args0 about1 = true := code_word (m := ⟨7, 1⟩) (meth := k7m1) (c := k7c1) (by decide +kernel) rfl rfl rfl (by decide +kernel)
set_option maxRecDepth 65536 in
theorem w_c3 : (Jvm.Cond.code ({ cls := "java/lang/String", name := "<init>", desc := "([CIILjava/lang/Void;)V" } : Jvm.MethodName) jdk_42_method_149_code (6 : Nat) (Option.none : Option Jvm.ClassFile.FieldType)).before args0 about1 = true := code_word (m := ⟨7, 4⟩) (meth := k7m4) (c := k7c4) (by decide +kernel) rfl rfl rfl (by decide +kernel)
set_option maxRecDepth 65536 in
theorem w_c4 : (Jvm.Cond.code ({ cls := "java/lang/Object", name := "<init>", desc := "()V" } : Jvm.MethodName) object_method_1_code (1 : Nat) (Option.none : Option Jvm.ClassFile.FieldType)).before args0 about1 = true := code_word (m := ⟨0, 0⟩) (meth := k0m0) (c := k0c0) (by decide +kernel) rfl rfl rfl (by decide +kernel)
set_option maxRecDepth 65536 in
theorem w_c5 : (Jvm.Cond.code ({ cls := "com/example/fleetyard/fleetyard/model/Ids", name := "value", desc := "(Ljava/lang/String;)J" } : Jvm.MethodName) prog_30_method_3_code (6 : Nat) (Option.some Jvm.ClassFile.FieldType.long)).before args0 about1 = true := code_word (m := ⟨8, 1⟩) (meth := k8m1) (c := k8c1) (by decide +kernel) rfl rfl rfl (by decide +kernel)
set_option maxRecDepth 65536 in
theorem w_c6 : (Jvm.Cond.code ({ cls := "java/lang/String", name := "length", desc := "()I" } : Jvm.MethodName) jdk_42_method_54_code (1 : Nat) (Option.some Jvm.ClassFile.FieldType.int)).before args0 about1 = true := code_word (m := ⟨7, 2⟩) (meth := k7m2) (c := k7c2) (by decide +kernel) rfl rfl rfl (by decide +kernel)
set_option maxRecDepth 65536 in
theorem w_c7 : (Jvm.Cond.code ({ cls := "java/lang/String", name := "coder", desc := "()B" } : Jvm.MethodName) jdk_42_method_152_code (1 : Nat) (Option.some Jvm.ClassFile.FieldType.byte)).before args0 about1 = true := code_word (m := ⟨7, 5⟩) (meth := k7m5) (c := k7c5) (by decide +kernel) rfl rfl rfl (by decide +kernel)
set_option maxRecDepth 65536 in
theorem w_c8 : (Jvm.Cond.code ({ cls := "com/example/fleetyard/fleetyard/model/IdsValuePinLaw", name := "digit", desc := "([JJII)J" } : Jvm.MethodName) method_2_code (5 : Nat) (Option.some Jvm.ClassFile.FieldType.long)).before args0 about1 = true := code_word (m := ⟨1, 1⟩) (meth := k1m1) (c := k1c1) (by decide +kernel) rfl rfl rfl (by decide +kernel)
set_option maxRecDepth 65536 in
theorem w_c9 : (Jvm.Cond.code ({ cls := "java/lang/StringUTF16", name := "compress", desc := "([CII)[B" } : Jvm.MethodName) jdk_52_method_16_code (6 : Nat) (Option.some (Jvm.ClassFile.FieldType.array Jvm.ClassFile.FieldType.byte))).before args0 about1 = true := code_word (m := ⟨9, 2⟩) (meth := k9m2) (c := k9c2) (by decide +kernel) rfl rfl rfl (by decide +kernel)
set_option maxRecDepth 65536 in
theorem w_c10 : (Jvm.Cond.code ({ cls := "java/lang/StringUTF16", name := "compress", desc := "([CI[BII)I" } : Jvm.MethodName) jdk_52_method_21_code (7 : Nat) (Option.some Jvm.ClassFile.FieldType.int)).before args0 about1 = true := code_word (m := ⟨9, 3⟩) (meth := k9m3) (c := k9c3) (by decide +kernel) rfl rfl rfl (by decide +kernel)
set_option maxRecDepth 65536 in
theorem w_c11 : (Jvm.Cond.code ({ cls := "java/lang/StringUTF16", name := "coderFromArrayLen", desc := "([BI)B" } : Jvm.MethodName) jdk_52_method_15_code (2 : Nat) (Option.some Jvm.ClassFile.FieldType.byte)).before args0 about1 = true := code_word (m := ⟨9, 1⟩) (meth := k9m1) (c := k9c1) (by decide +kernel) rfl rfl rfl (by decide +kernel)
set_option maxRecDepth 65536 in
theorem w_c12 : (Jvm.Cond.code ({ cls := "java/lang/String", name := "charAt", desc := "(I)C" } : Jvm.MethodName) jdk_42_method_56_code (2 : Nat) (Option.some Jvm.ClassFile.FieldType.char)).before args0 about1 = true := code_word (m := ⟨7, 3⟩) (meth := k7m3) (c := k7c3) (by decide +kernel) rfl rfl rfl (by decide +kernel)
set_option maxRecDepth 65536 in
theorem w_c13 : (Jvm.Cond.code ({ cls := "java/lang/String", name := "isLatin1", desc := "()Z" } : Jvm.MethodName) jdk_42_method_154_code (1 : Nat) (Option.some Jvm.ClassFile.FieldType.boolean)).before args0 about1 = true := code_word (m := ⟨7, 6⟩) (meth := k7m6) (c := k7c6) (by decide +kernel) rfl rfl rfl (by decide +kernel)
set_option maxRecDepth 65536 in
theorem w_c14 : (Jvm.Cond.code ({ cls := "java/lang/StringLatin1", name := "charAt", desc := "([BI)C" } : Jvm.MethodName) jdk_43_method_2_code (2 : Nat) (Option.some Jvm.ClassFile.FieldType.char)).before args0 about1 = true := code_word (m := ⟨10, 1⟩) (meth := k10m1) (c := k10c1) (by decide +kernel) rfl rfl rfl (by decide +kernel)
set_option maxRecDepth 65536 in
theorem w_c15 : (Jvm.Cond.code ({ cls := "java/lang/String", name := "checkIndex", desc := "(II)V" } : Jvm.MethodName) jdk_42_method_155_code (2 : Nat) (Option.none : Option Jvm.ClassFile.FieldType)).before args0 about1 = true := code_word (m := ⟨7, 7⟩) (meth := k7m7) (c := k7c7) (by decide +kernel) rfl rfl rfl (by decide +kernel)
set_option maxRecDepth 65536 in
theorem w_c16 : (Jvm.Cond.code ({ cls := "jdk/internal/util/Preconditions", name := "checkIndex", desc := "(IILjava/util/function/BiFunction;)I" } : Jvm.MethodName) jdk_41_method_11_code (3 : Nat) (Option.some Jvm.ClassFile.FieldType.int)).before args0 about1 = true := code_word (m := ⟨11, 1⟩) (meth := k11m1) (c := k11c1) (by decide +kernel) rfl rfl rfl (by decide +kernel)
set_option maxRecDepth 65536 in
theorem w_c17 : (Jvm.Cond.code ({ cls := "com/example/fleetyard/fleetyard/model/IdsValuePinLaw", name := "isDigit", desc := "(C)Z" } : Jvm.MethodName) method_4_code (1 : Nat) (Option.some Jvm.ClassFile.FieldType.boolean)).before args0 about1 = true := code_word (m := ⟨1, 3⟩) (meth := k1m3) (c := k1c3) (by decide +kernel) rfl rfl rfl (by decide +kernel)
def codes1 : List Jvm.Cond := [Jvm.Cond.code x code maxLocals ret, Jvm.Cond.code ({ cls := "com/example/fleetyard/fleetyard/model/IdsValuePinLaw", name := "put", desc := "([C[JJI)V" } : Jvm.MethodName) method_3_code (5 : Nat) (Option.none : Option Jvm.ClassFile.FieldType), Jvm.Cond.code ({ cls := "java/lang/String", name := "<init>", desc := "([C)V" } : Jvm.MethodName) jdk_42_method_3_code (2 : Nat) (Option.none : Option Jvm.ClassFile.FieldType), Jvm.Cond.code ({ cls := "java/lang/String", name := "<init>", desc := "([CIILjava/lang/Void;)V" } : Jvm.MethodName) jdk_42_method_149_code (6 : Nat) (Option.none : Option Jvm.ClassFile.FieldType), Jvm.Cond.code ({ cls := "java/lang/Object", name := "<init>", desc := "()V" } : Jvm.MethodName) object_method_1_code (1 : Nat) (Option.none : Option Jvm.ClassFile.FieldType), Jvm.Cond.code ({ cls := "com/example/fleetyard/fleetyard/model/Ids", name := "value", desc := "(Ljava/lang/String;)J" } : Jvm.MethodName) prog_30_method_3_code (6 : Nat) (Option.some Jvm.ClassFile.FieldType.long), Jvm.Cond.code ({ cls := "java/lang/String", name := "length", desc := "()I" } : Jvm.MethodName) jdk_42_method_54_code (1 : Nat) (Option.some Jvm.ClassFile.FieldType.int), Jvm.Cond.code ({ cls := "java/lang/String", name := "coder", desc := "()B" } : Jvm.MethodName) jdk_42_method_152_code (1 : Nat) (Option.some Jvm.ClassFile.FieldType.byte), Jvm.Cond.code ({ cls := "com/example/fleetyard/fleetyard/model/IdsValuePinLaw", name := "digit", desc := "([JJII)J" } : Jvm.MethodName) method_2_code (5 : Nat) (Option.some Jvm.ClassFile.FieldType.long), Jvm.Cond.code ({ cls := "java/lang/StringUTF16", name := "compress", desc := "([CII)[B" } : Jvm.MethodName) jdk_52_method_16_code (6 : Nat) (Option.some (Jvm.ClassFile.FieldType.array Jvm.ClassFile.FieldType.byte)), Jvm.Cond.code ({ cls := "java/lang/StringUTF16", name := "compress", desc := "([CI[BII)I" } : Jvm.MethodName) jdk_52_method_21_code (7 : Nat) (Option.some Jvm.ClassFile.FieldType.int), Jvm.Cond.code ({ cls := "java/lang/StringUTF16", name := "coderFromArrayLen", desc := "([BI)B" } : Jvm.MethodName) jdk_52_method_15_code (2 : Nat) (Option.some Jvm.ClassFile.FieldType.byte), Jvm.Cond.code ({ cls := "java/lang/String", name := "charAt", desc := "(I)C" } : Jvm.MethodName) jdk_42_method_56_code (2 : Nat) (Option.some Jvm.ClassFile.FieldType.char), Jvm.Cond.code ({ cls := "java/lang/String", name := "isLatin1", desc := "()Z" } : Jvm.MethodName) jdk_42_method_154_code (1 : Nat) (Option.some Jvm.ClassFile.FieldType.boolean), Jvm.Cond.code ({ cls := "java/lang/StringLatin1", name := "charAt", desc := "([BI)C" } : Jvm.MethodName) jdk_43_method_2_code (2 : Nat) (Option.some Jvm.ClassFile.FieldType.char), Jvm.Cond.code ({ cls := "java/lang/String", name := "checkIndex", desc := "(II)V" } : Jvm.MethodName) jdk_42_method_155_code (2 : Nat) (Option.none : Option Jvm.ClassFile.FieldType), Jvm.Cond.code ({ cls := "jdk/internal/util/Preconditions", name := "checkIndex", desc := "(IILjava/util/function/BiFunction;)I" } : Jvm.MethodName) jdk_41_method_11_code (3 : Nat) (Option.some Jvm.ClassFile.FieldType.int), Jvm.Cond.code ({ cls := "com/example/fleetyard/fleetyard/model/IdsValuePinLaw", name := "isDigit", desc := "(C)Z" } : Jvm.MethodName) method_4_code (1 : Nat) (Option.some Jvm.ClassFile.FieldType.boolean)]
set_option maxRecDepth 65536 in
theorem codes_eq : words1.filter isCode = codes1 := rfl
theorem w_codes : ∀ c ∈ words1.filter isCode, c.before args0 about1 = true := by
  rw [codes_eq]
  intro c hc
  simp only [codes1, List.mem_cons, List.not_mem_nil, or_false] at hc
  rcases hc with rfl | rfl | rfl | rfl | rfl | rfl | rfl | rfl | rfl | rfl | rfl | rfl | rfl | rfl | rfl | rfl | rfl | rfl
  · exact w_c0
  · exact w_c1
  · exact w_c2
  · exact w_c3
  · exact w_c4
  · exact w_c5
  · exact w_c6
  · exact w_c7
  · exact w_c8
  · exact w_c9
  · exact w_c10
  · exact w_c11
  · exact w_c12
  · exact w_c13
  · exact w_c14
  · exact w_c15
  · exact w_c16
  · exact w_c17
set_option maxRecDepth 65536 in
theorem w_t1 : (words1.take 24).all (fun c => isCode c || c.before args0 about1) = true := by decide +kernel
set_option maxRecDepth 65536 in
theorem w_t2 : ((words1.drop 24).take 24).all (fun c => isCode c || c.before args0 about1) = true := by decide +kernel
set_option maxRecDepth 65536 in
theorem w_t3 : (((words1.drop 24).drop 24).take 24).all (fun c => isCode c || c.before args0 about1) = true := by decide +kernel
set_option maxRecDepth 65536 in
theorem w_t4 : ((((words1.drop 24).drop 24).drop 24).take 24).all (fun c => isCode c || c.before args0 about1) = true := by decide +kernel
set_option maxRecDepth 65536 in
theorem w_t5 : ((((words1.drop 24).drop 24).drop 24).drop 24).all (fun c => isCode c || c.before args0 about1) = true := by decide +kernel
theorem w_tables : (allAtoms (Jvm.Cond.code x code maxLocals ret :: tables_1)).before args0 about1 = true := by
  rw [allAtoms_all]
  show words1.all (fun c => c.before args0 about1) = true
  refine all_split ?_ w_codes
  rw [← List.take_append_drop 24 words1, List.all_append, w_t1, ← List.take_append_drop 24 (words1.drop 24), List.all_append, w_t2, ← List.take_append_drop 24 ((words1.drop 24).drop 24), List.all_append, w_t3, ← List.take_append_drop 24 (((words1.drop 24).drop 24).drop 24), List.all_append, w_t4, w_t5]
  rfl
set_option maxRecDepth 65536 in
theorem w_rest : rest_1_c.before args0 about1 = true := by decide +kernel
set_option maxRecDepth 65536 in
theorem w_case : (Jvm.Cond.and given_1 narrow_1).before args0 about1 = true := by decide +kernel
set_option maxRecDepth 65536 in
theorem w_consts : constsHeld consts_1 about1 := Jvm.Lit.constsHeldB_iff.mp (by decide +kernel)
theorem w_applies : (headSpec (Jvm.Cond.code x code maxLocals ret :: tables_1) room_1).applies x e0.platform about1 = true :=
  (Spec.applies_iff w_frames).mpr ⟨w_running, w_runnable, w_alone, w_named, w_hears, w_ripe, w_room, w_tables⟩
theorem atStart : AtStart classFile x code maxLocals ret World_1 tables_1 room_1 Calls_1 rest_1 Pre_1 launch0 p0 e0 about1 theMethod args0 below0 :=
  ⟨lists_1, trivial, launch0.admits_env _ _ _, launch0.least_env, fairChoices_fair.cas, fairChoices_fair.clock, w_frames, w_args, w_heap, w_applies, ⟨w_consts, trivial⟩, w_rest, w_case⟩
end start1
theorem witness_1 : WitnessClaimed_1 := ⟨start1.p0, start1.e0, start1.about1, start1.theMethod, start1.args0, start1.below0, start1.atStart⟩
end Jvm.Pilot.@@N@@
