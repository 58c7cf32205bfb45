import JvmDerived
import JvmDerived.Pilot.@@N@@Statement
import JvmDerived.Pilot.@@N@@Code
set_option linter.unusedVariables false
set_option linter.unusedSimpArgs false
namespace Jvm.Pilot.@@N@@
open Jvm Jvm.ClassFile Sem Op Lib Jvm.Free Jvm.Stand Jvm.LawKit Jvm.RoadKit Bundle Jvm.Free.XT Jvm.Pilot.@@N@@.Jvm.D
theorem own_n0 {Z : State} {n0 : Nat} {h : Heap} (X : Old Z n0 h) : n0 ≤ h.size := X.1 ▸ X.2.1
theorem own_lt {a m n : Nat} (h : a < m) (k : m ≤ n) : a < n := Nat.lt_of_lt_of_le h k
theorem own_since0 (s : State) (n : Nat) : s.Since s.vm n := ⟨State.Warmed39.refl s, fun j p hj hp => absurd (Array.getElem?_eq_some_iff.mp hp).1 (Nat.not_lt.mpr hj)⟩
theorem own_narR {v : Value} {t : FieldType} (h : v.isRef = true) : narrow t v = v := by rcases ref_cases h with rfl | ⟨a, rfl⟩ <;> cases t <;> rfl
theorem own_fitR {v : Value} {t : FieldType} (h : v.isRef = true) (ht : t.isReference = true := by rfl) : fits t v = true := by rcases ref_cases h with rfl | ⟨a, rfl⟩ <;> cases t <;> first | rfl | cases ht
theorem own_priv {s : State} {args : Array Value} {y : MethodName} (h : (Jvm.Cond.privateMethod y).before args s = true) : s.PrivateAt y := Cond.privateMethod_at h
abbrev own_CP (l : Launch) (Z : State) (y : MethodName) (bytes : ByteArray) (ml : Nat) (ret : Option FieldType) (ws : List Jvm.Cond) (R : Room) (as' : Array Value) (h0 : Heap) (Q : Option Value → Heap → List Loc → Prop) : Prop :=
  MetFree l y (head1 (Jvm.Cond.code y bytes ml ret :: ws) R) (fun a U => a = as' ∧ Z.Warmed39 U.vm ∧ U.heap = h0) (fun _ _ _ _ _ => True) (fun _ U o U' => ∃ v L, o = .returned v ∧ Q v U'.heap L ∧ FrameEnd U o U' L R.cells R.slots)
theorem own_P {l : Launch} {Z : State} {y : MethodName} {bytes : ByteArray} {ml : Nat} {ret : Option FieldType} {ws : List Jvm.Cond} {R : Room} {as' : Array Value} {h0 : Heap} {Q : Option Value → Heap → List Loc → Prop} (hpl : plainFor y = true)
    (H : ∀ (p : Program) (e : Env) (s : State) (m : MethodId) (below : List Frame) (meth : Method) (c : ClassFile.Code) (s₁ S0 : State), BodyLoose p l y (head1 (Jvm.Cond.code y bytes ml ret :: ws) R) bytes ml ret e s m as' below meth c s₁ → Z.Warmed39 s.vm → s.heap = h0 → p.tables.exec = Jvm.exec → c.code = bytes → c.maxLocals = ml → s.vm.findClass y.cls = some m.cls → meth.name = y.name →
      Stand p l e R s m as' below meth c s₁ [] 0 0 → s₁.heap = h0 → S0 = s₁.setTop (entryFrame m as' ml) → ∃ s₂ o, Steps p.tables e below S0 s₂ ∧ s₂.status = .running ∧ Ended s₂ below o ∧ ∃ v L, o = .returned v ∧ Q v s₂.heap L ∧ FrameEnd s o s₂ L R.cells R.slots) : own_CP l Z y bytes ml ret ws R as' h0 Q := by
  refine MetFree.of_bodySF hpl hisR ?_
  intro p e s m args below meth c s₁ Bd hml hP hK
  obtain ⟨rfl, hZ, hh⟩ := hP
  exact H p e s m below meth c s₁ _ Bd hZ hh Bd.exec Bd.bytes hml (findClass_of_methodNamed Bd.named) (name_of_methodNamed Bd.named Bd.method).1 (Stand.of_body Bd) (by rw [← hh, Bd.state]; rfl) rfl
def own_cw (x : Int32) : Int32 := (x &&& (65535 : Int32)).toUInt32.toUInt16.toUInt32.toInt32
theorem own_cw_lo (x : Int32) : ¬ (own_cw x < (0 : Int32)) := by
  rw [Int32.lt_iff_toInt_lt]
  have h := (c_i2c (x &&& (65535 : Int32))).2.1
  have e : (0 : Int32).toInt = 0 := rfl
  unfold own_cw
  omega
theorem own_cw_hi (x : Int32) : ¬ ((65535 : Int32) < own_cw x) := by
  rw [Int32.lt_iff_toInt_lt]
  have h := (c_i2c (x &&& (65535 : Int32))).2.2
  have e : (65535 : Int32).toInt = 65535 := rfl
  unfold own_cw
  omega
theorem own_cw_nar {x : Int32} : nar .char (own_cw x) = own_cw x := by
  simp only [nar, own_cw, UInt32.toUInt32_toInt32, UInt16.toUInt16_toUInt32]
theorem own_and3 (x : Int32) : (x &&& (3 : Int32)) = 0 ∨ (x &&& (3 : Int32)) = 1 ∨ (x &&& (3 : Int32)) = 2 ∨ (x &&& (3 : Int32)) = 3 := by
  have h := c_and x 3 (by decide)
  have e : (3 : Int32).toInt = 3 := rfl
  have h3 : (x &&& (3 : Int32)).toInt = 0 ∨ (x &&& (3 : Int32)).toInt = 1 ∨ (x &&& (3 : Int32)).toInt = 2 ∨ (x &&& (3 : Int32)).toInt = 3 := by omega
  rcases h3 with h | h | h | h
  · exact Or.inl (Int32.toInt_inj.mp h)
  · exact Or.inr (Or.inl (Int32.toInt_inj.mp h))
  · exact Or.inr (Or.inr (Or.inl (Int32.toInt_inj.mp h)))
  · exact Or.inr (Or.inr (Or.inr (Int32.toInt_inj.mp h)))
def own_lo8 (x : Int32) : Int32 := nar .byte (x.toInt8.toInt32)
def own_lo8z (x : Int32) : Int32 := nar .byte ((x >>> ((0 : Int32) &&& 31)).toInt8.toInt32)
theorem own_lo8z_eq (x : Int32) : own_lo8z x = own_lo8 x := by
  have h : x >>> ((0 : Int32) &&& 31) = x := by
    rw [show ((0 : Int32) &&& 31) = 0 from rfl]
    exact Int32.shiftRight_zero
  unfold own_lo8z own_lo8; rw [h]
def own_hi8 (x : Int32) : Int32 := nar .byte ((x >>> ((8 : Int32) &&& 31)).toInt8.toInt32)
def own_pair (u v : Int32) : Int32 := nar .char ((((u &&& (255 : Int32)) <<< ((0 : Int32) &&& 31)) ||| ((v &&& (255 : Int32)) <<< ((8 : Int32) &&& 31))).toUInt32.toUInt16.toUInt32.toInt32)
theorem own_pair_says0 {c : Int32} (h0 : ¬ (c < (0 : Int32))) (h1 : ¬ ((65535 : Int32) < c)) : own_pair (own_lo8 c) (own_hi8 c) = c := by
  rw [Int32.lt_iff_toInt_lt] at h0 h1
  have z0 : (0 : Int32).toInt = 0 := rfl
  have z1 : (65535 : Int32).toInt = 65535 := rfl
  have r1 := c_i2b c
  have r2 := c_i2b (c.toInt8.toInt32)
  have e1 : own_lo8 c = c.toInt8.toInt32.toInt8.toInt32 := rfl
  have s1 := c_ishr c 8 8 (by decide)
  have r3 := c_i2b (c >>> ((8 : Int32) &&& 31))
  have r4 := c_i2b ((c >>> ((8 : Int32) &&& 31)).toInt8.toInt32)
  have e2 : own_hi8 c = (c >>> ((8 : Int32) &&& 31)).toInt8.toInt32.toInt8.toInt32 := rfl
  have m1 := c_mask (own_lo8 c) 255 8 (by decide) (by decide)
  have m2 := c_mask (own_hi8 c) 255 8 (by decide) (by decide)
  have l1 := c_ishl (own_lo8 c &&& 255) 0 0 (by decide)
  have l2 := c_ishl (own_hi8 c &&& 255) 8 8 (by decide)
  have g1 := rng32 ((own_lo8 c &&& 255) <<< ((0 : Int32) &&& 31))
  have g2 := rng32 ((own_hi8 c &&& 255) <<< ((8 : Int32) &&& 31))
  rw [← e1] at r2
  rw [← e2] at r4
  have p8 : ((2 ^ 8 : Nat) : Int) = 256 := rfl
  have p0 : ((2 ^ 0 : Nat) : Int) = 1 := rfl
  rw [p8] at s1 m1 m2 l2
  rw [p0] at l1
  have o := c_or' ((own_lo8 c &&& 255) <<< ((0 : Int32) &&& 31)) ((own_hi8 c &&& 255) <<< ((8 : Int32) &&& 31)) 8 (by decide) 256 rfl (by omega) (by omega) (by omega)
  have g3 := rng32 (((own_lo8 c &&& 255) <<< ((0 : Int32) &&& 31)) ||| ((own_hi8 c &&& 255) <<< ((8 : Int32) &&& 31)))
  have k1 := c_i2c (((own_lo8 c &&& 255) <<< ((0 : Int32) &&& 31)) ||| ((own_hi8 c &&& 255) <<< ((8 : Int32) &&& 31)))
  have k2 := c_i2c ((((own_lo8 c &&& 255) <<< ((0 : Int32) &&& 31)) ||| ((own_hi8 c &&& 255) <<< ((8 : Int32) &&& 31))).toUInt32.toUInt16.toUInt32.toInt32)
  have e3 : own_pair (own_lo8 c) (own_hi8 c) = ((((own_lo8 c &&& 255) <<< ((0 : Int32) &&& 31)) ||| ((own_hi8 c &&& 255) <<< ((8 : Int32) &&& 31))).toUInt32.toUInt16.toUInt32.toInt32).toUInt32.toUInt16.toUInt32.toInt32 := rfl
  rw [← e3] at k2
  apply Int32.toInt_inj.mp
  omega
theorem own_pair_says {c : Int32} (h0 : ¬ (c < (0 : Int32))) (h1 : ¬ ((65535 : Int32) < c)) : own_pair (own_lo8z c) (own_hi8 c) = c := by
  rw [own_lo8z_eq]; exact own_pair_says0 h0 h1
def own_G (l : Launch) (Z : State) (a0 : Array Value) (G1 : Int32) : Prop := (Sta Z Z.heap "java/lang/String" "COMPACT_STRINGS" "Z" (.int G1)) ∧ (¬ (G1 = (0 : Int32))) ∧ (Sta Z Z.heap "java/lang/StringUTF16" "$assertionsDisabled" "Z" (.int (1 : Int32))) ∧ (Sta Z Z.heap "java/lang/StringUTF16" "HI_BYTE_SHIFT" "I" (.int (0 : Int32))) ∧ (Sta Z Z.heap "java/lang/StringUTF16" "LO_BYTE_SHIFT" "I" (.int (8 : Int32)))
abbrev M0 : MethodName := ⟨"java/lang/StringUTF16", "newBytesLength", "(I)I"⟩
theorem ef_1 (m : MethodId) (x0 : Int32) : entryFrame m #[(.int x0)] 1 = mkF m 0 #[.val (.int x0)] [] := by first | (simp [entryFrame, mkF, argsToLocals, Value.category]; done) | rfl
theorem pn_2 : plainName "java/lang/StringUTF16" = true := by first | (simp [plainName, overriddenIn]; done) | decide +kernel
theorem d0_0 : decode jdk_52_method_3_code 0 = .ok (.iload_n 0, 1) := by decide +kernel
theorem d0_1 : decode jdk_52_method_3_code 1 = .ok (.ifCond .ge 11, 3) := by decide +kernel
theorem d0_12 : decode jdk_52_method_3_code 12 = .ok (.iload_n 0, 1) := by decide +kernel
theorem w77 {Z : State} {a0 : Array Value} (hw : ∀ d ∈ tables_1, d.before a0 Z = true) : Jvm.Cond.before (Jvm.Cond.constant "java/lang/StringUTF16" (20 : Nat) (1073741823 : Int32)) a0 Z = true := hw _ (List.mem_of_getElem? (i := 77) rfl)
theorem d0_13 : decode jdk_52_method_3_code 13 = .ok (.ldc 20, 2) := by decide +kernel
theorem d0_15 : decode jdk_52_method_3_code 15 = .ok (.if_icmp .lt 40, 3) := by decide +kernel
theorem d0_55 : decode jdk_52_method_3_code 55 = .ok (.iload_n 0, 1) := by decide +kernel
theorem d0_56 : decode jdk_52_method_3_code 56 = .ok (.iconst 1, 1) := by decide +kernel
theorem d0_57 : decode jdk_52_method_3_code 57 = .ok (.ishl, 1) := by decide +kernel
theorem d0_58 : decode jdk_52_method_3_code 58 = .ok (.ireturn, 1) := by decide +kernel
abbrev R_nbl_1 : Room := { frames := 0, cells := 0, slots := 0, locals := 0 }
def Q_nbl_1 (Z : State) (G1 : Int32)  (h0 : Heap) (n0 : Nat) (v : Option Value) (h : Heap) (L : List Loc) : Prop := (v = some (.int (2 : Int32)) ∧ Fr n0 L ∧ h = h0)
set_option maxRecDepth 65536 in
set_option maxHeartbeats 40000000 in
theorem rm_nbl_1 (l : Launch) (Z : State) (a0 : Array Value) (hw : ∀ d ∈ tables_1, d.before a0 Z = true) (ws : List Jvm.Cond) (G1 : Int32) (HG : own_G l Z a0 G1) (h0 : Heap) (n0 : Nat) (X00 : Old Z n0 h0)   :
    own_CP l Z M0 jdk_52_method_3_code 1 (some .int) ws R_nbl_1 #[(.int (1 : Int32))] h0 (Q_nbl_1 Z G1  h0 n0) := by
  refine own_P (plainFor_of_name pn_2) ?_
  intro p e s m below meth c s₁ S0 Bd hZ hh hx hby hml hown hnm X0 e0 hS0d
  obtain ⟨O1, P1, OAD, OHI, OLO⟩ := id HG
  have N0 := Fr.nil n0
  have C0 : Steps p.tables e below S0 (s₁.setTop (mkF m 0 #[.val (.int (1 : Int32))] [])) := by rw [hS0d]; exact castTop (ef_1 m (1 : Int32)) (Steps.refl _)
  have C_1 : Steps p.tables e below S0 (s₁.setTop (mkF m 58 #[.val (.int (1 : Int32))] [(.int (2 : Int32))])) := by
    refine C0.trans ?_
    refine XS.iloadN X0.here hx rfl (hb hby d0_0) rfl ?_
    refine XS.ifYes X0.here hx rfl (pc0 := 1) (pc' := 12) rfl (hb hby d0_1) rfl (by decide) (by decide) (by decide) ?_
    refine XS.iloadN X0.here hx rfl (hb hby d0_12) rfl ?_
    refine X0.ldcI hx hown (mvT hZ (w77 hw)) rfl (hb hby d0_13) ?_
    refine XS.icmpYes X0.here hx rfl (pc0 := 15) (pc' := 55) rfl (hb hby d0_15) rfl (by decide) (by decide) (by decide) ?_
    refine XS.iloadN X0.here hx rfl (hb hby d0_55) rfl ?_
    refine XS.iconst X0.here hx rfl (hb hby d0_56) ?_
    refine XS.ishl X0.here hx rfl (hb hby d0_57) rfl ?_
    show Steps p.tables e below (s₁.setTop (mkF m 58 #[.val (.int (1 : Int32))] [(.int (2 : Int32))])) _
    exact Steps.refl _
  obtain ⟨fs, hr, hrun, hended, hW, hsame⟩ := X0.leave (v := some (.int (2 : Int32))) (fun h => by rw [Bd.returns] at h; cases h)
  refine ⟨_, _, C_1.trans (retOut X0 hx Bd.returns rfl (Or.inl ⟨rfl, Or.inl rfl, _, rfl⟩) (hb hby d0_58) hr), hrun, hended, _, _, rfl, ?_, ⟨_, rfl⟩, hW, hsame.mono (by decide) (by decide)⟩
  show Q_nbl_1 Z G1  h0 n0 (some (.int (2 : Int32))) s₁.heap _
  rw [e0]
  exact ⟨rfl, N0, rfl⟩
abbrev M13 : MethodName := ⟨"java/lang/StringUTF16", "newBytesFor", "(I)[B"⟩
theorem d1_0 : decode jdk_52_method_2_code 0 = .ok (.iload_n 0, 1) := by decide +kernel
theorem w76 {Z : State} {a0 : Array Value} (hw : ∀ d ∈ tables_1, d.before a0 Z = true) : Jvm.Cond.before (Jvm.Cond.code ({ cls := "java/lang/StringUTF16", name := "newBytesLength", desc := "(I)I" } : Jvm.MethodName) jdk_52_method_3_code (1 : Nat) (Option.some Jvm.ClassFile.FieldType.int)) a0 Z = true := hw _ (List.mem_of_getElem? (i := 76) rfl)
theorem w22 {Z : State} {a0 : Array Value} (hw : ∀ d ∈ tables_1, d.before a0 Z = true) : Jvm.Cond.before (Jvm.Cond.initialized "java/lang/StringUTF16") a0 Z = true := hw _ (List.mem_of_getElem? (i := 22) rfl)
theorem pd_17 : parseMethodDescriptor "(I)I" = some ⟨[.int], some .int⟩ := by decide +kernel
theorem d1_1 : decode jdk_52_method_2_code 1 = .ok (.invokestatic 11, 3) := by decide +kernel
theorem w74 {Z : State} {a0 : Array Value} (hw : ∀ d ∈ tables_1, d.before a0 Z = true) : Jvm.Cond.before (Jvm.Cond.methodLink "java/lang/StringUTF16" (11 : Nat) ({ cls := "java/lang/StringUTF16", name := "newBytesLength", desc := "(I)I" } : Jvm.MethodName)) a0 Z = true := hw _ (List.mem_of_getElem? (i := 74) rfl)
theorem w75 {Z : State} {a0 : Array Value} (hw : ∀ d ∈ tables_1, d.before a0 Z = true) : Jvm.Cond.before (Jvm.Cond.static ({ cls := "java/lang/StringUTF16", name := "newBytesLength", desc := "(I)I" } : Jvm.MethodName)) a0 Z = true := hw _ (List.mem_of_getElem? (i := 75) rfl)
theorem w24 {Z : State} {a0 : Array Value} (hw : ∀ d ∈ tables_1, d.before a0 Z = true) : Jvm.Cond.before (Jvm.Cond.arrayClass Jvm.ClassFile.FieldType.byte) a0 Z = true := hw _ (List.mem_of_getElem? (i := 24) rfl)
theorem d1_4 : decode jdk_52_method_2_code 4 = .ok (.newarray .byte, 2) := by decide +kernel
theorem d1_6 : decode jdk_52_method_2_code 6 = .ok (.areturn, 1) := by decide +kernel
abbrev R_nbf_1 : Room := { frames := 1, cells := 1, slots := 2, locals := 12 }
def Q_nbf_1 (Z : State) (G1 : Int32)  (h0 : Heap) (n0 : Nat) (v : Option Value) (h : Heap) (L : List Loc) : Prop := (∃ t : Addr, ∃ kt : ClassId, v = some (.ref t) ∧ Fr n0 L ∧ Keep h0 h [] ∧ (h0.size ≤ t) ∧ (Arv Z h t kt .byte (2 : Int32) [(.int (0 : Int32)), (.int (0 : Int32))] (.int (0 : Int32))))
set_option maxRecDepth 65536 in
set_option maxHeartbeats 40000000 in
theorem rm_nbf_1 (l : Launch) (Z : State) (a0 : Array Value) (hw : ∀ d ∈ tables_1, d.before a0 Z = true) (ws : List Jvm.Cond) (G1 : Int32) (HG : own_G l Z a0 G1) (h0 : Heap) (n0 : Nat) (X00 : Old Z n0 h0)   :
    own_CP l Z M13 jdk_52_method_2_code 1 (some (.array .byte)) ws R_nbf_1 #[(.int (1 : Int32))] h0 (Q_nbf_1 Z G1  h0 n0) := by
  refine own_P (plainFor_of_name pn_2) ?_
  intro p e s m below meth c s₁ S0 Bd hZ hh hx hby hml hown hnm X0 e0 hS0d
  obtain ⟨O1, P1, OAD, OHI, OLO⟩ := id HG
  have N0 := Fr.nil n0
  have C0 : Steps p.tables e below S0 (s₁.setTop (mkF m 0 #[.val (.int (1 : Int32))] [])) := by rw [hS0d]; exact castTop (ef_1 m (1 : Int32)) (Steps.refl _)
  obtain ⟨_, _, ⟨T_1, L_1, k_1, n_1⟩, -, X_1, ⟨Lc_1, hQ_1, l_1, y_1, z_1⟩, st_1⟩ := Jvm.LawKit.callS X0 hx (y := M0) hown (mvT hZ (w74 hw)) (mvT hZ (w75 hw)) (mvT hZ (w22 hw)) (mvT hZ (w76 hw)) (by decide) (backOf (W := 0) (rm_nbl_1 l Z a0 hw [] G1 HG h0 n0 X00  ) hZ (w76 hw) (w22 hw) (by decide) (by decide)) (g := (mkF m 1 #[.val (.int (1 : Int32))] [(.int (1 : Int32))])) rfl (by rw [hml]; rfl) (argsL := [(.int (1 : Int32))]) (rest := []) (lenOf pd_17 rfl) rfl (by show 2 * 0 + _ ≤ _; exact Nat.le_of_eq rfl) (hb hby d1_1) (fun _ _ => ⟨rfl, e0, (by decide : 0 + 0 ≤ _), (by decide : 0 + 0 ≤ _)⟩)
  dsimp only [Pt.U, Pt.locs, Pt.cells, Pt.slots] at X_1 l_1 y_1 z_1 st_1 hQ_1
  subst l_1 y_1 z_1
  obtain ⟨rfl, N_2, e_3⟩ := hQ_1
  have N_4 := Fr.app N0 N_2
  have e_5 : T_1.heap = h0 := e_3
  obtain ⟨T_6, h_7, k_8, X_9, e_10, E_11, A_12, st_13⟩ := newP (aty := .byte) X_1 hx hZ (w24 hw) e_5 (g := (mkF m 4 #[.val (.int (1 : Int32))] [(.int (2 : Int32))])) rfl (hb hby d1_4) rfl (by decide : ¬ ((2 : Int32) < (0 : Int32))) (cap := 2) (by decide : (2 : Int32).toNatClampNeg ≤ 2) (by decide) (by decide) (by decide)
  obtain ⟨a_14, g_15⟩ : ∃ z, z = h0.size := ⟨_, rfl⟩
  rw [← g_15] at A_12 st_13
  have V_17 : Arv Z h_7 a_14 k_8 .byte (2 : Int32) [] (.int (0 : Int32)) := Arv.new A_12 (by decide : ¬ ((2 : Int32) < (0 : Int32)))
  have V_16 : Arv Z h_7 a_14 k_8 .byte (2 : Int32) [(.int (0 : Int32)), (.int (0 : Int32))] (.int (0 : Int32)) := (V_17.pad (pad_rep [] (.int (0 : Int32)) 2))
  have C_18 : Steps p.tables e below S0 (T_6.setTop (mkF m 6 #[.val (.int (1 : Int32))] [(.ref a_14)])) := by
    refine C0.trans ?_
    refine XS.iloadN X0.here hx rfl (hb hby d1_0) rfl ?_
    refine st_1 _ ?_
    refine st_13 _ ?_
    exact Steps.refl _
  have K_19 : Keep h0 h_7 [] := ((Keep.refl _ _).ext E_11)
  obtain ⟨fs, hr, hrun, hended, hW, hsame⟩ := X_9.leave (v := some (.ref a_14)) (fun h => by rw [Bd.returns] at h; cases h)
  refine ⟨_, _, C_18.trans (retOut X_9 hx Bd.returns rfl (Or.inr (Or.inr (Or.inr (Or.inr ⟨rfl, rfl, rfl⟩)))) (hb hby d1_6) hr), hrun, hended, _, _, rfl, ?_, ⟨_, rfl⟩, hW, hsame.mono (by decide) (by decide)⟩
  show Q_nbf_1 Z G1  h0 n0 (some (.ref a_14)) T_6.heap _
  rw [e_10]
  exact ⟨a_14, k_8, rfl, N_4, K_19, (Nat.le_trans (Nat.le_refl _) (Nat.le_of_eq g_15.symm)), V_16⟩
abbrev M24 : MethodName := ⟨"java/lang/StringUTF16", "putChar", "([BII)V"⟩
theorem ef_25 (m : MethodId) (x0 : Addr) (x1 : Int32) (x2 : Int32) : entryFrame m #[(.ref x0), (.int x1), (.int x2)] 3 = mkF m 0 #[.val (.ref x0), .val (.int x1), .val (.int x2)] [] := by first | (simp [entryFrame, mkF, argsToLocals, Value.category]; done) | rfl
theorem w81 {Z : State} {a0 : Array Value} (hw : ∀ d ∈ tables_1, d.before a0 Z = true) : Jvm.Cond.before (Jvm.Cond.fieldLink "java/lang/StringUTF16" (44 : Nat) "java/lang/StringUTF16" "$assertionsDisabled" "Z") a0 Z = true := hw _ (List.mem_of_getElem? (i := 81) rfl)
theorem d2_0 : decode jdk_52_method_4_code 0 = .ok (.getstatic 44, 3) := by decide +kernel
theorem d2_3 : decode jdk_52_method_4_code 3 = .ok (.ifCond .ne 25, 3) := by decide +kernel
theorem d2_28 : decode jdk_52_method_4_code 28 = .ok (.iload_n 1, 1) := by decide +kernel
theorem d2_29 : decode jdk_52_method_4_code 29 = .ok (.iconst 1, 1) := by decide +kernel
theorem d2_30 : decode jdk_52_method_4_code 30 = .ok (.ishl, 1) := by decide +kernel
theorem d2_31 : decode jdk_52_method_4_code 31 = .ok (.istore_n 1, 1) := by decide +kernel
theorem d2_32 : decode jdk_52_method_4_code 32 = .ok (.aload_n 0, 1) := by decide +kernel
theorem d2_33 : decode jdk_52_method_4_code 33 = .ok (.iload_n 1, 1) := by decide +kernel
theorem d2_34 : decode jdk_52_method_4_code 34 = .ok (.iinc 1 1, 3) := by decide +kernel
theorem d2_37 : decode jdk_52_method_4_code 37 = .ok (.iload_n 2, 1) := by decide +kernel
theorem w82 {Z : State} {a0 : Array Value} (hw : ∀ d ∈ tables_1, d.before a0 Z = true) : Jvm.Cond.before (Jvm.Cond.fieldLink "java/lang/StringUTF16" (59 : Nat) "java/lang/StringUTF16" "HI_BYTE_SHIFT" "I") a0 Z = true := hw _ (List.mem_of_getElem? (i := 82) rfl)
theorem d2_38 : decode jdk_52_method_4_code 38 = .ok (.getstatic 59, 3) := by decide +kernel
theorem d2_41 : decode jdk_52_method_4_code 41 = .ok (.ishr, 1) := by decide +kernel
theorem d2_42 : decode jdk_52_method_4_code 42 = .ok (.i2b, 1) := by decide +kernel
theorem d2_43 : decode jdk_52_method_4_code 43 = .ok (.bastore, 1) := by decide +kernel
theorem d2_44 : decode jdk_52_method_4_code 44 = .ok (.aload_n 0, 1) := by decide +kernel
theorem d2_45 : decode jdk_52_method_4_code 45 = .ok (.iload_n 1, 1) := by decide +kernel
theorem d2_46 : decode jdk_52_method_4_code 46 = .ok (.iload_n 2, 1) := by decide +kernel
theorem w83 {Z : State} {a0 : Array Value} (hw : ∀ d ∈ tables_1, d.before a0 Z = true) : Jvm.Cond.before (Jvm.Cond.fieldLink "java/lang/StringUTF16" (63 : Nat) "java/lang/StringUTF16" "LO_BYTE_SHIFT" "I") a0 Z = true := hw _ (List.mem_of_getElem? (i := 83) rfl)
theorem d2_47 : decode jdk_52_method_4_code 47 = .ok (.getstatic 63, 3) := by decide +kernel
theorem d2_50 : decode jdk_52_method_4_code 50 = .ok (.ishr, 1) := by decide +kernel
theorem d2_51 : decode jdk_52_method_4_code 51 = .ok (.i2b, 1) := by decide +kernel
theorem d2_52 : decode jdk_52_method_4_code 52 = .ok (.bastore, 1) := by decide +kernel
theorem d2_53 : decode jdk_52_method_4_code 53 = .ok (.return_, 1) := by decide +kernel
abbrev R_put_1_0 : Room := { frames := 0, cells := 0, slots := 0, locals := 0 }
def Q_put_1_0 (Z : State) (G1 : Int32) (t : Addr) (kt : ClassId) (cc : Int32) (y0 : Int32) (y1 : Int32) (h0 : Heap) (n0 : Nat) (v : Option Value) (h : Heap) (L : List Loc) : Prop := (v = none ∧ Fr n0 L ∧ Keep h0 h [t] ∧ (Arv Z h t kt .byte (2 : Int32) [(.int (own_lo8z cc)), (.int (own_hi8 cc))] (.int (0 : Int32))))
set_option maxRecDepth 65536 in
set_option maxHeartbeats 40000000 in
theorem rm_put_1_0 (l : Launch) (Z : State) (a0 : Array Value) (hw : ∀ d ∈ tables_1, d.before a0 Z = true) (ws : List Jvm.Cond) (G1 : Int32) (HG : own_G l Z a0 G1) (h0 : Heap) (n0 : Nat) (X00 : Old Z n0 h0) (t : Addr) (kt : ClassId) (cc : Int32) (y0 : Int32) (y1 : Int32) (hp0 : Arv Z h0 t kt .byte (2 : Int32) [(.int y0), (.int y1)] (.int (0 : Int32))) (hp1 : n0 ≤ t) :
    own_CP l Z M24 jdk_52_method_4_code 3 none ws R_put_1_0 #[(.ref t), (.int (0 : Int32)), (.int cc)] h0 (Q_put_1_0 Z G1 t kt cc y0 y1 h0 n0) := by
  refine own_P (plainFor_of_name pn_2) ?_
  intro p e s m below meth c s₁ S0 Bd hZ hh hx hby hml hown hnm X0 e0 hS0d
  obtain ⟨O1, P1, OAD, OHI, OLO⟩ := id HG
  have N0 := Fr.nil n0
  have C0 : Steps p.tables e below S0 (s₁.setTop (mkF m 0 #[.val (.ref t), .val (.int (0 : Int32)), .val (.int cc)] [])) := by rw [hS0d]; exact castTop (ef_25 m t (0 : Int32) cc) (Steps.refl _)
  obtain ⟨T_1, X_2, e_3, st_4⟩ := getS X0 hx hZ (host := "") hown (w81 hw) Via.refl e0 (OAD.ext X00.2) (g := (mkF m 0 #[.val (.ref t), .val (.int (0 : Int32)), .val (.int cc)] [])) rfl (hb hby d2_0)
  obtain ⟨T_5, X_6, e_7, st_8⟩ := getS X_2 hx hZ (host := "") hown (w82 hw) Via.refl e_3 (OHI.ext X00.2) (g := (mkF m 38 #[.val (.ref t), .val (.int (1 : Int32)), .val (.int cc)] [(.int cc), (.int (0 : Int32)), (.ref t)])) rfl (hb hby d2_38)
  obtain ⟨c_9, A_10, q_11, S_12, M_13, H_14, U_15⟩ := id hp0
  have hin_22 : ¬ ((0 : Int32) < 0 ∨ c_9.slots.size ≤ (0 : Int32).toNatClampNeg) := inb_of S_12 ⟨(by decide : ¬ ((0 : Int32) < (0 : Int32))), (by decide : (0 : Int32) < (2 : Int32))⟩
  obtain ⟨T_16, h_17, X_18, e_19, W_20, st_21⟩ := stB X_6 hx hZ e_7 A_10 (j := (0 : Int32)) hin_22 (g := (mkF m 43 #[.val (.ref t), .val (.int (1 : Int32)), .val (.int cc)] [(.int ((cc >>> ((0 : Int32) &&& 31)).toInt8.toInt32)), (.int (0 : Int32)), (.ref t)])) rfl rfl (hb hby d2_43)
  have N_23 := Fr.snoc X_18 N0 hp1
  have V_24 : Arv Z h_17 t kt .byte (2 : Int32) [(.int (own_lo8z cc)), (.int y1)] (.int (0 : Int32)) := Arv.set A_10 q_11 S_12 M_13 H_14 U_15 (fits_nar_byte _) W_20 0 rfl (Nat.le_of_ble_eq_true rfl)
  have O_29 : Old Z n0 h_17 := (X00.wr W_20 hp1)
  obtain ⟨T_25, X_26, e_27, st_28⟩ := getS X_18 hx hZ (host := "") hown (w83 hw) Via.refl e_19 (OLO.ext O_29.2) (g := (mkF m 47 #[.val (.ref t), .val (.int (1 : Int32)), .val (.int cc)] [(.int cc), (.int (1 : Int32)), (.ref t)])) rfl (hb hby d2_47)
  obtain ⟨c_30, A_31, q_32, S_33, M_34, H_35, U_36⟩ := id V_24
  have hin_43 : ¬ ((1 : Int32) < 0 ∨ c_30.slots.size ≤ (1 : Int32).toNatClampNeg) := inb_of S_33 ⟨(by decide : ¬ ((1 : Int32) < (0 : Int32))), (by decide : (1 : Int32) < (2 : Int32))⟩
  obtain ⟨T_37, h_38, X_39, e_40, W_41, st_42⟩ := stB X_26 hx hZ e_27 A_31 (j := (1 : Int32)) hin_43 (g := (mkF m 52 #[.val (.ref t), .val (.int (1 : Int32)), .val (.int cc)] [(.int ((cc >>> ((8 : Int32) &&& 31)).toInt8.toInt32)), (.int (1 : Int32)), (.ref t)])) rfl rfl (hb hby d2_52)
  have N_44 := Fr.snoc X_39 N_23 hp1
  have V_45 : Arv Z h_38 t kt .byte (2 : Int32) [(.int (own_lo8z cc)), (.int (own_hi8 cc))] (.int (0 : Int32)) := Arv.set A_31 q_32 S_33 M_34 H_35 U_36 (fits_nar_byte _) W_41 1 rfl (Nat.le_of_ble_eq_true rfl)
  have C_46 : Steps p.tables e below S0 (T_37.setTop (mkF m 53 #[.val (.ref t), .val (.int (1 : Int32)), .val (.int cc)] [])) := by
    refine C0.trans ?_
    refine st_4 _ ?_
    refine XS.ifYes X_2.here hx rfl (pc0 := 3) (pc' := 28) rfl (hb hby d2_3) rfl (by decide) (by decide) (by decide) ?_
    refine XS.iloadN X_2.here hx rfl (hb hby d2_28) rfl ?_
    refine XS.iconst X_2.here hx rfl (hb hby d2_29) ?_
    refine XS.ishl X_2.here hx rfl (hb hby d2_30) rfl ?_
    refine XS.istoreN X_2.here hx rfl (hb hby d2_31) rfl (l' := #[.val (.ref t), .val (.int (0 : Int32)), .val (.int cc)]) rfl ?_
    refine XS.aloadN X_2.here hx rfl (hb hby d2_32) rfl rfl ?_
    refine XS.iloadN X_2.here hx rfl (hb hby d2_33) rfl ?_
    show Steps p.tables e below (T_1.setTop (mkF m 34 #[.val (.ref t), .val (.int (0 : Int32)), .val (.int cc)] [(.int (0 : Int32)), (.ref t)])) _
    refine XS.iinc X_2.here hx rfl (hb hby d2_34) (x := (0 : Int32)) rfl (l' := #[.val (.ref t), .val (.int (1 : Int32)), .val (.int cc)]) rfl ?_
    refine XS.iloadN X_2.here hx rfl (hb hby d2_37) rfl ?_
    refine st_8 _ ?_
    refine XS.ishr X_6.here hx rfl (hb hby d2_41) rfl ?_
    refine XS.i2b X_6.here hx rfl (hb hby d2_42) rfl ?_
    refine st_21 _ ?_
    refine XS.aloadN X_18.here hx rfl (hb hby d2_44) rfl rfl ?_
    refine XS.iloadN X_18.here hx rfl (hb hby d2_45) rfl ?_
    show Steps p.tables e below (T_16.setTop (mkF m 46 #[.val (.ref t), .val (.int (1 : Int32)), .val (.int cc)] [(.int (1 : Int32)), (.ref t)])) _
    refine XS.iloadN X_18.here hx rfl (hb hby d2_46) rfl ?_
    refine st_28 _ ?_
    refine XS.ishr X_26.here hx rfl (hb hby d2_50) rfl ?_
    refine XS.i2b X_26.here hx rfl (hb hby d2_51) rfl ?_
    refine st_42 _ ?_
    exact Steps.refl _
  have K_47 : Keep h0 h_38 [t] := (((Keep.refl _ _).wr W_20 (Or.inl (List.mem_of_getElem? (i := 0) rfl))).wr W_41 (Or.inl (List.mem_of_getElem? (i := 0) rfl)))
  obtain ⟨fs, hr, hrun, hended, hW, hsame⟩ := X_39.leave (v := none) (fun _ => rfl)
  refine ⟨_, _, C_46.trans (X_39.returnOut hx Bd.returns (hb hby d2_53) hr), hrun, hended, _, _, rfl, ?_, ⟨_, rfl⟩, hW, hsame.mono (by decide) (by decide)⟩
  show Q_put_1_0 Z G1 t kt cc y0 y1 h0 n0 (none) T_37.heap _
  rw [e_40]
  exact ⟨rfl, N_44, K_47, V_45⟩
abbrev M51 : MethodName := ⟨"java/lang/StringUTF16", "toBytes", "([CII)[B"⟩
theorem ef_52 (m : MethodId) (x0 : Addr) (x1 : Int32) (x2 : Int32) : entryFrame m #[(.ref x0), (.int x1), (.int x2)] 5 = mkF m 0 #[.val (.ref x0), .val (.int x1), .val (.int x2), .unset, .unset] [] := by first | (simp [entryFrame, mkF, argsToLocals, Value.category]; done) | rfl
theorem d3_0 : decode jdk_52_method_14_code 0 = .ok (.iload_n 2, 1) := by decide +kernel
theorem w73 {Z : State} {a0 : Array Value} (hw : ∀ d ∈ tables_1, d.before a0 Z = true) : Jvm.Cond.before (Jvm.Cond.code ({ cls := "java/lang/StringUTF16", name := "newBytesFor", desc := "(I)[B" } : Jvm.MethodName) jdk_52_method_2_code (1 : Nat) (Option.some (Jvm.ClassFile.FieldType.array Jvm.ClassFile.FieldType.byte))) a0 Z = true := hw _ (List.mem_of_getElem? (i := 73) rfl)
theorem pd_55 : parseMethodDescriptor "(I)[B" = some ⟨[.int], some (.array .byte)⟩ := by decide +kernel
theorem d3_1 : decode jdk_52_method_14_code 1 = .ok (.invokestatic 107, 3) := by decide +kernel
theorem w71 {Z : State} {a0 : Array Value} (hw : ∀ d ∈ tables_1, d.before a0 Z = true) : Jvm.Cond.before (Jvm.Cond.methodLink "java/lang/StringUTF16" (107 : Nat) ({ cls := "java/lang/StringUTF16", name := "newBytesFor", desc := "(I)[B" } : Jvm.MethodName)) a0 Z = true := hw _ (List.mem_of_getElem? (i := 71) rfl)
theorem w72 {Z : State} {a0 : Array Value} (hw : ∀ d ∈ tables_1, d.before a0 Z = true) : Jvm.Cond.before (Jvm.Cond.static ({ cls := "java/lang/StringUTF16", name := "newBytesFor", desc := "(I)[B" } : Jvm.MethodName)) a0 Z = true := hw _ (List.mem_of_getElem? (i := 72) rfl)
theorem d3_4 : decode jdk_52_method_14_code 4 = .ok (.astore_n 3, 1) := by decide +kernel
theorem d3_5 : decode jdk_52_method_14_code 5 = .ok (.iconst 0, 1) := by decide +kernel
theorem d3_6 : decode jdk_52_method_14_code 6 = .ok (.istore 4, 2) := by decide +kernel
theorem d3_8 : decode jdk_52_method_14_code 8 = .ok (.iload 4, 2) := by decide +kernel
theorem d3_10 : decode jdk_52_method_14_code 10 = .ok (.iload_n 2, 1) := by decide +kernel
theorem d3_11 : decode jdk_52_method_14_code 11 = .ok (.if_icmp .ge 21, 3) := by decide +kernel
theorem d3_14 : decode jdk_52_method_14_code 14 = .ok (.aload_n 3, 1) := by decide +kernel
theorem d3_15 : decode jdk_52_method_14_code 15 = .ok (.iload 4, 2) := by decide +kernel
theorem d3_17 : decode jdk_52_method_14_code 17 = .ok (.aload_n 0, 1) := by decide +kernel
theorem d3_18 : decode jdk_52_method_14_code 18 = .ok (.iload_n 1, 1) := by decide +kernel
theorem d3_19 : decode jdk_52_method_14_code 19 = .ok (.caload, 1) := by decide +kernel
theorem w80 {Z : State} {a0 : Array Value} (hw : ∀ d ∈ tables_1, d.before a0 Z = true) : Jvm.Cond.before (Jvm.Cond.code ({ cls := "java/lang/StringUTF16", name := "putChar", desc := "([BII)V" } : Jvm.MethodName) jdk_52_method_4_code (3 : Nat) (Option.none : Option Jvm.ClassFile.FieldType)) a0 Z = true := hw _ (List.mem_of_getElem? (i := 80) rfl)
theorem pd_71 : parseMethodDescriptor "([BII)V" = some ⟨[(.array .byte), .int, .int], none⟩ := by decide +kernel
theorem d3_20 : decode jdk_52_method_14_code 20 = .ok (.invokestatic 111, 3) := by decide +kernel
theorem w78 {Z : State} {a0 : Array Value} (hw : ∀ d ∈ tables_1, d.before a0 Z = true) : Jvm.Cond.before (Jvm.Cond.methodLink "java/lang/StringUTF16" (111 : Nat) ({ cls := "java/lang/StringUTF16", name := "putChar", desc := "([BII)V" } : Jvm.MethodName)) a0 Z = true := hw _ (List.mem_of_getElem? (i := 78) rfl)
theorem w79 {Z : State} {a0 : Array Value} (hw : ∀ d ∈ tables_1, d.before a0 Z = true) : Jvm.Cond.before (Jvm.Cond.static ({ cls := "java/lang/StringUTF16", name := "putChar", desc := "([BII)V" } : Jvm.MethodName)) a0 Z = true := hw _ (List.mem_of_getElem? (i := 79) rfl)
theorem d3_23 : decode jdk_52_method_14_code 23 = .ok (.iinc 1 1, 3) := by decide +kernel
theorem d3_26 : decode jdk_52_method_14_code 26 = .ok (.iinc 4 1, 3) := by decide +kernel
theorem d3_29 : decode jdk_52_method_14_code 29 = .ok (.goto (-21), 3) := by decide +kernel
theorem d3_32 : decode jdk_52_method_14_code 32 = .ok (.aload_n 3, 1) := by decide +kernel
theorem d3_33 : decode jdk_52_method_14_code 33 = .ok (.areturn, 1) := by decide +kernel
abbrev R_tob_1 : Room := { frames := 2, cells := 1, slots := 2, locals := 24 }
def Q_tob_1 (Z : State) (G1 : Int32) (b : Addr) (k : ClassId) (c0 : Int32) (h0 : Heap) (n0 : Nat) (v : Option Value) (h : Heap) (L : List Loc) : Prop := (∃ t : Addr, ∃ kt : ClassId, v = some (.ref t) ∧ Fr n0 L ∧ Keep h0 h [] ∧ (h0.size ≤ t) ∧ (Arv Z h t kt .byte (2 : Int32) [(.int (own_lo8z c0)), (.int (own_hi8 c0))] (.int (0 : Int32))))
set_option maxRecDepth 65536 in
set_option maxHeartbeats 40000000 in
theorem rm_tob_1 (l : Launch) (Z : State) (a0 : Array Value) (hw : ∀ d ∈ tables_1, d.before a0 Z = true) (ws : List Jvm.Cond) (G1 : Int32) (HG : own_G l Z a0 G1) (h0 : Heap) (n0 : Nat) (X00 : Old Z n0 h0) (b : Addr) (k : ClassId) (c0 : Int32) (hp0 : Arv Z h0 b k .char (1 : Int32) [(.int c0)] (.int (0 : Int32))) :
    own_CP l Z M51 jdk_52_method_14_code 5 (some (.array .byte)) ws R_tob_1 #[(.ref b), (.int (0 : Int32)), (.int (1 : Int32))] h0 (Q_tob_1 Z G1 b k c0 h0 n0) := by
  refine own_P (plainFor_of_name pn_2) ?_
  intro p e s m below meth c s₁ S0 Bd hZ hh hx hby hml hown hnm X0 e0 hS0d
  obtain ⟨O1, P1, OAD, OHI, OLO⟩ := id HG
  have N0 := Fr.nil n0
  have C0 : Steps p.tables e below S0 (s₁.setTop (mkF m 0 #[.val (.ref b), .val (.int (0 : Int32)), .val (.int (1 : Int32)), .unset, .unset] [])) := by rw [hS0d]; exact castTop (ef_52 m b (0 : Int32) (1 : Int32)) (Steps.refl _)
  obtain ⟨_, _, ⟨T_1, L_1, k_1, n_1⟩, -, X_1, ⟨Lc_1, hQ_1, l_1, y_1, z_1⟩, st_1⟩ := Jvm.LawKit.callS X0 hx (y := M13) hown (mvT hZ (w71 hw)) (mvT hZ (w72 hw)) (mvT hZ (w22 hw)) (mvT hZ (w73 hw)) (by decide) (backOf (W := 0) (rm_nbf_1 l Z a0 hw [] G1 HG h0 n0 X00  ) hZ (w73 hw) (w22 hw) (by decide) (by decide)) (g := (mkF m 1 #[.val (.ref b), .val (.int (0 : Int32)), .val (.int (1 : Int32)), .unset, .unset] [(.int (1 : Int32))])) rfl (by rw [hml]; rfl) (argsL := [(.int (1 : Int32))]) (rest := []) (lenOf pd_55 rfl) rfl (by show 2 * 0 + _ ≤ _; exact Nat.le_of_eq rfl) (hb hby d3_1) (fun _ _ => ⟨rfl, e0, (by decide : 0 + 1 ≤ _), (by decide : 0 + 2 ≤ _)⟩)
  dsimp only [Pt.U, Pt.locs, Pt.cells, Pt.slots] at X_1 l_1 y_1 z_1 st_1 hQ_1
  subst l_1 y_1 z_1
  obtain ⟨a_2, k_3, rfl, N_4, K_5, g_6, g_7⟩ := hQ_1
  have N_8 := Fr.app N0 N_4
  have V_9 : Arv Z T_1.heap b k .char (1 : Int32) [(.int c0)] (.int (0 : Int32)) := (hp0.keep K_5 nin0)
  obtain ⟨c_10, A_11, q_12, S_13, M_14, H_15, U_16⟩ := id V_9
  have hin_17 : ¬ ((0 : Int32) < 0 ∨ c_10.slots.size ≤ (0 : Int32).toNatClampNeg) := inb_of S_13 ⟨(by decide : ¬ ((0 : Int32) < (0 : Int32))), (by decide : (0 : Int32) < (1 : Int32))⟩
  have hat_18 : c_10.slots[(0 : Int32).toNatClampNeg]? = some (.int c0) := Has.at H_15 hin_17 rfl
  have O_19 : Old Z n0 T_1.heap := (X00.keep K_5 all0)
  obtain ⟨_, _, ⟨T_20, L_20, k_20, n_20⟩, -, X_20, ⟨Lc_20, hQ_20, l_20, y_20, z_20⟩, st_20⟩ := Jvm.LawKit.callS X_1 hx (y := M24) hown (mvT hZ (w78 hw)) (mvT hZ (w79 hw)) (mvT hZ (w22 hw)) (mvT hZ (w80 hw)) (by decide) (backOf (W := 0) (rm_put_1_0 l Z a0 hw [] G1 HG T_1.heap n0 O_19 a_2 k_3 c0 (0 : Int32) (0 : Int32) g_7 (Nat.le_trans (own_n0 X00) g_6)) hZ (w80 hw) (w22 hw) (by decide) (by decide)) (g := (mkF m 20 #[.val (.ref b), .val (.int (0 : Int32)), .val (.int (1 : Int32)), .val (.ref a_2), .val (.int (0 : Int32))] [(.int c0), (.int (0 : Int32)), (.ref a_2)])) rfl (by rw [hml]; rfl) (argsL := [(.ref a_2), (.int (0 : Int32)), (.int c0)]) (rest := []) (lenOf pd_71 rfl) rfl (by show 2 * 0 + _ ≤ _; exact Nat.le_of_eq rfl) (hb hby d3_20) (fun _ _ => ⟨rfl, rfl, (by decide : 1 + 0 ≤ _), (by decide : 2 + 0 ≤ _)⟩)
  dsimp only [Pt.U, Pt.locs, Pt.cells, Pt.slots] at X_20 l_20 y_20 z_20 st_20 hQ_20
  subst l_20 y_20 z_20
  obtain ⟨rfl, N_21, K_22, g_23⟩ := hQ_20
  have N_24 := Fr.app N_8 N_21
  have C_25 : Steps p.tables e below S0 (T_20.setTop (mkF m 33 #[.val (.ref b), .val (.int (1 : Int32)), .val (.int (1 : Int32)), .val (.ref a_2), .val (.int (1 : Int32))] [(.ref a_2)])) := by
    refine C0.trans ?_
    refine XS.iloadN X0.here hx rfl (hb hby d3_0) rfl ?_
    refine st_1 _ ?_
    refine XS.astoreN X_1.here hx rfl (hb hby d3_4) rfl rfl (l' := #[.val (.ref b), .val (.int (0 : Int32)), .val (.int (1 : Int32)), .val (.ref a_2), .unset]) rfl ?_
    refine XS.iconst X_1.here hx rfl (hb hby d3_5) ?_
    refine XS.istore X_1.here hx rfl (hb hby d3_6) rfl (l' := #[.val (.ref b), .val (.int (0 : Int32)), .val (.int (1 : Int32)), .val (.ref a_2), .val (.int (0 : Int32))]) rfl ?_
    refine XS.iload X_1.here hx rfl (hb hby d3_8) rfl ?_
    refine XS.iloadN X_1.here hx rfl (hb hby d3_10) rfl ?_
    refine XS.icmpNo X_1.here hx rfl (hb hby d3_11) rfl (by decide) ?_
    show Steps p.tables e below (T_1.setTop (mkF m 14 #[.val (.ref b), .val (.int (0 : Int32)), .val (.int (1 : Int32)), .val (.ref a_2), .val (.int (0 : Int32))] [])) _
    refine XS.aloadN X_1.here hx rfl (hb hby d3_14) rfl rfl ?_
    refine XS.iload X_1.here hx rfl (hb hby d3_15) rfl ?_
    refine XS.aloadN X_1.here hx rfl (hb hby d3_17) rfl rfl ?_
    refine XS.iloadN X_1.here hx rfl (hb hby d3_18) rfl ?_
    refine X_1.caload hx (j := (0 : Int32)) (v := (.int c0)) (A_11.1) (State.isArrayOf_alike hZ.alike A_11.2.1) A_11.2.2 hin_17 hat_18 (g := (mkF m 19 #[.val (.ref b), .val (.int (0 : Int32)), .val (.int (1 : Int32)), .val (.ref a_2), .val (.int (0 : Int32))] [(.int (0 : Int32)), (.ref b), (.int (0 : Int32)), (.ref a_2)])) rfl rfl (hb hby d3_19) _ ?_
    refine st_20 _ ?_
    refine XS.iinc X_20.here hx rfl (hb hby d3_23) (x := (0 : Int32)) rfl (l' := #[.val (.ref b), .val (.int (1 : Int32)), .val (.int (1 : Int32)), .val (.ref a_2), .val (.int (0 : Int32))]) rfl ?_
    refine XS.iinc X_20.here hx rfl (hb hby d3_26) (x := (0 : Int32)) rfl (l' := #[.val (.ref b), .val (.int (1 : Int32)), .val (.int (1 : Int32)), .val (.ref a_2), .val (.int (1 : Int32))]) rfl ?_
    show Steps p.tables e below (T_20.setTop (mkF m 29 #[.val (.ref b), .val (.int (1 : Int32)), .val (.int (1 : Int32)), .val (.ref a_2), .val (.int (1 : Int32))] [])) _
    refine XS.goto X_20.here hx rfl (pc0 := 29) (pc' := 8) rfl (hb hby d3_29) (by decide) (by decide) ?_
    refine XS.iload X_20.here hx rfl (hb hby d3_8) rfl ?_
    refine XS.iloadN X_20.here hx rfl (hb hby d3_10) rfl ?_
    refine XS.icmpYes X_20.here hx rfl (pc0 := 11) (pc' := 32) rfl (hb hby d3_11) rfl (by decide) (by decide) (by decide) ?_
    refine XS.aloadN X_20.here hx rfl (hb hby d3_32) rfl rfl ?_
    exact Steps.refl _
  have K_26 : Keep h0 T_20.heap [] := (((Keep.refl _ _).trans K_5 all0).trans K_22 (allS (Or.inr (Nat.le_trans (Nat.le_refl _) g_6)) all0))
  obtain ⟨fs, hr, hrun, hended, hW, hsame⟩ := X_20.leave (v := some (.ref a_2)) (fun h => by rw [Bd.returns] at h; cases h)
  refine ⟨_, _, C_25.trans (retOut X_20 hx Bd.returns rfl (Or.inr (Or.inr (Or.inr (Or.inr ⟨rfl, rfl, rfl⟩)))) (hb hby d3_33) hr), hrun, hended, _, _, rfl, ?_, ⟨_, rfl⟩, hW, hsame.mono (by decide) (by decide)⟩
  show Q_tob_1 Z G1 b k c0 h0 n0 (some (.ref a_2)) T_20.heap _
  exact ⟨a_2, k_3, rfl, N_24, K_26, (Nat.le_trans (Nat.le_refl _) g_6), g_23⟩
abbrev M80 : MethodName := ⟨"java/lang/StringUTF16", "getChar", "([BI)C"⟩
theorem ef_81 (m : MethodId) (x0 : Addr) (x1 : Int32) : entryFrame m #[(.ref x0), (.int x1)] 2 = mkF m 0 #[.val (.ref x0), .val (.int x1)] [] := by first | (simp [entryFrame, mkF, argsToLocals, Value.category]; done) | rfl
theorem d4_0 : decode jdk_52_method_5_code 0 = .ok (.getstatic 44, 3) := by decide +kernel
theorem d4_3 : decode jdk_52_method_5_code 3 = .ok (.ifCond .ne 25, 3) := by decide +kernel
theorem d4_28 : decode jdk_52_method_5_code 28 = .ok (.iload_n 1, 1) := by decide +kernel
theorem d4_29 : decode jdk_52_method_5_code 29 = .ok (.iconst 1, 1) := by decide +kernel
theorem d4_30 : decode jdk_52_method_5_code 30 = .ok (.ishl, 1) := by decide +kernel
theorem d4_31 : decode jdk_52_method_5_code 31 = .ok (.istore_n 1, 1) := by decide +kernel
theorem d4_32 : decode jdk_52_method_5_code 32 = .ok (.aload_n 0, 1) := by decide +kernel
theorem d4_33 : decode jdk_52_method_5_code 33 = .ok (.iload_n 1, 1) := by decide +kernel
theorem d4_34 : decode jdk_52_method_5_code 34 = .ok (.iinc 1 1, 3) := by decide +kernel
theorem d4_37 : decode jdk_52_method_5_code 37 = .ok (.baload, 1) := by decide +kernel
theorem d4_38 : decode jdk_52_method_5_code 38 = .ok (.sipush 255, 3) := by decide +kernel
theorem d4_41 : decode jdk_52_method_5_code 41 = .ok (.iand, 1) := by decide +kernel
theorem d4_42 : decode jdk_52_method_5_code 42 = .ok (.getstatic 59, 3) := by decide +kernel
theorem d4_45 : decode jdk_52_method_5_code 45 = .ok (.ishl, 1) := by decide +kernel
theorem d4_46 : decode jdk_52_method_5_code 46 = .ok (.aload_n 0, 1) := by decide +kernel
theorem d4_47 : decode jdk_52_method_5_code 47 = .ok (.iload_n 1, 1) := by decide +kernel
theorem d4_48 : decode jdk_52_method_5_code 48 = .ok (.baload, 1) := by decide +kernel
theorem d4_49 : decode jdk_52_method_5_code 49 = .ok (.sipush 255, 3) := by decide +kernel
theorem d4_52 : decode jdk_52_method_5_code 52 = .ok (.iand, 1) := by decide +kernel
theorem d4_53 : decode jdk_52_method_5_code 53 = .ok (.getstatic 63, 3) := by decide +kernel
theorem d4_56 : decode jdk_52_method_5_code 56 = .ok (.ishl, 1) := by decide +kernel
theorem d4_57 : decode jdk_52_method_5_code 57 = .ok (.ior, 1) := by decide +kernel
theorem d4_58 : decode jdk_52_method_5_code 58 = .ok (.i2c, 1) := by decide +kernel
theorem d4_59 : decode jdk_52_method_5_code 59 = .ok (.ireturn, 1) := by decide +kernel
abbrev R_get_1_0 : Room := { frames := 0, cells := 0, slots := 0, locals := 0 }
def Q_get_1_0 (Z : State) (G1 : Int32) (t : Addr) (kt : ClassId) (y0 : Int32) (y1 : Int32) (h0 : Heap) (n0 : Nat) (v : Option Value) (h : Heap) (L : List Loc) : Prop := (v = some (.int (own_pair y0 y1)) ∧ Fr n0 L ∧ h = h0)
set_option maxRecDepth 65536 in
set_option maxHeartbeats 40000000 in
theorem rm_get_1_0 (l : Launch) (Z : State) (a0 : Array Value) (hw : ∀ d ∈ tables_1, d.before a0 Z = true) (ws : List Jvm.Cond) (G1 : Int32) (HG : own_G l Z a0 G1) (h0 : Heap) (n0 : Nat) (X00 : Old Z n0 h0) (t : Addr) (kt : ClassId) (y0 : Int32) (y1 : Int32) (hp0 : Arv Z h0 t kt .byte (2 : Int32) [(.int y0), (.int y1)] (.int (0 : Int32))) :
    own_CP l Z M80 jdk_52_method_5_code 2 (some .char) ws R_get_1_0 #[(.ref t), (.int (0 : Int32))] h0 (Q_get_1_0 Z G1 t kt y0 y1 h0 n0) := by
  refine own_P (plainFor_of_name pn_2) ?_
  intro p e s m below meth c s₁ S0 Bd hZ hh hx hby hml hown hnm X0 e0 hS0d
  obtain ⟨O1, P1, OAD, OHI, OLO⟩ := id HG
  have N0 := Fr.nil n0
  have C0 : Steps p.tables e below S0 (s₁.setTop (mkF m 0 #[.val (.ref t), .val (.int (0 : Int32))] [])) := by rw [hS0d]; exact castTop (ef_81 m t (0 : Int32)) (Steps.refl _)
  obtain ⟨T_1, X_2, e_3, st_4⟩ := getS X0 hx hZ (host := "") hown (w81 hw) Via.refl e0 (OAD.ext X00.2) (g := (mkF m 0 #[.val (.ref t), .val (.int (0 : Int32))] [])) rfl (hb hby d4_0)
  obtain ⟨c_5, A_6, q_7, S_8, M_9, H_10, U_11⟩ := id hp0
  have hin_12 : ¬ ((0 : Int32) < 0 ∨ c_5.slots.size ≤ (0 : Int32).toNatClampNeg) := inb_of S_8 ⟨(by decide : ¬ ((0 : Int32) < (0 : Int32))), (by decide : (0 : Int32) < (2 : Int32))⟩
  have hat_13 : c_5.slots[(0 : Int32).toNatClampNeg]? = some (.int y0) := Has.at H_10 hin_12 rfl
  obtain ⟨T_14, X_15, e_16, st_17⟩ := getS X_2 hx hZ (host := "") hown (w82 hw) Via.refl e_3 (OHI.ext X00.2) (g := (mkF m 42 #[.val (.ref t), .val (.int (1 : Int32))] [(.int (y0 &&& (255 : Int32)))])) rfl (hb hby d4_42)
  obtain ⟨c_18, A_19, q_20, S_21, M_22, H_23, U_24⟩ := id hp0
  have hin_25 : ¬ ((1 : Int32) < 0 ∨ c_18.slots.size ≤ (1 : Int32).toNatClampNeg) := inb_of S_21 ⟨(by decide : ¬ ((1 : Int32) < (0 : Int32))), (by decide : (1 : Int32) < (2 : Int32))⟩
  have hat_26 : c_18.slots[(1 : Int32).toNatClampNeg]? = some (.int y1) := Has.at H_23 hin_25 rfl
  obtain ⟨T_27, X_28, e_29, st_30⟩ := getS X_15 hx hZ (host := "") hown (w83 hw) Via.refl e_16 (OLO.ext X00.2) (g := (mkF m 53 #[.val (.ref t), .val (.int (1 : Int32))] [(.int (y1 &&& (255 : Int32))), (.int ((y0 &&& (255 : Int32)) <<< ((0 : Int32) &&& 31)))])) rfl (hb hby d4_53)
  have C_31 : Steps p.tables e below S0 (T_27.setTop (mkF m 59 #[.val (.ref t), .val (.int (1 : Int32))] [(.int ((((y0 &&& (255 : Int32)) <<< ((0 : Int32) &&& 31)) ||| ((y1 &&& (255 : Int32)) <<< ((8 : Int32) &&& 31))).toUInt32.toUInt16.toUInt32.toInt32))])) := by
    refine C0.trans ?_
    refine st_4 _ ?_
    refine XS.ifYes X_2.here hx rfl (pc0 := 3) (pc' := 28) rfl (hb hby d4_3) rfl (by decide) (by decide) (by decide) ?_
    refine XS.iloadN X_2.here hx rfl (hb hby d4_28) rfl ?_
    refine XS.iconst X_2.here hx rfl (hb hby d4_29) ?_
    refine XS.ishl X_2.here hx rfl (hb hby d4_30) rfl ?_
    refine XS.istoreN X_2.here hx rfl (hb hby d4_31) rfl (l' := #[.val (.ref t), .val (.int (0 : Int32))]) rfl ?_
    refine XS.aloadN X_2.here hx rfl (hb hby d4_32) rfl rfl ?_
    refine XS.iloadN X_2.here hx rfl (hb hby d4_33) rfl ?_
    show Steps p.tables e below (T_1.setTop (mkF m 34 #[.val (.ref t), .val (.int (0 : Int32))] [(.int (0 : Int32)), (.ref t)])) _
    refine XS.iinc X_2.here hx rfl (hb hby d4_34) (x := (0 : Int32)) rfl (l' := #[.val (.ref t), .val (.int (1 : Int32))]) rfl ?_
    refine X_2.baloadBytes hx (j := (0 : Int32)) (v := (.int y0)) (by rw [e_3]; exact A_6.1) (State.isArrayOf_alike hZ.alike A_6.2.1) A_6.2.2 hin_12 hat_13 (g := (mkF m 37 #[.val (.ref t), .val (.int (1 : Int32))] [(.int (0 : Int32)), (.ref t)])) rfl rfl (hb hby d4_37) _ ?_
    refine XS.sipush X_2.here hx rfl (hb hby d4_38) ?_
    refine XS.iand X_2.here hx rfl (hb hby d4_41) rfl ?_
    refine st_17 _ ?_
    refine XS.ishl X_15.here hx rfl (hb hby d4_45) rfl ?_
    refine XS.aloadN X_15.here hx rfl (hb hby d4_46) rfl rfl ?_
    refine XS.iloadN X_15.here hx rfl (hb hby d4_47) rfl ?_
    show Steps p.tables e below (T_14.setTop (mkF m 48 #[.val (.ref t), .val (.int (1 : Int32))] [(.int (1 : Int32)), (.ref t), (.int ((y0 &&& (255 : Int32)) <<< ((0 : Int32) &&& 31)))])) _
    refine X_15.baloadBytes hx (j := (1 : Int32)) (v := (.int y1)) (by rw [e_16]; exact A_19.1) (State.isArrayOf_alike hZ.alike A_19.2.1) A_19.2.2 hin_25 hat_26 (g := (mkF m 48 #[.val (.ref t), .val (.int (1 : Int32))] [(.int (1 : Int32)), (.ref t), (.int ((y0 &&& (255 : Int32)) <<< ((0 : Int32) &&& 31)))])) rfl rfl (hb hby d4_48) _ ?_
    refine XS.sipush X_15.here hx rfl (hb hby d4_49) ?_
    refine XS.iand X_15.here hx rfl (hb hby d4_52) rfl ?_
    refine st_30 _ ?_
    refine XS.ishl X_28.here hx rfl (hb hby d4_56) rfl ?_
    refine XS.ior X_28.here hx rfl (hb hby d4_57) rfl ?_
    refine XS.i2c X_28.here hx rfl (hb hby d4_58) rfl ?_
    exact Steps.refl _
  obtain ⟨fs, hr, hrun, hended, hW, hsame⟩ := X_28.leave (v := some (.int (own_pair y0 y1))) (fun h => by rw [Bd.returns] at h; cases h)
  refine ⟨_, _, C_31.trans (retN X_28 hx (t := .char) Bd.returns (by simp) (hb hby d4_59) hr), hrun, hended, _, _, rfl, ?_, ⟨_, rfl⟩, hW, hsame.mono (by decide) (by decide)⟩
  show Q_get_1_0 Z G1 t kt y0 y1 h0 n0 (some (.int (own_pair y0 y1))) T_27.heap _
  rw [e_29]
  exact ⟨rfl, N0, rfl⟩
abbrev M106 : MethodName := ⟨"java/lang/StringUTF16", "compress", "([CI[BII)I"⟩
theorem ef_107 (m : MethodId) (x0 : Addr) (x1 : Int32) (x2 : Addr) (x3 : Int32) (x4 : Int32) : entryFrame m #[(.ref x0), (.int x1), (.ref x2), (.int x3), (.int x4)] 7 = mkF m 0 #[.val (.ref x0), .val (.int x1), .val (.ref x2), .val (.int x3), .val (.int x4), .unset, .unset] [] := by first | (simp [entryFrame, mkF, argsToLocals, Value.category]; done) | rfl
theorem d5_0 : decode jdk_52_method_21_code 0 = .ok (.iconst 0, 1) := by decide +kernel
theorem d5_1 : decode jdk_52_method_21_code 1 = .ok (.istore 5, 2) := by decide +kernel
theorem d5_3 : decode jdk_52_method_21_code 3 = .ok (.iload 5, 2) := by decide +kernel
theorem d5_5 : decode jdk_52_method_21_code 5 = .ok (.iload 4, 2) := by decide +kernel
theorem d5_7 : decode jdk_52_method_21_code 7 = .ok (.if_icmp .ge 37, 3) := by decide +kernel
theorem d5_10 : decode jdk_52_method_21_code 10 = .ok (.aload_n 0, 1) := by decide +kernel
theorem d5_11 : decode jdk_52_method_21_code 11 = .ok (.iload_n 1, 1) := by decide +kernel
theorem d5_12 : decode jdk_52_method_21_code 12 = .ok (.caload, 1) := by decide +kernel
theorem d5_13 : decode jdk_52_method_21_code 13 = .ok (.istore 6, 2) := by decide +kernel
theorem d5_15 : decode jdk_52_method_21_code 15 = .ok (.iload 6, 2) := by decide +kernel
theorem d5_17 : decode jdk_52_method_21_code 17 = .ok (.sipush 255, 3) := by decide +kernel
theorem d5_20 : decode jdk_52_method_21_code 20 = .ok (.if_icmp .le 6, 3) := by decide +kernel
theorem d5_23 : decode jdk_52_method_21_code 23 = .ok (.iload 5, 2) := by decide +kernel
theorem d5_25 : decode jdk_52_method_21_code 25 = .ok (.ireturn, 1) := by decide +kernel
theorem d5_26 : decode jdk_52_method_21_code 26 = .ok (.aload_n 2, 1) := by decide +kernel
theorem d5_27 : decode jdk_52_method_21_code 27 = .ok (.iload_n 3, 1) := by decide +kernel
theorem d5_28 : decode jdk_52_method_21_code 28 = .ok (.iload 6, 2) := by decide +kernel
theorem d5_30 : decode jdk_52_method_21_code 30 = .ok (.i2b, 1) := by decide +kernel
theorem d5_31 : decode jdk_52_method_21_code 31 = .ok (.bastore, 1) := by decide +kernel
theorem d5_32 : decode jdk_52_method_21_code 32 = .ok (.iinc 1 1, 3) := by decide +kernel
theorem d5_35 : decode jdk_52_method_21_code 35 = .ok (.iinc 3 1, 3) := by decide +kernel
theorem d5_38 : decode jdk_52_method_21_code 38 = .ok (.iinc 5 1, 3) := by decide +kernel
theorem d5_41 : decode jdk_52_method_21_code 41 = .ok (.goto (-38), 3) := by decide +kernel
theorem d5_44 : decode jdk_52_method_21_code 44 = .ok (.iload 4, 2) := by decide +kernel
theorem d5_46 : decode jdk_52_method_21_code 46 = .ok (.ireturn, 1) := by decide +kernel
abbrev R_cmp5u_1 : Room := { frames := 0, cells := 0, slots := 0, locals := 0 }
def Q_cmp5u_1 (Z : State) (G1 : Int32) (b : Addr) (k : ClassId) (t : Addr) (kt : ClassId) (c0 : Int32) (h0 : Heap) (n0 : Nat) (v : Option Value) (h : Heap) (L : List Loc) : Prop := (v = some (.int (0 : Int32)) ∧ Fr n0 L ∧ Keep h0 h [t] ∧ ((255 : Int32) < c0)) ∨ (v = some (.int (1 : Int32)) ∧ Fr n0 L ∧ Keep h0 h [t] ∧ (Arv Z h t kt .byte (1 : Int32) [(.int (own_lo8 c0))] (.int (0 : Int32))) ∧ (¬ ((255 : Int32) < c0)))
set_option maxRecDepth 65536 in
set_option maxHeartbeats 40000000 in
theorem rm_cmp5u_1 (l : Launch) (Z : State) (a0 : Array Value) (hw : ∀ d ∈ tables_1, d.before a0 Z = true) (ws : List Jvm.Cond) (G1 : Int32) (HG : own_G l Z a0 G1) (h0 : Heap) (n0 : Nat) (X00 : Old Z n0 h0) (b : Addr) (k : ClassId) (t : Addr) (kt : ClassId) (c0 : Int32) (hp0 : Arv Z h0 b k .char (1 : Int32) [(.int c0)] (.int (0 : Int32))) (hp1 : Arv Z h0 t kt .byte (1 : Int32) [(.int (0 : Int32))] (.int (0 : Int32))) (hp2 : n0 ≤ t) (hp3 : b ≠ t) :
    own_CP l Z M106 jdk_52_method_21_code 7 (some .int) ws R_cmp5u_1 #[(.ref b), (.int (0 : Int32)), (.ref t), (.int (0 : Int32)), (.int (1 : Int32))] h0 (Q_cmp5u_1 Z G1 b k t kt c0 h0 n0) := by
  refine own_P (plainFor_of_name pn_2) ?_
  intro p e s m below meth c s₁ S0 Bd hZ hh hx hby hml hown hnm X0 e0 hS0d
  obtain ⟨O1, P1, OAD, OHI, OLO⟩ := id HG
  have N0 := Fr.nil n0
  have C0 : Steps p.tables e below S0 (s₁.setTop (mkF m 0 #[.val (.ref b), .val (.int (0 : Int32)), .val (.ref t), .val (.int (0 : Int32)), .val (.int (1 : Int32)), .unset, .unset] [])) := by rw [hS0d]; exact castTop (ef_107 m b (0 : Int32) t (0 : Int32) (1 : Int32)) (Steps.refl _)
  obtain ⟨c_1, A_2, q_3, S_4, M_5, H_6, U_7⟩ := id hp0
  have hin_8 : ¬ ((0 : Int32) < 0 ∨ c_1.slots.size ≤ (0 : Int32).toNatClampNeg) := inb_of S_4 ⟨(by decide : ¬ ((0 : Int32) < (0 : Int32))), (by decide : (0 : Int32) < (1 : Int32))⟩
  have hat_9 : c_1.slots[(0 : Int32).toNatClampNeg]? = some (.int c0) := Has.at H_6 hin_8 rfl
  have C_10 : Steps p.tables e below S0 (s₁.setTop (mkF m 20 #[.val (.ref b), .val (.int (0 : Int32)), .val (.ref t), .val (.int (0 : Int32)), .val (.int (1 : Int32)), .val (.int (0 : Int32)), .val (.int c0)] [(.int (255 : Int32)), (.int c0)])) := by
    refine C0.trans ?_
    refine XS.iconst X0.here hx rfl (hb hby d5_0) ?_
    refine XS.istore X0.here hx rfl (hb hby d5_1) rfl (l' := #[.val (.ref b), .val (.int (0 : Int32)), .val (.ref t), .val (.int (0 : Int32)), .val (.int (1 : Int32)), .val (.int (0 : Int32)), .unset]) rfl ?_
    refine XS.iload X0.here hx rfl (hb hby d5_3) rfl ?_
    refine XS.iload X0.here hx rfl (hb hby d5_5) rfl ?_
    refine XS.icmpNo X0.here hx rfl (hb hby d5_7) rfl (by decide) ?_
    refine XS.aloadN X0.here hx rfl (hb hby d5_10) rfl rfl ?_
    refine XS.iloadN X0.here hx rfl (hb hby d5_11) rfl ?_
    refine X0.caload hx (j := (0 : Int32)) (v := (.int c0)) (by rw [e0]; exact A_2.1) (State.isArrayOf_alike hZ.alike A_2.2.1) A_2.2.2 hin_8 hat_9 (g := (mkF m 12 #[.val (.ref b), .val (.int (0 : Int32)), .val (.ref t), .val (.int (0 : Int32)), .val (.int (1 : Int32)), .val (.int (0 : Int32)), .unset] [(.int (0 : Int32)), (.ref b)])) rfl rfl (hb hby d5_12) _ ?_
    show Steps p.tables e below (s₁.setTop (mkF m 13 #[.val (.ref b), .val (.int (0 : Int32)), .val (.ref t), .val (.int (0 : Int32)), .val (.int (1 : Int32)), .val (.int (0 : Int32)), .unset] [(.int c0)])) _
    refine XS.istore X0.here hx rfl (hb hby d5_13) rfl (l' := #[.val (.ref b), .val (.int (0 : Int32)), .val (.ref t), .val (.int (0 : Int32)), .val (.int (1 : Int32)), .val (.int (0 : Int32)), .val (.int c0)]) rfl ?_
    refine XS.iload X0.here hx rfl (hb hby d5_15) rfl ?_
    refine XS.sipush X0.here hx rfl (hb hby d5_17) ?_
    exact Steps.refl _
  by_cases hc_11 : (255 : Int32) < c0
  · skip
    have C_12 : Steps p.tables e below S0 (s₁.setTop (mkF m 25 #[.val (.ref b), .val (.int (0 : Int32)), .val (.ref t), .val (.int (0 : Int32)), .val (.int (1 : Int32)), .val (.int (0 : Int32)), .val (.int c0)] [(.int (0 : Int32))])) := by
      refine C_10.trans ?_
      refine XS.icmpNo X0.here hx rfl (hb hby d5_20) rfl (ii_le_f hc_11) ?_
      refine XS.iload X0.here hx rfl (hb hby d5_23) rfl ?_
      exact Steps.refl _
    have K_13 : Keep h0 h0 [t] := (Keep.refl _ _)
    obtain ⟨fs, hr, hrun, hended, hW, hsame⟩ := X0.leave (v := some (.int (0 : Int32))) (fun h => by rw [Bd.returns] at h; cases h)
    refine ⟨_, _, C_12.trans (retOut X0 hx Bd.returns rfl (Or.inl ⟨rfl, Or.inl rfl, _, rfl⟩) (hb hby d5_25) hr), hrun, hended, _, _, rfl, ?_, ⟨_, rfl⟩, hW, hsame.mono (by decide) (by decide)⟩
    show Q_cmp5u_1 Z G1 b k t kt c0 h0 n0 (some (.int (0 : Int32))) s₁.heap _
    rw [e0]
    exact Or.inl ⟨rfl, N0, K_13, hc_11⟩
  · skip
    obtain ⟨c_14, A_15, q_16, S_17, M_18, H_19, U_20⟩ := id hp1
    have hin_27 : ¬ ((0 : Int32) < 0 ∨ c_14.slots.size ≤ (0 : Int32).toNatClampNeg) := inb_of S_17 ⟨(by decide : ¬ ((0 : Int32) < (0 : Int32))), (by decide : (0 : Int32) < (1 : Int32))⟩
    obtain ⟨T_21, h_22, X_23, e_24, W_25, st_26⟩ := stB X0 hx hZ e0 A_15 (j := (0 : Int32)) hin_27 (g := (mkF m 31 #[.val (.ref b), .val (.int (0 : Int32)), .val (.ref t), .val (.int (0 : Int32)), .val (.int (1 : Int32)), .val (.int (0 : Int32)), .val (.int c0)] [(.int (c0.toInt8.toInt32)), (.int (0 : Int32)), (.ref t)])) rfl rfl (hb hby d5_31)
    have N_28 := Fr.snoc X_23 N0 hp2
    have V_29 : Arv Z h_22 t kt .byte (1 : Int32) [(.int (own_lo8 c0))] (.int (0 : Int32)) := Arv.set A_15 q_16 S_17 M_18 H_19 U_20 (fits_nar_byte _) W_25 0 rfl (Nat.le_of_ble_eq_true rfl)
    have C_30 : Steps p.tables e below S0 (T_21.setTop (mkF m 46 #[.val (.ref b), .val (.int (1 : Int32)), .val (.ref t), .val (.int (1 : Int32)), .val (.int (1 : Int32)), .val (.int (1 : Int32)), .val (.int c0)] [(.int (1 : Int32))])) := by
      refine C_10.trans ?_
      refine XS.icmpYes X0.here hx rfl (pc0 := 20) (pc' := 26) rfl (hb hby d5_20) rfl (ii_le_t hc_11) (by decide) (by decide) ?_
      refine XS.aloadN X0.here hx rfl (hb hby d5_26) rfl rfl ?_
      refine XS.iloadN X0.here hx rfl (hb hby d5_27) rfl ?_
      refine XS.iload X0.here hx rfl (hb hby d5_28) rfl ?_
      refine XS.i2b X0.here hx rfl (hb hby d5_30) rfl ?_
      refine st_26 _ ?_
      refine XS.iinc X_23.here hx rfl (hb hby d5_32) (x := (0 : Int32)) rfl (l' := #[.val (.ref b), .val (.int (1 : Int32)), .val (.ref t), .val (.int (0 : Int32)), .val (.int (1 : Int32)), .val (.int (0 : Int32)), .val (.int c0)]) rfl ?_
      refine XS.iinc X_23.here hx rfl (hb hby d5_35) (x := (0 : Int32)) rfl (l' := #[.val (.ref b), .val (.int (1 : Int32)), .val (.ref t), .val (.int (1 : Int32)), .val (.int (1 : Int32)), .val (.int (0 : Int32)), .val (.int c0)]) rfl ?_
      show Steps p.tables e below (T_21.setTop (mkF m 38 #[.val (.ref b), .val (.int (1 : Int32)), .val (.ref t), .val (.int (1 : Int32)), .val (.int (1 : Int32)), .val (.int (0 : Int32)), .val (.int c0)] [])) _
      refine XS.iinc X_23.here hx rfl (hb hby d5_38) (x := (0 : Int32)) rfl (l' := #[.val (.ref b), .val (.int (1 : Int32)), .val (.ref t), .val (.int (1 : Int32)), .val (.int (1 : Int32)), .val (.int (1 : Int32)), .val (.int c0)]) rfl ?_
      refine XS.goto X_23.here hx rfl (pc0 := 41) (pc' := 3) rfl (hb hby d5_41) (by decide) (by decide) ?_
      refine XS.iload X_23.here hx rfl (hb hby d5_3) rfl ?_
      refine XS.iload X_23.here hx rfl (hb hby d5_5) rfl ?_
      refine XS.icmpYes X_23.here hx rfl (pc0 := 7) (pc' := 44) rfl (hb hby d5_7) rfl (by decide) (by decide) (by decide) ?_
      refine XS.iload X_23.here hx rfl (hb hby d5_44) rfl ?_
      exact Steps.refl _
    have K_31 : Keep h0 h_22 [t] := ((Keep.refl _ _).wr W_25 (Or.inl (List.mem_of_getElem? (i := 0) rfl)))
    obtain ⟨fs, hr, hrun, hended, hW, hsame⟩ := X_23.leave (v := some (.int (1 : Int32))) (fun h => by rw [Bd.returns] at h; cases h)
    refine ⟨_, _, C_30.trans (retOut X_23 hx Bd.returns rfl (Or.inl ⟨rfl, Or.inl rfl, _, rfl⟩) (hb hby d5_46) hr), hrun, hended, _, _, rfl, ?_, ⟨_, rfl⟩, hW, hsame.mono (by decide) (by decide)⟩
    show Q_cmp5u_1 Z G1 b k t kt c0 h0 n0 (some (.int (1 : Int32))) T_21.heap _
    rw [e_24]
    exact Or.inr (⟨rfl, N_28, K_31, V_29, hc_11⟩)
abbrev M133 : MethodName := ⟨"java/lang/StringUTF16", "compress", "([CII)[B"⟩
theorem ef_134 (m : MethodId) (x0 : Addr) (x1 : Int32) (x2 : Int32) : entryFrame m #[(.ref x0), (.int x1), (.int x2)] 6 = mkF m 0 #[.val (.ref x0), .val (.int x1), .val (.int x2), .unset, .unset, .unset] [] := by first | (simp [entryFrame, mkF, argsToLocals, Value.category]; done) | rfl
theorem d6_0 : decode jdk_52_method_16_code 0 = .ok (.iload_n 2, 1) := by decide +kernel
theorem d6_1 : decode jdk_52_method_16_code 1 = .ok (.newarray .byte, 2) := by decide +kernel
theorem d6_3 : decode jdk_52_method_16_code 3 = .ok (.astore_n 3, 1) := by decide +kernel
theorem d6_4 : decode jdk_52_method_16_code 4 = .ok (.aload_n 0, 1) := by decide +kernel
theorem d6_5 : decode jdk_52_method_16_code 5 = .ok (.iload_n 1, 1) := by decide +kernel
theorem d6_6 : decode jdk_52_method_16_code 6 = .ok (.aload_n 3, 1) := by decide +kernel
theorem d6_7 : decode jdk_52_method_16_code 7 = .ok (.iconst 0, 1) := by decide +kernel
theorem d6_8 : decode jdk_52_method_16_code 8 = .ok (.iload_n 2, 1) := by decide +kernel
theorem w27 {Z : State} {a0 : Array Value} (hw : ∀ d ∈ tables_1, d.before a0 Z = true) : Jvm.Cond.before (Jvm.Cond.code ({ cls := "java/lang/StringUTF16", name := "compress", desc := "([CI[BII)I" } : Jvm.MethodName) jdk_52_method_21_code (7 : Nat) (Option.some Jvm.ClassFile.FieldType.int)) a0 Z = true := hw _ (List.mem_of_getElem? (i := 27) rfl)
theorem pd_144 : parseMethodDescriptor "([CI[BII)I" = some ⟨[(.array .char), .int, (.array .byte), .int, .int], some .int⟩ := by decide +kernel
theorem d6_9 : decode jdk_52_method_16_code 9 = .ok (.invokestatic 115, 3) := by decide +kernel
theorem w25 {Z : State} {a0 : Array Value} (hw : ∀ d ∈ tables_1, d.before a0 Z = true) : Jvm.Cond.before (Jvm.Cond.methodLink "java/lang/StringUTF16" (115 : Nat) ({ cls := "java/lang/StringUTF16", name := "compress", desc := "([CI[BII)I" } : Jvm.MethodName)) a0 Z = true := hw _ (List.mem_of_getElem? (i := 25) rfl)
theorem w26 {Z : State} {a0 : Array Value} (hw : ∀ d ∈ tables_1, d.before a0 Z = true) : Jvm.Cond.before (Jvm.Cond.static ({ cls := "java/lang/StringUTF16", name := "compress", desc := "([CI[BII)I" } : Jvm.MethodName)) a0 Z = true := hw _ (List.mem_of_getElem? (i := 26) rfl)
theorem d6_12 : decode jdk_52_method_16_code 12 = .ok (.istore 4, 2) := by decide +kernel
theorem d6_14 : decode jdk_52_method_16_code 14 = .ok (.iload 4, 2) := by decide +kernel
theorem d6_16 : decode jdk_52_method_16_code 16 = .ok (.iload_n 2, 1) := by decide +kernel
theorem d6_17 : decode jdk_52_method_16_code 17 = .ok (.if_icmp .eq 40, 3) := by decide +kernel
theorem d6_20 : decode jdk_52_method_16_code 20 = .ok (.aload_n 0, 1) := by decide +kernel
theorem d6_21 : decode jdk_52_method_16_code 21 = .ok (.iload_n 1, 1) := by decide +kernel
theorem d6_22 : decode jdk_52_method_16_code 22 = .ok (.iload_n 2, 1) := by decide +kernel
theorem w70 {Z : State} {a0 : Array Value} (hw : ∀ d ∈ tables_1, d.before a0 Z = true) : Jvm.Cond.before (Jvm.Cond.code ({ cls := "java/lang/StringUTF16", name := "toBytes", desc := "([CII)[B" } : Jvm.MethodName) jdk_52_method_14_code (5 : Nat) (Option.some (Jvm.ClassFile.FieldType.array Jvm.ClassFile.FieldType.byte))) a0 Z = true := hw _ (List.mem_of_getElem? (i := 70) rfl)
theorem pd_156 : parseMethodDescriptor "([CII)[B" = some ⟨[(.array .char), .int, .int], some (.array .byte)⟩ := by decide +kernel
theorem d6_23 : decode jdk_52_method_16_code 23 = .ok (.invokestatic 119, 3) := by decide +kernel
theorem w68 {Z : State} {a0 : Array Value} (hw : ∀ d ∈ tables_1, d.before a0 Z = true) : Jvm.Cond.before (Jvm.Cond.methodLink "java/lang/StringUTF16" (119 : Nat) ({ cls := "java/lang/StringUTF16", name := "toBytes", desc := "([CII)[B" } : Jvm.MethodName)) a0 Z = true := hw _ (List.mem_of_getElem? (i := 68) rfl)
theorem w69 {Z : State} {a0 : Array Value} (hw : ∀ d ∈ tables_1, d.before a0 Z = true) : Jvm.Cond.before (Jvm.Cond.static ({ cls := "java/lang/StringUTF16", name := "toBytes", desc := "([CII)[B" } : Jvm.MethodName)) a0 Z = true := hw _ (List.mem_of_getElem? (i := 69) rfl)
theorem d6_26 : decode jdk_52_method_16_code 26 = .ok (.astore 5, 2) := by decide +kernel
theorem d6_28 : decode jdk_52_method_16_code 28 = .ok (.aload 5, 2) := by decide +kernel
theorem d6_30 : decode jdk_52_method_16_code 30 = .ok (.iload 4, 2) := by decide +kernel
theorem w86 {Z : State} {a0 : Array Value} (hw : ∀ d ∈ tables_1, d.before a0 Z = true) : Jvm.Cond.before (Jvm.Cond.code ({ cls := "java/lang/StringUTF16", name := "getChar", desc := "([BI)C" } : Jvm.MethodName) jdk_52_method_5_code (2 : Nat) (Option.some Jvm.ClassFile.FieldType.char)) a0 Z = true := hw _ (List.mem_of_getElem? (i := 86) rfl)
theorem pd_164 : parseMethodDescriptor "([BI)C" = some ⟨[(.array .byte), .int], some .char⟩ := by decide +kernel
theorem d6_32 : decode jdk_52_method_16_code 32 = .ok (.invokestatic 71, 3) := by decide +kernel
theorem w84 {Z : State} {a0 : Array Value} (hw : ∀ d ∈ tables_1, d.before a0 Z = true) : Jvm.Cond.before (Jvm.Cond.methodLink "java/lang/StringUTF16" (71 : Nat) ({ cls := "java/lang/StringUTF16", name := "getChar", desc := "([BI)C" } : Jvm.MethodName)) a0 Z = true := hw _ (List.mem_of_getElem? (i := 84) rfl)
theorem w85 {Z : State} {a0 : Array Value} (hw : ∀ d ∈ tables_1, d.before a0 Z = true) : Jvm.Cond.before (Jvm.Cond.static ({ cls := "java/lang/StringUTF16", name := "getChar", desc := "([BI)C" } : Jvm.MethodName)) a0 Z = true := hw _ (List.mem_of_getElem? (i := 85) rfl)
theorem d6_35 : decode jdk_52_method_16_code 35 = .ok (.sipush 255, 3) := by decide +kernel
theorem d6_38 : decode jdk_52_method_16_code 38 = .ok (.if_icmp .gt 16, 3) := by decide +kernel
theorem d6_54 : decode jdk_52_method_16_code 54 = .ok (.aload 5, 2) := by decide +kernel
theorem d6_56 : decode jdk_52_method_16_code 56 = .ok (.areturn, 1) := by decide +kernel
theorem d6_57 : decode jdk_52_method_16_code 57 = .ok (.aload_n 3, 1) := by decide +kernel
theorem d6_58 : decode jdk_52_method_16_code 58 = .ok (.areturn, 1) := by decide +kernel
abbrev R_cmp3u_1 : Room := { frames := 3, cells := 2, slots := 3, locals := 40 }
def Q_cmp3u_1 (Z : State) (G1 : Int32) (b : Addr) (k : ClassId) (c0 : Int32) (h0 : Heap) (n0 : Nat) (v : Option Value) (h : Heap) (L : List Loc) : Prop := (∃ t : Addr, ∃ kt : ClassId, v = some (.ref t) ∧ Fr n0 L ∧ Keep h0 h [] ∧ (h0.size ≤ t) ∧ (Arv Z h t kt .byte (1 : Int32) [(.int (own_lo8 c0))] (.int (0 : Int32)))) ∨ (∃ t : Addr, ∃ kt : ClassId, v = some (.ref t) ∧ Fr n0 L ∧ Keep h0 h [] ∧ (h0.size ≤ t) ∧ (Arv Z h t kt .byte (2 : Int32) [(.int (own_lo8z c0)), (.int (own_hi8 c0))] (.int (0 : Int32))))
set_option maxRecDepth 65536 in
set_option maxHeartbeats 40000000 in
theorem rm_cmp3u_1 (l : Launch) (Z : State) (a0 : Array Value) (hw : ∀ d ∈ tables_1, d.before a0 Z = true) (ws : List Jvm.Cond) (G1 : Int32) (HG : own_G l Z a0 G1) (h0 : Heap) (n0 : Nat) (X00 : Old Z n0 h0) (b : Addr) (k : ClassId) (c0 : Int32) (hp0 : Arv Z h0 b k .char (1 : Int32) [(.int c0)] (.int (0 : Int32))) (hl0 : ¬ (c0 < (0 : Int32))) (hm0 : ¬ ((65535 : Int32) < c0)) :
    own_CP l Z M133 jdk_52_method_16_code 6 (some (.array .byte)) ws R_cmp3u_1 #[(.ref b), (.int (0 : Int32)), (.int (1 : Int32))] h0 (Q_cmp3u_1 Z G1 b k c0 h0 n0) := by
  refine own_P (plainFor_of_name pn_2) ?_
  intro p e s m below meth c s₁ S0 Bd hZ hh hx hby hml hown hnm X0 e0 hS0d
  obtain ⟨O1, P1, OAD, OHI, OLO⟩ := id HG
  have N0 := Fr.nil n0
  have C0 : Steps p.tables e below S0 (s₁.setTop (mkF m 0 #[.val (.ref b), .val (.int (0 : Int32)), .val (.int (1 : Int32)), .unset, .unset, .unset] [])) := by rw [hS0d]; exact castTop (ef_134 m b (0 : Int32) (1 : Int32)) (Steps.refl _)
  obtain ⟨T_1, h_2, k_3, X_4, e_5, E_6, A_7, st_8⟩ := newP (aty := .byte) X0 hx hZ (w24 hw) e0 (g := (mkF m 1 #[.val (.ref b), .val (.int (0 : Int32)), .val (.int (1 : Int32)), .unset, .unset, .unset] [(.int (1 : Int32))])) rfl (hb hby d6_1) rfl (by decide : ¬ ((1 : Int32) < (0 : Int32))) (cap := 1) (by decide : (1 : Int32).toNatClampNeg ≤ 1) (by decide) (by decide) (by decide)
  obtain ⟨a_9, g_10⟩ : ∃ z, z = h0.size := ⟨_, rfl⟩
  rw [← g_10] at A_7 st_8
  have V_12 : Arv Z h_2 a_9 k_3 .byte (1 : Int32) [] (.int (0 : Int32)) := Arv.new A_7 (by decide : ¬ ((1 : Int32) < (0 : Int32)))
  have V_11 : Arv Z h_2 a_9 k_3 .byte (1 : Int32) [(.int (0 : Int32))] (.int (0 : Int32)) := (V_12.pad (pad_rep [] (.int (0 : Int32)) 1))
  have V_13 : Arv Z h_2 b k .char (1 : Int32) [(.int c0)] (.int (0 : Int32)) := (hp0.ext E_6)
  have O_14 : Old Z n0 h_2 := (X00.ext E_6)
  obtain ⟨_, _, ⟨T_15, L_15, k_15, n_15⟩, -, X_15, ⟨Lc_15, hQ_15, l_15, y_15, z_15⟩, st_15⟩ := Jvm.LawKit.callS X_4 hx (y := M106) hown (mvT hZ (w25 hw)) (mvT hZ (w26 hw)) (mvT hZ (w22 hw)) (mvT hZ (w27 hw)) (by decide) (backOf (W := 0) (rm_cmp5u_1 l Z a0 hw [] G1 HG h_2 n0 O_14 b k a_9 k_3 c0 V_13 V_11 (Nat.le_trans (own_n0 X00) (Nat.le_of_eq g_10.symm)) (Nat.ne_of_lt (Nat.lt_of_lt_of_le hp0.lt (Nat.le_trans (Nat.le_refl _) (Nat.le_of_eq g_10.symm))))) hZ (w27 hw) (w22 hw) (by decide) (by decide)) (g := (mkF m 9 #[.val (.ref b), .val (.int (0 : Int32)), .val (.int (1 : Int32)), .val (.ref a_9), .unset, .unset] [(.int (1 : Int32)), (.int (0 : Int32)), (.ref a_9), (.int (0 : Int32)), (.ref b)])) rfl (by rw [hml]; rfl) (argsL := [(.ref b), (.int (0 : Int32)), (.ref a_9), (.int (0 : Int32)), (.int (1 : Int32))]) (rest := []) (lenOf pd_144 rfl) rfl (by show 2 * 0 + _ ≤ _; exact Nat.le_of_eq rfl) (hb hby d6_9) (fun _ _ => ⟨rfl, e_5, (by decide : 1 + 0 ≤ _), (by decide : 1 + 0 ≤ _)⟩)
  dsimp only [Pt.U, Pt.locs, Pt.cells, Pt.slots] at X_15 l_15 y_15 z_15 st_15 hQ_15
  subst l_15 y_15 z_15
  have C_16 : Steps p.tables e below S0 (T_1.setTop (mkF m 9 #[.val (.ref b), .val (.int (0 : Int32)), .val (.int (1 : Int32)), .val (.ref a_9), .unset, .unset] [(.int (1 : Int32)), (.int (0 : Int32)), (.ref a_9), (.int (0 : Int32)), (.ref b)])) := by
    refine C0.trans ?_
    refine XS.iloadN X0.here hx rfl (hb hby d6_0) rfl ?_
    refine st_8 _ ?_
    refine XS.astoreN X_4.here hx rfl (hb hby d6_3) rfl rfl (l' := #[.val (.ref b), .val (.int (0 : Int32)), .val (.int (1 : Int32)), .val (.ref a_9), .unset, .unset]) rfl ?_
    refine XS.aloadN X_4.here hx rfl (hb hby d6_4) rfl rfl ?_
    refine XS.iloadN X_4.here hx rfl (hb hby d6_5) rfl ?_
    refine XS.aloadN X_4.here hx rfl (hb hby d6_6) rfl rfl ?_
    refine XS.iconst X_4.here hx rfl (hb hby d6_7) ?_
    refine XS.iloadN X_4.here hx rfl (hb hby d6_8) rfl ?_
    show Steps p.tables e below (T_1.setTop (mkF m 9 #[.val (.ref b), .val (.int (0 : Int32)), .val (.int (1 : Int32)), .val (.ref a_9), .unset, .unset] [(.int (1 : Int32)), (.int (0 : Int32)), (.ref a_9), (.int (0 : Int32)), (.ref b)])) _
    exact Steps.refl _
  rcases hQ_15 with hQ_17 | hQ_18
  · skip
    obtain ⟨rfl, N_19, K_20, g_21⟩ := hQ_17
    have N_22 := Fr.app N0 N_19
    have V_23 : Arv Z T_15.heap b k .char (1 : Int32) [(.int c0)] (.int (0 : Int32)) := (V_13.keep K_20 (ninS (Nat.ne_of_lt (Nat.lt_of_lt_of_le hp0.lt (Nat.le_trans (Nat.le_refl _) (Nat.le_of_eq g_10.symm)))) nin0))
    have O_24 : Old Z n0 T_15.heap := (O_14.keep K_20 (allS (Nat.le_trans (own_n0 X00) (Nat.le_of_eq g_10.symm)) all0))
    obtain ⟨_, _, ⟨T_25, L_25, k_25, n_25⟩, -, X_25, ⟨Lc_25, hQ_25, l_25, y_25, z_25⟩, st_25⟩ := Jvm.LawKit.callS X_15 hx (y := M51) hown (mvT hZ (w68 hw)) (mvT hZ (w69 hw)) (mvT hZ (w22 hw)) (mvT hZ (w70 hw)) (by decide) (backOf (W := 0) (rm_tob_1 l Z a0 hw [] G1 HG T_15.heap n0 O_24 b k c0 V_23) hZ (w70 hw) (w22 hw) (by decide) (by decide)) (g := (mkF m 23 #[.val (.ref b), .val (.int (0 : Int32)), .val (.int (1 : Int32)), .val (.ref a_9), .val (.int (0 : Int32)), .unset] [(.int (1 : Int32)), (.int (0 : Int32)), (.ref b)])) rfl (by rw [hml]; rfl) (argsL := [(.ref b), (.int (0 : Int32)), (.int (1 : Int32))]) (rest := []) (lenOf pd_156 rfl) rfl (by show 2 * 0 + _ ≤ _; exact Nat.le_of_eq rfl) (hb hby d6_23) (fun _ _ => ⟨rfl, rfl, (by decide : 1 + 1 ≤ _), (by decide : 1 + 2 ≤ _)⟩)
    dsimp only [Pt.U, Pt.locs, Pt.cells, Pt.slots] at X_25 l_25 y_25 z_25 st_25 hQ_25
    subst l_25 y_25 z_25
    obtain ⟨a_26, k_27, rfl, N_28, K_29, g_30, g_31⟩ := hQ_25
    have N_32 := Fr.app N_22 N_28
    have O_33 : Old Z n0 T_25.heap := (O_24.keep K_29 all0)
    obtain ⟨_, _, ⟨T_34, L_34, k_34, n_34⟩, -, X_34, ⟨Lc_34, hQ_34, l_34, y_34, z_34⟩, st_34⟩ := Jvm.LawKit.callS X_25 hx (y := M80) hown (mvT hZ (w84 hw)) (mvT hZ (w85 hw)) (mvT hZ (w22 hw)) (mvT hZ (w86 hw)) (by decide) (backOf (W := 0) (rm_get_1_0 l Z a0 hw [] G1 HG T_25.heap n0 O_33 a_26 k_27 (own_lo8z c0) (own_hi8 c0) g_31) hZ (w86 hw) (w22 hw) (by decide) (by decide)) (g := (mkF m 32 #[.val (.ref b), .val (.int (0 : Int32)), .val (.int (1 : Int32)), .val (.ref a_9), .val (.int (0 : Int32)), .val (.ref a_26)] [(.int (0 : Int32)), (.ref a_26)])) rfl (by rw [hml]; rfl) (argsL := [(.ref a_26), (.int (0 : Int32))]) (rest := []) (lenOf pd_164 rfl) rfl (by show 2 * 0 + _ ≤ _; exact Nat.le_of_eq rfl) (hb hby d6_32) (fun _ _ => ⟨rfl, rfl, (by decide : 2 + 0 ≤ _), (by decide : 3 + 0 ≤ _)⟩)
    dsimp only [Pt.U, Pt.locs, Pt.cells, Pt.slots] at X_34 l_34 y_34 z_34 st_34 hQ_34
    subst l_34 y_34 z_34
    obtain ⟨rfl, N_35, e_36⟩ := hQ_34
    have N_37 := Fr.app N_32 N_35
    have e_38 : T_34.heap = T_25.heap := e_36
    have C_39 : Steps p.tables e below S0 (T_34.setTop (mkF m 56 #[.val (.ref b), .val (.int (0 : Int32)), .val (.int (1 : Int32)), .val (.ref a_9), .val (.int (0 : Int32)), .val (.ref a_26)] [(.ref a_26)])) := by
      refine C_16.trans ?_
      refine st_15 _ ?_
      refine XS.istore X_15.here hx rfl (hb hby d6_12) rfl (l' := #[.val (.ref b), .val (.int (0 : Int32)), .val (.int (1 : Int32)), .val (.ref a_9), .val (.int (0 : Int32)), .unset]) rfl ?_
      refine XS.iload X_15.here hx rfl (hb hby d6_14) rfl ?_
      refine XS.iloadN X_15.here hx rfl (hb hby d6_16) rfl ?_
      refine XS.icmpNo X_15.here hx rfl (hb hby d6_17) rfl (by decide) ?_
      refine XS.aloadN X_15.here hx rfl (hb hby d6_20) rfl rfl ?_
      refine XS.iloadN X_15.here hx rfl (hb hby d6_21) rfl ?_
      refine XS.iloadN X_15.here hx rfl (hb hby d6_22) rfl ?_
      show Steps p.tables e below (T_15.setTop (mkF m 23 #[.val (.ref b), .val (.int (0 : Int32)), .val (.int (1 : Int32)), .val (.ref a_9), .val (.int (0 : Int32)), .unset] [(.int (1 : Int32)), (.int (0 : Int32)), (.ref b)])) _
      refine st_25 _ ?_
      refine XS.astore X_25.here hx rfl (hb hby d6_26) rfl rfl (l' := #[.val (.ref b), .val (.int (0 : Int32)), .val (.int (1 : Int32)), .val (.ref a_9), .val (.int (0 : Int32)), .val (.ref a_26)]) rfl ?_
      refine XS.aload X_25.here hx rfl (hb hby d6_28) rfl rfl ?_
      refine XS.iload X_25.here hx rfl (hb hby d6_30) rfl ?_
      refine st_34 _ ?_
      refine XS.sipush X_34.here hx rfl (hb hby d6_35) ?_
      refine XS.icmpYes X_34.here hx rfl (pc0 := 38) (pc' := 54) rfl (hb hby d6_38) rfl (ii_gt_t (by rw [own_pair_says hl0 hm0]; exact g_21)) (by decide) (by decide) ?_
      refine XS.aload X_34.here hx rfl (hb hby d6_54) rfl rfl ?_
      show Steps p.tables e below (T_34.setTop (mkF m 56 #[.val (.ref b), .val (.int (0 : Int32)), .val (.int (1 : Int32)), .val (.ref a_9), .val (.int (0 : Int32)), .val (.ref a_26)] [(.ref a_26)])) _
      exact Steps.refl _
    have K_40 : Keep h0 T_25.heap [] := ((((Keep.refl _ _).ext E_6).trans K_20 (allS (Or.inr (Nat.le_trans (Nat.le_refl _) (Nat.le_of_eq g_10.symm))) all0)).trans K_29 all0)
    obtain ⟨fs, hr, hrun, hended, hW, hsame⟩ := X_34.leave (v := some (.ref a_26)) (fun h => by rw [Bd.returns] at h; cases h)
    refine ⟨_, _, C_39.trans (retOut X_34 hx Bd.returns rfl (Or.inr (Or.inr (Or.inr (Or.inr ⟨rfl, rfl, rfl⟩)))) (hb hby d6_56) hr), hrun, hended, _, _, rfl, ?_, ⟨_, rfl⟩, hW, hsame.mono (by decide) (by decide)⟩
    show Q_cmp3u_1 Z G1 b k c0 h0 n0 (some (.ref a_26)) T_34.heap _
    rw [e_38]
    exact Or.inr (⟨a_26, k_27, rfl, N_37, K_40, (Nat.le_trans (Nat.le_trans E_6.1 K_20.1) g_30), g_31⟩)
  · skip
    obtain ⟨rfl, N_41, K_42, g_43, g_44⟩ := hQ_18
    have N_45 := Fr.app N0 N_41
    have C_46 : Steps p.tables e below S0 (T_15.setTop (mkF m 58 #[.val (.ref b), .val (.int (0 : Int32)), .val (.int (1 : Int32)), .val (.ref a_9), .val (.int (1 : Int32)), .unset] [(.ref a_9)])) := by
      refine C_16.trans ?_
      refine st_15 _ ?_
      refine XS.istore X_15.here hx rfl (hb hby d6_12) rfl (l' := #[.val (.ref b), .val (.int (0 : Int32)), .val (.int (1 : Int32)), .val (.ref a_9), .val (.int (1 : Int32)), .unset]) rfl ?_
      refine XS.iload X_15.here hx rfl (hb hby d6_14) rfl ?_
      refine XS.iloadN X_15.here hx rfl (hb hby d6_16) rfl ?_
      refine XS.icmpYes X_15.here hx rfl (pc0 := 17) (pc' := 57) rfl (hb hby d6_17) rfl (by decide) (by decide) (by decide) ?_
      refine XS.aloadN X_15.here hx rfl (hb hby d6_57) rfl rfl ?_
      exact Steps.refl _
    have K_47 : Keep h0 T_15.heap [] := (((Keep.refl _ _).ext E_6).trans K_42 (allS (Or.inr (Nat.le_trans (Nat.le_refl _) (Nat.le_of_eq g_10.symm))) all0))
    obtain ⟨fs, hr, hrun, hended, hW, hsame⟩ := X_15.leave (v := some (.ref a_9)) (fun h => by rw [Bd.returns] at h; cases h)
    refine ⟨_, _, C_46.trans (retOut X_15 hx Bd.returns rfl (Or.inr (Or.inr (Or.inr (Or.inr ⟨rfl, rfl, rfl⟩)))) (hb hby d6_58) hr), hrun, hended, _, _, rfl, ?_, ⟨_, rfl⟩, hW, hsame.mono (by decide) (by decide)⟩
    show Q_cmp3u_1 Z G1 b k c0 h0 n0 (some (.ref a_9)) T_15.heap _
    exact Or.inl ⟨a_9, k_3, rfl, N_45, K_47, (Nat.le_trans (Nat.le_refl _) (Nat.le_of_eq g_10.symm)), g_43⟩
abbrev M174 : MethodName := ⟨"java/lang/StringUTF16", "coderFromArrayLen", "([BI)B"⟩
theorem d7_0 : decode jdk_52_method_15_code 0 = .ok (.iload_n 1, 1) := by decide +kernel
theorem d7_1 : decode jdk_52_method_15_code 1 = .ok (.aload_n 0, 1) := by decide +kernel
theorem d7_2 : decode jdk_52_method_15_code 2 = .ok (.arraylength, 1) := by decide +kernel
theorem d7_3 : decode jdk_52_method_15_code 3 = .ok (.isub, 1) := by decide +kernel
theorem d7_4 : decode jdk_52_method_15_code 4 = .ok (.bipush 31, 2) := by decide +kernel
theorem d7_6 : decode jdk_52_method_15_code 6 = .ok (.iushr, 1) := by decide +kernel
theorem d7_7 : decode jdk_52_method_15_code 7 = .ok (.i2b, 1) := by decide +kernel
theorem d7_8 : decode jdk_52_method_15_code 8 = .ok (.ireturn, 1) := by decide +kernel
abbrev R_codl_1 : Room := { frames := 0, cells := 0, slots := 0, locals := 0 }
def Q_codl_1 (Z : State) (G1 : Int32) (t : Addr) (kt : ClassId) (y0 : Int32) (h0 : Heap) (n0 : Nat) (v : Option Value) (h : Heap) (L : List Loc) : Prop := (v = some (.int (0 : Int32)) ∧ Fr n0 L ∧ h = h0)
set_option maxRecDepth 65536 in
set_option maxHeartbeats 40000000 in
theorem rm_codl_1 (l : Launch) (Z : State) (a0 : Array Value) (hw : ∀ d ∈ tables_1, d.before a0 Z = true) (ws : List Jvm.Cond) (G1 : Int32) (HG : own_G l Z a0 G1) (h0 : Heap) (n0 : Nat) (X00 : Old Z n0 h0) (t : Addr) (kt : ClassId) (y0 : Int32) (hp0 : Arv Z h0 t kt .byte (1 : Int32) [(.int y0)] (.int (0 : Int32))) :
    own_CP l Z M174 jdk_52_method_15_code 2 (some .byte) ws R_codl_1 #[(.ref t), (.int (1 : Int32))] h0 (Q_codl_1 Z G1 t kt y0 h0 n0) := by
  refine own_P (plainFor_of_name pn_2) ?_
  intro p e s m below meth c s₁ S0 Bd hZ hh hx hby hml hown hnm X0 e0 hS0d
  obtain ⟨O1, P1, OAD, OHI, OLO⟩ := id HG
  have N0 := Fr.nil n0
  have C0 : Steps p.tables e below S0 (s₁.setTop (mkF m 0 #[.val (.ref t), .val (.int (1 : Int32))] [])) := by rw [hS0d]; exact castTop (ef_81 m t (1 : Int32)) (Steps.refl _)
  obtain ⟨c_1, A_2, q_3, S_4, M_5, H_6, U_7⟩ := id hp0
  have C_8 : Steps p.tables e below S0 (s₁.setTop (mkF m 8 #[.val (.ref t), .val (.int (1 : Int32))] [(.int (0 : Int32))])) := by
    refine C0.trans ?_
    refine XS.iloadN X0.here hx rfl (hb hby d7_0) rfl ?_
    refine XS.aloadN X0.here hx rfl (hb hby d7_1) rfl rfl ?_
    refine X0.arraylength hx (by rw [e0]; exact A_2.1) (State.isArrayOf_alike hZ.alike A_2.2.1) (g := (mkF m 2 #[.val (.ref t), .val (.int (1 : Int32))] [(.ref t), (.int (1 : Int32))])) rfl rfl (hb hby d7_2) _ ?_
    rw [len_of S_4 M_5]
    refine XS.isub X0.here hx rfl (hb hby d7_3) rfl ?_
    refine XS.bipush X0.here hx rfl (hb hby d7_4) ?_
    refine XS.iushr X0.here hx rfl (hb hby d7_6) rfl ?_
    refine XS.i2b X0.here hx rfl (hb hby d7_7) rfl ?_
    exact Steps.refl _
  obtain ⟨fs, hr, hrun, hended, hW, hsame⟩ := X0.leave (v := some (.int (0 : Int32))) (fun h => by rw [Bd.returns] at h; cases h)
  refine ⟨_, _, C_8.trans (retN X0 hx (t := .byte) Bd.returns (by simp) (hb hby d7_8) hr), hrun, hended, _, _, rfl, ?_, ⟨_, rfl⟩, hW, hsame.mono (by decide) (by decide)⟩
  show Q_codl_1 Z G1 t kt y0 h0 n0 (some (.int (0 : Int32))) s₁.heap _
  rw [e0]
  exact ⟨rfl, N0, rfl⟩
abbrev R_codu_1 : Room := { frames := 0, cells := 0, slots := 0, locals := 0 }
def Q_codu_1 (Z : State) (G1 : Int32) (t : Addr) (kt : ClassId) (y0 : Int32) (y1 : Int32) (h0 : Heap) (n0 : Nat) (v : Option Value) (h : Heap) (L : List Loc) : Prop := (v = some (.int (1 : Int32)) ∧ Fr n0 L ∧ h = h0)
set_option maxRecDepth 65536 in
set_option maxHeartbeats 40000000 in
theorem rm_codu_1 (l : Launch) (Z : State) (a0 : Array Value) (hw : ∀ d ∈ tables_1, d.before a0 Z = true) (ws : List Jvm.Cond) (G1 : Int32) (HG : own_G l Z a0 G1) (h0 : Heap) (n0 : Nat) (X00 : Old Z n0 h0) (t : Addr) (kt : ClassId) (y0 : Int32) (y1 : Int32) (hp0 : Arv Z h0 t kt .byte (2 : Int32) [(.int y0), (.int y1)] (.int (0 : Int32))) :
    own_CP l Z M174 jdk_52_method_15_code 2 (some .byte) ws R_codu_1 #[(.ref t), (.int (1 : Int32))] h0 (Q_codu_1 Z G1 t kt y0 y1 h0 n0) := by
  refine own_P (plainFor_of_name pn_2) ?_
  intro p e s m below meth c s₁ S0 Bd hZ hh hx hby hml hown hnm X0 e0 hS0d
  obtain ⟨O1, P1, OAD, OHI, OLO⟩ := id HG
  have N0 := Fr.nil n0
  have C0 : Steps p.tables e below S0 (s₁.setTop (mkF m 0 #[.val (.ref t), .val (.int (1 : Int32))] [])) := by rw [hS0d]; exact castTop (ef_81 m t (1 : Int32)) (Steps.refl _)
  obtain ⟨c_1, A_2, q_3, S_4, M_5, H_6, U_7⟩ := id hp0
  have C_8 : Steps p.tables e below S0 (s₁.setTop (mkF m 8 #[.val (.ref t), .val (.int (1 : Int32))] [(.int (1 : Int32))])) := by
    refine C0.trans ?_
    refine XS.iloadN X0.here hx rfl (hb hby d7_0) rfl ?_
    refine XS.aloadN X0.here hx rfl (hb hby d7_1) rfl rfl ?_
    refine X0.arraylength hx (by rw [e0]; exact A_2.1) (State.isArrayOf_alike hZ.alike A_2.2.1) (g := (mkF m 2 #[.val (.ref t), .val (.int (1 : Int32))] [(.ref t), (.int (1 : Int32))])) rfl rfl (hb hby d7_2) _ ?_
    rw [len_of S_4 M_5]
    refine XS.isub X0.here hx rfl (hb hby d7_3) rfl ?_
    refine XS.bipush X0.here hx rfl (hb hby d7_4) ?_
    refine XS.iushr X0.here hx rfl (hb hby d7_6) rfl ?_
    refine XS.i2b X0.here hx rfl (hb hby d7_7) rfl ?_
    exact Steps.refl _
  obtain ⟨fs, hr, hrun, hended, hW, hsame⟩ := X0.leave (v := some (.int (1 : Int32))) (fun h => by rw [Bd.returns] at h; cases h)
  refine ⟨_, _, C_8.trans (retN X0 hx (t := .byte) Bd.returns (by simp) (hb hby d7_8) hr), hrun, hended, _, _, rfl, ?_, ⟨_, rfl⟩, hW, hsame.mono (by decide) (by decide)⟩
  show Q_codu_1 Z G1 t kt y0 y1 h0 n0 (some (.int (1 : Int32))) s₁.heap _
  rw [e0]
  exact ⟨rfl, N0, rfl⟩
abbrev M183 : MethodName := ⟨"java/lang/String", "<init>", "([CIILjava/lang/Void;)V"⟩
theorem ef_184 (m : MethodId) (x0 : Addr) (x1 : Addr) (x2 : Int32) (x3 : Int32) : entryFrame m #[(.ref x0), (.ref x1), (.int x2), (.int x3), .null] 6 = mkF m 0 #[.val (.ref x0), .val (.ref x1), .val (.int x2), .val (.int x3), .val .null, .unset] [] := by first | (simp [entryFrame, mkF, argsToLocals, Value.category]; done) | rfl
theorem pn_185 : plainName "java/lang/String" = true := by first | (simp [plainName, overriddenIn]; done) | decide +kernel
theorem d8_0 : decode jdk_42_method_149_code 0 = .ok (.aload_n 0, 1) := by decide +kernel
theorem w16 {Z : State} {a0 : Array Value} (hw : ∀ d ∈ tables_1, d.before a0 Z = true) : Jvm.Cond.before (Jvm.Cond.methodLink "java/lang/String" (1 : Nat) ({ cls := "java/lang/Object", name := "<init>", desc := "()V" } : Jvm.MethodName)) a0 Z = true := hw _ (List.mem_of_getElem? (i := 16) rfl)
theorem w17 {Z : State} {a0 : Array Value} (hw : ∀ d ∈ tables_1, d.before a0 Z = true) : Jvm.Cond.before (Jvm.Cond.instanceMethod ({ cls := "java/lang/Object", name := "<init>", desc := "()V" } : Jvm.MethodName)) a0 Z = true := hw _ (List.mem_of_getElem? (i := 17) rfl)
theorem w18 {Z : State} {a0 : Array Value} (hw : ∀ d ∈ tables_1, d.before a0 Z = true) : Jvm.Cond.before (Jvm.Cond.code ({ cls := "java/lang/Object", name := "<init>", desc := "()V" } : Jvm.MethodName) object_method_1_code (1 : Nat) (Option.none : Option Jvm.ClassFile.FieldType)) a0 Z = true := hw _ (List.mem_of_getElem? (i := 18) rfl)
theorem d8_1 : decode jdk_42_method_149_code 1 = .ok (.invokespecial 1, 3) := by decide +kernel
theorem d8_4 : decode jdk_42_method_149_code 4 = .ok (.iload_n 3, 1) := by decide +kernel
theorem d8_5 : decode jdk_42_method_149_code 5 = .ok (.ifCond .ne 22, 3) := by decide +kernel
theorem w19 {Z : State} {a0 : Array Value} (hw : ∀ d ∈ tables_1, d.before a0 Z = true) : Jvm.Cond.before (Jvm.Cond.fieldLink "java/lang/String" (38 : Nat) "java/lang/String" "COMPACT_STRINGS" "Z") a0 Z = true := hw _ (List.mem_of_getElem? (i := 19) rfl)
theorem d8_27 : decode jdk_42_method_149_code 27 = .ok (.getstatic 38, 3) := by decide +kernel
theorem d8_30 : decode jdk_42_method_149_code 30 = .ok (.ifCond .eq 28, 3) := by decide +kernel
theorem d8_33 : decode jdk_42_method_149_code 33 = .ok (.aload_n 1, 1) := by decide +kernel
theorem d8_34 : decode jdk_42_method_149_code 34 = .ok (.iload_n 2, 1) := by decide +kernel
theorem d8_35 : decode jdk_42_method_149_code 35 = .ok (.iload_n 3, 1) := by decide +kernel
theorem w23 {Z : State} {a0 : Array Value} (hw : ∀ d ∈ tables_1, d.before a0 Z = true) : Jvm.Cond.before (Jvm.Cond.code ({ cls := "java/lang/StringUTF16", name := "compress", desc := "([CII)[B" } : Jvm.MethodName) jdk_52_method_16_code (6 : Nat) (Option.some (Jvm.ClassFile.FieldType.array Jvm.ClassFile.FieldType.byte))) a0 Z = true := hw _ (List.mem_of_getElem? (i := 23) rfl)
theorem d8_36 : decode jdk_42_method_149_code 36 = .ok (.invokestatic 177, 3) := by decide +kernel
theorem w20 {Z : State} {a0 : Array Value} (hw : ∀ d ∈ tables_1, d.before a0 Z = true) : Jvm.Cond.before (Jvm.Cond.methodLink "java/lang/String" (177 : Nat) ({ cls := "java/lang/StringUTF16", name := "compress", desc := "([CII)[B" } : Jvm.MethodName)) a0 Z = true := hw _ (List.mem_of_getElem? (i := 20) rfl)
theorem w21 {Z : State} {a0 : Array Value} (hw : ∀ d ∈ tables_1, d.before a0 Z = true) : Jvm.Cond.before (Jvm.Cond.static ({ cls := "java/lang/StringUTF16", name := "compress", desc := "([CII)[B" } : Jvm.MethodName)) a0 Z = true := hw _ (List.mem_of_getElem? (i := 21) rfl)
theorem d8_39 : decode jdk_42_method_149_code 39 = .ok (.astore 5, 2) := by decide +kernel
theorem d8_41 : decode jdk_42_method_149_code 41 = .ok (.aload_n 0, 1) := by decide +kernel
theorem d8_42 : decode jdk_42_method_149_code 42 = .ok (.aload 5, 2) := by decide +kernel
theorem d8_44 : decode jdk_42_method_149_code 44 = .ok (.iload_n 3, 1) := by decide +kernel
theorem w30 {Z : State} {a0 : Array Value} (hw : ∀ d ∈ tables_1, d.before a0 Z = true) : Jvm.Cond.before (Jvm.Cond.code ({ cls := "java/lang/StringUTF16", name := "coderFromArrayLen", desc := "([BI)B" } : Jvm.MethodName) jdk_52_method_15_code (2 : Nat) (Option.some Jvm.ClassFile.FieldType.byte)) a0 Z = true := hw _ (List.mem_of_getElem? (i := 30) rfl)
theorem pd_208 : parseMethodDescriptor "([BI)B" = some ⟨[(.array .byte), .int], some .byte⟩ := by decide +kernel
theorem d8_45 : decode jdk_42_method_149_code 45 = .ok (.invokestatic 47, 3) := by decide +kernel
theorem w28 {Z : State} {a0 : Array Value} (hw : ∀ d ∈ tables_1, d.before a0 Z = true) : Jvm.Cond.before (Jvm.Cond.methodLink "java/lang/String" (47 : Nat) ({ cls := "java/lang/StringUTF16", name := "coderFromArrayLen", desc := "([BI)B" } : Jvm.MethodName)) a0 Z = true := hw _ (List.mem_of_getElem? (i := 28) rfl)
theorem w29 {Z : State} {a0 : Array Value} (hw : ∀ d ∈ tables_1, d.before a0 Z = true) : Jvm.Cond.before (Jvm.Cond.static ({ cls := "java/lang/StringUTF16", name := "coderFromArrayLen", desc := "([BI)B" } : Jvm.MethodName)) a0 Z = true := hw _ (List.mem_of_getElem? (i := 29) rfl)
theorem w31 {Z : State} {a0 : Array Value} (hw : ∀ d ∈ tables_1, d.before a0 Z = true) : Jvm.Cond.before (Jvm.Cond.fieldLink "java/lang/String" (15 : Nat) "java/lang/String" "coder" "B") a0 Z = true := hw _ (List.mem_of_getElem? (i := 31) rfl)
theorem w32 {Z : State} {a0 : Array Value} (hw : ∀ d ∈ tables_1, d.before a0 Z = true) : Jvm.Cond.before (Jvm.Cond.laysFinal "java/lang/String" "java/lang/String" "coder" "B") a0 Z = true := hw _ (List.mem_of_getElem? (i := 32) rfl)
theorem w6 {Z : State} {a0 : Array Value} (hw : ∀ d ∈ tables_1, d.before a0 Z = true) : Jvm.Cond.before (Jvm.Cond.instantiable "java/lang/String" (4 : Nat)) a0 Z = true := hw _ (List.mem_of_getElem? (i := 6) rfl)
theorem d8_48 : decode jdk_42_method_149_code 48 = .ok (.putfield 15, 3) := by decide +kernel
theorem d8_51 : decode jdk_42_method_149_code 51 = .ok (.aload_n 0, 1) := by decide +kernel
theorem d8_52 : decode jdk_42_method_149_code 52 = .ok (.aload 5, 2) := by decide +kernel
theorem w33 {Z : State} {a0 : Array Value} (hw : ∀ d ∈ tables_1, d.before a0 Z = true) : Jvm.Cond.before (Jvm.Cond.fieldLink "java/lang/String" (9 : Nat) "java/lang/String" "value" "[B") a0 Z = true := hw _ (List.mem_of_getElem? (i := 33) rfl)
theorem w34 {Z : State} {a0 : Array Value} (hw : ∀ d ∈ tables_1, d.before a0 Z = true) : Jvm.Cond.before (Jvm.Cond.laysFinal "java/lang/String" "java/lang/String" "value" "[B") a0 Z = true := hw _ (List.mem_of_getElem? (i := 34) rfl)
theorem d8_54 : decode jdk_42_method_149_code 54 = .ok (.putfield 9, 3) := by decide +kernel
theorem d8_57 : decode jdk_42_method_149_code 57 = .ok (.return_, 1) := by decide +kernel
abbrev R_si4u_1 : Room := { frames := 4, cells := 2, slots := 3, locals := 57 }
def Q_si4u_1 (Z : State) (G1 : Int32) (x : Addr) (b : Addr) (k : ClassId) (c0 : Int32) (h0 : Heap) (n0 : Nat) (v : Option Value) (h : Heap) (L : List Loc) : Prop := (∃ t : Addr, ∃ kt : ClassId, v = none ∧ Fr n0 L ∧ Keep h0 h [x] ∧ (Exa Z h x "java/lang/String") ∧ (Fld Z h x "java/lang/String" "coder" "B" (.int (0 : Int32))) ∧ (Fld Z h x "java/lang/String" "value" "[B" (.ref t)) ∧ (h0.size ≤ t) ∧ (Arv Z h t kt .byte (1 : Int32) [(.int (own_lo8 c0))] (.int (0 : Int32)))) ∨ (∃ t : Addr, ∃ kt : ClassId, v = none ∧ Fr n0 L ∧ Keep h0 h [x] ∧ (Exa Z h x "java/lang/String") ∧ (Fld Z h x "java/lang/String" "coder" "B" (.int (1 : Int32))) ∧ (Fld Z h x "java/lang/String" "value" "[B" (.ref t)) ∧ (h0.size ≤ t) ∧ (Arv Z h t kt .byte (2 : Int32) [(.int (own_lo8z c0)), (.int (own_hi8 c0))] (.int (0 : Int32))))
set_option maxRecDepth 65536 in
set_option maxHeartbeats 40000000 in
theorem rm_si4u_1 (l : Launch) (Z : State) (a0 : Array Value) (hw : ∀ d ∈ tables_1, d.before a0 Z = true) (ws : List Jvm.Cond) (G1 : Int32) (HG : own_G l Z a0 G1) (h0 : Heap) (n0 : Nat) (X00 : Old Z n0 h0) (x : Addr) (b : Addr) (k : ClassId) (c0 : Int32) (hp0 : Exa Z h0 x "java/lang/String") (hp1 : Fld Z h0 x "java/lang/String" "value" "[B" .null) (hp2 : Fld Z h0 x "java/lang/String" "coder" "B" (.int (0 : Int32))) (hp3 : n0 ≤ x) (hp4 : Arv Z h0 b k .char (1 : Int32) [(.int c0)] (.int (0 : Int32))) (hl0 : ¬ (c0 < (0 : Int32))) (hm0 : ¬ ((65535 : Int32) < c0)) :
    own_CP l Z M183 jdk_42_method_149_code 6 none ws R_si4u_1 #[(.ref x), (.ref b), (.int (0 : Int32)), (.int (1 : Int32)), .null] h0 (Q_si4u_1 Z G1 x b k c0 h0 n0) := by
  refine own_P (plainFor_of_name pn_185) ?_
  intro p e s m below meth c s₁ S0 Bd hZ hh hx hby hml hown hnm X0 e0 hS0d
  obtain ⟨O1, P1, OAD, OHI, OLO⟩ := id HG
  have N0 := Fr.nil n0
  have C0 : Steps p.tables e below S0 (s₁.setTop (mkF m 0 #[.val (.ref x), .val (.ref b), .val (.int (0 : Int32)), .val (.int (1 : Int32)), .val .null, .unset] [])) := by rw [hS0d]; exact castTop (ef_184 m x b (0 : Int32) (1 : Int32)) (Steps.refl _)
  obtain ⟨T_1, X_2, e_3, st_4⟩ := initO X0 hx hZ hown (w16 hw) (w17 hw) (w18 hw) e0 (g := (mkF m 1 #[.val (.ref x), .val (.ref b), .val (.int (0 : Int32)), .val (.int (1 : Int32)), .val .null, .unset] [(.ref x)])) rfl (by rw [hml]; rfl) rfl (hb hby d8_1) (by decide) (W := 0) (by show 2 * 0 + _ ≤ _; exact Nat.le_of_eq rfl) (by decide)
  obtain ⟨T_5, X_6, e_7, st_8⟩ := getS X_2 hx hZ (host := "") hown (w19 hw) Via.refl e_3 (O1.ext X00.2) (g := (mkF m 27 #[.val (.ref x), .val (.ref b), .val (.int (0 : Int32)), .val (.int (1 : Int32)), .val .null, .unset] [])) rfl (hb hby d8_27)
  obtain ⟨_, _, ⟨T_9, L_9, k_9, n_9⟩, -, X_9, ⟨Lc_9, hQ_9, l_9, y_9, z_9⟩, st_9⟩ := Jvm.LawKit.callS X_6 hx (y := M133) hown (mvT hZ (w20 hw)) (mvT hZ (w21 hw)) (mvT hZ (w22 hw)) (mvT hZ (w23 hw)) (by decide) (backOf (W := 0) (rm_cmp3u_1 l Z a0 hw [] G1 HG h0 n0 X00 b k c0 hp4 hl0 hm0) hZ (w23 hw) (w22 hw) (by decide) (by decide)) (g := (mkF m 36 #[.val (.ref x), .val (.ref b), .val (.int (0 : Int32)), .val (.int (1 : Int32)), .val .null, .unset] [(.int (1 : Int32)), (.int (0 : Int32)), (.ref b)])) rfl (by rw [hml]; rfl) (argsL := [(.ref b), (.int (0 : Int32)), (.int (1 : Int32))]) (rest := []) (lenOf pd_156 rfl) rfl (by show 2 * 0 + _ ≤ _; exact Nat.le_of_eq rfl) (hb hby d8_36) (fun _ _ => ⟨rfl, e_7, (by decide : 0 + 2 ≤ _), (by decide : 0 + 3 ≤ _)⟩)
  dsimp only [Pt.U, Pt.locs, Pt.cells, Pt.slots] at X_9 l_9 y_9 z_9 st_9 hQ_9
  subst l_9 y_9 z_9
  have C_10 : Steps p.tables e below S0 (T_5.setTop (mkF m 36 #[.val (.ref x), .val (.ref b), .val (.int (0 : Int32)), .val (.int (1 : Int32)), .val .null, .unset] [(.int (1 : Int32)), (.int (0 : Int32)), (.ref b)])) := by
    refine C0.trans ?_
    refine XS.aloadN X0.here hx rfl (hb hby d8_0) rfl rfl ?_
    refine st_4 _ ?_
    refine XS.iloadN X_2.here hx rfl (hb hby d8_4) rfl ?_
    refine XS.ifYes X_2.here hx rfl (pc0 := 5) (pc' := 27) rfl (hb hby d8_5) rfl (by decide) (by decide) (by decide) ?_
    refine st_8 _ ?_
    refine XS.ifNo X_6.here hx rfl (hb hby d8_30) rfl (i0_eq_f P1) ?_
    refine XS.aloadN X_6.here hx rfl (hb hby d8_33) rfl rfl ?_
    refine XS.iloadN X_6.here hx rfl (hb hby d8_34) rfl ?_
    show Steps p.tables e below (T_5.setTop (mkF m 35 #[.val (.ref x), .val (.ref b), .val (.int (0 : Int32)), .val (.int (1 : Int32)), .val .null, .unset] [(.int (0 : Int32)), (.ref b)])) _
    refine XS.iloadN X_6.here hx rfl (hb hby d8_35) rfl ?_
    exact Steps.refl _
  rcases hQ_9 with hQ_11 | hQ_12
  · skip
    obtain ⟨a_13, k_14, rfl, N_15, K_16, g_17, g_18⟩ := hQ_11
    have N_19 := Fr.app N0 N_15
    have O_20 : Old Z n0 T_9.heap := (X00.keep K_16 all0)
    obtain ⟨_, _, ⟨T_21, L_21, k_21, n_21⟩, -, X_21, ⟨Lc_21, hQ_21, l_21, y_21, z_21⟩, st_21⟩ := Jvm.LawKit.callS X_9 hx (y := M174) hown (mvT hZ (w28 hw)) (mvT hZ (w29 hw)) (mvT hZ (w22 hw)) (mvT hZ (w30 hw)) (by decide) (backOf (W := 1) (rm_codl_1 l Z a0 hw [] G1 HG T_9.heap n0 O_20 a_13 k_14 (own_lo8 c0) g_18) hZ (w30 hw) (w22 hw) (by decide) (by decide)) (g := (mkF m 45 #[.val (.ref x), .val (.ref b), .val (.int (0 : Int32)), .val (.int (1 : Int32)), .val .null, .val (.ref a_13)] [(.int (1 : Int32)), (.ref a_13), (.ref x)])) rfl (by rw [hml]; rfl) (argsL := [(.ref a_13), (.int (1 : Int32))]) (rest := [(.ref x)]) (lenOf pd_208 rfl) rfl (by show 2 * 0 + _ ≤ _; exact Nat.le_of_eq rfl) (hb hby d8_45) (fun _ _ => ⟨rfl, rfl, (by decide : 2 + 0 ≤ _), (by decide : 3 + 0 ≤ _)⟩)
    dsimp only [Pt.U, Pt.locs, Pt.cells, Pt.slots] at X_21 l_21 y_21 z_21 st_21 hQ_21
    subst l_21 y_21 z_21
    obtain ⟨rfl, N_22, e_23⟩ := hQ_21
    have N_24 := Fr.app N_19 N_22
    have e_25 : T_21.heap = T_9.heap := e_23
    have F_26 : Fld Z T_9.heap x "java/lang/String" "coder" "B" (.int (0 : Int32)) := (hp2.keep K_16 nin0)
    have E_27 : Exa Z T_9.heap x "java/lang/String" := (hp0.keep K_16)
    obtain ⟨T_28, h_29, X_30, e_31, W_32, st_33⟩ := putF X_21 hx hZ hown (host := "") (Or.inl (w31 hw)) Via.refl e_25 F_26 E_27 (Or.inr ⟨(w32 hw), rfl, hnm⟩) (w6 hw) (ty := .byte) (by decide) rfl (by decide) (g := (mkF m 48 #[.val (.ref x), .val (.ref b), .val (.int (0 : Int32)), .val (.int (1 : Int32)), .val .null, .val (.ref a_13)] [(.int (0 : Int32)), (.ref x)])) rfl rfl (hb hby d8_48)
    have N_34 := Fr.snoc X_30 N_24 hp3
    have F_35 : Fld Z h_29 x "java/lang/String" "coder" "B" (.int (0 : Int32)) := F_26.same W_32
    have F_36 : Fld Z h_29 x "java/lang/String" "value" "[B" .null := ((hp1.keep K_16 nin0).other W_32 (Or.inr (slot_ne (Or.inr (w34 hw)) (Or.inr (w32 hw)) (by decide) (t := (.array .byte)) (by decide) (t' := .byte) (by decide))))
    have E_37 : Exa Z h_29 x "java/lang/String" := (E_27.wr W_32)
    obtain ⟨T_38, h_39, X_40, e_41, W_42, st_43⟩ := putF X_30 hx hZ hown (host := "") (Or.inl (w33 hw)) Via.refl e_31 F_36 E_37 (Or.inr ⟨(w34 hw), rfl, hnm⟩) (w6 hw) (ty := (.array .byte)) (by decide) rfl rfl (g := (mkF m 54 #[.val (.ref x), .val (.ref b), .val (.int (0 : Int32)), .val (.int (1 : Int32)), .val .null, .val (.ref a_13)] [(.ref a_13), (.ref x)])) rfl rfl (hb hby d8_54)
    have N_44 := Fr.snoc X_40 N_34 hp3
    have F_45 : Fld Z h_39 x "java/lang/String" "value" "[B" (.ref a_13) := F_36.same W_42
    have C_46 : Steps p.tables e below S0 (T_38.setTop (mkF m 57 #[.val (.ref x), .val (.ref b), .val (.int (0 : Int32)), .val (.int (1 : Int32)), .val .null, .val (.ref a_13)] [])) := by
      refine C_10.trans ?_
      refine st_9 _ ?_
      refine XS.astore X_9.here hx rfl (hb hby d8_39) rfl rfl (l' := #[.val (.ref x), .val (.ref b), .val (.int (0 : Int32)), .val (.int (1 : Int32)), .val .null, .val (.ref a_13)]) rfl ?_
      refine XS.aloadN X_9.here hx rfl (hb hby d8_41) rfl rfl ?_
      refine XS.aload X_9.here hx rfl (hb hby d8_42) rfl rfl ?_
      refine XS.iloadN X_9.here hx rfl (hb hby d8_44) rfl ?_
      refine st_21 _ ?_
      refine st_33 _ ?_
      refine XS.aloadN X_30.here hx rfl (hb hby d8_51) rfl rfl ?_
      show Steps p.tables e below (T_28.setTop (mkF m 52 #[.val (.ref x), .val (.ref b), .val (.int (0 : Int32)), .val (.int (1 : Int32)), .val .null, .val (.ref a_13)] [(.ref x)])) _
      refine XS.aload X_30.here hx rfl (hb hby d8_52) rfl rfl ?_
      refine st_43 _ ?_
      exact Steps.refl _
    have E_47 : Exa Z h_39 x "java/lang/String" := (E_37.wr W_42)
    have F_48 : Fld Z h_39 x "java/lang/String" "coder" "B" (.int (0 : Int32)) := (F_35.other W_42 (Or.inr (slot_ne (Or.inr (w32 hw)) (Or.inr (w34 hw)) (by decide) (t := .byte) (by decide) (t' := (.array .byte)) (by decide))))
    have V_49 : Arv Z h_39 a_13 k_14 .byte (1 : Int32) [(.int (own_lo8 c0))] (.int (0 : Int32)) := ((g_18.other W_32 (Ne.symm (Nat.ne_of_lt (Nat.lt_of_lt_of_le hp0.lt (Nat.le_trans (Nat.le_refl _) g_17))))).other W_42 (Ne.symm (Nat.ne_of_lt (Nat.lt_of_lt_of_le hp0.lt (Nat.le_trans (Nat.le_refl _) g_17)))))
    have K_50 : Keep h0 h_39 [x] := ((((Keep.refl _ _).trans K_16 all0).wr W_32 (Or.inl (List.mem_of_getElem? (i := 0) rfl))).wr W_42 (Or.inl (List.mem_of_getElem? (i := 0) rfl)))
    obtain ⟨fs, hr, hrun, hended, hW, hsame⟩ := X_40.leave (v := none) (fun _ => rfl)
    refine ⟨_, _, C_46.trans (X_40.returnOut hx Bd.returns (hb hby d8_57) hr), hrun, hended, _, _, rfl, ?_, ⟨_, rfl⟩, hW, hsame.mono (by decide) (by decide)⟩
    show Q_si4u_1 Z G1 x b k c0 h0 n0 (none) T_38.heap _
    rw [e_41]
    exact Or.inl ⟨a_13, k_14, rfl, N_44, K_50, E_47, F_48, F_45, (Nat.le_trans (Nat.le_refl _) g_17), V_49⟩
  · skip
    obtain ⟨a_51, k_52, rfl, N_53, K_54, g_55, g_56⟩ := hQ_12
    have N_57 := Fr.app N0 N_53
    have O_58 : Old Z n0 T_9.heap := (X00.keep K_54 all0)
    obtain ⟨_, _, ⟨T_59, L_59, k_59, n_59⟩, -, X_59, ⟨Lc_59, hQ_59, l_59, y_59, z_59⟩, st_59⟩ := Jvm.LawKit.callS X_9 hx (y := M174) hown (mvT hZ (w28 hw)) (mvT hZ (w29 hw)) (mvT hZ (w22 hw)) (mvT hZ (w30 hw)) (by decide) (backOf (W := 1) (rm_codu_1 l Z a0 hw [] G1 HG T_9.heap n0 O_58 a_51 k_52 (own_lo8z c0) (own_hi8 c0) g_56) hZ (w30 hw) (w22 hw) (by decide) (by decide)) (g := (mkF m 45 #[.val (.ref x), .val (.ref b), .val (.int (0 : Int32)), .val (.int (1 : Int32)), .val .null, .val (.ref a_51)] [(.int (1 : Int32)), (.ref a_51), (.ref x)])) rfl (by rw [hml]; rfl) (argsL := [(.ref a_51), (.int (1 : Int32))]) (rest := [(.ref x)]) (lenOf pd_208 rfl) rfl (by show 2 * 0 + _ ≤ _; exact Nat.le_of_eq rfl) (hb hby d8_45) (fun _ _ => ⟨rfl, rfl, (by decide : 2 + 0 ≤ _), (by decide : 3 + 0 ≤ _)⟩)
    dsimp only [Pt.U, Pt.locs, Pt.cells, Pt.slots] at X_59 l_59 y_59 z_59 st_59 hQ_59
    subst l_59 y_59 z_59
    obtain ⟨rfl, N_60, e_61⟩ := hQ_59
    have N_62 := Fr.app N_57 N_60
    have e_63 : T_59.heap = T_9.heap := e_61
    have F_64 : Fld Z T_9.heap x "java/lang/String" "coder" "B" (.int (0 : Int32)) := (hp2.keep K_54 nin0)
    have E_65 : Exa Z T_9.heap x "java/lang/String" := (hp0.keep K_54)
    obtain ⟨T_66, h_67, X_68, e_69, W_70, st_71⟩ := putF X_59 hx hZ hown (host := "") (Or.inl (w31 hw)) Via.refl e_63 F_64 E_65 (Or.inr ⟨(w32 hw), rfl, hnm⟩) (w6 hw) (ty := .byte) (by decide) rfl (by decide) (g := (mkF m 48 #[.val (.ref x), .val (.ref b), .val (.int (0 : Int32)), .val (.int (1 : Int32)), .val .null, .val (.ref a_51)] [(.int (1 : Int32)), (.ref x)])) rfl rfl (hb hby d8_48)
    have N_72 := Fr.snoc X_68 N_62 hp3
    have F_73 : Fld Z h_67 x "java/lang/String" "coder" "B" (.int (1 : Int32)) := F_64.same W_70
    have F_74 : Fld Z h_67 x "java/lang/String" "value" "[B" .null := ((hp1.keep K_54 nin0).other W_70 (Or.inr (slot_ne (Or.inr (w34 hw)) (Or.inr (w32 hw)) (by decide) (t := (.array .byte)) (by decide) (t' := .byte) (by decide))))
    have E_75 : Exa Z h_67 x "java/lang/String" := (E_65.wr W_70)
    obtain ⟨T_76, h_77, X_78, e_79, W_80, st_81⟩ := putF X_68 hx hZ hown (host := "") (Or.inl (w33 hw)) Via.refl e_69 F_74 E_75 (Or.inr ⟨(w34 hw), rfl, hnm⟩) (w6 hw) (ty := (.array .byte)) (by decide) rfl rfl (g := (mkF m 54 #[.val (.ref x), .val (.ref b), .val (.int (0 : Int32)), .val (.int (1 : Int32)), .val .null, .val (.ref a_51)] [(.ref a_51), (.ref x)])) rfl rfl (hb hby d8_54)
    have N_82 := Fr.snoc X_78 N_72 hp3
    have F_83 : Fld Z h_77 x "java/lang/String" "value" "[B" (.ref a_51) := F_74.same W_80
    have C_84 : Steps p.tables e below S0 (T_76.setTop (mkF m 57 #[.val (.ref x), .val (.ref b), .val (.int (0 : Int32)), .val (.int (1 : Int32)), .val .null, .val (.ref a_51)] [])) := by
      refine C_10.trans ?_
      refine st_9 _ ?_
      refine XS.astore X_9.here hx rfl (hb hby d8_39) rfl rfl (l' := #[.val (.ref x), .val (.ref b), .val (.int (0 : Int32)), .val (.int (1 : Int32)), .val .null, .val (.ref a_51)]) rfl ?_
      refine XS.aloadN X_9.here hx rfl (hb hby d8_41) rfl rfl ?_
      refine XS.aload X_9.here hx rfl (hb hby d8_42) rfl rfl ?_
      refine XS.iloadN X_9.here hx rfl (hb hby d8_44) rfl ?_
      refine st_59 _ ?_
      refine st_71 _ ?_
      refine XS.aloadN X_68.here hx rfl (hb hby d8_51) rfl rfl ?_
      show Steps p.tables e below (T_66.setTop (mkF m 52 #[.val (.ref x), .val (.ref b), .val (.int (0 : Int32)), .val (.int (1 : Int32)), .val .null, .val (.ref a_51)] [(.ref x)])) _
      refine XS.aload X_68.here hx rfl (hb hby d8_52) rfl rfl ?_
      refine st_81 _ ?_
      exact Steps.refl _
    have E_85 : Exa Z h_77 x "java/lang/String" := (E_75.wr W_80)
    have F_86 : Fld Z h_77 x "java/lang/String" "coder" "B" (.int (1 : Int32)) := (F_73.other W_80 (Or.inr (slot_ne (Or.inr (w32 hw)) (Or.inr (w34 hw)) (by decide) (t := .byte) (by decide) (t' := (.array .byte)) (by decide))))
    have V_87 : Arv Z h_77 a_51 k_52 .byte (2 : Int32) [(.int (own_lo8z c0)), (.int (own_hi8 c0))] (.int (0 : Int32)) := ((g_56.other W_70 (Ne.symm (Nat.ne_of_lt (Nat.lt_of_lt_of_le hp0.lt (Nat.le_trans (Nat.le_refl _) g_55))))).other W_80 (Ne.symm (Nat.ne_of_lt (Nat.lt_of_lt_of_le hp0.lt (Nat.le_trans (Nat.le_refl _) g_55)))))
    have K_88 : Keep h0 h_77 [x] := ((((Keep.refl _ _).trans K_54 all0).wr W_70 (Or.inl (List.mem_of_getElem? (i := 0) rfl))).wr W_80 (Or.inl (List.mem_of_getElem? (i := 0) rfl)))
    obtain ⟨fs, hr, hrun, hended, hW, hsame⟩ := X_78.leave (v := none) (fun _ => rfl)
    refine ⟨_, _, C_84.trans (X_78.returnOut hx Bd.returns (hb hby d8_57) hr), hrun, hended, _, _, rfl, ?_, ⟨_, rfl⟩, hW, hsame.mono (by decide) (by decide)⟩
    show Q_si4u_1 Z G1 x b k c0 h0 n0 (none) T_76.heap _
    rw [e_79]
    exact Or.inr (⟨a_51, k_52, rfl, N_82, K_88, E_85, F_86, F_83, (Nat.le_trans (Nat.le_refl _) g_55), V_87⟩)
abbrev M222 : MethodName := ⟨"java/lang/String", "<init>", "([C)V"⟩
theorem ef_223 (m : MethodId) (x0 : Addr) (x1 : Addr) : entryFrame m #[(.ref x0), (.ref x1)] 2 = mkF m 0 #[.val (.ref x0), .val (.ref x1)] [] := by first | (simp [entryFrame, mkF, argsToLocals, Value.category]; done) | rfl
theorem d9_0 : decode jdk_42_method_3_code 0 = .ok (.aload_n 0, 1) := by decide +kernel
theorem d9_1 : decode jdk_42_method_3_code 1 = .ok (.aload_n 1, 1) := by decide +kernel
theorem d9_2 : decode jdk_42_method_3_code 2 = .ok (.iconst 0, 1) := by decide +kernel
theorem d9_3 : decode jdk_42_method_3_code 3 = .ok (.aload_n 1, 1) := by decide +kernel
theorem d9_4 : decode jdk_42_method_3_code 4 = .ok (.arraylength, 1) := by decide +kernel
theorem d9_5 : decode jdk_42_method_3_code 5 = .ok (.aconst_null, 1) := by decide +kernel
theorem w15 {Z : State} {a0 : Array Value} (hw : ∀ d ∈ tables_1, d.before a0 Z = true) : Jvm.Cond.before (Jvm.Cond.code ({ cls := "java/lang/String", name := "<init>", desc := "([CIILjava/lang/Void;)V" } : Jvm.MethodName) jdk_42_method_149_code (6 : Nat) (Option.none : Option Jvm.ClassFile.FieldType)) a0 Z = true := hw _ (List.mem_of_getElem? (i := 15) rfl)
theorem w7 {Z : State} {a0 : Array Value} (hw : ∀ d ∈ tables_1, d.before a0 Z = true) : Jvm.Cond.before (Jvm.Cond.initialized "java/lang/String") a0 Z = true := hw _ (List.mem_of_getElem? (i := 7) rfl)
theorem pd_232 : parseMethodDescriptor "([CIILjava/lang/Void;)V" = some ⟨[(.array .char), .int, .int, (.object "java/lang/Void")], none⟩ := by decide +kernel
theorem d9_6 : decode jdk_42_method_3_code 6 = .ok (.invokespecial 27, 3) := by decide +kernel
theorem w12 {Z : State} {a0 : Array Value} (hw : ∀ d ∈ tables_1, d.before a0 Z = true) : Jvm.Cond.before (Jvm.Cond.methodLink "java/lang/String" (27 : Nat) ({ cls := "java/lang/String", name := "<init>", desc := "([CIILjava/lang/Void;)V" } : Jvm.MethodName)) a0 Z = true := hw _ (List.mem_of_getElem? (i := 12) rfl)
theorem w13 {Z : State} {a0 : Array Value} (hw : ∀ d ∈ tables_1, d.before a0 Z = true) : Jvm.Cond.before (Jvm.Cond.instanceMethod ({ cls := "java/lang/String", name := "<init>", desc := "([CIILjava/lang/Void;)V" } : Jvm.MethodName)) a0 Z = true := hw _ (List.mem_of_getElem? (i := 13) rfl)
theorem d9_9 : decode jdk_42_method_3_code 9 = .ok (.return_, 1) := by decide +kernel
abbrev R_si1u_1 : Room := { frames := 5, cells := 2, slots := 3, locals := 74 }
def Q_si1u_1 (Z : State) (G1 : Int32) (x : Addr) (b : Addr) (k : ClassId) (c0 : Int32) (h0 : Heap) (n0 : Nat) (v : Option Value) (h : Heap) (L : List Loc) : Prop := (∃ t : Addr, ∃ kt : ClassId, v = none ∧ Fr n0 L ∧ Keep h0 h [x] ∧ (Exa Z h x "java/lang/String") ∧ (Fld Z h x "java/lang/String" "coder" "B" (.int (0 : Int32))) ∧ (Fld Z h x "java/lang/String" "value" "[B" (.ref t)) ∧ (h0.size ≤ t) ∧ (Arv Z h t kt .byte (1 : Int32) [(.int (own_lo8 c0))] (.int (0 : Int32)))) ∨ (∃ t : Addr, ∃ kt : ClassId, v = none ∧ Fr n0 L ∧ Keep h0 h [x] ∧ (Exa Z h x "java/lang/String") ∧ (Fld Z h x "java/lang/String" "coder" "B" (.int (1 : Int32))) ∧ (Fld Z h x "java/lang/String" "value" "[B" (.ref t)) ∧ (h0.size ≤ t) ∧ (Arv Z h t kt .byte (2 : Int32) [(.int (own_lo8z c0)), (.int (own_hi8 c0))] (.int (0 : Int32))))
set_option maxRecDepth 65536 in
set_option maxHeartbeats 40000000 in
theorem rm_si1u_1 (l : Launch) (Z : State) (a0 : Array Value) (hw : ∀ d ∈ tables_1, d.before a0 Z = true) (ws : List Jvm.Cond) (G1 : Int32) (HG : own_G l Z a0 G1) (h0 : Heap) (n0 : Nat) (X00 : Old Z n0 h0) (x : Addr) (b : Addr) (k : ClassId) (c0 : Int32) (hp0 : Exa Z h0 x "java/lang/String") (hp1 : Fld Z h0 x "java/lang/String" "value" "[B" .null) (hp2 : Fld Z h0 x "java/lang/String" "coder" "B" (.int (0 : Int32))) (hp3 : n0 ≤ x) (hp4 : Arv Z h0 b k .char (1 : Int32) [(.int c0)] (.int (0 : Int32))) (hl0 : ¬ (c0 < (0 : Int32))) (hm0 : ¬ ((65535 : Int32) < c0)) :
    own_CP l Z M222 jdk_42_method_3_code 2 none ws R_si1u_1 #[(.ref x), (.ref b)] h0 (Q_si1u_1 Z G1 x b k c0 h0 n0) := by
  refine own_P (plainFor_of_name pn_185) ?_
  intro p e s m below meth c s₁ S0 Bd hZ hh hx hby hml hown hnm X0 e0 hS0d
  obtain ⟨O1, P1, OAD, OHI, OLO⟩ := id HG
  have N0 := Fr.nil n0
  have C0 : Steps p.tables e below S0 (s₁.setTop (mkF m 0 #[.val (.ref x), .val (.ref b)] [])) := by rw [hS0d]; exact castTop (ef_223 m x b) (Steps.refl _)
  obtain ⟨c_1, A_2, q_3, S_4, M_5, H_6, U_7⟩ := id hp4
  obtain ⟨_, _, ⟨T_8, L_8, k_8, n_8⟩, -, X_8, ⟨Lc_8, hQ_8, l_8, y_8, z_8⟩, st_8⟩ := X0.specialBack hx (y := M183) rfl hown (mvT hZ (w12 hw)) (mvT hZ (w13 hw)) (mvT hZ (w15 hw)) (by decide) (backOf (W := 0) (rm_si4u_1 l Z a0 hw [] G1 HG h0 n0 X00 x b k c0 hp0 hp1 hp2 hp3 hp4 hl0 hm0) hZ (w15 hw) (w7 hw) (by decide) (by decide)) (g := (mkF m 6 #[.val (.ref x), .val (.ref b)] [.null, (.int (1 : Int32)), (.int (0 : Int32)), (.ref b), (.ref x)])) rfl (by rw [hml]; rfl) (Steps.refl _) (a := x) (argsL := [(.ref b), (.int (0 : Int32)), (.int (1 : Int32)), .null]) (rest := []) (lenOf pd_232 rfl) rfl (by show 2 * 0 + _ ≤ _; exact Nat.le_of_eq rfl) (hb hby d9_6) (fun _ _ => ⟨rfl, e0, (by decide : 0 + 2 ≤ _), (by decide : 0 + 3 ≤ _)⟩)
  dsimp only [Pt.U, Pt.locs, Pt.cells, Pt.slots] at X_8 l_8 y_8 z_8 st_8 hQ_8
  subst l_8 y_8 z_8
  have C_9 : Steps p.tables e below S0 (s₁.setTop (mkF m 6 #[.val (.ref x), .val (.ref b)] [.null, (.int (1 : Int32)), (.int (0 : Int32)), (.ref b), (.ref x)])) := by
    refine C0.trans ?_
    refine XS.aloadN X0.here hx rfl (hb hby d9_0) rfl rfl ?_
    refine XS.aloadN X0.here hx rfl (hb hby d9_1) rfl rfl ?_
    refine XS.iconst X0.here hx rfl (hb hby d9_2) ?_
    refine XS.aloadN X0.here hx rfl (hb hby d9_3) rfl rfl ?_
    refine X0.arraylength hx (by rw [e0]; exact A_2.1) (State.isArrayOf_alike hZ.alike A_2.2.1) (g := (mkF m 4 #[.val (.ref x), .val (.ref b)] [(.ref b), (.int (0 : Int32)), (.ref b), (.ref x)])) rfl rfl (hb hby d9_4) _ ?_
    rw [len_of S_4 M_5]
    refine XS.aconstNull X0.here hx rfl (hb hby d9_5) ?_
    exact Steps.refl _
  rcases hQ_8 with hQ_10 | hQ_11
  · skip
    obtain ⟨a_12, k_13, rfl, N_14, K_15, g_16, g_17, g_18, g_19, g_20⟩ := hQ_10
    have N_21 := Fr.app N0 N_14
    have C_22 : Steps p.tables e below S0 (T_8.setTop (mkF m 9 #[.val (.ref x), .val (.ref b)] [])) := by
      refine C_9.trans ?_
      refine st_8.trans ?_
      exact Steps.refl _
    have K_23 : Keep h0 T_8.heap [x] := ((Keep.refl _ _).trans K_15 (allS (Or.inl (List.mem_of_getElem? (i := 0) rfl)) all0))
    obtain ⟨fs, hr, hrun, hended, hW, hsame⟩ := X_8.leave (v := none) (fun _ => rfl)
    refine ⟨_, _, C_22.trans (X_8.returnOut hx Bd.returns (hb hby d9_9) hr), hrun, hended, _, _, rfl, ?_, ⟨_, rfl⟩, hW, hsame.mono (by decide) (by decide)⟩
    show Q_si1u_1 Z G1 x b k c0 h0 n0 (none) T_8.heap _
    exact Or.inl ⟨a_12, k_13, rfl, N_21, K_23, g_16, g_17, g_18, (Nat.le_trans (Nat.le_refl _) g_19), g_20⟩
  · skip
    obtain ⟨a_24, k_25, rfl, N_26, K_27, g_28, g_29, g_30, g_31, g_32⟩ := hQ_11
    have N_33 := Fr.app N0 N_26
    have C_34 : Steps p.tables e below S0 (T_8.setTop (mkF m 9 #[.val (.ref x), .val (.ref b)] [])) := by
      refine C_9.trans ?_
      refine st_8.trans ?_
      exact Steps.refl _
    have K_35 : Keep h0 T_8.heap [x] := ((Keep.refl _ _).trans K_27 (allS (Or.inl (List.mem_of_getElem? (i := 0) rfl)) all0))
    obtain ⟨fs, hr, hrun, hended, hW, hsame⟩ := X_8.leave (v := none) (fun _ => rfl)
    refine ⟨_, _, C_34.trans (X_8.returnOut hx Bd.returns (hb hby d9_9) hr), hrun, hended, _, _, rfl, ?_, ⟨_, rfl⟩, hW, hsame.mono (by decide) (by decide)⟩
    show Q_si1u_1 Z G1 x b k c0 h0 n0 (none) T_8.heap _
    exact Or.inr (⟨a_24, k_25, rfl, N_33, K_35, g_28, g_29, g_30, (Nat.le_trans (Nat.le_refl _) g_31), g_32⟩)
abbrev R_nbl_2 : Room := { frames := 0, cells := 0, slots := 0, locals := 0 }
def Q_nbl_2 (Z : State) (G1 : Int32)  (h0 : Heap) (n0 : Nat) (v : Option Value) (h : Heap) (L : List Loc) : Prop := (v = some (.int (4 : Int32)) ∧ Fr n0 L ∧ h = h0)
set_option maxRecDepth 65536 in
set_option maxHeartbeats 40000000 in
theorem rm_nbl_2 (l : Launch) (Z : State) (a0 : Array Value) (hw : ∀ d ∈ tables_1, d.before a0 Z = true) (ws : List Jvm.Cond) (G1 : Int32) (HG : own_G l Z a0 G1) (h0 : Heap) (n0 : Nat) (X00 : Old Z n0 h0)   :
    own_CP l Z M0 jdk_52_method_3_code 1 (some .int) ws R_nbl_2 #[(.int (2 : Int32))] h0 (Q_nbl_2 Z G1  h0 n0) := by
  refine own_P (plainFor_of_name pn_2) ?_
  intro p e s m below meth c s₁ S0 Bd hZ hh hx hby hml hown hnm X0 e0 hS0d
  obtain ⟨O1, P1, OAD, OHI, OLO⟩ := id HG
  have N0 := Fr.nil n0
  have C0 : Steps p.tables e below S0 (s₁.setTop (mkF m 0 #[.val (.int (2 : Int32))] [])) := by rw [hS0d]; exact castTop (ef_1 m (2 : Int32)) (Steps.refl _)
  have C_1 : Steps p.tables e below S0 (s₁.setTop (mkF m 58 #[.val (.int (2 : Int32))] [(.int (4 : Int32))])) := by
    refine C0.trans ?_
    refine XS.iloadN X0.here hx rfl (hb hby d0_0) rfl ?_
    refine XS.ifYes X0.here hx rfl (pc0 := 1) (pc' := 12) rfl (hb hby d0_1) rfl (by decide) (by decide) (by decide) ?_
    refine XS.iloadN X0.here hx rfl (hb hby d0_12) rfl ?_
    refine X0.ldcI hx hown (mvT hZ (w77 hw)) rfl (hb hby d0_13) ?_
    refine XS.icmpYes X0.here hx rfl (pc0 := 15) (pc' := 55) rfl (hb hby d0_15) rfl (by decide) (by decide) (by decide) ?_
    refine XS.iloadN X0.here hx rfl (hb hby d0_55) rfl ?_
    refine XS.iconst X0.here hx rfl (hb hby d0_56) ?_
    refine XS.ishl X0.here hx rfl (hb hby d0_57) rfl ?_
    show Steps p.tables e below (s₁.setTop (mkF m 58 #[.val (.int (2 : Int32))] [(.int (4 : Int32))])) _
    exact Steps.refl _
  obtain ⟨fs, hr, hrun, hended, hW, hsame⟩ := X0.leave (v := some (.int (4 : Int32))) (fun h => by rw [Bd.returns] at h; cases h)
  refine ⟨_, _, C_1.trans (retOut X0 hx Bd.returns rfl (Or.inl ⟨rfl, Or.inl rfl, _, rfl⟩) (hb hby d0_58) hr), hrun, hended, _, _, rfl, ?_, ⟨_, rfl⟩, hW, hsame.mono (by decide) (by decide)⟩
  show Q_nbl_2 Z G1  h0 n0 (some (.int (4 : Int32))) s₁.heap _
  rw [e0]
  exact ⟨rfl, N0, rfl⟩
abbrev R_nbf_2 : Room := { frames := 1, cells := 1, slots := 4, locals := 12 }
def Q_nbf_2 (Z : State) (G1 : Int32)  (h0 : Heap) (n0 : Nat) (v : Option Value) (h : Heap) (L : List Loc) : Prop := (∃ t : Addr, ∃ kt : ClassId, v = some (.ref t) ∧ Fr n0 L ∧ Keep h0 h [] ∧ (h0.size ≤ t) ∧ (Arv Z h t kt .byte (4 : Int32) [(.int (0 : Int32)), (.int (0 : Int32)), (.int (0 : Int32)), (.int (0 : Int32))] (.int (0 : Int32))))
set_option maxRecDepth 65536 in
set_option maxHeartbeats 40000000 in
theorem rm_nbf_2 (l : Launch) (Z : State) (a0 : Array Value) (hw : ∀ d ∈ tables_1, d.before a0 Z = true) (ws : List Jvm.Cond) (G1 : Int32) (HG : own_G l Z a0 G1) (h0 : Heap) (n0 : Nat) (X00 : Old Z n0 h0)   :
    own_CP l Z M13 jdk_52_method_2_code 1 (some (.array .byte)) ws R_nbf_2 #[(.int (2 : Int32))] h0 (Q_nbf_2 Z G1  h0 n0) := by
  refine own_P (plainFor_of_name pn_2) ?_
  intro p e s m below meth c s₁ S0 Bd hZ hh hx hby hml hown hnm X0 e0 hS0d
  obtain ⟨O1, P1, OAD, OHI, OLO⟩ := id HG
  have N0 := Fr.nil n0
  have C0 : Steps p.tables e below S0 (s₁.setTop (mkF m 0 #[.val (.int (2 : Int32))] [])) := by rw [hS0d]; exact castTop (ef_1 m (2 : Int32)) (Steps.refl _)
  obtain ⟨_, _, ⟨T_1, L_1, k_1, n_1⟩, -, X_1, ⟨Lc_1, hQ_1, l_1, y_1, z_1⟩, st_1⟩ := Jvm.LawKit.callS X0 hx (y := M0) hown (mvT hZ (w74 hw)) (mvT hZ (w75 hw)) (mvT hZ (w22 hw)) (mvT hZ (w76 hw)) (by decide) (backOf (W := 0) (rm_nbl_2 l Z a0 hw [] G1 HG h0 n0 X00  ) hZ (w76 hw) (w22 hw) (by decide) (by decide)) (g := (mkF m 1 #[.val (.int (2 : Int32))] [(.int (2 : Int32))])) rfl (by rw [hml]; rfl) (argsL := [(.int (2 : Int32))]) (rest := []) (lenOf pd_17 rfl) rfl (by show 2 * 0 + _ ≤ _; exact Nat.le_of_eq rfl) (hb hby d1_1) (fun _ _ => ⟨rfl, e0, (by decide : 0 + 0 ≤ _), (by decide : 0 + 0 ≤ _)⟩)
  dsimp only [Pt.U, Pt.locs, Pt.cells, Pt.slots] at X_1 l_1 y_1 z_1 st_1 hQ_1
  subst l_1 y_1 z_1
  obtain ⟨rfl, N_2, e_3⟩ := hQ_1
  have N_4 := Fr.app N0 N_2
  have e_5 : T_1.heap = h0 := e_3
  obtain ⟨T_6, h_7, k_8, X_9, e_10, E_11, A_12, st_13⟩ := newP (aty := .byte) X_1 hx hZ (w24 hw) e_5 (g := (mkF m 4 #[.val (.int (2 : Int32))] [(.int (4 : Int32))])) rfl (hb hby d1_4) rfl (by decide : ¬ ((4 : Int32) < (0 : Int32))) (cap := 4) (by decide : (4 : Int32).toNatClampNeg ≤ 4) (by decide) (by decide) (by decide)
  obtain ⟨a_14, g_15⟩ : ∃ z, z = h0.size := ⟨_, rfl⟩
  rw [← g_15] at A_12 st_13
  have V_17 : Arv Z h_7 a_14 k_8 .byte (4 : Int32) [] (.int (0 : Int32)) := Arv.new A_12 (by decide : ¬ ((4 : Int32) < (0 : Int32)))
  have V_16 : Arv Z h_7 a_14 k_8 .byte (4 : Int32) [(.int (0 : Int32)), (.int (0 : Int32)), (.int (0 : Int32)), (.int (0 : Int32))] (.int (0 : Int32)) := (V_17.pad (pad_rep [] (.int (0 : Int32)) 4))
  have C_18 : Steps p.tables e below S0 (T_6.setTop (mkF m 6 #[.val (.int (2 : Int32))] [(.ref a_14)])) := by
    refine C0.trans ?_
    refine XS.iloadN X0.here hx rfl (hb hby d1_0) rfl ?_
    refine st_1 _ ?_
    refine st_13 _ ?_
    exact Steps.refl _
  have K_19 : Keep h0 h_7 [] := ((Keep.refl _ _).ext E_11)
  obtain ⟨fs, hr, hrun, hended, hW, hsame⟩ := X_9.leave (v := some (.ref a_14)) (fun h => by rw [Bd.returns] at h; cases h)
  refine ⟨_, _, C_18.trans (retOut X_9 hx Bd.returns rfl (Or.inr (Or.inr (Or.inr (Or.inr ⟨rfl, rfl, rfl⟩)))) (hb hby d1_6) hr), hrun, hended, _, _, rfl, ?_, ⟨_, rfl⟩, hW, hsame.mono (by decide) (by decide)⟩
  show Q_nbf_2 Z G1  h0 n0 (some (.ref a_14)) T_6.heap _
  rw [e_10]
  exact ⟨a_14, k_8, rfl, N_4, K_19, (Nat.le_trans (Nat.le_refl _) (Nat.le_of_eq g_15.symm)), V_16⟩
abbrev R_put_2_0 : Room := { frames := 0, cells := 0, slots := 0, locals := 0 }
def Q_put_2_0 (Z : State) (G1 : Int32) (t : Addr) (kt : ClassId) (cc : Int32) (y0 : Int32) (y1 : Int32) (y2 : Int32) (y3 : Int32) (h0 : Heap) (n0 : Nat) (v : Option Value) (h : Heap) (L : List Loc) : Prop := (v = none ∧ Fr n0 L ∧ Keep h0 h [t] ∧ (Arv Z h t kt .byte (4 : Int32) [(.int (own_lo8z cc)), (.int (own_hi8 cc)), (.int y2), (.int y3)] (.int (0 : Int32))))
set_option maxRecDepth 65536 in
set_option maxHeartbeats 40000000 in
theorem rm_put_2_0 (l : Launch) (Z : State) (a0 : Array Value) (hw : ∀ d ∈ tables_1, d.before a0 Z = true) (ws : List Jvm.Cond) (G1 : Int32) (HG : own_G l Z a0 G1) (h0 : Heap) (n0 : Nat) (X00 : Old Z n0 h0) (t : Addr) (kt : ClassId) (cc : Int32) (y0 : Int32) (y1 : Int32) (y2 : Int32) (y3 : Int32) (hp0 : Arv Z h0 t kt .byte (4 : Int32) [(.int y0), (.int y1), (.int y2), (.int y3)] (.int (0 : Int32))) (hp1 : n0 ≤ t) :
    own_CP l Z M24 jdk_52_method_4_code 3 none ws R_put_2_0 #[(.ref t), (.int (0 : Int32)), (.int cc)] h0 (Q_put_2_0 Z G1 t kt cc y0 y1 y2 y3 h0 n0) := by
  refine own_P (plainFor_of_name pn_2) ?_
  intro p e s m below meth c s₁ S0 Bd hZ hh hx hby hml hown hnm X0 e0 hS0d
  obtain ⟨O1, P1, OAD, OHI, OLO⟩ := id HG
  have N0 := Fr.nil n0
  have C0 : Steps p.tables e below S0 (s₁.setTop (mkF m 0 #[.val (.ref t), .val (.int (0 : Int32)), .val (.int cc)] [])) := by rw [hS0d]; exact castTop (ef_25 m t (0 : Int32) cc) (Steps.refl _)
  obtain ⟨T_1, X_2, e_3, st_4⟩ := getS X0 hx hZ (host := "") hown (w81 hw) Via.refl e0 (OAD.ext X00.2) (g := (mkF m 0 #[.val (.ref t), .val (.int (0 : Int32)), .val (.int cc)] [])) rfl (hb hby d2_0)
  obtain ⟨T_5, X_6, e_7, st_8⟩ := getS X_2 hx hZ (host := "") hown (w82 hw) Via.refl e_3 (OHI.ext X00.2) (g := (mkF m 38 #[.val (.ref t), .val (.int (1 : Int32)), .val (.int cc)] [(.int cc), (.int (0 : Int32)), (.ref t)])) rfl (hb hby d2_38)
  obtain ⟨c_9, A_10, q_11, S_12, M_13, H_14, U_15⟩ := id hp0
  have hin_22 : ¬ ((0 : Int32) < 0 ∨ c_9.slots.size ≤ (0 : Int32).toNatClampNeg) := inb_of S_12 ⟨(by decide : ¬ ((0 : Int32) < (0 : Int32))), (by decide : (0 : Int32) < (4 : Int32))⟩
  obtain ⟨T_16, h_17, X_18, e_19, W_20, st_21⟩ := stB X_6 hx hZ e_7 A_10 (j := (0 : Int32)) hin_22 (g := (mkF m 43 #[.val (.ref t), .val (.int (1 : Int32)), .val (.int cc)] [(.int ((cc >>> ((0 : Int32) &&& 31)).toInt8.toInt32)), (.int (0 : Int32)), (.ref t)])) rfl rfl (hb hby d2_43)
  have N_23 := Fr.snoc X_18 N0 hp1
  have V_24 : Arv Z h_17 t kt .byte (4 : Int32) [(.int (own_lo8z cc)), (.int y1), (.int y2), (.int y3)] (.int (0 : Int32)) := Arv.set A_10 q_11 S_12 M_13 H_14 U_15 (fits_nar_byte _) W_20 0 rfl (Nat.le_of_ble_eq_true rfl)
  have O_29 : Old Z n0 h_17 := (X00.wr W_20 hp1)
  obtain ⟨T_25, X_26, e_27, st_28⟩ := getS X_18 hx hZ (host := "") hown (w83 hw) Via.refl e_19 (OLO.ext O_29.2) (g := (mkF m 47 #[.val (.ref t), .val (.int (1 : Int32)), .val (.int cc)] [(.int cc), (.int (1 : Int32)), (.ref t)])) rfl (hb hby d2_47)
  obtain ⟨c_30, A_31, q_32, S_33, M_34, H_35, U_36⟩ := id V_24
  have hin_43 : ¬ ((1 : Int32) < 0 ∨ c_30.slots.size ≤ (1 : Int32).toNatClampNeg) := inb_of S_33 ⟨(by decide : ¬ ((1 : Int32) < (0 : Int32))), (by decide : (1 : Int32) < (4 : Int32))⟩
  obtain ⟨T_37, h_38, X_39, e_40, W_41, st_42⟩ := stB X_26 hx hZ e_27 A_31 (j := (1 : Int32)) hin_43 (g := (mkF m 52 #[.val (.ref t), .val (.int (1 : Int32)), .val (.int cc)] [(.int ((cc >>> ((8 : Int32) &&& 31)).toInt8.toInt32)), (.int (1 : Int32)), (.ref t)])) rfl rfl (hb hby d2_52)
  have N_44 := Fr.snoc X_39 N_23 hp1
  have V_45 : Arv Z h_38 t kt .byte (4 : Int32) [(.int (own_lo8z cc)), (.int (own_hi8 cc)), (.int y2), (.int y3)] (.int (0 : Int32)) := Arv.set A_31 q_32 S_33 M_34 H_35 U_36 (fits_nar_byte _) W_41 1 rfl (Nat.le_of_ble_eq_true rfl)
  have C_46 : Steps p.tables e below S0 (T_37.setTop (mkF m 53 #[.val (.ref t), .val (.int (1 : Int32)), .val (.int cc)] [])) := by
    refine C0.trans ?_
    refine st_4 _ ?_
    refine XS.ifYes X_2.here hx rfl (pc0 := 3) (pc' := 28) rfl (hb hby d2_3) rfl (by decide) (by decide) (by decide) ?_
    refine XS.iloadN X_2.here hx rfl (hb hby d2_28) rfl ?_
    refine XS.iconst X_2.here hx rfl (hb hby d2_29) ?_
    refine XS.ishl X_2.here hx rfl (hb hby d2_30) rfl ?_
    refine XS.istoreN X_2.here hx rfl (hb hby d2_31) rfl (l' := #[.val (.ref t), .val (.int (0 : Int32)), .val (.int cc)]) rfl ?_
    refine XS.aloadN X_2.here hx rfl (hb hby d2_32) rfl rfl ?_
    refine XS.iloadN X_2.here hx rfl (hb hby d2_33) rfl ?_
    show Steps p.tables e below (T_1.setTop (mkF m 34 #[.val (.ref t), .val (.int (0 : Int32)), .val (.int cc)] [(.int (0 : Int32)), (.ref t)])) _
    refine XS.iinc X_2.here hx rfl (hb hby d2_34) (x := (0 : Int32)) rfl (l' := #[.val (.ref t), .val (.int (1 : Int32)), .val (.int cc)]) rfl ?_
    refine XS.iloadN X_2.here hx rfl (hb hby d2_37) rfl ?_
    refine st_8 _ ?_
    refine XS.ishr X_6.here hx rfl (hb hby d2_41) rfl ?_
    refine XS.i2b X_6.here hx rfl (hb hby d2_42) rfl ?_
    refine st_21 _ ?_
    refine XS.aloadN X_18.here hx rfl (hb hby d2_44) rfl rfl ?_
    refine XS.iloadN X_18.here hx rfl (hb hby d2_45) rfl ?_
    show Steps p.tables e below (T_16.setTop (mkF m 46 #[.val (.ref t), .val (.int (1 : Int32)), .val (.int cc)] [(.int (1 : Int32)), (.ref t)])) _
    refine XS.iloadN X_18.here hx rfl (hb hby d2_46) rfl ?_
    refine st_28 _ ?_
    refine XS.ishr X_26.here hx rfl (hb hby d2_50) rfl ?_
    refine XS.i2b X_26.here hx rfl (hb hby d2_51) rfl ?_
    refine st_42 _ ?_
    exact Steps.refl _
  have K_47 : Keep h0 h_38 [t] := (((Keep.refl _ _).wr W_20 (Or.inl (List.mem_of_getElem? (i := 0) rfl))).wr W_41 (Or.inl (List.mem_of_getElem? (i := 0) rfl)))
  obtain ⟨fs, hr, hrun, hended, hW, hsame⟩ := X_39.leave (v := none) (fun _ => rfl)
  refine ⟨_, _, C_46.trans (X_39.returnOut hx Bd.returns (hb hby d2_53) hr), hrun, hended, _, _, rfl, ?_, ⟨_, rfl⟩, hW, hsame.mono (by decide) (by decide)⟩
  show Q_put_2_0 Z G1 t kt cc y0 y1 y2 y3 h0 n0 (none) T_37.heap _
  rw [e_40]
  exact ⟨rfl, N_44, K_47, V_45⟩
abbrev R_put_2_1 : Room := { frames := 0, cells := 0, slots := 0, locals := 0 }
def Q_put_2_1 (Z : State) (G1 : Int32) (t : Addr) (kt : ClassId) (cc : Int32) (y0 : Int32) (y1 : Int32) (y2 : Int32) (y3 : Int32) (h0 : Heap) (n0 : Nat) (v : Option Value) (h : Heap) (L : List Loc) : Prop := (v = none ∧ Fr n0 L ∧ Keep h0 h [t] ∧ (Arv Z h t kt .byte (4 : Int32) [(.int y0), (.int y1), (.int (own_lo8z cc)), (.int (own_hi8 cc))] (.int (0 : Int32))))
set_option maxRecDepth 65536 in
set_option maxHeartbeats 40000000 in
theorem rm_put_2_1 (l : Launch) (Z : State) (a0 : Array Value) (hw : ∀ d ∈ tables_1, d.before a0 Z = true) (ws : List Jvm.Cond) (G1 : Int32) (HG : own_G l Z a0 G1) (h0 : Heap) (n0 : Nat) (X00 : Old Z n0 h0) (t : Addr) (kt : ClassId) (cc : Int32) (y0 : Int32) (y1 : Int32) (y2 : Int32) (y3 : Int32) (hp0 : Arv Z h0 t kt .byte (4 : Int32) [(.int y0), (.int y1), (.int y2), (.int y3)] (.int (0 : Int32))) (hp1 : n0 ≤ t) :
    own_CP l Z M24 jdk_52_method_4_code 3 none ws R_put_2_1 #[(.ref t), (.int (1 : Int32)), (.int cc)] h0 (Q_put_2_1 Z G1 t kt cc y0 y1 y2 y3 h0 n0) := by
  refine own_P (plainFor_of_name pn_2) ?_
  intro p e s m below meth c s₁ S0 Bd hZ hh hx hby hml hown hnm X0 e0 hS0d
  obtain ⟨O1, P1, OAD, OHI, OLO⟩ := id HG
  have N0 := Fr.nil n0
  have C0 : Steps p.tables e below S0 (s₁.setTop (mkF m 0 #[.val (.ref t), .val (.int (1 : Int32)), .val (.int cc)] [])) := by rw [hS0d]; exact castTop (ef_25 m t (1 : Int32) cc) (Steps.refl _)
  obtain ⟨T_1, X_2, e_3, st_4⟩ := getS X0 hx hZ (host := "") hown (w81 hw) Via.refl e0 (OAD.ext X00.2) (g := (mkF m 0 #[.val (.ref t), .val (.int (1 : Int32)), .val (.int cc)] [])) rfl (hb hby d2_0)
  obtain ⟨T_5, X_6, e_7, st_8⟩ := getS X_2 hx hZ (host := "") hown (w82 hw) Via.refl e_3 (OHI.ext X00.2) (g := (mkF m 38 #[.val (.ref t), .val (.int (3 : Int32)), .val (.int cc)] [(.int cc), (.int (2 : Int32)), (.ref t)])) rfl (hb hby d2_38)
  obtain ⟨c_9, A_10, q_11, S_12, M_13, H_14, U_15⟩ := id hp0
  have hin_22 : ¬ ((2 : Int32) < 0 ∨ c_9.slots.size ≤ (2 : Int32).toNatClampNeg) := inb_of S_12 ⟨(by decide : ¬ ((2 : Int32) < (0 : Int32))), (by decide : (2 : Int32) < (4 : Int32))⟩
  obtain ⟨T_16, h_17, X_18, e_19, W_20, st_21⟩ := stB X_6 hx hZ e_7 A_10 (j := (2 : Int32)) hin_22 (g := (mkF m 43 #[.val (.ref t), .val (.int (3 : Int32)), .val (.int cc)] [(.int ((cc >>> ((0 : Int32) &&& 31)).toInt8.toInt32)), (.int (2 : Int32)), (.ref t)])) rfl rfl (hb hby d2_43)
  have N_23 := Fr.snoc X_18 N0 hp1
  have V_24 : Arv Z h_17 t kt .byte (4 : Int32) [(.int y0), (.int y1), (.int (own_lo8z cc)), (.int y3)] (.int (0 : Int32)) := Arv.set A_10 q_11 S_12 M_13 H_14 U_15 (fits_nar_byte _) W_20 2 rfl (Nat.le_of_ble_eq_true rfl)
  have O_29 : Old Z n0 h_17 := (X00.wr W_20 hp1)
  obtain ⟨T_25, X_26, e_27, st_28⟩ := getS X_18 hx hZ (host := "") hown (w83 hw) Via.refl e_19 (OLO.ext O_29.2) (g := (mkF m 47 #[.val (.ref t), .val (.int (3 : Int32)), .val (.int cc)] [(.int cc), (.int (3 : Int32)), (.ref t)])) rfl (hb hby d2_47)
  obtain ⟨c_30, A_31, q_32, S_33, M_34, H_35, U_36⟩ := id V_24
  have hin_43 : ¬ ((3 : Int32) < 0 ∨ c_30.slots.size ≤ (3 : Int32).toNatClampNeg) := inb_of S_33 ⟨(by decide : ¬ ((3 : Int32) < (0 : Int32))), (by decide : (3 : Int32) < (4 : Int32))⟩
  obtain ⟨T_37, h_38, X_39, e_40, W_41, st_42⟩ := stB X_26 hx hZ e_27 A_31 (j := (3 : Int32)) hin_43 (g := (mkF m 52 #[.val (.ref t), .val (.int (3 : Int32)), .val (.int cc)] [(.int ((cc >>> ((8 : Int32) &&& 31)).toInt8.toInt32)), (.int (3 : Int32)), (.ref t)])) rfl rfl (hb hby d2_52)
  have N_44 := Fr.snoc X_39 N_23 hp1
  have V_45 : Arv Z h_38 t kt .byte (4 : Int32) [(.int y0), (.int y1), (.int (own_lo8z cc)), (.int (own_hi8 cc))] (.int (0 : Int32)) := Arv.set A_31 q_32 S_33 M_34 H_35 U_36 (fits_nar_byte _) W_41 3 rfl (Nat.le_of_ble_eq_true rfl)
  have C_46 : Steps p.tables e below S0 (T_37.setTop (mkF m 53 #[.val (.ref t), .val (.int (3 : Int32)), .val (.int cc)] [])) := by
    refine C0.trans ?_
    refine st_4 _ ?_
    refine XS.ifYes X_2.here hx rfl (pc0 := 3) (pc' := 28) rfl (hb hby d2_3) rfl (by decide) (by decide) (by decide) ?_
    refine XS.iloadN X_2.here hx rfl (hb hby d2_28) rfl ?_
    refine XS.iconst X_2.here hx rfl (hb hby d2_29) ?_
    refine XS.ishl X_2.here hx rfl (hb hby d2_30) rfl ?_
    refine XS.istoreN X_2.here hx rfl (hb hby d2_31) rfl (l' := #[.val (.ref t), .val (.int (2 : Int32)), .val (.int cc)]) rfl ?_
    refine XS.aloadN X_2.here hx rfl (hb hby d2_32) rfl rfl ?_
    refine XS.iloadN X_2.here hx rfl (hb hby d2_33) rfl ?_
    show Steps p.tables e below (T_1.setTop (mkF m 34 #[.val (.ref t), .val (.int (2 : Int32)), .val (.int cc)] [(.int (2 : Int32)), (.ref t)])) _
    refine XS.iinc X_2.here hx rfl (hb hby d2_34) (x := (2 : Int32)) rfl (l' := #[.val (.ref t), .val (.int (3 : Int32)), .val (.int cc)]) rfl ?_
    refine XS.iloadN X_2.here hx rfl (hb hby d2_37) rfl ?_
    refine st_8 _ ?_
    refine XS.ishr X_6.here hx rfl (hb hby d2_41) rfl ?_
    refine XS.i2b X_6.here hx rfl (hb hby d2_42) rfl ?_
    refine st_21 _ ?_
    refine XS.aloadN X_18.here hx rfl (hb hby d2_44) rfl rfl ?_
    refine XS.iloadN X_18.here hx rfl (hb hby d2_45) rfl ?_
    show Steps p.tables e below (T_16.setTop (mkF m 46 #[.val (.ref t), .val (.int (3 : Int32)), .val (.int cc)] [(.int (3 : Int32)), (.ref t)])) _
    refine XS.iloadN X_18.here hx rfl (hb hby d2_46) rfl ?_
    refine st_28 _ ?_
    refine XS.ishr X_26.here hx rfl (hb hby d2_50) rfl ?_
    refine XS.i2b X_26.here hx rfl (hb hby d2_51) rfl ?_
    refine st_42 _ ?_
    exact Steps.refl _
  have K_47 : Keep h0 h_38 [t] := (((Keep.refl _ _).wr W_20 (Or.inl (List.mem_of_getElem? (i := 0) rfl))).wr W_41 (Or.inl (List.mem_of_getElem? (i := 0) rfl)))
  obtain ⟨fs, hr, hrun, hended, hW, hsame⟩ := X_39.leave (v := none) (fun _ => rfl)
  refine ⟨_, _, C_46.trans (X_39.returnOut hx Bd.returns (hb hby d2_53) hr), hrun, hended, _, _, rfl, ?_, ⟨_, rfl⟩, hW, hsame.mono (by decide) (by decide)⟩
  show Q_put_2_1 Z G1 t kt cc y0 y1 y2 y3 h0 n0 (none) T_37.heap _
  rw [e_40]
  exact ⟨rfl, N_44, K_47, V_45⟩
abbrev R_tob_2 : Room := { frames := 2, cells := 1, slots := 4, locals := 24 }
def Q_tob_2 (Z : State) (G1 : Int32) (b : Addr) (k : ClassId) (c0 : Int32) (c1 : Int32) (h0 : Heap) (n0 : Nat) (v : Option Value) (h : Heap) (L : List Loc) : Prop := (∃ t : Addr, ∃ kt : ClassId, v = some (.ref t) ∧ Fr n0 L ∧ Keep h0 h [] ∧ (h0.size ≤ t) ∧ (Arv Z h t kt .byte (4 : Int32) [(.int (own_lo8z c0)), (.int (own_hi8 c0)), (.int (own_lo8z c1)), (.int (own_hi8 c1))] (.int (0 : Int32))))
set_option maxRecDepth 65536 in
set_option maxHeartbeats 40000000 in
theorem rm_tob_2 (l : Launch) (Z : State) (a0 : Array Value) (hw : ∀ d ∈ tables_1, d.before a0 Z = true) (ws : List Jvm.Cond) (G1 : Int32) (HG : own_G l Z a0 G1) (h0 : Heap) (n0 : Nat) (X00 : Old Z n0 h0) (b : Addr) (k : ClassId) (c0 : Int32) (c1 : Int32) (hp0 : Arv Z h0 b k .char (2 : Int32) [(.int c0), (.int c1)] (.int (0 : Int32))) :
    own_CP l Z M51 jdk_52_method_14_code 5 (some (.array .byte)) ws R_tob_2 #[(.ref b), (.int (0 : Int32)), (.int (2 : Int32))] h0 (Q_tob_2 Z G1 b k c0 c1 h0 n0) := by
  refine own_P (plainFor_of_name pn_2) ?_
  intro p e s m below meth c s₁ S0 Bd hZ hh hx hby hml hown hnm X0 e0 hS0d
  obtain ⟨O1, P1, OAD, OHI, OLO⟩ := id HG
  have N0 := Fr.nil n0
  have C0 : Steps p.tables e below S0 (s₁.setTop (mkF m 0 #[.val (.ref b), .val (.int (0 : Int32)), .val (.int (2 : Int32)), .unset, .unset] [])) := by rw [hS0d]; exact castTop (ef_52 m b (0 : Int32) (2 : Int32)) (Steps.refl _)
  obtain ⟨_, _, ⟨T_1, L_1, k_1, n_1⟩, -, X_1, ⟨Lc_1, hQ_1, l_1, y_1, z_1⟩, st_1⟩ := Jvm.LawKit.callS X0 hx (y := M13) hown (mvT hZ (w71 hw)) (mvT hZ (w72 hw)) (mvT hZ (w22 hw)) (mvT hZ (w73 hw)) (by decide) (backOf (W := 0) (rm_nbf_2 l Z a0 hw [] G1 HG h0 n0 X00  ) hZ (w73 hw) (w22 hw) (by decide) (by decide)) (g := (mkF m 1 #[.val (.ref b), .val (.int (0 : Int32)), .val (.int (2 : Int32)), .unset, .unset] [(.int (2 : Int32))])) rfl (by rw [hml]; rfl) (argsL := [(.int (2 : Int32))]) (rest := []) (lenOf pd_55 rfl) rfl (by show 2 * 0 + _ ≤ _; exact Nat.le_of_eq rfl) (hb hby d3_1) (fun _ _ => ⟨rfl, e0, (by decide : 0 + 1 ≤ _), (by decide : 0 + 4 ≤ _)⟩)
  dsimp only [Pt.U, Pt.locs, Pt.cells, Pt.slots] at X_1 l_1 y_1 z_1 st_1 hQ_1
  subst l_1 y_1 z_1
  obtain ⟨a_2, k_3, rfl, N_4, K_5, g_6, g_7⟩ := hQ_1
  have N_8 := Fr.app N0 N_4
  have V_9 : Arv Z T_1.heap b k .char (2 : Int32) [(.int c0), (.int c1)] (.int (0 : Int32)) := (hp0.keep K_5 nin0)
  obtain ⟨c_10, A_11, q_12, S_13, M_14, H_15, U_16⟩ := id V_9
  have hin_17 : ¬ ((0 : Int32) < 0 ∨ c_10.slots.size ≤ (0 : Int32).toNatClampNeg) := inb_of S_13 ⟨(by decide : ¬ ((0 : Int32) < (0 : Int32))), (by decide : (0 : Int32) < (2 : Int32))⟩
  have hat_18 : c_10.slots[(0 : Int32).toNatClampNeg]? = some (.int c0) := Has.at H_15 hin_17 rfl
  have O_19 : Old Z n0 T_1.heap := (X00.keep K_5 all0)
  obtain ⟨_, _, ⟨T_20, L_20, k_20, n_20⟩, -, X_20, ⟨Lc_20, hQ_20, l_20, y_20, z_20⟩, st_20⟩ := Jvm.LawKit.callS X_1 hx (y := M24) hown (mvT hZ (w78 hw)) (mvT hZ (w79 hw)) (mvT hZ (w22 hw)) (mvT hZ (w80 hw)) (by decide) (backOf (W := 0) (rm_put_2_0 l Z a0 hw [] G1 HG T_1.heap n0 O_19 a_2 k_3 c0 (0 : Int32) (0 : Int32) (0 : Int32) (0 : Int32) g_7 (Nat.le_trans (own_n0 X00) g_6)) hZ (w80 hw) (w22 hw) (by decide) (by decide)) (g := (mkF m 20 #[.val (.ref b), .val (.int (0 : Int32)), .val (.int (2 : Int32)), .val (.ref a_2), .val (.int (0 : Int32))] [(.int c0), (.int (0 : Int32)), (.ref a_2)])) rfl (by rw [hml]; rfl) (argsL := [(.ref a_2), (.int (0 : Int32)), (.int c0)]) (rest := []) (lenOf pd_71 rfl) rfl (by show 2 * 0 + _ ≤ _; exact Nat.le_of_eq rfl) (hb hby d3_20) (fun _ _ => ⟨rfl, rfl, (by decide : 1 + 0 ≤ _), (by decide : 4 + 0 ≤ _)⟩)
  dsimp only [Pt.U, Pt.locs, Pt.cells, Pt.slots] at X_20 l_20 y_20 z_20 st_20 hQ_20
  subst l_20 y_20 z_20
  obtain ⟨rfl, N_21, K_22, g_23⟩ := hQ_20
  have N_24 := Fr.app N_8 N_21
  have V_25 : Arv Z T_20.heap b k .char (2 : Int32) [(.int c0), (.int c1)] (.int (0 : Int32)) := (V_9.keep K_22 (ninS (Nat.ne_of_lt (Nat.lt_of_lt_of_le hp0.lt (Nat.le_trans (Nat.le_refl _) g_6))) nin0))
  obtain ⟨c_26, A_27, q_28, S_29, M_30, H_31, U_32⟩ := id V_25
  have hin_33 : ¬ ((1 : Int32) < 0 ∨ c_26.slots.size ≤ (1 : Int32).toNatClampNeg) := inb_of S_29 ⟨(by decide : ¬ ((1 : Int32) < (0 : Int32))), (by decide : (1 : Int32) < (2 : Int32))⟩
  have hat_34 : c_26.slots[(1 : Int32).toNatClampNeg]? = some (.int c1) := Has.at H_31 hin_33 rfl
  have O_35 : Old Z n0 T_20.heap := (O_19.keep K_22 (allS (Nat.le_trans (own_n0 X00) g_6) all0))
  obtain ⟨_, _, ⟨T_36, L_36, k_36, n_36⟩, -, X_36, ⟨Lc_36, hQ_36, l_36, y_36, z_36⟩, st_36⟩ := Jvm.LawKit.callS X_20 hx (y := M24) hown (mvT hZ (w78 hw)) (mvT hZ (w79 hw)) (mvT hZ (w22 hw)) (mvT hZ (w80 hw)) (by decide) (backOf (W := 0) (rm_put_2_1 l Z a0 hw [] G1 HG T_20.heap n0 O_35 a_2 k_3 c1 (own_lo8z c0) (own_hi8 c0) (0 : Int32) (0 : Int32) g_23 (Nat.le_trans (own_n0 X00) g_6)) hZ (w80 hw) (w22 hw) (by decide) (by decide)) (g := (mkF m 20 #[.val (.ref b), .val (.int (1 : Int32)), .val (.int (2 : Int32)), .val (.ref a_2), .val (.int (1 : Int32))] [(.int c1), (.int (1 : Int32)), (.ref a_2)])) rfl (by rw [hml]; rfl) (argsL := [(.ref a_2), (.int (1 : Int32)), (.int c1)]) (rest := []) (lenOf pd_71 rfl) rfl (by show 2 * 0 + _ ≤ _; exact Nat.le_of_eq rfl) (hb hby d3_20) (fun _ _ => ⟨rfl, rfl, (by decide : 1 + 0 ≤ _), (by decide : 4 + 0 ≤ _)⟩)
  dsimp only [Pt.U, Pt.locs, Pt.cells, Pt.slots] at X_36 l_36 y_36 z_36 st_36 hQ_36
  subst l_36 y_36 z_36
  obtain ⟨rfl, N_37, K_38, g_39⟩ := hQ_36
  have N_40 := Fr.app N_24 N_37
  have C_41 : Steps p.tables e below S0 (T_36.setTop (mkF m 33 #[.val (.ref b), .val (.int (2 : Int32)), .val (.int (2 : Int32)), .val (.ref a_2), .val (.int (2 : Int32))] [(.ref a_2)])) := by
    refine C0.trans ?_
    refine XS.iloadN X0.here hx rfl (hb hby d3_0) rfl ?_
    refine st_1 _ ?_
    refine XS.astoreN X_1.here hx rfl (hb hby d3_4) rfl rfl (l' := #[.val (.ref b), .val (.int (0 : Int32)), .val (.int (2 : Int32)), .val (.ref a_2), .unset]) rfl ?_
    refine XS.iconst X_1.here hx rfl (hb hby d3_5) ?_
    refine XS.istore X_1.here hx rfl (hb hby d3_6) rfl (l' := #[.val (.ref b), .val (.int (0 : Int32)), .val (.int (2 : Int32)), .val (.ref a_2), .val (.int (0 : Int32))]) rfl ?_
    refine XS.iload X_1.here hx rfl (hb hby d3_8) rfl ?_
    refine XS.iloadN X_1.here hx rfl (hb hby d3_10) rfl ?_
    refine XS.icmpNo X_1.here hx rfl (hb hby d3_11) rfl (by decide) ?_
    show Steps p.tables e below (T_1.setTop (mkF m 14 #[.val (.ref b), .val (.int (0 : Int32)), .val (.int (2 : Int32)), .val (.ref a_2), .val (.int (0 : Int32))] [])) _
    refine XS.aloadN X_1.here hx rfl (hb hby d3_14) rfl rfl ?_
    refine XS.iload X_1.here hx rfl (hb hby d3_15) rfl ?_
    refine XS.aloadN X_1.here hx rfl (hb hby d3_17) rfl rfl ?_
    refine XS.iloadN X_1.here hx rfl (hb hby d3_18) rfl ?_
    refine X_1.caload hx (j := (0 : Int32)) (v := (.int c0)) (A_11.1) (State.isArrayOf_alike hZ.alike A_11.2.1) A_11.2.2 hin_17 hat_18 (g := (mkF m 19 #[.val (.ref b), .val (.int (0 : Int32)), .val (.int (2 : Int32)), .val (.ref a_2), .val (.int (0 : Int32))] [(.int (0 : Int32)), (.ref b), (.int (0 : Int32)), (.ref a_2)])) rfl rfl (hb hby d3_19) _ ?_
    refine st_20 _ ?_
    refine XS.iinc X_20.here hx rfl (hb hby d3_23) (x := (0 : Int32)) rfl (l' := #[.val (.ref b), .val (.int (1 : Int32)), .val (.int (2 : Int32)), .val (.ref a_2), .val (.int (0 : Int32))]) rfl ?_
    refine XS.iinc X_20.here hx rfl (hb hby d3_26) (x := (0 : Int32)) rfl (l' := #[.val (.ref b), .val (.int (1 : Int32)), .val (.int (2 : Int32)), .val (.ref a_2), .val (.int (1 : Int32))]) rfl ?_
    show Steps p.tables e below (T_20.setTop (mkF m 29 #[.val (.ref b), .val (.int (1 : Int32)), .val (.int (2 : Int32)), .val (.ref a_2), .val (.int (1 : Int32))] [])) _
    refine XS.goto X_20.here hx rfl (pc0 := 29) (pc' := 8) rfl (hb hby d3_29) (by decide) (by decide) ?_
    refine XS.iload X_20.here hx rfl (hb hby d3_8) rfl ?_
    refine XS.iloadN X_20.here hx rfl (hb hby d3_10) rfl ?_
    refine XS.icmpNo X_20.here hx rfl (hb hby d3_11) rfl (by decide) ?_
    refine XS.aloadN X_20.here hx rfl (hb hby d3_14) rfl rfl ?_
    refine XS.iload X_20.here hx rfl (hb hby d3_15) rfl ?_
    refine XS.aloadN X_20.here hx rfl (hb hby d3_17) rfl rfl ?_
    refine XS.iloadN X_20.here hx rfl (hb hby d3_18) rfl ?_
    show Steps p.tables e below (T_20.setTop (mkF m 19 #[.val (.ref b), .val (.int (1 : Int32)), .val (.int (2 : Int32)), .val (.ref a_2), .val (.int (1 : Int32))] [(.int (1 : Int32)), (.ref b), (.int (1 : Int32)), (.ref a_2)])) _
    refine X_20.caload hx (j := (1 : Int32)) (v := (.int c1)) (A_27.1) (State.isArrayOf_alike hZ.alike A_27.2.1) A_27.2.2 hin_33 hat_34 (g := (mkF m 19 #[.val (.ref b), .val (.int (1 : Int32)), .val (.int (2 : Int32)), .val (.ref a_2), .val (.int (1 : Int32))] [(.int (1 : Int32)), (.ref b), (.int (1 : Int32)), (.ref a_2)])) rfl rfl (hb hby d3_19) _ ?_
    refine st_36 _ ?_
    refine XS.iinc X_36.here hx rfl (hb hby d3_23) (x := (1 : Int32)) rfl (l' := #[.val (.ref b), .val (.int (2 : Int32)), .val (.int (2 : Int32)), .val (.ref a_2), .val (.int (1 : Int32))]) rfl ?_
    refine XS.iinc X_36.here hx rfl (hb hby d3_26) (x := (1 : Int32)) rfl (l' := #[.val (.ref b), .val (.int (2 : Int32)), .val (.int (2 : Int32)), .val (.ref a_2), .val (.int (2 : Int32))]) rfl ?_
    refine XS.goto X_36.here hx rfl (pc0 := 29) (pc' := 8) rfl (hb hby d3_29) (by decide) (by decide) ?_
    refine XS.iload X_36.here hx rfl (hb hby d3_8) rfl ?_
    refine XS.iloadN X_36.here hx rfl (hb hby d3_10) rfl ?_
    refine XS.icmpYes X_36.here hx rfl (pc0 := 11) (pc' := 32) rfl (hb hby d3_11) rfl (by decide) (by decide) (by decide) ?_
    show Steps p.tables e below (T_36.setTop (mkF m 32 #[.val (.ref b), .val (.int (2 : Int32)), .val (.int (2 : Int32)), .val (.ref a_2), .val (.int (2 : Int32))] [])) _
    refine XS.aloadN X_36.here hx rfl (hb hby d3_32) rfl rfl ?_
    exact Steps.refl _
  have K_42 : Keep h0 T_36.heap [] := ((((Keep.refl _ _).trans K_5 all0).trans K_22 (allS (Or.inr (Nat.le_trans (Nat.le_refl _) g_6)) all0)).trans K_38 (allS (Or.inr (Nat.le_trans (Nat.le_refl _) g_6)) all0))
  obtain ⟨fs, hr, hrun, hended, hW, hsame⟩ := X_36.leave (v := some (.ref a_2)) (fun h => by rw [Bd.returns] at h; cases h)
  refine ⟨_, _, C_41.trans (retOut X_36 hx Bd.returns rfl (Or.inr (Or.inr (Or.inr (Or.inr ⟨rfl, rfl, rfl⟩)))) (hb hby d3_33) hr), hrun, hended, _, _, rfl, ?_, ⟨_, rfl⟩, hW, hsame.mono (by decide) (by decide)⟩
  show Q_tob_2 Z G1 b k c0 c1 h0 n0 (some (.ref a_2)) T_36.heap _
  exact ⟨a_2, k_3, rfl, N_40, K_42, (Nat.le_trans (Nat.le_refl _) g_6), g_39⟩
abbrev R_get_2_0 : Room := { frames := 0, cells := 0, slots := 0, locals := 0 }
def Q_get_2_0 (Z : State) (G1 : Int32) (t : Addr) (kt : ClassId) (y0 : Int32) (y1 : Int32) (y2 : Int32) (y3 : Int32) (h0 : Heap) (n0 : Nat) (v : Option Value) (h : Heap) (L : List Loc) : Prop := (v = some (.int (own_pair y0 y1)) ∧ Fr n0 L ∧ h = h0)
set_option maxRecDepth 65536 in
set_option maxHeartbeats 40000000 in
theorem rm_get_2_0 (l : Launch) (Z : State) (a0 : Array Value) (hw : ∀ d ∈ tables_1, d.before a0 Z = true) (ws : List Jvm.Cond) (G1 : Int32) (HG : own_G l Z a0 G1) (h0 : Heap) (n0 : Nat) (X00 : Old Z n0 h0) (t : Addr) (kt : ClassId) (y0 : Int32) (y1 : Int32) (y2 : Int32) (y3 : Int32) (hp0 : Arv Z h0 t kt .byte (4 : Int32) [(.int y0), (.int y1), (.int y2), (.int y3)] (.int (0 : Int32))) :
    own_CP l Z M80 jdk_52_method_5_code 2 (some .char) ws R_get_2_0 #[(.ref t), (.int (0 : Int32))] h0 (Q_get_2_0 Z G1 t kt y0 y1 y2 y3 h0 n0) := by
  refine own_P (plainFor_of_name pn_2) ?_
  intro p e s m below meth c s₁ S0 Bd hZ hh hx hby hml hown hnm X0 e0 hS0d
  obtain ⟨O1, P1, OAD, OHI, OLO⟩ := id HG
  have N0 := Fr.nil n0
  have C0 : Steps p.tables e below S0 (s₁.setTop (mkF m 0 #[.val (.ref t), .val (.int (0 : Int32))] [])) := by rw [hS0d]; exact castTop (ef_81 m t (0 : Int32)) (Steps.refl _)
  obtain ⟨T_1, X_2, e_3, st_4⟩ := getS X0 hx hZ (host := "") hown (w81 hw) Via.refl e0 (OAD.ext X00.2) (g := (mkF m 0 #[.val (.ref t), .val (.int (0 : Int32))] [])) rfl (hb hby d4_0)
  obtain ⟨c_5, A_6, q_7, S_8, M_9, H_10, U_11⟩ := id hp0
  have hin_12 : ¬ ((0 : Int32) < 0 ∨ c_5.slots.size ≤ (0 : Int32).toNatClampNeg) := inb_of S_8 ⟨(by decide : ¬ ((0 : Int32) < (0 : Int32))), (by decide : (0 : Int32) < (4 : Int32))⟩
  have hat_13 : c_5.slots[(0 : Int32).toNatClampNeg]? = some (.int y0) := Has.at H_10 hin_12 rfl
  obtain ⟨T_14, X_15, e_16, st_17⟩ := getS X_2 hx hZ (host := "") hown (w82 hw) Via.refl e_3 (OHI.ext X00.2) (g := (mkF m 42 #[.val (.ref t), .val (.int (1 : Int32))] [(.int (y0 &&& (255 : Int32)))])) rfl (hb hby d4_42)
  obtain ⟨c_18, A_19, q_20, S_21, M_22, H_23, U_24⟩ := id hp0
  have hin_25 : ¬ ((1 : Int32) < 0 ∨ c_18.slots.size ≤ (1 : Int32).toNatClampNeg) := inb_of S_21 ⟨(by decide : ¬ ((1 : Int32) < (0 : Int32))), (by decide : (1 : Int32) < (4 : Int32))⟩
  have hat_26 : c_18.slots[(1 : Int32).toNatClampNeg]? = some (.int y1) := Has.at H_23 hin_25 rfl
  obtain ⟨T_27, X_28, e_29, st_30⟩ := getS X_15 hx hZ (host := "") hown (w83 hw) Via.refl e_16 (OLO.ext X00.2) (g := (mkF m 53 #[.val (.ref t), .val (.int (1 : Int32))] [(.int (y1 &&& (255 : Int32))), (.int ((y0 &&& (255 : Int32)) <<< ((0 : Int32) &&& 31)))])) rfl (hb hby d4_53)
  have C_31 : Steps p.tables e below S0 (T_27.setTop (mkF m 59 #[.val (.ref t), .val (.int (1 : Int32))] [(.int ((((y0 &&& (255 : Int32)) <<< ((0 : Int32) &&& 31)) ||| ((y1 &&& (255 : Int32)) <<< ((8 : Int32) &&& 31))).toUInt32.toUInt16.toUInt32.toInt32))])) := by
    refine C0.trans ?_
    refine st_4 _ ?_
    refine XS.ifYes X_2.here hx rfl (pc0 := 3) (pc' := 28) rfl (hb hby d4_3) rfl (by decide) (by decide) (by decide) ?_
    refine XS.iloadN X_2.here hx rfl (hb hby d4_28) rfl ?_
    refine XS.iconst X_2.here hx rfl (hb hby d4_29) ?_
    refine XS.ishl X_2.here hx rfl (hb hby d4_30) rfl ?_
    refine XS.istoreN X_2.here hx rfl (hb hby d4_31) rfl (l' := #[.val (.ref t), .val (.int (0 : Int32))]) rfl ?_
    refine XS.aloadN X_2.here hx rfl (hb hby d4_32) rfl rfl ?_
    refine XS.iloadN X_2.here hx rfl (hb hby d4_33) rfl ?_
    show Steps p.tables e below (T_1.setTop (mkF m 34 #[.val (.ref t), .val (.int (0 : Int32))] [(.int (0 : Int32)), (.ref t)])) _
    refine XS.iinc X_2.here hx rfl (hb hby d4_34) (x := (0 : Int32)) rfl (l' := #[.val (.ref t), .val (.int (1 : Int32))]) rfl ?_
    refine X_2.baloadBytes hx (j := (0 : Int32)) (v := (.int y0)) (by rw [e_3]; exact A_6.1) (State.isArrayOf_alike hZ.alike A_6.2.1) A_6.2.2 hin_12 hat_13 (g := (mkF m 37 #[.val (.ref t), .val (.int (1 : Int32))] [(.int (0 : Int32)), (.ref t)])) rfl rfl (hb hby d4_37) _ ?_
    refine XS.sipush X_2.here hx rfl (hb hby d4_38) ?_
    refine XS.iand X_2.here hx rfl (hb hby d4_41) rfl ?_
    refine st_17 _ ?_
    refine XS.ishl X_15.here hx rfl (hb hby d4_45) rfl ?_
    refine XS.aloadN X_15.here hx rfl (hb hby d4_46) rfl rfl ?_
    refine XS.iloadN X_15.here hx rfl (hb hby d4_47) rfl ?_
    show Steps p.tables e below (T_14.setTop (mkF m 48 #[.val (.ref t), .val (.int (1 : Int32))] [(.int (1 : Int32)), (.ref t), (.int ((y0 &&& (255 : Int32)) <<< ((0 : Int32) &&& 31)))])) _
    refine X_15.baloadBytes hx (j := (1 : Int32)) (v := (.int y1)) (by rw [e_16]; exact A_19.1) (State.isArrayOf_alike hZ.alike A_19.2.1) A_19.2.2 hin_25 hat_26 (g := (mkF m 48 #[.val (.ref t), .val (.int (1 : Int32))] [(.int (1 : Int32)), (.ref t), (.int ((y0 &&& (255 : Int32)) <<< ((0 : Int32) &&& 31)))])) rfl rfl (hb hby d4_48) _ ?_
    refine XS.sipush X_15.here hx rfl (hb hby d4_49) ?_
    refine XS.iand X_15.here hx rfl (hb hby d4_52) rfl ?_
    refine st_30 _ ?_
    refine XS.ishl X_28.here hx rfl (hb hby d4_56) rfl ?_
    refine XS.ior X_28.here hx rfl (hb hby d4_57) rfl ?_
    refine XS.i2c X_28.here hx rfl (hb hby d4_58) rfl ?_
    exact Steps.refl _
  obtain ⟨fs, hr, hrun, hended, hW, hsame⟩ := X_28.leave (v := some (.int (own_pair y0 y1))) (fun h => by rw [Bd.returns] at h; cases h)
  refine ⟨_, _, C_31.trans (retN X_28 hx (t := .char) Bd.returns (by simp) (hb hby d4_59) hr), hrun, hended, _, _, rfl, ?_, ⟨_, rfl⟩, hW, hsame.mono (by decide) (by decide)⟩
  show Q_get_2_0 Z G1 t kt y0 y1 y2 y3 h0 n0 (some (.int (own_pair y0 y1))) T_27.heap _
  rw [e_29]
  exact ⟨rfl, N0, rfl⟩
abbrev R_get_2_1 : Room := { frames := 0, cells := 0, slots := 0, locals := 0 }
def Q_get_2_1 (Z : State) (G1 : Int32) (t : Addr) (kt : ClassId) (y0 : Int32) (y1 : Int32) (y2 : Int32) (y3 : Int32) (h0 : Heap) (n0 : Nat) (v : Option Value) (h : Heap) (L : List Loc) : Prop := (v = some (.int (own_pair y2 y3)) ∧ Fr n0 L ∧ h = h0)
set_option maxRecDepth 65536 in
set_option maxHeartbeats 40000000 in
theorem rm_get_2_1 (l : Launch) (Z : State) (a0 : Array Value) (hw : ∀ d ∈ tables_1, d.before a0 Z = true) (ws : List Jvm.Cond) (G1 : Int32) (HG : own_G l Z a0 G1) (h0 : Heap) (n0 : Nat) (X00 : Old Z n0 h0) (t : Addr) (kt : ClassId) (y0 : Int32) (y1 : Int32) (y2 : Int32) (y3 : Int32) (hp0 : Arv Z h0 t kt .byte (4 : Int32) [(.int y0), (.int y1), (.int y2), (.int y3)] (.int (0 : Int32))) :
    own_CP l Z M80 jdk_52_method_5_code 2 (some .char) ws R_get_2_1 #[(.ref t), (.int (1 : Int32))] h0 (Q_get_2_1 Z G1 t kt y0 y1 y2 y3 h0 n0) := by
  refine own_P (plainFor_of_name pn_2) ?_
  intro p e s m below meth c s₁ S0 Bd hZ hh hx hby hml hown hnm X0 e0 hS0d
  obtain ⟨O1, P1, OAD, OHI, OLO⟩ := id HG
  have N0 := Fr.nil n0
  have C0 : Steps p.tables e below S0 (s₁.setTop (mkF m 0 #[.val (.ref t), .val (.int (1 : Int32))] [])) := by rw [hS0d]; exact castTop (ef_81 m t (1 : Int32)) (Steps.refl _)
  obtain ⟨T_1, X_2, e_3, st_4⟩ := getS X0 hx hZ (host := "") hown (w81 hw) Via.refl e0 (OAD.ext X00.2) (g := (mkF m 0 #[.val (.ref t), .val (.int (1 : Int32))] [])) rfl (hb hby d4_0)
  obtain ⟨c_5, A_6, q_7, S_8, M_9, H_10, U_11⟩ := id hp0
  have hin_12 : ¬ ((2 : Int32) < 0 ∨ c_5.slots.size ≤ (2 : Int32).toNatClampNeg) := inb_of S_8 ⟨(by decide : ¬ ((2 : Int32) < (0 : Int32))), (by decide : (2 : Int32) < (4 : Int32))⟩
  have hat_13 : c_5.slots[(2 : Int32).toNatClampNeg]? = some (.int y2) := Has.at H_10 hin_12 rfl
  obtain ⟨T_14, X_15, e_16, st_17⟩ := getS X_2 hx hZ (host := "") hown (w82 hw) Via.refl e_3 (OHI.ext X00.2) (g := (mkF m 42 #[.val (.ref t), .val (.int (3 : Int32))] [(.int (y2 &&& (255 : Int32)))])) rfl (hb hby d4_42)
  obtain ⟨c_18, A_19, q_20, S_21, M_22, H_23, U_24⟩ := id hp0
  have hin_25 : ¬ ((3 : Int32) < 0 ∨ c_18.slots.size ≤ (3 : Int32).toNatClampNeg) := inb_of S_21 ⟨(by decide : ¬ ((3 : Int32) < (0 : Int32))), (by decide : (3 : Int32) < (4 : Int32))⟩
  have hat_26 : c_18.slots[(3 : Int32).toNatClampNeg]? = some (.int y3) := Has.at H_23 hin_25 rfl
  obtain ⟨T_27, X_28, e_29, st_30⟩ := getS X_15 hx hZ (host := "") hown (w83 hw) Via.refl e_16 (OLO.ext X00.2) (g := (mkF m 53 #[.val (.ref t), .val (.int (3 : Int32))] [(.int (y3 &&& (255 : Int32))), (.int ((y2 &&& (255 : Int32)) <<< ((0 : Int32) &&& 31)))])) rfl (hb hby d4_53)
  have C_31 : Steps p.tables e below S0 (T_27.setTop (mkF m 59 #[.val (.ref t), .val (.int (3 : Int32))] [(.int ((((y2 &&& (255 : Int32)) <<< ((0 : Int32) &&& 31)) ||| ((y3 &&& (255 : Int32)) <<< ((8 : Int32) &&& 31))).toUInt32.toUInt16.toUInt32.toInt32))])) := by
    refine C0.trans ?_
    refine st_4 _ ?_
    refine XS.ifYes X_2.here hx rfl (pc0 := 3) (pc' := 28) rfl (hb hby d4_3) rfl (by decide) (by decide) (by decide) ?_
    refine XS.iloadN X_2.here hx rfl (hb hby d4_28) rfl ?_
    refine XS.iconst X_2.here hx rfl (hb hby d4_29) ?_
    refine XS.ishl X_2.here hx rfl (hb hby d4_30) rfl ?_
    refine XS.istoreN X_2.here hx rfl (hb hby d4_31) rfl (l' := #[.val (.ref t), .val (.int (2 : Int32))]) rfl ?_
    refine XS.aloadN X_2.here hx rfl (hb hby d4_32) rfl rfl ?_
    refine XS.iloadN X_2.here hx rfl (hb hby d4_33) rfl ?_
    show Steps p.tables e below (T_1.setTop (mkF m 34 #[.val (.ref t), .val (.int (2 : Int32))] [(.int (2 : Int32)), (.ref t)])) _
    refine XS.iinc X_2.here hx rfl (hb hby d4_34) (x := (2 : Int32)) rfl (l' := #[.val (.ref t), .val (.int (3 : Int32))]) rfl ?_
    refine X_2.baloadBytes hx (j := (2 : Int32)) (v := (.int y2)) (by rw [e_3]; exact A_6.1) (State.isArrayOf_alike hZ.alike A_6.2.1) A_6.2.2 hin_12 hat_13 (g := (mkF m 37 #[.val (.ref t), .val (.int (3 : Int32))] [(.int (2 : Int32)), (.ref t)])) rfl rfl (hb hby d4_37) _ ?_
    refine XS.sipush X_2.here hx rfl (hb hby d4_38) ?_
    refine XS.iand X_2.here hx rfl (hb hby d4_41) rfl ?_
    refine st_17 _ ?_
    refine XS.ishl X_15.here hx rfl (hb hby d4_45) rfl ?_
    refine XS.aloadN X_15.here hx rfl (hb hby d4_46) rfl rfl ?_
    refine XS.iloadN X_15.here hx rfl (hb hby d4_47) rfl ?_
    show Steps p.tables e below (T_14.setTop (mkF m 48 #[.val (.ref t), .val (.int (3 : Int32))] [(.int (3 : Int32)), (.ref t), (.int ((y2 &&& (255 : Int32)) <<< ((0 : Int32) &&& 31)))])) _
    refine X_15.baloadBytes hx (j := (3 : Int32)) (v := (.int y3)) (by rw [e_16]; exact A_19.1) (State.isArrayOf_alike hZ.alike A_19.2.1) A_19.2.2 hin_25 hat_26 (g := (mkF m 48 #[.val (.ref t), .val (.int (3 : Int32))] [(.int (3 : Int32)), (.ref t), (.int ((y2 &&& (255 : Int32)) <<< ((0 : Int32) &&& 31)))])) rfl rfl (hb hby d4_48) _ ?_
    refine XS.sipush X_15.here hx rfl (hb hby d4_49) ?_
    refine XS.iand X_15.here hx rfl (hb hby d4_52) rfl ?_
    refine st_30 _ ?_
    refine XS.ishl X_28.here hx rfl (hb hby d4_56) rfl ?_
    refine XS.ior X_28.here hx rfl (hb hby d4_57) rfl ?_
    refine XS.i2c X_28.here hx rfl (hb hby d4_58) rfl ?_
    exact Steps.refl _
  obtain ⟨fs, hr, hrun, hended, hW, hsame⟩ := X_28.leave (v := some (.int (own_pair y2 y3))) (fun h => by rw [Bd.returns] at h; cases h)
  refine ⟨_, _, C_31.trans (retN X_28 hx (t := .char) Bd.returns (by simp) (hb hby d4_59) hr), hrun, hended, _, _, rfl, ?_, ⟨_, rfl⟩, hW, hsame.mono (by decide) (by decide)⟩
  show Q_get_2_1 Z G1 t kt y0 y1 y2 y3 h0 n0 (some (.int (own_pair y2 y3))) T_27.heap _
  rw [e_29]
  exact ⟨rfl, N0, rfl⟩
abbrev R_cmp5u_2 : Room := { frames := 0, cells := 0, slots := 0, locals := 0 }
def Q_cmp5u_2 (Z : State) (G1 : Int32) (b : Addr) (k : ClassId) (t : Addr) (kt : ClassId) (c0 : Int32) (c1 : Int32) (h0 : Heap) (n0 : Nat) (v : Option Value) (h : Heap) (L : List Loc) : Prop := (v = some (.int (0 : Int32)) ∧ Fr n0 L ∧ Keep h0 h [t] ∧ ((255 : Int32) < c0)) ∨ (v = some (.int (1 : Int32)) ∧ Fr n0 L ∧ Keep h0 h [t] ∧ ((255 : Int32) < c1)) ∨ (v = some (.int (2 : Int32)) ∧ Fr n0 L ∧ Keep h0 h [t] ∧ (Arv Z h t kt .byte (2 : Int32) [(.int (own_lo8 c0)), (.int (own_lo8 c1))] (.int (0 : Int32))) ∧ (¬ ((255 : Int32) < c0)) ∧ (¬ ((255 : Int32) < c1)))
set_option maxRecDepth 65536 in
set_option maxHeartbeats 40000000 in
theorem rm_cmp5u_2 (l : Launch) (Z : State) (a0 : Array Value) (hw : ∀ d ∈ tables_1, d.before a0 Z = true) (ws : List Jvm.Cond) (G1 : Int32) (HG : own_G l Z a0 G1) (h0 : Heap) (n0 : Nat) (X00 : Old Z n0 h0) (b : Addr) (k : ClassId) (t : Addr) (kt : ClassId) (c0 : Int32) (c1 : Int32) (hp0 : Arv Z h0 b k .char (2 : Int32) [(.int c0), (.int c1)] (.int (0 : Int32))) (hp1 : Arv Z h0 t kt .byte (2 : Int32) [(.int (0 : Int32)), (.int (0 : Int32))] (.int (0 : Int32))) (hp2 : n0 ≤ t) (hp3 : b ≠ t) :
    own_CP l Z M106 jdk_52_method_21_code 7 (some .int) ws R_cmp5u_2 #[(.ref b), (.int (0 : Int32)), (.ref t), (.int (0 : Int32)), (.int (2 : Int32))] h0 (Q_cmp5u_2 Z G1 b k t kt c0 c1 h0 n0) := by
  refine own_P (plainFor_of_name pn_2) ?_
  intro p e s m below meth c s₁ S0 Bd hZ hh hx hby hml hown hnm X0 e0 hS0d
  obtain ⟨O1, P1, OAD, OHI, OLO⟩ := id HG
  have N0 := Fr.nil n0
  have C0 : Steps p.tables e below S0 (s₁.setTop (mkF m 0 #[.val (.ref b), .val (.int (0 : Int32)), .val (.ref t), .val (.int (0 : Int32)), .val (.int (2 : Int32)), .unset, .unset] [])) := by rw [hS0d]; exact castTop (ef_107 m b (0 : Int32) t (0 : Int32) (2 : Int32)) (Steps.refl _)
  obtain ⟨c_1, A_2, q_3, S_4, M_5, H_6, U_7⟩ := id hp0
  have hin_8 : ¬ ((0 : Int32) < 0 ∨ c_1.slots.size ≤ (0 : Int32).toNatClampNeg) := inb_of S_4 ⟨(by decide : ¬ ((0 : Int32) < (0 : Int32))), (by decide : (0 : Int32) < (2 : Int32))⟩
  have hat_9 : c_1.slots[(0 : Int32).toNatClampNeg]? = some (.int c0) := Has.at H_6 hin_8 rfl
  have C_10 : Steps p.tables e below S0 (s₁.setTop (mkF m 20 #[.val (.ref b), .val (.int (0 : Int32)), .val (.ref t), .val (.int (0 : Int32)), .val (.int (2 : Int32)), .val (.int (0 : Int32)), .val (.int c0)] [(.int (255 : Int32)), (.int c0)])) := by
    refine C0.trans ?_
    refine XS.iconst X0.here hx rfl (hb hby d5_0) ?_
    refine XS.istore X0.here hx rfl (hb hby d5_1) rfl (l' := #[.val (.ref b), .val (.int (0 : Int32)), .val (.ref t), .val (.int (0 : Int32)), .val (.int (2 : Int32)), .val (.int (0 : Int32)), .unset]) rfl ?_
    refine XS.iload X0.here hx rfl (hb hby d5_3) rfl ?_
    refine XS.iload X0.here hx rfl (hb hby d5_5) rfl ?_
    refine XS.icmpNo X0.here hx rfl (hb hby d5_7) rfl (by decide) ?_
    refine XS.aloadN X0.here hx rfl (hb hby d5_10) rfl rfl ?_
    refine XS.iloadN X0.here hx rfl (hb hby d5_11) rfl ?_
    refine X0.caload hx (j := (0 : Int32)) (v := (.int c0)) (by rw [e0]; exact A_2.1) (State.isArrayOf_alike hZ.alike A_2.2.1) A_2.2.2 hin_8 hat_9 (g := (mkF m 12 #[.val (.ref b), .val (.int (0 : Int32)), .val (.ref t), .val (.int (0 : Int32)), .val (.int (2 : Int32)), .val (.int (0 : Int32)), .unset] [(.int (0 : Int32)), (.ref b)])) rfl rfl (hb hby d5_12) _ ?_
    show Steps p.tables e below (s₁.setTop (mkF m 13 #[.val (.ref b), .val (.int (0 : Int32)), .val (.ref t), .val (.int (0 : Int32)), .val (.int (2 : Int32)), .val (.int (0 : Int32)), .unset] [(.int c0)])) _
    refine XS.istore X0.here hx rfl (hb hby d5_13) rfl (l' := #[.val (.ref b), .val (.int (0 : Int32)), .val (.ref t), .val (.int (0 : Int32)), .val (.int (2 : Int32)), .val (.int (0 : Int32)), .val (.int c0)]) rfl ?_
    refine XS.iload X0.here hx rfl (hb hby d5_15) rfl ?_
    refine XS.sipush X0.here hx rfl (hb hby d5_17) ?_
    exact Steps.refl _
  by_cases hc_11 : (255 : Int32) < c0
  · skip
    have C_12 : Steps p.tables e below S0 (s₁.setTop (mkF m 25 #[.val (.ref b), .val (.int (0 : Int32)), .val (.ref t), .val (.int (0 : Int32)), .val (.int (2 : Int32)), .val (.int (0 : Int32)), .val (.int c0)] [(.int (0 : Int32))])) := by
      refine C_10.trans ?_
      refine XS.icmpNo X0.here hx rfl (hb hby d5_20) rfl (ii_le_f hc_11) ?_
      refine XS.iload X0.here hx rfl (hb hby d5_23) rfl ?_
      exact Steps.refl _
    have K_13 : Keep h0 h0 [t] := (Keep.refl _ _)
    obtain ⟨fs, hr, hrun, hended, hW, hsame⟩ := X0.leave (v := some (.int (0 : Int32))) (fun h => by rw [Bd.returns] at h; cases h)
    refine ⟨_, _, C_12.trans (retOut X0 hx Bd.returns rfl (Or.inl ⟨rfl, Or.inl rfl, _, rfl⟩) (hb hby d5_25) hr), hrun, hended, _, _, rfl, ?_, ⟨_, rfl⟩, hW, hsame.mono (by decide) (by decide)⟩
    show Q_cmp5u_2 Z G1 b k t kt c0 c1 h0 n0 (some (.int (0 : Int32))) s₁.heap _
    rw [e0]
    exact Or.inl ⟨rfl, N0, K_13, hc_11⟩
  · skip
    obtain ⟨c_14, A_15, q_16, S_17, M_18, H_19, U_20⟩ := id hp1
    have hin_27 : ¬ ((0 : Int32) < 0 ∨ c_14.slots.size ≤ (0 : Int32).toNatClampNeg) := inb_of S_17 ⟨(by decide : ¬ ((0 : Int32) < (0 : Int32))), (by decide : (0 : Int32) < (2 : Int32))⟩
    obtain ⟨T_21, h_22, X_23, e_24, W_25, st_26⟩ := stB X0 hx hZ e0 A_15 (j := (0 : Int32)) hin_27 (g := (mkF m 31 #[.val (.ref b), .val (.int (0 : Int32)), .val (.ref t), .val (.int (0 : Int32)), .val (.int (2 : Int32)), .val (.int (0 : Int32)), .val (.int c0)] [(.int (c0.toInt8.toInt32)), (.int (0 : Int32)), (.ref t)])) rfl rfl (hb hby d5_31)
    have N_28 := Fr.snoc X_23 N0 hp2
    have V_29 : Arv Z h_22 t kt .byte (2 : Int32) [(.int (own_lo8 c0)), (.int (0 : Int32))] (.int (0 : Int32)) := Arv.set A_15 q_16 S_17 M_18 H_19 U_20 (fits_nar_byte _) W_25 0 rfl (Nat.le_of_ble_eq_true rfl)
    have V_30 : Arv Z h_22 b k .char (2 : Int32) [(.int c0), (.int c1)] (.int (0 : Int32)) := (hp0.other W_25 hp3)
    obtain ⟨c_31, A_32, q_33, S_34, M_35, H_36, U_37⟩ := id V_30
    have hin_38 : ¬ ((1 : Int32) < 0 ∨ c_31.slots.size ≤ (1 : Int32).toNatClampNeg) := inb_of S_34 ⟨(by decide : ¬ ((1 : Int32) < (0 : Int32))), (by decide : (1 : Int32) < (2 : Int32))⟩
    have hat_39 : c_31.slots[(1 : Int32).toNatClampNeg]? = some (.int c1) := Has.at H_36 hin_38 rfl
    have C_40 : Steps p.tables e below S0 (T_21.setTop (mkF m 20 #[.val (.ref b), .val (.int (1 : Int32)), .val (.ref t), .val (.int (1 : Int32)), .val (.int (2 : Int32)), .val (.int (1 : Int32)), .val (.int c1)] [(.int (255 : Int32)), (.int c1)])) := by
      refine C_10.trans ?_
      refine XS.icmpYes X0.here hx rfl (pc0 := 20) (pc' := 26) rfl (hb hby d5_20) rfl (ii_le_t hc_11) (by decide) (by decide) ?_
      refine XS.aloadN X0.here hx rfl (hb hby d5_26) rfl rfl ?_
      refine XS.iloadN X0.here hx rfl (hb hby d5_27) rfl ?_
      refine XS.iload X0.here hx rfl (hb hby d5_28) rfl ?_
      refine XS.i2b X0.here hx rfl (hb hby d5_30) rfl ?_
      refine st_26 _ ?_
      refine XS.iinc X_23.here hx rfl (hb hby d5_32) (x := (0 : Int32)) rfl (l' := #[.val (.ref b), .val (.int (1 : Int32)), .val (.ref t), .val (.int (0 : Int32)), .val (.int (2 : Int32)), .val (.int (0 : Int32)), .val (.int c0)]) rfl ?_
      refine XS.iinc X_23.here hx rfl (hb hby d5_35) (x := (0 : Int32)) rfl (l' := #[.val (.ref b), .val (.int (1 : Int32)), .val (.ref t), .val (.int (1 : Int32)), .val (.int (2 : Int32)), .val (.int (0 : Int32)), .val (.int c0)]) rfl ?_
      show Steps p.tables e below (T_21.setTop (mkF m 38 #[.val (.ref b), .val (.int (1 : Int32)), .val (.ref t), .val (.int (1 : Int32)), .val (.int (2 : Int32)), .val (.int (0 : Int32)), .val (.int c0)] [])) _
      refine XS.iinc X_23.here hx rfl (hb hby d5_38) (x := (0 : Int32)) rfl (l' := #[.val (.ref b), .val (.int (1 : Int32)), .val (.ref t), .val (.int (1 : Int32)), .val (.int (2 : Int32)), .val (.int (1 : Int32)), .val (.int c0)]) rfl ?_
      refine XS.goto X_23.here hx rfl (pc0 := 41) (pc' := 3) rfl (hb hby d5_41) (by decide) (by decide) ?_
      refine XS.iload X_23.here hx rfl (hb hby d5_3) rfl ?_
      refine XS.iload X_23.here hx rfl (hb hby d5_5) rfl ?_
      refine XS.icmpNo X_23.here hx rfl (hb hby d5_7) rfl (by decide) ?_
      refine XS.aloadN X_23.here hx rfl (hb hby d5_10) rfl rfl ?_
      refine XS.iloadN X_23.here hx rfl (hb hby d5_11) rfl ?_
      refine X_23.caload hx (j := (1 : Int32)) (v := (.int c1)) (by rw [e_24]; exact A_32.1) (State.isArrayOf_alike hZ.alike A_32.2.1) A_32.2.2 hin_38 hat_39 (g := (mkF m 12 #[.val (.ref b), .val (.int (1 : Int32)), .val (.ref t), .val (.int (1 : Int32)), .val (.int (2 : Int32)), .val (.int (1 : Int32)), .val (.int c0)] [(.int (1 : Int32)), (.ref b)])) rfl rfl (hb hby d5_12) _ ?_
      show Steps p.tables e below (T_21.setTop (mkF m 13 #[.val (.ref b), .val (.int (1 : Int32)), .val (.ref t), .val (.int (1 : Int32)), .val (.int (2 : Int32)), .val (.int (1 : Int32)), .val (.int c0)] [(.int c1)])) _
      refine XS.istore X_23.here hx rfl (hb hby d5_13) rfl (l' := #[.val (.ref b), .val (.int (1 : Int32)), .val (.ref t), .val (.int (1 : Int32)), .val (.int (2 : Int32)), .val (.int (1 : Int32)), .val (.int c1)]) rfl ?_
      refine XS.iload X_23.here hx rfl (hb hby d5_15) rfl ?_
      refine XS.sipush X_23.here hx rfl (hb hby d5_17) ?_
      exact Steps.refl _
    by_cases hc_41 : (255 : Int32) < c1
    · skip
      have C_42 : Steps p.tables e below S0 (T_21.setTop (mkF m 25 #[.val (.ref b), .val (.int (1 : Int32)), .val (.ref t), .val (.int (1 : Int32)), .val (.int (2 : Int32)), .val (.int (1 : Int32)), .val (.int c1)] [(.int (1 : Int32))])) := by
        refine C_40.trans ?_
        refine XS.icmpNo X_23.here hx rfl (hb hby d5_20) rfl (ii_le_f hc_41) ?_
        refine XS.iload X_23.here hx rfl (hb hby d5_23) rfl ?_
        exact Steps.refl _
      have K_43 : Keep h0 h_22 [t] := ((Keep.refl _ _).wr W_25 (Or.inl (List.mem_of_getElem? (i := 0) rfl)))
      obtain ⟨fs, hr, hrun, hended, hW, hsame⟩ := X_23.leave (v := some (.int (1 : Int32))) (fun h => by rw [Bd.returns] at h; cases h)
      refine ⟨_, _, C_42.trans (retOut X_23 hx Bd.returns rfl (Or.inl ⟨rfl, Or.inl rfl, _, rfl⟩) (hb hby d5_25) hr), hrun, hended, _, _, rfl, ?_, ⟨_, rfl⟩, hW, hsame.mono (by decide) (by decide)⟩
      show Q_cmp5u_2 Z G1 b k t kt c0 c1 h0 n0 (some (.int (1 : Int32))) T_21.heap _
      rw [e_24]
      exact Or.inr (Or.inl ⟨rfl, N_28, K_43, hc_41⟩)
    · skip
      obtain ⟨c_44, A_45, q_46, S_47, M_48, H_49, U_50⟩ := id V_29
      have hin_57 : ¬ ((1 : Int32) < 0 ∨ c_44.slots.size ≤ (1 : Int32).toNatClampNeg) := inb_of S_47 ⟨(by decide : ¬ ((1 : Int32) < (0 : Int32))), (by decide : (1 : Int32) < (2 : Int32))⟩
      obtain ⟨T_51, h_52, X_53, e_54, W_55, st_56⟩ := stB X_23 hx hZ e_24 A_45 (j := (1 : Int32)) hin_57 (g := (mkF m 31 #[.val (.ref b), .val (.int (1 : Int32)), .val (.ref t), .val (.int (1 : Int32)), .val (.int (2 : Int32)), .val (.int (1 : Int32)), .val (.int c1)] [(.int (c1.toInt8.toInt32)), (.int (1 : Int32)), (.ref t)])) rfl rfl (hb hby d5_31)
      have N_58 := Fr.snoc X_53 N_28 hp2
      have V_59 : Arv Z h_52 t kt .byte (2 : Int32) [(.int (own_lo8 c0)), (.int (own_lo8 c1))] (.int (0 : Int32)) := Arv.set A_45 q_46 S_47 M_48 H_49 U_50 (fits_nar_byte _) W_55 1 rfl (Nat.le_of_ble_eq_true rfl)
      have C_60 : Steps p.tables e below S0 (T_51.setTop (mkF m 46 #[.val (.ref b), .val (.int (2 : Int32)), .val (.ref t), .val (.int (2 : Int32)), .val (.int (2 : Int32)), .val (.int (2 : Int32)), .val (.int c1)] [(.int (2 : Int32))])) := by
        refine C_40.trans ?_
        refine XS.icmpYes X_23.here hx rfl (pc0 := 20) (pc' := 26) rfl (hb hby d5_20) rfl (ii_le_t hc_41) (by decide) (by decide) ?_
        refine XS.aloadN X_23.here hx rfl (hb hby d5_26) rfl rfl ?_
        refine XS.iloadN X_23.here hx rfl (hb hby d5_27) rfl ?_
        refine XS.iload X_23.here hx rfl (hb hby d5_28) rfl ?_
        refine XS.i2b X_23.here hx rfl (hb hby d5_30) rfl ?_
        refine st_56 _ ?_
        refine XS.iinc X_53.here hx rfl (hb hby d5_32) (x := (1 : Int32)) rfl (l' := #[.val (.ref b), .val (.int (2 : Int32)), .val (.ref t), .val (.int (1 : Int32)), .val (.int (2 : Int32)), .val (.int (1 : Int32)), .val (.int c1)]) rfl ?_
        refine XS.iinc X_53.here hx rfl (hb hby d5_35) (x := (1 : Int32)) rfl (l' := #[.val (.ref b), .val (.int (2 : Int32)), .val (.ref t), .val (.int (2 : Int32)), .val (.int (2 : Int32)), .val (.int (1 : Int32)), .val (.int c1)]) rfl ?_
        show Steps p.tables e below (T_51.setTop (mkF m 38 #[.val (.ref b), .val (.int (2 : Int32)), .val (.ref t), .val (.int (2 : Int32)), .val (.int (2 : Int32)), .val (.int (1 : Int32)), .val (.int c1)] [])) _
        refine XS.iinc X_53.here hx rfl (hb hby d5_38) (x := (1 : Int32)) rfl (l' := #[.val (.ref b), .val (.int (2 : Int32)), .val (.ref t), .val (.int (2 : Int32)), .val (.int (2 : Int32)), .val (.int (2 : Int32)), .val (.int c1)]) rfl ?_
        refine XS.goto X_53.here hx rfl (pc0 := 41) (pc' := 3) rfl (hb hby d5_41) (by decide) (by decide) ?_
        refine XS.iload X_53.here hx rfl (hb hby d5_3) rfl ?_
        refine XS.iload X_53.here hx rfl (hb hby d5_5) rfl ?_
        refine XS.icmpYes X_53.here hx rfl (pc0 := 7) (pc' := 44) rfl (hb hby d5_7) rfl (by decide) (by decide) (by decide) ?_
        refine XS.iload X_53.here hx rfl (hb hby d5_44) rfl ?_
        exact Steps.refl _
      have K_61 : Keep h0 h_52 [t] := (((Keep.refl _ _).wr W_25 (Or.inl (List.mem_of_getElem? (i := 0) rfl))).wr W_55 (Or.inl (List.mem_of_getElem? (i := 0) rfl)))
      obtain ⟨fs, hr, hrun, hended, hW, hsame⟩ := X_53.leave (v := some (.int (2 : Int32))) (fun h => by rw [Bd.returns] at h; cases h)
      refine ⟨_, _, C_60.trans (retOut X_53 hx Bd.returns rfl (Or.inl ⟨rfl, Or.inl rfl, _, rfl⟩) (hb hby d5_46) hr), hrun, hended, _, _, rfl, ?_, ⟨_, rfl⟩, hW, hsame.mono (by decide) (by decide)⟩
      show Q_cmp5u_2 Z G1 b k t kt c0 c1 h0 n0 (some (.int (2 : Int32))) T_51.heap _
      rw [e_54]
      exact Or.inr (Or.inr (⟨rfl, N_58, K_61, V_59, hc_11, hc_41⟩))
abbrev R_cmp3u_2 : Room := { frames := 3, cells := 2, slots := 6, locals := 40 }
def Q_cmp3u_2 (Z : State) (G1 : Int32) (b : Addr) (k : ClassId) (c0 : Int32) (c1 : Int32) (h0 : Heap) (n0 : Nat) (v : Option Value) (h : Heap) (L : List Loc) : Prop := (∃ t : Addr, ∃ kt : ClassId, v = some (.ref t) ∧ Fr n0 L ∧ Keep h0 h [] ∧ (h0.size ≤ t) ∧ (Arv Z h t kt .byte (2 : Int32) [(.int (own_lo8 c0)), (.int (own_lo8 c1))] (.int (0 : Int32)))) ∨ (∃ t : Addr, ∃ kt : ClassId, v = some (.ref t) ∧ Fr n0 L ∧ Keep h0 h [] ∧ (h0.size ≤ t) ∧ (Arv Z h t kt .byte (4 : Int32) [(.int (own_lo8z c0)), (.int (own_hi8 c0)), (.int (own_lo8z c1)), (.int (own_hi8 c1))] (.int (0 : Int32))))
set_option maxRecDepth 65536 in
set_option maxHeartbeats 40000000 in
theorem rm_cmp3u_2 (l : Launch) (Z : State) (a0 : Array Value) (hw : ∀ d ∈ tables_1, d.before a0 Z = true) (ws : List Jvm.Cond) (G1 : Int32) (HG : own_G l Z a0 G1) (h0 : Heap) (n0 : Nat) (X00 : Old Z n0 h0) (b : Addr) (k : ClassId) (c0 : Int32) (c1 : Int32) (hp0 : Arv Z h0 b k .char (2 : Int32) [(.int c0), (.int c1)] (.int (0 : Int32))) (hl0 : ¬ (c0 < (0 : Int32))) (hl1 : ¬ (c1 < (0 : Int32))) (hm0 : ¬ ((65535 : Int32) < c0)) (hm1 : ¬ ((65535 : Int32) < c1)) :
    own_CP l Z M133 jdk_52_method_16_code 6 (some (.array .byte)) ws R_cmp3u_2 #[(.ref b), (.int (0 : Int32)), (.int (2 : Int32))] h0 (Q_cmp3u_2 Z G1 b k c0 c1 h0 n0) := by
  refine own_P (plainFor_of_name pn_2) ?_
  intro p e s m below meth c s₁ S0 Bd hZ hh hx hby hml hown hnm X0 e0 hS0d
  obtain ⟨O1, P1, OAD, OHI, OLO⟩ := id HG
  have N0 := Fr.nil n0
  have C0 : Steps p.tables e below S0 (s₁.setTop (mkF m 0 #[.val (.ref b), .val (.int (0 : Int32)), .val (.int (2 : Int32)), .unset, .unset, .unset] [])) := by rw [hS0d]; exact castTop (ef_134 m b (0 : Int32) (2 : Int32)) (Steps.refl _)
  obtain ⟨T_1, h_2, k_3, X_4, e_5, E_6, A_7, st_8⟩ := newP (aty := .byte) X0 hx hZ (w24 hw) e0 (g := (mkF m 1 #[.val (.ref b), .val (.int (0 : Int32)), .val (.int (2 : Int32)), .unset, .unset, .unset] [(.int (2 : Int32))])) rfl (hb hby d6_1) rfl (by decide : ¬ ((2 : Int32) < (0 : Int32))) (cap := 2) (by decide : (2 : Int32).toNatClampNeg ≤ 2) (by decide) (by decide) (by decide)
  obtain ⟨a_9, g_10⟩ : ∃ z, z = h0.size := ⟨_, rfl⟩
  rw [← g_10] at A_7 st_8
  have V_12 : Arv Z h_2 a_9 k_3 .byte (2 : Int32) [] (.int (0 : Int32)) := Arv.new A_7 (by decide : ¬ ((2 : Int32) < (0 : Int32)))
  have V_11 : Arv Z h_2 a_9 k_3 .byte (2 : Int32) [(.int (0 : Int32)), (.int (0 : Int32))] (.int (0 : Int32)) := (V_12.pad (pad_rep [] (.int (0 : Int32)) 2))
  have V_13 : Arv Z h_2 b k .char (2 : Int32) [(.int c0), (.int c1)] (.int (0 : Int32)) := (hp0.ext E_6)
  have O_14 : Old Z n0 h_2 := (X00.ext E_6)
  obtain ⟨_, _, ⟨T_15, L_15, k_15, n_15⟩, -, X_15, ⟨Lc_15, hQ_15, l_15, y_15, z_15⟩, st_15⟩ := Jvm.LawKit.callS X_4 hx (y := M106) hown (mvT hZ (w25 hw)) (mvT hZ (w26 hw)) (mvT hZ (w22 hw)) (mvT hZ (w27 hw)) (by decide) (backOf (W := 0) (rm_cmp5u_2 l Z a0 hw [] G1 HG h_2 n0 O_14 b k a_9 k_3 c0 c1 V_13 V_11 (Nat.le_trans (own_n0 X00) (Nat.le_of_eq g_10.symm)) (Nat.ne_of_lt (Nat.lt_of_lt_of_le hp0.lt (Nat.le_trans (Nat.le_refl _) (Nat.le_of_eq g_10.symm))))) hZ (w27 hw) (w22 hw) (by decide) (by decide)) (g := (mkF m 9 #[.val (.ref b), .val (.int (0 : Int32)), .val (.int (2 : Int32)), .val (.ref a_9), .unset, .unset] [(.int (2 : Int32)), (.int (0 : Int32)), (.ref a_9), (.int (0 : Int32)), (.ref b)])) rfl (by rw [hml]; rfl) (argsL := [(.ref b), (.int (0 : Int32)), (.ref a_9), (.int (0 : Int32)), (.int (2 : Int32))]) (rest := []) (lenOf pd_144 rfl) rfl (by show 2 * 0 + _ ≤ _; exact Nat.le_of_eq rfl) (hb hby d6_9) (fun _ _ => ⟨rfl, e_5, (by decide : 1 + 0 ≤ _), (by decide : 2 + 0 ≤ _)⟩)
  dsimp only [Pt.U, Pt.locs, Pt.cells, Pt.slots] at X_15 l_15 y_15 z_15 st_15 hQ_15
  subst l_15 y_15 z_15
  have C_16 : Steps p.tables e below S0 (T_1.setTop (mkF m 9 #[.val (.ref b), .val (.int (0 : Int32)), .val (.int (2 : Int32)), .val (.ref a_9), .unset, .unset] [(.int (2 : Int32)), (.int (0 : Int32)), (.ref a_9), (.int (0 : Int32)), (.ref b)])) := by
    refine C0.trans ?_
    refine XS.iloadN X0.here hx rfl (hb hby d6_0) rfl ?_
    refine st_8 _ ?_
    refine XS.astoreN X_4.here hx rfl (hb hby d6_3) rfl rfl (l' := #[.val (.ref b), .val (.int (0 : Int32)), .val (.int (2 : Int32)), .val (.ref a_9), .unset, .unset]) rfl ?_
    refine XS.aloadN X_4.here hx rfl (hb hby d6_4) rfl rfl ?_
    refine XS.iloadN X_4.here hx rfl (hb hby d6_5) rfl ?_
    refine XS.aloadN X_4.here hx rfl (hb hby d6_6) rfl rfl ?_
    refine XS.iconst X_4.here hx rfl (hb hby d6_7) ?_
    refine XS.iloadN X_4.here hx rfl (hb hby d6_8) rfl ?_
    show Steps p.tables e below (T_1.setTop (mkF m 9 #[.val (.ref b), .val (.int (0 : Int32)), .val (.int (2 : Int32)), .val (.ref a_9), .unset, .unset] [(.int (2 : Int32)), (.int (0 : Int32)), (.ref a_9), (.int (0 : Int32)), (.ref b)])) _
    exact Steps.refl _
  rcases hQ_15 with hQ_17 | hQ_18 | hQ_19
  · skip
    obtain ⟨rfl, N_20, K_21, g_22⟩ := hQ_17
    have N_23 := Fr.app N0 N_20
    have V_24 : Arv Z T_15.heap b k .char (2 : Int32) [(.int c0), (.int c1)] (.int (0 : Int32)) := (V_13.keep K_21 (ninS (Nat.ne_of_lt (Nat.lt_of_lt_of_le hp0.lt (Nat.le_trans (Nat.le_refl _) (Nat.le_of_eq g_10.symm)))) nin0))
    have O_25 : Old Z n0 T_15.heap := (O_14.keep K_21 (allS (Nat.le_trans (own_n0 X00) (Nat.le_of_eq g_10.symm)) all0))
    obtain ⟨_, _, ⟨T_26, L_26, k_26, n_26⟩, -, X_26, ⟨Lc_26, hQ_26, l_26, y_26, z_26⟩, st_26⟩ := Jvm.LawKit.callS X_15 hx (y := M51) hown (mvT hZ (w68 hw)) (mvT hZ (w69 hw)) (mvT hZ (w22 hw)) (mvT hZ (w70 hw)) (by decide) (backOf (W := 0) (rm_tob_2 l Z a0 hw [] G1 HG T_15.heap n0 O_25 b k c0 c1 V_24) hZ (w70 hw) (w22 hw) (by decide) (by decide)) (g := (mkF m 23 #[.val (.ref b), .val (.int (0 : Int32)), .val (.int (2 : Int32)), .val (.ref a_9), .val (.int (0 : Int32)), .unset] [(.int (2 : Int32)), (.int (0 : Int32)), (.ref b)])) rfl (by rw [hml]; rfl) (argsL := [(.ref b), (.int (0 : Int32)), (.int (2 : Int32))]) (rest := []) (lenOf pd_156 rfl) rfl (by show 2 * 0 + _ ≤ _; exact Nat.le_of_eq rfl) (hb hby d6_23) (fun _ _ => ⟨rfl, rfl, (by decide : 1 + 1 ≤ _), (by decide : 2 + 4 ≤ _)⟩)
    dsimp only [Pt.U, Pt.locs, Pt.cells, Pt.slots] at X_26 l_26 y_26 z_26 st_26 hQ_26
    subst l_26 y_26 z_26
    obtain ⟨a_27, k_28, rfl, N_29, K_30, g_31, g_32⟩ := hQ_26
    have N_33 := Fr.app N_23 N_29
    have O_34 : Old Z n0 T_26.heap := (O_25.keep K_30 all0)
    obtain ⟨_, _, ⟨T_35, L_35, k_35, n_35⟩, -, X_35, ⟨Lc_35, hQ_35, l_35, y_35, z_35⟩, st_35⟩ := Jvm.LawKit.callS X_26 hx (y := M80) hown (mvT hZ (w84 hw)) (mvT hZ (w85 hw)) (mvT hZ (w22 hw)) (mvT hZ (w86 hw)) (by decide) (backOf (W := 0) (rm_get_2_0 l Z a0 hw [] G1 HG T_26.heap n0 O_34 a_27 k_28 (own_lo8z c0) (own_hi8 c0) (own_lo8z c1) (own_hi8 c1) g_32) hZ (w86 hw) (w22 hw) (by decide) (by decide)) (g := (mkF m 32 #[.val (.ref b), .val (.int (0 : Int32)), .val (.int (2 : Int32)), .val (.ref a_9), .val (.int (0 : Int32)), .val (.ref a_27)] [(.int (0 : Int32)), (.ref a_27)])) rfl (by rw [hml]; rfl) (argsL := [(.ref a_27), (.int (0 : Int32))]) (rest := []) (lenOf pd_164 rfl) rfl (by show 2 * 0 + _ ≤ _; exact Nat.le_of_eq rfl) (hb hby d6_32) (fun _ _ => ⟨rfl, rfl, (by decide : 2 + 0 ≤ _), (by decide : 6 + 0 ≤ _)⟩)
    dsimp only [Pt.U, Pt.locs, Pt.cells, Pt.slots] at X_35 l_35 y_35 z_35 st_35 hQ_35
    subst l_35 y_35 z_35
    obtain ⟨rfl, N_36, e_37⟩ := hQ_35
    have N_38 := Fr.app N_33 N_36
    have e_39 : T_35.heap = T_26.heap := e_37
    have C_40 : Steps p.tables e below S0 (T_35.setTop (mkF m 56 #[.val (.ref b), .val (.int (0 : Int32)), .val (.int (2 : Int32)), .val (.ref a_9), .val (.int (0 : Int32)), .val (.ref a_27)] [(.ref a_27)])) := by
      refine C_16.trans ?_
      refine st_15 _ ?_
      refine XS.istore X_15.here hx rfl (hb hby d6_12) rfl (l' := #[.val (.ref b), .val (.int (0 : Int32)), .val (.int (2 : Int32)), .val (.ref a_9), .val (.int (0 : Int32)), .unset]) rfl ?_
      refine XS.iload X_15.here hx rfl (hb hby d6_14) rfl ?_
      refine XS.iloadN X_15.here hx rfl (hb hby d6_16) rfl ?_
      refine XS.icmpNo X_15.here hx rfl (hb hby d6_17) rfl (by decide) ?_
      refine XS.aloadN X_15.here hx rfl (hb hby d6_20) rfl rfl ?_
      refine XS.iloadN X_15.here hx rfl (hb hby d6_21) rfl ?_
      refine XS.iloadN X_15.here hx rfl (hb hby d6_22) rfl ?_
      show Steps p.tables e below (T_15.setTop (mkF m 23 #[.val (.ref b), .val (.int (0 : Int32)), .val (.int (2 : Int32)), .val (.ref a_9), .val (.int (0 : Int32)), .unset] [(.int (2 : Int32)), (.int (0 : Int32)), (.ref b)])) _
      refine st_26 _ ?_
      refine XS.astore X_26.here hx rfl (hb hby d6_26) rfl rfl (l' := #[.val (.ref b), .val (.int (0 : Int32)), .val (.int (2 : Int32)), .val (.ref a_9), .val (.int (0 : Int32)), .val (.ref a_27)]) rfl ?_
      refine XS.aload X_26.here hx rfl (hb hby d6_28) rfl rfl ?_
      refine XS.iload X_26.here hx rfl (hb hby d6_30) rfl ?_
      refine st_35 _ ?_
      refine XS.sipush X_35.here hx rfl (hb hby d6_35) ?_
      refine XS.icmpYes X_35.here hx rfl (pc0 := 38) (pc' := 54) rfl (hb hby d6_38) rfl (ii_gt_t (by rw [own_pair_says hl0 hm0]; exact g_22)) (by decide) (by decide) ?_
      refine XS.aload X_35.here hx rfl (hb hby d6_54) rfl rfl ?_
      show Steps p.tables e below (T_35.setTop (mkF m 56 #[.val (.ref b), .val (.int (0 : Int32)), .val (.int (2 : Int32)), .val (.ref a_9), .val (.int (0 : Int32)), .val (.ref a_27)] [(.ref a_27)])) _
      exact Steps.refl _
    have K_41 : Keep h0 T_26.heap [] := ((((Keep.refl _ _).ext E_6).trans K_21 (allS (Or.inr (Nat.le_trans (Nat.le_refl _) (Nat.le_of_eq g_10.symm))) all0)).trans K_30 all0)
    obtain ⟨fs, hr, hrun, hended, hW, hsame⟩ := X_35.leave (v := some (.ref a_27)) (fun h => by rw [Bd.returns] at h; cases h)
    refine ⟨_, _, C_40.trans (retOut X_35 hx Bd.returns rfl (Or.inr (Or.inr (Or.inr (Or.inr ⟨rfl, rfl, rfl⟩)))) (hb hby d6_56) hr), hrun, hended, _, _, rfl, ?_, ⟨_, rfl⟩, hW, hsame.mono (by decide) (by decide)⟩
    show Q_cmp3u_2 Z G1 b k c0 c1 h0 n0 (some (.ref a_27)) T_35.heap _
    rw [e_39]
    exact Or.inr (⟨a_27, k_28, rfl, N_38, K_41, (Nat.le_trans (Nat.le_trans E_6.1 K_21.1) g_31), g_32⟩)
  · skip
    obtain ⟨rfl, N_42, K_43, g_44⟩ := hQ_18
    have N_45 := Fr.app N0 N_42
    have V_46 : Arv Z T_15.heap b k .char (2 : Int32) [(.int c0), (.int c1)] (.int (0 : Int32)) := (V_13.keep K_43 (ninS (Nat.ne_of_lt (Nat.lt_of_lt_of_le hp0.lt (Nat.le_trans (Nat.le_refl _) (Nat.le_of_eq g_10.symm)))) nin0))
    have O_47 : Old Z n0 T_15.heap := (O_14.keep K_43 (allS (Nat.le_trans (own_n0 X00) (Nat.le_of_eq g_10.symm)) all0))
    obtain ⟨_, _, ⟨T_48, L_48, k_48, n_48⟩, -, X_48, ⟨Lc_48, hQ_48, l_48, y_48, z_48⟩, st_48⟩ := Jvm.LawKit.callS X_15 hx (y := M51) hown (mvT hZ (w68 hw)) (mvT hZ (w69 hw)) (mvT hZ (w22 hw)) (mvT hZ (w70 hw)) (by decide) (backOf (W := 0) (rm_tob_2 l Z a0 hw [] G1 HG T_15.heap n0 O_47 b k c0 c1 V_46) hZ (w70 hw) (w22 hw) (by decide) (by decide)) (g := (mkF m 23 #[.val (.ref b), .val (.int (0 : Int32)), .val (.int (2 : Int32)), .val (.ref a_9), .val (.int (1 : Int32)), .unset] [(.int (2 : Int32)), (.int (0 : Int32)), (.ref b)])) rfl (by rw [hml]; rfl) (argsL := [(.ref b), (.int (0 : Int32)), (.int (2 : Int32))]) (rest := []) (lenOf pd_156 rfl) rfl (by show 2 * 0 + _ ≤ _; exact Nat.le_of_eq rfl) (hb hby d6_23) (fun _ _ => ⟨rfl, rfl, (by decide : 1 + 1 ≤ _), (by decide : 2 + 4 ≤ _)⟩)
    dsimp only [Pt.U, Pt.locs, Pt.cells, Pt.slots] at X_48 l_48 y_48 z_48 st_48 hQ_48
    subst l_48 y_48 z_48
    obtain ⟨a_49, k_50, rfl, N_51, K_52, g_53, g_54⟩ := hQ_48
    have N_55 := Fr.app N_45 N_51
    have O_56 : Old Z n0 T_48.heap := (O_47.keep K_52 all0)
    obtain ⟨_, _, ⟨T_57, L_57, k_57, n_57⟩, -, X_57, ⟨Lc_57, hQ_57, l_57, y_57, z_57⟩, st_57⟩ := Jvm.LawKit.callS X_48 hx (y := M80) hown (mvT hZ (w84 hw)) (mvT hZ (w85 hw)) (mvT hZ (w22 hw)) (mvT hZ (w86 hw)) (by decide) (backOf (W := 0) (rm_get_2_1 l Z a0 hw [] G1 HG T_48.heap n0 O_56 a_49 k_50 (own_lo8z c0) (own_hi8 c0) (own_lo8z c1) (own_hi8 c1) g_54) hZ (w86 hw) (w22 hw) (by decide) (by decide)) (g := (mkF m 32 #[.val (.ref b), .val (.int (0 : Int32)), .val (.int (2 : Int32)), .val (.ref a_9), .val (.int (1 : Int32)), .val (.ref a_49)] [(.int (1 : Int32)), (.ref a_49)])) rfl (by rw [hml]; rfl) (argsL := [(.ref a_49), (.int (1 : Int32))]) (rest := []) (lenOf pd_164 rfl) rfl (by show 2 * 0 + _ ≤ _; exact Nat.le_of_eq rfl) (hb hby d6_32) (fun _ _ => ⟨rfl, rfl, (by decide : 2 + 0 ≤ _), (by decide : 6 + 0 ≤ _)⟩)
    dsimp only [Pt.U, Pt.locs, Pt.cells, Pt.slots] at X_57 l_57 y_57 z_57 st_57 hQ_57
    subst l_57 y_57 z_57
    obtain ⟨rfl, N_58, e_59⟩ := hQ_57
    have N_60 := Fr.app N_55 N_58
    have e_61 : T_57.heap = T_48.heap := e_59
    have C_62 : Steps p.tables e below S0 (T_57.setTop (mkF m 56 #[.val (.ref b), .val (.int (0 : Int32)), .val (.int (2 : Int32)), .val (.ref a_9), .val (.int (1 : Int32)), .val (.ref a_49)] [(.ref a_49)])) := by
      refine C_16.trans ?_
      refine st_15 _ ?_
      refine XS.istore X_15.here hx rfl (hb hby d6_12) rfl (l' := #[.val (.ref b), .val (.int (0 : Int32)), .val (.int (2 : Int32)), .val (.ref a_9), .val (.int (1 : Int32)), .unset]) rfl ?_
      refine XS.iload X_15.here hx rfl (hb hby d6_14) rfl ?_
      refine XS.iloadN X_15.here hx rfl (hb hby d6_16) rfl ?_
      refine XS.icmpNo X_15.here hx rfl (hb hby d6_17) rfl (by decide) ?_
      refine XS.aloadN X_15.here hx rfl (hb hby d6_20) rfl rfl ?_
      refine XS.iloadN X_15.here hx rfl (hb hby d6_21) rfl ?_
      refine XS.iloadN X_15.here hx rfl (hb hby d6_22) rfl ?_
      show Steps p.tables e below (T_15.setTop (mkF m 23 #[.val (.ref b), .val (.int (0 : Int32)), .val (.int (2 : Int32)), .val (.ref a_9), .val (.int (1 : Int32)), .unset] [(.int (2 : Int32)), (.int (0 : Int32)), (.ref b)])) _
      refine st_48 _ ?_
      refine XS.astore X_48.here hx rfl (hb hby d6_26) rfl rfl (l' := #[.val (.ref b), .val (.int (0 : Int32)), .val (.int (2 : Int32)), .val (.ref a_9), .val (.int (1 : Int32)), .val (.ref a_49)]) rfl ?_
      refine XS.aload X_48.here hx rfl (hb hby d6_28) rfl rfl ?_
      refine XS.iload X_48.here hx rfl (hb hby d6_30) rfl ?_
      refine st_57 _ ?_
      refine XS.sipush X_57.here hx rfl (hb hby d6_35) ?_
      refine XS.icmpYes X_57.here hx rfl (pc0 := 38) (pc' := 54) rfl (hb hby d6_38) rfl (ii_gt_t (by rw [own_pair_says hl1 hm1]; exact g_44)) (by decide) (by decide) ?_
      refine XS.aload X_57.here hx rfl (hb hby d6_54) rfl rfl ?_
      show Steps p.tables e below (T_57.setTop (mkF m 56 #[.val (.ref b), .val (.int (0 : Int32)), .val (.int (2 : Int32)), .val (.ref a_9), .val (.int (1 : Int32)), .val (.ref a_49)] [(.ref a_49)])) _
      exact Steps.refl _
    have K_63 : Keep h0 T_48.heap [] := ((((Keep.refl _ _).ext E_6).trans K_43 (allS (Or.inr (Nat.le_trans (Nat.le_refl _) (Nat.le_of_eq g_10.symm))) all0)).trans K_52 all0)
    obtain ⟨fs, hr, hrun, hended, hW, hsame⟩ := X_57.leave (v := some (.ref a_49)) (fun h => by rw [Bd.returns] at h; cases h)
    refine ⟨_, _, C_62.trans (retOut X_57 hx Bd.returns rfl (Or.inr (Or.inr (Or.inr (Or.inr ⟨rfl, rfl, rfl⟩)))) (hb hby d6_56) hr), hrun, hended, _, _, rfl, ?_, ⟨_, rfl⟩, hW, hsame.mono (by decide) (by decide)⟩
    show Q_cmp3u_2 Z G1 b k c0 c1 h0 n0 (some (.ref a_49)) T_57.heap _
    rw [e_61]
    exact Or.inr (⟨a_49, k_50, rfl, N_60, K_63, (Nat.le_trans (Nat.le_trans E_6.1 K_43.1) g_53), g_54⟩)
  · skip
    obtain ⟨rfl, N_64, K_65, g_66, g_67, g_68⟩ := hQ_19
    have N_69 := Fr.app N0 N_64
    have C_70 : Steps p.tables e below S0 (T_15.setTop (mkF m 58 #[.val (.ref b), .val (.int (0 : Int32)), .val (.int (2 : Int32)), .val (.ref a_9), .val (.int (2 : Int32)), .unset] [(.ref a_9)])) := by
      refine C_16.trans ?_
      refine st_15 _ ?_
      refine XS.istore X_15.here hx rfl (hb hby d6_12) rfl (l' := #[.val (.ref b), .val (.int (0 : Int32)), .val (.int (2 : Int32)), .val (.ref a_9), .val (.int (2 : Int32)), .unset]) rfl ?_
      refine XS.iload X_15.here hx rfl (hb hby d6_14) rfl ?_
      refine XS.iloadN X_15.here hx rfl (hb hby d6_16) rfl ?_
      refine XS.icmpYes X_15.here hx rfl (pc0 := 17) (pc' := 57) rfl (hb hby d6_17) rfl (by decide) (by decide) (by decide) ?_
      refine XS.aloadN X_15.here hx rfl (hb hby d6_57) rfl rfl ?_
      exact Steps.refl _
    have K_71 : Keep h0 T_15.heap [] := (((Keep.refl _ _).ext E_6).trans K_65 (allS (Or.inr (Nat.le_trans (Nat.le_refl _) (Nat.le_of_eq g_10.symm))) all0))
    obtain ⟨fs, hr, hrun, hended, hW, hsame⟩ := X_15.leave (v := some (.ref a_9)) (fun h => by rw [Bd.returns] at h; cases h)
    refine ⟨_, _, C_70.trans (retOut X_15 hx Bd.returns rfl (Or.inr (Or.inr (Or.inr (Or.inr ⟨rfl, rfl, rfl⟩)))) (hb hby d6_58) hr), hrun, hended, _, _, rfl, ?_, ⟨_, rfl⟩, hW, hsame.mono (by decide) (by decide)⟩
    show Q_cmp3u_2 Z G1 b k c0 c1 h0 n0 (some (.ref a_9)) T_15.heap _
    exact Or.inl ⟨a_9, k_3, rfl, N_69, K_71, (Nat.le_trans (Nat.le_refl _) (Nat.le_of_eq g_10.symm)), g_66⟩
abbrev R_codl_2 : Room := { frames := 0, cells := 0, slots := 0, locals := 0 }
def Q_codl_2 (Z : State) (G1 : Int32) (t : Addr) (kt : ClassId) (y0 : Int32) (y1 : Int32) (h0 : Heap) (n0 : Nat) (v : Option Value) (h : Heap) (L : List Loc) : Prop := (v = some (.int (0 : Int32)) ∧ Fr n0 L ∧ h = h0)
set_option maxRecDepth 65536 in
set_option maxHeartbeats 40000000 in
theorem rm_codl_2 (l : Launch) (Z : State) (a0 : Array Value) (hw : ∀ d ∈ tables_1, d.before a0 Z = true) (ws : List Jvm.Cond) (G1 : Int32) (HG : own_G l Z a0 G1) (h0 : Heap) (n0 : Nat) (X00 : Old Z n0 h0) (t : Addr) (kt : ClassId) (y0 : Int32) (y1 : Int32) (hp0 : Arv Z h0 t kt .byte (2 : Int32) [(.int y0), (.int y1)] (.int (0 : Int32))) :
    own_CP l Z M174 jdk_52_method_15_code 2 (some .byte) ws R_codl_2 #[(.ref t), (.int (2 : Int32))] h0 (Q_codl_2 Z G1 t kt y0 y1 h0 n0) := by
  refine own_P (plainFor_of_name pn_2) ?_
  intro p e s m below meth c s₁ S0 Bd hZ hh hx hby hml hown hnm X0 e0 hS0d
  obtain ⟨O1, P1, OAD, OHI, OLO⟩ := id HG
  have N0 := Fr.nil n0
  have C0 : Steps p.tables e below S0 (s₁.setTop (mkF m 0 #[.val (.ref t), .val (.int (2 : Int32))] [])) := by rw [hS0d]; exact castTop (ef_81 m t (2 : Int32)) (Steps.refl _)
  obtain ⟨c_1, A_2, q_3, S_4, M_5, H_6, U_7⟩ := id hp0
  have C_8 : Steps p.tables e below S0 (s₁.setTop (mkF m 8 #[.val (.ref t), .val (.int (2 : Int32))] [(.int (0 : Int32))])) := by
    refine C0.trans ?_
    refine XS.iloadN X0.here hx rfl (hb hby d7_0) rfl ?_
    refine XS.aloadN X0.here hx rfl (hb hby d7_1) rfl rfl ?_
    refine X0.arraylength hx (by rw [e0]; exact A_2.1) (State.isArrayOf_alike hZ.alike A_2.2.1) (g := (mkF m 2 #[.val (.ref t), .val (.int (2 : Int32))] [(.ref t), (.int (2 : Int32))])) rfl rfl (hb hby d7_2) _ ?_
    rw [len_of S_4 M_5]
    refine XS.isub X0.here hx rfl (hb hby d7_3) rfl ?_
    refine XS.bipush X0.here hx rfl (hb hby d7_4) ?_
    refine XS.iushr X0.here hx rfl (hb hby d7_6) rfl ?_
    refine XS.i2b X0.here hx rfl (hb hby d7_7) rfl ?_
    exact Steps.refl _
  obtain ⟨fs, hr, hrun, hended, hW, hsame⟩ := X0.leave (v := some (.int (0 : Int32))) (fun h => by rw [Bd.returns] at h; cases h)
  refine ⟨_, _, C_8.trans (retN X0 hx (t := .byte) Bd.returns (by simp) (hb hby d7_8) hr), hrun, hended, _, _, rfl, ?_, ⟨_, rfl⟩, hW, hsame.mono (by decide) (by decide)⟩
  show Q_codl_2 Z G1 t kt y0 y1 h0 n0 (some (.int (0 : Int32))) s₁.heap _
  rw [e0]
  exact ⟨rfl, N0, rfl⟩
abbrev R_codu_2 : Room := { frames := 0, cells := 0, slots := 0, locals := 0 }
def Q_codu_2 (Z : State) (G1 : Int32) (t : Addr) (kt : ClassId) (y0 : Int32) (y1 : Int32) (y2 : Int32) (y3 : Int32) (h0 : Heap) (n0 : Nat) (v : Option Value) (h : Heap) (L : List Loc) : Prop := (v = some (.int (1 : Int32)) ∧ Fr n0 L ∧ h = h0)
set_option maxRecDepth 65536 in
set_option maxHeartbeats 40000000 in
theorem rm_codu_2 (l : Launch) (Z : State) (a0 : Array Value) (hw : ∀ d ∈ tables_1, d.before a0 Z = true) (ws : List Jvm.Cond) (G1 : Int32) (HG : own_G l Z a0 G1) (h0 : Heap) (n0 : Nat) (X00 : Old Z n0 h0) (t : Addr) (kt : ClassId) (y0 : Int32) (y1 : Int32) (y2 : Int32) (y3 : Int32) (hp0 : Arv Z h0 t kt .byte (4 : Int32) [(.int y0), (.int y1), (.int y2), (.int y3)] (.int (0 : Int32))) :
    own_CP l Z M174 jdk_52_method_15_code 2 (some .byte) ws R_codu_2 #[(.ref t), (.int (2 : Int32))] h0 (Q_codu_2 Z G1 t kt y0 y1 y2 y3 h0 n0) := by
  refine own_P (plainFor_of_name pn_2) ?_
  intro p e s m below meth c s₁ S0 Bd hZ hh hx hby hml hown hnm X0 e0 hS0d
  obtain ⟨O1, P1, OAD, OHI, OLO⟩ := id HG
  have N0 := Fr.nil n0
  have C0 : Steps p.tables e below S0 (s₁.setTop (mkF m 0 #[.val (.ref t), .val (.int (2 : Int32))] [])) := by rw [hS0d]; exact castTop (ef_81 m t (2 : Int32)) (Steps.refl _)
  obtain ⟨c_1, A_2, q_3, S_4, M_5, H_6, U_7⟩ := id hp0
  have C_8 : Steps p.tables e below S0 (s₁.setTop (mkF m 8 #[.val (.ref t), .val (.int (2 : Int32))] [(.int (1 : Int32))])) := by
    refine C0.trans ?_
    refine XS.iloadN X0.here hx rfl (hb hby d7_0) rfl ?_
    refine XS.aloadN X0.here hx rfl (hb hby d7_1) rfl rfl ?_
    refine X0.arraylength hx (by rw [e0]; exact A_2.1) (State.isArrayOf_alike hZ.alike A_2.2.1) (g := (mkF m 2 #[.val (.ref t), .val (.int (2 : Int32))] [(.ref t), (.int (2 : Int32))])) rfl rfl (hb hby d7_2) _ ?_
    rw [len_of S_4 M_5]
    refine XS.isub X0.here hx rfl (hb hby d7_3) rfl ?_
    refine XS.bipush X0.here hx rfl (hb hby d7_4) ?_
    refine XS.iushr X0.here hx rfl (hb hby d7_6) rfl ?_
    refine XS.i2b X0.here hx rfl (hb hby d7_7) rfl ?_
    exact Steps.refl _
  obtain ⟨fs, hr, hrun, hended, hW, hsame⟩ := X0.leave (v := some (.int (1 : Int32))) (fun h => by rw [Bd.returns] at h; cases h)
  refine ⟨_, _, C_8.trans (retN X0 hx (t := .byte) Bd.returns (by simp) (hb hby d7_8) hr), hrun, hended, _, _, rfl, ?_, ⟨_, rfl⟩, hW, hsame.mono (by decide) (by decide)⟩
  show Q_codu_2 Z G1 t kt y0 y1 y2 y3 h0 n0 (some (.int (1 : Int32))) s₁.heap _
  rw [e0]
  exact ⟨rfl, N0, rfl⟩
abbrev R_si4u_2 : Room := { frames := 4, cells := 2, slots := 6, locals := 57 }
def Q_si4u_2 (Z : State) (G1 : Int32) (x : Addr) (b : Addr) (k : ClassId) (c0 : Int32) (c1 : Int32) (h0 : Heap) (n0 : Nat) (v : Option Value) (h : Heap) (L : List Loc) : Prop := (∃ t : Addr, ∃ kt : ClassId, v = none ∧ Fr n0 L ∧ Keep h0 h [x] ∧ (Exa Z h x "java/lang/String") ∧ (Fld Z h x "java/lang/String" "coder" "B" (.int (0 : Int32))) ∧ (Fld Z h x "java/lang/String" "value" "[B" (.ref t)) ∧ (h0.size ≤ t) ∧ (Arv Z h t kt .byte (2 : Int32) [(.int (own_lo8 c0)), (.int (own_lo8 c1))] (.int (0 : Int32)))) ∨ (∃ t : Addr, ∃ kt : ClassId, v = none ∧ Fr n0 L ∧ Keep h0 h [x] ∧ (Exa Z h x "java/lang/String") ∧ (Fld Z h x "java/lang/String" "coder" "B" (.int (1 : Int32))) ∧ (Fld Z h x "java/lang/String" "value" "[B" (.ref t)) ∧ (h0.size ≤ t) ∧ (Arv Z h t kt .byte (4 : Int32) [(.int (own_lo8z c0)), (.int (own_hi8 c0)), (.int (own_lo8z c1)), (.int (own_hi8 c1))] (.int (0 : Int32))))
set_option maxRecDepth 65536 in
set_option maxHeartbeats 40000000 in
theorem rm_si4u_2 (l : Launch) (Z : State) (a0 : Array Value) (hw : ∀ d ∈ tables_1, d.before a0 Z = true) (ws : List Jvm.Cond) (G1 : Int32) (HG : own_G l Z a0 G1) (h0 : Heap) (n0 : Nat) (X00 : Old Z n0 h0) (x : Addr) (b : Addr) (k : ClassId) (c0 : Int32) (c1 : Int32) (hp0 : Exa Z h0 x "java/lang/String") (hp1 : Fld Z h0 x "java/lang/String" "value" "[B" .null) (hp2 : Fld Z h0 x "java/lang/String" "coder" "B" (.int (0 : Int32))) (hp3 : n0 ≤ x) (hp4 : Arv Z h0 b k .char (2 : Int32) [(.int c0), (.int c1)] (.int (0 : Int32))) (hl0 : ¬ (c0 < (0 : Int32))) (hl1 : ¬ (c1 < (0 : Int32))) (hm0 : ¬ ((65535 : Int32) < c0)) (hm1 : ¬ ((65535 : Int32) < c1)) :
    own_CP l Z M183 jdk_42_method_149_code 6 none ws R_si4u_2 #[(.ref x), (.ref b), (.int (0 : Int32)), (.int (2 : Int32)), .null] h0 (Q_si4u_2 Z G1 x b k c0 c1 h0 n0) := by
  refine own_P (plainFor_of_name pn_185) ?_
  intro p e s m below meth c s₁ S0 Bd hZ hh hx hby hml hown hnm X0 e0 hS0d
  obtain ⟨O1, P1, OAD, OHI, OLO⟩ := id HG
  have N0 := Fr.nil n0
  have C0 : Steps p.tables e below S0 (s₁.setTop (mkF m 0 #[.val (.ref x), .val (.ref b), .val (.int (0 : Int32)), .val (.int (2 : Int32)), .val .null, .unset] [])) := by rw [hS0d]; exact castTop (ef_184 m x b (0 : Int32) (2 : Int32)) (Steps.refl _)
  obtain ⟨T_1, X_2, e_3, st_4⟩ := initO X0 hx hZ hown (w16 hw) (w17 hw) (w18 hw) e0 (g := (mkF m 1 #[.val (.ref x), .val (.ref b), .val (.int (0 : Int32)), .val (.int (2 : Int32)), .val .null, .unset] [(.ref x)])) rfl (by rw [hml]; rfl) rfl (hb hby d8_1) (by decide) (W := 0) (by show 2 * 0 + _ ≤ _; exact Nat.le_of_eq rfl) (by decide)
  obtain ⟨T_5, X_6, e_7, st_8⟩ := getS X_2 hx hZ (host := "") hown (w19 hw) Via.refl e_3 (O1.ext X00.2) (g := (mkF m 27 #[.val (.ref x), .val (.ref b), .val (.int (0 : Int32)), .val (.int (2 : Int32)), .val .null, .unset] [])) rfl (hb hby d8_27)
  obtain ⟨_, _, ⟨T_9, L_9, k_9, n_9⟩, -, X_9, ⟨Lc_9, hQ_9, l_9, y_9, z_9⟩, st_9⟩ := Jvm.LawKit.callS X_6 hx (y := M133) hown (mvT hZ (w20 hw)) (mvT hZ (w21 hw)) (mvT hZ (w22 hw)) (mvT hZ (w23 hw)) (by decide) (backOf (W := 0) (rm_cmp3u_2 l Z a0 hw [] G1 HG h0 n0 X00 b k c0 c1 hp4 hl0 hl1 hm0 hm1) hZ (w23 hw) (w22 hw) (by decide) (by decide)) (g := (mkF m 36 #[.val (.ref x), .val (.ref b), .val (.int (0 : Int32)), .val (.int (2 : Int32)), .val .null, .unset] [(.int (2 : Int32)), (.int (0 : Int32)), (.ref b)])) rfl (by rw [hml]; rfl) (argsL := [(.ref b), (.int (0 : Int32)), (.int (2 : Int32))]) (rest := []) (lenOf pd_156 rfl) rfl (by show 2 * 0 + _ ≤ _; exact Nat.le_of_eq rfl) (hb hby d8_36) (fun _ _ => ⟨rfl, e_7, (by decide : 0 + 2 ≤ _), (by decide : 0 + 6 ≤ _)⟩)
  dsimp only [Pt.U, Pt.locs, Pt.cells, Pt.slots] at X_9 l_9 y_9 z_9 st_9 hQ_9
  subst l_9 y_9 z_9
  have C_10 : Steps p.tables e below S0 (T_5.setTop (mkF m 36 #[.val (.ref x), .val (.ref b), .val (.int (0 : Int32)), .val (.int (2 : Int32)), .val .null, .unset] [(.int (2 : Int32)), (.int (0 : Int32)), (.ref b)])) := by
    refine C0.trans ?_
    refine XS.aloadN X0.here hx rfl (hb hby d8_0) rfl rfl ?_
    refine st_4 _ ?_
    refine XS.iloadN X_2.here hx rfl (hb hby d8_4) rfl ?_
    refine XS.ifYes X_2.here hx rfl (pc0 := 5) (pc' := 27) rfl (hb hby d8_5) rfl (by decide) (by decide) (by decide) ?_
    refine st_8 _ ?_
    refine XS.ifNo X_6.here hx rfl (hb hby d8_30) rfl (i0_eq_f P1) ?_
    refine XS.aloadN X_6.here hx rfl (hb hby d8_33) rfl rfl ?_
    refine XS.iloadN X_6.here hx rfl (hb hby d8_34) rfl ?_
    show Steps p.tables e below (T_5.setTop (mkF m 35 #[.val (.ref x), .val (.ref b), .val (.int (0 : Int32)), .val (.int (2 : Int32)), .val .null, .unset] [(.int (0 : Int32)), (.ref b)])) _
    refine XS.iloadN X_6.here hx rfl (hb hby d8_35) rfl ?_
    exact Steps.refl _
  rcases hQ_9 with hQ_11 | hQ_12
  · skip
    obtain ⟨a_13, k_14, rfl, N_15, K_16, g_17, g_18⟩ := hQ_11
    have N_19 := Fr.app N0 N_15
    have O_20 : Old Z n0 T_9.heap := (X00.keep K_16 all0)
    obtain ⟨_, _, ⟨T_21, L_21, k_21, n_21⟩, -, X_21, ⟨Lc_21, hQ_21, l_21, y_21, z_21⟩, st_21⟩ := Jvm.LawKit.callS X_9 hx (y := M174) hown (mvT hZ (w28 hw)) (mvT hZ (w29 hw)) (mvT hZ (w22 hw)) (mvT hZ (w30 hw)) (by decide) (backOf (W := 1) (rm_codl_2 l Z a0 hw [] G1 HG T_9.heap n0 O_20 a_13 k_14 (own_lo8 c0) (own_lo8 c1) g_18) hZ (w30 hw) (w22 hw) (by decide) (by decide)) (g := (mkF m 45 #[.val (.ref x), .val (.ref b), .val (.int (0 : Int32)), .val (.int (2 : Int32)), .val .null, .val (.ref a_13)] [(.int (2 : Int32)), (.ref a_13), (.ref x)])) rfl (by rw [hml]; rfl) (argsL := [(.ref a_13), (.int (2 : Int32))]) (rest := [(.ref x)]) (lenOf pd_208 rfl) rfl (by show 2 * 0 + _ ≤ _; exact Nat.le_of_eq rfl) (hb hby d8_45) (fun _ _ => ⟨rfl, rfl, (by decide : 2 + 0 ≤ _), (by decide : 6 + 0 ≤ _)⟩)
    dsimp only [Pt.U, Pt.locs, Pt.cells, Pt.slots] at X_21 l_21 y_21 z_21 st_21 hQ_21
    subst l_21 y_21 z_21
    obtain ⟨rfl, N_22, e_23⟩ := hQ_21
    have N_24 := Fr.app N_19 N_22
    have e_25 : T_21.heap = T_9.heap := e_23
    have F_26 : Fld Z T_9.heap x "java/lang/String" "coder" "B" (.int (0 : Int32)) := (hp2.keep K_16 nin0)
    have E_27 : Exa Z T_9.heap x "java/lang/String" := (hp0.keep K_16)
    obtain ⟨T_28, h_29, X_30, e_31, W_32, st_33⟩ := putF X_21 hx hZ hown (host := "") (Or.inl (w31 hw)) Via.refl e_25 F_26 E_27 (Or.inr ⟨(w32 hw), rfl, hnm⟩) (w6 hw) (ty := .byte) (by decide) rfl (by decide) (g := (mkF m 48 #[.val (.ref x), .val (.ref b), .val (.int (0 : Int32)), .val (.int (2 : Int32)), .val .null, .val (.ref a_13)] [(.int (0 : Int32)), (.ref x)])) rfl rfl (hb hby d8_48)
    have N_34 := Fr.snoc X_30 N_24 hp3
    have F_35 : Fld Z h_29 x "java/lang/String" "coder" "B" (.int (0 : Int32)) := F_26.same W_32
    have F_36 : Fld Z h_29 x "java/lang/String" "value" "[B" .null := ((hp1.keep K_16 nin0).other W_32 (Or.inr (slot_ne (Or.inr (w34 hw)) (Or.inr (w32 hw)) (by decide) (t := (.array .byte)) (by decide) (t' := .byte) (by decide))))
    have E_37 : Exa Z h_29 x "java/lang/String" := (E_27.wr W_32)
    obtain ⟨T_38, h_39, X_40, e_41, W_42, st_43⟩ := putF X_30 hx hZ hown (host := "") (Or.inl (w33 hw)) Via.refl e_31 F_36 E_37 (Or.inr ⟨(w34 hw), rfl, hnm⟩) (w6 hw) (ty := (.array .byte)) (by decide) rfl rfl (g := (mkF m 54 #[.val (.ref x), .val (.ref b), .val (.int (0 : Int32)), .val (.int (2 : Int32)), .val .null, .val (.ref a_13)] [(.ref a_13), (.ref x)])) rfl rfl (hb hby d8_54)
    have N_44 := Fr.snoc X_40 N_34 hp3
    have F_45 : Fld Z h_39 x "java/lang/String" "value" "[B" (.ref a_13) := F_36.same W_42
    have C_46 : Steps p.tables e below S0 (T_38.setTop (mkF m 57 #[.val (.ref x), .val (.ref b), .val (.int (0 : Int32)), .val (.int (2 : Int32)), .val .null, .val (.ref a_13)] [])) := by
      refine C_10.trans ?_
      refine st_9 _ ?_
      refine XS.astore X_9.here hx rfl (hb hby d8_39) rfl rfl (l' := #[.val (.ref x), .val (.ref b), .val (.int (0 : Int32)), .val (.int (2 : Int32)), .val .null, .val (.ref a_13)]) rfl ?_
      refine XS.aloadN X_9.here hx rfl (hb hby d8_41) rfl rfl ?_
      refine XS.aload X_9.here hx rfl (hb hby d8_42) rfl rfl ?_
      refine XS.iloadN X_9.here hx rfl (hb hby d8_44) rfl ?_
      refine st_21 _ ?_
      refine st_33 _ ?_
      refine XS.aloadN X_30.here hx rfl (hb hby d8_51) rfl rfl ?_
      show Steps p.tables e below (T_28.setTop (mkF m 52 #[.val (.ref x), .val (.ref b), .val (.int (0 : Int32)), .val (.int (2 : Int32)), .val .null, .val (.ref a_13)] [(.ref x)])) _
      refine XS.aload X_30.here hx rfl (hb hby d8_52) rfl rfl ?_
      refine st_43 _ ?_
      exact Steps.refl _
    have E_47 : Exa Z h_39 x "java/lang/String" := (E_37.wr W_42)
    have F_48 : Fld Z h_39 x "java/lang/String" "coder" "B" (.int (0 : Int32)) := (F_35.other W_42 (Or.inr (slot_ne (Or.inr (w32 hw)) (Or.inr (w34 hw)) (by decide) (t := .byte) (by decide) (t' := (.array .byte)) (by decide))))
    have V_49 : Arv Z h_39 a_13 k_14 .byte (2 : Int32) [(.int (own_lo8 c0)), (.int (own_lo8 c1))] (.int (0 : Int32)) := ((g_18.other W_32 (Ne.symm (Nat.ne_of_lt (Nat.lt_of_lt_of_le hp0.lt (Nat.le_trans (Nat.le_refl _) g_17))))).other W_42 (Ne.symm (Nat.ne_of_lt (Nat.lt_of_lt_of_le hp0.lt (Nat.le_trans (Nat.le_refl _) g_17)))))
    have K_50 : Keep h0 h_39 [x] := ((((Keep.refl _ _).trans K_16 all0).wr W_32 (Or.inl (List.mem_of_getElem? (i := 0) rfl))).wr W_42 (Or.inl (List.mem_of_getElem? (i := 0) rfl)))
    obtain ⟨fs, hr, hrun, hended, hW, hsame⟩ := X_40.leave (v := none) (fun _ => rfl)
    refine ⟨_, _, C_46.trans (X_40.returnOut hx Bd.returns (hb hby d8_57) hr), hrun, hended, _, _, rfl, ?_, ⟨_, rfl⟩, hW, hsame.mono (by decide) (by decide)⟩
    show Q_si4u_2 Z G1 x b k c0 c1 h0 n0 (none) T_38.heap _
    rw [e_41]
    exact Or.inl ⟨a_13, k_14, rfl, N_44, K_50, E_47, F_48, F_45, (Nat.le_trans (Nat.le_refl _) g_17), V_49⟩
  · skip
    obtain ⟨a_51, k_52, rfl, N_53, K_54, g_55, g_56⟩ := hQ_12
    have N_57 := Fr.app N0 N_53
    have O_58 : Old Z n0 T_9.heap := (X00.keep K_54 all0)
    obtain ⟨_, _, ⟨T_59, L_59, k_59, n_59⟩, -, X_59, ⟨Lc_59, hQ_59, l_59, y_59, z_59⟩, st_59⟩ := Jvm.LawKit.callS X_9 hx (y := M174) hown (mvT hZ (w28 hw)) (mvT hZ (w29 hw)) (mvT hZ (w22 hw)) (mvT hZ (w30 hw)) (by decide) (backOf (W := 1) (rm_codu_2 l Z a0 hw [] G1 HG T_9.heap n0 O_58 a_51 k_52 (own_lo8z c0) (own_hi8 c0) (own_lo8z c1) (own_hi8 c1) g_56) hZ (w30 hw) (w22 hw) (by decide) (by decide)) (g := (mkF m 45 #[.val (.ref x), .val (.ref b), .val (.int (0 : Int32)), .val (.int (2 : Int32)), .val .null, .val (.ref a_51)] [(.int (2 : Int32)), (.ref a_51), (.ref x)])) rfl (by rw [hml]; rfl) (argsL := [(.ref a_51), (.int (2 : Int32))]) (rest := [(.ref x)]) (lenOf pd_208 rfl) rfl (by show 2 * 0 + _ ≤ _; exact Nat.le_of_eq rfl) (hb hby d8_45) (fun _ _ => ⟨rfl, rfl, (by decide : 2 + 0 ≤ _), (by decide : 6 + 0 ≤ _)⟩)
    dsimp only [Pt.U, Pt.locs, Pt.cells, Pt.slots] at X_59 l_59 y_59 z_59 st_59 hQ_59
    subst l_59 y_59 z_59
    obtain ⟨rfl, N_60, e_61⟩ := hQ_59
    have N_62 := Fr.app N_57 N_60
    have e_63 : T_59.heap = T_9.heap := e_61
    have F_64 : Fld Z T_9.heap x "java/lang/String" "coder" "B" (.int (0 : Int32)) := (hp2.keep K_54 nin0)
    have E_65 : Exa Z T_9.heap x "java/lang/String" := (hp0.keep K_54)
    obtain ⟨T_66, h_67, X_68, e_69, W_70, st_71⟩ := putF X_59 hx hZ hown (host := "") (Or.inl (w31 hw)) Via.refl e_63 F_64 E_65 (Or.inr ⟨(w32 hw), rfl, hnm⟩) (w6 hw) (ty := .byte) (by decide) rfl (by decide) (g := (mkF m 48 #[.val (.ref x), .val (.ref b), .val (.int (0 : Int32)), .val (.int (2 : Int32)), .val .null, .val (.ref a_51)] [(.int (1 : Int32)), (.ref x)])) rfl rfl (hb hby d8_48)
    have N_72 := Fr.snoc X_68 N_62 hp3
    have F_73 : Fld Z h_67 x "java/lang/String" "coder" "B" (.int (1 : Int32)) := F_64.same W_70
    have F_74 : Fld Z h_67 x "java/lang/String" "value" "[B" .null := ((hp1.keep K_54 nin0).other W_70 (Or.inr (slot_ne (Or.inr (w34 hw)) (Or.inr (w32 hw)) (by decide) (t := (.array .byte)) (by decide) (t' := .byte) (by decide))))
    have E_75 : Exa Z h_67 x "java/lang/String" := (E_65.wr W_70)
    obtain ⟨T_76, h_77, X_78, e_79, W_80, st_81⟩ := putF X_68 hx hZ hown (host := "") (Or.inl (w33 hw)) Via.refl e_69 F_74 E_75 (Or.inr ⟨(w34 hw), rfl, hnm⟩) (w6 hw) (ty := (.array .byte)) (by decide) rfl rfl (g := (mkF m 54 #[.val (.ref x), .val (.ref b), .val (.int (0 : Int32)), .val (.int (2 : Int32)), .val .null, .val (.ref a_51)] [(.ref a_51), (.ref x)])) rfl rfl (hb hby d8_54)
    have N_82 := Fr.snoc X_78 N_72 hp3
    have F_83 : Fld Z h_77 x "java/lang/String" "value" "[B" (.ref a_51) := F_74.same W_80
    have C_84 : Steps p.tables e below S0 (T_76.setTop (mkF m 57 #[.val (.ref x), .val (.ref b), .val (.int (0 : Int32)), .val (.int (2 : Int32)), .val .null, .val (.ref a_51)] [])) := by
      refine C_10.trans ?_
      refine st_9 _ ?_
      refine XS.astore X_9.here hx rfl (hb hby d8_39) rfl rfl (l' := #[.val (.ref x), .val (.ref b), .val (.int (0 : Int32)), .val (.int (2 : Int32)), .val .null, .val (.ref a_51)]) rfl ?_
      refine XS.aloadN X_9.here hx rfl (hb hby d8_41) rfl rfl ?_
      refine XS.aload X_9.here hx rfl (hb hby d8_42) rfl rfl ?_
      refine XS.iloadN X_9.here hx rfl (hb hby d8_44) rfl ?_
      refine st_59 _ ?_
      refine st_71 _ ?_
      refine XS.aloadN X_68.here hx rfl (hb hby d8_51) rfl rfl ?_
      show Steps p.tables e below (T_66.setTop (mkF m 52 #[.val (.ref x), .val (.ref b), .val (.int (0 : Int32)), .val (.int (2 : Int32)), .val .null, .val (.ref a_51)] [(.ref x)])) _
      refine XS.aload X_68.here hx rfl (hb hby d8_52) rfl rfl ?_
      refine st_81 _ ?_
      exact Steps.refl _
    have E_85 : Exa Z h_77 x "java/lang/String" := (E_75.wr W_80)
    have F_86 : Fld Z h_77 x "java/lang/String" "coder" "B" (.int (1 : Int32)) := (F_73.other W_80 (Or.inr (slot_ne (Or.inr (w32 hw)) (Or.inr (w34 hw)) (by decide) (t := .byte) (by decide) (t' := (.array .byte)) (by decide))))
    have V_87 : Arv Z h_77 a_51 k_52 .byte (4 : Int32) [(.int (own_lo8z c0)), (.int (own_hi8 c0)), (.int (own_lo8z c1)), (.int (own_hi8 c1))] (.int (0 : Int32)) := ((g_56.other W_70 (Ne.symm (Nat.ne_of_lt (Nat.lt_of_lt_of_le hp0.lt (Nat.le_trans (Nat.le_refl _) g_55))))).other W_80 (Ne.symm (Nat.ne_of_lt (Nat.lt_of_lt_of_le hp0.lt (Nat.le_trans (Nat.le_refl _) g_55)))))
    have K_88 : Keep h0 h_77 [x] := ((((Keep.refl _ _).trans K_54 all0).wr W_70 (Or.inl (List.mem_of_getElem? (i := 0) rfl))).wr W_80 (Or.inl (List.mem_of_getElem? (i := 0) rfl)))
    obtain ⟨fs, hr, hrun, hended, hW, hsame⟩ := X_78.leave (v := none) (fun _ => rfl)
    refine ⟨_, _, C_84.trans (X_78.returnOut hx Bd.returns (hb hby d8_57) hr), hrun, hended, _, _, rfl, ?_, ⟨_, rfl⟩, hW, hsame.mono (by decide) (by decide)⟩
    show Q_si4u_2 Z G1 x b k c0 c1 h0 n0 (none) T_76.heap _
    rw [e_79]
    exact Or.inr (⟨a_51, k_52, rfl, N_82, K_88, E_85, F_86, F_83, (Nat.le_trans (Nat.le_refl _) g_55), V_87⟩)
abbrev R_si1u_2 : Room := { frames := 5, cells := 2, slots := 6, locals := 74 }
def Q_si1u_2 (Z : State) (G1 : Int32) (x : Addr) (b : Addr) (k : ClassId) (c0 : Int32) (c1 : Int32) (h0 : Heap) (n0 : Nat) (v : Option Value) (h : Heap) (L : List Loc) : Prop := (∃ t : Addr, ∃ kt : ClassId, v = none ∧ Fr n0 L ∧ Keep h0 h [x] ∧ (Exa Z h x "java/lang/String") ∧ (Fld Z h x "java/lang/String" "coder" "B" (.int (0 : Int32))) ∧ (Fld Z h x "java/lang/String" "value" "[B" (.ref t)) ∧ (h0.size ≤ t) ∧ (Arv Z h t kt .byte (2 : Int32) [(.int (own_lo8 c0)), (.int (own_lo8 c1))] (.int (0 : Int32)))) ∨ (∃ t : Addr, ∃ kt : ClassId, v = none ∧ Fr n0 L ∧ Keep h0 h [x] ∧ (Exa Z h x "java/lang/String") ∧ (Fld Z h x "java/lang/String" "coder" "B" (.int (1 : Int32))) ∧ (Fld Z h x "java/lang/String" "value" "[B" (.ref t)) ∧ (h0.size ≤ t) ∧ (Arv Z h t kt .byte (4 : Int32) [(.int (own_lo8z c0)), (.int (own_hi8 c0)), (.int (own_lo8z c1)), (.int (own_hi8 c1))] (.int (0 : Int32))))
set_option maxRecDepth 65536 in
set_option maxHeartbeats 40000000 in
theorem rm_si1u_2 (l : Launch) (Z : State) (a0 : Array Value) (hw : ∀ d ∈ tables_1, d.before a0 Z = true) (ws : List Jvm.Cond) (G1 : Int32) (HG : own_G l Z a0 G1) (h0 : Heap) (n0 : Nat) (X00 : Old Z n0 h0) (x : Addr) (b : Addr) (k : ClassId) (c0 : Int32) (c1 : Int32) (hp0 : Exa Z h0 x "java/lang/String") (hp1 : Fld Z h0 x "java/lang/String" "value" "[B" .null) (hp2 : Fld Z h0 x "java/lang/String" "coder" "B" (.int (0 : Int32))) (hp3 : n0 ≤ x) (hp4 : Arv Z h0 b k .char (2 : Int32) [(.int c0), (.int c1)] (.int (0 : Int32))) (hl0 : ¬ (c0 < (0 : Int32))) (hl1 : ¬ (c1 < (0 : Int32))) (hm0 : ¬ ((65535 : Int32) < c0)) (hm1 : ¬ ((65535 : Int32) < c1)) :
    own_CP l Z M222 jdk_42_method_3_code 2 none ws R_si1u_2 #[(.ref x), (.ref b)] h0 (Q_si1u_2 Z G1 x b k c0 c1 h0 n0) := by
  refine own_P (plainFor_of_name pn_185) ?_
  intro p e s m below meth c s₁ S0 Bd hZ hh hx hby hml hown hnm X0 e0 hS0d
  obtain ⟨O1, P1, OAD, OHI, OLO⟩ := id HG
  have N0 := Fr.nil n0
  have C0 : Steps p.tables e below S0 (s₁.setTop (mkF m 0 #[.val (.ref x), .val (.ref b)] [])) := by rw [hS0d]; exact castTop (ef_223 m x b) (Steps.refl _)
  obtain ⟨c_1, A_2, q_3, S_4, M_5, H_6, U_7⟩ := id hp4
  obtain ⟨_, _, ⟨T_8, L_8, k_8, n_8⟩, -, X_8, ⟨Lc_8, hQ_8, l_8, y_8, z_8⟩, st_8⟩ := X0.specialBack hx (y := M183) rfl hown (mvT hZ (w12 hw)) (mvT hZ (w13 hw)) (mvT hZ (w15 hw)) (by decide) (backOf (W := 0) (rm_si4u_2 l Z a0 hw [] G1 HG h0 n0 X00 x b k c0 c1 hp0 hp1 hp2 hp3 hp4 hl0 hl1 hm0 hm1) hZ (w15 hw) (w7 hw) (by decide) (by decide)) (g := (mkF m 6 #[.val (.ref x), .val (.ref b)] [.null, (.int (2 : Int32)), (.int (0 : Int32)), (.ref b), (.ref x)])) rfl (by rw [hml]; rfl) (Steps.refl _) (a := x) (argsL := [(.ref b), (.int (0 : Int32)), (.int (2 : Int32)), .null]) (rest := []) (lenOf pd_232 rfl) rfl (by show 2 * 0 + _ ≤ _; exact Nat.le_of_eq rfl) (hb hby d9_6) (fun _ _ => ⟨rfl, e0, (by decide : 0 + 2 ≤ _), (by decide : 0 + 6 ≤ _)⟩)
  dsimp only [Pt.U, Pt.locs, Pt.cells, Pt.slots] at X_8 l_8 y_8 z_8 st_8 hQ_8
  subst l_8 y_8 z_8
  have C_9 : Steps p.tables e below S0 (s₁.setTop (mkF m 6 #[.val (.ref x), .val (.ref b)] [.null, (.int (2 : Int32)), (.int (0 : Int32)), (.ref b), (.ref x)])) := by
    refine C0.trans ?_
    refine XS.aloadN X0.here hx rfl (hb hby d9_0) rfl rfl ?_
    refine XS.aloadN X0.here hx rfl (hb hby d9_1) rfl rfl ?_
    refine XS.iconst X0.here hx rfl (hb hby d9_2) ?_
    refine XS.aloadN X0.here hx rfl (hb hby d9_3) rfl rfl ?_
    refine X0.arraylength hx (by rw [e0]; exact A_2.1) (State.isArrayOf_alike hZ.alike A_2.2.1) (g := (mkF m 4 #[.val (.ref x), .val (.ref b)] [(.ref b), (.int (0 : Int32)), (.ref b), (.ref x)])) rfl rfl (hb hby d9_4) _ ?_
    rw [len_of S_4 M_5]
    refine XS.aconstNull X0.here hx rfl (hb hby d9_5) ?_
    exact Steps.refl _
  rcases hQ_8 with hQ_10 | hQ_11
  · skip
    obtain ⟨a_12, k_13, rfl, N_14, K_15, g_16, g_17, g_18, g_19, g_20⟩ := hQ_10
    have N_21 := Fr.app N0 N_14
    have C_22 : Steps p.tables e below S0 (T_8.setTop (mkF m 9 #[.val (.ref x), .val (.ref b)] [])) := by
      refine C_9.trans ?_
      refine st_8.trans ?_
      exact Steps.refl _
    have K_23 : Keep h0 T_8.heap [x] := ((Keep.refl _ _).trans K_15 (allS (Or.inl (List.mem_of_getElem? (i := 0) rfl)) all0))
    obtain ⟨fs, hr, hrun, hended, hW, hsame⟩ := X_8.leave (v := none) (fun _ => rfl)
    refine ⟨_, _, C_22.trans (X_8.returnOut hx Bd.returns (hb hby d9_9) hr), hrun, hended, _, _, rfl, ?_, ⟨_, rfl⟩, hW, hsame.mono (by decide) (by decide)⟩
    show Q_si1u_2 Z G1 x b k c0 c1 h0 n0 (none) T_8.heap _
    exact Or.inl ⟨a_12, k_13, rfl, N_21, K_23, g_16, g_17, g_18, (Nat.le_trans (Nat.le_refl _) g_19), g_20⟩
  · skip
    obtain ⟨a_24, k_25, rfl, N_26, K_27, g_28, g_29, g_30, g_31, g_32⟩ := hQ_11
    have N_33 := Fr.app N0 N_26
    have C_34 : Steps p.tables e below S0 (T_8.setTop (mkF m 9 #[.val (.ref x), .val (.ref b)] [])) := by
      refine C_9.trans ?_
      refine st_8.trans ?_
      exact Steps.refl _
    have K_35 : Keep h0 T_8.heap [x] := ((Keep.refl _ _).trans K_27 (allS (Or.inl (List.mem_of_getElem? (i := 0) rfl)) all0))
    obtain ⟨fs, hr, hrun, hended, hW, hsame⟩ := X_8.leave (v := none) (fun _ => rfl)
    refine ⟨_, _, C_34.trans (X_8.returnOut hx Bd.returns (hb hby d9_9) hr), hrun, hended, _, _, rfl, ?_, ⟨_, rfl⟩, hW, hsame.mono (by decide) (by decide)⟩
    show Q_si1u_2 Z G1 x b k c0 c1 h0 n0 (none) T_8.heap _
    exact Or.inr (⟨a_24, k_25, rfl, N_33, K_35, g_28, g_29, g_30, (Nat.le_trans (Nat.le_refl _) g_31), g_32⟩)
abbrev R_nbl_3 : Room := { frames := 0, cells := 0, slots := 0, locals := 0 }
def Q_nbl_3 (Z : State) (G1 : Int32)  (h0 : Heap) (n0 : Nat) (v : Option Value) (h : Heap) (L : List Loc) : Prop := (v = some (.int (6 : Int32)) ∧ Fr n0 L ∧ h = h0)
set_option maxRecDepth 65536 in
set_option maxHeartbeats 40000000 in
theorem rm_nbl_3 (l : Launch) (Z : State) (a0 : Array Value) (hw : ∀ d ∈ tables_1, d.before a0 Z = true) (ws : List Jvm.Cond) (G1 : Int32) (HG : own_G l Z a0 G1) (h0 : Heap) (n0 : Nat) (X00 : Old Z n0 h0)   :
    own_CP l Z M0 jdk_52_method_3_code 1 (some .int) ws R_nbl_3 #[(.int (3 : Int32))] h0 (Q_nbl_3 Z G1  h0 n0) := by
  refine own_P (plainFor_of_name pn_2) ?_
  intro p e s m below meth c s₁ S0 Bd hZ hh hx hby hml hown hnm X0 e0 hS0d
  obtain ⟨O1, P1, OAD, OHI, OLO⟩ := id HG
  have N0 := Fr.nil n0
  have C0 : Steps p.tables e below S0 (s₁.setTop (mkF m 0 #[.val (.int (3 : Int32))] [])) := by rw [hS0d]; exact castTop (ef_1 m (3 : Int32)) (Steps.refl _)
  have C_1 : Steps p.tables e below S0 (s₁.setTop (mkF m 58 #[.val (.int (3 : Int32))] [(.int (6 : Int32))])) := by
    refine C0.trans ?_
    refine XS.iloadN X0.here hx rfl (hb hby d0_0) rfl ?_
    refine XS.ifYes X0.here hx rfl (pc0 := 1) (pc' := 12) rfl (hb hby d0_1) rfl (by decide) (by decide) (by decide) ?_
    refine XS.iloadN X0.here hx rfl (hb hby d0_12) rfl ?_
    refine X0.ldcI hx hown (mvT hZ (w77 hw)) rfl (hb hby d0_13) ?_
    refine XS.icmpYes X0.here hx rfl (pc0 := 15) (pc' := 55) rfl (hb hby d0_15) rfl (by decide) (by decide) (by decide) ?_
    refine XS.iloadN X0.here hx rfl (hb hby d0_55) rfl ?_
    refine XS.iconst X0.here hx rfl (hb hby d0_56) ?_
    refine XS.ishl X0.here hx rfl (hb hby d0_57) rfl ?_
    show Steps p.tables e below (s₁.setTop (mkF m 58 #[.val (.int (3 : Int32))] [(.int (6 : Int32))])) _
    exact Steps.refl _
  obtain ⟨fs, hr, hrun, hended, hW, hsame⟩ := X0.leave (v := some (.int (6 : Int32))) (fun h => by rw [Bd.returns] at h; cases h)
  refine ⟨_, _, C_1.trans (retOut X0 hx Bd.returns rfl (Or.inl ⟨rfl, Or.inl rfl, _, rfl⟩) (hb hby d0_58) hr), hrun, hended, _, _, rfl, ?_, ⟨_, rfl⟩, hW, hsame.mono (by decide) (by decide)⟩
  show Q_nbl_3 Z G1  h0 n0 (some (.int (6 : Int32))) s₁.heap _
  rw [e0]
  exact ⟨rfl, N0, rfl⟩
abbrev R_nbf_3 : Room := { frames := 1, cells := 1, slots := 6, locals := 12 }
def Q_nbf_3 (Z : State) (G1 : Int32)  (h0 : Heap) (n0 : Nat) (v : Option Value) (h : Heap) (L : List Loc) : Prop := (∃ t : Addr, ∃ kt : ClassId, v = some (.ref t) ∧ Fr n0 L ∧ Keep h0 h [] ∧ (h0.size ≤ t) ∧ (Arv Z h t kt .byte (6 : Int32) [(.int (0 : Int32)), (.int (0 : Int32)), (.int (0 : Int32)), (.int (0 : Int32)), (.int (0 : Int32)), (.int (0 : Int32))] (.int (0 : Int32))))
set_option maxRecDepth 65536 in
set_option maxHeartbeats 40000000 in
theorem rm_nbf_3 (l : Launch) (Z : State) (a0 : Array Value) (hw : ∀ d ∈ tables_1, d.before a0 Z = true) (ws : List Jvm.Cond) (G1 : Int32) (HG : own_G l Z a0 G1) (h0 : Heap) (n0 : Nat) (X00 : Old Z n0 h0)   :
    own_CP l Z M13 jdk_52_method_2_code 1 (some (.array .byte)) ws R_nbf_3 #[(.int (3 : Int32))] h0 (Q_nbf_3 Z G1  h0 n0) := by
  refine own_P (plainFor_of_name pn_2) ?_
  intro p e s m below meth c s₁ S0 Bd hZ hh hx hby hml hown hnm X0 e0 hS0d
  obtain ⟨O1, P1, OAD, OHI, OLO⟩ := id HG
  have N0 := Fr.nil n0
  have C0 : Steps p.tables e below S0 (s₁.setTop (mkF m 0 #[.val (.int (3 : Int32))] [])) := by rw [hS0d]; exact castTop (ef_1 m (3 : Int32)) (Steps.refl _)
  obtain ⟨_, _, ⟨T_1, L_1, k_1, n_1⟩, -, X_1, ⟨Lc_1, hQ_1, l_1, y_1, z_1⟩, st_1⟩ := Jvm.LawKit.callS X0 hx (y := M0) hown (mvT hZ (w74 hw)) (mvT hZ (w75 hw)) (mvT hZ (w22 hw)) (mvT hZ (w76 hw)) (by decide) (backOf (W := 0) (rm_nbl_3 l Z a0 hw [] G1 HG h0 n0 X00  ) hZ (w76 hw) (w22 hw) (by decide) (by decide)) (g := (mkF m 1 #[.val (.int (3 : Int32))] [(.int (3 : Int32))])) rfl (by rw [hml]; rfl) (argsL := [(.int (3 : Int32))]) (rest := []) (lenOf pd_17 rfl) rfl (by show 2 * 0 + _ ≤ _; exact Nat.le_of_eq rfl) (hb hby d1_1) (fun _ _ => ⟨rfl, e0, (by decide : 0 + 0 ≤ _), (by decide : 0 + 0 ≤ _)⟩)
  dsimp only [Pt.U, Pt.locs, Pt.cells, Pt.slots] at X_1 l_1 y_1 z_1 st_1 hQ_1
  subst l_1 y_1 z_1
  obtain ⟨rfl, N_2, e_3⟩ := hQ_1
  have N_4 := Fr.app N0 N_2
  have e_5 : T_1.heap = h0 := e_3
  obtain ⟨T_6, h_7, k_8, X_9, e_10, E_11, A_12, st_13⟩ := newP (aty := .byte) X_1 hx hZ (w24 hw) e_5 (g := (mkF m 4 #[.val (.int (3 : Int32))] [(.int (6 : Int32))])) rfl (hb hby d1_4) rfl (by decide : ¬ ((6 : Int32) < (0 : Int32))) (cap := 6) (by decide : (6 : Int32).toNatClampNeg ≤ 6) (by decide) (by decide) (by decide)
  obtain ⟨a_14, g_15⟩ : ∃ z, z = h0.size := ⟨_, rfl⟩
  rw [← g_15] at A_12 st_13
  have V_17 : Arv Z h_7 a_14 k_8 .byte (6 : Int32) [] (.int (0 : Int32)) := Arv.new A_12 (by decide : ¬ ((6 : Int32) < (0 : Int32)))
  have V_16 : Arv Z h_7 a_14 k_8 .byte (6 : Int32) [(.int (0 : Int32)), (.int (0 : Int32)), (.int (0 : Int32)), (.int (0 : Int32)), (.int (0 : Int32)), (.int (0 : Int32))] (.int (0 : Int32)) := (V_17.pad (pad_rep [] (.int (0 : Int32)) 6))
  have C_18 : Steps p.tables e below S0 (T_6.setTop (mkF m 6 #[.val (.int (3 : Int32))] [(.ref a_14)])) := by
    refine C0.trans ?_
    refine XS.iloadN X0.here hx rfl (hb hby d1_0) rfl ?_
    refine st_1 _ ?_
    refine st_13 _ ?_
    exact Steps.refl _
  have K_19 : Keep h0 h_7 [] := ((Keep.refl _ _).ext E_11)
  obtain ⟨fs, hr, hrun, hended, hW, hsame⟩ := X_9.leave (v := some (.ref a_14)) (fun h => by rw [Bd.returns] at h; cases h)
  refine ⟨_, _, C_18.trans (retOut X_9 hx Bd.returns rfl (Or.inr (Or.inr (Or.inr (Or.inr ⟨rfl, rfl, rfl⟩)))) (hb hby d1_6) hr), hrun, hended, _, _, rfl, ?_, ⟨_, rfl⟩, hW, hsame.mono (by decide) (by decide)⟩
  show Q_nbf_3 Z G1  h0 n0 (some (.ref a_14)) T_6.heap _
  rw [e_10]
  exact ⟨a_14, k_8, rfl, N_4, K_19, (Nat.le_trans (Nat.le_refl _) (Nat.le_of_eq g_15.symm)), V_16⟩
abbrev R_put_3_0 : Room := { frames := 0, cells := 0, slots := 0, locals := 0 }
def Q_put_3_0 (Z : State) (G1 : Int32) (t : Addr) (kt : ClassId) (cc : Int32) (y0 : Int32) (y1 : Int32) (y2 : Int32) (y3 : Int32) (y4 : Int32) (y5 : Int32) (h0 : Heap) (n0 : Nat) (v : Option Value) (h : Heap) (L : List Loc) : Prop := (v = none ∧ Fr n0 L ∧ Keep h0 h [t] ∧ (Arv Z h t kt .byte (6 : Int32) [(.int (own_lo8z cc)), (.int (own_hi8 cc)), (.int y2), (.int y3), (.int y4), (.int y5)] (.int (0 : Int32))))
set_option maxRecDepth 65536 in
set_option maxHeartbeats 40000000 in
theorem rm_put_3_0 (l : Launch) (Z : State) (a0 : Array Value) (hw : ∀ d ∈ tables_1, d.before a0 Z = true) (ws : List Jvm.Cond) (G1 : Int32) (HG : own_G l Z a0 G1) (h0 : Heap) (n0 : Nat) (X00 : Old Z n0 h0) (t : Addr) (kt : ClassId) (cc : Int32) (y0 : Int32) (y1 : Int32) (y2 : Int32) (y3 : Int32) (y4 : Int32) (y5 : Int32) (hp0 : Arv Z h0 t kt .byte (6 : Int32) [(.int y0), (.int y1), (.int y2), (.int y3), (.int y4), (.int y5)] (.int (0 : Int32))) (hp1 : n0 ≤ t) :
    own_CP l Z M24 jdk_52_method_4_code 3 none ws R_put_3_0 #[(.ref t), (.int (0 : Int32)), (.int cc)] h0 (Q_put_3_0 Z G1 t kt cc y0 y1 y2 y3 y4 y5 h0 n0) := by
  refine own_P (plainFor_of_name pn_2) ?_
  intro p e s m below meth c s₁ S0 Bd hZ hh hx hby hml hown hnm X0 e0 hS0d
  obtain ⟨O1, P1, OAD, OHI, OLO⟩ := id HG
  have N0 := Fr.nil n0
  have C0 : Steps p.tables e below S0 (s₁.setTop (mkF m 0 #[.val (.ref t), .val (.int (0 : Int32)), .val (.int cc)] [])) := by rw [hS0d]; exact castTop (ef_25 m t (0 : Int32) cc) (Steps.refl _)
  obtain ⟨T_1, X_2, e_3, st_4⟩ := getS X0 hx hZ (host := "") hown (w81 hw) Via.refl e0 (OAD.ext X00.2) (g := (mkF m 0 #[.val (.ref t), .val (.int (0 : Int32)), .val (.int cc)] [])) rfl (hb hby d2_0)
  obtain ⟨T_5, X_6, e_7, st_8⟩ := getS X_2 hx hZ (host := "") hown (w82 hw) Via.refl e_3 (OHI.ext X00.2) (g := (mkF m 38 #[.val (.ref t), .val (.int (1 : Int32)), .val (.int cc)] [(.int cc), (.int (0 : Int32)), (.ref t)])) rfl (hb hby d2_38)
  obtain ⟨c_9, A_10, q_11, S_12, M_13, H_14, U_15⟩ := id hp0
  have hin_22 : ¬ ((0 : Int32) < 0 ∨ c_9.slots.size ≤ (0 : Int32).toNatClampNeg) := inb_of S_12 ⟨(by decide : ¬ ((0 : Int32) < (0 : Int32))), (by decide : (0 : Int32) < (6 : Int32))⟩
  obtain ⟨T_16, h_17, X_18, e_19, W_20, st_21⟩ := stB X_6 hx hZ e_7 A_10 (j := (0 : Int32)) hin_22 (g := (mkF m 43 #[.val (.ref t), .val (.int (1 : Int32)), .val (.int cc)] [(.int ((cc >>> ((0 : Int32) &&& 31)).toInt8.toInt32)), (.int (0 : Int32)), (.ref t)])) rfl rfl (hb hby d2_43)
  have N_23 := Fr.snoc X_18 N0 hp1
  have V_24 : Arv Z h_17 t kt .byte (6 : Int32) [(.int (own_lo8z cc)), (.int y1), (.int y2), (.int y3), (.int y4), (.int y5)] (.int (0 : Int32)) := Arv.set A_10 q_11 S_12 M_13 H_14 U_15 (fits_nar_byte _) W_20 0 rfl (Nat.le_of_ble_eq_true rfl)
  have O_29 : Old Z n0 h_17 := (X00.wr W_20 hp1)
  obtain ⟨T_25, X_26, e_27, st_28⟩ := getS X_18 hx hZ (host := "") hown (w83 hw) Via.refl e_19 (OLO.ext O_29.2) (g := (mkF m 47 #[.val (.ref t), .val (.int (1 : Int32)), .val (.int cc)] [(.int cc), (.int (1 : Int32)), (.ref t)])) rfl (hb hby d2_47)
  obtain ⟨c_30, A_31, q_32, S_33, M_34, H_35, U_36⟩ := id V_24
  have hin_43 : ¬ ((1 : Int32) < 0 ∨ c_30.slots.size ≤ (1 : Int32).toNatClampNeg) := inb_of S_33 ⟨(by decide : ¬ ((1 : Int32) < (0 : Int32))), (by decide : (1 : Int32) < (6 : Int32))⟩
  obtain ⟨T_37, h_38, X_39, e_40, W_41, st_42⟩ := stB X_26 hx hZ e_27 A_31 (j := (1 : Int32)) hin_43 (g := (mkF m 52 #[.val (.ref t), .val (.int (1 : Int32)), .val (.int cc)] [(.int ((cc >>> ((8 : Int32) &&& 31)).toInt8.toInt32)), (.int (1 : Int32)), (.ref t)])) rfl rfl (hb hby d2_52)
  have N_44 := Fr.snoc X_39 N_23 hp1
  have V_45 : Arv Z h_38 t kt .byte (6 : Int32) [(.int (own_lo8z cc)), (.int (own_hi8 cc)), (.int y2), (.int y3), (.int y4), (.int y5)] (.int (0 : Int32)) := Arv.set A_31 q_32 S_33 M_34 H_35 U_36 (fits_nar_byte _) W_41 1 rfl (Nat.le_of_ble_eq_true rfl)
  have C_46 : Steps p.tables e below S0 (T_37.setTop (mkF m 53 #[.val (.ref t), .val (.int (1 : Int32)), .val (.int cc)] [])) := by
    refine C0.trans ?_
    refine st_4 _ ?_
    refine XS.ifYes X_2.here hx rfl (pc0 := 3) (pc' := 28) rfl (hb hby d2_3) rfl (by decide) (by decide) (by decide) ?_
    refine XS.iloadN X_2.here hx rfl (hb hby d2_28) rfl ?_
    refine XS.iconst X_2.here hx rfl (hb hby d2_29) ?_
    refine XS.ishl X_2.here hx rfl (hb hby d2_30) rfl ?_
    refine XS.istoreN X_2.here hx rfl (hb hby d2_31) rfl (l' := #[.val (.ref t), .val (.int (0 : Int32)), .val (.int cc)]) rfl ?_
    refine XS.aloadN X_2.here hx rfl (hb hby d2_32) rfl rfl ?_
    refine XS.iloadN X_2.here hx rfl (hb hby d2_33) rfl ?_
    show Steps p.tables e below (T_1.setTop (mkF m 34 #[.val (.ref t), .val (.int (0 : Int32)), .val (.int cc)] [(.int (0 : Int32)), (.ref t)])) _
    refine XS.iinc X_2.here hx rfl (hb hby d2_34) (x := (0 : Int32)) rfl (l' := #[.val (.ref t), .val (.int (1 : Int32)), .val (.int cc)]) rfl ?_
    refine XS.iloadN X_2.here hx rfl (hb hby d2_37) rfl ?_
    refine st_8 _ ?_
    refine XS.ishr X_6.here hx rfl (hb hby d2_41) rfl ?_
    refine XS.i2b X_6.here hx rfl (hb hby d2_42) rfl ?_
    refine st_21 _ ?_
    refine XS.aloadN X_18.here hx rfl (hb hby d2_44) rfl rfl ?_
    refine XS.iloadN X_18.here hx rfl (hb hby d2_45) rfl ?_
    show Steps p.tables e below (T_16.setTop (mkF m 46 #[.val (.ref t), .val (.int (1 : Int32)), .val (.int cc)] [(.int (1 : Int32)), (.ref t)])) _
    refine XS.iloadN X_18.here hx rfl (hb hby d2_46) rfl ?_
    refine st_28 _ ?_
    refine XS.ishr X_26.here hx rfl (hb hby d2_50) rfl ?_
    refine XS.i2b X_26.here hx rfl (hb hby d2_51) rfl ?_
    refine st_42 _ ?_
    exact Steps.refl _
  have K_47 : Keep h0 h_38 [t] := (((Keep.refl _ _).wr W_20 (Or.inl (List.mem_of_getElem? (i := 0) rfl))).wr W_41 (Or.inl (List.mem_of_getElem? (i := 0) rfl)))
  obtain ⟨fs, hr, hrun, hended, hW, hsame⟩ := X_39.leave (v := none) (fun _ => rfl)
  refine ⟨_, _, C_46.trans (X_39.returnOut hx Bd.returns (hb hby d2_53) hr), hrun, hended, _, _, rfl, ?_, ⟨_, rfl⟩, hW, hsame.mono (by decide) (by decide)⟩
  show Q_put_3_0 Z G1 t kt cc y0 y1 y2 y3 y4 y5 h0 n0 (none) T_37.heap _
  rw [e_40]
  exact ⟨rfl, N_44, K_47, V_45⟩
abbrev R_put_3_1 : Room := { frames := 0, cells := 0, slots := 0, locals := 0 }
def Q_put_3_1 (Z : State) (G1 : Int32) (t : Addr) (kt : ClassId) (cc : Int32) (y0 : Int32) (y1 : Int32) (y2 : Int32) (y3 : Int32) (y4 : Int32) (y5 : Int32) (h0 : Heap) (n0 : Nat) (v : Option Value) (h : Heap) (L : List Loc) : Prop := (v = none ∧ Fr n0 L ∧ Keep h0 h [t] ∧ (Arv Z h t kt .byte (6 : Int32) [(.int y0), (.int y1), (.int (own_lo8z cc)), (.int (own_hi8 cc)), (.int y4), (.int y5)] (.int (0 : Int32))))
set_option maxRecDepth 65536 in
set_option maxHeartbeats 40000000 in
theorem rm_put_3_1 (l : Launch) (Z : State) (a0 : Array Value) (hw : ∀ d ∈ tables_1, d.before a0 Z = true) (ws : List Jvm.Cond) (G1 : Int32) (HG : own_G l Z a0 G1) (h0 : Heap) (n0 : Nat) (X00 : Old Z n0 h0) (t : Addr) (kt : ClassId) (cc : Int32) (y0 : Int32) (y1 : Int32) (y2 : Int32) (y3 : Int32) (y4 : Int32) (y5 : Int32) (hp0 : Arv Z h0 t kt .byte (6 : Int32) [(.int y0), (.int y1), (.int y2), (.int y3), (.int y4), (.int y5)] (.int (0 : Int32))) (hp1 : n0 ≤ t) :
    own_CP l Z M24 jdk_52_method_4_code 3 none ws R_put_3_1 #[(.ref t), (.int (1 : Int32)), (.int cc)] h0 (Q_put_3_1 Z G1 t kt cc y0 y1 y2 y3 y4 y5 h0 n0) := by
  refine own_P (plainFor_of_name pn_2) ?_
  intro p e s m below meth c s₁ S0 Bd hZ hh hx hby hml hown hnm X0 e0 hS0d
  obtain ⟨O1, P1, OAD, OHI, OLO⟩ := id HG
  have N0 := Fr.nil n0
  have C0 : Steps p.tables e below S0 (s₁.setTop (mkF m 0 #[.val (.ref t), .val (.int (1 : Int32)), .val (.int cc)] [])) := by rw [hS0d]; exact castTop (ef_25 m t (1 : Int32) cc) (Steps.refl _)
  obtain ⟨T_1, X_2, e_3, st_4⟩ := getS X0 hx hZ (host := "") hown (w81 hw) Via.refl e0 (OAD.ext X00.2) (g := (mkF m 0 #[.val (.ref t), .val (.int (1 : Int32)), .val (.int cc)] [])) rfl (hb hby d2_0)
  obtain ⟨T_5, X_6, e_7, st_8⟩ := getS X_2 hx hZ (host := "") hown (w82 hw) Via.refl e_3 (OHI.ext X00.2) (g := (mkF m 38 #[.val (.ref t), .val (.int (3 : Int32)), .val (.int cc)] [(.int cc), (.int (2 : Int32)), (.ref t)])) rfl (hb hby d2_38)
  obtain ⟨c_9, A_10, q_11, S_12, M_13, H_14, U_15⟩ := id hp0
  have hin_22 : ¬ ((2 : Int32) < 0 ∨ c_9.slots.size ≤ (2 : Int32).toNatClampNeg) := inb_of S_12 ⟨(by decide : ¬ ((2 : Int32) < (0 : Int32))), (by decide : (2 : Int32) < (6 : Int32))⟩
  obtain ⟨T_16, h_17, X_18, e_19, W_20, st_21⟩ := stB X_6 hx hZ e_7 A_10 (j := (2 : Int32)) hin_22 (g := (mkF m 43 #[.val (.ref t), .val (.int (3 : Int32)), .val (.int cc)] [(.int ((cc >>> ((0 : Int32) &&& 31)).toInt8.toInt32)), (.int (2 : Int32)), (.ref t)])) rfl rfl (hb hby d2_43)
  have N_23 := Fr.snoc X_18 N0 hp1
  have V_24 : Arv Z h_17 t kt .byte (6 : Int32) [(.int y0), (.int y1), (.int (own_lo8z cc)), (.int y3), (.int y4), (.int y5)] (.int (0 : Int32)) := Arv.set A_10 q_11 S_12 M_13 H_14 U_15 (fits_nar_byte _) W_20 2 rfl (Nat.le_of_ble_eq_true rfl)
  have O_29 : Old Z n0 h_17 := (X00.wr W_20 hp1)
  obtain ⟨T_25, X_26, e_27, st_28⟩ := getS X_18 hx hZ (host := "") hown (w83 hw) Via.refl e_19 (OLO.ext O_29.2) (g := (mkF m 47 #[.val (.ref t), .val (.int (3 : Int32)), .val (.int cc)] [(.int cc), (.int (3 : Int32)), (.ref t)])) rfl (hb hby d2_47)
  obtain ⟨c_30, A_31, q_32, S_33, M_34, H_35, U_36⟩ := id V_24
  have hin_43 : ¬ ((3 : Int32) < 0 ∨ c_30.slots.size ≤ (3 : Int32).toNatClampNeg) := inb_of S_33 ⟨(by decide : ¬ ((3 : Int32) < (0 : Int32))), (by decide : (3 : Int32) < (6 : Int32))⟩
  obtain ⟨T_37, h_38, X_39, e_40, W_41, st_42⟩ := stB X_26 hx hZ e_27 A_31 (j := (3 : Int32)) hin_43 (g := (mkF m 52 #[.val (.ref t), .val (.int (3 : Int32)), .val (.int cc)] [(.int ((cc >>> ((8 : Int32) &&& 31)).toInt8.toInt32)), (.int (3 : Int32)), (.ref t)])) rfl rfl (hb hby d2_52)
  have N_44 := Fr.snoc X_39 N_23 hp1
  have V_45 : Arv Z h_38 t kt .byte (6 : Int32) [(.int y0), (.int y1), (.int (own_lo8z cc)), (.int (own_hi8 cc)), (.int y4), (.int y5)] (.int (0 : Int32)) := Arv.set A_31 q_32 S_33 M_34 H_35 U_36 (fits_nar_byte _) W_41 3 rfl (Nat.le_of_ble_eq_true rfl)
  have C_46 : Steps p.tables e below S0 (T_37.setTop (mkF m 53 #[.val (.ref t), .val (.int (3 : Int32)), .val (.int cc)] [])) := by
    refine C0.trans ?_
    refine st_4 _ ?_
    refine XS.ifYes X_2.here hx rfl (pc0 := 3) (pc' := 28) rfl (hb hby d2_3) rfl (by decide) (by decide) (by decide) ?_
    refine XS.iloadN X_2.here hx rfl (hb hby d2_28) rfl ?_
    refine XS.iconst X_2.here hx rfl (hb hby d2_29) ?_
    refine XS.ishl X_2.here hx rfl (hb hby d2_30) rfl ?_
    refine XS.istoreN X_2.here hx rfl (hb hby d2_31) rfl (l' := #[.val (.ref t), .val (.int (2 : Int32)), .val (.int cc)]) rfl ?_
    refine XS.aloadN X_2.here hx rfl (hb hby d2_32) rfl rfl ?_
    refine XS.iloadN X_2.here hx rfl (hb hby d2_33) rfl ?_
    show Steps p.tables e below (T_1.setTop (mkF m 34 #[.val (.ref t), .val (.int (2 : Int32)), .val (.int cc)] [(.int (2 : Int32)), (.ref t)])) _
    refine XS.iinc X_2.here hx rfl (hb hby d2_34) (x := (2 : Int32)) rfl (l' := #[.val (.ref t), .val (.int (3 : Int32)), .val (.int cc)]) rfl ?_
    refine XS.iloadN X_2.here hx rfl (hb hby d2_37) rfl ?_
    refine st_8 _ ?_
    refine XS.ishr X_6.here hx rfl (hb hby d2_41) rfl ?_
    refine XS.i2b X_6.here hx rfl (hb hby d2_42) rfl ?_
    refine st_21 _ ?_
    refine XS.aloadN X_18.here hx rfl (hb hby d2_44) rfl rfl ?_
    refine XS.iloadN X_18.here hx rfl (hb hby d2_45) rfl ?_
    show Steps p.tables e below (T_16.setTop (mkF m 46 #[.val (.ref t), .val (.int (3 : Int32)), .val (.int cc)] [(.int (3 : Int32)), (.ref t)])) _
    refine XS.iloadN X_18.here hx rfl (hb hby d2_46) rfl ?_
    refine st_28 _ ?_
    refine XS.ishr X_26.here hx rfl (hb hby d2_50) rfl ?_
    refine XS.i2b X_26.here hx rfl (hb hby d2_51) rfl ?_
    refine st_42 _ ?_
    exact Steps.refl _
  have K_47 : Keep h0 h_38 [t] := (((Keep.refl _ _).wr W_20 (Or.inl (List.mem_of_getElem? (i := 0) rfl))).wr W_41 (Or.inl (List.mem_of_getElem? (i := 0) rfl)))
  obtain ⟨fs, hr, hrun, hended, hW, hsame⟩ := X_39.leave (v := none) (fun _ => rfl)
  refine ⟨_, _, C_46.trans (X_39.returnOut hx Bd.returns (hb hby d2_53) hr), hrun, hended, _, _, rfl, ?_, ⟨_, rfl⟩, hW, hsame.mono (by decide) (by decide)⟩
  show Q_put_3_1 Z G1 t kt cc y0 y1 y2 y3 y4 y5 h0 n0 (none) T_37.heap _
  rw [e_40]
  exact ⟨rfl, N_44, K_47, V_45⟩
abbrev R_put_3_2 : Room := { frames := 0, cells := 0, slots := 0, locals := 0 }
def Q_put_3_2 (Z : State) (G1 : Int32) (t : Addr) (kt : ClassId) (cc : Int32) (y0 : Int32) (y1 : Int32) (y2 : Int32) (y3 : Int32) (y4 : Int32) (y5 : Int32) (h0 : Heap) (n0 : Nat) (v : Option Value) (h : Heap) (L : List Loc) : Prop := (v = none ∧ Fr n0 L ∧ Keep h0 h [t] ∧ (Arv Z h t kt .byte (6 : Int32) [(.int y0), (.int y1), (.int y2), (.int y3), (.int (own_lo8z cc)), (.int (own_hi8 cc))] (.int (0 : Int32))))
set_option maxRecDepth 65536 in
set_option maxHeartbeats 40000000 in
theorem rm_put_3_2 (l : Launch) (Z : State) (a0 : Array Value) (hw : ∀ d ∈ tables_1, d.before a0 Z = true) (ws : List Jvm.Cond) (G1 : Int32) (HG : own_G l Z a0 G1) (h0 : Heap) (n0 : Nat) (X00 : Old Z n0 h0) (t : Addr) (kt : ClassId) (cc : Int32) (y0 : Int32) (y1 : Int32) (y2 : Int32) (y3 : Int32) (y4 : Int32) (y5 : Int32) (hp0 : Arv Z h0 t kt .byte (6 : Int32) [(.int y0), (.int y1), (.int y2), (.int y3), (.int y4), (.int y5)] (.int (0 : Int32))) (hp1 : n0 ≤ t) :
    own_CP l Z M24 jdk_52_method_4_code 3 none ws R_put_3_2 #[(.ref t), (.int (2 : Int32)), (.int cc)] h0 (Q_put_3_2 Z G1 t kt cc y0 y1 y2 y3 y4 y5 h0 n0) := by
  refine own_P (plainFor_of_name pn_2) ?_
  intro p e s m below meth c s₁ S0 Bd hZ hh hx hby hml hown hnm X0 e0 hS0d
  obtain ⟨O1, P1, OAD, OHI, OLO⟩ := id HG
  have N0 := Fr.nil n0
  have C0 : Steps p.tables e below S0 (s₁.setTop (mkF m 0 #[.val (.ref t), .val (.int (2 : Int32)), .val (.int cc)] [])) := by rw [hS0d]; exact castTop (ef_25 m t (2 : Int32) cc) (Steps.refl _)
  obtain ⟨T_1, X_2, e_3, st_4⟩ := getS X0 hx hZ (host := "") hown (w81 hw) Via.refl e0 (OAD.ext X00.2) (g := (mkF m 0 #[.val (.ref t), .val (.int (2 : Int32)), .val (.int cc)] [])) rfl (hb hby d2_0)
  obtain ⟨T_5, X_6, e_7, st_8⟩ := getS X_2 hx hZ (host := "") hown (w82 hw) Via.refl e_3 (OHI.ext X00.2) (g := (mkF m 38 #[.val (.ref t), .val (.int (5 : Int32)), .val (.int cc)] [(.int cc), (.int (4 : Int32)), (.ref t)])) rfl (hb hby d2_38)
  obtain ⟨c_9, A_10, q_11, S_12, M_13, H_14, U_15⟩ := id hp0
  have hin_22 : ¬ ((4 : Int32) < 0 ∨ c_9.slots.size ≤ (4 : Int32).toNatClampNeg) := inb_of S_12 ⟨(by decide : ¬ ((4 : Int32) < (0 : Int32))), (by decide : (4 : Int32) < (6 : Int32))⟩
  obtain ⟨T_16, h_17, X_18, e_19, W_20, st_21⟩ := stB X_6 hx hZ e_7 A_10 (j := (4 : Int32)) hin_22 (g := (mkF m 43 #[.val (.ref t), .val (.int (5 : Int32)), .val (.int cc)] [(.int ((cc >>> ((0 : Int32) &&& 31)).toInt8.toInt32)), (.int (4 : Int32)), (.ref t)])) rfl rfl (hb hby d2_43)
  have N_23 := Fr.snoc X_18 N0 hp1
  have V_24 : Arv Z h_17 t kt .byte (6 : Int32) [(.int y0), (.int y1), (.int y2), (.int y3), (.int (own_lo8z cc)), (.int y5)] (.int (0 : Int32)) := Arv.set A_10 q_11 S_12 M_13 H_14 U_15 (fits_nar_byte _) W_20 4 rfl (Nat.le_of_ble_eq_true rfl)
  have O_29 : Old Z n0 h_17 := (X00.wr W_20 hp1)
  obtain ⟨T_25, X_26, e_27, st_28⟩ := getS X_18 hx hZ (host := "") hown (w83 hw) Via.refl e_19 (OLO.ext O_29.2) (g := (mkF m 47 #[.val (.ref t), .val (.int (5 : Int32)), .val (.int cc)] [(.int cc), (.int (5 : Int32)), (.ref t)])) rfl (hb hby d2_47)
  obtain ⟨c_30, A_31, q_32, S_33, M_34, H_35, U_36⟩ := id V_24
  have hin_43 : ¬ ((5 : Int32) < 0 ∨ c_30.slots.size ≤ (5 : Int32).toNatClampNeg) := inb_of S_33 ⟨(by decide : ¬ ((5 : Int32) < (0 : Int32))), (by decide : (5 : Int32) < (6 : Int32))⟩
  obtain ⟨T_37, h_38, X_39, e_40, W_41, st_42⟩ := stB X_26 hx hZ e_27 A_31 (j := (5 : Int32)) hin_43 (g := (mkF m 52 #[.val (.ref t), .val (.int (5 : Int32)), .val (.int cc)] [(.int ((cc >>> ((8 : Int32) &&& 31)).toInt8.toInt32)), (.int (5 : Int32)), (.ref t)])) rfl rfl (hb hby d2_52)
  have N_44 := Fr.snoc X_39 N_23 hp1
  have V_45 : Arv Z h_38 t kt .byte (6 : Int32) [(.int y0), (.int y1), (.int y2), (.int y3), (.int (own_lo8z cc)), (.int (own_hi8 cc))] (.int (0 : Int32)) := Arv.set A_31 q_32 S_33 M_34 H_35 U_36 (fits_nar_byte _) W_41 5 rfl (Nat.le_of_ble_eq_true rfl)
  have C_46 : Steps p.tables e below S0 (T_37.setTop (mkF m 53 #[.val (.ref t), .val (.int (5 : Int32)), .val (.int cc)] [])) := by
    refine C0.trans ?_
    refine st_4 _ ?_
    refine XS.ifYes X_2.here hx rfl (pc0 := 3) (pc' := 28) rfl (hb hby d2_3) rfl (by decide) (by decide) (by decide) ?_
    refine XS.iloadN X_2.here hx rfl (hb hby d2_28) rfl ?_
    refine XS.iconst X_2.here hx rfl (hb hby d2_29) ?_
    refine XS.ishl X_2.here hx rfl (hb hby d2_30) rfl ?_
    refine XS.istoreN X_2.here hx rfl (hb hby d2_31) rfl (l' := #[.val (.ref t), .val (.int (4 : Int32)), .val (.int cc)]) rfl ?_
    refine XS.aloadN X_2.here hx rfl (hb hby d2_32) rfl rfl ?_
    refine XS.iloadN X_2.here hx rfl (hb hby d2_33) rfl ?_
    show Steps p.tables e below (T_1.setTop (mkF m 34 #[.val (.ref t), .val (.int (4 : Int32)), .val (.int cc)] [(.int (4 : Int32)), (.ref t)])) _
    refine XS.iinc X_2.here hx rfl (hb hby d2_34) (x := (4 : Int32)) rfl (l' := #[.val (.ref t), .val (.int (5 : Int32)), .val (.int cc)]) rfl ?_
    refine XS.iloadN X_2.here hx rfl (hb hby d2_37) rfl ?_
    refine st_8 _ ?_
    refine XS.ishr X_6.here hx rfl (hb hby d2_41) rfl ?_
    refine XS.i2b X_6.here hx rfl (hb hby d2_42) rfl ?_
    refine st_21 _ ?_
    refine XS.aloadN X_18.here hx rfl (hb hby d2_44) rfl rfl ?_
    refine XS.iloadN X_18.here hx rfl (hb hby d2_45) rfl ?_
    show Steps p.tables e below (T_16.setTop (mkF m 46 #[.val (.ref t), .val (.int (5 : Int32)), .val (.int cc)] [(.int (5 : Int32)), (.ref t)])) _
    refine XS.iloadN X_18.here hx rfl (hb hby d2_46) rfl ?_
    refine st_28 _ ?_
    refine XS.ishr X_26.here hx rfl (hb hby d2_50) rfl ?_
    refine XS.i2b X_26.here hx rfl (hb hby d2_51) rfl ?_
    refine st_42 _ ?_
    exact Steps.refl _
  have K_47 : Keep h0 h_38 [t] := (((Keep.refl _ _).wr W_20 (Or.inl (List.mem_of_getElem? (i := 0) rfl))).wr W_41 (Or.inl (List.mem_of_getElem? (i := 0) rfl)))
  obtain ⟨fs, hr, hrun, hended, hW, hsame⟩ := X_39.leave (v := none) (fun _ => rfl)
  refine ⟨_, _, C_46.trans (X_39.returnOut hx Bd.returns (hb hby d2_53) hr), hrun, hended, _, _, rfl, ?_, ⟨_, rfl⟩, hW, hsame.mono (by decide) (by decide)⟩
  show Q_put_3_2 Z G1 t kt cc y0 y1 y2 y3 y4 y5 h0 n0 (none) T_37.heap _
  rw [e_40]
  exact ⟨rfl, N_44, K_47, V_45⟩
abbrev R_tob_3 : Room := { frames := 2, cells := 1, slots := 6, locals := 24 }
def Q_tob_3 (Z : State) (G1 : Int32) (b : Addr) (k : ClassId) (c0 : Int32) (c1 : Int32) (c2 : Int32) (h0 : Heap) (n0 : Nat) (v : Option Value) (h : Heap) (L : List Loc) : Prop := (∃ t : Addr, ∃ kt : ClassId, v = some (.ref t) ∧ Fr n0 L ∧ Keep h0 h [] ∧ (h0.size ≤ t) ∧ (Arv Z h t kt .byte (6 : Int32) [(.int (own_lo8z c0)), (.int (own_hi8 c0)), (.int (own_lo8z c1)), (.int (own_hi8 c1)), (.int (own_lo8z c2)), (.int (own_hi8 c2))] (.int (0 : Int32))))
set_option maxRecDepth 65536 in
set_option maxHeartbeats 40000000 in
theorem rm_tob_3 (l : Launch) (Z : State) (a0 : Array Value) (hw : ∀ d ∈ tables_1, d.before a0 Z = true) (ws : List Jvm.Cond) (G1 : Int32) (HG : own_G l Z a0 G1) (h0 : Heap) (n0 : Nat) (X00 : Old Z n0 h0) (b : Addr) (k : ClassId) (c0 : Int32) (c1 : Int32) (c2 : Int32) (hp0 : Arv Z h0 b k .char (3 : Int32) [(.int c0), (.int c1), (.int c2)] (.int (0 : Int32))) :
    own_CP l Z M51 jdk_52_method_14_code 5 (some (.array .byte)) ws R_tob_3 #[(.ref b), (.int (0 : Int32)), (.int (3 : Int32))] h0 (Q_tob_3 Z G1 b k c0 c1 c2 h0 n0) := by
  refine own_P (plainFor_of_name pn_2) ?_
  intro p e s m below meth c s₁ S0 Bd hZ hh hx hby hml hown hnm X0 e0 hS0d
  obtain ⟨O1, P1, OAD, OHI, OLO⟩ := id HG
  have N0 := Fr.nil n0
  have C0 : Steps p.tables e below S0 (s₁.setTop (mkF m 0 #[.val (.ref b), .val (.int (0 : Int32)), .val (.int (3 : Int32)), .unset, .unset] [])) := by rw [hS0d]; exact castTop (ef_52 m b (0 : Int32) (3 : Int32)) (Steps.refl _)
  obtain ⟨_, _, ⟨T_1, L_1, k_1, n_1⟩, -, X_1, ⟨Lc_1, hQ_1, l_1, y_1, z_1⟩, st_1⟩ := Jvm.LawKit.callS X0 hx (y := M13) hown (mvT hZ (w71 hw)) (mvT hZ (w72 hw)) (mvT hZ (w22 hw)) (mvT hZ (w73 hw)) (by decide) (backOf (W := 0) (rm_nbf_3 l Z a0 hw [] G1 HG h0 n0 X00  ) hZ (w73 hw) (w22 hw) (by decide) (by decide)) (g := (mkF m 1 #[.val (.ref b), .val (.int (0 : Int32)), .val (.int (3 : Int32)), .unset, .unset] [(.int (3 : Int32))])) rfl (by rw [hml]; rfl) (argsL := [(.int (3 : Int32))]) (rest := []) (lenOf pd_55 rfl) rfl (by show 2 * 0 + _ ≤ _; exact Nat.le_of_eq rfl) (hb hby d3_1) (fun _ _ => ⟨rfl, e0, (by decide : 0 + 1 ≤ _), (by decide : 0 + 6 ≤ _)⟩)
  dsimp only [Pt.U, Pt.locs, Pt.cells, Pt.slots] at X_1 l_1 y_1 z_1 st_1 hQ_1
  subst l_1 y_1 z_1
  obtain ⟨a_2, k_3, rfl, N_4, K_5, g_6, g_7⟩ := hQ_1
  have N_8 := Fr.app N0 N_4
  have V_9 : Arv Z T_1.heap b k .char (3 : Int32) [(.int c0), (.int c1), (.int c2)] (.int (0 : Int32)) := (hp0.keep K_5 nin0)
  obtain ⟨c_10, A_11, q_12, S_13, M_14, H_15, U_16⟩ := id V_9
  have hin_17 : ¬ ((0 : Int32) < 0 ∨ c_10.slots.size ≤ (0 : Int32).toNatClampNeg) := inb_of S_13 ⟨(by decide : ¬ ((0 : Int32) < (0 : Int32))), (by decide : (0 : Int32) < (3 : Int32))⟩
  have hat_18 : c_10.slots[(0 : Int32).toNatClampNeg]? = some (.int c0) := Has.at H_15 hin_17 rfl
  have O_19 : Old Z n0 T_1.heap := (X00.keep K_5 all0)
  obtain ⟨_, _, ⟨T_20, L_20, k_20, n_20⟩, -, X_20, ⟨Lc_20, hQ_20, l_20, y_20, z_20⟩, st_20⟩ := Jvm.LawKit.callS X_1 hx (y := M24) hown (mvT hZ (w78 hw)) (mvT hZ (w79 hw)) (mvT hZ (w22 hw)) (mvT hZ (w80 hw)) (by decide) (backOf (W := 0) (rm_put_3_0 l Z a0 hw [] G1 HG T_1.heap n0 O_19 a_2 k_3 c0 (0 : Int32) (0 : Int32) (0 : Int32) (0 : Int32) (0 : Int32) (0 : Int32) g_7 (Nat.le_trans (own_n0 X00) g_6)) hZ (w80 hw) (w22 hw) (by decide) (by decide)) (g := (mkF m 20 #[.val (.ref b), .val (.int (0 : Int32)), .val (.int (3 : Int32)), .val (.ref a_2), .val (.int (0 : Int32))] [(.int c0), (.int (0 : Int32)), (.ref a_2)])) rfl (by rw [hml]; rfl) (argsL := [(.ref a_2), (.int (0 : Int32)), (.int c0)]) (rest := []) (lenOf pd_71 rfl) rfl (by show 2 * 0 + _ ≤ _; exact Nat.le_of_eq rfl) (hb hby d3_20) (fun _ _ => ⟨rfl, rfl, (by decide : 1 + 0 ≤ _), (by decide : 6 + 0 ≤ _)⟩)
  dsimp only [Pt.U, Pt.locs, Pt.cells, Pt.slots] at X_20 l_20 y_20 z_20 st_20 hQ_20
  subst l_20 y_20 z_20
  obtain ⟨rfl, N_21, K_22, g_23⟩ := hQ_20
  have N_24 := Fr.app N_8 N_21
  have V_25 : Arv Z T_20.heap b k .char (3 : Int32) [(.int c0), (.int c1), (.int c2)] (.int (0 : Int32)) := (V_9.keep K_22 (ninS (Nat.ne_of_lt (Nat.lt_of_lt_of_le hp0.lt (Nat.le_trans (Nat.le_refl _) g_6))) nin0))
  obtain ⟨c_26, A_27, q_28, S_29, M_30, H_31, U_32⟩ := id V_25
  have hin_33 : ¬ ((1 : Int32) < 0 ∨ c_26.slots.size ≤ (1 : Int32).toNatClampNeg) := inb_of S_29 ⟨(by decide : ¬ ((1 : Int32) < (0 : Int32))), (by decide : (1 : Int32) < (3 : Int32))⟩
  have hat_34 : c_26.slots[(1 : Int32).toNatClampNeg]? = some (.int c1) := Has.at H_31 hin_33 rfl
  have O_35 : Old Z n0 T_20.heap := (O_19.keep K_22 (allS (Nat.le_trans (own_n0 X00) g_6) all0))
  obtain ⟨_, _, ⟨T_36, L_36, k_36, n_36⟩, -, X_36, ⟨Lc_36, hQ_36, l_36, y_36, z_36⟩, st_36⟩ := Jvm.LawKit.callS X_20 hx (y := M24) hown (mvT hZ (w78 hw)) (mvT hZ (w79 hw)) (mvT hZ (w22 hw)) (mvT hZ (w80 hw)) (by decide) (backOf (W := 0) (rm_put_3_1 l Z a0 hw [] G1 HG T_20.heap n0 O_35 a_2 k_3 c1 (own_lo8z c0) (own_hi8 c0) (0 : Int32) (0 : Int32) (0 : Int32) (0 : Int32) g_23 (Nat.le_trans (own_n0 X00) g_6)) hZ (w80 hw) (w22 hw) (by decide) (by decide)) (g := (mkF m 20 #[.val (.ref b), .val (.int (1 : Int32)), .val (.int (3 : Int32)), .val (.ref a_2), .val (.int (1 : Int32))] [(.int c1), (.int (1 : Int32)), (.ref a_2)])) rfl (by rw [hml]; rfl) (argsL := [(.ref a_2), (.int (1 : Int32)), (.int c1)]) (rest := []) (lenOf pd_71 rfl) rfl (by show 2 * 0 + _ ≤ _; exact Nat.le_of_eq rfl) (hb hby d3_20) (fun _ _ => ⟨rfl, rfl, (by decide : 1 + 0 ≤ _), (by decide : 6 + 0 ≤ _)⟩)
  dsimp only [Pt.U, Pt.locs, Pt.cells, Pt.slots] at X_36 l_36 y_36 z_36 st_36 hQ_36
  subst l_36 y_36 z_36
  obtain ⟨rfl, N_37, K_38, g_39⟩ := hQ_36
  have N_40 := Fr.app N_24 N_37
  have V_41 : Arv Z T_36.heap b k .char (3 : Int32) [(.int c0), (.int c1), (.int c2)] (.int (0 : Int32)) := (V_25.keep K_38 (ninS (Nat.ne_of_lt (Nat.lt_of_lt_of_le hp0.lt (Nat.le_trans (Nat.le_refl _) g_6))) nin0))
  obtain ⟨c_42, A_43, q_44, S_45, M_46, H_47, U_48⟩ := id V_41
  have hin_49 : ¬ ((2 : Int32) < 0 ∨ c_42.slots.size ≤ (2 : Int32).toNatClampNeg) := inb_of S_45 ⟨(by decide : ¬ ((2 : Int32) < (0 : Int32))), (by decide : (2 : Int32) < (3 : Int32))⟩
  have hat_50 : c_42.slots[(2 : Int32).toNatClampNeg]? = some (.int c2) := Has.at H_47 hin_49 rfl
  have O_51 : Old Z n0 T_36.heap := (O_35.keep K_38 (allS (Nat.le_trans (own_n0 X00) g_6) all0))
  obtain ⟨_, _, ⟨T_52, L_52, k_52, n_52⟩, -, X_52, ⟨Lc_52, hQ_52, l_52, y_52, z_52⟩, st_52⟩ := Jvm.LawKit.callS X_36 hx (y := M24) hown (mvT hZ (w78 hw)) (mvT hZ (w79 hw)) (mvT hZ (w22 hw)) (mvT hZ (w80 hw)) (by decide) (backOf (W := 0) (rm_put_3_2 l Z a0 hw [] G1 HG T_36.heap n0 O_51 a_2 k_3 c2 (own_lo8z c0) (own_hi8 c0) (own_lo8z c1) (own_hi8 c1) (0 : Int32) (0 : Int32) g_39 (Nat.le_trans (own_n0 X00) g_6)) hZ (w80 hw) (w22 hw) (by decide) (by decide)) (g := (mkF m 20 #[.val (.ref b), .val (.int (2 : Int32)), .val (.int (3 : Int32)), .val (.ref a_2), .val (.int (2 : Int32))] [(.int c2), (.int (2 : Int32)), (.ref a_2)])) rfl (by rw [hml]; rfl) (argsL := [(.ref a_2), (.int (2 : Int32)), (.int c2)]) (rest := []) (lenOf pd_71 rfl) rfl (by show 2 * 0 + _ ≤ _; exact Nat.le_of_eq rfl) (hb hby d3_20) (fun _ _ => ⟨rfl, rfl, (by decide : 1 + 0 ≤ _), (by decide : 6 + 0 ≤ _)⟩)
  dsimp only [Pt.U, Pt.locs, Pt.cells, Pt.slots] at X_52 l_52 y_52 z_52 st_52 hQ_52
  subst l_52 y_52 z_52
  obtain ⟨rfl, N_53, K_54, g_55⟩ := hQ_52
  have N_56 := Fr.app N_40 N_53
  have C_57 : Steps p.tables e below S0 (T_52.setTop (mkF m 33 #[.val (.ref b), .val (.int (3 : Int32)), .val (.int (3 : Int32)), .val (.ref a_2), .val (.int (3 : Int32))] [(.ref a_2)])) := by
    refine C0.trans ?_
    refine XS.iloadN X0.here hx rfl (hb hby d3_0) rfl ?_
    refine st_1 _ ?_
    refine XS.astoreN X_1.here hx rfl (hb hby d3_4) rfl rfl (l' := #[.val (.ref b), .val (.int (0 : Int32)), .val (.int (3 : Int32)), .val (.ref a_2), .unset]) rfl ?_
    refine XS.iconst X_1.here hx rfl (hb hby d3_5) ?_
    refine XS.istore X_1.here hx rfl (hb hby d3_6) rfl (l' := #[.val (.ref b), .val (.int (0 : Int32)), .val (.int (3 : Int32)), .val (.ref a_2), .val (.int (0 : Int32))]) rfl ?_
    refine XS.iload X_1.here hx rfl (hb hby d3_8) rfl ?_
    refine XS.iloadN X_1.here hx rfl (hb hby d3_10) rfl ?_
    refine XS.icmpNo X_1.here hx rfl (hb hby d3_11) rfl (by decide) ?_
    show Steps p.tables e below (T_1.setTop (mkF m 14 #[.val (.ref b), .val (.int (0 : Int32)), .val (.int (3 : Int32)), .val (.ref a_2), .val (.int (0 : Int32))] [])) _
    refine XS.aloadN X_1.here hx rfl (hb hby d3_14) rfl rfl ?_
    refine XS.iload X_1.here hx rfl (hb hby d3_15) rfl ?_
    refine XS.aloadN X_1.here hx rfl (hb hby d3_17) rfl rfl ?_
    refine XS.iloadN X_1.here hx rfl (hb hby d3_18) rfl ?_
    refine X_1.caload hx (j := (0 : Int32)) (v := (.int c0)) (A_11.1) (State.isArrayOf_alike hZ.alike A_11.2.1) A_11.2.2 hin_17 hat_18 (g := (mkF m 19 #[.val (.ref b), .val (.int (0 : Int32)), .val (.int (3 : Int32)), .val (.ref a_2), .val (.int (0 : Int32))] [(.int (0 : Int32)), (.ref b), (.int (0 : Int32)), (.ref a_2)])) rfl rfl (hb hby d3_19) _ ?_
    refine st_20 _ ?_
    refine XS.iinc X_20.here hx rfl (hb hby d3_23) (x := (0 : Int32)) rfl (l' := #[.val (.ref b), .val (.int (1 : Int32)), .val (.int (3 : Int32)), .val (.ref a_2), .val (.int (0 : Int32))]) rfl ?_
    refine XS.iinc X_20.here hx rfl (hb hby d3_26) (x := (0 : Int32)) rfl (l' := #[.val (.ref b), .val (.int (1 : Int32)), .val (.int (3 : Int32)), .val (.ref a_2), .val (.int (1 : Int32))]) rfl ?_
    show Steps p.tables e below (T_20.setTop (mkF m 29 #[.val (.ref b), .val (.int (1 : Int32)), .val (.int (3 : Int32)), .val (.ref a_2), .val (.int (1 : Int32))] [])) _
    refine XS.goto X_20.here hx rfl (pc0 := 29) (pc' := 8) rfl (hb hby d3_29) (by decide) (by decide) ?_
    refine XS.iload X_20.here hx rfl (hb hby d3_8) rfl ?_
    refine XS.iloadN X_20.here hx rfl (hb hby d3_10) rfl ?_
    refine XS.icmpNo X_20.here hx rfl (hb hby d3_11) rfl (by decide) ?_
    refine XS.aloadN X_20.here hx rfl (hb hby d3_14) rfl rfl ?_
    refine XS.iload X_20.here hx rfl (hb hby d3_15) rfl ?_
    refine XS.aloadN X_20.here hx rfl (hb hby d3_17) rfl rfl ?_
    refine XS.iloadN X_20.here hx rfl (hb hby d3_18) rfl ?_
    show Steps p.tables e below (T_20.setTop (mkF m 19 #[.val (.ref b), .val (.int (1 : Int32)), .val (.int (3 : Int32)), .val (.ref a_2), .val (.int (1 : Int32))] [(.int (1 : Int32)), (.ref b), (.int (1 : Int32)), (.ref a_2)])) _
    refine X_20.caload hx (j := (1 : Int32)) (v := (.int c1)) (A_27.1) (State.isArrayOf_alike hZ.alike A_27.2.1) A_27.2.2 hin_33 hat_34 (g := (mkF m 19 #[.val (.ref b), .val (.int (1 : Int32)), .val (.int (3 : Int32)), .val (.ref a_2), .val (.int (1 : Int32))] [(.int (1 : Int32)), (.ref b), (.int (1 : Int32)), (.ref a_2)])) rfl rfl (hb hby d3_19) _ ?_
    refine st_36 _ ?_
    refine XS.iinc X_36.here hx rfl (hb hby d3_23) (x := (1 : Int32)) rfl (l' := #[.val (.ref b), .val (.int (2 : Int32)), .val (.int (3 : Int32)), .val (.ref a_2), .val (.int (1 : Int32))]) rfl ?_
    refine XS.iinc X_36.here hx rfl (hb hby d3_26) (x := (1 : Int32)) rfl (l' := #[.val (.ref b), .val (.int (2 : Int32)), .val (.int (3 : Int32)), .val (.ref a_2), .val (.int (2 : Int32))]) rfl ?_
    refine XS.goto X_36.here hx rfl (pc0 := 29) (pc' := 8) rfl (hb hby d3_29) (by decide) (by decide) ?_
    refine XS.iload X_36.here hx rfl (hb hby d3_8) rfl ?_
    refine XS.iloadN X_36.here hx rfl (hb hby d3_10) rfl ?_
    refine XS.icmpNo X_36.here hx rfl (hb hby d3_11) rfl (by decide) ?_
    show Steps p.tables e below (T_36.setTop (mkF m 14 #[.val (.ref b), .val (.int (2 : Int32)), .val (.int (3 : Int32)), .val (.ref a_2), .val (.int (2 : Int32))] [])) _
    refine XS.aloadN X_36.here hx rfl (hb hby d3_14) rfl rfl ?_
    refine XS.iload X_36.here hx rfl (hb hby d3_15) rfl ?_
    refine XS.aloadN X_36.here hx rfl (hb hby d3_17) rfl rfl ?_
    refine XS.iloadN X_36.here hx rfl (hb hby d3_18) rfl ?_
    refine X_36.caload hx (j := (2 : Int32)) (v := (.int c2)) (A_43.1) (State.isArrayOf_alike hZ.alike A_43.2.1) A_43.2.2 hin_49 hat_50 (g := (mkF m 19 #[.val (.ref b), .val (.int (2 : Int32)), .val (.int (3 : Int32)), .val (.ref a_2), .val (.int (2 : Int32))] [(.int (2 : Int32)), (.ref b), (.int (2 : Int32)), (.ref a_2)])) rfl rfl (hb hby d3_19) _ ?_
    refine st_52 _ ?_
    refine XS.iinc X_52.here hx rfl (hb hby d3_23) (x := (2 : Int32)) rfl (l' := #[.val (.ref b), .val (.int (3 : Int32)), .val (.int (3 : Int32)), .val (.ref a_2), .val (.int (2 : Int32))]) rfl ?_
    refine XS.iinc X_52.here hx rfl (hb hby d3_26) (x := (2 : Int32)) rfl (l' := #[.val (.ref b), .val (.int (3 : Int32)), .val (.int (3 : Int32)), .val (.ref a_2), .val (.int (3 : Int32))]) rfl ?_
    show Steps p.tables e below (T_52.setTop (mkF m 29 #[.val (.ref b), .val (.int (3 : Int32)), .val (.int (3 : Int32)), .val (.ref a_2), .val (.int (3 : Int32))] [])) _
    refine XS.goto X_52.here hx rfl (pc0 := 29) (pc' := 8) rfl (hb hby d3_29) (by decide) (by decide) ?_
    refine XS.iload X_52.here hx rfl (hb hby d3_8) rfl ?_
    refine XS.iloadN X_52.here hx rfl (hb hby d3_10) rfl ?_
    refine XS.icmpYes X_52.here hx rfl (pc0 := 11) (pc' := 32) rfl (hb hby d3_11) rfl (by decide) (by decide) (by decide) ?_
    refine XS.aloadN X_52.here hx rfl (hb hby d3_32) rfl rfl ?_
    exact Steps.refl _
  have K_58 : Keep h0 T_52.heap [] := (((((Keep.refl _ _).trans K_5 all0).trans K_22 (allS (Or.inr (Nat.le_trans (Nat.le_refl _) g_6)) all0)).trans K_38 (allS (Or.inr (Nat.le_trans (Nat.le_refl _) g_6)) all0)).trans K_54 (allS (Or.inr (Nat.le_trans (Nat.le_refl _) g_6)) all0))
  obtain ⟨fs, hr, hrun, hended, hW, hsame⟩ := X_52.leave (v := some (.ref a_2)) (fun h => by rw [Bd.returns] at h; cases h)
  refine ⟨_, _, C_57.trans (retOut X_52 hx Bd.returns rfl (Or.inr (Or.inr (Or.inr (Or.inr ⟨rfl, rfl, rfl⟩)))) (hb hby d3_33) hr), hrun, hended, _, _, rfl, ?_, ⟨_, rfl⟩, hW, hsame.mono (by decide) (by decide)⟩
  show Q_tob_3 Z G1 b k c0 c1 c2 h0 n0 (some (.ref a_2)) T_52.heap _
  exact ⟨a_2, k_3, rfl, N_56, K_58, (Nat.le_trans (Nat.le_refl _) g_6), g_55⟩
abbrev R_get_3_0 : Room := { frames := 0, cells := 0, slots := 0, locals := 0 }
def Q_get_3_0 (Z : State) (G1 : Int32) (t : Addr) (kt : ClassId) (y0 : Int32) (y1 : Int32) (y2 : Int32) (y3 : Int32) (y4 : Int32) (y5 : Int32) (h0 : Heap) (n0 : Nat) (v : Option Value) (h : Heap) (L : List Loc) : Prop := (v = some (.int (own_pair y0 y1)) ∧ Fr n0 L ∧ h = h0)
set_option maxRecDepth 65536 in
set_option maxHeartbeats 40000000 in
theorem rm_get_3_0 (l : Launch) (Z : State) (a0 : Array Value) (hw : ∀ d ∈ tables_1, d.before a0 Z = true) (ws : List Jvm.Cond) (G1 : Int32) (HG : own_G l Z a0 G1) (h0 : Heap) (n0 : Nat) (X00 : Old Z n0 h0) (t : Addr) (kt : ClassId) (y0 : Int32) (y1 : Int32) (y2 : Int32) (y3 : Int32) (y4 : Int32) (y5 : Int32) (hp0 : Arv Z h0 t kt .byte (6 : Int32) [(.int y0), (.int y1), (.int y2), (.int y3), (.int y4), (.int y5)] (.int (0 : Int32))) :
    own_CP l Z M80 jdk_52_method_5_code 2 (some .char) ws R_get_3_0 #[(.ref t), (.int (0 : Int32))] h0 (Q_get_3_0 Z G1 t kt y0 y1 y2 y3 y4 y5 h0 n0) := by
  refine own_P (plainFor_of_name pn_2) ?_
  intro p e s m below meth c s₁ S0 Bd hZ hh hx hby hml hown hnm X0 e0 hS0d
  obtain ⟨O1, P1, OAD, OHI, OLO⟩ := id HG
  have N0 := Fr.nil n0
  have C0 : Steps p.tables e below S0 (s₁.setTop (mkF m 0 #[.val (.ref t), .val (.int (0 : Int32))] [])) := by rw [hS0d]; exact castTop (ef_81 m t (0 : Int32)) (Steps.refl _)
  obtain ⟨T_1, X_2, e_3, st_4⟩ := getS X0 hx hZ (host := "") hown (w81 hw) Via.refl e0 (OAD.ext X00.2) (g := (mkF m 0 #[.val (.ref t), .val (.int (0 : Int32))] [])) rfl (hb hby d4_0)
  obtain ⟨c_5, A_6, q_7, S_8, M_9, H_10, U_11⟩ := id hp0
  have hin_12 : ¬ ((0 : Int32) < 0 ∨ c_5.slots.size ≤ (0 : Int32).toNatClampNeg) := inb_of S_8 ⟨(by decide : ¬ ((0 : Int32) < (0 : Int32))), (by decide : (0 : Int32) < (6 : Int32))⟩
  have hat_13 : c_5.slots[(0 : Int32).toNatClampNeg]? = some (.int y0) := Has.at H_10 hin_12 rfl
  obtain ⟨T_14, X_15, e_16, st_17⟩ := getS X_2 hx hZ (host := "") hown (w82 hw) Via.refl e_3 (OHI.ext X00.2) (g := (mkF m 42 #[.val (.ref t), .val (.int (1 : Int32))] [(.int (y0 &&& (255 : Int32)))])) rfl (hb hby d4_42)
  obtain ⟨c_18, A_19, q_20, S_21, M_22, H_23, U_24⟩ := id hp0
  have hin_25 : ¬ ((1 : Int32) < 0 ∨ c_18.slots.size ≤ (1 : Int32).toNatClampNeg) := inb_of S_21 ⟨(by decide : ¬ ((1 : Int32) < (0 : Int32))), (by decide : (1 : Int32) < (6 : Int32))⟩
  have hat_26 : c_18.slots[(1 : Int32).toNatClampNeg]? = some (.int y1) := Has.at H_23 hin_25 rfl
  obtain ⟨T_27, X_28, e_29, st_30⟩ := getS X_15 hx hZ (host := "") hown (w83 hw) Via.refl e_16 (OLO.ext X00.2) (g := (mkF m 53 #[.val (.ref t), .val (.int (1 : Int32))] [(.int (y1 &&& (255 : Int32))), (.int ((y0 &&& (255 : Int32)) <<< ((0 : Int32) &&& 31)))])) rfl (hb hby d4_53)
  have C_31 : Steps p.tables e below S0 (T_27.setTop (mkF m 59 #[.val (.ref t), .val (.int (1 : Int32))] [(.int ((((y0 &&& (255 : Int32)) <<< ((0 : Int32) &&& 31)) ||| ((y1 &&& (255 : Int32)) <<< ((8 : Int32) &&& 31))).toUInt32.toUInt16.toUInt32.toInt32))])) := by
    refine C0.trans ?_
    refine st_4 _ ?_
    refine XS.ifYes X_2.here hx rfl (pc0 := 3) (pc' := 28) rfl (hb hby d4_3) rfl (by decide) (by decide) (by decide) ?_
    refine XS.iloadN X_2.here hx rfl (hb hby d4_28) rfl ?_
    refine XS.iconst X_2.here hx rfl (hb hby d4_29) ?_
    refine XS.ishl X_2.here hx rfl (hb hby d4_30) rfl ?_
    refine XS.istoreN X_2.here hx rfl (hb hby d4_31) rfl (l' := #[.val (.ref t), .val (.int (0 : Int32))]) rfl ?_
    refine XS.aloadN X_2.here hx rfl (hb hby d4_32) rfl rfl ?_
    refine XS.iloadN X_2.here hx rfl (hb hby d4_33) rfl ?_
    show Steps p.tables e below (T_1.setTop (mkF m 34 #[.val (.ref t), .val (.int (0 : Int32))] [(.int (0 : Int32)), (.ref t)])) _
    refine XS.iinc X_2.here hx rfl (hb hby d4_34) (x := (0 : Int32)) rfl (l' := #[.val (.ref t), .val (.int (1 : Int32))]) rfl ?_
    refine X_2.baloadBytes hx (j := (0 : Int32)) (v := (.int y0)) (by rw [e_3]; exact A_6.1) (State.isArrayOf_alike hZ.alike A_6.2.1) A_6.2.2 hin_12 hat_13 (g := (mkF m 37 #[.val (.ref t), .val (.int (1 : Int32))] [(.int (0 : Int32)), (.ref t)])) rfl rfl (hb hby d4_37) _ ?_
    refine XS.sipush X_2.here hx rfl (hb hby d4_38) ?_
    refine XS.iand X_2.here hx rfl (hb hby d4_41) rfl ?_
    refine st_17 _ ?_
    refine XS.ishl X_15.here hx rfl (hb hby d4_45) rfl ?_
    refine XS.aloadN X_15.here hx rfl (hb hby d4_46) rfl rfl ?_
    refine XS.iloadN X_15.here hx rfl (hb hby d4_47) rfl ?_
    show Steps p.tables e below (T_14.setTop (mkF m 48 #[.val (.ref t), .val (.int (1 : Int32))] [(.int (1 : Int32)), (.ref t), (.int ((y0 &&& (255 : Int32)) <<< ((0 : Int32) &&& 31)))])) _
    refine X_15.baloadBytes hx (j := (1 : Int32)) (v := (.int y1)) (by rw [e_16]; exact A_19.1) (State.isArrayOf_alike hZ.alike A_19.2.1) A_19.2.2 hin_25 hat_26 (g := (mkF m 48 #[.val (.ref t), .val (.int (1 : Int32))] [(.int (1 : Int32)), (.ref t), (.int ((y0 &&& (255 : Int32)) <<< ((0 : Int32) &&& 31)))])) rfl rfl (hb hby d4_48) _ ?_
    refine XS.sipush X_15.here hx rfl (hb hby d4_49) ?_
    refine XS.iand X_15.here hx rfl (hb hby d4_52) rfl ?_
    refine st_30 _ ?_
    refine XS.ishl X_28.here hx rfl (hb hby d4_56) rfl ?_
    refine XS.ior X_28.here hx rfl (hb hby d4_57) rfl ?_
    refine XS.i2c X_28.here hx rfl (hb hby d4_58) rfl ?_
    exact Steps.refl _
  obtain ⟨fs, hr, hrun, hended, hW, hsame⟩ := X_28.leave (v := some (.int (own_pair y0 y1))) (fun h => by rw [Bd.returns] at h; cases h)
  refine ⟨_, _, C_31.trans (retN X_28 hx (t := .char) Bd.returns (by simp) (hb hby d4_59) hr), hrun, hended, _, _, rfl, ?_, ⟨_, rfl⟩, hW, hsame.mono (by decide) (by decide)⟩
  show Q_get_3_0 Z G1 t kt y0 y1 y2 y3 y4 y5 h0 n0 (some (.int (own_pair y0 y1))) T_27.heap _
  rw [e_29]
  exact ⟨rfl, N0, rfl⟩
abbrev R_get_3_1 : Room := { frames := 0, cells := 0, slots := 0, locals := 0 }
def Q_get_3_1 (Z : State) (G1 : Int32) (t : Addr) (kt : ClassId) (y0 : Int32) (y1 : Int32) (y2 : Int32) (y3 : Int32) (y4 : Int32) (y5 : Int32) (h0 : Heap) (n0 : Nat) (v : Option Value) (h : Heap) (L : List Loc) : Prop := (v = some (.int (own_pair y2 y3)) ∧ Fr n0 L ∧ h = h0)
set_option maxRecDepth 65536 in
set_option maxHeartbeats 40000000 in
theorem rm_get_3_1 (l : Launch) (Z : State) (a0 : Array Value) (hw : ∀ d ∈ tables_1, d.before a0 Z = true) (ws : List Jvm.Cond) (G1 : Int32) (HG : own_G l Z a0 G1) (h0 : Heap) (n0 : Nat) (X00 : Old Z n0 h0) (t : Addr) (kt : ClassId) (y0 : Int32) (y1 : Int32) (y2 : Int32) (y3 : Int32) (y4 : Int32) (y5 : Int32) (hp0 : Arv Z h0 t kt .byte (6 : Int32) [(.int y0), (.int y1), (.int y2), (.int y3), (.int y4), (.int y5)] (.int (0 : Int32))) :
    own_CP l Z M80 jdk_52_method_5_code 2 (some .char) ws R_get_3_1 #[(.ref t), (.int (1 : Int32))] h0 (Q_get_3_1 Z G1 t kt y0 y1 y2 y3 y4 y5 h0 n0) := by
  refine own_P (plainFor_of_name pn_2) ?_
  intro p e s m below meth c s₁ S0 Bd hZ hh hx hby hml hown hnm X0 e0 hS0d
  obtain ⟨O1, P1, OAD, OHI, OLO⟩ := id HG
  have N0 := Fr.nil n0
  have C0 : Steps p.tables e below S0 (s₁.setTop (mkF m 0 #[.val (.ref t), .val (.int (1 : Int32))] [])) := by rw [hS0d]; exact castTop (ef_81 m t (1 : Int32)) (Steps.refl _)
  obtain ⟨T_1, X_2, e_3, st_4⟩ := getS X0 hx hZ (host := "") hown (w81 hw) Via.refl e0 (OAD.ext X00.2) (g := (mkF m 0 #[.val (.ref t), .val (.int (1 : Int32))] [])) rfl (hb hby d4_0)
  obtain ⟨c_5, A_6, q_7, S_8, M_9, H_10, U_11⟩ := id hp0
  have hin_12 : ¬ ((2 : Int32) < 0 ∨ c_5.slots.size ≤ (2 : Int32).toNatClampNeg) := inb_of S_8 ⟨(by decide : ¬ ((2 : Int32) < (0 : Int32))), (by decide : (2 : Int32) < (6 : Int32))⟩
  have hat_13 : c_5.slots[(2 : Int32).toNatClampNeg]? = some (.int y2) := Has.at H_10 hin_12 rfl
  obtain ⟨T_14, X_15, e_16, st_17⟩ := getS X_2 hx hZ (host := "") hown (w82 hw) Via.refl e_3 (OHI.ext X00.2) (g := (mkF m 42 #[.val (.ref t), .val (.int (3 : Int32))] [(.int (y2 &&& (255 : Int32)))])) rfl (hb hby d4_42)
  obtain ⟨c_18, A_19, q_20, S_21, M_22, H_23, U_24⟩ := id hp0
  have hin_25 : ¬ ((3 : Int32) < 0 ∨ c_18.slots.size ≤ (3 : Int32).toNatClampNeg) := inb_of S_21 ⟨(by decide : ¬ ((3 : Int32) < (0 : Int32))), (by decide : (3 : Int32) < (6 : Int32))⟩
  have hat_26 : c_18.slots[(3 : Int32).toNatClampNeg]? = some (.int y3) := Has.at H_23 hin_25 rfl
  obtain ⟨T_27, X_28, e_29, st_30⟩ := getS X_15 hx hZ (host := "") hown (w83 hw) Via.refl e_16 (OLO.ext X00.2) (g := (mkF m 53 #[.val (.ref t), .val (.int (3 : Int32))] [(.int (y3 &&& (255 : Int32))), (.int ((y2 &&& (255 : Int32)) <<< ((0 : Int32) &&& 31)))])) rfl (hb hby d4_53)
  have C_31 : Steps p.tables e below S0 (T_27.setTop (mkF m 59 #[.val (.ref t), .val (.int (3 : Int32))] [(.int ((((y2 &&& (255 : Int32)) <<< ((0 : Int32) &&& 31)) ||| ((y3 &&& (255 : Int32)) <<< ((8 : Int32) &&& 31))).toUInt32.toUInt16.toUInt32.toInt32))])) := by
    refine C0.trans ?_
    refine st_4 _ ?_
    refine XS.ifYes X_2.here hx rfl (pc0 := 3) (pc' := 28) rfl (hb hby d4_3) rfl (by decide) (by decide) (by decide) ?_
    refine XS.iloadN X_2.here hx rfl (hb hby d4_28) rfl ?_
    refine XS.iconst X_2.here hx rfl (hb hby d4_29) ?_
    refine XS.ishl X_2.here hx rfl (hb hby d4_30) rfl ?_
    refine XS.istoreN X_2.here hx rfl (hb hby d4_31) rfl (l' := #[.val (.ref t), .val (.int (2 : Int32))]) rfl ?_
    refine XS.aloadN X_2.here hx rfl (hb hby d4_32) rfl rfl ?_
    refine XS.iloadN X_2.here hx rfl (hb hby d4_33) rfl ?_
    show Steps p.tables e below (T_1.setTop (mkF m 34 #[.val (.ref t), .val (.int (2 : Int32))] [(.int (2 : Int32)), (.ref t)])) _
    refine XS.iinc X_2.here hx rfl (hb hby d4_34) (x := (2 : Int32)) rfl (l' := #[.val (.ref t), .val (.int (3 : Int32))]) rfl ?_
    refine X_2.baloadBytes hx (j := (2 : Int32)) (v := (.int y2)) (by rw [e_3]; exact A_6.1) (State.isArrayOf_alike hZ.alike A_6.2.1) A_6.2.2 hin_12 hat_13 (g := (mkF m 37 #[.val (.ref t), .val (.int (3 : Int32))] [(.int (2 : Int32)), (.ref t)])) rfl rfl (hb hby d4_37) _ ?_
    refine XS.sipush X_2.here hx rfl (hb hby d4_38) ?_
    refine XS.iand X_2.here hx rfl (hb hby d4_41) rfl ?_
    refine st_17 _ ?_
    refine XS.ishl X_15.here hx rfl (hb hby d4_45) rfl ?_
    refine XS.aloadN X_15.here hx rfl (hb hby d4_46) rfl rfl ?_
    refine XS.iloadN X_15.here hx rfl (hb hby d4_47) rfl ?_
    show Steps p.tables e below (T_14.setTop (mkF m 48 #[.val (.ref t), .val (.int (3 : Int32))] [(.int (3 : Int32)), (.ref t), (.int ((y2 &&& (255 : Int32)) <<< ((0 : Int32) &&& 31)))])) _
    refine X_15.baloadBytes hx (j := (3 : Int32)) (v := (.int y3)) (by rw [e_16]; exact A_19.1) (State.isArrayOf_alike hZ.alike A_19.2.1) A_19.2.2 hin_25 hat_26 (g := (mkF m 48 #[.val (.ref t), .val (.int (3 : Int32))] [(.int (3 : Int32)), (.ref t), (.int ((y2 &&& (255 : Int32)) <<< ((0 : Int32) &&& 31)))])) rfl rfl (hb hby d4_48) _ ?_
    refine XS.sipush X_15.here hx rfl (hb hby d4_49) ?_
    refine XS.iand X_15.here hx rfl (hb hby d4_52) rfl ?_
    refine st_30 _ ?_
    refine XS.ishl X_28.here hx rfl (hb hby d4_56) rfl ?_
    refine XS.ior X_28.here hx rfl (hb hby d4_57) rfl ?_
    refine XS.i2c X_28.here hx rfl (hb hby d4_58) rfl ?_
    exact Steps.refl _
  obtain ⟨fs, hr, hrun, hended, hW, hsame⟩ := X_28.leave (v := some (.int (own_pair y2 y3))) (fun h => by rw [Bd.returns] at h; cases h)
  refine ⟨_, _, C_31.trans (retN X_28 hx (t := .char) Bd.returns (by simp) (hb hby d4_59) hr), hrun, hended, _, _, rfl, ?_, ⟨_, rfl⟩, hW, hsame.mono (by decide) (by decide)⟩
  show Q_get_3_1 Z G1 t kt y0 y1 y2 y3 y4 y5 h0 n0 (some (.int (own_pair y2 y3))) T_27.heap _
  rw [e_29]
  exact ⟨rfl, N0, rfl⟩
abbrev R_get_3_2 : Room := { frames := 0, cells := 0, slots := 0, locals := 0 }
def Q_get_3_2 (Z : State) (G1 : Int32) (t : Addr) (kt : ClassId) (y0 : Int32) (y1 : Int32) (y2 : Int32) (y3 : Int32) (y4 : Int32) (y5 : Int32) (h0 : Heap) (n0 : Nat) (v : Option Value) (h : Heap) (L : List Loc) : Prop := (v = some (.int (own_pair y4 y5)) ∧ Fr n0 L ∧ h = h0)
set_option maxRecDepth 65536 in
set_option maxHeartbeats 40000000 in
theorem rm_get_3_2 (l : Launch) (Z : State) (a0 : Array Value) (hw : ∀ d ∈ tables_1, d.before a0 Z = true) (ws : List Jvm.Cond) (G1 : Int32) (HG : own_G l Z a0 G1) (h0 : Heap) (n0 : Nat) (X00 : Old Z n0 h0) (t : Addr) (kt : ClassId) (y0 : Int32) (y1 : Int32) (y2 : Int32) (y3 : Int32) (y4 : Int32) (y5 : Int32) (hp0 : Arv Z h0 t kt .byte (6 : Int32) [(.int y0), (.int y1), (.int y2), (.int y3), (.int y4), (.int y5)] (.int (0 : Int32))) :
    own_CP l Z M80 jdk_52_method_5_code 2 (some .char) ws R_get_3_2 #[(.ref t), (.int (2 : Int32))] h0 (Q_get_3_2 Z G1 t kt y0 y1 y2 y3 y4 y5 h0 n0) := by
  refine own_P (plainFor_of_name pn_2) ?_
  intro p e s m below meth c s₁ S0 Bd hZ hh hx hby hml hown hnm X0 e0 hS0d
  obtain ⟨O1, P1, OAD, OHI, OLO⟩ := id HG
  have N0 := Fr.nil n0
  have C0 : Steps p.tables e below S0 (s₁.setTop (mkF m 0 #[.val (.ref t), .val (.int (2 : Int32))] [])) := by rw [hS0d]; exact castTop (ef_81 m t (2 : Int32)) (Steps.refl _)
  obtain ⟨T_1, X_2, e_3, st_4⟩ := getS X0 hx hZ (host := "") hown (w81 hw) Via.refl e0 (OAD.ext X00.2) (g := (mkF m 0 #[.val (.ref t), .val (.int (2 : Int32))] [])) rfl (hb hby d4_0)
  obtain ⟨c_5, A_6, q_7, S_8, M_9, H_10, U_11⟩ := id hp0
  have hin_12 : ¬ ((4 : Int32) < 0 ∨ c_5.slots.size ≤ (4 : Int32).toNatClampNeg) := inb_of S_8 ⟨(by decide : ¬ ((4 : Int32) < (0 : Int32))), (by decide : (4 : Int32) < (6 : Int32))⟩
  have hat_13 : c_5.slots[(4 : Int32).toNatClampNeg]? = some (.int y4) := Has.at H_10 hin_12 rfl
  obtain ⟨T_14, X_15, e_16, st_17⟩ := getS X_2 hx hZ (host := "") hown (w82 hw) Via.refl e_3 (OHI.ext X00.2) (g := (mkF m 42 #[.val (.ref t), .val (.int (5 : Int32))] [(.int (y4 &&& (255 : Int32)))])) rfl (hb hby d4_42)
  obtain ⟨c_18, A_19, q_20, S_21, M_22, H_23, U_24⟩ := id hp0
  have hin_25 : ¬ ((5 : Int32) < 0 ∨ c_18.slots.size ≤ (5 : Int32).toNatClampNeg) := inb_of S_21 ⟨(by decide : ¬ ((5 : Int32) < (0 : Int32))), (by decide : (5 : Int32) < (6 : Int32))⟩
  have hat_26 : c_18.slots[(5 : Int32).toNatClampNeg]? = some (.int y5) := Has.at H_23 hin_25 rfl
  obtain ⟨T_27, X_28, e_29, st_30⟩ := getS X_15 hx hZ (host := "") hown (w83 hw) Via.refl e_16 (OLO.ext X00.2) (g := (mkF m 53 #[.val (.ref t), .val (.int (5 : Int32))] [(.int (y5 &&& (255 : Int32))), (.int ((y4 &&& (255 : Int32)) <<< ((0 : Int32) &&& 31)))])) rfl (hb hby d4_53)
  have C_31 : Steps p.tables e below S0 (T_27.setTop (mkF m 59 #[.val (.ref t), .val (.int (5 : Int32))] [(.int ((((y4 &&& (255 : Int32)) <<< ((0 : Int32) &&& 31)) ||| ((y5 &&& (255 : Int32)) <<< ((8 : Int32) &&& 31))).toUInt32.toUInt16.toUInt32.toInt32))])) := by
    refine C0.trans ?_
    refine st_4 _ ?_
    refine XS.ifYes X_2.here hx rfl (pc0 := 3) (pc' := 28) rfl (hb hby d4_3) rfl (by decide) (by decide) (by decide) ?_
    refine XS.iloadN X_2.here hx rfl (hb hby d4_28) rfl ?_
    refine XS.iconst X_2.here hx rfl (hb hby d4_29) ?_
    refine XS.ishl X_2.here hx rfl (hb hby d4_30) rfl ?_
    refine XS.istoreN X_2.here hx rfl (hb hby d4_31) rfl (l' := #[.val (.ref t), .val (.int (4 : Int32))]) rfl ?_
    refine XS.aloadN X_2.here hx rfl (hb hby d4_32) rfl rfl ?_
    refine XS.iloadN X_2.here hx rfl (hb hby d4_33) rfl ?_
    show Steps p.tables e below (T_1.setTop (mkF m 34 #[.val (.ref t), .val (.int (4 : Int32))] [(.int (4 : Int32)), (.ref t)])) _
    refine XS.iinc X_2.here hx rfl (hb hby d4_34) (x := (4 : Int32)) rfl (l' := #[.val (.ref t), .val (.int (5 : Int32))]) rfl ?_
    refine X_2.baloadBytes hx (j := (4 : Int32)) (v := (.int y4)) (by rw [e_3]; exact A_6.1) (State.isArrayOf_alike hZ.alike A_6.2.1) A_6.2.2 hin_12 hat_13 (g := (mkF m 37 #[.val (.ref t), .val (.int (5 : Int32))] [(.int (4 : Int32)), (.ref t)])) rfl rfl (hb hby d4_37) _ ?_
    refine XS.sipush X_2.here hx rfl (hb hby d4_38) ?_
    refine XS.iand X_2.here hx rfl (hb hby d4_41) rfl ?_
    refine st_17 _ ?_
    refine XS.ishl X_15.here hx rfl (hb hby d4_45) rfl ?_
    refine XS.aloadN X_15.here hx rfl (hb hby d4_46) rfl rfl ?_
    refine XS.iloadN X_15.here hx rfl (hb hby d4_47) rfl ?_
    show Steps p.tables e below (T_14.setTop (mkF m 48 #[.val (.ref t), .val (.int (5 : Int32))] [(.int (5 : Int32)), (.ref t), (.int ((y4 &&& (255 : Int32)) <<< ((0 : Int32) &&& 31)))])) _
    refine X_15.baloadBytes hx (j := (5 : Int32)) (v := (.int y5)) (by rw [e_16]; exact A_19.1) (State.isArrayOf_alike hZ.alike A_19.2.1) A_19.2.2 hin_25 hat_26 (g := (mkF m 48 #[.val (.ref t), .val (.int (5 : Int32))] [(.int (5 : Int32)), (.ref t), (.int ((y4 &&& (255 : Int32)) <<< ((0 : Int32) &&& 31)))])) rfl rfl (hb hby d4_48) _ ?_
    refine XS.sipush X_15.here hx rfl (hb hby d4_49) ?_
    refine XS.iand X_15.here hx rfl (hb hby d4_52) rfl ?_
    refine st_30 _ ?_
    refine XS.ishl X_28.here hx rfl (hb hby d4_56) rfl ?_
    refine XS.ior X_28.here hx rfl (hb hby d4_57) rfl ?_
    refine XS.i2c X_28.here hx rfl (hb hby d4_58) rfl ?_
    exact Steps.refl _
  obtain ⟨fs, hr, hrun, hended, hW, hsame⟩ := X_28.leave (v := some (.int (own_pair y4 y5))) (fun h => by rw [Bd.returns] at h; cases h)
  refine ⟨_, _, C_31.trans (retN X_28 hx (t := .char) Bd.returns (by simp) (hb hby d4_59) hr), hrun, hended, _, _, rfl, ?_, ⟨_, rfl⟩, hW, hsame.mono (by decide) (by decide)⟩
  show Q_get_3_2 Z G1 t kt y0 y1 y2 y3 y4 y5 h0 n0 (some (.int (own_pair y4 y5))) T_27.heap _
  rw [e_29]
  exact ⟨rfl, N0, rfl⟩
abbrev R_cmp5u_3 : Room := { frames := 0, cells := 0, slots := 0, locals := 0 }
def Q_cmp5u_3 (Z : State) (G1 : Int32) (b : Addr) (k : ClassId) (t : Addr) (kt : ClassId) (c0 : Int32) (c1 : Int32) (c2 : Int32) (h0 : Heap) (n0 : Nat) (v : Option Value) (h : Heap) (L : List Loc) : Prop := (v = some (.int (0 : Int32)) ∧ Fr n0 L ∧ Keep h0 h [t] ∧ ((255 : Int32) < c0)) ∨ (v = some (.int (1 : Int32)) ∧ Fr n0 L ∧ Keep h0 h [t] ∧ ((255 : Int32) < c1)) ∨ (v = some (.int (2 : Int32)) ∧ Fr n0 L ∧ Keep h0 h [t] ∧ ((255 : Int32) < c2)) ∨ (v = some (.int (3 : Int32)) ∧ Fr n0 L ∧ Keep h0 h [t] ∧ (Arv Z h t kt .byte (3 : Int32) [(.int (own_lo8 c0)), (.int (own_lo8 c1)), (.int (own_lo8 c2))] (.int (0 : Int32))) ∧ (¬ ((255 : Int32) < c0)) ∧ (¬ ((255 : Int32) < c1)) ∧ (¬ ((255 : Int32) < c2)))
set_option maxRecDepth 65536 in
set_option maxHeartbeats 40000000 in
theorem rm_cmp5u_3 (l : Launch) (Z : State) (a0 : Array Value) (hw : ∀ d ∈ tables_1, d.before a0 Z = true) (ws : List Jvm.Cond) (G1 : Int32) (HG : own_G l Z a0 G1) (h0 : Heap) (n0 : Nat) (X00 : Old Z n0 h0) (b : Addr) (k : ClassId) (t : Addr) (kt : ClassId) (c0 : Int32) (c1 : Int32) (c2 : Int32) (hp0 : Arv Z h0 b k .char (3 : Int32) [(.int c0), (.int c1), (.int c2)] (.int (0 : Int32))) (hp1 : Arv Z h0 t kt .byte (3 : Int32) [(.int (0 : Int32)), (.int (0 : Int32)), (.int (0 : Int32))] (.int (0 : Int32))) (hp2 : n0 ≤ t) (hp3 : b ≠ t) :
    own_CP l Z M106 jdk_52_method_21_code 7 (some .int) ws R_cmp5u_3 #[(.ref b), (.int (0 : Int32)), (.ref t), (.int (0 : Int32)), (.int (3 : Int32))] h0 (Q_cmp5u_3 Z G1 b k t kt c0 c1 c2 h0 n0) := by
  refine own_P (plainFor_of_name pn_2) ?_
  intro p e s m below meth c s₁ S0 Bd hZ hh hx hby hml hown hnm X0 e0 hS0d
  obtain ⟨O1, P1, OAD, OHI, OLO⟩ := id HG
  have N0 := Fr.nil n0
  have C0 : Steps p.tables e below S0 (s₁.setTop (mkF m 0 #[.val (.ref b), .val (.int (0 : Int32)), .val (.ref t), .val (.int (0 : Int32)), .val (.int (3 : Int32)), .unset, .unset] [])) := by rw [hS0d]; exact castTop (ef_107 m b (0 : Int32) t (0 : Int32) (3 : Int32)) (Steps.refl _)
  obtain ⟨c_1, A_2, q_3, S_4, M_5, H_6, U_7⟩ := id hp0
  have hin_8 : ¬ ((0 : Int32) < 0 ∨ c_1.slots.size ≤ (0 : Int32).toNatClampNeg) := inb_of S_4 ⟨(by decide : ¬ ((0 : Int32) < (0 : Int32))), (by decide : (0 : Int32) < (3 : Int32))⟩
  have hat_9 : c_1.slots[(0 : Int32).toNatClampNeg]? = some (.int c0) := Has.at H_6 hin_8 rfl
  have C_10 : Steps p.tables e below S0 (s₁.setTop (mkF m 20 #[.val (.ref b), .val (.int (0 : Int32)), .val (.ref t), .val (.int (0 : Int32)), .val (.int (3 : Int32)), .val (.int (0 : Int32)), .val (.int c0)] [(.int (255 : Int32)), (.int c0)])) := by
    refine C0.trans ?_
    refine XS.iconst X0.here hx rfl (hb hby d5_0) ?_
    refine XS.istore X0.here hx rfl (hb hby d5_1) rfl (l' := #[.val (.ref b), .val (.int (0 : Int32)), .val (.ref t), .val (.int (0 : Int32)), .val (.int (3 : Int32)), .val (.int (0 : Int32)), .unset]) rfl ?_
    refine XS.iload X0.here hx rfl (hb hby d5_3) rfl ?_
    refine XS.iload X0.here hx rfl (hb hby d5_5) rfl ?_
    refine XS.icmpNo X0.here hx rfl (hb hby d5_7) rfl (by decide) ?_
    refine XS.aloadN X0.here hx rfl (hb hby d5_10) rfl rfl ?_
    refine XS.iloadN X0.here hx rfl (hb hby d5_11) rfl ?_
    refine X0.caload hx (j := (0 : Int32)) (v := (.int c0)) (by rw [e0]; exact A_2.1) (State.isArrayOf_alike hZ.alike A_2.2.1) A_2.2.2 hin_8 hat_9 (g := (mkF m 12 #[.val (.ref b), .val (.int (0 : Int32)), .val (.ref t), .val (.int (0 : Int32)), .val (.int (3 : Int32)), .val (.int (0 : Int32)), .unset] [(.int (0 : Int32)), (.ref b)])) rfl rfl (hb hby d5_12) _ ?_
    show Steps p.tables e below (s₁.setTop (mkF m 13 #[.val (.ref b), .val (.int (0 : Int32)), .val (.ref t), .val (.int (0 : Int32)), .val (.int (3 : Int32)), .val (.int (0 : Int32)), .unset] [(.int c0)])) _
    refine XS.istore X0.here hx rfl (hb hby d5_13) rfl (l' := #[.val (.ref b), .val (.int (0 : Int32)), .val (.ref t), .val (.int (0 : Int32)), .val (.int (3 : Int32)), .val (.int (0 : Int32)), .val (.int c0)]) rfl ?_
    refine XS.iload X0.here hx rfl (hb hby d5_15) rfl ?_
    refine XS.sipush X0.here hx rfl (hb hby d5_17) ?_
    exact Steps.refl _
  by_cases hc_11 : (255 : Int32) < c0
  · skip
    have C_12 : Steps p.tables e below S0 (s₁.setTop (mkF m 25 #[.val (.ref b), .val (.int (0 : Int32)), .val (.ref t), .val (.int (0 : Int32)), .val (.int (3 : Int32)), .val (.int (0 : Int32)), .val (.int c0)] [(.int (0 : Int32))])) := by
      refine C_10.trans ?_
      refine XS.icmpNo X0.here hx rfl (hb hby d5_20) rfl (ii_le_f hc_11) ?_
      refine XS.iload X0.here hx rfl (hb hby d5_23) rfl ?_
      exact Steps.refl _
    have K_13 : Keep h0 h0 [t] := (Keep.refl _ _)
    obtain ⟨fs, hr, hrun, hended, hW, hsame⟩ := X0.leave (v := some (.int (0 : Int32))) (fun h => by rw [Bd.returns] at h; cases h)
    refine ⟨_, _, C_12.trans (retOut X0 hx Bd.returns rfl (Or.inl ⟨rfl, Or.inl rfl, _, rfl⟩) (hb hby d5_25) hr), hrun, hended, _, _, rfl, ?_, ⟨_, rfl⟩, hW, hsame.mono (by decide) (by decide)⟩
    show Q_cmp5u_3 Z G1 b k t kt c0 c1 c2 h0 n0 (some (.int (0 : Int32))) s₁.heap _
    rw [e0]
    exact Or.inl ⟨rfl, N0, K_13, hc_11⟩
  · skip
    obtain ⟨c_14, A_15, q_16, S_17, M_18, H_19, U_20⟩ := id hp1
    have hin_27 : ¬ ((0 : Int32) < 0 ∨ c_14.slots.size ≤ (0 : Int32).toNatClampNeg) := inb_of S_17 ⟨(by decide : ¬ ((0 : Int32) < (0 : Int32))), (by decide : (0 : Int32) < (3 : Int32))⟩
    obtain ⟨T_21, h_22, X_23, e_24, W_25, st_26⟩ := stB X0 hx hZ e0 A_15 (j := (0 : Int32)) hin_27 (g := (mkF m 31 #[.val (.ref b), .val (.int (0 : Int32)), .val (.ref t), .val (.int (0 : Int32)), .val (.int (3 : Int32)), .val (.int (0 : Int32)), .val (.int c0)] [(.int (c0.toInt8.toInt32)), (.int (0 : Int32)), (.ref t)])) rfl rfl (hb hby d5_31)
    have N_28 := Fr.snoc X_23 N0 hp2
    have V_29 : Arv Z h_22 t kt .byte (3 : Int32) [(.int (own_lo8 c0)), (.int (0 : Int32)), (.int (0 : Int32))] (.int (0 : Int32)) := Arv.set A_15 q_16 S_17 M_18 H_19 U_20 (fits_nar_byte _) W_25 0 rfl (Nat.le_of_ble_eq_true rfl)
    have V_30 : Arv Z h_22 b k .char (3 : Int32) [(.int c0), (.int c1), (.int c2)] (.int (0 : Int32)) := (hp0.other W_25 hp3)
    obtain ⟨c_31, A_32, q_33, S_34, M_35, H_36, U_37⟩ := id V_30
    have hin_38 : ¬ ((1 : Int32) < 0 ∨ c_31.slots.size ≤ (1 : Int32).toNatClampNeg) := inb_of S_34 ⟨(by decide : ¬ ((1 : Int32) < (0 : Int32))), (by decide : (1 : Int32) < (3 : Int32))⟩
    have hat_39 : c_31.slots[(1 : Int32).toNatClampNeg]? = some (.int c1) := Has.at H_36 hin_38 rfl
    have C_40 : Steps p.tables e below S0 (T_21.setTop (mkF m 20 #[.val (.ref b), .val (.int (1 : Int32)), .val (.ref t), .val (.int (1 : Int32)), .val (.int (3 : Int32)), .val (.int (1 : Int32)), .val (.int c1)] [(.int (255 : Int32)), (.int c1)])) := by
      refine C_10.trans ?_
      refine XS.icmpYes X0.here hx rfl (pc0 := 20) (pc' := 26) rfl (hb hby d5_20) rfl (ii_le_t hc_11) (by decide) (by decide) ?_
      refine XS.aloadN X0.here hx rfl (hb hby d5_26) rfl rfl ?_
      refine XS.iloadN X0.here hx rfl (hb hby d5_27) rfl ?_
      refine XS.iload X0.here hx rfl (hb hby d5_28) rfl ?_
      refine XS.i2b X0.here hx rfl (hb hby d5_30) rfl ?_
      refine st_26 _ ?_
      refine XS.iinc X_23.here hx rfl (hb hby d5_32) (x := (0 : Int32)) rfl (l' := #[.val (.ref b), .val (.int (1 : Int32)), .val (.ref t), .val (.int (0 : Int32)), .val (.int (3 : Int32)), .val (.int (0 : Int32)), .val (.int c0)]) rfl ?_
      refine XS.iinc X_23.here hx rfl (hb hby d5_35) (x := (0 : Int32)) rfl (l' := #[.val (.ref b), .val (.int (1 : Int32)), .val (.ref t), .val (.int (1 : Int32)), .val (.int (3 : Int32)), .val (.int (0 : Int32)), .val (.int c0)]) rfl ?_
      show Steps p.tables e below (T_21.setTop (mkF m 38 #[.val (.ref b), .val (.int (1 : Int32)), .val (.ref t), .val (.int (1 : Int32)), .val (.int (3 : Int32)), .val (.int (0 : Int32)), .val (.int c0)] [])) _
      refine XS.iinc X_23.here hx rfl (hb hby d5_38) (x := (0 : Int32)) rfl (l' := #[.val (.ref b), .val (.int (1 : Int32)), .val (.ref t), .val (.int (1 : Int32)), .val (.int (3 : Int32)), .val (.int (1 : Int32)), .val (.int c0)]) rfl ?_
      refine XS.goto X_23.here hx rfl (pc0 := 41) (pc' := 3) rfl (hb hby d5_41) (by decide) (by decide) ?_
      refine XS.iload X_23.here hx rfl (hb hby d5_3) rfl ?_
      refine XS.iload X_23.here hx rfl (hb hby d5_5) rfl ?_
      refine XS.icmpNo X_23.here hx rfl (hb hby d5_7) rfl (by decide) ?_
      refine XS.aloadN X_23.here hx rfl (hb hby d5_10) rfl rfl ?_
      refine XS.iloadN X_23.here hx rfl (hb hby d5_11) rfl ?_
      refine X_23.caload hx (j := (1 : Int32)) (v := (.int c1)) (by rw [e_24]; exact A_32.1) (State.isArrayOf_alike hZ.alike A_32.2.1) A_32.2.2 hin_38 hat_39 (g := (mkF m 12 #[.val (.ref b), .val (.int (1 : Int32)), .val (.ref t), .val (.int (1 : Int32)), .val (.int (3 : Int32)), .val (.int (1 : Int32)), .val (.int c0)] [(.int (1 : Int32)), (.ref b)])) rfl rfl (hb hby d5_12) _ ?_
      show Steps p.tables e below (T_21.setTop (mkF m 13 #[.val (.ref b), .val (.int (1 : Int32)), .val (.ref t), .val (.int (1 : Int32)), .val (.int (3 : Int32)), .val (.int (1 : Int32)), .val (.int c0)] [(.int c1)])) _
      refine XS.istore X_23.here hx rfl (hb hby d5_13) rfl (l' := #[.val (.ref b), .val (.int (1 : Int32)), .val (.ref t), .val (.int (1 : Int32)), .val (.int (3 : Int32)), .val (.int (1 : Int32)), .val (.int c1)]) rfl ?_
      refine XS.iload X_23.here hx rfl (hb hby d5_15) rfl ?_
      refine XS.sipush X_23.here hx rfl (hb hby d5_17) ?_
      exact Steps.refl _
    by_cases hc_41 : (255 : Int32) < c1
    · skip
      have C_42 : Steps p.tables e below S0 (T_21.setTop (mkF m 25 #[.val (.ref b), .val (.int (1 : Int32)), .val (.ref t), .val (.int (1 : Int32)), .val (.int (3 : Int32)), .val (.int (1 : Int32)), .val (.int c1)] [(.int (1 : Int32))])) := by
        refine C_40.trans ?_
        refine XS.icmpNo X_23.here hx rfl (hb hby d5_20) rfl (ii_le_f hc_41) ?_
        refine XS.iload X_23.here hx rfl (hb hby d5_23) rfl ?_
        exact Steps.refl _
      have K_43 : Keep h0 h_22 [t] := ((Keep.refl _ _).wr W_25 (Or.inl (List.mem_of_getElem? (i := 0) rfl)))
      obtain ⟨fs, hr, hrun, hended, hW, hsame⟩ := X_23.leave (v := some (.int (1 : Int32))) (fun h => by rw [Bd.returns] at h; cases h)
      refine ⟨_, _, C_42.trans (retOut X_23 hx Bd.returns rfl (Or.inl ⟨rfl, Or.inl rfl, _, rfl⟩) (hb hby d5_25) hr), hrun, hended, _, _, rfl, ?_, ⟨_, rfl⟩, hW, hsame.mono (by decide) (by decide)⟩
      show Q_cmp5u_3 Z G1 b k t kt c0 c1 c2 h0 n0 (some (.int (1 : Int32))) T_21.heap _
      rw [e_24]
      exact Or.inr (Or.inl ⟨rfl, N_28, K_43, hc_41⟩)
    · skip
      obtain ⟨c_44, A_45, q_46, S_47, M_48, H_49, U_50⟩ := id V_29
      have hin_57 : ¬ ((1 : Int32) < 0 ∨ c_44.slots.size ≤ (1 : Int32).toNatClampNeg) := inb_of S_47 ⟨(by decide : ¬ ((1 : Int32) < (0 : Int32))), (by decide : (1 : Int32) < (3 : Int32))⟩
      obtain ⟨T_51, h_52, X_53, e_54, W_55, st_56⟩ := stB X_23 hx hZ e_24 A_45 (j := (1 : Int32)) hin_57 (g := (mkF m 31 #[.val (.ref b), .val (.int (1 : Int32)), .val (.ref t), .val (.int (1 : Int32)), .val (.int (3 : Int32)), .val (.int (1 : Int32)), .val (.int c1)] [(.int (c1.toInt8.toInt32)), (.int (1 : Int32)), (.ref t)])) rfl rfl (hb hby d5_31)
      have N_58 := Fr.snoc X_53 N_28 hp2
      have V_59 : Arv Z h_52 t kt .byte (3 : Int32) [(.int (own_lo8 c0)), (.int (own_lo8 c1)), (.int (0 : Int32))] (.int (0 : Int32)) := Arv.set A_45 q_46 S_47 M_48 H_49 U_50 (fits_nar_byte _) W_55 1 rfl (Nat.le_of_ble_eq_true rfl)
      have V_60 : Arv Z h_52 b k .char (3 : Int32) [(.int c0), (.int c1), (.int c2)] (.int (0 : Int32)) := (V_30.other W_55 hp3)
      obtain ⟨c_61, A_62, q_63, S_64, M_65, H_66, U_67⟩ := id V_60
      have hin_68 : ¬ ((2 : Int32) < 0 ∨ c_61.slots.size ≤ (2 : Int32).toNatClampNeg) := inb_of S_64 ⟨(by decide : ¬ ((2 : Int32) < (0 : Int32))), (by decide : (2 : Int32) < (3 : Int32))⟩
      have hat_69 : c_61.slots[(2 : Int32).toNatClampNeg]? = some (.int c2) := Has.at H_66 hin_68 rfl
      have C_70 : Steps p.tables e below S0 (T_51.setTop (mkF m 20 #[.val (.ref b), .val (.int (2 : Int32)), .val (.ref t), .val (.int (2 : Int32)), .val (.int (3 : Int32)), .val (.int (2 : Int32)), .val (.int c2)] [(.int (255 : Int32)), (.int c2)])) := by
        refine C_40.trans ?_
        refine XS.icmpYes X_23.here hx rfl (pc0 := 20) (pc' := 26) rfl (hb hby d5_20) rfl (ii_le_t hc_41) (by decide) (by decide) ?_
        refine XS.aloadN X_23.here hx rfl (hb hby d5_26) rfl rfl ?_
        refine XS.iloadN X_23.here hx rfl (hb hby d5_27) rfl ?_
        refine XS.iload X_23.here hx rfl (hb hby d5_28) rfl ?_
        refine XS.i2b X_23.here hx rfl (hb hby d5_30) rfl ?_
        refine st_56 _ ?_
        refine XS.iinc X_53.here hx rfl (hb hby d5_32) (x := (1 : Int32)) rfl (l' := #[.val (.ref b), .val (.int (2 : Int32)), .val (.ref t), .val (.int (1 : Int32)), .val (.int (3 : Int32)), .val (.int (1 : Int32)), .val (.int c1)]) rfl ?_
        refine XS.iinc X_53.here hx rfl (hb hby d5_35) (x := (1 : Int32)) rfl (l' := #[.val (.ref b), .val (.int (2 : Int32)), .val (.ref t), .val (.int (2 : Int32)), .val (.int (3 : Int32)), .val (.int (1 : Int32)), .val (.int c1)]) rfl ?_
        show Steps p.tables e below (T_51.setTop (mkF m 38 #[.val (.ref b), .val (.int (2 : Int32)), .val (.ref t), .val (.int (2 : Int32)), .val (.int (3 : Int32)), .val (.int (1 : Int32)), .val (.int c1)] [])) _
        refine XS.iinc X_53.here hx rfl (hb hby d5_38) (x := (1 : Int32)) rfl (l' := #[.val (.ref b), .val (.int (2 : Int32)), .val (.ref t), .val (.int (2 : Int32)), .val (.int (3 : Int32)), .val (.int (2 : Int32)), .val (.int c1)]) rfl ?_
        refine XS.goto X_53.here hx rfl (pc0 := 41) (pc' := 3) rfl (hb hby d5_41) (by decide) (by decide) ?_
        refine XS.iload X_53.here hx rfl (hb hby d5_3) rfl ?_
        refine XS.iload X_53.here hx rfl (hb hby d5_5) rfl ?_
        refine XS.icmpNo X_53.here hx rfl (hb hby d5_7) rfl (by decide) ?_
        refine XS.aloadN X_53.here hx rfl (hb hby d5_10) rfl rfl ?_
        refine XS.iloadN X_53.here hx rfl (hb hby d5_11) rfl ?_
        refine X_53.caload hx (j := (2 : Int32)) (v := (.int c2)) (by rw [e_54]; exact A_62.1) (State.isArrayOf_alike hZ.alike A_62.2.1) A_62.2.2 hin_68 hat_69 (g := (mkF m 12 #[.val (.ref b), .val (.int (2 : Int32)), .val (.ref t), .val (.int (2 : Int32)), .val (.int (3 : Int32)), .val (.int (2 : Int32)), .val (.int c1)] [(.int (2 : Int32)), (.ref b)])) rfl rfl (hb hby d5_12) _ ?_
        show Steps p.tables e below (T_51.setTop (mkF m 13 #[.val (.ref b), .val (.int (2 : Int32)), .val (.ref t), .val (.int (2 : Int32)), .val (.int (3 : Int32)), .val (.int (2 : Int32)), .val (.int c1)] [(.int c2)])) _
        refine XS.istore X_53.here hx rfl (hb hby d5_13) rfl (l' := #[.val (.ref b), .val (.int (2 : Int32)), .val (.ref t), .val (.int (2 : Int32)), .val (.int (3 : Int32)), .val (.int (2 : Int32)), .val (.int c2)]) rfl ?_
        refine XS.iload X_53.here hx rfl (hb hby d5_15) rfl ?_
        refine XS.sipush X_53.here hx rfl (hb hby d5_17) ?_
        exact Steps.refl _
      by_cases hc_71 : (255 : Int32) < c2
      · skip
        have C_72 : Steps p.tables e below S0 (T_51.setTop (mkF m 25 #[.val (.ref b), .val (.int (2 : Int32)), .val (.ref t), .val (.int (2 : Int32)), .val (.int (3 : Int32)), .val (.int (2 : Int32)), .val (.int c2)] [(.int (2 : Int32))])) := by
          refine C_70.trans ?_
          refine XS.icmpNo X_53.here hx rfl (hb hby d5_20) rfl (ii_le_f hc_71) ?_
          refine XS.iload X_53.here hx rfl (hb hby d5_23) rfl ?_
          exact Steps.refl _
        have K_73 : Keep h0 h_52 [t] := (((Keep.refl _ _).wr W_25 (Or.inl (List.mem_of_getElem? (i := 0) rfl))).wr W_55 (Or.inl (List.mem_of_getElem? (i := 0) rfl)))
        obtain ⟨fs, hr, hrun, hended, hW, hsame⟩ := X_53.leave (v := some (.int (2 : Int32))) (fun h => by rw [Bd.returns] at h; cases h)
        refine ⟨_, _, C_72.trans (retOut X_53 hx Bd.returns rfl (Or.inl ⟨rfl, Or.inl rfl, _, rfl⟩) (hb hby d5_25) hr), hrun, hended, _, _, rfl, ?_, ⟨_, rfl⟩, hW, hsame.mono (by decide) (by decide)⟩
        show Q_cmp5u_3 Z G1 b k t kt c0 c1 c2 h0 n0 (some (.int (2 : Int32))) T_51.heap _
        rw [e_54]
        exact Or.inr (Or.inr (Or.inl ⟨rfl, N_58, K_73, hc_71⟩))
      · skip
        obtain ⟨c_74, A_75, q_76, S_77, M_78, H_79, U_80⟩ := id V_59
        have hin_87 : ¬ ((2 : Int32) < 0 ∨ c_74.slots.size ≤ (2 : Int32).toNatClampNeg) := inb_of S_77 ⟨(by decide : ¬ ((2 : Int32) < (0 : Int32))), (by decide : (2 : Int32) < (3 : Int32))⟩
        obtain ⟨T_81, h_82, X_83, e_84, W_85, st_86⟩ := stB X_53 hx hZ e_54 A_75 (j := (2 : Int32)) hin_87 (g := (mkF m 31 #[.val (.ref b), .val (.int (2 : Int32)), .val (.ref t), .val (.int (2 : Int32)), .val (.int (3 : Int32)), .val (.int (2 : Int32)), .val (.int c2)] [(.int (c2.toInt8.toInt32)), (.int (2 : Int32)), (.ref t)])) rfl rfl (hb hby d5_31)
        have N_88 := Fr.snoc X_83 N_58 hp2
        have V_89 : Arv Z h_82 t kt .byte (3 : Int32) [(.int (own_lo8 c0)), (.int (own_lo8 c1)), (.int (own_lo8 c2))] (.int (0 : Int32)) := Arv.set A_75 q_76 S_77 M_78 H_79 U_80 (fits_nar_byte _) W_85 2 rfl (Nat.le_of_ble_eq_true rfl)
        have C_90 : Steps p.tables e below S0 (T_81.setTop (mkF m 46 #[.val (.ref b), .val (.int (3 : Int32)), .val (.ref t), .val (.int (3 : Int32)), .val (.int (3 : Int32)), .val (.int (3 : Int32)), .val (.int c2)] [(.int (3 : Int32))])) := by
          refine C_70.trans ?_
          refine XS.icmpYes X_53.here hx rfl (pc0 := 20) (pc' := 26) rfl (hb hby d5_20) rfl (ii_le_t hc_71) (by decide) (by decide) ?_
          refine XS.aloadN X_53.here hx rfl (hb hby d5_26) rfl rfl ?_
          refine XS.iloadN X_53.here hx rfl (hb hby d5_27) rfl ?_
          refine XS.iload X_53.here hx rfl (hb hby d5_28) rfl ?_
          refine XS.i2b X_53.here hx rfl (hb hby d5_30) rfl ?_
          refine st_86 _ ?_
          refine XS.iinc X_83.here hx rfl (hb hby d5_32) (x := (2 : Int32)) rfl (l' := #[.val (.ref b), .val (.int (3 : Int32)), .val (.ref t), .val (.int (2 : Int32)), .val (.int (3 : Int32)), .val (.int (2 : Int32)), .val (.int c2)]) rfl ?_
          refine XS.iinc X_83.here hx rfl (hb hby d5_35) (x := (2 : Int32)) rfl (l' := #[.val (.ref b), .val (.int (3 : Int32)), .val (.ref t), .val (.int (3 : Int32)), .val (.int (3 : Int32)), .val (.int (2 : Int32)), .val (.int c2)]) rfl ?_
          show Steps p.tables e below (T_81.setTop (mkF m 38 #[.val (.ref b), .val (.int (3 : Int32)), .val (.ref t), .val (.int (3 : Int32)), .val (.int (3 : Int32)), .val (.int (2 : Int32)), .val (.int c2)] [])) _
          refine XS.iinc X_83.here hx rfl (hb hby d5_38) (x := (2 : Int32)) rfl (l' := #[.val (.ref b), .val (.int (3 : Int32)), .val (.ref t), .val (.int (3 : Int32)), .val (.int (3 : Int32)), .val (.int (3 : Int32)), .val (.int c2)]) rfl ?_
          refine XS.goto X_83.here hx rfl (pc0 := 41) (pc' := 3) rfl (hb hby d5_41) (by decide) (by decide) ?_
          refine XS.iload X_83.here hx rfl (hb hby d5_3) rfl ?_
          refine XS.iload X_83.here hx rfl (hb hby d5_5) rfl ?_
          refine XS.icmpYes X_83.here hx rfl (pc0 := 7) (pc' := 44) rfl (hb hby d5_7) rfl (by decide) (by decide) (by decide) ?_
          refine XS.iload X_83.here hx rfl (hb hby d5_44) rfl ?_
          exact Steps.refl _
        have K_91 : Keep h0 h_82 [t] := ((((Keep.refl _ _).wr W_25 (Or.inl (List.mem_of_getElem? (i := 0) rfl))).wr W_55 (Or.inl (List.mem_of_getElem? (i := 0) rfl))).wr W_85 (Or.inl (List.mem_of_getElem? (i := 0) rfl)))
        obtain ⟨fs, hr, hrun, hended, hW, hsame⟩ := X_83.leave (v := some (.int (3 : Int32))) (fun h => by rw [Bd.returns] at h; cases h)
        refine ⟨_, _, C_90.trans (retOut X_83 hx Bd.returns rfl (Or.inl ⟨rfl, Or.inl rfl, _, rfl⟩) (hb hby d5_46) hr), hrun, hended, _, _, rfl, ?_, ⟨_, rfl⟩, hW, hsame.mono (by decide) (by decide)⟩
        show Q_cmp5u_3 Z G1 b k t kt c0 c1 c2 h0 n0 (some (.int (3 : Int32))) T_81.heap _
        rw [e_84]
        exact Or.inr (Or.inr (Or.inr (⟨rfl, N_88, K_91, V_89, hc_11, hc_41, hc_71⟩)))
abbrev R_cmp3u_3 : Room := { frames := 3, cells := 2, slots := 9, locals := 40 }
def Q_cmp3u_3 (Z : State) (G1 : Int32) (b : Addr) (k : ClassId) (c0 : Int32) (c1 : Int32) (c2 : Int32) (h0 : Heap) (n0 : Nat) (v : Option Value) (h : Heap) (L : List Loc) : Prop := (∃ t : Addr, ∃ kt : ClassId, v = some (.ref t) ∧ Fr n0 L ∧ Keep h0 h [] ∧ (h0.size ≤ t) ∧ (Arv Z h t kt .byte (3 : Int32) [(.int (own_lo8 c0)), (.int (own_lo8 c1)), (.int (own_lo8 c2))] (.int (0 : Int32)))) ∨ (∃ t : Addr, ∃ kt : ClassId, v = some (.ref t) ∧ Fr n0 L ∧ Keep h0 h [] ∧ (h0.size ≤ t) ∧ (Arv Z h t kt .byte (6 : Int32) [(.int (own_lo8z c0)), (.int (own_hi8 c0)), (.int (own_lo8z c1)), (.int (own_hi8 c1)), (.int (own_lo8z c2)), (.int (own_hi8 c2))] (.int (0 : Int32))))
set_option maxRecDepth 65536 in
set_option maxHeartbeats 40000000 in
theorem rm_cmp3u_3 (l : Launch) (Z : State) (a0 : Array Value) (hw : ∀ d ∈ tables_1, d.before a0 Z = true) (ws : List Jvm.Cond) (G1 : Int32) (HG : own_G l Z a0 G1) (h0 : Heap) (n0 : Nat) (X00 : Old Z n0 h0) (b : Addr) (k : ClassId) (c0 : Int32) (c1 : Int32) (c2 : Int32) (hp0 : Arv Z h0 b k .char (3 : Int32) [(.int c0), (.int c1), (.int c2)] (.int (0 : Int32))) (hl0 : ¬ (c0 < (0 : Int32))) (hl1 : ¬ (c1 < (0 : Int32))) (hl2 : ¬ (c2 < (0 : Int32))) (hm0 : ¬ ((65535 : Int32) < c0)) (hm1 : ¬ ((65535 : Int32) < c1)) (hm2 : ¬ ((65535 : Int32) < c2)) :
    own_CP l Z M133 jdk_52_method_16_code 6 (some (.array .byte)) ws R_cmp3u_3 #[(.ref b), (.int (0 : Int32)), (.int (3 : Int32))] h0 (Q_cmp3u_3 Z G1 b k c0 c1 c2 h0 n0) := by
  refine own_P (plainFor_of_name pn_2) ?_
  intro p e s m below meth c s₁ S0 Bd hZ hh hx hby hml hown hnm X0 e0 hS0d
  obtain ⟨O1, P1, OAD, OHI, OLO⟩ := id HG
  have N0 := Fr.nil n0
  have C0 : Steps p.tables e below S0 (s₁.setTop (mkF m 0 #[.val (.ref b), .val (.int (0 : Int32)), .val (.int (3 : Int32)), .unset, .unset, .unset] [])) := by rw [hS0d]; exact castTop (ef_134 m b (0 : Int32) (3 : Int32)) (Steps.refl _)
  obtain ⟨T_1, h_2, k_3, X_4, e_5, E_6, A_7, st_8⟩ := newP (aty := .byte) X0 hx hZ (w24 hw) e0 (g := (mkF m 1 #[.val (.ref b), .val (.int (0 : Int32)), .val (.int (3 : Int32)), .unset, .unset, .unset] [(.int (3 : Int32))])) rfl (hb hby d6_1) rfl (by decide : ¬ ((3 : Int32) < (0 : Int32))) (cap := 3) (by decide : (3 : Int32).toNatClampNeg ≤ 3) (by decide) (by decide) (by decide)
  obtain ⟨a_9, g_10⟩ : ∃ z, z = h0.size := ⟨_, rfl⟩
  rw [← g_10] at A_7 st_8
  have V_12 : Arv Z h_2 a_9 k_3 .byte (3 : Int32) [] (.int (0 : Int32)) := Arv.new A_7 (by decide : ¬ ((3 : Int32) < (0 : Int32)))
  have V_11 : Arv Z h_2 a_9 k_3 .byte (3 : Int32) [(.int (0 : Int32)), (.int (0 : Int32)), (.int (0 : Int32))] (.int (0 : Int32)) := (V_12.pad (pad_rep [] (.int (0 : Int32)) 3))
  have V_13 : Arv Z h_2 b k .char (3 : Int32) [(.int c0), (.int c1), (.int c2)] (.int (0 : Int32)) := (hp0.ext E_6)
  have O_14 : Old Z n0 h_2 := (X00.ext E_6)
  obtain ⟨_, _, ⟨T_15, L_15, k_15, n_15⟩, -, X_15, ⟨Lc_15, hQ_15, l_15, y_15, z_15⟩, st_15⟩ := Jvm.LawKit.callS X_4 hx (y := M106) hown (mvT hZ (w25 hw)) (mvT hZ (w26 hw)) (mvT hZ (w22 hw)) (mvT hZ (w27 hw)) (by decide) (backOf (W := 0) (rm_cmp5u_3 l Z a0 hw [] G1 HG h_2 n0 O_14 b k a_9 k_3 c0 c1 c2 V_13 V_11 (Nat.le_trans (own_n0 X00) (Nat.le_of_eq g_10.symm)) (Nat.ne_of_lt (Nat.lt_of_lt_of_le hp0.lt (Nat.le_trans (Nat.le_refl _) (Nat.le_of_eq g_10.symm))))) hZ (w27 hw) (w22 hw) (by decide) (by decide)) (g := (mkF m 9 #[.val (.ref b), .val (.int (0 : Int32)), .val (.int (3 : Int32)), .val (.ref a_9), .unset, .unset] [(.int (3 : Int32)), (.int (0 : Int32)), (.ref a_9), (.int (0 : Int32)), (.ref b)])) rfl (by rw [hml]; rfl) (argsL := [(.ref b), (.int (0 : Int32)), (.ref a_9), (.int (0 : Int32)), (.int (3 : Int32))]) (rest := []) (lenOf pd_144 rfl) rfl (by show 2 * 0 + _ ≤ _; exact Nat.le_of_eq rfl) (hb hby d6_9) (fun _ _ => ⟨rfl, e_5, (by decide : 1 + 0 ≤ _), (by decide : 3 + 0 ≤ _)⟩)
  dsimp only [Pt.U, Pt.locs, Pt.cells, Pt.slots] at X_15 l_15 y_15 z_15 st_15 hQ_15
  subst l_15 y_15 z_15
  have C_16 : Steps p.tables e below S0 (T_1.setTop (mkF m 9 #[.val (.ref b), .val (.int (0 : Int32)), .val (.int (3 : Int32)), .val (.ref a_9), .unset, .unset] [(.int (3 : Int32)), (.int (0 : Int32)), (.ref a_9), (.int (0 : Int32)), (.ref b)])) := by
    refine C0.trans ?_
    refine XS.iloadN X0.here hx rfl (hb hby d6_0) rfl ?_
    refine st_8 _ ?_
    refine XS.astoreN X_4.here hx rfl (hb hby d6_3) rfl rfl (l' := #[.val (.ref b), .val (.int (0 : Int32)), .val (.int (3 : Int32)), .val (.ref a_9), .unset, .unset]) rfl ?_
    refine XS.aloadN X_4.here hx rfl (hb hby d6_4) rfl rfl ?_
    refine XS.iloadN X_4.here hx rfl (hb hby d6_5) rfl ?_
    refine XS.aloadN X_4.here hx rfl (hb hby d6_6) rfl rfl ?_
    refine XS.iconst X_4.here hx rfl (hb hby d6_7) ?_
    refine XS.iloadN X_4.here hx rfl (hb hby d6_8) rfl ?_
    show Steps p.tables e below (T_1.setTop (mkF m 9 #[.val (.ref b), .val (.int (0 : Int32)), .val (.int (3 : Int32)), .val (.ref a_9), .unset, .unset] [(.int (3 : Int32)), (.int (0 : Int32)), (.ref a_9), (.int (0 : Int32)), (.ref b)])) _
    exact Steps.refl _
  rcases hQ_15 with hQ_17 | hQ_18 | hQ_19 | hQ_20
  · skip
    obtain ⟨rfl, N_21, K_22, g_23⟩ := hQ_17
    have N_24 := Fr.app N0 N_21
    have V_25 : Arv Z T_15.heap b k .char (3 : Int32) [(.int c0), (.int c1), (.int c2)] (.int (0 : Int32)) := (V_13.keep K_22 (ninS (Nat.ne_of_lt (Nat.lt_of_lt_of_le hp0.lt (Nat.le_trans (Nat.le_refl _) (Nat.le_of_eq g_10.symm)))) nin0))
    have O_26 : Old Z n0 T_15.heap := (O_14.keep K_22 (allS (Nat.le_trans (own_n0 X00) (Nat.le_of_eq g_10.symm)) all0))
    obtain ⟨_, _, ⟨T_27, L_27, k_27, n_27⟩, -, X_27, ⟨Lc_27, hQ_27, l_27, y_27, z_27⟩, st_27⟩ := Jvm.LawKit.callS X_15 hx (y := M51) hown (mvT hZ (w68 hw)) (mvT hZ (w69 hw)) (mvT hZ (w22 hw)) (mvT hZ (w70 hw)) (by decide) (backOf (W := 0) (rm_tob_3 l Z a0 hw [] G1 HG T_15.heap n0 O_26 b k c0 c1 c2 V_25) hZ (w70 hw) (w22 hw) (by decide) (by decide)) (g := (mkF m 23 #[.val (.ref b), .val (.int (0 : Int32)), .val (.int (3 : Int32)), .val (.ref a_9), .val (.int (0 : Int32)), .unset] [(.int (3 : Int32)), (.int (0 : Int32)), (.ref b)])) rfl (by rw [hml]; rfl) (argsL := [(.ref b), (.int (0 : Int32)), (.int (3 : Int32))]) (rest := []) (lenOf pd_156 rfl) rfl (by show 2 * 0 + _ ≤ _; exact Nat.le_of_eq rfl) (hb hby d6_23) (fun _ _ => ⟨rfl, rfl, (by decide : 1 + 1 ≤ _), (by decide : 3 + 6 ≤ _)⟩)
    dsimp only [Pt.U, Pt.locs, Pt.cells, Pt.slots] at X_27 l_27 y_27 z_27 st_27 hQ_27
    subst l_27 y_27 z_27
    obtain ⟨a_28, k_29, rfl, N_30, K_31, g_32, g_33⟩ := hQ_27
    have N_34 := Fr.app N_24 N_30
    have O_35 : Old Z n0 T_27.heap := (O_26.keep K_31 all0)
    obtain ⟨_, _, ⟨T_36, L_36, k_36, n_36⟩, -, X_36, ⟨Lc_36, hQ_36, l_36, y_36, z_36⟩, st_36⟩ := Jvm.LawKit.callS X_27 hx (y := M80) hown (mvT hZ (w84 hw)) (mvT hZ (w85 hw)) (mvT hZ (w22 hw)) (mvT hZ (w86 hw)) (by decide) (backOf (W := 0) (rm_get_3_0 l Z a0 hw [] G1 HG T_27.heap n0 O_35 a_28 k_29 (own_lo8z c0) (own_hi8 c0) (own_lo8z c1) (own_hi8 c1) (own_lo8z c2) (own_hi8 c2) g_33) hZ (w86 hw) (w22 hw) (by decide) (by decide)) (g := (mkF m 32 #[.val (.ref b), .val (.int (0 : Int32)), .val (.int (3 : Int32)), .val (.ref a_9), .val (.int (0 : Int32)), .val (.ref a_28)] [(.int (0 : Int32)), (.ref a_28)])) rfl (by rw [hml]; rfl) (argsL := [(.ref a_28), (.int (0 : Int32))]) (rest := []) (lenOf pd_164 rfl) rfl (by show 2 * 0 + _ ≤ _; exact Nat.le_of_eq rfl) (hb hby d6_32) (fun _ _ => ⟨rfl, rfl, (by decide : 2 + 0 ≤ _), (by decide : 9 + 0 ≤ _)⟩)
    dsimp only [Pt.U, Pt.locs, Pt.cells, Pt.slots] at X_36 l_36 y_36 z_36 st_36 hQ_36
    subst l_36 y_36 z_36
    obtain ⟨rfl, N_37, e_38⟩ := hQ_36
    have N_39 := Fr.app N_34 N_37
    have e_40 : T_36.heap = T_27.heap := e_38
    have C_41 : Steps p.tables e below S0 (T_36.setTop (mkF m 56 #[.val (.ref b), .val (.int (0 : Int32)), .val (.int (3 : Int32)), .val (.ref a_9), .val (.int (0 : Int32)), .val (.ref a_28)] [(.ref a_28)])) := by
      refine C_16.trans ?_
      refine st_15 _ ?_
      refine XS.istore X_15.here hx rfl (hb hby d6_12) rfl (l' := #[.val (.ref b), .val (.int (0 : Int32)), .val (.int (3 : Int32)), .val (.ref a_9), .val (.int (0 : Int32)), .unset]) rfl ?_
      refine XS.iload X_15.here hx rfl (hb hby d6_14) rfl ?_
      refine XS.iloadN X_15.here hx rfl (hb hby d6_16) rfl ?_
      refine XS.icmpNo X_15.here hx rfl (hb hby d6_17) rfl (by decide) ?_
      refine XS.aloadN X_15.here hx rfl (hb hby d6_20) rfl rfl ?_
      refine XS.iloadN X_15.here hx rfl (hb hby d6_21) rfl ?_
      refine XS.iloadN X_15.here hx rfl (hb hby d6_22) rfl ?_
      show Steps p.tables e below (T_15.setTop (mkF m 23 #[.val (.ref b), .val (.int (0 : Int32)), .val (.int (3 : Int32)), .val (.ref a_9), .val (.int (0 : Int32)), .unset] [(.int (3 : Int32)), (.int (0 : Int32)), (.ref b)])) _
      refine st_27 _ ?_
      refine XS.astore X_27.here hx rfl (hb hby d6_26) rfl rfl (l' := #[.val (.ref b), .val (.int (0 : Int32)), .val (.int (3 : Int32)), .val (.ref a_9), .val (.int (0 : Int32)), .val (.ref a_28)]) rfl ?_
      refine XS.aload X_27.here hx rfl (hb hby d6_28) rfl rfl ?_
      refine XS.iload X_27.here hx rfl (hb hby d6_30) rfl ?_
      refine st_36 _ ?_
      refine XS.sipush X_36.here hx rfl (hb hby d6_35) ?_
      refine XS.icmpYes X_36.here hx rfl (pc0 := 38) (pc' := 54) rfl (hb hby d6_38) rfl (ii_gt_t (by rw [own_pair_says hl0 hm0]; exact g_23)) (by decide) (by decide) ?_
      refine XS.aload X_36.here hx rfl (hb hby d6_54) rfl rfl ?_
      show Steps p.tables e below (T_36.setTop (mkF m 56 #[.val (.ref b), .val (.int (0 : Int32)), .val (.int (3 : Int32)), .val (.ref a_9), .val (.int (0 : Int32)), .val (.ref a_28)] [(.ref a_28)])) _
      exact Steps.refl _
    have K_42 : Keep h0 T_27.heap [] := ((((Keep.refl _ _).ext E_6).trans K_22 (allS (Or.inr (Nat.le_trans (Nat.le_refl _) (Nat.le_of_eq g_10.symm))) all0)).trans K_31 all0)
    obtain ⟨fs, hr, hrun, hended, hW, hsame⟩ := X_36.leave (v := some (.ref a_28)) (fun h => by rw [Bd.returns] at h; cases h)
    refine ⟨_, _, C_41.trans (retOut X_36 hx Bd.returns rfl (Or.inr (Or.inr (Or.inr (Or.inr ⟨rfl, rfl, rfl⟩)))) (hb hby d6_56) hr), hrun, hended, _, _, rfl, ?_, ⟨_, rfl⟩, hW, hsame.mono (by decide) (by decide)⟩
    show Q_cmp3u_3 Z G1 b k c0 c1 c2 h0 n0 (some (.ref a_28)) T_36.heap _
    rw [e_40]
    exact Or.inr (⟨a_28, k_29, rfl, N_39, K_42, (Nat.le_trans (Nat.le_trans E_6.1 K_22.1) g_32), g_33⟩)
  · skip
    obtain ⟨rfl, N_43, K_44, g_45⟩ := hQ_18
    have N_46 := Fr.app N0 N_43
    have V_47 : Arv Z T_15.heap b k .char (3 : Int32) [(.int c0), (.int c1), (.int c2)] (.int (0 : Int32)) := (V_13.keep K_44 (ninS (Nat.ne_of_lt (Nat.lt_of_lt_of_le hp0.lt (Nat.le_trans (Nat.le_refl _) (Nat.le_of_eq g_10.symm)))) nin0))
    have O_48 : Old Z n0 T_15.heap := (O_14.keep K_44 (allS (Nat.le_trans (own_n0 X00) (Nat.le_of_eq g_10.symm)) all0))
    obtain ⟨_, _, ⟨T_49, L_49, k_49, n_49⟩, -, X_49, ⟨Lc_49, hQ_49, l_49, y_49, z_49⟩, st_49⟩ := Jvm.LawKit.callS X_15 hx (y := M51) hown (mvT hZ (w68 hw)) (mvT hZ (w69 hw)) (mvT hZ (w22 hw)) (mvT hZ (w70 hw)) (by decide) (backOf (W := 0) (rm_tob_3 l Z a0 hw [] G1 HG T_15.heap n0 O_48 b k c0 c1 c2 V_47) hZ (w70 hw) (w22 hw) (by decide) (by decide)) (g := (mkF m 23 #[.val (.ref b), .val (.int (0 : Int32)), .val (.int (3 : Int32)), .val (.ref a_9), .val (.int (1 : Int32)), .unset] [(.int (3 : Int32)), (.int (0 : Int32)), (.ref b)])) rfl (by rw [hml]; rfl) (argsL := [(.ref b), (.int (0 : Int32)), (.int (3 : Int32))]) (rest := []) (lenOf pd_156 rfl) rfl (by show 2 * 0 + _ ≤ _; exact Nat.le_of_eq rfl) (hb hby d6_23) (fun _ _ => ⟨rfl, rfl, (by decide : 1 + 1 ≤ _), (by decide : 3 + 6 ≤ _)⟩)
    dsimp only [Pt.U, Pt.locs, Pt.cells, Pt.slots] at X_49 l_49 y_49 z_49 st_49 hQ_49
    subst l_49 y_49 z_49
    obtain ⟨a_50, k_51, rfl, N_52, K_53, g_54, g_55⟩ := hQ_49
    have N_56 := Fr.app N_46 N_52
    have O_57 : Old Z n0 T_49.heap := (O_48.keep K_53 all0)
    obtain ⟨_, _, ⟨T_58, L_58, k_58, n_58⟩, -, X_58, ⟨Lc_58, hQ_58, l_58, y_58, z_58⟩, st_58⟩ := Jvm.LawKit.callS X_49 hx (y := M80) hown (mvT hZ (w84 hw)) (mvT hZ (w85 hw)) (mvT hZ (w22 hw)) (mvT hZ (w86 hw)) (by decide) (backOf (W := 0) (rm_get_3_1 l Z a0 hw [] G1 HG T_49.heap n0 O_57 a_50 k_51 (own_lo8z c0) (own_hi8 c0) (own_lo8z c1) (own_hi8 c1) (own_lo8z c2) (own_hi8 c2) g_55) hZ (w86 hw) (w22 hw) (by decide) (by decide)) (g := (mkF m 32 #[.val (.ref b), .val (.int (0 : Int32)), .val (.int (3 : Int32)), .val (.ref a_9), .val (.int (1 : Int32)), .val (.ref a_50)] [(.int (1 : Int32)), (.ref a_50)])) rfl (by rw [hml]; rfl) (argsL := [(.ref a_50), (.int (1 : Int32))]) (rest := []) (lenOf pd_164 rfl) rfl (by show 2 * 0 + _ ≤ _; exact Nat.le_of_eq rfl) (hb hby d6_32) (fun _ _ => ⟨rfl, rfl, (by decide : 2 + 0 ≤ _), (by decide : 9 + 0 ≤ _)⟩)
    dsimp only [Pt.U, Pt.locs, Pt.cells, Pt.slots] at X_58 l_58 y_58 z_58 st_58 hQ_58
    subst l_58 y_58 z_58
    obtain ⟨rfl, N_59, e_60⟩ := hQ_58
    have N_61 := Fr.app N_56 N_59
    have e_62 : T_58.heap = T_49.heap := e_60
    have C_63 : Steps p.tables e below S0 (T_58.setTop (mkF m 56 #[.val (.ref b), .val (.int (0 : Int32)), .val (.int (3 : Int32)), .val (.ref a_9), .val (.int (1 : Int32)), .val (.ref a_50)] [(.ref a_50)])) := by
      refine C_16.trans ?_
      refine st_15 _ ?_
      refine XS.istore X_15.here hx rfl (hb hby d6_12) rfl (l' := #[.val (.ref b), .val (.int (0 : Int32)), .val (.int (3 : Int32)), .val (.ref a_9), .val (.int (1 : Int32)), .unset]) rfl ?_
      refine XS.iload X_15.here hx rfl (hb hby d6_14) rfl ?_
      refine XS.iloadN X_15.here hx rfl (hb hby d6_16) rfl ?_
      refine XS.icmpNo X_15.here hx rfl (hb hby d6_17) rfl (by decide) ?_
      refine XS.aloadN X_15.here hx rfl (hb hby d6_20) rfl rfl ?_
      refine XS.iloadN X_15.here hx rfl (hb hby d6_21) rfl ?_
      refine XS.iloadN X_15.here hx rfl (hb hby d6_22) rfl ?_
      show Steps p.tables e below (T_15.setTop (mkF m 23 #[.val (.ref b), .val (.int (0 : Int32)), .val (.int (3 : Int32)), .val (.ref a_9), .val (.int (1 : Int32)), .unset] [(.int (3 : Int32)), (.int (0 : Int32)), (.ref b)])) _
      refine st_49 _ ?_
      refine XS.astore X_49.here hx rfl (hb hby d6_26) rfl rfl (l' := #[.val (.ref b), .val (.int (0 : Int32)), .val (.int (3 : Int32)), .val (.ref a_9), .val (.int (1 : Int32)), .val (.ref a_50)]) rfl ?_
      refine XS.aload X_49.here hx rfl (hb hby d6_28) rfl rfl ?_
      refine XS.iload X_49.here hx rfl (hb hby d6_30) rfl ?_
      refine st_58 _ ?_
      refine XS.sipush X_58.here hx rfl (hb hby d6_35) ?_
      refine XS.icmpYes X_58.here hx rfl (pc0 := 38) (pc' := 54) rfl (hb hby d6_38) rfl (ii_gt_t (by rw [own_pair_says hl1 hm1]; exact g_45)) (by decide) (by decide) ?_
      refine XS.aload X_58.here hx rfl (hb hby d6_54) rfl rfl ?_
      show Steps p.tables e below (T_58.setTop (mkF m 56 #[.val (.ref b), .val (.int (0 : Int32)), .val (.int (3 : Int32)), .val (.ref a_9), .val (.int (1 : Int32)), .val (.ref a_50)] [(.ref a_50)])) _
      exact Steps.refl _
    have K_64 : Keep h0 T_49.heap [] := ((((Keep.refl _ _).ext E_6).trans K_44 (allS (Or.inr (Nat.le_trans (Nat.le_refl _) (Nat.le_of_eq g_10.symm))) all0)).trans K_53 all0)
    obtain ⟨fs, hr, hrun, hended, hW, hsame⟩ := X_58.leave (v := some (.ref a_50)) (fun h => by rw [Bd.returns] at h; cases h)
    refine ⟨_, _, C_63.trans (retOut X_58 hx Bd.returns rfl (Or.inr (Or.inr (Or.inr (Or.inr ⟨rfl, rfl, rfl⟩)))) (hb hby d6_56) hr), hrun, hended, _, _, rfl, ?_, ⟨_, rfl⟩, hW, hsame.mono (by decide) (by decide)⟩
    show Q_cmp3u_3 Z G1 b k c0 c1 c2 h0 n0 (some (.ref a_50)) T_58.heap _
    rw [e_62]
    exact Or.inr (⟨a_50, k_51, rfl, N_61, K_64, (Nat.le_trans (Nat.le_trans E_6.1 K_44.1) g_54), g_55⟩)
  · skip
    obtain ⟨rfl, N_65, K_66, g_67⟩ := hQ_19
    have N_68 := Fr.app N0 N_65
    have V_69 : Arv Z T_15.heap b k .char (3 : Int32) [(.int c0), (.int c1), (.int c2)] (.int (0 : Int32)) := (V_13.keep K_66 (ninS (Nat.ne_of_lt (Nat.lt_of_lt_of_le hp0.lt (Nat.le_trans (Nat.le_refl _) (Nat.le_of_eq g_10.symm)))) nin0))
    have O_70 : Old Z n0 T_15.heap := (O_14.keep K_66 (allS (Nat.le_trans (own_n0 X00) (Nat.le_of_eq g_10.symm)) all0))
    obtain ⟨_, _, ⟨T_71, L_71, k_71, n_71⟩, -, X_71, ⟨Lc_71, hQ_71, l_71, y_71, z_71⟩, st_71⟩ := Jvm.LawKit.callS X_15 hx (y := M51) hown (mvT hZ (w68 hw)) (mvT hZ (w69 hw)) (mvT hZ (w22 hw)) (mvT hZ (w70 hw)) (by decide) (backOf (W := 0) (rm_tob_3 l Z a0 hw [] G1 HG T_15.heap n0 O_70 b k c0 c1 c2 V_69) hZ (w70 hw) (w22 hw) (by decide) (by decide)) (g := (mkF m 23 #[.val (.ref b), .val (.int (0 : Int32)), .val (.int (3 : Int32)), .val (.ref a_9), .val (.int (2 : Int32)), .unset] [(.int (3 : Int32)), (.int (0 : Int32)), (.ref b)])) rfl (by rw [hml]; rfl) (argsL := [(.ref b), (.int (0 : Int32)), (.int (3 : Int32))]) (rest := []) (lenOf pd_156 rfl) rfl (by show 2 * 0 + _ ≤ _; exact Nat.le_of_eq rfl) (hb hby d6_23) (fun _ _ => ⟨rfl, rfl, (by decide : 1 + 1 ≤ _), (by decide : 3 + 6 ≤ _)⟩)
    dsimp only [Pt.U, Pt.locs, Pt.cells, Pt.slots] at X_71 l_71 y_71 z_71 st_71 hQ_71
    subst l_71 y_71 z_71
    obtain ⟨a_72, k_73, rfl, N_74, K_75, g_76, g_77⟩ := hQ_71
    have N_78 := Fr.app N_68 N_74
    have O_79 : Old Z n0 T_71.heap := (O_70.keep K_75 all0)
    obtain ⟨_, _, ⟨T_80, L_80, k_80, n_80⟩, -, X_80, ⟨Lc_80, hQ_80, l_80, y_80, z_80⟩, st_80⟩ := Jvm.LawKit.callS X_71 hx (y := M80) hown (mvT hZ (w84 hw)) (mvT hZ (w85 hw)) (mvT hZ (w22 hw)) (mvT hZ (w86 hw)) (by decide) (backOf (W := 0) (rm_get_3_2 l Z a0 hw [] G1 HG T_71.heap n0 O_79 a_72 k_73 (own_lo8z c0) (own_hi8 c0) (own_lo8z c1) (own_hi8 c1) (own_lo8z c2) (own_hi8 c2) g_77) hZ (w86 hw) (w22 hw) (by decide) (by decide)) (g := (mkF m 32 #[.val (.ref b), .val (.int (0 : Int32)), .val (.int (3 : Int32)), .val (.ref a_9), .val (.int (2 : Int32)), .val (.ref a_72)] [(.int (2 : Int32)), (.ref a_72)])) rfl (by rw [hml]; rfl) (argsL := [(.ref a_72), (.int (2 : Int32))]) (rest := []) (lenOf pd_164 rfl) rfl (by show 2 * 0 + _ ≤ _; exact Nat.le_of_eq rfl) (hb hby d6_32) (fun _ _ => ⟨rfl, rfl, (by decide : 2 + 0 ≤ _), (by decide : 9 + 0 ≤ _)⟩)
    dsimp only [Pt.U, Pt.locs, Pt.cells, Pt.slots] at X_80 l_80 y_80 z_80 st_80 hQ_80
    subst l_80 y_80 z_80
    obtain ⟨rfl, N_81, e_82⟩ := hQ_80
    have N_83 := Fr.app N_78 N_81
    have e_84 : T_80.heap = T_71.heap := e_82
    have C_85 : Steps p.tables e below S0 (T_80.setTop (mkF m 56 #[.val (.ref b), .val (.int (0 : Int32)), .val (.int (3 : Int32)), .val (.ref a_9), .val (.int (2 : Int32)), .val (.ref a_72)] [(.ref a_72)])) := by
      refine C_16.trans ?_
      refine st_15 _ ?_
      refine XS.istore X_15.here hx rfl (hb hby d6_12) rfl (l' := #[.val (.ref b), .val (.int (0 : Int32)), .val (.int (3 : Int32)), .val (.ref a_9), .val (.int (2 : Int32)), .unset]) rfl ?_
      refine XS.iload X_15.here hx rfl (hb hby d6_14) rfl ?_
      refine XS.iloadN X_15.here hx rfl (hb hby d6_16) rfl ?_
      refine XS.icmpNo X_15.here hx rfl (hb hby d6_17) rfl (by decide) ?_
      refine XS.aloadN X_15.here hx rfl (hb hby d6_20) rfl rfl ?_
      refine XS.iloadN X_15.here hx rfl (hb hby d6_21) rfl ?_
      refine XS.iloadN X_15.here hx rfl (hb hby d6_22) rfl ?_
      show Steps p.tables e below (T_15.setTop (mkF m 23 #[.val (.ref b), .val (.int (0 : Int32)), .val (.int (3 : Int32)), .val (.ref a_9), .val (.int (2 : Int32)), .unset] [(.int (3 : Int32)), (.int (0 : Int32)), (.ref b)])) _
      refine st_71 _ ?_
      refine XS.astore X_71.here hx rfl (hb hby d6_26) rfl rfl (l' := #[.val (.ref b), .val (.int (0 : Int32)), .val (.int (3 : Int32)), .val (.ref a_9), .val (.int (2 : Int32)), .val (.ref a_72)]) rfl ?_
      refine XS.aload X_71.here hx rfl (hb hby d6_28) rfl rfl ?_
      refine XS.iload X_71.here hx rfl (hb hby d6_30) rfl ?_
      refine st_80 _ ?_
      refine XS.sipush X_80.here hx rfl (hb hby d6_35) ?_
      refine XS.icmpYes X_80.here hx rfl (pc0 := 38) (pc' := 54) rfl (hb hby d6_38) rfl (ii_gt_t (by rw [own_pair_says hl2 hm2]; exact g_67)) (by decide) (by decide) ?_
      refine XS.aload X_80.here hx rfl (hb hby d6_54) rfl rfl ?_
      show Steps p.tables e below (T_80.setTop (mkF m 56 #[.val (.ref b), .val (.int (0 : Int32)), .val (.int (3 : Int32)), .val (.ref a_9), .val (.int (2 : Int32)), .val (.ref a_72)] [(.ref a_72)])) _
      exact Steps.refl _
    have K_86 : Keep h0 T_71.heap [] := ((((Keep.refl _ _).ext E_6).trans K_66 (allS (Or.inr (Nat.le_trans (Nat.le_refl _) (Nat.le_of_eq g_10.symm))) all0)).trans K_75 all0)
    obtain ⟨fs, hr, hrun, hended, hW, hsame⟩ := X_80.leave (v := some (.ref a_72)) (fun h => by rw [Bd.returns] at h; cases h)
    refine ⟨_, _, C_85.trans (retOut X_80 hx Bd.returns rfl (Or.inr (Or.inr (Or.inr (Or.inr ⟨rfl, rfl, rfl⟩)))) (hb hby d6_56) hr), hrun, hended, _, _, rfl, ?_, ⟨_, rfl⟩, hW, hsame.mono (by decide) (by decide)⟩
    show Q_cmp3u_3 Z G1 b k c0 c1 c2 h0 n0 (some (.ref a_72)) T_80.heap _
    rw [e_84]
    exact Or.inr (⟨a_72, k_73, rfl, N_83, K_86, (Nat.le_trans (Nat.le_trans E_6.1 K_66.1) g_76), g_77⟩)
  · skip
    obtain ⟨rfl, N_87, K_88, g_89, g_90, g_91, g_92⟩ := hQ_20
    have N_93 := Fr.app N0 N_87
    have C_94 : Steps p.tables e below S0 (T_15.setTop (mkF m 58 #[.val (.ref b), .val (.int (0 : Int32)), .val (.int (3 : Int32)), .val (.ref a_9), .val (.int (3 : Int32)), .unset] [(.ref a_9)])) := by
      refine C_16.trans ?_
      refine st_15 _ ?_
      refine XS.istore X_15.here hx rfl (hb hby d6_12) rfl (l' := #[.val (.ref b), .val (.int (0 : Int32)), .val (.int (3 : Int32)), .val (.ref a_9), .val (.int (3 : Int32)), .unset]) rfl ?_
      refine XS.iload X_15.here hx rfl (hb hby d6_14) rfl ?_
      refine XS.iloadN X_15.here hx rfl (hb hby d6_16) rfl ?_
      refine XS.icmpYes X_15.here hx rfl (pc0 := 17) (pc' := 57) rfl (hb hby d6_17) rfl (by decide) (by decide) (by decide) ?_
      refine XS.aloadN X_15.here hx rfl (hb hby d6_57) rfl rfl ?_
      exact Steps.refl _
    have K_95 : Keep h0 T_15.heap [] := (((Keep.refl _ _).ext E_6).trans K_88 (allS (Or.inr (Nat.le_trans (Nat.le_refl _) (Nat.le_of_eq g_10.symm))) all0))
    obtain ⟨fs, hr, hrun, hended, hW, hsame⟩ := X_15.leave (v := some (.ref a_9)) (fun h => by rw [Bd.returns] at h; cases h)
    refine ⟨_, _, C_94.trans (retOut X_15 hx Bd.returns rfl (Or.inr (Or.inr (Or.inr (Or.inr ⟨rfl, rfl, rfl⟩)))) (hb hby d6_58) hr), hrun, hended, _, _, rfl, ?_, ⟨_, rfl⟩, hW, hsame.mono (by decide) (by decide)⟩
    show Q_cmp3u_3 Z G1 b k c0 c1 c2 h0 n0 (some (.ref a_9)) T_15.heap _
    exact Or.inl ⟨a_9, k_3, rfl, N_93, K_95, (Nat.le_trans (Nat.le_refl _) (Nat.le_of_eq g_10.symm)), g_89⟩
abbrev R_codl_3 : Room := { frames := 0, cells := 0, slots := 0, locals := 0 }
def Q_codl_3 (Z : State) (G1 : Int32) (t : Addr) (kt : ClassId) (y0 : Int32) (y1 : Int32) (y2 : Int32) (h0 : Heap) (n0 : Nat) (v : Option Value) (h : Heap) (L : List Loc) : Prop := (v = some (.int (0 : Int32)) ∧ Fr n0 L ∧ h = h0)
set_option maxRecDepth 65536 in
set_option maxHeartbeats 40000000 in
theorem rm_codl_3 (l : Launch) (Z : State) (a0 : Array Value) (hw : ∀ d ∈ tables_1, d.before a0 Z = true) (ws : List Jvm.Cond) (G1 : Int32) (HG : own_G l Z a0 G1) (h0 : Heap) (n0 : Nat) (X00 : Old Z n0 h0) (t : Addr) (kt : ClassId) (y0 : Int32) (y1 : Int32) (y2 : Int32) (hp0 : Arv Z h0 t kt .byte (3 : Int32) [(.int y0), (.int y1), (.int y2)] (.int (0 : Int32))) :
    own_CP l Z M174 jdk_52_method_15_code 2 (some .byte) ws R_codl_3 #[(.ref t), (.int (3 : Int32))] h0 (Q_codl_3 Z G1 t kt y0 y1 y2 h0 n0) := by
  refine own_P (plainFor_of_name pn_2) ?_
  intro p e s m below meth c s₁ S0 Bd hZ hh hx hby hml hown hnm X0 e0 hS0d
  obtain ⟨O1, P1, OAD, OHI, OLO⟩ := id HG
  have N0 := Fr.nil n0
  have C0 : Steps p.tables e below S0 (s₁.setTop (mkF m 0 #[.val (.ref t), .val (.int (3 : Int32))] [])) := by rw [hS0d]; exact castTop (ef_81 m t (3 : Int32)) (Steps.refl _)
  obtain ⟨c_1, A_2, q_3, S_4, M_5, H_6, U_7⟩ := id hp0
  have C_8 : Steps p.tables e below S0 (s₁.setTop (mkF m 8 #[.val (.ref t), .val (.int (3 : Int32))] [(.int (0 : Int32))])) := by
    refine C0.trans ?_
    refine XS.iloadN X0.here hx rfl (hb hby d7_0) rfl ?_
    refine XS.aloadN X0.here hx rfl (hb hby d7_1) rfl rfl ?_
    refine X0.arraylength hx (by rw [e0]; exact A_2.1) (State.isArrayOf_alike hZ.alike A_2.2.1) (g := (mkF m 2 #[.val (.ref t), .val (.int (3 : Int32))] [(.ref t), (.int (3 : Int32))])) rfl rfl (hb hby d7_2) _ ?_
    rw [len_of S_4 M_5]
    refine XS.isub X0.here hx rfl (hb hby d7_3) rfl ?_
    refine XS.bipush X0.here hx rfl (hb hby d7_4) ?_
    refine XS.iushr X0.here hx rfl (hb hby d7_6) rfl ?_
    refine XS.i2b X0.here hx rfl (hb hby d7_7) rfl ?_
    exact Steps.refl _
  obtain ⟨fs, hr, hrun, hended, hW, hsame⟩ := X0.leave (v := some (.int (0 : Int32))) (fun h => by rw [Bd.returns] at h; cases h)
  refine ⟨_, _, C_8.trans (retN X0 hx (t := .byte) Bd.returns (by simp) (hb hby d7_8) hr), hrun, hended, _, _, rfl, ?_, ⟨_, rfl⟩, hW, hsame.mono (by decide) (by decide)⟩
  show Q_codl_3 Z G1 t kt y0 y1 y2 h0 n0 (some (.int (0 : Int32))) s₁.heap _
  rw [e0]
  exact ⟨rfl, N0, rfl⟩
abbrev R_codu_3 : Room := { frames := 0, cells := 0, slots := 0, locals := 0 }
def Q_codu_3 (Z : State) (G1 : Int32) (t : Addr) (kt : ClassId) (y0 : Int32) (y1 : Int32) (y2 : Int32) (y3 : Int32) (y4 : Int32) (y5 : Int32) (h0 : Heap) (n0 : Nat) (v : Option Value) (h : Heap) (L : List Loc) : Prop := (v = some (.int (1 : Int32)) ∧ Fr n0 L ∧ h = h0)
set_option maxRecDepth 65536 in
set_option maxHeartbeats 40000000 in
theorem rm_codu_3 (l : Launch) (Z : State) (a0 : Array Value) (hw : ∀ d ∈ tables_1, d.before a0 Z = true) (ws : List Jvm.Cond) (G1 : Int32) (HG : own_G l Z a0 G1) (h0 : Heap) (n0 : Nat) (X00 : Old Z n0 h0) (t : Addr) (kt : ClassId) (y0 : Int32) (y1 : Int32) (y2 : Int32) (y3 : Int32) (y4 : Int32) (y5 : Int32) (hp0 : Arv Z h0 t kt .byte (6 : Int32) [(.int y0), (.int y1), (.int y2), (.int y3), (.int y4), (.int y5)] (.int (0 : Int32))) :
    own_CP l Z M174 jdk_52_method_15_code 2 (some .byte) ws R_codu_3 #[(.ref t), (.int (3 : Int32))] h0 (Q_codu_3 Z G1 t kt y0 y1 y2 y3 y4 y5 h0 n0) := by
  refine own_P (plainFor_of_name pn_2) ?_
  intro p e s m below meth c s₁ S0 Bd hZ hh hx hby hml hown hnm X0 e0 hS0d
  obtain ⟨O1, P1, OAD, OHI, OLO⟩ := id HG
  have N0 := Fr.nil n0
  have C0 : Steps p.tables e below S0 (s₁.setTop (mkF m 0 #[.val (.ref t), .val (.int (3 : Int32))] [])) := by rw [hS0d]; exact castTop (ef_81 m t (3 : Int32)) (Steps.refl _)
  obtain ⟨c_1, A_2, q_3, S_4, M_5, H_6, U_7⟩ := id hp0
  have C_8 : Steps p.tables e below S0 (s₁.setTop (mkF m 8 #[.val (.ref t), .val (.int (3 : Int32))] [(.int (1 : Int32))])) := by
    refine C0.trans ?_
    refine XS.iloadN X0.here hx rfl (hb hby d7_0) rfl ?_
    refine XS.aloadN X0.here hx rfl (hb hby d7_1) rfl rfl ?_
    refine X0.arraylength hx (by rw [e0]; exact A_2.1) (State.isArrayOf_alike hZ.alike A_2.2.1) (g := (mkF m 2 #[.val (.ref t), .val (.int (3 : Int32))] [(.ref t), (.int (3 : Int32))])) rfl rfl (hb hby d7_2) _ ?_
    rw [len_of S_4 M_5]
    refine XS.isub X0.here hx rfl (hb hby d7_3) rfl ?_
    refine XS.bipush X0.here hx rfl (hb hby d7_4) ?_
    refine XS.iushr X0.here hx rfl (hb hby d7_6) rfl ?_
    refine XS.i2b X0.here hx rfl (hb hby d7_7) rfl ?_
    exact Steps.refl _
  obtain ⟨fs, hr, hrun, hended, hW, hsame⟩ := X0.leave (v := some (.int (1 : Int32))) (fun h => by rw [Bd.returns] at h; cases h)
  refine ⟨_, _, C_8.trans (retN X0 hx (t := .byte) Bd.returns (by simp) (hb hby d7_8) hr), hrun, hended, _, _, rfl, ?_, ⟨_, rfl⟩, hW, hsame.mono (by decide) (by decide)⟩
  show Q_codu_3 Z G1 t kt y0 y1 y2 y3 y4 y5 h0 n0 (some (.int (1 : Int32))) s₁.heap _
  rw [e0]
  exact ⟨rfl, N0, rfl⟩
abbrev R_si4u_3 : Room := { frames := 4, cells := 2, slots := 9, locals := 57 }
def Q_si4u_3 (Z : State) (G1 : Int32) (x : Addr) (b : Addr) (k : ClassId) (c0 : Int32) (c1 : Int32) (c2 : Int32) (h0 : Heap) (n0 : Nat) (v : Option Value) (h : Heap) (L : List Loc) : Prop := (∃ t : Addr, ∃ kt : ClassId, v = none ∧ Fr n0 L ∧ Keep h0 h [x] ∧ (Exa Z h x "java/lang/String") ∧ (Fld Z h x "java/lang/String" "coder" "B" (.int (0 : Int32))) ∧ (Fld Z h x "java/lang/String" "value" "[B" (.ref t)) ∧ (h0.size ≤ t) ∧ (Arv Z h t kt .byte (3 : Int32) [(.int (own_lo8 c0)), (.int (own_lo8 c1)), (.int (own_lo8 c2))] (.int (0 : Int32)))) ∨ (∃ t : Addr, ∃ kt : ClassId, v = none ∧ Fr n0 L ∧ Keep h0 h [x] ∧ (Exa Z h x "java/lang/String") ∧ (Fld Z h x "java/lang/String" "coder" "B" (.int (1 : Int32))) ∧ (Fld Z h x "java/lang/String" "value" "[B" (.ref t)) ∧ (h0.size ≤ t) ∧ (Arv Z h t kt .byte (6 : Int32) [(.int (own_lo8z c0)), (.int (own_hi8 c0)), (.int (own_lo8z c1)), (.int (own_hi8 c1)), (.int (own_lo8z c2)), (.int (own_hi8 c2))] (.int (0 : Int32))))
set_option maxRecDepth 65536 in
set_option maxHeartbeats 40000000 in
theorem rm_si4u_3 (l : Launch) (Z : State) (a0 : Array Value) (hw : ∀ d ∈ tables_1, d.before a0 Z = true) (ws : List Jvm.Cond) (G1 : Int32) (HG : own_G l Z a0 G1) (h0 : Heap) (n0 : Nat) (X00 : Old Z n0 h0) (x : Addr) (b : Addr) (k : ClassId) (c0 : Int32) (c1 : Int32) (c2 : Int32) (hp0 : Exa Z h0 x "java/lang/String") (hp1 : Fld Z h0 x "java/lang/String" "value" "[B" .null) (hp2 : Fld Z h0 x "java/lang/String" "coder" "B" (.int (0 : Int32))) (hp3 : n0 ≤ x) (hp4 : Arv Z h0 b k .char (3 : Int32) [(.int c0), (.int c1), (.int c2)] (.int (0 : Int32))) (hl0 : ¬ (c0 < (0 : Int32))) (hl1 : ¬ (c1 < (0 : Int32))) (hl2 : ¬ (c2 < (0 : Int32))) (hm0 : ¬ ((65535 : Int32) < c0)) (hm1 : ¬ ((65535 : Int32) < c1)) (hm2 : ¬ ((65535 : Int32) < c2)) :
    own_CP l Z M183 jdk_42_method_149_code 6 none ws R_si4u_3 #[(.ref x), (.ref b), (.int (0 : Int32)), (.int (3 : Int32)), .null] h0 (Q_si4u_3 Z G1 x b k c0 c1 c2 h0 n0) := by
  refine own_P (plainFor_of_name pn_185) ?_
  intro p e s m below meth c s₁ S0 Bd hZ hh hx hby hml hown hnm X0 e0 hS0d
  obtain ⟨O1, P1, OAD, OHI, OLO⟩ := id HG
  have N0 := Fr.nil n0
  have C0 : Steps p.tables e below S0 (s₁.setTop (mkF m 0 #[.val (.ref x), .val (.ref b), .val (.int (0 : Int32)), .val (.int (3 : Int32)), .val .null, .unset] [])) := by rw [hS0d]; exact castTop (ef_184 m x b (0 : Int32) (3 : Int32)) (Steps.refl _)
  obtain ⟨T_1, X_2, e_3, st_4⟩ := initO X0 hx hZ hown (w16 hw) (w17 hw) (w18 hw) e0 (g := (mkF m 1 #[.val (.ref x), .val (.ref b), .val (.int (0 : Int32)), .val (.int (3 : Int32)), .val .null, .unset] [(.ref x)])) rfl (by rw [hml]; rfl) rfl (hb hby d8_1) (by decide) (W := 0) (by show 2 * 0 + _ ≤ _; exact Nat.le_of_eq rfl) (by decide)
  obtain ⟨T_5, X_6, e_7, st_8⟩ := getS X_2 hx hZ (host := "") hown (w19 hw) Via.refl e_3 (O1.ext X00.2) (g := (mkF m 27 #[.val (.ref x), .val (.ref b), .val (.int (0 : Int32)), .val (.int (3 : Int32)), .val .null, .unset] [])) rfl (hb hby d8_27)
  obtain ⟨_, _, ⟨T_9, L_9, k_9, n_9⟩, -, X_9, ⟨Lc_9, hQ_9, l_9, y_9, z_9⟩, st_9⟩ := Jvm.LawKit.callS X_6 hx (y := M133) hown (mvT hZ (w20 hw)) (mvT hZ (w21 hw)) (mvT hZ (w22 hw)) (mvT hZ (w23 hw)) (by decide) (backOf (W := 0) (rm_cmp3u_3 l Z a0 hw [] G1 HG h0 n0 X00 b k c0 c1 c2 hp4 hl0 hl1 hl2 hm0 hm1 hm2) hZ (w23 hw) (w22 hw) (by decide) (by decide)) (g := (mkF m 36 #[.val (.ref x), .val (.ref b), .val (.int (0 : Int32)), .val (.int (3 : Int32)), .val .null, .unset] [(.int (3 : Int32)), (.int (0 : Int32)), (.ref b)])) rfl (by rw [hml]; rfl) (argsL := [(.ref b), (.int (0 : Int32)), (.int (3 : Int32))]) (rest := []) (lenOf pd_156 rfl) rfl (by show 2 * 0 + _ ≤ _; exact Nat.le_of_eq rfl) (hb hby d8_36) (fun _ _ => ⟨rfl, e_7, (by decide : 0 + 2 ≤ _), (by decide : 0 + 9 ≤ _)⟩)
  dsimp only [Pt.U, Pt.locs, Pt.cells, Pt.slots] at X_9 l_9 y_9 z_9 st_9 hQ_9
  subst l_9 y_9 z_9
  have C_10 : Steps p.tables e below S0 (T_5.setTop (mkF m 36 #[.val (.ref x), .val (.ref b), .val (.int (0 : Int32)), .val (.int (3 : Int32)), .val .null, .unset] [(.int (3 : Int32)), (.int (0 : Int32)), (.ref b)])) := by
    refine C0.trans ?_
    refine XS.aloadN X0.here hx rfl (hb hby d8_0) rfl rfl ?_
    refine st_4 _ ?_
    refine XS.iloadN X_2.here hx rfl (hb hby d8_4) rfl ?_
    refine XS.ifYes X_2.here hx rfl (pc0 := 5) (pc' := 27) rfl (hb hby d8_5) rfl (by decide) (by decide) (by decide) ?_
    refine st_8 _ ?_
    refine XS.ifNo X_6.here hx rfl (hb hby d8_30) rfl (i0_eq_f P1) ?_
    refine XS.aloadN X_6.here hx rfl (hb hby d8_33) rfl rfl ?_
    refine XS.iloadN X_6.here hx rfl (hb hby d8_34) rfl ?_
    show Steps p.tables e below (T_5.setTop (mkF m 35 #[.val (.ref x), .val (.ref b), .val (.int (0 : Int32)), .val (.int (3 : Int32)), .val .null, .unset] [(.int (0 : Int32)), (.ref b)])) _
    refine XS.iloadN X_6.here hx rfl (hb hby d8_35) rfl ?_
    exact Steps.refl _
  rcases hQ_9 with hQ_11 | hQ_12
  · skip
    obtain ⟨a_13, k_14, rfl, N_15, K_16, g_17, g_18⟩ := hQ_11
    have N_19 := Fr.app N0 N_15
    have O_20 : Old Z n0 T_9.heap := (X00.keep K_16 all0)
    obtain ⟨_, _, ⟨T_21, L_21, k_21, n_21⟩, -, X_21, ⟨Lc_21, hQ_21, l_21, y_21, z_21⟩, st_21⟩ := Jvm.LawKit.callS X_9 hx (y := M174) hown (mvT hZ (w28 hw)) (mvT hZ (w29 hw)) (mvT hZ (w22 hw)) (mvT hZ (w30 hw)) (by decide) (backOf (W := 1) (rm_codl_3 l Z a0 hw [] G1 HG T_9.heap n0 O_20 a_13 k_14 (own_lo8 c0) (own_lo8 c1) (own_lo8 c2) g_18) hZ (w30 hw) (w22 hw) (by decide) (by decide)) (g := (mkF m 45 #[.val (.ref x), .val (.ref b), .val (.int (0 : Int32)), .val (.int (3 : Int32)), .val .null, .val (.ref a_13)] [(.int (3 : Int32)), (.ref a_13), (.ref x)])) rfl (by rw [hml]; rfl) (argsL := [(.ref a_13), (.int (3 : Int32))]) (rest := [(.ref x)]) (lenOf pd_208 rfl) rfl (by show 2 * 0 + _ ≤ _; exact Nat.le_of_eq rfl) (hb hby d8_45) (fun _ _ => ⟨rfl, rfl, (by decide : 2 + 0 ≤ _), (by decide : 9 + 0 ≤ _)⟩)
    dsimp only [Pt.U, Pt.locs, Pt.cells, Pt.slots] at X_21 l_21 y_21 z_21 st_21 hQ_21
    subst l_21 y_21 z_21
    obtain ⟨rfl, N_22, e_23⟩ := hQ_21
    have N_24 := Fr.app N_19 N_22
    have e_25 : T_21.heap = T_9.heap := e_23
    have F_26 : Fld Z T_9.heap x "java/lang/String" "coder" "B" (.int (0 : Int32)) := (hp2.keep K_16 nin0)
    have E_27 : Exa Z T_9.heap x "java/lang/String" := (hp0.keep K_16)
    obtain ⟨T_28, h_29, X_30, e_31, W_32, st_33⟩ := putF X_21 hx hZ hown (host := "") (Or.inl (w31 hw)) Via.refl e_25 F_26 E_27 (Or.inr ⟨(w32 hw), rfl, hnm⟩) (w6 hw) (ty := .byte) (by decide) rfl (by decide) (g := (mkF m 48 #[.val (.ref x), .val (.ref b), .val (.int (0 : Int32)), .val (.int (3 : Int32)), .val .null, .val (.ref a_13)] [(.int (0 : Int32)), (.ref x)])) rfl rfl (hb hby d8_48)
    have N_34 := Fr.snoc X_30 N_24 hp3
    have F_35 : Fld Z h_29 x "java/lang/String" "coder" "B" (.int (0 : Int32)) := F_26.same W_32
    have F_36 : Fld Z h_29 x "java/lang/String" "value" "[B" .null := ((hp1.keep K_16 nin0).other W_32 (Or.inr (slot_ne (Or.inr (w34 hw)) (Or.inr (w32 hw)) (by decide) (t := (.array .byte)) (by decide) (t' := .byte) (by decide))))
    have E_37 : Exa Z h_29 x "java/lang/String" := (E_27.wr W_32)
    obtain ⟨T_38, h_39, X_40, e_41, W_42, st_43⟩ := putF X_30 hx hZ hown (host := "") (Or.inl (w33 hw)) Via.refl e_31 F_36 E_37 (Or.inr ⟨(w34 hw), rfl, hnm⟩) (w6 hw) (ty := (.array .byte)) (by decide) rfl rfl (g := (mkF m 54 #[.val (.ref x), .val (.ref b), .val (.int (0 : Int32)), .val (.int (3 : Int32)), .val .null, .val (.ref a_13)] [(.ref a_13), (.ref x)])) rfl rfl (hb hby d8_54)
    have N_44 := Fr.snoc X_40 N_34 hp3
    have F_45 : Fld Z h_39 x "java/lang/String" "value" "[B" (.ref a_13) := F_36.same W_42
    have C_46 : Steps p.tables e below S0 (T_38.setTop (mkF m 57 #[.val (.ref x), .val (.ref b), .val (.int (0 : Int32)), .val (.int (3 : Int32)), .val .null, .val (.ref a_13)] [])) := by
      refine C_10.trans ?_
      refine st_9 _ ?_
      refine XS.astore X_9.here hx rfl (hb hby d8_39) rfl rfl (l' := #[.val (.ref x), .val (.ref b), .val (.int (0 : Int32)), .val (.int (3 : Int32)), .val .null, .val (.ref a_13)]) rfl ?_
      refine XS.aloadN X_9.here hx rfl (hb hby d8_41) rfl rfl ?_
      refine XS.aload X_9.here hx rfl (hb hby d8_42) rfl rfl ?_
      refine XS.iloadN X_9.here hx rfl (hb hby d8_44) rfl ?_
      refine st_21 _ ?_
      refine st_33 _ ?_
      refine XS.aloadN X_30.here hx rfl (hb hby d8_51) rfl rfl ?_
      show Steps p.tables e below (T_28.setTop (mkF m 52 #[.val (.ref x), .val (.ref b), .val (.int (0 : Int32)), .val (.int (3 : Int32)), .val .null, .val (.ref a_13)] [(.ref x)])) _
      refine XS.aload X_30.here hx rfl (hb hby d8_52) rfl rfl ?_
      refine st_43 _ ?_
      exact Steps.refl _
    have E_47 : Exa Z h_39 x "java/lang/String" := (E_37.wr W_42)
    have F_48 : Fld Z h_39 x "java/lang/String" "coder" "B" (.int (0 : Int32)) := (F_35.other W_42 (Or.inr (slot_ne (Or.inr (w32 hw)) (Or.inr (w34 hw)) (by decide) (t := .byte) (by decide) (t' := (.array .byte)) (by decide))))
    have V_49 : Arv Z h_39 a_13 k_14 .byte (3 : Int32) [(.int (own_lo8 c0)), (.int (own_lo8 c1)), (.int (own_lo8 c2))] (.int (0 : Int32)) := ((g_18.other W_32 (Ne.symm (Nat.ne_of_lt (Nat.lt_of_lt_of_le hp0.lt (Nat.le_trans (Nat.le_refl _) g_17))))).other W_42 (Ne.symm (Nat.ne_of_lt (Nat.lt_of_lt_of_le hp0.lt (Nat.le_trans (Nat.le_refl _) g_17)))))
    have K_50 : Keep h0 h_39 [x] := ((((Keep.refl _ _).trans K_16 all0).wr W_32 (Or.inl (List.mem_of_getElem? (i := 0) rfl))).wr W_42 (Or.inl (List.mem_of_getElem? (i := 0) rfl)))
    obtain ⟨fs, hr, hrun, hended, hW, hsame⟩ := X_40.leave (v := none) (fun _ => rfl)
    refine ⟨_, _, C_46.trans (X_40.returnOut hx Bd.returns (hb hby d8_57) hr), hrun, hended, _, _, rfl, ?_, ⟨_, rfl⟩, hW, hsame.mono (by decide) (by decide)⟩
    show Q_si4u_3 Z G1 x b k c0 c1 c2 h0 n0 (none) T_38.heap _
    rw [e_41]
    exact Or.inl ⟨a_13, k_14, rfl, N_44, K_50, E_47, F_48, F_45, (Nat.le_trans (Nat.le_refl _) g_17), V_49⟩
  · skip
    obtain ⟨a_51, k_52, rfl, N_53, K_54, g_55, g_56⟩ := hQ_12
    have N_57 := Fr.app N0 N_53
    have O_58 : Old Z n0 T_9.heap := (X00.keep K_54 all0)
    obtain ⟨_, _, ⟨T_59, L_59, k_59, n_59⟩, -, X_59, ⟨Lc_59, hQ_59, l_59, y_59, z_59⟩, st_59⟩ := Jvm.LawKit.callS X_9 hx (y := M174) hown (mvT hZ (w28 hw)) (mvT hZ (w29 hw)) (mvT hZ (w22 hw)) (mvT hZ (w30 hw)) (by decide) (backOf (W := 1) (rm_codu_3 l Z a0 hw [] G1 HG T_9.heap n0 O_58 a_51 k_52 (own_lo8z c0) (own_hi8 c0) (own_lo8z c1) (own_hi8 c1) (own_lo8z c2) (own_hi8 c2) g_56) hZ (w30 hw) (w22 hw) (by decide) (by decide)) (g := (mkF m 45 #[.val (.ref x), .val (.ref b), .val (.int (0 : Int32)), .val (.int (3 : Int32)), .val .null, .val (.ref a_51)] [(.int (3 : Int32)), (.ref a_51), (.ref x)])) rfl (by rw [hml]; rfl) (argsL := [(.ref a_51), (.int (3 : Int32))]) (rest := [(.ref x)]) (lenOf pd_208 rfl) rfl (by show 2 * 0 + _ ≤ _; exact Nat.le_of_eq rfl) (hb hby d8_45) (fun _ _ => ⟨rfl, rfl, (by decide : 2 + 0 ≤ _), (by decide : 9 + 0 ≤ _)⟩)
    dsimp only [Pt.U, Pt.locs, Pt.cells, Pt.slots] at X_59 l_59 y_59 z_59 st_59 hQ_59
    subst l_59 y_59 z_59
    obtain ⟨rfl, N_60, e_61⟩ := hQ_59
    have N_62 := Fr.app N_57 N_60
    have e_63 : T_59.heap = T_9.heap := e_61
    have F_64 : Fld Z T_9.heap x "java/lang/String" "coder" "B" (.int (0 : Int32)) := (hp2.keep K_54 nin0)
    have E_65 : Exa Z T_9.heap x "java/lang/String" := (hp0.keep K_54)
    obtain ⟨T_66, h_67, X_68, e_69, W_70, st_71⟩ := putF X_59 hx hZ hown (host := "") (Or.inl (w31 hw)) Via.refl e_63 F_64 E_65 (Or.inr ⟨(w32 hw), rfl, hnm⟩) (w6 hw) (ty := .byte) (by decide) rfl (by decide) (g := (mkF m 48 #[.val (.ref x), .val (.ref b), .val (.int (0 : Int32)), .val (.int (3 : Int32)), .val .null, .val (.ref a_51)] [(.int (1 : Int32)), (.ref x)])) rfl rfl (hb hby d8_48)
    have N_72 := Fr.snoc X_68 N_62 hp3
    have F_73 : Fld Z h_67 x "java/lang/String" "coder" "B" (.int (1 : Int32)) := F_64.same W_70
    have F_74 : Fld Z h_67 x "java/lang/String" "value" "[B" .null := ((hp1.keep K_54 nin0).other W_70 (Or.inr (slot_ne (Or.inr (w34 hw)) (Or.inr (w32 hw)) (by decide) (t := (.array .byte)) (by decide) (t' := .byte) (by decide))))
    have E_75 : Exa Z h_67 x "java/lang/String" := (E_65.wr W_70)
    obtain ⟨T_76, h_77, X_78, e_79, W_80, st_81⟩ := putF X_68 hx hZ hown (host := "") (Or.inl (w33 hw)) Via.refl e_69 F_74 E_75 (Or.inr ⟨(w34 hw), rfl, hnm⟩) (w6 hw) (ty := (.array .byte)) (by decide) rfl rfl (g := (mkF m 54 #[.val (.ref x), .val (.ref b), .val (.int (0 : Int32)), .val (.int (3 : Int32)), .val .null, .val (.ref a_51)] [(.ref a_51), (.ref x)])) rfl rfl (hb hby d8_54)
    have N_82 := Fr.snoc X_78 N_72 hp3
    have F_83 : Fld Z h_77 x "java/lang/String" "value" "[B" (.ref a_51) := F_74.same W_80
    have C_84 : Steps p.tables e below S0 (T_76.setTop (mkF m 57 #[.val (.ref x), .val (.ref b), .val (.int (0 : Int32)), .val (.int (3 : Int32)), .val .null, .val (.ref a_51)] [])) := by
      refine C_10.trans ?_
      refine st_9 _ ?_
      refine XS.astore X_9.here hx rfl (hb hby d8_39) rfl rfl (l' := #[.val (.ref x), .val (.ref b), .val (.int (0 : Int32)), .val (.int (3 : Int32)), .val .null, .val (.ref a_51)]) rfl ?_
      refine XS.aloadN X_9.here hx rfl (hb hby d8_41) rfl rfl ?_
      refine XS.aload X_9.here hx rfl (hb hby d8_42) rfl rfl ?_
      refine XS.iloadN X_9.here hx rfl (hb hby d8_44) rfl ?_
      refine st_59 _ ?_
      refine st_71 _ ?_
      refine XS.aloadN X_68.here hx rfl (hb hby d8_51) rfl rfl ?_
      show Steps p.tables e below (T_66.setTop (mkF m 52 #[.val (.ref x), .val (.ref b), .val (.int (0 : Int32)), .val (.int (3 : Int32)), .val .null, .val (.ref a_51)] [(.ref x)])) _
      refine XS.aload X_68.here hx rfl (hb hby d8_52) rfl rfl ?_
      refine st_81 _ ?_
      exact Steps.refl _
    have E_85 : Exa Z h_77 x "java/lang/String" := (E_75.wr W_80)
    have F_86 : Fld Z h_77 x "java/lang/String" "coder" "B" (.int (1 : Int32)) := (F_73.other W_80 (Or.inr (slot_ne (Or.inr (w32 hw)) (Or.inr (w34 hw)) (by decide) (t := .byte) (by decide) (t' := (.array .byte)) (by decide))))
    have V_87 : Arv Z h_77 a_51 k_52 .byte (6 : Int32) [(.int (own_lo8z c0)), (.int (own_hi8 c0)), (.int (own_lo8z c1)), (.int (own_hi8 c1)), (.int (own_lo8z c2)), (.int (own_hi8 c2))] (.int (0 : Int32)) := ((g_56.other W_70 (Ne.symm (Nat.ne_of_lt (Nat.lt_of_lt_of_le hp0.lt (Nat.le_trans (Nat.le_refl _) g_55))))).other W_80 (Ne.symm (Nat.ne_of_lt (Nat.lt_of_lt_of_le hp0.lt (Nat.le_trans (Nat.le_refl _) g_55)))))
    have K_88 : Keep h0 h_77 [x] := ((((Keep.refl _ _).trans K_54 all0).wr W_70 (Or.inl (List.mem_of_getElem? (i := 0) rfl))).wr W_80 (Or.inl (List.mem_of_getElem? (i := 0) rfl)))
    obtain ⟨fs, hr, hrun, hended, hW, hsame⟩ := X_78.leave (v := none) (fun _ => rfl)
    refine ⟨_, _, C_84.trans (X_78.returnOut hx Bd.returns (hb hby d8_57) hr), hrun, hended, _, _, rfl, ?_, ⟨_, rfl⟩, hW, hsame.mono (by decide) (by decide)⟩
    show Q_si4u_3 Z G1 x b k c0 c1 c2 h0 n0 (none) T_76.heap _
    rw [e_79]
    exact Or.inr (⟨a_51, k_52, rfl, N_82, K_88, E_85, F_86, F_83, (Nat.le_trans (Nat.le_refl _) g_55), V_87⟩)
abbrev R_si1u_3 : Room := { frames := 5, cells := 2, slots := 9, locals := 74 }
def Q_si1u_3 (Z : State) (G1 : Int32) (x : Addr) (b : Addr) (k : ClassId) (c0 : Int32) (c1 : Int32) (c2 : Int32) (h0 : Heap) (n0 : Nat) (v : Option Value) (h : Heap) (L : List Loc) : Prop := (∃ t : Addr, ∃ kt : ClassId, v = none ∧ Fr n0 L ∧ Keep h0 h [x] ∧ (Exa Z h x "java/lang/String") ∧ (Fld Z h x "java/lang/String" "coder" "B" (.int (0 : Int32))) ∧ (Fld Z h x "java/lang/String" "value" "[B" (.ref t)) ∧ (h0.size ≤ t) ∧ (Arv Z h t kt .byte (3 : Int32) [(.int (own_lo8 c0)), (.int (own_lo8 c1)), (.int (own_lo8 c2))] (.int (0 : Int32)))) ∨ (∃ t : Addr, ∃ kt : ClassId, v = none ∧ Fr n0 L ∧ Keep h0 h [x] ∧ (Exa Z h x "java/lang/String") ∧ (Fld Z h x "java/lang/String" "coder" "B" (.int (1 : Int32))) ∧ (Fld Z h x "java/lang/String" "value" "[B" (.ref t)) ∧ (h0.size ≤ t) ∧ (Arv Z h t kt .byte (6 : Int32) [(.int (own_lo8z c0)), (.int (own_hi8 c0)), (.int (own_lo8z c1)), (.int (own_hi8 c1)), (.int (own_lo8z c2)), (.int (own_hi8 c2))] (.int (0 : Int32))))
set_option maxRecDepth 65536 in
set_option maxHeartbeats 40000000 in
theorem rm_si1u_3 (l : Launch) (Z : State) (a0 : Array Value) (hw : ∀ d ∈ tables_1, d.before a0 Z = true) (ws : List Jvm.Cond) (G1 : Int32) (HG : own_G l Z a0 G1) (h0 : Heap) (n0 : Nat) (X00 : Old Z n0 h0) (x : Addr) (b : Addr) (k : ClassId) (c0 : Int32) (c1 : Int32) (c2 : Int32) (hp0 : Exa Z h0 x "java/lang/String") (hp1 : Fld Z h0 x "java/lang/String" "value" "[B" .null) (hp2 : Fld Z h0 x "java/lang/String" "coder" "B" (.int (0 : Int32))) (hp3 : n0 ≤ x) (hp4 : Arv Z h0 b k .char (3 : Int32) [(.int c0), (.int c1), (.int c2)] (.int (0 : Int32))) (hl0 : ¬ (c0 < (0 : Int32))) (hl1 : ¬ (c1 < (0 : Int32))) (hl2 : ¬ (c2 < (0 : Int32))) (hm0 : ¬ ((65535 : Int32) < c0)) (hm1 : ¬ ((65535 : Int32) < c1)) (hm2 : ¬ ((65535 : Int32) < c2)) :
    own_CP l Z M222 jdk_42_method_3_code 2 none ws R_si1u_3 #[(.ref x), (.ref b)] h0 (Q_si1u_3 Z G1 x b k c0 c1 c2 h0 n0) := by
  refine own_P (plainFor_of_name pn_185) ?_
  intro p e s m below meth c s₁ S0 Bd hZ hh hx hby hml hown hnm X0 e0 hS0d
  obtain ⟨O1, P1, OAD, OHI, OLO⟩ := id HG
  have N0 := Fr.nil n0
  have C0 : Steps p.tables e below S0 (s₁.setTop (mkF m 0 #[.val (.ref x), .val (.ref b)] [])) := by rw [hS0d]; exact castTop (ef_223 m x b) (Steps.refl _)
  obtain ⟨c_1, A_2, q_3, S_4, M_5, H_6, U_7⟩ := id hp4
  obtain ⟨_, _, ⟨T_8, L_8, k_8, n_8⟩, -, X_8, ⟨Lc_8, hQ_8, l_8, y_8, z_8⟩, st_8⟩ := X0.specialBack hx (y := M183) rfl hown (mvT hZ (w12 hw)) (mvT hZ (w13 hw)) (mvT hZ (w15 hw)) (by decide) (backOf (W := 0) (rm_si4u_3 l Z a0 hw [] G1 HG h0 n0 X00 x b k c0 c1 c2 hp0 hp1 hp2 hp3 hp4 hl0 hl1 hl2 hm0 hm1 hm2) hZ (w15 hw) (w7 hw) (by decide) (by decide)) (g := (mkF m 6 #[.val (.ref x), .val (.ref b)] [.null, (.int (3 : Int32)), (.int (0 : Int32)), (.ref b), (.ref x)])) rfl (by rw [hml]; rfl) (Steps.refl _) (a := x) (argsL := [(.ref b), (.int (0 : Int32)), (.int (3 : Int32)), .null]) (rest := []) (lenOf pd_232 rfl) rfl (by show 2 * 0 + _ ≤ _; exact Nat.le_of_eq rfl) (hb hby d9_6) (fun _ _ => ⟨rfl, e0, (by decide : 0 + 2 ≤ _), (by decide : 0 + 9 ≤ _)⟩)
  dsimp only [Pt.U, Pt.locs, Pt.cells, Pt.slots] at X_8 l_8 y_8 z_8 st_8 hQ_8
  subst l_8 y_8 z_8
  have C_9 : Steps p.tables e below S0 (s₁.setTop (mkF m 6 #[.val (.ref x), .val (.ref b)] [.null, (.int (3 : Int32)), (.int (0 : Int32)), (.ref b), (.ref x)])) := by
    refine C0.trans ?_
    refine XS.aloadN X0.here hx rfl (hb hby d9_0) rfl rfl ?_
    refine XS.aloadN X0.here hx rfl (hb hby d9_1) rfl rfl ?_
    refine XS.iconst X0.here hx rfl (hb hby d9_2) ?_
    refine XS.aloadN X0.here hx rfl (hb hby d9_3) rfl rfl ?_
    refine X0.arraylength hx (by rw [e0]; exact A_2.1) (State.isArrayOf_alike hZ.alike A_2.2.1) (g := (mkF m 4 #[.val (.ref x), .val (.ref b)] [(.ref b), (.int (0 : Int32)), (.ref b), (.ref x)])) rfl rfl (hb hby d9_4) _ ?_
    rw [len_of S_4 M_5]
    refine XS.aconstNull X0.here hx rfl (hb hby d9_5) ?_
    exact Steps.refl _
  rcases hQ_8 with hQ_10 | hQ_11
  · skip
    obtain ⟨a_12, k_13, rfl, N_14, K_15, g_16, g_17, g_18, g_19, g_20⟩ := hQ_10
    have N_21 := Fr.app N0 N_14
    have C_22 : Steps p.tables e below S0 (T_8.setTop (mkF m 9 #[.val (.ref x), .val (.ref b)] [])) := by
      refine C_9.trans ?_
      refine st_8.trans ?_
      exact Steps.refl _
    have K_23 : Keep h0 T_8.heap [x] := ((Keep.refl _ _).trans K_15 (allS (Or.inl (List.mem_of_getElem? (i := 0) rfl)) all0))
    obtain ⟨fs, hr, hrun, hended, hW, hsame⟩ := X_8.leave (v := none) (fun _ => rfl)
    refine ⟨_, _, C_22.trans (X_8.returnOut hx Bd.returns (hb hby d9_9) hr), hrun, hended, _, _, rfl, ?_, ⟨_, rfl⟩, hW, hsame.mono (by decide) (by decide)⟩
    show Q_si1u_3 Z G1 x b k c0 c1 c2 h0 n0 (none) T_8.heap _
    exact Or.inl ⟨a_12, k_13, rfl, N_21, K_23, g_16, g_17, g_18, (Nat.le_trans (Nat.le_refl _) g_19), g_20⟩
  · skip
    obtain ⟨a_24, k_25, rfl, N_26, K_27, g_28, g_29, g_30, g_31, g_32⟩ := hQ_11
    have N_33 := Fr.app N0 N_26
    have C_34 : Steps p.tables e below S0 (T_8.setTop (mkF m 9 #[.val (.ref x), .val (.ref b)] [])) := by
      refine C_9.trans ?_
      refine st_8.trans ?_
      exact Steps.refl _
    have K_35 : Keep h0 T_8.heap [x] := ((Keep.refl _ _).trans K_27 (allS (Or.inl (List.mem_of_getElem? (i := 0) rfl)) all0))
    obtain ⟨fs, hr, hrun, hended, hW, hsame⟩ := X_8.leave (v := none) (fun _ => rfl)
    refine ⟨_, _, C_34.trans (X_8.returnOut hx Bd.returns (hb hby d9_9) hr), hrun, hended, _, _, rfl, ?_, ⟨_, rfl⟩, hW, hsame.mono (by decide) (by decide)⟩
    show Q_si1u_3 Z G1 x b k c0 c1 c2 h0 n0 (none) T_8.heap _
    exact Or.inr (⟨a_24, k_25, rfl, N_33, K_35, g_28, g_29, g_30, (Nat.le_trans (Nat.le_refl _) g_31), g_32⟩)
abbrev R_nbl_4 : Room := { frames := 0, cells := 0, slots := 0, locals := 0 }
def Q_nbl_4 (Z : State) (G1 : Int32)  (h0 : Heap) (n0 : Nat) (v : Option Value) (h : Heap) (L : List Loc) : Prop := (v = some (.int (8 : Int32)) ∧ Fr n0 L ∧ h = h0)
set_option maxRecDepth 65536 in
set_option maxHeartbeats 40000000 in
theorem rm_nbl_4 (l : Launch) (Z : State) (a0 : Array Value) (hw : ∀ d ∈ tables_1, d.before a0 Z = true) (ws : List Jvm.Cond) (G1 : Int32) (HG : own_G l Z a0 G1) (h0 : Heap) (n0 : Nat) (X00 : Old Z n0 h0)   :
    own_CP l Z M0 jdk_52_method_3_code 1 (some .int) ws R_nbl_4 #[(.int (4 : Int32))] h0 (Q_nbl_4 Z G1  h0 n0) := by
  refine own_P (plainFor_of_name pn_2) ?_
  intro p e s m below meth c s₁ S0 Bd hZ hh hx hby hml hown hnm X0 e0 hS0d
  obtain ⟨O1, P1, OAD, OHI, OLO⟩ := id HG
  have N0 := Fr.nil n0
  have C0 : Steps p.tables e below S0 (s₁.setTop (mkF m 0 #[.val (.int (4 : Int32))] [])) := by rw [hS0d]; exact castTop (ef_1 m (4 : Int32)) (Steps.refl _)
  have C_1 : Steps p.tables e below S0 (s₁.setTop (mkF m 58 #[.val (.int (4 : Int32))] [(.int (8 : Int32))])) := by
    refine C0.trans ?_
    refine XS.iloadN X0.here hx rfl (hb hby d0_0) rfl ?_
    refine XS.ifYes X0.here hx rfl (pc0 := 1) (pc' := 12) rfl (hb hby d0_1) rfl (by decide) (by decide) (by decide) ?_
    refine XS.iloadN X0.here hx rfl (hb hby d0_12) rfl ?_
    refine X0.ldcI hx hown (mvT hZ (w77 hw)) rfl (hb hby d0_13) ?_
    refine XS.icmpYes X0.here hx rfl (pc0 := 15) (pc' := 55) rfl (hb hby d0_15) rfl (by decide) (by decide) (by decide) ?_
    refine XS.iloadN X0.here hx rfl (hb hby d0_55) rfl ?_
    refine XS.iconst X0.here hx rfl (hb hby d0_56) ?_
    refine XS.ishl X0.here hx rfl (hb hby d0_57) rfl ?_
    show Steps p.tables e below (s₁.setTop (mkF m 58 #[.val (.int (4 : Int32))] [(.int (8 : Int32))])) _
    exact Steps.refl _
  obtain ⟨fs, hr, hrun, hended, hW, hsame⟩ := X0.leave (v := some (.int (8 : Int32))) (fun h => by rw [Bd.returns] at h; cases h)
  refine ⟨_, _, C_1.trans (retOut X0 hx Bd.returns rfl (Or.inl ⟨rfl, Or.inl rfl, _, rfl⟩) (hb hby d0_58) hr), hrun, hended, _, _, rfl, ?_, ⟨_, rfl⟩, hW, hsame.mono (by decide) (by decide)⟩
  show Q_nbl_4 Z G1  h0 n0 (some (.int (8 : Int32))) s₁.heap _
  rw [e0]
  exact ⟨rfl, N0, rfl⟩
abbrev R_nbf_4 : Room := { frames := 1, cells := 1, slots := 8, locals := 12 }
def Q_nbf_4 (Z : State) (G1 : Int32)  (h0 : Heap) (n0 : Nat) (v : Option Value) (h : Heap) (L : List Loc) : Prop := (∃ t : Addr, ∃ kt : ClassId, v = some (.ref t) ∧ Fr n0 L ∧ Keep h0 h [] ∧ (h0.size ≤ t) ∧ (Arv Z h t kt .byte (8 : Int32) [(.int (0 : Int32)), (.int (0 : Int32)), (.int (0 : Int32)), (.int (0 : Int32)), (.int (0 : Int32)), (.int (0 : Int32)), (.int (0 : Int32)), (.int (0 : Int32))] (.int (0 : Int32))))
set_option maxRecDepth 65536 in
set_option maxHeartbeats 40000000 in
theorem rm_nbf_4 (l : Launch) (Z : State) (a0 : Array Value) (hw : ∀ d ∈ tables_1, d.before a0 Z = true) (ws : List Jvm.Cond) (G1 : Int32) (HG : own_G l Z a0 G1) (h0 : Heap) (n0 : Nat) (X00 : Old Z n0 h0)   :
    own_CP l Z M13 jdk_52_method_2_code 1 (some (.array .byte)) ws R_nbf_4 #[(.int (4 : Int32))] h0 (Q_nbf_4 Z G1  h0 n0) := by
  refine own_P (plainFor_of_name pn_2) ?_
  intro p e s m below meth c s₁ S0 Bd hZ hh hx hby hml hown hnm X0 e0 hS0d
  obtain ⟨O1, P1, OAD, OHI, OLO⟩ := id HG
  have N0 := Fr.nil n0
  have C0 : Steps p.tables e below S0 (s₁.setTop (mkF m 0 #[.val (.int (4 : Int32))] [])) := by rw [hS0d]; exact castTop (ef_1 m (4 : Int32)) (Steps.refl _)
  obtain ⟨_, _, ⟨T_1, L_1, k_1, n_1⟩, -, X_1, ⟨Lc_1, hQ_1, l_1, y_1, z_1⟩, st_1⟩ := Jvm.LawKit.callS X0 hx (y := M0) hown (mvT hZ (w74 hw)) (mvT hZ (w75 hw)) (mvT hZ (w22 hw)) (mvT hZ (w76 hw)) (by decide) (backOf (W := 0) (rm_nbl_4 l Z a0 hw [] G1 HG h0 n0 X00  ) hZ (w76 hw) (w22 hw) (by decide) (by decide)) (g := (mkF m 1 #[.val (.int (4 : Int32))] [(.int (4 : Int32))])) rfl (by rw [hml]; rfl) (argsL := [(.int (4 : Int32))]) (rest := []) (lenOf pd_17 rfl) rfl (by show 2 * 0 + _ ≤ _; exact Nat.le_of_eq rfl) (hb hby d1_1) (fun _ _ => ⟨rfl, e0, (by decide : 0 + 0 ≤ _), (by decide : 0 + 0 ≤ _)⟩)
  dsimp only [Pt.U, Pt.locs, Pt.cells, Pt.slots] at X_1 l_1 y_1 z_1 st_1 hQ_1
  subst l_1 y_1 z_1
  obtain ⟨rfl, N_2, e_3⟩ := hQ_1
  have N_4 := Fr.app N0 N_2
  have e_5 : T_1.heap = h0 := e_3
  obtain ⟨T_6, h_7, k_8, X_9, e_10, E_11, A_12, st_13⟩ := newP (aty := .byte) X_1 hx hZ (w24 hw) e_5 (g := (mkF m 4 #[.val (.int (4 : Int32))] [(.int (8 : Int32))])) rfl (hb hby d1_4) rfl (by decide : ¬ ((8 : Int32) < (0 : Int32))) (cap := 8) (by decide : (8 : Int32).toNatClampNeg ≤ 8) (by decide) (by decide) (by decide)
  obtain ⟨a_14, g_15⟩ : ∃ z, z = h0.size := ⟨_, rfl⟩
  rw [← g_15] at A_12 st_13
  have V_17 : Arv Z h_7 a_14 k_8 .byte (8 : Int32) [] (.int (0 : Int32)) := Arv.new A_12 (by decide : ¬ ((8 : Int32) < (0 : Int32)))
  have V_16 : Arv Z h_7 a_14 k_8 .byte (8 : Int32) [(.int (0 : Int32)), (.int (0 : Int32)), (.int (0 : Int32)), (.int (0 : Int32)), (.int (0 : Int32)), (.int (0 : Int32)), (.int (0 : Int32)), (.int (0 : Int32))] (.int (0 : Int32)) := (V_17.pad (pad_rep [] (.int (0 : Int32)) 8))
  have C_18 : Steps p.tables e below S0 (T_6.setTop (mkF m 6 #[.val (.int (4 : Int32))] [(.ref a_14)])) := by
    refine C0.trans ?_
    refine XS.iloadN X0.here hx rfl (hb hby d1_0) rfl ?_
    refine st_1 _ ?_
    refine st_13 _ ?_
    exact Steps.refl _
  have K_19 : Keep h0 h_7 [] := ((Keep.refl _ _).ext E_11)
  obtain ⟨fs, hr, hrun, hended, hW, hsame⟩ := X_9.leave (v := some (.ref a_14)) (fun h => by rw [Bd.returns] at h; cases h)
  refine ⟨_, _, C_18.trans (retOut X_9 hx Bd.returns rfl (Or.inr (Or.inr (Or.inr (Or.inr ⟨rfl, rfl, rfl⟩)))) (hb hby d1_6) hr), hrun, hended, _, _, rfl, ?_, ⟨_, rfl⟩, hW, hsame.mono (by decide) (by decide)⟩
  show Q_nbf_4 Z G1  h0 n0 (some (.ref a_14)) T_6.heap _
  rw [e_10]
  exact ⟨a_14, k_8, rfl, N_4, K_19, (Nat.le_trans (Nat.le_refl _) (Nat.le_of_eq g_15.symm)), V_16⟩
abbrev R_put_4_0 : Room := { frames := 0, cells := 0, slots := 0, locals := 0 }
def Q_put_4_0 (Z : State) (G1 : Int32) (t : Addr) (kt : ClassId) (cc : Int32) (y0 : Int32) (y1 : Int32) (y2 : Int32) (y3 : Int32) (y4 : Int32) (y5 : Int32) (y6 : Int32) (y7 : Int32) (h0 : Heap) (n0 : Nat) (v : Option Value) (h : Heap) (L : List Loc) : Prop := (v = none ∧ Fr n0 L ∧ Keep h0 h [t] ∧ (Arv Z h t kt .byte (8 : Int32) [(.int (own_lo8z cc)), (.int (own_hi8 cc)), (.int y2), (.int y3), (.int y4), (.int y5), (.int y6), (.int y7)] (.int (0 : Int32))))
set_option maxRecDepth 65536 in
set_option maxHeartbeats 40000000 in
theorem rm_put_4_0 (l : Launch) (Z : State) (a0 : Array Value) (hw : ∀ d ∈ tables_1, d.before a0 Z = true) (ws : List Jvm.Cond) (G1 : Int32) (HG : own_G l Z a0 G1) (h0 : Heap) (n0 : Nat) (X00 : Old Z n0 h0) (t : Addr) (kt : ClassId) (cc : Int32) (y0 : Int32) (y1 : Int32) (y2 : Int32) (y3 : Int32) (y4 : Int32) (y5 : Int32) (y6 : Int32) (y7 : Int32) (hp0 : Arv Z h0 t kt .byte (8 : Int32) [(.int y0), (.int y1), (.int y2), (.int y3), (.int y4), (.int y5), (.int y6), (.int y7)] (.int (0 : Int32))) (hp1 : n0 ≤ t) :
    own_CP l Z M24 jdk_52_method_4_code 3 none ws R_put_4_0 #[(.ref t), (.int (0 : Int32)), (.int cc)] h0 (Q_put_4_0 Z G1 t kt cc y0 y1 y2 y3 y4 y5 y6 y7 h0 n0) := by
  refine own_P (plainFor_of_name pn_2) ?_
  intro p e s m below meth c s₁ S0 Bd hZ hh hx hby hml hown hnm X0 e0 hS0d
  obtain ⟨O1, P1, OAD, OHI, OLO⟩ := id HG
  have N0 := Fr.nil n0
  have C0 : Steps p.tables e below S0 (s₁.setTop (mkF m 0 #[.val (.ref t), .val (.int (0 : Int32)), .val (.int cc)] [])) := by rw [hS0d]; exact castTop (ef_25 m t (0 : Int32) cc) (Steps.refl _)
  obtain ⟨T_1, X_2, e_3, st_4⟩ := getS X0 hx hZ (host := "") hown (w81 hw) Via.refl e0 (OAD.ext X00.2) (g := (mkF m 0 #[.val (.ref t), .val (.int (0 : Int32)), .val (.int cc)] [])) rfl (hb hby d2_0)
  obtain ⟨T_5, X_6, e_7, st_8⟩ := getS X_2 hx hZ (host := "") hown (w82 hw) Via.refl e_3 (OHI.ext X00.2) (g := (mkF m 38 #[.val (.ref t), .val (.int (1 : Int32)), .val (.int cc)] [(.int cc), (.int (0 : Int32)), (.ref t)])) rfl (hb hby d2_38)
  obtain ⟨c_9, A_10, q_11, S_12, M_13, H_14, U_15⟩ := id hp0
  have hin_22 : ¬ ((0 : Int32) < 0 ∨ c_9.slots.size ≤ (0 : Int32).toNatClampNeg) := inb_of S_12 ⟨(by decide : ¬ ((0 : Int32) < (0 : Int32))), (by decide : (0 : Int32) < (8 : Int32))⟩
  obtain ⟨T_16, h_17, X_18, e_19, W_20, st_21⟩ := stB X_6 hx hZ e_7 A_10 (j := (0 : Int32)) hin_22 (g := (mkF m 43 #[.val (.ref t), .val (.int (1 : Int32)), .val (.int cc)] [(.int ((cc >>> ((0 : Int32) &&& 31)).toInt8.toInt32)), (.int (0 : Int32)), (.ref t)])) rfl rfl (hb hby d2_43)
  have N_23 := Fr.snoc X_18 N0 hp1
  have V_24 : Arv Z h_17 t kt .byte (8 : Int32) [(.int (own_lo8z cc)), (.int y1), (.int y2), (.int y3), (.int y4), (.int y5), (.int y6), (.int y7)] (.int (0 : Int32)) := Arv.set A_10 q_11 S_12 M_13 H_14 U_15 (fits_nar_byte _) W_20 0 rfl (Nat.le_of_ble_eq_true rfl)
  have O_29 : Old Z n0 h_17 := (X00.wr W_20 hp1)
  obtain ⟨T_25, X_26, e_27, st_28⟩ := getS X_18 hx hZ (host := "") hown (w83 hw) Via.refl e_19 (OLO.ext O_29.2) (g := (mkF m 47 #[.val (.ref t), .val (.int (1 : Int32)), .val (.int cc)] [(.int cc), (.int (1 : Int32)), (.ref t)])) rfl (hb hby d2_47)
  obtain ⟨c_30, A_31, q_32, S_33, M_34, H_35, U_36⟩ := id V_24
  have hin_43 : ¬ ((1 : Int32) < 0 ∨ c_30.slots.size ≤ (1 : Int32).toNatClampNeg) := inb_of S_33 ⟨(by decide : ¬ ((1 : Int32) < (0 : Int32))), (by decide : (1 : Int32) < (8 : Int32))⟩
  obtain ⟨T_37, h_38, X_39, e_40, W_41, st_42⟩ := stB X_26 hx hZ e_27 A_31 (j := (1 : Int32)) hin_43 (g := (mkF m 52 #[.val (.ref t), .val (.int (1 : Int32)), .val (.int cc)] [(.int ((cc >>> ((8 : Int32) &&& 31)).toInt8.toInt32)), (.int (1 : Int32)), (.ref t)])) rfl rfl (hb hby d2_52)
  have N_44 := Fr.snoc X_39 N_23 hp1
  have V_45 : Arv Z h_38 t kt .byte (8 : Int32) [(.int (own_lo8z cc)), (.int (own_hi8 cc)), (.int y2), (.int y3), (.int y4), (.int y5), (.int y6), (.int y7)] (.int (0 : Int32)) := Arv.set A_31 q_32 S_33 M_34 H_35 U_36 (fits_nar_byte _) W_41 1 rfl (Nat.le_of_ble_eq_true rfl)
  have C_46 : Steps p.tables e below S0 (T_37.setTop (mkF m 53 #[.val (.ref t), .val (.int (1 : Int32)), .val (.int cc)] [])) := by
    refine C0.trans ?_
    refine st_4 _ ?_
    refine XS.ifYes X_2.here hx rfl (pc0 := 3) (pc' := 28) rfl (hb hby d2_3) rfl (by decide) (by decide) (by decide) ?_
    refine XS.iloadN X_2.here hx rfl (hb hby d2_28) rfl ?_
    refine XS.iconst X_2.here hx rfl (hb hby d2_29) ?_
    refine XS.ishl X_2.here hx rfl (hb hby d2_30) rfl ?_
    refine XS.istoreN X_2.here hx rfl (hb hby d2_31) rfl (l' := #[.val (.ref t), .val (.int (0 : Int32)), .val (.int cc)]) rfl ?_
    refine XS.aloadN X_2.here hx rfl (hb hby d2_32) rfl rfl ?_
    refine XS.iloadN X_2.here hx rfl (hb hby d2_33) rfl ?_
    show Steps p.tables e below (T_1.setTop (mkF m 34 #[.val (.ref t), .val (.int (0 : Int32)), .val (.int cc)] [(.int (0 : Int32)), (.ref t)])) _
    refine XS.iinc X_2.here hx rfl (hb hby d2_34) (x := (0 : Int32)) rfl (l' := #[.val (.ref t), .val (.int (1 : Int32)), .val (.int cc)]) rfl ?_
    refine XS.iloadN X_2.here hx rfl (hb hby d2_37) rfl ?_
    refine st_8 _ ?_
    refine XS.ishr X_6.here hx rfl (hb hby d2_41) rfl ?_
    refine XS.i2b X_6.here hx rfl (hb hby d2_42) rfl ?_
    refine st_21 _ ?_
    refine XS.aloadN X_18.here hx rfl (hb hby d2_44) rfl rfl ?_
    refine XS.iloadN X_18.here hx rfl (hb hby d2_45) rfl ?_
    show Steps p.tables e below (T_16.setTop (mkF m 46 #[.val (.ref t), .val (.int (1 : Int32)), .val (.int cc)] [(.int (1 : Int32)), (.ref t)])) _
    refine XS.iloadN X_18.here hx rfl (hb hby d2_46) rfl ?_
    refine st_28 _ ?_
    refine XS.ishr X_26.here hx rfl (hb hby d2_50) rfl ?_
    refine XS.i2b X_26.here hx rfl (hb hby d2_51) rfl ?_
    refine st_42 _ ?_
    exact Steps.refl _
  have K_47 : Keep h0 h_38 [t] := (((Keep.refl _ _).wr W_20 (Or.inl (List.mem_of_getElem? (i := 0) rfl))).wr W_41 (Or.inl (List.mem_of_getElem? (i := 0) rfl)))
  obtain ⟨fs, hr, hrun, hended, hW, hsame⟩ := X_39.leave (v := none) (fun _ => rfl)
  refine ⟨_, _, C_46.trans (X_39.returnOut hx Bd.returns (hb hby d2_53) hr), hrun, hended, _, _, rfl, ?_, ⟨_, rfl⟩, hW, hsame.mono (by decide) (by decide)⟩
  show Q_put_4_0 Z G1 t kt cc y0 y1 y2 y3 y4 y5 y6 y7 h0 n0 (none) T_37.heap _
  rw [e_40]
  exact ⟨rfl, N_44, K_47, V_45⟩
abbrev R_put_4_1 : Room := { frames := 0, cells := 0, slots := 0, locals := 0 }
def Q_put_4_1 (Z : State) (G1 : Int32) (t : Addr) (kt : ClassId) (cc : Int32) (y0 : Int32) (y1 : Int32) (y2 : Int32) (y3 : Int32) (y4 : Int32) (y5 : Int32) (y6 : Int32) (y7 : Int32) (h0 : Heap) (n0 : Nat) (v : Option Value) (h : Heap) (L : List Loc) : Prop := (v = none ∧ Fr n0 L ∧ Keep h0 h [t] ∧ (Arv Z h t kt .byte (8 : Int32) [(.int y0), (.int y1), (.int (own_lo8z cc)), (.int (own_hi8 cc)), (.int y4), (.int y5), (.int y6), (.int y7)] (.int (0 : Int32))))
set_option maxRecDepth 65536 in
set_option maxHeartbeats 40000000 in
theorem rm_put_4_1 (l : Launch) (Z : State) (a0 : Array Value) (hw : ∀ d ∈ tables_1, d.before a0 Z = true) (ws : List Jvm.Cond) (G1 : Int32) (HG : own_G l Z a0 G1) (h0 : Heap) (n0 : Nat) (X00 : Old Z n0 h0) (t : Addr) (kt : ClassId) (cc : Int32) (y0 : Int32) (y1 : Int32) (y2 : Int32) (y3 : Int32) (y4 : Int32) (y5 : Int32) (y6 : Int32) (y7 : Int32) (hp0 : Arv Z h0 t kt .byte (8 : Int32) [(.int y0), (.int y1), (.int y2), (.int y3), (.int y4), (.int y5), (.int y6), (.int y7)] (.int (0 : Int32))) (hp1 : n0 ≤ t) :
    own_CP l Z M24 jdk_52_method_4_code 3 none ws R_put_4_1 #[(.ref t), (.int (1 : Int32)), (.int cc)] h0 (Q_put_4_1 Z G1 t kt cc y0 y1 y2 y3 y4 y5 y6 y7 h0 n0) := by
  refine own_P (plainFor_of_name pn_2) ?_
  intro p e s m below meth c s₁ S0 Bd hZ hh hx hby hml hown hnm X0 e0 hS0d
  obtain ⟨O1, P1, OAD, OHI, OLO⟩ := id HG
  have N0 := Fr.nil n0
  have C0 : Steps p.tables e below S0 (s₁.setTop (mkF m 0 #[.val (.ref t), .val (.int (1 : Int32)), .val (.int cc)] [])) := by rw [hS0d]; exact castTop (ef_25 m t (1 : Int32) cc) (Steps.refl _)
  obtain ⟨T_1, X_2, e_3, st_4⟩ := getS X0 hx hZ (host := "") hown (w81 hw) Via.refl e0 (OAD.ext X00.2) (g := (mkF m 0 #[.val (.ref t), .val (.int (1 : Int32)), .val (.int cc)] [])) rfl (hb hby d2_0)
  obtain ⟨T_5, X_6, e_7, st_8⟩ := getS X_2 hx hZ (host := "") hown (w82 hw) Via.refl e_3 (OHI.ext X00.2) (g := (mkF m 38 #[.val (.ref t), .val (.int (3 : Int32)), .val (.int cc)] [(.int cc), (.int (2 : Int32)), (.ref t)])) rfl (hb hby d2_38)
  obtain ⟨c_9, A_10, q_11, S_12, M_13, H_14, U_15⟩ := id hp0
  have hin_22 : ¬ ((2 : Int32) < 0 ∨ c_9.slots.size ≤ (2 : Int32).toNatClampNeg) := inb_of S_12 ⟨(by decide : ¬ ((2 : Int32) < (0 : Int32))), (by decide : (2 : Int32) < (8 : Int32))⟩
  obtain ⟨T_16, h_17, X_18, e_19, W_20, st_21⟩ := stB X_6 hx hZ e_7 A_10 (j := (2 : Int32)) hin_22 (g := (mkF m 43 #[.val (.ref t), .val (.int (3 : Int32)), .val (.int cc)] [(.int ((cc >>> ((0 : Int32) &&& 31)).toInt8.toInt32)), (.int (2 : Int32)), (.ref t)])) rfl rfl (hb hby d2_43)
  have N_23 := Fr.snoc X_18 N0 hp1
  have V_24 : Arv Z h_17 t kt .byte (8 : Int32) [(.int y0), (.int y1), (.int (own_lo8z cc)), (.int y3), (.int y4), (.int y5), (.int y6), (.int y7)] (.int (0 : Int32)) := Arv.set A_10 q_11 S_12 M_13 H_14 U_15 (fits_nar_byte _) W_20 2 rfl (Nat.le_of_ble_eq_true rfl)
  have O_29 : Old Z n0 h_17 := (X00.wr W_20 hp1)
  obtain ⟨T_25, X_26, e_27, st_28⟩ := getS X_18 hx hZ (host := "") hown (w83 hw) Via.refl e_19 (OLO.ext O_29.2) (g := (mkF m 47 #[.val (.ref t), .val (.int (3 : Int32)), .val (.int cc)] [(.int cc), (.int (3 : Int32)), (.ref t)])) rfl (hb hby d2_47)
  obtain ⟨c_30, A_31, q_32, S_33, M_34, H_35, U_36⟩ := id V_24
  have hin_43 : ¬ ((3 : Int32) < 0 ∨ c_30.slots.size ≤ (3 : Int32).toNatClampNeg) := inb_of S_33 ⟨(by decide : ¬ ((3 : Int32) < (0 : Int32))), (by decide : (3 : Int32) < (8 : Int32))⟩
  obtain ⟨T_37, h_38, X_39, e_40, W_41, st_42⟩ := stB X_26 hx hZ e_27 A_31 (j := (3 : Int32)) hin_43 (g := (mkF m 52 #[.val (.ref t), .val (.int (3 : Int32)), .val (.int cc)] [(.int ((cc >>> ((8 : Int32) &&& 31)).toInt8.toInt32)), (.int (3 : Int32)), (.ref t)])) rfl rfl (hb hby d2_52)
  have N_44 := Fr.snoc X_39 N_23 hp1
  have V_45 : Arv Z h_38 t kt .byte (8 : Int32) [(.int y0), (.int y1), (.int (own_lo8z cc)), (.int (own_hi8 cc)), (.int y4), (.int y5), (.int y6), (.int y7)] (.int (0 : Int32)) := Arv.set A_31 q_32 S_33 M_34 H_35 U_36 (fits_nar_byte _) W_41 3 rfl (Nat.le_of_ble_eq_true rfl)
  have C_46 : Steps p.tables e below S0 (T_37.setTop (mkF m 53 #[.val (.ref t), .val (.int (3 : Int32)), .val (.int cc)] [])) := by
    refine C0.trans ?_
    refine st_4 _ ?_
    refine XS.ifYes X_2.here hx rfl (pc0 := 3) (pc' := 28) rfl (hb hby d2_3) rfl (by decide) (by decide) (by decide) ?_
    refine XS.iloadN X_2.here hx rfl (hb hby d2_28) rfl ?_
    refine XS.iconst X_2.here hx rfl (hb hby d2_29) ?_
    refine XS.ishl X_2.here hx rfl (hb hby d2_30) rfl ?_
    refine XS.istoreN X_2.here hx rfl (hb hby d2_31) rfl (l' := #[.val (.ref t), .val (.int (2 : Int32)), .val (.int cc)]) rfl ?_
    refine XS.aloadN X_2.here hx rfl (hb hby d2_32) rfl rfl ?_
    refine XS.iloadN X_2.here hx rfl (hb hby d2_33) rfl ?_
    show Steps p.tables e below (T_1.setTop (mkF m 34 #[.val (.ref t), .val (.int (2 : Int32)), .val (.int cc)] [(.int (2 : Int32)), (.ref t)])) _
    refine XS.iinc X_2.here hx rfl (hb hby d2_34) (x := (2 : Int32)) rfl (l' := #[.val (.ref t), .val (.int (3 : Int32)), .val (.int cc)]) rfl ?_
    refine XS.iloadN X_2.here hx rfl (hb hby d2_37) rfl ?_
    refine st_8 _ ?_
    refine XS.ishr X_6.here hx rfl (hb hby d2_41) rfl ?_
    refine XS.i2b X_6.here hx rfl (hb hby d2_42) rfl ?_
    refine st_21 _ ?_
    refine XS.aloadN X_18.here hx rfl (hb hby d2_44) rfl rfl ?_
    refine XS.iloadN X_18.here hx rfl (hb hby d2_45) rfl ?_
    show Steps p.tables e below (T_16.setTop (mkF m 46 #[.val (.ref t), .val (.int (3 : Int32)), .val (.int cc)] [(.int (3 : Int32)), (.ref t)])) _
    refine XS.iloadN X_18.here hx rfl (hb hby d2_46) rfl ?_
    refine st_28 _ ?_
    refine XS.ishr X_26.here hx rfl (hb hby d2_50) rfl ?_
    refine XS.i2b X_26.here hx rfl (hb hby d2_51) rfl ?_
    refine st_42 _ ?_
    exact Steps.refl _
  have K_47 : Keep h0 h_38 [t] := (((Keep.refl _ _).wr W_20 (Or.inl (List.mem_of_getElem? (i := 0) rfl))).wr W_41 (Or.inl (List.mem_of_getElem? (i := 0) rfl)))
  obtain ⟨fs, hr, hrun, hended, hW, hsame⟩ := X_39.leave (v := none) (fun _ => rfl)
  refine ⟨_, _, C_46.trans (X_39.returnOut hx Bd.returns (hb hby d2_53) hr), hrun, hended, _, _, rfl, ?_, ⟨_, rfl⟩, hW, hsame.mono (by decide) (by decide)⟩
  show Q_put_4_1 Z G1 t kt cc y0 y1 y2 y3 y4 y5 y6 y7 h0 n0 (none) T_37.heap _
  rw [e_40]
  exact ⟨rfl, N_44, K_47, V_45⟩
abbrev R_put_4_2 : Room := { frames := 0, cells := 0, slots := 0, locals := 0 }
def Q_put_4_2 (Z : State) (G1 : Int32) (t : Addr) (kt : ClassId) (cc : Int32) (y0 : Int32) (y1 : Int32) (y2 : Int32) (y3 : Int32) (y4 : Int32) (y5 : Int32) (y6 : Int32) (y7 : Int32) (h0 : Heap) (n0 : Nat) (v : Option Value) (h : Heap) (L : List Loc) : Prop := (v = none ∧ Fr n0 L ∧ Keep h0 h [t] ∧ (Arv Z h t kt .byte (8 : Int32) [(.int y0), (.int y1), (.int y2), (.int y3), (.int (own_lo8z cc)), (.int (own_hi8 cc)), (.int y6), (.int y7)] (.int (0 : Int32))))
set_option maxRecDepth 65536 in
set_option maxHeartbeats 40000000 in
theorem rm_put_4_2 (l : Launch) (Z : State) (a0 : Array Value) (hw : ∀ d ∈ tables_1, d.before a0 Z = true) (ws : List Jvm.Cond) (G1 : Int32) (HG : own_G l Z a0 G1) (h0 : Heap) (n0 : Nat) (X00 : Old Z n0 h0) (t : Addr) (kt : ClassId) (cc : Int32) (y0 : Int32) (y1 : Int32) (y2 : Int32) (y3 : Int32) (y4 : Int32) (y5 : Int32) (y6 : Int32) (y7 : Int32) (hp0 : Arv Z h0 t kt .byte (8 : Int32) [(.int y0), (.int y1), (.int y2), (.int y3), (.int y4), (.int y5), (.int y6), (.int y7)] (.int (0 : Int32))) (hp1 : n0 ≤ t) :
    own_CP l Z M24 jdk_52_method_4_code 3 none ws R_put_4_2 #[(.ref t), (.int (2 : Int32)), (.int cc)] h0 (Q_put_4_2 Z G1 t kt cc y0 y1 y2 y3 y4 y5 y6 y7 h0 n0) := by
  refine own_P (plainFor_of_name pn_2) ?_
  intro p e s m below meth c s₁ S0 Bd hZ hh hx hby hml hown hnm X0 e0 hS0d
  obtain ⟨O1, P1, OAD, OHI, OLO⟩ := id HG
  have N0 := Fr.nil n0
  have C0 : Steps p.tables e below S0 (s₁.setTop (mkF m 0 #[.val (.ref t), .val (.int (2 : Int32)), .val (.int cc)] [])) := by rw [hS0d]; exact castTop (ef_25 m t (2 : Int32) cc) (Steps.refl _)
  obtain ⟨T_1, X_2, e_3, st_4⟩ := getS X0 hx hZ (host := "") hown (w81 hw) Via.refl e0 (OAD.ext X00.2) (g := (mkF m 0 #[.val (.ref t), .val (.int (2 : Int32)), .val (.int cc)] [])) rfl (hb hby d2_0)
  obtain ⟨T_5, X_6, e_7, st_8⟩ := getS X_2 hx hZ (host := "") hown (w82 hw) Via.refl e_3 (OHI.ext X00.2) (g := (mkF m 38 #[.val (.ref t), .val (.int (5 : Int32)), .val (.int cc)] [(.int cc), (.int (4 : Int32)), (.ref t)])) rfl (hb hby d2_38)
  obtain ⟨c_9, A_10, q_11, S_12, M_13, H_14, U_15⟩ := id hp0
  have hin_22 : ¬ ((4 : Int32) < 0 ∨ c_9.slots.size ≤ (4 : Int32).toNatClampNeg) := inb_of S_12 ⟨(by decide : ¬ ((4 : Int32) < (0 : Int32))), (by decide : (4 : Int32) < (8 : Int32))⟩
  obtain ⟨T_16, h_17, X_18, e_19, W_20, st_21⟩ := stB X_6 hx hZ e_7 A_10 (j := (4 : Int32)) hin_22 (g := (mkF m 43 #[.val (.ref t), .val (.int (5 : Int32)), .val (.int cc)] [(.int ((cc >>> ((0 : Int32) &&& 31)).toInt8.toInt32)), (.int (4 : Int32)), (.ref t)])) rfl rfl (hb hby d2_43)
  have N_23 := Fr.snoc X_18 N0 hp1
  have V_24 : Arv Z h_17 t kt .byte (8 : Int32) [(.int y0), (.int y1), (.int y2), (.int y3), (.int (own_lo8z cc)), (.int y5), (.int y6), (.int y7)] (.int (0 : Int32)) := Arv.set A_10 q_11 S_12 M_13 H_14 U_15 (fits_nar_byte _) W_20 4 rfl (Nat.le_of_ble_eq_true rfl)
  have O_29 : Old Z n0 h_17 := (X00.wr W_20 hp1)
  obtain ⟨T_25, X_26, e_27, st_28⟩ := getS X_18 hx hZ (host := "") hown (w83 hw) Via.refl e_19 (OLO.ext O_29.2) (g := (mkF m 47 #[.val (.ref t), .val (.int (5 : Int32)), .val (.int cc)] [(.int cc), (.int (5 : Int32)), (.ref t)])) rfl (hb hby d2_47)
  obtain ⟨c_30, A_31, q_32, S_33, M_34, H_35, U_36⟩ := id V_24
  have hin_43 : ¬ ((5 : Int32) < 0 ∨ c_30.slots.size ≤ (5 : Int32).toNatClampNeg) := inb_of S_33 ⟨(by decide : ¬ ((5 : Int32) < (0 : Int32))), (by decide : (5 : Int32) < (8 : Int32))⟩
  obtain ⟨T_37, h_38, X_39, e_40, W_41, st_42⟩ := stB X_26 hx hZ e_27 A_31 (j := (5 : Int32)) hin_43 (g := (mkF m 52 #[.val (.ref t), .val (.int (5 : Int32)), .val (.int cc)] [(.int ((cc >>> ((8 : Int32) &&& 31)).toInt8.toInt32)), (.int (5 : Int32)), (.ref t)])) rfl rfl (hb hby d2_52)
  have N_44 := Fr.snoc X_39 N_23 hp1
  have V_45 : Arv Z h_38 t kt .byte (8 : Int32) [(.int y0), (.int y1), (.int y2), (.int y3), (.int (own_lo8z cc)), (.int (own_hi8 cc)), (.int y6), (.int y7)] (.int (0 : Int32)) := Arv.set A_31 q_32 S_33 M_34 H_35 U_36 (fits_nar_byte _) W_41 5 rfl (Nat.le_of_ble_eq_true rfl)
  have C_46 : Steps p.tables e below S0 (T_37.setTop (mkF m 53 #[.val (.ref t), .val (.int (5 : Int32)), .val (.int cc)] [])) := by
    refine C0.trans ?_
    refine st_4 _ ?_
    refine XS.ifYes X_2.here hx rfl (pc0 := 3) (pc' := 28) rfl (hb hby d2_3) rfl (by decide) (by decide) (by decide) ?_
    refine XS.iloadN X_2.here hx rfl (hb hby d2_28) rfl ?_
    refine XS.iconst X_2.here hx rfl (hb hby d2_29) ?_
    refine XS.ishl X_2.here hx rfl (hb hby d2_30) rfl ?_
    refine XS.istoreN X_2.here hx rfl (hb hby d2_31) rfl (l' := #[.val (.ref t), .val (.int (4 : Int32)), .val (.int cc)]) rfl ?_
    refine XS.aloadN X_2.here hx rfl (hb hby d2_32) rfl rfl ?_
    refine XS.iloadN X_2.here hx rfl (hb hby d2_33) rfl ?_
    show Steps p.tables e below (T_1.setTop (mkF m 34 #[.val (.ref t), .val (.int (4 : Int32)), .val (.int cc)] [(.int (4 : Int32)), (.ref t)])) _
    refine XS.iinc X_2.here hx rfl (hb hby d2_34) (x := (4 : Int32)) rfl (l' := #[.val (.ref t), .val (.int (5 : Int32)), .val (.int cc)]) rfl ?_
    refine XS.iloadN X_2.here hx rfl (hb hby d2_37) rfl ?_
    refine st_8 _ ?_
    refine XS.ishr X_6.here hx rfl (hb hby d2_41) rfl ?_
    refine XS.i2b X_6.here hx rfl (hb hby d2_42) rfl ?_
    refine st_21 _ ?_
    refine XS.aloadN X_18.here hx rfl (hb hby d2_44) rfl rfl ?_
    refine XS.iloadN X_18.here hx rfl (hb hby d2_45) rfl ?_
    show Steps p.tables e below (T_16.setTop (mkF m 46 #[.val (.ref t), .val (.int (5 : Int32)), .val (.int cc)] [(.int (5 : Int32)), (.ref t)])) _
    refine XS.iloadN X_18.here hx rfl (hb hby d2_46) rfl ?_
    refine st_28 _ ?_
    refine XS.ishr X_26.here hx rfl (hb hby d2_50) rfl ?_
    refine XS.i2b X_26.here hx rfl (hb hby d2_51) rfl ?_
    refine st_42 _ ?_
    exact Steps.refl _
  have K_47 : Keep h0 h_38 [t] := (((Keep.refl _ _).wr W_20 (Or.inl (List.mem_of_getElem? (i := 0) rfl))).wr W_41 (Or.inl (List.mem_of_getElem? (i := 0) rfl)))
  obtain ⟨fs, hr, hrun, hended, hW, hsame⟩ := X_39.leave (v := none) (fun _ => rfl)
  refine ⟨_, _, C_46.trans (X_39.returnOut hx Bd.returns (hb hby d2_53) hr), hrun, hended, _, _, rfl, ?_, ⟨_, rfl⟩, hW, hsame.mono (by decide) (by decide)⟩
  show Q_put_4_2 Z G1 t kt cc y0 y1 y2 y3 y4 y5 y6 y7 h0 n0 (none) T_37.heap _
  rw [e_40]
  exact ⟨rfl, N_44, K_47, V_45⟩
abbrev R_put_4_3 : Room := { frames := 0, cells := 0, slots := 0, locals := 0 }
def Q_put_4_3 (Z : State) (G1 : Int32) (t : Addr) (kt : ClassId) (cc : Int32) (y0 : Int32) (y1 : Int32) (y2 : Int32) (y3 : Int32) (y4 : Int32) (y5 : Int32) (y6 : Int32) (y7 : Int32) (h0 : Heap) (n0 : Nat) (v : Option Value) (h : Heap) (L : List Loc) : Prop := (v = none ∧ Fr n0 L ∧ Keep h0 h [t] ∧ (Arv Z h t kt .byte (8 : Int32) [(.int y0), (.int y1), (.int y2), (.int y3), (.int y4), (.int y5), (.int (own_lo8z cc)), (.int (own_hi8 cc))] (.int (0 : Int32))))
set_option maxRecDepth 65536 in
set_option maxHeartbeats 40000000 in
theorem rm_put_4_3 (l : Launch) (Z : State) (a0 : Array Value) (hw : ∀ d ∈ tables_1, d.before a0 Z = true) (ws : List Jvm.Cond) (G1 : Int32) (HG : own_G l Z a0 G1) (h0 : Heap) (n0 : Nat) (X00 : Old Z n0 h0) (t : Addr) (kt : ClassId) (cc : Int32) (y0 : Int32) (y1 : Int32) (y2 : Int32) (y3 : Int32) (y4 : Int32) (y5 : Int32) (y6 : Int32) (y7 : Int32) (hp0 : Arv Z h0 t kt .byte (8 : Int32) [(.int y0), (.int y1), (.int y2), (.int y3), (.int y4), (.int y5), (.int y6), (.int y7)] (.int (0 : Int32))) (hp1 : n0 ≤ t) :
    own_CP l Z M24 jdk_52_method_4_code 3 none ws R_put_4_3 #[(.ref t), (.int (3 : Int32)), (.int cc)] h0 (Q_put_4_3 Z G1 t kt cc y0 y1 y2 y3 y4 y5 y6 y7 h0 n0) := by
  refine own_P (plainFor_of_name pn_2) ?_
  intro p e s m below meth c s₁ S0 Bd hZ hh hx hby hml hown hnm X0 e0 hS0d
  obtain ⟨O1, P1, OAD, OHI, OLO⟩ := id HG
  have N0 := Fr.nil n0
  have C0 : Steps p.tables e below S0 (s₁.setTop (mkF m 0 #[.val (.ref t), .val (.int (3 : Int32)), .val (.int cc)] [])) := by rw [hS0d]; exact castTop (ef_25 m t (3 : Int32) cc) (Steps.refl _)
  obtain ⟨T_1, X_2, e_3, st_4⟩ := getS X0 hx hZ (host := "") hown (w81 hw) Via.refl e0 (OAD.ext X00.2) (g := (mkF m 0 #[.val (.ref t), .val (.int (3 : Int32)), .val (.int cc)] [])) rfl (hb hby d2_0)
  obtain ⟨T_5, X_6, e_7, st_8⟩ := getS X_2 hx hZ (host := "") hown (w82 hw) Via.refl e_3 (OHI.ext X00.2) (g := (mkF m 38 #[.val (.ref t), .val (.int (7 : Int32)), .val (.int cc)] [(.int cc), (.int (6 : Int32)), (.ref t)])) rfl (hb hby d2_38)
  obtain ⟨c_9, A_10, q_11, S_12, M_13, H_14, U_15⟩ := id hp0
  have hin_22 : ¬ ((6 : Int32) < 0 ∨ c_9.slots.size ≤ (6 : Int32).toNatClampNeg) := inb_of S_12 ⟨(by decide : ¬ ((6 : Int32) < (0 : Int32))), (by decide : (6 : Int32) < (8 : Int32))⟩
  obtain ⟨T_16, h_17, X_18, e_19, W_20, st_21⟩ := stB X_6 hx hZ e_7 A_10 (j := (6 : Int32)) hin_22 (g := (mkF m 43 #[.val (.ref t), .val (.int (7 : Int32)), .val (.int cc)] [(.int ((cc >>> ((0 : Int32) &&& 31)).toInt8.toInt32)), (.int (6 : Int32)), (.ref t)])) rfl rfl (hb hby d2_43)
  have N_23 := Fr.snoc X_18 N0 hp1
  have V_24 : Arv Z h_17 t kt .byte (8 : Int32) [(.int y0), (.int y1), (.int y2), (.int y3), (.int y4), (.int y5), (.int (own_lo8z cc)), (.int y7)] (.int (0 : Int32)) := Arv.set A_10 q_11 S_12 M_13 H_14 U_15 (fits_nar_byte _) W_20 6 rfl (Nat.le_of_ble_eq_true rfl)
  have O_29 : Old Z n0 h_17 := (X00.wr W_20 hp1)
  obtain ⟨T_25, X_26, e_27, st_28⟩ := getS X_18 hx hZ (host := "") hown (w83 hw) Via.refl e_19 (OLO.ext O_29.2) (g := (mkF m 47 #[.val (.ref t), .val (.int (7 : Int32)), .val (.int cc)] [(.int cc), (.int (7 : Int32)), (.ref t)])) rfl (hb hby d2_47)
  obtain ⟨c_30, A_31, q_32, S_33, M_34, H_35, U_36⟩ := id V_24
  have hin_43 : ¬ ((7 : Int32) < 0 ∨ c_30.slots.size ≤ (7 : Int32).toNatClampNeg) := inb_of S_33 ⟨(by decide : ¬ ((7 : Int32) < (0 : Int32))), (by decide : (7 : Int32) < (8 : Int32))⟩
  obtain ⟨T_37, h_38, X_39, e_40, W_41, st_42⟩ := stB X_26 hx hZ e_27 A_31 (j := (7 : Int32)) hin_43 (g := (mkF m 52 #[.val (.ref t), .val (.int (7 : Int32)), .val (.int cc)] [(.int ((cc >>> ((8 : Int32) &&& 31)).toInt8.toInt32)), (.int (7 : Int32)), (.ref t)])) rfl rfl (hb hby d2_52)
  have N_44 := Fr.snoc X_39 N_23 hp1
  have V_45 : Arv Z h_38 t kt .byte (8 : Int32) [(.int y0), (.int y1), (.int y2), (.int y3), (.int y4), (.int y5), (.int (own_lo8z cc)), (.int (own_hi8 cc))] (.int (0 : Int32)) := Arv.set A_31 q_32 S_33 M_34 H_35 U_36 (fits_nar_byte _) W_41 7 rfl (Nat.le_of_ble_eq_true rfl)
  have C_46 : Steps p.tables e below S0 (T_37.setTop (mkF m 53 #[.val (.ref t), .val (.int (7 : Int32)), .val (.int cc)] [])) := by
    refine C0.trans ?_
    refine st_4 _ ?_
    refine XS.ifYes X_2.here hx rfl (pc0 := 3) (pc' := 28) rfl (hb hby d2_3) rfl (by decide) (by decide) (by decide) ?_
    refine XS.iloadN X_2.here hx rfl (hb hby d2_28) rfl ?_
    refine XS.iconst X_2.here hx rfl (hb hby d2_29) ?_
    refine XS.ishl X_2.here hx rfl (hb hby d2_30) rfl ?_
    refine XS.istoreN X_2.here hx rfl (hb hby d2_31) rfl (l' := #[.val (.ref t), .val (.int (6 : Int32)), .val (.int cc)]) rfl ?_
    refine XS.aloadN X_2.here hx rfl (hb hby d2_32) rfl rfl ?_
    refine XS.iloadN X_2.here hx rfl (hb hby d2_33) rfl ?_
    show Steps p.tables e below (T_1.setTop (mkF m 34 #[.val (.ref t), .val (.int (6 : Int32)), .val (.int cc)] [(.int (6 : Int32)), (.ref t)])) _
    refine XS.iinc X_2.here hx rfl (hb hby d2_34) (x := (6 : Int32)) rfl (l' := #[.val (.ref t), .val (.int (7 : Int32)), .val (.int cc)]) rfl ?_
    refine XS.iloadN X_2.here hx rfl (hb hby d2_37) rfl ?_
    refine st_8 _ ?_
    refine XS.ishr X_6.here hx rfl (hb hby d2_41) rfl ?_
    refine XS.i2b X_6.here hx rfl (hb hby d2_42) rfl ?_
    refine st_21 _ ?_
    refine XS.aloadN X_18.here hx rfl (hb hby d2_44) rfl rfl ?_
    refine XS.iloadN X_18.here hx rfl (hb hby d2_45) rfl ?_
    show Steps p.tables e below (T_16.setTop (mkF m 46 #[.val (.ref t), .val (.int (7 : Int32)), .val (.int cc)] [(.int (7 : Int32)), (.ref t)])) _
    refine XS.iloadN X_18.here hx rfl (hb hby d2_46) rfl ?_
    refine st_28 _ ?_
    refine XS.ishr X_26.here hx rfl (hb hby d2_50) rfl ?_
    refine XS.i2b X_26.here hx rfl (hb hby d2_51) rfl ?_
    refine st_42 _ ?_
    exact Steps.refl _
  have K_47 : Keep h0 h_38 [t] := (((Keep.refl _ _).wr W_20 (Or.inl (List.mem_of_getElem? (i := 0) rfl))).wr W_41 (Or.inl (List.mem_of_getElem? (i := 0) rfl)))
  obtain ⟨fs, hr, hrun, hended, hW, hsame⟩ := X_39.leave (v := none) (fun _ => rfl)
  refine ⟨_, _, C_46.trans (X_39.returnOut hx Bd.returns (hb hby d2_53) hr), hrun, hended, _, _, rfl, ?_, ⟨_, rfl⟩, hW, hsame.mono (by decide) (by decide)⟩
  show Q_put_4_3 Z G1 t kt cc y0 y1 y2 y3 y4 y5 y6 y7 h0 n0 (none) T_37.heap _
  rw [e_40]
  exact ⟨rfl, N_44, K_47, V_45⟩
abbrev R_tob_4 : Room := { frames := 2, cells := 1, slots := 8, locals := 24 }
def Q_tob_4 (Z : State) (G1 : Int32) (b : Addr) (k : ClassId) (c0 : Int32) (c1 : Int32) (c2 : Int32) (c3 : Int32) (h0 : Heap) (n0 : Nat) (v : Option Value) (h : Heap) (L : List Loc) : Prop := (∃ t : Addr, ∃ kt : ClassId, v = some (.ref t) ∧ Fr n0 L ∧ Keep h0 h [] ∧ (h0.size ≤ t) ∧ (Arv Z h t kt .byte (8 : Int32) [(.int (own_lo8z c0)), (.int (own_hi8 c0)), (.int (own_lo8z c1)), (.int (own_hi8 c1)), (.int (own_lo8z c2)), (.int (own_hi8 c2)), (.int (own_lo8z c3)), (.int (own_hi8 c3))] (.int (0 : Int32))))
set_option maxRecDepth 65536 in
set_option maxHeartbeats 40000000 in
theorem rm_tob_4 (l : Launch) (Z : State) (a0 : Array Value) (hw : ∀ d ∈ tables_1, d.before a0 Z = true) (ws : List Jvm.Cond) (G1 : Int32) (HG : own_G l Z a0 G1) (h0 : Heap) (n0 : Nat) (X00 : Old Z n0 h0) (b : Addr) (k : ClassId) (c0 : Int32) (c1 : Int32) (c2 : Int32) (c3 : Int32) (hp0 : Arv Z h0 b k .char (4 : Int32) [(.int c0), (.int c1), (.int c2), (.int c3)] (.int (0 : Int32))) :
    own_CP l Z M51 jdk_52_method_14_code 5 (some (.array .byte)) ws R_tob_4 #[(.ref b), (.int (0 : Int32)), (.int (4 : Int32))] h0 (Q_tob_4 Z G1 b k c0 c1 c2 c3 h0 n0) := by
  refine own_P (plainFor_of_name pn_2) ?_
  intro p e s m below meth c s₁ S0 Bd hZ hh hx hby hml hown hnm X0 e0 hS0d
  obtain ⟨O1, P1, OAD, OHI, OLO⟩ := id HG
  have N0 := Fr.nil n0
  have C0 : Steps p.tables e below S0 (s₁.setTop (mkF m 0 #[.val (.ref b), .val (.int (0 : Int32)), .val (.int (4 : Int32)), .unset, .unset] [])) := by rw [hS0d]; exact castTop (ef_52 m b (0 : Int32) (4 : Int32)) (Steps.refl _)
  obtain ⟨_, _, ⟨T_1, L_1, k_1, n_1⟩, -, X_1, ⟨Lc_1, hQ_1, l_1, y_1, z_1⟩, st_1⟩ := Jvm.LawKit.callS X0 hx (y := M13) hown (mvT hZ (w71 hw)) (mvT hZ (w72 hw)) (mvT hZ (w22 hw)) (mvT hZ (w73 hw)) (by decide) (backOf (W := 0) (rm_nbf_4 l Z a0 hw [] G1 HG h0 n0 X00  ) hZ (w73 hw) (w22 hw) (by decide) (by decide)) (g := (mkF m 1 #[.val (.ref b), .val (.int (0 : Int32)), .val (.int (4 : Int32)), .unset, .unset] [(.int (4 : Int32))])) rfl (by rw [hml]; rfl) (argsL := [(.int (4 : Int32))]) (rest := []) (lenOf pd_55 rfl) rfl (by show 2 * 0 + _ ≤ _; exact Nat.le_of_eq rfl) (hb hby d3_1) (fun _ _ => ⟨rfl, e0, (by decide : 0 + 1 ≤ _), (by decide : 0 + 8 ≤ _)⟩)
  dsimp only [Pt.U, Pt.locs, Pt.cells, Pt.slots] at X_1 l_1 y_1 z_1 st_1 hQ_1
  subst l_1 y_1 z_1
  obtain ⟨a_2, k_3, rfl, N_4, K_5, g_6, g_7⟩ := hQ_1
  have N_8 := Fr.app N0 N_4
  have V_9 : Arv Z T_1.heap b k .char (4 : Int32) [(.int c0), (.int c1), (.int c2), (.int c3)] (.int (0 : Int32)) := (hp0.keep K_5 nin0)
  obtain ⟨c_10, A_11, q_12, S_13, M_14, H_15, U_16⟩ := id V_9
  have hin_17 : ¬ ((0 : Int32) < 0 ∨ c_10.slots.size ≤ (0 : Int32).toNatClampNeg) := inb_of S_13 ⟨(by decide : ¬ ((0 : Int32) < (0 : Int32))), (by decide : (0 : Int32) < (4 : Int32))⟩
  have hat_18 : c_10.slots[(0 : Int32).toNatClampNeg]? = some (.int c0) := Has.at H_15 hin_17 rfl
  have O_19 : Old Z n0 T_1.heap := (X00.keep K_5 all0)
  obtain ⟨_, _, ⟨T_20, L_20, k_20, n_20⟩, -, X_20, ⟨Lc_20, hQ_20, l_20, y_20, z_20⟩, st_20⟩ := Jvm.LawKit.callS X_1 hx (y := M24) hown (mvT hZ (w78 hw)) (mvT hZ (w79 hw)) (mvT hZ (w22 hw)) (mvT hZ (w80 hw)) (by decide) (backOf (W := 0) (rm_put_4_0 l Z a0 hw [] G1 HG T_1.heap n0 O_19 a_2 k_3 c0 (0 : Int32) (0 : Int32) (0 : Int32) (0 : Int32) (0 : Int32) (0 : Int32) (0 : Int32) (0 : Int32) g_7 (Nat.le_trans (own_n0 X00) g_6)) hZ (w80 hw) (w22 hw) (by decide) (by decide)) (g := (mkF m 20 #[.val (.ref b), .val (.int (0 : Int32)), .val (.int (4 : Int32)), .val (.ref a_2), .val (.int (0 : Int32))] [(.int c0), (.int (0 : Int32)), (.ref a_2)])) rfl (by rw [hml]; rfl) (argsL := [(.ref a_2), (.int (0 : Int32)), (.int c0)]) (rest := []) (lenOf pd_71 rfl) rfl (by show 2 * 0 + _ ≤ _; exact Nat.le_of_eq rfl) (hb hby d3_20) (fun _ _ => ⟨rfl, rfl, (by decide : 1 + 0 ≤ _), (by decide : 8 + 0 ≤ _)⟩)
  dsimp only [Pt.U, Pt.locs, Pt.cells, Pt.slots] at X_20 l_20 y_20 z_20 st_20 hQ_20
  subst l_20 y_20 z_20
  obtain ⟨rfl, N_21, K_22, g_23⟩ := hQ_20
  have N_24 := Fr.app N_8 N_21
  have V_25 : Arv Z T_20.heap b k .char (4 : Int32) [(.int c0), (.int c1), (.int c2), (.int c3)] (.int (0 : Int32)) := (V_9.keep K_22 (ninS (Nat.ne_of_lt (Nat.lt_of_lt_of_le hp0.lt (Nat.le_trans (Nat.le_refl _) g_6))) nin0))
  obtain ⟨c_26, A_27, q_28, S_29, M_30, H_31, U_32⟩ := id V_25
  have hin_33 : ¬ ((1 : Int32) < 0 ∨ c_26.slots.size ≤ (1 : Int32).toNatClampNeg) := inb_of S_29 ⟨(by decide : ¬ ((1 : Int32) < (0 : Int32))), (by decide : (1 : Int32) < (4 : Int32))⟩
  have hat_34 : c_26.slots[(1 : Int32).toNatClampNeg]? = some (.int c1) := Has.at H_31 hin_33 rfl
  have O_35 : Old Z n0 T_20.heap := (O_19.keep K_22 (allS (Nat.le_trans (own_n0 X00) g_6) all0))
  obtain ⟨_, _, ⟨T_36, L_36, k_36, n_36⟩, -, X_36, ⟨Lc_36, hQ_36, l_36, y_36, z_36⟩, st_36⟩ := Jvm.LawKit.callS X_20 hx (y := M24) hown (mvT hZ (w78 hw)) (mvT hZ (w79 hw)) (mvT hZ (w22 hw)) (mvT hZ (w80 hw)) (by decide) (backOf (W := 0) (rm_put_4_1 l Z a0 hw [] G1 HG T_20.heap n0 O_35 a_2 k_3 c1 (own_lo8z c0) (own_hi8 c0) (0 : Int32) (0 : Int32) (0 : Int32) (0 : Int32) (0 : Int32) (0 : Int32) g_23 (Nat.le_trans (own_n0 X00) g_6)) hZ (w80 hw) (w22 hw) (by decide) (by decide)) (g := (mkF m 20 #[.val (.ref b), .val (.int (1 : Int32)), .val (.int (4 : Int32)), .val (.ref a_2), .val (.int (1 : Int32))] [(.int c1), (.int (1 : Int32)), (.ref a_2)])) rfl (by rw [hml]; rfl) (argsL := [(.ref a_2), (.int (1 : Int32)), (.int c1)]) (rest := []) (lenOf pd_71 rfl) rfl (by show 2 * 0 + _ ≤ _; exact Nat.le_of_eq rfl) (hb hby d3_20) (fun _ _ => ⟨rfl, rfl, (by decide : 1 + 0 ≤ _), (by decide : 8 + 0 ≤ _)⟩)
  dsimp only [Pt.U, Pt.locs, Pt.cells, Pt.slots] at X_36 l_36 y_36 z_36 st_36 hQ_36
  subst l_36 y_36 z_36
  obtain ⟨rfl, N_37, K_38, g_39⟩ := hQ_36
  have N_40 := Fr.app N_24 N_37
  have V_41 : Arv Z T_36.heap b k .char (4 : Int32) [(.int c0), (.int c1), (.int c2), (.int c3)] (.int (0 : Int32)) := (V_25.keep K_38 (ninS (Nat.ne_of_lt (Nat.lt_of_lt_of_le hp0.lt (Nat.le_trans (Nat.le_refl _) g_6))) nin0))
  obtain ⟨c_42, A_43, q_44, S_45, M_46, H_47, U_48⟩ := id V_41
  have hin_49 : ¬ ((2 : Int32) < 0 ∨ c_42.slots.size ≤ (2 : Int32).toNatClampNeg) := inb_of S_45 ⟨(by decide : ¬ ((2 : Int32) < (0 : Int32))), (by decide : (2 : Int32) < (4 : Int32))⟩
  have hat_50 : c_42.slots[(2 : Int32).toNatClampNeg]? = some (.int c2) := Has.at H_47 hin_49 rfl
  have O_51 : Old Z n0 T_36.heap := (O_35.keep K_38 (allS (Nat.le_trans (own_n0 X00) g_6) all0))
  obtain ⟨_, _, ⟨T_52, L_52, k_52, n_52⟩, -, X_52, ⟨Lc_52, hQ_52, l_52, y_52, z_52⟩, st_52⟩ := Jvm.LawKit.callS X_36 hx (y := M24) hown (mvT hZ (w78 hw)) (mvT hZ (w79 hw)) (mvT hZ (w22 hw)) (mvT hZ (w80 hw)) (by decide) (backOf (W := 0) (rm_put_4_2 l Z a0 hw [] G1 HG T_36.heap n0 O_51 a_2 k_3 c2 (own_lo8z c0) (own_hi8 c0) (own_lo8z c1) (own_hi8 c1) (0 : Int32) (0 : Int32) (0 : Int32) (0 : Int32) g_39 (Nat.le_trans (own_n0 X00) g_6)) hZ (w80 hw) (w22 hw) (by decide) (by decide)) (g := (mkF m 20 #[.val (.ref b), .val (.int (2 : Int32)), .val (.int (4 : Int32)), .val (.ref a_2), .val (.int (2 : Int32))] [(.int c2), (.int (2 : Int32)), (.ref a_2)])) rfl (by rw [hml]; rfl) (argsL := [(.ref a_2), (.int (2 : Int32)), (.int c2)]) (rest := []) (lenOf pd_71 rfl) rfl (by show 2 * 0 + _ ≤ _; exact Nat.le_of_eq rfl) (hb hby d3_20) (fun _ _ => ⟨rfl, rfl, (by decide : 1 + 0 ≤ _), (by decide : 8 + 0 ≤ _)⟩)
  dsimp only [Pt.U, Pt.locs, Pt.cells, Pt.slots] at X_52 l_52 y_52 z_52 st_52 hQ_52
  subst l_52 y_52 z_52
  obtain ⟨rfl, N_53, K_54, g_55⟩ := hQ_52
  have N_56 := Fr.app N_40 N_53
  have V_57 : Arv Z T_52.heap b k .char (4 : Int32) [(.int c0), (.int c1), (.int c2), (.int c3)] (.int (0 : Int32)) := (V_41.keep K_54 (ninS (Nat.ne_of_lt (Nat.lt_of_lt_of_le hp0.lt (Nat.le_trans (Nat.le_refl _) g_6))) nin0))
  obtain ⟨c_58, A_59, q_60, S_61, M_62, H_63, U_64⟩ := id V_57
  have hin_65 : ¬ ((3 : Int32) < 0 ∨ c_58.slots.size ≤ (3 : Int32).toNatClampNeg) := inb_of S_61 ⟨(by decide : ¬ ((3 : Int32) < (0 : Int32))), (by decide : (3 : Int32) < (4 : Int32))⟩
  have hat_66 : c_58.slots[(3 : Int32).toNatClampNeg]? = some (.int c3) := Has.at H_63 hin_65 rfl
  have O_67 : Old Z n0 T_52.heap := (O_51.keep K_54 (allS (Nat.le_trans (own_n0 X00) g_6) all0))
  obtain ⟨_, _, ⟨T_68, L_68, k_68, n_68⟩, -, X_68, ⟨Lc_68, hQ_68, l_68, y_68, z_68⟩, st_68⟩ := Jvm.LawKit.callS X_52 hx (y := M24) hown (mvT hZ (w78 hw)) (mvT hZ (w79 hw)) (mvT hZ (w22 hw)) (mvT hZ (w80 hw)) (by decide) (backOf (W := 0) (rm_put_4_3 l Z a0 hw [] G1 HG T_52.heap n0 O_67 a_2 k_3 c3 (own_lo8z c0) (own_hi8 c0) (own_lo8z c1) (own_hi8 c1) (own_lo8z c2) (own_hi8 c2) (0 : Int32) (0 : Int32) g_55 (Nat.le_trans (own_n0 X00) g_6)) hZ (w80 hw) (w22 hw) (by decide) (by decide)) (g := (mkF m 20 #[.val (.ref b), .val (.int (3 : Int32)), .val (.int (4 : Int32)), .val (.ref a_2), .val (.int (3 : Int32))] [(.int c3), (.int (3 : Int32)), (.ref a_2)])) rfl (by rw [hml]; rfl) (argsL := [(.ref a_2), (.int (3 : Int32)), (.int c3)]) (rest := []) (lenOf pd_71 rfl) rfl (by show 2 * 0 + _ ≤ _; exact Nat.le_of_eq rfl) (hb hby d3_20) (fun _ _ => ⟨rfl, rfl, (by decide : 1 + 0 ≤ _), (by decide : 8 + 0 ≤ _)⟩)
  dsimp only [Pt.U, Pt.locs, Pt.cells, Pt.slots] at X_68 l_68 y_68 z_68 st_68 hQ_68
  subst l_68 y_68 z_68
  obtain ⟨rfl, N_69, K_70, g_71⟩ := hQ_68
  have N_72 := Fr.app N_56 N_69
  have C_73 : Steps p.tables e below S0 (T_68.setTop (mkF m 33 #[.val (.ref b), .val (.int (4 : Int32)), .val (.int (4 : Int32)), .val (.ref a_2), .val (.int (4 : Int32))] [(.ref a_2)])) := by
    refine C0.trans ?_
    refine XS.iloadN X0.here hx rfl (hb hby d3_0) rfl ?_
    refine st_1 _ ?_
    refine XS.astoreN X_1.here hx rfl (hb hby d3_4) rfl rfl (l' := #[.val (.ref b), .val (.int (0 : Int32)), .val (.int (4 : Int32)), .val (.ref a_2), .unset]) rfl ?_
    refine XS.iconst X_1.here hx rfl (hb hby d3_5) ?_
    refine XS.istore X_1.here hx rfl (hb hby d3_6) rfl (l' := #[.val (.ref b), .val (.int (0 : Int32)), .val (.int (4 : Int32)), .val (.ref a_2), .val (.int (0 : Int32))]) rfl ?_
    refine XS.iload X_1.here hx rfl (hb hby d3_8) rfl ?_
    refine XS.iloadN X_1.here hx rfl (hb hby d3_10) rfl ?_
    refine XS.icmpNo X_1.here hx rfl (hb hby d3_11) rfl (by decide) ?_
    show Steps p.tables e below (T_1.setTop (mkF m 14 #[.val (.ref b), .val (.int (0 : Int32)), .val (.int (4 : Int32)), .val (.ref a_2), .val (.int (0 : Int32))] [])) _
    refine XS.aloadN X_1.here hx rfl (hb hby d3_14) rfl rfl ?_
    refine XS.iload X_1.here hx rfl (hb hby d3_15) rfl ?_
    refine XS.aloadN X_1.here hx rfl (hb hby d3_17) rfl rfl ?_
    refine XS.iloadN X_1.here hx rfl (hb hby d3_18) rfl ?_
    refine X_1.caload hx (j := (0 : Int32)) (v := (.int c0)) (A_11.1) (State.isArrayOf_alike hZ.alike A_11.2.1) A_11.2.2 hin_17 hat_18 (g := (mkF m 19 #[.val (.ref b), .val (.int (0 : Int32)), .val (.int (4 : Int32)), .val (.ref a_2), .val (.int (0 : Int32))] [(.int (0 : Int32)), (.ref b), (.int (0 : Int32)), (.ref a_2)])) rfl rfl (hb hby d3_19) _ ?_
    refine st_20 _ ?_
    refine XS.iinc X_20.here hx rfl (hb hby d3_23) (x := (0 : Int32)) rfl (l' := #[.val (.ref b), .val (.int (1 : Int32)), .val (.int (4 : Int32)), .val (.ref a_2), .val (.int (0 : Int32))]) rfl ?_
    refine XS.iinc X_20.here hx rfl (hb hby d3_26) (x := (0 : Int32)) rfl (l' := #[.val (.ref b), .val (.int (1 : Int32)), .val (.int (4 : Int32)), .val (.ref a_2), .val (.int (1 : Int32))]) rfl ?_
    show Steps p.tables e below (T_20.setTop (mkF m 29 #[.val (.ref b), .val (.int (1 : Int32)), .val (.int (4 : Int32)), .val (.ref a_2), .val (.int (1 : Int32))] [])) _
    refine XS.goto X_20.here hx rfl (pc0 := 29) (pc' := 8) rfl (hb hby d3_29) (by decide) (by decide) ?_
    refine XS.iload X_20.here hx rfl (hb hby d3_8) rfl ?_
    refine XS.iloadN X_20.here hx rfl (hb hby d3_10) rfl ?_
    refine XS.icmpNo X_20.here hx rfl (hb hby d3_11) rfl (by decide) ?_
    refine XS.aloadN X_20.here hx rfl (hb hby d3_14) rfl rfl ?_
    refine XS.iload X_20.here hx rfl (hb hby d3_15) rfl ?_
    refine XS.aloadN X_20.here hx rfl (hb hby d3_17) rfl rfl ?_
    refine XS.iloadN X_20.here hx rfl (hb hby d3_18) rfl ?_
    show Steps p.tables e below (T_20.setTop (mkF m 19 #[.val (.ref b), .val (.int (1 : Int32)), .val (.int (4 : Int32)), .val (.ref a_2), .val (.int (1 : Int32))] [(.int (1 : Int32)), (.ref b), (.int (1 : Int32)), (.ref a_2)])) _
    refine X_20.caload hx (j := (1 : Int32)) (v := (.int c1)) (A_27.1) (State.isArrayOf_alike hZ.alike A_27.2.1) A_27.2.2 hin_33 hat_34 (g := (mkF m 19 #[.val (.ref b), .val (.int (1 : Int32)), .val (.int (4 : Int32)), .val (.ref a_2), .val (.int (1 : Int32))] [(.int (1 : Int32)), (.ref b), (.int (1 : Int32)), (.ref a_2)])) rfl rfl (hb hby d3_19) _ ?_
    refine st_36 _ ?_
    refine XS.iinc X_36.here hx rfl (hb hby d3_23) (x := (1 : Int32)) rfl (l' := #[.val (.ref b), .val (.int (2 : Int32)), .val (.int (4 : Int32)), .val (.ref a_2), .val (.int (1 : Int32))]) rfl ?_
    refine XS.iinc X_36.here hx rfl (hb hby d3_26) (x := (1 : Int32)) rfl (l' := #[.val (.ref b), .val (.int (2 : Int32)), .val (.int (4 : Int32)), .val (.ref a_2), .val (.int (2 : Int32))]) rfl ?_
    refine XS.goto X_36.here hx rfl (pc0 := 29) (pc' := 8) rfl (hb hby d3_29) (by decide) (by decide) ?_
    refine XS.iload X_36.here hx rfl (hb hby d3_8) rfl ?_
    refine XS.iloadN X_36.here hx rfl (hb hby d3_10) rfl ?_
    refine XS.icmpNo X_36.here hx rfl (hb hby d3_11) rfl (by decide) ?_
    show Steps p.tables e below (T_36.setTop (mkF m 14 #[.val (.ref b), .val (.int (2 : Int32)), .val (.int (4 : Int32)), .val (.ref a_2), .val (.int (2 : Int32))] [])) _
    refine XS.aloadN X_36.here hx rfl (hb hby d3_14) rfl rfl ?_
    refine XS.iload X_36.here hx rfl (hb hby d3_15) rfl ?_
    refine XS.aloadN X_36.here hx rfl (hb hby d3_17) rfl rfl ?_
    refine XS.iloadN X_36.here hx rfl (hb hby d3_18) rfl ?_
    refine X_36.caload hx (j := (2 : Int32)) (v := (.int c2)) (A_43.1) (State.isArrayOf_alike hZ.alike A_43.2.1) A_43.2.2 hin_49 hat_50 (g := (mkF m 19 #[.val (.ref b), .val (.int (2 : Int32)), .val (.int (4 : Int32)), .val (.ref a_2), .val (.int (2 : Int32))] [(.int (2 : Int32)), (.ref b), (.int (2 : Int32)), (.ref a_2)])) rfl rfl (hb hby d3_19) _ ?_
    refine st_52 _ ?_
    refine XS.iinc X_52.here hx rfl (hb hby d3_23) (x := (2 : Int32)) rfl (l' := #[.val (.ref b), .val (.int (3 : Int32)), .val (.int (4 : Int32)), .val (.ref a_2), .val (.int (2 : Int32))]) rfl ?_
    refine XS.iinc X_52.here hx rfl (hb hby d3_26) (x := (2 : Int32)) rfl (l' := #[.val (.ref b), .val (.int (3 : Int32)), .val (.int (4 : Int32)), .val (.ref a_2), .val (.int (3 : Int32))]) rfl ?_
    show Steps p.tables e below (T_52.setTop (mkF m 29 #[.val (.ref b), .val (.int (3 : Int32)), .val (.int (4 : Int32)), .val (.ref a_2), .val (.int (3 : Int32))] [])) _
    refine XS.goto X_52.here hx rfl (pc0 := 29) (pc' := 8) rfl (hb hby d3_29) (by decide) (by decide) ?_
    refine XS.iload X_52.here hx rfl (hb hby d3_8) rfl ?_
    refine XS.iloadN X_52.here hx rfl (hb hby d3_10) rfl ?_
    refine XS.icmpNo X_52.here hx rfl (hb hby d3_11) rfl (by decide) ?_
    refine XS.aloadN X_52.here hx rfl (hb hby d3_14) rfl rfl ?_
    refine XS.iload X_52.here hx rfl (hb hby d3_15) rfl ?_
    refine XS.aloadN X_52.here hx rfl (hb hby d3_17) rfl rfl ?_
    refine XS.iloadN X_52.here hx rfl (hb hby d3_18) rfl ?_
    show Steps p.tables e below (T_52.setTop (mkF m 19 #[.val (.ref b), .val (.int (3 : Int32)), .val (.int (4 : Int32)), .val (.ref a_2), .val (.int (3 : Int32))] [(.int (3 : Int32)), (.ref b), (.int (3 : Int32)), (.ref a_2)])) _
    refine X_52.caload hx (j := (3 : Int32)) (v := (.int c3)) (A_59.1) (State.isArrayOf_alike hZ.alike A_59.2.1) A_59.2.2 hin_65 hat_66 (g := (mkF m 19 #[.val (.ref b), .val (.int (3 : Int32)), .val (.int (4 : Int32)), .val (.ref a_2), .val (.int (3 : Int32))] [(.int (3 : Int32)), (.ref b), (.int (3 : Int32)), (.ref a_2)])) rfl rfl (hb hby d3_19) _ ?_
    refine st_68 _ ?_
    refine XS.iinc X_68.here hx rfl (hb hby d3_23) (x := (3 : Int32)) rfl (l' := #[.val (.ref b), .val (.int (4 : Int32)), .val (.int (4 : Int32)), .val (.ref a_2), .val (.int (3 : Int32))]) rfl ?_
    refine XS.iinc X_68.here hx rfl (hb hby d3_26) (x := (3 : Int32)) rfl (l' := #[.val (.ref b), .val (.int (4 : Int32)), .val (.int (4 : Int32)), .val (.ref a_2), .val (.int (4 : Int32))]) rfl ?_
    refine XS.goto X_68.here hx rfl (pc0 := 29) (pc' := 8) rfl (hb hby d3_29) (by decide) (by decide) ?_
    refine XS.iload X_68.here hx rfl (hb hby d3_8) rfl ?_
    refine XS.iloadN X_68.here hx rfl (hb hby d3_10) rfl ?_
    refine XS.icmpYes X_68.here hx rfl (pc0 := 11) (pc' := 32) rfl (hb hby d3_11) rfl (by decide) (by decide) (by decide) ?_
    show Steps p.tables e below (T_68.setTop (mkF m 32 #[.val (.ref b), .val (.int (4 : Int32)), .val (.int (4 : Int32)), .val (.ref a_2), .val (.int (4 : Int32))] [])) _
    refine XS.aloadN X_68.here hx rfl (hb hby d3_32) rfl rfl ?_
    exact Steps.refl _
  have K_74 : Keep h0 T_68.heap [] := ((((((Keep.refl _ _).trans K_5 all0).trans K_22 (allS (Or.inr (Nat.le_trans (Nat.le_refl _) g_6)) all0)).trans K_38 (allS (Or.inr (Nat.le_trans (Nat.le_refl _) g_6)) all0)).trans K_54 (allS (Or.inr (Nat.le_trans (Nat.le_refl _) g_6)) all0)).trans K_70 (allS (Or.inr (Nat.le_trans (Nat.le_refl _) g_6)) all0))
  obtain ⟨fs, hr, hrun, hended, hW, hsame⟩ := X_68.leave (v := some (.ref a_2)) (fun h => by rw [Bd.returns] at h; cases h)
  refine ⟨_, _, C_73.trans (retOut X_68 hx Bd.returns rfl (Or.inr (Or.inr (Or.inr (Or.inr ⟨rfl, rfl, rfl⟩)))) (hb hby d3_33) hr), hrun, hended, _, _, rfl, ?_, ⟨_, rfl⟩, hW, hsame.mono (by decide) (by decide)⟩
  show Q_tob_4 Z G1 b k c0 c1 c2 c3 h0 n0 (some (.ref a_2)) T_68.heap _
  exact ⟨a_2, k_3, rfl, N_72, K_74, (Nat.le_trans (Nat.le_refl _) g_6), g_71⟩
abbrev R_get_4_0 : Room := { frames := 0, cells := 0, slots := 0, locals := 0 }
def Q_get_4_0 (Z : State) (G1 : Int32) (t : Addr) (kt : ClassId) (y0 : Int32) (y1 : Int32) (y2 : Int32) (y3 : Int32) (y4 : Int32) (y5 : Int32) (y6 : Int32) (y7 : Int32) (h0 : Heap) (n0 : Nat) (v : Option Value) (h : Heap) (L : List Loc) : Prop := (v = some (.int (own_pair y0 y1)) ∧ Fr n0 L ∧ h = h0)
set_option maxRecDepth 65536 in
set_option maxHeartbeats 40000000 in
theorem rm_get_4_0 (l : Launch) (Z : State) (a0 : Array Value) (hw : ∀ d ∈ tables_1, d.before a0 Z = true) (ws : List Jvm.Cond) (G1 : Int32) (HG : own_G l Z a0 G1) (h0 : Heap) (n0 : Nat) (X00 : Old Z n0 h0) (t : Addr) (kt : ClassId) (y0 : Int32) (y1 : Int32) (y2 : Int32) (y3 : Int32) (y4 : Int32) (y5 : Int32) (y6 : Int32) (y7 : Int32) (hp0 : Arv Z h0 t kt .byte (8 : Int32) [(.int y0), (.int y1), (.int y2), (.int y3), (.int y4), (.int y5), (.int y6), (.int y7)] (.int (0 : Int32))) :
    own_CP l Z M80 jdk_52_method_5_code 2 (some .char) ws R_get_4_0 #[(.ref t), (.int (0 : Int32))] h0 (Q_get_4_0 Z G1 t kt y0 y1 y2 y3 y4 y5 y6 y7 h0 n0) := by
  refine own_P (plainFor_of_name pn_2) ?_
  intro p e s m below meth c s₁ S0 Bd hZ hh hx hby hml hown hnm X0 e0 hS0d
  obtain ⟨O1, P1, OAD, OHI, OLO⟩ := id HG
  have N0 := Fr.nil n0
  have C0 : Steps p.tables e below S0 (s₁.setTop (mkF m 0 #[.val (.ref t), .val (.int (0 : Int32))] [])) := by rw [hS0d]; exact castTop (ef_81 m t (0 : Int32)) (Steps.refl _)
  obtain ⟨T_1, X_2, e_3, st_4⟩ := getS X0 hx hZ (host := "") hown (w81 hw) Via.refl e0 (OAD.ext X00.2) (g := (mkF m 0 #[.val (.ref t), .val (.int (0 : Int32))] [])) rfl (hb hby d4_0)
  obtain ⟨c_5, A_6, q_7, S_8, M_9, H_10, U_11⟩ := id hp0
  have hin_12 : ¬ ((0 : Int32) < 0 ∨ c_5.slots.size ≤ (0 : Int32).toNatClampNeg) := inb_of S_8 ⟨(by decide : ¬ ((0 : Int32) < (0 : Int32))), (by decide : (0 : Int32) < (8 : Int32))⟩
  have hat_13 : c_5.slots[(0 : Int32).toNatClampNeg]? = some (.int y0) := Has.at H_10 hin_12 rfl
  obtain ⟨T_14, X_15, e_16, st_17⟩ := getS X_2 hx hZ (host := "") hown (w82 hw) Via.refl e_3 (OHI.ext X00.2) (g := (mkF m 42 #[.val (.ref t), .val (.int (1 : Int32))] [(.int (y0 &&& (255 : Int32)))])) rfl (hb hby d4_42)
  obtain ⟨c_18, A_19, q_20, S_21, M_22, H_23, U_24⟩ := id hp0
  have hin_25 : ¬ ((1 : Int32) < 0 ∨ c_18.slots.size ≤ (1 : Int32).toNatClampNeg) := inb_of S_21 ⟨(by decide : ¬ ((1 : Int32) < (0 : Int32))), (by decide : (1 : Int32) < (8 : Int32))⟩
  have hat_26 : c_18.slots[(1 : Int32).toNatClampNeg]? = some (.int y1) := Has.at H_23 hin_25 rfl
  obtain ⟨T_27, X_28, e_29, st_30⟩ := getS X_15 hx hZ (host := "") hown (w83 hw) Via.refl e_16 (OLO.ext X00.2) (g := (mkF m 53 #[.val (.ref t), .val (.int (1 : Int32))] [(.int (y1 &&& (255 : Int32))), (.int ((y0 &&& (255 : Int32)) <<< ((0 : Int32) &&& 31)))])) rfl (hb hby d4_53)
  have C_31 : Steps p.tables e below S0 (T_27.setTop (mkF m 59 #[.val (.ref t), .val (.int (1 : Int32))] [(.int ((((y0 &&& (255 : Int32)) <<< ((0 : Int32) &&& 31)) ||| ((y1 &&& (255 : Int32)) <<< ((8 : Int32) &&& 31))).toUInt32.toUInt16.toUInt32.toInt32))])) := by
    refine C0.trans ?_
    refine st_4 _ ?_
    refine XS.ifYes X_2.here hx rfl (pc0 := 3) (pc' := 28) rfl (hb hby d4_3) rfl (by decide) (by decide) (by decide) ?_
    refine XS.iloadN X_2.here hx rfl (hb hby d4_28) rfl ?_
    refine XS.iconst X_2.here hx rfl (hb hby d4_29) ?_
    refine XS.ishl X_2.here hx rfl (hb hby d4_30) rfl ?_
    refine XS.istoreN X_2.here hx rfl (hb hby d4_31) rfl (l' := #[.val (.ref t), .val (.int (0 : Int32))]) rfl ?_
    refine XS.aloadN X_2.here hx rfl (hb hby d4_32) rfl rfl ?_
    refine XS.iloadN X_2.here hx rfl (hb hby d4_33) rfl ?_
    show Steps p.tables e below (T_1.setTop (mkF m 34 #[.val (.ref t), .val (.int (0 : Int32))] [(.int (0 : Int32)), (.ref t)])) _
    refine XS.iinc X_2.here hx rfl (hb hby d4_34) (x := (0 : Int32)) rfl (l' := #[.val (.ref t), .val (.int (1 : Int32))]) rfl ?_
    refine X_2.baloadBytes hx (j := (0 : Int32)) (v := (.int y0)) (by rw [e_3]; exact A_6.1) (State.isArrayOf_alike hZ.alike A_6.2.1) A_6.2.2 hin_12 hat_13 (g := (mkF m 37 #[.val (.ref t), .val (.int (1 : Int32))] [(.int (0 : Int32)), (.ref t)])) rfl rfl (hb hby d4_37) _ ?_
    refine XS.sipush X_2.here hx rfl (hb hby d4_38) ?_
    refine XS.iand X_2.here hx rfl (hb hby d4_41) rfl ?_
    refine st_17 _ ?_
    refine XS.ishl X_15.here hx rfl (hb hby d4_45) rfl ?_
    refine XS.aloadN X_15.here hx rfl (hb hby d4_46) rfl rfl ?_
    refine XS.iloadN X_15.here hx rfl (hb hby d4_47) rfl ?_
    show Steps p.tables e below (T_14.setTop (mkF m 48 #[.val (.ref t), .val (.int (1 : Int32))] [(.int (1 : Int32)), (.ref t), (.int ((y0 &&& (255 : Int32)) <<< ((0 : Int32) &&& 31)))])) _
    refine X_15.baloadBytes hx (j := (1 : Int32)) (v := (.int y1)) (by rw [e_16]; exact A_19.1) (State.isArrayOf_alike hZ.alike A_19.2.1) A_19.2.2 hin_25 hat_26 (g := (mkF m 48 #[.val (.ref t), .val (.int (1 : Int32))] [(.int (1 : Int32)), (.ref t), (.int ((y0 &&& (255 : Int32)) <<< ((0 : Int32) &&& 31)))])) rfl rfl (hb hby d4_48) _ ?_
    refine XS.sipush X_15.here hx rfl (hb hby d4_49) ?_
    refine XS.iand X_15.here hx rfl (hb hby d4_52) rfl ?_
    refine st_30 _ ?_
    refine XS.ishl X_28.here hx rfl (hb hby d4_56) rfl ?_
    refine XS.ior X_28.here hx rfl (hb hby d4_57) rfl ?_
    refine XS.i2c X_28.here hx rfl (hb hby d4_58) rfl ?_
    exact Steps.refl _
  obtain ⟨fs, hr, hrun, hended, hW, hsame⟩ := X_28.leave (v := some (.int (own_pair y0 y1))) (fun h => by rw [Bd.returns] at h; cases h)
  refine ⟨_, _, C_31.trans (retN X_28 hx (t := .char) Bd.returns (by simp) (hb hby d4_59) hr), hrun, hended, _, _, rfl, ?_, ⟨_, rfl⟩, hW, hsame.mono (by decide) (by decide)⟩
  show Q_get_4_0 Z G1 t kt y0 y1 y2 y3 y4 y5 y6 y7 h0 n0 (some (.int (own_pair y0 y1))) T_27.heap _
  rw [e_29]
  exact ⟨rfl, N0, rfl⟩
abbrev R_get_4_1 : Room := { frames := 0, cells := 0, slots := 0, locals := 0 }
def Q_get_4_1 (Z : State) (G1 : Int32) (t : Addr) (kt : ClassId) (y0 : Int32) (y1 : Int32) (y2 : Int32) (y3 : Int32) (y4 : Int32) (y5 : Int32) (y6 : Int32) (y7 : Int32) (h0 : Heap) (n0 : Nat) (v : Option Value) (h : Heap) (L : List Loc) : Prop := (v = some (.int (own_pair y2 y3)) ∧ Fr n0 L ∧ h = h0)
set_option maxRecDepth 65536 in
set_option maxHeartbeats 40000000 in
theorem rm_get_4_1 (l : Launch) (Z : State) (a0 : Array Value) (hw : ∀ d ∈ tables_1, d.before a0 Z = true) (ws : List Jvm.Cond) (G1 : Int32) (HG : own_G l Z a0 G1) (h0 : Heap) (n0 : Nat) (X00 : Old Z n0 h0) (t : Addr) (kt : ClassId) (y0 : Int32) (y1 : Int32) (y2 : Int32) (y3 : Int32) (y4 : Int32) (y5 : Int32) (y6 : Int32) (y7 : Int32) (hp0 : Arv Z h0 t kt .byte (8 : Int32) [(.int y0), (.int y1), (.int y2), (.int y3), (.int y4), (.int y5), (.int y6), (.int y7)] (.int (0 : Int32))) :
    own_CP l Z M80 jdk_52_method_5_code 2 (some .char) ws R_get_4_1 #[(.ref t), (.int (1 : Int32))] h0 (Q_get_4_1 Z G1 t kt y0 y1 y2 y3 y4 y5 y6 y7 h0 n0) := by
  refine own_P (plainFor_of_name pn_2) ?_
  intro p e s m below meth c s₁ S0 Bd hZ hh hx hby hml hown hnm X0 e0 hS0d
  obtain ⟨O1, P1, OAD, OHI, OLO⟩ := id HG
  have N0 := Fr.nil n0
  have C0 : Steps p.tables e below S0 (s₁.setTop (mkF m 0 #[.val (.ref t), .val (.int (1 : Int32))] [])) := by rw [hS0d]; exact castTop (ef_81 m t (1 : Int32)) (Steps.refl _)
  obtain ⟨T_1, X_2, e_3, st_4⟩ := getS X0 hx hZ (host := "") hown (w81 hw) Via.refl e0 (OAD.ext X00.2) (g := (mkF m 0 #[.val (.ref t), .val (.int (1 : Int32))] [])) rfl (hb hby d4_0)
  obtain ⟨c_5, A_6, q_7, S_8, M_9, H_10, U_11⟩ := id hp0
  have hin_12 : ¬ ((2 : Int32) < 0 ∨ c_5.slots.size ≤ (2 : Int32).toNatClampNeg) := inb_of S_8 ⟨(by decide : ¬ ((2 : Int32) < (0 : Int32))), (by decide : (2 : Int32) < (8 : Int32))⟩
  have hat_13 : c_5.slots[(2 : Int32).toNatClampNeg]? = some (.int y2) := Has.at H_10 hin_12 rfl
  obtain ⟨T_14, X_15, e_16, st_17⟩ := getS X_2 hx hZ (host := "") hown (w82 hw) Via.refl e_3 (OHI.ext X00.2) (g := (mkF m 42 #[.val (.ref t), .val (.int (3 : Int32))] [(.int (y2 &&& (255 : Int32)))])) rfl (hb hby d4_42)
  obtain ⟨c_18, A_19, q_20, S_21, M_22, H_23, U_24⟩ := id hp0
  have hin_25 : ¬ ((3 : Int32) < 0 ∨ c_18.slots.size ≤ (3 : Int32).toNatClampNeg) := inb_of S_21 ⟨(by decide : ¬ ((3 : Int32) < (0 : Int32))), (by decide : (3 : Int32) < (8 : Int32))⟩
  have hat_26 : c_18.slots[(3 : Int32).toNatClampNeg]? = some (.int y3) := Has.at H_23 hin_25 rfl
  obtain ⟨T_27, X_28, e_29, st_30⟩ := getS X_15 hx hZ (host := "") hown (w83 hw) Via.refl e_16 (OLO.ext X00.2) (g := (mkF m 53 #[.val (.ref t), .val (.int (3 : Int32))] [(.int (y3 &&& (255 : Int32))), (.int ((y2 &&& (255 : Int32)) <<< ((0 : Int32) &&& 31)))])) rfl (hb hby d4_53)
  have C_31 : Steps p.tables e below S0 (T_27.setTop (mkF m 59 #[.val (.ref t), .val (.int (3 : Int32))] [(.int ((((y2 &&& (255 : Int32)) <<< ((0 : Int32) &&& 31)) ||| ((y3 &&& (255 : Int32)) <<< ((8 : Int32) &&& 31))).toUInt32.toUInt16.toUInt32.toInt32))])) := by
    refine C0.trans ?_
    refine st_4 _ ?_
    refine XS.ifYes X_2.here hx rfl (pc0 := 3) (pc' := 28) rfl (hb hby d4_3) rfl (by decide) (by decide) (by decide) ?_
    refine XS.iloadN X_2.here hx rfl (hb hby d4_28) rfl ?_
    refine XS.iconst X_2.here hx rfl (hb hby d4_29) ?_
    refine XS.ishl X_2.here hx rfl (hb hby d4_30) rfl ?_
    refine XS.istoreN X_2.here hx rfl (hb hby d4_31) rfl (l' := #[.val (.ref t), .val (.int (2 : Int32))]) rfl ?_
    refine XS.aloadN X_2.here hx rfl (hb hby d4_32) rfl rfl ?_
    refine XS.iloadN X_2.here hx rfl (hb hby d4_33) rfl ?_
    show Steps p.tables e below (T_1.setTop (mkF m 34 #[.val (.ref t), .val (.int (2 : Int32))] [(.int (2 : Int32)), (.ref t)])) _
    refine XS.iinc X_2.here hx rfl (hb hby d4_34) (x := (2 : Int32)) rfl (l' := #[.val (.ref t), .val (.int (3 : Int32))]) rfl ?_
    refine X_2.baloadBytes hx (j := (2 : Int32)) (v := (.int y2)) (by rw [e_3]; exact A_6.1) (State.isArrayOf_alike hZ.alike A_6.2.1) A_6.2.2 hin_12 hat_13 (g := (mkF m 37 #[.val (.ref t), .val (.int (3 : Int32))] [(.int (2 : Int32)), (.ref t)])) rfl rfl (hb hby d4_37) _ ?_
    refine XS.sipush X_2.here hx rfl (hb hby d4_38) ?_
    refine XS.iand X_2.here hx rfl (hb hby d4_41) rfl ?_
    refine st_17 _ ?_
    refine XS.ishl X_15.here hx rfl (hb hby d4_45) rfl ?_
    refine XS.aloadN X_15.here hx rfl (hb hby d4_46) rfl rfl ?_
    refine XS.iloadN X_15.here hx rfl (hb hby d4_47) rfl ?_
    show Steps p.tables e below (T_14.setTop (mkF m 48 #[.val (.ref t), .val (.int (3 : Int32))] [(.int (3 : Int32)), (.ref t), (.int ((y2 &&& (255 : Int32)) <<< ((0 : Int32) &&& 31)))])) _
    refine X_15.baloadBytes hx (j := (3 : Int32)) (v := (.int y3)) (by rw [e_16]; exact A_19.1) (State.isArrayOf_alike hZ.alike A_19.2.1) A_19.2.2 hin_25 hat_26 (g := (mkF m 48 #[.val (.ref t), .val (.int (3 : Int32))] [(.int (3 : Int32)), (.ref t), (.int ((y2 &&& (255 : Int32)) <<< ((0 : Int32) &&& 31)))])) rfl rfl (hb hby d4_48) _ ?_
    refine XS.sipush X_15.here hx rfl (hb hby d4_49) ?_
    refine XS.iand X_15.here hx rfl (hb hby d4_52) rfl ?_
    refine st_30 _ ?_
    refine XS.ishl X_28.here hx rfl (hb hby d4_56) rfl ?_
    refine XS.ior X_28.here hx rfl (hb hby d4_57) rfl ?_
    refine XS.i2c X_28.here hx rfl (hb hby d4_58) rfl ?_
    exact Steps.refl _
  obtain ⟨fs, hr, hrun, hended, hW, hsame⟩ := X_28.leave (v := some (.int (own_pair y2 y3))) (fun h => by rw [Bd.returns] at h; cases h)
  refine ⟨_, _, C_31.trans (retN X_28 hx (t := .char) Bd.returns (by simp) (hb hby d4_59) hr), hrun, hended, _, _, rfl, ?_, ⟨_, rfl⟩, hW, hsame.mono (by decide) (by decide)⟩
  show Q_get_4_1 Z G1 t kt y0 y1 y2 y3 y4 y5 y6 y7 h0 n0 (some (.int (own_pair y2 y3))) T_27.heap _
  rw [e_29]
  exact ⟨rfl, N0, rfl⟩
abbrev R_get_4_2 : Room := { frames := 0, cells := 0, slots := 0, locals := 0 }
def Q_get_4_2 (Z : State) (G1 : Int32) (t : Addr) (kt : ClassId) (y0 : Int32) (y1 : Int32) (y2 : Int32) (y3 : Int32) (y4 : Int32) (y5 : Int32) (y6 : Int32) (y7 : Int32) (h0 : Heap) (n0 : Nat) (v : Option Value) (h : Heap) (L : List Loc) : Prop := (v = some (.int (own_pair y4 y5)) ∧ Fr n0 L ∧ h = h0)
set_option maxRecDepth 65536 in
set_option maxHeartbeats 40000000 in
theorem rm_get_4_2 (l : Launch) (Z : State) (a0 : Array Value) (hw : ∀ d ∈ tables_1, d.before a0 Z = true) (ws : List Jvm.Cond) (G1 : Int32) (HG : own_G l Z a0 G1) (h0 : Heap) (n0 : Nat) (X00 : Old Z n0 h0) (t : Addr) (kt : ClassId) (y0 : Int32) (y1 : Int32) (y2 : Int32) (y3 : Int32) (y4 : Int32) (y5 : Int32) (y6 : Int32) (y7 : Int32) (hp0 : Arv Z h0 t kt .byte (8 : Int32) [(.int y0), (.int y1), (.int y2), (.int y3), (.int y4), (.int y5), (.int y6), (.int y7)] (.int (0 : Int32))) :
    own_CP l Z M80 jdk_52_method_5_code 2 (some .char) ws R_get_4_2 #[(.ref t), (.int (2 : Int32))] h0 (Q_get_4_2 Z G1 t kt y0 y1 y2 y3 y4 y5 y6 y7 h0 n0) := by
  refine own_P (plainFor_of_name pn_2) ?_
  intro p e s m below meth c s₁ S0 Bd hZ hh hx hby hml hown hnm X0 e0 hS0d
  obtain ⟨O1, P1, OAD, OHI, OLO⟩ := id HG
  have N0 := Fr.nil n0
  have C0 : Steps p.tables e below S0 (s₁.setTop (mkF m 0 #[.val (.ref t), .val (.int (2 : Int32))] [])) := by rw [hS0d]; exact castTop (ef_81 m t (2 : Int32)) (Steps.refl _)
  obtain ⟨T_1, X_2, e_3, st_4⟩ := getS X0 hx hZ (host := "") hown (w81 hw) Via.refl e0 (OAD.ext X00.2) (g := (mkF m 0 #[.val (.ref t), .val (.int (2 : Int32))] [])) rfl (hb hby d4_0)
  obtain ⟨c_5, A_6, q_7, S_8, M_9, H_10, U_11⟩ := id hp0
  have hin_12 : ¬ ((4 : Int32) < 0 ∨ c_5.slots.size ≤ (4 : Int32).toNatClampNeg) := inb_of S_8 ⟨(by decide : ¬ ((4 : Int32) < (0 : Int32))), (by decide : (4 : Int32) < (8 : Int32))⟩
  have hat_13 : c_5.slots[(4 : Int32).toNatClampNeg]? = some (.int y4) := Has.at H_10 hin_12 rfl
  obtain ⟨T_14, X_15, e_16, st_17⟩ := getS X_2 hx hZ (host := "") hown (w82 hw) Via.refl e_3 (OHI.ext X00.2) (g := (mkF m 42 #[.val (.ref t), .val (.int (5 : Int32))] [(.int (y4 &&& (255 : Int32)))])) rfl (hb hby d4_42)
  obtain ⟨c_18, A_19, q_20, S_21, M_22, H_23, U_24⟩ := id hp0
  have hin_25 : ¬ ((5 : Int32) < 0 ∨ c_18.slots.size ≤ (5 : Int32).toNatClampNeg) := inb_of S_21 ⟨(by decide : ¬ ((5 : Int32) < (0 : Int32))), (by decide : (5 : Int32) < (8 : Int32))⟩
  have hat_26 : c_18.slots[(5 : Int32).toNatClampNeg]? = some (.int y5) := Has.at H_23 hin_25 rfl
  obtain ⟨T_27, X_28, e_29, st_30⟩ := getS X_15 hx hZ (host := "") hown (w83 hw) Via.refl e_16 (OLO.ext X00.2) (g := (mkF m 53 #[.val (.ref t), .val (.int (5 : Int32))] [(.int (y5 &&& (255 : Int32))), (.int ((y4 &&& (255 : Int32)) <<< ((0 : Int32) &&& 31)))])) rfl (hb hby d4_53)
  have C_31 : Steps p.tables e below S0 (T_27.setTop (mkF m 59 #[.val (.ref t), .val (.int (5 : Int32))] [(.int ((((y4 &&& (255 : Int32)) <<< ((0 : Int32) &&& 31)) ||| ((y5 &&& (255 : Int32)) <<< ((8 : Int32) &&& 31))).toUInt32.toUInt16.toUInt32.toInt32))])) := by
    refine C0.trans ?_
    refine st_4 _ ?_
    refine XS.ifYes X_2.here hx rfl (pc0 := 3) (pc' := 28) rfl (hb hby d4_3) rfl (by decide) (by decide) (by decide) ?_
    refine XS.iloadN X_2.here hx rfl (hb hby d4_28) rfl ?_
    refine XS.iconst X_2.here hx rfl (hb hby d4_29) ?_
    refine XS.ishl X_2.here hx rfl (hb hby d4_30) rfl ?_
    refine XS.istoreN X_2.here hx rfl (hb hby d4_31) rfl (l' := #[.val (.ref t), .val (.int (4 : Int32))]) rfl ?_
    refine XS.aloadN X_2.here hx rfl (hb hby d4_32) rfl rfl ?_
    refine XS.iloadN X_2.here hx rfl (hb hby d4_33) rfl ?_
    show Steps p.tables e below (T_1.setTop (mkF m 34 #[.val (.ref t), .val (.int (4 : Int32))] [(.int (4 : Int32)), (.ref t)])) _
    refine XS.iinc X_2.here hx rfl (hb hby d4_34) (x := (4 : Int32)) rfl (l' := #[.val (.ref t), .val (.int (5 : Int32))]) rfl ?_
    refine X_2.baloadBytes hx (j := (4 : Int32)) (v := (.int y4)) (by rw [e_3]; exact A_6.1) (State.isArrayOf_alike hZ.alike A_6.2.1) A_6.2.2 hin_12 hat_13 (g := (mkF m 37 #[.val (.ref t), .val (.int (5 : Int32))] [(.int (4 : Int32)), (.ref t)])) rfl rfl (hb hby d4_37) _ ?_
    refine XS.sipush X_2.here hx rfl (hb hby d4_38) ?_
    refine XS.iand X_2.here hx rfl (hb hby d4_41) rfl ?_
    refine st_17 _ ?_
    refine XS.ishl X_15.here hx rfl (hb hby d4_45) rfl ?_
    refine XS.aloadN X_15.here hx rfl (hb hby d4_46) rfl rfl ?_
    refine XS.iloadN X_15.here hx rfl (hb hby d4_47) rfl ?_
    show Steps p.tables e below (T_14.setTop (mkF m 48 #[.val (.ref t), .val (.int (5 : Int32))] [(.int (5 : Int32)), (.ref t), (.int ((y4 &&& (255 : Int32)) <<< ((0 : Int32) &&& 31)))])) _
    refine X_15.baloadBytes hx (j := (5 : Int32)) (v := (.int y5)) (by rw [e_16]; exact A_19.1) (State.isArrayOf_alike hZ.alike A_19.2.1) A_19.2.2 hin_25 hat_26 (g := (mkF m 48 #[.val (.ref t), .val (.int (5 : Int32))] [(.int (5 : Int32)), (.ref t), (.int ((y4 &&& (255 : Int32)) <<< ((0 : Int32) &&& 31)))])) rfl rfl (hb hby d4_48) _ ?_
    refine XS.sipush X_15.here hx rfl (hb hby d4_49) ?_
    refine XS.iand X_15.here hx rfl (hb hby d4_52) rfl ?_
    refine st_30 _ ?_
    refine XS.ishl X_28.here hx rfl (hb hby d4_56) rfl ?_
    refine XS.ior X_28.here hx rfl (hb hby d4_57) rfl ?_
    refine XS.i2c X_28.here hx rfl (hb hby d4_58) rfl ?_
    exact Steps.refl _
  obtain ⟨fs, hr, hrun, hended, hW, hsame⟩ := X_28.leave (v := some (.int (own_pair y4 y5))) (fun h => by rw [Bd.returns] at h; cases h)
  refine ⟨_, _, C_31.trans (retN X_28 hx (t := .char) Bd.returns (by simp) (hb hby d4_59) hr), hrun, hended, _, _, rfl, ?_, ⟨_, rfl⟩, hW, hsame.mono (by decide) (by decide)⟩
  show Q_get_4_2 Z G1 t kt y0 y1 y2 y3 y4 y5 y6 y7 h0 n0 (some (.int (own_pair y4 y5))) T_27.heap _
  rw [e_29]
  exact ⟨rfl, N0, rfl⟩
abbrev R_get_4_3 : Room := { frames := 0, cells := 0, slots := 0, locals := 0 }
def Q_get_4_3 (Z : State) (G1 : Int32) (t : Addr) (kt : ClassId) (y0 : Int32) (y1 : Int32) (y2 : Int32) (y3 : Int32) (y4 : Int32) (y5 : Int32) (y6 : Int32) (y7 : Int32) (h0 : Heap) (n0 : Nat) (v : Option Value) (h : Heap) (L : List Loc) : Prop := (v = some (.int (own_pair y6 y7)) ∧ Fr n0 L ∧ h = h0)
set_option maxRecDepth 65536 in
set_option maxHeartbeats 40000000 in
theorem rm_get_4_3 (l : Launch) (Z : State) (a0 : Array Value) (hw : ∀ d ∈ tables_1, d.before a0 Z = true) (ws : List Jvm.Cond) (G1 : Int32) (HG : own_G l Z a0 G1) (h0 : Heap) (n0 : Nat) (X00 : Old Z n0 h0) (t : Addr) (kt : ClassId) (y0 : Int32) (y1 : Int32) (y2 : Int32) (y3 : Int32) (y4 : Int32) (y5 : Int32) (y6 : Int32) (y7 : Int32) (hp0 : Arv Z h0 t kt .byte (8 : Int32) [(.int y0), (.int y1), (.int y2), (.int y3), (.int y4), (.int y5), (.int y6), (.int y7)] (.int (0 : Int32))) :
    own_CP l Z M80 jdk_52_method_5_code 2 (some .char) ws R_get_4_3 #[(.ref t), (.int (3 : Int32))] h0 (Q_get_4_3 Z G1 t kt y0 y1 y2 y3 y4 y5 y6 y7 h0 n0) := by
  refine own_P (plainFor_of_name pn_2) ?_
  intro p e s m below meth c s₁ S0 Bd hZ hh hx hby hml hown hnm X0 e0 hS0d
  obtain ⟨O1, P1, OAD, OHI, OLO⟩ := id HG
  have N0 := Fr.nil n0
  have C0 : Steps p.tables e below S0 (s₁.setTop (mkF m 0 #[.val (.ref t), .val (.int (3 : Int32))] [])) := by rw [hS0d]; exact castTop (ef_81 m t (3 : Int32)) (Steps.refl _)
  obtain ⟨T_1, X_2, e_3, st_4⟩ := getS X0 hx hZ (host := "") hown (w81 hw) Via.refl e0 (OAD.ext X00.2) (g := (mkF m 0 #[.val (.ref t), .val (.int (3 : Int32))] [])) rfl (hb hby d4_0)
  obtain ⟨c_5, A_6, q_7, S_8, M_9, H_10, U_11⟩ := id hp0
  have hin_12 : ¬ ((6 : Int32) < 0 ∨ c_5.slots.size ≤ (6 : Int32).toNatClampNeg) := inb_of S_8 ⟨(by decide : ¬ ((6 : Int32) < (0 : Int32))), (by decide : (6 : Int32) < (8 : Int32))⟩
  have hat_13 : c_5.slots[(6 : Int32).toNatClampNeg]? = some (.int y6) := Has.at H_10 hin_12 rfl
  obtain ⟨T_14, X_15, e_16, st_17⟩ := getS X_2 hx hZ (host := "") hown (w82 hw) Via.refl e_3 (OHI.ext X00.2) (g := (mkF m 42 #[.val (.ref t), .val (.int (7 : Int32))] [(.int (y6 &&& (255 : Int32)))])) rfl (hb hby d4_42)
  obtain ⟨c_18, A_19, q_20, S_21, M_22, H_23, U_24⟩ := id hp0
  have hin_25 : ¬ ((7 : Int32) < 0 ∨ c_18.slots.size ≤ (7 : Int32).toNatClampNeg) := inb_of S_21 ⟨(by decide : ¬ ((7 : Int32) < (0 : Int32))), (by decide : (7 : Int32) < (8 : Int32))⟩
  have hat_26 : c_18.slots[(7 : Int32).toNatClampNeg]? = some (.int y7) := Has.at H_23 hin_25 rfl
  obtain ⟨T_27, X_28, e_29, st_30⟩ := getS X_15 hx hZ (host := "") hown (w83 hw) Via.refl e_16 (OLO.ext X00.2) (g := (mkF m 53 #[.val (.ref t), .val (.int (7 : Int32))] [(.int (y7 &&& (255 : Int32))), (.int ((y6 &&& (255 : Int32)) <<< ((0 : Int32) &&& 31)))])) rfl (hb hby d4_53)
  have C_31 : Steps p.tables e below S0 (T_27.setTop (mkF m 59 #[.val (.ref t), .val (.int (7 : Int32))] [(.int ((((y6 &&& (255 : Int32)) <<< ((0 : Int32) &&& 31)) ||| ((y7 &&& (255 : Int32)) <<< ((8 : Int32) &&& 31))).toUInt32.toUInt16.toUInt32.toInt32))])) := by
    refine C0.trans ?_
    refine st_4 _ ?_
    refine XS.ifYes X_2.here hx rfl (pc0 := 3) (pc' := 28) rfl (hb hby d4_3) rfl (by decide) (by decide) (by decide) ?_
    refine XS.iloadN X_2.here hx rfl (hb hby d4_28) rfl ?_
    refine XS.iconst X_2.here hx rfl (hb hby d4_29) ?_
    refine XS.ishl X_2.here hx rfl (hb hby d4_30) rfl ?_
    refine XS.istoreN X_2.here hx rfl (hb hby d4_31) rfl (l' := #[.val (.ref t), .val (.int (6 : Int32))]) rfl ?_
    refine XS.aloadN X_2.here hx rfl (hb hby d4_32) rfl rfl ?_
    refine XS.iloadN X_2.here hx rfl (hb hby d4_33) rfl ?_
    show Steps p.tables e below (T_1.setTop (mkF m 34 #[.val (.ref t), .val (.int (6 : Int32))] [(.int (6 : Int32)), (.ref t)])) _
    refine XS.iinc X_2.here hx rfl (hb hby d4_34) (x := (6 : Int32)) rfl (l' := #[.val (.ref t), .val (.int (7 : Int32))]) rfl ?_
    refine X_2.baloadBytes hx (j := (6 : Int32)) (v := (.int y6)) (by rw [e_3]; exact A_6.1) (State.isArrayOf_alike hZ.alike A_6.2.1) A_6.2.2 hin_12 hat_13 (g := (mkF m 37 #[.val (.ref t), .val (.int (7 : Int32))] [(.int (6 : Int32)), (.ref t)])) rfl rfl (hb hby d4_37) _ ?_
    refine XS.sipush X_2.here hx rfl (hb hby d4_38) ?_
    refine XS.iand X_2.here hx rfl (hb hby d4_41) rfl ?_
    refine st_17 _ ?_
    refine XS.ishl X_15.here hx rfl (hb hby d4_45) rfl ?_
    refine XS.aloadN X_15.here hx rfl (hb hby d4_46) rfl rfl ?_
    refine XS.iloadN X_15.here hx rfl (hb hby d4_47) rfl ?_
    show Steps p.tables e below (T_14.setTop (mkF m 48 #[.val (.ref t), .val (.int (7 : Int32))] [(.int (7 : Int32)), (.ref t), (.int ((y6 &&& (255 : Int32)) <<< ((0 : Int32) &&& 31)))])) _
    refine X_15.baloadBytes hx (j := (7 : Int32)) (v := (.int y7)) (by rw [e_16]; exact A_19.1) (State.isArrayOf_alike hZ.alike A_19.2.1) A_19.2.2 hin_25 hat_26 (g := (mkF m 48 #[.val (.ref t), .val (.int (7 : Int32))] [(.int (7 : Int32)), (.ref t), (.int ((y6 &&& (255 : Int32)) <<< ((0 : Int32) &&& 31)))])) rfl rfl (hb hby d4_48) _ ?_
    refine XS.sipush X_15.here hx rfl (hb hby d4_49) ?_
    refine XS.iand X_15.here hx rfl (hb hby d4_52) rfl ?_
    refine st_30 _ ?_
    refine XS.ishl X_28.here hx rfl (hb hby d4_56) rfl ?_
    refine XS.ior X_28.here hx rfl (hb hby d4_57) rfl ?_
    refine XS.i2c X_28.here hx rfl (hb hby d4_58) rfl ?_
    exact Steps.refl _
  obtain ⟨fs, hr, hrun, hended, hW, hsame⟩ := X_28.leave (v := some (.int (own_pair y6 y7))) (fun h => by rw [Bd.returns] at h; cases h)
  refine ⟨_, _, C_31.trans (retN X_28 hx (t := .char) Bd.returns (by simp) (hb hby d4_59) hr), hrun, hended, _, _, rfl, ?_, ⟨_, rfl⟩, hW, hsame.mono (by decide) (by decide)⟩
  show Q_get_4_3 Z G1 t kt y0 y1 y2 y3 y4 y5 y6 y7 h0 n0 (some (.int (own_pair y6 y7))) T_27.heap _
  rw [e_29]
  exact ⟨rfl, N0, rfl⟩
abbrev R_cmp5u_4 : Room := { frames := 0, cells := 0, slots := 0, locals := 0 }
def Q_cmp5u_4 (Z : State) (G1 : Int32) (b : Addr) (k : ClassId) (t : Addr) (kt : ClassId) (c0 : Int32) (c1 : Int32) (c2 : Int32) (c3 : Int32) (h0 : Heap) (n0 : Nat) (v : Option Value) (h : Heap) (L : List Loc) : Prop := (v = some (.int (0 : Int32)) ∧ Fr n0 L ∧ Keep h0 h [t] ∧ ((255 : Int32) < c0)) ∨ (v = some (.int (1 : Int32)) ∧ Fr n0 L ∧ Keep h0 h [t] ∧ ((255 : Int32) < c1)) ∨ (v = some (.int (2 : Int32)) ∧ Fr n0 L ∧ Keep h0 h [t] ∧ ((255 : Int32) < c2)) ∨ (v = some (.int (3 : Int32)) ∧ Fr n0 L ∧ Keep h0 h [t] ∧ ((255 : Int32) < c3)) ∨ (v = some (.int (4 : Int32)) ∧ Fr n0 L ∧ Keep h0 h [t] ∧ (Arv Z h t kt .byte (4 : Int32) [(.int (own_lo8 c0)), (.int (own_lo8 c1)), (.int (own_lo8 c2)), (.int (own_lo8 c3))] (.int (0 : Int32))) ∧ (¬ ((255 : Int32) < c0)) ∧ (¬ ((255 : Int32) < c1)) ∧ (¬ ((255 : Int32) < c2)) ∧ (¬ ((255 : Int32) < c3)))
set_option maxRecDepth 65536 in
set_option maxHeartbeats 40000000 in
theorem rm_cmp5u_4 (l : Launch) (Z : State) (a0 : Array Value) (hw : ∀ d ∈ tables_1, d.before a0 Z = true) (ws : List Jvm.Cond) (G1 : Int32) (HG : own_G l Z a0 G1) (h0 : Heap) (n0 : Nat) (X00 : Old Z n0 h0) (b : Addr) (k : ClassId) (t : Addr) (kt : ClassId) (c0 : Int32) (c1 : Int32) (c2 : Int32) (c3 : Int32) (hp0 : Arv Z h0 b k .char (4 : Int32) [(.int c0), (.int c1), (.int c2), (.int c3)] (.int (0 : Int32))) (hp1 : Arv Z h0 t kt .byte (4 : Int32) [(.int (0 : Int32)), (.int (0 : Int32)), (.int (0 : Int32)), (.int (0 : Int32))] (.int (0 : Int32))) (hp2 : n0 ≤ t) (hp3 : b ≠ t) :
    own_CP l Z M106 jdk_52_method_21_code 7 (some .int) ws R_cmp5u_4 #[(.ref b), (.int (0 : Int32)), (.ref t), (.int (0 : Int32)), (.int (4 : Int32))] h0 (Q_cmp5u_4 Z G1 b k t kt c0 c1 c2 c3 h0 n0) := by
  refine own_P (plainFor_of_name pn_2) ?_
  intro p e s m below meth c s₁ S0 Bd hZ hh hx hby hml hown hnm X0 e0 hS0d
  obtain ⟨O1, P1, OAD, OHI, OLO⟩ := id HG
  have N0 := Fr.nil n0
  have C0 : Steps p.tables e below S0 (s₁.setTop (mkF m 0 #[.val (.ref b), .val (.int (0 : Int32)), .val (.ref t), .val (.int (0 : Int32)), .val (.int (4 : Int32)), .unset, .unset] [])) := by rw [hS0d]; exact castTop (ef_107 m b (0 : Int32) t (0 : Int32) (4 : Int32)) (Steps.refl _)
  obtain ⟨c_1, A_2, q_3, S_4, M_5, H_6, U_7⟩ := id hp0
  have hin_8 : ¬ ((0 : Int32) < 0 ∨ c_1.slots.size ≤ (0 : Int32).toNatClampNeg) := inb_of S_4 ⟨(by decide : ¬ ((0 : Int32) < (0 : Int32))), (by decide : (0 : Int32) < (4 : Int32))⟩
  have hat_9 : c_1.slots[(0 : Int32).toNatClampNeg]? = some (.int c0) := Has.at H_6 hin_8 rfl
  have C_10 : Steps p.tables e below S0 (s₁.setTop (mkF m 20 #[.val (.ref b), .val (.int (0 : Int32)), .val (.ref t), .val (.int (0 : Int32)), .val (.int (4 : Int32)), .val (.int (0 : Int32)), .val (.int c0)] [(.int (255 : Int32)), (.int c0)])) := by
    refine C0.trans ?_
    refine XS.iconst X0.here hx rfl (hb hby d5_0) ?_
    refine XS.istore X0.here hx rfl (hb hby d5_1) rfl (l' := #[.val (.ref b), .val (.int (0 : Int32)), .val (.ref t), .val (.int (0 : Int32)), .val (.int (4 : Int32)), .val (.int (0 : Int32)), .unset]) rfl ?_
    refine XS.iload X0.here hx rfl (hb hby d5_3) rfl ?_
    refine XS.iload X0.here hx rfl (hb hby d5_5) rfl ?_
    refine XS.icmpNo X0.here hx rfl (hb hby d5_7) rfl (by decide) ?_
    refine XS.aloadN X0.here hx rfl (hb hby d5_10) rfl rfl ?_
    refine XS.iloadN X0.here hx rfl (hb hby d5_11) rfl ?_
    refine X0.caload hx (j := (0 : Int32)) (v := (.int c0)) (by rw [e0]; exact A_2.1) (State.isArrayOf_alike hZ.alike A_2.2.1) A_2.2.2 hin_8 hat_9 (g := (mkF m 12 #[.val (.ref b), .val (.int (0 : Int32)), .val (.ref t), .val (.int (0 : Int32)), .val (.int (4 : Int32)), .val (.int (0 : Int32)), .unset] [(.int (0 : Int32)), (.ref b)])) rfl rfl (hb hby d5_12) _ ?_
    show Steps p.tables e below (s₁.setTop (mkF m 13 #[.val (.ref b), .val (.int (0 : Int32)), .val (.ref t), .val (.int (0 : Int32)), .val (.int (4 : Int32)), .val (.int (0 : Int32)), .unset] [(.int c0)])) _
    refine XS.istore X0.here hx rfl (hb hby d5_13) rfl (l' := #[.val (.ref b), .val (.int (0 : Int32)), .val (.ref t), .val (.int (0 : Int32)), .val (.int (4 : Int32)), .val (.int (0 : Int32)), .val (.int c0)]) rfl ?_
    refine XS.iload X0.here hx rfl (hb hby d5_15) rfl ?_
    refine XS.sipush X0.here hx rfl (hb hby d5_17) ?_
    exact Steps.refl _
  by_cases hc_11 : (255 : Int32) < c0
  · skip
    have C_12 : Steps p.tables e below S0 (s₁.setTop (mkF m 25 #[.val (.ref b), .val (.int (0 : Int32)), .val (.ref t), .val (.int (0 : Int32)), .val (.int (4 : Int32)), .val (.int (0 : Int32)), .val (.int c0)] [(.int (0 : Int32))])) := by
      refine C_10.trans ?_
      refine XS.icmpNo X0.here hx rfl (hb hby d5_20) rfl (ii_le_f hc_11) ?_
      refine XS.iload X0.here hx rfl (hb hby d5_23) rfl ?_
      exact Steps.refl _
    have K_13 : Keep h0 h0 [t] := (Keep.refl _ _)
    obtain ⟨fs, hr, hrun, hended, hW, hsame⟩ := X0.leave (v := some (.int (0 : Int32))) (fun h => by rw [Bd.returns] at h; cases h)
    refine ⟨_, _, C_12.trans (retOut X0 hx Bd.returns rfl (Or.inl ⟨rfl, Or.inl rfl, _, rfl⟩) (hb hby d5_25) hr), hrun, hended, _, _, rfl, ?_, ⟨_, rfl⟩, hW, hsame.mono (by decide) (by decide)⟩
    show Q_cmp5u_4 Z G1 b k t kt c0 c1 c2 c3 h0 n0 (some (.int (0 : Int32))) s₁.heap _
    rw [e0]
    exact Or.inl ⟨rfl, N0, K_13, hc_11⟩
  · skip
    obtain ⟨c_14, A_15, q_16, S_17, M_18, H_19, U_20⟩ := id hp1
    have hin_27 : ¬ ((0 : Int32) < 0 ∨ c_14.slots.size ≤ (0 : Int32).toNatClampNeg) := inb_of S_17 ⟨(by decide : ¬ ((0 : Int32) < (0 : Int32))), (by decide : (0 : Int32) < (4 : Int32))⟩
    obtain ⟨T_21, h_22, X_23, e_24, W_25, st_26⟩ := stB X0 hx hZ e0 A_15 (j := (0 : Int32)) hin_27 (g := (mkF m 31 #[.val (.ref b), .val (.int (0 : Int32)), .val (.ref t), .val (.int (0 : Int32)), .val (.int (4 : Int32)), .val (.int (0 : Int32)), .val (.int c0)] [(.int (c0.toInt8.toInt32)), (.int (0 : Int32)), (.ref t)])) rfl rfl (hb hby d5_31)
    have N_28 := Fr.snoc X_23 N0 hp2
    have V_29 : Arv Z h_22 t kt .byte (4 : Int32) [(.int (own_lo8 c0)), (.int (0 : Int32)), (.int (0 : Int32)), (.int (0 : Int32))] (.int (0 : Int32)) := Arv.set A_15 q_16 S_17 M_18 H_19 U_20 (fits_nar_byte _) W_25 0 rfl (Nat.le_of_ble_eq_true rfl)
    have V_30 : Arv Z h_22 b k .char (4 : Int32) [(.int c0), (.int c1), (.int c2), (.int c3)] (.int (0 : Int32)) := (hp0.other W_25 hp3)
    obtain ⟨c_31, A_32, q_33, S_34, M_35, H_36, U_37⟩ := id V_30
    have hin_38 : ¬ ((1 : Int32) < 0 ∨ c_31.slots.size ≤ (1 : Int32).toNatClampNeg) := inb_of S_34 ⟨(by decide : ¬ ((1 : Int32) < (0 : Int32))), (by decide : (1 : Int32) < (4 : Int32))⟩
    have hat_39 : c_31.slots[(1 : Int32).toNatClampNeg]? = some (.int c1) := Has.at H_36 hin_38 rfl
    have C_40 : Steps p.tables e below S0 (T_21.setTop (mkF m 20 #[.val (.ref b), .val (.int (1 : Int32)), .val (.ref t), .val (.int (1 : Int32)), .val (.int (4 : Int32)), .val (.int (1 : Int32)), .val (.int c1)] [(.int (255 : Int32)), (.int c1)])) := by
      refine C_10.trans ?_
      refine XS.icmpYes X0.here hx rfl (pc0 := 20) (pc' := 26) rfl (hb hby d5_20) rfl (ii_le_t hc_11) (by decide) (by decide) ?_
      refine XS.aloadN X0.here hx rfl (hb hby d5_26) rfl rfl ?_
      refine XS.iloadN X0.here hx rfl (hb hby d5_27) rfl ?_
      refine XS.iload X0.here hx rfl (hb hby d5_28) rfl ?_
      refine XS.i2b X0.here hx rfl (hb hby d5_30) rfl ?_
      refine st_26 _ ?_
      refine XS.iinc X_23.here hx rfl (hb hby d5_32) (x := (0 : Int32)) rfl (l' := #[.val (.ref b), .val (.int (1 : Int32)), .val (.ref t), .val (.int (0 : Int32)), .val (.int (4 : Int32)), .val (.int (0 : Int32)), .val (.int c0)]) rfl ?_
      refine XS.iinc X_23.here hx rfl (hb hby d5_35) (x := (0 : Int32)) rfl (l' := #[.val (.ref b), .val (.int (1 : Int32)), .val (.ref t), .val (.int (1 : Int32)), .val (.int (4 : Int32)), .val (.int (0 : Int32)), .val (.int c0)]) rfl ?_
      show Steps p.tables e below (T_21.setTop (mkF m 38 #[.val (.ref b), .val (.int (1 : Int32)), .val (.ref t), .val (.int (1 : Int32)), .val (.int (4 : Int32)), .val (.int (0 : Int32)), .val (.int c0)] [])) _
      refine XS.iinc X_23.here hx rfl (hb hby d5_38) (x := (0 : Int32)) rfl (l' := #[.val (.ref b), .val (.int (1 : Int32)), .val (.ref t), .val (.int (1 : Int32)), .val (.int (4 : Int32)), .val (.int (1 : Int32)), .val (.int c0)]) rfl ?_
      refine XS.goto X_23.here hx rfl (pc0 := 41) (pc' := 3) rfl (hb hby d5_41) (by decide) (by decide) ?_
      refine XS.iload X_23.here hx rfl (hb hby d5_3) rfl ?_
      refine XS.iload X_23.here hx rfl (hb hby d5_5) rfl ?_
      refine XS.icmpNo X_23.here hx rfl (hb hby d5_7) rfl (by decide) ?_
      refine XS.aloadN X_23.here hx rfl (hb hby d5_10) rfl rfl ?_
      refine XS.iloadN X_23.here hx rfl (hb hby d5_11) rfl ?_
      refine X_23.caload hx (j := (1 : Int32)) (v := (.int c1)) (by rw [e_24]; exact A_32.1) (State.isArrayOf_alike hZ.alike A_32.2.1) A_32.2.2 hin_38 hat_39 (g := (mkF m 12 #[.val (.ref b), .val (.int (1 : Int32)), .val (.ref t), .val (.int (1 : Int32)), .val (.int (4 : Int32)), .val (.int (1 : Int32)), .val (.int c0)] [(.int (1 : Int32)), (.ref b)])) rfl rfl (hb hby d5_12) _ ?_
      show Steps p.tables e below (T_21.setTop (mkF m 13 #[.val (.ref b), .val (.int (1 : Int32)), .val (.ref t), .val (.int (1 : Int32)), .val (.int (4 : Int32)), .val (.int (1 : Int32)), .val (.int c0)] [(.int c1)])) _
      refine XS.istore X_23.here hx rfl (hb hby d5_13) rfl (l' := #[.val (.ref b), .val (.int (1 : Int32)), .val (.ref t), .val (.int (1 : Int32)), .val (.int (4 : Int32)), .val (.int (1 : Int32)), .val (.int c1)]) rfl ?_
      refine XS.iload X_23.here hx rfl (hb hby d5_15) rfl ?_
      refine XS.sipush X_23.here hx rfl (hb hby d5_17) ?_
      exact Steps.refl _
    by_cases hc_41 : (255 : Int32) < c1
    · skip
      have C_42 : Steps p.tables e below S0 (T_21.setTop (mkF m 25 #[.val (.ref b), .val (.int (1 : Int32)), .val (.ref t), .val (.int (1 : Int32)), .val (.int (4 : Int32)), .val (.int (1 : Int32)), .val (.int c1)] [(.int (1 : Int32))])) := by
        refine C_40.trans ?_
        refine XS.icmpNo X_23.here hx rfl (hb hby d5_20) rfl (ii_le_f hc_41) ?_
        refine XS.iload X_23.here hx rfl (hb hby d5_23) rfl ?_
        exact Steps.refl _
      have K_43 : Keep h0 h_22 [t] := ((Keep.refl _ _).wr W_25 (Or.inl (List.mem_of_getElem? (i := 0) rfl)))
      obtain ⟨fs, hr, hrun, hended, hW, hsame⟩ := X_23.leave (v := some (.int (1 : Int32))) (fun h => by rw [Bd.returns] at h; cases h)
      refine ⟨_, _, C_42.trans (retOut X_23 hx Bd.returns rfl (Or.inl ⟨rfl, Or.inl rfl, _, rfl⟩) (hb hby d5_25) hr), hrun, hended, _, _, rfl, ?_, ⟨_, rfl⟩, hW, hsame.mono (by decide) (by decide)⟩
      show Q_cmp5u_4 Z G1 b k t kt c0 c1 c2 c3 h0 n0 (some (.int (1 : Int32))) T_21.heap _
      rw [e_24]
      exact Or.inr (Or.inl ⟨rfl, N_28, K_43, hc_41⟩)
    · skip
      obtain ⟨c_44, A_45, q_46, S_47, M_48, H_49, U_50⟩ := id V_29
      have hin_57 : ¬ ((1 : Int32) < 0 ∨ c_44.slots.size ≤ (1 : Int32).toNatClampNeg) := inb_of S_47 ⟨(by decide : ¬ ((1 : Int32) < (0 : Int32))), (by decide : (1 : Int32) < (4 : Int32))⟩
      obtain ⟨T_51, h_52, X_53, e_54, W_55, st_56⟩ := stB X_23 hx hZ e_24 A_45 (j := (1 : Int32)) hin_57 (g := (mkF m 31 #[.val (.ref b), .val (.int (1 : Int32)), .val (.ref t), .val (.int (1 : Int32)), .val (.int (4 : Int32)), .val (.int (1 : Int32)), .val (.int c1)] [(.int (c1.toInt8.toInt32)), (.int (1 : Int32)), (.ref t)])) rfl rfl (hb hby d5_31)
      have N_58 := Fr.snoc X_53 N_28 hp2
      have V_59 : Arv Z h_52 t kt .byte (4 : Int32) [(.int (own_lo8 c0)), (.int (own_lo8 c1)), (.int (0 : Int32)), (.int (0 : Int32))] (.int (0 : Int32)) := Arv.set A_45 q_46 S_47 M_48 H_49 U_50 (fits_nar_byte _) W_55 1 rfl (Nat.le_of_ble_eq_true rfl)
      have V_60 : Arv Z h_52 b k .char (4 : Int32) [(.int c0), (.int c1), (.int c2), (.int c3)] (.int (0 : Int32)) := (V_30.other W_55 hp3)
      obtain ⟨c_61, A_62, q_63, S_64, M_65, H_66, U_67⟩ := id V_60
      have hin_68 : ¬ ((2 : Int32) < 0 ∨ c_61.slots.size ≤ (2 : Int32).toNatClampNeg) := inb_of S_64 ⟨(by decide : ¬ ((2 : Int32) < (0 : Int32))), (by decide : (2 : Int32) < (4 : Int32))⟩
      have hat_69 : c_61.slots[(2 : Int32).toNatClampNeg]? = some (.int c2) := Has.at H_66 hin_68 rfl
      have C_70 : Steps p.tables e below S0 (T_51.setTop (mkF m 20 #[.val (.ref b), .val (.int (2 : Int32)), .val (.ref t), .val (.int (2 : Int32)), .val (.int (4 : Int32)), .val (.int (2 : Int32)), .val (.int c2)] [(.int (255 : Int32)), (.int c2)])) := by
        refine C_40.trans ?_
        refine XS.icmpYes X_23.here hx rfl (pc0 := 20) (pc' := 26) rfl (hb hby d5_20) rfl (ii_le_t hc_41) (by decide) (by decide) ?_
        refine XS.aloadN X_23.here hx rfl (hb hby d5_26) rfl rfl ?_
        refine XS.iloadN X_23.here hx rfl (hb hby d5_27) rfl ?_
        refine XS.iload X_23.here hx rfl (hb hby d5_28) rfl ?_
        refine XS.i2b X_23.here hx rfl (hb hby d5_30) rfl ?_
        refine st_56 _ ?_
        refine XS.iinc X_53.here hx rfl (hb hby d5_32) (x := (1 : Int32)) rfl (l' := #[.val (.ref b), .val (.int (2 : Int32)), .val (.ref t), .val (.int (1 : Int32)), .val (.int (4 : Int32)), .val (.int (1 : Int32)), .val (.int c1)]) rfl ?_
        refine XS.iinc X_53.here hx rfl (hb hby d5_35) (x := (1 : Int32)) rfl (l' := #[.val (.ref b), .val (.int (2 : Int32)), .val (.ref t), .val (.int (2 : Int32)), .val (.int (4 : Int32)), .val (.int (1 : Int32)), .val (.int c1)]) rfl ?_
        show Steps p.tables e below (T_51.setTop (mkF m 38 #[.val (.ref b), .val (.int (2 : Int32)), .val (.ref t), .val (.int (2 : Int32)), .val (.int (4 : Int32)), .val (.int (1 : Int32)), .val (.int c1)] [])) _
        refine XS.iinc X_53.here hx rfl (hb hby d5_38) (x := (1 : Int32)) rfl (l' := #[.val (.ref b), .val (.int (2 : Int32)), .val (.ref t), .val (.int (2 : Int32)), .val (.int (4 : Int32)), .val (.int (2 : Int32)), .val (.int c1)]) rfl ?_
        refine XS.goto X_53.here hx rfl (pc0 := 41) (pc' := 3) rfl (hb hby d5_41) (by decide) (by decide) ?_
        refine XS.iload X_53.here hx rfl (hb hby d5_3) rfl ?_
        refine XS.iload X_53.here hx rfl (hb hby d5_5) rfl ?_
        refine XS.icmpNo X_53.here hx rfl (hb hby d5_7) rfl (by decide) ?_
        refine XS.aloadN X_53.here hx rfl (hb hby d5_10) rfl rfl ?_
        refine XS.iloadN X_53.here hx rfl (hb hby d5_11) rfl ?_
        refine X_53.caload hx (j := (2 : Int32)) (v := (.int c2)) (by rw [e_54]; exact A_62.1) (State.isArrayOf_alike hZ.alike A_62.2.1) A_62.2.2 hin_68 hat_69 (g := (mkF m 12 #[.val (.ref b), .val (.int (2 : Int32)), .val (.ref t), .val (.int (2 : Int32)), .val (.int (4 : Int32)), .val (.int (2 : Int32)), .val (.int c1)] [(.int (2 : Int32)), (.ref b)])) rfl rfl (hb hby d5_12) _ ?_
        show Steps p.tables e below (T_51.setTop (mkF m 13 #[.val (.ref b), .val (.int (2 : Int32)), .val (.ref t), .val (.int (2 : Int32)), .val (.int (4 : Int32)), .val (.int (2 : Int32)), .val (.int c1)] [(.int c2)])) _
        refine XS.istore X_53.here hx rfl (hb hby d5_13) rfl (l' := #[.val (.ref b), .val (.int (2 : Int32)), .val (.ref t), .val (.int (2 : Int32)), .val (.int (4 : Int32)), .val (.int (2 : Int32)), .val (.int c2)]) rfl ?_
        refine XS.iload X_53.here hx rfl (hb hby d5_15) rfl ?_
        refine XS.sipush X_53.here hx rfl (hb hby d5_17) ?_
        exact Steps.refl _
      by_cases hc_71 : (255 : Int32) < c2
      · skip
        have C_72 : Steps p.tables e below S0 (T_51.setTop (mkF m 25 #[.val (.ref b), .val (.int (2 : Int32)), .val (.ref t), .val (.int (2 : Int32)), .val (.int (4 : Int32)), .val (.int (2 : Int32)), .val (.int c2)] [(.int (2 : Int32))])) := by
          refine C_70.trans ?_
          refine XS.icmpNo X_53.here hx rfl (hb hby d5_20) rfl (ii_le_f hc_71) ?_
          refine XS.iload X_53.here hx rfl (hb hby d5_23) rfl ?_
          exact Steps.refl _
        have K_73 : Keep h0 h_52 [t] := (((Keep.refl _ _).wr W_25 (Or.inl (List.mem_of_getElem? (i := 0) rfl))).wr W_55 (Or.inl (List.mem_of_getElem? (i := 0) rfl)))
        obtain ⟨fs, hr, hrun, hended, hW, hsame⟩ := X_53.leave (v := some (.int (2 : Int32))) (fun h => by rw [Bd.returns] at h; cases h)
        refine ⟨_, _, C_72.trans (retOut X_53 hx Bd.returns rfl (Or.inl ⟨rfl, Or.inl rfl, _, rfl⟩) (hb hby d5_25) hr), hrun, hended, _, _, rfl, ?_, ⟨_, rfl⟩, hW, hsame.mono (by decide) (by decide)⟩
        show Q_cmp5u_4 Z G1 b k t kt c0 c1 c2 c3 h0 n0 (some (.int (2 : Int32))) T_51.heap _
        rw [e_54]
        exact Or.inr (Or.inr (Or.inl ⟨rfl, N_58, K_73, hc_71⟩))
      · skip
        obtain ⟨c_74, A_75, q_76, S_77, M_78, H_79, U_80⟩ := id V_59
        have hin_87 : ¬ ((2 : Int32) < 0 ∨ c_74.slots.size ≤ (2 : Int32).toNatClampNeg) := inb_of S_77 ⟨(by decide : ¬ ((2 : Int32) < (0 : Int32))), (by decide : (2 : Int32) < (4 : Int32))⟩
        obtain ⟨T_81, h_82, X_83, e_84, W_85, st_86⟩ := stB X_53 hx hZ e_54 A_75 (j := (2 : Int32)) hin_87 (g := (mkF m 31 #[.val (.ref b), .val (.int (2 : Int32)), .val (.ref t), .val (.int (2 : Int32)), .val (.int (4 : Int32)), .val (.int (2 : Int32)), .val (.int c2)] [(.int (c2.toInt8.toInt32)), (.int (2 : Int32)), (.ref t)])) rfl rfl (hb hby d5_31)
        have N_88 := Fr.snoc X_83 N_58 hp2
        have V_89 : Arv Z h_82 t kt .byte (4 : Int32) [(.int (own_lo8 c0)), (.int (own_lo8 c1)), (.int (own_lo8 c2)), (.int (0 : Int32))] (.int (0 : Int32)) := Arv.set A_75 q_76 S_77 M_78 H_79 U_80 (fits_nar_byte _) W_85 2 rfl (Nat.le_of_ble_eq_true rfl)
        have V_90 : Arv Z h_82 b k .char (4 : Int32) [(.int c0), (.int c1), (.int c2), (.int c3)] (.int (0 : Int32)) := (V_60.other W_85 hp3)
        obtain ⟨c_91, A_92, q_93, S_94, M_95, H_96, U_97⟩ := id V_90
        have hin_98 : ¬ ((3 : Int32) < 0 ∨ c_91.slots.size ≤ (3 : Int32).toNatClampNeg) := inb_of S_94 ⟨(by decide : ¬ ((3 : Int32) < (0 : Int32))), (by decide : (3 : Int32) < (4 : Int32))⟩
        have hat_99 : c_91.slots[(3 : Int32).toNatClampNeg]? = some (.int c3) := Has.at H_96 hin_98 rfl
        have C_100 : Steps p.tables e below S0 (T_81.setTop (mkF m 20 #[.val (.ref b), .val (.int (3 : Int32)), .val (.ref t), .val (.int (3 : Int32)), .val (.int (4 : Int32)), .val (.int (3 : Int32)), .val (.int c3)] [(.int (255 : Int32)), (.int c3)])) := by
          refine C_70.trans ?_
          refine XS.icmpYes X_53.here hx rfl (pc0 := 20) (pc' := 26) rfl (hb hby d5_20) rfl (ii_le_t hc_71) (by decide) (by decide) ?_
          refine XS.aloadN X_53.here hx rfl (hb hby d5_26) rfl rfl ?_
          refine XS.iloadN X_53.here hx rfl (hb hby d5_27) rfl ?_
          refine XS.iload X_53.here hx rfl (hb hby d5_28) rfl ?_
          refine XS.i2b X_53.here hx rfl (hb hby d5_30) rfl ?_
          refine st_86 _ ?_
          refine XS.iinc X_83.here hx rfl (hb hby d5_32) (x := (2 : Int32)) rfl (l' := #[.val (.ref b), .val (.int (3 : Int32)), .val (.ref t), .val (.int (2 : Int32)), .val (.int (4 : Int32)), .val (.int (2 : Int32)), .val (.int c2)]) rfl ?_
          refine XS.iinc X_83.here hx rfl (hb hby d5_35) (x := (2 : Int32)) rfl (l' := #[.val (.ref b), .val (.int (3 : Int32)), .val (.ref t), .val (.int (3 : Int32)), .val (.int (4 : Int32)), .val (.int (2 : Int32)), .val (.int c2)]) rfl ?_
          show Steps p.tables e below (T_81.setTop (mkF m 38 #[.val (.ref b), .val (.int (3 : Int32)), .val (.ref t), .val (.int (3 : Int32)), .val (.int (4 : Int32)), .val (.int (2 : Int32)), .val (.int c2)] [])) _
          refine XS.iinc X_83.here hx rfl (hb hby d5_38) (x := (2 : Int32)) rfl (l' := #[.val (.ref b), .val (.int (3 : Int32)), .val (.ref t), .val (.int (3 : Int32)), .val (.int (4 : Int32)), .val (.int (3 : Int32)), .val (.int c2)]) rfl ?_
          refine XS.goto X_83.here hx rfl (pc0 := 41) (pc' := 3) rfl (hb hby d5_41) (by decide) (by decide) ?_
          refine XS.iload X_83.here hx rfl (hb hby d5_3) rfl ?_
          refine XS.iload X_83.here hx rfl (hb hby d5_5) rfl ?_
          refine XS.icmpNo X_83.here hx rfl (hb hby d5_7) rfl (by decide) ?_
          refine XS.aloadN X_83.here hx rfl (hb hby d5_10) rfl rfl ?_
          refine XS.iloadN X_83.here hx rfl (hb hby d5_11) rfl ?_
          refine X_83.caload hx (j := (3 : Int32)) (v := (.int c3)) (by rw [e_84]; exact A_92.1) (State.isArrayOf_alike hZ.alike A_92.2.1) A_92.2.2 hin_98 hat_99 (g := (mkF m 12 #[.val (.ref b), .val (.int (3 : Int32)), .val (.ref t), .val (.int (3 : Int32)), .val (.int (4 : Int32)), .val (.int (3 : Int32)), .val (.int c2)] [(.int (3 : Int32)), (.ref b)])) rfl rfl (hb hby d5_12) _ ?_
          show Steps p.tables e below (T_81.setTop (mkF m 13 #[.val (.ref b), .val (.int (3 : Int32)), .val (.ref t), .val (.int (3 : Int32)), .val (.int (4 : Int32)), .val (.int (3 : Int32)), .val (.int c2)] [(.int c3)])) _
          refine XS.istore X_83.here hx rfl (hb hby d5_13) rfl (l' := #[.val (.ref b), .val (.int (3 : Int32)), .val (.ref t), .val (.int (3 : Int32)), .val (.int (4 : Int32)), .val (.int (3 : Int32)), .val (.int c3)]) rfl ?_
          refine XS.iload X_83.here hx rfl (hb hby d5_15) rfl ?_
          refine XS.sipush X_83.here hx rfl (hb hby d5_17) ?_
          exact Steps.refl _
        by_cases hc_101 : (255 : Int32) < c3
        · skip
          have C_102 : Steps p.tables e below S0 (T_81.setTop (mkF m 25 #[.val (.ref b), .val (.int (3 : Int32)), .val (.ref t), .val (.int (3 : Int32)), .val (.int (4 : Int32)), .val (.int (3 : Int32)), .val (.int c3)] [(.int (3 : Int32))])) := by
            refine C_100.trans ?_
            refine XS.icmpNo X_83.here hx rfl (hb hby d5_20) rfl (ii_le_f hc_101) ?_
            refine XS.iload X_83.here hx rfl (hb hby d5_23) rfl ?_
            exact Steps.refl _
          have K_103 : Keep h0 h_82 [t] := ((((Keep.refl _ _).wr W_25 (Or.inl (List.mem_of_getElem? (i := 0) rfl))).wr W_55 (Or.inl (List.mem_of_getElem? (i := 0) rfl))).wr W_85 (Or.inl (List.mem_of_getElem? (i := 0) rfl)))
          obtain ⟨fs, hr, hrun, hended, hW, hsame⟩ := X_83.leave (v := some (.int (3 : Int32))) (fun h => by rw [Bd.returns] at h; cases h)
          refine ⟨_, _, C_102.trans (retOut X_83 hx Bd.returns rfl (Or.inl ⟨rfl, Or.inl rfl, _, rfl⟩) (hb hby d5_25) hr), hrun, hended, _, _, rfl, ?_, ⟨_, rfl⟩, hW, hsame.mono (by decide) (by decide)⟩
          show Q_cmp5u_4 Z G1 b k t kt c0 c1 c2 c3 h0 n0 (some (.int (3 : Int32))) T_81.heap _
          rw [e_84]
          exact Or.inr (Or.inr (Or.inr (Or.inl ⟨rfl, N_88, K_103, hc_101⟩)))
        · skip
          obtain ⟨c_104, A_105, q_106, S_107, M_108, H_109, U_110⟩ := id V_89
          have hin_117 : ¬ ((3 : Int32) < 0 ∨ c_104.slots.size ≤ (3 : Int32).toNatClampNeg) := inb_of S_107 ⟨(by decide : ¬ ((3 : Int32) < (0 : Int32))), (by decide : (3 : Int32) < (4 : Int32))⟩
          obtain ⟨T_111, h_112, X_113, e_114, W_115, st_116⟩ := stB X_83 hx hZ e_84 A_105 (j := (3 : Int32)) hin_117 (g := (mkF m 31 #[.val (.ref b), .val (.int (3 : Int32)), .val (.ref t), .val (.int (3 : Int32)), .val (.int (4 : Int32)), .val (.int (3 : Int32)), .val (.int c3)] [(.int (c3.toInt8.toInt32)), (.int (3 : Int32)), (.ref t)])) rfl rfl (hb hby d5_31)
          have N_118 := Fr.snoc X_113 N_88 hp2
          have V_119 : Arv Z h_112 t kt .byte (4 : Int32) [(.int (own_lo8 c0)), (.int (own_lo8 c1)), (.int (own_lo8 c2)), (.int (own_lo8 c3))] (.int (0 : Int32)) := Arv.set A_105 q_106 S_107 M_108 H_109 U_110 (fits_nar_byte _) W_115 3 rfl (Nat.le_of_ble_eq_true rfl)
          have C_120 : Steps p.tables e below S0 (T_111.setTop (mkF m 46 #[.val (.ref b), .val (.int (4 : Int32)), .val (.ref t), .val (.int (4 : Int32)), .val (.int (4 : Int32)), .val (.int (4 : Int32)), .val (.int c3)] [(.int (4 : Int32))])) := by
            refine C_100.trans ?_
            refine XS.icmpYes X_83.here hx rfl (pc0 := 20) (pc' := 26) rfl (hb hby d5_20) rfl (ii_le_t hc_101) (by decide) (by decide) ?_
            refine XS.aloadN X_83.here hx rfl (hb hby d5_26) rfl rfl ?_
            refine XS.iloadN X_83.here hx rfl (hb hby d5_27) rfl ?_
            refine XS.iload X_83.here hx rfl (hb hby d5_28) rfl ?_
            refine XS.i2b X_83.here hx rfl (hb hby d5_30) rfl ?_
            refine st_116 _ ?_
            refine XS.iinc X_113.here hx rfl (hb hby d5_32) (x := (3 : Int32)) rfl (l' := #[.val (.ref b), .val (.int (4 : Int32)), .val (.ref t), .val (.int (3 : Int32)), .val (.int (4 : Int32)), .val (.int (3 : Int32)), .val (.int c3)]) rfl ?_
            refine XS.iinc X_113.here hx rfl (hb hby d5_35) (x := (3 : Int32)) rfl (l' := #[.val (.ref b), .val (.int (4 : Int32)), .val (.ref t), .val (.int (4 : Int32)), .val (.int (4 : Int32)), .val (.int (3 : Int32)), .val (.int c3)]) rfl ?_
            show Steps p.tables e below (T_111.setTop (mkF m 38 #[.val (.ref b), .val (.int (4 : Int32)), .val (.ref t), .val (.int (4 : Int32)), .val (.int (4 : Int32)), .val (.int (3 : Int32)), .val (.int c3)] [])) _
            refine XS.iinc X_113.here hx rfl (hb hby d5_38) (x := (3 : Int32)) rfl (l' := #[.val (.ref b), .val (.int (4 : Int32)), .val (.ref t), .val (.int (4 : Int32)), .val (.int (4 : Int32)), .val (.int (4 : Int32)), .val (.int c3)]) rfl ?_
            refine XS.goto X_113.here hx rfl (pc0 := 41) (pc' := 3) rfl (hb hby d5_41) (by decide) (by decide) ?_
            refine XS.iload X_113.here hx rfl (hb hby d5_3) rfl ?_
            refine XS.iload X_113.here hx rfl (hb hby d5_5) rfl ?_
            refine XS.icmpYes X_113.here hx rfl (pc0 := 7) (pc' := 44) rfl (hb hby d5_7) rfl (by decide) (by decide) (by decide) ?_
            refine XS.iload X_113.here hx rfl (hb hby d5_44) rfl ?_
            exact Steps.refl _
          have K_121 : Keep h0 h_112 [t] := (((((Keep.refl _ _).wr W_25 (Or.inl (List.mem_of_getElem? (i := 0) rfl))).wr W_55 (Or.inl (List.mem_of_getElem? (i := 0) rfl))).wr W_85 (Or.inl (List.mem_of_getElem? (i := 0) rfl))).wr W_115 (Or.inl (List.mem_of_getElem? (i := 0) rfl)))
          obtain ⟨fs, hr, hrun, hended, hW, hsame⟩ := X_113.leave (v := some (.int (4 : Int32))) (fun h => by rw [Bd.returns] at h; cases h)
          refine ⟨_, _, C_120.trans (retOut X_113 hx Bd.returns rfl (Or.inl ⟨rfl, Or.inl rfl, _, rfl⟩) (hb hby d5_46) hr), hrun, hended, _, _, rfl, ?_, ⟨_, rfl⟩, hW, hsame.mono (by decide) (by decide)⟩
          show Q_cmp5u_4 Z G1 b k t kt c0 c1 c2 c3 h0 n0 (some (.int (4 : Int32))) T_111.heap _
          rw [e_114]
          exact Or.inr (Or.inr (Or.inr (Or.inr (⟨rfl, N_118, K_121, V_119, hc_11, hc_41, hc_71, hc_101⟩))))
abbrev R_cmp3u_4 : Room := { frames := 3, cells := 2, slots := 12, locals := 40 }
def Q_cmp3u_4 (Z : State) (G1 : Int32) (b : Addr) (k : ClassId) (c0 : Int32) (c1 : Int32) (c2 : Int32) (c3 : Int32) (h0 : Heap) (n0 : Nat) (v : Option Value) (h : Heap) (L : List Loc) : Prop := (∃ t : Addr, ∃ kt : ClassId, v = some (.ref t) ∧ Fr n0 L ∧ Keep h0 h [] ∧ (h0.size ≤ t) ∧ (Arv Z h t kt .byte (4 : Int32) [(.int (own_lo8 c0)), (.int (own_lo8 c1)), (.int (own_lo8 c2)), (.int (own_lo8 c3))] (.int (0 : Int32)))) ∨ (∃ t : Addr, ∃ kt : ClassId, v = some (.ref t) ∧ Fr n0 L ∧ Keep h0 h [] ∧ (h0.size ≤ t) ∧ (Arv Z h t kt .byte (8 : Int32) [(.int (own_lo8z c0)), (.int (own_hi8 c0)), (.int (own_lo8z c1)), (.int (own_hi8 c1)), (.int (own_lo8z c2)), (.int (own_hi8 c2)), (.int (own_lo8z c3)), (.int (own_hi8 c3))] (.int (0 : Int32))))
set_option maxRecDepth 65536 in
set_option maxHeartbeats 40000000 in
theorem rm_cmp3u_4 (l : Launch) (Z : State) (a0 : Array Value) (hw : ∀ d ∈ tables_1, d.before a0 Z = true) (ws : List Jvm.Cond) (G1 : Int32) (HG : own_G l Z a0 G1) (h0 : Heap) (n0 : Nat) (X00 : Old Z n0 h0) (b : Addr) (k : ClassId) (c0 : Int32) (c1 : Int32) (c2 : Int32) (c3 : Int32) (hp0 : Arv Z h0 b k .char (4 : Int32) [(.int c0), (.int c1), (.int c2), (.int c3)] (.int (0 : Int32))) (hl0 : ¬ (c0 < (0 : Int32))) (hl1 : ¬ (c1 < (0 : Int32))) (hl2 : ¬ (c2 < (0 : Int32))) (hl3 : ¬ (c3 < (0 : Int32))) (hm0 : ¬ ((65535 : Int32) < c0)) (hm1 : ¬ ((65535 : Int32) < c1)) (hm2 : ¬ ((65535 : Int32) < c2)) (hm3 : ¬ ((65535 : Int32) < c3)) :
    own_CP l Z M133 jdk_52_method_16_code 6 (some (.array .byte)) ws R_cmp3u_4 #[(.ref b), (.int (0 : Int32)), (.int (4 : Int32))] h0 (Q_cmp3u_4 Z G1 b k c0 c1 c2 c3 h0 n0) := by
  refine own_P (plainFor_of_name pn_2) ?_
  intro p e s m below meth c s₁ S0 Bd hZ hh hx hby hml hown hnm X0 e0 hS0d
  obtain ⟨O1, P1, OAD, OHI, OLO⟩ := id HG
  have N0 := Fr.nil n0
  have C0 : Steps p.tables e below S0 (s₁.setTop (mkF m 0 #[.val (.ref b), .val (.int (0 : Int32)), .val (.int (4 : Int32)), .unset, .unset, .unset] [])) := by rw [hS0d]; exact castTop (ef_134 m b (0 : Int32) (4 : Int32)) (Steps.refl _)
  obtain ⟨T_1, h_2, k_3, X_4, e_5, E_6, A_7, st_8⟩ := newP (aty := .byte) X0 hx hZ (w24 hw) e0 (g := (mkF m 1 #[.val (.ref b), .val (.int (0 : Int32)), .val (.int (4 : Int32)), .unset, .unset, .unset] [(.int (4 : Int32))])) rfl (hb hby d6_1) rfl (by decide : ¬ ((4 : Int32) < (0 : Int32))) (cap := 4) (by decide : (4 : Int32).toNatClampNeg ≤ 4) (by decide) (by decide) (by decide)
  obtain ⟨a_9, g_10⟩ : ∃ z, z = h0.size := ⟨_, rfl⟩
  rw [← g_10] at A_7 st_8
  have V_12 : Arv Z h_2 a_9 k_3 .byte (4 : Int32) [] (.int (0 : Int32)) := Arv.new A_7 (by decide : ¬ ((4 : Int32) < (0 : Int32)))
  have V_11 : Arv Z h_2 a_9 k_3 .byte (4 : Int32) [(.int (0 : Int32)), (.int (0 : Int32)), (.int (0 : Int32)), (.int (0 : Int32))] (.int (0 : Int32)) := (V_12.pad (pad_rep [] (.int (0 : Int32)) 4))
  have V_13 : Arv Z h_2 b k .char (4 : Int32) [(.int c0), (.int c1), (.int c2), (.int c3)] (.int (0 : Int32)) := (hp0.ext E_6)
  have O_14 : Old Z n0 h_2 := (X00.ext E_6)
  obtain ⟨_, _, ⟨T_15, L_15, k_15, n_15⟩, -, X_15, ⟨Lc_15, hQ_15, l_15, y_15, z_15⟩, st_15⟩ := Jvm.LawKit.callS X_4 hx (y := M106) hown (mvT hZ (w25 hw)) (mvT hZ (w26 hw)) (mvT hZ (w22 hw)) (mvT hZ (w27 hw)) (by decide) (backOf (W := 0) (rm_cmp5u_4 l Z a0 hw [] G1 HG h_2 n0 O_14 b k a_9 k_3 c0 c1 c2 c3 V_13 V_11 (Nat.le_trans (own_n0 X00) (Nat.le_of_eq g_10.symm)) (Nat.ne_of_lt (Nat.lt_of_lt_of_le hp0.lt (Nat.le_trans (Nat.le_refl _) (Nat.le_of_eq g_10.symm))))) hZ (w27 hw) (w22 hw) (by decide) (by decide)) (g := (mkF m 9 #[.val (.ref b), .val (.int (0 : Int32)), .val (.int (4 : Int32)), .val (.ref a_9), .unset, .unset] [(.int (4 : Int32)), (.int (0 : Int32)), (.ref a_9), (.int (0 : Int32)), (.ref b)])) rfl (by rw [hml]; rfl) (argsL := [(.ref b), (.int (0 : Int32)), (.ref a_9), (.int (0 : Int32)), (.int (4 : Int32))]) (rest := []) (lenOf pd_144 rfl) rfl (by show 2 * 0 + _ ≤ _; exact Nat.le_of_eq rfl) (hb hby d6_9) (fun _ _ => ⟨rfl, e_5, (by decide : 1 + 0 ≤ _), (by decide : 4 + 0 ≤ _)⟩)
  dsimp only [Pt.U, Pt.locs, Pt.cells, Pt.slots] at X_15 l_15 y_15 z_15 st_15 hQ_15
  subst l_15 y_15 z_15
  have C_16 : Steps p.tables e below S0 (T_1.setTop (mkF m 9 #[.val (.ref b), .val (.int (0 : Int32)), .val (.int (4 : Int32)), .val (.ref a_9), .unset, .unset] [(.int (4 : Int32)), (.int (0 : Int32)), (.ref a_9), (.int (0 : Int32)), (.ref b)])) := by
    refine C0.trans ?_
    refine XS.iloadN X0.here hx rfl (hb hby d6_0) rfl ?_
    refine st_8 _ ?_
    refine XS.astoreN X_4.here hx rfl (hb hby d6_3) rfl rfl (l' := #[.val (.ref b), .val (.int (0 : Int32)), .val (.int (4 : Int32)), .val (.ref a_9), .unset, .unset]) rfl ?_
    refine XS.aloadN X_4.here hx rfl (hb hby d6_4) rfl rfl ?_
    refine XS.iloadN X_4.here hx rfl (hb hby d6_5) rfl ?_
    refine XS.aloadN X_4.here hx rfl (hb hby d6_6) rfl rfl ?_
    refine XS.iconst X_4.here hx rfl (hb hby d6_7) ?_
    refine XS.iloadN X_4.here hx rfl (hb hby d6_8) rfl ?_
    show Steps p.tables e below (T_1.setTop (mkF m 9 #[.val (.ref b), .val (.int (0 : Int32)), .val (.int (4 : Int32)), .val (.ref a_9), .unset, .unset] [(.int (4 : Int32)), (.int (0 : Int32)), (.ref a_9), (.int (0 : Int32)), (.ref b)])) _
    exact Steps.refl _
  rcases hQ_15 with hQ_17 | hQ_18 | hQ_19 | hQ_20 | hQ_21
  · skip
    obtain ⟨rfl, N_22, K_23, g_24⟩ := hQ_17
    have N_25 := Fr.app N0 N_22
    have V_26 : Arv Z T_15.heap b k .char (4 : Int32) [(.int c0), (.int c1), (.int c2), (.int c3)] (.int (0 : Int32)) := (V_13.keep K_23 (ninS (Nat.ne_of_lt (Nat.lt_of_lt_of_le hp0.lt (Nat.le_trans (Nat.le_refl _) (Nat.le_of_eq g_10.symm)))) nin0))
    have O_27 : Old Z n0 T_15.heap := (O_14.keep K_23 (allS (Nat.le_trans (own_n0 X00) (Nat.le_of_eq g_10.symm)) all0))
    obtain ⟨_, _, ⟨T_28, L_28, k_28, n_28⟩, -, X_28, ⟨Lc_28, hQ_28, l_28, y_28, z_28⟩, st_28⟩ := Jvm.LawKit.callS X_15 hx (y := M51) hown (mvT hZ (w68 hw)) (mvT hZ (w69 hw)) (mvT hZ (w22 hw)) (mvT hZ (w70 hw)) (by decide) (backOf (W := 0) (rm_tob_4 l Z a0 hw [] G1 HG T_15.heap n0 O_27 b k c0 c1 c2 c3 V_26) hZ (w70 hw) (w22 hw) (by decide) (by decide)) (g := (mkF m 23 #[.val (.ref b), .val (.int (0 : Int32)), .val (.int (4 : Int32)), .val (.ref a_9), .val (.int (0 : Int32)), .unset] [(.int (4 : Int32)), (.int (0 : Int32)), (.ref b)])) rfl (by rw [hml]; rfl) (argsL := [(.ref b), (.int (0 : Int32)), (.int (4 : Int32))]) (rest := []) (lenOf pd_156 rfl) rfl (by show 2 * 0 + _ ≤ _; exact Nat.le_of_eq rfl) (hb hby d6_23) (fun _ _ => ⟨rfl, rfl, (by decide : 1 + 1 ≤ _), (by decide : 4 + 8 ≤ _)⟩)
    dsimp only [Pt.U, Pt.locs, Pt.cells, Pt.slots] at X_28 l_28 y_28 z_28 st_28 hQ_28
    subst l_28 y_28 z_28
    obtain ⟨a_29, k_30, rfl, N_31, K_32, g_33, g_34⟩ := hQ_28
    have N_35 := Fr.app N_25 N_31
    have O_36 : Old Z n0 T_28.heap := (O_27.keep K_32 all0)
    obtain ⟨_, _, ⟨T_37, L_37, k_37, n_37⟩, -, X_37, ⟨Lc_37, hQ_37, l_37, y_37, z_37⟩, st_37⟩ := Jvm.LawKit.callS X_28 hx (y := M80) hown (mvT hZ (w84 hw)) (mvT hZ (w85 hw)) (mvT hZ (w22 hw)) (mvT hZ (w86 hw)) (by decide) (backOf (W := 0) (rm_get_4_0 l Z a0 hw [] G1 HG T_28.heap n0 O_36 a_29 k_30 (own_lo8z c0) (own_hi8 c0) (own_lo8z c1) (own_hi8 c1) (own_lo8z c2) (own_hi8 c2) (own_lo8z c3) (own_hi8 c3) g_34) hZ (w86 hw) (w22 hw) (by decide) (by decide)) (g := (mkF m 32 #[.val (.ref b), .val (.int (0 : Int32)), .val (.int (4 : Int32)), .val (.ref a_9), .val (.int (0 : Int32)), .val (.ref a_29)] [(.int (0 : Int32)), (.ref a_29)])) rfl (by rw [hml]; rfl) (argsL := [(.ref a_29), (.int (0 : Int32))]) (rest := []) (lenOf pd_164 rfl) rfl (by show 2 * 0 + _ ≤ _; exact Nat.le_of_eq rfl) (hb hby d6_32) (fun _ _ => ⟨rfl, rfl, (by decide : 2 + 0 ≤ _), (by decide : 12 + 0 ≤ _)⟩)
    dsimp only [Pt.U, Pt.locs, Pt.cells, Pt.slots] at X_37 l_37 y_37 z_37 st_37 hQ_37
    subst l_37 y_37 z_37
    obtain ⟨rfl, N_38, e_39⟩ := hQ_37
    have N_40 := Fr.app N_35 N_38
    have e_41 : T_37.heap = T_28.heap := e_39
    have C_42 : Steps p.tables e below S0 (T_37.setTop (mkF m 56 #[.val (.ref b), .val (.int (0 : Int32)), .val (.int (4 : Int32)), .val (.ref a_9), .val (.int (0 : Int32)), .val (.ref a_29)] [(.ref a_29)])) := by
      refine C_16.trans ?_
      refine st_15 _ ?_
      refine XS.istore X_15.here hx rfl (hb hby d6_12) rfl (l' := #[.val (.ref b), .val (.int (0 : Int32)), .val (.int (4 : Int32)), .val (.ref a_9), .val (.int (0 : Int32)), .unset]) rfl ?_
      refine XS.iload X_15.here hx rfl (hb hby d6_14) rfl ?_
      refine XS.iloadN X_15.here hx rfl (hb hby d6_16) rfl ?_
      refine XS.icmpNo X_15.here hx rfl (hb hby d6_17) rfl (by decide) ?_
      refine XS.aloadN X_15.here hx rfl (hb hby d6_20) rfl rfl ?_
      refine XS.iloadN X_15.here hx rfl (hb hby d6_21) rfl ?_
      refine XS.iloadN X_15.here hx rfl (hb hby d6_22) rfl ?_
      show Steps p.tables e below (T_15.setTop (mkF m 23 #[.val (.ref b), .val (.int (0 : Int32)), .val (.int (4 : Int32)), .val (.ref a_9), .val (.int (0 : Int32)), .unset] [(.int (4 : Int32)), (.int (0 : Int32)), (.ref b)])) _
      refine st_28 _ ?_
      refine XS.astore X_28.here hx rfl (hb hby d6_26) rfl rfl (l' := #[.val (.ref b), .val (.int (0 : Int32)), .val (.int (4 : Int32)), .val (.ref a_9), .val (.int (0 : Int32)), .val (.ref a_29)]) rfl ?_
      refine XS.aload X_28.here hx rfl (hb hby d6_28) rfl rfl ?_
      refine XS.iload X_28.here hx rfl (hb hby d6_30) rfl ?_
      refine st_37 _ ?_
      refine XS.sipush X_37.here hx rfl (hb hby d6_35) ?_
      refine XS.icmpYes X_37.here hx rfl (pc0 := 38) (pc' := 54) rfl (hb hby d6_38) rfl (ii_gt_t (by rw [own_pair_says hl0 hm0]; exact g_24)) (by decide) (by decide) ?_
      refine XS.aload X_37.here hx rfl (hb hby d6_54) rfl rfl ?_
      show Steps p.tables e below (T_37.setTop (mkF m 56 #[.val (.ref b), .val (.int (0 : Int32)), .val (.int (4 : Int32)), .val (.ref a_9), .val (.int (0 : Int32)), .val (.ref a_29)] [(.ref a_29)])) _
      exact Steps.refl _
    have K_43 : Keep h0 T_28.heap [] := ((((Keep.refl _ _).ext E_6).trans K_23 (allS (Or.inr (Nat.le_trans (Nat.le_refl _) (Nat.le_of_eq g_10.symm))) all0)).trans K_32 all0)
    obtain ⟨fs, hr, hrun, hended, hW, hsame⟩ := X_37.leave (v := some (.ref a_29)) (fun h => by rw [Bd.returns] at h; cases h)
    refine ⟨_, _, C_42.trans (retOut X_37 hx Bd.returns rfl (Or.inr (Or.inr (Or.inr (Or.inr ⟨rfl, rfl, rfl⟩)))) (hb hby d6_56) hr), hrun, hended, _, _, rfl, ?_, ⟨_, rfl⟩, hW, hsame.mono (by decide) (by decide)⟩
    show Q_cmp3u_4 Z G1 b k c0 c1 c2 c3 h0 n0 (some (.ref a_29)) T_37.heap _
    rw [e_41]
    exact Or.inr (⟨a_29, k_30, rfl, N_40, K_43, (Nat.le_trans (Nat.le_trans E_6.1 K_23.1) g_33), g_34⟩)
  · skip
    obtain ⟨rfl, N_44, K_45, g_46⟩ := hQ_18
    have N_47 := Fr.app N0 N_44
    have V_48 : Arv Z T_15.heap b k .char (4 : Int32) [(.int c0), (.int c1), (.int c2), (.int c3)] (.int (0 : Int32)) := (V_13.keep K_45 (ninS (Nat.ne_of_lt (Nat.lt_of_lt_of_le hp0.lt (Nat.le_trans (Nat.le_refl _) (Nat.le_of_eq g_10.symm)))) nin0))
    have O_49 : Old Z n0 T_15.heap := (O_14.keep K_45 (allS (Nat.le_trans (own_n0 X00) (Nat.le_of_eq g_10.symm)) all0))
    obtain ⟨_, _, ⟨T_50, L_50, k_50, n_50⟩, -, X_50, ⟨Lc_50, hQ_50, l_50, y_50, z_50⟩, st_50⟩ := Jvm.LawKit.callS X_15 hx (y := M51) hown (mvT hZ (w68 hw)) (mvT hZ (w69 hw)) (mvT hZ (w22 hw)) (mvT hZ (w70 hw)) (by decide) (backOf (W := 0) (rm_tob_4 l Z a0 hw [] G1 HG T_15.heap n0 O_49 b k c0 c1 c2 c3 V_48) hZ (w70 hw) (w22 hw) (by decide) (by decide)) (g := (mkF m 23 #[.val (.ref b), .val (.int (0 : Int32)), .val (.int (4 : Int32)), .val (.ref a_9), .val (.int (1 : Int32)), .unset] [(.int (4 : Int32)), (.int (0 : Int32)), (.ref b)])) rfl (by rw [hml]; rfl) (argsL := [(.ref b), (.int (0 : Int32)), (.int (4 : Int32))]) (rest := []) (lenOf pd_156 rfl) rfl (by show 2 * 0 + _ ≤ _; exact Nat.le_of_eq rfl) (hb hby d6_23) (fun _ _ => ⟨rfl, rfl, (by decide : 1 + 1 ≤ _), (by decide : 4 + 8 ≤ _)⟩)
    dsimp only [Pt.U, Pt.locs, Pt.cells, Pt.slots] at X_50 l_50 y_50 z_50 st_50 hQ_50
    subst l_50 y_50 z_50
    obtain ⟨a_51, k_52, rfl, N_53, K_54, g_55, g_56⟩ := hQ_50
    have N_57 := Fr.app N_47 N_53
    have O_58 : Old Z n0 T_50.heap := (O_49.keep K_54 all0)
    obtain ⟨_, _, ⟨T_59, L_59, k_59, n_59⟩, -, X_59, ⟨Lc_59, hQ_59, l_59, y_59, z_59⟩, st_59⟩ := Jvm.LawKit.callS X_50 hx (y := M80) hown (mvT hZ (w84 hw)) (mvT hZ (w85 hw)) (mvT hZ (w22 hw)) (mvT hZ (w86 hw)) (by decide) (backOf (W := 0) (rm_get_4_1 l Z a0 hw [] G1 HG T_50.heap n0 O_58 a_51 k_52 (own_lo8z c0) (own_hi8 c0) (own_lo8z c1) (own_hi8 c1) (own_lo8z c2) (own_hi8 c2) (own_lo8z c3) (own_hi8 c3) g_56) hZ (w86 hw) (w22 hw) (by decide) (by decide)) (g := (mkF m 32 #[.val (.ref b), .val (.int (0 : Int32)), .val (.int (4 : Int32)), .val (.ref a_9), .val (.int (1 : Int32)), .val (.ref a_51)] [(.int (1 : Int32)), (.ref a_51)])) rfl (by rw [hml]; rfl) (argsL := [(.ref a_51), (.int (1 : Int32))]) (rest := []) (lenOf pd_164 rfl) rfl (by show 2 * 0 + _ ≤ _; exact Nat.le_of_eq rfl) (hb hby d6_32) (fun _ _ => ⟨rfl, rfl, (by decide : 2 + 0 ≤ _), (by decide : 12 + 0 ≤ _)⟩)
    dsimp only [Pt.U, Pt.locs, Pt.cells, Pt.slots] at X_59 l_59 y_59 z_59 st_59 hQ_59
    subst l_59 y_59 z_59
    obtain ⟨rfl, N_60, e_61⟩ := hQ_59
    have N_62 := Fr.app N_57 N_60
    have e_63 : T_59.heap = T_50.heap := e_61
    have C_64 : Steps p.tables e below S0 (T_59.setTop (mkF m 56 #[.val (.ref b), .val (.int (0 : Int32)), .val (.int (4 : Int32)), .val (.ref a_9), .val (.int (1 : Int32)), .val (.ref a_51)] [(.ref a_51)])) := by
      refine C_16.trans ?_
      refine st_15 _ ?_
      refine XS.istore X_15.here hx rfl (hb hby d6_12) rfl (l' := #[.val (.ref b), .val (.int (0 : Int32)), .val (.int (4 : Int32)), .val (.ref a_9), .val (.int (1 : Int32)), .unset]) rfl ?_
      refine XS.iload X_15.here hx rfl (hb hby d6_14) rfl ?_
      refine XS.iloadN X_15.here hx rfl (hb hby d6_16) rfl ?_
      refine XS.icmpNo X_15.here hx rfl (hb hby d6_17) rfl (by decide) ?_
      refine XS.aloadN X_15.here hx rfl (hb hby d6_20) rfl rfl ?_
      refine XS.iloadN X_15.here hx rfl (hb hby d6_21) rfl ?_
      refine XS.iloadN X_15.here hx rfl (hb hby d6_22) rfl ?_
      show Steps p.tables e below (T_15.setTop (mkF m 23 #[.val (.ref b), .val (.int (0 : Int32)), .val (.int (4 : Int32)), .val (.ref a_9), .val (.int (1 : Int32)), .unset] [(.int (4 : Int32)), (.int (0 : Int32)), (.ref b)])) _
      refine st_50 _ ?_
      refine XS.astore X_50.here hx rfl (hb hby d6_26) rfl rfl (l' := #[.val (.ref b), .val (.int (0 : Int32)), .val (.int (4 : Int32)), .val (.ref a_9), .val (.int (1 : Int32)), .val (.ref a_51)]) rfl ?_
      refine XS.aload X_50.here hx rfl (hb hby d6_28) rfl rfl ?_
      refine XS.iload X_50.here hx rfl (hb hby d6_30) rfl ?_
      refine st_59 _ ?_
      refine XS.sipush X_59.here hx rfl (hb hby d6_35) ?_
      refine XS.icmpYes X_59.here hx rfl (pc0 := 38) (pc' := 54) rfl (hb hby d6_38) rfl (ii_gt_t (by rw [own_pair_says hl1 hm1]; exact g_46)) (by decide) (by decide) ?_
      refine XS.aload X_59.here hx rfl (hb hby d6_54) rfl rfl ?_
      show Steps p.tables e below (T_59.setTop (mkF m 56 #[.val (.ref b), .val (.int (0 : Int32)), .val (.int (4 : Int32)), .val (.ref a_9), .val (.int (1 : Int32)), .val (.ref a_51)] [(.ref a_51)])) _
      exact Steps.refl _
    have K_65 : Keep h0 T_50.heap [] := ((((Keep.refl _ _).ext E_6).trans K_45 (allS (Or.inr (Nat.le_trans (Nat.le_refl _) (Nat.le_of_eq g_10.symm))) all0)).trans K_54 all0)
    obtain ⟨fs, hr, hrun, hended, hW, hsame⟩ := X_59.leave (v := some (.ref a_51)) (fun h => by rw [Bd.returns] at h; cases h)
    refine ⟨_, _, C_64.trans (retOut X_59 hx Bd.returns rfl (Or.inr (Or.inr (Or.inr (Or.inr ⟨rfl, rfl, rfl⟩)))) (hb hby d6_56) hr), hrun, hended, _, _, rfl, ?_, ⟨_, rfl⟩, hW, hsame.mono (by decide) (by decide)⟩
    show Q_cmp3u_4 Z G1 b k c0 c1 c2 c3 h0 n0 (some (.ref a_51)) T_59.heap _
    rw [e_63]
    exact Or.inr (⟨a_51, k_52, rfl, N_62, K_65, (Nat.le_trans (Nat.le_trans E_6.1 K_45.1) g_55), g_56⟩)
  · skip
    obtain ⟨rfl, N_66, K_67, g_68⟩ := hQ_19
    have N_69 := Fr.app N0 N_66
    have V_70 : Arv Z T_15.heap b k .char (4 : Int32) [(.int c0), (.int c1), (.int c2), (.int c3)] (.int (0 : Int32)) := (V_13.keep K_67 (ninS (Nat.ne_of_lt (Nat.lt_of_lt_of_le hp0.lt (Nat.le_trans (Nat.le_refl _) (Nat.le_of_eq g_10.symm)))) nin0))
    have O_71 : Old Z n0 T_15.heap := (O_14.keep K_67 (allS (Nat.le_trans (own_n0 X00) (Nat.le_of_eq g_10.symm)) all0))
    obtain ⟨_, _, ⟨T_72, L_72, k_72, n_72⟩, -, X_72, ⟨Lc_72, hQ_72, l_72, y_72, z_72⟩, st_72⟩ := Jvm.LawKit.callS X_15 hx (y := M51) hown (mvT hZ (w68 hw)) (mvT hZ (w69 hw)) (mvT hZ (w22 hw)) (mvT hZ (w70 hw)) (by decide) (backOf (W := 0) (rm_tob_4 l Z a0 hw [] G1 HG T_15.heap n0 O_71 b k c0 c1 c2 c3 V_70) hZ (w70 hw) (w22 hw) (by decide) (by decide)) (g := (mkF m 23 #[.val (.ref b), .val (.int (0 : Int32)), .val (.int (4 : Int32)), .val (.ref a_9), .val (.int (2 : Int32)), .unset] [(.int (4 : Int32)), (.int (0 : Int32)), (.ref b)])) rfl (by rw [hml]; rfl) (argsL := [(.ref b), (.int (0 : Int32)), (.int (4 : Int32))]) (rest := []) (lenOf pd_156 rfl) rfl (by show 2 * 0 + _ ≤ _; exact Nat.le_of_eq rfl) (hb hby d6_23) (fun _ _ => ⟨rfl, rfl, (by decide : 1 + 1 ≤ _), (by decide : 4 + 8 ≤ _)⟩)
    dsimp only [Pt.U, Pt.locs, Pt.cells, Pt.slots] at X_72 l_72 y_72 z_72 st_72 hQ_72
    subst l_72 y_72 z_72
    obtain ⟨a_73, k_74, rfl, N_75, K_76, g_77, g_78⟩ := hQ_72
    have N_79 := Fr.app N_69 N_75
    have O_80 : Old Z n0 T_72.heap := (O_71.keep K_76 all0)
    obtain ⟨_, _, ⟨T_81, L_81, k_81, n_81⟩, -, X_81, ⟨Lc_81, hQ_81, l_81, y_81, z_81⟩, st_81⟩ := Jvm.LawKit.callS X_72 hx (y := M80) hown (mvT hZ (w84 hw)) (mvT hZ (w85 hw)) (mvT hZ (w22 hw)) (mvT hZ (w86 hw)) (by decide) (backOf (W := 0) (rm_get_4_2 l Z a0 hw [] G1 HG T_72.heap n0 O_80 a_73 k_74 (own_lo8z c0) (own_hi8 c0) (own_lo8z c1) (own_hi8 c1) (own_lo8z c2) (own_hi8 c2) (own_lo8z c3) (own_hi8 c3) g_78) hZ (w86 hw) (w22 hw) (by decide) (by decide)) (g := (mkF m 32 #[.val (.ref b), .val (.int (0 : Int32)), .val (.int (4 : Int32)), .val (.ref a_9), .val (.int (2 : Int32)), .val (.ref a_73)] [(.int (2 : Int32)), (.ref a_73)])) rfl (by rw [hml]; rfl) (argsL := [(.ref a_73), (.int (2 : Int32))]) (rest := []) (lenOf pd_164 rfl) rfl (by show 2 * 0 + _ ≤ _; exact Nat.le_of_eq rfl) (hb hby d6_32) (fun _ _ => ⟨rfl, rfl, (by decide : 2 + 0 ≤ _), (by decide : 12 + 0 ≤ _)⟩)
    dsimp only [Pt.U, Pt.locs, Pt.cells, Pt.slots] at X_81 l_81 y_81 z_81 st_81 hQ_81
    subst l_81 y_81 z_81
    obtain ⟨rfl, N_82, e_83⟩ := hQ_81
    have N_84 := Fr.app N_79 N_82
    have e_85 : T_81.heap = T_72.heap := e_83
    have C_86 : Steps p.tables e below S0 (T_81.setTop (mkF m 56 #[.val (.ref b), .val (.int (0 : Int32)), .val (.int (4 : Int32)), .val (.ref a_9), .val (.int (2 : Int32)), .val (.ref a_73)] [(.ref a_73)])) := by
      refine C_16.trans ?_
      refine st_15 _ ?_
      refine XS.istore X_15.here hx rfl (hb hby d6_12) rfl (l' := #[.val (.ref b), .val (.int (0 : Int32)), .val (.int (4 : Int32)), .val (.ref a_9), .val (.int (2 : Int32)), .unset]) rfl ?_
      refine XS.iload X_15.here hx rfl (hb hby d6_14) rfl ?_
      refine XS.iloadN X_15.here hx rfl (hb hby d6_16) rfl ?_
      refine XS.icmpNo X_15.here hx rfl (hb hby d6_17) rfl (by decide) ?_
      refine XS.aloadN X_15.here hx rfl (hb hby d6_20) rfl rfl ?_
      refine XS.iloadN X_15.here hx rfl (hb hby d6_21) rfl ?_
      refine XS.iloadN X_15.here hx rfl (hb hby d6_22) rfl ?_
      show Steps p.tables e below (T_15.setTop (mkF m 23 #[.val (.ref b), .val (.int (0 : Int32)), .val (.int (4 : Int32)), .val (.ref a_9), .val (.int (2 : Int32)), .unset] [(.int (4 : Int32)), (.int (0 : Int32)), (.ref b)])) _
      refine st_72 _ ?_
      refine XS.astore X_72.here hx rfl (hb hby d6_26) rfl rfl (l' := #[.val (.ref b), .val (.int (0 : Int32)), .val (.int (4 : Int32)), .val (.ref a_9), .val (.int (2 : Int32)), .val (.ref a_73)]) rfl ?_
      refine XS.aload X_72.here hx rfl (hb hby d6_28) rfl rfl ?_
      refine XS.iload X_72.here hx rfl (hb hby d6_30) rfl ?_
      refine st_81 _ ?_
      refine XS.sipush X_81.here hx rfl (hb hby d6_35) ?_
      refine XS.icmpYes X_81.here hx rfl (pc0 := 38) (pc' := 54) rfl (hb hby d6_38) rfl (ii_gt_t (by rw [own_pair_says hl2 hm2]; exact g_68)) (by decide) (by decide) ?_
      refine XS.aload X_81.here hx rfl (hb hby d6_54) rfl rfl ?_
      show Steps p.tables e below (T_81.setTop (mkF m 56 #[.val (.ref b), .val (.int (0 : Int32)), .val (.int (4 : Int32)), .val (.ref a_9), .val (.int (2 : Int32)), .val (.ref a_73)] [(.ref a_73)])) _
      exact Steps.refl _
    have K_87 : Keep h0 T_72.heap [] := ((((Keep.refl _ _).ext E_6).trans K_67 (allS (Or.inr (Nat.le_trans (Nat.le_refl _) (Nat.le_of_eq g_10.symm))) all0)).trans K_76 all0)
    obtain ⟨fs, hr, hrun, hended, hW, hsame⟩ := X_81.leave (v := some (.ref a_73)) (fun h => by rw [Bd.returns] at h; cases h)
    refine ⟨_, _, C_86.trans (retOut X_81 hx Bd.returns rfl (Or.inr (Or.inr (Or.inr (Or.inr ⟨rfl, rfl, rfl⟩)))) (hb hby d6_56) hr), hrun, hended, _, _, rfl, ?_, ⟨_, rfl⟩, hW, hsame.mono (by decide) (by decide)⟩
    show Q_cmp3u_4 Z G1 b k c0 c1 c2 c3 h0 n0 (some (.ref a_73)) T_81.heap _
    rw [e_85]
    exact Or.inr (⟨a_73, k_74, rfl, N_84, K_87, (Nat.le_trans (Nat.le_trans E_6.1 K_67.1) g_77), g_78⟩)
  · skip
    obtain ⟨rfl, N_88, K_89, g_90⟩ := hQ_20
    have N_91 := Fr.app N0 N_88
    have V_92 : Arv Z T_15.heap b k .char (4 : Int32) [(.int c0), (.int c1), (.int c2), (.int c3)] (.int (0 : Int32)) := (V_13.keep K_89 (ninS (Nat.ne_of_lt (Nat.lt_of_lt_of_le hp0.lt (Nat.le_trans (Nat.le_refl _) (Nat.le_of_eq g_10.symm)))) nin0))
    have O_93 : Old Z n0 T_15.heap := (O_14.keep K_89 (allS (Nat.le_trans (own_n0 X00) (Nat.le_of_eq g_10.symm)) all0))
    obtain ⟨_, _, ⟨T_94, L_94, k_94, n_94⟩, -, X_94, ⟨Lc_94, hQ_94, l_94, y_94, z_94⟩, st_94⟩ := Jvm.LawKit.callS X_15 hx (y := M51) hown (mvT hZ (w68 hw)) (mvT hZ (w69 hw)) (mvT hZ (w22 hw)) (mvT hZ (w70 hw)) (by decide) (backOf (W := 0) (rm_tob_4 l Z a0 hw [] G1 HG T_15.heap n0 O_93 b k c0 c1 c2 c3 V_92) hZ (w70 hw) (w22 hw) (by decide) (by decide)) (g := (mkF m 23 #[.val (.ref b), .val (.int (0 : Int32)), .val (.int (4 : Int32)), .val (.ref a_9), .val (.int (3 : Int32)), .unset] [(.int (4 : Int32)), (.int (0 : Int32)), (.ref b)])) rfl (by rw [hml]; rfl) (argsL := [(.ref b), (.int (0 : Int32)), (.int (4 : Int32))]) (rest := []) (lenOf pd_156 rfl) rfl (by show 2 * 0 + _ ≤ _; exact Nat.le_of_eq rfl) (hb hby d6_23) (fun _ _ => ⟨rfl, rfl, (by decide : 1 + 1 ≤ _), (by decide : 4 + 8 ≤ _)⟩)
    dsimp only [Pt.U, Pt.locs, Pt.cells, Pt.slots] at X_94 l_94 y_94 z_94 st_94 hQ_94
    subst l_94 y_94 z_94
    obtain ⟨a_95, k_96, rfl, N_97, K_98, g_99, g_100⟩ := hQ_94
    have N_101 := Fr.app N_91 N_97
    have O_102 : Old Z n0 T_94.heap := (O_93.keep K_98 all0)
    obtain ⟨_, _, ⟨T_103, L_103, k_103, n_103⟩, -, X_103, ⟨Lc_103, hQ_103, l_103, y_103, z_103⟩, st_103⟩ := Jvm.LawKit.callS X_94 hx (y := M80) hown (mvT hZ (w84 hw)) (mvT hZ (w85 hw)) (mvT hZ (w22 hw)) (mvT hZ (w86 hw)) (by decide) (backOf (W := 0) (rm_get_4_3 l Z a0 hw [] G1 HG T_94.heap n0 O_102 a_95 k_96 (own_lo8z c0) (own_hi8 c0) (own_lo8z c1) (own_hi8 c1) (own_lo8z c2) (own_hi8 c2) (own_lo8z c3) (own_hi8 c3) g_100) hZ (w86 hw) (w22 hw) (by decide) (by decide)) (g := (mkF m 32 #[.val (.ref b), .val (.int (0 : Int32)), .val (.int (4 : Int32)), .val (.ref a_9), .val (.int (3 : Int32)), .val (.ref a_95)] [(.int (3 : Int32)), (.ref a_95)])) rfl (by rw [hml]; rfl) (argsL := [(.ref a_95), (.int (3 : Int32))]) (rest := []) (lenOf pd_164 rfl) rfl (by show 2 * 0 + _ ≤ _; exact Nat.le_of_eq rfl) (hb hby d6_32) (fun _ _ => ⟨rfl, rfl, (by decide : 2 + 0 ≤ _), (by decide : 12 + 0 ≤ _)⟩)
    dsimp only [Pt.U, Pt.locs, Pt.cells, Pt.slots] at X_103 l_103 y_103 z_103 st_103 hQ_103
    subst l_103 y_103 z_103
    obtain ⟨rfl, N_104, e_105⟩ := hQ_103
    have N_106 := Fr.app N_101 N_104
    have e_107 : T_103.heap = T_94.heap := e_105
    have C_108 : Steps p.tables e below S0 (T_103.setTop (mkF m 56 #[.val (.ref b), .val (.int (0 : Int32)), .val (.int (4 : Int32)), .val (.ref a_9), .val (.int (3 : Int32)), .val (.ref a_95)] [(.ref a_95)])) := by
      refine C_16.trans ?_
      refine st_15 _ ?_
      refine XS.istore X_15.here hx rfl (hb hby d6_12) rfl (l' := #[.val (.ref b), .val (.int (0 : Int32)), .val (.int (4 : Int32)), .val (.ref a_9), .val (.int (3 : Int32)), .unset]) rfl ?_
      refine XS.iload X_15.here hx rfl (hb hby d6_14) rfl ?_
      refine XS.iloadN X_15.here hx rfl (hb hby d6_16) rfl ?_
      refine XS.icmpNo X_15.here hx rfl (hb hby d6_17) rfl (by decide) ?_
      refine XS.aloadN X_15.here hx rfl (hb hby d6_20) rfl rfl ?_
      refine XS.iloadN X_15.here hx rfl (hb hby d6_21) rfl ?_
      refine XS.iloadN X_15.here hx rfl (hb hby d6_22) rfl ?_
      show Steps p.tables e below (T_15.setTop (mkF m 23 #[.val (.ref b), .val (.int (0 : Int32)), .val (.int (4 : Int32)), .val (.ref a_9), .val (.int (3 : Int32)), .unset] [(.int (4 : Int32)), (.int (0 : Int32)), (.ref b)])) _
      refine st_94 _ ?_
      refine XS.astore X_94.here hx rfl (hb hby d6_26) rfl rfl (l' := #[.val (.ref b), .val (.int (0 : Int32)), .val (.int (4 : Int32)), .val (.ref a_9), .val (.int (3 : Int32)), .val (.ref a_95)]) rfl ?_
      refine XS.aload X_94.here hx rfl (hb hby d6_28) rfl rfl ?_
      refine XS.iload X_94.here hx rfl (hb hby d6_30) rfl ?_
      refine st_103 _ ?_
      refine XS.sipush X_103.here hx rfl (hb hby d6_35) ?_
      refine XS.icmpYes X_103.here hx rfl (pc0 := 38) (pc' := 54) rfl (hb hby d6_38) rfl (ii_gt_t (by rw [own_pair_says hl3 hm3]; exact g_90)) (by decide) (by decide) ?_
      refine XS.aload X_103.here hx rfl (hb hby d6_54) rfl rfl ?_
      show Steps p.tables e below (T_103.setTop (mkF m 56 #[.val (.ref b), .val (.int (0 : Int32)), .val (.int (4 : Int32)), .val (.ref a_9), .val (.int (3 : Int32)), .val (.ref a_95)] [(.ref a_95)])) _
      exact Steps.refl _
    have K_109 : Keep h0 T_94.heap [] := ((((Keep.refl _ _).ext E_6).trans K_89 (allS (Or.inr (Nat.le_trans (Nat.le_refl _) (Nat.le_of_eq g_10.symm))) all0)).trans K_98 all0)
    obtain ⟨fs, hr, hrun, hended, hW, hsame⟩ := X_103.leave (v := some (.ref a_95)) (fun h => by rw [Bd.returns] at h; cases h)
    refine ⟨_, _, C_108.trans (retOut X_103 hx Bd.returns rfl (Or.inr (Or.inr (Or.inr (Or.inr ⟨rfl, rfl, rfl⟩)))) (hb hby d6_56) hr), hrun, hended, _, _, rfl, ?_, ⟨_, rfl⟩, hW, hsame.mono (by decide) (by decide)⟩
    show Q_cmp3u_4 Z G1 b k c0 c1 c2 c3 h0 n0 (some (.ref a_95)) T_103.heap _
    rw [e_107]
    exact Or.inr (⟨a_95, k_96, rfl, N_106, K_109, (Nat.le_trans (Nat.le_trans E_6.1 K_89.1) g_99), g_100⟩)
  · skip
    obtain ⟨rfl, N_110, K_111, g_112, g_113, g_114, g_115, g_116⟩ := hQ_21
    have N_117 := Fr.app N0 N_110
    have C_118 : Steps p.tables e below S0 (T_15.setTop (mkF m 58 #[.val (.ref b), .val (.int (0 : Int32)), .val (.int (4 : Int32)), .val (.ref a_9), .val (.int (4 : Int32)), .unset] [(.ref a_9)])) := by
      refine C_16.trans ?_
      refine st_15 _ ?_
      refine XS.istore X_15.here hx rfl (hb hby d6_12) rfl (l' := #[.val (.ref b), .val (.int (0 : Int32)), .val (.int (4 : Int32)), .val (.ref a_9), .val (.int (4 : Int32)), .unset]) rfl ?_
      refine XS.iload X_15.here hx rfl (hb hby d6_14) rfl ?_
      refine XS.iloadN X_15.here hx rfl (hb hby d6_16) rfl ?_
      refine XS.icmpYes X_15.here hx rfl (pc0 := 17) (pc' := 57) rfl (hb hby d6_17) rfl (by decide) (by decide) (by decide) ?_
      refine XS.aloadN X_15.here hx rfl (hb hby d6_57) rfl rfl ?_
      exact Steps.refl _
    have K_119 : Keep h0 T_15.heap [] := (((Keep.refl _ _).ext E_6).trans K_111 (allS (Or.inr (Nat.le_trans (Nat.le_refl _) (Nat.le_of_eq g_10.symm))) all0))
    obtain ⟨fs, hr, hrun, hended, hW, hsame⟩ := X_15.leave (v := some (.ref a_9)) (fun h => by rw [Bd.returns] at h; cases h)
    refine ⟨_, _, C_118.trans (retOut X_15 hx Bd.returns rfl (Or.inr (Or.inr (Or.inr (Or.inr ⟨rfl, rfl, rfl⟩)))) (hb hby d6_58) hr), hrun, hended, _, _, rfl, ?_, ⟨_, rfl⟩, hW, hsame.mono (by decide) (by decide)⟩
    show Q_cmp3u_4 Z G1 b k c0 c1 c2 c3 h0 n0 (some (.ref a_9)) T_15.heap _
    exact Or.inl ⟨a_9, k_3, rfl, N_117, K_119, (Nat.le_trans (Nat.le_refl _) (Nat.le_of_eq g_10.symm)), g_112⟩
abbrev R_codl_4 : Room := { frames := 0, cells := 0, slots := 0, locals := 0 }
def Q_codl_4 (Z : State) (G1 : Int32) (t : Addr) (kt : ClassId) (y0 : Int32) (y1 : Int32) (y2 : Int32) (y3 : Int32) (h0 : Heap) (n0 : Nat) (v : Option Value) (h : Heap) (L : List Loc) : Prop := (v = some (.int (0 : Int32)) ∧ Fr n0 L ∧ h = h0)
set_option maxRecDepth 65536 in
set_option maxHeartbeats 40000000 in
theorem rm_codl_4 (l : Launch) (Z : State) (a0 : Array Value) (hw : ∀ d ∈ tables_1, d.before a0 Z = true) (ws : List Jvm.Cond) (G1 : Int32) (HG : own_G l Z a0 G1) (h0 : Heap) (n0 : Nat) (X00 : Old Z n0 h0) (t : Addr) (kt : ClassId) (y0 : Int32) (y1 : Int32) (y2 : Int32) (y3 : Int32) (hp0 : Arv Z h0 t kt .byte (4 : Int32) [(.int y0), (.int y1), (.int y2), (.int y3)] (.int (0 : Int32))) :
    own_CP l Z M174 jdk_52_method_15_code 2 (some .byte) ws R_codl_4 #[(.ref t), (.int (4 : Int32))] h0 (Q_codl_4 Z G1 t kt y0 y1 y2 y3 h0 n0) := by
  refine own_P (plainFor_of_name pn_2) ?_
  intro p e s m below meth c s₁ S0 Bd hZ hh hx hby hml hown hnm X0 e0 hS0d
  obtain ⟨O1, P1, OAD, OHI, OLO⟩ := id HG
  have N0 := Fr.nil n0
  have C0 : Steps p.tables e below S0 (s₁.setTop (mkF m 0 #[.val (.ref t), .val (.int (4 : Int32))] [])) := by rw [hS0d]; exact castTop (ef_81 m t (4 : Int32)) (Steps.refl _)
  obtain ⟨c_1, A_2, q_3, S_4, M_5, H_6, U_7⟩ := id hp0
  have C_8 : Steps p.tables e below S0 (s₁.setTop (mkF m 8 #[.val (.ref t), .val (.int (4 : Int32))] [(.int (0 : Int32))])) := by
    refine C0.trans ?_
    refine XS.iloadN X0.here hx rfl (hb hby d7_0) rfl ?_
    refine XS.aloadN X0.here hx rfl (hb hby d7_1) rfl rfl ?_
    refine X0.arraylength hx (by rw [e0]; exact A_2.1) (State.isArrayOf_alike hZ.alike A_2.2.1) (g := (mkF m 2 #[.val (.ref t), .val (.int (4 : Int32))] [(.ref t), (.int (4 : Int32))])) rfl rfl (hb hby d7_2) _ ?_
    rw [len_of S_4 M_5]
    refine XS.isub X0.here hx rfl (hb hby d7_3) rfl ?_
    refine XS.bipush X0.here hx rfl (hb hby d7_4) ?_
    refine XS.iushr X0.here hx rfl (hb hby d7_6) rfl ?_
    refine XS.i2b X0.here hx rfl (hb hby d7_7) rfl ?_
    exact Steps.refl _
  obtain ⟨fs, hr, hrun, hended, hW, hsame⟩ := X0.leave (v := some (.int (0 : Int32))) (fun h => by rw [Bd.returns] at h; cases h)
  refine ⟨_, _, C_8.trans (retN X0 hx (t := .byte) Bd.returns (by simp) (hb hby d7_8) hr), hrun, hended, _, _, rfl, ?_, ⟨_, rfl⟩, hW, hsame.mono (by decide) (by decide)⟩
  show Q_codl_4 Z G1 t kt y0 y1 y2 y3 h0 n0 (some (.int (0 : Int32))) s₁.heap _
  rw [e0]
  exact ⟨rfl, N0, rfl⟩
abbrev R_codu_4 : Room := { frames := 0, cells := 0, slots := 0, locals := 0 }
def Q_codu_4 (Z : State) (G1 : Int32) (t : Addr) (kt : ClassId) (y0 : Int32) (y1 : Int32) (y2 : Int32) (y3 : Int32) (y4 : Int32) (y5 : Int32) (y6 : Int32) (y7 : Int32) (h0 : Heap) (n0 : Nat) (v : Option Value) (h : Heap) (L : List Loc) : Prop := (v = some (.int (1 : Int32)) ∧ Fr n0 L ∧ h = h0)
set_option maxRecDepth 65536 in
set_option maxHeartbeats 40000000 in
theorem rm_codu_4 (l : Launch) (Z : State) (a0 : Array Value) (hw : ∀ d ∈ tables_1, d.before a0 Z = true) (ws : List Jvm.Cond) (G1 : Int32) (HG : own_G l Z a0 G1) (h0 : Heap) (n0 : Nat) (X00 : Old Z n0 h0) (t : Addr) (kt : ClassId) (y0 : Int32) (y1 : Int32) (y2 : Int32) (y3 : Int32) (y4 : Int32) (y5 : Int32) (y6 : Int32) (y7 : Int32) (hp0 : Arv Z h0 t kt .byte (8 : Int32) [(.int y0), (.int y1), (.int y2), (.int y3), (.int y4), (.int y5), (.int y6), (.int y7)] (.int (0 : Int32))) :
    own_CP l Z M174 jdk_52_method_15_code 2 (some .byte) ws R_codu_4 #[(.ref t), (.int (4 : Int32))] h0 (Q_codu_4 Z G1 t kt y0 y1 y2 y3 y4 y5 y6 y7 h0 n0) := by
  refine own_P (plainFor_of_name pn_2) ?_
  intro p e s m below meth c s₁ S0 Bd hZ hh hx hby hml hown hnm X0 e0 hS0d
  obtain ⟨O1, P1, OAD, OHI, OLO⟩ := id HG
  have N0 := Fr.nil n0
  have C0 : Steps p.tables e below S0 (s₁.setTop (mkF m 0 #[.val (.ref t), .val (.int (4 : Int32))] [])) := by rw [hS0d]; exact castTop (ef_81 m t (4 : Int32)) (Steps.refl _)
  obtain ⟨c_1, A_2, q_3, S_4, M_5, H_6, U_7⟩ := id hp0
  have C_8 : Steps p.tables e below S0 (s₁.setTop (mkF m 8 #[.val (.ref t), .val (.int (4 : Int32))] [(.int (1 : Int32))])) := by
    refine C0.trans ?_
    refine XS.iloadN X0.here hx rfl (hb hby d7_0) rfl ?_
    refine XS.aloadN X0.here hx rfl (hb hby d7_1) rfl rfl ?_
    refine X0.arraylength hx (by rw [e0]; exact A_2.1) (State.isArrayOf_alike hZ.alike A_2.2.1) (g := (mkF m 2 #[.val (.ref t), .val (.int (4 : Int32))] [(.ref t), (.int (4 : Int32))])) rfl rfl (hb hby d7_2) _ ?_
    rw [len_of S_4 M_5]
    refine XS.isub X0.here hx rfl (hb hby d7_3) rfl ?_
    refine XS.bipush X0.here hx rfl (hb hby d7_4) ?_
    refine XS.iushr X0.here hx rfl (hb hby d7_6) rfl ?_
    refine XS.i2b X0.here hx rfl (hb hby d7_7) rfl ?_
    exact Steps.refl _
  obtain ⟨fs, hr, hrun, hended, hW, hsame⟩ := X0.leave (v := some (.int (1 : Int32))) (fun h => by rw [Bd.returns] at h; cases h)
  refine ⟨_, _, C_8.trans (retN X0 hx (t := .byte) Bd.returns (by simp) (hb hby d7_8) hr), hrun, hended, _, _, rfl, ?_, ⟨_, rfl⟩, hW, hsame.mono (by decide) (by decide)⟩
  show Q_codu_4 Z G1 t kt y0 y1 y2 y3 y4 y5 y6 y7 h0 n0 (some (.int (1 : Int32))) s₁.heap _
  rw [e0]
  exact ⟨rfl, N0, rfl⟩
abbrev R_si4u_4 : Room := { frames := 4, cells := 2, slots := 12, locals := 57 }
def Q_si4u_4 (Z : State) (G1 : Int32) (x : Addr) (b : Addr) (k : ClassId) (c0 : Int32) (c1 : Int32) (c2 : Int32) (c3 : Int32) (h0 : Heap) (n0 : Nat) (v : Option Value) (h : Heap) (L : List Loc) : Prop := (∃ t : Addr, ∃ kt : ClassId, v = none ∧ Fr n0 L ∧ Keep h0 h [x] ∧ (Exa Z h x "java/lang/String") ∧ (Fld Z h x "java/lang/String" "coder" "B" (.int (0 : Int32))) ∧ (Fld Z h x "java/lang/String" "value" "[B" (.ref t)) ∧ (h0.size ≤ t) ∧ (Arv Z h t kt .byte (4 : Int32) [(.int (own_lo8 c0)), (.int (own_lo8 c1)), (.int (own_lo8 c2)), (.int (own_lo8 c3))] (.int (0 : Int32)))) ∨ (∃ t : Addr, ∃ kt : ClassId, v = none ∧ Fr n0 L ∧ Keep h0 h [x] ∧ (Exa Z h x "java/lang/String") ∧ (Fld Z h x "java/lang/String" "coder" "B" (.int (1 : Int32))) ∧ (Fld Z h x "java/lang/String" "value" "[B" (.ref t)) ∧ (h0.size ≤ t) ∧ (Arv Z h t kt .byte (8 : Int32) [(.int (own_lo8z c0)), (.int (own_hi8 c0)), (.int (own_lo8z c1)), (.int (own_hi8 c1)), (.int (own_lo8z c2)), (.int (own_hi8 c2)), (.int (own_lo8z c3)), (.int (own_hi8 c3))] (.int (0 : Int32))))
set_option maxRecDepth 65536 in
set_option maxHeartbeats 40000000 in
theorem rm_si4u_4 (l : Launch) (Z : State) (a0 : Array Value) (hw : ∀ d ∈ tables_1, d.before a0 Z = true) (ws : List Jvm.Cond) (G1 : Int32) (HG : own_G l Z a0 G1) (h0 : Heap) (n0 : Nat) (X00 : Old Z n0 h0) (x : Addr) (b : Addr) (k : ClassId) (c0 : Int32) (c1 : Int32) (c2 : Int32) (c3 : Int32) (hp0 : Exa Z h0 x "java/lang/String") (hp1 : Fld Z h0 x "java/lang/String" "value" "[B" .null) (hp2 : Fld Z h0 x "java/lang/String" "coder" "B" (.int (0 : Int32))) (hp3 : n0 ≤ x) (hp4 : Arv Z h0 b k .char (4 : Int32) [(.int c0), (.int c1), (.int c2), (.int c3)] (.int (0 : Int32))) (hl0 : ¬ (c0 < (0 : Int32))) (hl1 : ¬ (c1 < (0 : Int32))) (hl2 : ¬ (c2 < (0 : Int32))) (hl3 : ¬ (c3 < (0 : Int32))) (hm0 : ¬ ((65535 : Int32) < c0)) (hm1 : ¬ ((65535 : Int32) < c1)) (hm2 : ¬ ((65535 : Int32) < c2)) (hm3 : ¬ ((65535 : Int32) < c3)) :
    own_CP l Z M183 jdk_42_method_149_code 6 none ws R_si4u_4 #[(.ref x), (.ref b), (.int (0 : Int32)), (.int (4 : Int32)), .null] h0 (Q_si4u_4 Z G1 x b k c0 c1 c2 c3 h0 n0) := by
  refine own_P (plainFor_of_name pn_185) ?_
  intro p e s m below meth c s₁ S0 Bd hZ hh hx hby hml hown hnm X0 e0 hS0d
  obtain ⟨O1, P1, OAD, OHI, OLO⟩ := id HG
  have N0 := Fr.nil n0
  have C0 : Steps p.tables e below S0 (s₁.setTop (mkF m 0 #[.val (.ref x), .val (.ref b), .val (.int (0 : Int32)), .val (.int (4 : Int32)), .val .null, .unset] [])) := by rw [hS0d]; exact castTop (ef_184 m x b (0 : Int32) (4 : Int32)) (Steps.refl _)
  obtain ⟨T_1, X_2, e_3, st_4⟩ := initO X0 hx hZ hown (w16 hw) (w17 hw) (w18 hw) e0 (g := (mkF m 1 #[.val (.ref x), .val (.ref b), .val (.int (0 : Int32)), .val (.int (4 : Int32)), .val .null, .unset] [(.ref x)])) rfl (by rw [hml]; rfl) rfl (hb hby d8_1) (by decide) (W := 0) (by show 2 * 0 + _ ≤ _; exact Nat.le_of_eq rfl) (by decide)
  obtain ⟨T_5, X_6, e_7, st_8⟩ := getS X_2 hx hZ (host := "") hown (w19 hw) Via.refl e_3 (O1.ext X00.2) (g := (mkF m 27 #[.val (.ref x), .val (.ref b), .val (.int (0 : Int32)), .val (.int (4 : Int32)), .val .null, .unset] [])) rfl (hb hby d8_27)
  obtain ⟨_, _, ⟨T_9, L_9, k_9, n_9⟩, -, X_9, ⟨Lc_9, hQ_9, l_9, y_9, z_9⟩, st_9⟩ := Jvm.LawKit.callS X_6 hx (y := M133) hown (mvT hZ (w20 hw)) (mvT hZ (w21 hw)) (mvT hZ (w22 hw)) (mvT hZ (w23 hw)) (by decide) (backOf (W := 0) (rm_cmp3u_4 l Z a0 hw [] G1 HG h0 n0 X00 b k c0 c1 c2 c3 hp4 hl0 hl1 hl2 hl3 hm0 hm1 hm2 hm3) hZ (w23 hw) (w22 hw) (by decide) (by decide)) (g := (mkF m 36 #[.val (.ref x), .val (.ref b), .val (.int (0 : Int32)), .val (.int (4 : Int32)), .val .null, .unset] [(.int (4 : Int32)), (.int (0 : Int32)), (.ref b)])) rfl (by rw [hml]; rfl) (argsL := [(.ref b), (.int (0 : Int32)), (.int (4 : Int32))]) (rest := []) (lenOf pd_156 rfl) rfl (by show 2 * 0 + _ ≤ _; exact Nat.le_of_eq rfl) (hb hby d8_36) (fun _ _ => ⟨rfl, e_7, (by decide : 0 + 2 ≤ _), (by decide : 0 + 12 ≤ _)⟩)
  dsimp only [Pt.U, Pt.locs, Pt.cells, Pt.slots] at X_9 l_9 y_9 z_9 st_9 hQ_9
  subst l_9 y_9 z_9
  have C_10 : Steps p.tables e below S0 (T_5.setTop (mkF m 36 #[.val (.ref x), .val (.ref b), .val (.int (0 : Int32)), .val (.int (4 : Int32)), .val .null, .unset] [(.int (4 : Int32)), (.int (0 : Int32)), (.ref b)])) := by
    refine C0.trans ?_
    refine XS.aloadN X0.here hx rfl (hb hby d8_0) rfl rfl ?_
    refine st_4 _ ?_
    refine XS.iloadN X_2.here hx rfl (hb hby d8_4) rfl ?_
    refine XS.ifYes X_2.here hx rfl (pc0 := 5) (pc' := 27) rfl (hb hby d8_5) rfl (by decide) (by decide) (by decide) ?_
    refine st_8 _ ?_
    refine XS.ifNo X_6.here hx rfl (hb hby d8_30) rfl (i0_eq_f P1) ?_
    refine XS.aloadN X_6.here hx rfl (hb hby d8_33) rfl rfl ?_
    refine XS.iloadN X_6.here hx rfl (hb hby d8_34) rfl ?_
    show Steps p.tables e below (T_5.setTop (mkF m 35 #[.val (.ref x), .val (.ref b), .val (.int (0 : Int32)), .val (.int (4 : Int32)), .val .null, .unset] [(.int (0 : Int32)), (.ref b)])) _
    refine XS.iloadN X_6.here hx rfl (hb hby d8_35) rfl ?_
    exact Steps.refl _
  rcases hQ_9 with hQ_11 | hQ_12
  · skip
    obtain ⟨a_13, k_14, rfl, N_15, K_16, g_17, g_18⟩ := hQ_11
    have N_19 := Fr.app N0 N_15
    have O_20 : Old Z n0 T_9.heap := (X00.keep K_16 all0)
    obtain ⟨_, _, ⟨T_21, L_21, k_21, n_21⟩, -, X_21, ⟨Lc_21, hQ_21, l_21, y_21, z_21⟩, st_21⟩ := Jvm.LawKit.callS X_9 hx (y := M174) hown (mvT hZ (w28 hw)) (mvT hZ (w29 hw)) (mvT hZ (w22 hw)) (mvT hZ (w30 hw)) (by decide) (backOf (W := 1) (rm_codl_4 l Z a0 hw [] G1 HG T_9.heap n0 O_20 a_13 k_14 (own_lo8 c0) (own_lo8 c1) (own_lo8 c2) (own_lo8 c3) g_18) hZ (w30 hw) (w22 hw) (by decide) (by decide)) (g := (mkF m 45 #[.val (.ref x), .val (.ref b), .val (.int (0 : Int32)), .val (.int (4 : Int32)), .val .null, .val (.ref a_13)] [(.int (4 : Int32)), (.ref a_13), (.ref x)])) rfl (by rw [hml]; rfl) (argsL := [(.ref a_13), (.int (4 : Int32))]) (rest := [(.ref x)]) (lenOf pd_208 rfl) rfl (by show 2 * 0 + _ ≤ _; exact Nat.le_of_eq rfl) (hb hby d8_45) (fun _ _ => ⟨rfl, rfl, (by decide : 2 + 0 ≤ _), (by decide : 12 + 0 ≤ _)⟩)
    dsimp only [Pt.U, Pt.locs, Pt.cells, Pt.slots] at X_21 l_21 y_21 z_21 st_21 hQ_21
    subst l_21 y_21 z_21
    obtain ⟨rfl, N_22, e_23⟩ := hQ_21
    have N_24 := Fr.app N_19 N_22
    have e_25 : T_21.heap = T_9.heap := e_23
    have F_26 : Fld Z T_9.heap x "java/lang/String" "coder" "B" (.int (0 : Int32)) := (hp2.keep K_16 nin0)
    have E_27 : Exa Z T_9.heap x "java/lang/String" := (hp0.keep K_16)
    obtain ⟨T_28, h_29, X_30, e_31, W_32, st_33⟩ := putF X_21 hx hZ hown (host := "") (Or.inl (w31 hw)) Via.refl e_25 F_26 E_27 (Or.inr ⟨(w32 hw), rfl, hnm⟩) (w6 hw) (ty := .byte) (by decide) rfl (by decide) (g := (mkF m 48 #[.val (.ref x), .val (.ref b), .val (.int (0 : Int32)), .val (.int (4 : Int32)), .val .null, .val (.ref a_13)] [(.int (0 : Int32)), (.ref x)])) rfl rfl (hb hby d8_48)
    have N_34 := Fr.snoc X_30 N_24 hp3
    have F_35 : Fld Z h_29 x "java/lang/String" "coder" "B" (.int (0 : Int32)) := F_26.same W_32
    have F_36 : Fld Z h_29 x "java/lang/String" "value" "[B" .null := ((hp1.keep K_16 nin0).other W_32 (Or.inr (slot_ne (Or.inr (w34 hw)) (Or.inr (w32 hw)) (by decide) (t := (.array .byte)) (by decide) (t' := .byte) (by decide))))
    have E_37 : Exa Z h_29 x "java/lang/String" := (E_27.wr W_32)
    obtain ⟨T_38, h_39, X_40, e_41, W_42, st_43⟩ := putF X_30 hx hZ hown (host := "") (Or.inl (w33 hw)) Via.refl e_31 F_36 E_37 (Or.inr ⟨(w34 hw), rfl, hnm⟩) (w6 hw) (ty := (.array .byte)) (by decide) rfl rfl (g := (mkF m 54 #[.val (.ref x), .val (.ref b), .val (.int (0 : Int32)), .val (.int (4 : Int32)), .val .null, .val (.ref a_13)] [(.ref a_13), (.ref x)])) rfl rfl (hb hby d8_54)
    have N_44 := Fr.snoc X_40 N_34 hp3
    have F_45 : Fld Z h_39 x "java/lang/String" "value" "[B" (.ref a_13) := F_36.same W_42
    have C_46 : Steps p.tables e below S0 (T_38.setTop (mkF m 57 #[.val (.ref x), .val (.ref b), .val (.int (0 : Int32)), .val (.int (4 : Int32)), .val .null, .val (.ref a_13)] [])) := by
      refine C_10.trans ?_
      refine st_9 _ ?_
      refine XS.astore X_9.here hx rfl (hb hby d8_39) rfl rfl (l' := #[.val (.ref x), .val (.ref b), .val (.int (0 : Int32)), .val (.int (4 : Int32)), .val .null, .val (.ref a_13)]) rfl ?_
      refine XS.aloadN X_9.here hx rfl (hb hby d8_41) rfl rfl ?_
      refine XS.aload X_9.here hx rfl (hb hby d8_42) rfl rfl ?_
      refine XS.iloadN X_9.here hx rfl (hb hby d8_44) rfl ?_
      refine st_21 _ ?_
      refine st_33 _ ?_
      refine XS.aloadN X_30.here hx rfl (hb hby d8_51) rfl rfl ?_
      show Steps p.tables e below (T_28.setTop (mkF m 52 #[.val (.ref x), .val (.ref b), .val (.int (0 : Int32)), .val (.int (4 : Int32)), .val .null, .val (.ref a_13)] [(.ref x)])) _
      refine XS.aload X_30.here hx rfl (hb hby d8_52) rfl rfl ?_
      refine st_43 _ ?_
      exact Steps.refl _
    have E_47 : Exa Z h_39 x "java/lang/String" := (E_37.wr W_42)
    have F_48 : Fld Z h_39 x "java/lang/String" "coder" "B" (.int (0 : Int32)) := (F_35.other W_42 (Or.inr (slot_ne (Or.inr (w32 hw)) (Or.inr (w34 hw)) (by decide) (t := .byte) (by decide) (t' := (.array .byte)) (by decide))))
    have V_49 : Arv Z h_39 a_13 k_14 .byte (4 : Int32) [(.int (own_lo8 c0)), (.int (own_lo8 c1)), (.int (own_lo8 c2)), (.int (own_lo8 c3))] (.int (0 : Int32)) := ((g_18.other W_32 (Ne.symm (Nat.ne_of_lt (Nat.lt_of_lt_of_le hp0.lt (Nat.le_trans (Nat.le_refl _) g_17))))).other W_42 (Ne.symm (Nat.ne_of_lt (Nat.lt_of_lt_of_le hp0.lt (Nat.le_trans (Nat.le_refl _) g_17)))))
    have K_50 : Keep h0 h_39 [x] := ((((Keep.refl _ _).trans K_16 all0).wr W_32 (Or.inl (List.mem_of_getElem? (i := 0) rfl))).wr W_42 (Or.inl (List.mem_of_getElem? (i := 0) rfl)))
    obtain ⟨fs, hr, hrun, hended, hW, hsame⟩ := X_40.leave (v := none) (fun _ => rfl)
    refine ⟨_, _, C_46.trans (X_40.returnOut hx Bd.returns (hb hby d8_57) hr), hrun, hended, _, _, rfl, ?_, ⟨_, rfl⟩, hW, hsame.mono (by decide) (by decide)⟩
    show Q_si4u_4 Z G1 x b k c0 c1 c2 c3 h0 n0 (none) T_38.heap _
    rw [e_41]
    exact Or.inl ⟨a_13, k_14, rfl, N_44, K_50, E_47, F_48, F_45, (Nat.le_trans (Nat.le_refl _) g_17), V_49⟩
  · skip
    obtain ⟨a_51, k_52, rfl, N_53, K_54, g_55, g_56⟩ := hQ_12
    have N_57 := Fr.app N0 N_53
    have O_58 : Old Z n0 T_9.heap := (X00.keep K_54 all0)
    obtain ⟨_, _, ⟨T_59, L_59, k_59, n_59⟩, -, X_59, ⟨Lc_59, hQ_59, l_59, y_59, z_59⟩, st_59⟩ := Jvm.LawKit.callS X_9 hx (y := M174) hown (mvT hZ (w28 hw)) (mvT hZ (w29 hw)) (mvT hZ (w22 hw)) (mvT hZ (w30 hw)) (by decide) (backOf (W := 1) (rm_codu_4 l Z a0 hw [] G1 HG T_9.heap n0 O_58 a_51 k_52 (own_lo8z c0) (own_hi8 c0) (own_lo8z c1) (own_hi8 c1) (own_lo8z c2) (own_hi8 c2) (own_lo8z c3) (own_hi8 c3) g_56) hZ (w30 hw) (w22 hw) (by decide) (by decide)) (g := (mkF m 45 #[.val (.ref x), .val (.ref b), .val (.int (0 : Int32)), .val (.int (4 : Int32)), .val .null, .val (.ref a_51)] [(.int (4 : Int32)), (.ref a_51), (.ref x)])) rfl (by rw [hml]; rfl) (argsL := [(.ref a_51), (.int (4 : Int32))]) (rest := [(.ref x)]) (lenOf pd_208 rfl) rfl (by show 2 * 0 + _ ≤ _; exact Nat.le_of_eq rfl) (hb hby d8_45) (fun _ _ => ⟨rfl, rfl, (by decide : 2 + 0 ≤ _), (by decide : 12 + 0 ≤ _)⟩)
    dsimp only [Pt.U, Pt.locs, Pt.cells, Pt.slots] at X_59 l_59 y_59 z_59 st_59 hQ_59
    subst l_59 y_59 z_59
    obtain ⟨rfl, N_60, e_61⟩ := hQ_59
    have N_62 := Fr.app N_57 N_60
    have e_63 : T_59.heap = T_9.heap := e_61
    have F_64 : Fld Z T_9.heap x "java/lang/String" "coder" "B" (.int (0 : Int32)) := (hp2.keep K_54 nin0)
    have E_65 : Exa Z T_9.heap x "java/lang/String" := (hp0.keep K_54)
    obtain ⟨T_66, h_67, X_68, e_69, W_70, st_71⟩ := putF X_59 hx hZ hown (host := "") (Or.inl (w31 hw)) Via.refl e_63 F_64 E_65 (Or.inr ⟨(w32 hw), rfl, hnm⟩) (w6 hw) (ty := .byte) (by decide) rfl (by decide) (g := (mkF m 48 #[.val (.ref x), .val (.ref b), .val (.int (0 : Int32)), .val (.int (4 : Int32)), .val .null, .val (.ref a_51)] [(.int (1 : Int32)), (.ref x)])) rfl rfl (hb hby d8_48)
    have N_72 := Fr.snoc X_68 N_62 hp3
    have F_73 : Fld Z h_67 x "java/lang/String" "coder" "B" (.int (1 : Int32)) := F_64.same W_70
    have F_74 : Fld Z h_67 x "java/lang/String" "value" "[B" .null := ((hp1.keep K_54 nin0).other W_70 (Or.inr (slot_ne (Or.inr (w34 hw)) (Or.inr (w32 hw)) (by decide) (t := (.array .byte)) (by decide) (t' := .byte) (by decide))))
    have E_75 : Exa Z h_67 x "java/lang/String" := (E_65.wr W_70)
    obtain ⟨T_76, h_77, X_78, e_79, W_80, st_81⟩ := putF X_68 hx hZ hown (host := "") (Or.inl (w33 hw)) Via.refl e_69 F_74 E_75 (Or.inr ⟨(w34 hw), rfl, hnm⟩) (w6 hw) (ty := (.array .byte)) (by decide) rfl rfl (g := (mkF m 54 #[.val (.ref x), .val (.ref b), .val (.int (0 : Int32)), .val (.int (4 : Int32)), .val .null, .val (.ref a_51)] [(.ref a_51), (.ref x)])) rfl rfl (hb hby d8_54)
    have N_82 := Fr.snoc X_78 N_72 hp3
    have F_83 : Fld Z h_77 x "java/lang/String" "value" "[B" (.ref a_51) := F_74.same W_80
    have C_84 : Steps p.tables e below S0 (T_76.setTop (mkF m 57 #[.val (.ref x), .val (.ref b), .val (.int (0 : Int32)), .val (.int (4 : Int32)), .val .null, .val (.ref a_51)] [])) := by
      refine C_10.trans ?_
      refine st_9 _ ?_
      refine XS.astore X_9.here hx rfl (hb hby d8_39) rfl rfl (l' := #[.val (.ref x), .val (.ref b), .val (.int (0 : Int32)), .val (.int (4 : Int32)), .val .null, .val (.ref a_51)]) rfl ?_
      refine XS.aloadN X_9.here hx rfl (hb hby d8_41) rfl rfl ?_
      refine XS.aload X_9.here hx rfl (hb hby d8_42) rfl rfl ?_
      refine XS.iloadN X_9.here hx rfl (hb hby d8_44) rfl ?_
      refine st_59 _ ?_
      refine st_71 _ ?_
      refine XS.aloadN X_68.here hx rfl (hb hby d8_51) rfl rfl ?_
      show Steps p.tables e below (T_66.setTop (mkF m 52 #[.val (.ref x), .val (.ref b), .val (.int (0 : Int32)), .val (.int (4 : Int32)), .val .null, .val (.ref a_51)] [(.ref x)])) _
      refine XS.aload X_68.here hx rfl (hb hby d8_52) rfl rfl ?_
      refine st_81 _ ?_
      exact Steps.refl _
    have E_85 : Exa Z h_77 x "java/lang/String" := (E_75.wr W_80)
    have F_86 : Fld Z h_77 x "java/lang/String" "coder" "B" (.int (1 : Int32)) := (F_73.other W_80 (Or.inr (slot_ne (Or.inr (w32 hw)) (Or.inr (w34 hw)) (by decide) (t := .byte) (by decide) (t' := (.array .byte)) (by decide))))
    have V_87 : Arv Z h_77 a_51 k_52 .byte (8 : Int32) [(.int (own_lo8z c0)), (.int (own_hi8 c0)), (.int (own_lo8z c1)), (.int (own_hi8 c1)), (.int (own_lo8z c2)), (.int (own_hi8 c2)), (.int (own_lo8z c3)), (.int (own_hi8 c3))] (.int (0 : Int32)) := ((g_56.other W_70 (Ne.symm (Nat.ne_of_lt (Nat.lt_of_lt_of_le hp0.lt (Nat.le_trans (Nat.le_refl _) g_55))))).other W_80 (Ne.symm (Nat.ne_of_lt (Nat.lt_of_lt_of_le hp0.lt (Nat.le_trans (Nat.le_refl _) g_55)))))
    have K_88 : Keep h0 h_77 [x] := ((((Keep.refl _ _).trans K_54 all0).wr W_70 (Or.inl (List.mem_of_getElem? (i := 0) rfl))).wr W_80 (Or.inl (List.mem_of_getElem? (i := 0) rfl)))
    obtain ⟨fs, hr, hrun, hended, hW, hsame⟩ := X_78.leave (v := none) (fun _ => rfl)
    refine ⟨_, _, C_84.trans (X_78.returnOut hx Bd.returns (hb hby d8_57) hr), hrun, hended, _, _, rfl, ?_, ⟨_, rfl⟩, hW, hsame.mono (by decide) (by decide)⟩
    show Q_si4u_4 Z G1 x b k c0 c1 c2 c3 h0 n0 (none) T_76.heap _
    rw [e_79]
    exact Or.inr (⟨a_51, k_52, rfl, N_82, K_88, E_85, F_86, F_83, (Nat.le_trans (Nat.le_refl _) g_55), V_87⟩)
abbrev R_si1u_4 : Room := { frames := 5, cells := 2, slots := 12, locals := 74 }
def Q_si1u_4 (Z : State) (G1 : Int32) (x : Addr) (b : Addr) (k : ClassId) (c0 : Int32) (c1 : Int32) (c2 : Int32) (c3 : Int32) (h0 : Heap) (n0 : Nat) (v : Option Value) (h : Heap) (L : List Loc) : Prop := (∃ t : Addr, ∃ kt : ClassId, v = none ∧ Fr n0 L ∧ Keep h0 h [x] ∧ (Exa Z h x "java/lang/String") ∧ (Fld Z h x "java/lang/String" "coder" "B" (.int (0 : Int32))) ∧ (Fld Z h x "java/lang/String" "value" "[B" (.ref t)) ∧ (h0.size ≤ t) ∧ (Arv Z h t kt .byte (4 : Int32) [(.int (own_lo8 c0)), (.int (own_lo8 c1)), (.int (own_lo8 c2)), (.int (own_lo8 c3))] (.int (0 : Int32)))) ∨ (∃ t : Addr, ∃ kt : ClassId, v = none ∧ Fr n0 L ∧ Keep h0 h [x] ∧ (Exa Z h x "java/lang/String") ∧ (Fld Z h x "java/lang/String" "coder" "B" (.int (1 : Int32))) ∧ (Fld Z h x "java/lang/String" "value" "[B" (.ref t)) ∧ (h0.size ≤ t) ∧ (Arv Z h t kt .byte (8 : Int32) [(.int (own_lo8z c0)), (.int (own_hi8 c0)), (.int (own_lo8z c1)), (.int (own_hi8 c1)), (.int (own_lo8z c2)), (.int (own_hi8 c2)), (.int (own_lo8z c3)), (.int (own_hi8 c3))] (.int (0 : Int32))))
set_option maxRecDepth 65536 in
set_option maxHeartbeats 40000000 in
theorem rm_si1u_4 (l : Launch) (Z : State) (a0 : Array Value) (hw : ∀ d ∈ tables_1, d.before a0 Z = true) (ws : List Jvm.Cond) (G1 : Int32) (HG : own_G l Z a0 G1) (h0 : Heap) (n0 : Nat) (X00 : Old Z n0 h0) (x : Addr) (b : Addr) (k : ClassId) (c0 : Int32) (c1 : Int32) (c2 : Int32) (c3 : Int32) (hp0 : Exa Z h0 x "java/lang/String") (hp1 : Fld Z h0 x "java/lang/String" "value" "[B" .null) (hp2 : Fld Z h0 x "java/lang/String" "coder" "B" (.int (0 : Int32))) (hp3 : n0 ≤ x) (hp4 : Arv Z h0 b k .char (4 : Int32) [(.int c0), (.int c1), (.int c2), (.int c3)] (.int (0 : Int32))) (hl0 : ¬ (c0 < (0 : Int32))) (hl1 : ¬ (c1 < (0 : Int32))) (hl2 : ¬ (c2 < (0 : Int32))) (hl3 : ¬ (c3 < (0 : Int32))) (hm0 : ¬ ((65535 : Int32) < c0)) (hm1 : ¬ ((65535 : Int32) < c1)) (hm2 : ¬ ((65535 : Int32) < c2)) (hm3 : ¬ ((65535 : Int32) < c3)) :
    own_CP l Z M222 jdk_42_method_3_code 2 none ws R_si1u_4 #[(.ref x), (.ref b)] h0 (Q_si1u_4 Z G1 x b k c0 c1 c2 c3 h0 n0) := by
  refine own_P (plainFor_of_name pn_185) ?_
  intro p e s m below meth c s₁ S0 Bd hZ hh hx hby hml hown hnm X0 e0 hS0d
  obtain ⟨O1, P1, OAD, OHI, OLO⟩ := id HG
  have N0 := Fr.nil n0
  have C0 : Steps p.tables e below S0 (s₁.setTop (mkF m 0 #[.val (.ref x), .val (.ref b)] [])) := by rw [hS0d]; exact castTop (ef_223 m x b) (Steps.refl _)
  obtain ⟨c_1, A_2, q_3, S_4, M_5, H_6, U_7⟩ := id hp4
  obtain ⟨_, _, ⟨T_8, L_8, k_8, n_8⟩, -, X_8, ⟨Lc_8, hQ_8, l_8, y_8, z_8⟩, st_8⟩ := X0.specialBack hx (y := M183) rfl hown (mvT hZ (w12 hw)) (mvT hZ (w13 hw)) (mvT hZ (w15 hw)) (by decide) (backOf (W := 0) (rm_si4u_4 l Z a0 hw [] G1 HG h0 n0 X00 x b k c0 c1 c2 c3 hp0 hp1 hp2 hp3 hp4 hl0 hl1 hl2 hl3 hm0 hm1 hm2 hm3) hZ (w15 hw) (w7 hw) (by decide) (by decide)) (g := (mkF m 6 #[.val (.ref x), .val (.ref b)] [.null, (.int (4 : Int32)), (.int (0 : Int32)), (.ref b), (.ref x)])) rfl (by rw [hml]; rfl) (Steps.refl _) (a := x) (argsL := [(.ref b), (.int (0 : Int32)), (.int (4 : Int32)), .null]) (rest := []) (lenOf pd_232 rfl) rfl (by show 2 * 0 + _ ≤ _; exact Nat.le_of_eq rfl) (hb hby d9_6) (fun _ _ => ⟨rfl, e0, (by decide : 0 + 2 ≤ _), (by decide : 0 + 12 ≤ _)⟩)
  dsimp only [Pt.U, Pt.locs, Pt.cells, Pt.slots] at X_8 l_8 y_8 z_8 st_8 hQ_8
  subst l_8 y_8 z_8
  have C_9 : Steps p.tables e below S0 (s₁.setTop (mkF m 6 #[.val (.ref x), .val (.ref b)] [.null, (.int (4 : Int32)), (.int (0 : Int32)), (.ref b), (.ref x)])) := by
    refine C0.trans ?_
    refine XS.aloadN X0.here hx rfl (hb hby d9_0) rfl rfl ?_
    refine XS.aloadN X0.here hx rfl (hb hby d9_1) rfl rfl ?_
    refine XS.iconst X0.here hx rfl (hb hby d9_2) ?_
    refine XS.aloadN X0.here hx rfl (hb hby d9_3) rfl rfl ?_
    refine X0.arraylength hx (by rw [e0]; exact A_2.1) (State.isArrayOf_alike hZ.alike A_2.2.1) (g := (mkF m 4 #[.val (.ref x), .val (.ref b)] [(.ref b), (.int (0 : Int32)), (.ref b), (.ref x)])) rfl rfl (hb hby d9_4) _ ?_
    rw [len_of S_4 M_5]
    refine XS.aconstNull X0.here hx rfl (hb hby d9_5) ?_
    exact Steps.refl _
  rcases hQ_8 with hQ_10 | hQ_11
  · skip
    obtain ⟨a_12, k_13, rfl, N_14, K_15, g_16, g_17, g_18, g_19, g_20⟩ := hQ_10
    have N_21 := Fr.app N0 N_14
    have C_22 : Steps p.tables e below S0 (T_8.setTop (mkF m 9 #[.val (.ref x), .val (.ref b)] [])) := by
      refine C_9.trans ?_
      refine st_8.trans ?_
      exact Steps.refl _
    have K_23 : Keep h0 T_8.heap [x] := ((Keep.refl _ _).trans K_15 (allS (Or.inl (List.mem_of_getElem? (i := 0) rfl)) all0))
    obtain ⟨fs, hr, hrun, hended, hW, hsame⟩ := X_8.leave (v := none) (fun _ => rfl)
    refine ⟨_, _, C_22.trans (X_8.returnOut hx Bd.returns (hb hby d9_9) hr), hrun, hended, _, _, rfl, ?_, ⟨_, rfl⟩, hW, hsame.mono (by decide) (by decide)⟩
    show Q_si1u_4 Z G1 x b k c0 c1 c2 c3 h0 n0 (none) T_8.heap _
    exact Or.inl ⟨a_12, k_13, rfl, N_21, K_23, g_16, g_17, g_18, (Nat.le_trans (Nat.le_refl _) g_19), g_20⟩
  · skip
    obtain ⟨a_24, k_25, rfl, N_26, K_27, g_28, g_29, g_30, g_31, g_32⟩ := hQ_11
    have N_33 := Fr.app N0 N_26
    have C_34 : Steps p.tables e below S0 (T_8.setTop (mkF m 9 #[.val (.ref x), .val (.ref b)] [])) := by
      refine C_9.trans ?_
      refine st_8.trans ?_
      exact Steps.refl _
    have K_35 : Keep h0 T_8.heap [x] := ((Keep.refl _ _).trans K_27 (allS (Or.inl (List.mem_of_getElem? (i := 0) rfl)) all0))
    obtain ⟨fs, hr, hrun, hended, hW, hsame⟩ := X_8.leave (v := none) (fun _ => rfl)
    refine ⟨_, _, C_34.trans (X_8.returnOut hx Bd.returns (hb hby d9_9) hr), hrun, hended, _, _, rfl, ?_, ⟨_, rfl⟩, hW, hsame.mono (by decide) (by decide)⟩
    show Q_si1u_4 Z G1 x b k c0 c1 c2 c3 h0 n0 (none) T_8.heap _
    exact Or.inr (⟨a_24, k_25, rfl, N_33, K_35, g_28, g_29, g_30, (Nat.le_trans (Nat.le_refl _) g_31), g_32⟩)
abbrev M237 : MethodName := ⟨"java/lang/StringLatin1", "canEncode", "(C)Z"⟩
theorem pn_238 : plainName "java/lang/StringLatin1" = true := by first | (simp [plainName, overriddenIn]; done) | decide +kernel
theorem d10_0 : decode jdk_43_method_3_code 0 = .ok (.iload_n 0, 1) := by decide +kernel
theorem d10_1 : decode jdk_43_method_3_code 1 = .ok (.sipush 255, 3) := by decide +kernel
theorem d10_4 : decode jdk_43_method_3_code 4 = .ok (.if_icmp .gt 7, 3) := by decide +kernel
theorem d10_11 : decode jdk_43_method_3_code 11 = .ok (.iconst 0, 1) := by decide +kernel
theorem d10_12 : decode jdk_43_method_3_code 12 = .ok (.ireturn, 1) := by decide +kernel
theorem d10_7 : decode jdk_43_method_3_code 7 = .ok (.iconst 1, 1) := by decide +kernel
theorem d10_8 : decode jdk_43_method_3_code 8 = .ok (.goto 4, 3) := by decide +kernel
abbrev R_canenc : Room := { frames := 0, cells := 0, slots := 0, locals := 0 }
def Q_canenc (Z : State) (G1 : Int32) (cc : Int32) (h0 : Heap) (n0 : Nat) (v : Option Value) (h : Heap) (L : List Loc) : Prop := (v = some (.int (1 : Int32)) ∧ Fr n0 L ∧ h = h0 ∧ (¬ ((255 : Int32) < cc))) ∨ (v = some (.int (0 : Int32)) ∧ Fr n0 L ∧ h = h0 ∧ ((255 : Int32) < cc))
set_option maxRecDepth 65536 in
set_option maxHeartbeats 40000000 in
theorem rm_canenc (l : Launch) (Z : State) (a0 : Array Value) (hw : ∀ d ∈ tables_1, d.before a0 Z = true) (ws : List Jvm.Cond) (G1 : Int32) (HG : own_G l Z a0 G1) (h0 : Heap) (n0 : Nat) (X00 : Old Z n0 h0) (cc : Int32)  :
    own_CP l Z M237 jdk_43_method_3_code 1 (some .boolean) ws R_canenc #[(.int cc)] h0 (Q_canenc Z G1 cc h0 n0) := by
  refine own_P (plainFor_of_name pn_238) ?_
  intro p e s m below meth c s₁ S0 Bd hZ hh hx hby hml hown hnm X0 e0 hS0d
  obtain ⟨O1, P1, OAD, OHI, OLO⟩ := id HG
  have N0 := Fr.nil n0
  have C0 : Steps p.tables e below S0 (s₁.setTop (mkF m 0 #[.val (.int cc)] [])) := by rw [hS0d]; exact castTop (ef_1 m cc) (Steps.refl _)
  have C_1 : Steps p.tables e below S0 (s₁.setTop (mkF m 4 #[.val (.int cc)] [(.int (255 : Int32)), (.int cc)])) := by
    refine C0.trans ?_
    refine XS.iloadN X0.here hx rfl (hb hby d10_0) rfl ?_
    refine XS.sipush X0.here hx rfl (hb hby d10_1) ?_
    exact Steps.refl _
  by_cases hc_2 : (255 : Int32) < cc
  · skip
    have C_3 : Steps p.tables e below S0 (s₁.setTop (mkF m 12 #[.val (.int cc)] [(.int (0 : Int32))])) := by
      refine C_1.trans ?_
      refine XS.icmpYes X0.here hx rfl (pc0 := 4) (pc' := 11) rfl (hb hby d10_4) rfl (ii_gt_t hc_2) (by decide) (by decide) ?_
      refine XS.iconst X0.here hx rfl (hb hby d10_11) ?_
      exact Steps.refl _
    obtain ⟨fs, hr, hrun, hended, hW, hsame⟩ := X0.leave (v := some (.int (0 : Int32))) (fun h => by rw [Bd.returns] at h; cases h)
    refine ⟨_, _, C_3.trans (retN X0 hx (t := .boolean) Bd.returns (by simp) (hb hby d10_12) hr), hrun, hended, _, _, rfl, ?_, ⟨_, rfl⟩, hW, hsame.mono (by decide) (by decide)⟩
    show Q_canenc Z G1 cc h0 n0 (some (.int (0 : Int32))) s₁.heap _
    rw [e0]
    exact Or.inr (⟨rfl, N0, rfl, hc_2⟩)
  · skip
    have C_4 : Steps p.tables e below S0 (s₁.setTop (mkF m 12 #[.val (.int cc)] [(.int (1 : Int32))])) := by
      refine C_1.trans ?_
      refine XS.icmpNo X0.here hx rfl (hb hby d10_4) rfl (ii_gt_f hc_2) ?_
      refine XS.iconst X0.here hx rfl (hb hby d10_7) ?_
      refine XS.goto X0.here hx rfl (pc0 := 8) (pc' := 12) rfl (hb hby d10_8) (by decide) (by decide) ?_
      exact Steps.refl _
    obtain ⟨fs, hr, hrun, hended, hW, hsame⟩ := X0.leave (v := some (.int (1 : Int32))) (fun h => by rw [Bd.returns] at h; cases h)
    refine ⟨_, _, C_4.trans (retN X0 hx (t := .boolean) Bd.returns (by simp) (hb hby d10_12) hr), hrun, hended, _, _, rfl, ?_, ⟨_, rfl⟩, hW, hsame.mono (by decide) (by decide)⟩
    show Q_canenc Z G1 cc h0 n0 (some (.int (1 : Int32))) s₁.heap _
    rw [e0]
    exact Or.inl ⟨rfl, N0, rfl, hc_2⟩
abbrev M246 : MethodName := ⟨"java/lang/StringLatin1", "toBytes", "(C)[B"⟩
theorem d11_0 : decode jdk_43_method_46_code 0 = .ok (.iconst 1, 1) := by decide +kernel
theorem d11_1 : decode jdk_43_method_46_code 1 = .ok (.newarray .byte, 2) := by decide +kernel
theorem d11_3 : decode jdk_43_method_46_code 3 = .ok (.dup, 1) := by decide +kernel
theorem d11_4 : decode jdk_43_method_46_code 4 = .ok (.iconst 0, 1) := by decide +kernel
theorem d11_5 : decode jdk_43_method_46_code 5 = .ok (.iload_n 0, 1) := by decide +kernel
theorem d11_6 : decode jdk_43_method_46_code 6 = .ok (.i2b, 1) := by decide +kernel
theorem d11_7 : decode jdk_43_method_46_code 7 = .ok (.bastore, 1) := by decide +kernel
theorem d11_8 : decode jdk_43_method_46_code 8 = .ok (.areturn, 1) := by decide +kernel
abbrev R_ltob : Room := { frames := 0, cells := 1, slots := 1, locals := 0 }
def Q_ltob (Z : State) (G1 : Int32) (cc : Int32) (h0 : Heap) (n0 : Nat) (v : Option Value) (h : Heap) (L : List Loc) : Prop := (∃ t : Addr, ∃ kt : ClassId, v = some (.ref t) ∧ Fr n0 L ∧ Keep h0 h [] ∧ (h0.size ≤ t) ∧ (Arv Z h t kt .byte (1 : Int32) [(.int (own_lo8 cc))] (.int (0 : Int32))))
set_option maxRecDepth 65536 in
set_option maxHeartbeats 40000000 in
theorem rm_ltob (l : Launch) (Z : State) (a0 : Array Value) (hw : ∀ d ∈ tables_1, d.before a0 Z = true) (ws : List Jvm.Cond) (G1 : Int32) (HG : own_G l Z a0 G1) (h0 : Heap) (n0 : Nat) (X00 : Old Z n0 h0) (cc : Int32)  :
    own_CP l Z M246 jdk_43_method_46_code 1 (some (.array .byte)) ws R_ltob #[(.int cc)] h0 (Q_ltob Z G1 cc h0 n0) := by
  refine own_P (plainFor_of_name pn_238) ?_
  intro p e s m below meth c s₁ S0 Bd hZ hh hx hby hml hown hnm X0 e0 hS0d
  obtain ⟨O1, P1, OAD, OHI, OLO⟩ := id HG
  have N0 := Fr.nil n0
  have C0 : Steps p.tables e below S0 (s₁.setTop (mkF m 0 #[.val (.int cc)] [])) := by rw [hS0d]; exact castTop (ef_1 m cc) (Steps.refl _)
  obtain ⟨T_1, h_2, k_3, X_4, e_5, E_6, A_7, st_8⟩ := newP (aty := .byte) X0 hx hZ (w24 hw) e0 (g := (mkF m 1 #[.val (.int cc)] [(.int (1 : Int32))])) rfl (hb hby d11_1) rfl (by decide : ¬ ((1 : Int32) < (0 : Int32))) (cap := 1) (by decide : (1 : Int32).toNatClampNeg ≤ 1) (by decide) (by decide) (by decide)
  obtain ⟨a_9, g_10⟩ : ∃ z, z = h0.size := ⟨_, rfl⟩
  rw [← g_10] at A_7 st_8
  have V_12 : Arv Z h_2 a_9 k_3 .byte (1 : Int32) [] (.int (0 : Int32)) := Arv.new A_7 (by decide : ¬ ((1 : Int32) < (0 : Int32)))
  have V_11 : Arv Z h_2 a_9 k_3 .byte (1 : Int32) [(.int (0 : Int32))] (.int (0 : Int32)) := (V_12.pad (pad_rep [] (.int (0 : Int32)) 1))
  obtain ⟨c_13, A_14, q_15, S_16, M_17, H_18, U_19⟩ := id V_11
  have hin_26 : ¬ ((0 : Int32) < 0 ∨ c_13.slots.size ≤ (0 : Int32).toNatClampNeg) := inb_of S_16 ⟨(by decide : ¬ ((0 : Int32) < (0 : Int32))), (by decide : (0 : Int32) < (1 : Int32))⟩
  obtain ⟨T_20, h_21, X_22, e_23, W_24, st_25⟩ := stB X_4 hx hZ e_5 A_14 (j := (0 : Int32)) hin_26 (g := (mkF m 7 #[.val (.int cc)] [(.int (cc.toInt8.toInt32)), (.int (0 : Int32)), (.ref a_9), (.ref a_9)])) rfl rfl (hb hby d11_7)
  have N_27 := Fr.snoc X_22 N0 (Nat.le_trans (own_n0 X00) (Nat.le_of_eq g_10.symm))
  have V_28 : Arv Z h_21 a_9 k_3 .byte (1 : Int32) [(.int (own_lo8 cc))] (.int (0 : Int32)) := Arv.set A_14 q_15 S_16 M_17 H_18 U_19 (fits_nar_byte _) W_24 0 rfl (Nat.le_of_ble_eq_true rfl)
  have C_29 : Steps p.tables e below S0 (T_20.setTop (mkF m 8 #[.val (.int cc)] [(.ref a_9)])) := by
    refine C0.trans ?_
    refine XS.iconst X0.here hx rfl (hb hby d11_0) ?_
    refine st_8 _ ?_
    refine XS.dup X_4.here hx rfl (hb hby d11_3) rfl rfl ?_
    refine XS.iconst X_4.here hx rfl (hb hby d11_4) ?_
    refine XS.iloadN X_4.here hx rfl (hb hby d11_5) rfl ?_
    refine XS.i2b X_4.here hx rfl (hb hby d11_6) rfl ?_
    refine st_25 _ ?_
    exact Steps.refl _
  have K_30 : Keep h0 h_21 [] := (((Keep.refl _ _).ext E_6).wr W_24 (Or.inr (Nat.le_trans (Nat.le_refl _) (Nat.le_of_eq g_10.symm))))
  obtain ⟨fs, hr, hrun, hended, hW, hsame⟩ := X_22.leave (v := some (.ref a_9)) (fun h => by rw [Bd.returns] at h; cases h)
  refine ⟨_, _, C_29.trans (retOut X_22 hx Bd.returns rfl (Or.inr (Or.inr (Or.inr (Or.inr ⟨rfl, rfl, rfl⟩)))) (hb hby d11_8) hr), hrun, hended, _, _, rfl, ?_, ⟨_, rfl⟩, hW, hsame.mono (by decide) (by decide)⟩
  show Q_ltob Z G1 cc h0 n0 (some (.ref a_9)) T_20.heap _
  rw [e_23]
  exact ⟨a_9, k_3, rfl, N_27, K_30, (Nat.le_trans (Nat.le_refl _) (Nat.le_of_eq g_10.symm)), V_28⟩
abbrev M255 : MethodName := ⟨"java/lang/StringUTF16", "toBytes", "(C)[B"⟩
theorem ef_256 (m : MethodId) (x0 : Int32) : entryFrame m #[(.int x0)] 2 = mkF m 0 #[.val (.int x0), .unset] [] := by first | (simp [entryFrame, mkF, argsToLocals, Value.category]; done) | rfl
theorem d12_0 : decode jdk_52_method_24_code 0 = .ok (.iconst 2, 1) := by decide +kernel
theorem d12_1 : decode jdk_52_method_24_code 1 = .ok (.newarray .byte, 2) := by decide +kernel
theorem d12_3 : decode jdk_52_method_24_code 3 = .ok (.astore_n 1, 1) := by decide +kernel
theorem d12_4 : decode jdk_52_method_24_code 4 = .ok (.aload_n 1, 1) := by decide +kernel
theorem d12_5 : decode jdk_52_method_24_code 5 = .ok (.iconst 0, 1) := by decide +kernel
theorem d12_6 : decode jdk_52_method_24_code 6 = .ok (.iload_n 0, 1) := by decide +kernel
theorem d12_7 : decode jdk_52_method_24_code 7 = .ok (.invokestatic 111, 3) := by decide +kernel
theorem d12_10 : decode jdk_52_method_24_code 10 = .ok (.aload_n 1, 1) := by decide +kernel
theorem d12_11 : decode jdk_52_method_24_code 11 = .ok (.areturn, 1) := by decide +kernel
abbrev R_utob : Room := { frames := 1, cells := 1, slots := 2, locals := 14 }
def Q_utob (Z : State) (G1 : Int32) (cc : Int32) (h0 : Heap) (n0 : Nat) (v : Option Value) (h : Heap) (L : List Loc) : Prop := (∃ t : Addr, ∃ kt : ClassId, v = some (.ref t) ∧ Fr n0 L ∧ Keep h0 h [] ∧ (h0.size ≤ t) ∧ (Arv Z h t kt .byte (2 : Int32) [(.int (own_lo8z cc)), (.int (own_hi8 cc))] (.int (0 : Int32))))
set_option maxRecDepth 65536 in
set_option maxHeartbeats 40000000 in
theorem rm_utob (l : Launch) (Z : State) (a0 : Array Value) (hw : ∀ d ∈ tables_1, d.before a0 Z = true) (ws : List Jvm.Cond) (G1 : Int32) (HG : own_G l Z a0 G1) (h0 : Heap) (n0 : Nat) (X00 : Old Z n0 h0) (cc : Int32)  :
    own_CP l Z M255 jdk_52_method_24_code 2 (some (.array .byte)) ws R_utob #[(.int cc)] h0 (Q_utob Z G1 cc h0 n0) := by
  refine own_P (plainFor_of_name pn_2) ?_
  intro p e s m below meth c s₁ S0 Bd hZ hh hx hby hml hown hnm X0 e0 hS0d
  obtain ⟨O1, P1, OAD, OHI, OLO⟩ := id HG
  have N0 := Fr.nil n0
  have C0 : Steps p.tables e below S0 (s₁.setTop (mkF m 0 #[.val (.int cc), .unset] [])) := by rw [hS0d]; exact castTop (ef_256 m cc) (Steps.refl _)
  obtain ⟨T_1, h_2, k_3, X_4, e_5, E_6, A_7, st_8⟩ := newP (aty := .byte) X0 hx hZ (w24 hw) e0 (g := (mkF m 1 #[.val (.int cc), .unset] [(.int (2 : Int32))])) rfl (hb hby d12_1) rfl (by decide : ¬ ((2 : Int32) < (0 : Int32))) (cap := 2) (by decide : (2 : Int32).toNatClampNeg ≤ 2) (by decide) (by decide) (by decide)
  obtain ⟨a_9, g_10⟩ : ∃ z, z = h0.size := ⟨_, rfl⟩
  rw [← g_10] at A_7 st_8
  have V_12 : Arv Z h_2 a_9 k_3 .byte (2 : Int32) [] (.int (0 : Int32)) := Arv.new A_7 (by decide : ¬ ((2 : Int32) < (0 : Int32)))
  have V_11 : Arv Z h_2 a_9 k_3 .byte (2 : Int32) [(.int (0 : Int32)), (.int (0 : Int32))] (.int (0 : Int32)) := (V_12.pad (pad_rep [] (.int (0 : Int32)) 2))
  have O_13 : Old Z n0 h_2 := (X00.ext E_6)
  obtain ⟨_, _, ⟨T_14, L_14, k_14, n_14⟩, -, X_14, ⟨Lc_14, hQ_14, l_14, y_14, z_14⟩, st_14⟩ := Jvm.LawKit.callS X_4 hx (y := M24) hown (mvT hZ (w78 hw)) (mvT hZ (w79 hw)) (mvT hZ (w22 hw)) (mvT hZ (w80 hw)) (by decide) (backOf (W := 0) (rm_put_1_0 l Z a0 hw [] G1 HG h_2 n0 O_13 a_9 k_3 cc (0 : Int32) (0 : Int32) V_11 (Nat.le_trans (own_n0 X00) (Nat.le_of_eq g_10.symm))) hZ (w80 hw) (w22 hw) (by decide) (by decide)) (g := (mkF m 7 #[.val (.int cc), .val (.ref a_9)] [(.int cc), (.int (0 : Int32)), (.ref a_9)])) rfl (by rw [hml]; rfl) (argsL := [(.ref a_9), (.int (0 : Int32)), (.int cc)]) (rest := []) (lenOf pd_71 rfl) rfl (by show 2 * 0 + _ ≤ _; exact Nat.le_of_eq rfl) (hb hby d12_7) (fun _ _ => ⟨rfl, e_5, (by decide : 1 + 0 ≤ _), (by decide : 2 + 0 ≤ _)⟩)
  dsimp only [Pt.U, Pt.locs, Pt.cells, Pt.slots] at X_14 l_14 y_14 z_14 st_14 hQ_14
  subst l_14 y_14 z_14
  obtain ⟨rfl, N_15, K_16, g_17⟩ := hQ_14
  have N_18 := Fr.app N0 N_15
  have C_19 : Steps p.tables e below S0 (T_14.setTop (mkF m 11 #[.val (.int cc), .val (.ref a_9)] [(.ref a_9)])) := by
    refine C0.trans ?_
    refine XS.iconst X0.here hx rfl (hb hby d12_0) ?_
    refine st_8 _ ?_
    refine XS.astoreN X_4.here hx rfl (hb hby d12_3) rfl rfl (l' := #[.val (.int cc), .val (.ref a_9)]) rfl ?_
    refine XS.aloadN X_4.here hx rfl (hb hby d12_4) rfl rfl ?_
    refine XS.iconst X_4.here hx rfl (hb hby d12_5) ?_
    refine XS.iloadN X_4.here hx rfl (hb hby d12_6) rfl ?_
    refine st_14 _ ?_
    refine XS.aloadN X_14.here hx rfl (hb hby d12_10) rfl rfl ?_
    show Steps p.tables e below (T_14.setTop (mkF m 11 #[.val (.int cc), .val (.ref a_9)] [(.ref a_9)])) _
    exact Steps.refl _
  have K_20 : Keep h0 T_14.heap [] := (((Keep.refl _ _).ext E_6).trans K_16 (allS (Or.inr (Nat.le_trans (Nat.le_refl _) (Nat.le_of_eq g_10.symm))) all0))
  obtain ⟨fs, hr, hrun, hended, hW, hsame⟩ := X_14.leave (v := some (.ref a_9)) (fun h => by rw [Bd.returns] at h; cases h)
  refine ⟨_, _, C_19.trans (retOut X_14 hx Bd.returns rfl (Or.inr (Or.inr (Or.inr (Or.inr ⟨rfl, rfl, rfl⟩)))) (hb hby d12_11) hr), hrun, hended, _, _, rfl, ?_, ⟨_, rfl⟩, hW, hsame.mono (by decide) (by decide)⟩
  show Q_utob Z G1 cc h0 n0 (some (.ref a_9)) T_14.heap _
  exact ⟨a_9, k_3, rfl, N_18, K_20, (Nat.le_trans (Nat.le_refl _) (Nat.le_of_eq g_10.symm)), g_17⟩
abbrev M266 : MethodName := ⟨"java/lang/String", "<init>", "([BB)V"⟩
theorem ef_267 (m : MethodId) (x0 : Addr) (x1 : Addr) (x2 : Int32) : entryFrame m #[(.ref x0), (.ref x1), (.int x2)] 3 = mkF m 0 #[.val (.ref x0), .val (.ref x1), .val (.int x2)] [] := by first | (simp [entryFrame, mkF, argsToLocals, Value.category]; done) | rfl
theorem d13_0 : decode jdk_42_method_151_code 0 = .ok (.aload_n 0, 1) := by decide +kernel
theorem d13_1 : decode jdk_42_method_151_code 1 = .ok (.invokespecial 1, 3) := by decide +kernel
theorem d13_4 : decode jdk_42_method_151_code 4 = .ok (.aload_n 0, 1) := by decide +kernel
theorem d13_5 : decode jdk_42_method_151_code 5 = .ok (.aload_n 1, 1) := by decide +kernel
theorem d13_6 : decode jdk_42_method_151_code 6 = .ok (.putfield 9, 3) := by decide +kernel
theorem d13_9 : decode jdk_42_method_151_code 9 = .ok (.aload_n 0, 1) := by decide +kernel
theorem d13_10 : decode jdk_42_method_151_code 10 = .ok (.iload_n 2, 1) := by decide +kernel
theorem d13_11 : decode jdk_42_method_151_code 11 = .ok (.putfield 15, 3) := by decide +kernel
theorem d13_14 : decode jdk_42_method_151_code 14 = .ok (.return_, 1) := by decide +kernel
abbrev R_sbb_0 : Room := { frames := 1, cells := 0, slots := 0, locals := 12 }
def Q_sbb_0 (Z : State) (G1 : Int32) (x : Addr) (t : Addr) (h0 : Heap) (n0 : Nat) (v : Option Value) (h : Heap) (L : List Loc) : Prop := (v = none ∧ Fr n0 L ∧ Keep h0 h [x] ∧ (Exa Z h x "java/lang/String") ∧ (Fld Z h x "java/lang/String" "coder" "B" (.int (0 : Int32))) ∧ (Fld Z h x "java/lang/String" "value" "[B" (.ref t)))
set_option maxRecDepth 65536 in
set_option maxHeartbeats 40000000 in
theorem rm_sbb_0 (l : Launch) (Z : State) (a0 : Array Value) (hw : ∀ d ∈ tables_1, d.before a0 Z = true) (ws : List Jvm.Cond) (G1 : Int32) (HG : own_G l Z a0 G1) (h0 : Heap) (n0 : Nat) (X00 : Old Z n0 h0) (x : Addr) (t : Addr) (hp0 : Exa Z h0 x "java/lang/String") (hp1 : Fld Z h0 x "java/lang/String" "value" "[B" .null) (hp2 : Fld Z h0 x "java/lang/String" "coder" "B" (.int (0 : Int32))) (hp3 : n0 ≤ x) :
    own_CP l Z M266 jdk_42_method_151_code 3 none ws R_sbb_0 #[(.ref x), (.ref t), (.int (0 : Int32))] h0 (Q_sbb_0 Z G1 x t h0 n0) := by
  refine own_P (plainFor_of_name pn_185) ?_
  intro p e s m below meth c s₁ S0 Bd hZ hh hx hby hml hown hnm X0 e0 hS0d
  obtain ⟨O1, P1, OAD, OHI, OLO⟩ := id HG
  have N0 := Fr.nil n0
  have C0 : Steps p.tables e below S0 (s₁.setTop (mkF m 0 #[.val (.ref x), .val (.ref t), .val (.int (0 : Int32))] [])) := by rw [hS0d]; exact castTop (ef_267 m x t (0 : Int32)) (Steps.refl _)
  obtain ⟨T_1, X_2, e_3, st_4⟩ := initO X0 hx hZ hown (w16 hw) (w17 hw) (w18 hw) e0 (g := (mkF m 1 #[.val (.ref x), .val (.ref t), .val (.int (0 : Int32))] [(.ref x)])) rfl (by rw [hml]; rfl) rfl (hb hby d13_1) (by decide) (W := 0) (by show 2 * 0 + _ ≤ _; exact Nat.le_of_eq rfl) (by decide)
  obtain ⟨T_5, h_6, X_7, e_8, W_9, st_10⟩ := putF X_2 hx hZ hown (host := "") (Or.inl (w33 hw)) Via.refl e_3 hp1 hp0 (Or.inr ⟨(w34 hw), rfl, hnm⟩) (w6 hw) (ty := (.array .byte)) (by decide) rfl rfl (g := (mkF m 6 #[.val (.ref x), .val (.ref t), .val (.int (0 : Int32))] [(.ref t), (.ref x)])) rfl rfl (hb hby d13_6)
  have N_11 := Fr.snoc X_7 N0 hp3
  have F_12 : Fld Z h_6 x "java/lang/String" "value" "[B" (.ref t) := hp1.same W_9
  have F_13 : Fld Z h_6 x "java/lang/String" "coder" "B" (.int (0 : Int32)) := (hp2.other W_9 (Or.inr (slot_ne (Or.inr (w32 hw)) (Or.inr (w34 hw)) (by decide) (t := .byte) (by decide) (t' := (.array .byte)) (by decide))))
  have E_14 : Exa Z h_6 x "java/lang/String" := (hp0.wr W_9)
  obtain ⟨T_15, h_16, X_17, e_18, W_19, st_20⟩ := putF X_7 hx hZ hown (host := "") (Or.inl (w31 hw)) Via.refl e_8 F_13 E_14 (Or.inr ⟨(w32 hw), rfl, hnm⟩) (w6 hw) (ty := .byte) (by decide) rfl (by decide) (g := (mkF m 11 #[.val (.ref x), .val (.ref t), .val (.int (0 : Int32))] [(.int (0 : Int32)), (.ref x)])) rfl rfl (hb hby d13_11)
  have N_21 := Fr.snoc X_17 N_11 hp3
  have F_22 : Fld Z h_16 x "java/lang/String" "coder" "B" (.int (0 : Int32)) := F_13.same W_19
  have C_23 : Steps p.tables e below S0 (T_15.setTop (mkF m 14 #[.val (.ref x), .val (.ref t), .val (.int (0 : Int32))] [])) := by
    refine C0.trans ?_
    refine XS.aloadN X0.here hx rfl (hb hby d13_0) rfl rfl ?_
    refine st_4 _ ?_
    refine XS.aloadN X_2.here hx rfl (hb hby d13_4) rfl rfl ?_
    refine XS.aloadN X_2.here hx rfl (hb hby d13_5) rfl rfl ?_
    refine st_10 _ ?_
    refine XS.aloadN X_7.here hx rfl (hb hby d13_9) rfl rfl ?_
    refine XS.iloadN X_7.here hx rfl (hb hby d13_10) rfl ?_
    refine st_20 _ ?_
    show Steps p.tables e below (T_15.setTop (mkF m 14 #[.val (.ref x), .val (.ref t), .val (.int (0 : Int32))] [])) _
    exact Steps.refl _
  have E_24 : Exa Z h_16 x "java/lang/String" := (E_14.wr W_19)
  have F_25 : Fld Z h_16 x "java/lang/String" "value" "[B" (.ref t) := (F_12.other W_19 (Or.inr (slot_ne (Or.inr (w34 hw)) (Or.inr (w32 hw)) (by decide) (t := (.array .byte)) (by decide) (t' := .byte) (by decide))))
  have K_26 : Keep h0 h_16 [x] := (((Keep.refl _ _).wr W_9 (Or.inl (List.mem_of_getElem? (i := 0) rfl))).wr W_19 (Or.inl (List.mem_of_getElem? (i := 0) rfl)))
  obtain ⟨fs, hr, hrun, hended, hW, hsame⟩ := X_17.leave (v := none) (fun _ => rfl)
  refine ⟨_, _, C_23.trans (X_17.returnOut hx Bd.returns (hb hby d13_14) hr), hrun, hended, _, _, rfl, ?_, ⟨_, rfl⟩, hW, hsame.mono (by decide) (by decide)⟩
  show Q_sbb_0 Z G1 x t h0 n0 (none) T_15.heap _
  rw [e_18]
  exact ⟨rfl, N_21, K_26, E_24, F_22, F_25⟩
abbrev R_sbb_1 : Room := { frames := 1, cells := 0, slots := 0, locals := 12 }
def Q_sbb_1 (Z : State) (G1 : Int32) (x : Addr) (t : Addr) (h0 : Heap) (n0 : Nat) (v : Option Value) (h : Heap) (L : List Loc) : Prop := (v = none ∧ Fr n0 L ∧ Keep h0 h [x] ∧ (Exa Z h x "java/lang/String") ∧ (Fld Z h x "java/lang/String" "coder" "B" (.int (1 : Int32))) ∧ (Fld Z h x "java/lang/String" "value" "[B" (.ref t)))
set_option maxRecDepth 65536 in
set_option maxHeartbeats 40000000 in
theorem rm_sbb_1 (l : Launch) (Z : State) (a0 : Array Value) (hw : ∀ d ∈ tables_1, d.before a0 Z = true) (ws : List Jvm.Cond) (G1 : Int32) (HG : own_G l Z a0 G1) (h0 : Heap) (n0 : Nat) (X00 : Old Z n0 h0) (x : Addr) (t : Addr) (hp0 : Exa Z h0 x "java/lang/String") (hp1 : Fld Z h0 x "java/lang/String" "value" "[B" .null) (hp2 : Fld Z h0 x "java/lang/String" "coder" "B" (.int (0 : Int32))) (hp3 : n0 ≤ x) :
    own_CP l Z M266 jdk_42_method_151_code 3 none ws R_sbb_1 #[(.ref x), (.ref t), (.int (1 : Int32))] h0 (Q_sbb_1 Z G1 x t h0 n0) := by
  refine own_P (plainFor_of_name pn_185) ?_
  intro p e s m below meth c s₁ S0 Bd hZ hh hx hby hml hown hnm X0 e0 hS0d
  obtain ⟨O1, P1, OAD, OHI, OLO⟩ := id HG
  have N0 := Fr.nil n0
  have C0 : Steps p.tables e below S0 (s₁.setTop (mkF m 0 #[.val (.ref x), .val (.ref t), .val (.int (1 : Int32))] [])) := by rw [hS0d]; exact castTop (ef_267 m x t (1 : Int32)) (Steps.refl _)
  obtain ⟨T_1, X_2, e_3, st_4⟩ := initO X0 hx hZ hown (w16 hw) (w17 hw) (w18 hw) e0 (g := (mkF m 1 #[.val (.ref x), .val (.ref t), .val (.int (1 : Int32))] [(.ref x)])) rfl (by rw [hml]; rfl) rfl (hb hby d13_1) (by decide) (W := 0) (by show 2 * 0 + _ ≤ _; exact Nat.le_of_eq rfl) (by decide)
  obtain ⟨T_5, h_6, X_7, e_8, W_9, st_10⟩ := putF X_2 hx hZ hown (host := "") (Or.inl (w33 hw)) Via.refl e_3 hp1 hp0 (Or.inr ⟨(w34 hw), rfl, hnm⟩) (w6 hw) (ty := (.array .byte)) (by decide) rfl rfl (g := (mkF m 6 #[.val (.ref x), .val (.ref t), .val (.int (1 : Int32))] [(.ref t), (.ref x)])) rfl rfl (hb hby d13_6)
  have N_11 := Fr.snoc X_7 N0 hp3
  have F_12 : Fld Z h_6 x "java/lang/String" "value" "[B" (.ref t) := hp1.same W_9
  have F_13 : Fld Z h_6 x "java/lang/String" "coder" "B" (.int (0 : Int32)) := (hp2.other W_9 (Or.inr (slot_ne (Or.inr (w32 hw)) (Or.inr (w34 hw)) (by decide) (t := .byte) (by decide) (t' := (.array .byte)) (by decide))))
  have E_14 : Exa Z h_6 x "java/lang/String" := (hp0.wr W_9)
  obtain ⟨T_15, h_16, X_17, e_18, W_19, st_20⟩ := putF X_7 hx hZ hown (host := "") (Or.inl (w31 hw)) Via.refl e_8 F_13 E_14 (Or.inr ⟨(w32 hw), rfl, hnm⟩) (w6 hw) (ty := .byte) (by decide) rfl (by decide) (g := (mkF m 11 #[.val (.ref x), .val (.ref t), .val (.int (1 : Int32))] [(.int (1 : Int32)), (.ref x)])) rfl rfl (hb hby d13_11)
  have N_21 := Fr.snoc X_17 N_11 hp3
  have F_22 : Fld Z h_16 x "java/lang/String" "coder" "B" (.int (1 : Int32)) := F_13.same W_19
  have C_23 : Steps p.tables e below S0 (T_15.setTop (mkF m 14 #[.val (.ref x), .val (.ref t), .val (.int (1 : Int32))] [])) := by
    refine C0.trans ?_
    refine XS.aloadN X0.here hx rfl (hb hby d13_0) rfl rfl ?_
    refine st_4 _ ?_
    refine XS.aloadN X_2.here hx rfl (hb hby d13_4) rfl rfl ?_
    refine XS.aloadN X_2.here hx rfl (hb hby d13_5) rfl rfl ?_
    refine st_10 _ ?_
    refine XS.aloadN X_7.here hx rfl (hb hby d13_9) rfl rfl ?_
    refine XS.iloadN X_7.here hx rfl (hb hby d13_10) rfl ?_
    refine st_20 _ ?_
    show Steps p.tables e below (T_15.setTop (mkF m 14 #[.val (.ref x), .val (.ref t), .val (.int (1 : Int32))] [])) _
    exact Steps.refl _
  have E_24 : Exa Z h_16 x "java/lang/String" := (E_14.wr W_19)
  have F_25 : Fld Z h_16 x "java/lang/String" "value" "[B" (.ref t) := (F_12.other W_19 (Or.inr (slot_ne (Or.inr (w34 hw)) (Or.inr (w32 hw)) (by decide) (t := (.array .byte)) (by decide) (t' := .byte) (by decide))))
  have K_26 : Keep h0 h_16 [x] := (((Keep.refl _ _).wr W_9 (Or.inl (List.mem_of_getElem? (i := 0) rfl))).wr W_19 (Or.inl (List.mem_of_getElem? (i := 0) rfl)))
  obtain ⟨fs, hr, hrun, hended, hW, hsame⟩ := X_17.leave (v := none) (fun _ => rfl)
  refine ⟨_, _, C_23.trans (X_17.returnOut hx Bd.returns (hb hby d13_14) hr), hrun, hended, _, _, rfl, ?_, ⟨_, rfl⟩, hW, hsame.mono (by decide) (by decide)⟩
  show Q_sbb_1 Z G1 x t h0 n0 (none) T_15.heap _
  rw [e_18]
  exact ⟨rfl, N_21, K_26, E_24, F_22, F_25⟩
abbrev M277 : MethodName := ⟨"java/lang/String", "valueOf", "(C)Ljava/lang/String;"⟩
theorem d14_0 : decode jdk_42_method_139_code 0 = .ok (.getstatic 38, 3) := by decide +kernel
theorem d14_3 : decode jdk_42_method_139_code 3 = .ok (.ifCond .eq 23, 3) := by decide +kernel
theorem d14_6 : decode jdk_42_method_139_code 6 = .ok (.iload_n 0, 1) := by decide +kernel
theorem w41 {Z : State} {a0 : Array Value} (hw : ∀ d ∈ tables_1, d.before a0 Z = true) : Jvm.Cond.before (Jvm.Cond.code ({ cls := "java/lang/StringLatin1", name := "canEncode", desc := "(C)Z" } : Jvm.MethodName) jdk_43_method_3_code (1 : Nat) (Option.some Jvm.ClassFile.FieldType.boolean)) a0 Z = true := hw _ (List.mem_of_getElem? (i := 41) rfl)
theorem w40 {Z : State} {a0 : Array Value} (hw : ∀ d ∈ tables_1, d.before a0 Z = true) : Jvm.Cond.before (Jvm.Cond.initialized "java/lang/StringLatin1") a0 Z = true := hw _ (List.mem_of_getElem? (i := 40) rfl)
theorem pd_283 : parseMethodDescriptor "(C)Z" = some ⟨[.char], some .boolean⟩ := by decide +kernel
theorem d14_7 : decode jdk_42_method_139_code 7 = .ok (.invokestatic 1015, 3) := by decide +kernel
theorem w38 {Z : State} {a0 : Array Value} (hw : ∀ d ∈ tables_1, d.before a0 Z = true) : Jvm.Cond.before (Jvm.Cond.methodLink "java/lang/String" (1015 : Nat) ({ cls := "java/lang/StringLatin1", name := "canEncode", desc := "(C)Z" } : Jvm.MethodName)) a0 Z = true := hw _ (List.mem_of_getElem? (i := 38) rfl)
theorem w39 {Z : State} {a0 : Array Value} (hw : ∀ d ∈ tables_1, d.before a0 Z = true) : Jvm.Cond.before (Jvm.Cond.static ({ cls := "java/lang/StringLatin1", name := "canEncode", desc := "(C)Z" } : Jvm.MethodName)) a0 Z = true := hw _ (List.mem_of_getElem? (i := 39) rfl)
theorem d14_10 : decode jdk_42_method_139_code 10 = .ok (.ifCond .eq 16, 3) := by decide +kernel
theorem w42 {Z : State} {a0 : Array Value} (hw : ∀ d ∈ tables_1, d.before a0 Z = true) : Jvm.Cond.before (Jvm.Cond.classLink "java/lang/String" (10 : Nat) "java/lang/String") a0 Z = true := hw _ (List.mem_of_getElem? (i := 42) rfl)
theorem d14_13 : decode jdk_42_method_139_code 13 = .ok (.new 10, 3) := by decide +kernel
theorem d14_16 : decode jdk_42_method_139_code 16 = .ok (.dup, 1) := by decide +kernel
theorem d14_17 : decode jdk_42_method_139_code 17 = .ok (.iload_n 0, 1) := by decide +kernel
theorem w45 {Z : State} {a0 : Array Value} (hw : ∀ d ∈ tables_1, d.before a0 Z = true) : Jvm.Cond.before (Jvm.Cond.code ({ cls := "java/lang/StringLatin1", name := "toBytes", desc := "(C)[B" } : Jvm.MethodName) jdk_43_method_46_code (1 : Nat) (Option.some (Jvm.ClassFile.FieldType.array Jvm.ClassFile.FieldType.byte))) a0 Z = true := hw _ (List.mem_of_getElem? (i := 45) rfl)
theorem pd_293 : parseMethodDescriptor "(C)[B" = some ⟨[.char], some (.array .byte)⟩ := by decide +kernel
theorem d14_18 : decode jdk_42_method_139_code 18 = .ok (.invokestatic 1018, 3) := by decide +kernel
theorem w43 {Z : State} {a0 : Array Value} (hw : ∀ d ∈ tables_1, d.before a0 Z = true) : Jvm.Cond.before (Jvm.Cond.methodLink "java/lang/String" (1018 : Nat) ({ cls := "java/lang/StringLatin1", name := "toBytes", desc := "(C)[B" } : Jvm.MethodName)) a0 Z = true := hw _ (List.mem_of_getElem? (i := 43) rfl)
theorem w44 {Z : State} {a0 : Array Value} (hw : ∀ d ∈ tables_1, d.before a0 Z = true) : Jvm.Cond.before (Jvm.Cond.static ({ cls := "java/lang/StringLatin1", name := "toBytes", desc := "(C)[B" } : Jvm.MethodName)) a0 Z = true := hw _ (List.mem_of_getElem? (i := 44) rfl)
theorem d14_21 : decode jdk_42_method_139_code 21 = .ok (.iconst 0, 1) := by decide +kernel
theorem w48 {Z : State} {a0 : Array Value} (hw : ∀ d ∈ tables_1, d.before a0 Z = true) : Jvm.Cond.before (Jvm.Cond.code ({ cls := "java/lang/String", name := "<init>", desc := "([BB)V" } : Jvm.MethodName) jdk_42_method_151_code (3 : Nat) (Option.none : Option Jvm.ClassFile.FieldType)) a0 Z = true := hw _ (List.mem_of_getElem? (i := 48) rfl)
theorem pd_299 : parseMethodDescriptor "([BB)V" = some ⟨[(.array .byte), .byte], none⟩ := by decide +kernel
theorem d14_22 : decode jdk_42_method_139_code 22 = .ok (.invokespecial 209, 3) := by decide +kernel
theorem w46 {Z : State} {a0 : Array Value} (hw : ∀ d ∈ tables_1, d.before a0 Z = true) : Jvm.Cond.before (Jvm.Cond.methodLink "java/lang/String" (209 : Nat) ({ cls := "java/lang/String", name := "<init>", desc := "([BB)V" } : Jvm.MethodName)) a0 Z = true := hw _ (List.mem_of_getElem? (i := 46) rfl)
theorem w47 {Z : State} {a0 : Array Value} (hw : ∀ d ∈ tables_1, d.before a0 Z = true) : Jvm.Cond.before (Jvm.Cond.instanceMethod ({ cls := "java/lang/String", name := "<init>", desc := "([BB)V" } : Jvm.MethodName)) a0 Z = true := hw _ (List.mem_of_getElem? (i := 47) rfl)
theorem d14_25 : decode jdk_42_method_139_code 25 = .ok (.areturn, 1) := by decide +kernel
theorem d14_26 : decode jdk_42_method_139_code 26 = .ok (.new 10, 3) := by decide +kernel
theorem d14_29 : decode jdk_42_method_139_code 29 = .ok (.dup, 1) := by decide +kernel
theorem d14_30 : decode jdk_42_method_139_code 30 = .ok (.iload_n 0, 1) := by decide +kernel
theorem w89 {Z : State} {a0 : Array Value} (hw : ∀ d ∈ tables_1, d.before a0 Z = true) : Jvm.Cond.before (Jvm.Cond.code ({ cls := "java/lang/StringUTF16", name := "toBytes", desc := "(C)[B" } : Jvm.MethodName) jdk_52_method_24_code (2 : Nat) (Option.some (Jvm.ClassFile.FieldType.array Jvm.ClassFile.FieldType.byte))) a0 Z = true := hw _ (List.mem_of_getElem? (i := 89) rfl)
theorem d14_31 : decode jdk_42_method_139_code 31 = .ok (.invokestatic 1021, 3) := by decide +kernel
theorem w87 {Z : State} {a0 : Array Value} (hw : ∀ d ∈ tables_1, d.before a0 Z = true) : Jvm.Cond.before (Jvm.Cond.methodLink "java/lang/String" (1021 : Nat) ({ cls := "java/lang/StringUTF16", name := "toBytes", desc := "(C)[B" } : Jvm.MethodName)) a0 Z = true := hw _ (List.mem_of_getElem? (i := 87) rfl)
theorem w88 {Z : State} {a0 : Array Value} (hw : ∀ d ∈ tables_1, d.before a0 Z = true) : Jvm.Cond.before (Jvm.Cond.static ({ cls := "java/lang/StringUTF16", name := "toBytes", desc := "(C)[B" } : Jvm.MethodName)) a0 Z = true := hw _ (List.mem_of_getElem? (i := 88) rfl)
theorem d14_34 : decode jdk_42_method_139_code 34 = .ok (.iconst 1, 1) := by decide +kernel
theorem d14_35 : decode jdk_42_method_139_code 35 = .ok (.invokespecial 209, 3) := by decide +kernel
theorem d14_38 : decode jdk_42_method_139_code 38 = .ok (.areturn, 1) := by decide +kernel
abbrev R_valof : Room := { frames := 2, cells := 2, slots := 6, locals := 29 }
def Q_valof (Z : State) (G1 : Int32) (cc : Int32) (h0 : Heap) (n0 : Nat) (v : Option Value) (h : Heap) (L : List Loc) : Prop := (∃ x : Addr, v = some (.ref x) ∧ Fr n0 L ∧ Keep h0 h [] ∧ (h0.size ≤ x) ∧ (Exa Z h x "java/lang/String"))
set_option maxRecDepth 65536 in
set_option maxHeartbeats 40000000 in
theorem rm_valof (l : Launch) (Z : State) (a0 : Array Value) (hw : ∀ d ∈ tables_1, d.before a0 Z = true) (ws : List Jvm.Cond) (G1 : Int32) (HG : own_G l Z a0 G1) (h0 : Heap) (n0 : Nat) (X00 : Old Z n0 h0) (cc : Int32)  :
    own_CP l Z M277 jdk_42_method_139_code 1 (some (.object "java/lang/String")) ws R_valof #[(.int cc)] h0 (Q_valof Z G1 cc h0 n0) := by
  refine own_P (plainFor_of_name pn_185) ?_
  intro p e s m below meth c s₁ S0 Bd hZ hh hx hby hml hown hnm X0 e0 hS0d
  obtain ⟨O1, P1, OAD, OHI, OLO⟩ := id HG
  have N0 := Fr.nil n0
  have C0 : Steps p.tables e below S0 (s₁.setTop (mkF m 0 #[.val (.int cc)] [])) := by rw [hS0d]; exact castTop (ef_1 m cc) (Steps.refl _)
  obtain ⟨T_1, X_2, e_3, st_4⟩ := getS X0 hx hZ (host := "") hown (w19 hw) Via.refl e0 (O1.ext X00.2) (g := (mkF m 0 #[.val (.int cc)] [])) rfl (hb hby d14_0)
  obtain ⟨_, _, ⟨T_5, L_5, k_5, n_5⟩, -, X_5, ⟨Lc_5, hQ_5, l_5, y_5, z_5⟩, st_5⟩ := Jvm.LawKit.callS X_2 hx (y := M237) hown (mvT hZ (w38 hw)) (mvT hZ (w39 hw)) (mvT hZ (w40 hw)) (mvT hZ (w41 hw)) (by decide) (backOf (W := 0) (rm_canenc l Z a0 hw [] G1 HG h0 n0 X00 cc ) hZ (w41 hw) (w40 hw) (by decide) (by decide)) (g := (mkF m 7 #[.val (.int cc)] [(.int cc)])) rfl (by rw [hml]; rfl) (argsL := [(.int cc)]) (rest := []) (lenOf pd_283 rfl) rfl (by show 2 * 0 + _ ≤ _; exact Nat.le_of_eq rfl) (hb hby d14_7) (fun _ _ => ⟨rfl, e_3, (by decide : 0 + 0 ≤ _), (by decide : 0 + 0 ≤ _)⟩)
  dsimp only [Pt.U, Pt.locs, Pt.cells, Pt.slots] at X_5 l_5 y_5 z_5 st_5 hQ_5
  subst l_5 y_5 z_5
  have C_6 : Steps p.tables e below S0 (T_1.setTop (mkF m 7 #[.val (.int cc)] [(.int cc)])) := by
    refine C0.trans ?_
    refine st_4 _ ?_
    refine XS.ifNo X_2.here hx rfl (hb hby d14_3) rfl (i0_eq_f P1) ?_
    refine XS.iloadN X_2.here hx rfl (hb hby d14_6) rfl ?_
    exact Steps.refl _
  rcases hQ_5 with hQ_7 | hQ_8
  · skip
    obtain ⟨rfl, N_9, e_10, g_11⟩ := hQ_7
    have N_12 := Fr.app N0 N_9
    have e_13 : T_5.heap = h0 := e_10
    obtain ⟨T_14, h_15, X_16, e_17, E_18, A_19, D_20, U_24, st_21⟩ := newO X_5 hx hZ hown (w42 hw) (w6 hw) (w7 hw) e_13 (g := (mkF m 13 #[.val (.int cc)] [])) rfl (hb hby d14_13) (by decide) (by decide)
    obtain ⟨a_22, g_23⟩ : ∃ z, z = h0.size := ⟨_, rfl⟩
    rw [← g_23] at A_19 D_20 st_21 U_24
    have O_25 : Old Z n0 h_15 := (X00.ext E_18)
    obtain ⟨_, _, ⟨T_26, L_26, k_26, n_26⟩, -, X_26, ⟨Lc_26, hQ_26, l_26, y_26, z_26⟩, st_26⟩ := Jvm.LawKit.callS X_16 hx (y := M246) hown (mvT hZ (w43 hw)) (mvT hZ (w44 hw)) (mvT hZ (w40 hw)) (mvT hZ (w45 hw)) (by decide) (backOf (W := 2) (rm_ltob l Z a0 hw [] G1 HG h_15 n0 O_25 cc ) hZ (w45 hw) (w40 hw) (by decide) (by decide)) (g := (mkF m 18 #[.val (.int cc)] [(.int cc), (.ref a_22), (.ref a_22)])) rfl (by rw [hml]; rfl) (argsL := [(.int cc)]) (rest := [(.ref a_22), (.ref a_22)]) (lenOf pd_293 rfl) rfl (by show 2 * 0 + _ ≤ _; exact Nat.le_of_eq rfl) (hb hby d14_18) (fun _ _ => ⟨rfl, e_17, (by decide : 1 + 1 ≤ _), (by decide : 4 + 1 ≤ _)⟩)
    dsimp only [Pt.U, Pt.locs, Pt.cells, Pt.slots] at X_26 l_26 y_26 z_26 st_26 hQ_26
    subst l_26 y_26 z_26
    obtain ⟨a_27, k_28, rfl, N_29, K_30, g_31, g_32⟩ := hQ_26
    have N_33 := Fr.app N_12 N_29
    have E_34 : Exa Z T_26.heap a_22 "java/lang/String" := (A_19.keep K_30)
    have F_35 : Fld Z T_26.heap a_22 "java/lang/String" "value" "[B" .null := ((D_20 (Or.inr (w34 hw)) (ty := (.array .byte)) (by decide)).keep K_30 nin0)
    have F_36 : Fld Z T_26.heap a_22 "java/lang/String" "coder" "B" (.int (0 : Int32)) := ((D_20 (Or.inr (w32 hw)) (ty := .byte) (by decide)).keep K_30 nin0)
    have O_37 : Old Z n0 T_26.heap := (O_25.keep K_30 all0)
    obtain ⟨_, _, ⟨T_38, L_38, k_38, n_38⟩, -, X_38, ⟨Lc_38, hQ_38, l_38, y_38, z_38⟩, st_38⟩ := X_26.specialBack hx (y := M266) rfl hown (mvT hZ (w46 hw)) (mvT hZ (w47 hw)) (mvT hZ (w48 hw)) (by decide) (backOf (W := 1) (rm_sbb_0 l Z a0 hw [] G1 HG T_26.heap n0 O_37 a_22 a_27 E_34 F_35 F_36 (Nat.le_trans (own_n0 X00) (Nat.le_of_eq g_23.symm))) hZ (w48 hw) (w7 hw) (by decide) (by decide)) (g := (mkF m 22 #[.val (.int cc)] [(.int (0 : Int32)), (.ref a_27), (.ref a_22), (.ref a_22)])) rfl (by rw [hml]; rfl) (Steps.refl _) (a := a_22) (argsL := [(.ref a_27), (.int (0 : Int32))]) (rest := [(.ref a_22)]) (lenOf pd_299 rfl) rfl (by show 2 * 0 + _ ≤ _; exact Nat.le_of_eq rfl) (hb hby d14_22) (fun _ _ => ⟨rfl, rfl, (by decide : 2 + 0 ≤ _), (by decide : 5 + 0 ≤ _)⟩)
    dsimp only [Pt.U, Pt.locs, Pt.cells, Pt.slots] at X_38 l_38 y_38 z_38 st_38 hQ_38
    subst l_38 y_38 z_38
    obtain ⟨rfl, N_39, K_40, g_41, g_42, g_43⟩ := hQ_38
    have N_44 := Fr.app N_33 N_39
    have C_45 : Steps p.tables e below S0 (T_38.setTop (mkF m 25 #[.val (.int cc)] [(.ref a_22)])) := by
      refine C_6.trans ?_
      refine st_5 _ ?_
      refine XS.ifNo X_5.here hx rfl (hb hby d14_10) rfl (by decide) ?_
      refine st_21 _ ?_
      refine XS.dup X_16.here hx rfl (hb hby d14_16) rfl rfl ?_
      refine XS.iloadN X_16.here hx rfl (hb hby d14_17) rfl ?_
      refine st_26 _ ?_
      refine XS.iconst X_26.here hx rfl (hb hby d14_21) ?_
      refine st_38.trans ?_
      show Steps p.tables e below (T_38.setTop (mkF m 25 #[.val (.int cc)] [(.ref a_22)])) _
      exact Steps.refl _
    have K_46 : Keep h0 T_38.heap [] := ((((Keep.refl _ _).ext E_18).trans K_30 all0).trans K_40 (allS (Or.inr (Nat.le_trans (Nat.le_refl _) (Nat.le_of_eq g_23.symm))) all0))
    obtain ⟨fs, hr, hrun, hended, hW, hsame⟩ := X_38.leave (v := some (.ref a_22)) (fun h => by rw [Bd.returns] at h; cases h)
    refine ⟨_, _, C_45.trans (retOut X_38 hx Bd.returns rfl (Or.inr (Or.inr (Or.inr (Or.inr ⟨rfl, rfl, rfl⟩)))) (hb hby d14_25) hr), hrun, hended, _, _, rfl, ?_, ⟨_, rfl⟩, hW, hsame.mono (by decide) (by decide)⟩
    show Q_valof Z G1 cc h0 n0 (some (.ref a_22)) T_38.heap _
    exact ⟨a_22, rfl, N_44, K_46, (Nat.le_trans (Nat.le_refl _) (Nat.le_of_eq g_23.symm)), g_41⟩
  · skip
    obtain ⟨rfl, N_47, e_48, g_49⟩ := hQ_8
    have N_50 := Fr.app N0 N_47
    have e_51 : T_5.heap = h0 := e_48
    obtain ⟨T_52, h_53, X_54, e_55, E_56, A_57, D_58, U_62, st_59⟩ := newO X_5 hx hZ hown (w42 hw) (w6 hw) (w7 hw) e_51 (g := (mkF m 26 #[.val (.int cc)] [])) rfl (hb hby d14_26) (by decide) (by decide)
    obtain ⟨a_60, g_61⟩ : ∃ z, z = h0.size := ⟨_, rfl⟩
    rw [← g_61] at A_57 D_58 st_59 U_62
    have O_63 : Old Z n0 h_53 := (X00.ext E_56)
    obtain ⟨_, _, ⟨T_64, L_64, k_64, n_64⟩, -, X_64, ⟨Lc_64, hQ_64, l_64, y_64, z_64⟩, st_64⟩ := Jvm.LawKit.callS X_54 hx (y := M255) hown (mvT hZ (w87 hw)) (mvT hZ (w88 hw)) (mvT hZ (w22 hw)) (mvT hZ (w89 hw)) (by decide) (backOf (W := 2) (rm_utob l Z a0 hw [] G1 HG h_53 n0 O_63 cc ) hZ (w89 hw) (w22 hw) (by decide) (by decide)) (g := (mkF m 31 #[.val (.int cc)] [(.int cc), (.ref a_60), (.ref a_60)])) rfl (by rw [hml]; rfl) (argsL := [(.int cc)]) (rest := [(.ref a_60), (.ref a_60)]) (lenOf pd_293 rfl) rfl (by show 2 * 0 + _ ≤ _; exact Nat.le_of_eq rfl) (hb hby d14_31) (fun _ _ => ⟨rfl, e_55, (by decide : 1 + 1 ≤ _), (by decide : 4 + 2 ≤ _)⟩)
    dsimp only [Pt.U, Pt.locs, Pt.cells, Pt.slots] at X_64 l_64 y_64 z_64 st_64 hQ_64
    subst l_64 y_64 z_64
    obtain ⟨a_65, k_66, rfl, N_67, K_68, g_69, g_70⟩ := hQ_64
    have N_71 := Fr.app N_50 N_67
    have E_72 : Exa Z T_64.heap a_60 "java/lang/String" := (A_57.keep K_68)
    have F_73 : Fld Z T_64.heap a_60 "java/lang/String" "value" "[B" .null := ((D_58 (Or.inr (w34 hw)) (ty := (.array .byte)) (by decide)).keep K_68 nin0)
    have F_74 : Fld Z T_64.heap a_60 "java/lang/String" "coder" "B" (.int (0 : Int32)) := ((D_58 (Or.inr (w32 hw)) (ty := .byte) (by decide)).keep K_68 nin0)
    have O_75 : Old Z n0 T_64.heap := (O_63.keep K_68 all0)
    obtain ⟨_, _, ⟨T_76, L_76, k_76, n_76⟩, -, X_76, ⟨Lc_76, hQ_76, l_76, y_76, z_76⟩, st_76⟩ := X_64.specialBack hx (y := M266) rfl hown (mvT hZ (w46 hw)) (mvT hZ (w47 hw)) (mvT hZ (w48 hw)) (by decide) (backOf (W := 1) (rm_sbb_1 l Z a0 hw [] G1 HG T_64.heap n0 O_75 a_60 a_65 E_72 F_73 F_74 (Nat.le_trans (own_n0 X00) (Nat.le_of_eq g_61.symm))) hZ (w48 hw) (w7 hw) (by decide) (by decide)) (g := (mkF m 35 #[.val (.int cc)] [(.int (1 : Int32)), (.ref a_65), (.ref a_60), (.ref a_60)])) rfl (by rw [hml]; rfl) (Steps.refl _) (a := a_60) (argsL := [(.ref a_65), (.int (1 : Int32))]) (rest := [(.ref a_60)]) (lenOf pd_299 rfl) rfl (by show 2 * 0 + _ ≤ _; exact Nat.le_of_eq rfl) (hb hby d14_35) (fun _ _ => ⟨rfl, rfl, (by decide : 2 + 0 ≤ _), (by decide : 6 + 0 ≤ _)⟩)
    dsimp only [Pt.U, Pt.locs, Pt.cells, Pt.slots] at X_76 l_76 y_76 z_76 st_76 hQ_76
    subst l_76 y_76 z_76
    obtain ⟨rfl, N_77, K_78, g_79, g_80, g_81⟩ := hQ_76
    have N_82 := Fr.app N_71 N_77
    have C_83 : Steps p.tables e below S0 (T_76.setTop (mkF m 38 #[.val (.int cc)] [(.ref a_60)])) := by
      refine C_6.trans ?_
      refine st_5 _ ?_
      refine XS.ifYes X_5.here hx rfl (pc0 := 10) (pc' := 26) rfl (hb hby d14_10) rfl (by decide) (by decide) (by decide) ?_
      refine st_59 _ ?_
      refine XS.dup X_54.here hx rfl (hb hby d14_29) rfl rfl ?_
      refine XS.iloadN X_54.here hx rfl (hb hby d14_30) rfl ?_
      refine st_64 _ ?_
      refine XS.iconst X_64.here hx rfl (hb hby d14_34) ?_
      refine st_76.trans ?_
      show Steps p.tables e below (T_76.setTop (mkF m 38 #[.val (.int cc)] [(.ref a_60)])) _
      exact Steps.refl _
    have K_84 : Keep h0 T_76.heap [] := ((((Keep.refl _ _).ext E_56).trans K_68 all0).trans K_78 (allS (Or.inr (Nat.le_trans (Nat.le_refl _) (Nat.le_of_eq g_61.symm))) all0))
    obtain ⟨fs, hr, hrun, hended, hW, hsame⟩ := X_76.leave (v := some (.ref a_60)) (fun h => by rw [Bd.returns] at h; cases h)
    refine ⟨_, _, C_83.trans (retOut X_76 hx Bd.returns rfl (Or.inr (Or.inr (Or.inr (Or.inr ⟨rfl, rfl, rfl⟩)))) (hb hby d14_38) hr), hrun, hended, _, _, rfl, ?_, ⟨_, rfl⟩, hW, hsame.mono (by decide) (by decide)⟩
    show Q_valof Z G1 cc h0 n0 (some (.ref a_60)) T_76.heap _
    exact ⟨a_60, rfl, N_82, K_84, (Nat.le_trans (Nat.le_refl _) (Nat.le_of_eq g_61.symm)), g_79⟩
abbrev M314 : MethodName := ⟨"java/lang/String", "coder", "()B"⟩
theorem ef_315 (m : MethodId) (x0 : Addr) : entryFrame m #[(.ref x0)] 1 = mkF m 0 #[.val (.ref x0)] [] := by first | (simp [entryFrame, mkF, argsToLocals, Value.category]; done) | rfl
theorem d15_0 : decode jdk_42_method_152_code 0 = .ok (.getstatic 38, 3) := by decide +kernel
theorem d15_3 : decode jdk_42_method_152_code 3 = .ok (.ifCond .eq 10, 3) := by decide +kernel
theorem d15_6 : decode jdk_42_method_152_code 6 = .ok (.aload_n 0, 1) := by decide +kernel
theorem d15_7 : decode jdk_42_method_152_code 7 = .ok (.getfield 15, 3) := by decide +kernel
theorem d15_10 : decode jdk_42_method_152_code 10 = .ok (.goto 4, 3) := by decide +kernel
theorem d15_14 : decode jdk_42_method_152_code 14 = .ok (.ireturn, 1) := by decide +kernel
abbrev R_coder0 : Room := { frames := 0, cells := 0, slots := 0, locals := 0 }
def Q_coder0 (Z : State) (G1 : Int32) (x : Addr) (h0 : Heap) (n0 : Nat) (v : Option Value) (h : Heap) (L : List Loc) : Prop := (v = some (.int (0 : Int32)) ∧ Fr n0 L ∧ h = h0)
set_option maxRecDepth 65536 in
set_option maxHeartbeats 40000000 in
theorem rm_coder0 (l : Launch) (Z : State) (a0 : Array Value) (hw : ∀ d ∈ tables_1, d.before a0 Z = true) (ws : List Jvm.Cond) (G1 : Int32) (HG : own_G l Z a0 G1) (h0 : Heap) (n0 : Nat) (X00 : Old Z n0 h0) (x : Addr) (hp0 : Fld Z h0 x "java/lang/String" "coder" "B" (.int (0 : Int32))) :
    own_CP l Z M314 jdk_42_method_152_code 1 (some .byte) ws R_coder0 #[(.ref x)] h0 (Q_coder0 Z G1 x h0 n0) := by
  refine own_P (plainFor_of_name pn_185) ?_
  intro p e s m below meth c s₁ S0 Bd hZ hh hx hby hml hown hnm X0 e0 hS0d
  obtain ⟨O1, P1, OAD, OHI, OLO⟩ := id HG
  have N0 := Fr.nil n0
  have C0 : Steps p.tables e below S0 (s₁.setTop (mkF m 0 #[.val (.ref x)] [])) := by rw [hS0d]; exact castTop (ef_315 m x) (Steps.refl _)
  obtain ⟨T_1, X_2, e_3, st_4⟩ := getS X0 hx hZ (host := "") hown (w19 hw) Via.refl e0 (O1.ext X00.2) (g := (mkF m 0 #[.val (.ref x)] [])) rfl (hb hby d15_0)
  obtain ⟨T_5, X_6, e_7, st_8⟩ := getF X_2 hx hZ hown (host := "") (Or.inl (w31 hw)) Via.refl e_3 hp0 (g := (mkF m 7 #[.val (.ref x)] [(.ref x)])) rfl rfl (hb hby d15_7)
  have C_9 : Steps p.tables e below S0 (T_5.setTop (mkF m 14 #[.val (.ref x)] [(.int (0 : Int32))])) := by
    refine C0.trans ?_
    refine st_4 _ ?_
    refine XS.ifNo X_2.here hx rfl (hb hby d15_3) rfl (i0_eq_f P1) ?_
    refine XS.aloadN X_2.here hx rfl (hb hby d15_6) rfl rfl ?_
    refine st_8 _ ?_
    refine XS.goto X_6.here hx rfl (pc0 := 10) (pc' := 14) rfl (hb hby d15_10) (by decide) (by decide) ?_
    exact Steps.refl _
  obtain ⟨fs, hr, hrun, hended, hW, hsame⟩ := X_6.leave (v := some (.int (0 : Int32))) (fun h => by rw [Bd.returns] at h; cases h)
  refine ⟨_, _, C_9.trans (retN X_6 hx (t := .byte) Bd.returns (by simp) (hb hby d15_14) hr), hrun, hended, _, _, rfl, ?_, ⟨_, rfl⟩, hW, hsame.mono (by decide) (by decide)⟩
  show Q_coder0 Z G1 x h0 n0 (some (.int (0 : Int32))) T_5.heap _
  rw [e_7]
  exact ⟨rfl, N0, rfl⟩
abbrev R_coder1 : Room := { frames := 0, cells := 0, slots := 0, locals := 0 }
def Q_coder1 (Z : State) (G1 : Int32) (x : Addr) (h0 : Heap) (n0 : Nat) (v : Option Value) (h : Heap) (L : List Loc) : Prop := (v = some (.int (1 : Int32)) ∧ Fr n0 L ∧ h = h0)
set_option maxRecDepth 65536 in
set_option maxHeartbeats 40000000 in
theorem rm_coder1 (l : Launch) (Z : State) (a0 : Array Value) (hw : ∀ d ∈ tables_1, d.before a0 Z = true) (ws : List Jvm.Cond) (G1 : Int32) (HG : own_G l Z a0 G1) (h0 : Heap) (n0 : Nat) (X00 : Old Z n0 h0) (x : Addr) (hp0 : Fld Z h0 x "java/lang/String" "coder" "B" (.int (1 : Int32))) :
    own_CP l Z M314 jdk_42_method_152_code 1 (some .byte) ws R_coder1 #[(.ref x)] h0 (Q_coder1 Z G1 x h0 n0) := by
  refine own_P (plainFor_of_name pn_185) ?_
  intro p e s m below meth c s₁ S0 Bd hZ hh hx hby hml hown hnm X0 e0 hS0d
  obtain ⟨O1, P1, OAD, OHI, OLO⟩ := id HG
  have N0 := Fr.nil n0
  have C0 : Steps p.tables e below S0 (s₁.setTop (mkF m 0 #[.val (.ref x)] [])) := by rw [hS0d]; exact castTop (ef_315 m x) (Steps.refl _)
  obtain ⟨T_1, X_2, e_3, st_4⟩ := getS X0 hx hZ (host := "") hown (w19 hw) Via.refl e0 (O1.ext X00.2) (g := (mkF m 0 #[.val (.ref x)] [])) rfl (hb hby d15_0)
  obtain ⟨T_5, X_6, e_7, st_8⟩ := getF X_2 hx hZ hown (host := "") (Or.inl (w31 hw)) Via.refl e_3 hp0 (g := (mkF m 7 #[.val (.ref x)] [(.ref x)])) rfl rfl (hb hby d15_7)
  have C_9 : Steps p.tables e below S0 (T_5.setTop (mkF m 14 #[.val (.ref x)] [(.int (1 : Int32))])) := by
    refine C0.trans ?_
    refine st_4 _ ?_
    refine XS.ifNo X_2.here hx rfl (hb hby d15_3) rfl (i0_eq_f P1) ?_
    refine XS.aloadN X_2.here hx rfl (hb hby d15_6) rfl rfl ?_
    refine st_8 _ ?_
    refine XS.goto X_6.here hx rfl (pc0 := 10) (pc' := 14) rfl (hb hby d15_10) (by decide) (by decide) ?_
    exact Steps.refl _
  obtain ⟨fs, hr, hrun, hended, hW, hsame⟩ := X_6.leave (v := some (.int (1 : Int32))) (fun h => by rw [Bd.returns] at h; cases h)
  refine ⟨_, _, C_9.trans (retN X_6 hx (t := .byte) Bd.returns (by simp) (hb hby d15_14) hr), hrun, hended, _, _, rfl, ?_, ⟨_, rfl⟩, hW, hsame.mono (by decide) (by decide)⟩
  show Q_coder1 Z G1 x h0 n0 (some (.int (1 : Int32))) T_5.heap _
  rw [e_7]
  exact ⟨rfl, N0, rfl⟩
abbrev M322 : MethodName := ⟨"java/lang/String", "length", "()I"⟩
theorem d16_0 : decode jdk_42_method_54_code 0 = .ok (.aload_n 0, 1) := by decide +kernel
theorem d16_1 : decode jdk_42_method_54_code 1 = .ok (.getfield 9, 3) := by decide +kernel
theorem d16_4 : decode jdk_42_method_54_code 4 = .ok (.arraylength, 1) := by decide +kernel
theorem d16_5 : decode jdk_42_method_54_code 5 = .ok (.aload_n 0, 1) := by decide +kernel
theorem w67 {Z : State} {a0 : Array Value} (hw : ∀ d ∈ tables_1, d.before a0 Z = true) : Jvm.Cond.before (Jvm.Cond.code ({ cls := "java/lang/String", name := "coder", desc := "()B" } : Jvm.MethodName) jdk_42_method_152_code (1 : Nat) (Option.some Jvm.ClassFile.FieldType.byte)) a0 Z = true := hw _ (List.mem_of_getElem? (i := 67) rfl)
theorem pd_328 : parseMethodDescriptor "()B" = some ⟨[], some .byte⟩ := by decide +kernel
theorem d16_6 : decode jdk_42_method_54_code 6 = .ok (.invokevirtual 335, 3) := by decide +kernel
theorem w63 {Z : State} {a0 : Array Value} (hw : ∀ d ∈ tables_1, d.before a0 Z = true) : Jvm.Cond.before (Jvm.Cond.methodLink "java/lang/String" (335 : Nat) ({ cls := "java/lang/String", name := "coder", desc := "()B" } : Jvm.MethodName)) a0 Z = true := hw _ (List.mem_of_getElem? (i := 63) rfl)
theorem w66 {Z : State} {a0 : Array Value} (hw : ∀ d ∈ tables_1, d.before a0 Z = true) : Jvm.Cond.before (Jvm.Cond.selects "java/lang/String" ({ cls := "java/lang/String", name := "coder", desc := "()B" } : Jvm.MethodName) ({ cls := "java/lang/String", name := "coder", desc := "()B" } : Jvm.MethodName)) a0 Z = true := hw _ (List.mem_of_getElem? (i := 66) rfl)
theorem w65 {Z : State} {a0 : Array Value} (hw : ∀ d ∈ tables_1, d.before a0 Z = true) : Jvm.Cond.before (Jvm.Cond.instanceMethod ({ cls := "java/lang/String", name := "coder", desc := "()B" } : Jvm.MethodName)) a0 Z = true := hw _ (List.mem_of_getElem? (i := 65) rfl)
theorem w64 {Z : State} {a0 : Array Value} (hw : ∀ d ∈ tables_1, d.before a0 Z = true) : Jvm.Cond.before (Jvm.Cond.declares ({ cls := "java/lang/String", name := "coder", desc := "()B" } : Jvm.MethodName)) a0 Z = true := hw _ (List.mem_of_getElem? (i := 64) rfl)
theorem d16_9 : decode jdk_42_method_54_code 9 = .ok (.ishr, 1) := by decide +kernel
theorem d16_10 : decode jdk_42_method_54_code 10 = .ok (.ireturn, 1) := by decide +kernel
abbrev R_len_1_0 : Room := { frames := 1, cells := 0, slots := 0, locals := 13 }
def Q_len_1_0 (Z : State) (G1 : Int32) (x : Addr) (t : Addr) (kt : ClassId) (bs : List Value) (h0 : Heap) (n0 : Nat) (v : Option Value) (h : Heap) (L : List Loc) : Prop := (v = some (.int (1 : Int32)) ∧ Fr n0 L ∧ h = h0)
set_option maxRecDepth 65536 in
set_option maxHeartbeats 40000000 in
theorem rm_len_1_0 (l : Launch) (Z : State) (a0 : Array Value) (hw : ∀ d ∈ tables_1, d.before a0 Z = true) (ws : List Jvm.Cond) (G1 : Int32) (HG : own_G l Z a0 G1) (h0 : Heap) (n0 : Nat) (X00 : Old Z n0 h0) (x : Addr) (t : Addr) (kt : ClassId) (bs : List Value) (hp0 : Exa Z h0 x "java/lang/String") (hp1 : Fld Z h0 x "java/lang/String" "coder" "B" (.int (0 : Int32))) (hp2 : Fld Z h0 x "java/lang/String" "value" "[B" (.ref t)) (hp3 : Arv Z h0 t kt .byte (1 : Int32) bs (.int (0 : Int32))) :
    own_CP l Z M322 jdk_42_method_54_code 1 (some .int) ws R_len_1_0 #[(.ref x)] h0 (Q_len_1_0 Z G1 x t kt bs h0 n0) := by
  refine own_P (plainFor_of_name pn_185) ?_
  intro p e s m below meth c s₁ S0 Bd hZ hh hx hby hml hown hnm X0 e0 hS0d
  obtain ⟨O1, P1, OAD, OHI, OLO⟩ := id HG
  have N0 := Fr.nil n0
  have C0 : Steps p.tables e below S0 (s₁.setTop (mkF m 0 #[.val (.ref x)] [])) := by rw [hS0d]; exact castTop (ef_315 m x) (Steps.refl _)
  obtain ⟨T_1, X_2, e_3, st_4⟩ := getF X0 hx hZ hown (host := "") (Or.inl (w33 hw)) Via.refl e0 hp2 (g := (mkF m 1 #[.val (.ref x)] [(.ref x)])) rfl rfl (hb hby d16_1)
  obtain ⟨c_5, A_6, q_7, S_8, M_9, H_10, U_11⟩ := id hp3
  obtain ⟨q_13, q_14, q_15, q_16, q_17⟩ := isOf (T := T_1) hZ e_3 hp0
  obtain ⟨_, _, ⟨T_12, L_12, k_12, n_12⟩, -, X_12, ⟨Lc_12, hQ_12, l_12, y_12, z_12⟩, st_12⟩ := X_2.virtualBack hx (y := M314) (z := M314) hown (mvT hZ (w63 hw)) (mvT hZ (w64 hw)) (notFace_of_selects (args := #[]) (mvT hZ (w66 hw))) (mvT hZ (w66 hw)) (mvT hZ (w65 hw)) (by decide) (backOf (W := 1) (rm_coder0 l Z a0 hw [] G1 HG h0 n0 X00 x hp1) hZ (w67 hw) (w7 hw) (by decide) (by decide)) q_15 q_17 (g := (mkF m 6 #[.val (.ref x)] [(.ref x), (.int (1 : Int32))])) rfl (by rw [hml]; rfl) (Steps.refl _) (argsL := []) (rest := [(.int (1 : Int32))]) (lenOf pd_328 rfl) rfl (by show 2 * 0 + _ ≤ _; exact Nat.le_of_eq rfl) (hb hby d16_6) (fun _ _ => ⟨rfl, e_3, (by decide : 0 + 0 ≤ _), (by decide : 0 + 0 ≤ _)⟩)
  dsimp only [Pt.U, Pt.locs, Pt.cells, Pt.slots] at X_12 l_12 y_12 z_12 st_12 hQ_12
  subst l_12 y_12 z_12
  obtain ⟨rfl, N_18, e_19⟩ := hQ_12
  have N_20 := Fr.app N0 N_18
  have e_21 : T_12.heap = h0 := e_19
  have C_22 : Steps p.tables e below S0 (T_12.setTop (mkF m 10 #[.val (.ref x)] [(.int (1 : Int32))])) := by
    refine C0.trans ?_
    refine XS.aloadN X0.here hx rfl (hb hby d16_0) rfl rfl ?_
    refine st_4 _ ?_
    refine X_2.arraylength hx (by rw [e_3]; exact A_6.1) (State.isArrayOf_alike hZ.alike A_6.2.1) (g := (mkF m 4 #[.val (.ref x)] [(.ref t)])) rfl rfl (hb hby d16_4) _ ?_
    rw [len_of S_8 M_9]
    refine XS.aloadN X_2.here hx rfl (hb hby d16_5) rfl rfl ?_
    refine st_12.trans ?_
    refine XS.ishr X_12.here hx rfl (hb hby d16_9) rfl ?_
    exact Steps.refl _
  obtain ⟨fs, hr, hrun, hended, hW, hsame⟩ := X_12.leave (v := some (.int (1 : Int32))) (fun h => by rw [Bd.returns] at h; cases h)
  refine ⟨_, _, C_22.trans (retOut X_12 hx Bd.returns rfl (Or.inl ⟨rfl, Or.inl rfl, _, rfl⟩) (hb hby d16_10) hr), hrun, hended, _, _, rfl, ?_, ⟨_, rfl⟩, hW, hsame.mono (by decide) (by decide)⟩
  show Q_len_1_0 Z G1 x t kt bs h0 n0 (some (.int (1 : Int32))) T_12.heap _
  rw [e_21]
  exact ⟨rfl, N_20, rfl⟩
abbrev M336 : MethodName := ⟨"java/lang/String", "isEmpty", "()Z"⟩
theorem d17_0 : decode jdk_42_method_55_code 0 = .ok (.aload_n 0, 1) := by decide +kernel
theorem d17_1 : decode jdk_42_method_55_code 1 = .ok (.getfield 9, 3) := by decide +kernel
theorem d17_4 : decode jdk_42_method_55_code 4 = .ok (.arraylength, 1) := by decide +kernel
theorem d17_5 : decode jdk_42_method_55_code 5 = .ok (.ifCond .ne 7, 3) := by decide +kernel
theorem d17_12 : decode jdk_42_method_55_code 12 = .ok (.iconst 0, 1) := by decide +kernel
theorem d17_13 : decode jdk_42_method_55_code 13 = .ok (.ireturn, 1) := by decide +kernel
abbrev R_emp_1_0 : Room := { frames := 0, cells := 0, slots := 0, locals := 0 }
def Q_emp_1_0 (Z : State) (G1 : Int32) (x : Addr) (t : Addr) (kt : ClassId) (bs : List Value) (h0 : Heap) (n0 : Nat) (v : Option Value) (h : Heap) (L : List Loc) : Prop := (v = some (.int (0 : Int32)) ∧ Fr n0 L ∧ h = h0)
set_option maxRecDepth 65536 in
set_option maxHeartbeats 40000000 in
theorem rm_emp_1_0 (l : Launch) (Z : State) (a0 : Array Value) (hw : ∀ d ∈ tables_1, d.before a0 Z = true) (ws : List Jvm.Cond) (G1 : Int32) (HG : own_G l Z a0 G1) (h0 : Heap) (n0 : Nat) (X00 : Old Z n0 h0) (x : Addr) (t : Addr) (kt : ClassId) (bs : List Value) (hp0 : Exa Z h0 x "java/lang/String") (hp1 : Fld Z h0 x "java/lang/String" "coder" "B" (.int (0 : Int32))) (hp2 : Fld Z h0 x "java/lang/String" "value" "[B" (.ref t)) (hp3 : Arv Z h0 t kt .byte (1 : Int32) bs (.int (0 : Int32))) :
    own_CP l Z M336 jdk_42_method_55_code 1 (some .boolean) ws R_emp_1_0 #[(.ref x)] h0 (Q_emp_1_0 Z G1 x t kt bs h0 n0) := by
  refine own_P (plainFor_of_name pn_185) ?_
  intro p e s m below meth c s₁ S0 Bd hZ hh hx hby hml hown hnm X0 e0 hS0d
  obtain ⟨O1, P1, OAD, OHI, OLO⟩ := id HG
  have N0 := Fr.nil n0
  have C0 : Steps p.tables e below S0 (s₁.setTop (mkF m 0 #[.val (.ref x)] [])) := by rw [hS0d]; exact castTop (ef_315 m x) (Steps.refl _)
  obtain ⟨T_1, X_2, e_3, st_4⟩ := getF X0 hx hZ hown (host := "") (Or.inl (w33 hw)) Via.refl e0 hp2 (g := (mkF m 1 #[.val (.ref x)] [(.ref x)])) rfl rfl (hb hby d17_1)
  obtain ⟨c_5, A_6, q_7, S_8, M_9, H_10, U_11⟩ := id hp3
  have C_12 : Steps p.tables e below S0 (T_1.setTop (mkF m 13 #[.val (.ref x)] [(.int (0 : Int32))])) := by
    refine C0.trans ?_
    refine XS.aloadN X0.here hx rfl (hb hby d17_0) rfl rfl ?_
    refine st_4 _ ?_
    refine X_2.arraylength hx (by rw [e_3]; exact A_6.1) (State.isArrayOf_alike hZ.alike A_6.2.1) (g := (mkF m 4 #[.val (.ref x)] [(.ref t)])) rfl rfl (hb hby d17_4) _ ?_
    rw [len_of S_8 M_9]
    refine XS.ifYes X_2.here hx rfl (pc0 := 5) (pc' := 12) rfl (hb hby d17_5) rfl (by decide) (by decide) (by decide) ?_
    refine XS.iconst X_2.here hx rfl (hb hby d17_12) ?_
    exact Steps.refl _
  obtain ⟨fs, hr, hrun, hended, hW, hsame⟩ := X_2.leave (v := some (.int (0 : Int32))) (fun h => by rw [Bd.returns] at h; cases h)
  refine ⟨_, _, C_12.trans (retN X_2 hx (t := .boolean) Bd.returns (by simp) (hb hby d17_13) hr), hrun, hended, _, _, rfl, ?_, ⟨_, rfl⟩, hW, hsame.mono (by decide) (by decide)⟩
  show Q_emp_1_0 Z G1 x t kt bs h0 n0 (some (.int (0 : Int32))) T_1.heap _
  rw [e_3]
  exact ⟨rfl, N0, rfl⟩
abbrev M343 : MethodName := ⟨"com/example/fleetyard/fleetyard/io/Values", "id", "(Ljava/lang/String;Ljava/lang/String;)Ljava/lang/String;"⟩
theorem pn_344 : plainName "com/example/fleetyard/fleetyard/io/Values" = true := by first | (simp [plainName, overriddenIn]; done) | decide +kernel
theorem d18_0 : decode prog_27_method_2_code 0 = .ok (.aload_n 0, 1) := by decide +kernel
theorem w57 {Z : State} {a0 : Array Value} (hw : ∀ d ∈ tables_1, d.before a0 Z = true) : Jvm.Cond.before (Jvm.Cond.code ({ cls := "java/lang/String", name := "isEmpty", desc := "()Z" } : Jvm.MethodName) jdk_42_method_55_code (1 : Nat) (Option.some Jvm.ClassFile.FieldType.boolean)) a0 Z = true := hw _ (List.mem_of_getElem? (i := 57) rfl)
theorem pd_347 : parseMethodDescriptor "()Z" = some ⟨[], some .boolean⟩ := by decide +kernel
theorem d18_1 : decode prog_27_method_2_code 1 = .ok (.invokevirtual 7, 3) := by decide +kernel
theorem w53 {Z : State} {a0 : Array Value} (hw : ∀ d ∈ tables_1, d.before a0 Z = true) : Jvm.Cond.before (Jvm.Cond.methodLink "com/example/fleetyard/fleetyard/io/Values" (7 : Nat) ({ cls := "java/lang/String", name := "isEmpty", desc := "()Z" } : Jvm.MethodName)) a0 Z = true := hw _ (List.mem_of_getElem? (i := 53) rfl)
theorem w56 {Z : State} {a0 : Array Value} (hw : ∀ d ∈ tables_1, d.before a0 Z = true) : Jvm.Cond.before (Jvm.Cond.selects "java/lang/String" ({ cls := "java/lang/String", name := "isEmpty", desc := "()Z" } : Jvm.MethodName) ({ cls := "java/lang/String", name := "isEmpty", desc := "()Z" } : Jvm.MethodName)) a0 Z = true := hw _ (List.mem_of_getElem? (i := 56) rfl)
theorem w55 {Z : State} {a0 : Array Value} (hw : ∀ d ∈ tables_1, d.before a0 Z = true) : Jvm.Cond.before (Jvm.Cond.instanceMethod ({ cls := "java/lang/String", name := "isEmpty", desc := "()Z" } : Jvm.MethodName)) a0 Z = true := hw _ (List.mem_of_getElem? (i := 55) rfl)
theorem w54 {Z : State} {a0 : Array Value} (hw : ∀ d ∈ tables_1, d.before a0 Z = true) : Jvm.Cond.before (Jvm.Cond.declares ({ cls := "java/lang/String", name := "isEmpty", desc := "()Z" } : Jvm.MethodName)) a0 Z = true := hw _ (List.mem_of_getElem? (i := 54) rfl)
theorem d18_4 : decode prog_27_method_2_code 4 = .ok (.ifCond .eq 17, 3) := by decide +kernel
theorem d18_21 : decode prog_27_method_2_code 21 = .ok (.aload_n 0, 1) := by decide +kernel
theorem d18_22 : decode prog_27_method_2_code 22 = .ok (.areturn, 1) := by decide +kernel
abbrev R_id_1_0 : Room := { frames := 1, cells := 0, slots := 0, locals := 12 }
def Q_id_1_0 (Z : State) (G1 : Int32) (x : Addr) (t : Addr) (kt : ClassId) (bs : List Value) (q : Addr) (h0 : Heap) (n0 : Nat) (v : Option Value) (h : Heap) (L : List Loc) : Prop := (v = some (.ref x) ∧ Fr n0 L ∧ h = h0)
set_option maxRecDepth 65536 in
set_option maxHeartbeats 40000000 in
theorem rm_id_1_0 (l : Launch) (Z : State) (a0 : Array Value) (hw : ∀ d ∈ tables_1, d.before a0 Z = true) (ws : List Jvm.Cond) (G1 : Int32) (HG : own_G l Z a0 G1) (h0 : Heap) (n0 : Nat) (X00 : Old Z n0 h0) (x : Addr) (t : Addr) (kt : ClassId) (bs : List Value) (q : Addr) (hp0 : Exa Z h0 x "java/lang/String") (hp1 : Fld Z h0 x "java/lang/String" "coder" "B" (.int (0 : Int32))) (hp2 : Fld Z h0 x "java/lang/String" "value" "[B" (.ref t)) (hp3 : Arv Z h0 t kt .byte (1 : Int32) bs (.int (0 : Int32))) :
    own_CP l Z M343 prog_27_method_2_code 2 (some (.object "java/lang/String")) ws R_id_1_0 #[(.ref x), (.ref q)] h0 (Q_id_1_0 Z G1 x t kt bs q h0 n0) := by
  refine own_P (plainFor_of_name pn_344) ?_
  intro p e s m below meth c s₁ S0 Bd hZ hh hx hby hml hown hnm X0 e0 hS0d
  obtain ⟨O1, P1, OAD, OHI, OLO⟩ := id HG
  have N0 := Fr.nil n0
  have C0 : Steps p.tables e below S0 (s₁.setTop (mkF m 0 #[.val (.ref x), .val (.ref q)] [])) := by rw [hS0d]; exact castTop (ef_223 m x q) (Steps.refl _)
  obtain ⟨q_2, q_3, q_4, q_5, q_6⟩ := isOf (T := s₁) hZ e0 hp0
  obtain ⟨_, _, ⟨T_1, L_1, k_1, n_1⟩, -, X_1, ⟨Lc_1, hQ_1, l_1, y_1, z_1⟩, st_1⟩ := X0.virtualBack hx (y := M336) (z := M336) hown (mvT hZ (w53 hw)) (mvT hZ (w54 hw)) (notFace_of_selects (args := #[]) (mvT hZ (w56 hw))) (mvT hZ (w56 hw)) (mvT hZ (w55 hw)) (by decide) (backOf (W := 0) (rm_emp_1_0 l Z a0 hw [] G1 HG h0 n0 X00 x t kt bs hp0 hp1 hp2 hp3) hZ (w57 hw) (w7 hw) (by decide) (by decide)) q_4 q_6 (g := (mkF m 1 #[.val (.ref x), .val (.ref q)] [(.ref x)])) rfl (by rw [hml]; rfl) (Steps.refl _) (argsL := []) (rest := []) (lenOf pd_347 rfl) rfl (by show 2 * 0 + _ ≤ _; exact Nat.le_of_eq rfl) (hb hby d18_1) (fun _ _ => ⟨rfl, e0, (by decide : 0 + 0 ≤ _), (by decide : 0 + 0 ≤ _)⟩)
  dsimp only [Pt.U, Pt.locs, Pt.cells, Pt.slots] at X_1 l_1 y_1 z_1 st_1 hQ_1
  subst l_1 y_1 z_1
  obtain ⟨rfl, N_7, e_8⟩ := hQ_1
  have N_9 := Fr.app N0 N_7
  have e_10 : T_1.heap = h0 := e_8
  have C_11 : Steps p.tables e below S0 (T_1.setTop (mkF m 22 #[.val (.ref x), .val (.ref q)] [(.ref x)])) := by
    refine C0.trans ?_
    refine XS.aloadN X0.here hx rfl (hb hby d18_0) rfl rfl ?_
    refine st_1.trans ?_
    refine XS.ifYes X_1.here hx rfl (pc0 := 4) (pc' := 21) rfl (hb hby d18_4) rfl (by decide) (by decide) (by decide) ?_
    refine XS.aloadN X_1.here hx rfl (hb hby d18_21) rfl rfl ?_
    exact Steps.refl _
  obtain ⟨fs, hr, hrun, hended, hW, hsame⟩ := X_1.leave (v := some (.ref x)) (fun h => by rw [Bd.returns] at h; cases h)
  refine ⟨_, _, C_11.trans (retOut X_1 hx Bd.returns rfl (Or.inr (Or.inr (Or.inr (Or.inr ⟨rfl, rfl, rfl⟩)))) (hb hby d18_22) hr), hrun, hended, _, _, rfl, ?_, ⟨_, rfl⟩, hW, hsame.mono (by decide) (by decide)⟩
  show Q_id_1_0 Z G1 x t kt bs q h0 n0 (some (.ref x)) T_1.heap _
  rw [e_10]
  exact ⟨rfl, N_9, rfl⟩
abbrev R_len_1_1 : Room := { frames := 1, cells := 0, slots := 0, locals := 13 }
def Q_len_1_1 (Z : State) (G1 : Int32) (x : Addr) (t : Addr) (kt : ClassId) (bs : List Value) (h0 : Heap) (n0 : Nat) (v : Option Value) (h : Heap) (L : List Loc) : Prop := (v = some (.int (1 : Int32)) ∧ Fr n0 L ∧ h = h0)
set_option maxRecDepth 65536 in
set_option maxHeartbeats 40000000 in
theorem rm_len_1_1 (l : Launch) (Z : State) (a0 : Array Value) (hw : ∀ d ∈ tables_1, d.before a0 Z = true) (ws : List Jvm.Cond) (G1 : Int32) (HG : own_G l Z a0 G1) (h0 : Heap) (n0 : Nat) (X00 : Old Z n0 h0) (x : Addr) (t : Addr) (kt : ClassId) (bs : List Value) (hp0 : Exa Z h0 x "java/lang/String") (hp1 : Fld Z h0 x "java/lang/String" "coder" "B" (.int (1 : Int32))) (hp2 : Fld Z h0 x "java/lang/String" "value" "[B" (.ref t)) (hp3 : Arv Z h0 t kt .byte (2 : Int32) bs (.int (0 : Int32))) :
    own_CP l Z M322 jdk_42_method_54_code 1 (some .int) ws R_len_1_1 #[(.ref x)] h0 (Q_len_1_1 Z G1 x t kt bs h0 n0) := by
  refine own_P (plainFor_of_name pn_185) ?_
  intro p e s m below meth c s₁ S0 Bd hZ hh hx hby hml hown hnm X0 e0 hS0d
  obtain ⟨O1, P1, OAD, OHI, OLO⟩ := id HG
  have N0 := Fr.nil n0
  have C0 : Steps p.tables e below S0 (s₁.setTop (mkF m 0 #[.val (.ref x)] [])) := by rw [hS0d]; exact castTop (ef_315 m x) (Steps.refl _)
  obtain ⟨T_1, X_2, e_3, st_4⟩ := getF X0 hx hZ hown (host := "") (Or.inl (w33 hw)) Via.refl e0 hp2 (g := (mkF m 1 #[.val (.ref x)] [(.ref x)])) rfl rfl (hb hby d16_1)
  obtain ⟨c_5, A_6, q_7, S_8, M_9, H_10, U_11⟩ := id hp3
  obtain ⟨q_13, q_14, q_15, q_16, q_17⟩ := isOf (T := T_1) hZ e_3 hp0
  obtain ⟨_, _, ⟨T_12, L_12, k_12, n_12⟩, -, X_12, ⟨Lc_12, hQ_12, l_12, y_12, z_12⟩, st_12⟩ := X_2.virtualBack hx (y := M314) (z := M314) hown (mvT hZ (w63 hw)) (mvT hZ (w64 hw)) (notFace_of_selects (args := #[]) (mvT hZ (w66 hw))) (mvT hZ (w66 hw)) (mvT hZ (w65 hw)) (by decide) (backOf (W := 1) (rm_coder1 l Z a0 hw [] G1 HG h0 n0 X00 x hp1) hZ (w67 hw) (w7 hw) (by decide) (by decide)) q_15 q_17 (g := (mkF m 6 #[.val (.ref x)] [(.ref x), (.int (2 : Int32))])) rfl (by rw [hml]; rfl) (Steps.refl _) (argsL := []) (rest := [(.int (2 : Int32))]) (lenOf pd_328 rfl) rfl (by show 2 * 0 + _ ≤ _; exact Nat.le_of_eq rfl) (hb hby d16_6) (fun _ _ => ⟨rfl, e_3, (by decide : 0 + 0 ≤ _), (by decide : 0 + 0 ≤ _)⟩)
  dsimp only [Pt.U, Pt.locs, Pt.cells, Pt.slots] at X_12 l_12 y_12 z_12 st_12 hQ_12
  subst l_12 y_12 z_12
  obtain ⟨rfl, N_18, e_19⟩ := hQ_12
  have N_20 := Fr.app N0 N_18
  have e_21 : T_12.heap = h0 := e_19
  have C_22 : Steps p.tables e below S0 (T_12.setTop (mkF m 10 #[.val (.ref x)] [(.int (1 : Int32))])) := by
    refine C0.trans ?_
    refine XS.aloadN X0.here hx rfl (hb hby d16_0) rfl rfl ?_
    refine st_4 _ ?_
    refine X_2.arraylength hx (by rw [e_3]; exact A_6.1) (State.isArrayOf_alike hZ.alike A_6.2.1) (g := (mkF m 4 #[.val (.ref x)] [(.ref t)])) rfl rfl (hb hby d16_4) _ ?_
    rw [len_of S_8 M_9]
    refine XS.aloadN X_2.here hx rfl (hb hby d16_5) rfl rfl ?_
    refine st_12.trans ?_
    refine XS.ishr X_12.here hx rfl (hb hby d16_9) rfl ?_
    exact Steps.refl _
  obtain ⟨fs, hr, hrun, hended, hW, hsame⟩ := X_12.leave (v := some (.int (1 : Int32))) (fun h => by rw [Bd.returns] at h; cases h)
  refine ⟨_, _, C_22.trans (retOut X_12 hx Bd.returns rfl (Or.inl ⟨rfl, Or.inl rfl, _, rfl⟩) (hb hby d16_10) hr), hrun, hended, _, _, rfl, ?_, ⟨_, rfl⟩, hW, hsame.mono (by decide) (by decide)⟩
  show Q_len_1_1 Z G1 x t kt bs h0 n0 (some (.int (1 : Int32))) T_12.heap _
  rw [e_21]
  exact ⟨rfl, N_20, rfl⟩
abbrev R_emp_1_1 : Room := { frames := 0, cells := 0, slots := 0, locals := 0 }
def Q_emp_1_1 (Z : State) (G1 : Int32) (x : Addr) (t : Addr) (kt : ClassId) (bs : List Value) (h0 : Heap) (n0 : Nat) (v : Option Value) (h : Heap) (L : List Loc) : Prop := (v = some (.int (0 : Int32)) ∧ Fr n0 L ∧ h = h0)
set_option maxRecDepth 65536 in
set_option maxHeartbeats 40000000 in
theorem rm_emp_1_1 (l : Launch) (Z : State) (a0 : Array Value) (hw : ∀ d ∈ tables_1, d.before a0 Z = true) (ws : List Jvm.Cond) (G1 : Int32) (HG : own_G l Z a0 G1) (h0 : Heap) (n0 : Nat) (X00 : Old Z n0 h0) (x : Addr) (t : Addr) (kt : ClassId) (bs : List Value) (hp0 : Exa Z h0 x "java/lang/String") (hp1 : Fld Z h0 x "java/lang/String" "coder" "B" (.int (1 : Int32))) (hp2 : Fld Z h0 x "java/lang/String" "value" "[B" (.ref t)) (hp3 : Arv Z h0 t kt .byte (2 : Int32) bs (.int (0 : Int32))) :
    own_CP l Z M336 jdk_42_method_55_code 1 (some .boolean) ws R_emp_1_1 #[(.ref x)] h0 (Q_emp_1_1 Z G1 x t kt bs h0 n0) := by
  refine own_P (plainFor_of_name pn_185) ?_
  intro p e s m below meth c s₁ S0 Bd hZ hh hx hby hml hown hnm X0 e0 hS0d
  obtain ⟨O1, P1, OAD, OHI, OLO⟩ := id HG
  have N0 := Fr.nil n0
  have C0 : Steps p.tables e below S0 (s₁.setTop (mkF m 0 #[.val (.ref x)] [])) := by rw [hS0d]; exact castTop (ef_315 m x) (Steps.refl _)
  obtain ⟨T_1, X_2, e_3, st_4⟩ := getF X0 hx hZ hown (host := "") (Or.inl (w33 hw)) Via.refl e0 hp2 (g := (mkF m 1 #[.val (.ref x)] [(.ref x)])) rfl rfl (hb hby d17_1)
  obtain ⟨c_5, A_6, q_7, S_8, M_9, H_10, U_11⟩ := id hp3
  have C_12 : Steps p.tables e below S0 (T_1.setTop (mkF m 13 #[.val (.ref x)] [(.int (0 : Int32))])) := by
    refine C0.trans ?_
    refine XS.aloadN X0.here hx rfl (hb hby d17_0) rfl rfl ?_
    refine st_4 _ ?_
    refine X_2.arraylength hx (by rw [e_3]; exact A_6.1) (State.isArrayOf_alike hZ.alike A_6.2.1) (g := (mkF m 4 #[.val (.ref x)] [(.ref t)])) rfl rfl (hb hby d17_4) _ ?_
    rw [len_of S_8 M_9]
    refine XS.ifYes X_2.here hx rfl (pc0 := 5) (pc' := 12) rfl (hb hby d17_5) rfl (by decide) (by decide) (by decide) ?_
    refine XS.iconst X_2.here hx rfl (hb hby d17_12) ?_
    exact Steps.refl _
  obtain ⟨fs, hr, hrun, hended, hW, hsame⟩ := X_2.leave (v := some (.int (0 : Int32))) (fun h => by rw [Bd.returns] at h; cases h)
  refine ⟨_, _, C_12.trans (retN X_2 hx (t := .boolean) Bd.returns (by simp) (hb hby d17_13) hr), hrun, hended, _, _, rfl, ?_, ⟨_, rfl⟩, hW, hsame.mono (by decide) (by decide)⟩
  show Q_emp_1_1 Z G1 x t kt bs h0 n0 (some (.int (0 : Int32))) T_1.heap _
  rw [e_3]
  exact ⟨rfl, N0, rfl⟩
abbrev R_id_1_1 : Room := { frames := 1, cells := 0, slots := 0, locals := 12 }
def Q_id_1_1 (Z : State) (G1 : Int32) (x : Addr) (t : Addr) (kt : ClassId) (bs : List Value) (q : Addr) (h0 : Heap) (n0 : Nat) (v : Option Value) (h : Heap) (L : List Loc) : Prop := (v = some (.ref x) ∧ Fr n0 L ∧ h = h0)
set_option maxRecDepth 65536 in
set_option maxHeartbeats 40000000 in
theorem rm_id_1_1 (l : Launch) (Z : State) (a0 : Array Value) (hw : ∀ d ∈ tables_1, d.before a0 Z = true) (ws : List Jvm.Cond) (G1 : Int32) (HG : own_G l Z a0 G1) (h0 : Heap) (n0 : Nat) (X00 : Old Z n0 h0) (x : Addr) (t : Addr) (kt : ClassId) (bs : List Value) (q : Addr) (hp0 : Exa Z h0 x "java/lang/String") (hp1 : Fld Z h0 x "java/lang/String" "coder" "B" (.int (1 : Int32))) (hp2 : Fld Z h0 x "java/lang/String" "value" "[B" (.ref t)) (hp3 : Arv Z h0 t kt .byte (2 : Int32) bs (.int (0 : Int32))) :
    own_CP l Z M343 prog_27_method_2_code 2 (some (.object "java/lang/String")) ws R_id_1_1 #[(.ref x), (.ref q)] h0 (Q_id_1_1 Z G1 x t kt bs q h0 n0) := by
  refine own_P (plainFor_of_name pn_344) ?_
  intro p e s m below meth c s₁ S0 Bd hZ hh hx hby hml hown hnm X0 e0 hS0d
  obtain ⟨O1, P1, OAD, OHI, OLO⟩ := id HG
  have N0 := Fr.nil n0
  have C0 : Steps p.tables e below S0 (s₁.setTop (mkF m 0 #[.val (.ref x), .val (.ref q)] [])) := by rw [hS0d]; exact castTop (ef_223 m x q) (Steps.refl _)
  obtain ⟨q_2, q_3, q_4, q_5, q_6⟩ := isOf (T := s₁) hZ e0 hp0
  obtain ⟨_, _, ⟨T_1, L_1, k_1, n_1⟩, -, X_1, ⟨Lc_1, hQ_1, l_1, y_1, z_1⟩, st_1⟩ := X0.virtualBack hx (y := M336) (z := M336) hown (mvT hZ (w53 hw)) (mvT hZ (w54 hw)) (notFace_of_selects (args := #[]) (mvT hZ (w56 hw))) (mvT hZ (w56 hw)) (mvT hZ (w55 hw)) (by decide) (backOf (W := 0) (rm_emp_1_1 l Z a0 hw [] G1 HG h0 n0 X00 x t kt bs hp0 hp1 hp2 hp3) hZ (w57 hw) (w7 hw) (by decide) (by decide)) q_4 q_6 (g := (mkF m 1 #[.val (.ref x), .val (.ref q)] [(.ref x)])) rfl (by rw [hml]; rfl) (Steps.refl _) (argsL := []) (rest := []) (lenOf pd_347 rfl) rfl (by show 2 * 0 + _ ≤ _; exact Nat.le_of_eq rfl) (hb hby d18_1) (fun _ _ => ⟨rfl, e0, (by decide : 0 + 0 ≤ _), (by decide : 0 + 0 ≤ _)⟩)
  dsimp only [Pt.U, Pt.locs, Pt.cells, Pt.slots] at X_1 l_1 y_1 z_1 st_1 hQ_1
  subst l_1 y_1 z_1
  obtain ⟨rfl, N_7, e_8⟩ := hQ_1
  have N_9 := Fr.app N0 N_7
  have e_10 : T_1.heap = h0 := e_8
  have C_11 : Steps p.tables e below S0 (T_1.setTop (mkF m 22 #[.val (.ref x), .val (.ref q)] [(.ref x)])) := by
    refine C0.trans ?_
    refine XS.aloadN X0.here hx rfl (hb hby d18_0) rfl rfl ?_
    refine st_1.trans ?_
    refine XS.ifYes X_1.here hx rfl (pc0 := 4) (pc' := 21) rfl (hb hby d18_4) rfl (by decide) (by decide) (by decide) ?_
    refine XS.aloadN X_1.here hx rfl (hb hby d18_21) rfl rfl ?_
    exact Steps.refl _
  obtain ⟨fs, hr, hrun, hended, hW, hsame⟩ := X_1.leave (v := some (.ref x)) (fun h => by rw [Bd.returns] at h; cases h)
  refine ⟨_, _, C_11.trans (retOut X_1 hx Bd.returns rfl (Or.inr (Or.inr (Or.inr (Or.inr ⟨rfl, rfl, rfl⟩)))) (hb hby d18_22) hr), hrun, hended, _, _, rfl, ?_, ⟨_, rfl⟩, hW, hsame.mono (by decide) (by decide)⟩
  show Q_id_1_1 Z G1 x t kt bs q h0 n0 (some (.ref x)) T_1.heap _
  rw [e_10]
  exact ⟨rfl, N_9, rfl⟩
abbrev R_len_2_0 : Room := { frames := 1, cells := 0, slots := 0, locals := 13 }
def Q_len_2_0 (Z : State) (G1 : Int32) (x : Addr) (t : Addr) (kt : ClassId) (bs : List Value) (h0 : Heap) (n0 : Nat) (v : Option Value) (h : Heap) (L : List Loc) : Prop := (v = some (.int (2 : Int32)) ∧ Fr n0 L ∧ h = h0)
set_option maxRecDepth 65536 in
set_option maxHeartbeats 40000000 in
theorem rm_len_2_0 (l : Launch) (Z : State) (a0 : Array Value) (hw : ∀ d ∈ tables_1, d.before a0 Z = true) (ws : List Jvm.Cond) (G1 : Int32) (HG : own_G l Z a0 G1) (h0 : Heap) (n0 : Nat) (X00 : Old Z n0 h0) (x : Addr) (t : Addr) (kt : ClassId) (bs : List Value) (hp0 : Exa Z h0 x "java/lang/String") (hp1 : Fld Z h0 x "java/lang/String" "coder" "B" (.int (0 : Int32))) (hp2 : Fld Z h0 x "java/lang/String" "value" "[B" (.ref t)) (hp3 : Arv Z h0 t kt .byte (2 : Int32) bs (.int (0 : Int32))) :
    own_CP l Z M322 jdk_42_method_54_code 1 (some .int) ws R_len_2_0 #[(.ref x)] h0 (Q_len_2_0 Z G1 x t kt bs h0 n0) := by
  refine own_P (plainFor_of_name pn_185) ?_
  intro p e s m below meth c s₁ S0 Bd hZ hh hx hby hml hown hnm X0 e0 hS0d
  obtain ⟨O1, P1, OAD, OHI, OLO⟩ := id HG
  have N0 := Fr.nil n0
  have C0 : Steps p.tables e below S0 (s₁.setTop (mkF m 0 #[.val (.ref x)] [])) := by rw [hS0d]; exact castTop (ef_315 m x) (Steps.refl _)
  obtain ⟨T_1, X_2, e_3, st_4⟩ := getF X0 hx hZ hown (host := "") (Or.inl (w33 hw)) Via.refl e0 hp2 (g := (mkF m 1 #[.val (.ref x)] [(.ref x)])) rfl rfl (hb hby d16_1)
  obtain ⟨c_5, A_6, q_7, S_8, M_9, H_10, U_11⟩ := id hp3
  obtain ⟨q_13, q_14, q_15, q_16, q_17⟩ := isOf (T := T_1) hZ e_3 hp0
  obtain ⟨_, _, ⟨T_12, L_12, k_12, n_12⟩, -, X_12, ⟨Lc_12, hQ_12, l_12, y_12, z_12⟩, st_12⟩ := X_2.virtualBack hx (y := M314) (z := M314) hown (mvT hZ (w63 hw)) (mvT hZ (w64 hw)) (notFace_of_selects (args := #[]) (mvT hZ (w66 hw))) (mvT hZ (w66 hw)) (mvT hZ (w65 hw)) (by decide) (backOf (W := 1) (rm_coder0 l Z a0 hw [] G1 HG h0 n0 X00 x hp1) hZ (w67 hw) (w7 hw) (by decide) (by decide)) q_15 q_17 (g := (mkF m 6 #[.val (.ref x)] [(.ref x), (.int (2 : Int32))])) rfl (by rw [hml]; rfl) (Steps.refl _) (argsL := []) (rest := [(.int (2 : Int32))]) (lenOf pd_328 rfl) rfl (by show 2 * 0 + _ ≤ _; exact Nat.le_of_eq rfl) (hb hby d16_6) (fun _ _ => ⟨rfl, e_3, (by decide : 0 + 0 ≤ _), (by decide : 0 + 0 ≤ _)⟩)
  dsimp only [Pt.U, Pt.locs, Pt.cells, Pt.slots] at X_12 l_12 y_12 z_12 st_12 hQ_12
  subst l_12 y_12 z_12
  obtain ⟨rfl, N_18, e_19⟩ := hQ_12
  have N_20 := Fr.app N0 N_18
  have e_21 : T_12.heap = h0 := e_19
  have C_22 : Steps p.tables e below S0 (T_12.setTop (mkF m 10 #[.val (.ref x)] [(.int (2 : Int32))])) := by
    refine C0.trans ?_
    refine XS.aloadN X0.here hx rfl (hb hby d16_0) rfl rfl ?_
    refine st_4 _ ?_
    refine X_2.arraylength hx (by rw [e_3]; exact A_6.1) (State.isArrayOf_alike hZ.alike A_6.2.1) (g := (mkF m 4 #[.val (.ref x)] [(.ref t)])) rfl rfl (hb hby d16_4) _ ?_
    rw [len_of S_8 M_9]
    refine XS.aloadN X_2.here hx rfl (hb hby d16_5) rfl rfl ?_
    refine st_12.trans ?_
    refine XS.ishr X_12.here hx rfl (hb hby d16_9) rfl ?_
    exact Steps.refl _
  obtain ⟨fs, hr, hrun, hended, hW, hsame⟩ := X_12.leave (v := some (.int (2 : Int32))) (fun h => by rw [Bd.returns] at h; cases h)
  refine ⟨_, _, C_22.trans (retOut X_12 hx Bd.returns rfl (Or.inl ⟨rfl, Or.inl rfl, _, rfl⟩) (hb hby d16_10) hr), hrun, hended, _, _, rfl, ?_, ⟨_, rfl⟩, hW, hsame.mono (by decide) (by decide)⟩
  show Q_len_2_0 Z G1 x t kt bs h0 n0 (some (.int (2 : Int32))) T_12.heap _
  rw [e_21]
  exact ⟨rfl, N_20, rfl⟩
abbrev R_emp_2_0 : Room := { frames := 0, cells := 0, slots := 0, locals := 0 }
def Q_emp_2_0 (Z : State) (G1 : Int32) (x : Addr) (t : Addr) (kt : ClassId) (bs : List Value) (h0 : Heap) (n0 : Nat) (v : Option Value) (h : Heap) (L : List Loc) : Prop := (v = some (.int (0 : Int32)) ∧ Fr n0 L ∧ h = h0)
set_option maxRecDepth 65536 in
set_option maxHeartbeats 40000000 in
theorem rm_emp_2_0 (l : Launch) (Z : State) (a0 : Array Value) (hw : ∀ d ∈ tables_1, d.before a0 Z = true) (ws : List Jvm.Cond) (G1 : Int32) (HG : own_G l Z a0 G1) (h0 : Heap) (n0 : Nat) (X00 : Old Z n0 h0) (x : Addr) (t : Addr) (kt : ClassId) (bs : List Value) (hp0 : Exa Z h0 x "java/lang/String") (hp1 : Fld Z h0 x "java/lang/String" "coder" "B" (.int (0 : Int32))) (hp2 : Fld Z h0 x "java/lang/String" "value" "[B" (.ref t)) (hp3 : Arv Z h0 t kt .byte (2 : Int32) bs (.int (0 : Int32))) :
    own_CP l Z M336 jdk_42_method_55_code 1 (some .boolean) ws R_emp_2_0 #[(.ref x)] h0 (Q_emp_2_0 Z G1 x t kt bs h0 n0) := by
  refine own_P (plainFor_of_name pn_185) ?_
  intro p e s m below meth c s₁ S0 Bd hZ hh hx hby hml hown hnm X0 e0 hS0d
  obtain ⟨O1, P1, OAD, OHI, OLO⟩ := id HG
  have N0 := Fr.nil n0
  have C0 : Steps p.tables e below S0 (s₁.setTop (mkF m 0 #[.val (.ref x)] [])) := by rw [hS0d]; exact castTop (ef_315 m x) (Steps.refl _)
  obtain ⟨T_1, X_2, e_3, st_4⟩ := getF X0 hx hZ hown (host := "") (Or.inl (w33 hw)) Via.refl e0 hp2 (g := (mkF m 1 #[.val (.ref x)] [(.ref x)])) rfl rfl (hb hby d17_1)
  obtain ⟨c_5, A_6, q_7, S_8, M_9, H_10, U_11⟩ := id hp3
  have C_12 : Steps p.tables e below S0 (T_1.setTop (mkF m 13 #[.val (.ref x)] [(.int (0 : Int32))])) := by
    refine C0.trans ?_
    refine XS.aloadN X0.here hx rfl (hb hby d17_0) rfl rfl ?_
    refine st_4 _ ?_
    refine X_2.arraylength hx (by rw [e_3]; exact A_6.1) (State.isArrayOf_alike hZ.alike A_6.2.1) (g := (mkF m 4 #[.val (.ref x)] [(.ref t)])) rfl rfl (hb hby d17_4) _ ?_
    rw [len_of S_8 M_9]
    refine XS.ifYes X_2.here hx rfl (pc0 := 5) (pc' := 12) rfl (hb hby d17_5) rfl (by decide) (by decide) (by decide) ?_
    refine XS.iconst X_2.here hx rfl (hb hby d17_12) ?_
    exact Steps.refl _
  obtain ⟨fs, hr, hrun, hended, hW, hsame⟩ := X_2.leave (v := some (.int (0 : Int32))) (fun h => by rw [Bd.returns] at h; cases h)
  refine ⟨_, _, C_12.trans (retN X_2 hx (t := .boolean) Bd.returns (by simp) (hb hby d17_13) hr), hrun, hended, _, _, rfl, ?_, ⟨_, rfl⟩, hW, hsame.mono (by decide) (by decide)⟩
  show Q_emp_2_0 Z G1 x t kt bs h0 n0 (some (.int (0 : Int32))) T_1.heap _
  rw [e_3]
  exact ⟨rfl, N0, rfl⟩
abbrev R_id_2_0 : Room := { frames := 1, cells := 0, slots := 0, locals := 12 }
def Q_id_2_0 (Z : State) (G1 : Int32) (x : Addr) (t : Addr) (kt : ClassId) (bs : List Value) (q : Addr) (h0 : Heap) (n0 : Nat) (v : Option Value) (h : Heap) (L : List Loc) : Prop := (v = some (.ref x) ∧ Fr n0 L ∧ h = h0)
set_option maxRecDepth 65536 in
set_option maxHeartbeats 40000000 in
theorem rm_id_2_0 (l : Launch) (Z : State) (a0 : Array Value) (hw : ∀ d ∈ tables_1, d.before a0 Z = true) (ws : List Jvm.Cond) (G1 : Int32) (HG : own_G l Z a0 G1) (h0 : Heap) (n0 : Nat) (X00 : Old Z n0 h0) (x : Addr) (t : Addr) (kt : ClassId) (bs : List Value) (q : Addr) (hp0 : Exa Z h0 x "java/lang/String") (hp1 : Fld Z h0 x "java/lang/String" "coder" "B" (.int (0 : Int32))) (hp2 : Fld Z h0 x "java/lang/String" "value" "[B" (.ref t)) (hp3 : Arv Z h0 t kt .byte (2 : Int32) bs (.int (0 : Int32))) :
    own_CP l Z M343 prog_27_method_2_code 2 (some (.object "java/lang/String")) ws R_id_2_0 #[(.ref x), (.ref q)] h0 (Q_id_2_0 Z G1 x t kt bs q h0 n0) := by
  refine own_P (plainFor_of_name pn_344) ?_
  intro p e s m below meth c s₁ S0 Bd hZ hh hx hby hml hown hnm X0 e0 hS0d
  obtain ⟨O1, P1, OAD, OHI, OLO⟩ := id HG
  have N0 := Fr.nil n0
  have C0 : Steps p.tables e below S0 (s₁.setTop (mkF m 0 #[.val (.ref x), .val (.ref q)] [])) := by rw [hS0d]; exact castTop (ef_223 m x q) (Steps.refl _)
  obtain ⟨q_2, q_3, q_4, q_5, q_6⟩ := isOf (T := s₁) hZ e0 hp0
  obtain ⟨_, _, ⟨T_1, L_1, k_1, n_1⟩, -, X_1, ⟨Lc_1, hQ_1, l_1, y_1, z_1⟩, st_1⟩ := X0.virtualBack hx (y := M336) (z := M336) hown (mvT hZ (w53 hw)) (mvT hZ (w54 hw)) (notFace_of_selects (args := #[]) (mvT hZ (w56 hw))) (mvT hZ (w56 hw)) (mvT hZ (w55 hw)) (by decide) (backOf (W := 0) (rm_emp_2_0 l Z a0 hw [] G1 HG h0 n0 X00 x t kt bs hp0 hp1 hp2 hp3) hZ (w57 hw) (w7 hw) (by decide) (by decide)) q_4 q_6 (g := (mkF m 1 #[.val (.ref x), .val (.ref q)] [(.ref x)])) rfl (by rw [hml]; rfl) (Steps.refl _) (argsL := []) (rest := []) (lenOf pd_347 rfl) rfl (by show 2 * 0 + _ ≤ _; exact Nat.le_of_eq rfl) (hb hby d18_1) (fun _ _ => ⟨rfl, e0, (by decide : 0 + 0 ≤ _), (by decide : 0 + 0 ≤ _)⟩)
  dsimp only [Pt.U, Pt.locs, Pt.cells, Pt.slots] at X_1 l_1 y_1 z_1 st_1 hQ_1
  subst l_1 y_1 z_1
  obtain ⟨rfl, N_7, e_8⟩ := hQ_1
  have N_9 := Fr.app N0 N_7
  have e_10 : T_1.heap = h0 := e_8
  have C_11 : Steps p.tables e below S0 (T_1.setTop (mkF m 22 #[.val (.ref x), .val (.ref q)] [(.ref x)])) := by
    refine C0.trans ?_
    refine XS.aloadN X0.here hx rfl (hb hby d18_0) rfl rfl ?_
    refine st_1.trans ?_
    refine XS.ifYes X_1.here hx rfl (pc0 := 4) (pc' := 21) rfl (hb hby d18_4) rfl (by decide) (by decide) (by decide) ?_
    refine XS.aloadN X_1.here hx rfl (hb hby d18_21) rfl rfl ?_
    exact Steps.refl _
  obtain ⟨fs, hr, hrun, hended, hW, hsame⟩ := X_1.leave (v := some (.ref x)) (fun h => by rw [Bd.returns] at h; cases h)
  refine ⟨_, _, C_11.trans (retOut X_1 hx Bd.returns rfl (Or.inr (Or.inr (Or.inr (Or.inr ⟨rfl, rfl, rfl⟩)))) (hb hby d18_22) hr), hrun, hended, _, _, rfl, ?_, ⟨_, rfl⟩, hW, hsame.mono (by decide) (by decide)⟩
  show Q_id_2_0 Z G1 x t kt bs q h0 n0 (some (.ref x)) T_1.heap _
  rw [e_10]
  exact ⟨rfl, N_9, rfl⟩
abbrev R_len_2_1 : Room := { frames := 1, cells := 0, slots := 0, locals := 13 }
def Q_len_2_1 (Z : State) (G1 : Int32) (x : Addr) (t : Addr) (kt : ClassId) (bs : List Value) (h0 : Heap) (n0 : Nat) (v : Option Value) (h : Heap) (L : List Loc) : Prop := (v = some (.int (2 : Int32)) ∧ Fr n0 L ∧ h = h0)
set_option maxRecDepth 65536 in
set_option maxHeartbeats 40000000 in
theorem rm_len_2_1 (l : Launch) (Z : State) (a0 : Array Value) (hw : ∀ d ∈ tables_1, d.before a0 Z = true) (ws : List Jvm.Cond) (G1 : Int32) (HG : own_G l Z a0 G1) (h0 : Heap) (n0 : Nat) (X00 : Old Z n0 h0) (x : Addr) (t : Addr) (kt : ClassId) (bs : List Value) (hp0 : Exa Z h0 x "java/lang/String") (hp1 : Fld Z h0 x "java/lang/String" "coder" "B" (.int (1 : Int32))) (hp2 : Fld Z h0 x "java/lang/String" "value" "[B" (.ref t)) (hp3 : Arv Z h0 t kt .byte (4 : Int32) bs (.int (0 : Int32))) :
    own_CP l Z M322 jdk_42_method_54_code 1 (some .int) ws R_len_2_1 #[(.ref x)] h0 (Q_len_2_1 Z G1 x t kt bs h0 n0) := by
  refine own_P (plainFor_of_name pn_185) ?_
  intro p e s m below meth c s₁ S0 Bd hZ hh hx hby hml hown hnm X0 e0 hS0d
  obtain ⟨O1, P1, OAD, OHI, OLO⟩ := id HG
  have N0 := Fr.nil n0
  have C0 : Steps p.tables e below S0 (s₁.setTop (mkF m 0 #[.val (.ref x)] [])) := by rw [hS0d]; exact castTop (ef_315 m x) (Steps.refl _)
  obtain ⟨T_1, X_2, e_3, st_4⟩ := getF X0 hx hZ hown (host := "") (Or.inl (w33 hw)) Via.refl e0 hp2 (g := (mkF m 1 #[.val (.ref x)] [(.ref x)])) rfl rfl (hb hby d16_1)
  obtain ⟨c_5, A_6, q_7, S_8, M_9, H_10, U_11⟩ := id hp3
  obtain ⟨q_13, q_14, q_15, q_16, q_17⟩ := isOf (T := T_1) hZ e_3 hp0
  obtain ⟨_, _, ⟨T_12, L_12, k_12, n_12⟩, -, X_12, ⟨Lc_12, hQ_12, l_12, y_12, z_12⟩, st_12⟩ := X_2.virtualBack hx (y := M314) (z := M314) hown (mvT hZ (w63 hw)) (mvT hZ (w64 hw)) (notFace_of_selects (args := #[]) (mvT hZ (w66 hw))) (mvT hZ (w66 hw)) (mvT hZ (w65 hw)) (by decide) (backOf (W := 1) (rm_coder1 l Z a0 hw [] G1 HG h0 n0 X00 x hp1) hZ (w67 hw) (w7 hw) (by decide) (by decide)) q_15 q_17 (g := (mkF m 6 #[.val (.ref x)] [(.ref x), (.int (4 : Int32))])) rfl (by rw [hml]; rfl) (Steps.refl _) (argsL := []) (rest := [(.int (4 : Int32))]) (lenOf pd_328 rfl) rfl (by show 2 * 0 + _ ≤ _; exact Nat.le_of_eq rfl) (hb hby d16_6) (fun _ _ => ⟨rfl, e_3, (by decide : 0 + 0 ≤ _), (by decide : 0 + 0 ≤ _)⟩)
  dsimp only [Pt.U, Pt.locs, Pt.cells, Pt.slots] at X_12 l_12 y_12 z_12 st_12 hQ_12
  subst l_12 y_12 z_12
  obtain ⟨rfl, N_18, e_19⟩ := hQ_12
  have N_20 := Fr.app N0 N_18
  have e_21 : T_12.heap = h0 := e_19
  have C_22 : Steps p.tables e below S0 (T_12.setTop (mkF m 10 #[.val (.ref x)] [(.int (2 : Int32))])) := by
    refine C0.trans ?_
    refine XS.aloadN X0.here hx rfl (hb hby d16_0) rfl rfl ?_
    refine st_4 _ ?_
    refine X_2.arraylength hx (by rw [e_3]; exact A_6.1) (State.isArrayOf_alike hZ.alike A_6.2.1) (g := (mkF m 4 #[.val (.ref x)] [(.ref t)])) rfl rfl (hb hby d16_4) _ ?_
    rw [len_of S_8 M_9]
    refine XS.aloadN X_2.here hx rfl (hb hby d16_5) rfl rfl ?_
    refine st_12.trans ?_
    refine XS.ishr X_12.here hx rfl (hb hby d16_9) rfl ?_
    exact Steps.refl _
  obtain ⟨fs, hr, hrun, hended, hW, hsame⟩ := X_12.leave (v := some (.int (2 : Int32))) (fun h => by rw [Bd.returns] at h; cases h)
  refine ⟨_, _, C_22.trans (retOut X_12 hx Bd.returns rfl (Or.inl ⟨rfl, Or.inl rfl, _, rfl⟩) (hb hby d16_10) hr), hrun, hended, _, _, rfl, ?_, ⟨_, rfl⟩, hW, hsame.mono (by decide) (by decide)⟩
  show Q_len_2_1 Z G1 x t kt bs h0 n0 (some (.int (2 : Int32))) T_12.heap _
  rw [e_21]
  exact ⟨rfl, N_20, rfl⟩
abbrev R_emp_2_1 : Room := { frames := 0, cells := 0, slots := 0, locals := 0 }
def Q_emp_2_1 (Z : State) (G1 : Int32) (x : Addr) (t : Addr) (kt : ClassId) (bs : List Value) (h0 : Heap) (n0 : Nat) (v : Option Value) (h : Heap) (L : List Loc) : Prop := (v = some (.int (0 : Int32)) ∧ Fr n0 L ∧ h = h0)
set_option maxRecDepth 65536 in
set_option maxHeartbeats 40000000 in
theorem rm_emp_2_1 (l : Launch) (Z : State) (a0 : Array Value) (hw : ∀ d ∈ tables_1, d.before a0 Z = true) (ws : List Jvm.Cond) (G1 : Int32) (HG : own_G l Z a0 G1) (h0 : Heap) (n0 : Nat) (X00 : Old Z n0 h0) (x : Addr) (t : Addr) (kt : ClassId) (bs : List Value) (hp0 : Exa Z h0 x "java/lang/String") (hp1 : Fld Z h0 x "java/lang/String" "coder" "B" (.int (1 : Int32))) (hp2 : Fld Z h0 x "java/lang/String" "value" "[B" (.ref t)) (hp3 : Arv Z h0 t kt .byte (4 : Int32) bs (.int (0 : Int32))) :
    own_CP l Z M336 jdk_42_method_55_code 1 (some .boolean) ws R_emp_2_1 #[(.ref x)] h0 (Q_emp_2_1 Z G1 x t kt bs h0 n0) := by
  refine own_P (plainFor_of_name pn_185) ?_
  intro p e s m below meth c s₁ S0 Bd hZ hh hx hby hml hown hnm X0 e0 hS0d
  obtain ⟨O1, P1, OAD, OHI, OLO⟩ := id HG
  have N0 := Fr.nil n0
  have C0 : Steps p.tables e below S0 (s₁.setTop (mkF m 0 #[.val (.ref x)] [])) := by rw [hS0d]; exact castTop (ef_315 m x) (Steps.refl _)
  obtain ⟨T_1, X_2, e_3, st_4⟩ := getF X0 hx hZ hown (host := "") (Or.inl (w33 hw)) Via.refl e0 hp2 (g := (mkF m 1 #[.val (.ref x)] [(.ref x)])) rfl rfl (hb hby d17_1)
  obtain ⟨c_5, A_6, q_7, S_8, M_9, H_10, U_11⟩ := id hp3
  have C_12 : Steps p.tables e below S0 (T_1.setTop (mkF m 13 #[.val (.ref x)] [(.int (0 : Int32))])) := by
    refine C0.trans ?_
    refine XS.aloadN X0.here hx rfl (hb hby d17_0) rfl rfl ?_
    refine st_4 _ ?_
    refine X_2.arraylength hx (by rw [e_3]; exact A_6.1) (State.isArrayOf_alike hZ.alike A_6.2.1) (g := (mkF m 4 #[.val (.ref x)] [(.ref t)])) rfl rfl (hb hby d17_4) _ ?_
    rw [len_of S_8 M_9]
    refine XS.ifYes X_2.here hx rfl (pc0 := 5) (pc' := 12) rfl (hb hby d17_5) rfl (by decide) (by decide) (by decide) ?_
    refine XS.iconst X_2.here hx rfl (hb hby d17_12) ?_
    exact Steps.refl _
  obtain ⟨fs, hr, hrun, hended, hW, hsame⟩ := X_2.leave (v := some (.int (0 : Int32))) (fun h => by rw [Bd.returns] at h; cases h)
  refine ⟨_, _, C_12.trans (retN X_2 hx (t := .boolean) Bd.returns (by simp) (hb hby d17_13) hr), hrun, hended, _, _, rfl, ?_, ⟨_, rfl⟩, hW, hsame.mono (by decide) (by decide)⟩
  show Q_emp_2_1 Z G1 x t kt bs h0 n0 (some (.int (0 : Int32))) T_1.heap _
  rw [e_3]
  exact ⟨rfl, N0, rfl⟩
abbrev R_id_2_1 : Room := { frames := 1, cells := 0, slots := 0, locals := 12 }
def Q_id_2_1 (Z : State) (G1 : Int32) (x : Addr) (t : Addr) (kt : ClassId) (bs : List Value) (q : Addr) (h0 : Heap) (n0 : Nat) (v : Option Value) (h : Heap) (L : List Loc) : Prop := (v = some (.ref x) ∧ Fr n0 L ∧ h = h0)
set_option maxRecDepth 65536 in
set_option maxHeartbeats 40000000 in
theorem rm_id_2_1 (l : Launch) (Z : State) (a0 : Array Value) (hw : ∀ d ∈ tables_1, d.before a0 Z = true) (ws : List Jvm.Cond) (G1 : Int32) (HG : own_G l Z a0 G1) (h0 : Heap) (n0 : Nat) (X00 : Old Z n0 h0) (x : Addr) (t : Addr) (kt : ClassId) (bs : List Value) (q : Addr) (hp0 : Exa Z h0 x "java/lang/String") (hp1 : Fld Z h0 x "java/lang/String" "coder" "B" (.int (1 : Int32))) (hp2 : Fld Z h0 x "java/lang/String" "value" "[B" (.ref t)) (hp3 : Arv Z h0 t kt .byte (4 : Int32) bs (.int (0 : Int32))) :
    own_CP l Z M343 prog_27_method_2_code 2 (some (.object "java/lang/String")) ws R_id_2_1 #[(.ref x), (.ref q)] h0 (Q_id_2_1 Z G1 x t kt bs q h0 n0) := by
  refine own_P (plainFor_of_name pn_344) ?_
  intro p e s m below meth c s₁ S0 Bd hZ hh hx hby hml hown hnm X0 e0 hS0d
  obtain ⟨O1, P1, OAD, OHI, OLO⟩ := id HG
  have N0 := Fr.nil n0
  have C0 : Steps p.tables e below S0 (s₁.setTop (mkF m 0 #[.val (.ref x), .val (.ref q)] [])) := by rw [hS0d]; exact castTop (ef_223 m x q) (Steps.refl _)
  obtain ⟨q_2, q_3, q_4, q_5, q_6⟩ := isOf (T := s₁) hZ e0 hp0
  obtain ⟨_, _, ⟨T_1, L_1, k_1, n_1⟩, -, X_1, ⟨Lc_1, hQ_1, l_1, y_1, z_1⟩, st_1⟩ := X0.virtualBack hx (y := M336) (z := M336) hown (mvT hZ (w53 hw)) (mvT hZ (w54 hw)) (notFace_of_selects (args := #[]) (mvT hZ (w56 hw))) (mvT hZ (w56 hw)) (mvT hZ (w55 hw)) (by decide) (backOf (W := 0) (rm_emp_2_1 l Z a0 hw [] G1 HG h0 n0 X00 x t kt bs hp0 hp1 hp2 hp3) hZ (w57 hw) (w7 hw) (by decide) (by decide)) q_4 q_6 (g := (mkF m 1 #[.val (.ref x), .val (.ref q)] [(.ref x)])) rfl (by rw [hml]; rfl) (Steps.refl _) (argsL := []) (rest := []) (lenOf pd_347 rfl) rfl (by show 2 * 0 + _ ≤ _; exact Nat.le_of_eq rfl) (hb hby d18_1) (fun _ _ => ⟨rfl, e0, (by decide : 0 + 0 ≤ _), (by decide : 0 + 0 ≤ _)⟩)
  dsimp only [Pt.U, Pt.locs, Pt.cells, Pt.slots] at X_1 l_1 y_1 z_1 st_1 hQ_1
  subst l_1 y_1 z_1
  obtain ⟨rfl, N_7, e_8⟩ := hQ_1
  have N_9 := Fr.app N0 N_7
  have e_10 : T_1.heap = h0 := e_8
  have C_11 : Steps p.tables e below S0 (T_1.setTop (mkF m 22 #[.val (.ref x), .val (.ref q)] [(.ref x)])) := by
    refine C0.trans ?_
    refine XS.aloadN X0.here hx rfl (hb hby d18_0) rfl rfl ?_
    refine st_1.trans ?_
    refine XS.ifYes X_1.here hx rfl (pc0 := 4) (pc' := 21) rfl (hb hby d18_4) rfl (by decide) (by decide) (by decide) ?_
    refine XS.aloadN X_1.here hx rfl (hb hby d18_21) rfl rfl ?_
    exact Steps.refl _
  obtain ⟨fs, hr, hrun, hended, hW, hsame⟩ := X_1.leave (v := some (.ref x)) (fun h => by rw [Bd.returns] at h; cases h)
  refine ⟨_, _, C_11.trans (retOut X_1 hx Bd.returns rfl (Or.inr (Or.inr (Or.inr (Or.inr ⟨rfl, rfl, rfl⟩)))) (hb hby d18_22) hr), hrun, hended, _, _, rfl, ?_, ⟨_, rfl⟩, hW, hsame.mono (by decide) (by decide)⟩
  show Q_id_2_1 Z G1 x t kt bs q h0 n0 (some (.ref x)) T_1.heap _
  rw [e_10]
  exact ⟨rfl, N_9, rfl⟩
abbrev R_len_3_0 : Room := { frames := 1, cells := 0, slots := 0, locals := 13 }
def Q_len_3_0 (Z : State) (G1 : Int32) (x : Addr) (t : Addr) (kt : ClassId) (bs : List Value) (h0 : Heap) (n0 : Nat) (v : Option Value) (h : Heap) (L : List Loc) : Prop := (v = some (.int (3 : Int32)) ∧ Fr n0 L ∧ h = h0)
set_option maxRecDepth 65536 in
set_option maxHeartbeats 40000000 in
theorem rm_len_3_0 (l : Launch) (Z : State) (a0 : Array Value) (hw : ∀ d ∈ tables_1, d.before a0 Z = true) (ws : List Jvm.Cond) (G1 : Int32) (HG : own_G l Z a0 G1) (h0 : Heap) (n0 : Nat) (X00 : Old Z n0 h0) (x : Addr) (t : Addr) (kt : ClassId) (bs : List Value) (hp0 : Exa Z h0 x "java/lang/String") (hp1 : Fld Z h0 x "java/lang/String" "coder" "B" (.int (0 : Int32))) (hp2 : Fld Z h0 x "java/lang/String" "value" "[B" (.ref t)) (hp3 : Arv Z h0 t kt .byte (3 : Int32) bs (.int (0 : Int32))) :
    own_CP l Z M322 jdk_42_method_54_code 1 (some .int) ws R_len_3_0 #[(.ref x)] h0 (Q_len_3_0 Z G1 x t kt bs h0 n0) := by
  refine own_P (plainFor_of_name pn_185) ?_
  intro p e s m below meth c s₁ S0 Bd hZ hh hx hby hml hown hnm X0 e0 hS0d
  obtain ⟨O1, P1, OAD, OHI, OLO⟩ := id HG
  have N0 := Fr.nil n0
  have C0 : Steps p.tables e below S0 (s₁.setTop (mkF m 0 #[.val (.ref x)] [])) := by rw [hS0d]; exact castTop (ef_315 m x) (Steps.refl _)
  obtain ⟨T_1, X_2, e_3, st_4⟩ := getF X0 hx hZ hown (host := "") (Or.inl (w33 hw)) Via.refl e0 hp2 (g := (mkF m 1 #[.val (.ref x)] [(.ref x)])) rfl rfl (hb hby d16_1)
  obtain ⟨c_5, A_6, q_7, S_8, M_9, H_10, U_11⟩ := id hp3
  obtain ⟨q_13, q_14, q_15, q_16, q_17⟩ := isOf (T := T_1) hZ e_3 hp0
  obtain ⟨_, _, ⟨T_12, L_12, k_12, n_12⟩, -, X_12, ⟨Lc_12, hQ_12, l_12, y_12, z_12⟩, st_12⟩ := X_2.virtualBack hx (y := M314) (z := M314) hown (mvT hZ (w63 hw)) (mvT hZ (w64 hw)) (notFace_of_selects (args := #[]) (mvT hZ (w66 hw))) (mvT hZ (w66 hw)) (mvT hZ (w65 hw)) (by decide) (backOf (W := 1) (rm_coder0 l Z a0 hw [] G1 HG h0 n0 X00 x hp1) hZ (w67 hw) (w7 hw) (by decide) (by decide)) q_15 q_17 (g := (mkF m 6 #[.val (.ref x)] [(.ref x), (.int (3 : Int32))])) rfl (by rw [hml]; rfl) (Steps.refl _) (argsL := []) (rest := [(.int (3 : Int32))]) (lenOf pd_328 rfl) rfl (by show 2 * 0 + _ ≤ _; exact Nat.le_of_eq rfl) (hb hby d16_6) (fun _ _ => ⟨rfl, e_3, (by decide : 0 + 0 ≤ _), (by decide : 0 + 0 ≤ _)⟩)
  dsimp only [Pt.U, Pt.locs, Pt.cells, Pt.slots] at X_12 l_12 y_12 z_12 st_12 hQ_12
  subst l_12 y_12 z_12
  obtain ⟨rfl, N_18, e_19⟩ := hQ_12
  have N_20 := Fr.app N0 N_18
  have e_21 : T_12.heap = h0 := e_19
  have C_22 : Steps p.tables e below S0 (T_12.setTop (mkF m 10 #[.val (.ref x)] [(.int (3 : Int32))])) := by
    refine C0.trans ?_
    refine XS.aloadN X0.here hx rfl (hb hby d16_0) rfl rfl ?_
    refine st_4 _ ?_
    refine X_2.arraylength hx (by rw [e_3]; exact A_6.1) (State.isArrayOf_alike hZ.alike A_6.2.1) (g := (mkF m 4 #[.val (.ref x)] [(.ref t)])) rfl rfl (hb hby d16_4) _ ?_
    rw [len_of S_8 M_9]
    refine XS.aloadN X_2.here hx rfl (hb hby d16_5) rfl rfl ?_
    refine st_12.trans ?_
    refine XS.ishr X_12.here hx rfl (hb hby d16_9) rfl ?_
    exact Steps.refl _
  obtain ⟨fs, hr, hrun, hended, hW, hsame⟩ := X_12.leave (v := some (.int (3 : Int32))) (fun h => by rw [Bd.returns] at h; cases h)
  refine ⟨_, _, C_22.trans (retOut X_12 hx Bd.returns rfl (Or.inl ⟨rfl, Or.inl rfl, _, rfl⟩) (hb hby d16_10) hr), hrun, hended, _, _, rfl, ?_, ⟨_, rfl⟩, hW, hsame.mono (by decide) (by decide)⟩
  show Q_len_3_0 Z G1 x t kt bs h0 n0 (some (.int (3 : Int32))) T_12.heap _
  rw [e_21]
  exact ⟨rfl, N_20, rfl⟩
abbrev R_emp_3_0 : Room := { frames := 0, cells := 0, slots := 0, locals := 0 }
def Q_emp_3_0 (Z : State) (G1 : Int32) (x : Addr) (t : Addr) (kt : ClassId) (bs : List Value) (h0 : Heap) (n0 : Nat) (v : Option Value) (h : Heap) (L : List Loc) : Prop := (v = some (.int (0 : Int32)) ∧ Fr n0 L ∧ h = h0)
set_option maxRecDepth 65536 in
set_option maxHeartbeats 40000000 in
theorem rm_emp_3_0 (l : Launch) (Z : State) (a0 : Array Value) (hw : ∀ d ∈ tables_1, d.before a0 Z = true) (ws : List Jvm.Cond) (G1 : Int32) (HG : own_G l Z a0 G1) (h0 : Heap) (n0 : Nat) (X00 : Old Z n0 h0) (x : Addr) (t : Addr) (kt : ClassId) (bs : List Value) (hp0 : Exa Z h0 x "java/lang/String") (hp1 : Fld Z h0 x "java/lang/String" "coder" "B" (.int (0 : Int32))) (hp2 : Fld Z h0 x "java/lang/String" "value" "[B" (.ref t)) (hp3 : Arv Z h0 t kt .byte (3 : Int32) bs (.int (0 : Int32))) :
    own_CP l Z M336 jdk_42_method_55_code 1 (some .boolean) ws R_emp_3_0 #[(.ref x)] h0 (Q_emp_3_0 Z G1 x t kt bs h0 n0) := by
  refine own_P (plainFor_of_name pn_185) ?_
  intro p e s m below meth c s₁ S0 Bd hZ hh hx hby hml hown hnm X0 e0 hS0d
  obtain ⟨O1, P1, OAD, OHI, OLO⟩ := id HG
  have N0 := Fr.nil n0
  have C0 : Steps p.tables e below S0 (s₁.setTop (mkF m 0 #[.val (.ref x)] [])) := by rw [hS0d]; exact castTop (ef_315 m x) (Steps.refl _)
  obtain ⟨T_1, X_2, e_3, st_4⟩ := getF X0 hx hZ hown (host := "") (Or.inl (w33 hw)) Via.refl e0 hp2 (g := (mkF m 1 #[.val (.ref x)] [(.ref x)])) rfl rfl (hb hby d17_1)
  obtain ⟨c_5, A_6, q_7, S_8, M_9, H_10, U_11⟩ := id hp3
  have C_12 : Steps p.tables e below S0 (T_1.setTop (mkF m 13 #[.val (.ref x)] [(.int (0 : Int32))])) := by
    refine C0.trans ?_
    refine XS.aloadN X0.here hx rfl (hb hby d17_0) rfl rfl ?_
    refine st_4 _ ?_
    refine X_2.arraylength hx (by rw [e_3]; exact A_6.1) (State.isArrayOf_alike hZ.alike A_6.2.1) (g := (mkF m 4 #[.val (.ref x)] [(.ref t)])) rfl rfl (hb hby d17_4) _ ?_
    rw [len_of S_8 M_9]
    refine XS.ifYes X_2.here hx rfl (pc0 := 5) (pc' := 12) rfl (hb hby d17_5) rfl (by decide) (by decide) (by decide) ?_
    refine XS.iconst X_2.here hx rfl (hb hby d17_12) ?_
    exact Steps.refl _
  obtain ⟨fs, hr, hrun, hended, hW, hsame⟩ := X_2.leave (v := some (.int (0 : Int32))) (fun h => by rw [Bd.returns] at h; cases h)
  refine ⟨_, _, C_12.trans (retN X_2 hx (t := .boolean) Bd.returns (by simp) (hb hby d17_13) hr), hrun, hended, _, _, rfl, ?_, ⟨_, rfl⟩, hW, hsame.mono (by decide) (by decide)⟩
  show Q_emp_3_0 Z G1 x t kt bs h0 n0 (some (.int (0 : Int32))) T_1.heap _
  rw [e_3]
  exact ⟨rfl, N0, rfl⟩
abbrev R_id_3_0 : Room := { frames := 1, cells := 0, slots := 0, locals := 12 }
def Q_id_3_0 (Z : State) (G1 : Int32) (x : Addr) (t : Addr) (kt : ClassId) (bs : List Value) (q : Addr) (h0 : Heap) (n0 : Nat) (v : Option Value) (h : Heap) (L : List Loc) : Prop := (v = some (.ref x) ∧ Fr n0 L ∧ h = h0)
set_option maxRecDepth 65536 in
set_option maxHeartbeats 40000000 in
theorem rm_id_3_0 (l : Launch) (Z : State) (a0 : Array Value) (hw : ∀ d ∈ tables_1, d.before a0 Z = true) (ws : List Jvm.Cond) (G1 : Int32) (HG : own_G l Z a0 G1) (h0 : Heap) (n0 : Nat) (X00 : Old Z n0 h0) (x : Addr) (t : Addr) (kt : ClassId) (bs : List Value) (q : Addr) (hp0 : Exa Z h0 x "java/lang/String") (hp1 : Fld Z h0 x "java/lang/String" "coder" "B" (.int (0 : Int32))) (hp2 : Fld Z h0 x "java/lang/String" "value" "[B" (.ref t)) (hp3 : Arv Z h0 t kt .byte (3 : Int32) bs (.int (0 : Int32))) :
    own_CP l Z M343 prog_27_method_2_code 2 (some (.object "java/lang/String")) ws R_id_3_0 #[(.ref x), (.ref q)] h0 (Q_id_3_0 Z G1 x t kt bs q h0 n0) := by
  refine own_P (plainFor_of_name pn_344) ?_
  intro p e s m below meth c s₁ S0 Bd hZ hh hx hby hml hown hnm X0 e0 hS0d
  obtain ⟨O1, P1, OAD, OHI, OLO⟩ := id HG
  have N0 := Fr.nil n0
  have C0 : Steps p.tables e below S0 (s₁.setTop (mkF m 0 #[.val (.ref x), .val (.ref q)] [])) := by rw [hS0d]; exact castTop (ef_223 m x q) (Steps.refl _)
  obtain ⟨q_2, q_3, q_4, q_5, q_6⟩ := isOf (T := s₁) hZ e0 hp0
  obtain ⟨_, _, ⟨T_1, L_1, k_1, n_1⟩, -, X_1, ⟨Lc_1, hQ_1, l_1, y_1, z_1⟩, st_1⟩ := X0.virtualBack hx (y := M336) (z := M336) hown (mvT hZ (w53 hw)) (mvT hZ (w54 hw)) (notFace_of_selects (args := #[]) (mvT hZ (w56 hw))) (mvT hZ (w56 hw)) (mvT hZ (w55 hw)) (by decide) (backOf (W := 0) (rm_emp_3_0 l Z a0 hw [] G1 HG h0 n0 X00 x t kt bs hp0 hp1 hp2 hp3) hZ (w57 hw) (w7 hw) (by decide) (by decide)) q_4 q_6 (g := (mkF m 1 #[.val (.ref x), .val (.ref q)] [(.ref x)])) rfl (by rw [hml]; rfl) (Steps.refl _) (argsL := []) (rest := []) (lenOf pd_347 rfl) rfl (by show 2 * 0 + _ ≤ _; exact Nat.le_of_eq rfl) (hb hby d18_1) (fun _ _ => ⟨rfl, e0, (by decide : 0 + 0 ≤ _), (by decide : 0 + 0 ≤ _)⟩)
  dsimp only [Pt.U, Pt.locs, Pt.cells, Pt.slots] at X_1 l_1 y_1 z_1 st_1 hQ_1
  subst l_1 y_1 z_1
  obtain ⟨rfl, N_7, e_8⟩ := hQ_1
  have N_9 := Fr.app N0 N_7
  have e_10 : T_1.heap = h0 := e_8
  have C_11 : Steps p.tables e below S0 (T_1.setTop (mkF m 22 #[.val (.ref x), .val (.ref q)] [(.ref x)])) := by
    refine C0.trans ?_
    refine XS.aloadN X0.here hx rfl (hb hby d18_0) rfl rfl ?_
    refine st_1.trans ?_
    refine XS.ifYes X_1.here hx rfl (pc0 := 4) (pc' := 21) rfl (hb hby d18_4) rfl (by decide) (by decide) (by decide) ?_
    refine XS.aloadN X_1.here hx rfl (hb hby d18_21) rfl rfl ?_
    exact Steps.refl _
  obtain ⟨fs, hr, hrun, hended, hW, hsame⟩ := X_1.leave (v := some (.ref x)) (fun h => by rw [Bd.returns] at h; cases h)
  refine ⟨_, _, C_11.trans (retOut X_1 hx Bd.returns rfl (Or.inr (Or.inr (Or.inr (Or.inr ⟨rfl, rfl, rfl⟩)))) (hb hby d18_22) hr), hrun, hended, _, _, rfl, ?_, ⟨_, rfl⟩, hW, hsame.mono (by decide) (by decide)⟩
  show Q_id_3_0 Z G1 x t kt bs q h0 n0 (some (.ref x)) T_1.heap _
  rw [e_10]
  exact ⟨rfl, N_9, rfl⟩
abbrev R_len_3_1 : Room := { frames := 1, cells := 0, slots := 0, locals := 13 }
def Q_len_3_1 (Z : State) (G1 : Int32) (x : Addr) (t : Addr) (kt : ClassId) (bs : List Value) (h0 : Heap) (n0 : Nat) (v : Option Value) (h : Heap) (L : List Loc) : Prop := (v = some (.int (3 : Int32)) ∧ Fr n0 L ∧ h = h0)
set_option maxRecDepth 65536 in
set_option maxHeartbeats 40000000 in
theorem rm_len_3_1 (l : Launch) (Z : State) (a0 : Array Value) (hw : ∀ d ∈ tables_1, d.before a0 Z = true) (ws : List Jvm.Cond) (G1 : Int32) (HG : own_G l Z a0 G1) (h0 : Heap) (n0 : Nat) (X00 : Old Z n0 h0) (x : Addr) (t : Addr) (kt : ClassId) (bs : List Value) (hp0 : Exa Z h0 x "java/lang/String") (hp1 : Fld Z h0 x "java/lang/String" "coder" "B" (.int (1 : Int32))) (hp2 : Fld Z h0 x "java/lang/String" "value" "[B" (.ref t)) (hp3 : Arv Z h0 t kt .byte (6 : Int32) bs (.int (0 : Int32))) :
    own_CP l Z M322 jdk_42_method_54_code 1 (some .int) ws R_len_3_1 #[(.ref x)] h0 (Q_len_3_1 Z G1 x t kt bs h0 n0) := by
  refine own_P (plainFor_of_name pn_185) ?_
  intro p e s m below meth c s₁ S0 Bd hZ hh hx hby hml hown hnm X0 e0 hS0d
  obtain ⟨O1, P1, OAD, OHI, OLO⟩ := id HG
  have N0 := Fr.nil n0
  have C0 : Steps p.tables e below S0 (s₁.setTop (mkF m 0 #[.val (.ref x)] [])) := by rw [hS0d]; exact castTop (ef_315 m x) (Steps.refl _)
  obtain ⟨T_1, X_2, e_3, st_4⟩ := getF X0 hx hZ hown (host := "") (Or.inl (w33 hw)) Via.refl e0 hp2 (g := (mkF m 1 #[.val (.ref x)] [(.ref x)])) rfl rfl (hb hby d16_1)
  obtain ⟨c_5, A_6, q_7, S_8, M_9, H_10, U_11⟩ := id hp3
  obtain ⟨q_13, q_14, q_15, q_16, q_17⟩ := isOf (T := T_1) hZ e_3 hp0
  obtain ⟨_, _, ⟨T_12, L_12, k_12, n_12⟩, -, X_12, ⟨Lc_12, hQ_12, l_12, y_12, z_12⟩, st_12⟩ := X_2.virtualBack hx (y := M314) (z := M314) hown (mvT hZ (w63 hw)) (mvT hZ (w64 hw)) (notFace_of_selects (args := #[]) (mvT hZ (w66 hw))) (mvT hZ (w66 hw)) (mvT hZ (w65 hw)) (by decide) (backOf (W := 1) (rm_coder1 l Z a0 hw [] G1 HG h0 n0 X00 x hp1) hZ (w67 hw) (w7 hw) (by decide) (by decide)) q_15 q_17 (g := (mkF m 6 #[.val (.ref x)] [(.ref x), (.int (6 : Int32))])) rfl (by rw [hml]; rfl) (Steps.refl _) (argsL := []) (rest := [(.int (6 : Int32))]) (lenOf pd_328 rfl) rfl (by show 2 * 0 + _ ≤ _; exact Nat.le_of_eq rfl) (hb hby d16_6) (fun _ _ => ⟨rfl, e_3, (by decide : 0 + 0 ≤ _), (by decide : 0 + 0 ≤ _)⟩)
  dsimp only [Pt.U, Pt.locs, Pt.cells, Pt.slots] at X_12 l_12 y_12 z_12 st_12 hQ_12
  subst l_12 y_12 z_12
  obtain ⟨rfl, N_18, e_19⟩ := hQ_12
  have N_20 := Fr.app N0 N_18
  have e_21 : T_12.heap = h0 := e_19
  have C_22 : Steps p.tables e below S0 (T_12.setTop (mkF m 10 #[.val (.ref x)] [(.int (3 : Int32))])) := by
    refine C0.trans ?_
    refine XS.aloadN X0.here hx rfl (hb hby d16_0) rfl rfl ?_
    refine st_4 _ ?_
    refine X_2.arraylength hx (by rw [e_3]; exact A_6.1) (State.isArrayOf_alike hZ.alike A_6.2.1) (g := (mkF m 4 #[.val (.ref x)] [(.ref t)])) rfl rfl (hb hby d16_4) _ ?_
    rw [len_of S_8 M_9]
    refine XS.aloadN X_2.here hx rfl (hb hby d16_5) rfl rfl ?_
    refine st_12.trans ?_
    refine XS.ishr X_12.here hx rfl (hb hby d16_9) rfl ?_
    exact Steps.refl _
  obtain ⟨fs, hr, hrun, hended, hW, hsame⟩ := X_12.leave (v := some (.int (3 : Int32))) (fun h => by rw [Bd.returns] at h; cases h)
  refine ⟨_, _, C_22.trans (retOut X_12 hx Bd.returns rfl (Or.inl ⟨rfl, Or.inl rfl, _, rfl⟩) (hb hby d16_10) hr), hrun, hended, _, _, rfl, ?_, ⟨_, rfl⟩, hW, hsame.mono (by decide) (by decide)⟩
  show Q_len_3_1 Z G1 x t kt bs h0 n0 (some (.int (3 : Int32))) T_12.heap _
  rw [e_21]
  exact ⟨rfl, N_20, rfl⟩
abbrev R_emp_3_1 : Room := { frames := 0, cells := 0, slots := 0, locals := 0 }
def Q_emp_3_1 (Z : State) (G1 : Int32) (x : Addr) (t : Addr) (kt : ClassId) (bs : List Value) (h0 : Heap) (n0 : Nat) (v : Option Value) (h : Heap) (L : List Loc) : Prop := (v = some (.int (0 : Int32)) ∧ Fr n0 L ∧ h = h0)
set_option maxRecDepth 65536 in
set_option maxHeartbeats 40000000 in
theorem rm_emp_3_1 (l : Launch) (Z : State) (a0 : Array Value) (hw : ∀ d ∈ tables_1, d.before a0 Z = true) (ws : List Jvm.Cond) (G1 : Int32) (HG : own_G l Z a0 G1) (h0 : Heap) (n0 : Nat) (X00 : Old Z n0 h0) (x : Addr) (t : Addr) (kt : ClassId) (bs : List Value) (hp0 : Exa Z h0 x "java/lang/String") (hp1 : Fld Z h0 x "java/lang/String" "coder" "B" (.int (1 : Int32))) (hp2 : Fld Z h0 x "java/lang/String" "value" "[B" (.ref t)) (hp3 : Arv Z h0 t kt .byte (6 : Int32) bs (.int (0 : Int32))) :
    own_CP l Z M336 jdk_42_method_55_code 1 (some .boolean) ws R_emp_3_1 #[(.ref x)] h0 (Q_emp_3_1 Z G1 x t kt bs h0 n0) := by
  refine own_P (plainFor_of_name pn_185) ?_
  intro p e s m below meth c s₁ S0 Bd hZ hh hx hby hml hown hnm X0 e0 hS0d
  obtain ⟨O1, P1, OAD, OHI, OLO⟩ := id HG
  have N0 := Fr.nil n0
  have C0 : Steps p.tables e below S0 (s₁.setTop (mkF m 0 #[.val (.ref x)] [])) := by rw [hS0d]; exact castTop (ef_315 m x) (Steps.refl _)
  obtain ⟨T_1, X_2, e_3, st_4⟩ := getF X0 hx hZ hown (host := "") (Or.inl (w33 hw)) Via.refl e0 hp2 (g := (mkF m 1 #[.val (.ref x)] [(.ref x)])) rfl rfl (hb hby d17_1)
  obtain ⟨c_5, A_6, q_7, S_8, M_9, H_10, U_11⟩ := id hp3
  have C_12 : Steps p.tables e below S0 (T_1.setTop (mkF m 13 #[.val (.ref x)] [(.int (0 : Int32))])) := by
    refine C0.trans ?_
    refine XS.aloadN X0.here hx rfl (hb hby d17_0) rfl rfl ?_
    refine st_4 _ ?_
    refine X_2.arraylength hx (by rw [e_3]; exact A_6.1) (State.isArrayOf_alike hZ.alike A_6.2.1) (g := (mkF m 4 #[.val (.ref x)] [(.ref t)])) rfl rfl (hb hby d17_4) _ ?_
    rw [len_of S_8 M_9]
    refine XS.ifYes X_2.here hx rfl (pc0 := 5) (pc' := 12) rfl (hb hby d17_5) rfl (by decide) (by decide) (by decide) ?_
    refine XS.iconst X_2.here hx rfl (hb hby d17_12) ?_
    exact Steps.refl _
  obtain ⟨fs, hr, hrun, hended, hW, hsame⟩ := X_2.leave (v := some (.int (0 : Int32))) (fun h => by rw [Bd.returns] at h; cases h)
  refine ⟨_, _, C_12.trans (retN X_2 hx (t := .boolean) Bd.returns (by simp) (hb hby d17_13) hr), hrun, hended, _, _, rfl, ?_, ⟨_, rfl⟩, hW, hsame.mono (by decide) (by decide)⟩
  show Q_emp_3_1 Z G1 x t kt bs h0 n0 (some (.int (0 : Int32))) T_1.heap _
  rw [e_3]
  exact ⟨rfl, N0, rfl⟩
abbrev R_id_3_1 : Room := { frames := 1, cells := 0, slots := 0, locals := 12 }
def Q_id_3_1 (Z : State) (G1 : Int32) (x : Addr) (t : Addr) (kt : ClassId) (bs : List Value) (q : Addr) (h0 : Heap) (n0 : Nat) (v : Option Value) (h : Heap) (L : List Loc) : Prop := (v = some (.ref x) ∧ Fr n0 L ∧ h = h0)
set_option maxRecDepth 65536 in
set_option maxHeartbeats 40000000 in
theorem rm_id_3_1 (l : Launch) (Z : State) (a0 : Array Value) (hw : ∀ d ∈ tables_1, d.before a0 Z = true) (ws : List Jvm.Cond) (G1 : Int32) (HG : own_G l Z a0 G1) (h0 : Heap) (n0 : Nat) (X00 : Old Z n0 h0) (x : Addr) (t : Addr) (kt : ClassId) (bs : List Value) (q : Addr) (hp0 : Exa Z h0 x "java/lang/String") (hp1 : Fld Z h0 x "java/lang/String" "coder" "B" (.int (1 : Int32))) (hp2 : Fld Z h0 x "java/lang/String" "value" "[B" (.ref t)) (hp3 : Arv Z h0 t kt .byte (6 : Int32) bs (.int (0 : Int32))) :
    own_CP l Z M343 prog_27_method_2_code 2 (some (.object "java/lang/String")) ws R_id_3_1 #[(.ref x), (.ref q)] h0 (Q_id_3_1 Z G1 x t kt bs q h0 n0) := by
  refine own_P (plainFor_of_name pn_344) ?_
  intro p e s m below meth c s₁ S0 Bd hZ hh hx hby hml hown hnm X0 e0 hS0d
  obtain ⟨O1, P1, OAD, OHI, OLO⟩ := id HG
  have N0 := Fr.nil n0
  have C0 : Steps p.tables e below S0 (s₁.setTop (mkF m 0 #[.val (.ref x), .val (.ref q)] [])) := by rw [hS0d]; exact castTop (ef_223 m x q) (Steps.refl _)
  obtain ⟨q_2, q_3, q_4, q_5, q_6⟩ := isOf (T := s₁) hZ e0 hp0
  obtain ⟨_, _, ⟨T_1, L_1, k_1, n_1⟩, -, X_1, ⟨Lc_1, hQ_1, l_1, y_1, z_1⟩, st_1⟩ := X0.virtualBack hx (y := M336) (z := M336) hown (mvT hZ (w53 hw)) (mvT hZ (w54 hw)) (notFace_of_selects (args := #[]) (mvT hZ (w56 hw))) (mvT hZ (w56 hw)) (mvT hZ (w55 hw)) (by decide) (backOf (W := 0) (rm_emp_3_1 l Z a0 hw [] G1 HG h0 n0 X00 x t kt bs hp0 hp1 hp2 hp3) hZ (w57 hw) (w7 hw) (by decide) (by decide)) q_4 q_6 (g := (mkF m 1 #[.val (.ref x), .val (.ref q)] [(.ref x)])) rfl (by rw [hml]; rfl) (Steps.refl _) (argsL := []) (rest := []) (lenOf pd_347 rfl) rfl (by show 2 * 0 + _ ≤ _; exact Nat.le_of_eq rfl) (hb hby d18_1) (fun _ _ => ⟨rfl, e0, (by decide : 0 + 0 ≤ _), (by decide : 0 + 0 ≤ _)⟩)
  dsimp only [Pt.U, Pt.locs, Pt.cells, Pt.slots] at X_1 l_1 y_1 z_1 st_1 hQ_1
  subst l_1 y_1 z_1
  obtain ⟨rfl, N_7, e_8⟩ := hQ_1
  have N_9 := Fr.app N0 N_7
  have e_10 : T_1.heap = h0 := e_8
  have C_11 : Steps p.tables e below S0 (T_1.setTop (mkF m 22 #[.val (.ref x), .val (.ref q)] [(.ref x)])) := by
    refine C0.trans ?_
    refine XS.aloadN X0.here hx rfl (hb hby d18_0) rfl rfl ?_
    refine st_1.trans ?_
    refine XS.ifYes X_1.here hx rfl (pc0 := 4) (pc' := 21) rfl (hb hby d18_4) rfl (by decide) (by decide) (by decide) ?_
    refine XS.aloadN X_1.here hx rfl (hb hby d18_21) rfl rfl ?_
    exact Steps.refl _
  obtain ⟨fs, hr, hrun, hended, hW, hsame⟩ := X_1.leave (v := some (.ref x)) (fun h => by rw [Bd.returns] at h; cases h)
  refine ⟨_, _, C_11.trans (retOut X_1 hx Bd.returns rfl (Or.inr (Or.inr (Or.inr (Or.inr ⟨rfl, rfl, rfl⟩)))) (hb hby d18_22) hr), hrun, hended, _, _, rfl, ?_, ⟨_, rfl⟩, hW, hsame.mono (by decide) (by decide)⟩
  show Q_id_3_1 Z G1 x t kt bs q h0 n0 (some (.ref x)) T_1.heap _
  rw [e_10]
  exact ⟨rfl, N_9, rfl⟩
abbrev R_len_4_0 : Room := { frames := 1, cells := 0, slots := 0, locals := 13 }
def Q_len_4_0 (Z : State) (G1 : Int32) (x : Addr) (t : Addr) (kt : ClassId) (bs : List Value) (h0 : Heap) (n0 : Nat) (v : Option Value) (h : Heap) (L : List Loc) : Prop := (v = some (.int (4 : Int32)) ∧ Fr n0 L ∧ h = h0)
set_option maxRecDepth 65536 in
set_option maxHeartbeats 40000000 in
theorem rm_len_4_0 (l : Launch) (Z : State) (a0 : Array Value) (hw : ∀ d ∈ tables_1, d.before a0 Z = true) (ws : List Jvm.Cond) (G1 : Int32) (HG : own_G l Z a0 G1) (h0 : Heap) (n0 : Nat) (X00 : Old Z n0 h0) (x : Addr) (t : Addr) (kt : ClassId) (bs : List Value) (hp0 : Exa Z h0 x "java/lang/String") (hp1 : Fld Z h0 x "java/lang/String" "coder" "B" (.int (0 : Int32))) (hp2 : Fld Z h0 x "java/lang/String" "value" "[B" (.ref t)) (hp3 : Arv Z h0 t kt .byte (4 : Int32) bs (.int (0 : Int32))) :
    own_CP l Z M322 jdk_42_method_54_code 1 (some .int) ws R_len_4_0 #[(.ref x)] h0 (Q_len_4_0 Z G1 x t kt bs h0 n0) := by
  refine own_P (plainFor_of_name pn_185) ?_
  intro p e s m below meth c s₁ S0 Bd hZ hh hx hby hml hown hnm X0 e0 hS0d
  obtain ⟨O1, P1, OAD, OHI, OLO⟩ := id HG
  have N0 := Fr.nil n0
  have C0 : Steps p.tables e below S0 (s₁.setTop (mkF m 0 #[.val (.ref x)] [])) := by rw [hS0d]; exact castTop (ef_315 m x) (Steps.refl _)
  obtain ⟨T_1, X_2, e_3, st_4⟩ := getF X0 hx hZ hown (host := "") (Or.inl (w33 hw)) Via.refl e0 hp2 (g := (mkF m 1 #[.val (.ref x)] [(.ref x)])) rfl rfl (hb hby d16_1)
  obtain ⟨c_5, A_6, q_7, S_8, M_9, H_10, U_11⟩ := id hp3
  obtain ⟨q_13, q_14, q_15, q_16, q_17⟩ := isOf (T := T_1) hZ e_3 hp0
  obtain ⟨_, _, ⟨T_12, L_12, k_12, n_12⟩, -, X_12, ⟨Lc_12, hQ_12, l_12, y_12, z_12⟩, st_12⟩ := X_2.virtualBack hx (y := M314) (z := M314) hown (mvT hZ (w63 hw)) (mvT hZ (w64 hw)) (notFace_of_selects (args := #[]) (mvT hZ (w66 hw))) (mvT hZ (w66 hw)) (mvT hZ (w65 hw)) (by decide) (backOf (W := 1) (rm_coder0 l Z a0 hw [] G1 HG h0 n0 X00 x hp1) hZ (w67 hw) (w7 hw) (by decide) (by decide)) q_15 q_17 (g := (mkF m 6 #[.val (.ref x)] [(.ref x), (.int (4 : Int32))])) rfl (by rw [hml]; rfl) (Steps.refl _) (argsL := []) (rest := [(.int (4 : Int32))]) (lenOf pd_328 rfl) rfl (by show 2 * 0 + _ ≤ _; exact Nat.le_of_eq rfl) (hb hby d16_6) (fun _ _ => ⟨rfl, e_3, (by decide : 0 + 0 ≤ _), (by decide : 0 + 0 ≤ _)⟩)
  dsimp only [Pt.U, Pt.locs, Pt.cells, Pt.slots] at X_12 l_12 y_12 z_12 st_12 hQ_12
  subst l_12 y_12 z_12
  obtain ⟨rfl, N_18, e_19⟩ := hQ_12
  have N_20 := Fr.app N0 N_18
  have e_21 : T_12.heap = h0 := e_19
  have C_22 : Steps p.tables e below S0 (T_12.setTop (mkF m 10 #[.val (.ref x)] [(.int (4 : Int32))])) := by
    refine C0.trans ?_
    refine XS.aloadN X0.here hx rfl (hb hby d16_0) rfl rfl ?_
    refine st_4 _ ?_
    refine X_2.arraylength hx (by rw [e_3]; exact A_6.1) (State.isArrayOf_alike hZ.alike A_6.2.1) (g := (mkF m 4 #[.val (.ref x)] [(.ref t)])) rfl rfl (hb hby d16_4) _ ?_
    rw [len_of S_8 M_9]
    refine XS.aloadN X_2.here hx rfl (hb hby d16_5) rfl rfl ?_
    refine st_12.trans ?_
    refine XS.ishr X_12.here hx rfl (hb hby d16_9) rfl ?_
    exact Steps.refl _
  obtain ⟨fs, hr, hrun, hended, hW, hsame⟩ := X_12.leave (v := some (.int (4 : Int32))) (fun h => by rw [Bd.returns] at h; cases h)
  refine ⟨_, _, C_22.trans (retOut X_12 hx Bd.returns rfl (Or.inl ⟨rfl, Or.inl rfl, _, rfl⟩) (hb hby d16_10) hr), hrun, hended, _, _, rfl, ?_, ⟨_, rfl⟩, hW, hsame.mono (by decide) (by decide)⟩
  show Q_len_4_0 Z G1 x t kt bs h0 n0 (some (.int (4 : Int32))) T_12.heap _
  rw [e_21]
  exact ⟨rfl, N_20, rfl⟩
abbrev R_emp_4_0 : Room := { frames := 0, cells := 0, slots := 0, locals := 0 }
def Q_emp_4_0 (Z : State) (G1 : Int32) (x : Addr) (t : Addr) (kt : ClassId) (bs : List Value) (h0 : Heap) (n0 : Nat) (v : Option Value) (h : Heap) (L : List Loc) : Prop := (v = some (.int (0 : Int32)) ∧ Fr n0 L ∧ h = h0)
set_option maxRecDepth 65536 in
set_option maxHeartbeats 40000000 in
theorem rm_emp_4_0 (l : Launch) (Z : State) (a0 : Array Value) (hw : ∀ d ∈ tables_1, d.before a0 Z = true) (ws : List Jvm.Cond) (G1 : Int32) (HG : own_G l Z a0 G1) (h0 : Heap) (n0 : Nat) (X00 : Old Z n0 h0) (x : Addr) (t : Addr) (kt : ClassId) (bs : List Value) (hp0 : Exa Z h0 x "java/lang/String") (hp1 : Fld Z h0 x "java/lang/String" "coder" "B" (.int (0 : Int32))) (hp2 : Fld Z h0 x "java/lang/String" "value" "[B" (.ref t)) (hp3 : Arv Z h0 t kt .byte (4 : Int32) bs (.int (0 : Int32))) :
    own_CP l Z M336 jdk_42_method_55_code 1 (some .boolean) ws R_emp_4_0 #[(.ref x)] h0 (Q_emp_4_0 Z G1 x t kt bs h0 n0) := by
  refine own_P (plainFor_of_name pn_185) ?_
  intro p e s m below meth c s₁ S0 Bd hZ hh hx hby hml hown hnm X0 e0 hS0d
  obtain ⟨O1, P1, OAD, OHI, OLO⟩ := id HG
  have N0 := Fr.nil n0
  have C0 : Steps p.tables e below S0 (s₁.setTop (mkF m 0 #[.val (.ref x)] [])) := by rw [hS0d]; exact castTop (ef_315 m x) (Steps.refl _)
  obtain ⟨T_1, X_2, e_3, st_4⟩ := getF X0 hx hZ hown (host := "") (Or.inl (w33 hw)) Via.refl e0 hp2 (g := (mkF m 1 #[.val (.ref x)] [(.ref x)])) rfl rfl (hb hby d17_1)
  obtain ⟨c_5, A_6, q_7, S_8, M_9, H_10, U_11⟩ := id hp3
  have C_12 : Steps p.tables e below S0 (T_1.setTop (mkF m 13 #[.val (.ref x)] [(.int (0 : Int32))])) := by
    refine C0.trans ?_
    refine XS.aloadN X0.here hx rfl (hb hby d17_0) rfl rfl ?_
    refine st_4 _ ?_
    refine X_2.arraylength hx (by rw [e_3]; exact A_6.1) (State.isArrayOf_alike hZ.alike A_6.2.1) (g := (mkF m 4 #[.val (.ref x)] [(.ref t)])) rfl rfl (hb hby d17_4) _ ?_
    rw [len_of S_8 M_9]
    refine XS.ifYes X_2.here hx rfl (pc0 := 5) (pc' := 12) rfl (hb hby d17_5) rfl (by decide) (by decide) (by decide) ?_
    refine XS.iconst X_2.here hx rfl (hb hby d17_12) ?_
    exact Steps.refl _
  obtain ⟨fs, hr, hrun, hended, hW, hsame⟩ := X_2.leave (v := some (.int (0 : Int32))) (fun h => by rw [Bd.returns] at h; cases h)
  refine ⟨_, _, C_12.trans (retN X_2 hx (t := .boolean) Bd.returns (by simp) (hb hby d17_13) hr), hrun, hended, _, _, rfl, ?_, ⟨_, rfl⟩, hW, hsame.mono (by decide) (by decide)⟩
  show Q_emp_4_0 Z G1 x t kt bs h0 n0 (some (.int (0 : Int32))) T_1.heap _
  rw [e_3]
  exact ⟨rfl, N0, rfl⟩
abbrev R_id_4_0 : Room := { frames := 1, cells := 0, slots := 0, locals := 12 }
def Q_id_4_0 (Z : State) (G1 : Int32) (x : Addr) (t : Addr) (kt : ClassId) (bs : List Value) (q : Addr) (h0 : Heap) (n0 : Nat) (v : Option Value) (h : Heap) (L : List Loc) : Prop := (v = some (.ref x) ∧ Fr n0 L ∧ h = h0)
set_option maxRecDepth 65536 in
set_option maxHeartbeats 40000000 in
theorem rm_id_4_0 (l : Launch) (Z : State) (a0 : Array Value) (hw : ∀ d ∈ tables_1, d.before a0 Z = true) (ws : List Jvm.Cond) (G1 : Int32) (HG : own_G l Z a0 G1) (h0 : Heap) (n0 : Nat) (X00 : Old Z n0 h0) (x : Addr) (t : Addr) (kt : ClassId) (bs : List Value) (q : Addr) (hp0 : Exa Z h0 x "java/lang/String") (hp1 : Fld Z h0 x "java/lang/String" "coder" "B" (.int (0 : Int32))) (hp2 : Fld Z h0 x "java/lang/String" "value" "[B" (.ref t)) (hp3 : Arv Z h0 t kt .byte (4 : Int32) bs (.int (0 : Int32))) :
    own_CP l Z M343 prog_27_method_2_code 2 (some (.object "java/lang/String")) ws R_id_4_0 #[(.ref x), (.ref q)] h0 (Q_id_4_0 Z G1 x t kt bs q h0 n0) := by
  refine own_P (plainFor_of_name pn_344) ?_
  intro p e s m below meth c s₁ S0 Bd hZ hh hx hby hml hown hnm X0 e0 hS0d
  obtain ⟨O1, P1, OAD, OHI, OLO⟩ := id HG
  have N0 := Fr.nil n0
  have C0 : Steps p.tables e below S0 (s₁.setTop (mkF m 0 #[.val (.ref x), .val (.ref q)] [])) := by rw [hS0d]; exact castTop (ef_223 m x q) (Steps.refl _)
  obtain ⟨q_2, q_3, q_4, q_5, q_6⟩ := isOf (T := s₁) hZ e0 hp0
  obtain ⟨_, _, ⟨T_1, L_1, k_1, n_1⟩, -, X_1, ⟨Lc_1, hQ_1, l_1, y_1, z_1⟩, st_1⟩ := X0.virtualBack hx (y := M336) (z := M336) hown (mvT hZ (w53 hw)) (mvT hZ (w54 hw)) (notFace_of_selects (args := #[]) (mvT hZ (w56 hw))) (mvT hZ (w56 hw)) (mvT hZ (w55 hw)) (by decide) (backOf (W := 0) (rm_emp_4_0 l Z a0 hw [] G1 HG h0 n0 X00 x t kt bs hp0 hp1 hp2 hp3) hZ (w57 hw) (w7 hw) (by decide) (by decide)) q_4 q_6 (g := (mkF m 1 #[.val (.ref x), .val (.ref q)] [(.ref x)])) rfl (by rw [hml]; rfl) (Steps.refl _) (argsL := []) (rest := []) (lenOf pd_347 rfl) rfl (by show 2 * 0 + _ ≤ _; exact Nat.le_of_eq rfl) (hb hby d18_1) (fun _ _ => ⟨rfl, e0, (by decide : 0 + 0 ≤ _), (by decide : 0 + 0 ≤ _)⟩)
  dsimp only [Pt.U, Pt.locs, Pt.cells, Pt.slots] at X_1 l_1 y_1 z_1 st_1 hQ_1
  subst l_1 y_1 z_1
  obtain ⟨rfl, N_7, e_8⟩ := hQ_1
  have N_9 := Fr.app N0 N_7
  have e_10 : T_1.heap = h0 := e_8
  have C_11 : Steps p.tables e below S0 (T_1.setTop (mkF m 22 #[.val (.ref x), .val (.ref q)] [(.ref x)])) := by
    refine C0.trans ?_
    refine XS.aloadN X0.here hx rfl (hb hby d18_0) rfl rfl ?_
    refine st_1.trans ?_
    refine XS.ifYes X_1.here hx rfl (pc0 := 4) (pc' := 21) rfl (hb hby d18_4) rfl (by decide) (by decide) (by decide) ?_
    refine XS.aloadN X_1.here hx rfl (hb hby d18_21) rfl rfl ?_
    exact Steps.refl _
  obtain ⟨fs, hr, hrun, hended, hW, hsame⟩ := X_1.leave (v := some (.ref x)) (fun h => by rw [Bd.returns] at h; cases h)
  refine ⟨_, _, C_11.trans (retOut X_1 hx Bd.returns rfl (Or.inr (Or.inr (Or.inr (Or.inr ⟨rfl, rfl, rfl⟩)))) (hb hby d18_22) hr), hrun, hended, _, _, rfl, ?_, ⟨_, rfl⟩, hW, hsame.mono (by decide) (by decide)⟩
  show Q_id_4_0 Z G1 x t kt bs q h0 n0 (some (.ref x)) T_1.heap _
  rw [e_10]
  exact ⟨rfl, N_9, rfl⟩
abbrev R_len_4_1 : Room := { frames := 1, cells := 0, slots := 0, locals := 13 }
def Q_len_4_1 (Z : State) (G1 : Int32) (x : Addr) (t : Addr) (kt : ClassId) (bs : List Value) (h0 : Heap) (n0 : Nat) (v : Option Value) (h : Heap) (L : List Loc) : Prop := (v = some (.int (4 : Int32)) ∧ Fr n0 L ∧ h = h0)
set_option maxRecDepth 65536 in
set_option maxHeartbeats 40000000 in
theorem rm_len_4_1 (l : Launch) (Z : State) (a0 : Array Value) (hw : ∀ d ∈ tables_1, d.before a0 Z = true) (ws : List Jvm.Cond) (G1 : Int32) (HG : own_G l Z a0 G1) (h0 : Heap) (n0 : Nat) (X00 : Old Z n0 h0) (x : Addr) (t : Addr) (kt : ClassId) (bs : List Value) (hp0 : Exa Z h0 x "java/lang/String") (hp1 : Fld Z h0 x "java/lang/String" "coder" "B" (.int (1 : Int32))) (hp2 : Fld Z h0 x "java/lang/String" "value" "[B" (.ref t)) (hp3 : Arv Z h0 t kt .byte (8 : Int32) bs (.int (0 : Int32))) :
    own_CP l Z M322 jdk_42_method_54_code 1 (some .int) ws R_len_4_1 #[(.ref x)] h0 (Q_len_4_1 Z G1 x t kt bs h0 n0) := by
  refine own_P (plainFor_of_name pn_185) ?_
  intro p e s m below meth c s₁ S0 Bd hZ hh hx hby hml hown hnm X0 e0 hS0d
  obtain ⟨O1, P1, OAD, OHI, OLO⟩ := id HG
  have N0 := Fr.nil n0
  have C0 : Steps p.tables e below S0 (s₁.setTop (mkF m 0 #[.val (.ref x)] [])) := by rw [hS0d]; exact castTop (ef_315 m x) (Steps.refl _)
  obtain ⟨T_1, X_2, e_3, st_4⟩ := getF X0 hx hZ hown (host := "") (Or.inl (w33 hw)) Via.refl e0 hp2 (g := (mkF m 1 #[.val (.ref x)] [(.ref x)])) rfl rfl (hb hby d16_1)
  obtain ⟨c_5, A_6, q_7, S_8, M_9, H_10, U_11⟩ := id hp3
  obtain ⟨q_13, q_14, q_15, q_16, q_17⟩ := isOf (T := T_1) hZ e_3 hp0
  obtain ⟨_, _, ⟨T_12, L_12, k_12, n_12⟩, -, X_12, ⟨Lc_12, hQ_12, l_12, y_12, z_12⟩, st_12⟩ := X_2.virtualBack hx (y := M314) (z := M314) hown (mvT hZ (w63 hw)) (mvT hZ (w64 hw)) (notFace_of_selects (args := #[]) (mvT hZ (w66 hw))) (mvT hZ (w66 hw)) (mvT hZ (w65 hw)) (by decide) (backOf (W := 1) (rm_coder1 l Z a0 hw [] G1 HG h0 n0 X00 x hp1) hZ (w67 hw) (w7 hw) (by decide) (by decide)) q_15 q_17 (g := (mkF m 6 #[.val (.ref x)] [(.ref x), (.int (8 : Int32))])) rfl (by rw [hml]; rfl) (Steps.refl _) (argsL := []) (rest := [(.int (8 : Int32))]) (lenOf pd_328 rfl) rfl (by show 2 * 0 + _ ≤ _; exact Nat.le_of_eq rfl) (hb hby d16_6) (fun _ _ => ⟨rfl, e_3, (by decide : 0 + 0 ≤ _), (by decide : 0 + 0 ≤ _)⟩)
  dsimp only [Pt.U, Pt.locs, Pt.cells, Pt.slots] at X_12 l_12 y_12 z_12 st_12 hQ_12
  subst l_12 y_12 z_12
  obtain ⟨rfl, N_18, e_19⟩ := hQ_12
  have N_20 := Fr.app N0 N_18
  have e_21 : T_12.heap = h0 := e_19
  have C_22 : Steps p.tables e below S0 (T_12.setTop (mkF m 10 #[.val (.ref x)] [(.int (4 : Int32))])) := by
    refine C0.trans ?_
    refine XS.aloadN X0.here hx rfl (hb hby d16_0) rfl rfl ?_
    refine st_4 _ ?_
    refine X_2.arraylength hx (by rw [e_3]; exact A_6.1) (State.isArrayOf_alike hZ.alike A_6.2.1) (g := (mkF m 4 #[.val (.ref x)] [(.ref t)])) rfl rfl (hb hby d16_4) _ ?_
    rw [len_of S_8 M_9]
    refine XS.aloadN X_2.here hx rfl (hb hby d16_5) rfl rfl ?_
    refine st_12.trans ?_
    refine XS.ishr X_12.here hx rfl (hb hby d16_9) rfl ?_
    exact Steps.refl _
  obtain ⟨fs, hr, hrun, hended, hW, hsame⟩ := X_12.leave (v := some (.int (4 : Int32))) (fun h => by rw [Bd.returns] at h; cases h)
  refine ⟨_, _, C_22.trans (retOut X_12 hx Bd.returns rfl (Or.inl ⟨rfl, Or.inl rfl, _, rfl⟩) (hb hby d16_10) hr), hrun, hended, _, _, rfl, ?_, ⟨_, rfl⟩, hW, hsame.mono (by decide) (by decide)⟩
  show Q_len_4_1 Z G1 x t kt bs h0 n0 (some (.int (4 : Int32))) T_12.heap _
  rw [e_21]
  exact ⟨rfl, N_20, rfl⟩
abbrev R_emp_4_1 : Room := { frames := 0, cells := 0, slots := 0, locals := 0 }
def Q_emp_4_1 (Z : State) (G1 : Int32) (x : Addr) (t : Addr) (kt : ClassId) (bs : List Value) (h0 : Heap) (n0 : Nat) (v : Option Value) (h : Heap) (L : List Loc) : Prop := (v = some (.int (0 : Int32)) ∧ Fr n0 L ∧ h = h0)
set_option maxRecDepth 65536 in
set_option maxHeartbeats 40000000 in
theorem rm_emp_4_1 (l : Launch) (Z : State) (a0 : Array Value) (hw : ∀ d ∈ tables_1, d.before a0 Z = true) (ws : List Jvm.Cond) (G1 : Int32) (HG : own_G l Z a0 G1) (h0 : Heap) (n0 : Nat) (X00 : Old Z n0 h0) (x : Addr) (t : Addr) (kt : ClassId) (bs : List Value) (hp0 : Exa Z h0 x "java/lang/String") (hp1 : Fld Z h0 x "java/lang/String" "coder" "B" (.int (1 : Int32))) (hp2 : Fld Z h0 x "java/lang/String" "value" "[B" (.ref t)) (hp3 : Arv Z h0 t kt .byte (8 : Int32) bs (.int (0 : Int32))) :
    own_CP l Z M336 jdk_42_method_55_code 1 (some .boolean) ws R_emp_4_1 #[(.ref x)] h0 (Q_emp_4_1 Z G1 x t kt bs h0 n0) := by
  refine own_P (plainFor_of_name pn_185) ?_
  intro p e s m below meth c s₁ S0 Bd hZ hh hx hby hml hown hnm X0 e0 hS0d
  obtain ⟨O1, P1, OAD, OHI, OLO⟩ := id HG
  have N0 := Fr.nil n0
  have C0 : Steps p.tables e below S0 (s₁.setTop (mkF m 0 #[.val (.ref x)] [])) := by rw [hS0d]; exact castTop (ef_315 m x) (Steps.refl _)
  obtain ⟨T_1, X_2, e_3, st_4⟩ := getF X0 hx hZ hown (host := "") (Or.inl (w33 hw)) Via.refl e0 hp2 (g := (mkF m 1 #[.val (.ref x)] [(.ref x)])) rfl rfl (hb hby d17_1)
  obtain ⟨c_5, A_6, q_7, S_8, M_9, H_10, U_11⟩ := id hp3
  have C_12 : Steps p.tables e below S0 (T_1.setTop (mkF m 13 #[.val (.ref x)] [(.int (0 : Int32))])) := by
    refine C0.trans ?_
    refine XS.aloadN X0.here hx rfl (hb hby d17_0) rfl rfl ?_
    refine st_4 _ ?_
    refine X_2.arraylength hx (by rw [e_3]; exact A_6.1) (State.isArrayOf_alike hZ.alike A_6.2.1) (g := (mkF m 4 #[.val (.ref x)] [(.ref t)])) rfl rfl (hb hby d17_4) _ ?_
    rw [len_of S_8 M_9]
    refine XS.ifYes X_2.here hx rfl (pc0 := 5) (pc' := 12) rfl (hb hby d17_5) rfl (by decide) (by decide) (by decide) ?_
    refine XS.iconst X_2.here hx rfl (hb hby d17_12) ?_
    exact Steps.refl _
  obtain ⟨fs, hr, hrun, hended, hW, hsame⟩ := X_2.leave (v := some (.int (0 : Int32))) (fun h => by rw [Bd.returns] at h; cases h)
  refine ⟨_, _, C_12.trans (retN X_2 hx (t := .boolean) Bd.returns (by simp) (hb hby d17_13) hr), hrun, hended, _, _, rfl, ?_, ⟨_, rfl⟩, hW, hsame.mono (by decide) (by decide)⟩
  show Q_emp_4_1 Z G1 x t kt bs h0 n0 (some (.int (0 : Int32))) T_1.heap _
  rw [e_3]
  exact ⟨rfl, N0, rfl⟩
abbrev R_id_4_1 : Room := { frames := 1, cells := 0, slots := 0, locals := 12 }
def Q_id_4_1 (Z : State) (G1 : Int32) (x : Addr) (t : Addr) (kt : ClassId) (bs : List Value) (q : Addr) (h0 : Heap) (n0 : Nat) (v : Option Value) (h : Heap) (L : List Loc) : Prop := (v = some (.ref x) ∧ Fr n0 L ∧ h = h0)
set_option maxRecDepth 65536 in
set_option maxHeartbeats 40000000 in
theorem rm_id_4_1 (l : Launch) (Z : State) (a0 : Array Value) (hw : ∀ d ∈ tables_1, d.before a0 Z = true) (ws : List Jvm.Cond) (G1 : Int32) (HG : own_G l Z a0 G1) (h0 : Heap) (n0 : Nat) (X00 : Old Z n0 h0) (x : Addr) (t : Addr) (kt : ClassId) (bs : List Value) (q : Addr) (hp0 : Exa Z h0 x "java/lang/String") (hp1 : Fld Z h0 x "java/lang/String" "coder" "B" (.int (1 : Int32))) (hp2 : Fld Z h0 x "java/lang/String" "value" "[B" (.ref t)) (hp3 : Arv Z h0 t kt .byte (8 : Int32) bs (.int (0 : Int32))) :
    own_CP l Z M343 prog_27_method_2_code 2 (some (.object "java/lang/String")) ws R_id_4_1 #[(.ref x), (.ref q)] h0 (Q_id_4_1 Z G1 x t kt bs q h0 n0) := by
  refine own_P (plainFor_of_name pn_344) ?_
  intro p e s m below meth c s₁ S0 Bd hZ hh hx hby hml hown hnm X0 e0 hS0d
  obtain ⟨O1, P1, OAD, OHI, OLO⟩ := id HG
  have N0 := Fr.nil n0
  have C0 : Steps p.tables e below S0 (s₁.setTop (mkF m 0 #[.val (.ref x), .val (.ref q)] [])) := by rw [hS0d]; exact castTop (ef_223 m x q) (Steps.refl _)
  obtain ⟨q_2, q_3, q_4, q_5, q_6⟩ := isOf (T := s₁) hZ e0 hp0
  obtain ⟨_, _, ⟨T_1, L_1, k_1, n_1⟩, -, X_1, ⟨Lc_1, hQ_1, l_1, y_1, z_1⟩, st_1⟩ := X0.virtualBack hx (y := M336) (z := M336) hown (mvT hZ (w53 hw)) (mvT hZ (w54 hw)) (notFace_of_selects (args := #[]) (mvT hZ (w56 hw))) (mvT hZ (w56 hw)) (mvT hZ (w55 hw)) (by decide) (backOf (W := 0) (rm_emp_4_1 l Z a0 hw [] G1 HG h0 n0 X00 x t kt bs hp0 hp1 hp2 hp3) hZ (w57 hw) (w7 hw) (by decide) (by decide)) q_4 q_6 (g := (mkF m 1 #[.val (.ref x), .val (.ref q)] [(.ref x)])) rfl (by rw [hml]; rfl) (Steps.refl _) (argsL := []) (rest := []) (lenOf pd_347 rfl) rfl (by show 2 * 0 + _ ≤ _; exact Nat.le_of_eq rfl) (hb hby d18_1) (fun _ _ => ⟨rfl, e0, (by decide : 0 + 0 ≤ _), (by decide : 0 + 0 ≤ _)⟩)
  dsimp only [Pt.U, Pt.locs, Pt.cells, Pt.slots] at X_1 l_1 y_1 z_1 st_1 hQ_1
  subst l_1 y_1 z_1
  obtain ⟨rfl, N_7, e_8⟩ := hQ_1
  have N_9 := Fr.app N0 N_7
  have e_10 : T_1.heap = h0 := e_8
  have C_11 : Steps p.tables e below S0 (T_1.setTop (mkF m 22 #[.val (.ref x), .val (.ref q)] [(.ref x)])) := by
    refine C0.trans ?_
    refine XS.aloadN X0.here hx rfl (hb hby d18_0) rfl rfl ?_
    refine st_1.trans ?_
    refine XS.ifYes X_1.here hx rfl (pc0 := 4) (pc' := 21) rfl (hb hby d18_4) rfl (by decide) (by decide) (by decide) ?_
    refine XS.aloadN X_1.here hx rfl (hb hby d18_21) rfl rfl ?_
    exact Steps.refl _
  obtain ⟨fs, hr, hrun, hended, hW, hsame⟩ := X_1.leave (v := some (.ref x)) (fun h => by rw [Bd.returns] at h; cases h)
  refine ⟨_, _, C_11.trans (retOut X_1 hx Bd.returns rfl (Or.inr (Or.inr (Or.inr (Or.inr ⟨rfl, rfl, rfl⟩)))) (hb hby d18_22) hr), hrun, hended, _, _, rfl, ?_, ⟨_, rfl⟩, hW, hsame.mono (by decide) (by decide)⟩
  show Q_id_4_1 Z G1 x t kt bs q h0 n0 (some (.ref x)) T_1.heap _
  rw [e_10]
  exact ⟨rfl, N_9, rfl⟩
abbrev M356 : MethodName := ⟨"com/example/fleetyard/fleetyard/io/ValuesIdPinLaw", "text", "(IIIII)Ljava/lang/String;"⟩
theorem ef_357 (m : MethodId) (x0 : Int32) (x1 : Int32) (x2 : Int32) (x3 : Int32) (x4 : Int32) : entryFrame m #[(.int x0), (.int x1), (.int x2), (.int x3), (.int x4)] 10 = mkF m 0 #[.val (.int x0), .val (.int x1), .val (.int x2), .val (.int x3), .val (.int x4), .unset, .unset, .unset, .unset, .unset] [] := by first | (simp [entryFrame, mkF, argsToLocals, Value.category]; done) | rfl
theorem pn_358 : plainName "com/example/fleetyard/fleetyard/io/ValuesIdPinLaw" = true := by first | (simp [plainName, overriddenIn]; done) | decide +kernel
theorem d19_0 : decode method_2_code 0 = .ok (.iload_n 1, 1) := by decide +kernel
theorem w4 {Z : State} {a0 : Array Value} (hw : ∀ d ∈ tables_1, d.before a0 Z = true) : Jvm.Cond.before (Jvm.Cond.constant "com/example/fleetyard/fleetyard/io/ValuesIdPinLaw" (7 : Nat) (65535 : Int32)) a0 Z = true := hw _ (List.mem_of_getElem? (i := 4) rfl)
theorem d19_1 : decode method_2_code 1 = .ok (.ldc 7, 2) := by decide +kernel
theorem d19_3 : decode method_2_code 3 = .ok (.iand, 1) := by decide +kernel
theorem d19_4 : decode method_2_code 4 = .ok (.i2c, 1) := by decide +kernel
theorem d19_5 : decode method_2_code 5 = .ok (.istore 5, 2) := by decide +kernel
theorem d19_7 : decode method_2_code 7 = .ok (.iload_n 2, 1) := by decide +kernel
theorem d19_8 : decode method_2_code 8 = .ok (.ldc 7, 2) := by decide +kernel
theorem d19_10 : decode method_2_code 10 = .ok (.iand, 1) := by decide +kernel
theorem d19_11 : decode method_2_code 11 = .ok (.i2c, 1) := by decide +kernel
theorem d19_12 : decode method_2_code 12 = .ok (.istore 6, 2) := by decide +kernel
theorem d19_14 : decode method_2_code 14 = .ok (.iload_n 3, 1) := by decide +kernel
theorem d19_15 : decode method_2_code 15 = .ok (.ldc 7, 2) := by decide +kernel
theorem d19_17 : decode method_2_code 17 = .ok (.iand, 1) := by decide +kernel
theorem d19_18 : decode method_2_code 18 = .ok (.i2c, 1) := by decide +kernel
theorem d19_19 : decode method_2_code 19 = .ok (.istore 7, 2) := by decide +kernel
theorem d19_21 : decode method_2_code 21 = .ok (.iload 4, 2) := by decide +kernel
theorem d19_23 : decode method_2_code 23 = .ok (.ldc 7, 2) := by decide +kernel
theorem d19_25 : decode method_2_code 25 = .ok (.iand, 1) := by decide +kernel
theorem d19_26 : decode method_2_code 26 = .ok (.i2c, 1) := by decide +kernel
theorem d19_27 : decode method_2_code 27 = .ok (.istore 8, 2) := by decide +kernel
theorem d19_29 : decode method_2_code 29 = .ok (.iload_n 0, 1) := by decide +kernel
theorem d19_30 : decode method_2_code 30 = .ok (.iconst 3, 1) := by decide +kernel
theorem d19_31 : decode method_2_code 31 = .ok (.iand, 1) := by decide +kernel
theorem d19_32 : decode method_2_code 32 = .ok (.istore 9, 2) := by decide +kernel
theorem d19_34 : decode method_2_code 34 = .ok (.iload 9, 2) := by decide +kernel
theorem d19_36 : decode method_2_code 36 = .ok (.ifCond .ne 19, 3) := by decide +kernel
theorem w5 {Z : State} {a0 : Array Value} (hw : ∀ d ∈ tables_1, d.before a0 Z = true) : Jvm.Cond.before (Jvm.Cond.classLink "com/example/fleetyard/fleetyard/io/ValuesIdPinLaw" (8 : Nat) "java/lang/String") a0 Z = true := hw _ (List.mem_of_getElem? (i := 5) rfl)
theorem d19_39 : decode method_2_code 39 = .ok (.new 8, 3) := by decide +kernel
theorem d19_42 : decode method_2_code 42 = .ok (.dup, 1) := by decide +kernel
theorem d19_43 : decode method_2_code 43 = .ok (.iconst 1, 1) := by decide +kernel
theorem w8 {Z : State} {a0 : Array Value} (hw : ∀ d ∈ tables_1, d.before a0 Z = true) : Jvm.Cond.before (Jvm.Cond.arrayClass Jvm.ClassFile.FieldType.char) a0 Z = true := hw _ (List.mem_of_getElem? (i := 8) rfl)
theorem d19_44 : decode method_2_code 44 = .ok (.newarray .char, 2) := by decide +kernel
theorem d19_46 : decode method_2_code 46 = .ok (.dup, 1) := by decide +kernel
theorem d19_47 : decode method_2_code 47 = .ok (.iconst 0, 1) := by decide +kernel
theorem d19_48 : decode method_2_code 48 = .ok (.iload 5, 2) := by decide +kernel
theorem d19_50 : decode method_2_code 50 = .ok (.castore, 1) := by decide +kernel
theorem w11 {Z : State} {a0 : Array Value} (hw : ∀ d ∈ tables_1, d.before a0 Z = true) : Jvm.Cond.before (Jvm.Cond.code ({ cls := "java/lang/String", name := "<init>", desc := "([C)V" } : Jvm.MethodName) jdk_42_method_3_code (2 : Nat) (Option.none : Option Jvm.ClassFile.FieldType)) a0 Z = true := hw _ (List.mem_of_getElem? (i := 11) rfl)
theorem pd_397 : parseMethodDescriptor "([C)V" = some ⟨[(.array .char)], none⟩ := by decide +kernel
theorem d19_51 : decode method_2_code 51 = .ok (.invokespecial 10, 3) := by decide +kernel
theorem w9 {Z : State} {a0 : Array Value} (hw : ∀ d ∈ tables_1, d.before a0 Z = true) : Jvm.Cond.before (Jvm.Cond.methodLink "com/example/fleetyard/fleetyard/io/ValuesIdPinLaw" (10 : Nat) ({ cls := "java/lang/String", name := "<init>", desc := "([C)V" } : Jvm.MethodName)) a0 Z = true := hw _ (List.mem_of_getElem? (i := 9) rfl)
theorem w10 {Z : State} {a0 : Array Value} (hw : ∀ d ∈ tables_1, d.before a0 Z = true) : Jvm.Cond.before (Jvm.Cond.instanceMethod ({ cls := "java/lang/String", name := "<init>", desc := "([C)V" } : Jvm.MethodName)) a0 Z = true := hw _ (List.mem_of_getElem? (i := 10) rfl)
theorem d19_54 : decode method_2_code 54 = .ok (.areturn, 1) := by decide +kernel
abbrev R_text_0 : Room := { frames := 6, cells := 4, slots := 8, locals := 88 }
def Q_text_0 (Z : State) (G1 : Int32) (p0 : Int32) (p1 : Int32) (p2 : Int32) (p3 : Int32) (p4 : Int32) (h0 : Heap) (n0 : Nat) (v : Option Value) (h : Heap) (L : List Loc) : Prop := (∃ x : Addr, ∃ t : Addr, ∃ kt : ClassId, v = some (.ref x) ∧ Fr n0 L ∧ Keep h0 h [] ∧ (h0.size ≤ x) ∧ (Exa Z h x "java/lang/String") ∧ (Fld Z h x "java/lang/String" "coder" "B" (.int (0 : Int32))) ∧ (Fld Z h x "java/lang/String" "value" "[B" (.ref t)) ∧ (h0.size ≤ t) ∧ (Arv Z h t kt .byte (1 : Int32) [(.int (own_lo8 (own_cw p1)))] (.int (0 : Int32)))) ∨ (∃ x : Addr, ∃ t : Addr, ∃ kt : ClassId, v = some (.ref x) ∧ Fr n0 L ∧ Keep h0 h [] ∧ (h0.size ≤ x) ∧ (Exa Z h x "java/lang/String") ∧ (Fld Z h x "java/lang/String" "coder" "B" (.int (1 : Int32))) ∧ (Fld Z h x "java/lang/String" "value" "[B" (.ref t)) ∧ (h0.size ≤ t) ∧ (Arv Z h t kt .byte (2 : Int32) [(.int (own_lo8z (own_cw p1))), (.int (own_hi8 (own_cw p1)))] (.int (0 : Int32))))
set_option maxRecDepth 65536 in
set_option maxHeartbeats 40000000 in
theorem rm_text_0 (l : Launch) (Z : State) (a0 : Array Value) (hw : ∀ d ∈ tables_1, d.before a0 Z = true) (ws : List Jvm.Cond) (G1 : Int32) (HG : own_G l Z a0 G1) (h0 : Heap) (n0 : Nat) (X00 : Old Z n0 h0) (p0 : Int32) (p1 : Int32) (p2 : Int32) (p3 : Int32) (p4 : Int32) (hk : (p0 &&& (3 : Int32)) = (0 : Int32)) :
    own_CP l Z M356 method_2_code 10 (some (.object "java/lang/String")) ws R_text_0 #[(.int p0), (.int p1), (.int p2), (.int p3), (.int p4)] h0 (Q_text_0 Z G1 p0 p1 p2 p3 p4 h0 n0) := by
  refine own_P (plainFor_of_name pn_358) ?_
  intro p e s m below meth c s₁ S0 Bd hZ hh hx hby hml hown hnm X0 e0 hS0d
  obtain ⟨O1, P1, OAD, OHI, OLO⟩ := id HG
  have N0 := Fr.nil n0
  have C0 : Steps p.tables e below S0 (s₁.setTop (mkF m 0 #[.val (.int p0), .val (.int p1), .val (.int p2), .val (.int p3), .val (.int p4), .unset, .unset, .unset, .unset, .unset] [])) := by rw [hS0d]; exact castTop (ef_357 m p0 p1 p2 p3 p4) (Steps.refl _)
  obtain ⟨T_1, h_2, X_3, e_4, E_5, A_6, D_7, U_11, st_8⟩ := newO X0 hx hZ hown (w5 hw) (w6 hw) (w7 hw) e0 (g := (mkF m 39 #[.val (.int p0), .val (.int p1), .val (.int p2), .val (.int p3), .val (.int p4), .val (.int (own_cw p1)), .val (.int (own_cw p2)), .val (.int (own_cw p3)), .val (.int (own_cw p4)), .val (.int (p0 &&& (3 : Int32)))] [])) rfl (hb hby d19_39) (by decide) (by decide)
  obtain ⟨a_9, g_10⟩ : ∃ z, z = h0.size := ⟨_, rfl⟩
  rw [← g_10] at A_6 D_7 st_8 U_11
  obtain ⟨T_12, h_13, k_14, X_15, e_16, E_17, A_18, st_19⟩ := newP (aty := .char) X_3 hx hZ (w8 hw) e_4 (g := (mkF m 44 #[.val (.int p0), .val (.int p1), .val (.int p2), .val (.int p3), .val (.int p4), .val (.int (own_cw p1)), .val (.int (own_cw p2)), .val (.int (own_cw p3)), .val (.int (own_cw p4)), .val (.int (p0 &&& (3 : Int32)))] [(.int (1 : Int32)), (.ref a_9), (.ref a_9)])) rfl (hb hby d19_44) rfl (by decide : ¬ ((1 : Int32) < (0 : Int32))) (cap := 1) (by decide : (1 : Int32).toNatClampNeg ≤ 1) (by decide) (by decide) (by decide)
  obtain ⟨a_20, g_21⟩ : ∃ z, z = h_2.size := ⟨_, rfl⟩
  rw [← g_21] at A_18 st_19
  have V_23 : Arv Z h_13 a_20 k_14 .char (1 : Int32) [] (.int (0 : Int32)) := Arv.new A_18 (by decide : ¬ ((1 : Int32) < (0 : Int32)))
  have V_22 : Arv Z h_13 a_20 k_14 .char (1 : Int32) [(.int (0 : Int32))] (.int (0 : Int32)) := (V_23.pad (pad_rep [] (.int (0 : Int32)) 1))
  obtain ⟨c_24, A_25, q_26, S_27, M_28, H_29, U_30⟩ := id V_22
  have hin_37 : ¬ ((0 : Int32) < 0 ∨ c_24.slots.size ≤ (0 : Int32).toNatClampNeg) := inb_of S_27 ⟨(by decide : ¬ ((0 : Int32) < (0 : Int32))), (by decide : (0 : Int32) < (1 : Int32))⟩
  obtain ⟨T_31, h_32, X_33, e_34, W_35, st_36⟩ := stC X_15 hx hZ e_16 A_25 (j := (0 : Int32)) hin_37 (g := (mkF m 50 #[.val (.int p0), .val (.int p1), .val (.int p2), .val (.int p3), .val (.int p4), .val (.int (own_cw p1)), .val (.int (own_cw p2)), .val (.int (own_cw p3)), .val (.int (own_cw p4)), .val (.int (p0 &&& (3 : Int32)))] [(.int (own_cw p1)), (.int (0 : Int32)), (.ref a_20), (.ref a_20), (.ref a_9), (.ref a_9)])) rfl rfl (hb hby d19_50)
  have O_39 : Old Z n0 h_2 := (X00.ext E_5)
  have N_38 := Fr.snoc X_33 N0 (Nat.le_trans (own_n0 O_39) (Nat.le_of_eq g_21.symm))
  have V_40 : Arv Z h_32 a_20 k_14 .char (1 : Int32) [(.int (own_cw p1))] (.int (0 : Int32)) := by have q := Arv.set A_25 q_26 S_27 M_28 H_29 U_30 (fits_nar_char _) W_35 0 rfl (Nat.le_of_ble_eq_true rfl); rw [own_cw_nar] at q; exact q
  have E_41 : Exa Z h_32 a_9 "java/lang/String" := ((A_6.ext E_17).wr W_35)
  have F_42 : Fld Z h_32 a_9 "java/lang/String" "value" "[B" .null := (((D_7 (Or.inr (w34 hw)) (ty := (.array .byte)) (by decide)).ext E_17).other W_35 (Or.inl (Nat.ne_of_lt (Nat.lt_of_lt_of_le A_6.lt (Nat.le_trans (Nat.le_refl _) (Nat.le_of_eq g_21.symm))))))
  have F_43 : Fld Z h_32 a_9 "java/lang/String" "coder" "B" (.int (0 : Int32)) := (((D_7 (Or.inr (w32 hw)) (ty := .byte) (by decide)).ext E_17).other W_35 (Or.inl (Nat.ne_of_lt (Nat.lt_of_lt_of_le A_6.lt (Nat.le_trans (Nat.le_refl _) (Nat.le_of_eq g_21.symm))))))
  have O_44 : Old Z n0 h_32 := ((O_39.ext E_17).wr W_35 (Nat.le_trans (own_n0 O_39) (Nat.le_of_eq g_21.symm)))
  obtain ⟨_, _, ⟨T_45, L_45, k_45, n_45⟩, -, X_45, ⟨Lc_45, hQ_45, l_45, y_45, z_45⟩, st_45⟩ := X_33.specialBack hx (y := M222) rfl hown (mvT hZ (w9 hw)) (mvT hZ (w10 hw)) (mvT hZ (w11 hw)) (by decide) (backOf (W := 1) (rm_si1u_1 l Z a0 hw [] G1 HG h_32 n0 O_44 a_9 a_20 k_14 (own_cw p1) E_41 F_42 F_43 (Nat.le_trans (own_n0 X00) (Nat.le_of_eq g_10.symm)) V_40 (own_cw_lo p1) (own_cw_hi p1)) hZ (w11 hw) (w7 hw) (by decide) (by decide)) (g := (mkF m 51 #[.val (.int p0), .val (.int p1), .val (.int p2), .val (.int p3), .val (.int p4), .val (.int (own_cw p1)), .val (.int (own_cw p2)), .val (.int (own_cw p3)), .val (.int (own_cw p4)), .val (.int (p0 &&& (3 : Int32)))] [(.ref a_20), (.ref a_9), (.ref a_9)])) rfl (by rw [hml]; rfl) (Steps.refl _) (a := a_9) (argsL := [(.ref a_20)]) (rest := [(.ref a_9)]) (lenOf pd_397 rfl) rfl (by show 2 * 0 + _ ≤ _; exact Nat.le_of_eq rfl) (hb hby d19_51) (fun _ _ => ⟨rfl, e_34, (by decide : 2 + 2 ≤ _), (by decide : 5 + 3 ≤ _)⟩)
  dsimp only [Pt.U, Pt.locs, Pt.cells, Pt.slots] at X_45 l_45 y_45 z_45 st_45 hQ_45
  subst l_45 y_45 z_45
  have C_46 : Steps p.tables e below S0 (T_31.setTop (mkF m 51 #[.val (.int p0), .val (.int p1), .val (.int p2), .val (.int p3), .val (.int p4), .val (.int (own_cw p1)), .val (.int (own_cw p2)), .val (.int (own_cw p3)), .val (.int (own_cw p4)), .val (.int (p0 &&& (3 : Int32)))] [(.ref a_20), (.ref a_9), (.ref a_9)])) := by
    refine C0.trans ?_
    refine XS.iloadN X0.here hx rfl (hb hby d19_0) rfl ?_
    refine X0.ldcI hx hown (mvT hZ (w4 hw)) rfl (hb hby d19_1) ?_
    refine XS.iand X0.here hx rfl (hb hby d19_3) rfl ?_
    refine XS.i2c X0.here hx rfl (hb hby d19_4) rfl ?_
    refine XS.istore X0.here hx rfl (hb hby d19_5) rfl (l' := #[.val (.int p0), .val (.int p1), .val (.int p2), .val (.int p3), .val (.int p4), .val (.int (own_cw p1)), .unset, .unset, .unset, .unset]) rfl ?_
    refine XS.iloadN X0.here hx rfl (hb hby d19_7) rfl ?_
    refine X0.ldcI hx hown (mvT hZ (w4 hw)) rfl (hb hby d19_8) ?_
    refine XS.iand X0.here hx rfl (hb hby d19_10) rfl ?_
    show Steps p.tables e below (s₁.setTop (mkF m 11 #[.val (.int p0), .val (.int p1), .val (.int p2), .val (.int p3), .val (.int p4), .val (.int (own_cw p1)), .unset, .unset, .unset, .unset] [(.int (p2 &&& (65535 : Int32)))])) _
    refine XS.i2c X0.here hx rfl (hb hby d19_11) rfl ?_
    refine XS.istore X0.here hx rfl (hb hby d19_12) rfl (l' := #[.val (.int p0), .val (.int p1), .val (.int p2), .val (.int p3), .val (.int p4), .val (.int (own_cw p1)), .val (.int (own_cw p2)), .unset, .unset, .unset]) rfl ?_
    refine XS.iloadN X0.here hx rfl (hb hby d19_14) rfl ?_
    refine X0.ldcI hx hown (mvT hZ (w4 hw)) rfl (hb hby d19_15) ?_
    refine XS.iand X0.here hx rfl (hb hby d19_17) rfl ?_
    refine XS.i2c X0.here hx rfl (hb hby d19_18) rfl ?_
    refine XS.istore X0.here hx rfl (hb hby d19_19) rfl (l' := #[.val (.int p0), .val (.int p1), .val (.int p2), .val (.int p3), .val (.int p4), .val (.int (own_cw p1)), .val (.int (own_cw p2)), .val (.int (own_cw p3)), .unset, .unset]) rfl ?_
    refine XS.iload X0.here hx rfl (hb hby d19_21) rfl ?_
    show Steps p.tables e below (s₁.setTop (mkF m 23 #[.val (.int p0), .val (.int p1), .val (.int p2), .val (.int p3), .val (.int p4), .val (.int (own_cw p1)), .val (.int (own_cw p2)), .val (.int (own_cw p3)), .unset, .unset] [(.int p4)])) _
    refine X0.ldcI hx hown (mvT hZ (w4 hw)) rfl (hb hby d19_23) ?_
    refine XS.iand X0.here hx rfl (hb hby d19_25) rfl ?_
    refine XS.i2c X0.here hx rfl (hb hby d19_26) rfl ?_
    refine XS.istore X0.here hx rfl (hb hby d19_27) rfl (l' := #[.val (.int p0), .val (.int p1), .val (.int p2), .val (.int p3), .val (.int p4), .val (.int (own_cw p1)), .val (.int (own_cw p2)), .val (.int (own_cw p3)), .val (.int (own_cw p4)), .unset]) rfl ?_
    refine XS.iloadN X0.here hx rfl (hb hby d19_29) rfl ?_
    refine XS.iconst X0.here hx rfl (hb hby d19_30) ?_
    refine XS.iand X0.here hx rfl (hb hby d19_31) rfl ?_
    refine XS.istore X0.here hx rfl (hb hby d19_32) rfl (l' := #[.val (.int p0), .val (.int p1), .val (.int p2), .val (.int p3), .val (.int p4), .val (.int (own_cw p1)), .val (.int (own_cw p2)), .val (.int (own_cw p3)), .val (.int (own_cw p4)), .val (.int (p0 &&& (3 : Int32)))]) rfl ?_
    show Steps p.tables e below (s₁.setTop (mkF m 34 #[.val (.int p0), .val (.int p1), .val (.int p2), .val (.int p3), .val (.int p4), .val (.int (own_cw p1)), .val (.int (own_cw p2)), .val (.int (own_cw p3)), .val (.int (own_cw p4)), .val (.int (p0 &&& (3 : Int32)))] [])) _
    refine XS.iload X0.here hx rfl (hb hby d19_34) rfl ?_
    refine XS.ifNo X0.here hx rfl (hb hby d19_36) rfl (i0_ne_f hk) ?_
    refine st_8 _ ?_
    refine XS.dup X_3.here hx rfl (hb hby d19_42) rfl rfl ?_
    refine XS.iconst X_3.here hx rfl (hb hby d19_43) ?_
    refine st_19 _ ?_
    refine XS.dup X_15.here hx rfl (hb hby d19_46) rfl rfl ?_
    refine XS.iconst X_15.here hx rfl (hb hby d19_47) ?_
    show Steps p.tables e below (T_12.setTop (mkF m 48 #[.val (.int p0), .val (.int p1), .val (.int p2), .val (.int p3), .val (.int p4), .val (.int (own_cw p1)), .val (.int (own_cw p2)), .val (.int (own_cw p3)), .val (.int (own_cw p4)), .val (.int (p0 &&& (3 : Int32)))] [(.int (0 : Int32)), (.ref a_20), (.ref a_20), (.ref a_9), (.ref a_9)])) _
    refine XS.iload X_15.here hx rfl (hb hby d19_48) rfl ?_
    refine st_36 _ ?_
    exact Steps.refl _
  rcases hQ_45 with hQ_47 | hQ_48
  · skip
    obtain ⟨a_49, k_50, rfl, N_51, K_52, g_53, g_54, g_55, g_56, g_57⟩ := hQ_47
    have N_58 := Fr.app N_38 N_51
    have C_59 : Steps p.tables e below S0 (T_45.setTop (mkF m 54 #[.val (.int p0), .val (.int p1), .val (.int p2), .val (.int p3), .val (.int p4), .val (.int (own_cw p1)), .val (.int (own_cw p2)), .val (.int (own_cw p3)), .val (.int (own_cw p4)), .val (.int (p0 &&& (3 : Int32)))] [(.ref a_9)])) := by
      refine C_46.trans ?_
      refine st_45.trans ?_
      exact Steps.refl _
    have K_60 : Keep h0 T_45.heap [] := (((((Keep.refl _ _).ext E_5).ext E_17).wr W_35 (Or.inr (Nat.le_trans E_5.1 (Nat.le_of_eq g_21.symm)))).trans K_52 (allS (Or.inr (Nat.le_trans (Nat.le_refl _) (Nat.le_of_eq g_10.symm))) all0))
    obtain ⟨fs, hr, hrun, hended, hW, hsame⟩ := X_45.leave (v := some (.ref a_9)) (fun h => by rw [Bd.returns] at h; cases h)
    refine ⟨_, _, C_59.trans (retOut X_45 hx Bd.returns rfl (Or.inr (Or.inr (Or.inr (Or.inr ⟨rfl, rfl, rfl⟩)))) (hb hby d19_54) hr), hrun, hended, _, _, rfl, ?_, ⟨_, rfl⟩, hW, hsame.mono (by decide) (by decide)⟩
    show Q_text_0 Z G1 p0 p1 p2 p3 p4 h0 n0 (some (.ref a_9)) T_45.heap _
    exact Or.inl ⟨a_9, a_49, k_50, rfl, N_58, K_60, (Nat.le_trans (Nat.le_refl _) (Nat.le_of_eq g_10.symm)), g_53, g_54, g_55, (Nat.le_trans (Nat.le_trans (Nat.le_trans E_5.1 E_17.1) (Keep.of_wr W_35).1) g_56), g_57⟩
  · skip
    obtain ⟨a_61, k_62, rfl, N_63, K_64, g_65, g_66, g_67, g_68, g_69⟩ := hQ_48
    have N_70 := Fr.app N_38 N_63
    have C_71 : Steps p.tables e below S0 (T_45.setTop (mkF m 54 #[.val (.int p0), .val (.int p1), .val (.int p2), .val (.int p3), .val (.int p4), .val (.int (own_cw p1)), .val (.int (own_cw p2)), .val (.int (own_cw p3)), .val (.int (own_cw p4)), .val (.int (p0 &&& (3 : Int32)))] [(.ref a_9)])) := by
      refine C_46.trans ?_
      refine st_45.trans ?_
      exact Steps.refl _
    have K_72 : Keep h0 T_45.heap [] := (((((Keep.refl _ _).ext E_5).ext E_17).wr W_35 (Or.inr (Nat.le_trans E_5.1 (Nat.le_of_eq g_21.symm)))).trans K_64 (allS (Or.inr (Nat.le_trans (Nat.le_refl _) (Nat.le_of_eq g_10.symm))) all0))
    obtain ⟨fs, hr, hrun, hended, hW, hsame⟩ := X_45.leave (v := some (.ref a_9)) (fun h => by rw [Bd.returns] at h; cases h)
    refine ⟨_, _, C_71.trans (retOut X_45 hx Bd.returns rfl (Or.inr (Or.inr (Or.inr (Or.inr ⟨rfl, rfl, rfl⟩)))) (hb hby d19_54) hr), hrun, hended, _, _, rfl, ?_, ⟨_, rfl⟩, hW, hsame.mono (by decide) (by decide)⟩
    show Q_text_0 Z G1 p0 p1 p2 p3 p4 h0 n0 (some (.ref a_9)) T_45.heap _
    exact Or.inr (⟨a_9, a_61, k_62, rfl, N_70, K_72, (Nat.le_trans (Nat.le_refl _) (Nat.le_of_eq g_10.symm)), g_65, g_66, g_67, (Nat.le_trans (Nat.le_trans (Nat.le_trans E_5.1 E_17.1) (Keep.of_wr W_35).1) g_68), g_69⟩)
theorem d19_55 : decode method_2_code 55 = .ok (.iload 9, 2) := by decide +kernel
theorem d19_57 : decode method_2_code 57 = .ok (.iconst 1, 1) := by decide +kernel
theorem d19_58 : decode method_2_code 58 = .ok (.if_icmp .ne 24, 3) := by decide +kernel
theorem d19_61 : decode method_2_code 61 = .ok (.new 8, 3) := by decide +kernel
theorem d19_64 : decode method_2_code 64 = .ok (.dup, 1) := by decide +kernel
theorem d19_65 : decode method_2_code 65 = .ok (.iconst 2, 1) := by decide +kernel
theorem d19_66 : decode method_2_code 66 = .ok (.newarray .char, 2) := by decide +kernel
theorem d19_68 : decode method_2_code 68 = .ok (.dup, 1) := by decide +kernel
theorem d19_69 : decode method_2_code 69 = .ok (.iconst 0, 1) := by decide +kernel
theorem d19_70 : decode method_2_code 70 = .ok (.iload 5, 2) := by decide +kernel
theorem d19_72 : decode method_2_code 72 = .ok (.castore, 1) := by decide +kernel
theorem d19_73 : decode method_2_code 73 = .ok (.dup, 1) := by decide +kernel
theorem d19_74 : decode method_2_code 74 = .ok (.iconst 1, 1) := by decide +kernel
theorem d19_75 : decode method_2_code 75 = .ok (.iload 6, 2) := by decide +kernel
theorem d19_77 : decode method_2_code 77 = .ok (.castore, 1) := by decide +kernel
theorem d19_78 : decode method_2_code 78 = .ok (.invokespecial 10, 3) := by decide +kernel
theorem d19_81 : decode method_2_code 81 = .ok (.areturn, 1) := by decide +kernel
abbrev R_text_1 : Room := { frames := 6, cells := 4, slots := 12, locals := 88 }
def Q_text_1 (Z : State) (G1 : Int32) (p0 : Int32) (p1 : Int32) (p2 : Int32) (p3 : Int32) (p4 : Int32) (h0 : Heap) (n0 : Nat) (v : Option Value) (h : Heap) (L : List Loc) : Prop := (∃ x : Addr, ∃ t : Addr, ∃ kt : ClassId, v = some (.ref x) ∧ Fr n0 L ∧ Keep h0 h [] ∧ (h0.size ≤ x) ∧ (Exa Z h x "java/lang/String") ∧ (Fld Z h x "java/lang/String" "coder" "B" (.int (0 : Int32))) ∧ (Fld Z h x "java/lang/String" "value" "[B" (.ref t)) ∧ (h0.size ≤ t) ∧ (Arv Z h t kt .byte (2 : Int32) [(.int (own_lo8 (own_cw p1))), (.int (own_lo8 (own_cw p2)))] (.int (0 : Int32)))) ∨ (∃ x : Addr, ∃ t : Addr, ∃ kt : ClassId, v = some (.ref x) ∧ Fr n0 L ∧ Keep h0 h [] ∧ (h0.size ≤ x) ∧ (Exa Z h x "java/lang/String") ∧ (Fld Z h x "java/lang/String" "coder" "B" (.int (1 : Int32))) ∧ (Fld Z h x "java/lang/String" "value" "[B" (.ref t)) ∧ (h0.size ≤ t) ∧ (Arv Z h t kt .byte (4 : Int32) [(.int (own_lo8z (own_cw p1))), (.int (own_hi8 (own_cw p1))), (.int (own_lo8z (own_cw p2))), (.int (own_hi8 (own_cw p2)))] (.int (0 : Int32))))
set_option maxRecDepth 65536 in
set_option maxHeartbeats 40000000 in
theorem rm_text_1 (l : Launch) (Z : State) (a0 : Array Value) (hw : ∀ d ∈ tables_1, d.before a0 Z = true) (ws : List Jvm.Cond) (G1 : Int32) (HG : own_G l Z a0 G1) (h0 : Heap) (n0 : Nat) (X00 : Old Z n0 h0) (p0 : Int32) (p1 : Int32) (p2 : Int32) (p3 : Int32) (p4 : Int32) (hk0 : ¬ ((p0 &&& (3 : Int32)) = (0 : Int32))) (hk : (p0 &&& (3 : Int32)) = (1 : Int32)) :
    own_CP l Z M356 method_2_code 10 (some (.object "java/lang/String")) ws R_text_1 #[(.int p0), (.int p1), (.int p2), (.int p3), (.int p4)] h0 (Q_text_1 Z G1 p0 p1 p2 p3 p4 h0 n0) := by
  refine own_P (plainFor_of_name pn_358) ?_
  intro p e s m below meth c s₁ S0 Bd hZ hh hx hby hml hown hnm X0 e0 hS0d
  obtain ⟨O1, P1, OAD, OHI, OLO⟩ := id HG
  have N0 := Fr.nil n0
  have C0 : Steps p.tables e below S0 (s₁.setTop (mkF m 0 #[.val (.int p0), .val (.int p1), .val (.int p2), .val (.int p3), .val (.int p4), .unset, .unset, .unset, .unset, .unset] [])) := by rw [hS0d]; exact castTop (ef_357 m p0 p1 p2 p3 p4) (Steps.refl _)
  obtain ⟨T_1, h_2, X_3, e_4, E_5, A_6, D_7, U_11, st_8⟩ := newO X0 hx hZ hown (w5 hw) (w6 hw) (w7 hw) e0 (g := (mkF m 61 #[.val (.int p0), .val (.int p1), .val (.int p2), .val (.int p3), .val (.int p4), .val (.int (own_cw p1)), .val (.int (own_cw p2)), .val (.int (own_cw p3)), .val (.int (own_cw p4)), .val (.int (p0 &&& (3 : Int32)))] [])) rfl (hb hby d19_61) (by decide) (by decide)
  obtain ⟨a_9, g_10⟩ : ∃ z, z = h0.size := ⟨_, rfl⟩
  rw [← g_10] at A_6 D_7 st_8 U_11
  obtain ⟨T_12, h_13, k_14, X_15, e_16, E_17, A_18, st_19⟩ := newP (aty := .char) X_3 hx hZ (w8 hw) e_4 (g := (mkF m 66 #[.val (.int p0), .val (.int p1), .val (.int p2), .val (.int p3), .val (.int p4), .val (.int (own_cw p1)), .val (.int (own_cw p2)), .val (.int (own_cw p3)), .val (.int (own_cw p4)), .val (.int (p0 &&& (3 : Int32)))] [(.int (2 : Int32)), (.ref a_9), (.ref a_9)])) rfl (hb hby d19_66) rfl (by decide : ¬ ((2 : Int32) < (0 : Int32))) (cap := 2) (by decide : (2 : Int32).toNatClampNeg ≤ 2) (by decide) (by decide) (by decide)
  obtain ⟨a_20, g_21⟩ : ∃ z, z = h_2.size := ⟨_, rfl⟩
  rw [← g_21] at A_18 st_19
  have V_23 : Arv Z h_13 a_20 k_14 .char (2 : Int32) [] (.int (0 : Int32)) := Arv.new A_18 (by decide : ¬ ((2 : Int32) < (0 : Int32)))
  have V_22 : Arv Z h_13 a_20 k_14 .char (2 : Int32) [(.int (0 : Int32)), (.int (0 : Int32))] (.int (0 : Int32)) := (V_23.pad (pad_rep [] (.int (0 : Int32)) 2))
  obtain ⟨c_24, A_25, q_26, S_27, M_28, H_29, U_30⟩ := id V_22
  have hin_37 : ¬ ((0 : Int32) < 0 ∨ c_24.slots.size ≤ (0 : Int32).toNatClampNeg) := inb_of S_27 ⟨(by decide : ¬ ((0 : Int32) < (0 : Int32))), (by decide : (0 : Int32) < (2 : Int32))⟩
  obtain ⟨T_31, h_32, X_33, e_34, W_35, st_36⟩ := stC X_15 hx hZ e_16 A_25 (j := (0 : Int32)) hin_37 (g := (mkF m 72 #[.val (.int p0), .val (.int p1), .val (.int p2), .val (.int p3), .val (.int p4), .val (.int (own_cw p1)), .val (.int (own_cw p2)), .val (.int (own_cw p3)), .val (.int (own_cw p4)), .val (.int (p0 &&& (3 : Int32)))] [(.int (own_cw p1)), (.int (0 : Int32)), (.ref a_20), (.ref a_20), (.ref a_9), (.ref a_9)])) rfl rfl (hb hby d19_72)
  have O_39 : Old Z n0 h_2 := (X00.ext E_5)
  have N_38 := Fr.snoc X_33 N0 (Nat.le_trans (own_n0 O_39) (Nat.le_of_eq g_21.symm))
  have V_40 : Arv Z h_32 a_20 k_14 .char (2 : Int32) [(.int (own_cw p1)), (.int (0 : Int32))] (.int (0 : Int32)) := by have q := Arv.set A_25 q_26 S_27 M_28 H_29 U_30 (fits_nar_char _) W_35 0 rfl (Nat.le_of_ble_eq_true rfl); rw [own_cw_nar] at q; exact q
  obtain ⟨c_41, A_42, q_43, S_44, M_45, H_46, U_47⟩ := id V_40
  have hin_54 : ¬ ((1 : Int32) < 0 ∨ c_41.slots.size ≤ (1 : Int32).toNatClampNeg) := inb_of S_44 ⟨(by decide : ¬ ((1 : Int32) < (0 : Int32))), (by decide : (1 : Int32) < (2 : Int32))⟩
  obtain ⟨T_48, h_49, X_50, e_51, W_52, st_53⟩ := stC X_33 hx hZ e_34 A_42 (j := (1 : Int32)) hin_54 (g := (mkF m 77 #[.val (.int p0), .val (.int p1), .val (.int p2), .val (.int p3), .val (.int p4), .val (.int (own_cw p1)), .val (.int (own_cw p2)), .val (.int (own_cw p3)), .val (.int (own_cw p4)), .val (.int (p0 &&& (3 : Int32)))] [(.int (own_cw p2)), (.int (1 : Int32)), (.ref a_20), (.ref a_20), (.ref a_9), (.ref a_9)])) rfl rfl (hb hby d19_77)
  have N_55 := Fr.snoc X_50 N_38 (Nat.le_trans (own_n0 O_39) (Nat.le_of_eq g_21.symm))
  have V_56 : Arv Z h_49 a_20 k_14 .char (2 : Int32) [(.int (own_cw p1)), (.int (own_cw p2))] (.int (0 : Int32)) := by have q := Arv.set A_42 q_43 S_44 M_45 H_46 U_47 (fits_nar_char _) W_52 1 rfl (Nat.le_of_ble_eq_true rfl); rw [own_cw_nar] at q; exact q
  have E_57 : Exa Z h_49 a_9 "java/lang/String" := (((A_6.ext E_17).wr W_35).wr W_52)
  have F_58 : Fld Z h_49 a_9 "java/lang/String" "value" "[B" .null := ((((D_7 (Or.inr (w34 hw)) (ty := (.array .byte)) (by decide)).ext E_17).other W_35 (Or.inl (Nat.ne_of_lt (Nat.lt_of_lt_of_le A_6.lt (Nat.le_trans (Nat.le_refl _) (Nat.le_of_eq g_21.symm)))))).other W_52 (Or.inl (Nat.ne_of_lt (Nat.lt_of_lt_of_le A_6.lt (Nat.le_trans (Nat.le_refl _) (Nat.le_of_eq g_21.symm))))))
  have F_59 : Fld Z h_49 a_9 "java/lang/String" "coder" "B" (.int (0 : Int32)) := ((((D_7 (Or.inr (w32 hw)) (ty := .byte) (by decide)).ext E_17).other W_35 (Or.inl (Nat.ne_of_lt (Nat.lt_of_lt_of_le A_6.lt (Nat.le_trans (Nat.le_refl _) (Nat.le_of_eq g_21.symm)))))).other W_52 (Or.inl (Nat.ne_of_lt (Nat.lt_of_lt_of_le A_6.lt (Nat.le_trans (Nat.le_refl _) (Nat.le_of_eq g_21.symm))))))
  have O_60 : Old Z n0 h_49 := (((O_39.ext E_17).wr W_35 (Nat.le_trans (own_n0 O_39) (Nat.le_of_eq g_21.symm))).wr W_52 (Nat.le_trans (own_n0 O_39) (Nat.le_of_eq g_21.symm)))
  obtain ⟨_, _, ⟨T_61, L_61, k_61, n_61⟩, -, X_61, ⟨Lc_61, hQ_61, l_61, y_61, z_61⟩, st_61⟩ := X_50.specialBack hx (y := M222) rfl hown (mvT hZ (w9 hw)) (mvT hZ (w10 hw)) (mvT hZ (w11 hw)) (by decide) (backOf (W := 1) (rm_si1u_2 l Z a0 hw [] G1 HG h_49 n0 O_60 a_9 a_20 k_14 (own_cw p1) (own_cw p2) E_57 F_58 F_59 (Nat.le_trans (own_n0 X00) (Nat.le_of_eq g_10.symm)) V_56 (own_cw_lo p1) (own_cw_lo p2) (own_cw_hi p1) (own_cw_hi p2)) hZ (w11 hw) (w7 hw) (by decide) (by decide)) (g := (mkF m 78 #[.val (.int p0), .val (.int p1), .val (.int p2), .val (.int p3), .val (.int p4), .val (.int (own_cw p1)), .val (.int (own_cw p2)), .val (.int (own_cw p3)), .val (.int (own_cw p4)), .val (.int (p0 &&& (3 : Int32)))] [(.ref a_20), (.ref a_9), (.ref a_9)])) rfl (by rw [hml]; rfl) (Steps.refl _) (a := a_9) (argsL := [(.ref a_20)]) (rest := [(.ref a_9)]) (lenOf pd_397 rfl) rfl (by show 2 * 0 + _ ≤ _; exact Nat.le_of_eq rfl) (hb hby d19_78) (fun _ _ => ⟨rfl, e_51, (by decide : 2 + 2 ≤ _), (by decide : 6 + 6 ≤ _)⟩)
  dsimp only [Pt.U, Pt.locs, Pt.cells, Pt.slots] at X_61 l_61 y_61 z_61 st_61 hQ_61
  subst l_61 y_61 z_61
  have C_62 : Steps p.tables e below S0 (T_48.setTop (mkF m 78 #[.val (.int p0), .val (.int p1), .val (.int p2), .val (.int p3), .val (.int p4), .val (.int (own_cw p1)), .val (.int (own_cw p2)), .val (.int (own_cw p3)), .val (.int (own_cw p4)), .val (.int (p0 &&& (3 : Int32)))] [(.ref a_20), (.ref a_9), (.ref a_9)])) := by
    refine C0.trans ?_
    refine XS.iloadN X0.here hx rfl (hb hby d19_0) rfl ?_
    refine X0.ldcI hx hown (mvT hZ (w4 hw)) rfl (hb hby d19_1) ?_
    refine XS.iand X0.here hx rfl (hb hby d19_3) rfl ?_
    refine XS.i2c X0.here hx rfl (hb hby d19_4) rfl ?_
    refine XS.istore X0.here hx rfl (hb hby d19_5) rfl (l' := #[.val (.int p0), .val (.int p1), .val (.int p2), .val (.int p3), .val (.int p4), .val (.int (own_cw p1)), .unset, .unset, .unset, .unset]) rfl ?_
    refine XS.iloadN X0.here hx rfl (hb hby d19_7) rfl ?_
    refine X0.ldcI hx hown (mvT hZ (w4 hw)) rfl (hb hby d19_8) ?_
    refine XS.iand X0.here hx rfl (hb hby d19_10) rfl ?_
    show Steps p.tables e below (s₁.setTop (mkF m 11 #[.val (.int p0), .val (.int p1), .val (.int p2), .val (.int p3), .val (.int p4), .val (.int (own_cw p1)), .unset, .unset, .unset, .unset] [(.int (p2 &&& (65535 : Int32)))])) _
    refine XS.i2c X0.here hx rfl (hb hby d19_11) rfl ?_
    refine XS.istore X0.here hx rfl (hb hby d19_12) rfl (l' := #[.val (.int p0), .val (.int p1), .val (.int p2), .val (.int p3), .val (.int p4), .val (.int (own_cw p1)), .val (.int (own_cw p2)), .unset, .unset, .unset]) rfl ?_
    refine XS.iloadN X0.here hx rfl (hb hby d19_14) rfl ?_
    refine X0.ldcI hx hown (mvT hZ (w4 hw)) rfl (hb hby d19_15) ?_
    refine XS.iand X0.here hx rfl (hb hby d19_17) rfl ?_
    refine XS.i2c X0.here hx rfl (hb hby d19_18) rfl ?_
    refine XS.istore X0.here hx rfl (hb hby d19_19) rfl (l' := #[.val (.int p0), .val (.int p1), .val (.int p2), .val (.int p3), .val (.int p4), .val (.int (own_cw p1)), .val (.int (own_cw p2)), .val (.int (own_cw p3)), .unset, .unset]) rfl ?_
    refine XS.iload X0.here hx rfl (hb hby d19_21) rfl ?_
    show Steps p.tables e below (s₁.setTop (mkF m 23 #[.val (.int p0), .val (.int p1), .val (.int p2), .val (.int p3), .val (.int p4), .val (.int (own_cw p1)), .val (.int (own_cw p2)), .val (.int (own_cw p3)), .unset, .unset] [(.int p4)])) _
    refine X0.ldcI hx hown (mvT hZ (w4 hw)) rfl (hb hby d19_23) ?_
    refine XS.iand X0.here hx rfl (hb hby d19_25) rfl ?_
    refine XS.i2c X0.here hx rfl (hb hby d19_26) rfl ?_
    refine XS.istore X0.here hx rfl (hb hby d19_27) rfl (l' := #[.val (.int p0), .val (.int p1), .val (.int p2), .val (.int p3), .val (.int p4), .val (.int (own_cw p1)), .val (.int (own_cw p2)), .val (.int (own_cw p3)), .val (.int (own_cw p4)), .unset]) rfl ?_
    refine XS.iloadN X0.here hx rfl (hb hby d19_29) rfl ?_
    refine XS.iconst X0.here hx rfl (hb hby d19_30) ?_
    refine XS.iand X0.here hx rfl (hb hby d19_31) rfl ?_
    refine XS.istore X0.here hx rfl (hb hby d19_32) rfl (l' := #[.val (.int p0), .val (.int p1), .val (.int p2), .val (.int p3), .val (.int p4), .val (.int (own_cw p1)), .val (.int (own_cw p2)), .val (.int (own_cw p3)), .val (.int (own_cw p4)), .val (.int (p0 &&& (3 : Int32)))]) rfl ?_
    show Steps p.tables e below (s₁.setTop (mkF m 34 #[.val (.int p0), .val (.int p1), .val (.int p2), .val (.int p3), .val (.int p4), .val (.int (own_cw p1)), .val (.int (own_cw p2)), .val (.int (own_cw p3)), .val (.int (own_cw p4)), .val (.int (p0 &&& (3 : Int32)))] [])) _
    refine XS.iload X0.here hx rfl (hb hby d19_34) rfl ?_
    refine XS.ifYes X0.here hx rfl (pc0 := 36) (pc' := 55) rfl (hb hby d19_36) rfl (i0_ne_t hk0) (by decide) (by decide) ?_
    refine XS.iload X0.here hx rfl (hb hby d19_55) rfl ?_
    refine XS.iconst X0.here hx rfl (hb hby d19_57) ?_
    refine XS.icmpNo X0.here hx rfl (hb hby d19_58) rfl (ii_ne_f hk) ?_
    refine st_8 _ ?_
    refine XS.dup X_3.here hx rfl (hb hby d19_64) rfl rfl ?_
    refine XS.iconst X_3.here hx rfl (hb hby d19_65) ?_
    show Steps p.tables e below (T_1.setTop (mkF m 66 #[.val (.int p0), .val (.int p1), .val (.int p2), .val (.int p3), .val (.int p4), .val (.int (own_cw p1)), .val (.int (own_cw p2)), .val (.int (own_cw p3)), .val (.int (own_cw p4)), .val (.int (p0 &&& (3 : Int32)))] [(.int (2 : Int32)), (.ref a_9), (.ref a_9)])) _
    refine st_19 _ ?_
    refine XS.dup X_15.here hx rfl (hb hby d19_68) rfl rfl ?_
    refine XS.iconst X_15.here hx rfl (hb hby d19_69) ?_
    refine XS.iload X_15.here hx rfl (hb hby d19_70) rfl ?_
    refine st_36 _ ?_
    refine XS.dup X_33.here hx rfl (hb hby d19_73) rfl rfl ?_
    refine XS.iconst X_33.here hx rfl (hb hby d19_74) ?_
    refine XS.iload X_33.here hx rfl (hb hby d19_75) rfl ?_
    show Steps p.tables e below (T_31.setTop (mkF m 77 #[.val (.int p0), .val (.int p1), .val (.int p2), .val (.int p3), .val (.int p4), .val (.int (own_cw p1)), .val (.int (own_cw p2)), .val (.int (own_cw p3)), .val (.int (own_cw p4)), .val (.int (p0 &&& (3 : Int32)))] [(.int (own_cw p2)), (.int (1 : Int32)), (.ref a_20), (.ref a_20), (.ref a_9), (.ref a_9)])) _
    refine st_53 _ ?_
    exact Steps.refl _
  rcases hQ_61 with hQ_63 | hQ_64
  · skip
    obtain ⟨a_65, k_66, rfl, N_67, K_68, g_69, g_70, g_71, g_72, g_73⟩ := hQ_63
    have N_74 := Fr.app N_55 N_67
    have C_75 : Steps p.tables e below S0 (T_61.setTop (mkF m 81 #[.val (.int p0), .val (.int p1), .val (.int p2), .val (.int p3), .val (.int p4), .val (.int (own_cw p1)), .val (.int (own_cw p2)), .val (.int (own_cw p3)), .val (.int (own_cw p4)), .val (.int (p0 &&& (3 : Int32)))] [(.ref a_9)])) := by
      refine C_62.trans ?_
      refine st_61.trans ?_
      exact Steps.refl _
    have K_76 : Keep h0 T_61.heap [] := ((((((Keep.refl _ _).ext E_5).ext E_17).wr W_35 (Or.inr (Nat.le_trans E_5.1 (Nat.le_of_eq g_21.symm)))).wr W_52 (Or.inr (Nat.le_trans E_5.1 (Nat.le_of_eq g_21.symm)))).trans K_68 (allS (Or.inr (Nat.le_trans (Nat.le_refl _) (Nat.le_of_eq g_10.symm))) all0))
    obtain ⟨fs, hr, hrun, hended, hW, hsame⟩ := X_61.leave (v := some (.ref a_9)) (fun h => by rw [Bd.returns] at h; cases h)
    refine ⟨_, _, C_75.trans (retOut X_61 hx Bd.returns rfl (Or.inr (Or.inr (Or.inr (Or.inr ⟨rfl, rfl, rfl⟩)))) (hb hby d19_81) hr), hrun, hended, _, _, rfl, ?_, ⟨_, rfl⟩, hW, hsame.mono (by decide) (by decide)⟩
    show Q_text_1 Z G1 p0 p1 p2 p3 p4 h0 n0 (some (.ref a_9)) T_61.heap _
    exact Or.inl ⟨a_9, a_65, k_66, rfl, N_74, K_76, (Nat.le_trans (Nat.le_refl _) (Nat.le_of_eq g_10.symm)), g_69, g_70, g_71, (Nat.le_trans (Nat.le_trans (Nat.le_trans (Nat.le_trans E_5.1 E_17.1) (Keep.of_wr W_35).1) (Keep.of_wr W_52).1) g_72), g_73⟩
  · skip
    obtain ⟨a_77, k_78, rfl, N_79, K_80, g_81, g_82, g_83, g_84, g_85⟩ := hQ_64
    have N_86 := Fr.app N_55 N_79
    have C_87 : Steps p.tables e below S0 (T_61.setTop (mkF m 81 #[.val (.int p0), .val (.int p1), .val (.int p2), .val (.int p3), .val (.int p4), .val (.int (own_cw p1)), .val (.int (own_cw p2)), .val (.int (own_cw p3)), .val (.int (own_cw p4)), .val (.int (p0 &&& (3 : Int32)))] [(.ref a_9)])) := by
      refine C_62.trans ?_
      refine st_61.trans ?_
      exact Steps.refl _
    have K_88 : Keep h0 T_61.heap [] := ((((((Keep.refl _ _).ext E_5).ext E_17).wr W_35 (Or.inr (Nat.le_trans E_5.1 (Nat.le_of_eq g_21.symm)))).wr W_52 (Or.inr (Nat.le_trans E_5.1 (Nat.le_of_eq g_21.symm)))).trans K_80 (allS (Or.inr (Nat.le_trans (Nat.le_refl _) (Nat.le_of_eq g_10.symm))) all0))
    obtain ⟨fs, hr, hrun, hended, hW, hsame⟩ := X_61.leave (v := some (.ref a_9)) (fun h => by rw [Bd.returns] at h; cases h)
    refine ⟨_, _, C_87.trans (retOut X_61 hx Bd.returns rfl (Or.inr (Or.inr (Or.inr (Or.inr ⟨rfl, rfl, rfl⟩)))) (hb hby d19_81) hr), hrun, hended, _, _, rfl, ?_, ⟨_, rfl⟩, hW, hsame.mono (by decide) (by decide)⟩
    show Q_text_1 Z G1 p0 p1 p2 p3 p4 h0 n0 (some (.ref a_9)) T_61.heap _
    exact Or.inr (⟨a_9, a_77, k_78, rfl, N_86, K_88, (Nat.le_trans (Nat.le_refl _) (Nat.le_of_eq g_10.symm)), g_81, g_82, g_83, (Nat.le_trans (Nat.le_trans (Nat.le_trans (Nat.le_trans E_5.1 E_17.1) (Keep.of_wr W_35).1) (Keep.of_wr W_52).1) g_84), g_85⟩)
theorem d19_82 : decode method_2_code 82 = .ok (.iload 9, 2) := by decide +kernel
theorem d19_84 : decode method_2_code 84 = .ok (.iconst 2, 1) := by decide +kernel
theorem d19_85 : decode method_2_code 85 = .ok (.if_icmp .ne 29, 3) := by decide +kernel
theorem d19_88 : decode method_2_code 88 = .ok (.new 8, 3) := by decide +kernel
theorem d19_91 : decode method_2_code 91 = .ok (.dup, 1) := by decide +kernel
theorem d19_92 : decode method_2_code 92 = .ok (.iconst 3, 1) := by decide +kernel
theorem d19_93 : decode method_2_code 93 = .ok (.newarray .char, 2) := by decide +kernel
theorem d19_95 : decode method_2_code 95 = .ok (.dup, 1) := by decide +kernel
theorem d19_96 : decode method_2_code 96 = .ok (.iconst 0, 1) := by decide +kernel
theorem d19_97 : decode method_2_code 97 = .ok (.iload 5, 2) := by decide +kernel
theorem d19_99 : decode method_2_code 99 = .ok (.castore, 1) := by decide +kernel
theorem d19_100 : decode method_2_code 100 = .ok (.dup, 1) := by decide +kernel
theorem d19_101 : decode method_2_code 101 = .ok (.iconst 1, 1) := by decide +kernel
theorem d19_102 : decode method_2_code 102 = .ok (.iload 6, 2) := by decide +kernel
theorem d19_104 : decode method_2_code 104 = .ok (.castore, 1) := by decide +kernel
theorem d19_105 : decode method_2_code 105 = .ok (.dup, 1) := by decide +kernel
theorem d19_106 : decode method_2_code 106 = .ok (.iconst 2, 1) := by decide +kernel
theorem d19_107 : decode method_2_code 107 = .ok (.iload 7, 2) := by decide +kernel
theorem d19_109 : decode method_2_code 109 = .ok (.castore, 1) := by decide +kernel
theorem d19_110 : decode method_2_code 110 = .ok (.invokespecial 10, 3) := by decide +kernel
theorem d19_113 : decode method_2_code 113 = .ok (.areturn, 1) := by decide +kernel
abbrev R_text_2 : Room := { frames := 6, cells := 4, slots := 16, locals := 88 }
def Q_text_2 (Z : State) (G1 : Int32) (p0 : Int32) (p1 : Int32) (p2 : Int32) (p3 : Int32) (p4 : Int32) (h0 : Heap) (n0 : Nat) (v : Option Value) (h : Heap) (L : List Loc) : Prop := (∃ x : Addr, ∃ t : Addr, ∃ kt : ClassId, v = some (.ref x) ∧ Fr n0 L ∧ Keep h0 h [] ∧ (h0.size ≤ x) ∧ (Exa Z h x "java/lang/String") ∧ (Fld Z h x "java/lang/String" "coder" "B" (.int (0 : Int32))) ∧ (Fld Z h x "java/lang/String" "value" "[B" (.ref t)) ∧ (h0.size ≤ t) ∧ (Arv Z h t kt .byte (3 : Int32) [(.int (own_lo8 (own_cw p1))), (.int (own_lo8 (own_cw p2))), (.int (own_lo8 (own_cw p3)))] (.int (0 : Int32)))) ∨ (∃ x : Addr, ∃ t : Addr, ∃ kt : ClassId, v = some (.ref x) ∧ Fr n0 L ∧ Keep h0 h [] ∧ (h0.size ≤ x) ∧ (Exa Z h x "java/lang/String") ∧ (Fld Z h x "java/lang/String" "coder" "B" (.int (1 : Int32))) ∧ (Fld Z h x "java/lang/String" "value" "[B" (.ref t)) ∧ (h0.size ≤ t) ∧ (Arv Z h t kt .byte (6 : Int32) [(.int (own_lo8z (own_cw p1))), (.int (own_hi8 (own_cw p1))), (.int (own_lo8z (own_cw p2))), (.int (own_hi8 (own_cw p2))), (.int (own_lo8z (own_cw p3))), (.int (own_hi8 (own_cw p3)))] (.int (0 : Int32))))
set_option maxRecDepth 65536 in
set_option maxHeartbeats 40000000 in
theorem rm_text_2 (l : Launch) (Z : State) (a0 : Array Value) (hw : ∀ d ∈ tables_1, d.before a0 Z = true) (ws : List Jvm.Cond) (G1 : Int32) (HG : own_G l Z a0 G1) (h0 : Heap) (n0 : Nat) (X00 : Old Z n0 h0) (p0 : Int32) (p1 : Int32) (p2 : Int32) (p3 : Int32) (p4 : Int32) (hk0 : ¬ ((p0 &&& (3 : Int32)) = (0 : Int32))) (hk1 : ¬ ((p0 &&& (3 : Int32)) = (1 : Int32))) (hk : (p0 &&& (3 : Int32)) = (2 : Int32)) :
    own_CP l Z M356 method_2_code 10 (some (.object "java/lang/String")) ws R_text_2 #[(.int p0), (.int p1), (.int p2), (.int p3), (.int p4)] h0 (Q_text_2 Z G1 p0 p1 p2 p3 p4 h0 n0) := by
  refine own_P (plainFor_of_name pn_358) ?_
  intro p e s m below meth c s₁ S0 Bd hZ hh hx hby hml hown hnm X0 e0 hS0d
  obtain ⟨O1, P1, OAD, OHI, OLO⟩ := id HG
  have N0 := Fr.nil n0
  have C0 : Steps p.tables e below S0 (s₁.setTop (mkF m 0 #[.val (.int p0), .val (.int p1), .val (.int p2), .val (.int p3), .val (.int p4), .unset, .unset, .unset, .unset, .unset] [])) := by rw [hS0d]; exact castTop (ef_357 m p0 p1 p2 p3 p4) (Steps.refl _)
  obtain ⟨T_1, h_2, X_3, e_4, E_5, A_6, D_7, U_11, st_8⟩ := newO X0 hx hZ hown (w5 hw) (w6 hw) (w7 hw) e0 (g := (mkF m 88 #[.val (.int p0), .val (.int p1), .val (.int p2), .val (.int p3), .val (.int p4), .val (.int (own_cw p1)), .val (.int (own_cw p2)), .val (.int (own_cw p3)), .val (.int (own_cw p4)), .val (.int (p0 &&& (3 : Int32)))] [])) rfl (hb hby d19_88) (by decide) (by decide)
  obtain ⟨a_9, g_10⟩ : ∃ z, z = h0.size := ⟨_, rfl⟩
  rw [← g_10] at A_6 D_7 st_8 U_11
  obtain ⟨T_12, h_13, k_14, X_15, e_16, E_17, A_18, st_19⟩ := newP (aty := .char) X_3 hx hZ (w8 hw) e_4 (g := (mkF m 93 #[.val (.int p0), .val (.int p1), .val (.int p2), .val (.int p3), .val (.int p4), .val (.int (own_cw p1)), .val (.int (own_cw p2)), .val (.int (own_cw p3)), .val (.int (own_cw p4)), .val (.int (p0 &&& (3 : Int32)))] [(.int (3 : Int32)), (.ref a_9), (.ref a_9)])) rfl (hb hby d19_93) rfl (by decide : ¬ ((3 : Int32) < (0 : Int32))) (cap := 3) (by decide : (3 : Int32).toNatClampNeg ≤ 3) (by decide) (by decide) (by decide)
  obtain ⟨a_20, g_21⟩ : ∃ z, z = h_2.size := ⟨_, rfl⟩
  rw [← g_21] at A_18 st_19
  have V_23 : Arv Z h_13 a_20 k_14 .char (3 : Int32) [] (.int (0 : Int32)) := Arv.new A_18 (by decide : ¬ ((3 : Int32) < (0 : Int32)))
  have V_22 : Arv Z h_13 a_20 k_14 .char (3 : Int32) [(.int (0 : Int32)), (.int (0 : Int32)), (.int (0 : Int32))] (.int (0 : Int32)) := (V_23.pad (pad_rep [] (.int (0 : Int32)) 3))
  obtain ⟨c_24, A_25, q_26, S_27, M_28, H_29, U_30⟩ := id V_22
  have hin_37 : ¬ ((0 : Int32) < 0 ∨ c_24.slots.size ≤ (0 : Int32).toNatClampNeg) := inb_of S_27 ⟨(by decide : ¬ ((0 : Int32) < (0 : Int32))), (by decide : (0 : Int32) < (3 : Int32))⟩
  obtain ⟨T_31, h_32, X_33, e_34, W_35, st_36⟩ := stC X_15 hx hZ e_16 A_25 (j := (0 : Int32)) hin_37 (g := (mkF m 99 #[.val (.int p0), .val (.int p1), .val (.int p2), .val (.int p3), .val (.int p4), .val (.int (own_cw p1)), .val (.int (own_cw p2)), .val (.int (own_cw p3)), .val (.int (own_cw p4)), .val (.int (p0 &&& (3 : Int32)))] [(.int (own_cw p1)), (.int (0 : Int32)), (.ref a_20), (.ref a_20), (.ref a_9), (.ref a_9)])) rfl rfl (hb hby d19_99)
  have O_39 : Old Z n0 h_2 := (X00.ext E_5)
  have N_38 := Fr.snoc X_33 N0 (Nat.le_trans (own_n0 O_39) (Nat.le_of_eq g_21.symm))
  have V_40 : Arv Z h_32 a_20 k_14 .char (3 : Int32) [(.int (own_cw p1)), (.int (0 : Int32)), (.int (0 : Int32))] (.int (0 : Int32)) := by have q := Arv.set A_25 q_26 S_27 M_28 H_29 U_30 (fits_nar_char _) W_35 0 rfl (Nat.le_of_ble_eq_true rfl); rw [own_cw_nar] at q; exact q
  obtain ⟨c_41, A_42, q_43, S_44, M_45, H_46, U_47⟩ := id V_40
  have hin_54 : ¬ ((1 : Int32) < 0 ∨ c_41.slots.size ≤ (1 : Int32).toNatClampNeg) := inb_of S_44 ⟨(by decide : ¬ ((1 : Int32) < (0 : Int32))), (by decide : (1 : Int32) < (3 : Int32))⟩
  obtain ⟨T_48, h_49, X_50, e_51, W_52, st_53⟩ := stC X_33 hx hZ e_34 A_42 (j := (1 : Int32)) hin_54 (g := (mkF m 104 #[.val (.int p0), .val (.int p1), .val (.int p2), .val (.int p3), .val (.int p4), .val (.int (own_cw p1)), .val (.int (own_cw p2)), .val (.int (own_cw p3)), .val (.int (own_cw p4)), .val (.int (p0 &&& (3 : Int32)))] [(.int (own_cw p2)), (.int (1 : Int32)), (.ref a_20), (.ref a_20), (.ref a_9), (.ref a_9)])) rfl rfl (hb hby d19_104)
  have N_55 := Fr.snoc X_50 N_38 (Nat.le_trans (own_n0 O_39) (Nat.le_of_eq g_21.symm))
  have V_56 : Arv Z h_49 a_20 k_14 .char (3 : Int32) [(.int (own_cw p1)), (.int (own_cw p2)), (.int (0 : Int32))] (.int (0 : Int32)) := by have q := Arv.set A_42 q_43 S_44 M_45 H_46 U_47 (fits_nar_char _) W_52 1 rfl (Nat.le_of_ble_eq_true rfl); rw [own_cw_nar] at q; exact q
  obtain ⟨c_57, A_58, q_59, S_60, M_61, H_62, U_63⟩ := id V_56
  have hin_70 : ¬ ((2 : Int32) < 0 ∨ c_57.slots.size ≤ (2 : Int32).toNatClampNeg) := inb_of S_60 ⟨(by decide : ¬ ((2 : Int32) < (0 : Int32))), (by decide : (2 : Int32) < (3 : Int32))⟩
  obtain ⟨T_64, h_65, X_66, e_67, W_68, st_69⟩ := stC X_50 hx hZ e_51 A_58 (j := (2 : Int32)) hin_70 (g := (mkF m 109 #[.val (.int p0), .val (.int p1), .val (.int p2), .val (.int p3), .val (.int p4), .val (.int (own_cw p1)), .val (.int (own_cw p2)), .val (.int (own_cw p3)), .val (.int (own_cw p4)), .val (.int (p0 &&& (3 : Int32)))] [(.int (own_cw p3)), (.int (2 : Int32)), (.ref a_20), (.ref a_20), (.ref a_9), (.ref a_9)])) rfl rfl (hb hby d19_109)
  have N_71 := Fr.snoc X_66 N_55 (Nat.le_trans (own_n0 O_39) (Nat.le_of_eq g_21.symm))
  have V_72 : Arv Z h_65 a_20 k_14 .char (3 : Int32) [(.int (own_cw p1)), (.int (own_cw p2)), (.int (own_cw p3))] (.int (0 : Int32)) := by have q := Arv.set A_58 q_59 S_60 M_61 H_62 U_63 (fits_nar_char _) W_68 2 rfl (Nat.le_of_ble_eq_true rfl); rw [own_cw_nar] at q; exact q
  have E_73 : Exa Z h_65 a_9 "java/lang/String" := ((((A_6.ext E_17).wr W_35).wr W_52).wr W_68)
  have F_74 : Fld Z h_65 a_9 "java/lang/String" "value" "[B" .null := (((((D_7 (Or.inr (w34 hw)) (ty := (.array .byte)) (by decide)).ext E_17).other W_35 (Or.inl (Nat.ne_of_lt (Nat.lt_of_lt_of_le A_6.lt (Nat.le_trans (Nat.le_refl _) (Nat.le_of_eq g_21.symm)))))).other W_52 (Or.inl (Nat.ne_of_lt (Nat.lt_of_lt_of_le A_6.lt (Nat.le_trans (Nat.le_refl _) (Nat.le_of_eq g_21.symm)))))).other W_68 (Or.inl (Nat.ne_of_lt (Nat.lt_of_lt_of_le A_6.lt (Nat.le_trans (Nat.le_refl _) (Nat.le_of_eq g_21.symm))))))
  have F_75 : Fld Z h_65 a_9 "java/lang/String" "coder" "B" (.int (0 : Int32)) := (((((D_7 (Or.inr (w32 hw)) (ty := .byte) (by decide)).ext E_17).other W_35 (Or.inl (Nat.ne_of_lt (Nat.lt_of_lt_of_le A_6.lt (Nat.le_trans (Nat.le_refl _) (Nat.le_of_eq g_21.symm)))))).other W_52 (Or.inl (Nat.ne_of_lt (Nat.lt_of_lt_of_le A_6.lt (Nat.le_trans (Nat.le_refl _) (Nat.le_of_eq g_21.symm)))))).other W_68 (Or.inl (Nat.ne_of_lt (Nat.lt_of_lt_of_le A_6.lt (Nat.le_trans (Nat.le_refl _) (Nat.le_of_eq g_21.symm))))))
  have O_76 : Old Z n0 h_65 := ((((O_39.ext E_17).wr W_35 (Nat.le_trans (own_n0 O_39) (Nat.le_of_eq g_21.symm))).wr W_52 (Nat.le_trans (own_n0 O_39) (Nat.le_of_eq g_21.symm))).wr W_68 (Nat.le_trans (own_n0 O_39) (Nat.le_of_eq g_21.symm)))
  obtain ⟨_, _, ⟨T_77, L_77, k_77, n_77⟩, -, X_77, ⟨Lc_77, hQ_77, l_77, y_77, z_77⟩, st_77⟩ := X_66.specialBack hx (y := M222) rfl hown (mvT hZ (w9 hw)) (mvT hZ (w10 hw)) (mvT hZ (w11 hw)) (by decide) (backOf (W := 1) (rm_si1u_3 l Z a0 hw [] G1 HG h_65 n0 O_76 a_9 a_20 k_14 (own_cw p1) (own_cw p2) (own_cw p3) E_73 F_74 F_75 (Nat.le_trans (own_n0 X00) (Nat.le_of_eq g_10.symm)) V_72 (own_cw_lo p1) (own_cw_lo p2) (own_cw_lo p3) (own_cw_hi p1) (own_cw_hi p2) (own_cw_hi p3)) hZ (w11 hw) (w7 hw) (by decide) (by decide)) (g := (mkF m 110 #[.val (.int p0), .val (.int p1), .val (.int p2), .val (.int p3), .val (.int p4), .val (.int (own_cw p1)), .val (.int (own_cw p2)), .val (.int (own_cw p3)), .val (.int (own_cw p4)), .val (.int (p0 &&& (3 : Int32)))] [(.ref a_20), (.ref a_9), (.ref a_9)])) rfl (by rw [hml]; rfl) (Steps.refl _) (a := a_9) (argsL := [(.ref a_20)]) (rest := [(.ref a_9)]) (lenOf pd_397 rfl) rfl (by show 2 * 0 + _ ≤ _; exact Nat.le_of_eq rfl) (hb hby d19_110) (fun _ _ => ⟨rfl, e_67, (by decide : 2 + 2 ≤ _), (by decide : 7 + 9 ≤ _)⟩)
  dsimp only [Pt.U, Pt.locs, Pt.cells, Pt.slots] at X_77 l_77 y_77 z_77 st_77 hQ_77
  subst l_77 y_77 z_77
  have C_78 : Steps p.tables e below S0 (T_64.setTop (mkF m 110 #[.val (.int p0), .val (.int p1), .val (.int p2), .val (.int p3), .val (.int p4), .val (.int (own_cw p1)), .val (.int (own_cw p2)), .val (.int (own_cw p3)), .val (.int (own_cw p4)), .val (.int (p0 &&& (3 : Int32)))] [(.ref a_20), (.ref a_9), (.ref a_9)])) := by
    refine C0.trans ?_
    refine XS.iloadN X0.here hx rfl (hb hby d19_0) rfl ?_
    refine X0.ldcI hx hown (mvT hZ (w4 hw)) rfl (hb hby d19_1) ?_
    refine XS.iand X0.here hx rfl (hb hby d19_3) rfl ?_
    refine XS.i2c X0.here hx rfl (hb hby d19_4) rfl ?_
    refine XS.istore X0.here hx rfl (hb hby d19_5) rfl (l' := #[.val (.int p0), .val (.int p1), .val (.int p2), .val (.int p3), .val (.int p4), .val (.int (own_cw p1)), .unset, .unset, .unset, .unset]) rfl ?_
    refine XS.iloadN X0.here hx rfl (hb hby d19_7) rfl ?_
    refine X0.ldcI hx hown (mvT hZ (w4 hw)) rfl (hb hby d19_8) ?_
    refine XS.iand X0.here hx rfl (hb hby d19_10) rfl ?_
    show Steps p.tables e below (s₁.setTop (mkF m 11 #[.val (.int p0), .val (.int p1), .val (.int p2), .val (.int p3), .val (.int p4), .val (.int (own_cw p1)), .unset, .unset, .unset, .unset] [(.int (p2 &&& (65535 : Int32)))])) _
    refine XS.i2c X0.here hx rfl (hb hby d19_11) rfl ?_
    refine XS.istore X0.here hx rfl (hb hby d19_12) rfl (l' := #[.val (.int p0), .val (.int p1), .val (.int p2), .val (.int p3), .val (.int p4), .val (.int (own_cw p1)), .val (.int (own_cw p2)), .unset, .unset, .unset]) rfl ?_
    refine XS.iloadN X0.here hx rfl (hb hby d19_14) rfl ?_
    refine X0.ldcI hx hown (mvT hZ (w4 hw)) rfl (hb hby d19_15) ?_
    refine XS.iand X0.here hx rfl (hb hby d19_17) rfl ?_
    refine XS.i2c X0.here hx rfl (hb hby d19_18) rfl ?_
    refine XS.istore X0.here hx rfl (hb hby d19_19) rfl (l' := #[.val (.int p0), .val (.int p1), .val (.int p2), .val (.int p3), .val (.int p4), .val (.int (own_cw p1)), .val (.int (own_cw p2)), .val (.int (own_cw p3)), .unset, .unset]) rfl ?_
    refine XS.iload X0.here hx rfl (hb hby d19_21) rfl ?_
    show Steps p.tables e below (s₁.setTop (mkF m 23 #[.val (.int p0), .val (.int p1), .val (.int p2), .val (.int p3), .val (.int p4), .val (.int (own_cw p1)), .val (.int (own_cw p2)), .val (.int (own_cw p3)), .unset, .unset] [(.int p4)])) _
    refine X0.ldcI hx hown (mvT hZ (w4 hw)) rfl (hb hby d19_23) ?_
    refine XS.iand X0.here hx rfl (hb hby d19_25) rfl ?_
    refine XS.i2c X0.here hx rfl (hb hby d19_26) rfl ?_
    refine XS.istore X0.here hx rfl (hb hby d19_27) rfl (l' := #[.val (.int p0), .val (.int p1), .val (.int p2), .val (.int p3), .val (.int p4), .val (.int (own_cw p1)), .val (.int (own_cw p2)), .val (.int (own_cw p3)), .val (.int (own_cw p4)), .unset]) rfl ?_
    refine XS.iloadN X0.here hx rfl (hb hby d19_29) rfl ?_
    refine XS.iconst X0.here hx rfl (hb hby d19_30) ?_
    refine XS.iand X0.here hx rfl (hb hby d19_31) rfl ?_
    refine XS.istore X0.here hx rfl (hb hby d19_32) rfl (l' := #[.val (.int p0), .val (.int p1), .val (.int p2), .val (.int p3), .val (.int p4), .val (.int (own_cw p1)), .val (.int (own_cw p2)), .val (.int (own_cw p3)), .val (.int (own_cw p4)), .val (.int (p0 &&& (3 : Int32)))]) rfl ?_
    show Steps p.tables e below (s₁.setTop (mkF m 34 #[.val (.int p0), .val (.int p1), .val (.int p2), .val (.int p3), .val (.int p4), .val (.int (own_cw p1)), .val (.int (own_cw p2)), .val (.int (own_cw p3)), .val (.int (own_cw p4)), .val (.int (p0 &&& (3 : Int32)))] [])) _
    refine XS.iload X0.here hx rfl (hb hby d19_34) rfl ?_
    refine XS.ifYes X0.here hx rfl (pc0 := 36) (pc' := 55) rfl (hb hby d19_36) rfl (i0_ne_t hk0) (by decide) (by decide) ?_
    refine XS.iload X0.here hx rfl (hb hby d19_55) rfl ?_
    refine XS.iconst X0.here hx rfl (hb hby d19_57) ?_
    refine XS.icmpYes X0.here hx rfl (pc0 := 58) (pc' := 82) rfl (hb hby d19_58) rfl (ii_ne_t hk1) (by decide) (by decide) ?_
    refine XS.iload X0.here hx rfl (hb hby d19_82) rfl ?_
    refine XS.iconst X0.here hx rfl (hb hby d19_84) ?_
    refine XS.icmpNo X0.here hx rfl (hb hby d19_85) rfl (ii_ne_f hk) ?_
    show Steps p.tables e below (s₁.setTop (mkF m 88 #[.val (.int p0), .val (.int p1), .val (.int p2), .val (.int p3), .val (.int p4), .val (.int (own_cw p1)), .val (.int (own_cw p2)), .val (.int (own_cw p3)), .val (.int (own_cw p4)), .val (.int (p0 &&& (3 : Int32)))] [])) _
    refine st_8 _ ?_
    refine XS.dup X_3.here hx rfl (hb hby d19_91) rfl rfl ?_
    refine XS.iconst X_3.here hx rfl (hb hby d19_92) ?_
    refine st_19 _ ?_
    refine XS.dup X_15.here hx rfl (hb hby d19_95) rfl rfl ?_
    refine XS.iconst X_15.here hx rfl (hb hby d19_96) ?_
    refine XS.iload X_15.here hx rfl (hb hby d19_97) rfl ?_
    refine st_36 _ ?_
    show Steps p.tables e below (T_31.setTop (mkF m 100 #[.val (.int p0), .val (.int p1), .val (.int p2), .val (.int p3), .val (.int p4), .val (.int (own_cw p1)), .val (.int (own_cw p2)), .val (.int (own_cw p3)), .val (.int (own_cw p4)), .val (.int (p0 &&& (3 : Int32)))] [(.ref a_20), (.ref a_9), (.ref a_9)])) _
    refine XS.dup X_33.here hx rfl (hb hby d19_100) rfl rfl ?_
    refine XS.iconst X_33.here hx rfl (hb hby d19_101) ?_
    refine XS.iload X_33.here hx rfl (hb hby d19_102) rfl ?_
    refine st_53 _ ?_
    refine XS.dup X_50.here hx rfl (hb hby d19_105) rfl rfl ?_
    refine XS.iconst X_50.here hx rfl (hb hby d19_106) ?_
    refine XS.iload X_50.here hx rfl (hb hby d19_107) rfl ?_
    refine st_69 _ ?_
    show Steps p.tables e below (T_64.setTop (mkF m 110 #[.val (.int p0), .val (.int p1), .val (.int p2), .val (.int p3), .val (.int p4), .val (.int (own_cw p1)), .val (.int (own_cw p2)), .val (.int (own_cw p3)), .val (.int (own_cw p4)), .val (.int (p0 &&& (3 : Int32)))] [(.ref a_20), (.ref a_9), (.ref a_9)])) _
    exact Steps.refl _
  rcases hQ_77 with hQ_79 | hQ_80
  · skip
    obtain ⟨a_81, k_82, rfl, N_83, K_84, g_85, g_86, g_87, g_88, g_89⟩ := hQ_79
    have N_90 := Fr.app N_71 N_83
    have C_91 : Steps p.tables e below S0 (T_77.setTop (mkF m 113 #[.val (.int p0), .val (.int p1), .val (.int p2), .val (.int p3), .val (.int p4), .val (.int (own_cw p1)), .val (.int (own_cw p2)), .val (.int (own_cw p3)), .val (.int (own_cw p4)), .val (.int (p0 &&& (3 : Int32)))] [(.ref a_9)])) := by
      refine C_78.trans ?_
      refine st_77.trans ?_
      exact Steps.refl _
    have K_92 : Keep h0 T_77.heap [] := (((((((Keep.refl _ _).ext E_5).ext E_17).wr W_35 (Or.inr (Nat.le_trans E_5.1 (Nat.le_of_eq g_21.symm)))).wr W_52 (Or.inr (Nat.le_trans E_5.1 (Nat.le_of_eq g_21.symm)))).wr W_68 (Or.inr (Nat.le_trans E_5.1 (Nat.le_of_eq g_21.symm)))).trans K_84 (allS (Or.inr (Nat.le_trans (Nat.le_refl _) (Nat.le_of_eq g_10.symm))) all0))
    obtain ⟨fs, hr, hrun, hended, hW, hsame⟩ := X_77.leave (v := some (.ref a_9)) (fun h => by rw [Bd.returns] at h; cases h)
    refine ⟨_, _, C_91.trans (retOut X_77 hx Bd.returns rfl (Or.inr (Or.inr (Or.inr (Or.inr ⟨rfl, rfl, rfl⟩)))) (hb hby d19_113) hr), hrun, hended, _, _, rfl, ?_, ⟨_, rfl⟩, hW, hsame.mono (by decide) (by decide)⟩
    show Q_text_2 Z G1 p0 p1 p2 p3 p4 h0 n0 (some (.ref a_9)) T_77.heap _
    exact Or.inl ⟨a_9, a_81, k_82, rfl, N_90, K_92, (Nat.le_trans (Nat.le_refl _) (Nat.le_of_eq g_10.symm)), g_85, g_86, g_87, (Nat.le_trans (Nat.le_trans (Nat.le_trans (Nat.le_trans (Nat.le_trans E_5.1 E_17.1) (Keep.of_wr W_35).1) (Keep.of_wr W_52).1) (Keep.of_wr W_68).1) g_88), g_89⟩
  · skip
    obtain ⟨a_93, k_94, rfl, N_95, K_96, g_97, g_98, g_99, g_100, g_101⟩ := hQ_80
    have N_102 := Fr.app N_71 N_95
    have C_103 : Steps p.tables e below S0 (T_77.setTop (mkF m 113 #[.val (.int p0), .val (.int p1), .val (.int p2), .val (.int p3), .val (.int p4), .val (.int (own_cw p1)), .val (.int (own_cw p2)), .val (.int (own_cw p3)), .val (.int (own_cw p4)), .val (.int (p0 &&& (3 : Int32)))] [(.ref a_9)])) := by
      refine C_78.trans ?_
      refine st_77.trans ?_
      exact Steps.refl _
    have K_104 : Keep h0 T_77.heap [] := (((((((Keep.refl _ _).ext E_5).ext E_17).wr W_35 (Or.inr (Nat.le_trans E_5.1 (Nat.le_of_eq g_21.symm)))).wr W_52 (Or.inr (Nat.le_trans E_5.1 (Nat.le_of_eq g_21.symm)))).wr W_68 (Or.inr (Nat.le_trans E_5.1 (Nat.le_of_eq g_21.symm)))).trans K_96 (allS (Or.inr (Nat.le_trans (Nat.le_refl _) (Nat.le_of_eq g_10.symm))) all0))
    obtain ⟨fs, hr, hrun, hended, hW, hsame⟩ := X_77.leave (v := some (.ref a_9)) (fun h => by rw [Bd.returns] at h; cases h)
    refine ⟨_, _, C_103.trans (retOut X_77 hx Bd.returns rfl (Or.inr (Or.inr (Or.inr (Or.inr ⟨rfl, rfl, rfl⟩)))) (hb hby d19_113) hr), hrun, hended, _, _, rfl, ?_, ⟨_, rfl⟩, hW, hsame.mono (by decide) (by decide)⟩
    show Q_text_2 Z G1 p0 p1 p2 p3 p4 h0 n0 (some (.ref a_9)) T_77.heap _
    exact Or.inr (⟨a_9, a_93, k_94, rfl, N_102, K_104, (Nat.le_trans (Nat.le_refl _) (Nat.le_of_eq g_10.symm)), g_97, g_98, g_99, (Nat.le_trans (Nat.le_trans (Nat.le_trans (Nat.le_trans (Nat.le_trans E_5.1 E_17.1) (Keep.of_wr W_35).1) (Keep.of_wr W_52).1) (Keep.of_wr W_68).1) g_100), g_101⟩)
theorem d19_114 : decode method_2_code 114 = .ok (.new 8, 3) := by decide +kernel
theorem d19_117 : decode method_2_code 117 = .ok (.dup, 1) := by decide +kernel
theorem d19_118 : decode method_2_code 118 = .ok (.iconst 4, 1) := by decide +kernel
theorem d19_119 : decode method_2_code 119 = .ok (.newarray .char, 2) := by decide +kernel
theorem d19_121 : decode method_2_code 121 = .ok (.dup, 1) := by decide +kernel
theorem d19_122 : decode method_2_code 122 = .ok (.iconst 0, 1) := by decide +kernel
theorem d19_123 : decode method_2_code 123 = .ok (.iload 5, 2) := by decide +kernel
theorem d19_125 : decode method_2_code 125 = .ok (.castore, 1) := by decide +kernel
theorem d19_126 : decode method_2_code 126 = .ok (.dup, 1) := by decide +kernel
theorem d19_127 : decode method_2_code 127 = .ok (.iconst 1, 1) := by decide +kernel
theorem d19_128 : decode method_2_code 128 = .ok (.iload 6, 2) := by decide +kernel
theorem d19_130 : decode method_2_code 130 = .ok (.castore, 1) := by decide +kernel
theorem d19_131 : decode method_2_code 131 = .ok (.dup, 1) := by decide +kernel
theorem d19_132 : decode method_2_code 132 = .ok (.iconst 2, 1) := by decide +kernel
theorem d19_133 : decode method_2_code 133 = .ok (.iload 7, 2) := by decide +kernel
theorem d19_135 : decode method_2_code 135 = .ok (.castore, 1) := by decide +kernel
theorem d19_136 : decode method_2_code 136 = .ok (.dup, 1) := by decide +kernel
theorem d19_137 : decode method_2_code 137 = .ok (.iconst 3, 1) := by decide +kernel
theorem d19_138 : decode method_2_code 138 = .ok (.iload 8, 2) := by decide +kernel
theorem d19_140 : decode method_2_code 140 = .ok (.castore, 1) := by decide +kernel
theorem d19_141 : decode method_2_code 141 = .ok (.invokespecial 10, 3) := by decide +kernel
theorem d19_144 : decode method_2_code 144 = .ok (.areturn, 1) := by decide +kernel
abbrev R_text_3 : Room := { frames := 6, cells := 4, slots := 20, locals := 88 }
def Q_text_3 (Z : State) (G1 : Int32) (p0 : Int32) (p1 : Int32) (p2 : Int32) (p3 : Int32) (p4 : Int32) (h0 : Heap) (n0 : Nat) (v : Option Value) (h : Heap) (L : List Loc) : Prop := (∃ x : Addr, ∃ t : Addr, ∃ kt : ClassId, v = some (.ref x) ∧ Fr n0 L ∧ Keep h0 h [] ∧ (h0.size ≤ x) ∧ (Exa Z h x "java/lang/String") ∧ (Fld Z h x "java/lang/String" "coder" "B" (.int (0 : Int32))) ∧ (Fld Z h x "java/lang/String" "value" "[B" (.ref t)) ∧ (h0.size ≤ t) ∧ (Arv Z h t kt .byte (4 : Int32) [(.int (own_lo8 (own_cw p1))), (.int (own_lo8 (own_cw p2))), (.int (own_lo8 (own_cw p3))), (.int (own_lo8 (own_cw p4)))] (.int (0 : Int32)))) ∨ (∃ x : Addr, ∃ t : Addr, ∃ kt : ClassId, v = some (.ref x) ∧ Fr n0 L ∧ Keep h0 h [] ∧ (h0.size ≤ x) ∧ (Exa Z h x "java/lang/String") ∧ (Fld Z h x "java/lang/String" "coder" "B" (.int (1 : Int32))) ∧ (Fld Z h x "java/lang/String" "value" "[B" (.ref t)) ∧ (h0.size ≤ t) ∧ (Arv Z h t kt .byte (8 : Int32) [(.int (own_lo8z (own_cw p1))), (.int (own_hi8 (own_cw p1))), (.int (own_lo8z (own_cw p2))), (.int (own_hi8 (own_cw p2))), (.int (own_lo8z (own_cw p3))), (.int (own_hi8 (own_cw p3))), (.int (own_lo8z (own_cw p4))), (.int (own_hi8 (own_cw p4)))] (.int (0 : Int32))))
set_option maxRecDepth 65536 in
set_option maxHeartbeats 40000000 in
theorem rm_text_3 (l : Launch) (Z : State) (a0 : Array Value) (hw : ∀ d ∈ tables_1, d.before a0 Z = true) (ws : List Jvm.Cond) (G1 : Int32) (HG : own_G l Z a0 G1) (h0 : Heap) (n0 : Nat) (X00 : Old Z n0 h0) (p0 : Int32) (p1 : Int32) (p2 : Int32) (p3 : Int32) (p4 : Int32) (hk0 : ¬ ((p0 &&& (3 : Int32)) = (0 : Int32))) (hk1 : ¬ ((p0 &&& (3 : Int32)) = (1 : Int32))) (hk2 : ¬ ((p0 &&& (3 : Int32)) = (2 : Int32))) :
    own_CP l Z M356 method_2_code 10 (some (.object "java/lang/String")) ws R_text_3 #[(.int p0), (.int p1), (.int p2), (.int p3), (.int p4)] h0 (Q_text_3 Z G1 p0 p1 p2 p3 p4 h0 n0) := by
  refine own_P (plainFor_of_name pn_358) ?_
  intro p e s m below meth c s₁ S0 Bd hZ hh hx hby hml hown hnm X0 e0 hS0d
  obtain ⟨O1, P1, OAD, OHI, OLO⟩ := id HG
  have N0 := Fr.nil n0
  have C0 : Steps p.tables e below S0 (s₁.setTop (mkF m 0 #[.val (.int p0), .val (.int p1), .val (.int p2), .val (.int p3), .val (.int p4), .unset, .unset, .unset, .unset, .unset] [])) := by rw [hS0d]; exact castTop (ef_357 m p0 p1 p2 p3 p4) (Steps.refl _)
  obtain ⟨T_1, h_2, X_3, e_4, E_5, A_6, D_7, U_11, st_8⟩ := newO X0 hx hZ hown (w5 hw) (w6 hw) (w7 hw) e0 (g := (mkF m 114 #[.val (.int p0), .val (.int p1), .val (.int p2), .val (.int p3), .val (.int p4), .val (.int (own_cw p1)), .val (.int (own_cw p2)), .val (.int (own_cw p3)), .val (.int (own_cw p4)), .val (.int (p0 &&& (3 : Int32)))] [])) rfl (hb hby d19_114) (by decide) (by decide)
  obtain ⟨a_9, g_10⟩ : ∃ z, z = h0.size := ⟨_, rfl⟩
  rw [← g_10] at A_6 D_7 st_8 U_11
  obtain ⟨T_12, h_13, k_14, X_15, e_16, E_17, A_18, st_19⟩ := newP (aty := .char) X_3 hx hZ (w8 hw) e_4 (g := (mkF m 119 #[.val (.int p0), .val (.int p1), .val (.int p2), .val (.int p3), .val (.int p4), .val (.int (own_cw p1)), .val (.int (own_cw p2)), .val (.int (own_cw p3)), .val (.int (own_cw p4)), .val (.int (p0 &&& (3 : Int32)))] [(.int (4 : Int32)), (.ref a_9), (.ref a_9)])) rfl (hb hby d19_119) rfl (by decide : ¬ ((4 : Int32) < (0 : Int32))) (cap := 4) (by decide : (4 : Int32).toNatClampNeg ≤ 4) (by decide) (by decide) (by decide)
  obtain ⟨a_20, g_21⟩ : ∃ z, z = h_2.size := ⟨_, rfl⟩
  rw [← g_21] at A_18 st_19
  have V_23 : Arv Z h_13 a_20 k_14 .char (4 : Int32) [] (.int (0 : Int32)) := Arv.new A_18 (by decide : ¬ ((4 : Int32) < (0 : Int32)))
  have V_22 : Arv Z h_13 a_20 k_14 .char (4 : Int32) [(.int (0 : Int32)), (.int (0 : Int32)), (.int (0 : Int32)), (.int (0 : Int32))] (.int (0 : Int32)) := (V_23.pad (pad_rep [] (.int (0 : Int32)) 4))
  obtain ⟨c_24, A_25, q_26, S_27, M_28, H_29, U_30⟩ := id V_22
  have hin_37 : ¬ ((0 : Int32) < 0 ∨ c_24.slots.size ≤ (0 : Int32).toNatClampNeg) := inb_of S_27 ⟨(by decide : ¬ ((0 : Int32) < (0 : Int32))), (by decide : (0 : Int32) < (4 : Int32))⟩
  obtain ⟨T_31, h_32, X_33, e_34, W_35, st_36⟩ := stC X_15 hx hZ e_16 A_25 (j := (0 : Int32)) hin_37 (g := (mkF m 125 #[.val (.int p0), .val (.int p1), .val (.int p2), .val (.int p3), .val (.int p4), .val (.int (own_cw p1)), .val (.int (own_cw p2)), .val (.int (own_cw p3)), .val (.int (own_cw p4)), .val (.int (p0 &&& (3 : Int32)))] [(.int (own_cw p1)), (.int (0 : Int32)), (.ref a_20), (.ref a_20), (.ref a_9), (.ref a_9)])) rfl rfl (hb hby d19_125)
  have O_39 : Old Z n0 h_2 := (X00.ext E_5)
  have N_38 := Fr.snoc X_33 N0 (Nat.le_trans (own_n0 O_39) (Nat.le_of_eq g_21.symm))
  have V_40 : Arv Z h_32 a_20 k_14 .char (4 : Int32) [(.int (own_cw p1)), (.int (0 : Int32)), (.int (0 : Int32)), (.int (0 : Int32))] (.int (0 : Int32)) := by have q := Arv.set A_25 q_26 S_27 M_28 H_29 U_30 (fits_nar_char _) W_35 0 rfl (Nat.le_of_ble_eq_true rfl); rw [own_cw_nar] at q; exact q
  obtain ⟨c_41, A_42, q_43, S_44, M_45, H_46, U_47⟩ := id V_40
  have hin_54 : ¬ ((1 : Int32) < 0 ∨ c_41.slots.size ≤ (1 : Int32).toNatClampNeg) := inb_of S_44 ⟨(by decide : ¬ ((1 : Int32) < (0 : Int32))), (by decide : (1 : Int32) < (4 : Int32))⟩
  obtain ⟨T_48, h_49, X_50, e_51, W_52, st_53⟩ := stC X_33 hx hZ e_34 A_42 (j := (1 : Int32)) hin_54 (g := (mkF m 130 #[.val (.int p0), .val (.int p1), .val (.int p2), .val (.int p3), .val (.int p4), .val (.int (own_cw p1)), .val (.int (own_cw p2)), .val (.int (own_cw p3)), .val (.int (own_cw p4)), .val (.int (p0 &&& (3 : Int32)))] [(.int (own_cw p2)), (.int (1 : Int32)), (.ref a_20), (.ref a_20), (.ref a_9), (.ref a_9)])) rfl rfl (hb hby d19_130)
  have N_55 := Fr.snoc X_50 N_38 (Nat.le_trans (own_n0 O_39) (Nat.le_of_eq g_21.symm))
  have V_56 : Arv Z h_49 a_20 k_14 .char (4 : Int32) [(.int (own_cw p1)), (.int (own_cw p2)), (.int (0 : Int32)), (.int (0 : Int32))] (.int (0 : Int32)) := by have q := Arv.set A_42 q_43 S_44 M_45 H_46 U_47 (fits_nar_char _) W_52 1 rfl (Nat.le_of_ble_eq_true rfl); rw [own_cw_nar] at q; exact q
  obtain ⟨c_57, A_58, q_59, S_60, M_61, H_62, U_63⟩ := id V_56
  have hin_70 : ¬ ((2 : Int32) < 0 ∨ c_57.slots.size ≤ (2 : Int32).toNatClampNeg) := inb_of S_60 ⟨(by decide : ¬ ((2 : Int32) < (0 : Int32))), (by decide : (2 : Int32) < (4 : Int32))⟩
  obtain ⟨T_64, h_65, X_66, e_67, W_68, st_69⟩ := stC X_50 hx hZ e_51 A_58 (j := (2 : Int32)) hin_70 (g := (mkF m 135 #[.val (.int p0), .val (.int p1), .val (.int p2), .val (.int p3), .val (.int p4), .val (.int (own_cw p1)), .val (.int (own_cw p2)), .val (.int (own_cw p3)), .val (.int (own_cw p4)), .val (.int (p0 &&& (3 : Int32)))] [(.int (own_cw p3)), (.int (2 : Int32)), (.ref a_20), (.ref a_20), (.ref a_9), (.ref a_9)])) rfl rfl (hb hby d19_135)
  have N_71 := Fr.snoc X_66 N_55 (Nat.le_trans (own_n0 O_39) (Nat.le_of_eq g_21.symm))
  have V_72 : Arv Z h_65 a_20 k_14 .char (4 : Int32) [(.int (own_cw p1)), (.int (own_cw p2)), (.int (own_cw p3)), (.int (0 : Int32))] (.int (0 : Int32)) := by have q := Arv.set A_58 q_59 S_60 M_61 H_62 U_63 (fits_nar_char _) W_68 2 rfl (Nat.le_of_ble_eq_true rfl); rw [own_cw_nar] at q; exact q
  obtain ⟨c_73, A_74, q_75, S_76, M_77, H_78, U_79⟩ := id V_72
  have hin_86 : ¬ ((3 : Int32) < 0 ∨ c_73.slots.size ≤ (3 : Int32).toNatClampNeg) := inb_of S_76 ⟨(by decide : ¬ ((3 : Int32) < (0 : Int32))), (by decide : (3 : Int32) < (4 : Int32))⟩
  obtain ⟨T_80, h_81, X_82, e_83, W_84, st_85⟩ := stC X_66 hx hZ e_67 A_74 (j := (3 : Int32)) hin_86 (g := (mkF m 140 #[.val (.int p0), .val (.int p1), .val (.int p2), .val (.int p3), .val (.int p4), .val (.int (own_cw p1)), .val (.int (own_cw p2)), .val (.int (own_cw p3)), .val (.int (own_cw p4)), .val (.int (p0 &&& (3 : Int32)))] [(.int (own_cw p4)), (.int (3 : Int32)), (.ref a_20), (.ref a_20), (.ref a_9), (.ref a_9)])) rfl rfl (hb hby d19_140)
  have N_87 := Fr.snoc X_82 N_71 (Nat.le_trans (own_n0 O_39) (Nat.le_of_eq g_21.symm))
  have V_88 : Arv Z h_81 a_20 k_14 .char (4 : Int32) [(.int (own_cw p1)), (.int (own_cw p2)), (.int (own_cw p3)), (.int (own_cw p4))] (.int (0 : Int32)) := by have q := Arv.set A_74 q_75 S_76 M_77 H_78 U_79 (fits_nar_char _) W_84 3 rfl (Nat.le_of_ble_eq_true rfl); rw [own_cw_nar] at q; exact q
  have E_89 : Exa Z h_81 a_9 "java/lang/String" := (((((A_6.ext E_17).wr W_35).wr W_52).wr W_68).wr W_84)
  have F_90 : Fld Z h_81 a_9 "java/lang/String" "value" "[B" .null := ((((((D_7 (Or.inr (w34 hw)) (ty := (.array .byte)) (by decide)).ext E_17).other W_35 (Or.inl (Nat.ne_of_lt (Nat.lt_of_lt_of_le A_6.lt (Nat.le_trans (Nat.le_refl _) (Nat.le_of_eq g_21.symm)))))).other W_52 (Or.inl (Nat.ne_of_lt (Nat.lt_of_lt_of_le A_6.lt (Nat.le_trans (Nat.le_refl _) (Nat.le_of_eq g_21.symm)))))).other W_68 (Or.inl (Nat.ne_of_lt (Nat.lt_of_lt_of_le A_6.lt (Nat.le_trans (Nat.le_refl _) (Nat.le_of_eq g_21.symm)))))).other W_84 (Or.inl (Nat.ne_of_lt (Nat.lt_of_lt_of_le A_6.lt (Nat.le_trans (Nat.le_refl _) (Nat.le_of_eq g_21.symm))))))
  have F_91 : Fld Z h_81 a_9 "java/lang/String" "coder" "B" (.int (0 : Int32)) := ((((((D_7 (Or.inr (w32 hw)) (ty := .byte) (by decide)).ext E_17).other W_35 (Or.inl (Nat.ne_of_lt (Nat.lt_of_lt_of_le A_6.lt (Nat.le_trans (Nat.le_refl _) (Nat.le_of_eq g_21.symm)))))).other W_52 (Or.inl (Nat.ne_of_lt (Nat.lt_of_lt_of_le A_6.lt (Nat.le_trans (Nat.le_refl _) (Nat.le_of_eq g_21.symm)))))).other W_68 (Or.inl (Nat.ne_of_lt (Nat.lt_of_lt_of_le A_6.lt (Nat.le_trans (Nat.le_refl _) (Nat.le_of_eq g_21.symm)))))).other W_84 (Or.inl (Nat.ne_of_lt (Nat.lt_of_lt_of_le A_6.lt (Nat.le_trans (Nat.le_refl _) (Nat.le_of_eq g_21.symm))))))
  have O_92 : Old Z n0 h_81 := (((((O_39.ext E_17).wr W_35 (Nat.le_trans (own_n0 O_39) (Nat.le_of_eq g_21.symm))).wr W_52 (Nat.le_trans (own_n0 O_39) (Nat.le_of_eq g_21.symm))).wr W_68 (Nat.le_trans (own_n0 O_39) (Nat.le_of_eq g_21.symm))).wr W_84 (Nat.le_trans (own_n0 O_39) (Nat.le_of_eq g_21.symm)))
  obtain ⟨_, _, ⟨T_93, L_93, k_93, n_93⟩, -, X_93, ⟨Lc_93, hQ_93, l_93, y_93, z_93⟩, st_93⟩ := X_82.specialBack hx (y := M222) rfl hown (mvT hZ (w9 hw)) (mvT hZ (w10 hw)) (mvT hZ (w11 hw)) (by decide) (backOf (W := 1) (rm_si1u_4 l Z a0 hw [] G1 HG h_81 n0 O_92 a_9 a_20 k_14 (own_cw p1) (own_cw p2) (own_cw p3) (own_cw p4) E_89 F_90 F_91 (Nat.le_trans (own_n0 X00) (Nat.le_of_eq g_10.symm)) V_88 (own_cw_lo p1) (own_cw_lo p2) (own_cw_lo p3) (own_cw_lo p4) (own_cw_hi p1) (own_cw_hi p2) (own_cw_hi p3) (own_cw_hi p4)) hZ (w11 hw) (w7 hw) (by decide) (by decide)) (g := (mkF m 141 #[.val (.int p0), .val (.int p1), .val (.int p2), .val (.int p3), .val (.int p4), .val (.int (own_cw p1)), .val (.int (own_cw p2)), .val (.int (own_cw p3)), .val (.int (own_cw p4)), .val (.int (p0 &&& (3 : Int32)))] [(.ref a_20), (.ref a_9), (.ref a_9)])) rfl (by rw [hml]; rfl) (Steps.refl _) (a := a_9) (argsL := [(.ref a_20)]) (rest := [(.ref a_9)]) (lenOf pd_397 rfl) rfl (by show 2 * 0 + _ ≤ _; exact Nat.le_of_eq rfl) (hb hby d19_141) (fun _ _ => ⟨rfl, e_83, (by decide : 2 + 2 ≤ _), (by decide : 8 + 12 ≤ _)⟩)
  dsimp only [Pt.U, Pt.locs, Pt.cells, Pt.slots] at X_93 l_93 y_93 z_93 st_93 hQ_93
  subst l_93 y_93 z_93
  have C_94 : Steps p.tables e below S0 (T_80.setTop (mkF m 141 #[.val (.int p0), .val (.int p1), .val (.int p2), .val (.int p3), .val (.int p4), .val (.int (own_cw p1)), .val (.int (own_cw p2)), .val (.int (own_cw p3)), .val (.int (own_cw p4)), .val (.int (p0 &&& (3 : Int32)))] [(.ref a_20), (.ref a_9), (.ref a_9)])) := by
    refine C0.trans ?_
    refine XS.iloadN X0.here hx rfl (hb hby d19_0) rfl ?_
    refine X0.ldcI hx hown (mvT hZ (w4 hw)) rfl (hb hby d19_1) ?_
    refine XS.iand X0.here hx rfl (hb hby d19_3) rfl ?_
    refine XS.i2c X0.here hx rfl (hb hby d19_4) rfl ?_
    refine XS.istore X0.here hx rfl (hb hby d19_5) rfl (l' := #[.val (.int p0), .val (.int p1), .val (.int p2), .val (.int p3), .val (.int p4), .val (.int (own_cw p1)), .unset, .unset, .unset, .unset]) rfl ?_
    refine XS.iloadN X0.here hx rfl (hb hby d19_7) rfl ?_
    refine X0.ldcI hx hown (mvT hZ (w4 hw)) rfl (hb hby d19_8) ?_
    refine XS.iand X0.here hx rfl (hb hby d19_10) rfl ?_
    show Steps p.tables e below (s₁.setTop (mkF m 11 #[.val (.int p0), .val (.int p1), .val (.int p2), .val (.int p3), .val (.int p4), .val (.int (own_cw p1)), .unset, .unset, .unset, .unset] [(.int (p2 &&& (65535 : Int32)))])) _
    refine XS.i2c X0.here hx rfl (hb hby d19_11) rfl ?_
    refine XS.istore X0.here hx rfl (hb hby d19_12) rfl (l' := #[.val (.int p0), .val (.int p1), .val (.int p2), .val (.int p3), .val (.int p4), .val (.int (own_cw p1)), .val (.int (own_cw p2)), .unset, .unset, .unset]) rfl ?_
    refine XS.iloadN X0.here hx rfl (hb hby d19_14) rfl ?_
    refine X0.ldcI hx hown (mvT hZ (w4 hw)) rfl (hb hby d19_15) ?_
    refine XS.iand X0.here hx rfl (hb hby d19_17) rfl ?_
    refine XS.i2c X0.here hx rfl (hb hby d19_18) rfl ?_
    refine XS.istore X0.here hx rfl (hb hby d19_19) rfl (l' := #[.val (.int p0), .val (.int p1), .val (.int p2), .val (.int p3), .val (.int p4), .val (.int (own_cw p1)), .val (.int (own_cw p2)), .val (.int (own_cw p3)), .unset, .unset]) rfl ?_
    refine XS.iload X0.here hx rfl (hb hby d19_21) rfl ?_
    show Steps p.tables e below (s₁.setTop (mkF m 23 #[.val (.int p0), .val (.int p1), .val (.int p2), .val (.int p3), .val (.int p4), .val (.int (own_cw p1)), .val (.int (own_cw p2)), .val (.int (own_cw p3)), .unset, .unset] [(.int p4)])) _
    refine X0.ldcI hx hown (mvT hZ (w4 hw)) rfl (hb hby d19_23) ?_
    refine XS.iand X0.here hx rfl (hb hby d19_25) rfl ?_
    refine XS.i2c X0.here hx rfl (hb hby d19_26) rfl ?_
    refine XS.istore X0.here hx rfl (hb hby d19_27) rfl (l' := #[.val (.int p0), .val (.int p1), .val (.int p2), .val (.int p3), .val (.int p4), .val (.int (own_cw p1)), .val (.int (own_cw p2)), .val (.int (own_cw p3)), .val (.int (own_cw p4)), .unset]) rfl ?_
    refine XS.iloadN X0.here hx rfl (hb hby d19_29) rfl ?_
    refine XS.iconst X0.here hx rfl (hb hby d19_30) ?_
    refine XS.iand X0.here hx rfl (hb hby d19_31) rfl ?_
    refine XS.istore X0.here hx rfl (hb hby d19_32) rfl (l' := #[.val (.int p0), .val (.int p1), .val (.int p2), .val (.int p3), .val (.int p4), .val (.int (own_cw p1)), .val (.int (own_cw p2)), .val (.int (own_cw p3)), .val (.int (own_cw p4)), .val (.int (p0 &&& (3 : Int32)))]) rfl ?_
    show Steps p.tables e below (s₁.setTop (mkF m 34 #[.val (.int p0), .val (.int p1), .val (.int p2), .val (.int p3), .val (.int p4), .val (.int (own_cw p1)), .val (.int (own_cw p2)), .val (.int (own_cw p3)), .val (.int (own_cw p4)), .val (.int (p0 &&& (3 : Int32)))] [])) _
    refine XS.iload X0.here hx rfl (hb hby d19_34) rfl ?_
    refine XS.ifYes X0.here hx rfl (pc0 := 36) (pc' := 55) rfl (hb hby d19_36) rfl (i0_ne_t hk0) (by decide) (by decide) ?_
    refine XS.iload X0.here hx rfl (hb hby d19_55) rfl ?_
    refine XS.iconst X0.here hx rfl (hb hby d19_57) ?_
    refine XS.icmpYes X0.here hx rfl (pc0 := 58) (pc' := 82) rfl (hb hby d19_58) rfl (ii_ne_t hk1) (by decide) (by decide) ?_
    refine XS.iload X0.here hx rfl (hb hby d19_82) rfl ?_
    refine XS.iconst X0.here hx rfl (hb hby d19_84) ?_
    refine XS.icmpYes X0.here hx rfl (pc0 := 85) (pc' := 114) rfl (hb hby d19_85) rfl (ii_ne_t hk2) (by decide) (by decide) ?_
    show Steps p.tables e below (s₁.setTop (mkF m 114 #[.val (.int p0), .val (.int p1), .val (.int p2), .val (.int p3), .val (.int p4), .val (.int (own_cw p1)), .val (.int (own_cw p2)), .val (.int (own_cw p3)), .val (.int (own_cw p4)), .val (.int (p0 &&& (3 : Int32)))] [])) _
    refine st_8 _ ?_
    refine XS.dup X_3.here hx rfl (hb hby d19_117) rfl rfl ?_
    refine XS.iconst X_3.here hx rfl (hb hby d19_118) ?_
    refine st_19 _ ?_
    refine XS.dup X_15.here hx rfl (hb hby d19_121) rfl rfl ?_
    refine XS.iconst X_15.here hx rfl (hb hby d19_122) ?_
    refine XS.iload X_15.here hx rfl (hb hby d19_123) rfl ?_
    refine st_36 _ ?_
    show Steps p.tables e below (T_31.setTop (mkF m 126 #[.val (.int p0), .val (.int p1), .val (.int p2), .val (.int p3), .val (.int p4), .val (.int (own_cw p1)), .val (.int (own_cw p2)), .val (.int (own_cw p3)), .val (.int (own_cw p4)), .val (.int (p0 &&& (3 : Int32)))] [(.ref a_20), (.ref a_9), (.ref a_9)])) _
    refine XS.dup X_33.here hx rfl (hb hby d19_126) rfl rfl ?_
    refine XS.iconst X_33.here hx rfl (hb hby d19_127) ?_
    refine XS.iload X_33.here hx rfl (hb hby d19_128) rfl ?_
    refine st_53 _ ?_
    refine XS.dup X_50.here hx rfl (hb hby d19_131) rfl rfl ?_
    refine XS.iconst X_50.here hx rfl (hb hby d19_132) ?_
    refine XS.iload X_50.here hx rfl (hb hby d19_133) rfl ?_
    refine st_69 _ ?_
    show Steps p.tables e below (T_64.setTop (mkF m 136 #[.val (.int p0), .val (.int p1), .val (.int p2), .val (.int p3), .val (.int p4), .val (.int (own_cw p1)), .val (.int (own_cw p2)), .val (.int (own_cw p3)), .val (.int (own_cw p4)), .val (.int (p0 &&& (3 : Int32)))] [(.ref a_20), (.ref a_9), (.ref a_9)])) _
    refine XS.dup X_66.here hx rfl (hb hby d19_136) rfl rfl ?_
    refine XS.iconst X_66.here hx rfl (hb hby d19_137) ?_
    refine XS.iload X_66.here hx rfl (hb hby d19_138) rfl ?_
    refine st_85 _ ?_
    exact Steps.refl _
  rcases hQ_93 with hQ_95 | hQ_96
  · skip
    obtain ⟨a_97, k_98, rfl, N_99, K_100, g_101, g_102, g_103, g_104, g_105⟩ := hQ_95
    have N_106 := Fr.app N_87 N_99
    have C_107 : Steps p.tables e below S0 (T_93.setTop (mkF m 144 #[.val (.int p0), .val (.int p1), .val (.int p2), .val (.int p3), .val (.int p4), .val (.int (own_cw p1)), .val (.int (own_cw p2)), .val (.int (own_cw p3)), .val (.int (own_cw p4)), .val (.int (p0 &&& (3 : Int32)))] [(.ref a_9)])) := by
      refine C_94.trans ?_
      refine st_93.trans ?_
      exact Steps.refl _
    have K_108 : Keep h0 T_93.heap [] := ((((((((Keep.refl _ _).ext E_5).ext E_17).wr W_35 (Or.inr (Nat.le_trans E_5.1 (Nat.le_of_eq g_21.symm)))).wr W_52 (Or.inr (Nat.le_trans E_5.1 (Nat.le_of_eq g_21.symm)))).wr W_68 (Or.inr (Nat.le_trans E_5.1 (Nat.le_of_eq g_21.symm)))).wr W_84 (Or.inr (Nat.le_trans E_5.1 (Nat.le_of_eq g_21.symm)))).trans K_100 (allS (Or.inr (Nat.le_trans (Nat.le_refl _) (Nat.le_of_eq g_10.symm))) all0))
    obtain ⟨fs, hr, hrun, hended, hW, hsame⟩ := X_93.leave (v := some (.ref a_9)) (fun h => by rw [Bd.returns] at h; cases h)
    refine ⟨_, _, C_107.trans (retOut X_93 hx Bd.returns rfl (Or.inr (Or.inr (Or.inr (Or.inr ⟨rfl, rfl, rfl⟩)))) (hb hby d19_144) hr), hrun, hended, _, _, rfl, ?_, ⟨_, rfl⟩, hW, hsame.mono (by decide) (by decide)⟩
    show Q_text_3 Z G1 p0 p1 p2 p3 p4 h0 n0 (some (.ref a_9)) T_93.heap _
    exact Or.inl ⟨a_9, a_97, k_98, rfl, N_106, K_108, (Nat.le_trans (Nat.le_refl _) (Nat.le_of_eq g_10.symm)), g_101, g_102, g_103, (Nat.le_trans (Nat.le_trans (Nat.le_trans (Nat.le_trans (Nat.le_trans (Nat.le_trans E_5.1 E_17.1) (Keep.of_wr W_35).1) (Keep.of_wr W_52).1) (Keep.of_wr W_68).1) (Keep.of_wr W_84).1) g_104), g_105⟩
  · skip
    obtain ⟨a_109, k_110, rfl, N_111, K_112, g_113, g_114, g_115, g_116, g_117⟩ := hQ_96
    have N_118 := Fr.app N_87 N_111
    have C_119 : Steps p.tables e below S0 (T_93.setTop (mkF m 144 #[.val (.int p0), .val (.int p1), .val (.int p2), .val (.int p3), .val (.int p4), .val (.int (own_cw p1)), .val (.int (own_cw p2)), .val (.int (own_cw p3)), .val (.int (own_cw p4)), .val (.int (p0 &&& (3 : Int32)))] [(.ref a_9)])) := by
      refine C_94.trans ?_
      refine st_93.trans ?_
      exact Steps.refl _
    have K_120 : Keep h0 T_93.heap [] := ((((((((Keep.refl _ _).ext E_5).ext E_17).wr W_35 (Or.inr (Nat.le_trans E_5.1 (Nat.le_of_eq g_21.symm)))).wr W_52 (Or.inr (Nat.le_trans E_5.1 (Nat.le_of_eq g_21.symm)))).wr W_68 (Or.inr (Nat.le_trans E_5.1 (Nat.le_of_eq g_21.symm)))).wr W_84 (Or.inr (Nat.le_trans E_5.1 (Nat.le_of_eq g_21.symm)))).trans K_112 (allS (Or.inr (Nat.le_trans (Nat.le_refl _) (Nat.le_of_eq g_10.symm))) all0))
    obtain ⟨fs, hr, hrun, hended, hW, hsame⟩ := X_93.leave (v := some (.ref a_9)) (fun h => by rw [Bd.returns] at h; cases h)
    refine ⟨_, _, C_119.trans (retOut X_93 hx Bd.returns rfl (Or.inr (Or.inr (Or.inr (Or.inr ⟨rfl, rfl, rfl⟩)))) (hb hby d19_144) hr), hrun, hended, _, _, rfl, ?_, ⟨_, rfl⟩, hW, hsame.mono (by decide) (by decide)⟩
    show Q_text_3 Z G1 p0 p1 p2 p3 p4 h0 n0 (some (.ref a_9)) T_93.heap _
    exact Or.inr (⟨a_9, a_109, k_110, rfl, N_118, K_120, (Nat.le_trans (Nat.le_refl _) (Nat.le_of_eq g_10.symm)), g_113, g_114, g_115, (Nat.le_trans (Nat.le_trans (Nat.le_trans (Nat.le_trans (Nat.le_trans (Nat.le_trans E_5.1 E_17.1) (Keep.of_wr W_35).1) (Keep.of_wr W_52).1) (Keep.of_wr W_68).1) (Keep.of_wr W_84).1) g_116), g_117⟩)
theorem ef_462 (m : MethodId) (x0 : Int32) (x1 : Int32) (x2 : Int32) (x3 : Int32) (x4 : Int32) (x5 : Int32) : entryFrame m #[(.int x0), (.int x1), (.int x2), (.int x3), (.int x4), (.int x5)] maxLocals = mkF m 0 #[.val (.int x0), .val (.int x1), .val (.int x2), .val (.int x3), .val (.int x4), .val (.int x5), .unset, .unset, .unset] [] := by first | (simp [entryFrame, mkF, argsToLocals, Value.category, maxLocals]; done) | rfl
theorem w3 {Z : State} {a0 : Array Value} (hw : ∀ d ∈ tables_1, d.before a0 Z = true) : Jvm.Cond.before (Jvm.Cond.code ({ cls := "com/example/fleetyard/fleetyard/io/ValuesIdPinLaw", name := "text", desc := "(IIIII)Ljava/lang/String;" } : Jvm.MethodName) method_2_code (10 : Nat) (Option.some (Jvm.ClassFile.FieldType.object "java/lang/String"))) a0 Z = true := hw _ (List.mem_of_getElem? (i := 3) rfl)
theorem w2 {Z : State} {a0 : Array Value} (hw : ∀ d ∈ tables_1, d.before a0 Z = true) : Jvm.Cond.before (Jvm.Cond.initialized "com/example/fleetyard/fleetyard/io/ValuesIdPinLaw") a0 Z = true := hw _ (List.mem_of_getElem? (i := 2) rfl)
theorem pd_465 : parseMethodDescriptor "(IIIII)Ljava/lang/String;" = some ⟨[.int, .int, .int, .int, .int], some (.object "java/lang/String")⟩ := by decide +kernel
theorem w0 {Z : State} {a0 : Array Value} (hw : ∀ d ∈ tables_1, d.before a0 Z = true) : Jvm.Cond.before (Jvm.Cond.methodLink "com/example/fleetyard/fleetyard/io/ValuesIdPinLaw" (13 : Nat) ({ cls := "com/example/fleetyard/fleetyard/io/ValuesIdPinLaw", name := "text", desc := "(IIIII)Ljava/lang/String;" } : Jvm.MethodName)) a0 Z = true := hw _ (List.mem_of_getElem? (i := 0) rfl)
theorem w1 {Z : State} {a0 : Array Value} (hw : ∀ d ∈ tables_1, d.before a0 Z = true) : Jvm.Cond.before (Jvm.Cond.static ({ cls := "com/example/fleetyard/fleetyard/io/ValuesIdPinLaw", name := "text", desc := "(IIIII)Ljava/lang/String;" } : Jvm.MethodName)) a0 Z = true := hw _ (List.mem_of_getElem? (i := 1) rfl)
theorem w37 {Z : State} {a0 : Array Value} (hw : ∀ d ∈ tables_1, d.before a0 Z = true) : Jvm.Cond.before (Jvm.Cond.code ({ cls := "java/lang/String", name := "valueOf", desc := "(C)Ljava/lang/String;" } : Jvm.MethodName) jdk_42_method_139_code (1 : Nat) (Option.some (Jvm.ClassFile.FieldType.object "java/lang/String"))) a0 Z = true := hw _ (List.mem_of_getElem? (i := 37) rfl)
theorem pd_469 : parseMethodDescriptor "(C)Ljava/lang/String;" = some ⟨[.char], some (.object "java/lang/String")⟩ := by decide +kernel
theorem w35 {Z : State} {a0 : Array Value} (hw : ∀ d ∈ tables_1, d.before a0 Z = true) : Jvm.Cond.before (Jvm.Cond.methodLink "com/example/fleetyard/fleetyard/io/ValuesIdPinLaw" (19 : Nat) ({ cls := "java/lang/String", name := "valueOf", desc := "(C)Ljava/lang/String;" } : Jvm.MethodName)) a0 Z = true := hw _ (List.mem_of_getElem? (i := 35) rfl)
theorem w36 {Z : State} {a0 : Array Value} (hw : ∀ d ∈ tables_1, d.before a0 Z = true) : Jvm.Cond.before (Jvm.Cond.static ({ cls := "java/lang/String", name := "valueOf", desc := "(C)Ljava/lang/String;" } : Jvm.MethodName)) a0 Z = true := hw _ (List.mem_of_getElem? (i := 36) rfl)
theorem w52 {Z : State} {a0 : Array Value} (hw : ∀ d ∈ tables_1, d.before a0 Z = true) : Jvm.Cond.before (Jvm.Cond.code ({ cls := "com/example/fleetyard/fleetyard/io/Values", name := "id", desc := "(Ljava/lang/String;Ljava/lang/String;)Ljava/lang/String;" } : Jvm.MethodName) prog_27_method_2_code (2 : Nat) (Option.some (Jvm.ClassFile.FieldType.object "java/lang/String"))) a0 Z = true := hw _ (List.mem_of_getElem? (i := 52) rfl)
theorem w51 {Z : State} {a0 : Array Value} (hw : ∀ d ∈ tables_1, d.before a0 Z = true) : Jvm.Cond.before (Jvm.Cond.initialized "com/example/fleetyard/fleetyard/io/Values") a0 Z = true := hw _ (List.mem_of_getElem? (i := 51) rfl)
theorem pd_474 : parseMethodDescriptor "(Ljava/lang/String;Ljava/lang/String;)Ljava/lang/String;" = some ⟨[(.object "java/lang/String"), (.object "java/lang/String")], some (.object "java/lang/String")⟩ := by decide +kernel
theorem w49 {Z : State} {a0 : Array Value} (hw : ∀ d ∈ tables_1, d.before a0 Z = true) : Jvm.Cond.before (Jvm.Cond.methodLink "com/example/fleetyard/fleetyard/io/ValuesIdPinLaw" (23 : Nat) ({ cls := "com/example/fleetyard/fleetyard/io/Values", name := "id", desc := "(Ljava/lang/String;Ljava/lang/String;)Ljava/lang/String;" } : Jvm.MethodName)) a0 Z = true := hw _ (List.mem_of_getElem? (i := 49) rfl)
theorem w50 {Z : State} {a0 : Array Value} (hw : ∀ d ∈ tables_1, d.before a0 Z = true) : Jvm.Cond.before (Jvm.Cond.static ({ cls := "com/example/fleetyard/fleetyard/io/Values", name := "id", desc := "(Ljava/lang/String;Ljava/lang/String;)Ljava/lang/String;" } : Jvm.MethodName)) a0 Z = true := hw _ (List.mem_of_getElem? (i := 50) rfl)
theorem w62 {Z : State} {a0 : Array Value} (hw : ∀ d ∈ tables_1, d.before a0 Z = true) : Jvm.Cond.before (Jvm.Cond.code ({ cls := "java/lang/String", name := "length", desc := "()I" } : Jvm.MethodName) jdk_42_method_54_code (1 : Nat) (Option.some Jvm.ClassFile.FieldType.int)) a0 Z = true := hw _ (List.mem_of_getElem? (i := 62) rfl)
theorem pd_478 : parseMethodDescriptor "()I" = some ⟨[], some .int⟩ := by decide +kernel
theorem w58 {Z : State} {a0 : Array Value} (hw : ∀ d ∈ tables_1, d.before a0 Z = true) : Jvm.Cond.before (Jvm.Cond.methodLink "com/example/fleetyard/fleetyard/io/ValuesIdPinLaw" (29 : Nat) ({ cls := "java/lang/String", name := "length", desc := "()I" } : Jvm.MethodName)) a0 Z = true := hw _ (List.mem_of_getElem? (i := 58) rfl)
theorem w61 {Z : State} {a0 : Array Value} (hw : ∀ d ∈ tables_1, d.before a0 Z = true) : Jvm.Cond.before (Jvm.Cond.selects "java/lang/String" ({ cls := "java/lang/String", name := "length", desc := "()I" } : Jvm.MethodName) ({ cls := "java/lang/String", name := "length", desc := "()I" } : Jvm.MethodName)) a0 Z = true := hw _ (List.mem_of_getElem? (i := 61) rfl)
theorem w60 {Z : State} {a0 : Array Value} (hw : ∀ d ∈ tables_1, d.before a0 Z = true) : Jvm.Cond.before (Jvm.Cond.instanceMethod ({ cls := "java/lang/String", name := "length", desc := "()I" } : Jvm.MethodName)) a0 Z = true := hw _ (List.mem_of_getElem? (i := 60) rfl)
theorem w59 {Z : State} {a0 : Array Value} (hw : ∀ d ∈ tables_1, d.before a0 Z = true) : Jvm.Cond.before (Jvm.Cond.declares ({ cls := "java/lang/String", name := "length", desc := "()I" } : Jvm.MethodName)) a0 Z = true := hw _ (List.mem_of_getElem? (i := 59) rfl)
def Q_law (Z : State) (G1 : Int32) (p0 : Int32) (p1 : Int32) (p2 : Int32) (p3 : Int32) (p4 : Int32) (p5 : Int32) (h0 : Heap) (n0 : Nat) (v : Option Value) (h : Heap) (L : List Loc) : Prop := (v = some (.int (1 : Int32)) ∧ Fr n0 L ∧ Keep h0 h [])
set_option maxRecDepth 65536 in
set_option maxHeartbeats 40000000 in
theorem rm_law (l : Launch) (Z : State) (a0 : Array Value) (hw : ∀ d ∈ tables_1, d.before a0 Z = true) (ws : List Jvm.Cond) (G1 : Int32) (HG : own_G l Z a0 G1) (h0 : Heap) (n0 : Nat) (X00 : Old Z n0 h0) (p0 : Int32) (p1 : Int32) (p2 : Int32) (p3 : Int32) (p4 : Int32) (p5 : Int32)  :
    own_CP l Z x code maxLocals ret ws room_1 #[(.int p0), (.int p1), (.int p2), (.int p3), (.int p4), (.int p5)] h0 (Q_law Z G1 p0 p1 p2 p3 p4 p5 h0 n0) := by
  refine own_P (plainFor_of_name pn_358) ?_
  intro p e s m below meth c s₁ S0 Bd hZ hh hx hby hml hown hnm X0 e0 hS0d
  obtain ⟨O1, P1, OAD, OHI, OLO⟩ := id HG
  have N0 := Fr.nil n0
  have C0 : Steps p.tables e below S0 (s₁.setTop (mkF m 0 #[.val (.int p0), .val (.int p1), .val (.int p2), .val (.int p3), .val (.int p4), .val (.int p5), .unset, .unset, .unset] [])) := by rw [hS0d]; exact castTop (ef_462 m p0 p1 p2 p3 p4 p5) (Steps.refl _)
  rcases own_and3 p0 with hn_1 | hn_2 | hn_3 | hn_4
  · skip
    obtain ⟨_, _, ⟨T_5, L_5, k_5, n_5⟩, -, X_5, ⟨Lc_5, hQ_5, l_5, y_5, z_5⟩, st_5⟩ := Jvm.LawKit.callS X0 hx (y := M356) hown (mvT hZ (w0 hw)) (mvT hZ (w1 hw)) (mvT hZ (w2 hw)) (mvT hZ (w3 hw)) (by decide) (backOf (W := 0) (rm_text_0 l Z a0 hw [] G1 HG h0 n0 X00 p0 p1 p2 p3 p4 hn_1) hZ (w3 hw) (w2 hw) (by decide) (by decide)) (g := (mkF m 6 #[.val (.int p0), .val (.int p1), .val (.int p2), .val (.int p3), .val (.int p4), .val (.int p5), .unset, .unset, .unset] [(.int p4), (.int p3), (.int p2), (.int p1), (.int p0)])) rfl (by rw [hml]; rfl) (argsL := [(.int p0), (.int p1), (.int p2), (.int p3), (.int p4)]) (rest := []) (lenOf pd_465 rfl) rfl (by show 2 * 0 + _ ≤ _; exact Nat.le_of_eq rfl) (hb hby at_6) (fun _ _ => ⟨rfl, e0, (by decide : 0 + 4 ≤ _), (by decide : 0 + 8 ≤ _)⟩)
    dsimp only [Pt.U, Pt.locs, Pt.cells, Pt.slots] at X_5 l_5 y_5 z_5 st_5 hQ_5
    subst l_5 y_5 z_5
    have C_6 : Steps p.tables e below S0 (s₁.setTop (mkF m 6 #[.val (.int p0), .val (.int p1), .val (.int p2), .val (.int p3), .val (.int p4), .val (.int p5), .unset, .unset, .unset] [(.int p4), (.int p3), (.int p2), (.int p1), (.int p0)])) := by
      refine C0.trans ?_
      refine XS.iloadN X0.here hx rfl (hb hby at_0) rfl ?_
      refine XS.iloadN X0.here hx rfl (hb hby at_1) rfl ?_
      refine XS.iloadN X0.here hx rfl (hb hby at_2) rfl ?_
      refine XS.iloadN X0.here hx rfl (hb hby at_3) rfl ?_
      refine XS.iload X0.here hx rfl (hb hby at_4) rfl ?_
      exact Steps.refl _
    rcases hQ_5 with hQ_7 | hQ_8
    · skip
      obtain ⟨a_9, a_10, k_11, rfl, N_12, K_13, g_14, g_15, g_16, g_17, g_18, g_19⟩ := hQ_7
      have N_20 := Fr.app N0 N_12
      have O_21 : Old Z n0 T_5.heap := (X00.keep K_13 all0)
      obtain ⟨_, _, ⟨T_22, L_22, k_22, n_22⟩, -, X_22, ⟨Lc_22, hQ_22, l_22, y_22, z_22⟩, st_22⟩ := Jvm.LawKit.callS X_5 hx (y := M277) hown (mvT hZ (w35 hw)) (mvT hZ (w36 hw)) (mvT hZ (w7 hw)) (mvT hZ (w37 hw)) (by decide) (backOf (W := 0) (rm_valof l Z a0 hw [] G1 HG T_5.heap n0 O_21 (own_cw p5) ) hZ (w37 hw) (w7 hw) (by decide) (by decide)) (g := (mkF m 17 #[.val (.int p0), .val (.int p1), .val (.int p2), .val (.int p3), .val (.int p4), .val (.int p5), .val (.ref a_9), .unset, .unset] [(.int (own_cw p5))])) rfl (by rw [hml]; rfl) (argsL := [(.int (own_cw p5))]) (rest := []) (lenOf pd_469 rfl) rfl (by show 2 * 0 + _ ≤ _; exact Nat.le_of_eq rfl) (hb hby at_17) (fun _ _ => ⟨rfl, rfl, (by decide : 4 + 2 ≤ _), (by decide : 8 + 6 ≤ _)⟩)
      dsimp only [Pt.U, Pt.locs, Pt.cells, Pt.slots] at X_22 l_22 y_22 z_22 st_22 hQ_22
      subst l_22 y_22 z_22
      obtain ⟨a_23, rfl, N_24, K_25, g_26, g_27⟩ := hQ_22
      have N_28 := Fr.app N_20 N_24
      have E_29 : Exa Z T_22.heap a_9 "java/lang/String" := (g_15.keep K_25)
      have F_30 : Fld Z T_22.heap a_9 "java/lang/String" "coder" "B" (.int (0 : Int32)) := (g_16.keep K_25 nin0)
      have F_31 : Fld Z T_22.heap a_9 "java/lang/String" "value" "[B" (.ref a_10) := (g_17.keep K_25 nin0)
      have V_32 : Arv Z T_22.heap a_10 k_11 .byte (1 : Int32) [(.int (own_lo8 (own_cw p1)))] (.int (0 : Int32)) := (g_19.keep K_25 nin0)
      have O_33 : Old Z n0 T_22.heap := (O_21.keep K_25 all0)
      obtain ⟨_, _, ⟨T_34, L_34, k_34, n_34⟩, -, X_34, ⟨Lc_34, hQ_34, l_34, y_34, z_34⟩, st_34⟩ := Jvm.LawKit.callS X_22 hx (y := M343) hown (mvT hZ (w49 hw)) (mvT hZ (w50 hw)) (mvT hZ (w51 hw)) (mvT hZ (w52 hw)) (by decide) (backOf (W := 0) (rm_id_1_0 l Z a0 hw [] G1 HG T_22.heap n0 O_33 a_9 a_10 k_11 [(.int (own_lo8 (own_cw p1)))] a_23 E_29 F_30 F_31 V_32) hZ (w52 hw) (w51 hw) (by decide) (by decide)) (g := (mkF m 26 #[.val (.int p0), .val (.int p1), .val (.int p2), .val (.int p3), .val (.int p4), .val (.int p5), .val (.ref a_9), .val (.ref a_23), .unset] [(.ref a_23), (.ref a_9)])) rfl (by rw [hml]; rfl) (argsL := [(.ref a_9), (.ref a_23)]) (rest := []) (lenOf pd_474 rfl) rfl (by show 2 * 0 + _ ≤ _; exact Nat.le_of_eq rfl) (hb hby at_26) (fun _ _ => ⟨rfl, rfl, (by decide : 6 + 0 ≤ _), (by decide : 14 + 0 ≤ _)⟩)
      dsimp only [Pt.U, Pt.locs, Pt.cells, Pt.slots] at X_34 l_34 y_34 z_34 st_34 hQ_34
      subst l_34 y_34 z_34
      obtain ⟨rfl, N_35, e_36⟩ := hQ_34
      have N_37 := Fr.app N_28 N_35
      have e_38 : T_34.heap = T_22.heap := e_36
      obtain ⟨q_40, q_41, q_42, q_43, q_44⟩ := isOf (T := T_34) hZ e_38 E_29
      obtain ⟨_, _, ⟨T_39, L_39, k_39, n_39⟩, -, X_39, ⟨Lc_39, hQ_39, l_39, y_39, z_39⟩, st_39⟩ := X_34.virtualBack hx (y := M322) (z := M322) hown (mvT hZ (w58 hw)) (mvT hZ (w59 hw)) (notFace_of_selects (args := #[]) (mvT hZ (w61 hw))) (mvT hZ (w61 hw)) (mvT hZ (w60 hw)) (by decide) (backOf (W := 0) (rm_len_1_0 l Z a0 hw [] G1 HG T_22.heap n0 O_33 a_9 a_10 k_11 [(.int (own_lo8 (own_cw p1)))] E_29 F_30 F_31 V_32) hZ (w62 hw) (w7 hw) (by decide) (by decide)) q_42 q_44 (g := (mkF m 40 #[.val (.int p0), .val (.int p1), .val (.int p2), .val (.int p3), .val (.int p4), .val (.int p5), .val (.ref a_9), .val (.ref a_23), .val (.ref a_9)] [(.ref a_9)])) rfl (by rw [hml]; rfl) (Steps.refl _) (argsL := []) (rest := []) (lenOf pd_478 rfl) rfl (by show 2 * 0 + _ ≤ _; exact Nat.le_of_eq rfl) (hb hby at_40) (fun _ _ => ⟨rfl, e_38, (by decide : 6 + 0 ≤ _), (by decide : 14 + 0 ≤ _)⟩)
      dsimp only [Pt.U, Pt.locs, Pt.cells, Pt.slots] at X_39 l_39 y_39 z_39 st_39 hQ_39
      subst l_39 y_39 z_39
      obtain ⟨rfl, N_45, e_46⟩ := hQ_39
      have N_47 := Fr.app N_37 N_45
      have e_48 : T_39.heap = T_22.heap := e_46
      have C_49 : Steps p.tables e below S0 (T_39.setTop (mkF m 56 #[.val (.int p0), .val (.int p1), .val (.int p2), .val (.int p3), .val (.int p4), .val (.int p5), .val (.ref a_9), .val (.ref a_23), .val (.ref a_9)] [(.int (1 : Int32))])) := by
        refine C_6.trans ?_
        refine st_5 _ ?_
        refine XS.astore X_5.here hx rfl (hb hby at_9) rfl rfl (l' := #[.val (.int p0), .val (.int p1), .val (.int p2), .val (.int p3), .val (.int p4), .val (.int p5), .val (.ref a_9), .unset, .unset]) rfl ?_
        refine XS.iload X_5.here hx rfl (hb hby at_11) rfl ?_
        refine X_5.ldcI hx hown (mvT hZ (w4 hw)) rfl (hb hby at_13) ?_
        refine XS.iand X_5.here hx rfl (hb hby at_15) rfl ?_
        refine XS.i2c X_5.here hx rfl (hb hby at_16) rfl ?_
        refine st_22 _ ?_
        refine XS.astore X_22.here hx rfl (hb hby at_20) rfl rfl (l' := #[.val (.int p0), .val (.int p1), .val (.int p2), .val (.int p3), .val (.int p4), .val (.int p5), .val (.ref a_9), .val (.ref a_23), .unset]) rfl ?_
        show Steps p.tables e below (T_22.setTop (mkF m 22 #[.val (.int p0), .val (.int p1), .val (.int p2), .val (.int p3), .val (.int p4), .val (.int p5), .val (.ref a_9), .val (.ref a_23), .unset] [])) _
        refine XS.aload X_22.here hx rfl (hb hby at_22) rfl rfl ?_
        refine XS.aload X_22.here hx rfl (hb hby at_24) rfl rfl ?_
        refine st_34 _ ?_
        refine XS.astore X_34.here hx rfl (hb hby at_29) rfl rfl (l' := #[.val (.int p0), .val (.int p1), .val (.int p2), .val (.int p3), .val (.int p4), .val (.int p5), .val (.ref a_9), .val (.ref a_23), .val (.ref a_9)]) rfl ?_
        refine XS.aload X_34.here hx rfl (hb hby at_31) rfl rfl ?_
        refine XS.aload X_34.here hx rfl (hb hby at_33) rfl rfl ?_
        refine acmp X_34 hx rfl (cd := .ne) (x := (.ref a_9)) (y := (.ref a_9)) rfl rfl (same := true) (pc0 := 35) (pc' := 38) rfl (hb hby at_35) rfl (decide_eq_true rfl) (by decide) (by decide) ?_
        refine XS.aload X_34.here hx rfl (hb hby at_38) rfl rfl ?_
        show Steps p.tables e below (T_34.setTop (mkF m 40 #[.val (.int p0), .val (.int p1), .val (.int p2), .val (.int p3), .val (.int p4), .val (.int p5), .val (.ref a_9), .val (.ref a_23), .val (.ref a_9)] [(.ref a_9)])) _
        refine st_39.trans ?_
        refine XS.iloadN X_39.here hx rfl (hb hby at_43) rfl ?_
        refine XS.iconst X_39.here hx rfl (hb hby at_44) ?_
        refine XS.iand X_39.here hx rfl (hb hby at_45) rfl ?_
        refine XS.iconst X_39.here hx rfl (hb hby at_46) ?_
        refine XS.iadd X_39.here hx rfl (hb hby at_47) rfl ?_
        refine XS.icmpNo X_39.here hx rfl (hb hby at_48) rfl (ii_ne_f (show (1 : Int32) = ((p0 &&& (3 : Int32)) + (1 : Int32)) by rw [hn_1]; decide)) ?_
        refine XS.iconst X_39.here hx rfl (hb hby at_51) ?_
        show Steps p.tables e below (T_39.setTop (mkF m 52 #[.val (.int p0), .val (.int p1), .val (.int p2), .val (.int p3), .val (.int p4), .val (.int p5), .val (.ref a_9), .val (.ref a_23), .val (.ref a_9)] [(.int (1 : Int32))])) _
        refine XS.goto X_39.here hx rfl (pc0 := 52) (pc' := 56) rfl (hb hby at_52) (by decide) (by decide) ?_
        exact Steps.refl _
      have K_50 : Keep h0 T_22.heap [] := (((Keep.refl _ _).trans K_13 all0).trans K_25 all0)
      obtain ⟨fs, hr, hrun, hended, hW, hsame⟩ := X_39.leave (v := some (.int (1 : Int32))) (fun h => by rw [Bd.returns] at h; cases h)
      refine ⟨_, _, C_49.trans (retN X_39 hx (t := .boolean) Bd.returns (by simp) (hb hby at_56) hr), hrun, hended, _, _, rfl, ?_, ⟨_, rfl⟩, hW, hsame.mono (by decide) (by decide)⟩
      show Q_law Z G1 p0 p1 p2 p3 p4 p5 h0 n0 (some (.int (1 : Int32))) T_39.heap _
      rw [e_48]
      exact ⟨rfl, N_47, K_50⟩
    · skip
      obtain ⟨a_51, a_52, k_53, rfl, N_54, K_55, g_56, g_57, g_58, g_59, g_60, g_61⟩ := hQ_8
      have N_62 := Fr.app N0 N_54
      have O_63 : Old Z n0 T_5.heap := (X00.keep K_55 all0)
      obtain ⟨_, _, ⟨T_64, L_64, k_64, n_64⟩, -, X_64, ⟨Lc_64, hQ_64, l_64, y_64, z_64⟩, st_64⟩ := Jvm.LawKit.callS X_5 hx (y := M277) hown (mvT hZ (w35 hw)) (mvT hZ (w36 hw)) (mvT hZ (w7 hw)) (mvT hZ (w37 hw)) (by decide) (backOf (W := 0) (rm_valof l Z a0 hw [] G1 HG T_5.heap n0 O_63 (own_cw p5) ) hZ (w37 hw) (w7 hw) (by decide) (by decide)) (g := (mkF m 17 #[.val (.int p0), .val (.int p1), .val (.int p2), .val (.int p3), .val (.int p4), .val (.int p5), .val (.ref a_51), .unset, .unset] [(.int (own_cw p5))])) rfl (by rw [hml]; rfl) (argsL := [(.int (own_cw p5))]) (rest := []) (lenOf pd_469 rfl) rfl (by show 2 * 0 + _ ≤ _; exact Nat.le_of_eq rfl) (hb hby at_17) (fun _ _ => ⟨rfl, rfl, (by decide : 4 + 2 ≤ _), (by decide : 8 + 6 ≤ _)⟩)
      dsimp only [Pt.U, Pt.locs, Pt.cells, Pt.slots] at X_64 l_64 y_64 z_64 st_64 hQ_64
      subst l_64 y_64 z_64
      obtain ⟨a_65, rfl, N_66, K_67, g_68, g_69⟩ := hQ_64
      have N_70 := Fr.app N_62 N_66
      have E_71 : Exa Z T_64.heap a_51 "java/lang/String" := (g_57.keep K_67)
      have F_72 : Fld Z T_64.heap a_51 "java/lang/String" "coder" "B" (.int (1 : Int32)) := (g_58.keep K_67 nin0)
      have F_73 : Fld Z T_64.heap a_51 "java/lang/String" "value" "[B" (.ref a_52) := (g_59.keep K_67 nin0)
      have V_74 : Arv Z T_64.heap a_52 k_53 .byte (2 : Int32) [(.int (own_lo8z (own_cw p1))), (.int (own_hi8 (own_cw p1)))] (.int (0 : Int32)) := (g_61.keep K_67 nin0)
      have O_75 : Old Z n0 T_64.heap := (O_63.keep K_67 all0)
      obtain ⟨_, _, ⟨T_76, L_76, k_76, n_76⟩, -, X_76, ⟨Lc_76, hQ_76, l_76, y_76, z_76⟩, st_76⟩ := Jvm.LawKit.callS X_64 hx (y := M343) hown (mvT hZ (w49 hw)) (mvT hZ (w50 hw)) (mvT hZ (w51 hw)) (mvT hZ (w52 hw)) (by decide) (backOf (W := 0) (rm_id_1_1 l Z a0 hw [] G1 HG T_64.heap n0 O_75 a_51 a_52 k_53 [(.int (own_lo8z (own_cw p1))), (.int (own_hi8 (own_cw p1)))] a_65 E_71 F_72 F_73 V_74) hZ (w52 hw) (w51 hw) (by decide) (by decide)) (g := (mkF m 26 #[.val (.int p0), .val (.int p1), .val (.int p2), .val (.int p3), .val (.int p4), .val (.int p5), .val (.ref a_51), .val (.ref a_65), .unset] [(.ref a_65), (.ref a_51)])) rfl (by rw [hml]; rfl) (argsL := [(.ref a_51), (.ref a_65)]) (rest := []) (lenOf pd_474 rfl) rfl (by show 2 * 0 + _ ≤ _; exact Nat.le_of_eq rfl) (hb hby at_26) (fun _ _ => ⟨rfl, rfl, (by decide : 6 + 0 ≤ _), (by decide : 14 + 0 ≤ _)⟩)
      dsimp only [Pt.U, Pt.locs, Pt.cells, Pt.slots] at X_76 l_76 y_76 z_76 st_76 hQ_76
      subst l_76 y_76 z_76
      obtain ⟨rfl, N_77, e_78⟩ := hQ_76
      have N_79 := Fr.app N_70 N_77
      have e_80 : T_76.heap = T_64.heap := e_78
      obtain ⟨q_82, q_83, q_84, q_85, q_86⟩ := isOf (T := T_76) hZ e_80 E_71
      obtain ⟨_, _, ⟨T_81, L_81, k_81, n_81⟩, -, X_81, ⟨Lc_81, hQ_81, l_81, y_81, z_81⟩, st_81⟩ := X_76.virtualBack hx (y := M322) (z := M322) hown (mvT hZ (w58 hw)) (mvT hZ (w59 hw)) (notFace_of_selects (args := #[]) (mvT hZ (w61 hw))) (mvT hZ (w61 hw)) (mvT hZ (w60 hw)) (by decide) (backOf (W := 0) (rm_len_1_1 l Z a0 hw [] G1 HG T_64.heap n0 O_75 a_51 a_52 k_53 [(.int (own_lo8z (own_cw p1))), (.int (own_hi8 (own_cw p1)))] E_71 F_72 F_73 V_74) hZ (w62 hw) (w7 hw) (by decide) (by decide)) q_84 q_86 (g := (mkF m 40 #[.val (.int p0), .val (.int p1), .val (.int p2), .val (.int p3), .val (.int p4), .val (.int p5), .val (.ref a_51), .val (.ref a_65), .val (.ref a_51)] [(.ref a_51)])) rfl (by rw [hml]; rfl) (Steps.refl _) (argsL := []) (rest := []) (lenOf pd_478 rfl) rfl (by show 2 * 0 + _ ≤ _; exact Nat.le_of_eq rfl) (hb hby at_40) (fun _ _ => ⟨rfl, e_80, (by decide : 6 + 0 ≤ _), (by decide : 14 + 0 ≤ _)⟩)
      dsimp only [Pt.U, Pt.locs, Pt.cells, Pt.slots] at X_81 l_81 y_81 z_81 st_81 hQ_81
      subst l_81 y_81 z_81
      obtain ⟨rfl, N_87, e_88⟩ := hQ_81
      have N_89 := Fr.app N_79 N_87
      have e_90 : T_81.heap = T_64.heap := e_88
      have C_91 : Steps p.tables e below S0 (T_81.setTop (mkF m 56 #[.val (.int p0), .val (.int p1), .val (.int p2), .val (.int p3), .val (.int p4), .val (.int p5), .val (.ref a_51), .val (.ref a_65), .val (.ref a_51)] [(.int (1 : Int32))])) := by
        refine C_6.trans ?_
        refine st_5 _ ?_
        refine XS.astore X_5.here hx rfl (hb hby at_9) rfl rfl (l' := #[.val (.int p0), .val (.int p1), .val (.int p2), .val (.int p3), .val (.int p4), .val (.int p5), .val (.ref a_51), .unset, .unset]) rfl ?_
        refine XS.iload X_5.here hx rfl (hb hby at_11) rfl ?_
        refine X_5.ldcI hx hown (mvT hZ (w4 hw)) rfl (hb hby at_13) ?_
        refine XS.iand X_5.here hx rfl (hb hby at_15) rfl ?_
        refine XS.i2c X_5.here hx rfl (hb hby at_16) rfl ?_
        refine st_64 _ ?_
        refine XS.astore X_64.here hx rfl (hb hby at_20) rfl rfl (l' := #[.val (.int p0), .val (.int p1), .val (.int p2), .val (.int p3), .val (.int p4), .val (.int p5), .val (.ref a_51), .val (.ref a_65), .unset]) rfl ?_
        show Steps p.tables e below (T_64.setTop (mkF m 22 #[.val (.int p0), .val (.int p1), .val (.int p2), .val (.int p3), .val (.int p4), .val (.int p5), .val (.ref a_51), .val (.ref a_65), .unset] [])) _
        refine XS.aload X_64.here hx rfl (hb hby at_22) rfl rfl ?_
        refine XS.aload X_64.here hx rfl (hb hby at_24) rfl rfl ?_
        refine st_76 _ ?_
        refine XS.astore X_76.here hx rfl (hb hby at_29) rfl rfl (l' := #[.val (.int p0), .val (.int p1), .val (.int p2), .val (.int p3), .val (.int p4), .val (.int p5), .val (.ref a_51), .val (.ref a_65), .val (.ref a_51)]) rfl ?_
        refine XS.aload X_76.here hx rfl (hb hby at_31) rfl rfl ?_
        refine XS.aload X_76.here hx rfl (hb hby at_33) rfl rfl ?_
        refine acmp X_76 hx rfl (cd := .ne) (x := (.ref a_51)) (y := (.ref a_51)) rfl rfl (same := true) (pc0 := 35) (pc' := 38) rfl (hb hby at_35) rfl (decide_eq_true rfl) (by decide) (by decide) ?_
        refine XS.aload X_76.here hx rfl (hb hby at_38) rfl rfl ?_
        show Steps p.tables e below (T_76.setTop (mkF m 40 #[.val (.int p0), .val (.int p1), .val (.int p2), .val (.int p3), .val (.int p4), .val (.int p5), .val (.ref a_51), .val (.ref a_65), .val (.ref a_51)] [(.ref a_51)])) _
        refine st_81.trans ?_
        refine XS.iloadN X_81.here hx rfl (hb hby at_43) rfl ?_
        refine XS.iconst X_81.here hx rfl (hb hby at_44) ?_
        refine XS.iand X_81.here hx rfl (hb hby at_45) rfl ?_
        refine XS.iconst X_81.here hx rfl (hb hby at_46) ?_
        refine XS.iadd X_81.here hx rfl (hb hby at_47) rfl ?_
        refine XS.icmpNo X_81.here hx rfl (hb hby at_48) rfl (ii_ne_f (show (1 : Int32) = ((p0 &&& (3 : Int32)) + (1 : Int32)) by rw [hn_1]; decide)) ?_
        refine XS.iconst X_81.here hx rfl (hb hby at_51) ?_
        show Steps p.tables e below (T_81.setTop (mkF m 52 #[.val (.int p0), .val (.int p1), .val (.int p2), .val (.int p3), .val (.int p4), .val (.int p5), .val (.ref a_51), .val (.ref a_65), .val (.ref a_51)] [(.int (1 : Int32))])) _
        refine XS.goto X_81.here hx rfl (pc0 := 52) (pc' := 56) rfl (hb hby at_52) (by decide) (by decide) ?_
        exact Steps.refl _
      have K_92 : Keep h0 T_64.heap [] := (((Keep.refl _ _).trans K_55 all0).trans K_67 all0)
      obtain ⟨fs, hr, hrun, hended, hW, hsame⟩ := X_81.leave (v := some (.int (1 : Int32))) (fun h => by rw [Bd.returns] at h; cases h)
      refine ⟨_, _, C_91.trans (retN X_81 hx (t := .boolean) Bd.returns (by simp) (hb hby at_56) hr), hrun, hended, _, _, rfl, ?_, ⟨_, rfl⟩, hW, hsame.mono (by decide) (by decide)⟩
      show Q_law Z G1 p0 p1 p2 p3 p4 p5 h0 n0 (some (.int (1 : Int32))) T_81.heap _
      rw [e_90]
      exact ⟨rfl, N_89, K_92⟩
  · skip
    obtain ⟨_, _, ⟨T_93, L_93, k_93, n_93⟩, -, X_93, ⟨Lc_93, hQ_93, l_93, y_93, z_93⟩, st_93⟩ := Jvm.LawKit.callS X0 hx (y := M356) hown (mvT hZ (w0 hw)) (mvT hZ (w1 hw)) (mvT hZ (w2 hw)) (mvT hZ (w3 hw)) (by decide) (backOf (W := 0) (rm_text_1 l Z a0 hw [] G1 HG h0 n0 X00 p0 p1 p2 p3 p4 (by rw [hn_2]; decide) hn_2) hZ (w3 hw) (w2 hw) (by decide) (by decide)) (g := (mkF m 6 #[.val (.int p0), .val (.int p1), .val (.int p2), .val (.int p3), .val (.int p4), .val (.int p5), .unset, .unset, .unset] [(.int p4), (.int p3), (.int p2), (.int p1), (.int p0)])) rfl (by rw [hml]; rfl) (argsL := [(.int p0), (.int p1), (.int p2), (.int p3), (.int p4)]) (rest := []) (lenOf pd_465 rfl) rfl (by show 2 * 0 + _ ≤ _; exact Nat.le_of_eq rfl) (hb hby at_6) (fun _ _ => ⟨rfl, e0, (by decide : 0 + 4 ≤ _), (by decide : 0 + 12 ≤ _)⟩)
    dsimp only [Pt.U, Pt.locs, Pt.cells, Pt.slots] at X_93 l_93 y_93 z_93 st_93 hQ_93
    subst l_93 y_93 z_93
    have C_94 : Steps p.tables e below S0 (s₁.setTop (mkF m 6 #[.val (.int p0), .val (.int p1), .val (.int p2), .val (.int p3), .val (.int p4), .val (.int p5), .unset, .unset, .unset] [(.int p4), (.int p3), (.int p2), (.int p1), (.int p0)])) := by
      refine C0.trans ?_
      refine XS.iloadN X0.here hx rfl (hb hby at_0) rfl ?_
      refine XS.iloadN X0.here hx rfl (hb hby at_1) rfl ?_
      refine XS.iloadN X0.here hx rfl (hb hby at_2) rfl ?_
      refine XS.iloadN X0.here hx rfl (hb hby at_3) rfl ?_
      refine XS.iload X0.here hx rfl (hb hby at_4) rfl ?_
      exact Steps.refl _
    rcases hQ_93 with hQ_95 | hQ_96
    · skip
      obtain ⟨a_97, a_98, k_99, rfl, N_100, K_101, g_102, g_103, g_104, g_105, g_106, g_107⟩ := hQ_95
      have N_108 := Fr.app N0 N_100
      have O_109 : Old Z n0 T_93.heap := (X00.keep K_101 all0)
      obtain ⟨_, _, ⟨T_110, L_110, k_110, n_110⟩, -, X_110, ⟨Lc_110, hQ_110, l_110, y_110, z_110⟩, st_110⟩ := Jvm.LawKit.callS X_93 hx (y := M277) hown (mvT hZ (w35 hw)) (mvT hZ (w36 hw)) (mvT hZ (w7 hw)) (mvT hZ (w37 hw)) (by decide) (backOf (W := 0) (rm_valof l Z a0 hw [] G1 HG T_93.heap n0 O_109 (own_cw p5) ) hZ (w37 hw) (w7 hw) (by decide) (by decide)) (g := (mkF m 17 #[.val (.int p0), .val (.int p1), .val (.int p2), .val (.int p3), .val (.int p4), .val (.int p5), .val (.ref a_97), .unset, .unset] [(.int (own_cw p5))])) rfl (by rw [hml]; rfl) (argsL := [(.int (own_cw p5))]) (rest := []) (lenOf pd_469 rfl) rfl (by show 2 * 0 + _ ≤ _; exact Nat.le_of_eq rfl) (hb hby at_17) (fun _ _ => ⟨rfl, rfl, (by decide : 4 + 2 ≤ _), (by decide : 12 + 6 ≤ _)⟩)
      dsimp only [Pt.U, Pt.locs, Pt.cells, Pt.slots] at X_110 l_110 y_110 z_110 st_110 hQ_110
      subst l_110 y_110 z_110
      obtain ⟨a_111, rfl, N_112, K_113, g_114, g_115⟩ := hQ_110
      have N_116 := Fr.app N_108 N_112
      have E_117 : Exa Z T_110.heap a_97 "java/lang/String" := (g_103.keep K_113)
      have F_118 : Fld Z T_110.heap a_97 "java/lang/String" "coder" "B" (.int (0 : Int32)) := (g_104.keep K_113 nin0)
      have F_119 : Fld Z T_110.heap a_97 "java/lang/String" "value" "[B" (.ref a_98) := (g_105.keep K_113 nin0)
      have V_120 : Arv Z T_110.heap a_98 k_99 .byte (2 : Int32) [(.int (own_lo8 (own_cw p1))), (.int (own_lo8 (own_cw p2)))] (.int (0 : Int32)) := (g_107.keep K_113 nin0)
      have O_121 : Old Z n0 T_110.heap := (O_109.keep K_113 all0)
      obtain ⟨_, _, ⟨T_122, L_122, k_122, n_122⟩, -, X_122, ⟨Lc_122, hQ_122, l_122, y_122, z_122⟩, st_122⟩ := Jvm.LawKit.callS X_110 hx (y := M343) hown (mvT hZ (w49 hw)) (mvT hZ (w50 hw)) (mvT hZ (w51 hw)) (mvT hZ (w52 hw)) (by decide) (backOf (W := 0) (rm_id_2_0 l Z a0 hw [] G1 HG T_110.heap n0 O_121 a_97 a_98 k_99 [(.int (own_lo8 (own_cw p1))), (.int (own_lo8 (own_cw p2)))] a_111 E_117 F_118 F_119 V_120) hZ (w52 hw) (w51 hw) (by decide) (by decide)) (g := (mkF m 26 #[.val (.int p0), .val (.int p1), .val (.int p2), .val (.int p3), .val (.int p4), .val (.int p5), .val (.ref a_97), .val (.ref a_111), .unset] [(.ref a_111), (.ref a_97)])) rfl (by rw [hml]; rfl) (argsL := [(.ref a_97), (.ref a_111)]) (rest := []) (lenOf pd_474 rfl) rfl (by show 2 * 0 + _ ≤ _; exact Nat.le_of_eq rfl) (hb hby at_26) (fun _ _ => ⟨rfl, rfl, (by decide : 6 + 0 ≤ _), (by decide : 18 + 0 ≤ _)⟩)
      dsimp only [Pt.U, Pt.locs, Pt.cells, Pt.slots] at X_122 l_122 y_122 z_122 st_122 hQ_122
      subst l_122 y_122 z_122
      obtain ⟨rfl, N_123, e_124⟩ := hQ_122
      have N_125 := Fr.app N_116 N_123
      have e_126 : T_122.heap = T_110.heap := e_124
      obtain ⟨q_128, q_129, q_130, q_131, q_132⟩ := isOf (T := T_122) hZ e_126 E_117
      obtain ⟨_, _, ⟨T_127, L_127, k_127, n_127⟩, -, X_127, ⟨Lc_127, hQ_127, l_127, y_127, z_127⟩, st_127⟩ := X_122.virtualBack hx (y := M322) (z := M322) hown (mvT hZ (w58 hw)) (mvT hZ (w59 hw)) (notFace_of_selects (args := #[]) (mvT hZ (w61 hw))) (mvT hZ (w61 hw)) (mvT hZ (w60 hw)) (by decide) (backOf (W := 0) (rm_len_2_0 l Z a0 hw [] G1 HG T_110.heap n0 O_121 a_97 a_98 k_99 [(.int (own_lo8 (own_cw p1))), (.int (own_lo8 (own_cw p2)))] E_117 F_118 F_119 V_120) hZ (w62 hw) (w7 hw) (by decide) (by decide)) q_130 q_132 (g := (mkF m 40 #[.val (.int p0), .val (.int p1), .val (.int p2), .val (.int p3), .val (.int p4), .val (.int p5), .val (.ref a_97), .val (.ref a_111), .val (.ref a_97)] [(.ref a_97)])) rfl (by rw [hml]; rfl) (Steps.refl _) (argsL := []) (rest := []) (lenOf pd_478 rfl) rfl (by show 2 * 0 + _ ≤ _; exact Nat.le_of_eq rfl) (hb hby at_40) (fun _ _ => ⟨rfl, e_126, (by decide : 6 + 0 ≤ _), (by decide : 18 + 0 ≤ _)⟩)
      dsimp only [Pt.U, Pt.locs, Pt.cells, Pt.slots] at X_127 l_127 y_127 z_127 st_127 hQ_127
      subst l_127 y_127 z_127
      obtain ⟨rfl, N_133, e_134⟩ := hQ_127
      have N_135 := Fr.app N_125 N_133
      have e_136 : T_127.heap = T_110.heap := e_134
      have C_137 : Steps p.tables e below S0 (T_127.setTop (mkF m 56 #[.val (.int p0), .val (.int p1), .val (.int p2), .val (.int p3), .val (.int p4), .val (.int p5), .val (.ref a_97), .val (.ref a_111), .val (.ref a_97)] [(.int (1 : Int32))])) := by
        refine C_94.trans ?_
        refine st_93 _ ?_
        refine XS.astore X_93.here hx rfl (hb hby at_9) rfl rfl (l' := #[.val (.int p0), .val (.int p1), .val (.int p2), .val (.int p3), .val (.int p4), .val (.int p5), .val (.ref a_97), .unset, .unset]) rfl ?_
        refine XS.iload X_93.here hx rfl (hb hby at_11) rfl ?_
        refine X_93.ldcI hx hown (mvT hZ (w4 hw)) rfl (hb hby at_13) ?_
        refine XS.iand X_93.here hx rfl (hb hby at_15) rfl ?_
        refine XS.i2c X_93.here hx rfl (hb hby at_16) rfl ?_
        refine st_110 _ ?_
        refine XS.astore X_110.here hx rfl (hb hby at_20) rfl rfl (l' := #[.val (.int p0), .val (.int p1), .val (.int p2), .val (.int p3), .val (.int p4), .val (.int p5), .val (.ref a_97), .val (.ref a_111), .unset]) rfl ?_
        show Steps p.tables e below (T_110.setTop (mkF m 22 #[.val (.int p0), .val (.int p1), .val (.int p2), .val (.int p3), .val (.int p4), .val (.int p5), .val (.ref a_97), .val (.ref a_111), .unset] [])) _
        refine XS.aload X_110.here hx rfl (hb hby at_22) rfl rfl ?_
        refine XS.aload X_110.here hx rfl (hb hby at_24) rfl rfl ?_
        refine st_122 _ ?_
        refine XS.astore X_122.here hx rfl (hb hby at_29) rfl rfl (l' := #[.val (.int p0), .val (.int p1), .val (.int p2), .val (.int p3), .val (.int p4), .val (.int p5), .val (.ref a_97), .val (.ref a_111), .val (.ref a_97)]) rfl ?_
        refine XS.aload X_122.here hx rfl (hb hby at_31) rfl rfl ?_
        refine XS.aload X_122.here hx rfl (hb hby at_33) rfl rfl ?_
        refine acmp X_122 hx rfl (cd := .ne) (x := (.ref a_97)) (y := (.ref a_97)) rfl rfl (same := true) (pc0 := 35) (pc' := 38) rfl (hb hby at_35) rfl (decide_eq_true rfl) (by decide) (by decide) ?_
        refine XS.aload X_122.here hx rfl (hb hby at_38) rfl rfl ?_
        show Steps p.tables e below (T_122.setTop (mkF m 40 #[.val (.int p0), .val (.int p1), .val (.int p2), .val (.int p3), .val (.int p4), .val (.int p5), .val (.ref a_97), .val (.ref a_111), .val (.ref a_97)] [(.ref a_97)])) _
        refine st_127.trans ?_
        refine XS.iloadN X_127.here hx rfl (hb hby at_43) rfl ?_
        refine XS.iconst X_127.here hx rfl (hb hby at_44) ?_
        refine XS.iand X_127.here hx rfl (hb hby at_45) rfl ?_
        refine XS.iconst X_127.here hx rfl (hb hby at_46) ?_
        refine XS.iadd X_127.here hx rfl (hb hby at_47) rfl ?_
        refine XS.icmpNo X_127.here hx rfl (hb hby at_48) rfl (ii_ne_f (show (2 : Int32) = ((p0 &&& (3 : Int32)) + (1 : Int32)) by rw [hn_2]; decide)) ?_
        refine XS.iconst X_127.here hx rfl (hb hby at_51) ?_
        show Steps p.tables e below (T_127.setTop (mkF m 52 #[.val (.int p0), .val (.int p1), .val (.int p2), .val (.int p3), .val (.int p4), .val (.int p5), .val (.ref a_97), .val (.ref a_111), .val (.ref a_97)] [(.int (1 : Int32))])) _
        refine XS.goto X_127.here hx rfl (pc0 := 52) (pc' := 56) rfl (hb hby at_52) (by decide) (by decide) ?_
        exact Steps.refl _
      have K_138 : Keep h0 T_110.heap [] := (((Keep.refl _ _).trans K_101 all0).trans K_113 all0)
      obtain ⟨fs, hr, hrun, hended, hW, hsame⟩ := X_127.leave (v := some (.int (1 : Int32))) (fun h => by rw [Bd.returns] at h; cases h)
      refine ⟨_, _, C_137.trans (retN X_127 hx (t := .boolean) Bd.returns (by simp) (hb hby at_56) hr), hrun, hended, _, _, rfl, ?_, ⟨_, rfl⟩, hW, hsame.mono (by decide) (by decide)⟩
      show Q_law Z G1 p0 p1 p2 p3 p4 p5 h0 n0 (some (.int (1 : Int32))) T_127.heap _
      rw [e_136]
      exact ⟨rfl, N_135, K_138⟩
    · skip
      obtain ⟨a_139, a_140, k_141, rfl, N_142, K_143, g_144, g_145, g_146, g_147, g_148, g_149⟩ := hQ_96
      have N_150 := Fr.app N0 N_142
      have O_151 : Old Z n0 T_93.heap := (X00.keep K_143 all0)
      obtain ⟨_, _, ⟨T_152, L_152, k_152, n_152⟩, -, X_152, ⟨Lc_152, hQ_152, l_152, y_152, z_152⟩, st_152⟩ := Jvm.LawKit.callS X_93 hx (y := M277) hown (mvT hZ (w35 hw)) (mvT hZ (w36 hw)) (mvT hZ (w7 hw)) (mvT hZ (w37 hw)) (by decide) (backOf (W := 0) (rm_valof l Z a0 hw [] G1 HG T_93.heap n0 O_151 (own_cw p5) ) hZ (w37 hw) (w7 hw) (by decide) (by decide)) (g := (mkF m 17 #[.val (.int p0), .val (.int p1), .val (.int p2), .val (.int p3), .val (.int p4), .val (.int p5), .val (.ref a_139), .unset, .unset] [(.int (own_cw p5))])) rfl (by rw [hml]; rfl) (argsL := [(.int (own_cw p5))]) (rest := []) (lenOf pd_469 rfl) rfl (by show 2 * 0 + _ ≤ _; exact Nat.le_of_eq rfl) (hb hby at_17) (fun _ _ => ⟨rfl, rfl, (by decide : 4 + 2 ≤ _), (by decide : 12 + 6 ≤ _)⟩)
      dsimp only [Pt.U, Pt.locs, Pt.cells, Pt.slots] at X_152 l_152 y_152 z_152 st_152 hQ_152
      subst l_152 y_152 z_152
      obtain ⟨a_153, rfl, N_154, K_155, g_156, g_157⟩ := hQ_152
      have N_158 := Fr.app N_150 N_154
      have E_159 : Exa Z T_152.heap a_139 "java/lang/String" := (g_145.keep K_155)
      have F_160 : Fld Z T_152.heap a_139 "java/lang/String" "coder" "B" (.int (1 : Int32)) := (g_146.keep K_155 nin0)
      have F_161 : Fld Z T_152.heap a_139 "java/lang/String" "value" "[B" (.ref a_140) := (g_147.keep K_155 nin0)
      have V_162 : Arv Z T_152.heap a_140 k_141 .byte (4 : Int32) [(.int (own_lo8z (own_cw p1))), (.int (own_hi8 (own_cw p1))), (.int (own_lo8z (own_cw p2))), (.int (own_hi8 (own_cw p2)))] (.int (0 : Int32)) := (g_149.keep K_155 nin0)
      have O_163 : Old Z n0 T_152.heap := (O_151.keep K_155 all0)
      obtain ⟨_, _, ⟨T_164, L_164, k_164, n_164⟩, -, X_164, ⟨Lc_164, hQ_164, l_164, y_164, z_164⟩, st_164⟩ := Jvm.LawKit.callS X_152 hx (y := M343) hown (mvT hZ (w49 hw)) (mvT hZ (w50 hw)) (mvT hZ (w51 hw)) (mvT hZ (w52 hw)) (by decide) (backOf (W := 0) (rm_id_2_1 l Z a0 hw [] G1 HG T_152.heap n0 O_163 a_139 a_140 k_141 [(.int (own_lo8z (own_cw p1))), (.int (own_hi8 (own_cw p1))), (.int (own_lo8z (own_cw p2))), (.int (own_hi8 (own_cw p2)))] a_153 E_159 F_160 F_161 V_162) hZ (w52 hw) (w51 hw) (by decide) (by decide)) (g := (mkF m 26 #[.val (.int p0), .val (.int p1), .val (.int p2), .val (.int p3), .val (.int p4), .val (.int p5), .val (.ref a_139), .val (.ref a_153), .unset] [(.ref a_153), (.ref a_139)])) rfl (by rw [hml]; rfl) (argsL := [(.ref a_139), (.ref a_153)]) (rest := []) (lenOf pd_474 rfl) rfl (by show 2 * 0 + _ ≤ _; exact Nat.le_of_eq rfl) (hb hby at_26) (fun _ _ => ⟨rfl, rfl, (by decide : 6 + 0 ≤ _), (by decide : 18 + 0 ≤ _)⟩)
      dsimp only [Pt.U, Pt.locs, Pt.cells, Pt.slots] at X_164 l_164 y_164 z_164 st_164 hQ_164
      subst l_164 y_164 z_164
      obtain ⟨rfl, N_165, e_166⟩ := hQ_164
      have N_167 := Fr.app N_158 N_165
      have e_168 : T_164.heap = T_152.heap := e_166
      obtain ⟨q_170, q_171, q_172, q_173, q_174⟩ := isOf (T := T_164) hZ e_168 E_159
      obtain ⟨_, _, ⟨T_169, L_169, k_169, n_169⟩, -, X_169, ⟨Lc_169, hQ_169, l_169, y_169, z_169⟩, st_169⟩ := X_164.virtualBack hx (y := M322) (z := M322) hown (mvT hZ (w58 hw)) (mvT hZ (w59 hw)) (notFace_of_selects (args := #[]) (mvT hZ (w61 hw))) (mvT hZ (w61 hw)) (mvT hZ (w60 hw)) (by decide) (backOf (W := 0) (rm_len_2_1 l Z a0 hw [] G1 HG T_152.heap n0 O_163 a_139 a_140 k_141 [(.int (own_lo8z (own_cw p1))), (.int (own_hi8 (own_cw p1))), (.int (own_lo8z (own_cw p2))), (.int (own_hi8 (own_cw p2)))] E_159 F_160 F_161 V_162) hZ (w62 hw) (w7 hw) (by decide) (by decide)) q_172 q_174 (g := (mkF m 40 #[.val (.int p0), .val (.int p1), .val (.int p2), .val (.int p3), .val (.int p4), .val (.int p5), .val (.ref a_139), .val (.ref a_153), .val (.ref a_139)] [(.ref a_139)])) rfl (by rw [hml]; rfl) (Steps.refl _) (argsL := []) (rest := []) (lenOf pd_478 rfl) rfl (by show 2 * 0 + _ ≤ _; exact Nat.le_of_eq rfl) (hb hby at_40) (fun _ _ => ⟨rfl, e_168, (by decide : 6 + 0 ≤ _), (by decide : 18 + 0 ≤ _)⟩)
      dsimp only [Pt.U, Pt.locs, Pt.cells, Pt.slots] at X_169 l_169 y_169 z_169 st_169 hQ_169
      subst l_169 y_169 z_169
      obtain ⟨rfl, N_175, e_176⟩ := hQ_169
      have N_177 := Fr.app N_167 N_175
      have e_178 : T_169.heap = T_152.heap := e_176
      have C_179 : Steps p.tables e below S0 (T_169.setTop (mkF m 56 #[.val (.int p0), .val (.int p1), .val (.int p2), .val (.int p3), .val (.int p4), .val (.int p5), .val (.ref a_139), .val (.ref a_153), .val (.ref a_139)] [(.int (1 : Int32))])) := by
        refine C_94.trans ?_
        refine st_93 _ ?_
        refine XS.astore X_93.here hx rfl (hb hby at_9) rfl rfl (l' := #[.val (.int p0), .val (.int p1), .val (.int p2), .val (.int p3), .val (.int p4), .val (.int p5), .val (.ref a_139), .unset, .unset]) rfl ?_
        refine XS.iload X_93.here hx rfl (hb hby at_11) rfl ?_
        refine X_93.ldcI hx hown (mvT hZ (w4 hw)) rfl (hb hby at_13) ?_
        refine XS.iand X_93.here hx rfl (hb hby at_15) rfl ?_
        refine XS.i2c X_93.here hx rfl (hb hby at_16) rfl ?_
        refine st_152 _ ?_
        refine XS.astore X_152.here hx rfl (hb hby at_20) rfl rfl (l' := #[.val (.int p0), .val (.int p1), .val (.int p2), .val (.int p3), .val (.int p4), .val (.int p5), .val (.ref a_139), .val (.ref a_153), .unset]) rfl ?_
        show Steps p.tables e below (T_152.setTop (mkF m 22 #[.val (.int p0), .val (.int p1), .val (.int p2), .val (.int p3), .val (.int p4), .val (.int p5), .val (.ref a_139), .val (.ref a_153), .unset] [])) _
        refine XS.aload X_152.here hx rfl (hb hby at_22) rfl rfl ?_
        refine XS.aload X_152.here hx rfl (hb hby at_24) rfl rfl ?_
        refine st_164 _ ?_
        refine XS.astore X_164.here hx rfl (hb hby at_29) rfl rfl (l' := #[.val (.int p0), .val (.int p1), .val (.int p2), .val (.int p3), .val (.int p4), .val (.int p5), .val (.ref a_139), .val (.ref a_153), .val (.ref a_139)]) rfl ?_
        refine XS.aload X_164.here hx rfl (hb hby at_31) rfl rfl ?_
        refine XS.aload X_164.here hx rfl (hb hby at_33) rfl rfl ?_
        refine acmp X_164 hx rfl (cd := .ne) (x := (.ref a_139)) (y := (.ref a_139)) rfl rfl (same := true) (pc0 := 35) (pc' := 38) rfl (hb hby at_35) rfl (decide_eq_true rfl) (by decide) (by decide) ?_
        refine XS.aload X_164.here hx rfl (hb hby at_38) rfl rfl ?_
        show Steps p.tables e below (T_164.setTop (mkF m 40 #[.val (.int p0), .val (.int p1), .val (.int p2), .val (.int p3), .val (.int p4), .val (.int p5), .val (.ref a_139), .val (.ref a_153), .val (.ref a_139)] [(.ref a_139)])) _
        refine st_169.trans ?_
        refine XS.iloadN X_169.here hx rfl (hb hby at_43) rfl ?_
        refine XS.iconst X_169.here hx rfl (hb hby at_44) ?_
        refine XS.iand X_169.here hx rfl (hb hby at_45) rfl ?_
        refine XS.iconst X_169.here hx rfl (hb hby at_46) ?_
        refine XS.iadd X_169.here hx rfl (hb hby at_47) rfl ?_
        refine XS.icmpNo X_169.here hx rfl (hb hby at_48) rfl (ii_ne_f (show (2 : Int32) = ((p0 &&& (3 : Int32)) + (1 : Int32)) by rw [hn_2]; decide)) ?_
        refine XS.iconst X_169.here hx rfl (hb hby at_51) ?_
        show Steps p.tables e below (T_169.setTop (mkF m 52 #[.val (.int p0), .val (.int p1), .val (.int p2), .val (.int p3), .val (.int p4), .val (.int p5), .val (.ref a_139), .val (.ref a_153), .val (.ref a_139)] [(.int (1 : Int32))])) _
        refine XS.goto X_169.here hx rfl (pc0 := 52) (pc' := 56) rfl (hb hby at_52) (by decide) (by decide) ?_
        exact Steps.refl _
      have K_180 : Keep h0 T_152.heap [] := (((Keep.refl _ _).trans K_143 all0).trans K_155 all0)
      obtain ⟨fs, hr, hrun, hended, hW, hsame⟩ := X_169.leave (v := some (.int (1 : Int32))) (fun h => by rw [Bd.returns] at h; cases h)
      refine ⟨_, _, C_179.trans (retN X_169 hx (t := .boolean) Bd.returns (by simp) (hb hby at_56) hr), hrun, hended, _, _, rfl, ?_, ⟨_, rfl⟩, hW, hsame.mono (by decide) (by decide)⟩
      show Q_law Z G1 p0 p1 p2 p3 p4 p5 h0 n0 (some (.int (1 : Int32))) T_169.heap _
      rw [e_178]
      exact ⟨rfl, N_177, K_180⟩
  · skip
    obtain ⟨_, _, ⟨T_181, L_181, k_181, n_181⟩, -, X_181, ⟨Lc_181, hQ_181, l_181, y_181, z_181⟩, st_181⟩ := Jvm.LawKit.callS X0 hx (y := M356) hown (mvT hZ (w0 hw)) (mvT hZ (w1 hw)) (mvT hZ (w2 hw)) (mvT hZ (w3 hw)) (by decide) (backOf (W := 0) (rm_text_2 l Z a0 hw [] G1 HG h0 n0 X00 p0 p1 p2 p3 p4 (by rw [hn_3]; decide) (by rw [hn_3]; decide) hn_3) hZ (w3 hw) (w2 hw) (by decide) (by decide)) (g := (mkF m 6 #[.val (.int p0), .val (.int p1), .val (.int p2), .val (.int p3), .val (.int p4), .val (.int p5), .unset, .unset, .unset] [(.int p4), (.int p3), (.int p2), (.int p1), (.int p0)])) rfl (by rw [hml]; rfl) (argsL := [(.int p0), (.int p1), (.int p2), (.int p3), (.int p4)]) (rest := []) (lenOf pd_465 rfl) rfl (by show 2 * 0 + _ ≤ _; exact Nat.le_of_eq rfl) (hb hby at_6) (fun _ _ => ⟨rfl, e0, (by decide : 0 + 4 ≤ _), (by decide : 0 + 16 ≤ _)⟩)
    dsimp only [Pt.U, Pt.locs, Pt.cells, Pt.slots] at X_181 l_181 y_181 z_181 st_181 hQ_181
    subst l_181 y_181 z_181
    have C_182 : Steps p.tables e below S0 (s₁.setTop (mkF m 6 #[.val (.int p0), .val (.int p1), .val (.int p2), .val (.int p3), .val (.int p4), .val (.int p5), .unset, .unset, .unset] [(.int p4), (.int p3), (.int p2), (.int p1), (.int p0)])) := by
      refine C0.trans ?_
      refine XS.iloadN X0.here hx rfl (hb hby at_0) rfl ?_
      refine XS.iloadN X0.here hx rfl (hb hby at_1) rfl ?_
      refine XS.iloadN X0.here hx rfl (hb hby at_2) rfl ?_
      refine XS.iloadN X0.here hx rfl (hb hby at_3) rfl ?_
      refine XS.iload X0.here hx rfl (hb hby at_4) rfl ?_
      exact Steps.refl _
    rcases hQ_181 with hQ_183 | hQ_184
    · skip
      obtain ⟨a_185, a_186, k_187, rfl, N_188, K_189, g_190, g_191, g_192, g_193, g_194, g_195⟩ := hQ_183
      have N_196 := Fr.app N0 N_188
      have O_197 : Old Z n0 T_181.heap := (X00.keep K_189 all0)
      obtain ⟨_, _, ⟨T_198, L_198, k_198, n_198⟩, -, X_198, ⟨Lc_198, hQ_198, l_198, y_198, z_198⟩, st_198⟩ := Jvm.LawKit.callS X_181 hx (y := M277) hown (mvT hZ (w35 hw)) (mvT hZ (w36 hw)) (mvT hZ (w7 hw)) (mvT hZ (w37 hw)) (by decide) (backOf (W := 0) (rm_valof l Z a0 hw [] G1 HG T_181.heap n0 O_197 (own_cw p5) ) hZ (w37 hw) (w7 hw) (by decide) (by decide)) (g := (mkF m 17 #[.val (.int p0), .val (.int p1), .val (.int p2), .val (.int p3), .val (.int p4), .val (.int p5), .val (.ref a_185), .unset, .unset] [(.int (own_cw p5))])) rfl (by rw [hml]; rfl) (argsL := [(.int (own_cw p5))]) (rest := []) (lenOf pd_469 rfl) rfl (by show 2 * 0 + _ ≤ _; exact Nat.le_of_eq rfl) (hb hby at_17) (fun _ _ => ⟨rfl, rfl, (by decide : 4 + 2 ≤ _), (by decide : 16 + 6 ≤ _)⟩)
      dsimp only [Pt.U, Pt.locs, Pt.cells, Pt.slots] at X_198 l_198 y_198 z_198 st_198 hQ_198
      subst l_198 y_198 z_198
      obtain ⟨a_199, rfl, N_200, K_201, g_202, g_203⟩ := hQ_198
      have N_204 := Fr.app N_196 N_200
      have E_205 : Exa Z T_198.heap a_185 "java/lang/String" := (g_191.keep K_201)
      have F_206 : Fld Z T_198.heap a_185 "java/lang/String" "coder" "B" (.int (0 : Int32)) := (g_192.keep K_201 nin0)
      have F_207 : Fld Z T_198.heap a_185 "java/lang/String" "value" "[B" (.ref a_186) := (g_193.keep K_201 nin0)
      have V_208 : Arv Z T_198.heap a_186 k_187 .byte (3 : Int32) [(.int (own_lo8 (own_cw p1))), (.int (own_lo8 (own_cw p2))), (.int (own_lo8 (own_cw p3)))] (.int (0 : Int32)) := (g_195.keep K_201 nin0)
      have O_209 : Old Z n0 T_198.heap := (O_197.keep K_201 all0)
      obtain ⟨_, _, ⟨T_210, L_210, k_210, n_210⟩, -, X_210, ⟨Lc_210, hQ_210, l_210, y_210, z_210⟩, st_210⟩ := Jvm.LawKit.callS X_198 hx (y := M343) hown (mvT hZ (w49 hw)) (mvT hZ (w50 hw)) (mvT hZ (w51 hw)) (mvT hZ (w52 hw)) (by decide) (backOf (W := 0) (rm_id_3_0 l Z a0 hw [] G1 HG T_198.heap n0 O_209 a_185 a_186 k_187 [(.int (own_lo8 (own_cw p1))), (.int (own_lo8 (own_cw p2))), (.int (own_lo8 (own_cw p3)))] a_199 E_205 F_206 F_207 V_208) hZ (w52 hw) (w51 hw) (by decide) (by decide)) (g := (mkF m 26 #[.val (.int p0), .val (.int p1), .val (.int p2), .val (.int p3), .val (.int p4), .val (.int p5), .val (.ref a_185), .val (.ref a_199), .unset] [(.ref a_199), (.ref a_185)])) rfl (by rw [hml]; rfl) (argsL := [(.ref a_185), (.ref a_199)]) (rest := []) (lenOf pd_474 rfl) rfl (by show 2 * 0 + _ ≤ _; exact Nat.le_of_eq rfl) (hb hby at_26) (fun _ _ => ⟨rfl, rfl, (by decide : 6 + 0 ≤ _), (by decide : 22 + 0 ≤ _)⟩)
      dsimp only [Pt.U, Pt.locs, Pt.cells, Pt.slots] at X_210 l_210 y_210 z_210 st_210 hQ_210
      subst l_210 y_210 z_210
      obtain ⟨rfl, N_211, e_212⟩ := hQ_210
      have N_213 := Fr.app N_204 N_211
      have e_214 : T_210.heap = T_198.heap := e_212
      obtain ⟨q_216, q_217, q_218, q_219, q_220⟩ := isOf (T := T_210) hZ e_214 E_205
      obtain ⟨_, _, ⟨T_215, L_215, k_215, n_215⟩, -, X_215, ⟨Lc_215, hQ_215, l_215, y_215, z_215⟩, st_215⟩ := X_210.virtualBack hx (y := M322) (z := M322) hown (mvT hZ (w58 hw)) (mvT hZ (w59 hw)) (notFace_of_selects (args := #[]) (mvT hZ (w61 hw))) (mvT hZ (w61 hw)) (mvT hZ (w60 hw)) (by decide) (backOf (W := 0) (rm_len_3_0 l Z a0 hw [] G1 HG T_198.heap n0 O_209 a_185 a_186 k_187 [(.int (own_lo8 (own_cw p1))), (.int (own_lo8 (own_cw p2))), (.int (own_lo8 (own_cw p3)))] E_205 F_206 F_207 V_208) hZ (w62 hw) (w7 hw) (by decide) (by decide)) q_218 q_220 (g := (mkF m 40 #[.val (.int p0), .val (.int p1), .val (.int p2), .val (.int p3), .val (.int p4), .val (.int p5), .val (.ref a_185), .val (.ref a_199), .val (.ref a_185)] [(.ref a_185)])) rfl (by rw [hml]; rfl) (Steps.refl _) (argsL := []) (rest := []) (lenOf pd_478 rfl) rfl (by show 2 * 0 + _ ≤ _; exact Nat.le_of_eq rfl) (hb hby at_40) (fun _ _ => ⟨rfl, e_214, (by decide : 6 + 0 ≤ _), (by decide : 22 + 0 ≤ _)⟩)
      dsimp only [Pt.U, Pt.locs, Pt.cells, Pt.slots] at X_215 l_215 y_215 z_215 st_215 hQ_215
      subst l_215 y_215 z_215
      obtain ⟨rfl, N_221, e_222⟩ := hQ_215
      have N_223 := Fr.app N_213 N_221
      have e_224 : T_215.heap = T_198.heap := e_222
      have C_225 : Steps p.tables e below S0 (T_215.setTop (mkF m 56 #[.val (.int p0), .val (.int p1), .val (.int p2), .val (.int p3), .val (.int p4), .val (.int p5), .val (.ref a_185), .val (.ref a_199), .val (.ref a_185)] [(.int (1 : Int32))])) := by
        refine C_182.trans ?_
        refine st_181 _ ?_
        refine XS.astore X_181.here hx rfl (hb hby at_9) rfl rfl (l' := #[.val (.int p0), .val (.int p1), .val (.int p2), .val (.int p3), .val (.int p4), .val (.int p5), .val (.ref a_185), .unset, .unset]) rfl ?_
        refine XS.iload X_181.here hx rfl (hb hby at_11) rfl ?_
        refine X_181.ldcI hx hown (mvT hZ (w4 hw)) rfl (hb hby at_13) ?_
        refine XS.iand X_181.here hx rfl (hb hby at_15) rfl ?_
        refine XS.i2c X_181.here hx rfl (hb hby at_16) rfl ?_
        refine st_198 _ ?_
        refine XS.astore X_198.here hx rfl (hb hby at_20) rfl rfl (l' := #[.val (.int p0), .val (.int p1), .val (.int p2), .val (.int p3), .val (.int p4), .val (.int p5), .val (.ref a_185), .val (.ref a_199), .unset]) rfl ?_
        show Steps p.tables e below (T_198.setTop (mkF m 22 #[.val (.int p0), .val (.int p1), .val (.int p2), .val (.int p3), .val (.int p4), .val (.int p5), .val (.ref a_185), .val (.ref a_199), .unset] [])) _
        refine XS.aload X_198.here hx rfl (hb hby at_22) rfl rfl ?_
        refine XS.aload X_198.here hx rfl (hb hby at_24) rfl rfl ?_
        refine st_210 _ ?_
        refine XS.astore X_210.here hx rfl (hb hby at_29) rfl rfl (l' := #[.val (.int p0), .val (.int p1), .val (.int p2), .val (.int p3), .val (.int p4), .val (.int p5), .val (.ref a_185), .val (.ref a_199), .val (.ref a_185)]) rfl ?_
        refine XS.aload X_210.here hx rfl (hb hby at_31) rfl rfl ?_
        refine XS.aload X_210.here hx rfl (hb hby at_33) rfl rfl ?_
        refine acmp X_210 hx rfl (cd := .ne) (x := (.ref a_185)) (y := (.ref a_185)) rfl rfl (same := true) (pc0 := 35) (pc' := 38) rfl (hb hby at_35) rfl (decide_eq_true rfl) (by decide) (by decide) ?_
        refine XS.aload X_210.here hx rfl (hb hby at_38) rfl rfl ?_
        show Steps p.tables e below (T_210.setTop (mkF m 40 #[.val (.int p0), .val (.int p1), .val (.int p2), .val (.int p3), .val (.int p4), .val (.int p5), .val (.ref a_185), .val (.ref a_199), .val (.ref a_185)] [(.ref a_185)])) _
        refine st_215.trans ?_
        refine XS.iloadN X_215.here hx rfl (hb hby at_43) rfl ?_
        refine XS.iconst X_215.here hx rfl (hb hby at_44) ?_
        refine XS.iand X_215.here hx rfl (hb hby at_45) rfl ?_
        refine XS.iconst X_215.here hx rfl (hb hby at_46) ?_
        refine XS.iadd X_215.here hx rfl (hb hby at_47) rfl ?_
        refine XS.icmpNo X_215.here hx rfl (hb hby at_48) rfl (ii_ne_f (show (3 : Int32) = ((p0 &&& (3 : Int32)) + (1 : Int32)) by rw [hn_3]; decide)) ?_
        refine XS.iconst X_215.here hx rfl (hb hby at_51) ?_
        show Steps p.tables e below (T_215.setTop (mkF m 52 #[.val (.int p0), .val (.int p1), .val (.int p2), .val (.int p3), .val (.int p4), .val (.int p5), .val (.ref a_185), .val (.ref a_199), .val (.ref a_185)] [(.int (1 : Int32))])) _
        refine XS.goto X_215.here hx rfl (pc0 := 52) (pc' := 56) rfl (hb hby at_52) (by decide) (by decide) ?_
        exact Steps.refl _
      have K_226 : Keep h0 T_198.heap [] := (((Keep.refl _ _).trans K_189 all0).trans K_201 all0)
      obtain ⟨fs, hr, hrun, hended, hW, hsame⟩ := X_215.leave (v := some (.int (1 : Int32))) (fun h => by rw [Bd.returns] at h; cases h)
      refine ⟨_, _, C_225.trans (retN X_215 hx (t := .boolean) Bd.returns (by simp) (hb hby at_56) hr), hrun, hended, _, _, rfl, ?_, ⟨_, rfl⟩, hW, hsame.mono (by decide) (by decide)⟩
      show Q_law Z G1 p0 p1 p2 p3 p4 p5 h0 n0 (some (.int (1 : Int32))) T_215.heap _
      rw [e_224]
      exact ⟨rfl, N_223, K_226⟩
    · skip
      obtain ⟨a_227, a_228, k_229, rfl, N_230, K_231, g_232, g_233, g_234, g_235, g_236, g_237⟩ := hQ_184
      have N_238 := Fr.app N0 N_230
      have O_239 : Old Z n0 T_181.heap := (X00.keep K_231 all0)
      obtain ⟨_, _, ⟨T_240, L_240, k_240, n_240⟩, -, X_240, ⟨Lc_240, hQ_240, l_240, y_240, z_240⟩, st_240⟩ := Jvm.LawKit.callS X_181 hx (y := M277) hown (mvT hZ (w35 hw)) (mvT hZ (w36 hw)) (mvT hZ (w7 hw)) (mvT hZ (w37 hw)) (by decide) (backOf (W := 0) (rm_valof l Z a0 hw [] G1 HG T_181.heap n0 O_239 (own_cw p5) ) hZ (w37 hw) (w7 hw) (by decide) (by decide)) (g := (mkF m 17 #[.val (.int p0), .val (.int p1), .val (.int p2), .val (.int p3), .val (.int p4), .val (.int p5), .val (.ref a_227), .unset, .unset] [(.int (own_cw p5))])) rfl (by rw [hml]; rfl) (argsL := [(.int (own_cw p5))]) (rest := []) (lenOf pd_469 rfl) rfl (by show 2 * 0 + _ ≤ _; exact Nat.le_of_eq rfl) (hb hby at_17) (fun _ _ => ⟨rfl, rfl, (by decide : 4 + 2 ≤ _), (by decide : 16 + 6 ≤ _)⟩)
      dsimp only [Pt.U, Pt.locs, Pt.cells, Pt.slots] at X_240 l_240 y_240 z_240 st_240 hQ_240
      subst l_240 y_240 z_240
      obtain ⟨a_241, rfl, N_242, K_243, g_244, g_245⟩ := hQ_240
      have N_246 := Fr.app N_238 N_242
      have E_247 : Exa Z T_240.heap a_227 "java/lang/String" := (g_233.keep K_243)
      have F_248 : Fld Z T_240.heap a_227 "java/lang/String" "coder" "B" (.int (1 : Int32)) := (g_234.keep K_243 nin0)
      have F_249 : Fld Z T_240.heap a_227 "java/lang/String" "value" "[B" (.ref a_228) := (g_235.keep K_243 nin0)
      have V_250 : Arv Z T_240.heap a_228 k_229 .byte (6 : Int32) [(.int (own_lo8z (own_cw p1))), (.int (own_hi8 (own_cw p1))), (.int (own_lo8z (own_cw p2))), (.int (own_hi8 (own_cw p2))), (.int (own_lo8z (own_cw p3))), (.int (own_hi8 (own_cw p3)))] (.int (0 : Int32)) := (g_237.keep K_243 nin0)
      have O_251 : Old Z n0 T_240.heap := (O_239.keep K_243 all0)
      obtain ⟨_, _, ⟨T_252, L_252, k_252, n_252⟩, -, X_252, ⟨Lc_252, hQ_252, l_252, y_252, z_252⟩, st_252⟩ := Jvm.LawKit.callS X_240 hx (y := M343) hown (mvT hZ (w49 hw)) (mvT hZ (w50 hw)) (mvT hZ (w51 hw)) (mvT hZ (w52 hw)) (by decide) (backOf (W := 0) (rm_id_3_1 l Z a0 hw [] G1 HG T_240.heap n0 O_251 a_227 a_228 k_229 [(.int (own_lo8z (own_cw p1))), (.int (own_hi8 (own_cw p1))), (.int (own_lo8z (own_cw p2))), (.int (own_hi8 (own_cw p2))), (.int (own_lo8z (own_cw p3))), (.int (own_hi8 (own_cw p3)))] a_241 E_247 F_248 F_249 V_250) hZ (w52 hw) (w51 hw) (by decide) (by decide)) (g := (mkF m 26 #[.val (.int p0), .val (.int p1), .val (.int p2), .val (.int p3), .val (.int p4), .val (.int p5), .val (.ref a_227), .val (.ref a_241), .unset] [(.ref a_241), (.ref a_227)])) rfl (by rw [hml]; rfl) (argsL := [(.ref a_227), (.ref a_241)]) (rest := []) (lenOf pd_474 rfl) rfl (by show 2 * 0 + _ ≤ _; exact Nat.le_of_eq rfl) (hb hby at_26) (fun _ _ => ⟨rfl, rfl, (by decide : 6 + 0 ≤ _), (by decide : 22 + 0 ≤ _)⟩)
      dsimp only [Pt.U, Pt.locs, Pt.cells, Pt.slots] at X_252 l_252 y_252 z_252 st_252 hQ_252
      subst l_252 y_252 z_252
      obtain ⟨rfl, N_253, e_254⟩ := hQ_252
      have N_255 := Fr.app N_246 N_253
      have e_256 : T_252.heap = T_240.heap := e_254
      obtain ⟨q_258, q_259, q_260, q_261, q_262⟩ := isOf (T := T_252) hZ e_256 E_247
      obtain ⟨_, _, ⟨T_257, L_257, k_257, n_257⟩, -, X_257, ⟨Lc_257, hQ_257, l_257, y_257, z_257⟩, st_257⟩ := X_252.virtualBack hx (y := M322) (z := M322) hown (mvT hZ (w58 hw)) (mvT hZ (w59 hw)) (notFace_of_selects (args := #[]) (mvT hZ (w61 hw))) (mvT hZ (w61 hw)) (mvT hZ (w60 hw)) (by decide) (backOf (W := 0) (rm_len_3_1 l Z a0 hw [] G1 HG T_240.heap n0 O_251 a_227 a_228 k_229 [(.int (own_lo8z (own_cw p1))), (.int (own_hi8 (own_cw p1))), (.int (own_lo8z (own_cw p2))), (.int (own_hi8 (own_cw p2))), (.int (own_lo8z (own_cw p3))), (.int (own_hi8 (own_cw p3)))] E_247 F_248 F_249 V_250) hZ (w62 hw) (w7 hw) (by decide) (by decide)) q_260 q_262 (g := (mkF m 40 #[.val (.int p0), .val (.int p1), .val (.int p2), .val (.int p3), .val (.int p4), .val (.int p5), .val (.ref a_227), .val (.ref a_241), .val (.ref a_227)] [(.ref a_227)])) rfl (by rw [hml]; rfl) (Steps.refl _) (argsL := []) (rest := []) (lenOf pd_478 rfl) rfl (by show 2 * 0 + _ ≤ _; exact Nat.le_of_eq rfl) (hb hby at_40) (fun _ _ => ⟨rfl, e_256, (by decide : 6 + 0 ≤ _), (by decide : 22 + 0 ≤ _)⟩)
      dsimp only [Pt.U, Pt.locs, Pt.cells, Pt.slots] at X_257 l_257 y_257 z_257 st_257 hQ_257
      subst l_257 y_257 z_257
      obtain ⟨rfl, N_263, e_264⟩ := hQ_257
      have N_265 := Fr.app N_255 N_263
      have e_266 : T_257.heap = T_240.heap := e_264
      have C_267 : Steps p.tables e below S0 (T_257.setTop (mkF m 56 #[.val (.int p0), .val (.int p1), .val (.int p2), .val (.int p3), .val (.int p4), .val (.int p5), .val (.ref a_227), .val (.ref a_241), .val (.ref a_227)] [(.int (1 : Int32))])) := by
        refine C_182.trans ?_
        refine st_181 _ ?_
        refine XS.astore X_181.here hx rfl (hb hby at_9) rfl rfl (l' := #[.val (.int p0), .val (.int p1), .val (.int p2), .val (.int p3), .val (.int p4), .val (.int p5), .val (.ref a_227), .unset, .unset]) rfl ?_
        refine XS.iload X_181.here hx rfl (hb hby at_11) rfl ?_
        refine X_181.ldcI hx hown (mvT hZ (w4 hw)) rfl (hb hby at_13) ?_
        refine XS.iand X_181.here hx rfl (hb hby at_15) rfl ?_
        refine XS.i2c X_181.here hx rfl (hb hby at_16) rfl ?_
        refine st_240 _ ?_
        refine XS.astore X_240.here hx rfl (hb hby at_20) rfl rfl (l' := #[.val (.int p0), .val (.int p1), .val (.int p2), .val (.int p3), .val (.int p4), .val (.int p5), .val (.ref a_227), .val (.ref a_241), .unset]) rfl ?_
        show Steps p.tables e below (T_240.setTop (mkF m 22 #[.val (.int p0), .val (.int p1), .val (.int p2), .val (.int p3), .val (.int p4), .val (.int p5), .val (.ref a_227), .val (.ref a_241), .unset] [])) _
        refine XS.aload X_240.here hx rfl (hb hby at_22) rfl rfl ?_
        refine XS.aload X_240.here hx rfl (hb hby at_24) rfl rfl ?_
        refine st_252 _ ?_
        refine XS.astore X_252.here hx rfl (hb hby at_29) rfl rfl (l' := #[.val (.int p0), .val (.int p1), .val (.int p2), .val (.int p3), .val (.int p4), .val (.int p5), .val (.ref a_227), .val (.ref a_241), .val (.ref a_227)]) rfl ?_
        refine XS.aload X_252.here hx rfl (hb hby at_31) rfl rfl ?_
        refine XS.aload X_252.here hx rfl (hb hby at_33) rfl rfl ?_
        refine acmp X_252 hx rfl (cd := .ne) (x := (.ref a_227)) (y := (.ref a_227)) rfl rfl (same := true) (pc0 := 35) (pc' := 38) rfl (hb hby at_35) rfl (decide_eq_true rfl) (by decide) (by decide) ?_
        refine XS.aload X_252.here hx rfl (hb hby at_38) rfl rfl ?_
        show Steps p.tables e below (T_252.setTop (mkF m 40 #[.val (.int p0), .val (.int p1), .val (.int p2), .val (.int p3), .val (.int p4), .val (.int p5), .val (.ref a_227), .val (.ref a_241), .val (.ref a_227)] [(.ref a_227)])) _
        refine st_257.trans ?_
        refine XS.iloadN X_257.here hx rfl (hb hby at_43) rfl ?_
        refine XS.iconst X_257.here hx rfl (hb hby at_44) ?_
        refine XS.iand X_257.here hx rfl (hb hby at_45) rfl ?_
        refine XS.iconst X_257.here hx rfl (hb hby at_46) ?_
        refine XS.iadd X_257.here hx rfl (hb hby at_47) rfl ?_
        refine XS.icmpNo X_257.here hx rfl (hb hby at_48) rfl (ii_ne_f (show (3 : Int32) = ((p0 &&& (3 : Int32)) + (1 : Int32)) by rw [hn_3]; decide)) ?_
        refine XS.iconst X_257.here hx rfl (hb hby at_51) ?_
        show Steps p.tables e below (T_257.setTop (mkF m 52 #[.val (.int p0), .val (.int p1), .val (.int p2), .val (.int p3), .val (.int p4), .val (.int p5), .val (.ref a_227), .val (.ref a_241), .val (.ref a_227)] [(.int (1 : Int32))])) _
        refine XS.goto X_257.here hx rfl (pc0 := 52) (pc' := 56) rfl (hb hby at_52) (by decide) (by decide) ?_
        exact Steps.refl _
      have K_268 : Keep h0 T_240.heap [] := (((Keep.refl _ _).trans K_231 all0).trans K_243 all0)
      obtain ⟨fs, hr, hrun, hended, hW, hsame⟩ := X_257.leave (v := some (.int (1 : Int32))) (fun h => by rw [Bd.returns] at h; cases h)
      refine ⟨_, _, C_267.trans (retN X_257 hx (t := .boolean) Bd.returns (by simp) (hb hby at_56) hr), hrun, hended, _, _, rfl, ?_, ⟨_, rfl⟩, hW, hsame.mono (by decide) (by decide)⟩
      show Q_law Z G1 p0 p1 p2 p3 p4 p5 h0 n0 (some (.int (1 : Int32))) T_257.heap _
      rw [e_266]
      exact ⟨rfl, N_265, K_268⟩
  · skip
    obtain ⟨_, _, ⟨T_269, L_269, k_269, n_269⟩, -, X_269, ⟨Lc_269, hQ_269, l_269, y_269, z_269⟩, st_269⟩ := Jvm.LawKit.callS X0 hx (y := M356) hown (mvT hZ (w0 hw)) (mvT hZ (w1 hw)) (mvT hZ (w2 hw)) (mvT hZ (w3 hw)) (by decide) (backOf (W := 0) (rm_text_3 l Z a0 hw [] G1 HG h0 n0 X00 p0 p1 p2 p3 p4 (by rw [hn_4]; decide) (by rw [hn_4]; decide) (by rw [hn_4]; decide)) hZ (w3 hw) (w2 hw) (by decide) (by decide)) (g := (mkF m 6 #[.val (.int p0), .val (.int p1), .val (.int p2), .val (.int p3), .val (.int p4), .val (.int p5), .unset, .unset, .unset] [(.int p4), (.int p3), (.int p2), (.int p1), (.int p0)])) rfl (by rw [hml]; rfl) (argsL := [(.int p0), (.int p1), (.int p2), (.int p3), (.int p4)]) (rest := []) (lenOf pd_465 rfl) rfl (by show 2 * 0 + _ ≤ _; exact Nat.le_of_eq rfl) (hb hby at_6) (fun _ _ => ⟨rfl, e0, (by decide : 0 + 4 ≤ _), (by decide : 0 + 20 ≤ _)⟩)
    dsimp only [Pt.U, Pt.locs, Pt.cells, Pt.slots] at X_269 l_269 y_269 z_269 st_269 hQ_269
    subst l_269 y_269 z_269
    have C_270 : Steps p.tables e below S0 (s₁.setTop (mkF m 6 #[.val (.int p0), .val (.int p1), .val (.int p2), .val (.int p3), .val (.int p4), .val (.int p5), .unset, .unset, .unset] [(.int p4), (.int p3), (.int p2), (.int p1), (.int p0)])) := by
      refine C0.trans ?_
      refine XS.iloadN X0.here hx rfl (hb hby at_0) rfl ?_
      refine XS.iloadN X0.here hx rfl (hb hby at_1) rfl ?_
      refine XS.iloadN X0.here hx rfl (hb hby at_2) rfl ?_
      refine XS.iloadN X0.here hx rfl (hb hby at_3) rfl ?_
      refine XS.iload X0.here hx rfl (hb hby at_4) rfl ?_
      exact Steps.refl _
    rcases hQ_269 with hQ_271 | hQ_272
    · skip
      obtain ⟨a_273, a_274, k_275, rfl, N_276, K_277, g_278, g_279, g_280, g_281, g_282, g_283⟩ := hQ_271
      have N_284 := Fr.app N0 N_276
      have O_285 : Old Z n0 T_269.heap := (X00.keep K_277 all0)
      obtain ⟨_, _, ⟨T_286, L_286, k_286, n_286⟩, -, X_286, ⟨Lc_286, hQ_286, l_286, y_286, z_286⟩, st_286⟩ := Jvm.LawKit.callS X_269 hx (y := M277) hown (mvT hZ (w35 hw)) (mvT hZ (w36 hw)) (mvT hZ (w7 hw)) (mvT hZ (w37 hw)) (by decide) (backOf (W := 0) (rm_valof l Z a0 hw [] G1 HG T_269.heap n0 O_285 (own_cw p5) ) hZ (w37 hw) (w7 hw) (by decide) (by decide)) (g := (mkF m 17 #[.val (.int p0), .val (.int p1), .val (.int p2), .val (.int p3), .val (.int p4), .val (.int p5), .val (.ref a_273), .unset, .unset] [(.int (own_cw p5))])) rfl (by rw [hml]; rfl) (argsL := [(.int (own_cw p5))]) (rest := []) (lenOf pd_469 rfl) rfl (by show 2 * 0 + _ ≤ _; exact Nat.le_of_eq rfl) (hb hby at_17) (fun _ _ => ⟨rfl, rfl, (by decide : 4 + 2 ≤ _), (by decide : 20 + 6 ≤ _)⟩)
      dsimp only [Pt.U, Pt.locs, Pt.cells, Pt.slots] at X_286 l_286 y_286 z_286 st_286 hQ_286
      subst l_286 y_286 z_286
      obtain ⟨a_287, rfl, N_288, K_289, g_290, g_291⟩ := hQ_286
      have N_292 := Fr.app N_284 N_288
      have E_293 : Exa Z T_286.heap a_273 "java/lang/String" := (g_279.keep K_289)
      have F_294 : Fld Z T_286.heap a_273 "java/lang/String" "coder" "B" (.int (0 : Int32)) := (g_280.keep K_289 nin0)
      have F_295 : Fld Z T_286.heap a_273 "java/lang/String" "value" "[B" (.ref a_274) := (g_281.keep K_289 nin0)
      have V_296 : Arv Z T_286.heap a_274 k_275 .byte (4 : Int32) [(.int (own_lo8 (own_cw p1))), (.int (own_lo8 (own_cw p2))), (.int (own_lo8 (own_cw p3))), (.int (own_lo8 (own_cw p4)))] (.int (0 : Int32)) := (g_283.keep K_289 nin0)
      have O_297 : Old Z n0 T_286.heap := (O_285.keep K_289 all0)
      obtain ⟨_, _, ⟨T_298, L_298, k_298, n_298⟩, -, X_298, ⟨Lc_298, hQ_298, l_298, y_298, z_298⟩, st_298⟩ := Jvm.LawKit.callS X_286 hx (y := M343) hown (mvT hZ (w49 hw)) (mvT hZ (w50 hw)) (mvT hZ (w51 hw)) (mvT hZ (w52 hw)) (by decide) (backOf (W := 0) (rm_id_4_0 l Z a0 hw [] G1 HG T_286.heap n0 O_297 a_273 a_274 k_275 [(.int (own_lo8 (own_cw p1))), (.int (own_lo8 (own_cw p2))), (.int (own_lo8 (own_cw p3))), (.int (own_lo8 (own_cw p4)))] a_287 E_293 F_294 F_295 V_296) hZ (w52 hw) (w51 hw) (by decide) (by decide)) (g := (mkF m 26 #[.val (.int p0), .val (.int p1), .val (.int p2), .val (.int p3), .val (.int p4), .val (.int p5), .val (.ref a_273), .val (.ref a_287), .unset] [(.ref a_287), (.ref a_273)])) rfl (by rw [hml]; rfl) (argsL := [(.ref a_273), (.ref a_287)]) (rest := []) (lenOf pd_474 rfl) rfl (by show 2 * 0 + _ ≤ _; exact Nat.le_of_eq rfl) (hb hby at_26) (fun _ _ => ⟨rfl, rfl, (by decide : 6 + 0 ≤ _), (by decide : 26 + 0 ≤ _)⟩)
      dsimp only [Pt.U, Pt.locs, Pt.cells, Pt.slots] at X_298 l_298 y_298 z_298 st_298 hQ_298
      subst l_298 y_298 z_298
      obtain ⟨rfl, N_299, e_300⟩ := hQ_298
      have N_301 := Fr.app N_292 N_299
      have e_302 : T_298.heap = T_286.heap := e_300
      obtain ⟨q_304, q_305, q_306, q_307, q_308⟩ := isOf (T := T_298) hZ e_302 E_293
      obtain ⟨_, _, ⟨T_303, L_303, k_303, n_303⟩, -, X_303, ⟨Lc_303, hQ_303, l_303, y_303, z_303⟩, st_303⟩ := X_298.virtualBack hx (y := M322) (z := M322) hown (mvT hZ (w58 hw)) (mvT hZ (w59 hw)) (notFace_of_selects (args := #[]) (mvT hZ (w61 hw))) (mvT hZ (w61 hw)) (mvT hZ (w60 hw)) (by decide) (backOf (W := 0) (rm_len_4_0 l Z a0 hw [] G1 HG T_286.heap n0 O_297 a_273 a_274 k_275 [(.int (own_lo8 (own_cw p1))), (.int (own_lo8 (own_cw p2))), (.int (own_lo8 (own_cw p3))), (.int (own_lo8 (own_cw p4)))] E_293 F_294 F_295 V_296) hZ (w62 hw) (w7 hw) (by decide) (by decide)) q_306 q_308 (g := (mkF m 40 #[.val (.int p0), .val (.int p1), .val (.int p2), .val (.int p3), .val (.int p4), .val (.int p5), .val (.ref a_273), .val (.ref a_287), .val (.ref a_273)] [(.ref a_273)])) rfl (by rw [hml]; rfl) (Steps.refl _) (argsL := []) (rest := []) (lenOf pd_478 rfl) rfl (by show 2 * 0 + _ ≤ _; exact Nat.le_of_eq rfl) (hb hby at_40) (fun _ _ => ⟨rfl, e_302, (by decide : 6 + 0 ≤ _), (by decide : 26 + 0 ≤ _)⟩)
      dsimp only [Pt.U, Pt.locs, Pt.cells, Pt.slots] at X_303 l_303 y_303 z_303 st_303 hQ_303
      subst l_303 y_303 z_303
      obtain ⟨rfl, N_309, e_310⟩ := hQ_303
      have N_311 := Fr.app N_301 N_309
      have e_312 : T_303.heap = T_286.heap := e_310
      have C_313 : Steps p.tables e below S0 (T_303.setTop (mkF m 56 #[.val (.int p0), .val (.int p1), .val (.int p2), .val (.int p3), .val (.int p4), .val (.int p5), .val (.ref a_273), .val (.ref a_287), .val (.ref a_273)] [(.int (1 : Int32))])) := by
        refine C_270.trans ?_
        refine st_269 _ ?_
        refine XS.astore X_269.here hx rfl (hb hby at_9) rfl rfl (l' := #[.val (.int p0), .val (.int p1), .val (.int p2), .val (.int p3), .val (.int p4), .val (.int p5), .val (.ref a_273), .unset, .unset]) rfl ?_
        refine XS.iload X_269.here hx rfl (hb hby at_11) rfl ?_
        refine X_269.ldcI hx hown (mvT hZ (w4 hw)) rfl (hb hby at_13) ?_
        refine XS.iand X_269.here hx rfl (hb hby at_15) rfl ?_
        refine XS.i2c X_269.here hx rfl (hb hby at_16) rfl ?_
        refine st_286 _ ?_
        refine XS.astore X_286.here hx rfl (hb hby at_20) rfl rfl (l' := #[.val (.int p0), .val (.int p1), .val (.int p2), .val (.int p3), .val (.int p4), .val (.int p5), .val (.ref a_273), .val (.ref a_287), .unset]) rfl ?_
        show Steps p.tables e below (T_286.setTop (mkF m 22 #[.val (.int p0), .val (.int p1), .val (.int p2), .val (.int p3), .val (.int p4), .val (.int p5), .val (.ref a_273), .val (.ref a_287), .unset] [])) _
        refine XS.aload X_286.here hx rfl (hb hby at_22) rfl rfl ?_
        refine XS.aload X_286.here hx rfl (hb hby at_24) rfl rfl ?_
        refine st_298 _ ?_
        refine XS.astore X_298.here hx rfl (hb hby at_29) rfl rfl (l' := #[.val (.int p0), .val (.int p1), .val (.int p2), .val (.int p3), .val (.int p4), .val (.int p5), .val (.ref a_273), .val (.ref a_287), .val (.ref a_273)]) rfl ?_
        refine XS.aload X_298.here hx rfl (hb hby at_31) rfl rfl ?_
        refine XS.aload X_298.here hx rfl (hb hby at_33) rfl rfl ?_
        refine acmp X_298 hx rfl (cd := .ne) (x := (.ref a_273)) (y := (.ref a_273)) rfl rfl (same := true) (pc0 := 35) (pc' := 38) rfl (hb hby at_35) rfl (decide_eq_true rfl) (by decide) (by decide) ?_
        refine XS.aload X_298.here hx rfl (hb hby at_38) rfl rfl ?_
        show Steps p.tables e below (T_298.setTop (mkF m 40 #[.val (.int p0), .val (.int p1), .val (.int p2), .val (.int p3), .val (.int p4), .val (.int p5), .val (.ref a_273), .val (.ref a_287), .val (.ref a_273)] [(.ref a_273)])) _
        refine st_303.trans ?_
        refine XS.iloadN X_303.here hx rfl (hb hby at_43) rfl ?_
        refine XS.iconst X_303.here hx rfl (hb hby at_44) ?_
        refine XS.iand X_303.here hx rfl (hb hby at_45) rfl ?_
        refine XS.iconst X_303.here hx rfl (hb hby at_46) ?_
        refine XS.iadd X_303.here hx rfl (hb hby at_47) rfl ?_
        refine XS.icmpNo X_303.here hx rfl (hb hby at_48) rfl (ii_ne_f (show (4 : Int32) = ((p0 &&& (3 : Int32)) + (1 : Int32)) by rw [hn_4]; decide)) ?_
        refine XS.iconst X_303.here hx rfl (hb hby at_51) ?_
        show Steps p.tables e below (T_303.setTop (mkF m 52 #[.val (.int p0), .val (.int p1), .val (.int p2), .val (.int p3), .val (.int p4), .val (.int p5), .val (.ref a_273), .val (.ref a_287), .val (.ref a_273)] [(.int (1 : Int32))])) _
        refine XS.goto X_303.here hx rfl (pc0 := 52) (pc' := 56) rfl (hb hby at_52) (by decide) (by decide) ?_
        exact Steps.refl _
      have K_314 : Keep h0 T_286.heap [] := (((Keep.refl _ _).trans K_277 all0).trans K_289 all0)
      obtain ⟨fs, hr, hrun, hended, hW, hsame⟩ := X_303.leave (v := some (.int (1 : Int32))) (fun h => by rw [Bd.returns] at h; cases h)
      refine ⟨_, _, C_313.trans (retN X_303 hx (t := .boolean) Bd.returns (by simp) (hb hby at_56) hr), hrun, hended, _, _, rfl, ?_, ⟨_, rfl⟩, hW, hsame.mono (by decide) (by decide)⟩
      show Q_law Z G1 p0 p1 p2 p3 p4 p5 h0 n0 (some (.int (1 : Int32))) T_303.heap _
      rw [e_312]
      exact ⟨rfl, N_311, K_314⟩
    · skip
      obtain ⟨a_315, a_316, k_317, rfl, N_318, K_319, g_320, g_321, g_322, g_323, g_324, g_325⟩ := hQ_272
      have N_326 := Fr.app N0 N_318
      have O_327 : Old Z n0 T_269.heap := (X00.keep K_319 all0)
      obtain ⟨_, _, ⟨T_328, L_328, k_328, n_328⟩, -, X_328, ⟨Lc_328, hQ_328, l_328, y_328, z_328⟩, st_328⟩ := Jvm.LawKit.callS X_269 hx (y := M277) hown (mvT hZ (w35 hw)) (mvT hZ (w36 hw)) (mvT hZ (w7 hw)) (mvT hZ (w37 hw)) (by decide) (backOf (W := 0) (rm_valof l Z a0 hw [] G1 HG T_269.heap n0 O_327 (own_cw p5) ) hZ (w37 hw) (w7 hw) (by decide) (by decide)) (g := (mkF m 17 #[.val (.int p0), .val (.int p1), .val (.int p2), .val (.int p3), .val (.int p4), .val (.int p5), .val (.ref a_315), .unset, .unset] [(.int (own_cw p5))])) rfl (by rw [hml]; rfl) (argsL := [(.int (own_cw p5))]) (rest := []) (lenOf pd_469 rfl) rfl (by show 2 * 0 + _ ≤ _; exact Nat.le_of_eq rfl) (hb hby at_17) (fun _ _ => ⟨rfl, rfl, (by decide : 4 + 2 ≤ _), (by decide : 20 + 6 ≤ _)⟩)
      dsimp only [Pt.U, Pt.locs, Pt.cells, Pt.slots] at X_328 l_328 y_328 z_328 st_328 hQ_328
      subst l_328 y_328 z_328
      obtain ⟨a_329, rfl, N_330, K_331, g_332, g_333⟩ := hQ_328
      have N_334 := Fr.app N_326 N_330
      have E_335 : Exa Z T_328.heap a_315 "java/lang/String" := (g_321.keep K_331)
      have F_336 : Fld Z T_328.heap a_315 "java/lang/String" "coder" "B" (.int (1 : Int32)) := (g_322.keep K_331 nin0)
      have F_337 : Fld Z T_328.heap a_315 "java/lang/String" "value" "[B" (.ref a_316) := (g_323.keep K_331 nin0)
      have V_338 : Arv Z T_328.heap a_316 k_317 .byte (8 : Int32) [(.int (own_lo8z (own_cw p1))), (.int (own_hi8 (own_cw p1))), (.int (own_lo8z (own_cw p2))), (.int (own_hi8 (own_cw p2))), (.int (own_lo8z (own_cw p3))), (.int (own_hi8 (own_cw p3))), (.int (own_lo8z (own_cw p4))), (.int (own_hi8 (own_cw p4)))] (.int (0 : Int32)) := (g_325.keep K_331 nin0)
      have O_339 : Old Z n0 T_328.heap := (O_327.keep K_331 all0)
      obtain ⟨_, _, ⟨T_340, L_340, k_340, n_340⟩, -, X_340, ⟨Lc_340, hQ_340, l_340, y_340, z_340⟩, st_340⟩ := Jvm.LawKit.callS X_328 hx (y := M343) hown (mvT hZ (w49 hw)) (mvT hZ (w50 hw)) (mvT hZ (w51 hw)) (mvT hZ (w52 hw)) (by decide) (backOf (W := 0) (rm_id_4_1 l Z a0 hw [] G1 HG T_328.heap n0 O_339 a_315 a_316 k_317 [(.int (own_lo8z (own_cw p1))), (.int (own_hi8 (own_cw p1))), (.int (own_lo8z (own_cw p2))), (.int (own_hi8 (own_cw p2))), (.int (own_lo8z (own_cw p3))), (.int (own_hi8 (own_cw p3))), (.int (own_lo8z (own_cw p4))), (.int (own_hi8 (own_cw p4)))] a_329 E_335 F_336 F_337 V_338) hZ (w52 hw) (w51 hw) (by decide) (by decide)) (g := (mkF m 26 #[.val (.int p0), .val (.int p1), .val (.int p2), .val (.int p3), .val (.int p4), .val (.int p5), .val (.ref a_315), .val (.ref a_329), .unset] [(.ref a_329), (.ref a_315)])) rfl (by rw [hml]; rfl) (argsL := [(.ref a_315), (.ref a_329)]) (rest := []) (lenOf pd_474 rfl) rfl (by show 2 * 0 + _ ≤ _; exact Nat.le_of_eq rfl) (hb hby at_26) (fun _ _ => ⟨rfl, rfl, (by decide : 6 + 0 ≤ _), (by decide : 26 + 0 ≤ _)⟩)
      dsimp only [Pt.U, Pt.locs, Pt.cells, Pt.slots] at X_340 l_340 y_340 z_340 st_340 hQ_340
      subst l_340 y_340 z_340
      obtain ⟨rfl, N_341, e_342⟩ := hQ_340
      have N_343 := Fr.app N_334 N_341
      have e_344 : T_340.heap = T_328.heap := e_342
      obtain ⟨q_346, q_347, q_348, q_349, q_350⟩ := isOf (T := T_340) hZ e_344 E_335
      obtain ⟨_, _, ⟨T_345, L_345, k_345, n_345⟩, -, X_345, ⟨Lc_345, hQ_345, l_345, y_345, z_345⟩, st_345⟩ := X_340.virtualBack hx (y := M322) (z := M322) hown (mvT hZ (w58 hw)) (mvT hZ (w59 hw)) (notFace_of_selects (args := #[]) (mvT hZ (w61 hw))) (mvT hZ (w61 hw)) (mvT hZ (w60 hw)) (by decide) (backOf (W := 0) (rm_len_4_1 l Z a0 hw [] G1 HG T_328.heap n0 O_339 a_315 a_316 k_317 [(.int (own_lo8z (own_cw p1))), (.int (own_hi8 (own_cw p1))), (.int (own_lo8z (own_cw p2))), (.int (own_hi8 (own_cw p2))), (.int (own_lo8z (own_cw p3))), (.int (own_hi8 (own_cw p3))), (.int (own_lo8z (own_cw p4))), (.int (own_hi8 (own_cw p4)))] E_335 F_336 F_337 V_338) hZ (w62 hw) (w7 hw) (by decide) (by decide)) q_348 q_350 (g := (mkF m 40 #[.val (.int p0), .val (.int p1), .val (.int p2), .val (.int p3), .val (.int p4), .val (.int p5), .val (.ref a_315), .val (.ref a_329), .val (.ref a_315)] [(.ref a_315)])) rfl (by rw [hml]; rfl) (Steps.refl _) (argsL := []) (rest := []) (lenOf pd_478 rfl) rfl (by show 2 * 0 + _ ≤ _; exact Nat.le_of_eq rfl) (hb hby at_40) (fun _ _ => ⟨rfl, e_344, (by decide : 6 + 0 ≤ _), (by decide : 26 + 0 ≤ _)⟩)
      dsimp only [Pt.U, Pt.locs, Pt.cells, Pt.slots] at X_345 l_345 y_345 z_345 st_345 hQ_345
      subst l_345 y_345 z_345
      obtain ⟨rfl, N_351, e_352⟩ := hQ_345
      have N_353 := Fr.app N_343 N_351
      have e_354 : T_345.heap = T_328.heap := e_352
      have C_355 : Steps p.tables e below S0 (T_345.setTop (mkF m 56 #[.val (.int p0), .val (.int p1), .val (.int p2), .val (.int p3), .val (.int p4), .val (.int p5), .val (.ref a_315), .val (.ref a_329), .val (.ref a_315)] [(.int (1 : Int32))])) := by
        refine C_270.trans ?_
        refine st_269 _ ?_
        refine XS.astore X_269.here hx rfl (hb hby at_9) rfl rfl (l' := #[.val (.int p0), .val (.int p1), .val (.int p2), .val (.int p3), .val (.int p4), .val (.int p5), .val (.ref a_315), .unset, .unset]) rfl ?_
        refine XS.iload X_269.here hx rfl (hb hby at_11) rfl ?_
        refine X_269.ldcI hx hown (mvT hZ (w4 hw)) rfl (hb hby at_13) ?_
        refine XS.iand X_269.here hx rfl (hb hby at_15) rfl ?_
        refine XS.i2c X_269.here hx rfl (hb hby at_16) rfl ?_
        refine st_328 _ ?_
        refine XS.astore X_328.here hx rfl (hb hby at_20) rfl rfl (l' := #[.val (.int p0), .val (.int p1), .val (.int p2), .val (.int p3), .val (.int p4), .val (.int p5), .val (.ref a_315), .val (.ref a_329), .unset]) rfl ?_
        show Steps p.tables e below (T_328.setTop (mkF m 22 #[.val (.int p0), .val (.int p1), .val (.int p2), .val (.int p3), .val (.int p4), .val (.int p5), .val (.ref a_315), .val (.ref a_329), .unset] [])) _
        refine XS.aload X_328.here hx rfl (hb hby at_22) rfl rfl ?_
        refine XS.aload X_328.here hx rfl (hb hby at_24) rfl rfl ?_
        refine st_340 _ ?_
        refine XS.astore X_340.here hx rfl (hb hby at_29) rfl rfl (l' := #[.val (.int p0), .val (.int p1), .val (.int p2), .val (.int p3), .val (.int p4), .val (.int p5), .val (.ref a_315), .val (.ref a_329), .val (.ref a_315)]) rfl ?_
        refine XS.aload X_340.here hx rfl (hb hby at_31) rfl rfl ?_
        refine XS.aload X_340.here hx rfl (hb hby at_33) rfl rfl ?_
        refine acmp X_340 hx rfl (cd := .ne) (x := (.ref a_315)) (y := (.ref a_315)) rfl rfl (same := true) (pc0 := 35) (pc' := 38) rfl (hb hby at_35) rfl (decide_eq_true rfl) (by decide) (by decide) ?_
        refine XS.aload X_340.here hx rfl (hb hby at_38) rfl rfl ?_
        show Steps p.tables e below (T_340.setTop (mkF m 40 #[.val (.int p0), .val (.int p1), .val (.int p2), .val (.int p3), .val (.int p4), .val (.int p5), .val (.ref a_315), .val (.ref a_329), .val (.ref a_315)] [(.ref a_315)])) _
        refine st_345.trans ?_
        refine XS.iloadN X_345.here hx rfl (hb hby at_43) rfl ?_
        refine XS.iconst X_345.here hx rfl (hb hby at_44) ?_
        refine XS.iand X_345.here hx rfl (hb hby at_45) rfl ?_
        refine XS.iconst X_345.here hx rfl (hb hby at_46) ?_
        refine XS.iadd X_345.here hx rfl (hb hby at_47) rfl ?_
        refine XS.icmpNo X_345.here hx rfl (hb hby at_48) rfl (ii_ne_f (show (4 : Int32) = ((p0 &&& (3 : Int32)) + (1 : Int32)) by rw [hn_4]; decide)) ?_
        refine XS.iconst X_345.here hx rfl (hb hby at_51) ?_
        show Steps p.tables e below (T_345.setTop (mkF m 52 #[.val (.int p0), .val (.int p1), .val (.int p2), .val (.int p3), .val (.int p4), .val (.int p5), .val (.ref a_315), .val (.ref a_329), .val (.ref a_315)] [(.int (1 : Int32))])) _
        refine XS.goto X_345.here hx rfl (pc0 := 52) (pc' := 56) rfl (hb hby at_52) (by decide) (by decide) ?_
        exact Steps.refl _
      have K_356 : Keep h0 T_328.heap [] := (((Keep.refl _ _).trans K_319 all0).trans K_331 all0)
      obtain ⟨fs, hr, hrun, hended, hW, hsame⟩ := X_345.leave (v := some (.int (1 : Int32))) (fun h => by rw [Bd.returns] at h; cases h)
      refine ⟨_, _, C_355.trans (retN X_345 hx (t := .boolean) Bd.returns (by simp) (hb hby at_56) hr), hrun, hended, _, _, rfl, ?_, ⟨_, rfl⟩, hW, hsame.mono (by decide) (by decide)⟩
      show Q_law Z G1 p0 p1 p2 p3 p4 p5 h0 n0 (some (.int (1 : Int32))) T_345.heap _
      rw [e_354]
      exact ⟨rfl, N_353, K_356⟩
theorem own_sta {s : State} {args : Array Value} {C n d K : String} (hx : (Jvm.Cond.exactly (.static C n d) K).value args s none s [] = some true) (hi : (Jvm.Cond.initialized C).before args s = true) (hl : (Jvm.Cond.laysStatic C n d).before args s = true) :
    ∃ a, Sta s s.heap C n d (.ref a) ∧ Exa s s.heap a K ∧ (Term.static C n d).eval args s none [] s = some (.ref a) := by
  obtain ⟨a, c', cell, k, e1, -⟩ := Cond.exactly_spec (Cond.before_iff.mpr hx)
  exact ⟨a, Sta.start e1 (Or.inr ⟨hi, hl⟩), Exa.start e1 hx, e1⟩
theorem own_fld {s : State} {args : Array Value} {t : Term} {a : Addr} {O n d : String} {v : Value} (ev : t.eval args s none [] s = some (.ref a)) (h : (Term.field t O n d).eval args s none [] s = some v) : Fld s s.heap a O n d v :=
  Fld.start (by simpa [Term.eval, ev] using h)
theorem own_fldI {s : State} {args : Array Value} {t : Term} {a : Addr} {O n d : String} {i : Int32} (ev : t.eval args s none [] s = some (.ref a)) (h : (Jvm.Cond.eq (Term.field t O n d) (.int i)).value args s none s [] = some true) : Fld s s.heap a O n d (.int i) :=
  own_fld ev (eqv_i (Term.int_eval i) h)
set_option maxRecDepth 65536 in
set_option maxHeartbeats 40000000 in
theorem comes_1 {Post : Tables → Env → Array Value → State → Outcome → State → Prop} (hpost : ∀ tb e args s v u, (limb_1_1.after args s (.returned v) u = true ∧ limb_1_2.after args s (.returned v) u = true ∧ True) → FrameEnd s (.returned v) u (Jvm.fieldLocs frame_1_writes args s ++ Jvm.arrayLocs frame_1_arrays args s ++ Jvm.staticLocs frame_1_statics s) 24 128 → Post tb e args s (.returned v) u) :
    ArmFor flags0 classFile x code maxLocals ret World_1 tables_1 room_1 Calls_1 rest_1 Pre_1 Post := by
  intro l hfl _ _ p e ha hc hk s m args below hf hA hF happ hP
  obtain ⟨hcalls, hrest, hpre⟩ := hP
  obtain ⟨-, -, -, hnamed, -, -, -, hat⟩ := (Spec.applies_iff hf).mp happ
  obtain ⟨hg, hn⟩ := and_e (Cond.before_iff.mp (show (Jvm.Cond.and given_1 narrow_1).before args s = true from hpre))
  obtain ⟨h1, g0⟩ := and_e hg
  obtain ⟨a0, g1⟩ := and_e g0
  obtain ⟨a1, g2⟩ := and_e g1
  obtain ⟨a2, g3⟩ := and_e g2
  obtain ⟨a3, g4⟩ := and_e g3
  obtain ⟨a4, g5⟩ := and_e g4
  have a5 := g5
  obtain ⟨w0, w1, w2, w3, w4, w5, rfl⟩ : ∃ w0 w1 w2 w3 w4 w5 : Value, args = #[w0, w1, w2, w3, w4, w5] := by
    have hs : args.size = 6 := by simpa [Cond.value, given_1] using h1
    obtain ⟨L⟩ := args
    match L, hs with
    | [w0, w1, w2, w3, w4, w5], _ => exact ⟨w0, w1, w2, w3, w4, w5, rfl⟩
  have hw := fun d (hd : d ∈ tables_1) => atoms_spec (ws := Jvm.Cond.code x code maxLocals ret :: tables_1) hat d (List.mem_cons_of_mem _ hd)
  obtain ⟨hsets, hown0⟩ := atoms_of _ (rest_1_c_eq ▸ (show rest_1_c.before _ s = true from hrest))
  have hfit : Fit s := fun {y c} hc i hi => by
    obtain ⟨ha, rfl⟩ := Array.getElem?_eq_some_iff.mp hc
    have q := List.all_eq_true.mp ((Array.all_eq_true_iff_forall_mem.mp hF) _ (Array.getElem_mem ha)) i (List.mem_range.mpr hi)
    simpa [Array.getElem?_eq_getElem hi] using q
  obtain ⟨i0, q0⟩ := is_v a0
  obtain rfl : w0 = (.int i0) := Option.some.inj q0
  obtain ⟨i1, q1⟩ := is_v a1
  obtain rfl : w1 = (.int i1) := Option.some.inj q1
  obtain ⟨i2, q2⟩ := is_v a2
  obtain rfl : w2 = (.int i2) := Option.some.inj q2
  obtain ⟨i3, q3⟩ := is_v a3
  obtain rfl : w3 = (.int i3) := Option.some.inj q3
  obtain ⟨i4, q4⟩ := is_v a4
  obtain rfl : w4 = (.int i4) := Option.some.inj q4
  obtain ⟨i5, q5⟩ := is_v a5
  obtain rfl : w5 = (.int i5) := Option.some.inj q5
  obtain ⟨iCS, eCS⟩ := is_v (Cond.before_iff.mp (hsets _ (List.mem_of_getElem? (i := 1) rfl)))
  have SCS : Sta s s.heap "java/lang/String" "COMPACT_STRINGS" "Z" (.int iCS) := Sta.start eCS (Or.inl (hsets _ (List.mem_of_getElem? (i := 0) rfl)))
  have PCS : ¬ (iCS = (0 : Int32)) := gotF (Cond.eq_ints eCS (Term.int_eval (0))) (not_v (Cond.before_iff.mp (hsets _ (List.mem_of_getElem? (i := 2) rfl))))
  have ST0 : Sta s s.heap "java/lang/StringUTF16" "$assertionsDisabled" "Z" (.int (1 : Int32)) := Sta.start (eqv_i (Term.int_eval (1)) (Cond.before_iff.mp (hsets _ (List.mem_of_getElem? (i := 12) rfl)))) (Or.inl (hsets _ (List.mem_of_getElem? (i := 11) rfl)))
  have ST1 : Sta s s.heap "java/lang/StringUTF16" "HI_BYTE_SHIFT" "I" (.int (0 : Int32)) := Sta.start (eqv_i (Term.int_eval (0)) (Cond.before_iff.mp (hsets _ (List.mem_of_getElem? (i := 15) rfl)))) (Or.inl (hsets _ (List.mem_of_getElem? (i := 14) rfl)))
  have ST2 : Sta s s.heap "java/lang/StringUTF16" "LO_BYTE_SHIFT" "I" (.int (8 : Int32)) := Sta.start (eqv_i (Term.int_eval (8)) (Cond.before_iff.mp (hsets _ (List.mem_of_getElem? (i := 18) rfl)))) (Or.inl (hsets _ (List.mem_of_getElem? (i := 17) rfl)))
  have HG : own_G l s #[(.int i0), (.int i1), (.int i2), (.int i3), (.int i4), (.int i5)] iCS := ⟨SCS, PCS, ST0, ST1, ST2⟩
  obtain ⟨n, o, h1, h2, h3, _, L, rfl, ⟨rfl, N, -⟩, hq⟩ := rm_law l s _ hw tables_1 iCS HG s.heap s.heap.size (Old.start s) i0 i1 i2 i3 i4 i5 p e ha hc hk s m _ below hf ((Spec.applies_iff_loose hf).mp happ).1 ⟨rfl, State.Warmed39.refl s, rfl⟩ trivial
  refine ⟨n, _, h1, h2, h3, hpost _ _ _ _ _ _ ⟨Cond.after_iff.mpr rfl, Cond.after_iff.mpr (eq_i res_at (Term.int_eval (1)) rfl), trivial⟩ ⟨hq.1, hq.2.1, (hq.2.2.sift fun y hy => Or.inr (N y hy)).mono (by decide) (by decide)⟩⟩
theorem main_1_1 : Claimed_1_1 := comes_1 fun _ _ _ _ _ _ h hF => ⟨h.1, hF⟩
theorem main_1_2 : Claimed_1_2 := comes_1 fun _ _ _ _ _ _ h hF => ⟨h.2.1, hF⟩
end Jvm.Pilot.@@N@@
namespace Jvm.Pilot.@@N@@
open Jvm Jvm.ClassFile Sem Op Lib Jvm.Free Jvm.Stand Jvm.Pilot.@@N@@.Jvm.D
/-! MADE BY PROGRAM (witnessworld.py) out of the Statement's table words and the real class files: 20 classes; the members and pool entries that the words name. The judged class is class 1, her method 2. -/
namespace start1
open Jvm.ClassFile
def u (s : String) : CpInfo := .utf8 (stringToUtf16 s)
/-- a pool by its gaps: so many unusable entries, then the entry; so many at the end -/
def gap : Nat → List CpInfo → List CpInfo
  | 0, r => r
  | n + 1, r => .unusable :: gap n r
def poolList (es : List (Nat × CpInfo)) (last : Nat) : List CpInfo := es.foldr (fun e r => gap e.1 (e.2 :: r)) (gap last [])
def pool (es : List (Nat × CpInfo)) (last : Nat) : Array CpInfo := ⟨poolList es last⟩
def fileOf (pool : Array CpInfo) (this : Nat) (attrs : Array Attribute := #[]) (ms : Array MethodInfo := #[]) (fl : Nat := 33) (sup : Nat := 0) (ifs : Array Nat := #[]) (fds : Array FieldInfo := #[]) : ClassFile where
  minorVersion := 0
  majorVersion := 65
  constantPool := pool
  accessFlags := fl
  thisClass := this
  superClass := sup
  interfaces := ifs
  fields := fds
  methods := ms
  attributes := attrs
def plain (name : String) (sup : Option ClassId) : Class where
  name := name
  kind := .ordinary
  loader := none
  accessFlags := 33
  super := sup
  interfaces := #[]
  cf := none
  fields := #[]
  methods := #[]
  instanceTypes := #[]
  staticTypes := #[]
  resolved := #[]
  callSites := []
  init := .initialized
  statics := none
  mirror := none

def pool0 : Array CpInfo := pool [(5, u "<init>"), (0, u "()V"), (1, .class_ 10), (1, u "java/lang/Object")] 113

def k0c0 : Code := { maxStack := 0, maxLocals := 1, code := object_method_1_code, exceptionTable := #[], attributes := #[] }
def k0m0 : Method := { name := "<init>", desc := "()V", sig := { parameters := [], returnType := none }, accessFlags := 1, code := some k0c0 }
/-- java/lang/Object -/
def k0 : Class := { plain "java/lang/Object" none with
  accessFlags := 33
  interfaces := #[]
  cf := some (fileOf pool0 8 #[] #[{ accessFlags := 1, nameIndex := 5, descriptorIndex := 6, attributes := #[] }] 33 0 #[] #[])
  fields := #[]
  methods := #[k0m0]
  instanceTypes := #[]
  staticTypes := #[]
  resolved := Array.replicate 124 none
  statics := none }

def pool1 : Array CpInfo := pool [(2, .class_ 4), (1, u "java/lang/Object"), (0, u "<init>"), (0, u "()V"), (0, .integer 65535), (0, .class_ 9), (0, u "java/lang/String"), (0, .methodref 8 11), (0, .nameAndType 5 12), (0, u "([C)V"), (0, .methodref 14 15), (0, .class_ 16), (0, .nameAndType 17 18), (0, u "com/example/fleetyard/fleetyard/io/ValuesIdPinLaw"), (0, u "text"), (0, u "(IIIII)Ljava/lang/String;"), (0, .methodref 8 20), (0, .nameAndType 21 22), (0, u "valueOf"), (0, u "(C)Ljava/lang/String;"), (0, .methodref 24 25), (0, .class_ 26), (0, .nameAndType 27 28), (0, u "com/example/fleetyard/fleetyard/io/Values"), (0, u "id"), (0, u "(Ljava/lang/String;Ljava/lang/String;)Ljava/lang/String;"), (0, .methodref 8 30), (0, .nameAndType 31 32), (0, u "length"), (0, u "()I"), (3, u "law"), (0, u "(IIIIII)Z")] 5

def k1m0 : Method := { name := "<init>", desc := "()V", sig := { parameters := [], returnType := none }, accessFlags := 2, code := none }
def k1c1 : Code := { maxStack := 6, maxLocals := 10, code := method_2_code, exceptionTable := #[], attributes := #[] }
def k1m1 : Method := { name := "text", desc := "(IIIII)Ljava/lang/String;", sig := { parameters := [.int, .int, .int, .int, .int], returnType := some (.object "java/lang/String") }, accessFlags := 10, code := some k1c1 }
def k1c2 : Code := { maxStack := 5, maxLocals := 9, code := code, exceptionTable := #[], attributes := #[] }
def k1m2 : Method := { name := "law", desc := "(IIIIII)Z", sig := { parameters := [.int, .int, .int, .int, .int, .int], returnType := some .boolean }, accessFlags := 9, code := some k1c2 }
/-- com/example/fleetyard/fleetyard/io/ValuesIdPinLaw -/
def k1 : Class := { plain "com/example/fleetyard/fleetyard/io/ValuesIdPinLaw" (some 0) with
  accessFlags := 49
  interfaces := #[]
  cf := some (fileOf pool1 14 #[] #[{ accessFlags := 2, nameIndex := 5, descriptorIndex := 6, attributes := #[] }, { accessFlags := 10, nameIndex := 17, descriptorIndex := 18, attributes := #[] }, { accessFlags := 9, nameIndex := 36, descriptorIndex := 37, attributes := #[] }] 49 2 #[] #[])
  fields := #[]
  methods := #[k1m0, k1m1, k1m2]
  instanceTypes := #[]
  staticTypes := #[]
  resolved := Array.replicate 43 none
  statics := none }

def pool2 : Array CpInfo := pool [(1, .class_ 2), (0, u "java/io/Serializable"), (0, .class_ 4), (0, u "java/lang/Object")] 2

/-- java/io/Serializable -/
def k2 : Class := { plain "java/io/Serializable" (some 0) with
  accessFlags := 1537
  interfaces := #[]
  cf := some (fileOf pool2 1 #[] #[] 1537 3 #[] #[])
  fields := #[]
  methods := #[]
  instanceTypes := #[]
  staticTypes := #[]
  resolved := Array.replicate 7 none
  statics := none }

def pool3 : Array CpInfo := pool [(1, .class_ 2), (0, u "java/lang/Comparable"), (0, .class_ 4), (0, u "java/lang/Object")] 7

/-- java/lang/Comparable -/
def k3 : Class := { plain "java/lang/Comparable" (some 0) with
  accessFlags := 1537
  interfaces := #[]
  cf := some (fileOf pool3 1 #[] #[] 1537 3 #[] #[])
  fields := #[]
  methods := #[]
  instanceTypes := #[]
  staticTypes := #[]
  resolved := Array.replicate 12 none
  statics := none }

def pool4 : Array CpInfo := pool [(2, .class_ 4), (1, u "java/lang/CharSequence"), (42, .class_ 48), (0, u "java/lang/CharSequence$1CodePointIterator"), (10, .class_ 60), (0, u "java/lang/CharSequence$1CharIterator"), (5, .class_ 67), (0, u "java/lang/Object")] 63

/-- java/lang/CharSequence -/
def k4 : Class := { plain "java/lang/CharSequence" (some 0) with
  accessFlags := 1537
  interfaces := #[]
  cf := some (fileOf pool4 2 #[.nestMembers #[47, 59]] #[] 1537 66 #[] #[])
  fields := #[]
  methods := #[]
  instanceTypes := #[]
  staticTypes := #[]
  resolved := Array.replicate 131 none
  statics := none }

def pool5 : Array CpInfo := pool [(1, .class_ 2), (0, u "java/lang/constant/Constable"), (0, .class_ 4), (0, u "java/lang/Object")] 6

/-- java/lang/constant/Constable -/
def k5 : Class := { plain "java/lang/constant/Constable" (some 0) with
  accessFlags := 1537
  interfaces := #[]
  cf := some (fileOf pool5 1 #[] #[] 1537 3 #[] #[])
  fields := #[]
  methods := #[]
  instanceTypes := #[]
  staticTypes := #[]
  resolved := Array.replicate 11 none
  statics := none }

def pool6 : Array CpInfo := pool [(1, .class_ 2), (0, u "java/lang/constant/ConstantDesc"), (0, .class_ 4), (0, u "java/lang/Object")] 32

/-- java/lang/constant/ConstantDesc -/
def k6 : Class := { plain "java/lang/constant/ConstantDesc" (some 0) with
  accessFlags := 1537
  interfaces := #[]
  cf := some (fileOf pool6 1 #[] #[] 1537 3 #[] #[])
  fields := #[]
  methods := #[]
  instanceTypes := #[]
  staticTypes := #[]
  resolved := Array.replicate 37 none
  statics := none }

def pool7 : Array CpInfo := pool [(1, .methodref 2 3), (0, .class_ 4), (0, .nameAndType 5 6), (0, u "java/lang/Object"), (0, u "<init>"), (0, u "()V"), (2, .fieldref 10 11), (0, .class_ 12), (0, .nameAndType 13 14), (0, u "java/lang/String"), (0, u "value"), (0, u "[B"), (0, .fieldref 10 16), (0, .nameAndType 17 18), (0, u "coder"), (0, u "B"), (2, u "hash"), (0, u "I"), (2, u "hashIsZero"), (0, u "Z"), (0, .methodref 10 28), (0, .nameAndType 5 29), (0, u "([CIILjava/lang/Void;)V"), (8, .fieldref 10 39), (0, .nameAndType 40 26), (0, u "COMPACT_STRINGS"), (1, .class_ 44), (1, u "java/lang/StringUTF16"), (0, u "compress"), (1, .methodref 42 48), (0, .nameAndType 49 50), (0, u "coderFromArrayLen"), (0, u "([BI)B"), (2, u "toBytes"), (53, .class_ 109), (1, u "java/lang/StringLatin1"), (32, u "()Z"), (34, .methodref 42 178), (0, .nameAndType 45 179), (0, u "([CII)[B"), (29, .methodref 10 210), (0, .nameAndType 5 211), (0, u "([BB)V"), (122, u "()I"), (0, .methodref 10 336), (0, .nameAndType 17 337), (0, u "()B"), (31, u "(C)Z"), (137, u "length"), (67, .class_ 576), (0, u "java/lang/CharSequence"), (22, u "CASE_INSENSITIVE_ORDER"), (0, u "Ljava/util/Comparator;"), (91, u "isEmpty"), (89, u "valueOf"), (0, u "(C)Ljava/lang/String;"), (226, u "([C)V"), (4, .methodref 107 1016), (0, .nameAndType 1017 369), (0, u "canEncode"), (0, .methodref 107 1019), (0, .nameAndType 53 1020), (0, u "(C)[B"), (0, .methodref 42 1019), (79, u "serialPersistentFields"), (0, u "[Ljava/io/ObjectStreamField;"), (0, .class_ 1104), (0, u "java/lang/String$CaseInsensitiveComparator"), (1, .class_ 1107), (0, u "java/io/Serializable"), (0, .class_ 1109), (0, u "java/lang/Comparable"), (0, .class_ 1111), (0, u "java/lang/constant/Constable"), (0, .class_ 1113), (0, u "java/lang/constant/ConstantDesc"), (2, u "serialVersionUID"), (0, u "J"), (3, u "REPL"), (0, u "C"), (2, u "LATIN1"), (1, u "UTF16")] 323

def k7m0 : Method := { name := "<init>", desc := "()V", sig := { parameters := [], returnType := none }, accessFlags := 1, code := none }
def k7c1 : Code := { maxStack := 5, maxLocals := 2, code := jdk_42_method_3_code, exceptionTable := #[], attributes := #[] }
def k7m1 : Method := { name := "<init>", desc := "([C)V", sig := { parameters := [(.array .char)], returnType := none }, accessFlags := 1, code := some k7c1 }
def k7c2 : Code := { maxStack := 2, maxLocals := 1, code := jdk_42_method_54_code, exceptionTable := #[], attributes := #[] }
def k7m2 : Method := { name := "length", desc := "()I", sig := { parameters := [], returnType := some .int }, accessFlags := 1, code := some k7c2 }
def k7c3 : Code := { maxStack := 1, maxLocals := 1, code := jdk_42_method_55_code, exceptionTable := #[], attributes := #[] }
def k7m3 : Method := { name := "isEmpty", desc := "()Z", sig := { parameters := [], returnType := some .boolean }, accessFlags := 1, code := some k7c3 }
def k7c4 : Code := { maxStack := 4, maxLocals := 1, code := jdk_42_method_139_code, exceptionTable := #[], attributes := #[] }
def k7m4 : Method := { name := "valueOf", desc := "(C)Ljava/lang/String;", sig := { parameters := [.char], returnType := some (.object "java/lang/String") }, accessFlags := 9, code := some k7c4 }
def k7c5 : Code := { maxStack := 4, maxLocals := 6, code := jdk_42_method_149_code, exceptionTable := #[], attributes := #[] }
def k7m5 : Method := { name := "<init>", desc := "([CIILjava/lang/Void;)V", sig := { parameters := [(.array .char), .int, .int, (.object "java/lang/Void")], returnType := none }, accessFlags := 2, code := some k7c5 }
def k7c6 : Code := { maxStack := 2, maxLocals := 3, code := jdk_42_method_151_code, exceptionTable := #[], attributes := #[] }
def k7m6 : Method := { name := "<init>", desc := "([BB)V", sig := { parameters := [(.array .byte), .byte], returnType := none }, accessFlags := 0, code := some k7c6 }
def k7c7 : Code := { maxStack := 1, maxLocals := 1, code := jdk_42_method_152_code, exceptionTable := #[], attributes := #[] }
def k7m7 : Method := { name := "coder", desc := "()B", sig := { parameters := [], returnType := some .byte }, accessFlags := 0, code := some k7c7 }
/-- java/lang/String -/
def k7 : Class := { plain "java/lang/String" (some 0) with
  accessFlags := 49
  interfaces := #[2, 3, 4, 5, 6]
  cf := some (fileOf pool7 10 #[.nestMembers #[1103]] #[{ accessFlags := 1, nameIndex := 5, descriptorIndex := 6, attributes := #[] }, { accessFlags := 1, nameIndex := 5, descriptorIndex := 1010, attributes := #[] }, { accessFlags := 1, nameIndex := 507, descriptorIndex := 334, attributes := #[] }, { accessFlags := 1, nameIndex := 692, descriptorIndex := 142, attributes := #[] }, { accessFlags := 9, nameIndex := 782, descriptorIndex := 783, attributes := #[] }, { accessFlags := 2, nameIndex := 5, descriptorIndex := 29, attributes := #[] }, { accessFlags := 0, nameIndex := 5, descriptorIndex := 211, attributes := #[] }, { accessFlags := 0, nameIndex := 17, descriptorIndex := 337, attributes := #[] }] 49 2 #[1106, 1108, 575, 1110, 1112] #[{ accessFlags := 18, nameIndex := 13, descriptorIndex := 14, attributes := #[] }, { accessFlags := 18, nameIndex := 17, descriptorIndex := 18, attributes := #[] }, { accessFlags := 2, nameIndex := 21, descriptorIndex := 22, attributes := #[] }, { accessFlags := 2, nameIndex := 25, descriptorIndex := 26, attributes := #[] }, { accessFlags := 26, nameIndex := 1116, descriptorIndex := 1117, attributes := #[] }, { accessFlags := 24, nameIndex := 40, descriptorIndex := 26, attributes := #[] }, { accessFlags := 26, nameIndex := 1101, descriptorIndex := 1102, attributes := #[] }, { accessFlags := 26, nameIndex := 1121, descriptorIndex := 1122, attributes := #[] }, { accessFlags := 25, nameIndex := 599, descriptorIndex := 600, attributes := #[] }, { accessFlags := 24, nameIndex := 1125, descriptorIndex := 18, attributes := #[] }, { accessFlags := 24, nameIndex := 1127, descriptorIndex := 18, attributes := #[] }])
  fields := #[{ name := "value", type := (.array .byte), accessFlags := 18, slot := 0, constantValue := 0 }, { name := "coder", type := .byte, accessFlags := 18, slot := 1, constantValue := 0 }, { name := "hash", type := .int, accessFlags := 2, slot := 2, constantValue := 0 }, { name := "hashIsZero", type := .boolean, accessFlags := 2, slot := 3, constantValue := 0 }, { name := "serialVersionUID", type := .long, accessFlags := 26, slot := 0, constantValue := 0 }, { name := "COMPACT_STRINGS", type := .boolean, accessFlags := 24, slot := 1, constantValue := 0 }, { name := "serialPersistentFields", type := (.array (.object "java/io/ObjectStreamField")), accessFlags := 26, slot := 2, constantValue := 0 }, { name := "REPL", type := .char, accessFlags := 26, slot := 3, constantValue := 0 }, { name := "CASE_INSENSITIVE_ORDER", type := (.object "java/util/Comparator"), accessFlags := 25, slot := 4, constantValue := 0 }, { name := "LATIN1", type := .byte, accessFlags := 24, slot := 5, constantValue := 0 }, { name := "UTF16", type := .byte, accessFlags := 24, slot := 6, constantValue := 0 }]
  methods := #[k7m0, k7m1, k7m2, k7m3, k7m4, k7m5, k7m6, k7m7]
  instanceTypes := #[(.array .byte), .byte, .int, .boolean]
  staticTypes := #[.long, .boolean, (.array (.object "java/io/ObjectStreamField")), .char, (.object "java/util/Comparator"), .byte, .byte]
  resolved := Array.replicate 1451 none
  statics := some 0 }

def pool8 : Array CpInfo := pool [(6, .class_ 8), (1, u "java/lang/Object"), (0, u "<init>"), (0, u "()V"), (0, .methodref 12 13), (0, .class_ 14), (0, .nameAndType 15 16), (0, u "java/lang/StringUTF16"), (0, u "newBytesLength"), (0, u "(I)I"), (3, .integer 1073741823), (23, .fieldref 12 45), (0, .nameAndType 46 47), (0, u "$assertionsDisabled"), (0, u "Z"), (11, .fieldref 12 60), (0, .nameAndType 61 62), (0, u "HI_BYTE_SHIFT"), (0, u "I"), (0, .fieldref 12 64), (0, .nameAndType 65 62), (0, u "LO_BYTE_SHIFT"), (5, .methodref 12 72), (0, .nameAndType 73 74), (0, u "getChar"), (0, u "([BI)C"), (32, .methodref 12 108), (0, .nameAndType 109 110), (0, u "newBytesFor"), (0, u "(I)[B"), (0, .methodref 12 112), (0, .nameAndType 113 114), (0, u "putChar"), (0, u "([BII)V"), (0, .methodref 12 116), (0, .nameAndType 117 118), (0, u "compress"), (0, u "([CI[BII)I"), (0, .methodref 12 120), (0, .nameAndType 121 122), (0, u "toBytes"), (0, u "([CII)[B"), (138, u "coderFromArrayLen"), (0, u "([BI)B"), (106, .class_ 371), (1, u "java/lang/StringUTF16$LinesSpliterator"), (58, u "MAX_LENGTH"), (44, u "(C)[B"), (151, .class_ 628), (0, u "java/lang/StringUTF16$CodePointsSpliterator"), (0, .class_ 630), (0, u "java/lang/StringUTF16$CharsSpliterator")] 4

def k8m0 : Method := { name := "<init>", desc := "()V", sig := { parameters := [], returnType := none }, accessFlags := 0, code := none }
def k8c1 : Code := { maxStack := 1, maxLocals := 1, code := jdk_52_method_2_code, exceptionTable := #[], attributes := #[] }
def k8m1 : Method := { name := "newBytesFor", desc := "(I)[B", sig := { parameters := [.int], returnType := some (.array .byte) }, accessFlags := 9, code := some k8c1 }
def k8c2 : Code := { maxStack := 4, maxLocals := 1, code := jdk_52_method_3_code, exceptionTable := #[], attributes := #[] }
def k8m2 : Method := { name := "newBytesLength", desc := "(I)I", sig := { parameters := [.int], returnType := some .int }, accessFlags := 9, code := some k8c2 }
def k8c3 : Code := { maxStack := 4, maxLocals := 3, code := jdk_52_method_4_code, exceptionTable := #[], attributes := #[] }
def k8m3 : Method := { name := "putChar", desc := "([BII)V", sig := { parameters := [(.array .byte), .int, .int], returnType := none }, accessFlags := 8, code := some k8c3 }
def k8c4 : Code := { maxStack := 3, maxLocals := 2, code := jdk_52_method_5_code, exceptionTable := #[], attributes := #[] }
def k8m4 : Method := { name := "getChar", desc := "([BI)C", sig := { parameters := [(.array .byte), .int], returnType := some .char }, accessFlags := 8, code := some k8c4 }
def k8c5 : Code := { maxStack := 4, maxLocals := 5, code := jdk_52_method_14_code, exceptionTable := #[], attributes := #[] }
def k8m5 : Method := { name := "toBytes", desc := "([CII)[B", sig := { parameters := [(.array .char), .int, .int], returnType := some (.array .byte) }, accessFlags := 9, code := some k8c5 }
def k8c6 : Code := { maxStack := 2, maxLocals := 2, code := jdk_52_method_15_code, exceptionTable := #[], attributes := #[] }
def k8m6 : Method := { name := "coderFromArrayLen", desc := "([BI)B", sig := { parameters := [(.array .byte), .int], returnType := some .byte }, accessFlags := 8, code := some k8c6 }
def k8c7 : Code := { maxStack := 5, maxLocals := 6, code := jdk_52_method_16_code, exceptionTable := #[], attributes := #[] }
def k8m7 : Method := { name := "compress", desc := "([CII)[B", sig := { parameters := [(.array .char), .int, .int], returnType := some (.array .byte) }, accessFlags := 9, code := some k8c7 }
def k8c8 : Code := { maxStack := 3, maxLocals := 7, code := jdk_52_method_21_code, exceptionTable := #[], attributes := #[] }
def k8m8 : Method := { name := "compress", desc := "([CI[BII)I", sig := { parameters := [(.array .char), .int, (.array .byte), .int, .int], returnType := some .int }, accessFlags := 9, code := some k8c8 }
def k8c9 : Code := { maxStack := 3, maxLocals := 2, code := jdk_52_method_24_code, exceptionTable := #[], attributes := #[] }
def k8m9 : Method := { name := "toBytes", desc := "(C)[B", sig := { parameters := [.char], returnType := some (.array .byte) }, accessFlags := 9, code := some k8c9 }
/-- java/lang/StringUTF16 -/
def k8 : Class := { plain "java/lang/StringUTF16" (some 0) with
  accessFlags := 48
  interfaces := #[]
  cf := some (fileOf pool8 12 #[.nestMembers #[627, 629, 369]] #[{ accessFlags := 0, nameIndex := 9, descriptorIndex := 10, attributes := #[] }, { accessFlags := 9, nameIndex := 109, descriptorIndex := 110, attributes := #[] }, { accessFlags := 9, nameIndex := 15, descriptorIndex := 16, attributes := #[] }, { accessFlags := 8, nameIndex := 113, descriptorIndex := 114, attributes := #[] }, { accessFlags := 8, nameIndex := 73, descriptorIndex := 74, attributes := #[] }, { accessFlags := 9, nameIndex := 121, descriptorIndex := 122, attributes := #[] }, { accessFlags := 8, nameIndex := 261, descriptorIndex := 262, attributes := #[] }, { accessFlags := 9, nameIndex := 117, descriptorIndex := 122, attributes := #[] }, { accessFlags := 9, nameIndex := 117, descriptorIndex := 118, attributes := #[] }, { accessFlags := 9, nameIndex := 121, descriptorIndex := 475, attributes := #[] }] 48 6 #[] #[{ accessFlags := 26, nameIndex := 61, descriptorIndex := 62, attributes := #[] }, { accessFlags := 26, nameIndex := 65, descriptorIndex := 62, attributes := #[] }, { accessFlags := 24, nameIndex := 430, descriptorIndex := 62, attributes := #[] }, { accessFlags := 4120, nameIndex := 46, descriptorIndex := 47, attributes := #[] }])
  fields := #[{ name := "HI_BYTE_SHIFT", type := .int, accessFlags := 26, slot := 0, constantValue := 0 }, { name := "LO_BYTE_SHIFT", type := .int, accessFlags := 26, slot := 1, constantValue := 0 }, { name := "MAX_LENGTH", type := .int, accessFlags := 24, slot := 2, constantValue := 0 }, { name := "$assertionsDisabled", type := .boolean, accessFlags := 4120, slot := 3, constantValue := 0 }]
  methods := #[k8m0, k8m1, k8m2, k8m3, k8m4, k8m5, k8m6, k8m7, k8m8, k8m9]
  instanceTypes := #[]
  staticTypes := #[.int, .int, .int, .boolean]
  resolved := Array.replicate 635 none
  statics := some 1 }

def pool9 : Array CpInfo := pool [(4, .class_ 6), (1, u "java/lang/Object"), (0, u "<init>"), (0, u "()V"), (5, .class_ 16), (1, u "java/lang/StringLatin1"), (73, u "canEncode"), (14, u "(C)Z"), (15, u "$assertionsDisabled"), (0, u "Z"), (98, .class_ 223), (1, u "java/lang/StringLatin1$LinesSpliterator"), (156, u "toBytes"), (1, u "(C)[B"), (7, .class_ 391), (0, u "java/lang/StringLatin1$CharsSpliterator")] 3

def k9m0 : Method := { name := "<init>", desc := "()V", sig := { parameters := [], returnType := none }, accessFlags := 0, code := none }
def k9c1 : Code := { maxStack := 2, maxLocals := 1, code := jdk_43_method_3_code, exceptionTable := #[], attributes := #[] }
def k9m1 : Method := { name := "canEncode", desc := "(C)Z", sig := { parameters := [.char], returnType := some .boolean }, accessFlags := 9, code := some k9c1 }
def k9c2 : Code := { maxStack := 4, maxLocals := 1, code := jdk_43_method_46_code, exceptionTable := #[], attributes := #[] }
def k9m2 : Method := { name := "toBytes", desc := "(C)[B", sig := { parameters := [.char], returnType := some (.array .byte) }, accessFlags := 9, code := some k9c2 }
/-- java/lang/StringLatin1 -/
def k9 : Class := { plain "java/lang/StringLatin1" (some 0) with
  accessFlags := 48
  interfaces := #[]
  cf := some (fileOf pool9 14 #[.nestMembers #[390, 221]] #[{ accessFlags := 0, nameIndex := 7, descriptorIndex := 8, attributes := #[] }, { accessFlags := 9, nameIndex := 90, descriptorIndex := 105, attributes := #[] }, { accessFlags := 9, nameIndex := 380, descriptorIndex := 382, attributes := #[] }] 48 4 #[] #[{ accessFlags := 4120, nameIndex := 121, descriptorIndex := 122, attributes := #[] }])
  fields := #[{ name := "$assertionsDisabled", type := .boolean, accessFlags := 4120, slot := 0, constantValue := 0 }]
  methods := #[k9m0, k9m1, k9m2]
  instanceTypes := #[]
  staticTypes := #[.boolean]
  resolved := Array.replicate 395 none
  statics := none }

def pool10 : Array CpInfo := pool [(2, .class_ 4), (1, u "java/lang/Object"), (0, u "<init>"), (0, u "()V"), (0, .methodref 8 9), (0, .class_ 10), (0, .nameAndType 11 12), (0, u "java/lang/String"), (0, u "isEmpty"), (0, u "()Z"), (36, .class_ 51), (1, u "com/example/fleetyard/fleetyard/io/Values"), (17, u "DECIMAL"), (0, u "Ljava/util/regex/Pattern;"), (13, u "(Ljava/lang/String;Ljava/lang/String;)Ljava/lang/String;"), (37, u "POWERS_OF_TEN"), (0, u "[I"), (61, u "id")] 51

def k10m0 : Method := { name := "<init>", desc := "()V", sig := { parameters := [], returnType := none }, accessFlags := 2, code := none }
def k10c1 : Code := { maxStack := 3, maxLocals := 2, code := prog_27_method_2_code, exceptionTable := #[], attributes := #[] }
def k10m1 : Method := { name := "id", desc := "(Ljava/lang/String;Ljava/lang/String;)Ljava/lang/String;", sig := { parameters := [(.object "java/lang/String"), (.object "java/lang/String")], returnType := some (.object "java/lang/String") }, accessFlags := 8, code := some k10c1 }
/-- com/example/fleetyard/fleetyard/io/Values -/
def k10 : Class := { plain "com/example/fleetyard/fleetyard/io/Values" (some 0) with
  accessFlags := 48
  interfaces := #[]
  cf := some (fileOf pool10 49 #[] #[{ accessFlags := 2, nameIndex := 5, descriptorIndex := 6, attributes := #[] }, { accessFlags := 8, nameIndex := 185, descriptorIndex := 84, attributes := #[] }] 48 2 #[] #[{ accessFlags := 26, nameIndex := 122, descriptorIndex := 123, attributes := #[] }, { accessFlags := 26, nameIndex := 69, descriptorIndex := 70, attributes := #[] }])
  fields := #[{ name := "POWERS_OF_TEN", type := (.array .int), accessFlags := 26, slot := 0, constantValue := 0 }, { name := "DECIMAL", type := (.object "java/util/regex/Pattern"), accessFlags := 26, slot := 1, constantValue := 0 }]
  methods := #[k10m0, k10m1]
  instanceTypes := #[]
  staticTypes := #[(.array .int), (.object "java/util/regex/Pattern")]
  resolved := Array.replicate 237 none
  statics := none }

def pool11 : Array CpInfo := pool [(2, .class_ 4), (1, u "java/lang/Object"), (0, u "<init>"), (0, u "()V"), (17, .class_ 26), (1, u "jdk/internal/util/Preconditions"), (28, .class_ 56), (0, u "jdk/internal/util/Preconditions$4"), (57, .class_ 115), (0, u "jdk/internal/util/Preconditions$1"), (7, u "SIOOBE_FORMATTER"), (0, u "Ljava/util/function/BiFunction;"), (0, .class_ 126), (0, u "jdk/internal/util/Preconditions$2"), (3, u "AIOOBE_FORMATTER"), (0, .class_ 132), (0, u "jdk/internal/util/Preconditions$3"), (3, u "IOOBE_FORMATTER")] 57

def k11m0 : Method := { name := "<init>", desc := "()V", sig := { parameters := [], returnType := none }, accessFlags := 1, code := none }
/-- jdk/internal/util/Preconditions -/
def k11 : Class := { plain "jdk/internal/util/Preconditions" (some 0) with
  accessFlags := 33
  interfaces := #[]
  cf := some (fileOf pool11 24 #[.nestMembers #[55, 131, 125, 114]] #[{ accessFlags := 1, nameIndex := 5, descriptorIndex := 6, attributes := #[] }] 33 2 #[] #[{ accessFlags := 25, nameIndex := 123, descriptorIndex := 124, attributes := #[] }, { accessFlags := 25, nameIndex := 130, descriptorIndex := 124, attributes := #[] }, { accessFlags := 25, nameIndex := 136, descriptorIndex := 124, attributes := #[] }])
  fields := #[{ name := "SIOOBE_FORMATTER", type := (.object "java/util/function/BiFunction"), accessFlags := 25, slot := 0, constantValue := 0 }, { name := "AIOOBE_FORMATTER", type := (.object "java/util/function/BiFunction"), accessFlags := 25, slot := 1, constantValue := 0 }, { name := "IOOBE_FORMATTER", type := (.object "java/util/function/BiFunction"), accessFlags := 25, slot := 2, constantValue := 0 }]
  methods := #[k11m0]
  instanceTypes := #[]
  staticTypes := #[(.object "java/util/function/BiFunction"), (.object "java/util/function/BiFunction"), (.object "java/util/function/BiFunction")]
  resolved := Array.replicate 194 none
  statics := some 2 }

def pool12 : Array CpInfo := pool [(9, u "<init>"), (6, .class_ 18), (1, u "java/lang/Object"), (0, u "()V"), (1, .class_ 23), (1, u "jdk/internal/util/ArraysSupport"), (0, u "LOG2_ARRAY_LONG_INDEX_SCALE"), (0, u "I"), (2, u "U"), (0, u "Ljdk/internal/misc/Unsafe;"), (8, u "BIG_ENDIAN"), (0, u "Z"), (8, u "LOG2_BYTE_BIT_SIZE"), (4, u "LOG2_ARRAY_INT_INDEX_SCALE"), (54, u "JLA"), (0, u "Ljdk/internal/access/JavaLangAccess;"), (11, u "LOG2_ARRAY_BOOLEAN_INDEX_SCALE"), (9, u "LOG2_ARRAY_BYTE_INDEX_SCALE"), (5, u "LOG2_ARRAY_CHAR_INDEX_SCALE"), (5, u "LOG2_ARRAY_SHORT_INDEX_SCALE"), (18, u "LOG2_ARRAY_FLOAT_INDEX_SCALE"), (24, u "LOG2_ARRAY_DOUBLE_INDEX_SCALE"), (89, u "T_BOOLEAN"), (2, u "T_CHAR"), (1, u "T_FLOAT"), (1, u "T_DOUBLE"), (1, u "T_BYTE"), (1, u "T_SHORT"), (1, u "T_INT"), (1, u "T_LONG"), (1, u "SOFT_MAX_ARRAY_LENGTH")] 83

def k12m0 : Method := { name := "<init>", desc := "()V", sig := { parameters := [], returnType := none }, accessFlags := 2, code := none }
/-- jdk/internal/util/ArraysSupport -/
def k12 : Class := { plain "jdk/internal/util/ArraysSupport" (some 0) with
  accessFlags := 33
  interfaces := #[]
  cf := some (fileOf pool12 21 #[] #[{ accessFlags := 2, nameIndex := 9, descriptorIndex := 19, attributes := #[] }] 33 16 #[] #[{ accessFlags := 24, nameIndex := 28, descriptorIndex := 29, attributes := #[] }, { accessFlags := 26, nameIndex := 38, descriptorIndex := 39, attributes := #[] }, { accessFlags := 25, nameIndex := 121, descriptorIndex := 25, attributes := #[] }, { accessFlags := 25, nameIndex := 131, descriptorIndex := 25, attributes := #[] }, { accessFlags := 25, nameIndex := 137, descriptorIndex := 25, attributes := #[] }, { accessFlags := 25, nameIndex := 143, descriptorIndex := 25, attributes := #[] }, { accessFlags := 25, nameIndex := 53, descriptorIndex := 25, attributes := #[] }, { accessFlags := 25, nameIndex := 24, descriptorIndex := 25, attributes := #[] }, { accessFlags := 25, nameIndex := 162, descriptorIndex := 25, attributes := #[] }, { accessFlags := 25, nameIndex := 187, descriptorIndex := 25, attributes := #[] }, { accessFlags := 26, nameIndex := 48, descriptorIndex := 25, attributes := #[] }, { accessFlags := 25, nameIndex := 277, descriptorIndex := 25, attributes := #[] }, { accessFlags := 25, nameIndex := 280, descriptorIndex := 25, attributes := #[] }, { accessFlags := 25, nameIndex := 282, descriptorIndex := 25, attributes := #[] }, { accessFlags := 25, nameIndex := 284, descriptorIndex := 25, attributes := #[] }, { accessFlags := 25, nameIndex := 286, descriptorIndex := 25, attributes := #[] }, { accessFlags := 25, nameIndex := 288, descriptorIndex := 25, attributes := #[] }, { accessFlags := 25, nameIndex := 290, descriptorIndex := 25, attributes := #[] }, { accessFlags := 25, nameIndex := 292, descriptorIndex := 25, attributes := #[] }, { accessFlags := 26, nameIndex := 108, descriptorIndex := 109, attributes := #[] }, { accessFlags := 25, nameIndex := 294, descriptorIndex := 25, attributes := #[] }])
  fields := #[{ name := "U", type := (.object "jdk/internal/misc/Unsafe"), accessFlags := 24, slot := 0, constantValue := 0 }, { name := "BIG_ENDIAN", type := .boolean, accessFlags := 26, slot := 1, constantValue := 0 }, { name := "LOG2_ARRAY_BOOLEAN_INDEX_SCALE", type := .int, accessFlags := 25, slot := 2, constantValue := 0 }, { name := "LOG2_ARRAY_BYTE_INDEX_SCALE", type := .int, accessFlags := 25, slot := 3, constantValue := 0 }, { name := "LOG2_ARRAY_CHAR_INDEX_SCALE", type := .int, accessFlags := 25, slot := 4, constantValue := 0 }, { name := "LOG2_ARRAY_SHORT_INDEX_SCALE", type := .int, accessFlags := 25, slot := 5, constantValue := 0 }, { name := "LOG2_ARRAY_INT_INDEX_SCALE", type := .int, accessFlags := 25, slot := 6, constantValue := 0 }, { name := "LOG2_ARRAY_LONG_INDEX_SCALE", type := .int, accessFlags := 25, slot := 7, constantValue := 0 }, { name := "LOG2_ARRAY_FLOAT_INDEX_SCALE", type := .int, accessFlags := 25, slot := 8, constantValue := 0 }, { name := "LOG2_ARRAY_DOUBLE_INDEX_SCALE", type := .int, accessFlags := 25, slot := 9, constantValue := 0 }, { name := "LOG2_BYTE_BIT_SIZE", type := .int, accessFlags := 26, slot := 10, constantValue := 0 }, { name := "T_BOOLEAN", type := .int, accessFlags := 25, slot := 11, constantValue := 0 }, { name := "T_CHAR", type := .int, accessFlags := 25, slot := 12, constantValue := 0 }, { name := "T_FLOAT", type := .int, accessFlags := 25, slot := 13, constantValue := 0 }, { name := "T_DOUBLE", type := .int, accessFlags := 25, slot := 14, constantValue := 0 }, { name := "T_BYTE", type := .int, accessFlags := 25, slot := 15, constantValue := 0 }, { name := "T_SHORT", type := .int, accessFlags := 25, slot := 16, constantValue := 0 }, { name := "T_INT", type := .int, accessFlags := 25, slot := 17, constantValue := 0 }, { name := "T_LONG", type := .int, accessFlags := 25, slot := 18, constantValue := 0 }, { name := "JLA", type := (.object "jdk/internal/access/JavaLangAccess"), accessFlags := 26, slot := 19, constantValue := 0 }, { name := "SOFT_MAX_ARRAY_LENGTH", type := .int, accessFlags := 25, slot := 20, constantValue := 0 }]
  methods := #[k12m0]
  instanceTypes := #[]
  staticTypes := #[(.object "jdk/internal/misc/Unsafe"), .boolean, .int, .int, .int, .int, .int, .int, .int, .int, .int, .int, .int, .int, .int, .int, .int, .int, .int, (.object "jdk/internal/access/JavaLangAccess"), .int]
  resolved := Array.replicate 378 none
  statics := none }

def pool13 : Array CpInfo := pool [(1, u "java/lang/Cloneable"), (0, .class_ 1), (0, u "java/lang/Object"), (0, .class_ 3)] 3

/-- java/lang/Cloneable -/
def k13 : Class := { plain "java/lang/Cloneable" (some 0) with
  accessFlags := 1537
  interfaces := #[]
  cf := some (fileOf pool13 2 #[] #[] 1537 4 #[] #[])
  fields := #[]
  methods := #[]
  instanceTypes := #[]
  staticTypes := #[]
  resolved := Array.replicate 8 none
  statics := none }

/-- the primitive byte -/
def k14 : Class := { plain "byte" none with kind := .primitive 'B', accessFlags := 0x411 }
/-- [B -/
def k15 : Class := { plain "[B" (some 0) with kind := .array 14 .byte, interfaces := #[13, 2], accessFlags := 1041 }

/-- the primitive char -/
def k16 : Class := { plain "char" none with kind := .primitive 'C', accessFlags := 0x411 }
/-- [C -/
def k17 : Class := { plain "[C" (some 0) with kind := .array 16 .char, interfaces := #[13, 2], accessFlags := 1041 }

/-- the primitive int -/
def k18 : Class := { plain "int" none with kind := .primitive 'I', accessFlags := 0x411 }
/-- [I -/
def k19 : Class := { plain "[I" (some 0) with kind := .array 18 .int, interfaces := #[13, 2], accessFlags := 1041 }

def heap : Heap := #[{ cls := 7, slots := #[.long 0, .int 1, .null, .int 0, .null, .int 0, .int 0], vm := .statics 7 },
  { cls := 8, slots := #[.int 0, .int 8, .int 0, .int 1], vm := .statics 8 },
  { cls := 11, slots := #[.null, .null, .null], vm := .statics 11 }]
def classes : Array Class := #[k0, k1, k2, k3, k4, k5, k6, k7, k8, k9, k10, k11, k12, k13, k14, k15, k16, k17, k18, k19]
def interned : List (Array UInt16 × Addr) := []
def slotsUsed : Nat := 14
def theMethod : MethodId := ⟨1, 2⟩
def args0 : Array Value := #[.int 3, .int 5, .int 300, .int 7, .int 9, .int 2]
def aboutOver (below : List Frame) : State where
  vm := { classes := classes, interned := interned.toArray }
  heap := heap
  slotsUsed := slotsUsed
  threads := #[{ frames := .invoking theMethod args0 :: below }]
def below0 : List Frame := [.native { method := ⟨0, 0⟩, args := #[] }]
def about1 : State := aboutOver below0
def p0 : Program := .bare "" "" ""
def e0 : Env := launch0.env 0 0 0
theorem w_frames : about1.frames = Frame.invoking theMethod args0 :: below0 := rfl
set_option maxRecDepth 65536 in
theorem w_args : argsFit about1.vm theMethod args0 = true := by decide +kernel
set_option maxRecDepth 65536 in
theorem w_heap : heapFits about1 = true := by decide +kernel
set_option maxRecDepth 65536 in
theorem w_runnable : about1.curStatus? = some .runnable := by decide +kernel
set_option maxRecDepth 65536 in
theorem w_alone : about1.alone = true := by decide +kernel
set_option maxRecDepth 65536 in
theorem w_named : about1.methodNamed? x = some theMethod := by decide +kernel
set_option maxRecDepth 65536 in
theorem w_hears : about1.hears theMethod below0 = true := by decide +kernel
set_option maxRecDepth 65536 in
theorem w_ripe : about1.ripe theMethod args0 below0 = true := by decide +kernel
theorem w_running : about1.status = .running := rfl
set_option maxRecDepth 65536 in
theorem w_room : about1.hasRoom e0.platform room_1 = true :=
  launch0.hasRoom_least _ room_1 (by decide +kernel) (by decide +kernel) (by decide +kernel) (by decide +kernel) (by decide +kernel) (by decide +kernel)
theorem allAtoms_all (ts : List Jvm.Cond) (a : Array Jvm.Value) (st : Jvm.State) : (allAtoms ts).before a st = ts.all (fun c => c.before a st) := by
  induction ts with
  | nil => rfl
  | cons c t ih =>
    show (Jvm.Cond.and c (allAtoms t)).before a st = _
    rw [Jvm.Cond.before_and, ih, List.all_cons]
def words1 : List Jvm.Cond := Jvm.Cond.code x code maxLocals ret :: tables_1
/-- a 'code' word, met by the world's own term for the bytes: nothing is compared byte by byte -/
theorem code_word {y : MethodName} {bytes : ByteArray} {mx : Nat} {rt : Option FieldType} {a : Array Value} {s : State} {m : MethodId} {meth : Method} {c : Code} (h1 : s.methodNamed? y = some m) (h2 : s.vm.method? m = some meth) (h3 : meth.code = some c) (h4 : c.code = bytes)
    (h5 : (c.maxLocals == mx && c.exceptionTable.isEmpty && decide (c.maxStack ≤ mostOperands) && decide (meth.sig.returnType = rt) && !meth.locks && decide (parseMethodDescriptor y.desc = some meth.sig)) = true) : (Jvm.Cond.code y bytes mx rt).before a s = true := by
  simp only [Bool.and_eq_true, beq_iff_eq, Bool.not_eq_true', decide_eq_true_eq] at h5
  obtain ⟨⟨⟨⟨⟨g1, g2⟩, g3⟩, g4⟩, g5⟩, g6⟩ := h5
  simp [Cond.before, Cond.holds, Cond.value, h1, h2, h3, h4, g1, g2, g3, g4, g5, g6]
def isCode : Jvm.Cond → Bool
  | .code _ _ _ _ => true
  | _ => false
theorem all_split {L : List Jvm.Cond} {P : Jvm.Cond → Bool} (h1 : L.all (fun c => isCode c || P c) = true) (h2 : ∀ c ∈ L.filter isCode, P c = true) : L.all P = true := by
  refine List.all_eq_true.mpr fun c hc => ?_
  have h := List.all_eq_true.mp h1 c hc
  rcases Bool.eq_false_or_eq_true (isCode c) with hi | hi
  · exact h2 c (List.mem_filter.mpr ⟨hc, hi⟩)
  · simpa [hi] using h
set_option maxRecDepth 65536 in
theorem w_c0 : (Jvm.Cond.code x code maxLocals ret).before args0 about1 = true := code_word (m := ⟨1, 2⟩) (meth := k1m2) (c := k1c2) (by decide +kernel) rfl rfl rfl (by decide +kernel)
set_option maxRecDepth 65536 in
theorem w_c1 : (Jvm.Cond.code ({ cls := "com/example/fleetyard/fleetyard/io/ValuesIdPinLaw", name := "text", desc := "(IIIII)Ljava/lang/String;" } : Jvm.MethodName) method_2_code (10 : Nat) (Option.some (Jvm.ClassFile.FieldType.object "java/lang/String"))).before args0 about1 = true := code_word (m := ⟨1, 1⟩) (meth := k1m1) (c := k1c1) (by decide +kernel) rfl rfl rfl (by decide +kernel)
set_option maxRecDepth 65536 in
theorem w_c2 : (Jvm.Cond.code ({ cls := "java/lang/String", name := "<init>", desc := "([C)V" } : Jvm.MethodName) jdk_42_method_3_code (2 : Nat) (Option.none : Option Jvm.ClassFile.FieldType)).before args0 about1 = true := code_word (m := ⟨7, 1⟩) (meth := k7m1) (c := k7c1) (by decide +kernel) rfl rfl rfl (by decide +kernel)
set_option maxRecDepth 65536 in
theorem w_c3 : (Jvm.Cond.code ({ cls := "java/lang/String", name := "<init>", desc := "([CIILjava/lang/Void;)V" } : Jvm.MethodName) jdk_42_method_149_code (6 : Nat) (Option.none : Option Jvm.ClassFile.FieldType)).before args0 about1 = true := code_word (m := ⟨7, 5⟩) (meth := k7m5) (c := k7c5) (by decide +kernel) rfl rfl rfl (by decide +kernel)
set_option maxRecDepth 65536 in
theorem w_c4 : (Jvm.Cond.code ({ cls := "java/lang/Object", name := "<init>", desc := "()V" } : Jvm.MethodName) object_method_1_code (1 : Nat) (Option.none : Option Jvm.ClassFile.FieldType)).before args0 about1 = true := code_word (m := ⟨0, 0⟩) (meth := k0m0) (c := k0c0) (by decide +kernel) rfl rfl rfl (by decide +kernel)
set_option maxRecDepth 65536 in
theorem w_c5 : (Jvm.Cond.code ({ cls := "java/lang/StringUTF16", name := "compress", desc := "([CII)[B" } : Jvm.MethodName) jdk_52_method_16_code (6 : Nat) (Option.some (Jvm.ClassFile.FieldType.array Jvm.ClassFile.FieldType.byte))).before args0 about1 = true := code_word (m := ⟨8, 7⟩) (meth := k8m7) (c := k8c7) (by decide +kernel) rfl rfl rfl (by decide +kernel)
set_option maxRecDepth 65536 in
theorem w_c6 : (Jvm.Cond.code ({ cls := "java/lang/StringUTF16", name := "compress", desc := "([CI[BII)I" } : Jvm.MethodName) jdk_52_method_21_code (7 : Nat) (Option.some Jvm.ClassFile.FieldType.int)).before args0 about1 = true := code_word (m := ⟨8, 8⟩) (meth := k8m8) (c := k8c8) (by decide +kernel) rfl rfl rfl (by decide +kernel)
set_option maxRecDepth 65536 in
theorem w_c7 : (Jvm.Cond.code ({ cls := "java/lang/StringUTF16", name := "coderFromArrayLen", desc := "([BI)B" } : Jvm.MethodName) jdk_52_method_15_code (2 : Nat) (Option.some Jvm.ClassFile.FieldType.byte)).before args0 about1 = true := code_word (m := ⟨8, 6⟩) (meth := k8m6) (c := k8c6) (by decide +kernel) rfl rfl rfl (by decide +kernel)
set_option maxRecDepth 65536 in
theorem w_c8 : (Jvm.Cond.code ({ cls := "java/lang/String", name := "valueOf", desc := "(C)Ljava/lang/String;" } : Jvm.MethodName) jdk_42_method_139_code (1 : Nat) (Option.some (Jvm.ClassFile.FieldType.object "java/lang/String"))).before args0 about1 = true := code_word (m := ⟨7, 4⟩) (meth := k7m4) (c := k7c4) (by decide +kernel) rfl rfl rfl (by decide +kernel)
set_option maxRecDepth 65536 in
theorem w_c9 : (Jvm.Cond.code ({ cls := "java/lang/StringLatin1", name := "canEncode", desc := "(C)Z" } : Jvm.MethodName) jdk_43_method_3_code (1 : Nat) (Option.some Jvm.ClassFile.FieldType.boolean)).before args0 about1 = true := code_word (m := ⟨9, 1⟩) (meth := k9m1) (c := k9c1) (by decide +kernel) rfl rfl rfl (by decide +kernel)
set_option maxRecDepth 65536 in
theorem w_c10 : (Jvm.Cond.code ({ cls := "java/lang/StringLatin1", name := "toBytes", desc := "(C)[B" } : Jvm.MethodName) jdk_43_method_46_code (1 : Nat) (Option.some (Jvm.ClassFile.FieldType.array Jvm.ClassFile.FieldType.byte))).before args0 about1 = true := code_word (m := ⟨9, 2⟩) (meth := k9m2) (c := k9c2) (by decide +kernel) rfl rfl rfl (by decide +kernel)
set_option maxRecDepth 65536 in
theorem w_c11 : (Jvm.Cond.code ({ cls := "java/lang/String", name := "<init>", desc := "([BB)V" } : Jvm.MethodName) jdk_42_method_151_code (3 : Nat) (Option.none : Option Jvm.ClassFile.FieldType)).before args0 about1 = true := code_word (m := ⟨7, 6⟩) (meth := k7m6) (c := k7c6) (by decide +kernel) rfl rfl rfl (by decide +kernel)
set_option maxRecDepth 65536 in
theorem w_c12 : (Jvm.Cond.code ({ cls := "com/example/fleetyard/fleetyard/io/Values", name := "id", desc := "(Ljava/lang/String;Ljava/lang/String;)Ljava/lang/String;" } : Jvm.MethodName) prog_27_method_2_code (2 : Nat) (Option.some (Jvm.ClassFile.FieldType.object "java/lang/String"))).before args0 about1 = true := code_word (m := ⟨10, 1⟩) (meth := k10m1) (c := k10c1) (by decide +kernel) rfl rfl rfl (by decide +kernel)
set_option maxRecDepth 65536 in
theorem w_c13 : (Jvm.Cond.code ({ cls := "java/lang/String", name := "isEmpty", desc := "()Z" } : Jvm.MethodName) jdk_42_method_55_code (1 : Nat) (Option.some Jvm.ClassFile.FieldType.boolean)).before args0 about1 = true := code_word (m := ⟨7, 3⟩) (meth := k7m3) (c := k7c3) (by decide +kernel) rfl rfl rfl (by decide +kernel)
set_option maxRecDepth 65536 in
theorem w_c14 : (Jvm.Cond.code ({ cls := "java/lang/String", name := "length", desc := "()I" } : Jvm.MethodName) jdk_42_method_54_code (1 : Nat) (Option.some Jvm.ClassFile.FieldType.int)).before args0 about1 = true := code_word (m := ⟨7, 2⟩) (meth := k7m2) (c := k7c2) (by decide +kernel) rfl rfl rfl (by decide +kernel)
set_option maxRecDepth 65536 in
theorem w_c15 : (Jvm.Cond.code ({ cls := "java/lang/String", name := "coder", desc := "()B" } : Jvm.MethodName) jdk_42_method_152_code (1 : Nat) (Option.some Jvm.ClassFile.FieldType.byte)).before args0 about1 = true := code_word (m := ⟨7, 7⟩) (meth := k7m7) (c := k7c7) (by decide +kernel) rfl rfl rfl (by decide +kernel)
set_option maxRecDepth 65536 in
theorem w_c16 : (Jvm.Cond.code ({ cls := "java/lang/StringUTF16", name := "toBytes", desc := "([CII)[B" } : Jvm.MethodName) jdk_52_method_14_code (5 : Nat) (Option.some (Jvm.ClassFile.FieldType.array Jvm.ClassFile.FieldType.byte))).before args0 about1 = true := code_word (m := ⟨8, 5⟩) (meth := k8m5) (c := k8c5) (by decide +kernel) rfl rfl rfl (by decide +kernel)
set_option maxRecDepth 65536 in
theorem w_c17 : (Jvm.Cond.code ({ cls := "java/lang/StringUTF16", name := "newBytesFor", desc := "(I)[B" } : Jvm.MethodName) jdk_52_method_2_code (1 : Nat) (Option.some (Jvm.ClassFile.FieldType.array Jvm.ClassFile.FieldType.byte))).before args0 about1 = true := code_word (m := ⟨8, 1⟩) (meth := k8m1) (c := k8c1) (by decide +kernel) rfl rfl rfl (by decide +kernel)
set_option maxRecDepth 65536 in
theorem w_c18 : (Jvm.Cond.code ({ cls := "java/lang/StringUTF16", name := "newBytesLength", desc := "(I)I" } : Jvm.MethodName) jdk_52_method_3_code (1 : Nat) (Option.some Jvm.ClassFile.FieldType.int)).before args0 about1 = true := code_word (m := ⟨8, 2⟩) (meth := k8m2) (c := k8c2) (by decide +kernel) rfl rfl rfl (by decide +kernel)
set_option maxRecDepth 65536 in
theorem w_c19 : (Jvm.Cond.code ({ cls := "java/lang/StringUTF16", name := "putChar", desc := "([BII)V" } : Jvm.MethodName) jdk_52_method_4_code (3 : Nat) (Option.none : Option Jvm.ClassFile.FieldType)).before args0 about1 = true := code_word (m := ⟨8, 3⟩) (meth := k8m3) (c := k8c3) (by decide +kernel) rfl rfl rfl (by decide +kernel)
set_option maxRecDepth 65536 in
theorem w_c20 : (Jvm.Cond.code ({ cls := "java/lang/StringUTF16", name := "getChar", desc := "([BI)C" } : Jvm.MethodName) jdk_52_method_5_code (2 : Nat) (Option.some Jvm.ClassFile.FieldType.char)).before args0 about1 = true := code_word (m := ⟨8, 4⟩) (meth := k8m4) (c := k8c4) (by decide +kernel) rfl rfl rfl (by decide +kernel)
set_option maxRecDepth 65536 in
theorem w_c21 : (Jvm.Cond.code ({ cls := "java/lang/StringUTF16", name := "toBytes", desc := "(C)[B" } : Jvm.MethodName) jdk_52_method_24_code (2 : Nat) (Option.some (Jvm.ClassFile.FieldType.array Jvm.ClassFile.FieldType.byte))).before args0 about1 = true := code_word (m := ⟨8, 9⟩) (meth := k8m9) (c := k8c9) (by decide +kernel) rfl rfl rfl (by decide +kernel)
def codes1 : List Jvm.Cond := [Jvm.Cond.code x code maxLocals ret, Jvm.Cond.code ({ cls := "com/example/fleetyard/fleetyard/io/ValuesIdPinLaw", name := "text", desc := "(IIIII)Ljava/lang/String;" } : Jvm.MethodName) method_2_code (10 : Nat) (Option.some (Jvm.ClassFile.FieldType.object "java/lang/String")), Jvm.Cond.code ({ cls := "java/lang/String", name := "<init>", desc := "([C)V" } : Jvm.MethodName) jdk_42_method_3_code (2 : Nat) (Option.none : Option Jvm.ClassFile.FieldType), Jvm.Cond.code ({ cls := "java/lang/String", name := "<init>", desc := "([CIILjava/lang/Void;)V" } : Jvm.MethodName) jdk_42_method_149_code (6 : Nat) (Option.none : Option Jvm.ClassFile.FieldType), Jvm.Cond.code ({ cls := "java/lang/Object", name := "<init>", desc := "()V" } : Jvm.MethodName) object_method_1_code (1 : Nat) (Option.none : Option Jvm.ClassFile.FieldType), Jvm.Cond.code ({ cls := "java/lang/StringUTF16", name := "compress", desc := "([CII)[B" } : Jvm.MethodName) jdk_52_method_16_code (6 : Nat) (Option.some (Jvm.ClassFile.FieldType.array Jvm.ClassFile.FieldType.byte)), Jvm.Cond.code ({ cls := "java/lang/StringUTF16", name := "compress", desc := "([CI[BII)I" } : Jvm.MethodName) jdk_52_method_21_code (7 : Nat) (Option.some Jvm.ClassFile.FieldType.int), Jvm.Cond.code ({ cls := "java/lang/StringUTF16", name := "coderFromArrayLen", desc := "([BI)B" } : Jvm.MethodName) jdk_52_method_15_code (2 : Nat) (Option.some Jvm.ClassFile.FieldType.byte), Jvm.Cond.code ({ cls := "java/lang/String", name := "valueOf", desc := "(C)Ljava/lang/String;" } : Jvm.MethodName) jdk_42_method_139_code (1 : Nat) (Option.some (Jvm.ClassFile.FieldType.object "java/lang/String")), Jvm.Cond.code ({ cls := "java/lang/StringLatin1", name := "canEncode", desc := "(C)Z" } : Jvm.MethodName) jdk_43_method_3_code (1 : Nat) (Option.some Jvm.ClassFile.FieldType.boolean), Jvm.Cond.code ({ cls := "java/lang/StringLatin1", name := "toBytes", desc := "(C)[B" } : Jvm.MethodName) jdk_43_method_46_code (1 : Nat) (Option.some (Jvm.ClassFile.FieldType.array Jvm.ClassFile.FieldType.byte)), Jvm.Cond.code ({ cls := "java/lang/String", name := "<init>", desc := "([BB)V" } : Jvm.MethodName) jdk_42_method_151_code (3 : Nat) (Option.none : Option Jvm.ClassFile.FieldType), Jvm.Cond.code ({ cls := "com/example/fleetyard/fleetyard/io/Values", name := "id", desc := "(Ljava/lang/String;Ljava/lang/String;)Ljava/lang/String;" } : Jvm.MethodName) prog_27_method_2_code (2 : Nat) (Option.some (Jvm.ClassFile.FieldType.object "java/lang/String")), Jvm.Cond.code ({ cls := "java/lang/String", name := "isEmpty", desc := "()Z" } : Jvm.MethodName) jdk_42_method_55_code (1 : Nat) (Option.some Jvm.ClassFile.FieldType.boolean), Jvm.Cond.code ({ cls := "java/lang/String", name := "length", desc := "()I" } : Jvm.MethodName) jdk_42_method_54_code (1 : Nat) (Option.some Jvm.ClassFile.FieldType.int), Jvm.Cond.code ({ cls := "java/lang/String", name := "coder", desc := "()B" } : Jvm.MethodName) jdk_42_method_152_code (1 : Nat) (Option.some Jvm.ClassFile.FieldType.byte), Jvm.Cond.code ({ cls := "java/lang/StringUTF16", name := "toBytes", desc := "([CII)[B" } : Jvm.MethodName) jdk_52_method_14_code (5 : Nat) (Option.some (Jvm.ClassFile.FieldType.array Jvm.ClassFile.FieldType.byte)), Jvm.Cond.code ({ cls := "java/lang/StringUTF16", name := "newBytesFor", desc := "(I)[B" } : Jvm.MethodName) jdk_52_method_2_code (1 : Nat) (Option.some (Jvm.ClassFile.FieldType.array Jvm.ClassFile.FieldType.byte)), Jvm.Cond.code ({ cls := "java/lang/StringUTF16", name := "newBytesLength", desc := "(I)I" } : Jvm.MethodName) jdk_52_method_3_code (1 : Nat) (Option.some Jvm.ClassFile.FieldType.int), Jvm.Cond.code ({ cls := "java/lang/StringUTF16", name := "putChar", desc := "([BII)V" } : Jvm.MethodName) jdk_52_method_4_code (3 : Nat) (Option.none : Option Jvm.ClassFile.FieldType), Jvm.Cond.code ({ cls := "java/lang/StringUTF16", name := "getChar", desc := "([BI)C" } : Jvm.MethodName) jdk_52_method_5_code (2 : Nat) (Option.some Jvm.ClassFile.FieldType.char), Jvm.Cond.code ({ cls := "java/lang/StringUTF16", name := "toBytes", desc := "(C)[B" } : Jvm.MethodName) jdk_52_method_24_code (2 : Nat) (Option.some (Jvm.ClassFile.FieldType.array Jvm.ClassFile.FieldType.byte))]
set_option maxRecDepth 65536 in
theorem codes_eq : words1.filter isCode = codes1 := rfl
theorem w_codes : ∀ c ∈ words1.filter isCode, c.before args0 about1 = true := by
  rw [codes_eq]
  intro c hc
  simp only [codes1, List.mem_cons, List.not_mem_nil, or_false] at hc
  rcases hc with rfl | rfl | rfl | rfl | rfl | rfl | rfl | rfl | rfl | rfl | rfl | rfl | rfl | rfl | rfl | rfl | rfl | rfl | rfl | rfl | rfl | rfl
  · exact w_c0
  · exact w_c1
  · exact w_c2
  · exact w_c3
  · exact w_c4
  · exact w_c5
  · exact w_c6
  · exact w_c7
  · exact w_c8
  · exact w_c9
  · exact w_c10
  · exact w_c11
  · exact w_c12
  · exact w_c13
  · exact w_c14
  · exact w_c15
  · exact w_c16
  · exact w_c17
  · exact w_c18
  · exact w_c19
  · exact w_c20
  · exact w_c21
set_option maxRecDepth 65536 in
theorem w_t1 : (words1.take 24).all (fun c => isCode c || c.before args0 about1) = true := by decide +kernel
set_option maxRecDepth 65536 in
theorem w_t2 : ((words1.drop 24).take 24).all (fun c => isCode c || c.before args0 about1) = true := by decide +kernel
set_option maxRecDepth 65536 in
theorem w_t3 : (((words1.drop 24).drop 24).take 24).all (fun c => isCode c || c.before args0 about1) = true := by decide +kernel
set_option maxRecDepth 65536 in
theorem w_t4 : (((words1.drop 24).drop 24).drop 24).all (fun c => isCode c || c.before args0 about1) = true := by decide +kernel
theorem w_tables : (allAtoms (Jvm.Cond.code x code maxLocals ret :: tables_1)).before args0 about1 = true := by
  rw [allAtoms_all]
  show words1.all (fun c => c.before args0 about1) = true
  refine all_split ?_ w_codes
  rw [← List.take_append_drop 24 words1, List.all_append, w_t1, ← List.take_append_drop 24 (words1.drop 24), List.all_append, w_t2, ← List.take_append_drop 24 ((words1.drop 24).drop 24), List.all_append, w_t3, w_t4]
  rfl
set_option maxRecDepth 65536 in
theorem w_rest : rest_1_c.before args0 about1 = true := by decide +kernel
set_option maxRecDepth 65536 in
theorem w_case : (Jvm.Cond.and given_1 narrow_1).before args0 about1 = true := by decide +kernel
theorem w_applies : (headSpec (Jvm.Cond.code x code maxLocals ret :: tables_1) room_1).applies x e0.platform about1 = true :=
  (Spec.applies_iff w_frames).mpr ⟨w_running, w_runnable, w_alone, w_named, w_hears, w_ripe, w_room, w_tables⟩
theorem atStart : AtStart classFile x code maxLocals ret World_1 tables_1 room_1 Calls_1 rest_1 Pre_1 launch0 p0 e0 about1 theMethod args0 below0 :=
  ⟨lists_1, trivial, launch0.admits_env _ _ _, launch0.least_env, fairChoices_fair.cas, fairChoices_fair.clock, w_frames, w_args, w_heap, w_applies, trivial, w_rest, w_case⟩
end start1
theorem witness_1 : WitnessClaimed_1 := ⟨start1.p0, start1.e0, start1.about1, start1.theMethod, start1.args0, start1.below0, start1.atStart⟩
end Jvm.Pilot.@@N@@
