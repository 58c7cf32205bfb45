import JvmDerived
import JvmDerived.Pilot.@@N@@Statement
import JvmDerived.Pilot.@@N@@Code
set_option linter.unusedVariables false
set_option linter.unusedSimpArgs false
@@BLOCK:HandJ.lean.txt@@
@@BLOCK:SymMore.lean.txt@@
namespace Jvm.Pilot.@@N@@
open Jvm Jvm.ClassFile Sem Op Lib Jvm.Free Jvm.Stand Jvm.LawKit Jvm.RoadKit Bundle Jvm.Free.XT Jvm.Pilot.@@N@@.Jvm.D
theorem own_n0 {Z : State} {n0 : Nat} {h : Heap} (X : Old Z n0 h) : n0 ≤ h.size := X.1 ▸ X.2.1
theorem own_lt {a m n : Nat} (h : a < m) (k : m ≤ n) : a < n := Nat.lt_of_lt_of_le h k
theorem own_since0 (s : State) (n : Nat) : s.Since s.vm n := ⟨State.Warmed39.refl s, fun j p hj hp => absurd (Array.getElem?_eq_some_iff.mp hp).1 (Nat.not_lt.mpr hj)⟩
theorem own_narR {v : Value} {t : FieldType} (h : v.isRef = true) : narrow t v = v := by rcases ref_cases h with rfl | ⟨a, rfl⟩ <;> cases t <;> rfl
theorem own_fitR {v : Value} {t : FieldType} (h : v.isRef = true) (ht : t.isReference = true := by rfl) : fits t v = true := by rcases ref_cases h with rfl | ⟨a, rfl⟩ <;> cases t <;> first | rfl | cases ht
theorem own_priv {s : State} {args : Array Value} {y : MethodName} (h : (Jvm.Cond.privateMethod y).before args s = true) : s.PrivateAt y := Cond.privateMethod_at h
abbrev own_CP (l : Launch) (Z : State) (y : MethodName) (bytes : ByteArray) (ml : Nat) (ret : Option FieldType) (ws : List Jvm.Cond) (R : Room) (as' : Array Value) (h0 : Heap) (Q : Option Value → Heap → List Loc → Prop) : Prop :=
  MetFree l y (head1 (Jvm.Cond.code y bytes ml ret :: ws) R) (fun a U => a = as' ∧ Z.Warmed39 U.vm ∧ U.heap = h0) (fun _ _ _ _ _ => True) (fun _ U o U' => ∃ v L, o = .returned v ∧ Q v U'.heap L ∧ FrameEnd U o U' L R.cells R.slots)
theorem own_P {l : Launch} {Z : State} {y : MethodName} {bytes : ByteArray} {ml : Nat} {ret : Option FieldType} {ws : List Jvm.Cond} {R : Room} {as' : Array Value} {h0 : Heap} {Q : Option Value → Heap → List Loc → Prop} (hpl : plainFor y = true)
    (H : ∀ (p : Program) (e : Env) (s : State) (m : MethodId) (below : List Frame) (meth : Method) (c : ClassFile.Code) (s₁ S0 : State), BodyLoose p l y (head1 (Jvm.Cond.code y bytes ml ret :: ws) R) bytes ml ret e s m as' below meth c s₁ → Z.Warmed39 s.vm → s.heap = h0 → p.tables.exec = Jvm.exec → c.code = bytes → c.maxLocals = ml → s.vm.findClass y.cls = some m.cls → meth.name = y.name →
      Stand p l e R s m as' below meth c s₁ [] 0 0 → s₁.heap = h0 → S0 = s₁.setTop (entryFrame m as' ml) → ∃ s₂ o, Steps p.tables e below S0 s₂ ∧ s₂.status = .running ∧ Ended s₂ below o ∧ ∃ v L, o = .returned v ∧ Q v s₂.heap L ∧ FrameEnd s o s₂ L R.cells R.slots) : own_CP l Z y bytes ml ret ws R as' h0 Q := by
  refine MetFree.of_bodySF hpl hisR ?_
  intro p e s m args below meth c s₁ Bd hml hP hK
  obtain ⟨rfl, hZ, hh⟩ := hP
  exact H p e s m below meth c s₁ _ Bd hZ hh Bd.exec Bd.bytes hml (findClass_of_methodNamed Bd.named) (name_of_methodNamed Bd.named Bd.method).1 (Stand.of_body Bd) (by rw [← hh, Bd.state]; rfl) rfl
def own_cb (x : Int32) : Int32 := (x &&& (255 : Int32)).toUInt32.toUInt16.toUInt32.toInt32
theorem own_cb_eq (x : Int32) : own_cb x = x &&& 255 := i2c_mask x
theorem own_cb_nar {x : Int32} : nar .char (own_cb x) = own_cb x := by
  rw [own_cb_eq]; exact i2c_mask x
theorem own_cb_hi (x : Int32) : ¬ ((255 : Int32) < own_cb x) := by
  rw [own_cb_eq, Int32.lt_iff_toInt_lt]
  have h := (c_and x 255 (by decide)).2
  omega
theorem own_cb_lo (x : Int32) : ¬ (own_cb x < (0 : Int32)) := by
  rw [own_cb_eq, Int32.lt_iff_toInt_lt]
  have h := (c_and x 255 (by decide)).1
  have e : (0 : Int32).toInt = 0 := rfl
  omega
def own_lo8 (x : Int32) : Int32 := nar .byte (x.toInt8.toInt32)
def own_u8 (x : Int32) : Int32 := (x.toUInt32 >>> ((8 : Int32) &&& 31).toUInt32).toInt32
def own_u16 (x : Int32) : Int32 := (x.toUInt32 >>> ((16 : Int32) &&& 31).toUInt32).toInt32
def own_u24 (x : Int32) : Int32 := (x.toUInt32 >>> ((24 : Int32) &&& 31).toUInt32).toInt32
theorem own_iincW {tb : Tables} [Ours tb] {e : Env} {below : List Frame} {T target : State} {m : MethodId} {c : Code} {g : JFrame} (h : At T m c below) (hx : tb.exec = Jvm.exec) (hg : g.method = m) {k : Nat} {cst : Int} {x : Int32} {l' : Array Slot} (hd : decode c.code g.pc = .ok (.iinc k cst, 6)) (hl : g.locals[k]? = some (.val (.int x))) (hl' : storeLocals g.locals k (.int (x + Int32.ofInt cst)) = some l')
    (hr : Steps tb e below (T.setTop { g with pc := g.pc + 6, locals := l' }) target) : Steps tb e below (T.setTop g) target := by
  subst hg
  jvm_step h [h.top, hx, hd, hl, hl']
  exact hr
theorem own_mod5 (x : Int32) : (x &&& (2147483647 : Int32)) % (5 : Int32) = 0 ∨ (x &&& (2147483647 : Int32)) % (5 : Int32) = 1 ∨ (x &&& (2147483647 : Int32)) % (5 : Int32) = 2 ∨ (x &&& (2147483647 : Int32)) % (5 : Int32) = 3 ∨ (x &&& (2147483647 : Int32)) % (5 : Int32) = 4 := by
  have h := (c_and x 2147483647 (by decide)).1
  have h2 := (c_irem (x &&& 2147483647) 5 5 rfl).1 h
  have h3 : ((x &&& (2147483647 : Int32)) % (5 : Int32)).toInt = 0 ∨ ((x &&& (2147483647 : Int32)) % (5 : Int32)).toInt = 1 ∨ ((x &&& (2147483647 : Int32)) % (5 : Int32)).toInt = 2 ∨ ((x &&& (2147483647 : Int32)) % (5 : Int32)).toInt = 3 ∨ ((x &&& (2147483647 : Int32)) % (5 : Int32)).toInt = 4 := by omega
  rcases h3 with h | h | h | h | h
  · exact Or.inl (Int32.toInt_inj.mp h)
  · exact Or.inr (Or.inl (Int32.toInt_inj.mp h))
  · exact Or.inr (Or.inr (Or.inl (Int32.toInt_inj.mp h)))
  · exact Or.inr (Or.inr (Or.inr (Or.inl (Int32.toInt_inj.mp h))))
  · exact Or.inr (Or.inr (Or.inr (Or.inr (Int32.toInt_inj.mp h))))
theorem own_pos {x : Int64} (h : ¬ ((x ^^^ (1000 : Int64)) < (0 : Int64))) : 0 ≤ x.toInt := by
  rw [Int64.lt_iff_toInt_lt] at h
  have q := c_xorSL x 1000
  have z : (0 : Int64).toInt = 0 := rfl
  have t : (1000 : Int64).toInt = 1000 := rfl
  rcases Int.lt_or_le x.toInt 0 with g | g
  · exact absurd (q.2.1 g (by omega)) (by omega)
  · exact g
theorem own_neg {x : Int64} (h : (x ^^^ (1000 : Int64)) < (0 : Int64)) : x.toInt < 0 := by
  rw [Int64.lt_iff_toInt_lt] at h
  have q := c_xorSL x 1000
  have z : (0 : Int64).toInt = 0 := rfl
  have t : (1000 : Int64).toInt = 1000 := rfl
  rcases Int.lt_or_le x.toInt 0 with g | g
  · exact g
  · exact absurd (q.2.2.2 g (by omega)) (by omega)
theorem own_fd0 {x : Int64} (h : ¬ ((x ^^^ (1000 : Int64)) < (0 : Int64))) : (x / (1000 : Int64)).toInt = x.toInt / 1000 := (c_ldiv x 1000 1000 rfl (by decide)).1 (own_pos h)
theorem own_fdm (x : Int64) (g : x.toInt < 0) : ((x / (1000 : Int64)) * (1000 : Int64)).toInt = -((-x.toInt) / 1000) * 1000 := by
  have q := (c_ldiv x 1000 1000 rfl (by decide)).2 g
  have m := c_lmul (x / 1000) 1000
  have r := rng64 ((x / (1000 : Int64)) * (1000 : Int64))
  have r' := rng64 x
  have t : (1000 : Int64).toInt = 1000 := rfl
  rw [t] at m
  omega
theorem own_fd1 {x : Int64} (h : (x ^^^ (1000 : Int64)) < (0 : Int64)) (h2 : ((x / (1000 : Int64)) * (1000 : Int64)) = x) : (x / (1000 : Int64)).toInt = x.toInt / 1000 := by
  have g := own_neg h
  have q := (c_ldiv x 1000 1000 rfl (by decide)).2 g
  have e := own_fdm x g
  rw [h2] at e
  omega
theorem own_fd2 {x : Int64} (h : (x ^^^ (1000 : Int64)) < (0 : Int64)) (h2 : ¬ (((x / (1000 : Int64)) * (1000 : Int64)) = x)) : ((x / (1000 : Int64)) - (1 : Int64)).toInt = x.toInt / 1000 := by
  have g := own_neg h
  have q := (c_ldiv x 1000 1000 rfl (by decide)).2 g
  have e := own_fdm x g
  have n : ¬ (-((-x.toInt) / 1000) * 1000 = x.toInt) := fun w => h2 (Int64.toInt_inj.mp (e.trans w))
  have s := c_lsub (x / 1000) 1
  have o : (1 : Int64).toInt = 1 := rfl
  have r := rng64 ((x / (1000 : Int64)) - (1 : Int64))
  have r' := rng64 x
  rw [o] at s
  omega
theorem own_fm0 {x : Int64} (h : ¬ ((x ^^^ (1000 : Int64)) < (0 : Int64))) : (x - (x / (1000 : Int64)) * (1000 : Int64)).toInt = x.toInt % 1000 := (c_lrem x 1000 1000 rfl).1 (own_pos h)
theorem own_fm1 {x : Int64} (h : (x ^^^ (1000 : Int64)) < (0 : Int64)) (h2 : (x - (x / (1000 : Int64)) * (1000 : Int64)) = (0 : Int64)) : (x - (x / (1000 : Int64)) * (1000 : Int64)).toInt = x.toInt % 1000 := by
  have q := (c_lrem x 1000 1000 rfl).2 (own_neg h)
  have z : (0 : Int64).toInt = 0 := rfl
  have e := congrArg Int64.toInt h2
  omega
theorem own_fm2 {x : Int64} (h : (x ^^^ (1000 : Int64)) < (0 : Int64)) (h2 : ¬ ((x - (x / (1000 : Int64)) * (1000 : Int64)) = (0 : Int64))) : ((x - (x / (1000 : Int64)) * (1000 : Int64)) + (1000 : Int64)).toInt = x.toInt % 1000 := by
  have q := (c_lrem x 1000 1000 rfl).2 (own_neg h)
  have z : (0 : Int64).toInt = 0 := rfl
  have n : ¬ ((x - (x / (1000 : Int64)) * (1000 : Int64)).toInt = 0) := fun w => h2 (Int64.toInt_inj.mp (w.trans z.symm))
  have a := c_ladd (x - (x / (1000 : Int64)) * (1000 : Int64)) 1000
  have t : (1000 : Int64).toInt = 1000 := rfl
  have r := rng64 ((x - (x / (1000 : Int64)) * (1000 : Int64)) + (1000 : Int64))
  rw [t] at a
  omega
theorem own_l2i {r x : Int64} (h : r.toInt = x.toInt % 1000) : r.toInt32.toInt = x.toInt % 1000 := by
  have c := c_l2i r
  have q := rng32 r.toInt32
  omega
theorem own_md {a : Int64} (h : -9223372036854775 ≤ a.toInt ∧ a.toInt ≤ 9223372036854775) : ((a * (1000 : Int64)) / (1000 : Int64)) = a :=
  mulDiv64 (by have t : (1000 : Int64).toInt = 1000 := rfl; rw [t]; unfold fits64; omega) (by decide)
theorem own_mm {a : Int64} (h : -9223372036854775 ≤ a.toInt ∧ a.toInt ≤ 9223372036854775) : ¬ (a = (-9223372036854775808 : Int64)) := by
  rintro rfl
  exact absurd h.1 (by decide)
theorem own_mv {a : Int64} (h : -9223372036854775 ≤ a.toInt ∧ a.toInt ≤ 9223372036854775) : (a * (1000 : Int64)).toInt = a.toInt * 1000 := by
  have m := c_lmul a 1000
  have t : (1000 : Int64).toInt = 1000 := rfl
  have r := rng64 (a * (1000 : Int64))
  rw [t] at m
  omega
theorem own_av {a b : Int64} (h : fits64 (a.toInt + b.toInt)) : (a + b).toInt = a.toInt + b.toInt := by
  unfold fits64 at h
  have m := c_ladd a b
  have r := rng64 (a + b)
  omega
theorem own_l0 {s : Int64} (h : s < (0 : Int64)) : s.toInt < 0 := by
  rw [Int64.lt_iff_toInt_lt] at h
  exact h
theorem own_ge0 {s : Int64} (h : ¬ (s < (0 : Int64))) : 0 ≤ s.toInt := by
  rw [Int64.lt_iff_toInt_lt] at h
  exact Int.not_lt.mp h
theorem own_s1 {s : Int64} (h : s < (0 : Int64)) : (s + (1 : Int64)).toInt = s.toInt + 1 := by
  have g := own_l0 h
  have m := c_ladd s 1
  have o : (1 : Int64).toInt = 1 := rfl
  have r := rng64 (s + (1 : Int64))
  have r' := rng64 s
  rw [o] at m
  omega
theorem own_m1 {s : Int64} {n : Int32} (h : s < (0 : Int64)) (hA : 0 ≤ n.toInt ∧ n.toInt < 1000000000 ∧ n.toInt % 1000000 = 0) (hB : -9223372036854775808 ≤ s.toInt * 1000 + n.toInt / 1000000 ∧ s.toInt * 1000 + n.toInt / 1000000 < 9223372036854775808) : -9223372036854775 ≤ (s + (1 : Int64)).toInt ∧ (s + (1 : Int64)).toInt ≤ 9223372036854775 := by
  have g := own_l0 h
  rw [own_s1 h]
  omega
theorem own_m2 {s : Int64} {n : Int32} (h : s < (0 : Int64)) (h2 : ¬ ((0 : Int32) < n)) (hA : 0 ≤ n.toInt ∧ n.toInt < 1000000000 ∧ n.toInt % 1000000 = 0) (hB : -9223372036854775808 ≤ s.toInt * 1000 + n.toInt / 1000000 ∧ s.toInt * 1000 + n.toInt / 1000000 < 9223372036854775808) : -9223372036854775 ≤ s.toInt ∧ s.toInt ≤ 9223372036854775 := by
  have g := own_l0 h
  rw [Int32.lt_iff_toInt_lt] at h2
  have z : (0 : Int32).toInt = 0 := rfl
  omega
theorem own_m3 {s : Int64} {n : Int32} (h : ¬ (s < (0 : Int64))) (hA : 0 ≤ n.toInt ∧ n.toInt < 1000000000 ∧ n.toInt % 1000000 = 0) (hB : -9223372036854775808 ≤ s.toInt * 1000 + n.toInt / 1000000 ∧ s.toInt * 1000 + n.toInt / 1000000 < 9223372036854775808) : -9223372036854775 ≤ s.toInt ∧ s.toInt ≤ 9223372036854775 := by
  have g := own_ge0 h
  omega
theorem own_vA {n : Int32} (hA : 0 ≤ n.toInt ∧ n.toInt < 1000000000 ∧ n.toInt % 1000000 = 0) : (((n / (1000000 : Int32)) - (1000 : Int32)).toInt64).toInt = n.toInt / 1000000 - 1000 := by
  rw [c_i2l]
  have q := (c_idiv n 1000000 1000000 rfl (by decide)).1 hA.1
  have s := c_isub (n / 1000000) 1000
  have t : (1000 : Int32).toInt = 1000 := rfl
  have r := rng32 ((n / (1000000 : Int32)) - (1000 : Int32))
  rw [t] at s
  omega
theorem own_vB {n : Int32} (hA : 0 ≤ n.toInt ∧ n.toInt < 1000000000 ∧ n.toInt % 1000000 = 0) : ((n / (1000000 : Int32)).toInt64).toInt = n.toInt / 1000000 := by
  rw [c_i2l]
  exact (c_idiv n 1000000 1000000 rfl (by decide)).1 hA.1
theorem own_vC {n : Int32} (hA : 0 ≤ n.toInt ∧ n.toInt < 1000000000 ∧ n.toInt % 1000000 = 0) : (((n.toInt64) - (1000000000 : Int64)) / (1000000 : Int64)).toInt = n.toInt / 1000000 - 1000 := by
  have s := c_lsub n.toInt64 1000000000
  have t : (1000000000 : Int64).toInt = 1000000000 := rfl
  have r := rng64 ((n.toInt64) - (1000000000 : Int64))
  rw [t, c_i2l] at s
  have e : ((n.toInt64) - (1000000000 : Int64)).toInt = n.toInt - 1000000000 := by omega
  have q := (c_ldiv ((n.toInt64) - (1000000000 : Int64)) 1000000 1000000 rfl (by decide)).2 (by omega)
  rw [q, e]
  omega
theorem own_vD {n : Int32} (hA : 0 ≤ n.toInt ∧ n.toInt < 1000000000 ∧ n.toInt % 1000000 = 0) : ((n.toInt64) / (1000000 : Int64)).toInt = n.toInt / 1000000 := by
  have q := (c_ldiv n.toInt64 1000000 1000000 rfl (by decide)).1 (by rw [c_i2l]; exact hA.1)
  rw [q, c_i2l]
theorem own_sum1 {r s b : Int64} {n : Int32} (hr : r.toInt = (s + (1 : Int64)).toInt * 1000) (h : s < (0 : Int64)) (hb : b.toInt = n.toInt / 1000000 - 1000) (hB : -9223372036854775808 ≤ s.toInt * 1000 + n.toInt / 1000000 ∧ s.toInt * 1000 + n.toInt / 1000000 < 9223372036854775808) : fits64 (r.toInt + b.toInt) := by
  rw [own_s1 h] at hr
  unfold fits64
  omega
theorem own_sum2 {r s b : Int64} {n : Int32} (hr : r.toInt = s.toInt * 1000) (hb : b.toInt = n.toInt / 1000000) (hB : -9223372036854775808 ≤ s.toInt * 1000 + n.toInt / 1000000 ∧ s.toInt * 1000 + n.toInt / 1000000 < 9223372036854775808) : fits64 (r.toInt + b.toInt) := by
  unfold fits64
  omega
theorem own_fin1 {v r s b : Int64} {n : Int32} (hv : v.toInt = r.toInt + b.toInt) (hr : r.toInt = (s + (1 : Int64)).toInt * 1000) (h : s < (0 : Int64)) (hb : b.toInt = n.toInt / 1000000 - 1000) : v.toInt = s.toInt * 1000 + n.toInt / 1000000 := by
  rw [own_s1 h] at hr
  omega
theorem own_fin2 {v r s b : Int64} {n : Int32} (hv : v.toInt = r.toInt + b.toInt) (hr : r.toInt = s.toInt * 1000) (hb : b.toInt = n.toInt / 1000000) : v.toInt = s.toInt * 1000 + n.toInt / 1000000 := by
  omega
theorem own_sLo {s : Int64} (h : -9223372036854776 ≤ s.toInt ∧ s.toInt ≤ 9223372036854775) : ¬ (s < (-31557014167219200 : Int64)) := by
  rw [Int64.lt_iff_toInt_lt]
  have e : (-31557014167219200 : Int64).toInt = -31557014167219200 := rfl
  omega
theorem own_sHi {s : Int64} (h : -9223372036854776 ≤ s.toInt ∧ s.toInt ≤ 9223372036854775) : ¬ ((31556889864403199 : Int64) < s) := by
  rw [Int64.lt_iff_toInt_lt]
  have e : (31556889864403199 : Int64).toInt = 31556889864403199 := rfl
  omega
theorem own_or1 {s : Int64} {n : Int32} (h : (s ||| n.toInt64) = (0 : Int64)) : (0 : Int64) = s := (Int64.or_eq_zero_iff.mp h).1.symm
theorem own_or2 {s : Int64} {n : Int32} (h : (s ||| n.toInt64) = (0 : Int64)) : (0 : Int32) = n := by
  have e := congrArg Int64.toInt (Int64.or_eq_zero_iff.mp h).2
  rw [c_i2l] at e
  exact Int32.toInt_inj.mp e.symm
theorem own_sr {s x : Int64} (h : s.toInt = x.toInt / 1000) : -9223372036854776 ≤ s.toInt ∧ s.toInt ≤ 9223372036854775 := by
  have r := rng64 x
  omega
theorem own_i1 {s2 s x : Int64} (e : s2 = s) (h : s.toInt = x.toInt / 1000) : s2.toInt = x.toInt / 1000 := by rw [e]; exact h
theorem own_mulM {r : Int32} {k : Int} (h : r.toInt = k) (h0 : 0 ≤ k) (h1 : k < 1000) : (r * (1000000 : Int32)).toInt = k * 1000000 := by
  have m := c_imul r 1000000
  have t : (1000000 : Int32).toInt = 1000000 := rfl
  have q := rng32 (r * (1000000 : Int32))
  rw [t] at m
  omega
theorem own_i2 {n2 r : Int32} {x : Int64} (e : n2 = (r * (1000000 : Int32))) (h : r.toInt = x.toInt % 1000) : n2.toInt = x.toInt % 1000 * 1000000 := by
  rw [e]; exact own_mulM h (by omega) (by omega)
theorem own_rv (x : Int64) : (0 ≤ x.toInt → ((x - (x / (1000 : Int64)) * (1000 : Int64)).toInt32).toInt = x.toInt % 1000) ∧ (x.toInt < 0 → ((x - (x / (1000 : Int64)) * (1000 : Int64)).toInt32).toInt = -((-x.toInt) % 1000)) := by
  have q := c_lrem x 1000 1000 rfl
  have c := c_l2i (x - (x / (1000 : Int64)) * (1000 : Int64))
  have r := rng32 ((x - (x / (1000 : Int64)) * (1000 : Int64)).toInt32)
  constructor
  · intro h
    have q := q.1 h
    omega
  · intro h
    have q := q.2 h
    omega
theorem own_d1n {s2 x : Int64} (e : s2 = (x / (1000 : Int64))) (h : ¬ (((x - (x / (1000 : Int64)) * (1000 : Int64)).toInt32) < (0 : Int32))) : s2.toInt = x.toInt / 1000 := by
  rw [e]
  rw [Int32.lt_iff_toInt_lt] at h
  have z : (0 : Int32).toInt = 0 := rfl
  have d := c_ldiv x 1000 1000 rfl (by decide)
  have v := own_rv x
  rcases Int.lt_or_le x.toInt 0 with g | g
  · have d := d.2 g
    have v := v.2 g
    omega
  · exact d.1 g
theorem own_d2n {n2 : Int32} {x : Int64} (e : n2 = (((x - (x / (1000 : Int64)) * (1000 : Int64)).toInt32) * (1000000 : Int32))) (h : ¬ (((x - (x / (1000 : Int64)) * (1000 : Int64)).toInt32) < (0 : Int32))) : n2.toInt = x.toInt % 1000 * 1000000 := by
  rw [e]
  rw [Int32.lt_iff_toInt_lt] at h
  have z : (0 : Int32).toInt = 0 := rfl
  have v := own_rv x
  refine own_mulM ?_ (by omega) (by omega)
  rcases Int.lt_or_le x.toInt 0 with g | g
  · have v := v.2 g
    omega
  · exact v.1 g
theorem own_d0 {x : Int64} (h : ((x - (x / (1000 : Int64)) * (1000 : Int64)).toInt32) < (0 : Int32)) : x.toInt < 0 ∧ ((x - (x / (1000 : Int64)) * (1000 : Int64)).toInt32).toInt = -((-x.toInt) % 1000) ∧ (-x.toInt) % 1000 ≠ 0 := by
  rw [Int32.lt_iff_toInt_lt] at h
  have z : (0 : Int32).toInt = 0 := rfl
  have v := own_rv x
  rcases Int.lt_or_le x.toInt 0 with g | g
  · have v := v.2 g
    refine ⟨g, v, ?_⟩
    omega
  · have v := v.1 g
    omega
theorem own_d1p {s2 x : Int64} (e : s2 = ((x / (1000 : Int64)) - (1 : Int64))) (h : ((x - (x / (1000 : Int64)) * (1000 : Int64)).toInt32) < (0 : Int32)) : s2.toInt = x.toInt / 1000 := by
  rw [e]
  obtain ⟨g, v, n⟩ := own_d0 h
  have d := (c_ldiv x 1000 1000 rfl (by decide)).2 g
  have s := c_lsub (x / 1000) 1
  have o : (1 : Int64).toInt = 1 := rfl
  have r := rng64 ((x / (1000 : Int64)) - (1 : Int64))
  have r' := rng64 x
  rw [o] at s
  omega
theorem own_d2p {n2 : Int32} {x : Int64} (e : n2 = ((((x - (x / (1000 : Int64)) * (1000 : Int64)).toInt32) + (1000 : Int32)) * (1000000 : Int32))) (h : ((x - (x / (1000 : Int64)) * (1000 : Int64)).toInt32) < (0 : Int32)) : n2.toInt = x.toInt % 1000 * 1000000 := by
  rw [e]
  obtain ⟨g, v, n⟩ := own_d0 h
  have a := c_iadd ((x - (x / (1000 : Int64)) * (1000 : Int64)).toInt32) 1000
  have t : (1000 : Int32).toInt = 1000 := rfl
  have r := rng32 (((x - (x / (1000 : Int64)) * (1000 : Int64)).toInt32) + (1000 : Int32))
  rw [t] at a
  refine own_mulM ?_ (by omega) (by omega)
  omega
theorem own_hA {n : Int32} {x : Int64} (h : n.toInt = x.toInt % 1000 * 1000000) : 0 ≤ n.toInt ∧ n.toInt < 1000000000 ∧ n.toInt % 1000000 = 0 := by omega
theorem own_hB {s x : Int64} {n : Int32} (hs : s.toInt = x.toInt / 1000) (h : n.toInt = x.toInt % 1000 * 1000000) : -9223372036854775808 ≤ s.toInt * 1000 + n.toInt / 1000000 ∧ s.toInt * 1000 + n.toInt / 1000000 < 9223372036854775808 := by
  have r := rng64 x
  omega
theorem own_back {v s x : Int64} {n : Int32} (hv : v.toInt = s.toInt * 1000 + n.toInt / 1000000) (hs : s.toInt = x.toInt / 1000) (h : n.toInt = x.toInt % 1000 * 1000000) : v = x := by
  apply Int64.toInt_inj.mp
  omega
def own_G (l : Launch) (Z : State) (a0 : Array Value) (G1 : Int32) (sI : Addr) (sL : Addr) (sT : Addr) (sC : Addr) (sU : Addr) (dZ : Addr) (iE : Addr) : Prop := (Sta Z Z.heap "java/lang/String" "COMPACT_STRINGS" "Z" (.int G1)) ∧ (¬ (G1 = (0 : Int32))) ∧ (Sta Z Z.heap "com/example/expiring_state/expiringstate/OneTimeCodes$IssueResult$Status" "ISSUED" "Lcom/example/expiring_state/expiringstate/OneTimeCodes$IssueResult$Status;" (.ref sI)) ∧ (Sta Z Z.heap "com/example/expiring_state/expiringstate/OneTimeCodes$IssueResult$Status" "LOCKED" "Lcom/example/expiring_state/expiringstate/OneTimeCodes$IssueResult$Status;" (.ref sL)) ∧ (Sta Z Z.heap "com/example/expiring_state/expiringstate/OneTimeCodes$IssueResult$Status" "TOO_SOON" "Lcom/example/expiring_state/expiringstate/OneTimeCodes$IssueResult$Status;" (.ref sT)) ∧ (Sta Z Z.heap "com/example/expiring_state/expiringstate/OneTimeCodes$IssueResult$Status" "CAP_REACHED" "Lcom/example/expiring_state/expiringstate/OneTimeCodes$IssueResult$Status;" (.ref sC)) ∧ (Sta Z Z.heap "com/example/expiring_state/expiringstate/OneTimeCodes$IssueResult$Status" "STORE_UNAVAILABLE" "Lcom/example/expiring_state/expiringstate/OneTimeCodes$IssueResult$Status;" (.ref sU)) ∧ (sL ≠ sI) ∧ (sT ≠ sI) ∧ (sC ≠ sI) ∧ (sU ≠ sI) ∧ (Sta Z Z.heap "java/time/Duration" "ZERO" "Ljava/time/Duration;" (.ref dZ)) ∧ (Exa Z Z.heap dZ "java/time/Duration") ∧ (Fld Z Z.heap dZ "java/time/Duration" "seconds" "J" (.long (0 : Int64))) ∧ (Fld Z Z.heap dZ "java/time/Duration" "nanos" "I" (.int (0 : Int32))) ∧ (Sta Z Z.heap "java/time/Instant" "EPOCH" "Ljava/time/Instant;" (.ref iE)) ∧ (Exa Z Z.heap iE "java/time/Instant") ∧ (Fld Z Z.heap iE "java/time/Instant" "seconds" "J" (.long (0 : Int64))) ∧ (Fld Z Z.heap iE "java/time/Instant" "nanos" "I" (.int (0 : Int32)))
abbrev M0 : MethodName := ⟨"java/lang/StringUTF16", "compress", "([CI[BII)I"⟩
theorem ef_1 (m : MethodId) (x0 : Addr) (x1 : Int32) (x2 : Addr) (x3 : Int32) (x4 : Int32) : entryFrame m #[(.ref x0), (.int x1), (.ref x2), (.int x3), (.int x4)] 7 = mkF m 0 #[.val (.ref x0), .val (.int x1), .val (.ref x2), .val (.int x3), .val (.int x4), .unset, .unset] [] := by first | (simp [entryFrame, mkF, argsToLocals, Value.category]; done) | rfl
theorem pn_2 : plainName "java/lang/StringUTF16" = true := by first | (simp [plainName, overriddenIn]; done) | decide +kernel
theorem d0_0 : decode jdk_52_method_21_code 0 = .ok (.iconst 0, 1) := by decide +kernel
theorem d0_1 : decode jdk_52_method_21_code 1 = .ok (.istore 5, 2) := by decide +kernel
theorem d0_3 : decode jdk_52_method_21_code 3 = .ok (.iload 5, 2) := by decide +kernel
theorem d0_5 : decode jdk_52_method_21_code 5 = .ok (.iload 4, 2) := by decide +kernel
theorem d0_7 : decode jdk_52_method_21_code 7 = .ok (.if_icmp .ge 37, 3) := by decide +kernel
theorem d0_10 : decode jdk_52_method_21_code 10 = .ok (.aload_n 0, 1) := by decide +kernel
theorem d0_11 : decode jdk_52_method_21_code 11 = .ok (.iload_n 1, 1) := by decide +kernel
theorem d0_12 : decode jdk_52_method_21_code 12 = .ok (.caload, 1) := by decide +kernel
theorem d0_13 : decode jdk_52_method_21_code 13 = .ok (.istore 6, 2) := by decide +kernel
theorem d0_15 : decode jdk_52_method_21_code 15 = .ok (.iload 6, 2) := by decide +kernel
theorem d0_17 : decode jdk_52_method_21_code 17 = .ok (.sipush 255, 3) := by decide +kernel
theorem d0_20 : decode jdk_52_method_21_code 20 = .ok (.if_icmp .le 6, 3) := by decide +kernel
theorem d0_26 : decode jdk_52_method_21_code 26 = .ok (.aload_n 2, 1) := by decide +kernel
theorem d0_27 : decode jdk_52_method_21_code 27 = .ok (.iload_n 3, 1) := by decide +kernel
theorem d0_28 : decode jdk_52_method_21_code 28 = .ok (.iload 6, 2) := by decide +kernel
theorem d0_30 : decode jdk_52_method_21_code 30 = .ok (.i2b, 1) := by decide +kernel
theorem d0_31 : decode jdk_52_method_21_code 31 = .ok (.bastore, 1) := by decide +kernel
theorem d0_32 : decode jdk_52_method_21_code 32 = .ok (.iinc 1 1, 3) := by decide +kernel
theorem d0_35 : decode jdk_52_method_21_code 35 = .ok (.iinc 3 1, 3) := by decide +kernel
theorem d0_38 : decode jdk_52_method_21_code 38 = .ok (.iinc 5 1, 3) := by decide +kernel
theorem d0_41 : decode jdk_52_method_21_code 41 = .ok (.goto (-38), 3) := by decide +kernel
theorem d0_44 : decode jdk_52_method_21_code 44 = .ok (.iload 4, 2) := by decide +kernel
theorem d0_46 : decode jdk_52_method_21_code 46 = .ok (.ireturn, 1) := by decide +kernel
abbrev R_cmp5_4 : Room := { frames := 0, cells := 0, slots := 0, locals := 0 }
def Q_cmp5_4 (Z : State) (G1 : Int32) (sI : Addr) (sL : Addr) (sT : Addr) (sC : Addr) (sU : Addr) (dZ : Addr) (iE : Addr) (b : Addr) (k : ClassId) (t : Addr) (kt : ClassId) (c0 : Int32) (c1 : Int32) (c2 : Int32) (c3 : Int32) (h0 : Heap) (n0 : Nat) (v : Option Value) (h : Heap) (L : List Loc) : Prop := (v = some (.int (4 : Int32)) ∧ Fr n0 L ∧ Keep h0 h [t] ∧ (Arv Z h t kt .byte (4 : Int32) [(.int (own_lo8 c0)), (.int (own_lo8 c1)), (.int (own_lo8 c2)), (.int (own_lo8 c3))] (.int (0 : Int32))))
set_option maxRecDepth 65536 in
set_option maxHeartbeats 40000000 in
theorem rm_cmp5_4 (l : Launch) (Z : State) (a0 : Array Value) (hw : ∀ d ∈ tables_1, d.before a0 Z = true) (ws : List Jvm.Cond) (G1 : Int32) (sI : Addr) (sL : Addr) (sT : Addr) (sC : Addr) (sU : Addr) (dZ : Addr) (iE : Addr) (HG : own_G l Z a0 G1 sI sL sT sC sU dZ iE) (h0 : Heap) (n0 : Nat) (X00 : Old Z n0 h0) (b : Addr) (k : ClassId) (t : Addr) (kt : ClassId) (c0 : Int32) (c1 : Int32) (c2 : Int32) (c3 : Int32) (hp0 : Arv Z h0 b k .char (4 : Int32) [(.int c0), (.int c1), (.int c2), (.int c3)] (.int (0 : Int32))) (hp1 : Arv Z h0 t kt .byte (4 : Int32) [(.int (0 : Int32)), (.int (0 : Int32)), (.int (0 : Int32)), (.int (0 : Int32))] (.int (0 : Int32))) (hp2 : n0 ≤ t) (hp3 : b ≠ t) (hh0 : ¬ ((255 : Int32) < c0)) (hh1 : ¬ ((255 : Int32) < c1)) (hh2 : ¬ ((255 : Int32) < c2)) (hh3 : ¬ ((255 : Int32) < c3)) :
    own_CP l Z M0 jdk_52_method_21_code 7 (some .int) ws R_cmp5_4 #[(.ref b), (.int (0 : Int32)), (.ref t), (.int (0 : Int32)), (.int (4 : Int32))] h0 (Q_cmp5_4 Z G1 sI sL sT sC sU dZ iE b k t kt c0 c1 c2 c3 h0 n0) := by
  refine own_P (plainFor_of_name pn_2) ?_
  intro p e s m below meth c s₁ S0 Bd hZ hh hx hby hml hown hnm X0 e0 hS0d
  obtain ⟨O1, P1, OsI, OsL, OsT, OsC, OsU, NsL, NsT, NsC, NsU, OZ, EZ, FZ1, FZ2, OE, EE, FE1, FE2⟩ := id HG
  have N0 := Fr.nil n0
  have C0 : Steps p.tables e below S0 (s₁.setTop (mkF m 0 #[.val (.ref b), .val (.int (0 : Int32)), .val (.ref t), .val (.int (0 : Int32)), .val (.int (4 : Int32)), .unset, .unset] [])) := by rw [hS0d]; exact castTop (ef_1 m b (0 : Int32) t (0 : Int32) (4 : Int32)) (Steps.refl _)
  obtain ⟨c_1, A_2, q_3, S_4, M_5, H_6, U_7⟩ := id hp0
  have hin_8 : ¬ ((0 : Int32) < 0 ∨ c_1.slots.size ≤ (0 : Int32).toNatClampNeg) := inb_of S_4 ⟨(by decide : ¬ ((0 : Int32) < (0 : Int32))), (by decide : (0 : Int32) < (4 : Int32))⟩
  have hat_9 : c_1.slots[(0 : Int32).toNatClampNeg]? = some (.int c0) := Has.at H_6 hin_8 rfl
  obtain ⟨c_10, A_11, q_12, S_13, M_14, H_15, U_16⟩ := id hp1
  have hin_23 : ¬ ((0 : Int32) < 0 ∨ c_10.slots.size ≤ (0 : Int32).toNatClampNeg) := inb_of S_13 ⟨(by decide : ¬ ((0 : Int32) < (0 : Int32))), (by decide : (0 : Int32) < (4 : Int32))⟩
  obtain ⟨T_17, h_18, X_19, e_20, W_21, st_22⟩ := stB X0 hx hZ e0 A_11 (j := (0 : Int32)) hin_23 (g := (mkF m 31 #[.val (.ref b), .val (.int (0 : Int32)), .val (.ref t), .val (.int (0 : Int32)), .val (.int (4 : Int32)), .val (.int (0 : Int32)), .val (.int c0)] [(.int (c0.toInt8.toInt32)), (.int (0 : Int32)), (.ref t)])) rfl rfl (hb hby d0_31)
  have N_24 := Fr.snoc X_19 N0 hp2
  have V_25 : Arv Z h_18 t kt .byte (4 : Int32) [(.int (own_lo8 c0)), (.int (0 : Int32)), (.int (0 : Int32)), (.int (0 : Int32))] (.int (0 : Int32)) := Arv.set A_11 q_12 S_13 M_14 H_15 U_16 (fits_nar_byte _) W_21 0 rfl (Nat.le_of_ble_eq_true rfl)
  have V_26 : Arv Z h_18 b k .char (4 : Int32) [(.int c0), (.int c1), (.int c2), (.int c3)] (.int (0 : Int32)) := (hp0.other W_21 hp3)
  obtain ⟨c_27, A_28, q_29, S_30, M_31, H_32, U_33⟩ := id V_26
  have hin_34 : ¬ ((1 : Int32) < 0 ∨ c_27.slots.size ≤ (1 : Int32).toNatClampNeg) := inb_of S_30 ⟨(by decide : ¬ ((1 : Int32) < (0 : Int32))), (by decide : (1 : Int32) < (4 : Int32))⟩
  have hat_35 : c_27.slots[(1 : Int32).toNatClampNeg]? = some (.int c1) := Has.at H_32 hin_34 rfl
  obtain ⟨c_36, A_37, q_38, S_39, M_40, H_41, U_42⟩ := id V_25
  have hin_49 : ¬ ((1 : Int32) < 0 ∨ c_36.slots.size ≤ (1 : Int32).toNatClampNeg) := inb_of S_39 ⟨(by decide : ¬ ((1 : Int32) < (0 : Int32))), (by decide : (1 : Int32) < (4 : Int32))⟩
  obtain ⟨T_43, h_44, X_45, e_46, W_47, st_48⟩ := stB X_19 hx hZ e_20 A_37 (j := (1 : Int32)) hin_49 (g := (mkF m 31 #[.val (.ref b), .val (.int (1 : Int32)), .val (.ref t), .val (.int (1 : Int32)), .val (.int (4 : Int32)), .val (.int (1 : Int32)), .val (.int c1)] [(.int (c1.toInt8.toInt32)), (.int (1 : Int32)), (.ref t)])) rfl rfl (hb hby d0_31)
  have N_50 := Fr.snoc X_45 N_24 hp2
  have V_51 : Arv Z h_44 t kt .byte (4 : Int32) [(.int (own_lo8 c0)), (.int (own_lo8 c1)), (.int (0 : Int32)), (.int (0 : Int32))] (.int (0 : Int32)) := Arv.set A_37 q_38 S_39 M_40 H_41 U_42 (fits_nar_byte _) W_47 1 rfl (Nat.le_of_ble_eq_true rfl)
  have V_52 : Arv Z h_44 b k .char (4 : Int32) [(.int c0), (.int c1), (.int c2), (.int c3)] (.int (0 : Int32)) := (V_26.other W_47 hp3)
  obtain ⟨c_53, A_54, q_55, S_56, M_57, H_58, U_59⟩ := id V_52
  have hin_60 : ¬ ((2 : Int32) < 0 ∨ c_53.slots.size ≤ (2 : Int32).toNatClampNeg) := inb_of S_56 ⟨(by decide : ¬ ((2 : Int32) < (0 : Int32))), (by decide : (2 : Int32) < (4 : Int32))⟩
  have hat_61 : c_53.slots[(2 : Int32).toNatClampNeg]? = some (.int c2) := Has.at H_58 hin_60 rfl
  obtain ⟨c_62, A_63, q_64, S_65, M_66, H_67, U_68⟩ := id V_51
  have hin_75 : ¬ ((2 : Int32) < 0 ∨ c_62.slots.size ≤ (2 : Int32).toNatClampNeg) := inb_of S_65 ⟨(by decide : ¬ ((2 : Int32) < (0 : Int32))), (by decide : (2 : Int32) < (4 : Int32))⟩
  obtain ⟨T_69, h_70, X_71, e_72, W_73, st_74⟩ := stB X_45 hx hZ e_46 A_63 (j := (2 : Int32)) hin_75 (g := (mkF m 31 #[.val (.ref b), .val (.int (2 : Int32)), .val (.ref t), .val (.int (2 : Int32)), .val (.int (4 : Int32)), .val (.int (2 : Int32)), .val (.int c2)] [(.int (c2.toInt8.toInt32)), (.int (2 : Int32)), (.ref t)])) rfl rfl (hb hby d0_31)
  have N_76 := Fr.snoc X_71 N_50 hp2
  have V_77 : Arv Z h_70 t kt .byte (4 : Int32) [(.int (own_lo8 c0)), (.int (own_lo8 c1)), (.int (own_lo8 c2)), (.int (0 : Int32))] (.int (0 : Int32)) := Arv.set A_63 q_64 S_65 M_66 H_67 U_68 (fits_nar_byte _) W_73 2 rfl (Nat.le_of_ble_eq_true rfl)
  have V_78 : Arv Z h_70 b k .char (4 : Int32) [(.int c0), (.int c1), (.int c2), (.int c3)] (.int (0 : Int32)) := (V_52.other W_73 hp3)
  obtain ⟨c_79, A_80, q_81, S_82, M_83, H_84, U_85⟩ := id V_78
  have hin_86 : ¬ ((3 : Int32) < 0 ∨ c_79.slots.size ≤ (3 : Int32).toNatClampNeg) := inb_of S_82 ⟨(by decide : ¬ ((3 : Int32) < (0 : Int32))), (by decide : (3 : Int32) < (4 : Int32))⟩
  have hat_87 : c_79.slots[(3 : Int32).toNatClampNeg]? = some (.int c3) := Has.at H_84 hin_86 rfl
  obtain ⟨c_88, A_89, q_90, S_91, M_92, H_93, U_94⟩ := id V_77
  have hin_101 : ¬ ((3 : Int32) < 0 ∨ c_88.slots.size ≤ (3 : Int32).toNatClampNeg) := inb_of S_91 ⟨(by decide : ¬ ((3 : Int32) < (0 : Int32))), (by decide : (3 : Int32) < (4 : Int32))⟩
  obtain ⟨T_95, h_96, X_97, e_98, W_99, st_100⟩ := stB X_71 hx hZ e_72 A_89 (j := (3 : Int32)) hin_101 (g := (mkF m 31 #[.val (.ref b), .val (.int (3 : Int32)), .val (.ref t), .val (.int (3 : Int32)), .val (.int (4 : Int32)), .val (.int (3 : Int32)), .val (.int c3)] [(.int (c3.toInt8.toInt32)), (.int (3 : Int32)), (.ref t)])) rfl rfl (hb hby d0_31)
  have N_102 := Fr.snoc X_97 N_76 hp2
  have V_103 : Arv Z h_96 t kt .byte (4 : Int32) [(.int (own_lo8 c0)), (.int (own_lo8 c1)), (.int (own_lo8 c2)), (.int (own_lo8 c3))] (.int (0 : Int32)) := Arv.set A_89 q_90 S_91 M_92 H_93 U_94 (fits_nar_byte _) W_99 3 rfl (Nat.le_of_ble_eq_true rfl)
  have C_104 : Steps p.tables e below S0 (T_95.setTop (mkF m 46 #[.val (.ref b), .val (.int (4 : Int32)), .val (.ref t), .val (.int (4 : Int32)), .val (.int (4 : Int32)), .val (.int (4 : Int32)), .val (.int c3)] [(.int (4 : Int32))])) := by
    refine C0.trans ?_
    refine XS.iconst X0.here hx rfl (hb hby d0_0) ?_
    refine XS.istore X0.here hx rfl (hb hby d0_1) rfl (l' := #[.val (.ref b), .val (.int (0 : Int32)), .val (.ref t), .val (.int (0 : Int32)), .val (.int (4 : Int32)), .val (.int (0 : Int32)), .unset]) rfl ?_
    refine XS.iload X0.here hx rfl (hb hby d0_3) rfl ?_
    refine XS.iload X0.here hx rfl (hb hby d0_5) rfl ?_
    refine XS.icmpNo X0.here hx rfl (hb hby d0_7) rfl (by decide) ?_
    refine XS.aloadN X0.here hx rfl (hb hby d0_10) rfl rfl ?_
    refine XS.iloadN X0.here hx rfl (hb hby d0_11) rfl ?_
    refine X0.caload hx (j := (0 : Int32)) (v := (.int c0)) (by rw [e0]; exact A_2.1) (State.isArrayOf_alike hZ.alike A_2.2.1) A_2.2.2 hin_8 hat_9 (g := (mkF m 12 #[.val (.ref b), .val (.int (0 : Int32)), .val (.ref t), .val (.int (0 : Int32)), .val (.int (4 : Int32)), .val (.int (0 : Int32)), .unset] [(.int (0 : Int32)), (.ref b)])) rfl rfl (hb hby d0_12) _ ?_
    show Steps p.tables e below (s₁.setTop (mkF m 13 #[.val (.ref b), .val (.int (0 : Int32)), .val (.ref t), .val (.int (0 : Int32)), .val (.int (4 : Int32)), .val (.int (0 : Int32)), .unset] [(.int c0)])) _
    refine XS.istore X0.here hx rfl (hb hby d0_13) rfl (l' := #[.val (.ref b), .val (.int (0 : Int32)), .val (.ref t), .val (.int (0 : Int32)), .val (.int (4 : Int32)), .val (.int (0 : Int32)), .val (.int c0)]) rfl ?_
    refine XS.iload X0.here hx rfl (hb hby d0_15) rfl ?_
    refine XS.sipush X0.here hx rfl (hb hby d0_17) ?_
    refine XS.icmpYes X0.here hx rfl (pc0 := 20) (pc' := 26) rfl (hb hby d0_20) rfl (ii_le_t hh0) (by decide) (by decide) ?_
    refine XS.aloadN X0.here hx rfl (hb hby d0_26) rfl rfl ?_
    refine XS.iloadN X0.here hx rfl (hb hby d0_27) rfl ?_
    refine XS.iload X0.here hx rfl (hb hby d0_28) rfl ?_
    refine XS.i2b X0.here hx rfl (hb hby d0_30) rfl ?_
    show Steps p.tables e below (s₁.setTop (mkF m 31 #[.val (.ref b), .val (.int (0 : Int32)), .val (.ref t), .val (.int (0 : Int32)), .val (.int (4 : Int32)), .val (.int (0 : Int32)), .val (.int c0)] [(.int (c0.toInt8.toInt32)), (.int (0 : Int32)), (.ref t)])) _
    refine st_22 _ ?_
    refine XS.iinc X_19.here hx rfl (hb hby d0_32) (x := (0 : Int32)) rfl (l' := #[.val (.ref b), .val (.int (1 : Int32)), .val (.ref t), .val (.int (0 : Int32)), .val (.int (4 : Int32)), .val (.int (0 : Int32)), .val (.int c0)]) rfl ?_
    refine XS.iinc X_19.here hx rfl (hb hby d0_35) (x := (0 : Int32)) rfl (l' := #[.val (.ref b), .val (.int (1 : Int32)), .val (.ref t), .val (.int (1 : Int32)), .val (.int (4 : Int32)), .val (.int (0 : Int32)), .val (.int c0)]) rfl ?_
    refine XS.iinc X_19.here hx rfl (hb hby d0_38) (x := (0 : Int32)) rfl (l' := #[.val (.ref b), .val (.int (1 : Int32)), .val (.ref t), .val (.int (1 : Int32)), .val (.int (4 : Int32)), .val (.int (1 : Int32)), .val (.int c0)]) rfl ?_
    refine XS.goto X_19.here hx rfl (pc0 := 41) (pc' := 3) rfl (hb hby d0_41) (by decide) (by decide) ?_
    refine XS.iload X_19.here hx rfl (hb hby d0_3) rfl ?_
    refine XS.iload X_19.here hx rfl (hb hby d0_5) rfl ?_
    refine XS.icmpNo X_19.here hx rfl (hb hby d0_7) rfl (by decide) ?_
    show Steps p.tables e below (T_17.setTop (mkF m 10 #[.val (.ref b), .val (.int (1 : Int32)), .val (.ref t), .val (.int (1 : Int32)), .val (.int (4 : Int32)), .val (.int (1 : Int32)), .val (.int c0)] [])) _
    refine XS.aloadN X_19.here hx rfl (hb hby d0_10) rfl rfl ?_
    refine XS.iloadN X_19.here hx rfl (hb hby d0_11) rfl ?_
    refine X_19.caload hx (j := (1 : Int32)) (v := (.int c1)) (by rw [e_20]; exact A_28.1) (State.isArrayOf_alike hZ.alike A_28.2.1) A_28.2.2 hin_34 hat_35 (g := (mkF m 12 #[.val (.ref b), .val (.int (1 : Int32)), .val (.ref t), .val (.int (1 : Int32)), .val (.int (4 : Int32)), .val (.int (1 : Int32)), .val (.int c0)] [(.int (1 : Int32)), (.ref b)])) rfl rfl (hb hby d0_12) _ ?_
    refine XS.istore X_19.here hx rfl (hb hby d0_13) rfl (l' := #[.val (.ref b), .val (.int (1 : Int32)), .val (.ref t), .val (.int (1 : Int32)), .val (.int (4 : Int32)), .val (.int (1 : Int32)), .val (.int c1)]) rfl ?_
    refine XS.iload X_19.here hx rfl (hb hby d0_15) rfl ?_
    refine XS.sipush X_19.here hx rfl (hb hby d0_17) ?_
    refine XS.icmpYes X_19.here hx rfl (pc0 := 20) (pc' := 26) rfl (hb hby d0_20) rfl (ii_le_t hh1) (by decide) (by decide) ?_
    refine XS.aloadN X_19.here hx rfl (hb hby d0_26) rfl rfl ?_
    show Steps p.tables e below (T_17.setTop (mkF m 27 #[.val (.ref b), .val (.int (1 : Int32)), .val (.ref t), .val (.int (1 : Int32)), .val (.int (4 : Int32)), .val (.int (1 : Int32)), .val (.int c1)] [(.ref t)])) _
    refine XS.iloadN X_19.here hx rfl (hb hby d0_27) rfl ?_
    refine XS.iload X_19.here hx rfl (hb hby d0_28) rfl ?_
    refine XS.i2b X_19.here hx rfl (hb hby d0_30) rfl ?_
    refine st_48 _ ?_
    refine XS.iinc X_45.here hx rfl (hb hby d0_32) (x := (1 : Int32)) rfl (l' := #[.val (.ref b), .val (.int (2 : Int32)), .val (.ref t), .val (.int (1 : Int32)), .val (.int (4 : Int32)), .val (.int (1 : Int32)), .val (.int c1)]) rfl ?_
    refine XS.iinc X_45.here hx rfl (hb hby d0_35) (x := (1 : Int32)) rfl (l' := #[.val (.ref b), .val (.int (2 : Int32)), .val (.ref t), .val (.int (2 : Int32)), .val (.int (4 : Int32)), .val (.int (1 : Int32)), .val (.int c1)]) rfl ?_
    refine XS.iinc X_45.here hx rfl (hb hby d0_38) (x := (1 : Int32)) rfl (l' := #[.val (.ref b), .val (.int (2 : Int32)), .val (.ref t), .val (.int (2 : Int32)), .val (.int (4 : Int32)), .val (.int (2 : Int32)), .val (.int c1)]) rfl ?_
    refine XS.goto X_45.here hx rfl (pc0 := 41) (pc' := 3) rfl (hb hby d0_41) (by decide) (by decide) ?_
    show Steps p.tables e below (T_43.setTop (mkF m 3 #[.val (.ref b), .val (.int (2 : Int32)), .val (.ref t), .val (.int (2 : Int32)), .val (.int (4 : Int32)), .val (.int (2 : Int32)), .val (.int c1)] [])) _
    refine XS.iload X_45.here hx rfl (hb hby d0_3) rfl ?_
    refine XS.iload X_45.here hx rfl (hb hby d0_5) rfl ?_
    refine XS.icmpNo X_45.here hx rfl (hb hby d0_7) rfl (by decide) ?_
    refine XS.aloadN X_45.here hx rfl (hb hby d0_10) rfl rfl ?_
    refine XS.iloadN X_45.here hx rfl (hb hby d0_11) rfl ?_
    refine X_45.caload hx (j := (2 : Int32)) (v := (.int c2)) (by rw [e_46]; exact A_54.1) (State.isArrayOf_alike hZ.alike A_54.2.1) A_54.2.2 hin_60 hat_61 (g := (mkF m 12 #[.val (.ref b), .val (.int (2 : Int32)), .val (.ref t), .val (.int (2 : Int32)), .val (.int (4 : Int32)), .val (.int (2 : Int32)), .val (.int c1)] [(.int (2 : Int32)), (.ref b)])) rfl rfl (hb hby d0_12) _ ?_
    refine XS.istore X_45.here hx rfl (hb hby d0_13) rfl (l' := #[.val (.ref b), .val (.int (2 : Int32)), .val (.ref t), .val (.int (2 : Int32)), .val (.int (4 : Int32)), .val (.int (2 : Int32)), .val (.int c2)]) rfl ?_
    refine XS.iload X_45.here hx rfl (hb hby d0_15) rfl ?_
    show Steps p.tables e below (T_43.setTop (mkF m 17 #[.val (.ref b), .val (.int (2 : Int32)), .val (.ref t), .val (.int (2 : Int32)), .val (.int (4 : Int32)), .val (.int (2 : Int32)), .val (.int c2)] [(.int c2)])) _
    refine XS.sipush X_45.here hx rfl (hb hby d0_17) ?_
    refine XS.icmpYes X_45.here hx rfl (pc0 := 20) (pc' := 26) rfl (hb hby d0_20) rfl (ii_le_t hh2) (by decide) (by decide) ?_
    refine XS.aloadN X_45.here hx rfl (hb hby d0_26) rfl rfl ?_
    refine XS.iloadN X_45.here hx rfl (hb hby d0_27) rfl ?_
    refine XS.iload X_45.here hx rfl (hb hby d0_28) rfl ?_
    refine XS.i2b X_45.here hx rfl (hb hby d0_30) rfl ?_
    refine st_74 _ ?_
    refine XS.iinc X_71.here hx rfl (hb hby d0_32) (x := (2 : Int32)) rfl (l' := #[.val (.ref b), .val (.int (3 : Int32)), .val (.ref t), .val (.int (2 : Int32)), .val (.int (4 : Int32)), .val (.int (2 : Int32)), .val (.int c2)]) rfl ?_
    show Steps p.tables e below (T_69.setTop (mkF m 35 #[.val (.ref b), .val (.int (3 : Int32)), .val (.ref t), .val (.int (2 : Int32)), .val (.int (4 : Int32)), .val (.int (2 : Int32)), .val (.int c2)] [])) _
    refine XS.iinc X_71.here hx rfl (hb hby d0_35) (x := (2 : Int32)) rfl (l' := #[.val (.ref b), .val (.int (3 : Int32)), .val (.ref t), .val (.int (3 : Int32)), .val (.int (4 : Int32)), .val (.int (2 : Int32)), .val (.int c2)]) rfl ?_
    refine XS.iinc X_71.here hx rfl (hb hby d0_38) (x := (2 : Int32)) rfl (l' := #[.val (.ref b), .val (.int (3 : Int32)), .val (.ref t), .val (.int (3 : Int32)), .val (.int (4 : Int32)), .val (.int (3 : Int32)), .val (.int c2)]) rfl ?_
    refine XS.goto X_71.here hx rfl (pc0 := 41) (pc' := 3) rfl (hb hby d0_41) (by decide) (by decide) ?_
    refine XS.iload X_71.here hx rfl (hb hby d0_3) rfl ?_
    refine XS.iload X_71.here hx rfl (hb hby d0_5) rfl ?_
    refine XS.icmpNo X_71.here hx rfl (hb hby d0_7) rfl (by decide) ?_
    refine XS.aloadN X_71.here hx rfl (hb hby d0_10) rfl rfl ?_
    refine XS.iloadN X_71.here hx rfl (hb hby d0_11) rfl ?_
    show Steps p.tables e below (T_69.setTop (mkF m 12 #[.val (.ref b), .val (.int (3 : Int32)), .val (.ref t), .val (.int (3 : Int32)), .val (.int (4 : Int32)), .val (.int (3 : Int32)), .val (.int c2)] [(.int (3 : Int32)), (.ref b)])) _
    refine X_71.caload hx (j := (3 : Int32)) (v := (.int c3)) (by rw [e_72]; exact A_80.1) (State.isArrayOf_alike hZ.alike A_80.2.1) A_80.2.2 hin_86 hat_87 (g := (mkF m 12 #[.val (.ref b), .val (.int (3 : Int32)), .val (.ref t), .val (.int (3 : Int32)), .val (.int (4 : Int32)), .val (.int (3 : Int32)), .val (.int c2)] [(.int (3 : Int32)), (.ref b)])) rfl rfl (hb hby d0_12) _ ?_
    refine XS.istore X_71.here hx rfl (hb hby d0_13) rfl (l' := #[.val (.ref b), .val (.int (3 : Int32)), .val (.ref t), .val (.int (3 : Int32)), .val (.int (4 : Int32)), .val (.int (3 : Int32)), .val (.int c3)]) rfl ?_
    refine XS.iload X_71.here hx rfl (hb hby d0_15) rfl ?_
    refine XS.sipush X_71.here hx rfl (hb hby d0_17) ?_
    refine XS.icmpYes X_71.here hx rfl (pc0 := 20) (pc' := 26) rfl (hb hby d0_20) rfl (ii_le_t hh3) (by decide) (by decide) ?_
    refine XS.aloadN X_71.here hx rfl (hb hby d0_26) rfl rfl ?_
    refine XS.iloadN X_71.here hx rfl (hb hby d0_27) rfl ?_
    refine XS.iload X_71.here hx rfl (hb hby d0_28) rfl ?_
    show Steps p.tables e below (T_69.setTop (mkF m 30 #[.val (.ref b), .val (.int (3 : Int32)), .val (.ref t), .val (.int (3 : Int32)), .val (.int (4 : Int32)), .val (.int (3 : Int32)), .val (.int c3)] [(.int c3), (.int (3 : Int32)), (.ref t)])) _
    refine XS.i2b X_71.here hx rfl (hb hby d0_30) rfl ?_
    refine st_100 _ ?_
    refine XS.iinc X_97.here hx rfl (hb hby d0_32) (x := (3 : Int32)) rfl (l' := #[.val (.ref b), .val (.int (4 : Int32)), .val (.ref t), .val (.int (3 : Int32)), .val (.int (4 : Int32)), .val (.int (3 : Int32)), .val (.int c3)]) rfl ?_
    refine XS.iinc X_97.here hx rfl (hb hby d0_35) (x := (3 : Int32)) rfl (l' := #[.val (.ref b), .val (.int (4 : Int32)), .val (.ref t), .val (.int (4 : Int32)), .val (.int (4 : Int32)), .val (.int (3 : Int32)), .val (.int c3)]) rfl ?_
    refine XS.iinc X_97.here hx rfl (hb hby d0_38) (x := (3 : Int32)) rfl (l' := #[.val (.ref b), .val (.int (4 : Int32)), .val (.ref t), .val (.int (4 : Int32)), .val (.int (4 : Int32)), .val (.int (4 : Int32)), .val (.int c3)]) rfl ?_
    refine XS.goto X_97.here hx rfl (pc0 := 41) (pc' := 3) rfl (hb hby d0_41) (by decide) (by decide) ?_
    refine XS.iload X_97.here hx rfl (hb hby d0_3) rfl ?_
    refine XS.iload X_97.here hx rfl (hb hby d0_5) rfl ?_
    show Steps p.tables e below (T_95.setTop (mkF m 7 #[.val (.ref b), .val (.int (4 : Int32)), .val (.ref t), .val (.int (4 : Int32)), .val (.int (4 : Int32)), .val (.int (4 : Int32)), .val (.int c3)] [(.int (4 : Int32)), (.int (4 : Int32))])) _
    refine XS.icmpYes X_97.here hx rfl (pc0 := 7) (pc' := 44) rfl (hb hby d0_7) rfl (by decide) (by decide) (by decide) ?_
    refine XS.iload X_97.here hx rfl (hb hby d0_44) rfl ?_
    exact Steps.refl _
  have K_105 : Keep h0 h_96 [t] := (((((Keep.refl _ _).wr W_21 (Or.inl (List.mem_of_getElem? (i := 0) rfl))).wr W_47 (Or.inl (List.mem_of_getElem? (i := 0) rfl))).wr W_73 (Or.inl (List.mem_of_getElem? (i := 0) rfl))).wr W_99 (Or.inl (List.mem_of_getElem? (i := 0) rfl)))
  obtain ⟨fs, hr, hrun, hended, hW, hsame⟩ := X_97.leave (v := some (.int (4 : Int32))) (fun h => by rw [Bd.returns] at h; cases h)
  refine ⟨_, _, C_104.trans (retOut X_97 hx Bd.returns rfl (Or.inl ⟨rfl, Or.inl rfl, _, rfl⟩) (hb hby d0_46) hr), hrun, hended, _, _, rfl, ?_, ⟨_, rfl⟩, hW, hsame.mono (by decide) (by decide)⟩
  show Q_cmp5_4 Z G1 sI sL sT sC sU dZ iE b k t kt c0 c1 c2 c3 h0 n0 (some (.int (4 : Int32))) T_95.heap _
  rw [e_98]
  exact ⟨rfl, N_102, K_105, V_103⟩
abbrev M26 : MethodName := ⟨"java/lang/StringUTF16", "compress", "([CII)[B"⟩
theorem ef_27 (m : MethodId) (x0 : Addr) (x1 : Int32) (x2 : Int32) : entryFrame m #[(.ref x0), (.int x1), (.int x2)] 6 = mkF m 0 #[.val (.ref x0), .val (.int x1), .val (.int x2), .unset, .unset, .unset] [] := by first | (simp [entryFrame, mkF, argsToLocals, Value.category]; done) | rfl
theorem d1_0 : decode jdk_52_method_16_code 0 = .ok (.iload_n 2, 1) := by decide +kernel
theorem w27 {Z : State} {a0 : Array Value} (hw : ∀ d ∈ tables_1, d.before a0 Z = true) : Jvm.Cond.before (Jvm.Cond.arrayClass Jvm.ClassFile.FieldType.byte) a0 Z = true := hw _ (List.mem_of_getElem? (i := 27) rfl)
theorem d1_1 : decode jdk_52_method_16_code 1 = .ok (.newarray .byte, 2) := by decide +kernel
theorem d1_3 : decode jdk_52_method_16_code 3 = .ok (.astore_n 3, 1) := by decide +kernel
theorem d1_4 : decode jdk_52_method_16_code 4 = .ok (.aload_n 0, 1) := by decide +kernel
theorem d1_5 : decode jdk_52_method_16_code 5 = .ok (.iload_n 1, 1) := by decide +kernel
theorem d1_6 : decode jdk_52_method_16_code 6 = .ok (.aload_n 3, 1) := by decide +kernel
theorem d1_7 : decode jdk_52_method_16_code 7 = .ok (.iconst 0, 1) := by decide +kernel
theorem d1_8 : decode jdk_52_method_16_code 8 = .ok (.iload_n 2, 1) := by decide +kernel
theorem w30 {Z : State} {a0 : Array Value} (hw : ∀ d ∈ tables_1, d.before a0 Z = true) : Jvm.Cond.before (Jvm.Cond.code ({ cls := "java/lang/StringUTF16", name := "compress", desc := "([CI[BII)I" } : Jvm.MethodName) jdk_52_method_21_code (7 : Nat) (Option.some Jvm.ClassFile.FieldType.int)) a0 Z = true := hw _ (List.mem_of_getElem? (i := 30) rfl)
theorem w25 {Z : State} {a0 : Array Value} (hw : ∀ d ∈ tables_1, d.before a0 Z = true) : Jvm.Cond.before (Jvm.Cond.initialized "java/lang/StringUTF16") a0 Z = true := hw _ (List.mem_of_getElem? (i := 25) rfl)
theorem pd_39 : parseMethodDescriptor "([CI[BII)I" = some ⟨[(.array .char), .int, (.array .byte), .int, .int], some .int⟩ := by decide +kernel
theorem d1_9 : decode jdk_52_method_16_code 9 = .ok (.invokestatic 115, 3) := by decide +kernel
theorem w28 {Z : State} {a0 : Array Value} (hw : ∀ d ∈ tables_1, d.before a0 Z = true) : Jvm.Cond.before (Jvm.Cond.methodLink "java/lang/StringUTF16" (115 : Nat) ({ cls := "java/lang/StringUTF16", name := "compress", desc := "([CI[BII)I" } : Jvm.MethodName)) a0 Z = true := hw _ (List.mem_of_getElem? (i := 28) rfl)
theorem w29 {Z : State} {a0 : Array Value} (hw : ∀ d ∈ tables_1, d.before a0 Z = true) : Jvm.Cond.before (Jvm.Cond.static ({ cls := "java/lang/StringUTF16", name := "compress", desc := "([CI[BII)I" } : Jvm.MethodName)) a0 Z = true := hw _ (List.mem_of_getElem? (i := 29) rfl)
theorem d1_12 : decode jdk_52_method_16_code 12 = .ok (.istore 4, 2) := by decide +kernel
theorem d1_14 : decode jdk_52_method_16_code 14 = .ok (.iload 4, 2) := by decide +kernel
theorem d1_16 : decode jdk_52_method_16_code 16 = .ok (.iload_n 2, 1) := by decide +kernel
theorem d1_17 : decode jdk_52_method_16_code 17 = .ok (.if_icmp .eq 40, 3) := by decide +kernel
theorem d1_57 : decode jdk_52_method_16_code 57 = .ok (.aload_n 3, 1) := by decide +kernel
theorem d1_58 : decode jdk_52_method_16_code 58 = .ok (.areturn, 1) := by decide +kernel
abbrev R_cmp3_4 : Room := { frames := 1, cells := 1, slots := 4, locals := 18 }
def Q_cmp3_4 (Z : State) (G1 : Int32) (sI : Addr) (sL : Addr) (sT : Addr) (sC : Addr) (sU : Addr) (dZ : Addr) (iE : Addr) (b : Addr) (k : ClassId) (c0 : Int32) (c1 : Int32) (c2 : Int32) (c3 : Int32) (h0 : Heap) (n0 : Nat) (v : Option Value) (h : Heap) (L : List Loc) : Prop := (∃ t : Addr, ∃ kt : ClassId, v = some (.ref t) ∧ Fr n0 L ∧ Keep h0 h [] ∧ (h0.size ≤ t) ∧ (Arv Z h t kt .byte (4 : Int32) [(.int (own_lo8 c0)), (.int (own_lo8 c1)), (.int (own_lo8 c2)), (.int (own_lo8 c3))] (.int (0 : Int32))))
set_option maxRecDepth 65536 in
set_option maxHeartbeats 40000000 in
theorem rm_cmp3_4 (l : Launch) (Z : State) (a0 : Array Value) (hw : ∀ d ∈ tables_1, d.before a0 Z = true) (ws : List Jvm.Cond) (G1 : Int32) (sI : Addr) (sL : Addr) (sT : Addr) (sC : Addr) (sU : Addr) (dZ : Addr) (iE : Addr) (HG : own_G l Z a0 G1 sI sL sT sC sU dZ iE) (h0 : Heap) (n0 : Nat) (X00 : Old Z n0 h0) (b : Addr) (k : ClassId) (c0 : Int32) (c1 : Int32) (c2 : Int32) (c3 : Int32) (hp0 : Arv Z h0 b k .char (4 : Int32) [(.int c0), (.int c1), (.int c2), (.int c3)] (.int (0 : Int32))) (hh0 : ¬ ((255 : Int32) < c0)) (hh1 : ¬ ((255 : Int32) < c1)) (hh2 : ¬ ((255 : Int32) < c2)) (hh3 : ¬ ((255 : Int32) < c3)) :
    own_CP l Z M26 jdk_52_method_16_code 6 (some (.array .byte)) ws R_cmp3_4 #[(.ref b), (.int (0 : Int32)), (.int (4 : Int32))] h0 (Q_cmp3_4 Z G1 sI sL sT sC sU dZ iE b k c0 c1 c2 c3 h0 n0) := by
  refine own_P (plainFor_of_name pn_2) ?_
  intro p e s m below meth c s₁ S0 Bd hZ hh hx hby hml hown hnm X0 e0 hS0d
  obtain ⟨O1, P1, OsI, OsL, OsT, OsC, OsU, NsL, NsT, NsC, NsU, OZ, EZ, FZ1, FZ2, OE, EE, FE1, FE2⟩ := id HG
  have N0 := Fr.nil n0
  have C0 : Steps p.tables e below S0 (s₁.setTop (mkF m 0 #[.val (.ref b), .val (.int (0 : Int32)), .val (.int (4 : Int32)), .unset, .unset, .unset] [])) := by rw [hS0d]; exact castTop (ef_27 m b (0 : Int32) (4 : Int32)) (Steps.refl _)
  obtain ⟨T_1, h_2, k_3, X_4, e_5, E_6, A_7, st_8⟩ := newP (aty := .byte) X0 hx hZ (w27 hw) e0 (g := (mkF m 1 #[.val (.ref b), .val (.int (0 : Int32)), .val (.int (4 : Int32)), .unset, .unset, .unset] [(.int (4 : Int32))])) rfl (hb hby d1_1) rfl (by decide : ¬ ((4 : Int32) < (0 : Int32))) (cap := 4) (by decide : (4 : Int32).toNatClampNeg ≤ 4) (by decide) (by decide) (by decide)
  obtain ⟨a_9, g_10⟩ : ∃ z, z = h0.size := ⟨_, rfl⟩
  rw [← g_10] at A_7 st_8
  have V_12 : Arv Z h_2 a_9 k_3 .byte (4 : Int32) [] (.int (0 : Int32)) := Arv.new A_7 (by decide : ¬ ((4 : Int32) < (0 : Int32)))
  have V_11 : Arv Z h_2 a_9 k_3 .byte (4 : Int32) [(.int (0 : Int32)), (.int (0 : Int32)), (.int (0 : Int32)), (.int (0 : Int32))] (.int (0 : Int32)) := (V_12.pad (pad_rep [] (.int (0 : Int32)) 4))
  have V_13 : Arv Z h_2 b k .char (4 : Int32) [(.int c0), (.int c1), (.int c2), (.int c3)] (.int (0 : Int32)) := (hp0.ext E_6)
  have O_14 : Old Z n0 h_2 := (X00.ext E_6)
  obtain ⟨_, _, ⟨T_15, L_15, k_15, n_15⟩, -, X_15, ⟨Lc_15, hQ_15, l_15, y_15, z_15⟩, st_15⟩ := Jvm.LawKit.callS X_4 hx (y := M0) hown (mvT hZ (w28 hw)) (mvT hZ (w29 hw)) (mvT hZ (w25 hw)) (mvT hZ (w30 hw)) (by decide) (backOf (W := 0) (rm_cmp5_4 l Z a0 hw [] G1 sI sL sT sC sU dZ iE HG h_2 n0 O_14 b k a_9 k_3 c0 c1 c2 c3 V_13 V_11 (Nat.le_trans (own_n0 X00) (Nat.le_of_eq g_10.symm)) (Nat.ne_of_lt (Nat.lt_of_lt_of_le hp0.lt (Nat.le_trans (Nat.le_refl _) (Nat.le_of_eq g_10.symm)))) hh0 hh1 hh2 hh3) hZ (w30 hw) (w25 hw) (by decide) (by decide)) (g := (mkF m 9 #[.val (.ref b), .val (.int (0 : Int32)), .val (.int (4 : Int32)), .val (.ref a_9), .unset, .unset] [(.int (4 : Int32)), (.int (0 : Int32)), (.ref a_9), (.int (0 : Int32)), (.ref b)])) rfl (by rw [hml]; rfl) (argsL := [(.ref b), (.int (0 : Int32)), (.ref a_9), (.int (0 : Int32)), (.int (4 : Int32))]) (rest := []) (lenOf pd_39 rfl) rfl (by show 2 * 0 + _ ≤ _; exact Nat.le_of_eq rfl) (hb hby d1_9) (fun _ _ => ⟨rfl, e_5, (by decide : 1 + 0 ≤ _), (by decide : 4 + 0 ≤ _)⟩)
  dsimp only [Pt.U, Pt.locs, Pt.cells, Pt.slots] at X_15 l_15 y_15 z_15 st_15 hQ_15
  subst l_15 y_15 z_15
  obtain ⟨rfl, N_16, K_17, g_18⟩ := hQ_15
  have N_19 := Fr.app N0 N_16
  have C_20 : Steps p.tables e below S0 (T_15.setTop (mkF m 58 #[.val (.ref b), .val (.int (0 : Int32)), .val (.int (4 : Int32)), .val (.ref a_9), .val (.int (4 : Int32)), .unset] [(.ref a_9)])) := by
    refine C0.trans ?_
    refine XS.iloadN X0.here hx rfl (hb hby d1_0) rfl ?_
    refine st_8 _ ?_
    refine XS.astoreN X_4.here hx rfl (hb hby d1_3) rfl rfl (l' := #[.val (.ref b), .val (.int (0 : Int32)), .val (.int (4 : Int32)), .val (.ref a_9), .unset, .unset]) rfl ?_
    refine XS.aloadN X_4.here hx rfl (hb hby d1_4) rfl rfl ?_
    refine XS.iloadN X_4.here hx rfl (hb hby d1_5) rfl ?_
    refine XS.aloadN X_4.here hx rfl (hb hby d1_6) rfl rfl ?_
    refine XS.iconst X_4.here hx rfl (hb hby d1_7) ?_
    refine XS.iloadN X_4.here hx rfl (hb hby d1_8) rfl ?_
    show Steps p.tables e below (T_1.setTop (mkF m 9 #[.val (.ref b), .val (.int (0 : Int32)), .val (.int (4 : Int32)), .val (.ref a_9), .unset, .unset] [(.int (4 : Int32)), (.int (0 : Int32)), (.ref a_9), (.int (0 : Int32)), (.ref b)])) _
    refine st_15 _ ?_
    refine XS.istore X_15.here hx rfl (hb hby d1_12) rfl (l' := #[.val (.ref b), .val (.int (0 : Int32)), .val (.int (4 : Int32)), .val (.ref a_9), .val (.int (4 : Int32)), .unset]) rfl ?_
    refine XS.iload X_15.here hx rfl (hb hby d1_14) rfl ?_
    refine XS.iloadN X_15.here hx rfl (hb hby d1_16) rfl ?_
    refine XS.icmpYes X_15.here hx rfl (pc0 := 17) (pc' := 57) rfl (hb hby d1_17) rfl (by decide) (by decide) (by decide) ?_
    refine XS.aloadN X_15.here hx rfl (hb hby d1_57) rfl rfl ?_
    exact Steps.refl _
  have K_21 : Keep h0 T_15.heap [] := (((Keep.refl _ _).ext E_6).trans K_17 (allS (Or.inr (Nat.le_trans (Nat.le_refl _) (Nat.le_of_eq g_10.symm))) all0))
  obtain ⟨fs, hr, hrun, hended, hW, hsame⟩ := X_15.leave (v := some (.ref a_9)) (fun h => by rw [Bd.returns] at h; cases h)
  refine ⟨_, _, C_20.trans (retOut X_15 hx Bd.returns rfl (Or.inr (Or.inr (Or.inr (Or.inr ⟨rfl, rfl, rfl⟩)))) (hb hby d1_58) hr), hrun, hended, _, _, rfl, ?_, ⟨_, rfl⟩, hW, hsame.mono (by decide) (by decide)⟩
  show Q_cmp3_4 Z G1 sI sL sT sC sU dZ iE b k c0 c1 c2 c3 h0 n0 (some (.ref a_9)) T_15.heap _
  exact ⟨a_9, k_3, rfl, N_19, K_21, (Nat.le_trans (Nat.le_refl _) (Nat.le_of_eq g_10.symm)), g_18⟩
abbrev M49 : MethodName := ⟨"java/lang/StringUTF16", "coderFromArrayLen", "([BI)B"⟩
theorem ef_50 (m : MethodId) (x0 : Addr) (x1 : Int32) : entryFrame m #[(.ref x0), (.int x1)] 2 = mkF m 0 #[.val (.ref x0), .val (.int x1)] [] := by first | (simp [entryFrame, mkF, argsToLocals, Value.category]; done) | rfl
theorem d2_0 : decode jdk_52_method_15_code 0 = .ok (.iload_n 1, 1) := by decide +kernel
theorem d2_1 : decode jdk_52_method_15_code 1 = .ok (.aload_n 0, 1) := by decide +kernel
theorem d2_2 : decode jdk_52_method_15_code 2 = .ok (.arraylength, 1) := by decide +kernel
theorem d2_3 : decode jdk_52_method_15_code 3 = .ok (.isub, 1) := by decide +kernel
theorem d2_4 : decode jdk_52_method_15_code 4 = .ok (.bipush 31, 2) := by decide +kernel
theorem d2_6 : decode jdk_52_method_15_code 6 = .ok (.iushr, 1) := by decide +kernel
theorem d2_7 : decode jdk_52_method_15_code 7 = .ok (.i2b, 1) := by decide +kernel
theorem d2_8 : decode jdk_52_method_15_code 8 = .ok (.ireturn, 1) := by decide +kernel
abbrev R_codl_4 : Room := { frames := 0, cells := 0, slots := 0, locals := 0 }
def Q_codl_4 (Z : State) (G1 : Int32) (sI : Addr) (sL : Addr) (sT : Addr) (sC : Addr) (sU : Addr) (dZ : Addr) (iE : Addr) (t : Addr) (kt : ClassId) (y0 : Int32) (y1 : Int32) (y2 : Int32) (y3 : Int32) (h0 : Heap) (n0 : Nat) (v : Option Value) (h : Heap) (L : List Loc) : Prop := (v = some (.int (0 : Int32)) ∧ Fr n0 L ∧ h = h0)
set_option maxRecDepth 65536 in
set_option maxHeartbeats 40000000 in
theorem rm_codl_4 (l : Launch) (Z : State) (a0 : Array Value) (hw : ∀ d ∈ tables_1, d.before a0 Z = true) (ws : List Jvm.Cond) (G1 : Int32) (sI : Addr) (sL : Addr) (sT : Addr) (sC : Addr) (sU : Addr) (dZ : Addr) (iE : Addr) (HG : own_G l Z a0 G1 sI sL sT sC sU dZ iE) (h0 : Heap) (n0 : Nat) (X00 : Old Z n0 h0) (t : Addr) (kt : ClassId) (y0 : Int32) (y1 : Int32) (y2 : Int32) (y3 : Int32) (hp0 : Arv Z h0 t kt .byte (4 : Int32) [(.int y0), (.int y1), (.int y2), (.int y3)] (.int (0 : Int32))) :
    own_CP l Z M49 jdk_52_method_15_code 2 (some .byte) ws R_codl_4 #[(.ref t), (.int (4 : Int32))] h0 (Q_codl_4 Z G1 sI sL sT sC sU dZ iE t kt y0 y1 y2 y3 h0 n0) := by
  refine own_P (plainFor_of_name pn_2) ?_
  intro p e s m below meth c s₁ S0 Bd hZ hh hx hby hml hown hnm X0 e0 hS0d
  obtain ⟨O1, P1, OsI, OsL, OsT, OsC, OsU, NsL, NsT, NsC, NsU, OZ, EZ, FZ1, FZ2, OE, EE, FE1, FE2⟩ := id HG
  have N0 := Fr.nil n0
  have C0 : Steps p.tables e below S0 (s₁.setTop (mkF m 0 #[.val (.ref t), .val (.int (4 : Int32))] [])) := by rw [hS0d]; exact castTop (ef_50 m t (4 : Int32)) (Steps.refl _)
  obtain ⟨c_1, A_2, q_3, S_4, M_5, H_6, U_7⟩ := id hp0
  have C_8 : Steps p.tables e below S0 (s₁.setTop (mkF m 8 #[.val (.ref t), .val (.int (4 : Int32))] [(.int (0 : Int32))])) := by
    refine C0.trans ?_
    refine XS.iloadN X0.here hx rfl (hb hby d2_0) rfl ?_
    refine XS.aloadN X0.here hx rfl (hb hby d2_1) rfl rfl ?_
    refine X0.arraylength hx (by rw [e0]; exact A_2.1) (State.isArrayOf_alike hZ.alike A_2.2.1) (g := (mkF m 2 #[.val (.ref t), .val (.int (4 : Int32))] [(.ref t), (.int (4 : Int32))])) rfl rfl (hb hby d2_2) _ ?_
    rw [len_of S_4 M_5]
    refine XS.isub X0.here hx rfl (hb hby d2_3) rfl ?_
    refine XS.bipush X0.here hx rfl (hb hby d2_4) ?_
    refine XS.iushr X0.here hx rfl (hb hby d2_6) rfl ?_
    refine XS.i2b X0.here hx rfl (hb hby d2_7) rfl ?_
    exact Steps.refl _
  obtain ⟨fs, hr, hrun, hended, hW, hsame⟩ := X0.leave (v := some (.int (0 : Int32))) (fun h => by rw [Bd.returns] at h; cases h)
  refine ⟨_, _, C_8.trans (retN X0 hx (t := .byte) Bd.returns (by simp) (hb hby d2_8) hr), hrun, hended, _, _, rfl, ?_, ⟨_, rfl⟩, hW, hsame.mono (by decide) (by decide)⟩
  show Q_codl_4 Z G1 sI sL sT sC sU dZ iE t kt y0 y1 y2 y3 h0 n0 (some (.int (0 : Int32))) s₁.heap _
  rw [e0]
  exact ⟨rfl, N0, rfl⟩
abbrev M59 : MethodName := ⟨"java/lang/String", "<init>", "([CIILjava/lang/Void;)V"⟩
theorem ef_60 (m : MethodId) (x0 : Addr) (x1 : Addr) (x2 : Int32) (x3 : Int32) : entryFrame m #[(.ref x0), (.ref x1), (.int x2), (.int x3), .null] 6 = mkF m 0 #[.val (.ref x0), .val (.ref x1), .val (.int x2), .val (.int x3), .val .null, .unset] [] := by first | (simp [entryFrame, mkF, argsToLocals, Value.category]; done) | rfl
theorem pn_61 : plainName "java/lang/String" = true := by first | (simp [plainName, overriddenIn]; done) | decide +kernel
theorem d3_0 : decode jdk_42_method_149_code 0 = .ok (.aload_n 0, 1) := by decide +kernel
theorem w19 {Z : State} {a0 : Array Value} (hw : ∀ d ∈ tables_1, d.before a0 Z = true) : Jvm.Cond.before (Jvm.Cond.methodLink "java/lang/String" (1 : Nat) ({ cls := "java/lang/Object", name := "<init>", desc := "()V" } : Jvm.MethodName)) a0 Z = true := hw _ (List.mem_of_getElem? (i := 19) rfl)
theorem w20 {Z : State} {a0 : Array Value} (hw : ∀ d ∈ tables_1, d.before a0 Z = true) : Jvm.Cond.before (Jvm.Cond.instanceMethod ({ cls := "java/lang/Object", name := "<init>", desc := "()V" } : Jvm.MethodName)) a0 Z = true := hw _ (List.mem_of_getElem? (i := 20) rfl)
theorem w21 {Z : State} {a0 : Array Value} (hw : ∀ d ∈ tables_1, d.before a0 Z = true) : Jvm.Cond.before (Jvm.Cond.code ({ cls := "java/lang/Object", name := "<init>", desc := "()V" } : Jvm.MethodName) object_method_1_code (1 : Nat) (Option.none : Option Jvm.ClassFile.FieldType)) a0 Z = true := hw _ (List.mem_of_getElem? (i := 21) rfl)
theorem d3_1 : decode jdk_42_method_149_code 1 = .ok (.invokespecial 1, 3) := by decide +kernel
theorem d3_4 : decode jdk_42_method_149_code 4 = .ok (.iload_n 3, 1) := by decide +kernel
theorem d3_5 : decode jdk_42_method_149_code 5 = .ok (.ifCond .ne 22, 3) := by decide +kernel
theorem w22 {Z : State} {a0 : Array Value} (hw : ∀ d ∈ tables_1, d.before a0 Z = true) : Jvm.Cond.before (Jvm.Cond.fieldLink "java/lang/String" (38 : Nat) "java/lang/String" "COMPACT_STRINGS" "Z") a0 Z = true := hw _ (List.mem_of_getElem? (i := 22) rfl)
theorem d3_27 : decode jdk_42_method_149_code 27 = .ok (.getstatic 38, 3) := by decide +kernel
theorem d3_30 : decode jdk_42_method_149_code 30 = .ok (.ifCond .eq 28, 3) := by decide +kernel
theorem d3_33 : decode jdk_42_method_149_code 33 = .ok (.aload_n 1, 1) := by decide +kernel
theorem d3_34 : decode jdk_42_method_149_code 34 = .ok (.iload_n 2, 1) := by decide +kernel
theorem d3_35 : decode jdk_42_method_149_code 35 = .ok (.iload_n 3, 1) := by decide +kernel
theorem w26 {Z : State} {a0 : Array Value} (hw : ∀ d ∈ tables_1, d.before a0 Z = true) : Jvm.Cond.before (Jvm.Cond.code ({ cls := "java/lang/StringUTF16", name := "compress", desc := "([CII)[B" } : Jvm.MethodName) jdk_52_method_16_code (6 : Nat) (Option.some (Jvm.ClassFile.FieldType.array Jvm.ClassFile.FieldType.byte))) a0 Z = true := hw _ (List.mem_of_getElem? (i := 26) rfl)
theorem pd_76 : parseMethodDescriptor "([CII)[B" = some ⟨[(.array .char), .int, .int], some (.array .byte)⟩ := by decide +kernel
theorem d3_36 : decode jdk_42_method_149_code 36 = .ok (.invokestatic 177, 3) := by decide +kernel
theorem w23 {Z : State} {a0 : Array Value} (hw : ∀ d ∈ tables_1, d.before a0 Z = true) : Jvm.Cond.before (Jvm.Cond.methodLink "java/lang/String" (177 : Nat) ({ cls := "java/lang/StringUTF16", name := "compress", desc := "([CII)[B" } : Jvm.MethodName)) a0 Z = true := hw _ (List.mem_of_getElem? (i := 23) rfl)
theorem w24 {Z : State} {a0 : Array Value} (hw : ∀ d ∈ tables_1, d.before a0 Z = true) : Jvm.Cond.before (Jvm.Cond.static ({ cls := "java/lang/StringUTF16", name := "compress", desc := "([CII)[B" } : Jvm.MethodName)) a0 Z = true := hw _ (List.mem_of_getElem? (i := 24) rfl)
theorem d3_39 : decode jdk_42_method_149_code 39 = .ok (.astore 5, 2) := by decide +kernel
theorem d3_41 : decode jdk_42_method_149_code 41 = .ok (.aload_n 0, 1) := by decide +kernel
theorem d3_42 : decode jdk_42_method_149_code 42 = .ok (.aload 5, 2) := by decide +kernel
theorem d3_44 : decode jdk_42_method_149_code 44 = .ok (.iload_n 3, 1) := by decide +kernel
theorem w33 {Z : State} {a0 : Array Value} (hw : ∀ d ∈ tables_1, d.before a0 Z = true) : Jvm.Cond.before (Jvm.Cond.code ({ cls := "java/lang/StringUTF16", name := "coderFromArrayLen", desc := "([BI)B" } : Jvm.MethodName) jdk_52_method_15_code (2 : Nat) (Option.some Jvm.ClassFile.FieldType.byte)) a0 Z = true := hw _ (List.mem_of_getElem? (i := 33) rfl)
theorem pd_85 : parseMethodDescriptor "([BI)B" = some ⟨[(.array .byte), .int], some .byte⟩ := by decide +kernel
theorem d3_45 : decode jdk_42_method_149_code 45 = .ok (.invokestatic 47, 3) := by decide +kernel
theorem w31 {Z : State} {a0 : Array Value} (hw : ∀ d ∈ tables_1, d.before a0 Z = true) : Jvm.Cond.before (Jvm.Cond.methodLink "java/lang/String" (47 : Nat) ({ cls := "java/lang/StringUTF16", name := "coderFromArrayLen", desc := "([BI)B" } : Jvm.MethodName)) a0 Z = true := hw _ (List.mem_of_getElem? (i := 31) rfl)
theorem w32 {Z : State} {a0 : Array Value} (hw : ∀ d ∈ tables_1, d.before a0 Z = true) : Jvm.Cond.before (Jvm.Cond.static ({ cls := "java/lang/StringUTF16", name := "coderFromArrayLen", desc := "([BI)B" } : Jvm.MethodName)) a0 Z = true := hw _ (List.mem_of_getElem? (i := 32) rfl)
theorem w34 {Z : State} {a0 : Array Value} (hw : ∀ d ∈ tables_1, d.before a0 Z = true) : Jvm.Cond.before (Jvm.Cond.fieldLink "java/lang/String" (15 : Nat) "java/lang/String" "coder" "B") a0 Z = true := hw _ (List.mem_of_getElem? (i := 34) rfl)
theorem w35 {Z : State} {a0 : Array Value} (hw : ∀ d ∈ tables_1, d.before a0 Z = true) : Jvm.Cond.before (Jvm.Cond.laysFinal "java/lang/String" "java/lang/String" "coder" "B") a0 Z = true := hw _ (List.mem_of_getElem? (i := 35) rfl)
theorem w10 {Z : State} {a0 : Array Value} (hw : ∀ d ∈ tables_1, d.before a0 Z = true) : Jvm.Cond.before (Jvm.Cond.instantiable "java/lang/String" (4 : Nat)) a0 Z = true := hw _ (List.mem_of_getElem? (i := 10) rfl)
theorem d3_48 : decode jdk_42_method_149_code 48 = .ok (.putfield 15, 3) := by decide +kernel
theorem d3_51 : decode jdk_42_method_149_code 51 = .ok (.aload_n 0, 1) := by decide +kernel
theorem d3_52 : decode jdk_42_method_149_code 52 = .ok (.aload 5, 2) := by decide +kernel
theorem w36 {Z : State} {a0 : Array Value} (hw : ∀ d ∈ tables_1, d.before a0 Z = true) : Jvm.Cond.before (Jvm.Cond.fieldLink "java/lang/String" (9 : Nat) "java/lang/String" "value" "[B") a0 Z = true := hw _ (List.mem_of_getElem? (i := 36) rfl)
theorem w37 {Z : State} {a0 : Array Value} (hw : ∀ d ∈ tables_1, d.before a0 Z = true) : Jvm.Cond.before (Jvm.Cond.laysFinal "java/lang/String" "java/lang/String" "value" "[B") a0 Z = true := hw _ (List.mem_of_getElem? (i := 37) rfl)
theorem d3_54 : decode jdk_42_method_149_code 54 = .ok (.putfield 9, 3) := by decide +kernel
theorem d3_57 : decode jdk_42_method_149_code 57 = .ok (.return_, 1) := by decide +kernel
abbrev R_si4_4 : Room := { frames := 2, cells := 1, slots := 4, locals := 35 }
def Q_si4_4 (Z : State) (G1 : Int32) (sI : Addr) (sL : Addr) (sT : Addr) (sC : Addr) (sU : Addr) (dZ : Addr) (iE : Addr) (x : Addr) (b : Addr) (k : ClassId) (c0 : Int32) (c1 : Int32) (c2 : Int32) (c3 : Int32) (h0 : Heap) (n0 : Nat) (v : Option Value) (h : Heap) (L : List Loc) : Prop := (∃ t : Addr, ∃ kt : ClassId, v = none ∧ Fr n0 L ∧ Keep h0 h [x] ∧ (Exa Z h x "java/lang/String") ∧ (Fld Z h x "java/lang/String" "coder" "B" (.int (0 : Int32))) ∧ (Fld Z h x "java/lang/String" "value" "[B" (.ref t)) ∧ (h0.size ≤ t) ∧ (Arv Z h t kt .byte (4 : Int32) [(.int (own_lo8 c0)), (.int (own_lo8 c1)), (.int (own_lo8 c2)), (.int (own_lo8 c3))] (.int (0 : Int32))))
set_option maxRecDepth 65536 in
set_option maxHeartbeats 40000000 in
theorem rm_si4_4 (l : Launch) (Z : State) (a0 : Array Value) (hw : ∀ d ∈ tables_1, d.before a0 Z = true) (ws : List Jvm.Cond) (G1 : Int32) (sI : Addr) (sL : Addr) (sT : Addr) (sC : Addr) (sU : Addr) (dZ : Addr) (iE : Addr) (HG : own_G l Z a0 G1 sI sL sT sC sU dZ iE) (h0 : Heap) (n0 : Nat) (X00 : Old Z n0 h0) (x : Addr) (b : Addr) (k : ClassId) (c0 : Int32) (c1 : Int32) (c2 : Int32) (c3 : Int32) (hp0 : Exa Z h0 x "java/lang/String") (hp1 : Fld Z h0 x "java/lang/String" "value" "[B" .null) (hp2 : Fld Z h0 x "java/lang/String" "coder" "B" (.int (0 : Int32))) (hp3 : n0 ≤ x) (hp4 : Arv Z h0 b k .char (4 : Int32) [(.int c0), (.int c1), (.int c2), (.int c3)] (.int (0 : Int32))) (hh0 : ¬ ((255 : Int32) < c0)) (hh1 : ¬ ((255 : Int32) < c1)) (hh2 : ¬ ((255 : Int32) < c2)) (hh3 : ¬ ((255 : Int32) < c3)) :
    own_CP l Z M59 jdk_42_method_149_code 6 none ws R_si4_4 #[(.ref x), (.ref b), (.int (0 : Int32)), (.int (4 : Int32)), .null] h0 (Q_si4_4 Z G1 sI sL sT sC sU dZ iE x b k c0 c1 c2 c3 h0 n0) := by
  refine own_P (plainFor_of_name pn_61) ?_
  intro p e s m below meth c s₁ S0 Bd hZ hh hx hby hml hown hnm X0 e0 hS0d
  obtain ⟨O1, P1, OsI, OsL, OsT, OsC, OsU, NsL, NsT, NsC, NsU, OZ, EZ, FZ1, FZ2, OE, EE, FE1, FE2⟩ := id HG
  have N0 := Fr.nil n0
  have C0 : Steps p.tables e below S0 (s₁.setTop (mkF m 0 #[.val (.ref x), .val (.ref b), .val (.int (0 : Int32)), .val (.int (4 : Int32)), .val .null, .unset] [])) := by rw [hS0d]; exact castTop (ef_60 m x b (0 : Int32) (4 : Int32)) (Steps.refl _)
  obtain ⟨T_1, X_2, e_3, st_4⟩ := initO X0 hx hZ hown (w19 hw) (w20 hw) (w21 hw) e0 (g := (mkF m 1 #[.val (.ref x), .val (.ref b), .val (.int (0 : Int32)), .val (.int (4 : Int32)), .val .null, .unset] [(.ref x)])) rfl (by rw [hml]; rfl) rfl (hb hby d3_1) (by decide) (W := 0) (by show 2 * 0 + _ ≤ _; exact Nat.le_of_eq rfl) (by decide)
  obtain ⟨T_5, X_6, e_7, st_8⟩ := getS X_2 hx hZ (host := "") hown (w22 hw) Via.refl e_3 (O1.ext X00.2) (g := (mkF m 27 #[.val (.ref x), .val (.ref b), .val (.int (0 : Int32)), .val (.int (4 : Int32)), .val .null, .unset] [])) rfl (hb hby d3_27)
  obtain ⟨_, _, ⟨T_9, L_9, k_9, n_9⟩, -, X_9, ⟨Lc_9, hQ_9, l_9, y_9, z_9⟩, st_9⟩ := Jvm.LawKit.callS X_6 hx (y := M26) hown (mvT hZ (w23 hw)) (mvT hZ (w24 hw)) (mvT hZ (w25 hw)) (mvT hZ (w26 hw)) (by decide) (backOf (W := 0) (rm_cmp3_4 l Z a0 hw [] G1 sI sL sT sC sU dZ iE HG h0 n0 X00 b k c0 c1 c2 c3 hp4 hh0 hh1 hh2 hh3) hZ (w26 hw) (w25 hw) (by decide) (by decide)) (g := (mkF m 36 #[.val (.ref x), .val (.ref b), .val (.int (0 : Int32)), .val (.int (4 : Int32)), .val .null, .unset] [(.int (4 : Int32)), (.int (0 : Int32)), (.ref b)])) rfl (by rw [hml]; rfl) (argsL := [(.ref b), (.int (0 : Int32)), (.int (4 : Int32))]) (rest := []) (lenOf pd_76 rfl) rfl (by show 2 * 0 + _ ≤ _; exact Nat.le_of_eq rfl) (hb hby d3_36) (fun _ _ => ⟨rfl, e_7, (by decide : 0 + 1 ≤ _), (by decide : 0 + 4 ≤ _)⟩)
  dsimp only [Pt.U, Pt.locs, Pt.cells, Pt.slots] at X_9 l_9 y_9 z_9 st_9 hQ_9
  subst l_9 y_9 z_9
  obtain ⟨a_10, k_11, rfl, N_12, K_13, g_14, g_15⟩ := hQ_9
  have N_16 := Fr.app N0 N_12
  have O_17 : Old Z n0 T_9.heap := (X00.keep K_13 all0)
  obtain ⟨_, _, ⟨T_18, L_18, k_18, n_18⟩, -, X_18, ⟨Lc_18, hQ_18, l_18, y_18, z_18⟩, st_18⟩ := Jvm.LawKit.callS X_9 hx (y := M49) hown (mvT hZ (w31 hw)) (mvT hZ (w32 hw)) (mvT hZ (w25 hw)) (mvT hZ (w33 hw)) (by decide) (backOf (W := 1) (rm_codl_4 l Z a0 hw [] G1 sI sL sT sC sU dZ iE HG T_9.heap n0 O_17 a_10 k_11 (own_lo8 c0) (own_lo8 c1) (own_lo8 c2) (own_lo8 c3) g_15) hZ (w33 hw) (w25 hw) (by decide) (by decide)) (g := (mkF m 45 #[.val (.ref x), .val (.ref b), .val (.int (0 : Int32)), .val (.int (4 : Int32)), .val .null, .val (.ref a_10)] [(.int (4 : Int32)), (.ref a_10), (.ref x)])) rfl (by rw [hml]; rfl) (argsL := [(.ref a_10), (.int (4 : Int32))]) (rest := [(.ref x)]) (lenOf pd_85 rfl) rfl (by show 2 * 0 + _ ≤ _; exact Nat.le_of_eq rfl) (hb hby d3_45) (fun _ _ => ⟨rfl, rfl, (by decide : 1 + 0 ≤ _), (by decide : 4 + 0 ≤ _)⟩)
  dsimp only [Pt.U, Pt.locs, Pt.cells, Pt.slots] at X_18 l_18 y_18 z_18 st_18 hQ_18
  subst l_18 y_18 z_18
  obtain ⟨rfl, N_19, e_20⟩ := hQ_18
  have N_21 := Fr.app N_16 N_19
  have e_22 : T_18.heap = T_9.heap := e_20
  have F_23 : Fld Z T_9.heap x "java/lang/String" "coder" "B" (.int (0 : Int32)) := (hp2.keep K_13 nin0)
  have E_24 : Exa Z T_9.heap x "java/lang/String" := (hp0.keep K_13)
  obtain ⟨T_25, h_26, X_27, e_28, W_29, st_30⟩ := putF X_18 hx hZ hown (host := "") (Or.inl (w34 hw)) Via.refl e_22 F_23 E_24 (Or.inr ⟨(w35 hw), rfl, hnm⟩) (w10 hw) (ty := .byte) (by decide) rfl (by decide) (g := (mkF m 48 #[.val (.ref x), .val (.ref b), .val (.int (0 : Int32)), .val (.int (4 : Int32)), .val .null, .val (.ref a_10)] [(.int (0 : Int32)), (.ref x)])) rfl rfl (hb hby d3_48)
  have N_31 := Fr.snoc X_27 N_21 hp3
  have F_32 : Fld Z h_26 x "java/lang/String" "coder" "B" (.int (0 : Int32)) := F_23.same W_29
  have F_33 : Fld Z h_26 x "java/lang/String" "value" "[B" .null := ((hp1.keep K_13 nin0).other W_29 (Or.inr (slot_ne (Or.inr (w37 hw)) (Or.inr (w35 hw)) (by decide) (t := (.array .byte)) (by decide) (t' := .byte) (by decide))))
  have E_34 : Exa Z h_26 x "java/lang/String" := (E_24.wr W_29)
  obtain ⟨T_35, h_36, X_37, e_38, W_39, st_40⟩ := putF X_27 hx hZ hown (host := "") (Or.inl (w36 hw)) Via.refl e_28 F_33 E_34 (Or.inr ⟨(w37 hw), rfl, hnm⟩) (w10 hw) (ty := (.array .byte)) (by decide) rfl rfl (g := (mkF m 54 #[.val (.ref x), .val (.ref b), .val (.int (0 : Int32)), .val (.int (4 : Int32)), .val .null, .val (.ref a_10)] [(.ref a_10), (.ref x)])) rfl rfl (hb hby d3_54)
  have N_41 := Fr.snoc X_37 N_31 hp3
  have F_42 : Fld Z h_36 x "java/lang/String" "value" "[B" (.ref a_10) := F_33.same W_39
  have C_43 : Steps p.tables e below S0 (T_35.setTop (mkF m 57 #[.val (.ref x), .val (.ref b), .val (.int (0 : Int32)), .val (.int (4 : Int32)), .val .null, .val (.ref a_10)] [])) := by
    refine C0.trans ?_
    refine XS.aloadN X0.here hx rfl (hb hby d3_0) rfl rfl ?_
    refine st_4 _ ?_
    refine XS.iloadN X_2.here hx rfl (hb hby d3_4) rfl ?_
    refine XS.ifYes X_2.here hx rfl (pc0 := 5) (pc' := 27) rfl (hb hby d3_5) rfl (by decide) (by decide) (by decide) ?_
    refine st_8 _ ?_
    refine XS.ifNo X_6.here hx rfl (hb hby d3_30) rfl (i0_eq_f P1) ?_
    refine XS.aloadN X_6.here hx rfl (hb hby d3_33) rfl rfl ?_
    refine XS.iloadN X_6.here hx rfl (hb hby d3_34) rfl ?_
    show Steps p.tables e below (T_5.setTop (mkF m 35 #[.val (.ref x), .val (.ref b), .val (.int (0 : Int32)), .val (.int (4 : Int32)), .val .null, .unset] [(.int (0 : Int32)), (.ref b)])) _
    refine XS.iloadN X_6.here hx rfl (hb hby d3_35) rfl ?_
    refine st_9 _ ?_
    refine XS.astore X_9.here hx rfl (hb hby d3_39) rfl rfl (l' := #[.val (.ref x), .val (.ref b), .val (.int (0 : Int32)), .val (.int (4 : Int32)), .val .null, .val (.ref a_10)]) rfl ?_
    refine XS.aloadN X_9.here hx rfl (hb hby d3_41) rfl rfl ?_
    refine XS.aload X_9.here hx rfl (hb hby d3_42) rfl rfl ?_
    refine XS.iloadN X_9.here hx rfl (hb hby d3_44) rfl ?_
    refine st_18 _ ?_
    refine st_30 _ ?_
    show Steps p.tables e below (T_25.setTop (mkF m 51 #[.val (.ref x), .val (.ref b), .val (.int (0 : Int32)), .val (.int (4 : Int32)), .val .null, .val (.ref a_10)] [])) _
    refine XS.aloadN X_27.here hx rfl (hb hby d3_51) rfl rfl ?_
    refine XS.aload X_27.here hx rfl (hb hby d3_52) rfl rfl ?_
    refine st_40 _ ?_
    exact Steps.refl _
  have E_44 : Exa Z h_36 x "java/lang/String" := (E_34.wr W_39)
  have F_45 : Fld Z h_36 x "java/lang/String" "coder" "B" (.int (0 : Int32)) := (F_32.other W_39 (Or.inr (slot_ne (Or.inr (w35 hw)) (Or.inr (w37 hw)) (by decide) (t := .byte) (by decide) (t' := (.array .byte)) (by decide))))
  have V_46 : Arv Z h_36 a_10 k_11 .byte (4 : Int32) [(.int (own_lo8 c0)), (.int (own_lo8 c1)), (.int (own_lo8 c2)), (.int (own_lo8 c3))] (.int (0 : Int32)) := ((g_15.other W_29 (Ne.symm (Nat.ne_of_lt (Nat.lt_of_lt_of_le hp0.lt (Nat.le_trans (Nat.le_refl _) g_14))))).other W_39 (Ne.symm (Nat.ne_of_lt (Nat.lt_of_lt_of_le hp0.lt (Nat.le_trans (Nat.le_refl _) g_14)))))
  have K_47 : Keep h0 h_36 [x] := ((((Keep.refl _ _).trans K_13 all0).wr W_29 (Or.inl (List.mem_of_getElem? (i := 0) rfl))).wr W_39 (Or.inl (List.mem_of_getElem? (i := 0) rfl)))
  obtain ⟨fs, hr, hrun, hended, hW, hsame⟩ := X_37.leave (v := none) (fun _ => rfl)
  refine ⟨_, _, C_43.trans (X_37.returnOut hx Bd.returns (hb hby d3_57) hr), hrun, hended, _, _, rfl, ?_, ⟨_, rfl⟩, hW, hsame.mono (by decide) (by decide)⟩
  show Q_si4_4 Z G1 sI sL sT sC sU dZ iE x b k c0 c1 c2 c3 h0 n0 (none) T_35.heap _
  rw [e_38]
  exact ⟨a_10, k_11, rfl, N_41, K_47, E_44, F_45, F_42, (Nat.le_trans (Nat.le_refl _) g_14), V_46⟩
abbrev M99 : MethodName := ⟨"java/lang/String", "<init>", "([C)V"⟩
theorem ef_100 (m : MethodId) (x0 : Addr) (x1 : Addr) : entryFrame m #[(.ref x0), (.ref x1)] 2 = mkF m 0 #[.val (.ref x0), .val (.ref x1)] [] := by first | (simp [entryFrame, mkF, argsToLocals, Value.category]; done) | rfl
theorem d4_0 : decode jdk_42_method_3_code 0 = .ok (.aload_n 0, 1) := by decide +kernel
theorem d4_1 : decode jdk_42_method_3_code 1 = .ok (.aload_n 1, 1) := by decide +kernel
theorem d4_2 : decode jdk_42_method_3_code 2 = .ok (.iconst 0, 1) := by decide +kernel
theorem d4_3 : decode jdk_42_method_3_code 3 = .ok (.aload_n 1, 1) := by decide +kernel
theorem d4_4 : decode jdk_42_method_3_code 4 = .ok (.arraylength, 1) := by decide +kernel
theorem d4_5 : decode jdk_42_method_3_code 5 = .ok (.aconst_null, 1) := by decide +kernel
theorem w18 {Z : State} {a0 : Array Value} (hw : ∀ d ∈ tables_1, d.before a0 Z = true) : Jvm.Cond.before (Jvm.Cond.code ({ cls := "java/lang/String", name := "<init>", desc := "([CIILjava/lang/Void;)V" } : Jvm.MethodName) jdk_42_method_149_code (6 : Nat) (Option.none : Option Jvm.ClassFile.FieldType)) a0 Z = true := hw _ (List.mem_of_getElem? (i := 18) rfl)
theorem w11 {Z : State} {a0 : Array Value} (hw : ∀ d ∈ tables_1, d.before a0 Z = true) : Jvm.Cond.before (Jvm.Cond.initialized "java/lang/String") a0 Z = true := hw _ (List.mem_of_getElem? (i := 11) rfl)
theorem pd_109 : parseMethodDescriptor "([CIILjava/lang/Void;)V" = some ⟨[(.array .char), .int, .int, (.object "java/lang/Void")], none⟩ := by decide +kernel
theorem d4_6 : decode jdk_42_method_3_code 6 = .ok (.invokespecial 27, 3) := by decide +kernel
theorem w15 {Z : State} {a0 : Array Value} (hw : ∀ d ∈ tables_1, d.before a0 Z = true) : Jvm.Cond.before (Jvm.Cond.methodLink "java/lang/String" (27 : Nat) ({ cls := "java/lang/String", name := "<init>", desc := "([CIILjava/lang/Void;)V" } : Jvm.MethodName)) a0 Z = true := hw _ (List.mem_of_getElem? (i := 15) rfl)
theorem w16 {Z : State} {a0 : Array Value} (hw : ∀ d ∈ tables_1, d.before a0 Z = true) : Jvm.Cond.before (Jvm.Cond.instanceMethod ({ cls := "java/lang/String", name := "<init>", desc := "([CIILjava/lang/Void;)V" } : Jvm.MethodName)) a0 Z = true := hw _ (List.mem_of_getElem? (i := 16) rfl)
theorem d4_9 : decode jdk_42_method_3_code 9 = .ok (.return_, 1) := by decide +kernel
abbrev R_si1_4 : Room := { frames := 3, cells := 1, slots := 4, locals := 52 }
def Q_si1_4 (Z : State) (G1 : Int32) (sI : Addr) (sL : Addr) (sT : Addr) (sC : Addr) (sU : Addr) (dZ : Addr) (iE : Addr) (x : Addr) (b : Addr) (k : ClassId) (c0 : Int32) (c1 : Int32) (c2 : Int32) (c3 : Int32) (h0 : Heap) (n0 : Nat) (v : Option Value) (h : Heap) (L : List Loc) : Prop := (∃ t : Addr, ∃ kt : ClassId, v = none ∧ Fr n0 L ∧ Keep h0 h [x] ∧ (Exa Z h x "java/lang/String") ∧ (Fld Z h x "java/lang/String" "coder" "B" (.int (0 : Int32))) ∧ (Fld Z h x "java/lang/String" "value" "[B" (.ref t)) ∧ (h0.size ≤ t) ∧ (Arv Z h t kt .byte (4 : Int32) [(.int (own_lo8 c0)), (.int (own_lo8 c1)), (.int (own_lo8 c2)), (.int (own_lo8 c3))] (.int (0 : Int32))))
set_option maxRecDepth 65536 in
set_option maxHeartbeats 40000000 in
theorem rm_si1_4 (l : Launch) (Z : State) (a0 : Array Value) (hw : ∀ d ∈ tables_1, d.before a0 Z = true) (ws : List Jvm.Cond) (G1 : Int32) (sI : Addr) (sL : Addr) (sT : Addr) (sC : Addr) (sU : Addr) (dZ : Addr) (iE : Addr) (HG : own_G l Z a0 G1 sI sL sT sC sU dZ iE) (h0 : Heap) (n0 : Nat) (X00 : Old Z n0 h0) (x : Addr) (b : Addr) (k : ClassId) (c0 : Int32) (c1 : Int32) (c2 : Int32) (c3 : Int32) (hp0 : Exa Z h0 x "java/lang/String") (hp1 : Fld Z h0 x "java/lang/String" "value" "[B" .null) (hp2 : Fld Z h0 x "java/lang/String" "coder" "B" (.int (0 : Int32))) (hp3 : n0 ≤ x) (hp4 : Arv Z h0 b k .char (4 : Int32) [(.int c0), (.int c1), (.int c2), (.int c3)] (.int (0 : Int32))) (hh0 : ¬ ((255 : Int32) < c0)) (hh1 : ¬ ((255 : Int32) < c1)) (hh2 : ¬ ((255 : Int32) < c2)) (hh3 : ¬ ((255 : Int32) < c3)) :
    own_CP l Z M99 jdk_42_method_3_code 2 none ws R_si1_4 #[(.ref x), (.ref b)] h0 (Q_si1_4 Z G1 sI sL sT sC sU dZ iE x b k c0 c1 c2 c3 h0 n0) := by
  refine own_P (plainFor_of_name pn_61) ?_
  intro p e s m below meth c s₁ S0 Bd hZ hh hx hby hml hown hnm X0 e0 hS0d
  obtain ⟨O1, P1, OsI, OsL, OsT, OsC, OsU, NsL, NsT, NsC, NsU, OZ, EZ, FZ1, FZ2, OE, EE, FE1, FE2⟩ := id HG
  have N0 := Fr.nil n0
  have C0 : Steps p.tables e below S0 (s₁.setTop (mkF m 0 #[.val (.ref x), .val (.ref b)] [])) := by rw [hS0d]; exact castTop (ef_100 m x b) (Steps.refl _)
  obtain ⟨c_1, A_2, q_3, S_4, M_5, H_6, U_7⟩ := id hp4
  obtain ⟨_, _, ⟨T_8, L_8, k_8, n_8⟩, -, X_8, ⟨Lc_8, hQ_8, l_8, y_8, z_8⟩, st_8⟩ := X0.specialBack hx (y := M59) rfl hown (mvT hZ (w15 hw)) (mvT hZ (w16 hw)) (mvT hZ (w18 hw)) (by decide) (backOf (W := 0) (rm_si4_4 l Z a0 hw [] G1 sI sL sT sC sU dZ iE HG h0 n0 X00 x b k c0 c1 c2 c3 hp0 hp1 hp2 hp3 hp4 hh0 hh1 hh2 hh3) hZ (w18 hw) (w11 hw) (by decide) (by decide)) (g := (mkF m 6 #[.val (.ref x), .val (.ref b)] [.null, (.int (4 : Int32)), (.int (0 : Int32)), (.ref b), (.ref x)])) rfl (by rw [hml]; rfl) (Steps.refl _) (a := x) (argsL := [(.ref b), (.int (0 : Int32)), (.int (4 : Int32)), .null]) (rest := []) (lenOf pd_109 rfl) rfl (by show 2 * 0 + _ ≤ _; exact Nat.le_of_eq rfl) (hb hby d4_6) (fun _ _ => ⟨rfl, e0, (by decide : 0 + 1 ≤ _), (by decide : 0 + 4 ≤ _)⟩)
  dsimp only [Pt.U, Pt.locs, Pt.cells, Pt.slots] at X_8 l_8 y_8 z_8 st_8 hQ_8
  subst l_8 y_8 z_8
  obtain ⟨a_9, k_10, rfl, N_11, K_12, g_13, g_14, g_15, g_16, g_17⟩ := hQ_8
  have N_18 := Fr.app N0 N_11
  have C_19 : Steps p.tables e below S0 (T_8.setTop (mkF m 9 #[.val (.ref x), .val (.ref b)] [])) := by
    refine C0.trans ?_
    refine XS.aloadN X0.here hx rfl (hb hby d4_0) rfl rfl ?_
    refine XS.aloadN X0.here hx rfl (hb hby d4_1) rfl rfl ?_
    refine XS.iconst X0.here hx rfl (hb hby d4_2) ?_
    refine XS.aloadN X0.here hx rfl (hb hby d4_3) rfl rfl ?_
    refine X0.arraylength hx (by rw [e0]; exact A_2.1) (State.isArrayOf_alike hZ.alike A_2.2.1) (g := (mkF m 4 #[.val (.ref x), .val (.ref b)] [(.ref b), (.int (0 : Int32)), (.ref b), (.ref x)])) rfl rfl (hb hby d4_4) _ ?_
    rw [len_of S_4 M_5]
    refine XS.aconstNull X0.here hx rfl (hb hby d4_5) ?_
    refine st_8.trans ?_
    exact Steps.refl _
  have K_20 : Keep h0 T_8.heap [x] := ((Keep.refl _ _).trans K_12 (allS (Or.inl (List.mem_of_getElem? (i := 0) rfl)) all0))
  obtain ⟨fs, hr, hrun, hended, hW, hsame⟩ := X_8.leave (v := none) (fun _ => rfl)
  refine ⟨_, _, C_19.trans (X_8.returnOut hx Bd.returns (hb hby d4_9) hr), hrun, hended, _, _, rfl, ?_, ⟨_, rfl⟩, hW, hsame.mono (by decide) (by decide)⟩
  show Q_si1_4 Z G1 sI sL sT sC sU dZ iE x b k c0 c1 c2 c3 h0 n0 (none) T_8.heap _
  exact ⟨a_9, k_10, rfl, N_18, K_20, g_13, g_14, g_15, (Nat.le_trans (Nat.le_refl _) g_16), g_17⟩
abbrev M114 : MethodName := ⟨"java/lang/String", "equals", "(Ljava/lang/Object;)Z"⟩
theorem ef_115 (m : MethodId) (x0 : Addr) (x1 : Addr) : entryFrame m #[(.ref x0), (.ref x1)] 3 = mkF m 0 #[.val (.ref x0), .val (.ref x1), .unset] [] := by first | (simp [entryFrame, mkF, argsToLocals, Value.category]; done) | rfl
theorem d5_0 : decode jdk_42_method_66_code 0 = .ok (.aload_n 0, 1) := by decide +kernel
theorem d5_1 : decode jdk_42_method_66_code 1 = .ok (.aload_n 1, 1) := by decide +kernel
theorem d5_2 : decode jdk_42_method_66_code 2 = .ok (.if_acmp .ne 5, 3) := by decide +kernel
theorem d5_5 : decode jdk_42_method_66_code 5 = .ok (.iconst 1, 1) := by decide +kernel
theorem d5_6 : decode jdk_42_method_66_code 6 = .ok (.ireturn, 1) := by decide +kernel
abbrev R_eqself : Room := { frames := 0, cells := 0, slots := 0, locals := 0 }
def Q_eqself (Z : State) (G1 : Int32) (sI : Addr) (sL : Addr) (sT : Addr) (sC : Addr) (sU : Addr) (dZ : Addr) (iE : Addr) (x : Addr) (h0 : Heap) (n0 : Nat) (v : Option Value) (h : Heap) (L : List Loc) : Prop := (v = some (.int (1 : Int32)) ∧ Fr n0 L ∧ h = h0)
set_option maxRecDepth 65536 in
set_option maxHeartbeats 40000000 in
theorem rm_eqself (l : Launch) (Z : State) (a0 : Array Value) (hw : ∀ d ∈ tables_1, d.before a0 Z = true) (ws : List Jvm.Cond) (G1 : Int32) (sI : Addr) (sL : Addr) (sT : Addr) (sC : Addr) (sU : Addr) (dZ : Addr) (iE : Addr) (HG : own_G l Z a0 G1 sI sL sT sC sU dZ iE) (h0 : Heap) (n0 : Nat) (X00 : Old Z n0 h0) (x : Addr)  :
    own_CP l Z M114 jdk_42_method_66_code 3 (some .boolean) ws R_eqself #[(.ref x), (.ref x)] h0 (Q_eqself Z G1 sI sL sT sC sU dZ iE x h0 n0) := by
  refine own_P (plainFor_of_name pn_61) ?_
  intro p e s m below meth c s₁ S0 Bd hZ hh hx hby hml hown hnm X0 e0 hS0d
  obtain ⟨O1, P1, OsI, OsL, OsT, OsC, OsU, NsL, NsT, NsC, NsU, OZ, EZ, FZ1, FZ2, OE, EE, FE1, FE2⟩ := id HG
  have N0 := Fr.nil n0
  have C0 : Steps p.tables e below S0 (s₁.setTop (mkF m 0 #[.val (.ref x), .val (.ref x), .unset] [])) := by rw [hS0d]; exact castTop (ef_115 m x x) (Steps.refl _)
  have C_1 : Steps p.tables e below S0 (s₁.setTop (mkF m 6 #[.val (.ref x), .val (.ref x), .unset] [(.int (1 : Int32))])) := by
    refine C0.trans ?_
    refine XS.aloadN X0.here hx rfl (hb hby d5_0) rfl rfl ?_
    refine XS.aloadN X0.here hx rfl (hb hby d5_1) rfl rfl ?_
    refine acmp X0 hx rfl (cd := .ne) (x := (.ref x)) (y := (.ref x)) rfl rfl (same := true) (pc0 := 2) (pc' := 5) rfl (hb hby d5_2) rfl (decide_eq_true rfl) (by decide) (by decide) ?_
    refine XS.iconst X0.here hx rfl (hb hby d5_5) ?_
    exact Steps.refl _
  obtain ⟨fs, hr, hrun, hended, hW, hsame⟩ := X0.leave (v := some (.int (1 : Int32))) (fun h => by rw [Bd.returns] at h; cases h)
  refine ⟨_, _, C_1.trans (retN X0 hx (t := .boolean) Bd.returns (by simp) (hb hby d5_6) hr), hrun, hended, _, _, rfl, ?_, ⟨_, rfl⟩, hW, hsame.mono (by decide) (by decide)⟩
  show Q_eqself Z G1 sI sL sT sC sU dZ iE x h0 n0 (some (.int (1 : Int32))) s₁.heap _
  rw [e0]
  exact ⟨rfl, N0, rfl⟩
abbrev M121 : MethodName := ⟨"com/example/expiring_state/expiringstate/IssueResultOfPinLaw", "pick", "(I)Lcom/example/expiring_state/expiringstate/OneTimeCodes$IssueResult$Status;"⟩
theorem ef_122 (m : MethodId) (x0 : Int32) : entryFrame m #[(.int x0)] 1 = mkF m 0 #[.val (.int x0)] [] := by first | (simp [entryFrame, mkF, argsToLocals, Value.category]; done) | rfl
theorem pn_123 : plainName "com/example/expiring_state/expiringstate/IssueResultOfPinLaw" = true := by first | (simp [plainName, overriddenIn]; done) | decide +kernel
theorem d6_0 : decode method_2_code 0 = .ok (.iload_n 0, 1) := by decide +kernel
theorem d6_1 : decode method_2_code 1 = .ok (.ifCond .ne 7, 3) := by decide +kernel
theorem w5 {Z : State} {a0 : Array Value} (hw : ∀ d ∈ tables_1, d.before a0 Z = true) : Jvm.Cond.before (Jvm.Cond.fieldLink "com/example/expiring_state/expiringstate/IssueResultOfPinLaw" (7 : Nat) "com/example/expiring_state/expiringstate/OneTimeCodes$IssueResult$Status" "ISSUED" "Lcom/example/expiring_state/expiringstate/OneTimeCodes$IssueResult$Status;") a0 Z = true := hw _ (List.mem_of_getElem? (i := 5) rfl)
theorem d6_4 : decode method_2_code 4 = .ok (.getstatic 7, 3) := by decide +kernel
theorem d6_7 : decode method_2_code 7 = .ok (.areturn, 1) := by decide +kernel
abbrev R_pick_0 : Room := { frames := 0, cells := 0, slots := 0, locals := 0 }
def Q_pick_0 (Z : State) (G1 : Int32) (sI : Addr) (sL : Addr) (sT : Addr) (sC : Addr) (sU : Addr) (dZ : Addr) (iE : Addr)  (h0 : Heap) (n0 : Nat) (v : Option Value) (h : Heap) (L : List Loc) : Prop := (v = some (.ref sI) ∧ Fr n0 L ∧ h = h0)
set_option maxRecDepth 65536 in
set_option maxHeartbeats 40000000 in
theorem rm_pick_0 (l : Launch) (Z : State) (a0 : Array Value) (hw : ∀ d ∈ tables_1, d.before a0 Z = true) (ws : List Jvm.Cond) (G1 : Int32) (sI : Addr) (sL : Addr) (sT : Addr) (sC : Addr) (sU : Addr) (dZ : Addr) (iE : Addr) (HG : own_G l Z a0 G1 sI sL sT sC sU dZ iE) (h0 : Heap) (n0 : Nat) (X00 : Old Z n0 h0)   :
    own_CP l Z M121 method_2_code 1 (some (.object "com/example/expiring_state/expiringstate/OneTimeCodes$IssueResult$Status")) ws R_pick_0 #[(.int (0 : Int32))] h0 (Q_pick_0 Z G1 sI sL sT sC sU dZ iE  h0 n0) := by
  refine own_P (plainFor_of_name pn_123) ?_
  intro p e s m below meth c s₁ S0 Bd hZ hh hx hby hml hown hnm X0 e0 hS0d
  obtain ⟨O1, P1, OsI, OsL, OsT, OsC, OsU, NsL, NsT, NsC, NsU, OZ, EZ, FZ1, FZ2, OE, EE, FE1, FE2⟩ := id HG
  have N0 := Fr.nil n0
  have C0 : Steps p.tables e below S0 (s₁.setTop (mkF m 0 #[.val (.int (0 : Int32))] [])) := by rw [hS0d]; exact castTop (ef_122 m (0 : Int32)) (Steps.refl _)
  obtain ⟨T_1, X_2, e_3, st_4⟩ := getS X0 hx hZ (host := "") hown (w5 hw) Via.refl e0 (OsI.ext X00.2) (g := (mkF m 4 #[.val (.int (0 : Int32))] [])) rfl (hb hby d6_4)
  have C_5 : Steps p.tables e below S0 (T_1.setTop (mkF m 7 #[.val (.int (0 : Int32))] [(.ref sI)])) := by
    refine C0.trans ?_
    refine XS.iloadN X0.here hx rfl (hb hby d6_0) rfl ?_
    refine XS.ifNo X0.here hx rfl (hb hby d6_1) rfl (by decide) ?_
    refine st_4 _ ?_
    exact Steps.refl _
  obtain ⟨fs, hr, hrun, hended, hW, hsame⟩ := X_2.leave (v := some (.ref sI)) (fun h => by rw [Bd.returns] at h; cases h)
  refine ⟨_, _, C_5.trans (retOut X_2 hx Bd.returns rfl (Or.inr (Or.inr (Or.inr (Or.inr ⟨rfl, rfl, rfl⟩)))) (hb hby d6_7) hr), hrun, hended, _, _, rfl, ?_, ⟨_, rfl⟩, hW, hsame.mono (by decide) (by decide)⟩
  show Q_pick_0 Z G1 sI sL sT sC sU dZ iE  h0 n0 (some (.ref sI)) T_1.heap _
  rw [e_3]
  exact ⟨rfl, N0, rfl⟩
theorem d6_8 : decode method_2_code 8 = .ok (.iload_n 0, 1) := by decide +kernel
theorem d6_9 : decode method_2_code 9 = .ok (.iconst 1, 1) := by decide +kernel
theorem d6_10 : decode method_2_code 10 = .ok (.if_icmp .ne 7, 3) := by decide +kernel
theorem w189 {Z : State} {a0 : Array Value} (hw : ∀ d ∈ tables_1, d.before a0 Z = true) : Jvm.Cond.before (Jvm.Cond.fieldLink "com/example/expiring_state/expiringstate/IssueResultOfPinLaw" (13 : Nat) "com/example/expiring_state/expiringstate/OneTimeCodes$IssueResult$Status" "LOCKED" "Lcom/example/expiring_state/expiringstate/OneTimeCodes$IssueResult$Status;") a0 Z = true := hw _ (List.mem_of_getElem? (i := 189) rfl)
theorem d6_13 : decode method_2_code 13 = .ok (.getstatic 13, 3) := by decide +kernel
theorem d6_16 : decode method_2_code 16 = .ok (.areturn, 1) := by decide +kernel
abbrev R_pick_1 : Room := { frames := 0, cells := 0, slots := 0, locals := 0 }
def Q_pick_1 (Z : State) (G1 : Int32) (sI : Addr) (sL : Addr) (sT : Addr) (sC : Addr) (sU : Addr) (dZ : Addr) (iE : Addr)  (h0 : Heap) (n0 : Nat) (v : Option Value) (h : Heap) (L : List Loc) : Prop := (v = some (.ref sL) ∧ Fr n0 L ∧ h = h0)
set_option maxRecDepth 65536 in
set_option maxHeartbeats 40000000 in
theorem rm_pick_1 (l : Launch) (Z : State) (a0 : Array Value) (hw : ∀ d ∈ tables_1, d.before a0 Z = true) (ws : List Jvm.Cond) (G1 : Int32) (sI : Addr) (sL : Addr) (sT : Addr) (sC : Addr) (sU : Addr) (dZ : Addr) (iE : Addr) (HG : own_G l Z a0 G1 sI sL sT sC sU dZ iE) (h0 : Heap) (n0 : Nat) (X00 : Old Z n0 h0)   :
    own_CP l Z M121 method_2_code 1 (some (.object "com/example/expiring_state/expiringstate/OneTimeCodes$IssueResult$Status")) ws R_pick_1 #[(.int (1 : Int32))] h0 (Q_pick_1 Z G1 sI sL sT sC sU dZ iE  h0 n0) := by
  refine own_P (plainFor_of_name pn_123) ?_
  intro p e s m below meth c s₁ S0 Bd hZ hh hx hby hml hown hnm X0 e0 hS0d
  obtain ⟨O1, P1, OsI, OsL, OsT, OsC, OsU, NsL, NsT, NsC, NsU, OZ, EZ, FZ1, FZ2, OE, EE, FE1, FE2⟩ := id HG
  have N0 := Fr.nil n0
  have C0 : Steps p.tables e below S0 (s₁.setTop (mkF m 0 #[.val (.int (1 : Int32))] [])) := by rw [hS0d]; exact castTop (ef_122 m (1 : Int32)) (Steps.refl _)
  obtain ⟨T_1, X_2, e_3, st_4⟩ := getS X0 hx hZ (host := "") hown (w189 hw) Via.refl e0 (OsL.ext X00.2) (g := (mkF m 13 #[.val (.int (1 : Int32))] [])) rfl (hb hby d6_13)
  have C_5 : Steps p.tables e below S0 (T_1.setTop (mkF m 16 #[.val (.int (1 : Int32))] [(.ref sL)])) := by
    refine C0.trans ?_
    refine XS.iloadN X0.here hx rfl (hb hby d6_0) rfl ?_
    refine XS.ifYes X0.here hx rfl (pc0 := 1) (pc' := 8) rfl (hb hby d6_1) rfl (by decide) (by decide) (by decide) ?_
    refine XS.iloadN X0.here hx rfl (hb hby d6_8) rfl ?_
    refine XS.iconst X0.here hx rfl (hb hby d6_9) ?_
    refine XS.icmpNo X0.here hx rfl (hb hby d6_10) rfl (by decide) ?_
    refine st_4 _ ?_
    exact Steps.refl _
  obtain ⟨fs, hr, hrun, hended, hW, hsame⟩ := X_2.leave (v := some (.ref sL)) (fun h => by rw [Bd.returns] at h; cases h)
  refine ⟨_, _, C_5.trans (retOut X_2 hx Bd.returns rfl (Or.inr (Or.inr (Or.inr (Or.inr ⟨rfl, rfl, rfl⟩)))) (hb hby d6_16) hr), hrun, hended, _, _, rfl, ?_, ⟨_, rfl⟩, hW, hsame.mono (by decide) (by decide)⟩
  show Q_pick_1 Z G1 sI sL sT sC sU dZ iE  h0 n0 (some (.ref sL)) T_1.heap _
  rw [e_3]
  exact ⟨rfl, N0, rfl⟩
theorem d6_17 : decode method_2_code 17 = .ok (.iload_n 0, 1) := by decide +kernel
theorem d6_18 : decode method_2_code 18 = .ok (.iconst 2, 1) := by decide +kernel
theorem d6_19 : decode method_2_code 19 = .ok (.if_icmp .ne 7, 3) := by decide +kernel
theorem w161 {Z : State} {a0 : Array Value} (hw : ∀ d ∈ tables_1, d.before a0 Z = true) : Jvm.Cond.before (Jvm.Cond.fieldLink "com/example/expiring_state/expiringstate/IssueResultOfPinLaw" (16 : Nat) "com/example/expiring_state/expiringstate/OneTimeCodes$IssueResult$Status" "TOO_SOON" "Lcom/example/expiring_state/expiringstate/OneTimeCodes$IssueResult$Status;") a0 Z = true := hw _ (List.mem_of_getElem? (i := 161) rfl)
theorem d6_22 : decode method_2_code 22 = .ok (.getstatic 16, 3) := by decide +kernel
theorem d6_25 : decode method_2_code 25 = .ok (.areturn, 1) := by decide +kernel
abbrev R_pick_2 : Room := { frames := 0, cells := 0, slots := 0, locals := 0 }
def Q_pick_2 (Z : State) (G1 : Int32) (sI : Addr) (sL : Addr) (sT : Addr) (sC : Addr) (sU : Addr) (dZ : Addr) (iE : Addr)  (h0 : Heap) (n0 : Nat) (v : Option Value) (h : Heap) (L : List Loc) : Prop := (v = some (.ref sT) ∧ Fr n0 L ∧ h = h0)
set_option maxRecDepth 65536 in
set_option maxHeartbeats 40000000 in
theorem rm_pick_2 (l : Launch) (Z : State) (a0 : Array Value) (hw : ∀ d ∈ tables_1, d.before a0 Z = true) (ws : List Jvm.Cond) (G1 : Int32) (sI : Addr) (sL : Addr) (sT : Addr) (sC : Addr) (sU : Addr) (dZ : Addr) (iE : Addr) (HG : own_G l Z a0 G1 sI sL sT sC sU dZ iE) (h0 : Heap) (n0 : Nat) (X00 : Old Z n0 h0)   :
    own_CP l Z M121 method_2_code 1 (some (.object "com/example/expiring_state/expiringstate/OneTimeCodes$IssueResult$Status")) ws R_pick_2 #[(.int (2 : Int32))] h0 (Q_pick_2 Z G1 sI sL sT sC sU dZ iE  h0 n0) := by
  refine own_P (plainFor_of_name pn_123) ?_
  intro p e s m below meth c s₁ S0 Bd hZ hh hx hby hml hown hnm X0 e0 hS0d
  obtain ⟨O1, P1, OsI, OsL, OsT, OsC, OsU, NsL, NsT, NsC, NsU, OZ, EZ, FZ1, FZ2, OE, EE, FE1, FE2⟩ := id HG
  have N0 := Fr.nil n0
  have C0 : Steps p.tables e below S0 (s₁.setTop (mkF m 0 #[.val (.int (2 : Int32))] [])) := by rw [hS0d]; exact castTop (ef_122 m (2 : Int32)) (Steps.refl _)
  obtain ⟨T_1, X_2, e_3, st_4⟩ := getS X0 hx hZ (host := "") hown (w161 hw) Via.refl e0 (OsT.ext X00.2) (g := (mkF m 22 #[.val (.int (2 : Int32))] [])) rfl (hb hby d6_22)
  have C_5 : Steps p.tables e below S0 (T_1.setTop (mkF m 25 #[.val (.int (2 : Int32))] [(.ref sT)])) := by
    refine C0.trans ?_
    refine XS.iloadN X0.here hx rfl (hb hby d6_0) rfl ?_
    refine XS.ifYes X0.here hx rfl (pc0 := 1) (pc' := 8) rfl (hb hby d6_1) rfl (by decide) (by decide) (by decide) ?_
    refine XS.iloadN X0.here hx rfl (hb hby d6_8) rfl ?_
    refine XS.iconst X0.here hx rfl (hb hby d6_9) ?_
    refine XS.icmpYes X0.here hx rfl (pc0 := 10) (pc' := 17) rfl (hb hby d6_10) rfl (by decide) (by decide) (by decide) ?_
    refine XS.iloadN X0.here hx rfl (hb hby d6_17) rfl ?_
    refine XS.iconst X0.here hx rfl (hb hby d6_18) ?_
    refine XS.icmpNo X0.here hx rfl (hb hby d6_19) rfl (by decide) ?_
    show Steps p.tables e below (s₁.setTop (mkF m 22 #[.val (.int (2 : Int32))] [])) _
    refine st_4 _ ?_
    exact Steps.refl _
  obtain ⟨fs, hr, hrun, hended, hW, hsame⟩ := X_2.leave (v := some (.ref sT)) (fun h => by rw [Bd.returns] at h; cases h)
  refine ⟨_, _, C_5.trans (retOut X_2 hx Bd.returns rfl (Or.inr (Or.inr (Or.inr (Or.inr ⟨rfl, rfl, rfl⟩)))) (hb hby d6_25) hr), hrun, hended, _, _, rfl, ?_, ⟨_, rfl⟩, hW, hsame.mono (by decide) (by decide)⟩
  show Q_pick_2 Z G1 sI sL sT sC sU dZ iE  h0 n0 (some (.ref sT)) T_1.heap _
  rw [e_3]
  exact ⟨rfl, N0, rfl⟩
theorem d6_26 : decode method_2_code 26 = .ok (.iload_n 0, 1) := by decide +kernel
theorem d6_27 : decode method_2_code 27 = .ok (.iconst 3, 1) := by decide +kernel
theorem d6_28 : decode method_2_code 28 = .ok (.if_icmp .ne 7, 3) := by decide +kernel
theorem w192 {Z : State} {a0 : Array Value} (hw : ∀ d ∈ tables_1, d.before a0 Z = true) : Jvm.Cond.before (Jvm.Cond.fieldLink "com/example/expiring_state/expiringstate/IssueResultOfPinLaw" (19 : Nat) "com/example/expiring_state/expiringstate/OneTimeCodes$IssueResult$Status" "CAP_REACHED" "Lcom/example/expiring_state/expiringstate/OneTimeCodes$IssueResult$Status;") a0 Z = true := hw _ (List.mem_of_getElem? (i := 192) rfl)
theorem d6_31 : decode method_2_code 31 = .ok (.getstatic 19, 3) := by decide +kernel
theorem d6_34 : decode method_2_code 34 = .ok (.areturn, 1) := by decide +kernel
abbrev R_pick_3 : Room := { frames := 0, cells := 0, slots := 0, locals := 0 }
def Q_pick_3 (Z : State) (G1 : Int32) (sI : Addr) (sL : Addr) (sT : Addr) (sC : Addr) (sU : Addr) (dZ : Addr) (iE : Addr)  (h0 : Heap) (n0 : Nat) (v : Option Value) (h : Heap) (L : List Loc) : Prop := (v = some (.ref sC) ∧ Fr n0 L ∧ h = h0)
set_option maxRecDepth 65536 in
set_option maxHeartbeats 40000000 in
theorem rm_pick_3 (l : Launch) (Z : State) (a0 : Array Value) (hw : ∀ d ∈ tables_1, d.before a0 Z = true) (ws : List Jvm.Cond) (G1 : Int32) (sI : Addr) (sL : Addr) (sT : Addr) (sC : Addr) (sU : Addr) (dZ : Addr) (iE : Addr) (HG : own_G l Z a0 G1 sI sL sT sC sU dZ iE) (h0 : Heap) (n0 : Nat) (X00 : Old Z n0 h0)   :
    own_CP l Z M121 method_2_code 1 (some (.object "com/example/expiring_state/expiringstate/OneTimeCodes$IssueResult$Status")) ws R_pick_3 #[(.int (3 : Int32))] h0 (Q_pick_3 Z G1 sI sL sT sC sU dZ iE  h0 n0) := by
  refine own_P (plainFor_of_name pn_123) ?_
  intro p e s m below meth c s₁ S0 Bd hZ hh hx hby hml hown hnm X0 e0 hS0d
  obtain ⟨O1, P1, OsI, OsL, OsT, OsC, OsU, NsL, NsT, NsC, NsU, OZ, EZ, FZ1, FZ2, OE, EE, FE1, FE2⟩ := id HG
  have N0 := Fr.nil n0
  have C0 : Steps p.tables e below S0 (s₁.setTop (mkF m 0 #[.val (.int (3 : Int32))] [])) := by rw [hS0d]; exact castTop (ef_122 m (3 : Int32)) (Steps.refl _)
  obtain ⟨T_1, X_2, e_3, st_4⟩ := getS X0 hx hZ (host := "") hown (w192 hw) Via.refl e0 (OsC.ext X00.2) (g := (mkF m 31 #[.val (.int (3 : Int32))] [])) rfl (hb hby d6_31)
  have C_5 : Steps p.tables e below S0 (T_1.setTop (mkF m 34 #[.val (.int (3 : Int32))] [(.ref sC)])) := by
    refine C0.trans ?_
    refine XS.iloadN X0.here hx rfl (hb hby d6_0) rfl ?_
    refine XS.ifYes X0.here hx rfl (pc0 := 1) (pc' := 8) rfl (hb hby d6_1) rfl (by decide) (by decide) (by decide) ?_
    refine XS.iloadN X0.here hx rfl (hb hby d6_8) rfl ?_
    refine XS.iconst X0.here hx rfl (hb hby d6_9) ?_
    refine XS.icmpYes X0.here hx rfl (pc0 := 10) (pc' := 17) rfl (hb hby d6_10) rfl (by decide) (by decide) (by decide) ?_
    refine XS.iloadN X0.here hx rfl (hb hby d6_17) rfl ?_
    refine XS.iconst X0.here hx rfl (hb hby d6_18) ?_
    refine XS.icmpYes X0.here hx rfl (pc0 := 19) (pc' := 26) rfl (hb hby d6_19) rfl (by decide) (by decide) (by decide) ?_
    show Steps p.tables e below (s₁.setTop (mkF m 26 #[.val (.int (3 : Int32))] [])) _
    refine XS.iloadN X0.here hx rfl (hb hby d6_26) rfl ?_
    refine XS.iconst X0.here hx rfl (hb hby d6_27) ?_
    refine XS.icmpNo X0.here hx rfl (hb hby d6_28) rfl (by decide) ?_
    refine st_4 _ ?_
    exact Steps.refl _
  obtain ⟨fs, hr, hrun, hended, hW, hsame⟩ := X_2.leave (v := some (.ref sC)) (fun h => by rw [Bd.returns] at h; cases h)
  refine ⟨_, _, C_5.trans (retOut X_2 hx Bd.returns rfl (Or.inr (Or.inr (Or.inr (Or.inr ⟨rfl, rfl, rfl⟩)))) (hb hby d6_34) hr), hrun, hended, _, _, rfl, ?_, ⟨_, rfl⟩, hW, hsame.mono (by decide) (by decide)⟩
  show Q_pick_3 Z G1 sI sL sT sC sU dZ iE  h0 n0 (some (.ref sC)) T_1.heap _
  rw [e_3]
  exact ⟨rfl, N0, rfl⟩
theorem w186 {Z : State} {a0 : Array Value} (hw : ∀ d ∈ tables_1, d.before a0 Z = true) : Jvm.Cond.before (Jvm.Cond.fieldLink "com/example/expiring_state/expiringstate/IssueResultOfPinLaw" (22 : Nat) "com/example/expiring_state/expiringstate/OneTimeCodes$IssueResult$Status" "STORE_UNAVAILABLE" "Lcom/example/expiring_state/expiringstate/OneTimeCodes$IssueResult$Status;") a0 Z = true := hw _ (List.mem_of_getElem? (i := 186) rfl)
theorem d6_35 : decode method_2_code 35 = .ok (.getstatic 22, 3) := by decide +kernel
theorem d6_38 : decode method_2_code 38 = .ok (.areturn, 1) := by decide +kernel
abbrev R_pick_4 : Room := { frames := 0, cells := 0, slots := 0, locals := 0 }
def Q_pick_4 (Z : State) (G1 : Int32) (sI : Addr) (sL : Addr) (sT : Addr) (sC : Addr) (sU : Addr) (dZ : Addr) (iE : Addr)  (h0 : Heap) (n0 : Nat) (v : Option Value) (h : Heap) (L : List Loc) : Prop := (v = some (.ref sU) ∧ Fr n0 L ∧ h = h0)
set_option maxRecDepth 65536 in
set_option maxHeartbeats 40000000 in
theorem rm_pick_4 (l : Launch) (Z : State) (a0 : Array Value) (hw : ∀ d ∈ tables_1, d.before a0 Z = true) (ws : List Jvm.Cond) (G1 : Int32) (sI : Addr) (sL : Addr) (sT : Addr) (sC : Addr) (sU : Addr) (dZ : Addr) (iE : Addr) (HG : own_G l Z a0 G1 sI sL sT sC sU dZ iE) (h0 : Heap) (n0 : Nat) (X00 : Old Z n0 h0)   :
    own_CP l Z M121 method_2_code 1 (some (.object "com/example/expiring_state/expiringstate/OneTimeCodes$IssueResult$Status")) ws R_pick_4 #[(.int (4 : Int32))] h0 (Q_pick_4 Z G1 sI sL sT sC sU dZ iE  h0 n0) := by
  refine own_P (plainFor_of_name pn_123) ?_
  intro p e s m below meth c s₁ S0 Bd hZ hh hx hby hml hown hnm X0 e0 hS0d
  obtain ⟨O1, P1, OsI, OsL, OsT, OsC, OsU, NsL, NsT, NsC, NsU, OZ, EZ, FZ1, FZ2, OE, EE, FE1, FE2⟩ := id HG
  have N0 := Fr.nil n0
  have C0 : Steps p.tables e below S0 (s₁.setTop (mkF m 0 #[.val (.int (4 : Int32))] [])) := by rw [hS0d]; exact castTop (ef_122 m (4 : Int32)) (Steps.refl _)
  obtain ⟨T_1, X_2, e_3, st_4⟩ := getS X0 hx hZ (host := "") hown (w186 hw) Via.refl e0 (OsU.ext X00.2) (g := (mkF m 35 #[.val (.int (4 : Int32))] [])) rfl (hb hby d6_35)
  have C_5 : Steps p.tables e below S0 (T_1.setTop (mkF m 38 #[.val (.int (4 : Int32))] [(.ref sU)])) := by
    refine C0.trans ?_
    refine XS.iloadN X0.here hx rfl (hb hby d6_0) rfl ?_
    refine XS.ifYes X0.here hx rfl (pc0 := 1) (pc' := 8) rfl (hb hby d6_1) rfl (by decide) (by decide) (by decide) ?_
    refine XS.iloadN X0.here hx rfl (hb hby d6_8) rfl ?_
    refine XS.iconst X0.here hx rfl (hb hby d6_9) ?_
    refine XS.icmpYes X0.here hx rfl (pc0 := 10) (pc' := 17) rfl (hb hby d6_10) rfl (by decide) (by decide) (by decide) ?_
    refine XS.iloadN X0.here hx rfl (hb hby d6_17) rfl ?_
    refine XS.iconst X0.here hx rfl (hb hby d6_18) ?_
    refine XS.icmpYes X0.here hx rfl (pc0 := 19) (pc' := 26) rfl (hb hby d6_19) rfl (by decide) (by decide) (by decide) ?_
    show Steps p.tables e below (s₁.setTop (mkF m 26 #[.val (.int (4 : Int32))] [])) _
    refine XS.iloadN X0.here hx rfl (hb hby d6_26) rfl ?_
    refine XS.iconst X0.here hx rfl (hb hby d6_27) ?_
    refine XS.icmpYes X0.here hx rfl (pc0 := 28) (pc' := 35) rfl (hb hby d6_28) rfl (by decide) (by decide) (by decide) ?_
    refine st_4 _ ?_
    exact Steps.refl _
  obtain ⟨fs, hr, hrun, hended, hW, hsame⟩ := X_2.leave (v := some (.ref sU)) (fun h => by rw [Bd.returns] at h; cases h)
  refine ⟨_, _, C_5.trans (retOut X_2 hx Bd.returns rfl (Or.inr (Or.inr (Or.inr (Or.inr ⟨rfl, rfl, rfl⟩)))) (hb hby d6_38) hr), hrun, hended, _, _, rfl, ?_, ⟨_, rfl⟩, hW, hsame.mono (by decide) (by decide)⟩
  show Q_pick_4 Z G1 sI sL sT sC sU dZ iE  h0 n0 (some (.ref sU)) T_1.heap _
  rw [e_3]
  exact ⟨rfl, N0, rfl⟩
abbrev M150 : MethodName := ⟨"java/lang/Math", "floorDiv", "(JJ)J"⟩
theorem ef_151 (m : MethodId) (x0 : Int64) (x1 : Int64) : entryFrame m #[(.long x0), (.long x1)] 6 = mkF m 0 #[.val (.long x0), .second, .val (.long x1), .second, .unset, .unset] [] := by first | (simp [entryFrame, mkF, argsToLocals, Value.category]; done) | rfl
theorem d7_0 : decode jdk_29_method_49_code 0 = .ok (.lload_n 0, 1) := by decide +kernel
theorem d7_1 : decode jdk_29_method_49_code 1 = .ok (.lload_n 2, 1) := by decide +kernel
theorem d7_2 : decode jdk_29_method_49_code 2 = .ok (.ldiv, 1) := by decide +kernel
theorem d7_3 : decode jdk_29_method_49_code 3 = .ok (.lstore 4, 2) := by decide +kernel
theorem d7_5 : decode jdk_29_method_49_code 5 = .ok (.lload_n 0, 1) := by decide +kernel
theorem d7_6 : decode jdk_29_method_49_code 6 = .ok (.lload_n 2, 1) := by decide +kernel
theorem d7_7 : decode jdk_29_method_49_code 7 = .ok (.lxor, 1) := by decide +kernel
theorem d7_8 : decode jdk_29_method_49_code 8 = .ok (.lconst 0, 1) := by decide +kernel
theorem d7_9 : decode jdk_29_method_49_code 9 = .ok (.lcmp, 1) := by decide +kernel
theorem d7_10 : decode jdk_29_method_49_code 10 = .ok (.ifCond .ge 17, 3) := by decide +kernel
theorem d7_13 : decode jdk_29_method_49_code 13 = .ok (.lload 4, 2) := by decide +kernel
theorem d7_15 : decode jdk_29_method_49_code 15 = .ok (.lload_n 2, 1) := by decide +kernel
theorem d7_16 : decode jdk_29_method_49_code 16 = .ok (.lmul, 1) := by decide +kernel
theorem d7_17 : decode jdk_29_method_49_code 17 = .ok (.lload_n 0, 1) := by decide +kernel
theorem d7_18 : decode jdk_29_method_49_code 18 = .ok (.lcmp, 1) := by decide +kernel
theorem d7_19 : decode jdk_29_method_49_code 19 = .ok (.ifCond .eq 8, 3) := by decide +kernel
theorem d7_27 : decode jdk_29_method_49_code 27 = .ok (.lload 4, 2) := by decide +kernel
theorem d7_29 : decode jdk_29_method_49_code 29 = .ok (.lreturn, 1) := by decide +kernel
theorem d7_22 : decode jdk_29_method_49_code 22 = .ok (.lload 4, 2) := by decide +kernel
theorem d7_24 : decode jdk_29_method_49_code 24 = .ok (.lconst 1, 1) := by decide +kernel
theorem d7_25 : decode jdk_29_method_49_code 25 = .ok (.lsub, 1) := by decide +kernel
theorem d7_26 : decode jdk_29_method_49_code 26 = .ok (.lreturn, 1) := by decide +kernel
abbrev R_fdJJ : Room := { frames := 0, cells := 0, slots := 0, locals := 0 }
def Q_fdJJ (Z : State) (G1 : Int32) (sI : Addr) (sL : Addr) (sT : Addr) (sC : Addr) (sU : Addr) (dZ : Addr) (iE : Addr) (x : Int64) (h0 : Heap) (n0 : Nat) (v : Option Value) (h : Heap) (L : List Loc) : Prop := (∃ r : Int64, v = some (.long r) ∧ Fr n0 L ∧ h = h0 ∧ (r.toInt = x.toInt / 1000))
set_option maxRecDepth 65536 in
set_option maxHeartbeats 40000000 in
theorem rm_fdJJ (l : Launch) (Z : State) (a0 : Array Value) (hw : ∀ d ∈ tables_1, d.before a0 Z = true) (ws : List Jvm.Cond) (G1 : Int32) (sI : Addr) (sL : Addr) (sT : Addr) (sC : Addr) (sU : Addr) (dZ : Addr) (iE : Addr) (HG : own_G l Z a0 G1 sI sL sT sC sU dZ iE) (h0 : Heap) (n0 : Nat) (X00 : Old Z n0 h0) (x : Int64)  :
    own_CP l Z M150 jdk_29_method_49_code 6 (some .long) ws R_fdJJ #[(.long x), (.long (1000 : Int64))] h0 (Q_fdJJ Z G1 sI sL sT sC sU dZ iE x h0 n0) := by
  refine own_P (Jvm.Free.JP.mathPlain rfl (by decide +kernel)) ?_
  intro p e s m below meth c s₁ S0 Bd hZ hh hx hby hml hown hnm X0 e0 hS0d
  obtain ⟨O1, P1, OsI, OsL, OsT, OsC, OsU, NsL, NsT, NsC, NsU, OZ, EZ, FZ1, FZ2, OE, EE, FE1, FE2⟩ := id HG
  have N0 := Fr.nil n0
  have C0 : Steps p.tables e below S0 (s₁.setTop (mkF m 0 #[.val (.long x), .second, .val (.long (1000 : Int64)), .second, .unset, .unset] [])) := by rw [hS0d]; exact castTop (ef_151 m x (1000 : Int64)) (Steps.refl _)
  have C_1 : Steps p.tables e below S0 (s₁.setTop (mkF m 10 #[.val (.long x), .second, .val (.long (1000 : Int64)), .second, .val (.long (x / (1000 : Int64))), .second] [(.int (lcmpW (x ^^^ (1000 : Int64)) (0 : Int64)))])) := by
    refine C0.trans ?_
    refine XS.lloadN X0.here hx rfl (hb hby d7_0) rfl ?_
    refine XS.lloadN X0.here hx rfl (hb hby d7_1) rfl ?_
    refine XS.ldiv X0.here hx rfl (hb hby d7_2) rfl (by decide) ?_
    refine XS.lstore X0.here hx rfl (hb hby d7_3) rfl (l' := #[.val (.long x), .second, .val (.long (1000 : Int64)), .second, .val (.long (x / (1000 : Int64))), .second]) rfl ?_
    refine XS.lloadN X0.here hx rfl (hb hby d7_5) rfl ?_
    refine XS.lloadN X0.here hx rfl (hb hby d7_6) rfl ?_
    refine XS.lxor X0.here hx rfl (hb hby d7_7) rfl ?_
    refine XS.lconst X0.here hx rfl (hb hby d7_8) ?_
    show Steps p.tables e below (s₁.setTop (mkF m 9 #[.val (.long x), .second, .val (.long (1000 : Int64)), .second, .val (.long (x / (1000 : Int64))), .second] [(.long (0 : Int64)), (.long (x ^^^ (1000 : Int64)))])) _
    refine XS.lcmp X0.here hx rfl (hb hby d7_9) rfl ?_
    exact Steps.refl _
  by_cases hc_2 : (x ^^^ (1000 : Int64)) < (0 : Int64)
  · skip
    have C_3 : Steps p.tables e below S0 (s₁.setTop (mkF m 19 #[.val (.long x), .second, .val (.long (1000 : Int64)), .second, .val (.long (x / (1000 : Int64))), .second] [(.int (lcmpW ((x / (1000 : Int64)) * (1000 : Int64)) x))])) := by
      refine C_1.trans ?_
      refine XS.ifNo X0.here hx rfl (hb hby d7_10) rfl (i0_ge_f ((lw_lt (x ^^^ (1000 : Int64)) (0 : Int64)).mpr hc_2)) ?_
      refine XS.lload X0.here hx rfl (hb hby d7_13) rfl ?_
      refine XS.lloadN X0.here hx rfl (hb hby d7_15) rfl ?_
      refine XS.lmul X0.here hx rfl (hb hby d7_16) rfl ?_
      refine XS.lloadN X0.here hx rfl (hb hby d7_17) rfl ?_
      refine XS.lcmp X0.here hx rfl (hb hby d7_18) rfl ?_
      exact Steps.refl _
    by_cases hc_4 : ((x / (1000 : Int64)) * (1000 : Int64)) = x
    · skip
      have C_5 : Steps p.tables e below S0 (s₁.setTop (mkF m 29 #[.val (.long x), .second, .val (.long (1000 : Int64)), .second, .val (.long (x / (1000 : Int64))), .second] [(.long (x / (1000 : Int64)))])) := by
        refine C_3.trans ?_
        refine XS.ifYes X0.here hx rfl (pc0 := 19) (pc' := 27) rfl (hb hby d7_19) rfl (i0_eq_t ((lw_eq ((x / (1000 : Int64)) * (1000 : Int64)) x).mpr hc_4)) (by decide) (by decide) ?_
        refine XS.lload X0.here hx rfl (hb hby d7_27) rfl ?_
        exact Steps.refl _
      obtain ⟨fs, hr, hrun, hended, hW, hsame⟩ := X0.leave (v := some (.long (x / (1000 : Int64)))) (fun h => by rw [Bd.returns] at h; cases h)
      refine ⟨_, _, C_5.trans (retOut X0 hx Bd.returns rfl (Or.inr (Or.inl ⟨rfl, rfl, _, rfl⟩)) (hb hby d7_29) hr), hrun, hended, _, _, rfl, ?_, ⟨_, rfl⟩, hW, hsame.mono (by decide) (by decide)⟩
      show Q_fdJJ Z G1 sI sL sT sC sU dZ iE x h0 n0 (some (.long (x / (1000 : Int64)))) s₁.heap _
      rw [e0]
      exact ⟨(x / (1000 : Int64)), rfl, N0, rfl, (own_fd1 hc_2 hc_4)⟩
    · skip
      have C_6 : Steps p.tables e below S0 (s₁.setTop (mkF m 26 #[.val (.long x), .second, .val (.long (1000 : Int64)), .second, .val (.long (x / (1000 : Int64))), .second] [(.long ((x / (1000 : Int64)) - (1 : Int64)))])) := by
        refine C_3.trans ?_
        refine XS.ifNo X0.here hx rfl (hb hby d7_19) rfl (i0_eq_f (fun q => hc_4 ((lw_eq ((x / (1000 : Int64)) * (1000 : Int64)) x).mp q))) ?_
        refine XS.lload X0.here hx rfl (hb hby d7_22) rfl ?_
        refine XS.lconst X0.here hx rfl (hb hby d7_24) ?_
        refine XS.lsub X0.here hx rfl (hb hby d7_25) rfl ?_
        exact Steps.refl _
      obtain ⟨fs, hr, hrun, hended, hW, hsame⟩ := X0.leave (v := some (.long ((x / (1000 : Int64)) - (1 : Int64)))) (fun h => by rw [Bd.returns] at h; cases h)
      refine ⟨_, _, C_6.trans (retOut X0 hx Bd.returns rfl (Or.inr (Or.inl ⟨rfl, rfl, _, rfl⟩)) (hb hby d7_26) hr), hrun, hended, _, _, rfl, ?_, ⟨_, rfl⟩, hW, hsame.mono (by decide) (by decide)⟩
      show Q_fdJJ Z G1 sI sL sT sC sU dZ iE x h0 n0 (some (.long ((x / (1000 : Int64)) - (1 : Int64)))) s₁.heap _
      rw [e0]
      exact ⟨((x / (1000 : Int64)) - (1 : Int64)), rfl, N0, rfl, (own_fd2 hc_2 hc_4)⟩
  · skip
    have C_7 : Steps p.tables e below S0 (s₁.setTop (mkF m 29 #[.val (.long x), .second, .val (.long (1000 : Int64)), .second, .val (.long (x / (1000 : Int64))), .second] [(.long (x / (1000 : Int64)))])) := by
      refine C_1.trans ?_
      refine XS.ifYes X0.here hx rfl (pc0 := 10) (pc' := 27) rfl (hb hby d7_10) rfl (i0_ge_t (fun q => hc_2 ((lw_lt (x ^^^ (1000 : Int64)) (0 : Int64)).mp q))) (by decide) (by decide) ?_
      refine XS.lload X0.here hx rfl (hb hby d7_27) rfl ?_
      exact Steps.refl _
    obtain ⟨fs, hr, hrun, hended, hW, hsame⟩ := X0.leave (v := some (.long (x / (1000 : Int64)))) (fun h => by rw [Bd.returns] at h; cases h)
    refine ⟨_, _, C_7.trans (retOut X0 hx Bd.returns rfl (Or.inr (Or.inl ⟨rfl, rfl, _, rfl⟩)) (hb hby d7_29) hr), hrun, hended, _, _, rfl, ?_, ⟨_, rfl⟩, hW, hsame.mono (by decide) (by decide)⟩
    show Q_fdJJ Z G1 sI sL sT sC sU dZ iE x h0 n0 (some (.long (x / (1000 : Int64)))) s₁.heap _
    rw [e0]
    exact ⟨(x / (1000 : Int64)), rfl, N0, rfl, (own_fd0 hc_2)⟩
abbrev M174 : MethodName := ⟨"java/lang/Math", "floorDiv", "(JI)J"⟩
theorem ef_175 (m : MethodId) (x0 : Int64) (x1 : Int32) : entryFrame m #[(.long x0), (.int x1)] 3 = mkF m 0 #[.val (.long x0), .second, .val (.int x1)] [] := by first | (simp [entryFrame, mkF, argsToLocals, Value.category]; done) | rfl
theorem d8_0 : decode jdk_29_method_48_code 0 = .ok (.lload_n 0, 1) := by decide +kernel
theorem d8_1 : decode jdk_29_method_48_code 1 = .ok (.iload_n 2, 1) := by decide +kernel
theorem d8_2 : decode jdk_29_method_48_code 2 = .ok (.i2l, 1) := by decide +kernel
theorem w55 {Z : State} {a0 : Array Value} (hw : ∀ d ∈ tables_1, d.before a0 Z = true) : Jvm.Cond.before (Jvm.Cond.code ({ cls := "java/lang/Math", name := "floorDiv", desc := "(JJ)J" } : Jvm.MethodName) jdk_29_method_49_code (6 : Nat) (Option.some Jvm.ClassFile.FieldType.long)) a0 Z = true := hw _ (List.mem_of_getElem? (i := 55) rfl)
theorem w51 {Z : State} {a0 : Array Value} (hw : ∀ d ∈ tables_1, d.before a0 Z = true) : Jvm.Cond.before (Jvm.Cond.initialized "java/lang/Math") a0 Z = true := hw _ (List.mem_of_getElem? (i := 51) rfl)
theorem pd_181 : parseMethodDescriptor "(JJ)J" = some ⟨[.long, .long], some .long⟩ := by decide +kernel
theorem d8_3 : decode jdk_29_method_48_code 3 = .ok (.invokestatic 143, 3) := by decide +kernel
theorem w53 {Z : State} {a0 : Array Value} (hw : ∀ d ∈ tables_1, d.before a0 Z = true) : Jvm.Cond.before (Jvm.Cond.methodLink "java/lang/Math" (143 : Nat) ({ cls := "java/lang/Math", name := "floorDiv", desc := "(JJ)J" } : Jvm.MethodName)) a0 Z = true := hw _ (List.mem_of_getElem? (i := 53) rfl)
theorem w54 {Z : State} {a0 : Array Value} (hw : ∀ d ∈ tables_1, d.before a0 Z = true) : Jvm.Cond.before (Jvm.Cond.static ({ cls := "java/lang/Math", name := "floorDiv", desc := "(JJ)J" } : Jvm.MethodName)) a0 Z = true := hw _ (List.mem_of_getElem? (i := 54) rfl)
theorem d8_6 : decode jdk_29_method_48_code 6 = .ok (.lreturn, 1) := by decide +kernel
abbrev R_fdJI : Room := { frames := 1, cells := 0, slots := 0, locals := 17 }
def Q_fdJI (Z : State) (G1 : Int32) (sI : Addr) (sL : Addr) (sT : Addr) (sC : Addr) (sU : Addr) (dZ : Addr) (iE : Addr) (x : Int64) (h0 : Heap) (n0 : Nat) (v : Option Value) (h : Heap) (L : List Loc) : Prop := (∃ r : Int64, v = some (.long r) ∧ Fr n0 L ∧ h = h0 ∧ (r.toInt = x.toInt / 1000))
set_option maxRecDepth 65536 in
set_option maxHeartbeats 40000000 in
theorem rm_fdJI (l : Launch) (Z : State) (a0 : Array Value) (hw : ∀ d ∈ tables_1, d.before a0 Z = true) (ws : List Jvm.Cond) (G1 : Int32) (sI : Addr) (sL : Addr) (sT : Addr) (sC : Addr) (sU : Addr) (dZ : Addr) (iE : Addr) (HG : own_G l Z a0 G1 sI sL sT sC sU dZ iE) (h0 : Heap) (n0 : Nat) (X00 : Old Z n0 h0) (x : Int64)  :
    own_CP l Z M174 jdk_29_method_48_code 3 (some .long) ws R_fdJI #[(.long x), (.int (1000 : Int32))] h0 (Q_fdJI Z G1 sI sL sT sC sU dZ iE x h0 n0) := by
  refine own_P (Jvm.Free.JP.mathPlain rfl (by decide +kernel)) ?_
  intro p e s m below meth c s₁ S0 Bd hZ hh hx hby hml hown hnm X0 e0 hS0d
  obtain ⟨O1, P1, OsI, OsL, OsT, OsC, OsU, NsL, NsT, NsC, NsU, OZ, EZ, FZ1, FZ2, OE, EE, FE1, FE2⟩ := id HG
  have N0 := Fr.nil n0
  have C0 : Steps p.tables e below S0 (s₁.setTop (mkF m 0 #[.val (.long x), .second, .val (.int (1000 : Int32))] [])) := by rw [hS0d]; exact castTop (ef_175 m x (1000 : Int32)) (Steps.refl _)
  obtain ⟨_, _, ⟨T_1, L_1, k_1, n_1⟩, -, X_1, ⟨Lc_1, hQ_1, l_1, y_1, z_1⟩, st_1⟩ := Jvm.LawKit.callS X0 hx (y := M150) hown (mvT hZ (w53 hw)) (mvT hZ (w54 hw)) (mvT hZ (w51 hw)) (mvT hZ (w55 hw)) (by decide) (backOf (W := 0) (rm_fdJJ l Z a0 hw [] G1 sI sL sT sC sU dZ iE HG h0 n0 X00 x ) hZ (w55 hw) (w51 hw) (by decide) (by decide)) (g := (mkF m 3 #[.val (.long x), .second, .val (.int (1000 : Int32))] [(.long (1000 : Int64)), (.long x)])) rfl (by rw [hml]; rfl) (argsL := [(.long x), (.long (1000 : Int64))]) (rest := []) (lenOf pd_181 rfl) rfl (by show 2 * 0 + _ ≤ _; exact Nat.le_of_eq rfl) (hb hby d8_3) (fun _ _ => ⟨rfl, e0, (by decide : 0 + 0 ≤ _), (by decide : 0 + 0 ≤ _)⟩)
  dsimp only [Pt.U, Pt.locs, Pt.cells, Pt.slots] at X_1 l_1 y_1 z_1 st_1 hQ_1
  subst l_1 y_1 z_1
  obtain ⟨j_2, rfl, N_3, e_4, g_5⟩ := hQ_1
  have N_6 := Fr.app N0 N_3
  have e_7 : T_1.heap = h0 := e_4
  have C_8 : Steps p.tables e below S0 (T_1.setTop (mkF m 6 #[.val (.long x), .second, .val (.int (1000 : Int32))] [(.long j_2)])) := by
    refine C0.trans ?_
    refine XS.lloadN X0.here hx rfl (hb hby d8_0) rfl ?_
    refine XS.iloadN X0.here hx rfl (hb hby d8_1) rfl ?_
    refine XS.i2l X0.here hx rfl (hb hby d8_2) rfl ?_
    refine st_1 _ ?_
    exact Steps.refl _
  obtain ⟨fs, hr, hrun, hended, hW, hsame⟩ := X_1.leave (v := some (.long j_2)) (fun h => by rw [Bd.returns] at h; cases h)
  refine ⟨_, _, C_8.trans (retOut X_1 hx Bd.returns rfl (Or.inr (Or.inl ⟨rfl, rfl, _, rfl⟩)) (hb hby d8_6) hr), hrun, hended, _, _, rfl, ?_, ⟨_, rfl⟩, hW, hsame.mono (by decide) (by decide)⟩
  show Q_fdJI Z G1 sI sL sT sC sU dZ iE x h0 n0 (some (.long j_2)) T_1.heap _
  rw [e_7]
  exact ⟨j_2, rfl, N_6, rfl, g_5⟩
abbrev M186 : MethodName := ⟨"java/lang/Math", "floorMod", "(JJ)J"⟩
theorem d9_0 : decode jdk_29_method_52_code 0 = .ok (.lload_n 0, 1) := by decide +kernel
theorem d9_1 : decode jdk_29_method_52_code 1 = .ok (.lload_n 2, 1) := by decide +kernel
theorem d9_2 : decode jdk_29_method_52_code 2 = .ok (.lrem, 1) := by decide +kernel
theorem d9_3 : decode jdk_29_method_52_code 3 = .ok (.lstore 4, 2) := by decide +kernel
theorem d9_5 : decode jdk_29_method_52_code 5 = .ok (.lload_n 0, 1) := by decide +kernel
theorem d9_6 : decode jdk_29_method_52_code 6 = .ok (.lload_n 2, 1) := by decide +kernel
theorem d9_7 : decode jdk_29_method_52_code 7 = .ok (.lxor, 1) := by decide +kernel
theorem d9_8 : decode jdk_29_method_52_code 8 = .ok (.lconst 0, 1) := by decide +kernel
theorem d9_9 : decode jdk_29_method_52_code 9 = .ok (.lcmp, 1) := by decide +kernel
theorem d9_10 : decode jdk_29_method_52_code 10 = .ok (.ifCond .ge 15, 3) := by decide +kernel
theorem d9_13 : decode jdk_29_method_52_code 13 = .ok (.lload 4, 2) := by decide +kernel
theorem d9_15 : decode jdk_29_method_52_code 15 = .ok (.lconst 0, 1) := by decide +kernel
theorem d9_16 : decode jdk_29_method_52_code 16 = .ok (.lcmp, 1) := by decide +kernel
theorem d9_17 : decode jdk_29_method_52_code 17 = .ok (.ifCond .eq 8, 3) := by decide +kernel
theorem d9_25 : decode jdk_29_method_52_code 25 = .ok (.lload 4, 2) := by decide +kernel
theorem d9_27 : decode jdk_29_method_52_code 27 = .ok (.lreturn, 1) := by decide +kernel
theorem d9_20 : decode jdk_29_method_52_code 20 = .ok (.lload 4, 2) := by decide +kernel
theorem d9_22 : decode jdk_29_method_52_code 22 = .ok (.lload_n 2, 1) := by decide +kernel
theorem d9_23 : decode jdk_29_method_52_code 23 = .ok (.ladd, 1) := by decide +kernel
theorem d9_24 : decode jdk_29_method_52_code 24 = .ok (.lreturn, 1) := by decide +kernel
abbrev R_fmJJ : Room := { frames := 0, cells := 0, slots := 0, locals := 0 }
def Q_fmJJ (Z : State) (G1 : Int32) (sI : Addr) (sL : Addr) (sT : Addr) (sC : Addr) (sU : Addr) (dZ : Addr) (iE : Addr) (x : Int64) (h0 : Heap) (n0 : Nat) (v : Option Value) (h : Heap) (L : List Loc) : Prop := (∃ r : Int64, v = some (.long r) ∧ Fr n0 L ∧ h = h0 ∧ (r.toInt = x.toInt % 1000))
set_option maxRecDepth 65536 in
set_option maxHeartbeats 40000000 in
theorem rm_fmJJ (l : Launch) (Z : State) (a0 : Array Value) (hw : ∀ d ∈ tables_1, d.before a0 Z = true) (ws : List Jvm.Cond) (G1 : Int32) (sI : Addr) (sL : Addr) (sT : Addr) (sC : Addr) (sU : Addr) (dZ : Addr) (iE : Addr) (HG : own_G l Z a0 G1 sI sL sT sC sU dZ iE) (h0 : Heap) (n0 : Nat) (X00 : Old Z n0 h0) (x : Int64)  :
    own_CP l Z M186 jdk_29_method_52_code 6 (some .long) ws R_fmJJ #[(.long x), (.long (1000 : Int64))] h0 (Q_fmJJ Z G1 sI sL sT sC sU dZ iE x h0 n0) := by
  refine own_P (Jvm.Free.JP.mathPlain rfl (by decide +kernel)) ?_
  intro p e s m below meth c s₁ S0 Bd hZ hh hx hby hml hown hnm X0 e0 hS0d
  obtain ⟨O1, P1, OsI, OsL, OsT, OsC, OsU, NsL, NsT, NsC, NsU, OZ, EZ, FZ1, FZ2, OE, EE, FE1, FE2⟩ := id HG
  have N0 := Fr.nil n0
  have C0 : Steps p.tables e below S0 (s₁.setTop (mkF m 0 #[.val (.long x), .second, .val (.long (1000 : Int64)), .second, .unset, .unset] [])) := by rw [hS0d]; exact castTop (ef_151 m x (1000 : Int64)) (Steps.refl _)
  have C_1 : Steps p.tables e below S0 (s₁.setTop (mkF m 10 #[.val (.long x), .second, .val (.long (1000 : Int64)), .second, .val (.long (x - (x / (1000 : Int64)) * (1000 : Int64))), .second] [(.int (lcmpW (x ^^^ (1000 : Int64)) (0 : Int64)))])) := by
    refine C0.trans ?_
    refine XS.lloadN X0.here hx rfl (hb hby d9_0) rfl ?_
    refine XS.lloadN X0.here hx rfl (hb hby d9_1) rfl ?_
    refine XS.lrem X0.here hx rfl (hb hby d9_2) rfl (by decide) ?_
    refine XS.lstore X0.here hx rfl (hb hby d9_3) rfl (l' := #[.val (.long x), .second, .val (.long (1000 : Int64)), .second, .val (.long (x - (x / (1000 : Int64)) * (1000 : Int64))), .second]) rfl ?_
    refine XS.lloadN X0.here hx rfl (hb hby d9_5) rfl ?_
    refine XS.lloadN X0.here hx rfl (hb hby d9_6) rfl ?_
    refine XS.lxor X0.here hx rfl (hb hby d9_7) rfl ?_
    refine XS.lconst X0.here hx rfl (hb hby d9_8) ?_
    show Steps p.tables e below (s₁.setTop (mkF m 9 #[.val (.long x), .second, .val (.long (1000 : Int64)), .second, .val (.long (x - (x / (1000 : Int64)) * (1000 : Int64))), .second] [(.long (0 : Int64)), (.long (x ^^^ (1000 : Int64)))])) _
    refine XS.lcmp X0.here hx rfl (hb hby d9_9) rfl ?_
    exact Steps.refl _
  by_cases hc_2 : (x ^^^ (1000 : Int64)) < (0 : Int64)
  · skip
    have C_3 : Steps p.tables e below S0 (s₁.setTop (mkF m 17 #[.val (.long x), .second, .val (.long (1000 : Int64)), .second, .val (.long (x - (x / (1000 : Int64)) * (1000 : Int64))), .second] [(.int (lcmpW (x - (x / (1000 : Int64)) * (1000 : Int64)) (0 : Int64)))])) := by
      refine C_1.trans ?_
      refine XS.ifNo X0.here hx rfl (hb hby d9_10) rfl (i0_ge_f ((lw_lt (x ^^^ (1000 : Int64)) (0 : Int64)).mpr hc_2)) ?_
      refine XS.lload X0.here hx rfl (hb hby d9_13) rfl ?_
      refine XS.lconst X0.here hx rfl (hb hby d9_15) ?_
      refine XS.lcmp X0.here hx rfl (hb hby d9_16) rfl ?_
      exact Steps.refl _
    by_cases hc_4 : (x - (x / (1000 : Int64)) * (1000 : Int64)) = (0 : Int64)
    · skip
      have C_5 : Steps p.tables e below S0 (s₁.setTop (mkF m 27 #[.val (.long x), .second, .val (.long (1000 : Int64)), .second, .val (.long (x - (x / (1000 : Int64)) * (1000 : Int64))), .second] [(.long (x - (x / (1000 : Int64)) * (1000 : Int64)))])) := by
        refine C_3.trans ?_
        refine XS.ifYes X0.here hx rfl (pc0 := 17) (pc' := 25) rfl (hb hby d9_17) rfl (i0_eq_t ((lw_eq (x - (x / (1000 : Int64)) * (1000 : Int64)) (0 : Int64)).mpr hc_4)) (by decide) (by decide) ?_
        refine XS.lload X0.here hx rfl (hb hby d9_25) rfl ?_
        exact Steps.refl _
      obtain ⟨fs, hr, hrun, hended, hW, hsame⟩ := X0.leave (v := some (.long (x - (x / (1000 : Int64)) * (1000 : Int64)))) (fun h => by rw [Bd.returns] at h; cases h)
      refine ⟨_, _, C_5.trans (retOut X0 hx Bd.returns rfl (Or.inr (Or.inl ⟨rfl, rfl, _, rfl⟩)) (hb hby d9_27) hr), hrun, hended, _, _, rfl, ?_, ⟨_, rfl⟩, hW, hsame.mono (by decide) (by decide)⟩
      show Q_fmJJ Z G1 sI sL sT sC sU dZ iE x h0 n0 (some (.long (x - (x / (1000 : Int64)) * (1000 : Int64)))) s₁.heap _
      rw [e0]
      exact ⟨(x - (x / (1000 : Int64)) * (1000 : Int64)), rfl, N0, rfl, (own_fm1 hc_2 hc_4)⟩
    · skip
      have C_6 : Steps p.tables e below S0 (s₁.setTop (mkF m 24 #[.val (.long x), .second, .val (.long (1000 : Int64)), .second, .val (.long (x - (x / (1000 : Int64)) * (1000 : Int64))), .second] [(.long ((x - (x / (1000 : Int64)) * (1000 : Int64)) + (1000 : Int64)))])) := by
        refine C_3.trans ?_
        refine XS.ifNo X0.here hx rfl (hb hby d9_17) rfl (i0_eq_f (fun q => hc_4 ((lw_eq (x - (x / (1000 : Int64)) * (1000 : Int64)) (0 : Int64)).mp q))) ?_
        refine XS.lload X0.here hx rfl (hb hby d9_20) rfl ?_
        refine XS.lloadN X0.here hx rfl (hb hby d9_22) rfl ?_
        refine XS.ladd X0.here hx rfl (hb hby d9_23) rfl ?_
        exact Steps.refl _
      obtain ⟨fs, hr, hrun, hended, hW, hsame⟩ := X0.leave (v := some (.long ((x - (x / (1000 : Int64)) * (1000 : Int64)) + (1000 : Int64)))) (fun h => by rw [Bd.returns] at h; cases h)
      refine ⟨_, _, C_6.trans (retOut X0 hx Bd.returns rfl (Or.inr (Or.inl ⟨rfl, rfl, _, rfl⟩)) (hb hby d9_24) hr), hrun, hended, _, _, rfl, ?_, ⟨_, rfl⟩, hW, hsame.mono (by decide) (by decide)⟩
      show Q_fmJJ Z G1 sI sL sT sC sU dZ iE x h0 n0 (some (.long ((x - (x / (1000 : Int64)) * (1000 : Int64)) + (1000 : Int64)))) s₁.heap _
      rw [e0]
      exact ⟨((x - (x / (1000 : Int64)) * (1000 : Int64)) + (1000 : Int64)), rfl, N0, rfl, (own_fm2 hc_2 hc_4)⟩
  · skip
    have C_7 : Steps p.tables e below S0 (s₁.setTop (mkF m 27 #[.val (.long x), .second, .val (.long (1000 : Int64)), .second, .val (.long (x - (x / (1000 : Int64)) * (1000 : Int64))), .second] [(.long (x - (x / (1000 : Int64)) * (1000 : Int64)))])) := by
      refine C_1.trans ?_
      refine XS.ifYes X0.here hx rfl (pc0 := 10) (pc' := 25) rfl (hb hby d9_10) rfl (i0_ge_t (fun q => hc_2 ((lw_lt (x ^^^ (1000 : Int64)) (0 : Int64)).mp q))) (by decide) (by decide) ?_
      refine XS.lload X0.here hx rfl (hb hby d9_25) rfl ?_
      exact Steps.refl _
    obtain ⟨fs, hr, hrun, hended, hW, hsame⟩ := X0.leave (v := some (.long (x - (x / (1000 : Int64)) * (1000 : Int64)))) (fun h => by rw [Bd.returns] at h; cases h)
    refine ⟨_, _, C_7.trans (retOut X0 hx Bd.returns rfl (Or.inr (Or.inl ⟨rfl, rfl, _, rfl⟩)) (hb hby d9_27) hr), hrun, hended, _, _, rfl, ?_, ⟨_, rfl⟩, hW, hsame.mono (by decide) (by decide)⟩
    show Q_fmJJ Z G1 sI sL sT sC sU dZ iE x h0 n0 (some (.long (x - (x / (1000 : Int64)) * (1000 : Int64)))) s₁.heap _
    rw [e0]
    exact ⟨(x - (x / (1000 : Int64)) * (1000 : Int64)), rfl, N0, rfl, (own_fm0 hc_2)⟩
abbrev M207 : MethodName := ⟨"java/lang/Math", "floorMod", "(JI)I"⟩
theorem d10_0 : decode jdk_29_method_51_code 0 = .ok (.lload_n 0, 1) := by decide +kernel
theorem d10_1 : decode jdk_29_method_51_code 1 = .ok (.iload_n 2, 1) := by decide +kernel
theorem d10_2 : decode jdk_29_method_51_code 2 = .ok (.i2l, 1) := by decide +kernel
theorem w61 {Z : State} {a0 : Array Value} (hw : ∀ d ∈ tables_1, d.before a0 Z = true) : Jvm.Cond.before (Jvm.Cond.code ({ cls := "java/lang/Math", name := "floorMod", desc := "(JJ)J" } : Jvm.MethodName) jdk_29_method_52_code (6 : Nat) (Option.some Jvm.ClassFile.FieldType.long)) a0 Z = true := hw _ (List.mem_of_getElem? (i := 61) rfl)
theorem d10_3 : decode jdk_29_method_51_code 3 = .ok (.invokestatic 146, 3) := by decide +kernel
theorem w59 {Z : State} {a0 : Array Value} (hw : ∀ d ∈ tables_1, d.before a0 Z = true) : Jvm.Cond.before (Jvm.Cond.methodLink "java/lang/Math" (146 : Nat) ({ cls := "java/lang/Math", name := "floorMod", desc := "(JJ)J" } : Jvm.MethodName)) a0 Z = true := hw _ (List.mem_of_getElem? (i := 59) rfl)
theorem w60 {Z : State} {a0 : Array Value} (hw : ∀ d ∈ tables_1, d.before a0 Z = true) : Jvm.Cond.before (Jvm.Cond.static ({ cls := "java/lang/Math", name := "floorMod", desc := "(JJ)J" } : Jvm.MethodName)) a0 Z = true := hw _ (List.mem_of_getElem? (i := 60) rfl)
theorem d10_6 : decode jdk_29_method_51_code 6 = .ok (.l2i, 1) := by decide +kernel
theorem d10_7 : decode jdk_29_method_51_code 7 = .ok (.ireturn, 1) := by decide +kernel
abbrev R_fmJI : Room := { frames := 1, cells := 0, slots := 0, locals := 17 }
def Q_fmJI (Z : State) (G1 : Int32) (sI : Addr) (sL : Addr) (sT : Addr) (sC : Addr) (sU : Addr) (dZ : Addr) (iE : Addr) (x : Int64) (h0 : Heap) (n0 : Nat) (v : Option Value) (h : Heap) (L : List Loc) : Prop := (∃ r : Int32, v = some (.int r) ∧ Fr n0 L ∧ h = h0 ∧ (r.toInt = x.toInt % 1000))
set_option maxRecDepth 65536 in
set_option maxHeartbeats 40000000 in
theorem rm_fmJI (l : Launch) (Z : State) (a0 : Array Value) (hw : ∀ d ∈ tables_1, d.before a0 Z = true) (ws : List Jvm.Cond) (G1 : Int32) (sI : Addr) (sL : Addr) (sT : Addr) (sC : Addr) (sU : Addr) (dZ : Addr) (iE : Addr) (HG : own_G l Z a0 G1 sI sL sT sC sU dZ iE) (h0 : Heap) (n0 : Nat) (X00 : Old Z n0 h0) (x : Int64)  :
    own_CP l Z M207 jdk_29_method_51_code 3 (some .int) ws R_fmJI #[(.long x), (.int (1000 : Int32))] h0 (Q_fmJI Z G1 sI sL sT sC sU dZ iE x h0 n0) := by
  refine own_P (Jvm.Free.JP.mathPlain rfl (by decide +kernel)) ?_
  intro p e s m below meth c s₁ S0 Bd hZ hh hx hby hml hown hnm X0 e0 hS0d
  obtain ⟨O1, P1, OsI, OsL, OsT, OsC, OsU, NsL, NsT, NsC, NsU, OZ, EZ, FZ1, FZ2, OE, EE, FE1, FE2⟩ := id HG
  have N0 := Fr.nil n0
  have C0 : Steps p.tables e below S0 (s₁.setTop (mkF m 0 #[.val (.long x), .second, .val (.int (1000 : Int32))] [])) := by rw [hS0d]; exact castTop (ef_175 m x (1000 : Int32)) (Steps.refl _)
  obtain ⟨_, _, ⟨T_1, L_1, k_1, n_1⟩, -, X_1, ⟨Lc_1, hQ_1, l_1, y_1, z_1⟩, st_1⟩ := Jvm.LawKit.callS X0 hx (y := M186) hown (mvT hZ (w59 hw)) (mvT hZ (w60 hw)) (mvT hZ (w51 hw)) (mvT hZ (w61 hw)) (by decide) (backOf (W := 0) (rm_fmJJ l Z a0 hw [] G1 sI sL sT sC sU dZ iE HG h0 n0 X00 x ) hZ (w61 hw) (w51 hw) (by decide) (by decide)) (g := (mkF m 3 #[.val (.long x), .second, .val (.int (1000 : Int32))] [(.long (1000 : Int64)), (.long x)])) rfl (by rw [hml]; rfl) (argsL := [(.long x), (.long (1000 : Int64))]) (rest := []) (lenOf pd_181 rfl) rfl (by show 2 * 0 + _ ≤ _; exact Nat.le_of_eq rfl) (hb hby d10_3) (fun _ _ => ⟨rfl, e0, (by decide : 0 + 0 ≤ _), (by decide : 0 + 0 ≤ _)⟩)
  dsimp only [Pt.U, Pt.locs, Pt.cells, Pt.slots] at X_1 l_1 y_1 z_1 st_1 hQ_1
  subst l_1 y_1 z_1
  obtain ⟨j_2, rfl, N_3, e_4, g_5⟩ := hQ_1
  have N_6 := Fr.app N0 N_3
  have e_7 : T_1.heap = h0 := e_4
  have C_8 : Steps p.tables e below S0 (T_1.setTop (mkF m 7 #[.val (.long x), .second, .val (.int (1000 : Int32))] [(.int (j_2.toInt32))])) := by
    refine C0.trans ?_
    refine XS.lloadN X0.here hx rfl (hb hby d10_0) rfl ?_
    refine XS.iloadN X0.here hx rfl (hb hby d10_1) rfl ?_
    refine XS.i2l X0.here hx rfl (hb hby d10_2) rfl ?_
    refine st_1 _ ?_
    refine XS.l2i X_1.here hx rfl (hb hby d10_6) rfl ?_
    exact Steps.refl _
  obtain ⟨fs, hr, hrun, hended, hW, hsame⟩ := X_1.leave (v := some (.int (j_2.toInt32))) (fun h => by rw [Bd.returns] at h; cases h)
  refine ⟨_, _, C_8.trans (retOut X_1 hx Bd.returns rfl (Or.inl ⟨rfl, Or.inl rfl, _, rfl⟩) (hb hby d10_7) hr), hrun, hended, _, _, rfl, ?_, ⟨_, rfl⟩, hW, hsame.mono (by decide) (by decide)⟩
  show Q_fmJI Z G1 sI sL sT sC sU dZ iE x h0 n0 (some (.int (j_2.toInt32))) T_1.heap _
  rw [e_7]
  exact ⟨(j_2.toInt32), rfl, N_6, rfl, (own_l2i g_5)⟩
abbrev M217 : MethodName := ⟨"java/lang/Math", "abs", "(J)J"⟩
theorem ef_218 (m : MethodId) (x0 : Int64) : entryFrame m #[(.long x0)] 2 = mkF m 0 #[.val (.long x0), .second] [] := by first | (simp [entryFrame, mkF, argsToLocals, Value.category]; done) | rfl
theorem d11_0 : decode jdk_29_method_61_code 0 = .ok (.lload_n 0, 1) := by decide +kernel
theorem d11_1 : decode jdk_29_method_61_code 1 = .ok (.lconst 0, 1) := by decide +kernel
theorem d11_2 : decode jdk_29_method_61_code 2 = .ok (.lcmp, 1) := by decide +kernel
theorem d11_3 : decode jdk_29_method_61_code 3 = .ok (.ifCond .ge 8, 3) := by decide +kernel
theorem d11_11 : decode jdk_29_method_61_code 11 = .ok (.lload_n 0, 1) := by decide +kernel
theorem d11_12 : decode jdk_29_method_61_code 12 = .ok (.lreturn, 1) := by decide +kernel
abbrev R_abs1000 : Room := { frames := 0, cells := 0, slots := 0, locals := 0 }
def Q_abs1000 (Z : State) (G1 : Int32) (sI : Addr) (sL : Addr) (sT : Addr) (sC : Addr) (sU : Addr) (dZ : Addr) (iE : Addr)  (h0 : Heap) (n0 : Nat) (v : Option Value) (h : Heap) (L : List Loc) : Prop := (v = some (.long (1000 : Int64)) ∧ Fr n0 L ∧ h = h0)
set_option maxRecDepth 65536 in
set_option maxHeartbeats 40000000 in
theorem rm_abs1000 (l : Launch) (Z : State) (a0 : Array Value) (hw : ∀ d ∈ tables_1, d.before a0 Z = true) (ws : List Jvm.Cond) (G1 : Int32) (sI : Addr) (sL : Addr) (sT : Addr) (sC : Addr) (sU : Addr) (dZ : Addr) (iE : Addr) (HG : own_G l Z a0 G1 sI sL sT sC sU dZ iE) (h0 : Heap) (n0 : Nat) (X00 : Old Z n0 h0)   :
    own_CP l Z M217 jdk_29_method_61_code 2 (some .long) ws R_abs1000 #[(.long (1000 : Int64))] h0 (Q_abs1000 Z G1 sI sL sT sC sU dZ iE  h0 n0) := by
  refine own_P (Jvm.Free.JP.mathPlain rfl (by decide +kernel)) ?_
  intro p e s m below meth c s₁ S0 Bd hZ hh hx hby hml hown hnm X0 e0 hS0d
  obtain ⟨O1, P1, OsI, OsL, OsT, OsC, OsU, NsL, NsT, NsC, NsU, OZ, EZ, FZ1, FZ2, OE, EE, FE1, FE2⟩ := id HG
  have N0 := Fr.nil n0
  have C0 : Steps p.tables e below S0 (s₁.setTop (mkF m 0 #[.val (.long (1000 : Int64)), .second] [])) := by rw [hS0d]; exact castTop (ef_218 m (1000 : Int64)) (Steps.refl _)
  have C_1 : Steps p.tables e below S0 (s₁.setTop (mkF m 12 #[.val (.long (1000 : Int64)), .second] [(.long (1000 : Int64))])) := by
    refine C0.trans ?_
    refine XS.lloadN X0.here hx rfl (hb hby d11_0) rfl ?_
    refine XS.lconst X0.here hx rfl (hb hby d11_1) ?_
    refine XS.lcmp X0.here hx rfl (hb hby d11_2) rfl ?_
    refine XS.ifYes X0.here hx rfl (pc0 := 3) (pc' := 11) rfl (hb hby d11_3) rfl (by decide) (by decide) (by decide) ?_
    refine XS.lloadN X0.here hx rfl (hb hby d11_11) rfl ?_
    exact Steps.refl _
  obtain ⟨fs, hr, hrun, hended, hW, hsame⟩ := X0.leave (v := some (.long (1000 : Int64))) (fun h => by rw [Bd.returns] at h; cases h)
  refine ⟨_, _, C_1.trans (retOut X0 hx Bd.returns rfl (Or.inr (Or.inl ⟨rfl, rfl, _, rfl⟩)) (hb hby d11_12) hr), hrun, hended, _, _, rfl, ?_, ⟨_, rfl⟩, hW, hsame.mono (by decide) (by decide)⟩
  show Q_abs1000 Z G1 sI sL sT sC sU dZ iE  h0 n0 (some (.long (1000 : Int64))) s₁.heap _
  rw [e0]
  exact ⟨rfl, N0, rfl⟩
theorem d11_6 : decode jdk_29_method_61_code 6 = .ok (.lload_n 0, 1) := by decide +kernel
theorem d11_7 : decode jdk_29_method_61_code 7 = .ok (.lneg, 1) := by decide +kernel
theorem d11_8 : decode jdk_29_method_61_code 8 = .ok (.goto 4, 3) := by decide +kernel
abbrev R_absx : Room := { frames := 0, cells := 0, slots := 0, locals := 0 }
def Q_absx (Z : State) (G1 : Int32) (sI : Addr) (sL : Addr) (sT : Addr) (sC : Addr) (sU : Addr) (dZ : Addr) (iE : Addr) (x : Int64) (h0 : Heap) (n0 : Nat) (v : Option Value) (h : Heap) (L : List Loc) : Prop := (∃ r : Int64, v = some (.long r) ∧ Fr n0 L ∧ h = h0)
set_option maxRecDepth 65536 in
set_option maxHeartbeats 40000000 in
theorem rm_absx (l : Launch) (Z : State) (a0 : Array Value) (hw : ∀ d ∈ tables_1, d.before a0 Z = true) (ws : List Jvm.Cond) (G1 : Int32) (sI : Addr) (sL : Addr) (sT : Addr) (sC : Addr) (sU : Addr) (dZ : Addr) (iE : Addr) (HG : own_G l Z a0 G1 sI sL sT sC sU dZ iE) (h0 : Heap) (n0 : Nat) (X00 : Old Z n0 h0) (x : Int64)  :
    own_CP l Z M217 jdk_29_method_61_code 2 (some .long) ws R_absx #[(.long x)] h0 (Q_absx Z G1 sI sL sT sC sU dZ iE x h0 n0) := by
  refine own_P (Jvm.Free.JP.mathPlain rfl (by decide +kernel)) ?_
  intro p e s m below meth c s₁ S0 Bd hZ hh hx hby hml hown hnm X0 e0 hS0d
  obtain ⟨O1, P1, OsI, OsL, OsT, OsC, OsU, NsL, NsT, NsC, NsU, OZ, EZ, FZ1, FZ2, OE, EE, FE1, FE2⟩ := id HG
  have N0 := Fr.nil n0
  have C0 : Steps p.tables e below S0 (s₁.setTop (mkF m 0 #[.val (.long x), .second] [])) := by rw [hS0d]; exact castTop (ef_218 m x) (Steps.refl _)
  have C_1 : Steps p.tables e below S0 (s₁.setTop (mkF m 3 #[.val (.long x), .second] [(.int (lcmpW x (0 : Int64)))])) := by
    refine C0.trans ?_
    refine XS.lloadN X0.here hx rfl (hb hby d11_0) rfl ?_
    refine XS.lconst X0.here hx rfl (hb hby d11_1) ?_
    refine XS.lcmp X0.here hx rfl (hb hby d11_2) rfl ?_
    exact Steps.refl _
  by_cases hc_2 : x < (0 : Int64)
  · skip
    have C_3 : Steps p.tables e below S0 (s₁.setTop (mkF m 12 #[.val (.long x), .second] [(.long (-x))])) := by
      refine C_1.trans ?_
      refine XS.ifNo X0.here hx rfl (hb hby d11_3) rfl (i0_ge_f ((lw_lt x (0 : Int64)).mpr hc_2)) ?_
      refine XS.lloadN X0.here hx rfl (hb hby d11_6) rfl ?_
      refine XS.lneg X0.here hx rfl (hb hby d11_7) rfl ?_
      refine XS.goto X0.here hx rfl (pc0 := 8) (pc' := 12) rfl (hb hby d11_8) (by decide) (by decide) ?_
      exact Steps.refl _
    obtain ⟨fs, hr, hrun, hended, hW, hsame⟩ := X0.leave (v := some (.long (-x))) (fun h => by rw [Bd.returns] at h; cases h)
    refine ⟨_, _, C_3.trans (retOut X0 hx Bd.returns rfl (Or.inr (Or.inl ⟨rfl, rfl, _, rfl⟩)) (hb hby d11_12) hr), hrun, hended, _, _, rfl, ?_, ⟨_, rfl⟩, hW, hsame.mono (by decide) (by decide)⟩
    show Q_absx Z G1 sI sL sT sC sU dZ iE x h0 n0 (some (.long (-x))) s₁.heap _
    rw [e0]
    exact ⟨(-x), rfl, N0, rfl⟩
  · skip
    have C_4 : Steps p.tables e below S0 (s₁.setTop (mkF m 12 #[.val (.long x), .second] [(.long x)])) := by
      refine C_1.trans ?_
      refine XS.ifYes X0.here hx rfl (pc0 := 3) (pc' := 11) rfl (hb hby d11_3) rfl (i0_ge_t (fun q => hc_2 ((lw_lt x (0 : Int64)).mp q))) (by decide) (by decide) ?_
      refine XS.lloadN X0.here hx rfl (hb hby d11_11) rfl ?_
      exact Steps.refl _
    obtain ⟨fs, hr, hrun, hended, hW, hsame⟩ := X0.leave (v := some (.long x)) (fun h => by rw [Bd.returns] at h; cases h)
    refine ⟨_, _, C_4.trans (retOut X0 hx Bd.returns rfl (Or.inr (Or.inl ⟨rfl, rfl, _, rfl⟩)) (hb hby d11_12) hr), hrun, hended, _, _, rfl, ?_, ⟨_, rfl⟩, hW, hsame.mono (by decide) (by decide)⟩
    show Q_absx Z G1 sI sL sT sC sU dZ iE x h0 n0 (some (.long x)) s₁.heap _
    rw [e0]
    exact ⟨x, rfl, N0, rfl⟩
abbrev M228 : MethodName := ⟨"java/lang/Math", "multiplyExact", "(JJ)J"⟩
theorem ef_229 (m : MethodId) (x0 : Int64) (x1 : Int64) : entryFrame m #[(.long x0), (.long x1)] 10 = mkF m 0 #[.val (.long x0), .second, .val (.long x1), .second, .unset, .unset, .unset, .unset, .unset, .unset] [] := by first | (simp [entryFrame, mkF, argsToLocals, Value.category]; done) | rfl
theorem d12_0 : decode jdk_29_method_30_code 0 = .ok (.lload_n 0, 1) := by decide +kernel
theorem d12_1 : decode jdk_29_method_30_code 1 = .ok (.lload_n 2, 1) := by decide +kernel
theorem d12_2 : decode jdk_29_method_30_code 2 = .ok (.lmul, 1) := by decide +kernel
theorem d12_3 : decode jdk_29_method_30_code 3 = .ok (.lstore 4, 2) := by decide +kernel
theorem d12_5 : decode jdk_29_method_30_code 5 = .ok (.lload_n 0, 1) := by decide +kernel
theorem w143 {Z : State} {a0 : Array Value} (hw : ∀ d ∈ tables_1, d.before a0 Z = true) : Jvm.Cond.before (Jvm.Cond.code ({ cls := "java/lang/Math", name := "abs", desc := "(J)J" } : Jvm.MethodName) jdk_29_method_61_code (2 : Nat) (Option.some Jvm.ClassFile.FieldType.long)) a0 Z = true := hw _ (List.mem_of_getElem? (i := 143) rfl)
theorem pd_236 : parseMethodDescriptor "(J)J" = some ⟨[.long], some .long⟩ := by decide +kernel
theorem d12_6 : decode jdk_29_method_30_code 6 = .ok (.invokestatic 122, 3) := by decide +kernel
theorem w141 {Z : State} {a0 : Array Value} (hw : ∀ d ∈ tables_1, d.before a0 Z = true) : Jvm.Cond.before (Jvm.Cond.methodLink "java/lang/Math" (122 : Nat) ({ cls := "java/lang/Math", name := "abs", desc := "(J)J" } : Jvm.MethodName)) a0 Z = true := hw _ (List.mem_of_getElem? (i := 141) rfl)
theorem w142 {Z : State} {a0 : Array Value} (hw : ∀ d ∈ tables_1, d.before a0 Z = true) : Jvm.Cond.before (Jvm.Cond.static ({ cls := "java/lang/Math", name := "abs", desc := "(J)J" } : Jvm.MethodName)) a0 Z = true := hw _ (List.mem_of_getElem? (i := 142) rfl)
theorem d12_9 : decode jdk_29_method_30_code 9 = .ok (.lstore 6, 2) := by decide +kernel
theorem d12_11 : decode jdk_29_method_30_code 11 = .ok (.lload_n 2, 1) := by decide +kernel
theorem d12_12 : decode jdk_29_method_30_code 12 = .ok (.invokestatic 122, 3) := by decide +kernel
theorem d12_15 : decode jdk_29_method_30_code 15 = .ok (.lstore 8, 2) := by decide +kernel
theorem d12_17 : decode jdk_29_method_30_code 17 = .ok (.lload 6, 2) := by decide +kernel
theorem d12_19 : decode jdk_29_method_30_code 19 = .ok (.lload 8, 2) := by decide +kernel
theorem d12_21 : decode jdk_29_method_30_code 21 = .ok (.lor, 1) := by decide +kernel
theorem d12_22 : decode jdk_29_method_30_code 22 = .ok (.bipush 31, 2) := by decide +kernel
theorem d12_24 : decode jdk_29_method_30_code 24 = .ok (.lushr, 1) := by decide +kernel
theorem d12_25 : decode jdk_29_method_30_code 25 = .ok (.lconst 0, 1) := by decide +kernel
theorem d12_26 : decode jdk_29_method_30_code 26 = .ok (.lcmp, 1) := by decide +kernel
theorem d12_27 : decode jdk_29_method_30_code 27 = .ok (.ifCond .eq 44, 3) := by decide +kernel
theorem d12_71 : decode jdk_29_method_30_code 71 = .ok (.lload 4, 2) := by decide +kernel
theorem d12_73 : decode jdk_29_method_30_code 73 = .ok (.lreturn, 1) := by decide +kernel
theorem d12_30 : decode jdk_29_method_30_code 30 = .ok (.lload_n 2, 1) := by decide +kernel
theorem d12_31 : decode jdk_29_method_30_code 31 = .ok (.lconst 0, 1) := by decide +kernel
theorem d12_32 : decode jdk_29_method_30_code 32 = .ok (.lcmp, 1) := by decide +kernel
theorem d12_33 : decode jdk_29_method_30_code 33 = .ok (.ifCond .eq 12, 3) := by decide +kernel
theorem d12_36 : decode jdk_29_method_30_code 36 = .ok (.lload 4, 2) := by decide +kernel
theorem d12_38 : decode jdk_29_method_30_code 38 = .ok (.lload_n 2, 1) := by decide +kernel
theorem d12_39 : decode jdk_29_method_30_code 39 = .ok (.ldiv, 1) := by decide +kernel
theorem d12_40 : decode jdk_29_method_30_code 40 = .ok (.lload_n 0, 1) := by decide +kernel
theorem d12_41 : decode jdk_29_method_30_code 41 = .ok (.lcmp, 1) := by decide +kernel
theorem d12_42 : decode jdk_29_method_30_code 42 = .ok (.ifCond .ne 19, 3) := by decide +kernel
theorem d12_45 : decode jdk_29_method_30_code 45 = .ok (.lload_n 0, 1) := by decide +kernel
theorem w191 {Z : State} {a0 : Array Value} (hw : ∀ d ∈ tables_1, d.before a0 Z = true) : Jvm.Cond.before (Jvm.Cond.constantLong "java/lang/Math" (128 : Nat) (-9223372036854775808 : Int64)) a0 Z = true := hw _ (List.mem_of_getElem? (i := 191) rfl)
theorem d12_46 : decode jdk_29_method_30_code 46 = .ok (.ldc2_w 128, 3) := by decide +kernel
theorem d12_49 : decode jdk_29_method_30_code 49 = .ok (.lcmp, 1) := by decide +kernel
theorem d12_50 : decode jdk_29_method_30_code 50 = .ok (.ifCond .ne 21, 3) := by decide +kernel
abbrev R_mxJJ : Room := { frames := 1, cells := 0, slots := 0, locals := 13 }
def Q_mxJJ (Z : State) (G1 : Int32) (sI : Addr) (sL : Addr) (sT : Addr) (sC : Addr) (sU : Addr) (dZ : Addr) (iE : Addr) (a : Int64) (h0 : Heap) (n0 : Nat) (v : Option Value) (h : Heap) (L : List Loc) : Prop := (∃ r : Int64, v = some (.long r) ∧ Fr n0 L ∧ h = h0 ∧ (r.toInt = a.toInt * 1000))
set_option maxRecDepth 65536 in
set_option maxHeartbeats 40000000 in
theorem rm_mxJJ (l : Launch) (Z : State) (a0 : Array Value) (hw : ∀ d ∈ tables_1, d.before a0 Z = true) (ws : List Jvm.Cond) (G1 : Int32) (sI : Addr) (sL : Addr) (sT : Addr) (sC : Addr) (sU : Addr) (dZ : Addr) (iE : Addr) (HG : own_G l Z a0 G1 sI sL sT sC sU dZ iE) (h0 : Heap) (n0 : Nat) (X00 : Old Z n0 h0) (a : Int64) (hrr : -9223372036854775 ≤ a.toInt ∧ a.toInt ≤ 9223372036854775) :
    own_CP l Z M228 jdk_29_method_30_code 10 (some .long) ws R_mxJJ #[(.long a), (.long (1000 : Int64))] h0 (Q_mxJJ Z G1 sI sL sT sC sU dZ iE a h0 n0) := by
  refine own_P (Jvm.Free.JP.mathPlain rfl (by decide +kernel)) ?_
  intro p e s m below meth c s₁ S0 Bd hZ hh hx hby hml hown hnm X0 e0 hS0d
  obtain ⟨O1, P1, OsI, OsL, OsT, OsC, OsU, NsL, NsT, NsC, NsU, OZ, EZ, FZ1, FZ2, OE, EE, FE1, FE2⟩ := id HG
  have N0 := Fr.nil n0
  have C0 : Steps p.tables e below S0 (s₁.setTop (mkF m 0 #[.val (.long a), .second, .val (.long (1000 : Int64)), .second, .unset, .unset, .unset, .unset, .unset, .unset] [])) := by rw [hS0d]; exact castTop (ef_229 m a (1000 : Int64)) (Steps.refl _)
  obtain ⟨_, _, ⟨T_1, L_1, k_1, n_1⟩, -, X_1, ⟨Lc_1, hQ_1, l_1, y_1, z_1⟩, st_1⟩ := Jvm.LawKit.callS X0 hx (y := M217) hown (mvT hZ (w141 hw)) (mvT hZ (w142 hw)) (mvT hZ (w51 hw)) (mvT hZ (w143 hw)) (by decide) (backOf (W := 0) (rm_absx l Z a0 hw [] G1 sI sL sT sC sU dZ iE HG h0 n0 X00 a ) hZ (w143 hw) (w51 hw) (by decide) (by decide)) (g := (mkF m 6 #[.val (.long a), .second, .val (.long (1000 : Int64)), .second, .val (.long (a * (1000 : Int64))), .second, .unset, .unset, .unset, .unset] [(.long a)])) rfl (by rw [hml]; rfl) (argsL := [(.long a)]) (rest := []) (lenOf pd_236 rfl) rfl (by show 2 * 0 + _ ≤ _; exact Nat.le_of_eq rfl) (hb hby d12_6) (fun _ _ => ⟨rfl, e0, (by decide : 0 + 0 ≤ _), (by decide : 0 + 0 ≤ _)⟩)
  dsimp only [Pt.U, Pt.locs, Pt.cells, Pt.slots] at X_1 l_1 y_1 z_1 st_1 hQ_1
  subst l_1 y_1 z_1
  obtain ⟨j_2, rfl, N_3, e_4⟩ := hQ_1
  have N_5 := Fr.app N0 N_3
  have e_6 : T_1.heap = h0 := e_4
  obtain ⟨_, _, ⟨T_7, L_7, k_7, n_7⟩, -, X_7, ⟨Lc_7, hQ_7, l_7, y_7, z_7⟩, st_7⟩ := Jvm.LawKit.callS X_1 hx (y := M217) hown (mvT hZ (w141 hw)) (mvT hZ (w142 hw)) (mvT hZ (w51 hw)) (mvT hZ (w143 hw)) (by decide) (backOf (W := 0) (rm_abs1000 l Z a0 hw [] G1 sI sL sT sC sU dZ iE HG h0 n0 X00  ) hZ (w143 hw) (w51 hw) (by decide) (by decide)) (g := (mkF m 12 #[.val (.long a), .second, .val (.long (1000 : Int64)), .second, .val (.long (a * (1000 : Int64))), .second, .val (.long j_2), .second, .unset, .unset] [(.long (1000 : Int64))])) rfl (by rw [hml]; rfl) (argsL := [(.long (1000 : Int64))]) (rest := []) (lenOf pd_236 rfl) rfl (by show 2 * 0 + _ ≤ _; exact Nat.le_of_eq rfl) (hb hby d12_12) (fun _ _ => ⟨rfl, e_6, (by decide : 0 + 0 ≤ _), (by decide : 0 + 0 ≤ _)⟩)
  dsimp only [Pt.U, Pt.locs, Pt.cells, Pt.slots] at X_7 l_7 y_7 z_7 st_7 hQ_7
  subst l_7 y_7 z_7
  obtain ⟨rfl, N_8, e_9⟩ := hQ_7
  have N_10 := Fr.app N_5 N_8
  have e_11 : T_7.heap = h0 := e_9
  have C_12 : Steps p.tables e below S0 (T_7.setTop (mkF m 27 #[.val (.long a), .second, .val (.long (1000 : Int64)), .second, .val (.long (a * (1000 : Int64))), .second, .val (.long j_2), .second, .val (.long (1000 : Int64)), .second] [(.int (lcmpW (((j_2 ||| (1000 : Int64)).toUInt64 >>> ((31 : Int32) &&& 0x3f).toInt64.toUInt64).toInt64) (0 : Int64)))])) := by
    refine C0.trans ?_
    refine XS.lloadN X0.here hx rfl (hb hby d12_0) rfl ?_
    refine XS.lloadN X0.here hx rfl (hb hby d12_1) rfl ?_
    refine XS.lmul X0.here hx rfl (hb hby d12_2) rfl ?_
    refine XS.lstore X0.here hx rfl (hb hby d12_3) rfl (l' := #[.val (.long a), .second, .val (.long (1000 : Int64)), .second, .val (.long (a * (1000 : Int64))), .second, .unset, .unset, .unset, .unset]) rfl ?_
    refine XS.lloadN X0.here hx rfl (hb hby d12_5) rfl ?_
    refine st_1 _ ?_
    refine XS.lstore X_1.here hx rfl (hb hby d12_9) rfl (l' := #[.val (.long a), .second, .val (.long (1000 : Int64)), .second, .val (.long (a * (1000 : Int64))), .second, .val (.long j_2), .second, .unset, .unset]) rfl ?_
    refine XS.lloadN X_1.here hx rfl (hb hby d12_11) rfl ?_
    show Steps p.tables e below (T_1.setTop (mkF m 12 #[.val (.long a), .second, .val (.long (1000 : Int64)), .second, .val (.long (a * (1000 : Int64))), .second, .val (.long j_2), .second, .unset, .unset] [(.long (1000 : Int64))])) _
    refine st_7 _ ?_
    refine XS.lstore X_7.here hx rfl (hb hby d12_15) rfl (l' := #[.val (.long a), .second, .val (.long (1000 : Int64)), .second, .val (.long (a * (1000 : Int64))), .second, .val (.long j_2), .second, .val (.long (1000 : Int64)), .second]) rfl ?_
    refine XS.lload X_7.here hx rfl (hb hby d12_17) rfl ?_
    refine XS.lload X_7.here hx rfl (hb hby d12_19) rfl ?_
    refine XS.lor X_7.here hx rfl (hb hby d12_21) rfl ?_
    refine XS.bipush X_7.here hx rfl (hb hby d12_22) ?_
    refine XS.lushr X_7.here hx rfl (hb hby d12_24) rfl ?_
    refine XS.lconst X_7.here hx rfl (hb hby d12_25) ?_
    show Steps p.tables e below (T_7.setTop (mkF m 26 #[.val (.long a), .second, .val (.long (1000 : Int64)), .second, .val (.long (a * (1000 : Int64))), .second, .val (.long j_2), .second, .val (.long (1000 : Int64)), .second] [(.long (0 : Int64)), (.long (((j_2 ||| (1000 : Int64)).toUInt64 >>> ((31 : Int32) &&& 0x3f).toInt64.toUInt64).toInt64))])) _
    refine XS.lcmp X_7.here hx rfl (hb hby d12_26) rfl ?_
    exact Steps.refl _
  by_cases hc_13 : (((j_2 ||| (1000 : Int64)).toUInt64 >>> ((31 : Int32) &&& 0x3f).toInt64.toUInt64).toInt64) = (0 : Int64)
  · skip
    have C_14 : Steps p.tables e below S0 (T_7.setTop (mkF m 73 #[.val (.long a), .second, .val (.long (1000 : Int64)), .second, .val (.long (a * (1000 : Int64))), .second, .val (.long j_2), .second, .val (.long (1000 : Int64)), .second] [(.long (a * (1000 : Int64)))])) := by
      refine C_12.trans ?_
      refine XS.ifYes X_7.here hx rfl (pc0 := 27) (pc' := 71) rfl (hb hby d12_27) rfl (i0_eq_t ((lw_eq (((j_2 ||| (1000 : Int64)).toUInt64 >>> ((31 : Int32) &&& 0x3f).toInt64.toUInt64).toInt64) (0 : Int64)).mpr hc_13)) (by decide) (by decide) ?_
      refine XS.lload X_7.here hx rfl (hb hby d12_71) rfl ?_
      exact Steps.refl _
    obtain ⟨fs, hr, hrun, hended, hW, hsame⟩ := X_7.leave (v := some (.long (a * (1000 : Int64)))) (fun h => by rw [Bd.returns] at h; cases h)
    refine ⟨_, _, C_14.trans (retOut X_7 hx Bd.returns rfl (Or.inr (Or.inl ⟨rfl, rfl, _, rfl⟩)) (hb hby d12_73) hr), hrun, hended, _, _, rfl, ?_, ⟨_, rfl⟩, hW, hsame.mono (by decide) (by decide)⟩
    show Q_mxJJ Z G1 sI sL sT sC sU dZ iE a h0 n0 (some (.long (a * (1000 : Int64)))) T_7.heap _
    rw [e_11]
    exact ⟨(a * (1000 : Int64)), rfl, N_10, rfl, (own_mv hrr)⟩
  · skip
    have C_15 : Steps p.tables e below S0 (T_7.setTop (mkF m 73 #[.val (.long a), .second, .val (.long (1000 : Int64)), .second, .val (.long (a * (1000 : Int64))), .second, .val (.long j_2), .second, .val (.long (1000 : Int64)), .second] [(.long (a * (1000 : Int64)))])) := by
      refine C_12.trans ?_
      refine XS.ifNo X_7.here hx rfl (hb hby d12_27) rfl (i0_eq_f (fun q => hc_13 ((lw_eq (((j_2 ||| (1000 : Int64)).toUInt64 >>> ((31 : Int32) &&& 0x3f).toInt64.toUInt64).toInt64) (0 : Int64)).mp q))) ?_
      refine XS.lloadN X_7.here hx rfl (hb hby d12_30) rfl ?_
      refine XS.lconst X_7.here hx rfl (hb hby d12_31) ?_
      refine XS.lcmp X_7.here hx rfl (hb hby d12_32) rfl ?_
      refine XS.ifNo X_7.here hx rfl (hb hby d12_33) rfl (by decide) ?_
      refine XS.lload X_7.here hx rfl (hb hby d12_36) rfl ?_
      refine XS.lloadN X_7.here hx rfl (hb hby d12_38) rfl ?_
      refine XS.ldiv X_7.here hx rfl (hb hby d12_39) rfl (by decide) ?_
      show Steps p.tables e below (T_7.setTop (mkF m 40 #[.val (.long a), .second, .val (.long (1000 : Int64)), .second, .val (.long (a * (1000 : Int64))), .second, .val (.long j_2), .second, .val (.long (1000 : Int64)), .second] [(.long ((a * (1000 : Int64)) / (1000 : Int64)))])) _
      refine XS.lloadN X_7.here hx rfl (hb hby d12_40) rfl ?_
      refine XS.lcmp X_7.here hx rfl (hb hby d12_41) rfl ?_
      refine XS.ifNo X_7.here hx rfl (hb hby d12_42) rfl (i0_ne_f ((lw_eq ((a * (1000 : Int64)) / (1000 : Int64)) a).mpr (own_md hrr))) ?_
      refine XS.lloadN X_7.here hx rfl (hb hby d12_45) rfl ?_
      refine X_7.ldc2J hx hown (mvT hZ (w191 hw)) rfl (hb hby d12_46) ?_
      refine XS.lcmp X_7.here hx rfl (hb hby d12_49) rfl ?_
      refine XS.ifYes X_7.here hx rfl (pc0 := 50) (pc' := 71) rfl (hb hby d12_50) rfl (i0_ne_t (fun q => (own_mm hrr) ((lw_eq a (-9223372036854775808 : Int64)).mp q))) (by decide) (by decide) ?_
      refine XS.lload X_7.here hx rfl (hb hby d12_71) rfl ?_
      show Steps p.tables e below (T_7.setTop (mkF m 73 #[.val (.long a), .second, .val (.long (1000 : Int64)), .second, .val (.long (a * (1000 : Int64))), .second, .val (.long j_2), .second, .val (.long (1000 : Int64)), .second] [(.long (a * (1000 : Int64)))])) _
      exact Steps.refl _
    obtain ⟨fs, hr, hrun, hended, hW, hsame⟩ := X_7.leave (v := some (.long (a * (1000 : Int64)))) (fun h => by rw [Bd.returns] at h; cases h)
    refine ⟨_, _, C_15.trans (retOut X_7 hx Bd.returns rfl (Or.inr (Or.inl ⟨rfl, rfl, _, rfl⟩)) (hb hby d12_73) hr), hrun, hended, _, _, rfl, ?_, ⟨_, rfl⟩, hW, hsame.mono (by decide) (by decide)⟩
    show Q_mxJJ Z G1 sI sL sT sC sU dZ iE a h0 n0 (some (.long (a * (1000 : Int64)))) T_7.heap _
    rw [e_11]
    exact ⟨(a * (1000 : Int64)), rfl, N_10, rfl, (own_mv hrr)⟩
abbrev M269 : MethodName := ⟨"java/lang/Math", "multiplyExact", "(JI)J"⟩
theorem d13_0 : decode jdk_29_method_29_code 0 = .ok (.lload_n 0, 1) := by decide +kernel
theorem d13_1 : decode jdk_29_method_29_code 1 = .ok (.iload_n 2, 1) := by decide +kernel
theorem d13_2 : decode jdk_29_method_29_code 2 = .ok (.i2l, 1) := by decide +kernel
theorem w140 {Z : State} {a0 : Array Value} (hw : ∀ d ∈ tables_1, d.before a0 Z = true) : Jvm.Cond.before (Jvm.Cond.code ({ cls := "java/lang/Math", name := "multiplyExact", desc := "(JJ)J" } : Jvm.MethodName) jdk_29_method_30_code (10 : Nat) (Option.some Jvm.ClassFile.FieldType.long)) a0 Z = true := hw _ (List.mem_of_getElem? (i := 140) rfl)
theorem d13_3 : decode jdk_29_method_29_code 3 = .ok (.invokestatic 118, 3) := by decide +kernel
theorem w138 {Z : State} {a0 : Array Value} (hw : ∀ d ∈ tables_1, d.before a0 Z = true) : Jvm.Cond.before (Jvm.Cond.methodLink "java/lang/Math" (118 : Nat) ({ cls := "java/lang/Math", name := "multiplyExact", desc := "(JJ)J" } : Jvm.MethodName)) a0 Z = true := hw _ (List.mem_of_getElem? (i := 138) rfl)
theorem w139 {Z : State} {a0 : Array Value} (hw : ∀ d ∈ tables_1, d.before a0 Z = true) : Jvm.Cond.before (Jvm.Cond.static ({ cls := "java/lang/Math", name := "multiplyExact", desc := "(JJ)J" } : Jvm.MethodName)) a0 Z = true := hw _ (List.mem_of_getElem? (i := 139) rfl)
theorem d13_6 : decode jdk_29_method_29_code 6 = .ok (.lreturn, 1) := by decide +kernel
abbrev R_mxJI : Room := { frames := 2, cells := 0, slots := 0, locals := 34 }
def Q_mxJI (Z : State) (G1 : Int32) (sI : Addr) (sL : Addr) (sT : Addr) (sC : Addr) (sU : Addr) (dZ : Addr) (iE : Addr) (a : Int64) (h0 : Heap) (n0 : Nat) (v : Option Value) (h : Heap) (L : List Loc) : Prop := (∃ r : Int64, v = some (.long r) ∧ Fr n0 L ∧ h = h0 ∧ (r.toInt = a.toInt * 1000))
set_option maxRecDepth 65536 in
set_option maxHeartbeats 40000000 in
theorem rm_mxJI (l : Launch) (Z : State) (a0 : Array Value) (hw : ∀ d ∈ tables_1, d.before a0 Z = true) (ws : List Jvm.Cond) (G1 : Int32) (sI : Addr) (sL : Addr) (sT : Addr) (sC : Addr) (sU : Addr) (dZ : Addr) (iE : Addr) (HG : own_G l Z a0 G1 sI sL sT sC sU dZ iE) (h0 : Heap) (n0 : Nat) (X00 : Old Z n0 h0) (a : Int64) (hrr : -9223372036854775 ≤ a.toInt ∧ a.toInt ≤ 9223372036854775) :
    own_CP l Z M269 jdk_29_method_29_code 3 (some .long) ws R_mxJI #[(.long a), (.int (1000 : Int32))] h0 (Q_mxJI Z G1 sI sL sT sC sU dZ iE a h0 n0) := by
  refine own_P (Jvm.Free.JP.mathPlain rfl (by decide +kernel)) ?_
  intro p e s m below meth c s₁ S0 Bd hZ hh hx hby hml hown hnm X0 e0 hS0d
  obtain ⟨O1, P1, OsI, OsL, OsT, OsC, OsU, NsL, NsT, NsC, NsU, OZ, EZ, FZ1, FZ2, OE, EE, FE1, FE2⟩ := id HG
  have N0 := Fr.nil n0
  have C0 : Steps p.tables e below S0 (s₁.setTop (mkF m 0 #[.val (.long a), .second, .val (.int (1000 : Int32))] [])) := by rw [hS0d]; exact castTop (ef_175 m a (1000 : Int32)) (Steps.refl _)
  obtain ⟨_, _, ⟨T_1, L_1, k_1, n_1⟩, -, X_1, ⟨Lc_1, hQ_1, l_1, y_1, z_1⟩, st_1⟩ := Jvm.LawKit.callS X0 hx (y := M228) hown (mvT hZ (w138 hw)) (mvT hZ (w139 hw)) (mvT hZ (w51 hw)) (mvT hZ (w140 hw)) (by decide) (backOf (W := 0) (rm_mxJJ l Z a0 hw [] G1 sI sL sT sC sU dZ iE HG h0 n0 X00 a hrr) hZ (w140 hw) (w51 hw) (by decide) (by decide)) (g := (mkF m 3 #[.val (.long a), .second, .val (.int (1000 : Int32))] [(.long (1000 : Int64)), (.long a)])) rfl (by rw [hml]; rfl) (argsL := [(.long a), (.long (1000 : Int64))]) (rest := []) (lenOf pd_181 rfl) rfl (by show 2 * 0 + _ ≤ _; exact Nat.le_of_eq rfl) (hb hby d13_3) (fun _ _ => ⟨rfl, e0, (by decide : 0 + 0 ≤ _), (by decide : 0 + 0 ≤ _)⟩)
  dsimp only [Pt.U, Pt.locs, Pt.cells, Pt.slots] at X_1 l_1 y_1 z_1 st_1 hQ_1
  subst l_1 y_1 z_1
  obtain ⟨j_2, rfl, N_3, e_4, g_5⟩ := hQ_1
  have N_6 := Fr.app N0 N_3
  have e_7 : T_1.heap = h0 := e_4
  have C_8 : Steps p.tables e below S0 (T_1.setTop (mkF m 6 #[.val (.long a), .second, .val (.int (1000 : Int32))] [(.long j_2)])) := by
    refine C0.trans ?_
    refine XS.lloadN X0.here hx rfl (hb hby d13_0) rfl ?_
    refine XS.iloadN X0.here hx rfl (hb hby d13_1) rfl ?_
    refine XS.i2l X0.here hx rfl (hb hby d13_2) rfl ?_
    refine st_1 _ ?_
    exact Steps.refl _
  obtain ⟨fs, hr, hrun, hended, hW, hsame⟩ := X_1.leave (v := some (.long j_2)) (fun h => by rw [Bd.returns] at h; cases h)
  refine ⟨_, _, C_8.trans (retOut X_1 hx Bd.returns rfl (Or.inr (Or.inl ⟨rfl, rfl, _, rfl⟩)) (hb hby d13_6) hr), hrun, hended, _, _, rfl, ?_, ⟨_, rfl⟩, hW, hsame.mono (by decide) (by decide)⟩
  show Q_mxJI Z G1 sI sL sT sC sU dZ iE a h0 n0 (some (.long j_2)) T_1.heap _
  rw [e_7]
  exact ⟨j_2, rfl, N_6, rfl, g_5⟩
abbrev M278 : MethodName := ⟨"java/lang/Math", "addExact", "(JJ)J"⟩
theorem d14_0 : decode jdk_29_method_25_code 0 = .ok (.lload_n 0, 1) := by decide +kernel
theorem d14_1 : decode jdk_29_method_25_code 1 = .ok (.lload_n 2, 1) := by decide +kernel
theorem d14_2 : decode jdk_29_method_25_code 2 = .ok (.ladd, 1) := by decide +kernel
theorem d14_3 : decode jdk_29_method_25_code 3 = .ok (.lstore 4, 2) := by decide +kernel
theorem d14_5 : decode jdk_29_method_25_code 5 = .ok (.lload_n 0, 1) := by decide +kernel
theorem d14_6 : decode jdk_29_method_25_code 6 = .ok (.lload 4, 2) := by decide +kernel
theorem d14_8 : decode jdk_29_method_25_code 8 = .ok (.lxor, 1) := by decide +kernel
theorem d14_9 : decode jdk_29_method_25_code 9 = .ok (.lload_n 2, 1) := by decide +kernel
theorem d14_10 : decode jdk_29_method_25_code 10 = .ok (.lload 4, 2) := by decide +kernel
theorem d14_12 : decode jdk_29_method_25_code 12 = .ok (.lxor, 1) := by decide +kernel
theorem d14_13 : decode jdk_29_method_25_code 13 = .ok (.land, 1) := by decide +kernel
theorem d14_14 : decode jdk_29_method_25_code 14 = .ok (.lconst 0, 1) := by decide +kernel
theorem d14_15 : decode jdk_29_method_25_code 15 = .ok (.lcmp, 1) := by decide +kernel
theorem d14_16 : decode jdk_29_method_25_code 16 = .ok (.ifCond .ge 13, 3) := by decide +kernel
theorem d14_29 : decode jdk_29_method_25_code 29 = .ok (.lload 4, 2) := by decide +kernel
theorem d14_31 : decode jdk_29_method_25_code 31 = .ok (.lreturn, 1) := by decide +kernel
abbrev R_axJJ : Room := { frames := 0, cells := 0, slots := 0, locals := 0 }
def Q_axJJ (Z : State) (G1 : Int32) (sI : Addr) (sL : Addr) (sT : Addr) (sC : Addr) (sU : Addr) (dZ : Addr) (iE : Addr) (a : Int64) (b : Int64) (h0 : Heap) (n0 : Nat) (v : Option Value) (h : Heap) (L : List Loc) : Prop := (∃ r : Int64, v = some (.long r) ∧ Fr n0 L ∧ h = h0 ∧ (r.toInt = a.toInt + b.toInt))
set_option maxRecDepth 65536 in
set_option maxHeartbeats 40000000 in
theorem rm_axJJ (l : Launch) (Z : State) (a0 : Array Value) (hw : ∀ d ∈ tables_1, d.before a0 Z = true) (ws : List Jvm.Cond) (G1 : Int32) (sI : Addr) (sL : Addr) (sT : Addr) (sC : Addr) (sU : Addr) (dZ : Addr) (iE : Addr) (HG : own_G l Z a0 G1 sI sL sT sC sU dZ iE) (h0 : Heap) (n0 : Nat) (X00 : Old Z n0 h0) (a : Int64) (b : Int64) (hf : fits64 (a.toInt + b.toInt)) :
    own_CP l Z M278 jdk_29_method_25_code 6 (some .long) ws R_axJJ #[(.long a), (.long b)] h0 (Q_axJJ Z G1 sI sL sT sC sU dZ iE a b h0 n0) := by
  refine own_P (Jvm.Free.JP.mathPlain rfl (by decide +kernel)) ?_
  intro p e s m below meth c s₁ S0 Bd hZ hh hx hby hml hown hnm X0 e0 hS0d
  obtain ⟨O1, P1, OsI, OsL, OsT, OsC, OsU, NsL, NsT, NsC, NsU, OZ, EZ, FZ1, FZ2, OE, EE, FE1, FE2⟩ := id HG
  have N0 := Fr.nil n0
  have C0 : Steps p.tables e below S0 (s₁.setTop (mkF m 0 #[.val (.long a), .second, .val (.long b), .second, .unset, .unset] [])) := by rw [hS0d]; exact castTop (ef_151 m a b) (Steps.refl _)
  have C_1 : Steps p.tables e below S0 (s₁.setTop (mkF m 31 #[.val (.long a), .second, .val (.long b), .second, .val (.long (a + b)), .second] [(.long (a + b))])) := by
    refine C0.trans ?_
    refine XS.lloadN X0.here hx rfl (hb hby d14_0) rfl ?_
    refine XS.lloadN X0.here hx rfl (hb hby d14_1) rfl ?_
    refine XS.ladd X0.here hx rfl (hb hby d14_2) rfl ?_
    refine XS.lstore X0.here hx rfl (hb hby d14_3) rfl (l' := #[.val (.long a), .second, .val (.long b), .second, .val (.long (a + b)), .second]) rfl ?_
    refine XS.lloadN X0.here hx rfl (hb hby d14_5) rfl ?_
    refine XS.lload X0.here hx rfl (hb hby d14_6) rfl ?_
    refine XS.lxor X0.here hx rfl (hb hby d14_8) rfl ?_
    refine XS.lloadN X0.here hx rfl (hb hby d14_9) rfl ?_
    show Steps p.tables e below (s₁.setTop (mkF m 10 #[.val (.long a), .second, .val (.long b), .second, .val (.long (a + b)), .second] [(.long b), (.long (a ^^^ (a + b)))])) _
    refine XS.lload X0.here hx rfl (hb hby d14_10) rfl ?_
    refine XS.lxor X0.here hx rfl (hb hby d14_12) rfl ?_
    refine XS.land X0.here hx rfl (hb hby d14_13) rfl ?_
    refine XS.lconst X0.here hx rfl (hb hby d14_14) ?_
    refine XS.lcmp X0.here hx rfl (hb hby d14_15) rfl ?_
    refine XS.ifYes X0.here hx rfl (pc0 := 16) (pc' := 29) rfl (hb hby d14_16) rfl (i0_ge_t (fun q => (addOk64 hf) ((lw_lt ((a ^^^ (a + b)) &&& (b ^^^ (a + b))) (0 : Int64)).mp q))) (by decide) (by decide) ?_
    refine XS.lload X0.here hx rfl (hb hby d14_29) rfl ?_
    exact Steps.refl _
  obtain ⟨fs, hr, hrun, hended, hW, hsame⟩ := X0.leave (v := some (.long (a + b))) (fun h => by rw [Bd.returns] at h; cases h)
  refine ⟨_, _, C_1.trans (retOut X0 hx Bd.returns rfl (Or.inr (Or.inl ⟨rfl, rfl, _, rfl⟩)) (hb hby d14_31) hr), hrun, hended, _, _, rfl, ?_, ⟨_, rfl⟩, hW, hsame.mono (by decide) (by decide)⟩
  show Q_axJJ Z G1 sI sL sT sC sU dZ iE a b h0 n0 (some (.long (a + b))) s₁.heap _
  rw [e0]
  exact ⟨(a + b), rfl, N0, rfl, (own_av hf)⟩
abbrev M295 : MethodName := ⟨"java/time/Instant", "<init>", "(JI)V"⟩
theorem ef_296 (m : MethodId) (x0 : Addr) (x1 : Int64) (x2 : Int32) : entryFrame m #[(.ref x0), (.long x1), (.int x2)] 4 = mkF m 0 #[.val (.ref x0), .val (.long x1), .second, .val (.int x2)] [] := by first | (simp [entryFrame, mkF, argsToLocals, Value.category]; done) | rfl
theorem pn_297 : plainName "java/time/Instant" = true := by first | (simp [plainName, overriddenIn]; done) | decide +kernel
theorem d15_0 : decode jdk_2320_method_9_code 0 = .ok (.aload_n 0, 1) := by decide +kernel
theorem w74 {Z : State} {a0 : Array Value} (hw : ∀ d ∈ tables_1, d.before a0 Z = true) : Jvm.Cond.before (Jvm.Cond.methodLink "java/time/Instant" (137 : Nat) ({ cls := "java/lang/Object", name := "<init>", desc := "()V" } : Jvm.MethodName)) a0 Z = true := hw _ (List.mem_of_getElem? (i := 74) rfl)
theorem d15_1 : decode jdk_2320_method_9_code 1 = .ok (.invokespecial 137, 3) := by decide +kernel
theorem d15_4 : decode jdk_2320_method_9_code 4 = .ok (.aload_n 0, 1) := by decide +kernel
theorem d15_5 : decode jdk_2320_method_9_code 5 = .ok (.lload_n 1, 1) := by decide +kernel
theorem w75 {Z : State} {a0 : Array Value} (hw : ∀ d ∈ tables_1, d.before a0 Z = true) : Jvm.Cond.before (Jvm.Cond.fieldLink "java/time/Instant" (140 : Nat) "java/time/Instant" "seconds" "J") a0 Z = true := hw _ (List.mem_of_getElem? (i := 75) rfl)
theorem w76 {Z : State} {a0 : Array Value} (hw : ∀ d ∈ tables_1, d.before a0 Z = true) : Jvm.Cond.before (Jvm.Cond.laysFinal "java/time/Instant" "java/time/Instant" "seconds" "J") a0 Z = true := hw _ (List.mem_of_getElem? (i := 76) rfl)
theorem w69 {Z : State} {a0 : Array Value} (hw : ∀ d ∈ tables_1, d.before a0 Z = true) : Jvm.Cond.before (Jvm.Cond.instantiable "java/time/Instant" (2 : Nat)) a0 Z = true := hw _ (List.mem_of_getElem? (i := 69) rfl)
theorem d15_6 : decode jdk_2320_method_9_code 6 = .ok (.putfield 140, 3) := by decide +kernel
theorem d15_9 : decode jdk_2320_method_9_code 9 = .ok (.aload_n 0, 1) := by decide +kernel
theorem d15_10 : decode jdk_2320_method_9_code 10 = .ok (.iload_n 3, 1) := by decide +kernel
theorem w77 {Z : State} {a0 : Array Value} (hw : ∀ d ∈ tables_1, d.before a0 Z = true) : Jvm.Cond.before (Jvm.Cond.fieldLink "java/time/Instant" (144 : Nat) "java/time/Instant" "nanos" "I") a0 Z = true := hw _ (List.mem_of_getElem? (i := 77) rfl)
theorem w78 {Z : State} {a0 : Array Value} (hw : ∀ d ∈ tables_1, d.before a0 Z = true) : Jvm.Cond.before (Jvm.Cond.laysFinal "java/time/Instant" "java/time/Instant" "nanos" "I") a0 Z = true := hw _ (List.mem_of_getElem? (i := 78) rfl)
theorem d15_11 : decode jdk_2320_method_9_code 11 = .ok (.putfield 144, 3) := by decide +kernel
theorem d15_14 : decode jdk_2320_method_9_code 14 = .ok (.return_, 1) := by decide +kernel
abbrev R_ininit : Room := { frames := 1, cells := 0, slots := 0, locals := 12 }
def Q_ininit (Z : State) (G1 : Int32) (sI : Addr) (sL : Addr) (sT : Addr) (sC : Addr) (sU : Addr) (dZ : Addr) (iE : Addr) (d : Addr) (ss : Int64) (n : Int32) (h0 : Heap) (n0 : Nat) (v : Option Value) (h : Heap) (L : List Loc) : Prop := (v = none ∧ Fr n0 L ∧ Keep h0 h [d] ∧ (Fld Z h d "java/time/Instant" "seconds" "J" (.long ss)) ∧ (Fld Z h d "java/time/Instant" "nanos" "I" (.int n)))
set_option maxRecDepth 65536 in
set_option maxHeartbeats 40000000 in
theorem rm_ininit (l : Launch) (Z : State) (a0 : Array Value) (hw : ∀ d ∈ tables_1, d.before a0 Z = true) (ws : List Jvm.Cond) (G1 : Int32) (sI : Addr) (sL : Addr) (sT : Addr) (sC : Addr) (sU : Addr) (dZ : Addr) (iE : Addr) (HG : own_G l Z a0 G1 sI sL sT sC sU dZ iE) (h0 : Heap) (n0 : Nat) (X00 : Old Z n0 h0) (d : Addr) (ss : Int64) (n : Int32) (hp0 : Exa Z h0 d "java/time/Instant") (hp1 : Fld Z h0 d "java/time/Instant" "seconds" "J" (.long (0 : Int64))) (hp2 : Fld Z h0 d "java/time/Instant" "nanos" "I" (.int (0 : Int32))) (hp3 : n0 ≤ d) :
    own_CP l Z M295 jdk_2320_method_9_code 4 none ws R_ininit #[(.ref d), (.long ss), (.int n)] h0 (Q_ininit Z G1 sI sL sT sC sU dZ iE d ss n h0 n0) := by
  refine own_P (plainFor_of_name pn_297) ?_
  intro p e s m below meth c s₁ S0 Bd hZ hh hx hby hml hown hnm X0 e0 hS0d
  obtain ⟨O1, P1, OsI, OsL, OsT, OsC, OsU, NsL, NsT, NsC, NsU, OZ, EZ, FZ1, FZ2, OE, EE, FE1, FE2⟩ := id HG
  have N0 := Fr.nil n0
  have C0 : Steps p.tables e below S0 (s₁.setTop (mkF m 0 #[.val (.ref d), .val (.long ss), .second, .val (.int n)] [])) := by rw [hS0d]; exact castTop (ef_296 m d ss n) (Steps.refl _)
  obtain ⟨T_1, X_2, e_3, st_4⟩ := initO X0 hx hZ hown (w74 hw) (w20 hw) (w21 hw) e0 (g := (mkF m 1 #[.val (.ref d), .val (.long ss), .second, .val (.int n)] [(.ref d)])) rfl (by rw [hml]; rfl) rfl (hb hby d15_1) (by decide) (W := 0) (by show 2 * 0 + _ ≤ _; exact Nat.le_of_eq rfl) (by decide)
  obtain ⟨T_5, h_6, X_7, e_8, W_9, st_10⟩ := putF X_2 hx hZ hown (host := "") (Or.inl (w75 hw)) Via.refl e_3 hp1 hp0 (Or.inr ⟨(w76 hw), rfl, hnm⟩) (w69 hw) (ty := .long) (by decide) rfl rfl (g := (mkF m 6 #[.val (.ref d), .val (.long ss), .second, .val (.int n)] [(.long ss), (.ref d)])) rfl rfl (hb hby d15_6)
  have N_11 := Fr.snoc X_7 N0 hp3
  have F_12 : Fld Z h_6 d "java/time/Instant" "seconds" "J" (.long ss) := hp1.same W_9
  have F_13 : Fld Z h_6 d "java/time/Instant" "nanos" "I" (.int (0 : Int32)) := (hp2.other W_9 (Or.inr (slot_ne (Or.inr (w78 hw)) (Or.inr (w76 hw)) (by decide) (t := .int) (by decide) (t' := .long) (by decide))))
  have E_14 : Exa Z h_6 d "java/time/Instant" := (hp0.wr W_9)
  obtain ⟨T_15, h_16, X_17, e_18, W_19, st_20⟩ := putF X_7 hx hZ hown (host := "") (Or.inl (w77 hw)) Via.refl e_8 F_13 E_14 (Or.inr ⟨(w78 hw), rfl, hnm⟩) (w69 hw) (ty := .int) (by decide) rfl rfl (g := (mkF m 11 #[.val (.ref d), .val (.long ss), .second, .val (.int n)] [(.int n), (.ref d)])) rfl rfl (hb hby d15_11)
  have N_21 := Fr.snoc X_17 N_11 hp3
  have F_22 : Fld Z h_16 d "java/time/Instant" "nanos" "I" (.int n) := F_13.same W_19
  have C_23 : Steps p.tables e below S0 (T_15.setTop (mkF m 14 #[.val (.ref d), .val (.long ss), .second, .val (.int n)] [])) := by
    refine C0.trans ?_
    refine XS.aloadN X0.here hx rfl (hb hby d15_0) rfl rfl ?_
    refine st_4 _ ?_
    refine XS.aloadN X_2.here hx rfl (hb hby d15_4) rfl rfl ?_
    refine XS.lloadN X_2.here hx rfl (hb hby d15_5) rfl ?_
    refine st_10 _ ?_
    refine XS.aloadN X_7.here hx rfl (hb hby d15_9) rfl rfl ?_
    refine XS.iloadN X_7.here hx rfl (hb hby d15_10) rfl ?_
    refine st_20 _ ?_
    show Steps p.tables e below (T_15.setTop (mkF m 14 #[.val (.ref d), .val (.long ss), .second, .val (.int n)] [])) _
    exact Steps.refl _
  have F_24 : Fld Z h_16 d "java/time/Instant" "seconds" "J" (.long ss) := (F_12.other W_19 (Or.inr (slot_ne (Or.inr (w76 hw)) (Or.inr (w78 hw)) (by decide) (t := .long) (by decide) (t' := .int) (by decide))))
  have K_25 : Keep h0 h_16 [d] := (((Keep.refl _ _).wr W_9 (Or.inl (List.mem_of_getElem? (i := 0) rfl))).wr W_19 (Or.inl (List.mem_of_getElem? (i := 0) rfl)))
  obtain ⟨fs, hr, hrun, hended, hW, hsame⟩ := X_17.leave (v := none) (fun _ => rfl)
  refine ⟨_, _, C_23.trans (X_17.returnOut hx Bd.returns (hb hby d15_14) hr), hrun, hended, _, _, rfl, ?_, ⟨_, rfl⟩, hW, hsame.mono (by decide) (by decide)⟩
  show Q_ininit Z G1 sI sL sT sC sU dZ iE d ss n h0 n0 (none) T_15.heap _
  rw [e_18]
  exact ⟨rfl, N_21, K_25, F_24, F_22⟩
abbrev M313 : MethodName := ⟨"java/time/Instant", "create", "(JI)Ljava/time/Instant;"⟩
theorem d16_0 : decode jdk_2320_method_8_code 0 = .ok (.lload_n 0, 1) := by decide +kernel
theorem d16_1 : decode jdk_2320_method_8_code 1 = .ok (.iload_n 2, 1) := by decide +kernel
theorem d16_2 : decode jdk_2320_method_8_code 2 = .ok (.i2l, 1) := by decide +kernel
theorem d16_3 : decode jdk_2320_method_8_code 3 = .ok (.lor, 1) := by decide +kernel
theorem d16_4 : decode jdk_2320_method_8_code 4 = .ok (.lconst 0, 1) := by decide +kernel
theorem d16_5 : decode jdk_2320_method_8_code 5 = .ok (.lcmp, 1) := by decide +kernel
theorem d16_6 : decode jdk_2320_method_8_code 6 = .ok (.ifCond .ne 7, 3) := by decide +kernel
theorem w195 {Z : State} {a0 : Array Value} (hw : ∀ d ∈ tables_1, d.before a0 Z = true) : Jvm.Cond.before (Jvm.Cond.fieldLink "java/time/Instant" (121 : Nat) "java/time/Instant" "EPOCH" "Ljava/time/Instant;") a0 Z = true := hw _ (List.mem_of_getElem? (i := 195) rfl)
theorem d16_9 : decode jdk_2320_method_8_code 9 = .ok (.getstatic 121, 3) := by decide +kernel
theorem d16_12 : decode jdk_2320_method_8_code 12 = .ok (.areturn, 1) := by decide +kernel
theorem d16_13 : decode jdk_2320_method_8_code 13 = .ok (.lload_n 0, 1) := by decide +kernel
theorem w66 {Z : State} {a0 : Array Value} (hw : ∀ d ∈ tables_1, d.before a0 Z = true) : Jvm.Cond.before (Jvm.Cond.constantLong "java/time/Instant" (125 : Nat) (-31557014167219200 : Int64)) a0 Z = true := hw _ (List.mem_of_getElem? (i := 66) rfl)
theorem d16_14 : decode jdk_2320_method_8_code 14 = .ok (.ldc2_w 125, 3) := by decide +kernel
theorem d16_17 : decode jdk_2320_method_8_code 17 = .ok (.lcmp, 1) := by decide +kernel
theorem d16_18 : decode jdk_2320_method_8_code 18 = .ok (.ifCond .lt 11, 3) := by decide +kernel
theorem d16_21 : decode jdk_2320_method_8_code 21 = .ok (.lload_n 0, 1) := by decide +kernel
theorem w67 {Z : State} {a0 : Array Value} (hw : ∀ d ∈ tables_1, d.before a0 Z = true) : Jvm.Cond.before (Jvm.Cond.constantLong "java/time/Instant" (127 : Nat) (31556889864403199 : Int64)) a0 Z = true := hw _ (List.mem_of_getElem? (i := 67) rfl)
theorem d16_22 : decode jdk_2320_method_8_code 22 = .ok (.ldc2_w 127, 3) := by decide +kernel
theorem d16_25 : decode jdk_2320_method_8_code 25 = .ok (.lcmp, 1) := by decide +kernel
theorem d16_26 : decode jdk_2320_method_8_code 26 = .ok (.ifCond .le 13, 3) := by decide +kernel
theorem w68 {Z : State} {a0 : Array Value} (hw : ∀ d ∈ tables_1, d.before a0 Z = true) : Jvm.Cond.before (Jvm.Cond.classLink "java/time/Instant" (21 : Nat) "java/time/Instant") a0 Z = true := hw _ (List.mem_of_getElem? (i := 68) rfl)
theorem w47 {Z : State} {a0 : Array Value} (hw : ∀ d ∈ tables_1, d.before a0 Z = true) : Jvm.Cond.before (Jvm.Cond.initialized "java/time/Instant") a0 Z = true := hw _ (List.mem_of_getElem? (i := 47) rfl)
theorem d16_39 : decode jdk_2320_method_8_code 39 = .ok (.new 21, 3) := by decide +kernel
theorem d16_42 : decode jdk_2320_method_8_code 42 = .ok (.dup, 1) := by decide +kernel
theorem d16_43 : decode jdk_2320_method_8_code 43 = .ok (.lload_n 0, 1) := by decide +kernel
theorem d16_44 : decode jdk_2320_method_8_code 44 = .ok (.iload_n 2, 1) := by decide +kernel
theorem w73 {Z : State} {a0 : Array Value} (hw : ∀ d ∈ tables_1, d.before a0 Z = true) : Jvm.Cond.before (Jvm.Cond.code ({ cls := "java/time/Instant", name := "<init>", desc := "(JI)V" } : Jvm.MethodName) jdk_2320_method_9_code (4 : Nat) (Option.none : Option Jvm.ClassFile.FieldType)) a0 Z = true := hw _ (List.mem_of_getElem? (i := 73) rfl)
theorem pd_341 : parseMethodDescriptor "(JI)V" = some ⟨[.long, .int], none⟩ := by decide +kernel
theorem d16_45 : decode jdk_2320_method_8_code 45 = .ok (.invokespecial 134, 3) := by decide +kernel
theorem w70 {Z : State} {a0 : Array Value} (hw : ∀ d ∈ tables_1, d.before a0 Z = true) : Jvm.Cond.before (Jvm.Cond.methodLink "java/time/Instant" (134 : Nat) ({ cls := "java/time/Instant", name := "<init>", desc := "(JI)V" } : Jvm.MethodName)) a0 Z = true := hw _ (List.mem_of_getElem? (i := 70) rfl)
theorem w71 {Z : State} {a0 : Array Value} (hw : ∀ d ∈ tables_1, d.before a0 Z = true) : Jvm.Cond.before (Jvm.Cond.instanceMethod ({ cls := "java/time/Instant", name := "<init>", desc := "(JI)V" } : Jvm.MethodName)) a0 Z = true := hw _ (List.mem_of_getElem? (i := 71) rfl)
theorem d16_48 : decode jdk_2320_method_8_code 48 = .ok (.areturn, 1) := by decide +kernel
abbrev R_incre : Room := { frames := 2, cells := 1, slots := 2, locals := 28 }
def Q_incre (Z : State) (G1 : Int32) (sI : Addr) (sL : Addr) (sT : Addr) (sC : Addr) (sU : Addr) (dZ : Addr) (iE : Addr) (ss : Int64) (n : Int32) (h0 : Heap) (n0 : Nat) (v : Option Value) (h : Heap) (L : List Loc) : Prop := (∃ d : Addr, ∃ s2 : Int64, ∃ n2 : Int32, v = some (.ref d) ∧ Fr n0 L ∧ Keep h0 h [] ∧ (Exa Z h d "java/time/Instant") ∧ (Fld Z h d "java/time/Instant" "seconds" "J" (.long s2)) ∧ (Fld Z h d "java/time/Instant" "nanos" "I" (.int n2)) ∧ (s2 = ss) ∧ (n2 = n))
set_option maxRecDepth 65536 in
set_option maxHeartbeats 40000000 in
theorem rm_incre (l : Launch) (Z : State) (a0 : Array Value) (hw : ∀ d ∈ tables_1, d.before a0 Z = true) (ws : List Jvm.Cond) (G1 : Int32) (sI : Addr) (sL : Addr) (sT : Addr) (sC : Addr) (sU : Addr) (dZ : Addr) (iE : Addr) (HG : own_G l Z a0 G1 sI sL sT sC sU dZ iE) (h0 : Heap) (n0 : Nat) (X00 : Old Z n0 h0) (ss : Int64) (n : Int32) (hss : -9223372036854776 ≤ ss.toInt ∧ ss.toInt ≤ 9223372036854775) :
    own_CP l Z M313 jdk_2320_method_8_code 3 (some (.object "java/time/Instant")) ws R_incre #[(.long ss), (.int n)] h0 (Q_incre Z G1 sI sL sT sC sU dZ iE ss n h0 n0) := by
  refine own_P (plainFor_of_name pn_297) ?_
  intro p e s m below meth c s₁ S0 Bd hZ hh hx hby hml hown hnm X0 e0 hS0d
  obtain ⟨O1, P1, OsI, OsL, OsT, OsC, OsU, NsL, NsT, NsC, NsU, OZ, EZ, FZ1, FZ2, OE, EE, FE1, FE2⟩ := id HG
  have N0 := Fr.nil n0
  have C0 : Steps p.tables e below S0 (s₁.setTop (mkF m 0 #[.val (.long ss), .second, .val (.int n)] [])) := by rw [hS0d]; exact castTop (ef_175 m ss n) (Steps.refl _)
  have C_1 : Steps p.tables e below S0 (s₁.setTop (mkF m 6 #[.val (.long ss), .second, .val (.int n)] [(.int (lcmpW (ss ||| (n.toInt64)) (0 : Int64)))])) := by
    refine C0.trans ?_
    refine XS.lloadN X0.here hx rfl (hb hby d16_0) rfl ?_
    refine XS.iloadN X0.here hx rfl (hb hby d16_1) rfl ?_
    refine XS.i2l X0.here hx rfl (hb hby d16_2) rfl ?_
    refine XS.lor X0.here hx rfl (hb hby d16_3) rfl ?_
    refine XS.lconst X0.here hx rfl (hb hby d16_4) ?_
    refine XS.lcmp X0.here hx rfl (hb hby d16_5) rfl ?_
    exact Steps.refl _
  by_cases hc_2 : (ss ||| (n.toInt64)) = (0 : Int64)
  · skip
    obtain ⟨T_3, X_4, e_5, st_6⟩ := getS X0 hx hZ (host := "") hown (w195 hw) Via.refl e0 (OE.ext X00.2) (g := (mkF m 9 #[.val (.long ss), .second, .val (.int n)] [])) rfl (hb hby d16_9)
    have C_7 : Steps p.tables e below S0 (T_3.setTop (mkF m 12 #[.val (.long ss), .second, .val (.int n)] [(.ref iE)])) := by
      refine C_1.trans ?_
      refine XS.ifNo X0.here hx rfl (hb hby d16_6) rfl (i0_ne_f ((lw_eq (ss ||| (n.toInt64)) (0 : Int64)).mpr hc_2)) ?_
      refine st_6 _ ?_
      exact Steps.refl _
    have K_8 : Keep h0 h0 [] := (Keep.refl _ _)
    obtain ⟨fs, hr, hrun, hended, hW, hsame⟩ := X_4.leave (v := some (.ref iE)) (fun h => by rw [Bd.returns] at h; cases h)
    refine ⟨_, _, C_7.trans (retOut X_4 hx Bd.returns rfl (Or.inr (Or.inr (Or.inr (Or.inr ⟨rfl, rfl, rfl⟩)))) (hb hby d16_12) hr), hrun, hended, _, _, rfl, ?_, ⟨_, rfl⟩, hW, hsame.mono (by decide) (by decide)⟩
    show Q_incre Z G1 sI sL sT sC sU dZ iE ss n h0 n0 (some (.ref iE)) T_3.heap _
    rw [e_5]
    exact ⟨iE, (0 : Int64), (0 : Int32), rfl, N0, K_8, (EE.ext X00.2), (FE1.ext X00.2), (FE2.ext X00.2), (own_or1 hc_2), (own_or2 hc_2)⟩
  · skip
    obtain ⟨T_9, h_10, X_11, e_12, E_13, A_14, D_15, U_19, st_16⟩ := newO X0 hx hZ hown (w68 hw) (w69 hw) (w47 hw) e0 (g := (mkF m 39 #[.val (.long ss), .second, .val (.int n)] [])) rfl (hb hby d16_39) (by decide) (by decide)
    obtain ⟨a_17, g_18⟩ : ∃ z, z = h0.size := ⟨_, rfl⟩
    rw [← g_18] at A_14 D_15 st_16 U_19
    have O_20 : Old Z n0 h_10 := (X00.ext E_13)
    obtain ⟨_, _, ⟨T_21, L_21, k_21, n_21⟩, -, X_21, ⟨Lc_21, hQ_21, l_21, y_21, z_21⟩, st_21⟩ := X_11.specialBack hx (y := M295) rfl hown (mvT hZ (w70 hw)) (mvT hZ (w71 hw)) (mvT hZ (w73 hw)) (by decide) (backOf (W := 1) (rm_ininit l Z a0 hw [] G1 sI sL sT sC sU dZ iE HG h_10 n0 O_20 a_17 ss n A_14 (D_15 (Or.inr (w76 hw)) (ty := .long) (by decide)) (D_15 (Or.inr (w78 hw)) (ty := .int) (by decide)) (Nat.le_trans (own_n0 X00) (Nat.le_of_eq g_18.symm))) hZ (w73 hw) (w47 hw) (by decide) (by decide)) (g := (mkF m 45 #[.val (.long ss), .second, .val (.int n)] [(.int n), (.long ss), (.ref a_17), (.ref a_17)])) rfl (by rw [hml]; rfl) (Steps.refl _) (a := a_17) (argsL := [(.long ss), (.int n)]) (rest := [(.ref a_17)]) (lenOf pd_341 rfl) rfl (by show 2 * 0 + _ ≤ _; exact Nat.le_of_eq rfl) (hb hby d16_45) (fun _ _ => ⟨rfl, e_12, (by decide : 1 + 0 ≤ _), (by decide : 2 + 0 ≤ _)⟩)
    dsimp only [Pt.U, Pt.locs, Pt.cells, Pt.slots] at X_21 l_21 y_21 z_21 st_21 hQ_21
    subst l_21 y_21 z_21
    obtain ⟨rfl, N_22, K_23, g_24, g_25⟩ := hQ_21
    have N_26 := Fr.app N0 N_22
    have C_27 : Steps p.tables e below S0 (T_21.setTop (mkF m 48 #[.val (.long ss), .second, .val (.int n)] [(.ref a_17)])) := by
      refine C_1.trans ?_
      refine XS.ifYes X0.here hx rfl (pc0 := 6) (pc' := 13) rfl (hb hby d16_6) rfl (i0_ne_t (fun q => hc_2 ((lw_eq (ss ||| (n.toInt64)) (0 : Int64)).mp q))) (by decide) (by decide) ?_
      refine XS.lloadN X0.here hx rfl (hb hby d16_13) rfl ?_
      refine X0.ldc2J hx hown (mvT hZ (w66 hw)) rfl (hb hby d16_14) ?_
      refine XS.lcmp X0.here hx rfl (hb hby d16_17) rfl ?_
      refine XS.ifNo X0.here hx rfl (hb hby d16_18) rfl (i0_lt_f (fun q => (own_sLo hss) ((lw_lt ss (-31557014167219200 : Int64)).mp q))) ?_
      refine XS.lloadN X0.here hx rfl (hb hby d16_21) rfl ?_
      refine X0.ldc2J hx hown (mvT hZ (w67 hw)) rfl (hb hby d16_22) ?_
      refine XS.lcmp X0.here hx rfl (hb hby d16_25) rfl ?_
      show Steps p.tables e below (s₁.setTop (mkF m 26 #[.val (.long ss), .second, .val (.int n)] [(.int (lcmpW ss (31556889864403199 : Int64)))])) _
      refine XS.ifYes X0.here hx rfl (pc0 := 26) (pc' := 39) rfl (hb hby d16_26) rfl (i0_le_t (fun q => (own_sHi hss) ((lw_gt ss (31556889864403199 : Int64)).mp q))) (by decide) (by decide) ?_
      refine st_16 _ ?_
      refine XS.dup X_11.here hx rfl (hb hby d16_42) rfl rfl ?_
      refine XS.lloadN X_11.here hx rfl (hb hby d16_43) rfl ?_
      refine XS.iloadN X_11.here hx rfl (hb hby d16_44) rfl ?_
      refine st_21.trans ?_
      exact Steps.refl _
    have E_28 : Exa Z T_21.heap a_17 "java/time/Instant" := (A_14.keep K_23)
    have K_29 : Keep h0 T_21.heap [] := (((Keep.refl _ _).ext E_13).trans K_23 (allS (Or.inr (Nat.le_trans (Nat.le_refl _) (Nat.le_of_eq g_18.symm))) all0))
    obtain ⟨fs, hr, hrun, hended, hW, hsame⟩ := X_21.leave (v := some (.ref a_17)) (fun h => by rw [Bd.returns] at h; cases h)
    refine ⟨_, _, C_27.trans (retOut X_21 hx Bd.returns rfl (Or.inr (Or.inr (Or.inr (Or.inr ⟨rfl, rfl, rfl⟩)))) (hb hby d16_48) hr), hrun, hended, _, _, rfl, ?_, ⟨_, rfl⟩, hW, hsame.mono (by decide) (by decide)⟩
    show Q_incre Z G1 sI sL sT sC sU dZ iE ss n h0 n0 (some (.ref a_17)) T_21.heap _
    exact ⟨a_17, ss, n, rfl, N_26, K_29, E_28, g_24, g_25, rfl, rfl⟩
abbrev M346 : MethodName := ⟨"java/time/Instant", "ofEpochMilli", "(J)Ljava/time/Instant;"⟩
theorem ef_347 (m : MethodId) (x0 : Int64) : entryFrame m #[(.long x0)] 5 = mkF m 0 #[.val (.long x0), .second, .unset, .unset, .unset] [] := by first | (simp [entryFrame, mkF, argsToLocals, Value.category]; done) | rfl
theorem d17_0 : decode jdk_2320_method_5_code 0 = .ok (.lload_n 0, 1) := by decide +kernel
theorem d17_1 : decode jdk_2320_method_5_code 1 = .ok (.sipush 1000, 3) := by decide +kernel
theorem w52 {Z : State} {a0 : Array Value} (hw : ∀ d ∈ tables_1, d.before a0 Z = true) : Jvm.Cond.before (Jvm.Cond.code ({ cls := "java/lang/Math", name := "floorDiv", desc := "(JI)J" } : Jvm.MethodName) jdk_29_method_48_code (3 : Nat) (Option.some Jvm.ClassFile.FieldType.long)) a0 Z = true := hw _ (List.mem_of_getElem? (i := 52) rfl)
theorem pd_351 : parseMethodDescriptor "(JI)J" = some ⟨[.long, .int], some .long⟩ := by decide +kernel
theorem d17_4 : decode jdk_2320_method_5_code 4 = .ok (.invokestatic 40, 3) := by decide +kernel
theorem w49 {Z : State} {a0 : Array Value} (hw : ∀ d ∈ tables_1, d.before a0 Z = true) : Jvm.Cond.before (Jvm.Cond.methodLink "java/time/Instant" (40 : Nat) ({ cls := "java/lang/Math", name := "floorDiv", desc := "(JI)J" } : Jvm.MethodName)) a0 Z = true := hw _ (List.mem_of_getElem? (i := 49) rfl)
theorem w50 {Z : State} {a0 : Array Value} (hw : ∀ d ∈ tables_1, d.before a0 Z = true) : Jvm.Cond.before (Jvm.Cond.static ({ cls := "java/lang/Math", name := "floorDiv", desc := "(JI)J" } : Jvm.MethodName)) a0 Z = true := hw _ (List.mem_of_getElem? (i := 50) rfl)
theorem d17_7 : decode jdk_2320_method_5_code 7 = .ok (.lstore_n 2, 1) := by decide +kernel
theorem d17_8 : decode jdk_2320_method_5_code 8 = .ok (.lload_n 0, 1) := by decide +kernel
theorem d17_9 : decode jdk_2320_method_5_code 9 = .ok (.sipush 1000, 3) := by decide +kernel
theorem w58 {Z : State} {a0 : Array Value} (hw : ∀ d ∈ tables_1, d.before a0 Z = true) : Jvm.Cond.before (Jvm.Cond.code ({ cls := "java/lang/Math", name := "floorMod", desc := "(JI)I" } : Jvm.MethodName) jdk_29_method_51_code (3 : Nat) (Option.some Jvm.ClassFile.FieldType.int)) a0 Z = true := hw _ (List.mem_of_getElem? (i := 58) rfl)
theorem pd_359 : parseMethodDescriptor "(JI)I" = some ⟨[.long, .int], some .int⟩ := by decide +kernel
theorem d17_12 : decode jdk_2320_method_5_code 12 = .ok (.invokestatic 43, 3) := by decide +kernel
theorem w56 {Z : State} {a0 : Array Value} (hw : ∀ d ∈ tables_1, d.before a0 Z = true) : Jvm.Cond.before (Jvm.Cond.methodLink "java/time/Instant" (43 : Nat) ({ cls := "java/lang/Math", name := "floorMod", desc := "(JI)I" } : Jvm.MethodName)) a0 Z = true := hw _ (List.mem_of_getElem? (i := 56) rfl)
theorem w57 {Z : State} {a0 : Array Value} (hw : ∀ d ∈ tables_1, d.before a0 Z = true) : Jvm.Cond.before (Jvm.Cond.static ({ cls := "java/lang/Math", name := "floorMod", desc := "(JI)I" } : Jvm.MethodName)) a0 Z = true := hw _ (List.mem_of_getElem? (i := 57) rfl)
theorem d17_15 : decode jdk_2320_method_5_code 15 = .ok (.istore 4, 2) := by decide +kernel
theorem d17_17 : decode jdk_2320_method_5_code 17 = .ok (.lload_n 2, 1) := by decide +kernel
theorem d17_18 : decode jdk_2320_method_5_code 18 = .ok (.iload 4, 2) := by decide +kernel
theorem w62 {Z : State} {a0 : Array Value} (hw : ∀ d ∈ tables_1, d.before a0 Z = true) : Jvm.Cond.before (Jvm.Cond.constant "java/time/Instant" (46 : Nat) (1000000 : Int32)) a0 Z = true := hw _ (List.mem_of_getElem? (i := 62) rfl)
theorem d17_20 : decode jdk_2320_method_5_code 20 = .ok (.ldc 46, 2) := by decide +kernel
theorem d17_22 : decode jdk_2320_method_5_code 22 = .ok (.imul, 1) := by decide +kernel
theorem w65 {Z : State} {a0 : Array Value} (hw : ∀ d ∈ tables_1, d.before a0 Z = true) : Jvm.Cond.before (Jvm.Cond.code ({ cls := "java/time/Instant", name := "create", desc := "(JI)Ljava/time/Instant;" } : Jvm.MethodName) jdk_2320_method_8_code (3 : Nat) (Option.some (Jvm.ClassFile.FieldType.object "java/time/Instant"))) a0 Z = true := hw _ (List.mem_of_getElem? (i := 65) rfl)
theorem pd_370 : parseMethodDescriptor "(JI)Ljava/time/Instant;" = some ⟨[.long, .int], some (.object "java/time/Instant")⟩ := by decide +kernel
theorem d17_23 : decode jdk_2320_method_5_code 23 = .ok (.invokestatic 20, 3) := by decide +kernel
theorem w63 {Z : State} {a0 : Array Value} (hw : ∀ d ∈ tables_1, d.before a0 Z = true) : Jvm.Cond.before (Jvm.Cond.methodLink "java/time/Instant" (20 : Nat) ({ cls := "java/time/Instant", name := "create", desc := "(JI)Ljava/time/Instant;" } : Jvm.MethodName)) a0 Z = true := hw _ (List.mem_of_getElem? (i := 63) rfl)
theorem w64 {Z : State} {a0 : Array Value} (hw : ∀ d ∈ tables_1, d.before a0 Z = true) : Jvm.Cond.before (Jvm.Cond.static ({ cls := "java/time/Instant", name := "create", desc := "(JI)Ljava/time/Instant;" } : Jvm.MethodName)) a0 Z = true := hw _ (List.mem_of_getElem? (i := 64) rfl)
theorem d17_26 : decode jdk_2320_method_5_code 26 = .ok (.areturn, 1) := by decide +kernel
abbrev R_inof : Room := { frames := 3, cells := 1, slots := 2, locals := 42 }
def Q_inof (Z : State) (G1 : Int32) (sI : Addr) (sL : Addr) (sT : Addr) (sC : Addr) (sU : Addr) (dZ : Addr) (iE : Addr) (x : Int64) (h0 : Heap) (n0 : Nat) (v : Option Value) (h : Heap) (L : List Loc) : Prop := (∃ d : Addr, ∃ ss : Int64, ∃ n : Int32, v = some (.ref d) ∧ Fr n0 L ∧ Keep h0 h [] ∧ (Exa Z h d "java/time/Instant") ∧ (Fld Z h d "java/time/Instant" "seconds" "J" (.long ss)) ∧ (Fld Z h d "java/time/Instant" "nanos" "I" (.int n)) ∧ (ss.toInt = x.toInt / 1000) ∧ (n.toInt = x.toInt % 1000 * 1000000))
set_option maxRecDepth 65536 in
set_option maxHeartbeats 40000000 in
theorem rm_inof (l : Launch) (Z : State) (a0 : Array Value) (hw : ∀ d ∈ tables_1, d.before a0 Z = true) (ws : List Jvm.Cond) (G1 : Int32) (sI : Addr) (sL : Addr) (sT : Addr) (sC : Addr) (sU : Addr) (dZ : Addr) (iE : Addr) (HG : own_G l Z a0 G1 sI sL sT sC sU dZ iE) (h0 : Heap) (n0 : Nat) (X00 : Old Z n0 h0) (x : Int64)  :
    own_CP l Z M346 jdk_2320_method_5_code 5 (some (.object "java/time/Instant")) ws R_inof #[(.long x)] h0 (Q_inof Z G1 sI sL sT sC sU dZ iE x h0 n0) := by
  refine own_P (plainFor_of_name pn_297) ?_
  intro p e s m below meth c s₁ S0 Bd hZ hh hx hby hml hown hnm X0 e0 hS0d
  obtain ⟨O1, P1, OsI, OsL, OsT, OsC, OsU, NsL, NsT, NsC, NsU, OZ, EZ, FZ1, FZ2, OE, EE, FE1, FE2⟩ := id HG
  have N0 := Fr.nil n0
  have C0 : Steps p.tables e below S0 (s₁.setTop (mkF m 0 #[.val (.long x), .second, .unset, .unset, .unset] [])) := by rw [hS0d]; exact castTop (ef_347 m x) (Steps.refl _)
  obtain ⟨_, _, ⟨T_1, L_1, k_1, n_1⟩, -, X_1, ⟨Lc_1, hQ_1, l_1, y_1, z_1⟩, st_1⟩ := Jvm.LawKit.callS X0 hx (y := M174) hown (mvT hZ (w49 hw)) (mvT hZ (w50 hw)) (mvT hZ (w51 hw)) (mvT hZ (w52 hw)) (by decide) (backOf (W := 0) (rm_fdJI l Z a0 hw [] G1 sI sL sT sC sU dZ iE HG h0 n0 X00 x ) hZ (w52 hw) (w51 hw) (by decide) (by decide)) (g := (mkF m 4 #[.val (.long x), .second, .unset, .unset, .unset] [(.int (1000 : Int32)), (.long x)])) rfl (by rw [hml]; rfl) (argsL := [(.long x), (.int (1000 : Int32))]) (rest := []) (lenOf pd_351 rfl) rfl (by show 2 * 0 + _ ≤ _; exact Nat.le_of_eq rfl) (hb hby d17_4) (fun _ _ => ⟨rfl, e0, (by decide : 0 + 0 ≤ _), (by decide : 0 + 0 ≤ _)⟩)
  dsimp only [Pt.U, Pt.locs, Pt.cells, Pt.slots] at X_1 l_1 y_1 z_1 st_1 hQ_1
  subst l_1 y_1 z_1
  obtain ⟨j_2, rfl, N_3, e_4, g_5⟩ := hQ_1
  have N_6 := Fr.app N0 N_3
  have e_7 : T_1.heap = h0 := e_4
  obtain ⟨_, _, ⟨T_8, L_8, k_8, n_8⟩, -, X_8, ⟨Lc_8, hQ_8, l_8, y_8, z_8⟩, st_8⟩ := Jvm.LawKit.callS X_1 hx (y := M207) hown (mvT hZ (w56 hw)) (mvT hZ (w57 hw)) (mvT hZ (w51 hw)) (mvT hZ (w58 hw)) (by decide) (backOf (W := 0) (rm_fmJI l Z a0 hw [] G1 sI sL sT sC sU dZ iE HG h0 n0 X00 x ) hZ (w58 hw) (w51 hw) (by decide) (by decide)) (g := (mkF m 12 #[.val (.long x), .second, .val (.long j_2), .second, .unset] [(.int (1000 : Int32)), (.long x)])) rfl (by rw [hml]; rfl) (argsL := [(.long x), (.int (1000 : Int32))]) (rest := []) (lenOf pd_359 rfl) rfl (by show 2 * 0 + _ ≤ _; exact Nat.le_of_eq rfl) (hb hby d17_12) (fun _ _ => ⟨rfl, e_7, (by decide : 0 + 0 ≤ _), (by decide : 0 + 0 ≤ _)⟩)
  dsimp only [Pt.U, Pt.locs, Pt.cells, Pt.slots] at X_8 l_8 y_8 z_8 st_8 hQ_8
  subst l_8 y_8 z_8
  obtain ⟨i_9, rfl, N_10, e_11, g_12⟩ := hQ_8
  have N_13 := Fr.app N_6 N_10
  have e_14 : T_8.heap = h0 := e_11
  obtain ⟨_, _, ⟨T_15, L_15, k_15, n_15⟩, -, X_15, ⟨Lc_15, hQ_15, l_15, y_15, z_15⟩, st_15⟩ := Jvm.LawKit.callS X_8 hx (y := M313) hown (mvT hZ (w63 hw)) (mvT hZ (w64 hw)) (mvT hZ (w47 hw)) (mvT hZ (w65 hw)) (by decide) (backOf (W := 0) (rm_incre l Z a0 hw [] G1 sI sL sT sC sU dZ iE HG h0 n0 X00 j_2 (i_9 * (1000000 : Int32)) (own_sr g_5)) hZ (w65 hw) (w47 hw) (by decide) (by decide)) (g := (mkF m 23 #[.val (.long x), .second, .val (.long j_2), .second, .val (.int i_9)] [(.int (i_9 * (1000000 : Int32))), (.long j_2)])) rfl (by rw [hml]; rfl) (argsL := [(.long j_2), (.int (i_9 * (1000000 : Int32)))]) (rest := []) (lenOf pd_370 rfl) rfl (by show 2 * 0 + _ ≤ _; exact Nat.le_of_eq rfl) (hb hby d17_23) (fun _ _ => ⟨rfl, e_14, (by decide : 0 + 1 ≤ _), (by decide : 0 + 2 ≤ _)⟩)
  dsimp only [Pt.U, Pt.locs, Pt.cells, Pt.slots] at X_15 l_15 y_15 z_15 st_15 hQ_15
  subst l_15 y_15 z_15
  obtain ⟨a_16, j_17, i_18, rfl, N_19, K_20, g_21, g_22, g_23, g_24, g_25⟩ := hQ_15
  have N_26 := Fr.app N_13 N_19
  have C_27 : Steps p.tables e below S0 (T_15.setTop (mkF m 26 #[.val (.long x), .second, .val (.long j_2), .second, .val (.int i_9)] [(.ref a_16)])) := by
    refine C0.trans ?_
    refine XS.lloadN X0.here hx rfl (hb hby d17_0) rfl ?_
    refine XS.sipush X0.here hx rfl (hb hby d17_1) ?_
    refine st_1 _ ?_
    refine XS.lstoreN X_1.here hx rfl (hb hby d17_7) rfl (l' := #[.val (.long x), .second, .val (.long j_2), .second, .unset]) rfl ?_
    refine XS.lloadN X_1.here hx rfl (hb hby d17_8) rfl ?_
    refine XS.sipush X_1.here hx rfl (hb hby d17_9) ?_
    refine st_8 _ ?_
    refine XS.istore X_8.here hx rfl (hb hby d17_15) rfl (l' := #[.val (.long x), .second, .val (.long j_2), .second, .val (.int i_9)]) rfl ?_
    show Steps p.tables e below (T_8.setTop (mkF m 17 #[.val (.long x), .second, .val (.long j_2), .second, .val (.int i_9)] [])) _
    refine XS.lloadN X_8.here hx rfl (hb hby d17_17) rfl ?_
    refine XS.iload X_8.here hx rfl (hb hby d17_18) rfl ?_
    refine X_8.ldcI hx hown (mvT hZ (w62 hw)) rfl (hb hby d17_20) ?_
    refine XS.imul X_8.here hx rfl (hb hby d17_22) rfl ?_
    refine st_15 _ ?_
    exact Steps.refl _
  have K_28 : Keep h0 T_15.heap [] := ((Keep.refl _ _).trans K_20 all0)
  obtain ⟨fs, hr, hrun, hended, hW, hsame⟩ := X_15.leave (v := some (.ref a_16)) (fun h => by rw [Bd.returns] at h; cases h)
  refine ⟨_, _, C_27.trans (retOut X_15 hx Bd.returns rfl (Or.inr (Or.inr (Or.inr (Or.inr ⟨rfl, rfl, rfl⟩)))) (hb hby d17_26) hr), hrun, hended, _, _, rfl, ?_, ⟨_, rfl⟩, hW, hsame.mono (by decide) (by decide)⟩
  show Q_inof Z G1 sI sL sT sC sU dZ iE x h0 n0 (some (.ref a_16)) T_15.heap _
  exact ⟨a_16, j_17, i_18, rfl, N_26, K_28, g_21, g_22, g_23, (own_i1 g_24 g_5), (own_i2 g_25 g_12)⟩
abbrev M375 : MethodName := ⟨"java/time/Instant", "toEpochMilli", "()J"⟩
theorem ef_376 (m : MethodId) (x0 : Addr) : entryFrame m #[(.ref x0)] 5 = mkF m 0 #[.val (.ref x0), .unset, .unset, .unset, .unset] [] := by first | (simp [entryFrame, mkF, argsToLocals, Value.category]; done) | rfl
theorem d18_0 : decode jdk_2320_method_40_code 0 = .ok (.aload_n 0, 1) := by decide +kernel
theorem d18_1 : decode jdk_2320_method_40_code 1 = .ok (.getfield 140, 3) := by decide +kernel
theorem d18_4 : decode jdk_2320_method_40_code 4 = .ok (.lconst 0, 1) := by decide +kernel
theorem d18_5 : decode jdk_2320_method_40_code 5 = .ok (.lcmp, 1) := by decide +kernel
theorem d18_6 : decode jdk_2320_method_40_code 6 = .ok (.ifCond .ge 42, 3) := by decide +kernel
theorem d18_9 : decode jdk_2320_method_40_code 9 = .ok (.aload_n 0, 1) := by decide +kernel
theorem d18_10 : decode jdk_2320_method_40_code 10 = .ok (.getfield 144, 3) := by decide +kernel
theorem d18_13 : decode jdk_2320_method_40_code 13 = .ok (.ifCond .le 35, 3) := by decide +kernel
theorem d18_16 : decode jdk_2320_method_40_code 16 = .ok (.aload_n 0, 1) := by decide +kernel
theorem d18_17 : decode jdk_2320_method_40_code 17 = .ok (.getfield 140, 3) := by decide +kernel
theorem d18_20 : decode jdk_2320_method_40_code 20 = .ok (.lconst 1, 1) := by decide +kernel
theorem d18_21 : decode jdk_2320_method_40_code 21 = .ok (.ladd, 1) := by decide +kernel
theorem d18_22 : decode jdk_2320_method_40_code 22 = .ok (.sipush 1000, 3) := by decide +kernel
theorem w137 {Z : State} {a0 : Array Value} (hw : ∀ d ∈ tables_1, d.before a0 Z = true) : Jvm.Cond.before (Jvm.Cond.code ({ cls := "java/lang/Math", name := "multiplyExact", desc := "(JI)J" } : Jvm.MethodName) jdk_29_method_29_code (3 : Nat) (Option.some Jvm.ClassFile.FieldType.long)) a0 Z = true := hw _ (List.mem_of_getElem? (i := 137) rfl)
theorem d18_25 : decode jdk_2320_method_40_code 25 = .ok (.invokestatic 270, 3) := by decide +kernel
theorem w135 {Z : State} {a0 : Array Value} (hw : ∀ d ∈ tables_1, d.before a0 Z = true) : Jvm.Cond.before (Jvm.Cond.methodLink "java/time/Instant" (270 : Nat) ({ cls := "java/lang/Math", name := "multiplyExact", desc := "(JI)J" } : Jvm.MethodName)) a0 Z = true := hw _ (List.mem_of_getElem? (i := 135) rfl)
theorem w136 {Z : State} {a0 : Array Value} (hw : ∀ d ∈ tables_1, d.before a0 Z = true) : Jvm.Cond.before (Jvm.Cond.static ({ cls := "java/lang/Math", name := "multiplyExact", desc := "(JI)J" } : Jvm.MethodName)) a0 Z = true := hw _ (List.mem_of_getElem? (i := 136) rfl)
theorem d18_28 : decode jdk_2320_method_40_code 28 = .ok (.lstore_n 1, 1) := by decide +kernel
theorem d18_29 : decode jdk_2320_method_40_code 29 = .ok (.aload_n 0, 1) := by decide +kernel
theorem d18_30 : decode jdk_2320_method_40_code 30 = .ok (.getfield 144, 3) := by decide +kernel
theorem d18_33 : decode jdk_2320_method_40_code 33 = .ok (.ldc 46, 2) := by decide +kernel
theorem d18_35 : decode jdk_2320_method_40_code 35 = .ok (.idiv, 1) := by decide +kernel
theorem d18_36 : decode jdk_2320_method_40_code 36 = .ok (.sipush 1000, 3) := by decide +kernel
theorem d18_39 : decode jdk_2320_method_40_code 39 = .ok (.isub, 1) := by decide +kernel
theorem d18_40 : decode jdk_2320_method_40_code 40 = .ok (.i2l, 1) := by decide +kernel
theorem d18_41 : decode jdk_2320_method_40_code 41 = .ok (.lstore_n 3, 1) := by decide +kernel
theorem d18_42 : decode jdk_2320_method_40_code 42 = .ok (.lload_n 1, 1) := by decide +kernel
theorem d18_43 : decode jdk_2320_method_40_code 43 = .ok (.lload_n 3, 1) := by decide +kernel
theorem w146 {Z : State} {a0 : Array Value} (hw : ∀ d ∈ tables_1, d.before a0 Z = true) : Jvm.Cond.before (Jvm.Cond.code ({ cls := "java/lang/Math", name := "addExact", desc := "(JJ)J" } : Jvm.MethodName) jdk_29_method_25_code (6 : Nat) (Option.some Jvm.ClassFile.FieldType.long)) a0 Z = true := hw _ (List.mem_of_getElem? (i := 146) rfl)
theorem d18_44 : decode jdk_2320_method_40_code 44 = .ok (.invokestatic 34, 3) := by decide +kernel
theorem w144 {Z : State} {a0 : Array Value} (hw : ∀ d ∈ tables_1, d.before a0 Z = true) : Jvm.Cond.before (Jvm.Cond.methodLink "java/time/Instant" (34 : Nat) ({ cls := "java/lang/Math", name := "addExact", desc := "(JJ)J" } : Jvm.MethodName)) a0 Z = true := hw _ (List.mem_of_getElem? (i := 144) rfl)
theorem w145 {Z : State} {a0 : Array Value} (hw : ∀ d ∈ tables_1, d.before a0 Z = true) : Jvm.Cond.before (Jvm.Cond.static ({ cls := "java/lang/Math", name := "addExact", desc := "(JJ)J" } : Jvm.MethodName)) a0 Z = true := hw _ (List.mem_of_getElem? (i := 145) rfl)
theorem d18_47 : decode jdk_2320_method_40_code 47 = .ok (.lreturn, 1) := by decide +kernel
theorem d18_48 : decode jdk_2320_method_40_code 48 = .ok (.aload_n 0, 1) := by decide +kernel
theorem d18_49 : decode jdk_2320_method_40_code 49 = .ok (.getfield 140, 3) := by decide +kernel
theorem d18_52 : decode jdk_2320_method_40_code 52 = .ok (.sipush 1000, 3) := by decide +kernel
theorem d18_55 : decode jdk_2320_method_40_code 55 = .ok (.invokestatic 270, 3) := by decide +kernel
theorem d18_58 : decode jdk_2320_method_40_code 58 = .ok (.lstore_n 1, 1) := by decide +kernel
theorem d18_59 : decode jdk_2320_method_40_code 59 = .ok (.lload_n 1, 1) := by decide +kernel
theorem d18_60 : decode jdk_2320_method_40_code 60 = .ok (.aload_n 0, 1) := by decide +kernel
theorem d18_61 : decode jdk_2320_method_40_code 61 = .ok (.getfield 144, 3) := by decide +kernel
theorem d18_64 : decode jdk_2320_method_40_code 64 = .ok (.ldc 46, 2) := by decide +kernel
theorem d18_66 : decode jdk_2320_method_40_code 66 = .ok (.idiv, 1) := by decide +kernel
theorem d18_67 : decode jdk_2320_method_40_code 67 = .ok (.i2l, 1) := by decide +kernel
theorem d18_68 : decode jdk_2320_method_40_code 68 = .ok (.invokestatic 34, 3) := by decide +kernel
theorem d18_71 : decode jdk_2320_method_40_code 71 = .ok (.lreturn, 1) := by decide +kernel
abbrev R_into : Room := { frames := 3, cells := 0, slots := 0, locals := 48 }
def Q_into (Z : State) (G1 : Int32) (sI : Addr) (sL : Addr) (sT : Addr) (sC : Addr) (sU : Addr) (dZ : Addr) (iE : Addr) (d : Addr) (ss : Int64) (n : Int32) (h0 : Heap) (n0 : Nat) (v : Option Value) (h : Heap) (L : List Loc) : Prop := (∃ r : Int64, v = some (.long r) ∧ Fr n0 L ∧ h = h0 ∧ (r.toInt = ss.toInt * 1000 + n.toInt / 1000000))
set_option maxRecDepth 65536 in
set_option maxHeartbeats 40000000 in
theorem rm_into (l : Launch) (Z : State) (a0 : Array Value) (hw : ∀ d ∈ tables_1, d.before a0 Z = true) (ws : List Jvm.Cond) (G1 : Int32) (sI : Addr) (sL : Addr) (sT : Addr) (sC : Addr) (sU : Addr) (dZ : Addr) (iE : Addr) (HG : own_G l Z a0 G1 sI sL sT sC sU dZ iE) (h0 : Heap) (n0 : Nat) (X00 : Old Z n0 h0) (d : Addr) (ss : Int64) (n : Int32) (hp0 : Fld Z h0 d "java/time/Instant" "seconds" "J" (.long ss)) (hp1 : Fld Z h0 d "java/time/Instant" "nanos" "I" (.int n)) (hA : 0 ≤ n.toInt ∧ n.toInt < 1000000000 ∧ n.toInt % 1000000 = 0) (hB : -9223372036854775808 ≤ ss.toInt * 1000 + n.toInt / 1000000 ∧ ss.toInt * 1000 + n.toInt / 1000000 < 9223372036854775808) :
    own_CP l Z M375 jdk_2320_method_40_code 5 (some .long) ws R_into #[(.ref d)] h0 (Q_into Z G1 sI sL sT sC sU dZ iE d ss n h0 n0) := by
  refine own_P (plainFor_of_name pn_297) ?_
  intro p e s m below meth c s₁ S0 Bd hZ hh hx hby hml hown hnm X0 e0 hS0d
  obtain ⟨O1, P1, OsI, OsL, OsT, OsC, OsU, NsL, NsT, NsC, NsU, OZ, EZ, FZ1, FZ2, OE, EE, FE1, FE2⟩ := id HG
  have N0 := Fr.nil n0
  have C0 : Steps p.tables e below S0 (s₁.setTop (mkF m 0 #[.val (.ref d), .unset, .unset, .unset, .unset] [])) := by rw [hS0d]; exact castTop (ef_376 m d) (Steps.refl _)
  obtain ⟨T_1, X_2, e_3, st_4⟩ := getF X0 hx hZ hown (host := "") (Or.inl (w75 hw)) Via.refl e0 hp0 (g := (mkF m 1 #[.val (.ref d), .unset, .unset, .unset, .unset] [(.ref d)])) rfl rfl (hb hby d18_1)
  have C_5 : Steps p.tables e below S0 (T_1.setTop (mkF m 6 #[.val (.ref d), .unset, .unset, .unset, .unset] [(.int (lcmpW ss (0 : Int64)))])) := by
    refine C0.trans ?_
    refine XS.aloadN X0.here hx rfl (hb hby d18_0) rfl rfl ?_
    refine st_4 _ ?_
    refine XS.lconst X_2.here hx rfl (hb hby d18_4) ?_
    refine XS.lcmp X_2.here hx rfl (hb hby d18_5) rfl ?_
    exact Steps.refl _
  by_cases hc_6 : ss < (0 : Int64)
  · skip
    obtain ⟨T_7, X_8, e_9, st_10⟩ := getF X_2 hx hZ hown (host := "") (Or.inl (w77 hw)) Via.refl e_3 hp1 (g := (mkF m 10 #[.val (.ref d), .unset, .unset, .unset, .unset] [(.ref d)])) rfl rfl (hb hby d18_10)
    have C_11 : Steps p.tables e below S0 (T_7.setTop (mkF m 13 #[.val (.ref d), .unset, .unset, .unset, .unset] [(.int n)])) := by
      refine C_5.trans ?_
      refine XS.ifNo X_2.here hx rfl (hb hby d18_6) rfl (i0_ge_f ((lw_lt ss (0 : Int64)).mpr hc_6)) ?_
      refine XS.aloadN X_2.here hx rfl (hb hby d18_9) rfl rfl ?_
      refine st_10 _ ?_
      exact Steps.refl _
    by_cases hc_12 : (0 : Int32) < n
    · skip
      obtain ⟨T_13, X_14, e_15, st_16⟩ := getF X_8 hx hZ hown (host := "") (Or.inl (w75 hw)) Via.refl e_9 hp0 (g := (mkF m 17 #[.val (.ref d), .unset, .unset, .unset, .unset] [(.ref d)])) rfl rfl (hb hby d18_17)
      obtain ⟨_, _, ⟨T_17, L_17, k_17, n_17⟩, -, X_17, ⟨Lc_17, hQ_17, l_17, y_17, z_17⟩, st_17⟩ := Jvm.LawKit.callS X_14 hx (y := M269) hown (mvT hZ (w135 hw)) (mvT hZ (w136 hw)) (mvT hZ (w51 hw)) (mvT hZ (w137 hw)) (by decide) (backOf (W := 0) (rm_mxJI l Z a0 hw [] G1 sI sL sT sC sU dZ iE HG h0 n0 X00 (ss + (1 : Int64)) (own_m1 hc_6 hA hB)) hZ (w137 hw) (w51 hw) (by decide) (by decide)) (g := (mkF m 25 #[.val (.ref d), .unset, .unset, .unset, .unset] [(.int (1000 : Int32)), (.long (ss + (1 : Int64)))])) rfl (by rw [hml]; rfl) (argsL := [(.long (ss + (1 : Int64))), (.int (1000 : Int32))]) (rest := []) (lenOf pd_351 rfl) rfl (by show 2 * 0 + _ ≤ _; exact Nat.le_of_eq rfl) (hb hby d18_25) (fun _ _ => ⟨rfl, e_15, (by decide : 0 + 0 ≤ _), (by decide : 0 + 0 ≤ _)⟩)
      dsimp only [Pt.U, Pt.locs, Pt.cells, Pt.slots] at X_17 l_17 y_17 z_17 st_17 hQ_17
      subst l_17 y_17 z_17
      obtain ⟨j_18, rfl, N_19, e_20, g_21⟩ := hQ_17
      have N_22 := Fr.app N0 N_19
      have e_23 : T_17.heap = h0 := e_20
      obtain ⟨T_24, X_25, e_26, st_27⟩ := getF X_17 hx hZ hown (host := "") (Or.inl (w77 hw)) Via.refl e_23 hp1 (g := (mkF m 30 #[.val (.ref d), .val (.long j_18), .second, .unset, .unset] [(.ref d)])) rfl rfl (hb hby d18_30)
      obtain ⟨_, _, ⟨T_28, L_28, k_28, n_28⟩, -, X_28, ⟨Lc_28, hQ_28, l_28, y_28, z_28⟩, st_28⟩ := Jvm.LawKit.callS X_25 hx (y := M278) hown (mvT hZ (w144 hw)) (mvT hZ (w145 hw)) (mvT hZ (w51 hw)) (mvT hZ (w146 hw)) (by decide) (backOf (W := 0) (rm_axJJ l Z a0 hw [] G1 sI sL sT sC sU dZ iE HG h0 n0 X00 j_18 (((n / (1000000 : Int32)) - (1000 : Int32)).toInt64) (own_sum1 g_21 hc_6 (own_vA hA) hB)) hZ (w146 hw) (w51 hw) (by decide) (by decide)) (g := (mkF m 44 #[.val (.ref d), .val (.long j_18), .second, .val (.long (((n / (1000000 : Int32)) - (1000 : Int32)).toInt64)), .second] [(.long (((n / (1000000 : Int32)) - (1000 : Int32)).toInt64)), (.long j_18)])) rfl (by rw [hml]; rfl) (argsL := [(.long j_18), (.long (((n / (1000000 : Int32)) - (1000 : Int32)).toInt64))]) (rest := []) (lenOf pd_181 rfl) rfl (by show 2 * 0 + _ ≤ _; exact Nat.le_of_eq rfl) (hb hby d18_44) (fun _ _ => ⟨rfl, e_26, (by decide : 0 + 0 ≤ _), (by decide : 0 + 0 ≤ _)⟩)
      dsimp only [Pt.U, Pt.locs, Pt.cells, Pt.slots] at X_28 l_28 y_28 z_28 st_28 hQ_28
      subst l_28 y_28 z_28
      obtain ⟨j_29, rfl, N_30, e_31, g_32⟩ := hQ_28
      have N_33 := Fr.app N_22 N_30
      have e_34 : T_28.heap = h0 := e_31
      have C_35 : Steps p.tables e below S0 (T_28.setTop (mkF m 47 #[.val (.ref d), .val (.long j_18), .second, .val (.long (((n / (1000000 : Int32)) - (1000 : Int32)).toInt64)), .second] [(.long j_29)])) := by
        refine C_11.trans ?_
        refine XS.ifNo X_8.here hx rfl (hb hby d18_13) rfl (i0_le_f hc_12) ?_
        refine XS.aloadN X_8.here hx rfl (hb hby d18_16) rfl rfl ?_
        refine st_16 _ ?_
        refine XS.lconst X_14.here hx rfl (hb hby d18_20) ?_
        refine XS.ladd X_14.here hx rfl (hb hby d18_21) rfl ?_
        refine XS.sipush X_14.here hx rfl (hb hby d18_22) ?_
        refine st_17 _ ?_
        refine XS.lstoreN X_17.here hx rfl (hb hby d18_28) rfl (l' := #[.val (.ref d), .val (.long j_18), .second, .unset, .unset]) rfl ?_
        show Steps p.tables e below (T_17.setTop (mkF m 29 #[.val (.ref d), .val (.long j_18), .second, .unset, .unset] [])) _
        refine XS.aloadN X_17.here hx rfl (hb hby d18_29) rfl rfl ?_
        refine st_27 _ ?_
        refine X_25.ldcI hx hown (mvT hZ (w62 hw)) rfl (hb hby d18_33) ?_
        refine XS.idiv X_25.here hx rfl (hb hby d18_35) rfl (by decide) ?_
        refine XS.sipush X_25.here hx rfl (hb hby d18_36) ?_
        refine XS.isub X_25.here hx rfl (hb hby d18_39) rfl ?_
        refine XS.i2l X_25.here hx rfl (hb hby d18_40) rfl ?_
        refine XS.lstoreN X_25.here hx rfl (hb hby d18_41) rfl (l' := #[.val (.ref d), .val (.long j_18), .second, .val (.long (((n / (1000000 : Int32)) - (1000 : Int32)).toInt64)), .second]) rfl ?_
        show Steps p.tables e below (T_24.setTop (mkF m 42 #[.val (.ref d), .val (.long j_18), .second, .val (.long (((n / (1000000 : Int32)) - (1000 : Int32)).toInt64)), .second] [])) _
        refine XS.lloadN X_25.here hx rfl (hb hby d18_42) rfl ?_
        refine XS.lloadN X_25.here hx rfl (hb hby d18_43) rfl ?_
        refine st_28 _ ?_
        exact Steps.refl _
      obtain ⟨fs, hr, hrun, hended, hW, hsame⟩ := X_28.leave (v := some (.long j_29)) (fun h => by rw [Bd.returns] at h; cases h)
      refine ⟨_, _, C_35.trans (retOut X_28 hx Bd.returns rfl (Or.inr (Or.inl ⟨rfl, rfl, _, rfl⟩)) (hb hby d18_47) hr), hrun, hended, _, _, rfl, ?_, ⟨_, rfl⟩, hW, hsame.mono (by decide) (by decide)⟩
      show Q_into Z G1 sI sL sT sC sU dZ iE d ss n h0 n0 (some (.long j_29)) T_28.heap _
      rw [e_34]
      exact ⟨j_29, rfl, N_33, rfl, (own_fin1 g_32 g_21 hc_6 (own_vA hA))⟩
    · skip
      obtain ⟨T_36, X_37, e_38, st_39⟩ := getF X_8 hx hZ hown (host := "") (Or.inl (w75 hw)) Via.refl e_9 hp0 (g := (mkF m 49 #[.val (.ref d), .unset, .unset, .unset, .unset] [(.ref d)])) rfl rfl (hb hby d18_49)
      obtain ⟨_, _, ⟨T_40, L_40, k_40, n_40⟩, -, X_40, ⟨Lc_40, hQ_40, l_40, y_40, z_40⟩, st_40⟩ := Jvm.LawKit.callS X_37 hx (y := M269) hown (mvT hZ (w135 hw)) (mvT hZ (w136 hw)) (mvT hZ (w51 hw)) (mvT hZ (w137 hw)) (by decide) (backOf (W := 0) (rm_mxJI l Z a0 hw [] G1 sI sL sT sC sU dZ iE HG h0 n0 X00 ss (own_m2 hc_6 hc_12 hA hB)) hZ (w137 hw) (w51 hw) (by decide) (by decide)) (g := (mkF m 55 #[.val (.ref d), .unset, .unset, .unset, .unset] [(.int (1000 : Int32)), (.long ss)])) rfl (by rw [hml]; rfl) (argsL := [(.long ss), (.int (1000 : Int32))]) (rest := []) (lenOf pd_351 rfl) rfl (by show 2 * 0 + _ ≤ _; exact Nat.le_of_eq rfl) (hb hby d18_55) (fun _ _ => ⟨rfl, e_38, (by decide : 0 + 0 ≤ _), (by decide : 0 + 0 ≤ _)⟩)
      dsimp only [Pt.U, Pt.locs, Pt.cells, Pt.slots] at X_40 l_40 y_40 z_40 st_40 hQ_40
      subst l_40 y_40 z_40
      obtain ⟨j_41, rfl, N_42, e_43, g_44⟩ := hQ_40
      have N_45 := Fr.app N0 N_42
      have e_46 : T_40.heap = h0 := e_43
      obtain ⟨T_47, X_48, e_49, st_50⟩ := getF X_40 hx hZ hown (host := "") (Or.inl (w77 hw)) Via.refl e_46 hp1 (g := (mkF m 61 #[.val (.ref d), .val (.long j_41), .second, .unset, .unset] [(.ref d), (.long j_41)])) rfl rfl (hb hby d18_61)
      obtain ⟨_, _, ⟨T_51, L_51, k_51, n_51⟩, -, X_51, ⟨Lc_51, hQ_51, l_51, y_51, z_51⟩, st_51⟩ := Jvm.LawKit.callS X_48 hx (y := M278) hown (mvT hZ (w144 hw)) (mvT hZ (w145 hw)) (mvT hZ (w51 hw)) (mvT hZ (w146 hw)) (by decide) (backOf (W := 0) (rm_axJJ l Z a0 hw [] G1 sI sL sT sC sU dZ iE HG h0 n0 X00 j_41 ((n / (1000000 : Int32)).toInt64) (own_sum2 g_44 (own_vB hA) hB)) hZ (w146 hw) (w51 hw) (by decide) (by decide)) (g := (mkF m 68 #[.val (.ref d), .val (.long j_41), .second, .unset, .unset] [(.long ((n / (1000000 : Int32)).toInt64)), (.long j_41)])) rfl (by rw [hml]; rfl) (argsL := [(.long j_41), (.long ((n / (1000000 : Int32)).toInt64))]) (rest := []) (lenOf pd_181 rfl) rfl (by show 2 * 0 + _ ≤ _; exact Nat.le_of_eq rfl) (hb hby d18_68) (fun _ _ => ⟨rfl, e_49, (by decide : 0 + 0 ≤ _), (by decide : 0 + 0 ≤ _)⟩)
      dsimp only [Pt.U, Pt.locs, Pt.cells, Pt.slots] at X_51 l_51 y_51 z_51 st_51 hQ_51
      subst l_51 y_51 z_51
      obtain ⟨j_52, rfl, N_53, e_54, g_55⟩ := hQ_51
      have N_56 := Fr.app N_45 N_53
      have e_57 : T_51.heap = h0 := e_54
      have C_58 : Steps p.tables e below S0 (T_51.setTop (mkF m 71 #[.val (.ref d), .val (.long j_41), .second, .unset, .unset] [(.long j_52)])) := by
        refine C_11.trans ?_
        refine XS.ifYes X_8.here hx rfl (pc0 := 13) (pc' := 48) rfl (hb hby d18_13) rfl (i0_le_t hc_12) (by decide) (by decide) ?_
        refine XS.aloadN X_8.here hx rfl (hb hby d18_48) rfl rfl ?_
        refine st_39 _ ?_
        refine XS.sipush X_37.here hx rfl (hb hby d18_52) ?_
        refine st_40 _ ?_
        refine XS.lstoreN X_40.here hx rfl (hb hby d18_58) rfl (l' := #[.val (.ref d), .val (.long j_41), .second, .unset, .unset]) rfl ?_
        refine XS.lloadN X_40.here hx rfl (hb hby d18_59) rfl ?_
        refine XS.aloadN X_40.here hx rfl (hb hby d18_60) rfl rfl ?_
        show Steps p.tables e below (T_40.setTop (mkF m 61 #[.val (.ref d), .val (.long j_41), .second, .unset, .unset] [(.ref d), (.long j_41)])) _
        refine st_50 _ ?_
        refine X_48.ldcI hx hown (mvT hZ (w62 hw)) rfl (hb hby d18_64) ?_
        refine XS.idiv X_48.here hx rfl (hb hby d18_66) rfl (by decide) ?_
        refine XS.i2l X_48.here hx rfl (hb hby d18_67) rfl ?_
        refine st_51 _ ?_
        exact Steps.refl _
      obtain ⟨fs, hr, hrun, hended, hW, hsame⟩ := X_51.leave (v := some (.long j_52)) (fun h => by rw [Bd.returns] at h; cases h)
      refine ⟨_, _, C_58.trans (retOut X_51 hx Bd.returns rfl (Or.inr (Or.inl ⟨rfl, rfl, _, rfl⟩)) (hb hby d18_71) hr), hrun, hended, _, _, rfl, ?_, ⟨_, rfl⟩, hW, hsame.mono (by decide) (by decide)⟩
      show Q_into Z G1 sI sL sT sC sU dZ iE d ss n h0 n0 (some (.long j_52)) T_51.heap _
      rw [e_57]
      exact ⟨j_52, rfl, N_56, rfl, (own_fin2 g_55 g_44 (own_vB hA))⟩
  · skip
    obtain ⟨T_59, X_60, e_61, st_62⟩ := getF X_2 hx hZ hown (host := "") (Or.inl (w75 hw)) Via.refl e_3 hp0 (g := (mkF m 49 #[.val (.ref d), .unset, .unset, .unset, .unset] [(.ref d)])) rfl rfl (hb hby d18_49)
    obtain ⟨_, _, ⟨T_63, L_63, k_63, n_63⟩, -, X_63, ⟨Lc_63, hQ_63, l_63, y_63, z_63⟩, st_63⟩ := Jvm.LawKit.callS X_60 hx (y := M269) hown (mvT hZ (w135 hw)) (mvT hZ (w136 hw)) (mvT hZ (w51 hw)) (mvT hZ (w137 hw)) (by decide) (backOf (W := 0) (rm_mxJI l Z a0 hw [] G1 sI sL sT sC sU dZ iE HG h0 n0 X00 ss (own_m3 hc_6 hA hB)) hZ (w137 hw) (w51 hw) (by decide) (by decide)) (g := (mkF m 55 #[.val (.ref d), .unset, .unset, .unset, .unset] [(.int (1000 : Int32)), (.long ss)])) rfl (by rw [hml]; rfl) (argsL := [(.long ss), (.int (1000 : Int32))]) (rest := []) (lenOf pd_351 rfl) rfl (by show 2 * 0 + _ ≤ _; exact Nat.le_of_eq rfl) (hb hby d18_55) (fun _ _ => ⟨rfl, e_61, (by decide : 0 + 0 ≤ _), (by decide : 0 + 0 ≤ _)⟩)
    dsimp only [Pt.U, Pt.locs, Pt.cells, Pt.slots] at X_63 l_63 y_63 z_63 st_63 hQ_63
    subst l_63 y_63 z_63
    obtain ⟨j_64, rfl, N_65, e_66, g_67⟩ := hQ_63
    have N_68 := Fr.app N0 N_65
    have e_69 : T_63.heap = h0 := e_66
    obtain ⟨T_70, X_71, e_72, st_73⟩ := getF X_63 hx hZ hown (host := "") (Or.inl (w77 hw)) Via.refl e_69 hp1 (g := (mkF m 61 #[.val (.ref d), .val (.long j_64), .second, .unset, .unset] [(.ref d), (.long j_64)])) rfl rfl (hb hby d18_61)
    obtain ⟨_, _, ⟨T_74, L_74, k_74, n_74⟩, -, X_74, ⟨Lc_74, hQ_74, l_74, y_74, z_74⟩, st_74⟩ := Jvm.LawKit.callS X_71 hx (y := M278) hown (mvT hZ (w144 hw)) (mvT hZ (w145 hw)) (mvT hZ (w51 hw)) (mvT hZ (w146 hw)) (by decide) (backOf (W := 0) (rm_axJJ l Z a0 hw [] G1 sI sL sT sC sU dZ iE HG h0 n0 X00 j_64 ((n / (1000000 : Int32)).toInt64) (own_sum2 g_67 (own_vB hA) hB)) hZ (w146 hw) (w51 hw) (by decide) (by decide)) (g := (mkF m 68 #[.val (.ref d), .val (.long j_64), .second, .unset, .unset] [(.long ((n / (1000000 : Int32)).toInt64)), (.long j_64)])) rfl (by rw [hml]; rfl) (argsL := [(.long j_64), (.long ((n / (1000000 : Int32)).toInt64))]) (rest := []) (lenOf pd_181 rfl) rfl (by show 2 * 0 + _ ≤ _; exact Nat.le_of_eq rfl) (hb hby d18_68) (fun _ _ => ⟨rfl, e_72, (by decide : 0 + 0 ≤ _), (by decide : 0 + 0 ≤ _)⟩)
    dsimp only [Pt.U, Pt.locs, Pt.cells, Pt.slots] at X_74 l_74 y_74 z_74 st_74 hQ_74
    subst l_74 y_74 z_74
    obtain ⟨j_75, rfl, N_76, e_77, g_78⟩ := hQ_74
    have N_79 := Fr.app N_68 N_76
    have e_80 : T_74.heap = h0 := e_77
    have C_81 : Steps p.tables e below S0 (T_74.setTop (mkF m 71 #[.val (.ref d), .val (.long j_64), .second, .unset, .unset] [(.long j_75)])) := by
      refine C_5.trans ?_
      refine XS.ifYes X_2.here hx rfl (pc0 := 6) (pc' := 48) rfl (hb hby d18_6) rfl (i0_ge_t (fun q => hc_6 ((lw_lt ss (0 : Int64)).mp q))) (by decide) (by decide) ?_
      refine XS.aloadN X_2.here hx rfl (hb hby d18_48) rfl rfl ?_
      refine st_62 _ ?_
      refine XS.sipush X_60.here hx rfl (hb hby d18_52) ?_
      refine st_63 _ ?_
      refine XS.lstoreN X_63.here hx rfl (hb hby d18_58) rfl (l' := #[.val (.ref d), .val (.long j_64), .second, .unset, .unset]) rfl ?_
      refine XS.lloadN X_63.here hx rfl (hb hby d18_59) rfl ?_
      refine XS.aloadN X_63.here hx rfl (hb hby d18_60) rfl rfl ?_
      show Steps p.tables e below (T_63.setTop (mkF m 61 #[.val (.ref d), .val (.long j_64), .second, .unset, .unset] [(.ref d), (.long j_64)])) _
      refine st_73 _ ?_
      refine X_71.ldcI hx hown (mvT hZ (w62 hw)) rfl (hb hby d18_64) ?_
      refine XS.idiv X_71.here hx rfl (hb hby d18_66) rfl (by decide) ?_
      refine XS.i2l X_71.here hx rfl (hb hby d18_67) rfl ?_
      refine st_74 _ ?_
      exact Steps.refl _
    obtain ⟨fs, hr, hrun, hended, hW, hsame⟩ := X_74.leave (v := some (.long j_75)) (fun h => by rw [Bd.returns] at h; cases h)
    refine ⟨_, _, C_81.trans (retOut X_74 hx Bd.returns rfl (Or.inr (Or.inl ⟨rfl, rfl, _, rfl⟩)) (hb hby d18_71) hr), hrun, hended, _, _, rfl, ?_, ⟨_, rfl⟩, hW, hsame.mono (by decide) (by decide)⟩
    show Q_into Z G1 sI sL sT sC sU dZ iE d ss n h0 n0 (some (.long j_75)) T_74.heap _
    rw [e_80]
    exact ⟨j_75, rfl, N_79, rfl, (own_fin2 g_78 g_67 (own_vB hA))⟩
abbrev M423 : MethodName := ⟨"java/time/Duration", "<init>", "(JI)V"⟩
theorem pn_424 : plainName "java/time/Duration" = true := by first | (simp [plainName, overriddenIn]; done) | decide +kernel
theorem d19_0 : decode jdk_2316_method_17_code 0 = .ok (.aload_n 0, 1) := by decide +kernel
theorem w177 {Z : State} {a0 : Array Value} (hw : ∀ d ∈ tables_1, d.before a0 Z = true) : Jvm.Cond.before (Jvm.Cond.methodLink "java/time/Duration" (218 : Nat) ({ cls := "java/lang/Object", name := "<init>", desc := "()V" } : Jvm.MethodName)) a0 Z = true := hw _ (List.mem_of_getElem? (i := 177) rfl)
theorem d19_1 : decode jdk_2316_method_17_code 1 = .ok (.invokespecial 218, 3) := by decide +kernel
theorem d19_4 : decode jdk_2316_method_17_code 4 = .ok (.aload_n 0, 1) := by decide +kernel
theorem d19_5 : decode jdk_2316_method_17_code 5 = .ok (.lload_n 1, 1) := by decide +kernel
theorem w157 {Z : State} {a0 : Array Value} (hw : ∀ d ∈ tables_1, d.before a0 Z = true) : Jvm.Cond.before (Jvm.Cond.fieldLink "java/time/Duration" (221 : Nat) "java/time/Duration" "seconds" "J") a0 Z = true := hw _ (List.mem_of_getElem? (i := 157) rfl)
theorem w158 {Z : State} {a0 : Array Value} (hw : ∀ d ∈ tables_1, d.before a0 Z = true) : Jvm.Cond.before (Jvm.Cond.laysFinal "java/time/Duration" "java/time/Duration" "seconds" "J") a0 Z = true := hw _ (List.mem_of_getElem? (i := 158) rfl)
theorem w172 {Z : State} {a0 : Array Value} (hw : ∀ d ∈ tables_1, d.before a0 Z = true) : Jvm.Cond.before (Jvm.Cond.instantiable "java/time/Duration" (2 : Nat)) a0 Z = true := hw _ (List.mem_of_getElem? (i := 172) rfl)
theorem d19_6 : decode jdk_2316_method_17_code 6 = .ok (.putfield 221, 3) := by decide +kernel
theorem d19_9 : decode jdk_2316_method_17_code 9 = .ok (.aload_n 0, 1) := by decide +kernel
theorem d19_10 : decode jdk_2316_method_17_code 10 = .ok (.iload_n 3, 1) := by decide +kernel
theorem w159 {Z : State} {a0 : Array Value} (hw : ∀ d ∈ tables_1, d.before a0 Z = true) : Jvm.Cond.before (Jvm.Cond.fieldLink "java/time/Duration" (224 : Nat) "java/time/Duration" "nanos" "I") a0 Z = true := hw _ (List.mem_of_getElem? (i := 159) rfl)
theorem w160 {Z : State} {a0 : Array Value} (hw : ∀ d ∈ tables_1, d.before a0 Z = true) : Jvm.Cond.before (Jvm.Cond.laysFinal "java/time/Duration" "java/time/Duration" "nanos" "I") a0 Z = true := hw _ (List.mem_of_getElem? (i := 160) rfl)
theorem d19_11 : decode jdk_2316_method_17_code 11 = .ok (.putfield 224, 3) := by decide +kernel
theorem d19_14 : decode jdk_2316_method_17_code 14 = .ok (.return_, 1) := by decide +kernel
abbrev R_duinit : Room := { frames := 1, cells := 0, slots := 0, locals := 12 }
def Q_duinit (Z : State) (G1 : Int32) (sI : Addr) (sL : Addr) (sT : Addr) (sC : Addr) (sU : Addr) (dZ : Addr) (iE : Addr) (d : Addr) (ss : Int64) (n : Int32) (h0 : Heap) (n0 : Nat) (v : Option Value) (h : Heap) (L : List Loc) : Prop := (v = none ∧ Fr n0 L ∧ Keep h0 h [d] ∧ (Fld Z h d "java/time/Duration" "seconds" "J" (.long ss)) ∧ (Fld Z h d "java/time/Duration" "nanos" "I" (.int n)))
set_option maxRecDepth 65536 in
set_option maxHeartbeats 40000000 in
theorem rm_duinit (l : Launch) (Z : State) (a0 : Array Value) (hw : ∀ d ∈ tables_1, d.before a0 Z = true) (ws : List Jvm.Cond) (G1 : Int32) (sI : Addr) (sL : Addr) (sT : Addr) (sC : Addr) (sU : Addr) (dZ : Addr) (iE : Addr) (HG : own_G l Z a0 G1 sI sL sT sC sU dZ iE) (h0 : Heap) (n0 : Nat) (X00 : Old Z n0 h0) (d : Addr) (ss : Int64) (n : Int32) (hp0 : Exa Z h0 d "java/time/Duration") (hp1 : Fld Z h0 d "java/time/Duration" "seconds" "J" (.long (0 : Int64))) (hp2 : Fld Z h0 d "java/time/Duration" "nanos" "I" (.int (0 : Int32))) (hp3 : n0 ≤ d) :
    own_CP l Z M423 jdk_2316_method_17_code 4 none ws R_duinit #[(.ref d), (.long ss), (.int n)] h0 (Q_duinit Z G1 sI sL sT sC sU dZ iE d ss n h0 n0) := by
  refine own_P (plainFor_of_name pn_424) ?_
  intro p e s m below meth c s₁ S0 Bd hZ hh hx hby hml hown hnm X0 e0 hS0d
  obtain ⟨O1, P1, OsI, OsL, OsT, OsC, OsU, NsL, NsT, NsC, NsU, OZ, EZ, FZ1, FZ2, OE, EE, FE1, FE2⟩ := id HG
  have N0 := Fr.nil n0
  have C0 : Steps p.tables e below S0 (s₁.setTop (mkF m 0 #[.val (.ref d), .val (.long ss), .second, .val (.int n)] [])) := by rw [hS0d]; exact castTop (ef_296 m d ss n) (Steps.refl _)
  obtain ⟨T_1, X_2, e_3, st_4⟩ := initO X0 hx hZ hown (w177 hw) (w20 hw) (w21 hw) e0 (g := (mkF m 1 #[.val (.ref d), .val (.long ss), .second, .val (.int n)] [(.ref d)])) rfl (by rw [hml]; rfl) rfl (hb hby d19_1) (by decide) (W := 0) (by show 2 * 0 + _ ≤ _; exact Nat.le_of_eq rfl) (by decide)
  obtain ⟨T_5, h_6, X_7, e_8, W_9, st_10⟩ := putF X_2 hx hZ hown (host := "") (Or.inl (w157 hw)) Via.refl e_3 hp1 hp0 (Or.inr ⟨(w158 hw), rfl, hnm⟩) (w172 hw) (ty := .long) (by decide) rfl rfl (g := (mkF m 6 #[.val (.ref d), .val (.long ss), .second, .val (.int n)] [(.long ss), (.ref d)])) rfl rfl (hb hby d19_6)
  have N_11 := Fr.snoc X_7 N0 hp3
  have F_12 : Fld Z h_6 d "java/time/Duration" "seconds" "J" (.long ss) := hp1.same W_9
  have F_13 : Fld Z h_6 d "java/time/Duration" "nanos" "I" (.int (0 : Int32)) := (hp2.other W_9 (Or.inr (slot_ne (Or.inr (w160 hw)) (Or.inr (w158 hw)) (by decide) (t := .int) (by decide) (t' := .long) (by decide))))
  have E_14 : Exa Z h_6 d "java/time/Duration" := (hp0.wr W_9)
  obtain ⟨T_15, h_16, X_17, e_18, W_19, st_20⟩ := putF X_7 hx hZ hown (host := "") (Or.inl (w159 hw)) Via.refl e_8 F_13 E_14 (Or.inr ⟨(w160 hw), rfl, hnm⟩) (w172 hw) (ty := .int) (by decide) rfl rfl (g := (mkF m 11 #[.val (.ref d), .val (.long ss), .second, .val (.int n)] [(.int n), (.ref d)])) rfl rfl (hb hby d19_11)
  have N_21 := Fr.snoc X_17 N_11 hp3
  have F_22 : Fld Z h_16 d "java/time/Duration" "nanos" "I" (.int n) := F_13.same W_19
  have C_23 : Steps p.tables e below S0 (T_15.setTop (mkF m 14 #[.val (.ref d), .val (.long ss), .second, .val (.int n)] [])) := by
    refine C0.trans ?_
    refine XS.aloadN X0.here hx rfl (hb hby d19_0) rfl rfl ?_
    refine st_4 _ ?_
    refine XS.aloadN X_2.here hx rfl (hb hby d19_4) rfl rfl ?_
    refine XS.lloadN X_2.here hx rfl (hb hby d19_5) rfl ?_
    refine st_10 _ ?_
    refine XS.aloadN X_7.here hx rfl (hb hby d19_9) rfl rfl ?_
    refine XS.iloadN X_7.here hx rfl (hb hby d19_10) rfl ?_
    refine st_20 _ ?_
    show Steps p.tables e below (T_15.setTop (mkF m 14 #[.val (.ref d), .val (.long ss), .second, .val (.int n)] [])) _
    exact Steps.refl _
  have F_24 : Fld Z h_16 d "java/time/Duration" "seconds" "J" (.long ss) := (F_12.other W_19 (Or.inr (slot_ne (Or.inr (w158 hw)) (Or.inr (w160 hw)) (by decide) (t := .long) (by decide) (t' := .int) (by decide))))
  have K_25 : Keep h0 h_16 [d] := (((Keep.refl _ _).wr W_9 (Or.inl (List.mem_of_getElem? (i := 0) rfl))).wr W_19 (Or.inl (List.mem_of_getElem? (i := 0) rfl)))
  obtain ⟨fs, hr, hrun, hended, hW, hsame⟩ := X_17.leave (v := none) (fun _ => rfl)
  refine ⟨_, _, C_23.trans (X_17.returnOut hx Bd.returns (hb hby d19_14) hr), hrun, hended, _, _, rfl, ?_, ⟨_, rfl⟩, hW, hsame.mono (by decide) (by decide)⟩
  show Q_duinit Z G1 sI sL sT sC sU dZ iE d ss n h0 n0 (none) T_15.heap _
  rw [e_18]
  exact ⟨rfl, N_21, K_25, F_24, F_22⟩
abbrev M440 : MethodName := ⟨"java/time/Duration", "create", "(JI)Ljava/time/Duration;"⟩
theorem d20_0 : decode jdk_2316_method_16_code 0 = .ok (.lload_n 0, 1) := by decide +kernel
theorem d20_1 : decode jdk_2316_method_16_code 1 = .ok (.iload_n 2, 1) := by decide +kernel
theorem d20_2 : decode jdk_2316_method_16_code 2 = .ok (.i2l, 1) := by decide +kernel
theorem d20_3 : decode jdk_2316_method_16_code 3 = .ok (.lor, 1) := by decide +kernel
theorem d20_4 : decode jdk_2316_method_16_code 4 = .ok (.lconst 0, 1) := by decide +kernel
theorem d20_5 : decode jdk_2316_method_16_code 5 = .ok (.lcmp, 1) := by decide +kernel
theorem d20_6 : decode jdk_2316_method_16_code 6 = .ok (.ifCond .ne 7, 3) := by decide +kernel
theorem w194 {Z : State} {a0 : Array Value} (hw : ∀ d ∈ tables_1, d.before a0 Z = true) : Jvm.Cond.before (Jvm.Cond.fieldLink "java/time/Duration" (32 : Nat) "java/time/Duration" "ZERO" "Ljava/time/Duration;") a0 Z = true := hw _ (List.mem_of_getElem? (i := 194) rfl)
theorem d20_9 : decode jdk_2316_method_16_code 9 = .ok (.getstatic 32, 3) := by decide +kernel
theorem d20_12 : decode jdk_2316_method_16_code 12 = .ok (.areturn, 1) := by decide +kernel
theorem w171 {Z : State} {a0 : Array Value} (hw : ∀ d ∈ tables_1, d.before a0 Z = true) : Jvm.Cond.before (Jvm.Cond.classLink "java/time/Duration" (11 : Nat) "java/time/Duration") a0 Z = true := hw _ (List.mem_of_getElem? (i := 171) rfl)
theorem w80 {Z : State} {a0 : Array Value} (hw : ∀ d ∈ tables_1, d.before a0 Z = true) : Jvm.Cond.before (Jvm.Cond.initialized "java/time/Duration") a0 Z = true := hw _ (List.mem_of_getElem? (i := 80) rfl)
theorem d20_13 : decode jdk_2316_method_16_code 13 = .ok (.new 11, 3) := by decide +kernel
theorem d20_16 : decode jdk_2316_method_16_code 16 = .ok (.dup, 1) := by decide +kernel
theorem d20_17 : decode jdk_2316_method_16_code 17 = .ok (.lload_n 0, 1) := by decide +kernel
theorem d20_18 : decode jdk_2316_method_16_code 18 = .ok (.iload_n 2, 1) := by decide +kernel
theorem w176 {Z : State} {a0 : Array Value} (hw : ∀ d ∈ tables_1, d.before a0 Z = true) : Jvm.Cond.before (Jvm.Cond.code ({ cls := "java/time/Duration", name := "<init>", desc := "(JI)V" } : Jvm.MethodName) jdk_2316_method_17_code (4 : Nat) (Option.none : Option Jvm.ClassFile.FieldType)) a0 Z = true := hw _ (List.mem_of_getElem? (i := 176) rfl)
theorem d20_19 : decode jdk_2316_method_16_code 19 = .ok (.invokespecial 215, 3) := by decide +kernel
theorem w173 {Z : State} {a0 : Array Value} (hw : ∀ d ∈ tables_1, d.before a0 Z = true) : Jvm.Cond.before (Jvm.Cond.methodLink "java/time/Duration" (215 : Nat) ({ cls := "java/time/Duration", name := "<init>", desc := "(JI)V" } : Jvm.MethodName)) a0 Z = true := hw _ (List.mem_of_getElem? (i := 173) rfl)
theorem w174 {Z : State} {a0 : Array Value} (hw : ∀ d ∈ tables_1, d.before a0 Z = true) : Jvm.Cond.before (Jvm.Cond.instanceMethod ({ cls := "java/time/Duration", name := "<init>", desc := "(JI)V" } : Jvm.MethodName)) a0 Z = true := hw _ (List.mem_of_getElem? (i := 174) rfl)
theorem d20_22 : decode jdk_2316_method_16_code 22 = .ok (.areturn, 1) := by decide +kernel
abbrev R_ducre : Room := { frames := 2, cells := 1, slots := 2, locals := 28 }
def Q_ducre (Z : State) (G1 : Int32) (sI : Addr) (sL : Addr) (sT : Addr) (sC : Addr) (sU : Addr) (dZ : Addr) (iE : Addr) (ss : Int64) (n : Int32) (h0 : Heap) (n0 : Nat) (v : Option Value) (h : Heap) (L : List Loc) : Prop := (∃ d : Addr, ∃ s2 : Int64, ∃ n2 : Int32, v = some (.ref d) ∧ Fr n0 L ∧ Keep h0 h [] ∧ (Exa Z h d "java/time/Duration") ∧ (Fld Z h d "java/time/Duration" "seconds" "J" (.long s2)) ∧ (Fld Z h d "java/time/Duration" "nanos" "I" (.int n2)) ∧ (s2 = ss) ∧ (n2 = n))
set_option maxRecDepth 65536 in
set_option maxHeartbeats 40000000 in
theorem rm_ducre (l : Launch) (Z : State) (a0 : Array Value) (hw : ∀ d ∈ tables_1, d.before a0 Z = true) (ws : List Jvm.Cond) (G1 : Int32) (sI : Addr) (sL : Addr) (sT : Addr) (sC : Addr) (sU : Addr) (dZ : Addr) (iE : Addr) (HG : own_G l Z a0 G1 sI sL sT sC sU dZ iE) (h0 : Heap) (n0 : Nat) (X00 : Old Z n0 h0) (ss : Int64) (n : Int32)  :
    own_CP l Z M440 jdk_2316_method_16_code 3 (some (.object "java/time/Duration")) ws R_ducre #[(.long ss), (.int n)] h0 (Q_ducre Z G1 sI sL sT sC sU dZ iE ss n h0 n0) := by
  refine own_P (plainFor_of_name pn_424) ?_
  intro p e s m below meth c s₁ S0 Bd hZ hh hx hby hml hown hnm X0 e0 hS0d
  obtain ⟨O1, P1, OsI, OsL, OsT, OsC, OsU, NsL, NsT, NsC, NsU, OZ, EZ, FZ1, FZ2, OE, EE, FE1, FE2⟩ := id HG
  have N0 := Fr.nil n0
  have C0 : Steps p.tables e below S0 (s₁.setTop (mkF m 0 #[.val (.long ss), .second, .val (.int n)] [])) := by rw [hS0d]; exact castTop (ef_175 m ss n) (Steps.refl _)
  have C_1 : Steps p.tables e below S0 (s₁.setTop (mkF m 6 #[.val (.long ss), .second, .val (.int n)] [(.int (lcmpW (ss ||| (n.toInt64)) (0 : Int64)))])) := by
    refine C0.trans ?_
    refine XS.lloadN X0.here hx rfl (hb hby d20_0) rfl ?_
    refine XS.iloadN X0.here hx rfl (hb hby d20_1) rfl ?_
    refine XS.i2l X0.here hx rfl (hb hby d20_2) rfl ?_
    refine XS.lor X0.here hx rfl (hb hby d20_3) rfl ?_
    refine XS.lconst X0.here hx rfl (hb hby d20_4) ?_
    refine XS.lcmp X0.here hx rfl (hb hby d20_5) rfl ?_
    exact Steps.refl _
  by_cases hc_2 : (ss ||| (n.toInt64)) = (0 : Int64)
  · skip
    obtain ⟨T_3, X_4, e_5, st_6⟩ := getS X0 hx hZ (host := "") hown (w194 hw) Via.refl e0 (OZ.ext X00.2) (g := (mkF m 9 #[.val (.long ss), .second, .val (.int n)] [])) rfl (hb hby d20_9)
    have C_7 : Steps p.tables e below S0 (T_3.setTop (mkF m 12 #[.val (.long ss), .second, .val (.int n)] [(.ref dZ)])) := by
      refine C_1.trans ?_
      refine XS.ifNo X0.here hx rfl (hb hby d20_6) rfl (i0_ne_f ((lw_eq (ss ||| (n.toInt64)) (0 : Int64)).mpr hc_2)) ?_
      refine st_6 _ ?_
      exact Steps.refl _
    have K_8 : Keep h0 h0 [] := (Keep.refl _ _)
    obtain ⟨fs, hr, hrun, hended, hW, hsame⟩ := X_4.leave (v := some (.ref dZ)) (fun h => by rw [Bd.returns] at h; cases h)
    refine ⟨_, _, C_7.trans (retOut X_4 hx Bd.returns rfl (Or.inr (Or.inr (Or.inr (Or.inr ⟨rfl, rfl, rfl⟩)))) (hb hby d20_12) hr), hrun, hended, _, _, rfl, ?_, ⟨_, rfl⟩, hW, hsame.mono (by decide) (by decide)⟩
    show Q_ducre Z G1 sI sL sT sC sU dZ iE ss n h0 n0 (some (.ref dZ)) T_3.heap _
    rw [e_5]
    exact ⟨dZ, (0 : Int64), (0 : Int32), rfl, N0, K_8, (EZ.ext X00.2), (FZ1.ext X00.2), (FZ2.ext X00.2), (own_or1 hc_2), (own_or2 hc_2)⟩
  · skip
    obtain ⟨T_9, h_10, X_11, e_12, E_13, A_14, D_15, U_19, st_16⟩ := newO X0 hx hZ hown (w171 hw) (w172 hw) (w80 hw) e0 (g := (mkF m 13 #[.val (.long ss), .second, .val (.int n)] [])) rfl (hb hby d20_13) (by decide) (by decide)
    obtain ⟨a_17, g_18⟩ : ∃ z, z = h0.size := ⟨_, rfl⟩
    rw [← g_18] at A_14 D_15 st_16 U_19
    have O_20 : Old Z n0 h_10 := (X00.ext E_13)
    obtain ⟨_, _, ⟨T_21, L_21, k_21, n_21⟩, -, X_21, ⟨Lc_21, hQ_21, l_21, y_21, z_21⟩, st_21⟩ := X_11.specialBack hx (y := M423) rfl hown (mvT hZ (w173 hw)) (mvT hZ (w174 hw)) (mvT hZ (w176 hw)) (by decide) (backOf (W := 1) (rm_duinit l Z a0 hw [] G1 sI sL sT sC sU dZ iE HG h_10 n0 O_20 a_17 ss n A_14 (D_15 (Or.inr (w158 hw)) (ty := .long) (by decide)) (D_15 (Or.inr (w160 hw)) (ty := .int) (by decide)) (Nat.le_trans (own_n0 X00) (Nat.le_of_eq g_18.symm))) hZ (w176 hw) (w80 hw) (by decide) (by decide)) (g := (mkF m 19 #[.val (.long ss), .second, .val (.int n)] [(.int n), (.long ss), (.ref a_17), (.ref a_17)])) rfl (by rw [hml]; rfl) (Steps.refl _) (a := a_17) (argsL := [(.long ss), (.int n)]) (rest := [(.ref a_17)]) (lenOf pd_341 rfl) rfl (by show 2 * 0 + _ ≤ _; exact Nat.le_of_eq rfl) (hb hby d20_19) (fun _ _ => ⟨rfl, e_12, (by decide : 1 + 0 ≤ _), (by decide : 2 + 0 ≤ _)⟩)
    dsimp only [Pt.U, Pt.locs, Pt.cells, Pt.slots] at X_21 l_21 y_21 z_21 st_21 hQ_21
    subst l_21 y_21 z_21
    obtain ⟨rfl, N_22, K_23, g_24, g_25⟩ := hQ_21
    have N_26 := Fr.app N0 N_22
    have C_27 : Steps p.tables e below S0 (T_21.setTop (mkF m 22 #[.val (.long ss), .second, .val (.int n)] [(.ref a_17)])) := by
      refine C_1.trans ?_
      refine XS.ifYes X0.here hx rfl (pc0 := 6) (pc' := 13) rfl (hb hby d20_6) rfl (i0_ne_t (fun q => hc_2 ((lw_eq (ss ||| (n.toInt64)) (0 : Int64)).mp q))) (by decide) (by decide) ?_
      refine st_16 _ ?_
      refine XS.dup X_11.here hx rfl (hb hby d20_16) rfl rfl ?_
      refine XS.lloadN X_11.here hx rfl (hb hby d20_17) rfl ?_
      refine XS.iloadN X_11.here hx rfl (hb hby d20_18) rfl ?_
      refine st_21.trans ?_
      exact Steps.refl _
    have E_28 : Exa Z T_21.heap a_17 "java/time/Duration" := (A_14.keep K_23)
    have K_29 : Keep h0 T_21.heap [] := (((Keep.refl _ _).ext E_13).trans K_23 (allS (Or.inr (Nat.le_trans (Nat.le_refl _) (Nat.le_of_eq g_18.symm))) all0))
    obtain ⟨fs, hr, hrun, hended, hW, hsame⟩ := X_21.leave (v := some (.ref a_17)) (fun h => by rw [Bd.returns] at h; cases h)
    refine ⟨_, _, C_27.trans (retOut X_21 hx Bd.returns rfl (Or.inr (Or.inr (Or.inr (Or.inr ⟨rfl, rfl, rfl⟩)))) (hb hby d20_22) hr), hrun, hended, _, _, rfl, ?_, ⟨_, rfl⟩, hW, hsame.mono (by decide) (by decide)⟩
    show Q_ducre Z G1 sI sL sT sC sU dZ iE ss n h0 n0 (some (.ref a_17)) T_21.heap _
    exact ⟨a_17, ss, n, rfl, N_26, K_29, E_28, g_24, g_25, rfl, rfl⟩
abbrev M462 : MethodName := ⟨"java/time/Duration", "ofMillis", "(J)Ljava/time/Duration;"⟩
theorem d21_0 : decode jdk_2316_method_6_code 0 = .ok (.lload_n 0, 1) := by decide +kernel
theorem w166 {Z : State} {a0 : Array Value} (hw : ∀ d ∈ tables_1, d.before a0 Z = true) : Jvm.Cond.before (Jvm.Cond.constantLong "java/time/Duration" (28 : Nat) (1000 : Int64)) a0 Z = true := hw _ (List.mem_of_getElem? (i := 166) rfl)
theorem d21_1 : decode jdk_2316_method_6_code 1 = .ok (.ldc2_w 28, 3) := by decide +kernel
theorem d21_4 : decode jdk_2316_method_6_code 4 = .ok (.ldiv, 1) := by decide +kernel
theorem d21_5 : decode jdk_2316_method_6_code 5 = .ok (.lstore_n 2, 1) := by decide +kernel
theorem d21_6 : decode jdk_2316_method_6_code 6 = .ok (.lload_n 0, 1) := by decide +kernel
theorem d21_7 : decode jdk_2316_method_6_code 7 = .ok (.ldc2_w 28, 3) := by decide +kernel
theorem d21_10 : decode jdk_2316_method_6_code 10 = .ok (.lrem, 1) := by decide +kernel
theorem d21_11 : decode jdk_2316_method_6_code 11 = .ok (.l2i, 1) := by decide +kernel
theorem d21_12 : decode jdk_2316_method_6_code 12 = .ok (.istore 4, 2) := by decide +kernel
theorem d21_14 : decode jdk_2316_method_6_code 14 = .ok (.iload 4, 2) := by decide +kernel
theorem d21_16 : decode jdk_2316_method_6_code 16 = .ok (.ifCond .ge 13, 3) := by decide +kernel
theorem d21_19 : decode jdk_2316_method_6_code 19 = .ok (.iinc 4 1000, 6) := by decide +kernel
theorem d21_25 : decode jdk_2316_method_6_code 25 = .ok (.lload_n 2, 1) := by decide +kernel
theorem d21_26 : decode jdk_2316_method_6_code 26 = .ok (.lconst 1, 1) := by decide +kernel
theorem d21_27 : decode jdk_2316_method_6_code 27 = .ok (.lsub, 1) := by decide +kernel
theorem d21_28 : decode jdk_2316_method_6_code 28 = .ok (.lstore_n 2, 1) := by decide +kernel
theorem d21_29 : decode jdk_2316_method_6_code 29 = .ok (.lload_n 2, 1) := by decide +kernel
theorem d21_30 : decode jdk_2316_method_6_code 30 = .ok (.iload 4, 2) := by decide +kernel
theorem w167 {Z : State} {a0 : Array Value} (hw : ∀ d ∈ tables_1, d.before a0 Z = true) : Jvm.Cond.before (Jvm.Cond.constant "java/time/Duration" (30 : Nat) (1000000 : Int32)) a0 Z = true := hw _ (List.mem_of_getElem? (i := 167) rfl)
theorem d21_32 : decode jdk_2316_method_6_code 32 = .ok (.ldc 30, 2) := by decide +kernel
theorem d21_34 : decode jdk_2316_method_6_code 34 = .ok (.imul, 1) := by decide +kernel
theorem w170 {Z : State} {a0 : Array Value} (hw : ∀ d ∈ tables_1, d.before a0 Z = true) : Jvm.Cond.before (Jvm.Cond.code ({ cls := "java/time/Duration", name := "create", desc := "(JI)Ljava/time/Duration;" } : Jvm.MethodName) jdk_2316_method_16_code (3 : Nat) (Option.some (Jvm.ClassFile.FieldType.object "java/time/Duration"))) a0 Z = true := hw _ (List.mem_of_getElem? (i := 170) rfl)
theorem pd_486 : parseMethodDescriptor "(JI)Ljava/time/Duration;" = some ⟨[.long, .int], some (.object "java/time/Duration")⟩ := by decide +kernel
theorem d21_35 : decode jdk_2316_method_6_code 35 = .ok (.invokestatic 10, 3) := by decide +kernel
theorem w168 {Z : State} {a0 : Array Value} (hw : ∀ d ∈ tables_1, d.before a0 Z = true) : Jvm.Cond.before (Jvm.Cond.methodLink "java/time/Duration" (10 : Nat) ({ cls := "java/time/Duration", name := "create", desc := "(JI)Ljava/time/Duration;" } : Jvm.MethodName)) a0 Z = true := hw _ (List.mem_of_getElem? (i := 168) rfl)
theorem w169 {Z : State} {a0 : Array Value} (hw : ∀ d ∈ tables_1, d.before a0 Z = true) : Jvm.Cond.before (Jvm.Cond.static ({ cls := "java/time/Duration", name := "create", desc := "(JI)Ljava/time/Duration;" } : Jvm.MethodName)) a0 Z = true := hw _ (List.mem_of_getElem? (i := 169) rfl)
theorem d21_38 : decode jdk_2316_method_6_code 38 = .ok (.areturn, 1) := by decide +kernel
abbrev R_duof : Room := { frames := 3, cells := 1, slots := 2, locals := 42 }
def Q_duof (Z : State) (G1 : Int32) (sI : Addr) (sL : Addr) (sT : Addr) (sC : Addr) (sU : Addr) (dZ : Addr) (iE : Addr) (x : Int64) (h0 : Heap) (n0 : Nat) (v : Option Value) (h : Heap) (L : List Loc) : Prop := (∃ d : Addr, ∃ ss : Int64, ∃ n : Int32, v = some (.ref d) ∧ Fr n0 L ∧ Keep h0 h [] ∧ (Exa Z h d "java/time/Duration") ∧ (Fld Z h d "java/time/Duration" "seconds" "J" (.long ss)) ∧ (Fld Z h d "java/time/Duration" "nanos" "I" (.int n)) ∧ (ss.toInt = x.toInt / 1000) ∧ (n.toInt = x.toInt % 1000 * 1000000))
set_option maxRecDepth 65536 in
set_option maxHeartbeats 40000000 in
theorem rm_duof (l : Launch) (Z : State) (a0 : Array Value) (hw : ∀ d ∈ tables_1, d.before a0 Z = true) (ws : List Jvm.Cond) (G1 : Int32) (sI : Addr) (sL : Addr) (sT : Addr) (sC : Addr) (sU : Addr) (dZ : Addr) (iE : Addr) (HG : own_G l Z a0 G1 sI sL sT sC sU dZ iE) (h0 : Heap) (n0 : Nat) (X00 : Old Z n0 h0) (x : Int64)  :
    own_CP l Z M462 jdk_2316_method_6_code 5 (some (.object "java/time/Duration")) ws R_duof #[(.long x)] h0 (Q_duof Z G1 sI sL sT sC sU dZ iE x h0 n0) := by
  refine own_P (plainFor_of_name pn_424) ?_
  intro p e s m below meth c s₁ S0 Bd hZ hh hx hby hml hown hnm X0 e0 hS0d
  obtain ⟨O1, P1, OsI, OsL, OsT, OsC, OsU, NsL, NsT, NsC, NsU, OZ, EZ, FZ1, FZ2, OE, EE, FE1, FE2⟩ := id HG
  have N0 := Fr.nil n0
  have C0 : Steps p.tables e below S0 (s₁.setTop (mkF m 0 #[.val (.long x), .second, .unset, .unset, .unset] [])) := by rw [hS0d]; exact castTop (ef_347 m x) (Steps.refl _)
  have C_1 : Steps p.tables e below S0 (s₁.setTop (mkF m 16 #[.val (.long x), .second, .val (.long (x / (1000 : Int64))), .second, .val (.int ((x - (x / (1000 : Int64)) * (1000 : Int64)).toInt32))] [(.int ((x - (x / (1000 : Int64)) * (1000 : Int64)).toInt32))])) := by
    refine C0.trans ?_
    refine XS.lloadN X0.here hx rfl (hb hby d21_0) rfl ?_
    refine X0.ldc2J hx hown (mvT hZ (w166 hw)) rfl (hb hby d21_1) ?_
    refine XS.ldiv X0.here hx rfl (hb hby d21_4) rfl (by decide) ?_
    refine XS.lstoreN X0.here hx rfl (hb hby d21_5) rfl (l' := #[.val (.long x), .second, .val (.long (x / (1000 : Int64))), .second, .unset]) rfl ?_
    refine XS.lloadN X0.here hx rfl (hb hby d21_6) rfl ?_
    refine X0.ldc2J hx hown (mvT hZ (w166 hw)) rfl (hb hby d21_7) ?_
    refine XS.lrem X0.here hx rfl (hb hby d21_10) rfl (by decide) ?_
    refine XS.l2i X0.here hx rfl (hb hby d21_11) rfl ?_
    show Steps p.tables e below (s₁.setTop (mkF m 12 #[.val (.long x), .second, .val (.long (x / (1000 : Int64))), .second, .unset] [(.int ((x - (x / (1000 : Int64)) * (1000 : Int64)).toInt32))])) _
    refine XS.istore X0.here hx rfl (hb hby d21_12) rfl (l' := #[.val (.long x), .second, .val (.long (x / (1000 : Int64))), .second, .val (.int ((x - (x / (1000 : Int64)) * (1000 : Int64)).toInt32))]) rfl ?_
    refine XS.iload X0.here hx rfl (hb hby d21_14) rfl ?_
    exact Steps.refl _
  by_cases hc_2 : ((x - (x / (1000 : Int64)) * (1000 : Int64)).toInt32) < (0 : Int32)
  · skip
    obtain ⟨_, _, ⟨T_3, L_3, k_3, n_3⟩, -, X_3, ⟨Lc_3, hQ_3, l_3, y_3, z_3⟩, st_3⟩ := Jvm.LawKit.callS X0 hx (y := M440) hown (mvT hZ (w168 hw)) (mvT hZ (w169 hw)) (mvT hZ (w80 hw)) (mvT hZ (w170 hw)) (by decide) (backOf (W := 0) (rm_ducre l Z a0 hw [] G1 sI sL sT sC sU dZ iE HG h0 n0 X00 ((x / (1000 : Int64)) - (1 : Int64)) ((((x - (x / (1000 : Int64)) * (1000 : Int64)).toInt32) + (1000 : Int32)) * (1000000 : Int32)) ) hZ (w170 hw) (w80 hw) (by decide) (by decide)) (g := (mkF m 35 #[.val (.long x), .second, .val (.long ((x / (1000 : Int64)) - (1 : Int64))), .second, .val (.int (((x - (x / (1000 : Int64)) * (1000 : Int64)).toInt32) + (1000 : Int32)))] [(.int ((((x - (x / (1000 : Int64)) * (1000 : Int64)).toInt32) + (1000 : Int32)) * (1000000 : Int32))), (.long ((x / (1000 : Int64)) - (1 : Int64)))])) rfl (by rw [hml]; rfl) (argsL := [(.long ((x / (1000 : Int64)) - (1 : Int64))), (.int ((((x - (x / (1000 : Int64)) * (1000 : Int64)).toInt32) + (1000 : Int32)) * (1000000 : Int32)))]) (rest := []) (lenOf pd_486 rfl) rfl (by show 2 * 0 + _ ≤ _; exact Nat.le_of_eq rfl) (hb hby d21_35) (fun _ _ => ⟨rfl, e0, (by decide : 0 + 1 ≤ _), (by decide : 0 + 2 ≤ _)⟩)
    dsimp only [Pt.U, Pt.locs, Pt.cells, Pt.slots] at X_3 l_3 y_3 z_3 st_3 hQ_3
    subst l_3 y_3 z_3
    obtain ⟨a_4, j_5, i_6, rfl, N_7, K_8, g_9, g_10, g_11, g_12, g_13⟩ := hQ_3
    have N_14 := Fr.app N0 N_7
    have C_15 : Steps p.tables e below S0 (T_3.setTop (mkF m 38 #[.val (.long x), .second, .val (.long ((x / (1000 : Int64)) - (1 : Int64))), .second, .val (.int (((x - (x / (1000 : Int64)) * (1000 : Int64)).toInt32) + (1000 : Int32)))] [(.ref a_4)])) := by
      refine C_1.trans ?_
      refine XS.ifNo X0.here hx rfl (hb hby d21_16) rfl (i0_ge_f hc_2) ?_
      refine own_iincW X0.here hx rfl (hb hby d21_19) (x := ((x - (x / (1000 : Int64)) * (1000 : Int64)).toInt32)) rfl (l' := #[.val (.long x), .second, .val (.long (x / (1000 : Int64))), .second, .val (.int (((x - (x / (1000 : Int64)) * (1000 : Int64)).toInt32) + (1000 : Int32)))]) rfl ?_
      refine XS.lloadN X0.here hx rfl (hb hby d21_25) rfl ?_
      refine XS.lconst X0.here hx rfl (hb hby d21_26) ?_
      refine XS.lsub X0.here hx rfl (hb hby d21_27) rfl ?_
      refine XS.lstoreN X0.here hx rfl (hb hby d21_28) rfl (l' := #[.val (.long x), .second, .val (.long ((x / (1000 : Int64)) - (1 : Int64))), .second, .val (.int (((x - (x / (1000 : Int64)) * (1000 : Int64)).toInt32) + (1000 : Int32)))]) rfl ?_
      refine XS.lloadN X0.here hx rfl (hb hby d21_29) rfl ?_
      refine XS.iload X0.here hx rfl (hb hby d21_30) rfl ?_
      show Steps p.tables e below (s₁.setTop (mkF m 32 #[.val (.long x), .second, .val (.long ((x / (1000 : Int64)) - (1 : Int64))), .second, .val (.int (((x - (x / (1000 : Int64)) * (1000 : Int64)).toInt32) + (1000 : Int32)))] [(.int (((x - (x / (1000 : Int64)) * (1000 : Int64)).toInt32) + (1000 : Int32))), (.long ((x / (1000 : Int64)) - (1 : Int64)))])) _
      refine X0.ldcI hx hown (mvT hZ (w167 hw)) rfl (hb hby d21_32) ?_
      refine XS.imul X0.here hx rfl (hb hby d21_34) rfl ?_
      refine st_3 _ ?_
      exact Steps.refl _
    have K_16 : Keep h0 T_3.heap [] := ((Keep.refl _ _).trans K_8 all0)
    obtain ⟨fs, hr, hrun, hended, hW, hsame⟩ := X_3.leave (v := some (.ref a_4)) (fun h => by rw [Bd.returns] at h; cases h)
    refine ⟨_, _, C_15.trans (retOut X_3 hx Bd.returns rfl (Or.inr (Or.inr (Or.inr (Or.inr ⟨rfl, rfl, rfl⟩)))) (hb hby d21_38) hr), hrun, hended, _, _, rfl, ?_, ⟨_, rfl⟩, hW, hsame.mono (by decide) (by decide)⟩
    show Q_duof Z G1 sI sL sT sC sU dZ iE x h0 n0 (some (.ref a_4)) T_3.heap _
    exact ⟨a_4, j_5, i_6, rfl, N_14, K_16, g_9, g_10, g_11, (own_d1p g_12 hc_2), (own_d2p g_13 hc_2)⟩
  · skip
    obtain ⟨_, _, ⟨T_17, L_17, k_17, n_17⟩, -, X_17, ⟨Lc_17, hQ_17, l_17, y_17, z_17⟩, st_17⟩ := Jvm.LawKit.callS X0 hx (y := M440) hown (mvT hZ (w168 hw)) (mvT hZ (w169 hw)) (mvT hZ (w80 hw)) (mvT hZ (w170 hw)) (by decide) (backOf (W := 0) (rm_ducre l Z a0 hw [] G1 sI sL sT sC sU dZ iE HG h0 n0 X00 (x / (1000 : Int64)) (((x - (x / (1000 : Int64)) * (1000 : Int64)).toInt32) * (1000000 : Int32)) ) hZ (w170 hw) (w80 hw) (by decide) (by decide)) (g := (mkF m 35 #[.val (.long x), .second, .val (.long (x / (1000 : Int64))), .second, .val (.int ((x - (x / (1000 : Int64)) * (1000 : Int64)).toInt32))] [(.int (((x - (x / (1000 : Int64)) * (1000 : Int64)).toInt32) * (1000000 : Int32))), (.long (x / (1000 : Int64)))])) rfl (by rw [hml]; rfl) (argsL := [(.long (x / (1000 : Int64))), (.int (((x - (x / (1000 : Int64)) * (1000 : Int64)).toInt32) * (1000000 : Int32)))]) (rest := []) (lenOf pd_486 rfl) rfl (by show 2 * 0 + _ ≤ _; exact Nat.le_of_eq rfl) (hb hby d21_35) (fun _ _ => ⟨rfl, e0, (by decide : 0 + 1 ≤ _), (by decide : 0 + 2 ≤ _)⟩)
    dsimp only [Pt.U, Pt.locs, Pt.cells, Pt.slots] at X_17 l_17 y_17 z_17 st_17 hQ_17
    subst l_17 y_17 z_17
    obtain ⟨a_18, j_19, i_20, rfl, N_21, K_22, g_23, g_24, g_25, g_26, g_27⟩ := hQ_17
    have N_28 := Fr.app N0 N_21
    have C_29 : Steps p.tables e below S0 (T_17.setTop (mkF m 38 #[.val (.long x), .second, .val (.long (x / (1000 : Int64))), .second, .val (.int ((x - (x / (1000 : Int64)) * (1000 : Int64)).toInt32))] [(.ref a_18)])) := by
      refine C_1.trans ?_
      refine XS.ifYes X0.here hx rfl (pc0 := 16) (pc' := 29) rfl (hb hby d21_16) rfl (i0_ge_t hc_2) (by decide) (by decide) ?_
      refine XS.lloadN X0.here hx rfl (hb hby d21_29) rfl ?_
      refine XS.iload X0.here hx rfl (hb hby d21_30) rfl ?_
      refine X0.ldcI hx hown (mvT hZ (w167 hw)) rfl (hb hby d21_32) ?_
      refine XS.imul X0.here hx rfl (hb hby d21_34) rfl ?_
      refine st_17 _ ?_
      exact Steps.refl _
    have K_30 : Keep h0 T_17.heap [] := ((Keep.refl _ _).trans K_22 all0)
    obtain ⟨fs, hr, hrun, hended, hW, hsame⟩ := X_17.leave (v := some (.ref a_18)) (fun h => by rw [Bd.returns] at h; cases h)
    refine ⟨_, _, C_29.trans (retOut X_17 hx Bd.returns rfl (Or.inr (Or.inr (Or.inr (Or.inr ⟨rfl, rfl, rfl⟩)))) (hb hby d21_38) hr), hrun, hended, _, _, rfl, ?_, ⟨_, rfl⟩, hW, hsame.mono (by decide) (by decide)⟩
    show Q_duof Z G1 sI sL sT sC sU dZ iE x h0 n0 (some (.ref a_18)) T_17.heap _
    exact ⟨a_18, j_19, i_20, rfl, N_28, K_30, g_23, g_24, g_25, (own_d1n g_26 hc_2), (own_d2n g_27 hc_2)⟩
abbrev M491 : MethodName := ⟨"java/time/Duration", "toMillis", "()J"⟩
theorem ef_492 (m : MethodId) (x0 : Addr) : entryFrame m #[(.ref x0)] 7 = mkF m 0 #[.val (.ref x0), .unset, .unset, .unset, .unset, .unset, .unset] [] := by first | (simp [entryFrame, mkF, argsToLocals, Value.category]; done) | rfl
theorem d22_0 : decode jdk_2316_method_57_code 0 = .ok (.aload_n 0, 1) := by decide +kernel
theorem d22_1 : decode jdk_2316_method_57_code 1 = .ok (.getfield 221, 3) := by decide +kernel
theorem d22_4 : decode jdk_2316_method_57_code 4 = .ok (.lstore_n 1, 1) := by decide +kernel
theorem d22_5 : decode jdk_2316_method_57_code 5 = .ok (.aload_n 0, 1) := by decide +kernel
theorem d22_6 : decode jdk_2316_method_57_code 6 = .ok (.getfield 224, 3) := by decide +kernel
theorem d22_9 : decode jdk_2316_method_57_code 9 = .ok (.i2l, 1) := by decide +kernel
theorem d22_10 : decode jdk_2316_method_57_code 10 = .ok (.lstore_n 3, 1) := by decide +kernel
theorem d22_11 : decode jdk_2316_method_57_code 11 = .ok (.lload_n 1, 1) := by decide +kernel
theorem d22_12 : decode jdk_2316_method_57_code 12 = .ok (.lconst 0, 1) := by decide +kernel
theorem d22_13 : decode jdk_2316_method_57_code 13 = .ok (.lcmp, 1) := by decide +kernel
theorem d22_14 : decode jdk_2316_method_57_code 14 = .ok (.ifCond .ge 13, 3) := by decide +kernel
theorem d22_17 : decode jdk_2316_method_57_code 17 = .ok (.lload_n 1, 1) := by decide +kernel
theorem d22_18 : decode jdk_2316_method_57_code 18 = .ok (.lconst 1, 1) := by decide +kernel
theorem d22_19 : decode jdk_2316_method_57_code 19 = .ok (.ladd, 1) := by decide +kernel
theorem d22_20 : decode jdk_2316_method_57_code 20 = .ok (.lstore_n 1, 1) := by decide +kernel
theorem d22_21 : decode jdk_2316_method_57_code 21 = .ok (.lload_n 3, 1) := by decide +kernel
theorem w188 {Z : State} {a0 : Array Value} (hw : ∀ d ∈ tables_1, d.before a0 Z = true) : Jvm.Cond.before (Jvm.Cond.constantLong "java/time/Duration" (16 : Nat) (1000000000 : Int64)) a0 Z = true := hw _ (List.mem_of_getElem? (i := 188) rfl)
theorem d22_22 : decode jdk_2316_method_57_code 22 = .ok (.ldc2_w 16, 3) := by decide +kernel
theorem d22_25 : decode jdk_2316_method_57_code 25 = .ok (.lsub, 1) := by decide +kernel
theorem d22_26 : decode jdk_2316_method_57_code 26 = .ok (.lstore_n 3, 1) := by decide +kernel
theorem d22_27 : decode jdk_2316_method_57_code 27 = .ok (.lload_n 1, 1) := by decide +kernel
theorem d22_28 : decode jdk_2316_method_57_code 28 = .ok (.sipush 1000, 3) := by decide +kernel
theorem d22_31 : decode jdk_2316_method_57_code 31 = .ok (.invokestatic 4, 3) := by decide +kernel
theorem w183 {Z : State} {a0 : Array Value} (hw : ∀ d ∈ tables_1, d.before a0 Z = true) : Jvm.Cond.before (Jvm.Cond.methodLink "java/time/Duration" (4 : Nat) ({ cls := "java/lang/Math", name := "multiplyExact", desc := "(JI)J" } : Jvm.MethodName)) a0 Z = true := hw _ (List.mem_of_getElem? (i := 183) rfl)
theorem d22_34 : decode jdk_2316_method_57_code 34 = .ok (.lstore 5, 2) := by decide +kernel
theorem d22_36 : decode jdk_2316_method_57_code 36 = .ok (.lload 5, 2) := by decide +kernel
theorem d22_38 : decode jdk_2316_method_57_code 38 = .ok (.lload_n 3, 1) := by decide +kernel
theorem w184 {Z : State} {a0 : Array Value} (hw : ∀ d ∈ tables_1, d.before a0 Z = true) : Jvm.Cond.before (Jvm.Cond.constantLong "java/time/Duration" (294 : Nat) (1000000 : Int64)) a0 Z = true := hw _ (List.mem_of_getElem? (i := 184) rfl)
theorem d22_39 : decode jdk_2316_method_57_code 39 = .ok (.ldc2_w 294, 3) := by decide +kernel
theorem d22_42 : decode jdk_2316_method_57_code 42 = .ok (.ldiv, 1) := by decide +kernel
theorem d22_43 : decode jdk_2316_method_57_code 43 = .ok (.invokestatic 22, 3) := by decide +kernel
theorem w185 {Z : State} {a0 : Array Value} (hw : ∀ d ∈ tables_1, d.before a0 Z = true) : Jvm.Cond.before (Jvm.Cond.methodLink "java/time/Duration" (22 : Nat) ({ cls := "java/lang/Math", name := "addExact", desc := "(JJ)J" } : Jvm.MethodName)) a0 Z = true := hw _ (List.mem_of_getElem? (i := 185) rfl)
theorem d22_46 : decode jdk_2316_method_57_code 46 = .ok (.lstore 5, 2) := by decide +kernel
theorem d22_48 : decode jdk_2316_method_57_code 48 = .ok (.lload 5, 2) := by decide +kernel
theorem d22_50 : decode jdk_2316_method_57_code 50 = .ok (.lreturn, 1) := by decide +kernel
abbrev R_duto : Room := { frames := 3, cells := 0, slots := 0, locals := 48 }
def Q_duto (Z : State) (G1 : Int32) (sI : Addr) (sL : Addr) (sT : Addr) (sC : Addr) (sU : Addr) (dZ : Addr) (iE : Addr) (d : Addr) (ss : Int64) (n : Int32) (h0 : Heap) (n0 : Nat) (v : Option Value) (h : Heap) (L : List Loc) : Prop := (∃ r : Int64, v = some (.long r) ∧ Fr n0 L ∧ h = h0 ∧ (r.toInt = ss.toInt * 1000 + n.toInt / 1000000))
set_option maxRecDepth 65536 in
set_option maxHeartbeats 40000000 in
theorem rm_duto (l : Launch) (Z : State) (a0 : Array Value) (hw : ∀ d ∈ tables_1, d.before a0 Z = true) (ws : List Jvm.Cond) (G1 : Int32) (sI : Addr) (sL : Addr) (sT : Addr) (sC : Addr) (sU : Addr) (dZ : Addr) (iE : Addr) (HG : own_G l Z a0 G1 sI sL sT sC sU dZ iE) (h0 : Heap) (n0 : Nat) (X00 : Old Z n0 h0) (d : Addr) (ss : Int64) (n : Int32) (hp0 : Fld Z h0 d "java/time/Duration" "seconds" "J" (.long ss)) (hp1 : Fld Z h0 d "java/time/Duration" "nanos" "I" (.int n)) (hA : 0 ≤ n.toInt ∧ n.toInt < 1000000000 ∧ n.toInt % 1000000 = 0) (hB : -9223372036854775808 ≤ ss.toInt * 1000 + n.toInt / 1000000 ∧ ss.toInt * 1000 + n.toInt / 1000000 < 9223372036854775808) :
    own_CP l Z M491 jdk_2316_method_57_code 7 (some .long) ws R_duto #[(.ref d)] h0 (Q_duto Z G1 sI sL sT sC sU dZ iE d ss n h0 n0) := by
  refine own_P (plainFor_of_name pn_424) ?_
  intro p e s m below meth c s₁ S0 Bd hZ hh hx hby hml hown hnm X0 e0 hS0d
  obtain ⟨O1, P1, OsI, OsL, OsT, OsC, OsU, NsL, NsT, NsC, NsU, OZ, EZ, FZ1, FZ2, OE, EE, FE1, FE2⟩ := id HG
  have N0 := Fr.nil n0
  have C0 : Steps p.tables e below S0 (s₁.setTop (mkF m 0 #[.val (.ref d), .unset, .unset, .unset, .unset, .unset, .unset] [])) := by rw [hS0d]; exact castTop (ef_492 m d) (Steps.refl _)
  obtain ⟨T_1, X_2, e_3, st_4⟩ := getF X0 hx hZ hown (host := "") (Or.inl (w157 hw)) Via.refl e0 hp0 (g := (mkF m 1 #[.val (.ref d), .unset, .unset, .unset, .unset, .unset, .unset] [(.ref d)])) rfl rfl (hb hby d22_1)
  obtain ⟨T_5, X_6, e_7, st_8⟩ := getF X_2 hx hZ hown (host := "") (Or.inl (w159 hw)) Via.refl e_3 hp1 (g := (mkF m 6 #[.val (.ref d), .val (.long ss), .second, .unset, .unset, .unset, .unset] [(.ref d)])) rfl rfl (hb hby d22_6)
  have C_9 : Steps p.tables e below S0 (T_5.setTop (mkF m 14 #[.val (.ref d), .val (.long ss), .second, .val (.long (n.toInt64)), .second, .unset, .unset] [(.int (lcmpW ss (0 : Int64)))])) := by
    refine C0.trans ?_
    refine XS.aloadN X0.here hx rfl (hb hby d22_0) rfl rfl ?_
    refine st_4 _ ?_
    refine XS.lstoreN X_2.here hx rfl (hb hby d22_4) rfl (l' := #[.val (.ref d), .val (.long ss), .second, .unset, .unset, .unset, .unset]) rfl ?_
    refine XS.aloadN X_2.here hx rfl (hb hby d22_5) rfl rfl ?_
    refine st_8 _ ?_
    refine XS.i2l X_6.here hx rfl (hb hby d22_9) rfl ?_
    refine XS.lstoreN X_6.here hx rfl (hb hby d22_10) rfl (l' := #[.val (.ref d), .val (.long ss), .second, .val (.long (n.toInt64)), .second, .unset, .unset]) rfl ?_
    refine XS.lloadN X_6.here hx rfl (hb hby d22_11) rfl ?_
    show Steps p.tables e below (T_5.setTop (mkF m 12 #[.val (.ref d), .val (.long ss), .second, .val (.long (n.toInt64)), .second, .unset, .unset] [(.long ss)])) _
    refine XS.lconst X_6.here hx rfl (hb hby d22_12) ?_
    refine XS.lcmp X_6.here hx rfl (hb hby d22_13) rfl ?_
    exact Steps.refl _
  by_cases hc_10 : ss < (0 : Int64)
  · skip
    obtain ⟨_, _, ⟨T_11, L_11, k_11, n_11⟩, -, X_11, ⟨Lc_11, hQ_11, l_11, y_11, z_11⟩, st_11⟩ := Jvm.LawKit.callS X_6 hx (y := M269) hown (mvT hZ (w183 hw)) (mvT hZ (w136 hw)) (mvT hZ (w51 hw)) (mvT hZ (w137 hw)) (by decide) (backOf (W := 0) (rm_mxJI l Z a0 hw [] G1 sI sL sT sC sU dZ iE HG h0 n0 X00 (ss + (1 : Int64)) (own_m1 hc_10 hA hB)) hZ (w137 hw) (w51 hw) (by decide) (by decide)) (g := (mkF m 31 #[.val (.ref d), .val (.long (ss + (1 : Int64))), .second, .val (.long ((n.toInt64) - (1000000000 : Int64))), .second, .unset, .unset] [(.int (1000 : Int32)), (.long (ss + (1 : Int64)))])) rfl (by rw [hml]; rfl) (argsL := [(.long (ss + (1 : Int64))), (.int (1000 : Int32))]) (rest := []) (lenOf pd_351 rfl) rfl (by show 2 * 0 + _ ≤ _; exact Nat.le_of_eq rfl) (hb hby d22_31) (fun _ _ => ⟨rfl, e_7, (by decide : 0 + 0 ≤ _), (by decide : 0 + 0 ≤ _)⟩)
    dsimp only [Pt.U, Pt.locs, Pt.cells, Pt.slots] at X_11 l_11 y_11 z_11 st_11 hQ_11
    subst l_11 y_11 z_11
    obtain ⟨j_12, rfl, N_13, e_14, g_15⟩ := hQ_11
    have N_16 := Fr.app N0 N_13
    have e_17 : T_11.heap = h0 := e_14
    obtain ⟨_, _, ⟨T_18, L_18, k_18, n_18⟩, -, X_18, ⟨Lc_18, hQ_18, l_18, y_18, z_18⟩, st_18⟩ := Jvm.LawKit.callS X_11 hx (y := M278) hown (mvT hZ (w185 hw)) (mvT hZ (w145 hw)) (mvT hZ (w51 hw)) (mvT hZ (w146 hw)) (by decide) (backOf (W := 0) (rm_axJJ l Z a0 hw [] G1 sI sL sT sC sU dZ iE HG h0 n0 X00 j_12 (((n.toInt64) - (1000000000 : Int64)) / (1000000 : Int64)) (own_sum1 g_15 hc_10 (own_vC hA) hB)) hZ (w146 hw) (w51 hw) (by decide) (by decide)) (g := (mkF m 43 #[.val (.ref d), .val (.long (ss + (1 : Int64))), .second, .val (.long ((n.toInt64) - (1000000000 : Int64))), .second, .val (.long j_12), .second] [(.long (((n.toInt64) - (1000000000 : Int64)) / (1000000 : Int64))), (.long j_12)])) rfl (by rw [hml]; rfl) (argsL := [(.long j_12), (.long (((n.toInt64) - (1000000000 : Int64)) / (1000000 : Int64)))]) (rest := []) (lenOf pd_181 rfl) rfl (by show 2 * 0 + _ ≤ _; exact Nat.le_of_eq rfl) (hb hby d22_43) (fun _ _ => ⟨rfl, e_17, (by decide : 0 + 0 ≤ _), (by decide : 0 + 0 ≤ _)⟩)
    dsimp only [Pt.U, Pt.locs, Pt.cells, Pt.slots] at X_18 l_18 y_18 z_18 st_18 hQ_18
    subst l_18 y_18 z_18
    obtain ⟨j_19, rfl, N_20, e_21, g_22⟩ := hQ_18
    have N_23 := Fr.app N_16 N_20
    have e_24 : T_18.heap = h0 := e_21
    have C_25 : Steps p.tables e below S0 (T_18.setTop (mkF m 50 #[.val (.ref d), .val (.long (ss + (1 : Int64))), .second, .val (.long ((n.toInt64) - (1000000000 : Int64))), .second, .val (.long j_19), .second] [(.long j_19)])) := by
      refine C_9.trans ?_
      refine XS.ifNo X_6.here hx rfl (hb hby d22_14) rfl (i0_ge_f ((lw_lt ss (0 : Int64)).mpr hc_10)) ?_
      refine XS.lloadN X_6.here hx rfl (hb hby d22_17) rfl ?_
      refine XS.lconst X_6.here hx rfl (hb hby d22_18) ?_
      refine XS.ladd X_6.here hx rfl (hb hby d22_19) rfl ?_
      refine XS.lstoreN X_6.here hx rfl (hb hby d22_20) rfl (l' := #[.val (.ref d), .val (.long (ss + (1 : Int64))), .second, .val (.long (n.toInt64)), .second, .unset, .unset]) rfl ?_
      refine XS.lloadN X_6.here hx rfl (hb hby d22_21) rfl ?_
      refine X_6.ldc2J hx hown (mvT hZ (w188 hw)) rfl (hb hby d22_22) ?_
      refine XS.lsub X_6.here hx rfl (hb hby d22_25) rfl ?_
      show Steps p.tables e below (T_5.setTop (mkF m 26 #[.val (.ref d), .val (.long (ss + (1 : Int64))), .second, .val (.long (n.toInt64)), .second, .unset, .unset] [(.long ((n.toInt64) - (1000000000 : Int64)))])) _
      refine XS.lstoreN X_6.here hx rfl (hb hby d22_26) rfl (l' := #[.val (.ref d), .val (.long (ss + (1 : Int64))), .second, .val (.long ((n.toInt64) - (1000000000 : Int64))), .second, .unset, .unset]) rfl ?_
      refine XS.lloadN X_6.here hx rfl (hb hby d22_27) rfl ?_
      refine XS.sipush X_6.here hx rfl (hb hby d22_28) ?_
      refine st_11 _ ?_
      refine XS.lstore X_11.here hx rfl (hb hby d22_34) rfl (l' := #[.val (.ref d), .val (.long (ss + (1 : Int64))), .second, .val (.long ((n.toInt64) - (1000000000 : Int64))), .second, .val (.long j_12), .second]) rfl ?_
      refine XS.lload X_11.here hx rfl (hb hby d22_36) rfl ?_
      refine XS.lloadN X_11.here hx rfl (hb hby d22_38) rfl ?_
      refine X_11.ldc2J hx hown (mvT hZ (w184 hw)) rfl (hb hby d22_39) ?_
      show Steps p.tables e below (T_11.setTop (mkF m 42 #[.val (.ref d), .val (.long (ss + (1 : Int64))), .second, .val (.long ((n.toInt64) - (1000000000 : Int64))), .second, .val (.long j_12), .second] [(.long (1000000 : Int64)), (.long ((n.toInt64) - (1000000000 : Int64))), (.long j_12)])) _
      refine XS.ldiv X_11.here hx rfl (hb hby d22_42) rfl (by decide) ?_
      refine st_18 _ ?_
      refine XS.lstore X_18.here hx rfl (hb hby d22_46) rfl (l' := #[.val (.ref d), .val (.long (ss + (1 : Int64))), .second, .val (.long ((n.toInt64) - (1000000000 : Int64))), .second, .val (.long j_19), .second]) rfl ?_
      refine XS.lload X_18.here hx rfl (hb hby d22_48) rfl ?_
      exact Steps.refl _
    obtain ⟨fs, hr, hrun, hended, hW, hsame⟩ := X_18.leave (v := some (.long j_19)) (fun h => by rw [Bd.returns] at h; cases h)
    refine ⟨_, _, C_25.trans (retOut X_18 hx Bd.returns rfl (Or.inr (Or.inl ⟨rfl, rfl, _, rfl⟩)) (hb hby d22_50) hr), hrun, hended, _, _, rfl, ?_, ⟨_, rfl⟩, hW, hsame.mono (by decide) (by decide)⟩
    show Q_duto Z G1 sI sL sT sC sU dZ iE d ss n h0 n0 (some (.long j_19)) T_18.heap _
    rw [e_24]
    exact ⟨j_19, rfl, N_23, rfl, (own_fin1 g_22 g_15 hc_10 (own_vC hA))⟩
  · skip
    obtain ⟨_, _, ⟨T_26, L_26, k_26, n_26⟩, -, X_26, ⟨Lc_26, hQ_26, l_26, y_26, z_26⟩, st_26⟩ := Jvm.LawKit.callS X_6 hx (y := M269) hown (mvT hZ (w183 hw)) (mvT hZ (w136 hw)) (mvT hZ (w51 hw)) (mvT hZ (w137 hw)) (by decide) (backOf (W := 0) (rm_mxJI l Z a0 hw [] G1 sI sL sT sC sU dZ iE HG h0 n0 X00 ss (own_m3 hc_10 hA hB)) hZ (w137 hw) (w51 hw) (by decide) (by decide)) (g := (mkF m 31 #[.val (.ref d), .val (.long ss), .second, .val (.long (n.toInt64)), .second, .unset, .unset] [(.int (1000 : Int32)), (.long ss)])) rfl (by rw [hml]; rfl) (argsL := [(.long ss), (.int (1000 : Int32))]) (rest := []) (lenOf pd_351 rfl) rfl (by show 2 * 0 + _ ≤ _; exact Nat.le_of_eq rfl) (hb hby d22_31) (fun _ _ => ⟨rfl, e_7, (by decide : 0 + 0 ≤ _), (by decide : 0 + 0 ≤ _)⟩)
    dsimp only [Pt.U, Pt.locs, Pt.cells, Pt.slots] at X_26 l_26 y_26 z_26 st_26 hQ_26
    subst l_26 y_26 z_26
    obtain ⟨j_27, rfl, N_28, e_29, g_30⟩ := hQ_26
    have N_31 := Fr.app N0 N_28
    have e_32 : T_26.heap = h0 := e_29
    obtain ⟨_, _, ⟨T_33, L_33, k_33, n_33⟩, -, X_33, ⟨Lc_33, hQ_33, l_33, y_33, z_33⟩, st_33⟩ := Jvm.LawKit.callS X_26 hx (y := M278) hown (mvT hZ (w185 hw)) (mvT hZ (w145 hw)) (mvT hZ (w51 hw)) (mvT hZ (w146 hw)) (by decide) (backOf (W := 0) (rm_axJJ l Z a0 hw [] G1 sI sL sT sC sU dZ iE HG h0 n0 X00 j_27 ((n.toInt64) / (1000000 : Int64)) (own_sum2 g_30 (own_vD hA) hB)) hZ (w146 hw) (w51 hw) (by decide) (by decide)) (g := (mkF m 43 #[.val (.ref d), .val (.long ss), .second, .val (.long (n.toInt64)), .second, .val (.long j_27), .second] [(.long ((n.toInt64) / (1000000 : Int64))), (.long j_27)])) rfl (by rw [hml]; rfl) (argsL := [(.long j_27), (.long ((n.toInt64) / (1000000 : Int64)))]) (rest := []) (lenOf pd_181 rfl) rfl (by show 2 * 0 + _ ≤ _; exact Nat.le_of_eq rfl) (hb hby d22_43) (fun _ _ => ⟨rfl, e_32, (by decide : 0 + 0 ≤ _), (by decide : 0 + 0 ≤ _)⟩)
    dsimp only [Pt.U, Pt.locs, Pt.cells, Pt.slots] at X_33 l_33 y_33 z_33 st_33 hQ_33
    subst l_33 y_33 z_33
    obtain ⟨j_34, rfl, N_35, e_36, g_37⟩ := hQ_33
    have N_38 := Fr.app N_31 N_35
    have e_39 : T_33.heap = h0 := e_36
    have C_40 : Steps p.tables e below S0 (T_33.setTop (mkF m 50 #[.val (.ref d), .val (.long ss), .second, .val (.long (n.toInt64)), .second, .val (.long j_34), .second] [(.long j_34)])) := by
      refine C_9.trans ?_
      refine XS.ifYes X_6.here hx rfl (pc0 := 14) (pc' := 27) rfl (hb hby d22_14) rfl (i0_ge_t (fun q => hc_10 ((lw_lt ss (0 : Int64)).mp q))) (by decide) (by decide) ?_
      refine XS.lloadN X_6.here hx rfl (hb hby d22_27) rfl ?_
      refine XS.sipush X_6.here hx rfl (hb hby d22_28) ?_
      refine st_26 _ ?_
      refine XS.lstore X_26.here hx rfl (hb hby d22_34) rfl (l' := #[.val (.ref d), .val (.long ss), .second, .val (.long (n.toInt64)), .second, .val (.long j_27), .second]) rfl ?_
      refine XS.lload X_26.here hx rfl (hb hby d22_36) rfl ?_
      refine XS.lloadN X_26.here hx rfl (hb hby d22_38) rfl ?_
      refine X_26.ldc2J hx hown (mvT hZ (w184 hw)) rfl (hb hby d22_39) ?_
      show Steps p.tables e below (T_26.setTop (mkF m 42 #[.val (.ref d), .val (.long ss), .second, .val (.long (n.toInt64)), .second, .val (.long j_27), .second] [(.long (1000000 : Int64)), (.long (n.toInt64)), (.long j_27)])) _
      refine XS.ldiv X_26.here hx rfl (hb hby d22_42) rfl (by decide) ?_
      refine st_33 _ ?_
      refine XS.lstore X_33.here hx rfl (hb hby d22_46) rfl (l' := #[.val (.ref d), .val (.long ss), .second, .val (.long (n.toInt64)), .second, .val (.long j_34), .second]) rfl ?_
      refine XS.lload X_33.here hx rfl (hb hby d22_48) rfl ?_
      exact Steps.refl _
    obtain ⟨fs, hr, hrun, hended, hW, hsame⟩ := X_33.leave (v := some (.long j_34)) (fun h => by rw [Bd.returns] at h; cases h)
    refine ⟨_, _, C_40.trans (retOut X_33 hx Bd.returns rfl (Or.inr (Or.inl ⟨rfl, rfl, _, rfl⟩)) (hb hby d22_50) hr), hrun, hended, _, _, rfl, ?_, ⟨_, rfl⟩, hW, hsame.mono (by decide) (by decide)⟩
    show Q_duto Z G1 sI sL sT sC sU dZ iE d ss n h0 n0 (some (.long j_34)) T_33.heap _
    rw [e_39]
    exact ⟨j_34, rfl, N_38, rfl, (own_fin2 g_37 g_30 (own_vD hA))⟩
abbrev M528 : MethodName := ⟨"java/time/Duration", "isZero", "()Z"⟩
theorem ef_529 (m : MethodId) (x0 : Addr) : entryFrame m #[(.ref x0)] 1 = mkF m 0 #[.val (.ref x0)] [] := by first | (simp [entryFrame, mkF, argsToLocals, Value.category]; done) | rfl
theorem d23_0 : decode jdk_2316_method_21_code 0 = .ok (.aload_n 0, 1) := by decide +kernel
theorem d23_1 : decode jdk_2316_method_21_code 1 = .ok (.getfield 221, 3) := by decide +kernel
theorem d23_4 : decode jdk_2316_method_21_code 4 = .ok (.aload_n 0, 1) := by decide +kernel
theorem d23_5 : decode jdk_2316_method_21_code 5 = .ok (.getfield 224, 3) := by decide +kernel
theorem d23_8 : decode jdk_2316_method_21_code 8 = .ok (.i2l, 1) := by decide +kernel
theorem d23_9 : decode jdk_2316_method_21_code 9 = .ok (.lor, 1) := by decide +kernel
theorem d23_10 : decode jdk_2316_method_21_code 10 = .ok (.lconst 0, 1) := by decide +kernel
theorem d23_11 : decode jdk_2316_method_21_code 11 = .ok (.lcmp, 1) := by decide +kernel
theorem d23_12 : decode jdk_2316_method_21_code 12 = .ok (.ifCond .ne 7, 3) := by decide +kernel
theorem d23_15 : decode jdk_2316_method_21_code 15 = .ok (.iconst 1, 1) := by decide +kernel
theorem d23_16 : decode jdk_2316_method_21_code 16 = .ok (.goto 4, 3) := by decide +kernel
theorem d23_20 : decode jdk_2316_method_21_code 20 = .ok (.ireturn, 1) := by decide +kernel
abbrev R_isz : Room := { frames := 0, cells := 0, slots := 0, locals := 0 }
def Q_isz (Z : State) (G1 : Int32) (sI : Addr) (sL : Addr) (sT : Addr) (sC : Addr) (sU : Addr) (dZ : Addr) (iE : Addr)  (h0 : Heap) (n0 : Nat) (v : Option Value) (h : Heap) (L : List Loc) : Prop := (v = some (.int (1 : Int32)) ∧ Fr n0 L ∧ h = h0)
set_option maxRecDepth 65536 in
set_option maxHeartbeats 40000000 in
theorem rm_isz (l : Launch) (Z : State) (a0 : Array Value) (hw : ∀ d ∈ tables_1, d.before a0 Z = true) (ws : List Jvm.Cond) (G1 : Int32) (sI : Addr) (sL : Addr) (sT : Addr) (sC : Addr) (sU : Addr) (dZ : Addr) (iE : Addr) (HG : own_G l Z a0 G1 sI sL sT sC sU dZ iE) (h0 : Heap) (n0 : Nat) (X00 : Old Z n0 h0)   :
    own_CP l Z M528 jdk_2316_method_21_code 1 (some .boolean) ws R_isz #[(.ref dZ)] h0 (Q_isz Z G1 sI sL sT sC sU dZ iE  h0 n0) := by
  refine own_P (plainFor_of_name pn_424) ?_
  intro p e s m below meth c s₁ S0 Bd hZ hh hx hby hml hown hnm X0 e0 hS0d
  obtain ⟨O1, P1, OsI, OsL, OsT, OsC, OsU, NsL, NsT, NsC, NsU, OZ, EZ, FZ1, FZ2, OE, EE, FE1, FE2⟩ := id HG
  have N0 := Fr.nil n0
  have C0 : Steps p.tables e below S0 (s₁.setTop (mkF m 0 #[.val (.ref dZ)] [])) := by rw [hS0d]; exact castTop (ef_529 m dZ) (Steps.refl _)
  obtain ⟨T_1, X_2, e_3, st_4⟩ := getF X0 hx hZ hown (host := "") (Or.inl (w157 hw)) Via.refl e0 (FZ1.ext X00.2) (g := (mkF m 1 #[.val (.ref dZ)] [(.ref dZ)])) rfl rfl (hb hby d23_1)
  obtain ⟨T_5, X_6, e_7, st_8⟩ := getF X_2 hx hZ hown (host := "") (Or.inl (w159 hw)) Via.refl e_3 (FZ2.ext X00.2) (g := (mkF m 5 #[.val (.ref dZ)] [(.ref dZ), (.long (0 : Int64))])) rfl rfl (hb hby d23_5)
  have C_9 : Steps p.tables e below S0 (T_5.setTop (mkF m 20 #[.val (.ref dZ)] [(.int (1 : Int32))])) := by
    refine C0.trans ?_
    refine XS.aloadN X0.here hx rfl (hb hby d23_0) rfl rfl ?_
    refine st_4 _ ?_
    refine XS.aloadN X_2.here hx rfl (hb hby d23_4) rfl rfl ?_
    refine st_8 _ ?_
    refine XS.i2l X_6.here hx rfl (hb hby d23_8) rfl ?_
    refine XS.lor X_6.here hx rfl (hb hby d23_9) rfl ?_
    refine XS.lconst X_6.here hx rfl (hb hby d23_10) ?_
    refine XS.lcmp X_6.here hx rfl (hb hby d23_11) rfl ?_
    show Steps p.tables e below (T_5.setTop (mkF m 12 #[.val (.ref dZ)] [(.int (0 : Int32))])) _
    refine XS.ifNo X_6.here hx rfl (hb hby d23_12) rfl (by decide) ?_
    refine XS.iconst X_6.here hx rfl (hb hby d23_15) ?_
    refine XS.goto X_6.here hx rfl (pc0 := 16) (pc' := 20) rfl (hb hby d23_16) (by decide) (by decide) ?_
    exact Steps.refl _
  obtain ⟨fs, hr, hrun, hended, hW, hsame⟩ := X_6.leave (v := some (.int (1 : Int32))) (fun h => by rw [Bd.returns] at h; cases h)
  refine ⟨_, _, C_9.trans (retN X_6 hx (t := .boolean) Bd.returns (by simp) (hb hby d23_20) hr), hrun, hended, _, _, rfl, ?_, ⟨_, rfl⟩, hW, hsame.mono (by decide) (by decide)⟩
  show Q_isz Z G1 sI sL sT sC sU dZ iE  h0 n0 (some (.int (1 : Int32))) T_5.heap _
  rw [e_7]
  exact ⟨rfl, N0, rfl⟩
abbrev M542 : MethodName := ⟨"com/example/expiring_state/expiringstate/Answer", "<init>", "(Z)V"⟩
theorem pn_543 : plainName "com/example/expiring_state/expiringstate/Answer" = true := by first | (simp [plainName, overriddenIn]; done) | decide +kernel
theorem d24_0 : decode prog_1_method_1_code 0 = .ok (.aload_n 0, 1) := by decide +kernel
theorem w89 {Z : State} {a0 : Array Value} (hw : ∀ d ∈ tables_1, d.before a0 Z = true) : Jvm.Cond.before (Jvm.Cond.methodLink "com/example/expiring_state/expiringstate/Answer" (1 : Nat) ({ cls := "java/lang/Object", name := "<init>", desc := "()V" } : Jvm.MethodName)) a0 Z = true := hw _ (List.mem_of_getElem? (i := 89) rfl)
theorem d24_1 : decode prog_1_method_1_code 1 = .ok (.invokespecial 1, 3) := by decide +kernel
theorem d24_4 : decode prog_1_method_1_code 4 = .ok (.aload_n 0, 1) := by decide +kernel
theorem d24_5 : decode prog_1_method_1_code 5 = .ok (.iload_n 1, 1) := by decide +kernel
theorem w90 {Z : State} {a0 : Array Value} (hw : ∀ d ∈ tables_1, d.before a0 Z = true) : Jvm.Cond.before (Jvm.Cond.fieldLink "com/example/expiring_state/expiringstate/Answer" (7 : Nat) "com/example/expiring_state/expiringstate/Answer" "withoutStore" "Z") a0 Z = true := hw _ (List.mem_of_getElem? (i := 90) rfl)
theorem w91 {Z : State} {a0 : Array Value} (hw : ∀ d ∈ tables_1, d.before a0 Z = true) : Jvm.Cond.before (Jvm.Cond.laysFinal "com/example/expiring_state/expiringstate/OneTimeCodes$IssueResult" "com/example/expiring_state/expiringstate/Answer" "withoutStore" "Z") a0 Z = true := hw _ (List.mem_of_getElem? (i := 91) rfl)
theorem w44 {Z : State} {a0 : Array Value} (hw : ∀ d ∈ tables_1, d.before a0 Z = true) : Jvm.Cond.before (Jvm.Cond.instantiable "com/example/expiring_state/expiringstate/OneTimeCodes$IssueResult" (5 : Nat)) a0 Z = true := hw _ (List.mem_of_getElem? (i := 44) rfl)
theorem d24_6 : decode prog_1_method_1_code 6 = .ok (.putfield 7, 3) := by decide +kernel
theorem d24_9 : decode prog_1_method_1_code 9 = .ok (.return_, 1) := by decide +kernel
theorem w93 {Z : State} {a0 : Array Value} (hw : ∀ d ∈ tables_1, d.before a0 Z = true) : Jvm.Cond.before (Jvm.Cond.laysFinal "com/example/expiring_state/expiringstate/OneTimeCodes$IssueResult" "com/example/expiring_state/expiringstate/OneTimeCodes$IssueResult" "status" "Lcom/example/expiring_state/expiringstate/OneTimeCodes$IssueResult$Status;") a0 Z = true := hw _ (List.mem_of_getElem? (i := 93) rfl)
theorem w95 {Z : State} {a0 : Array Value} (hw : ∀ d ∈ tables_1, d.before a0 Z = true) : Jvm.Cond.before (Jvm.Cond.laysFinal "com/example/expiring_state/expiringstate/OneTimeCodes$IssueResult" "com/example/expiring_state/expiringstate/OneTimeCodes$IssueResult" "code" "Ljava/lang/String;") a0 Z = true := hw _ (List.mem_of_getElem? (i := 95) rfl)
theorem w97 {Z : State} {a0 : Array Value} (hw : ∀ d ∈ tables_1, d.before a0 Z = true) : Jvm.Cond.before (Jvm.Cond.laysFinal "com/example/expiring_state/expiringstate/OneTimeCodes$IssueResult" "com/example/expiring_state/expiringstate/OneTimeCodes$IssueResult" "expiresAt" "Ljava/time/Instant;") a0 Z = true := hw _ (List.mem_of_getElem? (i := 97) rfl)
theorem w99 {Z : State} {a0 : Array Value} (hw : ∀ d ∈ tables_1, d.before a0 Z = true) : Jvm.Cond.before (Jvm.Cond.laysFinal "com/example/expiring_state/expiringstate/OneTimeCodes$IssueResult" "com/example/expiring_state/expiringstate/OneTimeCodes$IssueResult" "retryAfter" "Ljava/time/Duration;") a0 Z = true := hw _ (List.mem_of_getElem? (i := 99) rfl)
abbrev R_ainit : Room := { frames := 1, cells := 0, slots := 0, locals := 12 }
def Q_ainit (Z : State) (G1 : Int32) (sI : Addr) (sL : Addr) (sT : Addr) (sC : Addr) (sU : Addr) (dZ : Addr) (iE : Addr) (d : Addr) (h0 : Heap) (n0 : Nat) (v : Option Value) (h : Heap) (L : List Loc) : Prop := (v = none ∧ Fr n0 L ∧ Keep h0 h [d] ∧ (Fld Z h d "com/example/expiring_state/expiringstate/Answer" "withoutStore" "Z" (.int (0 : Int32))) ∧ (Fld Z h d "com/example/expiring_state/expiringstate/OneTimeCodes$IssueResult" "status" "Lcom/example/expiring_state/expiringstate/OneTimeCodes$IssueResult$Status;" .null) ∧ (Fld Z h d "com/example/expiring_state/expiringstate/OneTimeCodes$IssueResult" "code" "Ljava/lang/String;" .null) ∧ (Fld Z h d "com/example/expiring_state/expiringstate/OneTimeCodes$IssueResult" "expiresAt" "Ljava/time/Instant;" .null) ∧ (Fld Z h d "com/example/expiring_state/expiringstate/OneTimeCodes$IssueResult" "retryAfter" "Ljava/time/Duration;" .null))
set_option maxRecDepth 65536 in
set_option maxHeartbeats 40000000 in
theorem rm_ainit (l : Launch) (Z : State) (a0 : Array Value) (hw : ∀ d ∈ tables_1, d.before a0 Z = true) (ws : List Jvm.Cond) (G1 : Int32) (sI : Addr) (sL : Addr) (sT : Addr) (sC : Addr) (sU : Addr) (dZ : Addr) (iE : Addr) (HG : own_G l Z a0 G1 sI sL sT sC sU dZ iE) (h0 : Heap) (n0 : Nat) (X00 : Old Z n0 h0) (d : Addr) (hp0 : Exa Z h0 d "com/example/expiring_state/expiringstate/OneTimeCodes$IssueResult") (hp1 : Fld Z h0 d "com/example/expiring_state/expiringstate/Answer" "withoutStore" "Z" (.int (0 : Int32))) (hp2 : Fld Z h0 d "com/example/expiring_state/expiringstate/OneTimeCodes$IssueResult" "status" "Lcom/example/expiring_state/expiringstate/OneTimeCodes$IssueResult$Status;" .null) (hp3 : Fld Z h0 d "com/example/expiring_state/expiringstate/OneTimeCodes$IssueResult" "code" "Ljava/lang/String;" .null) (hp4 : Fld Z h0 d "com/example/expiring_state/expiringstate/OneTimeCodes$IssueResult" "expiresAt" "Ljava/time/Instant;" .null) (hp5 : Fld Z h0 d "com/example/expiring_state/expiringstate/OneTimeCodes$IssueResult" "retryAfter" "Ljava/time/Duration;" .null) (hp6 : n0 ≤ d) :
    own_CP l Z M542 prog_1_method_1_code 2 none ws R_ainit #[(.ref d), (.int (0 : Int32))] h0 (Q_ainit Z G1 sI sL sT sC sU dZ iE d h0 n0) := by
  refine own_P (plainFor_of_name pn_543) ?_
  intro p e s m below meth c s₁ S0 Bd hZ hh hx hby hml hown hnm X0 e0 hS0d
  obtain ⟨O1, P1, OsI, OsL, OsT, OsC, OsU, NsL, NsT, NsC, NsU, OZ, EZ, FZ1, FZ2, OE, EE, FE1, FE2⟩ := id HG
  have N0 := Fr.nil n0
  have C0 : Steps p.tables e below S0 (s₁.setTop (mkF m 0 #[.val (.ref d), .val (.int (0 : Int32))] [])) := by rw [hS0d]; exact castTop (ef_50 m d (0 : Int32)) (Steps.refl _)
  obtain ⟨T_1, X_2, e_3, st_4⟩ := initO X0 hx hZ hown (w89 hw) (w20 hw) (w21 hw) e0 (g := (mkF m 1 #[.val (.ref d), .val (.int (0 : Int32))] [(.ref d)])) rfl (by rw [hml]; rfl) rfl (hb hby d24_1) (by decide) (W := 0) (by show 2 * 0 + _ ≤ _; exact Nat.le_of_eq rfl) (by decide)
  obtain ⟨T_5, h_6, X_7, e_8, W_9, st_10⟩ := putF X_2 hx hZ hown (host := "") (Or.inl (w90 hw)) Via.refl e_3 hp1 hp0 (Or.inr ⟨(w91 hw), rfl, hnm⟩) (w44 hw) (ty := .boolean) (by decide) rfl (by decide) (g := (mkF m 6 #[.val (.ref d), .val (.int (0 : Int32))] [(.int (0 : Int32)), (.ref d)])) rfl rfl (hb hby d24_6)
  have N_11 := Fr.snoc X_7 N0 hp6
  have F_12 : Fld Z h_6 d "com/example/expiring_state/expiringstate/Answer" "withoutStore" "Z" (.int (0 : Int32)) := hp1.same W_9
  have C_13 : Steps p.tables e below S0 (T_5.setTop (mkF m 9 #[.val (.ref d), .val (.int (0 : Int32))] [])) := by
    refine C0.trans ?_
    refine XS.aloadN X0.here hx rfl (hb hby d24_0) rfl rfl ?_
    refine st_4 _ ?_
    refine XS.aloadN X_2.here hx rfl (hb hby d24_4) rfl rfl ?_
    refine XS.iloadN X_2.here hx rfl (hb hby d24_5) rfl ?_
    refine st_10 _ ?_
    exact Steps.refl _
  have F_14 : Fld Z h_6 d "com/example/expiring_state/expiringstate/OneTimeCodes$IssueResult" "status" "Lcom/example/expiring_state/expiringstate/OneTimeCodes$IssueResult$Status;" .null := (hp2.other W_9 (Or.inr (slot_ne (Or.inr (w93 hw)) (Or.inr (w91 hw)) (by decide) (t := (.object "com/example/expiring_state/expiringstate/OneTimeCodes$IssueResult$Status")) (by decide) (t' := .boolean) (by decide))))
  have F_15 : Fld Z h_6 d "com/example/expiring_state/expiringstate/OneTimeCodes$IssueResult" "code" "Ljava/lang/String;" .null := (hp3.other W_9 (Or.inr (slot_ne (Or.inr (w95 hw)) (Or.inr (w91 hw)) (by decide) (t := (.object "java/lang/String")) (by decide) (t' := .boolean) (by decide))))
  have F_16 : Fld Z h_6 d "com/example/expiring_state/expiringstate/OneTimeCodes$IssueResult" "expiresAt" "Ljava/time/Instant;" .null := (hp4.other W_9 (Or.inr (slot_ne (Or.inr (w97 hw)) (Or.inr (w91 hw)) (by decide) (t := (.object "java/time/Instant")) (by decide) (t' := .boolean) (by decide))))
  have F_17 : Fld Z h_6 d "com/example/expiring_state/expiringstate/OneTimeCodes$IssueResult" "retryAfter" "Ljava/time/Duration;" .null := (hp5.other W_9 (Or.inr (slot_ne (Or.inr (w99 hw)) (Or.inr (w91 hw)) (by decide) (t := (.object "java/time/Duration")) (by decide) (t' := .boolean) (by decide))))
  have K_18 : Keep h0 h_6 [d] := ((Keep.refl _ _).wr W_9 (Or.inl (List.mem_of_getElem? (i := 0) rfl)))
  obtain ⟨fs, hr, hrun, hended, hW, hsame⟩ := X_7.leave (v := none) (fun _ => rfl)
  refine ⟨_, _, C_13.trans (X_7.returnOut hx Bd.returns (hb hby d24_9) hr), hrun, hended, _, _, rfl, ?_, ⟨_, rfl⟩, hW, hsame.mono (by decide) (by decide)⟩
  show Q_ainit Z G1 sI sL sT sC sU dZ iE d h0 n0 (none) T_5.heap _
  rw [e_8]
  exact ⟨rfl, N_11, K_18, F_12, F_14, F_15, F_16, F_17⟩
abbrev M558 : MethodName := ⟨"com/example/expiring_state/expiringstate/OneTimeCodes$IssueResult", "<init>", "(Lcom/example/expiring_state/expiringstate/OneTimeCodes$IssueResult$Status;Ljava/lang/String;Ljava/time/Instant;Ljava/time/Duration;Z)V"⟩
theorem ef_559 (m : MethodId) (x0 : Addr) (x1 : Addr) (x2 : Addr) (x3 : Addr) (x4 : Addr) (x5 : Int32) : entryFrame m #[(.ref x0), (.ref x1), (.ref x2), (.ref x3), (.ref x4), (.int x5)] 6 = mkF m 0 #[.val (.ref x0), .val (.ref x1), .val (.ref x2), .val (.ref x3), .val (.ref x4), .val (.int x5)] [] := by first | (simp [entryFrame, mkF, argsToLocals, Value.category]; done) | rfl
theorem pn_560 : plainName "com/example/expiring_state/expiringstate/OneTimeCodes$IssueResult" = true := by first | (simp [plainName, overriddenIn]; done) | decide +kernel
theorem d25_0 : decode prog_52_method_1_code 0 = .ok (.aload_n 0, 1) := by decide +kernel
theorem d25_1 : decode prog_52_method_1_code 1 = .ok (.iload 5, 2) := by decide +kernel
theorem w88 {Z : State} {a0 : Array Value} (hw : ∀ d ∈ tables_1, d.before a0 Z = true) : Jvm.Cond.before (Jvm.Cond.code ({ cls := "com/example/expiring_state/expiringstate/Answer", name := "<init>", desc := "(Z)V" } : Jvm.MethodName) prog_1_method_1_code (2 : Nat) (Option.none : Option Jvm.ClassFile.FieldType)) a0 Z = true := hw _ (List.mem_of_getElem? (i := 88) rfl)
theorem w87 {Z : State} {a0 : Array Value} (hw : ∀ d ∈ tables_1, d.before a0 Z = true) : Jvm.Cond.before (Jvm.Cond.initialized "com/example/expiring_state/expiringstate/Answer") a0 Z = true := hw _ (List.mem_of_getElem? (i := 87) rfl)
theorem pd_565 : parseMethodDescriptor "(Z)V" = some ⟨[.boolean], none⟩ := by decide +kernel
theorem d25_3 : decode prog_52_method_1_code 3 = .ok (.invokespecial 1, 3) := by decide +kernel
theorem w84 {Z : State} {a0 : Array Value} (hw : ∀ d ∈ tables_1, d.before a0 Z = true) : Jvm.Cond.before (Jvm.Cond.methodLink "com/example/expiring_state/expiringstate/OneTimeCodes$IssueResult" (1 : Nat) ({ cls := "com/example/expiring_state/expiringstate/Answer", name := "<init>", desc := "(Z)V" } : Jvm.MethodName)) a0 Z = true := hw _ (List.mem_of_getElem? (i := 84) rfl)
theorem w85 {Z : State} {a0 : Array Value} (hw : ∀ d ∈ tables_1, d.before a0 Z = true) : Jvm.Cond.before (Jvm.Cond.instanceMethod ({ cls := "com/example/expiring_state/expiringstate/Answer", name := "<init>", desc := "(Z)V" } : Jvm.MethodName)) a0 Z = true := hw _ (List.mem_of_getElem? (i := 85) rfl)
theorem d25_6 : decode prog_52_method_1_code 6 = .ok (.aload_n 0, 1) := by decide +kernel
theorem d25_7 : decode prog_52_method_1_code 7 = .ok (.aload_n 1, 1) := by decide +kernel
theorem w92 {Z : State} {a0 : Array Value} (hw : ∀ d ∈ tables_1, d.before a0 Z = true) : Jvm.Cond.before (Jvm.Cond.fieldLink "com/example/expiring_state/expiringstate/OneTimeCodes$IssueResult" (7 : Nat) "com/example/expiring_state/expiringstate/OneTimeCodes$IssueResult" "status" "Lcom/example/expiring_state/expiringstate/OneTimeCodes$IssueResult$Status;") a0 Z = true := hw _ (List.mem_of_getElem? (i := 92) rfl)
theorem d25_8 : decode prog_52_method_1_code 8 = .ok (.putfield 7, 3) := by decide +kernel
theorem d25_11 : decode prog_52_method_1_code 11 = .ok (.aload_n 0, 1) := by decide +kernel
theorem d25_12 : decode prog_52_method_1_code 12 = .ok (.aload_n 2, 1) := by decide +kernel
theorem w94 {Z : State} {a0 : Array Value} (hw : ∀ d ∈ tables_1, d.before a0 Z = true) : Jvm.Cond.before (Jvm.Cond.fieldLink "com/example/expiring_state/expiringstate/OneTimeCodes$IssueResult" (13 : Nat) "com/example/expiring_state/expiringstate/OneTimeCodes$IssueResult" "code" "Ljava/lang/String;") a0 Z = true := hw _ (List.mem_of_getElem? (i := 94) rfl)
theorem d25_13 : decode prog_52_method_1_code 13 = .ok (.putfield 13, 3) := by decide +kernel
theorem d25_16 : decode prog_52_method_1_code 16 = .ok (.aload_n 0, 1) := by decide +kernel
theorem d25_17 : decode prog_52_method_1_code 17 = .ok (.aload_n 3, 1) := by decide +kernel
theorem w96 {Z : State} {a0 : Array Value} (hw : ∀ d ∈ tables_1, d.before a0 Z = true) : Jvm.Cond.before (Jvm.Cond.fieldLink "com/example/expiring_state/expiringstate/OneTimeCodes$IssueResult" (17 : Nat) "com/example/expiring_state/expiringstate/OneTimeCodes$IssueResult" "expiresAt" "Ljava/time/Instant;") a0 Z = true := hw _ (List.mem_of_getElem? (i := 96) rfl)
theorem d25_18 : decode prog_52_method_1_code 18 = .ok (.putfield 17, 3) := by decide +kernel
theorem d25_21 : decode prog_52_method_1_code 21 = .ok (.aload_n 0, 1) := by decide +kernel
theorem d25_22 : decode prog_52_method_1_code 22 = .ok (.aload 4, 2) := by decide +kernel
theorem w98 {Z : State} {a0 : Array Value} (hw : ∀ d ∈ tables_1, d.before a0 Z = true) : Jvm.Cond.before (Jvm.Cond.fieldLink "com/example/expiring_state/expiringstate/OneTimeCodes$IssueResult" (21 : Nat) "com/example/expiring_state/expiringstate/OneTimeCodes$IssueResult" "retryAfter" "Ljava/time/Duration;") a0 Z = true := hw _ (List.mem_of_getElem? (i := 98) rfl)
theorem d25_24 : decode prog_52_method_1_code 24 = .ok (.putfield 21, 3) := by decide +kernel
theorem d25_27 : decode prog_52_method_1_code 27 = .ok (.return_, 1) := by decide +kernel
abbrev R_rinitI : Room := { frames := 2, cells := 0, slots := 0, locals := 25 }
def Q_rinitI (Z : State) (G1 : Int32) (sI : Addr) (sL : Addr) (sT : Addr) (sC : Addr) (sU : Addr) (dZ : Addr) (iE : Addr) (d : Addr) (t : Addr) (w : Addr) (i : Addr) (u : Addr) (h0 : Heap) (n0 : Nat) (v : Option Value) (h : Heap) (L : List Loc) : Prop := (v = none ∧ Fr n0 L ∧ Keep h0 h [d] ∧ (Fld Z h d "com/example/expiring_state/expiringstate/Answer" "withoutStore" "Z" (.int (0 : Int32))) ∧ (Fld Z h d "com/example/expiring_state/expiringstate/OneTimeCodes$IssueResult" "status" "Lcom/example/expiring_state/expiringstate/OneTimeCodes$IssueResult$Status;" (.ref t)) ∧ (Fld Z h d "com/example/expiring_state/expiringstate/OneTimeCodes$IssueResult" "code" "Ljava/lang/String;" (.ref w)) ∧ (Fld Z h d "com/example/expiring_state/expiringstate/OneTimeCodes$IssueResult" "expiresAt" "Ljava/time/Instant;" (.ref i)) ∧ (Fld Z h d "com/example/expiring_state/expiringstate/OneTimeCodes$IssueResult" "retryAfter" "Ljava/time/Duration;" (.ref u)))
set_option maxRecDepth 65536 in
set_option maxHeartbeats 40000000 in
theorem rm_rinitI (l : Launch) (Z : State) (a0 : Array Value) (hw : ∀ d ∈ tables_1, d.before a0 Z = true) (ws : List Jvm.Cond) (G1 : Int32) (sI : Addr) (sL : Addr) (sT : Addr) (sC : Addr) (sU : Addr) (dZ : Addr) (iE : Addr) (HG : own_G l Z a0 G1 sI sL sT sC sU dZ iE) (h0 : Heap) (n0 : Nat) (X00 : Old Z n0 h0) (d : Addr) (t : Addr) (w : Addr) (i : Addr) (u : Addr) (hp0 : Exa Z h0 d "com/example/expiring_state/expiringstate/OneTimeCodes$IssueResult") (hp1 : Fld Z h0 d "com/example/expiring_state/expiringstate/Answer" "withoutStore" "Z" (.int (0 : Int32))) (hp2 : Fld Z h0 d "com/example/expiring_state/expiringstate/OneTimeCodes$IssueResult" "status" "Lcom/example/expiring_state/expiringstate/OneTimeCodes$IssueResult$Status;" .null) (hp3 : Fld Z h0 d "com/example/expiring_state/expiringstate/OneTimeCodes$IssueResult" "code" "Ljava/lang/String;" .null) (hp4 : Fld Z h0 d "com/example/expiring_state/expiringstate/OneTimeCodes$IssueResult" "expiresAt" "Ljava/time/Instant;" .null) (hp5 : Fld Z h0 d "com/example/expiring_state/expiringstate/OneTimeCodes$IssueResult" "retryAfter" "Ljava/time/Duration;" .null) (hp6 : n0 ≤ d) :
    own_CP l Z M558 prog_52_method_1_code 6 none ws R_rinitI #[(.ref d), (.ref t), (.ref w), (.ref i), (.ref u), (.int (0 : Int32))] h0 (Q_rinitI Z G1 sI sL sT sC sU dZ iE d t w i u h0 n0) := by
  refine own_P (plainFor_of_name pn_560) ?_
  intro p e s m below meth c s₁ S0 Bd hZ hh hx hby hml hown hnm X0 e0 hS0d
  obtain ⟨O1, P1, OsI, OsL, OsT, OsC, OsU, NsL, NsT, NsC, NsU, OZ, EZ, FZ1, FZ2, OE, EE, FE1, FE2⟩ := id HG
  have N0 := Fr.nil n0
  have C0 : Steps p.tables e below S0 (s₁.setTop (mkF m 0 #[.val (.ref d), .val (.ref t), .val (.ref w), .val (.ref i), .val (.ref u), .val (.int (0 : Int32))] [])) := by rw [hS0d]; exact castTop (ef_559 m d t w i u (0 : Int32)) (Steps.refl _)
  obtain ⟨_, _, ⟨T_1, L_1, k_1, n_1⟩, -, X_1, ⟨Lc_1, hQ_1, l_1, y_1, z_1⟩, st_1⟩ := X0.specialBack hx (y := M542) rfl hown (mvT hZ (w84 hw)) (mvT hZ (w85 hw)) (mvT hZ (w88 hw)) (by decide) (backOf (W := 0) (rm_ainit l Z a0 hw [] G1 sI sL sT sC sU dZ iE HG h0 n0 X00 d hp0 hp1 hp2 hp3 hp4 hp5 hp6) hZ (w88 hw) (w87 hw) (by decide) (by decide)) (g := (mkF m 3 #[.val (.ref d), .val (.ref t), .val (.ref w), .val (.ref i), .val (.ref u), .val (.int (0 : Int32))] [(.int (0 : Int32)), (.ref d)])) rfl (by rw [hml]; rfl) (Steps.refl _) (a := d) (argsL := [(.int (0 : Int32))]) (rest := []) (lenOf pd_565 rfl) rfl (by show 2 * 0 + _ ≤ _; exact Nat.le_of_eq rfl) (hb hby d25_3) (fun _ _ => ⟨rfl, e0, (by decide : 0 + 0 ≤ _), (by decide : 0 + 0 ≤ _)⟩)
  dsimp only [Pt.U, Pt.locs, Pt.cells, Pt.slots] at X_1 l_1 y_1 z_1 st_1 hQ_1
  subst l_1 y_1 z_1
  obtain ⟨rfl, N_2, K_3, g_4, g_5, g_6, g_7, g_8⟩ := hQ_1
  have N_9 := Fr.app N0 N_2
  have E_10 : Exa Z T_1.heap d "com/example/expiring_state/expiringstate/OneTimeCodes$IssueResult" := (hp0.keep K_3)
  obtain ⟨T_11, h_12, X_13, e_14, W_15, st_16⟩ := putF X_1 hx hZ hown (host := "") (Or.inl (w92 hw)) Via.refl rfl g_5 E_10 (Or.inr ⟨(w93 hw), rfl, hnm⟩) (w44 hw) (ty := (.object "com/example/expiring_state/expiringstate/OneTimeCodes$IssueResult$Status")) (by decide) rfl rfl (g := (mkF m 8 #[.val (.ref d), .val (.ref t), .val (.ref w), .val (.ref i), .val (.ref u), .val (.int (0 : Int32))] [(.ref t), (.ref d)])) rfl rfl (hb hby d25_8)
  have N_17 := Fr.snoc X_13 N_9 hp6
  have F_18 : Fld Z h_12 d "com/example/expiring_state/expiringstate/OneTimeCodes$IssueResult" "status" "Lcom/example/expiring_state/expiringstate/OneTimeCodes$IssueResult$Status;" (.ref t) := g_5.same W_15
  have F_19 : Fld Z h_12 d "com/example/expiring_state/expiringstate/OneTimeCodes$IssueResult" "code" "Ljava/lang/String;" .null := (g_6.other W_15 (Or.inr (slot_ne (Or.inr (w95 hw)) (Or.inr (w93 hw)) (by decide) (t := (.object "java/lang/String")) (by decide) (t' := (.object "com/example/expiring_state/expiringstate/OneTimeCodes$IssueResult$Status")) (by decide))))
  have E_20 : Exa Z h_12 d "com/example/expiring_state/expiringstate/OneTimeCodes$IssueResult" := (E_10.wr W_15)
  obtain ⟨T_21, h_22, X_23, e_24, W_25, st_26⟩ := putF X_13 hx hZ hown (host := "") (Or.inl (w94 hw)) Via.refl e_14 F_19 E_20 (Or.inr ⟨(w95 hw), rfl, hnm⟩) (w44 hw) (ty := (.object "java/lang/String")) (by decide) rfl rfl (g := (mkF m 13 #[.val (.ref d), .val (.ref t), .val (.ref w), .val (.ref i), .val (.ref u), .val (.int (0 : Int32))] [(.ref w), (.ref d)])) rfl rfl (hb hby d25_13)
  have N_27 := Fr.snoc X_23 N_17 hp6
  have F_28 : Fld Z h_22 d "com/example/expiring_state/expiringstate/OneTimeCodes$IssueResult" "code" "Ljava/lang/String;" (.ref w) := F_19.same W_25
  have F_29 : Fld Z h_22 d "com/example/expiring_state/expiringstate/OneTimeCodes$IssueResult" "expiresAt" "Ljava/time/Instant;" .null := ((g_7.other W_15 (Or.inr (slot_ne (Or.inr (w97 hw)) (Or.inr (w93 hw)) (by decide) (t := (.object "java/time/Instant")) (by decide) (t' := (.object "com/example/expiring_state/expiringstate/OneTimeCodes$IssueResult$Status")) (by decide)))).other W_25 (Or.inr (slot_ne (Or.inr (w97 hw)) (Or.inr (w95 hw)) (by decide) (t := (.object "java/time/Instant")) (by decide) (t' := (.object "java/lang/String")) (by decide))))
  have E_30 : Exa Z h_22 d "com/example/expiring_state/expiringstate/OneTimeCodes$IssueResult" := (E_20.wr W_25)
  obtain ⟨T_31, h_32, X_33, e_34, W_35, st_36⟩ := putF X_23 hx hZ hown (host := "") (Or.inl (w96 hw)) Via.refl e_24 F_29 E_30 (Or.inr ⟨(w97 hw), rfl, hnm⟩) (w44 hw) (ty := (.object "java/time/Instant")) (by decide) rfl rfl (g := (mkF m 18 #[.val (.ref d), .val (.ref t), .val (.ref w), .val (.ref i), .val (.ref u), .val (.int (0 : Int32))] [(.ref i), (.ref d)])) rfl rfl (hb hby d25_18)
  have N_37 := Fr.snoc X_33 N_27 hp6
  have F_38 : Fld Z h_32 d "com/example/expiring_state/expiringstate/OneTimeCodes$IssueResult" "expiresAt" "Ljava/time/Instant;" (.ref i) := F_29.same W_35
  have F_39 : Fld Z h_32 d "com/example/expiring_state/expiringstate/OneTimeCodes$IssueResult" "retryAfter" "Ljava/time/Duration;" .null := (((g_8.other W_15 (Or.inr (slot_ne (Or.inr (w99 hw)) (Or.inr (w93 hw)) (by decide) (t := (.object "java/time/Duration")) (by decide) (t' := (.object "com/example/expiring_state/expiringstate/OneTimeCodes$IssueResult$Status")) (by decide)))).other W_25 (Or.inr (slot_ne (Or.inr (w99 hw)) (Or.inr (w95 hw)) (by decide) (t := (.object "java/time/Duration")) (by decide) (t' := (.object "java/lang/String")) (by decide)))).other W_35 (Or.inr (slot_ne (Or.inr (w99 hw)) (Or.inr (w97 hw)) (by decide) (t := (.object "java/time/Duration")) (by decide) (t' := (.object "java/time/Instant")) (by decide))))
  have E_40 : Exa Z h_32 d "com/example/expiring_state/expiringstate/OneTimeCodes$IssueResult" := (E_30.wr W_35)
  obtain ⟨T_41, h_42, X_43, e_44, W_45, st_46⟩ := putF X_33 hx hZ hown (host := "") (Or.inl (w98 hw)) Via.refl e_34 F_39 E_40 (Or.inr ⟨(w99 hw), rfl, hnm⟩) (w44 hw) (ty := (.object "java/time/Duration")) (by decide) rfl rfl (g := (mkF m 24 #[.val (.ref d), .val (.ref t), .val (.ref w), .val (.ref i), .val (.ref u), .val (.int (0 : Int32))] [(.ref u), (.ref d)])) rfl rfl (hb hby d25_24)
  have N_47 := Fr.snoc X_43 N_37 hp6
  have F_48 : Fld Z h_42 d "com/example/expiring_state/expiringstate/OneTimeCodes$IssueResult" "retryAfter" "Ljava/time/Duration;" (.ref u) := F_39.same W_45
  have C_49 : Steps p.tables e below S0 (T_41.setTop (mkF m 27 #[.val (.ref d), .val (.ref t), .val (.ref w), .val (.ref i), .val (.ref u), .val (.int (0 : Int32))] [])) := by
    refine C0.trans ?_
    refine XS.aloadN X0.here hx rfl (hb hby d25_0) rfl rfl ?_
    refine XS.iload X0.here hx rfl (hb hby d25_1) rfl ?_
    refine st_1.trans ?_
    refine XS.aloadN X_1.here hx rfl (hb hby d25_6) rfl rfl ?_
    refine XS.aloadN X_1.here hx rfl (hb hby d25_7) rfl rfl ?_
    refine st_16 _ ?_
    refine XS.aloadN X_13.here hx rfl (hb hby d25_11) rfl rfl ?_
    refine XS.aloadN X_13.here hx rfl (hb hby d25_12) rfl rfl ?_
    show Steps p.tables e below (T_11.setTop (mkF m 13 #[.val (.ref d), .val (.ref t), .val (.ref w), .val (.ref i), .val (.ref u), .val (.int (0 : Int32))] [(.ref w), (.ref d)])) _
    refine st_26 _ ?_
    refine XS.aloadN X_23.here hx rfl (hb hby d25_16) rfl rfl ?_
    refine XS.aloadN X_23.here hx rfl (hb hby d25_17) rfl rfl ?_
    refine st_36 _ ?_
    refine XS.aloadN X_33.here hx rfl (hb hby d25_21) rfl rfl ?_
    refine XS.aload X_33.here hx rfl (hb hby d25_22) rfl rfl ?_
    refine st_46 _ ?_
    exact Steps.refl _
  have F_50 : Fld Z h_42 d "com/example/expiring_state/expiringstate/Answer" "withoutStore" "Z" (.int (0 : Int32)) := ((((g_4.other W_15 (Or.inr (slot_ne (Or.inr (w91 hw)) (Or.inr (w93 hw)) (by decide) (t := .boolean) (by decide) (t' := (.object "com/example/expiring_state/expiringstate/OneTimeCodes$IssueResult$Status")) (by decide)))).other W_25 (Or.inr (slot_ne (Or.inr (w91 hw)) (Or.inr (w95 hw)) (by decide) (t := .boolean) (by decide) (t' := (.object "java/lang/String")) (by decide)))).other W_35 (Or.inr (slot_ne (Or.inr (w91 hw)) (Or.inr (w97 hw)) (by decide) (t := .boolean) (by decide) (t' := (.object "java/time/Instant")) (by decide)))).other W_45 (Or.inr (slot_ne (Or.inr (w91 hw)) (Or.inr (w99 hw)) (by decide) (t := .boolean) (by decide) (t' := (.object "java/time/Duration")) (by decide))))
  have F_51 : Fld Z h_42 d "com/example/expiring_state/expiringstate/OneTimeCodes$IssueResult" "status" "Lcom/example/expiring_state/expiringstate/OneTimeCodes$IssueResult$Status;" (.ref t) := (((F_18.other W_25 (Or.inr (slot_ne (Or.inr (w93 hw)) (Or.inr (w95 hw)) (by decide) (t := (.object "com/example/expiring_state/expiringstate/OneTimeCodes$IssueResult$Status")) (by decide) (t' := (.object "java/lang/String")) (by decide)))).other W_35 (Or.inr (slot_ne (Or.inr (w93 hw)) (Or.inr (w97 hw)) (by decide) (t := (.object "com/example/expiring_state/expiringstate/OneTimeCodes$IssueResult$Status")) (by decide) (t' := (.object "java/time/Instant")) (by decide)))).other W_45 (Or.inr (slot_ne (Or.inr (w93 hw)) (Or.inr (w99 hw)) (by decide) (t := (.object "com/example/expiring_state/expiringstate/OneTimeCodes$IssueResult$Status")) (by decide) (t' := (.object "java/time/Duration")) (by decide))))
  have F_52 : Fld Z h_42 d "com/example/expiring_state/expiringstate/OneTimeCodes$IssueResult" "code" "Ljava/lang/String;" (.ref w) := ((F_28.other W_35 (Or.inr (slot_ne (Or.inr (w95 hw)) (Or.inr (w97 hw)) (by decide) (t := (.object "java/lang/String")) (by decide) (t' := (.object "java/time/Instant")) (by decide)))).other W_45 (Or.inr (slot_ne (Or.inr (w95 hw)) (Or.inr (w99 hw)) (by decide) (t := (.object "java/lang/String")) (by decide) (t' := (.object "java/time/Duration")) (by decide))))
  have F_53 : Fld Z h_42 d "com/example/expiring_state/expiringstate/OneTimeCodes$IssueResult" "expiresAt" "Ljava/time/Instant;" (.ref i) := (F_38.other W_45 (Or.inr (slot_ne (Or.inr (w97 hw)) (Or.inr (w99 hw)) (by decide) (t := (.object "java/time/Instant")) (by decide) (t' := (.object "java/time/Duration")) (by decide))))
  have K_54 : Keep h0 h_42 [d] := ((((((Keep.refl _ _).trans K_3 (allS (Or.inl (List.mem_of_getElem? (i := 0) rfl)) all0)).wr W_15 (Or.inl (List.mem_of_getElem? (i := 0) rfl))).wr W_25 (Or.inl (List.mem_of_getElem? (i := 0) rfl))).wr W_35 (Or.inl (List.mem_of_getElem? (i := 0) rfl))).wr W_45 (Or.inl (List.mem_of_getElem? (i := 0) rfl)))
  obtain ⟨fs, hr, hrun, hended, hW, hsame⟩ := X_43.leave (v := none) (fun _ => rfl)
  refine ⟨_, _, C_49.trans (X_43.returnOut hx Bd.returns (hb hby d25_27) hr), hrun, hended, _, _, rfl, ?_, ⟨_, rfl⟩, hW, hsame.mono (by decide) (by decide)⟩
  show Q_rinitI Z G1 sI sL sT sC sU dZ iE d t w i u h0 n0 (none) T_41.heap _
  rw [e_44]
  exact ⟨rfl, N_47, K_54, F_50, F_51, F_52, F_53, F_48⟩
theorem ef_586 (m : MethodId) (x0 : Addr) (x1 : Addr) (x4 : Addr) (x5 : Int32) : entryFrame m #[(.ref x0), (.ref x1), .null, .null, (.ref x4), (.int x5)] 6 = mkF m 0 #[.val (.ref x0), .val (.ref x1), .val .null, .val .null, .val (.ref x4), .val (.int x5)] [] := by first | (simp [entryFrame, mkF, argsToLocals, Value.category]; done) | rfl
abbrev R_rinitN : Room := { frames := 2, cells := 0, slots := 0, locals := 25 }
def Q_rinitN (Z : State) (G1 : Int32) (sI : Addr) (sL : Addr) (sT : Addr) (sC : Addr) (sU : Addr) (dZ : Addr) (iE : Addr) (d : Addr) (t : Addr) (u : Addr) (h0 : Heap) (n0 : Nat) (v : Option Value) (h : Heap) (L : List Loc) : Prop := (v = none ∧ Fr n0 L ∧ Keep h0 h [d] ∧ (Fld Z h d "com/example/expiring_state/expiringstate/Answer" "withoutStore" "Z" (.int (0 : Int32))) ∧ (Fld Z h d "com/example/expiring_state/expiringstate/OneTimeCodes$IssueResult" "status" "Lcom/example/expiring_state/expiringstate/OneTimeCodes$IssueResult$Status;" (.ref t)) ∧ (Fld Z h d "com/example/expiring_state/expiringstate/OneTimeCodes$IssueResult" "code" "Ljava/lang/String;" .null) ∧ (Fld Z h d "com/example/expiring_state/expiringstate/OneTimeCodes$IssueResult" "expiresAt" "Ljava/time/Instant;" .null) ∧ (Fld Z h d "com/example/expiring_state/expiringstate/OneTimeCodes$IssueResult" "retryAfter" "Ljava/time/Duration;" (.ref u)))
set_option maxRecDepth 65536 in
set_option maxHeartbeats 40000000 in
theorem rm_rinitN (l : Launch) (Z : State) (a0 : Array Value) (hw : ∀ d ∈ tables_1, d.before a0 Z = true) (ws : List Jvm.Cond) (G1 : Int32) (sI : Addr) (sL : Addr) (sT : Addr) (sC : Addr) (sU : Addr) (dZ : Addr) (iE : Addr) (HG : own_G l Z a0 G1 sI sL sT sC sU dZ iE) (h0 : Heap) (n0 : Nat) (X00 : Old Z n0 h0) (d : Addr) (t : Addr) (u : Addr) (hp0 : Exa Z h0 d "com/example/expiring_state/expiringstate/OneTimeCodes$IssueResult") (hp1 : Fld Z h0 d "com/example/expiring_state/expiringstate/Answer" "withoutStore" "Z" (.int (0 : Int32))) (hp2 : Fld Z h0 d "com/example/expiring_state/expiringstate/OneTimeCodes$IssueResult" "status" "Lcom/example/expiring_state/expiringstate/OneTimeCodes$IssueResult$Status;" .null) (hp3 : Fld Z h0 d "com/example/expiring_state/expiringstate/OneTimeCodes$IssueResult" "code" "Ljava/lang/String;" .null) (hp4 : Fld Z h0 d "com/example/expiring_state/expiringstate/OneTimeCodes$IssueResult" "expiresAt" "Ljava/time/Instant;" .null) (hp5 : Fld Z h0 d "com/example/expiring_state/expiringstate/OneTimeCodes$IssueResult" "retryAfter" "Ljava/time/Duration;" .null) (hp6 : n0 ≤ d) :
    own_CP l Z M558 prog_52_method_1_code 6 none ws R_rinitN #[(.ref d), (.ref t), .null, .null, (.ref u), (.int (0 : Int32))] h0 (Q_rinitN Z G1 sI sL sT sC sU dZ iE d t u h0 n0) := by
  refine own_P (plainFor_of_name pn_560) ?_
  intro p e s m below meth c s₁ S0 Bd hZ hh hx hby hml hown hnm X0 e0 hS0d
  obtain ⟨O1, P1, OsI, OsL, OsT, OsC, OsU, NsL, NsT, NsC, NsU, OZ, EZ, FZ1, FZ2, OE, EE, FE1, FE2⟩ := id HG
  have N0 := Fr.nil n0
  have C0 : Steps p.tables e below S0 (s₁.setTop (mkF m 0 #[.val (.ref d), .val (.ref t), .val .null, .val .null, .val (.ref u), .val (.int (0 : Int32))] [])) := by rw [hS0d]; exact castTop (ef_586 m d t u (0 : Int32)) (Steps.refl _)
  obtain ⟨_, _, ⟨T_1, L_1, k_1, n_1⟩, -, X_1, ⟨Lc_1, hQ_1, l_1, y_1, z_1⟩, st_1⟩ := X0.specialBack hx (y := M542) rfl hown (mvT hZ (w84 hw)) (mvT hZ (w85 hw)) (mvT hZ (w88 hw)) (by decide) (backOf (W := 0) (rm_ainit l Z a0 hw [] G1 sI sL sT sC sU dZ iE HG h0 n0 X00 d hp0 hp1 hp2 hp3 hp4 hp5 hp6) hZ (w88 hw) (w87 hw) (by decide) (by decide)) (g := (mkF m 3 #[.val (.ref d), .val (.ref t), .val .null, .val .null, .val (.ref u), .val (.int (0 : Int32))] [(.int (0 : Int32)), (.ref d)])) rfl (by rw [hml]; rfl) (Steps.refl _) (a := d) (argsL := [(.int (0 : Int32))]) (rest := []) (lenOf pd_565 rfl) rfl (by show 2 * 0 + _ ≤ _; exact Nat.le_of_eq rfl) (hb hby d25_3) (fun _ _ => ⟨rfl, e0, (by decide : 0 + 0 ≤ _), (by decide : 0 + 0 ≤ _)⟩)
  dsimp only [Pt.U, Pt.locs, Pt.cells, Pt.slots] at X_1 l_1 y_1 z_1 st_1 hQ_1
  subst l_1 y_1 z_1
  obtain ⟨rfl, N_2, K_3, g_4, g_5, g_6, g_7, g_8⟩ := hQ_1
  have N_9 := Fr.app N0 N_2
  have E_10 : Exa Z T_1.heap d "com/example/expiring_state/expiringstate/OneTimeCodes$IssueResult" := (hp0.keep K_3)
  obtain ⟨T_11, h_12, X_13, e_14, W_15, st_16⟩ := putF X_1 hx hZ hown (host := "") (Or.inl (w92 hw)) Via.refl rfl g_5 E_10 (Or.inr ⟨(w93 hw), rfl, hnm⟩) (w44 hw) (ty := (.object "com/example/expiring_state/expiringstate/OneTimeCodes$IssueResult$Status")) (by decide) rfl rfl (g := (mkF m 8 #[.val (.ref d), .val (.ref t), .val .null, .val .null, .val (.ref u), .val (.int (0 : Int32))] [(.ref t), (.ref d)])) rfl rfl (hb hby d25_8)
  have N_17 := Fr.snoc X_13 N_9 hp6
  have F_18 : Fld Z h_12 d "com/example/expiring_state/expiringstate/OneTimeCodes$IssueResult" "status" "Lcom/example/expiring_state/expiringstate/OneTimeCodes$IssueResult$Status;" (.ref t) := g_5.same W_15
  have F_19 : Fld Z h_12 d "com/example/expiring_state/expiringstate/OneTimeCodes$IssueResult" "code" "Ljava/lang/String;" .null := (g_6.other W_15 (Or.inr (slot_ne (Or.inr (w95 hw)) (Or.inr (w93 hw)) (by decide) (t := (.object "java/lang/String")) (by decide) (t' := (.object "com/example/expiring_state/expiringstate/OneTimeCodes$IssueResult$Status")) (by decide))))
  have E_20 : Exa Z h_12 d "com/example/expiring_state/expiringstate/OneTimeCodes$IssueResult" := (E_10.wr W_15)
  obtain ⟨T_21, h_22, X_23, e_24, W_25, st_26⟩ := putF X_13 hx hZ hown (host := "") (Or.inl (w94 hw)) Via.refl e_14 F_19 E_20 (Or.inr ⟨(w95 hw), rfl, hnm⟩) (w44 hw) (ty := (.object "java/lang/String")) (by decide) rfl rfl (g := (mkF m 13 #[.val (.ref d), .val (.ref t), .val .null, .val .null, .val (.ref u), .val (.int (0 : Int32))] [.null, (.ref d)])) rfl rfl (hb hby d25_13)
  have N_27 := Fr.snoc X_23 N_17 hp6
  have F_28 : Fld Z h_22 d "com/example/expiring_state/expiringstate/OneTimeCodes$IssueResult" "code" "Ljava/lang/String;" .null := F_19.same W_25
  have F_29 : Fld Z h_22 d "com/example/expiring_state/expiringstate/OneTimeCodes$IssueResult" "expiresAt" "Ljava/time/Instant;" .null := ((g_7.other W_15 (Or.inr (slot_ne (Or.inr (w97 hw)) (Or.inr (w93 hw)) (by decide) (t := (.object "java/time/Instant")) (by decide) (t' := (.object "com/example/expiring_state/expiringstate/OneTimeCodes$IssueResult$Status")) (by decide)))).other W_25 (Or.inr (slot_ne (Or.inr (w97 hw)) (Or.inr (w95 hw)) (by decide) (t := (.object "java/time/Instant")) (by decide) (t' := (.object "java/lang/String")) (by decide))))
  have E_30 : Exa Z h_22 d "com/example/expiring_state/expiringstate/OneTimeCodes$IssueResult" := (E_20.wr W_25)
  obtain ⟨T_31, h_32, X_33, e_34, W_35, st_36⟩ := putF X_23 hx hZ hown (host := "") (Or.inl (w96 hw)) Via.refl e_24 F_29 E_30 (Or.inr ⟨(w97 hw), rfl, hnm⟩) (w44 hw) (ty := (.object "java/time/Instant")) (by decide) rfl rfl (g := (mkF m 18 #[.val (.ref d), .val (.ref t), .val .null, .val .null, .val (.ref u), .val (.int (0 : Int32))] [.null, (.ref d)])) rfl rfl (hb hby d25_18)
  have N_37 := Fr.snoc X_33 N_27 hp6
  have F_38 : Fld Z h_32 d "com/example/expiring_state/expiringstate/OneTimeCodes$IssueResult" "expiresAt" "Ljava/time/Instant;" .null := F_29.same W_35
  have F_39 : Fld Z h_32 d "com/example/expiring_state/expiringstate/OneTimeCodes$IssueResult" "retryAfter" "Ljava/time/Duration;" .null := (((g_8.other W_15 (Or.inr (slot_ne (Or.inr (w99 hw)) (Or.inr (w93 hw)) (by decide) (t := (.object "java/time/Duration")) (by decide) (t' := (.object "com/example/expiring_state/expiringstate/OneTimeCodes$IssueResult$Status")) (by decide)))).other W_25 (Or.inr (slot_ne (Or.inr (w99 hw)) (Or.inr (w95 hw)) (by decide) (t := (.object "java/time/Duration")) (by decide) (t' := (.object "java/lang/String")) (by decide)))).other W_35 (Or.inr (slot_ne (Or.inr (w99 hw)) (Or.inr (w97 hw)) (by decide) (t := (.object "java/time/Duration")) (by decide) (t' := (.object "java/time/Instant")) (by decide))))
  have E_40 : Exa Z h_32 d "com/example/expiring_state/expiringstate/OneTimeCodes$IssueResult" := (E_30.wr W_35)
  obtain ⟨T_41, h_42, X_43, e_44, W_45, st_46⟩ := putF X_33 hx hZ hown (host := "") (Or.inl (w98 hw)) Via.refl e_34 F_39 E_40 (Or.inr ⟨(w99 hw), rfl, hnm⟩) (w44 hw) (ty := (.object "java/time/Duration")) (by decide) rfl rfl (g := (mkF m 24 #[.val (.ref d), .val (.ref t), .val .null, .val .null, .val (.ref u), .val (.int (0 : Int32))] [(.ref u), (.ref d)])) rfl rfl (hb hby d25_24)
  have N_47 := Fr.snoc X_43 N_37 hp6
  have F_48 : Fld Z h_42 d "com/example/expiring_state/expiringstate/OneTimeCodes$IssueResult" "retryAfter" "Ljava/time/Duration;" (.ref u) := F_39.same W_45
  have C_49 : Steps p.tables e below S0 (T_41.setTop (mkF m 27 #[.val (.ref d), .val (.ref t), .val .null, .val .null, .val (.ref u), .val (.int (0 : Int32))] [])) := by
    refine C0.trans ?_
    refine XS.aloadN X0.here hx rfl (hb hby d25_0) rfl rfl ?_
    refine XS.iload X0.here hx rfl (hb hby d25_1) rfl ?_
    refine st_1.trans ?_
    refine XS.aloadN X_1.here hx rfl (hb hby d25_6) rfl rfl ?_
    refine XS.aloadN X_1.here hx rfl (hb hby d25_7) rfl rfl ?_
    refine st_16 _ ?_
    refine XS.aloadN X_13.here hx rfl (hb hby d25_11) rfl rfl ?_
    refine XS.aloadN X_13.here hx rfl (hb hby d25_12) rfl rfl ?_
    show Steps p.tables e below (T_11.setTop (mkF m 13 #[.val (.ref d), .val (.ref t), .val .null, .val .null, .val (.ref u), .val (.int (0 : Int32))] [.null, (.ref d)])) _
    refine st_26 _ ?_
    refine XS.aloadN X_23.here hx rfl (hb hby d25_16) rfl rfl ?_
    refine XS.aloadN X_23.here hx rfl (hb hby d25_17) rfl rfl ?_
    refine st_36 _ ?_
    refine XS.aloadN X_33.here hx rfl (hb hby d25_21) rfl rfl ?_
    refine XS.aload X_33.here hx rfl (hb hby d25_22) rfl rfl ?_
    refine st_46 _ ?_
    exact Steps.refl _
  have F_50 : Fld Z h_42 d "com/example/expiring_state/expiringstate/Answer" "withoutStore" "Z" (.int (0 : Int32)) := ((((g_4.other W_15 (Or.inr (slot_ne (Or.inr (w91 hw)) (Or.inr (w93 hw)) (by decide) (t := .boolean) (by decide) (t' := (.object "com/example/expiring_state/expiringstate/OneTimeCodes$IssueResult$Status")) (by decide)))).other W_25 (Or.inr (slot_ne (Or.inr (w91 hw)) (Or.inr (w95 hw)) (by decide) (t := .boolean) (by decide) (t' := (.object "java/lang/String")) (by decide)))).other W_35 (Or.inr (slot_ne (Or.inr (w91 hw)) (Or.inr (w97 hw)) (by decide) (t := .boolean) (by decide) (t' := (.object "java/time/Instant")) (by decide)))).other W_45 (Or.inr (slot_ne (Or.inr (w91 hw)) (Or.inr (w99 hw)) (by decide) (t := .boolean) (by decide) (t' := (.object "java/time/Duration")) (by decide))))
  have F_51 : Fld Z h_42 d "com/example/expiring_state/expiringstate/OneTimeCodes$IssueResult" "status" "Lcom/example/expiring_state/expiringstate/OneTimeCodes$IssueResult$Status;" (.ref t) := (((F_18.other W_25 (Or.inr (slot_ne (Or.inr (w93 hw)) (Or.inr (w95 hw)) (by decide) (t := (.object "com/example/expiring_state/expiringstate/OneTimeCodes$IssueResult$Status")) (by decide) (t' := (.object "java/lang/String")) (by decide)))).other W_35 (Or.inr (slot_ne (Or.inr (w93 hw)) (Or.inr (w97 hw)) (by decide) (t := (.object "com/example/expiring_state/expiringstate/OneTimeCodes$IssueResult$Status")) (by decide) (t' := (.object "java/time/Instant")) (by decide)))).other W_45 (Or.inr (slot_ne (Or.inr (w93 hw)) (Or.inr (w99 hw)) (by decide) (t := (.object "com/example/expiring_state/expiringstate/OneTimeCodes$IssueResult$Status")) (by decide) (t' := (.object "java/time/Duration")) (by decide))))
  have F_52 : Fld Z h_42 d "com/example/expiring_state/expiringstate/OneTimeCodes$IssueResult" "code" "Ljava/lang/String;" .null := ((F_28.other W_35 (Or.inr (slot_ne (Or.inr (w95 hw)) (Or.inr (w97 hw)) (by decide) (t := (.object "java/lang/String")) (by decide) (t' := (.object "java/time/Instant")) (by decide)))).other W_45 (Or.inr (slot_ne (Or.inr (w95 hw)) (Or.inr (w99 hw)) (by decide) (t := (.object "java/lang/String")) (by decide) (t' := (.object "java/time/Duration")) (by decide))))
  have F_53 : Fld Z h_42 d "com/example/expiring_state/expiringstate/OneTimeCodes$IssueResult" "expiresAt" "Ljava/time/Instant;" .null := (F_38.other W_45 (Or.inr (slot_ne (Or.inr (w97 hw)) (Or.inr (w99 hw)) (by decide) (t := (.object "java/time/Instant")) (by decide) (t' := (.object "java/time/Duration")) (by decide))))
  have K_54 : Keep h0 h_42 [d] := ((((((Keep.refl _ _).trans K_3 (allS (Or.inl (List.mem_of_getElem? (i := 0) rfl)) all0)).wr W_15 (Or.inl (List.mem_of_getElem? (i := 0) rfl))).wr W_25 (Or.inl (List.mem_of_getElem? (i := 0) rfl))).wr W_35 (Or.inl (List.mem_of_getElem? (i := 0) rfl))).wr W_45 (Or.inl (List.mem_of_getElem? (i := 0) rfl)))
  obtain ⟨fs, hr, hrun, hended, hW, hsame⟩ := X_43.leave (v := none) (fun _ => rfl)
  refine ⟨_, _, C_49.trans (X_43.returnOut hx Bd.returns (hb hby d25_27) hr), hrun, hended, _, _, rfl, ?_, ⟨_, rfl⟩, hW, hsame.mono (by decide) (by decide)⟩
  show Q_rinitN Z G1 sI sL sT sC sU dZ iE d t u h0 n0 (none) T_41.heap _
  rw [e_44]
  exact ⟨rfl, N_47, K_54, F_50, F_51, F_52, F_53, F_48⟩
abbrev M587 : MethodName := ⟨"com/example/expiring_state/expiringstate/OneTimeCodes$IssueResult", "of", "(Lcom/example/expiring_state/expiringstate/OneTimeCodes$IssueResult$Status;JLjava/lang/String;)Lcom/example/expiring_state/expiringstate/OneTimeCodes$IssueResult;"⟩
theorem ef_588 (m : MethodId) (x0 : Addr) (x1 : Int64) (x2 : Addr) : entryFrame m #[(.ref x0), (.long x1), (.ref x2)] 5 = mkF m 0 #[.val (.ref x0), .val (.long x1), .second, .val (.ref x2), .unset] [] := by first | (simp [entryFrame, mkF, argsToLocals, Value.category]; done) | rfl
theorem d26_0 : decode prog_52_method_2_code 0 = .ok (.aload_n 0, 1) := by decide +kernel
theorem w42 {Z : State} {a0 : Array Value} (hw : ∀ d ∈ tables_1, d.before a0 Z = true) : Jvm.Cond.before (Jvm.Cond.fieldLink "com/example/expiring_state/expiringstate/OneTimeCodes$IssueResult" (25 : Nat) "com/example/expiring_state/expiringstate/OneTimeCodes$IssueResult$Status" "ISSUED" "Lcom/example/expiring_state/expiringstate/OneTimeCodes$IssueResult$Status;") a0 Z = true := hw _ (List.mem_of_getElem? (i := 42) rfl)
theorem d26_1 : decode prog_52_method_2_code 1 = .ok (.getstatic 25, 3) := by decide +kernel
theorem d26_4 : decode prog_52_method_2_code 4 = .ok (.if_acmp .ne 25, 3) := by decide +kernel
theorem w43 {Z : State} {a0 : Array Value} (hw : ∀ d ∈ tables_1, d.before a0 Z = true) : Jvm.Cond.before (Jvm.Cond.classLink "com/example/expiring_state/expiringstate/OneTimeCodes$IssueResult" (8 : Nat) "com/example/expiring_state/expiringstate/OneTimeCodes$IssueResult") a0 Z = true := hw _ (List.mem_of_getElem? (i := 43) rfl)
theorem w40 {Z : State} {a0 : Array Value} (hw : ∀ d ∈ tables_1, d.before a0 Z = true) : Jvm.Cond.before (Jvm.Cond.initialized "com/example/expiring_state/expiringstate/OneTimeCodes$IssueResult") a0 Z = true := hw _ (List.mem_of_getElem? (i := 40) rfl)
theorem d26_7 : decode prog_52_method_2_code 7 = .ok (.new 8, 3) := by decide +kernel
theorem d26_10 : decode prog_52_method_2_code 10 = .ok (.dup, 1) := by decide +kernel
theorem d26_11 : decode prog_52_method_2_code 11 = .ok (.aload_n 0, 1) := by decide +kernel
theorem d26_12 : decode prog_52_method_2_code 12 = .ok (.aload_n 3, 1) := by decide +kernel
theorem d26_13 : decode prog_52_method_2_code 13 = .ok (.lload_n 1, 1) := by decide +kernel
theorem w48 {Z : State} {a0 : Array Value} (hw : ∀ d ∈ tables_1, d.before a0 Z = true) : Jvm.Cond.before (Jvm.Cond.code ({ cls := "java/time/Instant", name := "ofEpochMilli", desc := "(J)Ljava/time/Instant;" } : Jvm.MethodName) jdk_2320_method_5_code (5 : Nat) (Option.some (Jvm.ClassFile.FieldType.object "java/time/Instant"))) a0 Z = true := hw _ (List.mem_of_getElem? (i := 48) rfl)
theorem pd_601 : parseMethodDescriptor "(J)Ljava/time/Instant;" = some ⟨[.long], some (.object "java/time/Instant")⟩ := by decide +kernel
theorem d26_14 : decode prog_52_method_2_code 14 = .ok (.invokestatic 30, 3) := by decide +kernel
theorem w45 {Z : State} {a0 : Array Value} (hw : ∀ d ∈ tables_1, d.before a0 Z = true) : Jvm.Cond.before (Jvm.Cond.methodLink "com/example/expiring_state/expiringstate/OneTimeCodes$IssueResult" (30 : Nat) ({ cls := "java/time/Instant", name := "ofEpochMilli", desc := "(J)Ljava/time/Instant;" } : Jvm.MethodName)) a0 Z = true := hw _ (List.mem_of_getElem? (i := 45) rfl)
theorem w46 {Z : State} {a0 : Array Value} (hw : ∀ d ∈ tables_1, d.before a0 Z = true) : Jvm.Cond.before (Jvm.Cond.static ({ cls := "java/time/Instant", name := "ofEpochMilli", desc := "(J)Ljava/time/Instant;" } : Jvm.MethodName)) a0 Z = true := hw _ (List.mem_of_getElem? (i := 46) rfl)
theorem w79 {Z : State} {a0 : Array Value} (hw : ∀ d ∈ tables_1, d.before a0 Z = true) : Jvm.Cond.before (Jvm.Cond.fieldLink "com/example/expiring_state/expiringstate/OneTimeCodes$IssueResult" (36 : Nat) "java/time/Duration" "ZERO" "Ljava/time/Duration;") a0 Z = true := hw _ (List.mem_of_getElem? (i := 79) rfl)
theorem d26_17 : decode prog_52_method_2_code 17 = .ok (.getstatic 36, 3) := by decide +kernel
theorem d26_20 : decode prog_52_method_2_code 20 = .ok (.iconst 0, 1) := by decide +kernel
theorem w83 {Z : State} {a0 : Array Value} (hw : ∀ d ∈ tables_1, d.before a0 Z = true) : Jvm.Cond.before (Jvm.Cond.code ({ cls := "com/example/expiring_state/expiringstate/OneTimeCodes$IssueResult", name := "<init>", desc := "(Lcom/example/expiring_state/expiringstate/OneTimeCodes$IssueResult$Status;Ljava/lang/String;Ljava/time/Instant;Ljava/time/Duration;Z)V" } : Jvm.MethodName) prog_52_method_1_code (6 : Nat) (Option.none : Option Jvm.ClassFile.FieldType)) a0 Z = true := hw _ (List.mem_of_getElem? (i := 83) rfl)
theorem pd_609 : parseMethodDescriptor "(Lcom/example/expiring_state/expiringstate/OneTimeCodes$IssueResult$Status;Ljava/lang/String;Ljava/time/Instant;Ljava/time/Duration;Z)V" = some ⟨[(.object "com/example/expiring_state/expiringstate/OneTimeCodes$IssueResult$Status"), (.object "java/lang/String"), (.object "java/time/Instant"), (.object "java/time/Duration"), .boolean], none⟩ := by decide +kernel
theorem d26_21 : decode prog_52_method_2_code 21 = .ok (.invokespecial 41, 3) := by decide +kernel
theorem w81 {Z : State} {a0 : Array Value} (hw : ∀ d ∈ tables_1, d.before a0 Z = true) : Jvm.Cond.before (Jvm.Cond.methodLink "com/example/expiring_state/expiringstate/OneTimeCodes$IssueResult" (41 : Nat) ({ cls := "com/example/expiring_state/expiringstate/OneTimeCodes$IssueResult", name := "<init>", desc := "(Lcom/example/expiring_state/expiringstate/OneTimeCodes$IssueResult$Status;Ljava/lang/String;Ljava/time/Instant;Ljava/time/Duration;Z)V" } : Jvm.MethodName)) a0 Z = true := hw _ (List.mem_of_getElem? (i := 81) rfl)
theorem w82 {Z : State} {a0 : Array Value} (hw : ∀ d ∈ tables_1, d.before a0 Z = true) : Jvm.Cond.before (Jvm.Cond.instanceMethod ({ cls := "com/example/expiring_state/expiringstate/OneTimeCodes$IssueResult", name := "<init>", desc := "(Lcom/example/expiring_state/expiringstate/OneTimeCodes$IssueResult$Status;Ljava/lang/String;Ljava/time/Instant;Ljava/time/Duration;Z)V" } : Jvm.MethodName)) a0 Z = true := hw _ (List.mem_of_getElem? (i := 82) rfl)
theorem d26_24 : decode prog_52_method_2_code 24 = .ok (.astore 4, 2) := by decide +kernel
theorem d26_26 : decode prog_52_method_2_code 26 = .ok (.goto 20, 3) := by decide +kernel
theorem d26_46 : decode prog_52_method_2_code 46 = .ok (.aload 4, 2) := by decide +kernel
theorem d26_48 : decode prog_52_method_2_code 48 = .ok (.areturn, 1) := by decide +kernel
abbrev R_ofI : Room := { frames := 4, cells := 2, slots := 7, locals := 62 }
def Q_ofI (Z : State) (G1 : Int32) (sI : Addr) (sL : Addr) (sT : Addr) (sC : Addr) (sU : Addr) (dZ : Addr) (iE : Addr) (x : Int64) (w : Addr) (h0 : Heap) (n0 : Nat) (v : Option Value) (h : Heap) (L : List Loc) : Prop := (∃ d : Addr, ∃ i : Addr, ∃ ss : Int64, ∃ n : Int32, v = some (.ref d) ∧ Fr n0 L ∧ Keep h0 h [] ∧ (h0.size ≤ d) ∧ (Exa Z h d "com/example/expiring_state/expiringstate/OneTimeCodes$IssueResult") ∧ (Fld Z h d "com/example/expiring_state/expiringstate/Answer" "withoutStore" "Z" (.int (0 : Int32))) ∧ (Fld Z h d "com/example/expiring_state/expiringstate/OneTimeCodes$IssueResult" "status" "Lcom/example/expiring_state/expiringstate/OneTimeCodes$IssueResult$Status;" (.ref sI)) ∧ (Fld Z h d "com/example/expiring_state/expiringstate/OneTimeCodes$IssueResult" "code" "Ljava/lang/String;" (.ref w)) ∧ (Fld Z h d "com/example/expiring_state/expiringstate/OneTimeCodes$IssueResult" "expiresAt" "Ljava/time/Instant;" (.ref i)) ∧ (Fld Z h d "com/example/expiring_state/expiringstate/OneTimeCodes$IssueResult" "retryAfter" "Ljava/time/Duration;" (.ref dZ)) ∧ (Exa Z h i "java/time/Instant") ∧ (Fld Z h i "java/time/Instant" "seconds" "J" (.long ss)) ∧ (Fld Z h i "java/time/Instant" "nanos" "I" (.int n)) ∧ (ss.toInt = x.toInt / 1000) ∧ (n.toInt = x.toInt % 1000 * 1000000))
set_option maxRecDepth 65536 in
set_option maxHeartbeats 40000000 in
theorem rm_ofI (l : Launch) (Z : State) (a0 : Array Value) (hw : ∀ d ∈ tables_1, d.before a0 Z = true) (ws : List Jvm.Cond) (G1 : Int32) (sI : Addr) (sL : Addr) (sT : Addr) (sC : Addr) (sU : Addr) (dZ : Addr) (iE : Addr) (HG : own_G l Z a0 G1 sI sL sT sC sU dZ iE) (h0 : Heap) (n0 : Nat) (X00 : Old Z n0 h0) (x : Int64) (w : Addr)  :
    own_CP l Z M587 prog_52_method_2_code 5 (some (.object "com/example/expiring_state/expiringstate/OneTimeCodes$IssueResult")) ws R_ofI #[(.ref sI), (.long x), (.ref w)] h0 (Q_ofI Z G1 sI sL sT sC sU dZ iE x w h0 n0) := by
  refine own_P (plainFor_of_name pn_560) ?_
  intro p e s m below meth c s₁ S0 Bd hZ hh hx hby hml hown hnm X0 e0 hS0d
  obtain ⟨O1, P1, OsI, OsL, OsT, OsC, OsU, NsL, NsT, NsC, NsU, OZ, EZ, FZ1, FZ2, OE, EE, FE1, FE2⟩ := id HG
  have N0 := Fr.nil n0
  have C0 : Steps p.tables e below S0 (s₁.setTop (mkF m 0 #[.val (.ref sI), .val (.long x), .second, .val (.ref w), .unset] [])) := by rw [hS0d]; exact castTop (ef_588 m sI x w) (Steps.refl _)
  obtain ⟨T_1, X_2, e_3, st_4⟩ := getS X0 hx hZ (host := "") hown (w42 hw) Via.refl e0 (OsI.ext X00.2) (g := (mkF m 1 #[.val (.ref sI), .val (.long x), .second, .val (.ref w), .unset] [(.ref sI)])) rfl (hb hby d26_1)
  obtain ⟨T_5, h_6, X_7, e_8, E_9, A_10, D_11, U_15, st_12⟩ := newO X_2 hx hZ hown (w43 hw) (w44 hw) (w40 hw) e_3 (g := (mkF m 7 #[.val (.ref sI), .val (.long x), .second, .val (.ref w), .unset] [])) rfl (hb hby d26_7) (by decide) (by decide)
  obtain ⟨a_13, g_14⟩ : ∃ z, z = h0.size := ⟨_, rfl⟩
  rw [← g_14] at A_10 D_11 st_12 U_15
  have O_16 : Old Z n0 h_6 := (X00.ext E_9)
  obtain ⟨_, _, ⟨T_17, L_17, k_17, n_17⟩, -, X_17, ⟨Lc_17, hQ_17, l_17, y_17, z_17⟩, st_17⟩ := Jvm.LawKit.callS X_7 hx (y := M346) hown (mvT hZ (w45 hw)) (mvT hZ (w46 hw)) (mvT hZ (w47 hw)) (mvT hZ (w48 hw)) (by decide) (backOf (W := 4) (rm_inof l Z a0 hw [] G1 sI sL sT sC sU dZ iE HG h_6 n0 O_16 x ) hZ (w48 hw) (w47 hw) (by decide) (by decide)) (g := (mkF m 14 #[.val (.ref sI), .val (.long x), .second, .val (.ref w), .unset] [(.long x), (.ref w), (.ref sI), (.ref a_13), (.ref a_13)])) rfl (by rw [hml]; rfl) (argsL := [(.long x)]) (rest := [(.ref w), (.ref sI), (.ref a_13), (.ref a_13)]) (lenOf pd_601 rfl) rfl (by show 2 * 0 + _ ≤ _; exact Nat.le_of_eq rfl) (hb hby d26_14) (fun _ _ => ⟨rfl, e_8, (by decide : 1 + 1 ≤ _), (by decide : 5 + 2 ≤ _)⟩)
  dsimp only [Pt.U, Pt.locs, Pt.cells, Pt.slots] at X_17 l_17 y_17 z_17 st_17 hQ_17
  subst l_17 y_17 z_17
  obtain ⟨a_18, j_19, i_20, rfl, N_21, K_22, g_23, g_24, g_25, g_26, g_27⟩ := hQ_17
  have N_28 := Fr.app N0 N_21
  have O_33 : Old Z n0 T_17.heap := (O_16.keep K_22 all0)
  obtain ⟨T_29, X_30, e_31, st_32⟩ := getS X_17 hx hZ (host := "") hown (w79 hw) Via.refl rfl (OZ.ext O_33.2) (g := (mkF m 17 #[.val (.ref sI), .val (.long x), .second, .val (.ref w), .unset] [(.ref a_18), (.ref w), (.ref sI), (.ref a_13), (.ref a_13)])) rfl (hb hby d26_17)
  have E_34 : Exa Z T_17.heap a_13 "com/example/expiring_state/expiringstate/OneTimeCodes$IssueResult" := (A_10.keep K_22)
  have F_35 : Fld Z T_17.heap a_13 "com/example/expiring_state/expiringstate/Answer" "withoutStore" "Z" (.int (0 : Int32)) := ((D_11 (Or.inr (w91 hw)) (ty := .boolean) (by decide)).keep K_22 nin0)
  have F_36 : Fld Z T_17.heap a_13 "com/example/expiring_state/expiringstate/OneTimeCodes$IssueResult" "status" "Lcom/example/expiring_state/expiringstate/OneTimeCodes$IssueResult$Status;" .null := ((D_11 (Or.inr (w93 hw)) (ty := (.object "com/example/expiring_state/expiringstate/OneTimeCodes$IssueResult$Status")) (by decide)).keep K_22 nin0)
  have F_37 : Fld Z T_17.heap a_13 "com/example/expiring_state/expiringstate/OneTimeCodes$IssueResult" "code" "Ljava/lang/String;" .null := ((D_11 (Or.inr (w95 hw)) (ty := (.object "java/lang/String")) (by decide)).keep K_22 nin0)
  have F_38 : Fld Z T_17.heap a_13 "com/example/expiring_state/expiringstate/OneTimeCodes$IssueResult" "expiresAt" "Ljava/time/Instant;" .null := ((D_11 (Or.inr (w97 hw)) (ty := (.object "java/time/Instant")) (by decide)).keep K_22 nin0)
  have F_39 : Fld Z T_17.heap a_13 "com/example/expiring_state/expiringstate/OneTimeCodes$IssueResult" "retryAfter" "Ljava/time/Duration;" .null := ((D_11 (Or.inr (w99 hw)) (ty := (.object "java/time/Duration")) (by decide)).keep K_22 nin0)
  obtain ⟨_, _, ⟨T_40, L_40, k_40, n_40⟩, -, X_40, ⟨Lc_40, hQ_40, l_40, y_40, z_40⟩, st_40⟩ := X_30.specialBack hx (y := M558) rfl hown (mvT hZ (w81 hw)) (mvT hZ (w82 hw)) (mvT hZ (w83 hw)) (by decide) (backOf (W := 1) (rm_rinitI l Z a0 hw [] G1 sI sL sT sC sU dZ iE HG T_17.heap n0 O_33 a_13 sI w a_18 dZ E_34 F_35 F_36 F_37 F_38 F_39 (Nat.le_trans (own_n0 X00) (Nat.le_of_eq g_14.symm))) hZ (w83 hw) (w40 hw) (by decide) (by decide)) (g := (mkF m 21 #[.val (.ref sI), .val (.long x), .second, .val (.ref w), .unset] [(.int (0 : Int32)), (.ref dZ), (.ref a_18), (.ref w), (.ref sI), (.ref a_13), (.ref a_13)])) rfl (by rw [hml]; rfl) (Steps.refl _) (a := a_13) (argsL := [(.ref sI), (.ref w), (.ref a_18), (.ref dZ), (.int (0 : Int32))]) (rest := [(.ref a_13)]) (lenOf pd_609 rfl) rfl (by show 2 * 0 + _ ≤ _; exact Nat.le_of_eq rfl) (hb hby d26_21) (fun _ _ => ⟨rfl, e_31, (by decide : 2 + 0 ≤ _), (by decide : 7 + 0 ≤ _)⟩)
  dsimp only [Pt.U, Pt.locs, Pt.cells, Pt.slots] at X_40 l_40 y_40 z_40 st_40 hQ_40
  subst l_40 y_40 z_40
  obtain ⟨rfl, N_41, K_42, g_43, g_44, g_45, g_46, g_47⟩ := hQ_40
  have N_48 := Fr.app N_28 N_41
  have C_49 : Steps p.tables e below S0 (T_40.setTop (mkF m 48 #[.val (.ref sI), .val (.long x), .second, .val (.ref w), .val (.ref a_13)] [(.ref a_13)])) := by
    refine C0.trans ?_
    refine XS.aloadN X0.here hx rfl (hb hby d26_0) rfl rfl ?_
    refine st_4 _ ?_
    refine acmp X_2 hx rfl (cd := .ne) (x := (.ref sI)) (y := (.ref sI)) rfl rfl (same := true) (pc0 := 4) (pc' := 7) rfl (hb hby d26_4) rfl (decide_eq_true rfl) (by decide) (by decide) ?_
    refine st_12 _ ?_
    refine XS.dup X_7.here hx rfl (hb hby d26_10) rfl rfl ?_
    refine XS.aloadN X_7.here hx rfl (hb hby d26_11) rfl rfl ?_
    refine XS.aloadN X_7.here hx rfl (hb hby d26_12) rfl rfl ?_
    refine XS.lloadN X_7.here hx rfl (hb hby d26_13) rfl ?_
    show Steps p.tables e below (T_5.setTop (mkF m 14 #[.val (.ref sI), .val (.long x), .second, .val (.ref w), .unset] [(.long x), (.ref w), (.ref sI), (.ref a_13), (.ref a_13)])) _
    refine st_17 _ ?_
    refine st_32 _ ?_
    refine XS.iconst X_30.here hx rfl (hb hby d26_20) ?_
    refine st_40.trans ?_
    refine XS.astore X_40.here hx rfl (hb hby d26_24) rfl rfl (l' := #[.val (.ref sI), .val (.long x), .second, .val (.ref w), .val (.ref a_13)]) rfl ?_
    refine XS.goto X_40.here hx rfl (pc0 := 26) (pc' := 46) rfl (hb hby d26_26) (by decide) (by decide) ?_
    refine XS.aload X_40.here hx rfl (hb hby d26_46) rfl rfl ?_
    exact Steps.refl _
  have E_50 : Exa Z T_40.heap a_13 "com/example/expiring_state/expiringstate/OneTimeCodes$IssueResult" := (E_34.keep K_42)
  have E_51 : Exa Z T_40.heap a_18 "java/time/Instant" := (g_23.keep K_42)
  have F_52 : Fld Z T_40.heap a_18 "java/time/Instant" "seconds" "J" (.long j_19) := (g_24.keep K_42 (ninS (Exa.ne g_23 E_34 (by decide)) nin0))
  have F_53 : Fld Z T_40.heap a_18 "java/time/Instant" "nanos" "I" (.int i_20) := (g_25.keep K_42 (ninS (Exa.ne g_23 E_34 (by decide)) nin0))
  have K_54 : Keep h0 T_40.heap [] := ((((Keep.refl _ _).ext E_9).trans K_22 all0).trans K_42 (allS (Or.inr (Nat.le_trans (Nat.le_refl _) (Nat.le_of_eq g_14.symm))) all0))
  obtain ⟨fs, hr, hrun, hended, hW, hsame⟩ := X_40.leave (v := some (.ref a_13)) (fun h => by rw [Bd.returns] at h; cases h)
  refine ⟨_, _, C_49.trans (retOut X_40 hx Bd.returns rfl (Or.inr (Or.inr (Or.inr (Or.inr ⟨rfl, rfl, rfl⟩)))) (hb hby d26_48) hr), hrun, hended, _, _, rfl, ?_, ⟨_, rfl⟩, hW, hsame.mono (by decide) (by decide)⟩
  show Q_ofI Z G1 sI sL sT sC sU dZ iE x w h0 n0 (some (.ref a_13)) T_40.heap _
  exact ⟨a_13, a_18, j_19, i_20, rfl, N_48, K_54, (Nat.le_trans (Nat.le_refl _) (Nat.le_of_eq g_14.symm)), E_50, g_43, g_44, g_45, g_46, g_47, E_51, F_52, F_53, g_26, g_27⟩
theorem d26_29 : decode prog_52_method_2_code 29 = .ok (.new 8, 3) := by decide +kernel
theorem d26_32 : decode prog_52_method_2_code 32 = .ok (.dup, 1) := by decide +kernel
theorem d26_33 : decode prog_52_method_2_code 33 = .ok (.aload_n 0, 1) := by decide +kernel
theorem d26_34 : decode prog_52_method_2_code 34 = .ok (.aconst_null, 1) := by decide +kernel
theorem d26_35 : decode prog_52_method_2_code 35 = .ok (.aconst_null, 1) := by decide +kernel
theorem d26_36 : decode prog_52_method_2_code 36 = .ok (.lload_n 1, 1) := by decide +kernel
theorem w165 {Z : State} {a0 : Array Value} (hw : ∀ d ∈ tables_1, d.before a0 Z = true) : Jvm.Cond.before (Jvm.Cond.code ({ cls := "java/time/Duration", name := "ofMillis", desc := "(J)Ljava/time/Duration;" } : Jvm.MethodName) jdk_2316_method_6_code (5 : Nat) (Option.some (Jvm.ClassFile.FieldType.object "java/time/Duration"))) a0 Z = true := hw _ (List.mem_of_getElem? (i := 165) rfl)
theorem pd_624 : parseMethodDescriptor "(J)Ljava/time/Duration;" = some ⟨[.long], some (.object "java/time/Duration")⟩ := by decide +kernel
theorem d26_37 : decode prog_52_method_2_code 37 = .ok (.invokestatic 44, 3) := by decide +kernel
theorem w163 {Z : State} {a0 : Array Value} (hw : ∀ d ∈ tables_1, d.before a0 Z = true) : Jvm.Cond.before (Jvm.Cond.methodLink "com/example/expiring_state/expiringstate/OneTimeCodes$IssueResult" (44 : Nat) ({ cls := "java/time/Duration", name := "ofMillis", desc := "(J)Ljava/time/Duration;" } : Jvm.MethodName)) a0 Z = true := hw _ (List.mem_of_getElem? (i := 163) rfl)
theorem w164 {Z : State} {a0 : Array Value} (hw : ∀ d ∈ tables_1, d.before a0 Z = true) : Jvm.Cond.before (Jvm.Cond.static ({ cls := "java/time/Duration", name := "ofMillis", desc := "(J)Ljava/time/Duration;" } : Jvm.MethodName)) a0 Z = true := hw _ (List.mem_of_getElem? (i := 164) rfl)
theorem d26_40 : decode prog_52_method_2_code 40 = .ok (.iconst 0, 1) := by decide +kernel
theorem d26_41 : decode prog_52_method_2_code 41 = .ok (.invokespecial 41, 3) := by decide +kernel
theorem d26_44 : decode prog_52_method_2_code 44 = .ok (.astore 4, 2) := by decide +kernel
abbrev R_ofN : Room := { frames := 4, cells := 2, slots := 7, locals := 63 }
def Q_ofN (Z : State) (G1 : Int32) (sI : Addr) (sL : Addr) (sT : Addr) (sC : Addr) (sU : Addr) (dZ : Addr) (iE : Addr) (t : Addr) (x : Int64) (w : Addr) (h0 : Heap) (n0 : Nat) (v : Option Value) (h : Heap) (L : List Loc) : Prop := (∃ d : Addr, ∃ u : Addr, ∃ ss : Int64, ∃ n : Int32, v = some (.ref d) ∧ Fr n0 L ∧ Keep h0 h [] ∧ (h0.size ≤ d) ∧ (Exa Z h d "com/example/expiring_state/expiringstate/OneTimeCodes$IssueResult") ∧ (Fld Z h d "com/example/expiring_state/expiringstate/Answer" "withoutStore" "Z" (.int (0 : Int32))) ∧ (Fld Z h d "com/example/expiring_state/expiringstate/OneTimeCodes$IssueResult" "status" "Lcom/example/expiring_state/expiringstate/OneTimeCodes$IssueResult$Status;" (.ref t)) ∧ (Fld Z h d "com/example/expiring_state/expiringstate/OneTimeCodes$IssueResult" "code" "Ljava/lang/String;" .null) ∧ (Fld Z h d "com/example/expiring_state/expiringstate/OneTimeCodes$IssueResult" "expiresAt" "Ljava/time/Instant;" .null) ∧ (Fld Z h d "com/example/expiring_state/expiringstate/OneTimeCodes$IssueResult" "retryAfter" "Ljava/time/Duration;" (.ref u)) ∧ (Exa Z h u "java/time/Duration") ∧ (Fld Z h u "java/time/Duration" "seconds" "J" (.long ss)) ∧ (Fld Z h u "java/time/Duration" "nanos" "I" (.int n)) ∧ (ss.toInt = x.toInt / 1000) ∧ (n.toInt = x.toInt % 1000 * 1000000))
set_option maxRecDepth 65536 in
set_option maxHeartbeats 40000000 in
theorem rm_ofN (l : Launch) (Z : State) (a0 : Array Value) (hw : ∀ d ∈ tables_1, d.before a0 Z = true) (ws : List Jvm.Cond) (G1 : Int32) (sI : Addr) (sL : Addr) (sT : Addr) (sC : Addr) (sU : Addr) (dZ : Addr) (iE : Addr) (HG : own_G l Z a0 G1 sI sL sT sC sU dZ iE) (h0 : Heap) (n0 : Nat) (X00 : Old Z n0 h0) (t : Addr) (x : Int64) (w : Addr) (hp0 : t ≠ sI) :
    own_CP l Z M587 prog_52_method_2_code 5 (some (.object "com/example/expiring_state/expiringstate/OneTimeCodes$IssueResult")) ws R_ofN #[(.ref t), (.long x), (.ref w)] h0 (Q_ofN Z G1 sI sL sT sC sU dZ iE t x w h0 n0) := by
  refine own_P (plainFor_of_name pn_560) ?_
  intro p e s m below meth c s₁ S0 Bd hZ hh hx hby hml hown hnm X0 e0 hS0d
  obtain ⟨O1, P1, OsI, OsL, OsT, OsC, OsU, NsL, NsT, NsC, NsU, OZ, EZ, FZ1, FZ2, OE, EE, FE1, FE2⟩ := id HG
  have N0 := Fr.nil n0
  have C0 : Steps p.tables e below S0 (s₁.setTop (mkF m 0 #[.val (.ref t), .val (.long x), .second, .val (.ref w), .unset] [])) := by rw [hS0d]; exact castTop (ef_588 m t x w) (Steps.refl _)
  obtain ⟨T_1, X_2, e_3, st_4⟩ := getS X0 hx hZ (host := "") hown (w42 hw) Via.refl e0 (OsI.ext X00.2) (g := (mkF m 1 #[.val (.ref t), .val (.long x), .second, .val (.ref w), .unset] [(.ref t)])) rfl (hb hby d26_1)
  obtain ⟨T_5, h_6, X_7, e_8, E_9, A_10, D_11, U_15, st_12⟩ := newO X_2 hx hZ hown (w43 hw) (w44 hw) (w40 hw) e_3 (g := (mkF m 29 #[.val (.ref t), .val (.long x), .second, .val (.ref w), .unset] [])) rfl (hb hby d26_29) (by decide) (by decide)
  obtain ⟨a_13, g_14⟩ : ∃ z, z = h0.size := ⟨_, rfl⟩
  rw [← g_14] at A_10 D_11 st_12 U_15
  have O_16 : Old Z n0 h_6 := (X00.ext E_9)
  obtain ⟨_, _, ⟨T_17, L_17, k_17, n_17⟩, -, X_17, ⟨Lc_17, hQ_17, l_17, y_17, z_17⟩, st_17⟩ := Jvm.LawKit.callS X_7 hx (y := M462) hown (mvT hZ (w163 hw)) (mvT hZ (w164 hw)) (mvT hZ (w80 hw)) (mvT hZ (w165 hw)) (by decide) (backOf (W := 5) (rm_duof l Z a0 hw [] G1 sI sL sT sC sU dZ iE HG h_6 n0 O_16 x ) hZ (w165 hw) (w80 hw) (by decide) (by decide)) (g := (mkF m 37 #[.val (.ref t), .val (.long x), .second, .val (.ref w), .unset] [(.long x), .null, .null, (.ref t), (.ref a_13), (.ref a_13)])) rfl (by rw [hml]; rfl) (argsL := [(.long x)]) (rest := [.null, .null, (.ref t), (.ref a_13), (.ref a_13)]) (lenOf pd_624 rfl) rfl (by show 2 * 0 + _ ≤ _; exact Nat.le_of_eq rfl) (hb hby d26_37) (fun _ _ => ⟨rfl, e_8, (by decide : 1 + 1 ≤ _), (by decide : 5 + 2 ≤ _)⟩)
  dsimp only [Pt.U, Pt.locs, Pt.cells, Pt.slots] at X_17 l_17 y_17 z_17 st_17 hQ_17
  subst l_17 y_17 z_17
  obtain ⟨a_18, j_19, i_20, rfl, N_21, K_22, g_23, g_24, g_25, g_26, g_27⟩ := hQ_17
  have N_28 := Fr.app N0 N_21
  have E_29 : Exa Z T_17.heap a_13 "com/example/expiring_state/expiringstate/OneTimeCodes$IssueResult" := (A_10.keep K_22)
  have F_30 : Fld Z T_17.heap a_13 "com/example/expiring_state/expiringstate/Answer" "withoutStore" "Z" (.int (0 : Int32)) := ((D_11 (Or.inr (w91 hw)) (ty := .boolean) (by decide)).keep K_22 nin0)
  have F_31 : Fld Z T_17.heap a_13 "com/example/expiring_state/expiringstate/OneTimeCodes$IssueResult" "status" "Lcom/example/expiring_state/expiringstate/OneTimeCodes$IssueResult$Status;" .null := ((D_11 (Or.inr (w93 hw)) (ty := (.object "com/example/expiring_state/expiringstate/OneTimeCodes$IssueResult$Status")) (by decide)).keep K_22 nin0)
  have F_32 : Fld Z T_17.heap a_13 "com/example/expiring_state/expiringstate/OneTimeCodes$IssueResult" "code" "Ljava/lang/String;" .null := ((D_11 (Or.inr (w95 hw)) (ty := (.object "java/lang/String")) (by decide)).keep K_22 nin0)
  have F_33 : Fld Z T_17.heap a_13 "com/example/expiring_state/expiringstate/OneTimeCodes$IssueResult" "expiresAt" "Ljava/time/Instant;" .null := ((D_11 (Or.inr (w97 hw)) (ty := (.object "java/time/Instant")) (by decide)).keep K_22 nin0)
  have F_34 : Fld Z T_17.heap a_13 "com/example/expiring_state/expiringstate/OneTimeCodes$IssueResult" "retryAfter" "Ljava/time/Duration;" .null := ((D_11 (Or.inr (w99 hw)) (ty := (.object "java/time/Duration")) (by decide)).keep K_22 nin0)
  have O_35 : Old Z n0 T_17.heap := (O_16.keep K_22 all0)
  obtain ⟨_, _, ⟨T_36, L_36, k_36, n_36⟩, -, X_36, ⟨Lc_36, hQ_36, l_36, y_36, z_36⟩, st_36⟩ := X_17.specialBack hx (y := M558) rfl hown (mvT hZ (w81 hw)) (mvT hZ (w82 hw)) (mvT hZ (w83 hw)) (by decide) (backOf (W := 1) (rm_rinitN l Z a0 hw [] G1 sI sL sT sC sU dZ iE HG T_17.heap n0 O_35 a_13 t a_18 E_29 F_30 F_31 F_32 F_33 F_34 (Nat.le_trans (own_n0 X00) (Nat.le_of_eq g_14.symm))) hZ (w83 hw) (w40 hw) (by decide) (by decide)) (g := (mkF m 41 #[.val (.ref t), .val (.long x), .second, .val (.ref w), .unset] [(.int (0 : Int32)), (.ref a_18), .null, .null, (.ref t), (.ref a_13), (.ref a_13)])) rfl (by rw [hml]; rfl) (Steps.refl _) (a := a_13) (argsL := [(.ref t), .null, .null, (.ref a_18), (.int (0 : Int32))]) (rest := [(.ref a_13)]) (lenOf pd_609 rfl) rfl (by show 2 * 0 + _ ≤ _; exact Nat.le_of_eq rfl) (hb hby d26_41) (fun _ _ => ⟨rfl, rfl, (by decide : 2 + 0 ≤ _), (by decide : 7 + 0 ≤ _)⟩)
  dsimp only [Pt.U, Pt.locs, Pt.cells, Pt.slots] at X_36 l_36 y_36 z_36 st_36 hQ_36
  subst l_36 y_36 z_36
  obtain ⟨rfl, N_37, K_38, g_39, g_40, g_41, g_42, g_43⟩ := hQ_36
  have N_44 := Fr.app N_28 N_37
  have C_45 : Steps p.tables e below S0 (T_36.setTop (mkF m 48 #[.val (.ref t), .val (.long x), .second, .val (.ref w), .val (.ref a_13)] [(.ref a_13)])) := by
    refine C0.trans ?_
    refine XS.aloadN X0.here hx rfl (hb hby d26_0) rfl rfl ?_
    refine st_4 _ ?_
    refine acmp X_2 hx rfl (cd := .ne) (x := (.ref t)) (y := (.ref sI)) rfl rfl (same := false) (pc0 := 4) (pc' := 29) rfl (hb hby d26_4) rfl (decide_eq_false fun q => hp0 (Value.ref.inj q)) (by decide) (by decide) ?_
    refine st_12 _ ?_
    refine XS.dup X_7.here hx rfl (hb hby d26_32) rfl rfl ?_
    refine XS.aloadN X_7.here hx rfl (hb hby d26_33) rfl rfl ?_
    refine XS.aconstNull X_7.here hx rfl (hb hby d26_34) ?_
    refine XS.aconstNull X_7.here hx rfl (hb hby d26_35) ?_
    show Steps p.tables e below (T_5.setTop (mkF m 36 #[.val (.ref t), .val (.long x), .second, .val (.ref w), .unset] [.null, .null, (.ref t), (.ref a_13), (.ref a_13)])) _
    refine XS.lloadN X_7.here hx rfl (hb hby d26_36) rfl ?_
    refine st_17 _ ?_
    refine XS.iconst X_17.here hx rfl (hb hby d26_40) ?_
    refine st_36.trans ?_
    refine XS.astore X_36.here hx rfl (hb hby d26_44) rfl rfl (l' := #[.val (.ref t), .val (.long x), .second, .val (.ref w), .val (.ref a_13)]) rfl ?_
    refine XS.aload X_36.here hx rfl (hb hby d26_46) rfl rfl ?_
    exact Steps.refl _
  have E_46 : Exa Z T_36.heap a_13 "com/example/expiring_state/expiringstate/OneTimeCodes$IssueResult" := (E_29.keep K_38)
  have E_47 : Exa Z T_36.heap a_18 "java/time/Duration" := (g_23.keep K_38)
  have F_48 : Fld Z T_36.heap a_18 "java/time/Duration" "seconds" "J" (.long j_19) := (g_24.keep K_38 (ninS (Exa.ne g_23 E_29 (by decide)) nin0))
  have F_49 : Fld Z T_36.heap a_18 "java/time/Duration" "nanos" "I" (.int i_20) := (g_25.keep K_38 (ninS (Exa.ne g_23 E_29 (by decide)) nin0))
  have K_50 : Keep h0 T_36.heap [] := ((((Keep.refl _ _).ext E_9).trans K_22 all0).trans K_38 (allS (Or.inr (Nat.le_trans (Nat.le_refl _) (Nat.le_of_eq g_14.symm))) all0))
  obtain ⟨fs, hr, hrun, hended, hW, hsame⟩ := X_36.leave (v := some (.ref a_13)) (fun h => by rw [Bd.returns] at h; cases h)
  refine ⟨_, _, C_45.trans (retOut X_36 hx Bd.returns rfl (Or.inr (Or.inr (Or.inr (Or.inr ⟨rfl, rfl, rfl⟩)))) (hb hby d26_48) hr), hrun, hended, _, _, rfl, ?_, ⟨_, rfl⟩, hW, hsame.mono (by decide) (by decide)⟩
  show Q_ofN Z G1 sI sL sT sC sU dZ iE t x w h0 n0 (some (.ref a_13)) T_36.heap _
  exact ⟨a_13, a_18, j_19, i_20, rfl, N_44, K_50, (Nat.le_trans (Nat.le_refl _) (Nat.le_of_eq g_14.symm)), E_46, g_39, g_40, g_41, g_42, g_43, E_47, F_48, F_49, g_26, g_27⟩
abbrev M631 : MethodName := ⟨"com/example/expiring_state/expiringstate/OneTimeCodes$IssueResult", "status", "()Lcom/example/expiring_state/expiringstate/OneTimeCodes$IssueResult$Status;"⟩
theorem d27_0 : decode prog_52_method_4_code 0 = .ok (.aload_n 0, 1) := by decide +kernel
theorem d27_1 : decode prog_52_method_4_code 1 = .ok (.getfield 7, 3) := by decide +kernel
theorem d27_4 : decode prog_52_method_4_code 4 = .ok (.areturn, 1) := by decide +kernel
abbrev R_gst : Room := { frames := 0, cells := 0, slots := 0, locals := 0 }
def Q_gst (Z : State) (G1 : Int32) (sI : Addr) (sL : Addr) (sT : Addr) (sC : Addr) (sU : Addr) (dZ : Addr) (iE : Addr) (d : Addr) (t : Addr) (h0 : Heap) (n0 : Nat) (v : Option Value) (h : Heap) (L : List Loc) : Prop := (v = some (.ref t) ∧ Fr n0 L ∧ h = h0)
set_option maxRecDepth 65536 in
set_option maxHeartbeats 40000000 in
theorem rm_gst (l : Launch) (Z : State) (a0 : Array Value) (hw : ∀ d ∈ tables_1, d.before a0 Z = true) (ws : List Jvm.Cond) (G1 : Int32) (sI : Addr) (sL : Addr) (sT : Addr) (sC : Addr) (sU : Addr) (dZ : Addr) (iE : Addr) (HG : own_G l Z a0 G1 sI sL sT sC sU dZ iE) (h0 : Heap) (n0 : Nat) (X00 : Old Z n0 h0) (d : Addr) (t : Addr) (hp0 : Fld Z h0 d "com/example/expiring_state/expiringstate/OneTimeCodes$IssueResult" "status" "Lcom/example/expiring_state/expiringstate/OneTimeCodes$IssueResult$Status;" (.ref t)) :
    own_CP l Z M631 prog_52_method_4_code 1 (some (.object "com/example/expiring_state/expiringstate/OneTimeCodes$IssueResult$Status")) ws R_gst #[(.ref d)] h0 (Q_gst Z G1 sI sL sT sC sU dZ iE d t h0 n0) := by
  refine own_P (plainFor_of_name pn_560) ?_
  intro p e s m below meth c s₁ S0 Bd hZ hh hx hby hml hown hnm X0 e0 hS0d
  obtain ⟨O1, P1, OsI, OsL, OsT, OsC, OsU, NsL, NsT, NsC, NsU, OZ, EZ, FZ1, FZ2, OE, EE, FE1, FE2⟩ := id HG
  have N0 := Fr.nil n0
  have C0 : Steps p.tables e below S0 (s₁.setTop (mkF m 0 #[.val (.ref d)] [])) := by rw [hS0d]; exact castTop (ef_529 m d) (Steps.refl _)
  obtain ⟨T_1, X_2, e_3, st_4⟩ := getF X0 hx hZ hown (host := "") (Or.inl (w92 hw)) Via.refl e0 hp0 (g := (mkF m 1 #[.val (.ref d)] [(.ref d)])) rfl rfl (hb hby d27_1)
  have C_5 : Steps p.tables e below S0 (T_1.setTop (mkF m 4 #[.val (.ref d)] [(.ref t)])) := by
    refine C0.trans ?_
    refine XS.aloadN X0.here hx rfl (hb hby d27_0) rfl rfl ?_
    refine st_4 _ ?_
    exact Steps.refl _
  obtain ⟨fs, hr, hrun, hended, hW, hsame⟩ := X_2.leave (v := some (.ref t)) (fun h => by rw [Bd.returns] at h; cases h)
  refine ⟨_, _, C_5.trans (retOut X_2 hx Bd.returns rfl (Or.inr (Or.inr (Or.inr (Or.inr ⟨rfl, rfl, rfl⟩)))) (hb hby d27_4) hr), hrun, hended, _, _, rfl, ?_, ⟨_, rfl⟩, hW, hsame.mono (by decide) (by decide)⟩
  show Q_gst Z G1 sI sL sT sC sU dZ iE d t h0 n0 (some (.ref t)) T_1.heap _
  rw [e_3]
  exact ⟨rfl, N0, rfl⟩
abbrev M635 : MethodName := ⟨"com/example/expiring_state/expiringstate/Answer", "withoutStore", "()Z"⟩
theorem d28_0 : decode prog_1_method_3_code 0 = .ok (.aload_n 0, 1) := by decide +kernel
theorem d28_1 : decode prog_1_method_3_code 1 = .ok (.getfield 7, 3) := by decide +kernel
theorem d28_4 : decode prog_1_method_3_code 4 = .ok (.ireturn, 1) := by decide +kernel
abbrev R_gws : Room := { frames := 0, cells := 0, slots := 0, locals := 0 }
def Q_gws (Z : State) (G1 : Int32) (sI : Addr) (sL : Addr) (sT : Addr) (sC : Addr) (sU : Addr) (dZ : Addr) (iE : Addr) (d : Addr) (h0 : Heap) (n0 : Nat) (v : Option Value) (h : Heap) (L : List Loc) : Prop := (v = some (.int (0 : Int32)) ∧ Fr n0 L ∧ h = h0)
set_option maxRecDepth 65536 in
set_option maxHeartbeats 40000000 in
theorem rm_gws (l : Launch) (Z : State) (a0 : Array Value) (hw : ∀ d ∈ tables_1, d.before a0 Z = true) (ws : List Jvm.Cond) (G1 : Int32) (sI : Addr) (sL : Addr) (sT : Addr) (sC : Addr) (sU : Addr) (dZ : Addr) (iE : Addr) (HG : own_G l Z a0 G1 sI sL sT sC sU dZ iE) (h0 : Heap) (n0 : Nat) (X00 : Old Z n0 h0) (d : Addr) (hp0 : Fld Z h0 d "com/example/expiring_state/expiringstate/Answer" "withoutStore" "Z" (.int (0 : Int32))) :
    own_CP l Z M635 prog_1_method_3_code 1 (some .boolean) ws R_gws #[(.ref d)] h0 (Q_gws Z G1 sI sL sT sC sU dZ iE d h0 n0) := by
  refine own_P (plainFor_of_name pn_543) ?_
  intro p e s m below meth c s₁ S0 Bd hZ hh hx hby hml hown hnm X0 e0 hS0d
  obtain ⟨O1, P1, OsI, OsL, OsT, OsC, OsU, NsL, NsT, NsC, NsU, OZ, EZ, FZ1, FZ2, OE, EE, FE1, FE2⟩ := id HG
  have N0 := Fr.nil n0
  have C0 : Steps p.tables e below S0 (s₁.setTop (mkF m 0 #[.val (.ref d)] [])) := by rw [hS0d]; exact castTop (ef_529 m d) (Steps.refl _)
  obtain ⟨T_1, X_2, e_3, st_4⟩ := getF X0 hx hZ hown (host := "") (Or.inl (w90 hw)) Via.refl e0 hp0 (g := (mkF m 1 #[.val (.ref d)] [(.ref d)])) rfl rfl (hb hby d28_1)
  have C_5 : Steps p.tables e below S0 (T_1.setTop (mkF m 4 #[.val (.ref d)] [(.int (0 : Int32))])) := by
    refine C0.trans ?_
    refine XS.aloadN X0.here hx rfl (hb hby d28_0) rfl rfl ?_
    refine st_4 _ ?_
    exact Steps.refl _
  obtain ⟨fs, hr, hrun, hended, hW, hsame⟩ := X_2.leave (v := some (.int (0 : Int32))) (fun h => by rw [Bd.returns] at h; cases h)
  refine ⟨_, _, C_5.trans (retN X_2 hx (t := .boolean) Bd.returns (by simp) (hb hby d28_4) hr), hrun, hended, _, _, rfl, ?_, ⟨_, rfl⟩, hW, hsame.mono (by decide) (by decide)⟩
  show Q_gws Z G1 sI sL sT sC sU dZ iE d h0 n0 (some (.int (0 : Int32))) T_1.heap _
  rw [e_3]
  exact ⟨rfl, N0, rfl⟩
abbrev M639 : MethodName := ⟨"com/example/expiring_state/expiringstate/OneTimeCodes$IssueResult", "issued", "()V"⟩
theorem d29_0 : decode prog_52_method_9_code 0 = .ok (.aload_n 0, 1) := by decide +kernel
theorem d29_1 : decode prog_52_method_9_code 1 = .ok (.getfield 7, 3) := by decide +kernel
theorem d29_4 : decode prog_52_method_9_code 4 = .ok (.getstatic 25, 3) := by decide +kernel
theorem d29_7 : decode prog_52_method_9_code 7 = .ok (.if_acmp .eq 20, 3) := by decide +kernel
theorem d29_27 : decode prog_52_method_9_code 27 = .ok (.return_, 1) := by decide +kernel
abbrev R_iss : Room := { frames := 0, cells := 0, slots := 0, locals := 0 }
def Q_iss (Z : State) (G1 : Int32) (sI : Addr) (sL : Addr) (sT : Addr) (sC : Addr) (sU : Addr) (dZ : Addr) (iE : Addr) (d : Addr) (h0 : Heap) (n0 : Nat) (v : Option Value) (h : Heap) (L : List Loc) : Prop := (v = none ∧ Fr n0 L ∧ h = h0)
set_option maxRecDepth 65536 in
set_option maxHeartbeats 40000000 in
theorem rm_iss (l : Launch) (Z : State) (a0 : Array Value) (hw : ∀ d ∈ tables_1, d.before a0 Z = true) (ws : List Jvm.Cond) (G1 : Int32) (sI : Addr) (sL : Addr) (sT : Addr) (sC : Addr) (sU : Addr) (dZ : Addr) (iE : Addr) (HG : own_G l Z a0 G1 sI sL sT sC sU dZ iE) (h0 : Heap) (n0 : Nat) (X00 : Old Z n0 h0) (d : Addr) (hp0 : Fld Z h0 d "com/example/expiring_state/expiringstate/OneTimeCodes$IssueResult" "status" "Lcom/example/expiring_state/expiringstate/OneTimeCodes$IssueResult$Status;" (.ref sI)) :
    own_CP l Z M639 prog_52_method_9_code 1 none ws R_iss #[(.ref d)] h0 (Q_iss Z G1 sI sL sT sC sU dZ iE d h0 n0) := by
  refine own_P (plainFor_of_name pn_560) ?_
  intro p e s m below meth c s₁ S0 Bd hZ hh hx hby hml hown hnm X0 e0 hS0d
  obtain ⟨O1, P1, OsI, OsL, OsT, OsC, OsU, NsL, NsT, NsC, NsU, OZ, EZ, FZ1, FZ2, OE, EE, FE1, FE2⟩ := id HG
  have N0 := Fr.nil n0
  have C0 : Steps p.tables e below S0 (s₁.setTop (mkF m 0 #[.val (.ref d)] [])) := by rw [hS0d]; exact castTop (ef_529 m d) (Steps.refl _)
  obtain ⟨T_1, X_2, e_3, st_4⟩ := getF X0 hx hZ hown (host := "") (Or.inl (w92 hw)) Via.refl e0 hp0 (g := (mkF m 1 #[.val (.ref d)] [(.ref d)])) rfl rfl (hb hby d29_1)
  obtain ⟨T_5, X_6, e_7, st_8⟩ := getS X_2 hx hZ (host := "") hown (w42 hw) Via.refl e_3 (OsI.ext X00.2) (g := (mkF m 4 #[.val (.ref d)] [(.ref sI)])) rfl (hb hby d29_4)
  have C_9 : Steps p.tables e below S0 (T_5.setTop (mkF m 27 #[.val (.ref d)] [])) := by
    refine C0.trans ?_
    refine XS.aloadN X0.here hx rfl (hb hby d29_0) rfl rfl ?_
    refine st_4 _ ?_
    refine st_8 _ ?_
    refine acmp X_6 hx rfl (cd := .eq) (x := (.ref sI)) (y := (.ref sI)) rfl rfl (same := true) (pc0 := 7) (pc' := 27) rfl (hb hby d29_7) rfl (decide_eq_true rfl) (by decide) (by decide) ?_
    exact Steps.refl _
  obtain ⟨fs, hr, hrun, hended, hW, hsame⟩ := X_6.leave (v := none) (fun _ => rfl)
  refine ⟨_, _, C_9.trans (X_6.returnOut hx Bd.returns (hb hby d29_27) hr), hrun, hended, _, _, rfl, ?_, ⟨_, rfl⟩, hW, hsame.mono (by decide) (by decide)⟩
  show Q_iss Z G1 sI sL sT sC sU dZ iE d h0 n0 (none) T_5.heap _
  rw [e_7]
  exact ⟨rfl, N0, rfl⟩
abbrev M645 : MethodName := ⟨"com/example/expiring_state/expiringstate/OneTimeCodes$IssueResult", "code", "()Ljava/lang/String;"⟩
theorem d30_0 : decode prog_52_method_5_code 0 = .ok (.aload_n 0, 1) := by decide +kernel
theorem w119 {Z : State} {a0 : Array Value} (hw : ∀ d ∈ tables_1, d.before a0 Z = true) : Jvm.Cond.before (Jvm.Cond.code ({ cls := "com/example/expiring_state/expiringstate/OneTimeCodes$IssueResult", name := "issued", desc := "()V" } : Jvm.MethodName) prog_52_method_9_code (1 : Nat) (Option.none : Option Jvm.ClassFile.FieldType)) a0 Z = true := hw _ (List.mem_of_getElem? (i := 119) rfl)
theorem pd_648 : parseMethodDescriptor "()V" = some ⟨[], none⟩ := by decide +kernel
theorem d30_1 : decode prog_52_method_5_code 1 = .ok (.invokevirtual 48, 3) := by decide +kernel
theorem w116 {Z : State} {a0 : Array Value} (hw : ∀ d ∈ tables_1, d.before a0 Z = true) : Jvm.Cond.before (Jvm.Cond.methodLink "com/example/expiring_state/expiringstate/OneTimeCodes$IssueResult" (48 : Nat) ({ cls := "com/example/expiring_state/expiringstate/OneTimeCodes$IssueResult", name := "issued", desc := "()V" } : Jvm.MethodName)) a0 Z = true := hw _ (List.mem_of_getElem? (i := 116) rfl)
theorem w117 {Z : State} {a0 : Array Value} (hw : ∀ d ∈ tables_1, d.before a0 Z = true) : Jvm.Cond.before (Jvm.Cond.instanceMethod ({ cls := "com/example/expiring_state/expiringstate/OneTimeCodes$IssueResult", name := "issued", desc := "()V" } : Jvm.MethodName)) a0 Z = true := hw _ (List.mem_of_getElem? (i := 117) rfl)
theorem w118 {Z : State} {a0 : Array Value} (hw : ∀ d ∈ tables_1, d.before a0 Z = true) : Jvm.Cond.before (Jvm.Cond.privateMethod ({ cls := "com/example/expiring_state/expiringstate/OneTimeCodes$IssueResult", name := "issued", desc := "()V" } : Jvm.MethodName)) a0 Z = true := hw _ (List.mem_of_getElem? (i := 118) rfl)
theorem d30_4 : decode prog_52_method_5_code 4 = .ok (.aload_n 0, 1) := by decide +kernel
theorem d30_5 : decode prog_52_method_5_code 5 = .ok (.getfield 13, 3) := by decide +kernel
theorem d30_8 : decode prog_52_method_5_code 8 = .ok (.areturn, 1) := by decide +kernel
abbrev R_gco : Room := { frames := 1, cells := 0, slots := 0, locals := 12 }
def Q_gco (Z : State) (G1 : Int32) (sI : Addr) (sL : Addr) (sT : Addr) (sC : Addr) (sU : Addr) (dZ : Addr) (iE : Addr) (d : Addr) (w : Addr) (h0 : Heap) (n0 : Nat) (v : Option Value) (h : Heap) (L : List Loc) : Prop := (v = some (.ref w) ∧ Fr n0 L ∧ h = h0)
set_option maxRecDepth 65536 in
set_option maxHeartbeats 40000000 in
theorem rm_gco (l : Launch) (Z : State) (a0 : Array Value) (hw : ∀ d ∈ tables_1, d.before a0 Z = true) (ws : List Jvm.Cond) (G1 : Int32) (sI : Addr) (sL : Addr) (sT : Addr) (sC : Addr) (sU : Addr) (dZ : Addr) (iE : Addr) (HG : own_G l Z a0 G1 sI sL sT sC sU dZ iE) (h0 : Heap) (n0 : Nat) (X00 : Old Z n0 h0) (d : Addr) (w : Addr) (hp0 : Exa Z h0 d "com/example/expiring_state/expiringstate/OneTimeCodes$IssueResult") (hp1 : Fld Z h0 d "com/example/expiring_state/expiringstate/OneTimeCodes$IssueResult" "status" "Lcom/example/expiring_state/expiringstate/OneTimeCodes$IssueResult$Status;" (.ref sI)) (hp2 : Fld Z h0 d "com/example/expiring_state/expiringstate/OneTimeCodes$IssueResult" "code" "Ljava/lang/String;" (.ref w)) :
    own_CP l Z M645 prog_52_method_5_code 1 (some (.object "java/lang/String")) ws R_gco #[(.ref d)] h0 (Q_gco Z G1 sI sL sT sC sU dZ iE d w h0 n0) := by
  refine own_P (plainFor_of_name pn_560) ?_
  intro p e s m below meth c s₁ S0 Bd hZ hh hx hby hml hown hnm X0 e0 hS0d
  obtain ⟨O1, P1, OsI, OsL, OsT, OsC, OsU, NsL, NsT, NsC, NsU, OZ, EZ, FZ1, FZ2, OE, EE, FE1, FE2⟩ := id HG
  have N0 := Fr.nil n0
  have C0 : Steps p.tables e below S0 (s₁.setTop (mkF m 0 #[.val (.ref d)] [])) := by rw [hS0d]; exact castTop (ef_529 m d) (Steps.refl _)
  obtain ⟨cl_7, hc_8, hc_9⟩ := hp0.cell
  obtain ⟨_, _, ⟨T_1, L_1, k_1, n_1⟩, -, X_1, ⟨Lc_1, hQ_1, l_1, y_1, z_1⟩, st_1⟩ := X0.privateBack hx (y := M639) hown (mvT hZ (w116 hw)) (mvT hZ (w117 hw)) (mvT hZ (Jvm.Kit.selects_private (y := M639) (by decide) (w44 hw) (w118 hw) (w117 hw))) (own_priv (args := #[]) (mvP hZ (w118 hw))) (mvT hZ (w119 hw)) (by decide) (backOf (W := 0) (rm_iss l Z a0 hw [] G1 sI sL sT sC sU dZ iE HG h0 n0 X00 d hp1) hZ (w119 hw) (w40 hw) (by decide) (by decide)) (g := (mkF m 1 #[.val (.ref d)] [(.ref d)])) rfl (by rw [hml]; rfl) (Steps.refl _) (a := d) (cell := cl_7) (by rw [e0]; exact hc_8) hc_9 (argsL := []) (rest := []) (lenOf pd_648 rfl) rfl (by show 2 * 0 + _ ≤ _; exact Nat.le_of_eq rfl) (hb hby d30_1) (fun _ _ => ⟨rfl, e0, (by decide : 0 + 0 ≤ _), (by decide : 0 + 0 ≤ _)⟩)
  dsimp only [Pt.U, Pt.locs, Pt.cells, Pt.slots] at X_1 l_1 y_1 z_1 st_1 hQ_1
  subst l_1 y_1 z_1
  obtain ⟨rfl, N_10, e_11⟩ := hQ_1
  have N_12 := Fr.app N0 N_10
  have e_13 : T_1.heap = h0 := e_11
  obtain ⟨T_14, X_15, e_16, st_17⟩ := getF X_1 hx hZ hown (host := "") (Or.inl (w94 hw)) Via.refl e_13 hp2 (g := (mkF m 5 #[.val (.ref d)] [(.ref d)])) rfl rfl (hb hby d30_5)
  have C_18 : Steps p.tables e below S0 (T_14.setTop (mkF m 8 #[.val (.ref d)] [(.ref w)])) := by
    refine C0.trans ?_
    refine XS.aloadN X0.here hx rfl (hb hby d30_0) rfl rfl ?_
    refine st_1.trans ?_
    refine XS.aloadN X_1.here hx rfl (hb hby d30_4) rfl rfl ?_
    refine st_17 _ ?_
    exact Steps.refl _
  obtain ⟨fs, hr, hrun, hended, hW, hsame⟩ := X_15.leave (v := some (.ref w)) (fun h => by rw [Bd.returns] at h; cases h)
  refine ⟨_, _, C_18.trans (retOut X_15 hx Bd.returns rfl (Or.inr (Or.inr (Or.inr (Or.inr ⟨rfl, rfl, rfl⟩)))) (hb hby d30_8) hr), hrun, hended, _, _, rfl, ?_, ⟨_, rfl⟩, hW, hsame.mono (by decide) (by decide)⟩
  show Q_gco Z G1 sI sL sT sC sU dZ iE d w h0 n0 (some (.ref w)) T_14.heap _
  rw [e_16]
  exact ⟨rfl, N_12, rfl⟩
abbrev M656 : MethodName := ⟨"com/example/expiring_state/expiringstate/OneTimeCodes$IssueResult", "expiresAt", "()Ljava/time/Instant;"⟩
theorem d31_0 : decode prog_52_method_6_code 0 = .ok (.aload_n 0, 1) := by decide +kernel
theorem d31_1 : decode prog_52_method_6_code 1 = .ok (.invokevirtual 48, 3) := by decide +kernel
theorem d31_4 : decode prog_52_method_6_code 4 = .ok (.aload_n 0, 1) := by decide +kernel
theorem d31_5 : decode prog_52_method_6_code 5 = .ok (.getfield 17, 3) := by decide +kernel
theorem d31_8 : decode prog_52_method_6_code 8 = .ok (.areturn, 1) := by decide +kernel
abbrev R_gex : Room := { frames := 1, cells := 0, slots := 0, locals := 12 }
def Q_gex (Z : State) (G1 : Int32) (sI : Addr) (sL : Addr) (sT : Addr) (sC : Addr) (sU : Addr) (dZ : Addr) (iE : Addr) (d : Addr) (i : Addr) (h0 : Heap) (n0 : Nat) (v : Option Value) (h : Heap) (L : List Loc) : Prop := (v = some (.ref i) ∧ Fr n0 L ∧ h = h0)
set_option maxRecDepth 65536 in
set_option maxHeartbeats 40000000 in
theorem rm_gex (l : Launch) (Z : State) (a0 : Array Value) (hw : ∀ d ∈ tables_1, d.before a0 Z = true) (ws : List Jvm.Cond) (G1 : Int32) (sI : Addr) (sL : Addr) (sT : Addr) (sC : Addr) (sU : Addr) (dZ : Addr) (iE : Addr) (HG : own_G l Z a0 G1 sI sL sT sC sU dZ iE) (h0 : Heap) (n0 : Nat) (X00 : Old Z n0 h0) (d : Addr) (i : Addr) (hp0 : Exa Z h0 d "com/example/expiring_state/expiringstate/OneTimeCodes$IssueResult") (hp1 : Fld Z h0 d "com/example/expiring_state/expiringstate/OneTimeCodes$IssueResult" "status" "Lcom/example/expiring_state/expiringstate/OneTimeCodes$IssueResult$Status;" (.ref sI)) (hp2 : Fld Z h0 d "com/example/expiring_state/expiringstate/OneTimeCodes$IssueResult" "expiresAt" "Ljava/time/Instant;" (.ref i)) :
    own_CP l Z M656 prog_52_method_6_code 1 (some (.object "java/time/Instant")) ws R_gex #[(.ref d)] h0 (Q_gex Z G1 sI sL sT sC sU dZ iE d i h0 n0) := by
  refine own_P (plainFor_of_name pn_560) ?_
  intro p e s m below meth c s₁ S0 Bd hZ hh hx hby hml hown hnm X0 e0 hS0d
  obtain ⟨O1, P1, OsI, OsL, OsT, OsC, OsU, NsL, NsT, NsC, NsU, OZ, EZ, FZ1, FZ2, OE, EE, FE1, FE2⟩ := id HG
  have N0 := Fr.nil n0
  have C0 : Steps p.tables e below S0 (s₁.setTop (mkF m 0 #[.val (.ref d)] [])) := by rw [hS0d]; exact castTop (ef_529 m d) (Steps.refl _)
  obtain ⟨cl_7, hc_8, hc_9⟩ := hp0.cell
  obtain ⟨_, _, ⟨T_1, L_1, k_1, n_1⟩, -, X_1, ⟨Lc_1, hQ_1, l_1, y_1, z_1⟩, st_1⟩ := X0.privateBack hx (y := M639) hown (mvT hZ (w116 hw)) (mvT hZ (w117 hw)) (mvT hZ (Jvm.Kit.selects_private (y := M639) (by decide) (w44 hw) (w118 hw) (w117 hw))) (own_priv (args := #[]) (mvP hZ (w118 hw))) (mvT hZ (w119 hw)) (by decide) (backOf (W := 0) (rm_iss l Z a0 hw [] G1 sI sL sT sC sU dZ iE HG h0 n0 X00 d hp1) hZ (w119 hw) (w40 hw) (by decide) (by decide)) (g := (mkF m 1 #[.val (.ref d)] [(.ref d)])) rfl (by rw [hml]; rfl) (Steps.refl _) (a := d) (cell := cl_7) (by rw [e0]; exact hc_8) hc_9 (argsL := []) (rest := []) (lenOf pd_648 rfl) rfl (by show 2 * 0 + _ ≤ _; exact Nat.le_of_eq rfl) (hb hby d31_1) (fun _ _ => ⟨rfl, e0, (by decide : 0 + 0 ≤ _), (by decide : 0 + 0 ≤ _)⟩)
  dsimp only [Pt.U, Pt.locs, Pt.cells, Pt.slots] at X_1 l_1 y_1 z_1 st_1 hQ_1
  subst l_1 y_1 z_1
  obtain ⟨rfl, N_10, e_11⟩ := hQ_1
  have N_12 := Fr.app N0 N_10
  have e_13 : T_1.heap = h0 := e_11
  obtain ⟨T_14, X_15, e_16, st_17⟩ := getF X_1 hx hZ hown (host := "") (Or.inl (w96 hw)) Via.refl e_13 hp2 (g := (mkF m 5 #[.val (.ref d)] [(.ref d)])) rfl rfl (hb hby d31_5)
  have C_18 : Steps p.tables e below S0 (T_14.setTop (mkF m 8 #[.val (.ref d)] [(.ref i)])) := by
    refine C0.trans ?_
    refine XS.aloadN X0.here hx rfl (hb hby d31_0) rfl rfl ?_
    refine st_1.trans ?_
    refine XS.aloadN X_1.here hx rfl (hb hby d31_4) rfl rfl ?_
    refine st_17 _ ?_
    exact Steps.refl _
  obtain ⟨fs, hr, hrun, hended, hW, hsame⟩ := X_15.leave (v := some (.ref i)) (fun h => by rw [Bd.returns] at h; cases h)
  refine ⟨_, _, C_18.trans (retOut X_15 hx Bd.returns rfl (Or.inr (Or.inr (Or.inr (Or.inr ⟨rfl, rfl, rfl⟩)))) (hb hby d31_8) hr), hrun, hended, _, _, rfl, ?_, ⟨_, rfl⟩, hW, hsame.mono (by decide) (by decide)⟩
  show Q_gex Z G1 sI sL sT sC sU dZ iE d i h0 n0 (some (.ref i)) T_14.heap _
  rw [e_16]
  exact ⟨rfl, N_12, rfl⟩
abbrev M662 : MethodName := ⟨"com/example/expiring_state/expiringstate/OneTimeCodes$IssueResult", "retryAfter", "()Ljava/time/Duration;"⟩
theorem d32_0 : decode prog_52_method_7_code 0 = .ok (.aload_n 0, 1) := by decide +kernel
theorem d32_1 : decode prog_52_method_7_code 1 = .ok (.getfield 21, 3) := by decide +kernel
theorem d32_4 : decode prog_52_method_7_code 4 = .ok (.areturn, 1) := by decide +kernel
abbrev R_gre : Room := { frames := 0, cells := 0, slots := 0, locals := 0 }
def Q_gre (Z : State) (G1 : Int32) (sI : Addr) (sL : Addr) (sT : Addr) (sC : Addr) (sU : Addr) (dZ : Addr) (iE : Addr) (d : Addr) (u : Addr) (h0 : Heap) (n0 : Nat) (v : Option Value) (h : Heap) (L : List Loc) : Prop := (v = some (.ref u) ∧ Fr n0 L ∧ h = h0)
set_option maxRecDepth 65536 in
set_option maxHeartbeats 40000000 in
theorem rm_gre (l : Launch) (Z : State) (a0 : Array Value) (hw : ∀ d ∈ tables_1, d.before a0 Z = true) (ws : List Jvm.Cond) (G1 : Int32) (sI : Addr) (sL : Addr) (sT : Addr) (sC : Addr) (sU : Addr) (dZ : Addr) (iE : Addr) (HG : own_G l Z a0 G1 sI sL sT sC sU dZ iE) (h0 : Heap) (n0 : Nat) (X00 : Old Z n0 h0) (d : Addr) (u : Addr) (hp0 : Fld Z h0 d "com/example/expiring_state/expiringstate/OneTimeCodes$IssueResult" "retryAfter" "Ljava/time/Duration;" (.ref u)) :
    own_CP l Z M662 prog_52_method_7_code 1 (some (.object "java/time/Duration")) ws R_gre #[(.ref d)] h0 (Q_gre Z G1 sI sL sT sC sU dZ iE d u h0 n0) := by
  refine own_P (plainFor_of_name pn_560) ?_
  intro p e s m below meth c s₁ S0 Bd hZ hh hx hby hml hown hnm X0 e0 hS0d
  obtain ⟨O1, P1, OsI, OsL, OsT, OsC, OsU, NsL, NsT, NsC, NsU, OZ, EZ, FZ1, FZ2, OE, EE, FE1, FE2⟩ := id HG
  have N0 := Fr.nil n0
  have C0 : Steps p.tables e below S0 (s₁.setTop (mkF m 0 #[.val (.ref d)] [])) := by rw [hS0d]; exact castTop (ef_529 m d) (Steps.refl _)
  obtain ⟨T_1, X_2, e_3, st_4⟩ := getF X0 hx hZ hown (host := "") (Or.inl (w98 hw)) Via.refl e0 hp0 (g := (mkF m 1 #[.val (.ref d)] [(.ref d)])) rfl rfl (hb hby d32_1)
  have C_5 : Steps p.tables e below S0 (T_1.setTop (mkF m 4 #[.val (.ref d)] [(.ref u)])) := by
    refine C0.trans ?_
    refine XS.aloadN X0.here hx rfl (hb hby d32_0) rfl rfl ?_
    refine st_4 _ ?_
    exact Steps.refl _
  obtain ⟨fs, hr, hrun, hended, hW, hsame⟩ := X_2.leave (v := some (.ref u)) (fun h => by rw [Bd.returns] at h; cases h)
  refine ⟨_, _, C_5.trans (retOut X_2 hx Bd.returns rfl (Or.inr (Or.inr (Or.inr (Or.inr ⟨rfl, rfl, rfl⟩)))) (hb hby d32_4) hr), hrun, hended, _, _, rfl, ?_, ⟨_, rfl⟩, hW, hsame.mono (by decide) (by decide)⟩
  show Q_gre Z G1 sI sL sT sC sU dZ iE d u h0 n0 (some (.ref u)) T_1.heap _
  rw [e_3]
  exact ⟨rfl, N0, rfl⟩
theorem ef_666 (m : MethodId) (x0 : Int32) (x1 : Int64) (x2 : Int32) : entryFrame m #[(.int x0), (.long x1), (.int x2)] maxLocals = mkF m 0 #[.val (.int x0), .val (.long x1), .second, .val (.int x2), .unset, .unset, .unset, .unset, .unset] [] := by first | (simp [entryFrame, mkF, argsToLocals, Value.category, maxLocals]; done) | rfl
theorem w0 {Z : State} {a0 : Array Value} (hw : ∀ d ∈ tables_1, d.before a0 Z = true) : Jvm.Cond.before (Jvm.Cond.constant "com/example/expiring_state/expiringstate/IssueResultOfPinLaw" (25 : Nat) (2147483647 : Int32)) a0 Z = true := hw _ (List.mem_of_getElem? (i := 0) rfl)
theorem w4 {Z : State} {a0 : Array Value} (hw : ∀ d ∈ tables_1, d.before a0 Z = true) : Jvm.Cond.before (Jvm.Cond.code ({ cls := "com/example/expiring_state/expiringstate/IssueResultOfPinLaw", name := "pick", desc := "(I)Lcom/example/expiring_state/expiringstate/OneTimeCodes$IssueResult$Status;" } : Jvm.MethodName) method_2_code (1 : Nat) (Option.some (Jvm.ClassFile.FieldType.object "com/example/expiring_state/expiringstate/OneTimeCodes$IssueResult$Status"))) a0 Z = true := hw _ (List.mem_of_getElem? (i := 4) rfl)
theorem w3 {Z : State} {a0 : Array Value} (hw : ∀ d ∈ tables_1, d.before a0 Z = true) : Jvm.Cond.before (Jvm.Cond.initialized "com/example/expiring_state/expiringstate/IssueResultOfPinLaw") a0 Z = true := hw _ (List.mem_of_getElem? (i := 3) rfl)
theorem pd_670 : parseMethodDescriptor "(I)Lcom/example/expiring_state/expiringstate/OneTimeCodes$IssueResult$Status;" = some ⟨[.int], some (.object "com/example/expiring_state/expiringstate/OneTimeCodes$IssueResult$Status")⟩ := by decide +kernel
theorem w1 {Z : State} {a0 : Array Value} (hw : ∀ d ∈ tables_1, d.before a0 Z = true) : Jvm.Cond.before (Jvm.Cond.methodLink "com/example/expiring_state/expiringstate/IssueResultOfPinLaw" (26 : Nat) ({ cls := "com/example/expiring_state/expiringstate/IssueResultOfPinLaw", name := "pick", desc := "(I)Lcom/example/expiring_state/expiringstate/OneTimeCodes$IssueResult$Status;" } : Jvm.MethodName)) a0 Z = true := hw _ (List.mem_of_getElem? (i := 1) rfl)
theorem w2 {Z : State} {a0 : Array Value} (hw : ∀ d ∈ tables_1, d.before a0 Z = true) : Jvm.Cond.before (Jvm.Cond.static ({ cls := "com/example/expiring_state/expiringstate/IssueResultOfPinLaw", name := "pick", desc := "(I)Lcom/example/expiring_state/expiringstate/OneTimeCodes$IssueResult$Status;" } : Jvm.MethodName)) a0 Z = true := hw _ (List.mem_of_getElem? (i := 2) rfl)
theorem w8 {Z : State} {a0 : Array Value} (hw : ∀ d ∈ tables_1, d.before a0 Z = true) : Jvm.Cond.before (Jvm.Cond.arrayClass Jvm.ClassFile.FieldType.char) a0 Z = true := hw _ (List.mem_of_getElem? (i := 8) rfl)
theorem w9 {Z : State} {a0 : Array Value} (hw : ∀ d ∈ tables_1, d.before a0 Z = true) : Jvm.Cond.before (Jvm.Cond.classLink "com/example/expiring_state/expiringstate/IssueResultOfPinLaw" (32 : Nat) "java/lang/String") a0 Z = true := hw _ (List.mem_of_getElem? (i := 9) rfl)
theorem w14 {Z : State} {a0 : Array Value} (hw : ∀ d ∈ tables_1, d.before a0 Z = true) : Jvm.Cond.before (Jvm.Cond.code ({ cls := "java/lang/String", name := "<init>", desc := "([C)V" } : Jvm.MethodName) jdk_42_method_3_code (2 : Nat) (Option.none : Option Jvm.ClassFile.FieldType)) a0 Z = true := hw _ (List.mem_of_getElem? (i := 14) rfl)
theorem pd_676 : parseMethodDescriptor "([C)V" = some ⟨[(.array .char)], none⟩ := by decide +kernel
theorem w12 {Z : State} {a0 : Array Value} (hw : ∀ d ∈ tables_1, d.before a0 Z = true) : Jvm.Cond.before (Jvm.Cond.methodLink "com/example/expiring_state/expiringstate/IssueResultOfPinLaw" (34 : Nat) ({ cls := "java/lang/String", name := "<init>", desc := "([C)V" } : Jvm.MethodName)) a0 Z = true := hw _ (List.mem_of_getElem? (i := 12) rfl)
theorem w13 {Z : State} {a0 : Array Value} (hw : ∀ d ∈ tables_1, d.before a0 Z = true) : Jvm.Cond.before (Jvm.Cond.instanceMethod ({ cls := "java/lang/String", name := "<init>", desc := "([C)V" } : Jvm.MethodName)) a0 Z = true := hw _ (List.mem_of_getElem? (i := 13) rfl)
theorem w41 {Z : State} {a0 : Array Value} (hw : ∀ d ∈ tables_1, d.before a0 Z = true) : Jvm.Cond.before (Jvm.Cond.code ({ cls := "com/example/expiring_state/expiringstate/OneTimeCodes$IssueResult", name := "of", desc := "(Lcom/example/expiring_state/expiringstate/OneTimeCodes$IssueResult$Status;JLjava/lang/String;)Lcom/example/expiring_state/expiringstate/OneTimeCodes$IssueResult;" } : Jvm.MethodName) prog_52_method_2_code (5 : Nat) (Option.some (Jvm.ClassFile.FieldType.object "com/example/expiring_state/expiringstate/OneTimeCodes$IssueResult"))) a0 Z = true := hw _ (List.mem_of_getElem? (i := 41) rfl)
theorem pd_680 : parseMethodDescriptor "(Lcom/example/expiring_state/expiringstate/OneTimeCodes$IssueResult$Status;JLjava/lang/String;)Lcom/example/expiring_state/expiringstate/OneTimeCodes$IssueResult;" = some ⟨[(.object "com/example/expiring_state/expiringstate/OneTimeCodes$IssueResult$Status"), .long, (.object "java/lang/String")], some (.object "com/example/expiring_state/expiringstate/OneTimeCodes$IssueResult")⟩ := by decide +kernel
theorem w38 {Z : State} {a0 : Array Value} (hw : ∀ d ∈ tables_1, d.before a0 Z = true) : Jvm.Cond.before (Jvm.Cond.methodLink "com/example/expiring_state/expiringstate/IssueResultOfPinLaw" (37 : Nat) ({ cls := "com/example/expiring_state/expiringstate/OneTimeCodes$IssueResult", name := "of", desc := "(Lcom/example/expiring_state/expiringstate/OneTimeCodes$IssueResult$Status;JLjava/lang/String;)Lcom/example/expiring_state/expiringstate/OneTimeCodes$IssueResult;" } : Jvm.MethodName)) a0 Z = true := hw _ (List.mem_of_getElem? (i := 38) rfl)
theorem w39 {Z : State} {a0 : Array Value} (hw : ∀ d ∈ tables_1, d.before a0 Z = true) : Jvm.Cond.before (Jvm.Cond.static ({ cls := "com/example/expiring_state/expiringstate/OneTimeCodes$IssueResult", name := "of", desc := "(Lcom/example/expiring_state/expiringstate/OneTimeCodes$IssueResult$Status;JLjava/lang/String;)Lcom/example/expiring_state/expiringstate/OneTimeCodes$IssueResult;" } : Jvm.MethodName)) a0 Z = true := hw _ (List.mem_of_getElem? (i := 39) rfl)
theorem w104 {Z : State} {a0 : Array Value} (hw : ∀ d ∈ tables_1, d.before a0 Z = true) : Jvm.Cond.before (Jvm.Cond.code ({ cls := "com/example/expiring_state/expiringstate/OneTimeCodes$IssueResult", name := "status", desc := "()Lcom/example/expiring_state/expiringstate/OneTimeCodes$IssueResult$Status;" } : Jvm.MethodName) prog_52_method_4_code (1 : Nat) (Option.some (Jvm.ClassFile.FieldType.object "com/example/expiring_state/expiringstate/OneTimeCodes$IssueResult$Status"))) a0 Z = true := hw _ (List.mem_of_getElem? (i := 104) rfl)
theorem pd_684 : parseMethodDescriptor "()Lcom/example/expiring_state/expiringstate/OneTimeCodes$IssueResult$Status;" = some ⟨[], some (.object "com/example/expiring_state/expiringstate/OneTimeCodes$IssueResult$Status")⟩ := by decide +kernel
theorem w100 {Z : State} {a0 : Array Value} (hw : ∀ d ∈ tables_1, d.before a0 Z = true) : Jvm.Cond.before (Jvm.Cond.methodLink "com/example/expiring_state/expiringstate/IssueResultOfPinLaw" (43 : Nat) ({ cls := "com/example/expiring_state/expiringstate/OneTimeCodes$IssueResult", name := "status", desc := "()Lcom/example/expiring_state/expiringstate/OneTimeCodes$IssueResult$Status;" } : Jvm.MethodName)) a0 Z = true := hw _ (List.mem_of_getElem? (i := 100) rfl)
theorem w103 {Z : State} {a0 : Array Value} (hw : ∀ d ∈ tables_1, d.before a0 Z = true) : Jvm.Cond.before (Jvm.Cond.selects "com/example/expiring_state/expiringstate/OneTimeCodes$IssueResult" ({ cls := "com/example/expiring_state/expiringstate/OneTimeCodes$IssueResult", name := "status", desc := "()Lcom/example/expiring_state/expiringstate/OneTimeCodes$IssueResult$Status;" } : Jvm.MethodName) ({ cls := "com/example/expiring_state/expiringstate/OneTimeCodes$IssueResult", name := "status", desc := "()Lcom/example/expiring_state/expiringstate/OneTimeCodes$IssueResult$Status;" } : Jvm.MethodName)) a0 Z = true := hw _ (List.mem_of_getElem? (i := 103) rfl)
theorem w102 {Z : State} {a0 : Array Value} (hw : ∀ d ∈ tables_1, d.before a0 Z = true) : Jvm.Cond.before (Jvm.Cond.instanceMethod ({ cls := "com/example/expiring_state/expiringstate/OneTimeCodes$IssueResult", name := "status", desc := "()Lcom/example/expiring_state/expiringstate/OneTimeCodes$IssueResult$Status;" } : Jvm.MethodName)) a0 Z = true := hw _ (List.mem_of_getElem? (i := 102) rfl)
theorem w101 {Z : State} {a0 : Array Value} (hw : ∀ d ∈ tables_1, d.before a0 Z = true) : Jvm.Cond.before (Jvm.Cond.declares ({ cls := "com/example/expiring_state/expiringstate/OneTimeCodes$IssueResult", name := "status", desc := "()Lcom/example/expiring_state/expiringstate/OneTimeCodes$IssueResult$Status;" } : Jvm.MethodName)) a0 Z = true := hw _ (List.mem_of_getElem? (i := 101) rfl)
theorem w110 {Z : State} {a0 : Array Value} (hw : ∀ d ∈ tables_1, d.before a0 Z = true) : Jvm.Cond.before (Jvm.Cond.code ({ cls := "com/example/expiring_state/expiringstate/Answer", name := "withoutStore", desc := "()Z" } : Jvm.MethodName) prog_1_method_3_code (1 : Nat) (Option.some Jvm.ClassFile.FieldType.boolean)) a0 Z = true := hw _ (List.mem_of_getElem? (i := 110) rfl)
theorem pd_690 : parseMethodDescriptor "()Z" = some ⟨[], some .boolean⟩ := by decide +kernel
theorem w105 {Z : State} {a0 : Array Value} (hw : ∀ d ∈ tables_1, d.before a0 Z = true) : Jvm.Cond.before (Jvm.Cond.methodLink "com/example/expiring_state/expiringstate/IssueResultOfPinLaw" (47 : Nat) ({ cls := "com/example/expiring_state/expiringstate/OneTimeCodes$IssueResult", name := "withoutStore", desc := "()Z" } : Jvm.MethodName)) a0 Z = true := hw _ (List.mem_of_getElem? (i := 105) rfl)
theorem w109 {Z : State} {a0 : Array Value} (hw : ∀ d ∈ tables_1, d.before a0 Z = true) : Jvm.Cond.before (Jvm.Cond.selects "com/example/expiring_state/expiringstate/OneTimeCodes$IssueResult" ({ cls := "com/example/expiring_state/expiringstate/OneTimeCodes$IssueResult", name := "withoutStore", desc := "()Z" } : Jvm.MethodName) ({ cls := "com/example/expiring_state/expiringstate/Answer", name := "withoutStore", desc := "()Z" } : Jvm.MethodName)) a0 Z = true := hw _ (List.mem_of_getElem? (i := 109) rfl)
theorem w108 {Z : State} {a0 : Array Value} (hw : ∀ d ∈ tables_1, d.before a0 Z = true) : Jvm.Cond.before (Jvm.Cond.instanceMethod ({ cls := "com/example/expiring_state/expiringstate/Answer", name := "withoutStore", desc := "()Z" } : Jvm.MethodName)) a0 Z = true := hw _ (List.mem_of_getElem? (i := 108) rfl)
abbrev M694 : MethodName := ⟨"com/example/expiring_state/expiringstate/OneTimeCodes$IssueResult", "withoutStore", "()Z"⟩
theorem w106 {Z : State} {a0 : Array Value} (hw : ∀ d ∈ tables_1, d.before a0 Z = true) : Jvm.Cond.before (Jvm.Cond.sameMethod "com/example/expiring_state/expiringstate/OneTimeCodes$IssueResult" "com/example/expiring_state/expiringstate/Answer" "withoutStore" "()Z") a0 Z = true := hw _ (List.mem_of_getElem? (i := 106) rfl)
theorem w107 {Z : State} {a0 : Array Value} (hw : ∀ d ∈ tables_1, d.before a0 Z = true) : Jvm.Cond.before (Jvm.Cond.declares ({ cls := "com/example/expiring_state/expiringstate/Answer", name := "withoutStore", desc := "()Z" } : Jvm.MethodName)) a0 Z = true := hw _ (List.mem_of_getElem? (i := 107) rfl)
theorem w115 {Z : State} {a0 : Array Value} (hw : ∀ d ∈ tables_1, d.before a0 Z = true) : Jvm.Cond.before (Jvm.Cond.code ({ cls := "com/example/expiring_state/expiringstate/OneTimeCodes$IssueResult", name := "code", desc := "()Ljava/lang/String;" } : Jvm.MethodName) prog_52_method_5_code (1 : Nat) (Option.some (Jvm.ClassFile.FieldType.object "java/lang/String"))) a0 Z = true := hw _ (List.mem_of_getElem? (i := 115) rfl)
theorem pd_698 : parseMethodDescriptor "()Ljava/lang/String;" = some ⟨[], some (.object "java/lang/String")⟩ := by decide +kernel
theorem w111 {Z : State} {a0 : Array Value} (hw : ∀ d ∈ tables_1, d.before a0 Z = true) : Jvm.Cond.before (Jvm.Cond.methodLink "com/example/expiring_state/expiringstate/IssueResultOfPinLaw" (51 : Nat) ({ cls := "com/example/expiring_state/expiringstate/OneTimeCodes$IssueResult", name := "code", desc := "()Ljava/lang/String;" } : Jvm.MethodName)) a0 Z = true := hw _ (List.mem_of_getElem? (i := 111) rfl)
theorem w114 {Z : State} {a0 : Array Value} (hw : ∀ d ∈ tables_1, d.before a0 Z = true) : Jvm.Cond.before (Jvm.Cond.selects "com/example/expiring_state/expiringstate/OneTimeCodes$IssueResult" ({ cls := "com/example/expiring_state/expiringstate/OneTimeCodes$IssueResult", name := "code", desc := "()Ljava/lang/String;" } : Jvm.MethodName) ({ cls := "com/example/expiring_state/expiringstate/OneTimeCodes$IssueResult", name := "code", desc := "()Ljava/lang/String;" } : Jvm.MethodName)) a0 Z = true := hw _ (List.mem_of_getElem? (i := 114) rfl)
theorem w113 {Z : State} {a0 : Array Value} (hw : ∀ d ∈ tables_1, d.before a0 Z = true) : Jvm.Cond.before (Jvm.Cond.instanceMethod ({ cls := "com/example/expiring_state/expiringstate/OneTimeCodes$IssueResult", name := "code", desc := "()Ljava/lang/String;" } : Jvm.MethodName)) a0 Z = true := hw _ (List.mem_of_getElem? (i := 113) rfl)
theorem w112 {Z : State} {a0 : Array Value} (hw : ∀ d ∈ tables_1, d.before a0 Z = true) : Jvm.Cond.before (Jvm.Cond.declares ({ cls := "com/example/expiring_state/expiringstate/OneTimeCodes$IssueResult", name := "code", desc := "()Ljava/lang/String;" } : Jvm.MethodName)) a0 Z = true := hw _ (List.mem_of_getElem? (i := 112) rfl)
theorem w124 {Z : State} {a0 : Array Value} (hw : ∀ d ∈ tables_1, d.before a0 Z = true) : Jvm.Cond.before (Jvm.Cond.code ({ cls := "java/lang/String", name := "equals", desc := "(Ljava/lang/Object;)Z" } : Jvm.MethodName) jdk_42_method_66_code (3 : Nat) (Option.some Jvm.ClassFile.FieldType.boolean)) a0 Z = true := hw _ (List.mem_of_getElem? (i := 124) rfl)
theorem pd_704 : parseMethodDescriptor "(Ljava/lang/Object;)Z" = some ⟨[(.object "java/lang/Object")], some .boolean⟩ := by decide +kernel
theorem w120 {Z : State} {a0 : Array Value} (hw : ∀ d ∈ tables_1, d.before a0 Z = true) : Jvm.Cond.before (Jvm.Cond.methodLink "com/example/expiring_state/expiringstate/IssueResultOfPinLaw" (55 : Nat) ({ cls := "java/lang/String", name := "equals", desc := "(Ljava/lang/Object;)Z" } : Jvm.MethodName)) a0 Z = true := hw _ (List.mem_of_getElem? (i := 120) rfl)
theorem w123 {Z : State} {a0 : Array Value} (hw : ∀ d ∈ tables_1, d.before a0 Z = true) : Jvm.Cond.before (Jvm.Cond.selects "java/lang/String" ({ cls := "java/lang/String", name := "equals", desc := "(Ljava/lang/Object;)Z" } : Jvm.MethodName) ({ cls := "java/lang/String", name := "equals", desc := "(Ljava/lang/Object;)Z" } : Jvm.MethodName)) a0 Z = true := hw _ (List.mem_of_getElem? (i := 123) rfl)
theorem w122 {Z : State} {a0 : Array Value} (hw : ∀ d ∈ tables_1, d.before a0 Z = true) : Jvm.Cond.before (Jvm.Cond.instanceMethod ({ cls := "java/lang/String", name := "equals", desc := "(Ljava/lang/Object;)Z" } : Jvm.MethodName)) a0 Z = true := hw _ (List.mem_of_getElem? (i := 122) rfl)
theorem w121 {Z : State} {a0 : Array Value} (hw : ∀ d ∈ tables_1, d.before a0 Z = true) : Jvm.Cond.before (Jvm.Cond.declares ({ cls := "java/lang/String", name := "equals", desc := "(Ljava/lang/Object;)Z" } : Jvm.MethodName)) a0 Z = true := hw _ (List.mem_of_getElem? (i := 121) rfl)
theorem w129 {Z : State} {a0 : Array Value} (hw : ∀ d ∈ tables_1, d.before a0 Z = true) : Jvm.Cond.before (Jvm.Cond.code ({ cls := "com/example/expiring_state/expiringstate/OneTimeCodes$IssueResult", name := "expiresAt", desc := "()Ljava/time/Instant;" } : Jvm.MethodName) prog_52_method_6_code (1 : Nat) (Option.some (Jvm.ClassFile.FieldType.object "java/time/Instant"))) a0 Z = true := hw _ (List.mem_of_getElem? (i := 129) rfl)
theorem pd_710 : parseMethodDescriptor "()Ljava/time/Instant;" = some ⟨[], some (.object "java/time/Instant")⟩ := by decide +kernel
theorem w125 {Z : State} {a0 : Array Value} (hw : ∀ d ∈ tables_1, d.before a0 Z = true) : Jvm.Cond.before (Jvm.Cond.methodLink "com/example/expiring_state/expiringstate/IssueResultOfPinLaw" (59 : Nat) ({ cls := "com/example/expiring_state/expiringstate/OneTimeCodes$IssueResult", name := "expiresAt", desc := "()Ljava/time/Instant;" } : Jvm.MethodName)) a0 Z = true := hw _ (List.mem_of_getElem? (i := 125) rfl)
theorem w128 {Z : State} {a0 : Array Value} (hw : ∀ d ∈ tables_1, d.before a0 Z = true) : Jvm.Cond.before (Jvm.Cond.selects "com/example/expiring_state/expiringstate/OneTimeCodes$IssueResult" ({ cls := "com/example/expiring_state/expiringstate/OneTimeCodes$IssueResult", name := "expiresAt", desc := "()Ljava/time/Instant;" } : Jvm.MethodName) ({ cls := "com/example/expiring_state/expiringstate/OneTimeCodes$IssueResult", name := "expiresAt", desc := "()Ljava/time/Instant;" } : Jvm.MethodName)) a0 Z = true := hw _ (List.mem_of_getElem? (i := 128) rfl)
theorem w127 {Z : State} {a0 : Array Value} (hw : ∀ d ∈ tables_1, d.before a0 Z = true) : Jvm.Cond.before (Jvm.Cond.instanceMethod ({ cls := "com/example/expiring_state/expiringstate/OneTimeCodes$IssueResult", name := "expiresAt", desc := "()Ljava/time/Instant;" } : Jvm.MethodName)) a0 Z = true := hw _ (List.mem_of_getElem? (i := 127) rfl)
theorem w126 {Z : State} {a0 : Array Value} (hw : ∀ d ∈ tables_1, d.before a0 Z = true) : Jvm.Cond.before (Jvm.Cond.declares ({ cls := "com/example/expiring_state/expiringstate/OneTimeCodes$IssueResult", name := "expiresAt", desc := "()Ljava/time/Instant;" } : Jvm.MethodName)) a0 Z = true := hw _ (List.mem_of_getElem? (i := 126) rfl)
theorem w134 {Z : State} {a0 : Array Value} (hw : ∀ d ∈ tables_1, d.before a0 Z = true) : Jvm.Cond.before (Jvm.Cond.code ({ cls := "java/time/Instant", name := "toEpochMilli", desc := "()J" } : Jvm.MethodName) jdk_2320_method_40_code (5 : Nat) (Option.some Jvm.ClassFile.FieldType.long)) a0 Z = true := hw _ (List.mem_of_getElem? (i := 134) rfl)
theorem pd_716 : parseMethodDescriptor "()J" = some ⟨[], some .long⟩ := by decide +kernel
theorem w130 {Z : State} {a0 : Array Value} (hw : ∀ d ∈ tables_1, d.before a0 Z = true) : Jvm.Cond.before (Jvm.Cond.methodLink "com/example/expiring_state/expiringstate/IssueResultOfPinLaw" (63 : Nat) ({ cls := "java/time/Instant", name := "toEpochMilli", desc := "()J" } : Jvm.MethodName)) a0 Z = true := hw _ (List.mem_of_getElem? (i := 130) rfl)
theorem w133 {Z : State} {a0 : Array Value} (hw : ∀ d ∈ tables_1, d.before a0 Z = true) : Jvm.Cond.before (Jvm.Cond.selects "java/time/Instant" ({ cls := "java/time/Instant", name := "toEpochMilli", desc := "()J" } : Jvm.MethodName) ({ cls := "java/time/Instant", name := "toEpochMilli", desc := "()J" } : Jvm.MethodName)) a0 Z = true := hw _ (List.mem_of_getElem? (i := 133) rfl)
theorem w132 {Z : State} {a0 : Array Value} (hw : ∀ d ∈ tables_1, d.before a0 Z = true) : Jvm.Cond.before (Jvm.Cond.instanceMethod ({ cls := "java/time/Instant", name := "toEpochMilli", desc := "()J" } : Jvm.MethodName)) a0 Z = true := hw _ (List.mem_of_getElem? (i := 132) rfl)
theorem w131 {Z : State} {a0 : Array Value} (hw : ∀ d ∈ tables_1, d.before a0 Z = true) : Jvm.Cond.before (Jvm.Cond.declares ({ cls := "java/time/Instant", name := "toEpochMilli", desc := "()J" } : Jvm.MethodName)) a0 Z = true := hw _ (List.mem_of_getElem? (i := 131) rfl)
theorem w151 {Z : State} {a0 : Array Value} (hw : ∀ d ∈ tables_1, d.before a0 Z = true) : Jvm.Cond.before (Jvm.Cond.code ({ cls := "com/example/expiring_state/expiringstate/OneTimeCodes$IssueResult", name := "retryAfter", desc := "()Ljava/time/Duration;" } : Jvm.MethodName) prog_52_method_7_code (1 : Nat) (Option.some (Jvm.ClassFile.FieldType.object "java/time/Duration"))) a0 Z = true := hw _ (List.mem_of_getElem? (i := 151) rfl)
theorem pd_722 : parseMethodDescriptor "()Ljava/time/Duration;" = some ⟨[], some (.object "java/time/Duration")⟩ := by decide +kernel
theorem w147 {Z : State} {a0 : Array Value} (hw : ∀ d ∈ tables_1, d.before a0 Z = true) : Jvm.Cond.before (Jvm.Cond.methodLink "com/example/expiring_state/expiringstate/IssueResultOfPinLaw" (69 : Nat) ({ cls := "com/example/expiring_state/expiringstate/OneTimeCodes$IssueResult", name := "retryAfter", desc := "()Ljava/time/Duration;" } : Jvm.MethodName)) a0 Z = true := hw _ (List.mem_of_getElem? (i := 147) rfl)
theorem w150 {Z : State} {a0 : Array Value} (hw : ∀ d ∈ tables_1, d.before a0 Z = true) : Jvm.Cond.before (Jvm.Cond.selects "com/example/expiring_state/expiringstate/OneTimeCodes$IssueResult" ({ cls := "com/example/expiring_state/expiringstate/OneTimeCodes$IssueResult", name := "retryAfter", desc := "()Ljava/time/Duration;" } : Jvm.MethodName) ({ cls := "com/example/expiring_state/expiringstate/OneTimeCodes$IssueResult", name := "retryAfter", desc := "()Ljava/time/Duration;" } : Jvm.MethodName)) a0 Z = true := hw _ (List.mem_of_getElem? (i := 150) rfl)
theorem w149 {Z : State} {a0 : Array Value} (hw : ∀ d ∈ tables_1, d.before a0 Z = true) : Jvm.Cond.before (Jvm.Cond.instanceMethod ({ cls := "com/example/expiring_state/expiringstate/OneTimeCodes$IssueResult", name := "retryAfter", desc := "()Ljava/time/Duration;" } : Jvm.MethodName)) a0 Z = true := hw _ (List.mem_of_getElem? (i := 149) rfl)
theorem w148 {Z : State} {a0 : Array Value} (hw : ∀ d ∈ tables_1, d.before a0 Z = true) : Jvm.Cond.before (Jvm.Cond.declares ({ cls := "com/example/expiring_state/expiringstate/OneTimeCodes$IssueResult", name := "retryAfter", desc := "()Ljava/time/Duration;" } : Jvm.MethodName)) a0 Z = true := hw _ (List.mem_of_getElem? (i := 148) rfl)
theorem w156 {Z : State} {a0 : Array Value} (hw : ∀ d ∈ tables_1, d.before a0 Z = true) : Jvm.Cond.before (Jvm.Cond.code ({ cls := "java/time/Duration", name := "isZero", desc := "()Z" } : Jvm.MethodName) jdk_2316_method_21_code (1 : Nat) (Option.some Jvm.ClassFile.FieldType.boolean)) a0 Z = true := hw _ (List.mem_of_getElem? (i := 156) rfl)
theorem w152 {Z : State} {a0 : Array Value} (hw : ∀ d ∈ tables_1, d.before a0 Z = true) : Jvm.Cond.before (Jvm.Cond.methodLink "com/example/expiring_state/expiringstate/IssueResultOfPinLaw" (73 : Nat) ({ cls := "java/time/Duration", name := "isZero", desc := "()Z" } : Jvm.MethodName)) a0 Z = true := hw _ (List.mem_of_getElem? (i := 152) rfl)
theorem w155 {Z : State} {a0 : Array Value} (hw : ∀ d ∈ tables_1, d.before a0 Z = true) : Jvm.Cond.before (Jvm.Cond.selects "java/time/Duration" ({ cls := "java/time/Duration", name := "isZero", desc := "()Z" } : Jvm.MethodName) ({ cls := "java/time/Duration", name := "isZero", desc := "()Z" } : Jvm.MethodName)) a0 Z = true := hw _ (List.mem_of_getElem? (i := 155) rfl)
theorem w154 {Z : State} {a0 : Array Value} (hw : ∀ d ∈ tables_1, d.before a0 Z = true) : Jvm.Cond.before (Jvm.Cond.instanceMethod ({ cls := "java/time/Duration", name := "isZero", desc := "()Z" } : Jvm.MethodName)) a0 Z = true := hw _ (List.mem_of_getElem? (i := 154) rfl)
theorem w153 {Z : State} {a0 : Array Value} (hw : ∀ d ∈ tables_1, d.before a0 Z = true) : Jvm.Cond.before (Jvm.Cond.declares ({ cls := "java/time/Duration", name := "isZero", desc := "()Z" } : Jvm.MethodName)) a0 Z = true := hw _ (List.mem_of_getElem? (i := 153) rfl)
theorem w182 {Z : State} {a0 : Array Value} (hw : ∀ d ∈ tables_1, d.before a0 Z = true) : Jvm.Cond.before (Jvm.Cond.code ({ cls := "java/time/Duration", name := "toMillis", desc := "()J" } : Jvm.MethodName) jdk_2316_method_57_code (7 : Nat) (Option.some Jvm.ClassFile.FieldType.long)) a0 Z = true := hw _ (List.mem_of_getElem? (i := 182) rfl)
theorem w178 {Z : State} {a0 : Array Value} (hw : ∀ d ∈ tables_1, d.before a0 Z = true) : Jvm.Cond.before (Jvm.Cond.methodLink "com/example/expiring_state/expiringstate/IssueResultOfPinLaw" (78 : Nat) ({ cls := "java/time/Duration", name := "toMillis", desc := "()J" } : Jvm.MethodName)) a0 Z = true := hw _ (List.mem_of_getElem? (i := 178) rfl)
theorem w181 {Z : State} {a0 : Array Value} (hw : ∀ d ∈ tables_1, d.before a0 Z = true) : Jvm.Cond.before (Jvm.Cond.selects "java/time/Duration" ({ cls := "java/time/Duration", name := "toMillis", desc := "()J" } : Jvm.MethodName) ({ cls := "java/time/Duration", name := "toMillis", desc := "()J" } : Jvm.MethodName)) a0 Z = true := hw _ (List.mem_of_getElem? (i := 181) rfl)
theorem w180 {Z : State} {a0 : Array Value} (hw : ∀ d ∈ tables_1, d.before a0 Z = true) : Jvm.Cond.before (Jvm.Cond.instanceMethod ({ cls := "java/time/Duration", name := "toMillis", desc := "()J" } : Jvm.MethodName)) a0 Z = true := hw _ (List.mem_of_getElem? (i := 180) rfl)
theorem w179 {Z : State} {a0 : Array Value} (hw : ∀ d ∈ tables_1, d.before a0 Z = true) : Jvm.Cond.before (Jvm.Cond.declares ({ cls := "java/time/Duration", name := "toMillis", desc := "()J" } : Jvm.MethodName)) a0 Z = true := hw _ (List.mem_of_getElem? (i := 179) rfl)
def Q_law (Z : State) (G1 : Int32) (sI : Addr) (sL : Addr) (sT : Addr) (sC : Addr) (sU : Addr) (dZ : Addr) (iE : Addr) (p0 : Int32) (p1 : Int64) (p2 : Int32) (h0 : Heap) (n0 : Nat) (v : Option Value) (h : Heap) (L : List Loc) : Prop := (v = some (.int (1 : Int32)) ∧ Fr n0 L ∧ Keep h0 h [])
set_option maxRecDepth 65536 in
set_option maxHeartbeats 40000000 in
theorem rm_law (l : Launch) (Z : State) (a0 : Array Value) (hw : ∀ d ∈ tables_1, d.before a0 Z = true) (ws : List Jvm.Cond) (G1 : Int32) (sI : Addr) (sL : Addr) (sT : Addr) (sC : Addr) (sU : Addr) (dZ : Addr) (iE : Addr) (HG : own_G l Z a0 G1 sI sL sT sC sU dZ iE) (h0 : Heap) (n0 : Nat) (X00 : Old Z n0 h0) (p0 : Int32) (p1 : Int64) (p2 : Int32)  :
    own_CP l Z x code maxLocals ret ws room_1 #[(.int p0), (.long p1), (.int p2)] h0 (Q_law Z G1 sI sL sT sC sU dZ iE p0 p1 p2 h0 n0) := by
  refine own_P (plainFor_of_name pn_123) ?_
  intro p e s m below meth c s₁ S0 Bd hZ hh hx hby hml hown hnm X0 e0 hS0d
  obtain ⟨O1, P1, OsI, OsL, OsT, OsC, OsU, NsL, NsT, NsC, NsU, OZ, EZ, FZ1, FZ2, OE, EE, FE1, FE2⟩ := id HG
  have N0 := Fr.nil n0
  have C0 : Steps p.tables e below S0 (s₁.setTop (mkF m 0 #[.val (.int p0), .val (.long p1), .second, .val (.int p2), .unset, .unset, .unset, .unset, .unset] [])) := by rw [hS0d]; exact castTop (ef_666 m p0 p1 p2) (Steps.refl _)
  have C_1 : Steps p.tables e below S0 (s₁.setTop (mkF m 6 #[.val (.int p0), .val (.long p1), .second, .val (.int p2), .unset, .unset, .unset, .unset, .unset] [(.int ((p0 &&& (2147483647 : Int32)) % (5 : Int32)))])) := by
    refine C0.trans ?_
    refine XS.iloadN X0.here hx rfl (hb hby at_0) rfl ?_
    refine X0.ldcI hx hown (mvT hZ (w0 hw)) rfl (hb hby at_1) ?_
    refine XS.iand X0.here hx rfl (hb hby at_3) rfl ?_
    refine XS.iconst X0.here hx rfl (hb hby at_4) ?_
    refine iremM X0 hx rfl (hb hby at_5) rfl (by decide) ?_
    exact Steps.refl _
  rcases own_mod5 p0 with hn_2 | hn_3 | hn_4 | hn_5 | hn_6
  · skip
    have C_7 : Steps p.tables e below S0 (s₁.setTop (mkF m 6 #[.val (.int p0), .val (.long p1), .second, .val (.int p2), .unset, .unset, .unset, .unset, .unset] [(.int (0 : Int32))])) := by have q := C_1; rw [hn_2] at q; exact q
    obtain ⟨_, _, ⟨T_8, L_8, k_8, n_8⟩, -, X_8, ⟨Lc_8, hQ_8, l_8, y_8, z_8⟩, st_8⟩ := Jvm.LawKit.callS X0 hx (y := M121) hown (mvT hZ (w1 hw)) (mvT hZ (w2 hw)) (mvT hZ (w3 hw)) (mvT hZ (w4 hw)) (by decide) (backOf (W := 0) (rm_pick_0 l Z a0 hw [] G1 sI sL sT sC sU dZ iE HG h0 n0 X00  ) hZ (w4 hw) (w3 hw) (by decide) (by decide)) (g := (mkF m 10 #[.val (.int p0), .val (.long p1), .second, .val (.int p2), .val (.int (0 : Int32)), .unset, .unset, .unset, .unset] [(.int (0 : Int32))])) rfl (by rw [hml]; rfl) (argsL := [(.int (0 : Int32))]) (rest := []) (lenOf pd_670 rfl) rfl (by show 2 * 0 + _ ≤ _; exact Nat.le_of_eq rfl) (hb hby at_10) (fun _ _ => ⟨rfl, e0, (by decide : 0 + 0 ≤ _), (by decide : 0 + 0 ≤ _)⟩)
    dsimp only [Pt.U, Pt.locs, Pt.cells, Pt.slots] at X_8 l_8 y_8 z_8 st_8 hQ_8
    subst l_8 y_8 z_8
    obtain ⟨rfl, N_9, e_10⟩ := hQ_8
    have N_11 := Fr.app N0 N_9
    have e_12 : T_8.heap = h0 := e_10
    obtain ⟨T_13, h_14, k_15, X_16, e_17, E_18, A_19, st_20⟩ := newP (aty := .char) X_8 hx hZ (w8 hw) e_12 (g := (mkF m 16 #[.val (.int p0), .val (.long p1), .second, .val (.int p2), .val (.int (0 : Int32)), .val (.ref sI), .unset, .unset, .unset] [(.int (4 : Int32))])) rfl (hb hby at_16) rfl (by decide : ¬ ((4 : Int32) < (0 : Int32))) (cap := 4) (by decide : (4 : Int32).toNatClampNeg ≤ 4) (by decide) (by decide) (by decide)
    obtain ⟨a_21, g_22⟩ : ∃ z, z = h0.size := ⟨_, rfl⟩
    rw [← g_22] at A_19 st_20
    have V_24 : Arv Z h_14 a_21 k_15 .char (4 : Int32) [] (.int (0 : Int32)) := Arv.new A_19 (by decide : ¬ ((4 : Int32) < (0 : Int32)))
    have V_23 : Arv Z h_14 a_21 k_15 .char (4 : Int32) [(.int (0 : Int32)), (.int (0 : Int32)), (.int (0 : Int32)), (.int (0 : Int32))] (.int (0 : Int32)) := (V_24.pad (pad_rep [] (.int (0 : Int32)) 4))
    obtain ⟨c_25, A_26, q_27, S_28, M_29, H_30, U_31⟩ := id V_23
    have hin_38 : ¬ ((0 : Int32) < 0 ∨ c_25.slots.size ≤ (0 : Int32).toNatClampNeg) := inb_of S_28 ⟨(by decide : ¬ ((0 : Int32) < (0 : Int32))), (by decide : (0 : Int32) < (4 : Int32))⟩
    obtain ⟨T_32, h_33, X_34, e_35, W_36, st_37⟩ := stC X_16 hx hZ e_17 A_26 (j := (0 : Int32)) hin_38 (g := (mkF m 29 #[.val (.int p0), .val (.long p1), .second, .val (.int p2), .val (.int (0 : Int32)), .val (.ref sI), .val (.ref a_21), .unset, .unset] [(.int (own_cb p2)), (.int (0 : Int32)), (.ref a_21)])) rfl rfl (hb hby at_29)
    have N_39 := Fr.snoc X_34 N_11 (Nat.le_trans (own_n0 X00) (Nat.le_of_eq g_22.symm))
    have V_40 : Arv Z h_33 a_21 k_15 .char (4 : Int32) [(.int (own_cb p2)), (.int (0 : Int32)), (.int (0 : Int32)), (.int (0 : Int32))] (.int (0 : Int32)) := by have q := Arv.set A_26 q_27 S_28 M_29 H_30 U_31 (fits_nar_char _) W_36 0 rfl (Nat.le_of_ble_eq_true rfl); rw [own_cb_nar] at q; exact q
    obtain ⟨c_41, A_42, q_43, S_44, M_45, H_46, U_47⟩ := id V_40
    have hin_54 : ¬ ((1 : Int32) < 0 ∨ c_41.slots.size ≤ (1 : Int32).toNatClampNeg) := inb_of S_44 ⟨(by decide : ¬ ((1 : Int32) < (0 : Int32))), (by decide : (1 : Int32) < (4 : Int32))⟩
    obtain ⟨T_48, h_49, X_50, e_51, W_52, st_53⟩ := stC X_34 hx hZ e_35 A_42 (j := (1 : Int32)) hin_54 (g := (mkF m 42 #[.val (.int p0), .val (.long p1), .second, .val (.int p2), .val (.int (0 : Int32)), .val (.ref sI), .val (.ref a_21), .unset, .unset] [(.int (own_cb (own_u8 p2))), (.int (1 : Int32)), (.ref a_21)])) rfl rfl (hb hby at_42)
    have N_55 := Fr.snoc X_50 N_39 (Nat.le_trans (own_n0 X00) (Nat.le_of_eq g_22.symm))
    have V_56 : Arv Z h_49 a_21 k_15 .char (4 : Int32) [(.int (own_cb p2)), (.int (own_cb (own_u8 p2))), (.int (0 : Int32)), (.int (0 : Int32))] (.int (0 : Int32)) := by have q := Arv.set A_42 q_43 S_44 M_45 H_46 U_47 (fits_nar_char _) W_52 1 rfl (Nat.le_of_ble_eq_true rfl); rw [own_cb_nar] at q; exact q
    obtain ⟨c_57, A_58, q_59, S_60, M_61, H_62, U_63⟩ := id V_56
    have hin_70 : ¬ ((2 : Int32) < 0 ∨ c_57.slots.size ≤ (2 : Int32).toNatClampNeg) := inb_of S_60 ⟨(by decide : ¬ ((2 : Int32) < (0 : Int32))), (by decide : (2 : Int32) < (4 : Int32))⟩
    obtain ⟨T_64, h_65, X_66, e_67, W_68, st_69⟩ := stC X_50 hx hZ e_51 A_58 (j := (2 : Int32)) hin_70 (g := (mkF m 55 #[.val (.int p0), .val (.long p1), .second, .val (.int p2), .val (.int (0 : Int32)), .val (.ref sI), .val (.ref a_21), .unset, .unset] [(.int (own_cb (own_u16 p2))), (.int (2 : Int32)), (.ref a_21)])) rfl rfl (hb hby at_55)
    have N_71 := Fr.snoc X_66 N_55 (Nat.le_trans (own_n0 X00) (Nat.le_of_eq g_22.symm))
    have V_72 : Arv Z h_65 a_21 k_15 .char (4 : Int32) [(.int (own_cb p2)), (.int (own_cb (own_u8 p2))), (.int (own_cb (own_u16 p2))), (.int (0 : Int32))] (.int (0 : Int32)) := by have q := Arv.set A_58 q_59 S_60 M_61 H_62 U_63 (fits_nar_char _) W_68 2 rfl (Nat.le_of_ble_eq_true rfl); rw [own_cb_nar] at q; exact q
    obtain ⟨c_73, A_74, q_75, S_76, M_77, H_78, U_79⟩ := id V_72
    have hin_86 : ¬ ((3 : Int32) < 0 ∨ c_73.slots.size ≤ (3 : Int32).toNatClampNeg) := inb_of S_76 ⟨(by decide : ¬ ((3 : Int32) < (0 : Int32))), (by decide : (3 : Int32) < (4 : Int32))⟩
    obtain ⟨T_80, h_81, X_82, e_83, W_84, st_85⟩ := stC X_66 hx hZ e_67 A_74 (j := (3 : Int32)) hin_86 (g := (mkF m 68 #[.val (.int p0), .val (.long p1), .second, .val (.int p2), .val (.int (0 : Int32)), .val (.ref sI), .val (.ref a_21), .unset, .unset] [(.int (own_cb (own_u24 p2))), (.int (3 : Int32)), (.ref a_21)])) rfl rfl (hb hby at_68)
    have N_87 := Fr.snoc X_82 N_71 (Nat.le_trans (own_n0 X00) (Nat.le_of_eq g_22.symm))
    have V_88 : Arv Z h_81 a_21 k_15 .char (4 : Int32) [(.int (own_cb p2)), (.int (own_cb (own_u8 p2))), (.int (own_cb (own_u16 p2))), (.int (own_cb (own_u24 p2)))] (.int (0 : Int32)) := by have q := Arv.set A_74 q_75 S_76 M_77 H_78 U_79 (fits_nar_char _) W_84 3 rfl (Nat.le_of_ble_eq_true rfl); rw [own_cb_nar] at q; exact q
    obtain ⟨T_89, h_90, X_91, e_92, E_93, A_94, D_95, U_99, st_96⟩ := newO X_82 hx hZ hown (w9 hw) (w10 hw) (w11 hw) e_83 (g := (mkF m 69 #[.val (.int p0), .val (.long p1), .second, .val (.int p2), .val (.int (0 : Int32)), .val (.ref sI), .val (.ref a_21), .unset, .unset] [])) rfl (hb hby at_69) (by decide) (by decide)
    obtain ⟨a_97, g_98⟩ : ∃ z, z = h_81.size := ⟨_, rfl⟩
    rw [← g_98] at A_94 D_95 st_96 U_99
    have O_100 : Old Z n0 h_81 := (((((X00.ext E_18).wr W_36 (Nat.le_trans (own_n0 X00) (Nat.le_of_eq g_22.symm))).wr W_52 (Nat.le_trans (own_n0 X00) (Nat.le_of_eq g_22.symm))).wr W_68 (Nat.le_trans (own_n0 X00) (Nat.le_of_eq g_22.symm))).wr W_84 (Nat.le_trans (own_n0 X00) (Nat.le_of_eq g_22.symm)))
    have V_101 : Arv Z h_90 a_21 k_15 .char (4 : Int32) [(.int (own_cb p2)), (.int (own_cb (own_u8 p2))), (.int (own_cb (own_u16 p2))), (.int (own_cb (own_u24 p2)))] (.int (0 : Int32)) := (V_88.ext E_93)
    have O_102 : Old Z n0 h_90 := (O_100.ext E_93)
    obtain ⟨_, _, ⟨T_103, L_103, k_103, n_103⟩, -, X_103, ⟨Lc_103, hQ_103, l_103, y_103, z_103⟩, st_103⟩ := X_91.specialBack hx (y := M99) rfl hown (mvT hZ (w12 hw)) (mvT hZ (w13 hw)) (mvT hZ (w14 hw)) (by decide) (backOf (W := 1) (rm_si1_4 l Z a0 hw [] G1 sI sL sT sC sU dZ iE HG h_90 n0 O_102 a_97 a_21 k_15 (own_cb p2) (own_cb (own_u8 p2)) (own_cb (own_u16 p2)) (own_cb (own_u24 p2)) A_94 (D_95 (Or.inr (w37 hw)) (ty := (.array .byte)) (by decide)) (D_95 (Or.inr (w35 hw)) (ty := .byte) (by decide)) (Nat.le_trans (own_n0 O_100) (Nat.le_of_eq g_98.symm)) V_101 (own_cb_hi p2) (own_cb_hi (own_u8 p2)) (own_cb_hi (own_u16 p2)) (own_cb_hi (own_u24 p2))) hZ (w14 hw) (w11 hw) (by decide) (by decide)) (g := (mkF m 75 #[.val (.int p0), .val (.long p1), .second, .val (.int p2), .val (.int (0 : Int32)), .val (.ref sI), .val (.ref a_21), .unset, .unset] [(.ref a_21), (.ref a_97), (.ref a_97)])) rfl (by rw [hml]; rfl) (Steps.refl _) (a := a_97) (argsL := [(.ref a_21)]) (rest := [(.ref a_97)]) (lenOf pd_676 rfl) rfl (by show 2 * 0 + _ ≤ _; exact Nat.le_of_eq rfl) (hb hby at_75) (fun _ _ => ⟨rfl, e_92, (by decide : 2 + 1 ≤ _), (by decide : 8 + 4 ≤ _)⟩)
    dsimp only [Pt.U, Pt.locs, Pt.cells, Pt.slots] at X_103 l_103 y_103 z_103 st_103 hQ_103
    subst l_103 y_103 z_103
    obtain ⟨a_104, k_105, rfl, N_106, K_107, g_108, g_109, g_110, g_111, g_112⟩ := hQ_103
    have N_113 := Fr.app N_87 N_106
    have O_114 : Old Z n0 T_103.heap := (O_102.keep K_107 (allS (Nat.le_trans (own_n0 O_100) (Nat.le_of_eq g_98.symm)) all0))
    obtain ⟨_, _, ⟨T_115, L_115, k_115, n_115⟩, -, X_115, ⟨Lc_115, hQ_115, l_115, y_115, z_115⟩, st_115⟩ := Jvm.LawKit.callS X_103 hx (y := M587) hown (mvT hZ (w38 hw)) (mvT hZ (w39 hw)) (mvT hZ (w40 hw)) (mvT hZ (w41 hw)) (by decide) (backOf (W := 0) (rm_ofI l Z a0 hw [] G1 sI sL sT sC sU dZ iE HG T_103.heap n0 O_114 p1 a_97 ) hZ (w41 hw) (w40 hw) (by decide) (by decide)) (g := (mkF m 85 #[.val (.int p0), .val (.long p1), .second, .val (.int p2), .val (.int (0 : Int32)), .val (.ref sI), .val (.ref a_21), .val (.ref a_97), .unset] [(.ref a_97), (.long p1), (.ref sI)])) rfl (by rw [hml]; rfl) (argsL := [(.ref sI), (.long p1), (.ref a_97)]) (rest := []) (lenOf pd_680 rfl) rfl (by show 2 * 0 + _ ≤ _; exact Nat.le_of_eq rfl) (hb hby at_85) (fun _ _ => ⟨rfl, rfl, (by decide : 3 + 2 ≤ _), (by decide : 12 + 7 ≤ _)⟩)
    dsimp only [Pt.U, Pt.locs, Pt.cells, Pt.slots] at X_115 l_115 y_115 z_115 st_115 hQ_115
    subst l_115 y_115 z_115
    obtain ⟨a_116, a_117, j_118, i_119, rfl, N_120, K_121, g_122, g_123, g_124, g_125, g_126, g_127, g_128, g_129, g_130, g_131, g_132, g_133⟩ := hQ_115
    have N_134 := Fr.app N_113 N_120
    have O_135 : Old Z n0 T_115.heap := (O_114.keep K_121 all0)
    obtain ⟨q_137, q_138, q_139, q_140, q_141⟩ := isOf (T := T_115) hZ rfl g_123
    obtain ⟨_, _, ⟨T_136, L_136, k_136, n_136⟩, -, X_136, ⟨Lc_136, hQ_136, l_136, y_136, z_136⟩, st_136⟩ := X_115.virtualBack hx (y := M631) (z := M631) hown (mvT hZ (w100 hw)) (mvT hZ (w101 hw)) (notFace_of_selects (args := #[]) (mvT hZ (w103 hw))) (mvT hZ (w103 hw)) (mvT hZ (w102 hw)) (by decide) (backOf (W := 0) (rm_gst l Z a0 hw [] G1 sI sL sT sC sU dZ iE HG T_115.heap n0 O_135 a_116 sI g_125) hZ (w104 hw) (w40 hw) (by decide) (by decide)) q_139 q_141 (g := (mkF m 92 #[.val (.int p0), .val (.long p1), .second, .val (.int p2), .val (.int (0 : Int32)), .val (.ref sI), .val (.ref a_21), .val (.ref a_97), .val (.ref a_116)] [(.ref a_116)])) rfl (by rw [hml]; rfl) (Steps.refl _) (argsL := []) (rest := []) (lenOf pd_684 rfl) rfl (by show 2 * 0 + _ ≤ _; exact Nat.le_of_eq rfl) (hb hby at_92) (fun _ _ => ⟨rfl, rfl, (by decide : 5 + 0 ≤ _), (by decide : 19 + 0 ≤ _)⟩)
    dsimp only [Pt.U, Pt.locs, Pt.cells, Pt.slots] at X_136 l_136 y_136 z_136 st_136 hQ_136
    subst l_136 y_136 z_136
    obtain ⟨rfl, N_142, e_143⟩ := hQ_136
    have N_144 := Fr.app N_134 N_142
    have e_145 : T_136.heap = T_115.heap := e_143
    obtain ⟨q_147, q_148, q_149, q_150, q_151⟩ := isOf (T := T_136) hZ e_145 g_123
    obtain ⟨_, _, ⟨T_146, L_146, k_146, n_146⟩, -, X_146, ⟨Lc_146, hQ_146, l_146, y_146, z_146⟩, st_146⟩ := X_136.virtualBackUp hx (owner := "com/example/expiring_state/expiringstate/Answer") (x := M694) (y := M635) hown (mvT hZ (w105 hw)) (mvT hZ (w106 hw)) (mvT hZ (w107 hw)) (by decide) (mvT hZ (w109 hw)) (mvT hZ (w108 hw)) (backOf (W := 0) (rm_gws l Z a0 hw [] G1 sI sL sT sC sU dZ iE HG T_115.heap n0 O_135 a_116 g_124) hZ (w110 hw) (w87 hw) (by decide) (by decide)) q_149 q_151 (g := (mkF m 104 #[.val (.int p0), .val (.long p1), .second, .val (.int p2), .val (.int (0 : Int32)), .val (.ref sI), .val (.ref a_21), .val (.ref a_97), .val (.ref a_116)] [(.ref a_116)])) rfl (by rw [hml]; rfl) (Steps.refl _) (argsL := []) (rest := []) (lenOf pd_690 rfl) rfl (by show 2 * 0 + _ ≤ _; exact Nat.le_of_eq rfl) (hb hby at_104) (fun _ _ => ⟨rfl, e_145, (by decide : 5 + 0 ≤ _), (by decide : 19 + 0 ≤ _)⟩)
    dsimp only [Pt.U, Pt.locs, Pt.cells, Pt.slots] at X_146 l_146 y_146 z_146 st_146 hQ_146
    subst l_146 y_146 z_146
    obtain ⟨rfl, N_152, e_153⟩ := hQ_146
    have N_154 := Fr.app N_144 N_152
    have e_155 : T_146.heap = T_115.heap := e_153
    obtain ⟨T_156, X_157, e_158, st_159⟩ := getS X_146 hx hZ (host := "") hown (w5 hw) Via.refl e_155 (OsI.ext O_135.2) (g := (mkF m 114 #[.val (.int p0), .val (.long p1), .second, .val (.int p2), .val (.int (0 : Int32)), .val (.ref sI), .val (.ref a_21), .val (.ref a_97), .val (.ref a_116)] [(.ref sI)])) rfl (hb hby at_114)
    obtain ⟨q_161, q_162, q_163, q_164, q_165⟩ := isOf (T := T_156) hZ e_158 g_123
    obtain ⟨_, _, ⟨T_160, L_160, k_160, n_160⟩, -, X_160, ⟨Lc_160, hQ_160, l_160, y_160, z_160⟩, st_160⟩ := X_157.virtualBack hx (y := M645) (z := M645) hown (mvT hZ (w111 hw)) (mvT hZ (w112 hw)) (notFace_of_selects (args := #[]) (mvT hZ (w114 hw))) (mvT hZ (w114 hw)) (mvT hZ (w113 hw)) (by decide) (backOf (W := 1) (rm_gco l Z a0 hw [] G1 sI sL sT sC sU dZ iE HG T_115.heap n0 O_135 a_116 a_97 g_123 g_125 g_126) hZ (w115 hw) (w40 hw) (by decide) (by decide)) q_163 q_165 (g := (mkF m 124 #[.val (.int p0), .val (.long p1), .second, .val (.int p2), .val (.int (0 : Int32)), .val (.ref sI), .val (.ref a_21), .val (.ref a_97), .val (.ref a_116)] [(.ref a_116), (.ref a_97)])) rfl (by rw [hml]; rfl) (Steps.refl _) (argsL := []) (rest := [(.ref a_97)]) (lenOf pd_698 rfl) rfl (by show 2 * 0 + _ ≤ _; exact Nat.le_of_eq rfl) (hb hby at_124) (fun _ _ => ⟨rfl, e_158, (by decide : 5 + 0 ≤ _), (by decide : 19 + 0 ≤ _)⟩)
    dsimp only [Pt.U, Pt.locs, Pt.cells, Pt.slots] at X_160 l_160 y_160 z_160 st_160 hQ_160
    subst l_160 y_160 z_160
    obtain ⟨rfl, N_166, e_167⟩ := hQ_160
    have N_168 := Fr.app N_154 N_166
    have e_169 : T_160.heap = T_115.heap := e_167
    have E_176 : Exa Z T_115.heap a_97 "java/lang/String" := (g_108.keep K_121)
    obtain ⟨q_171, q_172, q_173, q_174, q_175⟩ := isOf (T := T_160) hZ e_169 E_176
    obtain ⟨_, _, ⟨T_170, L_170, k_170, n_170⟩, -, X_170, ⟨Lc_170, hQ_170, l_170, y_170, z_170⟩, st_170⟩ := X_160.virtualBack hx (y := M114) (z := M114) hown (mvT hZ (w120 hw)) (mvT hZ (w121 hw)) (notFace_of_selects (args := #[]) (mvT hZ (w123 hw))) (mvT hZ (w123 hw)) (mvT hZ (w122 hw)) (by decide) (backOf (W := 0) (rm_eqself l Z a0 hw [] G1 sI sL sT sC sU dZ iE HG T_115.heap n0 O_135 a_97 ) hZ (w124 hw) (w11 hw) (by decide) (by decide)) q_173 q_175 (g := (mkF m 127 #[.val (.int p0), .val (.long p1), .second, .val (.int p2), .val (.int (0 : Int32)), .val (.ref sI), .val (.ref a_21), .val (.ref a_97), .val (.ref a_116)] [(.ref a_97), (.ref a_97)])) rfl (by rw [hml]; rfl) (Steps.refl _) (argsL := [(.ref a_97)]) (rest := []) (lenOf pd_704 rfl) rfl (by show 2 * 0 + _ ≤ _; exact Nat.le_of_eq rfl) (hb hby at_127) (fun _ _ => ⟨rfl, e_169, (by decide : 5 + 0 ≤ _), (by decide : 19 + 0 ≤ _)⟩)
    dsimp only [Pt.U, Pt.locs, Pt.cells, Pt.slots] at X_170 l_170 y_170 z_170 st_170 hQ_170
    subst l_170 y_170 z_170
    obtain ⟨rfl, N_177, e_178⟩ := hQ_170
    have N_179 := Fr.app N_168 N_177
    have e_180 : T_170.heap = T_115.heap := e_178
    obtain ⟨q_182, q_183, q_184, q_185, q_186⟩ := isOf (T := T_170) hZ e_180 g_123
    obtain ⟨_, _, ⟨T_181, L_181, k_181, n_181⟩, -, X_181, ⟨Lc_181, hQ_181, l_181, y_181, z_181⟩, st_181⟩ := X_170.virtualBack hx (y := M656) (z := M656) hown (mvT hZ (w125 hw)) (mvT hZ (w126 hw)) (notFace_of_selects (args := #[]) (mvT hZ (w128 hw))) (mvT hZ (w128 hw)) (mvT hZ (w127 hw)) (by decide) (backOf (W := 0) (rm_gex l Z a0 hw [] G1 sI sL sT sC sU dZ iE HG T_115.heap n0 O_135 a_116 a_117 g_123 g_125 g_127) hZ (w129 hw) (w40 hw) (by decide) (by decide)) q_184 q_186 (g := (mkF m 135 #[.val (.int p0), .val (.long p1), .second, .val (.int p2), .val (.int (0 : Int32)), .val (.ref sI), .val (.ref a_21), .val (.ref a_97), .val (.ref a_116)] [(.ref a_116)])) rfl (by rw [hml]; rfl) (Steps.refl _) (argsL := []) (rest := []) (lenOf pd_710 rfl) rfl (by show 2 * 0 + _ ≤ _; exact Nat.le_of_eq rfl) (hb hby at_135) (fun _ _ => ⟨rfl, e_180, (by decide : 5 + 0 ≤ _), (by decide : 19 + 0 ≤ _)⟩)
    dsimp only [Pt.U, Pt.locs, Pt.cells, Pt.slots] at X_181 l_181 y_181 z_181 st_181 hQ_181
    subst l_181 y_181 z_181
    obtain ⟨rfl, N_187, e_188⟩ := hQ_181
    have N_189 := Fr.app N_179 N_187
    have e_190 : T_181.heap = T_115.heap := e_188
    obtain ⟨q_192, q_193, q_194, q_195, q_196⟩ := isOf (T := T_181) hZ e_190 g_129
    obtain ⟨_, _, ⟨T_191, L_191, k_191, n_191⟩, -, X_191, ⟨Lc_191, hQ_191, l_191, y_191, z_191⟩, st_191⟩ := X_181.virtualBack hx (y := M375) (z := M375) hown (mvT hZ (w130 hw)) (mvT hZ (w131 hw)) (notFace_of_selects (args := #[]) (mvT hZ (w133 hw))) (mvT hZ (w133 hw)) (mvT hZ (w132 hw)) (by decide) (backOf (W := 0) (rm_into l Z a0 hw [] G1 sI sL sT sC sU dZ iE HG T_115.heap n0 O_135 a_117 j_118 i_119 g_130 g_131 (own_hA g_133) (own_hB g_132 g_133)) hZ (w134 hw) (w47 hw) (by decide) (by decide)) q_194 q_196 (g := (mkF m 138 #[.val (.int p0), .val (.long p1), .second, .val (.int p2), .val (.int (0 : Int32)), .val (.ref sI), .val (.ref a_21), .val (.ref a_97), .val (.ref a_116)] [(.ref a_117)])) rfl (by rw [hml]; rfl) (Steps.refl _) (argsL := []) (rest := []) (lenOf pd_716 rfl) rfl (by show 2 * 0 + _ ≤ _; exact Nat.le_of_eq rfl) (hb hby at_138) (fun _ _ => ⟨rfl, e_190, (by decide : 5 + 0 ≤ _), (by decide : 19 + 0 ≤ _)⟩)
    dsimp only [Pt.U, Pt.locs, Pt.cells, Pt.slots] at X_191 l_191 y_191 z_191 st_191 hQ_191
    subst l_191 y_191 z_191
    obtain ⟨j_197, rfl, N_198, e_199, g_200⟩ := hQ_191
    have N_201 := Fr.app N_189 N_198
    have e_202 : T_191.heap = T_115.heap := e_199
    obtain ⟨q_204, q_205, q_206, q_207, q_208⟩ := isOf (T := T_191) hZ e_202 g_123
    obtain ⟨_, _, ⟨T_203, L_203, k_203, n_203⟩, -, X_203, ⟨Lc_203, hQ_203, l_203, y_203, z_203⟩, st_203⟩ := X_191.virtualBack hx (y := M662) (z := M662) hown (mvT hZ (w147 hw)) (mvT hZ (w148 hw)) (notFace_of_selects (args := #[]) (mvT hZ (w150 hw))) (mvT hZ (w150 hw)) (mvT hZ (w149 hw)) (by decide) (backOf (W := 0) (rm_gre l Z a0 hw [] G1 sI sL sT sC sU dZ iE HG T_115.heap n0 O_135 a_116 dZ g_128) hZ (w151 hw) (w40 hw) (by decide) (by decide)) q_206 q_208 (g := (mkF m 148 #[.val (.int p0), .val (.long p1), .second, .val (.int p2), .val (.int (0 : Int32)), .val (.ref sI), .val (.ref a_21), .val (.ref a_97), .val (.ref a_116)] [(.ref a_116)])) rfl (by rw [hml]; rfl) (Steps.refl _) (argsL := []) (rest := []) (lenOf pd_722 rfl) rfl (by show 2 * 0 + _ ≤ _; exact Nat.le_of_eq rfl) (hb hby at_148) (fun _ _ => ⟨rfl, e_202, (by decide : 5 + 0 ≤ _), (by decide : 19 + 0 ≤ _)⟩)
    dsimp only [Pt.U, Pt.locs, Pt.cells, Pt.slots] at X_203 l_203 y_203 z_203 st_203 hQ_203
    subst l_203 y_203 z_203
    obtain ⟨rfl, N_209, e_210⟩ := hQ_203
    have N_211 := Fr.app N_201 N_209
    have e_212 : T_203.heap = T_115.heap := e_210
    obtain ⟨q_214, q_215, q_216, q_217, q_218⟩ := isOf (T := T_203) hZ e_212 (EZ.ext O_135.2)
    obtain ⟨_, _, ⟨T_213, L_213, k_213, n_213⟩, -, X_213, ⟨Lc_213, hQ_213, l_213, y_213, z_213⟩, st_213⟩ := X_203.virtualBack hx (y := M528) (z := M528) hown (mvT hZ (w152 hw)) (mvT hZ (w153 hw)) (notFace_of_selects (args := #[]) (mvT hZ (w155 hw))) (mvT hZ (w155 hw)) (mvT hZ (w154 hw)) (by decide) (backOf (W := 0) (rm_isz l Z a0 hw [] G1 sI sL sT sC sU dZ iE HG T_115.heap n0 O_135  ) hZ (w156 hw) (w80 hw) (by decide) (by decide)) q_216 q_218 (g := (mkF m 151 #[.val (.int p0), .val (.long p1), .second, .val (.int p2), .val (.int (0 : Int32)), .val (.ref sI), .val (.ref a_21), .val (.ref a_97), .val (.ref a_116)] [(.ref dZ)])) rfl (by rw [hml]; rfl) (Steps.refl _) (argsL := []) (rest := []) (lenOf pd_690 rfl) rfl (by show 2 * 0 + _ ≤ _; exact Nat.le_of_eq rfl) (hb hby at_151) (fun _ _ => ⟨rfl, e_212, (by decide : 5 + 0 ≤ _), (by decide : 19 + 0 ≤ _)⟩)
    dsimp only [Pt.U, Pt.locs, Pt.cells, Pt.slots] at X_213 l_213 y_213 z_213 st_213 hQ_213
    subst l_213 y_213 z_213
    obtain ⟨rfl, N_219, e_220⟩ := hQ_213
    have N_221 := Fr.app N_211 N_219
    have e_222 : T_213.heap = T_115.heap := e_220
    have C_223 : Steps p.tables e below S0 (T_213.setTop (mkF m 162 #[.val (.int p0), .val (.long p1), .second, .val (.int p2), .val (.int (0 : Int32)), .val (.ref sI), .val (.ref a_21), .val (.ref a_97), .val (.ref a_116)] [(.int (1 : Int32))])) := by
      refine C_7.trans ?_
      refine XS.istore X0.here hx rfl (hb hby at_6) rfl (l' := #[.val (.int p0), .val (.long p1), .second, .val (.int p2), .val (.int (0 : Int32)), .unset, .unset, .unset, .unset]) rfl ?_
      refine XS.iload X0.here hx rfl (hb hby at_8) rfl ?_
      refine st_8 _ ?_
      refine XS.astore X_8.here hx rfl (hb hby at_13) rfl rfl (l' := #[.val (.int p0), .val (.long p1), .second, .val (.int p2), .val (.int (0 : Int32)), .val (.ref sI), .unset, .unset, .unset]) rfl ?_
      refine XS.iconst X_8.here hx rfl (hb hby at_15) ?_
      refine st_20 _ ?_
      refine XS.astore X_16.here hx rfl (hb hby at_18) rfl rfl (l' := #[.val (.int p0), .val (.long p1), .second, .val (.int p2), .val (.int (0 : Int32)), .val (.ref sI), .val (.ref a_21), .unset, .unset]) rfl ?_
      refine XS.aload X_16.here hx rfl (hb hby at_20) rfl rfl ?_
      show Steps p.tables e below (T_13.setTop (mkF m 22 #[.val (.int p0), .val (.long p1), .second, .val (.int p2), .val (.int (0 : Int32)), .val (.ref sI), .val (.ref a_21), .unset, .unset] [(.ref a_21)])) _
      refine XS.iconst X_16.here hx rfl (hb hby at_22) ?_
      refine XS.iloadN X_16.here hx rfl (hb hby at_23) rfl ?_
      refine XS.sipush X_16.here hx rfl (hb hby at_24) ?_
      refine XS.iand X_16.here hx rfl (hb hby at_27) rfl ?_
      refine XS.i2c X_16.here hx rfl (hb hby at_28) rfl ?_
      refine st_37 _ ?_
      refine XS.aload X_34.here hx rfl (hb hby at_30) rfl rfl ?_
      refine XS.iconst X_34.here hx rfl (hb hby at_32) ?_
      show Steps p.tables e below (T_32.setTop (mkF m 33 #[.val (.int p0), .val (.long p1), .second, .val (.int p2), .val (.int (0 : Int32)), .val (.ref sI), .val (.ref a_21), .unset, .unset] [(.int (1 : Int32)), (.ref a_21)])) _
      refine XS.iloadN X_34.here hx rfl (hb hby at_33) rfl ?_
      refine XS.bipush X_34.here hx rfl (hb hby at_34) ?_
      refine XS.iushr X_34.here hx rfl (hb hby at_36) rfl ?_
      refine XS.sipush X_34.here hx rfl (hb hby at_37) ?_
      refine XS.iand X_34.here hx rfl (hb hby at_40) rfl ?_
      refine XS.i2c X_34.here hx rfl (hb hby at_41) rfl ?_
      refine st_53 _ ?_
      refine XS.aload X_50.here hx rfl (hb hby at_43) rfl rfl ?_
      show Steps p.tables e below (T_48.setTop (mkF m 45 #[.val (.int p0), .val (.long p1), .second, .val (.int p2), .val (.int (0 : Int32)), .val (.ref sI), .val (.ref a_21), .unset, .unset] [(.ref a_21)])) _
      refine XS.iconst X_50.here hx rfl (hb hby at_45) ?_
      refine XS.iloadN X_50.here hx rfl (hb hby at_46) rfl ?_
      refine XS.bipush X_50.here hx rfl (hb hby at_47) ?_
      refine XS.iushr X_50.here hx rfl (hb hby at_49) rfl ?_
      refine XS.sipush X_50.here hx rfl (hb hby at_50) ?_
      refine XS.iand X_50.here hx rfl (hb hby at_53) rfl ?_
      refine XS.i2c X_50.here hx rfl (hb hby at_54) rfl ?_
      refine st_69 _ ?_
      show Steps p.tables e below (T_64.setTop (mkF m 56 #[.val (.int p0), .val (.long p1), .second, .val (.int p2), .val (.int (0 : Int32)), .val (.ref sI), .val (.ref a_21), .unset, .unset] [])) _
      refine XS.aload X_66.here hx rfl (hb hby at_56) rfl rfl ?_
      refine XS.iconst X_66.here hx rfl (hb hby at_58) ?_
      refine XS.iloadN X_66.here hx rfl (hb hby at_59) rfl ?_
      refine XS.bipush X_66.here hx rfl (hb hby at_60) ?_
      refine XS.iushr X_66.here hx rfl (hb hby at_62) rfl ?_
      refine XS.sipush X_66.here hx rfl (hb hby at_63) ?_
      refine XS.iand X_66.here hx rfl (hb hby at_66) rfl ?_
      refine XS.i2c X_66.here hx rfl (hb hby at_67) rfl ?_
      show Steps p.tables e below (T_64.setTop (mkF m 68 #[.val (.int p0), .val (.long p1), .second, .val (.int p2), .val (.int (0 : Int32)), .val (.ref sI), .val (.ref a_21), .unset, .unset] [(.int (own_cb (own_u24 p2))), (.int (3 : Int32)), (.ref a_21)])) _
      refine st_85 _ ?_
      refine st_96 _ ?_
      refine XS.dup X_91.here hx rfl (hb hby at_72) rfl rfl ?_
      refine XS.aload X_91.here hx rfl (hb hby at_73) rfl rfl ?_
      refine st_103.trans ?_
      refine XS.astore X_103.here hx rfl (hb hby at_78) rfl rfl (l' := #[.val (.int p0), .val (.long p1), .second, .val (.int p2), .val (.int (0 : Int32)), .val (.ref sI), .val (.ref a_21), .val (.ref a_97), .unset]) rfl ?_
      refine XS.aload X_103.here hx rfl (hb hby at_80) rfl rfl ?_
      refine XS.lloadN X_103.here hx rfl (hb hby at_82) rfl ?_
      show Steps p.tables e below (T_103.setTop (mkF m 83 #[.val (.int p0), .val (.long p1), .second, .val (.int p2), .val (.int (0 : Int32)), .val (.ref sI), .val (.ref a_21), .val (.ref a_97), .unset] [(.long p1), (.ref sI)])) _
      refine XS.aload X_103.here hx rfl (hb hby at_83) rfl rfl ?_
      refine st_115 _ ?_
      refine XS.astore X_115.here hx rfl (hb hby at_88) rfl rfl (l' := #[.val (.int p0), .val (.long p1), .second, .val (.int p2), .val (.int (0 : Int32)), .val (.ref sI), .val (.ref a_21), .val (.ref a_97), .val (.ref a_116)]) rfl ?_
      refine XS.aload X_115.here hx rfl (hb hby at_90) rfl rfl ?_
      refine st_136.trans ?_
      refine XS.aload X_136.here hx rfl (hb hby at_95) rfl rfl ?_
      refine acmp X_136 hx rfl (cd := .eq) (x := (.ref sI)) (y := (.ref sI)) rfl rfl (same := true) (pc0 := 97) (pc' := 102) rfl (hb hby at_97) rfl (decide_eq_true rfl) (by decide) (by decide) ?_
      refine XS.aload X_136.here hx rfl (hb hby at_102) rfl rfl ?_
      show Steps p.tables e below (T_136.setTop (mkF m 104 #[.val (.int p0), .val (.long p1), .second, .val (.int p2), .val (.int (0 : Int32)), .val (.ref sI), .val (.ref a_21), .val (.ref a_97), .val (.ref a_116)] [(.ref a_116)])) _
      refine st_146.trans ?_
      refine XS.ifYes X_146.here hx rfl (pc0 := 107) (pc' := 112) rfl (hb hby at_107) rfl (by decide) (by decide) (by decide) ?_
      refine XS.aload X_146.here hx rfl (hb hby at_112) rfl rfl ?_
      refine st_159 _ ?_
      refine acmp X_157 hx rfl (cd := .ne) (x := (.ref sI)) (y := (.ref sI)) rfl rfl (same := true) (pc0 := 117) (pc' := 120) rfl (hb hby at_117) rfl (decide_eq_true rfl) (by decide) (by decide) ?_
      refine XS.aload X_157.here hx rfl (hb hby at_120) rfl rfl ?_
      refine XS.aload X_157.here hx rfl (hb hby at_122) rfl rfl ?_
      refine st_160.trans ?_
      show Steps p.tables e below (T_160.setTop (mkF m 127 #[.val (.int p0), .val (.long p1), .second, .val (.int p2), .val (.int (0 : Int32)), .val (.ref sI), .val (.ref a_21), .val (.ref a_97), .val (.ref a_116)] [(.ref a_97), (.ref a_97)])) _
      refine st_170.trans ?_
      refine XS.ifNo X_170.here hx rfl (hb hby at_130) rfl (by decide) ?_
      refine XS.aload X_170.here hx rfl (hb hby at_133) rfl rfl ?_
      refine st_181.trans ?_
      refine st_191.trans ?_
      refine XS.lloadN X_191.here hx rfl (hb hby at_141) rfl ?_
      refine XS.lcmp X_191.here hx rfl (hb hby at_142) rfl ?_
      refine XS.ifNo X_191.here hx rfl (hb hby at_143) rfl (i0_ne_f ((lw_eq j_197 p1).mpr (own_back g_200 g_132 g_133))) ?_
      show Steps p.tables e below (T_191.setTop (mkF m 146 #[.val (.int p0), .val (.long p1), .second, .val (.int p2), .val (.int (0 : Int32)), .val (.ref sI), .val (.ref a_21), .val (.ref a_97), .val (.ref a_116)] [])) _
      refine XS.aload X_191.here hx rfl (hb hby at_146) rfl rfl ?_
      refine st_203.trans ?_
      refine st_213.trans ?_
      refine XS.ifNo X_213.here hx rfl (hb hby at_154) rfl (by decide) ?_
      refine XS.iconst X_213.here hx rfl (hb hby at_157) ?_
      refine XS.goto X_213.here hx rfl (pc0 := 158) (pc' := 162) rfl (hb hby at_158) (by decide) (by decide) ?_
      exact Steps.refl _
    have K_224 : Keep h0 T_115.heap [] := (((((((((Keep.refl _ _).ext E_18).wr W_36 (Or.inr (Nat.le_trans (Nat.le_refl _) (Nat.le_of_eq g_22.symm)))).wr W_52 (Or.inr (Nat.le_trans (Nat.le_refl _) (Nat.le_of_eq g_22.symm)))).wr W_68 (Or.inr (Nat.le_trans (Nat.le_refl _) (Nat.le_of_eq g_22.symm)))).wr W_84 (Or.inr (Nat.le_trans (Nat.le_refl _) (Nat.le_of_eq g_22.symm)))).ext E_93).trans K_107 (allS (Or.inr (Nat.le_trans (Nat.le_trans (Nat.le_trans (Nat.le_trans (Nat.le_trans E_18.1 (Keep.of_wr W_36).1) (Keep.of_wr W_52).1) (Keep.of_wr W_68).1) (Keep.of_wr W_84).1) (Nat.le_of_eq g_98.symm))) all0)).trans K_121 all0)
    obtain ⟨fs, hr, hrun, hended, hW, hsame⟩ := X_213.leave (v := some (.int (1 : Int32))) (fun h => by rw [Bd.returns] at h; cases h)
    refine ⟨_, _, C_223.trans (retN X_213 hx (t := .boolean) Bd.returns (by simp) (hb hby at_162) hr), hrun, hended, _, _, rfl, ?_, ⟨_, rfl⟩, hW, hsame.mono (by decide) (by decide)⟩
    show Q_law Z G1 sI sL sT sC sU dZ iE p0 p1 p2 h0 n0 (some (.int (1 : Int32))) T_213.heap _
    rw [e_222]
    exact ⟨rfl, N_221, K_224⟩
  · skip
    have C_225 : Steps p.tables e below S0 (s₁.setTop (mkF m 6 #[.val (.int p0), .val (.long p1), .second, .val (.int p2), .unset, .unset, .unset, .unset, .unset] [(.int (1 : Int32))])) := by have q := C_1; rw [hn_3] at q; exact q
    obtain ⟨_, _, ⟨T_226, L_226, k_226, n_226⟩, -, X_226, ⟨Lc_226, hQ_226, l_226, y_226, z_226⟩, st_226⟩ := Jvm.LawKit.callS X0 hx (y := M121) hown (mvT hZ (w1 hw)) (mvT hZ (w2 hw)) (mvT hZ (w3 hw)) (mvT hZ (w4 hw)) (by decide) (backOf (W := 0) (rm_pick_1 l Z a0 hw [] G1 sI sL sT sC sU dZ iE HG h0 n0 X00  ) hZ (w4 hw) (w3 hw) (by decide) (by decide)) (g := (mkF m 10 #[.val (.int p0), .val (.long p1), .second, .val (.int p2), .val (.int (1 : Int32)), .unset, .unset, .unset, .unset] [(.int (1 : Int32))])) rfl (by rw [hml]; rfl) (argsL := [(.int (1 : Int32))]) (rest := []) (lenOf pd_670 rfl) rfl (by show 2 * 0 + _ ≤ _; exact Nat.le_of_eq rfl) (hb hby at_10) (fun _ _ => ⟨rfl, e0, (by decide : 0 + 0 ≤ _), (by decide : 0 + 0 ≤ _)⟩)
    dsimp only [Pt.U, Pt.locs, Pt.cells, Pt.slots] at X_226 l_226 y_226 z_226 st_226 hQ_226
    subst l_226 y_226 z_226
    obtain ⟨rfl, N_227, e_228⟩ := hQ_226
    have N_229 := Fr.app N0 N_227
    have e_230 : T_226.heap = h0 := e_228
    obtain ⟨T_231, h_232, k_233, X_234, e_235, E_236, A_237, st_238⟩ := newP (aty := .char) X_226 hx hZ (w8 hw) e_230 (g := (mkF m 16 #[.val (.int p0), .val (.long p1), .second, .val (.int p2), .val (.int (1 : Int32)), .val (.ref sL), .unset, .unset, .unset] [(.int (4 : Int32))])) rfl (hb hby at_16) rfl (by decide : ¬ ((4 : Int32) < (0 : Int32))) (cap := 4) (by decide : (4 : Int32).toNatClampNeg ≤ 4) (by decide) (by decide) (by decide)
    obtain ⟨a_239, g_240⟩ : ∃ z, z = h0.size := ⟨_, rfl⟩
    rw [← g_240] at A_237 st_238
    have V_242 : Arv Z h_232 a_239 k_233 .char (4 : Int32) [] (.int (0 : Int32)) := Arv.new A_237 (by decide : ¬ ((4 : Int32) < (0 : Int32)))
    have V_241 : Arv Z h_232 a_239 k_233 .char (4 : Int32) [(.int (0 : Int32)), (.int (0 : Int32)), (.int (0 : Int32)), (.int (0 : Int32))] (.int (0 : Int32)) := (V_242.pad (pad_rep [] (.int (0 : Int32)) 4))
    obtain ⟨c_243, A_244, q_245, S_246, M_247, H_248, U_249⟩ := id V_241
    have hin_256 : ¬ ((0 : Int32) < 0 ∨ c_243.slots.size ≤ (0 : Int32).toNatClampNeg) := inb_of S_246 ⟨(by decide : ¬ ((0 : Int32) < (0 : Int32))), (by decide : (0 : Int32) < (4 : Int32))⟩
    obtain ⟨T_250, h_251, X_252, e_253, W_254, st_255⟩ := stC X_234 hx hZ e_235 A_244 (j := (0 : Int32)) hin_256 (g := (mkF m 29 #[.val (.int p0), .val (.long p1), .second, .val (.int p2), .val (.int (1 : Int32)), .val (.ref sL), .val (.ref a_239), .unset, .unset] [(.int (own_cb p2)), (.int (0 : Int32)), (.ref a_239)])) rfl rfl (hb hby at_29)
    have N_257 := Fr.snoc X_252 N_229 (Nat.le_trans (own_n0 X00) (Nat.le_of_eq g_240.symm))
    have V_258 : Arv Z h_251 a_239 k_233 .char (4 : Int32) [(.int (own_cb p2)), (.int (0 : Int32)), (.int (0 : Int32)), (.int (0 : Int32))] (.int (0 : Int32)) := by have q := Arv.set A_244 q_245 S_246 M_247 H_248 U_249 (fits_nar_char _) W_254 0 rfl (Nat.le_of_ble_eq_true rfl); rw [own_cb_nar] at q; exact q
    obtain ⟨c_259, A_260, q_261, S_262, M_263, H_264, U_265⟩ := id V_258
    have hin_272 : ¬ ((1 : Int32) < 0 ∨ c_259.slots.size ≤ (1 : Int32).toNatClampNeg) := inb_of S_262 ⟨(by decide : ¬ ((1 : Int32) < (0 : Int32))), (by decide : (1 : Int32) < (4 : Int32))⟩
    obtain ⟨T_266, h_267, X_268, e_269, W_270, st_271⟩ := stC X_252 hx hZ e_253 A_260 (j := (1 : Int32)) hin_272 (g := (mkF m 42 #[.val (.int p0), .val (.long p1), .second, .val (.int p2), .val (.int (1 : Int32)), .val (.ref sL), .val (.ref a_239), .unset, .unset] [(.int (own_cb (own_u8 p2))), (.int (1 : Int32)), (.ref a_239)])) rfl rfl (hb hby at_42)
    have N_273 := Fr.snoc X_268 N_257 (Nat.le_trans (own_n0 X00) (Nat.le_of_eq g_240.symm))
    have V_274 : Arv Z h_267 a_239 k_233 .char (4 : Int32) [(.int (own_cb p2)), (.int (own_cb (own_u8 p2))), (.int (0 : Int32)), (.int (0 : Int32))] (.int (0 : Int32)) := by have q := Arv.set A_260 q_261 S_262 M_263 H_264 U_265 (fits_nar_char _) W_270 1 rfl (Nat.le_of_ble_eq_true rfl); rw [own_cb_nar] at q; exact q
    obtain ⟨c_275, A_276, q_277, S_278, M_279, H_280, U_281⟩ := id V_274
    have hin_288 : ¬ ((2 : Int32) < 0 ∨ c_275.slots.size ≤ (2 : Int32).toNatClampNeg) := inb_of S_278 ⟨(by decide : ¬ ((2 : Int32) < (0 : Int32))), (by decide : (2 : Int32) < (4 : Int32))⟩
    obtain ⟨T_282, h_283, X_284, e_285, W_286, st_287⟩ := stC X_268 hx hZ e_269 A_276 (j := (2 : Int32)) hin_288 (g := (mkF m 55 #[.val (.int p0), .val (.long p1), .second, .val (.int p2), .val (.int (1 : Int32)), .val (.ref sL), .val (.ref a_239), .unset, .unset] [(.int (own_cb (own_u16 p2))), (.int (2 : Int32)), (.ref a_239)])) rfl rfl (hb hby at_55)
    have N_289 := Fr.snoc X_284 N_273 (Nat.le_trans (own_n0 X00) (Nat.le_of_eq g_240.symm))
    have V_290 : Arv Z h_283 a_239 k_233 .char (4 : Int32) [(.int (own_cb p2)), (.int (own_cb (own_u8 p2))), (.int (own_cb (own_u16 p2))), (.int (0 : Int32))] (.int (0 : Int32)) := by have q := Arv.set A_276 q_277 S_278 M_279 H_280 U_281 (fits_nar_char _) W_286 2 rfl (Nat.le_of_ble_eq_true rfl); rw [own_cb_nar] at q; exact q
    obtain ⟨c_291, A_292, q_293, S_294, M_295, H_296, U_297⟩ := id V_290
    have hin_304 : ¬ ((3 : Int32) < 0 ∨ c_291.slots.size ≤ (3 : Int32).toNatClampNeg) := inb_of S_294 ⟨(by decide : ¬ ((3 : Int32) < (0 : Int32))), (by decide : (3 : Int32) < (4 : Int32))⟩
    obtain ⟨T_298, h_299, X_300, e_301, W_302, st_303⟩ := stC X_284 hx hZ e_285 A_292 (j := (3 : Int32)) hin_304 (g := (mkF m 68 #[.val (.int p0), .val (.long p1), .second, .val (.int p2), .val (.int (1 : Int32)), .val (.ref sL), .val (.ref a_239), .unset, .unset] [(.int (own_cb (own_u24 p2))), (.int (3 : Int32)), (.ref a_239)])) rfl rfl (hb hby at_68)
    have N_305 := Fr.snoc X_300 N_289 (Nat.le_trans (own_n0 X00) (Nat.le_of_eq g_240.symm))
    have V_306 : Arv Z h_299 a_239 k_233 .char (4 : Int32) [(.int (own_cb p2)), (.int (own_cb (own_u8 p2))), (.int (own_cb (own_u16 p2))), (.int (own_cb (own_u24 p2)))] (.int (0 : Int32)) := by have q := Arv.set A_292 q_293 S_294 M_295 H_296 U_297 (fits_nar_char _) W_302 3 rfl (Nat.le_of_ble_eq_true rfl); rw [own_cb_nar] at q; exact q
    obtain ⟨T_307, h_308, X_309, e_310, E_311, A_312, D_313, U_317, st_314⟩ := newO X_300 hx hZ hown (w9 hw) (w10 hw) (w11 hw) e_301 (g := (mkF m 69 #[.val (.int p0), .val (.long p1), .second, .val (.int p2), .val (.int (1 : Int32)), .val (.ref sL), .val (.ref a_239), .unset, .unset] [])) rfl (hb hby at_69) (by decide) (by decide)
    obtain ⟨a_315, g_316⟩ : ∃ z, z = h_299.size := ⟨_, rfl⟩
    rw [← g_316] at A_312 D_313 st_314 U_317
    have O_318 : Old Z n0 h_299 := (((((X00.ext E_236).wr W_254 (Nat.le_trans (own_n0 X00) (Nat.le_of_eq g_240.symm))).wr W_270 (Nat.le_trans (own_n0 X00) (Nat.le_of_eq g_240.symm))).wr W_286 (Nat.le_trans (own_n0 X00) (Nat.le_of_eq g_240.symm))).wr W_302 (Nat.le_trans (own_n0 X00) (Nat.le_of_eq g_240.symm)))
    have V_319 : Arv Z h_308 a_239 k_233 .char (4 : Int32) [(.int (own_cb p2)), (.int (own_cb (own_u8 p2))), (.int (own_cb (own_u16 p2))), (.int (own_cb (own_u24 p2)))] (.int (0 : Int32)) := (V_306.ext E_311)
    have O_320 : Old Z n0 h_308 := (O_318.ext E_311)
    obtain ⟨_, _, ⟨T_321, L_321, k_321, n_321⟩, -, X_321, ⟨Lc_321, hQ_321, l_321, y_321, z_321⟩, st_321⟩ := X_309.specialBack hx (y := M99) rfl hown (mvT hZ (w12 hw)) (mvT hZ (w13 hw)) (mvT hZ (w14 hw)) (by decide) (backOf (W := 1) (rm_si1_4 l Z a0 hw [] G1 sI sL sT sC sU dZ iE HG h_308 n0 O_320 a_315 a_239 k_233 (own_cb p2) (own_cb (own_u8 p2)) (own_cb (own_u16 p2)) (own_cb (own_u24 p2)) A_312 (D_313 (Or.inr (w37 hw)) (ty := (.array .byte)) (by decide)) (D_313 (Or.inr (w35 hw)) (ty := .byte) (by decide)) (Nat.le_trans (own_n0 O_318) (Nat.le_of_eq g_316.symm)) V_319 (own_cb_hi p2) (own_cb_hi (own_u8 p2)) (own_cb_hi (own_u16 p2)) (own_cb_hi (own_u24 p2))) hZ (w14 hw) (w11 hw) (by decide) (by decide)) (g := (mkF m 75 #[.val (.int p0), .val (.long p1), .second, .val (.int p2), .val (.int (1 : Int32)), .val (.ref sL), .val (.ref a_239), .unset, .unset] [(.ref a_239), (.ref a_315), (.ref a_315)])) rfl (by rw [hml]; rfl) (Steps.refl _) (a := a_315) (argsL := [(.ref a_239)]) (rest := [(.ref a_315)]) (lenOf pd_676 rfl) rfl (by show 2 * 0 + _ ≤ _; exact Nat.le_of_eq rfl) (hb hby at_75) (fun _ _ => ⟨rfl, e_310, (by decide : 2 + 1 ≤ _), (by decide : 8 + 4 ≤ _)⟩)
    dsimp only [Pt.U, Pt.locs, Pt.cells, Pt.slots] at X_321 l_321 y_321 z_321 st_321 hQ_321
    subst l_321 y_321 z_321
    obtain ⟨a_322, k_323, rfl, N_324, K_325, g_326, g_327, g_328, g_329, g_330⟩ := hQ_321
    have N_331 := Fr.app N_305 N_324
    have O_332 : Old Z n0 T_321.heap := (O_320.keep K_325 (allS (Nat.le_trans (own_n0 O_318) (Nat.le_of_eq g_316.symm)) all0))
    obtain ⟨_, _, ⟨T_333, L_333, k_333, n_333⟩, -, X_333, ⟨Lc_333, hQ_333, l_333, y_333, z_333⟩, st_333⟩ := Jvm.LawKit.callS X_321 hx (y := M587) hown (mvT hZ (w38 hw)) (mvT hZ (w39 hw)) (mvT hZ (w40 hw)) (mvT hZ (w41 hw)) (by decide) (backOf (W := 0) (rm_ofN l Z a0 hw [] G1 sI sL sT sC sU dZ iE HG T_321.heap n0 O_332 sL p1 a_315 NsL) hZ (w41 hw) (w40 hw) (by decide) (by decide)) (g := (mkF m 85 #[.val (.int p0), .val (.long p1), .second, .val (.int p2), .val (.int (1 : Int32)), .val (.ref sL), .val (.ref a_239), .val (.ref a_315), .unset] [(.ref a_315), (.long p1), (.ref sL)])) rfl (by rw [hml]; rfl) (argsL := [(.ref sL), (.long p1), (.ref a_315)]) (rest := []) (lenOf pd_680 rfl) rfl (by show 2 * 0 + _ ≤ _; exact Nat.le_of_eq rfl) (hb hby at_85) (fun _ _ => ⟨rfl, rfl, (by decide : 3 + 2 ≤ _), (by decide : 12 + 7 ≤ _)⟩)
    dsimp only [Pt.U, Pt.locs, Pt.cells, Pt.slots] at X_333 l_333 y_333 z_333 st_333 hQ_333
    subst l_333 y_333 z_333
    obtain ⟨a_334, a_335, j_336, i_337, rfl, N_338, K_339, g_340, g_341, g_342, g_343, g_344, g_345, g_346, g_347, g_348, g_349, g_350, g_351⟩ := hQ_333
    have N_352 := Fr.app N_331 N_338
    have O_353 : Old Z n0 T_333.heap := (O_332.keep K_339 all0)
    obtain ⟨q_355, q_356, q_357, q_358, q_359⟩ := isOf (T := T_333) hZ rfl g_341
    obtain ⟨_, _, ⟨T_354, L_354, k_354, n_354⟩, -, X_354, ⟨Lc_354, hQ_354, l_354, y_354, z_354⟩, st_354⟩ := X_333.virtualBack hx (y := M631) (z := M631) hown (mvT hZ (w100 hw)) (mvT hZ (w101 hw)) (notFace_of_selects (args := #[]) (mvT hZ (w103 hw))) (mvT hZ (w103 hw)) (mvT hZ (w102 hw)) (by decide) (backOf (W := 0) (rm_gst l Z a0 hw [] G1 sI sL sT sC sU dZ iE HG T_333.heap n0 O_353 a_334 sL g_343) hZ (w104 hw) (w40 hw) (by decide) (by decide)) q_357 q_359 (g := (mkF m 92 #[.val (.int p0), .val (.long p1), .second, .val (.int p2), .val (.int (1 : Int32)), .val (.ref sL), .val (.ref a_239), .val (.ref a_315), .val (.ref a_334)] [(.ref a_334)])) rfl (by rw [hml]; rfl) (Steps.refl _) (argsL := []) (rest := []) (lenOf pd_684 rfl) rfl (by show 2 * 0 + _ ≤ _; exact Nat.le_of_eq rfl) (hb hby at_92) (fun _ _ => ⟨rfl, rfl, (by decide : 5 + 0 ≤ _), (by decide : 19 + 0 ≤ _)⟩)
    dsimp only [Pt.U, Pt.locs, Pt.cells, Pt.slots] at X_354 l_354 y_354 z_354 st_354 hQ_354
    subst l_354 y_354 z_354
    obtain ⟨rfl, N_360, e_361⟩ := hQ_354
    have N_362 := Fr.app N_352 N_360
    have e_363 : T_354.heap = T_333.heap := e_361
    obtain ⟨q_365, q_366, q_367, q_368, q_369⟩ := isOf (T := T_354) hZ e_363 g_341
    obtain ⟨_, _, ⟨T_364, L_364, k_364, n_364⟩, -, X_364, ⟨Lc_364, hQ_364, l_364, y_364, z_364⟩, st_364⟩ := X_354.virtualBackUp hx (owner := "com/example/expiring_state/expiringstate/Answer") (x := M694) (y := M635) hown (mvT hZ (w105 hw)) (mvT hZ (w106 hw)) (mvT hZ (w107 hw)) (by decide) (mvT hZ (w109 hw)) (mvT hZ (w108 hw)) (backOf (W := 0) (rm_gws l Z a0 hw [] G1 sI sL sT sC sU dZ iE HG T_333.heap n0 O_353 a_334 g_342) hZ (w110 hw) (w87 hw) (by decide) (by decide)) q_367 q_369 (g := (mkF m 104 #[.val (.int p0), .val (.long p1), .second, .val (.int p2), .val (.int (1 : Int32)), .val (.ref sL), .val (.ref a_239), .val (.ref a_315), .val (.ref a_334)] [(.ref a_334)])) rfl (by rw [hml]; rfl) (Steps.refl _) (argsL := []) (rest := []) (lenOf pd_690 rfl) rfl (by show 2 * 0 + _ ≤ _; exact Nat.le_of_eq rfl) (hb hby at_104) (fun _ _ => ⟨rfl, e_363, (by decide : 5 + 0 ≤ _), (by decide : 19 + 0 ≤ _)⟩)
    dsimp only [Pt.U, Pt.locs, Pt.cells, Pt.slots] at X_364 l_364 y_364 z_364 st_364 hQ_364
    subst l_364 y_364 z_364
    obtain ⟨rfl, N_370, e_371⟩ := hQ_364
    have N_372 := Fr.app N_362 N_370
    have e_373 : T_364.heap = T_333.heap := e_371
    obtain ⟨T_374, X_375, e_376, st_377⟩ := getS X_364 hx hZ (host := "") hown (w5 hw) Via.refl e_373 (OsI.ext O_353.2) (g := (mkF m 114 #[.val (.int p0), .val (.long p1), .second, .val (.int p2), .val (.int (1 : Int32)), .val (.ref sL), .val (.ref a_239), .val (.ref a_315), .val (.ref a_334)] [(.ref sL)])) rfl (hb hby at_114)
    obtain ⟨q_379, q_380, q_381, q_382, q_383⟩ := isOf (T := T_374) hZ e_376 g_341
    obtain ⟨_, _, ⟨T_378, L_378, k_378, n_378⟩, -, X_378, ⟨Lc_378, hQ_378, l_378, y_378, z_378⟩, st_378⟩ := X_375.virtualBack hx (y := M662) (z := M662) hown (mvT hZ (w147 hw)) (mvT hZ (w148 hw)) (notFace_of_selects (args := #[]) (mvT hZ (w150 hw))) (mvT hZ (w150 hw)) (mvT hZ (w149 hw)) (by decide) (backOf (W := 0) (rm_gre l Z a0 hw [] G1 sI sL sT sC sU dZ iE HG T_333.heap n0 O_353 a_334 a_335 g_346) hZ (w151 hw) (w40 hw) (by decide) (by decide)) q_381 q_383 (g := (mkF m 165 #[.val (.int p0), .val (.long p1), .second, .val (.int p2), .val (.int (1 : Int32)), .val (.ref sL), .val (.ref a_239), .val (.ref a_315), .val (.ref a_334)] [(.ref a_334)])) rfl (by rw [hml]; rfl) (Steps.refl _) (argsL := []) (rest := []) (lenOf pd_722 rfl) rfl (by show 2 * 0 + _ ≤ _; exact Nat.le_of_eq rfl) (hb hby at_165) (fun _ _ => ⟨rfl, e_376, (by decide : 5 + 0 ≤ _), (by decide : 19 + 0 ≤ _)⟩)
    dsimp only [Pt.U, Pt.locs, Pt.cells, Pt.slots] at X_378 l_378 y_378 z_378 st_378 hQ_378
    subst l_378 y_378 z_378
    obtain ⟨rfl, N_384, e_385⟩ := hQ_378
    have N_386 := Fr.app N_372 N_384
    have e_387 : T_378.heap = T_333.heap := e_385
    obtain ⟨q_389, q_390, q_391, q_392, q_393⟩ := isOf (T := T_378) hZ e_387 g_347
    obtain ⟨_, _, ⟨T_388, L_388, k_388, n_388⟩, -, X_388, ⟨Lc_388, hQ_388, l_388, y_388, z_388⟩, st_388⟩ := X_378.virtualBack hx (y := M491) (z := M491) hown (mvT hZ (w178 hw)) (mvT hZ (w179 hw)) (notFace_of_selects (args := #[]) (mvT hZ (w181 hw))) (mvT hZ (w181 hw)) (mvT hZ (w180 hw)) (by decide) (backOf (W := 0) (rm_duto l Z a0 hw [] G1 sI sL sT sC sU dZ iE HG T_333.heap n0 O_353 a_335 j_336 i_337 g_348 g_349 (own_hA g_351) (own_hB g_350 g_351)) hZ (w182 hw) (w80 hw) (by decide) (by decide)) q_391 q_393 (g := (mkF m 168 #[.val (.int p0), .val (.long p1), .second, .val (.int p2), .val (.int (1 : Int32)), .val (.ref sL), .val (.ref a_239), .val (.ref a_315), .val (.ref a_334)] [(.ref a_335)])) rfl (by rw [hml]; rfl) (Steps.refl _) (argsL := []) (rest := []) (lenOf pd_716 rfl) rfl (by show 2 * 0 + _ ≤ _; exact Nat.le_of_eq rfl) (hb hby at_168) (fun _ _ => ⟨rfl, e_387, (by decide : 5 + 0 ≤ _), (by decide : 19 + 0 ≤ _)⟩)
    dsimp only [Pt.U, Pt.locs, Pt.cells, Pt.slots] at X_388 l_388 y_388 z_388 st_388 hQ_388
    subst l_388 y_388 z_388
    obtain ⟨j_394, rfl, N_395, e_396, g_397⟩ := hQ_388
    have N_398 := Fr.app N_386 N_395
    have e_399 : T_388.heap = T_333.heap := e_396
    have C_400 : Steps p.tables e below S0 (T_388.setTop (mkF m 181 #[.val (.int p0), .val (.long p1), .second, .val (.int p2), .val (.int (1 : Int32)), .val (.ref sL), .val (.ref a_239), .val (.ref a_315), .val (.ref a_334)] [(.int (1 : Int32))])) := by
      refine C_225.trans ?_
      refine XS.istore X0.here hx rfl (hb hby at_6) rfl (l' := #[.val (.int p0), .val (.long p1), .second, .val (.int p2), .val (.int (1 : Int32)), .unset, .unset, .unset, .unset]) rfl ?_
      refine XS.iload X0.here hx rfl (hb hby at_8) rfl ?_
      refine st_226 _ ?_
      refine XS.astore X_226.here hx rfl (hb hby at_13) rfl rfl (l' := #[.val (.int p0), .val (.long p1), .second, .val (.int p2), .val (.int (1 : Int32)), .val (.ref sL), .unset, .unset, .unset]) rfl ?_
      refine XS.iconst X_226.here hx rfl (hb hby at_15) ?_
      refine st_238 _ ?_
      refine XS.astore X_234.here hx rfl (hb hby at_18) rfl rfl (l' := #[.val (.int p0), .val (.long p1), .second, .val (.int p2), .val (.int (1 : Int32)), .val (.ref sL), .val (.ref a_239), .unset, .unset]) rfl ?_
      refine XS.aload X_234.here hx rfl (hb hby at_20) rfl rfl ?_
      show Steps p.tables e below (T_231.setTop (mkF m 22 #[.val (.int p0), .val (.long p1), .second, .val (.int p2), .val (.int (1 : Int32)), .val (.ref sL), .val (.ref a_239), .unset, .unset] [(.ref a_239)])) _
      refine XS.iconst X_234.here hx rfl (hb hby at_22) ?_
      refine XS.iloadN X_234.here hx rfl (hb hby at_23) rfl ?_
      refine XS.sipush X_234.here hx rfl (hb hby at_24) ?_
      refine XS.iand X_234.here hx rfl (hb hby at_27) rfl ?_
      refine XS.i2c X_234.here hx rfl (hb hby at_28) rfl ?_
      refine st_255 _ ?_
      refine XS.aload X_252.here hx rfl (hb hby at_30) rfl rfl ?_
      refine XS.iconst X_252.here hx rfl (hb hby at_32) ?_
      show Steps p.tables e below (T_250.setTop (mkF m 33 #[.val (.int p0), .val (.long p1), .second, .val (.int p2), .val (.int (1 : Int32)), .val (.ref sL), .val (.ref a_239), .unset, .unset] [(.int (1 : Int32)), (.ref a_239)])) _
      refine XS.iloadN X_252.here hx rfl (hb hby at_33) rfl ?_
      refine XS.bipush X_252.here hx rfl (hb hby at_34) ?_
      refine XS.iushr X_252.here hx rfl (hb hby at_36) rfl ?_
      refine XS.sipush X_252.here hx rfl (hb hby at_37) ?_
      refine XS.iand X_252.here hx rfl (hb hby at_40) rfl ?_
      refine XS.i2c X_252.here hx rfl (hb hby at_41) rfl ?_
      refine st_271 _ ?_
      refine XS.aload X_268.here hx rfl (hb hby at_43) rfl rfl ?_
      show Steps p.tables e below (T_266.setTop (mkF m 45 #[.val (.int p0), .val (.long p1), .second, .val (.int p2), .val (.int (1 : Int32)), .val (.ref sL), .val (.ref a_239), .unset, .unset] [(.ref a_239)])) _
      refine XS.iconst X_268.here hx rfl (hb hby at_45) ?_
      refine XS.iloadN X_268.here hx rfl (hb hby at_46) rfl ?_
      refine XS.bipush X_268.here hx rfl (hb hby at_47) ?_
      refine XS.iushr X_268.here hx rfl (hb hby at_49) rfl ?_
      refine XS.sipush X_268.here hx rfl (hb hby at_50) ?_
      refine XS.iand X_268.here hx rfl (hb hby at_53) rfl ?_
      refine XS.i2c X_268.here hx rfl (hb hby at_54) rfl ?_
      refine st_287 _ ?_
      show Steps p.tables e below (T_282.setTop (mkF m 56 #[.val (.int p0), .val (.long p1), .second, .val (.int p2), .val (.int (1 : Int32)), .val (.ref sL), .val (.ref a_239), .unset, .unset] [])) _
      refine XS.aload X_284.here hx rfl (hb hby at_56) rfl rfl ?_
      refine XS.iconst X_284.here hx rfl (hb hby at_58) ?_
      refine XS.iloadN X_284.here hx rfl (hb hby at_59) rfl ?_
      refine XS.bipush X_284.here hx rfl (hb hby at_60) ?_
      refine XS.iushr X_284.here hx rfl (hb hby at_62) rfl ?_
      refine XS.sipush X_284.here hx rfl (hb hby at_63) ?_
      refine XS.iand X_284.here hx rfl (hb hby at_66) rfl ?_
      refine XS.i2c X_284.here hx rfl (hb hby at_67) rfl ?_
      show Steps p.tables e below (T_282.setTop (mkF m 68 #[.val (.int p0), .val (.long p1), .second, .val (.int p2), .val (.int (1 : Int32)), .val (.ref sL), .val (.ref a_239), .unset, .unset] [(.int (own_cb (own_u24 p2))), (.int (3 : Int32)), (.ref a_239)])) _
      refine st_303 _ ?_
      refine st_314 _ ?_
      refine XS.dup X_309.here hx rfl (hb hby at_72) rfl rfl ?_
      refine XS.aload X_309.here hx rfl (hb hby at_73) rfl rfl ?_
      refine st_321.trans ?_
      refine XS.astore X_321.here hx rfl (hb hby at_78) rfl rfl (l' := #[.val (.int p0), .val (.long p1), .second, .val (.int p2), .val (.int (1 : Int32)), .val (.ref sL), .val (.ref a_239), .val (.ref a_315), .unset]) rfl ?_
      refine XS.aload X_321.here hx rfl (hb hby at_80) rfl rfl ?_
      refine XS.lloadN X_321.here hx rfl (hb hby at_82) rfl ?_
      show Steps p.tables e below (T_321.setTop (mkF m 83 #[.val (.int p0), .val (.long p1), .second, .val (.int p2), .val (.int (1 : Int32)), .val (.ref sL), .val (.ref a_239), .val (.ref a_315), .unset] [(.long p1), (.ref sL)])) _
      refine XS.aload X_321.here hx rfl (hb hby at_83) rfl rfl ?_
      refine st_333 _ ?_
      refine XS.astore X_333.here hx rfl (hb hby at_88) rfl rfl (l' := #[.val (.int p0), .val (.long p1), .second, .val (.int p2), .val (.int (1 : Int32)), .val (.ref sL), .val (.ref a_239), .val (.ref a_315), .val (.ref a_334)]) rfl ?_
      refine XS.aload X_333.here hx rfl (hb hby at_90) rfl rfl ?_
      refine st_354.trans ?_
      refine XS.aload X_354.here hx rfl (hb hby at_95) rfl rfl ?_
      refine acmp X_354 hx rfl (cd := .eq) (x := (.ref sL)) (y := (.ref sL)) rfl rfl (same := true) (pc0 := 97) (pc' := 102) rfl (hb hby at_97) rfl (decide_eq_true rfl) (by decide) (by decide) ?_
      refine XS.aload X_354.here hx rfl (hb hby at_102) rfl rfl ?_
      show Steps p.tables e below (T_354.setTop (mkF m 104 #[.val (.int p0), .val (.long p1), .second, .val (.int p2), .val (.int (1 : Int32)), .val (.ref sL), .val (.ref a_239), .val (.ref a_315), .val (.ref a_334)] [(.ref a_334)])) _
      refine st_364.trans ?_
      refine XS.ifYes X_364.here hx rfl (pc0 := 107) (pc' := 112) rfl (hb hby at_107) rfl (by decide) (by decide) (by decide) ?_
      refine XS.aload X_364.here hx rfl (hb hby at_112) rfl rfl ?_
      refine st_377 _ ?_
      refine acmp X_375 hx rfl (cd := .ne) (x := (.ref sL)) (y := (.ref sI)) rfl rfl (same := false) (pc0 := 117) (pc' := 163) rfl (hb hby at_117) rfl (decide_eq_false fun q => NsL (Value.ref.inj q)) (by decide) (by decide) ?_
      refine XS.aload X_375.here hx rfl (hb hby at_163) rfl rfl ?_
      refine st_378.trans ?_
      refine st_388.trans ?_
      show Steps p.tables e below (T_388.setTop (mkF m 171 #[.val (.int p0), .val (.long p1), .second, .val (.int p2), .val (.int (1 : Int32)), .val (.ref sL), .val (.ref a_239), .val (.ref a_315), .val (.ref a_334)] [(.long j_394)])) _
      refine XS.lloadN X_388.here hx rfl (hb hby at_171) rfl ?_
      refine XS.lcmp X_388.here hx rfl (hb hby at_172) rfl ?_
      refine XS.ifNo X_388.here hx rfl (hb hby at_173) rfl (i0_ne_f ((lw_eq j_394 p1).mpr (own_back g_397 g_350 g_351))) ?_
      refine XS.iconst X_388.here hx rfl (hb hby at_176) ?_
      refine XS.goto X_388.here hx rfl (pc0 := 177) (pc' := 181) rfl (hb hby at_177) (by decide) (by decide) ?_
      exact Steps.refl _
    have K_401 : Keep h0 T_333.heap [] := (((((((((Keep.refl _ _).ext E_236).wr W_254 (Or.inr (Nat.le_trans (Nat.le_refl _) (Nat.le_of_eq g_240.symm)))).wr W_270 (Or.inr (Nat.le_trans (Nat.le_refl _) (Nat.le_of_eq g_240.symm)))).wr W_286 (Or.inr (Nat.le_trans (Nat.le_refl _) (Nat.le_of_eq g_240.symm)))).wr W_302 (Or.inr (Nat.le_trans (Nat.le_refl _) (Nat.le_of_eq g_240.symm)))).ext E_311).trans K_325 (allS (Or.inr (Nat.le_trans (Nat.le_trans (Nat.le_trans (Nat.le_trans (Nat.le_trans E_236.1 (Keep.of_wr W_254).1) (Keep.of_wr W_270).1) (Keep.of_wr W_286).1) (Keep.of_wr W_302).1) (Nat.le_of_eq g_316.symm))) all0)).trans K_339 all0)
    obtain ⟨fs, hr, hrun, hended, hW, hsame⟩ := X_388.leave (v := some (.int (1 : Int32))) (fun h => by rw [Bd.returns] at h; cases h)
    refine ⟨_, _, C_400.trans (retN X_388 hx (t := .boolean) Bd.returns (by simp) (hb hby at_181) hr), hrun, hended, _, _, rfl, ?_, ⟨_, rfl⟩, hW, hsame.mono (by decide) (by decide)⟩
    show Q_law Z G1 sI sL sT sC sU dZ iE p0 p1 p2 h0 n0 (some (.int (1 : Int32))) T_388.heap _
    rw [e_399]
    exact ⟨rfl, N_398, K_401⟩
  · skip
    have C_402 : Steps p.tables e below S0 (s₁.setTop (mkF m 6 #[.val (.int p0), .val (.long p1), .second, .val (.int p2), .unset, .unset, .unset, .unset, .unset] [(.int (2 : Int32))])) := by have q := C_1; rw [hn_4] at q; exact q
    obtain ⟨_, _, ⟨T_403, L_403, k_403, n_403⟩, -, X_403, ⟨Lc_403, hQ_403, l_403, y_403, z_403⟩, st_403⟩ := Jvm.LawKit.callS X0 hx (y := M121) hown (mvT hZ (w1 hw)) (mvT hZ (w2 hw)) (mvT hZ (w3 hw)) (mvT hZ (w4 hw)) (by decide) (backOf (W := 0) (rm_pick_2 l Z a0 hw [] G1 sI sL sT sC sU dZ iE HG h0 n0 X00  ) hZ (w4 hw) (w3 hw) (by decide) (by decide)) (g := (mkF m 10 #[.val (.int p0), .val (.long p1), .second, .val (.int p2), .val (.int (2 : Int32)), .unset, .unset, .unset, .unset] [(.int (2 : Int32))])) rfl (by rw [hml]; rfl) (argsL := [(.int (2 : Int32))]) (rest := []) (lenOf pd_670 rfl) rfl (by show 2 * 0 + _ ≤ _; exact Nat.le_of_eq rfl) (hb hby at_10) (fun _ _ => ⟨rfl, e0, (by decide : 0 + 0 ≤ _), (by decide : 0 + 0 ≤ _)⟩)
    dsimp only [Pt.U, Pt.locs, Pt.cells, Pt.slots] at X_403 l_403 y_403 z_403 st_403 hQ_403
    subst l_403 y_403 z_403
    obtain ⟨rfl, N_404, e_405⟩ := hQ_403
    have N_406 := Fr.app N0 N_404
    have e_407 : T_403.heap = h0 := e_405
    obtain ⟨T_408, h_409, k_410, X_411, e_412, E_413, A_414, st_415⟩ := newP (aty := .char) X_403 hx hZ (w8 hw) e_407 (g := (mkF m 16 #[.val (.int p0), .val (.long p1), .second, .val (.int p2), .val (.int (2 : Int32)), .val (.ref sT), .unset, .unset, .unset] [(.int (4 : Int32))])) rfl (hb hby at_16) rfl (by decide : ¬ ((4 : Int32) < (0 : Int32))) (cap := 4) (by decide : (4 : Int32).toNatClampNeg ≤ 4) (by decide) (by decide) (by decide)
    obtain ⟨a_416, g_417⟩ : ∃ z, z = h0.size := ⟨_, rfl⟩
    rw [← g_417] at A_414 st_415
    have V_419 : Arv Z h_409 a_416 k_410 .char (4 : Int32) [] (.int (0 : Int32)) := Arv.new A_414 (by decide : ¬ ((4 : Int32) < (0 : Int32)))
    have V_418 : Arv Z h_409 a_416 k_410 .char (4 : Int32) [(.int (0 : Int32)), (.int (0 : Int32)), (.int (0 : Int32)), (.int (0 : Int32))] (.int (0 : Int32)) := (V_419.pad (pad_rep [] (.int (0 : Int32)) 4))
    obtain ⟨c_420, A_421, q_422, S_423, M_424, H_425, U_426⟩ := id V_418
    have hin_433 : ¬ ((0 : Int32) < 0 ∨ c_420.slots.size ≤ (0 : Int32).toNatClampNeg) := inb_of S_423 ⟨(by decide : ¬ ((0 : Int32) < (0 : Int32))), (by decide : (0 : Int32) < (4 : Int32))⟩
    obtain ⟨T_427, h_428, X_429, e_430, W_431, st_432⟩ := stC X_411 hx hZ e_412 A_421 (j := (0 : Int32)) hin_433 (g := (mkF m 29 #[.val (.int p0), .val (.long p1), .second, .val (.int p2), .val (.int (2 : Int32)), .val (.ref sT), .val (.ref a_416), .unset, .unset] [(.int (own_cb p2)), (.int (0 : Int32)), (.ref a_416)])) rfl rfl (hb hby at_29)
    have N_434 := Fr.snoc X_429 N_406 (Nat.le_trans (own_n0 X00) (Nat.le_of_eq g_417.symm))
    have V_435 : Arv Z h_428 a_416 k_410 .char (4 : Int32) [(.int (own_cb p2)), (.int (0 : Int32)), (.int (0 : Int32)), (.int (0 : Int32))] (.int (0 : Int32)) := by have q := Arv.set A_421 q_422 S_423 M_424 H_425 U_426 (fits_nar_char _) W_431 0 rfl (Nat.le_of_ble_eq_true rfl); rw [own_cb_nar] at q; exact q
    obtain ⟨c_436, A_437, q_438, S_439, M_440, H_441, U_442⟩ := id V_435
    have hin_449 : ¬ ((1 : Int32) < 0 ∨ c_436.slots.size ≤ (1 : Int32).toNatClampNeg) := inb_of S_439 ⟨(by decide : ¬ ((1 : Int32) < (0 : Int32))), (by decide : (1 : Int32) < (4 : Int32))⟩
    obtain ⟨T_443, h_444, X_445, e_446, W_447, st_448⟩ := stC X_429 hx hZ e_430 A_437 (j := (1 : Int32)) hin_449 (g := (mkF m 42 #[.val (.int p0), .val (.long p1), .second, .val (.int p2), .val (.int (2 : Int32)), .val (.ref sT), .val (.ref a_416), .unset, .unset] [(.int (own_cb (own_u8 p2))), (.int (1 : Int32)), (.ref a_416)])) rfl rfl (hb hby at_42)
    have N_450 := Fr.snoc X_445 N_434 (Nat.le_trans (own_n0 X00) (Nat.le_of_eq g_417.symm))
    have V_451 : Arv Z h_444 a_416 k_410 .char (4 : Int32) [(.int (own_cb p2)), (.int (own_cb (own_u8 p2))), (.int (0 : Int32)), (.int (0 : Int32))] (.int (0 : Int32)) := by have q := Arv.set A_437 q_438 S_439 M_440 H_441 U_442 (fits_nar_char _) W_447 1 rfl (Nat.le_of_ble_eq_true rfl); rw [own_cb_nar] at q; exact q
    obtain ⟨c_452, A_453, q_454, S_455, M_456, H_457, U_458⟩ := id V_451
    have hin_465 : ¬ ((2 : Int32) < 0 ∨ c_452.slots.size ≤ (2 : Int32).toNatClampNeg) := inb_of S_455 ⟨(by decide : ¬ ((2 : Int32) < (0 : Int32))), (by decide : (2 : Int32) < (4 : Int32))⟩
    obtain ⟨T_459, h_460, X_461, e_462, W_463, st_464⟩ := stC X_445 hx hZ e_446 A_453 (j := (2 : Int32)) hin_465 (g := (mkF m 55 #[.val (.int p0), .val (.long p1), .second, .val (.int p2), .val (.int (2 : Int32)), .val (.ref sT), .val (.ref a_416), .unset, .unset] [(.int (own_cb (own_u16 p2))), (.int (2 : Int32)), (.ref a_416)])) rfl rfl (hb hby at_55)
    have N_466 := Fr.snoc X_461 N_450 (Nat.le_trans (own_n0 X00) (Nat.le_of_eq g_417.symm))
    have V_467 : Arv Z h_460 a_416 k_410 .char (4 : Int32) [(.int (own_cb p2)), (.int (own_cb (own_u8 p2))), (.int (own_cb (own_u16 p2))), (.int (0 : Int32))] (.int (0 : Int32)) := by have q := Arv.set A_453 q_454 S_455 M_456 H_457 U_458 (fits_nar_char _) W_463 2 rfl (Nat.le_of_ble_eq_true rfl); rw [own_cb_nar] at q; exact q
    obtain ⟨c_468, A_469, q_470, S_471, M_472, H_473, U_474⟩ := id V_467
    have hin_481 : ¬ ((3 : Int32) < 0 ∨ c_468.slots.size ≤ (3 : Int32).toNatClampNeg) := inb_of S_471 ⟨(by decide : ¬ ((3 : Int32) < (0 : Int32))), (by decide : (3 : Int32) < (4 : Int32))⟩
    obtain ⟨T_475, h_476, X_477, e_478, W_479, st_480⟩ := stC X_461 hx hZ e_462 A_469 (j := (3 : Int32)) hin_481 (g := (mkF m 68 #[.val (.int p0), .val (.long p1), .second, .val (.int p2), .val (.int (2 : Int32)), .val (.ref sT), .val (.ref a_416), .unset, .unset] [(.int (own_cb (own_u24 p2))), (.int (3 : Int32)), (.ref a_416)])) rfl rfl (hb hby at_68)
    have N_482 := Fr.snoc X_477 N_466 (Nat.le_trans (own_n0 X00) (Nat.le_of_eq g_417.symm))
    have V_483 : Arv Z h_476 a_416 k_410 .char (4 : Int32) [(.int (own_cb p2)), (.int (own_cb (own_u8 p2))), (.int (own_cb (own_u16 p2))), (.int (own_cb (own_u24 p2)))] (.int (0 : Int32)) := by have q := Arv.set A_469 q_470 S_471 M_472 H_473 U_474 (fits_nar_char _) W_479 3 rfl (Nat.le_of_ble_eq_true rfl); rw [own_cb_nar] at q; exact q
    obtain ⟨T_484, h_485, X_486, e_487, E_488, A_489, D_490, U_494, st_491⟩ := newO X_477 hx hZ hown (w9 hw) (w10 hw) (w11 hw) e_478 (g := (mkF m 69 #[.val (.int p0), .val (.long p1), .second, .val (.int p2), .val (.int (2 : Int32)), .val (.ref sT), .val (.ref a_416), .unset, .unset] [])) rfl (hb hby at_69) (by decide) (by decide)
    obtain ⟨a_492, g_493⟩ : ∃ z, z = h_476.size := ⟨_, rfl⟩
    rw [← g_493] at A_489 D_490 st_491 U_494
    have O_495 : Old Z n0 h_476 := (((((X00.ext E_413).wr W_431 (Nat.le_trans (own_n0 X00) (Nat.le_of_eq g_417.symm))).wr W_447 (Nat.le_trans (own_n0 X00) (Nat.le_of_eq g_417.symm))).wr W_463 (Nat.le_trans (own_n0 X00) (Nat.le_of_eq g_417.symm))).wr W_479 (Nat.le_trans (own_n0 X00) (Nat.le_of_eq g_417.symm)))
    have V_496 : Arv Z h_485 a_416 k_410 .char (4 : Int32) [(.int (own_cb p2)), (.int (own_cb (own_u8 p2))), (.int (own_cb (own_u16 p2))), (.int (own_cb (own_u24 p2)))] (.int (0 : Int32)) := (V_483.ext E_488)
    have O_497 : Old Z n0 h_485 := (O_495.ext E_488)
    obtain ⟨_, _, ⟨T_498, L_498, k_498, n_498⟩, -, X_498, ⟨Lc_498, hQ_498, l_498, y_498, z_498⟩, st_498⟩ := X_486.specialBack hx (y := M99) rfl hown (mvT hZ (w12 hw)) (mvT hZ (w13 hw)) (mvT hZ (w14 hw)) (by decide) (backOf (W := 1) (rm_si1_4 l Z a0 hw [] G1 sI sL sT sC sU dZ iE HG h_485 n0 O_497 a_492 a_416 k_410 (own_cb p2) (own_cb (own_u8 p2)) (own_cb (own_u16 p2)) (own_cb (own_u24 p2)) A_489 (D_490 (Or.inr (w37 hw)) (ty := (.array .byte)) (by decide)) (D_490 (Or.inr (w35 hw)) (ty := .byte) (by decide)) (Nat.le_trans (own_n0 O_495) (Nat.le_of_eq g_493.symm)) V_496 (own_cb_hi p2) (own_cb_hi (own_u8 p2)) (own_cb_hi (own_u16 p2)) (own_cb_hi (own_u24 p2))) hZ (w14 hw) (w11 hw) (by decide) (by decide)) (g := (mkF m 75 #[.val (.int p0), .val (.long p1), .second, .val (.int p2), .val (.int (2 : Int32)), .val (.ref sT), .val (.ref a_416), .unset, .unset] [(.ref a_416), (.ref a_492), (.ref a_492)])) rfl (by rw [hml]; rfl) (Steps.refl _) (a := a_492) (argsL := [(.ref a_416)]) (rest := [(.ref a_492)]) (lenOf pd_676 rfl) rfl (by show 2 * 0 + _ ≤ _; exact Nat.le_of_eq rfl) (hb hby at_75) (fun _ _ => ⟨rfl, e_487, (by decide : 2 + 1 ≤ _), (by decide : 8 + 4 ≤ _)⟩)
    dsimp only [Pt.U, Pt.locs, Pt.cells, Pt.slots] at X_498 l_498 y_498 z_498 st_498 hQ_498
    subst l_498 y_498 z_498
    obtain ⟨a_499, k_500, rfl, N_501, K_502, g_503, g_504, g_505, g_506, g_507⟩ := hQ_498
    have N_508 := Fr.app N_482 N_501
    have O_509 : Old Z n0 T_498.heap := (O_497.keep K_502 (allS (Nat.le_trans (own_n0 O_495) (Nat.le_of_eq g_493.symm)) all0))
    obtain ⟨_, _, ⟨T_510, L_510, k_510, n_510⟩, -, X_510, ⟨Lc_510, hQ_510, l_510, y_510, z_510⟩, st_510⟩ := Jvm.LawKit.callS X_498 hx (y := M587) hown (mvT hZ (w38 hw)) (mvT hZ (w39 hw)) (mvT hZ (w40 hw)) (mvT hZ (w41 hw)) (by decide) (backOf (W := 0) (rm_ofN l Z a0 hw [] G1 sI sL sT sC sU dZ iE HG T_498.heap n0 O_509 sT p1 a_492 NsT) hZ (w41 hw) (w40 hw) (by decide) (by decide)) (g := (mkF m 85 #[.val (.int p0), .val (.long p1), .second, .val (.int p2), .val (.int (2 : Int32)), .val (.ref sT), .val (.ref a_416), .val (.ref a_492), .unset] [(.ref a_492), (.long p1), (.ref sT)])) rfl (by rw [hml]; rfl) (argsL := [(.ref sT), (.long p1), (.ref a_492)]) (rest := []) (lenOf pd_680 rfl) rfl (by show 2 * 0 + _ ≤ _; exact Nat.le_of_eq rfl) (hb hby at_85) (fun _ _ => ⟨rfl, rfl, (by decide : 3 + 2 ≤ _), (by decide : 12 + 7 ≤ _)⟩)
    dsimp only [Pt.U, Pt.locs, Pt.cells, Pt.slots] at X_510 l_510 y_510 z_510 st_510 hQ_510
    subst l_510 y_510 z_510
    obtain ⟨a_511, a_512, j_513, i_514, rfl, N_515, K_516, g_517, g_518, g_519, g_520, g_521, g_522, g_523, g_524, g_525, g_526, g_527, g_528⟩ := hQ_510
    have N_529 := Fr.app N_508 N_515
    have O_530 : Old Z n0 T_510.heap := (O_509.keep K_516 all0)
    obtain ⟨q_532, q_533, q_534, q_535, q_536⟩ := isOf (T := T_510) hZ rfl g_518
    obtain ⟨_, _, ⟨T_531, L_531, k_531, n_531⟩, -, X_531, ⟨Lc_531, hQ_531, l_531, y_531, z_531⟩, st_531⟩ := X_510.virtualBack hx (y := M631) (z := M631) hown (mvT hZ (w100 hw)) (mvT hZ (w101 hw)) (notFace_of_selects (args := #[]) (mvT hZ (w103 hw))) (mvT hZ (w103 hw)) (mvT hZ (w102 hw)) (by decide) (backOf (W := 0) (rm_gst l Z a0 hw [] G1 sI sL sT sC sU dZ iE HG T_510.heap n0 O_530 a_511 sT g_520) hZ (w104 hw) (w40 hw) (by decide) (by decide)) q_534 q_536 (g := (mkF m 92 #[.val (.int p0), .val (.long p1), .second, .val (.int p2), .val (.int (2 : Int32)), .val (.ref sT), .val (.ref a_416), .val (.ref a_492), .val (.ref a_511)] [(.ref a_511)])) rfl (by rw [hml]; rfl) (Steps.refl _) (argsL := []) (rest := []) (lenOf pd_684 rfl) rfl (by show 2 * 0 + _ ≤ _; exact Nat.le_of_eq rfl) (hb hby at_92) (fun _ _ => ⟨rfl, rfl, (by decide : 5 + 0 ≤ _), (by decide : 19 + 0 ≤ _)⟩)
    dsimp only [Pt.U, Pt.locs, Pt.cells, Pt.slots] at X_531 l_531 y_531 z_531 st_531 hQ_531
    subst l_531 y_531 z_531
    obtain ⟨rfl, N_537, e_538⟩ := hQ_531
    have N_539 := Fr.app N_529 N_537
    have e_540 : T_531.heap = T_510.heap := e_538
    obtain ⟨q_542, q_543, q_544, q_545, q_546⟩ := isOf (T := T_531) hZ e_540 g_518
    obtain ⟨_, _, ⟨T_541, L_541, k_541, n_541⟩, -, X_541, ⟨Lc_541, hQ_541, l_541, y_541, z_541⟩, st_541⟩ := X_531.virtualBackUp hx (owner := "com/example/expiring_state/expiringstate/Answer") (x := M694) (y := M635) hown (mvT hZ (w105 hw)) (mvT hZ (w106 hw)) (mvT hZ (w107 hw)) (by decide) (mvT hZ (w109 hw)) (mvT hZ (w108 hw)) (backOf (W := 0) (rm_gws l Z a0 hw [] G1 sI sL sT sC sU dZ iE HG T_510.heap n0 O_530 a_511 g_519) hZ (w110 hw) (w87 hw) (by decide) (by decide)) q_544 q_546 (g := (mkF m 104 #[.val (.int p0), .val (.long p1), .second, .val (.int p2), .val (.int (2 : Int32)), .val (.ref sT), .val (.ref a_416), .val (.ref a_492), .val (.ref a_511)] [(.ref a_511)])) rfl (by rw [hml]; rfl) (Steps.refl _) (argsL := []) (rest := []) (lenOf pd_690 rfl) rfl (by show 2 * 0 + _ ≤ _; exact Nat.le_of_eq rfl) (hb hby at_104) (fun _ _ => ⟨rfl, e_540, (by decide : 5 + 0 ≤ _), (by decide : 19 + 0 ≤ _)⟩)
    dsimp only [Pt.U, Pt.locs, Pt.cells, Pt.slots] at X_541 l_541 y_541 z_541 st_541 hQ_541
    subst l_541 y_541 z_541
    obtain ⟨rfl, N_547, e_548⟩ := hQ_541
    have N_549 := Fr.app N_539 N_547
    have e_550 : T_541.heap = T_510.heap := e_548
    obtain ⟨T_551, X_552, e_553, st_554⟩ := getS X_541 hx hZ (host := "") hown (w5 hw) Via.refl e_550 (OsI.ext O_530.2) (g := (mkF m 114 #[.val (.int p0), .val (.long p1), .second, .val (.int p2), .val (.int (2 : Int32)), .val (.ref sT), .val (.ref a_416), .val (.ref a_492), .val (.ref a_511)] [(.ref sT)])) rfl (hb hby at_114)
    obtain ⟨q_556, q_557, q_558, q_559, q_560⟩ := isOf (T := T_551) hZ e_553 g_518
    obtain ⟨_, _, ⟨T_555, L_555, k_555, n_555⟩, -, X_555, ⟨Lc_555, hQ_555, l_555, y_555, z_555⟩, st_555⟩ := X_552.virtualBack hx (y := M662) (z := M662) hown (mvT hZ (w147 hw)) (mvT hZ (w148 hw)) (notFace_of_selects (args := #[]) (mvT hZ (w150 hw))) (mvT hZ (w150 hw)) (mvT hZ (w149 hw)) (by decide) (backOf (W := 0) (rm_gre l Z a0 hw [] G1 sI sL sT sC sU dZ iE HG T_510.heap n0 O_530 a_511 a_512 g_523) hZ (w151 hw) (w40 hw) (by decide) (by decide)) q_558 q_560 (g := (mkF m 165 #[.val (.int p0), .val (.long p1), .second, .val (.int p2), .val (.int (2 : Int32)), .val (.ref sT), .val (.ref a_416), .val (.ref a_492), .val (.ref a_511)] [(.ref a_511)])) rfl (by rw [hml]; rfl) (Steps.refl _) (argsL := []) (rest := []) (lenOf pd_722 rfl) rfl (by show 2 * 0 + _ ≤ _; exact Nat.le_of_eq rfl) (hb hby at_165) (fun _ _ => ⟨rfl, e_553, (by decide : 5 + 0 ≤ _), (by decide : 19 + 0 ≤ _)⟩)
    dsimp only [Pt.U, Pt.locs, Pt.cells, Pt.slots] at X_555 l_555 y_555 z_555 st_555 hQ_555
    subst l_555 y_555 z_555
    obtain ⟨rfl, N_561, e_562⟩ := hQ_555
    have N_563 := Fr.app N_549 N_561
    have e_564 : T_555.heap = T_510.heap := e_562
    obtain ⟨q_566, q_567, q_568, q_569, q_570⟩ := isOf (T := T_555) hZ e_564 g_524
    obtain ⟨_, _, ⟨T_565, L_565, k_565, n_565⟩, -, X_565, ⟨Lc_565, hQ_565, l_565, y_565, z_565⟩, st_565⟩ := X_555.virtualBack hx (y := M491) (z := M491) hown (mvT hZ (w178 hw)) (mvT hZ (w179 hw)) (notFace_of_selects (args := #[]) (mvT hZ (w181 hw))) (mvT hZ (w181 hw)) (mvT hZ (w180 hw)) (by decide) (backOf (W := 0) (rm_duto l Z a0 hw [] G1 sI sL sT sC sU dZ iE HG T_510.heap n0 O_530 a_512 j_513 i_514 g_525 g_526 (own_hA g_528) (own_hB g_527 g_528)) hZ (w182 hw) (w80 hw) (by decide) (by decide)) q_568 q_570 (g := (mkF m 168 #[.val (.int p0), .val (.long p1), .second, .val (.int p2), .val (.int (2 : Int32)), .val (.ref sT), .val (.ref a_416), .val (.ref a_492), .val (.ref a_511)] [(.ref a_512)])) rfl (by rw [hml]; rfl) (Steps.refl _) (argsL := []) (rest := []) (lenOf pd_716 rfl) rfl (by show 2 * 0 + _ ≤ _; exact Nat.le_of_eq rfl) (hb hby at_168) (fun _ _ => ⟨rfl, e_564, (by decide : 5 + 0 ≤ _), (by decide : 19 + 0 ≤ _)⟩)
    dsimp only [Pt.U, Pt.locs, Pt.cells, Pt.slots] at X_565 l_565 y_565 z_565 st_565 hQ_565
    subst l_565 y_565 z_565
    obtain ⟨j_571, rfl, N_572, e_573, g_574⟩ := hQ_565
    have N_575 := Fr.app N_563 N_572
    have e_576 : T_565.heap = T_510.heap := e_573
    have C_577 : Steps p.tables e below S0 (T_565.setTop (mkF m 181 #[.val (.int p0), .val (.long p1), .second, .val (.int p2), .val (.int (2 : Int32)), .val (.ref sT), .val (.ref a_416), .val (.ref a_492), .val (.ref a_511)] [(.int (1 : Int32))])) := by
      refine C_402.trans ?_
      refine XS.istore X0.here hx rfl (hb hby at_6) rfl (l' := #[.val (.int p0), .val (.long p1), .second, .val (.int p2), .val (.int (2 : Int32)), .unset, .unset, .unset, .unset]) rfl ?_
      refine XS.iload X0.here hx rfl (hb hby at_8) rfl ?_
      refine st_403 _ ?_
      refine XS.astore X_403.here hx rfl (hb hby at_13) rfl rfl (l' := #[.val (.int p0), .val (.long p1), .second, .val (.int p2), .val (.int (2 : Int32)), .val (.ref sT), .unset, .unset, .unset]) rfl ?_
      refine XS.iconst X_403.here hx rfl (hb hby at_15) ?_
      refine st_415 _ ?_
      refine XS.astore X_411.here hx rfl (hb hby at_18) rfl rfl (l' := #[.val (.int p0), .val (.long p1), .second, .val (.int p2), .val (.int (2 : Int32)), .val (.ref sT), .val (.ref a_416), .unset, .unset]) rfl ?_
      refine XS.aload X_411.here hx rfl (hb hby at_20) rfl rfl ?_
      show Steps p.tables e below (T_408.setTop (mkF m 22 #[.val (.int p0), .val (.long p1), .second, .val (.int p2), .val (.int (2 : Int32)), .val (.ref sT), .val (.ref a_416), .unset, .unset] [(.ref a_416)])) _
      refine XS.iconst X_411.here hx rfl (hb hby at_22) ?_
      refine XS.iloadN X_411.here hx rfl (hb hby at_23) rfl ?_
      refine XS.sipush X_411.here hx rfl (hb hby at_24) ?_
      refine XS.iand X_411.here hx rfl (hb hby at_27) rfl ?_
      refine XS.i2c X_411.here hx rfl (hb hby at_28) rfl ?_
      refine st_432 _ ?_
      refine XS.aload X_429.here hx rfl (hb hby at_30) rfl rfl ?_
      refine XS.iconst X_429.here hx rfl (hb hby at_32) ?_
      show Steps p.tables e below (T_427.setTop (mkF m 33 #[.val (.int p0), .val (.long p1), .second, .val (.int p2), .val (.int (2 : Int32)), .val (.ref sT), .val (.ref a_416), .unset, .unset] [(.int (1 : Int32)), (.ref a_416)])) _
      refine XS.iloadN X_429.here hx rfl (hb hby at_33) rfl ?_
      refine XS.bipush X_429.here hx rfl (hb hby at_34) ?_
      refine XS.iushr X_429.here hx rfl (hb hby at_36) rfl ?_
      refine XS.sipush X_429.here hx rfl (hb hby at_37) ?_
      refine XS.iand X_429.here hx rfl (hb hby at_40) rfl ?_
      refine XS.i2c X_429.here hx rfl (hb hby at_41) rfl ?_
      refine st_448 _ ?_
      refine XS.aload X_445.here hx rfl (hb hby at_43) rfl rfl ?_
      show Steps p.tables e below (T_443.setTop (mkF m 45 #[.val (.int p0), .val (.long p1), .second, .val (.int p2), .val (.int (2 : Int32)), .val (.ref sT), .val (.ref a_416), .unset, .unset] [(.ref a_416)])) _
      refine XS.iconst X_445.here hx rfl (hb hby at_45) ?_
      refine XS.iloadN X_445.here hx rfl (hb hby at_46) rfl ?_
      refine XS.bipush X_445.here hx rfl (hb hby at_47) ?_
      refine XS.iushr X_445.here hx rfl (hb hby at_49) rfl ?_
      refine XS.sipush X_445.here hx rfl (hb hby at_50) ?_
      refine XS.iand X_445.here hx rfl (hb hby at_53) rfl ?_
      refine XS.i2c X_445.here hx rfl (hb hby at_54) rfl ?_
      refine st_464 _ ?_
      show Steps p.tables e below (T_459.setTop (mkF m 56 #[.val (.int p0), .val (.long p1), .second, .val (.int p2), .val (.int (2 : Int32)), .val (.ref sT), .val (.ref a_416), .unset, .unset] [])) _
      refine XS.aload X_461.here hx rfl (hb hby at_56) rfl rfl ?_
      refine XS.iconst X_461.here hx rfl (hb hby at_58) ?_
      refine XS.iloadN X_461.here hx rfl (hb hby at_59) rfl ?_
      refine XS.bipush X_461.here hx rfl (hb hby at_60) ?_
      refine XS.iushr X_461.here hx rfl (hb hby at_62) rfl ?_
      refine XS.sipush X_461.here hx rfl (hb hby at_63) ?_
      refine XS.iand X_461.here hx rfl (hb hby at_66) rfl ?_
      refine XS.i2c X_461.here hx rfl (hb hby at_67) rfl ?_
      show Steps p.tables e below (T_459.setTop (mkF m 68 #[.val (.int p0), .val (.long p1), .second, .val (.int p2), .val (.int (2 : Int32)), .val (.ref sT), .val (.ref a_416), .unset, .unset] [(.int (own_cb (own_u24 p2))), (.int (3 : Int32)), (.ref a_416)])) _
      refine st_480 _ ?_
      refine st_491 _ ?_
      refine XS.dup X_486.here hx rfl (hb hby at_72) rfl rfl ?_
      refine XS.aload X_486.here hx rfl (hb hby at_73) rfl rfl ?_
      refine st_498.trans ?_
      refine XS.astore X_498.here hx rfl (hb hby at_78) rfl rfl (l' := #[.val (.int p0), .val (.long p1), .second, .val (.int p2), .val (.int (2 : Int32)), .val (.ref sT), .val (.ref a_416), .val (.ref a_492), .unset]) rfl ?_
      refine XS.aload X_498.here hx rfl (hb hby at_80) rfl rfl ?_
      refine XS.lloadN X_498.here hx rfl (hb hby at_82) rfl ?_
      show Steps p.tables e below (T_498.setTop (mkF m 83 #[.val (.int p0), .val (.long p1), .second, .val (.int p2), .val (.int (2 : Int32)), .val (.ref sT), .val (.ref a_416), .val (.ref a_492), .unset] [(.long p1), (.ref sT)])) _
      refine XS.aload X_498.here hx rfl (hb hby at_83) rfl rfl ?_
      refine st_510 _ ?_
      refine XS.astore X_510.here hx rfl (hb hby at_88) rfl rfl (l' := #[.val (.int p0), .val (.long p1), .second, .val (.int p2), .val (.int (2 : Int32)), .val (.ref sT), .val (.ref a_416), .val (.ref a_492), .val (.ref a_511)]) rfl ?_
      refine XS.aload X_510.here hx rfl (hb hby at_90) rfl rfl ?_
      refine st_531.trans ?_
      refine XS.aload X_531.here hx rfl (hb hby at_95) rfl rfl ?_
      refine acmp X_531 hx rfl (cd := .eq) (x := (.ref sT)) (y := (.ref sT)) rfl rfl (same := true) (pc0 := 97) (pc' := 102) rfl (hb hby at_97) rfl (decide_eq_true rfl) (by decide) (by decide) ?_
      refine XS.aload X_531.here hx rfl (hb hby at_102) rfl rfl ?_
      show Steps p.tables e below (T_531.setTop (mkF m 104 #[.val (.int p0), .val (.long p1), .second, .val (.int p2), .val (.int (2 : Int32)), .val (.ref sT), .val (.ref a_416), .val (.ref a_492), .val (.ref a_511)] [(.ref a_511)])) _
      refine st_541.trans ?_
      refine XS.ifYes X_541.here hx rfl (pc0 := 107) (pc' := 112) rfl (hb hby at_107) rfl (by decide) (by decide) (by decide) ?_
      refine XS.aload X_541.here hx rfl (hb hby at_112) rfl rfl ?_
      refine st_554 _ ?_
      refine acmp X_552 hx rfl (cd := .ne) (x := (.ref sT)) (y := (.ref sI)) rfl rfl (same := false) (pc0 := 117) (pc' := 163) rfl (hb hby at_117) rfl (decide_eq_false fun q => NsT (Value.ref.inj q)) (by decide) (by decide) ?_
      refine XS.aload X_552.here hx rfl (hb hby at_163) rfl rfl ?_
      refine st_555.trans ?_
      refine st_565.trans ?_
      show Steps p.tables e below (T_565.setTop (mkF m 171 #[.val (.int p0), .val (.long p1), .second, .val (.int p2), .val (.int (2 : Int32)), .val (.ref sT), .val (.ref a_416), .val (.ref a_492), .val (.ref a_511)] [(.long j_571)])) _
      refine XS.lloadN X_565.here hx rfl (hb hby at_171) rfl ?_
      refine XS.lcmp X_565.here hx rfl (hb hby at_172) rfl ?_
      refine XS.ifNo X_565.here hx rfl (hb hby at_173) rfl (i0_ne_f ((lw_eq j_571 p1).mpr (own_back g_574 g_527 g_528))) ?_
      refine XS.iconst X_565.here hx rfl (hb hby at_176) ?_
      refine XS.goto X_565.here hx rfl (pc0 := 177) (pc' := 181) rfl (hb hby at_177) (by decide) (by decide) ?_
      exact Steps.refl _
    have K_578 : Keep h0 T_510.heap [] := (((((((((Keep.refl _ _).ext E_413).wr W_431 (Or.inr (Nat.le_trans (Nat.le_refl _) (Nat.le_of_eq g_417.symm)))).wr W_447 (Or.inr (Nat.le_trans (Nat.le_refl _) (Nat.le_of_eq g_417.symm)))).wr W_463 (Or.inr (Nat.le_trans (Nat.le_refl _) (Nat.le_of_eq g_417.symm)))).wr W_479 (Or.inr (Nat.le_trans (Nat.le_refl _) (Nat.le_of_eq g_417.symm)))).ext E_488).trans K_502 (allS (Or.inr (Nat.le_trans (Nat.le_trans (Nat.le_trans (Nat.le_trans (Nat.le_trans E_413.1 (Keep.of_wr W_431).1) (Keep.of_wr W_447).1) (Keep.of_wr W_463).1) (Keep.of_wr W_479).1) (Nat.le_of_eq g_493.symm))) all0)).trans K_516 all0)
    obtain ⟨fs, hr, hrun, hended, hW, hsame⟩ := X_565.leave (v := some (.int (1 : Int32))) (fun h => by rw [Bd.returns] at h; cases h)
    refine ⟨_, _, C_577.trans (retN X_565 hx (t := .boolean) Bd.returns (by simp) (hb hby at_181) hr), hrun, hended, _, _, rfl, ?_, ⟨_, rfl⟩, hW, hsame.mono (by decide) (by decide)⟩
    show Q_law Z G1 sI sL sT sC sU dZ iE p0 p1 p2 h0 n0 (some (.int (1 : Int32))) T_565.heap _
    rw [e_576]
    exact ⟨rfl, N_575, K_578⟩
  · skip
    have C_579 : Steps p.tables e below S0 (s₁.setTop (mkF m 6 #[.val (.int p0), .val (.long p1), .second, .val (.int p2), .unset, .unset, .unset, .unset, .unset] [(.int (3 : Int32))])) := by have q := C_1; rw [hn_5] at q; exact q
    obtain ⟨_, _, ⟨T_580, L_580, k_580, n_580⟩, -, X_580, ⟨Lc_580, hQ_580, l_580, y_580, z_580⟩, st_580⟩ := Jvm.LawKit.callS X0 hx (y := M121) hown (mvT hZ (w1 hw)) (mvT hZ (w2 hw)) (mvT hZ (w3 hw)) (mvT hZ (w4 hw)) (by decide) (backOf (W := 0) (rm_pick_3 l Z a0 hw [] G1 sI sL sT sC sU dZ iE HG h0 n0 X00  ) hZ (w4 hw) (w3 hw) (by decide) (by decide)) (g := (mkF m 10 #[.val (.int p0), .val (.long p1), .second, .val (.int p2), .val (.int (3 : Int32)), .unset, .unset, .unset, .unset] [(.int (3 : Int32))])) rfl (by rw [hml]; rfl) (argsL := [(.int (3 : Int32))]) (rest := []) (lenOf pd_670 rfl) rfl (by show 2 * 0 + _ ≤ _; exact Nat.le_of_eq rfl) (hb hby at_10) (fun _ _ => ⟨rfl, e0, (by decide : 0 + 0 ≤ _), (by decide : 0 + 0 ≤ _)⟩)
    dsimp only [Pt.U, Pt.locs, Pt.cells, Pt.slots] at X_580 l_580 y_580 z_580 st_580 hQ_580
    subst l_580 y_580 z_580
    obtain ⟨rfl, N_581, e_582⟩ := hQ_580
    have N_583 := Fr.app N0 N_581
    have e_584 : T_580.heap = h0 := e_582
    obtain ⟨T_585, h_586, k_587, X_588, e_589, E_590, A_591, st_592⟩ := newP (aty := .char) X_580 hx hZ (w8 hw) e_584 (g := (mkF m 16 #[.val (.int p0), .val (.long p1), .second, .val (.int p2), .val (.int (3 : Int32)), .val (.ref sC), .unset, .unset, .unset] [(.int (4 : Int32))])) rfl (hb hby at_16) rfl (by decide : ¬ ((4 : Int32) < (0 : Int32))) (cap := 4) (by decide : (4 : Int32).toNatClampNeg ≤ 4) (by decide) (by decide) (by decide)
    obtain ⟨a_593, g_594⟩ : ∃ z, z = h0.size := ⟨_, rfl⟩
    rw [← g_594] at A_591 st_592
    have V_596 : Arv Z h_586 a_593 k_587 .char (4 : Int32) [] (.int (0 : Int32)) := Arv.new A_591 (by decide : ¬ ((4 : Int32) < (0 : Int32)))
    have V_595 : Arv Z h_586 a_593 k_587 .char (4 : Int32) [(.int (0 : Int32)), (.int (0 : Int32)), (.int (0 : Int32)), (.int (0 : Int32))] (.int (0 : Int32)) := (V_596.pad (pad_rep [] (.int (0 : Int32)) 4))
    obtain ⟨c_597, A_598, q_599, S_600, M_601, H_602, U_603⟩ := id V_595
    have hin_610 : ¬ ((0 : Int32) < 0 ∨ c_597.slots.size ≤ (0 : Int32).toNatClampNeg) := inb_of S_600 ⟨(by decide : ¬ ((0 : Int32) < (0 : Int32))), (by decide : (0 : Int32) < (4 : Int32))⟩
    obtain ⟨T_604, h_605, X_606, e_607, W_608, st_609⟩ := stC X_588 hx hZ e_589 A_598 (j := (0 : Int32)) hin_610 (g := (mkF m 29 #[.val (.int p0), .val (.long p1), .second, .val (.int p2), .val (.int (3 : Int32)), .val (.ref sC), .val (.ref a_593), .unset, .unset] [(.int (own_cb p2)), (.int (0 : Int32)), (.ref a_593)])) rfl rfl (hb hby at_29)
    have N_611 := Fr.snoc X_606 N_583 (Nat.le_trans (own_n0 X00) (Nat.le_of_eq g_594.symm))
    have V_612 : Arv Z h_605 a_593 k_587 .char (4 : Int32) [(.int (own_cb p2)), (.int (0 : Int32)), (.int (0 : Int32)), (.int (0 : Int32))] (.int (0 : Int32)) := by have q := Arv.set A_598 q_599 S_600 M_601 H_602 U_603 (fits_nar_char _) W_608 0 rfl (Nat.le_of_ble_eq_true rfl); rw [own_cb_nar] at q; exact q
    obtain ⟨c_613, A_614, q_615, S_616, M_617, H_618, U_619⟩ := id V_612
    have hin_626 : ¬ ((1 : Int32) < 0 ∨ c_613.slots.size ≤ (1 : Int32).toNatClampNeg) := inb_of S_616 ⟨(by decide : ¬ ((1 : Int32) < (0 : Int32))), (by decide : (1 : Int32) < (4 : Int32))⟩
    obtain ⟨T_620, h_621, X_622, e_623, W_624, st_625⟩ := stC X_606 hx hZ e_607 A_614 (j := (1 : Int32)) hin_626 (g := (mkF m 42 #[.val (.int p0), .val (.long p1), .second, .val (.int p2), .val (.int (3 : Int32)), .val (.ref sC), .val (.ref a_593), .unset, .unset] [(.int (own_cb (own_u8 p2))), (.int (1 : Int32)), (.ref a_593)])) rfl rfl (hb hby at_42)
    have N_627 := Fr.snoc X_622 N_611 (Nat.le_trans (own_n0 X00) (Nat.le_of_eq g_594.symm))
    have V_628 : Arv Z h_621 a_593 k_587 .char (4 : Int32) [(.int (own_cb p2)), (.int (own_cb (own_u8 p2))), (.int (0 : Int32)), (.int (0 : Int32))] (.int (0 : Int32)) := by have q := Arv.set A_614 q_615 S_616 M_617 H_618 U_619 (fits_nar_char _) W_624 1 rfl (Nat.le_of_ble_eq_true rfl); rw [own_cb_nar] at q; exact q
    obtain ⟨c_629, A_630, q_631, S_632, M_633, H_634, U_635⟩ := id V_628
    have hin_642 : ¬ ((2 : Int32) < 0 ∨ c_629.slots.size ≤ (2 : Int32).toNatClampNeg) := inb_of S_632 ⟨(by decide : ¬ ((2 : Int32) < (0 : Int32))), (by decide : (2 : Int32) < (4 : Int32))⟩
    obtain ⟨T_636, h_637, X_638, e_639, W_640, st_641⟩ := stC X_622 hx hZ e_623 A_630 (j := (2 : Int32)) hin_642 (g := (mkF m 55 #[.val (.int p0), .val (.long p1), .second, .val (.int p2), .val (.int (3 : Int32)), .val (.ref sC), .val (.ref a_593), .unset, .unset] [(.int (own_cb (own_u16 p2))), (.int (2 : Int32)), (.ref a_593)])) rfl rfl (hb hby at_55)
    have N_643 := Fr.snoc X_638 N_627 (Nat.le_trans (own_n0 X00) (Nat.le_of_eq g_594.symm))
    have V_644 : Arv Z h_637 a_593 k_587 .char (4 : Int32) [(.int (own_cb p2)), (.int (own_cb (own_u8 p2))), (.int (own_cb (own_u16 p2))), (.int (0 : Int32))] (.int (0 : Int32)) := by have q := Arv.set A_630 q_631 S_632 M_633 H_634 U_635 (fits_nar_char _) W_640 2 rfl (Nat.le_of_ble_eq_true rfl); rw [own_cb_nar] at q; exact q
    obtain ⟨c_645, A_646, q_647, S_648, M_649, H_650, U_651⟩ := id V_644
    have hin_658 : ¬ ((3 : Int32) < 0 ∨ c_645.slots.size ≤ (3 : Int32).toNatClampNeg) := inb_of S_648 ⟨(by decide : ¬ ((3 : Int32) < (0 : Int32))), (by decide : (3 : Int32) < (4 : Int32))⟩
    obtain ⟨T_652, h_653, X_654, e_655, W_656, st_657⟩ := stC X_638 hx hZ e_639 A_646 (j := (3 : Int32)) hin_658 (g := (mkF m 68 #[.val (.int p0), .val (.long p1), .second, .val (.int p2), .val (.int (3 : Int32)), .val (.ref sC), .val (.ref a_593), .unset, .unset] [(.int (own_cb (own_u24 p2))), (.int (3 : Int32)), (.ref a_593)])) rfl rfl (hb hby at_68)
    have N_659 := Fr.snoc X_654 N_643 (Nat.le_trans (own_n0 X00) (Nat.le_of_eq g_594.symm))
    have V_660 : Arv Z h_653 a_593 k_587 .char (4 : Int32) [(.int (own_cb p2)), (.int (own_cb (own_u8 p2))), (.int (own_cb (own_u16 p2))), (.int (own_cb (own_u24 p2)))] (.int (0 : Int32)) := by have q := Arv.set A_646 q_647 S_648 M_649 H_650 U_651 (fits_nar_char _) W_656 3 rfl (Nat.le_of_ble_eq_true rfl); rw [own_cb_nar] at q; exact q
    obtain ⟨T_661, h_662, X_663, e_664, E_665, A_666, D_667, U_671, st_668⟩ := newO X_654 hx hZ hown (w9 hw) (w10 hw) (w11 hw) e_655 (g := (mkF m 69 #[.val (.int p0), .val (.long p1), .second, .val (.int p2), .val (.int (3 : Int32)), .val (.ref sC), .val (.ref a_593), .unset, .unset] [])) rfl (hb hby at_69) (by decide) (by decide)
    obtain ⟨a_669, g_670⟩ : ∃ z, z = h_653.size := ⟨_, rfl⟩
    rw [← g_670] at A_666 D_667 st_668 U_671
    have O_672 : Old Z n0 h_653 := (((((X00.ext E_590).wr W_608 (Nat.le_trans (own_n0 X00) (Nat.le_of_eq g_594.symm))).wr W_624 (Nat.le_trans (own_n0 X00) (Nat.le_of_eq g_594.symm))).wr W_640 (Nat.le_trans (own_n0 X00) (Nat.le_of_eq g_594.symm))).wr W_656 (Nat.le_trans (own_n0 X00) (Nat.le_of_eq g_594.symm)))
    have V_673 : Arv Z h_662 a_593 k_587 .char (4 : Int32) [(.int (own_cb p2)), (.int (own_cb (own_u8 p2))), (.int (own_cb (own_u16 p2))), (.int (own_cb (own_u24 p2)))] (.int (0 : Int32)) := (V_660.ext E_665)
    have O_674 : Old Z n0 h_662 := (O_672.ext E_665)
    obtain ⟨_, _, ⟨T_675, L_675, k_675, n_675⟩, -, X_675, ⟨Lc_675, hQ_675, l_675, y_675, z_675⟩, st_675⟩ := X_663.specialBack hx (y := M99) rfl hown (mvT hZ (w12 hw)) (mvT hZ (w13 hw)) (mvT hZ (w14 hw)) (by decide) (backOf (W := 1) (rm_si1_4 l Z a0 hw [] G1 sI sL sT sC sU dZ iE HG h_662 n0 O_674 a_669 a_593 k_587 (own_cb p2) (own_cb (own_u8 p2)) (own_cb (own_u16 p2)) (own_cb (own_u24 p2)) A_666 (D_667 (Or.inr (w37 hw)) (ty := (.array .byte)) (by decide)) (D_667 (Or.inr (w35 hw)) (ty := .byte) (by decide)) (Nat.le_trans (own_n0 O_672) (Nat.le_of_eq g_670.symm)) V_673 (own_cb_hi p2) (own_cb_hi (own_u8 p2)) (own_cb_hi (own_u16 p2)) (own_cb_hi (own_u24 p2))) hZ (w14 hw) (w11 hw) (by decide) (by decide)) (g := (mkF m 75 #[.val (.int p0), .val (.long p1), .second, .val (.int p2), .val (.int (3 : Int32)), .val (.ref sC), .val (.ref a_593), .unset, .unset] [(.ref a_593), (.ref a_669), (.ref a_669)])) rfl (by rw [hml]; rfl) (Steps.refl _) (a := a_669) (argsL := [(.ref a_593)]) (rest := [(.ref a_669)]) (lenOf pd_676 rfl) rfl (by show 2 * 0 + _ ≤ _; exact Nat.le_of_eq rfl) (hb hby at_75) (fun _ _ => ⟨rfl, e_664, (by decide : 2 + 1 ≤ _), (by decide : 8 + 4 ≤ _)⟩)
    dsimp only [Pt.U, Pt.locs, Pt.cells, Pt.slots] at X_675 l_675 y_675 z_675 st_675 hQ_675
    subst l_675 y_675 z_675
    obtain ⟨a_676, k_677, rfl, N_678, K_679, g_680, g_681, g_682, g_683, g_684⟩ := hQ_675
    have N_685 := Fr.app N_659 N_678
    have O_686 : Old Z n0 T_675.heap := (O_674.keep K_679 (allS (Nat.le_trans (own_n0 O_672) (Nat.le_of_eq g_670.symm)) all0))
    obtain ⟨_, _, ⟨T_687, L_687, k_687, n_687⟩, -, X_687, ⟨Lc_687, hQ_687, l_687, y_687, z_687⟩, st_687⟩ := Jvm.LawKit.callS X_675 hx (y := M587) hown (mvT hZ (w38 hw)) (mvT hZ (w39 hw)) (mvT hZ (w40 hw)) (mvT hZ (w41 hw)) (by decide) (backOf (W := 0) (rm_ofN l Z a0 hw [] G1 sI sL sT sC sU dZ iE HG T_675.heap n0 O_686 sC p1 a_669 NsC) hZ (w41 hw) (w40 hw) (by decide) (by decide)) (g := (mkF m 85 #[.val (.int p0), .val (.long p1), .second, .val (.int p2), .val (.int (3 : Int32)), .val (.ref sC), .val (.ref a_593), .val (.ref a_669), .unset] [(.ref a_669), (.long p1), (.ref sC)])) rfl (by rw [hml]; rfl) (argsL := [(.ref sC), (.long p1), (.ref a_669)]) (rest := []) (lenOf pd_680 rfl) rfl (by show 2 * 0 + _ ≤ _; exact Nat.le_of_eq rfl) (hb hby at_85) (fun _ _ => ⟨rfl, rfl, (by decide : 3 + 2 ≤ _), (by decide : 12 + 7 ≤ _)⟩)
    dsimp only [Pt.U, Pt.locs, Pt.cells, Pt.slots] at X_687 l_687 y_687 z_687 st_687 hQ_687
    subst l_687 y_687 z_687
    obtain ⟨a_688, a_689, j_690, i_691, rfl, N_692, K_693, g_694, g_695, g_696, g_697, g_698, g_699, g_700, g_701, g_702, g_703, g_704, g_705⟩ := hQ_687
    have N_706 := Fr.app N_685 N_692
    have O_707 : Old Z n0 T_687.heap := (O_686.keep K_693 all0)
    obtain ⟨q_709, q_710, q_711, q_712, q_713⟩ := isOf (T := T_687) hZ rfl g_695
    obtain ⟨_, _, ⟨T_708, L_708, k_708, n_708⟩, -, X_708, ⟨Lc_708, hQ_708, l_708, y_708, z_708⟩, st_708⟩ := X_687.virtualBack hx (y := M631) (z := M631) hown (mvT hZ (w100 hw)) (mvT hZ (w101 hw)) (notFace_of_selects (args := #[]) (mvT hZ (w103 hw))) (mvT hZ (w103 hw)) (mvT hZ (w102 hw)) (by decide) (backOf (W := 0) (rm_gst l Z a0 hw [] G1 sI sL sT sC sU dZ iE HG T_687.heap n0 O_707 a_688 sC g_697) hZ (w104 hw) (w40 hw) (by decide) (by decide)) q_711 q_713 (g := (mkF m 92 #[.val (.int p0), .val (.long p1), .second, .val (.int p2), .val (.int (3 : Int32)), .val (.ref sC), .val (.ref a_593), .val (.ref a_669), .val (.ref a_688)] [(.ref a_688)])) rfl (by rw [hml]; rfl) (Steps.refl _) (argsL := []) (rest := []) (lenOf pd_684 rfl) rfl (by show 2 * 0 + _ ≤ _; exact Nat.le_of_eq rfl) (hb hby at_92) (fun _ _ => ⟨rfl, rfl, (by decide : 5 + 0 ≤ _), (by decide : 19 + 0 ≤ _)⟩)
    dsimp only [Pt.U, Pt.locs, Pt.cells, Pt.slots] at X_708 l_708 y_708 z_708 st_708 hQ_708
    subst l_708 y_708 z_708
    obtain ⟨rfl, N_714, e_715⟩ := hQ_708
    have N_716 := Fr.app N_706 N_714
    have e_717 : T_708.heap = T_687.heap := e_715
    obtain ⟨q_719, q_720, q_721, q_722, q_723⟩ := isOf (T := T_708) hZ e_717 g_695
    obtain ⟨_, _, ⟨T_718, L_718, k_718, n_718⟩, -, X_718, ⟨Lc_718, hQ_718, l_718, y_718, z_718⟩, st_718⟩ := X_708.virtualBackUp hx (owner := "com/example/expiring_state/expiringstate/Answer") (x := M694) (y := M635) hown (mvT hZ (w105 hw)) (mvT hZ (w106 hw)) (mvT hZ (w107 hw)) (by decide) (mvT hZ (w109 hw)) (mvT hZ (w108 hw)) (backOf (W := 0) (rm_gws l Z a0 hw [] G1 sI sL sT sC sU dZ iE HG T_687.heap n0 O_707 a_688 g_696) hZ (w110 hw) (w87 hw) (by decide) (by decide)) q_721 q_723 (g := (mkF m 104 #[.val (.int p0), .val (.long p1), .second, .val (.int p2), .val (.int (3 : Int32)), .val (.ref sC), .val (.ref a_593), .val (.ref a_669), .val (.ref a_688)] [(.ref a_688)])) rfl (by rw [hml]; rfl) (Steps.refl _) (argsL := []) (rest := []) (lenOf pd_690 rfl) rfl (by show 2 * 0 + _ ≤ _; exact Nat.le_of_eq rfl) (hb hby at_104) (fun _ _ => ⟨rfl, e_717, (by decide : 5 + 0 ≤ _), (by decide : 19 + 0 ≤ _)⟩)
    dsimp only [Pt.U, Pt.locs, Pt.cells, Pt.slots] at X_718 l_718 y_718 z_718 st_718 hQ_718
    subst l_718 y_718 z_718
    obtain ⟨rfl, N_724, e_725⟩ := hQ_718
    have N_726 := Fr.app N_716 N_724
    have e_727 : T_718.heap = T_687.heap := e_725
    obtain ⟨T_728, X_729, e_730, st_731⟩ := getS X_718 hx hZ (host := "") hown (w5 hw) Via.refl e_727 (OsI.ext O_707.2) (g := (mkF m 114 #[.val (.int p0), .val (.long p1), .second, .val (.int p2), .val (.int (3 : Int32)), .val (.ref sC), .val (.ref a_593), .val (.ref a_669), .val (.ref a_688)] [(.ref sC)])) rfl (hb hby at_114)
    obtain ⟨q_733, q_734, q_735, q_736, q_737⟩ := isOf (T := T_728) hZ e_730 g_695
    obtain ⟨_, _, ⟨T_732, L_732, k_732, n_732⟩, -, X_732, ⟨Lc_732, hQ_732, l_732, y_732, z_732⟩, st_732⟩ := X_729.virtualBack hx (y := M662) (z := M662) hown (mvT hZ (w147 hw)) (mvT hZ (w148 hw)) (notFace_of_selects (args := #[]) (mvT hZ (w150 hw))) (mvT hZ (w150 hw)) (mvT hZ (w149 hw)) (by decide) (backOf (W := 0) (rm_gre l Z a0 hw [] G1 sI sL sT sC sU dZ iE HG T_687.heap n0 O_707 a_688 a_689 g_700) hZ (w151 hw) (w40 hw) (by decide) (by decide)) q_735 q_737 (g := (mkF m 165 #[.val (.int p0), .val (.long p1), .second, .val (.int p2), .val (.int (3 : Int32)), .val (.ref sC), .val (.ref a_593), .val (.ref a_669), .val (.ref a_688)] [(.ref a_688)])) rfl (by rw [hml]; rfl) (Steps.refl _) (argsL := []) (rest := []) (lenOf pd_722 rfl) rfl (by show 2 * 0 + _ ≤ _; exact Nat.le_of_eq rfl) (hb hby at_165) (fun _ _ => ⟨rfl, e_730, (by decide : 5 + 0 ≤ _), (by decide : 19 + 0 ≤ _)⟩)
    dsimp only [Pt.U, Pt.locs, Pt.cells, Pt.slots] at X_732 l_732 y_732 z_732 st_732 hQ_732
    subst l_732 y_732 z_732
    obtain ⟨rfl, N_738, e_739⟩ := hQ_732
    have N_740 := Fr.app N_726 N_738
    have e_741 : T_732.heap = T_687.heap := e_739
    obtain ⟨q_743, q_744, q_745, q_746, q_747⟩ := isOf (T := T_732) hZ e_741 g_701
    obtain ⟨_, _, ⟨T_742, L_742, k_742, n_742⟩, -, X_742, ⟨Lc_742, hQ_742, l_742, y_742, z_742⟩, st_742⟩ := X_732.virtualBack hx (y := M491) (z := M491) hown (mvT hZ (w178 hw)) (mvT hZ (w179 hw)) (notFace_of_selects (args := #[]) (mvT hZ (w181 hw))) (mvT hZ (w181 hw)) (mvT hZ (w180 hw)) (by decide) (backOf (W := 0) (rm_duto l Z a0 hw [] G1 sI sL sT sC sU dZ iE HG T_687.heap n0 O_707 a_689 j_690 i_691 g_702 g_703 (own_hA g_705) (own_hB g_704 g_705)) hZ (w182 hw) (w80 hw) (by decide) (by decide)) q_745 q_747 (g := (mkF m 168 #[.val (.int p0), .val (.long p1), .second, .val (.int p2), .val (.int (3 : Int32)), .val (.ref sC), .val (.ref a_593), .val (.ref a_669), .val (.ref a_688)] [(.ref a_689)])) rfl (by rw [hml]; rfl) (Steps.refl _) (argsL := []) (rest := []) (lenOf pd_716 rfl) rfl (by show 2 * 0 + _ ≤ _; exact Nat.le_of_eq rfl) (hb hby at_168) (fun _ _ => ⟨rfl, e_741, (by decide : 5 + 0 ≤ _), (by decide : 19 + 0 ≤ _)⟩)
    dsimp only [Pt.U, Pt.locs, Pt.cells, Pt.slots] at X_742 l_742 y_742 z_742 st_742 hQ_742
    subst l_742 y_742 z_742
    obtain ⟨j_748, rfl, N_749, e_750, g_751⟩ := hQ_742
    have N_752 := Fr.app N_740 N_749
    have e_753 : T_742.heap = T_687.heap := e_750
    have C_754 : Steps p.tables e below S0 (T_742.setTop (mkF m 181 #[.val (.int p0), .val (.long p1), .second, .val (.int p2), .val (.int (3 : Int32)), .val (.ref sC), .val (.ref a_593), .val (.ref a_669), .val (.ref a_688)] [(.int (1 : Int32))])) := by
      refine C_579.trans ?_
      refine XS.istore X0.here hx rfl (hb hby at_6) rfl (l' := #[.val (.int p0), .val (.long p1), .second, .val (.int p2), .val (.int (3 : Int32)), .unset, .unset, .unset, .unset]) rfl ?_
      refine XS.iload X0.here hx rfl (hb hby at_8) rfl ?_
      refine st_580 _ ?_
      refine XS.astore X_580.here hx rfl (hb hby at_13) rfl rfl (l' := #[.val (.int p0), .val (.long p1), .second, .val (.int p2), .val (.int (3 : Int32)), .val (.ref sC), .unset, .unset, .unset]) rfl ?_
      refine XS.iconst X_580.here hx rfl (hb hby at_15) ?_
      refine st_592 _ ?_
      refine XS.astore X_588.here hx rfl (hb hby at_18) rfl rfl (l' := #[.val (.int p0), .val (.long p1), .second, .val (.int p2), .val (.int (3 : Int32)), .val (.ref sC), .val (.ref a_593), .unset, .unset]) rfl ?_
      refine XS.aload X_588.here hx rfl (hb hby at_20) rfl rfl ?_
      show Steps p.tables e below (T_585.setTop (mkF m 22 #[.val (.int p0), .val (.long p1), .second, .val (.int p2), .val (.int (3 : Int32)), .val (.ref sC), .val (.ref a_593), .unset, .unset] [(.ref a_593)])) _
      refine XS.iconst X_588.here hx rfl (hb hby at_22) ?_
      refine XS.iloadN X_588.here hx rfl (hb hby at_23) rfl ?_
      refine XS.sipush X_588.here hx rfl (hb hby at_24) ?_
      refine XS.iand X_588.here hx rfl (hb hby at_27) rfl ?_
      refine XS.i2c X_588.here hx rfl (hb hby at_28) rfl ?_
      refine st_609 _ ?_
      refine XS.aload X_606.here hx rfl (hb hby at_30) rfl rfl ?_
      refine XS.iconst X_606.here hx rfl (hb hby at_32) ?_
      show Steps p.tables e below (T_604.setTop (mkF m 33 #[.val (.int p0), .val (.long p1), .second, .val (.int p2), .val (.int (3 : Int32)), .val (.ref sC), .val (.ref a_593), .unset, .unset] [(.int (1 : Int32)), (.ref a_593)])) _
      refine XS.iloadN X_606.here hx rfl (hb hby at_33) rfl ?_
      refine XS.bipush X_606.here hx rfl (hb hby at_34) ?_
      refine XS.iushr X_606.here hx rfl (hb hby at_36) rfl ?_
      refine XS.sipush X_606.here hx rfl (hb hby at_37) ?_
      refine XS.iand X_606.here hx rfl (hb hby at_40) rfl ?_
      refine XS.i2c X_606.here hx rfl (hb hby at_41) rfl ?_
      refine st_625 _ ?_
      refine XS.aload X_622.here hx rfl (hb hby at_43) rfl rfl ?_
      show Steps p.tables e below (T_620.setTop (mkF m 45 #[.val (.int p0), .val (.long p1), .second, .val (.int p2), .val (.int (3 : Int32)), .val (.ref sC), .val (.ref a_593), .unset, .unset] [(.ref a_593)])) _
      refine XS.iconst X_622.here hx rfl (hb hby at_45) ?_
      refine XS.iloadN X_622.here hx rfl (hb hby at_46) rfl ?_
      refine XS.bipush X_622.here hx rfl (hb hby at_47) ?_
      refine XS.iushr X_622.here hx rfl (hb hby at_49) rfl ?_
      refine XS.sipush X_622.here hx rfl (hb hby at_50) ?_
      refine XS.iand X_622.here hx rfl (hb hby at_53) rfl ?_
      refine XS.i2c X_622.here hx rfl (hb hby at_54) rfl ?_
      refine st_641 _ ?_
      show Steps p.tables e below (T_636.setTop (mkF m 56 #[.val (.int p0), .val (.long p1), .second, .val (.int p2), .val (.int (3 : Int32)), .val (.ref sC), .val (.ref a_593), .unset, .unset] [])) _
      refine XS.aload X_638.here hx rfl (hb hby at_56) rfl rfl ?_
      refine XS.iconst X_638.here hx rfl (hb hby at_58) ?_
      refine XS.iloadN X_638.here hx rfl (hb hby at_59) rfl ?_
      refine XS.bipush X_638.here hx rfl (hb hby at_60) ?_
      refine XS.iushr X_638.here hx rfl (hb hby at_62) rfl ?_
      refine XS.sipush X_638.here hx rfl (hb hby at_63) ?_
      refine XS.iand X_638.here hx rfl (hb hby at_66) rfl ?_
      refine XS.i2c X_638.here hx rfl (hb hby at_67) rfl ?_
      show Steps p.tables e below (T_636.setTop (mkF m 68 #[.val (.int p0), .val (.long p1), .second, .val (.int p2), .val (.int (3 : Int32)), .val (.ref sC), .val (.ref a_593), .unset, .unset] [(.int (own_cb (own_u24 p2))), (.int (3 : Int32)), (.ref a_593)])) _
      refine st_657 _ ?_
      refine st_668 _ ?_
      refine XS.dup X_663.here hx rfl (hb hby at_72) rfl rfl ?_
      refine XS.aload X_663.here hx rfl (hb hby at_73) rfl rfl ?_
      refine st_675.trans ?_
      refine XS.astore X_675.here hx rfl (hb hby at_78) rfl rfl (l' := #[.val (.int p0), .val (.long p1), .second, .val (.int p2), .val (.int (3 : Int32)), .val (.ref sC), .val (.ref a_593), .val (.ref a_669), .unset]) rfl ?_
      refine XS.aload X_675.here hx rfl (hb hby at_80) rfl rfl ?_
      refine XS.lloadN X_675.here hx rfl (hb hby at_82) rfl ?_
      show Steps p.tables e below (T_675.setTop (mkF m 83 #[.val (.int p0), .val (.long p1), .second, .val (.int p2), .val (.int (3 : Int32)), .val (.ref sC), .val (.ref a_593), .val (.ref a_669), .unset] [(.long p1), (.ref sC)])) _
      refine XS.aload X_675.here hx rfl (hb hby at_83) rfl rfl ?_
      refine st_687 _ ?_
      refine XS.astore X_687.here hx rfl (hb hby at_88) rfl rfl (l' := #[.val (.int p0), .val (.long p1), .second, .val (.int p2), .val (.int (3 : Int32)), .val (.ref sC), .val (.ref a_593), .val (.ref a_669), .val (.ref a_688)]) rfl ?_
      refine XS.aload X_687.here hx rfl (hb hby at_90) rfl rfl ?_
      refine st_708.trans ?_
      refine XS.aload X_708.here hx rfl (hb hby at_95) rfl rfl ?_
      refine acmp X_708 hx rfl (cd := .eq) (x := (.ref sC)) (y := (.ref sC)) rfl rfl (same := true) (pc0 := 97) (pc' := 102) rfl (hb hby at_97) rfl (decide_eq_true rfl) (by decide) (by decide) ?_
      refine XS.aload X_708.here hx rfl (hb hby at_102) rfl rfl ?_
      show Steps p.tables e below (T_708.setTop (mkF m 104 #[.val (.int p0), .val (.long p1), .second, .val (.int p2), .val (.int (3 : Int32)), .val (.ref sC), .val (.ref a_593), .val (.ref a_669), .val (.ref a_688)] [(.ref a_688)])) _
      refine st_718.trans ?_
      refine XS.ifYes X_718.here hx rfl (pc0 := 107) (pc' := 112) rfl (hb hby at_107) rfl (by decide) (by decide) (by decide) ?_
      refine XS.aload X_718.here hx rfl (hb hby at_112) rfl rfl ?_
      refine st_731 _ ?_
      refine acmp X_729 hx rfl (cd := .ne) (x := (.ref sC)) (y := (.ref sI)) rfl rfl (same := false) (pc0 := 117) (pc' := 163) rfl (hb hby at_117) rfl (decide_eq_false fun q => NsC (Value.ref.inj q)) (by decide) (by decide) ?_
      refine XS.aload X_729.here hx rfl (hb hby at_163) rfl rfl ?_
      refine st_732.trans ?_
      refine st_742.trans ?_
      show Steps p.tables e below (T_742.setTop (mkF m 171 #[.val (.int p0), .val (.long p1), .second, .val (.int p2), .val (.int (3 : Int32)), .val (.ref sC), .val (.ref a_593), .val (.ref a_669), .val (.ref a_688)] [(.long j_748)])) _
      refine XS.lloadN X_742.here hx rfl (hb hby at_171) rfl ?_
      refine XS.lcmp X_742.here hx rfl (hb hby at_172) rfl ?_
      refine XS.ifNo X_742.here hx rfl (hb hby at_173) rfl (i0_ne_f ((lw_eq j_748 p1).mpr (own_back g_751 g_704 g_705))) ?_
      refine XS.iconst X_742.here hx rfl (hb hby at_176) ?_
      refine XS.goto X_742.here hx rfl (pc0 := 177) (pc' := 181) rfl (hb hby at_177) (by decide) (by decide) ?_
      exact Steps.refl _
    have K_755 : Keep h0 T_687.heap [] := (((((((((Keep.refl _ _).ext E_590).wr W_608 (Or.inr (Nat.le_trans (Nat.le_refl _) (Nat.le_of_eq g_594.symm)))).wr W_624 (Or.inr (Nat.le_trans (Nat.le_refl _) (Nat.le_of_eq g_594.symm)))).wr W_640 (Or.inr (Nat.le_trans (Nat.le_refl _) (Nat.le_of_eq g_594.symm)))).wr W_656 (Or.inr (Nat.le_trans (Nat.le_refl _) (Nat.le_of_eq g_594.symm)))).ext E_665).trans K_679 (allS (Or.inr (Nat.le_trans (Nat.le_trans (Nat.le_trans (Nat.le_trans (Nat.le_trans E_590.1 (Keep.of_wr W_608).1) (Keep.of_wr W_624).1) (Keep.of_wr W_640).1) (Keep.of_wr W_656).1) (Nat.le_of_eq g_670.symm))) all0)).trans K_693 all0)
    obtain ⟨fs, hr, hrun, hended, hW, hsame⟩ := X_742.leave (v := some (.int (1 : Int32))) (fun h => by rw [Bd.returns] at h; cases h)
    refine ⟨_, _, C_754.trans (retN X_742 hx (t := .boolean) Bd.returns (by simp) (hb hby at_181) hr), hrun, hended, _, _, rfl, ?_, ⟨_, rfl⟩, hW, hsame.mono (by decide) (by decide)⟩
    show Q_law Z G1 sI sL sT sC sU dZ iE p0 p1 p2 h0 n0 (some (.int (1 : Int32))) T_742.heap _
    rw [e_753]
    exact ⟨rfl, N_752, K_755⟩
  · skip
    have C_756 : Steps p.tables e below S0 (s₁.setTop (mkF m 6 #[.val (.int p0), .val (.long p1), .second, .val (.int p2), .unset, .unset, .unset, .unset, .unset] [(.int (4 : Int32))])) := by have q := C_1; rw [hn_6] at q; exact q
    obtain ⟨_, _, ⟨T_757, L_757, k_757, n_757⟩, -, X_757, ⟨Lc_757, hQ_757, l_757, y_757, z_757⟩, st_757⟩ := Jvm.LawKit.callS X0 hx (y := M121) hown (mvT hZ (w1 hw)) (mvT hZ (w2 hw)) (mvT hZ (w3 hw)) (mvT hZ (w4 hw)) (by decide) (backOf (W := 0) (rm_pick_4 l Z a0 hw [] G1 sI sL sT sC sU dZ iE HG h0 n0 X00  ) hZ (w4 hw) (w3 hw) (by decide) (by decide)) (g := (mkF m 10 #[.val (.int p0), .val (.long p1), .second, .val (.int p2), .val (.int (4 : Int32)), .unset, .unset, .unset, .unset] [(.int (4 : Int32))])) rfl (by rw [hml]; rfl) (argsL := [(.int (4 : Int32))]) (rest := []) (lenOf pd_670 rfl) rfl (by show 2 * 0 + _ ≤ _; exact Nat.le_of_eq rfl) (hb hby at_10) (fun _ _ => ⟨rfl, e0, (by decide : 0 + 0 ≤ _), (by decide : 0 + 0 ≤ _)⟩)
    dsimp only [Pt.U, Pt.locs, Pt.cells, Pt.slots] at X_757 l_757 y_757 z_757 st_757 hQ_757
    subst l_757 y_757 z_757
    obtain ⟨rfl, N_758, e_759⟩ := hQ_757
    have N_760 := Fr.app N0 N_758
    have e_761 : T_757.heap = h0 := e_759
    obtain ⟨T_762, h_763, k_764, X_765, e_766, E_767, A_768, st_769⟩ := newP (aty := .char) X_757 hx hZ (w8 hw) e_761 (g := (mkF m 16 #[.val (.int p0), .val (.long p1), .second, .val (.int p2), .val (.int (4 : Int32)), .val (.ref sU), .unset, .unset, .unset] [(.int (4 : Int32))])) rfl (hb hby at_16) rfl (by decide : ¬ ((4 : Int32) < (0 : Int32))) (cap := 4) (by decide : (4 : Int32).toNatClampNeg ≤ 4) (by decide) (by decide) (by decide)
    obtain ⟨a_770, g_771⟩ : ∃ z, z = h0.size := ⟨_, rfl⟩
    rw [← g_771] at A_768 st_769
    have V_773 : Arv Z h_763 a_770 k_764 .char (4 : Int32) [] (.int (0 : Int32)) := Arv.new A_768 (by decide : ¬ ((4 : Int32) < (0 : Int32)))
    have V_772 : Arv Z h_763 a_770 k_764 .char (4 : Int32) [(.int (0 : Int32)), (.int (0 : Int32)), (.int (0 : Int32)), (.int (0 : Int32))] (.int (0 : Int32)) := (V_773.pad (pad_rep [] (.int (0 : Int32)) 4))
    obtain ⟨c_774, A_775, q_776, S_777, M_778, H_779, U_780⟩ := id V_772
    have hin_787 : ¬ ((0 : Int32) < 0 ∨ c_774.slots.size ≤ (0 : Int32).toNatClampNeg) := inb_of S_777 ⟨(by decide : ¬ ((0 : Int32) < (0 : Int32))), (by decide : (0 : Int32) < (4 : Int32))⟩
    obtain ⟨T_781, h_782, X_783, e_784, W_785, st_786⟩ := stC X_765 hx hZ e_766 A_775 (j := (0 : Int32)) hin_787 (g := (mkF m 29 #[.val (.int p0), .val (.long p1), .second, .val (.int p2), .val (.int (4 : Int32)), .val (.ref sU), .val (.ref a_770), .unset, .unset] [(.int (own_cb p2)), (.int (0 : Int32)), (.ref a_770)])) rfl rfl (hb hby at_29)
    have N_788 := Fr.snoc X_783 N_760 (Nat.le_trans (own_n0 X00) (Nat.le_of_eq g_771.symm))
    have V_789 : Arv Z h_782 a_770 k_764 .char (4 : Int32) [(.int (own_cb p2)), (.int (0 : Int32)), (.int (0 : Int32)), (.int (0 : Int32))] (.int (0 : Int32)) := by have q := Arv.set A_775 q_776 S_777 M_778 H_779 U_780 (fits_nar_char _) W_785 0 rfl (Nat.le_of_ble_eq_true rfl); rw [own_cb_nar] at q; exact q
    obtain ⟨c_790, A_791, q_792, S_793, M_794, H_795, U_796⟩ := id V_789
    have hin_803 : ¬ ((1 : Int32) < 0 ∨ c_790.slots.size ≤ (1 : Int32).toNatClampNeg) := inb_of S_793 ⟨(by decide : ¬ ((1 : Int32) < (0 : Int32))), (by decide : (1 : Int32) < (4 : Int32))⟩
    obtain ⟨T_797, h_798, X_799, e_800, W_801, st_802⟩ := stC X_783 hx hZ e_784 A_791 (j := (1 : Int32)) hin_803 (g := (mkF m 42 #[.val (.int p0), .val (.long p1), .second, .val (.int p2), .val (.int (4 : Int32)), .val (.ref sU), .val (.ref a_770), .unset, .unset] [(.int (own_cb (own_u8 p2))), (.int (1 : Int32)), (.ref a_770)])) rfl rfl (hb hby at_42)
    have N_804 := Fr.snoc X_799 N_788 (Nat.le_trans (own_n0 X00) (Nat.le_of_eq g_771.symm))
    have V_805 : Arv Z h_798 a_770 k_764 .char (4 : Int32) [(.int (own_cb p2)), (.int (own_cb (own_u8 p2))), (.int (0 : Int32)), (.int (0 : Int32))] (.int (0 : Int32)) := by have q := Arv.set A_791 q_792 S_793 M_794 H_795 U_796 (fits_nar_char _) W_801 1 rfl (Nat.le_of_ble_eq_true rfl); rw [own_cb_nar] at q; exact q
    obtain ⟨c_806, A_807, q_808, S_809, M_810, H_811, U_812⟩ := id V_805
    have hin_819 : ¬ ((2 : Int32) < 0 ∨ c_806.slots.size ≤ (2 : Int32).toNatClampNeg) := inb_of S_809 ⟨(by decide : ¬ ((2 : Int32) < (0 : Int32))), (by decide : (2 : Int32) < (4 : Int32))⟩
    obtain ⟨T_813, h_814, X_815, e_816, W_817, st_818⟩ := stC X_799 hx hZ e_800 A_807 (j := (2 : Int32)) hin_819 (g := (mkF m 55 #[.val (.int p0), .val (.long p1), .second, .val (.int p2), .val (.int (4 : Int32)), .val (.ref sU), .val (.ref a_770), .unset, .unset] [(.int (own_cb (own_u16 p2))), (.int (2 : Int32)), (.ref a_770)])) rfl rfl (hb hby at_55)
    have N_820 := Fr.snoc X_815 N_804 (Nat.le_trans (own_n0 X00) (Nat.le_of_eq g_771.symm))
    have V_821 : Arv Z h_814 a_770 k_764 .char (4 : Int32) [(.int (own_cb p2)), (.int (own_cb (own_u8 p2))), (.int (own_cb (own_u16 p2))), (.int (0 : Int32))] (.int (0 : Int32)) := by have q := Arv.set A_807 q_808 S_809 M_810 H_811 U_812 (fits_nar_char _) W_817 2 rfl (Nat.le_of_ble_eq_true rfl); rw [own_cb_nar] at q; exact q
    obtain ⟨c_822, A_823, q_824, S_825, M_826, H_827, U_828⟩ := id V_821
    have hin_835 : ¬ ((3 : Int32) < 0 ∨ c_822.slots.size ≤ (3 : Int32).toNatClampNeg) := inb_of S_825 ⟨(by decide : ¬ ((3 : Int32) < (0 : Int32))), (by decide : (3 : Int32) < (4 : Int32))⟩
    obtain ⟨T_829, h_830, X_831, e_832, W_833, st_834⟩ := stC X_815 hx hZ e_816 A_823 (j := (3 : Int32)) hin_835 (g := (mkF m 68 #[.val (.int p0), .val (.long p1), .second, .val (.int p2), .val (.int (4 : Int32)), .val (.ref sU), .val (.ref a_770), .unset, .unset] [(.int (own_cb (own_u24 p2))), (.int (3 : Int32)), (.ref a_770)])) rfl rfl (hb hby at_68)
    have N_836 := Fr.snoc X_831 N_820 (Nat.le_trans (own_n0 X00) (Nat.le_of_eq g_771.symm))
    have V_837 : Arv Z h_830 a_770 k_764 .char (4 : Int32) [(.int (own_cb p2)), (.int (own_cb (own_u8 p2))), (.int (own_cb (own_u16 p2))), (.int (own_cb (own_u24 p2)))] (.int (0 : Int32)) := by have q := Arv.set A_823 q_824 S_825 M_826 H_827 U_828 (fits_nar_char _) W_833 3 rfl (Nat.le_of_ble_eq_true rfl); rw [own_cb_nar] at q; exact q
    obtain ⟨T_838, h_839, X_840, e_841, E_842, A_843, D_844, U_848, st_845⟩ := newO X_831 hx hZ hown (w9 hw) (w10 hw) (w11 hw) e_832 (g := (mkF m 69 #[.val (.int p0), .val (.long p1), .second, .val (.int p2), .val (.int (4 : Int32)), .val (.ref sU), .val (.ref a_770), .unset, .unset] [])) rfl (hb hby at_69) (by decide) (by decide)
    obtain ⟨a_846, g_847⟩ : ∃ z, z = h_830.size := ⟨_, rfl⟩
    rw [← g_847] at A_843 D_844 st_845 U_848
    have O_849 : Old Z n0 h_830 := (((((X00.ext E_767).wr W_785 (Nat.le_trans (own_n0 X00) (Nat.le_of_eq g_771.symm))).wr W_801 (Nat.le_trans (own_n0 X00) (Nat.le_of_eq g_771.symm))).wr W_817 (Nat.le_trans (own_n0 X00) (Nat.le_of_eq g_771.symm))).wr W_833 (Nat.le_trans (own_n0 X00) (Nat.le_of_eq g_771.symm)))
    have V_850 : Arv Z h_839 a_770 k_764 .char (4 : Int32) [(.int (own_cb p2)), (.int (own_cb (own_u8 p2))), (.int (own_cb (own_u16 p2))), (.int (own_cb (own_u24 p2)))] (.int (0 : Int32)) := (V_837.ext E_842)
    have O_851 : Old Z n0 h_839 := (O_849.ext E_842)
    obtain ⟨_, _, ⟨T_852, L_852, k_852, n_852⟩, -, X_852, ⟨Lc_852, hQ_852, l_852, y_852, z_852⟩, st_852⟩ := X_840.specialBack hx (y := M99) rfl hown (mvT hZ (w12 hw)) (mvT hZ (w13 hw)) (mvT hZ (w14 hw)) (by decide) (backOf (W := 1) (rm_si1_4 l Z a0 hw [] G1 sI sL sT sC sU dZ iE HG h_839 n0 O_851 a_846 a_770 k_764 (own_cb p2) (own_cb (own_u8 p2)) (own_cb (own_u16 p2)) (own_cb (own_u24 p2)) A_843 (D_844 (Or.inr (w37 hw)) (ty := (.array .byte)) (by decide)) (D_844 (Or.inr (w35 hw)) (ty := .byte) (by decide)) (Nat.le_trans (own_n0 O_849) (Nat.le_of_eq g_847.symm)) V_850 (own_cb_hi p2) (own_cb_hi (own_u8 p2)) (own_cb_hi (own_u16 p2)) (own_cb_hi (own_u24 p2))) hZ (w14 hw) (w11 hw) (by decide) (by decide)) (g := (mkF m 75 #[.val (.int p0), .val (.long p1), .second, .val (.int p2), .val (.int (4 : Int32)), .val (.ref sU), .val (.ref a_770), .unset, .unset] [(.ref a_770), (.ref a_846), (.ref a_846)])) rfl (by rw [hml]; rfl) (Steps.refl _) (a := a_846) (argsL := [(.ref a_770)]) (rest := [(.ref a_846)]) (lenOf pd_676 rfl) rfl (by show 2 * 0 + _ ≤ _; exact Nat.le_of_eq rfl) (hb hby at_75) (fun _ _ => ⟨rfl, e_841, (by decide : 2 + 1 ≤ _), (by decide : 8 + 4 ≤ _)⟩)
    dsimp only [Pt.U, Pt.locs, Pt.cells, Pt.slots] at X_852 l_852 y_852 z_852 st_852 hQ_852
    subst l_852 y_852 z_852
    obtain ⟨a_853, k_854, rfl, N_855, K_856, g_857, g_858, g_859, g_860, g_861⟩ := hQ_852
    have N_862 := Fr.app N_836 N_855
    have O_863 : Old Z n0 T_852.heap := (O_851.keep K_856 (allS (Nat.le_trans (own_n0 O_849) (Nat.le_of_eq g_847.symm)) all0))
    obtain ⟨_, _, ⟨T_864, L_864, k_864, n_864⟩, -, X_864, ⟨Lc_864, hQ_864, l_864, y_864, z_864⟩, st_864⟩ := Jvm.LawKit.callS X_852 hx (y := M587) hown (mvT hZ (w38 hw)) (mvT hZ (w39 hw)) (mvT hZ (w40 hw)) (mvT hZ (w41 hw)) (by decide) (backOf (W := 0) (rm_ofN l Z a0 hw [] G1 sI sL sT sC sU dZ iE HG T_852.heap n0 O_863 sU p1 a_846 NsU) hZ (w41 hw) (w40 hw) (by decide) (by decide)) (g := (mkF m 85 #[.val (.int p0), .val (.long p1), .second, .val (.int p2), .val (.int (4 : Int32)), .val (.ref sU), .val (.ref a_770), .val (.ref a_846), .unset] [(.ref a_846), (.long p1), (.ref sU)])) rfl (by rw [hml]; rfl) (argsL := [(.ref sU), (.long p1), (.ref a_846)]) (rest := []) (lenOf pd_680 rfl) rfl (by show 2 * 0 + _ ≤ _; exact Nat.le_of_eq rfl) (hb hby at_85) (fun _ _ => ⟨rfl, rfl, (by decide : 3 + 2 ≤ _), (by decide : 12 + 7 ≤ _)⟩)
    dsimp only [Pt.U, Pt.locs, Pt.cells, Pt.slots] at X_864 l_864 y_864 z_864 st_864 hQ_864
    subst l_864 y_864 z_864
    obtain ⟨a_865, a_866, j_867, i_868, rfl, N_869, K_870, g_871, g_872, g_873, g_874, g_875, g_876, g_877, g_878, g_879, g_880, g_881, g_882⟩ := hQ_864
    have N_883 := Fr.app N_862 N_869
    have O_884 : Old Z n0 T_864.heap := (O_863.keep K_870 all0)
    obtain ⟨q_886, q_887, q_888, q_889, q_890⟩ := isOf (T := T_864) hZ rfl g_872
    obtain ⟨_, _, ⟨T_885, L_885, k_885, n_885⟩, -, X_885, ⟨Lc_885, hQ_885, l_885, y_885, z_885⟩, st_885⟩ := X_864.virtualBack hx (y := M631) (z := M631) hown (mvT hZ (w100 hw)) (mvT hZ (w101 hw)) (notFace_of_selects (args := #[]) (mvT hZ (w103 hw))) (mvT hZ (w103 hw)) (mvT hZ (w102 hw)) (by decide) (backOf (W := 0) (rm_gst l Z a0 hw [] G1 sI sL sT sC sU dZ iE HG T_864.heap n0 O_884 a_865 sU g_874) hZ (w104 hw) (w40 hw) (by decide) (by decide)) q_888 q_890 (g := (mkF m 92 #[.val (.int p0), .val (.long p1), .second, .val (.int p2), .val (.int (4 : Int32)), .val (.ref sU), .val (.ref a_770), .val (.ref a_846), .val (.ref a_865)] [(.ref a_865)])) rfl (by rw [hml]; rfl) (Steps.refl _) (argsL := []) (rest := []) (lenOf pd_684 rfl) rfl (by show 2 * 0 + _ ≤ _; exact Nat.le_of_eq rfl) (hb hby at_92) (fun _ _ => ⟨rfl, rfl, (by decide : 5 + 0 ≤ _), (by decide : 19 + 0 ≤ _)⟩)
    dsimp only [Pt.U, Pt.locs, Pt.cells, Pt.slots] at X_885 l_885 y_885 z_885 st_885 hQ_885
    subst l_885 y_885 z_885
    obtain ⟨rfl, N_891, e_892⟩ := hQ_885
    have N_893 := Fr.app N_883 N_891
    have e_894 : T_885.heap = T_864.heap := e_892
    obtain ⟨q_896, q_897, q_898, q_899, q_900⟩ := isOf (T := T_885) hZ e_894 g_872
    obtain ⟨_, _, ⟨T_895, L_895, k_895, n_895⟩, -, X_895, ⟨Lc_895, hQ_895, l_895, y_895, z_895⟩, st_895⟩ := X_885.virtualBackUp hx (owner := "com/example/expiring_state/expiringstate/Answer") (x := M694) (y := M635) hown (mvT hZ (w105 hw)) (mvT hZ (w106 hw)) (mvT hZ (w107 hw)) (by decide) (mvT hZ (w109 hw)) (mvT hZ (w108 hw)) (backOf (W := 0) (rm_gws l Z a0 hw [] G1 sI sL sT sC sU dZ iE HG T_864.heap n0 O_884 a_865 g_873) hZ (w110 hw) (w87 hw) (by decide) (by decide)) q_898 q_900 (g := (mkF m 104 #[.val (.int p0), .val (.long p1), .second, .val (.int p2), .val (.int (4 : Int32)), .val (.ref sU), .val (.ref a_770), .val (.ref a_846), .val (.ref a_865)] [(.ref a_865)])) rfl (by rw [hml]; rfl) (Steps.refl _) (argsL := []) (rest := []) (lenOf pd_690 rfl) rfl (by show 2 * 0 + _ ≤ _; exact Nat.le_of_eq rfl) (hb hby at_104) (fun _ _ => ⟨rfl, e_894, (by decide : 5 + 0 ≤ _), (by decide : 19 + 0 ≤ _)⟩)
    dsimp only [Pt.U, Pt.locs, Pt.cells, Pt.slots] at X_895 l_895 y_895 z_895 st_895 hQ_895
    subst l_895 y_895 z_895
    obtain ⟨rfl, N_901, e_902⟩ := hQ_895
    have N_903 := Fr.app N_893 N_901
    have e_904 : T_895.heap = T_864.heap := e_902
    obtain ⟨T_905, X_906, e_907, st_908⟩ := getS X_895 hx hZ (host := "") hown (w5 hw) Via.refl e_904 (OsI.ext O_884.2) (g := (mkF m 114 #[.val (.int p0), .val (.long p1), .second, .val (.int p2), .val (.int (4 : Int32)), .val (.ref sU), .val (.ref a_770), .val (.ref a_846), .val (.ref a_865)] [(.ref sU)])) rfl (hb hby at_114)
    obtain ⟨q_910, q_911, q_912, q_913, q_914⟩ := isOf (T := T_905) hZ e_907 g_872
    obtain ⟨_, _, ⟨T_909, L_909, k_909, n_909⟩, -, X_909, ⟨Lc_909, hQ_909, l_909, y_909, z_909⟩, st_909⟩ := X_906.virtualBack hx (y := M662) (z := M662) hown (mvT hZ (w147 hw)) (mvT hZ (w148 hw)) (notFace_of_selects (args := #[]) (mvT hZ (w150 hw))) (mvT hZ (w150 hw)) (mvT hZ (w149 hw)) (by decide) (backOf (W := 0) (rm_gre l Z a0 hw [] G1 sI sL sT sC sU dZ iE HG T_864.heap n0 O_884 a_865 a_866 g_877) hZ (w151 hw) (w40 hw) (by decide) (by decide)) q_912 q_914 (g := (mkF m 165 #[.val (.int p0), .val (.long p1), .second, .val (.int p2), .val (.int (4 : Int32)), .val (.ref sU), .val (.ref a_770), .val (.ref a_846), .val (.ref a_865)] [(.ref a_865)])) rfl (by rw [hml]; rfl) (Steps.refl _) (argsL := []) (rest := []) (lenOf pd_722 rfl) rfl (by show 2 * 0 + _ ≤ _; exact Nat.le_of_eq rfl) (hb hby at_165) (fun _ _ => ⟨rfl, e_907, (by decide : 5 + 0 ≤ _), (by decide : 19 + 0 ≤ _)⟩)
    dsimp only [Pt.U, Pt.locs, Pt.cells, Pt.slots] at X_909 l_909 y_909 z_909 st_909 hQ_909
    subst l_909 y_909 z_909
    obtain ⟨rfl, N_915, e_916⟩ := hQ_909
    have N_917 := Fr.app N_903 N_915
    have e_918 : T_909.heap = T_864.heap := e_916
    obtain ⟨q_920, q_921, q_922, q_923, q_924⟩ := isOf (T := T_909) hZ e_918 g_878
    obtain ⟨_, _, ⟨T_919, L_919, k_919, n_919⟩, -, X_919, ⟨Lc_919, hQ_919, l_919, y_919, z_919⟩, st_919⟩ := X_909.virtualBack hx (y := M491) (z := M491) hown (mvT hZ (w178 hw)) (mvT hZ (w179 hw)) (notFace_of_selects (args := #[]) (mvT hZ (w181 hw))) (mvT hZ (w181 hw)) (mvT hZ (w180 hw)) (by decide) (backOf (W := 0) (rm_duto l Z a0 hw [] G1 sI sL sT sC sU dZ iE HG T_864.heap n0 O_884 a_866 j_867 i_868 g_879 g_880 (own_hA g_882) (own_hB g_881 g_882)) hZ (w182 hw) (w80 hw) (by decide) (by decide)) q_922 q_924 (g := (mkF m 168 #[.val (.int p0), .val (.long p1), .second, .val (.int p2), .val (.int (4 : Int32)), .val (.ref sU), .val (.ref a_770), .val (.ref a_846), .val (.ref a_865)] [(.ref a_866)])) rfl (by rw [hml]; rfl) (Steps.refl _) (argsL := []) (rest := []) (lenOf pd_716 rfl) rfl (by show 2 * 0 + _ ≤ _; exact Nat.le_of_eq rfl) (hb hby at_168) (fun _ _ => ⟨rfl, e_918, (by decide : 5 + 0 ≤ _), (by decide : 19 + 0 ≤ _)⟩)
    dsimp only [Pt.U, Pt.locs, Pt.cells, Pt.slots] at X_919 l_919 y_919 z_919 st_919 hQ_919
    subst l_919 y_919 z_919
    obtain ⟨j_925, rfl, N_926, e_927, g_928⟩ := hQ_919
    have N_929 := Fr.app N_917 N_926
    have e_930 : T_919.heap = T_864.heap := e_927
    have C_931 : Steps p.tables e below S0 (T_919.setTop (mkF m 181 #[.val (.int p0), .val (.long p1), .second, .val (.int p2), .val (.int (4 : Int32)), .val (.ref sU), .val (.ref a_770), .val (.ref a_846), .val (.ref a_865)] [(.int (1 : Int32))])) := by
      refine C_756.trans ?_
      refine XS.istore X0.here hx rfl (hb hby at_6) rfl (l' := #[.val (.int p0), .val (.long p1), .second, .val (.int p2), .val (.int (4 : Int32)), .unset, .unset, .unset, .unset]) rfl ?_
      refine XS.iload X0.here hx rfl (hb hby at_8) rfl ?_
      refine st_757 _ ?_
      refine XS.astore X_757.here hx rfl (hb hby at_13) rfl rfl (l' := #[.val (.int p0), .val (.long p1), .second, .val (.int p2), .val (.int (4 : Int32)), .val (.ref sU), .unset, .unset, .unset]) rfl ?_
      refine XS.iconst X_757.here hx rfl (hb hby at_15) ?_
      refine st_769 _ ?_
      refine XS.astore X_765.here hx rfl (hb hby at_18) rfl rfl (l' := #[.val (.int p0), .val (.long p1), .second, .val (.int p2), .val (.int (4 : Int32)), .val (.ref sU), .val (.ref a_770), .unset, .unset]) rfl ?_
      refine XS.aload X_765.here hx rfl (hb hby at_20) rfl rfl ?_
      show Steps p.tables e below (T_762.setTop (mkF m 22 #[.val (.int p0), .val (.long p1), .second, .val (.int p2), .val (.int (4 : Int32)), .val (.ref sU), .val (.ref a_770), .unset, .unset] [(.ref a_770)])) _
      refine XS.iconst X_765.here hx rfl (hb hby at_22) ?_
      refine XS.iloadN X_765.here hx rfl (hb hby at_23) rfl ?_
      refine XS.sipush X_765.here hx rfl (hb hby at_24) ?_
      refine XS.iand X_765.here hx rfl (hb hby at_27) rfl ?_
      refine XS.i2c X_765.here hx rfl (hb hby at_28) rfl ?_
      refine st_786 _ ?_
      refine XS.aload X_783.here hx rfl (hb hby at_30) rfl rfl ?_
      refine XS.iconst X_783.here hx rfl (hb hby at_32) ?_
      show Steps p.tables e below (T_781.setTop (mkF m 33 #[.val (.int p0), .val (.long p1), .second, .val (.int p2), .val (.int (4 : Int32)), .val (.ref sU), .val (.ref a_770), .unset, .unset] [(.int (1 : Int32)), (.ref a_770)])) _
      refine XS.iloadN X_783.here hx rfl (hb hby at_33) rfl ?_
      refine XS.bipush X_783.here hx rfl (hb hby at_34) ?_
      refine XS.iushr X_783.here hx rfl (hb hby at_36) rfl ?_
      refine XS.sipush X_783.here hx rfl (hb hby at_37) ?_
      refine XS.iand X_783.here hx rfl (hb hby at_40) rfl ?_
      refine XS.i2c X_783.here hx rfl (hb hby at_41) rfl ?_
      refine st_802 _ ?_
      refine XS.aload X_799.here hx rfl (hb hby at_43) rfl rfl ?_
      show Steps p.tables e below (T_797.setTop (mkF m 45 #[.val (.int p0), .val (.long p1), .second, .val (.int p2), .val (.int (4 : Int32)), .val (.ref sU), .val (.ref a_770), .unset, .unset] [(.ref a_770)])) _
      refine XS.iconst X_799.here hx rfl (hb hby at_45) ?_
      refine XS.iloadN X_799.here hx rfl (hb hby at_46) rfl ?_
      refine XS.bipush X_799.here hx rfl (hb hby at_47) ?_
      refine XS.iushr X_799.here hx rfl (hb hby at_49) rfl ?_
      refine XS.sipush X_799.here hx rfl (hb hby at_50) ?_
      refine XS.iand X_799.here hx rfl (hb hby at_53) rfl ?_
      refine XS.i2c X_799.here hx rfl (hb hby at_54) rfl ?_
      refine st_818 _ ?_
      show Steps p.tables e below (T_813.setTop (mkF m 56 #[.val (.int p0), .val (.long p1), .second, .val (.int p2), .val (.int (4 : Int32)), .val (.ref sU), .val (.ref a_770), .unset, .unset] [])) _
      refine XS.aload X_815.here hx rfl (hb hby at_56) rfl rfl ?_
      refine XS.iconst X_815.here hx rfl (hb hby at_58) ?_
      refine XS.iloadN X_815.here hx rfl (hb hby at_59) rfl ?_
      refine XS.bipush X_815.here hx rfl (hb hby at_60) ?_
      refine XS.iushr X_815.here hx rfl (hb hby at_62) rfl ?_
      refine XS.sipush X_815.here hx rfl (hb hby at_63) ?_
      refine XS.iand X_815.here hx rfl (hb hby at_66) rfl ?_
      refine XS.i2c X_815.here hx rfl (hb hby at_67) rfl ?_
      show Steps p.tables e below (T_813.setTop (mkF m 68 #[.val (.int p0), .val (.long p1), .second, .val (.int p2), .val (.int (4 : Int32)), .val (.ref sU), .val (.ref a_770), .unset, .unset] [(.int (own_cb (own_u24 p2))), (.int (3 : Int32)), (.ref a_770)])) _
      refine st_834 _ ?_
      refine st_845 _ ?_
      refine XS.dup X_840.here hx rfl (hb hby at_72) rfl rfl ?_
      refine XS.aload X_840.here hx rfl (hb hby at_73) rfl rfl ?_
      refine st_852.trans ?_
      refine XS.astore X_852.here hx rfl (hb hby at_78) rfl rfl (l' := #[.val (.int p0), .val (.long p1), .second, .val (.int p2), .val (.int (4 : Int32)), .val (.ref sU), .val (.ref a_770), .val (.ref a_846), .unset]) rfl ?_
      refine XS.aload X_852.here hx rfl (hb hby at_80) rfl rfl ?_
      refine XS.lloadN X_852.here hx rfl (hb hby at_82) rfl ?_
      show Steps p.tables e below (T_852.setTop (mkF m 83 #[.val (.int p0), .val (.long p1), .second, .val (.int p2), .val (.int (4 : Int32)), .val (.ref sU), .val (.ref a_770), .val (.ref a_846), .unset] [(.long p1), (.ref sU)])) _
      refine XS.aload X_852.here hx rfl (hb hby at_83) rfl rfl ?_
      refine st_864 _ ?_
      refine XS.astore X_864.here hx rfl (hb hby at_88) rfl rfl (l' := #[.val (.int p0), .val (.long p1), .second, .val (.int p2), .val (.int (4 : Int32)), .val (.ref sU), .val (.ref a_770), .val (.ref a_846), .val (.ref a_865)]) rfl ?_
      refine XS.aload X_864.here hx rfl (hb hby at_90) rfl rfl ?_
      refine st_885.trans ?_
      refine XS.aload X_885.here hx rfl (hb hby at_95) rfl rfl ?_
      refine acmp X_885 hx rfl (cd := .eq) (x := (.ref sU)) (y := (.ref sU)) rfl rfl (same := true) (pc0 := 97) (pc' := 102) rfl (hb hby at_97) rfl (decide_eq_true rfl) (by decide) (by decide) ?_
      refine XS.aload X_885.here hx rfl (hb hby at_102) rfl rfl ?_
      show Steps p.tables e below (T_885.setTop (mkF m 104 #[.val (.int p0), .val (.long p1), .second, .val (.int p2), .val (.int (4 : Int32)), .val (.ref sU), .val (.ref a_770), .val (.ref a_846), .val (.ref a_865)] [(.ref a_865)])) _
      refine st_895.trans ?_
      refine XS.ifYes X_895.here hx rfl (pc0 := 107) (pc' := 112) rfl (hb hby at_107) rfl (by decide) (by decide) (by decide) ?_
      refine XS.aload X_895.here hx rfl (hb hby at_112) rfl rfl ?_
      refine st_908 _ ?_
      refine acmp X_906 hx rfl (cd := .ne) (x := (.ref sU)) (y := (.ref sI)) rfl rfl (same := false) (pc0 := 117) (pc' := 163) rfl (hb hby at_117) rfl (decide_eq_false fun q => NsU (Value.ref.inj q)) (by decide) (by decide) ?_
      refine XS.aload X_906.here hx rfl (hb hby at_163) rfl rfl ?_
      refine st_909.trans ?_
      refine st_919.trans ?_
      show Steps p.tables e below (T_919.setTop (mkF m 171 #[.val (.int p0), .val (.long p1), .second, .val (.int p2), .val (.int (4 : Int32)), .val (.ref sU), .val (.ref a_770), .val (.ref a_846), .val (.ref a_865)] [(.long j_925)])) _
      refine XS.lloadN X_919.here hx rfl (hb hby at_171) rfl ?_
      refine XS.lcmp X_919.here hx rfl (hb hby at_172) rfl ?_
      refine XS.ifNo X_919.here hx rfl (hb hby at_173) rfl (i0_ne_f ((lw_eq j_925 p1).mpr (own_back g_928 g_881 g_882))) ?_
      refine XS.iconst X_919.here hx rfl (hb hby at_176) ?_
      refine XS.goto X_919.here hx rfl (pc0 := 177) (pc' := 181) rfl (hb hby at_177) (by decide) (by decide) ?_
      exact Steps.refl _
    have K_932 : Keep h0 T_864.heap [] := (((((((((Keep.refl _ _).ext E_767).wr W_785 (Or.inr (Nat.le_trans (Nat.le_refl _) (Nat.le_of_eq g_771.symm)))).wr W_801 (Or.inr (Nat.le_trans (Nat.le_refl _) (Nat.le_of_eq g_771.symm)))).wr W_817 (Or.inr (Nat.le_trans (Nat.le_refl _) (Nat.le_of_eq g_771.symm)))).wr W_833 (Or.inr (Nat.le_trans (Nat.le_refl _) (Nat.le_of_eq g_771.symm)))).ext E_842).trans K_856 (allS (Or.inr (Nat.le_trans (Nat.le_trans (Nat.le_trans (Nat.le_trans (Nat.le_trans E_767.1 (Keep.of_wr W_785).1) (Keep.of_wr W_801).1) (Keep.of_wr W_817).1) (Keep.of_wr W_833).1) (Nat.le_of_eq g_847.symm))) all0)).trans K_870 all0)
    obtain ⟨fs, hr, hrun, hended, hW, hsame⟩ := X_919.leave (v := some (.int (1 : Int32))) (fun h => by rw [Bd.returns] at h; cases h)
    refine ⟨_, _, C_931.trans (retN X_919 hx (t := .boolean) Bd.returns (by simp) (hb hby at_181) hr), hrun, hended, _, _, rfl, ?_, ⟨_, rfl⟩, hW, hsame.mono (by decide) (by decide)⟩
    show Q_law Z G1 sI sL sT sC sU dZ iE p0 p1 p2 h0 n0 (some (.int (1 : Int32))) T_919.heap _
    rw [e_930]
    exact ⟨rfl, N_929, K_932⟩
theorem w6 {Z : State} {a0 : Array Value} (hw : ∀ d ∈ tables_1, d.before a0 Z = true) : Jvm.Cond.before (Jvm.Cond.initialized "com/example/expiring_state/expiringstate/OneTimeCodes$IssueResult$Status") a0 Z = true := hw _ (List.mem_of_getElem? (i := 6) rfl)
theorem w7 {Z : State} {a0 : Array Value} (hw : ∀ d ∈ tables_1, d.before a0 Z = true) : Jvm.Cond.before (Jvm.Cond.laysStatic "com/example/expiring_state/expiringstate/OneTimeCodes$IssueResult$Status" "ISSUED" "Lcom/example/expiring_state/expiringstate/OneTimeCodes$IssueResult$Status;") a0 Z = true := hw _ (List.mem_of_getElem? (i := 7) rfl)
theorem w190 {Z : State} {a0 : Array Value} (hw : ∀ d ∈ tables_1, d.before a0 Z = true) : Jvm.Cond.before (Jvm.Cond.laysStatic "com/example/expiring_state/expiringstate/OneTimeCodes$IssueResult$Status" "LOCKED" "Lcom/example/expiring_state/expiringstate/OneTimeCodes$IssueResult$Status;") a0 Z = true := hw _ (List.mem_of_getElem? (i := 190) rfl)
theorem w162 {Z : State} {a0 : Array Value} (hw : ∀ d ∈ tables_1, d.before a0 Z = true) : Jvm.Cond.before (Jvm.Cond.laysStatic "com/example/expiring_state/expiringstate/OneTimeCodes$IssueResult$Status" "TOO_SOON" "Lcom/example/expiring_state/expiringstate/OneTimeCodes$IssueResult$Status;") a0 Z = true := hw _ (List.mem_of_getElem? (i := 162) rfl)
theorem w193 {Z : State} {a0 : Array Value} (hw : ∀ d ∈ tables_1, d.before a0 Z = true) : Jvm.Cond.before (Jvm.Cond.laysStatic "com/example/expiring_state/expiringstate/OneTimeCodes$IssueResult$Status" "CAP_REACHED" "Lcom/example/expiring_state/expiringstate/OneTimeCodes$IssueResult$Status;") a0 Z = true := hw _ (List.mem_of_getElem? (i := 193) rfl)
theorem w187 {Z : State} {a0 : Array Value} (hw : ∀ d ∈ tables_1, d.before a0 Z = true) : Jvm.Cond.before (Jvm.Cond.laysStatic "com/example/expiring_state/expiringstate/OneTimeCodes$IssueResult$Status" "STORE_UNAVAILABLE" "Lcom/example/expiring_state/expiringstate/OneTimeCodes$IssueResult$Status;") a0 Z = true := hw _ (List.mem_of_getElem? (i := 187) rfl)
theorem own_sta {s : State} {args : Array Value} {C n d K : String} (hx : (Jvm.Cond.exactly (.static C n d) K).value args s none s [] = some true) (hi : (Jvm.Cond.initialized C).before args s = true) (hl : (Jvm.Cond.laysStatic C n d).before args s = true) :
    ∃ a, Sta s s.heap C n d (.ref a) ∧ Exa s s.heap a K ∧ (Term.static C n d).eval args s none [] s = some (.ref a) := by
  obtain ⟨a, c', cell, k, e1, -⟩ := Cond.exactly_spec (Cond.before_iff.mpr hx)
  exact ⟨a, Sta.start e1 (Or.inr ⟨hi, hl⟩), Exa.start e1 hx, e1⟩
theorem own_fld {s : State} {args : Array Value} {t : Term} {a : Addr} {O n d : String} {v : Value} (ev : t.eval args s none [] s = some (.ref a)) (h : (Term.field t O n d).eval args s none [] s = some v) : Fld s s.heap a O n d v :=
  Fld.start (by simpa [Term.eval, ev] using h)
theorem own_fldI {s : State} {args : Array Value} {t : Term} {a : Addr} {O n d : String} {i : Int32} (ev : t.eval args s none [] s = some (.ref a)) (h : (Jvm.Cond.eq (Term.field t O n d) (.int i)).value args s none s [] = some true) : Fld s s.heap a O n d (.int i) :=
  own_fld ev (eqv_i (Term.int_eval i) h)
theorem own_fldJ {s : State} {args : Array Value} {t : Term} {a : Addr} {O n d : String} {i : Int64} (ev : t.eval args s none [] s = some (.ref a)) (h : (Jvm.Cond.eq (Term.field t O n d) (.long i)).value args s none s [] = some true) : Fld s s.heap a O n d (.long i) :=
  own_fld ev (eqv_l (F := .long i) rfl h)
set_option maxRecDepth 65536 in
set_option maxHeartbeats 40000000 in
theorem comes_1 {Post : Tables → Env → Array Value → State → Outcome → State → Prop} (hpost : ∀ tb e args s v u, (limb_1_1.after args s (.returned v) u = true ∧ limb_1_2.after args s (.returned v) u = true ∧ True) → FrameEnd s (.returned v) u (Jvm.fieldLocs frame_1_writes args s ++ Jvm.arrayLocs frame_1_arrays args s ++ Jvm.staticLocs frame_1_statics s) 24 128 → Post tb e args s (.returned v) u) :
    ArmFor flags0 classFile x code maxLocals ret World_1 tables_1 room_1 Calls_1 rest_1 Pre_1 Post := by
  intro l hfl _ _ p e ha hc hk s m args below hf hA hF happ hP
  obtain ⟨hcalls, hrest, hpre⟩ := hP
  obtain ⟨-, -, -, hnamed, -, -, -, hat⟩ := (Spec.applies_iff hf).mp happ
  obtain ⟨hg, hn⟩ := and_e (Cond.before_iff.mp (show (Jvm.Cond.and given_1 narrow_1).before args s = true from hpre))
  obtain ⟨h1, g0⟩ := and_e hg
  obtain ⟨a0, g1⟩ := and_e g0
  obtain ⟨a1, g2⟩ := and_e g1
  have a2 := g2
  obtain ⟨w0, w1, w2, rfl⟩ : ∃ w0 w1 w2 : Value, args = #[w0, w1, w2] := by
    have hs : args.size = 3 := by simpa [Cond.value, given_1] using h1
    obtain ⟨L⟩ := args
    match L, hs with
    | [w0, w1, w2], _ => exact ⟨w0, w1, w2, rfl⟩
  have hw := fun d (hd : d ∈ tables_1) => atoms_spec (ws := Jvm.Cond.code x code maxLocals ret :: tables_1) hat d (List.mem_cons_of_mem _ hd)
  obtain ⟨hsets, hown0⟩ := atoms_of _ (rest_1_c_eq ▸ (show rest_1_c.before _ s = true from hrest))
  have hfit : Fit s := fun {y c} hc i hi => by
    obtain ⟨ha, rfl⟩ := Array.getElem?_eq_some_iff.mp hc
    have q := List.all_eq_true.mp ((Array.all_eq_true_iff_forall_mem.mp hF) _ (Array.getElem_mem ha)) i (List.mem_range.mpr hi)
    simpa [Array.getElem?_eq_getElem hi] using q
  obtain ⟨i0, q0⟩ := is_v a0
  obtain rfl : w0 = (.int i0) := Option.some.inj q0
  obtain ⟨i1, q1⟩ := isL_v a1
  obtain rfl : w1 = (.long i1) := Option.some.inj q1
  obtain ⟨i2, q2⟩ := is_v a2
  obtain rfl : w2 = (.int i2) := Option.some.inj q2
  obtain ⟨iCS, eCS⟩ := is_v (Cond.before_iff.mp (hsets _ (List.mem_of_getElem? (i := 1) rfl)))
  have SCS : Sta s s.heap "java/lang/String" "COMPACT_STRINGS" "Z" (.int iCS) := Sta.start eCS (Or.inl (hsets _ (List.mem_of_getElem? (i := 0) rfl)))
  have PCS : ¬ (iCS = (0 : Int32)) := gotF (Cond.eq_ints eCS (Term.int_eval (0))) (not_v (Cond.before_iff.mp (hsets _ (List.mem_of_getElem? (i := 2) rfl))))
  obtain ⟨n_sI, hn⟩ := and_e hn
  obtain ⟨n_sT, hn⟩ := and_e hn
  obtain ⟨n_tT, hn⟩ := and_e hn
  obtain ⟨n_tI, hn⟩ := and_e hn
  obtain ⟨n_sU, hn⟩ := and_e hn
  obtain ⟨n_tU, hn⟩ := and_e hn
  obtain ⟨n_sL, hn⟩ := and_e hn
  obtain ⟨n_tL, hn⟩ := and_e hn
  obtain ⟨n_sC, hn⟩ := and_e hn
  have n_tC := hn
  obtain ⟨sI, SsI, EsI, vsI⟩ := own_sta n_sI (w6 hw) (w7 hw)
  have FsI := own_fldI vsI n_tI
  obtain ⟨sL, SsL, EsL, vsL⟩ := own_sta n_sL (w6 hw) (w190 hw)
  have FsL := own_fldI vsL n_tL
  obtain ⟨sT, SsT, EsT, vsT⟩ := own_sta n_sT (w6 hw) (w162 hw)
  have FsT := own_fldI vsT n_tT
  obtain ⟨sC, SsC, EsC, vsC⟩ := own_sta n_sC (w6 hw) (w193 hw)
  have FsC := own_fldI vsC n_tC
  obtain ⟨sU, SsU, EsU, vsU⟩ := own_sta n_sU (w6 hw) (w187 hw)
  have FsU := own_fldI vsU n_tU
  obtain ⟨dZ, SdZ, EdZ, vdZ⟩ := own_sta (Cond.before_iff.mp (hsets _ (List.mem_of_getElem? (i := 11) rfl))) (w80 hw) (hsets _ (List.mem_of_getElem? (i := 9) rfl))
  have FdZ1 := own_fldJ vdZ (Cond.before_iff.mp (hsets _ (List.mem_of_getElem? (i := 12) rfl)))
  have FdZ2 := own_fldI vdZ (Cond.before_iff.mp (hsets _ (List.mem_of_getElem? (i := 13) rfl)))
  obtain ⟨iE, SiE, EiE, viE⟩ := own_sta (Cond.before_iff.mp (hsets _ (List.mem_of_getElem? (i := 16) rfl))) (w47 hw) (hsets _ (List.mem_of_getElem? (i := 14) rfl))
  have FiE1 := own_fldJ viE (Cond.before_iff.mp (hsets _ (List.mem_of_getElem? (i := 17) rfl)))
  have FiE2 := own_fldI viE (Cond.before_iff.mp (hsets _ (List.mem_of_getElem? (i := 18) rfl)))
  have HG : own_G l s #[(.int i0), (.long i1), (.int i2)] iCS sI sL sT sC sU dZ iE := ⟨SCS, PCS, SsI, SsL, SsT, SsC, SsU, Fld.ne FsL FsI (by decide), Fld.ne FsT FsI (by decide), Fld.ne FsC FsI (by decide), Fld.ne FsU FsI (by decide), SdZ, EdZ, FdZ1, FdZ2, SiE, EiE, FiE1, FiE2⟩
  obtain ⟨n, o, h1, h2, h3, _, L, rfl, ⟨rfl, N, -⟩, hq⟩ := rm_law l s _ hw tables_1 iCS sI sL sT sC sU dZ iE HG s.heap s.heap.size (Old.start s) i0 i1 i2 p e ha hc hk s m _ below hf ((Spec.applies_iff_loose hf).mp happ).1 ⟨rfl, State.Warmed39.refl s, rfl⟩ trivial
  refine ⟨n, _, h1, h2, h3, hpost _ _ _ _ _ _ ⟨Cond.after_iff.mpr rfl, Cond.after_iff.mpr (eq_i res_at (Term.int_eval (1)) rfl), trivial⟩ ⟨hq.1, hq.2.1, (hq.2.2.sift fun y hy => Or.inr (N y hy)).mono (by decide) (by decide)⟩⟩
theorem main_1_1 : Claimed_1_1 := comes_1 fun _ _ _ _ _ _ h hF => ⟨h.1, hF⟩
theorem main_1_2 : Claimed_1_2 := comes_1 fun _ _ _ _ _ _ h hF => ⟨h.2.1, hF⟩
end Jvm.Pilot.@@N@@
namespace Jvm.Pilot.@@N@@
open Jvm Jvm.ClassFile Sem Op Lib Jvm.Free Jvm.Stand Jvm.Pilot.@@N@@.Jvm.D
/-! MADE BY PROGRAM (witnessworld.py) out of the Statement's table words and the real class files: 30 classes; the members and pool entries that the words name. The judged class is class 1, her method 2. -/
namespace start1
open Jvm.ClassFile
def u (s : String) : CpInfo := .utf8 (stringToUtf16 s)
/-- a pool by its gaps: so many unusable entries, then the entry; so many at the end -/
def gap : Nat → List CpInfo → List CpInfo
  | 0, r => r
  | n + 1, r => .unusable :: gap n r
def poolList (es : List (Nat × CpInfo)) (last : Nat) : List CpInfo := es.foldr (fun e r => gap e.1 (e.2 :: r)) (gap last [])
def pool (es : List (Nat × CpInfo)) (last : Nat) : Array CpInfo := ⟨poolList es last⟩
def fileOf (pool : Array CpInfo) (this : Nat) (attrs : Array Attribute := #[]) (ms : Array MethodInfo := #[]) (fl : Nat := 33) (sup : Nat := 0) (ifs : Array Nat := #[]) (fds : Array FieldInfo := #[]) : ClassFile where
  minorVersion := 0
  majorVersion := 65
  constantPool := pool
  accessFlags := fl
  thisClass := this
  superClass := sup
  interfaces := ifs
  fields := fds
  methods := ms
  attributes := attrs
def plain (name : String) (sup : Option ClassId) : Class where
  name := name
  kind := .ordinary
  loader := none
  accessFlags := 33
  super := sup
  interfaces := #[]
  cf := none
  fields := #[]
  methods := #[]
  instanceTypes := #[]
  staticTypes := #[]
  resolved := #[]
  callSites := []
  init := .initialized
  statics := none
  mirror := none

def pool0 : Array CpInfo := pool [(5, u "<init>"), (0, u "()V"), (1, .class_ 10), (1, u "java/lang/Object")] 113

def k0c0 : Code := { maxStack := 0, maxLocals := 1, code := object_method_1_code, exceptionTable := #[], attributes := #[] }
def k0m0 : Method := { name := "<init>", desc := "()V", sig := { parameters := [], returnType := none }, accessFlags := 1, code := some k0c0 }
/-- java/lang/Object -/
def k0 : Class := { plain "java/lang/Object" none with
  accessFlags := 33
  interfaces := #[]
  cf := some (fileOf pool0 8 #[] #[{ accessFlags := 1, nameIndex := 5, descriptorIndex := 6, attributes := #[] }] 33 0 #[] #[])
  fields := #[]
  methods := #[k0m0]
  instanceTypes := #[]
  staticTypes := #[]
  resolved := Array.replicate 124 none
  statics := none }

def pool1 : Array CpInfo := pool [(2, .class_ 4), (1, u "java/lang/Object"), (0, u "<init>"), (0, u "()V"), (0, .fieldref 8 9), (0, .class_ 10), (0, .nameAndType 11 12), (0, u "com/example/expiring_state/expiringstate/OneTimeCodes$IssueResult$Status"), (0, u "ISSUED"), (0, u "Lcom/example/expiring_state/expiringstate/OneTimeCodes$IssueResult$Status;"), (0, .fieldref 8 14), (0, .nameAndType 15 12), (0, u "LOCKED"), (0, .fieldref 8 17), (0, .nameAndType 18 12), (0, u "TOO_SOON"), (0, .fieldref 8 20), (0, .nameAndType 21 12), (0, u "CAP_REACHED"), (0, .fieldref 8 23), (0, .nameAndType 24 12), (0, u "STORE_UNAVAILABLE"), (0, .integer 2147483647), (0, .methodref 27 28), (0, .class_ 29), (0, .nameAndType 30 31), (0, u "com/example/expiring_state/expiringstate/IssueResultOfPinLaw"), (0, u "pick"), (0, u "(I)Lcom/example/expiring_state/expiringstate/OneTimeCodes$IssueResult$Status;"), (0, .class_ 33), (0, u "java/lang/String"), (0, .methodref 32 35), (0, .nameAndType 5 36), (0, u "([C)V"), (0, .methodref 38 39), (0, .class_ 40), (0, .nameAndType 41 42), (0, u "com/example/expiring_state/expiringstate/OneTimeCodes$IssueResult"), (0, u "of"), (0, u "(Lcom/example/expiring_state/expiringstate/OneTimeCodes$IssueResult$Status;JLjava/lang/String;)Lcom/example/expiring_state/expiringstate/OneTimeCodes$IssueResult;"), (0, .methodref 38 44), (0, .nameAndType 45 46), (0, u "status"), (0, u "()Lcom/example/expiring_state/expiringstate/OneTimeCodes$IssueResult$Status;"), (0, .methodref 38 48), (0, .nameAndType 49 50), (0, u "withoutStore"), (0, u "()Z"), (0, .methodref 38 52), (0, .nameAndType 53 54), (0, u "code"), (0, u "()Ljava/lang/String;"), (0, .methodref 32 56), (0, .nameAndType 57 58), (0, u "equals"), (0, u "(Ljava/lang/Object;)Z"), (0, .methodref 38 60), (0, .nameAndType 61 62), (0, u "expiresAt"), (0, u "()Ljava/time/Instant;"), (0, .methodref 64 65), (0, .class_ 66), (0, .nameAndType 67 68), (0, u "java/time/Instant"), (0, u "toEpochMilli"), (0, u "()J"), (0, .methodref 38 70), (0, .nameAndType 71 72), (0, u "retryAfter"), (0, u "()Ljava/time/Duration;"), (0, .methodref 74 75), (0, .class_ 76), (0, .nameAndType 77 50), (0, u "java/time/Duration"), (0, u "isZero"), (0, .methodref 74 79), (0, .nameAndType 80 68), (0, u "toMillis"), (3, u "law"), (0, u "(IJI)Z")] 9

def k1m0 : Method := { name := "<init>", desc := "()V", sig := { parameters := [], returnType := none }, accessFlags := 2, code := none }
def k1c1 : Code := { maxStack := 2, maxLocals := 1, code := method_2_code, exceptionTable := #[], attributes := #[] }
def k1m1 : Method := { name := "pick", desc := "(I)Lcom/example/expiring_state/expiringstate/OneTimeCodes$IssueResult$Status;", sig := { parameters := [.int], returnType := some (.object "com/example/expiring_state/expiringstate/OneTimeCodes$IssueResult$Status") }, accessFlags := 10, code := some k1c1 }
def k1c2 : Code := { maxStack := 4, maxLocals := 9, code := code, exceptionTable := #[], attributes := #[] }
def k1m2 : Method := { name := "law", desc := "(IJI)Z", sig := { parameters := [.int, .long, .int], returnType := some .boolean }, accessFlags := 9, code := some k1c2 }
/-- com/example/expiring_state/expiringstate/IssueResultOfPinLaw -/
def k1 : Class := { plain "com/example/expiring_state/expiringstate/IssueResultOfPinLaw" (some 0) with
  accessFlags := 49
  interfaces := #[]
  cf := some (fileOf pool1 27 #[] #[{ accessFlags := 2, nameIndex := 5, descriptorIndex := 6, attributes := #[] }, { accessFlags := 10, nameIndex := 30, descriptorIndex := 31, attributes := #[] }, { accessFlags := 9, nameIndex := 84, descriptorIndex := 85, attributes := #[] }] 49 2 #[] #[])
  fields := #[]
  methods := #[k1m0, k1m1, k1m2]
  instanceTypes := #[]
  staticTypes := #[]
  resolved := Array.replicate 95 none
  statics := none }

def pool2 : Array CpInfo := pool [(1, .class_ 2), (0, u "java/lang/constant/Constable"), (0, .class_ 4), (0, u "java/lang/Object")] 6

/-- java/lang/constant/Constable -/
def k2 : Class := { plain "java/lang/constant/Constable" (some 0) with
  accessFlags := 1537
  interfaces := #[]
  cf := some (fileOf pool2 1 #[] #[] 1537 3 #[] #[])
  fields := #[]
  methods := #[]
  instanceTypes := #[]
  staticTypes := #[]
  resolved := Array.replicate 11 none
  statics := none }

def pool3 : Array CpInfo := pool [(1, .class_ 2), (0, u "java/lang/Comparable"), (0, .class_ 4), (0, u "java/lang/Object")] 7

/-- java/lang/Comparable -/
def k3 : Class := { plain "java/lang/Comparable" (some 0) with
  accessFlags := 1537
  interfaces := #[]
  cf := some (fileOf pool3 1 #[] #[] 1537 3 #[] #[])
  fields := #[]
  methods := #[]
  instanceTypes := #[]
  staticTypes := #[]
  resolved := Array.replicate 12 none
  statics := none }

def pool4 : Array CpInfo := pool [(1, .class_ 2), (0, u "java/io/Serializable"), (0, .class_ 4), (0, u "java/lang/Object")] 2

/-- java/io/Serializable -/
def k4 : Class := { plain "java/io/Serializable" (some 0) with
  accessFlags := 1537
  interfaces := #[]
  cf := some (fileOf pool4 1 #[] #[] 1537 3 #[] #[])
  fields := #[]
  methods := #[]
  instanceTypes := #[]
  staticTypes := #[]
  resolved := Array.replicate 7 none
  statics := none }

def pool5 : Array CpInfo := pool [(2, .class_ 4), (1, u "java/lang/Enum"), (0, u "name"), (0, u "Ljava/lang/String;"), (2, u "ordinal"), (0, u "I"), (1, .class_ 14), (1, u "java/lang/Object"), (4, u "hash"), (86, .class_ 108), (1, u "java/lang/Enum$EnumDesc"), (2, .class_ 112), (0, u "java/lang/constant/Constable"), (0, .class_ 114), (0, u "java/lang/Comparable"), (0, .class_ 116), (0, u "java/io/Serializable")] 87

/-- java/lang/Enum -/
def k5 : Class := { plain "java/lang/Enum" (some 0) with
  accessFlags := 1057
  interfaces := #[2, 3, 4]
  cf := some (fileOf pool5 2 #[.nestMembers #[106]] #[] 1057 12 #[111, 113, 115] #[{ accessFlags := 18, nameIndex := 5, descriptorIndex := 6, attributes := #[] }, { accessFlags := 18, nameIndex := 9, descriptorIndex := 10, attributes := #[] }, { accessFlags := 2, nameIndex := 19, descriptorIndex := 10, attributes := #[] }])
  fields := #[{ name := "name", type := (.object "java/lang/String"), accessFlags := 18, slot := 0, constantValue := 0 }, { name := "ordinal", type := .int, accessFlags := 18, slot := 1, constantValue := 0 }, { name := "hash", type := .int, accessFlags := 2, slot := 2, constantValue := 0 }]
  methods := #[]
  instanceTypes := #[(.object "java/lang/String"), .int, .int]
  staticTypes := #[]
  resolved := Array.replicate 204 none
  statics := none }

def pool6 : Array CpInfo := pool [(1, .class_ 2), (0, u "com/example/expiring_state/expiringstate/OneTimeCodes$IssueResult$Status"), (2, u "ISSUED"), (0, u "Lcom/example/expiring_state/expiringstate/OneTimeCodes$IssueResult$Status;"), (2, u "LOCKED"), (2, u "TOO_SOON"), (2, u "CAP_REACHED"), (2, u "STORE_UNAVAILABLE"), (2, u "$VALUES"), (0, u "[Lcom/example/expiring_state/expiringstate/OneTimeCodes$IssueResult$Status;"), (6, .class_ 31), (1, u "java/lang/Enum"), (28, .class_ 61), (0, u "com/example/expiring_state/expiringstate/OneTimeCodes")] 5

/-- com/example/expiring_state/expiringstate/OneTimeCodes$IssueResult$Status -/
def k6 : Class := { plain "com/example/expiring_state/expiringstate/OneTimeCodes$IssueResult$Status" (some 5) with
  accessFlags := 16433
  interfaces := #[]
  cf := some (fileOf pool6 1 #[.nestHost 60] #[] 16433 29 #[] #[{ accessFlags := 16409, nameIndex := 5, descriptorIndex := 6, attributes := #[] }, { accessFlags := 16409, nameIndex := 9, descriptorIndex := 6, attributes := #[] }, { accessFlags := 16409, nameIndex := 12, descriptorIndex := 6, attributes := #[] }, { accessFlags := 16409, nameIndex := 15, descriptorIndex := 6, attributes := #[] }, { accessFlags := 16409, nameIndex := 18, descriptorIndex := 6, attributes := #[] }, { accessFlags := 4122, nameIndex := 21, descriptorIndex := 22, attributes := #[] }])
  fields := #[{ name := "ISSUED", type := (.object "com/example/expiring_state/expiringstate/OneTimeCodes$IssueResult$Status"), accessFlags := 16409, slot := 0, constantValue := 0 }, { name := "LOCKED", type := (.object "com/example/expiring_state/expiringstate/OneTimeCodes$IssueResult$Status"), accessFlags := 16409, slot := 1, constantValue := 0 }, { name := "TOO_SOON", type := (.object "com/example/expiring_state/expiringstate/OneTimeCodes$IssueResult$Status"), accessFlags := 16409, slot := 2, constantValue := 0 }, { name := "CAP_REACHED", type := (.object "com/example/expiring_state/expiringstate/OneTimeCodes$IssueResult$Status"), accessFlags := 16409, slot := 3, constantValue := 0 }, { name := "STORE_UNAVAILABLE", type := (.object "com/example/expiring_state/expiringstate/OneTimeCodes$IssueResult$Status"), accessFlags := 16409, slot := 4, constantValue := 0 }, { name := "$VALUES", type := (.array (.object "com/example/expiring_state/expiringstate/OneTimeCodes$IssueResult$Status")), accessFlags := 4122, slot := 5, constantValue := 0 }]
  methods := #[]
  instanceTypes := #[(.object "java/lang/String"), .int, .int]
  staticTypes := #[(.object "com/example/expiring_state/expiringstate/OneTimeCodes$IssueResult$Status"), (.object "com/example/expiring_state/expiringstate/OneTimeCodes$IssueResult$Status"), (.object "com/example/expiring_state/expiringstate/OneTimeCodes$IssueResult$Status"), (.object "com/example/expiring_state/expiringstate/OneTimeCodes$IssueResult$Status"), (.object "com/example/expiring_state/expiringstate/OneTimeCodes$IssueResult$Status"), (.array (.object "com/example/expiring_state/expiringstate/OneTimeCodes$IssueResult$Status"))]
  resolved := Array.replicate 67 none
  statics := some 0 }

def pool7 : Array CpInfo := pool [(2, .class_ 4), (1, u "java/lang/CharSequence"), (42, .class_ 48), (0, u "java/lang/CharSequence$1CodePointIterator"), (10, .class_ 60), (0, u "java/lang/CharSequence$1CharIterator"), (5, .class_ 67), (0, u "java/lang/Object")] 63

/-- java/lang/CharSequence -/
def k7 : Class := { plain "java/lang/CharSequence" (some 0) with
  accessFlags := 1537
  interfaces := #[]
  cf := some (fileOf pool7 2 #[.nestMembers #[47, 59]] #[] 1537 66 #[] #[])
  fields := #[]
  methods := #[]
  instanceTypes := #[]
  staticTypes := #[]
  resolved := Array.replicate 131 none
  statics := none }

def pool8 : Array CpInfo := pool [(1, .class_ 2), (0, u "java/lang/constant/ConstantDesc"), (0, .class_ 4), (0, u "java/lang/Object")] 32

/-- java/lang/constant/ConstantDesc -/
def k8 : Class := { plain "java/lang/constant/ConstantDesc" (some 0) with
  accessFlags := 1537
  interfaces := #[]
  cf := some (fileOf pool8 1 #[] #[] 1537 3 #[] #[])
  fields := #[]
  methods := #[]
  instanceTypes := #[]
  staticTypes := #[]
  resolved := Array.replicate 37 none
  statics := none }

def pool9 : Array CpInfo := pool [(1, .methodref 2 3), (0, .class_ 4), (0, .nameAndType 5 6), (0, u "java/lang/Object"), (0, u "<init>"), (0, u "()V"), (2, .fieldref 10 11), (0, .class_ 12), (0, .nameAndType 13 14), (0, u "java/lang/String"), (0, u "value"), (0, u "[B"), (0, .fieldref 10 16), (0, .nameAndType 17 18), (0, u "coder"), (0, u "B"), (2, u "hash"), (0, u "I"), (2, u "hashIsZero"), (0, u "Z"), (0, .methodref 10 28), (0, .nameAndType 5 29), (0, u "([CIILjava/lang/Void;)V"), (8, .fieldref 10 39), (0, .nameAndType 40 26), (0, u "COMPACT_STRINGS"), (1, .class_ 44), (1, u "java/lang/StringUTF16"), (0, u "compress"), (1, .methodref 42 48), (0, .nameAndType 49 50), (0, u "coderFromArrayLen"), (0, u "([BI)B"), (126, .methodref 42 178), (0, .nameAndType 45 179), (0, u "([CII)[B"), (363, u "equals"), (29, u "(Ljava/lang/Object;)Z"), (1, .class_ 576), (0, u "java/lang/CharSequence"), (22, u "CASE_INSENSITIVE_ORDER"), (0, u "Ljava/util/Comparator;"), (409, u "([C)V"), (90, u "serialPersistentFields"), (0, u "[Ljava/io/ObjectStreamField;"), (0, .class_ 1104), (0, u "java/lang/String$CaseInsensitiveComparator"), (1, .class_ 1107), (0, u "java/io/Serializable"), (0, .class_ 1109), (0, u "java/lang/Comparable"), (0, .class_ 1111), (0, u "java/lang/constant/Constable"), (0, .class_ 1113), (0, u "java/lang/constant/ConstantDesc"), (2, u "serialVersionUID"), (0, u "J"), (3, u "REPL"), (0, u "C"), (2, u "LATIN1"), (1, u "UTF16")] 323

def k9m0 : Method := { name := "<init>", desc := "()V", sig := { parameters := [], returnType := none }, accessFlags := 1, code := none }
def k9c1 : Code := { maxStack := 5, maxLocals := 2, code := jdk_42_method_3_code, exceptionTable := #[], attributes := #[] }
def k9m1 : Method := { name := "<init>", desc := "([C)V", sig := { parameters := [(.array .char)], returnType := none }, accessFlags := 1, code := some k9c1 }
def k9c2 : Code := { maxStack := 2, maxLocals := 3, code := jdk_42_method_66_code, exceptionTable := #[], attributes := #[] }
def k9m2 : Method := { name := "equals", desc := "(Ljava/lang/Object;)Z", sig := { parameters := [(.object "java/lang/Object")], returnType := some .boolean }, accessFlags := 1, code := some k9c2 }
def k9c3 : Code := { maxStack := 4, maxLocals := 6, code := jdk_42_method_149_code, exceptionTable := #[], attributes := #[] }
def k9m3 : Method := { name := "<init>", desc := "([CIILjava/lang/Void;)V", sig := { parameters := [(.array .char), .int, .int, (.object "java/lang/Void")], returnType := none }, accessFlags := 2, code := some k9c3 }
/-- java/lang/String -/
def k9 : Class := { plain "java/lang/String" (some 0) with
  accessFlags := 49
  interfaces := #[4, 3, 7, 2, 8]
  cf := some (fileOf pool9 10 #[.nestMembers #[1103]] #[{ accessFlags := 1, nameIndex := 5, descriptorIndex := 6, attributes := #[] }, { accessFlags := 1, nameIndex := 5, descriptorIndex := 1010, attributes := #[] }, { accessFlags := 1, nameIndex := 543, descriptorIndex := 573, attributes := #[] }, { accessFlags := 2, nameIndex := 5, descriptorIndex := 29, attributes := #[] }] 49 2 #[1106, 1108, 575, 1110, 1112] #[{ accessFlags := 18, nameIndex := 13, descriptorIndex := 14, attributes := #[] }, { accessFlags := 18, nameIndex := 17, descriptorIndex := 18, attributes := #[] }, { accessFlags := 2, nameIndex := 21, descriptorIndex := 22, attributes := #[] }, { accessFlags := 2, nameIndex := 25, descriptorIndex := 26, attributes := #[] }, { accessFlags := 26, nameIndex := 1116, descriptorIndex := 1117, attributes := #[] }, { accessFlags := 24, nameIndex := 40, descriptorIndex := 26, attributes := #[] }, { accessFlags := 26, nameIndex := 1101, descriptorIndex := 1102, attributes := #[] }, { accessFlags := 26, nameIndex := 1121, descriptorIndex := 1122, attributes := #[] }, { accessFlags := 25, nameIndex := 599, descriptorIndex := 600, attributes := #[] }, { accessFlags := 24, nameIndex := 1125, descriptorIndex := 18, attributes := #[] }, { accessFlags := 24, nameIndex := 1127, descriptorIndex := 18, attributes := #[] }])
  fields := #[{ name := "value", type := (.array .byte), accessFlags := 18, slot := 0, constantValue := 0 }, { name := "coder", type := .byte, accessFlags := 18, slot := 1, constantValue := 0 }, { name := "hash", type := .int, accessFlags := 2, slot := 2, constantValue := 0 }, { name := "hashIsZero", type := .boolean, accessFlags := 2, slot := 3, constantValue := 0 }, { name := "serialVersionUID", type := .long, accessFlags := 26, slot := 0, constantValue := 0 }, { name := "COMPACT_STRINGS", type := .boolean, accessFlags := 24, slot := 1, constantValue := 0 }, { name := "serialPersistentFields", type := (.array (.object "java/io/ObjectStreamField")), accessFlags := 26, slot := 2, constantValue := 0 }, { name := "REPL", type := .char, accessFlags := 26, slot := 3, constantValue := 0 }, { name := "CASE_INSENSITIVE_ORDER", type := (.object "java/util/Comparator"), accessFlags := 25, slot := 4, constantValue := 0 }, { name := "LATIN1", type := .byte, accessFlags := 24, slot := 5, constantValue := 0 }, { name := "UTF16", type := .byte, accessFlags := 24, slot := 6, constantValue := 0 }]
  methods := #[k9m0, k9m1, k9m2, k9m3]
  instanceTypes := #[(.array .byte), .byte, .int, .boolean]
  staticTypes := #[.long, .boolean, (.array (.object "java/io/ObjectStreamField")), .char, (.object "java/util/Comparator"), .byte, .byte]
  resolved := Array.replicate 1451 none
  statics := some 1 }

def pool10 : Array CpInfo := pool [(6, .class_ 8), (1, u "java/lang/Object"), (0, u "<init>"), (0, u "()V"), (1, .class_ 14), (1, u "java/lang/StringUTF16"), (31, u "$assertionsDisabled"), (0, u "Z"), (13, u "HI_BYTE_SHIFT"), (0, u "I"), (2, u "LO_BYTE_SHIFT"), (49, .methodref 12 116), (0, .nameAndType 117 118), (0, u "compress"), (0, u "([CI[BII)I"), (3, u "([CII)[B"), (138, u "coderFromArrayLen"), (0, u "([BI)B"), (106, .class_ 371), (1, u "java/lang/StringUTF16$LinesSpliterator"), (58, u "MAX_LENGTH"), (196, .class_ 628), (0, u "java/lang/StringUTF16$CodePointsSpliterator"), (0, .class_ 630), (0, u "java/lang/StringUTF16$CharsSpliterator")] 4

def k10m0 : Method := { name := "<init>", desc := "()V", sig := { parameters := [], returnType := none }, accessFlags := 0, code := none }
def k10c1 : Code := { maxStack := 2, maxLocals := 2, code := jdk_52_method_15_code, exceptionTable := #[], attributes := #[] }
def k10m1 : Method := { name := "coderFromArrayLen", desc := "([BI)B", sig := { parameters := [(.array .byte), .int], returnType := some .byte }, accessFlags := 8, code := some k10c1 }
def k10c2 : Code := { maxStack := 5, maxLocals := 6, code := jdk_52_method_16_code, exceptionTable := #[], attributes := #[] }
def k10m2 : Method := { name := "compress", desc := "([CII)[B", sig := { parameters := [(.array .char), .int, .int], returnType := some (.array .byte) }, accessFlags := 9, code := some k10c2 }
def k10c3 : Code := { maxStack := 3, maxLocals := 7, code := jdk_52_method_21_code, exceptionTable := #[], attributes := #[] }
def k10m3 : Method := { name := "compress", desc := "([CI[BII)I", sig := { parameters := [(.array .char), .int, (.array .byte), .int, .int], returnType := some .int }, accessFlags := 9, code := some k10c3 }
/-- java/lang/StringUTF16 -/
def k10 : Class := { plain "java/lang/StringUTF16" (some 0) with
  accessFlags := 48
  interfaces := #[]
  cf := some (fileOf pool10 12 #[.nestMembers #[627, 629, 369]] #[{ accessFlags := 0, nameIndex := 9, descriptorIndex := 10, attributes := #[] }, { accessFlags := 8, nameIndex := 261, descriptorIndex := 262, attributes := #[] }, { accessFlags := 9, nameIndex := 117, descriptorIndex := 122, attributes := #[] }, { accessFlags := 9, nameIndex := 117, descriptorIndex := 118, attributes := #[] }] 48 6 #[] #[{ accessFlags := 26, nameIndex := 61, descriptorIndex := 62, attributes := #[] }, { accessFlags := 26, nameIndex := 65, descriptorIndex := 62, attributes := #[] }, { accessFlags := 24, nameIndex := 430, descriptorIndex := 62, attributes := #[] }, { accessFlags := 4120, nameIndex := 46, descriptorIndex := 47, attributes := #[] }])
  fields := #[{ name := "HI_BYTE_SHIFT", type := .int, accessFlags := 26, slot := 0, constantValue := 0 }, { name := "LO_BYTE_SHIFT", type := .int, accessFlags := 26, slot := 1, constantValue := 0 }, { name := "MAX_LENGTH", type := .int, accessFlags := 24, slot := 2, constantValue := 0 }, { name := "$assertionsDisabled", type := .boolean, accessFlags := 4120, slot := 3, constantValue := 0 }]
  methods := #[k10m0, k10m1, k10m2, k10m3]
  instanceTypes := #[]
  staticTypes := #[.int, .int, .int, .boolean]
  resolved := Array.replicate 635 none
  statics := none }

def pool11 : Array CpInfo := pool [(1, .methodref 2 3), (0, .class_ 4), (0, .nameAndType 5 6), (0, u "java/lang/Object"), (0, u "<init>"), (0, u "()V"), (0, .fieldref 8 9), (0, .class_ 10), (0, .nameAndType 11 12), (0, u "com/example/expiring_state/expiringstate/Answer"), (0, u "withoutStore"), (0, u "Z"), (4, u "(Z)V"), (6, u "()Z")] 8

def k11c0 : Code := { maxStack := 2, maxLocals := 2, code := prog_1_method_1_code, exceptionTable := #[], attributes := #[] }
def k11m0 : Method := { name := "<init>", desc := "(Z)V", sig := { parameters := [.boolean], returnType := none }, accessFlags := 0, code := some k11c0 }
def k11c1 : Code := { maxStack := 1, maxLocals := 1, code := prog_1_method_3_code, exceptionTable := #[], attributes := #[] }
def k11m1 : Method := { name := "withoutStore", desc := "()Z", sig := { parameters := [], returnType := some .boolean }, accessFlags := 17, code := some k11c1 }
/-- com/example/expiring_state/expiringstate/Answer -/
def k11 : Class := { plain "com/example/expiring_state/expiringstate/Answer" (some 0) with
  accessFlags := 1057
  interfaces := #[]
  cf := some (fileOf pool11 8 #[] #[{ accessFlags := 0, nameIndex := 5, descriptorIndex := 17, attributes := #[] }, { accessFlags := 17, nameIndex := 11, descriptorIndex := 24, attributes := #[] }] 1057 2 #[] #[{ accessFlags := 18, nameIndex := 11, descriptorIndex := 12, attributes := #[] }])
  fields := #[{ name := "withoutStore", type := .boolean, accessFlags := 18, slot := 0, constantValue := 0 }]
  methods := #[k11m0, k11m1]
  instanceTypes := #[.boolean]
  staticTypes := #[]
  resolved := Array.replicate 33 none
  statics := none }

def pool12 : Array CpInfo := pool [(1, .methodref 2 3), (0, .class_ 4), (0, .nameAndType 5 6), (0, u "com/example/expiring_state/expiringstate/Answer"), (0, u "<init>"), (0, u "(Z)V"), (0, .fieldref 8 9), (0, .class_ 10), (0, .nameAndType 11 12), (0, u "com/example/expiring_state/expiringstate/OneTimeCodes$IssueResult"), (0, u "status"), (0, u "Lcom/example/expiring_state/expiringstate/OneTimeCodes$IssueResult$Status;"), (0, .fieldref 8 14), (0, .nameAndType 15 16), (0, u "code"), (0, u "Ljava/lang/String;"), (0, .fieldref 8 18), (0, .nameAndType 19 20), (0, u "expiresAt"), (0, u "Ljava/time/Instant;"), (0, .fieldref 8 22), (0, .nameAndType 23 24), (0, u "retryAfter"), (0, u "Ljava/time/Duration;"), (0, .fieldref 26 27), (0, .class_ 28), (0, .nameAndType 29 12), (0, u "com/example/expiring_state/expiringstate/OneTimeCodes$IssueResult$Status"), (0, u "ISSUED"), (0, .methodref 31 32), (0, .class_ 33), (0, .nameAndType 34 35), (0, u "java/time/Instant"), (0, u "ofEpochMilli"), (0, u "(J)Ljava/time/Instant;"), (0, .fieldref 37 38), (0, .class_ 39), (0, .nameAndType 40 24), (0, u "java/time/Duration"), (0, u "ZERO"), (0, .methodref 8 42), (0, .nameAndType 5 43), (0, u "(Lcom/example/expiring_state/expiringstate/OneTimeCodes$IssueResult$Status;Ljava/lang/String;Ljava/time/Instant;Ljava/time/Duration;Z)V"), (0, .methodref 37 45), (0, .nameAndType 46 47), (0, u "ofMillis"), (0, u "(J)Ljava/time/Duration;"), (0, .methodref 8 49), (0, .nameAndType 50 51), (0, u "issued"), (0, u "()V"), (19, u "()Ljava/lang/String;"), (11, u "()Lcom/example/expiring_state/expiringstate/OneTimeCodes$IssueResult$Status;"), (2, u "UNAVAILABLE"), (0, u "Lcom/example/expiring_state/expiringstate/OneTimeCodes$IssueResult;"), (2, u "of"), (0, u "(Lcom/example/expiring_state/expiringstate/OneTimeCodes$IssueResult$Status;JLjava/lang/String;)Lcom/example/expiring_state/expiringstate/OneTimeCodes$IssueResult;"), (3, u "()Ljava/time/Instant;"), (0, u "()Ljava/time/Duration;"), (8, .class_ 106), (0, u "com/example/expiring_state/expiringstate/OneTimeCodes")] 23

def k12c0 : Code := { maxStack := 2, maxLocals := 6, code := prog_52_method_1_code, exceptionTable := #[], attributes := #[] }
def k12m0 : Method := { name := "<init>", desc := "(Lcom/example/expiring_state/expiringstate/OneTimeCodes$IssueResult$Status;Ljava/lang/String;Ljava/time/Instant;Ljava/time/Duration;Z)V", sig := { parameters := [(.object "com/example/expiring_state/expiringstate/OneTimeCodes$IssueResult$Status"), (.object "java/lang/String"), (.object "java/time/Instant"), (.object "java/time/Duration"), .boolean], returnType := none }, accessFlags := 2, code := some k12c0 }
def k12c1 : Code := { maxStack := 7, maxLocals := 5, code := prog_52_method_2_code, exceptionTable := #[], attributes := #[] }
def k12m1 : Method := { name := "of", desc := "(Lcom/example/expiring_state/expiringstate/OneTimeCodes$IssueResult$Status;JLjava/lang/String;)Lcom/example/expiring_state/expiringstate/OneTimeCodes$IssueResult;", sig := { parameters := [(.object "com/example/expiring_state/expiringstate/OneTimeCodes$IssueResult$Status"), .long, (.object "java/lang/String")], returnType := some (.object "com/example/expiring_state/expiringstate/OneTimeCodes$IssueResult") }, accessFlags := 8, code := some k12c1 }
def k12c2 : Code := { maxStack := 1, maxLocals := 1, code := prog_52_method_4_code, exceptionTable := #[], attributes := #[] }
def k12m2 : Method := { name := "status", desc := "()Lcom/example/expiring_state/expiringstate/OneTimeCodes$IssueResult$Status;", sig := { parameters := [], returnType := some (.object "com/example/expiring_state/expiringstate/OneTimeCodes$IssueResult$Status") }, accessFlags := 1, code := some k12c2 }
def k12c3 : Code := { maxStack := 1, maxLocals := 1, code := prog_52_method_5_code, exceptionTable := #[], attributes := #[] }
def k12m3 : Method := { name := "code", desc := "()Ljava/lang/String;", sig := { parameters := [], returnType := some (.object "java/lang/String") }, accessFlags := 1, code := some k12c3 }
def k12c4 : Code := { maxStack := 1, maxLocals := 1, code := prog_52_method_6_code, exceptionTable := #[], attributes := #[] }
def k12m4 : Method := { name := "expiresAt", desc := "()Ljava/time/Instant;", sig := { parameters := [], returnType := some (.object "java/time/Instant") }, accessFlags := 1, code := some k12c4 }
def k12c5 : Code := { maxStack := 1, maxLocals := 1, code := prog_52_method_7_code, exceptionTable := #[], attributes := #[] }
def k12m5 : Method := { name := "retryAfter", desc := "()Ljava/time/Duration;", sig := { parameters := [], returnType := some (.object "java/time/Duration") }, accessFlags := 1, code := some k12c5 }
def k12c6 : Code := { maxStack := 3, maxLocals := 1, code := prog_52_method_9_code, exceptionTable := #[], attributes := #[] }
def k12m6 : Method := { name := "issued", desc := "()V", sig := { parameters := [], returnType := none }, accessFlags := 2, code := some k12c6 }
/-- com/example/expiring_state/expiringstate/OneTimeCodes$IssueResult -/
def k12 : Class := { plain "com/example/expiring_state/expiringstate/OneTimeCodes$IssueResult" (some 11) with
  accessFlags := 49
  interfaces := #[]
  cf := some (fileOf pool12 8 #[.nestHost 105] #[{ accessFlags := 2, nameIndex := 5, descriptorIndex := 43, attributes := #[] }, { accessFlags := 8, nameIndex := 90, descriptorIndex := 91, attributes := #[] }, { accessFlags := 1, nameIndex := 11, descriptorIndex := 83, attributes := #[] }, { accessFlags := 1, nameIndex := 15, descriptorIndex := 71, attributes := #[] }, { accessFlags := 1, nameIndex := 19, descriptorIndex := 95, attributes := #[] }, { accessFlags := 1, nameIndex := 23, descriptorIndex := 96, attributes := #[] }, { accessFlags := 2, nameIndex := 50, descriptorIndex := 51, attributes := #[] }] 49 2 #[] #[{ accessFlags := 24, nameIndex := 86, descriptorIndex := 87, attributes := #[] }, { accessFlags := 18, nameIndex := 11, descriptorIndex := 12, attributes := #[] }, { accessFlags := 18, nameIndex := 15, descriptorIndex := 16, attributes := #[] }, { accessFlags := 18, nameIndex := 19, descriptorIndex := 20, attributes := #[] }, { accessFlags := 18, nameIndex := 23, descriptorIndex := 24, attributes := #[] }])
  fields := #[{ name := "UNAVAILABLE", type := (.object "com/example/expiring_state/expiringstate/OneTimeCodes$IssueResult"), accessFlags := 24, slot := 0, constantValue := 0 }, { name := "status", type := (.object "com/example/expiring_state/expiringstate/OneTimeCodes$IssueResult$Status"), accessFlags := 18, slot := 1, constantValue := 0 }, { name := "code", type := (.object "java/lang/String"), accessFlags := 18, slot := 2, constantValue := 0 }, { name := "expiresAt", type := (.object "java/time/Instant"), accessFlags := 18, slot := 3, constantValue := 0 }, { name := "retryAfter", type := (.object "java/time/Duration"), accessFlags := 18, slot := 4, constantValue := 0 }]
  methods := #[k12m0, k12m1, k12m2, k12m3, k12m4, k12m5, k12m6]
  instanceTypes := #[.boolean, (.object "com/example/expiring_state/expiringstate/OneTimeCodes$IssueResult$Status"), (.object "java/lang/String"), (.object "java/time/Instant"), (.object "java/time/Duration")]
  staticTypes := #[(.object "com/example/expiring_state/expiringstate/OneTimeCodes$IssueResult")]
  resolved := Array.replicate 130 none
  statics := none }

def pool13 : Array CpInfo := pool [(4, .class_ 6), (1, u "java/time/temporal/TemporalAccessor"), (95, .class_ 103), (0, u "java/lang/Object")] 21

/-- java/time/temporal/TemporalAccessor -/
def k13 : Class := { plain "java/time/temporal/TemporalAccessor" (some 0) with
  accessFlags := 1537
  interfaces := #[]
  cf := some (fileOf pool13 4 #[] #[] 1537 102 #[] #[])
  fields := #[]
  methods := #[]
  instanceTypes := #[]
  staticTypes := #[]
  resolved := Array.replicate 125 none
  statics := none }

def pool14 : Array CpInfo := pool [(22, .class_ 24), (1, u "java/time/temporal/Temporal"), (2, .class_ 28), (0, u "java/lang/Object"), (0, .class_ 30), (0, u "java/time/temporal/TemporalAccessor")] 25

/-- java/time/temporal/Temporal -/
def k14 : Class := { plain "java/time/temporal/Temporal" (some 0) with
  accessFlags := 1537
  interfaces := #[13]
  cf := some (fileOf pool14 22 #[] #[] 1537 27 #[29] #[])
  fields := #[]
  methods := #[]
  instanceTypes := #[]
  staticTypes := #[]
  resolved := Array.replicate 56 none
  statics := none }

def pool15 : Array CpInfo := pool [(1, .class_ 2), (0, u "java/time/temporal/TemporalAdjuster"), (0, .class_ 4), (0, u "java/lang/Object")] 6

/-- java/time/temporal/TemporalAdjuster -/
def k15 : Class := { plain "java/time/temporal/TemporalAdjuster" (some 0) with
  accessFlags := 1537
  interfaces := #[]
  cf := some (fileOf pool15 1 #[] #[] 1537 3 #[] #[])
  fields := #[]
  methods := #[]
  instanceTypes := #[]
  staticTypes := #[]
  resolved := Array.replicate 11 none
  statics := none }

def pool16 : Array CpInfo := pool [(20, .methodref 21 22), (0, .class_ 23), (0, .nameAndType 24 25), (0, u "java/time/Instant"), (0, u "create"), (0, u "(JI)Ljava/time/Instant;"), (3, .class_ 31), (1, u "java/lang/Math"), (0, u "floorDiv"), (0, u "(JJ)J"), (0, .methodref 29 35), (0, .nameAndType 36 33), (0, u "addExact"), (2, u "floorMod"), (0, .methodref 29 41), (0, .nameAndType 32 42), (0, u "(JI)J"), (0, .methodref 29 44), (0, .nameAndType 39 45), (0, u "(JI)I"), (0, .integer 1000000), (30, .nameAndType 78 79), (0, u "<init>"), (0, u "()V"), (41, .fieldref 21 122), (0, .nameAndType 123 124), (0, u "EPOCH"), (0, u "Ljava/time/Instant;"), (0, .long 18415187059542332416), (1, .long 31556889864403199), (6, .methodref 21 135), (0, .nameAndType 78 136), (0, u "(JI)V"), (0, .methodref 138 77), (0, .class_ 139), (0, u "java/lang/Object"), (0, .fieldref 21 141), (0, .nameAndType 142 143), (0, u "seconds"), (0, u "J"), (0, .fieldref 21 145), (0, .nameAndType 146 147), (0, u "nanos"), (0, u "I"), (28, .class_ 178), (1, u "java/time/temporal/Temporal"), (3, .class_ 184), (1, u "java/time/Instant$1"), (23, .class_ 210), (1, u "java/time/temporal/TemporalAdjuster"), (21, u "()J"), (14, u "(J)Ljava/time/Instant;"), (22, .methodref 29 271), (0, .nameAndType 272 42), (0, u "multiplyExact"), (150, u "MIN"), (4, u "MAX"), (0, .class_ 430), (0, u "java/lang/Comparable"), (0, .class_ 432), (0, u "java/io/Serializable"), (0, u "MIN_SECOND"), (1, u "MAX_SECOND"), (0, u "serialVersionUID"), (12, u "ofEpochMilli"), (70, u "toEpochMilli")] 58

def k16c0 : Code := { maxStack := 4, maxLocals := 5, code := jdk_2320_method_5_code, exceptionTable := #[], attributes := #[] }
def k16m0 : Method := { name := "ofEpochMilli", desc := "(J)Ljava/time/Instant;", sig := { parameters := [.long], returnType := some (.object "java/time/Instant") }, accessFlags := 9, code := some k16c0 }
def k16c1 : Code := { maxStack := 5, maxLocals := 3, code := jdk_2320_method_8_code, exceptionTable := #[], attributes := #[] }
def k16m1 : Method := { name := "create", desc := "(JI)Ljava/time/Instant;", sig := { parameters := [.long, .int], returnType := some (.object "java/time/Instant") }, accessFlags := 10, code := some k16c1 }
def k16c2 : Code := { maxStack := 3, maxLocals := 4, code := jdk_2320_method_9_code, exceptionTable := #[], attributes := #[] }
def k16m2 : Method := { name := "<init>", desc := "(JI)V", sig := { parameters := [.long, .int], returnType := none }, accessFlags := 2, code := some k16c2 }
def k16c3 : Code := { maxStack := 4, maxLocals := 5, code := jdk_2320_method_40_code, exceptionTable := #[], attributes := #[] }
def k16m3 : Method := { name := "toEpochMilli", desc := "()J", sig := { parameters := [], returnType := some .long }, accessFlags := 1, code := some k16c3 }
/-- java/time/Instant -/
def k16 : Class := { plain "java/time/Instant" (some 0) with
  accessFlags := 49
  interfaces := #[14, 15, 3, 4]
  cf := some (fileOf pool16 21 #[.nestMembers #[182]] #[{ accessFlags := 9, nameIndex := 449, descriptorIndex := 247, attributes := #[] }, { accessFlags := 10, nameIndex := 24, descriptorIndex := 25, attributes := #[] }, { accessFlags := 2, nameIndex := 78, descriptorIndex := 136, attributes := #[] }, { accessFlags := 1, nameIndex := 520, descriptorIndex := 232, attributes := #[] }] 49 138 #[176, 208, 429, 431] #[{ accessFlags := 25, nameIndex := 123, descriptorIndex := 124, attributes := #[] }, { accessFlags := 26, nameIndex := 433, descriptorIndex := 143, attributes := #[] }, { accessFlags := 26, nameIndex := 435, descriptorIndex := 143, attributes := #[] }, { accessFlags := 25, nameIndex := 423, descriptorIndex := 124, attributes := #[] }, { accessFlags := 25, nameIndex := 428, descriptorIndex := 124, attributes := #[] }, { accessFlags := 26, nameIndex := 436, descriptorIndex := 143, attributes := #[] }, { accessFlags := 18, nameIndex := 142, descriptorIndex := 143, attributes := #[] }, { accessFlags := 18, nameIndex := 146, descriptorIndex := 147, attributes := #[] }])
  fields := #[{ name := "EPOCH", type := (.object "java/time/Instant"), accessFlags := 25, slot := 0, constantValue := 0 }, { name := "MIN_SECOND", type := .long, accessFlags := 26, slot := 1, constantValue := 0 }, { name := "MAX_SECOND", type := .long, accessFlags := 26, slot := 2, constantValue := 0 }, { name := "MIN", type := (.object "java/time/Instant"), accessFlags := 25, slot := 3, constantValue := 0 }, { name := "MAX", type := (.object "java/time/Instant"), accessFlags := 25, slot := 4, constantValue := 0 }, { name := "serialVersionUID", type := .long, accessFlags := 26, slot := 5, constantValue := 0 }, { name := "seconds", type := .long, accessFlags := 18, slot := 0, constantValue := 0 }, { name := "nanos", type := .int, accessFlags := 18, slot := 1, constantValue := 0 }]
  methods := #[k16m0, k16m1, k16m2, k16m3]
  instanceTypes := #[.long, .int]
  staticTypes := #[(.object "java/time/Instant"), .long, .long, (.object "java/time/Instant"), (.object "java/time/Instant"), .long]
  resolved := Array.replicate 579 none
  statics := some 2 }

def pool17 : Array CpInfo := pool [(1, .class_ 2), (0, u "java/lang/Math"), (1, .class_ 6), (1, u "java/lang/Object"), (0, u "<init>"), (0, u "()V"), (89, .class_ 100), (1, u "java/lang/Math$RandomNumberGeneratorHolder"), (17, .methodref 1 119), (0, .nameAndType 120 121), (0, u "multiplyExact"), (0, u "(JJ)J"), (0, .methodref 1 123), (0, .nameAndType 124 125), (0, u "abs"), (0, u "(J)J"), (2, .long 9223372036854775808), (14, .methodref 1 144), (0, .nameAndType 145 121), (0, u "floorDiv"), (0, .methodref 1 147), (0, .nameAndType 148 121), (0, u "floorMod"), (23, u "negativeZeroFloatBits"), (0, u "J"), (2, u "negativeZeroDoubleBits"), (68, u "$assertionsDisabled"), (0, u "Z"), (91, u "twoToTheDoubleScaleDown"), (0, u "D"), (4, u "twoToTheDoubleScaleUp"), (9, u "E"), (3, u "PI"), (2, u "TAU"), (2, u "DEGREES_TO_RADIANS"), (0, u "RADIANS_TO_DEGREES"), (27, u "addExact"), (1, u "(JI)J"), (24, u "(JI)I")] 39

def k17m0 : Method := { name := "<init>", desc := "()V", sig := { parameters := [], returnType := none }, accessFlags := 2, code := none }
def k17c1 : Code := { maxStack := 6, maxLocals := 6, code := jdk_29_method_25_code, exceptionTable := #[], attributes := #[] }
def k17m1 : Method := { name := "addExact", desc := "(JJ)J", sig := { parameters := [.long, .long], returnType := some .long }, accessFlags := 9, code := some k17c1 }
def k17c2 : Code := { maxStack := 4, maxLocals := 3, code := jdk_29_method_29_code, exceptionTable := #[], attributes := #[] }
def k17m2 : Method := { name := "multiplyExact", desc := "(JI)J", sig := { parameters := [.long, .int], returnType := some .long }, accessFlags := 9, code := some k17c2 }
def k17c3 : Code := { maxStack := 4, maxLocals := 10, code := jdk_29_method_30_code, exceptionTable := #[], attributes := #[] }
def k17m3 : Method := { name := "multiplyExact", desc := "(JJ)J", sig := { parameters := [.long, .long], returnType := some .long }, accessFlags := 9, code := some k17c3 }
def k17c4 : Code := { maxStack := 4, maxLocals := 3, code := jdk_29_method_48_code, exceptionTable := #[], attributes := #[] }
def k17m4 : Method := { name := "floorDiv", desc := "(JI)J", sig := { parameters := [.long, .int], returnType := some .long }, accessFlags := 9, code := some k17c4 }
def k17c5 : Code := { maxStack := 4, maxLocals := 6, code := jdk_29_method_49_code, exceptionTable := #[], attributes := #[] }
def k17m5 : Method := { name := "floorDiv", desc := "(JJ)J", sig := { parameters := [.long, .long], returnType := some .long }, accessFlags := 9, code := some k17c5 }
def k17c6 : Code := { maxStack := 4, maxLocals := 3, code := jdk_29_method_51_code, exceptionTable := #[], attributes := #[] }
def k17m6 : Method := { name := "floorMod", desc := "(JI)I", sig := { parameters := [.long, .int], returnType := some .int }, accessFlags := 9, code := some k17c6 }
def k17c7 : Code := { maxStack := 4, maxLocals := 6, code := jdk_29_method_52_code, exceptionTable := #[], attributes := #[] }
def k17m7 : Method := { name := "floorMod", desc := "(JJ)J", sig := { parameters := [.long, .long], returnType := some .long }, accessFlags := 9, code := some k17c7 }
def k17c8 : Code := { maxStack := 4, maxLocals := 2, code := jdk_29_method_61_code, exceptionTable := #[], attributes := #[] }
def k17m8 : Method := { name := "abs", desc := "(J)J", sig := { parameters := [.long], returnType := some .long }, accessFlags := 9, code := some k17c8 }
/-- java/lang/Math -/
def k17 : Class := { plain "java/lang/Math" (some 0) with
  accessFlags := 49
  interfaces := #[]
  cf := some (fileOf pool17 1 #[.nestMembers #[98]] #[{ accessFlags := 2, nameIndex := 7, descriptorIndex := 8, attributes := #[] }, { accessFlags := 9, nameIndex := 393, descriptorIndex := 121, attributes := #[] }, { accessFlags := 9, nameIndex := 120, descriptorIndex := 395, attributes := #[] }, { accessFlags := 9, nameIndex := 120, descriptorIndex := 121, attributes := #[] }, { accessFlags := 9, nameIndex := 145, descriptorIndex := 395, attributes := #[] }, { accessFlags := 9, nameIndex := 145, descriptorIndex := 121, attributes := #[] }, { accessFlags := 9, nameIndex := 148, descriptorIndex := 420, attributes := #[] }, { accessFlags := 9, nameIndex := 148, descriptorIndex := 121, attributes := #[] }, { accessFlags := 9, nameIndex := 124, descriptorIndex := 125, attributes := #[] }] 49 4 #[] #[{ accessFlags := 25, nameIndex := 354, descriptorIndex := 339, attributes := #[] }, { accessFlags := 25, nameIndex := 358, descriptorIndex := 339, attributes := #[] }, { accessFlags := 25, nameIndex := 361, descriptorIndex := 339, attributes := #[] }, { accessFlags := 26, nameIndex := 364, descriptorIndex := 339, attributes := #[] }, { accessFlags := 26, nameIndex := 365, descriptorIndex := 339, attributes := #[] }, { accessFlags := 26, nameIndex := 172, descriptorIndex := 173, attributes := #[] }, { accessFlags := 26, nameIndex := 176, descriptorIndex := 173, attributes := #[] }, { accessFlags := 8, nameIndex := 344, descriptorIndex := 339, attributes := #[] }, { accessFlags := 8, nameIndex := 338, descriptorIndex := 339, attributes := #[] }, { accessFlags := 4120, nameIndex := 245, descriptorIndex := 246, attributes := #[] }])
  fields := #[{ name := "E", type := .double, accessFlags := 25, slot := 0, constantValue := 0 }, { name := "PI", type := .double, accessFlags := 25, slot := 1, constantValue := 0 }, { name := "TAU", type := .double, accessFlags := 25, slot := 2, constantValue := 0 }, { name := "DEGREES_TO_RADIANS", type := .double, accessFlags := 26, slot := 3, constantValue := 0 }, { name := "RADIANS_TO_DEGREES", type := .double, accessFlags := 26, slot := 4, constantValue := 0 }, { name := "negativeZeroFloatBits", type := .long, accessFlags := 26, slot := 5, constantValue := 0 }, { name := "negativeZeroDoubleBits", type := .long, accessFlags := 26, slot := 6, constantValue := 0 }, { name := "twoToTheDoubleScaleUp", type := .double, accessFlags := 8, slot := 7, constantValue := 0 }, { name := "twoToTheDoubleScaleDown", type := .double, accessFlags := 8, slot := 8, constantValue := 0 }, { name := "$assertionsDisabled", type := .boolean, accessFlags := 4120, slot := 9, constantValue := 0 }]
  methods := #[k17m0, k17m1, k17m2, k17m3, k17m4, k17m5, k17m6, k17m7, k17m8]
  instanceTypes := #[]
  staticTypes := #[.double, .double, .double, .double, .double, .long, .long, .double, .double, .boolean]
  resolved := Array.replicate 460 none
  statics := none }

def pool18 : Array CpInfo := pool [(1, .class_ 2), (0, u "java/time/temporal/TemporalAmount"), (0, .class_ 4), (0, u "java/lang/Object")] 11

/-- java/time/temporal/TemporalAmount -/
def k18 : Class := { plain "java/time/temporal/TemporalAmount" (some 0) with
  accessFlags := 1537
  interfaces := #[]
  cf := some (fileOf pool18 1 #[] #[] 1537 3 #[] #[])
  fields := #[]
  methods := #[]
  instanceTypes := #[]
  staticTypes := #[]
  resolved := Array.replicate 16 none
  statics := none }

def pool19 : Array CpInfo := pool [(4, .methodref 5 6), (0, .class_ 7), (0, .nameAndType 8 9), (0, u "java/lang/Math"), (0, u "multiplyExact"), (0, u "(JI)J"), (0, .methodref 11 12), (0, .class_ 13), (0, .nameAndType 14 15), (0, u "java/time/Duration"), (0, u "create"), (0, u "(JI)Ljava/time/Duration;"), (0, .long 1000000000), (4, u "(JJ)J"), (0, .methodref 5 23), (0, .nameAndType 24 21), (0, u "addExact"), (3, .long 1000), (1, .integer 1000000), (1, .fieldref 11 33), (0, .nameAndType 34 35), (0, u "ZERO"), (0, u "Ljava/time/Duration;"), (13, .class_ 51), (1, u "java/time/temporal/TemporalAmount"), (13, u "()Z"), (13, .class_ 81), (1, u "java/time/Duration$Lazy"), (35, u "seconds"), (21, u "<init>"), (17, .nameAndType 139 158), (0, u "()V"), (40, u "(J)Ljava/time/Duration;"), (15, .methodref 11 216), (0, .nameAndType 139 217), (0, u "(JI)V"), (0, .methodref 219 157), (0, .class_ 220), (0, u "java/lang/Object"), (0, .fieldref 11 222), (0, .nameAndType 117 223), (0, u "J"), (0, .fieldref 11 225), (0, .nameAndType 226 227), (0, u "nanos"), (0, u "I"), (11, .class_ 241), (1, u "java/time/Duration$DurationUnits"), (9, u "()J"), (17, .class_ 271), (1, u "java/time/Duration$1"), (22, .long 1000000), (68, u "BI_NANOS_PER_SECOND"), (0, u "Ljava/math/BigInteger;"), (120, .class_ 486), (0, u "java/lang/Comparable"), (0, .class_ 488), (0, u "java/io/Serializable"), (0, u "serialVersionUID"), (12, u "ofMillis"), (53, u "isZero"), (44, u "toMillis")] 54

def k19c0 : Code := { maxStack := 4, maxLocals := 5, code := jdk_2316_method_6_code, exceptionTable := #[], attributes := #[] }
def k19m0 : Method := { name := "ofMillis", desc := "(J)Ljava/time/Duration;", sig := { parameters := [.long], returnType := some (.object "java/time/Duration") }, accessFlags := 9, code := some k19c0 }
def k19c1 : Code := { maxStack := 5, maxLocals := 3, code := jdk_2316_method_16_code, exceptionTable := #[], attributes := #[] }
def k19m1 : Method := { name := "create", desc := "(JI)Ljava/time/Duration;", sig := { parameters := [.long, .int], returnType := some (.object "java/time/Duration") }, accessFlags := 10, code := some k19c1 }
def k19c2 : Code := { maxStack := 3, maxLocals := 4, code := jdk_2316_method_17_code, exceptionTable := #[], attributes := #[] }
def k19m2 : Method := { name := "<init>", desc := "(JI)V", sig := { parameters := [.long, .int], returnType := none }, accessFlags := 2, code := some k19c2 }
def k19c3 : Code := { maxStack := 4, maxLocals := 1, code := jdk_2316_method_21_code, exceptionTable := #[], attributes := #[] }
def k19m3 : Method := { name := "isZero", desc := "()Z", sig := { parameters := [], returnType := some .boolean }, accessFlags := 1, code := some k19c3 }
def k19c4 : Code := { maxStack := 6, maxLocals := 7, code := jdk_2316_method_57_code, exceptionTable := #[], attributes := #[] }
def k19m4 : Method := { name := "toMillis", desc := "()J", sig := { parameters := [], returnType := some .long }, accessFlags := 1, code := some k19c4 }
/-- java/time/Duration -/
def k19 : Class := { plain "java/time/Duration" (some 0) with
  accessFlags := 49
  interfaces := #[18, 3, 4]
  cf := some (fileOf pool19 11 #[.nestMembers #[269, 239, 79]] #[{ accessFlags := 9, nameIndex := 502, descriptorIndex := 199, attributes := #[] }, { accessFlags := 10, nameIndex := 14, descriptorIndex := 15, attributes := #[] }, { accessFlags := 2, nameIndex := 139, descriptorIndex := 217, attributes := #[] }, { accessFlags := 1, nameIndex := 556, descriptorIndex := 65, attributes := #[] }, { accessFlags := 1, nameIndex := 601, descriptorIndex := 251, attributes := #[] }] 49 219 #[49, 485, 487] #[{ accessFlags := 25, nameIndex := 34, descriptorIndex := 35, attributes := #[] }, { accessFlags := 26, nameIndex := 489, descriptorIndex := 223, attributes := #[] }, { accessFlags := 26, nameIndex := 363, descriptorIndex := 364, attributes := #[] }, { accessFlags := 18, nameIndex := 117, descriptorIndex := 223, attributes := #[] }, { accessFlags := 18, nameIndex := 226, descriptorIndex := 227, attributes := #[] }])
  fields := #[{ name := "ZERO", type := (.object "java/time/Duration"), accessFlags := 25, slot := 0, constantValue := 0 }, { name := "serialVersionUID", type := .long, accessFlags := 26, slot := 1, constantValue := 0 }, { name := "BI_NANOS_PER_SECOND", type := (.object "java/math/BigInteger"), accessFlags := 26, slot := 2, constantValue := 0 }, { name := "seconds", type := .long, accessFlags := 18, slot := 0, constantValue := 0 }, { name := "nanos", type := .int, accessFlags := 18, slot := 1, constantValue := 0 }]
  methods := #[k19m0, k19m1, k19m2, k19m3, k19m4]
  instanceTypes := #[.long, .int]
  staticTypes := #[(.object "java/time/Duration"), .long, (.object "java/math/BigInteger")]
  resolved := Array.replicate 656 none
  statics := some 3 }

def pool20 : Array CpInfo := pool [(4, .class_ 6), (1, u "java/lang/Object"), (0, u "<init>"), (0, u "()V"), (5, .class_ 16), (1, u "java/lang/StringLatin1"), (104, u "$assertionsDisabled"), (0, u "Z"), (98, .class_ 223), (1, u "java/lang/StringLatin1$LinesSpliterator"), (166, .class_ 391), (0, u "java/lang/StringLatin1$CharsSpliterator")] 3

def k20m0 : Method := { name := "<init>", desc := "()V", sig := { parameters := [], returnType := none }, accessFlags := 0, code := none }
/-- java/lang/StringLatin1 -/
def k20 : Class := { plain "java/lang/StringLatin1" (some 0) with
  accessFlags := 48
  interfaces := #[]
  cf := some (fileOf pool20 14 #[.nestMembers #[390, 221]] #[{ accessFlags := 0, nameIndex := 7, descriptorIndex := 8, attributes := #[] }] 48 4 #[] #[{ accessFlags := 4120, nameIndex := 121, descriptorIndex := 122, attributes := #[] }])
  fields := #[{ name := "$assertionsDisabled", type := .boolean, accessFlags := 4120, slot := 0, constantValue := 0 }]
  methods := #[k20m0]
  instanceTypes := #[]
  staticTypes := #[.boolean]
  resolved := Array.replicate 395 none
  statics := none }

def pool21 : Array CpInfo := pool [(2, .class_ 4), (1, u "java/lang/Object"), (0, u "<init>"), (0, u "()V"), (17, .class_ 26), (1, u "jdk/internal/util/Preconditions"), (28, .class_ 56), (0, u "jdk/internal/util/Preconditions$4"), (57, .class_ 115), (0, u "jdk/internal/util/Preconditions$1"), (7, u "SIOOBE_FORMATTER"), (0, u "Ljava/util/function/BiFunction;"), (0, .class_ 126), (0, u "jdk/internal/util/Preconditions$2"), (3, u "AIOOBE_FORMATTER"), (0, .class_ 132), (0, u "jdk/internal/util/Preconditions$3"), (3, u "IOOBE_FORMATTER")] 57

def k21m0 : Method := { name := "<init>", desc := "()V", sig := { parameters := [], returnType := none }, accessFlags := 1, code := none }
/-- jdk/internal/util/Preconditions -/
def k21 : Class := { plain "jdk/internal/util/Preconditions" (some 0) with
  accessFlags := 33
  interfaces := #[]
  cf := some (fileOf pool21 24 #[.nestMembers #[55, 131, 125, 114]] #[{ accessFlags := 1, nameIndex := 5, descriptorIndex := 6, attributes := #[] }] 33 2 #[] #[{ accessFlags := 25, nameIndex := 123, descriptorIndex := 124, attributes := #[] }, { accessFlags := 25, nameIndex := 130, descriptorIndex := 124, attributes := #[] }, { accessFlags := 25, nameIndex := 136, descriptorIndex := 124, attributes := #[] }])
  fields := #[{ name := "SIOOBE_FORMATTER", type := (.object "java/util/function/BiFunction"), accessFlags := 25, slot := 0, constantValue := 0 }, { name := "AIOOBE_FORMATTER", type := (.object "java/util/function/BiFunction"), accessFlags := 25, slot := 1, constantValue := 0 }, { name := "IOOBE_FORMATTER", type := (.object "java/util/function/BiFunction"), accessFlags := 25, slot := 2, constantValue := 0 }]
  methods := #[k21m0]
  instanceTypes := #[]
  staticTypes := #[(.object "java/util/function/BiFunction"), (.object "java/util/function/BiFunction"), (.object "java/util/function/BiFunction")]
  resolved := Array.replicate 194 none
  statics := some 4 }

def pool22 : Array CpInfo := pool [(9, u "<init>"), (6, .class_ 18), (1, u "java/lang/Object"), (0, u "()V"), (1, .class_ 23), (1, u "jdk/internal/util/ArraysSupport"), (0, u "LOG2_ARRAY_LONG_INDEX_SCALE"), (0, u "I"), (2, u "U"), (0, u "Ljdk/internal/misc/Unsafe;"), (8, u "BIG_ENDIAN"), (0, u "Z"), (8, u "LOG2_BYTE_BIT_SIZE"), (4, u "LOG2_ARRAY_INT_INDEX_SCALE"), (54, u "JLA"), (0, u "Ljdk/internal/access/JavaLangAccess;"), (11, u "LOG2_ARRAY_BOOLEAN_INDEX_SCALE"), (9, u "LOG2_ARRAY_BYTE_INDEX_SCALE"), (5, u "LOG2_ARRAY_CHAR_INDEX_SCALE"), (5, u "LOG2_ARRAY_SHORT_INDEX_SCALE"), (18, u "LOG2_ARRAY_FLOAT_INDEX_SCALE"), (24, u "LOG2_ARRAY_DOUBLE_INDEX_SCALE"), (89, u "T_BOOLEAN"), (2, u "T_CHAR"), (1, u "T_FLOAT"), (1, u "T_DOUBLE"), (1, u "T_BYTE"), (1, u "T_SHORT"), (1, u "T_INT"), (1, u "T_LONG"), (1, u "SOFT_MAX_ARRAY_LENGTH")] 83

def k22m0 : Method := { name := "<init>", desc := "()V", sig := { parameters := [], returnType := none }, accessFlags := 2, code := none }
/-- jdk/internal/util/ArraysSupport -/
def k22 : Class := { plain "jdk/internal/util/ArraysSupport" (some 0) with
  accessFlags := 33
  interfaces := #[]
  cf := some (fileOf pool22 21 #[] #[{ accessFlags := 2, nameIndex := 9, descriptorIndex := 19, attributes := #[] }] 33 16 #[] #[{ accessFlags := 24, nameIndex := 28, descriptorIndex := 29, attributes := #[] }, { accessFlags := 26, nameIndex := 38, descriptorIndex := 39, attributes := #[] }, { accessFlags := 25, nameIndex := 121, descriptorIndex := 25, attributes := #[] }, { accessFlags := 25, nameIndex := 131, descriptorIndex := 25, attributes := #[] }, { accessFlags := 25, nameIndex := 137, descriptorIndex := 25, attributes := #[] }, { accessFlags := 25, nameIndex := 143, descriptorIndex := 25, attributes := #[] }, { accessFlags := 25, nameIndex := 53, descriptorIndex := 25, attributes := #[] }, { accessFlags := 25, nameIndex := 24, descriptorIndex := 25, attributes := #[] }, { accessFlags := 25, nameIndex := 162, descriptorIndex := 25, attributes := #[] }, { accessFlags := 25, nameIndex := 187, descriptorIndex := 25, attributes := #[] }, { accessFlags := 26, nameIndex := 48, descriptorIndex := 25, attributes := #[] }, { accessFlags := 25, nameIndex := 277, descriptorIndex := 25, attributes := #[] }, { accessFlags := 25, nameIndex := 280, descriptorIndex := 25, attributes := #[] }, { accessFlags := 25, nameIndex := 282, descriptorIndex := 25, attributes := #[] }, { accessFlags := 25, nameIndex := 284, descriptorIndex := 25, attributes := #[] }, { accessFlags := 25, nameIndex := 286, descriptorIndex := 25, attributes := #[] }, { accessFlags := 25, nameIndex := 288, descriptorIndex := 25, attributes := #[] }, { accessFlags := 25, nameIndex := 290, descriptorIndex := 25, attributes := #[] }, { accessFlags := 25, nameIndex := 292, descriptorIndex := 25, attributes := #[] }, { accessFlags := 26, nameIndex := 108, descriptorIndex := 109, attributes := #[] }, { accessFlags := 25, nameIndex := 294, descriptorIndex := 25, attributes := #[] }])
  fields := #[{ name := "U", type := (.object "jdk/internal/misc/Unsafe"), accessFlags := 24, slot := 0, constantValue := 0 }, { name := "BIG_ENDIAN", type := .boolean, accessFlags := 26, slot := 1, constantValue := 0 }, { name := "LOG2_ARRAY_BOOLEAN_INDEX_SCALE", type := .int, accessFlags := 25, slot := 2, constantValue := 0 }, { name := "LOG2_ARRAY_BYTE_INDEX_SCALE", type := .int, accessFlags := 25, slot := 3, constantValue := 0 }, { name := "LOG2_ARRAY_CHAR_INDEX_SCALE", type := .int, accessFlags := 25, slot := 4, constantValue := 0 }, { name := "LOG2_ARRAY_SHORT_INDEX_SCALE", type := .int, accessFlags := 25, slot := 5, constantValue := 0 }, { name := "LOG2_ARRAY_INT_INDEX_SCALE", type := .int, accessFlags := 25, slot := 6, constantValue := 0 }, { name := "LOG2_ARRAY_LONG_INDEX_SCALE", type := .int, accessFlags := 25, slot := 7, constantValue := 0 }, { name := "LOG2_ARRAY_FLOAT_INDEX_SCALE", type := .int, accessFlags := 25, slot := 8, constantValue := 0 }, { name := "LOG2_ARRAY_DOUBLE_INDEX_SCALE", type := .int, accessFlags := 25, slot := 9, constantValue := 0 }, { name := "LOG2_BYTE_BIT_SIZE", type := .int, accessFlags := 26, slot := 10, constantValue := 0 }, { name := "T_BOOLEAN", type := .int, accessFlags := 25, slot := 11, constantValue := 0 }, { name := "T_CHAR", type := .int, accessFlags := 25, slot := 12, constantValue := 0 }, { name := "T_FLOAT", type := .int, accessFlags := 25, slot := 13, constantValue := 0 }, { name := "T_DOUBLE", type := .int, accessFlags := 25, slot := 14, constantValue := 0 }, { name := "T_BYTE", type := .int, accessFlags := 25, slot := 15, constantValue := 0 }, { name := "T_SHORT", type := .int, accessFlags := 25, slot := 16, constantValue := 0 }, { name := "T_INT", type := .int, accessFlags := 25, slot := 17, constantValue := 0 }, { name := "T_LONG", type := .int, accessFlags := 25, slot := 18, constantValue := 0 }, { name := "JLA", type := (.object "jdk/internal/access/JavaLangAccess"), accessFlags := 26, slot := 19, constantValue := 0 }, { name := "SOFT_MAX_ARRAY_LENGTH", type := .int, accessFlags := 25, slot := 20, constantValue := 0 }]
  methods := #[k22m0]
  instanceTypes := #[]
  staticTypes := #[(.object "jdk/internal/misc/Unsafe"), .boolean, .int, .int, .int, .int, .int, .int, .int, .int, .int, .int, .int, .int, .int, .int, .int, .int, .int, (.object "jdk/internal/access/JavaLangAccess"), .int]
  resolved := Array.replicate 378 none
  statics := none }

def pool23 : Array CpInfo := pool [(1, u "java/lang/Cloneable"), (0, .class_ 1), (0, u "java/lang/Object"), (0, .class_ 3)] 3

/-- java/lang/Cloneable -/
def k23 : Class := { plain "java/lang/Cloneable" (some 0) with
  accessFlags := 1537
  interfaces := #[]
  cf := some (fileOf pool23 2 #[] #[] 1537 4 #[] #[])
  fields := #[]
  methods := #[]
  instanceTypes := #[]
  staticTypes := #[]
  resolved := Array.replicate 8 none
  statics := none }

/-- the primitive byte -/
def k24 : Class := { plain "byte" none with kind := .primitive 'B', accessFlags := 0x411 }
/-- [B -/
def k25 : Class := { plain "[B" (some 0) with kind := .array 24 .byte, interfaces := #[23, 4], accessFlags := 1041 }

/-- the primitive char -/
def k26 : Class := { plain "char" none with kind := .primitive 'C', accessFlags := 0x411 }
/-- [C -/
def k27 : Class := { plain "[C" (some 0) with kind := .array 26 .char, interfaces := #[23, 4], accessFlags := 1041 }

/-- the primitive int -/
def k28 : Class := { plain "int" none with kind := .primitive 'I', accessFlags := 0x411 }
/-- [I -/
def k29 : Class := { plain "[I" (some 0) with kind := .array 28 .int, interfaces := #[23, 4], accessFlags := 1041 }

def heap : Heap := #[{ cls := 6, slots := #[.ref 5, .ref 6, .ref 7, .ref 8, .ref 9, .null], vm := .statics 6 },
  { cls := 9, slots := #[.long 0, .int 1, .null, .int 0, .null, .int 0, .int 0], vm := .statics 9 },
  { cls := 16, slots := #[.ref 11, .long 0, .long 0, .null, .null, .long 0], vm := .statics 16 },
  { cls := 19, slots := #[.ref 10, .long 0, .null], vm := .statics 19 },
  { cls := 21, slots := #[.null, .null, .null], vm := .statics 21 },
  { cls := 6, slots := #[.null, .int 0, .int 0], vm := .none },
  { cls := 6, slots := #[.null, .int 1, .int 0], vm := .none },
  { cls := 6, slots := #[.null, .int 2, .int 0], vm := .none },
  { cls := 6, slots := #[.null, .int 3, .int 0], vm := .none },
  { cls := 6, slots := #[.null, .int 4, .int 0], vm := .none },
  { cls := 19, slots := #[.long 0, .int 0], vm := .none },
  { cls := 16, slots := #[.long 0, .int 0], vm := .none }]
def classes : Array Class := #[k0, k1, k2, k3, k4, k5, k6, k7, k8, k9, k10, k11, k12, k13, k14, k15, k16, k17, k18, k19, k20, k21, k22, k23, k24, k25, k26, k27, k28, k29]
def interned : List (Array UInt16 × Addr) := []
def slotsUsed : Nat := 44
def theMethod : MethodId := ⟨1, 2⟩
def args0 : Array Value := #[.int 3, .long 12345, .int 7]
def aboutOver (below : List Frame) : State where
  vm := { classes := classes, interned := interned.toArray }
  heap := heap
  slotsUsed := slotsUsed
  threads := #[{ frames := .invoking theMethod args0 :: below }]
def below0 : List Frame := [.native { method := ⟨0, 0⟩, args := #[] }]
def about1 : State := aboutOver below0
def p0 : Program := .bare "" "" ""
def e0 : Env := launch0.env 0 0 0
theorem w_frames : about1.frames = Frame.invoking theMethod args0 :: below0 := rfl
set_option maxRecDepth 65536 in
theorem w_args : argsFit about1.vm theMethod args0 = true := by decide +kernel
set_option maxRecDepth 65536 in
theorem w_heap : heapFits about1 = true := by decide +kernel
set_option maxRecDepth 65536 in
theorem w_runnable : about1.curStatus? = some .runnable := by decide +kernel
set_option maxRecDepth 65536 in
theorem w_alone : about1.alone = true := by decide +kernel
set_option maxRecDepth 65536 in
theorem w_named : about1.methodNamed? x = some theMethod := by decide +kernel
set_option maxRecDepth 65536 in
theorem w_hears : about1.hears theMethod below0 = true := by decide +kernel
set_option maxRecDepth 65536 in
theorem w_ripe : about1.ripe theMethod args0 below0 = true := by decide +kernel
theorem w_running : about1.status = .running := rfl
set_option maxRecDepth 65536 in
theorem w_room : about1.hasRoom e0.platform room_1 = true :=
  launch0.hasRoom_least _ room_1 (by decide +kernel) (by decide +kernel) (by decide +kernel) (by decide +kernel) (by decide +kernel) (by decide +kernel)
theorem allAtoms_all (ts : List Jvm.Cond) (a : Array Jvm.Value) (st : Jvm.State) : (allAtoms ts).before a st = ts.all (fun c => c.before a st) := by
  induction ts with
  | nil => rfl
  | cons c t ih =>
    show (Jvm.Cond.and c (allAtoms t)).before a st = _
    rw [Jvm.Cond.before_and, ih, List.all_cons]
def words1 : List Jvm.Cond := Jvm.Cond.code x code maxLocals ret :: tables_1
/-- a 'code' word, met by the world's own term for the bytes: nothing is compared byte by byte -/
theorem code_word {y : MethodName} {bytes : ByteArray} {mx : Nat} {rt : Option FieldType} {a : Array Value} {s : State} {m : MethodId} {meth : Method} {c : Code} (h1 : s.methodNamed? y = some m) (h2 : s.vm.method? m = some meth) (h3 : meth.code = some c) (h4 : c.code = bytes)
    (h5 : (c.maxLocals == mx && c.exceptionTable.isEmpty && decide (c.maxStack ≤ mostOperands) && decide (meth.sig.returnType = rt) && !meth.locks && decide (parseMethodDescriptor y.desc = some meth.sig)) = true) : (Jvm.Cond.code y bytes mx rt).before a s = true := by
  simp only [Bool.and_eq_true, beq_iff_eq, Bool.not_eq_true', decide_eq_true_eq] at h5
  obtain ⟨⟨⟨⟨⟨g1, g2⟩, g3⟩, g4⟩, g5⟩, g6⟩ := h5
  simp [Cond.before, Cond.holds, Cond.value, h1, h2, h3, h4, g1, g2, g3, g4, g5, g6]
def isCode : Jvm.Cond → Bool
  | .code _ _ _ _ => true
  | _ => false
theorem all_split {L : List Jvm.Cond} {P : Jvm.Cond → Bool} (h1 : L.all (fun c => isCode c || P c) = true) (h2 : ∀ c ∈ L.filter isCode, P c = true) : L.all P = true := by
  refine List.all_eq_true.mpr fun c hc => ?_
  have h := List.all_eq_true.mp h1 c hc
  rcases Bool.eq_false_or_eq_true (isCode c) with hi | hi
  · exact h2 c (List.mem_filter.mpr ⟨hc, hi⟩)
  · simpa [hi] using h
set_option maxRecDepth 65536 in
theorem w_c0 : (Jvm.Cond.code x code maxLocals ret).before args0 about1 = true := code_word (m := ⟨1, 2⟩) (meth := k1m2) (c := k1c2) (by decide +kernel) rfl rfl rfl (by decide +kernel)
set_option maxRecDepth 65536 in
theorem w_c1 : (Jvm.Cond.code ({ cls := "com/example/expiring_state/expiringstate/IssueResultOfPinLaw", name := "pick", desc := "(I)Lcom/example/expiring_state/expiringstate/OneTimeCodes$IssueResult$Status;" } : Jvm.MethodName) method_2_code (1 : Nat) (Option.some (Jvm.ClassFile.FieldType.object "com/example/expiring_state/expiringstate/OneTimeCodes$IssueResult$Status"))).before args0 about1 = true := code_word (m := ⟨1, 1⟩) (meth := k1m1) (c := k1c1) (by decide +kernel) rfl rfl rfl (by decide +kernel)
set_option maxRecDepth 65536 in
theorem w_c2 : (Jvm.Cond.code ({ cls := "java/lang/String", name := "<init>", desc := "([C)V" } : Jvm.MethodName) jdk_42_method_3_code (2 : Nat) (Option.none : Option Jvm.ClassFile.FieldType)).before args0 about1 = true := code_word (m := ⟨9, 1⟩) (meth := k9m1) (c := k9c1) (by decide +kernel) rfl rfl rfl (by decide +kernel)
set_option maxRecDepth 65536 in
theorem w_c3 : (Jvm.Cond.code ({ cls := "java/lang/String", name := "<init>", desc := "([CIILjava/lang/Void;)V" } : Jvm.MethodName) jdk_42_method_149_code (6 : Nat) (Option.none : Option Jvm.ClassFile.FieldType)).before args0 about1 = true := code_word (m := ⟨9, 3⟩) (meth := k9m3) (c := k9c3) (by decide +kernel) rfl rfl rfl (by decide +kernel)
set_option maxRecDepth 65536 in
theorem w_c4 : (Jvm.Cond.code ({ cls := "java/lang/Object", name := "<init>", desc := "()V" } : Jvm.MethodName) object_method_1_code (1 : Nat) (Option.none : Option Jvm.ClassFile.FieldType)).before args0 about1 = true := code_word (m := ⟨0, 0⟩) (meth := k0m0) (c := k0c0) (by decide +kernel) rfl rfl rfl (by decide +kernel)
set_option maxRecDepth 65536 in
theorem w_c5 : (Jvm.Cond.code ({ cls := "java/lang/StringUTF16", name := "compress", desc := "([CII)[B" } : Jvm.MethodName) jdk_52_method_16_code (6 : Nat) (Option.some (Jvm.ClassFile.FieldType.array Jvm.ClassFile.FieldType.byte))).before args0 about1 = true := code_word (m := ⟨10, 2⟩) (meth := k10m2) (c := k10c2) (by decide +kernel) rfl rfl rfl (by decide +kernel)
set_option maxRecDepth 65536 in
theorem w_c6 : (Jvm.Cond.code ({ cls := "java/lang/StringUTF16", name := "compress", desc := "([CI[BII)I" } : Jvm.MethodName) jdk_52_method_21_code (7 : Nat) (Option.some Jvm.ClassFile.FieldType.int)).before args0 about1 = true := code_word (m := ⟨10, 3⟩) (meth := k10m3) (c := k10c3) (by decide +kernel) rfl rfl rfl (by decide +kernel)
set_option maxRecDepth 65536 in
theorem w_c7 : (Jvm.Cond.code ({ cls := "java/lang/StringUTF16", name := "coderFromArrayLen", desc := "([BI)B" } : Jvm.MethodName) jdk_52_method_15_code (2 : Nat) (Option.some Jvm.ClassFile.FieldType.byte)).before args0 about1 = true := code_word (m := ⟨10, 1⟩) (meth := k10m1) (c := k10c1) (by decide +kernel) rfl rfl rfl (by decide +kernel)
set_option maxRecDepth 65536 in
theorem w_c8 : (Jvm.Cond.code ({ cls := "com/example/expiring_state/expiringstate/OneTimeCodes$IssueResult", name := "of", desc := "(Lcom/example/expiring_state/expiringstate/OneTimeCodes$IssueResult$Status;JLjava/lang/String;)Lcom/example/expiring_state/expiringstate/OneTimeCodes$IssueResult;" } : Jvm.MethodName) prog_52_method_2_code (5 : Nat) (Option.some (Jvm.ClassFile.FieldType.object "com/example/expiring_state/expiringstate/OneTimeCodes$IssueResult"))).before args0 about1 = true := code_word (m := ⟨12, 1⟩) (meth := k12m1) (c := k12c1) (by decide +kernel) rfl rfl rfl (by decide +kernel)
set_option maxRecDepth 65536 in
theorem w_c9 : (Jvm.Cond.code ({ cls := "java/time/Instant", name := "ofEpochMilli", desc := "(J)Ljava/time/Instant;" } : Jvm.MethodName) jdk_2320_method_5_code (5 : Nat) (Option.some (Jvm.ClassFile.FieldType.object "java/time/Instant"))).before args0 about1 = true := code_word (m := ⟨16, 0⟩) (meth := k16m0) (c := k16c0) (by decide +kernel) rfl rfl rfl (by decide +kernel)
set_option maxRecDepth 65536 in
theorem w_c10 : (Jvm.Cond.code ({ cls := "java/lang/Math", name := "floorDiv", desc := "(JI)J" } : Jvm.MethodName) jdk_29_method_48_code (3 : Nat) (Option.some Jvm.ClassFile.FieldType.long)).before args0 about1 = true := code_word (m := ⟨17, 4⟩) (meth := k17m4) (c := k17c4) (by decide +kernel) rfl rfl rfl (by decide +kernel)
set_option maxRecDepth 65536 in
theorem w_c11 : (Jvm.Cond.code ({ cls := "java/lang/Math", name := "floorDiv", desc := "(JJ)J" } : Jvm.MethodName) jdk_29_method_49_code (6 : Nat) (Option.some Jvm.ClassFile.FieldType.long)).before args0 about1 = true := code_word (m := ⟨17, 5⟩) (meth := k17m5) (c := k17c5) (by decide +kernel) rfl rfl rfl (by decide +kernel)
set_option maxRecDepth 65536 in
theorem w_c12 : (Jvm.Cond.code ({ cls := "java/lang/Math", name := "floorMod", desc := "(JI)I" } : Jvm.MethodName) jdk_29_method_51_code (3 : Nat) (Option.some Jvm.ClassFile.FieldType.int)).before args0 about1 = true := code_word (m := ⟨17, 6⟩) (meth := k17m6) (c := k17c6) (by decide +kernel) rfl rfl rfl (by decide +kernel)
set_option maxRecDepth 65536 in
theorem w_c13 : (Jvm.Cond.code ({ cls := "java/lang/Math", name := "floorMod", desc := "(JJ)J" } : Jvm.MethodName) jdk_29_method_52_code (6 : Nat) (Option.some Jvm.ClassFile.FieldType.long)).before args0 about1 = true := code_word (m := ⟨17, 7⟩) (meth := k17m7) (c := k17c7) (by decide +kernel) rfl rfl rfl (by decide +kernel)
set_option maxRecDepth 65536 in
theorem w_c14 : (Jvm.Cond.code ({ cls := "java/time/Instant", name := "create", desc := "(JI)Ljava/time/Instant;" } : Jvm.MethodName) jdk_2320_method_8_code (3 : Nat) (Option.some (Jvm.ClassFile.FieldType.object "java/time/Instant"))).before args0 about1 = true := code_word (m := ⟨16, 1⟩) (meth := k16m1) (c := k16c1) (by decide +kernel) rfl rfl rfl (by decide +kernel)
set_option maxRecDepth 65536 in
theorem w_c15 : (Jvm.Cond.code ({ cls := "java/time/Instant", name := "<init>", desc := "(JI)V" } : Jvm.MethodName) jdk_2320_method_9_code (4 : Nat) (Option.none : Option Jvm.ClassFile.FieldType)).before args0 about1 = true := code_word (m := ⟨16, 2⟩) (meth := k16m2) (c := k16c2) (by decide +kernel) rfl rfl rfl (by decide +kernel)
set_option maxRecDepth 65536 in
theorem w_c16 : (Jvm.Cond.code ({ cls := "com/example/expiring_state/expiringstate/OneTimeCodes$IssueResult", name := "<init>", desc := "(Lcom/example/expiring_state/expiringstate/OneTimeCodes$IssueResult$Status;Ljava/lang/String;Ljava/time/Instant;Ljava/time/Duration;Z)V" } : Jvm.MethodName) prog_52_method_1_code (6 : Nat) (Option.none : Option Jvm.ClassFile.FieldType)).before args0 about1 = true := code_word (m := ⟨12, 0⟩) (meth := k12m0) (c := k12c0) (by decide +kernel) rfl rfl rfl (by decide +kernel)
set_option maxRecDepth 65536 in
theorem w_c17 : (Jvm.Cond.code ({ cls := "com/example/expiring_state/expiringstate/Answer", name := "<init>", desc := "(Z)V" } : Jvm.MethodName) prog_1_method_1_code (2 : Nat) (Option.none : Option Jvm.ClassFile.FieldType)).before args0 about1 = true := code_word (m := ⟨11, 0⟩) (meth := k11m0) (c := k11c0) (by decide +kernel) rfl rfl rfl (by decide +kernel)
set_option maxRecDepth 65536 in
theorem w_c18 : (Jvm.Cond.code ({ cls := "com/example/expiring_state/expiringstate/OneTimeCodes$IssueResult", name := "status", desc := "()Lcom/example/expiring_state/expiringstate/OneTimeCodes$IssueResult$Status;" } : Jvm.MethodName) prog_52_method_4_code (1 : Nat) (Option.some (Jvm.ClassFile.FieldType.object "com/example/expiring_state/expiringstate/OneTimeCodes$IssueResult$Status"))).before args0 about1 = true := code_word (m := ⟨12, 2⟩) (meth := k12m2) (c := k12c2) (by decide +kernel) rfl rfl rfl (by decide +kernel)
set_option maxRecDepth 65536 in
theorem w_c19 : (Jvm.Cond.code ({ cls := "com/example/expiring_state/expiringstate/Answer", name := "withoutStore", desc := "()Z" } : Jvm.MethodName) prog_1_method_3_code (1 : Nat) (Option.some Jvm.ClassFile.FieldType.boolean)).before args0 about1 = true := code_word (m := ⟨11, 1⟩) (meth := k11m1) (c := k11c1) (by decide +kernel) rfl rfl rfl (by decide +kernel)
set_option maxRecDepth 65536 in
theorem w_c20 : (Jvm.Cond.code ({ cls := "com/example/expiring_state/expiringstate/OneTimeCodes$IssueResult", name := "code", desc := "()Ljava/lang/String;" } : Jvm.MethodName) prog_52_method_5_code (1 : Nat) (Option.some (Jvm.ClassFile.FieldType.object "java/lang/String"))).before args0 about1 = true := code_word (m := ⟨12, 3⟩) (meth := k12m3) (c := k12c3) (by decide +kernel) rfl rfl rfl (by decide +kernel)
set_option maxRecDepth 65536 in
theorem w_c21 : (Jvm.Cond.code ({ cls := "com/example/expiring_state/expiringstate/OneTimeCodes$IssueResult", name := "issued", desc := "()V" } : Jvm.MethodName) prog_52_method_9_code (1 : Nat) (Option.none : Option Jvm.ClassFile.FieldType)).before args0 about1 = true := code_word (m := ⟨12, 6⟩) (meth := k12m6) (c := k12c6) (by decide +kernel) rfl rfl rfl (by decide +kernel)
set_option maxRecDepth 65536 in
theorem w_c22 : (Jvm.Cond.code ({ cls := "java/lang/String", name := "equals", desc := "(Ljava/lang/Object;)Z" } : Jvm.MethodName) jdk_42_method_66_code (3 : Nat) (Option.some Jvm.ClassFile.FieldType.boolean)).before args0 about1 = true := code_word (m := ⟨9, 2⟩) (meth := k9m2) (c := k9c2) (by decide +kernel) rfl rfl rfl (by decide +kernel)
set_option maxRecDepth 65536 in
theorem w_c23 : (Jvm.Cond.code ({ cls := "com/example/expiring_state/expiringstate/OneTimeCodes$IssueResult", name := "expiresAt", desc := "()Ljava/time/Instant;" } : Jvm.MethodName) prog_52_method_6_code (1 : Nat) (Option.some (Jvm.ClassFile.FieldType.object "java/time/Instant"))).before args0 about1 = true := code_word (m := ⟨12, 4⟩) (meth := k12m4) (c := k12c4) (by decide +kernel) rfl rfl rfl (by decide +kernel)
set_option maxRecDepth 65536 in
theorem w_c24 : (Jvm.Cond.code ({ cls := "java/time/Instant", name := "toEpochMilli", desc := "()J" } : Jvm.MethodName) jdk_2320_method_40_code (5 : Nat) (Option.some Jvm.ClassFile.FieldType.long)).before args0 about1 = true := code_word (m := ⟨16, 3⟩) (meth := k16m3) (c := k16c3) (by decide +kernel) rfl rfl rfl (by decide +kernel)
set_option maxRecDepth 65536 in
theorem w_c25 : (Jvm.Cond.code ({ cls := "java/lang/Math", name := "multiplyExact", desc := "(JI)J" } : Jvm.MethodName) jdk_29_method_29_code (3 : Nat) (Option.some Jvm.ClassFile.FieldType.long)).before args0 about1 = true := code_word (m := ⟨17, 2⟩) (meth := k17m2) (c := k17c2) (by decide +kernel) rfl rfl rfl (by decide +kernel)
set_option maxRecDepth 65536 in
theorem w_c26 : (Jvm.Cond.code ({ cls := "java/lang/Math", name := "multiplyExact", desc := "(JJ)J" } : Jvm.MethodName) jdk_29_method_30_code (10 : Nat) (Option.some Jvm.ClassFile.FieldType.long)).before args0 about1 = true := code_word (m := ⟨17, 3⟩) (meth := k17m3) (c := k17c3) (by decide +kernel) rfl rfl rfl (by decide +kernel)
set_option maxRecDepth 65536 in
theorem w_c27 : (Jvm.Cond.code ({ cls := "java/lang/Math", name := "abs", desc := "(J)J" } : Jvm.MethodName) jdk_29_method_61_code (2 : Nat) (Option.some Jvm.ClassFile.FieldType.long)).before args0 about1 = true := code_word (m := ⟨17, 8⟩) (meth := k17m8) (c := k17c8) (by decide +kernel) rfl rfl rfl (by decide +kernel)
set_option maxRecDepth 65536 in
theorem w_c28 : (Jvm.Cond.code ({ cls := "java/lang/Math", name := "addExact", desc := "(JJ)J" } : Jvm.MethodName) jdk_29_method_25_code (6 : Nat) (Option.some Jvm.ClassFile.FieldType.long)).before args0 about1 = true := code_word (m := ⟨17, 1⟩) (meth := k17m1) (c := k17c1) (by decide +kernel) rfl rfl rfl (by decide +kernel)
set_option maxRecDepth 65536 in
theorem w_c29 : (Jvm.Cond.code ({ cls := "com/example/expiring_state/expiringstate/OneTimeCodes$IssueResult", name := "retryAfter", desc := "()Ljava/time/Duration;" } : Jvm.MethodName) prog_52_method_7_code (1 : Nat) (Option.some (Jvm.ClassFile.FieldType.object "java/time/Duration"))).before args0 about1 = true := code_word (m := ⟨12, 5⟩) (meth := k12m5) (c := k12c5) (by decide +kernel) rfl rfl rfl (by decide +kernel)
set_option maxRecDepth 65536 in
theorem w_c30 : (Jvm.Cond.code ({ cls := "java/time/Duration", name := "isZero", desc := "()Z" } : Jvm.MethodName) jdk_2316_method_21_code (1 : Nat) (Option.some Jvm.ClassFile.FieldType.boolean)).before args0 about1 = true := code_word (m := ⟨19, 3⟩) (meth := k19m3) (c := k19c3) (by decide +kernel) rfl rfl rfl (by decide +kernel)
set_option maxRecDepth 65536 in
theorem w_c31 : (Jvm.Cond.code ({ cls := "java/time/Duration", name := "ofMillis", desc := "(J)Ljava/time/Duration;" } : Jvm.MethodName) jdk_2316_method_6_code (5 : Nat) (Option.some (Jvm.ClassFile.FieldType.object "java/time/Duration"))).before args0 about1 = true := code_word (m := ⟨19, 0⟩) (meth := k19m0) (c := k19c0) (by decide +kernel) rfl rfl rfl (by decide +kernel)
set_option maxRecDepth 65536 in
theorem w_c32 : (Jvm.Cond.code ({ cls := "java/time/Duration", name := "create", desc := "(JI)Ljava/time/Duration;" } : Jvm.MethodName) jdk_2316_method_16_code (3 : Nat) (Option.some (Jvm.ClassFile.FieldType.object "java/time/Duration"))).before args0 about1 = true := code_word (m := ⟨19, 1⟩) (meth := k19m1) (c := k19c1) (by decide +kernel) rfl rfl rfl (by decide +kernel)
set_option maxRecDepth 65536 in
theorem w_c33 : (Jvm.Cond.code ({ cls := "java/time/Duration", name := "<init>", desc := "(JI)V" } : Jvm.MethodName) jdk_2316_method_17_code (4 : Nat) (Option.none : Option Jvm.ClassFile.FieldType)).before args0 about1 = true := code_word (m := ⟨19, 2⟩) (meth := k19m2) (c := k19c2) (by decide +kernel) rfl rfl rfl (by decide +kernel)
set_option maxRecDepth 65536 in
theorem w_c34 : (Jvm.Cond.code ({ cls := "java/time/Duration", name := "toMillis", desc := "()J" } : Jvm.MethodName) jdk_2316_method_57_code (7 : Nat) (Option.some Jvm.ClassFile.FieldType.long)).before args0 about1 = true := code_word (m := ⟨19, 4⟩) (meth := k19m4) (c := k19c4) (by decide +kernel) rfl rfl rfl (by decide +kernel)
def codes1 : List Jvm.Cond := [Jvm.Cond.code x code maxLocals ret, Jvm.Cond.code ({ cls := "com/example/expiring_state/expiringstate/IssueResultOfPinLaw", name := "pick", desc := "(I)Lcom/example/expiring_state/expiringstate/OneTimeCodes$IssueResult$Status;" } : Jvm.MethodName) method_2_code (1 : Nat) (Option.some (Jvm.ClassFile.FieldType.object "com/example/expiring_state/expiringstate/OneTimeCodes$IssueResult$Status")), Jvm.Cond.code ({ cls := "java/lang/String", name := "<init>", desc := "([C)V" } : Jvm.MethodName) jdk_42_method_3_code (2 : Nat) (Option.none : Option Jvm.ClassFile.FieldType), Jvm.Cond.code ({ cls := "java/lang/String", name := "<init>", desc := "([CIILjava/lang/Void;)V" } : Jvm.MethodName) jdk_42_method_149_code (6 : Nat) (Option.none : Option Jvm.ClassFile.FieldType), Jvm.Cond.code ({ cls := "java/lang/Object", name := "<init>", desc := "()V" } : Jvm.MethodName) object_method_1_code (1 : Nat) (Option.none : Option Jvm.ClassFile.FieldType), Jvm.Cond.code ({ cls := "java/lang/StringUTF16", name := "compress", desc := "([CII)[B" } : Jvm.MethodName) jdk_52_method_16_code (6 : Nat) (Option.some (Jvm.ClassFile.FieldType.array Jvm.ClassFile.FieldType.byte)), Jvm.Cond.code ({ cls := "java/lang/StringUTF16", name := "compress", desc := "([CI[BII)I" } : Jvm.MethodName) jdk_52_method_21_code (7 : Nat) (Option.some Jvm.ClassFile.FieldType.int), Jvm.Cond.code ({ cls := "java/lang/StringUTF16", name := "coderFromArrayLen", desc := "([BI)B" } : Jvm.MethodName) jdk_52_method_15_code (2 : Nat) (Option.some Jvm.ClassFile.FieldType.byte), Jvm.Cond.code ({ cls := "com/example/expiring_state/expiringstate/OneTimeCodes$IssueResult", name := "of", desc := "(Lcom/example/expiring_state/expiringstate/OneTimeCodes$IssueResult$Status;JLjava/lang/String;)Lcom/example/expiring_state/expiringstate/OneTimeCodes$IssueResult;" } : Jvm.MethodName) prog_52_method_2_code (5 : Nat) (Option.some (Jvm.ClassFile.FieldType.object "com/example/expiring_state/expiringstate/OneTimeCodes$IssueResult")), Jvm.Cond.code ({ cls := "java/time/Instant", name := "ofEpochMilli", desc := "(J)Ljava/time/Instant;" } : Jvm.MethodName) jdk_2320_method_5_code (5 : Nat) (Option.some (Jvm.ClassFile.FieldType.object "java/time/Instant")), Jvm.Cond.code ({ cls := "java/lang/Math", name := "floorDiv", desc := "(JI)J" } : Jvm.MethodName) jdk_29_method_48_code (3 : Nat) (Option.some Jvm.ClassFile.FieldType.long), Jvm.Cond.code ({ cls := "java/lang/Math", name := "floorDiv", desc := "(JJ)J" } : Jvm.MethodName) jdk_29_method_49_code (6 : Nat) (Option.some Jvm.ClassFile.FieldType.long), Jvm.Cond.code ({ cls := "java/lang/Math", name := "floorMod", desc := "(JI)I" } : Jvm.MethodName) jdk_29_method_51_code (3 : Nat) (Option.some Jvm.ClassFile.FieldType.int), Jvm.Cond.code ({ cls := "java/lang/Math", name := "floorMod", desc := "(JJ)J" } : Jvm.MethodName) jdk_29_method_52_code (6 : Nat) (Option.some Jvm.ClassFile.FieldType.long), Jvm.Cond.code ({ cls := "java/time/Instant", name := "create", desc := "(JI)Ljava/time/Instant;" } : Jvm.MethodName) jdk_2320_method_8_code (3 : Nat) (Option.some (Jvm.ClassFile.FieldType.object "java/time/Instant")), Jvm.Cond.code ({ cls := "java/time/Instant", name := "<init>", desc := "(JI)V" } : Jvm.MethodName) jdk_2320_method_9_code (4 : Nat) (Option.none : Option Jvm.ClassFile.FieldType), Jvm.Cond.code ({ cls := "com/example/expiring_state/expiringstate/OneTimeCodes$IssueResult", name := "<init>", desc := "(Lcom/example/expiring_state/expiringstate/OneTimeCodes$IssueResult$Status;Ljava/lang/String;Ljava/time/Instant;Ljava/time/Duration;Z)V" } : Jvm.MethodName) prog_52_method_1_code (6 : Nat) (Option.none : Option Jvm.ClassFile.FieldType), Jvm.Cond.code ({ cls := "com/example/expiring_state/expiringstate/Answer", name := "<init>", desc := "(Z)V" } : Jvm.MethodName) prog_1_method_1_code (2 : Nat) (Option.none : Option Jvm.ClassFile.FieldType), Jvm.Cond.code ({ cls := "com/example/expiring_state/expiringstate/OneTimeCodes$IssueResult", name := "status", desc := "()Lcom/example/expiring_state/expiringstate/OneTimeCodes$IssueResult$Status;" } : Jvm.MethodName) prog_52_method_4_code (1 : Nat) (Option.some (Jvm.ClassFile.FieldType.object "com/example/expiring_state/expiringstate/OneTimeCodes$IssueResult$Status")), Jvm.Cond.code ({ cls := "com/example/expiring_state/expiringstate/Answer", name := "withoutStore", desc := "()Z" } : Jvm.MethodName) prog_1_method_3_code (1 : Nat) (Option.some Jvm.ClassFile.FieldType.boolean), Jvm.Cond.code ({ cls := "com/example/expiring_state/expiringstate/OneTimeCodes$IssueResult", name := "code", desc := "()Ljava/lang/String;" } : Jvm.MethodName) prog_52_method_5_code (1 : Nat) (Option.some (Jvm.ClassFile.FieldType.object "java/lang/String")), Jvm.Cond.code ({ cls := "com/example/expiring_state/expiringstate/OneTimeCodes$IssueResult", name := "issued", desc := "()V" } : Jvm.MethodName) prog_52_method_9_code (1 : Nat) (Option.none : Option Jvm.ClassFile.FieldType), Jvm.Cond.code ({ cls := "java/lang/String", name := "equals", desc := "(Ljava/lang/Object;)Z" } : Jvm.MethodName) jdk_42_method_66_code (3 : Nat) (Option.some Jvm.ClassFile.FieldType.boolean), Jvm.Cond.code ({ cls := "com/example/expiring_state/expiringstate/OneTimeCodes$IssueResult", name := "expiresAt", desc := "()Ljava/time/Instant;" } : Jvm.MethodName) prog_52_method_6_code (1 : Nat) (Option.some (Jvm.ClassFile.FieldType.object "java/time/Instant")), Jvm.Cond.code ({ cls := "java/time/Instant", name := "toEpochMilli", desc := "()J" } : Jvm.MethodName) jdk_2320_method_40_code (5 : Nat) (Option.some Jvm.ClassFile.FieldType.long), Jvm.Cond.code ({ cls := "java/lang/Math", name := "multiplyExact", desc := "(JI)J" } : Jvm.MethodName) jdk_29_method_29_code (3 : Nat) (Option.some Jvm.ClassFile.FieldType.long), Jvm.Cond.code ({ cls := "java/lang/Math", name := "multiplyExact", desc := "(JJ)J" } : Jvm.MethodName) jdk_29_method_30_code (10 : Nat) (Option.some Jvm.ClassFile.FieldType.long), Jvm.Cond.code ({ cls := "java/lang/Math", name := "abs", desc := "(J)J" } : Jvm.MethodName) jdk_29_method_61_code (2 : Nat) (Option.some Jvm.ClassFile.FieldType.long), Jvm.Cond.code ({ cls := "java/lang/Math", name := "addExact", desc := "(JJ)J" } : Jvm.MethodName) jdk_29_method_25_code (6 : Nat) (Option.some Jvm.ClassFile.FieldType.long), Jvm.Cond.code ({ cls := "com/example/expiring_state/expiringstate/OneTimeCodes$IssueResult", name := "retryAfter", desc := "()Ljava/time/Duration;" } : Jvm.MethodName) prog_52_method_7_code (1 : Nat) (Option.some (Jvm.ClassFile.FieldType.object "java/time/Duration")), Jvm.Cond.code ({ cls := "java/time/Duration", name := "isZero", desc := "()Z" } : Jvm.MethodName) jdk_2316_method_21_code (1 : Nat) (Option.some Jvm.ClassFile.FieldType.boolean), Jvm.Cond.code ({ cls := "java/time/Duration", name := "ofMillis", desc := "(J)Ljava/time/Duration;" } : Jvm.MethodName) jdk_2316_method_6_code (5 : Nat) (Option.some (Jvm.ClassFile.FieldType.object "java/time/Duration")), Jvm.Cond.code ({ cls := "java/time/Duration", name := "create", desc := "(JI)Ljava/time/Duration;" } : Jvm.MethodName) jdk_2316_method_16_code (3 : Nat) (Option.some (Jvm.ClassFile.FieldType.object "java/time/Duration")), Jvm.Cond.code ({ cls := "java/time/Duration", name := "<init>", desc := "(JI)V" } : Jvm.MethodName) jdk_2316_method_17_code (4 : Nat) (Option.none : Option Jvm.ClassFile.FieldType), Jvm.Cond.code ({ cls := "java/time/Duration", name := "toMillis", desc := "()J" } : Jvm.MethodName) jdk_2316_method_57_code (7 : Nat) (Option.some Jvm.ClassFile.FieldType.long)]
set_option maxRecDepth 65536 in
theorem codes_eq : words1.filter isCode = codes1 := rfl
theorem w_codes : ∀ c ∈ words1.filter isCode, c.before args0 about1 = true := by
  rw [codes_eq]
  intro c hc
  simp only [codes1, List.mem_cons, List.not_mem_nil, or_false] at hc
  rcases hc with rfl | rfl | rfl | rfl | rfl | rfl | rfl | rfl | rfl | rfl | rfl | rfl | rfl | rfl | rfl | rfl | rfl | rfl | rfl | rfl | rfl | rfl | rfl | rfl | rfl | rfl | rfl | rfl | rfl | rfl | rfl | rfl | rfl | rfl | rfl
  · exact w_c0
  · exact w_c1
  · exact w_c2
  · exact w_c3
  · exact w_c4
  · exact w_c5
  · exact w_c6
  · exact w_c7
  · exact w_c8
  · exact w_c9
  · exact w_c10
  · exact w_c11
  · exact w_c12
  · exact w_c13
  · exact w_c14
  · exact w_c15
  · exact w_c16
  · exact w_c17
  · exact w_c18
  · exact w_c19
  · exact w_c20
  · exact w_c21
  · exact w_c22
  · exact w_c23
  · exact w_c24
  · exact w_c25
  · exact w_c26
  · exact w_c27
  · exact w_c28
  · exact w_c29
  · exact w_c30
  · exact w_c31
  · exact w_c32
  · exact w_c33
  · exact w_c34
set_option maxRecDepth 65536 in
theorem w_t1 : (words1.take 24).all (fun c => isCode c || c.before args0 about1) = true := by decide +kernel
set_option maxRecDepth 65536 in
theorem w_t2 : ((words1.drop 24).take 24).all (fun c => isCode c || c.before args0 about1) = true := by decide +kernel
set_option maxRecDepth 65536 in
theorem w_t3 : (((words1.drop 24).drop 24).take 24).all (fun c => isCode c || c.before args0 about1) = true := by decide +kernel
set_option maxRecDepth 65536 in
theorem w_t4 : ((((words1.drop 24).drop 24).drop 24).take 24).all (fun c => isCode c || c.before args0 about1) = true := by decide +kernel
set_option maxRecDepth 65536 in
theorem w_t5 : (((((words1.drop 24).drop 24).drop 24).drop 24).take 24).all (fun c => isCode c || c.before args0 about1) = true := by decide +kernel
set_option maxRecDepth 65536 in
theorem w_t6 : ((((((words1.drop 24).drop 24).drop 24).drop 24).drop 24).take 24).all (fun c => isCode c || c.before args0 about1) = true := by decide +kernel
set_option maxRecDepth 65536 in
theorem w_t7 : (((((((words1.drop 24).drop 24).drop 24).drop 24).drop 24).drop 24).take 24).all (fun c => isCode c || c.before args0 about1) = true := by decide +kernel
set_option maxRecDepth 65536 in
theorem w_t8 : ((((((((words1.drop 24).drop 24).drop 24).drop 24).drop 24).drop 24).drop 24).take 24).all (fun c => isCode c || c.before args0 about1) = true := by decide +kernel
set_option maxRecDepth 65536 in
theorem w_t9 : ((((((((words1.drop 24).drop 24).drop 24).drop 24).drop 24).drop 24).drop 24).drop 24).all (fun c => isCode c || c.before args0 about1) = true := by decide +kernel
theorem w_tables : (allAtoms (Jvm.Cond.code x code maxLocals ret :: tables_1)).before args0 about1 = true := by
  rw [allAtoms_all]
  show words1.all (fun c => c.before args0 about1) = true
  refine all_split ?_ w_codes
  rw [← List.take_append_drop 24 words1, List.all_append, w_t1, ← List.take_append_drop 24 (words1.drop 24), List.all_append, w_t2, ← List.take_append_drop 24 ((words1.drop 24).drop 24), List.all_append, w_t3, ← List.take_append_drop 24 (((words1.drop 24).drop 24).drop 24), List.all_append, w_t4, ← List.take_append_drop 24 ((((words1.drop 24).drop 24).drop 24).drop 24), List.all_append, w_t5, ← List.take_append_drop 24 (((((words1.drop 24).drop 24).drop 24).drop 24).drop 24), List.all_append, w_t6, ← List.take_append_drop 24 ((((((words1.drop 24).drop 24).drop 24).drop 24).drop 24).drop 24), List.all_append, w_t7, ← List.take_append_drop 24 (((((((words1.drop 24).drop 24).drop 24).drop 24).drop 24).drop 24).drop 24), List.all_append, w_t8, w_t9]
  rfl
set_option maxRecDepth 65536 in
theorem w_rest : rest_1_c.before args0 about1 = true := by decide +kernel
set_option maxRecDepth 65536 in
theorem w_case : (Jvm.Cond.and given_1 narrow_1).before args0 about1 = true := by decide +kernel
theorem w_applies : (headSpec (Jvm.Cond.code x code maxLocals ret :: tables_1) room_1).applies x e0.platform about1 = true :=
  (Spec.applies_iff w_frames).mpr ⟨w_running, w_runnable, w_alone, w_named, w_hears, w_ripe, w_room, w_tables⟩
theorem atStart : AtStart classFile x code maxLocals ret World_1 tables_1 room_1 Calls_1 rest_1 Pre_1 launch0 p0 e0 about1 theMethod args0 below0 :=
  ⟨lists_1, trivial, launch0.admits_env _ _ _, launch0.least_env, fairChoices_fair.cas, fairChoices_fair.clock, w_frames, w_args, w_heap, w_applies, trivial, w_rest, w_case⟩
end start1
theorem witness_1 : WitnessClaimed_1 := ⟨start1.p0, start1.e0, start1.about1, start1.theMethod, start1.args0, start1.below0, start1.atStart⟩
end Jvm.Pilot.@@N@@
