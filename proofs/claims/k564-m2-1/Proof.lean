import JvmDerived
import JvmDerived.Pilot.@@N@@Statement
import JvmDerived.Pilot.@@N@@Code
set_option linter.unusedVariables false
set_option linter.unusedSimpArgs false
namespace Jvm.Pilot.@@N@@
open Jvm Jvm.ClassFile Sem Op Lib Jvm.Free Jvm.Stand Jvm.LawKit Jvm.RoadKit Bundle Jvm.Pilot.@@N@@.Jvm.D
theorem own_retI {p : Program} {l : Launch} {e : Env} {R : Room} {s : State} {m : MethodId} {args : Array Value} {below : List Frame} {meth : Method} {c : Code} {T : State} {locs : List Loc} {cells slots : Nat} (X : Stand p l e R s m args below meth c T locs cells slots) (hx : p.tables.exec = Jvm.exec) {pc : Nat} {Ls : Array Slot} {z : Int32} {rest : List Value} (hret : meth.sig.returnType = some .int) (hd : decode c.code pc = .ok (.ireturn, 1)) {fs : List Frame}
    (hl : ∀ (f : JFrame) (acts : List Action), f.method = m → f.locked = none → f.entered = [] → (doReturn e (T.setTop f) acts (some (.int z))).1 = T.setFrames fs) : Steps p.tables e below (T.setTop (mkF m pc Ls (.int z :: rest))) (T.setFrames fs) :=
  retOut X hx hret rfl (Or.inl ⟨rfl, Or.inl rfl, z, rfl⟩) hd hl
theorem own_retJ {p : Program} {l : Launch} {e : Env} {R : Room} {s : State} {m : MethodId} {args : Array Value} {below : List Frame} {meth : Method} {c : Code} {T : State} {locs : List Loc} {cells slots : Nat} (X : Stand p l e R s m args below meth c T locs cells slots) (hx : p.tables.exec = Jvm.exec) {pc : Nat} {Ls : Array Slot} {z : Int64} {rest : List Value} (hret : meth.sig.returnType = some .long) (hd : decode c.code pc = .ok (.lreturn, 1)) {fs : List Frame}
    (hl : ∀ (f : JFrame) (acts : List Action), f.method = m → f.locked = none → f.entered = [] → (doReturn e (T.setTop f) acts (some (.long z))).1 = T.setFrames fs) : Steps p.tables e below (T.setTop (mkF m pc Ls (.long z :: rest))) (T.setFrames fs) :=
  retOut X hx hret rfl (Or.inr (Or.inl ⟨rfl, rfl, z, rfl⟩)) hd hl
theorem own_retA {p : Program} {l : Launch} {e : Env} {R : Room} {s : State} {m : MethodId} {args : Array Value} {below : List Frame} {meth : Method} {c : Code} {T : State} {locs : List Loc} {cells slots : Nat} (X : Stand p l e R s m args below meth c T locs cells slots) (hx : p.tables.exec = Jvm.exec) {pc : Nat} {Ls : Array Slot} {w : Value} {rest : List Value} {t : FieldType} (hret : meth.sig.returnType = some t) (ht : t.isReference = true) (hn : narrow t w = w) (hw : w.isRef = true) (hd : decode c.code pc = .ok (.areturn, 1)) {fs : List Frame}
    (hl : ∀ (f : JFrame) (acts : List Action), f.method = m → f.locked = none → f.entered = [] → (doReturn e (T.setTop f) acts (some w)).1 = T.setFrames fs) : Steps p.tables e below (T.setTop (mkF m pc Ls (w :: rest))) (T.setFrames fs) :=
  retOut X hx hret hn (Or.inr (Or.inr (Or.inr (Or.inr ⟨rfl, ht, hw⟩)))) hd hl
theorem own_go {tb : Tables} {e : Env} {below : List Frame} {A B : State} {R : State → Outcome → Prop} (st : ∀ t, Steps tb e below A t → Steps tb e below B t) (h : ∃ U o, Steps tb e below A U ∧ R U o) : ∃ U o, Steps tb e below B U ∧ R U o := by
  obtain ⟨U, o, h1, h2⟩ := h
  exact ⟨U, o, st U h1, h2⟩
theorem own_via {tb : Tables} {e : Env} {below : List Frame} {A B : State} {R : State → Outcome → Prop} (st : Steps tb e below B A) (h : ∃ U o, Steps tb e below A U ∧ R U o) : ∃ U o, Steps tb e below B U ∧ R U o := by
  obtain ⟨U, o, h1, h2⟩ := h
  exact ⟨U, o, st.trans h1, h2⟩
theorem own_eqInt {t : Term} {k : Int32} {args : Array Value} {s : State} (h : (Jvm.Cond.eq t (.int k)).value args s none s [] = some true) : t.eval args s none [] s = some (.int k) := by
  cases ha : t.eval args s none [] s with
  | none => simp [Cond.value, ha] at h
  | some x => cases x <;> simp_all [Cond.value, Term.eval, Value.isRef]
theorem own_selP {s : State} {args : Array Value} {y : MethodName} {n : Nat} (hinst : (Jvm.Cond.instanceMethod y).before args s = true) (hp : (Jvm.Cond.privateMethod y).before args s = true) (hi : (Jvm.Cond.instantiable y.cls n).before args s = true) (hy : y.cls ≠ "java/lang/invoke/MethodHandle" ∧ y.cls ≠ "java/lang/invoke/VarHandle") : (Jvm.Cond.selects y.cls y y).before args s = true := by
  obtain ⟨c, k, h1, h2, -, h4, -, -⟩ := Cond.instantiable_spec hi
  simp only [Bool.or_eq_false_iff] at h4
  exact selects_self_of_private h1 h2 h4.1 (Cond.privateMethod_at hp) hinst hy
theorem own_stoV {Z : State} {h : Heap} {a y : Addr} {k : ClassId} {ty : FieldType} {n : Int32} {vs : List Value} {d : Value} {C : String} (F : Arv Z h a k ty n vs d) (O : Ovr Z k C) (I : Ins Z h y C true) : Sto Z h a (.ref y) := by
  obtain ⟨c, A, q, -⟩ := F
  exact Sto.ofV A q O I
theorem own_cat1 {v : Value} (h : v.isRef = true) : v.category = 1 := by cases v <;> simp_all [Value.isRef, Value.category]
theorem own_nref {t : FieldType} {v : Value} (h : v.isRef = true) : narrow t v = v := by cases v <;> simp_all [Value.isRef, narrow]
theorem own_narb (x : Int32) : nar .byte x.toInt8.toInt32 = x.toInt8.toInt32 := by simp [nar]
theorem own_w {Z : State} {a0 : Array Value} (hw : ∀ d ∈ tables_1, d.before a0 Z = true) (i : Nat) {d : Jvm.Cond} (h : tables_1[i]? = some d) : d.before a0 Z = true := hw _ (List.mem_of_getElem? h)
theorem own_bT {P : Prop} [Decidable P] (h : P) : (if P then (1 : Int32) else 0) = 1 := if_pos h
theorem own_bF {P : Prop} [Decidable P] (h : ¬ P) : (if P then (1 : Int32) else 0) = 0 := if_neg h
theorem own_narB {P : Prop} [Decidable P] : nar .boolean (if P then (1 : Int32) else 0) = (if P then (1 : Int32) else 0) := by split <;> rfl
def own_exp (v : Int64) : Int32 := if v < (0 : Int64) then 10 else if v < (128 : Int64) then 1 else if v < (16384 : Int64) then 2 else if v < (2097152 : Int64) then 3 else if v < (268435456 : Int64) then 4 else if v < (34359738368 : Int64) then 5 else if v < (4398046511104 : Int64) then 6 else if v < (562949953421312 : Int64) then 7 else if v < (72057594037927936 : Int64) then 8 else 9
theorem own_sh7 (x y : Int64) (h : y = ((x).toUInt64 >>> ((7 : Int32) &&& 0x3f).toInt64.toUInt64).toInt64) : y.toInt = (x.toInt % 18446744073709551616) / 128 := by
  rw [h]; exact c_lushr x 7 7 (by decide) (by decide)
theorem own_z {y : Int64} : y = (0 : Int64) ↔ y.toInt = 0 := by
  rw [← Int64.toInt_inj]; exact Iff.rfl
theorem own_leaf1 (v y1 : Int64) (h1 : y1 = ((v).toUInt64 >>> ((7 : Int32) &&& 0x3f).toInt64.toUInt64).toInt64) (hz : y1 = (0 : Int64))  : own_exp v = 1 := by
  have r := rng64 v
  have e1 := own_sh7 _ _ h1
  have f1 : 0 ≤ y1.toInt ∧ y1.toInt < 18446744073709551616 ∧ 128 * y1.toInt ≤ (v.toInt % 18446744073709551616) ∧ (v.toInt % 18446744073709551616) < 128 * y1.toInt + 128 := by omega
  rw [own_z] at hz
  have b0 : (v.toInt % 18446744073709551616) < 128 := by omega
  clear e1 f1
  unfold own_exp
  rw [if_neg (show ¬ (v < (0 : Int64)) from by rw [Int64.lt_iff_toInt_lt]; simp only [show ((0 : Int64).toInt) = 0 from by decide]; omega)]
  rw [if_pos (show v < (128 : Int64) from by rw [Int64.lt_iff_toInt_lt]; simp only [show ((128 : Int64).toInt) = 128 from by decide]; omega)]
theorem own_leaf2 (v y1 y2 : Int64) (h1 : y1 = ((v).toUInt64 >>> ((7 : Int32) &&& 0x3f).toInt64.toUInt64).toInt64) (h2 : y2 = ((y1).toUInt64 >>> ((7 : Int32) &&& 0x3f).toInt64.toUInt64).toInt64) (hz : y2 = (0 : Int64)) (hn : ¬ (y1 = (0 : Int64))) : own_exp v = 2 := by
  have r := rng64 v
  have e1 := own_sh7 _ _ h1
  have f1 : 0 ≤ y1.toInt ∧ y1.toInt < 18446744073709551616 ∧ 128 * y1.toInt ≤ (v.toInt % 18446744073709551616) ∧ (v.toInt % 18446744073709551616) < 128 * y1.toInt + 128 := by omega
  have e2 := own_sh7 _ _ h2
  have f2 : 0 ≤ y2.toInt ∧ y2.toInt < 18446744073709551616 ∧ 128 * y2.toInt ≤ y1.toInt ∧ y1.toInt < 128 * y2.toInt + 128 := by omega
  rw [own_z] at hz
  have b1 : y1.toInt < 128 := by omega
  have b0 : (v.toInt % 18446744073709551616) < 16384 := by omega
  rw [own_z] at hn
  have l1 : 1 ≤ y1.toInt := by omega
  have l0 : 128 ≤ (v.toInt % 18446744073709551616) := by omega
  clear e1 e2 f1 f2 b1 l1
  unfold own_exp
  rw [if_neg (show ¬ (v < (0 : Int64)) from by rw [Int64.lt_iff_toInt_lt]; simp only [show ((0 : Int64).toInt) = 0 from by decide]; omega)]
  rw [if_neg (show ¬ (v < (128 : Int64)) from by rw [Int64.lt_iff_toInt_lt]; simp only [show ((128 : Int64).toInt) = 128 from by decide]; omega)]
  rw [if_pos (show v < (16384 : Int64) from by rw [Int64.lt_iff_toInt_lt]; simp only [show ((16384 : Int64).toInt) = 16384 from by decide]; omega)]
theorem own_leaf3 (v y1 y2 y3 : Int64) (h1 : y1 = ((v).toUInt64 >>> ((7 : Int32) &&& 0x3f).toInt64.toUInt64).toInt64) (h2 : y2 = ((y1).toUInt64 >>> ((7 : Int32) &&& 0x3f).toInt64.toUInt64).toInt64) (h3 : y3 = ((y2).toUInt64 >>> ((7 : Int32) &&& 0x3f).toInt64.toUInt64).toInt64) (hz : y3 = (0 : Int64)) (hn : ¬ (y2 = (0 : Int64))) : own_exp v = 3 := by
  have r := rng64 v
  have e1 := own_sh7 _ _ h1
  have f1 : 0 ≤ y1.toInt ∧ y1.toInt < 18446744073709551616 ∧ 128 * y1.toInt ≤ (v.toInt % 18446744073709551616) ∧ (v.toInt % 18446744073709551616) < 128 * y1.toInt + 128 := by omega
  have e2 := own_sh7 _ _ h2
  have f2 : 0 ≤ y2.toInt ∧ y2.toInt < 18446744073709551616 ∧ 128 * y2.toInt ≤ y1.toInt ∧ y1.toInt < 128 * y2.toInt + 128 := by omega
  have e3 := own_sh7 _ _ h3
  have f3 : 0 ≤ y3.toInt ∧ y3.toInt < 18446744073709551616 ∧ 128 * y3.toInt ≤ y2.toInt ∧ y2.toInt < 128 * y3.toInt + 128 := by omega
  rw [own_z] at hz
  have b2 : y2.toInt < 128 := by omega
  have b1 : y1.toInt < 16384 := by omega
  have b0 : (v.toInt % 18446744073709551616) < 2097152 := by omega
  rw [own_z] at hn
  have l2 : 1 ≤ y2.toInt := by omega
  have l1 : 128 ≤ y1.toInt := by omega
  have l0 : 16384 ≤ (v.toInt % 18446744073709551616) := by omega
  clear e1 e2 e3 f1 f2 f3 b1 b2 l1 l2
  unfold own_exp
  rw [if_neg (show ¬ (v < (0 : Int64)) from by rw [Int64.lt_iff_toInt_lt]; simp only [show ((0 : Int64).toInt) = 0 from by decide]; omega)]
  rw [if_neg (show ¬ (v < (128 : Int64)) from by rw [Int64.lt_iff_toInt_lt]; simp only [show ((128 : Int64).toInt) = 128 from by decide]; omega)]
  rw [if_neg (show ¬ (v < (16384 : Int64)) from by rw [Int64.lt_iff_toInt_lt]; simp only [show ((16384 : Int64).toInt) = 16384 from by decide]; omega)]
  rw [if_pos (show v < (2097152 : Int64) from by rw [Int64.lt_iff_toInt_lt]; simp only [show ((2097152 : Int64).toInt) = 2097152 from by decide]; omega)]
theorem own_leaf4 (v y1 y2 y3 y4 : Int64) (h1 : y1 = ((v).toUInt64 >>> ((7 : Int32) &&& 0x3f).toInt64.toUInt64).toInt64) (h2 : y2 = ((y1).toUInt64 >>> ((7 : Int32) &&& 0x3f).toInt64.toUInt64).toInt64) (h3 : y3 = ((y2).toUInt64 >>> ((7 : Int32) &&& 0x3f).toInt64.toUInt64).toInt64) (h4 : y4 = ((y3).toUInt64 >>> ((7 : Int32) &&& 0x3f).toInt64.toUInt64).toInt64) (hz : y4 = (0 : Int64)) (hn : ¬ (y3 = (0 : Int64))) : own_exp v = 4 := by
  have r := rng64 v
  have e1 := own_sh7 _ _ h1
  have f1 : 0 ≤ y1.toInt ∧ y1.toInt < 18446744073709551616 ∧ 128 * y1.toInt ≤ (v.toInt % 18446744073709551616) ∧ (v.toInt % 18446744073709551616) < 128 * y1.toInt + 128 := by omega
  have e2 := own_sh7 _ _ h2
  have f2 : 0 ≤ y2.toInt ∧ y2.toInt < 18446744073709551616 ∧ 128 * y2.toInt ≤ y1.toInt ∧ y1.toInt < 128 * y2.toInt + 128 := by omega
  have e3 := own_sh7 _ _ h3
  have f3 : 0 ≤ y3.toInt ∧ y3.toInt < 18446744073709551616 ∧ 128 * y3.toInt ≤ y2.toInt ∧ y2.toInt < 128 * y3.toInt + 128 := by omega
  have e4 := own_sh7 _ _ h4
  have f4 : 0 ≤ y4.toInt ∧ y4.toInt < 18446744073709551616 ∧ 128 * y4.toInt ≤ y3.toInt ∧ y3.toInt < 128 * y4.toInt + 128 := by omega
  rw [own_z] at hz
  have b3 : y3.toInt < 128 := by omega
  have b2 : y2.toInt < 16384 := by omega
  have b1 : y1.toInt < 2097152 := by omega
  have b0 : (v.toInt % 18446744073709551616) < 268435456 := by omega
  rw [own_z] at hn
  have l3 : 1 ≤ y3.toInt := by omega
  have l2 : 128 ≤ y2.toInt := by omega
  have l1 : 16384 ≤ y1.toInt := by omega
  have l0 : 2097152 ≤ (v.toInt % 18446744073709551616) := by omega
  clear e1 e2 e3 e4 f1 f2 f3 f4 b1 b2 b3 l1 l2 l3
  unfold own_exp
  rw [if_neg (show ¬ (v < (0 : Int64)) from by rw [Int64.lt_iff_toInt_lt]; simp only [show ((0 : Int64).toInt) = 0 from by decide]; omega)]
  rw [if_neg (show ¬ (v < (128 : Int64)) from by rw [Int64.lt_iff_toInt_lt]; simp only [show ((128 : Int64).toInt) = 128 from by decide]; omega)]
  rw [if_neg (show ¬ (v < (16384 : Int64)) from by rw [Int64.lt_iff_toInt_lt]; simp only [show ((16384 : Int64).toInt) = 16384 from by decide]; omega)]
  rw [if_neg (show ¬ (v < (2097152 : Int64)) from by rw [Int64.lt_iff_toInt_lt]; simp only [show ((2097152 : Int64).toInt) = 2097152 from by decide]; omega)]
  rw [if_pos (show v < (268435456 : Int64) from by rw [Int64.lt_iff_toInt_lt]; simp only [show ((268435456 : Int64).toInt) = 268435456 from by decide]; omega)]
theorem own_leaf5 (v y1 y2 y3 y4 y5 : Int64) (h1 : y1 = ((v).toUInt64 >>> ((7 : Int32) &&& 0x3f).toInt64.toUInt64).toInt64) (h2 : y2 = ((y1).toUInt64 >>> ((7 : Int32) &&& 0x3f).toInt64.toUInt64).toInt64) (h3 : y3 = ((y2).toUInt64 >>> ((7 : Int32) &&& 0x3f).toInt64.toUInt64).toInt64) (h4 : y4 = ((y3).toUInt64 >>> ((7 : Int32) &&& 0x3f).toInt64.toUInt64).toInt64) (h5 : y5 = ((y4).toUInt64 >>> ((7 : Int32) &&& 0x3f).toInt64.toUInt64).toInt64) (hz : y5 = (0 : Int64)) (hn : ¬ (y4 = (0 : Int64))) : own_exp v = 5 := by
  have r := rng64 v
  have e1 := own_sh7 _ _ h1
  have f1 : 0 ≤ y1.toInt ∧ y1.toInt < 18446744073709551616 ∧ 128 * y1.toInt ≤ (v.toInt % 18446744073709551616) ∧ (v.toInt % 18446744073709551616) < 128 * y1.toInt + 128 := by omega
  have e2 := own_sh7 _ _ h2
  have f2 : 0 ≤ y2.toInt ∧ y2.toInt < 18446744073709551616 ∧ 128 * y2.toInt ≤ y1.toInt ∧ y1.toInt < 128 * y2.toInt + 128 := by omega
  have e3 := own_sh7 _ _ h3
  have f3 : 0 ≤ y3.toInt ∧ y3.toInt < 18446744073709551616 ∧ 128 * y3.toInt ≤ y2.toInt ∧ y2.toInt < 128 * y3.toInt + 128 := by omega
  have e4 := own_sh7 _ _ h4
  have f4 : 0 ≤ y4.toInt ∧ y4.toInt < 18446744073709551616 ∧ 128 * y4.toInt ≤ y3.toInt ∧ y3.toInt < 128 * y4.toInt + 128 := by omega
  have e5 := own_sh7 _ _ h5
  have f5 : 0 ≤ y5.toInt ∧ y5.toInt < 18446744073709551616 ∧ 128 * y5.toInt ≤ y4.toInt ∧ y4.toInt < 128 * y5.toInt + 128 := by omega
  rw [own_z] at hz
  have b4 : y4.toInt < 128 := by omega
  have b3 : y3.toInt < 16384 := by omega
  have b2 : y2.toInt < 2097152 := by omega
  have b1 : y1.toInt < 268435456 := by omega
  have b0 : (v.toInt % 18446744073709551616) < 34359738368 := by omega
  rw [own_z] at hn
  have l4 : 1 ≤ y4.toInt := by omega
  have l3 : 128 ≤ y3.toInt := by omega
  have l2 : 16384 ≤ y2.toInt := by omega
  have l1 : 2097152 ≤ y1.toInt := by omega
  have l0 : 268435456 ≤ (v.toInt % 18446744073709551616) := by omega
  clear e1 e2 e3 e4 e5 f1 f2 f3 f4 f5 b1 b2 b3 b4 l1 l2 l3 l4
  unfold own_exp
  rw [if_neg (show ¬ (v < (0 : Int64)) from by rw [Int64.lt_iff_toInt_lt]; simp only [show ((0 : Int64).toInt) = 0 from by decide]; omega)]
  rw [if_neg (show ¬ (v < (128 : Int64)) from by rw [Int64.lt_iff_toInt_lt]; simp only [show ((128 : Int64).toInt) = 128 from by decide]; omega)]
  rw [if_neg (show ¬ (v < (16384 : Int64)) from by rw [Int64.lt_iff_toInt_lt]; simp only [show ((16384 : Int64).toInt) = 16384 from by decide]; omega)]
  rw [if_neg (show ¬ (v < (2097152 : Int64)) from by rw [Int64.lt_iff_toInt_lt]; simp only [show ((2097152 : Int64).toInt) = 2097152 from by decide]; omega)]
  rw [if_neg (show ¬ (v < (268435456 : Int64)) from by rw [Int64.lt_iff_toInt_lt]; simp only [show ((268435456 : Int64).toInt) = 268435456 from by decide]; omega)]
  rw [if_pos (show v < (34359738368 : Int64) from by rw [Int64.lt_iff_toInt_lt]; simp only [show ((34359738368 : Int64).toInt) = 34359738368 from by decide]; omega)]
theorem own_leaf6 (v y1 y2 y3 y4 y5 y6 : Int64) (h1 : y1 = ((v).toUInt64 >>> ((7 : Int32) &&& 0x3f).toInt64.toUInt64).toInt64) (h2 : y2 = ((y1).toUInt64 >>> ((7 : Int32) &&& 0x3f).toInt64.toUInt64).toInt64) (h3 : y3 = ((y2).toUInt64 >>> ((7 : Int32) &&& 0x3f).toInt64.toUInt64).toInt64) (h4 : y4 = ((y3).toUInt64 >>> ((7 : Int32) &&& 0x3f).toInt64.toUInt64).toInt64) (h5 : y5 = ((y4).toUInt64 >>> ((7 : Int32) &&& 0x3f).toInt64.toUInt64).toInt64) (h6 : y6 = ((y5).toUInt64 >>> ((7 : Int32) &&& 0x3f).toInt64.toUInt64).toInt64) (hz : y6 = (0 : Int64)) (hn : ¬ (y5 = (0 : Int64))) : own_exp v = 6 := by
  have r := rng64 v
  have e1 := own_sh7 _ _ h1
  have f1 : 0 ≤ y1.toInt ∧ y1.toInt < 18446744073709551616 ∧ 128 * y1.toInt ≤ (v.toInt % 18446744073709551616) ∧ (v.toInt % 18446744073709551616) < 128 * y1.toInt + 128 := by omega
  have e2 := own_sh7 _ _ h2
  have f2 : 0 ≤ y2.toInt ∧ y2.toInt < 18446744073709551616 ∧ 128 * y2.toInt ≤ y1.toInt ∧ y1.toInt < 128 * y2.toInt + 128 := by omega
  have e3 := own_sh7 _ _ h3
  have f3 : 0 ≤ y3.toInt ∧ y3.toInt < 18446744073709551616 ∧ 128 * y3.toInt ≤ y2.toInt ∧ y2.toInt < 128 * y3.toInt + 128 := by omega
  have e4 := own_sh7 _ _ h4
  have f4 : 0 ≤ y4.toInt ∧ y4.toInt < 18446744073709551616 ∧ 128 * y4.toInt ≤ y3.toInt ∧ y3.toInt < 128 * y4.toInt + 128 := by omega
  have e5 := own_sh7 _ _ h5
  have f5 : 0 ≤ y5.toInt ∧ y5.toInt < 18446744073709551616 ∧ 128 * y5.toInt ≤ y4.toInt ∧ y4.toInt < 128 * y5.toInt + 128 := by omega
  have e6 := own_sh7 _ _ h6
  have f6 : 0 ≤ y6.toInt ∧ y6.toInt < 18446744073709551616 ∧ 128 * y6.toInt ≤ y5.toInt ∧ y5.toInt < 128 * y6.toInt + 128 := by omega
  rw [own_z] at hz
  have b5 : y5.toInt < 128 := by omega
  have b4 : y4.toInt < 16384 := by omega
  have b3 : y3.toInt < 2097152 := by omega
  have b2 : y2.toInt < 268435456 := by omega
  have b1 : y1.toInt < 34359738368 := by omega
  have b0 : (v.toInt % 18446744073709551616) < 4398046511104 := by omega
  rw [own_z] at hn
  have l5 : 1 ≤ y5.toInt := by omega
  have l4 : 128 ≤ y4.toInt := by omega
  have l3 : 16384 ≤ y3.toInt := by omega
  have l2 : 2097152 ≤ y2.toInt := by omega
  have l1 : 268435456 ≤ y1.toInt := by omega
  have l0 : 34359738368 ≤ (v.toInt % 18446744073709551616) := by omega
  clear e1 e2 e3 e4 e5 e6 f1 f2 f3 f4 f5 f6 b1 b2 b3 b4 b5 l1 l2 l3 l4 l5
  unfold own_exp
  rw [if_neg (show ¬ (v < (0 : Int64)) from by rw [Int64.lt_iff_toInt_lt]; simp only [show ((0 : Int64).toInt) = 0 from by decide]; omega)]
  rw [if_neg (show ¬ (v < (128 : Int64)) from by rw [Int64.lt_iff_toInt_lt]; simp only [show ((128 : Int64).toInt) = 128 from by decide]; omega)]
  rw [if_neg (show ¬ (v < (16384 : Int64)) from by rw [Int64.lt_iff_toInt_lt]; simp only [show ((16384 : Int64).toInt) = 16384 from by decide]; omega)]
  rw [if_neg (show ¬ (v < (2097152 : Int64)) from by rw [Int64.lt_iff_toInt_lt]; simp only [show ((2097152 : Int64).toInt) = 2097152 from by decide]; omega)]
  rw [if_neg (show ¬ (v < (268435456 : Int64)) from by rw [Int64.lt_iff_toInt_lt]; simp only [show ((268435456 : Int64).toInt) = 268435456 from by decide]; omega)]
  rw [if_neg (show ¬ (v < (34359738368 : Int64)) from by rw [Int64.lt_iff_toInt_lt]; simp only [show ((34359738368 : Int64).toInt) = 34359738368 from by decide]; omega)]
  rw [if_pos (show v < (4398046511104 : Int64) from by rw [Int64.lt_iff_toInt_lt]; simp only [show ((4398046511104 : Int64).toInt) = 4398046511104 from by decide]; omega)]
theorem own_leaf7 (v y1 y2 y3 y4 y5 y6 y7 : Int64) (h1 : y1 = ((v).toUInt64 >>> ((7 : Int32) &&& 0x3f).toInt64.toUInt64).toInt64) (h2 : y2 = ((y1).toUInt64 >>> ((7 : Int32) &&& 0x3f).toInt64.toUInt64).toInt64) (h3 : y3 = ((y2).toUInt64 >>> ((7 : Int32) &&& 0x3f).toInt64.toUInt64).toInt64) (h4 : y4 = ((y3).toUInt64 >>> ((7 : Int32) &&& 0x3f).toInt64.toUInt64).toInt64) (h5 : y5 = ((y4).toUInt64 >>> ((7 : Int32) &&& 0x3f).toInt64.toUInt64).toInt64) (h6 : y6 = ((y5).toUInt64 >>> ((7 : Int32) &&& 0x3f).toInt64.toUInt64).toInt64) (h7 : y7 = ((y6).toUInt64 >>> ((7 : Int32) &&& 0x3f).toInt64.toUInt64).toInt64) (hz : y7 = (0 : Int64)) (hn : ¬ (y6 = (0 : Int64))) : own_exp v = 7 := by
  have r := rng64 v
  have e1 := own_sh7 _ _ h1
  have f1 : 0 ≤ y1.toInt ∧ y1.toInt < 18446744073709551616 ∧ 128 * y1.toInt ≤ (v.toInt % 18446744073709551616) ∧ (v.toInt % 18446744073709551616) < 128 * y1.toInt + 128 := by omega
  have e2 := own_sh7 _ _ h2
  have f2 : 0 ≤ y2.toInt ∧ y2.toInt < 18446744073709551616 ∧ 128 * y2.toInt ≤ y1.toInt ∧ y1.toInt < 128 * y2.toInt + 128 := by omega
  have e3 := own_sh7 _ _ h3
  have f3 : 0 ≤ y3.toInt ∧ y3.toInt < 18446744073709551616 ∧ 128 * y3.toInt ≤ y2.toInt ∧ y2.toInt < 128 * y3.toInt + 128 := by omega
  have e4 := own_sh7 _ _ h4
  have f4 : 0 ≤ y4.toInt ∧ y4.toInt < 18446744073709551616 ∧ 128 * y4.toInt ≤ y3.toInt ∧ y3.toInt < 128 * y4.toInt + 128 := by omega
  have e5 := own_sh7 _ _ h5
  have f5 : 0 ≤ y5.toInt ∧ y5.toInt < 18446744073709551616 ∧ 128 * y5.toInt ≤ y4.toInt ∧ y4.toInt < 128 * y5.toInt + 128 := by omega
  have e6 := own_sh7 _ _ h6
  have f6 : 0 ≤ y6.toInt ∧ y6.toInt < 18446744073709551616 ∧ 128 * y6.toInt ≤ y5.toInt ∧ y5.toInt < 128 * y6.toInt + 128 := by omega
  have e7 := own_sh7 _ _ h7
  have f7 : 0 ≤ y7.toInt ∧ y7.toInt < 18446744073709551616 ∧ 128 * y7.toInt ≤ y6.toInt ∧ y6.toInt < 128 * y7.toInt + 128 := by omega
  rw [own_z] at hz
  have b6 : y6.toInt < 128 := by omega
  have b5 : y5.toInt < 16384 := by omega
  have b4 : y4.toInt < 2097152 := by omega
  have b3 : y3.toInt < 268435456 := by omega
  have b2 : y2.toInt < 34359738368 := by omega
  have b1 : y1.toInt < 4398046511104 := by omega
  have b0 : (v.toInt % 18446744073709551616) < 562949953421312 := by omega
  rw [own_z] at hn
  have l6 : 1 ≤ y6.toInt := by omega
  have l5 : 128 ≤ y5.toInt := by omega
  have l4 : 16384 ≤ y4.toInt := by omega
  have l3 : 2097152 ≤ y3.toInt := by omega
  have l2 : 268435456 ≤ y2.toInt := by omega
  have l1 : 34359738368 ≤ y1.toInt := by omega
  have l0 : 4398046511104 ≤ (v.toInt % 18446744073709551616) := by omega
  clear e1 e2 e3 e4 e5 e6 e7 f1 f2 f3 f4 f5 f6 f7 b1 b2 b3 b4 b5 b6 l1 l2 l3 l4 l5 l6
  unfold own_exp
  rw [if_neg (show ¬ (v < (0 : Int64)) from by rw [Int64.lt_iff_toInt_lt]; simp only [show ((0 : Int64).toInt) = 0 from by decide]; omega)]
  rw [if_neg (show ¬ (v < (128 : Int64)) from by rw [Int64.lt_iff_toInt_lt]; simp only [show ((128 : Int64).toInt) = 128 from by decide]; omega)]
  rw [if_neg (show ¬ (v < (16384 : Int64)) from by rw [Int64.lt_iff_toInt_lt]; simp only [show ((16384 : Int64).toInt) = 16384 from by decide]; omega)]
  rw [if_neg (show ¬ (v < (2097152 : Int64)) from by rw [Int64.lt_iff_toInt_lt]; simp only [show ((2097152 : Int64).toInt) = 2097152 from by decide]; omega)]
  rw [if_neg (show ¬ (v < (268435456 : Int64)) from by rw [Int64.lt_iff_toInt_lt]; simp only [show ((268435456 : Int64).toInt) = 268435456 from by decide]; omega)]
  rw [if_neg (show ¬ (v < (34359738368 : Int64)) from by rw [Int64.lt_iff_toInt_lt]; simp only [show ((34359738368 : Int64).toInt) = 34359738368 from by decide]; omega)]
  rw [if_neg (show ¬ (v < (4398046511104 : Int64)) from by rw [Int64.lt_iff_toInt_lt]; simp only [show ((4398046511104 : Int64).toInt) = 4398046511104 from by decide]; omega)]
  rw [if_pos (show v < (562949953421312 : Int64) from by rw [Int64.lt_iff_toInt_lt]; simp only [show ((562949953421312 : Int64).toInt) = 562949953421312 from by decide]; omega)]
theorem own_leaf8 (v y1 y2 y3 y4 y5 y6 y7 y8 : Int64) (h1 : y1 = ((v).toUInt64 >>> ((7 : Int32) &&& 0x3f).toInt64.toUInt64).toInt64) (h2 : y2 = ((y1).toUInt64 >>> ((7 : Int32) &&& 0x3f).toInt64.toUInt64).toInt64) (h3 : y3 = ((y2).toUInt64 >>> ((7 : Int32) &&& 0x3f).toInt64.toUInt64).toInt64) (h4 : y4 = ((y3).toUInt64 >>> ((7 : Int32) &&& 0x3f).toInt64.toUInt64).toInt64) (h5 : y5 = ((y4).toUInt64 >>> ((7 : Int32) &&& 0x3f).toInt64.toUInt64).toInt64) (h6 : y6 = ((y5).toUInt64 >>> ((7 : Int32) &&& 0x3f).toInt64.toUInt64).toInt64) (h7 : y7 = ((y6).toUInt64 >>> ((7 : Int32) &&& 0x3f).toInt64.toUInt64).toInt64) (h8 : y8 = ((y7).toUInt64 >>> ((7 : Int32) &&& 0x3f).toInt64.toUInt64).toInt64) (hz : y8 = (0 : Int64)) (hn : ¬ (y7 = (0 : Int64))) : own_exp v = 8 := by
  have r := rng64 v
  have e1 := own_sh7 _ _ h1
  have f1 : 0 ≤ y1.toInt ∧ y1.toInt < 18446744073709551616 ∧ 128 * y1.toInt ≤ (v.toInt % 18446744073709551616) ∧ (v.toInt % 18446744073709551616) < 128 * y1.toInt + 128 := by omega
  have e2 := own_sh7 _ _ h2
  have f2 : 0 ≤ y2.toInt ∧ y2.toInt < 18446744073709551616 ∧ 128 * y2.toInt ≤ y1.toInt ∧ y1.toInt < 128 * y2.toInt + 128 := by omega
  have e3 := own_sh7 _ _ h3
  have f3 : 0 ≤ y3.toInt ∧ y3.toInt < 18446744073709551616 ∧ 128 * y3.toInt ≤ y2.toInt ∧ y2.toInt < 128 * y3.toInt + 128 := by omega
  have e4 := own_sh7 _ _ h4
  have f4 : 0 ≤ y4.toInt ∧ y4.toInt < 18446744073709551616 ∧ 128 * y4.toInt ≤ y3.toInt ∧ y3.toInt < 128 * y4.toInt + 128 := by omega
  have e5 := own_sh7 _ _ h5
  have f5 : 0 ≤ y5.toInt ∧ y5.toInt < 18446744073709551616 ∧ 128 * y5.toInt ≤ y4.toInt ∧ y4.toInt < 128 * y5.toInt + 128 := by omega
  have e6 := own_sh7 _ _ h6
  have f6 : 0 ≤ y6.toInt ∧ y6.toInt < 18446744073709551616 ∧ 128 * y6.toInt ≤ y5.toInt ∧ y5.toInt < 128 * y6.toInt + 128 := by omega
  have e7 := own_sh7 _ _ h7
  have f7 : 0 ≤ y7.toInt ∧ y7.toInt < 18446744073709551616 ∧ 128 * y7.toInt ≤ y6.toInt ∧ y6.toInt < 128 * y7.toInt + 128 := by omega
  have e8 := own_sh7 _ _ h8
  have f8 : 0 ≤ y8.toInt ∧ y8.toInt < 18446744073709551616 ∧ 128 * y8.toInt ≤ y7.toInt ∧ y7.toInt < 128 * y8.toInt + 128 := by omega
  rw [own_z] at hz
  have b7 : y7.toInt < 128 := by omega
  have b6 : y6.toInt < 16384 := by omega
  have b5 : y5.toInt < 2097152 := by omega
  have b4 : y4.toInt < 268435456 := by omega
  have b3 : y3.toInt < 34359738368 := by omega
  have b2 : y2.toInt < 4398046511104 := by omega
  have b1 : y1.toInt < 562949953421312 := by omega
  have b0 : (v.toInt % 18446744073709551616) < 72057594037927936 := by omega
  rw [own_z] at hn
  have l7 : 1 ≤ y7.toInt := by omega
  have l6 : 128 ≤ y6.toInt := by omega
  have l5 : 16384 ≤ y5.toInt := by omega
  have l4 : 2097152 ≤ y4.toInt := by omega
  have l3 : 268435456 ≤ y3.toInt := by omega
  have l2 : 34359738368 ≤ y2.toInt := by omega
  have l1 : 4398046511104 ≤ y1.toInt := by omega
  have l0 : 562949953421312 ≤ (v.toInt % 18446744073709551616) := by omega
  clear e1 e2 e3 e4 e5 e6 e7 e8 f1 f2 f3 f4 f5 f6 f7 f8 b1 b2 b3 b4 b5 b6 b7 l1 l2 l3 l4 l5 l6 l7
  unfold own_exp
  rw [if_neg (show ¬ (v < (0 : Int64)) from by rw [Int64.lt_iff_toInt_lt]; simp only [show ((0 : Int64).toInt) = 0 from by decide]; omega)]
  rw [if_neg (show ¬ (v < (128 : Int64)) from by rw [Int64.lt_iff_toInt_lt]; simp only [show ((128 : Int64).toInt) = 128 from by decide]; omega)]
  rw [if_neg (show ¬ (v < (16384 : Int64)) from by rw [Int64.lt_iff_toInt_lt]; simp only [show ((16384 : Int64).toInt) = 16384 from by decide]; omega)]
  rw [if_neg (show ¬ (v < (2097152 : Int64)) from by rw [Int64.lt_iff_toInt_lt]; simp only [show ((2097152 : Int64).toInt) = 2097152 from by decide]; omega)]
  rw [if_neg (show ¬ (v < (268435456 : Int64)) from by rw [Int64.lt_iff_toInt_lt]; simp only [show ((268435456 : Int64).toInt) = 268435456 from by decide]; omega)]
  rw [if_neg (show ¬ (v < (34359738368 : Int64)) from by rw [Int64.lt_iff_toInt_lt]; simp only [show ((34359738368 : Int64).toInt) = 34359738368 from by decide]; omega)]
  rw [if_neg (show ¬ (v < (4398046511104 : Int64)) from by rw [Int64.lt_iff_toInt_lt]; simp only [show ((4398046511104 : Int64).toInt) = 4398046511104 from by decide]; omega)]
  rw [if_neg (show ¬ (v < (562949953421312 : Int64)) from by rw [Int64.lt_iff_toInt_lt]; simp only [show ((562949953421312 : Int64).toInt) = 562949953421312 from by decide]; omega)]
  rw [if_pos (show v < (72057594037927936 : Int64) from by rw [Int64.lt_iff_toInt_lt]; simp only [show ((72057594037927936 : Int64).toInt) = 72057594037927936 from by decide]; omega)]
theorem own_leaf9 (v y1 y2 y3 y4 y5 y6 y7 y8 y9 : Int64) (h1 : y1 = ((v).toUInt64 >>> ((7 : Int32) &&& 0x3f).toInt64.toUInt64).toInt64) (h2 : y2 = ((y1).toUInt64 >>> ((7 : Int32) &&& 0x3f).toInt64.toUInt64).toInt64) (h3 : y3 = ((y2).toUInt64 >>> ((7 : Int32) &&& 0x3f).toInt64.toUInt64).toInt64) (h4 : y4 = ((y3).toUInt64 >>> ((7 : Int32) &&& 0x3f).toInt64.toUInt64).toInt64) (h5 : y5 = ((y4).toUInt64 >>> ((7 : Int32) &&& 0x3f).toInt64.toUInt64).toInt64) (h6 : y6 = ((y5).toUInt64 >>> ((7 : Int32) &&& 0x3f).toInt64.toUInt64).toInt64) (h7 : y7 = ((y6).toUInt64 >>> ((7 : Int32) &&& 0x3f).toInt64.toUInt64).toInt64) (h8 : y8 = ((y7).toUInt64 >>> ((7 : Int32) &&& 0x3f).toInt64.toUInt64).toInt64) (h9 : y9 = ((y8).toUInt64 >>> ((7 : Int32) &&& 0x3f).toInt64.toUInt64).toInt64) (hz : y9 = (0 : Int64)) (hn : ¬ (y8 = (0 : Int64))) : own_exp v = 9 := by
  have r := rng64 v
  have e1 := own_sh7 _ _ h1
  have f1 : 0 ≤ y1.toInt ∧ y1.toInt < 18446744073709551616 ∧ 128 * y1.toInt ≤ (v.toInt % 18446744073709551616) ∧ (v.toInt % 18446744073709551616) < 128 * y1.toInt + 128 := by omega
  have e2 := own_sh7 _ _ h2
  have f2 : 0 ≤ y2.toInt ∧ y2.toInt < 18446744073709551616 ∧ 128 * y2.toInt ≤ y1.toInt ∧ y1.toInt < 128 * y2.toInt + 128 := by omega
  have e3 := own_sh7 _ _ h3
  have f3 : 0 ≤ y3.toInt ∧ y3.toInt < 18446744073709551616 ∧ 128 * y3.toInt ≤ y2.toInt ∧ y2.toInt < 128 * y3.toInt + 128 := by omega
  have e4 := own_sh7 _ _ h4
  have f4 : 0 ≤ y4.toInt ∧ y4.toInt < 18446744073709551616 ∧ 128 * y4.toInt ≤ y3.toInt ∧ y3.toInt < 128 * y4.toInt + 128 := by omega
  have e5 := own_sh7 _ _ h5
  have f5 : 0 ≤ y5.toInt ∧ y5.toInt < 18446744073709551616 ∧ 128 * y5.toInt ≤ y4.toInt ∧ y4.toInt < 128 * y5.toInt + 128 := by omega
  have e6 := own_sh7 _ _ h6
  have f6 : 0 ≤ y6.toInt ∧ y6.toInt < 18446744073709551616 ∧ 128 * y6.toInt ≤ y5.toInt ∧ y5.toInt < 128 * y6.toInt + 128 := by omega
  have e7 := own_sh7 _ _ h7
  have f7 : 0 ≤ y7.toInt ∧ y7.toInt < 18446744073709551616 ∧ 128 * y7.toInt ≤ y6.toInt ∧ y6.toInt < 128 * y7.toInt + 128 := by omega
  have e8 := own_sh7 _ _ h8
  have f8 : 0 ≤ y8.toInt ∧ y8.toInt < 18446744073709551616 ∧ 128 * y8.toInt ≤ y7.toInt ∧ y7.toInt < 128 * y8.toInt + 128 := by omega
  have e9 := own_sh7 _ _ h9
  have f9 : 0 ≤ y9.toInt ∧ y9.toInt < 18446744073709551616 ∧ 128 * y9.toInt ≤ y8.toInt ∧ y8.toInt < 128 * y9.toInt + 128 := by omega
  rw [own_z] at hz
  have b8 : y8.toInt < 128 := by omega
  have b7 : y7.toInt < 16384 := by omega
  have b6 : y6.toInt < 2097152 := by omega
  have b5 : y5.toInt < 268435456 := by omega
  have b4 : y4.toInt < 34359738368 := by omega
  have b3 : y3.toInt < 4398046511104 := by omega
  have b2 : y2.toInt < 562949953421312 := by omega
  have b1 : y1.toInt < 72057594037927936 := by omega
  have b0 : (v.toInt % 18446744073709551616) < 9223372036854775808 := by omega
  rw [own_z] at hn
  have l8 : 1 ≤ y8.toInt := by omega
  have l7 : 128 ≤ y7.toInt := by omega
  have l6 : 16384 ≤ y6.toInt := by omega
  have l5 : 2097152 ≤ y5.toInt := by omega
  have l4 : 268435456 ≤ y4.toInt := by omega
  have l3 : 34359738368 ≤ y3.toInt := by omega
  have l2 : 4398046511104 ≤ y2.toInt := by omega
  have l1 : 562949953421312 ≤ y1.toInt := by omega
  have l0 : 72057594037927936 ≤ (v.toInt % 18446744073709551616) := by omega
  clear e1 e2 e3 e4 e5 e6 e7 e8 e9 f1 f2 f3 f4 f5 f6 f7 f8 f9 b1 b2 b3 b4 b5 b6 b7 b8 l1 l2 l3 l4 l5 l6 l7 l8
  unfold own_exp
  rw [if_neg (show ¬ (v < (0 : Int64)) from by rw [Int64.lt_iff_toInt_lt]; simp only [show ((0 : Int64).toInt) = 0 from by decide]; omega)]
  rw [if_neg (show ¬ (v < (128 : Int64)) from by rw [Int64.lt_iff_toInt_lt]; simp only [show ((128 : Int64).toInt) = 128 from by decide]; omega)]
  rw [if_neg (show ¬ (v < (16384 : Int64)) from by rw [Int64.lt_iff_toInt_lt]; simp only [show ((16384 : Int64).toInt) = 16384 from by decide]; omega)]
  rw [if_neg (show ¬ (v < (2097152 : Int64)) from by rw [Int64.lt_iff_toInt_lt]; simp only [show ((2097152 : Int64).toInt) = 2097152 from by decide]; omega)]
  rw [if_neg (show ¬ (v < (268435456 : Int64)) from by rw [Int64.lt_iff_toInt_lt]; simp only [show ((268435456 : Int64).toInt) = 268435456 from by decide]; omega)]
  rw [if_neg (show ¬ (v < (34359738368 : Int64)) from by rw [Int64.lt_iff_toInt_lt]; simp only [show ((34359738368 : Int64).toInt) = 34359738368 from by decide]; omega)]
  rw [if_neg (show ¬ (v < (4398046511104 : Int64)) from by rw [Int64.lt_iff_toInt_lt]; simp only [show ((4398046511104 : Int64).toInt) = 4398046511104 from by decide]; omega)]
  rw [if_neg (show ¬ (v < (562949953421312 : Int64)) from by rw [Int64.lt_iff_toInt_lt]; simp only [show ((562949953421312 : Int64).toInt) = 562949953421312 from by decide]; omega)]
  rw [if_neg (show ¬ (v < (72057594037927936 : Int64)) from by rw [Int64.lt_iff_toInt_lt]; simp only [show ((72057594037927936 : Int64).toInt) = 72057594037927936 from by decide]; omega)]
theorem own_leaf10 (v y1 y2 y3 y4 y5 y6 y7 y8 y9 y10 : Int64) (h1 : y1 = ((v).toUInt64 >>> ((7 : Int32) &&& 0x3f).toInt64.toUInt64).toInt64) (h2 : y2 = ((y1).toUInt64 >>> ((7 : Int32) &&& 0x3f).toInt64.toUInt64).toInt64) (h3 : y3 = ((y2).toUInt64 >>> ((7 : Int32) &&& 0x3f).toInt64.toUInt64).toInt64) (h4 : y4 = ((y3).toUInt64 >>> ((7 : Int32) &&& 0x3f).toInt64.toUInt64).toInt64) (h5 : y5 = ((y4).toUInt64 >>> ((7 : Int32) &&& 0x3f).toInt64.toUInt64).toInt64) (h6 : y6 = ((y5).toUInt64 >>> ((7 : Int32) &&& 0x3f).toInt64.toUInt64).toInt64) (h7 : y7 = ((y6).toUInt64 >>> ((7 : Int32) &&& 0x3f).toInt64.toUInt64).toInt64) (h8 : y8 = ((y7).toUInt64 >>> ((7 : Int32) &&& 0x3f).toInt64.toUInt64).toInt64) (h9 : y9 = ((y8).toUInt64 >>> ((7 : Int32) &&& 0x3f).toInt64.toUInt64).toInt64) (h10 : y10 = ((y9).toUInt64 >>> ((7 : Int32) &&& 0x3f).toInt64.toUInt64).toInt64)  (hn : ¬ (y9 = (0 : Int64))) : own_exp v = 10 := by
  have r := rng64 v
  have e1 := own_sh7 _ _ h1
  have f1 : 0 ≤ y1.toInt ∧ y1.toInt < 18446744073709551616 ∧ 128 * y1.toInt ≤ (v.toInt % 18446744073709551616) ∧ (v.toInt % 18446744073709551616) < 128 * y1.toInt + 128 := by omega
  have e2 := own_sh7 _ _ h2
  have f2 : 0 ≤ y2.toInt ∧ y2.toInt < 18446744073709551616 ∧ 128 * y2.toInt ≤ y1.toInt ∧ y1.toInt < 128 * y2.toInt + 128 := by omega
  have e3 := own_sh7 _ _ h3
  have f3 : 0 ≤ y3.toInt ∧ y3.toInt < 18446744073709551616 ∧ 128 * y3.toInt ≤ y2.toInt ∧ y2.toInt < 128 * y3.toInt + 128 := by omega
  have e4 := own_sh7 _ _ h4
  have f4 : 0 ≤ y4.toInt ∧ y4.toInt < 18446744073709551616 ∧ 128 * y4.toInt ≤ y3.toInt ∧ y3.toInt < 128 * y4.toInt + 128 := by omega
  have e5 := own_sh7 _ _ h5
  have f5 : 0 ≤ y5.toInt ∧ y5.toInt < 18446744073709551616 ∧ 128 * y5.toInt ≤ y4.toInt ∧ y4.toInt < 128 * y5.toInt + 128 := by omega
  have e6 := own_sh7 _ _ h6
  have f6 : 0 ≤ y6.toInt ∧ y6.toInt < 18446744073709551616 ∧ 128 * y6.toInt ≤ y5.toInt ∧ y5.toInt < 128 * y6.toInt + 128 := by omega
  have e7 := own_sh7 _ _ h7
  have f7 : 0 ≤ y7.toInt ∧ y7.toInt < 18446744073709551616 ∧ 128 * y7.toInt ≤ y6.toInt ∧ y6.toInt < 128 * y7.toInt + 128 := by omega
  have e8 := own_sh7 _ _ h8
  have f8 : 0 ≤ y8.toInt ∧ y8.toInt < 18446744073709551616 ∧ 128 * y8.toInt ≤ y7.toInt ∧ y7.toInt < 128 * y8.toInt + 128 := by omega
  have e9 := own_sh7 _ _ h9
  have f9 : 0 ≤ y9.toInt ∧ y9.toInt < 18446744073709551616 ∧ 128 * y9.toInt ≤ y8.toInt ∧ y8.toInt < 128 * y9.toInt + 128 := by omega
  have e10 := own_sh7 _ _ h10
  have f10 : 0 ≤ y10.toInt ∧ y10.toInt < 18446744073709551616 ∧ 128 * y10.toInt ≤ y9.toInt ∧ y9.toInt < 128 * y10.toInt + 128 := by omega
  rw [own_z] at hn
  have l9 : 1 ≤ y9.toInt := by omega
  have l8 : 128 ≤ y8.toInt := by omega
  have l7 : 16384 ≤ y7.toInt := by omega
  have l6 : 2097152 ≤ y6.toInt := by omega
  have l5 : 268435456 ≤ y5.toInt := by omega
  have l4 : 34359738368 ≤ y4.toInt := by omega
  have l3 : 4398046511104 ≤ y3.toInt := by omega
  have l2 : 562949953421312 ≤ y2.toInt := by omega
  have l1 : 72057594037927936 ≤ y1.toInt := by omega
  have l0 : 9223372036854775808 ≤ (v.toInt % 18446744073709551616) := by omega
  clear e1 e2 e3 e4 e5 e6 e7 e8 e9 e10 f1 f2 f3 f4 f5 f6 f7 f8 f9 f10 l1 l2 l3 l4 l5 l6 l7 l8 l9
  unfold own_exp
  rw [if_pos (show v < (0 : Int64) from by rw [Int64.lt_iff_toInt_lt]; simp only [show ((0 : Int64).toInt) = 0 from by decide]; omega)]
theorem own_last (v y1 y2 y3 y4 y5 y6 y7 y8 y9 y10 : Int64) (h1 : y1 = ((v).toUInt64 >>> ((7 : Int32) &&& 0x3f).toInt64.toUInt64).toInt64) (h2 : y2 = ((y1).toUInt64 >>> ((7 : Int32) &&& 0x3f).toInt64.toUInt64).toInt64) (h3 : y3 = ((y2).toUInt64 >>> ((7 : Int32) &&& 0x3f).toInt64.toUInt64).toInt64) (h4 : y4 = ((y3).toUInt64 >>> ((7 : Int32) &&& 0x3f).toInt64.toUInt64).toInt64) (h5 : y5 = ((y4).toUInt64 >>> ((7 : Int32) &&& 0x3f).toInt64.toUInt64).toInt64) (h6 : y6 = ((y5).toUInt64 >>> ((7 : Int32) &&& 0x3f).toInt64.toUInt64).toInt64) (h7 : y7 = ((y6).toUInt64 >>> ((7 : Int32) &&& 0x3f).toInt64.toUInt64).toInt64) (h8 : y8 = ((y7).toUInt64 >>> ((7 : Int32) &&& 0x3f).toInt64.toUInt64).toInt64) (h9 : y9 = ((y8).toUInt64 >>> ((7 : Int32) &&& 0x3f).toInt64.toUInt64).toInt64) (h10 : y10 = ((y9).toUInt64 >>> ((7 : Int32) &&& 0x3f).toInt64.toUInt64).toInt64) : y10 = (0 : Int64) := by
  have r := rng64 v
  have e1 := own_sh7 _ _ h1
  have f1 : 0 ≤ y1.toInt ∧ y1.toInt < 18446744073709551616 ∧ 128 * y1.toInt ≤ (v.toInt % 18446744073709551616) ∧ (v.toInt % 18446744073709551616) < 128 * y1.toInt + 128 := by omega
  have e2 := own_sh7 _ _ h2
  have f2 : 0 ≤ y2.toInt ∧ y2.toInt < 18446744073709551616 ∧ 128 * y2.toInt ≤ y1.toInt ∧ y1.toInt < 128 * y2.toInt + 128 := by omega
  have e3 := own_sh7 _ _ h3
  have f3 : 0 ≤ y3.toInt ∧ y3.toInt < 18446744073709551616 ∧ 128 * y3.toInt ≤ y2.toInt ∧ y2.toInt < 128 * y3.toInt + 128 := by omega
  have e4 := own_sh7 _ _ h4
  have f4 : 0 ≤ y4.toInt ∧ y4.toInt < 18446744073709551616 ∧ 128 * y4.toInt ≤ y3.toInt ∧ y3.toInt < 128 * y4.toInt + 128 := by omega
  have e5 := own_sh7 _ _ h5
  have f5 : 0 ≤ y5.toInt ∧ y5.toInt < 18446744073709551616 ∧ 128 * y5.toInt ≤ y4.toInt ∧ y4.toInt < 128 * y5.toInt + 128 := by omega
  have e6 := own_sh7 _ _ h6
  have f6 : 0 ≤ y6.toInt ∧ y6.toInt < 18446744073709551616 ∧ 128 * y6.toInt ≤ y5.toInt ∧ y5.toInt < 128 * y6.toInt + 128 := by omega
  have e7 := own_sh7 _ _ h7
  have f7 : 0 ≤ y7.toInt ∧ y7.toInt < 18446744073709551616 ∧ 128 * y7.toInt ≤ y6.toInt ∧ y6.toInt < 128 * y7.toInt + 128 := by omega
  have e8 := own_sh7 _ _ h8
  have f8 : 0 ≤ y8.toInt ∧ y8.toInt < 18446744073709551616 ∧ 128 * y8.toInt ≤ y7.toInt ∧ y7.toInt < 128 * y8.toInt + 128 := by omega
  have e9 := own_sh7 _ _ h9
  have f9 : 0 ≤ y9.toInt ∧ y9.toInt < 18446744073709551616 ∧ 128 * y9.toInt ≤ y8.toInt ∧ y8.toInt < 128 * y9.toInt + 128 := by omega
  have e10 := own_sh7 _ _ h10
  have f10 : 0 ≤ y10.toInt ∧ y10.toInt < 18446744073709551616 ∧ 128 * y10.toInt ≤ y9.toInt ∧ y9.toInt < 128 * y10.toInt + 128 := by omega
  have b1 : y1.toInt < 144115188075855872 := by omega
  have b2 : y2.toInt < 1125899906842624 := by omega
  have b3 : y3.toInt < 8796093022208 := by omega
  have b4 : y4.toInt < 68719476736 := by omega
  have b5 : y5.toInt < 536870912 := by omega
  have b6 : y6.toInt < 4194304 := by omega
  have b7 : y7.toInt < 32768 := by omega
  have b8 : y8.toInt < 256 := by omega
  have b9 : y9.toInt < 2 := by omega
  have b10 : y10.toInt < 1 := by omega
  rw [own_z]; omega
theorem d1_0 : decode prog_84_method_2_code 0 = .ok (.iconst 1, 1) := by decide +kernel
theorem d1_1 : decode prog_84_method_2_code 1 = .ok (.istore_n 2, 1) := by decide +kernel
theorem d1_2 : decode prog_84_method_2_code 2 = .ok (.lload_n 0, 1) := by decide +kernel
theorem d1_3 : decode prog_84_method_2_code 3 = .ok (.bipush 7, 2) := by decide +kernel
theorem d1_5 : decode prog_84_method_2_code 5 = .ok (.lushr, 1) := by decide +kernel
theorem d1_6 : decode prog_84_method_2_code 6 = .ok (.lstore_n 3, 1) := by decide +kernel
theorem d1_7 : decode prog_84_method_2_code 7 = .ok (.lload_n 3, 1) := by decide +kernel
theorem d1_8 : decode prog_84_method_2_code 8 = .ok (.lconst 0, 1) := by decide +kernel
theorem d1_9 : decode prog_84_method_2_code 9 = .ok (.lcmp, 1) := by decide +kernel
theorem d1_10 : decode prog_84_method_2_code 10 = .ok (.ifCond .eq 14, 3) := by decide +kernel
theorem d1_24 : decode prog_84_method_2_code 24 = .ok (.iload_n 2, 1) := by decide +kernel
theorem d1_25 : decode prog_84_method_2_code 25 = .ok (.ireturn, 1) := by decide +kernel
theorem d1_13 : decode prog_84_method_2_code 13 = .ok (.iinc 2 1, 3) := by decide +kernel
theorem d1_16 : decode prog_84_method_2_code 16 = .ok (.lload_n 3, 1) := by decide +kernel
theorem d1_17 : decode prog_84_method_2_code 17 = .ok (.bipush 7, 2) := by decide +kernel
theorem d1_19 : decode prog_84_method_2_code 19 = .ok (.lushr, 1) := by decide +kernel
theorem d1_20 : decode prog_84_method_2_code 20 = .ok (.lstore_n 3, 1) := by decide +kernel
theorem d1_21 : decode prog_84_method_2_code 21 = .ok (.goto (-14), 3) := by decide +kernel
abbrev own_y0 : MethodName := ⟨"com/example/vestwright/vestwright/io/Varint", "size", "(J)I"⟩
theorem ef_rmSize (m : MethodId) (v : Int64) : entryFrame m #[(.long v)] 5 = mkF m 0 #[.val (.long v), .second, .unset, .unset, .unset] [] := by first | (simp [entryFrame, mkF, argsToLocals, Value.category]; done) | rfl
def Q_rmSize (Z : State) (v : Int64) (h0 : Heap) (n0 : Nat) (v_ : Option Value) (h_ : Heap) (L_ : List Loc) : Prop := v_ = some (.int (own_exp v)) ∧ Fr n0 L_ ∧ h_ = h0
theorem pn_0 : plainName "com/example/vestwright/vestwright/io/Varint" = true := by first | (simp [plainName, overriddenIn]; done) | decide +kernel
set_option maxRecDepth 65536 in
set_option maxHeartbeats 40000000 in
theorem rmSize (l : Launch) (Z : State) (a0 : Array Value) (hw : ∀ d ∈ tables_1, d.before a0 Z = true) (ws : List Jvm.Cond) (v : Int64) (h0 : Heap) (n0 : Nat) (Z0 : n0 ≤ h0.size)  :
    MetFree l own_y0 (head1 (Jvm.Cond.code own_y0 prog_84_method_2_code 5 (some .int) :: ws) ({ frames := 0, cells := 0, slots := 0, locals := 0 } : Room)) (fun a_ U_ => a_ = #[(.long v)] ∧ Z.Warmed39 U_.vm ∧ U_.heap = h0) (fun _ _ _ _ _ => True) (fun _ U_ o_ U2_ => ∃ v_ L_, o_ = .returned v_ ∧ Q_rmSize Z v h0 n0 v_ U2_.heap L_ ∧ FrameEnd U_ o_ U2_ L_ ({ frames := 0, cells := 0, slots := 0, locals := 0 } : Room).cells ({ frames := 0, cells := 0, slots := 0, locals := 0 } : Room).slots) := by
  refine MetFree.of_bodySF (plainFor_of_name pn_0) hisR ?_
  intro p e s m args below meth c s₁ Bd hml0 hP hK
  obtain ⟨rfl, hZ, hh⟩ := hP
  have hx := Bd.exec
  have hby := Bd.bytes
  have hml : c.maxLocals = 5 := hml0
  have hown : s.vm.findClass "com/example/vestwright/vestwright/io/Varint" = some m.cls := findClass_of_methodNamed Bd.named
  have hnm := (name_of_methodNamed Bd.named Bd.method).1
  have X0 : Stand p l e ({ frames := 0, cells := 0, slots := 0, locals := 0 } : Room) s m #[(.long v)] below meth c s₁ [] 0 0 := Stand.of_body Bd
  have e0 : s₁.heap = h0 := by rw [← hh, Bd.state]; rfl
  have N0 := Fr.nil n0
  refine own_go (A := s₁.setTop (mkF m 0 #[.val (.long v), .second, .unset, .unset, .unset] [])) (fun t_ k_ => castTop (ef_rmSize m v) k_) ?_
  refine own_go (A := s₁.setTop (mkF m 7 #[.val (.long v), .second, .val (.int (1 : Int32)), .val (.long ((v).toUInt64 >>> ((7 : Int32) &&& 0x3f).toInt64.toUInt64).toInt64), .second] [])) (fun t_ k_ => ?_) ?_
  · show Steps p.tables e below (s₁.setTop (mkF m 0 #[.val (.long v), .second, .unset, .unset, .unset] [])) t_
    refine XS.iconst X0.here hx rfl (hb hby d1_0) ?_
    show Steps p.tables e below (s₁.setTop (mkF m 1 #[.val (.long v), .second, .unset, .unset, .unset] [(.int (1 : Int32))])) t_
    refine XS.istoreN X0.here hx rfl (hb hby d1_1) rfl (l' := #[.val (.long v), .second, .val (.int (1 : Int32)), .unset, .unset]) rfl ?_
    show Steps p.tables e below (s₁.setTop (mkF m 2 #[.val (.long v), .second, .val (.int (1 : Int32)), .unset, .unset] [])) t_
    refine XS.lloadN X0.here hx rfl (hb hby d1_2) rfl ?_
    show Steps p.tables e below (s₁.setTop (mkF m 3 #[.val (.long v), .second, .val (.int (1 : Int32)), .unset, .unset] [(.long v)])) t_
    refine XS.bipush X0.here hx rfl (hb hby d1_3) ?_
    show Steps p.tables e below (s₁.setTop (mkF m 5 #[.val (.long v), .second, .val (.int (1 : Int32)), .unset, .unset] [(.int (7 : Int32)), (.long v)])) t_
    refine XS.lushr X0.here hx rfl (hb hby d1_5) rfl ?_
    show Steps p.tables e below (s₁.setTop (mkF m 6 #[.val (.long v), .second, .val (.int (1 : Int32)), .unset, .unset] [(.long ((v).toUInt64 >>> ((7 : Int32) &&& 0x3f).toInt64.toUInt64).toInt64)])) t_
    refine XS.lstoreN X0.here hx rfl (hb hby d1_6) rfl (l' := #[.val (.long v), .second, .val (.int (1 : Int32)), .val (.long ((v).toUInt64 >>> ((7 : Int32) &&& 0x3f).toInt64.toUInt64).toInt64), .second]) rfl ?_
    exact k_
  obtain ⟨y1, hqy1⟩ : ∃ z : Int64, z = ((v).toUInt64 >>> ((7 : Int32) &&& 0x3f).toInt64.toUInt64).toInt64 := ⟨_, rfl⟩
  rw [← hqy1]
  refine own_go (A := s₁.setTop (mkF m 10 #[.val (.long v), .second, .val (.int (1 : Int32)), .val (.long y1), .second] [(.int (lcmpW y1 (0 : Int64)))])) (fun t_ k_ => ?_) ?_
  · show Steps p.tables e below (s₁.setTop (mkF m 7 #[.val (.long v), .second, .val (.int (1 : Int32)), .val (.long y1), .second] [])) t_
    refine XS.lloadN X0.here hx rfl (hb hby d1_7) rfl ?_
    show Steps p.tables e below (s₁.setTop (mkF m 8 #[.val (.long v), .second, .val (.int (1 : Int32)), .val (.long y1), .second] [(.long y1)])) t_
    refine XS.lconst X0.here hx rfl (hb hby d1_8) ?_
    show Steps p.tables e below (s₁.setTop (mkF m 9 #[.val (.long v), .second, .val (.int (1 : Int32)), .val (.long y1), .second] [(.long (0 : Int64)), (.long y1)])) t_
    refine XS.lcmp X0.here hx rfl (hb hby d1_9) rfl ?_
    exact k_
  by_cases hc10_2 : y1 = (0 : Int64)
  · refine own_go (A := s₁.setTop (mkF m 25 #[.val (.long v), .second, .val (.int (1 : Int32)), .val (.long y1), .second] [(.int (1 : Int32))])) (fun t_ k_ => ?_) ?_
    · show Steps p.tables e below (s₁.setTop (mkF m 10 #[.val (.long v), .second, .val (.int (1 : Int32)), .val (.long y1), .second] [(.int (lcmpW y1 (0 : Int64)))])) t_
      refine XS.ifYes X0.here hx rfl (pc0 := 10) (pc' := 24) rfl (hb hby d1_10) rfl ((if0 _ _).trans (teq ((lw_eq _ _).mpr hc10_2)).1) (by decide) (by decide) ?_
      show Steps p.tables e below (s₁.setTop (mkF m 24 #[.val (.long v), .second, .val (.int (1 : Int32)), .val (.long y1), .second] [])) t_
      refine XS.iloadN X0.here hx rfl (hb hby d1_24) rfl ?_
      exact k_
    obtain ⟨fs3, hr3, hrun3, hended3, hW3, hsame3⟩ := X0.leave (v := some (.int (1 : Int32))) (fun h => by rw [Bd.returns] at h; cases h)
    refine ⟨_, _, ?_, hrun3, hended3, _, _, rfl, ?_, ⟨_, rfl⟩, hW3, hsame3.mono (by decide) (by decide)⟩
    · exact own_retI X0 hx Bd.returns (hb hby d1_25) hr3
    · show Q_rmSize Z v h0 n0 _ s₁.heap _
      rw [e0]
      exact ⟨(congrArg (fun z => some (Value.int z)) (own_leaf1 v y1 hqy1 hc10_2 ).symm), N0, rfl⟩
  · refine own_go (A := s₁.setTop (mkF m 7 #[.val (.long v), .second, .val (.int (2 : Int32)), .val (.long ((y1).toUInt64 >>> ((7 : Int32) &&& 0x3f).toInt64.toUInt64).toInt64), .second] [])) (fun t_ k_ => ?_) ?_
    · show Steps p.tables e below (s₁.setTop (mkF m 10 #[.val (.long v), .second, .val (.int (1 : Int32)), .val (.long y1), .second] [(.int (lcmpW y1 (0 : Int64)))])) t_
      refine XS.ifNo X0.here hx rfl (hb hby d1_10) rfl ((if0 _ _).trans (feq (fun q => hc10_2 ((lw_eq _ _).mp q))).1) ?_
      show Steps p.tables e below (s₁.setTop (mkF m 13 #[.val (.long v), .second, .val (.int (1 : Int32)), .val (.long y1), .second] [])) t_
      refine XS.iinc X0.here hx rfl (hb hby d1_13) rfl (l' := #[.val (.long v), .second, .val (.int (2 : Int32)), .val (.long y1), .second]) rfl ?_
      show Steps p.tables e below (s₁.setTop (mkF m 16 #[.val (.long v), .second, .val (.int (2 : Int32)), .val (.long y1), .second] [])) t_
      refine XS.lloadN X0.here hx rfl (hb hby d1_16) rfl ?_
      show Steps p.tables e below (s₁.setTop (mkF m 17 #[.val (.long v), .second, .val (.int (2 : Int32)), .val (.long y1), .second] [(.long y1)])) t_
      refine XS.bipush X0.here hx rfl (hb hby d1_17) ?_
      show Steps p.tables e below (s₁.setTop (mkF m 19 #[.val (.long v), .second, .val (.int (2 : Int32)), .val (.long y1), .second] [(.int (7 : Int32)), (.long y1)])) t_
      refine XS.lushr X0.here hx rfl (hb hby d1_19) rfl ?_
      show Steps p.tables e below (s₁.setTop (mkF m 20 #[.val (.long v), .second, .val (.int (2 : Int32)), .val (.long y1), .second] [(.long ((y1).toUInt64 >>> ((7 : Int32) &&& 0x3f).toInt64.toUInt64).toInt64)])) t_
      refine XS.lstoreN X0.here hx rfl (hb hby d1_20) rfl (l' := #[.val (.long v), .second, .val (.int (2 : Int32)), .val (.long ((y1).toUInt64 >>> ((7 : Int32) &&& 0x3f).toInt64.toUInt64).toInt64), .second]) rfl ?_
      show Steps p.tables e below (s₁.setTop (mkF m 21 #[.val (.long v), .second, .val (.int (2 : Int32)), .val (.long ((y1).toUInt64 >>> ((7 : Int32) &&& 0x3f).toInt64.toUInt64).toInt64), .second] [])) t_
      refine XS.goto X0.here hx rfl (pc0 := 21) (pc' := 7) rfl (hb hby d1_21) (by decide) (by decide) ?_
      exact k_
    obtain ⟨y4, hqy4⟩ : ∃ z : Int64, z = ((y1).toUInt64 >>> ((7 : Int32) &&& 0x3f).toInt64.toUInt64).toInt64 := ⟨_, rfl⟩
    rw [← hqy4]
    refine own_go (A := s₁.setTop (mkF m 10 #[.val (.long v), .second, .val (.int (2 : Int32)), .val (.long y4), .second] [(.int (lcmpW y4 (0 : Int64)))])) (fun t_ k_ => ?_) ?_
    · show Steps p.tables e below (s₁.setTop (mkF m 7 #[.val (.long v), .second, .val (.int (2 : Int32)), .val (.long y4), .second] [])) t_
      refine XS.lloadN X0.here hx rfl (hb hby d1_7) rfl ?_
      show Steps p.tables e below (s₁.setTop (mkF m 8 #[.val (.long v), .second, .val (.int (2 : Int32)), .val (.long y4), .second] [(.long y4)])) t_
      refine XS.lconst X0.here hx rfl (hb hby d1_8) ?_
      show Steps p.tables e below (s₁.setTop (mkF m 9 #[.val (.long v), .second, .val (.int (2 : Int32)), .val (.long y4), .second] [(.long (0 : Int64)), (.long y4)])) t_
      refine XS.lcmp X0.here hx rfl (hb hby d1_9) rfl ?_
      exact k_
    by_cases hc10_5 : y4 = (0 : Int64)
    · refine own_go (A := s₁.setTop (mkF m 25 #[.val (.long v), .second, .val (.int (2 : Int32)), .val (.long y4), .second] [(.int (2 : Int32))])) (fun t_ k_ => ?_) ?_
      · show Steps p.tables e below (s₁.setTop (mkF m 10 #[.val (.long v), .second, .val (.int (2 : Int32)), .val (.long y4), .second] [(.int (lcmpW y4 (0 : Int64)))])) t_
        refine XS.ifYes X0.here hx rfl (pc0 := 10) (pc' := 24) rfl (hb hby d1_10) rfl ((if0 _ _).trans (teq ((lw_eq _ _).mpr hc10_5)).1) (by decide) (by decide) ?_
        show Steps p.tables e below (s₁.setTop (mkF m 24 #[.val (.long v), .second, .val (.int (2 : Int32)), .val (.long y4), .second] [])) t_
        refine XS.iloadN X0.here hx rfl (hb hby d1_24) rfl ?_
        exact k_
      obtain ⟨fs6, hr6, hrun6, hended6, hW6, hsame6⟩ := X0.leave (v := some (.int (2 : Int32))) (fun h => by rw [Bd.returns] at h; cases h)
      refine ⟨_, _, ?_, hrun6, hended6, _, _, rfl, ?_, ⟨_, rfl⟩, hW6, hsame6.mono (by decide) (by decide)⟩
      · exact own_retI X0 hx Bd.returns (hb hby d1_25) hr6
      · show Q_rmSize Z v h0 n0 _ s₁.heap _
        rw [e0]
        exact ⟨(congrArg (fun z => some (Value.int z)) (own_leaf2 v y1 y4 hqy1 hqy4 hc10_5 hc10_2).symm), N0, rfl⟩
    · refine own_go (A := s₁.setTop (mkF m 7 #[.val (.long v), .second, .val (.int (3 : Int32)), .val (.long ((y4).toUInt64 >>> ((7 : Int32) &&& 0x3f).toInt64.toUInt64).toInt64), .second] [])) (fun t_ k_ => ?_) ?_
      · show Steps p.tables e below (s₁.setTop (mkF m 10 #[.val (.long v), .second, .val (.int (2 : Int32)), .val (.long y4), .second] [(.int (lcmpW y4 (0 : Int64)))])) t_
        refine XS.ifNo X0.here hx rfl (hb hby d1_10) rfl ((if0 _ _).trans (feq (fun q => hc10_5 ((lw_eq _ _).mp q))).1) ?_
        show Steps p.tables e below (s₁.setTop (mkF m 13 #[.val (.long v), .second, .val (.int (2 : Int32)), .val (.long y4), .second] [])) t_
        refine XS.iinc X0.here hx rfl (hb hby d1_13) rfl (l' := #[.val (.long v), .second, .val (.int (3 : Int32)), .val (.long y4), .second]) rfl ?_
        show Steps p.tables e below (s₁.setTop (mkF m 16 #[.val (.long v), .second, .val (.int (3 : Int32)), .val (.long y4), .second] [])) t_
        refine XS.lloadN X0.here hx rfl (hb hby d1_16) rfl ?_
        show Steps p.tables e below (s₁.setTop (mkF m 17 #[.val (.long v), .second, .val (.int (3 : Int32)), .val (.long y4), .second] [(.long y4)])) t_
        refine XS.bipush X0.here hx rfl (hb hby d1_17) ?_
        show Steps p.tables e below (s₁.setTop (mkF m 19 #[.val (.long v), .second, .val (.int (3 : Int32)), .val (.long y4), .second] [(.int (7 : Int32)), (.long y4)])) t_
        refine XS.lushr X0.here hx rfl (hb hby d1_19) rfl ?_
        show Steps p.tables e below (s₁.setTop (mkF m 20 #[.val (.long v), .second, .val (.int (3 : Int32)), .val (.long y4), .second] [(.long ((y4).toUInt64 >>> ((7 : Int32) &&& 0x3f).toInt64.toUInt64).toInt64)])) t_
        refine XS.lstoreN X0.here hx rfl (hb hby d1_20) rfl (l' := #[.val (.long v), .second, .val (.int (3 : Int32)), .val (.long ((y4).toUInt64 >>> ((7 : Int32) &&& 0x3f).toInt64.toUInt64).toInt64), .second]) rfl ?_
        show Steps p.tables e below (s₁.setTop (mkF m 21 #[.val (.long v), .second, .val (.int (3 : Int32)), .val (.long ((y4).toUInt64 >>> ((7 : Int32) &&& 0x3f).toInt64.toUInt64).toInt64), .second] [])) t_
        refine XS.goto X0.here hx rfl (pc0 := 21) (pc' := 7) rfl (hb hby d1_21) (by decide) (by decide) ?_
        exact k_
      obtain ⟨y7, hqy7⟩ : ∃ z : Int64, z = ((y4).toUInt64 >>> ((7 : Int32) &&& 0x3f).toInt64.toUInt64).toInt64 := ⟨_, rfl⟩
      rw [← hqy7]
      refine own_go (A := s₁.setTop (mkF m 10 #[.val (.long v), .second, .val (.int (3 : Int32)), .val (.long y7), .second] [(.int (lcmpW y7 (0 : Int64)))])) (fun t_ k_ => ?_) ?_
      · show Steps p.tables e below (s₁.setTop (mkF m 7 #[.val (.long v), .second, .val (.int (3 : Int32)), .val (.long y7), .second] [])) t_
        refine XS.lloadN X0.here hx rfl (hb hby d1_7) rfl ?_
        show Steps p.tables e below (s₁.setTop (mkF m 8 #[.val (.long v), .second, .val (.int (3 : Int32)), .val (.long y7), .second] [(.long y7)])) t_
        refine XS.lconst X0.here hx rfl (hb hby d1_8) ?_
        show Steps p.tables e below (s₁.setTop (mkF m 9 #[.val (.long v), .second, .val (.int (3 : Int32)), .val (.long y7), .second] [(.long (0 : Int64)), (.long y7)])) t_
        refine XS.lcmp X0.here hx rfl (hb hby d1_9) rfl ?_
        exact k_
      by_cases hc10_8 : y7 = (0 : Int64)
      · refine own_go (A := s₁.setTop (mkF m 25 #[.val (.long v), .second, .val (.int (3 : Int32)), .val (.long y7), .second] [(.int (3 : Int32))])) (fun t_ k_ => ?_) ?_
        · show Steps p.tables e below (s₁.setTop (mkF m 10 #[.val (.long v), .second, .val (.int (3 : Int32)), .val (.long y7), .second] [(.int (lcmpW y7 (0 : Int64)))])) t_
          refine XS.ifYes X0.here hx rfl (pc0 := 10) (pc' := 24) rfl (hb hby d1_10) rfl ((if0 _ _).trans (teq ((lw_eq _ _).mpr hc10_8)).1) (by decide) (by decide) ?_
          show Steps p.tables e below (s₁.setTop (mkF m 24 #[.val (.long v), .second, .val (.int (3 : Int32)), .val (.long y7), .second] [])) t_
          refine XS.iloadN X0.here hx rfl (hb hby d1_24) rfl ?_
          exact k_
        obtain ⟨fs9, hr9, hrun9, hended9, hW9, hsame9⟩ := X0.leave (v := some (.int (3 : Int32))) (fun h => by rw [Bd.returns] at h; cases h)
        refine ⟨_, _, ?_, hrun9, hended9, _, _, rfl, ?_, ⟨_, rfl⟩, hW9, hsame9.mono (by decide) (by decide)⟩
        · exact own_retI X0 hx Bd.returns (hb hby d1_25) hr9
        · show Q_rmSize Z v h0 n0 _ s₁.heap _
          rw [e0]
          exact ⟨(congrArg (fun z => some (Value.int z)) (own_leaf3 v y1 y4 y7 hqy1 hqy4 hqy7 hc10_8 hc10_5).symm), N0, rfl⟩
      · refine own_go (A := s₁.setTop (mkF m 7 #[.val (.long v), .second, .val (.int (4 : Int32)), .val (.long ((y7).toUInt64 >>> ((7 : Int32) &&& 0x3f).toInt64.toUInt64).toInt64), .second] [])) (fun t_ k_ => ?_) ?_
        · show Steps p.tables e below (s₁.setTop (mkF m 10 #[.val (.long v), .second, .val (.int (3 : Int32)), .val (.long y7), .second] [(.int (lcmpW y7 (0 : Int64)))])) t_
          refine XS.ifNo X0.here hx rfl (hb hby d1_10) rfl ((if0 _ _).trans (feq (fun q => hc10_8 ((lw_eq _ _).mp q))).1) ?_
          show Steps p.tables e below (s₁.setTop (mkF m 13 #[.val (.long v), .second, .val (.int (3 : Int32)), .val (.long y7), .second] [])) t_
          refine XS.iinc X0.here hx rfl (hb hby d1_13) rfl (l' := #[.val (.long v), .second, .val (.int (4 : Int32)), .val (.long y7), .second]) rfl ?_
          show Steps p.tables e below (s₁.setTop (mkF m 16 #[.val (.long v), .second, .val (.int (4 : Int32)), .val (.long y7), .second] [])) t_
          refine XS.lloadN X0.here hx rfl (hb hby d1_16) rfl ?_
          show Steps p.tables e below (s₁.setTop (mkF m 17 #[.val (.long v), .second, .val (.int (4 : Int32)), .val (.long y7), .second] [(.long y7)])) t_
          refine XS.bipush X0.here hx rfl (hb hby d1_17) ?_
          show Steps p.tables e below (s₁.setTop (mkF m 19 #[.val (.long v), .second, .val (.int (4 : Int32)), .val (.long y7), .second] [(.int (7 : Int32)), (.long y7)])) t_
          refine XS.lushr X0.here hx rfl (hb hby d1_19) rfl ?_
          show Steps p.tables e below (s₁.setTop (mkF m 20 #[.val (.long v), .second, .val (.int (4 : Int32)), .val (.long y7), .second] [(.long ((y7).toUInt64 >>> ((7 : Int32) &&& 0x3f).toInt64.toUInt64).toInt64)])) t_
          refine XS.lstoreN X0.here hx rfl (hb hby d1_20) rfl (l' := #[.val (.long v), .second, .val (.int (4 : Int32)), .val (.long ((y7).toUInt64 >>> ((7 : Int32) &&& 0x3f).toInt64.toUInt64).toInt64), .second]) rfl ?_
          show Steps p.tables e below (s₁.setTop (mkF m 21 #[.val (.long v), .second, .val (.int (4 : Int32)), .val (.long ((y7).toUInt64 >>> ((7 : Int32) &&& 0x3f).toInt64.toUInt64).toInt64), .second] [])) t_
          refine XS.goto X0.here hx rfl (pc0 := 21) (pc' := 7) rfl (hb hby d1_21) (by decide) (by decide) ?_
          exact k_
        obtain ⟨y10, hqy10⟩ : ∃ z : Int64, z = ((y7).toUInt64 >>> ((7 : Int32) &&& 0x3f).toInt64.toUInt64).toInt64 := ⟨_, rfl⟩
        rw [← hqy10]
        refine own_go (A := s₁.setTop (mkF m 10 #[.val (.long v), .second, .val (.int (4 : Int32)), .val (.long y10), .second] [(.int (lcmpW y10 (0 : Int64)))])) (fun t_ k_ => ?_) ?_
        · show Steps p.tables e below (s₁.setTop (mkF m 7 #[.val (.long v), .second, .val (.int (4 : Int32)), .val (.long y10), .second] [])) t_
          refine XS.lloadN X0.here hx rfl (hb hby d1_7) rfl ?_
          show Steps p.tables e below (s₁.setTop (mkF m 8 #[.val (.long v), .second, .val (.int (4 : Int32)), .val (.long y10), .second] [(.long y10)])) t_
          refine XS.lconst X0.here hx rfl (hb hby d1_8) ?_
          show Steps p.tables e below (s₁.setTop (mkF m 9 #[.val (.long v), .second, .val (.int (4 : Int32)), .val (.long y10), .second] [(.long (0 : Int64)), (.long y10)])) t_
          refine XS.lcmp X0.here hx rfl (hb hby d1_9) rfl ?_
          exact k_
        by_cases hc10_11 : y10 = (0 : Int64)
        · refine own_go (A := s₁.setTop (mkF m 25 #[.val (.long v), .second, .val (.int (4 : Int32)), .val (.long y10), .second] [(.int (4 : Int32))])) (fun t_ k_ => ?_) ?_
          · show Steps p.tables e below (s₁.setTop (mkF m 10 #[.val (.long v), .second, .val (.int (4 : Int32)), .val (.long y10), .second] [(.int (lcmpW y10 (0 : Int64)))])) t_
            refine XS.ifYes X0.here hx rfl (pc0 := 10) (pc' := 24) rfl (hb hby d1_10) rfl ((if0 _ _).trans (teq ((lw_eq _ _).mpr hc10_11)).1) (by decide) (by decide) ?_
            show Steps p.tables e below (s₁.setTop (mkF m 24 #[.val (.long v), .second, .val (.int (4 : Int32)), .val (.long y10), .second] [])) t_
            refine XS.iloadN X0.here hx rfl (hb hby d1_24) rfl ?_
            exact k_
          obtain ⟨fs12, hr12, hrun12, hended12, hW12, hsame12⟩ := X0.leave (v := some (.int (4 : Int32))) (fun h => by rw [Bd.returns] at h; cases h)
          refine ⟨_, _, ?_, hrun12, hended12, _, _, rfl, ?_, ⟨_, rfl⟩, hW12, hsame12.mono (by decide) (by decide)⟩
          · exact own_retI X0 hx Bd.returns (hb hby d1_25) hr12
          · show Q_rmSize Z v h0 n0 _ s₁.heap _
            rw [e0]
            exact ⟨(congrArg (fun z => some (Value.int z)) (own_leaf4 v y1 y4 y7 y10 hqy1 hqy4 hqy7 hqy10 hc10_11 hc10_8).symm), N0, rfl⟩
        · refine own_go (A := s₁.setTop (mkF m 7 #[.val (.long v), .second, .val (.int (5 : Int32)), .val (.long ((y10).toUInt64 >>> ((7 : Int32) &&& 0x3f).toInt64.toUInt64).toInt64), .second] [])) (fun t_ k_ => ?_) ?_
          · show Steps p.tables e below (s₁.setTop (mkF m 10 #[.val (.long v), .second, .val (.int (4 : Int32)), .val (.long y10), .second] [(.int (lcmpW y10 (0 : Int64)))])) t_
            refine XS.ifNo X0.here hx rfl (hb hby d1_10) rfl ((if0 _ _).trans (feq (fun q => hc10_11 ((lw_eq _ _).mp q))).1) ?_
            show Steps p.tables e below (s₁.setTop (mkF m 13 #[.val (.long v), .second, .val (.int (4 : Int32)), .val (.long y10), .second] [])) t_
            refine XS.iinc X0.here hx rfl (hb hby d1_13) rfl (l' := #[.val (.long v), .second, .val (.int (5 : Int32)), .val (.long y10), .second]) rfl ?_
            show Steps p.tables e below (s₁.setTop (mkF m 16 #[.val (.long v), .second, .val (.int (5 : Int32)), .val (.long y10), .second] [])) t_
            refine XS.lloadN X0.here hx rfl (hb hby d1_16) rfl ?_
            show Steps p.tables e below (s₁.setTop (mkF m 17 #[.val (.long v), .second, .val (.int (5 : Int32)), .val (.long y10), .second] [(.long y10)])) t_
            refine XS.bipush X0.here hx rfl (hb hby d1_17) ?_
            show Steps p.tables e below (s₁.setTop (mkF m 19 #[.val (.long v), .second, .val (.int (5 : Int32)), .val (.long y10), .second] [(.int (7 : Int32)), (.long y10)])) t_
            refine XS.lushr X0.here hx rfl (hb hby d1_19) rfl ?_
            show Steps p.tables e below (s₁.setTop (mkF m 20 #[.val (.long v), .second, .val (.int (5 : Int32)), .val (.long y10), .second] [(.long ((y10).toUInt64 >>> ((7 : Int32) &&& 0x3f).toInt64.toUInt64).toInt64)])) t_
            refine XS.lstoreN X0.here hx rfl (hb hby d1_20) rfl (l' := #[.val (.long v), .second, .val (.int (5 : Int32)), .val (.long ((y10).toUInt64 >>> ((7 : Int32) &&& 0x3f).toInt64.toUInt64).toInt64), .second]) rfl ?_
            show Steps p.tables e below (s₁.setTop (mkF m 21 #[.val (.long v), .second, .val (.int (5 : Int32)), .val (.long ((y10).toUInt64 >>> ((7 : Int32) &&& 0x3f).toInt64.toUInt64).toInt64), .second] [])) t_
            refine XS.goto X0.here hx rfl (pc0 := 21) (pc' := 7) rfl (hb hby d1_21) (by decide) (by decide) ?_
            exact k_
          obtain ⟨y13, hqy13⟩ : ∃ z : Int64, z = ((y10).toUInt64 >>> ((7 : Int32) &&& 0x3f).toInt64.toUInt64).toInt64 := ⟨_, rfl⟩
          rw [← hqy13]
          refine own_go (A := s₁.setTop (mkF m 10 #[.val (.long v), .second, .val (.int (5 : Int32)), .val (.long y13), .second] [(.int (lcmpW y13 (0 : Int64)))])) (fun t_ k_ => ?_) ?_
          · show Steps p.tables e below (s₁.setTop (mkF m 7 #[.val (.long v), .second, .val (.int (5 : Int32)), .val (.long y13), .second] [])) t_
            refine XS.lloadN X0.here hx rfl (hb hby d1_7) rfl ?_
            show Steps p.tables e below (s₁.setTop (mkF m 8 #[.val (.long v), .second, .val (.int (5 : Int32)), .val (.long y13), .second] [(.long y13)])) t_
            refine XS.lconst X0.here hx rfl (hb hby d1_8) ?_
            show Steps p.tables e below (s₁.setTop (mkF m 9 #[.val (.long v), .second, .val (.int (5 : Int32)), .val (.long y13), .second] [(.long (0 : Int64)), (.long y13)])) t_
            refine XS.lcmp X0.here hx rfl (hb hby d1_9) rfl ?_
            exact k_
          by_cases hc10_14 : y13 = (0 : Int64)
          · refine own_go (A := s₁.setTop (mkF m 25 #[.val (.long v), .second, .val (.int (5 : Int32)), .val (.long y13), .second] [(.int (5 : Int32))])) (fun t_ k_ => ?_) ?_
            · show Steps p.tables e below (s₁.setTop (mkF m 10 #[.val (.long v), .second, .val (.int (5 : Int32)), .val (.long y13), .second] [(.int (lcmpW y13 (0 : Int64)))])) t_
              refine XS.ifYes X0.here hx rfl (pc0 := 10) (pc' := 24) rfl (hb hby d1_10) rfl ((if0 _ _).trans (teq ((lw_eq _ _).mpr hc10_14)).1) (by decide) (by decide) ?_
              show Steps p.tables e below (s₁.setTop (mkF m 24 #[.val (.long v), .second, .val (.int (5 : Int32)), .val (.long y13), .second] [])) t_
              refine XS.iloadN X0.here hx rfl (hb hby d1_24) rfl ?_
              exact k_
            obtain ⟨fs15, hr15, hrun15, hended15, hW15, hsame15⟩ := X0.leave (v := some (.int (5 : Int32))) (fun h => by rw [Bd.returns] at h; cases h)
            refine ⟨_, _, ?_, hrun15, hended15, _, _, rfl, ?_, ⟨_, rfl⟩, hW15, hsame15.mono (by decide) (by decide)⟩
            · exact own_retI X0 hx Bd.returns (hb hby d1_25) hr15
            · show Q_rmSize Z v h0 n0 _ s₁.heap _
              rw [e0]
              exact ⟨(congrArg (fun z => some (Value.int z)) (own_leaf5 v y1 y4 y7 y10 y13 hqy1 hqy4 hqy7 hqy10 hqy13 hc10_14 hc10_11).symm), N0, rfl⟩
          · refine own_go (A := s₁.setTop (mkF m 7 #[.val (.long v), .second, .val (.int (6 : Int32)), .val (.long ((y13).toUInt64 >>> ((7 : Int32) &&& 0x3f).toInt64.toUInt64).toInt64), .second] [])) (fun t_ k_ => ?_) ?_
            · show Steps p.tables e below (s₁.setTop (mkF m 10 #[.val (.long v), .second, .val (.int (5 : Int32)), .val (.long y13), .second] [(.int (lcmpW y13 (0 : Int64)))])) t_
              refine XS.ifNo X0.here hx rfl (hb hby d1_10) rfl ((if0 _ _).trans (feq (fun q => hc10_14 ((lw_eq _ _).mp q))).1) ?_
              show Steps p.tables e below (s₁.setTop (mkF m 13 #[.val (.long v), .second, .val (.int (5 : Int32)), .val (.long y13), .second] [])) t_
              refine XS.iinc X0.here hx rfl (hb hby d1_13) rfl (l' := #[.val (.long v), .second, .val (.int (6 : Int32)), .val (.long y13), .second]) rfl ?_
              show Steps p.tables e below (s₁.setTop (mkF m 16 #[.val (.long v), .second, .val (.int (6 : Int32)), .val (.long y13), .second] [])) t_
              refine XS.lloadN X0.here hx rfl (hb hby d1_16) rfl ?_
              show Steps p.tables e below (s₁.setTop (mkF m 17 #[.val (.long v), .second, .val (.int (6 : Int32)), .val (.long y13), .second] [(.long y13)])) t_
              refine XS.bipush X0.here hx rfl (hb hby d1_17) ?_
              show Steps p.tables e below (s₁.setTop (mkF m 19 #[.val (.long v), .second, .val (.int (6 : Int32)), .val (.long y13), .second] [(.int (7 : Int32)), (.long y13)])) t_
              refine XS.lushr X0.here hx rfl (hb hby d1_19) rfl ?_
              show Steps p.tables e below (s₁.setTop (mkF m 20 #[.val (.long v), .second, .val (.int (6 : Int32)), .val (.long y13), .second] [(.long ((y13).toUInt64 >>> ((7 : Int32) &&& 0x3f).toInt64.toUInt64).toInt64)])) t_
              refine XS.lstoreN X0.here hx rfl (hb hby d1_20) rfl (l' := #[.val (.long v), .second, .val (.int (6 : Int32)), .val (.long ((y13).toUInt64 >>> ((7 : Int32) &&& 0x3f).toInt64.toUInt64).toInt64), .second]) rfl ?_
              show Steps p.tables e below (s₁.setTop (mkF m 21 #[.val (.long v), .second, .val (.int (6 : Int32)), .val (.long ((y13).toUInt64 >>> ((7 : Int32) &&& 0x3f).toInt64.toUInt64).toInt64), .second] [])) t_
              refine XS.goto X0.here hx rfl (pc0 := 21) (pc' := 7) rfl (hb hby d1_21) (by decide) (by decide) ?_
              exact k_
            obtain ⟨y16, hqy16⟩ : ∃ z : Int64, z = ((y13).toUInt64 >>> ((7 : Int32) &&& 0x3f).toInt64.toUInt64).toInt64 := ⟨_, rfl⟩
            rw [← hqy16]
            refine own_go (A := s₁.setTop (mkF m 10 #[.val (.long v), .second, .val (.int (6 : Int32)), .val (.long y16), .second] [(.int (lcmpW y16 (0 : Int64)))])) (fun t_ k_ => ?_) ?_
            · show Steps p.tables e below (s₁.setTop (mkF m 7 #[.val (.long v), .second, .val (.int (6 : Int32)), .val (.long y16), .second] [])) t_
              refine XS.lloadN X0.here hx rfl (hb hby d1_7) rfl ?_
              show Steps p.tables e below (s₁.setTop (mkF m 8 #[.val (.long v), .second, .val (.int (6 : Int32)), .val (.long y16), .second] [(.long y16)])) t_
              refine XS.lconst X0.here hx rfl (hb hby d1_8) ?_
              show Steps p.tables e below (s₁.setTop (mkF m 9 #[.val (.long v), .second, .val (.int (6 : Int32)), .val (.long y16), .second] [(.long (0 : Int64)), (.long y16)])) t_
              refine XS.lcmp X0.here hx rfl (hb hby d1_9) rfl ?_
              exact k_
            by_cases hc10_17 : y16 = (0 : Int64)
            · refine own_go (A := s₁.setTop (mkF m 25 #[.val (.long v), .second, .val (.int (6 : Int32)), .val (.long y16), .second] [(.int (6 : Int32))])) (fun t_ k_ => ?_) ?_
              · show Steps p.tables e below (s₁.setTop (mkF m 10 #[.val (.long v), .second, .val (.int (6 : Int32)), .val (.long y16), .second] [(.int (lcmpW y16 (0 : Int64)))])) t_
                refine XS.ifYes X0.here hx rfl (pc0 := 10) (pc' := 24) rfl (hb hby d1_10) rfl ((if0 _ _).trans (teq ((lw_eq _ _).mpr hc10_17)).1) (by decide) (by decide) ?_
                show Steps p.tables e below (s₁.setTop (mkF m 24 #[.val (.long v), .second, .val (.int (6 : Int32)), .val (.long y16), .second] [])) t_
                refine XS.iloadN X0.here hx rfl (hb hby d1_24) rfl ?_
                exact k_
              obtain ⟨fs18, hr18, hrun18, hended18, hW18, hsame18⟩ := X0.leave (v := some (.int (6 : Int32))) (fun h => by rw [Bd.returns] at h; cases h)
              refine ⟨_, _, ?_, hrun18, hended18, _, _, rfl, ?_, ⟨_, rfl⟩, hW18, hsame18.mono (by decide) (by decide)⟩
              · exact own_retI X0 hx Bd.returns (hb hby d1_25) hr18
              · show Q_rmSize Z v h0 n0 _ s₁.heap _
                rw [e0]
                exact ⟨(congrArg (fun z => some (Value.int z)) (own_leaf6 v y1 y4 y7 y10 y13 y16 hqy1 hqy4 hqy7 hqy10 hqy13 hqy16 hc10_17 hc10_14).symm), N0, rfl⟩
            · refine own_go (A := s₁.setTop (mkF m 7 #[.val (.long v), .second, .val (.int (7 : Int32)), .val (.long ((y16).toUInt64 >>> ((7 : Int32) &&& 0x3f).toInt64.toUInt64).toInt64), .second] [])) (fun t_ k_ => ?_) ?_
              · show Steps p.tables e below (s₁.setTop (mkF m 10 #[.val (.long v), .second, .val (.int (6 : Int32)), .val (.long y16), .second] [(.int (lcmpW y16 (0 : Int64)))])) t_
                refine XS.ifNo X0.here hx rfl (hb hby d1_10) rfl ((if0 _ _).trans (feq (fun q => hc10_17 ((lw_eq _ _).mp q))).1) ?_
                show Steps p.tables e below (s₁.setTop (mkF m 13 #[.val (.long v), .second, .val (.int (6 : Int32)), .val (.long y16), .second] [])) t_
                refine XS.iinc X0.here hx rfl (hb hby d1_13) rfl (l' := #[.val (.long v), .second, .val (.int (7 : Int32)), .val (.long y16), .second]) rfl ?_
                show Steps p.tables e below (s₁.setTop (mkF m 16 #[.val (.long v), .second, .val (.int (7 : Int32)), .val (.long y16), .second] [])) t_
                refine XS.lloadN X0.here hx rfl (hb hby d1_16) rfl ?_
                show Steps p.tables e below (s₁.setTop (mkF m 17 #[.val (.long v), .second, .val (.int (7 : Int32)), .val (.long y16), .second] [(.long y16)])) t_
                refine XS.bipush X0.here hx rfl (hb hby d1_17) ?_
                show Steps p.tables e below (s₁.setTop (mkF m 19 #[.val (.long v), .second, .val (.int (7 : Int32)), .val (.long y16), .second] [(.int (7 : Int32)), (.long y16)])) t_
                refine XS.lushr X0.here hx rfl (hb hby d1_19) rfl ?_
                show Steps p.tables e below (s₁.setTop (mkF m 20 #[.val (.long v), .second, .val (.int (7 : Int32)), .val (.long y16), .second] [(.long ((y16).toUInt64 >>> ((7 : Int32) &&& 0x3f).toInt64.toUInt64).toInt64)])) t_
                refine XS.lstoreN X0.here hx rfl (hb hby d1_20) rfl (l' := #[.val (.long v), .second, .val (.int (7 : Int32)), .val (.long ((y16).toUInt64 >>> ((7 : Int32) &&& 0x3f).toInt64.toUInt64).toInt64), .second]) rfl ?_
                show Steps p.tables e below (s₁.setTop (mkF m 21 #[.val (.long v), .second, .val (.int (7 : Int32)), .val (.long ((y16).toUInt64 >>> ((7 : Int32) &&& 0x3f).toInt64.toUInt64).toInt64), .second] [])) t_
                refine XS.goto X0.here hx rfl (pc0 := 21) (pc' := 7) rfl (hb hby d1_21) (by decide) (by decide) ?_
                exact k_
              obtain ⟨y19, hqy19⟩ : ∃ z : Int64, z = ((y16).toUInt64 >>> ((7 : Int32) &&& 0x3f).toInt64.toUInt64).toInt64 := ⟨_, rfl⟩
              rw [← hqy19]
              refine own_go (A := s₁.setTop (mkF m 10 #[.val (.long v), .second, .val (.int (7 : Int32)), .val (.long y19), .second] [(.int (lcmpW y19 (0 : Int64)))])) (fun t_ k_ => ?_) ?_
              · show Steps p.tables e below (s₁.setTop (mkF m 7 #[.val (.long v), .second, .val (.int (7 : Int32)), .val (.long y19), .second] [])) t_
                refine XS.lloadN X0.here hx rfl (hb hby d1_7) rfl ?_
                show Steps p.tables e below (s₁.setTop (mkF m 8 #[.val (.long v), .second, .val (.int (7 : Int32)), .val (.long y19), .second] [(.long y19)])) t_
                refine XS.lconst X0.here hx rfl (hb hby d1_8) ?_
                show Steps p.tables e below (s₁.setTop (mkF m 9 #[.val (.long v), .second, .val (.int (7 : Int32)), .val (.long y19), .second] [(.long (0 : Int64)), (.long y19)])) t_
                refine XS.lcmp X0.here hx rfl (hb hby d1_9) rfl ?_
                exact k_
              by_cases hc10_20 : y19 = (0 : Int64)
              · refine own_go (A := s₁.setTop (mkF m 25 #[.val (.long v), .second, .val (.int (7 : Int32)), .val (.long y19), .second] [(.int (7 : Int32))])) (fun t_ k_ => ?_) ?_
                · show Steps p.tables e below (s₁.setTop (mkF m 10 #[.val (.long v), .second, .val (.int (7 : Int32)), .val (.long y19), .second] [(.int (lcmpW y19 (0 : Int64)))])) t_
                  refine XS.ifYes X0.here hx rfl (pc0 := 10) (pc' := 24) rfl (hb hby d1_10) rfl ((if0 _ _).trans (teq ((lw_eq _ _).mpr hc10_20)).1) (by decide) (by decide) ?_
                  show Steps p.tables e below (s₁.setTop (mkF m 24 #[.val (.long v), .second, .val (.int (7 : Int32)), .val (.long y19), .second] [])) t_
                  refine XS.iloadN X0.here hx rfl (hb hby d1_24) rfl ?_
                  exact k_
                obtain ⟨fs21, hr21, hrun21, hended21, hW21, hsame21⟩ := X0.leave (v := some (.int (7 : Int32))) (fun h => by rw [Bd.returns] at h; cases h)
                refine ⟨_, _, ?_, hrun21, hended21, _, _, rfl, ?_, ⟨_, rfl⟩, hW21, hsame21.mono (by decide) (by decide)⟩
                · exact own_retI X0 hx Bd.returns (hb hby d1_25) hr21
                · show Q_rmSize Z v h0 n0 _ s₁.heap _
                  rw [e0]
                  exact ⟨(congrArg (fun z => some (Value.int z)) (own_leaf7 v y1 y4 y7 y10 y13 y16 y19 hqy1 hqy4 hqy7 hqy10 hqy13 hqy16 hqy19 hc10_20 hc10_17).symm), N0, rfl⟩
              · refine own_go (A := s₁.setTop (mkF m 7 #[.val (.long v), .second, .val (.int (8 : Int32)), .val (.long ((y19).toUInt64 >>> ((7 : Int32) &&& 0x3f).toInt64.toUInt64).toInt64), .second] [])) (fun t_ k_ => ?_) ?_
                · show Steps p.tables e below (s₁.setTop (mkF m 10 #[.val (.long v), .second, .val (.int (7 : Int32)), .val (.long y19), .second] [(.int (lcmpW y19 (0 : Int64)))])) t_
                  refine XS.ifNo X0.here hx rfl (hb hby d1_10) rfl ((if0 _ _).trans (feq (fun q => hc10_20 ((lw_eq _ _).mp q))).1) ?_
                  show Steps p.tables e below (s₁.setTop (mkF m 13 #[.val (.long v), .second, .val (.int (7 : Int32)), .val (.long y19), .second] [])) t_
                  refine XS.iinc X0.here hx rfl (hb hby d1_13) rfl (l' := #[.val (.long v), .second, .val (.int (8 : Int32)), .val (.long y19), .second]) rfl ?_
                  show Steps p.tables e below (s₁.setTop (mkF m 16 #[.val (.long v), .second, .val (.int (8 : Int32)), .val (.long y19), .second] [])) t_
                  refine XS.lloadN X0.here hx rfl (hb hby d1_16) rfl ?_
                  show Steps p.tables e below (s₁.setTop (mkF m 17 #[.val (.long v), .second, .val (.int (8 : Int32)), .val (.long y19), .second] [(.long y19)])) t_
                  refine XS.bipush X0.here hx rfl (hb hby d1_17) ?_
                  show Steps p.tables e below (s₁.setTop (mkF m 19 #[.val (.long v), .second, .val (.int (8 : Int32)), .val (.long y19), .second] [(.int (7 : Int32)), (.long y19)])) t_
                  refine XS.lushr X0.here hx rfl (hb hby d1_19) rfl ?_
                  show Steps p.tables e below (s₁.setTop (mkF m 20 #[.val (.long v), .second, .val (.int (8 : Int32)), .val (.long y19), .second] [(.long ((y19).toUInt64 >>> ((7 : Int32) &&& 0x3f).toInt64.toUInt64).toInt64)])) t_
                  refine XS.lstoreN X0.here hx rfl (hb hby d1_20) rfl (l' := #[.val (.long v), .second, .val (.int (8 : Int32)), .val (.long ((y19).toUInt64 >>> ((7 : Int32) &&& 0x3f).toInt64.toUInt64).toInt64), .second]) rfl ?_
                  show Steps p.tables e below (s₁.setTop (mkF m 21 #[.val (.long v), .second, .val (.int (8 : Int32)), .val (.long ((y19).toUInt64 >>> ((7 : Int32) &&& 0x3f).toInt64.toUInt64).toInt64), .second] [])) t_
                  refine XS.goto X0.here hx rfl (pc0 := 21) (pc' := 7) rfl (hb hby d1_21) (by decide) (by decide) ?_
                  exact k_
                obtain ⟨y22, hqy22⟩ : ∃ z : Int64, z = ((y19).toUInt64 >>> ((7 : Int32) &&& 0x3f).toInt64.toUInt64).toInt64 := ⟨_, rfl⟩
                rw [← hqy22]
                refine own_go (A := s₁.setTop (mkF m 10 #[.val (.long v), .second, .val (.int (8 : Int32)), .val (.long y22), .second] [(.int (lcmpW y22 (0 : Int64)))])) (fun t_ k_ => ?_) ?_
                · show Steps p.tables e below (s₁.setTop (mkF m 7 #[.val (.long v), .second, .val (.int (8 : Int32)), .val (.long y22), .second] [])) t_
                  refine XS.lloadN X0.here hx rfl (hb hby d1_7) rfl ?_
                  show Steps p.tables e below (s₁.setTop (mkF m 8 #[.val (.long v), .second, .val (.int (8 : Int32)), .val (.long y22), .second] [(.long y22)])) t_
                  refine XS.lconst X0.here hx rfl (hb hby d1_8) ?_
                  show Steps p.tables e below (s₁.setTop (mkF m 9 #[.val (.long v), .second, .val (.int (8 : Int32)), .val (.long y22), .second] [(.long (0 : Int64)), (.long y22)])) t_
                  refine XS.lcmp X0.here hx rfl (hb hby d1_9) rfl ?_
                  exact k_
                by_cases hc10_23 : y22 = (0 : Int64)
                · refine own_go (A := s₁.setTop (mkF m 25 #[.val (.long v), .second, .val (.int (8 : Int32)), .val (.long y22), .second] [(.int (8 : Int32))])) (fun t_ k_ => ?_) ?_
                  · show Steps p.tables e below (s₁.setTop (mkF m 10 #[.val (.long v), .second, .val (.int (8 : Int32)), .val (.long y22), .second] [(.int (lcmpW y22 (0 : Int64)))])) t_
                    refine XS.ifYes X0.here hx rfl (pc0 := 10) (pc' := 24) rfl (hb hby d1_10) rfl ((if0 _ _).trans (teq ((lw_eq _ _).mpr hc10_23)).1) (by decide) (by decide) ?_
                    show Steps p.tables e below (s₁.setTop (mkF m 24 #[.val (.long v), .second, .val (.int (8 : Int32)), .val (.long y22), .second] [])) t_
                    refine XS.iloadN X0.here hx rfl (hb hby d1_24) rfl ?_
                    exact k_
                  obtain ⟨fs24, hr24, hrun24, hended24, hW24, hsame24⟩ := X0.leave (v := some (.int (8 : Int32))) (fun h => by rw [Bd.returns] at h; cases h)
                  refine ⟨_, _, ?_, hrun24, hended24, _, _, rfl, ?_, ⟨_, rfl⟩, hW24, hsame24.mono (by decide) (by decide)⟩
                  · exact own_retI X0 hx Bd.returns (hb hby d1_25) hr24
                  · show Q_rmSize Z v h0 n0 _ s₁.heap _
                    rw [e0]
                    exact ⟨(congrArg (fun z => some (Value.int z)) (own_leaf8 v y1 y4 y7 y10 y13 y16 y19 y22 hqy1 hqy4 hqy7 hqy10 hqy13 hqy16 hqy19 hqy22 hc10_23 hc10_20).symm), N0, rfl⟩
                · refine own_go (A := s₁.setTop (mkF m 7 #[.val (.long v), .second, .val (.int (9 : Int32)), .val (.long ((y22).toUInt64 >>> ((7 : Int32) &&& 0x3f).toInt64.toUInt64).toInt64), .second] [])) (fun t_ k_ => ?_) ?_
                  · show Steps p.tables e below (s₁.setTop (mkF m 10 #[.val (.long v), .second, .val (.int (8 : Int32)), .val (.long y22), .second] [(.int (lcmpW y22 (0 : Int64)))])) t_
                    refine XS.ifNo X0.here hx rfl (hb hby d1_10) rfl ((if0 _ _).trans (feq (fun q => hc10_23 ((lw_eq _ _).mp q))).1) ?_
                    show Steps p.tables e below (s₁.setTop (mkF m 13 #[.val (.long v), .second, .val (.int (8 : Int32)), .val (.long y22), .second] [])) t_
                    refine XS.iinc X0.here hx rfl (hb hby d1_13) rfl (l' := #[.val (.long v), .second, .val (.int (9 : Int32)), .val (.long y22), .second]) rfl ?_
                    show Steps p.tables e below (s₁.setTop (mkF m 16 #[.val (.long v), .second, .val (.int (9 : Int32)), .val (.long y22), .second] [])) t_
                    refine XS.lloadN X0.here hx rfl (hb hby d1_16) rfl ?_
                    show Steps p.tables e below (s₁.setTop (mkF m 17 #[.val (.long v), .second, .val (.int (9 : Int32)), .val (.long y22), .second] [(.long y22)])) t_
                    refine XS.bipush X0.here hx rfl (hb hby d1_17) ?_
                    show Steps p.tables e below (s₁.setTop (mkF m 19 #[.val (.long v), .second, .val (.int (9 : Int32)), .val (.long y22), .second] [(.int (7 : Int32)), (.long y22)])) t_
                    refine XS.lushr X0.here hx rfl (hb hby d1_19) rfl ?_
                    show Steps p.tables e below (s₁.setTop (mkF m 20 #[.val (.long v), .second, .val (.int (9 : Int32)), .val (.long y22), .second] [(.long ((y22).toUInt64 >>> ((7 : Int32) &&& 0x3f).toInt64.toUInt64).toInt64)])) t_
                    refine XS.lstoreN X0.here hx rfl (hb hby d1_20) rfl (l' := #[.val (.long v), .second, .val (.int (9 : Int32)), .val (.long ((y22).toUInt64 >>> ((7 : Int32) &&& 0x3f).toInt64.toUInt64).toInt64), .second]) rfl ?_
                    show Steps p.tables e below (s₁.setTop (mkF m 21 #[.val (.long v), .second, .val (.int (9 : Int32)), .val (.long ((y22).toUInt64 >>> ((7 : Int32) &&& 0x3f).toInt64.toUInt64).toInt64), .second] [])) t_
                    refine XS.goto X0.here hx rfl (pc0 := 21) (pc' := 7) rfl (hb hby d1_21) (by decide) (by decide) ?_
                    exact k_
                  obtain ⟨y25, hqy25⟩ : ∃ z : Int64, z = ((y22).toUInt64 >>> ((7 : Int32) &&& 0x3f).toInt64.toUInt64).toInt64 := ⟨_, rfl⟩
                  rw [← hqy25]
                  refine own_go (A := s₁.setTop (mkF m 10 #[.val (.long v), .second, .val (.int (9 : Int32)), .val (.long y25), .second] [(.int (lcmpW y25 (0 : Int64)))])) (fun t_ k_ => ?_) ?_
                  · show Steps p.tables e below (s₁.setTop (mkF m 7 #[.val (.long v), .second, .val (.int (9 : Int32)), .val (.long y25), .second] [])) t_
                    refine XS.lloadN X0.here hx rfl (hb hby d1_7) rfl ?_
                    show Steps p.tables e below (s₁.setTop (mkF m 8 #[.val (.long v), .second, .val (.int (9 : Int32)), .val (.long y25), .second] [(.long y25)])) t_
                    refine XS.lconst X0.here hx rfl (hb hby d1_8) ?_
                    show Steps p.tables e below (s₁.setTop (mkF m 9 #[.val (.long v), .second, .val (.int (9 : Int32)), .val (.long y25), .second] [(.long (0 : Int64)), (.long y25)])) t_
                    refine XS.lcmp X0.here hx rfl (hb hby d1_9) rfl ?_
                    exact k_
                  by_cases hc10_26 : y25 = (0 : Int64)
                  · refine own_go (A := s₁.setTop (mkF m 25 #[.val (.long v), .second, .val (.int (9 : Int32)), .val (.long y25), .second] [(.int (9 : Int32))])) (fun t_ k_ => ?_) ?_
                    · show Steps p.tables e below (s₁.setTop (mkF m 10 #[.val (.long v), .second, .val (.int (9 : Int32)), .val (.long y25), .second] [(.int (lcmpW y25 (0 : Int64)))])) t_
                      refine XS.ifYes X0.here hx rfl (pc0 := 10) (pc' := 24) rfl (hb hby d1_10) rfl ((if0 _ _).trans (teq ((lw_eq _ _).mpr hc10_26)).1) (by decide) (by decide) ?_
                      show Steps p.tables e below (s₁.setTop (mkF m 24 #[.val (.long v), .second, .val (.int (9 : Int32)), .val (.long y25), .second] [])) t_
                      refine XS.iloadN X0.here hx rfl (hb hby d1_24) rfl ?_
                      exact k_
                    obtain ⟨fs27, hr27, hrun27, hended27, hW27, hsame27⟩ := X0.leave (v := some (.int (9 : Int32))) (fun h => by rw [Bd.returns] at h; cases h)
                    refine ⟨_, _, ?_, hrun27, hended27, _, _, rfl, ?_, ⟨_, rfl⟩, hW27, hsame27.mono (by decide) (by decide)⟩
                    · exact own_retI X0 hx Bd.returns (hb hby d1_25) hr27
                    · show Q_rmSize Z v h0 n0 _ s₁.heap _
                      rw [e0]
                      exact ⟨(congrArg (fun z => some (Value.int z)) (own_leaf9 v y1 y4 y7 y10 y13 y16 y19 y22 y25 hqy1 hqy4 hqy7 hqy10 hqy13 hqy16 hqy19 hqy22 hqy25 hc10_26 hc10_23).symm), N0, rfl⟩
                  · refine own_go (A := s₁.setTop (mkF m 7 #[.val (.long v), .second, .val (.int (10 : Int32)), .val (.long ((y25).toUInt64 >>> ((7 : Int32) &&& 0x3f).toInt64.toUInt64).toInt64), .second] [])) (fun t_ k_ => ?_) ?_
                    · show Steps p.tables e below (s₁.setTop (mkF m 10 #[.val (.long v), .second, .val (.int (9 : Int32)), .val (.long y25), .second] [(.int (lcmpW y25 (0 : Int64)))])) t_
                      refine XS.ifNo X0.here hx rfl (hb hby d1_10) rfl ((if0 _ _).trans (feq (fun q => hc10_26 ((lw_eq _ _).mp q))).1) ?_
                      show Steps p.tables e below (s₁.setTop (mkF m 13 #[.val (.long v), .second, .val (.int (9 : Int32)), .val (.long y25), .second] [])) t_
                      refine XS.iinc X0.here hx rfl (hb hby d1_13) rfl (l' := #[.val (.long v), .second, .val (.int (10 : Int32)), .val (.long y25), .second]) rfl ?_
                      show Steps p.tables e below (s₁.setTop (mkF m 16 #[.val (.long v), .second, .val (.int (10 : Int32)), .val (.long y25), .second] [])) t_
                      refine XS.lloadN X0.here hx rfl (hb hby d1_16) rfl ?_
                      show Steps p.tables e below (s₁.setTop (mkF m 17 #[.val (.long v), .second, .val (.int (10 : Int32)), .val (.long y25), .second] [(.long y25)])) t_
                      refine XS.bipush X0.here hx rfl (hb hby d1_17) ?_
                      show Steps p.tables e below (s₁.setTop (mkF m 19 #[.val (.long v), .second, .val (.int (10 : Int32)), .val (.long y25), .second] [(.int (7 : Int32)), (.long y25)])) t_
                      refine XS.lushr X0.here hx rfl (hb hby d1_19) rfl ?_
                      show Steps p.tables e below (s₁.setTop (mkF m 20 #[.val (.long v), .second, .val (.int (10 : Int32)), .val (.long y25), .second] [(.long ((y25).toUInt64 >>> ((7 : Int32) &&& 0x3f).toInt64.toUInt64).toInt64)])) t_
                      refine XS.lstoreN X0.here hx rfl (hb hby d1_20) rfl (l' := #[.val (.long v), .second, .val (.int (10 : Int32)), .val (.long ((y25).toUInt64 >>> ((7 : Int32) &&& 0x3f).toInt64.toUInt64).toInt64), .second]) rfl ?_
                      show Steps p.tables e below (s₁.setTop (mkF m 21 #[.val (.long v), .second, .val (.int (10 : Int32)), .val (.long ((y25).toUInt64 >>> ((7 : Int32) &&& 0x3f).toInt64.toUInt64).toInt64), .second] [])) t_
                      refine XS.goto X0.here hx rfl (pc0 := 21) (pc' := 7) rfl (hb hby d1_21) (by decide) (by decide) ?_
                      exact k_
                    obtain ⟨y28, hqy28⟩ : ∃ z : Int64, z = ((y25).toUInt64 >>> ((7 : Int32) &&& 0x3f).toInt64.toUInt64).toInt64 := ⟨_, rfl⟩
                    rw [← hqy28]
                    refine own_go (A := s₁.setTop (mkF m 10 #[.val (.long v), .second, .val (.int (10 : Int32)), .val (.long y28), .second] [(.int (lcmpW y28 (0 : Int64)))])) (fun t_ k_ => ?_) ?_
                    · show Steps p.tables e below (s₁.setTop (mkF m 7 #[.val (.long v), .second, .val (.int (10 : Int32)), .val (.long y28), .second] [])) t_
                      refine XS.lloadN X0.here hx rfl (hb hby d1_7) rfl ?_
                      show Steps p.tables e below (s₁.setTop (mkF m 8 #[.val (.long v), .second, .val (.int (10 : Int32)), .val (.long y28), .second] [(.long y28)])) t_
                      refine XS.lconst X0.here hx rfl (hb hby d1_8) ?_
                      show Steps p.tables e below (s₁.setTop (mkF m 9 #[.val (.long v), .second, .val (.int (10 : Int32)), .val (.long y28), .second] [(.long (0 : Int64)), (.long y28)])) t_
                      refine XS.lcmp X0.here hx rfl (hb hby d1_9) rfl ?_
                      exact k_
                    have hc10_29 : y28 = (0 : Int64) := own_last v y1 y4 y7 y10 y13 y16 y19 y22 y25 y28 hqy1 hqy4 hqy7 hqy10 hqy13 hqy16 hqy19 hqy22 hqy25 hqy28
                    refine own_go (A := s₁.setTop (mkF m 25 #[.val (.long v), .second, .val (.int (10 : Int32)), .val (.long y28), .second] [(.int (10 : Int32))])) (fun t_ k_ => ?_) ?_
                    · show Steps p.tables e below (s₁.setTop (mkF m 10 #[.val (.long v), .second, .val (.int (10 : Int32)), .val (.long y28), .second] [(.int (lcmpW y28 (0 : Int64)))])) t_
                      refine XS.ifYes X0.here hx rfl (pc0 := 10) (pc' := 24) rfl (hb hby d1_10) rfl ((if0 _ _).trans (teq ((lw_eq _ _).mpr hc10_29)).1) (by decide) (by decide) ?_
                      show Steps p.tables e below (s₁.setTop (mkF m 24 #[.val (.long v), .second, .val (.int (10 : Int32)), .val (.long y28), .second] [])) t_
                      refine XS.iloadN X0.here hx rfl (hb hby d1_24) rfl ?_
                      exact k_
                    obtain ⟨fs30, hr30, hrun30, hended30, hW30, hsame30⟩ := X0.leave (v := some (.int (10 : Int32))) (fun h => by rw [Bd.returns] at h; cases h)
                    refine ⟨_, _, ?_, hrun30, hended30, _, _, rfl, ?_, ⟨_, rfl⟩, hW30, hsame30.mono (by decide) (by decide)⟩
                    · exact own_retI X0 hx Bd.returns (hb hby d1_25) hr30
                    · show Q_rmSize Z v h0 n0 _ s₁.heap _
                      rw [e0]
                      exact ⟨(congrArg (fun z => some (Value.int z)) (own_leaf10 v y1 y4 y7 y10 y13 y16 y19 y22 y25 y28 hqy1 hqy4 hqy7 hqy10 hqy13 hqy16 hqy19 hqy22 hqy25 hqy28  hc10_26).symm), N0, rfl⟩
theorem d2_0 : decode method_2_code 0 = .ok (.lload_n 0, 1) := by decide +kernel
theorem d2_1 : decode method_2_code 1 = .ok (.lconst 0, 1) := by decide +kernel
theorem d2_2 : decode method_2_code 2 = .ok (.lcmp, 1) := by decide +kernel
theorem d2_3 : decode method_2_code 3 = .ok (.ifCond .ge 6, 3) := by decide +kernel
theorem d2_6 : decode method_2_code 6 = .ok (.bipush 10, 2) := by decide +kernel
theorem d2_8 : decode method_2_code 8 = .ok (.ireturn, 1) := by decide +kernel
theorem d2_9 : decode method_2_code 9 = .ok (.lload_n 0, 1) := by decide +kernel
theorem d2_10 : decode method_2_code 10 = .ok (.ldc2_w 7, 3) := by decide +kernel
theorem d2_13 : decode method_2_code 13 = .ok (.lcmp, 1) := by decide +kernel
theorem d2_14 : decode method_2_code 14 = .ok (.ifCond .ge 5, 3) := by decide +kernel
theorem d2_17 : decode method_2_code 17 = .ok (.iconst 1, 1) := by decide +kernel
theorem d2_18 : decode method_2_code 18 = .ok (.ireturn, 1) := by decide +kernel
theorem d2_19 : decode method_2_code 19 = .ok (.lload_n 0, 1) := by decide +kernel
theorem d2_20 : decode method_2_code 20 = .ok (.ldc2_w 9, 3) := by decide +kernel
theorem d2_23 : decode method_2_code 23 = .ok (.lcmp, 1) := by decide +kernel
theorem d2_24 : decode method_2_code 24 = .ok (.ifCond .ge 5, 3) := by decide +kernel
theorem d2_27 : decode method_2_code 27 = .ok (.iconst 2, 1) := by decide +kernel
theorem d2_28 : decode method_2_code 28 = .ok (.ireturn, 1) := by decide +kernel
theorem d2_29 : decode method_2_code 29 = .ok (.lload_n 0, 1) := by decide +kernel
theorem d2_30 : decode method_2_code 30 = .ok (.ldc2_w 11, 3) := by decide +kernel
theorem d2_33 : decode method_2_code 33 = .ok (.lcmp, 1) := by decide +kernel
theorem d2_34 : decode method_2_code 34 = .ok (.ifCond .ge 5, 3) := by decide +kernel
theorem d2_37 : decode method_2_code 37 = .ok (.iconst 3, 1) := by decide +kernel
theorem d2_38 : decode method_2_code 38 = .ok (.ireturn, 1) := by decide +kernel
theorem d2_39 : decode method_2_code 39 = .ok (.lload_n 0, 1) := by decide +kernel
theorem d2_40 : decode method_2_code 40 = .ok (.ldc2_w 13, 3) := by decide +kernel
theorem d2_43 : decode method_2_code 43 = .ok (.lcmp, 1) := by decide +kernel
theorem d2_44 : decode method_2_code 44 = .ok (.ifCond .ge 5, 3) := by decide +kernel
theorem d2_47 : decode method_2_code 47 = .ok (.iconst 4, 1) := by decide +kernel
theorem d2_48 : decode method_2_code 48 = .ok (.ireturn, 1) := by decide +kernel
theorem d2_49 : decode method_2_code 49 = .ok (.lload_n 0, 1) := by decide +kernel
theorem d2_50 : decode method_2_code 50 = .ok (.ldc2_w 15, 3) := by decide +kernel
theorem d2_53 : decode method_2_code 53 = .ok (.lcmp, 1) := by decide +kernel
theorem d2_54 : decode method_2_code 54 = .ok (.ifCond .ge 5, 3) := by decide +kernel
theorem d2_57 : decode method_2_code 57 = .ok (.iconst 5, 1) := by decide +kernel
theorem d2_58 : decode method_2_code 58 = .ok (.ireturn, 1) := by decide +kernel
theorem d2_59 : decode method_2_code 59 = .ok (.lload_n 0, 1) := by decide +kernel
theorem d2_60 : decode method_2_code 60 = .ok (.ldc2_w 17, 3) := by decide +kernel
theorem d2_63 : decode method_2_code 63 = .ok (.lcmp, 1) := by decide +kernel
theorem d2_64 : decode method_2_code 64 = .ok (.ifCond .ge 6, 3) := by decide +kernel
theorem d2_67 : decode method_2_code 67 = .ok (.bipush 6, 2) := by decide +kernel
theorem d2_69 : decode method_2_code 69 = .ok (.ireturn, 1) := by decide +kernel
theorem d2_70 : decode method_2_code 70 = .ok (.lload_n 0, 1) := by decide +kernel
theorem d2_71 : decode method_2_code 71 = .ok (.ldc2_w 19, 3) := by decide +kernel
theorem d2_74 : decode method_2_code 74 = .ok (.lcmp, 1) := by decide +kernel
theorem d2_75 : decode method_2_code 75 = .ok (.ifCond .ge 6, 3) := by decide +kernel
theorem d2_78 : decode method_2_code 78 = .ok (.bipush 7, 2) := by decide +kernel
theorem d2_80 : decode method_2_code 80 = .ok (.ireturn, 1) := by decide +kernel
theorem d2_81 : decode method_2_code 81 = .ok (.lload_n 0, 1) := by decide +kernel
theorem d2_82 : decode method_2_code 82 = .ok (.ldc2_w 21, 3) := by decide +kernel
theorem d2_85 : decode method_2_code 85 = .ok (.lcmp, 1) := by decide +kernel
theorem d2_86 : decode method_2_code 86 = .ok (.ifCond .ge 6, 3) := by decide +kernel
theorem d2_89 : decode method_2_code 89 = .ok (.bipush 8, 2) := by decide +kernel
theorem d2_91 : decode method_2_code 91 = .ok (.ireturn, 1) := by decide +kernel
theorem d2_92 : decode method_2_code 92 = .ok (.bipush 9, 2) := by decide +kernel
theorem d2_94 : decode method_2_code 94 = .ok (.ireturn, 1) := by decide +kernel
abbrev own_y1 : MethodName := ⟨"com/example/vestwright/vestwright/io/VarintSizePinLaw", "expected", "(J)I"⟩
theorem ef_rmExp (m : MethodId) (v : Int64) : entryFrame m #[(.long v)] 2 = mkF m 0 #[.val (.long v), .second] [] := by first | (simp [entryFrame, mkF, argsToLocals, Value.category]; done) | rfl
def Q_rmExp (Z : State) (v : Int64) (h0 : Heap) (n0 : Nat) (v_ : Option Value) (h_ : Heap) (L_ : List Loc) : Prop := v_ = some (.int (own_exp v)) ∧ Fr n0 L_ ∧ h_ = h0
theorem pn_1 : plainName "com/example/vestwright/vestwright/io/VarintSizePinLaw" = true := by first | (simp [plainName, overriddenIn]; done) | decide +kernel
set_option maxRecDepth 65536 in
set_option maxHeartbeats 40000000 in
theorem rmExp (l : Launch) (Z : State) (a0 : Array Value) (hw : ∀ d ∈ tables_1, d.before a0 Z = true) (ws : List Jvm.Cond) (v : Int64) (h0 : Heap) (n0 : Nat) (Z0 : n0 ≤ h0.size)  :
    MetFree l own_y1 (head1 (Jvm.Cond.code own_y1 method_2_code 2 (some .int) :: ws) ({ frames := 0, cells := 0, slots := 0, locals := 0 } : Room)) (fun a_ U_ => a_ = #[(.long v)] ∧ Z.Warmed39 U_.vm ∧ U_.heap = h0) (fun _ _ _ _ _ => True) (fun _ U_ o_ U2_ => ∃ v_ L_, o_ = .returned v_ ∧ Q_rmExp Z v h0 n0 v_ U2_.heap L_ ∧ FrameEnd U_ o_ U2_ L_ ({ frames := 0, cells := 0, slots := 0, locals := 0 } : Room).cells ({ frames := 0, cells := 0, slots := 0, locals := 0 } : Room).slots) := by
  refine MetFree.of_bodySF (plainFor_of_name pn_1) hisR ?_
  intro p e s m args below meth c s₁ Bd hml0 hP hK
  obtain ⟨rfl, hZ, hh⟩ := hP
  have hx := Bd.exec
  have hby := Bd.bytes
  have hml : c.maxLocals = 2 := hml0
  have hown : s.vm.findClass "com/example/vestwright/vestwright/io/VarintSizePinLaw" = some m.cls := findClass_of_methodNamed Bd.named
  have hnm := (name_of_methodNamed Bd.named Bd.method).1
  have X0 : Stand p l e ({ frames := 0, cells := 0, slots := 0, locals := 0 } : Room) s m #[(.long v)] below meth c s₁ [] 0 0 := Stand.of_body Bd
  have e0 : s₁.heap = h0 := by rw [← hh, Bd.state]; rfl
  have N0 := Fr.nil n0
  refine own_go (A := s₁.setTop (mkF m 0 #[.val (.long v), .second] [])) (fun t_ k_ => castTop (ef_rmExp m v) k_) ?_
  refine own_go (A := s₁.setTop (mkF m 3 #[.val (.long v), .second] [(.int (lcmpW v (0 : Int64)))])) (fun t_ k_ => ?_) ?_
  · show Steps p.tables e below (s₁.setTop (mkF m 0 #[.val (.long v), .second] [])) t_
    refine XS.lloadN X0.here hx rfl (hb hby d2_0) rfl ?_
    show Steps p.tables e below (s₁.setTop (mkF m 1 #[.val (.long v), .second] [(.long v)])) t_
    refine XS.lconst X0.here hx rfl (hb hby d2_1) ?_
    show Steps p.tables e below (s₁.setTop (mkF m 2 #[.val (.long v), .second] [(.long (0 : Int64)), (.long v)])) t_
    refine XS.lcmp X0.here hx rfl (hb hby d2_2) rfl ?_
    exact k_
  by_cases hc3_1 : v < (0 : Int64)
  · refine own_go (A := s₁.setTop (mkF m 8 #[.val (.long v), .second] [(.int (10 : Int32))])) (fun t_ k_ => ?_) ?_
    · show Steps p.tables e below (s₁.setTop (mkF m 3 #[.val (.long v), .second] [(.int (lcmpW v (0 : Int64)))])) t_
      refine XS.ifNo X0.here hx rfl (hb hby d2_3) rfl ((if0 _ _).trans (tlt ((lw_lt _ _).mpr hc3_1)).2.1) ?_
      show Steps p.tables e below (s₁.setTop (mkF m 6 #[.val (.long v), .second] [])) t_
      refine XS.bipush X0.here hx rfl (hb hby d2_6) ?_
      exact k_
    obtain ⟨fs2, hr2, hrun2, hended2, hW2, hsame2⟩ := X0.leave (v := some (.int (10 : Int32))) (fun h => by rw [Bd.returns] at h; cases h)
    refine ⟨_, _, ?_, hrun2, hended2, _, _, rfl, ?_, ⟨_, rfl⟩, hW2, hsame2.mono (by decide) (by decide)⟩
    · exact own_retI X0 hx Bd.returns (hb hby d2_8) hr2
    · show Q_rmExp Z v h0 n0 _ s₁.heap _
      rw [e0]
      exact ⟨(by simp only [own_exp, hc3_1, if_true, if_false, ↓reduceIte]), N0, rfl⟩
  · refine own_go (A := s₁.setTop (mkF m 14 #[.val (.long v), .second] [(.int (lcmpW v (128 : Int64)))])) (fun t_ k_ => ?_) ?_
    · show Steps p.tables e below (s₁.setTop (mkF m 3 #[.val (.long v), .second] [(.int (lcmpW v (0 : Int64)))])) t_
      refine XS.ifYes X0.here hx rfl (pc0 := 3) (pc' := 9) rfl (hb hby d2_3) rfl ((if0 _ _).trans (flt (fun q => hc3_1 ((lw_lt _ _).mp q))).2.1) (by decide) (by decide) ?_
      show Steps p.tables e below (s₁.setTop (mkF m 9 #[.val (.long v), .second] [])) t_
      refine XS.lloadN X0.here hx rfl (hb hby d2_9) rfl ?_
      show Steps p.tables e below (s₁.setTop (mkF m 10 #[.val (.long v), .second] [(.long v)])) t_
      refine Jvm.Stand.ldc2J X0 hx hown (mvT hZ (own_w hw 8 rfl)) (g := (mkF m 10 #[.val (.long v), .second] [(.long v)])) rfl (hb hby d2_10) ?_
      show Steps p.tables e below (s₁.setTop (mkF m 13 #[.val (.long v), .second] [(.long (128 : Int64)), (.long v)])) t_
      refine XS.lcmp X0.here hx rfl (hb hby d2_13) rfl ?_
      exact k_
    by_cases hc14_3 : v < (128 : Int64)
    · refine own_go (A := s₁.setTop (mkF m 18 #[.val (.long v), .second] [(.int (1 : Int32))])) (fun t_ k_ => ?_) ?_
      · show Steps p.tables e below (s₁.setTop (mkF m 14 #[.val (.long v), .second] [(.int (lcmpW v (128 : Int64)))])) t_
        refine XS.ifNo X0.here hx rfl (hb hby d2_14) rfl ((if0 _ _).trans (tlt ((lw_lt _ _).mpr hc14_3)).2.1) ?_
        show Steps p.tables e below (s₁.setTop (mkF m 17 #[.val (.long v), .second] [])) t_
        refine XS.iconst X0.here hx rfl (hb hby d2_17) ?_
        exact k_
      obtain ⟨fs4, hr4, hrun4, hended4, hW4, hsame4⟩ := X0.leave (v := some (.int (1 : Int32))) (fun h => by rw [Bd.returns] at h; cases h)
      refine ⟨_, _, ?_, hrun4, hended4, _, _, rfl, ?_, ⟨_, rfl⟩, hW4, hsame4.mono (by decide) (by decide)⟩
      · exact own_retI X0 hx Bd.returns (hb hby d2_18) hr4
      · show Q_rmExp Z v h0 n0 _ s₁.heap _
        rw [e0]
        exact ⟨(by simp only [own_exp, hc3_1, hc14_3, if_true, if_false, ↓reduceIte]), N0, rfl⟩
    · refine own_go (A := s₁.setTop (mkF m 24 #[.val (.long v), .second] [(.int (lcmpW v (16384 : Int64)))])) (fun t_ k_ => ?_) ?_
      · show Steps p.tables e below (s₁.setTop (mkF m 14 #[.val (.long v), .second] [(.int (lcmpW v (128 : Int64)))])) t_
        refine XS.ifYes X0.here hx rfl (pc0 := 14) (pc' := 19) rfl (hb hby d2_14) rfl ((if0 _ _).trans (flt (fun q => hc14_3 ((lw_lt _ _).mp q))).2.1) (by decide) (by decide) ?_
        show Steps p.tables e below (s₁.setTop (mkF m 19 #[.val (.long v), .second] [])) t_
        refine XS.lloadN X0.here hx rfl (hb hby d2_19) rfl ?_
        show Steps p.tables e below (s₁.setTop (mkF m 20 #[.val (.long v), .second] [(.long v)])) t_
        refine Jvm.Stand.ldc2J X0 hx hown (mvT hZ (own_w hw 9 rfl)) (g := (mkF m 20 #[.val (.long v), .second] [(.long v)])) rfl (hb hby d2_20) ?_
        show Steps p.tables e below (s₁.setTop (mkF m 23 #[.val (.long v), .second] [(.long (16384 : Int64)), (.long v)])) t_
        refine XS.lcmp X0.here hx rfl (hb hby d2_23) rfl ?_
        exact k_
      by_cases hc24_5 : v < (16384 : Int64)
      · refine own_go (A := s₁.setTop (mkF m 28 #[.val (.long v), .second] [(.int (2 : Int32))])) (fun t_ k_ => ?_) ?_
        · show Steps p.tables e below (s₁.setTop (mkF m 24 #[.val (.long v), .second] [(.int (lcmpW v (16384 : Int64)))])) t_
          refine XS.ifNo X0.here hx rfl (hb hby d2_24) rfl ((if0 _ _).trans (tlt ((lw_lt _ _).mpr hc24_5)).2.1) ?_
          show Steps p.tables e below (s₁.setTop (mkF m 27 #[.val (.long v), .second] [])) t_
          refine XS.iconst X0.here hx rfl (hb hby d2_27) ?_
          exact k_
        obtain ⟨fs6, hr6, hrun6, hended6, hW6, hsame6⟩ := X0.leave (v := some (.int (2 : Int32))) (fun h => by rw [Bd.returns] at h; cases h)
        refine ⟨_, _, ?_, hrun6, hended6, _, _, rfl, ?_, ⟨_, rfl⟩, hW6, hsame6.mono (by decide) (by decide)⟩
        · exact own_retI X0 hx Bd.returns (hb hby d2_28) hr6
        · show Q_rmExp Z v h0 n0 _ s₁.heap _
          rw [e0]
          exact ⟨(by simp only [own_exp, hc3_1, hc14_3, hc24_5, if_true, if_false, ↓reduceIte]), N0, rfl⟩
      · refine own_go (A := s₁.setTop (mkF m 34 #[.val (.long v), .second] [(.int (lcmpW v (2097152 : Int64)))])) (fun t_ k_ => ?_) ?_
        · show Steps p.tables e below (s₁.setTop (mkF m 24 #[.val (.long v), .second] [(.int (lcmpW v (16384 : Int64)))])) t_
          refine XS.ifYes X0.here hx rfl (pc0 := 24) (pc' := 29) rfl (hb hby d2_24) rfl ((if0 _ _).trans (flt (fun q => hc24_5 ((lw_lt _ _).mp q))).2.1) (by decide) (by decide) ?_
          show Steps p.tables e below (s₁.setTop (mkF m 29 #[.val (.long v), .second] [])) t_
          refine XS.lloadN X0.here hx rfl (hb hby d2_29) rfl ?_
          show Steps p.tables e below (s₁.setTop (mkF m 30 #[.val (.long v), .second] [(.long v)])) t_
          refine Jvm.Stand.ldc2J X0 hx hown (mvT hZ (own_w hw 10 rfl)) (g := (mkF m 30 #[.val (.long v), .second] [(.long v)])) rfl (hb hby d2_30) ?_
          show Steps p.tables e below (s₁.setTop (mkF m 33 #[.val (.long v), .second] [(.long (2097152 : Int64)), (.long v)])) t_
          refine XS.lcmp X0.here hx rfl (hb hby d2_33) rfl ?_
          exact k_
        by_cases hc34_7 : v < (2097152 : Int64)
        · refine own_go (A := s₁.setTop (mkF m 38 #[.val (.long v), .second] [(.int (3 : Int32))])) (fun t_ k_ => ?_) ?_
          · show Steps p.tables e below (s₁.setTop (mkF m 34 #[.val (.long v), .second] [(.int (lcmpW v (2097152 : Int64)))])) t_
            refine XS.ifNo X0.here hx rfl (hb hby d2_34) rfl ((if0 _ _).trans (tlt ((lw_lt _ _).mpr hc34_7)).2.1) ?_
            show Steps p.tables e below (s₁.setTop (mkF m 37 #[.val (.long v), .second] [])) t_
            refine XS.iconst X0.here hx rfl (hb hby d2_37) ?_
            exact k_
          obtain ⟨fs8, hr8, hrun8, hended8, hW8, hsame8⟩ := X0.leave (v := some (.int (3 : Int32))) (fun h => by rw [Bd.returns] at h; cases h)
          refine ⟨_, _, ?_, hrun8, hended8, _, _, rfl, ?_, ⟨_, rfl⟩, hW8, hsame8.mono (by decide) (by decide)⟩
          · exact own_retI X0 hx Bd.returns (hb hby d2_38) hr8
          · show Q_rmExp Z v h0 n0 _ s₁.heap _
            rw [e0]
            exact ⟨(by simp only [own_exp, hc3_1, hc14_3, hc24_5, hc34_7, if_true, if_false, ↓reduceIte]), N0, rfl⟩
        · refine own_go (A := s₁.setTop (mkF m 44 #[.val (.long v), .second] [(.int (lcmpW v (268435456 : Int64)))])) (fun t_ k_ => ?_) ?_
          · show Steps p.tables e below (s₁.setTop (mkF m 34 #[.val (.long v), .second] [(.int (lcmpW v (2097152 : Int64)))])) t_
            refine XS.ifYes X0.here hx rfl (pc0 := 34) (pc' := 39) rfl (hb hby d2_34) rfl ((if0 _ _).trans (flt (fun q => hc34_7 ((lw_lt _ _).mp q))).2.1) (by decide) (by decide) ?_
            show Steps p.tables e below (s₁.setTop (mkF m 39 #[.val (.long v), .second] [])) t_
            refine XS.lloadN X0.here hx rfl (hb hby d2_39) rfl ?_
            show Steps p.tables e below (s₁.setTop (mkF m 40 #[.val (.long v), .second] [(.long v)])) t_
            refine Jvm.Stand.ldc2J X0 hx hown (mvT hZ (own_w hw 11 rfl)) (g := (mkF m 40 #[.val (.long v), .second] [(.long v)])) rfl (hb hby d2_40) ?_
            show Steps p.tables e below (s₁.setTop (mkF m 43 #[.val (.long v), .second] [(.long (268435456 : Int64)), (.long v)])) t_
            refine XS.lcmp X0.here hx rfl (hb hby d2_43) rfl ?_
            exact k_
          by_cases hc44_9 : v < (268435456 : Int64)
          · refine own_go (A := s₁.setTop (mkF m 48 #[.val (.long v), .second] [(.int (4 : Int32))])) (fun t_ k_ => ?_) ?_
            · show Steps p.tables e below (s₁.setTop (mkF m 44 #[.val (.long v), .second] [(.int (lcmpW v (268435456 : Int64)))])) t_
              refine XS.ifNo X0.here hx rfl (hb hby d2_44) rfl ((if0 _ _).trans (tlt ((lw_lt _ _).mpr hc44_9)).2.1) ?_
              show Steps p.tables e below (s₁.setTop (mkF m 47 #[.val (.long v), .second] [])) t_
              refine XS.iconst X0.here hx rfl (hb hby d2_47) ?_
              exact k_
            obtain ⟨fs10, hr10, hrun10, hended10, hW10, hsame10⟩ := X0.leave (v := some (.int (4 : Int32))) (fun h => by rw [Bd.returns] at h; cases h)
            refine ⟨_, _, ?_, hrun10, hended10, _, _, rfl, ?_, ⟨_, rfl⟩, hW10, hsame10.mono (by decide) (by decide)⟩
            · exact own_retI X0 hx Bd.returns (hb hby d2_48) hr10
            · show Q_rmExp Z v h0 n0 _ s₁.heap _
              rw [e0]
              exact ⟨(by simp only [own_exp, hc3_1, hc14_3, hc24_5, hc34_7, hc44_9, if_true, if_false, ↓reduceIte]), N0, rfl⟩
          · refine own_go (A := s₁.setTop (mkF m 54 #[.val (.long v), .second] [(.int (lcmpW v (34359738368 : Int64)))])) (fun t_ k_ => ?_) ?_
            · show Steps p.tables e below (s₁.setTop (mkF m 44 #[.val (.long v), .second] [(.int (lcmpW v (268435456 : Int64)))])) t_
              refine XS.ifYes X0.here hx rfl (pc0 := 44) (pc' := 49) rfl (hb hby d2_44) rfl ((if0 _ _).trans (flt (fun q => hc44_9 ((lw_lt _ _).mp q))).2.1) (by decide) (by decide) ?_
              show Steps p.tables e below (s₁.setTop (mkF m 49 #[.val (.long v), .second] [])) t_
              refine XS.lloadN X0.here hx rfl (hb hby d2_49) rfl ?_
              show Steps p.tables e below (s₁.setTop (mkF m 50 #[.val (.long v), .second] [(.long v)])) t_
              refine Jvm.Stand.ldc2J X0 hx hown (mvT hZ (own_w hw 12 rfl)) (g := (mkF m 50 #[.val (.long v), .second] [(.long v)])) rfl (hb hby d2_50) ?_
              show Steps p.tables e below (s₁.setTop (mkF m 53 #[.val (.long v), .second] [(.long (34359738368 : Int64)), (.long v)])) t_
              refine XS.lcmp X0.here hx rfl (hb hby d2_53) rfl ?_
              exact k_
            by_cases hc54_11 : v < (34359738368 : Int64)
            · refine own_go (A := s₁.setTop (mkF m 58 #[.val (.long v), .second] [(.int (5 : Int32))])) (fun t_ k_ => ?_) ?_
              · show Steps p.tables e below (s₁.setTop (mkF m 54 #[.val (.long v), .second] [(.int (lcmpW v (34359738368 : Int64)))])) t_
                refine XS.ifNo X0.here hx rfl (hb hby d2_54) rfl ((if0 _ _).trans (tlt ((lw_lt _ _).mpr hc54_11)).2.1) ?_
                show Steps p.tables e below (s₁.setTop (mkF m 57 #[.val (.long v), .second] [])) t_
                refine XS.iconst X0.here hx rfl (hb hby d2_57) ?_
                exact k_
              obtain ⟨fs12, hr12, hrun12, hended12, hW12, hsame12⟩ := X0.leave (v := some (.int (5 : Int32))) (fun h => by rw [Bd.returns] at h; cases h)
              refine ⟨_, _, ?_, hrun12, hended12, _, _, rfl, ?_, ⟨_, rfl⟩, hW12, hsame12.mono (by decide) (by decide)⟩
              · exact own_retI X0 hx Bd.returns (hb hby d2_58) hr12
              · show Q_rmExp Z v h0 n0 _ s₁.heap _
                rw [e0]
                exact ⟨(by simp only [own_exp, hc3_1, hc14_3, hc24_5, hc34_7, hc44_9, hc54_11, if_true, if_false, ↓reduceIte]), N0, rfl⟩
            · refine own_go (A := s₁.setTop (mkF m 64 #[.val (.long v), .second] [(.int (lcmpW v (4398046511104 : Int64)))])) (fun t_ k_ => ?_) ?_
              · show Steps p.tables e below (s₁.setTop (mkF m 54 #[.val (.long v), .second] [(.int (lcmpW v (34359738368 : Int64)))])) t_
                refine XS.ifYes X0.here hx rfl (pc0 := 54) (pc' := 59) rfl (hb hby d2_54) rfl ((if0 _ _).trans (flt (fun q => hc54_11 ((lw_lt _ _).mp q))).2.1) (by decide) (by decide) ?_
                show Steps p.tables e below (s₁.setTop (mkF m 59 #[.val (.long v), .second] [])) t_
                refine XS.lloadN X0.here hx rfl (hb hby d2_59) rfl ?_
                show Steps p.tables e below (s₁.setTop (mkF m 60 #[.val (.long v), .second] [(.long v)])) t_
                refine Jvm.Stand.ldc2J X0 hx hown (mvT hZ (own_w hw 13 rfl)) (g := (mkF m 60 #[.val (.long v), .second] [(.long v)])) rfl (hb hby d2_60) ?_
                show Steps p.tables e below (s₁.setTop (mkF m 63 #[.val (.long v), .second] [(.long (4398046511104 : Int64)), (.long v)])) t_
                refine XS.lcmp X0.here hx rfl (hb hby d2_63) rfl ?_
                exact k_
              by_cases hc64_13 : v < (4398046511104 : Int64)
              · refine own_go (A := s₁.setTop (mkF m 69 #[.val (.long v), .second] [(.int (6 : Int32))])) (fun t_ k_ => ?_) ?_
                · show Steps p.tables e below (s₁.setTop (mkF m 64 #[.val (.long v), .second] [(.int (lcmpW v (4398046511104 : Int64)))])) t_
                  refine XS.ifNo X0.here hx rfl (hb hby d2_64) rfl ((if0 _ _).trans (tlt ((lw_lt _ _).mpr hc64_13)).2.1) ?_
                  show Steps p.tables e below (s₁.setTop (mkF m 67 #[.val (.long v), .second] [])) t_
                  refine XS.bipush X0.here hx rfl (hb hby d2_67) ?_
                  exact k_
                obtain ⟨fs14, hr14, hrun14, hended14, hW14, hsame14⟩ := X0.leave (v := some (.int (6 : Int32))) (fun h => by rw [Bd.returns] at h; cases h)
                refine ⟨_, _, ?_, hrun14, hended14, _, _, rfl, ?_, ⟨_, rfl⟩, hW14, hsame14.mono (by decide) (by decide)⟩
                · exact own_retI X0 hx Bd.returns (hb hby d2_69) hr14
                · show Q_rmExp Z v h0 n0 _ s₁.heap _
                  rw [e0]
                  exact ⟨(by simp only [own_exp, hc3_1, hc14_3, hc24_5, hc34_7, hc44_9, hc54_11, hc64_13, if_true, if_false, ↓reduceIte]), N0, rfl⟩
              · refine own_go (A := s₁.setTop (mkF m 75 #[.val (.long v), .second] [(.int (lcmpW v (562949953421312 : Int64)))])) (fun t_ k_ => ?_) ?_
                · show Steps p.tables e below (s₁.setTop (mkF m 64 #[.val (.long v), .second] [(.int (lcmpW v (4398046511104 : Int64)))])) t_
                  refine XS.ifYes X0.here hx rfl (pc0 := 64) (pc' := 70) rfl (hb hby d2_64) rfl ((if0 _ _).trans (flt (fun q => hc64_13 ((lw_lt _ _).mp q))).2.1) (by decide) (by decide) ?_
                  show Steps p.tables e below (s₁.setTop (mkF m 70 #[.val (.long v), .second] [])) t_
                  refine XS.lloadN X0.here hx rfl (hb hby d2_70) rfl ?_
                  show Steps p.tables e below (s₁.setTop (mkF m 71 #[.val (.long v), .second] [(.long v)])) t_
                  refine Jvm.Stand.ldc2J X0 hx hown (mvT hZ (own_w hw 14 rfl)) (g := (mkF m 71 #[.val (.long v), .second] [(.long v)])) rfl (hb hby d2_71) ?_
                  show Steps p.tables e below (s₁.setTop (mkF m 74 #[.val (.long v), .second] [(.long (562949953421312 : Int64)), (.long v)])) t_
                  refine XS.lcmp X0.here hx rfl (hb hby d2_74) rfl ?_
                  exact k_
                by_cases hc75_15 : v < (562949953421312 : Int64)
                · refine own_go (A := s₁.setTop (mkF m 80 #[.val (.long v), .second] [(.int (7 : Int32))])) (fun t_ k_ => ?_) ?_
                  · show Steps p.tables e below (s₁.setTop (mkF m 75 #[.val (.long v), .second] [(.int (lcmpW v (562949953421312 : Int64)))])) t_
                    refine XS.ifNo X0.here hx rfl (hb hby d2_75) rfl ((if0 _ _).trans (tlt ((lw_lt _ _).mpr hc75_15)).2.1) ?_
                    show Steps p.tables e below (s₁.setTop (mkF m 78 #[.val (.long v), .second] [])) t_
                    refine XS.bipush X0.here hx rfl (hb hby d2_78) ?_
                    exact k_
                  obtain ⟨fs16, hr16, hrun16, hended16, hW16, hsame16⟩ := X0.leave (v := some (.int (7 : Int32))) (fun h => by rw [Bd.returns] at h; cases h)
                  refine ⟨_, _, ?_, hrun16, hended16, _, _, rfl, ?_, ⟨_, rfl⟩, hW16, hsame16.mono (by decide) (by decide)⟩
                  · exact own_retI X0 hx Bd.returns (hb hby d2_80) hr16
                  · show Q_rmExp Z v h0 n0 _ s₁.heap _
                    rw [e0]
                    exact ⟨(by simp only [own_exp, hc3_1, hc14_3, hc24_5, hc34_7, hc44_9, hc54_11, hc64_13, hc75_15, if_true, if_false, ↓reduceIte]), N0, rfl⟩
                · refine own_go (A := s₁.setTop (mkF m 86 #[.val (.long v), .second] [(.int (lcmpW v (72057594037927936 : Int64)))])) (fun t_ k_ => ?_) ?_
                  · show Steps p.tables e below (s₁.setTop (mkF m 75 #[.val (.long v), .second] [(.int (lcmpW v (562949953421312 : Int64)))])) t_
                    refine XS.ifYes X0.here hx rfl (pc0 := 75) (pc' := 81) rfl (hb hby d2_75) rfl ((if0 _ _).trans (flt (fun q => hc75_15 ((lw_lt _ _).mp q))).2.1) (by decide) (by decide) ?_
                    show Steps p.tables e below (s₁.setTop (mkF m 81 #[.val (.long v), .second] [])) t_
                    refine XS.lloadN X0.here hx rfl (hb hby d2_81) rfl ?_
                    show Steps p.tables e below (s₁.setTop (mkF m 82 #[.val (.long v), .second] [(.long v)])) t_
                    refine Jvm.Stand.ldc2J X0 hx hown (mvT hZ (own_w hw 15 rfl)) (g := (mkF m 82 #[.val (.long v), .second] [(.long v)])) rfl (hb hby d2_82) ?_
                    show Steps p.tables e below (s₁.setTop (mkF m 85 #[.val (.long v), .second] [(.long (72057594037927936 : Int64)), (.long v)])) t_
                    refine XS.lcmp X0.here hx rfl (hb hby d2_85) rfl ?_
                    exact k_
                  by_cases hc86_17 : v < (72057594037927936 : Int64)
                  · refine own_go (A := s₁.setTop (mkF m 91 #[.val (.long v), .second] [(.int (8 : Int32))])) (fun t_ k_ => ?_) ?_
                    · show Steps p.tables e below (s₁.setTop (mkF m 86 #[.val (.long v), .second] [(.int (lcmpW v (72057594037927936 : Int64)))])) t_
                      refine XS.ifNo X0.here hx rfl (hb hby d2_86) rfl ((if0 _ _).trans (tlt ((lw_lt _ _).mpr hc86_17)).2.1) ?_
                      show Steps p.tables e below (s₁.setTop (mkF m 89 #[.val (.long v), .second] [])) t_
                      refine XS.bipush X0.here hx rfl (hb hby d2_89) ?_
                      exact k_
                    obtain ⟨fs18, hr18, hrun18, hended18, hW18, hsame18⟩ := X0.leave (v := some (.int (8 : Int32))) (fun h => by rw [Bd.returns] at h; cases h)
                    refine ⟨_, _, ?_, hrun18, hended18, _, _, rfl, ?_, ⟨_, rfl⟩, hW18, hsame18.mono (by decide) (by decide)⟩
                    · exact own_retI X0 hx Bd.returns (hb hby d2_91) hr18
                    · show Q_rmExp Z v h0 n0 _ s₁.heap _
                      rw [e0]
                      exact ⟨(by simp only [own_exp, hc3_1, hc14_3, hc24_5, hc34_7, hc44_9, hc54_11, hc64_13, hc75_15, hc86_17, if_true, if_false, ↓reduceIte]), N0, rfl⟩
                  · refine own_go (A := s₁.setTop (mkF m 94 #[.val (.long v), .second] [(.int (9 : Int32))])) (fun t_ k_ => ?_) ?_
                    · show Steps p.tables e below (s₁.setTop (mkF m 86 #[.val (.long v), .second] [(.int (lcmpW v (72057594037927936 : Int64)))])) t_
                      refine XS.ifYes X0.here hx rfl (pc0 := 86) (pc' := 92) rfl (hb hby d2_86) rfl ((if0 _ _).trans (flt (fun q => hc86_17 ((lw_lt _ _).mp q))).2.1) (by decide) (by decide) ?_
                      show Steps p.tables e below (s₁.setTop (mkF m 92 #[.val (.long v), .second] [])) t_
                      refine XS.bipush X0.here hx rfl (hb hby d2_92) ?_
                      exact k_
                    obtain ⟨fs19, hr19, hrun19, hended19, hW19, hsame19⟩ := X0.leave (v := some (.int (9 : Int32))) (fun h => by rw [Bd.returns] at h; cases h)
                    refine ⟨_, _, ?_, hrun19, hended19, _, _, rfl, ?_, ⟨_, rfl⟩, hW19, hsame19.mono (by decide) (by decide)⟩
                    · exact own_retI X0 hx Bd.returns (hb hby d2_94) hr19
                    · show Q_rmExp Z v h0 n0 _ s₁.heap _
                      rw [e0]
                      exact ⟨(by simp only [own_exp, hc3_1, hc14_3, hc24_5, hc34_7, hc44_9, hc54_11, hc64_13, hc75_15, hc86_17, if_true, if_false, ↓reduceIte]), N0, rfl⟩
theorem pd_0 : parseMethodDescriptor "(J)I" = some ⟨[.long], some .int⟩ := by decide +kernel
theorem ef_rm0 (m : MethodId) (q1 : Int64) (p2 : Int32) : entryFrame m #[(.long q1), (.int p2)] maxLocals = mkF m 0 #[.val (.long q1), .second, .val (.int p2), .unset, .unset] [] := by first | (simp [entryFrame, mkF, argsToLocals, Value.category, maxLocals]; done) | rfl
def Q_rm0 (Z : State) (q1 : Int64) (p2 : Int32) (h0 : Heap) (n0 : Nat) (v_ : Option Value) (h_ : Heap) (L_ : List Loc) : Prop := v_ = some (.int (1 : Int32)) ∧ Fr n0 L_ ∧ h_ = h0
set_option maxRecDepth 65536 in
set_option maxHeartbeats 40000000 in
theorem rm0 (l : Launch) (Z : State) (a0 : Array Value) (hw : ∀ d ∈ tables_1, d.before a0 Z = true) (ws : List Jvm.Cond) (q1 : Int64) (p2 : Int32) (h0 : Heap) (n0 : Nat) (Z0 : n0 ≤ h0.size)  :
    MetFree l x (head1 (Jvm.Cond.code x code maxLocals ret :: ws) room_1) (fun a_ U_ => a_ = #[(.long q1), (.int p2)] ∧ Z.Warmed39 U_.vm ∧ U_.heap = h0) (fun _ _ _ _ _ => True) (fun _ U_ o_ U2_ => ∃ v_ L_, o_ = .returned v_ ∧ Q_rm0 Z q1 p2 h0 n0 v_ U2_.heap L_ ∧ FrameEnd U_ o_ U2_ L_ room_1.cells room_1.slots) := by
  refine MetFree.of_bodySF (plainFor_of_name pn_1) hisR ?_
  intro p e s m args below meth c s₁ Bd hml0 hP hK
  obtain ⟨rfl, hZ, hh⟩ := hP
  have hx := Bd.exec
  have hby := Bd.bytes
  have hml : c.maxLocals = 5 := hml0
  have hown : s.vm.findClass "com/example/vestwright/vestwright/io/VarintSizePinLaw" = some m.cls := findClass_of_methodNamed Bd.named
  have hnm := (name_of_methodNamed Bd.named Bd.method).1
  have X0 : Stand p l e room_1 s m #[(.long q1), (.int p2)] below meth c s₁ [] 0 0 := Stand.of_body Bd
  have e0 : s₁.heap = h0 := by rw [← hh, Bd.state]; rfl
  have N0 := Fr.nil n0
  refine own_go (A := s₁.setTop (mkF m 0 #[.val (.long q1), .second, .val (.int p2), .unset, .unset] [])) (fun t_ k_ => castTop (ef_rm0 m q1 p2) k_) ?_
  refine own_go (A := s₁.setTop (mkF m 6 #[.val (.long q1), .second, .val (.int p2), .unset, .unset] [(.long ((q1).toUInt64 >>> ((p2 &&& (63 : Int32)) &&& 0x3f).toInt64.toUInt64).toInt64)])) (fun t_ k_ => ?_) ?_
  · show Steps p.tables e below (s₁.setTop (mkF m 0 #[.val (.long q1), .second, .val (.int p2), .unset, .unset] [])) t_
    refine XS.lloadN X0.here hx rfl (hb hby at_0) rfl ?_
    show Steps p.tables e below (s₁.setTop (mkF m 1 #[.val (.long q1), .second, .val (.int p2), .unset, .unset] [(.long q1)])) t_
    refine XS.iloadN X0.here hx rfl (hb hby at_1) rfl ?_
    show Steps p.tables e below (s₁.setTop (mkF m 2 #[.val (.long q1), .second, .val (.int p2), .unset, .unset] [(.int p2), (.long q1)])) t_
    refine XS.bipush X0.here hx rfl (hb hby at_2) ?_
    show Steps p.tables e below (s₁.setTop (mkF m 4 #[.val (.long q1), .second, .val (.int p2), .unset, .unset] [(.int (63 : Int32)), (.int p2), (.long q1)])) t_
    refine XS.iand X0.here hx rfl (hb hby at_4) rfl ?_
    show Steps p.tables e below (s₁.setTop (mkF m 5 #[.val (.long q1), .second, .val (.int p2), .unset, .unset] [(.int (p2 &&& (63 : Int32))), (.long q1)])) t_
    refine XS.lushr X0.here hx rfl (hb hby at_5) rfl ?_
    exact k_
  obtain ⟨y1, hqy1⟩ : ∃ z : Int64, z = ((q1).toUInt64 >>> ((p2 &&& (63 : Int32)) &&& 0x3f).toInt64.toUInt64).toInt64 := ⟨_, rfl⟩
  rw [← hqy1]
  refine own_go (A := s₁.setTop (mkF m 8 #[.val (.long q1), .second, .val (.int p2), .val (.long y1), .second] [(.long y1)])) (fun t_ k_ => ?_) ?_
  · show Steps p.tables e below (s₁.setTop (mkF m 6 #[.val (.long q1), .second, .val (.int p2), .unset, .unset] [(.long y1)])) t_
    refine XS.lstoreN X0.here hx rfl (hb hby at_6) rfl (l' := #[.val (.long q1), .second, .val (.int p2), .val (.long y1), .second]) rfl ?_
    show Steps p.tables e below (s₁.setTop (mkF m 7 #[.val (.long q1), .second, .val (.int p2), .val (.long y1), .second] [])) t_
    refine XS.lloadN X0.here hx rfl (hb hby at_7) rfl ?_
    exact k_
  obtain ⟨_, _, ⟨T2, L2, k2, n2⟩, -, X2, ⟨Lc2, hQ2, l2, y2, z2⟩, st2⟩ := Jvm.LawKit.callS X0 hx (y := own_y0) hown (mvT hZ (own_w hw 0 rfl)) (mvT hZ (own_w hw 1 rfl)) (mvT hZ (own_w hw 2 rfl)) (mvT hZ (own_w hw 3 rfl)) (by decide) (backOf (W := 0) (rmSize l Z a0 hw [] y1 h0 n0 Z0) hZ (own_w hw 3 rfl) (own_w hw 2 rfl) (by decide) (by decide)) (g := (mkF m 8 #[.val (.long q1), .second, .val (.int p2), .val (.long y1), .second] [(.long y1)])) rfl (by rw [hml]; rfl) (argsL := [(.long y1)]) (rest := []) (lenOf pd_0 rfl) rfl (by show 2 * 0 + _ ≤ _; exact Nat.le_of_eq rfl) (hb hby at_8) (fun _ _ => ⟨rfl, e0, (by decide : 0 + 0 ≤ _), (by decide : 0 + 0 ≤ _)⟩)
  dsimp only [Pt.U, Pt.locs, Pt.cells, Pt.slots] at X2 l2 y2 z2 st2 hQ2
  subst l2 y2 z2
  obtain ⟨rfl, N2q, eh2⟩ := hQ2
  have N2 := Fr.app N0 N2q
  refine own_go st2 ?_
  refine own_go (A := T2.setTop (mkF m 12 #[.val (.long q1), .second, .val (.int p2), .val (.long y1), .second] [(.long y1), (.int (own_exp y1))])) (fun t_ k_ => ?_) ?_
  · show Steps p.tables e below (T2.setTop (mkF m 11 #[.val (.long q1), .second, .val (.int p2), .val (.long y1), .second] [(.int (own_exp y1))])) t_
    refine XS.lloadN X2.here hx rfl (hb hby at_11) rfl ?_
    exact k_
  obtain ⟨_, _, ⟨T3, L3, k3, n3⟩, -, X3, ⟨Lc3, hQ3, l3, y3, z3⟩, st3⟩ := Jvm.LawKit.callS X2 hx (y := own_y1) hown (mvT hZ (own_w hw 4 rfl)) (mvT hZ (own_w hw 5 rfl)) (mvT hZ (own_w hw 6 rfl)) (mvT hZ (own_w hw 7 rfl)) (by decide) (backOf (W := 1) (rmExp l Z a0 hw [] y1 h0 n0 Z0) hZ (own_w hw 7 rfl) (own_w hw 6 rfl) (by decide) (by decide)) (g := (mkF m 12 #[.val (.long q1), .second, .val (.int p2), .val (.long y1), .second] [(.long y1), (.int (own_exp y1))])) rfl (by rw [hml]; rfl) (argsL := [(.long y1)]) (rest := [(.int (own_exp y1))]) (lenOf pd_0 rfl) rfl (by show 2 * 0 + _ ≤ _; exact Nat.le_of_eq rfl) (hb hby at_12) (fun _ _ => ⟨rfl, eh2, (by decide : 0 + 0 ≤ _), (by decide : 0 + 0 ≤ _)⟩)
  dsimp only [Pt.U, Pt.locs, Pt.cells, Pt.slots] at X3 l3 y3 z3 st3 hQ3
  subst l3 y3 z3
  obtain ⟨rfl, N3q, eh3⟩ := hQ3
  have N3 := Fr.app N2 N3q
  refine own_go st3 ?_
  refine own_go (A := T3.setTop (mkF m 23 #[.val (.long q1), .second, .val (.int p2), .val (.long y1), .second] [(.int (1 : Int32))])) (fun t_ k_ => ?_) ?_
  · show Steps p.tables e below (T3.setTop (mkF m 15 #[.val (.long q1), .second, .val (.int p2), .val (.long y1), .second] [(.int (own_exp y1)), (.int (own_exp y1))])) t_
    refine XS.icmpNo X3.here hx rfl (hb hby at_15) rfl (teq (rfl : (own_exp y1) = (own_exp y1))).2 ?_
    show Steps p.tables e below (T3.setTop (mkF m 18 #[.val (.long q1), .second, .val (.int p2), .val (.long y1), .second] [])) t_
    refine XS.iconst X3.here hx rfl (hb hby at_18) ?_
    show Steps p.tables e below (T3.setTop (mkF m 19 #[.val (.long q1), .second, .val (.int p2), .val (.long y1), .second] [(.int (1 : Int32))])) t_
    refine XS.goto X3.here hx rfl (pc0 := 19) (pc' := 23) rfl (hb hby at_19) (by decide) (by decide) ?_
    exact k_
  obtain ⟨fs4, hr4, hrun4, hended4, hW4, hsame4⟩ := X3.leave (v := some (.int (1 : Int32))) (fun h => by rw [Bd.returns] at h; cases h)
  refine ⟨_, _, ?_, hrun4, hended4, _, _, rfl, ?_, ⟨_, rfl⟩, hW4, hsame4.mono (by decide) (by decide)⟩
  · exact retN X3 hx (t := .boolean) Bd.returns (by simp) (hb hby at_23) hr4
  · show Q_rm0 Z q1 p2 h0 n0 _ T3.heap _
    rw [eh3]
    exact ⟨rfl, N3, rfl⟩
set_option maxRecDepth 65536 in
set_option maxHeartbeats 40000000 in
theorem comes_1 {Post : Tables → Env → Array Value → State → Outcome → State → Prop} (hpost : ∀ tb e args s v u, (limb_1_1.after args s (.returned v) u = true ∧ limb_1_2.after args s (.returned v) u = true ∧ True) → FrameEnd s (.returned v) u (Jvm.fieldLocs frame_1_writes args s ++ Jvm.arrayLocs frame_1_arrays args s ++ Jvm.staticLocs frame_1_statics s) 0 0 → Post tb e args s (.returned v) u) :
    ArmFor flags0 classFile x code maxLocals ret World_1 tables_1 room_1 Calls_1 rest_1 Pre_1 Post := by
  intro l hfl _ _ p e ha hc hk s m args below hf hA hF happ hP
  obtain ⟨hcalls, hrest, hpre⟩ := hP
  obtain ⟨-, -, -, hnamed, -, -, -, hat⟩ := (Spec.applies_iff hf).mp happ
  obtain ⟨hg, hn⟩ := and_e (Cond.before_iff.mp (show (Jvm.Cond.and given_1 narrow_1).before args s = true from hpre))
  obtain ⟨hg_0, hg_1⟩ := and_e hg
  obtain ⟨hg_2, hg_3⟩ := and_e hg_1
  obtain ⟨w0, w1, rfl⟩ : ∃ w0 w1 : Value, args = #[w0, w1] := by
    have hs : args.size = 2 := by simpa [Cond.value, given_1] using hg_0
    obtain ⟨L⟩ := args
    match L, hs with
    | [w0, w1], _ => exact ⟨w0, w1, rfl⟩
  have hw := fun d (hd : d ∈ tables_1) => atoms_spec (ws := Jvm.Cond.code x code maxLocals ret :: tables_1) hat d (List.mem_cons_of_mem _ hd)
  have hfit : Fit s := fun {y c} hc i hi => by
    obtain ⟨ha, rfl⟩ := Array.getElem?_eq_some_iff.mp hc
    have q := List.all_eq_true.mp ((Array.all_eq_true_iff_forall_mem.mp hF) _ (Array.getElem_mem ha)) i (List.mem_range.mpr hi)
    simpa [Array.getElem?_eq_getElem hi] using q
  obtain ⟨i0, ei0⟩ := isL_v hg_2
  obtain rfl : w0 = (.long i0) := Option.some.inj ei0
  obtain ⟨i1, ei1⟩ := is_v hg_3
  obtain rfl : w1 = (.int i1) := Option.some.inj ei1
  obtain ⟨n, o, h1, h2, h3, _, L, rfl, ⟨rfl, N, -⟩, hq⟩ := rm0 l s _ hw tables_1 i0 i1 s.heap s.heap.size (Nat.le_refl _) p e ha hc hk s m _ below hf ((Spec.applies_iff_loose hf).mp happ).1 ⟨rfl, State.Warmed39.refl s, rfl⟩ trivial
  refine ⟨n, _, h1, h2, h3, hpost _ _ _ _ _ _ ⟨Cond.after_iff.mpr rfl, Cond.after_iff.mpr (eq_i res_at (Term.int_eval (1)) rfl), trivial⟩ ⟨hq.1, hq.2.1, (hq.2.2.sift fun y hy => Or.inr (N y hy)).mono (by decide) (by decide)⟩⟩
theorem main_1_1 : Claimed_1_1 := comes_1 fun _ _ _ _ _ _ h hF => ⟨h.1, hF⟩
theorem main_1_2 : Claimed_1_2 := comes_1 fun _ _ _ _ _ _ h hF => ⟨h.2.1, hF⟩
end Jvm.Pilot.@@N@@
namespace Jvm.Pilot.@@N@@
open Jvm Jvm.ClassFile Sem Op Lib Jvm.Free Jvm.Stand Jvm.Pilot.@@N@@.Jvm.D
/-! MADE BY PROGRAM (witnessworld.py) out of the Statement's table words and the real class files: 9 classes; the members and pool entries that the words name. The judged class is class 1, her method 2. -/
namespace start1
open Jvm.ClassFile
def u (s : String) : CpInfo := .utf8 (stringToUtf16 s)
/-- a pool by its gaps: so many unusable entries, then the entry; so many at the end -/
def gap : Nat → List CpInfo → List CpInfo
  | 0, r => r
  | n + 1, r => .unusable :: gap n r
def poolList (es : List (Nat × CpInfo)) (last : Nat) : List CpInfo := es.foldr (fun e r => gap e.1 (e.2 :: r)) (gap last [])
def pool (es : List (Nat × CpInfo)) (last : Nat) : Array CpInfo := ⟨poolList es last⟩
def fileOf (pool : Array CpInfo) (this : Nat) (attrs : Array Attribute := #[]) (ms : Array MethodInfo := #[]) (fl : Nat := 33) (sup : Nat := 0) (ifs : Array Nat := #[]) (fds : Array FieldInfo := #[]) : ClassFile where
  minorVersion := 0
  majorVersion := 65
  constantPool := pool
  accessFlags := fl
  thisClass := this
  superClass := sup
  interfaces := ifs
  fields := fds
  methods := ms
  attributes := attrs
def plain (name : String) (sup : Option ClassId) : Class where
  name := name
  kind := .ordinary
  loader := none
  accessFlags := 33
  super := sup
  interfaces := #[]
  cf := none
  fields := #[]
  methods := #[]
  instanceTypes := #[]
  staticTypes := #[]
  resolved := #[]
  callSites := []
  init := .initialized
  statics := none
  mirror := none

def pool0 : Array CpInfo := pool [(5, u "<init>"), (0, u "()V"), (1, .class_ 10), (1, u "java/lang/Object")] 113

def k0m0 : Method := { name := "<init>", desc := "()V", sig := { parameters := [], returnType := none }, accessFlags := 1, code := none }
/-- java/lang/Object -/
def k0 : Class := { plain "java/lang/Object" none with
  accessFlags := 33
  interfaces := #[]
  cf := some (fileOf pool0 8 #[] #[{ accessFlags := 1, nameIndex := 5, descriptorIndex := 6, attributes := #[] }] 33 0 #[] #[])
  fields := #[]
  methods := #[k0m0]
  instanceTypes := #[]
  staticTypes := #[]
  resolved := Array.replicate 124 none
  statics := none }

def pool1 : Array CpInfo := pool [(2, .class_ 4), (1, u "java/lang/Object"), (0, u "<init>"), (0, u "()V"), (0, .long 128), (1, .long 16384), (1, .long 2097152), (1, .long 268435456), (1, .long 34359738368), (1, .long 4398046511104), (1, .long 562949953421312), (1, .long 72057594037927936), (1, .methodref 24 25), (0, .class_ 26), (0, .nameAndType 27 28), (0, u "com/example/vestwright/vestwright/io/Varint"), (0, u "size"), (0, u "(J)I"), (0, .methodref 30 31), (0, .class_ 32), (0, .nameAndType 33 28), (0, u "com/example/vestwright/vestwright/io/VarintSizePinLaw"), (0, u "expected"), (3, u "law"), (0, u "(JI)Z")] 2

def k1m0 : Method := { name := "<init>", desc := "()V", sig := { parameters := [], returnType := none }, accessFlags := 2, code := none }
def k1c1 : Code := { maxStack := 4, maxLocals := 2, code := method_2_code, exceptionTable := #[], attributes := #[] }
def k1m1 : Method := { name := "expected", desc := "(J)I", sig := { parameters := [.long], returnType := some .int }, accessFlags := 10, code := some k1c1 }
def k1c2 : Code := { maxStack := 4, maxLocals := 5, code := code, exceptionTable := #[], attributes := #[] }
def k1m2 : Method := { name := "law", desc := "(JI)Z", sig := { parameters := [.long, .int], returnType := some .boolean }, accessFlags := 9, code := some k1c2 }
/-- com/example/vestwright/vestwright/io/VarintSizePinLaw -/
def k1 : Class := { plain "com/example/vestwright/vestwright/io/VarintSizePinLaw" (some 0) with
  accessFlags := 49
  interfaces := #[]
  cf := some (fileOf pool1 30 #[] #[{ accessFlags := 2, nameIndex := 5, descriptorIndex := 6, attributes := #[] }, { accessFlags := 10, nameIndex := 33, descriptorIndex := 28, attributes := #[] }, { accessFlags := 9, nameIndex := 37, descriptorIndex := 38, attributes := #[] }] 49 2 #[] #[])
  fields := #[]
  methods := #[k1m0, k1m1, k1m2]
  instanceTypes := #[]
  staticTypes := #[]
  resolved := Array.replicate 41 none
  statics := none }

def pool2 : Array CpInfo := pool [(2, .class_ 4), (1, u "java/lang/Object"), (0, u "<init>"), (0, u "()V"), (0, .class_ 8), (0, u "com/example/vestwright/vestwright/io/Varint"), (14, u "INT_BYTES"), (0, u "I"), (2, u "LOW_BITS"), (1, u "MORE"), (3, u "size"), (0, u "(J)I")] 7

def k2m0 : Method := { name := "<init>", desc := "()V", sig := { parameters := [], returnType := none }, accessFlags := 2, code := none }
def k2c1 : Code := { maxStack := 4, maxLocals := 5, code := prog_84_method_2_code, exceptionTable := #[], attributes := #[] }
def k2m1 : Method := { name := "size", desc := "(J)I", sig := { parameters := [.long], returnType := some .int }, accessFlags := 8, code := some k2c1 }
/-- com/example/vestwright/vestwright/io/Varint -/
def k2 : Class := { plain "com/example/vestwright/vestwright/io/Varint" (some 0) with
  accessFlags := 48
  interfaces := #[]
  cf := some (fileOf pool2 7 #[] #[{ accessFlags := 2, nameIndex := 5, descriptorIndex := 6, attributes := #[] }, { accessFlags := 8, nameIndex := 33, descriptorIndex := 34, attributes := #[] }] 48 2 #[] #[{ accessFlags := 24, nameIndex := 23, descriptorIndex := 24, attributes := #[] }, { accessFlags := 26, nameIndex := 27, descriptorIndex := 24, attributes := #[] }, { accessFlags := 26, nameIndex := 29, descriptorIndex := 24, attributes := #[] }])
  fields := #[{ name := "INT_BYTES", type := .int, accessFlags := 24, slot := 0, constantValue := 0 }, { name := "LOW_BITS", type := .int, accessFlags := 26, slot := 1, constantValue := 0 }, { name := "MORE", type := .int, accessFlags := 26, slot := 2, constantValue := 0 }]
  methods := #[k2m0, k2m1]
  instanceTypes := #[]
  staticTypes := #[.int, .int, .int]
  resolved := Array.replicate 42 none
  statics := none }

def pool3 : Array CpInfo := pool [(1, u "java/lang/Cloneable"), (0, .class_ 1), (0, u "java/lang/Object"), (0, .class_ 3)] 3

/-- java/lang/Cloneable -/
def k3 : Class := { plain "java/lang/Cloneable" (some 0) with
  accessFlags := 1537
  interfaces := #[]
  cf := some (fileOf pool3 2 #[] #[] 1537 4 #[] #[])
  fields := #[]
  methods := #[]
  instanceTypes := #[]
  staticTypes := #[]
  resolved := Array.replicate 8 none
  statics := none }

def pool4 : Array CpInfo := pool [(1, u "java/io/Serializable"), (0, .class_ 1), (0, u "java/lang/Object"), (0, .class_ 3)] 3

/-- java/io/Serializable -/
def k4 : Class := { plain "java/io/Serializable" (some 0) with
  accessFlags := 1537
  interfaces := #[]
  cf := some (fileOf pool4 2 #[] #[] 1537 4 #[] #[])
  fields := #[]
  methods := #[]
  instanceTypes := #[]
  staticTypes := #[]
  resolved := Array.replicate 8 none
  statics := none }

/-- the primitive byte -/
def k5 : Class := { plain "byte" none with kind := .primitive 'B', accessFlags := 0x411 }
/-- [B -/
def k6 : Class := { plain "[B" (some 0) with kind := .array 5 .byte, interfaces := #[3, 4], accessFlags := 1041 }

/-- the primitive int -/
def k7 : Class := { plain "int" none with kind := .primitive 'I', accessFlags := 0x411 }
/-- [I -/
def k8 : Class := { plain "[I" (some 0) with kind := .array 7 .int, interfaces := #[3, 4], accessFlags := 1041 }

def heap : Heap := #[]
def classes : Array Class := #[k0, k1, k2, k3, k4, k5, k6, k7, k8]
def interned : List (Array UInt16 × Addr) := []
def slotsUsed : Nat := 0
def theMethod : MethodId := ⟨1, 2⟩
def args0 : Array Value := #[.long 300, .int 1]
def aboutOver (below : List Frame) : State where
  vm := { classes := classes, interned := interned.toArray }
  heap := heap
  slotsUsed := slotsUsed
  threads := #[{ frames := .invoking theMethod args0 :: below }]
def below0 : List Frame := [.native { method := ⟨0, 0⟩, args := #[] }]
def about1 : State := aboutOver below0
def p0 : Program := .bare "" "" ""
def e0 : Env := launch0.env 0 0 0
theorem w_frames : about1.frames = Frame.invoking theMethod args0 :: below0 := rfl
set_option maxRecDepth 65536 in
theorem w_args : argsFit about1.vm theMethod args0 = true := by decide +kernel
set_option maxRecDepth 65536 in
theorem w_heap : heapFits about1 = true := by decide +kernel
set_option maxRecDepth 65536 in
theorem w_runnable : about1.curStatus? = some .runnable := by decide +kernel
set_option maxRecDepth 65536 in
theorem w_alone : about1.alone = true := by decide +kernel
set_option maxRecDepth 65536 in
theorem w_named : about1.methodNamed? x = some theMethod := by decide +kernel
set_option maxRecDepth 65536 in
theorem w_hears : about1.hears theMethod below0 = true := by decide +kernel
set_option maxRecDepth 65536 in
theorem w_ripe : about1.ripe theMethod args0 below0 = true := by decide +kernel
theorem w_running : about1.status = .running := rfl
set_option maxRecDepth 65536 in
theorem w_room : about1.hasRoom e0.platform room_1 = true :=
  launch0.hasRoom_least _ room_1 (by decide +kernel) (by decide +kernel) (by decide +kernel) (by decide +kernel) (by decide +kernel) (by decide +kernel)
theorem allAtoms_all (ts : List Jvm.Cond) (a : Array Jvm.Value) (st : Jvm.State) : (allAtoms ts).before a st = ts.all (fun c => c.before a st) := by
  induction ts with
  | nil => rfl
  | cons c t ih =>
    show (Jvm.Cond.and c (allAtoms t)).before a st = _
    rw [Jvm.Cond.before_and, ih, List.all_cons]
def words1 : List Jvm.Cond := Jvm.Cond.code x code maxLocals ret :: tables_1
/-- a 'code' word, met by the world's own term for the bytes: nothing is compared byte by byte -/
theorem code_word {y : MethodName} {bytes : ByteArray} {mx : Nat} {rt : Option FieldType} {a : Array Value} {s : State} {m : MethodId} {meth : Method} {c : Code} (h1 : s.methodNamed? y = some m) (h2 : s.vm.method? m = some meth) (h3 : meth.code = some c) (h4 : c.code = bytes)
    (h5 : (c.maxLocals == mx && c.exceptionTable.isEmpty && decide (c.maxStack ≤ mostOperands) && decide (meth.sig.returnType = rt) && !meth.locks && decide (parseMethodDescriptor y.desc = some meth.sig)) = true) : (Jvm.Cond.code y bytes mx rt).before a s = true := by
  simp only [Bool.and_eq_true, beq_iff_eq, Bool.not_eq_true', decide_eq_true_eq] at h5
  obtain ⟨⟨⟨⟨⟨g1, g2⟩, g3⟩, g4⟩, g5⟩, g6⟩ := h5
  simp [Cond.before, Cond.holds, Cond.value, h1, h2, h3, h4, g1, g2, g3, g4, g5, g6]
def isCode : Jvm.Cond → Bool
  | .code _ _ _ _ => true
  | _ => false
theorem all_split {L : List Jvm.Cond} {P : Jvm.Cond → Bool} (h1 : L.all (fun c => isCode c || P c) = true) (h2 : ∀ c ∈ L.filter isCode, P c = true) : L.all P = true := by
  refine List.all_eq_true.mpr fun c hc => ?_
  have h := List.all_eq_true.mp h1 c hc
  rcases Bool.eq_false_or_eq_true (isCode c) with hi | hi
  · exact h2 c (List.mem_filter.mpr ⟨hc, hi⟩)
  · simpa [hi] using h
set_option maxRecDepth 65536 in
theorem w_c0 : (Jvm.Cond.code x code maxLocals ret).before args0 about1 = true := code_word (m := ⟨1, 2⟩) (meth := k1m2) (c := k1c2) (by decide +kernel) rfl rfl rfl (by decide +kernel)
set_option maxRecDepth 65536 in
theorem w_c1 : (Jvm.Cond.code ({ cls := "com/example/vestwright/vestwright/io/Varint", name := "size", desc := "(J)I" } : Jvm.MethodName) prog_84_method_2_code (5 : Nat) (Option.some Jvm.ClassFile.FieldType.int)).before args0 about1 = true := code_word (m := ⟨2, 1⟩) (meth := k2m1) (c := k2c1) (by decide +kernel) rfl rfl rfl (by decide +kernel)
set_option maxRecDepth 65536 in
theorem w_c2 : (Jvm.Cond.code ({ cls := "com/example/vestwright/vestwright/io/VarintSizePinLaw", name := "expected", desc := "(J)I" } : Jvm.MethodName) method_2_code (2 : Nat) (Option.some Jvm.ClassFile.FieldType.int)).before args0 about1 = true := code_word (m := ⟨1, 1⟩) (meth := k1m1) (c := k1c1) (by decide +kernel) rfl rfl rfl (by decide +kernel)
def codes1 : List Jvm.Cond := [Jvm.Cond.code x code maxLocals ret, Jvm.Cond.code ({ cls := "com/example/vestwright/vestwright/io/Varint", name := "size", desc := "(J)I" } : Jvm.MethodName) prog_84_method_2_code (5 : Nat) (Option.some Jvm.ClassFile.FieldType.int), Jvm.Cond.code ({ cls := "com/example/vestwright/vestwright/io/VarintSizePinLaw", name := "expected", desc := "(J)I" } : Jvm.MethodName) method_2_code (2 : Nat) (Option.some Jvm.ClassFile.FieldType.int)]
set_option maxRecDepth 65536 in
theorem codes_eq : words1.filter isCode = codes1 := rfl
theorem w_codes : ∀ c ∈ words1.filter isCode, c.before args0 about1 = true := by
  rw [codes_eq]
  intro c hc
  simp only [codes1, List.mem_cons, List.not_mem_nil, or_false] at hc
  rcases hc with rfl | rfl | rfl
  · exact w_c0
  · exact w_c1
  · exact w_c2
set_option maxRecDepth 65536 in
theorem w_t1 : words1.all (fun c => isCode c || c.before args0 about1) = true := by decide +kernel
theorem w_tables : (allAtoms (Jvm.Cond.code x code maxLocals ret :: tables_1)).before args0 about1 = true := by
  rw [allAtoms_all]
  show words1.all (fun c => c.before args0 about1) = true
  refine all_split ?_ w_codes
  rw [w_t1]
set_option maxRecDepth 65536 in
theorem w_case : (Jvm.Cond.and given_1 narrow_1).before args0 about1 = true := by decide +kernel
theorem w_applies : (headSpec (Jvm.Cond.code x code maxLocals ret :: tables_1) room_1).applies x e0.platform about1 = true :=
  (Spec.applies_iff w_frames).mpr ⟨w_running, w_runnable, w_alone, w_named, w_hears, w_ripe, w_room, w_tables⟩
theorem atStart : AtStart classFile x code maxLocals ret World_1 tables_1 room_1 Calls_1 rest_1 Pre_1 launch0 p0 e0 about1 theMethod args0 below0 :=
  ⟨lists_1, trivial, launch0.admits_env _ _ _, launch0.least_env, fairChoices_fair.cas, fairChoices_fair.clock, w_frames, w_args, w_heap, w_applies, trivial, trivial, w_case⟩
end start1
theorem witness_1 : WitnessClaimed_1 := ⟨start1.p0, start1.e0, start1.about1, start1.theMethod, start1.args0, start1.below0, start1.atStart⟩
end Jvm.Pilot.@@N@@
