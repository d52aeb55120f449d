import JvmDerived
import JvmDerived.Pilot.@@N@@Statement
import JvmDerived.Pilot.@@N@@Code
set_option linter.unusedVariables false
set_option linter.unusedSimpArgs false
namespace Jvm.Pilot.@@N@@
open Jvm Jvm.ClassFile Sem Op Lib Jvm.Free Jvm.Stand Jvm.LawKit Jvm.RoadKit Bundle Jvm.Pilot.@@N@@.Jvm.D
theorem own_retI {p : Program} {l : Launch} {e : Env} {R : Room} {s : State} {m : MethodId} {args : Array Value} {below : List Frame} {meth : Method} {c : Code} {T : State} {locs : List Loc} {cells slots : Nat} (X : Stand p l e R s m args below meth c T locs cells slots) (hx : p.tables.exec = Jvm.exec) {pc : Nat} {Ls : Array Slot} {z : Int32} {rest : List Value} (hret : meth.sig.returnType = some .int) (hd : decode c.code pc = .ok (.ireturn, 1)) {fs : List Frame}
    (hl : ∀ (f : JFrame) (acts : List Action), f.method = m → f.locked = none → f.entered = [] → (doReturn e (T.setTop f) acts (some (.int z))).1 = T.setFrames fs) : Steps p.tables e below (T.setTop (mkF m pc Ls (.int z :: rest))) (T.setFrames fs) :=
  retOut X hx hret rfl (Or.inl ⟨rfl, Or.inl rfl, z, rfl⟩) hd hl
theorem own_retJ {p : Program} {l : Launch} {e : Env} {R : Room} {s : State} {m : MethodId} {args : Array Value} {below : List Frame} {meth : Method} {c : Code} {T : State} {locs : List Loc} {cells slots : Nat} (X : Stand p l e R s m args below meth c T locs cells slots) (hx : p.tables.exec = Jvm.exec) {pc : Nat} {Ls : Array Slot} {z : Int64} {rest : List Value} (hret : meth.sig.returnType = some .long) (hd : decode c.code pc = .ok (.lreturn, 1)) {fs : List Frame}
    (hl : ∀ (f : JFrame) (acts : List Action), f.method = m → f.locked = none → f.entered = [] → (doReturn e (T.setTop f) acts (some (.long z))).1 = T.setFrames fs) : Steps p.tables e below (T.setTop (mkF m pc Ls (.long z :: rest))) (T.setFrames fs) :=
  retOut X hx hret rfl (Or.inr (Or.inl ⟨rfl, rfl, z, rfl⟩)) hd hl
theorem own_retA {p : Program} {l : Launch} {e : Env} {R : Room} {s : State} {m : MethodId} {args : Array Value} {below : List Frame} {meth : Method} {c : Code} {T : State} {locs : List Loc} {cells slots : Nat} (X : Stand p l e R s m args below meth c T locs cells slots) (hx : p.tables.exec = Jvm.exec) {pc : Nat} {Ls : Array Slot} {w : Value} {rest : List Value} {t : FieldType} (hret : meth.sig.returnType = some t) (ht : t.isReference = true) (hn : narrow t w = w) (hw : w.isRef = true) (hd : decode c.code pc = .ok (.areturn, 1)) {fs : List Frame}
    (hl : ∀ (f : JFrame) (acts : List Action), f.method = m → f.locked = none → f.entered = [] → (doReturn e (T.setTop f) acts (some w)).1 = T.setFrames fs) : Steps p.tables e below (T.setTop (mkF m pc Ls (w :: rest))) (T.setFrames fs) :=
  retOut X hx hret hn (Or.inr (Or.inr (Or.inr (Or.inr ⟨rfl, ht, hw⟩)))) hd hl
theorem own_go {tb : Tables} {e : Env} {below : List Frame} {A B : State} {R : State → Outcome → Prop} (st : ∀ t, Steps tb e below A t → Steps tb e below B t) (h : ∃ U o, Steps tb e below A U ∧ R U o) : ∃ U o, Steps tb e below B U ∧ R U o := by
  obtain ⟨U, o, h1, h2⟩ := h
  exact ⟨U, o, st U h1, h2⟩
theorem own_via {tb : Tables} {e : Env} {below : List Frame} {A B : State} {R : State → Outcome → Prop} (st : Steps tb e below B A) (h : ∃ U o, Steps tb e below A U ∧ R U o) : ∃ U o, Steps tb e below B U ∧ R U o := by
  obtain ⟨U, o, h1, h2⟩ := h
  exact ⟨U, o, st.trans h1, h2⟩
theorem own_eqInt {t : Term} {k : Int32} {args : Array Value} {s : State} (h : (Jvm.Cond.eq t (.int k)).value args s none s [] = some true) : t.eval args s none [] s = some (.int k) := by
  cases ha : t.eval args s none [] s with
  | none => simp [Cond.value, ha] at h
  | some x => cases x <;> simp_all [Cond.value, Term.eval, Value.isRef]
theorem own_selP {s : State} {args : Array Value} {y : MethodName} {n : Nat} (hinst : (Jvm.Cond.instanceMethod y).before args s = true) (hp : (Jvm.Cond.privateMethod y).before args s = true) (hi : (Jvm.Cond.instantiable y.cls n).before args s = true) (hy : y.cls ≠ "java/lang/invoke/MethodHandle" ∧ y.cls ≠ "java/lang/invoke/VarHandle") : (Jvm.Cond.selects y.cls y y).before args s = true := by
  obtain ⟨c, k, h1, h2, -, h4, -, -⟩ := Cond.instantiable_spec hi
  simp only [Bool.or_eq_false_iff] at h4
  exact selects_self_of_private h1 h2 h4.1 (Cond.privateMethod_at hp) hinst hy
theorem own_stoV {Z : State} {h : Heap} {a y : Addr} {k : ClassId} {ty : FieldType} {n : Int32} {vs : List Value} {d : Value} {C : String} (F : Arv Z h a k ty n vs d) (O : Ovr Z k C) (I : Ins Z h y C true) : Sto Z h a (.ref y) := by
  obtain ⟨c, A, q, -⟩ := F
  exact Sto.ofV A q O I
theorem own_cat1 {v : Value} (h : v.isRef = true) : v.category = 1 := by cases v <;> simp_all [Value.isRef, Value.category]
theorem own_nref {t : FieldType} {v : Value} (h : v.isRef = true) : narrow t v = v := by cases v <;> simp_all [Value.isRef, narrow]
theorem own_narb (x : Int32) : nar .byte x.toInt8.toInt32 = x.toInt8.toInt32 := by simp [nar]
theorem own_w {Z : State} {a0 : Array Value} (hw : ∀ d ∈ tables_1, d.before a0 Z = true) (i : Nat) {d : Jvm.Cond} (h : tables_1[i]? = some d) : d.before a0 Z = true := hw _ (List.mem_of_getElem? h)
theorem own_bT {P : Prop} [Decidable P] (h : P) : (if P then (1 : Int32) else 0) = 1 := if_pos h
theorem own_bF {P : Prop} [Decidable P] (h : ¬ P) : (if P then (1 : Int32) else 0) = 0 := if_neg h
theorem own_narB {P : Prop} [Decidable P] : nar .boolean (if P then (1 : Int32) else 0) = (if P then (1 : Int32) else 0) := by split <;> rfl
theorem d2_0 : decode jdk_2038_method_1_code 0 = .ok (.aload_n 0, 1) := by decide +kernel
theorem d2_1 : decode jdk_2038_method_1_code 1 = .ok (.invokespecial 1, 3) := by decide +kernel
theorem d2_4 : decode jdk_2038_method_1_code 4 = .ok (.return_, 1) := by decide +kernel
abbrev own_y0 : MethodName := ⟨"java/io/OutputStream", "<init>", "()V"⟩
theorem ef_rmOS (m : MethodId) (a : Addr) : entryFrame m #[(.ref a)] 1 = mkF m 0 #[.val (.ref a)] [] := by first | (simp [entryFrame, mkF, argsToLocals, Value.category]; done) | rfl
def Q_rmOS (Z : State) (a : Addr) (h0 : Heap) (n0 : Nat) (v_ : Option Value) (h_ : Heap) (L_ : List Loc) : Prop := v_ = none ∧ Fr n0 L_ ∧ h_ = h0
theorem pn_0 : plainName "java/io/OutputStream" = true := by first | (simp [plainName, overriddenIn]; done) | decide +kernel
set_option maxRecDepth 65536 in
set_option maxHeartbeats 40000000 in
theorem rmOS (l : Launch) (Z : State) (a0 : Array Value) (hw : ∀ d ∈ tables_1, d.before a0 Z = true) (ws : List Jvm.Cond) (a : Addr) (h0 : Heap) (n0 : Nat) (Z0 : n0 ≤ h0.size)  :
    MetFree l own_y0 (head1 (Jvm.Cond.code own_y0 jdk_2038_method_1_code 1 none :: ws) ({ frames := 1, cells := 0, slots := 0, locals := 12 } : Room)) (fun a_ U_ => a_ = #[(.ref a)] ∧ Z.Warmed39 U_.vm ∧ U_.heap = h0) (fun _ _ _ _ _ => True) (fun _ U_ o_ U2_ => ∃ v_ L_, o_ = .returned v_ ∧ Q_rmOS Z a h0 n0 v_ U2_.heap L_ ∧ FrameEnd U_ o_ U2_ L_ ({ frames := 1, cells := 0, slots := 0, locals := 12 } : Room).cells ({ frames := 1, cells := 0, slots := 0, locals := 12 } : Room).slots) := by
  refine MetFree.of_bodySF (plainFor_of_name pn_0) hisR ?_
  intro p e s m args below meth c s₁ Bd hml0 hP hK
  obtain ⟨rfl, hZ, hh⟩ := hP
  have hx := Bd.exec
  have hby := Bd.bytes
  have hml : c.maxLocals = 1 := hml0
  have hown : s.vm.findClass "java/io/OutputStream" = some m.cls := findClass_of_methodNamed Bd.named
  have hnm := (name_of_methodNamed Bd.named Bd.method).1
  have X0 : Stand p l e ({ frames := 1, cells := 0, slots := 0, locals := 12 } : Room) s m #[(.ref a)] below meth c s₁ [] 0 0 := Stand.of_body Bd
  have e0 : s₁.heap = h0 := by rw [← hh, Bd.state]; rfl
  have N0 := Fr.nil n0
  refine own_go (A := s₁.setTop (mkF m 0 #[.val (.ref a)] [])) (fun t_ k_ => castTop (ef_rmOS m a) k_) ?_
  refine own_go (A := s₁.setTop (mkF m 1 #[.val (.ref a)] [(.ref a)])) (fun t_ k_ => ?_) ?_
  · show Steps p.tables e below (s₁.setTop (mkF m 0 #[.val (.ref a)] [])) t_
    refine XS.aloadN X0.here hx rfl (hb hby d2_0) rfl rfl ?_
    exact k_
  obtain ⟨T1, X1, e1, st1⟩ := initO X0 hx hZ hown (own_w hw 11 rfl) (own_w hw 12 rfl) (own_w hw 13 rfl) e0 (g := (mkF m 1 #[.val (.ref a)] [(.ref a)])) rfl (by rw [hml]; rfl) rfl (hb hby d2_1) (by decide) (W := 0) (by show 2 * 0 + _ ≤ _; exact Nat.le_of_eq rfl) (by decide)
  refine own_go st1 ?_
  obtain ⟨fs2, hr2, hrun2, hended2, hW2, hsame2⟩ := X1.leave (v := none) (fun _ => rfl)
  refine ⟨_, _, ?_, hrun2, hended2, _, _, rfl, ?_, ⟨_, rfl⟩, hW2, hsame2.mono (by decide) (by decide)⟩
  · exact X1.returnOut hx Bd.returns (hb hby d2_4) hr2
  · show Q_rmOS Z a h0 n0 _ T1.heap _
    rw [e1]
    exact ⟨rfl, N0, rfl⟩
theorem d5_0 : decode jdk_2020_method_1_code 0 = .ok (.aload_n 0, 1) := by decide +kernel
theorem pd_0 : parseMethodDescriptor "()V" = some ⟨[], none⟩ := by decide +kernel
theorem d5_1 : decode jdk_2020_method_1_code 1 = .ok (.invokespecial 1, 3) := by decide +kernel
theorem d5_4 : decode jdk_2020_method_1_code 4 = .ok (.aload_n 0, 1) := by decide +kernel
theorem d5_5 : decode jdk_2020_method_1_code 5 = .ok (.new 7, 3) := by decide +kernel
theorem d5_8 : decode jdk_2020_method_1_code 8 = .ok (.dup, 1) := by decide +kernel
theorem d5_9 : decode jdk_2020_method_1_code 9 = .ok (.invokespecial 9, 3) := by decide +kernel
theorem d5_12 : decode jdk_2020_method_1_code 12 = .ok (.putfield 10, 3) := by decide +kernel
theorem d5_15 : decode jdk_2020_method_1_code 15 = .ok (.aload_n 0, 1) := by decide +kernel
theorem d5_16 : decode jdk_2020_method_1_code 16 = .ok (.aload_n 1, 1) := by decide +kernel
theorem d5_17 : decode jdk_2020_method_1_code 17 = .ok (.putfield 16, 3) := by decide +kernel
theorem d5_20 : decode jdk_2020_method_1_code 20 = .ok (.return_, 1) := by decide +kernel
abbrev own_y1 : MethodName := ⟨"java/io/FilterOutputStream", "<init>", "(Ljava/io/OutputStream;)V"⟩
theorem ef_rmFOS (m : MethodId) (a : Addr) (o : Addr) : entryFrame m #[(.ref a), (.ref o)] 2 = mkF m 0 #[.val (.ref a), .val (.ref o)] [] := by first | (simp [entryFrame, mkF, argsToLocals, Value.category]; done) | rfl
def Q_rmFOS (Z : State) (a : Addr) (o : Addr) (h0 : Heap) (n0 : Nat) (v_ : Option Value) (h_ : Heap) (L_ : List Loc) : Prop := v_ = none ∧ Fr n0 L_ ∧ Keep h0 h_ [a]
theorem pn_1 : plainName "java/io/FilterOutputStream" = true := by first | (simp [plainName, overriddenIn]; done) | decide +kernel
set_option maxRecDepth 65536 in
set_option maxHeartbeats 40000000 in
theorem rmFOS (l : Launch) (Z : State) (a0 : Array Value) (hw : ∀ d ∈ tables_1, d.before a0 Z = true) (ws : List Jvm.Cond) (a : Addr) (o : Addr) (h0 : Heap) (n0 : Nat) (Z0 : n0 ≤ h0.size) (u0 : Exa Z h0 a "java/io/DataOutputStream") (u1 : Fld Z h0 a "java/io/FilterOutputStream" "closeLock" "Ljava/lang/Object;" .null) (u2 : Fld Z h0 a "java/io/FilterOutputStream" "out" "Ljava/io/OutputStream;" .null) (u3 : n0 ≤ a) :
    MetFree l own_y1 (head1 (Jvm.Cond.code own_y1 jdk_2020_method_1_code 2 none :: ws) ({ frames := 2, cells := 1, slots := 0, locals := 24 } : Room)) (fun a_ U_ => a_ = #[(.ref a), (.ref o)] ∧ Z.Warmed39 U_.vm ∧ U_.heap = h0) (fun _ _ _ _ _ => True) (fun _ U_ o_ U2_ => ∃ v_ L_, o_ = .returned v_ ∧ Q_rmFOS Z a o h0 n0 v_ U2_.heap L_ ∧ FrameEnd U_ o_ U2_ L_ ({ frames := 2, cells := 1, slots := 0, locals := 24 } : Room).cells ({ frames := 2, cells := 1, slots := 0, locals := 24 } : Room).slots) := by
  refine MetFree.of_bodySF (plainFor_of_name pn_1) hisR ?_
  intro p e s m args below meth c s₁ Bd hml0 hP hK
  obtain ⟨rfl, hZ, hh⟩ := hP
  have hx := Bd.exec
  have hby := Bd.bytes
  have hml : c.maxLocals = 2 := hml0
  have hown : s.vm.findClass "java/io/FilterOutputStream" = some m.cls := findClass_of_methodNamed Bd.named
  have hnm := (name_of_methodNamed Bd.named Bd.method).1
  have X0 : Stand p l e ({ frames := 2, cells := 1, slots := 0, locals := 24 } : Room) s m #[(.ref a), (.ref o)] below meth c s₁ [] 0 0 := Stand.of_body Bd
  have e0 : s₁.heap = h0 := by rw [← hh, Bd.state]; rfl
  have N0 := Fr.nil n0
  refine own_go (A := s₁.setTop (mkF m 0 #[.val (.ref a), .val (.ref o)] [])) (fun t_ k_ => castTop (ef_rmFOS m a o) k_) ?_
  refine own_go (A := s₁.setTop (mkF m 1 #[.val (.ref a), .val (.ref o)] [(.ref a)])) (fun t_ k_ => ?_) ?_
  · show Steps p.tables e below (s₁.setTop (mkF m 0 #[.val (.ref a), .val (.ref o)] [])) t_
    refine XS.aloadN X0.here hx rfl (hb hby d5_0) rfl rfl ?_
    exact k_
  obtain ⟨_, _, ⟨T1, L1, k1, n1⟩, -, X1, ⟨Lc1, hQ1, l1, y1, z1⟩, st1⟩ := X0.specialBack hx (y := own_y0) rfl hown (mvT hZ (own_w hw 29 rfl)) (mvT hZ (own_w hw 7 rfl)) (mvT hZ (own_w hw 10 rfl)) (by decide) (backOf (W := 0) (rmOS l Z a0 hw [] a h0 n0 Z0) hZ (own_w hw 10 rfl) (own_w hw 9 rfl) (by decide) (by decide)) (g := (mkF m 1 #[.val (.ref a), .val (.ref o)] [(.ref a)])) rfl (by rw [hml]; rfl) (Steps.refl _) (a := a) (argsL := []) (rest := []) (lenOf pd_0 rfl) rfl (by show 2 * 0 + _ ≤ _; exact Nat.le_of_eq rfl) (hb hby d5_1) (fun _ _ => ⟨rfl, e0, (by decide : 0 + 0 ≤ _), (by decide : 0 + 0 ≤ _)⟩)
  dsimp only [Pt.U, Pt.locs, Pt.cells, Pt.slots] at X1 l1 y1 z1 st1 hQ1
  subst l1 y1 z1
  obtain ⟨rfl, N1q, eh1⟩ := hQ1
  have N1 := Fr.app N0 N1q
  refine own_via st1 ?_
  refine own_go (A := T1.setTop (mkF m 5 #[.val (.ref a), .val (.ref o)] [(.ref a)])) (fun t_ k_ => ?_) ?_
  · show Steps p.tables e below (T1.setTop (mkF m 4 #[.val (.ref a), .val (.ref o)] [])) t_
    refine XS.aloadN X1.here hx rfl (hb hby d5_4) rfl rfl ?_
    exact k_
  obtain ⟨T2, h2, X2, e2, E2, A2, D2, -, st2⟩ := newO X1 hx hZ hown (own_w hw 31 rfl) (own_w hw 32 rfl) (own_w hw 33 rfl) eh1 (g := (mkF m 5 #[.val (.ref a), .val (.ref o)] [(.ref a)])) rfl (hb hby d5_5) (by decide) (by decide)
  obtain ⟨b2, g2⟩ : ∃ z, z = h0.size := ⟨_, rfl⟩
  rw [← g2] at A2 D2 st2
  refine own_go st2 ?_
  have K2 : Keep h0 h2 [a] := (Keep.refl h0 [a]).ext E2
  refine own_go (A := T2.setTop (mkF m 9 #[.val (.ref a), .val (.ref o)] [(.ref b2), (.ref b2), (.ref a)])) (fun t_ k_ => ?_) ?_
  · show Steps p.tables e below (T2.setTop (mkF m 8 #[.val (.ref a), .val (.ref o)] [(.ref b2), (.ref a)])) t_
    refine XS.dup X2.here hx rfl (hb hby d5_8) rfl rfl ?_
    exact k_
  obtain ⟨T3, X3, e3, st3⟩ := initO X2 hx hZ hown (own_w hw 34 rfl) (own_w hw 12 rfl) (own_w hw 13 rfl) e2 (g := (mkF m 9 #[.val (.ref a), .val (.ref o)] [(.ref b2), (.ref b2), (.ref a)])) rfl (by rw [hml]; rfl) rfl (hb hby d5_9) (by decide) (W := 2) (by show 2 * 0 + _ ≤ _; exact Nat.le_of_eq rfl) (by decide)
  refine own_go st3 ?_
  obtain ⟨T4, h4, X4, e4, W4, st4⟩ := putF X3 hx hZ hown (host := "") (Or.inl (own_w hw 35 rfl)) Via.refl e3 (u1.ext E2) (u0.ext E2) (Or.inr ⟨(own_w hw 36 rfl), rfl, hnm⟩) (own_w hw 18 rfl) (ty := (.object "java/lang/Object")) (by decide) rfl rfl (g := (mkF m 12 #[.val (.ref a), .val (.ref o)] [(.ref b2), (.ref a)])) rfl rfl (hb hby d5_12)
  have Fw4 : Fld Z h4 a "java/io/FilterOutputStream" "closeLock" "Ljava/lang/Object;" (.ref b2) := (u1.ext E2).same W4
  refine own_go st4 ?_
  have K4 : Keep h0 h4 [a] := K2.wr W4 (Or.inl (List.mem_of_getElem? (i := 0) rfl))
  have N4 := Fr.snoc X4 N1 u3
  refine own_go (A := T4.setTop (mkF m 17 #[.val (.ref a), .val (.ref o)] [(.ref o), (.ref a)])) (fun t_ k_ => ?_) ?_
  · show Steps p.tables e below (T4.setTop (mkF m 15 #[.val (.ref a), .val (.ref o)] [])) t_
    refine XS.aloadN X4.here hx rfl (hb hby d5_15) rfl rfl ?_
    show Steps p.tables e below (T4.setTop (mkF m 16 #[.val (.ref a), .val (.ref o)] [(.ref a)])) t_
    refine XS.aloadN X4.here hx rfl (hb hby d5_16) rfl rfl ?_
    exact k_
  obtain ⟨T5, h5, X5, e5, W5, st5⟩ := putF X4 hx hZ hown (host := "") (Or.inl (own_w hw 37 rfl)) Via.refl e4 ((u2.ext E2).other W4 (Or.inr (slot_ne (Or.inl (own_w hw 38 rfl)) (Or.inr (own_w hw 36 rfl)) (by decide) (t := (.object "java/io/OutputStream")) (t' := (.object "java/lang/Object")) (by decide) (by decide)))) ((u0.ext E2).wr W4) (Or.inl (own_w hw 38 rfl)) (own_w hw 18 rfl) (ty := (.object "java/io/OutputStream")) (by decide) rfl rfl (g := (mkF m 17 #[.val (.ref a), .val (.ref o)] [(.ref o), (.ref a)])) rfl rfl (hb hby d5_17)
  have Fw5 : Fld Z h5 a "java/io/FilterOutputStream" "out" "Ljava/io/OutputStream;" (.ref o) := ((u2.ext E2).other W4 (Or.inr (slot_ne (Or.inl (own_w hw 38 rfl)) (Or.inr (own_w hw 36 rfl)) (by decide) (t := (.object "java/io/OutputStream")) (t' := (.object "java/lang/Object")) (by decide) (by decide)))).same W5
  refine own_go st5 ?_
  have K5 : Keep h0 h5 [a] := K4.wr W5 (Or.inl (List.mem_of_getElem? (i := 0) rfl))
  have N5 := Fr.snoc X5 N4 u3
  obtain ⟨fs6, hr6, hrun6, hended6, hW6, hsame6⟩ := X5.leave (v := none) (fun _ => rfl)
  refine ⟨_, _, ?_, hrun6, hended6, _, _, rfl, ?_, ⟨_, rfl⟩, hW6, hsame6.mono (by decide) (by decide)⟩
  · exact X5.returnOut hx Bd.returns (hb hby d5_20) hr6
  · show Q_rmFOS Z a o h0 n0 _ T5.heap _
    rw [e5]
    exact ⟨rfl, N5, K5⟩
theorem ef_rmFOS2 (m : MethodId) (a : Addr) (o : Addr) : entryFrame m #[(.ref a), (.ref o)] 2 = mkF m 0 #[.val (.ref a), .val (.ref o)] [] := by first | (simp [entryFrame, mkF, argsToLocals, Value.category]; done) | rfl
def Q_rmFOS2 (Z : State) (a : Addr) (o : Addr) (h0 : Heap) (n0 : Nat) (v_ : Option Value) (h_ : Heap) (L_ : List Loc) : Prop := v_ = none ∧ Fr n0 L_ ∧ Keep h0 h_ [a] ∧ Fld Z h_ a "java/io/DataOutputStream" "bytearr" "[B" .null ∧ Fld Z h_ a "java/io/DataOutputStream" "writeBuffer" "[B" .null
set_option maxRecDepth 65536 in
set_option maxHeartbeats 40000000 in
theorem rmFOS2 (l : Launch) (Z : State) (a0 : Array Value) (hw : ∀ d ∈ tables_1, d.before a0 Z = true) (ws : List Jvm.Cond) (a : Addr) (o : Addr) (h0 : Heap) (n0 : Nat) (Z0 : n0 ≤ h0.size) (u0 : Exa Z h0 a "java/io/DataOutputStream") (u1 : Fld Z h0 a "java/io/FilterOutputStream" "closeLock" "Ljava/lang/Object;" .null) (u2 : Fld Z h0 a "java/io/FilterOutputStream" "out" "Ljava/io/OutputStream;" .null) (u3 : Fld Z h0 a "java/io/DataOutputStream" "bytearr" "[B" .null) (u4 : Fld Z h0 a "java/io/DataOutputStream" "writeBuffer" "[B" .null) (u5 : n0 ≤ a) :
    MetFree l own_y1 (head1 (Jvm.Cond.code own_y1 jdk_2020_method_1_code 2 none :: ws) ({ frames := 2, cells := 1, slots := 0, locals := 24 } : Room)) (fun a_ U_ => a_ = #[(.ref a), (.ref o)] ∧ Z.Warmed39 U_.vm ∧ U_.heap = h0) (fun _ _ _ _ _ => True) (fun _ U_ o_ U2_ => ∃ v_ L_, o_ = .returned v_ ∧ Q_rmFOS2 Z a o h0 n0 v_ U2_.heap L_ ∧ FrameEnd U_ o_ U2_ L_ ({ frames := 2, cells := 1, slots := 0, locals := 24 } : Room).cells ({ frames := 2, cells := 1, slots := 0, locals := 24 } : Room).slots) := by
  refine MetFree.of_bodySF (plainFor_of_name pn_1) hisR ?_
  intro p e s m args below meth c s₁ Bd hml0 hP hK
  obtain ⟨rfl, hZ, hh⟩ := hP
  have hx := Bd.exec
  have hby := Bd.bytes
  have hml : c.maxLocals = 2 := hml0
  have hown : s.vm.findClass "java/io/FilterOutputStream" = some m.cls := findClass_of_methodNamed Bd.named
  have hnm := (name_of_methodNamed Bd.named Bd.method).1
  have X0 : Stand p l e ({ frames := 2, cells := 1, slots := 0, locals := 24 } : Room) s m #[(.ref a), (.ref o)] below meth c s₁ [] 0 0 := Stand.of_body Bd
  have e0 : s₁.heap = h0 := by rw [← hh, Bd.state]; rfl
  have N0 := Fr.nil n0
  refine own_go (A := s₁.setTop (mkF m 0 #[.val (.ref a), .val (.ref o)] [])) (fun t_ k_ => castTop (ef_rmFOS2 m a o) k_) ?_
  refine own_go (A := s₁.setTop (mkF m 1 #[.val (.ref a), .val (.ref o)] [(.ref a)])) (fun t_ k_ => ?_) ?_
  · show Steps p.tables e below (s₁.setTop (mkF m 0 #[.val (.ref a), .val (.ref o)] [])) t_
    refine XS.aloadN X0.here hx rfl (hb hby d5_0) rfl rfl ?_
    exact k_
  obtain ⟨_, _, ⟨T1, L1, k1, n1⟩, -, X1, ⟨Lc1, hQ1, l1, y1, z1⟩, st1⟩ := X0.specialBack hx (y := own_y0) rfl hown (mvT hZ (own_w hw 29 rfl)) (mvT hZ (own_w hw 7 rfl)) (mvT hZ (own_w hw 10 rfl)) (by decide) (backOf (W := 0) (rmOS l Z a0 hw [] a h0 n0 Z0) hZ (own_w hw 10 rfl) (own_w hw 9 rfl) (by decide) (by decide)) (g := (mkF m 1 #[.val (.ref a), .val (.ref o)] [(.ref a)])) rfl (by rw [hml]; rfl) (Steps.refl _) (a := a) (argsL := []) (rest := []) (lenOf pd_0 rfl) rfl (by show 2 * 0 + _ ≤ _; exact Nat.le_of_eq rfl) (hb hby d5_1) (fun _ _ => ⟨rfl, e0, (by decide : 0 + 0 ≤ _), (by decide : 0 + 0 ≤ _)⟩)
  dsimp only [Pt.U, Pt.locs, Pt.cells, Pt.slots] at X1 l1 y1 z1 st1 hQ1
  subst l1 y1 z1
  obtain ⟨rfl, N1q, eh1⟩ := hQ1
  have N1 := Fr.app N0 N1q
  refine own_via st1 ?_
  refine own_go (A := T1.setTop (mkF m 5 #[.val (.ref a), .val (.ref o)] [(.ref a)])) (fun t_ k_ => ?_) ?_
  · show Steps p.tables e below (T1.setTop (mkF m 4 #[.val (.ref a), .val (.ref o)] [])) t_
    refine XS.aloadN X1.here hx rfl (hb hby d5_4) rfl rfl ?_
    exact k_
  obtain ⟨T2, h2, X2, e2, E2, A2, D2, -, st2⟩ := newO X1 hx hZ hown (own_w hw 31 rfl) (own_w hw 32 rfl) (own_w hw 33 rfl) eh1 (g := (mkF m 5 #[.val (.ref a), .val (.ref o)] [(.ref a)])) rfl (hb hby d5_5) (by decide) (by decide)
  obtain ⟨b2, g2⟩ : ∃ z, z = h0.size := ⟨_, rfl⟩
  rw [← g2] at A2 D2 st2
  refine own_go st2 ?_
  have K2 : Keep h0 h2 [a] := (Keep.refl h0 [a]).ext E2
  refine own_go (A := T2.setTop (mkF m 9 #[.val (.ref a), .val (.ref o)] [(.ref b2), (.ref b2), (.ref a)])) (fun t_ k_ => ?_) ?_
  · show Steps p.tables e below (T2.setTop (mkF m 8 #[.val (.ref a), .val (.ref o)] [(.ref b2), (.ref a)])) t_
    refine XS.dup X2.here hx rfl (hb hby d5_8) rfl rfl ?_
    exact k_
  obtain ⟨T3, X3, e3, st3⟩ := initO X2 hx hZ hown (own_w hw 34 rfl) (own_w hw 12 rfl) (own_w hw 13 rfl) e2 (g := (mkF m 9 #[.val (.ref a), .val (.ref o)] [(.ref b2), (.ref b2), (.ref a)])) rfl (by rw [hml]; rfl) rfl (hb hby d5_9) (by decide) (W := 2) (by show 2 * 0 + _ ≤ _; exact Nat.le_of_eq rfl) (by decide)
  refine own_go st3 ?_
  obtain ⟨T4, h4, X4, e4, W4, st4⟩ := putF X3 hx hZ hown (host := "") (Or.inl (own_w hw 35 rfl)) Via.refl e3 (u1.ext E2) (u0.ext E2) (Or.inr ⟨(own_w hw 36 rfl), rfl, hnm⟩) (own_w hw 18 rfl) (ty := (.object "java/lang/Object")) (by decide) rfl rfl (g := (mkF m 12 #[.val (.ref a), .val (.ref o)] [(.ref b2), (.ref a)])) rfl rfl (hb hby d5_12)
  have Fw4 : Fld Z h4 a "java/io/FilterOutputStream" "closeLock" "Ljava/lang/Object;" (.ref b2) := (u1.ext E2).same W4
  refine own_go st4 ?_
  have K4 : Keep h0 h4 [a] := K2.wr W4 (Or.inl (List.mem_of_getElem? (i := 0) rfl))
  have N4 := Fr.snoc X4 N1 u5
  refine own_go (A := T4.setTop (mkF m 17 #[.val (.ref a), .val (.ref o)] [(.ref o), (.ref a)])) (fun t_ k_ => ?_) ?_
  · show Steps p.tables e below (T4.setTop (mkF m 15 #[.val (.ref a), .val (.ref o)] [])) t_
    refine XS.aloadN X4.here hx rfl (hb hby d5_15) rfl rfl ?_
    show Steps p.tables e below (T4.setTop (mkF m 16 #[.val (.ref a), .val (.ref o)] [(.ref a)])) t_
    refine XS.aloadN X4.here hx rfl (hb hby d5_16) rfl rfl ?_
    exact k_
  obtain ⟨T5, h5, X5, e5, W5, st5⟩ := putF X4 hx hZ hown (host := "") (Or.inl (own_w hw 37 rfl)) Via.refl e4 ((u2.ext E2).other W4 (Or.inr (slot_ne (Or.inl (own_w hw 38 rfl)) (Or.inr (own_w hw 36 rfl)) (by decide) (t := (.object "java/io/OutputStream")) (t' := (.object "java/lang/Object")) (by decide) (by decide)))) ((u0.ext E2).wr W4) (Or.inl (own_w hw 38 rfl)) (own_w hw 18 rfl) (ty := (.object "java/io/OutputStream")) (by decide) rfl rfl (g := (mkF m 17 #[.val (.ref a), .val (.ref o)] [(.ref o), (.ref a)])) rfl rfl (hb hby d5_17)
  have Fw5 : Fld Z h5 a "java/io/FilterOutputStream" "out" "Ljava/io/OutputStream;" (.ref o) := ((u2.ext E2).other W4 (Or.inr (slot_ne (Or.inl (own_w hw 38 rfl)) (Or.inr (own_w hw 36 rfl)) (by decide) (t := (.object "java/io/OutputStream")) (t' := (.object "java/lang/Object")) (by decide) (by decide)))).same W5
  refine own_go st5 ?_
  have K5 : Keep h0 h5 [a] := K4.wr W5 (Or.inl (List.mem_of_getElem? (i := 0) rfl))
  have N5 := Fr.snoc X5 N4 u5
  obtain ⟨fs6, hr6, hrun6, hended6, hW6, hsame6⟩ := X5.leave (v := none) (fun _ => rfl)
  refine ⟨_, _, ?_, hrun6, hended6, _, _, rfl, ?_, ⟨_, rfl⟩, hW6, hsame6.mono (by decide) (by decide)⟩
  · exact X5.returnOut hx Bd.returns (hb hby d5_20) hr6
  · show Q_rmFOS2 Z a o h0 n0 _ T5.heap _
    rw [e5]
    exact ⟨rfl, N5, K5, (((u3.ext E2).other W4 (Or.inr (slot_ne (Or.inl (own_w hw 40 rfl)) (Or.inr (own_w hw 36 rfl)) (by decide) (t := (.array .byte)) (t' := (.object "java/lang/Object")) (by decide) (by decide)))).other W5 (Or.inr (slot_ne (Or.inl (own_w hw 40 rfl)) (Or.inl (own_w hw 38 rfl)) (by decide) (t := (.array .byte)) (t' := (.object "java/io/OutputStream")) (by decide) (by decide)))), (((u4.ext E2).other W4 (Or.inr (slot_ne (Or.inr (own_w hw 42 rfl)) (Or.inr (own_w hw 36 rfl)) (by decide) (t := (.array .byte)) (t' := (.object "java/lang/Object")) (by decide) (by decide)))).other W5 (Or.inr (slot_ne (Or.inr (own_w hw 42 rfl)) (Or.inl (own_w hw 38 rfl)) (by decide) (t := (.array .byte)) (t' := (.object "java/io/OutputStream")) (by decide) (by decide))))⟩
theorem d4_0 : decode jdk_2013_method_1_code 0 = .ok (.aload_n 0, 1) := by decide +kernel
theorem d4_1 : decode jdk_2013_method_1_code 1 = .ok (.aload_n 1, 1) := by decide +kernel
theorem pd_1 : parseMethodDescriptor "(Ljava/io/OutputStream;)V" = some ⟨[(.object "java/io/OutputStream")], none⟩ := by decide +kernel
theorem d4_2 : decode jdk_2013_method_1_code 2 = .ok (.invokespecial 1, 3) := by decide +kernel
theorem d4_5 : decode jdk_2013_method_1_code 5 = .ok (.aload_n 0, 1) := by decide +kernel
theorem d4_6 : decode jdk_2013_method_1_code 6 = .ok (.aconst_null, 1) := by decide +kernel
theorem d4_7 : decode jdk_2013_method_1_code 7 = .ok (.putfield 7, 3) := by decide +kernel
theorem d4_10 : decode jdk_2013_method_1_code 10 = .ok (.aload_n 0, 1) := by decide +kernel
theorem d4_11 : decode jdk_2013_method_1_code 11 = .ok (.bipush 8, 2) := by decide +kernel
theorem d4_13 : decode jdk_2013_method_1_code 13 = .ok (.newarray .byte, 2) := by decide +kernel
theorem d4_15 : decode jdk_2013_method_1_code 15 = .ok (.putfield 13, 3) := by decide +kernel
theorem d4_18 : decode jdk_2013_method_1_code 18 = .ok (.return_, 1) := by decide +kernel
abbrev own_y2 : MethodName := ⟨"java/io/DataOutputStream", "<init>", "(Ljava/io/OutputStream;)V"⟩
theorem ef_rmDOS (m : MethodId) (a : Addr) (o : Addr) : entryFrame m #[(.ref a), (.ref o)] 2 = mkF m 0 #[.val (.ref a), .val (.ref o)] [] := by first | (simp [entryFrame, mkF, argsToLocals, Value.category]; done) | rfl
def Q_rmDOS (Z : State) (a : Addr) (o : Addr) (h0 : Heap) (n0 : Nat) (v_ : Option Value) (h_ : Heap) (L_ : List Loc) : Prop := v_ = none ∧ Fr n0 L_ ∧ Keep h0 h_ [a]
theorem pn_2 : plainName "java/io/DataOutputStream" = true := by first | (simp [plainName, overriddenIn]; done) | decide +kernel
set_option maxRecDepth 65536 in
set_option maxHeartbeats 40000000 in
theorem rmDOS (l : Launch) (Z : State) (a0 : Array Value) (hw : ∀ d ∈ tables_1, d.before a0 Z = true) (ws : List Jvm.Cond) (a : Addr) (o : Addr) (h0 : Heap) (n0 : Nat) (Z0 : n0 ≤ h0.size) (u0 : Exa Z h0 a "java/io/DataOutputStream") (u1 : Fld Z h0 a "java/io/FilterOutputStream" "closeLock" "Ljava/lang/Object;" .null) (u2 : Fld Z h0 a "java/io/FilterOutputStream" "out" "Ljava/io/OutputStream;" .null) (u3 : Fld Z h0 a "java/io/DataOutputStream" "bytearr" "[B" .null) (u4 : Fld Z h0 a "java/io/DataOutputStream" "writeBuffer" "[B" .null) (u5 : n0 ≤ a) :
    MetFree l own_y2 (head1 (Jvm.Cond.code own_y2 jdk_2013_method_1_code 2 none :: ws) ({ frames := 3, cells := 2, slots := 8, locals := 37 } : Room)) (fun a_ U_ => a_ = #[(.ref a), (.ref o)] ∧ Z.Warmed39 U_.vm ∧ U_.heap = h0) (fun _ _ _ _ _ => True) (fun _ U_ o_ U2_ => ∃ v_ L_, o_ = .returned v_ ∧ Q_rmDOS Z a o h0 n0 v_ U2_.heap L_ ∧ FrameEnd U_ o_ U2_ L_ ({ frames := 3, cells := 2, slots := 8, locals := 37 } : Room).cells ({ frames := 3, cells := 2, slots := 8, locals := 37 } : Room).slots) := by
  refine MetFree.of_bodySF (plainFor_of_name pn_2) hisR ?_
  intro p e s m args below meth c s₁ Bd hml0 hP hK
  obtain ⟨rfl, hZ, hh⟩ := hP
  have hx := Bd.exec
  have hby := Bd.bytes
  have hml : c.maxLocals = 2 := hml0
  have hown : s.vm.findClass "java/io/DataOutputStream" = some m.cls := findClass_of_methodNamed Bd.named
  have hnm := (name_of_methodNamed Bd.named Bd.method).1
  have X0 : Stand p l e ({ frames := 3, cells := 2, slots := 8, locals := 37 } : Room) s m #[(.ref a), (.ref o)] below meth c s₁ [] 0 0 := Stand.of_body Bd
  have e0 : s₁.heap = h0 := by rw [← hh, Bd.state]; rfl
  have N0 := Fr.nil n0
  refine own_go (A := s₁.setTop (mkF m 0 #[.val (.ref a), .val (.ref o)] [])) (fun t_ k_ => castTop (ef_rmDOS m a o) k_) ?_
  refine own_go (A := s₁.setTop (mkF m 2 #[.val (.ref a), .val (.ref o)] [(.ref o), (.ref a)])) (fun t_ k_ => ?_) ?_
  · show Steps p.tables e below (s₁.setTop (mkF m 0 #[.val (.ref a), .val (.ref o)] [])) t_
    refine XS.aloadN X0.here hx rfl (hb hby d4_0) rfl rfl ?_
    show Steps p.tables e below (s₁.setTop (mkF m 1 #[.val (.ref a), .val (.ref o)] [(.ref a)])) t_
    refine XS.aloadN X0.here hx rfl (hb hby d4_1) rfl rfl ?_
    exact k_
  obtain ⟨_, _, ⟨T1, L1, k1, n1⟩, -, X1, ⟨Lc1, hQ1, l1, y1, z1⟩, st1⟩ := X0.specialBack hx (y := own_y1) rfl hown (mvT hZ (own_w hw 23 rfl)) (mvT hZ (own_w hw 24 rfl)) (mvT hZ (own_w hw 28 rfl)) (by decide) (backOf (W := 0) (rmFOS2 l Z a0 hw [] a o h0 n0 Z0 u0 u1 u2 u3 u4 u5) hZ (own_w hw 28 rfl) (own_w hw 27 rfl) (by decide) (by decide)) (g := (mkF m 2 #[.val (.ref a), .val (.ref o)] [(.ref o), (.ref a)])) rfl (by rw [hml]; rfl) (Steps.refl _) (a := a) (argsL := [(.ref o)]) (rest := []) (lenOf pd_1 rfl) rfl (by show 2 * 0 + _ ≤ _; exact Nat.le_of_eq rfl) (hb hby d4_2) (fun _ _ => ⟨rfl, e0, (by decide : 0 + 1 ≤ _), (by decide : 0 + 0 ≤ _)⟩)
  dsimp only [Pt.U, Pt.locs, Pt.cells, Pt.slots] at X1 l1 y1 z1 st1 hQ1
  subst l1 y1 z1
  obtain ⟨rfl, N1q, Kc1, r1_0, r1_1⟩ := hQ1
  have N1 := Fr.app N0 N1q
  refine own_via st1 ?_
  have K1 : Keep h0 T1.heap [a] := (Keep.refl h0 [a]).trans Kc1 (allS (P := fun x => x ∈ _ ∨ _ ≤ x) (Or.inl (List.mem_of_getElem? (i := 0) rfl)) all0)
  refine own_go (A := T1.setTop (mkF m 7 #[.val (.ref a), .val (.ref o)] [.null, (.ref a)])) (fun t_ k_ => ?_) ?_
  · show Steps p.tables e below (T1.setTop (mkF m 5 #[.val (.ref a), .val (.ref o)] [])) t_
    refine XS.aloadN X1.here hx rfl (hb hby d4_5) rfl rfl ?_
    show Steps p.tables e below (T1.setTop (mkF m 6 #[.val (.ref a), .val (.ref o)] [(.ref a)])) t_
    refine XS.aconstNull X1.here hx rfl (hb hby d4_6) ?_
    exact k_
  obtain ⟨T2, h2, X2, e2, W2, st2⟩ := putF X1 hx hZ hown (host := "") (Or.inl (own_w hw 39 rfl)) Via.refl rfl r1_0 (u0.keep Kc1) (Or.inl (own_w hw 40 rfl)) (own_w hw 18 rfl) (ty := (.array .byte)) (by decide) rfl rfl (g := (mkF m 7 #[.val (.ref a), .val (.ref o)] [.null, (.ref a)])) rfl rfl (hb hby d4_7)
  have Fw2 : Fld Z h2 a "java/io/DataOutputStream" "bytearr" "[B" .null := r1_0.same W2
  refine own_go st2 ?_
  have K2 : Keep h0 h2 [a] := K1.wr W2 (Or.inl (List.mem_of_getElem? (i := 0) rfl))
  have N2 := Fr.snoc X2 N1 u5
  refine own_go (A := T2.setTop (mkF m 13 #[.val (.ref a), .val (.ref o)] [(.int (8 : Int32)), (.ref a)])) (fun t_ k_ => ?_) ?_
  · show Steps p.tables e below (T2.setTop (mkF m 10 #[.val (.ref a), .val (.ref o)] [])) t_
    refine XS.aloadN X2.here hx rfl (hb hby d4_10) rfl rfl ?_
    show Steps p.tables e below (T2.setTop (mkF m 11 #[.val (.ref a), .val (.ref o)] [(.ref a)])) t_
    refine XS.bipush X2.here hx rfl (hb hby d4_11) ?_
    exact k_
  obtain ⟨T3, h3, k3, X3, e3, E3, A3, st3⟩ := newP X2 hx hZ (own_w hw 14 rfl) e2 (g := (mkF m 13 #[.val (.ref a), .val (.ref o)] [(.int (8 : Int32)), (.ref a)])) rfl (hb hby d4_13) rfl (by decide) (cap := 8) (by decide) (by decide) (by decide) (by decide)
  obtain ⟨b3, g3⟩ : ∃ z, z = h2.size := ⟨_, rfl⟩
  rw [← g3] at A3 st3
  refine own_go st3 ?_
  have K3 : Keep h0 h3 [a] := K2.ext E3
  have B3 : Arv Z h3 b3 k3 .byte (8 : Int32) [(.int (0 : Int32)), (.int (0 : Int32)), (.int (0 : Int32)), (.int (0 : Int32)), (.int (0 : Int32)), (.int (0 : Int32)), (.int (0 : Int32)), (.int (0 : Int32))] (.int (0 : Int32)) := (Arv.new A3 (by decide)).pad (pad_rep [] (.int (0 : Int32)) 8)
  obtain ⟨T4, h4, X4, e4, W4, st4⟩ := putF X3 hx hZ hown (host := "") (Or.inl (own_w hw 41 rfl)) Via.refl e3 ((r1_1.other W2 (Or.inr (slot_ne (Or.inr (own_w hw 42 rfl)) (Or.inl (own_w hw 40 rfl)) (by decide) (t := (.array .byte)) (t' := (.array .byte)) (by decide) (by decide)))).ext E3) (((u0.keep Kc1).wr W2).ext E3) (Or.inr ⟨(own_w hw 42 rfl), rfl, hnm⟩) (own_w hw 18 rfl) (ty := (.array .byte)) (by decide) rfl rfl (g := (mkF m 15 #[.val (.ref a), .val (.ref o)] [(.ref b3), (.ref a)])) rfl rfl (hb hby d4_15)
  have Fw4 : Fld Z h4 a "java/io/DataOutputStream" "writeBuffer" "[B" (.ref b3) := ((r1_1.other W2 (Or.inr (slot_ne (Or.inr (own_w hw 42 rfl)) (Or.inl (own_w hw 40 rfl)) (by decide) (t := (.array .byte)) (t' := (.array .byte)) (by decide) (by decide)))).ext E3).same W4
  refine own_go st4 ?_
  have K4 : Keep h0 h4 [a] := K3.wr W4 (Or.inl (List.mem_of_getElem? (i := 0) rfl))
  have N4 := Fr.snoc X4 N2 u5
  obtain ⟨fs5, hr5, hrun5, hended5, hW5, hsame5⟩ := X4.leave (v := none) (fun _ => rfl)
  refine ⟨_, _, ?_, hrun5, hended5, _, _, rfl, ?_, ⟨_, rfl⟩, hW5, hsame5.mono (by decide) (by decide)⟩
  · exact X4.returnOut hx Bd.returns (hb hby d4_18) hr5
  · show Q_rmDOS Z a o h0 n0 _ T4.heap _
    rw [e4]
    exact ⟨rfl, N4, K4⟩
theorem d1_0 : decode prog_6_method_1_code 0 = .ok (.aload_n 0, 1) := by decide +kernel
theorem d1_1 : decode prog_6_method_1_code 1 = .ok (.invokespecial 3, 3) := by decide +kernel
theorem d1_4 : decode prog_6_method_1_code 4 = .ok (.aload_n 0, 1) := by decide +kernel
theorem d1_5 : decode prog_6_method_1_code 5 = .ok (.sipush 256, 3) := by decide +kernel
theorem d1_8 : decode prog_6_method_1_code 8 = .ok (.newarray .byte, 2) := by decide +kernel
theorem d1_10 : decode prog_6_method_1_code 10 = .ok (.putfield 9, 3) := by decide +kernel
theorem d1_13 : decode prog_6_method_1_code 13 = .ok (.aload_n 0, 1) := by decide +kernel
theorem d1_14 : decode prog_6_method_1_code 14 = .ok (.new 15, 3) := by decide +kernel
theorem d1_17 : decode prog_6_method_1_code 17 = .ok (.dup, 1) := by decide +kernel
theorem d1_18 : decode prog_6_method_1_code 18 = .ok (.aload_n 0, 1) := by decide +kernel
theorem d1_19 : decode prog_6_method_1_code 19 = .ok (.invokespecial 17, 3) := by decide +kernel
theorem d1_22 : decode prog_6_method_1_code 22 = .ok (.putfield 20, 3) := by decide +kernel
theorem d1_25 : decode prog_6_method_1_code 25 = .ok (.return_, 1) := by decide +kernel
abbrev own_y3 : MethodName := ⟨"com/example/kneiphof/kneiphof/ByteRecord", "<init>", "()V"⟩
theorem ef_rmBR (m : MethodId) (a : Addr) : entryFrame m #[(.ref a)] 1 = mkF m 0 #[.val (.ref a)] [] := by first | (simp [entryFrame, mkF, argsToLocals, Value.category]; done) | rfl
def Q_rmBR (Z : State) (a : Addr) (h0 : Heap) (n0 : Nat) (v_ : Option Value) (h_ : Heap) (L_ : List Loc) : Prop := ∃ b : Addr, ∃ k : ClassId, v_ = none ∧ Fr n0 L_ ∧ Keep h0 h_ [a] ∧ h0.size ≤ b ∧ Fld Z h_ a "com/example/kneiphof/kneiphof/ByteRecord" "bytes" "[B" (.ref b) ∧ Fld Z h_ a "com/example/kneiphof/kneiphof/ByteRecord" "size" "I" (.int (0 : Int32)) ∧ Arv Z h_ b k .byte (256 : Int32) [(.int (0 : Int32)), (.int (0 : Int32)), (.int (0 : Int32)), (.int (0 : Int32))] (.int (0 : Int32))
theorem pn_3 : plainName "com/example/kneiphof/kneiphof/ByteRecord" = true := by first | (simp [plainName, overriddenIn]; done) | decide +kernel
set_option maxRecDepth 65536 in
set_option maxHeartbeats 40000000 in
theorem rmBR (l : Launch) (Z : State) (a0 : Array Value) (hw : ∀ d ∈ tables_1, d.before a0 Z = true) (ws : List Jvm.Cond) (a : Addr) (h0 : Heap) (n0 : Nat) (Z0 : n0 ≤ h0.size) (u0 : Exa Z h0 a "com/example/kneiphof/kneiphof/ByteRecord") (u1 : Fld Z h0 a "com/example/kneiphof/kneiphof/ByteRecord" "bytes" "[B" .null) (u2 : Fld Z h0 a "com/example/kneiphof/kneiphof/ByteRecord" "text" "Ljava/io/DataOutputStream;" .null) (u3 : Fld Z h0 a "com/example/kneiphof/kneiphof/ByteRecord" "size" "I" (.int (0 : Int32))) (u4 : n0 ≤ a) :
    MetFree l own_y3 (head1 (Jvm.Cond.code own_y3 prog_6_method_1_code 1 none :: ws) ({ frames := 4, cells := 4, slots := 270, locals := 52 } : Room)) (fun a_ U_ => a_ = #[(.ref a)] ∧ Z.Warmed39 U_.vm ∧ U_.heap = h0) (fun _ _ _ _ _ => True) (fun _ U_ o_ U2_ => ∃ v_ L_, o_ = .returned v_ ∧ Q_rmBR Z a h0 n0 v_ U2_.heap L_ ∧ FrameEnd U_ o_ U2_ L_ ({ frames := 4, cells := 4, slots := 270, locals := 52 } : Room).cells ({ frames := 4, cells := 4, slots := 270, locals := 52 } : Room).slots) := by
  refine MetFree.of_bodySF (plainFor_of_name pn_3) hisR ?_
  intro p e s m args below meth c s₁ Bd hml0 hP hK
  obtain ⟨rfl, hZ, hh⟩ := hP
  have hx := Bd.exec
  have hby := Bd.bytes
  have hml : c.maxLocals = 1 := hml0
  have hown : s.vm.findClass "com/example/kneiphof/kneiphof/ByteRecord" = some m.cls := findClass_of_methodNamed Bd.named
  have hnm := (name_of_methodNamed Bd.named Bd.method).1
  have X0 : Stand p l e ({ frames := 4, cells := 4, slots := 270, locals := 52 } : Room) s m #[(.ref a)] below meth c s₁ [] 0 0 := Stand.of_body Bd
  have e0 : s₁.heap = h0 := by rw [← hh, Bd.state]; rfl
  have N0 := Fr.nil n0
  refine own_go (A := s₁.setTop (mkF m 0 #[.val (.ref a)] [])) (fun t_ k_ => castTop (ef_rmBR m a) k_) ?_
  refine own_go (A := s₁.setTop (mkF m 1 #[.val (.ref a)] [(.ref a)])) (fun t_ k_ => ?_) ?_
  · show Steps p.tables e below (s₁.setTop (mkF m 0 #[.val (.ref a)] [])) t_
    refine XS.aloadN X0.here hx rfl (hb hby d1_0) rfl rfl ?_
    exact k_
  obtain ⟨_, _, ⟨T1, L1, k1, n1⟩, -, X1, ⟨Lc1, hQ1, l1, y1, z1⟩, st1⟩ := X0.specialBack hx (y := own_y0) rfl hown (mvT hZ (own_w hw 6 rfl)) (mvT hZ (own_w hw 7 rfl)) (mvT hZ (own_w hw 10 rfl)) (by decide) (backOf (W := 0) (rmOS l Z a0 hw [] a h0 n0 Z0) hZ (own_w hw 10 rfl) (own_w hw 9 rfl) (by decide) (by decide)) (g := (mkF m 1 #[.val (.ref a)] [(.ref a)])) rfl (by rw [hml]; rfl) (Steps.refl _) (a := a) (argsL := []) (rest := []) (lenOf pd_0 rfl) rfl (by show 2 * 0 + _ ≤ _; exact Nat.le_of_eq rfl) (hb hby d1_1) (fun _ _ => ⟨rfl, e0, (by decide : 0 + 0 ≤ _), (by decide : 0 + 0 ≤ _)⟩)
  dsimp only [Pt.U, Pt.locs, Pt.cells, Pt.slots] at X1 l1 y1 z1 st1 hQ1
  subst l1 y1 z1
  obtain ⟨rfl, N1q, eh1⟩ := hQ1
  have N1 := Fr.app N0 N1q
  refine own_via st1 ?_
  refine own_go (A := T1.setTop (mkF m 8 #[.val (.ref a)] [(.int (256 : Int32)), (.ref a)])) (fun t_ k_ => ?_) ?_
  · show Steps p.tables e below (T1.setTop (mkF m 4 #[.val (.ref a)] [])) t_
    refine XS.aloadN X1.here hx rfl (hb hby d1_4) rfl rfl ?_
    show Steps p.tables e below (T1.setTop (mkF m 5 #[.val (.ref a)] [(.ref a)])) t_
    refine XS.sipush X1.here hx rfl (hb hby d1_5) ?_
    exact k_
  obtain ⟨T2, h2, k2, X2, e2, E2, A2, st2⟩ := newP X1 hx hZ (own_w hw 14 rfl) eh1 (g := (mkF m 8 #[.val (.ref a)] [(.int (256 : Int32)), (.ref a)])) rfl (hb hby d1_8) rfl (by decide) (cap := 256) (by decide) (by decide) (by decide) (by decide)
  obtain ⟨b2, g2⟩ : ∃ z, z = h0.size := ⟨_, rfl⟩
  rw [← g2] at A2 st2
  refine own_go st2 ?_
  have K2 : Keep h0 h2 [a] := (Keep.refl h0 [a]).ext E2
  have B2 : Arv Z h2 b2 k2 .byte (256 : Int32) [(.int (0 : Int32)), (.int (0 : Int32)), (.int (0 : Int32)), (.int (0 : Int32))] (.int (0 : Int32)) := (Arv.new A2 (by decide)).pad (pad_rep [] (.int (0 : Int32)) 4)
  obtain ⟨T3, h3, X3, e3, W3, st3⟩ := putF X2 hx hZ hown (host := "") (Or.inl (own_w hw 15 rfl)) Via.refl e2 (u1.ext E2) (u0.ext E2) (Or.inl (own_w hw 16 rfl)) (own_w hw 1 rfl) (ty := (.array .byte)) (by decide) rfl rfl (g := (mkF m 10 #[.val (.ref a)] [(.ref b2), (.ref a)])) rfl rfl (hb hby d1_10)
  have Fw3 : Fld Z h3 a "com/example/kneiphof/kneiphof/ByteRecord" "bytes" "[B" (.ref b2) := (u1.ext E2).same W3
  refine own_go st3 ?_
  have K3 : Keep h0 h3 [a] := K2.wr W3 (Or.inl (List.mem_of_getElem? (i := 0) rfl))
  have N3 := Fr.snoc X3 N1 u4
  refine own_go (A := T3.setTop (mkF m 14 #[.val (.ref a)] [(.ref a)])) (fun t_ k_ => ?_) ?_
  · show Steps p.tables e below (T3.setTop (mkF m 13 #[.val (.ref a)] [])) t_
    refine XS.aloadN X3.here hx rfl (hb hby d1_13) rfl rfl ?_
    exact k_
  obtain ⟨T4, h4, X4, e4, E4, A4, D4, -, st4⟩ := newO X3 hx hZ hown (own_w hw 17 rfl) (own_w hw 18 rfl) (own_w hw 19 rfl) e3 (g := (mkF m 14 #[.val (.ref a)] [(.ref a)])) rfl (hb hby d1_14) (by decide) (by decide)
  obtain ⟨b4, g4⟩ : ∃ z, z = h3.size := ⟨_, rfl⟩
  rw [← g4] at A4 D4 st4
  refine own_go st4 ?_
  have K4 : Keep h0 h4 [a] := K3.ext E4
  have F4_closeLock : Fld Z h4 b4 "java/io/FilterOutputStream" "closeLock" "Ljava/lang/Object;" .null := D4 (Or.inr (own_w hw 36 rfl)) (ty := (.object "java/lang/Object")) (by decide)
  have F4_out : Fld Z h4 b4 "java/io/FilterOutputStream" "out" "Ljava/io/OutputStream;" .null := D4 (Or.inl (own_w hw 38 rfl)) (ty := (.object "java/io/OutputStream")) (by decide)
  have F4_bytearr : Fld Z h4 b4 "java/io/DataOutputStream" "bytearr" "[B" .null := D4 (Or.inl (own_w hw 40 rfl)) (ty := (.array .byte)) (by decide)
  have F4_writeBuffer : Fld Z h4 b4 "java/io/DataOutputStream" "writeBuffer" "[B" .null := D4 (Or.inr (own_w hw 42 rfl)) (ty := (.array .byte)) (by decide)
  refine own_go (A := T4.setTop (mkF m 19 #[.val (.ref a)] [(.ref a), (.ref b4), (.ref b4), (.ref a)])) (fun t_ k_ => ?_) ?_
  · show Steps p.tables e below (T4.setTop (mkF m 17 #[.val (.ref a)] [(.ref b4), (.ref a)])) t_
    refine XS.dup X4.here hx rfl (hb hby d1_17) rfl rfl ?_
    show Steps p.tables e below (T4.setTop (mkF m 18 #[.val (.ref a)] [(.ref b4), (.ref b4), (.ref a)])) t_
    refine XS.aloadN X4.here hx rfl (hb hby d1_18) rfl rfl ?_
    exact k_
  obtain ⟨_, _, ⟨T5, L5, k5, n5⟩, -, X5, ⟨Lc5, hQ5, l5, y5, z5⟩, st5⟩ := X4.specialBack hx (y := own_y2) rfl hown (mvT hZ (own_w hw 20 rfl)) (mvT hZ (own_w hw 21 rfl)) (mvT hZ (own_w hw 22 rfl)) (by decide) (backOf (W := 2) (rmDOS l Z a0 hw [] b4 a h4 n0 (Nat.le_trans Z0 K4.1) A4 F4_closeLock F4_out F4_bytearr F4_writeBuffer (Nat.le_trans Z0 (Nat.le_trans K3.1 (Nat.le_of_eq g4.symm)))) hZ (own_w hw 22 rfl) (own_w hw 19 rfl) (by decide) (by decide)) (g := (mkF m 19 #[.val (.ref a)] [(.ref a), (.ref b4), (.ref b4), (.ref a)])) rfl (by rw [hml]; rfl) (Steps.refl _) (a := b4) (argsL := [(.ref a)]) (rest := [(.ref b4), (.ref a)]) (lenOf pd_1 rfl) rfl (by show 2 * 0 + _ ≤ _; exact Nat.le_of_eq rfl) (hb hby d1_19) (fun _ _ => ⟨rfl, e4, (by decide : 2 + 2 ≤ _), (by decide : 262 + 8 ≤ _)⟩)
  dsimp only [Pt.U, Pt.locs, Pt.cells, Pt.slots] at X5 l5 y5 z5 st5 hQ5
  subst l5 y5 z5
  obtain ⟨rfl, N5q, Kc5⟩ := hQ5
  have N5 := Fr.app N3 N5q
  refine own_via st5 ?_
  have K5 : Keep h0 T5.heap [a] := K4.trans Kc5 (allS (P := fun x => x ∈ _ ∨ _ ≤ x) (Or.inr (Nat.le_trans K3.1 (Nat.le_of_eq g4.symm))) all0)
  obtain ⟨T6, h6, X6, e6, W6, st6⟩ := putF X5 hx hZ hown (host := "") (Or.inl (own_w hw 43 rfl)) Via.refl rfl ((((u2.ext E2).other W3 (Or.inr (slot_ne (Or.inr (own_w hw 44 rfl)) (Or.inl (own_w hw 16 rfl)) (by decide) (t := (.object "java/io/DataOutputStream")) (t' := (.array .byte)) (by decide) (by decide)))).ext E4).keep Kc5 (ninS (Nat.ne_of_lt (Nat.lt_of_lt_of_le (Nat.lt_of_lt_of_le (Nat.lt_of_lt_of_le u0.lt E2.1) (Keep.of_wr W3).1) (Nat.le_of_eq g4.symm))) nin0)) ((((u0.ext E2).wr W3).ext E4).keep Kc5) (Or.inr ⟨(own_w hw 44 rfl), rfl, hnm⟩) (own_w hw 1 rfl) (ty := (.object "java/io/DataOutputStream")) (by decide) rfl rfl (g := (mkF m 22 #[.val (.ref a)] [(.ref b4), (.ref a)])) rfl rfl (hb hby d1_22)
  have Fw6 : Fld Z h6 a "com/example/kneiphof/kneiphof/ByteRecord" "text" "Ljava/io/DataOutputStream;" (.ref b4) := ((((u2.ext E2).other W3 (Or.inr (slot_ne (Or.inr (own_w hw 44 rfl)) (Or.inl (own_w hw 16 rfl)) (by decide) (t := (.object "java/io/DataOutputStream")) (t' := (.array .byte)) (by decide) (by decide)))).ext E4).keep Kc5 (ninS (Nat.ne_of_lt (Nat.lt_of_lt_of_le (Nat.lt_of_lt_of_le (Nat.lt_of_lt_of_le u0.lt E2.1) (Keep.of_wr W3).1) (Nat.le_of_eq g4.symm))) nin0)).same W6
  refine own_go st6 ?_
  have K6 : Keep h0 h6 [a] := K5.wr W6 (Or.inl (List.mem_of_getElem? (i := 0) rfl))
  have N6 := Fr.snoc X6 N5 u4
  obtain ⟨fs7, hr7, hrun7, hended7, hW7, hsame7⟩ := X6.leave (v := none) (fun _ => rfl)
  refine ⟨_, _, ?_, hrun7, hended7, _, _, rfl, ?_, ⟨_, rfl⟩, hW7, hsame7.mono (by decide) (by decide)⟩
  · exact X6.returnOut hx Bd.returns (hb hby d1_25) hr7
  · show Q_rmBR Z a h0 n0 _ T6.heap _
    rw [e6]
    exact ⟨b2, k2, rfl, N6, K6, (Nat.le_of_eq g2.symm), (((Fw3.ext E4).keep Kc5 (ninS (Nat.ne_of_lt (Nat.lt_of_lt_of_le (Nat.lt_of_lt_of_le (Nat.lt_of_lt_of_le u0.lt E2.1) (Keep.of_wr W3).1) (Nat.le_of_eq g4.symm))) nin0)).other W6 (Or.inr (slot_ne (Or.inl (own_w hw 16 rfl)) (Or.inr (own_w hw 44 rfl)) (by decide) (t := (.array .byte)) (t' := (.object "java/io/DataOutputStream")) (by decide) (by decide)))), (((((u3.ext E2).other W3 (Or.inr (slot_ne (Or.inl (own_w hw 55 rfl)) (Or.inl (own_w hw 16 rfl)) (by decide) (t := .int) (t' := (.array .byte)) (by decide) (by decide)))).ext E4).keep Kc5 (ninS (Nat.ne_of_lt (Nat.lt_of_lt_of_le (Nat.lt_of_lt_of_le (Nat.lt_of_lt_of_le u0.lt E2.1) (Keep.of_wr W3).1) (Nat.le_of_eq g4.symm))) nin0)).other W6 (Or.inr (slot_ne (Or.inl (own_w hw 55 rfl)) (Or.inr (own_w hw 44 rfl)) (by decide) (t := .int) (t' := (.object "java/io/DataOutputStream")) (by decide) (by decide)))), ((((B2.other W3 (Ne.symm (Nat.ne_of_lt (Nat.lt_of_lt_of_le u0.lt (Nat.le_of_eq g2.symm))))).ext E4).keep Kc5 (ninS (Nat.ne_of_lt (Nat.lt_of_lt_of_le (Nat.lt_of_lt_of_le B2.lt (Keep.of_wr W3).1) (Nat.le_of_eq g4.symm))) nin0)).other W6 (Ne.symm (Nat.ne_of_lt (Nat.lt_of_lt_of_le u0.lt (Nat.le_of_eq g2.symm)))))⟩
theorem d7_0 : decode prog_6_method_7_code 0 = .ok (.iload_n 1, 1) := by decide +kernel
theorem d7_1 : decode prog_6_method_7_code 1 = .ok (.aload_n 0, 1) := by decide +kernel
theorem d7_2 : decode prog_6_method_7_code 2 = .ok (.getfield 9, 3) := by decide +kernel
theorem d7_5 : decode prog_6_method_7_code 5 = .ok (.arraylength, 1) := by decide +kernel
theorem d7_6 : decode prog_6_method_7_code 6 = .ok (.aload_n 0, 1) := by decide +kernel
theorem d7_7 : decode prog_6_method_7_code 7 = .ok (.getfield 24, 3) := by decide +kernel
theorem d7_10 : decode prog_6_method_7_code 10 = .ok (.isub, 1) := by decide +kernel
theorem d7_11 : decode prog_6_method_7_code 11 = .ok (.if_icmp .gt 4, 3) := by decide +kernel
theorem d7_14 : decode prog_6_method_7_code 14 = .ok (.return_, 1) := by decide +kernel
abbrev own_y4 : MethodName := ⟨"com/example/kneiphof/kneiphof/ByteRecord", "room", "(I)V"⟩
theorem ef_rmRoom0 (m : MethodId) (a : Addr) : entryFrame m #[(.ref a), (.int (1 : Int32))] 3 = mkF m 0 #[.val (.ref a), .val (.int (1 : Int32)), .unset] [] := by first | (simp [entryFrame, mkF, argsToLocals, Value.category]; done) | rfl
def Q_rmRoom0 (Z : State) (a : Addr) (b : Addr) (k : ClassId) (xe0 : Int32) (xe1 : Int32) (xe2 : Int32) (xe3 : Int32) (h0 : Heap) (n0 : Nat) (v_ : Option Value) (h_ : Heap) (L_ : List Loc) : Prop := v_ = none ∧ Fr n0 L_ ∧ h_ = h0
set_option maxRecDepth 65536 in
set_option maxHeartbeats 40000000 in
theorem rmRoom0 (l : Launch) (Z : State) (a0 : Array Value) (hw : ∀ d ∈ tables_1, d.before a0 Z = true) (ws : List Jvm.Cond) (a : Addr) (b : Addr) (k : ClassId) (xe0 : Int32) (xe1 : Int32) (xe2 : Int32) (xe3 : Int32) (h0 : Heap) (n0 : Nat) (Z0 : n0 ≤ h0.size) (u0 : Exa Z h0 a "com/example/kneiphof/kneiphof/ByteRecord") (u1 : Fld Z h0 a "com/example/kneiphof/kneiphof/ByteRecord" "bytes" "[B" (.ref b)) (u2 : Fld Z h0 a "com/example/kneiphof/kneiphof/ByteRecord" "size" "I" (.int (0 : Int32))) (u3 : Arv Z h0 b k .byte (256 : Int32) [(.int xe0), (.int xe1), (.int xe2), (.int xe3)] (.int (0 : Int32))) :
    MetFree l own_y4 (head1 (Jvm.Cond.code own_y4 prog_6_method_7_code 3 none :: ws) ({ frames := 0, cells := 0, slots := 0, locals := 0 } : Room)) (fun a_ U_ => a_ = #[(.ref a), (.int (1 : Int32))] ∧ Z.Warmed39 U_.vm ∧ U_.heap = h0) (fun _ _ _ _ _ => True) (fun _ U_ o_ U2_ => ∃ v_ L_, o_ = .returned v_ ∧ Q_rmRoom0 Z a b k xe0 xe1 xe2 xe3 h0 n0 v_ U2_.heap L_ ∧ FrameEnd U_ o_ U2_ L_ ({ frames := 0, cells := 0, slots := 0, locals := 0 } : Room).cells ({ frames := 0, cells := 0, slots := 0, locals := 0 } : Room).slots) := by
  refine MetFree.of_bodySF (plainFor_of_name pn_3) hisR ?_
  intro p e s m args below meth c s₁ Bd hml0 hP hK
  obtain ⟨rfl, hZ, hh⟩ := hP
  have hx := Bd.exec
  have hby := Bd.bytes
  have hml : c.maxLocals = 3 := hml0
  have hown : s.vm.findClass "com/example/kneiphof/kneiphof/ByteRecord" = some m.cls := findClass_of_methodNamed Bd.named
  have hnm := (name_of_methodNamed Bd.named Bd.method).1
  have X0 : Stand p l e ({ frames := 0, cells := 0, slots := 0, locals := 0 } : Room) s m #[(.ref a), (.int (1 : Int32))] below meth c s₁ [] 0 0 := Stand.of_body Bd
  have e0 : s₁.heap = h0 := by rw [← hh, Bd.state]; rfl
  have N0 := Fr.nil n0
  refine own_go (A := s₁.setTop (mkF m 0 #[.val (.ref a), .val (.int (1 : Int32)), .unset] [])) (fun t_ k_ => castTop (ef_rmRoom0 m a) k_) ?_
  refine own_go (A := s₁.setTop (mkF m 2 #[.val (.ref a), .val (.int (1 : Int32)), .unset] [(.ref a), (.int (1 : Int32))])) (fun t_ k_ => ?_) ?_
  · show Steps p.tables e below (s₁.setTop (mkF m 0 #[.val (.ref a), .val (.int (1 : Int32)), .unset] [])) t_
    refine XS.iloadN X0.here hx rfl (hb hby d7_0) rfl ?_
    show Steps p.tables e below (s₁.setTop (mkF m 1 #[.val (.ref a), .val (.int (1 : Int32)), .unset] [(.int (1 : Int32))])) t_
    refine XS.aloadN X0.here hx rfl (hb hby d7_1) rfl rfl ?_
    exact k_
  obtain ⟨T1, X1, e1, st1⟩ := getF X0 hx hZ hown (host := "") (Or.inl (own_w hw 15 rfl)) Via.refl e0 u1 (g := (mkF m 2 #[.val (.ref a), .val (.int (1 : Int32)), .unset] [(.ref a), (.int (1 : Int32))])) rfl rfl (hb hby d7_2)
  refine own_go st1 ?_
  obtain ⟨cl2, Ar2, q2, S2, M2, H2, G2⟩ := id u3
  refine own_go (A := T1.setTop (mkF m 7 #[.val (.ref a), .val (.int (1 : Int32)), .unset] [(.ref a), (.int (256 : Int32)), (.int (1 : Int32))])) (fun t_ k_ => ?_) ?_
  · show Steps p.tables e below (T1.setTop (mkF m 5 #[.val (.ref a), .val (.int (1 : Int32)), .unset] [(.ref b), (.int (1 : Int32))])) t_
    refine X1.arraylength hx (by rw [e1]; exact Ar2.1) (State.isArrayOf_alike hZ.alike Ar2.2.1) (g := (mkF m 5 #[.val (.ref a), .val (.int (1 : Int32)), .unset] [(.ref b), (.int (1 : Int32))])) rfl rfl (hb hby d7_5) _ ?_
    rw [len_of S2 M2]
    show Steps p.tables e below (T1.setTop (mkF m 6 #[.val (.ref a), .val (.int (1 : Int32)), .unset] [(.int (256 : Int32)), (.int (1 : Int32))])) t_
    refine XS.aloadN X1.here hx rfl (hb hby d7_6) rfl rfl ?_
    exact k_
  obtain ⟨T3, X3, e3, st3⟩ := getF X1 hx hZ hown (host := "") (Or.inl (own_w hw 54 rfl)) Via.refl e1 u2 (g := (mkF m 7 #[.val (.ref a), .val (.int (1 : Int32)), .unset] [(.ref a), (.int (256 : Int32)), (.int (1 : Int32))])) rfl rfl (hb hby d7_7)
  refine own_go st3 ?_
  refine own_go (A := T3.setTop (mkF m 14 #[.val (.ref a), .val (.int (1 : Int32)), .unset] [])) (fun t_ k_ => ?_) ?_
  · show Steps p.tables e below (T3.setTop (mkF m 10 #[.val (.ref a), .val (.int (1 : Int32)), .unset] [(.int (0 : Int32)), (.int (256 : Int32)), (.int (1 : Int32))])) t_
    refine XS.isub X3.here hx rfl (hb hby d7_10) rfl ?_
    show Steps p.tables e below (T3.setTop (mkF m 11 #[.val (.ref a), .val (.int (1 : Int32)), .unset] [(.int (256 : Int32)), (.int (1 : Int32))])) t_
    refine XS.icmpNo X3.here hx rfl (hb hby d7_11) rfl (flt (by decide : ¬ ((256 : Int32) < (1 : Int32)))).2.2.1 ?_
    exact k_
  obtain ⟨fs4, hr4, hrun4, hended4, hW4, hsame4⟩ := X3.leave (v := none) (fun _ => rfl)
  refine ⟨_, _, ?_, hrun4, hended4, _, _, rfl, ?_, ⟨_, rfl⟩, hW4, hsame4.mono (by decide) (by decide)⟩
  · exact X3.returnOut hx Bd.returns (hb hby d7_14) hr4
  · show Q_rmRoom0 Z a b k xe0 xe1 xe2 xe3 h0 n0 _ T3.heap _
    rw [e3]
    exact ⟨rfl, N0, rfl⟩
theorem ef_rmRoom1 (m : MethodId) (a : Addr) : entryFrame m #[(.ref a), (.int (2 : Int32))] 3 = mkF m 0 #[.val (.ref a), .val (.int (2 : Int32)), .unset] [] := by first | (simp [entryFrame, mkF, argsToLocals, Value.category]; done) | rfl
def Q_rmRoom1 (Z : State) (a : Addr) (b : Addr) (k : ClassId) (xe0 : Int32) (xe1 : Int32) (xe2 : Int32) (xe3 : Int32) (h0 : Heap) (n0 : Nat) (v_ : Option Value) (h_ : Heap) (L_ : List Loc) : Prop := v_ = none ∧ Fr n0 L_ ∧ h_ = h0
set_option maxRecDepth 65536 in
set_option maxHeartbeats 40000000 in
theorem rmRoom1 (l : Launch) (Z : State) (a0 : Array Value) (hw : ∀ d ∈ tables_1, d.before a0 Z = true) (ws : List Jvm.Cond) (a : Addr) (b : Addr) (k : ClassId) (xe0 : Int32) (xe1 : Int32) (xe2 : Int32) (xe3 : Int32) (h0 : Heap) (n0 : Nat) (Z0 : n0 ≤ h0.size) (u0 : Exa Z h0 a "com/example/kneiphof/kneiphof/ByteRecord") (u1 : Fld Z h0 a "com/example/kneiphof/kneiphof/ByteRecord" "bytes" "[B" (.ref b)) (u2 : Fld Z h0 a "com/example/kneiphof/kneiphof/ByteRecord" "size" "I" (.int (1 : Int32))) (u3 : Arv Z h0 b k .byte (256 : Int32) [(.int xe0), (.int xe1), (.int xe2), (.int xe3)] (.int (0 : Int32))) :
    MetFree l own_y4 (head1 (Jvm.Cond.code own_y4 prog_6_method_7_code 3 none :: ws) ({ frames := 0, cells := 0, slots := 0, locals := 0 } : Room)) (fun a_ U_ => a_ = #[(.ref a), (.int (2 : Int32))] ∧ Z.Warmed39 U_.vm ∧ U_.heap = h0) (fun _ _ _ _ _ => True) (fun _ U_ o_ U2_ => ∃ v_ L_, o_ = .returned v_ ∧ Q_rmRoom1 Z a b k xe0 xe1 xe2 xe3 h0 n0 v_ U2_.heap L_ ∧ FrameEnd U_ o_ U2_ L_ ({ frames := 0, cells := 0, slots := 0, locals := 0 } : Room).cells ({ frames := 0, cells := 0, slots := 0, locals := 0 } : Room).slots) := by
  refine MetFree.of_bodySF (plainFor_of_name pn_3) hisR ?_
  intro p e s m args below meth c s₁ Bd hml0 hP hK
  obtain ⟨rfl, hZ, hh⟩ := hP
  have hx := Bd.exec
  have hby := Bd.bytes
  have hml : c.maxLocals = 3 := hml0
  have hown : s.vm.findClass "com/example/kneiphof/kneiphof/ByteRecord" = some m.cls := findClass_of_methodNamed Bd.named
  have hnm := (name_of_methodNamed Bd.named Bd.method).1
  have X0 : Stand p l e ({ frames := 0, cells := 0, slots := 0, locals := 0 } : Room) s m #[(.ref a), (.int (2 : Int32))] below meth c s₁ [] 0 0 := Stand.of_body Bd
  have e0 : s₁.heap = h0 := by rw [← hh, Bd.state]; rfl
  have N0 := Fr.nil n0
  refine own_go (A := s₁.setTop (mkF m 0 #[.val (.ref a), .val (.int (2 : Int32)), .unset] [])) (fun t_ k_ => castTop (ef_rmRoom1 m a) k_) ?_
  refine own_go (A := s₁.setTop (mkF m 2 #[.val (.ref a), .val (.int (2 : Int32)), .unset] [(.ref a), (.int (2 : Int32))])) (fun t_ k_ => ?_) ?_
  · show Steps p.tables e below (s₁.setTop (mkF m 0 #[.val (.ref a), .val (.int (2 : Int32)), .unset] [])) t_
    refine XS.iloadN X0.here hx rfl (hb hby d7_0) rfl ?_
    show Steps p.tables e below (s₁.setTop (mkF m 1 #[.val (.ref a), .val (.int (2 : Int32)), .unset] [(.int (2 : Int32))])) t_
    refine XS.aloadN X0.here hx rfl (hb hby d7_1) rfl rfl ?_
    exact k_
  obtain ⟨T1, X1, e1, st1⟩ := getF X0 hx hZ hown (host := "") (Or.inl (own_w hw 15 rfl)) Via.refl e0 u1 (g := (mkF m 2 #[.val (.ref a), .val (.int (2 : Int32)), .unset] [(.ref a), (.int (2 : Int32))])) rfl rfl (hb hby d7_2)
  refine own_go st1 ?_
  obtain ⟨cl2, Ar2, q2, S2, M2, H2, G2⟩ := id u3
  refine own_go (A := T1.setTop (mkF m 7 #[.val (.ref a), .val (.int (2 : Int32)), .unset] [(.ref a), (.int (256 : Int32)), (.int (2 : Int32))])) (fun t_ k_ => ?_) ?_
  · show Steps p.tables e below (T1.setTop (mkF m 5 #[.val (.ref a), .val (.int (2 : Int32)), .unset] [(.ref b), (.int (2 : Int32))])) t_
    refine X1.arraylength hx (by rw [e1]; exact Ar2.1) (State.isArrayOf_alike hZ.alike Ar2.2.1) (g := (mkF m 5 #[.val (.ref a), .val (.int (2 : Int32)), .unset] [(.ref b), (.int (2 : Int32))])) rfl rfl (hb hby d7_5) _ ?_
    rw [len_of S2 M2]
    show Steps p.tables e below (T1.setTop (mkF m 6 #[.val (.ref a), .val (.int (2 : Int32)), .unset] [(.int (256 : Int32)), (.int (2 : Int32))])) t_
    refine XS.aloadN X1.here hx rfl (hb hby d7_6) rfl rfl ?_
    exact k_
  obtain ⟨T3, X3, e3, st3⟩ := getF X1 hx hZ hown (host := "") (Or.inl (own_w hw 54 rfl)) Via.refl e1 u2 (g := (mkF m 7 #[.val (.ref a), .val (.int (2 : Int32)), .unset] [(.ref a), (.int (256 : Int32)), (.int (2 : Int32))])) rfl rfl (hb hby d7_7)
  refine own_go st3 ?_
  refine own_go (A := T3.setTop (mkF m 14 #[.val (.ref a), .val (.int (2 : Int32)), .unset] [])) (fun t_ k_ => ?_) ?_
  · show Steps p.tables e below (T3.setTop (mkF m 10 #[.val (.ref a), .val (.int (2 : Int32)), .unset] [(.int (1 : Int32)), (.int (256 : Int32)), (.int (2 : Int32))])) t_
    refine XS.isub X3.here hx rfl (hb hby d7_10) rfl ?_
    show Steps p.tables e below (T3.setTop (mkF m 11 #[.val (.ref a), .val (.int (2 : Int32)), .unset] [(.int (255 : Int32)), (.int (2 : Int32))])) t_
    refine XS.icmpNo X3.here hx rfl (hb hby d7_11) rfl (flt (by decide : ¬ ((255 : Int32) < (2 : Int32)))).2.2.1 ?_
    exact k_
  obtain ⟨fs4, hr4, hrun4, hended4, hW4, hsame4⟩ := X3.leave (v := none) (fun _ => rfl)
  refine ⟨_, _, ?_, hrun4, hended4, _, _, rfl, ?_, ⟨_, rfl⟩, hW4, hsame4.mono (by decide) (by decide)⟩
  · exact X3.returnOut hx Bd.returns (hb hby d7_14) hr4
  · show Q_rmRoom1 Z a b k xe0 xe1 xe2 xe3 h0 n0 _ T3.heap _
    rw [e3]
    exact ⟨rfl, N0, rfl⟩
theorem ef_rmRoom3 (m : MethodId) (a : Addr) : entryFrame m #[(.ref a), (.int (1 : Int32))] 3 = mkF m 0 #[.val (.ref a), .val (.int (1 : Int32)), .unset] [] := by first | (simp [entryFrame, mkF, argsToLocals, Value.category]; done) | rfl
def Q_rmRoom3 (Z : State) (a : Addr) (b : Addr) (k : ClassId) (xe0 : Int32) (xe1 : Int32) (xe2 : Int32) (xe3 : Int32) (h0 : Heap) (n0 : Nat) (v_ : Option Value) (h_ : Heap) (L_ : List Loc) : Prop := v_ = none ∧ Fr n0 L_ ∧ h_ = h0
set_option maxRecDepth 65536 in
set_option maxHeartbeats 40000000 in
theorem rmRoom3 (l : Launch) (Z : State) (a0 : Array Value) (hw : ∀ d ∈ tables_1, d.before a0 Z = true) (ws : List Jvm.Cond) (a : Addr) (b : Addr) (k : ClassId) (xe0 : Int32) (xe1 : Int32) (xe2 : Int32) (xe3 : Int32) (h0 : Heap) (n0 : Nat) (Z0 : n0 ≤ h0.size) (u0 : Exa Z h0 a "com/example/kneiphof/kneiphof/ByteRecord") (u1 : Fld Z h0 a "com/example/kneiphof/kneiphof/ByteRecord" "bytes" "[B" (.ref b)) (u2 : Fld Z h0 a "com/example/kneiphof/kneiphof/ByteRecord" "size" "I" (.int (3 : Int32))) (u3 : Arv Z h0 b k .byte (256 : Int32) [(.int xe0), (.int xe1), (.int xe2), (.int xe3)] (.int (0 : Int32))) :
    MetFree l own_y4 (head1 (Jvm.Cond.code own_y4 prog_6_method_7_code 3 none :: ws) ({ frames := 0, cells := 0, slots := 0, locals := 0 } : Room)) (fun a_ U_ => a_ = #[(.ref a), (.int (1 : Int32))] ∧ Z.Warmed39 U_.vm ∧ U_.heap = h0) (fun _ _ _ _ _ => True) (fun _ U_ o_ U2_ => ∃ v_ L_, o_ = .returned v_ ∧ Q_rmRoom3 Z a b k xe0 xe1 xe2 xe3 h0 n0 v_ U2_.heap L_ ∧ FrameEnd U_ o_ U2_ L_ ({ frames := 0, cells := 0, slots := 0, locals := 0 } : Room).cells ({ frames := 0, cells := 0, slots := 0, locals := 0 } : Room).slots) := by
  refine MetFree.of_bodySF (plainFor_of_name pn_3) hisR ?_
  intro p e s m args below meth c s₁ Bd hml0 hP hK
  obtain ⟨rfl, hZ, hh⟩ := hP
  have hx := Bd.exec
  have hby := Bd.bytes
  have hml : c.maxLocals = 3 := hml0
  have hown : s.vm.findClass "com/example/kneiphof/kneiphof/ByteRecord" = some m.cls := findClass_of_methodNamed Bd.named
  have hnm := (name_of_methodNamed Bd.named Bd.method).1
  have X0 : Stand p l e ({ frames := 0, cells := 0, slots := 0, locals := 0 } : Room) s m #[(.ref a), (.int (1 : Int32))] below meth c s₁ [] 0 0 := Stand.of_body Bd
  have e0 : s₁.heap = h0 := by rw [← hh, Bd.state]; rfl
  have N0 := Fr.nil n0
  refine own_go (A := s₁.setTop (mkF m 0 #[.val (.ref a), .val (.int (1 : Int32)), .unset] [])) (fun t_ k_ => castTop (ef_rmRoom3 m a) k_) ?_
  refine own_go (A := s₁.setTop (mkF m 2 #[.val (.ref a), .val (.int (1 : Int32)), .unset] [(.ref a), (.int (1 : Int32))])) (fun t_ k_ => ?_) ?_
  · show Steps p.tables e below (s₁.setTop (mkF m 0 #[.val (.ref a), .val (.int (1 : Int32)), .unset] [])) t_
    refine XS.iloadN X0.here hx rfl (hb hby d7_0) rfl ?_
    show Steps p.tables e below (s₁.setTop (mkF m 1 #[.val (.ref a), .val (.int (1 : Int32)), .unset] [(.int (1 : Int32))])) t_
    refine XS.aloadN X0.here hx rfl (hb hby d7_1) rfl rfl ?_
    exact k_
  obtain ⟨T1, X1, e1, st1⟩ := getF X0 hx hZ hown (host := "") (Or.inl (own_w hw 15 rfl)) Via.refl e0 u1 (g := (mkF m 2 #[.val (.ref a), .val (.int (1 : Int32)), .unset] [(.ref a), (.int (1 : Int32))])) rfl rfl (hb hby d7_2)
  refine own_go st1 ?_
  obtain ⟨cl2, Ar2, q2, S2, M2, H2, G2⟩ := id u3
  refine own_go (A := T1.setTop (mkF m 7 #[.val (.ref a), .val (.int (1 : Int32)), .unset] [(.ref a), (.int (256 : Int32)), (.int (1 : Int32))])) (fun t_ k_ => ?_) ?_
  · show Steps p.tables e below (T1.setTop (mkF m 5 #[.val (.ref a), .val (.int (1 : Int32)), .unset] [(.ref b), (.int (1 : Int32))])) t_
    refine X1.arraylength hx (by rw [e1]; exact Ar2.1) (State.isArrayOf_alike hZ.alike Ar2.2.1) (g := (mkF m 5 #[.val (.ref a), .val (.int (1 : Int32)), .unset] [(.ref b), (.int (1 : Int32))])) rfl rfl (hb hby d7_5) _ ?_
    rw [len_of S2 M2]
    show Steps p.tables e below (T1.setTop (mkF m 6 #[.val (.ref a), .val (.int (1 : Int32)), .unset] [(.int (256 : Int32)), (.int (1 : Int32))])) t_
    refine XS.aloadN X1.here hx rfl (hb hby d7_6) rfl rfl ?_
    exact k_
  obtain ⟨T3, X3, e3, st3⟩ := getF X1 hx hZ hown (host := "") (Or.inl (own_w hw 54 rfl)) Via.refl e1 u2 (g := (mkF m 7 #[.val (.ref a), .val (.int (1 : Int32)), .unset] [(.ref a), (.int (256 : Int32)), (.int (1 : Int32))])) rfl rfl (hb hby d7_7)
  refine own_go st3 ?_
  refine own_go (A := T3.setTop (mkF m 14 #[.val (.ref a), .val (.int (1 : Int32)), .unset] [])) (fun t_ k_ => ?_) ?_
  · show Steps p.tables e below (T3.setTop (mkF m 10 #[.val (.ref a), .val (.int (1 : Int32)), .unset] [(.int (3 : Int32)), (.int (256 : Int32)), (.int (1 : Int32))])) t_
    refine XS.isub X3.here hx rfl (hb hby d7_10) rfl ?_
    show Steps p.tables e below (T3.setTop (mkF m 11 #[.val (.ref a), .val (.int (1 : Int32)), .unset] [(.int (253 : Int32)), (.int (1 : Int32))])) t_
    refine XS.icmpNo X3.here hx rfl (hb hby d7_11) rfl (flt (by decide : ¬ ((253 : Int32) < (1 : Int32)))).2.2.1 ?_
    exact k_
  obtain ⟨fs4, hr4, hrun4, hended4, hW4, hsame4⟩ := X3.leave (v := none) (fun _ => rfl)
  refine ⟨_, _, ?_, hrun4, hended4, _, _, rfl, ?_, ⟨_, rfl⟩, hW4, hsame4.mono (by decide) (by decide)⟩
  · exact X3.returnOut hx Bd.returns (hb hby d7_14) hr4
  · show Q_rmRoom3 Z a b k xe0 xe1 xe2 xe3 h0 n0 _ T3.heap _
    rw [e3]
    exact ⟨rfl, N0, rfl⟩
theorem d6_0 : decode prog_6_method_8_code 0 = .ok (.aload_n 0, 1) := by decide +kernel
theorem d6_1 : decode prog_6_method_8_code 1 = .ok (.iconst 1, 1) := by decide +kernel
theorem pd_2 : parseMethodDescriptor "(I)V" = some ⟨[.int], none⟩ := by decide +kernel
theorem d6_2 : decode prog_6_method_8_code 2 = .ok (.invokevirtual 65, 3) := by decide +kernel
theorem d6_5 : decode prog_6_method_8_code 5 = .ok (.aload_n 0, 1) := by decide +kernel
theorem d6_6 : decode prog_6_method_8_code 6 = .ok (.getfield 9, 3) := by decide +kernel
theorem d6_9 : decode prog_6_method_8_code 9 = .ok (.aload_n 0, 1) := by decide +kernel
theorem d6_10 : decode prog_6_method_8_code 10 = .ok (.dup, 1) := by decide +kernel
theorem d6_11 : decode prog_6_method_8_code 11 = .ok (.getfield 24, 3) := by decide +kernel
theorem d6_14 : decode prog_6_method_8_code 14 = .ok (.dup_x1, 1) := by decide +kernel
theorem d6_15 : decode prog_6_method_8_code 15 = .ok (.iconst 1, 1) := by decide +kernel
theorem d6_16 : decode prog_6_method_8_code 16 = .ok (.iadd, 1) := by decide +kernel
theorem d6_17 : decode prog_6_method_8_code 17 = .ok (.putfield 24, 3) := by decide +kernel
theorem d6_20 : decode prog_6_method_8_code 20 = .ok (.iload_n 1, 1) := by decide +kernel
theorem d6_21 : decode prog_6_method_8_code 21 = .ok (.i2b, 1) := by decide +kernel
theorem d6_22 : decode prog_6_method_8_code 22 = .ok (.bastore, 1) := by decide +kernel
theorem d6_23 : decode prog_6_method_8_code 23 = .ok (.return_, 1) := by decide +kernel
abbrev own_y5 : MethodName := ⟨"com/example/kneiphof/kneiphof/ByteRecord", "write", "(I)V"⟩
theorem ef_rmWrite0 (m : MethodId) (a : Addr) (pp : Int32) : entryFrame m #[(.ref a), (.int pp)] 2 = mkF m 0 #[.val (.ref a), .val (.int pp)] [] := by first | (simp [entryFrame, mkF, argsToLocals, Value.category]; done) | rfl
def Q_rmWrite0 (Z : State) (a : Addr) (pp : Int32) (b : Addr) (k : ClassId) (xe0 : Int32) (xe1 : Int32) (xe2 : Int32) (xe3 : Int32) (h0 : Heap) (n0 : Nat) (v_ : Option Value) (h_ : Heap) (L_ : List Loc) : Prop := v_ = none ∧ Fr n0 L_ ∧ Keep h0 h_ [a, b] ∧ Fld Z h_ a "com/example/kneiphof/kneiphof/ByteRecord" "bytes" "[B" (.ref b) ∧ Fld Z h_ a "com/example/kneiphof/kneiphof/ByteRecord" "size" "I" (.int (1 : Int32)) ∧ Arv Z h_ b k .byte (256 : Int32) [(.int (pp).toInt8.toInt32), (.int xe1), (.int xe2), (.int xe3)] (.int (0 : Int32))
set_option maxRecDepth 65536 in
set_option maxHeartbeats 40000000 in
theorem rmWrite0 (l : Launch) (Z : State) (a0 : Array Value) (hw : ∀ d ∈ tables_1, d.before a0 Z = true) (ws : List Jvm.Cond) (a : Addr) (pp : Int32) (b : Addr) (k : ClassId) (xe0 : Int32) (xe1 : Int32) (xe2 : Int32) (xe3 : Int32) (h0 : Heap) (n0 : Nat) (Z0 : n0 ≤ h0.size) (u0 : Exa Z h0 a "com/example/kneiphof/kneiphof/ByteRecord") (u1 : Fld Z h0 a "com/example/kneiphof/kneiphof/ByteRecord" "bytes" "[B" (.ref b)) (u2 : Fld Z h0 a "com/example/kneiphof/kneiphof/ByteRecord" "size" "I" (.int (0 : Int32))) (u3 : Arv Z h0 b k .byte (256 : Int32) [(.int xe0), (.int xe1), (.int xe2), (.int xe3)] (.int (0 : Int32))) (u4 : n0 ≤ a) (u5 : n0 ≤ b) (u6 : a ≠ b) :
    MetFree l own_y5 (head1 (Jvm.Cond.code own_y5 prog_6_method_8_code 2 none :: ws) ({ frames := 1, cells := 0, slots := 0, locals := 14 } : Room)) (fun a_ U_ => a_ = #[(.ref a), (.int pp)] ∧ Z.Warmed39 U_.vm ∧ U_.heap = h0) (fun _ _ _ _ _ => True) (fun _ U_ o_ U2_ => ∃ v_ L_, o_ = .returned v_ ∧ Q_rmWrite0 Z a pp b k xe0 xe1 xe2 xe3 h0 n0 v_ U2_.heap L_ ∧ FrameEnd U_ o_ U2_ L_ ({ frames := 1, cells := 0, slots := 0, locals := 14 } : Room).cells ({ frames := 1, cells := 0, slots := 0, locals := 14 } : Room).slots) := by
  refine MetFree.of_bodySF (plainFor_of_name pn_3) hisR ?_
  intro p e s m args below meth c s₁ Bd hml0 hP hK
  obtain ⟨rfl, hZ, hh⟩ := hP
  have hx := Bd.exec
  have hby := Bd.bytes
  have hml : c.maxLocals = 2 := hml0
  have hown : s.vm.findClass "com/example/kneiphof/kneiphof/ByteRecord" = some m.cls := findClass_of_methodNamed Bd.named
  have hnm := (name_of_methodNamed Bd.named Bd.method).1
  have X0 : Stand p l e ({ frames := 1, cells := 0, slots := 0, locals := 14 } : Room) s m #[(.ref a), (.int pp)] below meth c s₁ [] 0 0 := Stand.of_body Bd
  have e0 : s₁.heap = h0 := by rw [← hh, Bd.state]; rfl
  have N0 := Fr.nil n0
  refine own_go (A := s₁.setTop (mkF m 0 #[.val (.ref a), .val (.int pp)] [])) (fun t_ k_ => castTop (ef_rmWrite0 m a pp) k_) ?_
  refine own_go (A := s₁.setTop (mkF m 2 #[.val (.ref a), .val (.int pp)] [(.int (1 : Int32)), (.ref a)])) (fun t_ k_ => ?_) ?_
  · show Steps p.tables e below (s₁.setTop (mkF m 0 #[.val (.ref a), .val (.int pp)] [])) t_
    refine XS.aloadN X0.here hx rfl (hb hby d6_0) rfl rfl ?_
    show Steps p.tables e below (s₁.setTop (mkF m 1 #[.val (.ref a), .val (.int pp)] [(.ref a)])) t_
    refine XS.iconst X0.here hx rfl (hb hby d6_1) ?_
    exact k_
  obtain ⟨cq1, q1, q1'⟩ := u0.cell
  obtain ⟨_, _, ⟨T1, L1, k1, n1⟩, -, X1, ⟨Lc1, hQ1, l1, y1, z1⟩, st1⟩ := X0.privateBack hx (y := own_y4) hown (mvT hZ (own_w hw 50 rfl)) (mvT hZ (own_w hw 51 rfl)) (mvT hZ (own_selP (y := own_y4) (own_w hw 51 rfl) (own_w hw 52 rfl) (own_w hw 1 rfl) (by decide))) (Cond.privateMethod_at (mvP hZ (own_w hw 52 rfl) (args := #[]))) (mvT hZ (own_w hw 53 rfl)) (by decide) (backOf (W := 0) (rmRoom0 l Z a0 hw [] a b k xe0 xe1 xe2 xe3 h0 n0 Z0 u0 u1 u2 u3) hZ (own_w hw 53 rfl) (own_w hw 2 rfl) (by decide) (by decide)) (g := (mkF m 2 #[.val (.ref a), .val (.int pp)] [(.int (1 : Int32)), (.ref a)])) rfl (by rw [hml]; rfl) (Steps.refl _) (a := a) (by rw [e0]; exact q1) q1' (argsL := [(.int (1 : Int32))]) (rest := []) (lenOf pd_2 rfl) rfl (by show 2 * 0 + _ ≤ _; exact Nat.le_of_eq rfl) (hb hby d6_2) (fun _ _ => ⟨rfl, e0, (by decide : 0 + 0 ≤ _), (by decide : 0 + 0 ≤ _)⟩)
  dsimp only [Pt.U, Pt.locs, Pt.cells, Pt.slots] at X1 l1 y1 z1 st1 hQ1
  subst l1 y1 z1
  obtain ⟨rfl, N1q, eh1⟩ := hQ1
  have N1 := Fr.app N0 N1q
  refine own_via st1 ?_
  refine own_go (A := T1.setTop (mkF m 6 #[.val (.ref a), .val (.int pp)] [(.ref a)])) (fun t_ k_ => ?_) ?_
  · show Steps p.tables e below (T1.setTop (mkF m 5 #[.val (.ref a), .val (.int pp)] [])) t_
    refine XS.aloadN X1.here hx rfl (hb hby d6_5) rfl rfl ?_
    exact k_
  obtain ⟨T2, X2, e2, st2⟩ := getF X1 hx hZ hown (host := "") (Or.inl (own_w hw 15 rfl)) Via.refl eh1 u1 (g := (mkF m 6 #[.val (.ref a), .val (.int pp)] [(.ref a)])) rfl rfl (hb hby d6_6)
  refine own_go st2 ?_
  refine own_go (A := T2.setTop (mkF m 11 #[.val (.ref a), .val (.int pp)] [(.ref a), (.ref a), (.ref b)])) (fun t_ k_ => ?_) ?_
  · show Steps p.tables e below (T2.setTop (mkF m 9 #[.val (.ref a), .val (.int pp)] [(.ref b)])) t_
    refine XS.aloadN X2.here hx rfl (hb hby d6_9) rfl rfl ?_
    show Steps p.tables e below (T2.setTop (mkF m 10 #[.val (.ref a), .val (.int pp)] [(.ref a), (.ref b)])) t_
    refine XS.dup X2.here hx rfl (hb hby d6_10) rfl rfl ?_
    exact k_
  obtain ⟨T3, X3, e3, st3⟩ := getF X2 hx hZ hown (host := "") (Or.inl (own_w hw 54 rfl)) Via.refl e2 u2 (g := (mkF m 11 #[.val (.ref a), .val (.int pp)] [(.ref a), (.ref a), (.ref b)])) rfl rfl (hb hby d6_11)
  refine own_go st3 ?_
  refine own_go (A := T3.setTop (mkF m 17 #[.val (.ref a), .val (.int pp)] [(.int (1 : Int32)), (.ref a), (.int (0 : Int32)), (.ref b)])) (fun t_ k_ => ?_) ?_
  · show Steps p.tables e below (T3.setTop (mkF m 14 #[.val (.ref a), .val (.int pp)] [(.int (0 : Int32)), (.ref a), (.ref b)])) t_
    refine XS.dupX1 X3.here hx rfl (hb hby d6_14) rfl rfl rfl ?_
    show Steps p.tables e below (T3.setTop (mkF m 15 #[.val (.ref a), .val (.int pp)] [(.int (0 : Int32)), (.ref a), (.int (0 : Int32)), (.ref b)])) t_
    refine XS.iconst X3.here hx rfl (hb hby d6_15) ?_
    show Steps p.tables e below (T3.setTop (mkF m 16 #[.val (.ref a), .val (.int pp)] [(.int (1 : Int32)), (.int (0 : Int32)), (.ref a), (.int (0 : Int32)), (.ref b)])) t_
    refine XS.iadd X3.here hx rfl (hb hby d6_16) rfl ?_
    exact k_
  obtain ⟨T4, h4, X4, e4, W4, st4⟩ := putF X3 hx hZ hown (host := "") (Or.inl (own_w hw 54 rfl)) Via.refl e3 u2 u0 (Or.inl (own_w hw 55 rfl)) (own_w hw 1 rfl) (ty := .int) (by decide) rfl rfl (g := (mkF m 17 #[.val (.ref a), .val (.int pp)] [(.int (1 : Int32)), (.ref a), (.int (0 : Int32)), (.ref b)])) rfl rfl (hb hby d6_17)
  have Fw4 : Fld Z h4 a "com/example/kneiphof/kneiphof/ByteRecord" "size" "I" (.int (1 : Int32)) := u2.same W4
  refine own_go st4 ?_
  have K4 : Keep h0 h4 [a, b] := (Keep.refl h0 [a, b]).wr W4 (Or.inl (List.mem_of_getElem? (i := 0) rfl))
  have N4 := Fr.snoc X4 N1 u4
  refine own_go (A := T4.setTop (mkF m 22 #[.val (.ref a), .val (.int pp)] [(.int (pp).toInt8.toInt32), (.int (0 : Int32)), (.ref b)])) (fun t_ k_ => ?_) ?_
  · show Steps p.tables e below (T4.setTop (mkF m 20 #[.val (.ref a), .val (.int pp)] [(.int (0 : Int32)), (.ref b)])) t_
    refine XS.iloadN X4.here hx rfl (hb hby d6_20) rfl ?_
    show Steps p.tables e below (T4.setTop (mkF m 21 #[.val (.ref a), .val (.int pp)] [(.int pp), (.int (0 : Int32)), (.ref b)])) t_
    refine XS.i2b X4.here hx rfl (hb hby d6_21) rfl ?_
    exact k_
  obtain ⟨cl5, Ar5, q5, S5, M5, H5, G5⟩ := id (u3.other W4 (Ne.symm u6))
  have hin5 : ¬ ((0 : Int32) < 0 ∨ cl5.slots.size ≤ ((0 : Int32)).toNatClampNeg) := inb_of S5 ⟨by decide, by decide⟩
  obtain ⟨T6, h6, X6, e6, W6, st6⟩ := stB X4 hx hZ e4 Ar5 (j := (0 : Int32)) hin5 (g := (mkF m 22 #[.val (.ref a), .val (.int pp)] [(.int (pp).toInt8.toInt32), (.int (0 : Int32)), (.ref b)])) rfl rfl (hb hby d6_22)
  rw [own_narb] at W6
  have B6 : Arv Z h6 b k .byte (256 : Int32) [(.int (pp).toInt8.toInt32), (.int xe1), (.int xe2), (.int xe3)] (.int (0 : Int32)) := Arv.set Ar5 q5 S5 M5 H5 G5 (fits_nar_byte _) W6 0 rfl (Nat.le_of_ble_eq_true rfl)
  refine own_go st6 ?_
  have K6 : Keep h0 h6 [a, b] := K4.wr W6 (Or.inl (List.mem_of_getElem? (i := 1) rfl))
  have N6 := Fr.snoc X6 N4 u5
  obtain ⟨fs7, hr7, hrun7, hended7, hW7, hsame7⟩ := X6.leave (v := none) (fun _ => rfl)
  refine ⟨_, _, ?_, hrun7, hended7, _, _, rfl, ?_, ⟨_, rfl⟩, hW7, hsame7.mono (by decide) (by decide)⟩
  · exact X6.returnOut hx Bd.returns (hb hby d6_23) hr7
  · show Q_rmWrite0 Z a pp b k xe0 xe1 xe2 xe3 h0 n0 _ T6.heap _
    rw [e6]
    exact ⟨rfl, N6, K6, ((u1.other W4 (Or.inr (slot_ne (Or.inl (own_w hw 16 rfl)) (Or.inl (own_w hw 55 rfl)) (by decide) (t := (.array .byte)) (t' := .int) (by decide) (by decide)))).other W6 (Or.inl u6)), (Fw4.other W6 (Or.inl u6)), B6⟩
theorem ef_rmWrite3 (m : MethodId) (a : Addr) (pp : Int32) : entryFrame m #[(.ref a), (.int pp)] 2 = mkF m 0 #[.val (.ref a), .val (.int pp)] [] := by first | (simp [entryFrame, mkF, argsToLocals, Value.category]; done) | rfl
def Q_rmWrite3 (Z : State) (a : Addr) (pp : Int32) (b : Addr) (k : ClassId) (xe0 : Int32) (xe1 : Int32) (xe2 : Int32) (xe3 : Int32) (h0 : Heap) (n0 : Nat) (v_ : Option Value) (h_ : Heap) (L_ : List Loc) : Prop := v_ = none ∧ Fr n0 L_ ∧ Keep h0 h_ [a, b] ∧ Fld Z h_ a "com/example/kneiphof/kneiphof/ByteRecord" "bytes" "[B" (.ref b) ∧ Fld Z h_ a "com/example/kneiphof/kneiphof/ByteRecord" "size" "I" (.int (4 : Int32)) ∧ Arv Z h_ b k .byte (256 : Int32) [(.int xe0), (.int xe1), (.int xe2), (.int (pp).toInt8.toInt32)] (.int (0 : Int32))
set_option maxRecDepth 65536 in
set_option maxHeartbeats 40000000 in
theorem rmWrite3 (l : Launch) (Z : State) (a0 : Array Value) (hw : ∀ d ∈ tables_1, d.before a0 Z = true) (ws : List Jvm.Cond) (a : Addr) (pp : Int32) (b : Addr) (k : ClassId) (xe0 : Int32) (xe1 : Int32) (xe2 : Int32) (xe3 : Int32) (h0 : Heap) (n0 : Nat) (Z0 : n0 ≤ h0.size) (u0 : Exa Z h0 a "com/example/kneiphof/kneiphof/ByteRecord") (u1 : Fld Z h0 a "com/example/kneiphof/kneiphof/ByteRecord" "bytes" "[B" (.ref b)) (u2 : Fld Z h0 a "com/example/kneiphof/kneiphof/ByteRecord" "size" "I" (.int (3 : Int32))) (u3 : Arv Z h0 b k .byte (256 : Int32) [(.int xe0), (.int xe1), (.int xe2), (.int xe3)] (.int (0 : Int32))) (u4 : n0 ≤ a) (u5 : n0 ≤ b) (u6 : a ≠ b) :
    MetFree l own_y5 (head1 (Jvm.Cond.code own_y5 prog_6_method_8_code 2 none :: ws) ({ frames := 1, cells := 0, slots := 0, locals := 14 } : Room)) (fun a_ U_ => a_ = #[(.ref a), (.int pp)] ∧ Z.Warmed39 U_.vm ∧ U_.heap = h0) (fun _ _ _ _ _ => True) (fun _ U_ o_ U2_ => ∃ v_ L_, o_ = .returned v_ ∧ Q_rmWrite3 Z a pp b k xe0 xe1 xe2 xe3 h0 n0 v_ U2_.heap L_ ∧ FrameEnd U_ o_ U2_ L_ ({ frames := 1, cells := 0, slots := 0, locals := 14 } : Room).cells ({ frames := 1, cells := 0, slots := 0, locals := 14 } : Room).slots) := by
  refine MetFree.of_bodySF (plainFor_of_name pn_3) hisR ?_
  intro p e s m args below meth c s₁ Bd hml0 hP hK
  obtain ⟨rfl, hZ, hh⟩ := hP
  have hx := Bd.exec
  have hby := Bd.bytes
  have hml : c.maxLocals = 2 := hml0
  have hown : s.vm.findClass "com/example/kneiphof/kneiphof/ByteRecord" = some m.cls := findClass_of_methodNamed Bd.named
  have hnm := (name_of_methodNamed Bd.named Bd.method).1
  have X0 : Stand p l e ({ frames := 1, cells := 0, slots := 0, locals := 14 } : Room) s m #[(.ref a), (.int pp)] below meth c s₁ [] 0 0 := Stand.of_body Bd
  have e0 : s₁.heap = h0 := by rw [← hh, Bd.state]; rfl
  have N0 := Fr.nil n0
  refine own_go (A := s₁.setTop (mkF m 0 #[.val (.ref a), .val (.int pp)] [])) (fun t_ k_ => castTop (ef_rmWrite3 m a pp) k_) ?_
  refine own_go (A := s₁.setTop (mkF m 2 #[.val (.ref a), .val (.int pp)] [(.int (1 : Int32)), (.ref a)])) (fun t_ k_ => ?_) ?_
  · show Steps p.tables e below (s₁.setTop (mkF m 0 #[.val (.ref a), .val (.int pp)] [])) t_
    refine XS.aloadN X0.here hx rfl (hb hby d6_0) rfl rfl ?_
    show Steps p.tables e below (s₁.setTop (mkF m 1 #[.val (.ref a), .val (.int pp)] [(.ref a)])) t_
    refine XS.iconst X0.here hx rfl (hb hby d6_1) ?_
    exact k_
  obtain ⟨cq1, q1, q1'⟩ := u0.cell
  obtain ⟨_, _, ⟨T1, L1, k1, n1⟩, -, X1, ⟨Lc1, hQ1, l1, y1, z1⟩, st1⟩ := X0.privateBack hx (y := own_y4) hown (mvT hZ (own_w hw 50 rfl)) (mvT hZ (own_w hw 51 rfl)) (mvT hZ (own_selP (y := own_y4) (own_w hw 51 rfl) (own_w hw 52 rfl) (own_w hw 1 rfl) (by decide))) (Cond.privateMethod_at (mvP hZ (own_w hw 52 rfl) (args := #[]))) (mvT hZ (own_w hw 53 rfl)) (by decide) (backOf (W := 0) (rmRoom3 l Z a0 hw [] a b k xe0 xe1 xe2 xe3 h0 n0 Z0 u0 u1 u2 u3) hZ (own_w hw 53 rfl) (own_w hw 2 rfl) (by decide) (by decide)) (g := (mkF m 2 #[.val (.ref a), .val (.int pp)] [(.int (1 : Int32)), (.ref a)])) rfl (by rw [hml]; rfl) (Steps.refl _) (a := a) (by rw [e0]; exact q1) q1' (argsL := [(.int (1 : Int32))]) (rest := []) (lenOf pd_2 rfl) rfl (by show 2 * 0 + _ ≤ _; exact Nat.le_of_eq rfl) (hb hby d6_2) (fun _ _ => ⟨rfl, e0, (by decide : 0 + 0 ≤ _), (by decide : 0 + 0 ≤ _)⟩)
  dsimp only [Pt.U, Pt.locs, Pt.cells, Pt.slots] at X1 l1 y1 z1 st1 hQ1
  subst l1 y1 z1
  obtain ⟨rfl, N1q, eh1⟩ := hQ1
  have N1 := Fr.app N0 N1q
  refine own_via st1 ?_
  refine own_go (A := T1.setTop (mkF m 6 #[.val (.ref a), .val (.int pp)] [(.ref a)])) (fun t_ k_ => ?_) ?_
  · show Steps p.tables e below (T1.setTop (mkF m 5 #[.val (.ref a), .val (.int pp)] [])) t_
    refine XS.aloadN X1.here hx rfl (hb hby d6_5) rfl rfl ?_
    exact k_
  obtain ⟨T2, X2, e2, st2⟩ := getF X1 hx hZ hown (host := "") (Or.inl (own_w hw 15 rfl)) Via.refl eh1 u1 (g := (mkF m 6 #[.val (.ref a), .val (.int pp)] [(.ref a)])) rfl rfl (hb hby d6_6)
  refine own_go st2 ?_
  refine own_go (A := T2.setTop (mkF m 11 #[.val (.ref a), .val (.int pp)] [(.ref a), (.ref a), (.ref b)])) (fun t_ k_ => ?_) ?_
  · show Steps p.tables e below (T2.setTop (mkF m 9 #[.val (.ref a), .val (.int pp)] [(.ref b)])) t_
    refine XS.aloadN X2.here hx rfl (hb hby d6_9) rfl rfl ?_
    show Steps p.tables e below (T2.setTop (mkF m 10 #[.val (.ref a), .val (.int pp)] [(.ref a), (.ref b)])) t_
    refine XS.dup X2.here hx rfl (hb hby d6_10) rfl rfl ?_
    exact k_
  obtain ⟨T3, X3, e3, st3⟩ := getF X2 hx hZ hown (host := "") (Or.inl (own_w hw 54 rfl)) Via.refl e2 u2 (g := (mkF m 11 #[.val (.ref a), .val (.int pp)] [(.ref a), (.ref a), (.ref b)])) rfl rfl (hb hby d6_11)
  refine own_go st3 ?_
  refine own_go (A := T3.setTop (mkF m 17 #[.val (.ref a), .val (.int pp)] [(.int (4 : Int32)), (.ref a), (.int (3 : Int32)), (.ref b)])) (fun t_ k_ => ?_) ?_
  · show Steps p.tables e below (T3.setTop (mkF m 14 #[.val (.ref a), .val (.int pp)] [(.int (3 : Int32)), (.ref a), (.ref b)])) t_
    refine XS.dupX1 X3.here hx rfl (hb hby d6_14) rfl rfl rfl ?_
    show Steps p.tables e below (T3.setTop (mkF m 15 #[.val (.ref a), .val (.int pp)] [(.int (3 : Int32)), (.ref a), (.int (3 : Int32)), (.ref b)])) t_
    refine XS.iconst X3.here hx rfl (hb hby d6_15) ?_
    show Steps p.tables e below (T3.setTop (mkF m 16 #[.val (.ref a), .val (.int pp)] [(.int (1 : Int32)), (.int (3 : Int32)), (.ref a), (.int (3 : Int32)), (.ref b)])) t_
    refine XS.iadd X3.here hx rfl (hb hby d6_16) rfl ?_
    exact k_
  obtain ⟨T4, h4, X4, e4, W4, st4⟩ := putF X3 hx hZ hown (host := "") (Or.inl (own_w hw 54 rfl)) Via.refl e3 u2 u0 (Or.inl (own_w hw 55 rfl)) (own_w hw 1 rfl) (ty := .int) (by decide) rfl rfl (g := (mkF m 17 #[.val (.ref a), .val (.int pp)] [(.int (4 : Int32)), (.ref a), (.int (3 : Int32)), (.ref b)])) rfl rfl (hb hby d6_17)
  have Fw4 : Fld Z h4 a "com/example/kneiphof/kneiphof/ByteRecord" "size" "I" (.int (4 : Int32)) := u2.same W4
  refine own_go st4 ?_
  have K4 : Keep h0 h4 [a, b] := (Keep.refl h0 [a, b]).wr W4 (Or.inl (List.mem_of_getElem? (i := 0) rfl))
  have N4 := Fr.snoc X4 N1 u4
  refine own_go (A := T4.setTop (mkF m 22 #[.val (.ref a), .val (.int pp)] [(.int (pp).toInt8.toInt32), (.int (3 : Int32)), (.ref b)])) (fun t_ k_ => ?_) ?_
  · show Steps p.tables e below (T4.setTop (mkF m 20 #[.val (.ref a), .val (.int pp)] [(.int (3 : Int32)), (.ref b)])) t_
    refine XS.iloadN X4.here hx rfl (hb hby d6_20) rfl ?_
    show Steps p.tables e below (T4.setTop (mkF m 21 #[.val (.ref a), .val (.int pp)] [(.int pp), (.int (3 : Int32)), (.ref b)])) t_
    refine XS.i2b X4.here hx rfl (hb hby d6_21) rfl ?_
    exact k_
  obtain ⟨cl5, Ar5, q5, S5, M5, H5, G5⟩ := id (u3.other W4 (Ne.symm u6))
  have hin5 : ¬ ((3 : Int32) < 0 ∨ cl5.slots.size ≤ ((3 : Int32)).toNatClampNeg) := inb_of S5 ⟨by decide, by decide⟩
  obtain ⟨T6, h6, X6, e6, W6, st6⟩ := stB X4 hx hZ e4 Ar5 (j := (3 : Int32)) hin5 (g := (mkF m 22 #[.val (.ref a), .val (.int pp)] [(.int (pp).toInt8.toInt32), (.int (3 : Int32)), (.ref b)])) rfl rfl (hb hby d6_22)
  rw [own_narb] at W6
  have B6 : Arv Z h6 b k .byte (256 : Int32) [(.int xe0), (.int xe1), (.int xe2), (.int (pp).toInt8.toInt32)] (.int (0 : Int32)) := Arv.set Ar5 q5 S5 M5 H5 G5 (fits_nar_byte _) W6 3 rfl (Nat.le_of_ble_eq_true rfl)
  refine own_go st6 ?_
  have K6 : Keep h0 h6 [a, b] := K4.wr W6 (Or.inl (List.mem_of_getElem? (i := 1) rfl))
  have N6 := Fr.snoc X6 N4 u5
  obtain ⟨fs7, hr7, hrun7, hended7, hW7, hsame7⟩ := X6.leave (v := none) (fun _ => rfl)
  refine ⟨_, _, ?_, hrun7, hended7, _, _, rfl, ?_, ⟨_, rfl⟩, hW7, hsame7.mono (by decide) (by decide)⟩
  · exact X6.returnOut hx Bd.returns (hb hby d6_23) hr7
  · show Q_rmWrite3 Z a pp b k xe0 xe1 xe2 xe3 h0 n0 _ T6.heap _
    rw [e6]
    exact ⟨rfl, N6, K6, ((u1.other W4 (Or.inr (slot_ne (Or.inl (own_w hw 16 rfl)) (Or.inl (own_w hw 55 rfl)) (by decide) (t := (.array .byte)) (t' := .int) (by decide) (by decide)))).other W6 (Or.inl u6)), (Fw4.other W6 (Or.inl u6)), B6⟩
theorem d12_0 : decode prog_6_method_13_code 0 = .ok (.aload_n 0, 1) := by decide +kernel
theorem d12_1 : decode prog_6_method_13_code 1 = .ok (.iconst 2, 1) := by decide +kernel
theorem d12_2 : decode prog_6_method_13_code 2 = .ok (.invokevirtual 65, 3) := by decide +kernel
theorem d12_5 : decode prog_6_method_13_code 5 = .ok (.aload_n 0, 1) := by decide +kernel
theorem d12_6 : decode prog_6_method_13_code 6 = .ok (.getfield 9, 3) := by decide +kernel
theorem d12_9 : decode prog_6_method_13_code 9 = .ok (.aload_n 0, 1) := by decide +kernel
theorem d12_10 : decode prog_6_method_13_code 10 = .ok (.getfield 24, 3) := by decide +kernel
theorem d12_13 : decode prog_6_method_13_code 13 = .ok (.iload_n 1, 1) := by decide +kernel
theorem d12_14 : decode prog_6_method_13_code 14 = .ok (.bipush 8, 2) := by decide +kernel
theorem d12_16 : decode prog_6_method_13_code 16 = .ok (.iushr, 1) := by decide +kernel
theorem d12_17 : decode prog_6_method_13_code 17 = .ok (.i2b, 1) := by decide +kernel
theorem d12_18 : decode prog_6_method_13_code 18 = .ok (.bastore, 1) := by decide +kernel
theorem d12_19 : decode prog_6_method_13_code 19 = .ok (.aload_n 0, 1) := by decide +kernel
theorem d12_20 : decode prog_6_method_13_code 20 = .ok (.getfield 9, 3) := by decide +kernel
theorem d12_23 : decode prog_6_method_13_code 23 = .ok (.aload_n 0, 1) := by decide +kernel
theorem d12_24 : decode prog_6_method_13_code 24 = .ok (.getfield 24, 3) := by decide +kernel
theorem d12_27 : decode prog_6_method_13_code 27 = .ok (.iconst 1, 1) := by decide +kernel
theorem d12_28 : decode prog_6_method_13_code 28 = .ok (.iadd, 1) := by decide +kernel
theorem d12_29 : decode prog_6_method_13_code 29 = .ok (.iload_n 1, 1) := by decide +kernel
theorem d12_30 : decode prog_6_method_13_code 30 = .ok (.i2b, 1) := by decide +kernel
theorem d12_31 : decode prog_6_method_13_code 31 = .ok (.bastore, 1) := by decide +kernel
theorem d12_32 : decode prog_6_method_13_code 32 = .ok (.aload_n 0, 1) := by decide +kernel
theorem d12_33 : decode prog_6_method_13_code 33 = .ok (.dup, 1) := by decide +kernel
theorem d12_34 : decode prog_6_method_13_code 34 = .ok (.getfield 24, 3) := by decide +kernel
theorem d12_37 : decode prog_6_method_13_code 37 = .ok (.iconst 2, 1) := by decide +kernel
theorem d12_38 : decode prog_6_method_13_code 38 = .ok (.iadd, 1) := by decide +kernel
theorem d12_39 : decode prog_6_method_13_code 39 = .ok (.putfield 24, 3) := by decide +kernel
theorem d12_42 : decode prog_6_method_13_code 42 = .ok (.return_, 1) := by decide +kernel
abbrev own_y6 : MethodName := ⟨"com/example/kneiphof/kneiphof/ByteRecord", "writeShort", "(I)V"⟩
theorem ef_rmShort1 (m : MethodId) (a : Addr) (pp : Int32) : entryFrame m #[(.ref a), (.int pp)] 2 = mkF m 0 #[.val (.ref a), .val (.int pp)] [] := by first | (simp [entryFrame, mkF, argsToLocals, Value.category]; done) | rfl
def Q_rmShort1 (Z : State) (a : Addr) (pp : Int32) (b : Addr) (k : ClassId) (xe0 : Int32) (xe1 : Int32) (xe2 : Int32) (xe3 : Int32) (h0 : Heap) (n0 : Nat) (v_ : Option Value) (h_ : Heap) (L_ : List Loc) : Prop := v_ = none ∧ Fr n0 L_ ∧ Keep h0 h_ [a, b] ∧ Fld Z h_ a "com/example/kneiphof/kneiphof/ByteRecord" "bytes" "[B" (.ref b) ∧ Fld Z h_ a "com/example/kneiphof/kneiphof/ByteRecord" "size" "I" (.int (3 : Int32)) ∧ Arv Z h_ b k .byte (256 : Int32) [(.int xe0), (.int (((pp).toUInt32 >>> ((8 : Int32) &&& 31).toUInt32).toInt32).toInt8.toInt32), (.int (pp).toInt8.toInt32), (.int xe3)] (.int (0 : Int32))
set_option maxRecDepth 65536 in
set_option maxHeartbeats 40000000 in
theorem rmShort1 (l : Launch) (Z : State) (a0 : Array Value) (hw : ∀ d ∈ tables_1, d.before a0 Z = true) (ws : List Jvm.Cond) (a : Addr) (pp : Int32) (b : Addr) (k : ClassId) (xe0 : Int32) (xe1 : Int32) (xe2 : Int32) (xe3 : Int32) (h0 : Heap) (n0 : Nat) (Z0 : n0 ≤ h0.size) (u0 : Exa Z h0 a "com/example/kneiphof/kneiphof/ByteRecord") (u1 : Fld Z h0 a "com/example/kneiphof/kneiphof/ByteRecord" "bytes" "[B" (.ref b)) (u2 : Fld Z h0 a "com/example/kneiphof/kneiphof/ByteRecord" "size" "I" (.int (1 : Int32))) (u3 : Arv Z h0 b k .byte (256 : Int32) [(.int xe0), (.int xe1), (.int xe2), (.int xe3)] (.int (0 : Int32))) (u4 : n0 ≤ a) (u5 : n0 ≤ b) (u6 : a ≠ b) :
    MetFree l own_y6 (head1 (Jvm.Cond.code own_y6 prog_6_method_13_code 2 none :: ws) ({ frames := 1, cells := 0, slots := 0, locals := 14 } : Room)) (fun a_ U_ => a_ = #[(.ref a), (.int pp)] ∧ Z.Warmed39 U_.vm ∧ U_.heap = h0) (fun _ _ _ _ _ => True) (fun _ U_ o_ U2_ => ∃ v_ L_, o_ = .returned v_ ∧ Q_rmShort1 Z a pp b k xe0 xe1 xe2 xe3 h0 n0 v_ U2_.heap L_ ∧ FrameEnd U_ o_ U2_ L_ ({ frames := 1, cells := 0, slots := 0, locals := 14 } : Room).cells ({ frames := 1, cells := 0, slots := 0, locals := 14 } : Room).slots) := by
  refine MetFree.of_bodySF (plainFor_of_name pn_3) hisR ?_
  intro p e s m args below meth c s₁ Bd hml0 hP hK
  obtain ⟨rfl, hZ, hh⟩ := hP
  have hx := Bd.exec
  have hby := Bd.bytes
  have hml : c.maxLocals = 2 := hml0
  have hown : s.vm.findClass "com/example/kneiphof/kneiphof/ByteRecord" = some m.cls := findClass_of_methodNamed Bd.named
  have hnm := (name_of_methodNamed Bd.named Bd.method).1
  have X0 : Stand p l e ({ frames := 1, cells := 0, slots := 0, locals := 14 } : Room) s m #[(.ref a), (.int pp)] below meth c s₁ [] 0 0 := Stand.of_body Bd
  have e0 : s₁.heap = h0 := by rw [← hh, Bd.state]; rfl
  have N0 := Fr.nil n0
  refine own_go (A := s₁.setTop (mkF m 0 #[.val (.ref a), .val (.int pp)] [])) (fun t_ k_ => castTop (ef_rmShort1 m a pp) k_) ?_
  refine own_go (A := s₁.setTop (mkF m 2 #[.val (.ref a), .val (.int pp)] [(.int (2 : Int32)), (.ref a)])) (fun t_ k_ => ?_) ?_
  · show Steps p.tables e below (s₁.setTop (mkF m 0 #[.val (.ref a), .val (.int pp)] [])) t_
    refine XS.aloadN X0.here hx rfl (hb hby d12_0) rfl rfl ?_
    show Steps p.tables e below (s₁.setTop (mkF m 1 #[.val (.ref a), .val (.int pp)] [(.ref a)])) t_
    refine XS.iconst X0.here hx rfl (hb hby d12_1) ?_
    exact k_
  obtain ⟨cq1, q1, q1'⟩ := u0.cell
  obtain ⟨_, _, ⟨T1, L1, k1, n1⟩, -, X1, ⟨Lc1, hQ1, l1, y1, z1⟩, st1⟩ := X0.privateBack hx (y := own_y4) hown (mvT hZ (own_w hw 50 rfl)) (mvT hZ (own_w hw 51 rfl)) (mvT hZ (own_selP (y := own_y4) (own_w hw 51 rfl) (own_w hw 52 rfl) (own_w hw 1 rfl) (by decide))) (Cond.privateMethod_at (mvP hZ (own_w hw 52 rfl) (args := #[]))) (mvT hZ (own_w hw 53 rfl)) (by decide) (backOf (W := 0) (rmRoom1 l Z a0 hw [] a b k xe0 xe1 xe2 xe3 h0 n0 Z0 u0 u1 u2 u3) hZ (own_w hw 53 rfl) (own_w hw 2 rfl) (by decide) (by decide)) (g := (mkF m 2 #[.val (.ref a), .val (.int pp)] [(.int (2 : Int32)), (.ref a)])) rfl (by rw [hml]; rfl) (Steps.refl _) (a := a) (by rw [e0]; exact q1) q1' (argsL := [(.int (2 : Int32))]) (rest := []) (lenOf pd_2 rfl) rfl (by show 2 * 0 + _ ≤ _; exact Nat.le_of_eq rfl) (hb hby d12_2) (fun _ _ => ⟨rfl, e0, (by decide : 0 + 0 ≤ _), (by decide : 0 + 0 ≤ _)⟩)
  dsimp only [Pt.U, Pt.locs, Pt.cells, Pt.slots] at X1 l1 y1 z1 st1 hQ1
  subst l1 y1 z1
  obtain ⟨rfl, N1q, eh1⟩ := hQ1
  have N1 := Fr.app N0 N1q
  refine own_via st1 ?_
  refine own_go (A := T1.setTop (mkF m 6 #[.val (.ref a), .val (.int pp)] [(.ref a)])) (fun t_ k_ => ?_) ?_
  · show Steps p.tables e below (T1.setTop (mkF m 5 #[.val (.ref a), .val (.int pp)] [])) t_
    refine XS.aloadN X1.here hx rfl (hb hby d12_5) rfl rfl ?_
    exact k_
  obtain ⟨T2, X2, e2, st2⟩ := getF X1 hx hZ hown (host := "") (Or.inl (own_w hw 15 rfl)) Via.refl eh1 u1 (g := (mkF m 6 #[.val (.ref a), .val (.int pp)] [(.ref a)])) rfl rfl (hb hby d12_6)
  refine own_go st2 ?_
  refine own_go (A := T2.setTop (mkF m 10 #[.val (.ref a), .val (.int pp)] [(.ref a), (.ref b)])) (fun t_ k_ => ?_) ?_
  · show Steps p.tables e below (T2.setTop (mkF m 9 #[.val (.ref a), .val (.int pp)] [(.ref b)])) t_
    refine XS.aloadN X2.here hx rfl (hb hby d12_9) rfl rfl ?_
    exact k_
  obtain ⟨T3, X3, e3, st3⟩ := getF X2 hx hZ hown (host := "") (Or.inl (own_w hw 54 rfl)) Via.refl e2 u2 (g := (mkF m 10 #[.val (.ref a), .val (.int pp)] [(.ref a), (.ref b)])) rfl rfl (hb hby d12_10)
  refine own_go st3 ?_
  refine own_go (A := T3.setTop (mkF m 18 #[.val (.ref a), .val (.int pp)] [(.int (((pp).toUInt32 >>> ((8 : Int32) &&& 31).toUInt32).toInt32).toInt8.toInt32), (.int (1 : Int32)), (.ref b)])) (fun t_ k_ => ?_) ?_
  · show Steps p.tables e below (T3.setTop (mkF m 13 #[.val (.ref a), .val (.int pp)] [(.int (1 : Int32)), (.ref b)])) t_
    refine XS.iloadN X3.here hx rfl (hb hby d12_13) rfl ?_
    show Steps p.tables e below (T3.setTop (mkF m 14 #[.val (.ref a), .val (.int pp)] [(.int pp), (.int (1 : Int32)), (.ref b)])) t_
    refine XS.bipush X3.here hx rfl (hb hby d12_14) ?_
    show Steps p.tables e below (T3.setTop (mkF m 16 #[.val (.ref a), .val (.int pp)] [(.int (8 : Int32)), (.int pp), (.int (1 : Int32)), (.ref b)])) t_
    refine XS.iushr X3.here hx rfl (hb hby d12_16) rfl ?_
    show Steps p.tables e below (T3.setTop (mkF m 17 #[.val (.ref a), .val (.int pp)] [(.int ((pp).toUInt32 >>> ((8 : Int32) &&& 31).toUInt32).toInt32), (.int (1 : Int32)), (.ref b)])) t_
    refine XS.i2b X3.here hx rfl (hb hby d12_17) rfl ?_
    exact k_
  obtain ⟨cl4, Ar4, q4, S4, M4, H4, G4⟩ := id u3
  have hin4 : ¬ ((1 : Int32) < 0 ∨ cl4.slots.size ≤ ((1 : Int32)).toNatClampNeg) := inb_of S4 ⟨by decide, by decide⟩
  obtain ⟨T5, h5, X5, e5, W5, st5⟩ := stB X3 hx hZ e3 Ar4 (j := (1 : Int32)) hin4 (g := (mkF m 18 #[.val (.ref a), .val (.int pp)] [(.int (((pp).toUInt32 >>> ((8 : Int32) &&& 31).toUInt32).toInt32).toInt8.toInt32), (.int (1 : Int32)), (.ref b)])) rfl rfl (hb hby d12_18)
  rw [own_narb] at W5
  have B5 : Arv Z h5 b k .byte (256 : Int32) [(.int xe0), (.int (((pp).toUInt32 >>> ((8 : Int32) &&& 31).toUInt32).toInt32).toInt8.toInt32), (.int xe2), (.int xe3)] (.int (0 : Int32)) := Arv.set Ar4 q4 S4 M4 H4 G4 (fits_nar_byte _) W5 1 rfl (Nat.le_of_ble_eq_true rfl)
  refine own_go st5 ?_
  have K5 : Keep h0 h5 [a, b] := (Keep.refl h0 [a, b]).wr W5 (Or.inl (List.mem_of_getElem? (i := 1) rfl))
  have N5 := Fr.snoc X5 N1 u5
  refine own_go (A := T5.setTop (mkF m 20 #[.val (.ref a), .val (.int pp)] [(.ref a)])) (fun t_ k_ => ?_) ?_
  · show Steps p.tables e below (T5.setTop (mkF m 19 #[.val (.ref a), .val (.int pp)] [])) t_
    refine XS.aloadN X5.here hx rfl (hb hby d12_19) rfl rfl ?_
    exact k_
  obtain ⟨T6, X6, e6, st6⟩ := getF X5 hx hZ hown (host := "") (Or.inl (own_w hw 15 rfl)) Via.refl e5 (u1.other W5 (Or.inl u6)) (g := (mkF m 20 #[.val (.ref a), .val (.int pp)] [(.ref a)])) rfl rfl (hb hby d12_20)
  refine own_go st6 ?_
  refine own_go (A := T6.setTop (mkF m 24 #[.val (.ref a), .val (.int pp)] [(.ref a), (.ref b)])) (fun t_ k_ => ?_) ?_
  · show Steps p.tables e below (T6.setTop (mkF m 23 #[.val (.ref a), .val (.int pp)] [(.ref b)])) t_
    refine XS.aloadN X6.here hx rfl (hb hby d12_23) rfl rfl ?_
    exact k_
  obtain ⟨T7, X7, e7, st7⟩ := getF X6 hx hZ hown (host := "") (Or.inl (own_w hw 54 rfl)) Via.refl e6 (u2.other W5 (Or.inl u6)) (g := (mkF m 24 #[.val (.ref a), .val (.int pp)] [(.ref a), (.ref b)])) rfl rfl (hb hby d12_24)
  refine own_go st7 ?_
  refine own_go (A := T7.setTop (mkF m 31 #[.val (.ref a), .val (.int pp)] [(.int (pp).toInt8.toInt32), (.int (2 : Int32)), (.ref b)])) (fun t_ k_ => ?_) ?_
  · show Steps p.tables e below (T7.setTop (mkF m 27 #[.val (.ref a), .val (.int pp)] [(.int (1 : Int32)), (.ref b)])) t_
    refine XS.iconst X7.here hx rfl (hb hby d12_27) ?_
    show Steps p.tables e below (T7.setTop (mkF m 28 #[.val (.ref a), .val (.int pp)] [(.int (1 : Int32)), (.int (1 : Int32)), (.ref b)])) t_
    refine XS.iadd X7.here hx rfl (hb hby d12_28) rfl ?_
    show Steps p.tables e below (T7.setTop (mkF m 29 #[.val (.ref a), .val (.int pp)] [(.int (2 : Int32)), (.ref b)])) t_
    refine XS.iloadN X7.here hx rfl (hb hby d12_29) rfl ?_
    show Steps p.tables e below (T7.setTop (mkF m 30 #[.val (.ref a), .val (.int pp)] [(.int pp), (.int (2 : Int32)), (.ref b)])) t_
    refine XS.i2b X7.here hx rfl (hb hby d12_30) rfl ?_
    exact k_
  obtain ⟨cl8, Ar8, q8, S8, M8, H8, G8⟩ := id B5
  have hin8 : ¬ ((2 : Int32) < 0 ∨ cl8.slots.size ≤ ((2 : Int32)).toNatClampNeg) := inb_of S8 ⟨by decide, by decide⟩
  obtain ⟨T9, h9, X9, e9, W9, st9⟩ := stB X7 hx hZ e7 Ar8 (j := (2 : Int32)) hin8 (g := (mkF m 31 #[.val (.ref a), .val (.int pp)] [(.int (pp).toInt8.toInt32), (.int (2 : Int32)), (.ref b)])) rfl rfl (hb hby d12_31)
  rw [own_narb] at W9
  have B9 : Arv Z h9 b k .byte (256 : Int32) [(.int xe0), (.int (((pp).toUInt32 >>> ((8 : Int32) &&& 31).toUInt32).toInt32).toInt8.toInt32), (.int (pp).toInt8.toInt32), (.int xe3)] (.int (0 : Int32)) := Arv.set Ar8 q8 S8 M8 H8 G8 (fits_nar_byte _) W9 2 rfl (Nat.le_of_ble_eq_true rfl)
  refine own_go st9 ?_
  have K9 : Keep h0 h9 [a, b] := K5.wr W9 (Or.inl (List.mem_of_getElem? (i := 1) rfl))
  have N9 := Fr.snoc X9 N5 u5
  refine own_go (A := T9.setTop (mkF m 34 #[.val (.ref a), .val (.int pp)] [(.ref a), (.ref a)])) (fun t_ k_ => ?_) ?_
  · show Steps p.tables e below (T9.setTop (mkF m 32 #[.val (.ref a), .val (.int pp)] [])) t_
    refine XS.aloadN X9.here hx rfl (hb hby d12_32) rfl rfl ?_
    show Steps p.tables e below (T9.setTop (mkF m 33 #[.val (.ref a), .val (.int pp)] [(.ref a)])) t_
    refine XS.dup X9.here hx rfl (hb hby d12_33) rfl rfl ?_
    exact k_
  obtain ⟨T10, X10, e10, st10⟩ := getF X9 hx hZ hown (host := "") (Or.inl (own_w hw 54 rfl)) Via.refl e9 ((u2.other W5 (Or.inl u6)).other W9 (Or.inl u6)) (g := (mkF m 34 #[.val (.ref a), .val (.int pp)] [(.ref a), (.ref a)])) rfl rfl (hb hby d12_34)
  refine own_go st10 ?_
  refine own_go (A := T10.setTop (mkF m 39 #[.val (.ref a), .val (.int pp)] [(.int (3 : Int32)), (.ref a)])) (fun t_ k_ => ?_) ?_
  · show Steps p.tables e below (T10.setTop (mkF m 37 #[.val (.ref a), .val (.int pp)] [(.int (1 : Int32)), (.ref a)])) t_
    refine XS.iconst X10.here hx rfl (hb hby d12_37) ?_
    show Steps p.tables e below (T10.setTop (mkF m 38 #[.val (.ref a), .val (.int pp)] [(.int (2 : Int32)), (.int (1 : Int32)), (.ref a)])) t_
    refine XS.iadd X10.here hx rfl (hb hby d12_38) rfl ?_
    exact k_
  obtain ⟨T11, h11, X11, e11, W11, st11⟩ := putF X10 hx hZ hown (host := "") (Or.inl (own_w hw 54 rfl)) Via.refl e10 ((u2.other W5 (Or.inl u6)).other W9 (Or.inl u6)) ((u0.wr W5).wr W9) (Or.inl (own_w hw 55 rfl)) (own_w hw 1 rfl) (ty := .int) (by decide) rfl rfl (g := (mkF m 39 #[.val (.ref a), .val (.int pp)] [(.int (3 : Int32)), (.ref a)])) rfl rfl (hb hby d12_39)
  have Fw11 : Fld Z h11 a "com/example/kneiphof/kneiphof/ByteRecord" "size" "I" (.int (3 : Int32)) := ((u2.other W5 (Or.inl u6)).other W9 (Or.inl u6)).same W11
  refine own_go st11 ?_
  have K11 : Keep h0 h11 [a, b] := K9.wr W11 (Or.inl (List.mem_of_getElem? (i := 0) rfl))
  have N11 := Fr.snoc X11 N9 u4
  obtain ⟨fs12, hr12, hrun12, hended12, hW12, hsame12⟩ := X11.leave (v := none) (fun _ => rfl)
  refine ⟨_, _, ?_, hrun12, hended12, _, _, rfl, ?_, ⟨_, rfl⟩, hW12, hsame12.mono (by decide) (by decide)⟩
  · exact X11.returnOut hx Bd.returns (hb hby d12_42) hr12
  · show Q_rmShort1 Z a pp b k xe0 xe1 xe2 xe3 h0 n0 _ T11.heap _
    rw [e11]
    exact ⟨rfl, N11, K11, (((u1.other W5 (Or.inl u6)).other W9 (Or.inl u6)).other W11 (Or.inr (slot_ne (Or.inl (own_w hw 16 rfl)) (Or.inl (own_w hw 55 rfl)) (by decide) (t := (.array .byte)) (t' := .int) (by decide) (by decide)))), Fw11, (B9.other W11 (Ne.symm u6))⟩
theorem d10_0 : decode jdk_29_method_69_code 0 = .ok (.iload_n 0, 1) := by decide +kernel
theorem d10_1 : decode jdk_29_method_69_code 1 = .ok (.iload_n 1, 1) := by decide +kernel
theorem d10_2 : decode jdk_29_method_69_code 2 = .ok (.if_icmp .gt 7, 3) := by decide +kernel
theorem d10_9 : decode jdk_29_method_69_code 9 = .ok (.iload_n 1, 1) := by decide +kernel
theorem d10_10 : decode jdk_29_method_69_code 10 = .ok (.ireturn, 1) := by decide +kernel
abbrev own_y7 : MethodName := ⟨"java/lang/Math", "min", "(II)I"⟩
theorem ef_rmMin0 (m : MethodId)  : entryFrame m #[(.int (256 : Int32)), (.int (0 : Int32))] 2 = mkF m 0 #[.val (.int (256 : Int32)), .val (.int (0 : Int32))] [] := by first | (simp [entryFrame, mkF, argsToLocals, Value.category]; done) | rfl
def Q_rmMin0 (Z : State)  (h0 : Heap) (n0 : Nat) (v_ : Option Value) (h_ : Heap) (L_ : List Loc) : Prop := v_ = some (.int (0 : Int32)) ∧ Fr n0 L_ ∧ h_ = h0
set_option maxRecDepth 65536 in
set_option maxHeartbeats 40000000 in
theorem rmMin0 (l : Launch) (Z : State) (a0 : Array Value) (hw : ∀ d ∈ tables_1, d.before a0 Z = true) (ws : List Jvm.Cond)  (h0 : Heap) (n0 : Nat) (Z0 : n0 ≤ h0.size)  :
    MetFree l own_y7 (head1 (Jvm.Cond.code own_y7 jdk_29_method_69_code 2 (some .int) :: ws) ({ frames := 0, cells := 0, slots := 0, locals := 0 } : Room)) (fun a_ U_ => a_ = #[(.int (256 : Int32)), (.int (0 : Int32))] ∧ Z.Warmed39 U_.vm ∧ U_.heap = h0) (fun _ _ _ _ _ => True) (fun _ U_ o_ U2_ => ∃ v_ L_, o_ = .returned v_ ∧ Q_rmMin0 Z  h0 n0 v_ U2_.heap L_ ∧ FrameEnd U_ o_ U2_ L_ ({ frames := 0, cells := 0, slots := 0, locals := 0 } : Room).cells ({ frames := 0, cells := 0, slots := 0, locals := 0 } : Room).slots) := by
  refine MetFree.of_bodySF (Jvm.Free.JP.mathPlain rfl (by decide +kernel)) hisR ?_
  intro p e s m args below meth c s₁ Bd hml0 hP hK
  obtain ⟨rfl, hZ, hh⟩ := hP
  have hx := Bd.exec
  have hby := Bd.bytes
  have hml : c.maxLocals = 2 := hml0
  have hown : s.vm.findClass "java/lang/Math" = some m.cls := findClass_of_methodNamed Bd.named
  have hnm := (name_of_methodNamed Bd.named Bd.method).1
  have X0 : Stand p l e ({ frames := 0, cells := 0, slots := 0, locals := 0 } : Room) s m #[(.int (256 : Int32)), (.int (0 : Int32))] below meth c s₁ [] 0 0 := Stand.of_body Bd
  have e0 : s₁.heap = h0 := by rw [← hh, Bd.state]; rfl
  have N0 := Fr.nil n0
  refine own_go (A := s₁.setTop (mkF m 0 #[.val (.int (256 : Int32)), .val (.int (0 : Int32))] [])) (fun t_ k_ => castTop (ef_rmMin0 m ) k_) ?_
  refine own_go (A := s₁.setTop (mkF m 10 #[.val (.int (256 : Int32)), .val (.int (0 : Int32))] [(.int (0 : Int32))])) (fun t_ k_ => ?_) ?_
  · show Steps p.tables e below (s₁.setTop (mkF m 0 #[.val (.int (256 : Int32)), .val (.int (0 : Int32))] [])) t_
    refine XS.iloadN X0.here hx rfl (hb hby d10_0) rfl ?_
    show Steps p.tables e below (s₁.setTop (mkF m 1 #[.val (.int (256 : Int32)), .val (.int (0 : Int32))] [(.int (256 : Int32))])) t_
    refine XS.iloadN X0.here hx rfl (hb hby d10_1) rfl ?_
    show Steps p.tables e below (s₁.setTop (mkF m 2 #[.val (.int (256 : Int32)), .val (.int (0 : Int32))] [(.int (0 : Int32)), (.int (256 : Int32))])) t_
    refine XS.icmpYes X0.here hx rfl (pc0 := 2) (pc' := 9) rfl (hb hby d10_2) rfl (tlt (by decide : (0 : Int32) < (256 : Int32))).2.2.1 (by decide) (by decide) ?_
    show Steps p.tables e below (s₁.setTop (mkF m 9 #[.val (.int (256 : Int32)), .val (.int (0 : Int32))] [])) t_
    refine XS.iloadN X0.here hx rfl (hb hby d10_9) rfl ?_
    exact k_
  obtain ⟨fs1, hr1, hrun1, hended1, hW1, hsame1⟩ := X0.leave (v := some (.int (0 : Int32))) (fun h => by rw [Bd.returns] at h; cases h)
  refine ⟨_, _, ?_, hrun1, hended1, _, _, rfl, ?_, ⟨_, rfl⟩, hW1, hsame1.mono (by decide) (by decide)⟩
  · exact own_retI X0 hx Bd.returns (hb hby d10_10) hr1
  · show Q_rmMin0 Z  h0 n0 _ s₁.heap _
    rw [e0]
    exact ⟨rfl, N0, rfl⟩
theorem d9_0 : decode jdk_65_method_121_code 0 = .ok (.iload_n 1, 1) := by decide +kernel
theorem d9_1 : decode jdk_65_method_121_code 1 = .ok (.aload_n 0, 1) := by decide +kernel
theorem d9_2 : decode jdk_65_method_121_code 2 = .ok (.arraylength, 1) := by decide +kernel
theorem d9_3 : decode jdk_65_method_121_code 3 = .ok (.if_icmp .ne 11, 3) := by decide +kernel
theorem d9_14 : decode jdk_65_method_121_code 14 = .ok (.iload_n 1, 1) := by decide +kernel
theorem d9_15 : decode jdk_65_method_121_code 15 = .ok (.newarray .byte, 2) := by decide +kernel
theorem d9_17 : decode jdk_65_method_121_code 17 = .ok (.astore_n 2, 1) := by decide +kernel
theorem d9_18 : decode jdk_65_method_121_code 18 = .ok (.aload_n 0, 1) := by decide +kernel
theorem d9_19 : decode jdk_65_method_121_code 19 = .ok (.iconst 0, 1) := by decide +kernel
theorem d9_20 : decode jdk_65_method_121_code 20 = .ok (.aload_n 2, 1) := by decide +kernel
theorem d9_21 : decode jdk_65_method_121_code 21 = .ok (.iconst 0, 1) := by decide +kernel
theorem d9_22 : decode jdk_65_method_121_code 22 = .ok (.aload_n 0, 1) := by decide +kernel
theorem d9_23 : decode jdk_65_method_121_code 23 = .ok (.arraylength, 1) := by decide +kernel
theorem d9_24 : decode jdk_65_method_121_code 24 = .ok (.iload_n 1, 1) := by decide +kernel
theorem pd_3 : parseMethodDescriptor "(II)I" = some ⟨[.int, .int], some .int⟩ := by decide +kernel
theorem d9_25 : decode jdk_65_method_121_code 25 = .ok (.invokestatic 304, 3) := by decide +kernel
theorem d9_28 : decode jdk_65_method_121_code 28 = .ok (.invokestatic 150, 3) := by decide +kernel
theorem d9_31 : decode jdk_65_method_121_code 31 = .ok (.aload_n 2, 1) := by decide +kernel
theorem d9_32 : decode jdk_65_method_121_code 32 = .ok (.areturn, 1) := by decide +kernel
abbrev own_y8 : MethodName := ⟨"java/util/Arrays", "copyOf", "([BI)[B"⟩
theorem ef_rmCopy0 (m : MethodId) (b : Addr) : entryFrame m #[(.ref b), (.int (0 : Int32))] 3 = mkF m 0 #[.val (.ref b), .val (.int (0 : Int32)), .unset] [] := by first | (simp [entryFrame, mkF, argsToLocals, Value.category]; done) | rfl
def Q_rmCopy0 (Z : State) (b : Addr) (k : ClassId) (xe0 : Int32) (xe1 : Int32) (xe2 : Int32) (xe3 : Int32) (h0 : Heap) (n0 : Nat) (v_ : Option Value) (h_ : Heap) (L_ : List Loc) : Prop := ∃ d : Addr, ∃ k2 : ClassId, v_ = some (.ref d) ∧ Fr n0 L_ ∧ Keep h0 h_ [] ∧ h0.size ≤ d ∧ Arv Z h_ d k2 .byte (0 : Int32) [] (.int (0 : Int32))
theorem pn_4 : plainName "java/util/Arrays" = true := by first | (simp [plainName, overriddenIn]; done) | decide +kernel
set_option maxRecDepth 65536 in
set_option maxHeartbeats 40000000 in
theorem rmCopy0 (l : Launch) (Z : State) (a0 : Array Value) (hw : ∀ d ∈ tables_1, d.before a0 Z = true) (ws : List Jvm.Cond) (b : Addr) (k : ClassId) (xe0 : Int32) (xe1 : Int32) (xe2 : Int32) (xe3 : Int32) (h0 : Heap) (n0 : Nat) (Z0 : n0 ≤ h0.size) (u0 : Arv Z h0 b k .byte (256 : Int32) [(.int xe0), (.int xe1), (.int xe2), (.int xe3)] (.int (0 : Int32))) :
    MetFree l own_y8 (head1 (Jvm.Cond.code own_y8 jdk_65_method_121_code 3 (some (.array .byte)) :: ws) ({ frames := 1, cells := 1, slots := 0, locals := 18 } : Room)) (fun a_ U_ => a_ = #[(.ref b), (.int (0 : Int32))] ∧ Z.Warmed39 U_.vm ∧ U_.heap = h0) (fun _ _ _ _ _ => True) (fun _ U_ o_ U2_ => ∃ v_ L_, o_ = .returned v_ ∧ Q_rmCopy0 Z b k xe0 xe1 xe2 xe3 h0 n0 v_ U2_.heap L_ ∧ FrameEnd U_ o_ U2_ L_ ({ frames := 1, cells := 1, slots := 0, locals := 18 } : Room).cells ({ frames := 1, cells := 1, slots := 0, locals := 18 } : Room).slots) := by
  refine MetFree.of_bodySF (plainFor_of_name pn_4) hisR ?_
  intro p e s m args below meth c s₁ Bd hml0 hP hK
  obtain ⟨rfl, hZ, hh⟩ := hP
  have hx := Bd.exec
  have hby := Bd.bytes
  have hml : c.maxLocals = 3 := hml0
  have hown : s.vm.findClass "java/util/Arrays" = some m.cls := findClass_of_methodNamed Bd.named
  have hnm := (name_of_methodNamed Bd.named Bd.method).1
  have X0 : Stand p l e ({ frames := 1, cells := 1, slots := 0, locals := 18 } : Room) s m #[(.ref b), (.int (0 : Int32))] below meth c s₁ [] 0 0 := Stand.of_body Bd
  have e0 : s₁.heap = h0 := by rw [← hh, Bd.state]; rfl
  have N0 := Fr.nil n0
  refine own_go (A := s₁.setTop (mkF m 0 #[.val (.ref b), .val (.int (0 : Int32)), .unset] [])) (fun t_ k_ => castTop (ef_rmCopy0 m b) k_) ?_
  obtain ⟨cl1, Ar1, q1, S1, M1, H1, G1⟩ := id u0
  refine own_go (A := s₁.setTop (mkF m 15 #[.val (.ref b), .val (.int (0 : Int32)), .unset] [(.int (0 : Int32))])) (fun t_ k_ => ?_) ?_
  · show Steps p.tables e below (s₁.setTop (mkF m 0 #[.val (.ref b), .val (.int (0 : Int32)), .unset] [])) t_
    refine XS.iloadN X0.here hx rfl (hb hby d9_0) rfl ?_
    show Steps p.tables e below (s₁.setTop (mkF m 1 #[.val (.ref b), .val (.int (0 : Int32)), .unset] [(.int (0 : Int32))])) t_
    refine XS.aloadN X0.here hx rfl (hb hby d9_1) rfl rfl ?_
    show Steps p.tables e below (s₁.setTop (mkF m 2 #[.val (.ref b), .val (.int (0 : Int32)), .unset] [(.ref b), (.int (0 : Int32))])) t_
    refine X0.arraylength hx (by rw [e0]; exact Ar1.1) (State.isArrayOf_alike hZ.alike Ar1.2.1) (g := (mkF m 2 #[.val (.ref b), .val (.int (0 : Int32)), .unset] [(.ref b), (.int (0 : Int32))])) rfl rfl (hb hby d9_2) _ ?_
    rw [len_of S1 M1]
    show Steps p.tables e below (s₁.setTop (mkF m 3 #[.val (.ref b), .val (.int (0 : Int32)), .unset] [(.int (256 : Int32)), (.int (0 : Int32))])) t_
    refine XS.icmpYes X0.here hx rfl (pc0 := 3) (pc' := 14) rfl (hb hby d9_3) rfl (feq (by decide : ¬ ((0 : Int32) = (256 : Int32)))).2 (by decide) (by decide) ?_
    show Steps p.tables e below (s₁.setTop (mkF m 14 #[.val (.ref b), .val (.int (0 : Int32)), .unset] [])) t_
    refine XS.iloadN X0.here hx rfl (hb hby d9_14) rfl ?_
    exact k_
  obtain ⟨T2, h2, k2, X2, e2, E2, A2, st2⟩ := newP X0 hx hZ (own_w hw 14 rfl) e0 (g := (mkF m 15 #[.val (.ref b), .val (.int (0 : Int32)), .unset] [(.int (0 : Int32))])) rfl (hb hby d9_15) rfl (by decide) (cap := 0) (by decide) (by decide) (by decide) (by decide)
  obtain ⟨b2, g2⟩ : ∃ z, z = h0.size := ⟨_, rfl⟩
  rw [← g2] at A2 st2
  refine own_go st2 ?_
  have K2 : Keep h0 h2 [] := (Keep.refl h0 []).ext E2
  have B2 : Arv Z h2 b2 k2 .byte (0 : Int32) [] (.int (0 : Int32)) := Arv.new A2 (by decide)
  obtain ⟨cl3, Ar3, q3, S3, M3, H3, G3⟩ := id (u0.ext E2)
  refine own_go (A := T2.setTop (mkF m 25 #[.val (.ref b), .val (.int (0 : Int32)), .val (.ref b2)] [(.int (0 : Int32)), (.int (256 : Int32)), (.int (0 : Int32)), (.ref b2), (.int (0 : Int32)), (.ref b)])) (fun t_ k_ => ?_) ?_
  · show Steps p.tables e below (T2.setTop (mkF m 17 #[.val (.ref b), .val (.int (0 : Int32)), .unset] [(.ref b2)])) t_
    refine XS.astoreN X2.here hx rfl (hb hby d9_17) rfl rfl (l' := #[.val (.ref b), .val (.int (0 : Int32)), .val (.ref b2)]) rfl ?_
    show Steps p.tables e below (T2.setTop (mkF m 18 #[.val (.ref b), .val (.int (0 : Int32)), .val (.ref b2)] [])) t_
    refine XS.aloadN X2.here hx rfl (hb hby d9_18) rfl rfl ?_
    show Steps p.tables e below (T2.setTop (mkF m 19 #[.val (.ref b), .val (.int (0 : Int32)), .val (.ref b2)] [(.ref b)])) t_
    refine XS.iconst X2.here hx rfl (hb hby d9_19) ?_
    show Steps p.tables e below (T2.setTop (mkF m 20 #[.val (.ref b), .val (.int (0 : Int32)), .val (.ref b2)] [(.int (0 : Int32)), (.ref b)])) t_
    refine XS.aloadN X2.here hx rfl (hb hby d9_20) rfl rfl ?_
    show Steps p.tables e below (T2.setTop (mkF m 21 #[.val (.ref b), .val (.int (0 : Int32)), .val (.ref b2)] [(.ref b2), (.int (0 : Int32)), (.ref b)])) t_
    refine XS.iconst X2.here hx rfl (hb hby d9_21) ?_
    show Steps p.tables e below (T2.setTop (mkF m 22 #[.val (.ref b), .val (.int (0 : Int32)), .val (.ref b2)] [(.int (0 : Int32)), (.ref b2), (.int (0 : Int32)), (.ref b)])) t_
    refine XS.aloadN X2.here hx rfl (hb hby d9_22) rfl rfl ?_
    show Steps p.tables e below (T2.setTop (mkF m 23 #[.val (.ref b), .val (.int (0 : Int32)), .val (.ref b2)] [(.ref b), (.int (0 : Int32)), (.ref b2), (.int (0 : Int32)), (.ref b)])) t_
    refine X2.arraylength hx (by rw [e2]; exact Ar3.1) (State.isArrayOf_alike hZ.alike Ar3.2.1) (g := (mkF m 23 #[.val (.ref b), .val (.int (0 : Int32)), .val (.ref b2)] [(.ref b), (.int (0 : Int32)), (.ref b2), (.int (0 : Int32)), (.ref b)])) rfl rfl (hb hby d9_23) _ ?_
    rw [len_of S3 M3]
    show Steps p.tables e below (T2.setTop (mkF m 24 #[.val (.ref b), .val (.int (0 : Int32)), .val (.ref b2)] [(.int (256 : Int32)), (.int (0 : Int32)), (.ref b2), (.int (0 : Int32)), (.ref b)])) t_
    refine XS.iloadN X2.here hx rfl (hb hby d9_24) rfl ?_
    exact k_
  obtain ⟨_, _, ⟨T4, L4, k4, n4⟩, -, X4, ⟨Lc4, hQ4, l4, y4, z4⟩, st4⟩ := Jvm.LawKit.callS X2 hx (y := own_y7) hown (mvT hZ (own_w hw 65 rfl)) (mvT hZ (own_w hw 66 rfl)) (mvT hZ (own_w hw 67 rfl)) (mvT hZ (own_w hw 68 rfl)) (by decide) (backOf (W := 4) (rmMin0 l Z a0 hw [] h2 n0 (Nat.le_trans Z0 K2.1)) hZ (own_w hw 68 rfl) (own_w hw 67 rfl) (by decide) (by decide)) (g := (mkF m 25 #[.val (.ref b), .val (.int (0 : Int32)), .val (.ref b2)] [(.int (0 : Int32)), (.int (256 : Int32)), (.int (0 : Int32)), (.ref b2), (.int (0 : Int32)), (.ref b)])) rfl (by rw [hml]; rfl) (argsL := [(.int (256 : Int32)), (.int (0 : Int32))]) (rest := [(.int (0 : Int32)), (.ref b2), (.int (0 : Int32)), (.ref b)]) (lenOf pd_3 rfl) rfl (by show 2 * 0 + _ ≤ _; exact Nat.le_of_eq rfl) (hb hby d9_25) (fun _ _ => ⟨rfl, e2, (by decide : 1 + 0 ≤ _), (by decide : 0 + 0 ≤ _)⟩)
  dsimp only [Pt.U, Pt.locs, Pt.cells, Pt.slots] at X4 l4 y4 z4 st4 hQ4
  subst l4 y4 z4
  obtain ⟨rfl, N4q, eh4⟩ := hQ4
  have N4 := Fr.app N0 N4q
  refine own_go st4 ?_
  obtain ⟨T5, h5, L5, X5, e5, N5, Kc5, Bq5, st5⟩ := cpA X4 hx hZ hown (own_w hw 69 rfl) (own_w hw 72 rfl) (own_w hw 70 rfl) (own_w hw 71 rfl) eh4 (u0.ext E2) B2 (us := []) (Or.inl ⟨rfl, rfl⟩) (by decide) (by decide) (by decide) (by decide) (by decide) rfl (by decide) N4 (Nat.le_trans Z0 (Nat.le_of_eq g2.symm)) (g := (mkF m 28 #[.val (.ref b), .val (.int (0 : Int32)), .val (.ref b2)] [(.int (0 : Int32)), (.int (0 : Int32)), (.ref b2), (.int (0 : Int32)), (.ref b)])) rfl (by rw [hml]; rfl) (rest := []) rfl (hb hby d9_28) (by decide) (W := 0) (by show 2 * 0 + _ ≤ _; exact Nat.le_of_eq rfl) (by decide)
  have B5 : Arv Z h5 b2 k2 .byte (0 : Int32) [] (.int (0 : Int32)) := Bq5
  refine own_go st5 ?_
  have K5 : Keep h0 h5 [] := K2.trans Kc5 (allS (P := fun x => x ∈ _ ∨ _ ≤ x) (Or.inr (Nat.le_of_eq g2.symm)) all0)
  refine own_go (A := T5.setTop (mkF m 32 #[.val (.ref b), .val (.int (0 : Int32)), .val (.ref b2)] [(.ref b2)])) (fun t_ k_ => ?_) ?_
  · show Steps p.tables e below (T5.setTop (mkF m 31 #[.val (.ref b), .val (.int (0 : Int32)), .val (.ref b2)] [])) t_
    refine XS.aloadN X5.here hx rfl (hb hby d9_31) rfl rfl ?_
    exact k_
  obtain ⟨fs6, hr6, hrun6, hended6, hW6, hsame6⟩ := X5.leave (v := some (.ref b2)) (fun h => by rw [Bd.returns] at h; cases h)
  refine ⟨_, _, ?_, hrun6, hended6, _, _, rfl, ?_, ⟨_, rfl⟩, hW6, hsame6.mono (by decide) (by decide)⟩
  · exact own_retA X5 hx Bd.returns rfl rfl rfl (hb hby d9_32) hr6
  · show Q_rmCopy0 Z b k xe0 xe1 xe2 xe3 h0 n0 _ T5.heap _
    rw [e5]
    exact ⟨b2, k2, rfl, N5, K5, (Nat.le_of_eq g2.symm), B5⟩
theorem d8_0 : decode prog_6_method_6_code 0 = .ok (.aload_n 0, 1) := by decide +kernel
theorem d8_1 : decode prog_6_method_6_code 1 = .ok (.getfield 9, 3) := by decide +kernel
theorem d8_4 : decode prog_6_method_6_code 4 = .ok (.aload_n 0, 1) := by decide +kernel
theorem d8_5 : decode prog_6_method_6_code 5 = .ok (.getfield 24, 3) := by decide +kernel
theorem pd_4 : parseMethodDescriptor "([BI)[B" = some ⟨[(.array .byte), .int], some (.array .byte)⟩ := by decide +kernel
theorem d8_8 : decode prog_6_method_6_code 8 = .ok (.invokestatic 37, 3) := by decide +kernel
theorem d8_11 : decode prog_6_method_6_code 11 = .ok (.areturn, 1) := by decide +kernel
abbrev own_y9 : MethodName := ⟨"com/example/kneiphof/kneiphof/ByteRecord", "toByteArray", "()[B"⟩
theorem ef_rmTo0 (m : MethodId) (a : Addr) : entryFrame m #[(.ref a)] 1 = mkF m 0 #[.val (.ref a)] [] := by first | (simp [entryFrame, mkF, argsToLocals, Value.category]; done) | rfl
def Q_rmTo0 (Z : State) (a : Addr) (b : Addr) (k : ClassId) (xe0 : Int32) (xe1 : Int32) (xe2 : Int32) (xe3 : Int32) (h0 : Heap) (n0 : Nat) (v_ : Option Value) (h_ : Heap) (L_ : List Loc) : Prop := ∃ d : Addr, ∃ k2 : ClassId, v_ = some (.ref d) ∧ Fr n0 L_ ∧ Keep h0 h_ [] ∧ h0.size ≤ d ∧ Arv Z h_ d k2 .byte (0 : Int32) [] (.int (0 : Int32))
set_option maxRecDepth 65536 in
set_option maxHeartbeats 40000000 in
theorem rmTo0 (l : Launch) (Z : State) (a0 : Array Value) (hw : ∀ d ∈ tables_1, d.before a0 Z = true) (ws : List Jvm.Cond) (a : Addr) (b : Addr) (k : ClassId) (xe0 : Int32) (xe1 : Int32) (xe2 : Int32) (xe3 : Int32) (h0 : Heap) (n0 : Nat) (Z0 : n0 ≤ h0.size) (u0 : Exa Z h0 a "com/example/kneiphof/kneiphof/ByteRecord") (u1 : Fld Z h0 a "com/example/kneiphof/kneiphof/ByteRecord" "bytes" "[B" (.ref b)) (u2 : Fld Z h0 a "com/example/kneiphof/kneiphof/ByteRecord" "size" "I" (.int (0 : Int32))) (u3 : Arv Z h0 b k .byte (256 : Int32) [(.int xe0), (.int xe1), (.int xe2), (.int xe3)] (.int (0 : Int32))) :
    MetFree l own_y9 (head1 (Jvm.Cond.code own_y9 prog_6_method_6_code 1 (some (.array .byte)) :: ws) ({ frames := 2, cells := 1, slots := 0, locals := 32 } : Room)) (fun a_ U_ => a_ = #[(.ref a)] ∧ Z.Warmed39 U_.vm ∧ U_.heap = h0) (fun _ _ _ _ _ => True) (fun _ U_ o_ U2_ => ∃ v_ L_, o_ = .returned v_ ∧ Q_rmTo0 Z a b k xe0 xe1 xe2 xe3 h0 n0 v_ U2_.heap L_ ∧ FrameEnd U_ o_ U2_ L_ ({ frames := 2, cells := 1, slots := 0, locals := 32 } : Room).cells ({ frames := 2, cells := 1, slots := 0, locals := 32 } : Room).slots) := by
  refine MetFree.of_bodySF (plainFor_of_name pn_3) hisR ?_
  intro p e s m args below meth c s₁ Bd hml0 hP hK
  obtain ⟨rfl, hZ, hh⟩ := hP
  have hx := Bd.exec
  have hby := Bd.bytes
  have hml : c.maxLocals = 1 := hml0
  have hown : s.vm.findClass "com/example/kneiphof/kneiphof/ByteRecord" = some m.cls := findClass_of_methodNamed Bd.named
  have hnm := (name_of_methodNamed Bd.named Bd.method).1
  have X0 : Stand p l e ({ frames := 2, cells := 1, slots := 0, locals := 32 } : Room) s m #[(.ref a)] below meth c s₁ [] 0 0 := Stand.of_body Bd
  have e0 : s₁.heap = h0 := by rw [← hh, Bd.state]; rfl
  have N0 := Fr.nil n0
  refine own_go (A := s₁.setTop (mkF m 0 #[.val (.ref a)] [])) (fun t_ k_ => castTop (ef_rmTo0 m a) k_) ?_
  refine own_go (A := s₁.setTop (mkF m 1 #[.val (.ref a)] [(.ref a)])) (fun t_ k_ => ?_) ?_
  · show Steps p.tables e below (s₁.setTop (mkF m 0 #[.val (.ref a)] [])) t_
    refine XS.aloadN X0.here hx rfl (hb hby d8_0) rfl rfl ?_
    exact k_
  obtain ⟨T1, X1, e1, st1⟩ := getF X0 hx hZ hown (host := "") (Or.inl (own_w hw 15 rfl)) Via.refl e0 u1 (g := (mkF m 1 #[.val (.ref a)] [(.ref a)])) rfl rfl (hb hby d8_1)
  refine own_go st1 ?_
  refine own_go (A := T1.setTop (mkF m 5 #[.val (.ref a)] [(.ref a), (.ref b)])) (fun t_ k_ => ?_) ?_
  · show Steps p.tables e below (T1.setTop (mkF m 4 #[.val (.ref a)] [(.ref b)])) t_
    refine XS.aloadN X1.here hx rfl (hb hby d8_4) rfl rfl ?_
    exact k_
  obtain ⟨T2, X2, e2, st2⟩ := getF X1 hx hZ hown (host := "") (Or.inl (own_w hw 54 rfl)) Via.refl e1 u2 (g := (mkF m 5 #[.val (.ref a)] [(.ref a), (.ref b)])) rfl rfl (hb hby d8_5)
  refine own_go st2 ?_
  obtain ⟨_, _, ⟨T3, L3, k3, n3⟩, -, X3, ⟨Lc3, hQ3, l3, y3, z3⟩, st3⟩ := Jvm.LawKit.callS X2 hx (y := own_y8) hown (mvT hZ (own_w hw 61 rfl)) (mvT hZ (own_w hw 62 rfl)) (mvT hZ (own_w hw 63 rfl)) (mvT hZ (own_w hw 64 rfl)) (by decide) (backOf (W := 0) (rmCopy0 l Z a0 hw [] b k xe0 xe1 xe2 xe3 h0 n0 Z0 u3) hZ (own_w hw 64 rfl) (own_w hw 63 rfl) (by decide) (by decide)) (g := (mkF m 8 #[.val (.ref a)] [(.int (0 : Int32)), (.ref b)])) rfl (by rw [hml]; rfl) (argsL := [(.ref b), (.int (0 : Int32))]) (rest := []) (lenOf pd_4 rfl) rfl (by show 2 * 0 + _ ≤ _; exact Nat.le_of_eq rfl) (hb hby d8_8) (fun _ _ => ⟨rfl, e2, (by decide : 0 + 1 ≤ _), (by decide : 0 + 0 ≤ _)⟩)
  dsimp only [Pt.U, Pt.locs, Pt.cells, Pt.slots] at X3 l3 y3 z3 st3 hQ3
  subst l3 y3 z3
  obtain ⟨d_3, k2_3, rfl, N3q, Kc3, r3_0, r3_1⟩ := hQ3
  have N3 := Fr.app N0 N3q
  refine own_go st3 ?_
  have K3 : Keep h0 T3.heap [] := (Keep.refl h0 []).trans Kc3 all0
  obtain ⟨fs4, hr4, hrun4, hended4, hW4, hsame4⟩ := X3.leave (v := some (.ref d_3)) (fun h => by rw [Bd.returns] at h; cases h)
  refine ⟨_, _, ?_, hrun4, hended4, _, _, rfl, ?_, ⟨_, rfl⟩, hW4, hsame4.mono (by decide) (by decide)⟩
  · exact own_retA X3 hx Bd.returns rfl rfl rfl (hb hby d8_11) hr4
  · show Q_rmTo0 Z a b k xe0 xe1 xe2 xe3 h0 n0 _ T3.heap _
    exact ⟨d_3, k2_3, rfl, N3, K3, r3_0, r3_1⟩
theorem ef_rmMin1 (m : MethodId)  : entryFrame m #[(.int (256 : Int32)), (.int (1 : Int32))] 2 = mkF m 0 #[.val (.int (256 : Int32)), .val (.int (1 : Int32))] [] := by first | (simp [entryFrame, mkF, argsToLocals, Value.category]; done) | rfl
def Q_rmMin1 (Z : State)  (h0 : Heap) (n0 : Nat) (v_ : Option Value) (h_ : Heap) (L_ : List Loc) : Prop := v_ = some (.int (1 : Int32)) ∧ Fr n0 L_ ∧ h_ = h0
set_option maxRecDepth 65536 in
set_option maxHeartbeats 40000000 in
theorem rmMin1 (l : Launch) (Z : State) (a0 : Array Value) (hw : ∀ d ∈ tables_1, d.before a0 Z = true) (ws : List Jvm.Cond)  (h0 : Heap) (n0 : Nat) (Z0 : n0 ≤ h0.size)  :
    MetFree l own_y7 (head1 (Jvm.Cond.code own_y7 jdk_29_method_69_code 2 (some .int) :: ws) ({ frames := 0, cells := 0, slots := 0, locals := 0 } : Room)) (fun a_ U_ => a_ = #[(.int (256 : Int32)), (.int (1 : Int32))] ∧ Z.Warmed39 U_.vm ∧ U_.heap = h0) (fun _ _ _ _ _ => True) (fun _ U_ o_ U2_ => ∃ v_ L_, o_ = .returned v_ ∧ Q_rmMin1 Z  h0 n0 v_ U2_.heap L_ ∧ FrameEnd U_ o_ U2_ L_ ({ frames := 0, cells := 0, slots := 0, locals := 0 } : Room).cells ({ frames := 0, cells := 0, slots := 0, locals := 0 } : Room).slots) := by
  refine MetFree.of_bodySF (Jvm.Free.JP.mathPlain rfl (by decide +kernel)) hisR ?_
  intro p e s m args below meth c s₁ Bd hml0 hP hK
  obtain ⟨rfl, hZ, hh⟩ := hP
  have hx := Bd.exec
  have hby := Bd.bytes
  have hml : c.maxLocals = 2 := hml0
  have hown : s.vm.findClass "java/lang/Math" = some m.cls := findClass_of_methodNamed Bd.named
  have hnm := (name_of_methodNamed Bd.named Bd.method).1
  have X0 : Stand p l e ({ frames := 0, cells := 0, slots := 0, locals := 0 } : Room) s m #[(.int (256 : Int32)), (.int (1 : Int32))] below meth c s₁ [] 0 0 := Stand.of_body Bd
  have e0 : s₁.heap = h0 := by rw [← hh, Bd.state]; rfl
  have N0 := Fr.nil n0
  refine own_go (A := s₁.setTop (mkF m 0 #[.val (.int (256 : Int32)), .val (.int (1 : Int32))] [])) (fun t_ k_ => castTop (ef_rmMin1 m ) k_) ?_
  refine own_go (A := s₁.setTop (mkF m 10 #[.val (.int (256 : Int32)), .val (.int (1 : Int32))] [(.int (1 : Int32))])) (fun t_ k_ => ?_) ?_
  · show Steps p.tables e below (s₁.setTop (mkF m 0 #[.val (.int (256 : Int32)), .val (.int (1 : Int32))] [])) t_
    refine XS.iloadN X0.here hx rfl (hb hby d10_0) rfl ?_
    show Steps p.tables e below (s₁.setTop (mkF m 1 #[.val (.int (256 : Int32)), .val (.int (1 : Int32))] [(.int (256 : Int32))])) t_
    refine XS.iloadN X0.here hx rfl (hb hby d10_1) rfl ?_
    show Steps p.tables e below (s₁.setTop (mkF m 2 #[.val (.int (256 : Int32)), .val (.int (1 : Int32))] [(.int (1 : Int32)), (.int (256 : Int32))])) t_
    refine XS.icmpYes X0.here hx rfl (pc0 := 2) (pc' := 9) rfl (hb hby d10_2) rfl (tlt (by decide : (1 : Int32) < (256 : Int32))).2.2.1 (by decide) (by decide) ?_
    show Steps p.tables e below (s₁.setTop (mkF m 9 #[.val (.int (256 : Int32)), .val (.int (1 : Int32))] [])) t_
    refine XS.iloadN X0.here hx rfl (hb hby d10_9) rfl ?_
    exact k_
  obtain ⟨fs1, hr1, hrun1, hended1, hW1, hsame1⟩ := X0.leave (v := some (.int (1 : Int32))) (fun h => by rw [Bd.returns] at h; cases h)
  refine ⟨_, _, ?_, hrun1, hended1, _, _, rfl, ?_, ⟨_, rfl⟩, hW1, hsame1.mono (by decide) (by decide)⟩
  · exact own_retI X0 hx Bd.returns (hb hby d10_10) hr1
  · show Q_rmMin1 Z  h0 n0 _ s₁.heap _
    rw [e0]
    exact ⟨rfl, N0, rfl⟩
theorem ef_rmCopy1 (m : MethodId) (b : Addr) : entryFrame m #[(.ref b), (.int (1 : Int32))] 3 = mkF m 0 #[.val (.ref b), .val (.int (1 : Int32)), .unset] [] := by first | (simp [entryFrame, mkF, argsToLocals, Value.category]; done) | rfl
def Q_rmCopy1 (Z : State) (b : Addr) (k : ClassId) (xe0 : Int32) (xe1 : Int32) (xe2 : Int32) (xe3 : Int32) (h0 : Heap) (n0 : Nat) (v_ : Option Value) (h_ : Heap) (L_ : List Loc) : Prop := ∃ d : Addr, ∃ k2 : ClassId, v_ = some (.ref d) ∧ Fr n0 L_ ∧ Keep h0 h_ [] ∧ h0.size ≤ d ∧ Arv Z h_ d k2 .byte (1 : Int32) [(.int xe0)] (.int (0 : Int32))
set_option maxRecDepth 65536 in
set_option maxHeartbeats 40000000 in
theorem rmCopy1 (l : Launch) (Z : State) (a0 : Array Value) (hw : ∀ d ∈ tables_1, d.before a0 Z = true) (ws : List Jvm.Cond) (b : Addr) (k : ClassId) (xe0 : Int32) (xe1 : Int32) (xe2 : Int32) (xe3 : Int32) (h0 : Heap) (n0 : Nat) (Z0 : n0 ≤ h0.size) (u0 : Arv Z h0 b k .byte (256 : Int32) [(.int xe0), (.int xe1), (.int xe2), (.int xe3)] (.int (0 : Int32))) :
    MetFree l own_y8 (head1 (Jvm.Cond.code own_y8 jdk_65_method_121_code 3 (some (.array .byte)) :: ws) ({ frames := 1, cells := 1, slots := 1, locals := 18 } : Room)) (fun a_ U_ => a_ = #[(.ref b), (.int (1 : Int32))] ∧ Z.Warmed39 U_.vm ∧ U_.heap = h0) (fun _ _ _ _ _ => True) (fun _ U_ o_ U2_ => ∃ v_ L_, o_ = .returned v_ ∧ Q_rmCopy1 Z b k xe0 xe1 xe2 xe3 h0 n0 v_ U2_.heap L_ ∧ FrameEnd U_ o_ U2_ L_ ({ frames := 1, cells := 1, slots := 1, locals := 18 } : Room).cells ({ frames := 1, cells := 1, slots := 1, locals := 18 } : Room).slots) := by
  refine MetFree.of_bodySF (plainFor_of_name pn_4) hisR ?_
  intro p e s m args below meth c s₁ Bd hml0 hP hK
  obtain ⟨rfl, hZ, hh⟩ := hP
  have hx := Bd.exec
  have hby := Bd.bytes
  have hml : c.maxLocals = 3 := hml0
  have hown : s.vm.findClass "java/util/Arrays" = some m.cls := findClass_of_methodNamed Bd.named
  have hnm := (name_of_methodNamed Bd.named Bd.method).1
  have X0 : Stand p l e ({ frames := 1, cells := 1, slots := 1, locals := 18 } : Room) s m #[(.ref b), (.int (1 : Int32))] below meth c s₁ [] 0 0 := Stand.of_body Bd
  have e0 : s₁.heap = h0 := by rw [← hh, Bd.state]; rfl
  have N0 := Fr.nil n0
  refine own_go (A := s₁.setTop (mkF m 0 #[.val (.ref b), .val (.int (1 : Int32)), .unset] [])) (fun t_ k_ => castTop (ef_rmCopy1 m b) k_) ?_
  obtain ⟨cl1, Ar1, q1, S1, M1, H1, G1⟩ := id u0
  refine own_go (A := s₁.setTop (mkF m 15 #[.val (.ref b), .val (.int (1 : Int32)), .unset] [(.int (1 : Int32))])) (fun t_ k_ => ?_) ?_
  · show Steps p.tables e below (s₁.setTop (mkF m 0 #[.val (.ref b), .val (.int (1 : Int32)), .unset] [])) t_
    refine XS.iloadN X0.here hx rfl (hb hby d9_0) rfl ?_
    show Steps p.tables e below (s₁.setTop (mkF m 1 #[.val (.ref b), .val (.int (1 : Int32)), .unset] [(.int (1 : Int32))])) t_
    refine XS.aloadN X0.here hx rfl (hb hby d9_1) rfl rfl ?_
    show Steps p.tables e below (s₁.setTop (mkF m 2 #[.val (.ref b), .val (.int (1 : Int32)), .unset] [(.ref b), (.int (1 : Int32))])) t_
    refine X0.arraylength hx (by rw [e0]; exact Ar1.1) (State.isArrayOf_alike hZ.alike Ar1.2.1) (g := (mkF m 2 #[.val (.ref b), .val (.int (1 : Int32)), .unset] [(.ref b), (.int (1 : Int32))])) rfl rfl (hb hby d9_2) _ ?_
    rw [len_of S1 M1]
    show Steps p.tables e below (s₁.setTop (mkF m 3 #[.val (.ref b), .val (.int (1 : Int32)), .unset] [(.int (256 : Int32)), (.int (1 : Int32))])) t_
    refine XS.icmpYes X0.here hx rfl (pc0 := 3) (pc' := 14) rfl (hb hby d9_3) rfl (feq (by decide : ¬ ((1 : Int32) = (256 : Int32)))).2 (by decide) (by decide) ?_
    show Steps p.tables e below (s₁.setTop (mkF m 14 #[.val (.ref b), .val (.int (1 : Int32)), .unset] [])) t_
    refine XS.iloadN X0.here hx rfl (hb hby d9_14) rfl ?_
    exact k_
  obtain ⟨T2, h2, k2, X2, e2, E2, A2, st2⟩ := newP X0 hx hZ (own_w hw 14 rfl) e0 (g := (mkF m 15 #[.val (.ref b), .val (.int (1 : Int32)), .unset] [(.int (1 : Int32))])) rfl (hb hby d9_15) rfl (by decide) (cap := 1) (by decide) (by decide) (by decide) (by decide)
  obtain ⟨b2, g2⟩ : ∃ z, z = h0.size := ⟨_, rfl⟩
  rw [← g2] at A2 st2
  refine own_go st2 ?_
  have K2 : Keep h0 h2 [] := (Keep.refl h0 []).ext E2
  have B2 : Arv Z h2 b2 k2 .byte (1 : Int32) [(.int (0 : Int32))] (.int (0 : Int32)) := (Arv.new A2 (by decide)).pad (pad_rep [] (.int (0 : Int32)) 1)
  obtain ⟨cl3, Ar3, q3, S3, M3, H3, G3⟩ := id (u0.ext E2)
  refine own_go (A := T2.setTop (mkF m 25 #[.val (.ref b), .val (.int (1 : Int32)), .val (.ref b2)] [(.int (1 : Int32)), (.int (256 : Int32)), (.int (0 : Int32)), (.ref b2), (.int (0 : Int32)), (.ref b)])) (fun t_ k_ => ?_) ?_
  · show Steps p.tables e below (T2.setTop (mkF m 17 #[.val (.ref b), .val (.int (1 : Int32)), .unset] [(.ref b2)])) t_
    refine XS.astoreN X2.here hx rfl (hb hby d9_17) rfl rfl (l' := #[.val (.ref b), .val (.int (1 : Int32)), .val (.ref b2)]) rfl ?_
    show Steps p.tables e below (T2.setTop (mkF m 18 #[.val (.ref b), .val (.int (1 : Int32)), .val (.ref b2)] [])) t_
    refine XS.aloadN X2.here hx rfl (hb hby d9_18) rfl rfl ?_
    show Steps p.tables e below (T2.setTop (mkF m 19 #[.val (.ref b), .val (.int (1 : Int32)), .val (.ref b2)] [(.ref b)])) t_
    refine XS.iconst X2.here hx rfl (hb hby d9_19) ?_
    show Steps p.tables e below (T2.setTop (mkF m 20 #[.val (.ref b), .val (.int (1 : Int32)), .val (.ref b2)] [(.int (0 : Int32)), (.ref b)])) t_
    refine XS.aloadN X2.here hx rfl (hb hby d9_20) rfl rfl ?_
    show Steps p.tables e below (T2.setTop (mkF m 21 #[.val (.ref b), .val (.int (1 : Int32)), .val (.ref b2)] [(.ref b2), (.int (0 : Int32)), (.ref b)])) t_
    refine XS.iconst X2.here hx rfl (hb hby d9_21) ?_
    show Steps p.tables e below (T2.setTop (mkF m 22 #[.val (.ref b), .val (.int (1 : Int32)), .val (.ref b2)] [(.int (0 : Int32)), (.ref b2), (.int (0 : Int32)), (.ref b)])) t_
    refine XS.aloadN X2.here hx rfl (hb hby d9_22) rfl rfl ?_
    show Steps p.tables e below (T2.setTop (mkF m 23 #[.val (.ref b), .val (.int (1 : Int32)), .val (.ref b2)] [(.ref b), (.int (0 : Int32)), (.ref b2), (.int (0 : Int32)), (.ref b)])) t_
    refine X2.arraylength hx (by rw [e2]; exact Ar3.1) (State.isArrayOf_alike hZ.alike Ar3.2.1) (g := (mkF m 23 #[.val (.ref b), .val (.int (1 : Int32)), .val (.ref b2)] [(.ref b), (.int (0 : Int32)), (.ref b2), (.int (0 : Int32)), (.ref b)])) rfl rfl (hb hby d9_23) _ ?_
    rw [len_of S3 M3]
    show Steps p.tables e below (T2.setTop (mkF m 24 #[.val (.ref b), .val (.int (1 : Int32)), .val (.ref b2)] [(.int (256 : Int32)), (.int (0 : Int32)), (.ref b2), (.int (0 : Int32)), (.ref b)])) t_
    refine XS.iloadN X2.here hx rfl (hb hby d9_24) rfl ?_
    exact k_
  obtain ⟨_, _, ⟨T4, L4, k4, n4⟩, -, X4, ⟨Lc4, hQ4, l4, y4, z4⟩, st4⟩ := Jvm.LawKit.callS X2 hx (y := own_y7) hown (mvT hZ (own_w hw 65 rfl)) (mvT hZ (own_w hw 66 rfl)) (mvT hZ (own_w hw 67 rfl)) (mvT hZ (own_w hw 68 rfl)) (by decide) (backOf (W := 4) (rmMin1 l Z a0 hw [] h2 n0 (Nat.le_trans Z0 K2.1)) hZ (own_w hw 68 rfl) (own_w hw 67 rfl) (by decide) (by decide)) (g := (mkF m 25 #[.val (.ref b), .val (.int (1 : Int32)), .val (.ref b2)] [(.int (1 : Int32)), (.int (256 : Int32)), (.int (0 : Int32)), (.ref b2), (.int (0 : Int32)), (.ref b)])) rfl (by rw [hml]; rfl) (argsL := [(.int (256 : Int32)), (.int (1 : Int32))]) (rest := [(.int (0 : Int32)), (.ref b2), (.int (0 : Int32)), (.ref b)]) (lenOf pd_3 rfl) rfl (by show 2 * 0 + _ ≤ _; exact Nat.le_of_eq rfl) (hb hby d9_25) (fun _ _ => ⟨rfl, e2, (by decide : 1 + 0 ≤ _), (by decide : 1 + 0 ≤ _)⟩)
  dsimp only [Pt.U, Pt.locs, Pt.cells, Pt.slots] at X4 l4 y4 z4 st4 hQ4
  subst l4 y4 z4
  obtain ⟨rfl, N4q, eh4⟩ := hQ4
  have N4 := Fr.app N0 N4q
  refine own_go st4 ?_
  obtain ⟨T5, h5, L5, X5, e5, N5, Kc5, Bq5, st5⟩ := cpA X4 hx hZ hown (own_w hw 69 rfl) (own_w hw 72 rfl) (own_w hw 70 rfl) (own_w hw 71 rfl) eh4 (u0.ext E2) B2 (us := [(.int xe0)]) (Or.inl ⟨rfl, rfl⟩) (by decide) (by decide) (by decide) (by decide) (by decide) rfl (by decide) N4 (Nat.le_trans Z0 (Nat.le_of_eq g2.symm)) (g := (mkF m 28 #[.val (.ref b), .val (.int (1 : Int32)), .val (.ref b2)] [(.int (1 : Int32)), (.int (0 : Int32)), (.ref b2), (.int (0 : Int32)), (.ref b)])) rfl (by rw [hml]; rfl) (rest := []) rfl (hb hby d9_28) (by decide) (W := 0) (by show 2 * 0 + _ ≤ _; exact Nat.le_of_eq rfl) (by decide)
  have B5 : Arv Z h5 b2 k2 .byte (1 : Int32) [(.int xe0)] (.int (0 : Int32)) := Bq5
  refine own_go st5 ?_
  have K5 : Keep h0 h5 [] := K2.trans Kc5 (allS (P := fun x => x ∈ _ ∨ _ ≤ x) (Or.inr (Nat.le_of_eq g2.symm)) all0)
  refine own_go (A := T5.setTop (mkF m 32 #[.val (.ref b), .val (.int (1 : Int32)), .val (.ref b2)] [(.ref b2)])) (fun t_ k_ => ?_) ?_
  · show Steps p.tables e below (T5.setTop (mkF m 31 #[.val (.ref b), .val (.int (1 : Int32)), .val (.ref b2)] [])) t_
    refine XS.aloadN X5.here hx rfl (hb hby d9_31) rfl rfl ?_
    exact k_
  obtain ⟨fs6, hr6, hrun6, hended6, hW6, hsame6⟩ := X5.leave (v := some (.ref b2)) (fun h => by rw [Bd.returns] at h; cases h)
  refine ⟨_, _, ?_, hrun6, hended6, _, _, rfl, ?_, ⟨_, rfl⟩, hW6, hsame6.mono (by decide) (by decide)⟩
  · exact own_retA X5 hx Bd.returns rfl rfl rfl (hb hby d9_32) hr6
  · show Q_rmCopy1 Z b k xe0 xe1 xe2 xe3 h0 n0 _ T5.heap _
    rw [e5]
    exact ⟨b2, k2, rfl, N5, K5, (Nat.le_of_eq g2.symm), B5⟩
theorem ef_rmTo1 (m : MethodId) (a : Addr) : entryFrame m #[(.ref a)] 1 = mkF m 0 #[.val (.ref a)] [] := by first | (simp [entryFrame, mkF, argsToLocals, Value.category]; done) | rfl
def Q_rmTo1 (Z : State) (a : Addr) (b : Addr) (k : ClassId) (xe0 : Int32) (xe1 : Int32) (xe2 : Int32) (xe3 : Int32) (h0 : Heap) (n0 : Nat) (v_ : Option Value) (h_ : Heap) (L_ : List Loc) : Prop := ∃ d : Addr, ∃ k2 : ClassId, v_ = some (.ref d) ∧ Fr n0 L_ ∧ Keep h0 h_ [] ∧ h0.size ≤ d ∧ Arv Z h_ d k2 .byte (1 : Int32) [(.int xe0)] (.int (0 : Int32))
set_option maxRecDepth 65536 in
set_option maxHeartbeats 40000000 in
theorem rmTo1 (l : Launch) (Z : State) (a0 : Array Value) (hw : ∀ d ∈ tables_1, d.before a0 Z = true) (ws : List Jvm.Cond) (a : Addr) (b : Addr) (k : ClassId) (xe0 : Int32) (xe1 : Int32) (xe2 : Int32) (xe3 : Int32) (h0 : Heap) (n0 : Nat) (Z0 : n0 ≤ h0.size) (u0 : Exa Z h0 a "com/example/kneiphof/kneiphof/ByteRecord") (u1 : Fld Z h0 a "com/example/kneiphof/kneiphof/ByteRecord" "bytes" "[B" (.ref b)) (u2 : Fld Z h0 a "com/example/kneiphof/kneiphof/ByteRecord" "size" "I" (.int (1 : Int32))) (u3 : Arv Z h0 b k .byte (256 : Int32) [(.int xe0), (.int xe1), (.int xe2), (.int xe3)] (.int (0 : Int32))) :
    MetFree l own_y9 (head1 (Jvm.Cond.code own_y9 prog_6_method_6_code 1 (some (.array .byte)) :: ws) ({ frames := 2, cells := 1, slots := 1, locals := 32 } : Room)) (fun a_ U_ => a_ = #[(.ref a)] ∧ Z.Warmed39 U_.vm ∧ U_.heap = h0) (fun _ _ _ _ _ => True) (fun _ U_ o_ U2_ => ∃ v_ L_, o_ = .returned v_ ∧ Q_rmTo1 Z a b k xe0 xe1 xe2 xe3 h0 n0 v_ U2_.heap L_ ∧ FrameEnd U_ o_ U2_ L_ ({ frames := 2, cells := 1, slots := 1, locals := 32 } : Room).cells ({ frames := 2, cells := 1, slots := 1, locals := 32 } : Room).slots) := by
  refine MetFree.of_bodySF (plainFor_of_name pn_3) hisR ?_
  intro p e s m args below meth c s₁ Bd hml0 hP hK
  obtain ⟨rfl, hZ, hh⟩ := hP
  have hx := Bd.exec
  have hby := Bd.bytes
  have hml : c.maxLocals = 1 := hml0
  have hown : s.vm.findClass "com/example/kneiphof/kneiphof/ByteRecord" = some m.cls := findClass_of_methodNamed Bd.named
  have hnm := (name_of_methodNamed Bd.named Bd.method).1
  have X0 : Stand p l e ({ frames := 2, cells := 1, slots := 1, locals := 32 } : Room) s m #[(.ref a)] below meth c s₁ [] 0 0 := Stand.of_body Bd
  have e0 : s₁.heap = h0 := by rw [← hh, Bd.state]; rfl
  have N0 := Fr.nil n0
  refine own_go (A := s₁.setTop (mkF m 0 #[.val (.ref a)] [])) (fun t_ k_ => castTop (ef_rmTo1 m a) k_) ?_
  refine own_go (A := s₁.setTop (mkF m 1 #[.val (.ref a)] [(.ref a)])) (fun t_ k_ => ?_) ?_
  · show Steps p.tables e below (s₁.setTop (mkF m 0 #[.val (.ref a)] [])) t_
    refine XS.aloadN X0.here hx rfl (hb hby d8_0) rfl rfl ?_
    exact k_
  obtain ⟨T1, X1, e1, st1⟩ := getF X0 hx hZ hown (host := "") (Or.inl (own_w hw 15 rfl)) Via.refl e0 u1 (g := (mkF m 1 #[.val (.ref a)] [(.ref a)])) rfl rfl (hb hby d8_1)
  refine own_go st1 ?_
  refine own_go (A := T1.setTop (mkF m 5 #[.val (.ref a)] [(.ref a), (.ref b)])) (fun t_ k_ => ?_) ?_
  · show Steps p.tables e below (T1.setTop (mkF m 4 #[.val (.ref a)] [(.ref b)])) t_
    refine XS.aloadN X1.here hx rfl (hb hby d8_4) rfl rfl ?_
    exact k_
  obtain ⟨T2, X2, e2, st2⟩ := getF X1 hx hZ hown (host := "") (Or.inl (own_w hw 54 rfl)) Via.refl e1 u2 (g := (mkF m 5 #[.val (.ref a)] [(.ref a), (.ref b)])) rfl rfl (hb hby d8_5)
  refine own_go st2 ?_
  obtain ⟨_, _, ⟨T3, L3, k3, n3⟩, -, X3, ⟨Lc3, hQ3, l3, y3, z3⟩, st3⟩ := Jvm.LawKit.callS X2 hx (y := own_y8) hown (mvT hZ (own_w hw 61 rfl)) (mvT hZ (own_w hw 62 rfl)) (mvT hZ (own_w hw 63 rfl)) (mvT hZ (own_w hw 64 rfl)) (by decide) (backOf (W := 0) (rmCopy1 l Z a0 hw [] b k xe0 xe1 xe2 xe3 h0 n0 Z0 u3) hZ (own_w hw 64 rfl) (own_w hw 63 rfl) (by decide) (by decide)) (g := (mkF m 8 #[.val (.ref a)] [(.int (1 : Int32)), (.ref b)])) rfl (by rw [hml]; rfl) (argsL := [(.ref b), (.int (1 : Int32))]) (rest := []) (lenOf pd_4 rfl) rfl (by show 2 * 0 + _ ≤ _; exact Nat.le_of_eq rfl) (hb hby d8_8) (fun _ _ => ⟨rfl, e2, (by decide : 0 + 1 ≤ _), (by decide : 0 + 1 ≤ _)⟩)
  dsimp only [Pt.U, Pt.locs, Pt.cells, Pt.slots] at X3 l3 y3 z3 st3 hQ3
  subst l3 y3 z3
  obtain ⟨d_3, k2_3, rfl, N3q, Kc3, r3_0, r3_1⟩ := hQ3
  have N3 := Fr.app N0 N3q
  refine own_go st3 ?_
  have K3 : Keep h0 T3.heap [] := (Keep.refl h0 []).trans Kc3 all0
  obtain ⟨fs4, hr4, hrun4, hended4, hW4, hsame4⟩ := X3.leave (v := some (.ref d_3)) (fun h => by rw [Bd.returns] at h; cases h)
  refine ⟨_, _, ?_, hrun4, hended4, _, _, rfl, ?_, ⟨_, rfl⟩, hW4, hsame4.mono (by decide) (by decide)⟩
  · exact own_retA X3 hx Bd.returns rfl rfl rfl (hb hby d8_11) hr4
  · show Q_rmTo1 Z a b k xe0 xe1 xe2 xe3 h0 n0 _ T3.heap _
    exact ⟨d_3, k2_3, rfl, N3, K3, r3_0, r3_1⟩
theorem ef_rmMin3 (m : MethodId)  : entryFrame m #[(.int (256 : Int32)), (.int (3 : Int32))] 2 = mkF m 0 #[.val (.int (256 : Int32)), .val (.int (3 : Int32))] [] := by first | (simp [entryFrame, mkF, argsToLocals, Value.category]; done) | rfl
def Q_rmMin3 (Z : State)  (h0 : Heap) (n0 : Nat) (v_ : Option Value) (h_ : Heap) (L_ : List Loc) : Prop := v_ = some (.int (3 : Int32)) ∧ Fr n0 L_ ∧ h_ = h0
set_option maxRecDepth 65536 in
set_option maxHeartbeats 40000000 in
theorem rmMin3 (l : Launch) (Z : State) (a0 : Array Value) (hw : ∀ d ∈ tables_1, d.before a0 Z = true) (ws : List Jvm.Cond)  (h0 : Heap) (n0 : Nat) (Z0 : n0 ≤ h0.size)  :
    MetFree l own_y7 (head1 (Jvm.Cond.code own_y7 jdk_29_method_69_code 2 (some .int) :: ws) ({ frames := 0, cells := 0, slots := 0, locals := 0 } : Room)) (fun a_ U_ => a_ = #[(.int (256 : Int32)), (.int (3 : Int32))] ∧ Z.Warmed39 U_.vm ∧ U_.heap = h0) (fun _ _ _ _ _ => True) (fun _ U_ o_ U2_ => ∃ v_ L_, o_ = .returned v_ ∧ Q_rmMin3 Z  h0 n0 v_ U2_.heap L_ ∧ FrameEnd U_ o_ U2_ L_ ({ frames := 0, cells := 0, slots := 0, locals := 0 } : Room).cells ({ frames := 0, cells := 0, slots := 0, locals := 0 } : Room).slots) := by
  refine MetFree.of_bodySF (Jvm.Free.JP.mathPlain rfl (by decide +kernel)) hisR ?_
  intro p e s m args below meth c s₁ Bd hml0 hP hK
  obtain ⟨rfl, hZ, hh⟩ := hP
  have hx := Bd.exec
  have hby := Bd.bytes
  have hml : c.maxLocals = 2 := hml0
  have hown : s.vm.findClass "java/lang/Math" = some m.cls := findClass_of_methodNamed Bd.named
  have hnm := (name_of_methodNamed Bd.named Bd.method).1
  have X0 : Stand p l e ({ frames := 0, cells := 0, slots := 0, locals := 0 } : Room) s m #[(.int (256 : Int32)), (.int (3 : Int32))] below meth c s₁ [] 0 0 := Stand.of_body Bd
  have e0 : s₁.heap = h0 := by rw [← hh, Bd.state]; rfl
  have N0 := Fr.nil n0
  refine own_go (A := s₁.setTop (mkF m 0 #[.val (.int (256 : Int32)), .val (.int (3 : Int32))] [])) (fun t_ k_ => castTop (ef_rmMin3 m ) k_) ?_
  refine own_go (A := s₁.setTop (mkF m 10 #[.val (.int (256 : Int32)), .val (.int (3 : Int32))] [(.int (3 : Int32))])) (fun t_ k_ => ?_) ?_
  · show Steps p.tables e below (s₁.setTop (mkF m 0 #[.val (.int (256 : Int32)), .val (.int (3 : Int32))] [])) t_
    refine XS.iloadN X0.here hx rfl (hb hby d10_0) rfl ?_
    show Steps p.tables e below (s₁.setTop (mkF m 1 #[.val (.int (256 : Int32)), .val (.int (3 : Int32))] [(.int (256 : Int32))])) t_
    refine XS.iloadN X0.here hx rfl (hb hby d10_1) rfl ?_
    show Steps p.tables e below (s₁.setTop (mkF m 2 #[.val (.int (256 : Int32)), .val (.int (3 : Int32))] [(.int (3 : Int32)), (.int (256 : Int32))])) t_
    refine XS.icmpYes X0.here hx rfl (pc0 := 2) (pc' := 9) rfl (hb hby d10_2) rfl (tlt (by decide : (3 : Int32) < (256 : Int32))).2.2.1 (by decide) (by decide) ?_
    show Steps p.tables e below (s₁.setTop (mkF m 9 #[.val (.int (256 : Int32)), .val (.int (3 : Int32))] [])) t_
    refine XS.iloadN X0.here hx rfl (hb hby d10_9) rfl ?_
    exact k_
  obtain ⟨fs1, hr1, hrun1, hended1, hW1, hsame1⟩ := X0.leave (v := some (.int (3 : Int32))) (fun h => by rw [Bd.returns] at h; cases h)
  refine ⟨_, _, ?_, hrun1, hended1, _, _, rfl, ?_, ⟨_, rfl⟩, hW1, hsame1.mono (by decide) (by decide)⟩
  · exact own_retI X0 hx Bd.returns (hb hby d10_10) hr1
  · show Q_rmMin3 Z  h0 n0 _ s₁.heap _
    rw [e0]
    exact ⟨rfl, N0, rfl⟩
theorem ef_rmCopy3 (m : MethodId) (b : Addr) : entryFrame m #[(.ref b), (.int (3 : Int32))] 3 = mkF m 0 #[.val (.ref b), .val (.int (3 : Int32)), .unset] [] := by first | (simp [entryFrame, mkF, argsToLocals, Value.category]; done) | rfl
def Q_rmCopy3 (Z : State) (b : Addr) (k : ClassId) (xe0 : Int32) (xe1 : Int32) (xe2 : Int32) (xe3 : Int32) (h0 : Heap) (n0 : Nat) (v_ : Option Value) (h_ : Heap) (L_ : List Loc) : Prop := ∃ d : Addr, ∃ k2 : ClassId, v_ = some (.ref d) ∧ Fr n0 L_ ∧ Keep h0 h_ [] ∧ h0.size ≤ d ∧ Arv Z h_ d k2 .byte (3 : Int32) [(.int xe0), (.int xe1), (.int xe2)] (.int (0 : Int32))
set_option maxRecDepth 65536 in
set_option maxHeartbeats 40000000 in
theorem rmCopy3 (l : Launch) (Z : State) (a0 : Array Value) (hw : ∀ d ∈ tables_1, d.before a0 Z = true) (ws : List Jvm.Cond) (b : Addr) (k : ClassId) (xe0 : Int32) (xe1 : Int32) (xe2 : Int32) (xe3 : Int32) (h0 : Heap) (n0 : Nat) (Z0 : n0 ≤ h0.size) (u0 : Arv Z h0 b k .byte (256 : Int32) [(.int xe0), (.int xe1), (.int xe2), (.int xe3)] (.int (0 : Int32))) :
    MetFree l own_y8 (head1 (Jvm.Cond.code own_y8 jdk_65_method_121_code 3 (some (.array .byte)) :: ws) ({ frames := 1, cells := 1, slots := 3, locals := 18 } : Room)) (fun a_ U_ => a_ = #[(.ref b), (.int (3 : Int32))] ∧ Z.Warmed39 U_.vm ∧ U_.heap = h0) (fun _ _ _ _ _ => True) (fun _ U_ o_ U2_ => ∃ v_ L_, o_ = .returned v_ ∧ Q_rmCopy3 Z b k xe0 xe1 xe2 xe3 h0 n0 v_ U2_.heap L_ ∧ FrameEnd U_ o_ U2_ L_ ({ frames := 1, cells := 1, slots := 3, locals := 18 } : Room).cells ({ frames := 1, cells := 1, slots := 3, locals := 18 } : Room).slots) := by
  refine MetFree.of_bodySF (plainFor_of_name pn_4) hisR ?_
  intro p e s m args below meth c s₁ Bd hml0 hP hK
  obtain ⟨rfl, hZ, hh⟩ := hP
  have hx := Bd.exec
  have hby := Bd.bytes
  have hml : c.maxLocals = 3 := hml0
  have hown : s.vm.findClass "java/util/Arrays" = some m.cls := findClass_of_methodNamed Bd.named
  have hnm := (name_of_methodNamed Bd.named Bd.method).1
  have X0 : Stand p l e ({ frames := 1, cells := 1, slots := 3, locals := 18 } : Room) s m #[(.ref b), (.int (3 : Int32))] below meth c s₁ [] 0 0 := Stand.of_body Bd
  have e0 : s₁.heap = h0 := by rw [← hh, Bd.state]; rfl
  have N0 := Fr.nil n0
  refine own_go (A := s₁.setTop (mkF m 0 #[.val (.ref b), .val (.int (3 : Int32)), .unset] [])) (fun t_ k_ => castTop (ef_rmCopy3 m b) k_) ?_
  obtain ⟨cl1, Ar1, q1, S1, M1, H1, G1⟩ := id u0
  refine own_go (A := s₁.setTop (mkF m 15 #[.val (.ref b), .val (.int (3 : Int32)), .unset] [(.int (3 : Int32))])) (fun t_ k_ => ?_) ?_
  · show Steps p.tables e below (s₁.setTop (mkF m 0 #[.val (.ref b), .val (.int (3 : Int32)), .unset] [])) t_
    refine XS.iloadN X0.here hx rfl (hb hby d9_0) rfl ?_
    show Steps p.tables e below (s₁.setTop (mkF m 1 #[.val (.ref b), .val (.int (3 : Int32)), .unset] [(.int (3 : Int32))])) t_
    refine XS.aloadN X0.here hx rfl (hb hby d9_1) rfl rfl ?_
    show Steps p.tables e below (s₁.setTop (mkF m 2 #[.val (.ref b), .val (.int (3 : Int32)), .unset] [(.ref b), (.int (3 : Int32))])) t_
    refine X0.arraylength hx (by rw [e0]; exact Ar1.1) (State.isArrayOf_alike hZ.alike Ar1.2.1) (g := (mkF m 2 #[.val (.ref b), .val (.int (3 : Int32)), .unset] [(.ref b), (.int (3 : Int32))])) rfl rfl (hb hby d9_2) _ ?_
    rw [len_of S1 M1]
    show Steps p.tables e below (s₁.setTop (mkF m 3 #[.val (.ref b), .val (.int (3 : Int32)), .unset] [(.int (256 : Int32)), (.int (3 : Int32))])) t_
    refine XS.icmpYes X0.here hx rfl (pc0 := 3) (pc' := 14) rfl (hb hby d9_3) rfl (feq (by decide : ¬ ((3 : Int32) = (256 : Int32)))).2 (by decide) (by decide) ?_
    show Steps p.tables e below (s₁.setTop (mkF m 14 #[.val (.ref b), .val (.int (3 : Int32)), .unset] [])) t_
    refine XS.iloadN X0.here hx rfl (hb hby d9_14) rfl ?_
    exact k_
  obtain ⟨T2, h2, k2, X2, e2, E2, A2, st2⟩ := newP X0 hx hZ (own_w hw 14 rfl) e0 (g := (mkF m 15 #[.val (.ref b), .val (.int (3 : Int32)), .unset] [(.int (3 : Int32))])) rfl (hb hby d9_15) rfl (by decide) (cap := 3) (by decide) (by decide) (by decide) (by decide)
  obtain ⟨b2, g2⟩ : ∃ z, z = h0.size := ⟨_, rfl⟩
  rw [← g2] at A2 st2
  refine own_go st2 ?_
  have K2 : Keep h0 h2 [] := (Keep.refl h0 []).ext E2
  have B2 : Arv Z h2 b2 k2 .byte (3 : Int32) [(.int (0 : Int32)), (.int (0 : Int32)), (.int (0 : Int32))] (.int (0 : Int32)) := (Arv.new A2 (by decide)).pad (pad_rep [] (.int (0 : Int32)) 3)
  obtain ⟨cl3, Ar3, q3, S3, M3, H3, G3⟩ := id (u0.ext E2)
  refine own_go (A := T2.setTop (mkF m 25 #[.val (.ref b), .val (.int (3 : Int32)), .val (.ref b2)] [(.int (3 : Int32)), (.int (256 : Int32)), (.int (0 : Int32)), (.ref b2), (.int (0 : Int32)), (.ref b)])) (fun t_ k_ => ?_) ?_
  · show Steps p.tables e below (T2.setTop (mkF m 17 #[.val (.ref b), .val (.int (3 : Int32)), .unset] [(.ref b2)])) t_
    refine XS.astoreN X2.here hx rfl (hb hby d9_17) rfl rfl (l' := #[.val (.ref b), .val (.int (3 : Int32)), .val (.ref b2)]) rfl ?_
    show Steps p.tables e below (T2.setTop (mkF m 18 #[.val (.ref b), .val (.int (3 : Int32)), .val (.ref b2)] [])) t_
    refine XS.aloadN X2.here hx rfl (hb hby d9_18) rfl rfl ?_
    show Steps p.tables e below (T2.setTop (mkF m 19 #[.val (.ref b), .val (.int (3 : Int32)), .val (.ref b2)] [(.ref b)])) t_
    refine XS.iconst X2.here hx rfl (hb hby d9_19) ?_
    show Steps p.tables e below (T2.setTop (mkF m 20 #[.val (.ref b), .val (.int (3 : Int32)), .val (.ref b2)] [(.int (0 : Int32)), (.ref b)])) t_
    refine XS.aloadN X2.here hx rfl (hb hby d9_20) rfl rfl ?_
    show Steps p.tables e below (T2.setTop (mkF m 21 #[.val (.ref b), .val (.int (3 : Int32)), .val (.ref b2)] [(.ref b2), (.int (0 : Int32)), (.ref b)])) t_
    refine XS.iconst X2.here hx rfl (hb hby d9_21) ?_
    show Steps p.tables e below (T2.setTop (mkF m 22 #[.val (.ref b), .val (.int (3 : Int32)), .val (.ref b2)] [(.int (0 : Int32)), (.ref b2), (.int (0 : Int32)), (.ref b)])) t_
    refine XS.aloadN X2.here hx rfl (hb hby d9_22) rfl rfl ?_
    show Steps p.tables e below (T2.setTop (mkF m 23 #[.val (.ref b), .val (.int (3 : Int32)), .val (.ref b2)] [(.ref b), (.int (0 : Int32)), (.ref b2), (.int (0 : Int32)), (.ref b)])) t_
    refine X2.arraylength hx (by rw [e2]; exact Ar3.1) (State.isArrayOf_alike hZ.alike Ar3.2.1) (g := (mkF m 23 #[.val (.ref b), .val (.int (3 : Int32)), .val (.ref b2)] [(.ref b), (.int (0 : Int32)), (.ref b2), (.int (0 : Int32)), (.ref b)])) rfl rfl (hb hby d9_23) _ ?_
    rw [len_of S3 M3]
    show Steps p.tables e below (T2.setTop (mkF m 24 #[.val (.ref b), .val (.int (3 : Int32)), .val (.ref b2)] [(.int (256 : Int32)), (.int (0 : Int32)), (.ref b2), (.int (0 : Int32)), (.ref b)])) t_
    refine XS.iloadN X2.here hx rfl (hb hby d9_24) rfl ?_
    exact k_
  obtain ⟨_, _, ⟨T4, L4, k4, n4⟩, -, X4, ⟨Lc4, hQ4, l4, y4, z4⟩, st4⟩ := Jvm.LawKit.callS X2 hx (y := own_y7) hown (mvT hZ (own_w hw 65 rfl)) (mvT hZ (own_w hw 66 rfl)) (mvT hZ (own_w hw 67 rfl)) (mvT hZ (own_w hw 68 rfl)) (by decide) (backOf (W := 4) (rmMin3 l Z a0 hw [] h2 n0 (Nat.le_trans Z0 K2.1)) hZ (own_w hw 68 rfl) (own_w hw 67 rfl) (by decide) (by decide)) (g := (mkF m 25 #[.val (.ref b), .val (.int (3 : Int32)), .val (.ref b2)] [(.int (3 : Int32)), (.int (256 : Int32)), (.int (0 : Int32)), (.ref b2), (.int (0 : Int32)), (.ref b)])) rfl (by rw [hml]; rfl) (argsL := [(.int (256 : Int32)), (.int (3 : Int32))]) (rest := [(.int (0 : Int32)), (.ref b2), (.int (0 : Int32)), (.ref b)]) (lenOf pd_3 rfl) rfl (by show 2 * 0 + _ ≤ _; exact Nat.le_of_eq rfl) (hb hby d9_25) (fun _ _ => ⟨rfl, e2, (by decide : 1 + 0 ≤ _), (by decide : 3 + 0 ≤ _)⟩)
  dsimp only [Pt.U, Pt.locs, Pt.cells, Pt.slots] at X4 l4 y4 z4 st4 hQ4
  subst l4 y4 z4
  obtain ⟨rfl, N4q, eh4⟩ := hQ4
  have N4 := Fr.app N0 N4q
  refine own_go st4 ?_
  obtain ⟨T5, h5, L5, X5, e5, N5, Kc5, Bq5, st5⟩ := cpA X4 hx hZ hown (own_w hw 69 rfl) (own_w hw 72 rfl) (own_w hw 70 rfl) (own_w hw 71 rfl) eh4 (u0.ext E2) B2 (us := [(.int xe0), (.int xe1), (.int xe2)]) (Or.inl ⟨rfl, rfl⟩) (by decide) (by decide) (by decide) (by decide) (by decide) rfl (by decide) N4 (Nat.le_trans Z0 (Nat.le_of_eq g2.symm)) (g := (mkF m 28 #[.val (.ref b), .val (.int (3 : Int32)), .val (.ref b2)] [(.int (3 : Int32)), (.int (0 : Int32)), (.ref b2), (.int (0 : Int32)), (.ref b)])) rfl (by rw [hml]; rfl) (rest := []) rfl (hb hby d9_28) (by decide) (W := 0) (by show 2 * 0 + _ ≤ _; exact Nat.le_of_eq rfl) (by decide)
  have B5 : Arv Z h5 b2 k2 .byte (3 : Int32) [(.int xe0), (.int xe1), (.int xe2)] (.int (0 : Int32)) := Bq5
  refine own_go st5 ?_
  have K5 : Keep h0 h5 [] := K2.trans Kc5 (allS (P := fun x => x ∈ _ ∨ _ ≤ x) (Or.inr (Nat.le_of_eq g2.symm)) all0)
  refine own_go (A := T5.setTop (mkF m 32 #[.val (.ref b), .val (.int (3 : Int32)), .val (.ref b2)] [(.ref b2)])) (fun t_ k_ => ?_) ?_
  · show Steps p.tables e below (T5.setTop (mkF m 31 #[.val (.ref b), .val (.int (3 : Int32)), .val (.ref b2)] [])) t_
    refine XS.aloadN X5.here hx rfl (hb hby d9_31) rfl rfl ?_
    exact k_
  obtain ⟨fs6, hr6, hrun6, hended6, hW6, hsame6⟩ := X5.leave (v := some (.ref b2)) (fun h => by rw [Bd.returns] at h; cases h)
  refine ⟨_, _, ?_, hrun6, hended6, _, _, rfl, ?_, ⟨_, rfl⟩, hW6, hsame6.mono (by decide) (by decide)⟩
  · exact own_retA X5 hx Bd.returns rfl rfl rfl (hb hby d9_32) hr6
  · show Q_rmCopy3 Z b k xe0 xe1 xe2 xe3 h0 n0 _ T5.heap _
    rw [e5]
    exact ⟨b2, k2, rfl, N5, K5, (Nat.le_of_eq g2.symm), B5⟩
theorem ef_rmTo3 (m : MethodId) (a : Addr) : entryFrame m #[(.ref a)] 1 = mkF m 0 #[.val (.ref a)] [] := by first | (simp [entryFrame, mkF, argsToLocals, Value.category]; done) | rfl
def Q_rmTo3 (Z : State) (a : Addr) (b : Addr) (k : ClassId) (xe0 : Int32) (xe1 : Int32) (xe2 : Int32) (xe3 : Int32) (h0 : Heap) (n0 : Nat) (v_ : Option Value) (h_ : Heap) (L_ : List Loc) : Prop := ∃ d : Addr, ∃ k2 : ClassId, v_ = some (.ref d) ∧ Fr n0 L_ ∧ Keep h0 h_ [] ∧ h0.size ≤ d ∧ Arv Z h_ d k2 .byte (3 : Int32) [(.int xe0), (.int xe1), (.int xe2)] (.int (0 : Int32))
set_option maxRecDepth 65536 in
set_option maxHeartbeats 40000000 in
theorem rmTo3 (l : Launch) (Z : State) (a0 : Array Value) (hw : ∀ d ∈ tables_1, d.before a0 Z = true) (ws : List Jvm.Cond) (a : Addr) (b : Addr) (k : ClassId) (xe0 : Int32) (xe1 : Int32) (xe2 : Int32) (xe3 : Int32) (h0 : Heap) (n0 : Nat) (Z0 : n0 ≤ h0.size) (u0 : Exa Z h0 a "com/example/kneiphof/kneiphof/ByteRecord") (u1 : Fld Z h0 a "com/example/kneiphof/kneiphof/ByteRecord" "bytes" "[B" (.ref b)) (u2 : Fld Z h0 a "com/example/kneiphof/kneiphof/ByteRecord" "size" "I" (.int (3 : Int32))) (u3 : Arv Z h0 b k .byte (256 : Int32) [(.int xe0), (.int xe1), (.int xe2), (.int xe3)] (.int (0 : Int32))) :
    MetFree l own_y9 (head1 (Jvm.Cond.code own_y9 prog_6_method_6_code 1 (some (.array .byte)) :: ws) ({ frames := 2, cells := 1, slots := 3, locals := 32 } : Room)) (fun a_ U_ => a_ = #[(.ref a)] ∧ Z.Warmed39 U_.vm ∧ U_.heap = h0) (fun _ _ _ _ _ => True) (fun _ U_ o_ U2_ => ∃ v_ L_, o_ = .returned v_ ∧ Q_rmTo3 Z a b k xe0 xe1 xe2 xe3 h0 n0 v_ U2_.heap L_ ∧ FrameEnd U_ o_ U2_ L_ ({ frames := 2, cells := 1, slots := 3, locals := 32 } : Room).cells ({ frames := 2, cells := 1, slots := 3, locals := 32 } : Room).slots) := by
  refine MetFree.of_bodySF (plainFor_of_name pn_3) hisR ?_
  intro p e s m args below meth c s₁ Bd hml0 hP hK
  obtain ⟨rfl, hZ, hh⟩ := hP
  have hx := Bd.exec
  have hby := Bd.bytes
  have hml : c.maxLocals = 1 := hml0
  have hown : s.vm.findClass "com/example/kneiphof/kneiphof/ByteRecord" = some m.cls := findClass_of_methodNamed Bd.named
  have hnm := (name_of_methodNamed Bd.named Bd.method).1
  have X0 : Stand p l e ({ frames := 2, cells := 1, slots := 3, locals := 32 } : Room) s m #[(.ref a)] below meth c s₁ [] 0 0 := Stand.of_body Bd
  have e0 : s₁.heap = h0 := by rw [← hh, Bd.state]; rfl
  have N0 := Fr.nil n0
  refine own_go (A := s₁.setTop (mkF m 0 #[.val (.ref a)] [])) (fun t_ k_ => castTop (ef_rmTo3 m a) k_) ?_
  refine own_go (A := s₁.setTop (mkF m 1 #[.val (.ref a)] [(.ref a)])) (fun t_ k_ => ?_) ?_
  · show Steps p.tables e below (s₁.setTop (mkF m 0 #[.val (.ref a)] [])) t_
    refine XS.aloadN X0.here hx rfl (hb hby d8_0) rfl rfl ?_
    exact k_
  obtain ⟨T1, X1, e1, st1⟩ := getF X0 hx hZ hown (host := "") (Or.inl (own_w hw 15 rfl)) Via.refl e0 u1 (g := (mkF m 1 #[.val (.ref a)] [(.ref a)])) rfl rfl (hb hby d8_1)
  refine own_go st1 ?_
  refine own_go (A := T1.setTop (mkF m 5 #[.val (.ref a)] [(.ref a), (.ref b)])) (fun t_ k_ => ?_) ?_
  · show Steps p.tables e below (T1.setTop (mkF m 4 #[.val (.ref a)] [(.ref b)])) t_
    refine XS.aloadN X1.here hx rfl (hb hby d8_4) rfl rfl ?_
    exact k_
  obtain ⟨T2, X2, e2, st2⟩ := getF X1 hx hZ hown (host := "") (Or.inl (own_w hw 54 rfl)) Via.refl e1 u2 (g := (mkF m 5 #[.val (.ref a)] [(.ref a), (.ref b)])) rfl rfl (hb hby d8_5)
  refine own_go st2 ?_
  obtain ⟨_, _, ⟨T3, L3, k3, n3⟩, -, X3, ⟨Lc3, hQ3, l3, y3, z3⟩, st3⟩ := Jvm.LawKit.callS X2 hx (y := own_y8) hown (mvT hZ (own_w hw 61 rfl)) (mvT hZ (own_w hw 62 rfl)) (mvT hZ (own_w hw 63 rfl)) (mvT hZ (own_w hw 64 rfl)) (by decide) (backOf (W := 0) (rmCopy3 l Z a0 hw [] b k xe0 xe1 xe2 xe3 h0 n0 Z0 u3) hZ (own_w hw 64 rfl) (own_w hw 63 rfl) (by decide) (by decide)) (g := (mkF m 8 #[.val (.ref a)] [(.int (3 : Int32)), (.ref b)])) rfl (by rw [hml]; rfl) (argsL := [(.ref b), (.int (3 : Int32))]) (rest := []) (lenOf pd_4 rfl) rfl (by show 2 * 0 + _ ≤ _; exact Nat.le_of_eq rfl) (hb hby d8_8) (fun _ _ => ⟨rfl, e2, (by decide : 0 + 1 ≤ _), (by decide : 0 + 3 ≤ _)⟩)
  dsimp only [Pt.U, Pt.locs, Pt.cells, Pt.slots] at X3 l3 y3 z3 st3 hQ3
  subst l3 y3 z3
  obtain ⟨d_3, k2_3, rfl, N3q, Kc3, r3_0, r3_1⟩ := hQ3
  have N3 := Fr.app N0 N3q
  refine own_go st3 ?_
  have K3 : Keep h0 T3.heap [] := (Keep.refl h0 []).trans Kc3 all0
  obtain ⟨fs4, hr4, hrun4, hended4, hW4, hsame4⟩ := X3.leave (v := some (.ref d_3)) (fun h => by rw [Bd.returns] at h; cases h)
  refine ⟨_, _, ?_, hrun4, hended4, _, _, rfl, ?_, ⟨_, rfl⟩, hW4, hsame4.mono (by decide) (by decide)⟩
  · exact own_retA X3 hx Bd.returns rfl rfl rfl (hb hby d8_11) hr4
  · show Q_rmTo3 Z a b k xe0 xe1 xe2 xe3 h0 n0 _ T3.heap _
    exact ⟨d_3, k2_3, rfl, N3, K3, r3_0, r3_1⟩
theorem ef_rmMin4 (m : MethodId)  : entryFrame m #[(.int (256 : Int32)), (.int (4 : Int32))] 2 = mkF m 0 #[.val (.int (256 : Int32)), .val (.int (4 : Int32))] [] := by first | (simp [entryFrame, mkF, argsToLocals, Value.category]; done) | rfl
def Q_rmMin4 (Z : State)  (h0 : Heap) (n0 : Nat) (v_ : Option Value) (h_ : Heap) (L_ : List Loc) : Prop := v_ = some (.int (4 : Int32)) ∧ Fr n0 L_ ∧ h_ = h0
set_option maxRecDepth 65536 in
set_option maxHeartbeats 40000000 in
theorem rmMin4 (l : Launch) (Z : State) (a0 : Array Value) (hw : ∀ d ∈ tables_1, d.before a0 Z = true) (ws : List Jvm.Cond)  (h0 : Heap) (n0 : Nat) (Z0 : n0 ≤ h0.size)  :
    MetFree l own_y7 (head1 (Jvm.Cond.code own_y7 jdk_29_method_69_code 2 (some .int) :: ws) ({ frames := 0, cells := 0, slots := 0, locals := 0 } : Room)) (fun a_ U_ => a_ = #[(.int (256 : Int32)), (.int (4 : Int32))] ∧ Z.Warmed39 U_.vm ∧ U_.heap = h0) (fun _ _ _ _ _ => True) (fun _ U_ o_ U2_ => ∃ v_ L_, o_ = .returned v_ ∧ Q_rmMin4 Z  h0 n0 v_ U2_.heap L_ ∧ FrameEnd U_ o_ U2_ L_ ({ frames := 0, cells := 0, slots := 0, locals := 0 } : Room).cells ({ frames := 0, cells := 0, slots := 0, locals := 0 } : Room).slots) := by
  refine MetFree.of_bodySF (Jvm.Free.JP.mathPlain rfl (by decide +kernel)) hisR ?_
  intro p e s m args below meth c s₁ Bd hml0 hP hK
  obtain ⟨rfl, hZ, hh⟩ := hP
  have hx := Bd.exec
  have hby := Bd.bytes
  have hml : c.maxLocals = 2 := hml0
  have hown : s.vm.findClass "java/lang/Math" = some m.cls := findClass_of_methodNamed Bd.named
  have hnm := (name_of_methodNamed Bd.named Bd.method).1
  have X0 : Stand p l e ({ frames := 0, cells := 0, slots := 0, locals := 0 } : Room) s m #[(.int (256 : Int32)), (.int (4 : Int32))] below meth c s₁ [] 0 0 := Stand.of_body Bd
  have e0 : s₁.heap = h0 := by rw [← hh, Bd.state]; rfl
  have N0 := Fr.nil n0
  refine own_go (A := s₁.setTop (mkF m 0 #[.val (.int (256 : Int32)), .val (.int (4 : Int32))] [])) (fun t_ k_ => castTop (ef_rmMin4 m ) k_) ?_
  refine own_go (A := s₁.setTop (mkF m 10 #[.val (.int (256 : Int32)), .val (.int (4 : Int32))] [(.int (4 : Int32))])) (fun t_ k_ => ?_) ?_
  · show Steps p.tables e below (s₁.setTop (mkF m 0 #[.val (.int (256 : Int32)), .val (.int (4 : Int32))] [])) t_
    refine XS.iloadN X0.here hx rfl (hb hby d10_0) rfl ?_
    show Steps p.tables e below (s₁.setTop (mkF m 1 #[.val (.int (256 : Int32)), .val (.int (4 : Int32))] [(.int (256 : Int32))])) t_
    refine XS.iloadN X0.here hx rfl (hb hby d10_1) rfl ?_
    show Steps p.tables e below (s₁.setTop (mkF m 2 #[.val (.int (256 : Int32)), .val (.int (4 : Int32))] [(.int (4 : Int32)), (.int (256 : Int32))])) t_
    refine XS.icmpYes X0.here hx rfl (pc0 := 2) (pc' := 9) rfl (hb hby d10_2) rfl (tlt (by decide : (4 : Int32) < (256 : Int32))).2.2.1 (by decide) (by decide) ?_
    show Steps p.tables e below (s₁.setTop (mkF m 9 #[.val (.int (256 : Int32)), .val (.int (4 : Int32))] [])) t_
    refine XS.iloadN X0.here hx rfl (hb hby d10_9) rfl ?_
    exact k_
  obtain ⟨fs1, hr1, hrun1, hended1, hW1, hsame1⟩ := X0.leave (v := some (.int (4 : Int32))) (fun h => by rw [Bd.returns] at h; cases h)
  refine ⟨_, _, ?_, hrun1, hended1, _, _, rfl, ?_, ⟨_, rfl⟩, hW1, hsame1.mono (by decide) (by decide)⟩
  · exact own_retI X0 hx Bd.returns (hb hby d10_10) hr1
  · show Q_rmMin4 Z  h0 n0 _ s₁.heap _
    rw [e0]
    exact ⟨rfl, N0, rfl⟩
theorem ef_rmCopy4 (m : MethodId) (b : Addr) : entryFrame m #[(.ref b), (.int (4 : Int32))] 3 = mkF m 0 #[.val (.ref b), .val (.int (4 : Int32)), .unset] [] := by first | (simp [entryFrame, mkF, argsToLocals, Value.category]; done) | rfl
def Q_rmCopy4 (Z : State) (b : Addr) (k : ClassId) (xe0 : Int32) (xe1 : Int32) (xe2 : Int32) (xe3 : Int32) (h0 : Heap) (n0 : Nat) (v_ : Option Value) (h_ : Heap) (L_ : List Loc) : Prop := ∃ d : Addr, ∃ k2 : ClassId, v_ = some (.ref d) ∧ Fr n0 L_ ∧ Keep h0 h_ [] ∧ h0.size ≤ d ∧ Arv Z h_ d k2 .byte (4 : Int32) [(.int xe0), (.int xe1), (.int xe2), (.int xe3)] (.int (0 : Int32))
set_option maxRecDepth 65536 in
set_option maxHeartbeats 40000000 in
theorem rmCopy4 (l : Launch) (Z : State) (a0 : Array Value) (hw : ∀ d ∈ tables_1, d.before a0 Z = true) (ws : List Jvm.Cond) (b : Addr) (k : ClassId) (xe0 : Int32) (xe1 : Int32) (xe2 : Int32) (xe3 : Int32) (h0 : Heap) (n0 : Nat) (Z0 : n0 ≤ h0.size) (u0 : Arv Z h0 b k .byte (256 : Int32) [(.int xe0), (.int xe1), (.int xe2), (.int xe3)] (.int (0 : Int32))) :
    MetFree l own_y8 (head1 (Jvm.Cond.code own_y8 jdk_65_method_121_code 3 (some (.array .byte)) :: ws) ({ frames := 1, cells := 1, slots := 4, locals := 18 } : Room)) (fun a_ U_ => a_ = #[(.ref b), (.int (4 : Int32))] ∧ Z.Warmed39 U_.vm ∧ U_.heap = h0) (fun _ _ _ _ _ => True) (fun _ U_ o_ U2_ => ∃ v_ L_, o_ = .returned v_ ∧ Q_rmCopy4 Z b k xe0 xe1 xe2 xe3 h0 n0 v_ U2_.heap L_ ∧ FrameEnd U_ o_ U2_ L_ ({ frames := 1, cells := 1, slots := 4, locals := 18 } : Room).cells ({ frames := 1, cells := 1, slots := 4, locals := 18 } : Room).slots) := by
  refine MetFree.of_bodySF (plainFor_of_name pn_4) hisR ?_
  intro p e s m args below meth c s₁ Bd hml0 hP hK
  obtain ⟨rfl, hZ, hh⟩ := hP
  have hx := Bd.exec
  have hby := Bd.bytes
  have hml : c.maxLocals = 3 := hml0
  have hown : s.vm.findClass "java/util/Arrays" = some m.cls := findClass_of_methodNamed Bd.named
  have hnm := (name_of_methodNamed Bd.named Bd.method).1
  have X0 : Stand p l e ({ frames := 1, cells := 1, slots := 4, locals := 18 } : Room) s m #[(.ref b), (.int (4 : Int32))] below meth c s₁ [] 0 0 := Stand.of_body Bd
  have e0 : s₁.heap = h0 := by rw [← hh, Bd.state]; rfl
  have N0 := Fr.nil n0
  refine own_go (A := s₁.setTop (mkF m 0 #[.val (.ref b), .val (.int (4 : Int32)), .unset] [])) (fun t_ k_ => castTop (ef_rmCopy4 m b) k_) ?_
  obtain ⟨cl1, Ar1, q1, S1, M1, H1, G1⟩ := id u0
  refine own_go (A := s₁.setTop (mkF m 15 #[.val (.ref b), .val (.int (4 : Int32)), .unset] [(.int (4 : Int32))])) (fun t_ k_ => ?_) ?_
  · show Steps p.tables e below (s₁.setTop (mkF m 0 #[.val (.ref b), .val (.int (4 : Int32)), .unset] [])) t_
    refine XS.iloadN X0.here hx rfl (hb hby d9_0) rfl ?_
    show Steps p.tables e below (s₁.setTop (mkF m 1 #[.val (.ref b), .val (.int (4 : Int32)), .unset] [(.int (4 : Int32))])) t_
    refine XS.aloadN X0.here hx rfl (hb hby d9_1) rfl rfl ?_
    show Steps p.tables e below (s₁.setTop (mkF m 2 #[.val (.ref b), .val (.int (4 : Int32)), .unset] [(.ref b), (.int (4 : Int32))])) t_
    refine X0.arraylength hx (by rw [e0]; exact Ar1.1) (State.isArrayOf_alike hZ.alike Ar1.2.1) (g := (mkF m 2 #[.val (.ref b), .val (.int (4 : Int32)), .unset] [(.ref b), (.int (4 : Int32))])) rfl rfl (hb hby d9_2) _ ?_
    rw [len_of S1 M1]
    show Steps p.tables e below (s₁.setTop (mkF m 3 #[.val (.ref b), .val (.int (4 : Int32)), .unset] [(.int (256 : Int32)), (.int (4 : Int32))])) t_
    refine XS.icmpYes X0.here hx rfl (pc0 := 3) (pc' := 14) rfl (hb hby d9_3) rfl (feq (by decide : ¬ ((4 : Int32) = (256 : Int32)))).2 (by decide) (by decide) ?_
    show Steps p.tables e below (s₁.setTop (mkF m 14 #[.val (.ref b), .val (.int (4 : Int32)), .unset] [])) t_
    refine XS.iloadN X0.here hx rfl (hb hby d9_14) rfl ?_
    exact k_
  obtain ⟨T2, h2, k2, X2, e2, E2, A2, st2⟩ := newP X0 hx hZ (own_w hw 14 rfl) e0 (g := (mkF m 15 #[.val (.ref b), .val (.int (4 : Int32)), .unset] [(.int (4 : Int32))])) rfl (hb hby d9_15) rfl (by decide) (cap := 4) (by decide) (by decide) (by decide) (by decide)
  obtain ⟨b2, g2⟩ : ∃ z, z = h0.size := ⟨_, rfl⟩
  rw [← g2] at A2 st2
  refine own_go st2 ?_
  have K2 : Keep h0 h2 [] := (Keep.refl h0 []).ext E2
  have B2 : Arv Z h2 b2 k2 .byte (4 : Int32) [(.int (0 : Int32)), (.int (0 : Int32)), (.int (0 : Int32)), (.int (0 : Int32))] (.int (0 : Int32)) := (Arv.new A2 (by decide)).pad (pad_rep [] (.int (0 : Int32)) 4)
  obtain ⟨cl3, Ar3, q3, S3, M3, H3, G3⟩ := id (u0.ext E2)
  refine own_go (A := T2.setTop (mkF m 25 #[.val (.ref b), .val (.int (4 : Int32)), .val (.ref b2)] [(.int (4 : Int32)), (.int (256 : Int32)), (.int (0 : Int32)), (.ref b2), (.int (0 : Int32)), (.ref b)])) (fun t_ k_ => ?_) ?_
  · show Steps p.tables e below (T2.setTop (mkF m 17 #[.val (.ref b), .val (.int (4 : Int32)), .unset] [(.ref b2)])) t_
    refine XS.astoreN X2.here hx rfl (hb hby d9_17) rfl rfl (l' := #[.val (.ref b), .val (.int (4 : Int32)), .val (.ref b2)]) rfl ?_
    show Steps p.tables e below (T2.setTop (mkF m 18 #[.val (.ref b), .val (.int (4 : Int32)), .val (.ref b2)] [])) t_
    refine XS.aloadN X2.here hx rfl (hb hby d9_18) rfl rfl ?_
    show Steps p.tables e below (T2.setTop (mkF m 19 #[.val (.ref b), .val (.int (4 : Int32)), .val (.ref b2)] [(.ref b)])) t_
    refine XS.iconst X2.here hx rfl (hb hby d9_19) ?_
    show Steps p.tables e below (T2.setTop (mkF m 20 #[.val (.ref b), .val (.int (4 : Int32)), .val (.ref b2)] [(.int (0 : Int32)), (.ref b)])) t_
    refine XS.aloadN X2.here hx rfl (hb hby d9_20) rfl rfl ?_
    show Steps p.tables e below (T2.setTop (mkF m 21 #[.val (.ref b), .val (.int (4 : Int32)), .val (.ref b2)] [(.ref b2), (.int (0 : Int32)), (.ref b)])) t_
    refine XS.iconst X2.here hx rfl (hb hby d9_21) ?_
    show Steps p.tables e below (T2.setTop (mkF m 22 #[.val (.ref b), .val (.int (4 : Int32)), .val (.ref b2)] [(.int (0 : Int32)), (.ref b2), (.int (0 : Int32)), (.ref b)])) t_
    refine XS.aloadN X2.here hx rfl (hb hby d9_22) rfl rfl ?_
    show Steps p.tables e below (T2.setTop (mkF m 23 #[.val (.ref b), .val (.int (4 : Int32)), .val (.ref b2)] [(.ref b), (.int (0 : Int32)), (.ref b2), (.int (0 : Int32)), (.ref b)])) t_
    refine X2.arraylength hx (by rw [e2]; exact Ar3.1) (State.isArrayOf_alike hZ.alike Ar3.2.1) (g := (mkF m 23 #[.val (.ref b), .val (.int (4 : Int32)), .val (.ref b2)] [(.ref b), (.int (0 : Int32)), (.ref b2), (.int (0 : Int32)), (.ref b)])) rfl rfl (hb hby d9_23) _ ?_
    rw [len_of S3 M3]
    show Steps p.tables e below (T2.setTop (mkF m 24 #[.val (.ref b), .val (.int (4 : Int32)), .val (.ref b2)] [(.int (256 : Int32)), (.int (0 : Int32)), (.ref b2), (.int (0 : Int32)), (.ref b)])) t_
    refine XS.iloadN X2.here hx rfl (hb hby d9_24) rfl ?_
    exact k_
  obtain ⟨_, _, ⟨T4, L4, k4, n4⟩, -, X4, ⟨Lc4, hQ4, l4, y4, z4⟩, st4⟩ := Jvm.LawKit.callS X2 hx (y := own_y7) hown (mvT hZ (own_w hw 65 rfl)) (mvT hZ (own_w hw 66 rfl)) (mvT hZ (own_w hw 67 rfl)) (mvT hZ (own_w hw 68 rfl)) (by decide) (backOf (W := 4) (rmMin4 l Z a0 hw [] h2 n0 (Nat.le_trans Z0 K2.1)) hZ (own_w hw 68 rfl) (own_w hw 67 rfl) (by decide) (by decide)) (g := (mkF m 25 #[.val (.ref b), .val (.int (4 : Int32)), .val (.ref b2)] [(.int (4 : Int32)), (.int (256 : Int32)), (.int (0 : Int32)), (.ref b2), (.int (0 : Int32)), (.ref b)])) rfl (by rw [hml]; rfl) (argsL := [(.int (256 : Int32)), (.int (4 : Int32))]) (rest := [(.int (0 : Int32)), (.ref b2), (.int (0 : Int32)), (.ref b)]) (lenOf pd_3 rfl) rfl (by show 2 * 0 + _ ≤ _; exact Nat.le_of_eq rfl) (hb hby d9_25) (fun _ _ => ⟨rfl, e2, (by decide : 1 + 0 ≤ _), (by decide : 4 + 0 ≤ _)⟩)
  dsimp only [Pt.U, Pt.locs, Pt.cells, Pt.slots] at X4 l4 y4 z4 st4 hQ4
  subst l4 y4 z4
  obtain ⟨rfl, N4q, eh4⟩ := hQ4
  have N4 := Fr.app N0 N4q
  refine own_go st4 ?_
  obtain ⟨T5, h5, L5, X5, e5, N5, Kc5, Bq5, st5⟩ := cpA X4 hx hZ hown (own_w hw 69 rfl) (own_w hw 72 rfl) (own_w hw 70 rfl) (own_w hw 71 rfl) eh4 (u0.ext E2) B2 (us := [(.int xe0), (.int xe1), (.int xe2), (.int xe3)]) (Or.inl ⟨rfl, rfl⟩) (by decide) (by decide) (by decide) (by decide) (by decide) rfl (by decide) N4 (Nat.le_trans Z0 (Nat.le_of_eq g2.symm)) (g := (mkF m 28 #[.val (.ref b), .val (.int (4 : Int32)), .val (.ref b2)] [(.int (4 : Int32)), (.int (0 : Int32)), (.ref b2), (.int (0 : Int32)), (.ref b)])) rfl (by rw [hml]; rfl) (rest := []) rfl (hb hby d9_28) (by decide) (W := 0) (by show 2 * 0 + _ ≤ _; exact Nat.le_of_eq rfl) (by decide)
  have B5 : Arv Z h5 b2 k2 .byte (4 : Int32) [(.int xe0), (.int xe1), (.int xe2), (.int xe3)] (.int (0 : Int32)) := Bq5
  refine own_go st5 ?_
  have K5 : Keep h0 h5 [] := K2.trans Kc5 (allS (P := fun x => x ∈ _ ∨ _ ≤ x) (Or.inr (Nat.le_of_eq g2.symm)) all0)
  refine own_go (A := T5.setTop (mkF m 32 #[.val (.ref b), .val (.int (4 : Int32)), .val (.ref b2)] [(.ref b2)])) (fun t_ k_ => ?_) ?_
  · show Steps p.tables e below (T5.setTop (mkF m 31 #[.val (.ref b), .val (.int (4 : Int32)), .val (.ref b2)] [])) t_
    refine XS.aloadN X5.here hx rfl (hb hby d9_31) rfl rfl ?_
    exact k_
  obtain ⟨fs6, hr6, hrun6, hended6, hW6, hsame6⟩ := X5.leave (v := some (.ref b2)) (fun h => by rw [Bd.returns] at h; cases h)
  refine ⟨_, _, ?_, hrun6, hended6, _, _, rfl, ?_, ⟨_, rfl⟩, hW6, hsame6.mono (by decide) (by decide)⟩
  · exact own_retA X5 hx Bd.returns rfl rfl rfl (hb hby d9_32) hr6
  · show Q_rmCopy4 Z b k xe0 xe1 xe2 xe3 h0 n0 _ T5.heap _
    rw [e5]
    exact ⟨b2, k2, rfl, N5, K5, (Nat.le_of_eq g2.symm), B5⟩
theorem ef_rmTo4 (m : MethodId) (a : Addr) : entryFrame m #[(.ref a)] 1 = mkF m 0 #[.val (.ref a)] [] := by first | (simp [entryFrame, mkF, argsToLocals, Value.category]; done) | rfl
def Q_rmTo4 (Z : State) (a : Addr) (b : Addr) (k : ClassId) (xe0 : Int32) (xe1 : Int32) (xe2 : Int32) (xe3 : Int32) (h0 : Heap) (n0 : Nat) (v_ : Option Value) (h_ : Heap) (L_ : List Loc) : Prop := ∃ d : Addr, ∃ k2 : ClassId, v_ = some (.ref d) ∧ Fr n0 L_ ∧ Keep h0 h_ [] ∧ h0.size ≤ d ∧ Arv Z h_ d k2 .byte (4 : Int32) [(.int xe0), (.int xe1), (.int xe2), (.int xe3)] (.int (0 : Int32))
set_option maxRecDepth 65536 in
set_option maxHeartbeats 40000000 in
theorem rmTo4 (l : Launch) (Z : State) (a0 : Array Value) (hw : ∀ d ∈ tables_1, d.before a0 Z = true) (ws : List Jvm.Cond) (a : Addr) (b : Addr) (k : ClassId) (xe0 : Int32) (xe1 : Int32) (xe2 : Int32) (xe3 : Int32) (h0 : Heap) (n0 : Nat) (Z0 : n0 ≤ h0.size) (u0 : Exa Z h0 a "com/example/kneiphof/kneiphof/ByteRecord") (u1 : Fld Z h0 a "com/example/kneiphof/kneiphof/ByteRecord" "bytes" "[B" (.ref b)) (u2 : Fld Z h0 a "com/example/kneiphof/kneiphof/ByteRecord" "size" "I" (.int (4 : Int32))) (u3 : Arv Z h0 b k .byte (256 : Int32) [(.int xe0), (.int xe1), (.int xe2), (.int xe3)] (.int (0 : Int32))) :
    MetFree l own_y9 (head1 (Jvm.Cond.code own_y9 prog_6_method_6_code 1 (some (.array .byte)) :: ws) ({ frames := 2, cells := 1, slots := 4, locals := 32 } : Room)) (fun a_ U_ => a_ = #[(.ref a)] ∧ Z.Warmed39 U_.vm ∧ U_.heap = h0) (fun _ _ _ _ _ => True) (fun _ U_ o_ U2_ => ∃ v_ L_, o_ = .returned v_ ∧ Q_rmTo4 Z a b k xe0 xe1 xe2 xe3 h0 n0 v_ U2_.heap L_ ∧ FrameEnd U_ o_ U2_ L_ ({ frames := 2, cells := 1, slots := 4, locals := 32 } : Room).cells ({ frames := 2, cells := 1, slots := 4, locals := 32 } : Room).slots) := by
  refine MetFree.of_bodySF (plainFor_of_name pn_3) hisR ?_
  intro p e s m args below meth c s₁ Bd hml0 hP hK
  obtain ⟨rfl, hZ, hh⟩ := hP
  have hx := Bd.exec
  have hby := Bd.bytes
  have hml : c.maxLocals = 1 := hml0
  have hown : s.vm.findClass "com/example/kneiphof/kneiphof/ByteRecord" = some m.cls := findClass_of_methodNamed Bd.named
  have hnm := (name_of_methodNamed Bd.named Bd.method).1
  have X0 : Stand p l e ({ frames := 2, cells := 1, slots := 4, locals := 32 } : Room) s m #[(.ref a)] below meth c s₁ [] 0 0 := Stand.of_body Bd
  have e0 : s₁.heap = h0 := by rw [← hh, Bd.state]; rfl
  have N0 := Fr.nil n0
  refine own_go (A := s₁.setTop (mkF m 0 #[.val (.ref a)] [])) (fun t_ k_ => castTop (ef_rmTo4 m a) k_) ?_
  refine own_go (A := s₁.setTop (mkF m 1 #[.val (.ref a)] [(.ref a)])) (fun t_ k_ => ?_) ?_
  · show Steps p.tables e below (s₁.setTop (mkF m 0 #[.val (.ref a)] [])) t_
    refine XS.aloadN X0.here hx rfl (hb hby d8_0) rfl rfl ?_
    exact k_
  obtain ⟨T1, X1, e1, st1⟩ := getF X0 hx hZ hown (host := "") (Or.inl (own_w hw 15 rfl)) Via.refl e0 u1 (g := (mkF m 1 #[.val (.ref a)] [(.ref a)])) rfl rfl (hb hby d8_1)
  refine own_go st1 ?_
  refine own_go (A := T1.setTop (mkF m 5 #[.val (.ref a)] [(.ref a), (.ref b)])) (fun t_ k_ => ?_) ?_
  · show Steps p.tables e below (T1.setTop (mkF m 4 #[.val (.ref a)] [(.ref b)])) t_
    refine XS.aloadN X1.here hx rfl (hb hby d8_4) rfl rfl ?_
    exact k_
  obtain ⟨T2, X2, e2, st2⟩ := getF X1 hx hZ hown (host := "") (Or.inl (own_w hw 54 rfl)) Via.refl e1 u2 (g := (mkF m 5 #[.val (.ref a)] [(.ref a), (.ref b)])) rfl rfl (hb hby d8_5)
  refine own_go st2 ?_
  obtain ⟨_, _, ⟨T3, L3, k3, n3⟩, -, X3, ⟨Lc3, hQ3, l3, y3, z3⟩, st3⟩ := Jvm.LawKit.callS X2 hx (y := own_y8) hown (mvT hZ (own_w hw 61 rfl)) (mvT hZ (own_w hw 62 rfl)) (mvT hZ (own_w hw 63 rfl)) (mvT hZ (own_w hw 64 rfl)) (by decide) (backOf (W := 0) (rmCopy4 l Z a0 hw [] b k xe0 xe1 xe2 xe3 h0 n0 Z0 u3) hZ (own_w hw 64 rfl) (own_w hw 63 rfl) (by decide) (by decide)) (g := (mkF m 8 #[.val (.ref a)] [(.int (4 : Int32)), (.ref b)])) rfl (by rw [hml]; rfl) (argsL := [(.ref b), (.int (4 : Int32))]) (rest := []) (lenOf pd_4 rfl) rfl (by show 2 * 0 + _ ≤ _; exact Nat.le_of_eq rfl) (hb hby d8_8) (fun _ _ => ⟨rfl, e2, (by decide : 0 + 1 ≤ _), (by decide : 0 + 4 ≤ _)⟩)
  dsimp only [Pt.U, Pt.locs, Pt.cells, Pt.slots] at X3 l3 y3 z3 st3 hQ3
  subst l3 y3 z3
  obtain ⟨d_3, k2_3, rfl, N3q, Kc3, r3_0, r3_1⟩ := hQ3
  have N3 := Fr.app N0 N3q
  refine own_go st3 ?_
  have K3 : Keep h0 T3.heap [] := (Keep.refl h0 []).trans Kc3 all0
  obtain ⟨fs4, hr4, hrun4, hended4, hW4, hsame4⟩ := X3.leave (v := some (.ref d_3)) (fun h => by rw [Bd.returns] at h; cases h)
  refine ⟨_, _, ?_, hrun4, hended4, _, _, rfl, ?_, ⟨_, rfl⟩, hW4, hsame4.mono (by decide) (by decide)⟩
  · exact own_retA X3 hx Bd.returns rfl rfl rfl (hb hby d8_11) hr4
  · show Q_rmTo4 Z a b k xe0 xe1 xe2 xe3 h0 n0 _ T3.heap _
    exact ⟨d_3, k2_3, rfl, N3, K3, r3_0, r3_1⟩
theorem d11_0 : decode prog_6_method_2_code 0 = .ok (.aload_n 0, 1) := by decide +kernel
theorem d11_1 : decode prog_6_method_2_code 1 = .ok (.getfield 24, 3) := by decide +kernel
theorem d11_4 : decode prog_6_method_2_code 4 = .ok (.ireturn, 1) := by decide +kernel
abbrev own_y10 : MethodName := ⟨"com/example/kneiphof/kneiphof/ByteRecord", "size", "()I"⟩
theorem ef_rmSize (m : MethodId) (a : Addr) : entryFrame m #[(.ref a)] 1 = mkF m 0 #[.val (.ref a)] [] := by first | (simp [entryFrame, mkF, argsToLocals, Value.category]; done) | rfl
def Q_rmSize (Z : State) (a : Addr) (w : Int32) (h0 : Heap) (n0 : Nat) (v_ : Option Value) (h_ : Heap) (L_ : List Loc) : Prop := v_ = some (.int w) ∧ Fr n0 L_ ∧ h_ = h0
set_option maxRecDepth 65536 in
set_option maxHeartbeats 40000000 in
theorem rmSize (l : Launch) (Z : State) (a0 : Array Value) (hw : ∀ d ∈ tables_1, d.before a0 Z = true) (ws : List Jvm.Cond) (a : Addr) (w : Int32) (h0 : Heap) (n0 : Nat) (Z0 : n0 ≤ h0.size) (u0 : Fld Z h0 a "com/example/kneiphof/kneiphof/ByteRecord" "size" "I" (.int w)) :
    MetFree l own_y10 (head1 (Jvm.Cond.code own_y10 prog_6_method_2_code 1 (some .int) :: ws) ({ frames := 0, cells := 0, slots := 0, locals := 0 } : Room)) (fun a_ U_ => a_ = #[(.ref a)] ∧ Z.Warmed39 U_.vm ∧ U_.heap = h0) (fun _ _ _ _ _ => True) (fun _ U_ o_ U2_ => ∃ v_ L_, o_ = .returned v_ ∧ Q_rmSize Z a w h0 n0 v_ U2_.heap L_ ∧ FrameEnd U_ o_ U2_ L_ ({ frames := 0, cells := 0, slots := 0, locals := 0 } : Room).cells ({ frames := 0, cells := 0, slots := 0, locals := 0 } : Room).slots) := by
  refine MetFree.of_bodySF (plainFor_of_name pn_3) hisR ?_
  intro p e s m args below meth c s₁ Bd hml0 hP hK
  obtain ⟨rfl, hZ, hh⟩ := hP
  have hx := Bd.exec
  have hby := Bd.bytes
  have hml : c.maxLocals = 1 := hml0
  have hown : s.vm.findClass "com/example/kneiphof/kneiphof/ByteRecord" = some m.cls := findClass_of_methodNamed Bd.named
  have hnm := (name_of_methodNamed Bd.named Bd.method).1
  have X0 : Stand p l e ({ frames := 0, cells := 0, slots := 0, locals := 0 } : Room) s m #[(.ref a)] below meth c s₁ [] 0 0 := Stand.of_body Bd
  have e0 : s₁.heap = h0 := by rw [← hh, Bd.state]; rfl
  have N0 := Fr.nil n0
  refine own_go (A := s₁.setTop (mkF m 0 #[.val (.ref a)] [])) (fun t_ k_ => castTop (ef_rmSize m a) k_) ?_
  refine own_go (A := s₁.setTop (mkF m 1 #[.val (.ref a)] [(.ref a)])) (fun t_ k_ => ?_) ?_
  · show Steps p.tables e below (s₁.setTop (mkF m 0 #[.val (.ref a)] [])) t_
    refine XS.aloadN X0.here hx rfl (hb hby d11_0) rfl rfl ?_
    exact k_
  obtain ⟨T1, X1, e1, st1⟩ := getF X0 hx hZ hown (host := "") (Or.inl (own_w hw 54 rfl)) Via.refl e0 u0 (g := (mkF m 1 #[.val (.ref a)] [(.ref a)])) rfl rfl (hb hby d11_1)
  refine own_go st1 ?_
  obtain ⟨fs2, hr2, hrun2, hended2, hW2, hsame2⟩ := X1.leave (v := some (.int w)) (fun h => by rw [Bd.returns] at h; cases h)
  refine ⟨_, _, ?_, hrun2, hended2, _, _, rfl, ?_, ⟨_, rfl⟩, hW2, hsame2.mono (by decide) (by decide)⟩
  · exact own_retI X1 hx Bd.returns (hb hby d11_4) hr2
  · show Q_rmSize Z a w h0 n0 _ T1.heap _
    rw [e1]
    exact ⟨rfl, N0, rfl⟩
theorem d13_0 : decode prog_6_method_3_code 0 = .ok (.aload_n 0, 1) := by decide +kernel
theorem d13_1 : decode prog_6_method_3_code 1 = .ok (.iconst 0, 1) := by decide +kernel
theorem d13_2 : decode prog_6_method_3_code 2 = .ok (.putfield 24, 3) := by decide +kernel
theorem d13_5 : decode prog_6_method_3_code 5 = .ok (.return_, 1) := by decide +kernel
abbrev own_y11 : MethodName := ⟨"com/example/kneiphof/kneiphof/ByteRecord", "reset", "()V"⟩
theorem ef_rmReset (m : MethodId) (a : Addr) : entryFrame m #[(.ref a)] 1 = mkF m 0 #[.val (.ref a)] [] := by first | (simp [entryFrame, mkF, argsToLocals, Value.category]; done) | rfl
def Q_rmReset (Z : State) (a : Addr) (b : Addr) (w : Int32) (h0 : Heap) (n0 : Nat) (v_ : Option Value) (h_ : Heap) (L_ : List Loc) : Prop := v_ = none ∧ Fr n0 L_ ∧ Keep h0 h_ [a] ∧ Fld Z h_ a "com/example/kneiphof/kneiphof/ByteRecord" "bytes" "[B" (.ref b) ∧ Fld Z h_ a "com/example/kneiphof/kneiphof/ByteRecord" "size" "I" (.int (0 : Int32))
set_option maxRecDepth 65536 in
set_option maxHeartbeats 40000000 in
theorem rmReset (l : Launch) (Z : State) (a0 : Array Value) (hw : ∀ d ∈ tables_1, d.before a0 Z = true) (ws : List Jvm.Cond) (a : Addr) (b : Addr) (w : Int32) (h0 : Heap) (n0 : Nat) (Z0 : n0 ≤ h0.size) (u0 : Exa Z h0 a "com/example/kneiphof/kneiphof/ByteRecord") (u1 : Fld Z h0 a "com/example/kneiphof/kneiphof/ByteRecord" "bytes" "[B" (.ref b)) (u2 : Fld Z h0 a "com/example/kneiphof/kneiphof/ByteRecord" "size" "I" (.int w)) (u3 : n0 ≤ a) :
    MetFree l own_y11 (head1 (Jvm.Cond.code own_y11 prog_6_method_3_code 1 none :: ws) ({ frames := 0, cells := 0, slots := 0, locals := 0 } : Room)) (fun a_ U_ => a_ = #[(.ref a)] ∧ Z.Warmed39 U_.vm ∧ U_.heap = h0) (fun _ _ _ _ _ => True) (fun _ U_ o_ U2_ => ∃ v_ L_, o_ = .returned v_ ∧ Q_rmReset Z a b w h0 n0 v_ U2_.heap L_ ∧ FrameEnd U_ o_ U2_ L_ ({ frames := 0, cells := 0, slots := 0, locals := 0 } : Room).cells ({ frames := 0, cells := 0, slots := 0, locals := 0 } : Room).slots) := by
  refine MetFree.of_bodySF (plainFor_of_name pn_3) hisR ?_
  intro p e s m args below meth c s₁ Bd hml0 hP hK
  obtain ⟨rfl, hZ, hh⟩ := hP
  have hx := Bd.exec
  have hby := Bd.bytes
  have hml : c.maxLocals = 1 := hml0
  have hown : s.vm.findClass "com/example/kneiphof/kneiphof/ByteRecord" = some m.cls := findClass_of_methodNamed Bd.named
  have hnm := (name_of_methodNamed Bd.named Bd.method).1
  have X0 : Stand p l e ({ frames := 0, cells := 0, slots := 0, locals := 0 } : Room) s m #[(.ref a)] below meth c s₁ [] 0 0 := Stand.of_body Bd
  have e0 : s₁.heap = h0 := by rw [← hh, Bd.state]; rfl
  have N0 := Fr.nil n0
  refine own_go (A := s₁.setTop (mkF m 0 #[.val (.ref a)] [])) (fun t_ k_ => castTop (ef_rmReset m a) k_) ?_
  refine own_go (A := s₁.setTop (mkF m 2 #[.val (.ref a)] [(.int (0 : Int32)), (.ref a)])) (fun t_ k_ => ?_) ?_
  · show Steps p.tables e below (s₁.setTop (mkF m 0 #[.val (.ref a)] [])) t_
    refine XS.aloadN X0.here hx rfl (hb hby d13_0) rfl rfl ?_
    show Steps p.tables e below (s₁.setTop (mkF m 1 #[.val (.ref a)] [(.ref a)])) t_
    refine XS.iconst X0.here hx rfl (hb hby d13_1) ?_
    exact k_
  obtain ⟨T1, h1, X1, e1, W1, st1⟩ := putF X0 hx hZ hown (host := "") (Or.inl (own_w hw 54 rfl)) Via.refl e0 u2 u0 (Or.inl (own_w hw 55 rfl)) (own_w hw 1 rfl) (ty := .int) (by decide) rfl rfl (g := (mkF m 2 #[.val (.ref a)] [(.int (0 : Int32)), (.ref a)])) rfl rfl (hb hby d13_2)
  have Fw1 : Fld Z h1 a "com/example/kneiphof/kneiphof/ByteRecord" "size" "I" (.int (0 : Int32)) := u2.same W1
  refine own_go st1 ?_
  have K1 : Keep h0 h1 [a] := (Keep.refl h0 [a]).wr W1 (Or.inl (List.mem_of_getElem? (i := 0) rfl))
  have N1 := Fr.snoc X1 N0 u3
  obtain ⟨fs2, hr2, hrun2, hended2, hW2, hsame2⟩ := X1.leave (v := none) (fun _ => rfl)
  refine ⟨_, _, ?_, hrun2, hended2, _, _, rfl, ?_, ⟨_, rfl⟩, hW2, hsame2.mono (by decide) (by decide)⟩
  · exact X1.returnOut hx Bd.returns (hb hby d13_5) hr2
  · show Q_rmReset Z a b w h0 n0 _ T1.heap _
    rw [e1]
    exact ⟨rfl, N1, K1, (u1.other W1 (Or.inr (slot_ne (Or.inl (own_w hw 16 rfl)) (Or.inl (own_w hw 55 rfl)) (by decide) (t := (.array .byte)) (t' := .int) (by decide) (by decide)))), Fw1⟩
theorem own_and3 (p : Int32) : (p &&& (3 : Int32)) = (0 : Int32) ∨ (p &&& (3 : Int32)) = (1 : Int32) ∨ (p &&& (3 : Int32)) = (2 : Int32) ∨ (p &&& (3 : Int32)) = (3 : Int32) := by
  have h1 := c_and p 3 (by decide)
  rw [show ((3 : Int32).toInt) = 3 from by decide] at h1
  have h3 : (p &&& (3 : Int32)).toInt = 0 ∨ (p &&& (3 : Int32)).toInt = 1 ∨ (p &&& (3 : Int32)).toInt = 2 ∨ (p &&& (3 : Int32)).toInt = 3 := by omega
  rcases h3 with h | h | h | h
  · exact Or.inl (Int32.toInt_inj.mp (h.trans (by decide)))
  · exact Or.inr (Or.inl (Int32.toInt_inj.mp (h.trans (by decide))))
  · exact Or.inr (Or.inr (Or.inl (Int32.toInt_inj.mp (h.trans (by decide)))))
  · exact Or.inr (Or.inr (Or.inr (Int32.toInt_inj.mp (h.trans (by decide)))))
theorem pd_5 : parseMethodDescriptor "()[B" = some ⟨[], some (.array .byte)⟩ := by decide +kernel
theorem pd_6 : parseMethodDescriptor "()I" = some ⟨[], some .int⟩ := by decide +kernel
theorem ef_rm0 (m : MethodId) (p1 : Int32) (p2 : Int32) (p3 : Int32) (p4 : Int32) : entryFrame m #[(.int p1), (.int p2), (.int p3), (.int p4)] maxLocals = mkF m 0 #[.val (.int p1), .val (.int p2), .val (.int p3), .val (.int p4), .unset, .unset, .unset, .unset, .unset, .unset, .unset] [] := by first | (simp [entryFrame, mkF, argsToLocals, Value.category, maxLocals]; done) | rfl
def Q_rm0 (Z : State) (p1 : Int32) (p2 : Int32) (p3 : Int32) (p4 : Int32) (h0 : Heap) (n0 : Nat) (v_ : Option Value) (h_ : Heap) (L_ : List Loc) : Prop := v_ = some (.int (1 : Int32)) ∧ Fr n0 L_ ∧ Keep h0 h_ []
theorem pn_5 : plainName "com/example/kneiphof/kneiphof/ByteRecordToByteArrayPinLaw" = true := by first | (simp [plainName, overriddenIn]; done) | decide +kernel
set_option maxRecDepth 65536 in
set_option maxHeartbeats 40000000 in
theorem rm0 (l : Launch) (Z : State) (a0 : Array Value) (hw : ∀ d ∈ tables_1, d.before a0 Z = true) (ws : List Jvm.Cond) (p1 : Int32) (p2 : Int32) (p3 : Int32) (p4 : Int32) (h0 : Heap) (n0 : Nat) (Z0 : n0 ≤ h0.size)  :
    MetFree l x (head1 (Jvm.Cond.code x code maxLocals ret :: ws) room_1) (fun a_ U_ => a_ = #[(.int p1), (.int p2), (.int p3), (.int p4)] ∧ Z.Warmed39 U_.vm ∧ U_.heap = h0) (fun _ _ _ _ _ => True) (fun _ U_ o_ U2_ => ∃ v_ L_, o_ = .returned v_ ∧ Q_rm0 Z p1 p2 p3 p4 h0 n0 v_ U2_.heap L_ ∧ FrameEnd U_ o_ U2_ L_ room_1.cells room_1.slots) := by
  refine MetFree.of_bodySF (plainFor_of_name pn_5) hisR ?_
  intro p e s m args below meth c s₁ Bd hml0 hP hK
  obtain ⟨rfl, hZ, hh⟩ := hP
  have hx := Bd.exec
  have hby := Bd.bytes
  have hml : c.maxLocals = 11 := hml0
  have hown : s.vm.findClass "com/example/kneiphof/kneiphof/ByteRecordToByteArrayPinLaw" = some m.cls := findClass_of_methodNamed Bd.named
  have hnm := (name_of_methodNamed Bd.named Bd.method).1
  have X0 : Stand p l e room_1 s m #[(.int p1), (.int p2), (.int p3), (.int p4)] below meth c s₁ [] 0 0 := Stand.of_body Bd
  have e0 : s₁.heap = h0 := by rw [← hh, Bd.state]; rfl
  have N0 := Fr.nil n0
  refine own_go (A := s₁.setTop (mkF m 0 #[.val (.int p1), .val (.int p2), .val (.int p3), .val (.int p4), .unset, .unset, .unset, .unset, .unset, .unset, .unset] [])) (fun t_ k_ => castTop (ef_rm0 m p1 p2 p3 p4) k_) ?_
  refine own_go (A := s₁.setTop (mkF m 3 #[.val (.int p1), .val (.int p2), .val (.int p3), .val (.int p4), .unset, .unset, .unset, .unset, .unset, .unset, .unset] [(.int (p4 &&& (3 : Int32)))])) (fun t_ k_ => ?_) ?_
  · show Steps p.tables e below (s₁.setTop (mkF m 0 #[.val (.int p1), .val (.int p2), .val (.int p3), .val (.int p4), .unset, .unset, .unset, .unset, .unset, .unset, .unset] [])) t_
    refine XS.iloadN X0.here hx rfl (hb hby at_0) rfl ?_
    show Steps p.tables e below (s₁.setTop (mkF m 1 #[.val (.int p1), .val (.int p2), .val (.int p3), .val (.int p4), .unset, .unset, .unset, .unset, .unset, .unset, .unset] [(.int p4)])) t_
    refine XS.iconst X0.here hx rfl (hb hby at_1) ?_
    show Steps p.tables e below (s₁.setTop (mkF m 2 #[.val (.int p1), .val (.int p2), .val (.int p3), .val (.int p4), .unset, .unset, .unset, .unset, .unset, .unset, .unset] [(.int (3 : Int32)), (.int p4)])) t_
    refine XS.iand X0.here hx rfl (hb hby at_2) rfl ?_
    exact k_
  rcases own_and3 p4 with hm1 | hm1 | hm1 | hm1
  · rw [hm1]
    refine own_go (A := s₁.setTop (mkF m 10 #[.val (.int p1), .val (.int p2), .val (.int p3), .val (.int p4), .val (.int (0 : Int32)), .unset, .unset, .unset, .unset, .unset, .unset] [(.int (((p4).toUInt32 >>> ((2 : Int32) &&& 31).toUInt32).toInt32 &&& (1 : Int32)))])) (fun t_ k_ => ?_) ?_
    · show Steps p.tables e below (s₁.setTop (mkF m 3 #[.val (.int p1), .val (.int p2), .val (.int p3), .val (.int p4), .unset, .unset, .unset, .unset, .unset, .unset, .unset] [(.int (0 : Int32))])) t_
      refine XS.istore X0.here hx rfl (hb hby at_3) rfl (l' := #[.val (.int p1), .val (.int p2), .val (.int p3), .val (.int p4), .val (.int (0 : Int32)), .unset, .unset, .unset, .unset, .unset, .unset]) rfl ?_
      show Steps p.tables e below (s₁.setTop (mkF m 5 #[.val (.int p1), .val (.int p2), .val (.int p3), .val (.int p4), .val (.int (0 : Int32)), .unset, .unset, .unset, .unset, .unset, .unset] [])) t_
      refine XS.iloadN X0.here hx rfl (hb hby at_5) rfl ?_
      show Steps p.tables e below (s₁.setTop (mkF m 6 #[.val (.int p1), .val (.int p2), .val (.int p3), .val (.int p4), .val (.int (0 : Int32)), .unset, .unset, .unset, .unset, .unset, .unset] [(.int p4)])) t_
      refine XS.iconst X0.here hx rfl (hb hby at_6) ?_
      show Steps p.tables e below (s₁.setTop (mkF m 7 #[.val (.int p1), .val (.int p2), .val (.int p3), .val (.int p4), .val (.int (0 : Int32)), .unset, .unset, .unset, .unset, .unset, .unset] [(.int (2 : Int32)), (.int p4)])) t_
      refine XS.iushr X0.here hx rfl (hb hby at_7) rfl ?_
      show Steps p.tables e below (s₁.setTop (mkF m 8 #[.val (.int p1), .val (.int p2), .val (.int p3), .val (.int p4), .val (.int (0 : Int32)), .unset, .unset, .unset, .unset, .unset, .unset] [(.int ((p4).toUInt32 >>> ((2 : Int32) &&& 31).toUInt32).toInt32)])) t_
      refine XS.iconst X0.here hx rfl (hb hby at_8) ?_
      show Steps p.tables e below (s₁.setTop (mkF m 9 #[.val (.int p1), .val (.int p2), .val (.int p3), .val (.int p4), .val (.int (0 : Int32)), .unset, .unset, .unset, .unset, .unset, .unset] [(.int (1 : Int32)), (.int ((p4).toUInt32 >>> ((2 : Int32) &&& 31).toUInt32).toInt32)])) t_
      refine XS.iand X0.here hx rfl (hb hby at_9) rfl ?_
      exact k_
    by_cases hc10_2 : (((p4).toUInt32 >>> ((2 : Int32) &&& 31).toUInt32).toInt32 &&& (1 : Int32)) = (0 : Int32)
    · refine own_go (A := s₁.setTop (mkF m 20 #[.val (.int p1), .val (.int p2), .val (.int p3), .val (.int p4), .val (.int (0 : Int32)), .val (.int (0 : Int32)), .unset, .unset, .unset, .unset, .unset] [])) (fun t_ k_ => ?_) ?_
      · show Steps p.tables e below (s₁.setTop (mkF m 10 #[.val (.int p1), .val (.int p2), .val (.int p3), .val (.int p4), .val (.int (0 : Int32)), .unset, .unset, .unset, .unset, .unset, .unset] [(.int (((p4).toUInt32 >>> ((2 : Int32) &&& 31).toUInt32).toInt32 &&& (1 : Int32)))])) t_
        refine XS.ifYes X0.here hx rfl (pc0 := 10) (pc' := 17) rfl (hb hby at_10) rfl ((if0 _ _).trans (teq hc10_2).1) (by decide) (by decide) ?_
        show Steps p.tables e below (s₁.setTop (mkF m 17 #[.val (.int p1), .val (.int p2), .val (.int p3), .val (.int p4), .val (.int (0 : Int32)), .unset, .unset, .unset, .unset, .unset, .unset] [])) t_
        refine XS.iconst X0.here hx rfl (hb hby at_17) ?_
        show Steps p.tables e below (s₁.setTop (mkF m 18 #[.val (.int p1), .val (.int p2), .val (.int p3), .val (.int p4), .val (.int (0 : Int32)), .unset, .unset, .unset, .unset, .unset, .unset] [(.int (0 : Int32))])) t_
        refine XS.istore X0.here hx rfl (hb hby at_18) rfl (l' := #[.val (.int p1), .val (.int p2), .val (.int p3), .val (.int p4), .val (.int (0 : Int32)), .val (.int (0 : Int32)), .unset, .unset, .unset, .unset, .unset]) rfl ?_
        exact k_
      obtain ⟨T3, h3, X3, e3, E3, A3, D3, -, st3⟩ := newO X0 hx hZ hown (own_w hw 0 rfl) (own_w hw 1 rfl) (own_w hw 2 rfl) e0 (g := (mkF m 20 #[.val (.int p1), .val (.int p2), .val (.int p3), .val (.int p4), .val (.int (0 : Int32)), .val (.int (0 : Int32)), .unset, .unset, .unset, .unset, .unset] [])) rfl (hb hby at_20) (by decide) (by decide)
      obtain ⟨b3, g3⟩ : ∃ z, z = h0.size := ⟨_, rfl⟩
      rw [← g3] at A3 D3 st3
      refine own_go st3 ?_
      have K3 : Keep h0 h3 [] := (Keep.refl h0 []).ext E3
      have F3_bytes : Fld Z h3 b3 "com/example/kneiphof/kneiphof/ByteRecord" "bytes" "[B" .null := D3 (Or.inl (own_w hw 16 rfl)) (ty := (.array .byte)) (by decide)
      have F3_text : Fld Z h3 b3 "com/example/kneiphof/kneiphof/ByteRecord" "text" "Ljava/io/DataOutputStream;" .null := D3 (Or.inr (own_w hw 44 rfl)) (ty := (.object "java/io/DataOutputStream")) (by decide)
      have F3_size : Fld Z h3 b3 "com/example/kneiphof/kneiphof/ByteRecord" "size" "I" (.int (0 : Int32)) := D3 (Or.inl (own_w hw 55 rfl)) (ty := .int) (by decide)
      refine own_go (A := T3.setTop (mkF m 24 #[.val (.int p1), .val (.int p2), .val (.int p3), .val (.int p4), .val (.int (0 : Int32)), .val (.int (0 : Int32)), .unset, .unset, .unset, .unset, .unset] [(.ref b3), (.ref b3)])) (fun t_ k_ => ?_) ?_
      · show Steps p.tables e below (T3.setTop (mkF m 23 #[.val (.int p1), .val (.int p2), .val (.int p3), .val (.int p4), .val (.int (0 : Int32)), .val (.int (0 : Int32)), .unset, .unset, .unset, .unset, .unset] [(.ref b3)])) t_
        refine XS.dup X3.here hx rfl (hb hby at_23) rfl rfl ?_
        exact k_
      obtain ⟨_, _, ⟨T4, L4, k4, n4⟩, -, X4, ⟨Lc4, hQ4, l4, y4, z4⟩, st4⟩ := X3.specialBack hx (y := own_y3) rfl hown (mvT hZ (own_w hw 3 rfl)) (mvT hZ (own_w hw 4 rfl)) (mvT hZ (own_w hw 5 rfl)) (by decide) (backOf (W := 1) (rmBR l Z a0 hw [] b3 h3 n0 (Nat.le_trans Z0 K3.1) A3 F3_bytes F3_text F3_size (Nat.le_trans Z0 (Nat.le_of_eq g3.symm))) hZ (own_w hw 5 rfl) (own_w hw 2 rfl) (by decide) (by decide)) (g := (mkF m 24 #[.val (.int p1), .val (.int p2), .val (.int p3), .val (.int p4), .val (.int (0 : Int32)), .val (.int (0 : Int32)), .unset, .unset, .unset, .unset, .unset] [(.ref b3), (.ref b3)])) rfl (by rw [hml]; rfl) (Steps.refl _) (a := b3) (argsL := []) (rest := [(.ref b3)]) (lenOf pd_0 rfl) rfl (by show 2 * 0 + _ ≤ _; exact Nat.le_of_eq rfl) (hb hby at_24) (fun _ _ => ⟨rfl, e3, (by decide : 1 + 4 ≤ _), (by decide : 3 + 270 ≤ _)⟩)
      dsimp only [Pt.U, Pt.locs, Pt.cells, Pt.slots] at X4 l4 y4 z4 st4 hQ4
      subst l4 y4 z4
      obtain ⟨b_4, k_4, rfl, N4q, Kc4, r4_0, r4_1, r4_2, r4_3⟩ := hQ4
      have N4 := Fr.app N0 N4q
      refine own_via st4 ?_
      have K4 : Keep h0 T4.heap [] := K3.trans Kc4 (allS (P := fun x => x ∈ _ ∨ _ ≤ x) (Or.inr (Nat.le_of_eq g3.symm)) all0)
      refine own_go (A := T4.setTop (mkF m 99 #[.val (.int p1), .val (.int p2), .val (.int p3), .val (.int p4), .val (.int (0 : Int32)), .val (.int (0 : Int32)), .val (.ref b3), .val (.int (0 : Int32)), .unset, .unset, .unset] [(.ref b3)])) (fun t_ k_ => ?_) ?_
      · show Steps p.tables e below (T4.setTop (mkF m 27 #[.val (.int p1), .val (.int p2), .val (.int p3), .val (.int p4), .val (.int (0 : Int32)), .val (.int (0 : Int32)), .unset, .unset, .unset, .unset, .unset] [(.ref b3)])) t_
        refine XS.astore X4.here hx rfl (hb hby at_27) rfl rfl (l' := #[.val (.int p1), .val (.int p2), .val (.int p3), .val (.int p4), .val (.int (0 : Int32)), .val (.int (0 : Int32)), .val (.ref b3), .unset, .unset, .unset, .unset]) rfl ?_
        show Steps p.tables e below (T4.setTop (mkF m 29 #[.val (.int p1), .val (.int p2), .val (.int p3), .val (.int p4), .val (.int (0 : Int32)), .val (.int (0 : Int32)), .val (.ref b3), .unset, .unset, .unset, .unset] [])) t_
        refine XS.iload X4.here hx rfl (hb hby at_29) rfl ?_
        show Steps p.tables e below (T4.setTop (mkF m 31 #[.val (.int p1), .val (.int p2), .val (.int p3), .val (.int p4), .val (.int (0 : Int32)), .val (.int (0 : Int32)), .val (.ref b3), .unset, .unset, .unset, .unset] [(.int (0 : Int32))])) t_
        refine XS.iconst X4.here hx rfl (hb hby at_31) ?_
        show Steps p.tables e below (T4.setTop (mkF m 32 #[.val (.int p1), .val (.int p2), .val (.int p3), .val (.int p4), .val (.int (0 : Int32)), .val (.int (0 : Int32)), .val (.ref b3), .unset, .unset, .unset, .unset] [(.int (1 : Int32)), (.int (0 : Int32))])) t_
        refine XS.icmpYes X4.here hx rfl (pc0 := 32) (pc' := 41) rfl (hb hby at_32) rfl (tlt (by decide : (0 : Int32) < (1 : Int32))).1 (by decide) (by decide) ?_
        show Steps p.tables e below (T4.setTop (mkF m 41 #[.val (.int p1), .val (.int p2), .val (.int p3), .val (.int p4), .val (.int (0 : Int32)), .val (.int (0 : Int32)), .val (.ref b3), .unset, .unset, .unset, .unset] [])) t_
        refine XS.iload X4.here hx rfl (hb hby at_41) rfl ?_
        show Steps p.tables e below (T4.setTop (mkF m 43 #[.val (.int p1), .val (.int p2), .val (.int p3), .val (.int p4), .val (.int (0 : Int32)), .val (.int (0 : Int32)), .val (.ref b3), .unset, .unset, .unset, .unset] [(.int (0 : Int32))])) t_
        refine XS.iconst X4.here hx rfl (hb hby at_43) ?_
        show Steps p.tables e below (T4.setTop (mkF m 44 #[.val (.int p1), .val (.int p2), .val (.int p3), .val (.int p4), .val (.int (0 : Int32)), .val (.int (0 : Int32)), .val (.ref b3), .unset, .unset, .unset, .unset] [(.int (2 : Int32)), (.int (0 : Int32))])) t_
        refine XS.icmpYes X4.here hx rfl (pc0 := 44) (pc' := 53) rfl (hb hby at_44) rfl (tlt (by decide : (0 : Int32) < (2 : Int32))).1 (by decide) (by decide) ?_
        show Steps p.tables e below (T4.setTop (mkF m 53 #[.val (.int p1), .val (.int p2), .val (.int p3), .val (.int p4), .val (.int (0 : Int32)), .val (.int (0 : Int32)), .val (.ref b3), .unset, .unset, .unset, .unset] [])) t_
        refine XS.iload X4.here hx rfl (hb hby at_53) rfl ?_
        show Steps p.tables e below (T4.setTop (mkF m 55 #[.val (.int p1), .val (.int p2), .val (.int p3), .val (.int p4), .val (.int (0 : Int32)), .val (.int (0 : Int32)), .val (.ref b3), .unset, .unset, .unset, .unset] [(.int (0 : Int32))])) t_
        refine XS.iconst X4.here hx rfl (hb hby at_55) ?_
        show Steps p.tables e below (T4.setTop (mkF m 56 #[.val (.int p1), .val (.int p2), .val (.int p3), .val (.int p4), .val (.int (0 : Int32)), .val (.int (0 : Int32)), .val (.ref b3), .unset, .unset, .unset, .unset] [(.int (3 : Int32)), (.int (0 : Int32))])) t_
        refine XS.icmpYes X4.here hx rfl (pc0 := 56) (pc' := 65) rfl (hb hby at_56) rfl (tlt (by decide : (0 : Int32) < (3 : Int32))).1 (by decide) (by decide) ?_
        show Steps p.tables e below (T4.setTop (mkF m 65 #[.val (.int p1), .val (.int p2), .val (.int p3), .val (.int p4), .val (.int (0 : Int32)), .val (.int (0 : Int32)), .val (.ref b3), .unset, .unset, .unset, .unset] [])) t_
        refine XS.iload X4.here hx rfl (hb hby at_65) rfl ?_
        show Steps p.tables e below (T4.setTop (mkF m 67 #[.val (.int p1), .val (.int p2), .val (.int p3), .val (.int p4), .val (.int (0 : Int32)), .val (.int (0 : Int32)), .val (.ref b3), .unset, .unset, .unset, .unset] [(.int (0 : Int32))])) t_
        refine XS.ifNo X4.here hx rfl (hb hby at_67) rfl ((if0 _ _).trans (teq (by decide : (0 : Int32) = (0 : Int32))).2) ?_
        show Steps p.tables e below (T4.setTop (mkF m 70 #[.val (.int p1), .val (.int p2), .val (.int p3), .val (.int p4), .val (.int (0 : Int32)), .val (.int (0 : Int32)), .val (.ref b3), .unset, .unset, .unset, .unset] [])) t_
        refine XS.iconst X4.here hx rfl (hb hby at_70) ?_
        show Steps p.tables e below (T4.setTop (mkF m 71 #[.val (.int p1), .val (.int p2), .val (.int p3), .val (.int p4), .val (.int (0 : Int32)), .val (.int (0 : Int32)), .val (.ref b3), .unset, .unset, .unset, .unset] [(.int (0 : Int32))])) t_
        refine XS.goto X4.here hx rfl (pc0 := 71) (pc' := 95) rfl (hb hby at_71) (by decide) (by decide) ?_
        show Steps p.tables e below (T4.setTop (mkF m 95 #[.val (.int p1), .val (.int p2), .val (.int p3), .val (.int p4), .val (.int (0 : Int32)), .val (.int (0 : Int32)), .val (.ref b3), .unset, .unset, .unset, .unset] [(.int (0 : Int32))])) t_
        refine XS.istore X4.here hx rfl (hb hby at_95) rfl (l' := #[.val (.int p1), .val (.int p2), .val (.int p3), .val (.int p4), .val (.int (0 : Int32)), .val (.int (0 : Int32)), .val (.ref b3), .val (.int (0 : Int32)), .unset, .unset, .unset]) rfl ?_
        show Steps p.tables e below (T4.setTop (mkF m 97 #[.val (.int p1), .val (.int p2), .val (.int p3), .val (.int p4), .val (.int (0 : Int32)), .val (.int (0 : Int32)), .val (.ref b3), .val (.int (0 : Int32)), .unset, .unset, .unset] [])) t_
        refine XS.aload X4.here hx rfl (hb hby at_97) rfl rfl ?_
        exact k_
      obtain ⟨cq5, kq5, q5a, q5b, q5c⟩ := isOf hZ rfl (A3.keep Kc4)
      obtain ⟨_, _, ⟨T5, L5, k5, n5⟩, -, X5, ⟨Lc5, hQ5, l5, y5, z5⟩, st5⟩ := X4.virtualBack hx (y := own_y9) (z := own_y9) hown (mvT hZ (own_w hw 56 rfl)) (mvT hZ (own_w hw 57 rfl)) (notFace_of_selects (args := #[]) (mvT hZ (own_w hw 59 rfl))) (mvT hZ (own_w hw 59 rfl)) (mvT hZ (own_w hw 58 rfl)) (by decide) (backOf (W := 0) (rmTo0 l Z a0 hw [] b3 b_4 k_4 (0 : Int32) (0 : Int32) (0 : Int32) (0 : Int32) T4.heap n0 (Nat.le_trans Z0 K4.1) (A3.keep Kc4) r4_1 r4_2 r4_3) hZ (own_w hw 60 rfl) (own_w hw 2 rfl) (by decide) (by decide)) q5a q5c (g := (mkF m 99 #[.val (.int p1), .val (.int p2), .val (.int p3), .val (.int p4), .val (.int (0 : Int32)), .val (.int (0 : Int32)), .val (.ref b3), .val (.int (0 : Int32)), .unset, .unset, .unset] [(.ref b3)])) rfl (by rw [hml]; rfl) (Steps.refl _) (argsL := []) (rest := []) (lenOf pd_5 rfl) rfl (by show 2 * 0 + _ ≤ _; exact Nat.le_of_eq rfl) (hb hby at_99) (fun _ _ => ⟨rfl, rfl, (by decide : 5 + 1 ≤ _), (by decide : 273 + 0 ≤ _)⟩)
      dsimp only [Pt.U, Pt.locs, Pt.cells, Pt.slots] at X5 l5 y5 z5 st5 hQ5
      subst l5 y5 z5
      obtain ⟨d_5, k2_5, rfl, N5q, Kc5, r5_0, r5_1⟩ := hQ5
      have N5 := Fr.app N4 N5q
      refine own_via st5 ?_
      have K5 : Keep h0 T5.heap [] := K4.trans Kc5 all0
      obtain ⟨cl6, Ar6, q6, S6, M6, H6, G6⟩ := id r5_1
      refine own_go (A := T5.setTop (mkF m 114 #[.val (.int p1), .val (.int p2), .val (.int p3), .val (.int p4), .val (.int (0 : Int32)), .val (.int (0 : Int32)), .val (.ref b3), .val (.int (0 : Int32)), .val (.ref d_5), .unset, .unset] [(.ref b3)])) (fun t_ k_ => ?_) ?_
      · show Steps p.tables e below (T5.setTop (mkF m 102 #[.val (.int p1), .val (.int p2), .val (.int p3), .val (.int p4), .val (.int (0 : Int32)), .val (.int (0 : Int32)), .val (.ref b3), .val (.int (0 : Int32)), .unset, .unset, .unset] [(.ref d_5)])) t_
        refine XS.astore X5.here hx rfl (hb hby at_102) rfl rfl (l' := #[.val (.int p1), .val (.int p2), .val (.int p3), .val (.int p4), .val (.int (0 : Int32)), .val (.int (0 : Int32)), .val (.ref b3), .val (.int (0 : Int32)), .val (.ref d_5), .unset, .unset]) rfl ?_
        show Steps p.tables e below (T5.setTop (mkF m 104 #[.val (.int p1), .val (.int p2), .val (.int p3), .val (.int p4), .val (.int (0 : Int32)), .val (.int (0 : Int32)), .val (.ref b3), .val (.int (0 : Int32)), .val (.ref d_5), .unset, .unset] [])) t_
        refine XS.aload X5.here hx rfl (hb hby at_104) rfl rfl ?_
        show Steps p.tables e below (T5.setTop (mkF m 106 #[.val (.int p1), .val (.int p2), .val (.int p3), .val (.int p4), .val (.int (0 : Int32)), .val (.int (0 : Int32)), .val (.ref b3), .val (.int (0 : Int32)), .val (.ref d_5), .unset, .unset] [(.ref d_5)])) t_
        refine X5.arraylength hx Ar6.1 (State.isArrayOf_alike hZ.alike Ar6.2.1) (g := (mkF m 106 #[.val (.int p1), .val (.int p2), .val (.int p3), .val (.int p4), .val (.int (0 : Int32)), .val (.int (0 : Int32)), .val (.ref b3), .val (.int (0 : Int32)), .val (.ref d_5), .unset, .unset] [(.ref d_5)])) rfl rfl (hb hby at_106) _ ?_
        rw [len_of S6 M6]
        show Steps p.tables e below (T5.setTop (mkF m 107 #[.val (.int p1), .val (.int p2), .val (.int p3), .val (.int p4), .val (.int (0 : Int32)), .val (.int (0 : Int32)), .val (.ref b3), .val (.int (0 : Int32)), .val (.ref d_5), .unset, .unset] [(.int (0 : Int32))])) t_
        refine XS.iload X5.here hx rfl (hb hby at_107) rfl ?_
        show Steps p.tables e below (T5.setTop (mkF m 109 #[.val (.int p1), .val (.int p2), .val (.int p3), .val (.int p4), .val (.int (0 : Int32)), .val (.int (0 : Int32)), .val (.ref b3), .val (.int (0 : Int32)), .val (.ref d_5), .unset, .unset] [(.int (0 : Int32)), (.int (0 : Int32))])) t_
        refine XS.icmpNo X5.here hx rfl (hb hby at_109) rfl (teq (by decide : (0 : Int32) = (0 : Int32))).2 ?_
        show Steps p.tables e below (T5.setTop (mkF m 112 #[.val (.int p1), .val (.int p2), .val (.int p3), .val (.int p4), .val (.int (0 : Int32)), .val (.int (0 : Int32)), .val (.ref b3), .val (.int (0 : Int32)), .val (.ref d_5), .unset, .unset] [])) t_
        refine XS.aload X5.here hx rfl (hb hby at_112) rfl rfl ?_
        exact k_
      obtain ⟨cq7, kq7, q7a, q7b, q7c⟩ := isOf hZ rfl ((A3.keep Kc4).keep Kc5)
      obtain ⟨_, _, ⟨T7, L7, k7, n7⟩, -, X7, ⟨Lc7, hQ7, l7, y7, z7⟩, st7⟩ := X5.virtualBack hx (y := own_y10) (z := own_y10) hown (mvT hZ (own_w hw 73 rfl)) (mvT hZ (own_w hw 74 rfl)) (notFace_of_selects (args := #[]) (mvT hZ (own_w hw 76 rfl))) (mvT hZ (own_w hw 76 rfl)) (mvT hZ (own_w hw 75 rfl)) (by decide) (backOf (W := 0) (rmSize l Z a0 hw [] b3 (0 : Int32) T5.heap n0 (Nat.le_trans Z0 K5.1) (r4_2.keep Kc5 nin0)) hZ (own_w hw 77 rfl) (own_w hw 2 rfl) (by decide) (by decide)) q7a q7c (g := (mkF m 114 #[.val (.int p1), .val (.int p2), .val (.int p3), .val (.int p4), .val (.int (0 : Int32)), .val (.int (0 : Int32)), .val (.ref b3), .val (.int (0 : Int32)), .val (.ref d_5), .unset, .unset] [(.ref b3)])) rfl (by rw [hml]; rfl) (Steps.refl _) (argsL := []) (rest := []) (lenOf pd_6 rfl) rfl (by show 2 * 0 + _ ≤ _; exact Nat.le_of_eq rfl) (hb hby at_114) (fun _ _ => ⟨rfl, rfl, (by decide : 6 + 0 ≤ _), (by decide : 273 + 0 ≤ _)⟩)
      dsimp only [Pt.U, Pt.locs, Pt.cells, Pt.slots] at X7 l7 y7 z7 st7 hQ7
      subst l7 y7 z7
      obtain ⟨rfl, N7q, eh7⟩ := hQ7
      have N7 := Fr.app N5 N7q
      refine own_via st7 ?_
      refine own_go (A := T7.setTop (mkF m 205 #[.val (.int p1), .val (.int p2), .val (.int p3), .val (.int p4), .val (.int (0 : Int32)), .val (.int (0 : Int32)), .val (.ref b3), .val (.int (0 : Int32)), .val (.ref d_5), .unset, .unset] [(.ref b3)])) (fun t_ k_ => ?_) ?_
      · show Steps p.tables e below (T7.setTop (mkF m 117 #[.val (.int p1), .val (.int p2), .val (.int p3), .val (.int p4), .val (.int (0 : Int32)), .val (.int (0 : Int32)), .val (.ref b3), .val (.int (0 : Int32)), .val (.ref d_5), .unset, .unset] [(.int (0 : Int32))])) t_
        refine XS.iload X7.here hx rfl (hb hby at_117) rfl ?_
        show Steps p.tables e below (T7.setTop (mkF m 119 #[.val (.int p1), .val (.int p2), .val (.int p3), .val (.int p4), .val (.int (0 : Int32)), .val (.int (0 : Int32)), .val (.ref b3), .val (.int (0 : Int32)), .val (.ref d_5), .unset, .unset] [(.int (0 : Int32)), (.int (0 : Int32))])) t_
        refine XS.icmpYes X7.here hx rfl (pc0 := 119) (pc' := 124) rfl (hb hby at_119) rfl (teq (by decide : (0 : Int32) = (0 : Int32))).1 (by decide) (by decide) ?_
        show Steps p.tables e below (T7.setTop (mkF m 124 #[.val (.int p1), .val (.int p2), .val (.int p3), .val (.int p4), .val (.int (0 : Int32)), .val (.int (0 : Int32)), .val (.ref b3), .val (.int (0 : Int32)), .val (.ref d_5), .unset, .unset] [])) t_
        refine XS.iload X7.here hx rfl (hb hby at_124) rfl ?_
        show Steps p.tables e below (T7.setTop (mkF m 126 #[.val (.int p1), .val (.int p2), .val (.int p3), .val (.int p4), .val (.int (0 : Int32)), .val (.int (0 : Int32)), .val (.ref b3), .val (.int (0 : Int32)), .val (.ref d_5), .unset, .unset] [(.int (0 : Int32))])) t_
        refine XS.iconst X7.here hx rfl (hb hby at_126) ?_
        show Steps p.tables e below (T7.setTop (mkF m 127 #[.val (.int p1), .val (.int p2), .val (.int p3), .val (.int p4), .val (.int (0 : Int32)), .val (.int (0 : Int32)), .val (.ref b3), .val (.int (0 : Int32)), .val (.ref d_5), .unset, .unset] [(.int (1 : Int32)), (.int (0 : Int32))])) t_
        refine XS.icmpYes X7.here hx rfl (pc0 := 127) (pc' := 141) rfl (hb hby at_127) rfl (tlt (by decide : (0 : Int32) < (1 : Int32))).1 (by decide) (by decide) ?_
        show Steps p.tables e below (T7.setTop (mkF m 141 #[.val (.int p1), .val (.int p2), .val (.int p3), .val (.int p4), .val (.int (0 : Int32)), .val (.int (0 : Int32)), .val (.ref b3), .val (.int (0 : Int32)), .val (.ref d_5), .unset, .unset] [])) t_
        refine XS.iload X7.here hx rfl (hb hby at_141) rfl ?_
        show Steps p.tables e below (T7.setTop (mkF m 143 #[.val (.int p1), .val (.int p2), .val (.int p3), .val (.int p4), .val (.int (0 : Int32)), .val (.int (0 : Int32)), .val (.ref b3), .val (.int (0 : Int32)), .val (.ref d_5), .unset, .unset] [(.int (0 : Int32))])) t_
        refine XS.iconst X7.here hx rfl (hb hby at_143) ?_
        show Steps p.tables e below (T7.setTop (mkF m 144 #[.val (.int p1), .val (.int p2), .val (.int p3), .val (.int p4), .val (.int (0 : Int32)), .val (.int (0 : Int32)), .val (.ref b3), .val (.int (0 : Int32)), .val (.ref d_5), .unset, .unset] [(.int (2 : Int32)), (.int (0 : Int32))])) t_
        refine XS.icmpYes X7.here hx rfl (pc0 := 144) (pc' := 170) rfl (hb hby at_144) rfl (tlt (by decide : (0 : Int32) < (2 : Int32))).1 (by decide) (by decide) ?_
        show Steps p.tables e below (T7.setTop (mkF m 170 #[.val (.int p1), .val (.int p2), .val (.int p3), .val (.int p4), .val (.int (0 : Int32)), .val (.int (0 : Int32)), .val (.ref b3), .val (.int (0 : Int32)), .val (.ref d_5), .unset, .unset] [])) t_
        refine XS.iload X7.here hx rfl (hb hby at_170) rfl ?_
        show Steps p.tables e below (T7.setTop (mkF m 172 #[.val (.int p1), .val (.int p2), .val (.int p3), .val (.int p4), .val (.int (0 : Int32)), .val (.int (0 : Int32)), .val (.ref b3), .val (.int (0 : Int32)), .val (.ref d_5), .unset, .unset] [(.int (0 : Int32))])) t_
        refine XS.iconst X7.here hx rfl (hb hby at_172) ?_
        show Steps p.tables e below (T7.setTop (mkF m 173 #[.val (.int p1), .val (.int p2), .val (.int p3), .val (.int p4), .val (.int (0 : Int32)), .val (.int (0 : Int32)), .val (.ref b3), .val (.int (0 : Int32)), .val (.ref d_5), .unset, .unset] [(.int (3 : Int32)), (.int (0 : Int32))])) t_
        refine XS.icmpYes X7.here hx rfl (pc0 := 173) (pc' := 187) rfl (hb hby at_173) rfl (tlt (by decide : (0 : Int32) < (3 : Int32))).1 (by decide) (by decide) ?_
        show Steps p.tables e below (T7.setTop (mkF m 187 #[.val (.int p1), .val (.int p2), .val (.int p3), .val (.int p4), .val (.int (0 : Int32)), .val (.int (0 : Int32)), .val (.ref b3), .val (.int (0 : Int32)), .val (.ref d_5), .unset, .unset] [])) t_
        refine XS.iload X7.here hx rfl (hb hby at_187) rfl ?_
        show Steps p.tables e below (T7.setTop (mkF m 189 #[.val (.int p1), .val (.int p2), .val (.int p3), .val (.int p4), .val (.int (0 : Int32)), .val (.int (0 : Int32)), .val (.ref b3), .val (.int (0 : Int32)), .val (.ref d_5), .unset, .unset] [(.int (0 : Int32))])) t_
        refine XS.ifYes X7.here hx rfl (pc0 := 189) (pc' := 203) rfl (hb hby at_189) rfl ((if0 _ _).trans (flt (by decide : ¬ ((0 : Int32) < (0 : Int32)))).2.2.2) (by decide) (by decide) ?_
        show Steps p.tables e below (T7.setTop (mkF m 203 #[.val (.int p1), .val (.int p2), .val (.int p3), .val (.int p4), .val (.int (0 : Int32)), .val (.int (0 : Int32)), .val (.ref b3), .val (.int (0 : Int32)), .val (.ref d_5), .unset, .unset] [])) t_
        refine XS.aload X7.here hx rfl (hb hby at_203) rfl rfl ?_
        exact k_
      obtain ⟨cq8, kq8, q8a, q8b, q8c⟩ := isOf hZ eh7 ((A3.keep Kc4).keep Kc5)
      obtain ⟨_, _, ⟨T8, L8, k8, n8⟩, -, X8, ⟨Lc8, hQ8, l8, y8, z8⟩, st8⟩ := X7.virtualBack hx (y := own_y9) (z := own_y9) hown (mvT hZ (own_w hw 56 rfl)) (mvT hZ (own_w hw 57 rfl)) (notFace_of_selects (args := #[]) (mvT hZ (own_w hw 59 rfl))) (mvT hZ (own_w hw 59 rfl)) (mvT hZ (own_w hw 58 rfl)) (by decide) (backOf (W := 0) (rmTo0 l Z a0 hw [] b3 b_4 k_4 (0 : Int32) (0 : Int32) (0 : Int32) (0 : Int32) T5.heap n0 (Nat.le_trans Z0 K5.1) ((A3.keep Kc4).keep Kc5) (r4_1.keep Kc5 nin0) (r4_2.keep Kc5 nin0) (r4_3.keep Kc5 nin0)) hZ (own_w hw 60 rfl) (own_w hw 2 rfl) (by decide) (by decide)) q8a q8c (g := (mkF m 205 #[.val (.int p1), .val (.int p2), .val (.int p3), .val (.int p4), .val (.int (0 : Int32)), .val (.int (0 : Int32)), .val (.ref b3), .val (.int (0 : Int32)), .val (.ref d_5), .unset, .unset] [(.ref b3)])) rfl (by rw [hml]; rfl) (Steps.refl _) (argsL := []) (rest := []) (lenOf pd_5 rfl) rfl (by show 2 * 0 + _ ≤ _; exact Nat.le_of_eq rfl) (hb hby at_205) (fun _ _ => ⟨rfl, eh7, (by decide : 6 + 1 ≤ _), (by decide : 273 + 0 ≤ _)⟩)
      dsimp only [Pt.U, Pt.locs, Pt.cells, Pt.slots] at X8 l8 y8 z8 st8 hQ8
      subst l8 y8 z8
      obtain ⟨d_8, k2_8, rfl, N8q, Kc8, r8_0, r8_1⟩ := hQ8
      have N8 := Fr.app N7 N8q
      refine own_via st8 ?_
      have K8 : Keep h0 T8.heap [] := K5.trans Kc8 all0
      obtain ⟨cl9, Ar9, q9, S9, M9, H9, G9⟩ := id r8_1
      refine own_go (A := T8.setTop (mkF m 263 #[.val (.int p1), .val (.int p2), .val (.int p3), .val (.int p4), .val (.int (0 : Int32)), .val (.int (0 : Int32)), .val (.ref b3), .val (.int (0 : Int32)), .val (.ref d_5), .val (.ref d_8), .unset] [(.int (1 : Int32))])) (fun t_ k_ => ?_) ?_
      · show Steps p.tables e below (T8.setTop (mkF m 208 #[.val (.int p1), .val (.int p2), .val (.int p3), .val (.int p4), .val (.int (0 : Int32)), .val (.int (0 : Int32)), .val (.ref b3), .val (.int (0 : Int32)), .val (.ref d_5), .unset, .unset] [(.ref d_8)])) t_
        refine XS.astore X8.here hx rfl (hb hby at_208) rfl rfl (l' := #[.val (.int p1), .val (.int p2), .val (.int p3), .val (.int p4), .val (.int (0 : Int32)), .val (.int (0 : Int32)), .val (.ref b3), .val (.int (0 : Int32)), .val (.ref d_5), .val (.ref d_8), .unset]) rfl ?_
        show Steps p.tables e below (T8.setTop (mkF m 210 #[.val (.int p1), .val (.int p2), .val (.int p3), .val (.int p4), .val (.int (0 : Int32)), .val (.int (0 : Int32)), .val (.ref b3), .val (.int (0 : Int32)), .val (.ref d_5), .val (.ref d_8), .unset] [])) t_
        refine XS.aload X8.here hx rfl (hb hby at_210) rfl rfl ?_
        show Steps p.tables e below (T8.setTop (mkF m 212 #[.val (.int p1), .val (.int p2), .val (.int p3), .val (.int p4), .val (.int (0 : Int32)), .val (.int (0 : Int32)), .val (.ref b3), .val (.int (0 : Int32)), .val (.ref d_5), .val (.ref d_8), .unset] [(.ref d_8)])) t_
        refine X8.arraylength hx Ar9.1 (State.isArrayOf_alike hZ.alike Ar9.2.1) (g := (mkF m 212 #[.val (.int p1), .val (.int p2), .val (.int p3), .val (.int p4), .val (.int (0 : Int32)), .val (.int (0 : Int32)), .val (.ref b3), .val (.int (0 : Int32)), .val (.ref d_5), .val (.ref d_8), .unset] [(.ref d_8)])) rfl rfl (hb hby at_212) _ ?_
        rw [len_of S9 M9]
        show Steps p.tables e below (T8.setTop (mkF m 213 #[.val (.int p1), .val (.int p2), .val (.int p3), .val (.int p4), .val (.int (0 : Int32)), .val (.int (0 : Int32)), .val (.ref b3), .val (.int (0 : Int32)), .val (.ref d_5), .val (.ref d_8), .unset] [(.int (0 : Int32))])) t_
        refine XS.iload X8.here hx rfl (hb hby at_213) rfl ?_
        show Steps p.tables e below (T8.setTop (mkF m 215 #[.val (.int p1), .val (.int p2), .val (.int p3), .val (.int p4), .val (.int (0 : Int32)), .val (.int (0 : Int32)), .val (.ref b3), .val (.int (0 : Int32)), .val (.ref d_5), .val (.ref d_8), .unset] [(.int (0 : Int32)), (.int (0 : Int32))])) t_
        refine XS.icmpYes X8.here hx rfl (pc0 := 215) (pc' := 220) rfl (hb hby at_215) rfl (teq (by decide : (0 : Int32) = (0 : Int32))).1 (by decide) (by decide) ?_
        show Steps p.tables e below (T8.setTop (mkF m 220 #[.val (.int p1), .val (.int p2), .val (.int p3), .val (.int p4), .val (.int (0 : Int32)), .val (.int (0 : Int32)), .val (.ref b3), .val (.int (0 : Int32)), .val (.ref d_5), .val (.ref d_8), .unset] [])) t_
        refine XS.iload X8.here hx rfl (hb hby at_220) rfl ?_
        show Steps p.tables e below (T8.setTop (mkF m 222 #[.val (.int p1), .val (.int p2), .val (.int p3), .val (.int p4), .val (.int (0 : Int32)), .val (.int (0 : Int32)), .val (.ref b3), .val (.int (0 : Int32)), .val (.ref d_5), .val (.ref d_8), .unset] [(.int (0 : Int32))])) t_
        refine XS.iconst X8.here hx rfl (hb hby at_222) ?_
        show Steps p.tables e below (T8.setTop (mkF m 223 #[.val (.int p1), .val (.int p2), .val (.int p3), .val (.int p4), .val (.int (0 : Int32)), .val (.int (0 : Int32)), .val (.ref b3), .val (.int (0 : Int32)), .val (.ref d_5), .val (.ref d_8), .unset] [(.int (1 : Int32)), (.int (0 : Int32))])) t_
        refine XS.icmpYes X8.here hx rfl (pc0 := 223) (pc' := 237) rfl (hb hby at_223) rfl (tlt (by decide : (0 : Int32) < (1 : Int32))).1 (by decide) (by decide) ?_
        show Steps p.tables e below (T8.setTop (mkF m 237 #[.val (.int p1), .val (.int p2), .val (.int p3), .val (.int p4), .val (.int (0 : Int32)), .val (.int (0 : Int32)), .val (.ref b3), .val (.int (0 : Int32)), .val (.ref d_5), .val (.ref d_8), .unset] [])) t_
        refine XS.iload X8.here hx rfl (hb hby at_237) rfl ?_
        show Steps p.tables e below (T8.setTop (mkF m 239 #[.val (.int p1), .val (.int p2), .val (.int p3), .val (.int p4), .val (.int (0 : Int32)), .val (.int (0 : Int32)), .val (.ref b3), .val (.int (0 : Int32)), .val (.ref d_5), .val (.ref d_8), .unset] [(.int (0 : Int32))])) t_
        refine XS.ifYes X8.here hx rfl (pc0 := 239) (pc' := 262) rfl (hb hby at_239) rfl ((if0 _ _).trans (teq (by decide : (0 : Int32) = (0 : Int32))).1) (by decide) (by decide) ?_
        show Steps p.tables e below (T8.setTop (mkF m 262 #[.val (.int p1), .val (.int p2), .val (.int p3), .val (.int p4), .val (.int (0 : Int32)), .val (.int (0 : Int32)), .val (.ref b3), .val (.int (0 : Int32)), .val (.ref d_5), .val (.ref d_8), .unset] [])) t_
        refine XS.iconst X8.here hx rfl (hb hby at_262) ?_
        exact k_
      obtain ⟨fs10, hr10, hrun10, hended10, hW10, hsame10⟩ := X8.leave (v := some (.int (1 : Int32))) (fun h => by rw [Bd.returns] at h; cases h)
      refine ⟨_, _, ?_, hrun10, hended10, _, _, rfl, ?_, ⟨_, rfl⟩, hW10, hsame10.mono (by decide) (by decide)⟩
      · exact retN X8 hx (t := .boolean) Bd.returns (by simp) (hb hby at_263) hr10
      · show Q_rm0 Z p1 p2 p3 p4 h0 n0 _ T8.heap _
        exact ⟨rfl, N8, K8⟩
    · refine own_go (A := s₁.setTop (mkF m 20 #[.val (.int p1), .val (.int p2), .val (.int p3), .val (.int p4), .val (.int (0 : Int32)), .val (.int (1 : Int32)), .unset, .unset, .unset, .unset, .unset] [])) (fun t_ k_ => ?_) ?_
      · show Steps p.tables e below (s₁.setTop (mkF m 10 #[.val (.int p1), .val (.int p2), .val (.int p3), .val (.int p4), .val (.int (0 : Int32)), .unset, .unset, .unset, .unset, .unset, .unset] [(.int (((p4).toUInt32 >>> ((2 : Int32) &&& 31).toUInt32).toInt32 &&& (1 : Int32)))])) t_
        refine XS.ifNo X0.here hx rfl (hb hby at_10) rfl ((if0 _ _).trans (feq hc10_2).1) ?_
        show Steps p.tables e below (s₁.setTop (mkF m 13 #[.val (.int p1), .val (.int p2), .val (.int p3), .val (.int p4), .val (.int (0 : Int32)), .unset, .unset, .unset, .unset, .unset, .unset] [])) t_
        refine XS.iconst X0.here hx rfl (hb hby at_13) ?_
        show Steps p.tables e below (s₁.setTop (mkF m 14 #[.val (.int p1), .val (.int p2), .val (.int p3), .val (.int p4), .val (.int (0 : Int32)), .unset, .unset, .unset, .unset, .unset, .unset] [(.int (1 : Int32))])) t_
        refine XS.goto X0.here hx rfl (pc0 := 14) (pc' := 18) rfl (hb hby at_14) (by decide) (by decide) ?_
        show Steps p.tables e below (s₁.setTop (mkF m 18 #[.val (.int p1), .val (.int p2), .val (.int p3), .val (.int p4), .val (.int (0 : Int32)), .unset, .unset, .unset, .unset, .unset, .unset] [(.int (1 : Int32))])) t_
        refine XS.istore X0.here hx rfl (hb hby at_18) rfl (l' := #[.val (.int p1), .val (.int p2), .val (.int p3), .val (.int p4), .val (.int (0 : Int32)), .val (.int (1 : Int32)), .unset, .unset, .unset, .unset, .unset]) rfl ?_
        exact k_
      obtain ⟨T11, h11, X11, e11, E11, A11, D11, -, st11⟩ := newO X0 hx hZ hown (own_w hw 0 rfl) (own_w hw 1 rfl) (own_w hw 2 rfl) e0 (g := (mkF m 20 #[.val (.int p1), .val (.int p2), .val (.int p3), .val (.int p4), .val (.int (0 : Int32)), .val (.int (1 : Int32)), .unset, .unset, .unset, .unset, .unset] [])) rfl (hb hby at_20) (by decide) (by decide)
      obtain ⟨b11, g11⟩ : ∃ z, z = h0.size := ⟨_, rfl⟩
      rw [← g11] at A11 D11 st11
      refine own_go st11 ?_
      have K11 : Keep h0 h11 [] := (Keep.refl h0 []).ext E11
      have F11_bytes : Fld Z h11 b11 "com/example/kneiphof/kneiphof/ByteRecord" "bytes" "[B" .null := D11 (Or.inl (own_w hw 16 rfl)) (ty := (.array .byte)) (by decide)
      have F11_text : Fld Z h11 b11 "com/example/kneiphof/kneiphof/ByteRecord" "text" "Ljava/io/DataOutputStream;" .null := D11 (Or.inr (own_w hw 44 rfl)) (ty := (.object "java/io/DataOutputStream")) (by decide)
      have F11_size : Fld Z h11 b11 "com/example/kneiphof/kneiphof/ByteRecord" "size" "I" (.int (0 : Int32)) := D11 (Or.inl (own_w hw 55 rfl)) (ty := .int) (by decide)
      refine own_go (A := T11.setTop (mkF m 24 #[.val (.int p1), .val (.int p2), .val (.int p3), .val (.int p4), .val (.int (0 : Int32)), .val (.int (1 : Int32)), .unset, .unset, .unset, .unset, .unset] [(.ref b11), (.ref b11)])) (fun t_ k_ => ?_) ?_
      · show Steps p.tables e below (T11.setTop (mkF m 23 #[.val (.int p1), .val (.int p2), .val (.int p3), .val (.int p4), .val (.int (0 : Int32)), .val (.int (1 : Int32)), .unset, .unset, .unset, .unset, .unset] [(.ref b11)])) t_
        refine XS.dup X11.here hx rfl (hb hby at_23) rfl rfl ?_
        exact k_
      obtain ⟨_, _, ⟨T12, L12, k12, n12⟩, -, X12, ⟨Lc12, hQ12, l12, y12, z12⟩, st12⟩ := X11.specialBack hx (y := own_y3) rfl hown (mvT hZ (own_w hw 3 rfl)) (mvT hZ (own_w hw 4 rfl)) (mvT hZ (own_w hw 5 rfl)) (by decide) (backOf (W := 1) (rmBR l Z a0 hw [] b11 h11 n0 (Nat.le_trans Z0 K11.1) A11 F11_bytes F11_text F11_size (Nat.le_trans Z0 (Nat.le_of_eq g11.symm))) hZ (own_w hw 5 rfl) (own_w hw 2 rfl) (by decide) (by decide)) (g := (mkF m 24 #[.val (.int p1), .val (.int p2), .val (.int p3), .val (.int p4), .val (.int (0 : Int32)), .val (.int (1 : Int32)), .unset, .unset, .unset, .unset, .unset] [(.ref b11), (.ref b11)])) rfl (by rw [hml]; rfl) (Steps.refl _) (a := b11) (argsL := []) (rest := [(.ref b11)]) (lenOf pd_0 rfl) rfl (by show 2 * 0 + _ ≤ _; exact Nat.le_of_eq rfl) (hb hby at_24) (fun _ _ => ⟨rfl, e11, (by decide : 1 + 4 ≤ _), (by decide : 3 + 270 ≤ _)⟩)
      dsimp only [Pt.U, Pt.locs, Pt.cells, Pt.slots] at X12 l12 y12 z12 st12 hQ12
      subst l12 y12 z12
      obtain ⟨b_12, k_12, rfl, N12q, Kc12, r12_0, r12_1, r12_2, r12_3⟩ := hQ12
      have N12 := Fr.app N0 N12q
      refine own_via st12 ?_
      have K12 : Keep h0 T12.heap [] := K11.trans Kc12 (allS (P := fun x => x ∈ _ ∨ _ ≤ x) (Or.inr (Nat.le_of_eq g11.symm)) all0)
      refine own_go (A := T12.setTop (mkF m 99 #[.val (.int p1), .val (.int p2), .val (.int p3), .val (.int p4), .val (.int (0 : Int32)), .val (.int (1 : Int32)), .val (.ref b11), .val (.int (0 : Int32)), .unset, .unset, .unset] [(.ref b11)])) (fun t_ k_ => ?_) ?_
      · show Steps p.tables e below (T12.setTop (mkF m 27 #[.val (.int p1), .val (.int p2), .val (.int p3), .val (.int p4), .val (.int (0 : Int32)), .val (.int (1 : Int32)), .unset, .unset, .unset, .unset, .unset] [(.ref b11)])) t_
        refine XS.astore X12.here hx rfl (hb hby at_27) rfl rfl (l' := #[.val (.int p1), .val (.int p2), .val (.int p3), .val (.int p4), .val (.int (0 : Int32)), .val (.int (1 : Int32)), .val (.ref b11), .unset, .unset, .unset, .unset]) rfl ?_
        show Steps p.tables e below (T12.setTop (mkF m 29 #[.val (.int p1), .val (.int p2), .val (.int p3), .val (.int p4), .val (.int (0 : Int32)), .val (.int (1 : Int32)), .val (.ref b11), .unset, .unset, .unset, .unset] [])) t_
        refine XS.iload X12.here hx rfl (hb hby at_29) rfl ?_
        show Steps p.tables e below (T12.setTop (mkF m 31 #[.val (.int p1), .val (.int p2), .val (.int p3), .val (.int p4), .val (.int (0 : Int32)), .val (.int (1 : Int32)), .val (.ref b11), .unset, .unset, .unset, .unset] [(.int (0 : Int32))])) t_
        refine XS.iconst X12.here hx rfl (hb hby at_31) ?_
        show Steps p.tables e below (T12.setTop (mkF m 32 #[.val (.int p1), .val (.int p2), .val (.int p3), .val (.int p4), .val (.int (0 : Int32)), .val (.int (1 : Int32)), .val (.ref b11), .unset, .unset, .unset, .unset] [(.int (1 : Int32)), (.int (0 : Int32))])) t_
        refine XS.icmpYes X12.here hx rfl (pc0 := 32) (pc' := 41) rfl (hb hby at_32) rfl (tlt (by decide : (0 : Int32) < (1 : Int32))).1 (by decide) (by decide) ?_
        show Steps p.tables e below (T12.setTop (mkF m 41 #[.val (.int p1), .val (.int p2), .val (.int p3), .val (.int p4), .val (.int (0 : Int32)), .val (.int (1 : Int32)), .val (.ref b11), .unset, .unset, .unset, .unset] [])) t_
        refine XS.iload X12.here hx rfl (hb hby at_41) rfl ?_
        show Steps p.tables e below (T12.setTop (mkF m 43 #[.val (.int p1), .val (.int p2), .val (.int p3), .val (.int p4), .val (.int (0 : Int32)), .val (.int (1 : Int32)), .val (.ref b11), .unset, .unset, .unset, .unset] [(.int (0 : Int32))])) t_
        refine XS.iconst X12.here hx rfl (hb hby at_43) ?_
        show Steps p.tables e below (T12.setTop (mkF m 44 #[.val (.int p1), .val (.int p2), .val (.int p3), .val (.int p4), .val (.int (0 : Int32)), .val (.int (1 : Int32)), .val (.ref b11), .unset, .unset, .unset, .unset] [(.int (2 : Int32)), (.int (0 : Int32))])) t_
        refine XS.icmpYes X12.here hx rfl (pc0 := 44) (pc' := 53) rfl (hb hby at_44) rfl (tlt (by decide : (0 : Int32) < (2 : Int32))).1 (by decide) (by decide) ?_
        show Steps p.tables e below (T12.setTop (mkF m 53 #[.val (.int p1), .val (.int p2), .val (.int p3), .val (.int p4), .val (.int (0 : Int32)), .val (.int (1 : Int32)), .val (.ref b11), .unset, .unset, .unset, .unset] [])) t_
        refine XS.iload X12.here hx rfl (hb hby at_53) rfl ?_
        show Steps p.tables e below (T12.setTop (mkF m 55 #[.val (.int p1), .val (.int p2), .val (.int p3), .val (.int p4), .val (.int (0 : Int32)), .val (.int (1 : Int32)), .val (.ref b11), .unset, .unset, .unset, .unset] [(.int (0 : Int32))])) t_
        refine XS.iconst X12.here hx rfl (hb hby at_55) ?_
        show Steps p.tables e below (T12.setTop (mkF m 56 #[.val (.int p1), .val (.int p2), .val (.int p3), .val (.int p4), .val (.int (0 : Int32)), .val (.int (1 : Int32)), .val (.ref b11), .unset, .unset, .unset, .unset] [(.int (3 : Int32)), (.int (0 : Int32))])) t_
        refine XS.icmpYes X12.here hx rfl (pc0 := 56) (pc' := 65) rfl (hb hby at_56) rfl (tlt (by decide : (0 : Int32) < (3 : Int32))).1 (by decide) (by decide) ?_
        show Steps p.tables e below (T12.setTop (mkF m 65 #[.val (.int p1), .val (.int p2), .val (.int p3), .val (.int p4), .val (.int (0 : Int32)), .val (.int (1 : Int32)), .val (.ref b11), .unset, .unset, .unset, .unset] [])) t_
        refine XS.iload X12.here hx rfl (hb hby at_65) rfl ?_
        show Steps p.tables e below (T12.setTop (mkF m 67 #[.val (.int p1), .val (.int p2), .val (.int p3), .val (.int p4), .val (.int (0 : Int32)), .val (.int (1 : Int32)), .val (.ref b11), .unset, .unset, .unset, .unset] [(.int (0 : Int32))])) t_
        refine XS.ifNo X12.here hx rfl (hb hby at_67) rfl ((if0 _ _).trans (teq (by decide : (0 : Int32) = (0 : Int32))).2) ?_
        show Steps p.tables e below (T12.setTop (mkF m 70 #[.val (.int p1), .val (.int p2), .val (.int p3), .val (.int p4), .val (.int (0 : Int32)), .val (.int (1 : Int32)), .val (.ref b11), .unset, .unset, .unset, .unset] [])) t_
        refine XS.iconst X12.here hx rfl (hb hby at_70) ?_
        show Steps p.tables e below (T12.setTop (mkF m 71 #[.val (.int p1), .val (.int p2), .val (.int p3), .val (.int p4), .val (.int (0 : Int32)), .val (.int (1 : Int32)), .val (.ref b11), .unset, .unset, .unset, .unset] [(.int (0 : Int32))])) t_
        refine XS.goto X12.here hx rfl (pc0 := 71) (pc' := 95) rfl (hb hby at_71) (by decide) (by decide) ?_
        show Steps p.tables e below (T12.setTop (mkF m 95 #[.val (.int p1), .val (.int p2), .val (.int p3), .val (.int p4), .val (.int (0 : Int32)), .val (.int (1 : Int32)), .val (.ref b11), .unset, .unset, .unset, .unset] [(.int (0 : Int32))])) t_
        refine XS.istore X12.here hx rfl (hb hby at_95) rfl (l' := #[.val (.int p1), .val (.int p2), .val (.int p3), .val (.int p4), .val (.int (0 : Int32)), .val (.int (1 : Int32)), .val (.ref b11), .val (.int (0 : Int32)), .unset, .unset, .unset]) rfl ?_
        show Steps p.tables e below (T12.setTop (mkF m 97 #[.val (.int p1), .val (.int p2), .val (.int p3), .val (.int p4), .val (.int (0 : Int32)), .val (.int (1 : Int32)), .val (.ref b11), .val (.int (0 : Int32)), .unset, .unset, .unset] [])) t_
        refine XS.aload X12.here hx rfl (hb hby at_97) rfl rfl ?_
        exact k_
      obtain ⟨cq13, kq13, q13a, q13b, q13c⟩ := isOf hZ rfl (A11.keep Kc12)
      obtain ⟨_, _, ⟨T13, L13, k13, n13⟩, -, X13, ⟨Lc13, hQ13, l13, y13, z13⟩, st13⟩ := X12.virtualBack hx (y := own_y9) (z := own_y9) hown (mvT hZ (own_w hw 56 rfl)) (mvT hZ (own_w hw 57 rfl)) (notFace_of_selects (args := #[]) (mvT hZ (own_w hw 59 rfl))) (mvT hZ (own_w hw 59 rfl)) (mvT hZ (own_w hw 58 rfl)) (by decide) (backOf (W := 0) (rmTo0 l Z a0 hw [] b11 b_12 k_12 (0 : Int32) (0 : Int32) (0 : Int32) (0 : Int32) T12.heap n0 (Nat.le_trans Z0 K12.1) (A11.keep Kc12) r12_1 r12_2 r12_3) hZ (own_w hw 60 rfl) (own_w hw 2 rfl) (by decide) (by decide)) q13a q13c (g := (mkF m 99 #[.val (.int p1), .val (.int p2), .val (.int p3), .val (.int p4), .val (.int (0 : Int32)), .val (.int (1 : Int32)), .val (.ref b11), .val (.int (0 : Int32)), .unset, .unset, .unset] [(.ref b11)])) rfl (by rw [hml]; rfl) (Steps.refl _) (argsL := []) (rest := []) (lenOf pd_5 rfl) rfl (by show 2 * 0 + _ ≤ _; exact Nat.le_of_eq rfl) (hb hby at_99) (fun _ _ => ⟨rfl, rfl, (by decide : 5 + 1 ≤ _), (by decide : 273 + 0 ≤ _)⟩)
      dsimp only [Pt.U, Pt.locs, Pt.cells, Pt.slots] at X13 l13 y13 z13 st13 hQ13
      subst l13 y13 z13
      obtain ⟨d_13, k2_13, rfl, N13q, Kc13, r13_0, r13_1⟩ := hQ13
      have N13 := Fr.app N12 N13q
      refine own_via st13 ?_
      have K13 : Keep h0 T13.heap [] := K12.trans Kc13 all0
      obtain ⟨cl14, Ar14, q14, S14, M14, H14, G14⟩ := id r13_1
      refine own_go (A := T13.setTop (mkF m 114 #[.val (.int p1), .val (.int p2), .val (.int p3), .val (.int p4), .val (.int (0 : Int32)), .val (.int (1 : Int32)), .val (.ref b11), .val (.int (0 : Int32)), .val (.ref d_13), .unset, .unset] [(.ref b11)])) (fun t_ k_ => ?_) ?_
      · show Steps p.tables e below (T13.setTop (mkF m 102 #[.val (.int p1), .val (.int p2), .val (.int p3), .val (.int p4), .val (.int (0 : Int32)), .val (.int (1 : Int32)), .val (.ref b11), .val (.int (0 : Int32)), .unset, .unset, .unset] [(.ref d_13)])) t_
        refine XS.astore X13.here hx rfl (hb hby at_102) rfl rfl (l' := #[.val (.int p1), .val (.int p2), .val (.int p3), .val (.int p4), .val (.int (0 : Int32)), .val (.int (1 : Int32)), .val (.ref b11), .val (.int (0 : Int32)), .val (.ref d_13), .unset, .unset]) rfl ?_
        show Steps p.tables e below (T13.setTop (mkF m 104 #[.val (.int p1), .val (.int p2), .val (.int p3), .val (.int p4), .val (.int (0 : Int32)), .val (.int (1 : Int32)), .val (.ref b11), .val (.int (0 : Int32)), .val (.ref d_13), .unset, .unset] [])) t_
        refine XS.aload X13.here hx rfl (hb hby at_104) rfl rfl ?_
        show Steps p.tables e below (T13.setTop (mkF m 106 #[.val (.int p1), .val (.int p2), .val (.int p3), .val (.int p4), .val (.int (0 : Int32)), .val (.int (1 : Int32)), .val (.ref b11), .val (.int (0 : Int32)), .val (.ref d_13), .unset, .unset] [(.ref d_13)])) t_
        refine X13.arraylength hx Ar14.1 (State.isArrayOf_alike hZ.alike Ar14.2.1) (g := (mkF m 106 #[.val (.int p1), .val (.int p2), .val (.int p3), .val (.int p4), .val (.int (0 : Int32)), .val (.int (1 : Int32)), .val (.ref b11), .val (.int (0 : Int32)), .val (.ref d_13), .unset, .unset] [(.ref d_13)])) rfl rfl (hb hby at_106) _ ?_
        rw [len_of S14 M14]
        show Steps p.tables e below (T13.setTop (mkF m 107 #[.val (.int p1), .val (.int p2), .val (.int p3), .val (.int p4), .val (.int (0 : Int32)), .val (.int (1 : Int32)), .val (.ref b11), .val (.int (0 : Int32)), .val (.ref d_13), .unset, .unset] [(.int (0 : Int32))])) t_
        refine XS.iload X13.here hx rfl (hb hby at_107) rfl ?_
        show Steps p.tables e below (T13.setTop (mkF m 109 #[.val (.int p1), .val (.int p2), .val (.int p3), .val (.int p4), .val (.int (0 : Int32)), .val (.int (1 : Int32)), .val (.ref b11), .val (.int (0 : Int32)), .val (.ref d_13), .unset, .unset] [(.int (0 : Int32)), (.int (0 : Int32))])) t_
        refine XS.icmpNo X13.here hx rfl (hb hby at_109) rfl (teq (by decide : (0 : Int32) = (0 : Int32))).2 ?_
        show Steps p.tables e below (T13.setTop (mkF m 112 #[.val (.int p1), .val (.int p2), .val (.int p3), .val (.int p4), .val (.int (0 : Int32)), .val (.int (1 : Int32)), .val (.ref b11), .val (.int (0 : Int32)), .val (.ref d_13), .unset, .unset] [])) t_
        refine XS.aload X13.here hx rfl (hb hby at_112) rfl rfl ?_
        exact k_
      obtain ⟨cq15, kq15, q15a, q15b, q15c⟩ := isOf hZ rfl ((A11.keep Kc12).keep Kc13)
      obtain ⟨_, _, ⟨T15, L15, k15, n15⟩, -, X15, ⟨Lc15, hQ15, l15, y15, z15⟩, st15⟩ := X13.virtualBack hx (y := own_y10) (z := own_y10) hown (mvT hZ (own_w hw 73 rfl)) (mvT hZ (own_w hw 74 rfl)) (notFace_of_selects (args := #[]) (mvT hZ (own_w hw 76 rfl))) (mvT hZ (own_w hw 76 rfl)) (mvT hZ (own_w hw 75 rfl)) (by decide) (backOf (W := 0) (rmSize l Z a0 hw [] b11 (0 : Int32) T13.heap n0 (Nat.le_trans Z0 K13.1) (r12_2.keep Kc13 nin0)) hZ (own_w hw 77 rfl) (own_w hw 2 rfl) (by decide) (by decide)) q15a q15c (g := (mkF m 114 #[.val (.int p1), .val (.int p2), .val (.int p3), .val (.int p4), .val (.int (0 : Int32)), .val (.int (1 : Int32)), .val (.ref b11), .val (.int (0 : Int32)), .val (.ref d_13), .unset, .unset] [(.ref b11)])) rfl (by rw [hml]; rfl) (Steps.refl _) (argsL := []) (rest := []) (lenOf pd_6 rfl) rfl (by show 2 * 0 + _ ≤ _; exact Nat.le_of_eq rfl) (hb hby at_114) (fun _ _ => ⟨rfl, rfl, (by decide : 6 + 0 ≤ _), (by decide : 273 + 0 ≤ _)⟩)
      dsimp only [Pt.U, Pt.locs, Pt.cells, Pt.slots] at X15 l15 y15 z15 st15 hQ15
      subst l15 y15 z15
      obtain ⟨rfl, N15q, eh15⟩ := hQ15
      have N15 := Fr.app N13 N15q
      refine own_via st15 ?_
      refine own_go (A := T15.setTop (mkF m 205 #[.val (.int p1), .val (.int p2), .val (.int p3), .val (.int p4), .val (.int (0 : Int32)), .val (.int (1 : Int32)), .val (.ref b11), .val (.int (0 : Int32)), .val (.ref d_13), .unset, .unset] [(.ref b11)])) (fun t_ k_ => ?_) ?_
      · show Steps p.tables e below (T15.setTop (mkF m 117 #[.val (.int p1), .val (.int p2), .val (.int p3), .val (.int p4), .val (.int (0 : Int32)), .val (.int (1 : Int32)), .val (.ref b11), .val (.int (0 : Int32)), .val (.ref d_13), .unset, .unset] [(.int (0 : Int32))])) t_
        refine XS.iload X15.here hx rfl (hb hby at_117) rfl ?_
        show Steps p.tables e below (T15.setTop (mkF m 119 #[.val (.int p1), .val (.int p2), .val (.int p3), .val (.int p4), .val (.int (0 : Int32)), .val (.int (1 : Int32)), .val (.ref b11), .val (.int (0 : Int32)), .val (.ref d_13), .unset, .unset] [(.int (0 : Int32)), (.int (0 : Int32))])) t_
        refine XS.icmpYes X15.here hx rfl (pc0 := 119) (pc' := 124) rfl (hb hby at_119) rfl (teq (by decide : (0 : Int32) = (0 : Int32))).1 (by decide) (by decide) ?_
        show Steps p.tables e below (T15.setTop (mkF m 124 #[.val (.int p1), .val (.int p2), .val (.int p3), .val (.int p4), .val (.int (0 : Int32)), .val (.int (1 : Int32)), .val (.ref b11), .val (.int (0 : Int32)), .val (.ref d_13), .unset, .unset] [])) t_
        refine XS.iload X15.here hx rfl (hb hby at_124) rfl ?_
        show Steps p.tables e below (T15.setTop (mkF m 126 #[.val (.int p1), .val (.int p2), .val (.int p3), .val (.int p4), .val (.int (0 : Int32)), .val (.int (1 : Int32)), .val (.ref b11), .val (.int (0 : Int32)), .val (.ref d_13), .unset, .unset] [(.int (0 : Int32))])) t_
        refine XS.iconst X15.here hx rfl (hb hby at_126) ?_
        show Steps p.tables e below (T15.setTop (mkF m 127 #[.val (.int p1), .val (.int p2), .val (.int p3), .val (.int p4), .val (.int (0 : Int32)), .val (.int (1 : Int32)), .val (.ref b11), .val (.int (0 : Int32)), .val (.ref d_13), .unset, .unset] [(.int (1 : Int32)), (.int (0 : Int32))])) t_
        refine XS.icmpYes X15.here hx rfl (pc0 := 127) (pc' := 141) rfl (hb hby at_127) rfl (tlt (by decide : (0 : Int32) < (1 : Int32))).1 (by decide) (by decide) ?_
        show Steps p.tables e below (T15.setTop (mkF m 141 #[.val (.int p1), .val (.int p2), .val (.int p3), .val (.int p4), .val (.int (0 : Int32)), .val (.int (1 : Int32)), .val (.ref b11), .val (.int (0 : Int32)), .val (.ref d_13), .unset, .unset] [])) t_
        refine XS.iload X15.here hx rfl (hb hby at_141) rfl ?_
        show Steps p.tables e below (T15.setTop (mkF m 143 #[.val (.int p1), .val (.int p2), .val (.int p3), .val (.int p4), .val (.int (0 : Int32)), .val (.int (1 : Int32)), .val (.ref b11), .val (.int (0 : Int32)), .val (.ref d_13), .unset, .unset] [(.int (0 : Int32))])) t_
        refine XS.iconst X15.here hx rfl (hb hby at_143) ?_
        show Steps p.tables e below (T15.setTop (mkF m 144 #[.val (.int p1), .val (.int p2), .val (.int p3), .val (.int p4), .val (.int (0 : Int32)), .val (.int (1 : Int32)), .val (.ref b11), .val (.int (0 : Int32)), .val (.ref d_13), .unset, .unset] [(.int (2 : Int32)), (.int (0 : Int32))])) t_
        refine XS.icmpYes X15.here hx rfl (pc0 := 144) (pc' := 170) rfl (hb hby at_144) rfl (tlt (by decide : (0 : Int32) < (2 : Int32))).1 (by decide) (by decide) ?_
        show Steps p.tables e below (T15.setTop (mkF m 170 #[.val (.int p1), .val (.int p2), .val (.int p3), .val (.int p4), .val (.int (0 : Int32)), .val (.int (1 : Int32)), .val (.ref b11), .val (.int (0 : Int32)), .val (.ref d_13), .unset, .unset] [])) t_
        refine XS.iload X15.here hx rfl (hb hby at_170) rfl ?_
        show Steps p.tables e below (T15.setTop (mkF m 172 #[.val (.int p1), .val (.int p2), .val (.int p3), .val (.int p4), .val (.int (0 : Int32)), .val (.int (1 : Int32)), .val (.ref b11), .val (.int (0 : Int32)), .val (.ref d_13), .unset, .unset] [(.int (0 : Int32))])) t_
        refine XS.iconst X15.here hx rfl (hb hby at_172) ?_
        show Steps p.tables e below (T15.setTop (mkF m 173 #[.val (.int p1), .val (.int p2), .val (.int p3), .val (.int p4), .val (.int (0 : Int32)), .val (.int (1 : Int32)), .val (.ref b11), .val (.int (0 : Int32)), .val (.ref d_13), .unset, .unset] [(.int (3 : Int32)), (.int (0 : Int32))])) t_
        refine XS.icmpYes X15.here hx rfl (pc0 := 173) (pc' := 187) rfl (hb hby at_173) rfl (tlt (by decide : (0 : Int32) < (3 : Int32))).1 (by decide) (by decide) ?_
        show Steps p.tables e below (T15.setTop (mkF m 187 #[.val (.int p1), .val (.int p2), .val (.int p3), .val (.int p4), .val (.int (0 : Int32)), .val (.int (1 : Int32)), .val (.ref b11), .val (.int (0 : Int32)), .val (.ref d_13), .unset, .unset] [])) t_
        refine XS.iload X15.here hx rfl (hb hby at_187) rfl ?_
        show Steps p.tables e below (T15.setTop (mkF m 189 #[.val (.int p1), .val (.int p2), .val (.int p3), .val (.int p4), .val (.int (0 : Int32)), .val (.int (1 : Int32)), .val (.ref b11), .val (.int (0 : Int32)), .val (.ref d_13), .unset, .unset] [(.int (0 : Int32))])) t_
        refine XS.ifYes X15.here hx rfl (pc0 := 189) (pc' := 203) rfl (hb hby at_189) rfl ((if0 _ _).trans (flt (by decide : ¬ ((0 : Int32) < (0 : Int32)))).2.2.2) (by decide) (by decide) ?_
        show Steps p.tables e below (T15.setTop (mkF m 203 #[.val (.int p1), .val (.int p2), .val (.int p3), .val (.int p4), .val (.int (0 : Int32)), .val (.int (1 : Int32)), .val (.ref b11), .val (.int (0 : Int32)), .val (.ref d_13), .unset, .unset] [])) t_
        refine XS.aload X15.here hx rfl (hb hby at_203) rfl rfl ?_
        exact k_
      obtain ⟨cq16, kq16, q16a, q16b, q16c⟩ := isOf hZ eh15 ((A11.keep Kc12).keep Kc13)
      obtain ⟨_, _, ⟨T16, L16, k16, n16⟩, -, X16, ⟨Lc16, hQ16, l16, y16, z16⟩, st16⟩ := X15.virtualBack hx (y := own_y9) (z := own_y9) hown (mvT hZ (own_w hw 56 rfl)) (mvT hZ (own_w hw 57 rfl)) (notFace_of_selects (args := #[]) (mvT hZ (own_w hw 59 rfl))) (mvT hZ (own_w hw 59 rfl)) (mvT hZ (own_w hw 58 rfl)) (by decide) (backOf (W := 0) (rmTo0 l Z a0 hw [] b11 b_12 k_12 (0 : Int32) (0 : Int32) (0 : Int32) (0 : Int32) T13.heap n0 (Nat.le_trans Z0 K13.1) ((A11.keep Kc12).keep Kc13) (r12_1.keep Kc13 nin0) (r12_2.keep Kc13 nin0) (r12_3.keep Kc13 nin0)) hZ (own_w hw 60 rfl) (own_w hw 2 rfl) (by decide) (by decide)) q16a q16c (g := (mkF m 205 #[.val (.int p1), .val (.int p2), .val (.int p3), .val (.int p4), .val (.int (0 : Int32)), .val (.int (1 : Int32)), .val (.ref b11), .val (.int (0 : Int32)), .val (.ref d_13), .unset, .unset] [(.ref b11)])) rfl (by rw [hml]; rfl) (Steps.refl _) (argsL := []) (rest := []) (lenOf pd_5 rfl) rfl (by show 2 * 0 + _ ≤ _; exact Nat.le_of_eq rfl) (hb hby at_205) (fun _ _ => ⟨rfl, eh15, (by decide : 6 + 1 ≤ _), (by decide : 273 + 0 ≤ _)⟩)
      dsimp only [Pt.U, Pt.locs, Pt.cells, Pt.slots] at X16 l16 y16 z16 st16 hQ16
      subst l16 y16 z16
      obtain ⟨d_16, k2_16, rfl, N16q, Kc16, r16_0, r16_1⟩ := hQ16
      have N16 := Fr.app N15 N16q
      refine own_via st16 ?_
      have K16 : Keep h0 T16.heap [] := K13.trans Kc16 all0
      obtain ⟨cl17, Ar17, q17, S17, M17, H17, G17⟩ := id r16_1
      refine own_go (A := T16.setTop (mkF m 244 #[.val (.int p1), .val (.int p2), .val (.int p3), .val (.int p4), .val (.int (0 : Int32)), .val (.int (1 : Int32)), .val (.ref b11), .val (.int (0 : Int32)), .val (.ref d_13), .val (.ref d_16), .unset] [(.ref b11)])) (fun t_ k_ => ?_) ?_
      · show Steps p.tables e below (T16.setTop (mkF m 208 #[.val (.int p1), .val (.int p2), .val (.int p3), .val (.int p4), .val (.int (0 : Int32)), .val (.int (1 : Int32)), .val (.ref b11), .val (.int (0 : Int32)), .val (.ref d_13), .unset, .unset] [(.ref d_16)])) t_
        refine XS.astore X16.here hx rfl (hb hby at_208) rfl rfl (l' := #[.val (.int p1), .val (.int p2), .val (.int p3), .val (.int p4), .val (.int (0 : Int32)), .val (.int (1 : Int32)), .val (.ref b11), .val (.int (0 : Int32)), .val (.ref d_13), .val (.ref d_16), .unset]) rfl ?_
        show Steps p.tables e below (T16.setTop (mkF m 210 #[.val (.int p1), .val (.int p2), .val (.int p3), .val (.int p4), .val (.int (0 : Int32)), .val (.int (1 : Int32)), .val (.ref b11), .val (.int (0 : Int32)), .val (.ref d_13), .val (.ref d_16), .unset] [])) t_
        refine XS.aload X16.here hx rfl (hb hby at_210) rfl rfl ?_
        show Steps p.tables e below (T16.setTop (mkF m 212 #[.val (.int p1), .val (.int p2), .val (.int p3), .val (.int p4), .val (.int (0 : Int32)), .val (.int (1 : Int32)), .val (.ref b11), .val (.int (0 : Int32)), .val (.ref d_13), .val (.ref d_16), .unset] [(.ref d_16)])) t_
        refine X16.arraylength hx Ar17.1 (State.isArrayOf_alike hZ.alike Ar17.2.1) (g := (mkF m 212 #[.val (.int p1), .val (.int p2), .val (.int p3), .val (.int p4), .val (.int (0 : Int32)), .val (.int (1 : Int32)), .val (.ref b11), .val (.int (0 : Int32)), .val (.ref d_13), .val (.ref d_16), .unset] [(.ref d_16)])) rfl rfl (hb hby at_212) _ ?_
        rw [len_of S17 M17]
        show Steps p.tables e below (T16.setTop (mkF m 213 #[.val (.int p1), .val (.int p2), .val (.int p3), .val (.int p4), .val (.int (0 : Int32)), .val (.int (1 : Int32)), .val (.ref b11), .val (.int (0 : Int32)), .val (.ref d_13), .val (.ref d_16), .unset] [(.int (0 : Int32))])) t_
        refine XS.iload X16.here hx rfl (hb hby at_213) rfl ?_
        show Steps p.tables e below (T16.setTop (mkF m 215 #[.val (.int p1), .val (.int p2), .val (.int p3), .val (.int p4), .val (.int (0 : Int32)), .val (.int (1 : Int32)), .val (.ref b11), .val (.int (0 : Int32)), .val (.ref d_13), .val (.ref d_16), .unset] [(.int (0 : Int32)), (.int (0 : Int32))])) t_
        refine XS.icmpYes X16.here hx rfl (pc0 := 215) (pc' := 220) rfl (hb hby at_215) rfl (teq (by decide : (0 : Int32) = (0 : Int32))).1 (by decide) (by decide) ?_
        show Steps p.tables e below (T16.setTop (mkF m 220 #[.val (.int p1), .val (.int p2), .val (.int p3), .val (.int p4), .val (.int (0 : Int32)), .val (.int (1 : Int32)), .val (.ref b11), .val (.int (0 : Int32)), .val (.ref d_13), .val (.ref d_16), .unset] [])) t_
        refine XS.iload X16.here hx rfl (hb hby at_220) rfl ?_
        show Steps p.tables e below (T16.setTop (mkF m 222 #[.val (.int p1), .val (.int p2), .val (.int p3), .val (.int p4), .val (.int (0 : Int32)), .val (.int (1 : Int32)), .val (.ref b11), .val (.int (0 : Int32)), .val (.ref d_13), .val (.ref d_16), .unset] [(.int (0 : Int32))])) t_
        refine XS.iconst X16.here hx rfl (hb hby at_222) ?_
        show Steps p.tables e below (T16.setTop (mkF m 223 #[.val (.int p1), .val (.int p2), .val (.int p3), .val (.int p4), .val (.int (0 : Int32)), .val (.int (1 : Int32)), .val (.ref b11), .val (.int (0 : Int32)), .val (.ref d_13), .val (.ref d_16), .unset] [(.int (1 : Int32)), (.int (0 : Int32))])) t_
        refine XS.icmpYes X16.here hx rfl (pc0 := 223) (pc' := 237) rfl (hb hby at_223) rfl (tlt (by decide : (0 : Int32) < (1 : Int32))).1 (by decide) (by decide) ?_
        show Steps p.tables e below (T16.setTop (mkF m 237 #[.val (.int p1), .val (.int p2), .val (.int p3), .val (.int p4), .val (.int (0 : Int32)), .val (.int (1 : Int32)), .val (.ref b11), .val (.int (0 : Int32)), .val (.ref d_13), .val (.ref d_16), .unset] [])) t_
        refine XS.iload X16.here hx rfl (hb hby at_237) rfl ?_
        show Steps p.tables e below (T16.setTop (mkF m 239 #[.val (.int p1), .val (.int p2), .val (.int p3), .val (.int p4), .val (.int (0 : Int32)), .val (.int (1 : Int32)), .val (.ref b11), .val (.int (0 : Int32)), .val (.ref d_13), .val (.ref d_16), .unset] [(.int (1 : Int32))])) t_
        refine XS.ifNo X16.here hx rfl (hb hby at_239) rfl ((if0 _ _).trans (feq (by decide : ¬ ((1 : Int32) = (0 : Int32)))).1) ?_
        show Steps p.tables e below (T16.setTop (mkF m 242 #[.val (.int p1), .val (.int p2), .val (.int p3), .val (.int p4), .val (.int (0 : Int32)), .val (.int (1 : Int32)), .val (.ref b11), .val (.int (0 : Int32)), .val (.ref d_13), .val (.ref d_16), .unset] [])) t_
        refine XS.aload X16.here hx rfl (hb hby at_242) rfl rfl ?_
        exact k_
      obtain ⟨cq18, kq18, q18a, q18b, q18c⟩ := isOf hZ rfl (((A11.keep Kc12).keep Kc13).keep Kc16)
      obtain ⟨_, _, ⟨T18, L18, k18, n18⟩, -, X18, ⟨Lc18, hQ18, l18, y18, z18⟩, st18⟩ := X16.virtualBack hx (y := own_y11) (z := own_y11) hown (mvT hZ (own_w hw 83 rfl)) (mvT hZ (own_w hw 84 rfl)) (notFace_of_selects (args := #[]) (mvT hZ (own_w hw 86 rfl))) (mvT hZ (own_w hw 86 rfl)) (mvT hZ (own_w hw 85 rfl)) (by decide) (backOf (W := 0) (rmReset l Z a0 hw [] b11 b_12 (0 : Int32) T16.heap n0 (Nat.le_trans Z0 K16.1) (((A11.keep Kc12).keep Kc13).keep Kc16) ((r12_1.keep Kc13 nin0).keep Kc16 nin0) ((r12_2.keep Kc13 nin0).keep Kc16 nin0) (Nat.le_trans Z0 (Nat.le_of_eq g11.symm))) hZ (own_w hw 87 rfl) (own_w hw 2 rfl) (by decide) (by decide)) q18a q18c (g := (mkF m 244 #[.val (.int p1), .val (.int p2), .val (.int p3), .val (.int p4), .val (.int (0 : Int32)), .val (.int (1 : Int32)), .val (.ref b11), .val (.int (0 : Int32)), .val (.ref d_13), .val (.ref d_16), .unset] [(.ref b11)])) rfl (by rw [hml]; rfl) (Steps.refl _) (argsL := []) (rest := []) (lenOf pd_0 rfl) rfl (by show 2 * 0 + _ ≤ _; exact Nat.le_of_eq rfl) (hb hby at_244) (fun _ _ => ⟨rfl, rfl, (by decide : 7 + 0 ≤ _), (by decide : 273 + 0 ≤ _)⟩)
      dsimp only [Pt.U, Pt.locs, Pt.cells, Pt.slots] at X18 l18 y18 z18 st18 hQ18
      subst l18 y18 z18
      obtain ⟨rfl, N18q, Kc18, r18_0, r18_1⟩ := hQ18
      have N18 := Fr.app N16 N18q
      refine own_via st18 ?_
      have K18 : Keep h0 T18.heap [] := K16.trans Kc18 (allS (P := fun x => x ∈ _ ∨ _ ≤ x) (Or.inr (Nat.le_of_eq g11.symm)) all0)
      refine own_go (A := T18.setTop (mkF m 249 #[.val (.int p1), .val (.int p2), .val (.int p3), .val (.int p4), .val (.int (0 : Int32)), .val (.int (1 : Int32)), .val (.ref b11), .val (.int (0 : Int32)), .val (.ref d_13), .val (.ref d_16), .unset] [(.ref b11)])) (fun t_ k_ => ?_) ?_
      · show Steps p.tables e below (T18.setTop (mkF m 247 #[.val (.int p1), .val (.int p2), .val (.int p3), .val (.int p4), .val (.int (0 : Int32)), .val (.int (1 : Int32)), .val (.ref b11), .val (.int (0 : Int32)), .val (.ref d_13), .val (.ref d_16), .unset] [])) t_
        refine XS.aload X18.here hx rfl (hb hby at_247) rfl rfl ?_
        exact k_
      obtain ⟨cq19, kq19, q19a, q19b, q19c⟩ := isOf hZ rfl ((((A11.keep Kc12).keep Kc13).keep Kc16).keep Kc18)
      obtain ⟨_, _, ⟨T19, L19, k19, n19⟩, -, X19, ⟨Lc19, hQ19, l19, y19, z19⟩, st19⟩ := X18.virtualBack hx (y := own_y9) (z := own_y9) hown (mvT hZ (own_w hw 56 rfl)) (mvT hZ (own_w hw 57 rfl)) (notFace_of_selects (args := #[]) (mvT hZ (own_w hw 59 rfl))) (mvT hZ (own_w hw 59 rfl)) (mvT hZ (own_w hw 58 rfl)) (by decide) (backOf (W := 0) (rmTo0 l Z a0 hw [] b11 b_12 k_12 (0 : Int32) (0 : Int32) (0 : Int32) (0 : Int32) T18.heap n0 (Nat.le_trans Z0 K18.1) ((((A11.keep Kc12).keep Kc13).keep Kc16).keep Kc18) r18_0 r18_1 (((r12_3.keep Kc13 nin0).keep Kc16 nin0).keep Kc18 (ninS (Ne.symm (Nat.ne_of_lt (Nat.lt_of_lt_of_le A11.lt r12_0))) nin0))) hZ (own_w hw 60 rfl) (own_w hw 2 rfl) (by decide) (by decide)) q19a q19c (g := (mkF m 249 #[.val (.int p1), .val (.int p2), .val (.int p3), .val (.int p4), .val (.int (0 : Int32)), .val (.int (1 : Int32)), .val (.ref b11), .val (.int (0 : Int32)), .val (.ref d_13), .val (.ref d_16), .unset] [(.ref b11)])) rfl (by rw [hml]; rfl) (Steps.refl _) (argsL := []) (rest := []) (lenOf pd_5 rfl) rfl (by show 2 * 0 + _ ≤ _; exact Nat.le_of_eq rfl) (hb hby at_249) (fun _ _ => ⟨rfl, rfl, (by decide : 7 + 1 ≤ _), (by decide : 273 + 0 ≤ _)⟩)
      dsimp only [Pt.U, Pt.locs, Pt.cells, Pt.slots] at X19 l19 y19 z19 st19 hQ19
      subst l19 y19 z19
      obtain ⟨d_19, k2_19, rfl, N19q, Kc19, r19_0, r19_1⟩ := hQ19
      have N19 := Fr.app N18 N19q
      refine own_via st19 ?_
      have K19 : Keep h0 T19.heap [] := K18.trans Kc19 all0
      obtain ⟨cl20, Ar20, q20, S20, M20, H20, G20⟩ := id r19_1
      refine own_go (A := T19.setTop (mkF m 263 #[.val (.int p1), .val (.int p2), .val (.int p3), .val (.int p4), .val (.int (0 : Int32)), .val (.int (1 : Int32)), .val (.ref b11), .val (.int (0 : Int32)), .val (.ref d_13), .val (.ref d_16), .val (.ref d_19)] [(.int (1 : Int32))])) (fun t_ k_ => ?_) ?_
      · show Steps p.tables e below (T19.setTop (mkF m 252 #[.val (.int p1), .val (.int p2), .val (.int p3), .val (.int p4), .val (.int (0 : Int32)), .val (.int (1 : Int32)), .val (.ref b11), .val (.int (0 : Int32)), .val (.ref d_13), .val (.ref d_16), .unset] [(.ref d_19)])) t_
        refine XS.astore X19.here hx rfl (hb hby at_252) rfl rfl (l' := #[.val (.int p1), .val (.int p2), .val (.int p3), .val (.int p4), .val (.int (0 : Int32)), .val (.int (1 : Int32)), .val (.ref b11), .val (.int (0 : Int32)), .val (.ref d_13), .val (.ref d_16), .val (.ref d_19)]) rfl ?_
        show Steps p.tables e below (T19.setTop (mkF m 254 #[.val (.int p1), .val (.int p2), .val (.int p3), .val (.int p4), .val (.int (0 : Int32)), .val (.int (1 : Int32)), .val (.ref b11), .val (.int (0 : Int32)), .val (.ref d_13), .val (.ref d_16), .val (.ref d_19)] [])) t_
        refine XS.aload X19.here hx rfl (hb hby at_254) rfl rfl ?_
        show Steps p.tables e below (T19.setTop (mkF m 256 #[.val (.int p1), .val (.int p2), .val (.int p3), .val (.int p4), .val (.int (0 : Int32)), .val (.int (1 : Int32)), .val (.ref b11), .val (.int (0 : Int32)), .val (.ref d_13), .val (.ref d_16), .val (.ref d_19)] [(.ref d_19)])) t_
        refine X19.arraylength hx Ar20.1 (State.isArrayOf_alike hZ.alike Ar20.2.1) (g := (mkF m 256 #[.val (.int p1), .val (.int p2), .val (.int p3), .val (.int p4), .val (.int (0 : Int32)), .val (.int (1 : Int32)), .val (.ref b11), .val (.int (0 : Int32)), .val (.ref d_13), .val (.ref d_16), .val (.ref d_19)] [(.ref d_19)])) rfl rfl (hb hby at_256) _ ?_
        rw [len_of S20 M20]
        show Steps p.tables e below (T19.setTop (mkF m 257 #[.val (.int p1), .val (.int p2), .val (.int p3), .val (.int p4), .val (.int (0 : Int32)), .val (.int (1 : Int32)), .val (.ref b11), .val (.int (0 : Int32)), .val (.ref d_13), .val (.ref d_16), .val (.ref d_19)] [(.int (0 : Int32))])) t_
        refine XS.ifYes X19.here hx rfl (pc0 := 257) (pc' := 262) rfl (hb hby at_257) rfl ((if0 _ _).trans (teq (by decide : (0 : Int32) = (0 : Int32))).1) (by decide) (by decide) ?_
        show Steps p.tables e below (T19.setTop (mkF m 262 #[.val (.int p1), .val (.int p2), .val (.int p3), .val (.int p4), .val (.int (0 : Int32)), .val (.int (1 : Int32)), .val (.ref b11), .val (.int (0 : Int32)), .val (.ref d_13), .val (.ref d_16), .val (.ref d_19)] [])) t_
        refine XS.iconst X19.here hx rfl (hb hby at_262) ?_
        exact k_
      obtain ⟨fs21, hr21, hrun21, hended21, hW21, hsame21⟩ := X19.leave (v := some (.int (1 : Int32))) (fun h => by rw [Bd.returns] at h; cases h)
      refine ⟨_, _, ?_, hrun21, hended21, _, _, rfl, ?_, ⟨_, rfl⟩, hW21, hsame21.mono (by decide) (by decide)⟩
      · exact retN X19 hx (t := .boolean) Bd.returns (by simp) (hb hby at_263) hr21
      · show Q_rm0 Z p1 p2 p3 p4 h0 n0 _ T19.heap _
        exact ⟨rfl, N19, K19⟩
  · rw [hm1]
    refine own_go (A := s₁.setTop (mkF m 10 #[.val (.int p1), .val (.int p2), .val (.int p3), .val (.int p4), .val (.int (1 : Int32)), .unset, .unset, .unset, .unset, .unset, .unset] [(.int (((p4).toUInt32 >>> ((2 : Int32) &&& 31).toUInt32).toInt32 &&& (1 : Int32)))])) (fun t_ k_ => ?_) ?_
    · show Steps p.tables e below (s₁.setTop (mkF m 3 #[.val (.int p1), .val (.int p2), .val (.int p3), .val (.int p4), .unset, .unset, .unset, .unset, .unset, .unset, .unset] [(.int (1 : Int32))])) t_
      refine XS.istore X0.here hx rfl (hb hby at_3) rfl (l' := #[.val (.int p1), .val (.int p2), .val (.int p3), .val (.int p4), .val (.int (1 : Int32)), .unset, .unset, .unset, .unset, .unset, .unset]) rfl ?_
      show Steps p.tables e below (s₁.setTop (mkF m 5 #[.val (.int p1), .val (.int p2), .val (.int p3), .val (.int p4), .val (.int (1 : Int32)), .unset, .unset, .unset, .unset, .unset, .unset] [])) t_
      refine XS.iloadN X0.here hx rfl (hb hby at_5) rfl ?_
      show Steps p.tables e below (s₁.setTop (mkF m 6 #[.val (.int p1), .val (.int p2), .val (.int p3), .val (.int p4), .val (.int (1 : Int32)), .unset, .unset, .unset, .unset, .unset, .unset] [(.int p4)])) t_
      refine XS.iconst X0.here hx rfl (hb hby at_6) ?_
      show Steps p.tables e below (s₁.setTop (mkF m 7 #[.val (.int p1), .val (.int p2), .val (.int p3), .val (.int p4), .val (.int (1 : Int32)), .unset, .unset, .unset, .unset, .unset, .unset] [(.int (2 : Int32)), (.int p4)])) t_
      refine XS.iushr X0.here hx rfl (hb hby at_7) rfl ?_
      show Steps p.tables e below (s₁.setTop (mkF m 8 #[.val (.int p1), .val (.int p2), .val (.int p3), .val (.int p4), .val (.int (1 : Int32)), .unset, .unset, .unset, .unset, .unset, .unset] [(.int ((p4).toUInt32 >>> ((2 : Int32) &&& 31).toUInt32).toInt32)])) t_
      refine XS.iconst X0.here hx rfl (hb hby at_8) ?_
      show Steps p.tables e below (s₁.setTop (mkF m 9 #[.val (.int p1), .val (.int p2), .val (.int p3), .val (.int p4), .val (.int (1 : Int32)), .unset, .unset, .unset, .unset, .unset, .unset] [(.int (1 : Int32)), (.int ((p4).toUInt32 >>> ((2 : Int32) &&& 31).toUInt32).toInt32)])) t_
      refine XS.iand X0.here hx rfl (hb hby at_9) rfl ?_
      exact k_
    by_cases hc10_22 : (((p4).toUInt32 >>> ((2 : Int32) &&& 31).toUInt32).toInt32 &&& (1 : Int32)) = (0 : Int32)
    · refine own_go (A := s₁.setTop (mkF m 20 #[.val (.int p1), .val (.int p2), .val (.int p3), .val (.int p4), .val (.int (1 : Int32)), .val (.int (0 : Int32)), .unset, .unset, .unset, .unset, .unset] [])) (fun t_ k_ => ?_) ?_
      · show Steps p.tables e below (s₁.setTop (mkF m 10 #[.val (.int p1), .val (.int p2), .val (.int p3), .val (.int p4), .val (.int (1 : Int32)), .unset, .unset, .unset, .unset, .unset, .unset] [(.int (((p4).toUInt32 >>> ((2 : Int32) &&& 31).toUInt32).toInt32 &&& (1 : Int32)))])) t_
        refine XS.ifYes X0.here hx rfl (pc0 := 10) (pc' := 17) rfl (hb hby at_10) rfl ((if0 _ _).trans (teq hc10_22).1) (by decide) (by decide) ?_
        show Steps p.tables e below (s₁.setTop (mkF m 17 #[.val (.int p1), .val (.int p2), .val (.int p3), .val (.int p4), .val (.int (1 : Int32)), .unset, .unset, .unset, .unset, .unset, .unset] [])) t_
        refine XS.iconst X0.here hx rfl (hb hby at_17) ?_
        show Steps p.tables e below (s₁.setTop (mkF m 18 #[.val (.int p1), .val (.int p2), .val (.int p3), .val (.int p4), .val (.int (1 : Int32)), .unset, .unset, .unset, .unset, .unset, .unset] [(.int (0 : Int32))])) t_
        refine XS.istore X0.here hx rfl (hb hby at_18) rfl (l' := #[.val (.int p1), .val (.int p2), .val (.int p3), .val (.int p4), .val (.int (1 : Int32)), .val (.int (0 : Int32)), .unset, .unset, .unset, .unset, .unset]) rfl ?_
        exact k_
      obtain ⟨T23, h23, X23, e23, E23, A23, D23, -, st23⟩ := newO X0 hx hZ hown (own_w hw 0 rfl) (own_w hw 1 rfl) (own_w hw 2 rfl) e0 (g := (mkF m 20 #[.val (.int p1), .val (.int p2), .val (.int p3), .val (.int p4), .val (.int (1 : Int32)), .val (.int (0 : Int32)), .unset, .unset, .unset, .unset, .unset] [])) rfl (hb hby at_20) (by decide) (by decide)
      obtain ⟨b23, g23⟩ : ∃ z, z = h0.size := ⟨_, rfl⟩
      rw [← g23] at A23 D23 st23
      refine own_go st23 ?_
      have K23 : Keep h0 h23 [] := (Keep.refl h0 []).ext E23
      have F23_bytes : Fld Z h23 b23 "com/example/kneiphof/kneiphof/ByteRecord" "bytes" "[B" .null := D23 (Or.inl (own_w hw 16 rfl)) (ty := (.array .byte)) (by decide)
      have F23_text : Fld Z h23 b23 "com/example/kneiphof/kneiphof/ByteRecord" "text" "Ljava/io/DataOutputStream;" .null := D23 (Or.inr (own_w hw 44 rfl)) (ty := (.object "java/io/DataOutputStream")) (by decide)
      have F23_size : Fld Z h23 b23 "com/example/kneiphof/kneiphof/ByteRecord" "size" "I" (.int (0 : Int32)) := D23 (Or.inl (own_w hw 55 rfl)) (ty := .int) (by decide)
      refine own_go (A := T23.setTop (mkF m 24 #[.val (.int p1), .val (.int p2), .val (.int p3), .val (.int p4), .val (.int (1 : Int32)), .val (.int (0 : Int32)), .unset, .unset, .unset, .unset, .unset] [(.ref b23), (.ref b23)])) (fun t_ k_ => ?_) ?_
      · show Steps p.tables e below (T23.setTop (mkF m 23 #[.val (.int p1), .val (.int p2), .val (.int p3), .val (.int p4), .val (.int (1 : Int32)), .val (.int (0 : Int32)), .unset, .unset, .unset, .unset, .unset] [(.ref b23)])) t_
        refine XS.dup X23.here hx rfl (hb hby at_23) rfl rfl ?_
        exact k_
      obtain ⟨_, _, ⟨T24, L24, k24, n24⟩, -, X24, ⟨Lc24, hQ24, l24, y24, z24⟩, st24⟩ := X23.specialBack hx (y := own_y3) rfl hown (mvT hZ (own_w hw 3 rfl)) (mvT hZ (own_w hw 4 rfl)) (mvT hZ (own_w hw 5 rfl)) (by decide) (backOf (W := 1) (rmBR l Z a0 hw [] b23 h23 n0 (Nat.le_trans Z0 K23.1) A23 F23_bytes F23_text F23_size (Nat.le_trans Z0 (Nat.le_of_eq g23.symm))) hZ (own_w hw 5 rfl) (own_w hw 2 rfl) (by decide) (by decide)) (g := (mkF m 24 #[.val (.int p1), .val (.int p2), .val (.int p3), .val (.int p4), .val (.int (1 : Int32)), .val (.int (0 : Int32)), .unset, .unset, .unset, .unset, .unset] [(.ref b23), (.ref b23)])) rfl (by rw [hml]; rfl) (Steps.refl _) (a := b23) (argsL := []) (rest := [(.ref b23)]) (lenOf pd_0 rfl) rfl (by show 2 * 0 + _ ≤ _; exact Nat.le_of_eq rfl) (hb hby at_24) (fun _ _ => ⟨rfl, e23, (by decide : 1 + 4 ≤ _), (by decide : 3 + 270 ≤ _)⟩)
      dsimp only [Pt.U, Pt.locs, Pt.cells, Pt.slots] at X24 l24 y24 z24 st24 hQ24
      subst l24 y24 z24
      obtain ⟨b_24, k_24, rfl, N24q, Kc24, r24_0, r24_1, r24_2, r24_3⟩ := hQ24
      have N24 := Fr.app N0 N24q
      refine own_via st24 ?_
      have K24 : Keep h0 T24.heap [] := K23.trans Kc24 (allS (P := fun x => x ∈ _ ∨ _ ≤ x) (Or.inr (Nat.le_of_eq g23.symm)) all0)
      refine own_go (A := T24.setTop (mkF m 38 #[.val (.int p1), .val (.int p2), .val (.int p3), .val (.int p4), .val (.int (1 : Int32)), .val (.int (0 : Int32)), .val (.ref b23), .unset, .unset, .unset, .unset] [(.int p1), (.ref b23)])) (fun t_ k_ => ?_) ?_
      · show Steps p.tables e below (T24.setTop (mkF m 27 #[.val (.int p1), .val (.int p2), .val (.int p3), .val (.int p4), .val (.int (1 : Int32)), .val (.int (0 : Int32)), .unset, .unset, .unset, .unset, .unset] [(.ref b23)])) t_
        refine XS.astore X24.here hx rfl (hb hby at_27) rfl rfl (l' := #[.val (.int p1), .val (.int p2), .val (.int p3), .val (.int p4), .val (.int (1 : Int32)), .val (.int (0 : Int32)), .val (.ref b23), .unset, .unset, .unset, .unset]) rfl ?_
        show Steps p.tables e below (T24.setTop (mkF m 29 #[.val (.int p1), .val (.int p2), .val (.int p3), .val (.int p4), .val (.int (1 : Int32)), .val (.int (0 : Int32)), .val (.ref b23), .unset, .unset, .unset, .unset] [])) t_
        refine XS.iload X24.here hx rfl (hb hby at_29) rfl ?_
        show Steps p.tables e below (T24.setTop (mkF m 31 #[.val (.int p1), .val (.int p2), .val (.int p3), .val (.int p4), .val (.int (1 : Int32)), .val (.int (0 : Int32)), .val (.ref b23), .unset, .unset, .unset, .unset] [(.int (1 : Int32))])) t_
        refine XS.iconst X24.here hx rfl (hb hby at_31) ?_
        show Steps p.tables e below (T24.setTop (mkF m 32 #[.val (.int p1), .val (.int p2), .val (.int p3), .val (.int p4), .val (.int (1 : Int32)), .val (.int (0 : Int32)), .val (.ref b23), .unset, .unset, .unset, .unset] [(.int (1 : Int32)), (.int (1 : Int32))])) t_
        refine XS.icmpNo X24.here hx rfl (hb hby at_32) rfl (flt (by decide : ¬ ((1 : Int32) < (1 : Int32)))).1 ?_
        show Steps p.tables e below (T24.setTop (mkF m 35 #[.val (.int p1), .val (.int p2), .val (.int p3), .val (.int p4), .val (.int (1 : Int32)), .val (.int (0 : Int32)), .val (.ref b23), .unset, .unset, .unset, .unset] [])) t_
        refine XS.aload X24.here hx rfl (hb hby at_35) rfl rfl ?_
        show Steps p.tables e below (T24.setTop (mkF m 37 #[.val (.int p1), .val (.int p2), .val (.int p3), .val (.int p4), .val (.int (1 : Int32)), .val (.int (0 : Int32)), .val (.ref b23), .unset, .unset, .unset, .unset] [(.ref b23)])) t_
        refine XS.iloadN X24.here hx rfl (hb hby at_37) rfl ?_
        exact k_
      obtain ⟨cq25, kq25, q25a, q25b, q25c⟩ := isOf hZ rfl (A23.keep Kc24)
      obtain ⟨_, _, ⟨T25, L25, k25, n25⟩, -, X25, ⟨Lc25, hQ25, l25, y25, z25⟩, st25⟩ := X24.virtualBack hx (y := own_y5) (z := own_y5) hown (mvT hZ (own_w hw 45 rfl)) (mvT hZ (own_w hw 46 rfl)) (notFace_of_selects (args := #[]) (mvT hZ (own_w hw 48 rfl))) (mvT hZ (own_w hw 48 rfl)) (mvT hZ (own_w hw 47 rfl)) (by decide) (backOf (W := 0) (rmWrite0 l Z a0 hw [] b23 p1 b_24 k_24 (0 : Int32) (0 : Int32) (0 : Int32) (0 : Int32) T24.heap n0 (Nat.le_trans Z0 K24.1) (A23.keep Kc24) r24_1 r24_2 r24_3 (Nat.le_trans Z0 (Nat.le_of_eq g23.symm)) (Nat.le_trans Z0 (Nat.le_trans K23.1 r24_0)) (Nat.ne_of_lt (Nat.lt_of_lt_of_le A23.lt r24_0))) hZ (own_w hw 49 rfl) (own_w hw 2 rfl) (by decide) (by decide)) q25a q25c (g := (mkF m 38 #[.val (.int p1), .val (.int p2), .val (.int p3), .val (.int p4), .val (.int (1 : Int32)), .val (.int (0 : Int32)), .val (.ref b23), .unset, .unset, .unset, .unset] [(.int p1), (.ref b23)])) rfl (by rw [hml]; rfl) (Steps.refl _) (argsL := [(.int p1)]) (rest := []) (lenOf pd_2 rfl) rfl (by show 2 * 0 + _ ≤ _; exact Nat.le_of_eq rfl) (hb hby at_38) (fun _ _ => ⟨rfl, rfl, (by decide : 5 + 0 ≤ _), (by decide : 273 + 0 ≤ _)⟩)
      dsimp only [Pt.U, Pt.locs, Pt.cells, Pt.slots] at X25 l25 y25 z25 st25 hQ25
      subst l25 y25 z25
      obtain ⟨rfl, N25q, Kc25, r25_0, r25_1, r25_2⟩ := hQ25
      have N25 := Fr.app N24 N25q
      refine own_via st25 ?_
      have K25 : Keep h0 T25.heap [] := K24.trans Kc25 (allS (P := fun x => x ∈ _ ∨ _ ≤ x) (Or.inr (Nat.le_of_eq g23.symm)) (allS (P := fun x => x ∈ _ ∨ _ ≤ x) (Or.inr (Nat.le_trans K23.1 r24_0)) all0))
      refine own_go (A := T25.setTop (mkF m 99 #[.val (.int p1), .val (.int p2), .val (.int p3), .val (.int p4), .val (.int (1 : Int32)), .val (.int (0 : Int32)), .val (.ref b23), .val (.int (1 : Int32)), .unset, .unset, .unset] [(.ref b23)])) (fun t_ k_ => ?_) ?_
      · show Steps p.tables e below (T25.setTop (mkF m 41 #[.val (.int p1), .val (.int p2), .val (.int p3), .val (.int p4), .val (.int (1 : Int32)), .val (.int (0 : Int32)), .val (.ref b23), .unset, .unset, .unset, .unset] [])) t_
        refine XS.iload X25.here hx rfl (hb hby at_41) rfl ?_
        show Steps p.tables e below (T25.setTop (mkF m 43 #[.val (.int p1), .val (.int p2), .val (.int p3), .val (.int p4), .val (.int (1 : Int32)), .val (.int (0 : Int32)), .val (.ref b23), .unset, .unset, .unset, .unset] [(.int (1 : Int32))])) t_
        refine XS.iconst X25.here hx rfl (hb hby at_43) ?_
        show Steps p.tables e below (T25.setTop (mkF m 44 #[.val (.int p1), .val (.int p2), .val (.int p3), .val (.int p4), .val (.int (1 : Int32)), .val (.int (0 : Int32)), .val (.ref b23), .unset, .unset, .unset, .unset] [(.int (2 : Int32)), (.int (1 : Int32))])) t_
        refine XS.icmpYes X25.here hx rfl (pc0 := 44) (pc' := 53) rfl (hb hby at_44) rfl (tlt (by decide : (1 : Int32) < (2 : Int32))).1 (by decide) (by decide) ?_
        show Steps p.tables e below (T25.setTop (mkF m 53 #[.val (.int p1), .val (.int p2), .val (.int p3), .val (.int p4), .val (.int (1 : Int32)), .val (.int (0 : Int32)), .val (.ref b23), .unset, .unset, .unset, .unset] [])) t_
        refine XS.iload X25.here hx rfl (hb hby at_53) rfl ?_
        show Steps p.tables e below (T25.setTop (mkF m 55 #[.val (.int p1), .val (.int p2), .val (.int p3), .val (.int p4), .val (.int (1 : Int32)), .val (.int (0 : Int32)), .val (.ref b23), .unset, .unset, .unset, .unset] [(.int (1 : Int32))])) t_
        refine XS.iconst X25.here hx rfl (hb hby at_55) ?_
        show Steps p.tables e below (T25.setTop (mkF m 56 #[.val (.int p1), .val (.int p2), .val (.int p3), .val (.int p4), .val (.int (1 : Int32)), .val (.int (0 : Int32)), .val (.ref b23), .unset, .unset, .unset, .unset] [(.int (3 : Int32)), (.int (1 : Int32))])) t_
        refine XS.icmpYes X25.here hx rfl (pc0 := 56) (pc' := 65) rfl (hb hby at_56) rfl (tlt (by decide : (1 : Int32) < (3 : Int32))).1 (by decide) (by decide) ?_
        show Steps p.tables e below (T25.setTop (mkF m 65 #[.val (.int p1), .val (.int p2), .val (.int p3), .val (.int p4), .val (.int (1 : Int32)), .val (.int (0 : Int32)), .val (.ref b23), .unset, .unset, .unset, .unset] [])) t_
        refine XS.iload X25.here hx rfl (hb hby at_65) rfl ?_
        show Steps p.tables e below (T25.setTop (mkF m 67 #[.val (.int p1), .val (.int p2), .val (.int p3), .val (.int p4), .val (.int (1 : Int32)), .val (.int (0 : Int32)), .val (.ref b23), .unset, .unset, .unset, .unset] [(.int (1 : Int32))])) t_
        refine XS.ifYes X25.here hx rfl (pc0 := 67) (pc' := 74) rfl (hb hby at_67) rfl ((if0 _ _).trans (feq (by decide : ¬ ((1 : Int32) = (0 : Int32)))).2) (by decide) (by decide) ?_
        show Steps p.tables e below (T25.setTop (mkF m 74 #[.val (.int p1), .val (.int p2), .val (.int p3), .val (.int p4), .val (.int (1 : Int32)), .val (.int (0 : Int32)), .val (.ref b23), .unset, .unset, .unset, .unset] [])) t_
        refine XS.iload X25.here hx rfl (hb hby at_74) rfl ?_
        show Steps p.tables e below (T25.setTop (mkF m 76 #[.val (.int p1), .val (.int p2), .val (.int p3), .val (.int p4), .val (.int (1 : Int32)), .val (.int (0 : Int32)), .val (.ref b23), .unset, .unset, .unset, .unset] [(.int (1 : Int32))])) t_
        refine XS.iconst X25.here hx rfl (hb hby at_76) ?_
        show Steps p.tables e below (T25.setTop (mkF m 77 #[.val (.int p1), .val (.int p2), .val (.int p3), .val (.int p4), .val (.int (1 : Int32)), .val (.int (0 : Int32)), .val (.ref b23), .unset, .unset, .unset, .unset] [(.int (1 : Int32)), (.int (1 : Int32))])) t_
        refine XS.icmpNo X25.here hx rfl (hb hby at_77) rfl (teq (by decide : (1 : Int32) = (1 : Int32))).2 ?_
        show Steps p.tables e below (T25.setTop (mkF m 80 #[.val (.int p1), .val (.int p2), .val (.int p3), .val (.int p4), .val (.int (1 : Int32)), .val (.int (0 : Int32)), .val (.ref b23), .unset, .unset, .unset, .unset] [])) t_
        refine XS.iconst X25.here hx rfl (hb hby at_80) ?_
        show Steps p.tables e below (T25.setTop (mkF m 81 #[.val (.int p1), .val (.int p2), .val (.int p3), .val (.int p4), .val (.int (1 : Int32)), .val (.int (0 : Int32)), .val (.ref b23), .unset, .unset, .unset, .unset] [(.int (1 : Int32))])) t_
        refine XS.goto X25.here hx rfl (pc0 := 81) (pc' := 95) rfl (hb hby at_81) (by decide) (by decide) ?_
        show Steps p.tables e below (T25.setTop (mkF m 95 #[.val (.int p1), .val (.int p2), .val (.int p3), .val (.int p4), .val (.int (1 : Int32)), .val (.int (0 : Int32)), .val (.ref b23), .unset, .unset, .unset, .unset] [(.int (1 : Int32))])) t_
        refine XS.istore X25.here hx rfl (hb hby at_95) rfl (l' := #[.val (.int p1), .val (.int p2), .val (.int p3), .val (.int p4), .val (.int (1 : Int32)), .val (.int (0 : Int32)), .val (.ref b23), .val (.int (1 : Int32)), .unset, .unset, .unset]) rfl ?_
        show Steps p.tables e below (T25.setTop (mkF m 97 #[.val (.int p1), .val (.int p2), .val (.int p3), .val (.int p4), .val (.int (1 : Int32)), .val (.int (0 : Int32)), .val (.ref b23), .val (.int (1 : Int32)), .unset, .unset, .unset] [])) t_
        refine XS.aload X25.here hx rfl (hb hby at_97) rfl rfl ?_
        exact k_
      obtain ⟨cq26, kq26, q26a, q26b, q26c⟩ := isOf hZ rfl ((A23.keep Kc24).keep Kc25)
      obtain ⟨_, _, ⟨T26, L26, k26, n26⟩, -, X26, ⟨Lc26, hQ26, l26, y26, z26⟩, st26⟩ := X25.virtualBack hx (y := own_y9) (z := own_y9) hown (mvT hZ (own_w hw 56 rfl)) (mvT hZ (own_w hw 57 rfl)) (notFace_of_selects (args := #[]) (mvT hZ (own_w hw 59 rfl))) (mvT hZ (own_w hw 59 rfl)) (mvT hZ (own_w hw 58 rfl)) (by decide) (backOf (W := 0) (rmTo1 l Z a0 hw [] b23 b_24 k_24 ((p1).toInt8.toInt32) (0 : Int32) (0 : Int32) (0 : Int32) T25.heap n0 (Nat.le_trans Z0 K25.1) ((A23.keep Kc24).keep Kc25) r25_0 r25_1 r25_2) hZ (own_w hw 60 rfl) (own_w hw 2 rfl) (by decide) (by decide)) q26a q26c (g := (mkF m 99 #[.val (.int p1), .val (.int p2), .val (.int p3), .val (.int p4), .val (.int (1 : Int32)), .val (.int (0 : Int32)), .val (.ref b23), .val (.int (1 : Int32)), .unset, .unset, .unset] [(.ref b23)])) rfl (by rw [hml]; rfl) (Steps.refl _) (argsL := []) (rest := []) (lenOf pd_5 rfl) rfl (by show 2 * 0 + _ ≤ _; exact Nat.le_of_eq rfl) (hb hby at_99) (fun _ _ => ⟨rfl, rfl, (by decide : 5 + 1 ≤ _), (by decide : 273 + 1 ≤ _)⟩)
      dsimp only [Pt.U, Pt.locs, Pt.cells, Pt.slots] at X26 l26 y26 z26 st26 hQ26
      subst l26 y26 z26
      obtain ⟨d_26, k2_26, rfl, N26q, Kc26, r26_0, r26_1⟩ := hQ26
      have N26 := Fr.app N25 N26q
      refine own_via st26 ?_
      have K26 : Keep h0 T26.heap [] := K25.trans Kc26 all0
      obtain ⟨cl27, Ar27, q27, S27, M27, H27, G27⟩ := id r26_1
      refine own_go (A := T26.setTop (mkF m 114 #[.val (.int p1), .val (.int p2), .val (.int p3), .val (.int p4), .val (.int (1 : Int32)), .val (.int (0 : Int32)), .val (.ref b23), .val (.int (1 : Int32)), .val (.ref d_26), .unset, .unset] [(.ref b23)])) (fun t_ k_ => ?_) ?_
      · show Steps p.tables e below (T26.setTop (mkF m 102 #[.val (.int p1), .val (.int p2), .val (.int p3), .val (.int p4), .val (.int (1 : Int32)), .val (.int (0 : Int32)), .val (.ref b23), .val (.int (1 : Int32)), .unset, .unset, .unset] [(.ref d_26)])) t_
        refine XS.astore X26.here hx rfl (hb hby at_102) rfl rfl (l' := #[.val (.int p1), .val (.int p2), .val (.int p3), .val (.int p4), .val (.int (1 : Int32)), .val (.int (0 : Int32)), .val (.ref b23), .val (.int (1 : Int32)), .val (.ref d_26), .unset, .unset]) rfl ?_
        show Steps p.tables e below (T26.setTop (mkF m 104 #[.val (.int p1), .val (.int p2), .val (.int p3), .val (.int p4), .val (.int (1 : Int32)), .val (.int (0 : Int32)), .val (.ref b23), .val (.int (1 : Int32)), .val (.ref d_26), .unset, .unset] [])) t_
        refine XS.aload X26.here hx rfl (hb hby at_104) rfl rfl ?_
        show Steps p.tables e below (T26.setTop (mkF m 106 #[.val (.int p1), .val (.int p2), .val (.int p3), .val (.int p4), .val (.int (1 : Int32)), .val (.int (0 : Int32)), .val (.ref b23), .val (.int (1 : Int32)), .val (.ref d_26), .unset, .unset] [(.ref d_26)])) t_
        refine X26.arraylength hx Ar27.1 (State.isArrayOf_alike hZ.alike Ar27.2.1) (g := (mkF m 106 #[.val (.int p1), .val (.int p2), .val (.int p3), .val (.int p4), .val (.int (1 : Int32)), .val (.int (0 : Int32)), .val (.ref b23), .val (.int (1 : Int32)), .val (.ref d_26), .unset, .unset] [(.ref d_26)])) rfl rfl (hb hby at_106) _ ?_
        rw [len_of S27 M27]
        show Steps p.tables e below (T26.setTop (mkF m 107 #[.val (.int p1), .val (.int p2), .val (.int p3), .val (.int p4), .val (.int (1 : Int32)), .val (.int (0 : Int32)), .val (.ref b23), .val (.int (1 : Int32)), .val (.ref d_26), .unset, .unset] [(.int (1 : Int32))])) t_
        refine XS.iload X26.here hx rfl (hb hby at_107) rfl ?_
        show Steps p.tables e below (T26.setTop (mkF m 109 #[.val (.int p1), .val (.int p2), .val (.int p3), .val (.int p4), .val (.int (1 : Int32)), .val (.int (0 : Int32)), .val (.ref b23), .val (.int (1 : Int32)), .val (.ref d_26), .unset, .unset] [(.int (1 : Int32)), (.int (1 : Int32))])) t_
        refine XS.icmpNo X26.here hx rfl (hb hby at_109) rfl (teq (by decide : (1 : Int32) = (1 : Int32))).2 ?_
        show Steps p.tables e below (T26.setTop (mkF m 112 #[.val (.int p1), .val (.int p2), .val (.int p3), .val (.int p4), .val (.int (1 : Int32)), .val (.int (0 : Int32)), .val (.ref b23), .val (.int (1 : Int32)), .val (.ref d_26), .unset, .unset] [])) t_
        refine XS.aload X26.here hx rfl (hb hby at_112) rfl rfl ?_
        exact k_
      obtain ⟨cq28, kq28, q28a, q28b, q28c⟩ := isOf hZ rfl (((A23.keep Kc24).keep Kc25).keep Kc26)
      obtain ⟨_, _, ⟨T28, L28, k28, n28⟩, -, X28, ⟨Lc28, hQ28, l28, y28, z28⟩, st28⟩ := X26.virtualBack hx (y := own_y10) (z := own_y10) hown (mvT hZ (own_w hw 73 rfl)) (mvT hZ (own_w hw 74 rfl)) (notFace_of_selects (args := #[]) (mvT hZ (own_w hw 76 rfl))) (mvT hZ (own_w hw 76 rfl)) (mvT hZ (own_w hw 75 rfl)) (by decide) (backOf (W := 0) (rmSize l Z a0 hw [] b23 (1 : Int32) T26.heap n0 (Nat.le_trans Z0 K26.1) (r25_1.keep Kc26 nin0)) hZ (own_w hw 77 rfl) (own_w hw 2 rfl) (by decide) (by decide)) q28a q28c (g := (mkF m 114 #[.val (.int p1), .val (.int p2), .val (.int p3), .val (.int p4), .val (.int (1 : Int32)), .val (.int (0 : Int32)), .val (.ref b23), .val (.int (1 : Int32)), .val (.ref d_26), .unset, .unset] [(.ref b23)])) rfl (by rw [hml]; rfl) (Steps.refl _) (argsL := []) (rest := []) (lenOf pd_6 rfl) rfl (by show 2 * 0 + _ ≤ _; exact Nat.le_of_eq rfl) (hb hby at_114) (fun _ _ => ⟨rfl, rfl, (by decide : 6 + 0 ≤ _), (by decide : 274 + 0 ≤ _)⟩)
      dsimp only [Pt.U, Pt.locs, Pt.cells, Pt.slots] at X28 l28 y28 z28 st28 hQ28
      subst l28 y28 z28
      obtain ⟨rfl, N28q, eh28⟩ := hQ28
      have N28 := Fr.app N26 N28q
      refine own_via st28 ?_
      obtain ⟨cl29, Ar29, q29, S29, M29, H29, G29⟩ := id r26_1
      have hin29 : ¬ ((0 : Int32) < 0 ∨ cl29.slots.size ≤ ((0 : Int32)).toNatClampNeg) := inb_of S29 ⟨by decide, by decide⟩
      have hat29 : cl29.slots[((0 : Int32)).toNatClampNeg]? = some (.int (p1).toInt8.toInt32) := Has.at H29 hin29 rfl
      obtain ⟨cl30, Ar30, q30, S30, M30, H30, G30⟩ := id r26_1
      have hin30 : ¬ ((0 : Int32) < 0 ∨ cl30.slots.size ≤ ((0 : Int32)).toNatClampNeg) := inb_of S30 ⟨by decide, by decide⟩
      have hat30 : cl30.slots[((0 : Int32)).toNatClampNeg]? = some (.int (p1).toInt8.toInt32) := Has.at H30 hin30 rfl
      refine own_go (A := T28.setTop (mkF m 202 #[.val (.int p1), .val (.int p2), .val (.int p3), .val (.int p4), .val (.int (1 : Int32)), .val (.int (0 : Int32)), .val (.ref b23), .val (.int (1 : Int32)), .val (.ref d_26), .unset, .unset] [(.int (((p1).toInt8.toInt32 ^^^ (1 : Int32))).toInt8.toInt32), (.int (0 : Int32)), (.ref d_26)])) (fun t_ k_ => ?_) ?_
      · show Steps p.tables e below (T28.setTop (mkF m 117 #[.val (.int p1), .val (.int p2), .val (.int p3), .val (.int p4), .val (.int (1 : Int32)), .val (.int (0 : Int32)), .val (.ref b23), .val (.int (1 : Int32)), .val (.ref d_26), .unset, .unset] [(.int (1 : Int32))])) t_
        refine XS.iload X28.here hx rfl (hb hby at_117) rfl ?_
        show Steps p.tables e below (T28.setTop (mkF m 119 #[.val (.int p1), .val (.int p2), .val (.int p3), .val (.int p4), .val (.int (1 : Int32)), .val (.int (0 : Int32)), .val (.ref b23), .val (.int (1 : Int32)), .val (.ref d_26), .unset, .unset] [(.int (1 : Int32)), (.int (1 : Int32))])) t_
        refine XS.icmpYes X28.here hx rfl (pc0 := 119) (pc' := 124) rfl (hb hby at_119) rfl (teq (by decide : (1 : Int32) = (1 : Int32))).1 (by decide) (by decide) ?_
        show Steps p.tables e below (T28.setTop (mkF m 124 #[.val (.int p1), .val (.int p2), .val (.int p3), .val (.int p4), .val (.int (1 : Int32)), .val (.int (0 : Int32)), .val (.ref b23), .val (.int (1 : Int32)), .val (.ref d_26), .unset, .unset] [])) t_
        refine XS.iload X28.here hx rfl (hb hby at_124) rfl ?_
        show Steps p.tables e below (T28.setTop (mkF m 126 #[.val (.int p1), .val (.int p2), .val (.int p3), .val (.int p4), .val (.int (1 : Int32)), .val (.int (0 : Int32)), .val (.ref b23), .val (.int (1 : Int32)), .val (.ref d_26), .unset, .unset] [(.int (1 : Int32))])) t_
        refine XS.iconst X28.here hx rfl (hb hby at_126) ?_
        show Steps p.tables e below (T28.setTop (mkF m 127 #[.val (.int p1), .val (.int p2), .val (.int p3), .val (.int p4), .val (.int (1 : Int32)), .val (.int (0 : Int32)), .val (.ref b23), .val (.int (1 : Int32)), .val (.ref d_26), .unset, .unset] [(.int (1 : Int32)), (.int (1 : Int32))])) t_
        refine XS.icmpNo X28.here hx rfl (hb hby at_127) rfl (flt (by decide : ¬ ((1 : Int32) < (1 : Int32)))).1 ?_
        show Steps p.tables e below (T28.setTop (mkF m 130 #[.val (.int p1), .val (.int p2), .val (.int p3), .val (.int p4), .val (.int (1 : Int32)), .val (.int (0 : Int32)), .val (.ref b23), .val (.int (1 : Int32)), .val (.ref d_26), .unset, .unset] [])) t_
        refine XS.aload X28.here hx rfl (hb hby at_130) rfl rfl ?_
        show Steps p.tables e below (T28.setTop (mkF m 132 #[.val (.int p1), .val (.int p2), .val (.int p3), .val (.int p4), .val (.int (1 : Int32)), .val (.int (0 : Int32)), .val (.ref b23), .val (.int (1 : Int32)), .val (.ref d_26), .unset, .unset] [(.ref d_26)])) t_
        refine XS.iconst X28.here hx rfl (hb hby at_132) ?_
        show Steps p.tables e below (T28.setTop (mkF m 133 #[.val (.int p1), .val (.int p2), .val (.int p3), .val (.int p4), .val (.int (1 : Int32)), .val (.int (0 : Int32)), .val (.ref b23), .val (.int (1 : Int32)), .val (.ref d_26), .unset, .unset] [(.int (0 : Int32)), (.ref d_26)])) t_
        refine X28.baloadBytes hx (j := (0 : Int32)) (v := (.int (p1).toInt8.toInt32)) (by rw [eh28]; exact Ar29.1) (State.isArrayOf_alike hZ.alike Ar29.2.1) Ar29.2.2 hin29 hat29 (g := (mkF m 133 #[.val (.int p1), .val (.int p2), .val (.int p3), .val (.int p4), .val (.int (1 : Int32)), .val (.int (0 : Int32)), .val (.ref b23), .val (.int (1 : Int32)), .val (.ref d_26), .unset, .unset] [(.int (0 : Int32)), (.ref d_26)])) rfl rfl (hb hby at_133) _ ?_
        show Steps p.tables e below (T28.setTop (mkF m 134 #[.val (.int p1), .val (.int p2), .val (.int p3), .val (.int p4), .val (.int (1 : Int32)), .val (.int (0 : Int32)), .val (.ref b23), .val (.int (1 : Int32)), .val (.ref d_26), .unset, .unset] [(.int (p1).toInt8.toInt32)])) t_
        refine XS.iloadN X28.here hx rfl (hb hby at_134) rfl ?_
        show Steps p.tables e below (T28.setTop (mkF m 135 #[.val (.int p1), .val (.int p2), .val (.int p3), .val (.int p4), .val (.int (1 : Int32)), .val (.int (0 : Int32)), .val (.ref b23), .val (.int (1 : Int32)), .val (.ref d_26), .unset, .unset] [(.int p1), (.int (p1).toInt8.toInt32)])) t_
        refine XS.i2b X28.here hx rfl (hb hby at_135) rfl ?_
        show Steps p.tables e below (T28.setTop (mkF m 136 #[.val (.int p1), .val (.int p2), .val (.int p3), .val (.int p4), .val (.int (1 : Int32)), .val (.int (0 : Int32)), .val (.ref b23), .val (.int (1 : Int32)), .val (.ref d_26), .unset, .unset] [(.int (p1).toInt8.toInt32), (.int (p1).toInt8.toInt32)])) t_
        refine XS.icmpYes X28.here hx rfl (pc0 := 136) (pc' := 141) rfl (hb hby at_136) rfl (teq (rfl : (p1).toInt8.toInt32 = (p1).toInt8.toInt32)).1 (by decide) (by decide) ?_
        show Steps p.tables e below (T28.setTop (mkF m 141 #[.val (.int p1), .val (.int p2), .val (.int p3), .val (.int p4), .val (.int (1 : Int32)), .val (.int (0 : Int32)), .val (.ref b23), .val (.int (1 : Int32)), .val (.ref d_26), .unset, .unset] [])) t_
        refine XS.iload X28.here hx rfl (hb hby at_141) rfl ?_
        show Steps p.tables e below (T28.setTop (mkF m 143 #[.val (.int p1), .val (.int p2), .val (.int p3), .val (.int p4), .val (.int (1 : Int32)), .val (.int (0 : Int32)), .val (.ref b23), .val (.int (1 : Int32)), .val (.ref d_26), .unset, .unset] [(.int (1 : Int32))])) t_
        refine XS.iconst X28.here hx rfl (hb hby at_143) ?_
        show Steps p.tables e below (T28.setTop (mkF m 144 #[.val (.int p1), .val (.int p2), .val (.int p3), .val (.int p4), .val (.int (1 : Int32)), .val (.int (0 : Int32)), .val (.ref b23), .val (.int (1 : Int32)), .val (.ref d_26), .unset, .unset] [(.int (2 : Int32)), (.int (1 : Int32))])) t_
        refine XS.icmpYes X28.here hx rfl (pc0 := 144) (pc' := 170) rfl (hb hby at_144) rfl (tlt (by decide : (1 : Int32) < (2 : Int32))).1 (by decide) (by decide) ?_
        show Steps p.tables e below (T28.setTop (mkF m 170 #[.val (.int p1), .val (.int p2), .val (.int p3), .val (.int p4), .val (.int (1 : Int32)), .val (.int (0 : Int32)), .val (.ref b23), .val (.int (1 : Int32)), .val (.ref d_26), .unset, .unset] [])) t_
        refine XS.iload X28.here hx rfl (hb hby at_170) rfl ?_
        show Steps p.tables e below (T28.setTop (mkF m 172 #[.val (.int p1), .val (.int p2), .val (.int p3), .val (.int p4), .val (.int (1 : Int32)), .val (.int (0 : Int32)), .val (.ref b23), .val (.int (1 : Int32)), .val (.ref d_26), .unset, .unset] [(.int (1 : Int32))])) t_
        refine XS.iconst X28.here hx rfl (hb hby at_172) ?_
        show Steps p.tables e below (T28.setTop (mkF m 173 #[.val (.int p1), .val (.int p2), .val (.int p3), .val (.int p4), .val (.int (1 : Int32)), .val (.int (0 : Int32)), .val (.ref b23), .val (.int (1 : Int32)), .val (.ref d_26), .unset, .unset] [(.int (3 : Int32)), (.int (1 : Int32))])) t_
        refine XS.icmpYes X28.here hx rfl (pc0 := 173) (pc' := 187) rfl (hb hby at_173) rfl (tlt (by decide : (1 : Int32) < (3 : Int32))).1 (by decide) (by decide) ?_
        show Steps p.tables e below (T28.setTop (mkF m 187 #[.val (.int p1), .val (.int p2), .val (.int p3), .val (.int p4), .val (.int (1 : Int32)), .val (.int (0 : Int32)), .val (.ref b23), .val (.int (1 : Int32)), .val (.ref d_26), .unset, .unset] [])) t_
        refine XS.iload X28.here hx rfl (hb hby at_187) rfl ?_
        show Steps p.tables e below (T28.setTop (mkF m 189 #[.val (.int p1), .val (.int p2), .val (.int p3), .val (.int p4), .val (.int (1 : Int32)), .val (.int (0 : Int32)), .val (.ref b23), .val (.int (1 : Int32)), .val (.ref d_26), .unset, .unset] [(.int (1 : Int32))])) t_
        refine XS.ifNo X28.here hx rfl (hb hby at_189) rfl ((if0 _ _).trans (tlt (by decide : (0 : Int32) < (1 : Int32))).2.2.2) ?_
        show Steps p.tables e below (T28.setTop (mkF m 192 #[.val (.int p1), .val (.int p2), .val (.int p3), .val (.int p4), .val (.int (1 : Int32)), .val (.int (0 : Int32)), .val (.ref b23), .val (.int (1 : Int32)), .val (.ref d_26), .unset, .unset] [])) t_
        refine XS.aload X28.here hx rfl (hb hby at_192) rfl rfl ?_
        show Steps p.tables e below (T28.setTop (mkF m 194 #[.val (.int p1), .val (.int p2), .val (.int p3), .val (.int p4), .val (.int (1 : Int32)), .val (.int (0 : Int32)), .val (.ref b23), .val (.int (1 : Int32)), .val (.ref d_26), .unset, .unset] [(.ref d_26)])) t_
        refine XS.iconst X28.here hx rfl (hb hby at_194) ?_
        show Steps p.tables e below (T28.setTop (mkF m 195 #[.val (.int p1), .val (.int p2), .val (.int p3), .val (.int p4), .val (.int (1 : Int32)), .val (.int (0 : Int32)), .val (.ref b23), .val (.int (1 : Int32)), .val (.ref d_26), .unset, .unset] [(.int (0 : Int32)), (.ref d_26)])) t_
        refine XS.aload X28.here hx rfl (hb hby at_195) rfl rfl ?_
        show Steps p.tables e below (T28.setTop (mkF m 197 #[.val (.int p1), .val (.int p2), .val (.int p3), .val (.int p4), .val (.int (1 : Int32)), .val (.int (0 : Int32)), .val (.ref b23), .val (.int (1 : Int32)), .val (.ref d_26), .unset, .unset] [(.ref d_26), (.int (0 : Int32)), (.ref d_26)])) t_
        refine XS.iconst X28.here hx rfl (hb hby at_197) ?_
        show Steps p.tables e below (T28.setTop (mkF m 198 #[.val (.int p1), .val (.int p2), .val (.int p3), .val (.int p4), .val (.int (1 : Int32)), .val (.int (0 : Int32)), .val (.ref b23), .val (.int (1 : Int32)), .val (.ref d_26), .unset, .unset] [(.int (0 : Int32)), (.ref d_26), (.int (0 : Int32)), (.ref d_26)])) t_
        refine X28.baloadBytes hx (j := (0 : Int32)) (v := (.int (p1).toInt8.toInt32)) (by rw [eh28]; exact Ar30.1) (State.isArrayOf_alike hZ.alike Ar30.2.1) Ar30.2.2 hin30 hat30 (g := (mkF m 198 #[.val (.int p1), .val (.int p2), .val (.int p3), .val (.int p4), .val (.int (1 : Int32)), .val (.int (0 : Int32)), .val (.ref b23), .val (.int (1 : Int32)), .val (.ref d_26), .unset, .unset] [(.int (0 : Int32)), (.ref d_26), (.int (0 : Int32)), (.ref d_26)])) rfl rfl (hb hby at_198) _ ?_
        show Steps p.tables e below (T28.setTop (mkF m 199 #[.val (.int p1), .val (.int p2), .val (.int p3), .val (.int p4), .val (.int (1 : Int32)), .val (.int (0 : Int32)), .val (.ref b23), .val (.int (1 : Int32)), .val (.ref d_26), .unset, .unset] [(.int (p1).toInt8.toInt32), (.int (0 : Int32)), (.ref d_26)])) t_
        refine XS.iconst X28.here hx rfl (hb hby at_199) ?_
        show Steps p.tables e below (T28.setTop (mkF m 200 #[.val (.int p1), .val (.int p2), .val (.int p3), .val (.int p4), .val (.int (1 : Int32)), .val (.int (0 : Int32)), .val (.ref b23), .val (.int (1 : Int32)), .val (.ref d_26), .unset, .unset] [(.int (1 : Int32)), (.int (p1).toInt8.toInt32), (.int (0 : Int32)), (.ref d_26)])) t_
        refine XS.ixor X28.here hx rfl (hb hby at_200) rfl ?_
        show Steps p.tables e below (T28.setTop (mkF m 201 #[.val (.int p1), .val (.int p2), .val (.int p3), .val (.int p4), .val (.int (1 : Int32)), .val (.int (0 : Int32)), .val (.ref b23), .val (.int (1 : Int32)), .val (.ref d_26), .unset, .unset] [(.int ((p1).toInt8.toInt32 ^^^ (1 : Int32))), (.int (0 : Int32)), (.ref d_26)])) t_
        refine XS.i2b X28.here hx rfl (hb hby at_201) rfl ?_
        exact k_
      obtain ⟨cl31, Ar31, q31, S31, M31, H31, G31⟩ := id r26_1
      have hin31 : ¬ ((0 : Int32) < 0 ∨ cl31.slots.size ≤ ((0 : Int32)).toNatClampNeg) := inb_of S31 ⟨by decide, by decide⟩
      obtain ⟨T32, h32, X32, e32, W32, st32⟩ := stB X28 hx hZ eh28 Ar31 (j := (0 : Int32)) hin31 (g := (mkF m 202 #[.val (.int p1), .val (.int p2), .val (.int p3), .val (.int p4), .val (.int (1 : Int32)), .val (.int (0 : Int32)), .val (.ref b23), .val (.int (1 : Int32)), .val (.ref d_26), .unset, .unset] [(.int (((p1).toInt8.toInt32 ^^^ (1 : Int32))).toInt8.toInt32), (.int (0 : Int32)), (.ref d_26)])) rfl rfl (hb hby at_202)
      rw [own_narb] at W32
      have B32 : Arv Z h32 d_26 k2_26 .byte (1 : Int32) [(.int (((p1).toInt8.toInt32 ^^^ (1 : Int32))).toInt8.toInt32)] (.int (0 : Int32)) := Arv.set Ar31 q31 S31 M31 H31 G31 (fits_nar_byte _) W32 0 rfl (Nat.le_of_ble_eq_true rfl)
      refine own_go st32 ?_
      have K32 : Keep h0 h32 [] := K26.wr W32 (Or.inr (Nat.le_trans K25.1 r26_0))
      have N32 := Fr.snoc X32 N28 (Nat.le_trans Z0 (Nat.le_trans K25.1 r26_0))
      refine own_go (A := T32.setTop (mkF m 205 #[.val (.int p1), .val (.int p2), .val (.int p3), .val (.int p4), .val (.int (1 : Int32)), .val (.int (0 : Int32)), .val (.ref b23), .val (.int (1 : Int32)), .val (.ref d_26), .unset, .unset] [(.ref b23)])) (fun t_ k_ => ?_) ?_
      · show Steps p.tables e below (T32.setTop (mkF m 203 #[.val (.int p1), .val (.int p2), .val (.int p3), .val (.int p4), .val (.int (1 : Int32)), .val (.int (0 : Int32)), .val (.ref b23), .val (.int (1 : Int32)), .val (.ref d_26), .unset, .unset] [])) t_
        refine XS.aload X32.here hx rfl (hb hby at_203) rfl rfl ?_
        exact k_
      obtain ⟨cq33, kq33, q33a, q33b, q33c⟩ := isOf hZ e32 ((((A23.keep Kc24).keep Kc25).keep Kc26).wr W32)
      obtain ⟨_, _, ⟨T33, L33, k33, n33⟩, -, X33, ⟨Lc33, hQ33, l33, y33, z33⟩, st33⟩ := X32.virtualBack hx (y := own_y9) (z := own_y9) hown (mvT hZ (own_w hw 56 rfl)) (mvT hZ (own_w hw 57 rfl)) (notFace_of_selects (args := #[]) (mvT hZ (own_w hw 59 rfl))) (mvT hZ (own_w hw 59 rfl)) (mvT hZ (own_w hw 58 rfl)) (by decide) (backOf (W := 0) (rmTo1 l Z a0 hw [] b23 b_24 k_24 ((p1).toInt8.toInt32) (0 : Int32) (0 : Int32) (0 : Int32) h32 n0 (Nat.le_trans Z0 K32.1) ((((A23.keep Kc24).keep Kc25).keep Kc26).wr W32) ((r25_0.keep Kc26 nin0).other W32 (Or.inl (Nat.ne_of_lt (Nat.lt_of_lt_of_le (Nat.lt_of_lt_of_le (Nat.lt_of_lt_of_le A23.lt Kc24.1) Kc25.1) r26_0)))) ((r25_1.keep Kc26 nin0).other W32 (Or.inl (Nat.ne_of_lt (Nat.lt_of_lt_of_le (Nat.lt_of_lt_of_le (Nat.lt_of_lt_of_le A23.lt Kc24.1) Kc25.1) r26_0)))) ((r25_2.keep Kc26 nin0).other W32 (Nat.ne_of_lt (Nat.lt_of_lt_of_le (Nat.lt_of_lt_of_le r24_3.lt Kc25.1) r26_0)))) hZ (own_w hw 60 rfl) (own_w hw 2 rfl) (by decide) (by decide)) q33a q33c (g := (mkF m 205 #[.val (.int p1), .val (.int p2), .val (.int p3), .val (.int p4), .val (.int (1 : Int32)), .val (.int (0 : Int32)), .val (.ref b23), .val (.int (1 : Int32)), .val (.ref d_26), .unset, .unset] [(.ref b23)])) rfl (by rw [hml]; rfl) (Steps.refl _) (argsL := []) (rest := []) (lenOf pd_5 rfl) rfl (by show 2 * 0 + _ ≤ _; exact Nat.le_of_eq rfl) (hb hby at_205) (fun _ _ => ⟨rfl, e32, (by decide : 6 + 1 ≤ _), (by decide : 274 + 1 ≤ _)⟩)
      dsimp only [Pt.U, Pt.locs, Pt.cells, Pt.slots] at X33 l33 y33 z33 st33 hQ33
      subst l33 y33 z33
      obtain ⟨d_33, k2_33, rfl, N33q, Kc33, r33_0, r33_1⟩ := hQ33
      have N33 := Fr.app N32 N33q
      refine own_via st33 ?_
      have K33 : Keep h0 T33.heap [] := K32.trans Kc33 all0
      obtain ⟨cl34, Ar34, q34, S34, M34, H34, G34⟩ := id r33_1
      obtain ⟨cl35, Ar35, q35, S35, M35, H35, G35⟩ := id r33_1
      have hin35 : ¬ ((0 : Int32) < 0 ∨ cl35.slots.size ≤ ((0 : Int32)).toNatClampNeg) := inb_of S35 ⟨by decide, by decide⟩
      have hat35 : cl35.slots[((0 : Int32)).toNatClampNeg]? = some (.int (p1).toInt8.toInt32) := Has.at H35 hin35 rfl
      refine own_go (A := T33.setTop (mkF m 263 #[.val (.int p1), .val (.int p2), .val (.int p3), .val (.int p4), .val (.int (1 : Int32)), .val (.int (0 : Int32)), .val (.ref b23), .val (.int (1 : Int32)), .val (.ref d_26), .val (.ref d_33), .unset] [(.int (1 : Int32))])) (fun t_ k_ => ?_) ?_
      · show Steps p.tables e below (T33.setTop (mkF m 208 #[.val (.int p1), .val (.int p2), .val (.int p3), .val (.int p4), .val (.int (1 : Int32)), .val (.int (0 : Int32)), .val (.ref b23), .val (.int (1 : Int32)), .val (.ref d_26), .unset, .unset] [(.ref d_33)])) t_
        refine XS.astore X33.here hx rfl (hb hby at_208) rfl rfl (l' := #[.val (.int p1), .val (.int p2), .val (.int p3), .val (.int p4), .val (.int (1 : Int32)), .val (.int (0 : Int32)), .val (.ref b23), .val (.int (1 : Int32)), .val (.ref d_26), .val (.ref d_33), .unset]) rfl ?_
        show Steps p.tables e below (T33.setTop (mkF m 210 #[.val (.int p1), .val (.int p2), .val (.int p3), .val (.int p4), .val (.int (1 : Int32)), .val (.int (0 : Int32)), .val (.ref b23), .val (.int (1 : Int32)), .val (.ref d_26), .val (.ref d_33), .unset] [])) t_
        refine XS.aload X33.here hx rfl (hb hby at_210) rfl rfl ?_
        show Steps p.tables e below (T33.setTop (mkF m 212 #[.val (.int p1), .val (.int p2), .val (.int p3), .val (.int p4), .val (.int (1 : Int32)), .val (.int (0 : Int32)), .val (.ref b23), .val (.int (1 : Int32)), .val (.ref d_26), .val (.ref d_33), .unset] [(.ref d_33)])) t_
        refine X33.arraylength hx Ar34.1 (State.isArrayOf_alike hZ.alike Ar34.2.1) (g := (mkF m 212 #[.val (.int p1), .val (.int p2), .val (.int p3), .val (.int p4), .val (.int (1 : Int32)), .val (.int (0 : Int32)), .val (.ref b23), .val (.int (1 : Int32)), .val (.ref d_26), .val (.ref d_33), .unset] [(.ref d_33)])) rfl rfl (hb hby at_212) _ ?_
        rw [len_of S34 M34]
        show Steps p.tables e below (T33.setTop (mkF m 213 #[.val (.int p1), .val (.int p2), .val (.int p3), .val (.int p4), .val (.int (1 : Int32)), .val (.int (0 : Int32)), .val (.ref b23), .val (.int (1 : Int32)), .val (.ref d_26), .val (.ref d_33), .unset] [(.int (1 : Int32))])) t_
        refine XS.iload X33.here hx rfl (hb hby at_213) rfl ?_
        show Steps p.tables e below (T33.setTop (mkF m 215 #[.val (.int p1), .val (.int p2), .val (.int p3), .val (.int p4), .val (.int (1 : Int32)), .val (.int (0 : Int32)), .val (.ref b23), .val (.int (1 : Int32)), .val (.ref d_26), .val (.ref d_33), .unset] [(.int (1 : Int32)), (.int (1 : Int32))])) t_
        refine XS.icmpYes X33.here hx rfl (pc0 := 215) (pc' := 220) rfl (hb hby at_215) rfl (teq (by decide : (1 : Int32) = (1 : Int32))).1 (by decide) (by decide) ?_
        show Steps p.tables e below (T33.setTop (mkF m 220 #[.val (.int p1), .val (.int p2), .val (.int p3), .val (.int p4), .val (.int (1 : Int32)), .val (.int (0 : Int32)), .val (.ref b23), .val (.int (1 : Int32)), .val (.ref d_26), .val (.ref d_33), .unset] [])) t_
        refine XS.iload X33.here hx rfl (hb hby at_220) rfl ?_
        show Steps p.tables e below (T33.setTop (mkF m 222 #[.val (.int p1), .val (.int p2), .val (.int p3), .val (.int p4), .val (.int (1 : Int32)), .val (.int (0 : Int32)), .val (.ref b23), .val (.int (1 : Int32)), .val (.ref d_26), .val (.ref d_33), .unset] [(.int (1 : Int32))])) t_
        refine XS.iconst X33.here hx rfl (hb hby at_222) ?_
        show Steps p.tables e below (T33.setTop (mkF m 223 #[.val (.int p1), .val (.int p2), .val (.int p3), .val (.int p4), .val (.int (1 : Int32)), .val (.int (0 : Int32)), .val (.ref b23), .val (.int (1 : Int32)), .val (.ref d_26), .val (.ref d_33), .unset] [(.int (1 : Int32)), (.int (1 : Int32))])) t_
        refine XS.icmpNo X33.here hx rfl (hb hby at_223) rfl (flt (by decide : ¬ ((1 : Int32) < (1 : Int32)))).1 ?_
        show Steps p.tables e below (T33.setTop (mkF m 226 #[.val (.int p1), .val (.int p2), .val (.int p3), .val (.int p4), .val (.int (1 : Int32)), .val (.int (0 : Int32)), .val (.ref b23), .val (.int (1 : Int32)), .val (.ref d_26), .val (.ref d_33), .unset] [])) t_
        refine XS.aload X33.here hx rfl (hb hby at_226) rfl rfl ?_
        show Steps p.tables e below (T33.setTop (mkF m 228 #[.val (.int p1), .val (.int p2), .val (.int p3), .val (.int p4), .val (.int (1 : Int32)), .val (.int (0 : Int32)), .val (.ref b23), .val (.int (1 : Int32)), .val (.ref d_26), .val (.ref d_33), .unset] [(.ref d_33)])) t_
        refine XS.iconst X33.here hx rfl (hb hby at_228) ?_
        show Steps p.tables e below (T33.setTop (mkF m 229 #[.val (.int p1), .val (.int p2), .val (.int p3), .val (.int p4), .val (.int (1 : Int32)), .val (.int (0 : Int32)), .val (.ref b23), .val (.int (1 : Int32)), .val (.ref d_26), .val (.ref d_33), .unset] [(.int (0 : Int32)), (.ref d_33)])) t_
        refine X33.baloadBytes hx (j := (0 : Int32)) (v := (.int (p1).toInt8.toInt32)) Ar35.1 (State.isArrayOf_alike hZ.alike Ar35.2.1) Ar35.2.2 hin35 hat35 (g := (mkF m 229 #[.val (.int p1), .val (.int p2), .val (.int p3), .val (.int p4), .val (.int (1 : Int32)), .val (.int (0 : Int32)), .val (.ref b23), .val (.int (1 : Int32)), .val (.ref d_26), .val (.ref d_33), .unset] [(.int (0 : Int32)), (.ref d_33)])) rfl rfl (hb hby at_229) _ ?_
        show Steps p.tables e below (T33.setTop (mkF m 230 #[.val (.int p1), .val (.int p2), .val (.int p3), .val (.int p4), .val (.int (1 : Int32)), .val (.int (0 : Int32)), .val (.ref b23), .val (.int (1 : Int32)), .val (.ref d_26), .val (.ref d_33), .unset] [(.int (p1).toInt8.toInt32)])) t_
        refine XS.iloadN X33.here hx rfl (hb hby at_230) rfl ?_
        show Steps p.tables e below (T33.setTop (mkF m 231 #[.val (.int p1), .val (.int p2), .val (.int p3), .val (.int p4), .val (.int (1 : Int32)), .val (.int (0 : Int32)), .val (.ref b23), .val (.int (1 : Int32)), .val (.ref d_26), .val (.ref d_33), .unset] [(.int p1), (.int (p1).toInt8.toInt32)])) t_
        refine XS.i2b X33.here hx rfl (hb hby at_231) rfl ?_
        show Steps p.tables e below (T33.setTop (mkF m 232 #[.val (.int p1), .val (.int p2), .val (.int p3), .val (.int p4), .val (.int (1 : Int32)), .val (.int (0 : Int32)), .val (.ref b23), .val (.int (1 : Int32)), .val (.ref d_26), .val (.ref d_33), .unset] [(.int (p1).toInt8.toInt32), (.int (p1).toInt8.toInt32)])) t_
        refine XS.icmpYes X33.here hx rfl (pc0 := 232) (pc' := 237) rfl (hb hby at_232) rfl (teq (rfl : (p1).toInt8.toInt32 = (p1).toInt8.toInt32)).1 (by decide) (by decide) ?_
        show Steps p.tables e below (T33.setTop (mkF m 237 #[.val (.int p1), .val (.int p2), .val (.int p3), .val (.int p4), .val (.int (1 : Int32)), .val (.int (0 : Int32)), .val (.ref b23), .val (.int (1 : Int32)), .val (.ref d_26), .val (.ref d_33), .unset] [])) t_
        refine XS.iload X33.here hx rfl (hb hby at_237) rfl ?_
        show Steps p.tables e below (T33.setTop (mkF m 239 #[.val (.int p1), .val (.int p2), .val (.int p3), .val (.int p4), .val (.int (1 : Int32)), .val (.int (0 : Int32)), .val (.ref b23), .val (.int (1 : Int32)), .val (.ref d_26), .val (.ref d_33), .unset] [(.int (0 : Int32))])) t_
        refine XS.ifYes X33.here hx rfl (pc0 := 239) (pc' := 262) rfl (hb hby at_239) rfl ((if0 _ _).trans (teq (by decide : (0 : Int32) = (0 : Int32))).1) (by decide) (by decide) ?_
        show Steps p.tables e below (T33.setTop (mkF m 262 #[.val (.int p1), .val (.int p2), .val (.int p3), .val (.int p4), .val (.int (1 : Int32)), .val (.int (0 : Int32)), .val (.ref b23), .val (.int (1 : Int32)), .val (.ref d_26), .val (.ref d_33), .unset] [])) t_
        refine XS.iconst X33.here hx rfl (hb hby at_262) ?_
        exact k_
      obtain ⟨fs36, hr36, hrun36, hended36, hW36, hsame36⟩ := X33.leave (v := some (.int (1 : Int32))) (fun h => by rw [Bd.returns] at h; cases h)
      refine ⟨_, _, ?_, hrun36, hended36, _, _, rfl, ?_, ⟨_, rfl⟩, hW36, hsame36.mono (by decide) (by decide)⟩
      · exact retN X33 hx (t := .boolean) Bd.returns (by simp) (hb hby at_263) hr36
      · show Q_rm0 Z p1 p2 p3 p4 h0 n0 _ T33.heap _
        exact ⟨rfl, N33, K33⟩
    · refine own_go (A := s₁.setTop (mkF m 20 #[.val (.int p1), .val (.int p2), .val (.int p3), .val (.int p4), .val (.int (1 : Int32)), .val (.int (1 : Int32)), .unset, .unset, .unset, .unset, .unset] [])) (fun t_ k_ => ?_) ?_
      · show Steps p.tables e below (s₁.setTop (mkF m 10 #[.val (.int p1), .val (.int p2), .val (.int p3), .val (.int p4), .val (.int (1 : Int32)), .unset, .unset, .unset, .unset, .unset, .unset] [(.int (((p4).toUInt32 >>> ((2 : Int32) &&& 31).toUInt32).toInt32 &&& (1 : Int32)))])) t_
        refine XS.ifNo X0.here hx rfl (hb hby at_10) rfl ((if0 _ _).trans (feq hc10_22).1) ?_
        show Steps p.tables e below (s₁.setTop (mkF m 13 #[.val (.int p1), .val (.int p2), .val (.int p3), .val (.int p4), .val (.int (1 : Int32)), .unset, .unset, .unset, .unset, .unset, .unset] [])) t_
        refine XS.iconst X0.here hx rfl (hb hby at_13) ?_
        show Steps p.tables e below (s₁.setTop (mkF m 14 #[.val (.int p1), .val (.int p2), .val (.int p3), .val (.int p4), .val (.int (1 : Int32)), .unset, .unset, .unset, .unset, .unset, .unset] [(.int (1 : Int32))])) t_
        refine XS.goto X0.here hx rfl (pc0 := 14) (pc' := 18) rfl (hb hby at_14) (by decide) (by decide) ?_
        show Steps p.tables e below (s₁.setTop (mkF m 18 #[.val (.int p1), .val (.int p2), .val (.int p3), .val (.int p4), .val (.int (1 : Int32)), .unset, .unset, .unset, .unset, .unset, .unset] [(.int (1 : Int32))])) t_
        refine XS.istore X0.here hx rfl (hb hby at_18) rfl (l' := #[.val (.int p1), .val (.int p2), .val (.int p3), .val (.int p4), .val (.int (1 : Int32)), .val (.int (1 : Int32)), .unset, .unset, .unset, .unset, .unset]) rfl ?_
        exact k_
      obtain ⟨T37, h37, X37, e37, E37, A37, D37, -, st37⟩ := newO X0 hx hZ hown (own_w hw 0 rfl) (own_w hw 1 rfl) (own_w hw 2 rfl) e0 (g := (mkF m 20 #[.val (.int p1), .val (.int p2), .val (.int p3), .val (.int p4), .val (.int (1 : Int32)), .val (.int (1 : Int32)), .unset, .unset, .unset, .unset, .unset] [])) rfl (hb hby at_20) (by decide) (by decide)
      obtain ⟨b37, g37⟩ : ∃ z, z = h0.size := ⟨_, rfl⟩
      rw [← g37] at A37 D37 st37
      refine own_go st37 ?_
      have K37 : Keep h0 h37 [] := (Keep.refl h0 []).ext E37
      have F37_bytes : Fld Z h37 b37 "com/example/kneiphof/kneiphof/ByteRecord" "bytes" "[B" .null := D37 (Or.inl (own_w hw 16 rfl)) (ty := (.array .byte)) (by decide)
      have F37_text : Fld Z h37 b37 "com/example/kneiphof/kneiphof/ByteRecord" "text" "Ljava/io/DataOutputStream;" .null := D37 (Or.inr (own_w hw 44 rfl)) (ty := (.object "java/io/DataOutputStream")) (by decide)
      have F37_size : Fld Z h37 b37 "com/example/kneiphof/kneiphof/ByteRecord" "size" "I" (.int (0 : Int32)) := D37 (Or.inl (own_w hw 55 rfl)) (ty := .int) (by decide)
      refine own_go (A := T37.setTop (mkF m 24 #[.val (.int p1), .val (.int p2), .val (.int p3), .val (.int p4), .val (.int (1 : Int32)), .val (.int (1 : Int32)), .unset, .unset, .unset, .unset, .unset] [(.ref b37), (.ref b37)])) (fun t_ k_ => ?_) ?_
      · show Steps p.tables e below (T37.setTop (mkF m 23 #[.val (.int p1), .val (.int p2), .val (.int p3), .val (.int p4), .val (.int (1 : Int32)), .val (.int (1 : Int32)), .unset, .unset, .unset, .unset, .unset] [(.ref b37)])) t_
        refine XS.dup X37.here hx rfl (hb hby at_23) rfl rfl ?_
        exact k_
      obtain ⟨_, _, ⟨T38, L38, k38, n38⟩, -, X38, ⟨Lc38, hQ38, l38, y38, z38⟩, st38⟩ := X37.specialBack hx (y := own_y3) rfl hown (mvT hZ (own_w hw 3 rfl)) (mvT hZ (own_w hw 4 rfl)) (mvT hZ (own_w hw 5 rfl)) (by decide) (backOf (W := 1) (rmBR l Z a0 hw [] b37 h37 n0 (Nat.le_trans Z0 K37.1) A37 F37_bytes F37_text F37_size (Nat.le_trans Z0 (Nat.le_of_eq g37.symm))) hZ (own_w hw 5 rfl) (own_w hw 2 rfl) (by decide) (by decide)) (g := (mkF m 24 #[.val (.int p1), .val (.int p2), .val (.int p3), .val (.int p4), .val (.int (1 : Int32)), .val (.int (1 : Int32)), .unset, .unset, .unset, .unset, .unset] [(.ref b37), (.ref b37)])) rfl (by rw [hml]; rfl) (Steps.refl _) (a := b37) (argsL := []) (rest := [(.ref b37)]) (lenOf pd_0 rfl) rfl (by show 2 * 0 + _ ≤ _; exact Nat.le_of_eq rfl) (hb hby at_24) (fun _ _ => ⟨rfl, e37, (by decide : 1 + 4 ≤ _), (by decide : 3 + 270 ≤ _)⟩)
      dsimp only [Pt.U, Pt.locs, Pt.cells, Pt.slots] at X38 l38 y38 z38 st38 hQ38
      subst l38 y38 z38
      obtain ⟨b_38, k_38, rfl, N38q, Kc38, r38_0, r38_1, r38_2, r38_3⟩ := hQ38
      have N38 := Fr.app N0 N38q
      refine own_via st38 ?_
      have K38 : Keep h0 T38.heap [] := K37.trans Kc38 (allS (P := fun x => x ∈ _ ∨ _ ≤ x) (Or.inr (Nat.le_of_eq g37.symm)) all0)
      refine own_go (A := T38.setTop (mkF m 38 #[.val (.int p1), .val (.int p2), .val (.int p3), .val (.int p4), .val (.int (1 : Int32)), .val (.int (1 : Int32)), .val (.ref b37), .unset, .unset, .unset, .unset] [(.int p1), (.ref b37)])) (fun t_ k_ => ?_) ?_
      · show Steps p.tables e below (T38.setTop (mkF m 27 #[.val (.int p1), .val (.int p2), .val (.int p3), .val (.int p4), .val (.int (1 : Int32)), .val (.int (1 : Int32)), .unset, .unset, .unset, .unset, .unset] [(.ref b37)])) t_
        refine XS.astore X38.here hx rfl (hb hby at_27) rfl rfl (l' := #[.val (.int p1), .val (.int p2), .val (.int p3), .val (.int p4), .val (.int (1 : Int32)), .val (.int (1 : Int32)), .val (.ref b37), .unset, .unset, .unset, .unset]) rfl ?_
        show Steps p.tables e below (T38.setTop (mkF m 29 #[.val (.int p1), .val (.int p2), .val (.int p3), .val (.int p4), .val (.int (1 : Int32)), .val (.int (1 : Int32)), .val (.ref b37), .unset, .unset, .unset, .unset] [])) t_
        refine XS.iload X38.here hx rfl (hb hby at_29) rfl ?_
        show Steps p.tables e below (T38.setTop (mkF m 31 #[.val (.int p1), .val (.int p2), .val (.int p3), .val (.int p4), .val (.int (1 : Int32)), .val (.int (1 : Int32)), .val (.ref b37), .unset, .unset, .unset, .unset] [(.int (1 : Int32))])) t_
        refine XS.iconst X38.here hx rfl (hb hby at_31) ?_
        show Steps p.tables e below (T38.setTop (mkF m 32 #[.val (.int p1), .val (.int p2), .val (.int p3), .val (.int p4), .val (.int (1 : Int32)), .val (.int (1 : Int32)), .val (.ref b37), .unset, .unset, .unset, .unset] [(.int (1 : Int32)), (.int (1 : Int32))])) t_
        refine XS.icmpNo X38.here hx rfl (hb hby at_32) rfl (flt (by decide : ¬ ((1 : Int32) < (1 : Int32)))).1 ?_
        show Steps p.tables e below (T38.setTop (mkF m 35 #[.val (.int p1), .val (.int p2), .val (.int p3), .val (.int p4), .val (.int (1 : Int32)), .val (.int (1 : Int32)), .val (.ref b37), .unset, .unset, .unset, .unset] [])) t_
        refine XS.aload X38.here hx rfl (hb hby at_35) rfl rfl ?_
        show Steps p.tables e below (T38.setTop (mkF m 37 #[.val (.int p1), .val (.int p2), .val (.int p3), .val (.int p4), .val (.int (1 : Int32)), .val (.int (1 : Int32)), .val (.ref b37), .unset, .unset, .unset, .unset] [(.ref b37)])) t_
        refine XS.iloadN X38.here hx rfl (hb hby at_37) rfl ?_
        exact k_
      obtain ⟨cq39, kq39, q39a, q39b, q39c⟩ := isOf hZ rfl (A37.keep Kc38)
      obtain ⟨_, _, ⟨T39, L39, k39, n39⟩, -, X39, ⟨Lc39, hQ39, l39, y39, z39⟩, st39⟩ := X38.virtualBack hx (y := own_y5) (z := own_y5) hown (mvT hZ (own_w hw 45 rfl)) (mvT hZ (own_w hw 46 rfl)) (notFace_of_selects (args := #[]) (mvT hZ (own_w hw 48 rfl))) (mvT hZ (own_w hw 48 rfl)) (mvT hZ (own_w hw 47 rfl)) (by decide) (backOf (W := 0) (rmWrite0 l Z a0 hw [] b37 p1 b_38 k_38 (0 : Int32) (0 : Int32) (0 : Int32) (0 : Int32) T38.heap n0 (Nat.le_trans Z0 K38.1) (A37.keep Kc38) r38_1 r38_2 r38_3 (Nat.le_trans Z0 (Nat.le_of_eq g37.symm)) (Nat.le_trans Z0 (Nat.le_trans K37.1 r38_0)) (Nat.ne_of_lt (Nat.lt_of_lt_of_le A37.lt r38_0))) hZ (own_w hw 49 rfl) (own_w hw 2 rfl) (by decide) (by decide)) q39a q39c (g := (mkF m 38 #[.val (.int p1), .val (.int p2), .val (.int p3), .val (.int p4), .val (.int (1 : Int32)), .val (.int (1 : Int32)), .val (.ref b37), .unset, .unset, .unset, .unset] [(.int p1), (.ref b37)])) rfl (by rw [hml]; rfl) (Steps.refl _) (argsL := [(.int p1)]) (rest := []) (lenOf pd_2 rfl) rfl (by show 2 * 0 + _ ≤ _; exact Nat.le_of_eq rfl) (hb hby at_38) (fun _ _ => ⟨rfl, rfl, (by decide : 5 + 0 ≤ _), (by decide : 273 + 0 ≤ _)⟩)
      dsimp only [Pt.U, Pt.locs, Pt.cells, Pt.slots] at X39 l39 y39 z39 st39 hQ39
      subst l39 y39 z39
      obtain ⟨rfl, N39q, Kc39, r39_0, r39_1, r39_2⟩ := hQ39
      have N39 := Fr.app N38 N39q
      refine own_via st39 ?_
      have K39 : Keep h0 T39.heap [] := K38.trans Kc39 (allS (P := fun x => x ∈ _ ∨ _ ≤ x) (Or.inr (Nat.le_of_eq g37.symm)) (allS (P := fun x => x ∈ _ ∨ _ ≤ x) (Or.inr (Nat.le_trans K37.1 r38_0)) all0))
      refine own_go (A := T39.setTop (mkF m 99 #[.val (.int p1), .val (.int p2), .val (.int p3), .val (.int p4), .val (.int (1 : Int32)), .val (.int (1 : Int32)), .val (.ref b37), .val (.int (1 : Int32)), .unset, .unset, .unset] [(.ref b37)])) (fun t_ k_ => ?_) ?_
      · show Steps p.tables e below (T39.setTop (mkF m 41 #[.val (.int p1), .val (.int p2), .val (.int p3), .val (.int p4), .val (.int (1 : Int32)), .val (.int (1 : Int32)), .val (.ref b37), .unset, .unset, .unset, .unset] [])) t_
        refine XS.iload X39.here hx rfl (hb hby at_41) rfl ?_
        show Steps p.tables e below (T39.setTop (mkF m 43 #[.val (.int p1), .val (.int p2), .val (.int p3), .val (.int p4), .val (.int (1 : Int32)), .val (.int (1 : Int32)), .val (.ref b37), .unset, .unset, .unset, .unset] [(.int (1 : Int32))])) t_
        refine XS.iconst X39.here hx rfl (hb hby at_43) ?_
        show Steps p.tables e below (T39.setTop (mkF m 44 #[.val (.int p1), .val (.int p2), .val (.int p3), .val (.int p4), .val (.int (1 : Int32)), .val (.int (1 : Int32)), .val (.ref b37), .unset, .unset, .unset, .unset] [(.int (2 : Int32)), (.int (1 : Int32))])) t_
        refine XS.icmpYes X39.here hx rfl (pc0 := 44) (pc' := 53) rfl (hb hby at_44) rfl (tlt (by decide : (1 : Int32) < (2 : Int32))).1 (by decide) (by decide) ?_
        show Steps p.tables e below (T39.setTop (mkF m 53 #[.val (.int p1), .val (.int p2), .val (.int p3), .val (.int p4), .val (.int (1 : Int32)), .val (.int (1 : Int32)), .val (.ref b37), .unset, .unset, .unset, .unset] [])) t_
        refine XS.iload X39.here hx rfl (hb hby at_53) rfl ?_
        show Steps p.tables e below (T39.setTop (mkF m 55 #[.val (.int p1), .val (.int p2), .val (.int p3), .val (.int p4), .val (.int (1 : Int32)), .val (.int (1 : Int32)), .val (.ref b37), .unset, .unset, .unset, .unset] [(.int (1 : Int32))])) t_
        refine XS.iconst X39.here hx rfl (hb hby at_55) ?_
        show Steps p.tables e below (T39.setTop (mkF m 56 #[.val (.int p1), .val (.int p2), .val (.int p3), .val (.int p4), .val (.int (1 : Int32)), .val (.int (1 : Int32)), .val (.ref b37), .unset, .unset, .unset, .unset] [(.int (3 : Int32)), (.int (1 : Int32))])) t_
        refine XS.icmpYes X39.here hx rfl (pc0 := 56) (pc' := 65) rfl (hb hby at_56) rfl (tlt (by decide : (1 : Int32) < (3 : Int32))).1 (by decide) (by decide) ?_
        show Steps p.tables e below (T39.setTop (mkF m 65 #[.val (.int p1), .val (.int p2), .val (.int p3), .val (.int p4), .val (.int (1 : Int32)), .val (.int (1 : Int32)), .val (.ref b37), .unset, .unset, .unset, .unset] [])) t_
        refine XS.iload X39.here hx rfl (hb hby at_65) rfl ?_
        show Steps p.tables e below (T39.setTop (mkF m 67 #[.val (.int p1), .val (.int p2), .val (.int p3), .val (.int p4), .val (.int (1 : Int32)), .val (.int (1 : Int32)), .val (.ref b37), .unset, .unset, .unset, .unset] [(.int (1 : Int32))])) t_
        refine XS.ifYes X39.here hx rfl (pc0 := 67) (pc' := 74) rfl (hb hby at_67) rfl ((if0 _ _).trans (feq (by decide : ¬ ((1 : Int32) = (0 : Int32)))).2) (by decide) (by decide) ?_
        show Steps p.tables e below (T39.setTop (mkF m 74 #[.val (.int p1), .val (.int p2), .val (.int p3), .val (.int p4), .val (.int (1 : Int32)), .val (.int (1 : Int32)), .val (.ref b37), .unset, .unset, .unset, .unset] [])) t_
        refine XS.iload X39.here hx rfl (hb hby at_74) rfl ?_
        show Steps p.tables e below (T39.setTop (mkF m 76 #[.val (.int p1), .val (.int p2), .val (.int p3), .val (.int p4), .val (.int (1 : Int32)), .val (.int (1 : Int32)), .val (.ref b37), .unset, .unset, .unset, .unset] [(.int (1 : Int32))])) t_
        refine XS.iconst X39.here hx rfl (hb hby at_76) ?_
        show Steps p.tables e below (T39.setTop (mkF m 77 #[.val (.int p1), .val (.int p2), .val (.int p3), .val (.int p4), .val (.int (1 : Int32)), .val (.int (1 : Int32)), .val (.ref b37), .unset, .unset, .unset, .unset] [(.int (1 : Int32)), (.int (1 : Int32))])) t_
        refine XS.icmpNo X39.here hx rfl (hb hby at_77) rfl (teq (by decide : (1 : Int32) = (1 : Int32))).2 ?_
        show Steps p.tables e below (T39.setTop (mkF m 80 #[.val (.int p1), .val (.int p2), .val (.int p3), .val (.int p4), .val (.int (1 : Int32)), .val (.int (1 : Int32)), .val (.ref b37), .unset, .unset, .unset, .unset] [])) t_
        refine XS.iconst X39.here hx rfl (hb hby at_80) ?_
        show Steps p.tables e below (T39.setTop (mkF m 81 #[.val (.int p1), .val (.int p2), .val (.int p3), .val (.int p4), .val (.int (1 : Int32)), .val (.int (1 : Int32)), .val (.ref b37), .unset, .unset, .unset, .unset] [(.int (1 : Int32))])) t_
        refine XS.goto X39.here hx rfl (pc0 := 81) (pc' := 95) rfl (hb hby at_81) (by decide) (by decide) ?_
        show Steps p.tables e below (T39.setTop (mkF m 95 #[.val (.int p1), .val (.int p2), .val (.int p3), .val (.int p4), .val (.int (1 : Int32)), .val (.int (1 : Int32)), .val (.ref b37), .unset, .unset, .unset, .unset] [(.int (1 : Int32))])) t_
        refine XS.istore X39.here hx rfl (hb hby at_95) rfl (l' := #[.val (.int p1), .val (.int p2), .val (.int p3), .val (.int p4), .val (.int (1 : Int32)), .val (.int (1 : Int32)), .val (.ref b37), .val (.int (1 : Int32)), .unset, .unset, .unset]) rfl ?_
        show Steps p.tables e below (T39.setTop (mkF m 97 #[.val (.int p1), .val (.int p2), .val (.int p3), .val (.int p4), .val (.int (1 : Int32)), .val (.int (1 : Int32)), .val (.ref b37), .val (.int (1 : Int32)), .unset, .unset, .unset] [])) t_
        refine XS.aload X39.here hx rfl (hb hby at_97) rfl rfl ?_
        exact k_
      obtain ⟨cq40, kq40, q40a, q40b, q40c⟩ := isOf hZ rfl ((A37.keep Kc38).keep Kc39)
      obtain ⟨_, _, ⟨T40, L40, k40, n40⟩, -, X40, ⟨Lc40, hQ40, l40, y40, z40⟩, st40⟩ := X39.virtualBack hx (y := own_y9) (z := own_y9) hown (mvT hZ (own_w hw 56 rfl)) (mvT hZ (own_w hw 57 rfl)) (notFace_of_selects (args := #[]) (mvT hZ (own_w hw 59 rfl))) (mvT hZ (own_w hw 59 rfl)) (mvT hZ (own_w hw 58 rfl)) (by decide) (backOf (W := 0) (rmTo1 l Z a0 hw [] b37 b_38 k_38 ((p1).toInt8.toInt32) (0 : Int32) (0 : Int32) (0 : Int32) T39.heap n0 (Nat.le_trans Z0 K39.1) ((A37.keep Kc38).keep Kc39) r39_0 r39_1 r39_2) hZ (own_w hw 60 rfl) (own_w hw 2 rfl) (by decide) (by decide)) q40a q40c (g := (mkF m 99 #[.val (.int p1), .val (.int p2), .val (.int p3), .val (.int p4), .val (.int (1 : Int32)), .val (.int (1 : Int32)), .val (.ref b37), .val (.int (1 : Int32)), .unset, .unset, .unset] [(.ref b37)])) rfl (by rw [hml]; rfl) (Steps.refl _) (argsL := []) (rest := []) (lenOf pd_5 rfl) rfl (by show 2 * 0 + _ ≤ _; exact Nat.le_of_eq rfl) (hb hby at_99) (fun _ _ => ⟨rfl, rfl, (by decide : 5 + 1 ≤ _), (by decide : 273 + 1 ≤ _)⟩)
      dsimp only [Pt.U, Pt.locs, Pt.cells, Pt.slots] at X40 l40 y40 z40 st40 hQ40
      subst l40 y40 z40
      obtain ⟨d_40, k2_40, rfl, N40q, Kc40, r40_0, r40_1⟩ := hQ40
      have N40 := Fr.app N39 N40q
      refine own_via st40 ?_
      have K40 : Keep h0 T40.heap [] := K39.trans Kc40 all0
      obtain ⟨cl41, Ar41, q41, S41, M41, H41, G41⟩ := id r40_1
      refine own_go (A := T40.setTop (mkF m 114 #[.val (.int p1), .val (.int p2), .val (.int p3), .val (.int p4), .val (.int (1 : Int32)), .val (.int (1 : Int32)), .val (.ref b37), .val (.int (1 : Int32)), .val (.ref d_40), .unset, .unset] [(.ref b37)])) (fun t_ k_ => ?_) ?_
      · show Steps p.tables e below (T40.setTop (mkF m 102 #[.val (.int p1), .val (.int p2), .val (.int p3), .val (.int p4), .val (.int (1 : Int32)), .val (.int (1 : Int32)), .val (.ref b37), .val (.int (1 : Int32)), .unset, .unset, .unset] [(.ref d_40)])) t_
        refine XS.astore X40.here hx rfl (hb hby at_102) rfl rfl (l' := #[.val (.int p1), .val (.int p2), .val (.int p3), .val (.int p4), .val (.int (1 : Int32)), .val (.int (1 : Int32)), .val (.ref b37), .val (.int (1 : Int32)), .val (.ref d_40), .unset, .unset]) rfl ?_
        show Steps p.tables e below (T40.setTop (mkF m 104 #[.val (.int p1), .val (.int p2), .val (.int p3), .val (.int p4), .val (.int (1 : Int32)), .val (.int (1 : Int32)), .val (.ref b37), .val (.int (1 : Int32)), .val (.ref d_40), .unset, .unset] [])) t_
        refine XS.aload X40.here hx rfl (hb hby at_104) rfl rfl ?_
        show Steps p.tables e below (T40.setTop (mkF m 106 #[.val (.int p1), .val (.int p2), .val (.int p3), .val (.int p4), .val (.int (1 : Int32)), .val (.int (1 : Int32)), .val (.ref b37), .val (.int (1 : Int32)), .val (.ref d_40), .unset, .unset] [(.ref d_40)])) t_
        refine X40.arraylength hx Ar41.1 (State.isArrayOf_alike hZ.alike Ar41.2.1) (g := (mkF m 106 #[.val (.int p1), .val (.int p2), .val (.int p3), .val (.int p4), .val (.int (1 : Int32)), .val (.int (1 : Int32)), .val (.ref b37), .val (.int (1 : Int32)), .val (.ref d_40), .unset, .unset] [(.ref d_40)])) rfl rfl (hb hby at_106) _ ?_
        rw [len_of S41 M41]
        show Steps p.tables e below (T40.setTop (mkF m 107 #[.val (.int p1), .val (.int p2), .val (.int p3), .val (.int p4), .val (.int (1 : Int32)), .val (.int (1 : Int32)), .val (.ref b37), .val (.int (1 : Int32)), .val (.ref d_40), .unset, .unset] [(.int (1 : Int32))])) t_
        refine XS.iload X40.here hx rfl (hb hby at_107) rfl ?_
        show Steps p.tables e below (T40.setTop (mkF m 109 #[.val (.int p1), .val (.int p2), .val (.int p3), .val (.int p4), .val (.int (1 : Int32)), .val (.int (1 : Int32)), .val (.ref b37), .val (.int (1 : Int32)), .val (.ref d_40), .unset, .unset] [(.int (1 : Int32)), (.int (1 : Int32))])) t_
        refine XS.icmpNo X40.here hx rfl (hb hby at_109) rfl (teq (by decide : (1 : Int32) = (1 : Int32))).2 ?_
        show Steps p.tables e below (T40.setTop (mkF m 112 #[.val (.int p1), .val (.int p2), .val (.int p3), .val (.int p4), .val (.int (1 : Int32)), .val (.int (1 : Int32)), .val (.ref b37), .val (.int (1 : Int32)), .val (.ref d_40), .unset, .unset] [])) t_
        refine XS.aload X40.here hx rfl (hb hby at_112) rfl rfl ?_
        exact k_
      obtain ⟨cq42, kq42, q42a, q42b, q42c⟩ := isOf hZ rfl (((A37.keep Kc38).keep Kc39).keep Kc40)
      obtain ⟨_, _, ⟨T42, L42, k42, n42⟩, -, X42, ⟨Lc42, hQ42, l42, y42, z42⟩, st42⟩ := X40.virtualBack hx (y := own_y10) (z := own_y10) hown (mvT hZ (own_w hw 73 rfl)) (mvT hZ (own_w hw 74 rfl)) (notFace_of_selects (args := #[]) (mvT hZ (own_w hw 76 rfl))) (mvT hZ (own_w hw 76 rfl)) (mvT hZ (own_w hw 75 rfl)) (by decide) (backOf (W := 0) (rmSize l Z a0 hw [] b37 (1 : Int32) T40.heap n0 (Nat.le_trans Z0 K40.1) (r39_1.keep Kc40 nin0)) hZ (own_w hw 77 rfl) (own_w hw 2 rfl) (by decide) (by decide)) q42a q42c (g := (mkF m 114 #[.val (.int p1), .val (.int p2), .val (.int p3), .val (.int p4), .val (.int (1 : Int32)), .val (.int (1 : Int32)), .val (.ref b37), .val (.int (1 : Int32)), .val (.ref d_40), .unset, .unset] [(.ref b37)])) rfl (by rw [hml]; rfl) (Steps.refl _) (argsL := []) (rest := []) (lenOf pd_6 rfl) rfl (by show 2 * 0 + _ ≤ _; exact Nat.le_of_eq rfl) (hb hby at_114) (fun _ _ => ⟨rfl, rfl, (by decide : 6 + 0 ≤ _), (by decide : 274 + 0 ≤ _)⟩)
      dsimp only [Pt.U, Pt.locs, Pt.cells, Pt.slots] at X42 l42 y42 z42 st42 hQ42
      subst l42 y42 z42
      obtain ⟨rfl, N42q, eh42⟩ := hQ42
      have N42 := Fr.app N40 N42q
      refine own_via st42 ?_
      obtain ⟨cl43, Ar43, q43, S43, M43, H43, G43⟩ := id r40_1
      have hin43 : ¬ ((0 : Int32) < 0 ∨ cl43.slots.size ≤ ((0 : Int32)).toNatClampNeg) := inb_of S43 ⟨by decide, by decide⟩
      have hat43 : cl43.slots[((0 : Int32)).toNatClampNeg]? = some (.int (p1).toInt8.toInt32) := Has.at H43 hin43 rfl
      obtain ⟨cl44, Ar44, q44, S44, M44, H44, G44⟩ := id r40_1
      have hin44 : ¬ ((0 : Int32) < 0 ∨ cl44.slots.size ≤ ((0 : Int32)).toNatClampNeg) := inb_of S44 ⟨by decide, by decide⟩
      have hat44 : cl44.slots[((0 : Int32)).toNatClampNeg]? = some (.int (p1).toInt8.toInt32) := Has.at H44 hin44 rfl
      refine own_go (A := T42.setTop (mkF m 202 #[.val (.int p1), .val (.int p2), .val (.int p3), .val (.int p4), .val (.int (1 : Int32)), .val (.int (1 : Int32)), .val (.ref b37), .val (.int (1 : Int32)), .val (.ref d_40), .unset, .unset] [(.int (((p1).toInt8.toInt32 ^^^ (1 : Int32))).toInt8.toInt32), (.int (0 : Int32)), (.ref d_40)])) (fun t_ k_ => ?_) ?_
      · show Steps p.tables e below (T42.setTop (mkF m 117 #[.val (.int p1), .val (.int p2), .val (.int p3), .val (.int p4), .val (.int (1 : Int32)), .val (.int (1 : Int32)), .val (.ref b37), .val (.int (1 : Int32)), .val (.ref d_40), .unset, .unset] [(.int (1 : Int32))])) t_
        refine XS.iload X42.here hx rfl (hb hby at_117) rfl ?_
        show Steps p.tables e below (T42.setTop (mkF m 119 #[.val (.int p1), .val (.int p2), .val (.int p3), .val (.int p4), .val (.int (1 : Int32)), .val (.int (1 : Int32)), .val (.ref b37), .val (.int (1 : Int32)), .val (.ref d_40), .unset, .unset] [(.int (1 : Int32)), (.int (1 : Int32))])) t_
        refine XS.icmpYes X42.here hx rfl (pc0 := 119) (pc' := 124) rfl (hb hby at_119) rfl (teq (by decide : (1 : Int32) = (1 : Int32))).1 (by decide) (by decide) ?_
        show Steps p.tables e below (T42.setTop (mkF m 124 #[.val (.int p1), .val (.int p2), .val (.int p3), .val (.int p4), .val (.int (1 : Int32)), .val (.int (1 : Int32)), .val (.ref b37), .val (.int (1 : Int32)), .val (.ref d_40), .unset, .unset] [])) t_
        refine XS.iload X42.here hx rfl (hb hby at_124) rfl ?_
        show Steps p.tables e below (T42.setTop (mkF m 126 #[.val (.int p1), .val (.int p2), .val (.int p3), .val (.int p4), .val (.int (1 : Int32)), .val (.int (1 : Int32)), .val (.ref b37), .val (.int (1 : Int32)), .val (.ref d_40), .unset, .unset] [(.int (1 : Int32))])) t_
        refine XS.iconst X42.here hx rfl (hb hby at_126) ?_
        show Steps p.tables e below (T42.setTop (mkF m 127 #[.val (.int p1), .val (.int p2), .val (.int p3), .val (.int p4), .val (.int (1 : Int32)), .val (.int (1 : Int32)), .val (.ref b37), .val (.int (1 : Int32)), .val (.ref d_40), .unset, .unset] [(.int (1 : Int32)), (.int (1 : Int32))])) t_
        refine XS.icmpNo X42.here hx rfl (hb hby at_127) rfl (flt (by decide : ¬ ((1 : Int32) < (1 : Int32)))).1 ?_
        show Steps p.tables e below (T42.setTop (mkF m 130 #[.val (.int p1), .val (.int p2), .val (.int p3), .val (.int p4), .val (.int (1 : Int32)), .val (.int (1 : Int32)), .val (.ref b37), .val (.int (1 : Int32)), .val (.ref d_40), .unset, .unset] [])) t_
        refine XS.aload X42.here hx rfl (hb hby at_130) rfl rfl ?_
        show Steps p.tables e below (T42.setTop (mkF m 132 #[.val (.int p1), .val (.int p2), .val (.int p3), .val (.int p4), .val (.int (1 : Int32)), .val (.int (1 : Int32)), .val (.ref b37), .val (.int (1 : Int32)), .val (.ref d_40), .unset, .unset] [(.ref d_40)])) t_
        refine XS.iconst X42.here hx rfl (hb hby at_132) ?_
        show Steps p.tables e below (T42.setTop (mkF m 133 #[.val (.int p1), .val (.int p2), .val (.int p3), .val (.int p4), .val (.int (1 : Int32)), .val (.int (1 : Int32)), .val (.ref b37), .val (.int (1 : Int32)), .val (.ref d_40), .unset, .unset] [(.int (0 : Int32)), (.ref d_40)])) t_
        refine X42.baloadBytes hx (j := (0 : Int32)) (v := (.int (p1).toInt8.toInt32)) (by rw [eh42]; exact Ar43.1) (State.isArrayOf_alike hZ.alike Ar43.2.1) Ar43.2.2 hin43 hat43 (g := (mkF m 133 #[.val (.int p1), .val (.int p2), .val (.int p3), .val (.int p4), .val (.int (1 : Int32)), .val (.int (1 : Int32)), .val (.ref b37), .val (.int (1 : Int32)), .val (.ref d_40), .unset, .unset] [(.int (0 : Int32)), (.ref d_40)])) rfl rfl (hb hby at_133) _ ?_
        show Steps p.tables e below (T42.setTop (mkF m 134 #[.val (.int p1), .val (.int p2), .val (.int p3), .val (.int p4), .val (.int (1 : Int32)), .val (.int (1 : Int32)), .val (.ref b37), .val (.int (1 : Int32)), .val (.ref d_40), .unset, .unset] [(.int (p1).toInt8.toInt32)])) t_
        refine XS.iloadN X42.here hx rfl (hb hby at_134) rfl ?_
        show Steps p.tables e below (T42.setTop (mkF m 135 #[.val (.int p1), .val (.int p2), .val (.int p3), .val (.int p4), .val (.int (1 : Int32)), .val (.int (1 : Int32)), .val (.ref b37), .val (.int (1 : Int32)), .val (.ref d_40), .unset, .unset] [(.int p1), (.int (p1).toInt8.toInt32)])) t_
        refine XS.i2b X42.here hx rfl (hb hby at_135) rfl ?_
        show Steps p.tables e below (T42.setTop (mkF m 136 #[.val (.int p1), .val (.int p2), .val (.int p3), .val (.int p4), .val (.int (1 : Int32)), .val (.int (1 : Int32)), .val (.ref b37), .val (.int (1 : Int32)), .val (.ref d_40), .unset, .unset] [(.int (p1).toInt8.toInt32), (.int (p1).toInt8.toInt32)])) t_
        refine XS.icmpYes X42.here hx rfl (pc0 := 136) (pc' := 141) rfl (hb hby at_136) rfl (teq (rfl : (p1).toInt8.toInt32 = (p1).toInt8.toInt32)).1 (by decide) (by decide) ?_
        show Steps p.tables e below (T42.setTop (mkF m 141 #[.val (.int p1), .val (.int p2), .val (.int p3), .val (.int p4), .val (.int (1 : Int32)), .val (.int (1 : Int32)), .val (.ref b37), .val (.int (1 : Int32)), .val (.ref d_40), .unset, .unset] [])) t_
        refine XS.iload X42.here hx rfl (hb hby at_141) rfl ?_
        show Steps p.tables e below (T42.setTop (mkF m 143 #[.val (.int p1), .val (.int p2), .val (.int p3), .val (.int p4), .val (.int (1 : Int32)), .val (.int (1 : Int32)), .val (.ref b37), .val (.int (1 : Int32)), .val (.ref d_40), .unset, .unset] [(.int (1 : Int32))])) t_
        refine XS.iconst X42.here hx rfl (hb hby at_143) ?_
        show Steps p.tables e below (T42.setTop (mkF m 144 #[.val (.int p1), .val (.int p2), .val (.int p3), .val (.int p4), .val (.int (1 : Int32)), .val (.int (1 : Int32)), .val (.ref b37), .val (.int (1 : Int32)), .val (.ref d_40), .unset, .unset] [(.int (2 : Int32)), (.int (1 : Int32))])) t_
        refine XS.icmpYes X42.here hx rfl (pc0 := 144) (pc' := 170) rfl (hb hby at_144) rfl (tlt (by decide : (1 : Int32) < (2 : Int32))).1 (by decide) (by decide) ?_
        show Steps p.tables e below (T42.setTop (mkF m 170 #[.val (.int p1), .val (.int p2), .val (.int p3), .val (.int p4), .val (.int (1 : Int32)), .val (.int (1 : Int32)), .val (.ref b37), .val (.int (1 : Int32)), .val (.ref d_40), .unset, .unset] [])) t_
        refine XS.iload X42.here hx rfl (hb hby at_170) rfl ?_
        show Steps p.tables e below (T42.setTop (mkF m 172 #[.val (.int p1), .val (.int p2), .val (.int p3), .val (.int p4), .val (.int (1 : Int32)), .val (.int (1 : Int32)), .val (.ref b37), .val (.int (1 : Int32)), .val (.ref d_40), .unset, .unset] [(.int (1 : Int32))])) t_
        refine XS.iconst X42.here hx rfl (hb hby at_172) ?_
        show Steps p.tables e below (T42.setTop (mkF m 173 #[.val (.int p1), .val (.int p2), .val (.int p3), .val (.int p4), .val (.int (1 : Int32)), .val (.int (1 : Int32)), .val (.ref b37), .val (.int (1 : Int32)), .val (.ref d_40), .unset, .unset] [(.int (3 : Int32)), (.int (1 : Int32))])) t_
        refine XS.icmpYes X42.here hx rfl (pc0 := 173) (pc' := 187) rfl (hb hby at_173) rfl (tlt (by decide : (1 : Int32) < (3 : Int32))).1 (by decide) (by decide) ?_
        show Steps p.tables e below (T42.setTop (mkF m 187 #[.val (.int p1), .val (.int p2), .val (.int p3), .val (.int p4), .val (.int (1 : Int32)), .val (.int (1 : Int32)), .val (.ref b37), .val (.int (1 : Int32)), .val (.ref d_40), .unset, .unset] [])) t_
        refine XS.iload X42.here hx rfl (hb hby at_187) rfl ?_
        show Steps p.tables e below (T42.setTop (mkF m 189 #[.val (.int p1), .val (.int p2), .val (.int p3), .val (.int p4), .val (.int (1 : Int32)), .val (.int (1 : Int32)), .val (.ref b37), .val (.int (1 : Int32)), .val (.ref d_40), .unset, .unset] [(.int (1 : Int32))])) t_
        refine XS.ifNo X42.here hx rfl (hb hby at_189) rfl ((if0 _ _).trans (tlt (by decide : (0 : Int32) < (1 : Int32))).2.2.2) ?_
        show Steps p.tables e below (T42.setTop (mkF m 192 #[.val (.int p1), .val (.int p2), .val (.int p3), .val (.int p4), .val (.int (1 : Int32)), .val (.int (1 : Int32)), .val (.ref b37), .val (.int (1 : Int32)), .val (.ref d_40), .unset, .unset] [])) t_
        refine XS.aload X42.here hx rfl (hb hby at_192) rfl rfl ?_
        show Steps p.tables e below (T42.setTop (mkF m 194 #[.val (.int p1), .val (.int p2), .val (.int p3), .val (.int p4), .val (.int (1 : Int32)), .val (.int (1 : Int32)), .val (.ref b37), .val (.int (1 : Int32)), .val (.ref d_40), .unset, .unset] [(.ref d_40)])) t_
        refine XS.iconst X42.here hx rfl (hb hby at_194) ?_
        show Steps p.tables e below (T42.setTop (mkF m 195 #[.val (.int p1), .val (.int p2), .val (.int p3), .val (.int p4), .val (.int (1 : Int32)), .val (.int (1 : Int32)), .val (.ref b37), .val (.int (1 : Int32)), .val (.ref d_40), .unset, .unset] [(.int (0 : Int32)), (.ref d_40)])) t_
        refine XS.aload X42.here hx rfl (hb hby at_195) rfl rfl ?_
        show Steps p.tables e below (T42.setTop (mkF m 197 #[.val (.int p1), .val (.int p2), .val (.int p3), .val (.int p4), .val (.int (1 : Int32)), .val (.int (1 : Int32)), .val (.ref b37), .val (.int (1 : Int32)), .val (.ref d_40), .unset, .unset] [(.ref d_40), (.int (0 : Int32)), (.ref d_40)])) t_
        refine XS.iconst X42.here hx rfl (hb hby at_197) ?_
        show Steps p.tables e below (T42.setTop (mkF m 198 #[.val (.int p1), .val (.int p2), .val (.int p3), .val (.int p4), .val (.int (1 : Int32)), .val (.int (1 : Int32)), .val (.ref b37), .val (.int (1 : Int32)), .val (.ref d_40), .unset, .unset] [(.int (0 : Int32)), (.ref d_40), (.int (0 : Int32)), (.ref d_40)])) t_
        refine X42.baloadBytes hx (j := (0 : Int32)) (v := (.int (p1).toInt8.toInt32)) (by rw [eh42]; exact Ar44.1) (State.isArrayOf_alike hZ.alike Ar44.2.1) Ar44.2.2 hin44 hat44 (g := (mkF m 198 #[.val (.int p1), .val (.int p2), .val (.int p3), .val (.int p4), .val (.int (1 : Int32)), .val (.int (1 : Int32)), .val (.ref b37), .val (.int (1 : Int32)), .val (.ref d_40), .unset, .unset] [(.int (0 : Int32)), (.ref d_40), (.int (0 : Int32)), (.ref d_40)])) rfl rfl (hb hby at_198) _ ?_
        show Steps p.tables e below (T42.setTop (mkF m 199 #[.val (.int p1), .val (.int p2), .val (.int p3), .val (.int p4), .val (.int (1 : Int32)), .val (.int (1 : Int32)), .val (.ref b37), .val (.int (1 : Int32)), .val (.ref d_40), .unset, .unset] [(.int (p1).toInt8.toInt32), (.int (0 : Int32)), (.ref d_40)])) t_
        refine XS.iconst X42.here hx rfl (hb hby at_199) ?_
        show Steps p.tables e below (T42.setTop (mkF m 200 #[.val (.int p1), .val (.int p2), .val (.int p3), .val (.int p4), .val (.int (1 : Int32)), .val (.int (1 : Int32)), .val (.ref b37), .val (.int (1 : Int32)), .val (.ref d_40), .unset, .unset] [(.int (1 : Int32)), (.int (p1).toInt8.toInt32), (.int (0 : Int32)), (.ref d_40)])) t_
        refine XS.ixor X42.here hx rfl (hb hby at_200) rfl ?_
        show Steps p.tables e below (T42.setTop (mkF m 201 #[.val (.int p1), .val (.int p2), .val (.int p3), .val (.int p4), .val (.int (1 : Int32)), .val (.int (1 : Int32)), .val (.ref b37), .val (.int (1 : Int32)), .val (.ref d_40), .unset, .unset] [(.int ((p1).toInt8.toInt32 ^^^ (1 : Int32))), (.int (0 : Int32)), (.ref d_40)])) t_
        refine XS.i2b X42.here hx rfl (hb hby at_201) rfl ?_
        exact k_
      obtain ⟨cl45, Ar45, q45, S45, M45, H45, G45⟩ := id r40_1
      have hin45 : ¬ ((0 : Int32) < 0 ∨ cl45.slots.size ≤ ((0 : Int32)).toNatClampNeg) := inb_of S45 ⟨by decide, by decide⟩
      obtain ⟨T46, h46, X46, e46, W46, st46⟩ := stB X42 hx hZ eh42 Ar45 (j := (0 : Int32)) hin45 (g := (mkF m 202 #[.val (.int p1), .val (.int p2), .val (.int p3), .val (.int p4), .val (.int (1 : Int32)), .val (.int (1 : Int32)), .val (.ref b37), .val (.int (1 : Int32)), .val (.ref d_40), .unset, .unset] [(.int (((p1).toInt8.toInt32 ^^^ (1 : Int32))).toInt8.toInt32), (.int (0 : Int32)), (.ref d_40)])) rfl rfl (hb hby at_202)
      rw [own_narb] at W46
      have B46 : Arv Z h46 d_40 k2_40 .byte (1 : Int32) [(.int (((p1).toInt8.toInt32 ^^^ (1 : Int32))).toInt8.toInt32)] (.int (0 : Int32)) := Arv.set Ar45 q45 S45 M45 H45 G45 (fits_nar_byte _) W46 0 rfl (Nat.le_of_ble_eq_true rfl)
      refine own_go st46 ?_
      have K46 : Keep h0 h46 [] := K40.wr W46 (Or.inr (Nat.le_trans K39.1 r40_0))
      have N46 := Fr.snoc X46 N42 (Nat.le_trans Z0 (Nat.le_trans K39.1 r40_0))
      refine own_go (A := T46.setTop (mkF m 205 #[.val (.int p1), .val (.int p2), .val (.int p3), .val (.int p4), .val (.int (1 : Int32)), .val (.int (1 : Int32)), .val (.ref b37), .val (.int (1 : Int32)), .val (.ref d_40), .unset, .unset] [(.ref b37)])) (fun t_ k_ => ?_) ?_
      · show Steps p.tables e below (T46.setTop (mkF m 203 #[.val (.int p1), .val (.int p2), .val (.int p3), .val (.int p4), .val (.int (1 : Int32)), .val (.int (1 : Int32)), .val (.ref b37), .val (.int (1 : Int32)), .val (.ref d_40), .unset, .unset] [])) t_
        refine XS.aload X46.here hx rfl (hb hby at_203) rfl rfl ?_
        exact k_
      obtain ⟨cq47, kq47, q47a, q47b, q47c⟩ := isOf hZ e46 ((((A37.keep Kc38).keep Kc39).keep Kc40).wr W46)
      obtain ⟨_, _, ⟨T47, L47, k47, n47⟩, -, X47, ⟨Lc47, hQ47, l47, y47, z47⟩, st47⟩ := X46.virtualBack hx (y := own_y9) (z := own_y9) hown (mvT hZ (own_w hw 56 rfl)) (mvT hZ (own_w hw 57 rfl)) (notFace_of_selects (args := #[]) (mvT hZ (own_w hw 59 rfl))) (mvT hZ (own_w hw 59 rfl)) (mvT hZ (own_w hw 58 rfl)) (by decide) (backOf (W := 0) (rmTo1 l Z a0 hw [] b37 b_38 k_38 ((p1).toInt8.toInt32) (0 : Int32) (0 : Int32) (0 : Int32) h46 n0 (Nat.le_trans Z0 K46.1) ((((A37.keep Kc38).keep Kc39).keep Kc40).wr W46) ((r39_0.keep Kc40 nin0).other W46 (Or.inl (Nat.ne_of_lt (Nat.lt_of_lt_of_le (Nat.lt_of_lt_of_le (Nat.lt_of_lt_of_le A37.lt Kc38.1) Kc39.1) r40_0)))) ((r39_1.keep Kc40 nin0).other W46 (Or.inl (Nat.ne_of_lt (Nat.lt_of_lt_of_le (Nat.lt_of_lt_of_le (Nat.lt_of_lt_of_le A37.lt Kc38.1) Kc39.1) r40_0)))) ((r39_2.keep Kc40 nin0).other W46 (Nat.ne_of_lt (Nat.lt_of_lt_of_le (Nat.lt_of_lt_of_le r38_3.lt Kc39.1) r40_0)))) hZ (own_w hw 60 rfl) (own_w hw 2 rfl) (by decide) (by decide)) q47a q47c (g := (mkF m 205 #[.val (.int p1), .val (.int p2), .val (.int p3), .val (.int p4), .val (.int (1 : Int32)), .val (.int (1 : Int32)), .val (.ref b37), .val (.int (1 : Int32)), .val (.ref d_40), .unset, .unset] [(.ref b37)])) rfl (by rw [hml]; rfl) (Steps.refl _) (argsL := []) (rest := []) (lenOf pd_5 rfl) rfl (by show 2 * 0 + _ ≤ _; exact Nat.le_of_eq rfl) (hb hby at_205) (fun _ _ => ⟨rfl, e46, (by decide : 6 + 1 ≤ _), (by decide : 274 + 1 ≤ _)⟩)
      dsimp only [Pt.U, Pt.locs, Pt.cells, Pt.slots] at X47 l47 y47 z47 st47 hQ47
      subst l47 y47 z47
      obtain ⟨d_47, k2_47, rfl, N47q, Kc47, r47_0, r47_1⟩ := hQ47
      have N47 := Fr.app N46 N47q
      refine own_via st47 ?_
      have K47 : Keep h0 T47.heap [] := K46.trans Kc47 all0
      obtain ⟨cl48, Ar48, q48, S48, M48, H48, G48⟩ := id r47_1
      obtain ⟨cl49, Ar49, q49, S49, M49, H49, G49⟩ := id r47_1
      have hin49 : ¬ ((0 : Int32) < 0 ∨ cl49.slots.size ≤ ((0 : Int32)).toNatClampNeg) := inb_of S49 ⟨by decide, by decide⟩
      have hat49 : cl49.slots[((0 : Int32)).toNatClampNeg]? = some (.int (p1).toInt8.toInt32) := Has.at H49 hin49 rfl
      refine own_go (A := T47.setTop (mkF m 244 #[.val (.int p1), .val (.int p2), .val (.int p3), .val (.int p4), .val (.int (1 : Int32)), .val (.int (1 : Int32)), .val (.ref b37), .val (.int (1 : Int32)), .val (.ref d_40), .val (.ref d_47), .unset] [(.ref b37)])) (fun t_ k_ => ?_) ?_
      · show Steps p.tables e below (T47.setTop (mkF m 208 #[.val (.int p1), .val (.int p2), .val (.int p3), .val (.int p4), .val (.int (1 : Int32)), .val (.int (1 : Int32)), .val (.ref b37), .val (.int (1 : Int32)), .val (.ref d_40), .unset, .unset] [(.ref d_47)])) t_
        refine XS.astore X47.here hx rfl (hb hby at_208) rfl rfl (l' := #[.val (.int p1), .val (.int p2), .val (.int p3), .val (.int p4), .val (.int (1 : Int32)), .val (.int (1 : Int32)), .val (.ref b37), .val (.int (1 : Int32)), .val (.ref d_40), .val (.ref d_47), .unset]) rfl ?_
        show Steps p.tables e below (T47.setTop (mkF m 210 #[.val (.int p1), .val (.int p2), .val (.int p3), .val (.int p4), .val (.int (1 : Int32)), .val (.int (1 : Int32)), .val (.ref b37), .val (.int (1 : Int32)), .val (.ref d_40), .val (.ref d_47), .unset] [])) t_
        refine XS.aload X47.here hx rfl (hb hby at_210) rfl rfl ?_
        show Steps p.tables e below (T47.setTop (mkF m 212 #[.val (.int p1), .val (.int p2), .val (.int p3), .val (.int p4), .val (.int (1 : Int32)), .val (.int (1 : Int32)), .val (.ref b37), .val (.int (1 : Int32)), .val (.ref d_40), .val (.ref d_47), .unset] [(.ref d_47)])) t_
        refine X47.arraylength hx Ar48.1 (State.isArrayOf_alike hZ.alike Ar48.2.1) (g := (mkF m 212 #[.val (.int p1), .val (.int p2), .val (.int p3), .val (.int p4), .val (.int (1 : Int32)), .val (.int (1 : Int32)), .val (.ref b37), .val (.int (1 : Int32)), .val (.ref d_40), .val (.ref d_47), .unset] [(.ref d_47)])) rfl rfl (hb hby at_212) _ ?_
        rw [len_of S48 M48]
        show Steps p.tables e below (T47.setTop (mkF m 213 #[.val (.int p1), .val (.int p2), .val (.int p3), .val (.int p4), .val (.int (1 : Int32)), .val (.int (1 : Int32)), .val (.ref b37), .val (.int (1 : Int32)), .val (.ref d_40), .val (.ref d_47), .unset] [(.int (1 : Int32))])) t_
        refine XS.iload X47.here hx rfl (hb hby at_213) rfl ?_
        show Steps p.tables e below (T47.setTop (mkF m 215 #[.val (.int p1), .val (.int p2), .val (.int p3), .val (.int p4), .val (.int (1 : Int32)), .val (.int (1 : Int32)), .val (.ref b37), .val (.int (1 : Int32)), .val (.ref d_40), .val (.ref d_47), .unset] [(.int (1 : Int32)), (.int (1 : Int32))])) t_
        refine XS.icmpYes X47.here hx rfl (pc0 := 215) (pc' := 220) rfl (hb hby at_215) rfl (teq (by decide : (1 : Int32) = (1 : Int32))).1 (by decide) (by decide) ?_
        show Steps p.tables e below (T47.setTop (mkF m 220 #[.val (.int p1), .val (.int p2), .val (.int p3), .val (.int p4), .val (.int (1 : Int32)), .val (.int (1 : Int32)), .val (.ref b37), .val (.int (1 : Int32)), .val (.ref d_40), .val (.ref d_47), .unset] [])) t_
        refine XS.iload X47.here hx rfl (hb hby at_220) rfl ?_
        show Steps p.tables e below (T47.setTop (mkF m 222 #[.val (.int p1), .val (.int p2), .val (.int p3), .val (.int p4), .val (.int (1 : Int32)), .val (.int (1 : Int32)), .val (.ref b37), .val (.int (1 : Int32)), .val (.ref d_40), .val (.ref d_47), .unset] [(.int (1 : Int32))])) t_
        refine XS.iconst X47.here hx rfl (hb hby at_222) ?_
        show Steps p.tables e below (T47.setTop (mkF m 223 #[.val (.int p1), .val (.int p2), .val (.int p3), .val (.int p4), .val (.int (1 : Int32)), .val (.int (1 : Int32)), .val (.ref b37), .val (.int (1 : Int32)), .val (.ref d_40), .val (.ref d_47), .unset] [(.int (1 : Int32)), (.int (1 : Int32))])) t_
        refine XS.icmpNo X47.here hx rfl (hb hby at_223) rfl (flt (by decide : ¬ ((1 : Int32) < (1 : Int32)))).1 ?_
        show Steps p.tables e below (T47.setTop (mkF m 226 #[.val (.int p1), .val (.int p2), .val (.int p3), .val (.int p4), .val (.int (1 : Int32)), .val (.int (1 : Int32)), .val (.ref b37), .val (.int (1 : Int32)), .val (.ref d_40), .val (.ref d_47), .unset] [])) t_
        refine XS.aload X47.here hx rfl (hb hby at_226) rfl rfl ?_
        show Steps p.tables e below (T47.setTop (mkF m 228 #[.val (.int p1), .val (.int p2), .val (.int p3), .val (.int p4), .val (.int (1 : Int32)), .val (.int (1 : Int32)), .val (.ref b37), .val (.int (1 : Int32)), .val (.ref d_40), .val (.ref d_47), .unset] [(.ref d_47)])) t_
        refine XS.iconst X47.here hx rfl (hb hby at_228) ?_
        show Steps p.tables e below (T47.setTop (mkF m 229 #[.val (.int p1), .val (.int p2), .val (.int p3), .val (.int p4), .val (.int (1 : Int32)), .val (.int (1 : Int32)), .val (.ref b37), .val (.int (1 : Int32)), .val (.ref d_40), .val (.ref d_47), .unset] [(.int (0 : Int32)), (.ref d_47)])) t_
        refine X47.baloadBytes hx (j := (0 : Int32)) (v := (.int (p1).toInt8.toInt32)) Ar49.1 (State.isArrayOf_alike hZ.alike Ar49.2.1) Ar49.2.2 hin49 hat49 (g := (mkF m 229 #[.val (.int p1), .val (.int p2), .val (.int p3), .val (.int p4), .val (.int (1 : Int32)), .val (.int (1 : Int32)), .val (.ref b37), .val (.int (1 : Int32)), .val (.ref d_40), .val (.ref d_47), .unset] [(.int (0 : Int32)), (.ref d_47)])) rfl rfl (hb hby at_229) _ ?_
        show Steps p.tables e below (T47.setTop (mkF m 230 #[.val (.int p1), .val (.int p2), .val (.int p3), .val (.int p4), .val (.int (1 : Int32)), .val (.int (1 : Int32)), .val (.ref b37), .val (.int (1 : Int32)), .val (.ref d_40), .val (.ref d_47), .unset] [(.int (p1).toInt8.toInt32)])) t_
        refine XS.iloadN X47.here hx rfl (hb hby at_230) rfl ?_
        show Steps p.tables e below (T47.setTop (mkF m 231 #[.val (.int p1), .val (.int p2), .val (.int p3), .val (.int p4), .val (.int (1 : Int32)), .val (.int (1 : Int32)), .val (.ref b37), .val (.int (1 : Int32)), .val (.ref d_40), .val (.ref d_47), .unset] [(.int p1), (.int (p1).toInt8.toInt32)])) t_
        refine XS.i2b X47.here hx rfl (hb hby at_231) rfl ?_
        show Steps p.tables e below (T47.setTop (mkF m 232 #[.val (.int p1), .val (.int p2), .val (.int p3), .val (.int p4), .val (.int (1 : Int32)), .val (.int (1 : Int32)), .val (.ref b37), .val (.int (1 : Int32)), .val (.ref d_40), .val (.ref d_47), .unset] [(.int (p1).toInt8.toInt32), (.int (p1).toInt8.toInt32)])) t_
        refine XS.icmpYes X47.here hx rfl (pc0 := 232) (pc' := 237) rfl (hb hby at_232) rfl (teq (rfl : (p1).toInt8.toInt32 = (p1).toInt8.toInt32)).1 (by decide) (by decide) ?_
        show Steps p.tables e below (T47.setTop (mkF m 237 #[.val (.int p1), .val (.int p2), .val (.int p3), .val (.int p4), .val (.int (1 : Int32)), .val (.int (1 : Int32)), .val (.ref b37), .val (.int (1 : Int32)), .val (.ref d_40), .val (.ref d_47), .unset] [])) t_
        refine XS.iload X47.here hx rfl (hb hby at_237) rfl ?_
        show Steps p.tables e below (T47.setTop (mkF m 239 #[.val (.int p1), .val (.int p2), .val (.int p3), .val (.int p4), .val (.int (1 : Int32)), .val (.int (1 : Int32)), .val (.ref b37), .val (.int (1 : Int32)), .val (.ref d_40), .val (.ref d_47), .unset] [(.int (1 : Int32))])) t_
        refine XS.ifNo X47.here hx rfl (hb hby at_239) rfl ((if0 _ _).trans (feq (by decide : ¬ ((1 : Int32) = (0 : Int32)))).1) ?_
        show Steps p.tables e below (T47.setTop (mkF m 242 #[.val (.int p1), .val (.int p2), .val (.int p3), .val (.int p4), .val (.int (1 : Int32)), .val (.int (1 : Int32)), .val (.ref b37), .val (.int (1 : Int32)), .val (.ref d_40), .val (.ref d_47), .unset] [])) t_
        refine XS.aload X47.here hx rfl (hb hby at_242) rfl rfl ?_
        exact k_
      obtain ⟨cq50, kq50, q50a, q50b, q50c⟩ := isOf hZ rfl (((((A37.keep Kc38).keep Kc39).keep Kc40).wr W46).keep Kc47)
      obtain ⟨_, _, ⟨T50, L50, k50, n50⟩, -, X50, ⟨Lc50, hQ50, l50, y50, z50⟩, st50⟩ := X47.virtualBack hx (y := own_y11) (z := own_y11) hown (mvT hZ (own_w hw 83 rfl)) (mvT hZ (own_w hw 84 rfl)) (notFace_of_selects (args := #[]) (mvT hZ (own_w hw 86 rfl))) (mvT hZ (own_w hw 86 rfl)) (mvT hZ (own_w hw 85 rfl)) (by decide) (backOf (W := 0) (rmReset l Z a0 hw [] b37 b_38 (1 : Int32) T47.heap n0 (Nat.le_trans Z0 K47.1) (((((A37.keep Kc38).keep Kc39).keep Kc40).wr W46).keep Kc47) (((r39_0.keep Kc40 nin0).other W46 (Or.inl (Nat.ne_of_lt (Nat.lt_of_lt_of_le (Nat.lt_of_lt_of_le (Nat.lt_of_lt_of_le A37.lt Kc38.1) Kc39.1) r40_0)))).keep Kc47 nin0) (((r39_1.keep Kc40 nin0).other W46 (Or.inl (Nat.ne_of_lt (Nat.lt_of_lt_of_le (Nat.lt_of_lt_of_le (Nat.lt_of_lt_of_le A37.lt Kc38.1) Kc39.1) r40_0)))).keep Kc47 nin0) (Nat.le_trans Z0 (Nat.le_of_eq g37.symm))) hZ (own_w hw 87 rfl) (own_w hw 2 rfl) (by decide) (by decide)) q50a q50c (g := (mkF m 244 #[.val (.int p1), .val (.int p2), .val (.int p3), .val (.int p4), .val (.int (1 : Int32)), .val (.int (1 : Int32)), .val (.ref b37), .val (.int (1 : Int32)), .val (.ref d_40), .val (.ref d_47), .unset] [(.ref b37)])) rfl (by rw [hml]; rfl) (Steps.refl _) (argsL := []) (rest := []) (lenOf pd_0 rfl) rfl (by show 2 * 0 + _ ≤ _; exact Nat.le_of_eq rfl) (hb hby at_244) (fun _ _ => ⟨rfl, rfl, (by decide : 7 + 0 ≤ _), (by decide : 275 + 0 ≤ _)⟩)
      dsimp only [Pt.U, Pt.locs, Pt.cells, Pt.slots] at X50 l50 y50 z50 st50 hQ50
      subst l50 y50 z50
      obtain ⟨rfl, N50q, Kc50, r50_0, r50_1⟩ := hQ50
      have N50 := Fr.app N47 N50q
      refine own_via st50 ?_
      have K50 : Keep h0 T50.heap [] := K47.trans Kc50 (allS (P := fun x => x ∈ _ ∨ _ ≤ x) (Or.inr (Nat.le_of_eq g37.symm)) all0)
      refine own_go (A := T50.setTop (mkF m 249 #[.val (.int p1), .val (.int p2), .val (.int p3), .val (.int p4), .val (.int (1 : Int32)), .val (.int (1 : Int32)), .val (.ref b37), .val (.int (1 : Int32)), .val (.ref d_40), .val (.ref d_47), .unset] [(.ref b37)])) (fun t_ k_ => ?_) ?_
      · show Steps p.tables e below (T50.setTop (mkF m 247 #[.val (.int p1), .val (.int p2), .val (.int p3), .val (.int p4), .val (.int (1 : Int32)), .val (.int (1 : Int32)), .val (.ref b37), .val (.int (1 : Int32)), .val (.ref d_40), .val (.ref d_47), .unset] [])) t_
        refine XS.aload X50.here hx rfl (hb hby at_247) rfl rfl ?_
        exact k_
      obtain ⟨cq51, kq51, q51a, q51b, q51c⟩ := isOf hZ rfl ((((((A37.keep Kc38).keep Kc39).keep Kc40).wr W46).keep Kc47).keep Kc50)
      obtain ⟨_, _, ⟨T51, L51, k51, n51⟩, -, X51, ⟨Lc51, hQ51, l51, y51, z51⟩, st51⟩ := X50.virtualBack hx (y := own_y9) (z := own_y9) hown (mvT hZ (own_w hw 56 rfl)) (mvT hZ (own_w hw 57 rfl)) (notFace_of_selects (args := #[]) (mvT hZ (own_w hw 59 rfl))) (mvT hZ (own_w hw 59 rfl)) (mvT hZ (own_w hw 58 rfl)) (by decide) (backOf (W := 0) (rmTo0 l Z a0 hw [] b37 b_38 k_38 ((p1).toInt8.toInt32) (0 : Int32) (0 : Int32) (0 : Int32) T50.heap n0 (Nat.le_trans Z0 K50.1) ((((((A37.keep Kc38).keep Kc39).keep Kc40).wr W46).keep Kc47).keep Kc50) r50_0 r50_1 ((((r39_2.keep Kc40 nin0).other W46 (Nat.ne_of_lt (Nat.lt_of_lt_of_le (Nat.lt_of_lt_of_le r38_3.lt Kc39.1) r40_0))).keep Kc47 nin0).keep Kc50 (ninS (Ne.symm (Nat.ne_of_lt (Nat.lt_of_lt_of_le A37.lt r38_0))) nin0))) hZ (own_w hw 60 rfl) (own_w hw 2 rfl) (by decide) (by decide)) q51a q51c (g := (mkF m 249 #[.val (.int p1), .val (.int p2), .val (.int p3), .val (.int p4), .val (.int (1 : Int32)), .val (.int (1 : Int32)), .val (.ref b37), .val (.int (1 : Int32)), .val (.ref d_40), .val (.ref d_47), .unset] [(.ref b37)])) rfl (by rw [hml]; rfl) (Steps.refl _) (argsL := []) (rest := []) (lenOf pd_5 rfl) rfl (by show 2 * 0 + _ ≤ _; exact Nat.le_of_eq rfl) (hb hby at_249) (fun _ _ => ⟨rfl, rfl, (by decide : 7 + 1 ≤ _), (by decide : 275 + 0 ≤ _)⟩)
      dsimp only [Pt.U, Pt.locs, Pt.cells, Pt.slots] at X51 l51 y51 z51 st51 hQ51
      subst l51 y51 z51
      obtain ⟨d_51, k2_51, rfl, N51q, Kc51, r51_0, r51_1⟩ := hQ51
      have N51 := Fr.app N50 N51q
      refine own_via st51 ?_
      have K51 : Keep h0 T51.heap [] := K50.trans Kc51 all0
      obtain ⟨cl52, Ar52, q52, S52, M52, H52, G52⟩ := id r51_1
      refine own_go (A := T51.setTop (mkF m 263 #[.val (.int p1), .val (.int p2), .val (.int p3), .val (.int p4), .val (.int (1 : Int32)), .val (.int (1 : Int32)), .val (.ref b37), .val (.int (1 : Int32)), .val (.ref d_40), .val (.ref d_47), .val (.ref d_51)] [(.int (1 : Int32))])) (fun t_ k_ => ?_) ?_
      · show Steps p.tables e below (T51.setTop (mkF m 252 #[.val (.int p1), .val (.int p2), .val (.int p3), .val (.int p4), .val (.int (1 : Int32)), .val (.int (1 : Int32)), .val (.ref b37), .val (.int (1 : Int32)), .val (.ref d_40), .val (.ref d_47), .unset] [(.ref d_51)])) t_
        refine XS.astore X51.here hx rfl (hb hby at_252) rfl rfl (l' := #[.val (.int p1), .val (.int p2), .val (.int p3), .val (.int p4), .val (.int (1 : Int32)), .val (.int (1 : Int32)), .val (.ref b37), .val (.int (1 : Int32)), .val (.ref d_40), .val (.ref d_47), .val (.ref d_51)]) rfl ?_
        show Steps p.tables e below (T51.setTop (mkF m 254 #[.val (.int p1), .val (.int p2), .val (.int p3), .val (.int p4), .val (.int (1 : Int32)), .val (.int (1 : Int32)), .val (.ref b37), .val (.int (1 : Int32)), .val (.ref d_40), .val (.ref d_47), .val (.ref d_51)] [])) t_
        refine XS.aload X51.here hx rfl (hb hby at_254) rfl rfl ?_
        show Steps p.tables e below (T51.setTop (mkF m 256 #[.val (.int p1), .val (.int p2), .val (.int p3), .val (.int p4), .val (.int (1 : Int32)), .val (.int (1 : Int32)), .val (.ref b37), .val (.int (1 : Int32)), .val (.ref d_40), .val (.ref d_47), .val (.ref d_51)] [(.ref d_51)])) t_
        refine X51.arraylength hx Ar52.1 (State.isArrayOf_alike hZ.alike Ar52.2.1) (g := (mkF m 256 #[.val (.int p1), .val (.int p2), .val (.int p3), .val (.int p4), .val (.int (1 : Int32)), .val (.int (1 : Int32)), .val (.ref b37), .val (.int (1 : Int32)), .val (.ref d_40), .val (.ref d_47), .val (.ref d_51)] [(.ref d_51)])) rfl rfl (hb hby at_256) _ ?_
        rw [len_of S52 M52]
        show Steps p.tables e below (T51.setTop (mkF m 257 #[.val (.int p1), .val (.int p2), .val (.int p3), .val (.int p4), .val (.int (1 : Int32)), .val (.int (1 : Int32)), .val (.ref b37), .val (.int (1 : Int32)), .val (.ref d_40), .val (.ref d_47), .val (.ref d_51)] [(.int (0 : Int32))])) t_
        refine XS.ifYes X51.here hx rfl (pc0 := 257) (pc' := 262) rfl (hb hby at_257) rfl ((if0 _ _).trans (teq (by decide : (0 : Int32) = (0 : Int32))).1) (by decide) (by decide) ?_
        show Steps p.tables e below (T51.setTop (mkF m 262 #[.val (.int p1), .val (.int p2), .val (.int p3), .val (.int p4), .val (.int (1 : Int32)), .val (.int (1 : Int32)), .val (.ref b37), .val (.int (1 : Int32)), .val (.ref d_40), .val (.ref d_47), .val (.ref d_51)] [])) t_
        refine XS.iconst X51.here hx rfl (hb hby at_262) ?_
        exact k_
      obtain ⟨fs53, hr53, hrun53, hended53, hW53, hsame53⟩ := X51.leave (v := some (.int (1 : Int32))) (fun h => by rw [Bd.returns] at h; cases h)
      refine ⟨_, _, ?_, hrun53, hended53, _, _, rfl, ?_, ⟨_, rfl⟩, hW53, hsame53.mono (by decide) (by decide)⟩
      · exact retN X51 hx (t := .boolean) Bd.returns (by simp) (hb hby at_263) hr53
      · show Q_rm0 Z p1 p2 p3 p4 h0 n0 _ T51.heap _
        exact ⟨rfl, N51, K51⟩
  · rw [hm1]
    refine own_go (A := s₁.setTop (mkF m 10 #[.val (.int p1), .val (.int p2), .val (.int p3), .val (.int p4), .val (.int (2 : Int32)), .unset, .unset, .unset, .unset, .unset, .unset] [(.int (((p4).toUInt32 >>> ((2 : Int32) &&& 31).toUInt32).toInt32 &&& (1 : Int32)))])) (fun t_ k_ => ?_) ?_
    · show Steps p.tables e below (s₁.setTop (mkF m 3 #[.val (.int p1), .val (.int p2), .val (.int p3), .val (.int p4), .unset, .unset, .unset, .unset, .unset, .unset, .unset] [(.int (2 : Int32))])) t_
      refine XS.istore X0.here hx rfl (hb hby at_3) rfl (l' := #[.val (.int p1), .val (.int p2), .val (.int p3), .val (.int p4), .val (.int (2 : Int32)), .unset, .unset, .unset, .unset, .unset, .unset]) rfl ?_
      show Steps p.tables e below (s₁.setTop (mkF m 5 #[.val (.int p1), .val (.int p2), .val (.int p3), .val (.int p4), .val (.int (2 : Int32)), .unset, .unset, .unset, .unset, .unset, .unset] [])) t_
      refine XS.iloadN X0.here hx rfl (hb hby at_5) rfl ?_
      show Steps p.tables e below (s₁.setTop (mkF m 6 #[.val (.int p1), .val (.int p2), .val (.int p3), .val (.int p4), .val (.int (2 : Int32)), .unset, .unset, .unset, .unset, .unset, .unset] [(.int p4)])) t_
      refine XS.iconst X0.here hx rfl (hb hby at_6) ?_
      show Steps p.tables e below (s₁.setTop (mkF m 7 #[.val (.int p1), .val (.int p2), .val (.int p3), .val (.int p4), .val (.int (2 : Int32)), .unset, .unset, .unset, .unset, .unset, .unset] [(.int (2 : Int32)), (.int p4)])) t_
      refine XS.iushr X0.here hx rfl (hb hby at_7) rfl ?_
      show Steps p.tables e below (s₁.setTop (mkF m 8 #[.val (.int p1), .val (.int p2), .val (.int p3), .val (.int p4), .val (.int (2 : Int32)), .unset, .unset, .unset, .unset, .unset, .unset] [(.int ((p4).toUInt32 >>> ((2 : Int32) &&& 31).toUInt32).toInt32)])) t_
      refine XS.iconst X0.here hx rfl (hb hby at_8) ?_
      show Steps p.tables e below (s₁.setTop (mkF m 9 #[.val (.int p1), .val (.int p2), .val (.int p3), .val (.int p4), .val (.int (2 : Int32)), .unset, .unset, .unset, .unset, .unset, .unset] [(.int (1 : Int32)), (.int ((p4).toUInt32 >>> ((2 : Int32) &&& 31).toUInt32).toInt32)])) t_
      refine XS.iand X0.here hx rfl (hb hby at_9) rfl ?_
      exact k_
    by_cases hc10_54 : (((p4).toUInt32 >>> ((2 : Int32) &&& 31).toUInt32).toInt32 &&& (1 : Int32)) = (0 : Int32)
    · refine own_go (A := s₁.setTop (mkF m 20 #[.val (.int p1), .val (.int p2), .val (.int p3), .val (.int p4), .val (.int (2 : Int32)), .val (.int (0 : Int32)), .unset, .unset, .unset, .unset, .unset] [])) (fun t_ k_ => ?_) ?_
      · show Steps p.tables e below (s₁.setTop (mkF m 10 #[.val (.int p1), .val (.int p2), .val (.int p3), .val (.int p4), .val (.int (2 : Int32)), .unset, .unset, .unset, .unset, .unset, .unset] [(.int (((p4).toUInt32 >>> ((2 : Int32) &&& 31).toUInt32).toInt32 &&& (1 : Int32)))])) t_
        refine XS.ifYes X0.here hx rfl (pc0 := 10) (pc' := 17) rfl (hb hby at_10) rfl ((if0 _ _).trans (teq hc10_54).1) (by decide) (by decide) ?_
        show Steps p.tables e below (s₁.setTop (mkF m 17 #[.val (.int p1), .val (.int p2), .val (.int p3), .val (.int p4), .val (.int (2 : Int32)), .unset, .unset, .unset, .unset, .unset, .unset] [])) t_
        refine XS.iconst X0.here hx rfl (hb hby at_17) ?_
        show Steps p.tables e below (s₁.setTop (mkF m 18 #[.val (.int p1), .val (.int p2), .val (.int p3), .val (.int p4), .val (.int (2 : Int32)), .unset, .unset, .unset, .unset, .unset, .unset] [(.int (0 : Int32))])) t_
        refine XS.istore X0.here hx rfl (hb hby at_18) rfl (l' := #[.val (.int p1), .val (.int p2), .val (.int p3), .val (.int p4), .val (.int (2 : Int32)), .val (.int (0 : Int32)), .unset, .unset, .unset, .unset, .unset]) rfl ?_
        exact k_
      obtain ⟨T55, h55, X55, e55, E55, A55, D55, -, st55⟩ := newO X0 hx hZ hown (own_w hw 0 rfl) (own_w hw 1 rfl) (own_w hw 2 rfl) e0 (g := (mkF m 20 #[.val (.int p1), .val (.int p2), .val (.int p3), .val (.int p4), .val (.int (2 : Int32)), .val (.int (0 : Int32)), .unset, .unset, .unset, .unset, .unset] [])) rfl (hb hby at_20) (by decide) (by decide)
      obtain ⟨b55, g55⟩ : ∃ z, z = h0.size := ⟨_, rfl⟩
      rw [← g55] at A55 D55 st55
      refine own_go st55 ?_
      have K55 : Keep h0 h55 [] := (Keep.refl h0 []).ext E55
      have F55_bytes : Fld Z h55 b55 "com/example/kneiphof/kneiphof/ByteRecord" "bytes" "[B" .null := D55 (Or.inl (own_w hw 16 rfl)) (ty := (.array .byte)) (by decide)
      have F55_text : Fld Z h55 b55 "com/example/kneiphof/kneiphof/ByteRecord" "text" "Ljava/io/DataOutputStream;" .null := D55 (Or.inr (own_w hw 44 rfl)) (ty := (.object "java/io/DataOutputStream")) (by decide)
      have F55_size : Fld Z h55 b55 "com/example/kneiphof/kneiphof/ByteRecord" "size" "I" (.int (0 : Int32)) := D55 (Or.inl (own_w hw 55 rfl)) (ty := .int) (by decide)
      refine own_go (A := T55.setTop (mkF m 24 #[.val (.int p1), .val (.int p2), .val (.int p3), .val (.int p4), .val (.int (2 : Int32)), .val (.int (0 : Int32)), .unset, .unset, .unset, .unset, .unset] [(.ref b55), (.ref b55)])) (fun t_ k_ => ?_) ?_
      · show Steps p.tables e below (T55.setTop (mkF m 23 #[.val (.int p1), .val (.int p2), .val (.int p3), .val (.int p4), .val (.int (2 : Int32)), .val (.int (0 : Int32)), .unset, .unset, .unset, .unset, .unset] [(.ref b55)])) t_
        refine XS.dup X55.here hx rfl (hb hby at_23) rfl rfl ?_
        exact k_
      obtain ⟨_, _, ⟨T56, L56, k56, n56⟩, -, X56, ⟨Lc56, hQ56, l56, y56, z56⟩, st56⟩ := X55.specialBack hx (y := own_y3) rfl hown (mvT hZ (own_w hw 3 rfl)) (mvT hZ (own_w hw 4 rfl)) (mvT hZ (own_w hw 5 rfl)) (by decide) (backOf (W := 1) (rmBR l Z a0 hw [] b55 h55 n0 (Nat.le_trans Z0 K55.1) A55 F55_bytes F55_text F55_size (Nat.le_trans Z0 (Nat.le_of_eq g55.symm))) hZ (own_w hw 5 rfl) (own_w hw 2 rfl) (by decide) (by decide)) (g := (mkF m 24 #[.val (.int p1), .val (.int p2), .val (.int p3), .val (.int p4), .val (.int (2 : Int32)), .val (.int (0 : Int32)), .unset, .unset, .unset, .unset, .unset] [(.ref b55), (.ref b55)])) rfl (by rw [hml]; rfl) (Steps.refl _) (a := b55) (argsL := []) (rest := [(.ref b55)]) (lenOf pd_0 rfl) rfl (by show 2 * 0 + _ ≤ _; exact Nat.le_of_eq rfl) (hb hby at_24) (fun _ _ => ⟨rfl, e55, (by decide : 1 + 4 ≤ _), (by decide : 3 + 270 ≤ _)⟩)
      dsimp only [Pt.U, Pt.locs, Pt.cells, Pt.slots] at X56 l56 y56 z56 st56 hQ56
      subst l56 y56 z56
      obtain ⟨b_56, k_56, rfl, N56q, Kc56, r56_0, r56_1, r56_2, r56_3⟩ := hQ56
      have N56 := Fr.app N0 N56q
      refine own_via st56 ?_
      have K56 : Keep h0 T56.heap [] := K55.trans Kc56 (allS (P := fun x => x ∈ _ ∨ _ ≤ x) (Or.inr (Nat.le_of_eq g55.symm)) all0)
      refine own_go (A := T56.setTop (mkF m 38 #[.val (.int p1), .val (.int p2), .val (.int p3), .val (.int p4), .val (.int (2 : Int32)), .val (.int (0 : Int32)), .val (.ref b55), .unset, .unset, .unset, .unset] [(.int p1), (.ref b55)])) (fun t_ k_ => ?_) ?_
      · show Steps p.tables e below (T56.setTop (mkF m 27 #[.val (.int p1), .val (.int p2), .val (.int p3), .val (.int p4), .val (.int (2 : Int32)), .val (.int (0 : Int32)), .unset, .unset, .unset, .unset, .unset] [(.ref b55)])) t_
        refine XS.astore X56.here hx rfl (hb hby at_27) rfl rfl (l' := #[.val (.int p1), .val (.int p2), .val (.int p3), .val (.int p4), .val (.int (2 : Int32)), .val (.int (0 : Int32)), .val (.ref b55), .unset, .unset, .unset, .unset]) rfl ?_
        show Steps p.tables e below (T56.setTop (mkF m 29 #[.val (.int p1), .val (.int p2), .val (.int p3), .val (.int p4), .val (.int (2 : Int32)), .val (.int (0 : Int32)), .val (.ref b55), .unset, .unset, .unset, .unset] [])) t_
        refine XS.iload X56.here hx rfl (hb hby at_29) rfl ?_
        show Steps p.tables e below (T56.setTop (mkF m 31 #[.val (.int p1), .val (.int p2), .val (.int p3), .val (.int p4), .val (.int (2 : Int32)), .val (.int (0 : Int32)), .val (.ref b55), .unset, .unset, .unset, .unset] [(.int (2 : Int32))])) t_
        refine XS.iconst X56.here hx rfl (hb hby at_31) ?_
        show Steps p.tables e below (T56.setTop (mkF m 32 #[.val (.int p1), .val (.int p2), .val (.int p3), .val (.int p4), .val (.int (2 : Int32)), .val (.int (0 : Int32)), .val (.ref b55), .unset, .unset, .unset, .unset] [(.int (1 : Int32)), (.int (2 : Int32))])) t_
        refine XS.icmpNo X56.here hx rfl (hb hby at_32) rfl (flt (by decide : ¬ ((2 : Int32) < (1 : Int32)))).1 ?_
        show Steps p.tables e below (T56.setTop (mkF m 35 #[.val (.int p1), .val (.int p2), .val (.int p3), .val (.int p4), .val (.int (2 : Int32)), .val (.int (0 : Int32)), .val (.ref b55), .unset, .unset, .unset, .unset] [])) t_
        refine XS.aload X56.here hx rfl (hb hby at_35) rfl rfl ?_
        show Steps p.tables e below (T56.setTop (mkF m 37 #[.val (.int p1), .val (.int p2), .val (.int p3), .val (.int p4), .val (.int (2 : Int32)), .val (.int (0 : Int32)), .val (.ref b55), .unset, .unset, .unset, .unset] [(.ref b55)])) t_
        refine XS.iloadN X56.here hx rfl (hb hby at_37) rfl ?_
        exact k_
      obtain ⟨cq57, kq57, q57a, q57b, q57c⟩ := isOf hZ rfl (A55.keep Kc56)
      obtain ⟨_, _, ⟨T57, L57, k57, n57⟩, -, X57, ⟨Lc57, hQ57, l57, y57, z57⟩, st57⟩ := X56.virtualBack hx (y := own_y5) (z := own_y5) hown (mvT hZ (own_w hw 45 rfl)) (mvT hZ (own_w hw 46 rfl)) (notFace_of_selects (args := #[]) (mvT hZ (own_w hw 48 rfl))) (mvT hZ (own_w hw 48 rfl)) (mvT hZ (own_w hw 47 rfl)) (by decide) (backOf (W := 0) (rmWrite0 l Z a0 hw [] b55 p1 b_56 k_56 (0 : Int32) (0 : Int32) (0 : Int32) (0 : Int32) T56.heap n0 (Nat.le_trans Z0 K56.1) (A55.keep Kc56) r56_1 r56_2 r56_3 (Nat.le_trans Z0 (Nat.le_of_eq g55.symm)) (Nat.le_trans Z0 (Nat.le_trans K55.1 r56_0)) (Nat.ne_of_lt (Nat.lt_of_lt_of_le A55.lt r56_0))) hZ (own_w hw 49 rfl) (own_w hw 2 rfl) (by decide) (by decide)) q57a q57c (g := (mkF m 38 #[.val (.int p1), .val (.int p2), .val (.int p3), .val (.int p4), .val (.int (2 : Int32)), .val (.int (0 : Int32)), .val (.ref b55), .unset, .unset, .unset, .unset] [(.int p1), (.ref b55)])) rfl (by rw [hml]; rfl) (Steps.refl _) (argsL := [(.int p1)]) (rest := []) (lenOf pd_2 rfl) rfl (by show 2 * 0 + _ ≤ _; exact Nat.le_of_eq rfl) (hb hby at_38) (fun _ _ => ⟨rfl, rfl, (by decide : 5 + 0 ≤ _), (by decide : 273 + 0 ≤ _)⟩)
      dsimp only [Pt.U, Pt.locs, Pt.cells, Pt.slots] at X57 l57 y57 z57 st57 hQ57
      subst l57 y57 z57
      obtain ⟨rfl, N57q, Kc57, r57_0, r57_1, r57_2⟩ := hQ57
      have N57 := Fr.app N56 N57q
      refine own_via st57 ?_
      have K57 : Keep h0 T57.heap [] := K56.trans Kc57 (allS (P := fun x => x ∈ _ ∨ _ ≤ x) (Or.inr (Nat.le_of_eq g55.symm)) (allS (P := fun x => x ∈ _ ∨ _ ≤ x) (Or.inr (Nat.le_trans K55.1 r56_0)) all0))
      refine own_go (A := T57.setTop (mkF m 50 #[.val (.int p1), .val (.int p2), .val (.int p3), .val (.int p4), .val (.int (2 : Int32)), .val (.int (0 : Int32)), .val (.ref b55), .unset, .unset, .unset, .unset] [(.int p2), (.ref b55)])) (fun t_ k_ => ?_) ?_
      · show Steps p.tables e below (T57.setTop (mkF m 41 #[.val (.int p1), .val (.int p2), .val (.int p3), .val (.int p4), .val (.int (2 : Int32)), .val (.int (0 : Int32)), .val (.ref b55), .unset, .unset, .unset, .unset] [])) t_
        refine XS.iload X57.here hx rfl (hb hby at_41) rfl ?_
        show Steps p.tables e below (T57.setTop (mkF m 43 #[.val (.int p1), .val (.int p2), .val (.int p3), .val (.int p4), .val (.int (2 : Int32)), .val (.int (0 : Int32)), .val (.ref b55), .unset, .unset, .unset, .unset] [(.int (2 : Int32))])) t_
        refine XS.iconst X57.here hx rfl (hb hby at_43) ?_
        show Steps p.tables e below (T57.setTop (mkF m 44 #[.val (.int p1), .val (.int p2), .val (.int p3), .val (.int p4), .val (.int (2 : Int32)), .val (.int (0 : Int32)), .val (.ref b55), .unset, .unset, .unset, .unset] [(.int (2 : Int32)), (.int (2 : Int32))])) t_
        refine XS.icmpNo X57.here hx rfl (hb hby at_44) rfl (flt (by decide : ¬ ((2 : Int32) < (2 : Int32)))).1 ?_
        show Steps p.tables e below (T57.setTop (mkF m 47 #[.val (.int p1), .val (.int p2), .val (.int p3), .val (.int p4), .val (.int (2 : Int32)), .val (.int (0 : Int32)), .val (.ref b55), .unset, .unset, .unset, .unset] [])) t_
        refine XS.aload X57.here hx rfl (hb hby at_47) rfl rfl ?_
        show Steps p.tables e below (T57.setTop (mkF m 49 #[.val (.int p1), .val (.int p2), .val (.int p3), .val (.int p4), .val (.int (2 : Int32)), .val (.int (0 : Int32)), .val (.ref b55), .unset, .unset, .unset, .unset] [(.ref b55)])) t_
        refine XS.iloadN X57.here hx rfl (hb hby at_49) rfl ?_
        exact k_
      obtain ⟨cq58, kq58, q58a, q58b, q58c⟩ := isOf hZ rfl ((A55.keep Kc56).keep Kc57)
      obtain ⟨_, _, ⟨T58, L58, k58, n58⟩, -, X58, ⟨Lc58, hQ58, l58, y58, z58⟩, st58⟩ := X57.virtualBack hx (y := own_y6) (z := own_y6) hown (mvT hZ (own_w hw 78 rfl)) (mvT hZ (own_w hw 79 rfl)) (notFace_of_selects (args := #[]) (mvT hZ (own_w hw 81 rfl))) (mvT hZ (own_w hw 81 rfl)) (mvT hZ (own_w hw 80 rfl)) (by decide) (backOf (W := 0) (rmShort1 l Z a0 hw [] b55 p2 b_56 k_56 ((p1).toInt8.toInt32) (0 : Int32) (0 : Int32) (0 : Int32) T57.heap n0 (Nat.le_trans Z0 K57.1) ((A55.keep Kc56).keep Kc57) r57_0 r57_1 r57_2 (Nat.le_trans Z0 (Nat.le_of_eq g55.symm)) (Nat.le_trans Z0 (Nat.le_trans K55.1 r56_0)) (Nat.ne_of_lt (Nat.lt_of_lt_of_le A55.lt r56_0))) hZ (own_w hw 82 rfl) (own_w hw 2 rfl) (by decide) (by decide)) q58a q58c (g := (mkF m 50 #[.val (.int p1), .val (.int p2), .val (.int p3), .val (.int p4), .val (.int (2 : Int32)), .val (.int (0 : Int32)), .val (.ref b55), .unset, .unset, .unset, .unset] [(.int p2), (.ref b55)])) rfl (by rw [hml]; rfl) (Steps.refl _) (argsL := [(.int p2)]) (rest := []) (lenOf pd_2 rfl) rfl (by show 2 * 0 + _ ≤ _; exact Nat.le_of_eq rfl) (hb hby at_50) (fun _ _ => ⟨rfl, rfl, (by decide : 5 + 0 ≤ _), (by decide : 273 + 0 ≤ _)⟩)
      dsimp only [Pt.U, Pt.locs, Pt.cells, Pt.slots] at X58 l58 y58 z58 st58 hQ58
      subst l58 y58 z58
      obtain ⟨rfl, N58q, Kc58, r58_0, r58_1, r58_2⟩ := hQ58
      have N58 := Fr.app N57 N58q
      refine own_via st58 ?_
      have K58 : Keep h0 T58.heap [] := K57.trans Kc58 (allS (P := fun x => x ∈ _ ∨ _ ≤ x) (Or.inr (Nat.le_of_eq g55.symm)) (allS (P := fun x => x ∈ _ ∨ _ ≤ x) (Or.inr (Nat.le_trans K55.1 r56_0)) all0))
      refine own_go (A := T58.setTop (mkF m 99 #[.val (.int p1), .val (.int p2), .val (.int p3), .val (.int p4), .val (.int (2 : Int32)), .val (.int (0 : Int32)), .val (.ref b55), .val (.int (3 : Int32)), .unset, .unset, .unset] [(.ref b55)])) (fun t_ k_ => ?_) ?_
      · show Steps p.tables e below (T58.setTop (mkF m 53 #[.val (.int p1), .val (.int p2), .val (.int p3), .val (.int p4), .val (.int (2 : Int32)), .val (.int (0 : Int32)), .val (.ref b55), .unset, .unset, .unset, .unset] [])) t_
        refine XS.iload X58.here hx rfl (hb hby at_53) rfl ?_
        show Steps p.tables e below (T58.setTop (mkF m 55 #[.val (.int p1), .val (.int p2), .val (.int p3), .val (.int p4), .val (.int (2 : Int32)), .val (.int (0 : Int32)), .val (.ref b55), .unset, .unset, .unset, .unset] [(.int (2 : Int32))])) t_
        refine XS.iconst X58.here hx rfl (hb hby at_55) ?_
        show Steps p.tables e below (T58.setTop (mkF m 56 #[.val (.int p1), .val (.int p2), .val (.int p3), .val (.int p4), .val (.int (2 : Int32)), .val (.int (0 : Int32)), .val (.ref b55), .unset, .unset, .unset, .unset] [(.int (3 : Int32)), (.int (2 : Int32))])) t_
        refine XS.icmpYes X58.here hx rfl (pc0 := 56) (pc' := 65) rfl (hb hby at_56) rfl (tlt (by decide : (2 : Int32) < (3 : Int32))).1 (by decide) (by decide) ?_
        show Steps p.tables e below (T58.setTop (mkF m 65 #[.val (.int p1), .val (.int p2), .val (.int p3), .val (.int p4), .val (.int (2 : Int32)), .val (.int (0 : Int32)), .val (.ref b55), .unset, .unset, .unset, .unset] [])) t_
        refine XS.iload X58.here hx rfl (hb hby at_65) rfl ?_
        show Steps p.tables e below (T58.setTop (mkF m 67 #[.val (.int p1), .val (.int p2), .val (.int p3), .val (.int p4), .val (.int (2 : Int32)), .val (.int (0 : Int32)), .val (.ref b55), .unset, .unset, .unset, .unset] [(.int (2 : Int32))])) t_
        refine XS.ifYes X58.here hx rfl (pc0 := 67) (pc' := 74) rfl (hb hby at_67) rfl ((if0 _ _).trans (feq (by decide : ¬ ((2 : Int32) = (0 : Int32)))).2) (by decide) (by decide) ?_
        show Steps p.tables e below (T58.setTop (mkF m 74 #[.val (.int p1), .val (.int p2), .val (.int p3), .val (.int p4), .val (.int (2 : Int32)), .val (.int (0 : Int32)), .val (.ref b55), .unset, .unset, .unset, .unset] [])) t_
        refine XS.iload X58.here hx rfl (hb hby at_74) rfl ?_
        show Steps p.tables e below (T58.setTop (mkF m 76 #[.val (.int p1), .val (.int p2), .val (.int p3), .val (.int p4), .val (.int (2 : Int32)), .val (.int (0 : Int32)), .val (.ref b55), .unset, .unset, .unset, .unset] [(.int (2 : Int32))])) t_
        refine XS.iconst X58.here hx rfl (hb hby at_76) ?_
        show Steps p.tables e below (T58.setTop (mkF m 77 #[.val (.int p1), .val (.int p2), .val (.int p3), .val (.int p4), .val (.int (2 : Int32)), .val (.int (0 : Int32)), .val (.ref b55), .unset, .unset, .unset, .unset] [(.int (1 : Int32)), (.int (2 : Int32))])) t_
        refine XS.icmpYes X58.here hx rfl (pc0 := 77) (pc' := 84) rfl (hb hby at_77) rfl (feq (by decide : ¬ ((2 : Int32) = (1 : Int32)))).2 (by decide) (by decide) ?_
        show Steps p.tables e below (T58.setTop (mkF m 84 #[.val (.int p1), .val (.int p2), .val (.int p3), .val (.int p4), .val (.int (2 : Int32)), .val (.int (0 : Int32)), .val (.ref b55), .unset, .unset, .unset, .unset] [])) t_
        refine XS.iload X58.here hx rfl (hb hby at_84) rfl ?_
        show Steps p.tables e below (T58.setTop (mkF m 86 #[.val (.int p1), .val (.int p2), .val (.int p3), .val (.int p4), .val (.int (2 : Int32)), .val (.int (0 : Int32)), .val (.ref b55), .unset, .unset, .unset, .unset] [(.int (2 : Int32))])) t_
        refine XS.iconst X58.here hx rfl (hb hby at_86) ?_
        show Steps p.tables e below (T58.setTop (mkF m 87 #[.val (.int p1), .val (.int p2), .val (.int p3), .val (.int p4), .val (.int (2 : Int32)), .val (.int (0 : Int32)), .val (.ref b55), .unset, .unset, .unset, .unset] [(.int (2 : Int32)), (.int (2 : Int32))])) t_
        refine XS.icmpNo X58.here hx rfl (hb hby at_87) rfl (teq (by decide : (2 : Int32) = (2 : Int32))).2 ?_
        show Steps p.tables e below (T58.setTop (mkF m 90 #[.val (.int p1), .val (.int p2), .val (.int p3), .val (.int p4), .val (.int (2 : Int32)), .val (.int (0 : Int32)), .val (.ref b55), .unset, .unset, .unset, .unset] [])) t_
        refine XS.iconst X58.here hx rfl (hb hby at_90) ?_
        show Steps p.tables e below (T58.setTop (mkF m 91 #[.val (.int p1), .val (.int p2), .val (.int p3), .val (.int p4), .val (.int (2 : Int32)), .val (.int (0 : Int32)), .val (.ref b55), .unset, .unset, .unset, .unset] [(.int (3 : Int32))])) t_
        refine XS.goto X58.here hx rfl (pc0 := 91) (pc' := 95) rfl (hb hby at_91) (by decide) (by decide) ?_
        show Steps p.tables e below (T58.setTop (mkF m 95 #[.val (.int p1), .val (.int p2), .val (.int p3), .val (.int p4), .val (.int (2 : Int32)), .val (.int (0 : Int32)), .val (.ref b55), .unset, .unset, .unset, .unset] [(.int (3 : Int32))])) t_
        refine XS.istore X58.here hx rfl (hb hby at_95) rfl (l' := #[.val (.int p1), .val (.int p2), .val (.int p3), .val (.int p4), .val (.int (2 : Int32)), .val (.int (0 : Int32)), .val (.ref b55), .val (.int (3 : Int32)), .unset, .unset, .unset]) rfl ?_
        show Steps p.tables e below (T58.setTop (mkF m 97 #[.val (.int p1), .val (.int p2), .val (.int p3), .val (.int p4), .val (.int (2 : Int32)), .val (.int (0 : Int32)), .val (.ref b55), .val (.int (3 : Int32)), .unset, .unset, .unset] [])) t_
        refine XS.aload X58.here hx rfl (hb hby at_97) rfl rfl ?_
        exact k_
      obtain ⟨cq59, kq59, q59a, q59b, q59c⟩ := isOf hZ rfl (((A55.keep Kc56).keep Kc57).keep Kc58)
      obtain ⟨_, _, ⟨T59, L59, k59, n59⟩, -, X59, ⟨Lc59, hQ59, l59, y59, z59⟩, st59⟩ := X58.virtualBack hx (y := own_y9) (z := own_y9) hown (mvT hZ (own_w hw 56 rfl)) (mvT hZ (own_w hw 57 rfl)) (notFace_of_selects (args := #[]) (mvT hZ (own_w hw 59 rfl))) (mvT hZ (own_w hw 59 rfl)) (mvT hZ (own_w hw 58 rfl)) (by decide) (backOf (W := 0) (rmTo3 l Z a0 hw [] b55 b_56 k_56 ((p1).toInt8.toInt32) ((((p2).toUInt32 >>> ((8 : Int32) &&& 31).toUInt32).toInt32).toInt8.toInt32) ((p2).toInt8.toInt32) (0 : Int32) T58.heap n0 (Nat.le_trans Z0 K58.1) (((A55.keep Kc56).keep Kc57).keep Kc58) r58_0 r58_1 r58_2) hZ (own_w hw 60 rfl) (own_w hw 2 rfl) (by decide) (by decide)) q59a q59c (g := (mkF m 99 #[.val (.int p1), .val (.int p2), .val (.int p3), .val (.int p4), .val (.int (2 : Int32)), .val (.int (0 : Int32)), .val (.ref b55), .val (.int (3 : Int32)), .unset, .unset, .unset] [(.ref b55)])) rfl (by rw [hml]; rfl) (Steps.refl _) (argsL := []) (rest := []) (lenOf pd_5 rfl) rfl (by show 2 * 0 + _ ≤ _; exact Nat.le_of_eq rfl) (hb hby at_99) (fun _ _ => ⟨rfl, rfl, (by decide : 5 + 1 ≤ _), (by decide : 273 + 3 ≤ _)⟩)
      dsimp only [Pt.U, Pt.locs, Pt.cells, Pt.slots] at X59 l59 y59 z59 st59 hQ59
      subst l59 y59 z59
      obtain ⟨d_59, k2_59, rfl, N59q, Kc59, r59_0, r59_1⟩ := hQ59
      have N59 := Fr.app N58 N59q
      refine own_via st59 ?_
      have K59 : Keep h0 T59.heap [] := K58.trans Kc59 all0
      obtain ⟨cl60, Ar60, q60, S60, M60, H60, G60⟩ := id r59_1
      refine own_go (A := T59.setTop (mkF m 114 #[.val (.int p1), .val (.int p2), .val (.int p3), .val (.int p4), .val (.int (2 : Int32)), .val (.int (0 : Int32)), .val (.ref b55), .val (.int (3 : Int32)), .val (.ref d_59), .unset, .unset] [(.ref b55)])) (fun t_ k_ => ?_) ?_
      · show Steps p.tables e below (T59.setTop (mkF m 102 #[.val (.int p1), .val (.int p2), .val (.int p3), .val (.int p4), .val (.int (2 : Int32)), .val (.int (0 : Int32)), .val (.ref b55), .val (.int (3 : Int32)), .unset, .unset, .unset] [(.ref d_59)])) t_
        refine XS.astore X59.here hx rfl (hb hby at_102) rfl rfl (l' := #[.val (.int p1), .val (.int p2), .val (.int p3), .val (.int p4), .val (.int (2 : Int32)), .val (.int (0 : Int32)), .val (.ref b55), .val (.int (3 : Int32)), .val (.ref d_59), .unset, .unset]) rfl ?_
        show Steps p.tables e below (T59.setTop (mkF m 104 #[.val (.int p1), .val (.int p2), .val (.int p3), .val (.int p4), .val (.int (2 : Int32)), .val (.int (0 : Int32)), .val (.ref b55), .val (.int (3 : Int32)), .val (.ref d_59), .unset, .unset] [])) t_
        refine XS.aload X59.here hx rfl (hb hby at_104) rfl rfl ?_
        show Steps p.tables e below (T59.setTop (mkF m 106 #[.val (.int p1), .val (.int p2), .val (.int p3), .val (.int p4), .val (.int (2 : Int32)), .val (.int (0 : Int32)), .val (.ref b55), .val (.int (3 : Int32)), .val (.ref d_59), .unset, .unset] [(.ref d_59)])) t_
        refine X59.arraylength hx Ar60.1 (State.isArrayOf_alike hZ.alike Ar60.2.1) (g := (mkF m 106 #[.val (.int p1), .val (.int p2), .val (.int p3), .val (.int p4), .val (.int (2 : Int32)), .val (.int (0 : Int32)), .val (.ref b55), .val (.int (3 : Int32)), .val (.ref d_59), .unset, .unset] [(.ref d_59)])) rfl rfl (hb hby at_106) _ ?_
        rw [len_of S60 M60]
        show Steps p.tables e below (T59.setTop (mkF m 107 #[.val (.int p1), .val (.int p2), .val (.int p3), .val (.int p4), .val (.int (2 : Int32)), .val (.int (0 : Int32)), .val (.ref b55), .val (.int (3 : Int32)), .val (.ref d_59), .unset, .unset] [(.int (3 : Int32))])) t_
        refine XS.iload X59.here hx rfl (hb hby at_107) rfl ?_
        show Steps p.tables e below (T59.setTop (mkF m 109 #[.val (.int p1), .val (.int p2), .val (.int p3), .val (.int p4), .val (.int (2 : Int32)), .val (.int (0 : Int32)), .val (.ref b55), .val (.int (3 : Int32)), .val (.ref d_59), .unset, .unset] [(.int (3 : Int32)), (.int (3 : Int32))])) t_
        refine XS.icmpNo X59.here hx rfl (hb hby at_109) rfl (teq (by decide : (3 : Int32) = (3 : Int32))).2 ?_
        show Steps p.tables e below (T59.setTop (mkF m 112 #[.val (.int p1), .val (.int p2), .val (.int p3), .val (.int p4), .val (.int (2 : Int32)), .val (.int (0 : Int32)), .val (.ref b55), .val (.int (3 : Int32)), .val (.ref d_59), .unset, .unset] [])) t_
        refine XS.aload X59.here hx rfl (hb hby at_112) rfl rfl ?_
        exact k_
      obtain ⟨cq61, kq61, q61a, q61b, q61c⟩ := isOf hZ rfl ((((A55.keep Kc56).keep Kc57).keep Kc58).keep Kc59)
      obtain ⟨_, _, ⟨T61, L61, k61, n61⟩, -, X61, ⟨Lc61, hQ61, l61, y61, z61⟩, st61⟩ := X59.virtualBack hx (y := own_y10) (z := own_y10) hown (mvT hZ (own_w hw 73 rfl)) (mvT hZ (own_w hw 74 rfl)) (notFace_of_selects (args := #[]) (mvT hZ (own_w hw 76 rfl))) (mvT hZ (own_w hw 76 rfl)) (mvT hZ (own_w hw 75 rfl)) (by decide) (backOf (W := 0) (rmSize l Z a0 hw [] b55 (3 : Int32) T59.heap n0 (Nat.le_trans Z0 K59.1) (r58_1.keep Kc59 nin0)) hZ (own_w hw 77 rfl) (own_w hw 2 rfl) (by decide) (by decide)) q61a q61c (g := (mkF m 114 #[.val (.int p1), .val (.int p2), .val (.int p3), .val (.int p4), .val (.int (2 : Int32)), .val (.int (0 : Int32)), .val (.ref b55), .val (.int (3 : Int32)), .val (.ref d_59), .unset, .unset] [(.ref b55)])) rfl (by rw [hml]; rfl) (Steps.refl _) (argsL := []) (rest := []) (lenOf pd_6 rfl) rfl (by show 2 * 0 + _ ≤ _; exact Nat.le_of_eq rfl) (hb hby at_114) (fun _ _ => ⟨rfl, rfl, (by decide : 6 + 0 ≤ _), (by decide : 276 + 0 ≤ _)⟩)
      dsimp only [Pt.U, Pt.locs, Pt.cells, Pt.slots] at X61 l61 y61 z61 st61 hQ61
      subst l61 y61 z61
      obtain ⟨rfl, N61q, eh61⟩ := hQ61
      have N61 := Fr.app N59 N61q
      refine own_via st61 ?_
      obtain ⟨cl62, Ar62, q62, S62, M62, H62, G62⟩ := id r59_1
      have hin62 : ¬ ((0 : Int32) < 0 ∨ cl62.slots.size ≤ ((0 : Int32)).toNatClampNeg) := inb_of S62 ⟨by decide, by decide⟩
      have hat62 : cl62.slots[((0 : Int32)).toNatClampNeg]? = some (.int (p1).toInt8.toInt32) := Has.at H62 hin62 rfl
      obtain ⟨cl63, Ar63, q63, S63, M63, H63, G63⟩ := id r59_1
      have hin63 : ¬ ((1 : Int32) < 0 ∨ cl63.slots.size ≤ ((1 : Int32)).toNatClampNeg) := inb_of S63 ⟨by decide, by decide⟩
      have hat63 : cl63.slots[((1 : Int32)).toNatClampNeg]? = some (.int (((p2).toUInt32 >>> ((8 : Int32) &&& 31).toUInt32).toInt32).toInt8.toInt32) := Has.at H63 hin63 rfl
      obtain ⟨cl64, Ar64, q64, S64, M64, H64, G64⟩ := id r59_1
      have hin64 : ¬ ((2 : Int32) < 0 ∨ cl64.slots.size ≤ ((2 : Int32)).toNatClampNeg) := inb_of S64 ⟨by decide, by decide⟩
      have hat64 : cl64.slots[((2 : Int32)).toNatClampNeg]? = some (.int (p2).toInt8.toInt32) := Has.at H64 hin64 rfl
      obtain ⟨cl65, Ar65, q65, S65, M65, H65, G65⟩ := id r59_1
      have hin65 : ¬ ((0 : Int32) < 0 ∨ cl65.slots.size ≤ ((0 : Int32)).toNatClampNeg) := inb_of S65 ⟨by decide, by decide⟩
      have hat65 : cl65.slots[((0 : Int32)).toNatClampNeg]? = some (.int (p1).toInt8.toInt32) := Has.at H65 hin65 rfl
      refine own_go (A := T61.setTop (mkF m 202 #[.val (.int p1), .val (.int p2), .val (.int p3), .val (.int p4), .val (.int (2 : Int32)), .val (.int (0 : Int32)), .val (.ref b55), .val (.int (3 : Int32)), .val (.ref d_59), .unset, .unset] [(.int (((p1).toInt8.toInt32 ^^^ (1 : Int32))).toInt8.toInt32), (.int (0 : Int32)), (.ref d_59)])) (fun t_ k_ => ?_) ?_
      · show Steps p.tables e below (T61.setTop (mkF m 117 #[.val (.int p1), .val (.int p2), .val (.int p3), .val (.int p4), .val (.int (2 : Int32)), .val (.int (0 : Int32)), .val (.ref b55), .val (.int (3 : Int32)), .val (.ref d_59), .unset, .unset] [(.int (3 : Int32))])) t_
        refine XS.iload X61.here hx rfl (hb hby at_117) rfl ?_
        show Steps p.tables e below (T61.setTop (mkF m 119 #[.val (.int p1), .val (.int p2), .val (.int p3), .val (.int p4), .val (.int (2 : Int32)), .val (.int (0 : Int32)), .val (.ref b55), .val (.int (3 : Int32)), .val (.ref d_59), .unset, .unset] [(.int (3 : Int32)), (.int (3 : Int32))])) t_
        refine XS.icmpYes X61.here hx rfl (pc0 := 119) (pc' := 124) rfl (hb hby at_119) rfl (teq (by decide : (3 : Int32) = (3 : Int32))).1 (by decide) (by decide) ?_
        show Steps p.tables e below (T61.setTop (mkF m 124 #[.val (.int p1), .val (.int p2), .val (.int p3), .val (.int p4), .val (.int (2 : Int32)), .val (.int (0 : Int32)), .val (.ref b55), .val (.int (3 : Int32)), .val (.ref d_59), .unset, .unset] [])) t_
        refine XS.iload X61.here hx rfl (hb hby at_124) rfl ?_
        show Steps p.tables e below (T61.setTop (mkF m 126 #[.val (.int p1), .val (.int p2), .val (.int p3), .val (.int p4), .val (.int (2 : Int32)), .val (.int (0 : Int32)), .val (.ref b55), .val (.int (3 : Int32)), .val (.ref d_59), .unset, .unset] [(.int (2 : Int32))])) t_
        refine XS.iconst X61.here hx rfl (hb hby at_126) ?_
        show Steps p.tables e below (T61.setTop (mkF m 127 #[.val (.int p1), .val (.int p2), .val (.int p3), .val (.int p4), .val (.int (2 : Int32)), .val (.int (0 : Int32)), .val (.ref b55), .val (.int (3 : Int32)), .val (.ref d_59), .unset, .unset] [(.int (1 : Int32)), (.int (2 : Int32))])) t_
        refine XS.icmpNo X61.here hx rfl (hb hby at_127) rfl (flt (by decide : ¬ ((2 : Int32) < (1 : Int32)))).1 ?_
        show Steps p.tables e below (T61.setTop (mkF m 130 #[.val (.int p1), .val (.int p2), .val (.int p3), .val (.int p4), .val (.int (2 : Int32)), .val (.int (0 : Int32)), .val (.ref b55), .val (.int (3 : Int32)), .val (.ref d_59), .unset, .unset] [])) t_
        refine XS.aload X61.here hx rfl (hb hby at_130) rfl rfl ?_
        show Steps p.tables e below (T61.setTop (mkF m 132 #[.val (.int p1), .val (.int p2), .val (.int p3), .val (.int p4), .val (.int (2 : Int32)), .val (.int (0 : Int32)), .val (.ref b55), .val (.int (3 : Int32)), .val (.ref d_59), .unset, .unset] [(.ref d_59)])) t_
        refine XS.iconst X61.here hx rfl (hb hby at_132) ?_
        show Steps p.tables e below (T61.setTop (mkF m 133 #[.val (.int p1), .val (.int p2), .val (.int p3), .val (.int p4), .val (.int (2 : Int32)), .val (.int (0 : Int32)), .val (.ref b55), .val (.int (3 : Int32)), .val (.ref d_59), .unset, .unset] [(.int (0 : Int32)), (.ref d_59)])) t_
        refine X61.baloadBytes hx (j := (0 : Int32)) (v := (.int (p1).toInt8.toInt32)) (by rw [eh61]; exact Ar62.1) (State.isArrayOf_alike hZ.alike Ar62.2.1) Ar62.2.2 hin62 hat62 (g := (mkF m 133 #[.val (.int p1), .val (.int p2), .val (.int p3), .val (.int p4), .val (.int (2 : Int32)), .val (.int (0 : Int32)), .val (.ref b55), .val (.int (3 : Int32)), .val (.ref d_59), .unset, .unset] [(.int (0 : Int32)), (.ref d_59)])) rfl rfl (hb hby at_133) _ ?_
        show Steps p.tables e below (T61.setTop (mkF m 134 #[.val (.int p1), .val (.int p2), .val (.int p3), .val (.int p4), .val (.int (2 : Int32)), .val (.int (0 : Int32)), .val (.ref b55), .val (.int (3 : Int32)), .val (.ref d_59), .unset, .unset] [(.int (p1).toInt8.toInt32)])) t_
        refine XS.iloadN X61.here hx rfl (hb hby at_134) rfl ?_
        show Steps p.tables e below (T61.setTop (mkF m 135 #[.val (.int p1), .val (.int p2), .val (.int p3), .val (.int p4), .val (.int (2 : Int32)), .val (.int (0 : Int32)), .val (.ref b55), .val (.int (3 : Int32)), .val (.ref d_59), .unset, .unset] [(.int p1), (.int (p1).toInt8.toInt32)])) t_
        refine XS.i2b X61.here hx rfl (hb hby at_135) rfl ?_
        show Steps p.tables e below (T61.setTop (mkF m 136 #[.val (.int p1), .val (.int p2), .val (.int p3), .val (.int p4), .val (.int (2 : Int32)), .val (.int (0 : Int32)), .val (.ref b55), .val (.int (3 : Int32)), .val (.ref d_59), .unset, .unset] [(.int (p1).toInt8.toInt32), (.int (p1).toInt8.toInt32)])) t_
        refine XS.icmpYes X61.here hx rfl (pc0 := 136) (pc' := 141) rfl (hb hby at_136) rfl (teq (rfl : (p1).toInt8.toInt32 = (p1).toInt8.toInt32)).1 (by decide) (by decide) ?_
        show Steps p.tables e below (T61.setTop (mkF m 141 #[.val (.int p1), .val (.int p2), .val (.int p3), .val (.int p4), .val (.int (2 : Int32)), .val (.int (0 : Int32)), .val (.ref b55), .val (.int (3 : Int32)), .val (.ref d_59), .unset, .unset] [])) t_
        refine XS.iload X61.here hx rfl (hb hby at_141) rfl ?_
        show Steps p.tables e below (T61.setTop (mkF m 143 #[.val (.int p1), .val (.int p2), .val (.int p3), .val (.int p4), .val (.int (2 : Int32)), .val (.int (0 : Int32)), .val (.ref b55), .val (.int (3 : Int32)), .val (.ref d_59), .unset, .unset] [(.int (2 : Int32))])) t_
        refine XS.iconst X61.here hx rfl (hb hby at_143) ?_
        show Steps p.tables e below (T61.setTop (mkF m 144 #[.val (.int p1), .val (.int p2), .val (.int p3), .val (.int p4), .val (.int (2 : Int32)), .val (.int (0 : Int32)), .val (.ref b55), .val (.int (3 : Int32)), .val (.ref d_59), .unset, .unset] [(.int (2 : Int32)), (.int (2 : Int32))])) t_
        refine XS.icmpNo X61.here hx rfl (hb hby at_144) rfl (flt (by decide : ¬ ((2 : Int32) < (2 : Int32)))).1 ?_
        show Steps p.tables e below (T61.setTop (mkF m 147 #[.val (.int p1), .val (.int p2), .val (.int p3), .val (.int p4), .val (.int (2 : Int32)), .val (.int (0 : Int32)), .val (.ref b55), .val (.int (3 : Int32)), .val (.ref d_59), .unset, .unset] [])) t_
        refine XS.aload X61.here hx rfl (hb hby at_147) rfl rfl ?_
        show Steps p.tables e below (T61.setTop (mkF m 149 #[.val (.int p1), .val (.int p2), .val (.int p3), .val (.int p4), .val (.int (2 : Int32)), .val (.int (0 : Int32)), .val (.ref b55), .val (.int (3 : Int32)), .val (.ref d_59), .unset, .unset] [(.ref d_59)])) t_
        refine XS.iconst X61.here hx rfl (hb hby at_149) ?_
        show Steps p.tables e below (T61.setTop (mkF m 150 #[.val (.int p1), .val (.int p2), .val (.int p3), .val (.int p4), .val (.int (2 : Int32)), .val (.int (0 : Int32)), .val (.ref b55), .val (.int (3 : Int32)), .val (.ref d_59), .unset, .unset] [(.int (1 : Int32)), (.ref d_59)])) t_
        refine X61.baloadBytes hx (j := (1 : Int32)) (v := (.int (((p2).toUInt32 >>> ((8 : Int32) &&& 31).toUInt32).toInt32).toInt8.toInt32)) (by rw [eh61]; exact Ar63.1) (State.isArrayOf_alike hZ.alike Ar63.2.1) Ar63.2.2 hin63 hat63 (g := (mkF m 150 #[.val (.int p1), .val (.int p2), .val (.int p3), .val (.int p4), .val (.int (2 : Int32)), .val (.int (0 : Int32)), .val (.ref b55), .val (.int (3 : Int32)), .val (.ref d_59), .unset, .unset] [(.int (1 : Int32)), (.ref d_59)])) rfl rfl (hb hby at_150) _ ?_
        show Steps p.tables e below (T61.setTop (mkF m 151 #[.val (.int p1), .val (.int p2), .val (.int p3), .val (.int p4), .val (.int (2 : Int32)), .val (.int (0 : Int32)), .val (.ref b55), .val (.int (3 : Int32)), .val (.ref d_59), .unset, .unset] [(.int (((p2).toUInt32 >>> ((8 : Int32) &&& 31).toUInt32).toInt32).toInt8.toInt32)])) t_
        refine XS.iloadN X61.here hx rfl (hb hby at_151) rfl ?_
        show Steps p.tables e below (T61.setTop (mkF m 152 #[.val (.int p1), .val (.int p2), .val (.int p3), .val (.int p4), .val (.int (2 : Int32)), .val (.int (0 : Int32)), .val (.ref b55), .val (.int (3 : Int32)), .val (.ref d_59), .unset, .unset] [(.int p2), (.int (((p2).toUInt32 >>> ((8 : Int32) &&& 31).toUInt32).toInt32).toInt8.toInt32)])) t_
        refine XS.bipush X61.here hx rfl (hb hby at_152) ?_
        show Steps p.tables e below (T61.setTop (mkF m 154 #[.val (.int p1), .val (.int p2), .val (.int p3), .val (.int p4), .val (.int (2 : Int32)), .val (.int (0 : Int32)), .val (.ref b55), .val (.int (3 : Int32)), .val (.ref d_59), .unset, .unset] [(.int (8 : Int32)), (.int p2), (.int (((p2).toUInt32 >>> ((8 : Int32) &&& 31).toUInt32).toInt32).toInt8.toInt32)])) t_
        refine XS.iushr X61.here hx rfl (hb hby at_154) rfl ?_
        show Steps p.tables e below (T61.setTop (mkF m 155 #[.val (.int p1), .val (.int p2), .val (.int p3), .val (.int p4), .val (.int (2 : Int32)), .val (.int (0 : Int32)), .val (.ref b55), .val (.int (3 : Int32)), .val (.ref d_59), .unset, .unset] [(.int ((p2).toUInt32 >>> ((8 : Int32) &&& 31).toUInt32).toInt32), (.int (((p2).toUInt32 >>> ((8 : Int32) &&& 31).toUInt32).toInt32).toInt8.toInt32)])) t_
        refine XS.i2b X61.here hx rfl (hb hby at_155) rfl ?_
        show Steps p.tables e below (T61.setTop (mkF m 156 #[.val (.int p1), .val (.int p2), .val (.int p3), .val (.int p4), .val (.int (2 : Int32)), .val (.int (0 : Int32)), .val (.ref b55), .val (.int (3 : Int32)), .val (.ref d_59), .unset, .unset] [(.int (((p2).toUInt32 >>> ((8 : Int32) &&& 31).toUInt32).toInt32).toInt8.toInt32), (.int (((p2).toUInt32 >>> ((8 : Int32) &&& 31).toUInt32).toInt32).toInt8.toInt32)])) t_
        refine XS.icmpNo X61.here hx rfl (hb hby at_156) rfl (teq (rfl : (((p2).toUInt32 >>> ((8 : Int32) &&& 31).toUInt32).toInt32).toInt8.toInt32 = (((p2).toUInt32 >>> ((8 : Int32) &&& 31).toUInt32).toInt32).toInt8.toInt32)).2 ?_
        show Steps p.tables e below (T61.setTop (mkF m 159 #[.val (.int p1), .val (.int p2), .val (.int p3), .val (.int p4), .val (.int (2 : Int32)), .val (.int (0 : Int32)), .val (.ref b55), .val (.int (3 : Int32)), .val (.ref d_59), .unset, .unset] [])) t_
        refine XS.aload X61.here hx rfl (hb hby at_159) rfl rfl ?_
        show Steps p.tables e below (T61.setTop (mkF m 161 #[.val (.int p1), .val (.int p2), .val (.int p3), .val (.int p4), .val (.int (2 : Int32)), .val (.int (0 : Int32)), .val (.ref b55), .val (.int (3 : Int32)), .val (.ref d_59), .unset, .unset] [(.ref d_59)])) t_
        refine XS.iconst X61.here hx rfl (hb hby at_161) ?_
        show Steps p.tables e below (T61.setTop (mkF m 162 #[.val (.int p1), .val (.int p2), .val (.int p3), .val (.int p4), .val (.int (2 : Int32)), .val (.int (0 : Int32)), .val (.ref b55), .val (.int (3 : Int32)), .val (.ref d_59), .unset, .unset] [(.int (2 : Int32)), (.ref d_59)])) t_
        refine X61.baloadBytes hx (j := (2 : Int32)) (v := (.int (p2).toInt8.toInt32)) (by rw [eh61]; exact Ar64.1) (State.isArrayOf_alike hZ.alike Ar64.2.1) Ar64.2.2 hin64 hat64 (g := (mkF m 162 #[.val (.int p1), .val (.int p2), .val (.int p3), .val (.int p4), .val (.int (2 : Int32)), .val (.int (0 : Int32)), .val (.ref b55), .val (.int (3 : Int32)), .val (.ref d_59), .unset, .unset] [(.int (2 : Int32)), (.ref d_59)])) rfl rfl (hb hby at_162) _ ?_
        show Steps p.tables e below (T61.setTop (mkF m 163 #[.val (.int p1), .val (.int p2), .val (.int p3), .val (.int p4), .val (.int (2 : Int32)), .val (.int (0 : Int32)), .val (.ref b55), .val (.int (3 : Int32)), .val (.ref d_59), .unset, .unset] [(.int (p2).toInt8.toInt32)])) t_
        refine XS.iloadN X61.here hx rfl (hb hby at_163) rfl ?_
        show Steps p.tables e below (T61.setTop (mkF m 164 #[.val (.int p1), .val (.int p2), .val (.int p3), .val (.int p4), .val (.int (2 : Int32)), .val (.int (0 : Int32)), .val (.ref b55), .val (.int (3 : Int32)), .val (.ref d_59), .unset, .unset] [(.int p2), (.int (p2).toInt8.toInt32)])) t_
        refine XS.i2b X61.here hx rfl (hb hby at_164) rfl ?_
        show Steps p.tables e below (T61.setTop (mkF m 165 #[.val (.int p1), .val (.int p2), .val (.int p3), .val (.int p4), .val (.int (2 : Int32)), .val (.int (0 : Int32)), .val (.ref b55), .val (.int (3 : Int32)), .val (.ref d_59), .unset, .unset] [(.int (p2).toInt8.toInt32), (.int (p2).toInt8.toInt32)])) t_
        refine XS.icmpYes X61.here hx rfl (pc0 := 165) (pc' := 170) rfl (hb hby at_165) rfl (teq (rfl : (p2).toInt8.toInt32 = (p2).toInt8.toInt32)).1 (by decide) (by decide) ?_
        show Steps p.tables e below (T61.setTop (mkF m 170 #[.val (.int p1), .val (.int p2), .val (.int p3), .val (.int p4), .val (.int (2 : Int32)), .val (.int (0 : Int32)), .val (.ref b55), .val (.int (3 : Int32)), .val (.ref d_59), .unset, .unset] [])) t_
        refine XS.iload X61.here hx rfl (hb hby at_170) rfl ?_
        show Steps p.tables e below (T61.setTop (mkF m 172 #[.val (.int p1), .val (.int p2), .val (.int p3), .val (.int p4), .val (.int (2 : Int32)), .val (.int (0 : Int32)), .val (.ref b55), .val (.int (3 : Int32)), .val (.ref d_59), .unset, .unset] [(.int (2 : Int32))])) t_
        refine XS.iconst X61.here hx rfl (hb hby at_172) ?_
        show Steps p.tables e below (T61.setTop (mkF m 173 #[.val (.int p1), .val (.int p2), .val (.int p3), .val (.int p4), .val (.int (2 : Int32)), .val (.int (0 : Int32)), .val (.ref b55), .val (.int (3 : Int32)), .val (.ref d_59), .unset, .unset] [(.int (3 : Int32)), (.int (2 : Int32))])) t_
        refine XS.icmpYes X61.here hx rfl (pc0 := 173) (pc' := 187) rfl (hb hby at_173) rfl (tlt (by decide : (2 : Int32) < (3 : Int32))).1 (by decide) (by decide) ?_
        show Steps p.tables e below (T61.setTop (mkF m 187 #[.val (.int p1), .val (.int p2), .val (.int p3), .val (.int p4), .val (.int (2 : Int32)), .val (.int (0 : Int32)), .val (.ref b55), .val (.int (3 : Int32)), .val (.ref d_59), .unset, .unset] [])) t_
        refine XS.iload X61.here hx rfl (hb hby at_187) rfl ?_
        show Steps p.tables e below (T61.setTop (mkF m 189 #[.val (.int p1), .val (.int p2), .val (.int p3), .val (.int p4), .val (.int (2 : Int32)), .val (.int (0 : Int32)), .val (.ref b55), .val (.int (3 : Int32)), .val (.ref d_59), .unset, .unset] [(.int (3 : Int32))])) t_
        refine XS.ifNo X61.here hx rfl (hb hby at_189) rfl ((if0 _ _).trans (tlt (by decide : (0 : Int32) < (3 : Int32))).2.2.2) ?_
        show Steps p.tables e below (T61.setTop (mkF m 192 #[.val (.int p1), .val (.int p2), .val (.int p3), .val (.int p4), .val (.int (2 : Int32)), .val (.int (0 : Int32)), .val (.ref b55), .val (.int (3 : Int32)), .val (.ref d_59), .unset, .unset] [])) t_
        refine XS.aload X61.here hx rfl (hb hby at_192) rfl rfl ?_
        show Steps p.tables e below (T61.setTop (mkF m 194 #[.val (.int p1), .val (.int p2), .val (.int p3), .val (.int p4), .val (.int (2 : Int32)), .val (.int (0 : Int32)), .val (.ref b55), .val (.int (3 : Int32)), .val (.ref d_59), .unset, .unset] [(.ref d_59)])) t_
        refine XS.iconst X61.here hx rfl (hb hby at_194) ?_
        show Steps p.tables e below (T61.setTop (mkF m 195 #[.val (.int p1), .val (.int p2), .val (.int p3), .val (.int p4), .val (.int (2 : Int32)), .val (.int (0 : Int32)), .val (.ref b55), .val (.int (3 : Int32)), .val (.ref d_59), .unset, .unset] [(.int (0 : Int32)), (.ref d_59)])) t_
        refine XS.aload X61.here hx rfl (hb hby at_195) rfl rfl ?_
        show Steps p.tables e below (T61.setTop (mkF m 197 #[.val (.int p1), .val (.int p2), .val (.int p3), .val (.int p4), .val (.int (2 : Int32)), .val (.int (0 : Int32)), .val (.ref b55), .val (.int (3 : Int32)), .val (.ref d_59), .unset, .unset] [(.ref d_59), (.int (0 : Int32)), (.ref d_59)])) t_
        refine XS.iconst X61.here hx rfl (hb hby at_197) ?_
        show Steps p.tables e below (T61.setTop (mkF m 198 #[.val (.int p1), .val (.int p2), .val (.int p3), .val (.int p4), .val (.int (2 : Int32)), .val (.int (0 : Int32)), .val (.ref b55), .val (.int (3 : Int32)), .val (.ref d_59), .unset, .unset] [(.int (0 : Int32)), (.ref d_59), (.int (0 : Int32)), (.ref d_59)])) t_
        refine X61.baloadBytes hx (j := (0 : Int32)) (v := (.int (p1).toInt8.toInt32)) (by rw [eh61]; exact Ar65.1) (State.isArrayOf_alike hZ.alike Ar65.2.1) Ar65.2.2 hin65 hat65 (g := (mkF m 198 #[.val (.int p1), .val (.int p2), .val (.int p3), .val (.int p4), .val (.int (2 : Int32)), .val (.int (0 : Int32)), .val (.ref b55), .val (.int (3 : Int32)), .val (.ref d_59), .unset, .unset] [(.int (0 : Int32)), (.ref d_59), (.int (0 : Int32)), (.ref d_59)])) rfl rfl (hb hby at_198) _ ?_
        show Steps p.tables e below (T61.setTop (mkF m 199 #[.val (.int p1), .val (.int p2), .val (.int p3), .val (.int p4), .val (.int (2 : Int32)), .val (.int (0 : Int32)), .val (.ref b55), .val (.int (3 : Int32)), .val (.ref d_59), .unset, .unset] [(.int (p1).toInt8.toInt32), (.int (0 : Int32)), (.ref d_59)])) t_
        refine XS.iconst X61.here hx rfl (hb hby at_199) ?_
        show Steps p.tables e below (T61.setTop (mkF m 200 #[.val (.int p1), .val (.int p2), .val (.int p3), .val (.int p4), .val (.int (2 : Int32)), .val (.int (0 : Int32)), .val (.ref b55), .val (.int (3 : Int32)), .val (.ref d_59), .unset, .unset] [(.int (1 : Int32)), (.int (p1).toInt8.toInt32), (.int (0 : Int32)), (.ref d_59)])) t_
        refine XS.ixor X61.here hx rfl (hb hby at_200) rfl ?_
        show Steps p.tables e below (T61.setTop (mkF m 201 #[.val (.int p1), .val (.int p2), .val (.int p3), .val (.int p4), .val (.int (2 : Int32)), .val (.int (0 : Int32)), .val (.ref b55), .val (.int (3 : Int32)), .val (.ref d_59), .unset, .unset] [(.int ((p1).toInt8.toInt32 ^^^ (1 : Int32))), (.int (0 : Int32)), (.ref d_59)])) t_
        refine XS.i2b X61.here hx rfl (hb hby at_201) rfl ?_
        exact k_
      obtain ⟨cl66, Ar66, q66, S66, M66, H66, G66⟩ := id r59_1
      have hin66 : ¬ ((0 : Int32) < 0 ∨ cl66.slots.size ≤ ((0 : Int32)).toNatClampNeg) := inb_of S66 ⟨by decide, by decide⟩
      obtain ⟨T67, h67, X67, e67, W67, st67⟩ := stB X61 hx hZ eh61 Ar66 (j := (0 : Int32)) hin66 (g := (mkF m 202 #[.val (.int p1), .val (.int p2), .val (.int p3), .val (.int p4), .val (.int (2 : Int32)), .val (.int (0 : Int32)), .val (.ref b55), .val (.int (3 : Int32)), .val (.ref d_59), .unset, .unset] [(.int (((p1).toInt8.toInt32 ^^^ (1 : Int32))).toInt8.toInt32), (.int (0 : Int32)), (.ref d_59)])) rfl rfl (hb hby at_202)
      rw [own_narb] at W67
      have B67 : Arv Z h67 d_59 k2_59 .byte (3 : Int32) [(.int (((p1).toInt8.toInt32 ^^^ (1 : Int32))).toInt8.toInt32), (.int (((p2).toUInt32 >>> ((8 : Int32) &&& 31).toUInt32).toInt32).toInt8.toInt32), (.int (p2).toInt8.toInt32)] (.int (0 : Int32)) := Arv.set Ar66 q66 S66 M66 H66 G66 (fits_nar_byte _) W67 0 rfl (Nat.le_of_ble_eq_true rfl)
      refine own_go st67 ?_
      have K67 : Keep h0 h67 [] := K59.wr W67 (Or.inr (Nat.le_trans K58.1 r59_0))
      have N67 := Fr.snoc X67 N61 (Nat.le_trans Z0 (Nat.le_trans K58.1 r59_0))
      refine own_go (A := T67.setTop (mkF m 205 #[.val (.int p1), .val (.int p2), .val (.int p3), .val (.int p4), .val (.int (2 : Int32)), .val (.int (0 : Int32)), .val (.ref b55), .val (.int (3 : Int32)), .val (.ref d_59), .unset, .unset] [(.ref b55)])) (fun t_ k_ => ?_) ?_
      · show Steps p.tables e below (T67.setTop (mkF m 203 #[.val (.int p1), .val (.int p2), .val (.int p3), .val (.int p4), .val (.int (2 : Int32)), .val (.int (0 : Int32)), .val (.ref b55), .val (.int (3 : Int32)), .val (.ref d_59), .unset, .unset] [])) t_
        refine XS.aload X67.here hx rfl (hb hby at_203) rfl rfl ?_
        exact k_
      obtain ⟨cq68, kq68, q68a, q68b, q68c⟩ := isOf hZ e67 (((((A55.keep Kc56).keep Kc57).keep Kc58).keep Kc59).wr W67)
      obtain ⟨_, _, ⟨T68, L68, k68, n68⟩, -, X68, ⟨Lc68, hQ68, l68, y68, z68⟩, st68⟩ := X67.virtualBack hx (y := own_y9) (z := own_y9) hown (mvT hZ (own_w hw 56 rfl)) (mvT hZ (own_w hw 57 rfl)) (notFace_of_selects (args := #[]) (mvT hZ (own_w hw 59 rfl))) (mvT hZ (own_w hw 59 rfl)) (mvT hZ (own_w hw 58 rfl)) (by decide) (backOf (W := 0) (rmTo3 l Z a0 hw [] b55 b_56 k_56 ((p1).toInt8.toInt32) ((((p2).toUInt32 >>> ((8 : Int32) &&& 31).toUInt32).toInt32).toInt8.toInt32) ((p2).toInt8.toInt32) (0 : Int32) h67 n0 (Nat.le_trans Z0 K67.1) (((((A55.keep Kc56).keep Kc57).keep Kc58).keep Kc59).wr W67) ((r58_0.keep Kc59 nin0).other W67 (Or.inl (Nat.ne_of_lt (Nat.lt_of_lt_of_le (Nat.lt_of_lt_of_le (Nat.lt_of_lt_of_le (Nat.lt_of_lt_of_le A55.lt Kc56.1) Kc57.1) Kc58.1) r59_0)))) ((r58_1.keep Kc59 nin0).other W67 (Or.inl (Nat.ne_of_lt (Nat.lt_of_lt_of_le (Nat.lt_of_lt_of_le (Nat.lt_of_lt_of_le (Nat.lt_of_lt_of_le A55.lt Kc56.1) Kc57.1) Kc58.1) r59_0)))) ((r58_2.keep Kc59 nin0).other W67 (Nat.ne_of_lt (Nat.lt_of_lt_of_le (Nat.lt_of_lt_of_le (Nat.lt_of_lt_of_le r56_3.lt Kc57.1) Kc58.1) r59_0)))) hZ (own_w hw 60 rfl) (own_w hw 2 rfl) (by decide) (by decide)) q68a q68c (g := (mkF m 205 #[.val (.int p1), .val (.int p2), .val (.int p3), .val (.int p4), .val (.int (2 : Int32)), .val (.int (0 : Int32)), .val (.ref b55), .val (.int (3 : Int32)), .val (.ref d_59), .unset, .unset] [(.ref b55)])) rfl (by rw [hml]; rfl) (Steps.refl _) (argsL := []) (rest := []) (lenOf pd_5 rfl) rfl (by show 2 * 0 + _ ≤ _; exact Nat.le_of_eq rfl) (hb hby at_205) (fun _ _ => ⟨rfl, e67, (by decide : 6 + 1 ≤ _), (by decide : 276 + 3 ≤ _)⟩)
      dsimp only [Pt.U, Pt.locs, Pt.cells, Pt.slots] at X68 l68 y68 z68 st68 hQ68
      subst l68 y68 z68
      obtain ⟨d_68, k2_68, rfl, N68q, Kc68, r68_0, r68_1⟩ := hQ68
      have N68 := Fr.app N67 N68q
      refine own_via st68 ?_
      have K68 : Keep h0 T68.heap [] := K67.trans Kc68 all0
      obtain ⟨cl69, Ar69, q69, S69, M69, H69, G69⟩ := id r68_1
      obtain ⟨cl70, Ar70, q70, S70, M70, H70, G70⟩ := id r68_1
      have hin70 : ¬ ((0 : Int32) < 0 ∨ cl70.slots.size ≤ ((0 : Int32)).toNatClampNeg) := inb_of S70 ⟨by decide, by decide⟩
      have hat70 : cl70.slots[((0 : Int32)).toNatClampNeg]? = some (.int (p1).toInt8.toInt32) := Has.at H70 hin70 rfl
      refine own_go (A := T68.setTop (mkF m 263 #[.val (.int p1), .val (.int p2), .val (.int p3), .val (.int p4), .val (.int (2 : Int32)), .val (.int (0 : Int32)), .val (.ref b55), .val (.int (3 : Int32)), .val (.ref d_59), .val (.ref d_68), .unset] [(.int (1 : Int32))])) (fun t_ k_ => ?_) ?_
      · show Steps p.tables e below (T68.setTop (mkF m 208 #[.val (.int p1), .val (.int p2), .val (.int p3), .val (.int p4), .val (.int (2 : Int32)), .val (.int (0 : Int32)), .val (.ref b55), .val (.int (3 : Int32)), .val (.ref d_59), .unset, .unset] [(.ref d_68)])) t_
        refine XS.astore X68.here hx rfl (hb hby at_208) rfl rfl (l' := #[.val (.int p1), .val (.int p2), .val (.int p3), .val (.int p4), .val (.int (2 : Int32)), .val (.int (0 : Int32)), .val (.ref b55), .val (.int (3 : Int32)), .val (.ref d_59), .val (.ref d_68), .unset]) rfl ?_
        show Steps p.tables e below (T68.setTop (mkF m 210 #[.val (.int p1), .val (.int p2), .val (.int p3), .val (.int p4), .val (.int (2 : Int32)), .val (.int (0 : Int32)), .val (.ref b55), .val (.int (3 : Int32)), .val (.ref d_59), .val (.ref d_68), .unset] [])) t_
        refine XS.aload X68.here hx rfl (hb hby at_210) rfl rfl ?_
        show Steps p.tables e below (T68.setTop (mkF m 212 #[.val (.int p1), .val (.int p2), .val (.int p3), .val (.int p4), .val (.int (2 : Int32)), .val (.int (0 : Int32)), .val (.ref b55), .val (.int (3 : Int32)), .val (.ref d_59), .val (.ref d_68), .unset] [(.ref d_68)])) t_
        refine X68.arraylength hx Ar69.1 (State.isArrayOf_alike hZ.alike Ar69.2.1) (g := (mkF m 212 #[.val (.int p1), .val (.int p2), .val (.int p3), .val (.int p4), .val (.int (2 : Int32)), .val (.int (0 : Int32)), .val (.ref b55), .val (.int (3 : Int32)), .val (.ref d_59), .val (.ref d_68), .unset] [(.ref d_68)])) rfl rfl (hb hby at_212) _ ?_
        rw [len_of S69 M69]
        show Steps p.tables e below (T68.setTop (mkF m 213 #[.val (.int p1), .val (.int p2), .val (.int p3), .val (.int p4), .val (.int (2 : Int32)), .val (.int (0 : Int32)), .val (.ref b55), .val (.int (3 : Int32)), .val (.ref d_59), .val (.ref d_68), .unset] [(.int (3 : Int32))])) t_
        refine XS.iload X68.here hx rfl (hb hby at_213) rfl ?_
        show Steps p.tables e below (T68.setTop (mkF m 215 #[.val (.int p1), .val (.int p2), .val (.int p3), .val (.int p4), .val (.int (2 : Int32)), .val (.int (0 : Int32)), .val (.ref b55), .val (.int (3 : Int32)), .val (.ref d_59), .val (.ref d_68), .unset] [(.int (3 : Int32)), (.int (3 : Int32))])) t_
        refine XS.icmpYes X68.here hx rfl (pc0 := 215) (pc' := 220) rfl (hb hby at_215) rfl (teq (by decide : (3 : Int32) = (3 : Int32))).1 (by decide) (by decide) ?_
        show Steps p.tables e below (T68.setTop (mkF m 220 #[.val (.int p1), .val (.int p2), .val (.int p3), .val (.int p4), .val (.int (2 : Int32)), .val (.int (0 : Int32)), .val (.ref b55), .val (.int (3 : Int32)), .val (.ref d_59), .val (.ref d_68), .unset] [])) t_
        refine XS.iload X68.here hx rfl (hb hby at_220) rfl ?_
        show Steps p.tables e below (T68.setTop (mkF m 222 #[.val (.int p1), .val (.int p2), .val (.int p3), .val (.int p4), .val (.int (2 : Int32)), .val (.int (0 : Int32)), .val (.ref b55), .val (.int (3 : Int32)), .val (.ref d_59), .val (.ref d_68), .unset] [(.int (2 : Int32))])) t_
        refine XS.iconst X68.here hx rfl (hb hby at_222) ?_
        show Steps p.tables e below (T68.setTop (mkF m 223 #[.val (.int p1), .val (.int p2), .val (.int p3), .val (.int p4), .val (.int (2 : Int32)), .val (.int (0 : Int32)), .val (.ref b55), .val (.int (3 : Int32)), .val (.ref d_59), .val (.ref d_68), .unset] [(.int (1 : Int32)), (.int (2 : Int32))])) t_
        refine XS.icmpNo X68.here hx rfl (hb hby at_223) rfl (flt (by decide : ¬ ((2 : Int32) < (1 : Int32)))).1 ?_
        show Steps p.tables e below (T68.setTop (mkF m 226 #[.val (.int p1), .val (.int p2), .val (.int p3), .val (.int p4), .val (.int (2 : Int32)), .val (.int (0 : Int32)), .val (.ref b55), .val (.int (3 : Int32)), .val (.ref d_59), .val (.ref d_68), .unset] [])) t_
        refine XS.aload X68.here hx rfl (hb hby at_226) rfl rfl ?_
        show Steps p.tables e below (T68.setTop (mkF m 228 #[.val (.int p1), .val (.int p2), .val (.int p3), .val (.int p4), .val (.int (2 : Int32)), .val (.int (0 : Int32)), .val (.ref b55), .val (.int (3 : Int32)), .val (.ref d_59), .val (.ref d_68), .unset] [(.ref d_68)])) t_
        refine XS.iconst X68.here hx rfl (hb hby at_228) ?_
        show Steps p.tables e below (T68.setTop (mkF m 229 #[.val (.int p1), .val (.int p2), .val (.int p3), .val (.int p4), .val (.int (2 : Int32)), .val (.int (0 : Int32)), .val (.ref b55), .val (.int (3 : Int32)), .val (.ref d_59), .val (.ref d_68), .unset] [(.int (0 : Int32)), (.ref d_68)])) t_
        refine X68.baloadBytes hx (j := (0 : Int32)) (v := (.int (p1).toInt8.toInt32)) Ar70.1 (State.isArrayOf_alike hZ.alike Ar70.2.1) Ar70.2.2 hin70 hat70 (g := (mkF m 229 #[.val (.int p1), .val (.int p2), .val (.int p3), .val (.int p4), .val (.int (2 : Int32)), .val (.int (0 : Int32)), .val (.ref b55), .val (.int (3 : Int32)), .val (.ref d_59), .val (.ref d_68), .unset] [(.int (0 : Int32)), (.ref d_68)])) rfl rfl (hb hby at_229) _ ?_
        show Steps p.tables e below (T68.setTop (mkF m 230 #[.val (.int p1), .val (.int p2), .val (.int p3), .val (.int p4), .val (.int (2 : Int32)), .val (.int (0 : Int32)), .val (.ref b55), .val (.int (3 : Int32)), .val (.ref d_59), .val (.ref d_68), .unset] [(.int (p1).toInt8.toInt32)])) t_
        refine XS.iloadN X68.here hx rfl (hb hby at_230) rfl ?_
        show Steps p.tables e below (T68.setTop (mkF m 231 #[.val (.int p1), .val (.int p2), .val (.int p3), .val (.int p4), .val (.int (2 : Int32)), .val (.int (0 : Int32)), .val (.ref b55), .val (.int (3 : Int32)), .val (.ref d_59), .val (.ref d_68), .unset] [(.int p1), (.int (p1).toInt8.toInt32)])) t_
        refine XS.i2b X68.here hx rfl (hb hby at_231) rfl ?_
        show Steps p.tables e below (T68.setTop (mkF m 232 #[.val (.int p1), .val (.int p2), .val (.int p3), .val (.int p4), .val (.int (2 : Int32)), .val (.int (0 : Int32)), .val (.ref b55), .val (.int (3 : Int32)), .val (.ref d_59), .val (.ref d_68), .unset] [(.int (p1).toInt8.toInt32), (.int (p1).toInt8.toInt32)])) t_
        refine XS.icmpYes X68.here hx rfl (pc0 := 232) (pc' := 237) rfl (hb hby at_232) rfl (teq (rfl : (p1).toInt8.toInt32 = (p1).toInt8.toInt32)).1 (by decide) (by decide) ?_
        show Steps p.tables e below (T68.setTop (mkF m 237 #[.val (.int p1), .val (.int p2), .val (.int p3), .val (.int p4), .val (.int (2 : Int32)), .val (.int (0 : Int32)), .val (.ref b55), .val (.int (3 : Int32)), .val (.ref d_59), .val (.ref d_68), .unset] [])) t_
        refine XS.iload X68.here hx rfl (hb hby at_237) rfl ?_
        show Steps p.tables e below (T68.setTop (mkF m 239 #[.val (.int p1), .val (.int p2), .val (.int p3), .val (.int p4), .val (.int (2 : Int32)), .val (.int (0 : Int32)), .val (.ref b55), .val (.int (3 : Int32)), .val (.ref d_59), .val (.ref d_68), .unset] [(.int (0 : Int32))])) t_
        refine XS.ifYes X68.here hx rfl (pc0 := 239) (pc' := 262) rfl (hb hby at_239) rfl ((if0 _ _).trans (teq (by decide : (0 : Int32) = (0 : Int32))).1) (by decide) (by decide) ?_
        show Steps p.tables e below (T68.setTop (mkF m 262 #[.val (.int p1), .val (.int p2), .val (.int p3), .val (.int p4), .val (.int (2 : Int32)), .val (.int (0 : Int32)), .val (.ref b55), .val (.int (3 : Int32)), .val (.ref d_59), .val (.ref d_68), .unset] [])) t_
        refine XS.iconst X68.here hx rfl (hb hby at_262) ?_
        exact k_
      obtain ⟨fs71, hr71, hrun71, hended71, hW71, hsame71⟩ := X68.leave (v := some (.int (1 : Int32))) (fun h => by rw [Bd.returns] at h; cases h)
      refine ⟨_, _, ?_, hrun71, hended71, _, _, rfl, ?_, ⟨_, rfl⟩, hW71, hsame71.mono (by decide) (by decide)⟩
      · exact retN X68 hx (t := .boolean) Bd.returns (by simp) (hb hby at_263) hr71
      · show Q_rm0 Z p1 p2 p3 p4 h0 n0 _ T68.heap _
        exact ⟨rfl, N68, K68⟩
    · refine own_go (A := s₁.setTop (mkF m 20 #[.val (.int p1), .val (.int p2), .val (.int p3), .val (.int p4), .val (.int (2 : Int32)), .val (.int (1 : Int32)), .unset, .unset, .unset, .unset, .unset] [])) (fun t_ k_ => ?_) ?_
      · show Steps p.tables e below (s₁.setTop (mkF m 10 #[.val (.int p1), .val (.int p2), .val (.int p3), .val (.int p4), .val (.int (2 : Int32)), .unset, .unset, .unset, .unset, .unset, .unset] [(.int (((p4).toUInt32 >>> ((2 : Int32) &&& 31).toUInt32).toInt32 &&& (1 : Int32)))])) t_
        refine XS.ifNo X0.here hx rfl (hb hby at_10) rfl ((if0 _ _).trans (feq hc10_54).1) ?_
        show Steps p.tables e below (s₁.setTop (mkF m 13 #[.val (.int p1), .val (.int p2), .val (.int p3), .val (.int p4), .val (.int (2 : Int32)), .unset, .unset, .unset, .unset, .unset, .unset] [])) t_
        refine XS.iconst X0.here hx rfl (hb hby at_13) ?_
        show Steps p.tables e below (s₁.setTop (mkF m 14 #[.val (.int p1), .val (.int p2), .val (.int p3), .val (.int p4), .val (.int (2 : Int32)), .unset, .unset, .unset, .unset, .unset, .unset] [(.int (1 : Int32))])) t_
        refine XS.goto X0.here hx rfl (pc0 := 14) (pc' := 18) rfl (hb hby at_14) (by decide) (by decide) ?_
        show Steps p.tables e below (s₁.setTop (mkF m 18 #[.val (.int p1), .val (.int p2), .val (.int p3), .val (.int p4), .val (.int (2 : Int32)), .unset, .unset, .unset, .unset, .unset, .unset] [(.int (1 : Int32))])) t_
        refine XS.istore X0.here hx rfl (hb hby at_18) rfl (l' := #[.val (.int p1), .val (.int p2), .val (.int p3), .val (.int p4), .val (.int (2 : Int32)), .val (.int (1 : Int32)), .unset, .unset, .unset, .unset, .unset]) rfl ?_
        exact k_
      obtain ⟨T72, h72, X72, e72, E72, A72, D72, -, st72⟩ := newO X0 hx hZ hown (own_w hw 0 rfl) (own_w hw 1 rfl) (own_w hw 2 rfl) e0 (g := (mkF m 20 #[.val (.int p1), .val (.int p2), .val (.int p3), .val (.int p4), .val (.int (2 : Int32)), .val (.int (1 : Int32)), .unset, .unset, .unset, .unset, .unset] [])) rfl (hb hby at_20) (by decide) (by decide)
      obtain ⟨b72, g72⟩ : ∃ z, z = h0.size := ⟨_, rfl⟩
      rw [← g72] at A72 D72 st72
      refine own_go st72 ?_
      have K72 : Keep h0 h72 [] := (Keep.refl h0 []).ext E72
      have F72_bytes : Fld Z h72 b72 "com/example/kneiphof/kneiphof/ByteRecord" "bytes" "[B" .null := D72 (Or.inl (own_w hw 16 rfl)) (ty := (.array .byte)) (by decide)
      have F72_text : Fld Z h72 b72 "com/example/kneiphof/kneiphof/ByteRecord" "text" "Ljava/io/DataOutputStream;" .null := D72 (Or.inr (own_w hw 44 rfl)) (ty := (.object "java/io/DataOutputStream")) (by decide)
      have F72_size : Fld Z h72 b72 "com/example/kneiphof/kneiphof/ByteRecord" "size" "I" (.int (0 : Int32)) := D72 (Or.inl (own_w hw 55 rfl)) (ty := .int) (by decide)
      refine own_go (A := T72.setTop (mkF m 24 #[.val (.int p1), .val (.int p2), .val (.int p3), .val (.int p4), .val (.int (2 : Int32)), .val (.int (1 : Int32)), .unset, .unset, .unset, .unset, .unset] [(.ref b72), (.ref b72)])) (fun t_ k_ => ?_) ?_
      · show Steps p.tables e below (T72.setTop (mkF m 23 #[.val (.int p1), .val (.int p2), .val (.int p3), .val (.int p4), .val (.int (2 : Int32)), .val (.int (1 : Int32)), .unset, .unset, .unset, .unset, .unset] [(.ref b72)])) t_
        refine XS.dup X72.here hx rfl (hb hby at_23) rfl rfl ?_
        exact k_
      obtain ⟨_, _, ⟨T73, L73, k73, n73⟩, -, X73, ⟨Lc73, hQ73, l73, y73, z73⟩, st73⟩ := X72.specialBack hx (y := own_y3) rfl hown (mvT hZ (own_w hw 3 rfl)) (mvT hZ (own_w hw 4 rfl)) (mvT hZ (own_w hw 5 rfl)) (by decide) (backOf (W := 1) (rmBR l Z a0 hw [] b72 h72 n0 (Nat.le_trans Z0 K72.1) A72 F72_bytes F72_text F72_size (Nat.le_trans Z0 (Nat.le_of_eq g72.symm))) hZ (own_w hw 5 rfl) (own_w hw 2 rfl) (by decide) (by decide)) (g := (mkF m 24 #[.val (.int p1), .val (.int p2), .val (.int p3), .val (.int p4), .val (.int (2 : Int32)), .val (.int (1 : Int32)), .unset, .unset, .unset, .unset, .unset] [(.ref b72), (.ref b72)])) rfl (by rw [hml]; rfl) (Steps.refl _) (a := b72) (argsL := []) (rest := [(.ref b72)]) (lenOf pd_0 rfl) rfl (by show 2 * 0 + _ ≤ _; exact Nat.le_of_eq rfl) (hb hby at_24) (fun _ _ => ⟨rfl, e72, (by decide : 1 + 4 ≤ _), (by decide : 3 + 270 ≤ _)⟩)
      dsimp only [Pt.U, Pt.locs, Pt.cells, Pt.slots] at X73 l73 y73 z73 st73 hQ73
      subst l73 y73 z73
      obtain ⟨b_73, k_73, rfl, N73q, Kc73, r73_0, r73_1, r73_2, r73_3⟩ := hQ73
      have N73 := Fr.app N0 N73q
      refine own_via st73 ?_
      have K73 : Keep h0 T73.heap [] := K72.trans Kc73 (allS (P := fun x => x ∈ _ ∨ _ ≤ x) (Or.inr (Nat.le_of_eq g72.symm)) all0)
      refine own_go (A := T73.setTop (mkF m 38 #[.val (.int p1), .val (.int p2), .val (.int p3), .val (.int p4), .val (.int (2 : Int32)), .val (.int (1 : Int32)), .val (.ref b72), .unset, .unset, .unset, .unset] [(.int p1), (.ref b72)])) (fun t_ k_ => ?_) ?_
      · show Steps p.tables e below (T73.setTop (mkF m 27 #[.val (.int p1), .val (.int p2), .val (.int p3), .val (.int p4), .val (.int (2 : Int32)), .val (.int (1 : Int32)), .unset, .unset, .unset, .unset, .unset] [(.ref b72)])) t_
        refine XS.astore X73.here hx rfl (hb hby at_27) rfl rfl (l' := #[.val (.int p1), .val (.int p2), .val (.int p3), .val (.int p4), .val (.int (2 : Int32)), .val (.int (1 : Int32)), .val (.ref b72), .unset, .unset, .unset, .unset]) rfl ?_
        show Steps p.tables e below (T73.setTop (mkF m 29 #[.val (.int p1), .val (.int p2), .val (.int p3), .val (.int p4), .val (.int (2 : Int32)), .val (.int (1 : Int32)), .val (.ref b72), .unset, .unset, .unset, .unset] [])) t_
        refine XS.iload X73.here hx rfl (hb hby at_29) rfl ?_
        show Steps p.tables e below (T73.setTop (mkF m 31 #[.val (.int p1), .val (.int p2), .val (.int p3), .val (.int p4), .val (.int (2 : Int32)), .val (.int (1 : Int32)), .val (.ref b72), .unset, .unset, .unset, .unset] [(.int (2 : Int32))])) t_
        refine XS.iconst X73.here hx rfl (hb hby at_31) ?_
        show Steps p.tables e below (T73.setTop (mkF m 32 #[.val (.int p1), .val (.int p2), .val (.int p3), .val (.int p4), .val (.int (2 : Int32)), .val (.int (1 : Int32)), .val (.ref b72), .unset, .unset, .unset, .unset] [(.int (1 : Int32)), (.int (2 : Int32))])) t_
        refine XS.icmpNo X73.here hx rfl (hb hby at_32) rfl (flt (by decide : ¬ ((2 : Int32) < (1 : Int32)))).1 ?_
        show Steps p.tables e below (T73.setTop (mkF m 35 #[.val (.int p1), .val (.int p2), .val (.int p3), .val (.int p4), .val (.int (2 : Int32)), .val (.int (1 : Int32)), .val (.ref b72), .unset, .unset, .unset, .unset] [])) t_
        refine XS.aload X73.here hx rfl (hb hby at_35) rfl rfl ?_
        show Steps p.tables e below (T73.setTop (mkF m 37 #[.val (.int p1), .val (.int p2), .val (.int p3), .val (.int p4), .val (.int (2 : Int32)), .val (.int (1 : Int32)), .val (.ref b72), .unset, .unset, .unset, .unset] [(.ref b72)])) t_
        refine XS.iloadN X73.here hx rfl (hb hby at_37) rfl ?_
        exact k_
      obtain ⟨cq74, kq74, q74a, q74b, q74c⟩ := isOf hZ rfl (A72.keep Kc73)
      obtain ⟨_, _, ⟨T74, L74, k74, n74⟩, -, X74, ⟨Lc74, hQ74, l74, y74, z74⟩, st74⟩ := X73.virtualBack hx (y := own_y5) (z := own_y5) hown (mvT hZ (own_w hw 45 rfl)) (mvT hZ (own_w hw 46 rfl)) (notFace_of_selects (args := #[]) (mvT hZ (own_w hw 48 rfl))) (mvT hZ (own_w hw 48 rfl)) (mvT hZ (own_w hw 47 rfl)) (by decide) (backOf (W := 0) (rmWrite0 l Z a0 hw [] b72 p1 b_73 k_73 (0 : Int32) (0 : Int32) (0 : Int32) (0 : Int32) T73.heap n0 (Nat.le_trans Z0 K73.1) (A72.keep Kc73) r73_1 r73_2 r73_3 (Nat.le_trans Z0 (Nat.le_of_eq g72.symm)) (Nat.le_trans Z0 (Nat.le_trans K72.1 r73_0)) (Nat.ne_of_lt (Nat.lt_of_lt_of_le A72.lt r73_0))) hZ (own_w hw 49 rfl) (own_w hw 2 rfl) (by decide) (by decide)) q74a q74c (g := (mkF m 38 #[.val (.int p1), .val (.int p2), .val (.int p3), .val (.int p4), .val (.int (2 : Int32)), .val (.int (1 : Int32)), .val (.ref b72), .unset, .unset, .unset, .unset] [(.int p1), (.ref b72)])) rfl (by rw [hml]; rfl) (Steps.refl _) (argsL := [(.int p1)]) (rest := []) (lenOf pd_2 rfl) rfl (by show 2 * 0 + _ ≤ _; exact Nat.le_of_eq rfl) (hb hby at_38) (fun _ _ => ⟨rfl, rfl, (by decide : 5 + 0 ≤ _), (by decide : 273 + 0 ≤ _)⟩)
      dsimp only [Pt.U, Pt.locs, Pt.cells, Pt.slots] at X74 l74 y74 z74 st74 hQ74
      subst l74 y74 z74
      obtain ⟨rfl, N74q, Kc74, r74_0, r74_1, r74_2⟩ := hQ74
      have N74 := Fr.app N73 N74q
      refine own_via st74 ?_
      have K74 : Keep h0 T74.heap [] := K73.trans Kc74 (allS (P := fun x => x ∈ _ ∨ _ ≤ x) (Or.inr (Nat.le_of_eq g72.symm)) (allS (P := fun x => x ∈ _ ∨ _ ≤ x) (Or.inr (Nat.le_trans K72.1 r73_0)) all0))
      refine own_go (A := T74.setTop (mkF m 50 #[.val (.int p1), .val (.int p2), .val (.int p3), .val (.int p4), .val (.int (2 : Int32)), .val (.int (1 : Int32)), .val (.ref b72), .unset, .unset, .unset, .unset] [(.int p2), (.ref b72)])) (fun t_ k_ => ?_) ?_
      · show Steps p.tables e below (T74.setTop (mkF m 41 #[.val (.int p1), .val (.int p2), .val (.int p3), .val (.int p4), .val (.int (2 : Int32)), .val (.int (1 : Int32)), .val (.ref b72), .unset, .unset, .unset, .unset] [])) t_
        refine XS.iload X74.here hx rfl (hb hby at_41) rfl ?_
        show Steps p.tables e below (T74.setTop (mkF m 43 #[.val (.int p1), .val (.int p2), .val (.int p3), .val (.int p4), .val (.int (2 : Int32)), .val (.int (1 : Int32)), .val (.ref b72), .unset, .unset, .unset, .unset] [(.int (2 : Int32))])) t_
        refine XS.iconst X74.here hx rfl (hb hby at_43) ?_
        show Steps p.tables e below (T74.setTop (mkF m 44 #[.val (.int p1), .val (.int p2), .val (.int p3), .val (.int p4), .val (.int (2 : Int32)), .val (.int (1 : Int32)), .val (.ref b72), .unset, .unset, .unset, .unset] [(.int (2 : Int32)), (.int (2 : Int32))])) t_
        refine XS.icmpNo X74.here hx rfl (hb hby at_44) rfl (flt (by decide : ¬ ((2 : Int32) < (2 : Int32)))).1 ?_
        show Steps p.tables e below (T74.setTop (mkF m 47 #[.val (.int p1), .val (.int p2), .val (.int p3), .val (.int p4), .val (.int (2 : Int32)), .val (.int (1 : Int32)), .val (.ref b72), .unset, .unset, .unset, .unset] [])) t_
        refine XS.aload X74.here hx rfl (hb hby at_47) rfl rfl ?_
        show Steps p.tables e below (T74.setTop (mkF m 49 #[.val (.int p1), .val (.int p2), .val (.int p3), .val (.int p4), .val (.int (2 : Int32)), .val (.int (1 : Int32)), .val (.ref b72), .unset, .unset, .unset, .unset] [(.ref b72)])) t_
        refine XS.iloadN X74.here hx rfl (hb hby at_49) rfl ?_
        exact k_
      obtain ⟨cq75, kq75, q75a, q75b, q75c⟩ := isOf hZ rfl ((A72.keep Kc73).keep Kc74)
      obtain ⟨_, _, ⟨T75, L75, k75, n75⟩, -, X75, ⟨Lc75, hQ75, l75, y75, z75⟩, st75⟩ := X74.virtualBack hx (y := own_y6) (z := own_y6) hown (mvT hZ (own_w hw 78 rfl)) (mvT hZ (own_w hw 79 rfl)) (notFace_of_selects (args := #[]) (mvT hZ (own_w hw 81 rfl))) (mvT hZ (own_w hw 81 rfl)) (mvT hZ (own_w hw 80 rfl)) (by decide) (backOf (W := 0) (rmShort1 l Z a0 hw [] b72 p2 b_73 k_73 ((p1).toInt8.toInt32) (0 : Int32) (0 : Int32) (0 : Int32) T74.heap n0 (Nat.le_trans Z0 K74.1) ((A72.keep Kc73).keep Kc74) r74_0 r74_1 r74_2 (Nat.le_trans Z0 (Nat.le_of_eq g72.symm)) (Nat.le_trans Z0 (Nat.le_trans K72.1 r73_0)) (Nat.ne_of_lt (Nat.lt_of_lt_of_le A72.lt r73_0))) hZ (own_w hw 82 rfl) (own_w hw 2 rfl) (by decide) (by decide)) q75a q75c (g := (mkF m 50 #[.val (.int p1), .val (.int p2), .val (.int p3), .val (.int p4), .val (.int (2 : Int32)), .val (.int (1 : Int32)), .val (.ref b72), .unset, .unset, .unset, .unset] [(.int p2), (.ref b72)])) rfl (by rw [hml]; rfl) (Steps.refl _) (argsL := [(.int p2)]) (rest := []) (lenOf pd_2 rfl) rfl (by show 2 * 0 + _ ≤ _; exact Nat.le_of_eq rfl) (hb hby at_50) (fun _ _ => ⟨rfl, rfl, (by decide : 5 + 0 ≤ _), (by decide : 273 + 0 ≤ _)⟩)
      dsimp only [Pt.U, Pt.locs, Pt.cells, Pt.slots] at X75 l75 y75 z75 st75 hQ75
      subst l75 y75 z75
      obtain ⟨rfl, N75q, Kc75, r75_0, r75_1, r75_2⟩ := hQ75
      have N75 := Fr.app N74 N75q
      refine own_via st75 ?_
      have K75 : Keep h0 T75.heap [] := K74.trans Kc75 (allS (P := fun x => x ∈ _ ∨ _ ≤ x) (Or.inr (Nat.le_of_eq g72.symm)) (allS (P := fun x => x ∈ _ ∨ _ ≤ x) (Or.inr (Nat.le_trans K72.1 r73_0)) all0))
      refine own_go (A := T75.setTop (mkF m 99 #[.val (.int p1), .val (.int p2), .val (.int p3), .val (.int p4), .val (.int (2 : Int32)), .val (.int (1 : Int32)), .val (.ref b72), .val (.int (3 : Int32)), .unset, .unset, .unset] [(.ref b72)])) (fun t_ k_ => ?_) ?_
      · show Steps p.tables e below (T75.setTop (mkF m 53 #[.val (.int p1), .val (.int p2), .val (.int p3), .val (.int p4), .val (.int (2 : Int32)), .val (.int (1 : Int32)), .val (.ref b72), .unset, .unset, .unset, .unset] [])) t_
        refine XS.iload X75.here hx rfl (hb hby at_53) rfl ?_
        show Steps p.tables e below (T75.setTop (mkF m 55 #[.val (.int p1), .val (.int p2), .val (.int p3), .val (.int p4), .val (.int (2 : Int32)), .val (.int (1 : Int32)), .val (.ref b72), .unset, .unset, .unset, .unset] [(.int (2 : Int32))])) t_
        refine XS.iconst X75.here hx rfl (hb hby at_55) ?_
        show Steps p.tables e below (T75.setTop (mkF m 56 #[.val (.int p1), .val (.int p2), .val (.int p3), .val (.int p4), .val (.int (2 : Int32)), .val (.int (1 : Int32)), .val (.ref b72), .unset, .unset, .unset, .unset] [(.int (3 : Int32)), (.int (2 : Int32))])) t_
        refine XS.icmpYes X75.here hx rfl (pc0 := 56) (pc' := 65) rfl (hb hby at_56) rfl (tlt (by decide : (2 : Int32) < (3 : Int32))).1 (by decide) (by decide) ?_
        show Steps p.tables e below (T75.setTop (mkF m 65 #[.val (.int p1), .val (.int p2), .val (.int p3), .val (.int p4), .val (.int (2 : Int32)), .val (.int (1 : Int32)), .val (.ref b72), .unset, .unset, .unset, .unset] [])) t_
        refine XS.iload X75.here hx rfl (hb hby at_65) rfl ?_
        show Steps p.tables e below (T75.setTop (mkF m 67 #[.val (.int p1), .val (.int p2), .val (.int p3), .val (.int p4), .val (.int (2 : Int32)), .val (.int (1 : Int32)), .val (.ref b72), .unset, .unset, .unset, .unset] [(.int (2 : Int32))])) t_
        refine XS.ifYes X75.here hx rfl (pc0 := 67) (pc' := 74) rfl (hb hby at_67) rfl ((if0 _ _).trans (feq (by decide : ¬ ((2 : Int32) = (0 : Int32)))).2) (by decide) (by decide) ?_
        show Steps p.tables e below (T75.setTop (mkF m 74 #[.val (.int p1), .val (.int p2), .val (.int p3), .val (.int p4), .val (.int (2 : Int32)), .val (.int (1 : Int32)), .val (.ref b72), .unset, .unset, .unset, .unset] [])) t_
        refine XS.iload X75.here hx rfl (hb hby at_74) rfl ?_
        show Steps p.tables e below (T75.setTop (mkF m 76 #[.val (.int p1), .val (.int p2), .val (.int p3), .val (.int p4), .val (.int (2 : Int32)), .val (.int (1 : Int32)), .val (.ref b72), .unset, .unset, .unset, .unset] [(.int (2 : Int32))])) t_
        refine XS.iconst X75.here hx rfl (hb hby at_76) ?_
        show Steps p.tables e below (T75.setTop (mkF m 77 #[.val (.int p1), .val (.int p2), .val (.int p3), .val (.int p4), .val (.int (2 : Int32)), .val (.int (1 : Int32)), .val (.ref b72), .unset, .unset, .unset, .unset] [(.int (1 : Int32)), (.int (2 : Int32))])) t_
        refine XS.icmpYes X75.here hx rfl (pc0 := 77) (pc' := 84) rfl (hb hby at_77) rfl (feq (by decide : ¬ ((2 : Int32) = (1 : Int32)))).2 (by decide) (by decide) ?_
        show Steps p.tables e below (T75.setTop (mkF m 84 #[.val (.int p1), .val (.int p2), .val (.int p3), .val (.int p4), .val (.int (2 : Int32)), .val (.int (1 : Int32)), .val (.ref b72), .unset, .unset, .unset, .unset] [])) t_
        refine XS.iload X75.here hx rfl (hb hby at_84) rfl ?_
        show Steps p.tables e below (T75.setTop (mkF m 86 #[.val (.int p1), .val (.int p2), .val (.int p3), .val (.int p4), .val (.int (2 : Int32)), .val (.int (1 : Int32)), .val (.ref b72), .unset, .unset, .unset, .unset] [(.int (2 : Int32))])) t_
        refine XS.iconst X75.here hx rfl (hb hby at_86) ?_
        show Steps p.tables e below (T75.setTop (mkF m 87 #[.val (.int p1), .val (.int p2), .val (.int p3), .val (.int p4), .val (.int (2 : Int32)), .val (.int (1 : Int32)), .val (.ref b72), .unset, .unset, .unset, .unset] [(.int (2 : Int32)), (.int (2 : Int32))])) t_
        refine XS.icmpNo X75.here hx rfl (hb hby at_87) rfl (teq (by decide : (2 : Int32) = (2 : Int32))).2 ?_
        show Steps p.tables e below (T75.setTop (mkF m 90 #[.val (.int p1), .val (.int p2), .val (.int p3), .val (.int p4), .val (.int (2 : Int32)), .val (.int (1 : Int32)), .val (.ref b72), .unset, .unset, .unset, .unset] [])) t_
        refine XS.iconst X75.here hx rfl (hb hby at_90) ?_
        show Steps p.tables e below (T75.setTop (mkF m 91 #[.val (.int p1), .val (.int p2), .val (.int p3), .val (.int p4), .val (.int (2 : Int32)), .val (.int (1 : Int32)), .val (.ref b72), .unset, .unset, .unset, .unset] [(.int (3 : Int32))])) t_
        refine XS.goto X75.here hx rfl (pc0 := 91) (pc' := 95) rfl (hb hby at_91) (by decide) (by decide) ?_
        show Steps p.tables e below (T75.setTop (mkF m 95 #[.val (.int p1), .val (.int p2), .val (.int p3), .val (.int p4), .val (.int (2 : Int32)), .val (.int (1 : Int32)), .val (.ref b72), .unset, .unset, .unset, .unset] [(.int (3 : Int32))])) t_
        refine XS.istore X75.here hx rfl (hb hby at_95) rfl (l' := #[.val (.int p1), .val (.int p2), .val (.int p3), .val (.int p4), .val (.int (2 : Int32)), .val (.int (1 : Int32)), .val (.ref b72), .val (.int (3 : Int32)), .unset, .unset, .unset]) rfl ?_
        show Steps p.tables e below (T75.setTop (mkF m 97 #[.val (.int p1), .val (.int p2), .val (.int p3), .val (.int p4), .val (.int (2 : Int32)), .val (.int (1 : Int32)), .val (.ref b72), .val (.int (3 : Int32)), .unset, .unset, .unset] [])) t_
        refine XS.aload X75.here hx rfl (hb hby at_97) rfl rfl ?_
        exact k_
      obtain ⟨cq76, kq76, q76a, q76b, q76c⟩ := isOf hZ rfl (((A72.keep Kc73).keep Kc74).keep Kc75)
      obtain ⟨_, _, ⟨T76, L76, k76, n76⟩, -, X76, ⟨Lc76, hQ76, l76, y76, z76⟩, st76⟩ := X75.virtualBack hx (y := own_y9) (z := own_y9) hown (mvT hZ (own_w hw 56 rfl)) (mvT hZ (own_w hw 57 rfl)) (notFace_of_selects (args := #[]) (mvT hZ (own_w hw 59 rfl))) (mvT hZ (own_w hw 59 rfl)) (mvT hZ (own_w hw 58 rfl)) (by decide) (backOf (W := 0) (rmTo3 l Z a0 hw [] b72 b_73 k_73 ((p1).toInt8.toInt32) ((((p2).toUInt32 >>> ((8 : Int32) &&& 31).toUInt32).toInt32).toInt8.toInt32) ((p2).toInt8.toInt32) (0 : Int32) T75.heap n0 (Nat.le_trans Z0 K75.1) (((A72.keep Kc73).keep Kc74).keep Kc75) r75_0 r75_1 r75_2) hZ (own_w hw 60 rfl) (own_w hw 2 rfl) (by decide) (by decide)) q76a q76c (g := (mkF m 99 #[.val (.int p1), .val (.int p2), .val (.int p3), .val (.int p4), .val (.int (2 : Int32)), .val (.int (1 : Int32)), .val (.ref b72), .val (.int (3 : Int32)), .unset, .unset, .unset] [(.ref b72)])) rfl (by rw [hml]; rfl) (Steps.refl _) (argsL := []) (rest := []) (lenOf pd_5 rfl) rfl (by show 2 * 0 + _ ≤ _; exact Nat.le_of_eq rfl) (hb hby at_99) (fun _ _ => ⟨rfl, rfl, (by decide : 5 + 1 ≤ _), (by decide : 273 + 3 ≤ _)⟩)
      dsimp only [Pt.U, Pt.locs, Pt.cells, Pt.slots] at X76 l76 y76 z76 st76 hQ76
      subst l76 y76 z76
      obtain ⟨d_76, k2_76, rfl, N76q, Kc76, r76_0, r76_1⟩ := hQ76
      have N76 := Fr.app N75 N76q
      refine own_via st76 ?_
      have K76 : Keep h0 T76.heap [] := K75.trans Kc76 all0
      obtain ⟨cl77, Ar77, q77, S77, M77, H77, G77⟩ := id r76_1
      refine own_go (A := T76.setTop (mkF m 114 #[.val (.int p1), .val (.int p2), .val (.int p3), .val (.int p4), .val (.int (2 : Int32)), .val (.int (1 : Int32)), .val (.ref b72), .val (.int (3 : Int32)), .val (.ref d_76), .unset, .unset] [(.ref b72)])) (fun t_ k_ => ?_) ?_
      · show Steps p.tables e below (T76.setTop (mkF m 102 #[.val (.int p1), .val (.int p2), .val (.int p3), .val (.int p4), .val (.int (2 : Int32)), .val (.int (1 : Int32)), .val (.ref b72), .val (.int (3 : Int32)), .unset, .unset, .unset] [(.ref d_76)])) t_
        refine XS.astore X76.here hx rfl (hb hby at_102) rfl rfl (l' := #[.val (.int p1), .val (.int p2), .val (.int p3), .val (.int p4), .val (.int (2 : Int32)), .val (.int (1 : Int32)), .val (.ref b72), .val (.int (3 : Int32)), .val (.ref d_76), .unset, .unset]) rfl ?_
        show Steps p.tables e below (T76.setTop (mkF m 104 #[.val (.int p1), .val (.int p2), .val (.int p3), .val (.int p4), .val (.int (2 : Int32)), .val (.int (1 : Int32)), .val (.ref b72), .val (.int (3 : Int32)), .val (.ref d_76), .unset, .unset] [])) t_
        refine XS.aload X76.here hx rfl (hb hby at_104) rfl rfl ?_
        show Steps p.tables e below (T76.setTop (mkF m 106 #[.val (.int p1), .val (.int p2), .val (.int p3), .val (.int p4), .val (.int (2 : Int32)), .val (.int (1 : Int32)), .val (.ref b72), .val (.int (3 : Int32)), .val (.ref d_76), .unset, .unset] [(.ref d_76)])) t_
        refine X76.arraylength hx Ar77.1 (State.isArrayOf_alike hZ.alike Ar77.2.1) (g := (mkF m 106 #[.val (.int p1), .val (.int p2), .val (.int p3), .val (.int p4), .val (.int (2 : Int32)), .val (.int (1 : Int32)), .val (.ref b72), .val (.int (3 : Int32)), .val (.ref d_76), .unset, .unset] [(.ref d_76)])) rfl rfl (hb hby at_106) _ ?_
        rw [len_of S77 M77]
        show Steps p.tables e below (T76.setTop (mkF m 107 #[.val (.int p1), .val (.int p2), .val (.int p3), .val (.int p4), .val (.int (2 : Int32)), .val (.int (1 : Int32)), .val (.ref b72), .val (.int (3 : Int32)), .val (.ref d_76), .unset, .unset] [(.int (3 : Int32))])) t_
        refine XS.iload X76.here hx rfl (hb hby at_107) rfl ?_
        show Steps p.tables e below (T76.setTop (mkF m 109 #[.val (.int p1), .val (.int p2), .val (.int p3), .val (.int p4), .val (.int (2 : Int32)), .val (.int (1 : Int32)), .val (.ref b72), .val (.int (3 : Int32)), .val (.ref d_76), .unset, .unset] [(.int (3 : Int32)), (.int (3 : Int32))])) t_
        refine XS.icmpNo X76.here hx rfl (hb hby at_109) rfl (teq (by decide : (3 : Int32) = (3 : Int32))).2 ?_
        show Steps p.tables e below (T76.setTop (mkF m 112 #[.val (.int p1), .val (.int p2), .val (.int p3), .val (.int p4), .val (.int (2 : Int32)), .val (.int (1 : Int32)), .val (.ref b72), .val (.int (3 : Int32)), .val (.ref d_76), .unset, .unset] [])) t_
        refine XS.aload X76.here hx rfl (hb hby at_112) rfl rfl ?_
        exact k_
      obtain ⟨cq78, kq78, q78a, q78b, q78c⟩ := isOf hZ rfl ((((A72.keep Kc73).keep Kc74).keep Kc75).keep Kc76)
      obtain ⟨_, _, ⟨T78, L78, k78, n78⟩, -, X78, ⟨Lc78, hQ78, l78, y78, z78⟩, st78⟩ := X76.virtualBack hx (y := own_y10) (z := own_y10) hown (mvT hZ (own_w hw 73 rfl)) (mvT hZ (own_w hw 74 rfl)) (notFace_of_selects (args := #[]) (mvT hZ (own_w hw 76 rfl))) (mvT hZ (own_w hw 76 rfl)) (mvT hZ (own_w hw 75 rfl)) (by decide) (backOf (W := 0) (rmSize l Z a0 hw [] b72 (3 : Int32) T76.heap n0 (Nat.le_trans Z0 K76.1) (r75_1.keep Kc76 nin0)) hZ (own_w hw 77 rfl) (own_w hw 2 rfl) (by decide) (by decide)) q78a q78c (g := (mkF m 114 #[.val (.int p1), .val (.int p2), .val (.int p3), .val (.int p4), .val (.int (2 : Int32)), .val (.int (1 : Int32)), .val (.ref b72), .val (.int (3 : Int32)), .val (.ref d_76), .unset, .unset] [(.ref b72)])) rfl (by rw [hml]; rfl) (Steps.refl _) (argsL := []) (rest := []) (lenOf pd_6 rfl) rfl (by show 2 * 0 + _ ≤ _; exact Nat.le_of_eq rfl) (hb hby at_114) (fun _ _ => ⟨rfl, rfl, (by decide : 6 + 0 ≤ _), (by decide : 276 + 0 ≤ _)⟩)
      dsimp only [Pt.U, Pt.locs, Pt.cells, Pt.slots] at X78 l78 y78 z78 st78 hQ78
      subst l78 y78 z78
      obtain ⟨rfl, N78q, eh78⟩ := hQ78
      have N78 := Fr.app N76 N78q
      refine own_via st78 ?_
      obtain ⟨cl79, Ar79, q79, S79, M79, H79, G79⟩ := id r76_1
      have hin79 : ¬ ((0 : Int32) < 0 ∨ cl79.slots.size ≤ ((0 : Int32)).toNatClampNeg) := inb_of S79 ⟨by decide, by decide⟩
      have hat79 : cl79.slots[((0 : Int32)).toNatClampNeg]? = some (.int (p1).toInt8.toInt32) := Has.at H79 hin79 rfl
      obtain ⟨cl80, Ar80, q80, S80, M80, H80, G80⟩ := id r76_1
      have hin80 : ¬ ((1 : Int32) < 0 ∨ cl80.slots.size ≤ ((1 : Int32)).toNatClampNeg) := inb_of S80 ⟨by decide, by decide⟩
      have hat80 : cl80.slots[((1 : Int32)).toNatClampNeg]? = some (.int (((p2).toUInt32 >>> ((8 : Int32) &&& 31).toUInt32).toInt32).toInt8.toInt32) := Has.at H80 hin80 rfl
      obtain ⟨cl81, Ar81, q81, S81, M81, H81, G81⟩ := id r76_1
      have hin81 : ¬ ((2 : Int32) < 0 ∨ cl81.slots.size ≤ ((2 : Int32)).toNatClampNeg) := inb_of S81 ⟨by decide, by decide⟩
      have hat81 : cl81.slots[((2 : Int32)).toNatClampNeg]? = some (.int (p2).toInt8.toInt32) := Has.at H81 hin81 rfl
      obtain ⟨cl82, Ar82, q82, S82, M82, H82, G82⟩ := id r76_1
      have hin82 : ¬ ((0 : Int32) < 0 ∨ cl82.slots.size ≤ ((0 : Int32)).toNatClampNeg) := inb_of S82 ⟨by decide, by decide⟩
      have hat82 : cl82.slots[((0 : Int32)).toNatClampNeg]? = some (.int (p1).toInt8.toInt32) := Has.at H82 hin82 rfl
      refine own_go (A := T78.setTop (mkF m 202 #[.val (.int p1), .val (.int p2), .val (.int p3), .val (.int p4), .val (.int (2 : Int32)), .val (.int (1 : Int32)), .val (.ref b72), .val (.int (3 : Int32)), .val (.ref d_76), .unset, .unset] [(.int (((p1).toInt8.toInt32 ^^^ (1 : Int32))).toInt8.toInt32), (.int (0 : Int32)), (.ref d_76)])) (fun t_ k_ => ?_) ?_
      · show Steps p.tables e below (T78.setTop (mkF m 117 #[.val (.int p1), .val (.int p2), .val (.int p3), .val (.int p4), .val (.int (2 : Int32)), .val (.int (1 : Int32)), .val (.ref b72), .val (.int (3 : Int32)), .val (.ref d_76), .unset, .unset] [(.int (3 : Int32))])) t_
        refine XS.iload X78.here hx rfl (hb hby at_117) rfl ?_
        show Steps p.tables e below (T78.setTop (mkF m 119 #[.val (.int p1), .val (.int p2), .val (.int p3), .val (.int p4), .val (.int (2 : Int32)), .val (.int (1 : Int32)), .val (.ref b72), .val (.int (3 : Int32)), .val (.ref d_76), .unset, .unset] [(.int (3 : Int32)), (.int (3 : Int32))])) t_
        refine XS.icmpYes X78.here hx rfl (pc0 := 119) (pc' := 124) rfl (hb hby at_119) rfl (teq (by decide : (3 : Int32) = (3 : Int32))).1 (by decide) (by decide) ?_
        show Steps p.tables e below (T78.setTop (mkF m 124 #[.val (.int p1), .val (.int p2), .val (.int p3), .val (.int p4), .val (.int (2 : Int32)), .val (.int (1 : Int32)), .val (.ref b72), .val (.int (3 : Int32)), .val (.ref d_76), .unset, .unset] [])) t_
        refine XS.iload X78.here hx rfl (hb hby at_124) rfl ?_
        show Steps p.tables e below (T78.setTop (mkF m 126 #[.val (.int p1), .val (.int p2), .val (.int p3), .val (.int p4), .val (.int (2 : Int32)), .val (.int (1 : Int32)), .val (.ref b72), .val (.int (3 : Int32)), .val (.ref d_76), .unset, .unset] [(.int (2 : Int32))])) t_
        refine XS.iconst X78.here hx rfl (hb hby at_126) ?_
        show Steps p.tables e below (T78.setTop (mkF m 127 #[.val (.int p1), .val (.int p2), .val (.int p3), .val (.int p4), .val (.int (2 : Int32)), .val (.int (1 : Int32)), .val (.ref b72), .val (.int (3 : Int32)), .val (.ref d_76), .unset, .unset] [(.int (1 : Int32)), (.int (2 : Int32))])) t_
        refine XS.icmpNo X78.here hx rfl (hb hby at_127) rfl (flt (by decide : ¬ ((2 : Int32) < (1 : Int32)))).1 ?_
        show Steps p.tables e below (T78.setTop (mkF m 130 #[.val (.int p1), .val (.int p2), .val (.int p3), .val (.int p4), .val (.int (2 : Int32)), .val (.int (1 : Int32)), .val (.ref b72), .val (.int (3 : Int32)), .val (.ref d_76), .unset, .unset] [])) t_
        refine XS.aload X78.here hx rfl (hb hby at_130) rfl rfl ?_
        show Steps p.tables e below (T78.setTop (mkF m 132 #[.val (.int p1), .val (.int p2), .val (.int p3), .val (.int p4), .val (.int (2 : Int32)), .val (.int (1 : Int32)), .val (.ref b72), .val (.int (3 : Int32)), .val (.ref d_76), .unset, .unset] [(.ref d_76)])) t_
        refine XS.iconst X78.here hx rfl (hb hby at_132) ?_
        show Steps p.tables e below (T78.setTop (mkF m 133 #[.val (.int p1), .val (.int p2), .val (.int p3), .val (.int p4), .val (.int (2 : Int32)), .val (.int (1 : Int32)), .val (.ref b72), .val (.int (3 : Int32)), .val (.ref d_76), .unset, .unset] [(.int (0 : Int32)), (.ref d_76)])) t_
        refine X78.baloadBytes hx (j := (0 : Int32)) (v := (.int (p1).toInt8.toInt32)) (by rw [eh78]; exact Ar79.1) (State.isArrayOf_alike hZ.alike Ar79.2.1) Ar79.2.2 hin79 hat79 (g := (mkF m 133 #[.val (.int p1), .val (.int p2), .val (.int p3), .val (.int p4), .val (.int (2 : Int32)), .val (.int (1 : Int32)), .val (.ref b72), .val (.int (3 : Int32)), .val (.ref d_76), .unset, .unset] [(.int (0 : Int32)), (.ref d_76)])) rfl rfl (hb hby at_133) _ ?_
        show Steps p.tables e below (T78.setTop (mkF m 134 #[.val (.int p1), .val (.int p2), .val (.int p3), .val (.int p4), .val (.int (2 : Int32)), .val (.int (1 : Int32)), .val (.ref b72), .val (.int (3 : Int32)), .val (.ref d_76), .unset, .unset] [(.int (p1).toInt8.toInt32)])) t_
        refine XS.iloadN X78.here hx rfl (hb hby at_134) rfl ?_
        show Steps p.tables e below (T78.setTop (mkF m 135 #[.val (.int p1), .val (.int p2), .val (.int p3), .val (.int p4), .val (.int (2 : Int32)), .val (.int (1 : Int32)), .val (.ref b72), .val (.int (3 : Int32)), .val (.ref d_76), .unset, .unset] [(.int p1), (.int (p1).toInt8.toInt32)])) t_
        refine XS.i2b X78.here hx rfl (hb hby at_135) rfl ?_
        show Steps p.tables e below (T78.setTop (mkF m 136 #[.val (.int p1), .val (.int p2), .val (.int p3), .val (.int p4), .val (.int (2 : Int32)), .val (.int (1 : Int32)), .val (.ref b72), .val (.int (3 : Int32)), .val (.ref d_76), .unset, .unset] [(.int (p1).toInt8.toInt32), (.int (p1).toInt8.toInt32)])) t_
        refine XS.icmpYes X78.here hx rfl (pc0 := 136) (pc' := 141) rfl (hb hby at_136) rfl (teq (rfl : (p1).toInt8.toInt32 = (p1).toInt8.toInt32)).1 (by decide) (by decide) ?_
        show Steps p.tables e below (T78.setTop (mkF m 141 #[.val (.int p1), .val (.int p2), .val (.int p3), .val (.int p4), .val (.int (2 : Int32)), .val (.int (1 : Int32)), .val (.ref b72), .val (.int (3 : Int32)), .val (.ref d_76), .unset, .unset] [])) t_
        refine XS.iload X78.here hx rfl (hb hby at_141) rfl ?_
        show Steps p.tables e below (T78.setTop (mkF m 143 #[.val (.int p1), .val (.int p2), .val (.int p3), .val (.int p4), .val (.int (2 : Int32)), .val (.int (1 : Int32)), .val (.ref b72), .val (.int (3 : Int32)), .val (.ref d_76), .unset, .unset] [(.int (2 : Int32))])) t_
        refine XS.iconst X78.here hx rfl (hb hby at_143) ?_
        show Steps p.tables e below (T78.setTop (mkF m 144 #[.val (.int p1), .val (.int p2), .val (.int p3), .val (.int p4), .val (.int (2 : Int32)), .val (.int (1 : Int32)), .val (.ref b72), .val (.int (3 : Int32)), .val (.ref d_76), .unset, .unset] [(.int (2 : Int32)), (.int (2 : Int32))])) t_
        refine XS.icmpNo X78.here hx rfl (hb hby at_144) rfl (flt (by decide : ¬ ((2 : Int32) < (2 : Int32)))).1 ?_
        show Steps p.tables e below (T78.setTop (mkF m 147 #[.val (.int p1), .val (.int p2), .val (.int p3), .val (.int p4), .val (.int (2 : Int32)), .val (.int (1 : Int32)), .val (.ref b72), .val (.int (3 : Int32)), .val (.ref d_76), .unset, .unset] [])) t_
        refine XS.aload X78.here hx rfl (hb hby at_147) rfl rfl ?_
        show Steps p.tables e below (T78.setTop (mkF m 149 #[.val (.int p1), .val (.int p2), .val (.int p3), .val (.int p4), .val (.int (2 : Int32)), .val (.int (1 : Int32)), .val (.ref b72), .val (.int (3 : Int32)), .val (.ref d_76), .unset, .unset] [(.ref d_76)])) t_
        refine XS.iconst X78.here hx rfl (hb hby at_149) ?_
        show Steps p.tables e below (T78.setTop (mkF m 150 #[.val (.int p1), .val (.int p2), .val (.int p3), .val (.int p4), .val (.int (2 : Int32)), .val (.int (1 : Int32)), .val (.ref b72), .val (.int (3 : Int32)), .val (.ref d_76), .unset, .unset] [(.int (1 : Int32)), (.ref d_76)])) t_
        refine X78.baloadBytes hx (j := (1 : Int32)) (v := (.int (((p2).toUInt32 >>> ((8 : Int32) &&& 31).toUInt32).toInt32).toInt8.toInt32)) (by rw [eh78]; exact Ar80.1) (State.isArrayOf_alike hZ.alike Ar80.2.1) Ar80.2.2 hin80 hat80 (g := (mkF m 150 #[.val (.int p1), .val (.int p2), .val (.int p3), .val (.int p4), .val (.int (2 : Int32)), .val (.int (1 : Int32)), .val (.ref b72), .val (.int (3 : Int32)), .val (.ref d_76), .unset, .unset] [(.int (1 : Int32)), (.ref d_76)])) rfl rfl (hb hby at_150) _ ?_
        show Steps p.tables e below (T78.setTop (mkF m 151 #[.val (.int p1), .val (.int p2), .val (.int p3), .val (.int p4), .val (.int (2 : Int32)), .val (.int (1 : Int32)), .val (.ref b72), .val (.int (3 : Int32)), .val (.ref d_76), .unset, .unset] [(.int (((p2).toUInt32 >>> ((8 : Int32) &&& 31).toUInt32).toInt32).toInt8.toInt32)])) t_
        refine XS.iloadN X78.here hx rfl (hb hby at_151) rfl ?_
        show Steps p.tables e below (T78.setTop (mkF m 152 #[.val (.int p1), .val (.int p2), .val (.int p3), .val (.int p4), .val (.int (2 : Int32)), .val (.int (1 : Int32)), .val (.ref b72), .val (.int (3 : Int32)), .val (.ref d_76), .unset, .unset] [(.int p2), (.int (((p2).toUInt32 >>> ((8 : Int32) &&& 31).toUInt32).toInt32).toInt8.toInt32)])) t_
        refine XS.bipush X78.here hx rfl (hb hby at_152) ?_
        show Steps p.tables e below (T78.setTop (mkF m 154 #[.val (.int p1), .val (.int p2), .val (.int p3), .val (.int p4), .val (.int (2 : Int32)), .val (.int (1 : Int32)), .val (.ref b72), .val (.int (3 : Int32)), .val (.ref d_76), .unset, .unset] [(.int (8 : Int32)), (.int p2), (.int (((p2).toUInt32 >>> ((8 : Int32) &&& 31).toUInt32).toInt32).toInt8.toInt32)])) t_
        refine XS.iushr X78.here hx rfl (hb hby at_154) rfl ?_
        show Steps p.tables e below (T78.setTop (mkF m 155 #[.val (.int p1), .val (.int p2), .val (.int p3), .val (.int p4), .val (.int (2 : Int32)), .val (.int (1 : Int32)), .val (.ref b72), .val (.int (3 : Int32)), .val (.ref d_76), .unset, .unset] [(.int ((p2).toUInt32 >>> ((8 : Int32) &&& 31).toUInt32).toInt32), (.int (((p2).toUInt32 >>> ((8 : Int32) &&& 31).toUInt32).toInt32).toInt8.toInt32)])) t_
        refine XS.i2b X78.here hx rfl (hb hby at_155) rfl ?_
        show Steps p.tables e below (T78.setTop (mkF m 156 #[.val (.int p1), .val (.int p2), .val (.int p3), .val (.int p4), .val (.int (2 : Int32)), .val (.int (1 : Int32)), .val (.ref b72), .val (.int (3 : Int32)), .val (.ref d_76), .unset, .unset] [(.int (((p2).toUInt32 >>> ((8 : Int32) &&& 31).toUInt32).toInt32).toInt8.toInt32), (.int (((p2).toUInt32 >>> ((8 : Int32) &&& 31).toUInt32).toInt32).toInt8.toInt32)])) t_
        refine XS.icmpNo X78.here hx rfl (hb hby at_156) rfl (teq (rfl : (((p2).toUInt32 >>> ((8 : Int32) &&& 31).toUInt32).toInt32).toInt8.toInt32 = (((p2).toUInt32 >>> ((8 : Int32) &&& 31).toUInt32).toInt32).toInt8.toInt32)).2 ?_
        show Steps p.tables e below (T78.setTop (mkF m 159 #[.val (.int p1), .val (.int p2), .val (.int p3), .val (.int p4), .val (.int (2 : Int32)), .val (.int (1 : Int32)), .val (.ref b72), .val (.int (3 : Int32)), .val (.ref d_76), .unset, .unset] [])) t_
        refine XS.aload X78.here hx rfl (hb hby at_159) rfl rfl ?_
        show Steps p.tables e below (T78.setTop (mkF m 161 #[.val (.int p1), .val (.int p2), .val (.int p3), .val (.int p4), .val (.int (2 : Int32)), .val (.int (1 : Int32)), .val (.ref b72), .val (.int (3 : Int32)), .val (.ref d_76), .unset, .unset] [(.ref d_76)])) t_
        refine XS.iconst X78.here hx rfl (hb hby at_161) ?_
        show Steps p.tables e below (T78.setTop (mkF m 162 #[.val (.int p1), .val (.int p2), .val (.int p3), .val (.int p4), .val (.int (2 : Int32)), .val (.int (1 : Int32)), .val (.ref b72), .val (.int (3 : Int32)), .val (.ref d_76), .unset, .unset] [(.int (2 : Int32)), (.ref d_76)])) t_
        refine X78.baloadBytes hx (j := (2 : Int32)) (v := (.int (p2).toInt8.toInt32)) (by rw [eh78]; exact Ar81.1) (State.isArrayOf_alike hZ.alike Ar81.2.1) Ar81.2.2 hin81 hat81 (g := (mkF m 162 #[.val (.int p1), .val (.int p2), .val (.int p3), .val (.int p4), .val (.int (2 : Int32)), .val (.int (1 : Int32)), .val (.ref b72), .val (.int (3 : Int32)), .val (.ref d_76), .unset, .unset] [(.int (2 : Int32)), (.ref d_76)])) rfl rfl (hb hby at_162) _ ?_
        show Steps p.tables e below (T78.setTop (mkF m 163 #[.val (.int p1), .val (.int p2), .val (.int p3), .val (.int p4), .val (.int (2 : Int32)), .val (.int (1 : Int32)), .val (.ref b72), .val (.int (3 : Int32)), .val (.ref d_76), .unset, .unset] [(.int (p2).toInt8.toInt32)])) t_
        refine XS.iloadN X78.here hx rfl (hb hby at_163) rfl ?_
        show Steps p.tables e below (T78.setTop (mkF m 164 #[.val (.int p1), .val (.int p2), .val (.int p3), .val (.int p4), .val (.int (2 : Int32)), .val (.int (1 : Int32)), .val (.ref b72), .val (.int (3 : Int32)), .val (.ref d_76), .unset, .unset] [(.int p2), (.int (p2).toInt8.toInt32)])) t_
        refine XS.i2b X78.here hx rfl (hb hby at_164) rfl ?_
        show Steps p.tables e below (T78.setTop (mkF m 165 #[.val (.int p1), .val (.int p2), .val (.int p3), .val (.int p4), .val (.int (2 : Int32)), .val (.int (1 : Int32)), .val (.ref b72), .val (.int (3 : Int32)), .val (.ref d_76), .unset, .unset] [(.int (p2).toInt8.toInt32), (.int (p2).toInt8.toInt32)])) t_
        refine XS.icmpYes X78.here hx rfl (pc0 := 165) (pc' := 170) rfl (hb hby at_165) rfl (teq (rfl : (p2).toInt8.toInt32 = (p2).toInt8.toInt32)).1 (by decide) (by decide) ?_
        show Steps p.tables e below (T78.setTop (mkF m 170 #[.val (.int p1), .val (.int p2), .val (.int p3), .val (.int p4), .val (.int (2 : Int32)), .val (.int (1 : Int32)), .val (.ref b72), .val (.int (3 : Int32)), .val (.ref d_76), .unset, .unset] [])) t_
        refine XS.iload X78.here hx rfl (hb hby at_170) rfl ?_
        show Steps p.tables e below (T78.setTop (mkF m 172 #[.val (.int p1), .val (.int p2), .val (.int p3), .val (.int p4), .val (.int (2 : Int32)), .val (.int (1 : Int32)), .val (.ref b72), .val (.int (3 : Int32)), .val (.ref d_76), .unset, .unset] [(.int (2 : Int32))])) t_
        refine XS.iconst X78.here hx rfl (hb hby at_172) ?_
        show Steps p.tables e below (T78.setTop (mkF m 173 #[.val (.int p1), .val (.int p2), .val (.int p3), .val (.int p4), .val (.int (2 : Int32)), .val (.int (1 : Int32)), .val (.ref b72), .val (.int (3 : Int32)), .val (.ref d_76), .unset, .unset] [(.int (3 : Int32)), (.int (2 : Int32))])) t_
        refine XS.icmpYes X78.here hx rfl (pc0 := 173) (pc' := 187) rfl (hb hby at_173) rfl (tlt (by decide : (2 : Int32) < (3 : Int32))).1 (by decide) (by decide) ?_
        show Steps p.tables e below (T78.setTop (mkF m 187 #[.val (.int p1), .val (.int p2), .val (.int p3), .val (.int p4), .val (.int (2 : Int32)), .val (.int (1 : Int32)), .val (.ref b72), .val (.int (3 : Int32)), .val (.ref d_76), .unset, .unset] [])) t_
        refine XS.iload X78.here hx rfl (hb hby at_187) rfl ?_
        show Steps p.tables e below (T78.setTop (mkF m 189 #[.val (.int p1), .val (.int p2), .val (.int p3), .val (.int p4), .val (.int (2 : Int32)), .val (.int (1 : Int32)), .val (.ref b72), .val (.int (3 : Int32)), .val (.ref d_76), .unset, .unset] [(.int (3 : Int32))])) t_
        refine XS.ifNo X78.here hx rfl (hb hby at_189) rfl ((if0 _ _).trans (tlt (by decide : (0 : Int32) < (3 : Int32))).2.2.2) ?_
        show Steps p.tables e below (T78.setTop (mkF m 192 #[.val (.int p1), .val (.int p2), .val (.int p3), .val (.int p4), .val (.int (2 : Int32)), .val (.int (1 : Int32)), .val (.ref b72), .val (.int (3 : Int32)), .val (.ref d_76), .unset, .unset] [])) t_
        refine XS.aload X78.here hx rfl (hb hby at_192) rfl rfl ?_
        show Steps p.tables e below (T78.setTop (mkF m 194 #[.val (.int p1), .val (.int p2), .val (.int p3), .val (.int p4), .val (.int (2 : Int32)), .val (.int (1 : Int32)), .val (.ref b72), .val (.int (3 : Int32)), .val (.ref d_76), .unset, .unset] [(.ref d_76)])) t_
        refine XS.iconst X78.here hx rfl (hb hby at_194) ?_
        show Steps p.tables e below (T78.setTop (mkF m 195 #[.val (.int p1), .val (.int p2), .val (.int p3), .val (.int p4), .val (.int (2 : Int32)), .val (.int (1 : Int32)), .val (.ref b72), .val (.int (3 : Int32)), .val (.ref d_76), .unset, .unset] [(.int (0 : Int32)), (.ref d_76)])) t_
        refine XS.aload X78.here hx rfl (hb hby at_195) rfl rfl ?_
        show Steps p.tables e below (T78.setTop (mkF m 197 #[.val (.int p1), .val (.int p2), .val (.int p3), .val (.int p4), .val (.int (2 : Int32)), .val (.int (1 : Int32)), .val (.ref b72), .val (.int (3 : Int32)), .val (.ref d_76), .unset, .unset] [(.ref d_76), (.int (0 : Int32)), (.ref d_76)])) t_
        refine XS.iconst X78.here hx rfl (hb hby at_197) ?_
        show Steps p.tables e below (T78.setTop (mkF m 198 #[.val (.int p1), .val (.int p2), .val (.int p3), .val (.int p4), .val (.int (2 : Int32)), .val (.int (1 : Int32)), .val (.ref b72), .val (.int (3 : Int32)), .val (.ref d_76), .unset, .unset] [(.int (0 : Int32)), (.ref d_76), (.int (0 : Int32)), (.ref d_76)])) t_
        refine X78.baloadBytes hx (j := (0 : Int32)) (v := (.int (p1).toInt8.toInt32)) (by rw [eh78]; exact Ar82.1) (State.isArrayOf_alike hZ.alike Ar82.2.1) Ar82.2.2 hin82 hat82 (g := (mkF m 198 #[.val (.int p1), .val (.int p2), .val (.int p3), .val (.int p4), .val (.int (2 : Int32)), .val (.int (1 : Int32)), .val (.ref b72), .val (.int (3 : Int32)), .val (.ref d_76), .unset, .unset] [(.int (0 : Int32)), (.ref d_76), (.int (0 : Int32)), (.ref d_76)])) rfl rfl (hb hby at_198) _ ?_
        show Steps p.tables e below (T78.setTop (mkF m 199 #[.val (.int p1), .val (.int p2), .val (.int p3), .val (.int p4), .val (.int (2 : Int32)), .val (.int (1 : Int32)), .val (.ref b72), .val (.int (3 : Int32)), .val (.ref d_76), .unset, .unset] [(.int (p1).toInt8.toInt32), (.int (0 : Int32)), (.ref d_76)])) t_
        refine XS.iconst X78.here hx rfl (hb hby at_199) ?_
        show Steps p.tables e below (T78.setTop (mkF m 200 #[.val (.int p1), .val (.int p2), .val (.int p3), .val (.int p4), .val (.int (2 : Int32)), .val (.int (1 : Int32)), .val (.ref b72), .val (.int (3 : Int32)), .val (.ref d_76), .unset, .unset] [(.int (1 : Int32)), (.int (p1).toInt8.toInt32), (.int (0 : Int32)), (.ref d_76)])) t_
        refine XS.ixor X78.here hx rfl (hb hby at_200) rfl ?_
        show Steps p.tables e below (T78.setTop (mkF m 201 #[.val (.int p1), .val (.int p2), .val (.int p3), .val (.int p4), .val (.int (2 : Int32)), .val (.int (1 : Int32)), .val (.ref b72), .val (.int (3 : Int32)), .val (.ref d_76), .unset, .unset] [(.int ((p1).toInt8.toInt32 ^^^ (1 : Int32))), (.int (0 : Int32)), (.ref d_76)])) t_
        refine XS.i2b X78.here hx rfl (hb hby at_201) rfl ?_
        exact k_
      obtain ⟨cl83, Ar83, q83, S83, M83, H83, G83⟩ := id r76_1
      have hin83 : ¬ ((0 : Int32) < 0 ∨ cl83.slots.size ≤ ((0 : Int32)).toNatClampNeg) := inb_of S83 ⟨by decide, by decide⟩
      obtain ⟨T84, h84, X84, e84, W84, st84⟩ := stB X78 hx hZ eh78 Ar83 (j := (0 : Int32)) hin83 (g := (mkF m 202 #[.val (.int p1), .val (.int p2), .val (.int p3), .val (.int p4), .val (.int (2 : Int32)), .val (.int (1 : Int32)), .val (.ref b72), .val (.int (3 : Int32)), .val (.ref d_76), .unset, .unset] [(.int (((p1).toInt8.toInt32 ^^^ (1 : Int32))).toInt8.toInt32), (.int (0 : Int32)), (.ref d_76)])) rfl rfl (hb hby at_202)
      rw [own_narb] at W84
      have B84 : Arv Z h84 d_76 k2_76 .byte (3 : Int32) [(.int (((p1).toInt8.toInt32 ^^^ (1 : Int32))).toInt8.toInt32), (.int (((p2).toUInt32 >>> ((8 : Int32) &&& 31).toUInt32).toInt32).toInt8.toInt32), (.int (p2).toInt8.toInt32)] (.int (0 : Int32)) := Arv.set Ar83 q83 S83 M83 H83 G83 (fits_nar_byte _) W84 0 rfl (Nat.le_of_ble_eq_true rfl)
      refine own_go st84 ?_
      have K84 : Keep h0 h84 [] := K76.wr W84 (Or.inr (Nat.le_trans K75.1 r76_0))
      have N84 := Fr.snoc X84 N78 (Nat.le_trans Z0 (Nat.le_trans K75.1 r76_0))
      refine own_go (A := T84.setTop (mkF m 205 #[.val (.int p1), .val (.int p2), .val (.int p3), .val (.int p4), .val (.int (2 : Int32)), .val (.int (1 : Int32)), .val (.ref b72), .val (.int (3 : Int32)), .val (.ref d_76), .unset, .unset] [(.ref b72)])) (fun t_ k_ => ?_) ?_
      · show Steps p.tables e below (T84.setTop (mkF m 203 #[.val (.int p1), .val (.int p2), .val (.int p3), .val (.int p4), .val (.int (2 : Int32)), .val (.int (1 : Int32)), .val (.ref b72), .val (.int (3 : Int32)), .val (.ref d_76), .unset, .unset] [])) t_
        refine XS.aload X84.here hx rfl (hb hby at_203) rfl rfl ?_
        exact k_
      obtain ⟨cq85, kq85, q85a, q85b, q85c⟩ := isOf hZ e84 (((((A72.keep Kc73).keep Kc74).keep Kc75).keep Kc76).wr W84)
      obtain ⟨_, _, ⟨T85, L85, k85, n85⟩, -, X85, ⟨Lc85, hQ85, l85, y85, z85⟩, st85⟩ := X84.virtualBack hx (y := own_y9) (z := own_y9) hown (mvT hZ (own_w hw 56 rfl)) (mvT hZ (own_w hw 57 rfl)) (notFace_of_selects (args := #[]) (mvT hZ (own_w hw 59 rfl))) (mvT hZ (own_w hw 59 rfl)) (mvT hZ (own_w hw 58 rfl)) (by decide) (backOf (W := 0) (rmTo3 l Z a0 hw [] b72 b_73 k_73 ((p1).toInt8.toInt32) ((((p2).toUInt32 >>> ((8 : Int32) &&& 31).toUInt32).toInt32).toInt8.toInt32) ((p2).toInt8.toInt32) (0 : Int32) h84 n0 (Nat.le_trans Z0 K84.1) (((((A72.keep Kc73).keep Kc74).keep Kc75).keep Kc76).wr W84) ((r75_0.keep Kc76 nin0).other W84 (Or.inl (Nat.ne_of_lt (Nat.lt_of_lt_of_le (Nat.lt_of_lt_of_le (Nat.lt_of_lt_of_le (Nat.lt_of_lt_of_le A72.lt Kc73.1) Kc74.1) Kc75.1) r76_0)))) ((r75_1.keep Kc76 nin0).other W84 (Or.inl (Nat.ne_of_lt (Nat.lt_of_lt_of_le (Nat.lt_of_lt_of_le (Nat.lt_of_lt_of_le (Nat.lt_of_lt_of_le A72.lt Kc73.1) Kc74.1) Kc75.1) r76_0)))) ((r75_2.keep Kc76 nin0).other W84 (Nat.ne_of_lt (Nat.lt_of_lt_of_le (Nat.lt_of_lt_of_le (Nat.lt_of_lt_of_le r73_3.lt Kc74.1) Kc75.1) r76_0)))) hZ (own_w hw 60 rfl) (own_w hw 2 rfl) (by decide) (by decide)) q85a q85c (g := (mkF m 205 #[.val (.int p1), .val (.int p2), .val (.int p3), .val (.int p4), .val (.int (2 : Int32)), .val (.int (1 : Int32)), .val (.ref b72), .val (.int (3 : Int32)), .val (.ref d_76), .unset, .unset] [(.ref b72)])) rfl (by rw [hml]; rfl) (Steps.refl _) (argsL := []) (rest := []) (lenOf pd_5 rfl) rfl (by show 2 * 0 + _ ≤ _; exact Nat.le_of_eq rfl) (hb hby at_205) (fun _ _ => ⟨rfl, e84, (by decide : 6 + 1 ≤ _), (by decide : 276 + 3 ≤ _)⟩)
      dsimp only [Pt.U, Pt.locs, Pt.cells, Pt.slots] at X85 l85 y85 z85 st85 hQ85
      subst l85 y85 z85
      obtain ⟨d_85, k2_85, rfl, N85q, Kc85, r85_0, r85_1⟩ := hQ85
      have N85 := Fr.app N84 N85q
      refine own_via st85 ?_
      have K85 : Keep h0 T85.heap [] := K84.trans Kc85 all0
      obtain ⟨cl86, Ar86, q86, S86, M86, H86, G86⟩ := id r85_1
      obtain ⟨cl87, Ar87, q87, S87, M87, H87, G87⟩ := id r85_1
      have hin87 : ¬ ((0 : Int32) < 0 ∨ cl87.slots.size ≤ ((0 : Int32)).toNatClampNeg) := inb_of S87 ⟨by decide, by decide⟩
      have hat87 : cl87.slots[((0 : Int32)).toNatClampNeg]? = some (.int (p1).toInt8.toInt32) := Has.at H87 hin87 rfl
      refine own_go (A := T85.setTop (mkF m 244 #[.val (.int p1), .val (.int p2), .val (.int p3), .val (.int p4), .val (.int (2 : Int32)), .val (.int (1 : Int32)), .val (.ref b72), .val (.int (3 : Int32)), .val (.ref d_76), .val (.ref d_85), .unset] [(.ref b72)])) (fun t_ k_ => ?_) ?_
      · show Steps p.tables e below (T85.setTop (mkF m 208 #[.val (.int p1), .val (.int p2), .val (.int p3), .val (.int p4), .val (.int (2 : Int32)), .val (.int (1 : Int32)), .val (.ref b72), .val (.int (3 : Int32)), .val (.ref d_76), .unset, .unset] [(.ref d_85)])) t_
        refine XS.astore X85.here hx rfl (hb hby at_208) rfl rfl (l' := #[.val (.int p1), .val (.int p2), .val (.int p3), .val (.int p4), .val (.int (2 : Int32)), .val (.int (1 : Int32)), .val (.ref b72), .val (.int (3 : Int32)), .val (.ref d_76), .val (.ref d_85), .unset]) rfl ?_
        show Steps p.tables e below (T85.setTop (mkF m 210 #[.val (.int p1), .val (.int p2), .val (.int p3), .val (.int p4), .val (.int (2 : Int32)), .val (.int (1 : Int32)), .val (.ref b72), .val (.int (3 : Int32)), .val (.ref d_76), .val (.ref d_85), .unset] [])) t_
        refine XS.aload X85.here hx rfl (hb hby at_210) rfl rfl ?_
        show Steps p.tables e below (T85.setTop (mkF m 212 #[.val (.int p1), .val (.int p2), .val (.int p3), .val (.int p4), .val (.int (2 : Int32)), .val (.int (1 : Int32)), .val (.ref b72), .val (.int (3 : Int32)), .val (.ref d_76), .val (.ref d_85), .unset] [(.ref d_85)])) t_
        refine X85.arraylength hx Ar86.1 (State.isArrayOf_alike hZ.alike Ar86.2.1) (g := (mkF m 212 #[.val (.int p1), .val (.int p2), .val (.int p3), .val (.int p4), .val (.int (2 : Int32)), .val (.int (1 : Int32)), .val (.ref b72), .val (.int (3 : Int32)), .val (.ref d_76), .val (.ref d_85), .unset] [(.ref d_85)])) rfl rfl (hb hby at_212) _ ?_
        rw [len_of S86 M86]
        show Steps p.tables e below (T85.setTop (mkF m 213 #[.val (.int p1), .val (.int p2), .val (.int p3), .val (.int p4), .val (.int (2 : Int32)), .val (.int (1 : Int32)), .val (.ref b72), .val (.int (3 : Int32)), .val (.ref d_76), .val (.ref d_85), .unset] [(.int (3 : Int32))])) t_
        refine XS.iload X85.here hx rfl (hb hby at_213) rfl ?_
        show Steps p.tables e below (T85.setTop (mkF m 215 #[.val (.int p1), .val (.int p2), .val (.int p3), .val (.int p4), .val (.int (2 : Int32)), .val (.int (1 : Int32)), .val (.ref b72), .val (.int (3 : Int32)), .val (.ref d_76), .val (.ref d_85), .unset] [(.int (3 : Int32)), (.int (3 : Int32))])) t_
        refine XS.icmpYes X85.here hx rfl (pc0 := 215) (pc' := 220) rfl (hb hby at_215) rfl (teq (by decide : (3 : Int32) = (3 : Int32))).1 (by decide) (by decide) ?_
        show Steps p.tables e below (T85.setTop (mkF m 220 #[.val (.int p1), .val (.int p2), .val (.int p3), .val (.int p4), .val (.int (2 : Int32)), .val (.int (1 : Int32)), .val (.ref b72), .val (.int (3 : Int32)), .val (.ref d_76), .val (.ref d_85), .unset] [])) t_
        refine XS.iload X85.here hx rfl (hb hby at_220) rfl ?_
        show Steps p.tables e below (T85.setTop (mkF m 222 #[.val (.int p1), .val (.int p2), .val (.int p3), .val (.int p4), .val (.int (2 : Int32)), .val (.int (1 : Int32)), .val (.ref b72), .val (.int (3 : Int32)), .val (.ref d_76), .val (.ref d_85), .unset] [(.int (2 : Int32))])) t_
        refine XS.iconst X85.here hx rfl (hb hby at_222) ?_
        show Steps p.tables e below (T85.setTop (mkF m 223 #[.val (.int p1), .val (.int p2), .val (.int p3), .val (.int p4), .val (.int (2 : Int32)), .val (.int (1 : Int32)), .val (.ref b72), .val (.int (3 : Int32)), .val (.ref d_76), .val (.ref d_85), .unset] [(.int (1 : Int32)), (.int (2 : Int32))])) t_
        refine XS.icmpNo X85.here hx rfl (hb hby at_223) rfl (flt (by decide : ¬ ((2 : Int32) < (1 : Int32)))).1 ?_
        show Steps p.tables e below (T85.setTop (mkF m 226 #[.val (.int p1), .val (.int p2), .val (.int p3), .val (.int p4), .val (.int (2 : Int32)), .val (.int (1 : Int32)), .val (.ref b72), .val (.int (3 : Int32)), .val (.ref d_76), .val (.ref d_85), .unset] [])) t_
        refine XS.aload X85.here hx rfl (hb hby at_226) rfl rfl ?_
        show Steps p.tables e below (T85.setTop (mkF m 228 #[.val (.int p1), .val (.int p2), .val (.int p3), .val (.int p4), .val (.int (2 : Int32)), .val (.int (1 : Int32)), .val (.ref b72), .val (.int (3 : Int32)), .val (.ref d_76), .val (.ref d_85), .unset] [(.ref d_85)])) t_
        refine XS.iconst X85.here hx rfl (hb hby at_228) ?_
        show Steps p.tables e below (T85.setTop (mkF m 229 #[.val (.int p1), .val (.int p2), .val (.int p3), .val (.int p4), .val (.int (2 : Int32)), .val (.int (1 : Int32)), .val (.ref b72), .val (.int (3 : Int32)), .val (.ref d_76), .val (.ref d_85), .unset] [(.int (0 : Int32)), (.ref d_85)])) t_
        refine X85.baloadBytes hx (j := (0 : Int32)) (v := (.int (p1).toInt8.toInt32)) Ar87.1 (State.isArrayOf_alike hZ.alike Ar87.2.1) Ar87.2.2 hin87 hat87 (g := (mkF m 229 #[.val (.int p1), .val (.int p2), .val (.int p3), .val (.int p4), .val (.int (2 : Int32)), .val (.int (1 : Int32)), .val (.ref b72), .val (.int (3 : Int32)), .val (.ref d_76), .val (.ref d_85), .unset] [(.int (0 : Int32)), (.ref d_85)])) rfl rfl (hb hby at_229) _ ?_
        show Steps p.tables e below (T85.setTop (mkF m 230 #[.val (.int p1), .val (.int p2), .val (.int p3), .val (.int p4), .val (.int (2 : Int32)), .val (.int (1 : Int32)), .val (.ref b72), .val (.int (3 : Int32)), .val (.ref d_76), .val (.ref d_85), .unset] [(.int (p1).toInt8.toInt32)])) t_
        refine XS.iloadN X85.here hx rfl (hb hby at_230) rfl ?_
        show Steps p.tables e below (T85.setTop (mkF m 231 #[.val (.int p1), .val (.int p2), .val (.int p3), .val (.int p4), .val (.int (2 : Int32)), .val (.int (1 : Int32)), .val (.ref b72), .val (.int (3 : Int32)), .val (.ref d_76), .val (.ref d_85), .unset] [(.int p1), (.int (p1).toInt8.toInt32)])) t_
        refine XS.i2b X85.here hx rfl (hb hby at_231) rfl ?_
        show Steps p.tables e below (T85.setTop (mkF m 232 #[.val (.int p1), .val (.int p2), .val (.int p3), .val (.int p4), .val (.int (2 : Int32)), .val (.int (1 : Int32)), .val (.ref b72), .val (.int (3 : Int32)), .val (.ref d_76), .val (.ref d_85), .unset] [(.int (p1).toInt8.toInt32), (.int (p1).toInt8.toInt32)])) t_
        refine XS.icmpYes X85.here hx rfl (pc0 := 232) (pc' := 237) rfl (hb hby at_232) rfl (teq (rfl : (p1).toInt8.toInt32 = (p1).toInt8.toInt32)).1 (by decide) (by decide) ?_
        show Steps p.tables e below (T85.setTop (mkF m 237 #[.val (.int p1), .val (.int p2), .val (.int p3), .val (.int p4), .val (.int (2 : Int32)), .val (.int (1 : Int32)), .val (.ref b72), .val (.int (3 : Int32)), .val (.ref d_76), .val (.ref d_85), .unset] [])) t_
        refine XS.iload X85.here hx rfl (hb hby at_237) rfl ?_
        show Steps p.tables e below (T85.setTop (mkF m 239 #[.val (.int p1), .val (.int p2), .val (.int p3), .val (.int p4), .val (.int (2 : Int32)), .val (.int (1 : Int32)), .val (.ref b72), .val (.int (3 : Int32)), .val (.ref d_76), .val (.ref d_85), .unset] [(.int (1 : Int32))])) t_
        refine XS.ifNo X85.here hx rfl (hb hby at_239) rfl ((if0 _ _).trans (feq (by decide : ¬ ((1 : Int32) = (0 : Int32)))).1) ?_
        show Steps p.tables e below (T85.setTop (mkF m 242 #[.val (.int p1), .val (.int p2), .val (.int p3), .val (.int p4), .val (.int (2 : Int32)), .val (.int (1 : Int32)), .val (.ref b72), .val (.int (3 : Int32)), .val (.ref d_76), .val (.ref d_85), .unset] [])) t_
        refine XS.aload X85.here hx rfl (hb hby at_242) rfl rfl ?_
        exact k_
      obtain ⟨cq88, kq88, q88a, q88b, q88c⟩ := isOf hZ rfl ((((((A72.keep Kc73).keep Kc74).keep Kc75).keep Kc76).wr W84).keep Kc85)
      obtain ⟨_, _, ⟨T88, L88, k88, n88⟩, -, X88, ⟨Lc88, hQ88, l88, y88, z88⟩, st88⟩ := X85.virtualBack hx (y := own_y11) (z := own_y11) hown (mvT hZ (own_w hw 83 rfl)) (mvT hZ (own_w hw 84 rfl)) (notFace_of_selects (args := #[]) (mvT hZ (own_w hw 86 rfl))) (mvT hZ (own_w hw 86 rfl)) (mvT hZ (own_w hw 85 rfl)) (by decide) (backOf (W := 0) (rmReset l Z a0 hw [] b72 b_73 (3 : Int32) T85.heap n0 (Nat.le_trans Z0 K85.1) ((((((A72.keep Kc73).keep Kc74).keep Kc75).keep Kc76).wr W84).keep Kc85) (((r75_0.keep Kc76 nin0).other W84 (Or.inl (Nat.ne_of_lt (Nat.lt_of_lt_of_le (Nat.lt_of_lt_of_le (Nat.lt_of_lt_of_le (Nat.lt_of_lt_of_le A72.lt Kc73.1) Kc74.1) Kc75.1) r76_0)))).keep Kc85 nin0) (((r75_1.keep Kc76 nin0).other W84 (Or.inl (Nat.ne_of_lt (Nat.lt_of_lt_of_le (Nat.lt_of_lt_of_le (Nat.lt_of_lt_of_le (Nat.lt_of_lt_of_le A72.lt Kc73.1) Kc74.1) Kc75.1) r76_0)))).keep Kc85 nin0) (Nat.le_trans Z0 (Nat.le_of_eq g72.symm))) hZ (own_w hw 87 rfl) (own_w hw 2 rfl) (by decide) (by decide)) q88a q88c (g := (mkF m 244 #[.val (.int p1), .val (.int p2), .val (.int p3), .val (.int p4), .val (.int (2 : Int32)), .val (.int (1 : Int32)), .val (.ref b72), .val (.int (3 : Int32)), .val (.ref d_76), .val (.ref d_85), .unset] [(.ref b72)])) rfl (by rw [hml]; rfl) (Steps.refl _) (argsL := []) (rest := []) (lenOf pd_0 rfl) rfl (by show 2 * 0 + _ ≤ _; exact Nat.le_of_eq rfl) (hb hby at_244) (fun _ _ => ⟨rfl, rfl, (by decide : 7 + 0 ≤ _), (by decide : 279 + 0 ≤ _)⟩)
      dsimp only [Pt.U, Pt.locs, Pt.cells, Pt.slots] at X88 l88 y88 z88 st88 hQ88
      subst l88 y88 z88
      obtain ⟨rfl, N88q, Kc88, r88_0, r88_1⟩ := hQ88
      have N88 := Fr.app N85 N88q
      refine own_via st88 ?_
      have K88 : Keep h0 T88.heap [] := K85.trans Kc88 (allS (P := fun x => x ∈ _ ∨ _ ≤ x) (Or.inr (Nat.le_of_eq g72.symm)) all0)
      refine own_go (A := T88.setTop (mkF m 249 #[.val (.int p1), .val (.int p2), .val (.int p3), .val (.int p4), .val (.int (2 : Int32)), .val (.int (1 : Int32)), .val (.ref b72), .val (.int (3 : Int32)), .val (.ref d_76), .val (.ref d_85), .unset] [(.ref b72)])) (fun t_ k_ => ?_) ?_
      · show Steps p.tables e below (T88.setTop (mkF m 247 #[.val (.int p1), .val (.int p2), .val (.int p3), .val (.int p4), .val (.int (2 : Int32)), .val (.int (1 : Int32)), .val (.ref b72), .val (.int (3 : Int32)), .val (.ref d_76), .val (.ref d_85), .unset] [])) t_
        refine XS.aload X88.here hx rfl (hb hby at_247) rfl rfl ?_
        exact k_
      obtain ⟨cq89, kq89, q89a, q89b, q89c⟩ := isOf hZ rfl (((((((A72.keep Kc73).keep Kc74).keep Kc75).keep Kc76).wr W84).keep Kc85).keep Kc88)
      obtain ⟨_, _, ⟨T89, L89, k89, n89⟩, -, X89, ⟨Lc89, hQ89, l89, y89, z89⟩, st89⟩ := X88.virtualBack hx (y := own_y9) (z := own_y9) hown (mvT hZ (own_w hw 56 rfl)) (mvT hZ (own_w hw 57 rfl)) (notFace_of_selects (args := #[]) (mvT hZ (own_w hw 59 rfl))) (mvT hZ (own_w hw 59 rfl)) (mvT hZ (own_w hw 58 rfl)) (by decide) (backOf (W := 0) (rmTo0 l Z a0 hw [] b72 b_73 k_73 ((p1).toInt8.toInt32) ((((p2).toUInt32 >>> ((8 : Int32) &&& 31).toUInt32).toInt32).toInt8.toInt32) ((p2).toInt8.toInt32) (0 : Int32) T88.heap n0 (Nat.le_trans Z0 K88.1) (((((((A72.keep Kc73).keep Kc74).keep Kc75).keep Kc76).wr W84).keep Kc85).keep Kc88) r88_0 r88_1 ((((r75_2.keep Kc76 nin0).other W84 (Nat.ne_of_lt (Nat.lt_of_lt_of_le (Nat.lt_of_lt_of_le (Nat.lt_of_lt_of_le r73_3.lt Kc74.1) Kc75.1) r76_0))).keep Kc85 nin0).keep Kc88 (ninS (Ne.symm (Nat.ne_of_lt (Nat.lt_of_lt_of_le A72.lt r73_0))) nin0))) hZ (own_w hw 60 rfl) (own_w hw 2 rfl) (by decide) (by decide)) q89a q89c (g := (mkF m 249 #[.val (.int p1), .val (.int p2), .val (.int p3), .val (.int p4), .val (.int (2 : Int32)), .val (.int (1 : Int32)), .val (.ref b72), .val (.int (3 : Int32)), .val (.ref d_76), .val (.ref d_85), .unset] [(.ref b72)])) rfl (by rw [hml]; rfl) (Steps.refl _) (argsL := []) (rest := []) (lenOf pd_5 rfl) rfl (by show 2 * 0 + _ ≤ _; exact Nat.le_of_eq rfl) (hb hby at_249) (fun _ _ => ⟨rfl, rfl, (by decide : 7 + 1 ≤ _), (by decide : 279 + 0 ≤ _)⟩)
      dsimp only [Pt.U, Pt.locs, Pt.cells, Pt.slots] at X89 l89 y89 z89 st89 hQ89
      subst l89 y89 z89
      obtain ⟨d_89, k2_89, rfl, N89q, Kc89, r89_0, r89_1⟩ := hQ89
      have N89 := Fr.app N88 N89q
      refine own_via st89 ?_
      have K89 : Keep h0 T89.heap [] := K88.trans Kc89 all0
      obtain ⟨cl90, Ar90, q90, S90, M90, H90, G90⟩ := id r89_1
      refine own_go (A := T89.setTop (mkF m 263 #[.val (.int p1), .val (.int p2), .val (.int p3), .val (.int p4), .val (.int (2 : Int32)), .val (.int (1 : Int32)), .val (.ref b72), .val (.int (3 : Int32)), .val (.ref d_76), .val (.ref d_85), .val (.ref d_89)] [(.int (1 : Int32))])) (fun t_ k_ => ?_) ?_
      · show Steps p.tables e below (T89.setTop (mkF m 252 #[.val (.int p1), .val (.int p2), .val (.int p3), .val (.int p4), .val (.int (2 : Int32)), .val (.int (1 : Int32)), .val (.ref b72), .val (.int (3 : Int32)), .val (.ref d_76), .val (.ref d_85), .unset] [(.ref d_89)])) t_
        refine XS.astore X89.here hx rfl (hb hby at_252) rfl rfl (l' := #[.val (.int p1), .val (.int p2), .val (.int p3), .val (.int p4), .val (.int (2 : Int32)), .val (.int (1 : Int32)), .val (.ref b72), .val (.int (3 : Int32)), .val (.ref d_76), .val (.ref d_85), .val (.ref d_89)]) rfl ?_
        show Steps p.tables e below (T89.setTop (mkF m 254 #[.val (.int p1), .val (.int p2), .val (.int p3), .val (.int p4), .val (.int (2 : Int32)), .val (.int (1 : Int32)), .val (.ref b72), .val (.int (3 : Int32)), .val (.ref d_76), .val (.ref d_85), .val (.ref d_89)] [])) t_
        refine XS.aload X89.here hx rfl (hb hby at_254) rfl rfl ?_
        show Steps p.tables e below (T89.setTop (mkF m 256 #[.val (.int p1), .val (.int p2), .val (.int p3), .val (.int p4), .val (.int (2 : Int32)), .val (.int (1 : Int32)), .val (.ref b72), .val (.int (3 : Int32)), .val (.ref d_76), .val (.ref d_85), .val (.ref d_89)] [(.ref d_89)])) t_
        refine X89.arraylength hx Ar90.1 (State.isArrayOf_alike hZ.alike Ar90.2.1) (g := (mkF m 256 #[.val (.int p1), .val (.int p2), .val (.int p3), .val (.int p4), .val (.int (2 : Int32)), .val (.int (1 : Int32)), .val (.ref b72), .val (.int (3 : Int32)), .val (.ref d_76), .val (.ref d_85), .val (.ref d_89)] [(.ref d_89)])) rfl rfl (hb hby at_256) _ ?_
        rw [len_of S90 M90]
        show Steps p.tables e below (T89.setTop (mkF m 257 #[.val (.int p1), .val (.int p2), .val (.int p3), .val (.int p4), .val (.int (2 : Int32)), .val (.int (1 : Int32)), .val (.ref b72), .val (.int (3 : Int32)), .val (.ref d_76), .val (.ref d_85), .val (.ref d_89)] [(.int (0 : Int32))])) t_
        refine XS.ifYes X89.here hx rfl (pc0 := 257) (pc' := 262) rfl (hb hby at_257) rfl ((if0 _ _).trans (teq (by decide : (0 : Int32) = (0 : Int32))).1) (by decide) (by decide) ?_
        show Steps p.tables e below (T89.setTop (mkF m 262 #[.val (.int p1), .val (.int p2), .val (.int p3), .val (.int p4), .val (.int (2 : Int32)), .val (.int (1 : Int32)), .val (.ref b72), .val (.int (3 : Int32)), .val (.ref d_76), .val (.ref d_85), .val (.ref d_89)] [])) t_
        refine XS.iconst X89.here hx rfl (hb hby at_262) ?_
        exact k_
      obtain ⟨fs91, hr91, hrun91, hended91, hW91, hsame91⟩ := X89.leave (v := some (.int (1 : Int32))) (fun h => by rw [Bd.returns] at h; cases h)
      refine ⟨_, _, ?_, hrun91, hended91, _, _, rfl, ?_, ⟨_, rfl⟩, hW91, hsame91.mono (by decide) (by decide)⟩
      · exact retN X89 hx (t := .boolean) Bd.returns (by simp) (hb hby at_263) hr91
      · show Q_rm0 Z p1 p2 p3 p4 h0 n0 _ T89.heap _
        exact ⟨rfl, N89, K89⟩
  · rw [hm1]
    refine own_go (A := s₁.setTop (mkF m 10 #[.val (.int p1), .val (.int p2), .val (.int p3), .val (.int p4), .val (.int (3 : Int32)), .unset, .unset, .unset, .unset, .unset, .unset] [(.int (((p4).toUInt32 >>> ((2 : Int32) &&& 31).toUInt32).toInt32 &&& (1 : Int32)))])) (fun t_ k_ => ?_) ?_
    · show Steps p.tables e below (s₁.setTop (mkF m 3 #[.val (.int p1), .val (.int p2), .val (.int p3), .val (.int p4), .unset, .unset, .unset, .unset, .unset, .unset, .unset] [(.int (3 : Int32))])) t_
      refine XS.istore X0.here hx rfl (hb hby at_3) rfl (l' := #[.val (.int p1), .val (.int p2), .val (.int p3), .val (.int p4), .val (.int (3 : Int32)), .unset, .unset, .unset, .unset, .unset, .unset]) rfl ?_
      show Steps p.tables e below (s₁.setTop (mkF m 5 #[.val (.int p1), .val (.int p2), .val (.int p3), .val (.int p4), .val (.int (3 : Int32)), .unset, .unset, .unset, .unset, .unset, .unset] [])) t_
      refine XS.iloadN X0.here hx rfl (hb hby at_5) rfl ?_
      show Steps p.tables e below (s₁.setTop (mkF m 6 #[.val (.int p1), .val (.int p2), .val (.int p3), .val (.int p4), .val (.int (3 : Int32)), .unset, .unset, .unset, .unset, .unset, .unset] [(.int p4)])) t_
      refine XS.iconst X0.here hx rfl (hb hby at_6) ?_
      show Steps p.tables e below (s₁.setTop (mkF m 7 #[.val (.int p1), .val (.int p2), .val (.int p3), .val (.int p4), .val (.int (3 : Int32)), .unset, .unset, .unset, .unset, .unset, .unset] [(.int (2 : Int32)), (.int p4)])) t_
      refine XS.iushr X0.here hx rfl (hb hby at_7) rfl ?_
      show Steps p.tables e below (s₁.setTop (mkF m 8 #[.val (.int p1), .val (.int p2), .val (.int p3), .val (.int p4), .val (.int (3 : Int32)), .unset, .unset, .unset, .unset, .unset, .unset] [(.int ((p4).toUInt32 >>> ((2 : Int32) &&& 31).toUInt32).toInt32)])) t_
      refine XS.iconst X0.here hx rfl (hb hby at_8) ?_
      show Steps p.tables e below (s₁.setTop (mkF m 9 #[.val (.int p1), .val (.int p2), .val (.int p3), .val (.int p4), .val (.int (3 : Int32)), .unset, .unset, .unset, .unset, .unset, .unset] [(.int (1 : Int32)), (.int ((p4).toUInt32 >>> ((2 : Int32) &&& 31).toUInt32).toInt32)])) t_
      refine XS.iand X0.here hx rfl (hb hby at_9) rfl ?_
      exact k_
    by_cases hc10_92 : (((p4).toUInt32 >>> ((2 : Int32) &&& 31).toUInt32).toInt32 &&& (1 : Int32)) = (0 : Int32)
    · refine own_go (A := s₁.setTop (mkF m 20 #[.val (.int p1), .val (.int p2), .val (.int p3), .val (.int p4), .val (.int (3 : Int32)), .val (.int (0 : Int32)), .unset, .unset, .unset, .unset, .unset] [])) (fun t_ k_ => ?_) ?_
      · show Steps p.tables e below (s₁.setTop (mkF m 10 #[.val (.int p1), .val (.int p2), .val (.int p3), .val (.int p4), .val (.int (3 : Int32)), .unset, .unset, .unset, .unset, .unset, .unset] [(.int (((p4).toUInt32 >>> ((2 : Int32) &&& 31).toUInt32).toInt32 &&& (1 : Int32)))])) t_
        refine XS.ifYes X0.here hx rfl (pc0 := 10) (pc' := 17) rfl (hb hby at_10) rfl ((if0 _ _).trans (teq hc10_92).1) (by decide) (by decide) ?_
        show Steps p.tables e below (s₁.setTop (mkF m 17 #[.val (.int p1), .val (.int p2), .val (.int p3), .val (.int p4), .val (.int (3 : Int32)), .unset, .unset, .unset, .unset, .unset, .unset] [])) t_
        refine XS.iconst X0.here hx rfl (hb hby at_17) ?_
        show Steps p.tables e below (s₁.setTop (mkF m 18 #[.val (.int p1), .val (.int p2), .val (.int p3), .val (.int p4), .val (.int (3 : Int32)), .unset, .unset, .unset, .unset, .unset, .unset] [(.int (0 : Int32))])) t_
        refine XS.istore X0.here hx rfl (hb hby at_18) rfl (l' := #[.val (.int p1), .val (.int p2), .val (.int p3), .val (.int p4), .val (.int (3 : Int32)), .val (.int (0 : Int32)), .unset, .unset, .unset, .unset, .unset]) rfl ?_
        exact k_
      obtain ⟨T93, h93, X93, e93, E93, A93, D93, -, st93⟩ := newO X0 hx hZ hown (own_w hw 0 rfl) (own_w hw 1 rfl) (own_w hw 2 rfl) e0 (g := (mkF m 20 #[.val (.int p1), .val (.int p2), .val (.int p3), .val (.int p4), .val (.int (3 : Int32)), .val (.int (0 : Int32)), .unset, .unset, .unset, .unset, .unset] [])) rfl (hb hby at_20) (by decide) (by decide)
      obtain ⟨b93, g93⟩ : ∃ z, z = h0.size := ⟨_, rfl⟩
      rw [← g93] at A93 D93 st93
      refine own_go st93 ?_
      have K93 : Keep h0 h93 [] := (Keep.refl h0 []).ext E93
      have F93_bytes : Fld Z h93 b93 "com/example/kneiphof/kneiphof/ByteRecord" "bytes" "[B" .null := D93 (Or.inl (own_w hw 16 rfl)) (ty := (.array .byte)) (by decide)
      have F93_text : Fld Z h93 b93 "com/example/kneiphof/kneiphof/ByteRecord" "text" "Ljava/io/DataOutputStream;" .null := D93 (Or.inr (own_w hw 44 rfl)) (ty := (.object "java/io/DataOutputStream")) (by decide)
      have F93_size : Fld Z h93 b93 "com/example/kneiphof/kneiphof/ByteRecord" "size" "I" (.int (0 : Int32)) := D93 (Or.inl (own_w hw 55 rfl)) (ty := .int) (by decide)
      refine own_go (A := T93.setTop (mkF m 24 #[.val (.int p1), .val (.int p2), .val (.int p3), .val (.int p4), .val (.int (3 : Int32)), .val (.int (0 : Int32)), .unset, .unset, .unset, .unset, .unset] [(.ref b93), (.ref b93)])) (fun t_ k_ => ?_) ?_
      · show Steps p.tables e below (T93.setTop (mkF m 23 #[.val (.int p1), .val (.int p2), .val (.int p3), .val (.int p4), .val (.int (3 : Int32)), .val (.int (0 : Int32)), .unset, .unset, .unset, .unset, .unset] [(.ref b93)])) t_
        refine XS.dup X93.here hx rfl (hb hby at_23) rfl rfl ?_
        exact k_
      obtain ⟨_, _, ⟨T94, L94, k94, n94⟩, -, X94, ⟨Lc94, hQ94, l94, y94, z94⟩, st94⟩ := X93.specialBack hx (y := own_y3) rfl hown (mvT hZ (own_w hw 3 rfl)) (mvT hZ (own_w hw 4 rfl)) (mvT hZ (own_w hw 5 rfl)) (by decide) (backOf (W := 1) (rmBR l Z a0 hw [] b93 h93 n0 (Nat.le_trans Z0 K93.1) A93 F93_bytes F93_text F93_size (Nat.le_trans Z0 (Nat.le_of_eq g93.symm))) hZ (own_w hw 5 rfl) (own_w hw 2 rfl) (by decide) (by decide)) (g := (mkF m 24 #[.val (.int p1), .val (.int p2), .val (.int p3), .val (.int p4), .val (.int (3 : Int32)), .val (.int (0 : Int32)), .unset, .unset, .unset, .unset, .unset] [(.ref b93), (.ref b93)])) rfl (by rw [hml]; rfl) (Steps.refl _) (a := b93) (argsL := []) (rest := [(.ref b93)]) (lenOf pd_0 rfl) rfl (by show 2 * 0 + _ ≤ _; exact Nat.le_of_eq rfl) (hb hby at_24) (fun _ _ => ⟨rfl, e93, (by decide : 1 + 4 ≤ _), (by decide : 3 + 270 ≤ _)⟩)
      dsimp only [Pt.U, Pt.locs, Pt.cells, Pt.slots] at X94 l94 y94 z94 st94 hQ94
      subst l94 y94 z94
      obtain ⟨b_94, k_94, rfl, N94q, Kc94, r94_0, r94_1, r94_2, r94_3⟩ := hQ94
      have N94 := Fr.app N0 N94q
      refine own_via st94 ?_
      have K94 : Keep h0 T94.heap [] := K93.trans Kc94 (allS (P := fun x => x ∈ _ ∨ _ ≤ x) (Or.inr (Nat.le_of_eq g93.symm)) all0)
      refine own_go (A := T94.setTop (mkF m 38 #[.val (.int p1), .val (.int p2), .val (.int p3), .val (.int p4), .val (.int (3 : Int32)), .val (.int (0 : Int32)), .val (.ref b93), .unset, .unset, .unset, .unset] [(.int p1), (.ref b93)])) (fun t_ k_ => ?_) ?_
      · show Steps p.tables e below (T94.setTop (mkF m 27 #[.val (.int p1), .val (.int p2), .val (.int p3), .val (.int p4), .val (.int (3 : Int32)), .val (.int (0 : Int32)), .unset, .unset, .unset, .unset, .unset] [(.ref b93)])) t_
        refine XS.astore X94.here hx rfl (hb hby at_27) rfl rfl (l' := #[.val (.int p1), .val (.int p2), .val (.int p3), .val (.int p4), .val (.int (3 : Int32)), .val (.int (0 : Int32)), .val (.ref b93), .unset, .unset, .unset, .unset]) rfl ?_
        show Steps p.tables e below (T94.setTop (mkF m 29 #[.val (.int p1), .val (.int p2), .val (.int p3), .val (.int p4), .val (.int (3 : Int32)), .val (.int (0 : Int32)), .val (.ref b93), .unset, .unset, .unset, .unset] [])) t_
        refine XS.iload X94.here hx rfl (hb hby at_29) rfl ?_
        show Steps p.tables e below (T94.setTop (mkF m 31 #[.val (.int p1), .val (.int p2), .val (.int p3), .val (.int p4), .val (.int (3 : Int32)), .val (.int (0 : Int32)), .val (.ref b93), .unset, .unset, .unset, .unset] [(.int (3 : Int32))])) t_
        refine XS.iconst X94.here hx rfl (hb hby at_31) ?_
        show Steps p.tables e below (T94.setTop (mkF m 32 #[.val (.int p1), .val (.int p2), .val (.int p3), .val (.int p4), .val (.int (3 : Int32)), .val (.int (0 : Int32)), .val (.ref b93), .unset, .unset, .unset, .unset] [(.int (1 : Int32)), (.int (3 : Int32))])) t_
        refine XS.icmpNo X94.here hx rfl (hb hby at_32) rfl (flt (by decide : ¬ ((3 : Int32) < (1 : Int32)))).1 ?_
        show Steps p.tables e below (T94.setTop (mkF m 35 #[.val (.int p1), .val (.int p2), .val (.int p3), .val (.int p4), .val (.int (3 : Int32)), .val (.int (0 : Int32)), .val (.ref b93), .unset, .unset, .unset, .unset] [])) t_
        refine XS.aload X94.here hx rfl (hb hby at_35) rfl rfl ?_
        show Steps p.tables e below (T94.setTop (mkF m 37 #[.val (.int p1), .val (.int p2), .val (.int p3), .val (.int p4), .val (.int (3 : Int32)), .val (.int (0 : Int32)), .val (.ref b93), .unset, .unset, .unset, .unset] [(.ref b93)])) t_
        refine XS.iloadN X94.here hx rfl (hb hby at_37) rfl ?_
        exact k_
      obtain ⟨cq95, kq95, q95a, q95b, q95c⟩ := isOf hZ rfl (A93.keep Kc94)
      obtain ⟨_, _, ⟨T95, L95, k95, n95⟩, -, X95, ⟨Lc95, hQ95, l95, y95, z95⟩, st95⟩ := X94.virtualBack hx (y := own_y5) (z := own_y5) hown (mvT hZ (own_w hw 45 rfl)) (mvT hZ (own_w hw 46 rfl)) (notFace_of_selects (args := #[]) (mvT hZ (own_w hw 48 rfl))) (mvT hZ (own_w hw 48 rfl)) (mvT hZ (own_w hw 47 rfl)) (by decide) (backOf (W := 0) (rmWrite0 l Z a0 hw [] b93 p1 b_94 k_94 (0 : Int32) (0 : Int32) (0 : Int32) (0 : Int32) T94.heap n0 (Nat.le_trans Z0 K94.1) (A93.keep Kc94) r94_1 r94_2 r94_3 (Nat.le_trans Z0 (Nat.le_of_eq g93.symm)) (Nat.le_trans Z0 (Nat.le_trans K93.1 r94_0)) (Nat.ne_of_lt (Nat.lt_of_lt_of_le A93.lt r94_0))) hZ (own_w hw 49 rfl) (own_w hw 2 rfl) (by decide) (by decide)) q95a q95c (g := (mkF m 38 #[.val (.int p1), .val (.int p2), .val (.int p3), .val (.int p4), .val (.int (3 : Int32)), .val (.int (0 : Int32)), .val (.ref b93), .unset, .unset, .unset, .unset] [(.int p1), (.ref b93)])) rfl (by rw [hml]; rfl) (Steps.refl _) (argsL := [(.int p1)]) (rest := []) (lenOf pd_2 rfl) rfl (by show 2 * 0 + _ ≤ _; exact Nat.le_of_eq rfl) (hb hby at_38) (fun _ _ => ⟨rfl, rfl, (by decide : 5 + 0 ≤ _), (by decide : 273 + 0 ≤ _)⟩)
      dsimp only [Pt.U, Pt.locs, Pt.cells, Pt.slots] at X95 l95 y95 z95 st95 hQ95
      subst l95 y95 z95
      obtain ⟨rfl, N95q, Kc95, r95_0, r95_1, r95_2⟩ := hQ95
      have N95 := Fr.app N94 N95q
      refine own_via st95 ?_
      have K95 : Keep h0 T95.heap [] := K94.trans Kc95 (allS (P := fun x => x ∈ _ ∨ _ ≤ x) (Or.inr (Nat.le_of_eq g93.symm)) (allS (P := fun x => x ∈ _ ∨ _ ≤ x) (Or.inr (Nat.le_trans K93.1 r94_0)) all0))
      refine own_go (A := T95.setTop (mkF m 50 #[.val (.int p1), .val (.int p2), .val (.int p3), .val (.int p4), .val (.int (3 : Int32)), .val (.int (0 : Int32)), .val (.ref b93), .unset, .unset, .unset, .unset] [(.int p2), (.ref b93)])) (fun t_ k_ => ?_) ?_
      · show Steps p.tables e below (T95.setTop (mkF m 41 #[.val (.int p1), .val (.int p2), .val (.int p3), .val (.int p4), .val (.int (3 : Int32)), .val (.int (0 : Int32)), .val (.ref b93), .unset, .unset, .unset, .unset] [])) t_
        refine XS.iload X95.here hx rfl (hb hby at_41) rfl ?_
        show Steps p.tables e below (T95.setTop (mkF m 43 #[.val (.int p1), .val (.int p2), .val (.int p3), .val (.int p4), .val (.int (3 : Int32)), .val (.int (0 : Int32)), .val (.ref b93), .unset, .unset, .unset, .unset] [(.int (3 : Int32))])) t_
        refine XS.iconst X95.here hx rfl (hb hby at_43) ?_
        show Steps p.tables e below (T95.setTop (mkF m 44 #[.val (.int p1), .val (.int p2), .val (.int p3), .val (.int p4), .val (.int (3 : Int32)), .val (.int (0 : Int32)), .val (.ref b93), .unset, .unset, .unset, .unset] [(.int (2 : Int32)), (.int (3 : Int32))])) t_
        refine XS.icmpNo X95.here hx rfl (hb hby at_44) rfl (flt (by decide : ¬ ((3 : Int32) < (2 : Int32)))).1 ?_
        show Steps p.tables e below (T95.setTop (mkF m 47 #[.val (.int p1), .val (.int p2), .val (.int p3), .val (.int p4), .val (.int (3 : Int32)), .val (.int (0 : Int32)), .val (.ref b93), .unset, .unset, .unset, .unset] [])) t_
        refine XS.aload X95.here hx rfl (hb hby at_47) rfl rfl ?_
        show Steps p.tables e below (T95.setTop (mkF m 49 #[.val (.int p1), .val (.int p2), .val (.int p3), .val (.int p4), .val (.int (3 : Int32)), .val (.int (0 : Int32)), .val (.ref b93), .unset, .unset, .unset, .unset] [(.ref b93)])) t_
        refine XS.iloadN X95.here hx rfl (hb hby at_49) rfl ?_
        exact k_
      obtain ⟨cq96, kq96, q96a, q96b, q96c⟩ := isOf hZ rfl ((A93.keep Kc94).keep Kc95)
      obtain ⟨_, _, ⟨T96, L96, k96, n96⟩, -, X96, ⟨Lc96, hQ96, l96, y96, z96⟩, st96⟩ := X95.virtualBack hx (y := own_y6) (z := own_y6) hown (mvT hZ (own_w hw 78 rfl)) (mvT hZ (own_w hw 79 rfl)) (notFace_of_selects (args := #[]) (mvT hZ (own_w hw 81 rfl))) (mvT hZ (own_w hw 81 rfl)) (mvT hZ (own_w hw 80 rfl)) (by decide) (backOf (W := 0) (rmShort1 l Z a0 hw [] b93 p2 b_94 k_94 ((p1).toInt8.toInt32) (0 : Int32) (0 : Int32) (0 : Int32) T95.heap n0 (Nat.le_trans Z0 K95.1) ((A93.keep Kc94).keep Kc95) r95_0 r95_1 r95_2 (Nat.le_trans Z0 (Nat.le_of_eq g93.symm)) (Nat.le_trans Z0 (Nat.le_trans K93.1 r94_0)) (Nat.ne_of_lt (Nat.lt_of_lt_of_le A93.lt r94_0))) hZ (own_w hw 82 rfl) (own_w hw 2 rfl) (by decide) (by decide)) q96a q96c (g := (mkF m 50 #[.val (.int p1), .val (.int p2), .val (.int p3), .val (.int p4), .val (.int (3 : Int32)), .val (.int (0 : Int32)), .val (.ref b93), .unset, .unset, .unset, .unset] [(.int p2), (.ref b93)])) rfl (by rw [hml]; rfl) (Steps.refl _) (argsL := [(.int p2)]) (rest := []) (lenOf pd_2 rfl) rfl (by show 2 * 0 + _ ≤ _; exact Nat.le_of_eq rfl) (hb hby at_50) (fun _ _ => ⟨rfl, rfl, (by decide : 5 + 0 ≤ _), (by decide : 273 + 0 ≤ _)⟩)
      dsimp only [Pt.U, Pt.locs, Pt.cells, Pt.slots] at X96 l96 y96 z96 st96 hQ96
      subst l96 y96 z96
      obtain ⟨rfl, N96q, Kc96, r96_0, r96_1, r96_2⟩ := hQ96
      have N96 := Fr.app N95 N96q
      refine own_via st96 ?_
      have K96 : Keep h0 T96.heap [] := K95.trans Kc96 (allS (P := fun x => x ∈ _ ∨ _ ≤ x) (Or.inr (Nat.le_of_eq g93.symm)) (allS (P := fun x => x ∈ _ ∨ _ ≤ x) (Or.inr (Nat.le_trans K93.1 r94_0)) all0))
      refine own_go (A := T96.setTop (mkF m 62 #[.val (.int p1), .val (.int p2), .val (.int p3), .val (.int p4), .val (.int (3 : Int32)), .val (.int (0 : Int32)), .val (.ref b93), .unset, .unset, .unset, .unset] [(.int p3), (.ref b93)])) (fun t_ k_ => ?_) ?_
      · show Steps p.tables e below (T96.setTop (mkF m 53 #[.val (.int p1), .val (.int p2), .val (.int p3), .val (.int p4), .val (.int (3 : Int32)), .val (.int (0 : Int32)), .val (.ref b93), .unset, .unset, .unset, .unset] [])) t_
        refine XS.iload X96.here hx rfl (hb hby at_53) rfl ?_
        show Steps p.tables e below (T96.setTop (mkF m 55 #[.val (.int p1), .val (.int p2), .val (.int p3), .val (.int p4), .val (.int (3 : Int32)), .val (.int (0 : Int32)), .val (.ref b93), .unset, .unset, .unset, .unset] [(.int (3 : Int32))])) t_
        refine XS.iconst X96.here hx rfl (hb hby at_55) ?_
        show Steps p.tables e below (T96.setTop (mkF m 56 #[.val (.int p1), .val (.int p2), .val (.int p3), .val (.int p4), .val (.int (3 : Int32)), .val (.int (0 : Int32)), .val (.ref b93), .unset, .unset, .unset, .unset] [(.int (3 : Int32)), (.int (3 : Int32))])) t_
        refine XS.icmpNo X96.here hx rfl (hb hby at_56) rfl (flt (by decide : ¬ ((3 : Int32) < (3 : Int32)))).1 ?_
        show Steps p.tables e below (T96.setTop (mkF m 59 #[.val (.int p1), .val (.int p2), .val (.int p3), .val (.int p4), .val (.int (3 : Int32)), .val (.int (0 : Int32)), .val (.ref b93), .unset, .unset, .unset, .unset] [])) t_
        refine XS.aload X96.here hx rfl (hb hby at_59) rfl rfl ?_
        show Steps p.tables e below (T96.setTop (mkF m 61 #[.val (.int p1), .val (.int p2), .val (.int p3), .val (.int p4), .val (.int (3 : Int32)), .val (.int (0 : Int32)), .val (.ref b93), .unset, .unset, .unset, .unset] [(.ref b93)])) t_
        refine XS.iloadN X96.here hx rfl (hb hby at_61) rfl ?_
        exact k_
      obtain ⟨cq97, kq97, q97a, q97b, q97c⟩ := isOf hZ rfl (((A93.keep Kc94).keep Kc95).keep Kc96)
      obtain ⟨_, _, ⟨T97, L97, k97, n97⟩, -, X97, ⟨Lc97, hQ97, l97, y97, z97⟩, st97⟩ := X96.virtualBack hx (y := own_y5) (z := own_y5) hown (mvT hZ (own_w hw 45 rfl)) (mvT hZ (own_w hw 46 rfl)) (notFace_of_selects (args := #[]) (mvT hZ (own_w hw 48 rfl))) (mvT hZ (own_w hw 48 rfl)) (mvT hZ (own_w hw 47 rfl)) (by decide) (backOf (W := 0) (rmWrite3 l Z a0 hw [] b93 p3 b_94 k_94 ((p1).toInt8.toInt32) ((((p2).toUInt32 >>> ((8 : Int32) &&& 31).toUInt32).toInt32).toInt8.toInt32) ((p2).toInt8.toInt32) (0 : Int32) T96.heap n0 (Nat.le_trans Z0 K96.1) (((A93.keep Kc94).keep Kc95).keep Kc96) r96_0 r96_1 r96_2 (Nat.le_trans Z0 (Nat.le_of_eq g93.symm)) (Nat.le_trans Z0 (Nat.le_trans K93.1 r94_0)) (Nat.ne_of_lt (Nat.lt_of_lt_of_le A93.lt r94_0))) hZ (own_w hw 49 rfl) (own_w hw 2 rfl) (by decide) (by decide)) q97a q97c (g := (mkF m 62 #[.val (.int p1), .val (.int p2), .val (.int p3), .val (.int p4), .val (.int (3 : Int32)), .val (.int (0 : Int32)), .val (.ref b93), .unset, .unset, .unset, .unset] [(.int p3), (.ref b93)])) rfl (by rw [hml]; rfl) (Steps.refl _) (argsL := [(.int p3)]) (rest := []) (lenOf pd_2 rfl) rfl (by show 2 * 0 + _ ≤ _; exact Nat.le_of_eq rfl) (hb hby at_62) (fun _ _ => ⟨rfl, rfl, (by decide : 5 + 0 ≤ _), (by decide : 273 + 0 ≤ _)⟩)
      dsimp only [Pt.U, Pt.locs, Pt.cells, Pt.slots] at X97 l97 y97 z97 st97 hQ97
      subst l97 y97 z97
      obtain ⟨rfl, N97q, Kc97, r97_0, r97_1, r97_2⟩ := hQ97
      have N97 := Fr.app N96 N97q
      refine own_via st97 ?_
      have K97 : Keep h0 T97.heap [] := K96.trans Kc97 (allS (P := fun x => x ∈ _ ∨ _ ≤ x) (Or.inr (Nat.le_of_eq g93.symm)) (allS (P := fun x => x ∈ _ ∨ _ ≤ x) (Or.inr (Nat.le_trans K93.1 r94_0)) all0))
      refine own_go (A := T97.setTop (mkF m 99 #[.val (.int p1), .val (.int p2), .val (.int p3), .val (.int p4), .val (.int (3 : Int32)), .val (.int (0 : Int32)), .val (.ref b93), .val (.int (4 : Int32)), .unset, .unset, .unset] [(.ref b93)])) (fun t_ k_ => ?_) ?_
      · show Steps p.tables e below (T97.setTop (mkF m 65 #[.val (.int p1), .val (.int p2), .val (.int p3), .val (.int p4), .val (.int (3 : Int32)), .val (.int (0 : Int32)), .val (.ref b93), .unset, .unset, .unset, .unset] [])) t_
        refine XS.iload X97.here hx rfl (hb hby at_65) rfl ?_
        show Steps p.tables e below (T97.setTop (mkF m 67 #[.val (.int p1), .val (.int p2), .val (.int p3), .val (.int p4), .val (.int (3 : Int32)), .val (.int (0 : Int32)), .val (.ref b93), .unset, .unset, .unset, .unset] [(.int (3 : Int32))])) t_
        refine XS.ifYes X97.here hx rfl (pc0 := 67) (pc' := 74) rfl (hb hby at_67) rfl ((if0 _ _).trans (feq (by decide : ¬ ((3 : Int32) = (0 : Int32)))).2) (by decide) (by decide) ?_
        show Steps p.tables e below (T97.setTop (mkF m 74 #[.val (.int p1), .val (.int p2), .val (.int p3), .val (.int p4), .val (.int (3 : Int32)), .val (.int (0 : Int32)), .val (.ref b93), .unset, .unset, .unset, .unset] [])) t_
        refine XS.iload X97.here hx rfl (hb hby at_74) rfl ?_
        show Steps p.tables e below (T97.setTop (mkF m 76 #[.val (.int p1), .val (.int p2), .val (.int p3), .val (.int p4), .val (.int (3 : Int32)), .val (.int (0 : Int32)), .val (.ref b93), .unset, .unset, .unset, .unset] [(.int (3 : Int32))])) t_
        refine XS.iconst X97.here hx rfl (hb hby at_76) ?_
        show Steps p.tables e below (T97.setTop (mkF m 77 #[.val (.int p1), .val (.int p2), .val (.int p3), .val (.int p4), .val (.int (3 : Int32)), .val (.int (0 : Int32)), .val (.ref b93), .unset, .unset, .unset, .unset] [(.int (1 : Int32)), (.int (3 : Int32))])) t_
        refine XS.icmpYes X97.here hx rfl (pc0 := 77) (pc' := 84) rfl (hb hby at_77) rfl (feq (by decide : ¬ ((3 : Int32) = (1 : Int32)))).2 (by decide) (by decide) ?_
        show Steps p.tables e below (T97.setTop (mkF m 84 #[.val (.int p1), .val (.int p2), .val (.int p3), .val (.int p4), .val (.int (3 : Int32)), .val (.int (0 : Int32)), .val (.ref b93), .unset, .unset, .unset, .unset] [])) t_
        refine XS.iload X97.here hx rfl (hb hby at_84) rfl ?_
        show Steps p.tables e below (T97.setTop (mkF m 86 #[.val (.int p1), .val (.int p2), .val (.int p3), .val (.int p4), .val (.int (3 : Int32)), .val (.int (0 : Int32)), .val (.ref b93), .unset, .unset, .unset, .unset] [(.int (3 : Int32))])) t_
        refine XS.iconst X97.here hx rfl (hb hby at_86) ?_
        show Steps p.tables e below (T97.setTop (mkF m 87 #[.val (.int p1), .val (.int p2), .val (.int p3), .val (.int p4), .val (.int (3 : Int32)), .val (.int (0 : Int32)), .val (.ref b93), .unset, .unset, .unset, .unset] [(.int (2 : Int32)), (.int (3 : Int32))])) t_
        refine XS.icmpYes X97.here hx rfl (pc0 := 87) (pc' := 94) rfl (hb hby at_87) rfl (feq (by decide : ¬ ((3 : Int32) = (2 : Int32)))).2 (by decide) (by decide) ?_
        show Steps p.tables e below (T97.setTop (mkF m 94 #[.val (.int p1), .val (.int p2), .val (.int p3), .val (.int p4), .val (.int (3 : Int32)), .val (.int (0 : Int32)), .val (.ref b93), .unset, .unset, .unset, .unset] [])) t_
        refine XS.iconst X97.here hx rfl (hb hby at_94) ?_
        show Steps p.tables e below (T97.setTop (mkF m 95 #[.val (.int p1), .val (.int p2), .val (.int p3), .val (.int p4), .val (.int (3 : Int32)), .val (.int (0 : Int32)), .val (.ref b93), .unset, .unset, .unset, .unset] [(.int (4 : Int32))])) t_
        refine XS.istore X97.here hx rfl (hb hby at_95) rfl (l' := #[.val (.int p1), .val (.int p2), .val (.int p3), .val (.int p4), .val (.int (3 : Int32)), .val (.int (0 : Int32)), .val (.ref b93), .val (.int (4 : Int32)), .unset, .unset, .unset]) rfl ?_
        show Steps p.tables e below (T97.setTop (mkF m 97 #[.val (.int p1), .val (.int p2), .val (.int p3), .val (.int p4), .val (.int (3 : Int32)), .val (.int (0 : Int32)), .val (.ref b93), .val (.int (4 : Int32)), .unset, .unset, .unset] [])) t_
        refine XS.aload X97.here hx rfl (hb hby at_97) rfl rfl ?_
        exact k_
      obtain ⟨cq98, kq98, q98a, q98b, q98c⟩ := isOf hZ rfl ((((A93.keep Kc94).keep Kc95).keep Kc96).keep Kc97)
      obtain ⟨_, _, ⟨T98, L98, k98, n98⟩, -, X98, ⟨Lc98, hQ98, l98, y98, z98⟩, st98⟩ := X97.virtualBack hx (y := own_y9) (z := own_y9) hown (mvT hZ (own_w hw 56 rfl)) (mvT hZ (own_w hw 57 rfl)) (notFace_of_selects (args := #[]) (mvT hZ (own_w hw 59 rfl))) (mvT hZ (own_w hw 59 rfl)) (mvT hZ (own_w hw 58 rfl)) (by decide) (backOf (W := 0) (rmTo4 l Z a0 hw [] b93 b_94 k_94 ((p1).toInt8.toInt32) ((((p2).toUInt32 >>> ((8 : Int32) &&& 31).toUInt32).toInt32).toInt8.toInt32) ((p2).toInt8.toInt32) ((p3).toInt8.toInt32) T97.heap n0 (Nat.le_trans Z0 K97.1) ((((A93.keep Kc94).keep Kc95).keep Kc96).keep Kc97) r97_0 r97_1 r97_2) hZ (own_w hw 60 rfl) (own_w hw 2 rfl) (by decide) (by decide)) q98a q98c (g := (mkF m 99 #[.val (.int p1), .val (.int p2), .val (.int p3), .val (.int p4), .val (.int (3 : Int32)), .val (.int (0 : Int32)), .val (.ref b93), .val (.int (4 : Int32)), .unset, .unset, .unset] [(.ref b93)])) rfl (by rw [hml]; rfl) (Steps.refl _) (argsL := []) (rest := []) (lenOf pd_5 rfl) rfl (by show 2 * 0 + _ ≤ _; exact Nat.le_of_eq rfl) (hb hby at_99) (fun _ _ => ⟨rfl, rfl, (by decide : 5 + 1 ≤ _), (by decide : 273 + 4 ≤ _)⟩)
      dsimp only [Pt.U, Pt.locs, Pt.cells, Pt.slots] at X98 l98 y98 z98 st98 hQ98
      subst l98 y98 z98
      obtain ⟨d_98, k2_98, rfl, N98q, Kc98, r98_0, r98_1⟩ := hQ98
      have N98 := Fr.app N97 N98q
      refine own_via st98 ?_
      have K98 : Keep h0 T98.heap [] := K97.trans Kc98 all0
      obtain ⟨cl99, Ar99, q99, S99, M99, H99, G99⟩ := id r98_1
      refine own_go (A := T98.setTop (mkF m 114 #[.val (.int p1), .val (.int p2), .val (.int p3), .val (.int p4), .val (.int (3 : Int32)), .val (.int (0 : Int32)), .val (.ref b93), .val (.int (4 : Int32)), .val (.ref d_98), .unset, .unset] [(.ref b93)])) (fun t_ k_ => ?_) ?_
      · show Steps p.tables e below (T98.setTop (mkF m 102 #[.val (.int p1), .val (.int p2), .val (.int p3), .val (.int p4), .val (.int (3 : Int32)), .val (.int (0 : Int32)), .val (.ref b93), .val (.int (4 : Int32)), .unset, .unset, .unset] [(.ref d_98)])) t_
        refine XS.astore X98.here hx rfl (hb hby at_102) rfl rfl (l' := #[.val (.int p1), .val (.int p2), .val (.int p3), .val (.int p4), .val (.int (3 : Int32)), .val (.int (0 : Int32)), .val (.ref b93), .val (.int (4 : Int32)), .val (.ref d_98), .unset, .unset]) rfl ?_
        show Steps p.tables e below (T98.setTop (mkF m 104 #[.val (.int p1), .val (.int p2), .val (.int p3), .val (.int p4), .val (.int (3 : Int32)), .val (.int (0 : Int32)), .val (.ref b93), .val (.int (4 : Int32)), .val (.ref d_98), .unset, .unset] [])) t_
        refine XS.aload X98.here hx rfl (hb hby at_104) rfl rfl ?_
        show Steps p.tables e below (T98.setTop (mkF m 106 #[.val (.int p1), .val (.int p2), .val (.int p3), .val (.int p4), .val (.int (3 : Int32)), .val (.int (0 : Int32)), .val (.ref b93), .val (.int (4 : Int32)), .val (.ref d_98), .unset, .unset] [(.ref d_98)])) t_
        refine X98.arraylength hx Ar99.1 (State.isArrayOf_alike hZ.alike Ar99.2.1) (g := (mkF m 106 #[.val (.int p1), .val (.int p2), .val (.int p3), .val (.int p4), .val (.int (3 : Int32)), .val (.int (0 : Int32)), .val (.ref b93), .val (.int (4 : Int32)), .val (.ref d_98), .unset, .unset] [(.ref d_98)])) rfl rfl (hb hby at_106) _ ?_
        rw [len_of S99 M99]
        show Steps p.tables e below (T98.setTop (mkF m 107 #[.val (.int p1), .val (.int p2), .val (.int p3), .val (.int p4), .val (.int (3 : Int32)), .val (.int (0 : Int32)), .val (.ref b93), .val (.int (4 : Int32)), .val (.ref d_98), .unset, .unset] [(.int (4 : Int32))])) t_
        refine XS.iload X98.here hx rfl (hb hby at_107) rfl ?_
        show Steps p.tables e below (T98.setTop (mkF m 109 #[.val (.int p1), .val (.int p2), .val (.int p3), .val (.int p4), .val (.int (3 : Int32)), .val (.int (0 : Int32)), .val (.ref b93), .val (.int (4 : Int32)), .val (.ref d_98), .unset, .unset] [(.int (4 : Int32)), (.int (4 : Int32))])) t_
        refine XS.icmpNo X98.here hx rfl (hb hby at_109) rfl (teq (by decide : (4 : Int32) = (4 : Int32))).2 ?_
        show Steps p.tables e below (T98.setTop (mkF m 112 #[.val (.int p1), .val (.int p2), .val (.int p3), .val (.int p4), .val (.int (3 : Int32)), .val (.int (0 : Int32)), .val (.ref b93), .val (.int (4 : Int32)), .val (.ref d_98), .unset, .unset] [])) t_
        refine XS.aload X98.here hx rfl (hb hby at_112) rfl rfl ?_
        exact k_
      obtain ⟨cq100, kq100, q100a, q100b, q100c⟩ := isOf hZ rfl (((((A93.keep Kc94).keep Kc95).keep Kc96).keep Kc97).keep Kc98)
      obtain ⟨_, _, ⟨T100, L100, k100, n100⟩, -, X100, ⟨Lc100, hQ100, l100, y100, z100⟩, st100⟩ := X98.virtualBack hx (y := own_y10) (z := own_y10) hown (mvT hZ (own_w hw 73 rfl)) (mvT hZ (own_w hw 74 rfl)) (notFace_of_selects (args := #[]) (mvT hZ (own_w hw 76 rfl))) (mvT hZ (own_w hw 76 rfl)) (mvT hZ (own_w hw 75 rfl)) (by decide) (backOf (W := 0) (rmSize l Z a0 hw [] b93 (4 : Int32) T98.heap n0 (Nat.le_trans Z0 K98.1) (r97_1.keep Kc98 nin0)) hZ (own_w hw 77 rfl) (own_w hw 2 rfl) (by decide) (by decide)) q100a q100c (g := (mkF m 114 #[.val (.int p1), .val (.int p2), .val (.int p3), .val (.int p4), .val (.int (3 : Int32)), .val (.int (0 : Int32)), .val (.ref b93), .val (.int (4 : Int32)), .val (.ref d_98), .unset, .unset] [(.ref b93)])) rfl (by rw [hml]; rfl) (Steps.refl _) (argsL := []) (rest := []) (lenOf pd_6 rfl) rfl (by show 2 * 0 + _ ≤ _; exact Nat.le_of_eq rfl) (hb hby at_114) (fun _ _ => ⟨rfl, rfl, (by decide : 6 + 0 ≤ _), (by decide : 277 + 0 ≤ _)⟩)
      dsimp only [Pt.U, Pt.locs, Pt.cells, Pt.slots] at X100 l100 y100 z100 st100 hQ100
      subst l100 y100 z100
      obtain ⟨rfl, N100q, eh100⟩ := hQ100
      have N100 := Fr.app N98 N100q
      refine own_via st100 ?_
      obtain ⟨cl101, Ar101, q101, S101, M101, H101, G101⟩ := id r98_1
      have hin101 : ¬ ((0 : Int32) < 0 ∨ cl101.slots.size ≤ ((0 : Int32)).toNatClampNeg) := inb_of S101 ⟨by decide, by decide⟩
      have hat101 : cl101.slots[((0 : Int32)).toNatClampNeg]? = some (.int (p1).toInt8.toInt32) := Has.at H101 hin101 rfl
      obtain ⟨cl102, Ar102, q102, S102, M102, H102, G102⟩ := id r98_1
      have hin102 : ¬ ((1 : Int32) < 0 ∨ cl102.slots.size ≤ ((1 : Int32)).toNatClampNeg) := inb_of S102 ⟨by decide, by decide⟩
      have hat102 : cl102.slots[((1 : Int32)).toNatClampNeg]? = some (.int (((p2).toUInt32 >>> ((8 : Int32) &&& 31).toUInt32).toInt32).toInt8.toInt32) := Has.at H102 hin102 rfl
      obtain ⟨cl103, Ar103, q103, S103, M103, H103, G103⟩ := id r98_1
      have hin103 : ¬ ((2 : Int32) < 0 ∨ cl103.slots.size ≤ ((2 : Int32)).toNatClampNeg) := inb_of S103 ⟨by decide, by decide⟩
      have hat103 : cl103.slots[((2 : Int32)).toNatClampNeg]? = some (.int (p2).toInt8.toInt32) := Has.at H103 hin103 rfl
      obtain ⟨cl104, Ar104, q104, S104, M104, H104, G104⟩ := id r98_1
      have hin104 : ¬ ((3 : Int32) < 0 ∨ cl104.slots.size ≤ ((3 : Int32)).toNatClampNeg) := inb_of S104 ⟨by decide, by decide⟩
      have hat104 : cl104.slots[((3 : Int32)).toNatClampNeg]? = some (.int (p3).toInt8.toInt32) := Has.at H104 hin104 rfl
      obtain ⟨cl105, Ar105, q105, S105, M105, H105, G105⟩ := id r98_1
      have hin105 : ¬ ((0 : Int32) < 0 ∨ cl105.slots.size ≤ ((0 : Int32)).toNatClampNeg) := inb_of S105 ⟨by decide, by decide⟩
      have hat105 : cl105.slots[((0 : Int32)).toNatClampNeg]? = some (.int (p1).toInt8.toInt32) := Has.at H105 hin105 rfl
      refine own_go (A := T100.setTop (mkF m 202 #[.val (.int p1), .val (.int p2), .val (.int p3), .val (.int p4), .val (.int (3 : Int32)), .val (.int (0 : Int32)), .val (.ref b93), .val (.int (4 : Int32)), .val (.ref d_98), .unset, .unset] [(.int (((p1).toInt8.toInt32 ^^^ (1 : Int32))).toInt8.toInt32), (.int (0 : Int32)), (.ref d_98)])) (fun t_ k_ => ?_) ?_
      · show Steps p.tables e below (T100.setTop (mkF m 117 #[.val (.int p1), .val (.int p2), .val (.int p3), .val (.int p4), .val (.int (3 : Int32)), .val (.int (0 : Int32)), .val (.ref b93), .val (.int (4 : Int32)), .val (.ref d_98), .unset, .unset] [(.int (4 : Int32))])) t_
        refine XS.iload X100.here hx rfl (hb hby at_117) rfl ?_
        show Steps p.tables e below (T100.setTop (mkF m 119 #[.val (.int p1), .val (.int p2), .val (.int p3), .val (.int p4), .val (.int (3 : Int32)), .val (.int (0 : Int32)), .val (.ref b93), .val (.int (4 : Int32)), .val (.ref d_98), .unset, .unset] [(.int (4 : Int32)), (.int (4 : Int32))])) t_
        refine XS.icmpYes X100.here hx rfl (pc0 := 119) (pc' := 124) rfl (hb hby at_119) rfl (teq (by decide : (4 : Int32) = (4 : Int32))).1 (by decide) (by decide) ?_
        show Steps p.tables e below (T100.setTop (mkF m 124 #[.val (.int p1), .val (.int p2), .val (.int p3), .val (.int p4), .val (.int (3 : Int32)), .val (.int (0 : Int32)), .val (.ref b93), .val (.int (4 : Int32)), .val (.ref d_98), .unset, .unset] [])) t_
        refine XS.iload X100.here hx rfl (hb hby at_124) rfl ?_
        show Steps p.tables e below (T100.setTop (mkF m 126 #[.val (.int p1), .val (.int p2), .val (.int p3), .val (.int p4), .val (.int (3 : Int32)), .val (.int (0 : Int32)), .val (.ref b93), .val (.int (4 : Int32)), .val (.ref d_98), .unset, .unset] [(.int (3 : Int32))])) t_
        refine XS.iconst X100.here hx rfl (hb hby at_126) ?_
        show Steps p.tables e below (T100.setTop (mkF m 127 #[.val (.int p1), .val (.int p2), .val (.int p3), .val (.int p4), .val (.int (3 : Int32)), .val (.int (0 : Int32)), .val (.ref b93), .val (.int (4 : Int32)), .val (.ref d_98), .unset, .unset] [(.int (1 : Int32)), (.int (3 : Int32))])) t_
        refine XS.icmpNo X100.here hx rfl (hb hby at_127) rfl (flt (by decide : ¬ ((3 : Int32) < (1 : Int32)))).1 ?_
        show Steps p.tables e below (T100.setTop (mkF m 130 #[.val (.int p1), .val (.int p2), .val (.int p3), .val (.int p4), .val (.int (3 : Int32)), .val (.int (0 : Int32)), .val (.ref b93), .val (.int (4 : Int32)), .val (.ref d_98), .unset, .unset] [])) t_
        refine XS.aload X100.here hx rfl (hb hby at_130) rfl rfl ?_
        show Steps p.tables e below (T100.setTop (mkF m 132 #[.val (.int p1), .val (.int p2), .val (.int p3), .val (.int p4), .val (.int (3 : Int32)), .val (.int (0 : Int32)), .val (.ref b93), .val (.int (4 : Int32)), .val (.ref d_98), .unset, .unset] [(.ref d_98)])) t_
        refine XS.iconst X100.here hx rfl (hb hby at_132) ?_
        show Steps p.tables e below (T100.setTop (mkF m 133 #[.val (.int p1), .val (.int p2), .val (.int p3), .val (.int p4), .val (.int (3 : Int32)), .val (.int (0 : Int32)), .val (.ref b93), .val (.int (4 : Int32)), .val (.ref d_98), .unset, .unset] [(.int (0 : Int32)), (.ref d_98)])) t_
        refine X100.baloadBytes hx (j := (0 : Int32)) (v := (.int (p1).toInt8.toInt32)) (by rw [eh100]; exact Ar101.1) (State.isArrayOf_alike hZ.alike Ar101.2.1) Ar101.2.2 hin101 hat101 (g := (mkF m 133 #[.val (.int p1), .val (.int p2), .val (.int p3), .val (.int p4), .val (.int (3 : Int32)), .val (.int (0 : Int32)), .val (.ref b93), .val (.int (4 : Int32)), .val (.ref d_98), .unset, .unset] [(.int (0 : Int32)), (.ref d_98)])) rfl rfl (hb hby at_133) _ ?_
        show Steps p.tables e below (T100.setTop (mkF m 134 #[.val (.int p1), .val (.int p2), .val (.int p3), .val (.int p4), .val (.int (3 : Int32)), .val (.int (0 : Int32)), .val (.ref b93), .val (.int (4 : Int32)), .val (.ref d_98), .unset, .unset] [(.int (p1).toInt8.toInt32)])) t_
        refine XS.iloadN X100.here hx rfl (hb hby at_134) rfl ?_
        show Steps p.tables e below (T100.setTop (mkF m 135 #[.val (.int p1), .val (.int p2), .val (.int p3), .val (.int p4), .val (.int (3 : Int32)), .val (.int (0 : Int32)), .val (.ref b93), .val (.int (4 : Int32)), .val (.ref d_98), .unset, .unset] [(.int p1), (.int (p1).toInt8.toInt32)])) t_
        refine XS.i2b X100.here hx rfl (hb hby at_135) rfl ?_
        show Steps p.tables e below (T100.setTop (mkF m 136 #[.val (.int p1), .val (.int p2), .val (.int p3), .val (.int p4), .val (.int (3 : Int32)), .val (.int (0 : Int32)), .val (.ref b93), .val (.int (4 : Int32)), .val (.ref d_98), .unset, .unset] [(.int (p1).toInt8.toInt32), (.int (p1).toInt8.toInt32)])) t_
        refine XS.icmpYes X100.here hx rfl (pc0 := 136) (pc' := 141) rfl (hb hby at_136) rfl (teq (rfl : (p1).toInt8.toInt32 = (p1).toInt8.toInt32)).1 (by decide) (by decide) ?_
        show Steps p.tables e below (T100.setTop (mkF m 141 #[.val (.int p1), .val (.int p2), .val (.int p3), .val (.int p4), .val (.int (3 : Int32)), .val (.int (0 : Int32)), .val (.ref b93), .val (.int (4 : Int32)), .val (.ref d_98), .unset, .unset] [])) t_
        refine XS.iload X100.here hx rfl (hb hby at_141) rfl ?_
        show Steps p.tables e below (T100.setTop (mkF m 143 #[.val (.int p1), .val (.int p2), .val (.int p3), .val (.int p4), .val (.int (3 : Int32)), .val (.int (0 : Int32)), .val (.ref b93), .val (.int (4 : Int32)), .val (.ref d_98), .unset, .unset] [(.int (3 : Int32))])) t_
        refine XS.iconst X100.here hx rfl (hb hby at_143) ?_
        show Steps p.tables e below (T100.setTop (mkF m 144 #[.val (.int p1), .val (.int p2), .val (.int p3), .val (.int p4), .val (.int (3 : Int32)), .val (.int (0 : Int32)), .val (.ref b93), .val (.int (4 : Int32)), .val (.ref d_98), .unset, .unset] [(.int (2 : Int32)), (.int (3 : Int32))])) t_
        refine XS.icmpNo X100.here hx rfl (hb hby at_144) rfl (flt (by decide : ¬ ((3 : Int32) < (2 : Int32)))).1 ?_
        show Steps p.tables e below (T100.setTop (mkF m 147 #[.val (.int p1), .val (.int p2), .val (.int p3), .val (.int p4), .val (.int (3 : Int32)), .val (.int (0 : Int32)), .val (.ref b93), .val (.int (4 : Int32)), .val (.ref d_98), .unset, .unset] [])) t_
        refine XS.aload X100.here hx rfl (hb hby at_147) rfl rfl ?_
        show Steps p.tables e below (T100.setTop (mkF m 149 #[.val (.int p1), .val (.int p2), .val (.int p3), .val (.int p4), .val (.int (3 : Int32)), .val (.int (0 : Int32)), .val (.ref b93), .val (.int (4 : Int32)), .val (.ref d_98), .unset, .unset] [(.ref d_98)])) t_
        refine XS.iconst X100.here hx rfl (hb hby at_149) ?_
        show Steps p.tables e below (T100.setTop (mkF m 150 #[.val (.int p1), .val (.int p2), .val (.int p3), .val (.int p4), .val (.int (3 : Int32)), .val (.int (0 : Int32)), .val (.ref b93), .val (.int (4 : Int32)), .val (.ref d_98), .unset, .unset] [(.int (1 : Int32)), (.ref d_98)])) t_
        refine X100.baloadBytes hx (j := (1 : Int32)) (v := (.int (((p2).toUInt32 >>> ((8 : Int32) &&& 31).toUInt32).toInt32).toInt8.toInt32)) (by rw [eh100]; exact Ar102.1) (State.isArrayOf_alike hZ.alike Ar102.2.1) Ar102.2.2 hin102 hat102 (g := (mkF m 150 #[.val (.int p1), .val (.int p2), .val (.int p3), .val (.int p4), .val (.int (3 : Int32)), .val (.int (0 : Int32)), .val (.ref b93), .val (.int (4 : Int32)), .val (.ref d_98), .unset, .unset] [(.int (1 : Int32)), (.ref d_98)])) rfl rfl (hb hby at_150) _ ?_
        show Steps p.tables e below (T100.setTop (mkF m 151 #[.val (.int p1), .val (.int p2), .val (.int p3), .val (.int p4), .val (.int (3 : Int32)), .val (.int (0 : Int32)), .val (.ref b93), .val (.int (4 : Int32)), .val (.ref d_98), .unset, .unset] [(.int (((p2).toUInt32 >>> ((8 : Int32) &&& 31).toUInt32).toInt32).toInt8.toInt32)])) t_
        refine XS.iloadN X100.here hx rfl (hb hby at_151) rfl ?_
        show Steps p.tables e below (T100.setTop (mkF m 152 #[.val (.int p1), .val (.int p2), .val (.int p3), .val (.int p4), .val (.int (3 : Int32)), .val (.int (0 : Int32)), .val (.ref b93), .val (.int (4 : Int32)), .val (.ref d_98), .unset, .unset] [(.int p2), (.int (((p2).toUInt32 >>> ((8 : Int32) &&& 31).toUInt32).toInt32).toInt8.toInt32)])) t_
        refine XS.bipush X100.here hx rfl (hb hby at_152) ?_
        show Steps p.tables e below (T100.setTop (mkF m 154 #[.val (.int p1), .val (.int p2), .val (.int p3), .val (.int p4), .val (.int (3 : Int32)), .val (.int (0 : Int32)), .val (.ref b93), .val (.int (4 : Int32)), .val (.ref d_98), .unset, .unset] [(.int (8 : Int32)), (.int p2), (.int (((p2).toUInt32 >>> ((8 : Int32) &&& 31).toUInt32).toInt32).toInt8.toInt32)])) t_
        refine XS.iushr X100.here hx rfl (hb hby at_154) rfl ?_
        show Steps p.tables e below (T100.setTop (mkF m 155 #[.val (.int p1), .val (.int p2), .val (.int p3), .val (.int p4), .val (.int (3 : Int32)), .val (.int (0 : Int32)), .val (.ref b93), .val (.int (4 : Int32)), .val (.ref d_98), .unset, .unset] [(.int ((p2).toUInt32 >>> ((8 : Int32) &&& 31).toUInt32).toInt32), (.int (((p2).toUInt32 >>> ((8 : Int32) &&& 31).toUInt32).toInt32).toInt8.toInt32)])) t_
        refine XS.i2b X100.here hx rfl (hb hby at_155) rfl ?_
        show Steps p.tables e below (T100.setTop (mkF m 156 #[.val (.int p1), .val (.int p2), .val (.int p3), .val (.int p4), .val (.int (3 : Int32)), .val (.int (0 : Int32)), .val (.ref b93), .val (.int (4 : Int32)), .val (.ref d_98), .unset, .unset] [(.int (((p2).toUInt32 >>> ((8 : Int32) &&& 31).toUInt32).toInt32).toInt8.toInt32), (.int (((p2).toUInt32 >>> ((8 : Int32) &&& 31).toUInt32).toInt32).toInt8.toInt32)])) t_
        refine XS.icmpNo X100.here hx rfl (hb hby at_156) rfl (teq (rfl : (((p2).toUInt32 >>> ((8 : Int32) &&& 31).toUInt32).toInt32).toInt8.toInt32 = (((p2).toUInt32 >>> ((8 : Int32) &&& 31).toUInt32).toInt32).toInt8.toInt32)).2 ?_
        show Steps p.tables e below (T100.setTop (mkF m 159 #[.val (.int p1), .val (.int p2), .val (.int p3), .val (.int p4), .val (.int (3 : Int32)), .val (.int (0 : Int32)), .val (.ref b93), .val (.int (4 : Int32)), .val (.ref d_98), .unset, .unset] [])) t_
        refine XS.aload X100.here hx rfl (hb hby at_159) rfl rfl ?_
        show Steps p.tables e below (T100.setTop (mkF m 161 #[.val (.int p1), .val (.int p2), .val (.int p3), .val (.int p4), .val (.int (3 : Int32)), .val (.int (0 : Int32)), .val (.ref b93), .val (.int (4 : Int32)), .val (.ref d_98), .unset, .unset] [(.ref d_98)])) t_
        refine XS.iconst X100.here hx rfl (hb hby at_161) ?_
        show Steps p.tables e below (T100.setTop (mkF m 162 #[.val (.int p1), .val (.int p2), .val (.int p3), .val (.int p4), .val (.int (3 : Int32)), .val (.int (0 : Int32)), .val (.ref b93), .val (.int (4 : Int32)), .val (.ref d_98), .unset, .unset] [(.int (2 : Int32)), (.ref d_98)])) t_
        refine X100.baloadBytes hx (j := (2 : Int32)) (v := (.int (p2).toInt8.toInt32)) (by rw [eh100]; exact Ar103.1) (State.isArrayOf_alike hZ.alike Ar103.2.1) Ar103.2.2 hin103 hat103 (g := (mkF m 162 #[.val (.int p1), .val (.int p2), .val (.int p3), .val (.int p4), .val (.int (3 : Int32)), .val (.int (0 : Int32)), .val (.ref b93), .val (.int (4 : Int32)), .val (.ref d_98), .unset, .unset] [(.int (2 : Int32)), (.ref d_98)])) rfl rfl (hb hby at_162) _ ?_
        show Steps p.tables e below (T100.setTop (mkF m 163 #[.val (.int p1), .val (.int p2), .val (.int p3), .val (.int p4), .val (.int (3 : Int32)), .val (.int (0 : Int32)), .val (.ref b93), .val (.int (4 : Int32)), .val (.ref d_98), .unset, .unset] [(.int (p2).toInt8.toInt32)])) t_
        refine XS.iloadN X100.here hx rfl (hb hby at_163) rfl ?_
        show Steps p.tables e below (T100.setTop (mkF m 164 #[.val (.int p1), .val (.int p2), .val (.int p3), .val (.int p4), .val (.int (3 : Int32)), .val (.int (0 : Int32)), .val (.ref b93), .val (.int (4 : Int32)), .val (.ref d_98), .unset, .unset] [(.int p2), (.int (p2).toInt8.toInt32)])) t_
        refine XS.i2b X100.here hx rfl (hb hby at_164) rfl ?_
        show Steps p.tables e below (T100.setTop (mkF m 165 #[.val (.int p1), .val (.int p2), .val (.int p3), .val (.int p4), .val (.int (3 : Int32)), .val (.int (0 : Int32)), .val (.ref b93), .val (.int (4 : Int32)), .val (.ref d_98), .unset, .unset] [(.int (p2).toInt8.toInt32), (.int (p2).toInt8.toInt32)])) t_
        refine XS.icmpYes X100.here hx rfl (pc0 := 165) (pc' := 170) rfl (hb hby at_165) rfl (teq (rfl : (p2).toInt8.toInt32 = (p2).toInt8.toInt32)).1 (by decide) (by decide) ?_
        show Steps p.tables e below (T100.setTop (mkF m 170 #[.val (.int p1), .val (.int p2), .val (.int p3), .val (.int p4), .val (.int (3 : Int32)), .val (.int (0 : Int32)), .val (.ref b93), .val (.int (4 : Int32)), .val (.ref d_98), .unset, .unset] [])) t_
        refine XS.iload X100.here hx rfl (hb hby at_170) rfl ?_
        show Steps p.tables e below (T100.setTop (mkF m 172 #[.val (.int p1), .val (.int p2), .val (.int p3), .val (.int p4), .val (.int (3 : Int32)), .val (.int (0 : Int32)), .val (.ref b93), .val (.int (4 : Int32)), .val (.ref d_98), .unset, .unset] [(.int (3 : Int32))])) t_
        refine XS.iconst X100.here hx rfl (hb hby at_172) ?_
        show Steps p.tables e below (T100.setTop (mkF m 173 #[.val (.int p1), .val (.int p2), .val (.int p3), .val (.int p4), .val (.int (3 : Int32)), .val (.int (0 : Int32)), .val (.ref b93), .val (.int (4 : Int32)), .val (.ref d_98), .unset, .unset] [(.int (3 : Int32)), (.int (3 : Int32))])) t_
        refine XS.icmpNo X100.here hx rfl (hb hby at_173) rfl (flt (by decide : ¬ ((3 : Int32) < (3 : Int32)))).1 ?_
        show Steps p.tables e below (T100.setTop (mkF m 176 #[.val (.int p1), .val (.int p2), .val (.int p3), .val (.int p4), .val (.int (3 : Int32)), .val (.int (0 : Int32)), .val (.ref b93), .val (.int (4 : Int32)), .val (.ref d_98), .unset, .unset] [])) t_
        refine XS.aload X100.here hx rfl (hb hby at_176) rfl rfl ?_
        show Steps p.tables e below (T100.setTop (mkF m 178 #[.val (.int p1), .val (.int p2), .val (.int p3), .val (.int p4), .val (.int (3 : Int32)), .val (.int (0 : Int32)), .val (.ref b93), .val (.int (4 : Int32)), .val (.ref d_98), .unset, .unset] [(.ref d_98)])) t_
        refine XS.iconst X100.here hx rfl (hb hby at_178) ?_
        show Steps p.tables e below (T100.setTop (mkF m 179 #[.val (.int p1), .val (.int p2), .val (.int p3), .val (.int p4), .val (.int (3 : Int32)), .val (.int (0 : Int32)), .val (.ref b93), .val (.int (4 : Int32)), .val (.ref d_98), .unset, .unset] [(.int (3 : Int32)), (.ref d_98)])) t_
        refine X100.baloadBytes hx (j := (3 : Int32)) (v := (.int (p3).toInt8.toInt32)) (by rw [eh100]; exact Ar104.1) (State.isArrayOf_alike hZ.alike Ar104.2.1) Ar104.2.2 hin104 hat104 (g := (mkF m 179 #[.val (.int p1), .val (.int p2), .val (.int p3), .val (.int p4), .val (.int (3 : Int32)), .val (.int (0 : Int32)), .val (.ref b93), .val (.int (4 : Int32)), .val (.ref d_98), .unset, .unset] [(.int (3 : Int32)), (.ref d_98)])) rfl rfl (hb hby at_179) _ ?_
        show Steps p.tables e below (T100.setTop (mkF m 180 #[.val (.int p1), .val (.int p2), .val (.int p3), .val (.int p4), .val (.int (3 : Int32)), .val (.int (0 : Int32)), .val (.ref b93), .val (.int (4 : Int32)), .val (.ref d_98), .unset, .unset] [(.int (p3).toInt8.toInt32)])) t_
        refine XS.iloadN X100.here hx rfl (hb hby at_180) rfl ?_
        show Steps p.tables e below (T100.setTop (mkF m 181 #[.val (.int p1), .val (.int p2), .val (.int p3), .val (.int p4), .val (.int (3 : Int32)), .val (.int (0 : Int32)), .val (.ref b93), .val (.int (4 : Int32)), .val (.ref d_98), .unset, .unset] [(.int p3), (.int (p3).toInt8.toInt32)])) t_
        refine XS.i2b X100.here hx rfl (hb hby at_181) rfl ?_
        show Steps p.tables e below (T100.setTop (mkF m 182 #[.val (.int p1), .val (.int p2), .val (.int p3), .val (.int p4), .val (.int (3 : Int32)), .val (.int (0 : Int32)), .val (.ref b93), .val (.int (4 : Int32)), .val (.ref d_98), .unset, .unset] [(.int (p3).toInt8.toInt32), (.int (p3).toInt8.toInt32)])) t_
        refine XS.icmpYes X100.here hx rfl (pc0 := 182) (pc' := 187) rfl (hb hby at_182) rfl (teq (rfl : (p3).toInt8.toInt32 = (p3).toInt8.toInt32)).1 (by decide) (by decide) ?_
        show Steps p.tables e below (T100.setTop (mkF m 187 #[.val (.int p1), .val (.int p2), .val (.int p3), .val (.int p4), .val (.int (3 : Int32)), .val (.int (0 : Int32)), .val (.ref b93), .val (.int (4 : Int32)), .val (.ref d_98), .unset, .unset] [])) t_
        refine XS.iload X100.here hx rfl (hb hby at_187) rfl ?_
        show Steps p.tables e below (T100.setTop (mkF m 189 #[.val (.int p1), .val (.int p2), .val (.int p3), .val (.int p4), .val (.int (3 : Int32)), .val (.int (0 : Int32)), .val (.ref b93), .val (.int (4 : Int32)), .val (.ref d_98), .unset, .unset] [(.int (4 : Int32))])) t_
        refine XS.ifNo X100.here hx rfl (hb hby at_189) rfl ((if0 _ _).trans (tlt (by decide : (0 : Int32) < (4 : Int32))).2.2.2) ?_
        show Steps p.tables e below (T100.setTop (mkF m 192 #[.val (.int p1), .val (.int p2), .val (.int p3), .val (.int p4), .val (.int (3 : Int32)), .val (.int (0 : Int32)), .val (.ref b93), .val (.int (4 : Int32)), .val (.ref d_98), .unset, .unset] [])) t_
        refine XS.aload X100.here hx rfl (hb hby at_192) rfl rfl ?_
        show Steps p.tables e below (T100.setTop (mkF m 194 #[.val (.int p1), .val (.int p2), .val (.int p3), .val (.int p4), .val (.int (3 : Int32)), .val (.int (0 : Int32)), .val (.ref b93), .val (.int (4 : Int32)), .val (.ref d_98), .unset, .unset] [(.ref d_98)])) t_
        refine XS.iconst X100.here hx rfl (hb hby at_194) ?_
        show Steps p.tables e below (T100.setTop (mkF m 195 #[.val (.int p1), .val (.int p2), .val (.int p3), .val (.int p4), .val (.int (3 : Int32)), .val (.int (0 : Int32)), .val (.ref b93), .val (.int (4 : Int32)), .val (.ref d_98), .unset, .unset] [(.int (0 : Int32)), (.ref d_98)])) t_
        refine XS.aload X100.here hx rfl (hb hby at_195) rfl rfl ?_
        show Steps p.tables e below (T100.setTop (mkF m 197 #[.val (.int p1), .val (.int p2), .val (.int p3), .val (.int p4), .val (.int (3 : Int32)), .val (.int (0 : Int32)), .val (.ref b93), .val (.int (4 : Int32)), .val (.ref d_98), .unset, .unset] [(.ref d_98), (.int (0 : Int32)), (.ref d_98)])) t_
        refine XS.iconst X100.here hx rfl (hb hby at_197) ?_
        show Steps p.tables e below (T100.setTop (mkF m 198 #[.val (.int p1), .val (.int p2), .val (.int p3), .val (.int p4), .val (.int (3 : Int32)), .val (.int (0 : Int32)), .val (.ref b93), .val (.int (4 : Int32)), .val (.ref d_98), .unset, .unset] [(.int (0 : Int32)), (.ref d_98), (.int (0 : Int32)), (.ref d_98)])) t_
        refine X100.baloadBytes hx (j := (0 : Int32)) (v := (.int (p1).toInt8.toInt32)) (by rw [eh100]; exact Ar105.1) (State.isArrayOf_alike hZ.alike Ar105.2.1) Ar105.2.2 hin105 hat105 (g := (mkF m 198 #[.val (.int p1), .val (.int p2), .val (.int p3), .val (.int p4), .val (.int (3 : Int32)), .val (.int (0 : Int32)), .val (.ref b93), .val (.int (4 : Int32)), .val (.ref d_98), .unset, .unset] [(.int (0 : Int32)), (.ref d_98), (.int (0 : Int32)), (.ref d_98)])) rfl rfl (hb hby at_198) _ ?_
        show Steps p.tables e below (T100.setTop (mkF m 199 #[.val (.int p1), .val (.int p2), .val (.int p3), .val (.int p4), .val (.int (3 : Int32)), .val (.int (0 : Int32)), .val (.ref b93), .val (.int (4 : Int32)), .val (.ref d_98), .unset, .unset] [(.int (p1).toInt8.toInt32), (.int (0 : Int32)), (.ref d_98)])) t_
        refine XS.iconst X100.here hx rfl (hb hby at_199) ?_
        show Steps p.tables e below (T100.setTop (mkF m 200 #[.val (.int p1), .val (.int p2), .val (.int p3), .val (.int p4), .val (.int (3 : Int32)), .val (.int (0 : Int32)), .val (.ref b93), .val (.int (4 : Int32)), .val (.ref d_98), .unset, .unset] [(.int (1 : Int32)), (.int (p1).toInt8.toInt32), (.int (0 : Int32)), (.ref d_98)])) t_
        refine XS.ixor X100.here hx rfl (hb hby at_200) rfl ?_
        show Steps p.tables e below (T100.setTop (mkF m 201 #[.val (.int p1), .val (.int p2), .val (.int p3), .val (.int p4), .val (.int (3 : Int32)), .val (.int (0 : Int32)), .val (.ref b93), .val (.int (4 : Int32)), .val (.ref d_98), .unset, .unset] [(.int ((p1).toInt8.toInt32 ^^^ (1 : Int32))), (.int (0 : Int32)), (.ref d_98)])) t_
        refine XS.i2b X100.here hx rfl (hb hby at_201) rfl ?_
        exact k_
      obtain ⟨cl106, Ar106, q106, S106, M106, H106, G106⟩ := id r98_1
      have hin106 : ¬ ((0 : Int32) < 0 ∨ cl106.slots.size ≤ ((0 : Int32)).toNatClampNeg) := inb_of S106 ⟨by decide, by decide⟩
      obtain ⟨T107, h107, X107, e107, W107, st107⟩ := stB X100 hx hZ eh100 Ar106 (j := (0 : Int32)) hin106 (g := (mkF m 202 #[.val (.int p1), .val (.int p2), .val (.int p3), .val (.int p4), .val (.int (3 : Int32)), .val (.int (0 : Int32)), .val (.ref b93), .val (.int (4 : Int32)), .val (.ref d_98), .unset, .unset] [(.int (((p1).toInt8.toInt32 ^^^ (1 : Int32))).toInt8.toInt32), (.int (0 : Int32)), (.ref d_98)])) rfl rfl (hb hby at_202)
      rw [own_narb] at W107
      have B107 : Arv Z h107 d_98 k2_98 .byte (4 : Int32) [(.int (((p1).toInt8.toInt32 ^^^ (1 : Int32))).toInt8.toInt32), (.int (((p2).toUInt32 >>> ((8 : Int32) &&& 31).toUInt32).toInt32).toInt8.toInt32), (.int (p2).toInt8.toInt32), (.int (p3).toInt8.toInt32)] (.int (0 : Int32)) := Arv.set Ar106 q106 S106 M106 H106 G106 (fits_nar_byte _) W107 0 rfl (Nat.le_of_ble_eq_true rfl)
      refine own_go st107 ?_
      have K107 : Keep h0 h107 [] := K98.wr W107 (Or.inr (Nat.le_trans K97.1 r98_0))
      have N107 := Fr.snoc X107 N100 (Nat.le_trans Z0 (Nat.le_trans K97.1 r98_0))
      refine own_go (A := T107.setTop (mkF m 205 #[.val (.int p1), .val (.int p2), .val (.int p3), .val (.int p4), .val (.int (3 : Int32)), .val (.int (0 : Int32)), .val (.ref b93), .val (.int (4 : Int32)), .val (.ref d_98), .unset, .unset] [(.ref b93)])) (fun t_ k_ => ?_) ?_
      · show Steps p.tables e below (T107.setTop (mkF m 203 #[.val (.int p1), .val (.int p2), .val (.int p3), .val (.int p4), .val (.int (3 : Int32)), .val (.int (0 : Int32)), .val (.ref b93), .val (.int (4 : Int32)), .val (.ref d_98), .unset, .unset] [])) t_
        refine XS.aload X107.here hx rfl (hb hby at_203) rfl rfl ?_
        exact k_
      obtain ⟨cq108, kq108, q108a, q108b, q108c⟩ := isOf hZ e107 ((((((A93.keep Kc94).keep Kc95).keep Kc96).keep Kc97).keep Kc98).wr W107)
      obtain ⟨_, _, ⟨T108, L108, k108, n108⟩, -, X108, ⟨Lc108, hQ108, l108, y108, z108⟩, st108⟩ := X107.virtualBack hx (y := own_y9) (z := own_y9) hown (mvT hZ (own_w hw 56 rfl)) (mvT hZ (own_w hw 57 rfl)) (notFace_of_selects (args := #[]) (mvT hZ (own_w hw 59 rfl))) (mvT hZ (own_w hw 59 rfl)) (mvT hZ (own_w hw 58 rfl)) (by decide) (backOf (W := 0) (rmTo4 l Z a0 hw [] b93 b_94 k_94 ((p1).toInt8.toInt32) ((((p2).toUInt32 >>> ((8 : Int32) &&& 31).toUInt32).toInt32).toInt8.toInt32) ((p2).toInt8.toInt32) ((p3).toInt8.toInt32) h107 n0 (Nat.le_trans Z0 K107.1) ((((((A93.keep Kc94).keep Kc95).keep Kc96).keep Kc97).keep Kc98).wr W107) ((r97_0.keep Kc98 nin0).other W107 (Or.inl (Nat.ne_of_lt (Nat.lt_of_lt_of_le (Nat.lt_of_lt_of_le (Nat.lt_of_lt_of_le (Nat.lt_of_lt_of_le (Nat.lt_of_lt_of_le A93.lt Kc94.1) Kc95.1) Kc96.1) Kc97.1) r98_0)))) ((r97_1.keep Kc98 nin0).other W107 (Or.inl (Nat.ne_of_lt (Nat.lt_of_lt_of_le (Nat.lt_of_lt_of_le (Nat.lt_of_lt_of_le (Nat.lt_of_lt_of_le (Nat.lt_of_lt_of_le A93.lt Kc94.1) Kc95.1) Kc96.1) Kc97.1) r98_0)))) ((r97_2.keep Kc98 nin0).other W107 (Nat.ne_of_lt (Nat.lt_of_lt_of_le (Nat.lt_of_lt_of_le (Nat.lt_of_lt_of_le (Nat.lt_of_lt_of_le r94_3.lt Kc95.1) Kc96.1) Kc97.1) r98_0)))) hZ (own_w hw 60 rfl) (own_w hw 2 rfl) (by decide) (by decide)) q108a q108c (g := (mkF m 205 #[.val (.int p1), .val (.int p2), .val (.int p3), .val (.int p4), .val (.int (3 : Int32)), .val (.int (0 : Int32)), .val (.ref b93), .val (.int (4 : Int32)), .val (.ref d_98), .unset, .unset] [(.ref b93)])) rfl (by rw [hml]; rfl) (Steps.refl _) (argsL := []) (rest := []) (lenOf pd_5 rfl) rfl (by show 2 * 0 + _ ≤ _; exact Nat.le_of_eq rfl) (hb hby at_205) (fun _ _ => ⟨rfl, e107, (by decide : 6 + 1 ≤ _), (by decide : 277 + 4 ≤ _)⟩)
      dsimp only [Pt.U, Pt.locs, Pt.cells, Pt.slots] at X108 l108 y108 z108 st108 hQ108
      subst l108 y108 z108
      obtain ⟨d_108, k2_108, rfl, N108q, Kc108, r108_0, r108_1⟩ := hQ108
      have N108 := Fr.app N107 N108q
      refine own_via st108 ?_
      have K108 : Keep h0 T108.heap [] := K107.trans Kc108 all0
      obtain ⟨cl109, Ar109, q109, S109, M109, H109, G109⟩ := id r108_1
      obtain ⟨cl110, Ar110, q110, S110, M110, H110, G110⟩ := id r108_1
      have hin110 : ¬ ((0 : Int32) < 0 ∨ cl110.slots.size ≤ ((0 : Int32)).toNatClampNeg) := inb_of S110 ⟨by decide, by decide⟩
      have hat110 : cl110.slots[((0 : Int32)).toNatClampNeg]? = some (.int (p1).toInt8.toInt32) := Has.at H110 hin110 rfl
      refine own_go (A := T108.setTop (mkF m 263 #[.val (.int p1), .val (.int p2), .val (.int p3), .val (.int p4), .val (.int (3 : Int32)), .val (.int (0 : Int32)), .val (.ref b93), .val (.int (4 : Int32)), .val (.ref d_98), .val (.ref d_108), .unset] [(.int (1 : Int32))])) (fun t_ k_ => ?_) ?_
      · show Steps p.tables e below (T108.setTop (mkF m 208 #[.val (.int p1), .val (.int p2), .val (.int p3), .val (.int p4), .val (.int (3 : Int32)), .val (.int (0 : Int32)), .val (.ref b93), .val (.int (4 : Int32)), .val (.ref d_98), .unset, .unset] [(.ref d_108)])) t_
        refine XS.astore X108.here hx rfl (hb hby at_208) rfl rfl (l' := #[.val (.int p1), .val (.int p2), .val (.int p3), .val (.int p4), .val (.int (3 : Int32)), .val (.int (0 : Int32)), .val (.ref b93), .val (.int (4 : Int32)), .val (.ref d_98), .val (.ref d_108), .unset]) rfl ?_
        show Steps p.tables e below (T108.setTop (mkF m 210 #[.val (.int p1), .val (.int p2), .val (.int p3), .val (.int p4), .val (.int (3 : Int32)), .val (.int (0 : Int32)), .val (.ref b93), .val (.int (4 : Int32)), .val (.ref d_98), .val (.ref d_108), .unset] [])) t_
        refine XS.aload X108.here hx rfl (hb hby at_210) rfl rfl ?_
        show Steps p.tables e below (T108.setTop (mkF m 212 #[.val (.int p1), .val (.int p2), .val (.int p3), .val (.int p4), .val (.int (3 : Int32)), .val (.int (0 : Int32)), .val (.ref b93), .val (.int (4 : Int32)), .val (.ref d_98), .val (.ref d_108), .unset] [(.ref d_108)])) t_
        refine X108.arraylength hx Ar109.1 (State.isArrayOf_alike hZ.alike Ar109.2.1) (g := (mkF m 212 #[.val (.int p1), .val (.int p2), .val (.int p3), .val (.int p4), .val (.int (3 : Int32)), .val (.int (0 : Int32)), .val (.ref b93), .val (.int (4 : Int32)), .val (.ref d_98), .val (.ref d_108), .unset] [(.ref d_108)])) rfl rfl (hb hby at_212) _ ?_
        rw [len_of S109 M109]
        show Steps p.tables e below (T108.setTop (mkF m 213 #[.val (.int p1), .val (.int p2), .val (.int p3), .val (.int p4), .val (.int (3 : Int32)), .val (.int (0 : Int32)), .val (.ref b93), .val (.int (4 : Int32)), .val (.ref d_98), .val (.ref d_108), .unset] [(.int (4 : Int32))])) t_
        refine XS.iload X108.here hx rfl (hb hby at_213) rfl ?_
        show Steps p.tables e below (T108.setTop (mkF m 215 #[.val (.int p1), .val (.int p2), .val (.int p3), .val (.int p4), .val (.int (3 : Int32)), .val (.int (0 : Int32)), .val (.ref b93), .val (.int (4 : Int32)), .val (.ref d_98), .val (.ref d_108), .unset] [(.int (4 : Int32)), (.int (4 : Int32))])) t_
        refine XS.icmpYes X108.here hx rfl (pc0 := 215) (pc' := 220) rfl (hb hby at_215) rfl (teq (by decide : (4 : Int32) = (4 : Int32))).1 (by decide) (by decide) ?_
        show Steps p.tables e below (T108.setTop (mkF m 220 #[.val (.int p1), .val (.int p2), .val (.int p3), .val (.int p4), .val (.int (3 : Int32)), .val (.int (0 : Int32)), .val (.ref b93), .val (.int (4 : Int32)), .val (.ref d_98), .val (.ref d_108), .unset] [])) t_
        refine XS.iload X108.here hx rfl (hb hby at_220) rfl ?_
        show Steps p.tables e below (T108.setTop (mkF m 222 #[.val (.int p1), .val (.int p2), .val (.int p3), .val (.int p4), .val (.int (3 : Int32)), .val (.int (0 : Int32)), .val (.ref b93), .val (.int (4 : Int32)), .val (.ref d_98), .val (.ref d_108), .unset] [(.int (3 : Int32))])) t_
        refine XS.iconst X108.here hx rfl (hb hby at_222) ?_
        show Steps p.tables e below (T108.setTop (mkF m 223 #[.val (.int p1), .val (.int p2), .val (.int p3), .val (.int p4), .val (.int (3 : Int32)), .val (.int (0 : Int32)), .val (.ref b93), .val (.int (4 : Int32)), .val (.ref d_98), .val (.ref d_108), .unset] [(.int (1 : Int32)), (.int (3 : Int32))])) t_
        refine XS.icmpNo X108.here hx rfl (hb hby at_223) rfl (flt (by decide : ¬ ((3 : Int32) < (1 : Int32)))).1 ?_
        show Steps p.tables e below (T108.setTop (mkF m 226 #[.val (.int p1), .val (.int p2), .val (.int p3), .val (.int p4), .val (.int (3 : Int32)), .val (.int (0 : Int32)), .val (.ref b93), .val (.int (4 : Int32)), .val (.ref d_98), .val (.ref d_108), .unset] [])) t_
        refine XS.aload X108.here hx rfl (hb hby at_226) rfl rfl ?_
        show Steps p.tables e below (T108.setTop (mkF m 228 #[.val (.int p1), .val (.int p2), .val (.int p3), .val (.int p4), .val (.int (3 : Int32)), .val (.int (0 : Int32)), .val (.ref b93), .val (.int (4 : Int32)), .val (.ref d_98), .val (.ref d_108), .unset] [(.ref d_108)])) t_
        refine XS.iconst X108.here hx rfl (hb hby at_228) ?_
        show Steps p.tables e below (T108.setTop (mkF m 229 #[.val (.int p1), .val (.int p2), .val (.int p3), .val (.int p4), .val (.int (3 : Int32)), .val (.int (0 : Int32)), .val (.ref b93), .val (.int (4 : Int32)), .val (.ref d_98), .val (.ref d_108), .unset] [(.int (0 : Int32)), (.ref d_108)])) t_
        refine X108.baloadBytes hx (j := (0 : Int32)) (v := (.int (p1).toInt8.toInt32)) Ar110.1 (State.isArrayOf_alike hZ.alike Ar110.2.1) Ar110.2.2 hin110 hat110 (g := (mkF m 229 #[.val (.int p1), .val (.int p2), .val (.int p3), .val (.int p4), .val (.int (3 : Int32)), .val (.int (0 : Int32)), .val (.ref b93), .val (.int (4 : Int32)), .val (.ref d_98), .val (.ref d_108), .unset] [(.int (0 : Int32)), (.ref d_108)])) rfl rfl (hb hby at_229) _ ?_
        show Steps p.tables e below (T108.setTop (mkF m 230 #[.val (.int p1), .val (.int p2), .val (.int p3), .val (.int p4), .val (.int (3 : Int32)), .val (.int (0 : Int32)), .val (.ref b93), .val (.int (4 : Int32)), .val (.ref d_98), .val (.ref d_108), .unset] [(.int (p1).toInt8.toInt32)])) t_
        refine XS.iloadN X108.here hx rfl (hb hby at_230) rfl ?_
        show Steps p.tables e below (T108.setTop (mkF m 231 #[.val (.int p1), .val (.int p2), .val (.int p3), .val (.int p4), .val (.int (3 : Int32)), .val (.int (0 : Int32)), .val (.ref b93), .val (.int (4 : Int32)), .val (.ref d_98), .val (.ref d_108), .unset] [(.int p1), (.int (p1).toInt8.toInt32)])) t_
        refine XS.i2b X108.here hx rfl (hb hby at_231) rfl ?_
        show Steps p.tables e below (T108.setTop (mkF m 232 #[.val (.int p1), .val (.int p2), .val (.int p3), .val (.int p4), .val (.int (3 : Int32)), .val (.int (0 : Int32)), .val (.ref b93), .val (.int (4 : Int32)), .val (.ref d_98), .val (.ref d_108), .unset] [(.int (p1).toInt8.toInt32), (.int (p1).toInt8.toInt32)])) t_
        refine XS.icmpYes X108.here hx rfl (pc0 := 232) (pc' := 237) rfl (hb hby at_232) rfl (teq (rfl : (p1).toInt8.toInt32 = (p1).toInt8.toInt32)).1 (by decide) (by decide) ?_
        show Steps p.tables e below (T108.setTop (mkF m 237 #[.val (.int p1), .val (.int p2), .val (.int p3), .val (.int p4), .val (.int (3 : Int32)), .val (.int (0 : Int32)), .val (.ref b93), .val (.int (4 : Int32)), .val (.ref d_98), .val (.ref d_108), .unset] [])) t_
        refine XS.iload X108.here hx rfl (hb hby at_237) rfl ?_
        show Steps p.tables e below (T108.setTop (mkF m 239 #[.val (.int p1), .val (.int p2), .val (.int p3), .val (.int p4), .val (.int (3 : Int32)), .val (.int (0 : Int32)), .val (.ref b93), .val (.int (4 : Int32)), .val (.ref d_98), .val (.ref d_108), .unset] [(.int (0 : Int32))])) t_
        refine XS.ifYes X108.here hx rfl (pc0 := 239) (pc' := 262) rfl (hb hby at_239) rfl ((if0 _ _).trans (teq (by decide : (0 : Int32) = (0 : Int32))).1) (by decide) (by decide) ?_
        show Steps p.tables e below (T108.setTop (mkF m 262 #[.val (.int p1), .val (.int p2), .val (.int p3), .val (.int p4), .val (.int (3 : Int32)), .val (.int (0 : Int32)), .val (.ref b93), .val (.int (4 : Int32)), .val (.ref d_98), .val (.ref d_108), .unset] [])) t_
        refine XS.iconst X108.here hx rfl (hb hby at_262) ?_
        exact k_
      obtain ⟨fs111, hr111, hrun111, hended111, hW111, hsame111⟩ := X108.leave (v := some (.int (1 : Int32))) (fun h => by rw [Bd.returns] at h; cases h)
      refine ⟨_, _, ?_, hrun111, hended111, _, _, rfl, ?_, ⟨_, rfl⟩, hW111, hsame111.mono (by decide) (by decide)⟩
      · exact retN X108 hx (t := .boolean) Bd.returns (by simp) (hb hby at_263) hr111
      · show Q_rm0 Z p1 p2 p3 p4 h0 n0 _ T108.heap _
        exact ⟨rfl, N108, K108⟩
    · refine own_go (A := s₁.setTop (mkF m 20 #[.val (.int p1), .val (.int p2), .val (.int p3), .val (.int p4), .val (.int (3 : Int32)), .val (.int (1 : Int32)), .unset, .unset, .unset, .unset, .unset] [])) (fun t_ k_ => ?_) ?_
      · show Steps p.tables e below (s₁.setTop (mkF m 10 #[.val (.int p1), .val (.int p2), .val (.int p3), .val (.int p4), .val (.int (3 : Int32)), .unset, .unset, .unset, .unset, .unset, .unset] [(.int (((p4).toUInt32 >>> ((2 : Int32) &&& 31).toUInt32).toInt32 &&& (1 : Int32)))])) t_
        refine XS.ifNo X0.here hx rfl (hb hby at_10) rfl ((if0 _ _).trans (feq hc10_92).1) ?_
        show Steps p.tables e below (s₁.setTop (mkF m 13 #[.val (.int p1), .val (.int p2), .val (.int p3), .val (.int p4), .val (.int (3 : Int32)), .unset, .unset, .unset, .unset, .unset, .unset] [])) t_
        refine XS.iconst X0.here hx rfl (hb hby at_13) ?_
        show Steps p.tables e below (s₁.setTop (mkF m 14 #[.val (.int p1), .val (.int p2), .val (.int p3), .val (.int p4), .val (.int (3 : Int32)), .unset, .unset, .unset, .unset, .unset, .unset] [(.int (1 : Int32))])) t_
        refine XS.goto X0.here hx rfl (pc0 := 14) (pc' := 18) rfl (hb hby at_14) (by decide) (by decide) ?_
        show Steps p.tables e below (s₁.setTop (mkF m 18 #[.val (.int p1), .val (.int p2), .val (.int p3), .val (.int p4), .val (.int (3 : Int32)), .unset, .unset, .unset, .unset, .unset, .unset] [(.int (1 : Int32))])) t_
        refine XS.istore X0.here hx rfl (hb hby at_18) rfl (l' := #[.val (.int p1), .val (.int p2), .val (.int p3), .val (.int p4), .val (.int (3 : Int32)), .val (.int (1 : Int32)), .unset, .unset, .unset, .unset, .unset]) rfl ?_
        exact k_
      obtain ⟨T112, h112, X112, e112, E112, A112, D112, -, st112⟩ := newO X0 hx hZ hown (own_w hw 0 rfl) (own_w hw 1 rfl) (own_w hw 2 rfl) e0 (g := (mkF m 20 #[.val (.int p1), .val (.int p2), .val (.int p3), .val (.int p4), .val (.int (3 : Int32)), .val (.int (1 : Int32)), .unset, .unset, .unset, .unset, .unset] [])) rfl (hb hby at_20) (by decide) (by decide)
      obtain ⟨b112, g112⟩ : ∃ z, z = h0.size := ⟨_, rfl⟩
      rw [← g112] at A112 D112 st112
      refine own_go st112 ?_
      have K112 : Keep h0 h112 [] := (Keep.refl h0 []).ext E112
      have F112_bytes : Fld Z h112 b112 "com/example/kneiphof/kneiphof/ByteRecord" "bytes" "[B" .null := D112 (Or.inl (own_w hw 16 rfl)) (ty := (.array .byte)) (by decide)
      have F112_text : Fld Z h112 b112 "com/example/kneiphof/kneiphof/ByteRecord" "text" "Ljava/io/DataOutputStream;" .null := D112 (Or.inr (own_w hw 44 rfl)) (ty := (.object "java/io/DataOutputStream")) (by decide)
      have F112_size : Fld Z h112 b112 "com/example/kneiphof/kneiphof/ByteRecord" "size" "I" (.int (0 : Int32)) := D112 (Or.inl (own_w hw 55 rfl)) (ty := .int) (by decide)
      refine own_go (A := T112.setTop (mkF m 24 #[.val (.int p1), .val (.int p2), .val (.int p3), .val (.int p4), .val (.int (3 : Int32)), .val (.int (1 : Int32)), .unset, .unset, .unset, .unset, .unset] [(.ref b112), (.ref b112)])) (fun t_ k_ => ?_) ?_
      · show Steps p.tables e below (T112.setTop (mkF m 23 #[.val (.int p1), .val (.int p2), .val (.int p3), .val (.int p4), .val (.int (3 : Int32)), .val (.int (1 : Int32)), .unset, .unset, .unset, .unset, .unset] [(.ref b112)])) t_
        refine XS.dup X112.here hx rfl (hb hby at_23) rfl rfl ?_
        exact k_
      obtain ⟨_, _, ⟨T113, L113, k113, n113⟩, -, X113, ⟨Lc113, hQ113, l113, y113, z113⟩, st113⟩ := X112.specialBack hx (y := own_y3) rfl hown (mvT hZ (own_w hw 3 rfl)) (mvT hZ (own_w hw 4 rfl)) (mvT hZ (own_w hw 5 rfl)) (by decide) (backOf (W := 1) (rmBR l Z a0 hw [] b112 h112 n0 (Nat.le_trans Z0 K112.1) A112 F112_bytes F112_text F112_size (Nat.le_trans Z0 (Nat.le_of_eq g112.symm))) hZ (own_w hw 5 rfl) (own_w hw 2 rfl) (by decide) (by decide)) (g := (mkF m 24 #[.val (.int p1), .val (.int p2), .val (.int p3), .val (.int p4), .val (.int (3 : Int32)), .val (.int (1 : Int32)), .unset, .unset, .unset, .unset, .unset] [(.ref b112), (.ref b112)])) rfl (by rw [hml]; rfl) (Steps.refl _) (a := b112) (argsL := []) (rest := [(.ref b112)]) (lenOf pd_0 rfl) rfl (by show 2 * 0 + _ ≤ _; exact Nat.le_of_eq rfl) (hb hby at_24) (fun _ _ => ⟨rfl, e112, (by decide : 1 + 4 ≤ _), (by decide : 3 + 270 ≤ _)⟩)
      dsimp only [Pt.U, Pt.locs, Pt.cells, Pt.slots] at X113 l113 y113 z113 st113 hQ113
      subst l113 y113 z113
      obtain ⟨b_113, k_113, rfl, N113q, Kc113, r113_0, r113_1, r113_2, r113_3⟩ := hQ113
      have N113 := Fr.app N0 N113q
      refine own_via st113 ?_
      have K113 : Keep h0 T113.heap [] := K112.trans Kc113 (allS (P := fun x => x ∈ _ ∨ _ ≤ x) (Or.inr (Nat.le_of_eq g112.symm)) all0)
      refine own_go (A := T113.setTop (mkF m 38 #[.val (.int p1), .val (.int p2), .val (.int p3), .val (.int p4), .val (.int (3 : Int32)), .val (.int (1 : Int32)), .val (.ref b112), .unset, .unset, .unset, .unset] [(.int p1), (.ref b112)])) (fun t_ k_ => ?_) ?_
      · show Steps p.tables e below (T113.setTop (mkF m 27 #[.val (.int p1), .val (.int p2), .val (.int p3), .val (.int p4), .val (.int (3 : Int32)), .val (.int (1 : Int32)), .unset, .unset, .unset, .unset, .unset] [(.ref b112)])) t_
        refine XS.astore X113.here hx rfl (hb hby at_27) rfl rfl (l' := #[.val (.int p1), .val (.int p2), .val (.int p3), .val (.int p4), .val (.int (3 : Int32)), .val (.int (1 : Int32)), .val (.ref b112), .unset, .unset, .unset, .unset]) rfl ?_
        show Steps p.tables e below (T113.setTop (mkF m 29 #[.val (.int p1), .val (.int p2), .val (.int p3), .val (.int p4), .val (.int (3 : Int32)), .val (.int (1 : Int32)), .val (.ref b112), .unset, .unset, .unset, .unset] [])) t_
        refine XS.iload X113.here hx rfl (hb hby at_29) rfl ?_
        show Steps p.tables e below (T113.setTop (mkF m 31 #[.val (.int p1), .val (.int p2), .val (.int p3), .val (.int p4), .val (.int (3 : Int32)), .val (.int (1 : Int32)), .val (.ref b112), .unset, .unset, .unset, .unset] [(.int (3 : Int32))])) t_
        refine XS.iconst X113.here hx rfl (hb hby at_31) ?_
        show Steps p.tables e below (T113.setTop (mkF m 32 #[.val (.int p1), .val (.int p2), .val (.int p3), .val (.int p4), .val (.int (3 : Int32)), .val (.int (1 : Int32)), .val (.ref b112), .unset, .unset, .unset, .unset] [(.int (1 : Int32)), (.int (3 : Int32))])) t_
        refine XS.icmpNo X113.here hx rfl (hb hby at_32) rfl (flt (by decide : ¬ ((3 : Int32) < (1 : Int32)))).1 ?_
        show Steps p.tables e below (T113.setTop (mkF m 35 #[.val (.int p1), .val (.int p2), .val (.int p3), .val (.int p4), .val (.int (3 : Int32)), .val (.int (1 : Int32)), .val (.ref b112), .unset, .unset, .unset, .unset] [])) t_
        refine XS.aload X113.here hx rfl (hb hby at_35) rfl rfl ?_
        show Steps p.tables e below (T113.setTop (mkF m 37 #[.val (.int p1), .val (.int p2), .val (.int p3), .val (.int p4), .val (.int (3 : Int32)), .val (.int (1 : Int32)), .val (.ref b112), .unset, .unset, .unset, .unset] [(.ref b112)])) t_
        refine XS.iloadN X113.here hx rfl (hb hby at_37) rfl ?_
        exact k_
      obtain ⟨cq114, kq114, q114a, q114b, q114c⟩ := isOf hZ rfl (A112.keep Kc113)
      obtain ⟨_, _, ⟨T114, L114, k114, n114⟩, -, X114, ⟨Lc114, hQ114, l114, y114, z114⟩, st114⟩ := X113.virtualBack hx (y := own_y5) (z := own_y5) hown (mvT hZ (own_w hw 45 rfl)) (mvT hZ (own_w hw 46 rfl)) (notFace_of_selects (args := #[]) (mvT hZ (own_w hw 48 rfl))) (mvT hZ (own_w hw 48 rfl)) (mvT hZ (own_w hw 47 rfl)) (by decide) (backOf (W := 0) (rmWrite0 l Z a0 hw [] b112 p1 b_113 k_113 (0 : Int32) (0 : Int32) (0 : Int32) (0 : Int32) T113.heap n0 (Nat.le_trans Z0 K113.1) (A112.keep Kc113) r113_1 r113_2 r113_3 (Nat.le_trans Z0 (Nat.le_of_eq g112.symm)) (Nat.le_trans Z0 (Nat.le_trans K112.1 r113_0)) (Nat.ne_of_lt (Nat.lt_of_lt_of_le A112.lt r113_0))) hZ (own_w hw 49 rfl) (own_w hw 2 rfl) (by decide) (by decide)) q114a q114c (g := (mkF m 38 #[.val (.int p1), .val (.int p2), .val (.int p3), .val (.int p4), .val (.int (3 : Int32)), .val (.int (1 : Int32)), .val (.ref b112), .unset, .unset, .unset, .unset] [(.int p1), (.ref b112)])) rfl (by rw [hml]; rfl) (Steps.refl _) (argsL := [(.int p1)]) (rest := []) (lenOf pd_2 rfl) rfl (by show 2 * 0 + _ ≤ _; exact Nat.le_of_eq rfl) (hb hby at_38) (fun _ _ => ⟨rfl, rfl, (by decide : 5 + 0 ≤ _), (by decide : 273 + 0 ≤ _)⟩)
      dsimp only [Pt.U, Pt.locs, Pt.cells, Pt.slots] at X114 l114 y114 z114 st114 hQ114
      subst l114 y114 z114
      obtain ⟨rfl, N114q, Kc114, r114_0, r114_1, r114_2⟩ := hQ114
      have N114 := Fr.app N113 N114q
      refine own_via st114 ?_
      have K114 : Keep h0 T114.heap [] := K113.trans Kc114 (allS (P := fun x => x ∈ _ ∨ _ ≤ x) (Or.inr (Nat.le_of_eq g112.symm)) (allS (P := fun x => x ∈ _ ∨ _ ≤ x) (Or.inr (Nat.le_trans K112.1 r113_0)) all0))
      refine own_go (A := T114.setTop (mkF m 50 #[.val (.int p1), .val (.int p2), .val (.int p3), .val (.int p4), .val (.int (3 : Int32)), .val (.int (1 : Int32)), .val (.ref b112), .unset, .unset, .unset, .unset] [(.int p2), (.ref b112)])) (fun t_ k_ => ?_) ?_
      · show Steps p.tables e below (T114.setTop (mkF m 41 #[.val (.int p1), .val (.int p2), .val (.int p3), .val (.int p4), .val (.int (3 : Int32)), .val (.int (1 : Int32)), .val (.ref b112), .unset, .unset, .unset, .unset] [])) t_
        refine XS.iload X114.here hx rfl (hb hby at_41) rfl ?_
        show Steps p.tables e below (T114.setTop (mkF m 43 #[.val (.int p1), .val (.int p2), .val (.int p3), .val (.int p4), .val (.int (3 : Int32)), .val (.int (1 : Int32)), .val (.ref b112), .unset, .unset, .unset, .unset] [(.int (3 : Int32))])) t_
        refine XS.iconst X114.here hx rfl (hb hby at_43) ?_
        show Steps p.tables e below (T114.setTop (mkF m 44 #[.val (.int p1), .val (.int p2), .val (.int p3), .val (.int p4), .val (.int (3 : Int32)), .val (.int (1 : Int32)), .val (.ref b112), .unset, .unset, .unset, .unset] [(.int (2 : Int32)), (.int (3 : Int32))])) t_
        refine XS.icmpNo X114.here hx rfl (hb hby at_44) rfl (flt (by decide : ¬ ((3 : Int32) < (2 : Int32)))).1 ?_
        show Steps p.tables e below (T114.setTop (mkF m 47 #[.val (.int p1), .val (.int p2), .val (.int p3), .val (.int p4), .val (.int (3 : Int32)), .val (.int (1 : Int32)), .val (.ref b112), .unset, .unset, .unset, .unset] [])) t_
        refine XS.aload X114.here hx rfl (hb hby at_47) rfl rfl ?_
        show Steps p.tables e below (T114.setTop (mkF m 49 #[.val (.int p1), .val (.int p2), .val (.int p3), .val (.int p4), .val (.int (3 : Int32)), .val (.int (1 : Int32)), .val (.ref b112), .unset, .unset, .unset, .unset] [(.ref b112)])) t_
        refine XS.iloadN X114.here hx rfl (hb hby at_49) rfl ?_
        exact k_
      obtain ⟨cq115, kq115, q115a, q115b, q115c⟩ := isOf hZ rfl ((A112.keep Kc113).keep Kc114)
      obtain ⟨_, _, ⟨T115, L115, k115, n115⟩, -, X115, ⟨Lc115, hQ115, l115, y115, z115⟩, st115⟩ := X114.virtualBack hx (y := own_y6) (z := own_y6) hown (mvT hZ (own_w hw 78 rfl)) (mvT hZ (own_w hw 79 rfl)) (notFace_of_selects (args := #[]) (mvT hZ (own_w hw 81 rfl))) (mvT hZ (own_w hw 81 rfl)) (mvT hZ (own_w hw 80 rfl)) (by decide) (backOf (W := 0) (rmShort1 l Z a0 hw [] b112 p2 b_113 k_113 ((p1).toInt8.toInt32) (0 : Int32) (0 : Int32) (0 : Int32) T114.heap n0 (Nat.le_trans Z0 K114.1) ((A112.keep Kc113).keep Kc114) r114_0 r114_1 r114_2 (Nat.le_trans Z0 (Nat.le_of_eq g112.symm)) (Nat.le_trans Z0 (Nat.le_trans K112.1 r113_0)) (Nat.ne_of_lt (Nat.lt_of_lt_of_le A112.lt r113_0))) hZ (own_w hw 82 rfl) (own_w hw 2 rfl) (by decide) (by decide)) q115a q115c (g := (mkF m 50 #[.val (.int p1), .val (.int p2), .val (.int p3), .val (.int p4), .val (.int (3 : Int32)), .val (.int (1 : Int32)), .val (.ref b112), .unset, .unset, .unset, .unset] [(.int p2), (.ref b112)])) rfl (by rw [hml]; rfl) (Steps.refl _) (argsL := [(.int p2)]) (rest := []) (lenOf pd_2 rfl) rfl (by show 2 * 0 + _ ≤ _; exact Nat.le_of_eq rfl) (hb hby at_50) (fun _ _ => ⟨rfl, rfl, (by decide : 5 + 0 ≤ _), (by decide : 273 + 0 ≤ _)⟩)
      dsimp only [Pt.U, Pt.locs, Pt.cells, Pt.slots] at X115 l115 y115 z115 st115 hQ115
      subst l115 y115 z115
      obtain ⟨rfl, N115q, Kc115, r115_0, r115_1, r115_2⟩ := hQ115
      have N115 := Fr.app N114 N115q
      refine own_via st115 ?_
      have K115 : Keep h0 T115.heap [] := K114.trans Kc115 (allS (P := fun x => x ∈ _ ∨ _ ≤ x) (Or.inr (Nat.le_of_eq g112.symm)) (allS (P := fun x => x ∈ _ ∨ _ ≤ x) (Or.inr (Nat.le_trans K112.1 r113_0)) all0))
      refine own_go (A := T115.setTop (mkF m 62 #[.val (.int p1), .val (.int p2), .val (.int p3), .val (.int p4), .val (.int (3 : Int32)), .val (.int (1 : Int32)), .val (.ref b112), .unset, .unset, .unset, .unset] [(.int p3), (.ref b112)])) (fun t_ k_ => ?_) ?_
      · show Steps p.tables e below (T115.setTop (mkF m 53 #[.val (.int p1), .val (.int p2), .val (.int p3), .val (.int p4), .val (.int (3 : Int32)), .val (.int (1 : Int32)), .val (.ref b112), .unset, .unset, .unset, .unset] [])) t_
        refine XS.iload X115.here hx rfl (hb hby at_53) rfl ?_
        show Steps p.tables e below (T115.setTop (mkF m 55 #[.val (.int p1), .val (.int p2), .val (.int p3), .val (.int p4), .val (.int (3 : Int32)), .val (.int (1 : Int32)), .val (.ref b112), .unset, .unset, .unset, .unset] [(.int (3 : Int32))])) t_
        refine XS.iconst X115.here hx rfl (hb hby at_55) ?_
        show Steps p.tables e below (T115.setTop (mkF m 56 #[.val (.int p1), .val (.int p2), .val (.int p3), .val (.int p4), .val (.int (3 : Int32)), .val (.int (1 : Int32)), .val (.ref b112), .unset, .unset, .unset, .unset] [(.int (3 : Int32)), (.int (3 : Int32))])) t_
        refine XS.icmpNo X115.here hx rfl (hb hby at_56) rfl (flt (by decide : ¬ ((3 : Int32) < (3 : Int32)))).1 ?_
        show Steps p.tables e below (T115.setTop (mkF m 59 #[.val (.int p1), .val (.int p2), .val (.int p3), .val (.int p4), .val (.int (3 : Int32)), .val (.int (1 : Int32)), .val (.ref b112), .unset, .unset, .unset, .unset] [])) t_
        refine XS.aload X115.here hx rfl (hb hby at_59) rfl rfl ?_
        show Steps p.tables e below (T115.setTop (mkF m 61 #[.val (.int p1), .val (.int p2), .val (.int p3), .val (.int p4), .val (.int (3 : Int32)), .val (.int (1 : Int32)), .val (.ref b112), .unset, .unset, .unset, .unset] [(.ref b112)])) t_
        refine XS.iloadN X115.here hx rfl (hb hby at_61) rfl ?_
        exact k_
      obtain ⟨cq116, kq116, q116a, q116b, q116c⟩ := isOf hZ rfl (((A112.keep Kc113).keep Kc114).keep Kc115)
      obtain ⟨_, _, ⟨T116, L116, k116, n116⟩, -, X116, ⟨Lc116, hQ116, l116, y116, z116⟩, st116⟩ := X115.virtualBack hx (y := own_y5) (z := own_y5) hown (mvT hZ (own_w hw 45 rfl)) (mvT hZ (own_w hw 46 rfl)) (notFace_of_selects (args := #[]) (mvT hZ (own_w hw 48 rfl))) (mvT hZ (own_w hw 48 rfl)) (mvT hZ (own_w hw 47 rfl)) (by decide) (backOf (W := 0) (rmWrite3 l Z a0 hw [] b112 p3 b_113 k_113 ((p1).toInt8.toInt32) ((((p2).toUInt32 >>> ((8 : Int32) &&& 31).toUInt32).toInt32).toInt8.toInt32) ((p2).toInt8.toInt32) (0 : Int32) T115.heap n0 (Nat.le_trans Z0 K115.1) (((A112.keep Kc113).keep Kc114).keep Kc115) r115_0 r115_1 r115_2 (Nat.le_trans Z0 (Nat.le_of_eq g112.symm)) (Nat.le_trans Z0 (Nat.le_trans K112.1 r113_0)) (Nat.ne_of_lt (Nat.lt_of_lt_of_le A112.lt r113_0))) hZ (own_w hw 49 rfl) (own_w hw 2 rfl) (by decide) (by decide)) q116a q116c (g := (mkF m 62 #[.val (.int p1), .val (.int p2), .val (.int p3), .val (.int p4), .val (.int (3 : Int32)), .val (.int (1 : Int32)), .val (.ref b112), .unset, .unset, .unset, .unset] [(.int p3), (.ref b112)])) rfl (by rw [hml]; rfl) (Steps.refl _) (argsL := [(.int p3)]) (rest := []) (lenOf pd_2 rfl) rfl (by show 2 * 0 + _ ≤ _; exact Nat.le_of_eq rfl) (hb hby at_62) (fun _ _ => ⟨rfl, rfl, (by decide : 5 + 0 ≤ _), (by decide : 273 + 0 ≤ _)⟩)
      dsimp only [Pt.U, Pt.locs, Pt.cells, Pt.slots] at X116 l116 y116 z116 st116 hQ116
      subst l116 y116 z116
      obtain ⟨rfl, N116q, Kc116, r116_0, r116_1, r116_2⟩ := hQ116
      have N116 := Fr.app N115 N116q
      refine own_via st116 ?_
      have K116 : Keep h0 T116.heap [] := K115.trans Kc116 (allS (P := fun x => x ∈ _ ∨ _ ≤ x) (Or.inr (Nat.le_of_eq g112.symm)) (allS (P := fun x => x ∈ _ ∨ _ ≤ x) (Or.inr (Nat.le_trans K112.1 r113_0)) all0))
      refine own_go (A := T116.setTop (mkF m 99 #[.val (.int p1), .val (.int p2), .val (.int p3), .val (.int p4), .val (.int (3 : Int32)), .val (.int (1 : Int32)), .val (.ref b112), .val (.int (4 : Int32)), .unset, .unset, .unset] [(.ref b112)])) (fun t_ k_ => ?_) ?_
      · show Steps p.tables e below (T116.setTop (mkF m 65 #[.val (.int p1), .val (.int p2), .val (.int p3), .val (.int p4), .val (.int (3 : Int32)), .val (.int (1 : Int32)), .val (.ref b112), .unset, .unset, .unset, .unset] [])) t_
        refine XS.iload X116.here hx rfl (hb hby at_65) rfl ?_
        show Steps p.tables e below (T116.setTop (mkF m 67 #[.val (.int p1), .val (.int p2), .val (.int p3), .val (.int p4), .val (.int (3 : Int32)), .val (.int (1 : Int32)), .val (.ref b112), .unset, .unset, .unset, .unset] [(.int (3 : Int32))])) t_
        refine XS.ifYes X116.here hx rfl (pc0 := 67) (pc' := 74) rfl (hb hby at_67) rfl ((if0 _ _).trans (feq (by decide : ¬ ((3 : Int32) = (0 : Int32)))).2) (by decide) (by decide) ?_
        show Steps p.tables e below (T116.setTop (mkF m 74 #[.val (.int p1), .val (.int p2), .val (.int p3), .val (.int p4), .val (.int (3 : Int32)), .val (.int (1 : Int32)), .val (.ref b112), .unset, .unset, .unset, .unset] [])) t_
        refine XS.iload X116.here hx rfl (hb hby at_74) rfl ?_
        show Steps p.tables e below (T116.setTop (mkF m 76 #[.val (.int p1), .val (.int p2), .val (.int p3), .val (.int p4), .val (.int (3 : Int32)), .val (.int (1 : Int32)), .val (.ref b112), .unset, .unset, .unset, .unset] [(.int (3 : Int32))])) t_
        refine XS.iconst X116.here hx rfl (hb hby at_76) ?_
        show Steps p.tables e below (T116.setTop (mkF m 77 #[.val (.int p1), .val (.int p2), .val (.int p3), .val (.int p4), .val (.int (3 : Int32)), .val (.int (1 : Int32)), .val (.ref b112), .unset, .unset, .unset, .unset] [(.int (1 : Int32)), (.int (3 : Int32))])) t_
        refine XS.icmpYes X116.here hx rfl (pc0 := 77) (pc' := 84) rfl (hb hby at_77) rfl (feq (by decide : ¬ ((3 : Int32) = (1 : Int32)))).2 (by decide) (by decide) ?_
        show Steps p.tables e below (T116.setTop (mkF m 84 #[.val (.int p1), .val (.int p2), .val (.int p3), .val (.int p4), .val (.int (3 : Int32)), .val (.int (1 : Int32)), .val (.ref b112), .unset, .unset, .unset, .unset] [])) t_
        refine XS.iload X116.here hx rfl (hb hby at_84) rfl ?_
        show Steps p.tables e below (T116.setTop (mkF m 86 #[.val (.int p1), .val (.int p2), .val (.int p3), .val (.int p4), .val (.int (3 : Int32)), .val (.int (1 : Int32)), .val (.ref b112), .unset, .unset, .unset, .unset] [(.int (3 : Int32))])) t_
        refine XS.iconst X116.here hx rfl (hb hby at_86) ?_
        show Steps p.tables e below (T116.setTop (mkF m 87 #[.val (.int p1), .val (.int p2), .val (.int p3), .val (.int p4), .val (.int (3 : Int32)), .val (.int (1 : Int32)), .val (.ref b112), .unset, .unset, .unset, .unset] [(.int (2 : Int32)), (.int (3 : Int32))])) t_
        refine XS.icmpYes X116.here hx rfl (pc0 := 87) (pc' := 94) rfl (hb hby at_87) rfl (feq (by decide : ¬ ((3 : Int32) = (2 : Int32)))).2 (by decide) (by decide) ?_
        show Steps p.tables e below (T116.setTop (mkF m 94 #[.val (.int p1), .val (.int p2), .val (.int p3), .val (.int p4), .val (.int (3 : Int32)), .val (.int (1 : Int32)), .val (.ref b112), .unset, .unset, .unset, .unset] [])) t_
        refine XS.iconst X116.here hx rfl (hb hby at_94) ?_
        show Steps p.tables e below (T116.setTop (mkF m 95 #[.val (.int p1), .val (.int p2), .val (.int p3), .val (.int p4), .val (.int (3 : Int32)), .val (.int (1 : Int32)), .val (.ref b112), .unset, .unset, .unset, .unset] [(.int (4 : Int32))])) t_
        refine XS.istore X116.here hx rfl (hb hby at_95) rfl (l' := #[.val (.int p1), .val (.int p2), .val (.int p3), .val (.int p4), .val (.int (3 : Int32)), .val (.int (1 : Int32)), .val (.ref b112), .val (.int (4 : Int32)), .unset, .unset, .unset]) rfl ?_
        show Steps p.tables e below (T116.setTop (mkF m 97 #[.val (.int p1), .val (.int p2), .val (.int p3), .val (.int p4), .val (.int (3 : Int32)), .val (.int (1 : Int32)), .val (.ref b112), .val (.int (4 : Int32)), .unset, .unset, .unset] [])) t_
        refine XS.aload X116.here hx rfl (hb hby at_97) rfl rfl ?_
        exact k_
      obtain ⟨cq117, kq117, q117a, q117b, q117c⟩ := isOf hZ rfl ((((A112.keep Kc113).keep Kc114).keep Kc115).keep Kc116)
      obtain ⟨_, _, ⟨T117, L117, k117, n117⟩, -, X117, ⟨Lc117, hQ117, l117, y117, z117⟩, st117⟩ := X116.virtualBack hx (y := own_y9) (z := own_y9) hown (mvT hZ (own_w hw 56 rfl)) (mvT hZ (own_w hw 57 rfl)) (notFace_of_selects (args := #[]) (mvT hZ (own_w hw 59 rfl))) (mvT hZ (own_w hw 59 rfl)) (mvT hZ (own_w hw 58 rfl)) (by decide) (backOf (W := 0) (rmTo4 l Z a0 hw [] b112 b_113 k_113 ((p1).toInt8.toInt32) ((((p2).toUInt32 >>> ((8 : Int32) &&& 31).toUInt32).toInt32).toInt8.toInt32) ((p2).toInt8.toInt32) ((p3).toInt8.toInt32) T116.heap n0 (Nat.le_trans Z0 K116.1) ((((A112.keep Kc113).keep Kc114).keep Kc115).keep Kc116) r116_0 r116_1 r116_2) hZ (own_w hw 60 rfl) (own_w hw 2 rfl) (by decide) (by decide)) q117a q117c (g := (mkF m 99 #[.val (.int p1), .val (.int p2), .val (.int p3), .val (.int p4), .val (.int (3 : Int32)), .val (.int (1 : Int32)), .val (.ref b112), .val (.int (4 : Int32)), .unset, .unset, .unset] [(.ref b112)])) rfl (by rw [hml]; rfl) (Steps.refl _) (argsL := []) (rest := []) (lenOf pd_5 rfl) rfl (by show 2 * 0 + _ ≤ _; exact Nat.le_of_eq rfl) (hb hby at_99) (fun _ _ => ⟨rfl, rfl, (by decide : 5 + 1 ≤ _), (by decide : 273 + 4 ≤ _)⟩)
      dsimp only [Pt.U, Pt.locs, Pt.cells, Pt.slots] at X117 l117 y117 z117 st117 hQ117
      subst l117 y117 z117
      obtain ⟨d_117, k2_117, rfl, N117q, Kc117, r117_0, r117_1⟩ := hQ117
      have N117 := Fr.app N116 N117q
      refine own_via st117 ?_
      have K117 : Keep h0 T117.heap [] := K116.trans Kc117 all0
      obtain ⟨cl118, Ar118, q118, S118, M118, H118, G118⟩ := id r117_1
      refine own_go (A := T117.setTop (mkF m 114 #[.val (.int p1), .val (.int p2), .val (.int p3), .val (.int p4), .val (.int (3 : Int32)), .val (.int (1 : Int32)), .val (.ref b112), .val (.int (4 : Int32)), .val (.ref d_117), .unset, .unset] [(.ref b112)])) (fun t_ k_ => ?_) ?_
      · show Steps p.tables e below (T117.setTop (mkF m 102 #[.val (.int p1), .val (.int p2), .val (.int p3), .val (.int p4), .val (.int (3 : Int32)), .val (.int (1 : Int32)), .val (.ref b112), .val (.int (4 : Int32)), .unset, .unset, .unset] [(.ref d_117)])) t_
        refine XS.astore X117.here hx rfl (hb hby at_102) rfl rfl (l' := #[.val (.int p1), .val (.int p2), .val (.int p3), .val (.int p4), .val (.int (3 : Int32)), .val (.int (1 : Int32)), .val (.ref b112), .val (.int (4 : Int32)), .val (.ref d_117), .unset, .unset]) rfl ?_
        show Steps p.tables e below (T117.setTop (mkF m 104 #[.val (.int p1), .val (.int p2), .val (.int p3), .val (.int p4), .val (.int (3 : Int32)), .val (.int (1 : Int32)), .val (.ref b112), .val (.int (4 : Int32)), .val (.ref d_117), .unset, .unset] [])) t_
        refine XS.aload X117.here hx rfl (hb hby at_104) rfl rfl ?_
        show Steps p.tables e below (T117.setTop (mkF m 106 #[.val (.int p1), .val (.int p2), .val (.int p3), .val (.int p4), .val (.int (3 : Int32)), .val (.int (1 : Int32)), .val (.ref b112), .val (.int (4 : Int32)), .val (.ref d_117), .unset, .unset] [(.ref d_117)])) t_
        refine X117.arraylength hx Ar118.1 (State.isArrayOf_alike hZ.alike Ar118.2.1) (g := (mkF m 106 #[.val (.int p1), .val (.int p2), .val (.int p3), .val (.int p4), .val (.int (3 : Int32)), .val (.int (1 : Int32)), .val (.ref b112), .val (.int (4 : Int32)), .val (.ref d_117), .unset, .unset] [(.ref d_117)])) rfl rfl (hb hby at_106) _ ?_
        rw [len_of S118 M118]
        show Steps p.tables e below (T117.setTop (mkF m 107 #[.val (.int p1), .val (.int p2), .val (.int p3), .val (.int p4), .val (.int (3 : Int32)), .val (.int (1 : Int32)), .val (.ref b112), .val (.int (4 : Int32)), .val (.ref d_117), .unset, .unset] [(.int (4 : Int32))])) t_
        refine XS.iload X117.here hx rfl (hb hby at_107) rfl ?_
        show Steps p.tables e below (T117.setTop (mkF m 109 #[.val (.int p1), .val (.int p2), .val (.int p3), .val (.int p4), .val (.int (3 : Int32)), .val (.int (1 : Int32)), .val (.ref b112), .val (.int (4 : Int32)), .val (.ref d_117), .unset, .unset] [(.int (4 : Int32)), (.int (4 : Int32))])) t_
        refine XS.icmpNo X117.here hx rfl (hb hby at_109) rfl (teq (by decide : (4 : Int32) = (4 : Int32))).2 ?_
        show Steps p.tables e below (T117.setTop (mkF m 112 #[.val (.int p1), .val (.int p2), .val (.int p3), .val (.int p4), .val (.int (3 : Int32)), .val (.int (1 : Int32)), .val (.ref b112), .val (.int (4 : Int32)), .val (.ref d_117), .unset, .unset] [])) t_
        refine XS.aload X117.here hx rfl (hb hby at_112) rfl rfl ?_
        exact k_
      obtain ⟨cq119, kq119, q119a, q119b, q119c⟩ := isOf hZ rfl (((((A112.keep Kc113).keep Kc114).keep Kc115).keep Kc116).keep Kc117)
      obtain ⟨_, _, ⟨T119, L119, k119, n119⟩, -, X119, ⟨Lc119, hQ119, l119, y119, z119⟩, st119⟩ := X117.virtualBack hx (y := own_y10) (z := own_y10) hown (mvT hZ (own_w hw 73 rfl)) (mvT hZ (own_w hw 74 rfl)) (notFace_of_selects (args := #[]) (mvT hZ (own_w hw 76 rfl))) (mvT hZ (own_w hw 76 rfl)) (mvT hZ (own_w hw 75 rfl)) (by decide) (backOf (W := 0) (rmSize l Z a0 hw [] b112 (4 : Int32) T117.heap n0 (Nat.le_trans Z0 K117.1) (r116_1.keep Kc117 nin0)) hZ (own_w hw 77 rfl) (own_w hw 2 rfl) (by decide) (by decide)) q119a q119c (g := (mkF m 114 #[.val (.int p1), .val (.int p2), .val (.int p3), .val (.int p4), .val (.int (3 : Int32)), .val (.int (1 : Int32)), .val (.ref b112), .val (.int (4 : Int32)), .val (.ref d_117), .unset, .unset] [(.ref b112)])) rfl (by rw [hml]; rfl) (Steps.refl _) (argsL := []) (rest := []) (lenOf pd_6 rfl) rfl (by show 2 * 0 + _ ≤ _; exact Nat.le_of_eq rfl) (hb hby at_114) (fun _ _ => ⟨rfl, rfl, (by decide : 6 + 0 ≤ _), (by decide : 277 + 0 ≤ _)⟩)
      dsimp only [Pt.U, Pt.locs, Pt.cells, Pt.slots] at X119 l119 y119 z119 st119 hQ119
      subst l119 y119 z119
      obtain ⟨rfl, N119q, eh119⟩ := hQ119
      have N119 := Fr.app N117 N119q
      refine own_via st119 ?_
      obtain ⟨cl120, Ar120, q120, S120, M120, H120, G120⟩ := id r117_1
      have hin120 : ¬ ((0 : Int32) < 0 ∨ cl120.slots.size ≤ ((0 : Int32)).toNatClampNeg) := inb_of S120 ⟨by decide, by decide⟩
      have hat120 : cl120.slots[((0 : Int32)).toNatClampNeg]? = some (.int (p1).toInt8.toInt32) := Has.at H120 hin120 rfl
      obtain ⟨cl121, Ar121, q121, S121, M121, H121, G121⟩ := id r117_1
      have hin121 : ¬ ((1 : Int32) < 0 ∨ cl121.slots.size ≤ ((1 : Int32)).toNatClampNeg) := inb_of S121 ⟨by decide, by decide⟩
      have hat121 : cl121.slots[((1 : Int32)).toNatClampNeg]? = some (.int (((p2).toUInt32 >>> ((8 : Int32) &&& 31).toUInt32).toInt32).toInt8.toInt32) := Has.at H121 hin121 rfl
      obtain ⟨cl122, Ar122, q122, S122, M122, H122, G122⟩ := id r117_1
      have hin122 : ¬ ((2 : Int32) < 0 ∨ cl122.slots.size ≤ ((2 : Int32)).toNatClampNeg) := inb_of S122 ⟨by decide, by decide⟩
      have hat122 : cl122.slots[((2 : Int32)).toNatClampNeg]? = some (.int (p2).toInt8.toInt32) := Has.at H122 hin122 rfl
      obtain ⟨cl123, Ar123, q123, S123, M123, H123, G123⟩ := id r117_1
      have hin123 : ¬ ((3 : Int32) < 0 ∨ cl123.slots.size ≤ ((3 : Int32)).toNatClampNeg) := inb_of S123 ⟨by decide, by decide⟩
      have hat123 : cl123.slots[((3 : Int32)).toNatClampNeg]? = some (.int (p3).toInt8.toInt32) := Has.at H123 hin123 rfl
      obtain ⟨cl124, Ar124, q124, S124, M124, H124, G124⟩ := id r117_1
      have hin124 : ¬ ((0 : Int32) < 0 ∨ cl124.slots.size ≤ ((0 : Int32)).toNatClampNeg) := inb_of S124 ⟨by decide, by decide⟩
      have hat124 : cl124.slots[((0 : Int32)).toNatClampNeg]? = some (.int (p1).toInt8.toInt32) := Has.at H124 hin124 rfl
      refine own_go (A := T119.setTop (mkF m 202 #[.val (.int p1), .val (.int p2), .val (.int p3), .val (.int p4), .val (.int (3 : Int32)), .val (.int (1 : Int32)), .val (.ref b112), .val (.int (4 : Int32)), .val (.ref d_117), .unset, .unset] [(.int (((p1).toInt8.toInt32 ^^^ (1 : Int32))).toInt8.toInt32), (.int (0 : Int32)), (.ref d_117)])) (fun t_ k_ => ?_) ?_
      · show Steps p.tables e below (T119.setTop (mkF m 117 #[.val (.int p1), .val (.int p2), .val (.int p3), .val (.int p4), .val (.int (3 : Int32)), .val (.int (1 : Int32)), .val (.ref b112), .val (.int (4 : Int32)), .val (.ref d_117), .unset, .unset] [(.int (4 : Int32))])) t_
        refine XS.iload X119.here hx rfl (hb hby at_117) rfl ?_
        show Steps p.tables e below (T119.setTop (mkF m 119 #[.val (.int p1), .val (.int p2), .val (.int p3), .val (.int p4), .val (.int (3 : Int32)), .val (.int (1 : Int32)), .val (.ref b112), .val (.int (4 : Int32)), .val (.ref d_117), .unset, .unset] [(.int (4 : Int32)), (.int (4 : Int32))])) t_
        refine XS.icmpYes X119.here hx rfl (pc0 := 119) (pc' := 124) rfl (hb hby at_119) rfl (teq (by decide : (4 : Int32) = (4 : Int32))).1 (by decide) (by decide) ?_
        show Steps p.tables e below (T119.setTop (mkF m 124 #[.val (.int p1), .val (.int p2), .val (.int p3), .val (.int p4), .val (.int (3 : Int32)), .val (.int (1 : Int32)), .val (.ref b112), .val (.int (4 : Int32)), .val (.ref d_117), .unset, .unset] [])) t_
        refine XS.iload X119.here hx rfl (hb hby at_124) rfl ?_
        show Steps p.tables e below (T119.setTop (mkF m 126 #[.val (.int p1), .val (.int p2), .val (.int p3), .val (.int p4), .val (.int (3 : Int32)), .val (.int (1 : Int32)), .val (.ref b112), .val (.int (4 : Int32)), .val (.ref d_117), .unset, .unset] [(.int (3 : Int32))])) t_
        refine XS.iconst X119.here hx rfl (hb hby at_126) ?_
        show Steps p.tables e below (T119.setTop (mkF m 127 #[.val (.int p1), .val (.int p2), .val (.int p3), .val (.int p4), .val (.int (3 : Int32)), .val (.int (1 : Int32)), .val (.ref b112), .val (.int (4 : Int32)), .val (.ref d_117), .unset, .unset] [(.int (1 : Int32)), (.int (3 : Int32))])) t_
        refine XS.icmpNo X119.here hx rfl (hb hby at_127) rfl (flt (by decide : ¬ ((3 : Int32) < (1 : Int32)))).1 ?_
        show Steps p.tables e below (T119.setTop (mkF m 130 #[.val (.int p1), .val (.int p2), .val (.int p3), .val (.int p4), .val (.int (3 : Int32)), .val (.int (1 : Int32)), .val (.ref b112), .val (.int (4 : Int32)), .val (.ref d_117), .unset, .unset] [])) t_
        refine XS.aload X119.here hx rfl (hb hby at_130) rfl rfl ?_
        show Steps p.tables e below (T119.setTop (mkF m 132 #[.val (.int p1), .val (.int p2), .val (.int p3), .val (.int p4), .val (.int (3 : Int32)), .val (.int (1 : Int32)), .val (.ref b112), .val (.int (4 : Int32)), .val (.ref d_117), .unset, .unset] [(.ref d_117)])) t_
        refine XS.iconst X119.here hx rfl (hb hby at_132) ?_
        show Steps p.tables e below (T119.setTop (mkF m 133 #[.val (.int p1), .val (.int p2), .val (.int p3), .val (.int p4), .val (.int (3 : Int32)), .val (.int (1 : Int32)), .val (.ref b112), .val (.int (4 : Int32)), .val (.ref d_117), .unset, .unset] [(.int (0 : Int32)), (.ref d_117)])) t_
        refine X119.baloadBytes hx (j := (0 : Int32)) (v := (.int (p1).toInt8.toInt32)) (by rw [eh119]; exact Ar120.1) (State.isArrayOf_alike hZ.alike Ar120.2.1) Ar120.2.2 hin120 hat120 (g := (mkF m 133 #[.val (.int p1), .val (.int p2), .val (.int p3), .val (.int p4), .val (.int (3 : Int32)), .val (.int (1 : Int32)), .val (.ref b112), .val (.int (4 : Int32)), .val (.ref d_117), .unset, .unset] [(.int (0 : Int32)), (.ref d_117)])) rfl rfl (hb hby at_133) _ ?_
        show Steps p.tables e below (T119.setTop (mkF m 134 #[.val (.int p1), .val (.int p2), .val (.int p3), .val (.int p4), .val (.int (3 : Int32)), .val (.int (1 : Int32)), .val (.ref b112), .val (.int (4 : Int32)), .val (.ref d_117), .unset, .unset] [(.int (p1).toInt8.toInt32)])) t_
        refine XS.iloadN X119.here hx rfl (hb hby at_134) rfl ?_
        show Steps p.tables e below (T119.setTop (mkF m 135 #[.val (.int p1), .val (.int p2), .val (.int p3), .val (.int p4), .val (.int (3 : Int32)), .val (.int (1 : Int32)), .val (.ref b112), .val (.int (4 : Int32)), .val (.ref d_117), .unset, .unset] [(.int p1), (.int (p1).toInt8.toInt32)])) t_
        refine XS.i2b X119.here hx rfl (hb hby at_135) rfl ?_
        show Steps p.tables e below (T119.setTop (mkF m 136 #[.val (.int p1), .val (.int p2), .val (.int p3), .val (.int p4), .val (.int (3 : Int32)), .val (.int (1 : Int32)), .val (.ref b112), .val (.int (4 : Int32)), .val (.ref d_117), .unset, .unset] [(.int (p1).toInt8.toInt32), (.int (p1).toInt8.toInt32)])) t_
        refine XS.icmpYes X119.here hx rfl (pc0 := 136) (pc' := 141) rfl (hb hby at_136) rfl (teq (rfl : (p1).toInt8.toInt32 = (p1).toInt8.toInt32)).1 (by decide) (by decide) ?_
        show Steps p.tables e below (T119.setTop (mkF m 141 #[.val (.int p1), .val (.int p2), .val (.int p3), .val (.int p4), .val (.int (3 : Int32)), .val (.int (1 : Int32)), .val (.ref b112), .val (.int (4 : Int32)), .val (.ref d_117), .unset, .unset] [])) t_
        refine XS.iload X119.here hx rfl (hb hby at_141) rfl ?_
        show Steps p.tables e below (T119.setTop (mkF m 143 #[.val (.int p1), .val (.int p2), .val (.int p3), .val (.int p4), .val (.int (3 : Int32)), .val (.int (1 : Int32)), .val (.ref b112), .val (.int (4 : Int32)), .val (.ref d_117), .unset, .unset] [(.int (3 : Int32))])) t_
        refine XS.iconst X119.here hx rfl (hb hby at_143) ?_
        show Steps p.tables e below (T119.setTop (mkF m 144 #[.val (.int p1), .val (.int p2), .val (.int p3), .val (.int p4), .val (.int (3 : Int32)), .val (.int (1 : Int32)), .val (.ref b112), .val (.int (4 : Int32)), .val (.ref d_117), .unset, .unset] [(.int (2 : Int32)), (.int (3 : Int32))])) t_
        refine XS.icmpNo X119.here hx rfl (hb hby at_144) rfl (flt (by decide : ¬ ((3 : Int32) < (2 : Int32)))).1 ?_
        show Steps p.tables e below (T119.setTop (mkF m 147 #[.val (.int p1), .val (.int p2), .val (.int p3), .val (.int p4), .val (.int (3 : Int32)), .val (.int (1 : Int32)), .val (.ref b112), .val (.int (4 : Int32)), .val (.ref d_117), .unset, .unset] [])) t_
        refine XS.aload X119.here hx rfl (hb hby at_147) rfl rfl ?_
        show Steps p.tables e below (T119.setTop (mkF m 149 #[.val (.int p1), .val (.int p2), .val (.int p3), .val (.int p4), .val (.int (3 : Int32)), .val (.int (1 : Int32)), .val (.ref b112), .val (.int (4 : Int32)), .val (.ref d_117), .unset, .unset] [(.ref d_117)])) t_
        refine XS.iconst X119.here hx rfl (hb hby at_149) ?_
        show Steps p.tables e below (T119.setTop (mkF m 150 #[.val (.int p1), .val (.int p2), .val (.int p3), .val (.int p4), .val (.int (3 : Int32)), .val (.int (1 : Int32)), .val (.ref b112), .val (.int (4 : Int32)), .val (.ref d_117), .unset, .unset] [(.int (1 : Int32)), (.ref d_117)])) t_
        refine X119.baloadBytes hx (j := (1 : Int32)) (v := (.int (((p2).toUInt32 >>> ((8 : Int32) &&& 31).toUInt32).toInt32).toInt8.toInt32)) (by rw [eh119]; exact Ar121.1) (State.isArrayOf_alike hZ.alike Ar121.2.1) Ar121.2.2 hin121 hat121 (g := (mkF m 150 #[.val (.int p1), .val (.int p2), .val (.int p3), .val (.int p4), .val (.int (3 : Int32)), .val (.int (1 : Int32)), .val (.ref b112), .val (.int (4 : Int32)), .val (.ref d_117), .unset, .unset] [(.int (1 : Int32)), (.ref d_117)])) rfl rfl (hb hby at_150) _ ?_
        show Steps p.tables e below (T119.setTop (mkF m 151 #[.val (.int p1), .val (.int p2), .val (.int p3), .val (.int p4), .val (.int (3 : Int32)), .val (.int (1 : Int32)), .val (.ref b112), .val (.int (4 : Int32)), .val (.ref d_117), .unset, .unset] [(.int (((p2).toUInt32 >>> ((8 : Int32) &&& 31).toUInt32).toInt32).toInt8.toInt32)])) t_
        refine XS.iloadN X119.here hx rfl (hb hby at_151) rfl ?_
        show Steps p.tables e below (T119.setTop (mkF m 152 #[.val (.int p1), .val (.int p2), .val (.int p3), .val (.int p4), .val (.int (3 : Int32)), .val (.int (1 : Int32)), .val (.ref b112), .val (.int (4 : Int32)), .val (.ref d_117), .unset, .unset] [(.int p2), (.int (((p2).toUInt32 >>> ((8 : Int32) &&& 31).toUInt32).toInt32).toInt8.toInt32)])) t_
        refine XS.bipush X119.here hx rfl (hb hby at_152) ?_
        show Steps p.tables e below (T119.setTop (mkF m 154 #[.val (.int p1), .val (.int p2), .val (.int p3), .val (.int p4), .val (.int (3 : Int32)), .val (.int (1 : Int32)), .val (.ref b112), .val (.int (4 : Int32)), .val (.ref d_117), .unset, .unset] [(.int (8 : Int32)), (.int p2), (.int (((p2).toUInt32 >>> ((8 : Int32) &&& 31).toUInt32).toInt32).toInt8.toInt32)])) t_
        refine XS.iushr X119.here hx rfl (hb hby at_154) rfl ?_
        show Steps p.tables e below (T119.setTop (mkF m 155 #[.val (.int p1), .val (.int p2), .val (.int p3), .val (.int p4), .val (.int (3 : Int32)), .val (.int (1 : Int32)), .val (.ref b112), .val (.int (4 : Int32)), .val (.ref d_117), .unset, .unset] [(.int ((p2).toUInt32 >>> ((8 : Int32) &&& 31).toUInt32).toInt32), (.int (((p2).toUInt32 >>> ((8 : Int32) &&& 31).toUInt32).toInt32).toInt8.toInt32)])) t_
        refine XS.i2b X119.here hx rfl (hb hby at_155) rfl ?_
        show Steps p.tables e below (T119.setTop (mkF m 156 #[.val (.int p1), .val (.int p2), .val (.int p3), .val (.int p4), .val (.int (3 : Int32)), .val (.int (1 : Int32)), .val (.ref b112), .val (.int (4 : Int32)), .val (.ref d_117), .unset, .unset] [(.int (((p2).toUInt32 >>> ((8 : Int32) &&& 31).toUInt32).toInt32).toInt8.toInt32), (.int (((p2).toUInt32 >>> ((8 : Int32) &&& 31).toUInt32).toInt32).toInt8.toInt32)])) t_
        refine XS.icmpNo X119.here hx rfl (hb hby at_156) rfl (teq (rfl : (((p2).toUInt32 >>> ((8 : Int32) &&& 31).toUInt32).toInt32).toInt8.toInt32 = (((p2).toUInt32 >>> ((8 : Int32) &&& 31).toUInt32).toInt32).toInt8.toInt32)).2 ?_
        show Steps p.tables e below (T119.setTop (mkF m 159 #[.val (.int p1), .val (.int p2), .val (.int p3), .val (.int p4), .val (.int (3 : Int32)), .val (.int (1 : Int32)), .val (.ref b112), .val (.int (4 : Int32)), .val (.ref d_117), .unset, .unset] [])) t_
        refine XS.aload X119.here hx rfl (hb hby at_159) rfl rfl ?_
        show Steps p.tables e below (T119.setTop (mkF m 161 #[.val (.int p1), .val (.int p2), .val (.int p3), .val (.int p4), .val (.int (3 : Int32)), .val (.int (1 : Int32)), .val (.ref b112), .val (.int (4 : Int32)), .val (.ref d_117), .unset, .unset] [(.ref d_117)])) t_
        refine XS.iconst X119.here hx rfl (hb hby at_161) ?_
        show Steps p.tables e below (T119.setTop (mkF m 162 #[.val (.int p1), .val (.int p2), .val (.int p3), .val (.int p4), .val (.int (3 : Int32)), .val (.int (1 : Int32)), .val (.ref b112), .val (.int (4 : Int32)), .val (.ref d_117), .unset, .unset] [(.int (2 : Int32)), (.ref d_117)])) t_
        refine X119.baloadBytes hx (j := (2 : Int32)) (v := (.int (p2).toInt8.toInt32)) (by rw [eh119]; exact Ar122.1) (State.isArrayOf_alike hZ.alike Ar122.2.1) Ar122.2.2 hin122 hat122 (g := (mkF m 162 #[.val (.int p1), .val (.int p2), .val (.int p3), .val (.int p4), .val (.int (3 : Int32)), .val (.int (1 : Int32)), .val (.ref b112), .val (.int (4 : Int32)), .val (.ref d_117), .unset, .unset] [(.int (2 : Int32)), (.ref d_117)])) rfl rfl (hb hby at_162) _ ?_
        show Steps p.tables e below (T119.setTop (mkF m 163 #[.val (.int p1), .val (.int p2), .val (.int p3), .val (.int p4), .val (.int (3 : Int32)), .val (.int (1 : Int32)), .val (.ref b112), .val (.int (4 : Int32)), .val (.ref d_117), .unset, .unset] [(.int (p2).toInt8.toInt32)])) t_
        refine XS.iloadN X119.here hx rfl (hb hby at_163) rfl ?_
        show Steps p.tables e below (T119.setTop (mkF m 164 #[.val (.int p1), .val (.int p2), .val (.int p3), .val (.int p4), .val (.int (3 : Int32)), .val (.int (1 : Int32)), .val (.ref b112), .val (.int (4 : Int32)), .val (.ref d_117), .unset, .unset] [(.int p2), (.int (p2).toInt8.toInt32)])) t_
        refine XS.i2b X119.here hx rfl (hb hby at_164) rfl ?_
        show Steps p.tables e below (T119.setTop (mkF m 165 #[.val (.int p1), .val (.int p2), .val (.int p3), .val (.int p4), .val (.int (3 : Int32)), .val (.int (1 : Int32)), .val (.ref b112), .val (.int (4 : Int32)), .val (.ref d_117), .unset, .unset] [(.int (p2).toInt8.toInt32), (.int (p2).toInt8.toInt32)])) t_
        refine XS.icmpYes X119.here hx rfl (pc0 := 165) (pc' := 170) rfl (hb hby at_165) rfl (teq (rfl : (p2).toInt8.toInt32 = (p2).toInt8.toInt32)).1 (by decide) (by decide) ?_
        show Steps p.tables e below (T119.setTop (mkF m 170 #[.val (.int p1), .val (.int p2), .val (.int p3), .val (.int p4), .val (.int (3 : Int32)), .val (.int (1 : Int32)), .val (.ref b112), .val (.int (4 : Int32)), .val (.ref d_117), .unset, .unset] [])) t_
        refine XS.iload X119.here hx rfl (hb hby at_170) rfl ?_
        show Steps p.tables e below (T119.setTop (mkF m 172 #[.val (.int p1), .val (.int p2), .val (.int p3), .val (.int p4), .val (.int (3 : Int32)), .val (.int (1 : Int32)), .val (.ref b112), .val (.int (4 : Int32)), .val (.ref d_117), .unset, .unset] [(.int (3 : Int32))])) t_
        refine XS.iconst X119.here hx rfl (hb hby at_172) ?_
        show Steps p.tables e below (T119.setTop (mkF m 173 #[.val (.int p1), .val (.int p2), .val (.int p3), .val (.int p4), .val (.int (3 : Int32)), .val (.int (1 : Int32)), .val (.ref b112), .val (.int (4 : Int32)), .val (.ref d_117), .unset, .unset] [(.int (3 : Int32)), (.int (3 : Int32))])) t_
        refine XS.icmpNo X119.here hx rfl (hb hby at_173) rfl (flt (by decide : ¬ ((3 : Int32) < (3 : Int32)))).1 ?_
        show Steps p.tables e below (T119.setTop (mkF m 176 #[.val (.int p1), .val (.int p2), .val (.int p3), .val (.int p4), .val (.int (3 : Int32)), .val (.int (1 : Int32)), .val (.ref b112), .val (.int (4 : Int32)), .val (.ref d_117), .unset, .unset] [])) t_
        refine XS.aload X119.here hx rfl (hb hby at_176) rfl rfl ?_
        show Steps p.tables e below (T119.setTop (mkF m 178 #[.val (.int p1), .val (.int p2), .val (.int p3), .val (.int p4), .val (.int (3 : Int32)), .val (.int (1 : Int32)), .val (.ref b112), .val (.int (4 : Int32)), .val (.ref d_117), .unset, .unset] [(.ref d_117)])) t_
        refine XS.iconst X119.here hx rfl (hb hby at_178) ?_
        show Steps p.tables e below (T119.setTop (mkF m 179 #[.val (.int p1), .val (.int p2), .val (.int p3), .val (.int p4), .val (.int (3 : Int32)), .val (.int (1 : Int32)), .val (.ref b112), .val (.int (4 : Int32)), .val (.ref d_117), .unset, .unset] [(.int (3 : Int32)), (.ref d_117)])) t_
        refine X119.baloadBytes hx (j := (3 : Int32)) (v := (.int (p3).toInt8.toInt32)) (by rw [eh119]; exact Ar123.1) (State.isArrayOf_alike hZ.alike Ar123.2.1) Ar123.2.2 hin123 hat123 (g := (mkF m 179 #[.val (.int p1), .val (.int p2), .val (.int p3), .val (.int p4), .val (.int (3 : Int32)), .val (.int (1 : Int32)), .val (.ref b112), .val (.int (4 : Int32)), .val (.ref d_117), .unset, .unset] [(.int (3 : Int32)), (.ref d_117)])) rfl rfl (hb hby at_179) _ ?_
        show Steps p.tables e below (T119.setTop (mkF m 180 #[.val (.int p1), .val (.int p2), .val (.int p3), .val (.int p4), .val (.int (3 : Int32)), .val (.int (1 : Int32)), .val (.ref b112), .val (.int (4 : Int32)), .val (.ref d_117), .unset, .unset] [(.int (p3).toInt8.toInt32)])) t_
        refine XS.iloadN X119.here hx rfl (hb hby at_180) rfl ?_
        show Steps p.tables e below (T119.setTop (mkF m 181 #[.val (.int p1), .val (.int p2), .val (.int p3), .val (.int p4), .val (.int (3 : Int32)), .val (.int (1 : Int32)), .val (.ref b112), .val (.int (4 : Int32)), .val (.ref d_117), .unset, .unset] [(.int p3), (.int (p3).toInt8.toInt32)])) t_
        refine XS.i2b X119.here hx rfl (hb hby at_181) rfl ?_
        show Steps p.tables e below (T119.setTop (mkF m 182 #[.val (.int p1), .val (.int p2), .val (.int p3), .val (.int p4), .val (.int (3 : Int32)), .val (.int (1 : Int32)), .val (.ref b112), .val (.int (4 : Int32)), .val (.ref d_117), .unset, .unset] [(.int (p3).toInt8.toInt32), (.int (p3).toInt8.toInt32)])) t_
        refine XS.icmpYes X119.here hx rfl (pc0 := 182) (pc' := 187) rfl (hb hby at_182) rfl (teq (rfl : (p3).toInt8.toInt32 = (p3).toInt8.toInt32)).1 (by decide) (by decide) ?_
        show Steps p.tables e below (T119.setTop (mkF m 187 #[.val (.int p1), .val (.int p2), .val (.int p3), .val (.int p4), .val (.int (3 : Int32)), .val (.int (1 : Int32)), .val (.ref b112), .val (.int (4 : Int32)), .val (.ref d_117), .unset, .unset] [])) t_
        refine XS.iload X119.here hx rfl (hb hby at_187) rfl ?_
        show Steps p.tables e below (T119.setTop (mkF m 189 #[.val (.int p1), .val (.int p2), .val (.int p3), .val (.int p4), .val (.int (3 : Int32)), .val (.int (1 : Int32)), .val (.ref b112), .val (.int (4 : Int32)), .val (.ref d_117), .unset, .unset] [(.int (4 : Int32))])) t_
        refine XS.ifNo X119.here hx rfl (hb hby at_189) rfl ((if0 _ _).trans (tlt (by decide : (0 : Int32) < (4 : Int32))).2.2.2) ?_
        show Steps p.tables e below (T119.setTop (mkF m 192 #[.val (.int p1), .val (.int p2), .val (.int p3), .val (.int p4), .val (.int (3 : Int32)), .val (.int (1 : Int32)), .val (.ref b112), .val (.int (4 : Int32)), .val (.ref d_117), .unset, .unset] [])) t_
        refine XS.aload X119.here hx rfl (hb hby at_192) rfl rfl ?_
        show Steps p.tables e below (T119.setTop (mkF m 194 #[.val (.int p1), .val (.int p2), .val (.int p3), .val (.int p4), .val (.int (3 : Int32)), .val (.int (1 : Int32)), .val (.ref b112), .val (.int (4 : Int32)), .val (.ref d_117), .unset, .unset] [(.ref d_117)])) t_
        refine XS.iconst X119.here hx rfl (hb hby at_194) ?_
        show Steps p.tables e below (T119.setTop (mkF m 195 #[.val (.int p1), .val (.int p2), .val (.int p3), .val (.int p4), .val (.int (3 : Int32)), .val (.int (1 : Int32)), .val (.ref b112), .val (.int (4 : Int32)), .val (.ref d_117), .unset, .unset] [(.int (0 : Int32)), (.ref d_117)])) t_
        refine XS.aload X119.here hx rfl (hb hby at_195) rfl rfl ?_
        show Steps p.tables e below (T119.setTop (mkF m 197 #[.val (.int p1), .val (.int p2), .val (.int p3), .val (.int p4), .val (.int (3 : Int32)), .val (.int (1 : Int32)), .val (.ref b112), .val (.int (4 : Int32)), .val (.ref d_117), .unset, .unset] [(.ref d_117), (.int (0 : Int32)), (.ref d_117)])) t_
        refine XS.iconst X119.here hx rfl (hb hby at_197) ?_
        show Steps p.tables e below (T119.setTop (mkF m 198 #[.val (.int p1), .val (.int p2), .val (.int p3), .val (.int p4), .val (.int (3 : Int32)), .val (.int (1 : Int32)), .val (.ref b112), .val (.int (4 : Int32)), .val (.ref d_117), .unset, .unset] [(.int (0 : Int32)), (.ref d_117), (.int (0 : Int32)), (.ref d_117)])) t_
        refine X119.baloadBytes hx (j := (0 : Int32)) (v := (.int (p1).toInt8.toInt32)) (by rw [eh119]; exact Ar124.1) (State.isArrayOf_alike hZ.alike Ar124.2.1) Ar124.2.2 hin124 hat124 (g := (mkF m 198 #[.val (.int p1), .val (.int p2), .val (.int p3), .val (.int p4), .val (.int (3 : Int32)), .val (.int (1 : Int32)), .val (.ref b112), .val (.int (4 : Int32)), .val (.ref d_117), .unset, .unset] [(.int (0 : Int32)), (.ref d_117), (.int (0 : Int32)), (.ref d_117)])) rfl rfl (hb hby at_198) _ ?_
        show Steps p.tables e below (T119.setTop (mkF m 199 #[.val (.int p1), .val (.int p2), .val (.int p3), .val (.int p4), .val (.int (3 : Int32)), .val (.int (1 : Int32)), .val (.ref b112), .val (.int (4 : Int32)), .val (.ref d_117), .unset, .unset] [(.int (p1).toInt8.toInt32), (.int (0 : Int32)), (.ref d_117)])) t_
        refine XS.iconst X119.here hx rfl (hb hby at_199) ?_
        show Steps p.tables e below (T119.setTop (mkF m 200 #[.val (.int p1), .val (.int p2), .val (.int p3), .val (.int p4), .val (.int (3 : Int32)), .val (.int (1 : Int32)), .val (.ref b112), .val (.int (4 : Int32)), .val (.ref d_117), .unset, .unset] [(.int (1 : Int32)), (.int (p1).toInt8.toInt32), (.int (0 : Int32)), (.ref d_117)])) t_
        refine XS.ixor X119.here hx rfl (hb hby at_200) rfl ?_
        show Steps p.tables e below (T119.setTop (mkF m 201 #[.val (.int p1), .val (.int p2), .val (.int p3), .val (.int p4), .val (.int (3 : Int32)), .val (.int (1 : Int32)), .val (.ref b112), .val (.int (4 : Int32)), .val (.ref d_117), .unset, .unset] [(.int ((p1).toInt8.toInt32 ^^^ (1 : Int32))), (.int (0 : Int32)), (.ref d_117)])) t_
        refine XS.i2b X119.here hx rfl (hb hby at_201) rfl ?_
        exact k_
      obtain ⟨cl125, Ar125, q125, S125, M125, H125, G125⟩ := id r117_1
      have hin125 : ¬ ((0 : Int32) < 0 ∨ cl125.slots.size ≤ ((0 : Int32)).toNatClampNeg) := inb_of S125 ⟨by decide, by decide⟩
      obtain ⟨T126, h126, X126, e126, W126, st126⟩ := stB X119 hx hZ eh119 Ar125 (j := (0 : Int32)) hin125 (g := (mkF m 202 #[.val (.int p1), .val (.int p2), .val (.int p3), .val (.int p4), .val (.int (3 : Int32)), .val (.int (1 : Int32)), .val (.ref b112), .val (.int (4 : Int32)), .val (.ref d_117), .unset, .unset] [(.int (((p1).toInt8.toInt32 ^^^ (1 : Int32))).toInt8.toInt32), (.int (0 : Int32)), (.ref d_117)])) rfl rfl (hb hby at_202)
      rw [own_narb] at W126
      have B126 : Arv Z h126 d_117 k2_117 .byte (4 : Int32) [(.int (((p1).toInt8.toInt32 ^^^ (1 : Int32))).toInt8.toInt32), (.int (((p2).toUInt32 >>> ((8 : Int32) &&& 31).toUInt32).toInt32).toInt8.toInt32), (.int (p2).toInt8.toInt32), (.int (p3).toInt8.toInt32)] (.int (0 : Int32)) := Arv.set Ar125 q125 S125 M125 H125 G125 (fits_nar_byte _) W126 0 rfl (Nat.le_of_ble_eq_true rfl)
      refine own_go st126 ?_
      have K126 : Keep h0 h126 [] := K117.wr W126 (Or.inr (Nat.le_trans K116.1 r117_0))
      have N126 := Fr.snoc X126 N119 (Nat.le_trans Z0 (Nat.le_trans K116.1 r117_0))
      refine own_go (A := T126.setTop (mkF m 205 #[.val (.int p1), .val (.int p2), .val (.int p3), .val (.int p4), .val (.int (3 : Int32)), .val (.int (1 : Int32)), .val (.ref b112), .val (.int (4 : Int32)), .val (.ref d_117), .unset, .unset] [(.ref b112)])) (fun t_ k_ => ?_) ?_
      · show Steps p.tables e below (T126.setTop (mkF m 203 #[.val (.int p1), .val (.int p2), .val (.int p3), .val (.int p4), .val (.int (3 : Int32)), .val (.int (1 : Int32)), .val (.ref b112), .val (.int (4 : Int32)), .val (.ref d_117), .unset, .unset] [])) t_
        refine XS.aload X126.here hx rfl (hb hby at_203) rfl rfl ?_
        exact k_
      obtain ⟨cq127, kq127, q127a, q127b, q127c⟩ := isOf hZ e126 ((((((A112.keep Kc113).keep Kc114).keep Kc115).keep Kc116).keep Kc117).wr W126)
      obtain ⟨_, _, ⟨T127, L127, k127, n127⟩, -, X127, ⟨Lc127, hQ127, l127, y127, z127⟩, st127⟩ := X126.virtualBack hx (y := own_y9) (z := own_y9) hown (mvT hZ (own_w hw 56 rfl)) (mvT hZ (own_w hw 57 rfl)) (notFace_of_selects (args := #[]) (mvT hZ (own_w hw 59 rfl))) (mvT hZ (own_w hw 59 rfl)) (mvT hZ (own_w hw 58 rfl)) (by decide) (backOf (W := 0) (rmTo4 l Z a0 hw [] b112 b_113 k_113 ((p1).toInt8.toInt32) ((((p2).toUInt32 >>> ((8 : Int32) &&& 31).toUInt32).toInt32).toInt8.toInt32) ((p2).toInt8.toInt32) ((p3).toInt8.toInt32) h126 n0 (Nat.le_trans Z0 K126.1) ((((((A112.keep Kc113).keep Kc114).keep Kc115).keep Kc116).keep Kc117).wr W126) ((r116_0.keep Kc117 nin0).other W126 (Or.inl (Nat.ne_of_lt (Nat.lt_of_lt_of_le (Nat.lt_of_lt_of_le (Nat.lt_of_lt_of_le (Nat.lt_of_lt_of_le (Nat.lt_of_lt_of_le A112.lt Kc113.1) Kc114.1) Kc115.1) Kc116.1) r117_0)))) ((r116_1.keep Kc117 nin0).other W126 (Or.inl (Nat.ne_of_lt (Nat.lt_of_lt_of_le (Nat.lt_of_lt_of_le (Nat.lt_of_lt_of_le (Nat.lt_of_lt_of_le (Nat.lt_of_lt_of_le A112.lt Kc113.1) Kc114.1) Kc115.1) Kc116.1) r117_0)))) ((r116_2.keep Kc117 nin0).other W126 (Nat.ne_of_lt (Nat.lt_of_lt_of_le (Nat.lt_of_lt_of_le (Nat.lt_of_lt_of_le (Nat.lt_of_lt_of_le r113_3.lt Kc114.1) Kc115.1) Kc116.1) r117_0)))) hZ (own_w hw 60 rfl) (own_w hw 2 rfl) (by decide) (by decide)) q127a q127c (g := (mkF m 205 #[.val (.int p1), .val (.int p2), .val (.int p3), .val (.int p4), .val (.int (3 : Int32)), .val (.int (1 : Int32)), .val (.ref b112), .val (.int (4 : Int32)), .val (.ref d_117), .unset, .unset] [(.ref b112)])) rfl (by rw [hml]; rfl) (Steps.refl _) (argsL := []) (rest := []) (lenOf pd_5 rfl) rfl (by show 2 * 0 + _ ≤ _; exact Nat.le_of_eq rfl) (hb hby at_205) (fun _ _ => ⟨rfl, e126, (by decide : 6 + 1 ≤ _), (by decide : 277 + 4 ≤ _)⟩)
      dsimp only [Pt.U, Pt.locs, Pt.cells, Pt.slots] at X127 l127 y127 z127 st127 hQ127
      subst l127 y127 z127
      obtain ⟨d_127, k2_127, rfl, N127q, Kc127, r127_0, r127_1⟩ := hQ127
      have N127 := Fr.app N126 N127q
      refine own_via st127 ?_
      have K127 : Keep h0 T127.heap [] := K126.trans Kc127 all0
      obtain ⟨cl128, Ar128, q128, S128, M128, H128, G128⟩ := id r127_1
      obtain ⟨cl129, Ar129, q129, S129, M129, H129, G129⟩ := id r127_1
      have hin129 : ¬ ((0 : Int32) < 0 ∨ cl129.slots.size ≤ ((0 : Int32)).toNatClampNeg) := inb_of S129 ⟨by decide, by decide⟩
      have hat129 : cl129.slots[((0 : Int32)).toNatClampNeg]? = some (.int (p1).toInt8.toInt32) := Has.at H129 hin129 rfl
      refine own_go (A := T127.setTop (mkF m 244 #[.val (.int p1), .val (.int p2), .val (.int p3), .val (.int p4), .val (.int (3 : Int32)), .val (.int (1 : Int32)), .val (.ref b112), .val (.int (4 : Int32)), .val (.ref d_117), .val (.ref d_127), .unset] [(.ref b112)])) (fun t_ k_ => ?_) ?_
      · show Steps p.tables e below (T127.setTop (mkF m 208 #[.val (.int p1), .val (.int p2), .val (.int p3), .val (.int p4), .val (.int (3 : Int32)), .val (.int (1 : Int32)), .val (.ref b112), .val (.int (4 : Int32)), .val (.ref d_117), .unset, .unset] [(.ref d_127)])) t_
        refine XS.astore X127.here hx rfl (hb hby at_208) rfl rfl (l' := #[.val (.int p1), .val (.int p2), .val (.int p3), .val (.int p4), .val (.int (3 : Int32)), .val (.int (1 : Int32)), .val (.ref b112), .val (.int (4 : Int32)), .val (.ref d_117), .val (.ref d_127), .unset]) rfl ?_
        show Steps p.tables e below (T127.setTop (mkF m 210 #[.val (.int p1), .val (.int p2), .val (.int p3), .val (.int p4), .val (.int (3 : Int32)), .val (.int (1 : Int32)), .val (.ref b112), .val (.int (4 : Int32)), .val (.ref d_117), .val (.ref d_127), .unset] [])) t_
        refine XS.aload X127.here hx rfl (hb hby at_210) rfl rfl ?_
        show Steps p.tables e below (T127.setTop (mkF m 212 #[.val (.int p1), .val (.int p2), .val (.int p3), .val (.int p4), .val (.int (3 : Int32)), .val (.int (1 : Int32)), .val (.ref b112), .val (.int (4 : Int32)), .val (.ref d_117), .val (.ref d_127), .unset] [(.ref d_127)])) t_
        refine X127.arraylength hx Ar128.1 (State.isArrayOf_alike hZ.alike Ar128.2.1) (g := (mkF m 212 #[.val (.int p1), .val (.int p2), .val (.int p3), .val (.int p4), .val (.int (3 : Int32)), .val (.int (1 : Int32)), .val (.ref b112), .val (.int (4 : Int32)), .val (.ref d_117), .val (.ref d_127), .unset] [(.ref d_127)])) rfl rfl (hb hby at_212) _ ?_
        rw [len_of S128 M128]
        show Steps p.tables e below (T127.setTop (mkF m 213 #[.val (.int p1), .val (.int p2), .val (.int p3), .val (.int p4), .val (.int (3 : Int32)), .val (.int (1 : Int32)), .val (.ref b112), .val (.int (4 : Int32)), .val (.ref d_117), .val (.ref d_127), .unset] [(.int (4 : Int32))])) t_
        refine XS.iload X127.here hx rfl (hb hby at_213) rfl ?_
        show Steps p.tables e below (T127.setTop (mkF m 215 #[.val (.int p1), .val (.int p2), .val (.int p3), .val (.int p4), .val (.int (3 : Int32)), .val (.int (1 : Int32)), .val (.ref b112), .val (.int (4 : Int32)), .val (.ref d_117), .val (.ref d_127), .unset] [(.int (4 : Int32)), (.int (4 : Int32))])) t_
        refine XS.icmpYes X127.here hx rfl (pc0 := 215) (pc' := 220) rfl (hb hby at_215) rfl (teq (by decide : (4 : Int32) = (4 : Int32))).1 (by decide) (by decide) ?_
        show Steps p.tables e below (T127.setTop (mkF m 220 #[.val (.int p1), .val (.int p2), .val (.int p3), .val (.int p4), .val (.int (3 : Int32)), .val (.int (1 : Int32)), .val (.ref b112), .val (.int (4 : Int32)), .val (.ref d_117), .val (.ref d_127), .unset] [])) t_
        refine XS.iload X127.here hx rfl (hb hby at_220) rfl ?_
        show Steps p.tables e below (T127.setTop (mkF m 222 #[.val (.int p1), .val (.int p2), .val (.int p3), .val (.int p4), .val (.int (3 : Int32)), .val (.int (1 : Int32)), .val (.ref b112), .val (.int (4 : Int32)), .val (.ref d_117), .val (.ref d_127), .unset] [(.int (3 : Int32))])) t_
        refine XS.iconst X127.here hx rfl (hb hby at_222) ?_
        show Steps p.tables e below (T127.setTop (mkF m 223 #[.val (.int p1), .val (.int p2), .val (.int p3), .val (.int p4), .val (.int (3 : Int32)), .val (.int (1 : Int32)), .val (.ref b112), .val (.int (4 : Int32)), .val (.ref d_117), .val (.ref d_127), .unset] [(.int (1 : Int32)), (.int (3 : Int32))])) t_
        refine XS.icmpNo X127.here hx rfl (hb hby at_223) rfl (flt (by decide : ¬ ((3 : Int32) < (1 : Int32)))).1 ?_
        show Steps p.tables e below (T127.setTop (mkF m 226 #[.val (.int p1), .val (.int p2), .val (.int p3), .val (.int p4), .val (.int (3 : Int32)), .val (.int (1 : Int32)), .val (.ref b112), .val (.int (4 : Int32)), .val (.ref d_117), .val (.ref d_127), .unset] [])) t_
        refine XS.aload X127.here hx rfl (hb hby at_226) rfl rfl ?_
        show Steps p.tables e below (T127.setTop (mkF m 228 #[.val (.int p1), .val (.int p2), .val (.int p3), .val (.int p4), .val (.int (3 : Int32)), .val (.int (1 : Int32)), .val (.ref b112), .val (.int (4 : Int32)), .val (.ref d_117), .val (.ref d_127), .unset] [(.ref d_127)])) t_
        refine XS.iconst X127.here hx rfl (hb hby at_228) ?_
        show Steps p.tables e below (T127.setTop (mkF m 229 #[.val (.int p1), .val (.int p2), .val (.int p3), .val (.int p4), .val (.int (3 : Int32)), .val (.int (1 : Int32)), .val (.ref b112), .val (.int (4 : Int32)), .val (.ref d_117), .val (.ref d_127), .unset] [(.int (0 : Int32)), (.ref d_127)])) t_
        refine X127.baloadBytes hx (j := (0 : Int32)) (v := (.int (p1).toInt8.toInt32)) Ar129.1 (State.isArrayOf_alike hZ.alike Ar129.2.1) Ar129.2.2 hin129 hat129 (g := (mkF m 229 #[.val (.int p1), .val (.int p2), .val (.int p3), .val (.int p4), .val (.int (3 : Int32)), .val (.int (1 : Int32)), .val (.ref b112), .val (.int (4 : Int32)), .val (.ref d_117), .val (.ref d_127), .unset] [(.int (0 : Int32)), (.ref d_127)])) rfl rfl (hb hby at_229) _ ?_
        show Steps p.tables e below (T127.setTop (mkF m 230 #[.val (.int p1), .val (.int p2), .val (.int p3), .val (.int p4), .val (.int (3 : Int32)), .val (.int (1 : Int32)), .val (.ref b112), .val (.int (4 : Int32)), .val (.ref d_117), .val (.ref d_127), .unset] [(.int (p1).toInt8.toInt32)])) t_
        refine XS.iloadN X127.here hx rfl (hb hby at_230) rfl ?_
        show Steps p.tables e below (T127.setTop (mkF m 231 #[.val (.int p1), .val (.int p2), .val (.int p3), .val (.int p4), .val (.int (3 : Int32)), .val (.int (1 : Int32)), .val (.ref b112), .val (.int (4 : Int32)), .val (.ref d_117), .val (.ref d_127), .unset] [(.int p1), (.int (p1).toInt8.toInt32)])) t_
        refine XS.i2b X127.here hx rfl (hb hby at_231) rfl ?_
        show Steps p.tables e below (T127.setTop (mkF m 232 #[.val (.int p1), .val (.int p2), .val (.int p3), .val (.int p4), .val (.int (3 : Int32)), .val (.int (1 : Int32)), .val (.ref b112), .val (.int (4 : Int32)), .val (.ref d_117), .val (.ref d_127), .unset] [(.int (p1).toInt8.toInt32), (.int (p1).toInt8.toInt32)])) t_
        refine XS.icmpYes X127.here hx rfl (pc0 := 232) (pc' := 237) rfl (hb hby at_232) rfl (teq (rfl : (p1).toInt8.toInt32 = (p1).toInt8.toInt32)).1 (by decide) (by decide) ?_
        show Steps p.tables e below (T127.setTop (mkF m 237 #[.val (.int p1), .val (.int p2), .val (.int p3), .val (.int p4), .val (.int (3 : Int32)), .val (.int (1 : Int32)), .val (.ref b112), .val (.int (4 : Int32)), .val (.ref d_117), .val (.ref d_127), .unset] [])) t_
        refine XS.iload X127.here hx rfl (hb hby at_237) rfl ?_
        show Steps p.tables e below (T127.setTop (mkF m 239 #[.val (.int p1), .val (.int p2), .val (.int p3), .val (.int p4), .val (.int (3 : Int32)), .val (.int (1 : Int32)), .val (.ref b112), .val (.int (4 : Int32)), .val (.ref d_117), .val (.ref d_127), .unset] [(.int (1 : Int32))])) t_
        refine XS.ifNo X127.here hx rfl (hb hby at_239) rfl ((if0 _ _).trans (feq (by decide : ¬ ((1 : Int32) = (0 : Int32)))).1) ?_
        show Steps p.tables e below (T127.setTop (mkF m 242 #[.val (.int p1), .val (.int p2), .val (.int p3), .val (.int p4), .val (.int (3 : Int32)), .val (.int (1 : Int32)), .val (.ref b112), .val (.int (4 : Int32)), .val (.ref d_117), .val (.ref d_127), .unset] [])) t_
        refine XS.aload X127.here hx rfl (hb hby at_242) rfl rfl ?_
        exact k_
      obtain ⟨cq130, kq130, q130a, q130b, q130c⟩ := isOf hZ rfl (((((((A112.keep Kc113).keep Kc114).keep Kc115).keep Kc116).keep Kc117).wr W126).keep Kc127)
      obtain ⟨_, _, ⟨T130, L130, k130, n130⟩, -, X130, ⟨Lc130, hQ130, l130, y130, z130⟩, st130⟩ := X127.virtualBack hx (y := own_y11) (z := own_y11) hown (mvT hZ (own_w hw 83 rfl)) (mvT hZ (own_w hw 84 rfl)) (notFace_of_selects (args := #[]) (mvT hZ (own_w hw 86 rfl))) (mvT hZ (own_w hw 86 rfl)) (mvT hZ (own_w hw 85 rfl)) (by decide) (backOf (W := 0) (rmReset l Z a0 hw [] b112 b_113 (4 : Int32) T127.heap n0 (Nat.le_trans Z0 K127.1) (((((((A112.keep Kc113).keep Kc114).keep Kc115).keep Kc116).keep Kc117).wr W126).keep Kc127) (((r116_0.keep Kc117 nin0).other W126 (Or.inl (Nat.ne_of_lt (Nat.lt_of_lt_of_le (Nat.lt_of_lt_of_le (Nat.lt_of_lt_of_le (Nat.lt_of_lt_of_le (Nat.lt_of_lt_of_le A112.lt Kc113.1) Kc114.1) Kc115.1) Kc116.1) r117_0)))).keep Kc127 nin0) (((r116_1.keep Kc117 nin0).other W126 (Or.inl (Nat.ne_of_lt (Nat.lt_of_lt_of_le (Nat.lt_of_lt_of_le (Nat.lt_of_lt_of_le (Nat.lt_of_lt_of_le (Nat.lt_of_lt_of_le A112.lt Kc113.1) Kc114.1) Kc115.1) Kc116.1) r117_0)))).keep Kc127 nin0) (Nat.le_trans Z0 (Nat.le_of_eq g112.symm))) hZ (own_w hw 87 rfl) (own_w hw 2 rfl) (by decide) (by decide)) q130a q130c (g := (mkF m 244 #[.val (.int p1), .val (.int p2), .val (.int p3), .val (.int p4), .val (.int (3 : Int32)), .val (.int (1 : Int32)), .val (.ref b112), .val (.int (4 : Int32)), .val (.ref d_117), .val (.ref d_127), .unset] [(.ref b112)])) rfl (by rw [hml]; rfl) (Steps.refl _) (argsL := []) (rest := []) (lenOf pd_0 rfl) rfl (by show 2 * 0 + _ ≤ _; exact Nat.le_of_eq rfl) (hb hby at_244) (fun _ _ => ⟨rfl, rfl, (by decide : 7 + 0 ≤ _), (by decide : 281 + 0 ≤ _)⟩)
      dsimp only [Pt.U, Pt.locs, Pt.cells, Pt.slots] at X130 l130 y130 z130 st130 hQ130
      subst l130 y130 z130
      obtain ⟨rfl, N130q, Kc130, r130_0, r130_1⟩ := hQ130
      have N130 := Fr.app N127 N130q
      refine own_via st130 ?_
      have K130 : Keep h0 T130.heap [] := K127.trans Kc130 (allS (P := fun x => x ∈ _ ∨ _ ≤ x) (Or.inr (Nat.le_of_eq g112.symm)) all0)
      refine own_go (A := T130.setTop (mkF m 249 #[.val (.int p1), .val (.int p2), .val (.int p3), .val (.int p4), .val (.int (3 : Int32)), .val (.int (1 : Int32)), .val (.ref b112), .val (.int (4 : Int32)), .val (.ref d_117), .val (.ref d_127), .unset] [(.ref b112)])) (fun t_ k_ => ?_) ?_
      · show Steps p.tables e below (T130.setTop (mkF m 247 #[.val (.int p1), .val (.int p2), .val (.int p3), .val (.int p4), .val (.int (3 : Int32)), .val (.int (1 : Int32)), .val (.ref b112), .val (.int (4 : Int32)), .val (.ref d_117), .val (.ref d_127), .unset] [])) t_
        refine XS.aload X130.here hx rfl (hb hby at_247) rfl rfl ?_
        exact k_
      obtain ⟨cq131, kq131, q131a, q131b, q131c⟩ := isOf hZ rfl ((((((((A112.keep Kc113).keep Kc114).keep Kc115).keep Kc116).keep Kc117).wr W126).keep Kc127).keep Kc130)
      obtain ⟨_, _, ⟨T131, L131, k131, n131⟩, -, X131, ⟨Lc131, hQ131, l131, y131, z131⟩, st131⟩ := X130.virtualBack hx (y := own_y9) (z := own_y9) hown (mvT hZ (own_w hw 56 rfl)) (mvT hZ (own_w hw 57 rfl)) (notFace_of_selects (args := #[]) (mvT hZ (own_w hw 59 rfl))) (mvT hZ (own_w hw 59 rfl)) (mvT hZ (own_w hw 58 rfl)) (by decide) (backOf (W := 0) (rmTo0 l Z a0 hw [] b112 b_113 k_113 ((p1).toInt8.toInt32) ((((p2).toUInt32 >>> ((8 : Int32) &&& 31).toUInt32).toInt32).toInt8.toInt32) ((p2).toInt8.toInt32) ((p3).toInt8.toInt32) T130.heap n0 (Nat.le_trans Z0 K130.1) ((((((((A112.keep Kc113).keep Kc114).keep Kc115).keep Kc116).keep Kc117).wr W126).keep Kc127).keep Kc130) r130_0 r130_1 ((((r116_2.keep Kc117 nin0).other W126 (Nat.ne_of_lt (Nat.lt_of_lt_of_le (Nat.lt_of_lt_of_le (Nat.lt_of_lt_of_le (Nat.lt_of_lt_of_le r113_3.lt Kc114.1) Kc115.1) Kc116.1) r117_0))).keep Kc127 nin0).keep Kc130 (ninS (Ne.symm (Nat.ne_of_lt (Nat.lt_of_lt_of_le A112.lt r113_0))) nin0))) hZ (own_w hw 60 rfl) (own_w hw 2 rfl) (by decide) (by decide)) q131a q131c (g := (mkF m 249 #[.val (.int p1), .val (.int p2), .val (.int p3), .val (.int p4), .val (.int (3 : Int32)), .val (.int (1 : Int32)), .val (.ref b112), .val (.int (4 : Int32)), .val (.ref d_117), .val (.ref d_127), .unset] [(.ref b112)])) rfl (by rw [hml]; rfl) (Steps.refl _) (argsL := []) (rest := []) (lenOf pd_5 rfl) rfl (by show 2 * 0 + _ ≤ _; exact Nat.le_of_eq rfl) (hb hby at_249) (fun _ _ => ⟨rfl, rfl, (by decide : 7 + 1 ≤ _), (by decide : 281 + 0 ≤ _)⟩)
      dsimp only [Pt.U, Pt.locs, Pt.cells, Pt.slots] at X131 l131 y131 z131 st131 hQ131
      subst l131 y131 z131
      obtain ⟨d_131, k2_131, rfl, N131q, Kc131, r131_0, r131_1⟩ := hQ131
      have N131 := Fr.app N130 N131q
      refine own_via st131 ?_
      have K131 : Keep h0 T131.heap [] := K130.trans Kc131 all0
      obtain ⟨cl132, Ar132, q132, S132, M132, H132, G132⟩ := id r131_1
      refine own_go (A := T131.setTop (mkF m 263 #[.val (.int p1), .val (.int p2), .val (.int p3), .val (.int p4), .val (.int (3 : Int32)), .val (.int (1 : Int32)), .val (.ref b112), .val (.int (4 : Int32)), .val (.ref d_117), .val (.ref d_127), .val (.ref d_131)] [(.int (1 : Int32))])) (fun t_ k_ => ?_) ?_
      · show Steps p.tables e below (T131.setTop (mkF m 252 #[.val (.int p1), .val (.int p2), .val (.int p3), .val (.int p4), .val (.int (3 : Int32)), .val (.int (1 : Int32)), .val (.ref b112), .val (.int (4 : Int32)), .val (.ref d_117), .val (.ref d_127), .unset] [(.ref d_131)])) t_
        refine XS.astore X131.here hx rfl (hb hby at_252) rfl rfl (l' := #[.val (.int p1), .val (.int p2), .val (.int p3), .val (.int p4), .val (.int (3 : Int32)), .val (.int (1 : Int32)), .val (.ref b112), .val (.int (4 : Int32)), .val (.ref d_117), .val (.ref d_127), .val (.ref d_131)]) rfl ?_
        show Steps p.tables e below (T131.setTop (mkF m 254 #[.val (.int p1), .val (.int p2), .val (.int p3), .val (.int p4), .val (.int (3 : Int32)), .val (.int (1 : Int32)), .val (.ref b112), .val (.int (4 : Int32)), .val (.ref d_117), .val (.ref d_127), .val (.ref d_131)] [])) t_
        refine XS.aload X131.here hx rfl (hb hby at_254) rfl rfl ?_
        show Steps p.tables e below (T131.setTop (mkF m 256 #[.val (.int p1), .val (.int p2), .val (.int p3), .val (.int p4), .val (.int (3 : Int32)), .val (.int (1 : Int32)), .val (.ref b112), .val (.int (4 : Int32)), .val (.ref d_117), .val (.ref d_127), .val (.ref d_131)] [(.ref d_131)])) t_
        refine X131.arraylength hx Ar132.1 (State.isArrayOf_alike hZ.alike Ar132.2.1) (g := (mkF m 256 #[.val (.int p1), .val (.int p2), .val (.int p3), .val (.int p4), .val (.int (3 : Int32)), .val (.int (1 : Int32)), .val (.ref b112), .val (.int (4 : Int32)), .val (.ref d_117), .val (.ref d_127), .val (.ref d_131)] [(.ref d_131)])) rfl rfl (hb hby at_256) _ ?_
        rw [len_of S132 M132]
        show Steps p.tables e below (T131.setTop (mkF m 257 #[.val (.int p1), .val (.int p2), .val (.int p3), .val (.int p4), .val (.int (3 : Int32)), .val (.int (1 : Int32)), .val (.ref b112), .val (.int (4 : Int32)), .val (.ref d_117), .val (.ref d_127), .val (.ref d_131)] [(.int (0 : Int32))])) t_
        refine XS.ifYes X131.here hx rfl (pc0 := 257) (pc' := 262) rfl (hb hby at_257) rfl ((if0 _ _).trans (teq (by decide : (0 : Int32) = (0 : Int32))).1) (by decide) (by decide) ?_
        show Steps p.tables e below (T131.setTop (mkF m 262 #[.val (.int p1), .val (.int p2), .val (.int p3), .val (.int p4), .val (.int (3 : Int32)), .val (.int (1 : Int32)), .val (.ref b112), .val (.int (4 : Int32)), .val (.ref d_117), .val (.ref d_127), .val (.ref d_131)] [])) t_
        refine XS.iconst X131.here hx rfl (hb hby at_262) ?_
        exact k_
      obtain ⟨fs133, hr133, hrun133, hended133, hW133, hsame133⟩ := X131.leave (v := some (.int (1 : Int32))) (fun h => by rw [Bd.returns] at h; cases h)
      refine ⟨_, _, ?_, hrun133, hended133, _, _, rfl, ?_, ⟨_, rfl⟩, hW133, hsame133.mono (by decide) (by decide)⟩
      · exact retN X131 hx (t := .boolean) Bd.returns (by simp) (hb hby at_263) hr133
      · show Q_rm0 Z p1 p2 p3 p4 h0 n0 _ T131.heap _
        exact ⟨rfl, N131, K131⟩
set_option maxRecDepth 65536 in
set_option maxHeartbeats 40000000 in
theorem comes_1 {Post : Tables → Env → Array Value → State → Outcome → State → Prop} (hpost : ∀ tb e args s v u, (limb_1_1.after args s (.returned v) u = true ∧ limb_1_2.after args s (.returned v) u = true ∧ True) → FrameEnd s (.returned v) u (Jvm.fieldLocs frame_1_writes args s ++ Jvm.arrayLocs frame_1_arrays args s ++ Jvm.staticLocs frame_1_statics s) 24 640 → Post tb e args s (.returned v) u) :
    ArmFor flags0 classFile x code maxLocals ret World_1 tables_1 room_1 Calls_1 rest_1 Pre_1 Post := by
  intro l hfl _ _ p e ha hc hk s m args below hf hA hF happ hP
  obtain ⟨hcalls, hrest, hpre⟩ := hP
  obtain ⟨-, -, -, hnamed, -, -, -, hat⟩ := (Spec.applies_iff hf).mp happ
  obtain ⟨hg, hn⟩ := and_e (Cond.before_iff.mp (show (Jvm.Cond.and given_1 narrow_1).before args s = true from hpre))
  obtain ⟨hg_0, hg_1⟩ := and_e hg
  obtain ⟨hg_2, hg_3⟩ := and_e hg_1
  obtain ⟨hg_4, hg_5⟩ := and_e hg_3
  obtain ⟨hg_6, hg_7⟩ := and_e hg_5
  obtain ⟨w0, w1, w2, w3, rfl⟩ : ∃ w0 w1 w2 w3 : Value, args = #[w0, w1, w2, w3] := by
    have hs : args.size = 4 := by simpa [Cond.value, given_1] using hg_0
    obtain ⟨L⟩ := args
    match L, hs with
    | [w0, w1, w2, w3], _ => exact ⟨w0, w1, w2, w3, rfl⟩
  have hw := fun d (hd : d ∈ tables_1) => atoms_spec (ws := Jvm.Cond.code x code maxLocals ret :: tables_1) hat d (List.mem_cons_of_mem _ hd)
  have hfit : Fit s := fun {y c} hc i hi => by
    obtain ⟨ha, rfl⟩ := Array.getElem?_eq_some_iff.mp hc
    have q := List.all_eq_true.mp ((Array.all_eq_true_iff_forall_mem.mp hF) _ (Array.getElem_mem ha)) i (List.mem_range.mpr hi)
    simpa [Array.getElem?_eq_getElem hi] using q
  obtain ⟨i0, ei0⟩ := is_v hg_2
  obtain rfl : w0 = (.int i0) := Option.some.inj ei0
  obtain ⟨i1, ei1⟩ := is_v hg_4
  obtain rfl : w1 = (.int i1) := Option.some.inj ei1
  obtain ⟨i2, ei2⟩ := is_v hg_6
  obtain rfl : w2 = (.int i2) := Option.some.inj ei2
  obtain ⟨i3, ei3⟩ := is_v hg_7
  obtain rfl : w3 = (.int i3) := Option.some.inj ei3
  obtain ⟨n, o, h1, h2, h3, _, L, rfl, ⟨rfl, N, -⟩, hq⟩ := rm0 l s _ hw tables_1 i0 i1 i2 i3 s.heap s.heap.size (Nat.le_refl _) p e ha hc hk s m _ below hf ((Spec.applies_iff_loose hf).mp happ).1 ⟨rfl, State.Warmed39.refl s, rfl⟩ trivial
  refine ⟨n, _, h1, h2, h3, hpost _ _ _ _ _ _ ⟨Cond.after_iff.mpr rfl, Cond.after_iff.mpr (eq_i res_at (Term.int_eval (1)) rfl), trivial⟩ ⟨hq.1, hq.2.1, (hq.2.2.sift fun y hy => Or.inr (N y hy)).mono (by decide) (by decide)⟩⟩
theorem main_1_1 : Claimed_1_1 := comes_1 fun _ _ _ _ _ _ h hF => ⟨h.1, hF⟩
theorem main_1_2 : Claimed_1_2 := comes_1 fun _ _ _ _ _ _ h hF => ⟨h.2.1, hF⟩
end Jvm.Pilot.@@N@@
namespace Jvm.Pilot.@@N@@
open Jvm Jvm.ClassFile Sem Op Lib Jvm.Free Jvm.Stand Jvm.Pilot.@@N@@.Jvm.D
/-! MADE BY PROGRAM (witnessworld.py) out of the Statement's table words and the real class files: 19 classes; the members and pool entries that the words name. The judged class is class 1, her method 1. -/
namespace start1
open Jvm.ClassFile
def u (s : String) : CpInfo := .utf8 (stringToUtf16 s)
/-- a pool by its gaps: so many unusable entries, then the entry; so many at the end -/
def gap : Nat → List CpInfo → List CpInfo
  | 0, r => r
  | n + 1, r => .unusable :: gap n r
def poolList (es : List (Nat × CpInfo)) (last : Nat) : List CpInfo := es.foldr (fun e r => gap e.1 (e.2 :: r)) (gap last [])
def pool (es : List (Nat × CpInfo)) (last : Nat) : Array CpInfo := ⟨poolList es last⟩
def fileOf (pool : Array CpInfo) (this : Nat) (attrs : Array Attribute := #[]) (ms : Array MethodInfo := #[]) (fl : Nat := 33) (sup : Nat := 0) (ifs : Array Nat := #[]) (fds : Array FieldInfo := #[]) : ClassFile where
  minorVersion := 0
  majorVersion := 65
  constantPool := pool
  accessFlags := fl
  thisClass := this
  superClass := sup
  interfaces := ifs
  fields := fds
  methods := ms
  attributes := attrs
def plain (name : String) (sup : Option ClassId) : Class where
  name := name
  kind := .ordinary
  loader := none
  accessFlags := 33
  super := sup
  interfaces := #[]
  cf := none
  fields := #[]
  methods := #[]
  instanceTypes := #[]
  staticTypes := #[]
  resolved := #[]
  callSites := []
  init := .initialized
  statics := none
  mirror := none

def pool0 : Array CpInfo := pool [(5, u "<init>"), (0, u "()V"), (1, .class_ 10), (1, u "java/lang/Object")] 113

def k0c0 : Code := { maxStack := 0, maxLocals := 1, code := object_method_1_code, exceptionTable := #[], attributes := #[] }
def k0m0 : Method := { name := "<init>", desc := "()V", sig := { parameters := [], returnType := none }, accessFlags := 1, code := some k0c0 }
/-- java/lang/Object -/
def k0 : Class := { plain "java/lang/Object" none with
  accessFlags := 33
  interfaces := #[]
  cf := some (fileOf pool0 8 #[] #[{ accessFlags := 1, nameIndex := 5, descriptorIndex := 6, attributes := #[] }] 33 0 #[] #[])
  fields := #[]
  methods := #[k0m0]
  instanceTypes := #[]
  staticTypes := #[]
  resolved := Array.replicate 124 none
  statics := none }

def pool1 : Array CpInfo := pool [(2, .class_ 4), (0, .nameAndType 5 6), (0, u "java/lang/Object"), (0, u "<init>"), (0, u "()V"), (0, .class_ 8), (0, u "com/example/kneiphof/kneiphof/ByteRecord"), (0, .methodref 7 3), (0, .methodref 7 11), (0, .nameAndType 12 13), (0, u "write"), (0, u "(I)V"), (0, .methodref 7 15), (0, .nameAndType 16 13), (0, u "writeShort"), (0, .methodref 7 18), (0, .nameAndType 19 20), (0, u "toByteArray"), (0, u "()[B"), (0, .methodref 7 22), (0, .nameAndType 23 24), (0, u "size"), (0, u "()I"), (0, .methodref 7 26), (0, .nameAndType 27 6), (0, u "reset"), (0, .class_ 29), (0, u "com/example/kneiphof/kneiphof/ByteRecordToByteArrayPinLaw"), (2, u "law"), (0, u "(IIII)Z")] 5

def k1m0 : Method := { name := "<init>", desc := "()V", sig := { parameters := [], returnType := none }, accessFlags := 1, code := none }
def k1c1 : Code := { maxStack := 4, maxLocals := 11, code := code, exceptionTable := #[], attributes := #[] }
def k1m1 : Method := { name := "law", desc := "(IIII)Z", sig := { parameters := [.int, .int, .int, .int], returnType := some .boolean }, accessFlags := 9, code := some k1c1 }
/-- com/example/kneiphof/kneiphof/ByteRecordToByteArrayPinLaw -/
def k1 : Class := { plain "com/example/kneiphof/kneiphof/ByteRecordToByteArrayPinLaw" (some 0) with
  accessFlags := 49
  interfaces := #[]
  cf := some (fileOf pool1 28 #[] #[{ accessFlags := 1, nameIndex := 5, descriptorIndex := 6, attributes := #[] }, { accessFlags := 9, nameIndex := 32, descriptorIndex := 33, attributes := #[] }] 49 2 #[] #[])
  fields := #[]
  methods := #[k1m0, k1m1]
  instanceTypes := #[]
  staticTypes := #[]
  resolved := Array.replicate 39 none
  statics := none }

def pool2 : Array CpInfo := pool [(1, .class_ 2), (0, u "java/lang/AutoCloseable"), (0, .class_ 4), (0, u "java/lang/Object")] 7

/-- java/lang/AutoCloseable -/
def k2 : Class := { plain "java/lang/AutoCloseable" (some 0) with
  accessFlags := 1537
  interfaces := #[]
  cf := some (fileOf pool2 1 #[] #[] 1537 3 #[] #[])
  fields := #[]
  methods := #[]
  instanceTypes := #[]
  staticTypes := #[]
  resolved := Array.replicate 12 none
  statics := none }

def pool3 : Array CpInfo := pool [(1, .class_ 2), (0, u "java/io/Closeable"), (0, .class_ 4), (0, u "java/lang/Object"), (0, .class_ 6), (0, u "java/lang/AutoCloseable")] 7

/-- java/io/Closeable -/
def k3 : Class := { plain "java/io/Closeable" (some 0) with
  accessFlags := 1537
  interfaces := #[2]
  cf := some (fileOf pool3 1 #[] #[] 1537 3 #[5] #[])
  fields := #[]
  methods := #[]
  instanceTypes := #[]
  staticTypes := #[]
  resolved := Array.replicate 14 none
  statics := none }

def pool4 : Array CpInfo := pool [(1, .class_ 2), (0, u "java/io/Flushable"), (0, .class_ 4), (0, u "java/lang/Object")] 7

/-- java/io/Flushable -/
def k4 : Class := { plain "java/io/Flushable" (some 0) with
  accessFlags := 1537
  interfaces := #[]
  cf := some (fileOf pool4 1 #[] #[] 1537 3 #[] #[])
  fields := #[]
  methods := #[]
  instanceTypes := #[]
  staticTypes := #[]
  resolved := Array.replicate 12 none
  statics := none }

def pool5 : Array CpInfo := pool [(1, .methodref 2 3), (0, .class_ 4), (0, .nameAndType 5 6), (0, u "java/lang/Object"), (0, u "<init>"), (0, u "()V"), (0, .class_ 8), (0, u "java/io/OutputStream$1"), (2, .class_ 13), (1, u "java/io/OutputStream"), (11, .class_ 26), (0, u "java/io/Closeable"), (0, .class_ 28), (0, u "java/io/Flushable")] 24

def k5c0 : Code := { maxStack := 1, maxLocals := 1, code := jdk_2038_method_1_code, exceptionTable := #[], attributes := #[] }
def k5m0 : Method := { name := "<init>", desc := "()V", sig := { parameters := [], returnType := none }, accessFlags := 1, code := some k5c0 }
/-- java/io/OutputStream -/
def k5 : Class := { plain "java/io/OutputStream" (some 0) with
  accessFlags := 1057
  interfaces := #[3, 4]
  cf := some (fileOf pool5 11 #[.nestMembers #[7]] #[{ accessFlags := 1, nameIndex := 5, descriptorIndex := 6, attributes := #[] }] 1057 2 #[25, 27] #[])
  fields := #[]
  methods := #[k5m0]
  instanceTypes := #[]
  staticTypes := #[]
  resolved := Array.replicate 53 none
  statics := none }

def pool6 : Array CpInfo := pool [(1, .class_ 2), (0, u "java/io/DataOutput"), (0, .class_ 4), (0, u "java/lang/Object")] 25

/-- java/io/DataOutput -/
def k6 : Class := { plain "java/io/DataOutput" (some 0) with
  accessFlags := 1537
  interfaces := #[]
  cf := some (fileOf pool6 1 #[] #[] 1537 3 #[] #[])
  fields := #[]
  methods := #[]
  instanceTypes := #[]
  staticTypes := #[]
  resolved := Array.replicate 30 none
  statics := none }

def pool7 : Array CpInfo := pool [(3, .methodref 4 5), (0, .class_ 6), (0, .nameAndType 7 8), (0, u "java/io/OutputStream"), (0, u "<init>"), (0, u "()V"), (0, .fieldref 10 11), (0, .class_ 12), (0, .nameAndType 13 14), (0, u "com/example/kneiphof/kneiphof/ByteRecord"), (0, u "bytes"), (0, u "[B"), (0, .class_ 16), (0, u "java/io/DataOutputStream"), (0, .methodref 15 18), (0, .nameAndType 7 19), (0, u "(Ljava/io/OutputStream;)V"), (0, .fieldref 10 21), (0, .nameAndType 22 23), (0, u "text"), (0, u "Ljava/io/DataOutputStream;"), (0, .fieldref 10 25), (0, .nameAndType 26 27), (0, u "size"), (0, u "I"), (2, u "write"), (6, .methodref 38 39), (0, .class_ 40), (0, .nameAndType 41 42), (0, u "java/util/Arrays"), (0, u "copyOf"), (0, u "([BI)[B"), (0, .integer 2147483639), (7, .long 2147483639), (1, .long 2), (11, .methodref 10 66), (0, .nameAndType 67 68), (0, u "room"), (0, u "(I)V"), (17, u "writeShort"), (2, u "INT"), (0, u "Ljava/lang/invoke/VarHandle;"), (7, u "LONG"), (47, .class_ 147), (0, u "java/io/DataOutput"), (0, u "MAX_SIZE"), (3, u "()I"), (0, u "reset"), (6, u "toByteArray"), (0, u "()[B")] 13

def k7c0 : Code := { maxStack := 4, maxLocals := 1, code := prog_6_method_1_code, exceptionTable := #[], attributes := #[] }
def k7m0 : Method := { name := "<init>", desc := "()V", sig := { parameters := [], returnType := none }, accessFlags := 0, code := some k7c0 }
def k7c1 : Code := { maxStack := 1, maxLocals := 1, code := prog_6_method_2_code, exceptionTable := #[], attributes := #[] }
def k7m1 : Method := { name := "size", desc := "()I", sig := { parameters := [], returnType := some .int }, accessFlags := 0, code := some k7c1 }
def k7c2 : Code := { maxStack := 2, maxLocals := 1, code := prog_6_method_3_code, exceptionTable := #[], attributes := #[] }
def k7m2 : Method := { name := "reset", desc := "()V", sig := { parameters := [], returnType := none }, accessFlags := 0, code := some k7c2 }
def k7c3 : Code := { maxStack := 2, maxLocals := 1, code := prog_6_method_6_code, exceptionTable := #[], attributes := #[] }
def k7m3 : Method := { name := "toByteArray", desc := "()[B", sig := { parameters := [], returnType := some (.array .byte) }, accessFlags := 0, code := some k7c3 }
def k7c4 : Code := { maxStack := 6, maxLocals := 3, code := prog_6_method_7_code, exceptionTable := #[], attributes := #[] }
def k7m4 : Method := { name := "room", desc := "(I)V", sig := { parameters := [.int], returnType := none }, accessFlags := 2, code := some k7c4 }
def k7c5 : Code := { maxStack := 5, maxLocals := 2, code := prog_6_method_8_code, exceptionTable := #[], attributes := #[] }
def k7m5 : Method := { name := "write", desc := "(I)V", sig := { parameters := [.int], returnType := none }, accessFlags := 1, code := some k7c5 }
def k7c6 : Code := { maxStack := 4, maxLocals := 2, code := prog_6_method_13_code, exceptionTable := #[], attributes := #[] }
def k7m6 : Method := { name := "writeShort", desc := "(I)V", sig := { parameters := [.int], returnType := none }, accessFlags := 1, code := some k7c6 }
/-- com/example/kneiphof/kneiphof/ByteRecord -/
def k7 : Class := { plain "com/example/kneiphof/kneiphof/ByteRecord" (some 5) with
  accessFlags := 48
  interfaces := #[6]
  cf := some (fileOf pool7 10 #[] #[{ accessFlags := 0, nameIndex := 7, descriptorIndex := 8, attributes := #[] }, { accessFlags := 0, nameIndex := 26, descriptorIndex := 152, attributes := #[] }, { accessFlags := 0, nameIndex := 153, descriptorIndex := 8, attributes := #[] }, { accessFlags := 0, nameIndex := 160, descriptorIndex := 161, attributes := #[] }, { accessFlags := 2, nameIndex := 67, descriptorIndex := 68, attributes := #[] }, { accessFlags := 1, nameIndex := 30, descriptorIndex := 68, attributes := #[] }, { accessFlags := 1, nameIndex := 86, descriptorIndex := 68, attributes := #[] }] 48 4 #[146] #[{ accessFlags := 26, nameIndex := 89, descriptorIndex := 90, attributes := #[] }, { accessFlags := 26, nameIndex := 98, descriptorIndex := 90, attributes := #[] }, { accessFlags := 26, nameIndex := 148, descriptorIndex := 27, attributes := #[] }, { accessFlags := 2, nameIndex := 13, descriptorIndex := 14, attributes := #[] }, { accessFlags := 2, nameIndex := 26, descriptorIndex := 27, attributes := #[] }, { accessFlags := 18, nameIndex := 22, descriptorIndex := 23, attributes := #[] }])
  fields := #[{ name := "INT", type := (.object "java/lang/invoke/VarHandle"), accessFlags := 26, slot := 0, constantValue := 0 }, { name := "LONG", type := (.object "java/lang/invoke/VarHandle"), accessFlags := 26, slot := 1, constantValue := 0 }, { name := "MAX_SIZE", type := .int, accessFlags := 26, slot := 2, constantValue := 0 }, { name := "bytes", type := (.array .byte), accessFlags := 2, slot := 0, constantValue := 0 }, { name := "size", type := .int, accessFlags := 2, slot := 1, constantValue := 0 }, { name := "text", type := (.object "java/io/DataOutputStream"), accessFlags := 18, slot := 2, constantValue := 0 }]
  methods := #[k7m0, k7m1, k7m2, k7m3, k7m4, k7m5, k7m6]
  instanceTypes := #[(.array .byte), .int, (.object "java/io/DataOutputStream")]
  staticTypes := #[(.object "java/lang/invoke/VarHandle"), (.object "java/lang/invoke/VarHandle"), .int]
  resolved := Array.replicate 175 none
  statics := none }

def pool8 : Array CpInfo := pool [(1, .methodref 2 3), (0, .class_ 4), (0, .nameAndType 5 6), (0, u "java/io/OutputStream"), (0, u "<init>"), (0, u "()V"), (0, .class_ 8), (0, u "java/lang/Object"), (0, .methodref 7 3), (0, .fieldref 11 12), (0, .class_ 13), (0, .nameAndType 14 15), (0, u "java/io/FilterOutputStream"), (0, u "closeLock"), (0, u "Ljava/lang/Object;"), (0, .fieldref 11 17), (0, .nameAndType 18 19), (0, u "out"), (0, u "Ljava/io/OutputStream;"), (19, u "closed"), (0, u "Z"), (10, u "(Ljava/io/OutputStream;)V")] 22

def k8c0 : Code := { maxStack := 3, maxLocals := 2, code := jdk_2020_method_1_code, exceptionTable := #[], attributes := #[] }
def k8m0 : Method := { name := "<init>", desc := "(Ljava/io/OutputStream;)V", sig := { parameters := [(.object "java/io/OutputStream")], returnType := none }, accessFlags := 1, code := some k8c0 }
/-- java/io/FilterOutputStream -/
def k8 : Class := { plain "java/io/FilterOutputStream" (some 5) with
  accessFlags := 33
  interfaces := #[]
  cf := some (fileOf pool8 11 #[] #[{ accessFlags := 1, nameIndex := 5, descriptorIndex := 51, attributes := #[] }] 33 2 #[] #[{ accessFlags := 4, nameIndex := 18, descriptorIndex := 19, attributes := #[] }, { accessFlags := 66, nameIndex := 39, descriptorIndex := 40, attributes := #[] }, { accessFlags := 18, nameIndex := 14, descriptorIndex := 15, attributes := #[] }])
  fields := #[{ name := "out", type := (.object "java/io/OutputStream"), accessFlags := 4, slot := 0, constantValue := 0 }, { name := "closed", type := .boolean, accessFlags := 66, slot := 1, constantValue := 0 }, { name := "closeLock", type := (.object "java/lang/Object"), accessFlags := 18, slot := 2, constantValue := 0 }]
  methods := #[k8m0]
  instanceTypes := #[(.object "java/io/OutputStream"), .boolean, (.object "java/lang/Object")]
  staticTypes := #[]
  resolved := Array.replicate 74 none
  statics := none }

def pool9 : Array CpInfo := pool [(1, .methodref 2 3), (0, .class_ 4), (0, .nameAndType 5 6), (0, u "java/io/FilterOutputStream"), (0, u "<init>"), (0, u "(Ljava/io/OutputStream;)V"), (0, .fieldref 8 9), (0, .class_ 10), (0, .nameAndType 11 12), (0, u "java/io/DataOutputStream"), (0, u "bytearr"), (0, u "[B"), (0, .fieldref 8 14), (0, .nameAndType 15 12), (0, u "writeBuffer"), (2, u "written"), (0, u "I"), (68, .class_ 89), (0, u "java/io/DataOutput")] 83

def k9c0 : Code := { maxStack := 2, maxLocals := 2, code := jdk_2013_method_1_code, exceptionTable := #[], attributes := #[] }
def k9m0 : Method := { name := "<init>", desc := "(Ljava/io/OutputStream;)V", sig := { parameters := [(.object "java/io/OutputStream")], returnType := none }, accessFlags := 1, code := some k9c0 }
/-- java/io/DataOutputStream -/
def k9 : Class := { plain "java/io/DataOutputStream" (some 8) with
  accessFlags := 33
  interfaces := #[6]
  cf := some (fileOf pool9 8 #[] #[{ accessFlags := 1, nameIndex := 5, descriptorIndex := 6, attributes := #[] }] 33 2 #[88] #[{ accessFlags := 4, nameIndex := 18, descriptorIndex := 19, attributes := #[] }, { accessFlags := 2, nameIndex := 11, descriptorIndex := 12, attributes := #[] }, { accessFlags := 18, nameIndex := 15, descriptorIndex := 12, attributes := #[] }])
  fields := #[{ name := "written", type := .int, accessFlags := 4, slot := 3, constantValue := 0 }, { name := "bytearr", type := (.array .byte), accessFlags := 2, slot := 4, constantValue := 0 }, { name := "writeBuffer", type := (.array .byte), accessFlags := 18, slot := 5, constantValue := 0 }]
  methods := #[k9m0]
  instanceTypes := #[(.object "java/io/OutputStream"), .boolean, (.object "java/lang/Object"), .int, (.array .byte), (.array .byte)]
  staticTypes := #[]
  resolved := Array.replicate 173 none
  statics := none }

def pool10 : Array CpInfo := pool [(2, .class_ 4), (1, u "java/lang/Object"), (0, u "<init>"), (0, u "()V"), (7, .class_ 16), (1, u "java/util/Arrays"), (57, .class_ 76), (1, u "java/util/Arrays$NaturalOrder"), (36, .class_ 115), (1, u "java/util/Arrays$LegacyMergeSort"), (1, u "Z"), (32, .methodref 151 152), (0, .class_ 153), (0, .nameAndType 154 155), (0, u "java/lang/System"), (0, u "arraycopy"), (0, u "(Ljava/lang/Object;ILjava/lang/Object;II)V"), (146, u "copyOf"), (1, .methodref 305 306), (0, .class_ 307), (0, .nameAndType 308 309), (0, u "java/lang/Math"), (0, u "min"), (0, u "(II)I"), (65, .class_ 376), (0, u "java/util/Arrays$ArrayList"), (68, u "$assertionsDisabled"), (269, u "MIN_ARRAY_SORT_GRAN"), (0, u "I"), (2, u "INSERTIONSORT_THRESHOLD"), (149, u "([BI)[B"), (105, .class_ 976), (0, u "java/util/Arrays$ArrayItr")] 52

def k10m0 : Method := { name := "<init>", desc := "()V", sig := { parameters := [], returnType := none }, accessFlags := 2, code := none }
def k10c1 : Code := { maxStack := 6, maxLocals := 3, code := jdk_65_method_121_code, exceptionTable := #[], attributes := #[] }
def k10m1 : Method := { name := "copyOf", desc := "([BI)[B", sig := { parameters := [(.array .byte), .int], returnType := some (.array .byte) }, accessFlags := 9, code := some k10c1 }
/-- java/util/Arrays -/
def k10 : Class := { plain "java/util/Arrays" (some 0) with
  accessFlags := 49
  interfaces := #[]
  cf := some (fileOf pool10 14 #[.nestMembers #[975, 375, 113, 74]] #[{ accessFlags := 2, nameIndex := 5, descriptorIndex := 6, attributes := #[] }, { accessFlags := 9, nameIndex := 302, descriptorIndex := 869, attributes := #[] }] 49 2 #[] #[{ accessFlags := 26, nameIndex := 715, descriptorIndex := 716, attributes := #[] }, { accessFlags := 26, nameIndex := 719, descriptorIndex := 716, attributes := #[] }, { accessFlags := 4120, nameIndex := 445, descriptorIndex := 117, attributes := #[] }])
  fields := #[{ name := "MIN_ARRAY_SORT_GRAN", type := .int, accessFlags := 26, slot := 0, constantValue := 0 }, { name := "INSERTIONSORT_THRESHOLD", type := .int, accessFlags := 26, slot := 1, constantValue := 0 }, { name := "$assertionsDisabled", type := .boolean, accessFlags := 4120, slot := 2, constantValue := 0 }]
  methods := #[k10m0, k10m1]
  instanceTypes := #[]
  staticTypes := #[.int, .int, .boolean]
  resolved := Array.replicate 1029 none
  statics := none }

def pool11 : Array CpInfo := pool [(1, .class_ 2), (0, u "java/lang/Math"), (1, .class_ 6), (1, u "java/lang/Object"), (0, u "<init>"), (0, u "()V"), (89, .class_ 100), (1, u "java/lang/Math$RandomNumberGeneratorHolder"), (71, u "negativeZeroFloatBits"), (0, u "J"), (2, u "negativeZeroDoubleBits"), (24, u "min"), (43, u "$assertionsDisabled"), (0, u "Z"), (88, u "(II)I"), (2, u "twoToTheDoubleScaleDown"), (0, u "D"), (4, u "twoToTheDoubleScaleUp"), (9, u "E"), (3, u "PI"), (2, u "TAU"), (2, u "DEGREES_TO_RADIANS"), (0, u "RADIANS_TO_DEGREES")] 94

def k11m0 : Method := { name := "<init>", desc := "()V", sig := { parameters := [], returnType := none }, accessFlags := 2, code := none }
def k11c1 : Code := { maxStack := 2, maxLocals := 2, code := jdk_29_method_69_code, exceptionTable := #[], attributes := #[] }
def k11m1 : Method := { name := "min", desc := "(II)I", sig := { parameters := [.int, .int], returnType := some .int }, accessFlags := 9, code := some k11c1 }
/-- java/lang/Math -/
def k11 : Class := { plain "java/lang/Math" (some 0) with
  accessFlags := 49
  interfaces := #[]
  cf := some (fileOf pool11 1 #[.nestMembers #[98]] #[{ accessFlags := 2, nameIndex := 7, descriptorIndex := 8, attributes := #[] }, { accessFlags := 9, nameIndex := 201, descriptorIndex := 335, attributes := #[] }] 49 4 #[] #[{ accessFlags := 25, nameIndex := 354, descriptorIndex := 339, attributes := #[] }, { accessFlags := 25, nameIndex := 358, descriptorIndex := 339, attributes := #[] }, { accessFlags := 25, nameIndex := 361, descriptorIndex := 339, attributes := #[] }, { accessFlags := 26, nameIndex := 364, descriptorIndex := 339, attributes := #[] }, { accessFlags := 26, nameIndex := 365, descriptorIndex := 339, attributes := #[] }, { accessFlags := 26, nameIndex := 172, descriptorIndex := 173, attributes := #[] }, { accessFlags := 26, nameIndex := 176, descriptorIndex := 173, attributes := #[] }, { accessFlags := 8, nameIndex := 344, descriptorIndex := 339, attributes := #[] }, { accessFlags := 8, nameIndex := 338, descriptorIndex := 339, attributes := #[] }, { accessFlags := 4120, nameIndex := 245, descriptorIndex := 246, attributes := #[] }])
  fields := #[{ name := "E", type := .double, accessFlags := 25, slot := 0, constantValue := 0 }, { name := "PI", type := .double, accessFlags := 25, slot := 1, constantValue := 0 }, { name := "TAU", type := .double, accessFlags := 25, slot := 2, constantValue := 0 }, { name := "DEGREES_TO_RADIANS", type := .double, accessFlags := 26, slot := 3, constantValue := 0 }, { name := "RADIANS_TO_DEGREES", type := .double, accessFlags := 26, slot := 4, constantValue := 0 }, { name := "negativeZeroFloatBits", type := .long, accessFlags := 26, slot := 5, constantValue := 0 }, { name := "negativeZeroDoubleBits", type := .long, accessFlags := 26, slot := 6, constantValue := 0 }, { name := "twoToTheDoubleScaleUp", type := .double, accessFlags := 8, slot := 7, constantValue := 0 }, { name := "twoToTheDoubleScaleDown", type := .double, accessFlags := 8, slot := 8, constantValue := 0 }, { name := "$assertionsDisabled", type := .boolean, accessFlags := 4120, slot := 9, constantValue := 0 }]
  methods := #[k11m0, k11m1]
  instanceTypes := #[]
  staticTypes := #[.double, .double, .double, .double, .double, .long, .long, .double, .double, .boolean]
  resolved := Array.replicate 460 none
  statics := none }

def pool12 : Array CpInfo := pool [(2, .class_ 4), (1, u "java/lang/Object"), (0, u "<init>"), (0, u "()V"), (1, .class_ 10), (1, u "java/lang/System"), (0, u "allowSecurityManager"), (0, u "I"), (16, u "cons"), (0, u "Ljava/io/Console;"), (77, .class_ 110), (1, u "java/lang/System$CallersHolder"), (43, u "initialErrStream"), (0, u "Ljava/io/PrintStream;"), (19, u "security"), (0, u "Ljava/lang/SecurityManager;"), (31, .class_ 209), (0, u "java/lang/System$1"), (7, u "props"), (0, u "Ljava/util/Properties;"), (2, u "lineSeparator"), (0, u "Ljava/lang/String;"), (96, .class_ 321), (1, u "java/lang/System$LoggerFinder"), (5, .class_ 328), (0, u "java/lang/System$Logger"), (67, u "err"), (2, u "out"), (91, u "notSupportedJnuEncoding"), (15, u "in"), (17, u "initialIn"), (0, u "Ljava/io/InputStream;"), (35, u "bootLayer"), (0, u "Ljava/lang/ModuleLayer;"), (99, .class_ 664), (0, u "java/lang/System$2"), (9, u "NEVER"), (2, u "MAYBE"), (49, u "arraycopy"), (0, u "(Ljava/lang/Object;ILjava/lang/Object;II)V"), (72, .class_ 802), (0, u "java/lang/System$Logger$Level")] 31

def k12m0 : Method := { name := "<init>", desc := "()V", sig := { parameters := [], returnType := none }, accessFlags := 2, code := none }
def k12m1 : Method := { name := "arraycopy", desc := "(Ljava/lang/Object;ILjava/lang/Object;II)V", sig := { parameters := [(.object "java/lang/Object"), .int, (.object "java/lang/Object"), .int, .int], returnType := none }, accessFlags := 265, code := none }
/-- java/lang/System -/
def k12 : Class := { plain "java/lang/System" (some 0) with
  accessFlags := 49
  interfaces := #[]
  cf := some (fileOf pool12 8 #[.nestMembers #[319, 327, 801, 108, 663, 208]] #[{ accessFlags := 2, nameIndex := 5, descriptorIndex := 6, attributes := #[] }, { accessFlags := 265, nameIndex := 727, descriptorIndex := 728, attributes := #[] }] 49 2 #[] #[{ accessFlags := 25, nameIndex := 507, descriptorIndex := 526, attributes := #[] }, { accessFlags := 25, nameIndex := 399, descriptorIndex := 155, attributes := #[] }, { accessFlags := 25, nameIndex := 396, descriptorIndex := 155, attributes := #[] }, { accessFlags := 10, nameIndex := 525, descriptorIndex := 526, attributes := #[] }, { accessFlags := 26, nameIndex := 674, descriptorIndex := 12, attributes := #[] }, { accessFlags := 26, nameIndex := 677, descriptorIndex := 12, attributes := #[] }, { accessFlags := 10, nameIndex := 11, descriptorIndex := 12, attributes := #[] }, { accessFlags := 74, nameIndex := 175, descriptorIndex := 176, attributes := #[] }, { accessFlags := 10, nameIndex := 491, descriptorIndex := 222, attributes := #[] }, { accessFlags := 74, nameIndex := 29, descriptorIndex := 30, attributes := #[] }, { accessFlags := 74, nameIndex := 154, descriptorIndex := 155, attributes := #[] }, { accessFlags := 10, nameIndex := 217, descriptorIndex := 218, attributes := #[] }, { accessFlags := 10, nameIndex := 221, descriptorIndex := 222, attributes := #[] }, { accessFlags := 8, nameIndex := 562, descriptorIndex := 563, attributes := #[] }])
  fields := #[{ name := "in", type := (.object "java/io/InputStream"), accessFlags := 25, slot := 0, constantValue := 0 }, { name := "out", type := (.object "java/io/PrintStream"), accessFlags := 25, slot := 1, constantValue := 0 }, { name := "err", type := (.object "java/io/PrintStream"), accessFlags := 25, slot := 2, constantValue := 0 }, { name := "initialIn", type := (.object "java/io/InputStream"), accessFlags := 10, slot := 3, constantValue := 0 }, { name := "NEVER", type := .int, accessFlags := 26, slot := 4, constantValue := 0 }, { name := "MAYBE", type := .int, accessFlags := 26, slot := 5, constantValue := 0 }, { name := "allowSecurityManager", type := .int, accessFlags := 10, slot := 6, constantValue := 0 }, { name := "security", type := (.object "java/lang/SecurityManager"), accessFlags := 74, slot := 7, constantValue := 0 }, { name := "notSupportedJnuEncoding", type := (.object "java/lang/String"), accessFlags := 10, slot := 8, constantValue := 0 }, { name := "cons", type := (.object "java/io/Console"), accessFlags := 74, slot := 9, constantValue := 0 }, { name := "initialErrStream", type := (.object "java/io/PrintStream"), accessFlags := 74, slot := 10, constantValue := 0 }, { name := "props", type := (.object "java/util/Properties"), accessFlags := 10, slot := 11, constantValue := 0 }, { name := "lineSeparator", type := (.object "java/lang/String"), accessFlags := 10, slot := 12, constantValue := 0 }, { name := "bootLayer", type := (.object "java/lang/ModuleLayer"), accessFlags := 8, slot := 13, constantValue := 0 }]
  methods := #[k12m0, k12m1]
  instanceTypes := #[]
  staticTypes := #[(.object "java/io/InputStream"), (.object "java/io/PrintStream"), (.object "java/io/PrintStream"), (.object "java/io/InputStream"), .int, .int, .int, (.object "java/lang/SecurityManager"), (.object "java/lang/String"), (.object "java/io/Console"), (.object "java/io/PrintStream"), (.object "java/util/Properties"), (.object "java/lang/String"), (.object "java/lang/ModuleLayer")]
  resolved := Array.replicate 834 none
  statics := none }

def pool13 : Array CpInfo := pool [(1, u "java/lang/Cloneable"), (0, .class_ 1), (0, u "java/lang/Object"), (0, .class_ 3)] 3

/-- java/lang/Cloneable -/
def k13 : Class := { plain "java/lang/Cloneable" (some 0) with
  accessFlags := 1537
  interfaces := #[]
  cf := some (fileOf pool13 2 #[] #[] 1537 4 #[] #[])
  fields := #[]
  methods := #[]
  instanceTypes := #[]
  staticTypes := #[]
  resolved := Array.replicate 8 none
  statics := none }

def pool14 : Array CpInfo := pool [(1, u "java/io/Serializable"), (0, .class_ 1), (0, u "java/lang/Object"), (0, .class_ 3)] 3

/-- java/io/Serializable -/
def k14 : Class := { plain "java/io/Serializable" (some 0) with
  accessFlags := 1537
  interfaces := #[]
  cf := some (fileOf pool14 2 #[] #[] 1537 4 #[] #[])
  fields := #[]
  methods := #[]
  instanceTypes := #[]
  staticTypes := #[]
  resolved := Array.replicate 8 none
  statics := none }

/-- the primitive byte -/
def k15 : Class := { plain "byte" none with kind := .primitive 'B', accessFlags := 0x411 }
/-- [B -/
def k16 : Class := { plain "[B" (some 0) with kind := .array 15 .byte, interfaces := #[13, 14], accessFlags := 1041 }

/-- the primitive int -/
def k17 : Class := { plain "int" none with kind := .primitive 'I', accessFlags := 0x411 }
/-- [I -/
def k18 : Class := { plain "[I" (some 0) with kind := .array 17 .int, interfaces := #[13, 14], accessFlags := 1041 }

def heap : Heap := #[]
def classes : Array Class := #[k0, k1, k2, k3, k4, k5, k6, k7, k8, k9, k10, k11, k12, k13, k14, k15, k16, k17, k18]
def interned : List (Array UInt16 × Addr) := []
def slotsUsed : Nat := 0
def theMethod : MethodId := ⟨1, 1⟩
def args0 : Array Value := #[.int 3, .int 4, .int 5, .int 7]
def aboutOver (below : List Frame) : State where
  vm := { classes := classes, interned := interned.toArray }
  heap := heap
  slotsUsed := slotsUsed
  threads := #[{ frames := .invoking theMethod args0 :: below }]
def below0 : List Frame := [.native { method := ⟨0, 0⟩, args := #[] }]
def about1 : State := aboutOver below0
def p0 : Program := .bare "" "" ""
def e0 : Env := launch0.env 0 0 0
theorem w_frames : about1.frames = Frame.invoking theMethod args0 :: below0 := rfl
set_option maxRecDepth 65536 in
theorem w_args : argsFit about1.vm theMethod args0 = true := by decide +kernel
set_option maxRecDepth 65536 in
theorem w_heap : heapFits about1 = true := by decide +kernel
set_option maxRecDepth 65536 in
theorem w_runnable : about1.curStatus? = some .runnable := by decide +kernel
set_option maxRecDepth 65536 in
theorem w_alone : about1.alone = true := by decide +kernel
set_option maxRecDepth 65536 in
theorem w_named : about1.methodNamed? x = some theMethod := by decide +kernel
set_option maxRecDepth 65536 in
theorem w_hears : about1.hears theMethod below0 = true := by decide +kernel
set_option maxRecDepth 65536 in
theorem w_ripe : about1.ripe theMethod args0 below0 = true := by decide +kernel
theorem w_running : about1.status = .running := rfl
set_option maxRecDepth 65536 in
theorem w_room : about1.hasRoom e0.platform room_1 = true :=
  launch0.hasRoom_least _ room_1 (by decide +kernel) (by decide +kernel) (by decide +kernel) (by decide +kernel) (by decide +kernel) (by decide +kernel)
theorem allAtoms_all (ts : List Jvm.Cond) (a : Array Jvm.Value) (st : Jvm.State) : (allAtoms ts).before a st = ts.all (fun c => c.before a st) := by
  induction ts with
  | nil => rfl
  | cons c t ih =>
    show (Jvm.Cond.and c (allAtoms t)).before a st = _
    rw [Jvm.Cond.before_and, ih, List.all_cons]
def words1 : List Jvm.Cond := Jvm.Cond.code x code maxLocals ret :: tables_1
/-- a 'code' word, met by the world's own term for the bytes: nothing is compared byte by byte -/
theorem code_word {y : MethodName} {bytes : ByteArray} {mx : Nat} {rt : Option FieldType} {a : Array Value} {s : State} {m : MethodId} {meth : Method} {c : Code} (h1 : s.methodNamed? y = some m) (h2 : s.vm.method? m = some meth) (h3 : meth.code = some c) (h4 : c.code = bytes)
    (h5 : (c.maxLocals == mx && c.exceptionTable.isEmpty && decide (c.maxStack ≤ mostOperands) && decide (meth.sig.returnType = rt) && !meth.locks && decide (parseMethodDescriptor y.desc = some meth.sig)) = true) : (Jvm.Cond.code y bytes mx rt).before a s = true := by
  simp only [Bool.and_eq_true, beq_iff_eq, Bool.not_eq_true', decide_eq_true_eq] at h5
  obtain ⟨⟨⟨⟨⟨g1, g2⟩, g3⟩, g4⟩, g5⟩, g6⟩ := h5
  simp [Cond.before, Cond.holds, Cond.value, h1, h2, h3, h4, g1, g2, g3, g4, g5, g6]
def isCode : Jvm.Cond → Bool
  | .code _ _ _ _ => true
  | _ => false
theorem all_split {L : List Jvm.Cond} {P : Jvm.Cond → Bool} (h1 : L.all (fun c => isCode c || P c) = true) (h2 : ∀ c ∈ L.filter isCode, P c = true) : L.all P = true := by
  refine List.all_eq_true.mpr fun c hc => ?_
  have h := List.all_eq_true.mp h1 c hc
  rcases Bool.eq_false_or_eq_true (isCode c) with hi | hi
  · exact h2 c (List.mem_filter.mpr ⟨hc, hi⟩)
  · simpa [hi] using h
set_option maxRecDepth 65536 in
theorem w_c0 : (Jvm.Cond.code x code maxLocals ret).before args0 about1 = true := code_word (m := ⟨1, 1⟩) (meth := k1m1) (c := k1c1) (by decide +kernel) rfl rfl rfl (by decide +kernel)
set_option maxRecDepth 65536 in
theorem w_c1 : (Jvm.Cond.code ({ cls := "com/example/kneiphof/kneiphof/ByteRecord", name := "<init>", desc := "()V" } : Jvm.MethodName) prog_6_method_1_code (1 : Nat) (Option.none : Option Jvm.ClassFile.FieldType)).before args0 about1 = true := code_word (m := ⟨7, 0⟩) (meth := k7m0) (c := k7c0) (by decide +kernel) rfl rfl rfl (by decide +kernel)
set_option maxRecDepth 65536 in
theorem w_c2 : (Jvm.Cond.code ({ cls := "java/io/OutputStream", name := "<init>", desc := "()V" } : Jvm.MethodName) jdk_2038_method_1_code (1 : Nat) (Option.none : Option Jvm.ClassFile.FieldType)).before args0 about1 = true := code_word (m := ⟨5, 0⟩) (meth := k5m0) (c := k5c0) (by decide +kernel) rfl rfl rfl (by decide +kernel)
set_option maxRecDepth 65536 in
theorem w_c3 : (Jvm.Cond.code ({ cls := "java/lang/Object", name := "<init>", desc := "()V" } : Jvm.MethodName) object_method_1_code (1 : Nat) (Option.none : Option Jvm.ClassFile.FieldType)).before args0 about1 = true := code_word (m := ⟨0, 0⟩) (meth := k0m0) (c := k0c0) (by decide +kernel) rfl rfl rfl (by decide +kernel)
set_option maxRecDepth 65536 in
theorem w_c4 : (Jvm.Cond.code ({ cls := "java/io/DataOutputStream", name := "<init>", desc := "(Ljava/io/OutputStream;)V" } : Jvm.MethodName) jdk_2013_method_1_code (2 : Nat) (Option.none : Option Jvm.ClassFile.FieldType)).before args0 about1 = true := code_word (m := ⟨9, 0⟩) (meth := k9m0) (c := k9c0) (by decide +kernel) rfl rfl rfl (by decide +kernel)
set_option maxRecDepth 65536 in
theorem w_c5 : (Jvm.Cond.code ({ cls := "java/io/FilterOutputStream", name := "<init>", desc := "(Ljava/io/OutputStream;)V" } : Jvm.MethodName) jdk_2020_method_1_code (2 : Nat) (Option.none : Option Jvm.ClassFile.FieldType)).before args0 about1 = true := code_word (m := ⟨8, 0⟩) (meth := k8m0) (c := k8c0) (by decide +kernel) rfl rfl rfl (by decide +kernel)
set_option maxRecDepth 65536 in
theorem w_c6 : (Jvm.Cond.code ({ cls := "com/example/kneiphof/kneiphof/ByteRecord", name := "write", desc := "(I)V" } : Jvm.MethodName) prog_6_method_8_code (2 : Nat) (Option.none : Option Jvm.ClassFile.FieldType)).before args0 about1 = true := code_word (m := ⟨7, 5⟩) (meth := k7m5) (c := k7c5) (by decide +kernel) rfl rfl rfl (by decide +kernel)
set_option maxRecDepth 65536 in
theorem w_c7 : (Jvm.Cond.code ({ cls := "com/example/kneiphof/kneiphof/ByteRecord", name := "room", desc := "(I)V" } : Jvm.MethodName) prog_6_method_7_code (3 : Nat) (Option.none : Option Jvm.ClassFile.FieldType)).before args0 about1 = true := code_word (m := ⟨7, 4⟩) (meth := k7m4) (c := k7c4) (by decide +kernel) rfl rfl rfl (by decide +kernel)
set_option maxRecDepth 65536 in
theorem w_c8 : (Jvm.Cond.code ({ cls := "com/example/kneiphof/kneiphof/ByteRecord", name := "toByteArray", desc := "()[B" } : Jvm.MethodName) prog_6_method_6_code (1 : Nat) (Option.some (Jvm.ClassFile.FieldType.array Jvm.ClassFile.FieldType.byte))).before args0 about1 = true := code_word (m := ⟨7, 3⟩) (meth := k7m3) (c := k7c3) (by decide +kernel) rfl rfl rfl (by decide +kernel)
set_option maxRecDepth 65536 in
theorem w_c9 : (Jvm.Cond.code ({ cls := "java/util/Arrays", name := "copyOf", desc := "([BI)[B" } : Jvm.MethodName) jdk_65_method_121_code (3 : Nat) (Option.some (Jvm.ClassFile.FieldType.array Jvm.ClassFile.FieldType.byte))).before args0 about1 = true := code_word (m := ⟨10, 1⟩) (meth := k10m1) (c := k10c1) (by decide +kernel) rfl rfl rfl (by decide +kernel)
set_option maxRecDepth 65536 in
theorem w_c10 : (Jvm.Cond.code ({ cls := "java/lang/Math", name := "min", desc := "(II)I" } : Jvm.MethodName) jdk_29_method_69_code (2 : Nat) (Option.some Jvm.ClassFile.FieldType.int)).before args0 about1 = true := code_word (m := ⟨11, 1⟩) (meth := k11m1) (c := k11c1) (by decide +kernel) rfl rfl rfl (by decide +kernel)
set_option maxRecDepth 65536 in
theorem w_c11 : (Jvm.Cond.code ({ cls := "com/example/kneiphof/kneiphof/ByteRecord", name := "size", desc := "()I" } : Jvm.MethodName) prog_6_method_2_code (1 : Nat) (Option.some Jvm.ClassFile.FieldType.int)).before args0 about1 = true := code_word (m := ⟨7, 1⟩) (meth := k7m1) (c := k7c1) (by decide +kernel) rfl rfl rfl (by decide +kernel)
set_option maxRecDepth 65536 in
theorem w_c12 : (Jvm.Cond.code ({ cls := "com/example/kneiphof/kneiphof/ByteRecord", name := "writeShort", desc := "(I)V" } : Jvm.MethodName) prog_6_method_13_code (2 : Nat) (Option.none : Option Jvm.ClassFile.FieldType)).before args0 about1 = true := code_word (m := ⟨7, 6⟩) (meth := k7m6) (c := k7c6) (by decide +kernel) rfl rfl rfl (by decide +kernel)
set_option maxRecDepth 65536 in
theorem w_c13 : (Jvm.Cond.code ({ cls := "com/example/kneiphof/kneiphof/ByteRecord", name := "reset", desc := "()V" } : Jvm.MethodName) prog_6_method_3_code (1 : Nat) (Option.none : Option Jvm.ClassFile.FieldType)).before args0 about1 = true := code_word (m := ⟨7, 2⟩) (meth := k7m2) (c := k7c2) (by decide +kernel) rfl rfl rfl (by decide +kernel)
def codes1 : List Jvm.Cond := [Jvm.Cond.code x code maxLocals ret, Jvm.Cond.code ({ cls := "com/example/kneiphof/kneiphof/ByteRecord", name := "<init>", desc := "()V" } : Jvm.MethodName) prog_6_method_1_code (1 : Nat) (Option.none : Option Jvm.ClassFile.FieldType), Jvm.Cond.code ({ cls := "java/io/OutputStream", name := "<init>", desc := "()V" } : Jvm.MethodName) jdk_2038_method_1_code (1 : Nat) (Option.none : Option Jvm.ClassFile.FieldType), Jvm.Cond.code ({ cls := "java/lang/Object", name := "<init>", desc := "()V" } : Jvm.MethodName) object_method_1_code (1 : Nat) (Option.none : Option Jvm.ClassFile.FieldType), Jvm.Cond.code ({ cls := "java/io/DataOutputStream", name := "<init>", desc := "(Ljava/io/OutputStream;)V" } : Jvm.MethodName) jdk_2013_method_1_code (2 : Nat) (Option.none : Option Jvm.ClassFile.FieldType), Jvm.Cond.code ({ cls := "java/io/FilterOutputStream", name := "<init>", desc := "(Ljava/io/OutputStream;)V" } : Jvm.MethodName) jdk_2020_method_1_code (2 : Nat) (Option.none : Option Jvm.ClassFile.FieldType), Jvm.Cond.code ({ cls := "com/example/kneiphof/kneiphof/ByteRecord", name := "write", desc := "(I)V" } : Jvm.MethodName) prog_6_method_8_code (2 : Nat) (Option.none : Option Jvm.ClassFile.FieldType), Jvm.Cond.code ({ cls := "com/example/kneiphof/kneiphof/ByteRecord", name := "room", desc := "(I)V" } : Jvm.MethodName) prog_6_method_7_code (3 : Nat) (Option.none : Option Jvm.ClassFile.FieldType), Jvm.Cond.code ({ cls := "com/example/kneiphof/kneiphof/ByteRecord", name := "toByteArray", desc := "()[B" } : Jvm.MethodName) prog_6_method_6_code (1 : Nat) (Option.some (Jvm.ClassFile.FieldType.array Jvm.ClassFile.FieldType.byte)), Jvm.Cond.code ({ cls := "java/util/Arrays", name := "copyOf", desc := "([BI)[B" } : Jvm.MethodName) jdk_65_method_121_code (3 : Nat) (Option.some (Jvm.ClassFile.FieldType.array Jvm.ClassFile.FieldType.byte)), Jvm.Cond.code ({ cls := "java/lang/Math", name := "min", desc := "(II)I" } : Jvm.MethodName) jdk_29_method_69_code (2 : Nat) (Option.some Jvm.ClassFile.FieldType.int), Jvm.Cond.code ({ cls := "com/example/kneiphof/kneiphof/ByteRecord", name := "size", desc := "()I" } : Jvm.MethodName) prog_6_method_2_code (1 : Nat) (Option.some Jvm.ClassFile.FieldType.int), Jvm.Cond.code ({ cls := "com/example/kneiphof/kneiphof/ByteRecord", name := "writeShort", desc := "(I)V" } : Jvm.MethodName) prog_6_method_13_code (2 : Nat) (Option.none : Option Jvm.ClassFile.FieldType), Jvm.Cond.code ({ cls := "com/example/kneiphof/kneiphof/ByteRecord", name := "reset", desc := "()V" } : Jvm.MethodName) prog_6_method_3_code (1 : Nat) (Option.none : Option Jvm.ClassFile.FieldType)]
set_option maxRecDepth 65536 in
theorem codes_eq : words1.filter isCode = codes1 := rfl
theorem w_codes : ∀ c ∈ words1.filter isCode, c.before args0 about1 = true := by
  rw [codes_eq]
  intro c hc
  simp only [codes1, List.mem_cons, List.not_mem_nil, or_false] at hc
  rcases hc with rfl | rfl | rfl | rfl | rfl | rfl | rfl | rfl | rfl | rfl | rfl | rfl | rfl | rfl
  · exact w_c0
  · exact w_c1
  · exact w_c2
  · exact w_c3
  · exact w_c4
  · exact w_c5
  · exact w_c6
  · exact w_c7
  · exact w_c8
  · exact w_c9
  · exact w_c10
  · exact w_c11
  · exact w_c12
  · exact w_c13
set_option maxRecDepth 65536 in
theorem w_t1 : (words1.take 24).all (fun c => isCode c || c.before args0 about1) = true := by decide +kernel
set_option maxRecDepth 65536 in
theorem w_t2 : ((words1.drop 24).take 24).all (fun c => isCode c || c.before args0 about1) = true := by decide +kernel
set_option maxRecDepth 65536 in
theorem w_t3 : (((words1.drop 24).drop 24).take 24).all (fun c => isCode c || c.before args0 about1) = true := by decide +kernel
set_option maxRecDepth 65536 in
theorem w_t4 : (((words1.drop 24).drop 24).drop 24).all (fun c => isCode c || c.before args0 about1) = true := by decide +kernel
theorem w_tables : (allAtoms (Jvm.Cond.code x code maxLocals ret :: tables_1)).before args0 about1 = true := by
  rw [allAtoms_all]
  show words1.all (fun c => c.before args0 about1) = true
  refine all_split ?_ w_codes
  rw [← List.take_append_drop 24 words1, List.all_append, w_t1, ← List.take_append_drop 24 (words1.drop 24), List.all_append, w_t2, ← List.take_append_drop 24 ((words1.drop 24).drop 24), List.all_append, w_t3, w_t4]
  rfl
set_option maxRecDepth 65536 in
theorem w_case : (Jvm.Cond.and given_1 narrow_1).before args0 about1 = true := by decide +kernel
theorem w_applies : (headSpec (Jvm.Cond.code x code maxLocals ret :: tables_1) room_1).applies x e0.platform about1 = true :=
  (Spec.applies_iff w_frames).mpr ⟨w_running, w_runnable, w_alone, w_named, w_hears, w_ripe, w_room, w_tables⟩
theorem atStart : AtStart classFile x code maxLocals ret World_1 tables_1 room_1 Calls_1 rest_1 Pre_1 launch0 p0 e0 about1 theMethod args0 below0 :=
  ⟨lists_1, trivial, launch0.admits_env _ _ _, launch0.least_env, fairChoices_fair.cas, fairChoices_fair.clock, w_frames, w_args, w_heap, w_applies, trivial, trivial, w_case⟩
end start1
theorem witness_1 : WitnessClaimed_1 := ⟨start1.p0, start1.e0, start1.about1, start1.theMethod, start1.args0, start1.below0, start1.atStart⟩
end Jvm.Pilot.@@N@@
