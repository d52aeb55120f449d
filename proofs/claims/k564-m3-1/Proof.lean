import JvmDerived
import JvmDerived.Pilot.@@N@@Statement
import JvmDerived.Pilot.@@N@@Code
set_option linter.unusedVariables false
set_option linter.unusedSimpArgs false
namespace Jvm.Pilot.@@N@@
open Jvm Jvm.ClassFile Sem Op Lib Jvm.Free Jvm.Stand Jvm.LawKit Jvm.RoadKit Bundle Jvm.Pilot.@@N@@.Jvm.D
theorem own_retI {p : Program} {l : Launch} {e : Env} {R : Room} {s : State} {m : MethodId} {args : Array Value} {below : List Frame} {meth : Method} {c : Code} {T : State} {locs : List Loc} {cells slots : Nat} (X : Stand p l e R s m args below meth c T locs cells slots) (hx : p.tables.exec = Jvm.exec) {pc : Nat} {Ls : Array Slot} {z : Int32} {rest : List Value} (hret : meth.sig.returnType = some .int) (hd : decode c.code pc = .ok (.ireturn, 1)) {fs : List Frame}
    (hl : ∀ (f : JFrame) (acts : List Action), f.method = m → f.locked = none → f.entered = [] → (doReturn e (T.setTop f) acts (some (.int z))).1 = T.setFrames fs) : Steps p.tables e below (T.setTop (mkF m pc Ls (.int z :: rest))) (T.setFrames fs) :=
  retOut X hx hret rfl (Or.inl ⟨rfl, Or.inl rfl, z, rfl⟩) hd hl
theorem own_retJ {p : Program} {l : Launch} {e : Env} {R : Room} {s : State} {m : MethodId} {args : Array Value} {below : List Frame} {meth : Method} {c : Code} {T : State} {locs : List Loc} {cells slots : Nat} (X : Stand p l e R s m args below meth c T locs cells slots) (hx : p.tables.exec = Jvm.exec) {pc : Nat} {Ls : Array Slot} {z : Int64} {rest : List Value} (hret : meth.sig.returnType = some .long) (hd : decode c.code pc = .ok (.lreturn, 1)) {fs : List Frame}
    (hl : ∀ (f : JFrame) (acts : List Action), f.method = m → f.locked = none → f.entered = [] → (doReturn e (T.setTop f) acts (some (.long z))).1 = T.setFrames fs) : Steps p.tables e below (T.setTop (mkF m pc Ls (.long z :: rest))) (T.setFrames fs) :=
  retOut X hx hret rfl (Or.inr (Or.inl ⟨rfl, rfl, z, rfl⟩)) hd hl
theorem own_retA {p : Program} {l : Launch} {e : Env} {R : Room} {s : State} {m : MethodId} {args : Array Value} {below : List Frame} {meth : Method} {c : Code} {T : State} {locs : List Loc} {cells slots : Nat} (X : Stand p l e R s m args below meth c T locs cells slots) (hx : p.tables.exec = Jvm.exec) {pc : Nat} {Ls : Array Slot} {w : Value} {rest : List Value} {t : FieldType} (hret : meth.sig.returnType = some t) (ht : t.isReference = true) (hn : narrow t w = w) (hw : w.isRef = true) (hd : decode c.code pc = .ok (.areturn, 1)) {fs : List Frame}
    (hl : ∀ (f : JFrame) (acts : List Action), f.method = m → f.locked = none → f.entered = [] → (doReturn e (T.setTop f) acts (some w)).1 = T.setFrames fs) : Steps p.tables e below (T.setTop (mkF m pc Ls (w :: rest))) (T.setFrames fs) :=
  retOut X hx hret hn (Or.inr (Or.inr (Or.inr (Or.inr ⟨rfl, ht, hw⟩)))) hd hl
theorem own_go {tb : Tables} {e : Env} {below : List Frame} {A B : State} {R : State → Outcome → Prop} (st : ∀ t, Steps tb e below A t → Steps tb e below B t) (h : ∃ U o, Steps tb e below A U ∧ R U o) : ∃ U o, Steps tb e below B U ∧ R U o := by
  obtain ⟨U, o, h1, h2⟩ := h
  exact ⟨U, o, st U h1, h2⟩
theorem own_via {tb : Tables} {e : Env} {below : List Frame} {A B : State} {R : State → Outcome → Prop} (st : Steps tb e below B A) (h : ∃ U o, Steps tb e below A U ∧ R U o) : ∃ U o, Steps tb e below B U ∧ R U o := by
  obtain ⟨U, o, h1, h2⟩ := h
  exact ⟨U, o, st.trans h1, h2⟩
theorem own_eqInt {t : Term} {k : Int32} {args : Array Value} {s : State} (h : (Jvm.Cond.eq t (.int k)).value args s none s [] = some true) : t.eval args s none [] s = some (.int k) := by
  cases ha : t.eval args s none [] s with
  | none => simp [Cond.value, ha] at h
  | some x => cases x <;> simp_all [Cond.value, Term.eval, Value.isRef]
theorem own_selP {s : State} {args : Array Value} {y : MethodName} {n : Nat} (hinst : (Jvm.Cond.instanceMethod y).before args s = true) (hp : (Jvm.Cond.privateMethod y).before args s = true) (hi : (Jvm.Cond.instantiable y.cls n).before args s = true) (hy : y.cls ≠ "java/lang/invoke/MethodHandle" ∧ y.cls ≠ "java/lang/invoke/VarHandle") : (Jvm.Cond.selects y.cls y y).before args s = true := by
  obtain ⟨c, k, h1, h2, -, h4, -, -⟩ := Cond.instantiable_spec hi
  simp only [Bool.or_eq_false_iff] at h4
  exact selects_self_of_private h1 h2 h4.1 (Cond.privateMethod_at hp) hinst hy
theorem own_stoV {Z : State} {h : Heap} {a y : Addr} {k : ClassId} {ty : FieldType} {n : Int32} {vs : List Value} {d : Value} {C : String} (F : Arv Z h a k ty n vs d) (O : Ovr Z k C) (I : Ins Z h y C true) : Sto Z h a (.ref y) := by
  obtain ⟨c, A, q, -⟩ := F
  exact Sto.ofV A q O I
theorem own_cat1 {v : Value} (h : v.isRef = true) : v.category = 1 := by cases v <;> simp_all [Value.isRef, Value.category]
theorem own_nref {t : FieldType} {v : Value} (h : v.isRef = true) : narrow t v = v := by cases v <;> simp_all [Value.isRef, narrow]
theorem own_narb (x : Int32) : nar .byte x.toInt8.toInt32 = x.toInt8.toInt32 := by simp [nar]
theorem own_w {Z : State} {a0 : Array Value} (hw : ∀ d ∈ tables_1, d.before a0 Z = true) (i : Nat) {d : Jvm.Cond} (h : tables_1[i]? = some d) : d.before a0 Z = true := hw _ (List.mem_of_getElem? h)
theorem own_bT {P : Prop} [Decidable P] (h : P) : (if P then (1 : Int32) else 0) = 1 := if_pos h
theorem own_bF {P : Prop} [Decidable P] (h : ¬ P) : (if P then (1 : Int32) else 0) = 0 := if_neg h
theorem own_narB {P : Prop} [Decidable P] : nar .boolean (if P then (1 : Int32) else 0) = (if P then (1 : Int32) else 0) := by split <;> rfl
theorem d1_0 : decode prog_121_method_7_code 0 = .ok (.aload_n 0, 1) := by decide +kernel
theorem d1_1 : decode prog_121_method_7_code 1 = .ok (.getstatic 10, 3) := by decide +kernel
theorem d1_4 : decode prog_121_method_7_code 4 = .ok (.if_acmp .eq 10, 3) := by decide +kernel
theorem d1_7 : decode prog_121_method_7_code 7 = .ok (.aload_n 0, 1) := by decide +kernel
theorem d1_8 : decode prog_121_method_7_code 8 = .ok (.getstatic 13, 3) := by decide +kernel
theorem d1_11 : decode prog_121_method_7_code 11 = .ok (.if_acmp .ne 7, 3) := by decide +kernel
theorem d1_18 : decode prog_121_method_7_code 18 = .ok (.iconst 0, 1) := by decide +kernel
theorem d1_19 : decode prog_121_method_7_code 19 = .ok (.ireturn, 1) := by decide +kernel
abbrev own_y0 : MethodName := ⟨"com/example/vestwright/vestwright/model/SeparationCase", "creditedToBenefitAge", "()Z"⟩
theorem ef_rmCred0 (m : MethodId) (a : Addr) : entryFrame m #[(.ref a)] 1 = mkF m 0 #[.val (.ref a)] [] := by first | (simp [entryFrame, mkF, argsToLocals, Value.category]; done) | rfl
def Q_rmCred0 (Z : State) (a : Addr) (b_DISABILITY : Addr) (b_CHANGE_IN_CONTROL : Addr) (h0 : Heap) (n0 : Nat) (v_ : Option Value) (h_ : Heap) (L_ : List Loc) : Prop := v_ = some (.int (0 : Int32)) ∧ Fr n0 L_ ∧ h_ = h0
theorem pn_0 : plainName "com/example/vestwright/vestwright/model/SeparationCase" = true := by first | (simp [plainName, overriddenIn]; done) | decide +kernel
set_option maxRecDepth 65536 in
set_option maxHeartbeats 40000000 in
theorem rmCred0 (l : Launch) (Z : State) (a0 : Array Value) (hw : ∀ d ∈ tables_1, d.before a0 Z = true) (ws : List Jvm.Cond) (a : Addr) (b_DISABILITY : Addr) (b_CHANGE_IN_CONTROL : Addr) (h0 : Heap) (n0 : Nat) (Z0 : n0 ≤ h0.size) (O0 : Old Z n0 h0) (u1 : Sta Z Z.heap "com/example/vestwright/vestwright/model/SeparationCase" "DISABILITY" "Lcom/example/vestwright/vestwright/model/SeparationCase;" (.ref b_DISABILITY)) (u2 : Sta Z Z.heap "com/example/vestwright/vestwright/model/SeparationCase" "CHANGE_IN_CONTROL" "Lcom/example/vestwright/vestwright/model/SeparationCase;" (.ref b_CHANGE_IN_CONTROL)) (u3 : a ≠ b_DISABILITY) (u4 : a ≠ b_CHANGE_IN_CONTROL) :
    MetFree l own_y0 (head1 (Jvm.Cond.code own_y0 prog_121_method_7_code 1 (some .boolean) :: ws) ({ frames := 0, cells := 0, slots := 0, locals := 0 } : Room)) (fun a_ U_ => a_ = #[(.ref a)] ∧ Z.Warmed39 U_.vm ∧ U_.heap = h0) (fun _ _ _ _ _ => True) (fun _ U_ o_ U2_ => ∃ v_ L_, o_ = .returned v_ ∧ Q_rmCred0 Z a b_DISABILITY b_CHANGE_IN_CONTROL h0 n0 v_ U2_.heap L_ ∧ FrameEnd U_ o_ U2_ L_ ({ frames := 0, cells := 0, slots := 0, locals := 0 } : Room).cells ({ frames := 0, cells := 0, slots := 0, locals := 0 } : Room).slots) := by
  refine MetFree.of_bodySF (plainFor_of_name pn_0) hisR ?_
  intro p e s m args below meth c s₁ Bd hml0 hP hK
  obtain ⟨rfl, hZ, hh⟩ := hP
  have hx := Bd.exec
  have hby := Bd.bytes
  have hml : c.maxLocals = 1 := hml0
  have hown : s.vm.findClass "com/example/vestwright/vestwright/model/SeparationCase" = some m.cls := findClass_of_methodNamed Bd.named
  have hnm := (name_of_methodNamed Bd.named Bd.method).1
  have X0 : Stand p l e ({ frames := 0, cells := 0, slots := 0, locals := 0 } : Room) s m #[(.ref a)] below meth c s₁ [] 0 0 := Stand.of_body Bd
  have e0 : s₁.heap = h0 := by rw [← hh, Bd.state]; rfl
  have N0 := Fr.nil n0
  refine own_go (A := s₁.setTop (mkF m 0 #[.val (.ref a)] [])) (fun t_ k_ => castTop (ef_rmCred0 m a) k_) ?_
  refine own_go (A := s₁.setTop (mkF m 1 #[.val (.ref a)] [(.ref a)])) (fun t_ k_ => ?_) ?_
  · show Steps p.tables e below (s₁.setTop (mkF m 0 #[.val (.ref a)] [])) t_
    refine XS.aloadN X0.here hx rfl (hb hby d1_0) rfl rfl ?_
    exact k_
  obtain ⟨T1, X1, e1, st1⟩ := getS2 X0 hx hZ hown (host := "") (Or.inl (own_w hw 28 rfl)) Via.refl e0 (u1.ext O0.2) (g := (mkF m 1 #[.val (.ref a)] [(.ref a)])) rfl (hb hby d1_1)
  refine own_go st1 ?_
  refine own_go (A := T1.setTop (mkF m 8 #[.val (.ref a)] [(.ref a)])) (fun t_ k_ => ?_) ?_
  · show Steps p.tables e below (T1.setTop (mkF m 4 #[.val (.ref a)] [(.ref b_DISABILITY), (.ref a)])) t_
    refine Jvm.RoadKit.acmp (g := (mkF m 4 #[.val (.ref a)] [(.ref b_DISABILITY), (.ref a)])) X1 hx rfl rfl rfl (pc0 := 4) (pc' := 7) (same := false) rfl (hb hby d1_4) rfl (decide_eq_false fun q => u3 (Value.ref.inj q)) (by decide) (by decide) ?_
    show Steps p.tables e below (T1.setTop (mkF m 7 #[.val (.ref a)] [])) t_
    refine XS.aloadN X1.here hx rfl (hb hby d1_7) rfl rfl ?_
    exact k_
  obtain ⟨T2, X2, e2, st2⟩ := getS2 X1 hx hZ hown (host := "") (Or.inl (own_w hw 29 rfl)) Via.refl e1 (u2.ext O0.2) (g := (mkF m 8 #[.val (.ref a)] [(.ref a)])) rfl (hb hby d1_8)
  refine own_go st2 ?_
  refine own_go (A := T2.setTop (mkF m 19 #[.val (.ref a)] [(.int (0 : Int32))])) (fun t_ k_ => ?_) ?_
  · show Steps p.tables e below (T2.setTop (mkF m 11 #[.val (.ref a)] [(.ref b_CHANGE_IN_CONTROL), (.ref a)])) t_
    refine Jvm.RoadKit.acmp (g := (mkF m 11 #[.val (.ref a)] [(.ref b_CHANGE_IN_CONTROL), (.ref a)])) X2 hx rfl rfl rfl (pc0 := 11) (pc' := 18) (same := false) rfl (hb hby d1_11) rfl (decide_eq_false fun q => u4 (Value.ref.inj q)) (by decide) (by decide) ?_
    show Steps p.tables e below (T2.setTop (mkF m 18 #[.val (.ref a)] [])) t_
    refine XS.iconst X2.here hx rfl (hb hby d1_18) ?_
    exact k_
  obtain ⟨fs3, hr3, hrun3, hended3, hW3, hsame3⟩ := X2.leave (v := some (.int (0 : Int32))) (fun h => by rw [Bd.returns] at h; cases h)
  refine ⟨_, _, ?_, hrun3, hended3, _, _, rfl, ?_, ⟨_, rfl⟩, hW3, hsame3.mono (by decide) (by decide)⟩
  · exact retN X2 hx (t := .boolean) Bd.returns (by simp) (hb hby d1_19) hr3
  · show Q_rmCred0 Z a b_DISABILITY b_CHANGE_IN_CONTROL h0 n0 _ T2.heap _
    rw [e2]
    exact ⟨rfl, N0, rfl⟩
theorem ef_rmCred1 (m : MethodId) (a : Addr) : entryFrame m #[(.ref a)] 1 = mkF m 0 #[.val (.ref a)] [] := by first | (simp [entryFrame, mkF, argsToLocals, Value.category]; done) | rfl
def Q_rmCred1 (Z : State) (a : Addr) (b_DISABILITY : Addr) (b_CHANGE_IN_CONTROL : Addr) (h0 : Heap) (n0 : Nat) (v_ : Option Value) (h_ : Heap) (L_ : List Loc) : Prop := v_ = some (.int (0 : Int32)) ∧ Fr n0 L_ ∧ h_ = h0
set_option maxRecDepth 65536 in
set_option maxHeartbeats 40000000 in
theorem rmCred1 (l : Launch) (Z : State) (a0 : Array Value) (hw : ∀ d ∈ tables_1, d.before a0 Z = true) (ws : List Jvm.Cond) (a : Addr) (b_DISABILITY : Addr) (b_CHANGE_IN_CONTROL : Addr) (h0 : Heap) (n0 : Nat) (Z0 : n0 ≤ h0.size) (O0 : Old Z n0 h0) (u1 : Sta Z Z.heap "com/example/vestwright/vestwright/model/SeparationCase" "DISABILITY" "Lcom/example/vestwright/vestwright/model/SeparationCase;" (.ref b_DISABILITY)) (u2 : Sta Z Z.heap "com/example/vestwright/vestwright/model/SeparationCase" "CHANGE_IN_CONTROL" "Lcom/example/vestwright/vestwright/model/SeparationCase;" (.ref b_CHANGE_IN_CONTROL)) (u3 : a ≠ b_DISABILITY) (u4 : a ≠ b_CHANGE_IN_CONTROL) :
    MetFree l own_y0 (head1 (Jvm.Cond.code own_y0 prog_121_method_7_code 1 (some .boolean) :: ws) ({ frames := 0, cells := 0, slots := 0, locals := 0 } : Room)) (fun a_ U_ => a_ = #[(.ref a)] ∧ Z.Warmed39 U_.vm ∧ U_.heap = h0) (fun _ _ _ _ _ => True) (fun _ U_ o_ U2_ => ∃ v_ L_, o_ = .returned v_ ∧ Q_rmCred1 Z a b_DISABILITY b_CHANGE_IN_CONTROL h0 n0 v_ U2_.heap L_ ∧ FrameEnd U_ o_ U2_ L_ ({ frames := 0, cells := 0, slots := 0, locals := 0 } : Room).cells ({ frames := 0, cells := 0, slots := 0, locals := 0 } : Room).slots) := by
  refine MetFree.of_bodySF (plainFor_of_name pn_0) hisR ?_
  intro p e s m args below meth c s₁ Bd hml0 hP hK
  obtain ⟨rfl, hZ, hh⟩ := hP
  have hx := Bd.exec
  have hby := Bd.bytes
  have hml : c.maxLocals = 1 := hml0
  have hown : s.vm.findClass "com/example/vestwright/vestwright/model/SeparationCase" = some m.cls := findClass_of_methodNamed Bd.named
  have hnm := (name_of_methodNamed Bd.named Bd.method).1
  have X0 : Stand p l e ({ frames := 0, cells := 0, slots := 0, locals := 0 } : Room) s m #[(.ref a)] below meth c s₁ [] 0 0 := Stand.of_body Bd
  have e0 : s₁.heap = h0 := by rw [← hh, Bd.state]; rfl
  have N0 := Fr.nil n0
  refine own_go (A := s₁.setTop (mkF m 0 #[.val (.ref a)] [])) (fun t_ k_ => castTop (ef_rmCred1 m a) k_) ?_
  refine own_go (A := s₁.setTop (mkF m 1 #[.val (.ref a)] [(.ref a)])) (fun t_ k_ => ?_) ?_
  · show Steps p.tables e below (s₁.setTop (mkF m 0 #[.val (.ref a)] [])) t_
    refine XS.aloadN X0.here hx rfl (hb hby d1_0) rfl rfl ?_
    exact k_
  obtain ⟨T1, X1, e1, st1⟩ := getS2 X0 hx hZ hown (host := "") (Or.inl (own_w hw 28 rfl)) Via.refl e0 (u1.ext O0.2) (g := (mkF m 1 #[.val (.ref a)] [(.ref a)])) rfl (hb hby d1_1)
  refine own_go st1 ?_
  refine own_go (A := T1.setTop (mkF m 8 #[.val (.ref a)] [(.ref a)])) (fun t_ k_ => ?_) ?_
  · show Steps p.tables e below (T1.setTop (mkF m 4 #[.val (.ref a)] [(.ref b_DISABILITY), (.ref a)])) t_
    refine Jvm.RoadKit.acmp (g := (mkF m 4 #[.val (.ref a)] [(.ref b_DISABILITY), (.ref a)])) X1 hx rfl rfl rfl (pc0 := 4) (pc' := 7) (same := false) rfl (hb hby d1_4) rfl (decide_eq_false fun q => u3 (Value.ref.inj q)) (by decide) (by decide) ?_
    show Steps p.tables e below (T1.setTop (mkF m 7 #[.val (.ref a)] [])) t_
    refine XS.aloadN X1.here hx rfl (hb hby d1_7) rfl rfl ?_
    exact k_
  obtain ⟨T2, X2, e2, st2⟩ := getS2 X1 hx hZ hown (host := "") (Or.inl (own_w hw 29 rfl)) Via.refl e1 (u2.ext O0.2) (g := (mkF m 8 #[.val (.ref a)] [(.ref a)])) rfl (hb hby d1_8)
  refine own_go st2 ?_
  refine own_go (A := T2.setTop (mkF m 19 #[.val (.ref a)] [(.int (0 : Int32))])) (fun t_ k_ => ?_) ?_
  · show Steps p.tables e below (T2.setTop (mkF m 11 #[.val (.ref a)] [(.ref b_CHANGE_IN_CONTROL), (.ref a)])) t_
    refine Jvm.RoadKit.acmp (g := (mkF m 11 #[.val (.ref a)] [(.ref b_CHANGE_IN_CONTROL), (.ref a)])) X2 hx rfl rfl rfl (pc0 := 11) (pc' := 18) (same := false) rfl (hb hby d1_11) rfl (decide_eq_false fun q => u4 (Value.ref.inj q)) (by decide) (by decide) ?_
    show Steps p.tables e below (T2.setTop (mkF m 18 #[.val (.ref a)] [])) t_
    refine XS.iconst X2.here hx rfl (hb hby d1_18) ?_
    exact k_
  obtain ⟨fs3, hr3, hrun3, hended3, hW3, hsame3⟩ := X2.leave (v := some (.int (0 : Int32))) (fun h => by rw [Bd.returns] at h; cases h)
  refine ⟨_, _, ?_, hrun3, hended3, _, _, rfl, ?_, ⟨_, rfl⟩, hW3, hsame3.mono (by decide) (by decide)⟩
  · exact retN X2 hx (t := .boolean) Bd.returns (by simp) (hb hby d1_19) hr3
  · show Q_rmCred1 Z a b_DISABILITY b_CHANGE_IN_CONTROL h0 n0 _ T2.heap _
    rw [e2]
    exact ⟨rfl, N0, rfl⟩
theorem d1_14 : decode prog_121_method_7_code 14 = .ok (.iconst 1, 1) := by decide +kernel
theorem d1_15 : decode prog_121_method_7_code 15 = .ok (.goto 4, 3) := by decide +kernel
theorem ef_rmCred2 (m : MethodId) (a : Addr) : entryFrame m #[(.ref a)] 1 = mkF m 0 #[.val (.ref a)] [] := by first | (simp [entryFrame, mkF, argsToLocals, Value.category]; done) | rfl
def Q_rmCred2 (Z : State) (a : Addr) (b_CHANGE_IN_CONTROL : Addr) (h0 : Heap) (n0 : Nat) (v_ : Option Value) (h_ : Heap) (L_ : List Loc) : Prop := v_ = some (.int (1 : Int32)) ∧ Fr n0 L_ ∧ h_ = h0
set_option maxRecDepth 65536 in
set_option maxHeartbeats 40000000 in
theorem rmCred2 (l : Launch) (Z : State) (a0 : Array Value) (hw : ∀ d ∈ tables_1, d.before a0 Z = true) (ws : List Jvm.Cond) (a : Addr) (b_CHANGE_IN_CONTROL : Addr) (h0 : Heap) (n0 : Nat) (Z0 : n0 ≤ h0.size) (O0 : Old Z n0 h0) (u1 : Sta Z Z.heap "com/example/vestwright/vestwright/model/SeparationCase" "DISABILITY" "Lcom/example/vestwright/vestwright/model/SeparationCase;" (.ref a)) (u2 : Sta Z Z.heap "com/example/vestwright/vestwright/model/SeparationCase" "CHANGE_IN_CONTROL" "Lcom/example/vestwright/vestwright/model/SeparationCase;" (.ref b_CHANGE_IN_CONTROL)) (u3 : a ≠ b_CHANGE_IN_CONTROL) :
    MetFree l own_y0 (head1 (Jvm.Cond.code own_y0 prog_121_method_7_code 1 (some .boolean) :: ws) ({ frames := 0, cells := 0, slots := 0, locals := 0 } : Room)) (fun a_ U_ => a_ = #[(.ref a)] ∧ Z.Warmed39 U_.vm ∧ U_.heap = h0) (fun _ _ _ _ _ => True) (fun _ U_ o_ U2_ => ∃ v_ L_, o_ = .returned v_ ∧ Q_rmCred2 Z a b_CHANGE_IN_CONTROL h0 n0 v_ U2_.heap L_ ∧ FrameEnd U_ o_ U2_ L_ ({ frames := 0, cells := 0, slots := 0, locals := 0 } : Room).cells ({ frames := 0, cells := 0, slots := 0, locals := 0 } : Room).slots) := by
  refine MetFree.of_bodySF (plainFor_of_name pn_0) hisR ?_
  intro p e s m args below meth c s₁ Bd hml0 hP hK
  obtain ⟨rfl, hZ, hh⟩ := hP
  have hx := Bd.exec
  have hby := Bd.bytes
  have hml : c.maxLocals = 1 := hml0
  have hown : s.vm.findClass "com/example/vestwright/vestwright/model/SeparationCase" = some m.cls := findClass_of_methodNamed Bd.named
  have hnm := (name_of_methodNamed Bd.named Bd.method).1
  have X0 : Stand p l e ({ frames := 0, cells := 0, slots := 0, locals := 0 } : Room) s m #[(.ref a)] below meth c s₁ [] 0 0 := Stand.of_body Bd
  have e0 : s₁.heap = h0 := by rw [← hh, Bd.state]; rfl
  have N0 := Fr.nil n0
  refine own_go (A := s₁.setTop (mkF m 0 #[.val (.ref a)] [])) (fun t_ k_ => castTop (ef_rmCred2 m a) k_) ?_
  refine own_go (A := s₁.setTop (mkF m 1 #[.val (.ref a)] [(.ref a)])) (fun t_ k_ => ?_) ?_
  · show Steps p.tables e below (s₁.setTop (mkF m 0 #[.val (.ref a)] [])) t_
    refine XS.aloadN X0.here hx rfl (hb hby d1_0) rfl rfl ?_
    exact k_
  obtain ⟨T1, X1, e1, st1⟩ := getS2 X0 hx hZ hown (host := "") (Or.inl (own_w hw 28 rfl)) Via.refl e0 (u1.ext O0.2) (g := (mkF m 1 #[.val (.ref a)] [(.ref a)])) rfl (hb hby d1_1)
  refine own_go st1 ?_
  refine own_go (A := T1.setTop (mkF m 19 #[.val (.ref a)] [(.int (1 : Int32))])) (fun t_ k_ => ?_) ?_
  · show Steps p.tables e below (T1.setTop (mkF m 4 #[.val (.ref a)] [(.ref a), (.ref a)])) t_
    refine Jvm.RoadKit.acmp (g := (mkF m 4 #[.val (.ref a)] [(.ref a), (.ref a)])) X1 hx rfl rfl rfl (pc0 := 4) (pc' := 14) (same := true) rfl (hb hby d1_4) rfl (decide_eq_true rfl) (by decide) (by decide) ?_
    show Steps p.tables e below (T1.setTop (mkF m 14 #[.val (.ref a)] [])) t_
    refine XS.iconst X1.here hx rfl (hb hby d1_14) ?_
    show Steps p.tables e below (T1.setTop (mkF m 15 #[.val (.ref a)] [(.int (1 : Int32))])) t_
    refine XS.goto X1.here hx rfl (pc0 := 15) (pc' := 19) rfl (hb hby d1_15) (by decide) (by decide) ?_
    exact k_
  obtain ⟨fs2, hr2, hrun2, hended2, hW2, hsame2⟩ := X1.leave (v := some (.int (1 : Int32))) (fun h => by rw [Bd.returns] at h; cases h)
  refine ⟨_, _, ?_, hrun2, hended2, _, _, rfl, ?_, ⟨_, rfl⟩, hW2, hsame2.mono (by decide) (by decide)⟩
  · exact retN X1 hx (t := .boolean) Bd.returns (by simp) (hb hby d1_19) hr2
  · show Q_rmCred2 Z a b_CHANGE_IN_CONTROL h0 n0 _ T1.heap _
    rw [e1]
    exact ⟨rfl, N0, rfl⟩
theorem ef_rmCred3 (m : MethodId) (a : Addr) : entryFrame m #[(.ref a)] 1 = mkF m 0 #[.val (.ref a)] [] := by first | (simp [entryFrame, mkF, argsToLocals, Value.category]; done) | rfl
def Q_rmCred3 (Z : State) (a : Addr) (b_DISABILITY : Addr) (h0 : Heap) (n0 : Nat) (v_ : Option Value) (h_ : Heap) (L_ : List Loc) : Prop := v_ = some (.int (1 : Int32)) ∧ Fr n0 L_ ∧ h_ = h0
set_option maxRecDepth 65536 in
set_option maxHeartbeats 40000000 in
theorem rmCred3 (l : Launch) (Z : State) (a0 : Array Value) (hw : ∀ d ∈ tables_1, d.before a0 Z = true) (ws : List Jvm.Cond) (a : Addr) (b_DISABILITY : Addr) (h0 : Heap) (n0 : Nat) (Z0 : n0 ≤ h0.size) (O0 : Old Z n0 h0) (u1 : Sta Z Z.heap "com/example/vestwright/vestwright/model/SeparationCase" "DISABILITY" "Lcom/example/vestwright/vestwright/model/SeparationCase;" (.ref b_DISABILITY)) (u2 : Sta Z Z.heap "com/example/vestwright/vestwright/model/SeparationCase" "CHANGE_IN_CONTROL" "Lcom/example/vestwright/vestwright/model/SeparationCase;" (.ref a)) (u3 : a ≠ b_DISABILITY) :
    MetFree l own_y0 (head1 (Jvm.Cond.code own_y0 prog_121_method_7_code 1 (some .boolean) :: ws) ({ frames := 0, cells := 0, slots := 0, locals := 0 } : Room)) (fun a_ U_ => a_ = #[(.ref a)] ∧ Z.Warmed39 U_.vm ∧ U_.heap = h0) (fun _ _ _ _ _ => True) (fun _ U_ o_ U2_ => ∃ v_ L_, o_ = .returned v_ ∧ Q_rmCred3 Z a b_DISABILITY h0 n0 v_ U2_.heap L_ ∧ FrameEnd U_ o_ U2_ L_ ({ frames := 0, cells := 0, slots := 0, locals := 0 } : Room).cells ({ frames := 0, cells := 0, slots := 0, locals := 0 } : Room).slots) := by
  refine MetFree.of_bodySF (plainFor_of_name pn_0) hisR ?_
  intro p e s m args below meth c s₁ Bd hml0 hP hK
  obtain ⟨rfl, hZ, hh⟩ := hP
  have hx := Bd.exec
  have hby := Bd.bytes
  have hml : c.maxLocals = 1 := hml0
  have hown : s.vm.findClass "com/example/vestwright/vestwright/model/SeparationCase" = some m.cls := findClass_of_methodNamed Bd.named
  have hnm := (name_of_methodNamed Bd.named Bd.method).1
  have X0 : Stand p l e ({ frames := 0, cells := 0, slots := 0, locals := 0 } : Room) s m #[(.ref a)] below meth c s₁ [] 0 0 := Stand.of_body Bd
  have e0 : s₁.heap = h0 := by rw [← hh, Bd.state]; rfl
  have N0 := Fr.nil n0
  refine own_go (A := s₁.setTop (mkF m 0 #[.val (.ref a)] [])) (fun t_ k_ => castTop (ef_rmCred3 m a) k_) ?_
  refine own_go (A := s₁.setTop (mkF m 1 #[.val (.ref a)] [(.ref a)])) (fun t_ k_ => ?_) ?_
  · show Steps p.tables e below (s₁.setTop (mkF m 0 #[.val (.ref a)] [])) t_
    refine XS.aloadN X0.here hx rfl (hb hby d1_0) rfl rfl ?_
    exact k_
  obtain ⟨T1, X1, e1, st1⟩ := getS2 X0 hx hZ hown (host := "") (Or.inl (own_w hw 28 rfl)) Via.refl e0 (u1.ext O0.2) (g := (mkF m 1 #[.val (.ref a)] [(.ref a)])) rfl (hb hby d1_1)
  refine own_go st1 ?_
  refine own_go (A := T1.setTop (mkF m 8 #[.val (.ref a)] [(.ref a)])) (fun t_ k_ => ?_) ?_
  · show Steps p.tables e below (T1.setTop (mkF m 4 #[.val (.ref a)] [(.ref b_DISABILITY), (.ref a)])) t_
    refine Jvm.RoadKit.acmp (g := (mkF m 4 #[.val (.ref a)] [(.ref b_DISABILITY), (.ref a)])) X1 hx rfl rfl rfl (pc0 := 4) (pc' := 7) (same := false) rfl (hb hby d1_4) rfl (decide_eq_false fun q => u3 (Value.ref.inj q)) (by decide) (by decide) ?_
    show Steps p.tables e below (T1.setTop (mkF m 7 #[.val (.ref a)] [])) t_
    refine XS.aloadN X1.here hx rfl (hb hby d1_7) rfl rfl ?_
    exact k_
  obtain ⟨T2, X2, e2, st2⟩ := getS2 X1 hx hZ hown (host := "") (Or.inl (own_w hw 29 rfl)) Via.refl e1 (u2.ext O0.2) (g := (mkF m 8 #[.val (.ref a)] [(.ref a)])) rfl (hb hby d1_8)
  refine own_go st2 ?_
  refine own_go (A := T2.setTop (mkF m 19 #[.val (.ref a)] [(.int (1 : Int32))])) (fun t_ k_ => ?_) ?_
  · show Steps p.tables e below (T2.setTop (mkF m 11 #[.val (.ref a)] [(.ref a), (.ref a)])) t_
    refine Jvm.RoadKit.acmp (g := (mkF m 11 #[.val (.ref a)] [(.ref a), (.ref a)])) X2 hx rfl rfl rfl (pc0 := 11) (pc' := 14) (same := true) rfl (hb hby d1_11) rfl (decide_eq_true rfl) (by decide) (by decide) ?_
    show Steps p.tables e below (T2.setTop (mkF m 14 #[.val (.ref a)] [])) t_
    refine XS.iconst X2.here hx rfl (hb hby d1_14) ?_
    show Steps p.tables e below (T2.setTop (mkF m 15 #[.val (.ref a)] [(.int (1 : Int32))])) t_
    refine XS.goto X2.here hx rfl (pc0 := 15) (pc' := 19) rfl (hb hby d1_15) (by decide) (by decide) ?_
    exact k_
  obtain ⟨fs3, hr3, hrun3, hended3, hW3, hsame3⟩ := X2.leave (v := some (.int (1 : Int32))) (fun h => by rw [Bd.returns] at h; cases h)
  refine ⟨_, _, ?_, hrun3, hended3, _, _, rfl, ?_, ⟨_, rfl⟩, hW3, hsame3.mono (by decide) (by decide)⟩
  · exact retN X2 hx (t := .boolean) Bd.returns (by simp) (hb hby d1_19) hr3
  · show Q_rmCred3 Z a b_DISABILITY h0 n0 _ T2.heap _
    rw [e2]
    exact ⟨rfl, N0, rfl⟩
theorem ef_rmCred4 (m : MethodId) (a : Addr) : entryFrame m #[(.ref a)] 1 = mkF m 0 #[.val (.ref a)] [] := by first | (simp [entryFrame, mkF, argsToLocals, Value.category]; done) | rfl
def Q_rmCred4 (Z : State) (a : Addr) (b_DISABILITY : Addr) (b_CHANGE_IN_CONTROL : Addr) (h0 : Heap) (n0 : Nat) (v_ : Option Value) (h_ : Heap) (L_ : List Loc) : Prop := v_ = some (.int (0 : Int32)) ∧ Fr n0 L_ ∧ h_ = h0
set_option maxRecDepth 65536 in
set_option maxHeartbeats 40000000 in
theorem rmCred4 (l : Launch) (Z : State) (a0 : Array Value) (hw : ∀ d ∈ tables_1, d.before a0 Z = true) (ws : List Jvm.Cond) (a : Addr) (b_DISABILITY : Addr) (b_CHANGE_IN_CONTROL : Addr) (h0 : Heap) (n0 : Nat) (Z0 : n0 ≤ h0.size) (O0 : Old Z n0 h0) (u1 : Sta Z Z.heap "com/example/vestwright/vestwright/model/SeparationCase" "DISABILITY" "Lcom/example/vestwright/vestwright/model/SeparationCase;" (.ref b_DISABILITY)) (u2 : Sta Z Z.heap "com/example/vestwright/vestwright/model/SeparationCase" "CHANGE_IN_CONTROL" "Lcom/example/vestwright/vestwright/model/SeparationCase;" (.ref b_CHANGE_IN_CONTROL)) (u3 : a ≠ b_DISABILITY) (u4 : a ≠ b_CHANGE_IN_CONTROL) :
    MetFree l own_y0 (head1 (Jvm.Cond.code own_y0 prog_121_method_7_code 1 (some .boolean) :: ws) ({ frames := 0, cells := 0, slots := 0, locals := 0 } : Room)) (fun a_ U_ => a_ = #[(.ref a)] ∧ Z.Warmed39 U_.vm ∧ U_.heap = h0) (fun _ _ _ _ _ => True) (fun _ U_ o_ U2_ => ∃ v_ L_, o_ = .returned v_ ∧ Q_rmCred4 Z a b_DISABILITY b_CHANGE_IN_CONTROL h0 n0 v_ U2_.heap L_ ∧ FrameEnd U_ o_ U2_ L_ ({ frames := 0, cells := 0, slots := 0, locals := 0 } : Room).cells ({ frames := 0, cells := 0, slots := 0, locals := 0 } : Room).slots) := by
  refine MetFree.of_bodySF (plainFor_of_name pn_0) hisR ?_
  intro p e s m args below meth c s₁ Bd hml0 hP hK
  obtain ⟨rfl, hZ, hh⟩ := hP
  have hx := Bd.exec
  have hby := Bd.bytes
  have hml : c.maxLocals = 1 := hml0
  have hown : s.vm.findClass "com/example/vestwright/vestwright/model/SeparationCase" = some m.cls := findClass_of_methodNamed Bd.named
  have hnm := (name_of_methodNamed Bd.named Bd.method).1
  have X0 : Stand p l e ({ frames := 0, cells := 0, slots := 0, locals := 0 } : Room) s m #[(.ref a)] below meth c s₁ [] 0 0 := Stand.of_body Bd
  have e0 : s₁.heap = h0 := by rw [← hh, Bd.state]; rfl
  have N0 := Fr.nil n0
  refine own_go (A := s₁.setTop (mkF m 0 #[.val (.ref a)] [])) (fun t_ k_ => castTop (ef_rmCred4 m a) k_) ?_
  refine own_go (A := s₁.setTop (mkF m 1 #[.val (.ref a)] [(.ref a)])) (fun t_ k_ => ?_) ?_
  · show Steps p.tables e below (s₁.setTop (mkF m 0 #[.val (.ref a)] [])) t_
    refine XS.aloadN X0.here hx rfl (hb hby d1_0) rfl rfl ?_
    exact k_
  obtain ⟨T1, X1, e1, st1⟩ := getS2 X0 hx hZ hown (host := "") (Or.inl (own_w hw 28 rfl)) Via.refl e0 (u1.ext O0.2) (g := (mkF m 1 #[.val (.ref a)] [(.ref a)])) rfl (hb hby d1_1)
  refine own_go st1 ?_
  refine own_go (A := T1.setTop (mkF m 8 #[.val (.ref a)] [(.ref a)])) (fun t_ k_ => ?_) ?_
  · show Steps p.tables e below (T1.setTop (mkF m 4 #[.val (.ref a)] [(.ref b_DISABILITY), (.ref a)])) t_
    refine Jvm.RoadKit.acmp (g := (mkF m 4 #[.val (.ref a)] [(.ref b_DISABILITY), (.ref a)])) X1 hx rfl rfl rfl (pc0 := 4) (pc' := 7) (same := false) rfl (hb hby d1_4) rfl (decide_eq_false fun q => u3 (Value.ref.inj q)) (by decide) (by decide) ?_
    show Steps p.tables e below (T1.setTop (mkF m 7 #[.val (.ref a)] [])) t_
    refine XS.aloadN X1.here hx rfl (hb hby d1_7) rfl rfl ?_
    exact k_
  obtain ⟨T2, X2, e2, st2⟩ := getS2 X1 hx hZ hown (host := "") (Or.inl (own_w hw 29 rfl)) Via.refl e1 (u2.ext O0.2) (g := (mkF m 8 #[.val (.ref a)] [(.ref a)])) rfl (hb hby d1_8)
  refine own_go st2 ?_
  refine own_go (A := T2.setTop (mkF m 19 #[.val (.ref a)] [(.int (0 : Int32))])) (fun t_ k_ => ?_) ?_
  · show Steps p.tables e below (T2.setTop (mkF m 11 #[.val (.ref a)] [(.ref b_CHANGE_IN_CONTROL), (.ref a)])) t_
    refine Jvm.RoadKit.acmp (g := (mkF m 11 #[.val (.ref a)] [(.ref b_CHANGE_IN_CONTROL), (.ref a)])) X2 hx rfl rfl rfl (pc0 := 11) (pc' := 18) (same := false) rfl (hb hby d1_11) rfl (decide_eq_false fun q => u4 (Value.ref.inj q)) (by decide) (by decide) ?_
    show Steps p.tables e below (T2.setTop (mkF m 18 #[.val (.ref a)] [])) t_
    refine XS.iconst X2.here hx rfl (hb hby d1_18) ?_
    exact k_
  obtain ⟨fs3, hr3, hrun3, hended3, hW3, hsame3⟩ := X2.leave (v := some (.int (0 : Int32))) (fun h => by rw [Bd.returns] at h; cases h)
  refine ⟨_, _, ?_, hrun3, hended3, _, _, rfl, ?_, ⟨_, rfl⟩, hW3, hsame3.mono (by decide) (by decide)⟩
  · exact retN X2 hx (t := .boolean) Bd.returns (by simp) (hb hby d1_19) hr3
  · show Q_rmCred4 Z a b_DISABILITY b_CHANGE_IN_CONTROL h0 n0 _ T2.heap _
    rw [e2]
    exact ⟨rfl, N0, rfl⟩
theorem ef_rmCred5 (m : MethodId) (a : Addr) : entryFrame m #[(.ref a)] 1 = mkF m 0 #[.val (.ref a)] [] := by first | (simp [entryFrame, mkF, argsToLocals, Value.category]; done) | rfl
def Q_rmCred5 (Z : State) (a : Addr) (b_DISABILITY : Addr) (b_CHANGE_IN_CONTROL : Addr) (h0 : Heap) (n0 : Nat) (v_ : Option Value) (h_ : Heap) (L_ : List Loc) : Prop := v_ = some (.int (0 : Int32)) ∧ Fr n0 L_ ∧ h_ = h0
set_option maxRecDepth 65536 in
set_option maxHeartbeats 40000000 in
theorem rmCred5 (l : Launch) (Z : State) (a0 : Array Value) (hw : ∀ d ∈ tables_1, d.before a0 Z = true) (ws : List Jvm.Cond) (a : Addr) (b_DISABILITY : Addr) (b_CHANGE_IN_CONTROL : Addr) (h0 : Heap) (n0 : Nat) (Z0 : n0 ≤ h0.size) (O0 : Old Z n0 h0) (u1 : Sta Z Z.heap "com/example/vestwright/vestwright/model/SeparationCase" "DISABILITY" "Lcom/example/vestwright/vestwright/model/SeparationCase;" (.ref b_DISABILITY)) (u2 : Sta Z Z.heap "com/example/vestwright/vestwright/model/SeparationCase" "CHANGE_IN_CONTROL" "Lcom/example/vestwright/vestwright/model/SeparationCase;" (.ref b_CHANGE_IN_CONTROL)) (u3 : a ≠ b_DISABILITY) (u4 : a ≠ b_CHANGE_IN_CONTROL) :
    MetFree l own_y0 (head1 (Jvm.Cond.code own_y0 prog_121_method_7_code 1 (some .boolean) :: ws) ({ frames := 0, cells := 0, slots := 0, locals := 0 } : Room)) (fun a_ U_ => a_ = #[(.ref a)] ∧ Z.Warmed39 U_.vm ∧ U_.heap = h0) (fun _ _ _ _ _ => True) (fun _ U_ o_ U2_ => ∃ v_ L_, o_ = .returned v_ ∧ Q_rmCred5 Z a b_DISABILITY b_CHANGE_IN_CONTROL h0 n0 v_ U2_.heap L_ ∧ FrameEnd U_ o_ U2_ L_ ({ frames := 0, cells := 0, slots := 0, locals := 0 } : Room).cells ({ frames := 0, cells := 0, slots := 0, locals := 0 } : Room).slots) := by
  refine MetFree.of_bodySF (plainFor_of_name pn_0) hisR ?_
  intro p e s m args below meth c s₁ Bd hml0 hP hK
  obtain ⟨rfl, hZ, hh⟩ := hP
  have hx := Bd.exec
  have hby := Bd.bytes
  have hml : c.maxLocals = 1 := hml0
  have hown : s.vm.findClass "com/example/vestwright/vestwright/model/SeparationCase" = some m.cls := findClass_of_methodNamed Bd.named
  have hnm := (name_of_methodNamed Bd.named Bd.method).1
  have X0 : Stand p l e ({ frames := 0, cells := 0, slots := 0, locals := 0 } : Room) s m #[(.ref a)] below meth c s₁ [] 0 0 := Stand.of_body Bd
  have e0 : s₁.heap = h0 := by rw [← hh, Bd.state]; rfl
  have N0 := Fr.nil n0
  refine own_go (A := s₁.setTop (mkF m 0 #[.val (.ref a)] [])) (fun t_ k_ => castTop (ef_rmCred5 m a) k_) ?_
  refine own_go (A := s₁.setTop (mkF m 1 #[.val (.ref a)] [(.ref a)])) (fun t_ k_ => ?_) ?_
  · show Steps p.tables e below (s₁.setTop (mkF m 0 #[.val (.ref a)] [])) t_
    refine XS.aloadN X0.here hx rfl (hb hby d1_0) rfl rfl ?_
    exact k_
  obtain ⟨T1, X1, e1, st1⟩ := getS2 X0 hx hZ hown (host := "") (Or.inl (own_w hw 28 rfl)) Via.refl e0 (u1.ext O0.2) (g := (mkF m 1 #[.val (.ref a)] [(.ref a)])) rfl (hb hby d1_1)
  refine own_go st1 ?_
  refine own_go (A := T1.setTop (mkF m 8 #[.val (.ref a)] [(.ref a)])) (fun t_ k_ => ?_) ?_
  · show Steps p.tables e below (T1.setTop (mkF m 4 #[.val (.ref a)] [(.ref b_DISABILITY), (.ref a)])) t_
    refine Jvm.RoadKit.acmp (g := (mkF m 4 #[.val (.ref a)] [(.ref b_DISABILITY), (.ref a)])) X1 hx rfl rfl rfl (pc0 := 4) (pc' := 7) (same := false) rfl (hb hby d1_4) rfl (decide_eq_false fun q => u3 (Value.ref.inj q)) (by decide) (by decide) ?_
    show Steps p.tables e below (T1.setTop (mkF m 7 #[.val (.ref a)] [])) t_
    refine XS.aloadN X1.here hx rfl (hb hby d1_7) rfl rfl ?_
    exact k_
  obtain ⟨T2, X2, e2, st2⟩ := getS2 X1 hx hZ hown (host := "") (Or.inl (own_w hw 29 rfl)) Via.refl e1 (u2.ext O0.2) (g := (mkF m 8 #[.val (.ref a)] [(.ref a)])) rfl (hb hby d1_8)
  refine own_go st2 ?_
  refine own_go (A := T2.setTop (mkF m 19 #[.val (.ref a)] [(.int (0 : Int32))])) (fun t_ k_ => ?_) ?_
  · show Steps p.tables e below (T2.setTop (mkF m 11 #[.val (.ref a)] [(.ref b_CHANGE_IN_CONTROL), (.ref a)])) t_
    refine Jvm.RoadKit.acmp (g := (mkF m 11 #[.val (.ref a)] [(.ref b_CHANGE_IN_CONTROL), (.ref a)])) X2 hx rfl rfl rfl (pc0 := 11) (pc' := 18) (same := false) rfl (hb hby d1_11) rfl (decide_eq_false fun q => u4 (Value.ref.inj q)) (by decide) (by decide) ?_
    show Steps p.tables e below (T2.setTop (mkF m 18 #[.val (.ref a)] [])) t_
    refine XS.iconst X2.here hx rfl (hb hby d1_18) ?_
    exact k_
  obtain ⟨fs3, hr3, hrun3, hended3, hW3, hsame3⟩ := X2.leave (v := some (.int (0 : Int32))) (fun h => by rw [Bd.returns] at h; cases h)
  refine ⟨_, _, ?_, hrun3, hended3, _, _, rfl, ?_, ⟨_, rfl⟩, hW3, hsame3.mono (by decide) (by decide)⟩
  · exact retN X2 hx (t := .boolean) Bd.returns (by simp) (hb hby d1_19) hr3
  · show Q_rmCred5 Z a b_DISABILITY b_CHANGE_IN_CONTROL h0 n0 _ T2.heap _
    rw [e2]
    exact ⟨rfl, N0, rfl⟩
theorem ef_rmCred6 (m : MethodId) (a : Addr) : entryFrame m #[(.ref a)] 1 = mkF m 0 #[.val (.ref a)] [] := by first | (simp [entryFrame, mkF, argsToLocals, Value.category]; done) | rfl
def Q_rmCred6 (Z : State) (a : Addr) (b_DISABILITY : Addr) (b_CHANGE_IN_CONTROL : Addr) (h0 : Heap) (n0 : Nat) (v_ : Option Value) (h_ : Heap) (L_ : List Loc) : Prop := v_ = some (.int (0 : Int32)) ∧ Fr n0 L_ ∧ h_ = h0
set_option maxRecDepth 65536 in
set_option maxHeartbeats 40000000 in
theorem rmCred6 (l : Launch) (Z : State) (a0 : Array Value) (hw : ∀ d ∈ tables_1, d.before a0 Z = true) (ws : List Jvm.Cond) (a : Addr) (b_DISABILITY : Addr) (b_CHANGE_IN_CONTROL : Addr) (h0 : Heap) (n0 : Nat) (Z0 : n0 ≤ h0.size) (O0 : Old Z n0 h0) (u1 : Sta Z Z.heap "com/example/vestwright/vestwright/model/SeparationCase" "DISABILITY" "Lcom/example/vestwright/vestwright/model/SeparationCase;" (.ref b_DISABILITY)) (u2 : Sta Z Z.heap "com/example/vestwright/vestwright/model/SeparationCase" "CHANGE_IN_CONTROL" "Lcom/example/vestwright/vestwright/model/SeparationCase;" (.ref b_CHANGE_IN_CONTROL)) (u3 : a ≠ b_DISABILITY) (u4 : a ≠ b_CHANGE_IN_CONTROL) :
    MetFree l own_y0 (head1 (Jvm.Cond.code own_y0 prog_121_method_7_code 1 (some .boolean) :: ws) ({ frames := 0, cells := 0, slots := 0, locals := 0 } : Room)) (fun a_ U_ => a_ = #[(.ref a)] ∧ Z.Warmed39 U_.vm ∧ U_.heap = h0) (fun _ _ _ _ _ => True) (fun _ U_ o_ U2_ => ∃ v_ L_, o_ = .returned v_ ∧ Q_rmCred6 Z a b_DISABILITY b_CHANGE_IN_CONTROL h0 n0 v_ U2_.heap L_ ∧ FrameEnd U_ o_ U2_ L_ ({ frames := 0, cells := 0, slots := 0, locals := 0 } : Room).cells ({ frames := 0, cells := 0, slots := 0, locals := 0 } : Room).slots) := by
  refine MetFree.of_bodySF (plainFor_of_name pn_0) hisR ?_
  intro p e s m args below meth c s₁ Bd hml0 hP hK
  obtain ⟨rfl, hZ, hh⟩ := hP
  have hx := Bd.exec
  have hby := Bd.bytes
  have hml : c.maxLocals = 1 := hml0
  have hown : s.vm.findClass "com/example/vestwright/vestwright/model/SeparationCase" = some m.cls := findClass_of_methodNamed Bd.named
  have hnm := (name_of_methodNamed Bd.named Bd.method).1
  have X0 : Stand p l e ({ frames := 0, cells := 0, slots := 0, locals := 0 } : Room) s m #[(.ref a)] below meth c s₁ [] 0 0 := Stand.of_body Bd
  have e0 : s₁.heap = h0 := by rw [← hh, Bd.state]; rfl
  have N0 := Fr.nil n0
  refine own_go (A := s₁.setTop (mkF m 0 #[.val (.ref a)] [])) (fun t_ k_ => castTop (ef_rmCred6 m a) k_) ?_
  refine own_go (A := s₁.setTop (mkF m 1 #[.val (.ref a)] [(.ref a)])) (fun t_ k_ => ?_) ?_
  · show Steps p.tables e below (s₁.setTop (mkF m 0 #[.val (.ref a)] [])) t_
    refine XS.aloadN X0.here hx rfl (hb hby d1_0) rfl rfl ?_
    exact k_
  obtain ⟨T1, X1, e1, st1⟩ := getS2 X0 hx hZ hown (host := "") (Or.inl (own_w hw 28 rfl)) Via.refl e0 (u1.ext O0.2) (g := (mkF m 1 #[.val (.ref a)] [(.ref a)])) rfl (hb hby d1_1)
  refine own_go st1 ?_
  refine own_go (A := T1.setTop (mkF m 8 #[.val (.ref a)] [(.ref a)])) (fun t_ k_ => ?_) ?_
  · show Steps p.tables e below (T1.setTop (mkF m 4 #[.val (.ref a)] [(.ref b_DISABILITY), (.ref a)])) t_
    refine Jvm.RoadKit.acmp (g := (mkF m 4 #[.val (.ref a)] [(.ref b_DISABILITY), (.ref a)])) X1 hx rfl rfl rfl (pc0 := 4) (pc' := 7) (same := false) rfl (hb hby d1_4) rfl (decide_eq_false fun q => u3 (Value.ref.inj q)) (by decide) (by decide) ?_
    show Steps p.tables e below (T1.setTop (mkF m 7 #[.val (.ref a)] [])) t_
    refine XS.aloadN X1.here hx rfl (hb hby d1_7) rfl rfl ?_
    exact k_
  obtain ⟨T2, X2, e2, st2⟩ := getS2 X1 hx hZ hown (host := "") (Or.inl (own_w hw 29 rfl)) Via.refl e1 (u2.ext O0.2) (g := (mkF m 8 #[.val (.ref a)] [(.ref a)])) rfl (hb hby d1_8)
  refine own_go st2 ?_
  refine own_go (A := T2.setTop (mkF m 19 #[.val (.ref a)] [(.int (0 : Int32))])) (fun t_ k_ => ?_) ?_
  · show Steps p.tables e below (T2.setTop (mkF m 11 #[.val (.ref a)] [(.ref b_CHANGE_IN_CONTROL), (.ref a)])) t_
    refine Jvm.RoadKit.acmp (g := (mkF m 11 #[.val (.ref a)] [(.ref b_CHANGE_IN_CONTROL), (.ref a)])) X2 hx rfl rfl rfl (pc0 := 11) (pc' := 18) (same := false) rfl (hb hby d1_11) rfl (decide_eq_false fun q => u4 (Value.ref.inj q)) (by decide) (by decide) ?_
    show Steps p.tables e below (T2.setTop (mkF m 18 #[.val (.ref a)] [])) t_
    refine XS.iconst X2.here hx rfl (hb hby d1_18) ?_
    exact k_
  obtain ⟨fs3, hr3, hrun3, hended3, hW3, hsame3⟩ := X2.leave (v := some (.int (0 : Int32))) (fun h => by rw [Bd.returns] at h; cases h)
  refine ⟨_, _, ?_, hrun3, hended3, _, _, rfl, ?_, ⟨_, rfl⟩, hW3, hsame3.mono (by decide) (by decide)⟩
  · exact retN X2 hx (t := .boolean) Bd.returns (by simp) (hb hby d1_19) hr3
  · show Q_rmCred6 Z a b_DISABILITY b_CHANGE_IN_CONTROL h0 n0 _ T2.heap _
    rw [e2]
    exact ⟨rfl, N0, rfl⟩
theorem ef_rmCred7 (m : MethodId) (a : Addr) : entryFrame m #[(.ref a)] 1 = mkF m 0 #[.val (.ref a)] [] := by first | (simp [entryFrame, mkF, argsToLocals, Value.category]; done) | rfl
def Q_rmCred7 (Z : State) (a : Addr) (b_DISABILITY : Addr) (b_CHANGE_IN_CONTROL : Addr) (h0 : Heap) (n0 : Nat) (v_ : Option Value) (h_ : Heap) (L_ : List Loc) : Prop := v_ = some (.int (0 : Int32)) ∧ Fr n0 L_ ∧ h_ = h0
set_option maxRecDepth 65536 in
set_option maxHeartbeats 40000000 in
theorem rmCred7 (l : Launch) (Z : State) (a0 : Array Value) (hw : ∀ d ∈ tables_1, d.before a0 Z = true) (ws : List Jvm.Cond) (a : Addr) (b_DISABILITY : Addr) (b_CHANGE_IN_CONTROL : Addr) (h0 : Heap) (n0 : Nat) (Z0 : n0 ≤ h0.size) (O0 : Old Z n0 h0) (u1 : Sta Z Z.heap "com/example/vestwright/vestwright/model/SeparationCase" "DISABILITY" "Lcom/example/vestwright/vestwright/model/SeparationCase;" (.ref b_DISABILITY)) (u2 : Sta Z Z.heap "com/example/vestwright/vestwright/model/SeparationCase" "CHANGE_IN_CONTROL" "Lcom/example/vestwright/vestwright/model/SeparationCase;" (.ref b_CHANGE_IN_CONTROL)) (u3 : a ≠ b_DISABILITY) (u4 : a ≠ b_CHANGE_IN_CONTROL) :
    MetFree l own_y0 (head1 (Jvm.Cond.code own_y0 prog_121_method_7_code 1 (some .boolean) :: ws) ({ frames := 0, cells := 0, slots := 0, locals := 0 } : Room)) (fun a_ U_ => a_ = #[(.ref a)] ∧ Z.Warmed39 U_.vm ∧ U_.heap = h0) (fun _ _ _ _ _ => True) (fun _ U_ o_ U2_ => ∃ v_ L_, o_ = .returned v_ ∧ Q_rmCred7 Z a b_DISABILITY b_CHANGE_IN_CONTROL h0 n0 v_ U2_.heap L_ ∧ FrameEnd U_ o_ U2_ L_ ({ frames := 0, cells := 0, slots := 0, locals := 0 } : Room).cells ({ frames := 0, cells := 0, slots := 0, locals := 0 } : Room).slots) := by
  refine MetFree.of_bodySF (plainFor_of_name pn_0) hisR ?_
  intro p e s m args below meth c s₁ Bd hml0 hP hK
  obtain ⟨rfl, hZ, hh⟩ := hP
  have hx := Bd.exec
  have hby := Bd.bytes
  have hml : c.maxLocals = 1 := hml0
  have hown : s.vm.findClass "com/example/vestwright/vestwright/model/SeparationCase" = some m.cls := findClass_of_methodNamed Bd.named
  have hnm := (name_of_methodNamed Bd.named Bd.method).1
  have X0 : Stand p l e ({ frames := 0, cells := 0, slots := 0, locals := 0 } : Room) s m #[(.ref a)] below meth c s₁ [] 0 0 := Stand.of_body Bd
  have e0 : s₁.heap = h0 := by rw [← hh, Bd.state]; rfl
  have N0 := Fr.nil n0
  refine own_go (A := s₁.setTop (mkF m 0 #[.val (.ref a)] [])) (fun t_ k_ => castTop (ef_rmCred7 m a) k_) ?_
  refine own_go (A := s₁.setTop (mkF m 1 #[.val (.ref a)] [(.ref a)])) (fun t_ k_ => ?_) ?_
  · show Steps p.tables e below (s₁.setTop (mkF m 0 #[.val (.ref a)] [])) t_
    refine XS.aloadN X0.here hx rfl (hb hby d1_0) rfl rfl ?_
    exact k_
  obtain ⟨T1, X1, e1, st1⟩ := getS2 X0 hx hZ hown (host := "") (Or.inl (own_w hw 28 rfl)) Via.refl e0 (u1.ext O0.2) (g := (mkF m 1 #[.val (.ref a)] [(.ref a)])) rfl (hb hby d1_1)
  refine own_go st1 ?_
  refine own_go (A := T1.setTop (mkF m 8 #[.val (.ref a)] [(.ref a)])) (fun t_ k_ => ?_) ?_
  · show Steps p.tables e below (T1.setTop (mkF m 4 #[.val (.ref a)] [(.ref b_DISABILITY), (.ref a)])) t_
    refine Jvm.RoadKit.acmp (g := (mkF m 4 #[.val (.ref a)] [(.ref b_DISABILITY), (.ref a)])) X1 hx rfl rfl rfl (pc0 := 4) (pc' := 7) (same := false) rfl (hb hby d1_4) rfl (decide_eq_false fun q => u3 (Value.ref.inj q)) (by decide) (by decide) ?_
    show Steps p.tables e below (T1.setTop (mkF m 7 #[.val (.ref a)] [])) t_
    refine XS.aloadN X1.here hx rfl (hb hby d1_7) rfl rfl ?_
    exact k_
  obtain ⟨T2, X2, e2, st2⟩ := getS2 X1 hx hZ hown (host := "") (Or.inl (own_w hw 29 rfl)) Via.refl e1 (u2.ext O0.2) (g := (mkF m 8 #[.val (.ref a)] [(.ref a)])) rfl (hb hby d1_8)
  refine own_go st2 ?_
  refine own_go (A := T2.setTop (mkF m 19 #[.val (.ref a)] [(.int (0 : Int32))])) (fun t_ k_ => ?_) ?_
  · show Steps p.tables e below (T2.setTop (mkF m 11 #[.val (.ref a)] [(.ref b_CHANGE_IN_CONTROL), (.ref a)])) t_
    refine Jvm.RoadKit.acmp (g := (mkF m 11 #[.val (.ref a)] [(.ref b_CHANGE_IN_CONTROL), (.ref a)])) X2 hx rfl rfl rfl (pc0 := 11) (pc' := 18) (same := false) rfl (hb hby d1_11) rfl (decide_eq_false fun q => u4 (Value.ref.inj q)) (by decide) (by decide) ?_
    show Steps p.tables e below (T2.setTop (mkF m 18 #[.val (.ref a)] [])) t_
    refine XS.iconst X2.here hx rfl (hb hby d1_18) ?_
    exact k_
  obtain ⟨fs3, hr3, hrun3, hended3, hW3, hsame3⟩ := X2.leave (v := some (.int (0 : Int32))) (fun h => by rw [Bd.returns] at h; cases h)
  refine ⟨_, _, ?_, hrun3, hended3, _, _, rfl, ?_, ⟨_, rfl⟩, hW3, hsame3.mono (by decide) (by decide)⟩
  · exact retN X2 hx (t := .boolean) Bd.returns (by simp) (hb hby d1_19) hr3
  · show Q_rmCred7 Z a b_DISABILITY b_CHANGE_IN_CONTROL h0 n0 _ T2.heap _
    rw [e2]
    exact ⟨rfl, N0, rfl⟩
theorem ef_rmCred8 (m : MethodId) (a : Addr) : entryFrame m #[(.ref a)] 1 = mkF m 0 #[.val (.ref a)] [] := by first | (simp [entryFrame, mkF, argsToLocals, Value.category]; done) | rfl
def Q_rmCred8 (Z : State) (a : Addr) (b_DISABILITY : Addr) (b_CHANGE_IN_CONTROL : Addr) (h0 : Heap) (n0 : Nat) (v_ : Option Value) (h_ : Heap) (L_ : List Loc) : Prop := v_ = some (.int (0 : Int32)) ∧ Fr n0 L_ ∧ h_ = h0
set_option maxRecDepth 65536 in
set_option maxHeartbeats 40000000 in
theorem rmCred8 (l : Launch) (Z : State) (a0 : Array Value) (hw : ∀ d ∈ tables_1, d.before a0 Z = true) (ws : List Jvm.Cond) (a : Addr) (b_DISABILITY : Addr) (b_CHANGE_IN_CONTROL : Addr) (h0 : Heap) (n0 : Nat) (Z0 : n0 ≤ h0.size) (O0 : Old Z n0 h0) (u1 : Sta Z Z.heap "com/example/vestwright/vestwright/model/SeparationCase" "DISABILITY" "Lcom/example/vestwright/vestwright/model/SeparationCase;" (.ref b_DISABILITY)) (u2 : Sta Z Z.heap "com/example/vestwright/vestwright/model/SeparationCase" "CHANGE_IN_CONTROL" "Lcom/example/vestwright/vestwright/model/SeparationCase;" (.ref b_CHANGE_IN_CONTROL)) (u3 : a ≠ b_DISABILITY) (u4 : a ≠ b_CHANGE_IN_CONTROL) :
    MetFree l own_y0 (head1 (Jvm.Cond.code own_y0 prog_121_method_7_code 1 (some .boolean) :: ws) ({ frames := 0, cells := 0, slots := 0, locals := 0 } : Room)) (fun a_ U_ => a_ = #[(.ref a)] ∧ Z.Warmed39 U_.vm ∧ U_.heap = h0) (fun _ _ _ _ _ => True) (fun _ U_ o_ U2_ => ∃ v_ L_, o_ = .returned v_ ∧ Q_rmCred8 Z a b_DISABILITY b_CHANGE_IN_CONTROL h0 n0 v_ U2_.heap L_ ∧ FrameEnd U_ o_ U2_ L_ ({ frames := 0, cells := 0, slots := 0, locals := 0 } : Room).cells ({ frames := 0, cells := 0, slots := 0, locals := 0 } : Room).slots) := by
  refine MetFree.of_bodySF (plainFor_of_name pn_0) hisR ?_
  intro p e s m args below meth c s₁ Bd hml0 hP hK
  obtain ⟨rfl, hZ, hh⟩ := hP
  have hx := Bd.exec
  have hby := Bd.bytes
  have hml : c.maxLocals = 1 := hml0
  have hown : s.vm.findClass "com/example/vestwright/vestwright/model/SeparationCase" = some m.cls := findClass_of_methodNamed Bd.named
  have hnm := (name_of_methodNamed Bd.named Bd.method).1
  have X0 : Stand p l e ({ frames := 0, cells := 0, slots := 0, locals := 0 } : Room) s m #[(.ref a)] below meth c s₁ [] 0 0 := Stand.of_body Bd
  have e0 : s₁.heap = h0 := by rw [← hh, Bd.state]; rfl
  have N0 := Fr.nil n0
  refine own_go (A := s₁.setTop (mkF m 0 #[.val (.ref a)] [])) (fun t_ k_ => castTop (ef_rmCred8 m a) k_) ?_
  refine own_go (A := s₁.setTop (mkF m 1 #[.val (.ref a)] [(.ref a)])) (fun t_ k_ => ?_) ?_
  · show Steps p.tables e below (s₁.setTop (mkF m 0 #[.val (.ref a)] [])) t_
    refine XS.aloadN X0.here hx rfl (hb hby d1_0) rfl rfl ?_
    exact k_
  obtain ⟨T1, X1, e1, st1⟩ := getS2 X0 hx hZ hown (host := "") (Or.inl (own_w hw 28 rfl)) Via.refl e0 (u1.ext O0.2) (g := (mkF m 1 #[.val (.ref a)] [(.ref a)])) rfl (hb hby d1_1)
  refine own_go st1 ?_
  refine own_go (A := T1.setTop (mkF m 8 #[.val (.ref a)] [(.ref a)])) (fun t_ k_ => ?_) ?_
  · show Steps p.tables e below (T1.setTop (mkF m 4 #[.val (.ref a)] [(.ref b_DISABILITY), (.ref a)])) t_
    refine Jvm.RoadKit.acmp (g := (mkF m 4 #[.val (.ref a)] [(.ref b_DISABILITY), (.ref a)])) X1 hx rfl rfl rfl (pc0 := 4) (pc' := 7) (same := false) rfl (hb hby d1_4) rfl (decide_eq_false fun q => u3 (Value.ref.inj q)) (by decide) (by decide) ?_
    show Steps p.tables e below (T1.setTop (mkF m 7 #[.val (.ref a)] [])) t_
    refine XS.aloadN X1.here hx rfl (hb hby d1_7) rfl rfl ?_
    exact k_
  obtain ⟨T2, X2, e2, st2⟩ := getS2 X1 hx hZ hown (host := "") (Or.inl (own_w hw 29 rfl)) Via.refl e1 (u2.ext O0.2) (g := (mkF m 8 #[.val (.ref a)] [(.ref a)])) rfl (hb hby d1_8)
  refine own_go st2 ?_
  refine own_go (A := T2.setTop (mkF m 19 #[.val (.ref a)] [(.int (0 : Int32))])) (fun t_ k_ => ?_) ?_
  · show Steps p.tables e below (T2.setTop (mkF m 11 #[.val (.ref a)] [(.ref b_CHANGE_IN_CONTROL), (.ref a)])) t_
    refine Jvm.RoadKit.acmp (g := (mkF m 11 #[.val (.ref a)] [(.ref b_CHANGE_IN_CONTROL), (.ref a)])) X2 hx rfl rfl rfl (pc0 := 11) (pc' := 18) (same := false) rfl (hb hby d1_11) rfl (decide_eq_false fun q => u4 (Value.ref.inj q)) (by decide) (by decide) ?_
    show Steps p.tables e below (T2.setTop (mkF m 18 #[.val (.ref a)] [])) t_
    refine XS.iconst X2.here hx rfl (hb hby d1_18) ?_
    exact k_
  obtain ⟨fs3, hr3, hrun3, hended3, hW3, hsame3⟩ := X2.leave (v := some (.int (0 : Int32))) (fun h => by rw [Bd.returns] at h; cases h)
  refine ⟨_, _, ?_, hrun3, hended3, _, _, rfl, ?_, ⟨_, rfl⟩, hW3, hsame3.mono (by decide) (by decide)⟩
  · exact retN X2 hx (t := .boolean) Bd.returns (by simp) (hb hby d1_19) hr3
  · show Q_rmCred8 Z a b_DISABILITY b_CHANGE_IN_CONTROL h0 n0 _ T2.heap _
    rw [e2]
    exact ⟨rfl, N0, rfl⟩
theorem d2_0 : decode prog_121_method_5_code 0 = .ok (.aload_n 0, 1) := by decide +kernel
theorem d2_1 : decode prog_121_method_5_code 1 = .ok (.getstatic 19, 3) := by decide +kernel
theorem d2_4 : decode prog_121_method_5_code 4 = .ok (.if_acmp .eq 14, 3) := by decide +kernel
theorem d2_7 : decode prog_121_method_5_code 7 = .ok (.aload_n 0, 1) := by decide +kernel
theorem d2_8 : decode prog_121_method_5_code 8 = .ok (.getstatic 22, 3) := by decide +kernel
theorem d2_11 : decode prog_121_method_5_code 11 = .ok (.if_acmp .eq 7, 3) := by decide +kernel
theorem d2_14 : decode prog_121_method_5_code 14 = .ok (.iconst 1, 1) := by decide +kernel
theorem d2_15 : decode prog_121_method_5_code 15 = .ok (.goto 4, 3) := by decide +kernel
theorem d2_19 : decode prog_121_method_5_code 19 = .ok (.ireturn, 1) := by decide +kernel
abbrev own_y1 : MethodName := ⟨"com/example/vestwright/vestwright/model/SeparationCase", "paid", "()Z"⟩
theorem ef_rmPaid0 (m : MethodId) (a : Addr) : entryFrame m #[(.ref a)] 1 = mkF m 0 #[.val (.ref a)] [] := by first | (simp [entryFrame, mkF, argsToLocals, Value.category]; done) | rfl
def Q_rmPaid0 (Z : State) (a : Addr) (b_FORFEITED : Addr) (b_NOT_VESTED : Addr) (h0 : Heap) (n0 : Nat) (v_ : Option Value) (h_ : Heap) (L_ : List Loc) : Prop := v_ = some (.int (1 : Int32)) ∧ Fr n0 L_ ∧ h_ = h0
set_option maxRecDepth 65536 in
set_option maxHeartbeats 40000000 in
theorem rmPaid0 (l : Launch) (Z : State) (a0 : Array Value) (hw : ∀ d ∈ tables_1, d.before a0 Z = true) (ws : List Jvm.Cond) (a : Addr) (b_FORFEITED : Addr) (b_NOT_VESTED : Addr) (h0 : Heap) (n0 : Nat) (Z0 : n0 ≤ h0.size) (O0 : Old Z n0 h0) (u1 : Sta Z Z.heap "com/example/vestwright/vestwright/model/SeparationCase" "FORFEITED" "Lcom/example/vestwright/vestwright/model/SeparationCase;" (.ref b_FORFEITED)) (u2 : Sta Z Z.heap "com/example/vestwright/vestwright/model/SeparationCase" "NOT_VESTED" "Lcom/example/vestwright/vestwright/model/SeparationCase;" (.ref b_NOT_VESTED)) (u3 : a ≠ b_FORFEITED) (u4 : a ≠ b_NOT_VESTED) :
    MetFree l own_y1 (head1 (Jvm.Cond.code own_y1 prog_121_method_5_code 1 (some .boolean) :: ws) ({ frames := 0, cells := 0, slots := 0, locals := 0 } : Room)) (fun a_ U_ => a_ = #[(.ref a)] ∧ Z.Warmed39 U_.vm ∧ U_.heap = h0) (fun _ _ _ _ _ => True) (fun _ U_ o_ U2_ => ∃ v_ L_, o_ = .returned v_ ∧ Q_rmPaid0 Z a b_FORFEITED b_NOT_VESTED h0 n0 v_ U2_.heap L_ ∧ FrameEnd U_ o_ U2_ L_ ({ frames := 0, cells := 0, slots := 0, locals := 0 } : Room).cells ({ frames := 0, cells := 0, slots := 0, locals := 0 } : Room).slots) := by
  refine MetFree.of_bodySF (plainFor_of_name pn_0) hisR ?_
  intro p e s m args below meth c s₁ Bd hml0 hP hK
  obtain ⟨rfl, hZ, hh⟩ := hP
  have hx := Bd.exec
  have hby := Bd.bytes
  have hml : c.maxLocals = 1 := hml0
  have hown : s.vm.findClass "com/example/vestwright/vestwright/model/SeparationCase" = some m.cls := findClass_of_methodNamed Bd.named
  have hnm := (name_of_methodNamed Bd.named Bd.method).1
  have X0 : Stand p l e ({ frames := 0, cells := 0, slots := 0, locals := 0 } : Room) s m #[(.ref a)] below meth c s₁ [] 0 0 := Stand.of_body Bd
  have e0 : s₁.heap = h0 := by rw [← hh, Bd.state]; rfl
  have N0 := Fr.nil n0
  refine own_go (A := s₁.setTop (mkF m 0 #[.val (.ref a)] [])) (fun t_ k_ => castTop (ef_rmPaid0 m a) k_) ?_
  refine own_go (A := s₁.setTop (mkF m 1 #[.val (.ref a)] [(.ref a)])) (fun t_ k_ => ?_) ?_
  · show Steps p.tables e below (s₁.setTop (mkF m 0 #[.val (.ref a)] [])) t_
    refine XS.aloadN X0.here hx rfl (hb hby d2_0) rfl rfl ?_
    exact k_
  obtain ⟨T1, X1, e1, st1⟩ := getS2 X0 hx hZ hown (host := "") (Or.inl (own_w hw 35 rfl)) Via.refl e0 (u1.ext O0.2) (g := (mkF m 1 #[.val (.ref a)] [(.ref a)])) rfl (hb hby d2_1)
  refine own_go st1 ?_
  refine own_go (A := T1.setTop (mkF m 8 #[.val (.ref a)] [(.ref a)])) (fun t_ k_ => ?_) ?_
  · show Steps p.tables e below (T1.setTop (mkF m 4 #[.val (.ref a)] [(.ref b_FORFEITED), (.ref a)])) t_
    refine Jvm.RoadKit.acmp (g := (mkF m 4 #[.val (.ref a)] [(.ref b_FORFEITED), (.ref a)])) X1 hx rfl rfl rfl (pc0 := 4) (pc' := 7) (same := false) rfl (hb hby d2_4) rfl (decide_eq_false fun q => u3 (Value.ref.inj q)) (by decide) (by decide) ?_
    show Steps p.tables e below (T1.setTop (mkF m 7 #[.val (.ref a)] [])) t_
    refine XS.aloadN X1.here hx rfl (hb hby d2_7) rfl rfl ?_
    exact k_
  obtain ⟨T2, X2, e2, st2⟩ := getS2 X1 hx hZ hown (host := "") (Or.inl (own_w hw 36 rfl)) Via.refl e1 (u2.ext O0.2) (g := (mkF m 8 #[.val (.ref a)] [(.ref a)])) rfl (hb hby d2_8)
  refine own_go st2 ?_
  refine own_go (A := T2.setTop (mkF m 19 #[.val (.ref a)] [(.int (1 : Int32))])) (fun t_ k_ => ?_) ?_
  · show Steps p.tables e below (T2.setTop (mkF m 11 #[.val (.ref a)] [(.ref b_NOT_VESTED), (.ref a)])) t_
    refine Jvm.RoadKit.acmp (g := (mkF m 11 #[.val (.ref a)] [(.ref b_NOT_VESTED), (.ref a)])) X2 hx rfl rfl rfl (pc0 := 11) (pc' := 14) (same := false) rfl (hb hby d2_11) rfl (decide_eq_false fun q => u4 (Value.ref.inj q)) (by decide) (by decide) ?_
    show Steps p.tables e below (T2.setTop (mkF m 14 #[.val (.ref a)] [])) t_
    refine XS.iconst X2.here hx rfl (hb hby d2_14) ?_
    show Steps p.tables e below (T2.setTop (mkF m 15 #[.val (.ref a)] [(.int (1 : Int32))])) t_
    refine XS.goto X2.here hx rfl (pc0 := 15) (pc' := 19) rfl (hb hby d2_15) (by decide) (by decide) ?_
    exact k_
  obtain ⟨fs3, hr3, hrun3, hended3, hW3, hsame3⟩ := X2.leave (v := some (.int (1 : Int32))) (fun h => by rw [Bd.returns] at h; cases h)
  refine ⟨_, _, ?_, hrun3, hended3, _, _, rfl, ?_, ⟨_, rfl⟩, hW3, hsame3.mono (by decide) (by decide)⟩
  · exact retN X2 hx (t := .boolean) Bd.returns (by simp) (hb hby d2_19) hr3
  · show Q_rmPaid0 Z a b_FORFEITED b_NOT_VESTED h0 n0 _ T2.heap _
    rw [e2]
    exact ⟨rfl, N0, rfl⟩
theorem ef_rmPaid1 (m : MethodId) (a : Addr) : entryFrame m #[(.ref a)] 1 = mkF m 0 #[.val (.ref a)] [] := by first | (simp [entryFrame, mkF, argsToLocals, Value.category]; done) | rfl
def Q_rmPaid1 (Z : State) (a : Addr) (b_FORFEITED : Addr) (b_NOT_VESTED : Addr) (h0 : Heap) (n0 : Nat) (v_ : Option Value) (h_ : Heap) (L_ : List Loc) : Prop := v_ = some (.int (1 : Int32)) ∧ Fr n0 L_ ∧ h_ = h0
set_option maxRecDepth 65536 in
set_option maxHeartbeats 40000000 in
theorem rmPaid1 (l : Launch) (Z : State) (a0 : Array Value) (hw : ∀ d ∈ tables_1, d.before a0 Z = true) (ws : List Jvm.Cond) (a : Addr) (b_FORFEITED : Addr) (b_NOT_VESTED : Addr) (h0 : Heap) (n0 : Nat) (Z0 : n0 ≤ h0.size) (O0 : Old Z n0 h0) (u1 : Sta Z Z.heap "com/example/vestwright/vestwright/model/SeparationCase" "FORFEITED" "Lcom/example/vestwright/vestwright/model/SeparationCase;" (.ref b_FORFEITED)) (u2 : Sta Z Z.heap "com/example/vestwright/vestwright/model/SeparationCase" "NOT_VESTED" "Lcom/example/vestwright/vestwright/model/SeparationCase;" (.ref b_NOT_VESTED)) (u3 : a ≠ b_FORFEITED) (u4 : a ≠ b_NOT_VESTED) :
    MetFree l own_y1 (head1 (Jvm.Cond.code own_y1 prog_121_method_5_code 1 (some .boolean) :: ws) ({ frames := 0, cells := 0, slots := 0, locals := 0 } : Room)) (fun a_ U_ => a_ = #[(.ref a)] ∧ Z.Warmed39 U_.vm ∧ U_.heap = h0) (fun _ _ _ _ _ => True) (fun _ U_ o_ U2_ => ∃ v_ L_, o_ = .returned v_ ∧ Q_rmPaid1 Z a b_FORFEITED b_NOT_VESTED h0 n0 v_ U2_.heap L_ ∧ FrameEnd U_ o_ U2_ L_ ({ frames := 0, cells := 0, slots := 0, locals := 0 } : Room).cells ({ frames := 0, cells := 0, slots := 0, locals := 0 } : Room).slots) := by
  refine MetFree.of_bodySF (plainFor_of_name pn_0) hisR ?_
  intro p e s m args below meth c s₁ Bd hml0 hP hK
  obtain ⟨rfl, hZ, hh⟩ := hP
  have hx := Bd.exec
  have hby := Bd.bytes
  have hml : c.maxLocals = 1 := hml0
  have hown : s.vm.findClass "com/example/vestwright/vestwright/model/SeparationCase" = some m.cls := findClass_of_methodNamed Bd.named
  have hnm := (name_of_methodNamed Bd.named Bd.method).1
  have X0 : Stand p l e ({ frames := 0, cells := 0, slots := 0, locals := 0 } : Room) s m #[(.ref a)] below meth c s₁ [] 0 0 := Stand.of_body Bd
  have e0 : s₁.heap = h0 := by rw [← hh, Bd.state]; rfl
  have N0 := Fr.nil n0
  refine own_go (A := s₁.setTop (mkF m 0 #[.val (.ref a)] [])) (fun t_ k_ => castTop (ef_rmPaid1 m a) k_) ?_
  refine own_go (A := s₁.setTop (mkF m 1 #[.val (.ref a)] [(.ref a)])) (fun t_ k_ => ?_) ?_
  · show Steps p.tables e below (s₁.setTop (mkF m 0 #[.val (.ref a)] [])) t_
    refine XS.aloadN X0.here hx rfl (hb hby d2_0) rfl rfl ?_
    exact k_
  obtain ⟨T1, X1, e1, st1⟩ := getS2 X0 hx hZ hown (host := "") (Or.inl (own_w hw 35 rfl)) Via.refl e0 (u1.ext O0.2) (g := (mkF m 1 #[.val (.ref a)] [(.ref a)])) rfl (hb hby d2_1)
  refine own_go st1 ?_
  refine own_go (A := T1.setTop (mkF m 8 #[.val (.ref a)] [(.ref a)])) (fun t_ k_ => ?_) ?_
  · show Steps p.tables e below (T1.setTop (mkF m 4 #[.val (.ref a)] [(.ref b_FORFEITED), (.ref a)])) t_
    refine Jvm.RoadKit.acmp (g := (mkF m 4 #[.val (.ref a)] [(.ref b_FORFEITED), (.ref a)])) X1 hx rfl rfl rfl (pc0 := 4) (pc' := 7) (same := false) rfl (hb hby d2_4) rfl (decide_eq_false fun q => u3 (Value.ref.inj q)) (by decide) (by decide) ?_
    show Steps p.tables e below (T1.setTop (mkF m 7 #[.val (.ref a)] [])) t_
    refine XS.aloadN X1.here hx rfl (hb hby d2_7) rfl rfl ?_
    exact k_
  obtain ⟨T2, X2, e2, st2⟩ := getS2 X1 hx hZ hown (host := "") (Or.inl (own_w hw 36 rfl)) Via.refl e1 (u2.ext O0.2) (g := (mkF m 8 #[.val (.ref a)] [(.ref a)])) rfl (hb hby d2_8)
  refine own_go st2 ?_
  refine own_go (A := T2.setTop (mkF m 19 #[.val (.ref a)] [(.int (1 : Int32))])) (fun t_ k_ => ?_) ?_
  · show Steps p.tables e below (T2.setTop (mkF m 11 #[.val (.ref a)] [(.ref b_NOT_VESTED), (.ref a)])) t_
    refine Jvm.RoadKit.acmp (g := (mkF m 11 #[.val (.ref a)] [(.ref b_NOT_VESTED), (.ref a)])) X2 hx rfl rfl rfl (pc0 := 11) (pc' := 14) (same := false) rfl (hb hby d2_11) rfl (decide_eq_false fun q => u4 (Value.ref.inj q)) (by decide) (by decide) ?_
    show Steps p.tables e below (T2.setTop (mkF m 14 #[.val (.ref a)] [])) t_
    refine XS.iconst X2.here hx rfl (hb hby d2_14) ?_
    show Steps p.tables e below (T2.setTop (mkF m 15 #[.val (.ref a)] [(.int (1 : Int32))])) t_
    refine XS.goto X2.here hx rfl (pc0 := 15) (pc' := 19) rfl (hb hby d2_15) (by decide) (by decide) ?_
    exact k_
  obtain ⟨fs3, hr3, hrun3, hended3, hW3, hsame3⟩ := X2.leave (v := some (.int (1 : Int32))) (fun h => by rw [Bd.returns] at h; cases h)
  refine ⟨_, _, ?_, hrun3, hended3, _, _, rfl, ?_, ⟨_, rfl⟩, hW3, hsame3.mono (by decide) (by decide)⟩
  · exact retN X2 hx (t := .boolean) Bd.returns (by simp) (hb hby d2_19) hr3
  · show Q_rmPaid1 Z a b_FORFEITED b_NOT_VESTED h0 n0 _ T2.heap _
    rw [e2]
    exact ⟨rfl, N0, rfl⟩
theorem ef_rmPaid2 (m : MethodId) (a : Addr) : entryFrame m #[(.ref a)] 1 = mkF m 0 #[.val (.ref a)] [] := by first | (simp [entryFrame, mkF, argsToLocals, Value.category]; done) | rfl
def Q_rmPaid2 (Z : State) (a : Addr) (b_FORFEITED : Addr) (b_NOT_VESTED : Addr) (h0 : Heap) (n0 : Nat) (v_ : Option Value) (h_ : Heap) (L_ : List Loc) : Prop := v_ = some (.int (1 : Int32)) ∧ Fr n0 L_ ∧ h_ = h0
set_option maxRecDepth 65536 in
set_option maxHeartbeats 40000000 in
theorem rmPaid2 (l : Launch) (Z : State) (a0 : Array Value) (hw : ∀ d ∈ tables_1, d.before a0 Z = true) (ws : List Jvm.Cond) (a : Addr) (b_FORFEITED : Addr) (b_NOT_VESTED : Addr) (h0 : Heap) (n0 : Nat) (Z0 : n0 ≤ h0.size) (O0 : Old Z n0 h0) (u1 : Sta Z Z.heap "com/example/vestwright/vestwright/model/SeparationCase" "FORFEITED" "Lcom/example/vestwright/vestwright/model/SeparationCase;" (.ref b_FORFEITED)) (u2 : Sta Z Z.heap "com/example/vestwright/vestwright/model/SeparationCase" "NOT_VESTED" "Lcom/example/vestwright/vestwright/model/SeparationCase;" (.ref b_NOT_VESTED)) (u3 : a ≠ b_FORFEITED) (u4 : a ≠ b_NOT_VESTED) :
    MetFree l own_y1 (head1 (Jvm.Cond.code own_y1 prog_121_method_5_code 1 (some .boolean) :: ws) ({ frames := 0, cells := 0, slots := 0, locals := 0 } : Room)) (fun a_ U_ => a_ = #[(.ref a)] ∧ Z.Warmed39 U_.vm ∧ U_.heap = h0) (fun _ _ _ _ _ => True) (fun _ U_ o_ U2_ => ∃ v_ L_, o_ = .returned v_ ∧ Q_rmPaid2 Z a b_FORFEITED b_NOT_VESTED h0 n0 v_ U2_.heap L_ ∧ FrameEnd U_ o_ U2_ L_ ({ frames := 0, cells := 0, slots := 0, locals := 0 } : Room).cells ({ frames := 0, cells := 0, slots := 0, locals := 0 } : Room).slots) := by
  refine MetFree.of_bodySF (plainFor_of_name pn_0) hisR ?_
  intro p e s m args below meth c s₁ Bd hml0 hP hK
  obtain ⟨rfl, hZ, hh⟩ := hP
  have hx := Bd.exec
  have hby := Bd.bytes
  have hml : c.maxLocals = 1 := hml0
  have hown : s.vm.findClass "com/example/vestwright/vestwright/model/SeparationCase" = some m.cls := findClass_of_methodNamed Bd.named
  have hnm := (name_of_methodNamed Bd.named Bd.method).1
  have X0 : Stand p l e ({ frames := 0, cells := 0, slots := 0, locals := 0 } : Room) s m #[(.ref a)] below meth c s₁ [] 0 0 := Stand.of_body Bd
  have e0 : s₁.heap = h0 := by rw [← hh, Bd.state]; rfl
  have N0 := Fr.nil n0
  refine own_go (A := s₁.setTop (mkF m 0 #[.val (.ref a)] [])) (fun t_ k_ => castTop (ef_rmPaid2 m a) k_) ?_
  refine own_go (A := s₁.setTop (mkF m 1 #[.val (.ref a)] [(.ref a)])) (fun t_ k_ => ?_) ?_
  · show Steps p.tables e below (s₁.setTop (mkF m 0 #[.val (.ref a)] [])) t_
    refine XS.aloadN X0.here hx rfl (hb hby d2_0) rfl rfl ?_
    exact k_
  obtain ⟨T1, X1, e1, st1⟩ := getS2 X0 hx hZ hown (host := "") (Or.inl (own_w hw 35 rfl)) Via.refl e0 (u1.ext O0.2) (g := (mkF m 1 #[.val (.ref a)] [(.ref a)])) rfl (hb hby d2_1)
  refine own_go st1 ?_
  refine own_go (A := T1.setTop (mkF m 8 #[.val (.ref a)] [(.ref a)])) (fun t_ k_ => ?_) ?_
  · show Steps p.tables e below (T1.setTop (mkF m 4 #[.val (.ref a)] [(.ref b_FORFEITED), (.ref a)])) t_
    refine Jvm.RoadKit.acmp (g := (mkF m 4 #[.val (.ref a)] [(.ref b_FORFEITED), (.ref a)])) X1 hx rfl rfl rfl (pc0 := 4) (pc' := 7) (same := false) rfl (hb hby d2_4) rfl (decide_eq_false fun q => u3 (Value.ref.inj q)) (by decide) (by decide) ?_
    show Steps p.tables e below (T1.setTop (mkF m 7 #[.val (.ref a)] [])) t_
    refine XS.aloadN X1.here hx rfl (hb hby d2_7) rfl rfl ?_
    exact k_
  obtain ⟨T2, X2, e2, st2⟩ := getS2 X1 hx hZ hown (host := "") (Or.inl (own_w hw 36 rfl)) Via.refl e1 (u2.ext O0.2) (g := (mkF m 8 #[.val (.ref a)] [(.ref a)])) rfl (hb hby d2_8)
  refine own_go st2 ?_
  refine own_go (A := T2.setTop (mkF m 19 #[.val (.ref a)] [(.int (1 : Int32))])) (fun t_ k_ => ?_) ?_
  · show Steps p.tables e below (T2.setTop (mkF m 11 #[.val (.ref a)] [(.ref b_NOT_VESTED), (.ref a)])) t_
    refine Jvm.RoadKit.acmp (g := (mkF m 11 #[.val (.ref a)] [(.ref b_NOT_VESTED), (.ref a)])) X2 hx rfl rfl rfl (pc0 := 11) (pc' := 14) (same := false) rfl (hb hby d2_11) rfl (decide_eq_false fun q => u4 (Value.ref.inj q)) (by decide) (by decide) ?_
    show Steps p.tables e below (T2.setTop (mkF m 14 #[.val (.ref a)] [])) t_
    refine XS.iconst X2.here hx rfl (hb hby d2_14) ?_
    show Steps p.tables e below (T2.setTop (mkF m 15 #[.val (.ref a)] [(.int (1 : Int32))])) t_
    refine XS.goto X2.here hx rfl (pc0 := 15) (pc' := 19) rfl (hb hby d2_15) (by decide) (by decide) ?_
    exact k_
  obtain ⟨fs3, hr3, hrun3, hended3, hW3, hsame3⟩ := X2.leave (v := some (.int (1 : Int32))) (fun h => by rw [Bd.returns] at h; cases h)
  refine ⟨_, _, ?_, hrun3, hended3, _, _, rfl, ?_, ⟨_, rfl⟩, hW3, hsame3.mono (by decide) (by decide)⟩
  · exact retN X2 hx (t := .boolean) Bd.returns (by simp) (hb hby d2_19) hr3
  · show Q_rmPaid2 Z a b_FORFEITED b_NOT_VESTED h0 n0 _ T2.heap _
    rw [e2]
    exact ⟨rfl, N0, rfl⟩
theorem ef_rmPaid3 (m : MethodId) (a : Addr) : entryFrame m #[(.ref a)] 1 = mkF m 0 #[.val (.ref a)] [] := by first | (simp [entryFrame, mkF, argsToLocals, Value.category]; done) | rfl
def Q_rmPaid3 (Z : State) (a : Addr) (b_FORFEITED : Addr) (b_NOT_VESTED : Addr) (h0 : Heap) (n0 : Nat) (v_ : Option Value) (h_ : Heap) (L_ : List Loc) : Prop := v_ = some (.int (1 : Int32)) ∧ Fr n0 L_ ∧ h_ = h0
set_option maxRecDepth 65536 in
set_option maxHeartbeats 40000000 in
theorem rmPaid3 (l : Launch) (Z : State) (a0 : Array Value) (hw : ∀ d ∈ tables_1, d.before a0 Z = true) (ws : List Jvm.Cond) (a : Addr) (b_FORFEITED : Addr) (b_NOT_VESTED : Addr) (h0 : Heap) (n0 : Nat) (Z0 : n0 ≤ h0.size) (O0 : Old Z n0 h0) (u1 : Sta Z Z.heap "com/example/vestwright/vestwright/model/SeparationCase" "FORFEITED" "Lcom/example/vestwright/vestwright/model/SeparationCase;" (.ref b_FORFEITED)) (u2 : Sta Z Z.heap "com/example/vestwright/vestwright/model/SeparationCase" "NOT_VESTED" "Lcom/example/vestwright/vestwright/model/SeparationCase;" (.ref b_NOT_VESTED)) (u3 : a ≠ b_FORFEITED) (u4 : a ≠ b_NOT_VESTED) :
    MetFree l own_y1 (head1 (Jvm.Cond.code own_y1 prog_121_method_5_code 1 (some .boolean) :: ws) ({ frames := 0, cells := 0, slots := 0, locals := 0 } : Room)) (fun a_ U_ => a_ = #[(.ref a)] ∧ Z.Warmed39 U_.vm ∧ U_.heap = h0) (fun _ _ _ _ _ => True) (fun _ U_ o_ U2_ => ∃ v_ L_, o_ = .returned v_ ∧ Q_rmPaid3 Z a b_FORFEITED b_NOT_VESTED h0 n0 v_ U2_.heap L_ ∧ FrameEnd U_ o_ U2_ L_ ({ frames := 0, cells := 0, slots := 0, locals := 0 } : Room).cells ({ frames := 0, cells := 0, slots := 0, locals := 0 } : Room).slots) := by
  refine MetFree.of_bodySF (plainFor_of_name pn_0) hisR ?_
  intro p e s m args below meth c s₁ Bd hml0 hP hK
  obtain ⟨rfl, hZ, hh⟩ := hP
  have hx := Bd.exec
  have hby := Bd.bytes
  have hml : c.maxLocals = 1 := hml0
  have hown : s.vm.findClass "com/example/vestwright/vestwright/model/SeparationCase" = some m.cls := findClass_of_methodNamed Bd.named
  have hnm := (name_of_methodNamed Bd.named Bd.method).1
  have X0 : Stand p l e ({ frames := 0, cells := 0, slots := 0, locals := 0 } : Room) s m #[(.ref a)] below meth c s₁ [] 0 0 := Stand.of_body Bd
  have e0 : s₁.heap = h0 := by rw [← hh, Bd.state]; rfl
  have N0 := Fr.nil n0
  refine own_go (A := s₁.setTop (mkF m 0 #[.val (.ref a)] [])) (fun t_ k_ => castTop (ef_rmPaid3 m a) k_) ?_
  refine own_go (A := s₁.setTop (mkF m 1 #[.val (.ref a)] [(.ref a)])) (fun t_ k_ => ?_) ?_
  · show Steps p.tables e below (s₁.setTop (mkF m 0 #[.val (.ref a)] [])) t_
    refine XS.aloadN X0.here hx rfl (hb hby d2_0) rfl rfl ?_
    exact k_
  obtain ⟨T1, X1, e1, st1⟩ := getS2 X0 hx hZ hown (host := "") (Or.inl (own_w hw 35 rfl)) Via.refl e0 (u1.ext O0.2) (g := (mkF m 1 #[.val (.ref a)] [(.ref a)])) rfl (hb hby d2_1)
  refine own_go st1 ?_
  refine own_go (A := T1.setTop (mkF m 8 #[.val (.ref a)] [(.ref a)])) (fun t_ k_ => ?_) ?_
  · show Steps p.tables e below (T1.setTop (mkF m 4 #[.val (.ref a)] [(.ref b_FORFEITED), (.ref a)])) t_
    refine Jvm.RoadKit.acmp (g := (mkF m 4 #[.val (.ref a)] [(.ref b_FORFEITED), (.ref a)])) X1 hx rfl rfl rfl (pc0 := 4) (pc' := 7) (same := false) rfl (hb hby d2_4) rfl (decide_eq_false fun q => u3 (Value.ref.inj q)) (by decide) (by decide) ?_
    show Steps p.tables e below (T1.setTop (mkF m 7 #[.val (.ref a)] [])) t_
    refine XS.aloadN X1.here hx rfl (hb hby d2_7) rfl rfl ?_
    exact k_
  obtain ⟨T2, X2, e2, st2⟩ := getS2 X1 hx hZ hown (host := "") (Or.inl (own_w hw 36 rfl)) Via.refl e1 (u2.ext O0.2) (g := (mkF m 8 #[.val (.ref a)] [(.ref a)])) rfl (hb hby d2_8)
  refine own_go st2 ?_
  refine own_go (A := T2.setTop (mkF m 19 #[.val (.ref a)] [(.int (1 : Int32))])) (fun t_ k_ => ?_) ?_
  · show Steps p.tables e below (T2.setTop (mkF m 11 #[.val (.ref a)] [(.ref b_NOT_VESTED), (.ref a)])) t_
    refine Jvm.RoadKit.acmp (g := (mkF m 11 #[.val (.ref a)] [(.ref b_NOT_VESTED), (.ref a)])) X2 hx rfl rfl rfl (pc0 := 11) (pc' := 14) (same := false) rfl (hb hby d2_11) rfl (decide_eq_false fun q => u4 (Value.ref.inj q)) (by decide) (by decide) ?_
    show Steps p.tables e below (T2.setTop (mkF m 14 #[.val (.ref a)] [])) t_
    refine XS.iconst X2.here hx rfl (hb hby d2_14) ?_
    show Steps p.tables e below (T2.setTop (mkF m 15 #[.val (.ref a)] [(.int (1 : Int32))])) t_
    refine XS.goto X2.here hx rfl (pc0 := 15) (pc' := 19) rfl (hb hby d2_15) (by decide) (by decide) ?_
    exact k_
  obtain ⟨fs3, hr3, hrun3, hended3, hW3, hsame3⟩ := X2.leave (v := some (.int (1 : Int32))) (fun h => by rw [Bd.returns] at h; cases h)
  refine ⟨_, _, ?_, hrun3, hended3, _, _, rfl, ?_, ⟨_, rfl⟩, hW3, hsame3.mono (by decide) (by decide)⟩
  · exact retN X2 hx (t := .boolean) Bd.returns (by simp) (hb hby d2_19) hr3
  · show Q_rmPaid3 Z a b_FORFEITED b_NOT_VESTED h0 n0 _ T2.heap _
    rw [e2]
    exact ⟨rfl, N0, rfl⟩
theorem ef_rmPaid4 (m : MethodId) (a : Addr) : entryFrame m #[(.ref a)] 1 = mkF m 0 #[.val (.ref a)] [] := by first | (simp [entryFrame, mkF, argsToLocals, Value.category]; done) | rfl
def Q_rmPaid4 (Z : State) (a : Addr) (b_FORFEITED : Addr) (b_NOT_VESTED : Addr) (h0 : Heap) (n0 : Nat) (v_ : Option Value) (h_ : Heap) (L_ : List Loc) : Prop := v_ = some (.int (1 : Int32)) ∧ Fr n0 L_ ∧ h_ = h0
set_option maxRecDepth 65536 in
set_option maxHeartbeats 40000000 in
theorem rmPaid4 (l : Launch) (Z : State) (a0 : Array Value) (hw : ∀ d ∈ tables_1, d.before a0 Z = true) (ws : List Jvm.Cond) (a : Addr) (b_FORFEITED : Addr) (b_NOT_VESTED : Addr) (h0 : Heap) (n0 : Nat) (Z0 : n0 ≤ h0.size) (O0 : Old Z n0 h0) (u1 : Sta Z Z.heap "com/example/vestwright/vestwright/model/SeparationCase" "FORFEITED" "Lcom/example/vestwright/vestwright/model/SeparationCase;" (.ref b_FORFEITED)) (u2 : Sta Z Z.heap "com/example/vestwright/vestwright/model/SeparationCase" "NOT_VESTED" "Lcom/example/vestwright/vestwright/model/SeparationCase;" (.ref b_NOT_VESTED)) (u3 : a ≠ b_FORFEITED) (u4 : a ≠ b_NOT_VESTED) :
    MetFree l own_y1 (head1 (Jvm.Cond.code own_y1 prog_121_method_5_code 1 (some .boolean) :: ws) ({ frames := 0, cells := 0, slots := 0, locals := 0 } : Room)) (fun a_ U_ => a_ = #[(.ref a)] ∧ Z.Warmed39 U_.vm ∧ U_.heap = h0) (fun _ _ _ _ _ => True) (fun _ U_ o_ U2_ => ∃ v_ L_, o_ = .returned v_ ∧ Q_rmPaid4 Z a b_FORFEITED b_NOT_VESTED h0 n0 v_ U2_.heap L_ ∧ FrameEnd U_ o_ U2_ L_ ({ frames := 0, cells := 0, slots := 0, locals := 0 } : Room).cells ({ frames := 0, cells := 0, slots := 0, locals := 0 } : Room).slots) := by
  refine MetFree.of_bodySF (plainFor_of_name pn_0) hisR ?_
  intro p e s m args below meth c s₁ Bd hml0 hP hK
  obtain ⟨rfl, hZ, hh⟩ := hP
  have hx := Bd.exec
  have hby := Bd.bytes
  have hml : c.maxLocals = 1 := hml0
  have hown : s.vm.findClass "com/example/vestwright/vestwright/model/SeparationCase" = some m.cls := findClass_of_methodNamed Bd.named
  have hnm := (name_of_methodNamed Bd.named Bd.method).1
  have X0 : Stand p l e ({ frames := 0, cells := 0, slots := 0, locals := 0 } : Room) s m #[(.ref a)] below meth c s₁ [] 0 0 := Stand.of_body Bd
  have e0 : s₁.heap = h0 := by rw [← hh, Bd.state]; rfl
  have N0 := Fr.nil n0
  refine own_go (A := s₁.setTop (mkF m 0 #[.val (.ref a)] [])) (fun t_ k_ => castTop (ef_rmPaid4 m a) k_) ?_
  refine own_go (A := s₁.setTop (mkF m 1 #[.val (.ref a)] [(.ref a)])) (fun t_ k_ => ?_) ?_
  · show Steps p.tables e below (s₁.setTop (mkF m 0 #[.val (.ref a)] [])) t_
    refine XS.aloadN X0.here hx rfl (hb hby d2_0) rfl rfl ?_
    exact k_
  obtain ⟨T1, X1, e1, st1⟩ := getS2 X0 hx hZ hown (host := "") (Or.inl (own_w hw 35 rfl)) Via.refl e0 (u1.ext O0.2) (g := (mkF m 1 #[.val (.ref a)] [(.ref a)])) rfl (hb hby d2_1)
  refine own_go st1 ?_
  refine own_go (A := T1.setTop (mkF m 8 #[.val (.ref a)] [(.ref a)])) (fun t_ k_ => ?_) ?_
  · show Steps p.tables e below (T1.setTop (mkF m 4 #[.val (.ref a)] [(.ref b_FORFEITED), (.ref a)])) t_
    refine Jvm.RoadKit.acmp (g := (mkF m 4 #[.val (.ref a)] [(.ref b_FORFEITED), (.ref a)])) X1 hx rfl rfl rfl (pc0 := 4) (pc' := 7) (same := false) rfl (hb hby d2_4) rfl (decide_eq_false fun q => u3 (Value.ref.inj q)) (by decide) (by decide) ?_
    show Steps p.tables e below (T1.setTop (mkF m 7 #[.val (.ref a)] [])) t_
    refine XS.aloadN X1.here hx rfl (hb hby d2_7) rfl rfl ?_
    exact k_
  obtain ⟨T2, X2, e2, st2⟩ := getS2 X1 hx hZ hown (host := "") (Or.inl (own_w hw 36 rfl)) Via.refl e1 (u2.ext O0.2) (g := (mkF m 8 #[.val (.ref a)] [(.ref a)])) rfl (hb hby d2_8)
  refine own_go st2 ?_
  refine own_go (A := T2.setTop (mkF m 19 #[.val (.ref a)] [(.int (1 : Int32))])) (fun t_ k_ => ?_) ?_
  · show Steps p.tables e below (T2.setTop (mkF m 11 #[.val (.ref a)] [(.ref b_NOT_VESTED), (.ref a)])) t_
    refine Jvm.RoadKit.acmp (g := (mkF m 11 #[.val (.ref a)] [(.ref b_NOT_VESTED), (.ref a)])) X2 hx rfl rfl rfl (pc0 := 11) (pc' := 14) (same := false) rfl (hb hby d2_11) rfl (decide_eq_false fun q => u4 (Value.ref.inj q)) (by decide) (by decide) ?_
    show Steps p.tables e below (T2.setTop (mkF m 14 #[.val (.ref a)] [])) t_
    refine XS.iconst X2.here hx rfl (hb hby d2_14) ?_
    show Steps p.tables e below (T2.setTop (mkF m 15 #[.val (.ref a)] [(.int (1 : Int32))])) t_
    refine XS.goto X2.here hx rfl (pc0 := 15) (pc' := 19) rfl (hb hby d2_15) (by decide) (by decide) ?_
    exact k_
  obtain ⟨fs3, hr3, hrun3, hended3, hW3, hsame3⟩ := X2.leave (v := some (.int (1 : Int32))) (fun h => by rw [Bd.returns] at h; cases h)
  refine ⟨_, _, ?_, hrun3, hended3, _, _, rfl, ?_, ⟨_, rfl⟩, hW3, hsame3.mono (by decide) (by decide)⟩
  · exact retN X2 hx (t := .boolean) Bd.returns (by simp) (hb hby d2_19) hr3
  · show Q_rmPaid4 Z a b_FORFEITED b_NOT_VESTED h0 n0 _ T2.heap _
    rw [e2]
    exact ⟨rfl, N0, rfl⟩
theorem d2_18 : decode prog_121_method_5_code 18 = .ok (.iconst 0, 1) := by decide +kernel
theorem ef_rmPaid5 (m : MethodId) (a : Addr) : entryFrame m #[(.ref a)] 1 = mkF m 0 #[.val (.ref a)] [] := by first | (simp [entryFrame, mkF, argsToLocals, Value.category]; done) | rfl
def Q_rmPaid5 (Z : State) (a : Addr) (b_NOT_VESTED : Addr) (h0 : Heap) (n0 : Nat) (v_ : Option Value) (h_ : Heap) (L_ : List Loc) : Prop := v_ = some (.int (0 : Int32)) ∧ Fr n0 L_ ∧ h_ = h0
set_option maxRecDepth 65536 in
set_option maxHeartbeats 40000000 in
theorem rmPaid5 (l : Launch) (Z : State) (a0 : Array Value) (hw : ∀ d ∈ tables_1, d.before a0 Z = true) (ws : List Jvm.Cond) (a : Addr) (b_NOT_VESTED : Addr) (h0 : Heap) (n0 : Nat) (Z0 : n0 ≤ h0.size) (O0 : Old Z n0 h0) (u1 : Sta Z Z.heap "com/example/vestwright/vestwright/model/SeparationCase" "FORFEITED" "Lcom/example/vestwright/vestwright/model/SeparationCase;" (.ref a)) (u2 : Sta Z Z.heap "com/example/vestwright/vestwright/model/SeparationCase" "NOT_VESTED" "Lcom/example/vestwright/vestwright/model/SeparationCase;" (.ref b_NOT_VESTED)) (u3 : a ≠ b_NOT_VESTED) :
    MetFree l own_y1 (head1 (Jvm.Cond.code own_y1 prog_121_method_5_code 1 (some .boolean) :: ws) ({ frames := 0, cells := 0, slots := 0, locals := 0 } : Room)) (fun a_ U_ => a_ = #[(.ref a)] ∧ Z.Warmed39 U_.vm ∧ U_.heap = h0) (fun _ _ _ _ _ => True) (fun _ U_ o_ U2_ => ∃ v_ L_, o_ = .returned v_ ∧ Q_rmPaid5 Z a b_NOT_VESTED h0 n0 v_ U2_.heap L_ ∧ FrameEnd U_ o_ U2_ L_ ({ frames := 0, cells := 0, slots := 0, locals := 0 } : Room).cells ({ frames := 0, cells := 0, slots := 0, locals := 0 } : Room).slots) := by
  refine MetFree.of_bodySF (plainFor_of_name pn_0) hisR ?_
  intro p e s m args below meth c s₁ Bd hml0 hP hK
  obtain ⟨rfl, hZ, hh⟩ := hP
  have hx := Bd.exec
  have hby := Bd.bytes
  have hml : c.maxLocals = 1 := hml0
  have hown : s.vm.findClass "com/example/vestwright/vestwright/model/SeparationCase" = some m.cls := findClass_of_methodNamed Bd.named
  have hnm := (name_of_methodNamed Bd.named Bd.method).1
  have X0 : Stand p l e ({ frames := 0, cells := 0, slots := 0, locals := 0 } : Room) s m #[(.ref a)] below meth c s₁ [] 0 0 := Stand.of_body Bd
  have e0 : s₁.heap = h0 := by rw [← hh, Bd.state]; rfl
  have N0 := Fr.nil n0
  refine own_go (A := s₁.setTop (mkF m 0 #[.val (.ref a)] [])) (fun t_ k_ => castTop (ef_rmPaid5 m a) k_) ?_
  refine own_go (A := s₁.setTop (mkF m 1 #[.val (.ref a)] [(.ref a)])) (fun t_ k_ => ?_) ?_
  · show Steps p.tables e below (s₁.setTop (mkF m 0 #[.val (.ref a)] [])) t_
    refine XS.aloadN X0.here hx rfl (hb hby d2_0) rfl rfl ?_
    exact k_
  obtain ⟨T1, X1, e1, st1⟩ := getS2 X0 hx hZ hown (host := "") (Or.inl (own_w hw 35 rfl)) Via.refl e0 (u1.ext O0.2) (g := (mkF m 1 #[.val (.ref a)] [(.ref a)])) rfl (hb hby d2_1)
  refine own_go st1 ?_
  refine own_go (A := T1.setTop (mkF m 19 #[.val (.ref a)] [(.int (0 : Int32))])) (fun t_ k_ => ?_) ?_
  · show Steps p.tables e below (T1.setTop (mkF m 4 #[.val (.ref a)] [(.ref a), (.ref a)])) t_
    refine Jvm.RoadKit.acmp (g := (mkF m 4 #[.val (.ref a)] [(.ref a), (.ref a)])) X1 hx rfl rfl rfl (pc0 := 4) (pc' := 18) (same := true) rfl (hb hby d2_4) rfl (decide_eq_true rfl) (by decide) (by decide) ?_
    show Steps p.tables e below (T1.setTop (mkF m 18 #[.val (.ref a)] [])) t_
    refine XS.iconst X1.here hx rfl (hb hby d2_18) ?_
    exact k_
  obtain ⟨fs2, hr2, hrun2, hended2, hW2, hsame2⟩ := X1.leave (v := some (.int (0 : Int32))) (fun h => by rw [Bd.returns] at h; cases h)
  refine ⟨_, _, ?_, hrun2, hended2, _, _, rfl, ?_, ⟨_, rfl⟩, hW2, hsame2.mono (by decide) (by decide)⟩
  · exact retN X1 hx (t := .boolean) Bd.returns (by simp) (hb hby d2_19) hr2
  · show Q_rmPaid5 Z a b_NOT_VESTED h0 n0 _ T1.heap _
    rw [e1]
    exact ⟨rfl, N0, rfl⟩
theorem ef_rmPaid6 (m : MethodId) (a : Addr) : entryFrame m #[(.ref a)] 1 = mkF m 0 #[.val (.ref a)] [] := by first | (simp [entryFrame, mkF, argsToLocals, Value.category]; done) | rfl
def Q_rmPaid6 (Z : State) (a : Addr) (b_FORFEITED : Addr) (h0 : Heap) (n0 : Nat) (v_ : Option Value) (h_ : Heap) (L_ : List Loc) : Prop := v_ = some (.int (0 : Int32)) ∧ Fr n0 L_ ∧ h_ = h0
set_option maxRecDepth 65536 in
set_option maxHeartbeats 40000000 in
theorem rmPaid6 (l : Launch) (Z : State) (a0 : Array Value) (hw : ∀ d ∈ tables_1, d.before a0 Z = true) (ws : List Jvm.Cond) (a : Addr) (b_FORFEITED : Addr) (h0 : Heap) (n0 : Nat) (Z0 : n0 ≤ h0.size) (O0 : Old Z n0 h0) (u1 : Sta Z Z.heap "com/example/vestwright/vestwright/model/SeparationCase" "FORFEITED" "Lcom/example/vestwright/vestwright/model/SeparationCase;" (.ref b_FORFEITED)) (u2 : Sta Z Z.heap "com/example/vestwright/vestwright/model/SeparationCase" "NOT_VESTED" "Lcom/example/vestwright/vestwright/model/SeparationCase;" (.ref a)) (u3 : a ≠ b_FORFEITED) :
    MetFree l own_y1 (head1 (Jvm.Cond.code own_y1 prog_121_method_5_code 1 (some .boolean) :: ws) ({ frames := 0, cells := 0, slots := 0, locals := 0 } : Room)) (fun a_ U_ => a_ = #[(.ref a)] ∧ Z.Warmed39 U_.vm ∧ U_.heap = h0) (fun _ _ _ _ _ => True) (fun _ U_ o_ U2_ => ∃ v_ L_, o_ = .returned v_ ∧ Q_rmPaid6 Z a b_FORFEITED h0 n0 v_ U2_.heap L_ ∧ FrameEnd U_ o_ U2_ L_ ({ frames := 0, cells := 0, slots := 0, locals := 0 } : Room).cells ({ frames := 0, cells := 0, slots := 0, locals := 0 } : Room).slots) := by
  refine MetFree.of_bodySF (plainFor_of_name pn_0) hisR ?_
  intro p e s m args below meth c s₁ Bd hml0 hP hK
  obtain ⟨rfl, hZ, hh⟩ := hP
  have hx := Bd.exec
  have hby := Bd.bytes
  have hml : c.maxLocals = 1 := hml0
  have hown : s.vm.findClass "com/example/vestwright/vestwright/model/SeparationCase" = some m.cls := findClass_of_methodNamed Bd.named
  have hnm := (name_of_methodNamed Bd.named Bd.method).1
  have X0 : Stand p l e ({ frames := 0, cells := 0, slots := 0, locals := 0 } : Room) s m #[(.ref a)] below meth c s₁ [] 0 0 := Stand.of_body Bd
  have e0 : s₁.heap = h0 := by rw [← hh, Bd.state]; rfl
  have N0 := Fr.nil n0
  refine own_go (A := s₁.setTop (mkF m 0 #[.val (.ref a)] [])) (fun t_ k_ => castTop (ef_rmPaid6 m a) k_) ?_
  refine own_go (A := s₁.setTop (mkF m 1 #[.val (.ref a)] [(.ref a)])) (fun t_ k_ => ?_) ?_
  · show Steps p.tables e below (s₁.setTop (mkF m 0 #[.val (.ref a)] [])) t_
    refine XS.aloadN X0.here hx rfl (hb hby d2_0) rfl rfl ?_
    exact k_
  obtain ⟨T1, X1, e1, st1⟩ := getS2 X0 hx hZ hown (host := "") (Or.inl (own_w hw 35 rfl)) Via.refl e0 (u1.ext O0.2) (g := (mkF m 1 #[.val (.ref a)] [(.ref a)])) rfl (hb hby d2_1)
  refine own_go st1 ?_
  refine own_go (A := T1.setTop (mkF m 8 #[.val (.ref a)] [(.ref a)])) (fun t_ k_ => ?_) ?_
  · show Steps p.tables e below (T1.setTop (mkF m 4 #[.val (.ref a)] [(.ref b_FORFEITED), (.ref a)])) t_
    refine Jvm.RoadKit.acmp (g := (mkF m 4 #[.val (.ref a)] [(.ref b_FORFEITED), (.ref a)])) X1 hx rfl rfl rfl (pc0 := 4) (pc' := 7) (same := false) rfl (hb hby d2_4) rfl (decide_eq_false fun q => u3 (Value.ref.inj q)) (by decide) (by decide) ?_
    show Steps p.tables e below (T1.setTop (mkF m 7 #[.val (.ref a)] [])) t_
    refine XS.aloadN X1.here hx rfl (hb hby d2_7) rfl rfl ?_
    exact k_
  obtain ⟨T2, X2, e2, st2⟩ := getS2 X1 hx hZ hown (host := "") (Or.inl (own_w hw 36 rfl)) Via.refl e1 (u2.ext O0.2) (g := (mkF m 8 #[.val (.ref a)] [(.ref a)])) rfl (hb hby d2_8)
  refine own_go st2 ?_
  refine own_go (A := T2.setTop (mkF m 19 #[.val (.ref a)] [(.int (0 : Int32))])) (fun t_ k_ => ?_) ?_
  · show Steps p.tables e below (T2.setTop (mkF m 11 #[.val (.ref a)] [(.ref a), (.ref a)])) t_
    refine Jvm.RoadKit.acmp (g := (mkF m 11 #[.val (.ref a)] [(.ref a), (.ref a)])) X2 hx rfl rfl rfl (pc0 := 11) (pc' := 18) (same := true) rfl (hb hby d2_11) rfl (decide_eq_true rfl) (by decide) (by decide) ?_
    show Steps p.tables e below (T2.setTop (mkF m 18 #[.val (.ref a)] [])) t_
    refine XS.iconst X2.here hx rfl (hb hby d2_18) ?_
    exact k_
  obtain ⟨fs3, hr3, hrun3, hended3, hW3, hsame3⟩ := X2.leave (v := some (.int (0 : Int32))) (fun h => by rw [Bd.returns] at h; cases h)
  refine ⟨_, _, ?_, hrun3, hended3, _, _, rfl, ?_, ⟨_, rfl⟩, hW3, hsame3.mono (by decide) (by decide)⟩
  · exact retN X2 hx (t := .boolean) Bd.returns (by simp) (hb hby d2_19) hr3
  · show Q_rmPaid6 Z a b_FORFEITED h0 n0 _ T2.heap _
    rw [e2]
    exact ⟨rfl, N0, rfl⟩
theorem ef_rmPaid7 (m : MethodId) (a : Addr) : entryFrame m #[(.ref a)] 1 = mkF m 0 #[.val (.ref a)] [] := by first | (simp [entryFrame, mkF, argsToLocals, Value.category]; done) | rfl
def Q_rmPaid7 (Z : State) (a : Addr) (b_FORFEITED : Addr) (b_NOT_VESTED : Addr) (h0 : Heap) (n0 : Nat) (v_ : Option Value) (h_ : Heap) (L_ : List Loc) : Prop := v_ = some (.int (1 : Int32)) ∧ Fr n0 L_ ∧ h_ = h0
set_option maxRecDepth 65536 in
set_option maxHeartbeats 40000000 in
theorem rmPaid7 (l : Launch) (Z : State) (a0 : Array Value) (hw : ∀ d ∈ tables_1, d.before a0 Z = true) (ws : List Jvm.Cond) (a : Addr) (b_FORFEITED : Addr) (b_NOT_VESTED : Addr) (h0 : Heap) (n0 : Nat) (Z0 : n0 ≤ h0.size) (O0 : Old Z n0 h0) (u1 : Sta Z Z.heap "com/example/vestwright/vestwright/model/SeparationCase" "FORFEITED" "Lcom/example/vestwright/vestwright/model/SeparationCase;" (.ref b_FORFEITED)) (u2 : Sta Z Z.heap "com/example/vestwright/vestwright/model/SeparationCase" "NOT_VESTED" "Lcom/example/vestwright/vestwright/model/SeparationCase;" (.ref b_NOT_VESTED)) (u3 : a ≠ b_FORFEITED) (u4 : a ≠ b_NOT_VESTED) :
    MetFree l own_y1 (head1 (Jvm.Cond.code own_y1 prog_121_method_5_code 1 (some .boolean) :: ws) ({ frames := 0, cells := 0, slots := 0, locals := 0 } : Room)) (fun a_ U_ => a_ = #[(.ref a)] ∧ Z.Warmed39 U_.vm ∧ U_.heap = h0) (fun _ _ _ _ _ => True) (fun _ U_ o_ U2_ => ∃ v_ L_, o_ = .returned v_ ∧ Q_rmPaid7 Z a b_FORFEITED b_NOT_VESTED h0 n0 v_ U2_.heap L_ ∧ FrameEnd U_ o_ U2_ L_ ({ frames := 0, cells := 0, slots := 0, locals := 0 } : Room).cells ({ frames := 0, cells := 0, slots := 0, locals := 0 } : Room).slots) := by
  refine MetFree.of_bodySF (plainFor_of_name pn_0) hisR ?_
  intro p e s m args below meth c s₁ Bd hml0 hP hK
  obtain ⟨rfl, hZ, hh⟩ := hP
  have hx := Bd.exec
  have hby := Bd.bytes
  have hml : c.maxLocals = 1 := hml0
  have hown : s.vm.findClass "com/example/vestwright/vestwright/model/SeparationCase" = some m.cls := findClass_of_methodNamed Bd.named
  have hnm := (name_of_methodNamed Bd.named Bd.method).1
  have X0 : Stand p l e ({ frames := 0, cells := 0, slots := 0, locals := 0 } : Room) s m #[(.ref a)] below meth c s₁ [] 0 0 := Stand.of_body Bd
  have e0 : s₁.heap = h0 := by rw [← hh, Bd.state]; rfl
  have N0 := Fr.nil n0
  refine own_go (A := s₁.setTop (mkF m 0 #[.val (.ref a)] [])) (fun t_ k_ => castTop (ef_rmPaid7 m a) k_) ?_
  refine own_go (A := s₁.setTop (mkF m 1 #[.val (.ref a)] [(.ref a)])) (fun t_ k_ => ?_) ?_
  · show Steps p.tables e below (s₁.setTop (mkF m 0 #[.val (.ref a)] [])) t_
    refine XS.aloadN X0.here hx rfl (hb hby d2_0) rfl rfl ?_
    exact k_
  obtain ⟨T1, X1, e1, st1⟩ := getS2 X0 hx hZ hown (host := "") (Or.inl (own_w hw 35 rfl)) Via.refl e0 (u1.ext O0.2) (g := (mkF m 1 #[.val (.ref a)] [(.ref a)])) rfl (hb hby d2_1)
  refine own_go st1 ?_
  refine own_go (A := T1.setTop (mkF m 8 #[.val (.ref a)] [(.ref a)])) (fun t_ k_ => ?_) ?_
  · show Steps p.tables e below (T1.setTop (mkF m 4 #[.val (.ref a)] [(.ref b_FORFEITED), (.ref a)])) t_
    refine Jvm.RoadKit.acmp (g := (mkF m 4 #[.val (.ref a)] [(.ref b_FORFEITED), (.ref a)])) X1 hx rfl rfl rfl (pc0 := 4) (pc' := 7) (same := false) rfl (hb hby d2_4) rfl (decide_eq_false fun q => u3 (Value.ref.inj q)) (by decide) (by decide) ?_
    show Steps p.tables e below (T1.setTop (mkF m 7 #[.val (.ref a)] [])) t_
    refine XS.aloadN X1.here hx rfl (hb hby d2_7) rfl rfl ?_
    exact k_
  obtain ⟨T2, X2, e2, st2⟩ := getS2 X1 hx hZ hown (host := "") (Or.inl (own_w hw 36 rfl)) Via.refl e1 (u2.ext O0.2) (g := (mkF m 8 #[.val (.ref a)] [(.ref a)])) rfl (hb hby d2_8)
  refine own_go st2 ?_
  refine own_go (A := T2.setTop (mkF m 19 #[.val (.ref a)] [(.int (1 : Int32))])) (fun t_ k_ => ?_) ?_
  · show Steps p.tables e below (T2.setTop (mkF m 11 #[.val (.ref a)] [(.ref b_NOT_VESTED), (.ref a)])) t_
    refine Jvm.RoadKit.acmp (g := (mkF m 11 #[.val (.ref a)] [(.ref b_NOT_VESTED), (.ref a)])) X2 hx rfl rfl rfl (pc0 := 11) (pc' := 14) (same := false) rfl (hb hby d2_11) rfl (decide_eq_false fun q => u4 (Value.ref.inj q)) (by decide) (by decide) ?_
    show Steps p.tables e below (T2.setTop (mkF m 14 #[.val (.ref a)] [])) t_
    refine XS.iconst X2.here hx rfl (hb hby d2_14) ?_
    show Steps p.tables e below (T2.setTop (mkF m 15 #[.val (.ref a)] [(.int (1 : Int32))])) t_
    refine XS.goto X2.here hx rfl (pc0 := 15) (pc' := 19) rfl (hb hby d2_15) (by decide) (by decide) ?_
    exact k_
  obtain ⟨fs3, hr3, hrun3, hended3, hW3, hsame3⟩ := X2.leave (v := some (.int (1 : Int32))) (fun h => by rw [Bd.returns] at h; cases h)
  refine ⟨_, _, ?_, hrun3, hended3, _, _, rfl, ?_, ⟨_, rfl⟩, hW3, hsame3.mono (by decide) (by decide)⟩
  · exact retN X2 hx (t := .boolean) Bd.returns (by simp) (hb hby d2_19) hr3
  · show Q_rmPaid7 Z a b_FORFEITED b_NOT_VESTED h0 n0 _ T2.heap _
    rw [e2]
    exact ⟨rfl, N0, rfl⟩
theorem ef_rmPaid8 (m : MethodId) (a : Addr) : entryFrame m #[(.ref a)] 1 = mkF m 0 #[.val (.ref a)] [] := by first | (simp [entryFrame, mkF, argsToLocals, Value.category]; done) | rfl
def Q_rmPaid8 (Z : State) (a : Addr) (b_FORFEITED : Addr) (b_NOT_VESTED : Addr) (h0 : Heap) (n0 : Nat) (v_ : Option Value) (h_ : Heap) (L_ : List Loc) : Prop := v_ = some (.int (1 : Int32)) ∧ Fr n0 L_ ∧ h_ = h0
set_option maxRecDepth 65536 in
set_option maxHeartbeats 40000000 in
theorem rmPaid8 (l : Launch) (Z : State) (a0 : Array Value) (hw : ∀ d ∈ tables_1, d.before a0 Z = true) (ws : List Jvm.Cond) (a : Addr) (b_FORFEITED : Addr) (b_NOT_VESTED : Addr) (h0 : Heap) (n0 : Nat) (Z0 : n0 ≤ h0.size) (O0 : Old Z n0 h0) (u1 : Sta Z Z.heap "com/example/vestwright/vestwright/model/SeparationCase" "FORFEITED" "Lcom/example/vestwright/vestwright/model/SeparationCase;" (.ref b_FORFEITED)) (u2 : Sta Z Z.heap "com/example/vestwright/vestwright/model/SeparationCase" "NOT_VESTED" "Lcom/example/vestwright/vestwright/model/SeparationCase;" (.ref b_NOT_VESTED)) (u3 : a ≠ b_FORFEITED) (u4 : a ≠ b_NOT_VESTED) :
    MetFree l own_y1 (head1 (Jvm.Cond.code own_y1 prog_121_method_5_code 1 (some .boolean) :: ws) ({ frames := 0, cells := 0, slots := 0, locals := 0 } : Room)) (fun a_ U_ => a_ = #[(.ref a)] ∧ Z.Warmed39 U_.vm ∧ U_.heap = h0) (fun _ _ _ _ _ => True) (fun _ U_ o_ U2_ => ∃ v_ L_, o_ = .returned v_ ∧ Q_rmPaid8 Z a b_FORFEITED b_NOT_VESTED h0 n0 v_ U2_.heap L_ ∧ FrameEnd U_ o_ U2_ L_ ({ frames := 0, cells := 0, slots := 0, locals := 0 } : Room).cells ({ frames := 0, cells := 0, slots := 0, locals := 0 } : Room).slots) := by
  refine MetFree.of_bodySF (plainFor_of_name pn_0) hisR ?_
  intro p e s m args below meth c s₁ Bd hml0 hP hK
  obtain ⟨rfl, hZ, hh⟩ := hP
  have hx := Bd.exec
  have hby := Bd.bytes
  have hml : c.maxLocals = 1 := hml0
  have hown : s.vm.findClass "com/example/vestwright/vestwright/model/SeparationCase" = some m.cls := findClass_of_methodNamed Bd.named
  have hnm := (name_of_methodNamed Bd.named Bd.method).1
  have X0 : Stand p l e ({ frames := 0, cells := 0, slots := 0, locals := 0 } : Room) s m #[(.ref a)] below meth c s₁ [] 0 0 := Stand.of_body Bd
  have e0 : s₁.heap = h0 := by rw [← hh, Bd.state]; rfl
  have N0 := Fr.nil n0
  refine own_go (A := s₁.setTop (mkF m 0 #[.val (.ref a)] [])) (fun t_ k_ => castTop (ef_rmPaid8 m a) k_) ?_
  refine own_go (A := s₁.setTop (mkF m 1 #[.val (.ref a)] [(.ref a)])) (fun t_ k_ => ?_) ?_
  · show Steps p.tables e below (s₁.setTop (mkF m 0 #[.val (.ref a)] [])) t_
    refine XS.aloadN X0.here hx rfl (hb hby d2_0) rfl rfl ?_
    exact k_
  obtain ⟨T1, X1, e1, st1⟩ := getS2 X0 hx hZ hown (host := "") (Or.inl (own_w hw 35 rfl)) Via.refl e0 (u1.ext O0.2) (g := (mkF m 1 #[.val (.ref a)] [(.ref a)])) rfl (hb hby d2_1)
  refine own_go st1 ?_
  refine own_go (A := T1.setTop (mkF m 8 #[.val (.ref a)] [(.ref a)])) (fun t_ k_ => ?_) ?_
  · show Steps p.tables e below (T1.setTop (mkF m 4 #[.val (.ref a)] [(.ref b_FORFEITED), (.ref a)])) t_
    refine Jvm.RoadKit.acmp (g := (mkF m 4 #[.val (.ref a)] [(.ref b_FORFEITED), (.ref a)])) X1 hx rfl rfl rfl (pc0 := 4) (pc' := 7) (same := false) rfl (hb hby d2_4) rfl (decide_eq_false fun q => u3 (Value.ref.inj q)) (by decide) (by decide) ?_
    show Steps p.tables e below (T1.setTop (mkF m 7 #[.val (.ref a)] [])) t_
    refine XS.aloadN X1.here hx rfl (hb hby d2_7) rfl rfl ?_
    exact k_
  obtain ⟨T2, X2, e2, st2⟩ := getS2 X1 hx hZ hown (host := "") (Or.inl (own_w hw 36 rfl)) Via.refl e1 (u2.ext O0.2) (g := (mkF m 8 #[.val (.ref a)] [(.ref a)])) rfl (hb hby d2_8)
  refine own_go st2 ?_
  refine own_go (A := T2.setTop (mkF m 19 #[.val (.ref a)] [(.int (1 : Int32))])) (fun t_ k_ => ?_) ?_
  · show Steps p.tables e below (T2.setTop (mkF m 11 #[.val (.ref a)] [(.ref b_NOT_VESTED), (.ref a)])) t_
    refine Jvm.RoadKit.acmp (g := (mkF m 11 #[.val (.ref a)] [(.ref b_NOT_VESTED), (.ref a)])) X2 hx rfl rfl rfl (pc0 := 11) (pc' := 14) (same := false) rfl (hb hby d2_11) rfl (decide_eq_false fun q => u4 (Value.ref.inj q)) (by decide) (by decide) ?_
    show Steps p.tables e below (T2.setTop (mkF m 14 #[.val (.ref a)] [])) t_
    refine XS.iconst X2.here hx rfl (hb hby d2_14) ?_
    show Steps p.tables e below (T2.setTop (mkF m 15 #[.val (.ref a)] [(.int (1 : Int32))])) t_
    refine XS.goto X2.here hx rfl (pc0 := 15) (pc' := 19) rfl (hb hby d2_15) (by decide) (by decide) ?_
    exact k_
  obtain ⟨fs3, hr3, hrun3, hended3, hW3, hsame3⟩ := X2.leave (v := some (.int (1 : Int32))) (fun h => by rw [Bd.returns] at h; cases h)
  refine ⟨_, _, ?_, hrun3, hended3, _, _, rfl, ?_, ⟨_, rfl⟩, hW3, hsame3.mono (by decide) (by decide)⟩
  · exact retN X2 hx (t := .boolean) Bd.returns (by simp) (hb hby d2_19) hr3
  · show Q_rmPaid8 Z a b_FORFEITED b_NOT_VESTED h0 n0 _ T2.heap _
    rw [e2]
    exact ⟨rfl, N0, rfl⟩
theorem d3_0 : decode prog_121_method_6_code 0 = .ok (.aload_n 0, 1) := by decide +kernel
theorem d3_1 : decode prog_121_method_6_code 1 = .ok (.getstatic 3, 3) := by decide +kernel
theorem d3_4 : decode prog_121_method_6_code 4 = .ok (.if_acmp .eq 10, 3) := by decide +kernel
theorem d3_14 : decode prog_121_method_6_code 14 = .ok (.iconst 1, 1) := by decide +kernel
theorem d3_15 : decode prog_121_method_6_code 15 = .ok (.goto 4, 3) := by decide +kernel
theorem d3_19 : decode prog_121_method_6_code 19 = .ok (.ireturn, 1) := by decide +kernel
abbrev own_y2 : MethodName := ⟨"com/example/vestwright/vestwright/model/SeparationCase", "reduced", "()Z"⟩
theorem ef_rmRed0 (m : MethodId) (a : Addr) : entryFrame m #[(.ref a)] 1 = mkF m 0 #[.val (.ref a)] [] := by first | (simp [entryFrame, mkF, argsToLocals, Value.category]; done) | rfl
def Q_rmRed0 (Z : State) (a : Addr) (b_EARLY : Addr) (h0 : Heap) (n0 : Nat) (v_ : Option Value) (h_ : Heap) (L_ : List Loc) : Prop := v_ = some (.int (1 : Int32)) ∧ Fr n0 L_ ∧ h_ = h0
set_option maxRecDepth 65536 in
set_option maxHeartbeats 40000000 in
theorem rmRed0 (l : Launch) (Z : State) (a0 : Array Value) (hw : ∀ d ∈ tables_1, d.before a0 Z = true) (ws : List Jvm.Cond) (a : Addr) (b_EARLY : Addr) (h0 : Heap) (n0 : Nat) (Z0 : n0 ≤ h0.size) (O0 : Old Z n0 h0) (u1 : Sta Z Z.heap "com/example/vestwright/vestwright/model/SeparationCase" "NORMAL" "Lcom/example/vestwright/vestwright/model/SeparationCase;" (.ref a)) (u2 : Sta Z Z.heap "com/example/vestwright/vestwright/model/SeparationCase" "EARLY" "Lcom/example/vestwright/vestwright/model/SeparationCase;" (.ref b_EARLY)) (u3 : a ≠ b_EARLY) :
    MetFree l own_y2 (head1 (Jvm.Cond.code own_y2 prog_121_method_6_code 1 (some .boolean) :: ws) ({ frames := 0, cells := 0, slots := 0, locals := 0 } : Room)) (fun a_ U_ => a_ = #[(.ref a)] ∧ Z.Warmed39 U_.vm ∧ U_.heap = h0) (fun _ _ _ _ _ => True) (fun _ U_ o_ U2_ => ∃ v_ L_, o_ = .returned v_ ∧ Q_rmRed0 Z a b_EARLY h0 n0 v_ U2_.heap L_ ∧ FrameEnd U_ o_ U2_ L_ ({ frames := 0, cells := 0, slots := 0, locals := 0 } : Room).cells ({ frames := 0, cells := 0, slots := 0, locals := 0 } : Room).slots) := by
  refine MetFree.of_bodySF (plainFor_of_name pn_0) hisR ?_
  intro p e s m args below meth c s₁ Bd hml0 hP hK
  obtain ⟨rfl, hZ, hh⟩ := hP
  have hx := Bd.exec
  have hby := Bd.bytes
  have hml : c.maxLocals = 1 := hml0
  have hown : s.vm.findClass "com/example/vestwright/vestwright/model/SeparationCase" = some m.cls := findClass_of_methodNamed Bd.named
  have hnm := (name_of_methodNamed Bd.named Bd.method).1
  have X0 : Stand p l e ({ frames := 0, cells := 0, slots := 0, locals := 0 } : Room) s m #[(.ref a)] below meth c s₁ [] 0 0 := Stand.of_body Bd
  have e0 : s₁.heap = h0 := by rw [← hh, Bd.state]; rfl
  have N0 := Fr.nil n0
  refine own_go (A := s₁.setTop (mkF m 0 #[.val (.ref a)] [])) (fun t_ k_ => castTop (ef_rmRed0 m a) k_) ?_
  refine own_go (A := s₁.setTop (mkF m 1 #[.val (.ref a)] [(.ref a)])) (fun t_ k_ => ?_) ?_
  · show Steps p.tables e below (s₁.setTop (mkF m 0 #[.val (.ref a)] [])) t_
    refine XS.aloadN X0.here hx rfl (hb hby d3_0) rfl rfl ?_
    exact k_
  obtain ⟨T1, X1, e1, st1⟩ := getS2 X0 hx hZ hown (host := "") (Or.inl (own_w hw 42 rfl)) Via.refl e0 (u1.ext O0.2) (g := (mkF m 1 #[.val (.ref a)] [(.ref a)])) rfl (hb hby d3_1)
  refine own_go st1 ?_
  refine own_go (A := T1.setTop (mkF m 19 #[.val (.ref a)] [(.int (1 : Int32))])) (fun t_ k_ => ?_) ?_
  · show Steps p.tables e below (T1.setTop (mkF m 4 #[.val (.ref a)] [(.ref a), (.ref a)])) t_
    refine Jvm.RoadKit.acmp (g := (mkF m 4 #[.val (.ref a)] [(.ref a), (.ref a)])) X1 hx rfl rfl rfl (pc0 := 4) (pc' := 14) (same := true) rfl (hb hby d3_4) rfl (decide_eq_true rfl) (by decide) (by decide) ?_
    show Steps p.tables e below (T1.setTop (mkF m 14 #[.val (.ref a)] [])) t_
    refine XS.iconst X1.here hx rfl (hb hby d3_14) ?_
    show Steps p.tables e below (T1.setTop (mkF m 15 #[.val (.ref a)] [(.int (1 : Int32))])) t_
    refine XS.goto X1.here hx rfl (pc0 := 15) (pc' := 19) rfl (hb hby d3_15) (by decide) (by decide) ?_
    exact k_
  obtain ⟨fs2, hr2, hrun2, hended2, hW2, hsame2⟩ := X1.leave (v := some (.int (1 : Int32))) (fun h => by rw [Bd.returns] at h; cases h)
  refine ⟨_, _, ?_, hrun2, hended2, _, _, rfl, ?_, ⟨_, rfl⟩, hW2, hsame2.mono (by decide) (by decide)⟩
  · exact retN X1 hx (t := .boolean) Bd.returns (by simp) (hb hby d3_19) hr2
  · show Q_rmRed0 Z a b_EARLY h0 n0 _ T1.heap _
    rw [e1]
    exact ⟨rfl, N0, rfl⟩
theorem d3_7 : decode prog_121_method_6_code 7 = .ok (.aload_n 0, 1) := by decide +kernel
theorem d3_8 : decode prog_121_method_6_code 8 = .ok (.getstatic 7, 3) := by decide +kernel
theorem d3_11 : decode prog_121_method_6_code 11 = .ok (.if_acmp .ne 7, 3) := by decide +kernel
theorem ef_rmRed1 (m : MethodId) (a : Addr) : entryFrame m #[(.ref a)] 1 = mkF m 0 #[.val (.ref a)] [] := by first | (simp [entryFrame, mkF, argsToLocals, Value.category]; done) | rfl
def Q_rmRed1 (Z : State) (a : Addr) (b_NORMAL : Addr) (h0 : Heap) (n0 : Nat) (v_ : Option Value) (h_ : Heap) (L_ : List Loc) : Prop := v_ = some (.int (1 : Int32)) ∧ Fr n0 L_ ∧ h_ = h0
set_option maxRecDepth 65536 in
set_option maxHeartbeats 40000000 in
theorem rmRed1 (l : Launch) (Z : State) (a0 : Array Value) (hw : ∀ d ∈ tables_1, d.before a0 Z = true) (ws : List Jvm.Cond) (a : Addr) (b_NORMAL : Addr) (h0 : Heap) (n0 : Nat) (Z0 : n0 ≤ h0.size) (O0 : Old Z n0 h0) (u1 : Sta Z Z.heap "com/example/vestwright/vestwright/model/SeparationCase" "NORMAL" "Lcom/example/vestwright/vestwright/model/SeparationCase;" (.ref b_NORMAL)) (u2 : Sta Z Z.heap "com/example/vestwright/vestwright/model/SeparationCase" "EARLY" "Lcom/example/vestwright/vestwright/model/SeparationCase;" (.ref a)) (u3 : a ≠ b_NORMAL) :
    MetFree l own_y2 (head1 (Jvm.Cond.code own_y2 prog_121_method_6_code 1 (some .boolean) :: ws) ({ frames := 0, cells := 0, slots := 0, locals := 0 } : Room)) (fun a_ U_ => a_ = #[(.ref a)] ∧ Z.Warmed39 U_.vm ∧ U_.heap = h0) (fun _ _ _ _ _ => True) (fun _ U_ o_ U2_ => ∃ v_ L_, o_ = .returned v_ ∧ Q_rmRed1 Z a b_NORMAL h0 n0 v_ U2_.heap L_ ∧ FrameEnd U_ o_ U2_ L_ ({ frames := 0, cells := 0, slots := 0, locals := 0 } : Room).cells ({ frames := 0, cells := 0, slots := 0, locals := 0 } : Room).slots) := by
  refine MetFree.of_bodySF (plainFor_of_name pn_0) hisR ?_
  intro p e s m args below meth c s₁ Bd hml0 hP hK
  obtain ⟨rfl, hZ, hh⟩ := hP
  have hx := Bd.exec
  have hby := Bd.bytes
  have hml : c.maxLocals = 1 := hml0
  have hown : s.vm.findClass "com/example/vestwright/vestwright/model/SeparationCase" = some m.cls := findClass_of_methodNamed Bd.named
  have hnm := (name_of_methodNamed Bd.named Bd.method).1
  have X0 : Stand p l e ({ frames := 0, cells := 0, slots := 0, locals := 0 } : Room) s m #[(.ref a)] below meth c s₁ [] 0 0 := Stand.of_body Bd
  have e0 : s₁.heap = h0 := by rw [← hh, Bd.state]; rfl
  have N0 := Fr.nil n0
  refine own_go (A := s₁.setTop (mkF m 0 #[.val (.ref a)] [])) (fun t_ k_ => castTop (ef_rmRed1 m a) k_) ?_
  refine own_go (A := s₁.setTop (mkF m 1 #[.val (.ref a)] [(.ref a)])) (fun t_ k_ => ?_) ?_
  · show Steps p.tables e below (s₁.setTop (mkF m 0 #[.val (.ref a)] [])) t_
    refine XS.aloadN X0.here hx rfl (hb hby d3_0) rfl rfl ?_
    exact k_
  obtain ⟨T1, X1, e1, st1⟩ := getS2 X0 hx hZ hown (host := "") (Or.inl (own_w hw 42 rfl)) Via.refl e0 (u1.ext O0.2) (g := (mkF m 1 #[.val (.ref a)] [(.ref a)])) rfl (hb hby d3_1)
  refine own_go st1 ?_
  refine own_go (A := T1.setTop (mkF m 8 #[.val (.ref a)] [(.ref a)])) (fun t_ k_ => ?_) ?_
  · show Steps p.tables e below (T1.setTop (mkF m 4 #[.val (.ref a)] [(.ref b_NORMAL), (.ref a)])) t_
    refine Jvm.RoadKit.acmp (g := (mkF m 4 #[.val (.ref a)] [(.ref b_NORMAL), (.ref a)])) X1 hx rfl rfl rfl (pc0 := 4) (pc' := 7) (same := false) rfl (hb hby d3_4) rfl (decide_eq_false fun q => u3 (Value.ref.inj q)) (by decide) (by decide) ?_
    show Steps p.tables e below (T1.setTop (mkF m 7 #[.val (.ref a)] [])) t_
    refine XS.aloadN X1.here hx rfl (hb hby d3_7) rfl rfl ?_
    exact k_
  obtain ⟨T2, X2, e2, st2⟩ := getS2 X1 hx hZ hown (host := "") (Or.inl (own_w hw 43 rfl)) Via.refl e1 (u2.ext O0.2) (g := (mkF m 8 #[.val (.ref a)] [(.ref a)])) rfl (hb hby d3_8)
  refine own_go st2 ?_
  refine own_go (A := T2.setTop (mkF m 19 #[.val (.ref a)] [(.int (1 : Int32))])) (fun t_ k_ => ?_) ?_
  · show Steps p.tables e below (T2.setTop (mkF m 11 #[.val (.ref a)] [(.ref a), (.ref a)])) t_
    refine Jvm.RoadKit.acmp (g := (mkF m 11 #[.val (.ref a)] [(.ref a), (.ref a)])) X2 hx rfl rfl rfl (pc0 := 11) (pc' := 14) (same := true) rfl (hb hby d3_11) rfl (decide_eq_true rfl) (by decide) (by decide) ?_
    show Steps p.tables e below (T2.setTop (mkF m 14 #[.val (.ref a)] [])) t_
    refine XS.iconst X2.here hx rfl (hb hby d3_14) ?_
    show Steps p.tables e below (T2.setTop (mkF m 15 #[.val (.ref a)] [(.int (1 : Int32))])) t_
    refine XS.goto X2.here hx rfl (pc0 := 15) (pc' := 19) rfl (hb hby d3_15) (by decide) (by decide) ?_
    exact k_
  obtain ⟨fs3, hr3, hrun3, hended3, hW3, hsame3⟩ := X2.leave (v := some (.int (1 : Int32))) (fun h => by rw [Bd.returns] at h; cases h)
  refine ⟨_, _, ?_, hrun3, hended3, _, _, rfl, ?_, ⟨_, rfl⟩, hW3, hsame3.mono (by decide) (by decide)⟩
  · exact retN X2 hx (t := .boolean) Bd.returns (by simp) (hb hby d3_19) hr3
  · show Q_rmRed1 Z a b_NORMAL h0 n0 _ T2.heap _
    rw [e2]
    exact ⟨rfl, N0, rfl⟩
theorem d3_18 : decode prog_121_method_6_code 18 = .ok (.iconst 0, 1) := by decide +kernel
theorem ef_rmRed2 (m : MethodId) (a : Addr) : entryFrame m #[(.ref a)] 1 = mkF m 0 #[.val (.ref a)] [] := by first | (simp [entryFrame, mkF, argsToLocals, Value.category]; done) | rfl
def Q_rmRed2 (Z : State) (a : Addr) (b_NORMAL : Addr) (b_EARLY : Addr) (h0 : Heap) (n0 : Nat) (v_ : Option Value) (h_ : Heap) (L_ : List Loc) : Prop := v_ = some (.int (0 : Int32)) ∧ Fr n0 L_ ∧ h_ = h0
set_option maxRecDepth 65536 in
set_option maxHeartbeats 40000000 in
theorem rmRed2 (l : Launch) (Z : State) (a0 : Array Value) (hw : ∀ d ∈ tables_1, d.before a0 Z = true) (ws : List Jvm.Cond) (a : Addr) (b_NORMAL : Addr) (b_EARLY : Addr) (h0 : Heap) (n0 : Nat) (Z0 : n0 ≤ h0.size) (O0 : Old Z n0 h0) (u1 : Sta Z Z.heap "com/example/vestwright/vestwright/model/SeparationCase" "NORMAL" "Lcom/example/vestwright/vestwright/model/SeparationCase;" (.ref b_NORMAL)) (u2 : Sta Z Z.heap "com/example/vestwright/vestwright/model/SeparationCase" "EARLY" "Lcom/example/vestwright/vestwright/model/SeparationCase;" (.ref b_EARLY)) (u3 : a ≠ b_NORMAL) (u4 : a ≠ b_EARLY) :
    MetFree l own_y2 (head1 (Jvm.Cond.code own_y2 prog_121_method_6_code 1 (some .boolean) :: ws) ({ frames := 0, cells := 0, slots := 0, locals := 0 } : Room)) (fun a_ U_ => a_ = #[(.ref a)] ∧ Z.Warmed39 U_.vm ∧ U_.heap = h0) (fun _ _ _ _ _ => True) (fun _ U_ o_ U2_ => ∃ v_ L_, o_ = .returned v_ ∧ Q_rmRed2 Z a b_NORMAL b_EARLY h0 n0 v_ U2_.heap L_ ∧ FrameEnd U_ o_ U2_ L_ ({ frames := 0, cells := 0, slots := 0, locals := 0 } : Room).cells ({ frames := 0, cells := 0, slots := 0, locals := 0 } : Room).slots) := by
  refine MetFree.of_bodySF (plainFor_of_name pn_0) hisR ?_
  intro p e s m args below meth c s₁ Bd hml0 hP hK
  obtain ⟨rfl, hZ, hh⟩ := hP
  have hx := Bd.exec
  have hby := Bd.bytes
  have hml : c.maxLocals = 1 := hml0
  have hown : s.vm.findClass "com/example/vestwright/vestwright/model/SeparationCase" = some m.cls := findClass_of_methodNamed Bd.named
  have hnm := (name_of_methodNamed Bd.named Bd.method).1
  have X0 : Stand p l e ({ frames := 0, cells := 0, slots := 0, locals := 0 } : Room) s m #[(.ref a)] below meth c s₁ [] 0 0 := Stand.of_body Bd
  have e0 : s₁.heap = h0 := by rw [← hh, Bd.state]; rfl
  have N0 := Fr.nil n0
  refine own_go (A := s₁.setTop (mkF m 0 #[.val (.ref a)] [])) (fun t_ k_ => castTop (ef_rmRed2 m a) k_) ?_
  refine own_go (A := s₁.setTop (mkF m 1 #[.val (.ref a)] [(.ref a)])) (fun t_ k_ => ?_) ?_
  · show Steps p.tables e below (s₁.setTop (mkF m 0 #[.val (.ref a)] [])) t_
    refine XS.aloadN X0.here hx rfl (hb hby d3_0) rfl rfl ?_
    exact k_
  obtain ⟨T1, X1, e1, st1⟩ := getS2 X0 hx hZ hown (host := "") (Or.inl (own_w hw 42 rfl)) Via.refl e0 (u1.ext O0.2) (g := (mkF m 1 #[.val (.ref a)] [(.ref a)])) rfl (hb hby d3_1)
  refine own_go st1 ?_
  refine own_go (A := T1.setTop (mkF m 8 #[.val (.ref a)] [(.ref a)])) (fun t_ k_ => ?_) ?_
  · show Steps p.tables e below (T1.setTop (mkF m 4 #[.val (.ref a)] [(.ref b_NORMAL), (.ref a)])) t_
    refine Jvm.RoadKit.acmp (g := (mkF m 4 #[.val (.ref a)] [(.ref b_NORMAL), (.ref a)])) X1 hx rfl rfl rfl (pc0 := 4) (pc' := 7) (same := false) rfl (hb hby d3_4) rfl (decide_eq_false fun q => u3 (Value.ref.inj q)) (by decide) (by decide) ?_
    show Steps p.tables e below (T1.setTop (mkF m 7 #[.val (.ref a)] [])) t_
    refine XS.aloadN X1.here hx rfl (hb hby d3_7) rfl rfl ?_
    exact k_
  obtain ⟨T2, X2, e2, st2⟩ := getS2 X1 hx hZ hown (host := "") (Or.inl (own_w hw 43 rfl)) Via.refl e1 (u2.ext O0.2) (g := (mkF m 8 #[.val (.ref a)] [(.ref a)])) rfl (hb hby d3_8)
  refine own_go st2 ?_
  refine own_go (A := T2.setTop (mkF m 19 #[.val (.ref a)] [(.int (0 : Int32))])) (fun t_ k_ => ?_) ?_
  · show Steps p.tables e below (T2.setTop (mkF m 11 #[.val (.ref a)] [(.ref b_EARLY), (.ref a)])) t_
    refine Jvm.RoadKit.acmp (g := (mkF m 11 #[.val (.ref a)] [(.ref b_EARLY), (.ref a)])) X2 hx rfl rfl rfl (pc0 := 11) (pc' := 18) (same := false) rfl (hb hby d3_11) rfl (decide_eq_false fun q => u4 (Value.ref.inj q)) (by decide) (by decide) ?_
    show Steps p.tables e below (T2.setTop (mkF m 18 #[.val (.ref a)] [])) t_
    refine XS.iconst X2.here hx rfl (hb hby d3_18) ?_
    exact k_
  obtain ⟨fs3, hr3, hrun3, hended3, hW3, hsame3⟩ := X2.leave (v := some (.int (0 : Int32))) (fun h => by rw [Bd.returns] at h; cases h)
  refine ⟨_, _, ?_, hrun3, hended3, _, _, rfl, ?_, ⟨_, rfl⟩, hW3, hsame3.mono (by decide) (by decide)⟩
  · exact retN X2 hx (t := .boolean) Bd.returns (by simp) (hb hby d3_19) hr3
  · show Q_rmRed2 Z a b_NORMAL b_EARLY h0 n0 _ T2.heap _
    rw [e2]
    exact ⟨rfl, N0, rfl⟩
theorem ef_rmRed3 (m : MethodId) (a : Addr) : entryFrame m #[(.ref a)] 1 = mkF m 0 #[.val (.ref a)] [] := by first | (simp [entryFrame, mkF, argsToLocals, Value.category]; done) | rfl
def Q_rmRed3 (Z : State) (a : Addr) (b_NORMAL : Addr) (b_EARLY : Addr) (h0 : Heap) (n0 : Nat) (v_ : Option Value) (h_ : Heap) (L_ : List Loc) : Prop := v_ = some (.int (0 : Int32)) ∧ Fr n0 L_ ∧ h_ = h0
set_option maxRecDepth 65536 in
set_option maxHeartbeats 40000000 in
theorem rmRed3 (l : Launch) (Z : State) (a0 : Array Value) (hw : ∀ d ∈ tables_1, d.before a0 Z = true) (ws : List Jvm.Cond) (a : Addr) (b_NORMAL : Addr) (b_EARLY : Addr) (h0 : Heap) (n0 : Nat) (Z0 : n0 ≤ h0.size) (O0 : Old Z n0 h0) (u1 : Sta Z Z.heap "com/example/vestwright/vestwright/model/SeparationCase" "NORMAL" "Lcom/example/vestwright/vestwright/model/SeparationCase;" (.ref b_NORMAL)) (u2 : Sta Z Z.heap "com/example/vestwright/vestwright/model/SeparationCase" "EARLY" "Lcom/example/vestwright/vestwright/model/SeparationCase;" (.ref b_EARLY)) (u3 : a ≠ b_NORMAL) (u4 : a ≠ b_EARLY) :
    MetFree l own_y2 (head1 (Jvm.Cond.code own_y2 prog_121_method_6_code 1 (some .boolean) :: ws) ({ frames := 0, cells := 0, slots := 0, locals := 0 } : Room)) (fun a_ U_ => a_ = #[(.ref a)] ∧ Z.Warmed39 U_.vm ∧ U_.heap = h0) (fun _ _ _ _ _ => True) (fun _ U_ o_ U2_ => ∃ v_ L_, o_ = .returned v_ ∧ Q_rmRed3 Z a b_NORMAL b_EARLY h0 n0 v_ U2_.heap L_ ∧ FrameEnd U_ o_ U2_ L_ ({ frames := 0, cells := 0, slots := 0, locals := 0 } : Room).cells ({ frames := 0, cells := 0, slots := 0, locals := 0 } : Room).slots) := by
  refine MetFree.of_bodySF (plainFor_of_name pn_0) hisR ?_
  intro p e s m args below meth c s₁ Bd hml0 hP hK
  obtain ⟨rfl, hZ, hh⟩ := hP
  have hx := Bd.exec
  have hby := Bd.bytes
  have hml : c.maxLocals = 1 := hml0
  have hown : s.vm.findClass "com/example/vestwright/vestwright/model/SeparationCase" = some m.cls := findClass_of_methodNamed Bd.named
  have hnm := (name_of_methodNamed Bd.named Bd.method).1
  have X0 : Stand p l e ({ frames := 0, cells := 0, slots := 0, locals := 0 } : Room) s m #[(.ref a)] below meth c s₁ [] 0 0 := Stand.of_body Bd
  have e0 : s₁.heap = h0 := by rw [← hh, Bd.state]; rfl
  have N0 := Fr.nil n0
  refine own_go (A := s₁.setTop (mkF m 0 #[.val (.ref a)] [])) (fun t_ k_ => castTop (ef_rmRed3 m a) k_) ?_
  refine own_go (A := s₁.setTop (mkF m 1 #[.val (.ref a)] [(.ref a)])) (fun t_ k_ => ?_) ?_
  · show Steps p.tables e below (s₁.setTop (mkF m 0 #[.val (.ref a)] [])) t_
    refine XS.aloadN X0.here hx rfl (hb hby d3_0) rfl rfl ?_
    exact k_
  obtain ⟨T1, X1, e1, st1⟩ := getS2 X0 hx hZ hown (host := "") (Or.inl (own_w hw 42 rfl)) Via.refl e0 (u1.ext O0.2) (g := (mkF m 1 #[.val (.ref a)] [(.ref a)])) rfl (hb hby d3_1)
  refine own_go st1 ?_
  refine own_go (A := T1.setTop (mkF m 8 #[.val (.ref a)] [(.ref a)])) (fun t_ k_ => ?_) ?_
  · show Steps p.tables e below (T1.setTop (mkF m 4 #[.val (.ref a)] [(.ref b_NORMAL), (.ref a)])) t_
    refine Jvm.RoadKit.acmp (g := (mkF m 4 #[.val (.ref a)] [(.ref b_NORMAL), (.ref a)])) X1 hx rfl rfl rfl (pc0 := 4) (pc' := 7) (same := false) rfl (hb hby d3_4) rfl (decide_eq_false fun q => u3 (Value.ref.inj q)) (by decide) (by decide) ?_
    show Steps p.tables e below (T1.setTop (mkF m 7 #[.val (.ref a)] [])) t_
    refine XS.aloadN X1.here hx rfl (hb hby d3_7) rfl rfl ?_
    exact k_
  obtain ⟨T2, X2, e2, st2⟩ := getS2 X1 hx hZ hown (host := "") (Or.inl (own_w hw 43 rfl)) Via.refl e1 (u2.ext O0.2) (g := (mkF m 8 #[.val (.ref a)] [(.ref a)])) rfl (hb hby d3_8)
  refine own_go st2 ?_
  refine own_go (A := T2.setTop (mkF m 19 #[.val (.ref a)] [(.int (0 : Int32))])) (fun t_ k_ => ?_) ?_
  · show Steps p.tables e below (T2.setTop (mkF m 11 #[.val (.ref a)] [(.ref b_EARLY), (.ref a)])) t_
    refine Jvm.RoadKit.acmp (g := (mkF m 11 #[.val (.ref a)] [(.ref b_EARLY), (.ref a)])) X2 hx rfl rfl rfl (pc0 := 11) (pc' := 18) (same := false) rfl (hb hby d3_11) rfl (decide_eq_false fun q => u4 (Value.ref.inj q)) (by decide) (by decide) ?_
    show Steps p.tables e below (T2.setTop (mkF m 18 #[.val (.ref a)] [])) t_
    refine XS.iconst X2.here hx rfl (hb hby d3_18) ?_
    exact k_
  obtain ⟨fs3, hr3, hrun3, hended3, hW3, hsame3⟩ := X2.leave (v := some (.int (0 : Int32))) (fun h => by rw [Bd.returns] at h; cases h)
  refine ⟨_, _, ?_, hrun3, hended3, _, _, rfl, ?_, ⟨_, rfl⟩, hW3, hsame3.mono (by decide) (by decide)⟩
  · exact retN X2 hx (t := .boolean) Bd.returns (by simp) (hb hby d3_19) hr3
  · show Q_rmRed3 Z a b_NORMAL b_EARLY h0 n0 _ T2.heap _
    rw [e2]
    exact ⟨rfl, N0, rfl⟩
theorem ef_rmRed4 (m : MethodId) (a : Addr) : entryFrame m #[(.ref a)] 1 = mkF m 0 #[.val (.ref a)] [] := by first | (simp [entryFrame, mkF, argsToLocals, Value.category]; done) | rfl
def Q_rmRed4 (Z : State) (a : Addr) (b_NORMAL : Addr) (b_EARLY : Addr) (h0 : Heap) (n0 : Nat) (v_ : Option Value) (h_ : Heap) (L_ : List Loc) : Prop := v_ = some (.int (0 : Int32)) ∧ Fr n0 L_ ∧ h_ = h0
set_option maxRecDepth 65536 in
set_option maxHeartbeats 40000000 in
theorem rmRed4 (l : Launch) (Z : State) (a0 : Array Value) (hw : ∀ d ∈ tables_1, d.before a0 Z = true) (ws : List Jvm.Cond) (a : Addr) (b_NORMAL : Addr) (b_EARLY : Addr) (h0 : Heap) (n0 : Nat) (Z0 : n0 ≤ h0.size) (O0 : Old Z n0 h0) (u1 : Sta Z Z.heap "com/example/vestwright/vestwright/model/SeparationCase" "NORMAL" "Lcom/example/vestwright/vestwright/model/SeparationCase;" (.ref b_NORMAL)) (u2 : Sta Z Z.heap "com/example/vestwright/vestwright/model/SeparationCase" "EARLY" "Lcom/example/vestwright/vestwright/model/SeparationCase;" (.ref b_EARLY)) (u3 : a ≠ b_NORMAL) (u4 : a ≠ b_EARLY) :
    MetFree l own_y2 (head1 (Jvm.Cond.code own_y2 prog_121_method_6_code 1 (some .boolean) :: ws) ({ frames := 0, cells := 0, slots := 0, locals := 0 } : Room)) (fun a_ U_ => a_ = #[(.ref a)] ∧ Z.Warmed39 U_.vm ∧ U_.heap = h0) (fun _ _ _ _ _ => True) (fun _ U_ o_ U2_ => ∃ v_ L_, o_ = .returned v_ ∧ Q_rmRed4 Z a b_NORMAL b_EARLY h0 n0 v_ U2_.heap L_ ∧ FrameEnd U_ o_ U2_ L_ ({ frames := 0, cells := 0, slots := 0, locals := 0 } : Room).cells ({ frames := 0, cells := 0, slots := 0, locals := 0 } : Room).slots) := by
  refine MetFree.of_bodySF (plainFor_of_name pn_0) hisR ?_
  intro p e s m args below meth c s₁ Bd hml0 hP hK
  obtain ⟨rfl, hZ, hh⟩ := hP
  have hx := Bd.exec
  have hby := Bd.bytes
  have hml : c.maxLocals = 1 := hml0
  have hown : s.vm.findClass "com/example/vestwright/vestwright/model/SeparationCase" = some m.cls := findClass_of_methodNamed Bd.named
  have hnm := (name_of_methodNamed Bd.named Bd.method).1
  have X0 : Stand p l e ({ frames := 0, cells := 0, slots := 0, locals := 0 } : Room) s m #[(.ref a)] below meth c s₁ [] 0 0 := Stand.of_body Bd
  have e0 : s₁.heap = h0 := by rw [← hh, Bd.state]; rfl
  have N0 := Fr.nil n0
  refine own_go (A := s₁.setTop (mkF m 0 #[.val (.ref a)] [])) (fun t_ k_ => castTop (ef_rmRed4 m a) k_) ?_
  refine own_go (A := s₁.setTop (mkF m 1 #[.val (.ref a)] [(.ref a)])) (fun t_ k_ => ?_) ?_
  · show Steps p.tables e below (s₁.setTop (mkF m 0 #[.val (.ref a)] [])) t_
    refine XS.aloadN X0.here hx rfl (hb hby d3_0) rfl rfl ?_
    exact k_
  obtain ⟨T1, X1, e1, st1⟩ := getS2 X0 hx hZ hown (host := "") (Or.inl (own_w hw 42 rfl)) Via.refl e0 (u1.ext O0.2) (g := (mkF m 1 #[.val (.ref a)] [(.ref a)])) rfl (hb hby d3_1)
  refine own_go st1 ?_
  refine own_go (A := T1.setTop (mkF m 8 #[.val (.ref a)] [(.ref a)])) (fun t_ k_ => ?_) ?_
  · show Steps p.tables e below (T1.setTop (mkF m 4 #[.val (.ref a)] [(.ref b_NORMAL), (.ref a)])) t_
    refine Jvm.RoadKit.acmp (g := (mkF m 4 #[.val (.ref a)] [(.ref b_NORMAL), (.ref a)])) X1 hx rfl rfl rfl (pc0 := 4) (pc' := 7) (same := false) rfl (hb hby d3_4) rfl (decide_eq_false fun q => u3 (Value.ref.inj q)) (by decide) (by decide) ?_
    show Steps p.tables e below (T1.setTop (mkF m 7 #[.val (.ref a)] [])) t_
    refine XS.aloadN X1.here hx rfl (hb hby d3_7) rfl rfl ?_
    exact k_
  obtain ⟨T2, X2, e2, st2⟩ := getS2 X1 hx hZ hown (host := "") (Or.inl (own_w hw 43 rfl)) Via.refl e1 (u2.ext O0.2) (g := (mkF m 8 #[.val (.ref a)] [(.ref a)])) rfl (hb hby d3_8)
  refine own_go st2 ?_
  refine own_go (A := T2.setTop (mkF m 19 #[.val (.ref a)] [(.int (0 : Int32))])) (fun t_ k_ => ?_) ?_
  · show Steps p.tables e below (T2.setTop (mkF m 11 #[.val (.ref a)] [(.ref b_EARLY), (.ref a)])) t_
    refine Jvm.RoadKit.acmp (g := (mkF m 11 #[.val (.ref a)] [(.ref b_EARLY), (.ref a)])) X2 hx rfl rfl rfl (pc0 := 11) (pc' := 18) (same := false) rfl (hb hby d3_11) rfl (decide_eq_false fun q => u4 (Value.ref.inj q)) (by decide) (by decide) ?_
    show Steps p.tables e below (T2.setTop (mkF m 18 #[.val (.ref a)] [])) t_
    refine XS.iconst X2.here hx rfl (hb hby d3_18) ?_
    exact k_
  obtain ⟨fs3, hr3, hrun3, hended3, hW3, hsame3⟩ := X2.leave (v := some (.int (0 : Int32))) (fun h => by rw [Bd.returns] at h; cases h)
  refine ⟨_, _, ?_, hrun3, hended3, _, _, rfl, ?_, ⟨_, rfl⟩, hW3, hsame3.mono (by decide) (by decide)⟩
  · exact retN X2 hx (t := .boolean) Bd.returns (by simp) (hb hby d3_19) hr3
  · show Q_rmRed4 Z a b_NORMAL b_EARLY h0 n0 _ T2.heap _
    rw [e2]
    exact ⟨rfl, N0, rfl⟩
theorem ef_rmRed5 (m : MethodId) (a : Addr) : entryFrame m #[(.ref a)] 1 = mkF m 0 #[.val (.ref a)] [] := by first | (simp [entryFrame, mkF, argsToLocals, Value.category]; done) | rfl
def Q_rmRed5 (Z : State) (a : Addr) (b_NORMAL : Addr) (b_EARLY : Addr) (h0 : Heap) (n0 : Nat) (v_ : Option Value) (h_ : Heap) (L_ : List Loc) : Prop := v_ = some (.int (0 : Int32)) ∧ Fr n0 L_ ∧ h_ = h0
set_option maxRecDepth 65536 in
set_option maxHeartbeats 40000000 in
theorem rmRed5 (l : Launch) (Z : State) (a0 : Array Value) (hw : ∀ d ∈ tables_1, d.before a0 Z = true) (ws : List Jvm.Cond) (a : Addr) (b_NORMAL : Addr) (b_EARLY : Addr) (h0 : Heap) (n0 : Nat) (Z0 : n0 ≤ h0.size) (O0 : Old Z n0 h0) (u1 : Sta Z Z.heap "com/example/vestwright/vestwright/model/SeparationCase" "NORMAL" "Lcom/example/vestwright/vestwright/model/SeparationCase;" (.ref b_NORMAL)) (u2 : Sta Z Z.heap "com/example/vestwright/vestwright/model/SeparationCase" "EARLY" "Lcom/example/vestwright/vestwright/model/SeparationCase;" (.ref b_EARLY)) (u3 : a ≠ b_NORMAL) (u4 : a ≠ b_EARLY) :
    MetFree l own_y2 (head1 (Jvm.Cond.code own_y2 prog_121_method_6_code 1 (some .boolean) :: ws) ({ frames := 0, cells := 0, slots := 0, locals := 0 } : Room)) (fun a_ U_ => a_ = #[(.ref a)] ∧ Z.Warmed39 U_.vm ∧ U_.heap = h0) (fun _ _ _ _ _ => True) (fun _ U_ o_ U2_ => ∃ v_ L_, o_ = .returned v_ ∧ Q_rmRed5 Z a b_NORMAL b_EARLY h0 n0 v_ U2_.heap L_ ∧ FrameEnd U_ o_ U2_ L_ ({ frames := 0, cells := 0, slots := 0, locals := 0 } : Room).cells ({ frames := 0, cells := 0, slots := 0, locals := 0 } : Room).slots) := by
  refine MetFree.of_bodySF (plainFor_of_name pn_0) hisR ?_
  intro p e s m args below meth c s₁ Bd hml0 hP hK
  obtain ⟨rfl, hZ, hh⟩ := hP
  have hx := Bd.exec
  have hby := Bd.bytes
  have hml : c.maxLocals = 1 := hml0
  have hown : s.vm.findClass "com/example/vestwright/vestwright/model/SeparationCase" = some m.cls := findClass_of_methodNamed Bd.named
  have hnm := (name_of_methodNamed Bd.named Bd.method).1
  have X0 : Stand p l e ({ frames := 0, cells := 0, slots := 0, locals := 0 } : Room) s m #[(.ref a)] below meth c s₁ [] 0 0 := Stand.of_body Bd
  have e0 : s₁.heap = h0 := by rw [← hh, Bd.state]; rfl
  have N0 := Fr.nil n0
  refine own_go (A := s₁.setTop (mkF m 0 #[.val (.ref a)] [])) (fun t_ k_ => castTop (ef_rmRed5 m a) k_) ?_
  refine own_go (A := s₁.setTop (mkF m 1 #[.val (.ref a)] [(.ref a)])) (fun t_ k_ => ?_) ?_
  · show Steps p.tables e below (s₁.setTop (mkF m 0 #[.val (.ref a)] [])) t_
    refine XS.aloadN X0.here hx rfl (hb hby d3_0) rfl rfl ?_
    exact k_
  obtain ⟨T1, X1, e1, st1⟩ := getS2 X0 hx hZ hown (host := "") (Or.inl (own_w hw 42 rfl)) Via.refl e0 (u1.ext O0.2) (g := (mkF m 1 #[.val (.ref a)] [(.ref a)])) rfl (hb hby d3_1)
  refine own_go st1 ?_
  refine own_go (A := T1.setTop (mkF m 8 #[.val (.ref a)] [(.ref a)])) (fun t_ k_ => ?_) ?_
  · show Steps p.tables e below (T1.setTop (mkF m 4 #[.val (.ref a)] [(.ref b_NORMAL), (.ref a)])) t_
    refine Jvm.RoadKit.acmp (g := (mkF m 4 #[.val (.ref a)] [(.ref b_NORMAL), (.ref a)])) X1 hx rfl rfl rfl (pc0 := 4) (pc' := 7) (same := false) rfl (hb hby d3_4) rfl (decide_eq_false fun q => u3 (Value.ref.inj q)) (by decide) (by decide) ?_
    show Steps p.tables e below (T1.setTop (mkF m 7 #[.val (.ref a)] [])) t_
    refine XS.aloadN X1.here hx rfl (hb hby d3_7) rfl rfl ?_
    exact k_
  obtain ⟨T2, X2, e2, st2⟩ := getS2 X1 hx hZ hown (host := "") (Or.inl (own_w hw 43 rfl)) Via.refl e1 (u2.ext O0.2) (g := (mkF m 8 #[.val (.ref a)] [(.ref a)])) rfl (hb hby d3_8)
  refine own_go st2 ?_
  refine own_go (A := T2.setTop (mkF m 19 #[.val (.ref a)] [(.int (0 : Int32))])) (fun t_ k_ => ?_) ?_
  · show Steps p.tables e below (T2.setTop (mkF m 11 #[.val (.ref a)] [(.ref b_EARLY), (.ref a)])) t_
    refine Jvm.RoadKit.acmp (g := (mkF m 11 #[.val (.ref a)] [(.ref b_EARLY), (.ref a)])) X2 hx rfl rfl rfl (pc0 := 11) (pc' := 18) (same := false) rfl (hb hby d3_11) rfl (decide_eq_false fun q => u4 (Value.ref.inj q)) (by decide) (by decide) ?_
    show Steps p.tables e below (T2.setTop (mkF m 18 #[.val (.ref a)] [])) t_
    refine XS.iconst X2.here hx rfl (hb hby d3_18) ?_
    exact k_
  obtain ⟨fs3, hr3, hrun3, hended3, hW3, hsame3⟩ := X2.leave (v := some (.int (0 : Int32))) (fun h => by rw [Bd.returns] at h; cases h)
  refine ⟨_, _, ?_, hrun3, hended3, _, _, rfl, ?_, ⟨_, rfl⟩, hW3, hsame3.mono (by decide) (by decide)⟩
  · exact retN X2 hx (t := .boolean) Bd.returns (by simp) (hb hby d3_19) hr3
  · show Q_rmRed5 Z a b_NORMAL b_EARLY h0 n0 _ T2.heap _
    rw [e2]
    exact ⟨rfl, N0, rfl⟩
theorem ef_rmRed6 (m : MethodId) (a : Addr) : entryFrame m #[(.ref a)] 1 = mkF m 0 #[.val (.ref a)] [] := by first | (simp [entryFrame, mkF, argsToLocals, Value.category]; done) | rfl
def Q_rmRed6 (Z : State) (a : Addr) (b_NORMAL : Addr) (b_EARLY : Addr) (h0 : Heap) (n0 : Nat) (v_ : Option Value) (h_ : Heap) (L_ : List Loc) : Prop := v_ = some (.int (0 : Int32)) ∧ Fr n0 L_ ∧ h_ = h0
set_option maxRecDepth 65536 in
set_option maxHeartbeats 40000000 in
theorem rmRed6 (l : Launch) (Z : State) (a0 : Array Value) (hw : ∀ d ∈ tables_1, d.before a0 Z = true) (ws : List Jvm.Cond) (a : Addr) (b_NORMAL : Addr) (b_EARLY : Addr) (h0 : Heap) (n0 : Nat) (Z0 : n0 ≤ h0.size) (O0 : Old Z n0 h0) (u1 : Sta Z Z.heap "com/example/vestwright/vestwright/model/SeparationCase" "NORMAL" "Lcom/example/vestwright/vestwright/model/SeparationCase;" (.ref b_NORMAL)) (u2 : Sta Z Z.heap "com/example/vestwright/vestwright/model/SeparationCase" "EARLY" "Lcom/example/vestwright/vestwright/model/SeparationCase;" (.ref b_EARLY)) (u3 : a ≠ b_NORMAL) (u4 : a ≠ b_EARLY) :
    MetFree l own_y2 (head1 (Jvm.Cond.code own_y2 prog_121_method_6_code 1 (some .boolean) :: ws) ({ frames := 0, cells := 0, slots := 0, locals := 0 } : Room)) (fun a_ U_ => a_ = #[(.ref a)] ∧ Z.Warmed39 U_.vm ∧ U_.heap = h0) (fun _ _ _ _ _ => True) (fun _ U_ o_ U2_ => ∃ v_ L_, o_ = .returned v_ ∧ Q_rmRed6 Z a b_NORMAL b_EARLY h0 n0 v_ U2_.heap L_ ∧ FrameEnd U_ o_ U2_ L_ ({ frames := 0, cells := 0, slots := 0, locals := 0 } : Room).cells ({ frames := 0, cells := 0, slots := 0, locals := 0 } : Room).slots) := by
  refine MetFree.of_bodySF (plainFor_of_name pn_0) hisR ?_
  intro p e s m args below meth c s₁ Bd hml0 hP hK
  obtain ⟨rfl, hZ, hh⟩ := hP
  have hx := Bd.exec
  have hby := Bd.bytes
  have hml : c.maxLocals = 1 := hml0
  have hown : s.vm.findClass "com/example/vestwright/vestwright/model/SeparationCase" = some m.cls := findClass_of_methodNamed Bd.named
  have hnm := (name_of_methodNamed Bd.named Bd.method).1
  have X0 : Stand p l e ({ frames := 0, cells := 0, slots := 0, locals := 0 } : Room) s m #[(.ref a)] below meth c s₁ [] 0 0 := Stand.of_body Bd
  have e0 : s₁.heap = h0 := by rw [← hh, Bd.state]; rfl
  have N0 := Fr.nil n0
  refine own_go (A := s₁.setTop (mkF m 0 #[.val (.ref a)] [])) (fun t_ k_ => castTop (ef_rmRed6 m a) k_) ?_
  refine own_go (A := s₁.setTop (mkF m 1 #[.val (.ref a)] [(.ref a)])) (fun t_ k_ => ?_) ?_
  · show Steps p.tables e below (s₁.setTop (mkF m 0 #[.val (.ref a)] [])) t_
    refine XS.aloadN X0.here hx rfl (hb hby d3_0) rfl rfl ?_
    exact k_
  obtain ⟨T1, X1, e1, st1⟩ := getS2 X0 hx hZ hown (host := "") (Or.inl (own_w hw 42 rfl)) Via.refl e0 (u1.ext O0.2) (g := (mkF m 1 #[.val (.ref a)] [(.ref a)])) rfl (hb hby d3_1)
  refine own_go st1 ?_
  refine own_go (A := T1.setTop (mkF m 8 #[.val (.ref a)] [(.ref a)])) (fun t_ k_ => ?_) ?_
  · show Steps p.tables e below (T1.setTop (mkF m 4 #[.val (.ref a)] [(.ref b_NORMAL), (.ref a)])) t_
    refine Jvm.RoadKit.acmp (g := (mkF m 4 #[.val (.ref a)] [(.ref b_NORMAL), (.ref a)])) X1 hx rfl rfl rfl (pc0 := 4) (pc' := 7) (same := false) rfl (hb hby d3_4) rfl (decide_eq_false fun q => u3 (Value.ref.inj q)) (by decide) (by decide) ?_
    show Steps p.tables e below (T1.setTop (mkF m 7 #[.val (.ref a)] [])) t_
    refine XS.aloadN X1.here hx rfl (hb hby d3_7) rfl rfl ?_
    exact k_
  obtain ⟨T2, X2, e2, st2⟩ := getS2 X1 hx hZ hown (host := "") (Or.inl (own_w hw 43 rfl)) Via.refl e1 (u2.ext O0.2) (g := (mkF m 8 #[.val (.ref a)] [(.ref a)])) rfl (hb hby d3_8)
  refine own_go st2 ?_
  refine own_go (A := T2.setTop (mkF m 19 #[.val (.ref a)] [(.int (0 : Int32))])) (fun t_ k_ => ?_) ?_
  · show Steps p.tables e below (T2.setTop (mkF m 11 #[.val (.ref a)] [(.ref b_EARLY), (.ref a)])) t_
    refine Jvm.RoadKit.acmp (g := (mkF m 11 #[.val (.ref a)] [(.ref b_EARLY), (.ref a)])) X2 hx rfl rfl rfl (pc0 := 11) (pc' := 18) (same := false) rfl (hb hby d3_11) rfl (decide_eq_false fun q => u4 (Value.ref.inj q)) (by decide) (by decide) ?_
    show Steps p.tables e below (T2.setTop (mkF m 18 #[.val (.ref a)] [])) t_
    refine XS.iconst X2.here hx rfl (hb hby d3_18) ?_
    exact k_
  obtain ⟨fs3, hr3, hrun3, hended3, hW3, hsame3⟩ := X2.leave (v := some (.int (0 : Int32))) (fun h => by rw [Bd.returns] at h; cases h)
  refine ⟨_, _, ?_, hrun3, hended3, _, _, rfl, ?_, ⟨_, rfl⟩, hW3, hsame3.mono (by decide) (by decide)⟩
  · exact retN X2 hx (t := .boolean) Bd.returns (by simp) (hb hby d3_19) hr3
  · show Q_rmRed6 Z a b_NORMAL b_EARLY h0 n0 _ T2.heap _
    rw [e2]
    exact ⟨rfl, N0, rfl⟩
theorem ef_rmRed7 (m : MethodId) (a : Addr) : entryFrame m #[(.ref a)] 1 = mkF m 0 #[.val (.ref a)] [] := by first | (simp [entryFrame, mkF, argsToLocals, Value.category]; done) | rfl
def Q_rmRed7 (Z : State) (a : Addr) (b_NORMAL : Addr) (b_EARLY : Addr) (h0 : Heap) (n0 : Nat) (v_ : Option Value) (h_ : Heap) (L_ : List Loc) : Prop := v_ = some (.int (0 : Int32)) ∧ Fr n0 L_ ∧ h_ = h0
set_option maxRecDepth 65536 in
set_option maxHeartbeats 40000000 in
theorem rmRed7 (l : Launch) (Z : State) (a0 : Array Value) (hw : ∀ d ∈ tables_1, d.before a0 Z = true) (ws : List Jvm.Cond) (a : Addr) (b_NORMAL : Addr) (b_EARLY : Addr) (h0 : Heap) (n0 : Nat) (Z0 : n0 ≤ h0.size) (O0 : Old Z n0 h0) (u1 : Sta Z Z.heap "com/example/vestwright/vestwright/model/SeparationCase" "NORMAL" "Lcom/example/vestwright/vestwright/model/SeparationCase;" (.ref b_NORMAL)) (u2 : Sta Z Z.heap "com/example/vestwright/vestwright/model/SeparationCase" "EARLY" "Lcom/example/vestwright/vestwright/model/SeparationCase;" (.ref b_EARLY)) (u3 : a ≠ b_NORMAL) (u4 : a ≠ b_EARLY) :
    MetFree l own_y2 (head1 (Jvm.Cond.code own_y2 prog_121_method_6_code 1 (some .boolean) :: ws) ({ frames := 0, cells := 0, slots := 0, locals := 0 } : Room)) (fun a_ U_ => a_ = #[(.ref a)] ∧ Z.Warmed39 U_.vm ∧ U_.heap = h0) (fun _ _ _ _ _ => True) (fun _ U_ o_ U2_ => ∃ v_ L_, o_ = .returned v_ ∧ Q_rmRed7 Z a b_NORMAL b_EARLY h0 n0 v_ U2_.heap L_ ∧ FrameEnd U_ o_ U2_ L_ ({ frames := 0, cells := 0, slots := 0, locals := 0 } : Room).cells ({ frames := 0, cells := 0, slots := 0, locals := 0 } : Room).slots) := by
  refine MetFree.of_bodySF (plainFor_of_name pn_0) hisR ?_
  intro p e s m args below meth c s₁ Bd hml0 hP hK
  obtain ⟨rfl, hZ, hh⟩ := hP
  have hx := Bd.exec
  have hby := Bd.bytes
  have hml : c.maxLocals = 1 := hml0
  have hown : s.vm.findClass "com/example/vestwright/vestwright/model/SeparationCase" = some m.cls := findClass_of_methodNamed Bd.named
  have hnm := (name_of_methodNamed Bd.named Bd.method).1
  have X0 : Stand p l e ({ frames := 0, cells := 0, slots := 0, locals := 0 } : Room) s m #[(.ref a)] below meth c s₁ [] 0 0 := Stand.of_body Bd
  have e0 : s₁.heap = h0 := by rw [← hh, Bd.state]; rfl
  have N0 := Fr.nil n0
  refine own_go (A := s₁.setTop (mkF m 0 #[.val (.ref a)] [])) (fun t_ k_ => castTop (ef_rmRed7 m a) k_) ?_
  refine own_go (A := s₁.setTop (mkF m 1 #[.val (.ref a)] [(.ref a)])) (fun t_ k_ => ?_) ?_
  · show Steps p.tables e below (s₁.setTop (mkF m 0 #[.val (.ref a)] [])) t_
    refine XS.aloadN X0.here hx rfl (hb hby d3_0) rfl rfl ?_
    exact k_
  obtain ⟨T1, X1, e1, st1⟩ := getS2 X0 hx hZ hown (host := "") (Or.inl (own_w hw 42 rfl)) Via.refl e0 (u1.ext O0.2) (g := (mkF m 1 #[.val (.ref a)] [(.ref a)])) rfl (hb hby d3_1)
  refine own_go st1 ?_
  refine own_go (A := T1.setTop (mkF m 8 #[.val (.ref a)] [(.ref a)])) (fun t_ k_ => ?_) ?_
  · show Steps p.tables e below (T1.setTop (mkF m 4 #[.val (.ref a)] [(.ref b_NORMAL), (.ref a)])) t_
    refine Jvm.RoadKit.acmp (g := (mkF m 4 #[.val (.ref a)] [(.ref b_NORMAL), (.ref a)])) X1 hx rfl rfl rfl (pc0 := 4) (pc' := 7) (same := false) rfl (hb hby d3_4) rfl (decide_eq_false fun q => u3 (Value.ref.inj q)) (by decide) (by decide) ?_
    show Steps p.tables e below (T1.setTop (mkF m 7 #[.val (.ref a)] [])) t_
    refine XS.aloadN X1.here hx rfl (hb hby d3_7) rfl rfl ?_
    exact k_
  obtain ⟨T2, X2, e2, st2⟩ := getS2 X1 hx hZ hown (host := "") (Or.inl (own_w hw 43 rfl)) Via.refl e1 (u2.ext O0.2) (g := (mkF m 8 #[.val (.ref a)] [(.ref a)])) rfl (hb hby d3_8)
  refine own_go st2 ?_
  refine own_go (A := T2.setTop (mkF m 19 #[.val (.ref a)] [(.int (0 : Int32))])) (fun t_ k_ => ?_) ?_
  · show Steps p.tables e below (T2.setTop (mkF m 11 #[.val (.ref a)] [(.ref b_EARLY), (.ref a)])) t_
    refine Jvm.RoadKit.acmp (g := (mkF m 11 #[.val (.ref a)] [(.ref b_EARLY), (.ref a)])) X2 hx rfl rfl rfl (pc0 := 11) (pc' := 18) (same := false) rfl (hb hby d3_11) rfl (decide_eq_false fun q => u4 (Value.ref.inj q)) (by decide) (by decide) ?_
    show Steps p.tables e below (T2.setTop (mkF m 18 #[.val (.ref a)] [])) t_
    refine XS.iconst X2.here hx rfl (hb hby d3_18) ?_
    exact k_
  obtain ⟨fs3, hr3, hrun3, hended3, hW3, hsame3⟩ := X2.leave (v := some (.int (0 : Int32))) (fun h => by rw [Bd.returns] at h; cases h)
  refine ⟨_, _, ?_, hrun3, hended3, _, _, rfl, ?_, ⟨_, rfl⟩, hW3, hsame3.mono (by decide) (by decide)⟩
  · exact retN X2 hx (t := .boolean) Bd.returns (by simp) (hb hby d3_19) hr3
  · show Q_rmRed7 Z a b_NORMAL b_EARLY h0 n0 _ T2.heap _
    rw [e2]
    exact ⟨rfl, N0, rfl⟩
theorem ef_rmRed8 (m : MethodId) (a : Addr) : entryFrame m #[(.ref a)] 1 = mkF m 0 #[.val (.ref a)] [] := by first | (simp [entryFrame, mkF, argsToLocals, Value.category]; done) | rfl
def Q_rmRed8 (Z : State) (a : Addr) (b_NORMAL : Addr) (b_EARLY : Addr) (h0 : Heap) (n0 : Nat) (v_ : Option Value) (h_ : Heap) (L_ : List Loc) : Prop := v_ = some (.int (0 : Int32)) ∧ Fr n0 L_ ∧ h_ = h0
set_option maxRecDepth 65536 in
set_option maxHeartbeats 40000000 in
theorem rmRed8 (l : Launch) (Z : State) (a0 : Array Value) (hw : ∀ d ∈ tables_1, d.before a0 Z = true) (ws : List Jvm.Cond) (a : Addr) (b_NORMAL : Addr) (b_EARLY : Addr) (h0 : Heap) (n0 : Nat) (Z0 : n0 ≤ h0.size) (O0 : Old Z n0 h0) (u1 : Sta Z Z.heap "com/example/vestwright/vestwright/model/SeparationCase" "NORMAL" "Lcom/example/vestwright/vestwright/model/SeparationCase;" (.ref b_NORMAL)) (u2 : Sta Z Z.heap "com/example/vestwright/vestwright/model/SeparationCase" "EARLY" "Lcom/example/vestwright/vestwright/model/SeparationCase;" (.ref b_EARLY)) (u3 : a ≠ b_NORMAL) (u4 : a ≠ b_EARLY) :
    MetFree l own_y2 (head1 (Jvm.Cond.code own_y2 prog_121_method_6_code 1 (some .boolean) :: ws) ({ frames := 0, cells := 0, slots := 0, locals := 0 } : Room)) (fun a_ U_ => a_ = #[(.ref a)] ∧ Z.Warmed39 U_.vm ∧ U_.heap = h0) (fun _ _ _ _ _ => True) (fun _ U_ o_ U2_ => ∃ v_ L_, o_ = .returned v_ ∧ Q_rmRed8 Z a b_NORMAL b_EARLY h0 n0 v_ U2_.heap L_ ∧ FrameEnd U_ o_ U2_ L_ ({ frames := 0, cells := 0, slots := 0, locals := 0 } : Room).cells ({ frames := 0, cells := 0, slots := 0, locals := 0 } : Room).slots) := by
  refine MetFree.of_bodySF (plainFor_of_name pn_0) hisR ?_
  intro p e s m args below meth c s₁ Bd hml0 hP hK
  obtain ⟨rfl, hZ, hh⟩ := hP
  have hx := Bd.exec
  have hby := Bd.bytes
  have hml : c.maxLocals = 1 := hml0
  have hown : s.vm.findClass "com/example/vestwright/vestwright/model/SeparationCase" = some m.cls := findClass_of_methodNamed Bd.named
  have hnm := (name_of_methodNamed Bd.named Bd.method).1
  have X0 : Stand p l e ({ frames := 0, cells := 0, slots := 0, locals := 0 } : Room) s m #[(.ref a)] below meth c s₁ [] 0 0 := Stand.of_body Bd
  have e0 : s₁.heap = h0 := by rw [← hh, Bd.state]; rfl
  have N0 := Fr.nil n0
  refine own_go (A := s₁.setTop (mkF m 0 #[.val (.ref a)] [])) (fun t_ k_ => castTop (ef_rmRed8 m a) k_) ?_
  refine own_go (A := s₁.setTop (mkF m 1 #[.val (.ref a)] [(.ref a)])) (fun t_ k_ => ?_) ?_
  · show Steps p.tables e below (s₁.setTop (mkF m 0 #[.val (.ref a)] [])) t_
    refine XS.aloadN X0.here hx rfl (hb hby d3_0) rfl rfl ?_
    exact k_
  obtain ⟨T1, X1, e1, st1⟩ := getS2 X0 hx hZ hown (host := "") (Or.inl (own_w hw 42 rfl)) Via.refl e0 (u1.ext O0.2) (g := (mkF m 1 #[.val (.ref a)] [(.ref a)])) rfl (hb hby d3_1)
  refine own_go st1 ?_
  refine own_go (A := T1.setTop (mkF m 8 #[.val (.ref a)] [(.ref a)])) (fun t_ k_ => ?_) ?_
  · show Steps p.tables e below (T1.setTop (mkF m 4 #[.val (.ref a)] [(.ref b_NORMAL), (.ref a)])) t_
    refine Jvm.RoadKit.acmp (g := (mkF m 4 #[.val (.ref a)] [(.ref b_NORMAL), (.ref a)])) X1 hx rfl rfl rfl (pc0 := 4) (pc' := 7) (same := false) rfl (hb hby d3_4) rfl (decide_eq_false fun q => u3 (Value.ref.inj q)) (by decide) (by decide) ?_
    show Steps p.tables e below (T1.setTop (mkF m 7 #[.val (.ref a)] [])) t_
    refine XS.aloadN X1.here hx rfl (hb hby d3_7) rfl rfl ?_
    exact k_
  obtain ⟨T2, X2, e2, st2⟩ := getS2 X1 hx hZ hown (host := "") (Or.inl (own_w hw 43 rfl)) Via.refl e1 (u2.ext O0.2) (g := (mkF m 8 #[.val (.ref a)] [(.ref a)])) rfl (hb hby d3_8)
  refine own_go st2 ?_
  refine own_go (A := T2.setTop (mkF m 19 #[.val (.ref a)] [(.int (0 : Int32))])) (fun t_ k_ => ?_) ?_
  · show Steps p.tables e below (T2.setTop (mkF m 11 #[.val (.ref a)] [(.ref b_EARLY), (.ref a)])) t_
    refine Jvm.RoadKit.acmp (g := (mkF m 11 #[.val (.ref a)] [(.ref b_EARLY), (.ref a)])) X2 hx rfl rfl rfl (pc0 := 11) (pc' := 18) (same := false) rfl (hb hby d3_11) rfl (decide_eq_false fun q => u4 (Value.ref.inj q)) (by decide) (by decide) ?_
    show Steps p.tables e below (T2.setTop (mkF m 18 #[.val (.ref a)] [])) t_
    refine XS.iconst X2.here hx rfl (hb hby d3_18) ?_
    exact k_
  obtain ⟨fs3, hr3, hrun3, hended3, hW3, hsame3⟩ := X2.leave (v := some (.int (0 : Int32))) (fun h => by rw [Bd.returns] at h; cases h)
  refine ⟨_, _, ?_, hrun3, hended3, _, _, rfl, ?_, ⟨_, rfl⟩, hW3, hsame3.mono (by decide) (by decide)⟩
  · exact retN X2 hx (t := .boolean) Bd.returns (by simp) (hb hby d3_19) hr3
  · show Q_rmRed8 Z a b_NORMAL b_EARLY h0 n0 _ T2.heap _
    rw [e2]
    exact ⟨rfl, N0, rfl⟩
theorem own_mod9 (p : Int32) : ((p &&& (2147483647 : Int32)) % (9 : Int32)) = (0 : Int32) ∨ ((p &&& (2147483647 : Int32)) % (9 : Int32)) = (1 : Int32) ∨ ((p &&& (2147483647 : Int32)) % (9 : Int32)) = (2 : Int32) ∨ ((p &&& (2147483647 : Int32)) % (9 : Int32)) = (3 : Int32) ∨ ((p &&& (2147483647 : Int32)) % (9 : Int32)) = (4 : Int32) ∨ ((p &&& (2147483647 : Int32)) % (9 : Int32)) = (5 : Int32) ∨ ((p &&& (2147483647 : Int32)) % (9 : Int32)) = (6 : Int32) ∨ ((p &&& (2147483647 : Int32)) % (9 : Int32)) = (7 : Int32) ∨ ((p &&& (2147483647 : Int32)) % (9 : Int32)) = (8 : Int32) := by
  have h1 := c_and p 2147483647 (by decide)
  have h2 := (c_irem (p &&& 2147483647) 9 9 (by decide)).1 h1.1
  have h3 : ((p &&& (2147483647 : Int32)) % (9 : Int32)).toInt = 0 ∨ ((p &&& (2147483647 : Int32)) % (9 : Int32)).toInt = 1 ∨ ((p &&& (2147483647 : Int32)) % (9 : Int32)).toInt = 2 ∨ ((p &&& (2147483647 : Int32)) % (9 : Int32)).toInt = 3 ∨ ((p &&& (2147483647 : Int32)) % (9 : Int32)).toInt = 4 ∨ ((p &&& (2147483647 : Int32)) % (9 : Int32)).toInt = 5 ∨ ((p &&& (2147483647 : Int32)) % (9 : Int32)).toInt = 6 ∨ ((p &&& (2147483647 : Int32)) % (9 : Int32)).toInt = 7 ∨ ((p &&& (2147483647 : Int32)) % (9 : Int32)).toInt = 8 := by omega
  rcases h3 with h | h | h | h | h | h | h | h | h
  · exact Or.inl (Int32.toInt_inj.mp (h.trans (by decide)))
  · exact Or.inr (Or.inl (Int32.toInt_inj.mp (h.trans (by decide))))
  · exact Or.inr (Or.inr (Or.inl (Int32.toInt_inj.mp (h.trans (by decide)))))
  · exact Or.inr (Or.inr (Or.inr (Or.inl (Int32.toInt_inj.mp (h.trans (by decide))))))
  · exact Or.inr (Or.inr (Or.inr (Or.inr (Or.inl (Int32.toInt_inj.mp (h.trans (by decide)))))))
  · exact Or.inr (Or.inr (Or.inr (Or.inr (Or.inr (Or.inl (Int32.toInt_inj.mp (h.trans (by decide))))))))
  · exact Or.inr (Or.inr (Or.inr (Or.inr (Or.inr (Or.inr (Or.inl (Int32.toInt_inj.mp (h.trans (by decide)))))))))
  · exact Or.inr (Or.inr (Or.inr (Or.inr (Or.inr (Or.inr (Or.inr (Or.inl (Int32.toInt_inj.mp (h.trans (by decide))))))))))
  · exact Or.inr (Or.inr (Or.inr (Or.inr (Or.inr (Or.inr (Or.inr (Or.inr (Int32.toInt_inj.mp (h.trans (by decide))))))))))
theorem pd_0 : parseMethodDescriptor "()Z" = some ⟨[], some .boolean⟩ := by decide +kernel
theorem ef_rm0 (m : MethodId) (p1 : Int32) : entryFrame m #[(.int p1)] maxLocals = mkF m 0 #[.val (.int p1), .unset, .unset, .unset, .unset, .unset] [] := by first | (simp [entryFrame, mkF, argsToLocals, Value.category, maxLocals]; done) | rfl
def Q_rm0 (Z : State) (p1 : Int32) (ad0 : Addr) (ad1 : Addr) (ad2 : Addr) (ad3 : Addr) (ad4 : Addr) (ad5 : Addr) (ad6 : Addr) (ad7 : Addr) (ad8 : Addr) (h0 : Heap) (n0 : Nat) (v_ : Option Value) (h_ : Heap) (L_ : List Loc) : Prop := v_ = some (.int (1 : Int32)) ∧ Fr n0 L_ ∧ Keep h0 h_ []
theorem pn_1 : plainName "com/example/vestwright/vestwright/model/SeparationCaseCreditedToBenefitAgePinLaw" = true := by first | (simp [plainName, overriddenIn]; done) | decide +kernel
set_option maxRecDepth 65536 in
set_option maxHeartbeats 40000000 in
theorem rm0 (l : Launch) (Z : State) (a0 : Array Value) (hw : ∀ d ∈ tables_1, d.before a0 Z = true) (ws : List Jvm.Cond) (p1 : Int32) (ad0 : Addr) (ad1 : Addr) (ad2 : Addr) (ad3 : Addr) (ad4 : Addr) (ad5 : Addr) (ad6 : Addr) (ad7 : Addr) (ad8 : Addr) (h0 : Heap) (n0 : Nat) (Z0 : n0 ≤ h0.size) (O0 : Old Z n0 h0) (u1 : Sta Z Z.heap "com/example/vestwright/vestwright/model/SeparationCase" "NORMAL" "Lcom/example/vestwright/vestwright/model/SeparationCase;" (.ref ad0)) (u2 : Exa Z Z.heap ad0 "com/example/vestwright/vestwright/model/SeparationCase") (u3 : Fld Z Z.heap ad0 "java/lang/Enum" "ordinal" "I" (.int (0 : Int32))) (u4 : Sta Z Z.heap "com/example/vestwright/vestwright/model/SeparationCase" "EARLY" "Lcom/example/vestwright/vestwright/model/SeparationCase;" (.ref ad1)) (u5 : Exa Z Z.heap ad1 "com/example/vestwright/vestwright/model/SeparationCase") (u6 : Fld Z Z.heap ad1 "java/lang/Enum" "ordinal" "I" (.int (1 : Int32))) (u7 : Sta Z Z.heap "com/example/vestwright/vestwright/model/SeparationCase" "DISABILITY" "Lcom/example/vestwright/vestwright/model/SeparationCase;" (.ref ad2)) (u8 : Exa Z Z.heap ad2 "com/example/vestwright/vestwright/model/SeparationCase") (u9 : Fld Z Z.heap ad2 "java/lang/Enum" "ordinal" "I" (.int (2 : Int32))) (u10 : Sta Z Z.heap "com/example/vestwright/vestwright/model/SeparationCase" "CHANGE_IN_CONTROL" "Lcom/example/vestwright/vestwright/model/SeparationCase;" (.ref ad3)) (u11 : Exa Z Z.heap ad3 "com/example/vestwright/vestwright/model/SeparationCase") (u12 : Fld Z Z.heap ad3 "java/lang/Enum" "ordinal" "I" (.int (3 : Int32))) (u13 : Sta Z Z.heap "com/example/vestwright/vestwright/model/SeparationCase" "DEATH" "Lcom/example/vestwright/vestwright/model/SeparationCase;" (.ref ad4)) (u14 : Exa Z Z.heap ad4 "com/example/vestwright/vestwright/model/SeparationCase") (u15 : Fld Z Z.heap ad4 "java/lang/Enum" "ordinal" "I" (.int (4 : Int32))) (u16 : Sta Z Z.heap "com/example/vestwright/vestwright/model/SeparationCase" "FORFEITED" "Lcom/example/vestwright/vestwright/model/SeparationCase;" (.ref ad5)) (u17 : Exa Z Z.heap ad5 "com/example/vestwright/vestwright/model/SeparationCase") (u18 : Fld Z Z.heap ad5 "java/lang/Enum" "ordinal" "I" (.int (5 : Int32))) (u19 : Sta Z Z.heap "com/example/vestwright/vestwright/model/SeparationCase" "NOT_VESTED" "Lcom/example/vestwright/vestwright/model/SeparationCase;" (.ref ad6)) (u20 : Exa Z Z.heap ad6 "com/example/vestwright/vestwright/model/SeparationCase") (u21 : Fld Z Z.heap ad6 "java/lang/Enum" "ordinal" "I" (.int (6 : Int32))) (u22 : Sta Z Z.heap "com/example/vestwright/vestwright/model/SeparationCase" "RETIREMENT" "Lcom/example/vestwright/vestwright/model/SeparationCase;" (.ref ad7)) (u23 : Exa Z Z.heap ad7 "com/example/vestwright/vestwright/model/SeparationCase") (u24 : Fld Z Z.heap ad7 "java/lang/Enum" "ordinal" "I" (.int (7 : Int32))) (u25 : Sta Z Z.heap "com/example/vestwright/vestwright/model/SeparationCase" "DEFERRED_VESTED" "Lcom/example/vestwright/vestwright/model/SeparationCase;" (.ref ad8)) (u26 : Exa Z Z.heap ad8 "com/example/vestwright/vestwright/model/SeparationCase") (u27 : Fld Z Z.heap ad8 "java/lang/Enum" "ordinal" "I" (.int (8 : Int32))) :
    MetFree l x (head1 (Jvm.Cond.code x code maxLocals ret :: ws) room_1) (fun a_ U_ => a_ = #[(.int p1)] ∧ Z.Warmed39 U_.vm ∧ U_.heap = h0) (fun _ _ _ _ _ => True) (fun _ U_ o_ U2_ => ∃ v_ L_, o_ = .returned v_ ∧ Q_rm0 Z p1 ad0 ad1 ad2 ad3 ad4 ad5 ad6 ad7 ad8 h0 n0 v_ U2_.heap L_ ∧ FrameEnd U_ o_ U2_ L_ room_1.cells room_1.slots) := by
  refine MetFree.of_bodySF (plainFor_of_name pn_1) hisR ?_
  intro p e s m args below meth c s₁ Bd hml0 hP hK
  obtain ⟨rfl, hZ, hh⟩ := hP
  have hx := Bd.exec
  have hby := Bd.bytes
  have hml : c.maxLocals = 6 := hml0
  have hown : s.vm.findClass "com/example/vestwright/vestwright/model/SeparationCaseCreditedToBenefitAgePinLaw" = some m.cls := findClass_of_methodNamed Bd.named
  have hnm := (name_of_methodNamed Bd.named Bd.method).1
  have X0 : Stand p l e room_1 s m #[(.int p1)] below meth c s₁ [] 0 0 := Stand.of_body Bd
  have e0 : s₁.heap = h0 := by rw [← hh, Bd.state]; rfl
  have N0 := Fr.nil n0
  refine own_go (A := s₁.setTop (mkF m 0 #[.val (.int p1), .unset, .unset, .unset, .unset, .unset] [])) (fun t_ k_ => castTop (ef_rm0 m p1) k_) ?_
  refine own_go (A := s₁.setTop (mkF m 2 #[.val (.int p1), .unset, .unset, .unset, .unset, .unset] [(.int (9 : Int32))])) (fun t_ k_ => ?_) ?_
  · show Steps p.tables e below (s₁.setTop (mkF m 0 #[.val (.int p1), .unset, .unset, .unset, .unset, .unset] [])) t_
    refine XS.bipush X0.here hx rfl (hb hby at_0) ?_
    exact k_
  obtain ⟨T1, h1, k1, X1, e1, E1, A1, V1, st1⟩ := newR X0 hx hZ hown (own_w hw 0 rfl) (own_w hw 1 rfl) e0 (g := (mkF m 2 #[.val (.int p1), .unset, .unset, .unset, .unset, .unset] [(.int (9 : Int32))])) rfl (hb hby at_2) rfl (by decide) (cap := 9) (by decide) (by decide) (by decide) (by decide)
  obtain ⟨b1, g1⟩ : ∃ z, z = h0.size := ⟨_, rfl⟩
  rw [← g1] at A1 st1
  refine own_go st1 ?_
  have K1 : Keep h0 h1 [] := (Keep.refl h0 []).ext E1
  have O1 := O0.ext E1
  have B1 : Arv Z h1 b1 k1 (.object "com/example/vestwright/vestwright/model/SeparationCase") (9 : Int32) [.null, .null, .null, .null, .null, .null, .null, .null, .null] .null := (Arv.new A1 (by decide)).pad (pad_rep [] .null 9)
  refine own_go (A := T1.setTop (mkF m 7 #[.val (.int p1), .unset, .unset, .unset, .unset, .unset] [(.int (0 : Int32)), (.ref b1), (.ref b1)])) (fun t_ k_ => ?_) ?_
  · show Steps p.tables e below (T1.setTop (mkF m 5 #[.val (.int p1), .unset, .unset, .unset, .unset, .unset] [(.ref b1)])) t_
    refine XS.dup X1.here hx rfl (hb hby at_5) rfl rfl ?_
    show Steps p.tables e below (T1.setTop (mkF m 6 #[.val (.int p1), .unset, .unset, .unset, .unset, .unset] [(.ref b1), (.ref b1)])) t_
    refine XS.iconst X1.here hx rfl (hb hby at_6) ?_
    exact k_
  obtain ⟨T2, X2, e2, st2⟩ := getS2 X1 hx hZ hown (host := "") (Or.inl (own_w hw 2 rfl)) Via.refl e1 (u1.ext O1.2) (g := (mkF m 7 #[.val (.int p1), .unset, .unset, .unset, .unset, .unset] [(.int (0 : Int32)), (.ref b1), (.ref b1)])) rfl (hb hby at_7)
  refine own_go st2 ?_
  obtain ⟨cl3, Ar3, q3, S3, M3, H3, G3⟩ := B1
  have hin3 : ¬ ((0 : Int32) < 0 ∨ cl3.slots.size ≤ ((0 : Int32)).toNatClampNeg) := inb_of S3 ⟨by decide, by decide⟩
  obtain ⟨T4, h4, X4, e4, W4, st4⟩ := stR X2 hx hZ e2 Ar3 (j := (0 : Int32)) hin3 rfl (Sto.ofV Ar3 q3 V1 (Ins.self (u2.ext O1.2))) (g := (mkF m 10 #[.val (.int p1), .unset, .unset, .unset, .unset, .unset] [(.ref ad0), (.int (0 : Int32)), (.ref b1), (.ref b1)])) rfl rfl (hb hby at_10)
  have B4 : Arv Z h4 b1 k1 (.object "com/example/vestwright/vestwright/model/SeparationCase") (9 : Int32) [(.ref ad0), .null, .null, .null, .null, .null, .null, .null, .null] .null := Arv.set Ar3 q3 S3 M3 H3 G3 rfl W4 0 rfl (Nat.le_of_ble_eq_true rfl)
  refine own_go st4 ?_
  have K4 : Keep h0 h4 [] := K1.wr W4 (Or.inr (Nat.le_of_eq g1.symm))
  have O4 := O1.wr W4 (Nat.le_trans Z0 (Nat.le_of_eq g1.symm))
  have N4 := Fr.snoc X4 N0 (Nat.le_trans Z0 (Nat.le_of_eq g1.symm))
  refine own_go (A := T4.setTop (mkF m 13 #[.val (.int p1), .unset, .unset, .unset, .unset, .unset] [(.int (1 : Int32)), (.ref b1), (.ref b1)])) (fun t_ k_ => ?_) ?_
  · show Steps p.tables e below (T4.setTop (mkF m 11 #[.val (.int p1), .unset, .unset, .unset, .unset, .unset] [(.ref b1)])) t_
    refine XS.dup X4.here hx rfl (hb hby at_11) rfl rfl ?_
    show Steps p.tables e below (T4.setTop (mkF m 12 #[.val (.int p1), .unset, .unset, .unset, .unset, .unset] [(.ref b1), (.ref b1)])) t_
    refine XS.iconst X4.here hx rfl (hb hby at_12) ?_
    exact k_
  obtain ⟨T5, X5, e5, st5⟩ := getS2 X4 hx hZ hown (host := "") (Or.inl (own_w hw 6 rfl)) Via.refl e4 (u4.ext O4.2) (g := (mkF m 13 #[.val (.int p1), .unset, .unset, .unset, .unset, .unset] [(.int (1 : Int32)), (.ref b1), (.ref b1)])) rfl (hb hby at_13)
  refine own_go st5 ?_
  obtain ⟨cl6, Ar6, q6, S6, M6, H6, G6⟩ := B4
  have hin6 : ¬ ((1 : Int32) < 0 ∨ cl6.slots.size ≤ ((1 : Int32)).toNatClampNeg) := inb_of S6 ⟨by decide, by decide⟩
  obtain ⟨T7, h7, X7, e7, W7, st7⟩ := stR X5 hx hZ e5 Ar6 (j := (1 : Int32)) hin6 rfl (Sto.ofV Ar6 q6 V1 (Ins.self (u5.ext O4.2))) (g := (mkF m 16 #[.val (.int p1), .unset, .unset, .unset, .unset, .unset] [(.ref ad1), (.int (1 : Int32)), (.ref b1), (.ref b1)])) rfl rfl (hb hby at_16)
  have B7 : Arv Z h7 b1 k1 (.object "com/example/vestwright/vestwright/model/SeparationCase") (9 : Int32) [(.ref ad0), (.ref ad1), .null, .null, .null, .null, .null, .null, .null] .null := Arv.set Ar6 q6 S6 M6 H6 G6 rfl W7 1 rfl (Nat.le_of_ble_eq_true rfl)
  refine own_go st7 ?_
  have K7 : Keep h0 h7 [] := K4.wr W7 (Or.inr (Nat.le_of_eq g1.symm))
  have O7 := O4.wr W7 (Nat.le_trans Z0 (Nat.le_of_eq g1.symm))
  have N7 := Fr.snoc X7 N4 (Nat.le_trans Z0 (Nat.le_of_eq g1.symm))
  refine own_go (A := T7.setTop (mkF m 19 #[.val (.int p1), .unset, .unset, .unset, .unset, .unset] [(.int (2 : Int32)), (.ref b1), (.ref b1)])) (fun t_ k_ => ?_) ?_
  · show Steps p.tables e below (T7.setTop (mkF m 17 #[.val (.int p1), .unset, .unset, .unset, .unset, .unset] [(.ref b1)])) t_
    refine XS.dup X7.here hx rfl (hb hby at_17) rfl rfl ?_
    show Steps p.tables e below (T7.setTop (mkF m 18 #[.val (.int p1), .unset, .unset, .unset, .unset, .unset] [(.ref b1), (.ref b1)])) t_
    refine XS.iconst X7.here hx rfl (hb hby at_18) ?_
    exact k_
  obtain ⟨T8, X8, e8, st8⟩ := getS2 X7 hx hZ hown (host := "") (Or.inl (own_w hw 8 rfl)) Via.refl e7 (u7.ext O7.2) (g := (mkF m 19 #[.val (.int p1), .unset, .unset, .unset, .unset, .unset] [(.int (2 : Int32)), (.ref b1), (.ref b1)])) rfl (hb hby at_19)
  refine own_go st8 ?_
  obtain ⟨cl9, Ar9, q9, S9, M9, H9, G9⟩ := B7
  have hin9 : ¬ ((2 : Int32) < 0 ∨ cl9.slots.size ≤ ((2 : Int32)).toNatClampNeg) := inb_of S9 ⟨by decide, by decide⟩
  obtain ⟨T10, h10, X10, e10, W10, st10⟩ := stR X8 hx hZ e8 Ar9 (j := (2 : Int32)) hin9 rfl (Sto.ofV Ar9 q9 V1 (Ins.self (u8.ext O7.2))) (g := (mkF m 22 #[.val (.int p1), .unset, .unset, .unset, .unset, .unset] [(.ref ad2), (.int (2 : Int32)), (.ref b1), (.ref b1)])) rfl rfl (hb hby at_22)
  have B10 : Arv Z h10 b1 k1 (.object "com/example/vestwright/vestwright/model/SeparationCase") (9 : Int32) [(.ref ad0), (.ref ad1), (.ref ad2), .null, .null, .null, .null, .null, .null] .null := Arv.set Ar9 q9 S9 M9 H9 G9 rfl W10 2 rfl (Nat.le_of_ble_eq_true rfl)
  refine own_go st10 ?_
  have K10 : Keep h0 h10 [] := K7.wr W10 (Or.inr (Nat.le_of_eq g1.symm))
  have O10 := O7.wr W10 (Nat.le_trans Z0 (Nat.le_of_eq g1.symm))
  have N10 := Fr.snoc X10 N7 (Nat.le_trans Z0 (Nat.le_of_eq g1.symm))
  refine own_go (A := T10.setTop (mkF m 25 #[.val (.int p1), .unset, .unset, .unset, .unset, .unset] [(.int (3 : Int32)), (.ref b1), (.ref b1)])) (fun t_ k_ => ?_) ?_
  · show Steps p.tables e below (T10.setTop (mkF m 23 #[.val (.int p1), .unset, .unset, .unset, .unset, .unset] [(.ref b1)])) t_
    refine XS.dup X10.here hx rfl (hb hby at_23) rfl rfl ?_
    show Steps p.tables e below (T10.setTop (mkF m 24 #[.val (.int p1), .unset, .unset, .unset, .unset, .unset] [(.ref b1), (.ref b1)])) t_
    refine XS.iconst X10.here hx rfl (hb hby at_24) ?_
    exact k_
  obtain ⟨T11, X11, e11, st11⟩ := getS2 X10 hx hZ hown (host := "") (Or.inl (own_w hw 10 rfl)) Via.refl e10 (u10.ext O10.2) (g := (mkF m 25 #[.val (.int p1), .unset, .unset, .unset, .unset, .unset] [(.int (3 : Int32)), (.ref b1), (.ref b1)])) rfl (hb hby at_25)
  refine own_go st11 ?_
  obtain ⟨cl12, Ar12, q12, S12, M12, H12, G12⟩ := B10
  have hin12 : ¬ ((3 : Int32) < 0 ∨ cl12.slots.size ≤ ((3 : Int32)).toNatClampNeg) := inb_of S12 ⟨by decide, by decide⟩
  obtain ⟨T13, h13, X13, e13, W13, st13⟩ := stR X11 hx hZ e11 Ar12 (j := (3 : Int32)) hin12 rfl (Sto.ofV Ar12 q12 V1 (Ins.self (u11.ext O10.2))) (g := (mkF m 28 #[.val (.int p1), .unset, .unset, .unset, .unset, .unset] [(.ref ad3), (.int (3 : Int32)), (.ref b1), (.ref b1)])) rfl rfl (hb hby at_28)
  have B13 : Arv Z h13 b1 k1 (.object "com/example/vestwright/vestwright/model/SeparationCase") (9 : Int32) [(.ref ad0), (.ref ad1), (.ref ad2), (.ref ad3), .null, .null, .null, .null, .null] .null := Arv.set Ar12 q12 S12 M12 H12 G12 rfl W13 3 rfl (Nat.le_of_ble_eq_true rfl)
  refine own_go st13 ?_
  have K13 : Keep h0 h13 [] := K10.wr W13 (Or.inr (Nat.le_of_eq g1.symm))
  have O13 := O10.wr W13 (Nat.le_trans Z0 (Nat.le_of_eq g1.symm))
  have N13 := Fr.snoc X13 N10 (Nat.le_trans Z0 (Nat.le_of_eq g1.symm))
  refine own_go (A := T13.setTop (mkF m 31 #[.val (.int p1), .unset, .unset, .unset, .unset, .unset] [(.int (4 : Int32)), (.ref b1), (.ref b1)])) (fun t_ k_ => ?_) ?_
  · show Steps p.tables e below (T13.setTop (mkF m 29 #[.val (.int p1), .unset, .unset, .unset, .unset, .unset] [(.ref b1)])) t_
    refine XS.dup X13.here hx rfl (hb hby at_29) rfl rfl ?_
    show Steps p.tables e below (T13.setTop (mkF m 30 #[.val (.int p1), .unset, .unset, .unset, .unset, .unset] [(.ref b1), (.ref b1)])) t_
    refine XS.iconst X13.here hx rfl (hb hby at_30) ?_
    exact k_
  obtain ⟨T14, X14, e14, st14⟩ := getS2 X13 hx hZ hown (host := "") (Or.inl (own_w hw 12 rfl)) Via.refl e13 (u13.ext O13.2) (g := (mkF m 31 #[.val (.int p1), .unset, .unset, .unset, .unset, .unset] [(.int (4 : Int32)), (.ref b1), (.ref b1)])) rfl (hb hby at_31)
  refine own_go st14 ?_
  obtain ⟨cl15, Ar15, q15, S15, M15, H15, G15⟩ := B13
  have hin15 : ¬ ((4 : Int32) < 0 ∨ cl15.slots.size ≤ ((4 : Int32)).toNatClampNeg) := inb_of S15 ⟨by decide, by decide⟩
  obtain ⟨T16, h16, X16, e16, W16, st16⟩ := stR X14 hx hZ e14 Ar15 (j := (4 : Int32)) hin15 rfl (Sto.ofV Ar15 q15 V1 (Ins.self (u14.ext O13.2))) (g := (mkF m 34 #[.val (.int p1), .unset, .unset, .unset, .unset, .unset] [(.ref ad4), (.int (4 : Int32)), (.ref b1), (.ref b1)])) rfl rfl (hb hby at_34)
  have B16 : Arv Z h16 b1 k1 (.object "com/example/vestwright/vestwright/model/SeparationCase") (9 : Int32) [(.ref ad0), (.ref ad1), (.ref ad2), (.ref ad3), (.ref ad4), .null, .null, .null, .null] .null := Arv.set Ar15 q15 S15 M15 H15 G15 rfl W16 4 rfl (Nat.le_of_ble_eq_true rfl)
  refine own_go st16 ?_
  have K16 : Keep h0 h16 [] := K13.wr W16 (Or.inr (Nat.le_of_eq g1.symm))
  have O16 := O13.wr W16 (Nat.le_trans Z0 (Nat.le_of_eq g1.symm))
  have N16 := Fr.snoc X16 N13 (Nat.le_trans Z0 (Nat.le_of_eq g1.symm))
  refine own_go (A := T16.setTop (mkF m 37 #[.val (.int p1), .unset, .unset, .unset, .unset, .unset] [(.int (5 : Int32)), (.ref b1), (.ref b1)])) (fun t_ k_ => ?_) ?_
  · show Steps p.tables e below (T16.setTop (mkF m 35 #[.val (.int p1), .unset, .unset, .unset, .unset, .unset] [(.ref b1)])) t_
    refine XS.dup X16.here hx rfl (hb hby at_35) rfl rfl ?_
    show Steps p.tables e below (T16.setTop (mkF m 36 #[.val (.int p1), .unset, .unset, .unset, .unset, .unset] [(.ref b1), (.ref b1)])) t_
    refine XS.iconst X16.here hx rfl (hb hby at_36) ?_
    exact k_
  obtain ⟨T17, X17, e17, st17⟩ := getS2 X16 hx hZ hown (host := "") (Or.inl (own_w hw 14 rfl)) Via.refl e16 (u16.ext O16.2) (g := (mkF m 37 #[.val (.int p1), .unset, .unset, .unset, .unset, .unset] [(.int (5 : Int32)), (.ref b1), (.ref b1)])) rfl (hb hby at_37)
  refine own_go st17 ?_
  obtain ⟨cl18, Ar18, q18, S18, M18, H18, G18⟩ := B16
  have hin18 : ¬ ((5 : Int32) < 0 ∨ cl18.slots.size ≤ ((5 : Int32)).toNatClampNeg) := inb_of S18 ⟨by decide, by decide⟩
  obtain ⟨T19, h19, X19, e19, W19, st19⟩ := stR X17 hx hZ e17 Ar18 (j := (5 : Int32)) hin18 rfl (Sto.ofV Ar18 q18 V1 (Ins.self (u17.ext O16.2))) (g := (mkF m 40 #[.val (.int p1), .unset, .unset, .unset, .unset, .unset] [(.ref ad5), (.int (5 : Int32)), (.ref b1), (.ref b1)])) rfl rfl (hb hby at_40)
  have B19 : Arv Z h19 b1 k1 (.object "com/example/vestwright/vestwright/model/SeparationCase") (9 : Int32) [(.ref ad0), (.ref ad1), (.ref ad2), (.ref ad3), (.ref ad4), (.ref ad5), .null, .null, .null] .null := Arv.set Ar18 q18 S18 M18 H18 G18 rfl W19 5 rfl (Nat.le_of_ble_eq_true rfl)
  refine own_go st19 ?_
  have K19 : Keep h0 h19 [] := K16.wr W19 (Or.inr (Nat.le_of_eq g1.symm))
  have O19 := O16.wr W19 (Nat.le_trans Z0 (Nat.le_of_eq g1.symm))
  have N19 := Fr.snoc X19 N16 (Nat.le_trans Z0 (Nat.le_of_eq g1.symm))
  refine own_go (A := T19.setTop (mkF m 44 #[.val (.int p1), .unset, .unset, .unset, .unset, .unset] [(.int (6 : Int32)), (.ref b1), (.ref b1)])) (fun t_ k_ => ?_) ?_
  · show Steps p.tables e below (T19.setTop (mkF m 41 #[.val (.int p1), .unset, .unset, .unset, .unset, .unset] [(.ref b1)])) t_
    refine XS.dup X19.here hx rfl (hb hby at_41) rfl rfl ?_
    show Steps p.tables e below (T19.setTop (mkF m 42 #[.val (.int p1), .unset, .unset, .unset, .unset, .unset] [(.ref b1), (.ref b1)])) t_
    refine XS.bipush X19.here hx rfl (hb hby at_42) ?_
    exact k_
  obtain ⟨T20, X20, e20, st20⟩ := getS2 X19 hx hZ hown (host := "") (Or.inl (own_w hw 16 rfl)) Via.refl e19 (u19.ext O19.2) (g := (mkF m 44 #[.val (.int p1), .unset, .unset, .unset, .unset, .unset] [(.int (6 : Int32)), (.ref b1), (.ref b1)])) rfl (hb hby at_44)
  refine own_go st20 ?_
  obtain ⟨cl21, Ar21, q21, S21, M21, H21, G21⟩ := B19
  have hin21 : ¬ ((6 : Int32) < 0 ∨ cl21.slots.size ≤ ((6 : Int32)).toNatClampNeg) := inb_of S21 ⟨by decide, by decide⟩
  obtain ⟨T22, h22, X22, e22, W22, st22⟩ := stR X20 hx hZ e20 Ar21 (j := (6 : Int32)) hin21 rfl (Sto.ofV Ar21 q21 V1 (Ins.self (u20.ext O19.2))) (g := (mkF m 47 #[.val (.int p1), .unset, .unset, .unset, .unset, .unset] [(.ref ad6), (.int (6 : Int32)), (.ref b1), (.ref b1)])) rfl rfl (hb hby at_47)
  have B22 : Arv Z h22 b1 k1 (.object "com/example/vestwright/vestwright/model/SeparationCase") (9 : Int32) [(.ref ad0), (.ref ad1), (.ref ad2), (.ref ad3), (.ref ad4), (.ref ad5), (.ref ad6), .null, .null] .null := Arv.set Ar21 q21 S21 M21 H21 G21 rfl W22 6 rfl (Nat.le_of_ble_eq_true rfl)
  refine own_go st22 ?_
  have K22 : Keep h0 h22 [] := K19.wr W22 (Or.inr (Nat.le_of_eq g1.symm))
  have O22 := O19.wr W22 (Nat.le_trans Z0 (Nat.le_of_eq g1.symm))
  have N22 := Fr.snoc X22 N19 (Nat.le_trans Z0 (Nat.le_of_eq g1.symm))
  refine own_go (A := T22.setTop (mkF m 51 #[.val (.int p1), .unset, .unset, .unset, .unset, .unset] [(.int (7 : Int32)), (.ref b1), (.ref b1)])) (fun t_ k_ => ?_) ?_
  · show Steps p.tables e below (T22.setTop (mkF m 48 #[.val (.int p1), .unset, .unset, .unset, .unset, .unset] [(.ref b1)])) t_
    refine XS.dup X22.here hx rfl (hb hby at_48) rfl rfl ?_
    show Steps p.tables e below (T22.setTop (mkF m 49 #[.val (.int p1), .unset, .unset, .unset, .unset, .unset] [(.ref b1), (.ref b1)])) t_
    refine XS.bipush X22.here hx rfl (hb hby at_49) ?_
    exact k_
  obtain ⟨T23, X23, e23, st23⟩ := getS2 X22 hx hZ hown (host := "") (Or.inl (own_w hw 18 rfl)) Via.refl e22 (u22.ext O22.2) (g := (mkF m 51 #[.val (.int p1), .unset, .unset, .unset, .unset, .unset] [(.int (7 : Int32)), (.ref b1), (.ref b1)])) rfl (hb hby at_51)
  refine own_go st23 ?_
  obtain ⟨cl24, Ar24, q24, S24, M24, H24, G24⟩ := B22
  have hin24 : ¬ ((7 : Int32) < 0 ∨ cl24.slots.size ≤ ((7 : Int32)).toNatClampNeg) := inb_of S24 ⟨by decide, by decide⟩
  obtain ⟨T25, h25, X25, e25, W25, st25⟩ := stR X23 hx hZ e23 Ar24 (j := (7 : Int32)) hin24 rfl (Sto.ofV Ar24 q24 V1 (Ins.self (u23.ext O22.2))) (g := (mkF m 54 #[.val (.int p1), .unset, .unset, .unset, .unset, .unset] [(.ref ad7), (.int (7 : Int32)), (.ref b1), (.ref b1)])) rfl rfl (hb hby at_54)
  have B25 : Arv Z h25 b1 k1 (.object "com/example/vestwright/vestwright/model/SeparationCase") (9 : Int32) [(.ref ad0), (.ref ad1), (.ref ad2), (.ref ad3), (.ref ad4), (.ref ad5), (.ref ad6), (.ref ad7), .null] .null := Arv.set Ar24 q24 S24 M24 H24 G24 rfl W25 7 rfl (Nat.le_of_ble_eq_true rfl)
  refine own_go st25 ?_
  have K25 : Keep h0 h25 [] := K22.wr W25 (Or.inr (Nat.le_of_eq g1.symm))
  have O25 := O22.wr W25 (Nat.le_trans Z0 (Nat.le_of_eq g1.symm))
  have N25 := Fr.snoc X25 N22 (Nat.le_trans Z0 (Nat.le_of_eq g1.symm))
  refine own_go (A := T25.setTop (mkF m 58 #[.val (.int p1), .unset, .unset, .unset, .unset, .unset] [(.int (8 : Int32)), (.ref b1), (.ref b1)])) (fun t_ k_ => ?_) ?_
  · show Steps p.tables e below (T25.setTop (mkF m 55 #[.val (.int p1), .unset, .unset, .unset, .unset, .unset] [(.ref b1)])) t_
    refine XS.dup X25.here hx rfl (hb hby at_55) rfl rfl ?_
    show Steps p.tables e below (T25.setTop (mkF m 56 #[.val (.int p1), .unset, .unset, .unset, .unset, .unset] [(.ref b1), (.ref b1)])) t_
    refine XS.bipush X25.here hx rfl (hb hby at_56) ?_
    exact k_
  obtain ⟨T26, X26, e26, st26⟩ := getS2 X25 hx hZ hown (host := "") (Or.inl (own_w hw 20 rfl)) Via.refl e25 (u25.ext O25.2) (g := (mkF m 58 #[.val (.int p1), .unset, .unset, .unset, .unset, .unset] [(.int (8 : Int32)), (.ref b1), (.ref b1)])) rfl (hb hby at_58)
  refine own_go st26 ?_
  obtain ⟨cl27, Ar27, q27, S27, M27, H27, G27⟩ := B25
  have hin27 : ¬ ((8 : Int32) < 0 ∨ cl27.slots.size ≤ ((8 : Int32)).toNatClampNeg) := inb_of S27 ⟨by decide, by decide⟩
  obtain ⟨T28, h28, X28, e28, W28, st28⟩ := stR X26 hx hZ e26 Ar27 (j := (8 : Int32)) hin27 rfl (Sto.ofV Ar27 q27 V1 (Ins.self (u26.ext O25.2))) (g := (mkF m 61 #[.val (.int p1), .unset, .unset, .unset, .unset, .unset] [(.ref ad8), (.int (8 : Int32)), (.ref b1), (.ref b1)])) rfl rfl (hb hby at_61)
  have B28 : Arv Z h28 b1 k1 (.object "com/example/vestwright/vestwright/model/SeparationCase") (9 : Int32) [(.ref ad0), (.ref ad1), (.ref ad2), (.ref ad3), (.ref ad4), (.ref ad5), (.ref ad6), (.ref ad7), (.ref ad8)] .null := Arv.set Ar27 q27 S27 M27 H27 G27 rfl W28 8 rfl (Nat.le_of_ble_eq_true rfl)
  refine own_go st28 ?_
  have K28 : Keep h0 h28 [] := K25.wr W28 (Or.inr (Nat.le_of_eq g1.symm))
  have O28 := O25.wr W28 (Nat.le_trans Z0 (Nat.le_of_eq g1.symm))
  have N28 := Fr.snoc X28 N25 (Nat.le_trans Z0 (Nat.le_of_eq g1.symm))
  refine own_go (A := T28.setTop (mkF m 70 #[.val (.int p1), .val (.ref b1), .unset, .unset, .unset, .unset] [(.int ((p1 &&& (2147483647 : Int32)) % (9 : Int32)))])) (fun t_ k_ => ?_) ?_
  · show Steps p.tables e below (T28.setTop (mkF m 62 #[.val (.int p1), .unset, .unset, .unset, .unset, .unset] [(.ref b1)])) t_
    refine XS.astoreN X28.here hx rfl (hb hby at_62) rfl rfl (l' := #[.val (.int p1), .val (.ref b1), .unset, .unset, .unset, .unset]) rfl ?_
    show Steps p.tables e below (T28.setTop (mkF m 63 #[.val (.int p1), .val (.ref b1), .unset, .unset, .unset, .unset] [])) t_
    refine XS.iloadN X28.here hx rfl (hb hby at_63) rfl ?_
    show Steps p.tables e below (T28.setTop (mkF m 64 #[.val (.int p1), .val (.ref b1), .unset, .unset, .unset, .unset] [(.int p1)])) t_
    refine Jvm.Stand.ldcI X28 hx hown (mvT hZ (own_w hw 22 rfl)) (g := (mkF m 64 #[.val (.int p1), .val (.ref b1), .unset, .unset, .unset, .unset] [(.int p1)])) rfl (hb hby at_64) ?_
    show Steps p.tables e below (T28.setTop (mkF m 66 #[.val (.int p1), .val (.ref b1), .unset, .unset, .unset, .unset] [(.int (2147483647 : Int32)), (.int p1)])) t_
    refine XS.iand X28.here hx rfl (hb hby at_66) rfl ?_
    show Steps p.tables e below (T28.setTop (mkF m 67 #[.val (.int p1), .val (.ref b1), .unset, .unset, .unset, .unset] [(.int (p1 &&& (2147483647 : Int32)))])) t_
    refine XS.bipush X28.here hx rfl (hb hby at_67) ?_
    show Steps p.tables e below (T28.setTop (mkF m 69 #[.val (.int p1), .val (.ref b1), .unset, .unset, .unset, .unset] [(.int (9 : Int32)), (.int (p1 &&& (2147483647 : Int32)))])) t_
    refine iremM (g := (mkF m 69 #[.val (.int p1), .val (.ref b1), .unset, .unset, .unset, .unset] [(.int (9 : Int32)), (.int (p1 &&& (2147483647 : Int32)))])) X28 hx rfl (hb hby at_69) rfl (by decide : ¬ ((9 : Int32) = (0 : Int32))) ?_
    exact k_
  rcases own_mod9 p1 with hm29 | hm29 | hm29 | hm29 | hm29 | hm29 | hm29 | hm29 | hm29
  · rw [hm29]
    obtain ⟨cl30, Ar30, q30, S30, M30, H30, G30⟩ := B28
    have hin30 : ¬ ((0 : Int32) < 0 ∨ cl30.slots.size ≤ ((0 : Int32)).toNatClampNeg) := inb_of S30 ⟨by decide, by decide⟩
    have hat30 : cl30.slots[((0 : Int32)).toNatClampNeg]? = some (.ref ad0) := Has.at H30 hin30 rfl
    refine own_go (A := T28.setTop (mkF m 93 #[.val (.int p1), .val (.ref b1), .val (.int (0 : Int32)), .val (.ref ad0), .val (.int (0 : Int32)), .unset] [(.ref ad0)])) (fun t_ k_ => ?_) ?_
    · show Steps p.tables e below (T28.setTop (mkF m 70 #[.val (.int p1), .val (.ref b1), .unset, .unset, .unset, .unset] [(.int (0 : Int32))])) t_
      refine XS.istoreN X28.here hx rfl (hb hby at_70) rfl (l' := #[.val (.int p1), .val (.ref b1), .val (.int (0 : Int32)), .unset, .unset, .unset]) rfl ?_
      show Steps p.tables e below (T28.setTop (mkF m 71 #[.val (.int p1), .val (.ref b1), .val (.int (0 : Int32)), .unset, .unset, .unset] [])) t_
      refine XS.aloadN X28.here hx rfl (hb hby at_71) rfl rfl ?_
      show Steps p.tables e below (T28.setTop (mkF m 72 #[.val (.int p1), .val (.ref b1), .val (.int (0 : Int32)), .unset, .unset, .unset] [(.ref b1)])) t_
      refine XS.iloadN X28.here hx rfl (hb hby at_72) rfl ?_
      show Steps p.tables e below (T28.setTop (mkF m 73 #[.val (.int p1), .val (.ref b1), .val (.int (0 : Int32)), .unset, .unset, .unset] [(.int (0 : Int32)), (.ref b1)])) t_
      refine X28.aaload hx (j := (0 : Int32)) (v := (.ref ad0)) (by rw [e28]; exact Ar30.1) (State.isArrayOf_alike hZ.alike Ar30.2.1) rfl Ar30.2.2 hin30 hat30 (g := (mkF m 73 #[.val (.int p1), .val (.ref b1), .val (.int (0 : Int32)), .unset, .unset, .unset] [(.int (0 : Int32)), (.ref b1)])) rfl rfl (hb hby at_73) _ ?_
      show Steps p.tables e below (T28.setTop (mkF m 74 #[.val (.int p1), .val (.ref b1), .val (.int (0 : Int32)), .unset, .unset, .unset] [(.ref ad0)])) t_
      refine XS.astoreN X28.here hx rfl (hb hby at_74) rfl rfl (l' := #[.val (.int p1), .val (.ref b1), .val (.int (0 : Int32)), .val (.ref ad0), .unset, .unset]) rfl ?_
      show Steps p.tables e below (T28.setTop (mkF m 75 #[.val (.int p1), .val (.ref b1), .val (.int (0 : Int32)), .val (.ref ad0), .unset, .unset] [])) t_
      refine XS.iloadN X28.here hx rfl (hb hby at_75) rfl ?_
      show Steps p.tables e below (T28.setTop (mkF m 76 #[.val (.int p1), .val (.ref b1), .val (.int (0 : Int32)), .val (.ref ad0), .unset, .unset] [(.int (0 : Int32))])) t_
      refine XS.iconst X28.here hx rfl (hb hby at_76) ?_
      show Steps p.tables e below (T28.setTop (mkF m 77 #[.val (.int p1), .val (.ref b1), .val (.int (0 : Int32)), .val (.ref ad0), .unset, .unset] [(.int (2 : Int32)), (.int (0 : Int32))])) t_
      refine XS.icmpNo X28.here hx rfl (hb hby at_77) rfl (feq (by decide : ¬ ((0 : Int32) = (2 : Int32)))).1 ?_
      show Steps p.tables e below (T28.setTop (mkF m 80 #[.val (.int p1), .val (.ref b1), .val (.int (0 : Int32)), .val (.ref ad0), .unset, .unset] [])) t_
      refine XS.iloadN X28.here hx rfl (hb hby at_80) rfl ?_
      show Steps p.tables e below (T28.setTop (mkF m 81 #[.val (.int p1), .val (.ref b1), .val (.int (0 : Int32)), .val (.ref ad0), .unset, .unset] [(.int (0 : Int32))])) t_
      refine XS.iconst X28.here hx rfl (hb hby at_81) ?_
      show Steps p.tables e below (T28.setTop (mkF m 82 #[.val (.int p1), .val (.ref b1), .val (.int (0 : Int32)), .val (.ref ad0), .unset, .unset] [(.int (3 : Int32)), (.int (0 : Int32))])) t_
      refine XS.icmpYes X28.here hx rfl (pc0 := 82) (pc' := 89) rfl (hb hby at_82) rfl (feq (by decide : ¬ ((0 : Int32) = (3 : Int32)))).2 (by decide) (by decide) ?_
      show Steps p.tables e below (T28.setTop (mkF m 89 #[.val (.int p1), .val (.ref b1), .val (.int (0 : Int32)), .val (.ref ad0), .unset, .unset] [])) t_
      refine XS.iconst X28.here hx rfl (hb hby at_89) ?_
      show Steps p.tables e below (T28.setTop (mkF m 90 #[.val (.int p1), .val (.ref b1), .val (.int (0 : Int32)), .val (.ref ad0), .unset, .unset] [(.int (0 : Int32))])) t_
      refine XS.istore X28.here hx rfl (hb hby at_90) rfl (l' := #[.val (.int p1), .val (.ref b1), .val (.int (0 : Int32)), .val (.ref ad0), .val (.int (0 : Int32)), .unset]) rfl ?_
      show Steps p.tables e below (T28.setTop (mkF m 92 #[.val (.int p1), .val (.ref b1), .val (.int (0 : Int32)), .val (.ref ad0), .val (.int (0 : Int32)), .unset] [])) t_
      refine XS.aloadN X28.here hx rfl (hb hby at_92) rfl rfl ?_
      exact k_
    obtain ⟨cq31, kq31, q31a, q31b, q31c⟩ := isOf hZ e28 (u2.ext O28.2)
    obtain ⟨_, _, ⟨T31, L31, k31, n31⟩, -, X31, ⟨Lc31, hQ31, l31, y31, z31⟩, st31⟩ := X28.virtualBack hx (y := own_y0) (z := own_y0) hown (mvT hZ (own_w hw 23 rfl)) (mvT hZ (own_w hw 24 rfl)) (notFace_of_selects (args := #[]) (mvT hZ (own_w hw 26 rfl))) (mvT hZ (own_w hw 26 rfl)) (mvT hZ (own_w hw 25 rfl)) (by decide) (backOf (W := 0) (rmCred0 l Z a0 hw [] ad0 ad2 ad3 h28 n0 (Nat.le_trans Z0 K28.1) O28 u7 u10 (Fld.ne u3 u9 (by decide)) (Fld.ne u3 u12 (by decide))) hZ (own_w hw 27 rfl) (own_w hw 3 rfl) (by decide) (by decide)) q31a q31c (g := (mkF m 93 #[.val (.int p1), .val (.ref b1), .val (.int (0 : Int32)), .val (.ref ad0), .val (.int (0 : Int32)), .unset] [(.ref ad0)])) rfl (by rw [hml]; rfl) (Steps.refl _) (argsL := []) (rest := []) (lenOf pd_0 rfl) rfl (by show 2 * 0 + _ ≤ _; exact Nat.le_of_eq rfl) (hb hby at_93) (fun _ _ => ⟨rfl, e28, (by decide : 1 + 0 ≤ _), (by decide : 9 + 0 ≤ _)⟩)
    dsimp only [Pt.U, Pt.locs, Pt.cells, Pt.slots] at X31 l31 y31 z31 st31 hQ31
    subst l31 y31 z31
    obtain ⟨rfl, N31q, eh31⟩ := hQ31
    have N31 := Fr.app N28 N31q
    refine own_via st31 ?_
    refine own_go (A := T31.setTop (mkF m 129 #[.val (.int p1), .val (.ref b1), .val (.int (0 : Int32)), .val (.ref ad0), .val (.int (0 : Int32)), .val (.int (0 : Int32))] [(.int (1 : Int32))])) (fun t_ k_ => ?_) ?_
    · show Steps p.tables e below (T31.setTop (mkF m 96 #[.val (.int p1), .val (.ref b1), .val (.int (0 : Int32)), .val (.ref ad0), .val (.int (0 : Int32)), .unset] [(.int (0 : Int32))])) t_
      refine XS.istore X31.here hx rfl (hb hby at_96) rfl (l' := #[.val (.int p1), .val (.ref b1), .val (.int (0 : Int32)), .val (.ref ad0), .val (.int (0 : Int32)), .val (.int (0 : Int32))]) rfl ?_
      show Steps p.tables e below (T31.setTop (mkF m 98 #[.val (.int p1), .val (.ref b1), .val (.int (0 : Int32)), .val (.ref ad0), .val (.int (0 : Int32)), .val (.int (0 : Int32))] [])) t_
      refine XS.iload X31.here hx rfl (hb hby at_98) rfl ?_
      show Steps p.tables e below (T31.setTop (mkF m 100 #[.val (.int p1), .val (.ref b1), .val (.int (0 : Int32)), .val (.ref ad0), .val (.int (0 : Int32)), .val (.int (0 : Int32))] [(.int (0 : Int32))])) t_
      refine XS.iload X31.here hx rfl (hb hby at_100) rfl ?_
      show Steps p.tables e below (T31.setTop (mkF m 102 #[.val (.int p1), .val (.ref b1), .val (.int (0 : Int32)), .val (.ref ad0), .val (.int (0 : Int32)), .val (.int (0 : Int32))] [(.int (0 : Int32)), (.int (0 : Int32))])) t_
      refine XS.icmpYes X31.here hx rfl (pc0 := 102) (pc' := 107) rfl (hb hby at_102) rfl (teq (by decide : (0 : Int32) = (0 : Int32))).1 (by decide) (by decide) ?_
      show Steps p.tables e below (T31.setTop (mkF m 107 #[.val (.int p1), .val (.ref b1), .val (.int (0 : Int32)), .val (.ref ad0), .val (.int (0 : Int32)), .val (.int (0 : Int32))] [])) t_
      refine XS.iload X31.here hx rfl (hb hby at_107) rfl ?_
      show Steps p.tables e below (T31.setTop (mkF m 109 #[.val (.int p1), .val (.ref b1), .val (.int (0 : Int32)), .val (.ref ad0), .val (.int (0 : Int32)), .val (.int (0 : Int32))] [(.int (0 : Int32))])) t_
      refine XS.ifYes X31.here hx rfl (pc0 := 109) (pc' := 128) rfl (hb hby at_109) rfl ((if0 _ _).trans (teq (by decide : (0 : Int32) = (0 : Int32))).1) (by decide) (by decide) ?_
      show Steps p.tables e below (T31.setTop (mkF m 128 #[.val (.int p1), .val (.ref b1), .val (.int (0 : Int32)), .val (.ref ad0), .val (.int (0 : Int32)), .val (.int (0 : Int32))] [])) t_
      refine XS.iconst X31.here hx rfl (hb hby at_128) ?_
      exact k_
    obtain ⟨fs32, hr32, hrun32, hended32, hW32, hsame32⟩ := X31.leave (v := some (.int (1 : Int32))) (fun h => by rw [Bd.returns] at h; cases h)
    refine ⟨_, _, ?_, hrun32, hended32, _, _, rfl, ?_, ⟨_, rfl⟩, hW32, hsame32.mono (by decide) (by decide)⟩
    · exact retN X31 hx (t := .boolean) Bd.returns (by simp) (hb hby at_129) hr32
    · show Q_rm0 Z p1 ad0 ad1 ad2 ad3 ad4 ad5 ad6 ad7 ad8 h0 n0 _ T31.heap _
      rw [eh31]
      exact ⟨rfl, N31, K28⟩
  · rw [hm29]
    obtain ⟨cl33, Ar33, q33, S33, M33, H33, G33⟩ := B28
    have hin33 : ¬ ((1 : Int32) < 0 ∨ cl33.slots.size ≤ ((1 : Int32)).toNatClampNeg) := inb_of S33 ⟨by decide, by decide⟩
    have hat33 : cl33.slots[((1 : Int32)).toNatClampNeg]? = some (.ref ad1) := Has.at H33 hin33 rfl
    refine own_go (A := T28.setTop (mkF m 93 #[.val (.int p1), .val (.ref b1), .val (.int (1 : Int32)), .val (.ref ad1), .val (.int (0 : Int32)), .unset] [(.ref ad1)])) (fun t_ k_ => ?_) ?_
    · show Steps p.tables e below (T28.setTop (mkF m 70 #[.val (.int p1), .val (.ref b1), .unset, .unset, .unset, .unset] [(.int (1 : Int32))])) t_
      refine XS.istoreN X28.here hx rfl (hb hby at_70) rfl (l' := #[.val (.int p1), .val (.ref b1), .val (.int (1 : Int32)), .unset, .unset, .unset]) rfl ?_
      show Steps p.tables e below (T28.setTop (mkF m 71 #[.val (.int p1), .val (.ref b1), .val (.int (1 : Int32)), .unset, .unset, .unset] [])) t_
      refine XS.aloadN X28.here hx rfl (hb hby at_71) rfl rfl ?_
      show Steps p.tables e below (T28.setTop (mkF m 72 #[.val (.int p1), .val (.ref b1), .val (.int (1 : Int32)), .unset, .unset, .unset] [(.ref b1)])) t_
      refine XS.iloadN X28.here hx rfl (hb hby at_72) rfl ?_
      show Steps p.tables e below (T28.setTop (mkF m 73 #[.val (.int p1), .val (.ref b1), .val (.int (1 : Int32)), .unset, .unset, .unset] [(.int (1 : Int32)), (.ref b1)])) t_
      refine X28.aaload hx (j := (1 : Int32)) (v := (.ref ad1)) (by rw [e28]; exact Ar33.1) (State.isArrayOf_alike hZ.alike Ar33.2.1) rfl Ar33.2.2 hin33 hat33 (g := (mkF m 73 #[.val (.int p1), .val (.ref b1), .val (.int (1 : Int32)), .unset, .unset, .unset] [(.int (1 : Int32)), (.ref b1)])) rfl rfl (hb hby at_73) _ ?_
      show Steps p.tables e below (T28.setTop (mkF m 74 #[.val (.int p1), .val (.ref b1), .val (.int (1 : Int32)), .unset, .unset, .unset] [(.ref ad1)])) t_
      refine XS.astoreN X28.here hx rfl (hb hby at_74) rfl rfl (l' := #[.val (.int p1), .val (.ref b1), .val (.int (1 : Int32)), .val (.ref ad1), .unset, .unset]) rfl ?_
      show Steps p.tables e below (T28.setTop (mkF m 75 #[.val (.int p1), .val (.ref b1), .val (.int (1 : Int32)), .val (.ref ad1), .unset, .unset] [])) t_
      refine XS.iloadN X28.here hx rfl (hb hby at_75) rfl ?_
      show Steps p.tables e below (T28.setTop (mkF m 76 #[.val (.int p1), .val (.ref b1), .val (.int (1 : Int32)), .val (.ref ad1), .unset, .unset] [(.int (1 : Int32))])) t_
      refine XS.iconst X28.here hx rfl (hb hby at_76) ?_
      show Steps p.tables e below (T28.setTop (mkF m 77 #[.val (.int p1), .val (.ref b1), .val (.int (1 : Int32)), .val (.ref ad1), .unset, .unset] [(.int (2 : Int32)), (.int (1 : Int32))])) t_
      refine XS.icmpNo X28.here hx rfl (hb hby at_77) rfl (feq (by decide : ¬ ((1 : Int32) = (2 : Int32)))).1 ?_
      show Steps p.tables e below (T28.setTop (mkF m 80 #[.val (.int p1), .val (.ref b1), .val (.int (1 : Int32)), .val (.ref ad1), .unset, .unset] [])) t_
      refine XS.iloadN X28.here hx rfl (hb hby at_80) rfl ?_
      show Steps p.tables e below (T28.setTop (mkF m 81 #[.val (.int p1), .val (.ref b1), .val (.int (1 : Int32)), .val (.ref ad1), .unset, .unset] [(.int (1 : Int32))])) t_
      refine XS.iconst X28.here hx rfl (hb hby at_81) ?_
      show Steps p.tables e below (T28.setTop (mkF m 82 #[.val (.int p1), .val (.ref b1), .val (.int (1 : Int32)), .val (.ref ad1), .unset, .unset] [(.int (3 : Int32)), (.int (1 : Int32))])) t_
      refine XS.icmpYes X28.here hx rfl (pc0 := 82) (pc' := 89) rfl (hb hby at_82) rfl (feq (by decide : ¬ ((1 : Int32) = (3 : Int32)))).2 (by decide) (by decide) ?_
      show Steps p.tables e below (T28.setTop (mkF m 89 #[.val (.int p1), .val (.ref b1), .val (.int (1 : Int32)), .val (.ref ad1), .unset, .unset] [])) t_
      refine XS.iconst X28.here hx rfl (hb hby at_89) ?_
      show Steps p.tables e below (T28.setTop (mkF m 90 #[.val (.int p1), .val (.ref b1), .val (.int (1 : Int32)), .val (.ref ad1), .unset, .unset] [(.int (0 : Int32))])) t_
      refine XS.istore X28.here hx rfl (hb hby at_90) rfl (l' := #[.val (.int p1), .val (.ref b1), .val (.int (1 : Int32)), .val (.ref ad1), .val (.int (0 : Int32)), .unset]) rfl ?_
      show Steps p.tables e below (T28.setTop (mkF m 92 #[.val (.int p1), .val (.ref b1), .val (.int (1 : Int32)), .val (.ref ad1), .val (.int (0 : Int32)), .unset] [])) t_
      refine XS.aloadN X28.here hx rfl (hb hby at_92) rfl rfl ?_
      exact k_
    obtain ⟨cq34, kq34, q34a, q34b, q34c⟩ := isOf hZ e28 (u5.ext O28.2)
    obtain ⟨_, _, ⟨T34, L34, k34, n34⟩, -, X34, ⟨Lc34, hQ34, l34, y34, z34⟩, st34⟩ := X28.virtualBack hx (y := own_y0) (z := own_y0) hown (mvT hZ (own_w hw 23 rfl)) (mvT hZ (own_w hw 24 rfl)) (notFace_of_selects (args := #[]) (mvT hZ (own_w hw 26 rfl))) (mvT hZ (own_w hw 26 rfl)) (mvT hZ (own_w hw 25 rfl)) (by decide) (backOf (W := 0) (rmCred1 l Z a0 hw [] ad1 ad2 ad3 h28 n0 (Nat.le_trans Z0 K28.1) O28 u7 u10 (Fld.ne u6 u9 (by decide)) (Fld.ne u6 u12 (by decide))) hZ (own_w hw 27 rfl) (own_w hw 3 rfl) (by decide) (by decide)) q34a q34c (g := (mkF m 93 #[.val (.int p1), .val (.ref b1), .val (.int (1 : Int32)), .val (.ref ad1), .val (.int (0 : Int32)), .unset] [(.ref ad1)])) rfl (by rw [hml]; rfl) (Steps.refl _) (argsL := []) (rest := []) (lenOf pd_0 rfl) rfl (by show 2 * 0 + _ ≤ _; exact Nat.le_of_eq rfl) (hb hby at_93) (fun _ _ => ⟨rfl, e28, (by decide : 1 + 0 ≤ _), (by decide : 9 + 0 ≤ _)⟩)
    dsimp only [Pt.U, Pt.locs, Pt.cells, Pt.slots] at X34 l34 y34 z34 st34 hQ34
    subst l34 y34 z34
    obtain ⟨rfl, N34q, eh34⟩ := hQ34
    have N34 := Fr.app N28 N34q
    refine own_via st34 ?_
    refine own_go (A := T34.setTop (mkF m 129 #[.val (.int p1), .val (.ref b1), .val (.int (1 : Int32)), .val (.ref ad1), .val (.int (0 : Int32)), .val (.int (0 : Int32))] [(.int (1 : Int32))])) (fun t_ k_ => ?_) ?_
    · show Steps p.tables e below (T34.setTop (mkF m 96 #[.val (.int p1), .val (.ref b1), .val (.int (1 : Int32)), .val (.ref ad1), .val (.int (0 : Int32)), .unset] [(.int (0 : Int32))])) t_
      refine XS.istore X34.here hx rfl (hb hby at_96) rfl (l' := #[.val (.int p1), .val (.ref b1), .val (.int (1 : Int32)), .val (.ref ad1), .val (.int (0 : Int32)), .val (.int (0 : Int32))]) rfl ?_
      show Steps p.tables e below (T34.setTop (mkF m 98 #[.val (.int p1), .val (.ref b1), .val (.int (1 : Int32)), .val (.ref ad1), .val (.int (0 : Int32)), .val (.int (0 : Int32))] [])) t_
      refine XS.iload X34.here hx rfl (hb hby at_98) rfl ?_
      show Steps p.tables e below (T34.setTop (mkF m 100 #[.val (.int p1), .val (.ref b1), .val (.int (1 : Int32)), .val (.ref ad1), .val (.int (0 : Int32)), .val (.int (0 : Int32))] [(.int (0 : Int32))])) t_
      refine XS.iload X34.here hx rfl (hb hby at_100) rfl ?_
      show Steps p.tables e below (T34.setTop (mkF m 102 #[.val (.int p1), .val (.ref b1), .val (.int (1 : Int32)), .val (.ref ad1), .val (.int (0 : Int32)), .val (.int (0 : Int32))] [(.int (0 : Int32)), (.int (0 : Int32))])) t_
      refine XS.icmpYes X34.here hx rfl (pc0 := 102) (pc' := 107) rfl (hb hby at_102) rfl (teq (by decide : (0 : Int32) = (0 : Int32))).1 (by decide) (by decide) ?_
      show Steps p.tables e below (T34.setTop (mkF m 107 #[.val (.int p1), .val (.ref b1), .val (.int (1 : Int32)), .val (.ref ad1), .val (.int (0 : Int32)), .val (.int (0 : Int32))] [])) t_
      refine XS.iload X34.here hx rfl (hb hby at_107) rfl ?_
      show Steps p.tables e below (T34.setTop (mkF m 109 #[.val (.int p1), .val (.ref b1), .val (.int (1 : Int32)), .val (.ref ad1), .val (.int (0 : Int32)), .val (.int (0 : Int32))] [(.int (0 : Int32))])) t_
      refine XS.ifYes X34.here hx rfl (pc0 := 109) (pc' := 128) rfl (hb hby at_109) rfl ((if0 _ _).trans (teq (by decide : (0 : Int32) = (0 : Int32))).1) (by decide) (by decide) ?_
      show Steps p.tables e below (T34.setTop (mkF m 128 #[.val (.int p1), .val (.ref b1), .val (.int (1 : Int32)), .val (.ref ad1), .val (.int (0 : Int32)), .val (.int (0 : Int32))] [])) t_
      refine XS.iconst X34.here hx rfl (hb hby at_128) ?_
      exact k_
    obtain ⟨fs35, hr35, hrun35, hended35, hW35, hsame35⟩ := X34.leave (v := some (.int (1 : Int32))) (fun h => by rw [Bd.returns] at h; cases h)
    refine ⟨_, _, ?_, hrun35, hended35, _, _, rfl, ?_, ⟨_, rfl⟩, hW35, hsame35.mono (by decide) (by decide)⟩
    · exact retN X34 hx (t := .boolean) Bd.returns (by simp) (hb hby at_129) hr35
    · show Q_rm0 Z p1 ad0 ad1 ad2 ad3 ad4 ad5 ad6 ad7 ad8 h0 n0 _ T34.heap _
      rw [eh34]
      exact ⟨rfl, N34, K28⟩
  · rw [hm29]
    obtain ⟨cl36, Ar36, q36, S36, M36, H36, G36⟩ := B28
    have hin36 : ¬ ((2 : Int32) < 0 ∨ cl36.slots.size ≤ ((2 : Int32)).toNatClampNeg) := inb_of S36 ⟨by decide, by decide⟩
    have hat36 : cl36.slots[((2 : Int32)).toNatClampNeg]? = some (.ref ad2) := Has.at H36 hin36 rfl
    refine own_go (A := T28.setTop (mkF m 93 #[.val (.int p1), .val (.ref b1), .val (.int (2 : Int32)), .val (.ref ad2), .val (.int (1 : Int32)), .unset] [(.ref ad2)])) (fun t_ k_ => ?_) ?_
    · show Steps p.tables e below (T28.setTop (mkF m 70 #[.val (.int p1), .val (.ref b1), .unset, .unset, .unset, .unset] [(.int (2 : Int32))])) t_
      refine XS.istoreN X28.here hx rfl (hb hby at_70) rfl (l' := #[.val (.int p1), .val (.ref b1), .val (.int (2 : Int32)), .unset, .unset, .unset]) rfl ?_
      show Steps p.tables e below (T28.setTop (mkF m 71 #[.val (.int p1), .val (.ref b1), .val (.int (2 : Int32)), .unset, .unset, .unset] [])) t_
      refine XS.aloadN X28.here hx rfl (hb hby at_71) rfl rfl ?_
      show Steps p.tables e below (T28.setTop (mkF m 72 #[.val (.int p1), .val (.ref b1), .val (.int (2 : Int32)), .unset, .unset, .unset] [(.ref b1)])) t_
      refine XS.iloadN X28.here hx rfl (hb hby at_72) rfl ?_
      show Steps p.tables e below (T28.setTop (mkF m 73 #[.val (.int p1), .val (.ref b1), .val (.int (2 : Int32)), .unset, .unset, .unset] [(.int (2 : Int32)), (.ref b1)])) t_
      refine X28.aaload hx (j := (2 : Int32)) (v := (.ref ad2)) (by rw [e28]; exact Ar36.1) (State.isArrayOf_alike hZ.alike Ar36.2.1) rfl Ar36.2.2 hin36 hat36 (g := (mkF m 73 #[.val (.int p1), .val (.ref b1), .val (.int (2 : Int32)), .unset, .unset, .unset] [(.int (2 : Int32)), (.ref b1)])) rfl rfl (hb hby at_73) _ ?_
      show Steps p.tables e below (T28.setTop (mkF m 74 #[.val (.int p1), .val (.ref b1), .val (.int (2 : Int32)), .unset, .unset, .unset] [(.ref ad2)])) t_
      refine XS.astoreN X28.here hx rfl (hb hby at_74) rfl rfl (l' := #[.val (.int p1), .val (.ref b1), .val (.int (2 : Int32)), .val (.ref ad2), .unset, .unset]) rfl ?_
      show Steps p.tables e below (T28.setTop (mkF m 75 #[.val (.int p1), .val (.ref b1), .val (.int (2 : Int32)), .val (.ref ad2), .unset, .unset] [])) t_
      refine XS.iloadN X28.here hx rfl (hb hby at_75) rfl ?_
      show Steps p.tables e below (T28.setTop (mkF m 76 #[.val (.int p1), .val (.ref b1), .val (.int (2 : Int32)), .val (.ref ad2), .unset, .unset] [(.int (2 : Int32))])) t_
      refine XS.iconst X28.here hx rfl (hb hby at_76) ?_
      show Steps p.tables e below (T28.setTop (mkF m 77 #[.val (.int p1), .val (.ref b1), .val (.int (2 : Int32)), .val (.ref ad2), .unset, .unset] [(.int (2 : Int32)), (.int (2 : Int32))])) t_
      refine XS.icmpYes X28.here hx rfl (pc0 := 77) (pc' := 85) rfl (hb hby at_77) rfl (teq (by decide : (2 : Int32) = (2 : Int32))).1 (by decide) (by decide) ?_
      show Steps p.tables e below (T28.setTop (mkF m 85 #[.val (.int p1), .val (.ref b1), .val (.int (2 : Int32)), .val (.ref ad2), .unset, .unset] [])) t_
      refine XS.iconst X28.here hx rfl (hb hby at_85) ?_
      show Steps p.tables e below (T28.setTop (mkF m 86 #[.val (.int p1), .val (.ref b1), .val (.int (2 : Int32)), .val (.ref ad2), .unset, .unset] [(.int (1 : Int32))])) t_
      refine XS.goto X28.here hx rfl (pc0 := 86) (pc' := 90) rfl (hb hby at_86) (by decide) (by decide) ?_
      show Steps p.tables e below (T28.setTop (mkF m 90 #[.val (.int p1), .val (.ref b1), .val (.int (2 : Int32)), .val (.ref ad2), .unset, .unset] [(.int (1 : Int32))])) t_
      refine XS.istore X28.here hx rfl (hb hby at_90) rfl (l' := #[.val (.int p1), .val (.ref b1), .val (.int (2 : Int32)), .val (.ref ad2), .val (.int (1 : Int32)), .unset]) rfl ?_
      show Steps p.tables e below (T28.setTop (mkF m 92 #[.val (.int p1), .val (.ref b1), .val (.int (2 : Int32)), .val (.ref ad2), .val (.int (1 : Int32)), .unset] [])) t_
      refine XS.aloadN X28.here hx rfl (hb hby at_92) rfl rfl ?_
      exact k_
    obtain ⟨cq37, kq37, q37a, q37b, q37c⟩ := isOf hZ e28 (u8.ext O28.2)
    obtain ⟨_, _, ⟨T37, L37, k37, n37⟩, -, X37, ⟨Lc37, hQ37, l37, y37, z37⟩, st37⟩ := X28.virtualBack hx (y := own_y0) (z := own_y0) hown (mvT hZ (own_w hw 23 rfl)) (mvT hZ (own_w hw 24 rfl)) (notFace_of_selects (args := #[]) (mvT hZ (own_w hw 26 rfl))) (mvT hZ (own_w hw 26 rfl)) (mvT hZ (own_w hw 25 rfl)) (by decide) (backOf (W := 0) (rmCred2 l Z a0 hw [] ad2 ad3 h28 n0 (Nat.le_trans Z0 K28.1) O28 u7 u10 (Fld.ne u9 u12 (by decide))) hZ (own_w hw 27 rfl) (own_w hw 3 rfl) (by decide) (by decide)) q37a q37c (g := (mkF m 93 #[.val (.int p1), .val (.ref b1), .val (.int (2 : Int32)), .val (.ref ad2), .val (.int (1 : Int32)), .unset] [(.ref ad2)])) rfl (by rw [hml]; rfl) (Steps.refl _) (argsL := []) (rest := []) (lenOf pd_0 rfl) rfl (by show 2 * 0 + _ ≤ _; exact Nat.le_of_eq rfl) (hb hby at_93) (fun _ _ => ⟨rfl, e28, (by decide : 1 + 0 ≤ _), (by decide : 9 + 0 ≤ _)⟩)
    dsimp only [Pt.U, Pt.locs, Pt.cells, Pt.slots] at X37 l37 y37 z37 st37 hQ37
    subst l37 y37 z37
    obtain ⟨rfl, N37q, eh37⟩ := hQ37
    have N37 := Fr.app N28 N37q
    refine own_via st37 ?_
    refine own_go (A := T37.setTop (mkF m 113 #[.val (.int p1), .val (.ref b1), .val (.int (2 : Int32)), .val (.ref ad2), .val (.int (1 : Int32)), .val (.int (1 : Int32))] [(.ref ad2)])) (fun t_ k_ => ?_) ?_
    · show Steps p.tables e below (T37.setTop (mkF m 96 #[.val (.int p1), .val (.ref b1), .val (.int (2 : Int32)), .val (.ref ad2), .val (.int (1 : Int32)), .unset] [(.int (1 : Int32))])) t_
      refine XS.istore X37.here hx rfl (hb hby at_96) rfl (l' := #[.val (.int p1), .val (.ref b1), .val (.int (2 : Int32)), .val (.ref ad2), .val (.int (1 : Int32)), .val (.int (1 : Int32))]) rfl ?_
      show Steps p.tables e below (T37.setTop (mkF m 98 #[.val (.int p1), .val (.ref b1), .val (.int (2 : Int32)), .val (.ref ad2), .val (.int (1 : Int32)), .val (.int (1 : Int32))] [])) t_
      refine XS.iload X37.here hx rfl (hb hby at_98) rfl ?_
      show Steps p.tables e below (T37.setTop (mkF m 100 #[.val (.int p1), .val (.ref b1), .val (.int (2 : Int32)), .val (.ref ad2), .val (.int (1 : Int32)), .val (.int (1 : Int32))] [(.int (1 : Int32))])) t_
      refine XS.iload X37.here hx rfl (hb hby at_100) rfl ?_
      show Steps p.tables e below (T37.setTop (mkF m 102 #[.val (.int p1), .val (.ref b1), .val (.int (2 : Int32)), .val (.ref ad2), .val (.int (1 : Int32)), .val (.int (1 : Int32))] [(.int (1 : Int32)), (.int (1 : Int32))])) t_
      refine XS.icmpYes X37.here hx rfl (pc0 := 102) (pc' := 107) rfl (hb hby at_102) rfl (teq (by decide : (1 : Int32) = (1 : Int32))).1 (by decide) (by decide) ?_
      show Steps p.tables e below (T37.setTop (mkF m 107 #[.val (.int p1), .val (.ref b1), .val (.int (2 : Int32)), .val (.ref ad2), .val (.int (1 : Int32)), .val (.int (1 : Int32))] [])) t_
      refine XS.iload X37.here hx rfl (hb hby at_107) rfl ?_
      show Steps p.tables e below (T37.setTop (mkF m 109 #[.val (.int p1), .val (.ref b1), .val (.int (2 : Int32)), .val (.ref ad2), .val (.int (1 : Int32)), .val (.int (1 : Int32))] [(.int (1 : Int32))])) t_
      refine XS.ifNo X37.here hx rfl (hb hby at_109) rfl ((if0 _ _).trans (feq (by decide : ¬ ((1 : Int32) = (0 : Int32)))).1) ?_
      show Steps p.tables e below (T37.setTop (mkF m 112 #[.val (.int p1), .val (.ref b1), .val (.int (2 : Int32)), .val (.ref ad2), .val (.int (1 : Int32)), .val (.int (1 : Int32))] [])) t_
      refine XS.aloadN X37.here hx rfl (hb hby at_112) rfl rfl ?_
      exact k_
    obtain ⟨cq38, kq38, q38a, q38b, q38c⟩ := isOf hZ eh37 (u8.ext O28.2)
    obtain ⟨_, _, ⟨T38, L38, k38, n38⟩, -, X38, ⟨Lc38, hQ38, l38, y38, z38⟩, st38⟩ := X37.virtualBack hx (y := own_y1) (z := own_y1) hown (mvT hZ (own_w hw 30 rfl)) (mvT hZ (own_w hw 31 rfl)) (notFace_of_selects (args := #[]) (mvT hZ (own_w hw 33 rfl))) (mvT hZ (own_w hw 33 rfl)) (mvT hZ (own_w hw 32 rfl)) (by decide) (backOf (W := 0) (rmPaid2 l Z a0 hw [] ad2 ad5 ad6 h28 n0 (Nat.le_trans Z0 K28.1) O28 u16 u19 (Fld.ne u9 u18 (by decide)) (Fld.ne u9 u21 (by decide))) hZ (own_w hw 34 rfl) (own_w hw 3 rfl) (by decide) (by decide)) q38a q38c (g := (mkF m 113 #[.val (.int p1), .val (.ref b1), .val (.int (2 : Int32)), .val (.ref ad2), .val (.int (1 : Int32)), .val (.int (1 : Int32))] [(.ref ad2)])) rfl (by rw [hml]; rfl) (Steps.refl _) (argsL := []) (rest := []) (lenOf pd_0 rfl) rfl (by show 2 * 0 + _ ≤ _; exact Nat.le_of_eq rfl) (hb hby at_113) (fun _ _ => ⟨rfl, eh37, (by decide : 1 + 0 ≤ _), (by decide : 9 + 0 ≤ _)⟩)
    dsimp only [Pt.U, Pt.locs, Pt.cells, Pt.slots] at X38 l38 y38 z38 st38 hQ38
    subst l38 y38 z38
    obtain ⟨rfl, N38q, eh38⟩ := hQ38
    have N38 := Fr.app N37 N38q
    refine own_via st38 ?_
    refine own_go (A := T38.setTop (mkF m 120 #[.val (.int p1), .val (.ref b1), .val (.int (2 : Int32)), .val (.ref ad2), .val (.int (1 : Int32)), .val (.int (1 : Int32))] [(.ref ad2)])) (fun t_ k_ => ?_) ?_
    · show Steps p.tables e below (T38.setTop (mkF m 116 #[.val (.int p1), .val (.ref b1), .val (.int (2 : Int32)), .val (.ref ad2), .val (.int (1 : Int32)), .val (.int (1 : Int32))] [(.int (1 : Int32))])) t_
      refine XS.ifNo X38.here hx rfl (hb hby at_116) rfl ((if0 _ _).trans (feq (by decide : ¬ ((1 : Int32) = (0 : Int32)))).1) ?_
      show Steps p.tables e below (T38.setTop (mkF m 119 #[.val (.int p1), .val (.ref b1), .val (.int (2 : Int32)), .val (.ref ad2), .val (.int (1 : Int32)), .val (.int (1 : Int32))] [])) t_
      refine XS.aloadN X38.here hx rfl (hb hby at_119) rfl rfl ?_
      exact k_
    obtain ⟨cq39, kq39, q39a, q39b, q39c⟩ := isOf hZ eh38 (u8.ext O28.2)
    obtain ⟨_, _, ⟨T39, L39, k39, n39⟩, -, X39, ⟨Lc39, hQ39, l39, y39, z39⟩, st39⟩ := X38.virtualBack hx (y := own_y2) (z := own_y2) hown (mvT hZ (own_w hw 37 rfl)) (mvT hZ (own_w hw 38 rfl)) (notFace_of_selects (args := #[]) (mvT hZ (own_w hw 40 rfl))) (mvT hZ (own_w hw 40 rfl)) (mvT hZ (own_w hw 39 rfl)) (by decide) (backOf (W := 0) (rmRed2 l Z a0 hw [] ad2 ad0 ad1 h28 n0 (Nat.le_trans Z0 K28.1) O28 u1 u4 (Fld.ne u9 u3 (by decide)) (Fld.ne u9 u6 (by decide))) hZ (own_w hw 41 rfl) (own_w hw 3 rfl) (by decide) (by decide)) q39a q39c (g := (mkF m 120 #[.val (.int p1), .val (.ref b1), .val (.int (2 : Int32)), .val (.ref ad2), .val (.int (1 : Int32)), .val (.int (1 : Int32))] [(.ref ad2)])) rfl (by rw [hml]; rfl) (Steps.refl _) (argsL := []) (rest := []) (lenOf pd_0 rfl) rfl (by show 2 * 0 + _ ≤ _; exact Nat.le_of_eq rfl) (hb hby at_120) (fun _ _ => ⟨rfl, eh38, (by decide : 1 + 0 ≤ _), (by decide : 9 + 0 ≤ _)⟩)
    dsimp only [Pt.U, Pt.locs, Pt.cells, Pt.slots] at X39 l39 y39 z39 st39 hQ39
    subst l39 y39 z39
    obtain ⟨rfl, N39q, eh39⟩ := hQ39
    have N39 := Fr.app N38 N39q
    refine own_via st39 ?_
    refine own_go (A := T39.setTop (mkF m 129 #[.val (.int p1), .val (.ref b1), .val (.int (2 : Int32)), .val (.ref ad2), .val (.int (1 : Int32)), .val (.int (1 : Int32))] [(.int (1 : Int32))])) (fun t_ k_ => ?_) ?_
    · show Steps p.tables e below (T39.setTop (mkF m 123 #[.val (.int p1), .val (.ref b1), .val (.int (2 : Int32)), .val (.ref ad2), .val (.int (1 : Int32)), .val (.int (1 : Int32))] [(.int (0 : Int32))])) t_
      refine XS.ifYes X39.here hx rfl (pc0 := 123) (pc' := 128) rfl (hb hby at_123) rfl ((if0 _ _).trans (teq (by decide : (0 : Int32) = (0 : Int32))).1) (by decide) (by decide) ?_
      show Steps p.tables e below (T39.setTop (mkF m 128 #[.val (.int p1), .val (.ref b1), .val (.int (2 : Int32)), .val (.ref ad2), .val (.int (1 : Int32)), .val (.int (1 : Int32))] [])) t_
      refine XS.iconst X39.here hx rfl (hb hby at_128) ?_
      exact k_
    obtain ⟨fs40, hr40, hrun40, hended40, hW40, hsame40⟩ := X39.leave (v := some (.int (1 : Int32))) (fun h => by rw [Bd.returns] at h; cases h)
    refine ⟨_, _, ?_, hrun40, hended40, _, _, rfl, ?_, ⟨_, rfl⟩, hW40, hsame40.mono (by decide) (by decide)⟩
    · exact retN X39 hx (t := .boolean) Bd.returns (by simp) (hb hby at_129) hr40
    · show Q_rm0 Z p1 ad0 ad1 ad2 ad3 ad4 ad5 ad6 ad7 ad8 h0 n0 _ T39.heap _
      rw [eh39]
      exact ⟨rfl, N39, K28⟩
  · rw [hm29]
    obtain ⟨cl41, Ar41, q41, S41, M41, H41, G41⟩ := B28
    have hin41 : ¬ ((3 : Int32) < 0 ∨ cl41.slots.size ≤ ((3 : Int32)).toNatClampNeg) := inb_of S41 ⟨by decide, by decide⟩
    have hat41 : cl41.slots[((3 : Int32)).toNatClampNeg]? = some (.ref ad3) := Has.at H41 hin41 rfl
    refine own_go (A := T28.setTop (mkF m 93 #[.val (.int p1), .val (.ref b1), .val (.int (3 : Int32)), .val (.ref ad3), .val (.int (1 : Int32)), .unset] [(.ref ad3)])) (fun t_ k_ => ?_) ?_
    · show Steps p.tables e below (T28.setTop (mkF m 70 #[.val (.int p1), .val (.ref b1), .unset, .unset, .unset, .unset] [(.int (3 : Int32))])) t_
      refine XS.istoreN X28.here hx rfl (hb hby at_70) rfl (l' := #[.val (.int p1), .val (.ref b1), .val (.int (3 : Int32)), .unset, .unset, .unset]) rfl ?_
      show Steps p.tables e below (T28.setTop (mkF m 71 #[.val (.int p1), .val (.ref b1), .val (.int (3 : Int32)), .unset, .unset, .unset] [])) t_
      refine XS.aloadN X28.here hx rfl (hb hby at_71) rfl rfl ?_
      show Steps p.tables e below (T28.setTop (mkF m 72 #[.val (.int p1), .val (.ref b1), .val (.int (3 : Int32)), .unset, .unset, .unset] [(.ref b1)])) t_
      refine XS.iloadN X28.here hx rfl (hb hby at_72) rfl ?_
      show Steps p.tables e below (T28.setTop (mkF m 73 #[.val (.int p1), .val (.ref b1), .val (.int (3 : Int32)), .unset, .unset, .unset] [(.int (3 : Int32)), (.ref b1)])) t_
      refine X28.aaload hx (j := (3 : Int32)) (v := (.ref ad3)) (by rw [e28]; exact Ar41.1) (State.isArrayOf_alike hZ.alike Ar41.2.1) rfl Ar41.2.2 hin41 hat41 (g := (mkF m 73 #[.val (.int p1), .val (.ref b1), .val (.int (3 : Int32)), .unset, .unset, .unset] [(.int (3 : Int32)), (.ref b1)])) rfl rfl (hb hby at_73) _ ?_
      show Steps p.tables e below (T28.setTop (mkF m 74 #[.val (.int p1), .val (.ref b1), .val (.int (3 : Int32)), .unset, .unset, .unset] [(.ref ad3)])) t_
      refine XS.astoreN X28.here hx rfl (hb hby at_74) rfl rfl (l' := #[.val (.int p1), .val (.ref b1), .val (.int (3 : Int32)), .val (.ref ad3), .unset, .unset]) rfl ?_
      show Steps p.tables e below (T28.setTop (mkF m 75 #[.val (.int p1), .val (.ref b1), .val (.int (3 : Int32)), .val (.ref ad3), .unset, .unset] [])) t_
      refine XS.iloadN X28.here hx rfl (hb hby at_75) rfl ?_
      show Steps p.tables e below (T28.setTop (mkF m 76 #[.val (.int p1), .val (.ref b1), .val (.int (3 : Int32)), .val (.ref ad3), .unset, .unset] [(.int (3 : Int32))])) t_
      refine XS.iconst X28.here hx rfl (hb hby at_76) ?_
      show Steps p.tables e below (T28.setTop (mkF m 77 #[.val (.int p1), .val (.ref b1), .val (.int (3 : Int32)), .val (.ref ad3), .unset, .unset] [(.int (2 : Int32)), (.int (3 : Int32))])) t_
      refine XS.icmpNo X28.here hx rfl (hb hby at_77) rfl (feq (by decide : ¬ ((3 : Int32) = (2 : Int32)))).1 ?_
      show Steps p.tables e below (T28.setTop (mkF m 80 #[.val (.int p1), .val (.ref b1), .val (.int (3 : Int32)), .val (.ref ad3), .unset, .unset] [])) t_
      refine XS.iloadN X28.here hx rfl (hb hby at_80) rfl ?_
      show Steps p.tables e below (T28.setTop (mkF m 81 #[.val (.int p1), .val (.ref b1), .val (.int (3 : Int32)), .val (.ref ad3), .unset, .unset] [(.int (3 : Int32))])) t_
      refine XS.iconst X28.here hx rfl (hb hby at_81) ?_
      show Steps p.tables e below (T28.setTop (mkF m 82 #[.val (.int p1), .val (.ref b1), .val (.int (3 : Int32)), .val (.ref ad3), .unset, .unset] [(.int (3 : Int32)), (.int (3 : Int32))])) t_
      refine XS.icmpNo X28.here hx rfl (hb hby at_82) rfl (teq (by decide : (3 : Int32) = (3 : Int32))).2 ?_
      show Steps p.tables e below (T28.setTop (mkF m 85 #[.val (.int p1), .val (.ref b1), .val (.int (3 : Int32)), .val (.ref ad3), .unset, .unset] [])) t_
      refine XS.iconst X28.here hx rfl (hb hby at_85) ?_
      show Steps p.tables e below (T28.setTop (mkF m 86 #[.val (.int p1), .val (.ref b1), .val (.int (3 : Int32)), .val (.ref ad3), .unset, .unset] [(.int (1 : Int32))])) t_
      refine XS.goto X28.here hx rfl (pc0 := 86) (pc' := 90) rfl (hb hby at_86) (by decide) (by decide) ?_
      show Steps p.tables e below (T28.setTop (mkF m 90 #[.val (.int p1), .val (.ref b1), .val (.int (3 : Int32)), .val (.ref ad3), .unset, .unset] [(.int (1 : Int32))])) t_
      refine XS.istore X28.here hx rfl (hb hby at_90) rfl (l' := #[.val (.int p1), .val (.ref b1), .val (.int (3 : Int32)), .val (.ref ad3), .val (.int (1 : Int32)), .unset]) rfl ?_
      show Steps p.tables e below (T28.setTop (mkF m 92 #[.val (.int p1), .val (.ref b1), .val (.int (3 : Int32)), .val (.ref ad3), .val (.int (1 : Int32)), .unset] [])) t_
      refine XS.aloadN X28.here hx rfl (hb hby at_92) rfl rfl ?_
      exact k_
    obtain ⟨cq42, kq42, q42a, q42b, q42c⟩ := isOf hZ e28 (u11.ext O28.2)
    obtain ⟨_, _, ⟨T42, L42, k42, n42⟩, -, X42, ⟨Lc42, hQ42, l42, y42, z42⟩, st42⟩ := X28.virtualBack hx (y := own_y0) (z := own_y0) hown (mvT hZ (own_w hw 23 rfl)) (mvT hZ (own_w hw 24 rfl)) (notFace_of_selects (args := #[]) (mvT hZ (own_w hw 26 rfl))) (mvT hZ (own_w hw 26 rfl)) (mvT hZ (own_w hw 25 rfl)) (by decide) (backOf (W := 0) (rmCred3 l Z a0 hw [] ad3 ad2 h28 n0 (Nat.le_trans Z0 K28.1) O28 u7 u10 (Fld.ne u12 u9 (by decide))) hZ (own_w hw 27 rfl) (own_w hw 3 rfl) (by decide) (by decide)) q42a q42c (g := (mkF m 93 #[.val (.int p1), .val (.ref b1), .val (.int (3 : Int32)), .val (.ref ad3), .val (.int (1 : Int32)), .unset] [(.ref ad3)])) rfl (by rw [hml]; rfl) (Steps.refl _) (argsL := []) (rest := []) (lenOf pd_0 rfl) rfl (by show 2 * 0 + _ ≤ _; exact Nat.le_of_eq rfl) (hb hby at_93) (fun _ _ => ⟨rfl, e28, (by decide : 1 + 0 ≤ _), (by decide : 9 + 0 ≤ _)⟩)
    dsimp only [Pt.U, Pt.locs, Pt.cells, Pt.slots] at X42 l42 y42 z42 st42 hQ42
    subst l42 y42 z42
    obtain ⟨rfl, N42q, eh42⟩ := hQ42
    have N42 := Fr.app N28 N42q
    refine own_via st42 ?_
    refine own_go (A := T42.setTop (mkF m 113 #[.val (.int p1), .val (.ref b1), .val (.int (3 : Int32)), .val (.ref ad3), .val (.int (1 : Int32)), .val (.int (1 : Int32))] [(.ref ad3)])) (fun t_ k_ => ?_) ?_
    · show Steps p.tables e below (T42.setTop (mkF m 96 #[.val (.int p1), .val (.ref b1), .val (.int (3 : Int32)), .val (.ref ad3), .val (.int (1 : Int32)), .unset] [(.int (1 : Int32))])) t_
      refine XS.istore X42.here hx rfl (hb hby at_96) rfl (l' := #[.val (.int p1), .val (.ref b1), .val (.int (3 : Int32)), .val (.ref ad3), .val (.int (1 : Int32)), .val (.int (1 : Int32))]) rfl ?_
      show Steps p.tables e below (T42.setTop (mkF m 98 #[.val (.int p1), .val (.ref b1), .val (.int (3 : Int32)), .val (.ref ad3), .val (.int (1 : Int32)), .val (.int (1 : Int32))] [])) t_
      refine XS.iload X42.here hx rfl (hb hby at_98) rfl ?_
      show Steps p.tables e below (T42.setTop (mkF m 100 #[.val (.int p1), .val (.ref b1), .val (.int (3 : Int32)), .val (.ref ad3), .val (.int (1 : Int32)), .val (.int (1 : Int32))] [(.int (1 : Int32))])) t_
      refine XS.iload X42.here hx rfl (hb hby at_100) rfl ?_
      show Steps p.tables e below (T42.setTop (mkF m 102 #[.val (.int p1), .val (.ref b1), .val (.int (3 : Int32)), .val (.ref ad3), .val (.int (1 : Int32)), .val (.int (1 : Int32))] [(.int (1 : Int32)), (.int (1 : Int32))])) t_
      refine XS.icmpYes X42.here hx rfl (pc0 := 102) (pc' := 107) rfl (hb hby at_102) rfl (teq (by decide : (1 : Int32) = (1 : Int32))).1 (by decide) (by decide) ?_
      show Steps p.tables e below (T42.setTop (mkF m 107 #[.val (.int p1), .val (.ref b1), .val (.int (3 : Int32)), .val (.ref ad3), .val (.int (1 : Int32)), .val (.int (1 : Int32))] [])) t_
      refine XS.iload X42.here hx rfl (hb hby at_107) rfl ?_
      show Steps p.tables e below (T42.setTop (mkF m 109 #[.val (.int p1), .val (.ref b1), .val (.int (3 : Int32)), .val (.ref ad3), .val (.int (1 : Int32)), .val (.int (1 : Int32))] [(.int (1 : Int32))])) t_
      refine XS.ifNo X42.here hx rfl (hb hby at_109) rfl ((if0 _ _).trans (feq (by decide : ¬ ((1 : Int32) = (0 : Int32)))).1) ?_
      show Steps p.tables e below (T42.setTop (mkF m 112 #[.val (.int p1), .val (.ref b1), .val (.int (3 : Int32)), .val (.ref ad3), .val (.int (1 : Int32)), .val (.int (1 : Int32))] [])) t_
      refine XS.aloadN X42.here hx rfl (hb hby at_112) rfl rfl ?_
      exact k_
    obtain ⟨cq43, kq43, q43a, q43b, q43c⟩ := isOf hZ eh42 (u11.ext O28.2)
    obtain ⟨_, _, ⟨T43, L43, k43, n43⟩, -, X43, ⟨Lc43, hQ43, l43, y43, z43⟩, st43⟩ := X42.virtualBack hx (y := own_y1) (z := own_y1) hown (mvT hZ (own_w hw 30 rfl)) (mvT hZ (own_w hw 31 rfl)) (notFace_of_selects (args := #[]) (mvT hZ (own_w hw 33 rfl))) (mvT hZ (own_w hw 33 rfl)) (mvT hZ (own_w hw 32 rfl)) (by decide) (backOf (W := 0) (rmPaid3 l Z a0 hw [] ad3 ad5 ad6 h28 n0 (Nat.le_trans Z0 K28.1) O28 u16 u19 (Fld.ne u12 u18 (by decide)) (Fld.ne u12 u21 (by decide))) hZ (own_w hw 34 rfl) (own_w hw 3 rfl) (by decide) (by decide)) q43a q43c (g := (mkF m 113 #[.val (.int p1), .val (.ref b1), .val (.int (3 : Int32)), .val (.ref ad3), .val (.int (1 : Int32)), .val (.int (1 : Int32))] [(.ref ad3)])) rfl (by rw [hml]; rfl) (Steps.refl _) (argsL := []) (rest := []) (lenOf pd_0 rfl) rfl (by show 2 * 0 + _ ≤ _; exact Nat.le_of_eq rfl) (hb hby at_113) (fun _ _ => ⟨rfl, eh42, (by decide : 1 + 0 ≤ _), (by decide : 9 + 0 ≤ _)⟩)
    dsimp only [Pt.U, Pt.locs, Pt.cells, Pt.slots] at X43 l43 y43 z43 st43 hQ43
    subst l43 y43 z43
    obtain ⟨rfl, N43q, eh43⟩ := hQ43
    have N43 := Fr.app N42 N43q
    refine own_via st43 ?_
    refine own_go (A := T43.setTop (mkF m 120 #[.val (.int p1), .val (.ref b1), .val (.int (3 : Int32)), .val (.ref ad3), .val (.int (1 : Int32)), .val (.int (1 : Int32))] [(.ref ad3)])) (fun t_ k_ => ?_) ?_
    · show Steps p.tables e below (T43.setTop (mkF m 116 #[.val (.int p1), .val (.ref b1), .val (.int (3 : Int32)), .val (.ref ad3), .val (.int (1 : Int32)), .val (.int (1 : Int32))] [(.int (1 : Int32))])) t_
      refine XS.ifNo X43.here hx rfl (hb hby at_116) rfl ((if0 _ _).trans (feq (by decide : ¬ ((1 : Int32) = (0 : Int32)))).1) ?_
      show Steps p.tables e below (T43.setTop (mkF m 119 #[.val (.int p1), .val (.ref b1), .val (.int (3 : Int32)), .val (.ref ad3), .val (.int (1 : Int32)), .val (.int (1 : Int32))] [])) t_
      refine XS.aloadN X43.here hx rfl (hb hby at_119) rfl rfl ?_
      exact k_
    obtain ⟨cq44, kq44, q44a, q44b, q44c⟩ := isOf hZ eh43 (u11.ext O28.2)
    obtain ⟨_, _, ⟨T44, L44, k44, n44⟩, -, X44, ⟨Lc44, hQ44, l44, y44, z44⟩, st44⟩ := X43.virtualBack hx (y := own_y2) (z := own_y2) hown (mvT hZ (own_w hw 37 rfl)) (mvT hZ (own_w hw 38 rfl)) (notFace_of_selects (args := #[]) (mvT hZ (own_w hw 40 rfl))) (mvT hZ (own_w hw 40 rfl)) (mvT hZ (own_w hw 39 rfl)) (by decide) (backOf (W := 0) (rmRed3 l Z a0 hw [] ad3 ad0 ad1 h28 n0 (Nat.le_trans Z0 K28.1) O28 u1 u4 (Fld.ne u12 u3 (by decide)) (Fld.ne u12 u6 (by decide))) hZ (own_w hw 41 rfl) (own_w hw 3 rfl) (by decide) (by decide)) q44a q44c (g := (mkF m 120 #[.val (.int p1), .val (.ref b1), .val (.int (3 : Int32)), .val (.ref ad3), .val (.int (1 : Int32)), .val (.int (1 : Int32))] [(.ref ad3)])) rfl (by rw [hml]; rfl) (Steps.refl _) (argsL := []) (rest := []) (lenOf pd_0 rfl) rfl (by show 2 * 0 + _ ≤ _; exact Nat.le_of_eq rfl) (hb hby at_120) (fun _ _ => ⟨rfl, eh43, (by decide : 1 + 0 ≤ _), (by decide : 9 + 0 ≤ _)⟩)
    dsimp only [Pt.U, Pt.locs, Pt.cells, Pt.slots] at X44 l44 y44 z44 st44 hQ44
    subst l44 y44 z44
    obtain ⟨rfl, N44q, eh44⟩ := hQ44
    have N44 := Fr.app N43 N44q
    refine own_via st44 ?_
    refine own_go (A := T44.setTop (mkF m 129 #[.val (.int p1), .val (.ref b1), .val (.int (3 : Int32)), .val (.ref ad3), .val (.int (1 : Int32)), .val (.int (1 : Int32))] [(.int (1 : Int32))])) (fun t_ k_ => ?_) ?_
    · show Steps p.tables e below (T44.setTop (mkF m 123 #[.val (.int p1), .val (.ref b1), .val (.int (3 : Int32)), .val (.ref ad3), .val (.int (1 : Int32)), .val (.int (1 : Int32))] [(.int (0 : Int32))])) t_
      refine XS.ifYes X44.here hx rfl (pc0 := 123) (pc' := 128) rfl (hb hby at_123) rfl ((if0 _ _).trans (teq (by decide : (0 : Int32) = (0 : Int32))).1) (by decide) (by decide) ?_
      show Steps p.tables e below (T44.setTop (mkF m 128 #[.val (.int p1), .val (.ref b1), .val (.int (3 : Int32)), .val (.ref ad3), .val (.int (1 : Int32)), .val (.int (1 : Int32))] [])) t_
      refine XS.iconst X44.here hx rfl (hb hby at_128) ?_
      exact k_
    obtain ⟨fs45, hr45, hrun45, hended45, hW45, hsame45⟩ := X44.leave (v := some (.int (1 : Int32))) (fun h => by rw [Bd.returns] at h; cases h)
    refine ⟨_, _, ?_, hrun45, hended45, _, _, rfl, ?_, ⟨_, rfl⟩, hW45, hsame45.mono (by decide) (by decide)⟩
    · exact retN X44 hx (t := .boolean) Bd.returns (by simp) (hb hby at_129) hr45
    · show Q_rm0 Z p1 ad0 ad1 ad2 ad3 ad4 ad5 ad6 ad7 ad8 h0 n0 _ T44.heap _
      rw [eh44]
      exact ⟨rfl, N44, K28⟩
  · rw [hm29]
    obtain ⟨cl46, Ar46, q46, S46, M46, H46, G46⟩ := B28
    have hin46 : ¬ ((4 : Int32) < 0 ∨ cl46.slots.size ≤ ((4 : Int32)).toNatClampNeg) := inb_of S46 ⟨by decide, by decide⟩
    have hat46 : cl46.slots[((4 : Int32)).toNatClampNeg]? = some (.ref ad4) := Has.at H46 hin46 rfl
    refine own_go (A := T28.setTop (mkF m 93 #[.val (.int p1), .val (.ref b1), .val (.int (4 : Int32)), .val (.ref ad4), .val (.int (0 : Int32)), .unset] [(.ref ad4)])) (fun t_ k_ => ?_) ?_
    · show Steps p.tables e below (T28.setTop (mkF m 70 #[.val (.int p1), .val (.ref b1), .unset, .unset, .unset, .unset] [(.int (4 : Int32))])) t_
      refine XS.istoreN X28.here hx rfl (hb hby at_70) rfl (l' := #[.val (.int p1), .val (.ref b1), .val (.int (4 : Int32)), .unset, .unset, .unset]) rfl ?_
      show Steps p.tables e below (T28.setTop (mkF m 71 #[.val (.int p1), .val (.ref b1), .val (.int (4 : Int32)), .unset, .unset, .unset] [])) t_
      refine XS.aloadN X28.here hx rfl (hb hby at_71) rfl rfl ?_
      show Steps p.tables e below (T28.setTop (mkF m 72 #[.val (.int p1), .val (.ref b1), .val (.int (4 : Int32)), .unset, .unset, .unset] [(.ref b1)])) t_
      refine XS.iloadN X28.here hx rfl (hb hby at_72) rfl ?_
      show Steps p.tables e below (T28.setTop (mkF m 73 #[.val (.int p1), .val (.ref b1), .val (.int (4 : Int32)), .unset, .unset, .unset] [(.int (4 : Int32)), (.ref b1)])) t_
      refine X28.aaload hx (j := (4 : Int32)) (v := (.ref ad4)) (by rw [e28]; exact Ar46.1) (State.isArrayOf_alike hZ.alike Ar46.2.1) rfl Ar46.2.2 hin46 hat46 (g := (mkF m 73 #[.val (.int p1), .val (.ref b1), .val (.int (4 : Int32)), .unset, .unset, .unset] [(.int (4 : Int32)), (.ref b1)])) rfl rfl (hb hby at_73) _ ?_
      show Steps p.tables e below (T28.setTop (mkF m 74 #[.val (.int p1), .val (.ref b1), .val (.int (4 : Int32)), .unset, .unset, .unset] [(.ref ad4)])) t_
      refine XS.astoreN X28.here hx rfl (hb hby at_74) rfl rfl (l' := #[.val (.int p1), .val (.ref b1), .val (.int (4 : Int32)), .val (.ref ad4), .unset, .unset]) rfl ?_
      show Steps p.tables e below (T28.setTop (mkF m 75 #[.val (.int p1), .val (.ref b1), .val (.int (4 : Int32)), .val (.ref ad4), .unset, .unset] [])) t_
      refine XS.iloadN X28.here hx rfl (hb hby at_75) rfl ?_
      show Steps p.tables e below (T28.setTop (mkF m 76 #[.val (.int p1), .val (.ref b1), .val (.int (4 : Int32)), .val (.ref ad4), .unset, .unset] [(.int (4 : Int32))])) t_
      refine XS.iconst X28.here hx rfl (hb hby at_76) ?_
      show Steps p.tables e below (T28.setTop (mkF m 77 #[.val (.int p1), .val (.ref b1), .val (.int (4 : Int32)), .val (.ref ad4), .unset, .unset] [(.int (2 : Int32)), (.int (4 : Int32))])) t_
      refine XS.icmpNo X28.here hx rfl (hb hby at_77) rfl (feq (by decide : ¬ ((4 : Int32) = (2 : Int32)))).1 ?_
      show Steps p.tables e below (T28.setTop (mkF m 80 #[.val (.int p1), .val (.ref b1), .val (.int (4 : Int32)), .val (.ref ad4), .unset, .unset] [])) t_
      refine XS.iloadN X28.here hx rfl (hb hby at_80) rfl ?_
      show Steps p.tables e below (T28.setTop (mkF m 81 #[.val (.int p1), .val (.ref b1), .val (.int (4 : Int32)), .val (.ref ad4), .unset, .unset] [(.int (4 : Int32))])) t_
      refine XS.iconst X28.here hx rfl (hb hby at_81) ?_
      show Steps p.tables e below (T28.setTop (mkF m 82 #[.val (.int p1), .val (.ref b1), .val (.int (4 : Int32)), .val (.ref ad4), .unset, .unset] [(.int (3 : Int32)), (.int (4 : Int32))])) t_
      refine XS.icmpYes X28.here hx rfl (pc0 := 82) (pc' := 89) rfl (hb hby at_82) rfl (feq (by decide : ¬ ((4 : Int32) = (3 : Int32)))).2 (by decide) (by decide) ?_
      show Steps p.tables e below (T28.setTop (mkF m 89 #[.val (.int p1), .val (.ref b1), .val (.int (4 : Int32)), .val (.ref ad4), .unset, .unset] [])) t_
      refine XS.iconst X28.here hx rfl (hb hby at_89) ?_
      show Steps p.tables e below (T28.setTop (mkF m 90 #[.val (.int p1), .val (.ref b1), .val (.int (4 : Int32)), .val (.ref ad4), .unset, .unset] [(.int (0 : Int32))])) t_
      refine XS.istore X28.here hx rfl (hb hby at_90) rfl (l' := #[.val (.int p1), .val (.ref b1), .val (.int (4 : Int32)), .val (.ref ad4), .val (.int (0 : Int32)), .unset]) rfl ?_
      show Steps p.tables e below (T28.setTop (mkF m 92 #[.val (.int p1), .val (.ref b1), .val (.int (4 : Int32)), .val (.ref ad4), .val (.int (0 : Int32)), .unset] [])) t_
      refine XS.aloadN X28.here hx rfl (hb hby at_92) rfl rfl ?_
      exact k_
    obtain ⟨cq47, kq47, q47a, q47b, q47c⟩ := isOf hZ e28 (u14.ext O28.2)
    obtain ⟨_, _, ⟨T47, L47, k47, n47⟩, -, X47, ⟨Lc47, hQ47, l47, y47, z47⟩, st47⟩ := X28.virtualBack hx (y := own_y0) (z := own_y0) hown (mvT hZ (own_w hw 23 rfl)) (mvT hZ (own_w hw 24 rfl)) (notFace_of_selects (args := #[]) (mvT hZ (own_w hw 26 rfl))) (mvT hZ (own_w hw 26 rfl)) (mvT hZ (own_w hw 25 rfl)) (by decide) (backOf (W := 0) (rmCred4 l Z a0 hw [] ad4 ad2 ad3 h28 n0 (Nat.le_trans Z0 K28.1) O28 u7 u10 (Fld.ne u15 u9 (by decide)) (Fld.ne u15 u12 (by decide))) hZ (own_w hw 27 rfl) (own_w hw 3 rfl) (by decide) (by decide)) q47a q47c (g := (mkF m 93 #[.val (.int p1), .val (.ref b1), .val (.int (4 : Int32)), .val (.ref ad4), .val (.int (0 : Int32)), .unset] [(.ref ad4)])) rfl (by rw [hml]; rfl) (Steps.refl _) (argsL := []) (rest := []) (lenOf pd_0 rfl) rfl (by show 2 * 0 + _ ≤ _; exact Nat.le_of_eq rfl) (hb hby at_93) (fun _ _ => ⟨rfl, e28, (by decide : 1 + 0 ≤ _), (by decide : 9 + 0 ≤ _)⟩)
    dsimp only [Pt.U, Pt.locs, Pt.cells, Pt.slots] at X47 l47 y47 z47 st47 hQ47
    subst l47 y47 z47
    obtain ⟨rfl, N47q, eh47⟩ := hQ47
    have N47 := Fr.app N28 N47q
    refine own_via st47 ?_
    refine own_go (A := T47.setTop (mkF m 129 #[.val (.int p1), .val (.ref b1), .val (.int (4 : Int32)), .val (.ref ad4), .val (.int (0 : Int32)), .val (.int (0 : Int32))] [(.int (1 : Int32))])) (fun t_ k_ => ?_) ?_
    · show Steps p.tables e below (T47.setTop (mkF m 96 #[.val (.int p1), .val (.ref b1), .val (.int (4 : Int32)), .val (.ref ad4), .val (.int (0 : Int32)), .unset] [(.int (0 : Int32))])) t_
      refine XS.istore X47.here hx rfl (hb hby at_96) rfl (l' := #[.val (.int p1), .val (.ref b1), .val (.int (4 : Int32)), .val (.ref ad4), .val (.int (0 : Int32)), .val (.int (0 : Int32))]) rfl ?_
      show Steps p.tables e below (T47.setTop (mkF m 98 #[.val (.int p1), .val (.ref b1), .val (.int (4 : Int32)), .val (.ref ad4), .val (.int (0 : Int32)), .val (.int (0 : Int32))] [])) t_
      refine XS.iload X47.here hx rfl (hb hby at_98) rfl ?_
      show Steps p.tables e below (T47.setTop (mkF m 100 #[.val (.int p1), .val (.ref b1), .val (.int (4 : Int32)), .val (.ref ad4), .val (.int (0 : Int32)), .val (.int (0 : Int32))] [(.int (0 : Int32))])) t_
      refine XS.iload X47.here hx rfl (hb hby at_100) rfl ?_
      show Steps p.tables e below (T47.setTop (mkF m 102 #[.val (.int p1), .val (.ref b1), .val (.int (4 : Int32)), .val (.ref ad4), .val (.int (0 : Int32)), .val (.int (0 : Int32))] [(.int (0 : Int32)), (.int (0 : Int32))])) t_
      refine XS.icmpYes X47.here hx rfl (pc0 := 102) (pc' := 107) rfl (hb hby at_102) rfl (teq (by decide : (0 : Int32) = (0 : Int32))).1 (by decide) (by decide) ?_
      show Steps p.tables e below (T47.setTop (mkF m 107 #[.val (.int p1), .val (.ref b1), .val (.int (4 : Int32)), .val (.ref ad4), .val (.int (0 : Int32)), .val (.int (0 : Int32))] [])) t_
      refine XS.iload X47.here hx rfl (hb hby at_107) rfl ?_
      show Steps p.tables e below (T47.setTop (mkF m 109 #[.val (.int p1), .val (.ref b1), .val (.int (4 : Int32)), .val (.ref ad4), .val (.int (0 : Int32)), .val (.int (0 : Int32))] [(.int (0 : Int32))])) t_
      refine XS.ifYes X47.here hx rfl (pc0 := 109) (pc' := 128) rfl (hb hby at_109) rfl ((if0 _ _).trans (teq (by decide : (0 : Int32) = (0 : Int32))).1) (by decide) (by decide) ?_
      show Steps p.tables e below (T47.setTop (mkF m 128 #[.val (.int p1), .val (.ref b1), .val (.int (4 : Int32)), .val (.ref ad4), .val (.int (0 : Int32)), .val (.int (0 : Int32))] [])) t_
      refine XS.iconst X47.here hx rfl (hb hby at_128) ?_
      exact k_
    obtain ⟨fs48, hr48, hrun48, hended48, hW48, hsame48⟩ := X47.leave (v := some (.int (1 : Int32))) (fun h => by rw [Bd.returns] at h; cases h)
    refine ⟨_, _, ?_, hrun48, hended48, _, _, rfl, ?_, ⟨_, rfl⟩, hW48, hsame48.mono (by decide) (by decide)⟩
    · exact retN X47 hx (t := .boolean) Bd.returns (by simp) (hb hby at_129) hr48
    · show Q_rm0 Z p1 ad0 ad1 ad2 ad3 ad4 ad5 ad6 ad7 ad8 h0 n0 _ T47.heap _
      rw [eh47]
      exact ⟨rfl, N47, K28⟩
  · rw [hm29]
    obtain ⟨cl49, Ar49, q49, S49, M49, H49, G49⟩ := B28
    have hin49 : ¬ ((5 : Int32) < 0 ∨ cl49.slots.size ≤ ((5 : Int32)).toNatClampNeg) := inb_of S49 ⟨by decide, by decide⟩
    have hat49 : cl49.slots[((5 : Int32)).toNatClampNeg]? = some (.ref ad5) := Has.at H49 hin49 rfl
    refine own_go (A := T28.setTop (mkF m 93 #[.val (.int p1), .val (.ref b1), .val (.int (5 : Int32)), .val (.ref ad5), .val (.int (0 : Int32)), .unset] [(.ref ad5)])) (fun t_ k_ => ?_) ?_
    · show Steps p.tables e below (T28.setTop (mkF m 70 #[.val (.int p1), .val (.ref b1), .unset, .unset, .unset, .unset] [(.int (5 : Int32))])) t_
      refine XS.istoreN X28.here hx rfl (hb hby at_70) rfl (l' := #[.val (.int p1), .val (.ref b1), .val (.int (5 : Int32)), .unset, .unset, .unset]) rfl ?_
      show Steps p.tables e below (T28.setTop (mkF m 71 #[.val (.int p1), .val (.ref b1), .val (.int (5 : Int32)), .unset, .unset, .unset] [])) t_
      refine XS.aloadN X28.here hx rfl (hb hby at_71) rfl rfl ?_
      show Steps p.tables e below (T28.setTop (mkF m 72 #[.val (.int p1), .val (.ref b1), .val (.int (5 : Int32)), .unset, .unset, .unset] [(.ref b1)])) t_
      refine XS.iloadN X28.here hx rfl (hb hby at_72) rfl ?_
      show Steps p.tables e below (T28.setTop (mkF m 73 #[.val (.int p1), .val (.ref b1), .val (.int (5 : Int32)), .unset, .unset, .unset] [(.int (5 : Int32)), (.ref b1)])) t_
      refine X28.aaload hx (j := (5 : Int32)) (v := (.ref ad5)) (by rw [e28]; exact Ar49.1) (State.isArrayOf_alike hZ.alike Ar49.2.1) rfl Ar49.2.2 hin49 hat49 (g := (mkF m 73 #[.val (.int p1), .val (.ref b1), .val (.int (5 : Int32)), .unset, .unset, .unset] [(.int (5 : Int32)), (.ref b1)])) rfl rfl (hb hby at_73) _ ?_
      show Steps p.tables e below (T28.setTop (mkF m 74 #[.val (.int p1), .val (.ref b1), .val (.int (5 : Int32)), .unset, .unset, .unset] [(.ref ad5)])) t_
      refine XS.astoreN X28.here hx rfl (hb hby at_74) rfl rfl (l' := #[.val (.int p1), .val (.ref b1), .val (.int (5 : Int32)), .val (.ref ad5), .unset, .unset]) rfl ?_
      show Steps p.tables e below (T28.setTop (mkF m 75 #[.val (.int p1), .val (.ref b1), .val (.int (5 : Int32)), .val (.ref ad5), .unset, .unset] [])) t_
      refine XS.iloadN X28.here hx rfl (hb hby at_75) rfl ?_
      show Steps p.tables e below (T28.setTop (mkF m 76 #[.val (.int p1), .val (.ref b1), .val (.int (5 : Int32)), .val (.ref ad5), .unset, .unset] [(.int (5 : Int32))])) t_
      refine XS.iconst X28.here hx rfl (hb hby at_76) ?_
      show Steps p.tables e below (T28.setTop (mkF m 77 #[.val (.int p1), .val (.ref b1), .val (.int (5 : Int32)), .val (.ref ad5), .unset, .unset] [(.int (2 : Int32)), (.int (5 : Int32))])) t_
      refine XS.icmpNo X28.here hx rfl (hb hby at_77) rfl (feq (by decide : ¬ ((5 : Int32) = (2 : Int32)))).1 ?_
      show Steps p.tables e below (T28.setTop (mkF m 80 #[.val (.int p1), .val (.ref b1), .val (.int (5 : Int32)), .val (.ref ad5), .unset, .unset] [])) t_
      refine XS.iloadN X28.here hx rfl (hb hby at_80) rfl ?_
      show Steps p.tables e below (T28.setTop (mkF m 81 #[.val (.int p1), .val (.ref b1), .val (.int (5 : Int32)), .val (.ref ad5), .unset, .unset] [(.int (5 : Int32))])) t_
      refine XS.iconst X28.here hx rfl (hb hby at_81) ?_
      show Steps p.tables e below (T28.setTop (mkF m 82 #[.val (.int p1), .val (.ref b1), .val (.int (5 : Int32)), .val (.ref ad5), .unset, .unset] [(.int (3 : Int32)), (.int (5 : Int32))])) t_
      refine XS.icmpYes X28.here hx rfl (pc0 := 82) (pc' := 89) rfl (hb hby at_82) rfl (feq (by decide : ¬ ((5 : Int32) = (3 : Int32)))).2 (by decide) (by decide) ?_
      show Steps p.tables e below (T28.setTop (mkF m 89 #[.val (.int p1), .val (.ref b1), .val (.int (5 : Int32)), .val (.ref ad5), .unset, .unset] [])) t_
      refine XS.iconst X28.here hx rfl (hb hby at_89) ?_
      show Steps p.tables e below (T28.setTop (mkF m 90 #[.val (.int p1), .val (.ref b1), .val (.int (5 : Int32)), .val (.ref ad5), .unset, .unset] [(.int (0 : Int32))])) t_
      refine XS.istore X28.here hx rfl (hb hby at_90) rfl (l' := #[.val (.int p1), .val (.ref b1), .val (.int (5 : Int32)), .val (.ref ad5), .val (.int (0 : Int32)), .unset]) rfl ?_
      show Steps p.tables e below (T28.setTop (mkF m 92 #[.val (.int p1), .val (.ref b1), .val (.int (5 : Int32)), .val (.ref ad5), .val (.int (0 : Int32)), .unset] [])) t_
      refine XS.aloadN X28.here hx rfl (hb hby at_92) rfl rfl ?_
      exact k_
    obtain ⟨cq50, kq50, q50a, q50b, q50c⟩ := isOf hZ e28 (u17.ext O28.2)
    obtain ⟨_, _, ⟨T50, L50, k50, n50⟩, -, X50, ⟨Lc50, hQ50, l50, y50, z50⟩, st50⟩ := X28.virtualBack hx (y := own_y0) (z := own_y0) hown (mvT hZ (own_w hw 23 rfl)) (mvT hZ (own_w hw 24 rfl)) (notFace_of_selects (args := #[]) (mvT hZ (own_w hw 26 rfl))) (mvT hZ (own_w hw 26 rfl)) (mvT hZ (own_w hw 25 rfl)) (by decide) (backOf (W := 0) (rmCred5 l Z a0 hw [] ad5 ad2 ad3 h28 n0 (Nat.le_trans Z0 K28.1) O28 u7 u10 (Fld.ne u18 u9 (by decide)) (Fld.ne u18 u12 (by decide))) hZ (own_w hw 27 rfl) (own_w hw 3 rfl) (by decide) (by decide)) q50a q50c (g := (mkF m 93 #[.val (.int p1), .val (.ref b1), .val (.int (5 : Int32)), .val (.ref ad5), .val (.int (0 : Int32)), .unset] [(.ref ad5)])) rfl (by rw [hml]; rfl) (Steps.refl _) (argsL := []) (rest := []) (lenOf pd_0 rfl) rfl (by show 2 * 0 + _ ≤ _; exact Nat.le_of_eq rfl) (hb hby at_93) (fun _ _ => ⟨rfl, e28, (by decide : 1 + 0 ≤ _), (by decide : 9 + 0 ≤ _)⟩)
    dsimp only [Pt.U, Pt.locs, Pt.cells, Pt.slots] at X50 l50 y50 z50 st50 hQ50
    subst l50 y50 z50
    obtain ⟨rfl, N50q, eh50⟩ := hQ50
    have N50 := Fr.app N28 N50q
    refine own_via st50 ?_
    refine own_go (A := T50.setTop (mkF m 129 #[.val (.int p1), .val (.ref b1), .val (.int (5 : Int32)), .val (.ref ad5), .val (.int (0 : Int32)), .val (.int (0 : Int32))] [(.int (1 : Int32))])) (fun t_ k_ => ?_) ?_
    · show Steps p.tables e below (T50.setTop (mkF m 96 #[.val (.int p1), .val (.ref b1), .val (.int (5 : Int32)), .val (.ref ad5), .val (.int (0 : Int32)), .unset] [(.int (0 : Int32))])) t_
      refine XS.istore X50.here hx rfl (hb hby at_96) rfl (l' := #[.val (.int p1), .val (.ref b1), .val (.int (5 : Int32)), .val (.ref ad5), .val (.int (0 : Int32)), .val (.int (0 : Int32))]) rfl ?_
      show Steps p.tables e below (T50.setTop (mkF m 98 #[.val (.int p1), .val (.ref b1), .val (.int (5 : Int32)), .val (.ref ad5), .val (.int (0 : Int32)), .val (.int (0 : Int32))] [])) t_
      refine XS.iload X50.here hx rfl (hb hby at_98) rfl ?_
      show Steps p.tables e below (T50.setTop (mkF m 100 #[.val (.int p1), .val (.ref b1), .val (.int (5 : Int32)), .val (.ref ad5), .val (.int (0 : Int32)), .val (.int (0 : Int32))] [(.int (0 : Int32))])) t_
      refine XS.iload X50.here hx rfl (hb hby at_100) rfl ?_
      show Steps p.tables e below (T50.setTop (mkF m 102 #[.val (.int p1), .val (.ref b1), .val (.int (5 : Int32)), .val (.ref ad5), .val (.int (0 : Int32)), .val (.int (0 : Int32))] [(.int (0 : Int32)), (.int (0 : Int32))])) t_
      refine XS.icmpYes X50.here hx rfl (pc0 := 102) (pc' := 107) rfl (hb hby at_102) rfl (teq (by decide : (0 : Int32) = (0 : Int32))).1 (by decide) (by decide) ?_
      show Steps p.tables e below (T50.setTop (mkF m 107 #[.val (.int p1), .val (.ref b1), .val (.int (5 : Int32)), .val (.ref ad5), .val (.int (0 : Int32)), .val (.int (0 : Int32))] [])) t_
      refine XS.iload X50.here hx rfl (hb hby at_107) rfl ?_
      show Steps p.tables e below (T50.setTop (mkF m 109 #[.val (.int p1), .val (.ref b1), .val (.int (5 : Int32)), .val (.ref ad5), .val (.int (0 : Int32)), .val (.int (0 : Int32))] [(.int (0 : Int32))])) t_
      refine XS.ifYes X50.here hx rfl (pc0 := 109) (pc' := 128) rfl (hb hby at_109) rfl ((if0 _ _).trans (teq (by decide : (0 : Int32) = (0 : Int32))).1) (by decide) (by decide) ?_
      show Steps p.tables e below (T50.setTop (mkF m 128 #[.val (.int p1), .val (.ref b1), .val (.int (5 : Int32)), .val (.ref ad5), .val (.int (0 : Int32)), .val (.int (0 : Int32))] [])) t_
      refine XS.iconst X50.here hx rfl (hb hby at_128) ?_
      exact k_
    obtain ⟨fs51, hr51, hrun51, hended51, hW51, hsame51⟩ := X50.leave (v := some (.int (1 : Int32))) (fun h => by rw [Bd.returns] at h; cases h)
    refine ⟨_, _, ?_, hrun51, hended51, _, _, rfl, ?_, ⟨_, rfl⟩, hW51, hsame51.mono (by decide) (by decide)⟩
    · exact retN X50 hx (t := .boolean) Bd.returns (by simp) (hb hby at_129) hr51
    · show Q_rm0 Z p1 ad0 ad1 ad2 ad3 ad4 ad5 ad6 ad7 ad8 h0 n0 _ T50.heap _
      rw [eh50]
      exact ⟨rfl, N50, K28⟩
  · rw [hm29]
    obtain ⟨cl52, Ar52, q52, S52, M52, H52, G52⟩ := B28
    have hin52 : ¬ ((6 : Int32) < 0 ∨ cl52.slots.size ≤ ((6 : Int32)).toNatClampNeg) := inb_of S52 ⟨by decide, by decide⟩
    have hat52 : cl52.slots[((6 : Int32)).toNatClampNeg]? = some (.ref ad6) := Has.at H52 hin52 rfl
    refine own_go (A := T28.setTop (mkF m 93 #[.val (.int p1), .val (.ref b1), .val (.int (6 : Int32)), .val (.ref ad6), .val (.int (0 : Int32)), .unset] [(.ref ad6)])) (fun t_ k_ => ?_) ?_
    · show Steps p.tables e below (T28.setTop (mkF m 70 #[.val (.int p1), .val (.ref b1), .unset, .unset, .unset, .unset] [(.int (6 : Int32))])) t_
      refine XS.istoreN X28.here hx rfl (hb hby at_70) rfl (l' := #[.val (.int p1), .val (.ref b1), .val (.int (6 : Int32)), .unset, .unset, .unset]) rfl ?_
      show Steps p.tables e below (T28.setTop (mkF m 71 #[.val (.int p1), .val (.ref b1), .val (.int (6 : Int32)), .unset, .unset, .unset] [])) t_
      refine XS.aloadN X28.here hx rfl (hb hby at_71) rfl rfl ?_
      show Steps p.tables e below (T28.setTop (mkF m 72 #[.val (.int p1), .val (.ref b1), .val (.int (6 : Int32)), .unset, .unset, .unset] [(.ref b1)])) t_
      refine XS.iloadN X28.here hx rfl (hb hby at_72) rfl ?_
      show Steps p.tables e below (T28.setTop (mkF m 73 #[.val (.int p1), .val (.ref b1), .val (.int (6 : Int32)), .unset, .unset, .unset] [(.int (6 : Int32)), (.ref b1)])) t_
      refine X28.aaload hx (j := (6 : Int32)) (v := (.ref ad6)) (by rw [e28]; exact Ar52.1) (State.isArrayOf_alike hZ.alike Ar52.2.1) rfl Ar52.2.2 hin52 hat52 (g := (mkF m 73 #[.val (.int p1), .val (.ref b1), .val (.int (6 : Int32)), .unset, .unset, .unset] [(.int (6 : Int32)), (.ref b1)])) rfl rfl (hb hby at_73) _ ?_
      show Steps p.tables e below (T28.setTop (mkF m 74 #[.val (.int p1), .val (.ref b1), .val (.int (6 : Int32)), .unset, .unset, .unset] [(.ref ad6)])) t_
      refine XS.astoreN X28.here hx rfl (hb hby at_74) rfl rfl (l' := #[.val (.int p1), .val (.ref b1), .val (.int (6 : Int32)), .val (.ref ad6), .unset, .unset]) rfl ?_
      show Steps p.tables e below (T28.setTop (mkF m 75 #[.val (.int p1), .val (.ref b1), .val (.int (6 : Int32)), .val (.ref ad6), .unset, .unset] [])) t_
      refine XS.iloadN X28.here hx rfl (hb hby at_75) rfl ?_
      show Steps p.tables e below (T28.setTop (mkF m 76 #[.val (.int p1), .val (.ref b1), .val (.int (6 : Int32)), .val (.ref ad6), .unset, .unset] [(.int (6 : Int32))])) t_
      refine XS.iconst X28.here hx rfl (hb hby at_76) ?_
      show Steps p.tables e below (T28.setTop (mkF m 77 #[.val (.int p1), .val (.ref b1), .val (.int (6 : Int32)), .val (.ref ad6), .unset, .unset] [(.int (2 : Int32)), (.int (6 : Int32))])) t_
      refine XS.icmpNo X28.here hx rfl (hb hby at_77) rfl (feq (by decide : ¬ ((6 : Int32) = (2 : Int32)))).1 ?_
      show Steps p.tables e below (T28.setTop (mkF m 80 #[.val (.int p1), .val (.ref b1), .val (.int (6 : Int32)), .val (.ref ad6), .unset, .unset] [])) t_
      refine XS.iloadN X28.here hx rfl (hb hby at_80) rfl ?_
      show Steps p.tables e below (T28.setTop (mkF m 81 #[.val (.int p1), .val (.ref b1), .val (.int (6 : Int32)), .val (.ref ad6), .unset, .unset] [(.int (6 : Int32))])) t_
      refine XS.iconst X28.here hx rfl (hb hby at_81) ?_
      show Steps p.tables e below (T28.setTop (mkF m 82 #[.val (.int p1), .val (.ref b1), .val (.int (6 : Int32)), .val (.ref ad6), .unset, .unset] [(.int (3 : Int32)), (.int (6 : Int32))])) t_
      refine XS.icmpYes X28.here hx rfl (pc0 := 82) (pc' := 89) rfl (hb hby at_82) rfl (feq (by decide : ¬ ((6 : Int32) = (3 : Int32)))).2 (by decide) (by decide) ?_
      show Steps p.tables e below (T28.setTop (mkF m 89 #[.val (.int p1), .val (.ref b1), .val (.int (6 : Int32)), .val (.ref ad6), .unset, .unset] [])) t_
      refine XS.iconst X28.here hx rfl (hb hby at_89) ?_
      show Steps p.tables e below (T28.setTop (mkF m 90 #[.val (.int p1), .val (.ref b1), .val (.int (6 : Int32)), .val (.ref ad6), .unset, .unset] [(.int (0 : Int32))])) t_
      refine XS.istore X28.here hx rfl (hb hby at_90) rfl (l' := #[.val (.int p1), .val (.ref b1), .val (.int (6 : Int32)), .val (.ref ad6), .val (.int (0 : Int32)), .unset]) rfl ?_
      show Steps p.tables e below (T28.setTop (mkF m 92 #[.val (.int p1), .val (.ref b1), .val (.int (6 : Int32)), .val (.ref ad6), .val (.int (0 : Int32)), .unset] [])) t_
      refine XS.aloadN X28.here hx rfl (hb hby at_92) rfl rfl ?_
      exact k_
    obtain ⟨cq53, kq53, q53a, q53b, q53c⟩ := isOf hZ e28 (u20.ext O28.2)
    obtain ⟨_, _, ⟨T53, L53, k53, n53⟩, -, X53, ⟨Lc53, hQ53, l53, y53, z53⟩, st53⟩ := X28.virtualBack hx (y := own_y0) (z := own_y0) hown (mvT hZ (own_w hw 23 rfl)) (mvT hZ (own_w hw 24 rfl)) (notFace_of_selects (args := #[]) (mvT hZ (own_w hw 26 rfl))) (mvT hZ (own_w hw 26 rfl)) (mvT hZ (own_w hw 25 rfl)) (by decide) (backOf (W := 0) (rmCred6 l Z a0 hw [] ad6 ad2 ad3 h28 n0 (Nat.le_trans Z0 K28.1) O28 u7 u10 (Fld.ne u21 u9 (by decide)) (Fld.ne u21 u12 (by decide))) hZ (own_w hw 27 rfl) (own_w hw 3 rfl) (by decide) (by decide)) q53a q53c (g := (mkF m 93 #[.val (.int p1), .val (.ref b1), .val (.int (6 : Int32)), .val (.ref ad6), .val (.int (0 : Int32)), .unset] [(.ref ad6)])) rfl (by rw [hml]; rfl) (Steps.refl _) (argsL := []) (rest := []) (lenOf pd_0 rfl) rfl (by show 2 * 0 + _ ≤ _; exact Nat.le_of_eq rfl) (hb hby at_93) (fun _ _ => ⟨rfl, e28, (by decide : 1 + 0 ≤ _), (by decide : 9 + 0 ≤ _)⟩)
    dsimp only [Pt.U, Pt.locs, Pt.cells, Pt.slots] at X53 l53 y53 z53 st53 hQ53
    subst l53 y53 z53
    obtain ⟨rfl, N53q, eh53⟩ := hQ53
    have N53 := Fr.app N28 N53q
    refine own_via st53 ?_
    refine own_go (A := T53.setTop (mkF m 129 #[.val (.int p1), .val (.ref b1), .val (.int (6 : Int32)), .val (.ref ad6), .val (.int (0 : Int32)), .val (.int (0 : Int32))] [(.int (1 : Int32))])) (fun t_ k_ => ?_) ?_
    · show Steps p.tables e below (T53.setTop (mkF m 96 #[.val (.int p1), .val (.ref b1), .val (.int (6 : Int32)), .val (.ref ad6), .val (.int (0 : Int32)), .unset] [(.int (0 : Int32))])) t_
      refine XS.istore X53.here hx rfl (hb hby at_96) rfl (l' := #[.val (.int p1), .val (.ref b1), .val (.int (6 : Int32)), .val (.ref ad6), .val (.int (0 : Int32)), .val (.int (0 : Int32))]) rfl ?_
      show Steps p.tables e below (T53.setTop (mkF m 98 #[.val (.int p1), .val (.ref b1), .val (.int (6 : Int32)), .val (.ref ad6), .val (.int (0 : Int32)), .val (.int (0 : Int32))] [])) t_
      refine XS.iload X53.here hx rfl (hb hby at_98) rfl ?_
      show Steps p.tables e below (T53.setTop (mkF m 100 #[.val (.int p1), .val (.ref b1), .val (.int (6 : Int32)), .val (.ref ad6), .val (.int (0 : Int32)), .val (.int (0 : Int32))] [(.int (0 : Int32))])) t_
      refine XS.iload X53.here hx rfl (hb hby at_100) rfl ?_
      show Steps p.tables e below (T53.setTop (mkF m 102 #[.val (.int p1), .val (.ref b1), .val (.int (6 : Int32)), .val (.ref ad6), .val (.int (0 : Int32)), .val (.int (0 : Int32))] [(.int (0 : Int32)), (.int (0 : Int32))])) t_
      refine XS.icmpYes X53.here hx rfl (pc0 := 102) (pc' := 107) rfl (hb hby at_102) rfl (teq (by decide : (0 : Int32) = (0 : Int32))).1 (by decide) (by decide) ?_
      show Steps p.tables e below (T53.setTop (mkF m 107 #[.val (.int p1), .val (.ref b1), .val (.int (6 : Int32)), .val (.ref ad6), .val (.int (0 : Int32)), .val (.int (0 : Int32))] [])) t_
      refine XS.iload X53.here hx rfl (hb hby at_107) rfl ?_
      show Steps p.tables e below (T53.setTop (mkF m 109 #[.val (.int p1), .val (.ref b1), .val (.int (6 : Int32)), .val (.ref ad6), .val (.int (0 : Int32)), .val (.int (0 : Int32))] [(.int (0 : Int32))])) t_
      refine XS.ifYes X53.here hx rfl (pc0 := 109) (pc' := 128) rfl (hb hby at_109) rfl ((if0 _ _).trans (teq (by decide : (0 : Int32) = (0 : Int32))).1) (by decide) (by decide) ?_
      show Steps p.tables e below (T53.setTop (mkF m 128 #[.val (.int p1), .val (.ref b1), .val (.int (6 : Int32)), .val (.ref ad6), .val (.int (0 : Int32)), .val (.int (0 : Int32))] [])) t_
      refine XS.iconst X53.here hx rfl (hb hby at_128) ?_
      exact k_
    obtain ⟨fs54, hr54, hrun54, hended54, hW54, hsame54⟩ := X53.leave (v := some (.int (1 : Int32))) (fun h => by rw [Bd.returns] at h; cases h)
    refine ⟨_, _, ?_, hrun54, hended54, _, _, rfl, ?_, ⟨_, rfl⟩, hW54, hsame54.mono (by decide) (by decide)⟩
    · exact retN X53 hx (t := .boolean) Bd.returns (by simp) (hb hby at_129) hr54
    · show Q_rm0 Z p1 ad0 ad1 ad2 ad3 ad4 ad5 ad6 ad7 ad8 h0 n0 _ T53.heap _
      rw [eh53]
      exact ⟨rfl, N53, K28⟩
  · rw [hm29]
    obtain ⟨cl55, Ar55, q55, S55, M55, H55, G55⟩ := B28
    have hin55 : ¬ ((7 : Int32) < 0 ∨ cl55.slots.size ≤ ((7 : Int32)).toNatClampNeg) := inb_of S55 ⟨by decide, by decide⟩
    have hat55 : cl55.slots[((7 : Int32)).toNatClampNeg]? = some (.ref ad7) := Has.at H55 hin55 rfl
    refine own_go (A := T28.setTop (mkF m 93 #[.val (.int p1), .val (.ref b1), .val (.int (7 : Int32)), .val (.ref ad7), .val (.int (0 : Int32)), .unset] [(.ref ad7)])) (fun t_ k_ => ?_) ?_
    · show Steps p.tables e below (T28.setTop (mkF m 70 #[.val (.int p1), .val (.ref b1), .unset, .unset, .unset, .unset] [(.int (7 : Int32))])) t_
      refine XS.istoreN X28.here hx rfl (hb hby at_70) rfl (l' := #[.val (.int p1), .val (.ref b1), .val (.int (7 : Int32)), .unset, .unset, .unset]) rfl ?_
      show Steps p.tables e below (T28.setTop (mkF m 71 #[.val (.int p1), .val (.ref b1), .val (.int (7 : Int32)), .unset, .unset, .unset] [])) t_
      refine XS.aloadN X28.here hx rfl (hb hby at_71) rfl rfl ?_
      show Steps p.tables e below (T28.setTop (mkF m 72 #[.val (.int p1), .val (.ref b1), .val (.int (7 : Int32)), .unset, .unset, .unset] [(.ref b1)])) t_
      refine XS.iloadN X28.here hx rfl (hb hby at_72) rfl ?_
      show Steps p.tables e below (T28.setTop (mkF m 73 #[.val (.int p1), .val (.ref b1), .val (.int (7 : Int32)), .unset, .unset, .unset] [(.int (7 : Int32)), (.ref b1)])) t_
      refine X28.aaload hx (j := (7 : Int32)) (v := (.ref ad7)) (by rw [e28]; exact Ar55.1) (State.isArrayOf_alike hZ.alike Ar55.2.1) rfl Ar55.2.2 hin55 hat55 (g := (mkF m 73 #[.val (.int p1), .val (.ref b1), .val (.int (7 : Int32)), .unset, .unset, .unset] [(.int (7 : Int32)), (.ref b1)])) rfl rfl (hb hby at_73) _ ?_
      show Steps p.tables e below (T28.setTop (mkF m 74 #[.val (.int p1), .val (.ref b1), .val (.int (7 : Int32)), .unset, .unset, .unset] [(.ref ad7)])) t_
      refine XS.astoreN X28.here hx rfl (hb hby at_74) rfl rfl (l' := #[.val (.int p1), .val (.ref b1), .val (.int (7 : Int32)), .val (.ref ad7), .unset, .unset]) rfl ?_
      show Steps p.tables e below (T28.setTop (mkF m 75 #[.val (.int p1), .val (.ref b1), .val (.int (7 : Int32)), .val (.ref ad7), .unset, .unset] [])) t_
      refine XS.iloadN X28.here hx rfl (hb hby at_75) rfl ?_
      show Steps p.tables e below (T28.setTop (mkF m 76 #[.val (.int p1), .val (.ref b1), .val (.int (7 : Int32)), .val (.ref ad7), .unset, .unset] [(.int (7 : Int32))])) t_
      refine XS.iconst X28.here hx rfl (hb hby at_76) ?_
      show Steps p.tables e below (T28.setTop (mkF m 77 #[.val (.int p1), .val (.ref b1), .val (.int (7 : Int32)), .val (.ref ad7), .unset, .unset] [(.int (2 : Int32)), (.int (7 : Int32))])) t_
      refine XS.icmpNo X28.here hx rfl (hb hby at_77) rfl (feq (by decide : ¬ ((7 : Int32) = (2 : Int32)))).1 ?_
      show Steps p.tables e below (T28.setTop (mkF m 80 #[.val (.int p1), .val (.ref b1), .val (.int (7 : Int32)), .val (.ref ad7), .unset, .unset] [])) t_
      refine XS.iloadN X28.here hx rfl (hb hby at_80) rfl ?_
      show Steps p.tables e below (T28.setTop (mkF m 81 #[.val (.int p1), .val (.ref b1), .val (.int (7 : Int32)), .val (.ref ad7), .unset, .unset] [(.int (7 : Int32))])) t_
      refine XS.iconst X28.here hx rfl (hb hby at_81) ?_
      show Steps p.tables e below (T28.setTop (mkF m 82 #[.val (.int p1), .val (.ref b1), .val (.int (7 : Int32)), .val (.ref ad7), .unset, .unset] [(.int (3 : Int32)), (.int (7 : Int32))])) t_
      refine XS.icmpYes X28.here hx rfl (pc0 := 82) (pc' := 89) rfl (hb hby at_82) rfl (feq (by decide : ¬ ((7 : Int32) = (3 : Int32)))).2 (by decide) (by decide) ?_
      show Steps p.tables e below (T28.setTop (mkF m 89 #[.val (.int p1), .val (.ref b1), .val (.int (7 : Int32)), .val (.ref ad7), .unset, .unset] [])) t_
      refine XS.iconst X28.here hx rfl (hb hby at_89) ?_
      show Steps p.tables e below (T28.setTop (mkF m 90 #[.val (.int p1), .val (.ref b1), .val (.int (7 : Int32)), .val (.ref ad7), .unset, .unset] [(.int (0 : Int32))])) t_
      refine XS.istore X28.here hx rfl (hb hby at_90) rfl (l' := #[.val (.int p1), .val (.ref b1), .val (.int (7 : Int32)), .val (.ref ad7), .val (.int (0 : Int32)), .unset]) rfl ?_
      show Steps p.tables e below (T28.setTop (mkF m 92 #[.val (.int p1), .val (.ref b1), .val (.int (7 : Int32)), .val (.ref ad7), .val (.int (0 : Int32)), .unset] [])) t_
      refine XS.aloadN X28.here hx rfl (hb hby at_92) rfl rfl ?_
      exact k_
    obtain ⟨cq56, kq56, q56a, q56b, q56c⟩ := isOf hZ e28 (u23.ext O28.2)
    obtain ⟨_, _, ⟨T56, L56, k56, n56⟩, -, X56, ⟨Lc56, hQ56, l56, y56, z56⟩, st56⟩ := X28.virtualBack hx (y := own_y0) (z := own_y0) hown (mvT hZ (own_w hw 23 rfl)) (mvT hZ (own_w hw 24 rfl)) (notFace_of_selects (args := #[]) (mvT hZ (own_w hw 26 rfl))) (mvT hZ (own_w hw 26 rfl)) (mvT hZ (own_w hw 25 rfl)) (by decide) (backOf (W := 0) (rmCred7 l Z a0 hw [] ad7 ad2 ad3 h28 n0 (Nat.le_trans Z0 K28.1) O28 u7 u10 (Fld.ne u24 u9 (by decide)) (Fld.ne u24 u12 (by decide))) hZ (own_w hw 27 rfl) (own_w hw 3 rfl) (by decide) (by decide)) q56a q56c (g := (mkF m 93 #[.val (.int p1), .val (.ref b1), .val (.int (7 : Int32)), .val (.ref ad7), .val (.int (0 : Int32)), .unset] [(.ref ad7)])) rfl (by rw [hml]; rfl) (Steps.refl _) (argsL := []) (rest := []) (lenOf pd_0 rfl) rfl (by show 2 * 0 + _ ≤ _; exact Nat.le_of_eq rfl) (hb hby at_93) (fun _ _ => ⟨rfl, e28, (by decide : 1 + 0 ≤ _), (by decide : 9 + 0 ≤ _)⟩)
    dsimp only [Pt.U, Pt.locs, Pt.cells, Pt.slots] at X56 l56 y56 z56 st56 hQ56
    subst l56 y56 z56
    obtain ⟨rfl, N56q, eh56⟩ := hQ56
    have N56 := Fr.app N28 N56q
    refine own_via st56 ?_
    refine own_go (A := T56.setTop (mkF m 129 #[.val (.int p1), .val (.ref b1), .val (.int (7 : Int32)), .val (.ref ad7), .val (.int (0 : Int32)), .val (.int (0 : Int32))] [(.int (1 : Int32))])) (fun t_ k_ => ?_) ?_
    · show Steps p.tables e below (T56.setTop (mkF m 96 #[.val (.int p1), .val (.ref b1), .val (.int (7 : Int32)), .val (.ref ad7), .val (.int (0 : Int32)), .unset] [(.int (0 : Int32))])) t_
      refine XS.istore X56.here hx rfl (hb hby at_96) rfl (l' := #[.val (.int p1), .val (.ref b1), .val (.int (7 : Int32)), .val (.ref ad7), .val (.int (0 : Int32)), .val (.int (0 : Int32))]) rfl ?_
      show Steps p.tables e below (T56.setTop (mkF m 98 #[.val (.int p1), .val (.ref b1), .val (.int (7 : Int32)), .val (.ref ad7), .val (.int (0 : Int32)), .val (.int (0 : Int32))] [])) t_
      refine XS.iload X56.here hx rfl (hb hby at_98) rfl ?_
      show Steps p.tables e below (T56.setTop (mkF m 100 #[.val (.int p1), .val (.ref b1), .val (.int (7 : Int32)), .val (.ref ad7), .val (.int (0 : Int32)), .val (.int (0 : Int32))] [(.int (0 : Int32))])) t_
      refine XS.iload X56.here hx rfl (hb hby at_100) rfl ?_
      show Steps p.tables e below (T56.setTop (mkF m 102 #[.val (.int p1), .val (.ref b1), .val (.int (7 : Int32)), .val (.ref ad7), .val (.int (0 : Int32)), .val (.int (0 : Int32))] [(.int (0 : Int32)), (.int (0 : Int32))])) t_
      refine XS.icmpYes X56.here hx rfl (pc0 := 102) (pc' := 107) rfl (hb hby at_102) rfl (teq (by decide : (0 : Int32) = (0 : Int32))).1 (by decide) (by decide) ?_
      show Steps p.tables e below (T56.setTop (mkF m 107 #[.val (.int p1), .val (.ref b1), .val (.int (7 : Int32)), .val (.ref ad7), .val (.int (0 : Int32)), .val (.int (0 : Int32))] [])) t_
      refine XS.iload X56.here hx rfl (hb hby at_107) rfl ?_
      show Steps p.tables e below (T56.setTop (mkF m 109 #[.val (.int p1), .val (.ref b1), .val (.int (7 : Int32)), .val (.ref ad7), .val (.int (0 : Int32)), .val (.int (0 : Int32))] [(.int (0 : Int32))])) t_
      refine XS.ifYes X56.here hx rfl (pc0 := 109) (pc' := 128) rfl (hb hby at_109) rfl ((if0 _ _).trans (teq (by decide : (0 : Int32) = (0 : Int32))).1) (by decide) (by decide) ?_
      show Steps p.tables e below (T56.setTop (mkF m 128 #[.val (.int p1), .val (.ref b1), .val (.int (7 : Int32)), .val (.ref ad7), .val (.int (0 : Int32)), .val (.int (0 : Int32))] [])) t_
      refine XS.iconst X56.here hx rfl (hb hby at_128) ?_
      exact k_
    obtain ⟨fs57, hr57, hrun57, hended57, hW57, hsame57⟩ := X56.leave (v := some (.int (1 : Int32))) (fun h => by rw [Bd.returns] at h; cases h)
    refine ⟨_, _, ?_, hrun57, hended57, _, _, rfl, ?_, ⟨_, rfl⟩, hW57, hsame57.mono (by decide) (by decide)⟩
    · exact retN X56 hx (t := .boolean) Bd.returns (by simp) (hb hby at_129) hr57
    · show Q_rm0 Z p1 ad0 ad1 ad2 ad3 ad4 ad5 ad6 ad7 ad8 h0 n0 _ T56.heap _
      rw [eh56]
      exact ⟨rfl, N56, K28⟩
  · rw [hm29]
    obtain ⟨cl58, Ar58, q58, S58, M58, H58, G58⟩ := B28
    have hin58 : ¬ ((8 : Int32) < 0 ∨ cl58.slots.size ≤ ((8 : Int32)).toNatClampNeg) := inb_of S58 ⟨by decide, by decide⟩
    have hat58 : cl58.slots[((8 : Int32)).toNatClampNeg]? = some (.ref ad8) := Has.at H58 hin58 rfl
    refine own_go (A := T28.setTop (mkF m 93 #[.val (.int p1), .val (.ref b1), .val (.int (8 : Int32)), .val (.ref ad8), .val (.int (0 : Int32)), .unset] [(.ref ad8)])) (fun t_ k_ => ?_) ?_
    · show Steps p.tables e below (T28.setTop (mkF m 70 #[.val (.int p1), .val (.ref b1), .unset, .unset, .unset, .unset] [(.int (8 : Int32))])) t_
      refine XS.istoreN X28.here hx rfl (hb hby at_70) rfl (l' := #[.val (.int p1), .val (.ref b1), .val (.int (8 : Int32)), .unset, .unset, .unset]) rfl ?_
      show Steps p.tables e below (T28.setTop (mkF m 71 #[.val (.int p1), .val (.ref b1), .val (.int (8 : Int32)), .unset, .unset, .unset] [])) t_
      refine XS.aloadN X28.here hx rfl (hb hby at_71) rfl rfl ?_
      show Steps p.tables e below (T28.setTop (mkF m 72 #[.val (.int p1), .val (.ref b1), .val (.int (8 : Int32)), .unset, .unset, .unset] [(.ref b1)])) t_
      refine XS.iloadN X28.here hx rfl (hb hby at_72) rfl ?_
      show Steps p.tables e below (T28.setTop (mkF m 73 #[.val (.int p1), .val (.ref b1), .val (.int (8 : Int32)), .unset, .unset, .unset] [(.int (8 : Int32)), (.ref b1)])) t_
      refine X28.aaload hx (j := (8 : Int32)) (v := (.ref ad8)) (by rw [e28]; exact Ar58.1) (State.isArrayOf_alike hZ.alike Ar58.2.1) rfl Ar58.2.2 hin58 hat58 (g := (mkF m 73 #[.val (.int p1), .val (.ref b1), .val (.int (8 : Int32)), .unset, .unset, .unset] [(.int (8 : Int32)), (.ref b1)])) rfl rfl (hb hby at_73) _ ?_
      show Steps p.tables e below (T28.setTop (mkF m 74 #[.val (.int p1), .val (.ref b1), .val (.int (8 : Int32)), .unset, .unset, .unset] [(.ref ad8)])) t_
      refine XS.astoreN X28.here hx rfl (hb hby at_74) rfl rfl (l' := #[.val (.int p1), .val (.ref b1), .val (.int (8 : Int32)), .val (.ref ad8), .unset, .unset]) rfl ?_
      show Steps p.tables e below (T28.setTop (mkF m 75 #[.val (.int p1), .val (.ref b1), .val (.int (8 : Int32)), .val (.ref ad8), .unset, .unset] [])) t_
      refine XS.iloadN X28.here hx rfl (hb hby at_75) rfl ?_
      show Steps p.tables e below (T28.setTop (mkF m 76 #[.val (.int p1), .val (.ref b1), .val (.int (8 : Int32)), .val (.ref ad8), .unset, .unset] [(.int (8 : Int32))])) t_
      refine XS.iconst X28.here hx rfl (hb hby at_76) ?_
      show Steps p.tables e below (T28.setTop (mkF m 77 #[.val (.int p1), .val (.ref b1), .val (.int (8 : Int32)), .val (.ref ad8), .unset, .unset] [(.int (2 : Int32)), (.int (8 : Int32))])) t_
      refine XS.icmpNo X28.here hx rfl (hb hby at_77) rfl (feq (by decide : ¬ ((8 : Int32) = (2 : Int32)))).1 ?_
      show Steps p.tables e below (T28.setTop (mkF m 80 #[.val (.int p1), .val (.ref b1), .val (.int (8 : Int32)), .val (.ref ad8), .unset, .unset] [])) t_
      refine XS.iloadN X28.here hx rfl (hb hby at_80) rfl ?_
      show Steps p.tables e below (T28.setTop (mkF m 81 #[.val (.int p1), .val (.ref b1), .val (.int (8 : Int32)), .val (.ref ad8), .unset, .unset] [(.int (8 : Int32))])) t_
      refine XS.iconst X28.here hx rfl (hb hby at_81) ?_
      show Steps p.tables e below (T28.setTop (mkF m 82 #[.val (.int p1), .val (.ref b1), .val (.int (8 : Int32)), .val (.ref ad8), .unset, .unset] [(.int (3 : Int32)), (.int (8 : Int32))])) t_
      refine XS.icmpYes X28.here hx rfl (pc0 := 82) (pc' := 89) rfl (hb hby at_82) rfl (feq (by decide : ¬ ((8 : Int32) = (3 : Int32)))).2 (by decide) (by decide) ?_
      show Steps p.tables e below (T28.setTop (mkF m 89 #[.val (.int p1), .val (.ref b1), .val (.int (8 : Int32)), .val (.ref ad8), .unset, .unset] [])) t_
      refine XS.iconst X28.here hx rfl (hb hby at_89) ?_
      show Steps p.tables e below (T28.setTop (mkF m 90 #[.val (.int p1), .val (.ref b1), .val (.int (8 : Int32)), .val (.ref ad8), .unset, .unset] [(.int (0 : Int32))])) t_
      refine XS.istore X28.here hx rfl (hb hby at_90) rfl (l' := #[.val (.int p1), .val (.ref b1), .val (.int (8 : Int32)), .val (.ref ad8), .val (.int (0 : Int32)), .unset]) rfl ?_
      show Steps p.tables e below (T28.setTop (mkF m 92 #[.val (.int p1), .val (.ref b1), .val (.int (8 : Int32)), .val (.ref ad8), .val (.int (0 : Int32)), .unset] [])) t_
      refine XS.aloadN X28.here hx rfl (hb hby at_92) rfl rfl ?_
      exact k_
    obtain ⟨cq59, kq59, q59a, q59b, q59c⟩ := isOf hZ e28 (u26.ext O28.2)
    obtain ⟨_, _, ⟨T59, L59, k59, n59⟩, -, X59, ⟨Lc59, hQ59, l59, y59, z59⟩, st59⟩ := X28.virtualBack hx (y := own_y0) (z := own_y0) hown (mvT hZ (own_w hw 23 rfl)) (mvT hZ (own_w hw 24 rfl)) (notFace_of_selects (args := #[]) (mvT hZ (own_w hw 26 rfl))) (mvT hZ (own_w hw 26 rfl)) (mvT hZ (own_w hw 25 rfl)) (by decide) (backOf (W := 0) (rmCred8 l Z a0 hw [] ad8 ad2 ad3 h28 n0 (Nat.le_trans Z0 K28.1) O28 u7 u10 (Fld.ne u27 u9 (by decide)) (Fld.ne u27 u12 (by decide))) hZ (own_w hw 27 rfl) (own_w hw 3 rfl) (by decide) (by decide)) q59a q59c (g := (mkF m 93 #[.val (.int p1), .val (.ref b1), .val (.int (8 : Int32)), .val (.ref ad8), .val (.int (0 : Int32)), .unset] [(.ref ad8)])) rfl (by rw [hml]; rfl) (Steps.refl _) (argsL := []) (rest := []) (lenOf pd_0 rfl) rfl (by show 2 * 0 + _ ≤ _; exact Nat.le_of_eq rfl) (hb hby at_93) (fun _ _ => ⟨rfl, e28, (by decide : 1 + 0 ≤ _), (by decide : 9 + 0 ≤ _)⟩)
    dsimp only [Pt.U, Pt.locs, Pt.cells, Pt.slots] at X59 l59 y59 z59 st59 hQ59
    subst l59 y59 z59
    obtain ⟨rfl, N59q, eh59⟩ := hQ59
    have N59 := Fr.app N28 N59q
    refine own_via st59 ?_
    refine own_go (A := T59.setTop (mkF m 129 #[.val (.int p1), .val (.ref b1), .val (.int (8 : Int32)), .val (.ref ad8), .val (.int (0 : Int32)), .val (.int (0 : Int32))] [(.int (1 : Int32))])) (fun t_ k_ => ?_) ?_
    · show Steps p.tables e below (T59.setTop (mkF m 96 #[.val (.int p1), .val (.ref b1), .val (.int (8 : Int32)), .val (.ref ad8), .val (.int (0 : Int32)), .unset] [(.int (0 : Int32))])) t_
      refine XS.istore X59.here hx rfl (hb hby at_96) rfl (l' := #[.val (.int p1), .val (.ref b1), .val (.int (8 : Int32)), .val (.ref ad8), .val (.int (0 : Int32)), .val (.int (0 : Int32))]) rfl ?_
      show Steps p.tables e below (T59.setTop (mkF m 98 #[.val (.int p1), .val (.ref b1), .val (.int (8 : Int32)), .val (.ref ad8), .val (.int (0 : Int32)), .val (.int (0 : Int32))] [])) t_
      refine XS.iload X59.here hx rfl (hb hby at_98) rfl ?_
      show Steps p.tables e below (T59.setTop (mkF m 100 #[.val (.int p1), .val (.ref b1), .val (.int (8 : Int32)), .val (.ref ad8), .val (.int (0 : Int32)), .val (.int (0 : Int32))] [(.int (0 : Int32))])) t_
      refine XS.iload X59.here hx rfl (hb hby at_100) rfl ?_
      show Steps p.tables e below (T59.setTop (mkF m 102 #[.val (.int p1), .val (.ref b1), .val (.int (8 : Int32)), .val (.ref ad8), .val (.int (0 : Int32)), .val (.int (0 : Int32))] [(.int (0 : Int32)), (.int (0 : Int32))])) t_
      refine XS.icmpYes X59.here hx rfl (pc0 := 102) (pc' := 107) rfl (hb hby at_102) rfl (teq (by decide : (0 : Int32) = (0 : Int32))).1 (by decide) (by decide) ?_
      show Steps p.tables e below (T59.setTop (mkF m 107 #[.val (.int p1), .val (.ref b1), .val (.int (8 : Int32)), .val (.ref ad8), .val (.int (0 : Int32)), .val (.int (0 : Int32))] [])) t_
      refine XS.iload X59.here hx rfl (hb hby at_107) rfl ?_
      show Steps p.tables e below (T59.setTop (mkF m 109 #[.val (.int p1), .val (.ref b1), .val (.int (8 : Int32)), .val (.ref ad8), .val (.int (0 : Int32)), .val (.int (0 : Int32))] [(.int (0 : Int32))])) t_
      refine XS.ifYes X59.here hx rfl (pc0 := 109) (pc' := 128) rfl (hb hby at_109) rfl ((if0 _ _).trans (teq (by decide : (0 : Int32) = (0 : Int32))).1) (by decide) (by decide) ?_
      show Steps p.tables e below (T59.setTop (mkF m 128 #[.val (.int p1), .val (.ref b1), .val (.int (8 : Int32)), .val (.ref ad8), .val (.int (0 : Int32)), .val (.int (0 : Int32))] [])) t_
      refine XS.iconst X59.here hx rfl (hb hby at_128) ?_
      exact k_
    obtain ⟨fs60, hr60, hrun60, hended60, hW60, hsame60⟩ := X59.leave (v := some (.int (1 : Int32))) (fun h => by rw [Bd.returns] at h; cases h)
    refine ⟨_, _, ?_, hrun60, hended60, _, _, rfl, ?_, ⟨_, rfl⟩, hW60, hsame60.mono (by decide) (by decide)⟩
    · exact retN X59 hx (t := .boolean) Bd.returns (by simp) (hb hby at_129) hr60
    · show Q_rm0 Z p1 ad0 ad1 ad2 ad3 ad4 ad5 ad6 ad7 ad8 h0 n0 _ T59.heap _
      rw [eh59]
      exact ⟨rfl, N59, K28⟩
set_option maxRecDepth 65536 in
set_option maxHeartbeats 40000000 in
theorem comes_1 {Post : Tables → Env → Array Value → State → Outcome → State → Prop} (hpost : ∀ tb e args s v u, (limb_1_1.after args s (.returned v) u = true ∧ limb_1_2.after args s (.returned v) u = true ∧ True) → FrameEnd s (.returned v) u (Jvm.fieldLocs frame_1_writes args s ++ Jvm.arrayLocs frame_1_arrays args s ++ Jvm.staticLocs frame_1_statics s) 16 128 → Post tb e args s (.returned v) u) :
    ArmFor flags0 classFile x code maxLocals ret World_1 tables_1 room_1 Calls_1 rest_1 Pre_1 Post := by
  intro l hfl _ _ p e ha hc hk s m args below hf hA hF happ hP
  obtain ⟨hcalls, hrest, hpre⟩ := hP
  obtain ⟨-, -, -, hnamed, -, -, -, hat⟩ := (Spec.applies_iff hf).mp happ
  obtain ⟨hg, hn⟩ := and_e (Cond.before_iff.mp (show (Jvm.Cond.and given_1 narrow_1).before args s = true from hpre))
  obtain ⟨hg_0, hg_1⟩ := and_e hg
  obtain ⟨w0, rfl⟩ : ∃ w0 : Value, args = #[w0] := by
    have hs : args.size = 1 := by simpa [Cond.value, given_1] using hg_0
    obtain ⟨L⟩ := args
    match L, hs with
    | [w0], _ => exact ⟨w0, rfl⟩
  have hw := fun d (hd : d ∈ tables_1) => atoms_spec (ws := Jvm.Cond.code x code maxLocals ret :: tables_1) hat d (List.mem_cons_of_mem _ hd)
  have hfit : Fit s := fun {y c} hc i hi => by
    obtain ⟨ha, rfl⟩ := Array.getElem?_eq_some_iff.mp hc
    have q := List.all_eq_true.mp ((Array.all_eq_true_iff_forall_mem.mp hF) _ (Array.getElem_mem ha)) i (List.mem_range.mpr hi)
    simpa [Array.getElem?_eq_getElem hi] using q
  obtain ⟨i0, ei0⟩ := is_v hg_1
  obtain rfl : w0 = (.int i0) := Option.some.inj ei0
  obtain ⟨hn_0, hn_1⟩ := and_e hn
  obtain ⟨hn_2, hn_3⟩ := and_e hn_1
  obtain ⟨hn_4, hn_5⟩ := and_e hn_3
  obtain ⟨hn_6, hn_7⟩ := and_e hn_5
  obtain ⟨hn_8, hn_9⟩ := and_e hn_7
  obtain ⟨hn_10, hn_11⟩ := and_e hn_9
  obtain ⟨hn_12, hn_13⟩ := and_e hn_11
  obtain ⟨hn_14, hn_15⟩ := and_e hn_13
  obtain ⟨hn_16, hn_17⟩ := and_e hn_15
  obtain ⟨hn_18, hn_19⟩ := and_e hn_17
  obtain ⟨hn_20, hn_21⟩ := and_e hn_19
  obtain ⟨hn_22, hn_23⟩ := and_e hn_21
  obtain ⟨hn_24, hn_25⟩ := and_e hn_23
  obtain ⟨hn_26, hn_27⟩ := and_e hn_25
  obtain ⟨hn_28, hn_29⟩ := and_e hn_27
  obtain ⟨hn_30, hn_31⟩ := and_e hn_29
  obtain ⟨hn_32, hn_33⟩ := and_e hn_31
  obtain ⟨a_NORMAL, eva_NORMAL⟩ := exa_v hn_0
  have Sa_NORMAL : Sta s s.heap "com/example/vestwright/vestwright/model/SeparationCase" "NORMAL" "Lcom/example/vestwright/vestwright/model/SeparationCase;" (.ref a_NORMAL) := Sta.start eva_NORMAL (Or.inr ⟨(own_w hw 3 rfl), (own_w hw 4 rfl)⟩)
  have Ea_NORMAL : Exa s s.heap a_NORMAL "com/example/vestwright/vestwright/model/SeparationCase" := Exa.start eva_NORMAL hn_0
  obtain ⟨a_EARLY, eva_EARLY⟩ := exa_v hn_2
  have Sa_EARLY : Sta s s.heap "com/example/vestwright/vestwright/model/SeparationCase" "EARLY" "Lcom/example/vestwright/vestwright/model/SeparationCase;" (.ref a_EARLY) := Sta.start eva_EARLY (Or.inr ⟨(own_w hw 3 rfl), (own_w hw 7 rfl)⟩)
  have Ea_EARLY : Exa s s.heap a_EARLY "com/example/vestwright/vestwright/model/SeparationCase" := Exa.start eva_EARLY hn_2
  obtain ⟨a_DISABILITY, eva_DISABILITY⟩ := exa_v hn_4
  have Sa_DISABILITY : Sta s s.heap "com/example/vestwright/vestwright/model/SeparationCase" "DISABILITY" "Lcom/example/vestwright/vestwright/model/SeparationCase;" (.ref a_DISABILITY) := Sta.start eva_DISABILITY (Or.inr ⟨(own_w hw 3 rfl), (own_w hw 9 rfl)⟩)
  have Ea_DISABILITY : Exa s s.heap a_DISABILITY "com/example/vestwright/vestwright/model/SeparationCase" := Exa.start eva_DISABILITY hn_4
  obtain ⟨a_CHANGE_IN_CONTROL, eva_CHANGE_IN_CONTROL⟩ := exa_v hn_6
  have Sa_CHANGE_IN_CONTROL : Sta s s.heap "com/example/vestwright/vestwright/model/SeparationCase" "CHANGE_IN_CONTROL" "Lcom/example/vestwright/vestwright/model/SeparationCase;" (.ref a_CHANGE_IN_CONTROL) := Sta.start eva_CHANGE_IN_CONTROL (Or.inr ⟨(own_w hw 3 rfl), (own_w hw 11 rfl)⟩)
  have Ea_CHANGE_IN_CONTROL : Exa s s.heap a_CHANGE_IN_CONTROL "com/example/vestwright/vestwright/model/SeparationCase" := Exa.start eva_CHANGE_IN_CONTROL hn_6
  obtain ⟨a_DEATH, eva_DEATH⟩ := exa_v hn_8
  have Sa_DEATH : Sta s s.heap "com/example/vestwright/vestwright/model/SeparationCase" "DEATH" "Lcom/example/vestwright/vestwright/model/SeparationCase;" (.ref a_DEATH) := Sta.start eva_DEATH (Or.inr ⟨(own_w hw 3 rfl), (own_w hw 13 rfl)⟩)
  have Ea_DEATH : Exa s s.heap a_DEATH "com/example/vestwright/vestwright/model/SeparationCase" := Exa.start eva_DEATH hn_8
  obtain ⟨a_FORFEITED, eva_FORFEITED⟩ := exa_v hn_10
  have Sa_FORFEITED : Sta s s.heap "com/example/vestwright/vestwright/model/SeparationCase" "FORFEITED" "Lcom/example/vestwright/vestwright/model/SeparationCase;" (.ref a_FORFEITED) := Sta.start eva_FORFEITED (Or.inr ⟨(own_w hw 3 rfl), (own_w hw 15 rfl)⟩)
  have Ea_FORFEITED : Exa s s.heap a_FORFEITED "com/example/vestwright/vestwright/model/SeparationCase" := Exa.start eva_FORFEITED hn_10
  obtain ⟨a_NOT_VESTED, eva_NOT_VESTED⟩ := exa_v hn_12
  have Sa_NOT_VESTED : Sta s s.heap "com/example/vestwright/vestwright/model/SeparationCase" "NOT_VESTED" "Lcom/example/vestwright/vestwright/model/SeparationCase;" (.ref a_NOT_VESTED) := Sta.start eva_NOT_VESTED (Or.inr ⟨(own_w hw 3 rfl), (own_w hw 17 rfl)⟩)
  have Ea_NOT_VESTED : Exa s s.heap a_NOT_VESTED "com/example/vestwright/vestwright/model/SeparationCase" := Exa.start eva_NOT_VESTED hn_12
  obtain ⟨a_RETIREMENT, eva_RETIREMENT⟩ := exa_v hn_14
  have Sa_RETIREMENT : Sta s s.heap "com/example/vestwright/vestwright/model/SeparationCase" "RETIREMENT" "Lcom/example/vestwright/vestwright/model/SeparationCase;" (.ref a_RETIREMENT) := Sta.start eva_RETIREMENT (Or.inr ⟨(own_w hw 3 rfl), (own_w hw 19 rfl)⟩)
  have Ea_RETIREMENT : Exa s s.heap a_RETIREMENT "com/example/vestwright/vestwright/model/SeparationCase" := Exa.start eva_RETIREMENT hn_14
  obtain ⟨a_DEFERRED_VESTED, eva_DEFERRED_VESTED⟩ := exa_v hn_16
  have Sa_DEFERRED_VESTED : Sta s s.heap "com/example/vestwright/vestwright/model/SeparationCase" "DEFERRED_VESTED" "Lcom/example/vestwright/vestwright/model/SeparationCase;" (.ref a_DEFERRED_VESTED) := Sta.start eva_DEFERRED_VESTED (Or.inr ⟨(own_w hw 3 rfl), (own_w hw 21 rfl)⟩)
  have Ea_DEFERRED_VESTED : Exa s s.heap a_DEFERRED_VESTED "com/example/vestwright/vestwright/model/SeparationCase" := Exa.start eva_DEFERRED_VESTED hn_16
  have Fa_NORMAL_ordinal : Fld s s.heap a_NORMAL "java/lang/Enum" "ordinal" "I" (.int (0 : Int32)) := Fld.start ((fld_at eva_NORMAL).symm.trans (own_eqInt hn_18))
  have Fa_DISABILITY_ordinal : Fld s s.heap a_DISABILITY "java/lang/Enum" "ordinal" "I" (.int (2 : Int32)) := Fld.start ((fld_at eva_DISABILITY).symm.trans (own_eqInt hn_20))
  have Fa_CHANGE_IN_CONTROL_ordinal : Fld s s.heap a_CHANGE_IN_CONTROL "java/lang/Enum" "ordinal" "I" (.int (3 : Int32)) := Fld.start ((fld_at eva_CHANGE_IN_CONTROL).symm.trans (own_eqInt hn_22))
  have Fa_FORFEITED_ordinal : Fld s s.heap a_FORFEITED "java/lang/Enum" "ordinal" "I" (.int (5 : Int32)) := Fld.start ((fld_at eva_FORFEITED).symm.trans (own_eqInt hn_24))
  have Fa_NOT_VESTED_ordinal : Fld s s.heap a_NOT_VESTED "java/lang/Enum" "ordinal" "I" (.int (6 : Int32)) := Fld.start ((fld_at eva_NOT_VESTED).symm.trans (own_eqInt hn_26))
  have Fa_EARLY_ordinal : Fld s s.heap a_EARLY "java/lang/Enum" "ordinal" "I" (.int (1 : Int32)) := Fld.start ((fld_at eva_EARLY).symm.trans (own_eqInt hn_28))
  have Fa_RETIREMENT_ordinal : Fld s s.heap a_RETIREMENT "java/lang/Enum" "ordinal" "I" (.int (7 : Int32)) := Fld.start ((fld_at eva_RETIREMENT).symm.trans (own_eqInt hn_30))
  have Fa_DEATH_ordinal : Fld s s.heap a_DEATH "java/lang/Enum" "ordinal" "I" (.int (4 : Int32)) := Fld.start ((fld_at eva_DEATH).symm.trans (own_eqInt hn_32))
  have Fa_DEFERRED_VESTED_ordinal : Fld s s.heap a_DEFERRED_VESTED "java/lang/Enum" "ordinal" "I" (.int (8 : Int32)) := Fld.start ((fld_at eva_DEFERRED_VESTED).symm.trans (own_eqInt hn_33))
  obtain ⟨n, o, h1, h2, h3, _, L, rfl, ⟨rfl, N, -⟩, hq⟩ := rm0 l s _ hw tables_1 i0 a_NORMAL a_EARLY a_DISABILITY a_CHANGE_IN_CONTROL a_DEATH a_FORFEITED a_NOT_VESTED a_RETIREMENT a_DEFERRED_VESTED s.heap s.heap.size (Nat.le_refl _) (Old.start s) Sa_NORMAL Ea_NORMAL Fa_NORMAL_ordinal Sa_EARLY Ea_EARLY Fa_EARLY_ordinal Sa_DISABILITY Ea_DISABILITY Fa_DISABILITY_ordinal Sa_CHANGE_IN_CONTROL Ea_CHANGE_IN_CONTROL Fa_CHANGE_IN_CONTROL_ordinal Sa_DEATH Ea_DEATH Fa_DEATH_ordinal Sa_FORFEITED Ea_FORFEITED Fa_FORFEITED_ordinal Sa_NOT_VESTED Ea_NOT_VESTED Fa_NOT_VESTED_ordinal Sa_RETIREMENT Ea_RETIREMENT Fa_RETIREMENT_ordinal Sa_DEFERRED_VESTED Ea_DEFERRED_VESTED Fa_DEFERRED_VESTED_ordinal p e ha hc hk s m _ below hf ((Spec.applies_iff_loose hf).mp happ).1 ⟨rfl, State.Warmed39.refl s, rfl⟩ trivial
  refine ⟨n, _, h1, h2, h3, hpost _ _ _ _ _ _ ⟨Cond.after_iff.mpr rfl, Cond.after_iff.mpr (eq_i res_at (Term.int_eval (1)) rfl), trivial⟩ ⟨hq.1, hq.2.1, (hq.2.2.sift fun y hy => Or.inr (N y hy)).mono (by decide) (by decide)⟩⟩
theorem main_1_1 : Claimed_1_1 := comes_1 fun _ _ _ _ _ _ h hF => ⟨h.1, hF⟩
theorem main_1_2 : Claimed_1_2 := comes_1 fun _ _ _ _ _ _ h hF => ⟨h.2.1, hF⟩
end Jvm.Pilot.@@N@@
namespace Jvm.Pilot.@@N@@
open Jvm Jvm.ClassFile Sem Op Lib Jvm.Free Jvm.Stand Jvm.Pilot.@@N@@.Jvm.D
/-! MADE BY PROGRAM (witnessworld.py) out of the Statement's table words and the real class files: 13 classes; the members and pool entries that the words name. The judged class is class 1, her method 1. -/
namespace start1
open Jvm.ClassFile
def u (s : String) : CpInfo := .utf8 (stringToUtf16 s)
/-- a pool by its gaps: so many unusable entries, then the entry; so many at the end -/
def gap : Nat → List CpInfo → List CpInfo
  | 0, r => r
  | n + 1, r => .unusable :: gap n r
def poolList (es : List (Nat × CpInfo)) (last : Nat) : List CpInfo := es.foldr (fun e r => gap e.1 (e.2 :: r)) (gap last [])
def pool (es : List (Nat × CpInfo)) (last : Nat) : Array CpInfo := ⟨poolList es last⟩
def fileOf (pool : Array CpInfo) (this : Nat) (attrs : Array Attribute := #[]) (ms : Array MethodInfo := #[]) (fl : Nat := 33) (sup : Nat := 0) (ifs : Array Nat := #[]) (fds : Array FieldInfo := #[]) : ClassFile where
  minorVersion := 0
  majorVersion := 65
  constantPool := pool
  accessFlags := fl
  thisClass := this
  superClass := sup
  interfaces := ifs
  fields := fds
  methods := ms
  attributes := attrs
def plain (name : String) (sup : Option ClassId) : Class where
  name := name
  kind := .ordinary
  loader := none
  accessFlags := 33
  super := sup
  interfaces := #[]
  cf := none
  fields := #[]
  methods := #[]
  instanceTypes := #[]
  staticTypes := #[]
  resolved := #[]
  callSites := []
  init := .initialized
  statics := none
  mirror := none

def pool0 : Array CpInfo := pool [(5, u "<init>"), (0, u "()V"), (1, .class_ 10), (1, u "java/lang/Object")] 113

def k0m0 : Method := { name := "<init>", desc := "()V", sig := { parameters := [], returnType := none }, accessFlags := 1, code := none }
/-- java/lang/Object -/
def k0 : Class := { plain "java/lang/Object" none with
  accessFlags := 33
  interfaces := #[]
  cf := some (fileOf pool0 8 #[] #[{ accessFlags := 1, nameIndex := 5, descriptorIndex := 6, attributes := #[] }] 33 0 #[] #[])
  fields := #[]
  methods := #[k0m0]
  instanceTypes := #[]
  staticTypes := #[]
  resolved := Array.replicate 124 none
  statics := none }

def pool1 : Array CpInfo := pool [(2, .class_ 4), (1, u "java/lang/Object"), (0, u "<init>"), (0, u "()V"), (0, .class_ 8), (0, u "com/example/vestwright/vestwright/model/SeparationCase"), (0, .fieldref 7 10), (0, .nameAndType 11 12), (0, u "NORMAL"), (0, u "Lcom/example/vestwright/vestwright/model/SeparationCase;"), (0, .fieldref 7 14), (0, .nameAndType 15 12), (0, u "EARLY"), (0, .fieldref 7 17), (0, .nameAndType 18 12), (0, u "DISABILITY"), (0, .fieldref 7 20), (0, .nameAndType 21 12), (0, u "CHANGE_IN_CONTROL"), (0, .fieldref 7 23), (0, .nameAndType 24 12), (0, u "DEATH"), (0, .fieldref 7 26), (0, .nameAndType 27 12), (0, u "FORFEITED"), (0, .fieldref 7 29), (0, .nameAndType 30 12), (0, u "NOT_VESTED"), (0, .fieldref 7 32), (0, .nameAndType 33 12), (0, u "RETIREMENT"), (0, .fieldref 7 35), (0, .nameAndType 36 12), (0, u "DEFERRED_VESTED"), (0, .integer 2147483647), (0, .methodref 7 39), (0, .nameAndType 40 41), (0, u "creditedToBenefitAge"), (0, u "()Z"), (0, .methodref 7 43), (0, .nameAndType 44 41), (0, u "paid"), (0, .methodref 7 46), (0, .nameAndType 47 41), (0, u "reduced"), (0, .class_ 49), (0, u "com/example/vestwright/vestwright/model/SeparationCaseCreditedToBenefitAgePinLaw"), (2, u "law"), (0, u "(I)Z")] 5

def k1m0 : Method := { name := "<init>", desc := "()V", sig := { parameters := [], returnType := none }, accessFlags := 1, code := none }
def k1c1 : Code := { maxStack := 4, maxLocals := 6, code := code, exceptionTable := #[], attributes := #[] }
def k1m1 : Method := { name := "law", desc := "(I)Z", sig := { parameters := [.int], returnType := some .boolean }, accessFlags := 9, code := some k1c1 }
/-- com/example/vestwright/vestwright/model/SeparationCaseCreditedToBenefitAgePinLaw -/
def k1 : Class := { plain "com/example/vestwright/vestwright/model/SeparationCaseCreditedToBenefitAgePinLaw" (some 0) with
  accessFlags := 49
  interfaces := #[]
  cf := some (fileOf pool1 48 #[] #[{ accessFlags := 1, nameIndex := 5, descriptorIndex := 6, attributes := #[] }, { accessFlags := 9, nameIndex := 52, descriptorIndex := 53, attributes := #[] }] 49 2 #[] #[])
  fields := #[]
  methods := #[k1m0, k1m1]
  instanceTypes := #[]
  staticTypes := #[]
  resolved := Array.replicate 59 none
  statics := none }

def pool2 : Array CpInfo := pool [(1, .class_ 2), (0, u "java/lang/constant/Constable"), (0, .class_ 4), (0, u "java/lang/Object")] 6

/-- java/lang/constant/Constable -/
def k2 : Class := { plain "java/lang/constant/Constable" (some 0) with
  accessFlags := 1537
  interfaces := #[]
  cf := some (fileOf pool2 1 #[] #[] 1537 3 #[] #[])
  fields := #[]
  methods := #[]
  instanceTypes := #[]
  staticTypes := #[]
  resolved := Array.replicate 11 none
  statics := none }

def pool3 : Array CpInfo := pool [(1, .class_ 2), (0, u "java/lang/Comparable"), (0, .class_ 4), (0, u "java/lang/Object")] 7

/-- java/lang/Comparable -/
def k3 : Class := { plain "java/lang/Comparable" (some 0) with
  accessFlags := 1537
  interfaces := #[]
  cf := some (fileOf pool3 1 #[] #[] 1537 3 #[] #[])
  fields := #[]
  methods := #[]
  instanceTypes := #[]
  staticTypes := #[]
  resolved := Array.replicate 12 none
  statics := none }

def pool4 : Array CpInfo := pool [(1, .class_ 2), (0, u "java/io/Serializable"), (0, .class_ 4), (0, u "java/lang/Object")] 2

/-- java/io/Serializable -/
def k4 : Class := { plain "java/io/Serializable" (some 0) with
  accessFlags := 1537
  interfaces := #[]
  cf := some (fileOf pool4 1 #[] #[] 1537 3 #[] #[])
  fields := #[]
  methods := #[]
  instanceTypes := #[]
  staticTypes := #[]
  resolved := Array.replicate 7 none
  statics := none }

def pool5 : Array CpInfo := pool [(2, .class_ 4), (1, u "java/lang/Enum"), (0, u "name"), (0, u "Ljava/lang/String;"), (2, u "ordinal"), (0, u "I"), (1, .class_ 14), (1, u "java/lang/Object"), (4, u "hash"), (86, .class_ 108), (1, u "java/lang/Enum$EnumDesc"), (2, .class_ 112), (0, u "java/lang/constant/Constable"), (0, .class_ 114), (0, u "java/lang/Comparable"), (0, .class_ 116), (0, u "java/io/Serializable")] 87

/-- java/lang/Enum -/
def k5 : Class := { plain "java/lang/Enum" (some 0) with
  accessFlags := 1057
  interfaces := #[2, 3, 4]
  cf := some (fileOf pool5 2 #[.nestMembers #[106]] #[] 1057 12 #[111, 113, 115] #[{ accessFlags := 18, nameIndex := 5, descriptorIndex := 6, attributes := #[] }, { accessFlags := 18, nameIndex := 9, descriptorIndex := 10, attributes := #[] }, { accessFlags := 2, nameIndex := 19, descriptorIndex := 10, attributes := #[] }])
  fields := #[{ name := "name", type := (.object "java/lang/String"), accessFlags := 18, slot := 0, constantValue := 0 }, { name := "ordinal", type := .int, accessFlags := 18, slot := 1, constantValue := 0 }, { name := "hash", type := .int, accessFlags := 2, slot := 2, constantValue := 0 }]
  methods := #[]
  instanceTypes := #[(.object "java/lang/String"), .int, .int]
  staticTypes := #[]
  resolved := Array.replicate 204 none
  statics := none }

def pool6 : Array CpInfo := pool [(1, .class_ 2), (0, u "com/example/vestwright/vestwright/model/SeparationCase"), (0, .fieldref 1 4), (0, .nameAndType 5 6), (0, u "NORMAL"), (0, u "Lcom/example/vestwright/vestwright/model/SeparationCase;"), (0, .fieldref 1 8), (0, .nameAndType 9 6), (0, u "EARLY"), (0, .fieldref 1 11), (0, .nameAndType 12 6), (0, u "DISABILITY"), (0, .fieldref 1 14), (0, .nameAndType 15 6), (0, u "CHANGE_IN_CONTROL"), (2, u "DEATH"), (0, .fieldref 1 20), (0, .nameAndType 21 6), (0, u "FORFEITED"), (0, .fieldref 1 23), (0, .nameAndType 24 6), (0, u "NOT_VESTED"), (2, u "RETIREMENT"), (2, u "DEFERRED_VESTED"), (2, u "$VALUES"), (0, u "[Lcom/example/vestwright/vestwright/model/SeparationCase;"), (6, .class_ 43), (1, u "java/lang/Enum"), (8, u "label"), (0, u "Ljava/lang/String;"), (42, u "paid"), (0, u "()Z"), (1, u "reduced"), (0, u "creditedToBenefitAge")] 6

def k6c0 : Code := { maxStack := 2, maxLocals := 1, code := prog_121_method_5_code, exceptionTable := #[], attributes := #[] }
def k6m0 : Method := { name := "paid", desc := "()Z", sig := { parameters := [], returnType := some .boolean }, accessFlags := 1, code := some k6c0 }
def k6c1 : Code := { maxStack := 2, maxLocals := 1, code := prog_121_method_6_code, exceptionTable := #[], attributes := #[] }
def k6m1 : Method := { name := "reduced", desc := "()Z", sig := { parameters := [], returnType := some .boolean }, accessFlags := 1, code := some k6c1 }
def k6c2 : Code := { maxStack := 2, maxLocals := 1, code := prog_121_method_7_code, exceptionTable := #[], attributes := #[] }
def k6m2 : Method := { name := "creditedToBenefitAge", desc := "()Z", sig := { parameters := [], returnType := some .boolean }, accessFlags := 1, code := some k6c2 }
/-- com/example/vestwright/vestwright/model/SeparationCase -/
def k6 : Class := { plain "com/example/vestwright/vestwright/model/SeparationCase" (some 5) with
  accessFlags := 16433
  interfaces := #[]
  cf := some (fileOf pool6 1 #[] #[{ accessFlags := 1, nameIndex := 96, descriptorIndex := 97, attributes := #[] }, { accessFlags := 1, nameIndex := 99, descriptorIndex := 97, attributes := #[] }, { accessFlags := 1, nameIndex := 100, descriptorIndex := 97, attributes := #[] }] 16433 41 #[] #[{ accessFlags := 16409, nameIndex := 5, descriptorIndex := 6, attributes := #[] }, { accessFlags := 16409, nameIndex := 9, descriptorIndex := 6, attributes := #[] }, { accessFlags := 16409, nameIndex := 12, descriptorIndex := 6, attributes := #[] }, { accessFlags := 16409, nameIndex := 15, descriptorIndex := 6, attributes := #[] }, { accessFlags := 16409, nameIndex := 18, descriptorIndex := 6, attributes := #[] }, { accessFlags := 16409, nameIndex := 21, descriptorIndex := 6, attributes := #[] }, { accessFlags := 16409, nameIndex := 24, descriptorIndex := 6, attributes := #[] }, { accessFlags := 16409, nameIndex := 27, descriptorIndex := 6, attributes := #[] }, { accessFlags := 16409, nameIndex := 30, descriptorIndex := 6, attributes := #[] }, { accessFlags := 18, nameIndex := 52, descriptorIndex := 53, attributes := #[] }, { accessFlags := 4122, nameIndex := 33, descriptorIndex := 34, attributes := #[] }])
  fields := #[{ name := "NORMAL", type := (.object "com/example/vestwright/vestwright/model/SeparationCase"), accessFlags := 16409, slot := 0, constantValue := 0 }, { name := "EARLY", type := (.object "com/example/vestwright/vestwright/model/SeparationCase"), accessFlags := 16409, slot := 1, constantValue := 0 }, { name := "DISABILITY", type := (.object "com/example/vestwright/vestwright/model/SeparationCase"), accessFlags := 16409, slot := 2, constantValue := 0 }, { name := "CHANGE_IN_CONTROL", type := (.object "com/example/vestwright/vestwright/model/SeparationCase"), accessFlags := 16409, slot := 3, constantValue := 0 }, { name := "DEATH", type := (.object "com/example/vestwright/vestwright/model/SeparationCase"), accessFlags := 16409, slot := 4, constantValue := 0 }, { name := "FORFEITED", type := (.object "com/example/vestwright/vestwright/model/SeparationCase"), accessFlags := 16409, slot := 5, constantValue := 0 }, { name := "NOT_VESTED", type := (.object "com/example/vestwright/vestwright/model/SeparationCase"), accessFlags := 16409, slot := 6, constantValue := 0 }, { name := "RETIREMENT", type := (.object "com/example/vestwright/vestwright/model/SeparationCase"), accessFlags := 16409, slot := 7, constantValue := 0 }, { name := "DEFERRED_VESTED", type := (.object "com/example/vestwright/vestwright/model/SeparationCase"), accessFlags := 16409, slot := 8, constantValue := 0 }, { name := "label", type := (.object "java/lang/String"), accessFlags := 18, slot := 3, constantValue := 0 }, { name := "$VALUES", type := (.array (.object "com/example/vestwright/vestwright/model/SeparationCase")), accessFlags := 4122, slot := 9, constantValue := 0 }]
  methods := #[k6m0, k6m1, k6m2]
  instanceTypes := #[(.object "java/lang/String"), .int, .int, (.object "java/lang/String")]
  staticTypes := #[(.object "com/example/vestwright/vestwright/model/SeparationCase"), (.object "com/example/vestwright/vestwright/model/SeparationCase"), (.object "com/example/vestwright/vestwright/model/SeparationCase"), (.object "com/example/vestwright/vestwright/model/SeparationCase"), (.object "com/example/vestwright/vestwright/model/SeparationCase"), (.object "com/example/vestwright/vestwright/model/SeparationCase"), (.object "com/example/vestwright/vestwright/model/SeparationCase"), (.object "com/example/vestwright/vestwright/model/SeparationCase"), (.object "com/example/vestwright/vestwright/model/SeparationCase"), (.array (.object "com/example/vestwright/vestwright/model/SeparationCase"))]
  resolved := Array.replicate 107 none
  statics := some 0 }

def pool7 : Array CpInfo := pool [(1, u "java/lang/Cloneable"), (0, .class_ 1), (0, u "java/lang/Object"), (0, .class_ 3)] 3

/-- java/lang/Cloneable -/
def k7 : Class := { plain "java/lang/Cloneable" (some 0) with
  accessFlags := 1537
  interfaces := #[]
  cf := some (fileOf pool7 2 #[] #[] 1537 4 #[] #[])
  fields := #[]
  methods := #[]
  instanceTypes := #[]
  staticTypes := #[]
  resolved := Array.replicate 8 none
  statics := none }

/-- the primitive byte -/
def k8 : Class := { plain "byte" none with kind := .primitive 'B', accessFlags := 0x411 }
/-- [B -/
def k9 : Class := { plain "[B" (some 0) with kind := .array 8 .byte, interfaces := #[7, 4], accessFlags := 1041 }

/-- the primitive int -/
def k10 : Class := { plain "int" none with kind := .primitive 'I', accessFlags := 0x411 }
/-- [I -/
def k11 : Class := { plain "[I" (some 0) with kind := .array 10 .int, interfaces := #[7, 4], accessFlags := 1041 }

/-- [Lcom/example/vestwright/vestwright/model/SeparationCase; -/
def k12 : Class := { plain "[Lcom/example/vestwright/vestwright/model/SeparationCase;" (some 0) with kind := .array 6 (.object "com/example/vestwright/vestwright/model/SeparationCase"), interfaces := #[7, 4], accessFlags := 1041 }

def heap : Heap := #[{ cls := 6, slots := #[.ref 1, .ref 2, .ref 3, .ref 4, .ref 5, .ref 6, .ref 7, .ref 8, .ref 9, .null], vm := .statics 6 },
  { cls := 6, slots := #[.null, .int 0, .int 0, .null], vm := .none },
  { cls := 6, slots := #[.null, .int 1, .int 0, .null], vm := .none },
  { cls := 6, slots := #[.null, .int 2, .int 0, .null], vm := .none },
  { cls := 6, slots := #[.null, .int 3, .int 0, .null], vm := .none },
  { cls := 6, slots := #[.null, .int 4, .int 0, .null], vm := .none },
  { cls := 6, slots := #[.null, .int 5, .int 0, .null], vm := .none },
  { cls := 6, slots := #[.null, .int 6, .int 0, .null], vm := .none },
  { cls := 6, slots := #[.null, .int 7, .int 0, .null], vm := .none },
  { cls := 6, slots := #[.null, .int 8, .int 0, .null], vm := .none }]
def classes : Array Class := #[k0, k1, k2, k3, k4, k5, k6, k7, k8, k9, k10, k11, k12]
def interned : List (Array UInt16 × Addr) := []
def slotsUsed : Nat := 46
def theMethod : MethodId := ⟨1, 1⟩
def args0 : Array Value := #[.int 5]
def aboutOver (below : List Frame) : State where
  vm := { classes := classes, interned := interned.toArray }
  heap := heap
  slotsUsed := slotsUsed
  threads := #[{ frames := .invoking theMethod args0 :: below }]
def below0 : List Frame := [.native { method := ⟨0, 0⟩, args := #[] }]
def about1 : State := aboutOver below0
def p0 : Program := .bare "" "" ""
def e0 : Env := launch0.env 0 0 0
theorem w_frames : about1.frames = Frame.invoking theMethod args0 :: below0 := rfl
set_option maxRecDepth 65536 in
theorem w_args : argsFit about1.vm theMethod args0 = true := by decide +kernel
set_option maxRecDepth 65536 in
theorem w_heap : heapFits about1 = true := by decide +kernel
set_option maxRecDepth 65536 in
theorem w_runnable : about1.curStatus? = some .runnable := by decide +kernel
set_option maxRecDepth 65536 in
theorem w_alone : about1.alone = true := by decide +kernel
set_option maxRecDepth 65536 in
theorem w_named : about1.methodNamed? x = some theMethod := by decide +kernel
set_option maxRecDepth 65536 in
theorem w_hears : about1.hears theMethod below0 = true := by decide +kernel
set_option maxRecDepth 65536 in
theorem w_ripe : about1.ripe theMethod args0 below0 = true := by decide +kernel
theorem w_running : about1.status = .running := rfl
set_option maxRecDepth 65536 in
theorem w_room : about1.hasRoom e0.platform room_1 = true :=
  launch0.hasRoom_least _ room_1 (by decide +kernel) (by decide +kernel) (by decide +kernel) (by decide +kernel) (by decide +kernel) (by decide +kernel)
theorem allAtoms_all (ts : List Jvm.Cond) (a : Array Jvm.Value) (st : Jvm.State) : (allAtoms ts).before a st = ts.all (fun c => c.before a st) := by
  induction ts with
  | nil => rfl
  | cons c t ih =>
    show (Jvm.Cond.and c (allAtoms t)).before a st = _
    rw [Jvm.Cond.before_and, ih, List.all_cons]
def words1 : List Jvm.Cond := Jvm.Cond.code x code maxLocals ret :: tables_1
/-- a 'code' word, met by the world's own term for the bytes: nothing is compared byte by byte -/
theorem code_word {y : MethodName} {bytes : ByteArray} {mx : Nat} {rt : Option FieldType} {a : Array Value} {s : State} {m : MethodId} {meth : Method} {c : Code} (h1 : s.methodNamed? y = some m) (h2 : s.vm.method? m = some meth) (h3 : meth.code = some c) (h4 : c.code = bytes)
    (h5 : (c.maxLocals == mx && c.exceptionTable.isEmpty && decide (c.maxStack ≤ mostOperands) && decide (meth.sig.returnType = rt) && !meth.locks && decide (parseMethodDescriptor y.desc = some meth.sig)) = true) : (Jvm.Cond.code y bytes mx rt).before a s = true := by
  simp only [Bool.and_eq_true, beq_iff_eq, Bool.not_eq_true', decide_eq_true_eq] at h5
  obtain ⟨⟨⟨⟨⟨g1, g2⟩, g3⟩, g4⟩, g5⟩, g6⟩ := h5
  simp [Cond.before, Cond.holds, Cond.value, h1, h2, h3, h4, g1, g2, g3, g4, g5, g6]
def isCode : Jvm.Cond → Bool
  | .code _ _ _ _ => true
  | _ => false
theorem all_split {L : List Jvm.Cond} {P : Jvm.Cond → Bool} (h1 : L.all (fun c => isCode c || P c) = true) (h2 : ∀ c ∈ L.filter isCode, P c = true) : L.all P = true := by
  refine List.all_eq_true.mpr fun c hc => ?_
  have h := List.all_eq_true.mp h1 c hc
  rcases Bool.eq_false_or_eq_true (isCode c) with hi | hi
  · exact h2 c (List.mem_filter.mpr ⟨hc, hi⟩)
  · simpa [hi] using h
set_option maxRecDepth 65536 in
theorem w_c0 : (Jvm.Cond.code x code maxLocals ret).before args0 about1 = true := code_word (m := ⟨1, 1⟩) (meth := k1m1) (c := k1c1) (by decide +kernel) rfl rfl rfl (by decide +kernel)
set_option maxRecDepth 65536 in
theorem w_c1 : (Jvm.Cond.code ({ cls := "com/example/vestwright/vestwright/model/SeparationCase", name := "creditedToBenefitAge", desc := "()Z" } : Jvm.MethodName) prog_121_method_7_code (1 : Nat) (Option.some Jvm.ClassFile.FieldType.boolean)).before args0 about1 = true := code_word (m := ⟨6, 2⟩) (meth := k6m2) (c := k6c2) (by decide +kernel) rfl rfl rfl (by decide +kernel)
set_option maxRecDepth 65536 in
theorem w_c2 : (Jvm.Cond.code ({ cls := "com/example/vestwright/vestwright/model/SeparationCase", name := "paid", desc := "()Z" } : Jvm.MethodName) prog_121_method_5_code (1 : Nat) (Option.some Jvm.ClassFile.FieldType.boolean)).before args0 about1 = true := code_word (m := ⟨6, 0⟩) (meth := k6m0) (c := k6c0) (by decide +kernel) rfl rfl rfl (by decide +kernel)
set_option maxRecDepth 65536 in
theorem w_c3 : (Jvm.Cond.code ({ cls := "com/example/vestwright/vestwright/model/SeparationCase", name := "reduced", desc := "()Z" } : Jvm.MethodName) prog_121_method_6_code (1 : Nat) (Option.some Jvm.ClassFile.FieldType.boolean)).before args0 about1 = true := code_word (m := ⟨6, 1⟩) (meth := k6m1) (c := k6c1) (by decide +kernel) rfl rfl rfl (by decide +kernel)
def codes1 : List Jvm.Cond := [Jvm.Cond.code x code maxLocals ret, Jvm.Cond.code ({ cls := "com/example/vestwright/vestwright/model/SeparationCase", name := "creditedToBenefitAge", desc := "()Z" } : Jvm.MethodName) prog_121_method_7_code (1 : Nat) (Option.some Jvm.ClassFile.FieldType.boolean), Jvm.Cond.code ({ cls := "com/example/vestwright/vestwright/model/SeparationCase", name := "paid", desc := "()Z" } : Jvm.MethodName) prog_121_method_5_code (1 : Nat) (Option.some Jvm.ClassFile.FieldType.boolean), Jvm.Cond.code ({ cls := "com/example/vestwright/vestwright/model/SeparationCase", name := "reduced", desc := "()Z" } : Jvm.MethodName) prog_121_method_6_code (1 : Nat) (Option.some Jvm.ClassFile.FieldType.boolean)]
set_option maxRecDepth 65536 in
theorem codes_eq : words1.filter isCode = codes1 := rfl
theorem w_codes : ∀ c ∈ words1.filter isCode, c.before args0 about1 = true := by
  rw [codes_eq]
  intro c hc
  simp only [codes1, List.mem_cons, List.not_mem_nil, or_false] at hc
  rcases hc with rfl | rfl | rfl | rfl
  · exact w_c0
  · exact w_c1
  · exact w_c2
  · exact w_c3
set_option maxRecDepth 65536 in
theorem w_t1 : (words1.take 24).all (fun c => isCode c || c.before args0 about1) = true := by decide +kernel
set_option maxRecDepth 65536 in
theorem w_t2 : (words1.drop 24).all (fun c => isCode c || c.before args0 about1) = true := by decide +kernel
theorem w_tables : (allAtoms (Jvm.Cond.code x code maxLocals ret :: tables_1)).before args0 about1 = true := by
  rw [allAtoms_all]
  show words1.all (fun c => c.before args0 about1) = true
  refine all_split ?_ w_codes
  rw [← List.take_append_drop 24 words1, List.all_append, w_t1, w_t2]
  rfl
set_option maxRecDepth 65536 in
theorem w_case : (Jvm.Cond.and given_1 narrow_1).before args0 about1 = true := by decide +kernel
theorem w_applies : (headSpec (Jvm.Cond.code x code maxLocals ret :: tables_1) room_1).applies x e0.platform about1 = true :=
  (Spec.applies_iff w_frames).mpr ⟨w_running, w_runnable, w_alone, w_named, w_hears, w_ripe, w_room, w_tables⟩
theorem atStart : AtStart classFile x code maxLocals ret World_1 tables_1 room_1 Calls_1 rest_1 Pre_1 launch0 p0 e0 about1 theMethod args0 below0 :=
  ⟨lists_1, trivial, launch0.admits_env _ _ _, launch0.least_env, fairChoices_fair.cas, fairChoices_fair.clock, w_frames, w_args, w_heap, w_applies, trivial, trivial, w_case⟩
end start1
theorem witness_1 : WitnessClaimed_1 := ⟨start1.p0, start1.e0, start1.about1, start1.theMethod, start1.args0, start1.below0, start1.atStart⟩
end Jvm.Pilot.@@N@@
