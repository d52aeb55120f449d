import JvmDerived
import JvmDerived.Pilot.@@N@@Statement
import JvmDerived.Pilot.@@N@@Code
set_option linter.unusedVariables false
set_option linter.unusedSimpArgs false
namespace Jvm.Pilot.@@N@@
open Jvm Jvm.ClassFile Sem Op Lib Jvm.Free Jvm.Stand Jvm.LawKit Jvm.RoadKit Bundle Jvm.Pilot.@@N@@.Jvm.D
theorem own_retI {p : Program} {l : Launch} {e : Env} {R : Room} {s : State} {m : MethodId} {args : Array Value} {below : List Frame} {meth : Method} {c : Code} {T : State} {locs : List Loc} {cells slots : Nat} (X : Stand p l e R s m args below meth c T locs cells slots) (hx : p.tables.exec = Jvm.exec) {pc : Nat} {Ls : Array Slot} {z : Int32} {rest : List Value} (hret : meth.sig.returnType = some .int) (hd : decode c.code pc = .ok (.ireturn, 1)) {fs : List Frame}
    (hl : ∀ (f : JFrame) (acts : List Action), f.method = m → f.locked = none → f.entered = [] → (doReturn e (T.setTop f) acts (some (.int z))).1 = T.setFrames fs) : Steps p.tables e below (T.setTop (mkF m pc Ls (.int z :: rest))) (T.setFrames fs) :=
  retOut X hx hret rfl (Or.inl ⟨rfl, Or.inl rfl, z, rfl⟩) hd hl
theorem own_retJ {p : Program} {l : Launch} {e : Env} {R : Room} {s : State} {m : MethodId} {args : Array Value} {below : List Frame} {meth : Method} {c : Code} {T : State} {locs : List Loc} {cells slots : Nat} (X : Stand p l e R s m args below meth c T locs cells slots) (hx : p.tables.exec = Jvm.exec) {pc : Nat} {Ls : Array Slot} {z : Int64} {rest : List Value} (hret : meth.sig.returnType = some .long) (hd : decode c.code pc = .ok (.lreturn, 1)) {fs : List Frame}
    (hl : ∀ (f : JFrame) (acts : List Action), f.method = m → f.locked = none → f.entered = [] → (doReturn e (T.setTop f) acts (some (.long z))).1 = T.setFrames fs) : Steps p.tables e below (T.setTop (mkF m pc Ls (.long z :: rest))) (T.setFrames fs) :=
  retOut X hx hret rfl (Or.inr (Or.inl ⟨rfl, rfl, z, rfl⟩)) hd hl
theorem own_retA {p : Program} {l : Launch} {e : Env} {R : Room} {s : State} {m : MethodId} {args : Array Value} {below : List Frame} {meth : Method} {c : Code} {T : State} {locs : List Loc} {cells slots : Nat} (X : Stand p l e R s m args below meth c T locs cells slots) (hx : p.tables.exec = Jvm.exec) {pc : Nat} {Ls : Array Slot} {w : Value} {rest : List Value} {t : FieldType} (hret : meth.sig.returnType = some t) (ht : t.isReference = true) (hn : narrow t w = w) (hw : w.isRef = true) (hd : decode c.code pc = .ok (.areturn, 1)) {fs : List Frame}
    (hl : ∀ (f : JFrame) (acts : List Action), f.method = m → f.locked = none → f.entered = [] → (doReturn e (T.setTop f) acts (some w)).1 = T.setFrames fs) : Steps p.tables e below (T.setTop (mkF m pc Ls (w :: rest))) (T.setFrames fs) :=
  retOut X hx hret hn (Or.inr (Or.inr (Or.inr (Or.inr ⟨rfl, ht, hw⟩)))) hd hl
theorem own_go {tb : Tables} {e : Env} {below : List Frame} {A B : State} {R : State → Outcome → Prop} (st : ∀ t, Steps tb e below A t → Steps tb e below B t) (h : ∃ U o, Steps tb e below A U ∧ R U o) : ∃ U o, Steps tb e below B U ∧ R U o := by
  obtain ⟨U, o, h1, h2⟩ := h
  exact ⟨U, o, st U h1, h2⟩
theorem own_via {tb : Tables} {e : Env} {below : List Frame} {A B : State} {R : State → Outcome → Prop} (st : Steps tb e below B A) (h : ∃ U o, Steps tb e below A U ∧ R U o) : ∃ U o, Steps tb e below B U ∧ R U o := by
  obtain ⟨U, o, h1, h2⟩ := h
  exact ⟨U, o, st.trans h1, h2⟩
theorem own_eqInt {t : Term} {k : Int32} {args : Array Value} {s : State} (h : (Jvm.Cond.eq t (.int k)).value args s none s [] = some true) : t.eval args s none [] s = some (.int k) := by
  cases ha : t.eval args s none [] s with
  | none => simp [Cond.value, ha] at h
  | some x => cases x <;> simp_all [Cond.value, Term.eval, Value.isRef]
theorem own_selP {s : State} {args : Array Value} {y : MethodName} {n : Nat} (hinst : (Jvm.Cond.instanceMethod y).before args s = true) (hp : (Jvm.Cond.privateMethod y).before args s = true) (hi : (Jvm.Cond.instantiable y.cls n).before args s = true) (hy : y.cls ≠ "java/lang/invoke/MethodHandle" ∧ y.cls ≠ "java/lang/invoke/VarHandle") : (Jvm.Cond.selects y.cls y y).before args s = true := by
  obtain ⟨c, k, h1, h2, -, h4, -, -⟩ := Cond.instantiable_spec hi
  simp only [Bool.or_eq_false_iff] at h4
  exact selects_self_of_private h1 h2 h4.1 (Cond.privateMethod_at hp) hinst hy
theorem own_stoV {Z : State} {h : Heap} {a y : Addr} {k : ClassId} {ty : FieldType} {n : Int32} {vs : List Value} {d : Value} {C : String} (F : Arv Z h a k ty n vs d) (O : Ovr Z k C) (I : Ins Z h y C true) : Sto Z h a (.ref y) := by
  obtain ⟨c, A, q, -⟩ := F
  exact Sto.ofV A q O I
theorem own_cat1 {v : Value} (h : v.isRef = true) : v.category = 1 := by cases v <;> simp_all [Value.isRef, Value.category]
theorem own_nref {t : FieldType} {v : Value} (h : v.isRef = true) : narrow t v = v := by cases v <;> simp_all [Value.isRef, narrow]
theorem own_narb (x : Int32) : nar .byte x.toInt8.toInt32 = x.toInt8.toInt32 := by simp [nar]
theorem own_w {Z : State} {a0 : Array Value} (hw : ∀ d ∈ tables_1, d.before a0 Z = true) (i : Nat) {d : Jvm.Cond} (h : tables_1[i]? = some d) : d.before a0 Z = true := hw _ (List.mem_of_getElem? h)
theorem own_bT {P : Prop} [Decidable P] (h : P) : (if P then (1 : Int32) else 0) = 1 := if_pos h
theorem own_bF {P : Prop} [Decidable P] (h : ¬ P) : (if P then (1 : Int32) else 0) = 0 := if_neg h
theorem own_narB {P : Prop} [Decidable P] : nar .boolean (if P then (1 : Int32) else 0) = (if P then (1 : Int32) else 0) := by split <;> rfl
theorem d2_0 : decode jdk_37_method_2_code 0 = .ok (.aload_n 0, 1) := by decide +kernel
theorem d2_1 : decode jdk_37_method_2_code 1 = .ok (.getfield 7, 3) := by decide +kernel
theorem d2_4 : decode jdk_37_method_2_code 4 = .ok (.ireturn, 1) := by decide +kernel
abbrev own_y0 : MethodName := ⟨"java/lang/Enum", "ordinal", "()I"⟩
theorem ef_rmOrd (m : MethodId) (a : Addr) : entryFrame m #[(.ref a)] 1 = mkF m 0 #[.val (.ref a)] [] := by first | (simp [entryFrame, mkF, argsToLocals, Value.category]; done) | rfl
def Q_rmOrd (Z : State) (a : Addr) (w : Int32) (h0 : Heap) (n0 : Nat) (v_ : Option Value) (h_ : Heap) (L_ : List Loc) : Prop := v_ = some (.int w) ∧ Fr n0 L_ ∧ h_ = h0
theorem pn_0 : plainName "java/lang/Enum" = true := by first | (simp [plainName, overriddenIn]; done) | decide +kernel
set_option maxRecDepth 65536 in
set_option maxHeartbeats 40000000 in
theorem rmOrd (l : Launch) (Z : State) (a0 : Array Value) (hw : ∀ d ∈ tables_1, d.before a0 Z = true) (ws : List Jvm.Cond) (a : Addr) (w : Int32) (h0 : Heap) (n0 : Nat) (Z0 : n0 ≤ h0.size) (O0 : Old Z n0 h0) (u1 : Fld Z Z.heap a "java/lang/Enum" "ordinal" "I" (.int w)) :
    MetFree l own_y0 (head1 (Jvm.Cond.code own_y0 jdk_37_method_2_code 1 (some .int) :: ws) ({ frames := 0, cells := 0, slots := 0, locals := 0 } : Room)) (fun a_ U_ => a_ = #[(.ref a)] ∧ Z.Warmed39 U_.vm ∧ U_.heap = h0) (fun _ _ _ _ _ => True) (fun _ U_ o_ U2_ => ∃ v_ L_, o_ = .returned v_ ∧ Q_rmOrd Z a w h0 n0 v_ U2_.heap L_ ∧ FrameEnd U_ o_ U2_ L_ ({ frames := 0, cells := 0, slots := 0, locals := 0 } : Room).cells ({ frames := 0, cells := 0, slots := 0, locals := 0 } : Room).slots) := by
  refine MetFree.of_bodySF (plainFor_of_name pn_0) hisR ?_
  intro p e s m args below meth c s₁ Bd hml0 hP hK
  obtain ⟨rfl, hZ, hh⟩ := hP
  have hx := Bd.exec
  have hby := Bd.bytes
  have hml : c.maxLocals = 1 := hml0
  have hown : s.vm.findClass "java/lang/Enum" = some m.cls := findClass_of_methodNamed Bd.named
  have hnm := (name_of_methodNamed Bd.named Bd.method).1
  have X0 : Stand p l e ({ frames := 0, cells := 0, slots := 0, locals := 0 } : Room) s m #[(.ref a)] below meth c s₁ [] 0 0 := Stand.of_body Bd
  have e0 : s₁.heap = h0 := by rw [← hh, Bd.state]; rfl
  have N0 := Fr.nil n0
  refine own_go (A := s₁.setTop (mkF m 0 #[.val (.ref a)] [])) (fun t_ k_ => castTop (ef_rmOrd m a) k_) ?_
  refine own_go (A := s₁.setTop (mkF m 1 #[.val (.ref a)] [(.ref a)])) (fun t_ k_ => ?_) ?_
  · show Steps p.tables e below (s₁.setTop (mkF m 0 #[.val (.ref a)] [])) t_
    refine XS.aloadN X0.here hx rfl (hb hby d2_0) rfl rfl ?_
    exact k_
  obtain ⟨T1, X1, e1, st1⟩ := getF X0 hx hZ hown (host := "") (Or.inl (own_w hw 24 rfl)) Via.refl e0 (u1.ext O0.2) (g := (mkF m 1 #[.val (.ref a)] [(.ref a)])) rfl rfl (hb hby d2_1)
  refine own_go st1 ?_
  obtain ⟨fs2, hr2, hrun2, hended2, hW2, hsame2⟩ := X1.leave (v := some (.int w)) (fun h => by rw [Bd.returns] at h; cases h)
  refine ⟨_, _, ?_, hrun2, hended2, _, _, rfl, ?_, ⟨_, rfl⟩, hW2, hsame2.mono (by decide) (by decide)⟩
  · exact own_retI X1 hx Bd.returns (hb hby d2_4) hr2
  · show Q_rmOrd Z a w h0 n0 _ T1.heap _
    rw [e1]
    exact ⟨rfl, N0, rfl⟩
theorem d1_0 : decode prog_31_method_4_code 0 = .ok (.aload_n 0, 1) := by decide +kernel
theorem pd_0 : parseMethodDescriptor "()I" = some ⟨[], some .int⟩ := by decide +kernel
theorem d1_1 : decode prog_31_method_4_code 1 = .ok (.invokevirtual 35, 3) := by decide +kernel
abbrev own_y1 : MethodName := ⟨"com/example/firmline/firmline/sim/Protection", "ordinal", "()I"⟩
theorem d1_4 : decode prog_31_method_4_code 4 = .ok (.tableswitch 32 0 3 #[42, 48, 54, 60], 32) := by decide +kernel
theorem d1_46 : decode prog_31_method_4_code 46 = .ok (.getstatic 44, 3) := by decide +kernel
theorem d1_49 : decode prog_31_method_4_code 49 = .ok (.goto 28, 3) := by decide +kernel
theorem d1_77 : decode prog_31_method_4_code 77 = .ok (.areturn, 1) := by decide +kernel
abbrev own_y2 : MethodName := ⟨"com/example/firmline/firmline/sim/Protection", "run", "(Z)Lcom/example/firmline/firmline/sim/InstanceRun;"⟩
theorem ef_rmRun0 (m : MethodId) (a : Addr) : entryFrame m #[(.ref a), (.int (1 : Int32))] 2 = mkF m 0 #[.val (.ref a), .val (.int (1 : Int32))] [] := by first | (simp [entryFrame, mkF, argsToLocals, Value.category]; done) | rfl
def Q_rmRun0 (Z : State) (a : Addr) (r : Addr) (h0 : Heap) (n0 : Nat) (v_ : Option Value) (h_ : Heap) (L_ : List Loc) : Prop := v_ = some (.ref r) ∧ Fr n0 L_ ∧ h_ = h0
theorem pn_1 : plainName "com/example/firmline/firmline/sim/Protection" = true := by first | (simp [plainName, overriddenIn]; done) | decide +kernel
set_option maxRecDepth 65536 in
set_option maxHeartbeats 40000000 in
theorem rmRun0 (l : Launch) (Z : State) (a0 : Array Value) (hw : ∀ d ∈ tables_1, d.before a0 Z = true) (ws : List Jvm.Cond) (a : Addr) (r : Addr) (h0 : Heap) (n0 : Nat) (Z0 : n0 ≤ h0.size) (O0 : Old Z n0 h0) (u1 : Exa Z Z.heap a "com/example/firmline/firmline/sim/Protection") (u2 : Fld Z Z.heap a "java/lang/Enum" "ordinal" "I" (.int (0 : Int32))) (u3 : Sta Z Z.heap "com/example/firmline/firmline/sim/InstanceRun" "U" "Lcom/example/firmline/firmline/sim/InstanceRun;" (.ref r)) :
    MetFree l own_y2 (head1 (Jvm.Cond.code own_y2 prog_31_method_4_code 2 (some (.object "com/example/firmline/firmline/sim/InstanceRun")) :: ws) ({ frames := 1, cells := 0, slots := 0, locals := 12 } : Room)) (fun a_ U_ => a_ = #[(.ref a), (.int (1 : Int32))] ∧ Z.Warmed39 U_.vm ∧ U_.heap = h0) (fun _ _ _ _ _ => True) (fun _ U_ o_ U2_ => ∃ v_ L_, o_ = .returned v_ ∧ Q_rmRun0 Z a r h0 n0 v_ U2_.heap L_ ∧ FrameEnd U_ o_ U2_ L_ ({ frames := 1, cells := 0, slots := 0, locals := 12 } : Room).cells ({ frames := 1, cells := 0, slots := 0, locals := 12 } : Room).slots) := by
  refine MetFree.of_bodySF (plainFor_of_name pn_1) hisR ?_
  intro p e s m args below meth c s₁ Bd hml0 hP hK
  obtain ⟨rfl, hZ, hh⟩ := hP
  have hx := Bd.exec
  have hby := Bd.bytes
  have hml : c.maxLocals = 2 := hml0
  have hown : s.vm.findClass "com/example/firmline/firmline/sim/Protection" = some m.cls := findClass_of_methodNamed Bd.named
  have hnm := (name_of_methodNamed Bd.named Bd.method).1
  have X0 : Stand p l e ({ frames := 1, cells := 0, slots := 0, locals := 12 } : Room) s m #[(.ref a), (.int (1 : Int32))] below meth c s₁ [] 0 0 := Stand.of_body Bd
  have e0 : s₁.heap = h0 := by rw [← hh, Bd.state]; rfl
  have N0 := Fr.nil n0
  refine own_go (A := s₁.setTop (mkF m 0 #[.val (.ref a), .val (.int (1 : Int32))] [])) (fun t_ k_ => castTop (ef_rmRun0 m a) k_) ?_
  refine own_go (A := s₁.setTop (mkF m 1 #[.val (.ref a), .val (.int (1 : Int32))] [(.ref a)])) (fun t_ k_ => ?_) ?_
  · show Steps p.tables e below (s₁.setTop (mkF m 0 #[.val (.ref a), .val (.int (1 : Int32))] [])) t_
    refine XS.aloadN X0.here hx rfl (hb hby d1_0) rfl rfl ?_
    exact k_
  obtain ⟨cq1, kq1, q1a, q1b, q1c⟩ := isOf hZ e0 (u1.ext O0.2)
  obtain ⟨_, _, ⟨T1, L1, k1, n1⟩, -, X1, ⟨Lc1, hQ1, l1, y1, z1⟩, st1⟩ := X0.virtualBackUp hx (owner := "java/lang/Enum") (x := own_y1) (y := own_y0) hown (mvT hZ (own_w hw 17 rfl)) (mvT hZ (own_w hw 18 rfl)) (mvT hZ (own_w hw 19 rfl)) (by decide) (mvT hZ (own_w hw 21 rfl)) (mvT hZ (own_w hw 20 rfl)) (backOf (W := 0) (rmOrd l Z a0 hw [] a (0 : Int32) h0 n0 Z0 O0 u2) hZ (own_w hw 23 rfl) (own_w hw 22 rfl) (by decide) (by decide)) q1a q1c (g := (mkF m 1 #[.val (.ref a), .val (.int (1 : Int32))] [(.ref a)])) rfl (by rw [hml]; rfl) (Steps.refl _) (argsL := []) (rest := []) (lenOf pd_0 rfl) rfl (by show 2 * 0 + _ ≤ _; exact Nat.le_of_eq rfl) (hb hby d1_1) (fun _ _ => ⟨rfl, e0, (by decide : 0 + 0 ≤ _), (by decide : 0 + 0 ≤ _)⟩)
  dsimp only [Pt.U, Pt.locs, Pt.cells, Pt.slots] at X1 l1 y1 z1 st1 hQ1
  subst l1 y1 z1
  obtain ⟨rfl, N1q, eh1⟩ := hQ1
  have N1 := Fr.app N0 N1q
  refine own_via st1 ?_
  refine own_go (A := T1.setTop (mkF m 46 #[.val (.ref a), .val (.int (1 : Int32))] [])) (fun t_ k_ => ?_) ?_
  · show Steps p.tables e below (T1.setTop (mkF m 4 #[.val (.ref a), .val (.int (1 : Int32))] [(.int (0 : Int32))])) t_
    refine XS.tswIn X1.here hx rfl (pc0 := 4) (pc' := 46) rfl (hb hby d1_4) rfl (by decide) (o := 42) (by decide) (by decide) (by decide) ?_
    exact k_
  obtain ⟨T2, X2, e2, st2⟩ := getS2 X1 hx hZ hown (host := "") (Or.inl (own_w hw 26 rfl)) Via.refl eh1 (u3.ext O0.2) (g := (mkF m 46 #[.val (.ref a), .val (.int (1 : Int32))] [])) rfl (hb hby d1_46)
  refine own_go st2 ?_
  refine own_go (A := T2.setTop (mkF m 77 #[.val (.ref a), .val (.int (1 : Int32))] [(.ref r)])) (fun t_ k_ => ?_) ?_
  · show Steps p.tables e below (T2.setTop (mkF m 49 #[.val (.ref a), .val (.int (1 : Int32))] [(.ref r)])) t_
    refine XS.goto X2.here hx rfl (pc0 := 49) (pc' := 77) rfl (hb hby d1_49) (by decide) (by decide) ?_
    exact k_
  obtain ⟨fs3, hr3, hrun3, hended3, hW3, hsame3⟩ := X2.leave (v := some (.ref r)) (fun h => by rw [Bd.returns] at h; cases h)
  refine ⟨_, _, ?_, hrun3, hended3, _, _, rfl, ?_, ⟨_, rfl⟩, hW3, hsame3.mono (by decide) (by decide)⟩
  · exact own_retA X2 hx Bd.returns rfl rfl rfl (hb hby d1_77) hr3
  · show Q_rmRun0 Z a r h0 n0 _ T2.heap _
    rw [e2]
    exact ⟨rfl, N1, rfl⟩
theorem d1_52 : decode prog_31_method_4_code 52 = .ok (.getstatic 50, 3) := by decide +kernel
theorem d1_55 : decode prog_31_method_4_code 55 = .ok (.goto 22, 3) := by decide +kernel
theorem ef_rmRun1 (m : MethodId) (a : Addr) : entryFrame m #[(.ref a), (.int (1 : Int32))] 2 = mkF m 0 #[.val (.ref a), .val (.int (1 : Int32))] [] := by first | (simp [entryFrame, mkF, argsToLocals, Value.category]; done) | rfl
def Q_rmRun1 (Z : State) (a : Addr) (r : Addr) (h0 : Heap) (n0 : Nat) (v_ : Option Value) (h_ : Heap) (L_ : List Loc) : Prop := v_ = some (.ref r) ∧ Fr n0 L_ ∧ h_ = h0
set_option maxRecDepth 65536 in
set_option maxHeartbeats 40000000 in
theorem rmRun1 (l : Launch) (Z : State) (a0 : Array Value) (hw : ∀ d ∈ tables_1, d.before a0 Z = true) (ws : List Jvm.Cond) (a : Addr) (r : Addr) (h0 : Heap) (n0 : Nat) (Z0 : n0 ≤ h0.size) (O0 : Old Z n0 h0) (u1 : Exa Z Z.heap a "com/example/firmline/firmline/sim/Protection") (u2 : Fld Z Z.heap a "java/lang/Enum" "ordinal" "I" (.int (1 : Int32))) (u3 : Sta Z Z.heap "com/example/firmline/firmline/sim/InstanceRun" "D" "Lcom/example/firmline/firmline/sim/InstanceRun;" (.ref r)) :
    MetFree l own_y2 (head1 (Jvm.Cond.code own_y2 prog_31_method_4_code 2 (some (.object "com/example/firmline/firmline/sim/InstanceRun")) :: ws) ({ frames := 1, cells := 0, slots := 0, locals := 12 } : Room)) (fun a_ U_ => a_ = #[(.ref a), (.int (1 : Int32))] ∧ Z.Warmed39 U_.vm ∧ U_.heap = h0) (fun _ _ _ _ _ => True) (fun _ U_ o_ U2_ => ∃ v_ L_, o_ = .returned v_ ∧ Q_rmRun1 Z a r h0 n0 v_ U2_.heap L_ ∧ FrameEnd U_ o_ U2_ L_ ({ frames := 1, cells := 0, slots := 0, locals := 12 } : Room).cells ({ frames := 1, cells := 0, slots := 0, locals := 12 } : Room).slots) := by
  refine MetFree.of_bodySF (plainFor_of_name pn_1) hisR ?_
  intro p e s m args below meth c s₁ Bd hml0 hP hK
  obtain ⟨rfl, hZ, hh⟩ := hP
  have hx := Bd.exec
  have hby := Bd.bytes
  have hml : c.maxLocals = 2 := hml0
  have hown : s.vm.findClass "com/example/firmline/firmline/sim/Protection" = some m.cls := findClass_of_methodNamed Bd.named
  have hnm := (name_of_methodNamed Bd.named Bd.method).1
  have X0 : Stand p l e ({ frames := 1, cells := 0, slots := 0, locals := 12 } : Room) s m #[(.ref a), (.int (1 : Int32))] below meth c s₁ [] 0 0 := Stand.of_body Bd
  have e0 : s₁.heap = h0 := by rw [← hh, Bd.state]; rfl
  have N0 := Fr.nil n0
  refine own_go (A := s₁.setTop (mkF m 0 #[.val (.ref a), .val (.int (1 : Int32))] [])) (fun t_ k_ => castTop (ef_rmRun1 m a) k_) ?_
  refine own_go (A := s₁.setTop (mkF m 1 #[.val (.ref a), .val (.int (1 : Int32))] [(.ref a)])) (fun t_ k_ => ?_) ?_
  · show Steps p.tables e below (s₁.setTop (mkF m 0 #[.val (.ref a), .val (.int (1 : Int32))] [])) t_
    refine XS.aloadN X0.here hx rfl (hb hby d1_0) rfl rfl ?_
    exact k_
  obtain ⟨cq1, kq1, q1a, q1b, q1c⟩ := isOf hZ e0 (u1.ext O0.2)
  obtain ⟨_, _, ⟨T1, L1, k1, n1⟩, -, X1, ⟨Lc1, hQ1, l1, y1, z1⟩, st1⟩ := X0.virtualBackUp hx (owner := "java/lang/Enum") (x := own_y1) (y := own_y0) hown (mvT hZ (own_w hw 17 rfl)) (mvT hZ (own_w hw 18 rfl)) (mvT hZ (own_w hw 19 rfl)) (by decide) (mvT hZ (own_w hw 21 rfl)) (mvT hZ (own_w hw 20 rfl)) (backOf (W := 0) (rmOrd l Z a0 hw [] a (1 : Int32) h0 n0 Z0 O0 u2) hZ (own_w hw 23 rfl) (own_w hw 22 rfl) (by decide) (by decide)) q1a q1c (g := (mkF m 1 #[.val (.ref a), .val (.int (1 : Int32))] [(.ref a)])) rfl (by rw [hml]; rfl) (Steps.refl _) (argsL := []) (rest := []) (lenOf pd_0 rfl) rfl (by show 2 * 0 + _ ≤ _; exact Nat.le_of_eq rfl) (hb hby d1_1) (fun _ _ => ⟨rfl, e0, (by decide : 0 + 0 ≤ _), (by decide : 0 + 0 ≤ _)⟩)
  dsimp only [Pt.U, Pt.locs, Pt.cells, Pt.slots] at X1 l1 y1 z1 st1 hQ1
  subst l1 y1 z1
  obtain ⟨rfl, N1q, eh1⟩ := hQ1
  have N1 := Fr.app N0 N1q
  refine own_via st1 ?_
  refine own_go (A := T1.setTop (mkF m 52 #[.val (.ref a), .val (.int (1 : Int32))] [])) (fun t_ k_ => ?_) ?_
  · show Steps p.tables e below (T1.setTop (mkF m 4 #[.val (.ref a), .val (.int (1 : Int32))] [(.int (1 : Int32))])) t_
    refine XS.tswIn X1.here hx rfl (pc0 := 4) (pc' := 52) rfl (hb hby d1_4) rfl (by decide) (o := 48) (by decide) (by decide) (by decide) ?_
    exact k_
  obtain ⟨T2, X2, e2, st2⟩ := getS2 X1 hx hZ hown (host := "") (Or.inl (own_w hw 45 rfl)) Via.refl eh1 (u3.ext O0.2) (g := (mkF m 52 #[.val (.ref a), .val (.int (1 : Int32))] [])) rfl (hb hby d1_52)
  refine own_go st2 ?_
  refine own_go (A := T2.setTop (mkF m 77 #[.val (.ref a), .val (.int (1 : Int32))] [(.ref r)])) (fun t_ k_ => ?_) ?_
  · show Steps p.tables e below (T2.setTop (mkF m 55 #[.val (.ref a), .val (.int (1 : Int32))] [(.ref r)])) t_
    refine XS.goto X2.here hx rfl (pc0 := 55) (pc' := 77) rfl (hb hby d1_55) (by decide) (by decide) ?_
    exact k_
  obtain ⟨fs3, hr3, hrun3, hended3, hW3, hsame3⟩ := X2.leave (v := some (.ref r)) (fun h => by rw [Bd.returns] at h; cases h)
  refine ⟨_, _, ?_, hrun3, hended3, _, _, rfl, ?_, ⟨_, rfl⟩, hW3, hsame3.mono (by decide) (by decide)⟩
  · exact own_retA X2 hx Bd.returns rfl rfl rfl (hb hby d1_77) hr3
  · show Q_rmRun1 Z a r h0 n0 _ T2.heap _
    rw [e2]
    exact ⟨rfl, N1, rfl⟩
theorem d1_58 : decode prog_31_method_4_code 58 = .ok (.getstatic 53, 3) := by decide +kernel
theorem d1_61 : decode prog_31_method_4_code 61 = .ok (.goto 16, 3) := by decide +kernel
theorem ef_rmRun2 (m : MethodId) (a : Addr) : entryFrame m #[(.ref a), (.int (1 : Int32))] 2 = mkF m 0 #[.val (.ref a), .val (.int (1 : Int32))] [] := by first | (simp [entryFrame, mkF, argsToLocals, Value.category]; done) | rfl
def Q_rmRun2 (Z : State) (a : Addr) (r : Addr) (h0 : Heap) (n0 : Nat) (v_ : Option Value) (h_ : Heap) (L_ : List Loc) : Prop := v_ = some (.ref r) ∧ Fr n0 L_ ∧ h_ = h0
set_option maxRecDepth 65536 in
set_option maxHeartbeats 40000000 in
theorem rmRun2 (l : Launch) (Z : State) (a0 : Array Value) (hw : ∀ d ∈ tables_1, d.before a0 Z = true) (ws : List Jvm.Cond) (a : Addr) (r : Addr) (h0 : Heap) (n0 : Nat) (Z0 : n0 ≤ h0.size) (O0 : Old Z n0 h0) (u1 : Exa Z Z.heap a "com/example/firmline/firmline/sim/Protection") (u2 : Fld Z Z.heap a "java/lang/Enum" "ordinal" "I" (.int (2 : Int32))) (u3 : Sta Z Z.heap "com/example/firmline/firmline/sim/InstanceRun" "C" "Lcom/example/firmline/firmline/sim/InstanceRun;" (.ref r)) :
    MetFree l own_y2 (head1 (Jvm.Cond.code own_y2 prog_31_method_4_code 2 (some (.object "com/example/firmline/firmline/sim/InstanceRun")) :: ws) ({ frames := 1, cells := 0, slots := 0, locals := 12 } : Room)) (fun a_ U_ => a_ = #[(.ref a), (.int (1 : Int32))] ∧ Z.Warmed39 U_.vm ∧ U_.heap = h0) (fun _ _ _ _ _ => True) (fun _ U_ o_ U2_ => ∃ v_ L_, o_ = .returned v_ ∧ Q_rmRun2 Z a r h0 n0 v_ U2_.heap L_ ∧ FrameEnd U_ o_ U2_ L_ ({ frames := 1, cells := 0, slots := 0, locals := 12 } : Room).cells ({ frames := 1, cells := 0, slots := 0, locals := 12 } : Room).slots) := by
  refine MetFree.of_bodySF (plainFor_of_name pn_1) hisR ?_
  intro p e s m args below meth c s₁ Bd hml0 hP hK
  obtain ⟨rfl, hZ, hh⟩ := hP
  have hx := Bd.exec
  have hby := Bd.bytes
  have hml : c.maxLocals = 2 := hml0
  have hown : s.vm.findClass "com/example/firmline/firmline/sim/Protection" = some m.cls := findClass_of_methodNamed Bd.named
  have hnm := (name_of_methodNamed Bd.named Bd.method).1
  have X0 : Stand p l e ({ frames := 1, cells := 0, slots := 0, locals := 12 } : Room) s m #[(.ref a), (.int (1 : Int32))] below meth c s₁ [] 0 0 := Stand.of_body Bd
  have e0 : s₁.heap = h0 := by rw [← hh, Bd.state]; rfl
  have N0 := Fr.nil n0
  refine own_go (A := s₁.setTop (mkF m 0 #[.val (.ref a), .val (.int (1 : Int32))] [])) (fun t_ k_ => castTop (ef_rmRun2 m a) k_) ?_
  refine own_go (A := s₁.setTop (mkF m 1 #[.val (.ref a), .val (.int (1 : Int32))] [(.ref a)])) (fun t_ k_ => ?_) ?_
  · show Steps p.tables e below (s₁.setTop (mkF m 0 #[.val (.ref a), .val (.int (1 : Int32))] [])) t_
    refine XS.aloadN X0.here hx rfl (hb hby d1_0) rfl rfl ?_
    exact k_
  obtain ⟨cq1, kq1, q1a, q1b, q1c⟩ := isOf hZ e0 (u1.ext O0.2)
  obtain ⟨_, _, ⟨T1, L1, k1, n1⟩, -, X1, ⟨Lc1, hQ1, l1, y1, z1⟩, st1⟩ := X0.virtualBackUp hx (owner := "java/lang/Enum") (x := own_y1) (y := own_y0) hown (mvT hZ (own_w hw 17 rfl)) (mvT hZ (own_w hw 18 rfl)) (mvT hZ (own_w hw 19 rfl)) (by decide) (mvT hZ (own_w hw 21 rfl)) (mvT hZ (own_w hw 20 rfl)) (backOf (W := 0) (rmOrd l Z a0 hw [] a (2 : Int32) h0 n0 Z0 O0 u2) hZ (own_w hw 23 rfl) (own_w hw 22 rfl) (by decide) (by decide)) q1a q1c (g := (mkF m 1 #[.val (.ref a), .val (.int (1 : Int32))] [(.ref a)])) rfl (by rw [hml]; rfl) (Steps.refl _) (argsL := []) (rest := []) (lenOf pd_0 rfl) rfl (by show 2 * 0 + _ ≤ _; exact Nat.le_of_eq rfl) (hb hby d1_1) (fun _ _ => ⟨rfl, e0, (by decide : 0 + 0 ≤ _), (by decide : 0 + 0 ≤ _)⟩)
  dsimp only [Pt.U, Pt.locs, Pt.cells, Pt.slots] at X1 l1 y1 z1 st1 hQ1
  subst l1 y1 z1
  obtain ⟨rfl, N1q, eh1⟩ := hQ1
  have N1 := Fr.app N0 N1q
  refine own_via st1 ?_
  refine own_go (A := T1.setTop (mkF m 58 #[.val (.ref a), .val (.int (1 : Int32))] [])) (fun t_ k_ => ?_) ?_
  · show Steps p.tables e below (T1.setTop (mkF m 4 #[.val (.ref a), .val (.int (1 : Int32))] [(.int (2 : Int32))])) t_
    refine XS.tswIn X1.here hx rfl (pc0 := 4) (pc' := 58) rfl (hb hby d1_4) rfl (by decide) (o := 54) (by decide) (by decide) (by decide) ?_
    exact k_
  obtain ⟨T2, X2, e2, st2⟩ := getS2 X1 hx hZ hown (host := "") (Or.inl (own_w hw 43 rfl)) Via.refl eh1 (u3.ext O0.2) (g := (mkF m 58 #[.val (.ref a), .val (.int (1 : Int32))] [])) rfl (hb hby d1_58)
  refine own_go st2 ?_
  refine own_go (A := T2.setTop (mkF m 77 #[.val (.ref a), .val (.int (1 : Int32))] [(.ref r)])) (fun t_ k_ => ?_) ?_
  · show Steps p.tables e below (T2.setTop (mkF m 61 #[.val (.ref a), .val (.int (1 : Int32))] [(.ref r)])) t_
    refine XS.goto X2.here hx rfl (pc0 := 61) (pc' := 77) rfl (hb hby d1_61) (by decide) (by decide) ?_
    exact k_
  obtain ⟨fs3, hr3, hrun3, hended3, hW3, hsame3⟩ := X2.leave (v := some (.ref r)) (fun h => by rw [Bd.returns] at h; cases h)
  refine ⟨_, _, ?_, hrun3, hended3, _, _, rfl, ?_, ⟨_, rfl⟩, hW3, hsame3.mono (by decide) (by decide)⟩
  · exact own_retA X2 hx Bd.returns rfl rfl rfl (hb hby d1_77) hr3
  · show Q_rmRun2 Z a r h0 n0 _ T2.heap _
    rw [e2]
    exact ⟨rfl, N1, rfl⟩
theorem d1_64 : decode prog_31_method_4_code 64 = .ok (.iload_n 1, 1) := by decide +kernel
theorem d1_65 : decode prog_31_method_4_code 65 = .ok (.ifCond .eq 9, 3) := by decide +kernel
theorem d1_68 : decode prog_31_method_4_code 68 = .ok (.getstatic 56, 3) := by decide +kernel
theorem d1_71 : decode prog_31_method_4_code 71 = .ok (.goto 6, 3) := by decide +kernel
theorem ef_rmRun3 (m : MethodId) (a : Addr) : entryFrame m #[(.ref a), (.int (1 : Int32))] 2 = mkF m 0 #[.val (.ref a), .val (.int (1 : Int32))] [] := by first | (simp [entryFrame, mkF, argsToLocals, Value.category]; done) | rfl
def Q_rmRun3 (Z : State) (a : Addr) (r : Addr) (h0 : Heap) (n0 : Nat) (v_ : Option Value) (h_ : Heap) (L_ : List Loc) : Prop := v_ = some (.ref r) ∧ Fr n0 L_ ∧ h_ = h0
set_option maxRecDepth 65536 in
set_option maxHeartbeats 40000000 in
theorem rmRun3 (l : Launch) (Z : State) (a0 : Array Value) (hw : ∀ d ∈ tables_1, d.before a0 Z = true) (ws : List Jvm.Cond) (a : Addr) (r : Addr) (h0 : Heap) (n0 : Nat) (Z0 : n0 ≤ h0.size) (O0 : Old Z n0 h0) (u1 : Exa Z Z.heap a "com/example/firmline/firmline/sim/Protection") (u2 : Fld Z Z.heap a "java/lang/Enum" "ordinal" "I" (.int (3 : Int32))) (u3 : Sta Z Z.heap "com/example/firmline/firmline/sim/InstanceRun" "D_THEN_C" "Lcom/example/firmline/firmline/sim/InstanceRun;" (.ref r)) :
    MetFree l own_y2 (head1 (Jvm.Cond.code own_y2 prog_31_method_4_code 2 (some (.object "com/example/firmline/firmline/sim/InstanceRun")) :: ws) ({ frames := 1, cells := 0, slots := 0, locals := 12 } : Room)) (fun a_ U_ => a_ = #[(.ref a), (.int (1 : Int32))] ∧ Z.Warmed39 U_.vm ∧ U_.heap = h0) (fun _ _ _ _ _ => True) (fun _ U_ o_ U2_ => ∃ v_ L_, o_ = .returned v_ ∧ Q_rmRun3 Z a r h0 n0 v_ U2_.heap L_ ∧ FrameEnd U_ o_ U2_ L_ ({ frames := 1, cells := 0, slots := 0, locals := 12 } : Room).cells ({ frames := 1, cells := 0, slots := 0, locals := 12 } : Room).slots) := by
  refine MetFree.of_bodySF (plainFor_of_name pn_1) hisR ?_
  intro p e s m args below meth c s₁ Bd hml0 hP hK
  obtain ⟨rfl, hZ, hh⟩ := hP
  have hx := Bd.exec
  have hby := Bd.bytes
  have hml : c.maxLocals = 2 := hml0
  have hown : s.vm.findClass "com/example/firmline/firmline/sim/Protection" = some m.cls := findClass_of_methodNamed Bd.named
  have hnm := (name_of_methodNamed Bd.named Bd.method).1
  have X0 : Stand p l e ({ frames := 1, cells := 0, slots := 0, locals := 12 } : Room) s m #[(.ref a), (.int (1 : Int32))] below meth c s₁ [] 0 0 := Stand.of_body Bd
  have e0 : s₁.heap = h0 := by rw [← hh, Bd.state]; rfl
  have N0 := Fr.nil n0
  refine own_go (A := s₁.setTop (mkF m 0 #[.val (.ref a), .val (.int (1 : Int32))] [])) (fun t_ k_ => castTop (ef_rmRun3 m a) k_) ?_
  refine own_go (A := s₁.setTop (mkF m 1 #[.val (.ref a), .val (.int (1 : Int32))] [(.ref a)])) (fun t_ k_ => ?_) ?_
  · show Steps p.tables e below (s₁.setTop (mkF m 0 #[.val (.ref a), .val (.int (1 : Int32))] [])) t_
    refine XS.aloadN X0.here hx rfl (hb hby d1_0) rfl rfl ?_
    exact k_
  obtain ⟨cq1, kq1, q1a, q1b, q1c⟩ := isOf hZ e0 (u1.ext O0.2)
  obtain ⟨_, _, ⟨T1, L1, k1, n1⟩, -, X1, ⟨Lc1, hQ1, l1, y1, z1⟩, st1⟩ := X0.virtualBackUp hx (owner := "java/lang/Enum") (x := own_y1) (y := own_y0) hown (mvT hZ (own_w hw 17 rfl)) (mvT hZ (own_w hw 18 rfl)) (mvT hZ (own_w hw 19 rfl)) (by decide) (mvT hZ (own_w hw 21 rfl)) (mvT hZ (own_w hw 20 rfl)) (backOf (W := 0) (rmOrd l Z a0 hw [] a (3 : Int32) h0 n0 Z0 O0 u2) hZ (own_w hw 23 rfl) (own_w hw 22 rfl) (by decide) (by decide)) q1a q1c (g := (mkF m 1 #[.val (.ref a), .val (.int (1 : Int32))] [(.ref a)])) rfl (by rw [hml]; rfl) (Steps.refl _) (argsL := []) (rest := []) (lenOf pd_0 rfl) rfl (by show 2 * 0 + _ ≤ _; exact Nat.le_of_eq rfl) (hb hby d1_1) (fun _ _ => ⟨rfl, e0, (by decide : 0 + 0 ≤ _), (by decide : 0 + 0 ≤ _)⟩)
  dsimp only [Pt.U, Pt.locs, Pt.cells, Pt.slots] at X1 l1 y1 z1 st1 hQ1
  subst l1 y1 z1
  obtain ⟨rfl, N1q, eh1⟩ := hQ1
  have N1 := Fr.app N0 N1q
  refine own_via st1 ?_
  refine own_go (A := T1.setTop (mkF m 68 #[.val (.ref a), .val (.int (1 : Int32))] [])) (fun t_ k_ => ?_) ?_
  · show Steps p.tables e below (T1.setTop (mkF m 4 #[.val (.ref a), .val (.int (1 : Int32))] [(.int (3 : Int32))])) t_
    refine XS.tswIn X1.here hx rfl (pc0 := 4) (pc' := 64) rfl (hb hby d1_4) rfl (by decide) (o := 60) (by decide) (by decide) (by decide) ?_
    show Steps p.tables e below (T1.setTop (mkF m 64 #[.val (.ref a), .val (.int (1 : Int32))] [])) t_
    refine XS.iloadN X1.here hx rfl (hb hby d1_64) rfl ?_
    show Steps p.tables e below (T1.setTop (mkF m 65 #[.val (.ref a), .val (.int (1 : Int32))] [(.int (1 : Int32))])) t_
    refine XS.ifNo X1.here hx rfl (hb hby d1_65) rfl ((if0 _ _).trans (feq (by decide : ¬ ((1 : Int32) = (0 : Int32)))).1) ?_
    exact k_
  obtain ⟨T2, X2, e2, st2⟩ := getS2 X1 hx hZ hown (host := "") (Or.inl (own_w hw 47 rfl)) Via.refl eh1 (u3.ext O0.2) (g := (mkF m 68 #[.val (.ref a), .val (.int (1 : Int32))] [])) rfl (hb hby d1_68)
  refine own_go st2 ?_
  refine own_go (A := T2.setTop (mkF m 77 #[.val (.ref a), .val (.int (1 : Int32))] [(.ref r)])) (fun t_ k_ => ?_) ?_
  · show Steps p.tables e below (T2.setTop (mkF m 71 #[.val (.ref a), .val (.int (1 : Int32))] [(.ref r)])) t_
    refine XS.goto X2.here hx rfl (pc0 := 71) (pc' := 77) rfl (hb hby d1_71) (by decide) (by decide) ?_
    exact k_
  obtain ⟨fs3, hr3, hrun3, hended3, hW3, hsame3⟩ := X2.leave (v := some (.ref r)) (fun h => by rw [Bd.returns] at h; cases h)
  refine ⟨_, _, ?_, hrun3, hended3, _, _, rfl, ?_, ⟨_, rfl⟩, hW3, hsame3.mono (by decide) (by decide)⟩
  · exact own_retA X2 hx Bd.returns rfl rfl rfl (hb hby d1_77) hr3
  · show Q_rmRun3 Z a r h0 n0 _ T2.heap _
    rw [e2]
    exact ⟨rfl, N1, rfl⟩
theorem d3_0 : decode prog_27_method_6_code 0 = .ok (.aload_n 0, 1) := by decide +kernel
theorem d3_1 : decode prog_27_method_6_code 1 = .ok (.getfield 42, 3) := by decide +kernel
theorem d3_4 : decode prog_27_method_6_code 4 = .ok (.ireturn, 1) := by decide +kernel
abbrev own_y3 : MethodName := ⟨"com/example/firmline/firmline/sim/InstanceRun", "ranC", "()Z"⟩
theorem ef_rmRan0 (m : MethodId) (a : Addr) : entryFrame m #[(.ref a)] 1 = mkF m 0 #[.val (.ref a)] [] := by first | (simp [entryFrame, mkF, argsToLocals, Value.category]; done) | rfl
def Q_rmRan0 (Z : State) (a : Addr) (h0 : Heap) (n0 : Nat) (v_ : Option Value) (h_ : Heap) (L_ : List Loc) : Prop := v_ = some (.int (0 : Int32)) ∧ Fr n0 L_ ∧ h_ = h0
theorem pn_2 : plainName "com/example/firmline/firmline/sim/InstanceRun" = true := by first | (simp [plainName, overriddenIn]; done) | decide +kernel
set_option maxRecDepth 65536 in
set_option maxHeartbeats 40000000 in
theorem rmRan0 (l : Launch) (Z : State) (a0 : Array Value) (hw : ∀ d ∈ tables_1, d.before a0 Z = true) (ws : List Jvm.Cond) (a : Addr) (h0 : Heap) (n0 : Nat) (Z0 : n0 ≤ h0.size) (O0 : Old Z n0 h0) (u1 : Fld Z Z.heap a "com/example/firmline/firmline/sim/InstanceRun" "ranC" "Z" (.int (0 : Int32))) :
    MetFree l own_y3 (head1 (Jvm.Cond.code own_y3 prog_27_method_6_code 1 (some .boolean) :: ws) ({ frames := 0, cells := 0, slots := 0, locals := 0 } : Room)) (fun a_ U_ => a_ = #[(.ref a)] ∧ Z.Warmed39 U_.vm ∧ U_.heap = h0) (fun _ _ _ _ _ => True) (fun _ U_ o_ U2_ => ∃ v_ L_, o_ = .returned v_ ∧ Q_rmRan0 Z a h0 n0 v_ U2_.heap L_ ∧ FrameEnd U_ o_ U2_ L_ ({ frames := 0, cells := 0, slots := 0, locals := 0 } : Room).cells ({ frames := 0, cells := 0, slots := 0, locals := 0 } : Room).slots) := by
  refine MetFree.of_bodySF (plainFor_of_name pn_2) hisR ?_
  intro p e s m args below meth c s₁ Bd hml0 hP hK
  obtain ⟨rfl, hZ, hh⟩ := hP
  have hx := Bd.exec
  have hby := Bd.bytes
  have hml : c.maxLocals = 1 := hml0
  have hown : s.vm.findClass "com/example/firmline/firmline/sim/InstanceRun" = some m.cls := findClass_of_methodNamed Bd.named
  have hnm := (name_of_methodNamed Bd.named Bd.method).1
  have X0 : Stand p l e ({ frames := 0, cells := 0, slots := 0, locals := 0 } : Room) s m #[(.ref a)] below meth c s₁ [] 0 0 := Stand.of_body Bd
  have e0 : s₁.heap = h0 := by rw [← hh, Bd.state]; rfl
  have N0 := Fr.nil n0
  refine own_go (A := s₁.setTop (mkF m 0 #[.val (.ref a)] [])) (fun t_ k_ => castTop (ef_rmRan0 m a) k_) ?_
  refine own_go (A := s₁.setTop (mkF m 1 #[.val (.ref a)] [(.ref a)])) (fun t_ k_ => ?_) ?_
  · show Steps p.tables e below (s₁.setTop (mkF m 0 #[.val (.ref a)] [])) t_
    refine XS.aloadN X0.here hx rfl (hb hby d3_0) rfl rfl ?_
    exact k_
  obtain ⟨T1, X1, e1, st1⟩ := getF X0 hx hZ hown (host := "") (Or.inl (own_w hw 34 rfl)) Via.refl e0 (u1.ext O0.2) (g := (mkF m 1 #[.val (.ref a)] [(.ref a)])) rfl rfl (hb hby d3_1)
  refine own_go st1 ?_
  obtain ⟨fs2, hr2, hrun2, hended2, hW2, hsame2⟩ := X1.leave (v := some (.int (0 : Int32))) (fun h => by rw [Bd.returns] at h; cases h)
  refine ⟨_, _, ?_, hrun2, hended2, _, _, rfl, ?_, ⟨_, rfl⟩, hW2, hsame2.mono (by decide) (by decide)⟩
  · exact retN X1 hx (t := .boolean) Bd.returns (by simp) (hb hby d3_4) hr2
  · show Q_rmRan0 Z a h0 n0 _ T1.heap _
    rw [e1]
    exact ⟨rfl, N0, rfl⟩
theorem ef_rmRan1 (m : MethodId) (a : Addr) : entryFrame m #[(.ref a)] 1 = mkF m 0 #[.val (.ref a)] [] := by first | (simp [entryFrame, mkF, argsToLocals, Value.category]; done) | rfl
def Q_rmRan1 (Z : State) (a : Addr) (h0 : Heap) (n0 : Nat) (v_ : Option Value) (h_ : Heap) (L_ : List Loc) : Prop := v_ = some (.int (1 : Int32)) ∧ Fr n0 L_ ∧ h_ = h0
set_option maxRecDepth 65536 in
set_option maxHeartbeats 40000000 in
theorem rmRan1 (l : Launch) (Z : State) (a0 : Array Value) (hw : ∀ d ∈ tables_1, d.before a0 Z = true) (ws : List Jvm.Cond) (a : Addr) (h0 : Heap) (n0 : Nat) (Z0 : n0 ≤ h0.size) (O0 : Old Z n0 h0) (u1 : Fld Z Z.heap a "com/example/firmline/firmline/sim/InstanceRun" "ranC" "Z" (.int (1 : Int32))) :
    MetFree l own_y3 (head1 (Jvm.Cond.code own_y3 prog_27_method_6_code 1 (some .boolean) :: ws) ({ frames := 0, cells := 0, slots := 0, locals := 0 } : Room)) (fun a_ U_ => a_ = #[(.ref a)] ∧ Z.Warmed39 U_.vm ∧ U_.heap = h0) (fun _ _ _ _ _ => True) (fun _ U_ o_ U2_ => ∃ v_ L_, o_ = .returned v_ ∧ Q_rmRan1 Z a h0 n0 v_ U2_.heap L_ ∧ FrameEnd U_ o_ U2_ L_ ({ frames := 0, cells := 0, slots := 0, locals := 0 } : Room).cells ({ frames := 0, cells := 0, slots := 0, locals := 0 } : Room).slots) := by
  refine MetFree.of_bodySF (plainFor_of_name pn_2) hisR ?_
  intro p e s m args below meth c s₁ Bd hml0 hP hK
  obtain ⟨rfl, hZ, hh⟩ := hP
  have hx := Bd.exec
  have hby := Bd.bytes
  have hml : c.maxLocals = 1 := hml0
  have hown : s.vm.findClass "com/example/firmline/firmline/sim/InstanceRun" = some m.cls := findClass_of_methodNamed Bd.named
  have hnm := (name_of_methodNamed Bd.named Bd.method).1
  have X0 : Stand p l e ({ frames := 0, cells := 0, slots := 0, locals := 0 } : Room) s m #[(.ref a)] below meth c s₁ [] 0 0 := Stand.of_body Bd
  have e0 : s₁.heap = h0 := by rw [← hh, Bd.state]; rfl
  have N0 := Fr.nil n0
  refine own_go (A := s₁.setTop (mkF m 0 #[.val (.ref a)] [])) (fun t_ k_ => castTop (ef_rmRan1 m a) k_) ?_
  refine own_go (A := s₁.setTop (mkF m 1 #[.val (.ref a)] [(.ref a)])) (fun t_ k_ => ?_) ?_
  · show Steps p.tables e below (s₁.setTop (mkF m 0 #[.val (.ref a)] [])) t_
    refine XS.aloadN X0.here hx rfl (hb hby d3_0) rfl rfl ?_
    exact k_
  obtain ⟨T1, X1, e1, st1⟩ := getF X0 hx hZ hown (host := "") (Or.inl (own_w hw 34 rfl)) Via.refl e0 (u1.ext O0.2) (g := (mkF m 1 #[.val (.ref a)] [(.ref a)])) rfl rfl (hb hby d3_1)
  refine own_go st1 ?_
  obtain ⟨fs2, hr2, hrun2, hended2, hW2, hsame2⟩ := X1.leave (v := some (.int (1 : Int32))) (fun h => by rw [Bd.returns] at h; cases h)
  refine ⟨_, _, ?_, hrun2, hended2, _, _, rfl, ?_, ⟨_, rfl⟩, hW2, hsame2.mono (by decide) (by decide)⟩
  · exact retN X1 hx (t := .boolean) Bd.returns (by simp) (hb hby d3_4) hr2
  · show Q_rmRan1 Z a h0 n0 _ T1.heap _
    rw [e1]
    exact ⟨rfl, N0, rfl⟩
theorem d4_0 : decode prog_31_method_5_code 0 = .ok (.iload_n 1, 1) := by decide +kernel
theorem d4_1 : decode prog_31_method_5_code 1 = .ok (.ifCond .eq 17, 3) := by decide +kernel
theorem d4_18 : decode prog_31_method_5_code 18 = .ok (.iconst 1, 1) := by decide +kernel
theorem d4_19 : decode prog_31_method_5_code 19 = .ok (.goto 4, 3) := by decide +kernel
theorem d4_23 : decode prog_31_method_5_code 23 = .ok (.ireturn, 1) := by decide +kernel
abbrev own_y4 : MethodName := ⟨"com/example/firmline/firmline/sim/Protection", "leavesCorrect", "(Z)Z"⟩
theorem ef_rmLeaveN (m : MethodId) (a : Addr) : entryFrame m #[(.ref a), (.int (0 : Int32))] 2 = mkF m 0 #[.val (.ref a), .val (.int (0 : Int32))] [] := by first | (simp [entryFrame, mkF, argsToLocals, Value.category]; done) | rfl
def Q_rmLeaveN (Z : State) (a : Addr) (h0 : Heap) (n0 : Nat) (v_ : Option Value) (h_ : Heap) (L_ : List Loc) : Prop := v_ = some (.int (1 : Int32)) ∧ Fr n0 L_ ∧ h_ = h0
set_option maxRecDepth 65536 in
set_option maxHeartbeats 40000000 in
theorem rmLeaveN (l : Launch) (Z : State) (a0 : Array Value) (hw : ∀ d ∈ tables_1, d.before a0 Z = true) (ws : List Jvm.Cond) (a : Addr) (h0 : Heap) (n0 : Nat) (Z0 : n0 ≤ h0.size) (O0 : Old Z n0 h0) :
    MetFree l own_y4 (head1 (Jvm.Cond.code own_y4 prog_31_method_5_code 2 (some .boolean) :: ws) ({ frames := 0, cells := 0, slots := 0, locals := 0 } : Room)) (fun a_ U_ => a_ = #[(.ref a), (.int (0 : Int32))] ∧ Z.Warmed39 U_.vm ∧ U_.heap = h0) (fun _ _ _ _ _ => True) (fun _ U_ o_ U2_ => ∃ v_ L_, o_ = .returned v_ ∧ Q_rmLeaveN Z a h0 n0 v_ U2_.heap L_ ∧ FrameEnd U_ o_ U2_ L_ ({ frames := 0, cells := 0, slots := 0, locals := 0 } : Room).cells ({ frames := 0, cells := 0, slots := 0, locals := 0 } : Room).slots) := by
  refine MetFree.of_bodySF (plainFor_of_name pn_1) hisR ?_
  intro p e s m args below meth c s₁ Bd hml0 hP hK
  obtain ⟨rfl, hZ, hh⟩ := hP
  have hx := Bd.exec
  have hby := Bd.bytes
  have hml : c.maxLocals = 2 := hml0
  have hown : s.vm.findClass "com/example/firmline/firmline/sim/Protection" = some m.cls := findClass_of_methodNamed Bd.named
  have hnm := (name_of_methodNamed Bd.named Bd.method).1
  have X0 : Stand p l e ({ frames := 0, cells := 0, slots := 0, locals := 0 } : Room) s m #[(.ref a), (.int (0 : Int32))] below meth c s₁ [] 0 0 := Stand.of_body Bd
  have e0 : s₁.heap = h0 := by rw [← hh, Bd.state]; rfl
  have N0 := Fr.nil n0
  refine own_go (A := s₁.setTop (mkF m 0 #[.val (.ref a), .val (.int (0 : Int32))] [])) (fun t_ k_ => castTop (ef_rmLeaveN m a) k_) ?_
  refine own_go (A := s₁.setTop (mkF m 23 #[.val (.ref a), .val (.int (0 : Int32))] [(.int (1 : Int32))])) (fun t_ k_ => ?_) ?_
  · show Steps p.tables e below (s₁.setTop (mkF m 0 #[.val (.ref a), .val (.int (0 : Int32))] [])) t_
    refine XS.iloadN X0.here hx rfl (hb hby d4_0) rfl ?_
    show Steps p.tables e below (s₁.setTop (mkF m 1 #[.val (.ref a), .val (.int (0 : Int32))] [(.int (0 : Int32))])) t_
    refine XS.ifYes X0.here hx rfl (pc0 := 1) (pc' := 18) rfl (hb hby d4_1) rfl ((if0 _ _).trans (teq (by decide : (0 : Int32) = (0 : Int32))).1) (by decide) (by decide) ?_
    show Steps p.tables e below (s₁.setTop (mkF m 18 #[.val (.ref a), .val (.int (0 : Int32))] [])) t_
    refine XS.iconst X0.here hx rfl (hb hby d4_18) ?_
    show Steps p.tables e below (s₁.setTop (mkF m 19 #[.val (.ref a), .val (.int (0 : Int32))] [(.int (1 : Int32))])) t_
    refine XS.goto X0.here hx rfl (pc0 := 19) (pc' := 23) rfl (hb hby d4_19) (by decide) (by decide) ?_
    exact k_
  obtain ⟨fs1, hr1, hrun1, hended1, hW1, hsame1⟩ := X0.leave (v := some (.int (1 : Int32))) (fun h => by rw [Bd.returns] at h; cases h)
  refine ⟨_, _, ?_, hrun1, hended1, _, _, rfl, ?_, ⟨_, rfl⟩, hW1, hsame1.mono (by decide) (by decide)⟩
  · exact retN X0 hx (t := .boolean) Bd.returns (by simp) (hb hby d4_23) hr1
  · show Q_rmLeaveN Z a h0 n0 _ s₁.heap _
    rw [e0]
    exact ⟨rfl, N0, rfl⟩
theorem d4_4 : decode prog_31_method_5_code 4 = .ok (.aload_n 0, 1) := by decide +kernel
theorem d4_5 : decode prog_31_method_5_code 5 = .ok (.getstatic 10, 3) := by decide +kernel
theorem d4_8 : decode prog_31_method_5_code 8 = .ok (.if_acmp .eq 10, 3) := by decide +kernel
theorem d4_11 : decode prog_31_method_5_code 11 = .ok (.aload_n 0, 1) := by decide +kernel
theorem d4_12 : decode prog_31_method_5_code 12 = .ok (.getstatic 13, 3) := by decide +kernel
theorem d4_15 : decode prog_31_method_5_code 15 = .ok (.if_acmp .ne 7, 3) := by decide +kernel
theorem d4_22 : decode prog_31_method_5_code 22 = .ok (.iconst 0, 1) := by decide +kernel
theorem ef_rmLeave0 (m : MethodId) (a : Addr) : entryFrame m #[(.ref a), (.int (1 : Int32))] 2 = mkF m 0 #[.val (.ref a), .val (.int (1 : Int32))] [] := by first | (simp [entryFrame, mkF, argsToLocals, Value.category]; done) | rfl
def Q_rmLeave0 (Z : State) (a : Addr) (b_CORRECTING : Addr) (b_RECOVERING : Addr) (h0 : Heap) (n0 : Nat) (v_ : Option Value) (h_ : Heap) (L_ : List Loc) : Prop := v_ = some (.int (0 : Int32)) ∧ Fr n0 L_ ∧ h_ = h0
set_option maxRecDepth 65536 in
set_option maxHeartbeats 40000000 in
theorem rmLeave0 (l : Launch) (Z : State) (a0 : Array Value) (hw : ∀ d ∈ tables_1, d.before a0 Z = true) (ws : List Jvm.Cond) (a : Addr) (b_CORRECTING : Addr) (b_RECOVERING : Addr) (h0 : Heap) (n0 : Nat) (Z0 : n0 ≤ h0.size) (O0 : Old Z n0 h0) (u1 : Sta Z Z.heap "com/example/firmline/firmline/sim/Protection" "CORRECTING" "Lcom/example/firmline/firmline/sim/Protection;" (.ref b_CORRECTING)) (u2 : Sta Z Z.heap "com/example/firmline/firmline/sim/Protection" "RECOVERING" "Lcom/example/firmline/firmline/sim/Protection;" (.ref b_RECOVERING)) (u3 : a ≠ b_CORRECTING) (u4 : a ≠ b_RECOVERING) :
    MetFree l own_y4 (head1 (Jvm.Cond.code own_y4 prog_31_method_5_code 2 (some .boolean) :: ws) ({ frames := 0, cells := 0, slots := 0, locals := 0 } : Room)) (fun a_ U_ => a_ = #[(.ref a), (.int (1 : Int32))] ∧ Z.Warmed39 U_.vm ∧ U_.heap = h0) (fun _ _ _ _ _ => True) (fun _ U_ o_ U2_ => ∃ v_ L_, o_ = .returned v_ ∧ Q_rmLeave0 Z a b_CORRECTING b_RECOVERING h0 n0 v_ U2_.heap L_ ∧ FrameEnd U_ o_ U2_ L_ ({ frames := 0, cells := 0, slots := 0, locals := 0 } : Room).cells ({ frames := 0, cells := 0, slots := 0, locals := 0 } : Room).slots) := by
  refine MetFree.of_bodySF (plainFor_of_name pn_1) hisR ?_
  intro p e s m args below meth c s₁ Bd hml0 hP hK
  obtain ⟨rfl, hZ, hh⟩ := hP
  have hx := Bd.exec
  have hby := Bd.bytes
  have hml : c.maxLocals = 2 := hml0
  have hown : s.vm.findClass "com/example/firmline/firmline/sim/Protection" = some m.cls := findClass_of_methodNamed Bd.named
  have hnm := (name_of_methodNamed Bd.named Bd.method).1
  have X0 : Stand p l e ({ frames := 0, cells := 0, slots := 0, locals := 0 } : Room) s m #[(.ref a), (.int (1 : Int32))] below meth c s₁ [] 0 0 := Stand.of_body Bd
  have e0 : s₁.heap = h0 := by rw [← hh, Bd.state]; rfl
  have N0 := Fr.nil n0
  refine own_go (A := s₁.setTop (mkF m 0 #[.val (.ref a), .val (.int (1 : Int32))] [])) (fun t_ k_ => castTop (ef_rmLeave0 m a) k_) ?_
  refine own_go (A := s₁.setTop (mkF m 5 #[.val (.ref a), .val (.int (1 : Int32))] [(.ref a)])) (fun t_ k_ => ?_) ?_
  · show Steps p.tables e below (s₁.setTop (mkF m 0 #[.val (.ref a), .val (.int (1 : Int32))] [])) t_
    refine XS.iloadN X0.here hx rfl (hb hby d4_0) rfl ?_
    show Steps p.tables e below (s₁.setTop (mkF m 1 #[.val (.ref a), .val (.int (1 : Int32))] [(.int (1 : Int32))])) t_
    refine XS.ifNo X0.here hx rfl (hb hby d4_1) rfl ((if0 _ _).trans (feq (by decide : ¬ ((1 : Int32) = (0 : Int32)))).1) ?_
    show Steps p.tables e below (s₁.setTop (mkF m 4 #[.val (.ref a), .val (.int (1 : Int32))] [])) t_
    refine XS.aloadN X0.here hx rfl (hb hby d4_4) rfl rfl ?_
    exact k_
  obtain ⟨T1, X1, e1, st1⟩ := getS2 X0 hx hZ hown (host := "") (Or.inl (own_w hw 41 rfl)) Via.refl e0 (u1.ext O0.2) (g := (mkF m 5 #[.val (.ref a), .val (.int (1 : Int32))] [(.ref a)])) rfl (hb hby d4_5)
  refine own_go st1 ?_
  refine own_go (A := T1.setTop (mkF m 12 #[.val (.ref a), .val (.int (1 : Int32))] [(.ref a)])) (fun t_ k_ => ?_) ?_
  · show Steps p.tables e below (T1.setTop (mkF m 8 #[.val (.ref a), .val (.int (1 : Int32))] [(.ref b_CORRECTING), (.ref a)])) t_
    refine Jvm.RoadKit.acmp (g := (mkF m 8 #[.val (.ref a), .val (.int (1 : Int32))] [(.ref b_CORRECTING), (.ref a)])) X1 hx rfl rfl rfl (pc0 := 8) (pc' := 11) (same := false) rfl (hb hby d4_8) rfl (decide_eq_false fun q => u3 (Value.ref.inj q)) (by decide) (by decide) ?_
    show Steps p.tables e below (T1.setTop (mkF m 11 #[.val (.ref a), .val (.int (1 : Int32))] [])) t_
    refine XS.aloadN X1.here hx rfl (hb hby d4_11) rfl rfl ?_
    exact k_
  obtain ⟨T2, X2, e2, st2⟩ := getS2 X1 hx hZ hown (host := "") (Or.inl (own_w hw 42 rfl)) Via.refl e1 (u2.ext O0.2) (g := (mkF m 12 #[.val (.ref a), .val (.int (1 : Int32))] [(.ref a)])) rfl (hb hby d4_12)
  refine own_go st2 ?_
  refine own_go (A := T2.setTop (mkF m 23 #[.val (.ref a), .val (.int (1 : Int32))] [(.int (0 : Int32))])) (fun t_ k_ => ?_) ?_
  · show Steps p.tables e below (T2.setTop (mkF m 15 #[.val (.ref a), .val (.int (1 : Int32))] [(.ref b_RECOVERING), (.ref a)])) t_
    refine Jvm.RoadKit.acmp (g := (mkF m 15 #[.val (.ref a), .val (.int (1 : Int32))] [(.ref b_RECOVERING), (.ref a)])) X2 hx rfl rfl rfl (pc0 := 15) (pc' := 22) (same := false) rfl (hb hby d4_15) rfl (decide_eq_false fun q => u4 (Value.ref.inj q)) (by decide) (by decide) ?_
    show Steps p.tables e below (T2.setTop (mkF m 22 #[.val (.ref a), .val (.int (1 : Int32))] [])) t_
    refine XS.iconst X2.here hx rfl (hb hby d4_22) ?_
    exact k_
  obtain ⟨fs3, hr3, hrun3, hended3, hW3, hsame3⟩ := X2.leave (v := some (.int (0 : Int32))) (fun h => by rw [Bd.returns] at h; cases h)
  refine ⟨_, _, ?_, hrun3, hended3, _, _, rfl, ?_, ⟨_, rfl⟩, hW3, hsame3.mono (by decide) (by decide)⟩
  · exact retN X2 hx (t := .boolean) Bd.returns (by simp) (hb hby d4_23) hr3
  · show Q_rmLeave0 Z a b_CORRECTING b_RECOVERING h0 n0 _ T2.heap _
    rw [e2]
    exact ⟨rfl, N0, rfl⟩
theorem ef_rmLeave1 (m : MethodId) (a : Addr) : entryFrame m #[(.ref a), (.int (1 : Int32))] 2 = mkF m 0 #[.val (.ref a), .val (.int (1 : Int32))] [] := by first | (simp [entryFrame, mkF, argsToLocals, Value.category]; done) | rfl
def Q_rmLeave1 (Z : State) (a : Addr) (b_CORRECTING : Addr) (b_RECOVERING : Addr) (h0 : Heap) (n0 : Nat) (v_ : Option Value) (h_ : Heap) (L_ : List Loc) : Prop := v_ = some (.int (0 : Int32)) ∧ Fr n0 L_ ∧ h_ = h0
set_option maxRecDepth 65536 in
set_option maxHeartbeats 40000000 in
theorem rmLeave1 (l : Launch) (Z : State) (a0 : Array Value) (hw : ∀ d ∈ tables_1, d.before a0 Z = true) (ws : List Jvm.Cond) (a : Addr) (b_CORRECTING : Addr) (b_RECOVERING : Addr) (h0 : Heap) (n0 : Nat) (Z0 : n0 ≤ h0.size) (O0 : Old Z n0 h0) (u1 : Sta Z Z.heap "com/example/firmline/firmline/sim/Protection" "CORRECTING" "Lcom/example/firmline/firmline/sim/Protection;" (.ref b_CORRECTING)) (u2 : Sta Z Z.heap "com/example/firmline/firmline/sim/Protection" "RECOVERING" "Lcom/example/firmline/firmline/sim/Protection;" (.ref b_RECOVERING)) (u3 : a ≠ b_CORRECTING) (u4 : a ≠ b_RECOVERING) :
    MetFree l own_y4 (head1 (Jvm.Cond.code own_y4 prog_31_method_5_code 2 (some .boolean) :: ws) ({ frames := 0, cells := 0, slots := 0, locals := 0 } : Room)) (fun a_ U_ => a_ = #[(.ref a), (.int (1 : Int32))] ∧ Z.Warmed39 U_.vm ∧ U_.heap = h0) (fun _ _ _ _ _ => True) (fun _ U_ o_ U2_ => ∃ v_ L_, o_ = .returned v_ ∧ Q_rmLeave1 Z a b_CORRECTING b_RECOVERING h0 n0 v_ U2_.heap L_ ∧ FrameEnd U_ o_ U2_ L_ ({ frames := 0, cells := 0, slots := 0, locals := 0 } : Room).cells ({ frames := 0, cells := 0, slots := 0, locals := 0 } : Room).slots) := by
  refine MetFree.of_bodySF (plainFor_of_name pn_1) hisR ?_
  intro p e s m args below meth c s₁ Bd hml0 hP hK
  obtain ⟨rfl, hZ, hh⟩ := hP
  have hx := Bd.exec
  have hby := Bd.bytes
  have hml : c.maxLocals = 2 := hml0
  have hown : s.vm.findClass "com/example/firmline/firmline/sim/Protection" = some m.cls := findClass_of_methodNamed Bd.named
  have hnm := (name_of_methodNamed Bd.named Bd.method).1
  have X0 : Stand p l e ({ frames := 0, cells := 0, slots := 0, locals := 0 } : Room) s m #[(.ref a), (.int (1 : Int32))] below meth c s₁ [] 0 0 := Stand.of_body Bd
  have e0 : s₁.heap = h0 := by rw [← hh, Bd.state]; rfl
  have N0 := Fr.nil n0
  refine own_go (A := s₁.setTop (mkF m 0 #[.val (.ref a), .val (.int (1 : Int32))] [])) (fun t_ k_ => castTop (ef_rmLeave1 m a) k_) ?_
  refine own_go (A := s₁.setTop (mkF m 5 #[.val (.ref a), .val (.int (1 : Int32))] [(.ref a)])) (fun t_ k_ => ?_) ?_
  · show Steps p.tables e below (s₁.setTop (mkF m 0 #[.val (.ref a), .val (.int (1 : Int32))] [])) t_
    refine XS.iloadN X0.here hx rfl (hb hby d4_0) rfl ?_
    show Steps p.tables e below (s₁.setTop (mkF m 1 #[.val (.ref a), .val (.int (1 : Int32))] [(.int (1 : Int32))])) t_
    refine XS.ifNo X0.here hx rfl (hb hby d4_1) rfl ((if0 _ _).trans (feq (by decide : ¬ ((1 : Int32) = (0 : Int32)))).1) ?_
    show Steps p.tables e below (s₁.setTop (mkF m 4 #[.val (.ref a), .val (.int (1 : Int32))] [])) t_
    refine XS.aloadN X0.here hx rfl (hb hby d4_4) rfl rfl ?_
    exact k_
  obtain ⟨T1, X1, e1, st1⟩ := getS2 X0 hx hZ hown (host := "") (Or.inl (own_w hw 41 rfl)) Via.refl e0 (u1.ext O0.2) (g := (mkF m 5 #[.val (.ref a), .val (.int (1 : Int32))] [(.ref a)])) rfl (hb hby d4_5)
  refine own_go st1 ?_
  refine own_go (A := T1.setTop (mkF m 12 #[.val (.ref a), .val (.int (1 : Int32))] [(.ref a)])) (fun t_ k_ => ?_) ?_
  · show Steps p.tables e below (T1.setTop (mkF m 8 #[.val (.ref a), .val (.int (1 : Int32))] [(.ref b_CORRECTING), (.ref a)])) t_
    refine Jvm.RoadKit.acmp (g := (mkF m 8 #[.val (.ref a), .val (.int (1 : Int32))] [(.ref b_CORRECTING), (.ref a)])) X1 hx rfl rfl rfl (pc0 := 8) (pc' := 11) (same := false) rfl (hb hby d4_8) rfl (decide_eq_false fun q => u3 (Value.ref.inj q)) (by decide) (by decide) ?_
    show Steps p.tables e below (T1.setTop (mkF m 11 #[.val (.ref a), .val (.int (1 : Int32))] [])) t_
    refine XS.aloadN X1.here hx rfl (hb hby d4_11) rfl rfl ?_
    exact k_
  obtain ⟨T2, X2, e2, st2⟩ := getS2 X1 hx hZ hown (host := "") (Or.inl (own_w hw 42 rfl)) Via.refl e1 (u2.ext O0.2) (g := (mkF m 12 #[.val (.ref a), .val (.int (1 : Int32))] [(.ref a)])) rfl (hb hby d4_12)
  refine own_go st2 ?_
  refine own_go (A := T2.setTop (mkF m 23 #[.val (.ref a), .val (.int (1 : Int32))] [(.int (0 : Int32))])) (fun t_ k_ => ?_) ?_
  · show Steps p.tables e below (T2.setTop (mkF m 15 #[.val (.ref a), .val (.int (1 : Int32))] [(.ref b_RECOVERING), (.ref a)])) t_
    refine Jvm.RoadKit.acmp (g := (mkF m 15 #[.val (.ref a), .val (.int (1 : Int32))] [(.ref b_RECOVERING), (.ref a)])) X2 hx rfl rfl rfl (pc0 := 15) (pc' := 22) (same := false) rfl (hb hby d4_15) rfl (decide_eq_false fun q => u4 (Value.ref.inj q)) (by decide) (by decide) ?_
    show Steps p.tables e below (T2.setTop (mkF m 22 #[.val (.ref a), .val (.int (1 : Int32))] [])) t_
    refine XS.iconst X2.here hx rfl (hb hby d4_22) ?_
    exact k_
  obtain ⟨fs3, hr3, hrun3, hended3, hW3, hsame3⟩ := X2.leave (v := some (.int (0 : Int32))) (fun h => by rw [Bd.returns] at h; cases h)
  refine ⟨_, _, ?_, hrun3, hended3, _, _, rfl, ?_, ⟨_, rfl⟩, hW3, hsame3.mono (by decide) (by decide)⟩
  · exact retN X2 hx (t := .boolean) Bd.returns (by simp) (hb hby d4_23) hr3
  · show Q_rmLeave1 Z a b_CORRECTING b_RECOVERING h0 n0 _ T2.heap _
    rw [e2]
    exact ⟨rfl, N0, rfl⟩
theorem ef_rmLeave2 (m : MethodId) (a : Addr) : entryFrame m #[(.ref a), (.int (1 : Int32))] 2 = mkF m 0 #[.val (.ref a), .val (.int (1 : Int32))] [] := by first | (simp [entryFrame, mkF, argsToLocals, Value.category]; done) | rfl
def Q_rmLeave2 (Z : State) (a : Addr) (b_RECOVERING : Addr) (h0 : Heap) (n0 : Nat) (v_ : Option Value) (h_ : Heap) (L_ : List Loc) : Prop := v_ = some (.int (1 : Int32)) ∧ Fr n0 L_ ∧ h_ = h0
set_option maxRecDepth 65536 in
set_option maxHeartbeats 40000000 in
theorem rmLeave2 (l : Launch) (Z : State) (a0 : Array Value) (hw : ∀ d ∈ tables_1, d.before a0 Z = true) (ws : List Jvm.Cond) (a : Addr) (b_RECOVERING : Addr) (h0 : Heap) (n0 : Nat) (Z0 : n0 ≤ h0.size) (O0 : Old Z n0 h0) (u1 : Sta Z Z.heap "com/example/firmline/firmline/sim/Protection" "CORRECTING" "Lcom/example/firmline/firmline/sim/Protection;" (.ref a)) (u2 : Sta Z Z.heap "com/example/firmline/firmline/sim/Protection" "RECOVERING" "Lcom/example/firmline/firmline/sim/Protection;" (.ref b_RECOVERING)) (u3 : a ≠ b_RECOVERING) :
    MetFree l own_y4 (head1 (Jvm.Cond.code own_y4 prog_31_method_5_code 2 (some .boolean) :: ws) ({ frames := 0, cells := 0, slots := 0, locals := 0 } : Room)) (fun a_ U_ => a_ = #[(.ref a), (.int (1 : Int32))] ∧ Z.Warmed39 U_.vm ∧ U_.heap = h0) (fun _ _ _ _ _ => True) (fun _ U_ o_ U2_ => ∃ v_ L_, o_ = .returned v_ ∧ Q_rmLeave2 Z a b_RECOVERING h0 n0 v_ U2_.heap L_ ∧ FrameEnd U_ o_ U2_ L_ ({ frames := 0, cells := 0, slots := 0, locals := 0 } : Room).cells ({ frames := 0, cells := 0, slots := 0, locals := 0 } : Room).slots) := by
  refine MetFree.of_bodySF (plainFor_of_name pn_1) hisR ?_
  intro p e s m args below meth c s₁ Bd hml0 hP hK
  obtain ⟨rfl, hZ, hh⟩ := hP
  have hx := Bd.exec
  have hby := Bd.bytes
  have hml : c.maxLocals = 2 := hml0
  have hown : s.vm.findClass "com/example/firmline/firmline/sim/Protection" = some m.cls := findClass_of_methodNamed Bd.named
  have hnm := (name_of_methodNamed Bd.named Bd.method).1
  have X0 : Stand p l e ({ frames := 0, cells := 0, slots := 0, locals := 0 } : Room) s m #[(.ref a), (.int (1 : Int32))] below meth c s₁ [] 0 0 := Stand.of_body Bd
  have e0 : s₁.heap = h0 := by rw [← hh, Bd.state]; rfl
  have N0 := Fr.nil n0
  refine own_go (A := s₁.setTop (mkF m 0 #[.val (.ref a), .val (.int (1 : Int32))] [])) (fun t_ k_ => castTop (ef_rmLeave2 m a) k_) ?_
  refine own_go (A := s₁.setTop (mkF m 5 #[.val (.ref a), .val (.int (1 : Int32))] [(.ref a)])) (fun t_ k_ => ?_) ?_
  · show Steps p.tables e below (s₁.setTop (mkF m 0 #[.val (.ref a), .val (.int (1 : Int32))] [])) t_
    refine XS.iloadN X0.here hx rfl (hb hby d4_0) rfl ?_
    show Steps p.tables e below (s₁.setTop (mkF m 1 #[.val (.ref a), .val (.int (1 : Int32))] [(.int (1 : Int32))])) t_
    refine XS.ifNo X0.here hx rfl (hb hby d4_1) rfl ((if0 _ _).trans (feq (by decide : ¬ ((1 : Int32) = (0 : Int32)))).1) ?_
    show Steps p.tables e below (s₁.setTop (mkF m 4 #[.val (.ref a), .val (.int (1 : Int32))] [])) t_
    refine XS.aloadN X0.here hx rfl (hb hby d4_4) rfl rfl ?_
    exact k_
  obtain ⟨T1, X1, e1, st1⟩ := getS2 X0 hx hZ hown (host := "") (Or.inl (own_w hw 41 rfl)) Via.refl e0 (u1.ext O0.2) (g := (mkF m 5 #[.val (.ref a), .val (.int (1 : Int32))] [(.ref a)])) rfl (hb hby d4_5)
  refine own_go st1 ?_
  refine own_go (A := T1.setTop (mkF m 23 #[.val (.ref a), .val (.int (1 : Int32))] [(.int (1 : Int32))])) (fun t_ k_ => ?_) ?_
  · show Steps p.tables e below (T1.setTop (mkF m 8 #[.val (.ref a), .val (.int (1 : Int32))] [(.ref a), (.ref a)])) t_
    refine Jvm.RoadKit.acmp (g := (mkF m 8 #[.val (.ref a), .val (.int (1 : Int32))] [(.ref a), (.ref a)])) X1 hx rfl rfl rfl (pc0 := 8) (pc' := 18) (same := true) rfl (hb hby d4_8) rfl (decide_eq_true rfl) (by decide) (by decide) ?_
    show Steps p.tables e below (T1.setTop (mkF m 18 #[.val (.ref a), .val (.int (1 : Int32))] [])) t_
    refine XS.iconst X1.here hx rfl (hb hby d4_18) ?_
    show Steps p.tables e below (T1.setTop (mkF m 19 #[.val (.ref a), .val (.int (1 : Int32))] [(.int (1 : Int32))])) t_
    refine XS.goto X1.here hx rfl (pc0 := 19) (pc' := 23) rfl (hb hby d4_19) (by decide) (by decide) ?_
    exact k_
  obtain ⟨fs2, hr2, hrun2, hended2, hW2, hsame2⟩ := X1.leave (v := some (.int (1 : Int32))) (fun h => by rw [Bd.returns] at h; cases h)
  refine ⟨_, _, ?_, hrun2, hended2, _, _, rfl, ?_, ⟨_, rfl⟩, hW2, hsame2.mono (by decide) (by decide)⟩
  · exact retN X1 hx (t := .boolean) Bd.returns (by simp) (hb hby d4_23) hr2
  · show Q_rmLeave2 Z a b_RECOVERING h0 n0 _ T1.heap _
    rw [e1]
    exact ⟨rfl, N0, rfl⟩
theorem ef_rmLeave3 (m : MethodId) (a : Addr) : entryFrame m #[(.ref a), (.int (1 : Int32))] 2 = mkF m 0 #[.val (.ref a), .val (.int (1 : Int32))] [] := by first | (simp [entryFrame, mkF, argsToLocals, Value.category]; done) | rfl
def Q_rmLeave3 (Z : State) (a : Addr) (b_CORRECTING : Addr) (h0 : Heap) (n0 : Nat) (v_ : Option Value) (h_ : Heap) (L_ : List Loc) : Prop := v_ = some (.int (1 : Int32)) ∧ Fr n0 L_ ∧ h_ = h0
set_option maxRecDepth 65536 in
set_option maxHeartbeats 40000000 in
theorem rmLeave3 (l : Launch) (Z : State) (a0 : Array Value) (hw : ∀ d ∈ tables_1, d.before a0 Z = true) (ws : List Jvm.Cond) (a : Addr) (b_CORRECTING : Addr) (h0 : Heap) (n0 : Nat) (Z0 : n0 ≤ h0.size) (O0 : Old Z n0 h0) (u1 : Sta Z Z.heap "com/example/firmline/firmline/sim/Protection" "CORRECTING" "Lcom/example/firmline/firmline/sim/Protection;" (.ref b_CORRECTING)) (u2 : Sta Z Z.heap "com/example/firmline/firmline/sim/Protection" "RECOVERING" "Lcom/example/firmline/firmline/sim/Protection;" (.ref a)) (u3 : a ≠ b_CORRECTING) :
    MetFree l own_y4 (head1 (Jvm.Cond.code own_y4 prog_31_method_5_code 2 (some .boolean) :: ws) ({ frames := 0, cells := 0, slots := 0, locals := 0 } : Room)) (fun a_ U_ => a_ = #[(.ref a), (.int (1 : Int32))] ∧ Z.Warmed39 U_.vm ∧ U_.heap = h0) (fun _ _ _ _ _ => True) (fun _ U_ o_ U2_ => ∃ v_ L_, o_ = .returned v_ ∧ Q_rmLeave3 Z a b_CORRECTING h0 n0 v_ U2_.heap L_ ∧ FrameEnd U_ o_ U2_ L_ ({ frames := 0, cells := 0, slots := 0, locals := 0 } : Room).cells ({ frames := 0, cells := 0, slots := 0, locals := 0 } : Room).slots) := by
  refine MetFree.of_bodySF (plainFor_of_name pn_1) hisR ?_
  intro p e s m args below meth c s₁ Bd hml0 hP hK
  obtain ⟨rfl, hZ, hh⟩ := hP
  have hx := Bd.exec
  have hby := Bd.bytes
  have hml : c.maxLocals = 2 := hml0
  have hown : s.vm.findClass "com/example/firmline/firmline/sim/Protection" = some m.cls := findClass_of_methodNamed Bd.named
  have hnm := (name_of_methodNamed Bd.named Bd.method).1
  have X0 : Stand p l e ({ frames := 0, cells := 0, slots := 0, locals := 0 } : Room) s m #[(.ref a), (.int (1 : Int32))] below meth c s₁ [] 0 0 := Stand.of_body Bd
  have e0 : s₁.heap = h0 := by rw [← hh, Bd.state]; rfl
  have N0 := Fr.nil n0
  refine own_go (A := s₁.setTop (mkF m 0 #[.val (.ref a), .val (.int (1 : Int32))] [])) (fun t_ k_ => castTop (ef_rmLeave3 m a) k_) ?_
  refine own_go (A := s₁.setTop (mkF m 5 #[.val (.ref a), .val (.int (1 : Int32))] [(.ref a)])) (fun t_ k_ => ?_) ?_
  · show Steps p.tables e below (s₁.setTop (mkF m 0 #[.val (.ref a), .val (.int (1 : Int32))] [])) t_
    refine XS.iloadN X0.here hx rfl (hb hby d4_0) rfl ?_
    show Steps p.tables e below (s₁.setTop (mkF m 1 #[.val (.ref a), .val (.int (1 : Int32))] [(.int (1 : Int32))])) t_
    refine XS.ifNo X0.here hx rfl (hb hby d4_1) rfl ((if0 _ _).trans (feq (by decide : ¬ ((1 : Int32) = (0 : Int32)))).1) ?_
    show Steps p.tables e below (s₁.setTop (mkF m 4 #[.val (.ref a), .val (.int (1 : Int32))] [])) t_
    refine XS.aloadN X0.here hx rfl (hb hby d4_4) rfl rfl ?_
    exact k_
  obtain ⟨T1, X1, e1, st1⟩ := getS2 X0 hx hZ hown (host := "") (Or.inl (own_w hw 41 rfl)) Via.refl e0 (u1.ext O0.2) (g := (mkF m 5 #[.val (.ref a), .val (.int (1 : Int32))] [(.ref a)])) rfl (hb hby d4_5)
  refine own_go st1 ?_
  refine own_go (A := T1.setTop (mkF m 12 #[.val (.ref a), .val (.int (1 : Int32))] [(.ref a)])) (fun t_ k_ => ?_) ?_
  · show Steps p.tables e below (T1.setTop (mkF m 8 #[.val (.ref a), .val (.int (1 : Int32))] [(.ref b_CORRECTING), (.ref a)])) t_
    refine Jvm.RoadKit.acmp (g := (mkF m 8 #[.val (.ref a), .val (.int (1 : Int32))] [(.ref b_CORRECTING), (.ref a)])) X1 hx rfl rfl rfl (pc0 := 8) (pc' := 11) (same := false) rfl (hb hby d4_8) rfl (decide_eq_false fun q => u3 (Value.ref.inj q)) (by decide) (by decide) ?_
    show Steps p.tables e below (T1.setTop (mkF m 11 #[.val (.ref a), .val (.int (1 : Int32))] [])) t_
    refine XS.aloadN X1.here hx rfl (hb hby d4_11) rfl rfl ?_
    exact k_
  obtain ⟨T2, X2, e2, st2⟩ := getS2 X1 hx hZ hown (host := "") (Or.inl (own_w hw 42 rfl)) Via.refl e1 (u2.ext O0.2) (g := (mkF m 12 #[.val (.ref a), .val (.int (1 : Int32))] [(.ref a)])) rfl (hb hby d4_12)
  refine own_go st2 ?_
  refine own_go (A := T2.setTop (mkF m 23 #[.val (.ref a), .val (.int (1 : Int32))] [(.int (1 : Int32))])) (fun t_ k_ => ?_) ?_
  · show Steps p.tables e below (T2.setTop (mkF m 15 #[.val (.ref a), .val (.int (1 : Int32))] [(.ref a), (.ref a)])) t_
    refine Jvm.RoadKit.acmp (g := (mkF m 15 #[.val (.ref a), .val (.int (1 : Int32))] [(.ref a), (.ref a)])) X2 hx rfl rfl rfl (pc0 := 15) (pc' := 18) (same := true) rfl (hb hby d4_15) rfl (decide_eq_true rfl) (by decide) (by decide) ?_
    show Steps p.tables e below (T2.setTop (mkF m 18 #[.val (.ref a), .val (.int (1 : Int32))] [])) t_
    refine XS.iconst X2.here hx rfl (hb hby d4_18) ?_
    show Steps p.tables e below (T2.setTop (mkF m 19 #[.val (.ref a), .val (.int (1 : Int32))] [(.int (1 : Int32))])) t_
    refine XS.goto X2.here hx rfl (pc0 := 19) (pc' := 23) rfl (hb hby d4_19) (by decide) (by decide) ?_
    exact k_
  obtain ⟨fs3, hr3, hrun3, hended3, hW3, hsame3⟩ := X2.leave (v := some (.int (1 : Int32))) (fun h => by rw [Bd.returns] at h; cases h)
  refine ⟨_, _, ?_, hrun3, hended3, _, _, rfl, ?_, ⟨_, rfl⟩, hW3, hsame3.mono (by decide) (by decide)⟩
  · exact retN X2 hx (t := .boolean) Bd.returns (by simp) (hb hby d4_23) hr3
  · show Q_rmLeave3 Z a b_CORRECTING h0 n0 _ T2.heap _
    rw [e2]
    exact ⟨rfl, N0, rfl⟩
theorem own_and3 (p : Int32) : (p &&& (3 : Int32)) = (0 : Int32) ∨ (p &&& (3 : Int32)) = (1 : Int32) ∨ (p &&& (3 : Int32)) = (2 : Int32) ∨ (p &&& (3 : Int32)) = (3 : Int32) := by
  have h1 := c_and p 3 (by decide)
  rw [show ((3 : Int32).toInt) = 3 from by decide] at h1
  have h3 : (p &&& (3 : Int32)).toInt = 0 ∨ (p &&& (3 : Int32)).toInt = 1 ∨ (p &&& (3 : Int32)).toInt = 2 ∨ (p &&& (3 : Int32)).toInt = 3 := by omega
  rcases h3 with h | h | h | h
  · exact Or.inl (Int32.toInt_inj.mp (h.trans (by decide)))
  · exact Or.inr (Or.inl (Int32.toInt_inj.mp (h.trans (by decide))))
  · exact Or.inr (Or.inr (Or.inl (Int32.toInt_inj.mp (h.trans (by decide)))))
  · exact Or.inr (Or.inr (Or.inr (Int32.toInt_inj.mp (h.trans (by decide)))))
theorem pd_1 : parseMethodDescriptor "(Z)Z" = some ⟨[.boolean], some .boolean⟩ := by decide +kernel
theorem pd_2 : parseMethodDescriptor "(Z)Lcom/example/firmline/firmline/sim/InstanceRun;" = some ⟨[.boolean], some (.object "com/example/firmline/firmline/sim/InstanceRun")⟩ := by decide +kernel
theorem pd_3 : parseMethodDescriptor "()Z" = some ⟨[], some .boolean⟩ := by decide +kernel
theorem ef_rm0 (m : MethodId) (p1 : Int32) (p2 : Int32) : entryFrame m #[(.int p1), (.int p2)] maxLocals = mkF m 0 #[.val (.int p1), .val (.int p2), .unset, .unset, .unset, .unset] [] := by first | (simp [entryFrame, mkF, argsToLocals, Value.category, maxLocals]; done) | rfl
def Q_rm0 (Z : State) (p1 : Int32) (p2 : Int32) (ad0 : Addr) (ad1 : Addr) (ad2 : Addr) (ad3 : Addr) (rr0 : Addr) (rr1 : Addr) (rr2 : Addr) (rr3 : Addr) (h0 : Heap) (n0 : Nat) (v_ : Option Value) (h_ : Heap) (L_ : List Loc) : Prop := v_ = some (.int (1 : Int32)) ∧ Fr n0 L_ ∧ Keep h0 h_ []
theorem pn_3 : plainName "com/example/firmline/firmline/sim/ProtectionLeavesCorrectPinLaw" = true := by first | (simp [plainName, overriddenIn]; done) | decide +kernel
set_option maxRecDepth 65536 in
set_option maxHeartbeats 40000000 in
theorem rm0 (l : Launch) (Z : State) (a0 : Array Value) (hw : ∀ d ∈ tables_1, d.before a0 Z = true) (ws : List Jvm.Cond) (p1 : Int32) (p2 : Int32) (ad0 : Addr) (ad1 : Addr) (ad2 : Addr) (ad3 : Addr) (rr0 : Addr) (rr1 : Addr) (rr2 : Addr) (rr3 : Addr) (h0 : Heap) (n0 : Nat) (Z0 : n0 ≤ h0.size) (O0 : Old Z n0 h0) (u1 : Sta Z Z.heap "com/example/firmline/firmline/sim/Protection" "UNPROTECTED" "Lcom/example/firmline/firmline/sim/Protection;" (.ref ad0)) (u2 : Exa Z Z.heap ad0 "com/example/firmline/firmline/sim/Protection") (u3 : Fld Z Z.heap ad0 "java/lang/Enum" "ordinal" "I" (.int (0 : Int32))) (u4 : Sta Z Z.heap "com/example/firmline/firmline/sim/Protection" "TOLERATING" "Lcom/example/firmline/firmline/sim/Protection;" (.ref ad1)) (u5 : Exa Z Z.heap ad1 "com/example/firmline/firmline/sim/Protection") (u6 : Fld Z Z.heap ad1 "java/lang/Enum" "ordinal" "I" (.int (1 : Int32))) (u7 : Sta Z Z.heap "com/example/firmline/firmline/sim/Protection" "CORRECTING" "Lcom/example/firmline/firmline/sim/Protection;" (.ref ad2)) (u8 : Exa Z Z.heap ad2 "com/example/firmline/firmline/sim/Protection") (u9 : Fld Z Z.heap ad2 "java/lang/Enum" "ordinal" "I" (.int (2 : Int32))) (u10 : Sta Z Z.heap "com/example/firmline/firmline/sim/Protection" "RECOVERING" "Lcom/example/firmline/firmline/sim/Protection;" (.ref ad3)) (u11 : Exa Z Z.heap ad3 "com/example/firmline/firmline/sim/Protection") (u12 : Fld Z Z.heap ad3 "java/lang/Enum" "ordinal" "I" (.int (3 : Int32))) (u13 : Sta Z Z.heap "com/example/firmline/firmline/sim/InstanceRun" "U" "Lcom/example/firmline/firmline/sim/InstanceRun;" (.ref rr0)) (u14 : Exa Z Z.heap rr0 "com/example/firmline/firmline/sim/InstanceRun") (u15 : Fld Z Z.heap rr0 "com/example/firmline/firmline/sim/InstanceRun" "ranC" "Z" (.int (0 : Int32))) (u16 : Sta Z Z.heap "com/example/firmline/firmline/sim/InstanceRun" "D" "Lcom/example/firmline/firmline/sim/InstanceRun;" (.ref rr1)) (u17 : Exa Z Z.heap rr1 "com/example/firmline/firmline/sim/InstanceRun") (u18 : Fld Z Z.heap rr1 "com/example/firmline/firmline/sim/InstanceRun" "ranC" "Z" (.int (0 : Int32))) (u19 : Sta Z Z.heap "com/example/firmline/firmline/sim/InstanceRun" "C" "Lcom/example/firmline/firmline/sim/InstanceRun;" (.ref rr2)) (u20 : Exa Z Z.heap rr2 "com/example/firmline/firmline/sim/InstanceRun") (u21 : Fld Z Z.heap rr2 "com/example/firmline/firmline/sim/InstanceRun" "ranC" "Z" (.int (1 : Int32))) (u22 : Sta Z Z.heap "com/example/firmline/firmline/sim/InstanceRun" "D_THEN_C" "Lcom/example/firmline/firmline/sim/InstanceRun;" (.ref rr3)) (u23 : Exa Z Z.heap rr3 "com/example/firmline/firmline/sim/InstanceRun") (u24 : Fld Z Z.heap rr3 "com/example/firmline/firmline/sim/InstanceRun" "ranC" "Z" (.int (1 : Int32))) :
    MetFree l x (head1 (Jvm.Cond.code x code maxLocals ret :: ws) room_1) (fun a_ U_ => a_ = #[(.int p1), (.int p2)] ∧ Z.Warmed39 U_.vm ∧ U_.heap = h0) (fun _ _ _ _ _ => True) (fun _ U_ o_ U2_ => ∃ v_ L_, o_ = .returned v_ ∧ Q_rm0 Z p1 p2 ad0 ad1 ad2 ad3 rr0 rr1 rr2 rr3 h0 n0 v_ U2_.heap L_ ∧ FrameEnd U_ o_ U2_ L_ room_1.cells room_1.slots) := by
  refine MetFree.of_bodySF (plainFor_of_name pn_3) hisR ?_
  intro p e s m args below meth c s₁ Bd hml0 hP hK
  obtain ⟨rfl, hZ, hh⟩ := hP
  have hx := Bd.exec
  have hby := Bd.bytes
  have hml : c.maxLocals = 6 := hml0
  have hown : s.vm.findClass "com/example/firmline/firmline/sim/ProtectionLeavesCorrectPinLaw" = some m.cls := findClass_of_methodNamed Bd.named
  have hnm := (name_of_methodNamed Bd.named Bd.method).1
  have X0 : Stand p l e room_1 s m #[(.int p1), (.int p2)] below meth c s₁ [] 0 0 := Stand.of_body Bd
  have e0 : s₁.heap = h0 := by rw [← hh, Bd.state]; rfl
  have N0 := Fr.nil n0
  refine own_go (A := s₁.setTop (mkF m 0 #[.val (.int p1), .val (.int p2), .unset, .unset, .unset, .unset] [])) (fun t_ k_ => castTop (ef_rm0 m p1 p2) k_) ?_
  refine own_go (A := s₁.setTop (mkF m 1 #[.val (.int p1), .val (.int p2), .unset, .unset, .unset, .unset] [(.int (4 : Int32))])) (fun t_ k_ => ?_) ?_
  · show Steps p.tables e below (s₁.setTop (mkF m 0 #[.val (.int p1), .val (.int p2), .unset, .unset, .unset, .unset] [])) t_
    refine XS.iconst X0.here hx rfl (hb hby at_0) ?_
    exact k_
  obtain ⟨T1, h1, k1, X1, e1, E1, A1, V1, st1⟩ := newR X0 hx hZ hown (own_w hw 0 rfl) (own_w hw 1 rfl) e0 (g := (mkF m 1 #[.val (.int p1), .val (.int p2), .unset, .unset, .unset, .unset] [(.int (4 : Int32))])) rfl (hb hby at_1) rfl (by decide) (cap := 4) (by decide) (by decide) (by decide) (by decide)
  obtain ⟨b1, g1⟩ : ∃ z, z = h0.size := ⟨_, rfl⟩
  rw [← g1] at A1 st1
  refine own_go st1 ?_
  have K1 : Keep h0 h1 [] := (Keep.refl h0 []).ext E1
  have O1 := O0.ext E1
  have B1 : Arv Z h1 b1 k1 (.object "com/example/firmline/firmline/sim/Protection") (4 : Int32) [.null, .null, .null, .null] .null := (Arv.new A1 (by decide)).pad (pad_rep [] .null 4)
  refine own_go (A := T1.setTop (mkF m 6 #[.val (.int p1), .val (.int p2), .unset, .unset, .unset, .unset] [(.int (0 : Int32)), (.ref b1), (.ref b1)])) (fun t_ k_ => ?_) ?_
  · show Steps p.tables e below (T1.setTop (mkF m 4 #[.val (.int p1), .val (.int p2), .unset, .unset, .unset, .unset] [(.ref b1)])) t_
    refine XS.dup X1.here hx rfl (hb hby at_4) rfl rfl ?_
    show Steps p.tables e below (T1.setTop (mkF m 5 #[.val (.int p1), .val (.int p2), .unset, .unset, .unset, .unset] [(.ref b1), (.ref b1)])) t_
    refine XS.iconst X1.here hx rfl (hb hby at_5) ?_
    exact k_
  obtain ⟨T2, X2, e2, st2⟩ := getS2 X1 hx hZ hown (host := "") (Or.inl (own_w hw 2 rfl)) Via.refl e1 (u1.ext O1.2) (g := (mkF m 6 #[.val (.int p1), .val (.int p2), .unset, .unset, .unset, .unset] [(.int (0 : Int32)), (.ref b1), (.ref b1)])) rfl (hb hby at_6)
  refine own_go st2 ?_
  obtain ⟨cl3, Ar3, q3, S3, M3, H3, G3⟩ := B1
  have hin3 : ¬ ((0 : Int32) < 0 ∨ cl3.slots.size ≤ ((0 : Int32)).toNatClampNeg) := inb_of S3 ⟨by decide, by decide⟩
  obtain ⟨T4, h4, X4, e4, W4, st4⟩ := stR X2 hx hZ e2 Ar3 (j := (0 : Int32)) hin3 rfl (Sto.ofV Ar3 q3 V1 (Ins.self (u2.ext O1.2))) (g := (mkF m 9 #[.val (.int p1), .val (.int p2), .unset, .unset, .unset, .unset] [(.ref ad0), (.int (0 : Int32)), (.ref b1), (.ref b1)])) rfl rfl (hb hby at_9)
  have B4 : Arv Z h4 b1 k1 (.object "com/example/firmline/firmline/sim/Protection") (4 : Int32) [(.ref ad0), .null, .null, .null] .null := Arv.set Ar3 q3 S3 M3 H3 G3 rfl W4 0 rfl (Nat.le_of_ble_eq_true rfl)
  refine own_go st4 ?_
  have K4 : Keep h0 h4 [] := K1.wr W4 (Or.inr (Nat.le_of_eq g1.symm))
  have O4 := O1.wr W4 (Nat.le_trans Z0 (Nat.le_of_eq g1.symm))
  have N4 := Fr.snoc X4 N0 (Nat.le_trans Z0 (Nat.le_of_eq g1.symm))
  refine own_go (A := T4.setTop (mkF m 12 #[.val (.int p1), .val (.int p2), .unset, .unset, .unset, .unset] [(.int (1 : Int32)), (.ref b1), (.ref b1)])) (fun t_ k_ => ?_) ?_
  · show Steps p.tables e below (T4.setTop (mkF m 10 #[.val (.int p1), .val (.int p2), .unset, .unset, .unset, .unset] [(.ref b1)])) t_
    refine XS.dup X4.here hx rfl (hb hby at_10) rfl rfl ?_
    show Steps p.tables e below (T4.setTop (mkF m 11 #[.val (.int p1), .val (.int p2), .unset, .unset, .unset, .unset] [(.ref b1), (.ref b1)])) t_
    refine XS.iconst X4.here hx rfl (hb hby at_11) ?_
    exact k_
  obtain ⟨T5, X5, e5, st5⟩ := getS2 X4 hx hZ hown (host := "") (Or.inl (own_w hw 6 rfl)) Via.refl e4 (u4.ext O4.2) (g := (mkF m 12 #[.val (.int p1), .val (.int p2), .unset, .unset, .unset, .unset] [(.int (1 : Int32)), (.ref b1), (.ref b1)])) rfl (hb hby at_12)
  refine own_go st5 ?_
  obtain ⟨cl6, Ar6, q6, S6, M6, H6, G6⟩ := B4
  have hin6 : ¬ ((1 : Int32) < 0 ∨ cl6.slots.size ≤ ((1 : Int32)).toNatClampNeg) := inb_of S6 ⟨by decide, by decide⟩
  obtain ⟨T7, h7, X7, e7, W7, st7⟩ := stR X5 hx hZ e5 Ar6 (j := (1 : Int32)) hin6 rfl (Sto.ofV Ar6 q6 V1 (Ins.self (u5.ext O4.2))) (g := (mkF m 15 #[.val (.int p1), .val (.int p2), .unset, .unset, .unset, .unset] [(.ref ad1), (.int (1 : Int32)), (.ref b1), (.ref b1)])) rfl rfl (hb hby at_15)
  have B7 : Arv Z h7 b1 k1 (.object "com/example/firmline/firmline/sim/Protection") (4 : Int32) [(.ref ad0), (.ref ad1), .null, .null] .null := Arv.set Ar6 q6 S6 M6 H6 G6 rfl W7 1 rfl (Nat.le_of_ble_eq_true rfl)
  refine own_go st7 ?_
  have K7 : Keep h0 h7 [] := K4.wr W7 (Or.inr (Nat.le_of_eq g1.symm))
  have O7 := O4.wr W7 (Nat.le_trans Z0 (Nat.le_of_eq g1.symm))
  have N7 := Fr.snoc X7 N4 (Nat.le_trans Z0 (Nat.le_of_eq g1.symm))
  refine own_go (A := T7.setTop (mkF m 18 #[.val (.int p1), .val (.int p2), .unset, .unset, .unset, .unset] [(.int (2 : Int32)), (.ref b1), (.ref b1)])) (fun t_ k_ => ?_) ?_
  · show Steps p.tables e below (T7.setTop (mkF m 16 #[.val (.int p1), .val (.int p2), .unset, .unset, .unset, .unset] [(.ref b1)])) t_
    refine XS.dup X7.here hx rfl (hb hby at_16) rfl rfl ?_
    show Steps p.tables e below (T7.setTop (mkF m 17 #[.val (.int p1), .val (.int p2), .unset, .unset, .unset, .unset] [(.ref b1), (.ref b1)])) t_
    refine XS.iconst X7.here hx rfl (hb hby at_17) ?_
    exact k_
  obtain ⟨T8, X8, e8, st8⟩ := getS2 X7 hx hZ hown (host := "") (Or.inl (own_w hw 8 rfl)) Via.refl e7 (u7.ext O7.2) (g := (mkF m 18 #[.val (.int p1), .val (.int p2), .unset, .unset, .unset, .unset] [(.int (2 : Int32)), (.ref b1), (.ref b1)])) rfl (hb hby at_18)
  refine own_go st8 ?_
  obtain ⟨cl9, Ar9, q9, S9, M9, H9, G9⟩ := B7
  have hin9 : ¬ ((2 : Int32) < 0 ∨ cl9.slots.size ≤ ((2 : Int32)).toNatClampNeg) := inb_of S9 ⟨by decide, by decide⟩
  obtain ⟨T10, h10, X10, e10, W10, st10⟩ := stR X8 hx hZ e8 Ar9 (j := (2 : Int32)) hin9 rfl (Sto.ofV Ar9 q9 V1 (Ins.self (u8.ext O7.2))) (g := (mkF m 21 #[.val (.int p1), .val (.int p2), .unset, .unset, .unset, .unset] [(.ref ad2), (.int (2 : Int32)), (.ref b1), (.ref b1)])) rfl rfl (hb hby at_21)
  have B10 : Arv Z h10 b1 k1 (.object "com/example/firmline/firmline/sim/Protection") (4 : Int32) [(.ref ad0), (.ref ad1), (.ref ad2), .null] .null := Arv.set Ar9 q9 S9 M9 H9 G9 rfl W10 2 rfl (Nat.le_of_ble_eq_true rfl)
  refine own_go st10 ?_
  have K10 : Keep h0 h10 [] := K7.wr W10 (Or.inr (Nat.le_of_eq g1.symm))
  have O10 := O7.wr W10 (Nat.le_trans Z0 (Nat.le_of_eq g1.symm))
  have N10 := Fr.snoc X10 N7 (Nat.le_trans Z0 (Nat.le_of_eq g1.symm))
  refine own_go (A := T10.setTop (mkF m 24 #[.val (.int p1), .val (.int p2), .unset, .unset, .unset, .unset] [(.int (3 : Int32)), (.ref b1), (.ref b1)])) (fun t_ k_ => ?_) ?_
  · show Steps p.tables e below (T10.setTop (mkF m 22 #[.val (.int p1), .val (.int p2), .unset, .unset, .unset, .unset] [(.ref b1)])) t_
    refine XS.dup X10.here hx rfl (hb hby at_22) rfl rfl ?_
    show Steps p.tables e below (T10.setTop (mkF m 23 #[.val (.int p1), .val (.int p2), .unset, .unset, .unset, .unset] [(.ref b1), (.ref b1)])) t_
    refine XS.iconst X10.here hx rfl (hb hby at_23) ?_
    exact k_
  obtain ⟨T11, X11, e11, st11⟩ := getS2 X10 hx hZ hown (host := "") (Or.inl (own_w hw 10 rfl)) Via.refl e10 (u10.ext O10.2) (g := (mkF m 24 #[.val (.int p1), .val (.int p2), .unset, .unset, .unset, .unset] [(.int (3 : Int32)), (.ref b1), (.ref b1)])) rfl (hb hby at_24)
  refine own_go st11 ?_
  obtain ⟨cl12, Ar12, q12, S12, M12, H12, G12⟩ := B10
  have hin12 : ¬ ((3 : Int32) < 0 ∨ cl12.slots.size ≤ ((3 : Int32)).toNatClampNeg) := inb_of S12 ⟨by decide, by decide⟩
  obtain ⟨T13, h13, X13, e13, W13, st13⟩ := stR X11 hx hZ e11 Ar12 (j := (3 : Int32)) hin12 rfl (Sto.ofV Ar12 q12 V1 (Ins.self (u11.ext O10.2))) (g := (mkF m 27 #[.val (.int p1), .val (.int p2), .unset, .unset, .unset, .unset] [(.ref ad3), (.int (3 : Int32)), (.ref b1), (.ref b1)])) rfl rfl (hb hby at_27)
  have B13 : Arv Z h13 b1 k1 (.object "com/example/firmline/firmline/sim/Protection") (4 : Int32) [(.ref ad0), (.ref ad1), (.ref ad2), (.ref ad3)] .null := Arv.set Ar12 q12 S12 M12 H12 G12 rfl W13 3 rfl (Nat.le_of_ble_eq_true rfl)
  refine own_go st13 ?_
  have K13 : Keep h0 h13 [] := K10.wr W13 (Or.inr (Nat.le_of_eq g1.symm))
  have O13 := O10.wr W13 (Nat.le_trans Z0 (Nat.le_of_eq g1.symm))
  have N13 := Fr.snoc X13 N10 (Nat.le_trans Z0 (Nat.le_of_eq g1.symm))
  refine own_go (A := T13.setTop (mkF m 33 #[.val (.int p1), .val (.int p2), .val (.ref b1), .unset, .unset, .unset] [(.int (p1 &&& (3 : Int32))), (.ref b1)])) (fun t_ k_ => ?_) ?_
  · show Steps p.tables e below (T13.setTop (mkF m 28 #[.val (.int p1), .val (.int p2), .unset, .unset, .unset, .unset] [(.ref b1)])) t_
    refine XS.astoreN X13.here hx rfl (hb hby at_28) rfl rfl (l' := #[.val (.int p1), .val (.int p2), .val (.ref b1), .unset, .unset, .unset]) rfl ?_
    show Steps p.tables e below (T13.setTop (mkF m 29 #[.val (.int p1), .val (.int p2), .val (.ref b1), .unset, .unset, .unset] [])) t_
    refine XS.aloadN X13.here hx rfl (hb hby at_29) rfl rfl ?_
    show Steps p.tables e below (T13.setTop (mkF m 30 #[.val (.int p1), .val (.int p2), .val (.ref b1), .unset, .unset, .unset] [(.ref b1)])) t_
    refine XS.iloadN X13.here hx rfl (hb hby at_30) rfl ?_
    show Steps p.tables e below (T13.setTop (mkF m 31 #[.val (.int p1), .val (.int p2), .val (.ref b1), .unset, .unset, .unset] [(.int p1), (.ref b1)])) t_
    refine XS.iconst X13.here hx rfl (hb hby at_31) ?_
    show Steps p.tables e below (T13.setTop (mkF m 32 #[.val (.int p1), .val (.int p2), .val (.ref b1), .unset, .unset, .unset] [(.int (3 : Int32)), (.int p1), (.ref b1)])) t_
    refine XS.iand X13.here hx rfl (hb hby at_32) rfl ?_
    exact k_
  rcases own_and3 p1 with hm14 | hm14 | hm14 | hm14
  · rw [hm14]
    obtain ⟨cl15, Ar15, q15, S15, M15, H15, G15⟩ := B13
    have hin15 : ¬ ((0 : Int32) < 0 ∨ cl15.slots.size ≤ ((0 : Int32)).toNatClampNeg) := inb_of S15 ⟨by decide, by decide⟩
    have hat15 : cl15.slots[((0 : Int32)).toNatClampNeg]? = some (.ref ad0) := Has.at H15 hin15 rfl
    refine own_go (A := T13.setTop (mkF m 38 #[.val (.int p1), .val (.int p2), .val (.ref b1), .val (.ref ad0), .unset, .unset] [(.int (p2 &&& (1 : Int32)))])) (fun t_ k_ => ?_) ?_
    · show Steps p.tables e below (T13.setTop (mkF m 33 #[.val (.int p1), .val (.int p2), .val (.ref b1), .unset, .unset, .unset] [(.int (0 : Int32)), (.ref b1)])) t_
      refine X13.aaload hx (j := (0 : Int32)) (v := (.ref ad0)) (by rw [e13]; exact Ar15.1) (State.isArrayOf_alike hZ.alike Ar15.2.1) rfl Ar15.2.2 hin15 hat15 (g := (mkF m 33 #[.val (.int p1), .val (.int p2), .val (.ref b1), .unset, .unset, .unset] [(.int (0 : Int32)), (.ref b1)])) rfl rfl (hb hby at_33) _ ?_
      show Steps p.tables e below (T13.setTop (mkF m 34 #[.val (.int p1), .val (.int p2), .val (.ref b1), .unset, .unset, .unset] [(.ref ad0)])) t_
      refine XS.astoreN X13.here hx rfl (hb hby at_34) rfl rfl (l' := #[.val (.int p1), .val (.int p2), .val (.ref b1), .val (.ref ad0), .unset, .unset]) rfl ?_
      show Steps p.tables e below (T13.setTop (mkF m 35 #[.val (.int p1), .val (.int p2), .val (.ref b1), .val (.ref ad0), .unset, .unset] [])) t_
      refine XS.iloadN X13.here hx rfl (hb hby at_35) rfl ?_
      show Steps p.tables e below (T13.setTop (mkF m 36 #[.val (.int p1), .val (.int p2), .val (.ref b1), .val (.ref ad0), .unset, .unset] [(.int p2)])) t_
      refine XS.iconst X13.here hx rfl (hb hby at_36) ?_
      show Steps p.tables e below (T13.setTop (mkF m 37 #[.val (.int p1), .val (.int p2), .val (.ref b1), .val (.ref ad0), .unset, .unset] [(.int (1 : Int32)), (.int p2)])) t_
      refine XS.iand X13.here hx rfl (hb hby at_37) rfl ?_
      exact k_
    by_cases hc38_16 : (p2 &&& (1 : Int32)) = (0 : Int32)
    · refine own_go (A := T13.setTop (mkF m 75 #[.val (.int p1), .val (.int p2), .val (.ref b1), .val (.ref ad0), .val (.int (0 : Int32)), .val (.int (1 : Int32))] [(.int (0 : Int32)), (.ref ad0)])) (fun t_ k_ => ?_) ?_
      · show Steps p.tables e below (T13.setTop (mkF m 38 #[.val (.int p1), .val (.int p2), .val (.ref b1), .val (.ref ad0), .unset, .unset] [(.int (p2 &&& (1 : Int32)))])) t_
        refine XS.ifYes X13.here hx rfl (pc0 := 38) (pc' := 45) rfl (hb hby at_38) rfl ((if0 _ _).trans (teq hc38_16).1) (by decide) (by decide) ?_
        show Steps p.tables e below (T13.setTop (mkF m 45 #[.val (.int p1), .val (.int p2), .val (.ref b1), .val (.ref ad0), .unset, .unset] [])) t_
        refine XS.iconst X13.here hx rfl (hb hby at_45) ?_
        show Steps p.tables e below (T13.setTop (mkF m 46 #[.val (.int p1), .val (.int p2), .val (.ref b1), .val (.ref ad0), .unset, .unset] [(.int (0 : Int32))])) t_
        refine XS.istore X13.here hx rfl (hb hby at_46) rfl (l' := #[.val (.int p1), .val (.int p2), .val (.ref b1), .val (.ref ad0), .val (.int (0 : Int32)), .unset]) rfl ?_
        show Steps p.tables e below (T13.setTop (mkF m 48 #[.val (.int p1), .val (.int p2), .val (.ref b1), .val (.ref ad0), .val (.int (0 : Int32)), .unset] [])) t_
        refine XS.iload X13.here hx rfl (hb hby at_48) rfl ?_
        show Steps p.tables e below (T13.setTop (mkF m 50 #[.val (.int p1), .val (.int p2), .val (.ref b1), .val (.ref ad0), .val (.int (0 : Int32)), .unset] [(.int (0 : Int32))])) t_
        refine XS.ifYes X13.here hx rfl (pc0 := 50) (pc' := 65) rfl (hb hby at_50) rfl ((if0 _ _).trans (teq (by decide : (0 : Int32) = (0 : Int32))).1) (by decide) (by decide) ?_
        show Steps p.tables e below (T13.setTop (mkF m 65 #[.val (.int p1), .val (.int p2), .val (.ref b1), .val (.ref ad0), .val (.int (0 : Int32)), .unset] [])) t_
        refine XS.iconst X13.here hx rfl (hb hby at_65) ?_
        show Steps p.tables e below (T13.setTop (mkF m 66 #[.val (.int p1), .val (.int p2), .val (.ref b1), .val (.ref ad0), .val (.int (0 : Int32)), .unset] [(.int (1 : Int32))])) t_
        refine XS.goto X13.here hx rfl (pc0 := 66) (pc' := 70) rfl (hb hby at_66) (by decide) (by decide) ?_
        show Steps p.tables e below (T13.setTop (mkF m 70 #[.val (.int p1), .val (.int p2), .val (.ref b1), .val (.ref ad0), .val (.int (0 : Int32)), .unset] [(.int (1 : Int32))])) t_
        refine XS.istore X13.here hx rfl (hb hby at_70) rfl (l' := #[.val (.int p1), .val (.int p2), .val (.ref b1), .val (.ref ad0), .val (.int (0 : Int32)), .val (.int (1 : Int32))]) rfl ?_
        show Steps p.tables e below (T13.setTop (mkF m 72 #[.val (.int p1), .val (.int p2), .val (.ref b1), .val (.ref ad0), .val (.int (0 : Int32)), .val (.int (1 : Int32))] [])) t_
        refine XS.aloadN X13.here hx rfl (hb hby at_72) rfl rfl ?_
        show Steps p.tables e below (T13.setTop (mkF m 73 #[.val (.int p1), .val (.int p2), .val (.ref b1), .val (.ref ad0), .val (.int (0 : Int32)), .val (.int (1 : Int32))] [(.ref ad0)])) t_
        refine XS.iload X13.here hx rfl (hb hby at_73) rfl ?_
        exact k_
      obtain ⟨cq17, kq17, q17a, q17b, q17c⟩ := isOf hZ e13 (u2.ext O13.2)
      obtain ⟨_, _, ⟨T17, L17, k17, n17⟩, -, X17, ⟨Lc17, hQ17, l17, y17, z17⟩, st17⟩ := X13.virtualBack hx (y := own_y4) (z := own_y4) hown (mvT hZ (own_w hw 36 rfl)) (mvT hZ (own_w hw 37 rfl)) (notFace_of_selects (args := #[]) (mvT hZ (own_w hw 39 rfl))) (mvT hZ (own_w hw 39 rfl)) (mvT hZ (own_w hw 38 rfl)) (by decide) (backOf (W := 0) (rmLeaveN l Z a0 hw [] ad0 h13 n0 (Nat.le_trans Z0 K13.1) O13) hZ (own_w hw 40 rfl) (own_w hw 3 rfl) (by decide) (by decide)) q17a q17c (g := (mkF m 75 #[.val (.int p1), .val (.int p2), .val (.ref b1), .val (.ref ad0), .val (.int (0 : Int32)), .val (.int (1 : Int32))] [(.int (0 : Int32)), (.ref ad0)])) rfl (by rw [hml]; rfl) (Steps.refl _) (argsL := [(.int (0 : Int32))]) (rest := []) (lenOf pd_1 rfl) rfl (by show 2 * 0 + _ ≤ _; exact Nat.le_of_eq rfl) (hb hby at_75) (fun _ _ => ⟨rfl, e13, (by decide : 1 + 0 ≤ _), (by decide : 4 + 0 ≤ _)⟩)
      dsimp only [Pt.U, Pt.locs, Pt.cells, Pt.slots] at X17 l17 y17 z17 st17 hQ17
      subst l17 y17 z17
      obtain ⟨rfl, N17q, eh17⟩ := hQ17
      have N17 := Fr.app N13 N17q
      refine own_via st17 ?_
      refine own_go (A := T17.setTop (mkF m 88 #[.val (.int p1), .val (.int p2), .val (.ref b1), .val (.ref ad0), .val (.int (0 : Int32)), .val (.int (1 : Int32))] [(.int (1 : Int32))])) (fun t_ k_ => ?_) ?_
      · show Steps p.tables e below (T17.setTop (mkF m 78 #[.val (.int p1), .val (.int p2), .val (.ref b1), .val (.ref ad0), .val (.int (0 : Int32)), .val (.int (1 : Int32))] [(.int (1 : Int32))])) t_
        refine XS.iload X17.here hx rfl (hb hby at_78) rfl ?_
        show Steps p.tables e below (T17.setTop (mkF m 80 #[.val (.int p1), .val (.int p2), .val (.ref b1), .val (.ref ad0), .val (.int (0 : Int32)), .val (.int (1 : Int32))] [(.int (1 : Int32)), (.int (1 : Int32))])) t_
        refine XS.icmpNo X17.here hx rfl (hb hby at_80) rfl (teq (by decide : (1 : Int32) = (1 : Int32))).2 ?_
        show Steps p.tables e below (T17.setTop (mkF m 83 #[.val (.int p1), .val (.int p2), .val (.ref b1), .val (.ref ad0), .val (.int (0 : Int32)), .val (.int (1 : Int32))] [])) t_
        refine XS.iconst X17.here hx rfl (hb hby at_83) ?_
        show Steps p.tables e below (T17.setTop (mkF m 84 #[.val (.int p1), .val (.int p2), .val (.ref b1), .val (.ref ad0), .val (.int (0 : Int32)), .val (.int (1 : Int32))] [(.int (1 : Int32))])) t_
        refine XS.goto X17.here hx rfl (pc0 := 84) (pc' := 88) rfl (hb hby at_84) (by decide) (by decide) ?_
        exact k_
      obtain ⟨fs18, hr18, hrun18, hended18, hW18, hsame18⟩ := X17.leave (v := some (.int (1 : Int32))) (fun h => by rw [Bd.returns] at h; cases h)
      refine ⟨_, _, ?_, hrun18, hended18, _, _, rfl, ?_, ⟨_, rfl⟩, hW18, hsame18.mono (by decide) (by decide)⟩
      · exact retN X17 hx (t := .boolean) Bd.returns (by simp) (hb hby at_88) hr18
      · show Q_rm0 Z p1 p2 ad0 ad1 ad2 ad3 rr0 rr1 rr2 rr3 h0 n0 _ T17.heap _
        rw [eh17]
        exact ⟨rfl, N17, K13⟩
    · refine own_go (A := T13.setTop (mkF m 56 #[.val (.int p1), .val (.int p2), .val (.ref b1), .val (.ref ad0), .val (.int (1 : Int32)), .unset] [(.int (1 : Int32)), (.ref ad0)])) (fun t_ k_ => ?_) ?_
      · show Steps p.tables e below (T13.setTop (mkF m 38 #[.val (.int p1), .val (.int p2), .val (.ref b1), .val (.ref ad0), .unset, .unset] [(.int (p2 &&& (1 : Int32)))])) t_
        refine XS.ifNo X13.here hx rfl (hb hby at_38) rfl ((if0 _ _).trans (feq hc38_16).1) ?_
        show Steps p.tables e below (T13.setTop (mkF m 41 #[.val (.int p1), .val (.int p2), .val (.ref b1), .val (.ref ad0), .unset, .unset] [])) t_
        refine XS.iconst X13.here hx rfl (hb hby at_41) ?_
        show Steps p.tables e below (T13.setTop (mkF m 42 #[.val (.int p1), .val (.int p2), .val (.ref b1), .val (.ref ad0), .unset, .unset] [(.int (1 : Int32))])) t_
        refine XS.goto X13.here hx rfl (pc0 := 42) (pc' := 46) rfl (hb hby at_42) (by decide) (by decide) ?_
        show Steps p.tables e below (T13.setTop (mkF m 46 #[.val (.int p1), .val (.int p2), .val (.ref b1), .val (.ref ad0), .unset, .unset] [(.int (1 : Int32))])) t_
        refine XS.istore X13.here hx rfl (hb hby at_46) rfl (l' := #[.val (.int p1), .val (.int p2), .val (.ref b1), .val (.ref ad0), .val (.int (1 : Int32)), .unset]) rfl ?_
        show Steps p.tables e below (T13.setTop (mkF m 48 #[.val (.int p1), .val (.int p2), .val (.ref b1), .val (.ref ad0), .val (.int (1 : Int32)), .unset] [])) t_
        refine XS.iload X13.here hx rfl (hb hby at_48) rfl ?_
        show Steps p.tables e below (T13.setTop (mkF m 50 #[.val (.int p1), .val (.int p2), .val (.ref b1), .val (.ref ad0), .val (.int (1 : Int32)), .unset] [(.int (1 : Int32))])) t_
        refine XS.ifNo X13.here hx rfl (hb hby at_50) rfl ((if0 _ _).trans (feq (by decide : ¬ ((1 : Int32) = (0 : Int32)))).1) ?_
        show Steps p.tables e below (T13.setTop (mkF m 53 #[.val (.int p1), .val (.int p2), .val (.ref b1), .val (.ref ad0), .val (.int (1 : Int32)), .unset] [])) t_
        refine XS.aloadN X13.here hx rfl (hb hby at_53) rfl rfl ?_
        show Steps p.tables e below (T13.setTop (mkF m 54 #[.val (.int p1), .val (.int p2), .val (.ref b1), .val (.ref ad0), .val (.int (1 : Int32)), .unset] [(.ref ad0)])) t_
        refine XS.iload X13.here hx rfl (hb hby at_54) rfl ?_
        exact k_
      obtain ⟨cq19, kq19, q19a, q19b, q19c⟩ := isOf hZ e13 (u2.ext O13.2)
      obtain ⟨_, _, ⟨T19, L19, k19, n19⟩, -, X19, ⟨Lc19, hQ19, l19, y19, z19⟩, st19⟩ := X13.virtualBack hx (y := own_y2) (z := own_y2) hown (mvT hZ (own_w hw 12 rfl)) (mvT hZ (own_w hw 13 rfl)) (notFace_of_selects (args := #[]) (mvT hZ (own_w hw 15 rfl))) (mvT hZ (own_w hw 15 rfl)) (mvT hZ (own_w hw 14 rfl)) (by decide) (backOf (W := 0) (rmRun0 l Z a0 hw [] ad0 rr0 h13 n0 (Nat.le_trans Z0 K13.1) O13 u2 u3 u13) hZ (own_w hw 16 rfl) (own_w hw 3 rfl) (by decide) (by decide)) q19a q19c (g := (mkF m 56 #[.val (.int p1), .val (.int p2), .val (.ref b1), .val (.ref ad0), .val (.int (1 : Int32)), .unset] [(.int (1 : Int32)), (.ref ad0)])) rfl (by rw [hml]; rfl) (Steps.refl _) (argsL := [(.int (1 : Int32))]) (rest := []) (lenOf pd_2 rfl) rfl (by show 2 * 0 + _ ≤ _; exact Nat.le_of_eq rfl) (hb hby at_56) (fun _ _ => ⟨rfl, e13, (by decide : 1 + 0 ≤ _), (by decide : 4 + 0 ≤ _)⟩)
      dsimp only [Pt.U, Pt.locs, Pt.cells, Pt.slots] at X19 l19 y19 z19 st19 hQ19
      subst l19 y19 z19
      obtain ⟨rfl, N19q, eh19⟩ := hQ19
      have N19 := Fr.app N13 N19q
      refine own_via st19 ?_
      obtain ⟨cq20, kq20, q20a, q20b, q20c⟩ := isOf hZ eh19 (u14.ext O13.2)
      obtain ⟨_, _, ⟨T20, L20, k20, n20⟩, -, X20, ⟨Lc20, hQ20, l20, y20, z20⟩, st20⟩ := X19.virtualBack hx (y := own_y3) (z := own_y3) hown (mvT hZ (own_w hw 29 rfl)) (mvT hZ (own_w hw 30 rfl)) (notFace_of_selects (args := #[]) (mvT hZ (own_w hw 32 rfl))) (mvT hZ (own_w hw 32 rfl)) (mvT hZ (own_w hw 31 rfl)) (by decide) (backOf (W := 0) (rmRan0 l Z a0 hw [] rr0 h13 n0 (Nat.le_trans Z0 K13.1) O13 u15) hZ (own_w hw 33 rfl) (own_w hw 27 rfl) (by decide) (by decide)) q20a q20c (g := (mkF m 59 #[.val (.int p1), .val (.int p2), .val (.ref b1), .val (.ref ad0), .val (.int (1 : Int32)), .unset] [(.ref rr0)])) rfl (by rw [hml]; rfl) (Steps.refl _) (argsL := []) (rest := []) (lenOf pd_3 rfl) rfl (by show 2 * 0 + _ ≤ _; exact Nat.le_of_eq rfl) (hb hby at_59) (fun _ _ => ⟨rfl, eh19, (by decide : 1 + 0 ≤ _), (by decide : 4 + 0 ≤ _)⟩)
      dsimp only [Pt.U, Pt.locs, Pt.cells, Pt.slots] at X20 l20 y20 z20 st20 hQ20
      subst l20 y20 z20
      obtain ⟨rfl, N20q, eh20⟩ := hQ20
      have N20 := Fr.app N19 N20q
      refine own_via st20 ?_
      refine own_go (A := T20.setTop (mkF m 75 #[.val (.int p1), .val (.int p2), .val (.ref b1), .val (.ref ad0), .val (.int (1 : Int32)), .val (.int (0 : Int32))] [(.int (1 : Int32)), (.ref ad0)])) (fun t_ k_ => ?_) ?_
      · show Steps p.tables e below (T20.setTop (mkF m 62 #[.val (.int p1), .val (.int p2), .val (.ref b1), .val (.ref ad0), .val (.int (1 : Int32)), .unset] [(.int (0 : Int32))])) t_
        refine XS.ifYes X20.here hx rfl (pc0 := 62) (pc' := 69) rfl (hb hby at_62) rfl ((if0 _ _).trans (teq (by decide : (0 : Int32) = (0 : Int32))).1) (by decide) (by decide) ?_
        show Steps p.tables e below (T20.setTop (mkF m 69 #[.val (.int p1), .val (.int p2), .val (.ref b1), .val (.ref ad0), .val (.int (1 : Int32)), .unset] [])) t_
        refine XS.iconst X20.here hx rfl (hb hby at_69) ?_
        show Steps p.tables e below (T20.setTop (mkF m 70 #[.val (.int p1), .val (.int p2), .val (.ref b1), .val (.ref ad0), .val (.int (1 : Int32)), .unset] [(.int (0 : Int32))])) t_
        refine XS.istore X20.here hx rfl (hb hby at_70) rfl (l' := #[.val (.int p1), .val (.int p2), .val (.ref b1), .val (.ref ad0), .val (.int (1 : Int32)), .val (.int (0 : Int32))]) rfl ?_
        show Steps p.tables e below (T20.setTop (mkF m 72 #[.val (.int p1), .val (.int p2), .val (.ref b1), .val (.ref ad0), .val (.int (1 : Int32)), .val (.int (0 : Int32))] [])) t_
        refine XS.aloadN X20.here hx rfl (hb hby at_72) rfl rfl ?_
        show Steps p.tables e below (T20.setTop (mkF m 73 #[.val (.int p1), .val (.int p2), .val (.ref b1), .val (.ref ad0), .val (.int (1 : Int32)), .val (.int (0 : Int32))] [(.ref ad0)])) t_
        refine XS.iload X20.here hx rfl (hb hby at_73) rfl ?_
        exact k_
      obtain ⟨cq21, kq21, q21a, q21b, q21c⟩ := isOf hZ eh20 (u2.ext O13.2)
      obtain ⟨_, _, ⟨T21, L21, k21, n21⟩, -, X21, ⟨Lc21, hQ21, l21, y21, z21⟩, st21⟩ := X20.virtualBack hx (y := own_y4) (z := own_y4) hown (mvT hZ (own_w hw 36 rfl)) (mvT hZ (own_w hw 37 rfl)) (notFace_of_selects (args := #[]) (mvT hZ (own_w hw 39 rfl))) (mvT hZ (own_w hw 39 rfl)) (mvT hZ (own_w hw 38 rfl)) (by decide) (backOf (W := 0) (rmLeave0 l Z a0 hw [] ad0 ad2 ad3 h13 n0 (Nat.le_trans Z0 K13.1) O13 u7 u10 (Fld.ne u3 u9 (by decide)) (Fld.ne u3 u12 (by decide))) hZ (own_w hw 40 rfl) (own_w hw 3 rfl) (by decide) (by decide)) q21a q21c (g := (mkF m 75 #[.val (.int p1), .val (.int p2), .val (.ref b1), .val (.ref ad0), .val (.int (1 : Int32)), .val (.int (0 : Int32))] [(.int (1 : Int32)), (.ref ad0)])) rfl (by rw [hml]; rfl) (Steps.refl _) (argsL := [(.int (1 : Int32))]) (rest := []) (lenOf pd_1 rfl) rfl (by show 2 * 0 + _ ≤ _; exact Nat.le_of_eq rfl) (hb hby at_75) (fun _ _ => ⟨rfl, eh20, (by decide : 1 + 0 ≤ _), (by decide : 4 + 0 ≤ _)⟩)
      dsimp only [Pt.U, Pt.locs, Pt.cells, Pt.slots] at X21 l21 y21 z21 st21 hQ21
      subst l21 y21 z21
      obtain ⟨rfl, N21q, eh21⟩ := hQ21
      have N21 := Fr.app N20 N21q
      refine own_via st21 ?_
      refine own_go (A := T21.setTop (mkF m 88 #[.val (.int p1), .val (.int p2), .val (.ref b1), .val (.ref ad0), .val (.int (1 : Int32)), .val (.int (0 : Int32))] [(.int (1 : Int32))])) (fun t_ k_ => ?_) ?_
      · show Steps p.tables e below (T21.setTop (mkF m 78 #[.val (.int p1), .val (.int p2), .val (.ref b1), .val (.ref ad0), .val (.int (1 : Int32)), .val (.int (0 : Int32))] [(.int (0 : Int32))])) t_
        refine XS.iload X21.here hx rfl (hb hby at_78) rfl ?_
        show Steps p.tables e below (T21.setTop (mkF m 80 #[.val (.int p1), .val (.int p2), .val (.ref b1), .val (.ref ad0), .val (.int (1 : Int32)), .val (.int (0 : Int32))] [(.int (0 : Int32)), (.int (0 : Int32))])) t_
        refine XS.icmpNo X21.here hx rfl (hb hby at_80) rfl (teq (by decide : (0 : Int32) = (0 : Int32))).2 ?_
        show Steps p.tables e below (T21.setTop (mkF m 83 #[.val (.int p1), .val (.int p2), .val (.ref b1), .val (.ref ad0), .val (.int (1 : Int32)), .val (.int (0 : Int32))] [])) t_
        refine XS.iconst X21.here hx rfl (hb hby at_83) ?_
        show Steps p.tables e below (T21.setTop (mkF m 84 #[.val (.int p1), .val (.int p2), .val (.ref b1), .val (.ref ad0), .val (.int (1 : Int32)), .val (.int (0 : Int32))] [(.int (1 : Int32))])) t_
        refine XS.goto X21.here hx rfl (pc0 := 84) (pc' := 88) rfl (hb hby at_84) (by decide) (by decide) ?_
        exact k_
      obtain ⟨fs22, hr22, hrun22, hended22, hW22, hsame22⟩ := X21.leave (v := some (.int (1 : Int32))) (fun h => by rw [Bd.returns] at h; cases h)
      refine ⟨_, _, ?_, hrun22, hended22, _, _, rfl, ?_, ⟨_, rfl⟩, hW22, hsame22.mono (by decide) (by decide)⟩
      · exact retN X21 hx (t := .boolean) Bd.returns (by simp) (hb hby at_88) hr22
      · show Q_rm0 Z p1 p2 ad0 ad1 ad2 ad3 rr0 rr1 rr2 rr3 h0 n0 _ T21.heap _
        rw [eh21]
        exact ⟨rfl, N21, K13⟩
  · rw [hm14]
    obtain ⟨cl23, Ar23, q23, S23, M23, H23, G23⟩ := B13
    have hin23 : ¬ ((1 : Int32) < 0 ∨ cl23.slots.size ≤ ((1 : Int32)).toNatClampNeg) := inb_of S23 ⟨by decide, by decide⟩
    have hat23 : cl23.slots[((1 : Int32)).toNatClampNeg]? = some (.ref ad1) := Has.at H23 hin23 rfl
    refine own_go (A := T13.setTop (mkF m 38 #[.val (.int p1), .val (.int p2), .val (.ref b1), .val (.ref ad1), .unset, .unset] [(.int (p2 &&& (1 : Int32)))])) (fun t_ k_ => ?_) ?_
    · show Steps p.tables e below (T13.setTop (mkF m 33 #[.val (.int p1), .val (.int p2), .val (.ref b1), .unset, .unset, .unset] [(.int (1 : Int32)), (.ref b1)])) t_
      refine X13.aaload hx (j := (1 : Int32)) (v := (.ref ad1)) (by rw [e13]; exact Ar23.1) (State.isArrayOf_alike hZ.alike Ar23.2.1) rfl Ar23.2.2 hin23 hat23 (g := (mkF m 33 #[.val (.int p1), .val (.int p2), .val (.ref b1), .unset, .unset, .unset] [(.int (1 : Int32)), (.ref b1)])) rfl rfl (hb hby at_33) _ ?_
      show Steps p.tables e below (T13.setTop (mkF m 34 #[.val (.int p1), .val (.int p2), .val (.ref b1), .unset, .unset, .unset] [(.ref ad1)])) t_
      refine XS.astoreN X13.here hx rfl (hb hby at_34) rfl rfl (l' := #[.val (.int p1), .val (.int p2), .val (.ref b1), .val (.ref ad1), .unset, .unset]) rfl ?_
      show Steps p.tables e below (T13.setTop (mkF m 35 #[.val (.int p1), .val (.int p2), .val (.ref b1), .val (.ref ad1), .unset, .unset] [])) t_
      refine XS.iloadN X13.here hx rfl (hb hby at_35) rfl ?_
      show Steps p.tables e below (T13.setTop (mkF m 36 #[.val (.int p1), .val (.int p2), .val (.ref b1), .val (.ref ad1), .unset, .unset] [(.int p2)])) t_
      refine XS.iconst X13.here hx rfl (hb hby at_36) ?_
      show Steps p.tables e below (T13.setTop (mkF m 37 #[.val (.int p1), .val (.int p2), .val (.ref b1), .val (.ref ad1), .unset, .unset] [(.int (1 : Int32)), (.int p2)])) t_
      refine XS.iand X13.here hx rfl (hb hby at_37) rfl ?_
      exact k_
    by_cases hc38_24 : (p2 &&& (1 : Int32)) = (0 : Int32)
    · refine own_go (A := T13.setTop (mkF m 75 #[.val (.int p1), .val (.int p2), .val (.ref b1), .val (.ref ad1), .val (.int (0 : Int32)), .val (.int (1 : Int32))] [(.int (0 : Int32)), (.ref ad1)])) (fun t_ k_ => ?_) ?_
      · show Steps p.tables e below (T13.setTop (mkF m 38 #[.val (.int p1), .val (.int p2), .val (.ref b1), .val (.ref ad1), .unset, .unset] [(.int (p2 &&& (1 : Int32)))])) t_
        refine XS.ifYes X13.here hx rfl (pc0 := 38) (pc' := 45) rfl (hb hby at_38) rfl ((if0 _ _).trans (teq hc38_24).1) (by decide) (by decide) ?_
        show Steps p.tables e below (T13.setTop (mkF m 45 #[.val (.int p1), .val (.int p2), .val (.ref b1), .val (.ref ad1), .unset, .unset] [])) t_
        refine XS.iconst X13.here hx rfl (hb hby at_45) ?_
        show Steps p.tables e below (T13.setTop (mkF m 46 #[.val (.int p1), .val (.int p2), .val (.ref b1), .val (.ref ad1), .unset, .unset] [(.int (0 : Int32))])) t_
        refine XS.istore X13.here hx rfl (hb hby at_46) rfl (l' := #[.val (.int p1), .val (.int p2), .val (.ref b1), .val (.ref ad1), .val (.int (0 : Int32)), .unset]) rfl ?_
        show Steps p.tables e below (T13.setTop (mkF m 48 #[.val (.int p1), .val (.int p2), .val (.ref b1), .val (.ref ad1), .val (.int (0 : Int32)), .unset] [])) t_
        refine XS.iload X13.here hx rfl (hb hby at_48) rfl ?_
        show Steps p.tables e below (T13.setTop (mkF m 50 #[.val (.int p1), .val (.int p2), .val (.ref b1), .val (.ref ad1), .val (.int (0 : Int32)), .unset] [(.int (0 : Int32))])) t_
        refine XS.ifYes X13.here hx rfl (pc0 := 50) (pc' := 65) rfl (hb hby at_50) rfl ((if0 _ _).trans (teq (by decide : (0 : Int32) = (0 : Int32))).1) (by decide) (by decide) ?_
        show Steps p.tables e below (T13.setTop (mkF m 65 #[.val (.int p1), .val (.int p2), .val (.ref b1), .val (.ref ad1), .val (.int (0 : Int32)), .unset] [])) t_
        refine XS.iconst X13.here hx rfl (hb hby at_65) ?_
        show Steps p.tables e below (T13.setTop (mkF m 66 #[.val (.int p1), .val (.int p2), .val (.ref b1), .val (.ref ad1), .val (.int (0 : Int32)), .unset] [(.int (1 : Int32))])) t_
        refine XS.goto X13.here hx rfl (pc0 := 66) (pc' := 70) rfl (hb hby at_66) (by decide) (by decide) ?_
        show Steps p.tables e below (T13.setTop (mkF m 70 #[.val (.int p1), .val (.int p2), .val (.ref b1), .val (.ref ad1), .val (.int (0 : Int32)), .unset] [(.int (1 : Int32))])) t_
        refine XS.istore X13.here hx rfl (hb hby at_70) rfl (l' := #[.val (.int p1), .val (.int p2), .val (.ref b1), .val (.ref ad1), .val (.int (0 : Int32)), .val (.int (1 : Int32))]) rfl ?_
        show Steps p.tables e below (T13.setTop (mkF m 72 #[.val (.int p1), .val (.int p2), .val (.ref b1), .val (.ref ad1), .val (.int (0 : Int32)), .val (.int (1 : Int32))] [])) t_
        refine XS.aloadN X13.here hx rfl (hb hby at_72) rfl rfl ?_
        show Steps p.tables e below (T13.setTop (mkF m 73 #[.val (.int p1), .val (.int p2), .val (.ref b1), .val (.ref ad1), .val (.int (0 : Int32)), .val (.int (1 : Int32))] [(.ref ad1)])) t_
        refine XS.iload X13.here hx rfl (hb hby at_73) rfl ?_
        exact k_
      obtain ⟨cq25, kq25, q25a, q25b, q25c⟩ := isOf hZ e13 (u5.ext O13.2)
      obtain ⟨_, _, ⟨T25, L25, k25, n25⟩, -, X25, ⟨Lc25, hQ25, l25, y25, z25⟩, st25⟩ := X13.virtualBack hx (y := own_y4) (z := own_y4) hown (mvT hZ (own_w hw 36 rfl)) (mvT hZ (own_w hw 37 rfl)) (notFace_of_selects (args := #[]) (mvT hZ (own_w hw 39 rfl))) (mvT hZ (own_w hw 39 rfl)) (mvT hZ (own_w hw 38 rfl)) (by decide) (backOf (W := 0) (rmLeaveN l Z a0 hw [] ad1 h13 n0 (Nat.le_trans Z0 K13.1) O13) hZ (own_w hw 40 rfl) (own_w hw 3 rfl) (by decide) (by decide)) q25a q25c (g := (mkF m 75 #[.val (.int p1), .val (.int p2), .val (.ref b1), .val (.ref ad1), .val (.int (0 : Int32)), .val (.int (1 : Int32))] [(.int (0 : Int32)), (.ref ad1)])) rfl (by rw [hml]; rfl) (Steps.refl _) (argsL := [(.int (0 : Int32))]) (rest := []) (lenOf pd_1 rfl) rfl (by show 2 * 0 + _ ≤ _; exact Nat.le_of_eq rfl) (hb hby at_75) (fun _ _ => ⟨rfl, e13, (by decide : 1 + 0 ≤ _), (by decide : 4 + 0 ≤ _)⟩)
      dsimp only [Pt.U, Pt.locs, Pt.cells, Pt.slots] at X25 l25 y25 z25 st25 hQ25
      subst l25 y25 z25
      obtain ⟨rfl, N25q, eh25⟩ := hQ25
      have N25 := Fr.app N13 N25q
      refine own_via st25 ?_
      refine own_go (A := T25.setTop (mkF m 88 #[.val (.int p1), .val (.int p2), .val (.ref b1), .val (.ref ad1), .val (.int (0 : Int32)), .val (.int (1 : Int32))] [(.int (1 : Int32))])) (fun t_ k_ => ?_) ?_
      · show Steps p.tables e below (T25.setTop (mkF m 78 #[.val (.int p1), .val (.int p2), .val (.ref b1), .val (.ref ad1), .val (.int (0 : Int32)), .val (.int (1 : Int32))] [(.int (1 : Int32))])) t_
        refine XS.iload X25.here hx rfl (hb hby at_78) rfl ?_
        show Steps p.tables e below (T25.setTop (mkF m 80 #[.val (.int p1), .val (.int p2), .val (.ref b1), .val (.ref ad1), .val (.int (0 : Int32)), .val (.int (1 : Int32))] [(.int (1 : Int32)), (.int (1 : Int32))])) t_
        refine XS.icmpNo X25.here hx rfl (hb hby at_80) rfl (teq (by decide : (1 : Int32) = (1 : Int32))).2 ?_
        show Steps p.tables e below (T25.setTop (mkF m 83 #[.val (.int p1), .val (.int p2), .val (.ref b1), .val (.ref ad1), .val (.int (0 : Int32)), .val (.int (1 : Int32))] [])) t_
        refine XS.iconst X25.here hx rfl (hb hby at_83) ?_
        show Steps p.tables e below (T25.setTop (mkF m 84 #[.val (.int p1), .val (.int p2), .val (.ref b1), .val (.ref ad1), .val (.int (0 : Int32)), .val (.int (1 : Int32))] [(.int (1 : Int32))])) t_
        refine XS.goto X25.here hx rfl (pc0 := 84) (pc' := 88) rfl (hb hby at_84) (by decide) (by decide) ?_
        exact k_
      obtain ⟨fs26, hr26, hrun26, hended26, hW26, hsame26⟩ := X25.leave (v := some (.int (1 : Int32))) (fun h => by rw [Bd.returns] at h; cases h)
      refine ⟨_, _, ?_, hrun26, hended26, _, _, rfl, ?_, ⟨_, rfl⟩, hW26, hsame26.mono (by decide) (by decide)⟩
      · exact retN X25 hx (t := .boolean) Bd.returns (by simp) (hb hby at_88) hr26
      · show Q_rm0 Z p1 p2 ad0 ad1 ad2 ad3 rr0 rr1 rr2 rr3 h0 n0 _ T25.heap _
        rw [eh25]
        exact ⟨rfl, N25, K13⟩
    · refine own_go (A := T13.setTop (mkF m 56 #[.val (.int p1), .val (.int p2), .val (.ref b1), .val (.ref ad1), .val (.int (1 : Int32)), .unset] [(.int (1 : Int32)), (.ref ad1)])) (fun t_ k_ => ?_) ?_
      · show Steps p.tables e below (T13.setTop (mkF m 38 #[.val (.int p1), .val (.int p2), .val (.ref b1), .val (.ref ad1), .unset, .unset] [(.int (p2 &&& (1 : Int32)))])) t_
        refine XS.ifNo X13.here hx rfl (hb hby at_38) rfl ((if0 _ _).trans (feq hc38_24).1) ?_
        show Steps p.tables e below (T13.setTop (mkF m 41 #[.val (.int p1), .val (.int p2), .val (.ref b1), .val (.ref ad1), .unset, .unset] [])) t_
        refine XS.iconst X13.here hx rfl (hb hby at_41) ?_
        show Steps p.tables e below (T13.setTop (mkF m 42 #[.val (.int p1), .val (.int p2), .val (.ref b1), .val (.ref ad1), .unset, .unset] [(.int (1 : Int32))])) t_
        refine XS.goto X13.here hx rfl (pc0 := 42) (pc' := 46) rfl (hb hby at_42) (by decide) (by decide) ?_
        show Steps p.tables e below (T13.setTop (mkF m 46 #[.val (.int p1), .val (.int p2), .val (.ref b1), .val (.ref ad1), .unset, .unset] [(.int (1 : Int32))])) t_
        refine XS.istore X13.here hx rfl (hb hby at_46) rfl (l' := #[.val (.int p1), .val (.int p2), .val (.ref b1), .val (.ref ad1), .val (.int (1 : Int32)), .unset]) rfl ?_
        show Steps p.tables e below (T13.setTop (mkF m 48 #[.val (.int p1), .val (.int p2), .val (.ref b1), .val (.ref ad1), .val (.int (1 : Int32)), .unset] [])) t_
        refine XS.iload X13.here hx rfl (hb hby at_48) rfl ?_
        show Steps p.tables e below (T13.setTop (mkF m 50 #[.val (.int p1), .val (.int p2), .val (.ref b1), .val (.ref ad1), .val (.int (1 : Int32)), .unset] [(.int (1 : Int32))])) t_
        refine XS.ifNo X13.here hx rfl (hb hby at_50) rfl ((if0 _ _).trans (feq (by decide : ¬ ((1 : Int32) = (0 : Int32)))).1) ?_
        show Steps p.tables e below (T13.setTop (mkF m 53 #[.val (.int p1), .val (.int p2), .val (.ref b1), .val (.ref ad1), .val (.int (1 : Int32)), .unset] [])) t_
        refine XS.aloadN X13.here hx rfl (hb hby at_53) rfl rfl ?_
        show Steps p.tables e below (T13.setTop (mkF m 54 #[.val (.int p1), .val (.int p2), .val (.ref b1), .val (.ref ad1), .val (.int (1 : Int32)), .unset] [(.ref ad1)])) t_
        refine XS.iload X13.here hx rfl (hb hby at_54) rfl ?_
        exact k_
      obtain ⟨cq27, kq27, q27a, q27b, q27c⟩ := isOf hZ e13 (u5.ext O13.2)
      obtain ⟨_, _, ⟨T27, L27, k27, n27⟩, -, X27, ⟨Lc27, hQ27, l27, y27, z27⟩, st27⟩ := X13.virtualBack hx (y := own_y2) (z := own_y2) hown (mvT hZ (own_w hw 12 rfl)) (mvT hZ (own_w hw 13 rfl)) (notFace_of_selects (args := #[]) (mvT hZ (own_w hw 15 rfl))) (mvT hZ (own_w hw 15 rfl)) (mvT hZ (own_w hw 14 rfl)) (by decide) (backOf (W := 0) (rmRun1 l Z a0 hw [] ad1 rr1 h13 n0 (Nat.le_trans Z0 K13.1) O13 u5 u6 u16) hZ (own_w hw 16 rfl) (own_w hw 3 rfl) (by decide) (by decide)) q27a q27c (g := (mkF m 56 #[.val (.int p1), .val (.int p2), .val (.ref b1), .val (.ref ad1), .val (.int (1 : Int32)), .unset] [(.int (1 : Int32)), (.ref ad1)])) rfl (by rw [hml]; rfl) (Steps.refl _) (argsL := [(.int (1 : Int32))]) (rest := []) (lenOf pd_2 rfl) rfl (by show 2 * 0 + _ ≤ _; exact Nat.le_of_eq rfl) (hb hby at_56) (fun _ _ => ⟨rfl, e13, (by decide : 1 + 0 ≤ _), (by decide : 4 + 0 ≤ _)⟩)
      dsimp only [Pt.U, Pt.locs, Pt.cells, Pt.slots] at X27 l27 y27 z27 st27 hQ27
      subst l27 y27 z27
      obtain ⟨rfl, N27q, eh27⟩ := hQ27
      have N27 := Fr.app N13 N27q
      refine own_via st27 ?_
      obtain ⟨cq28, kq28, q28a, q28b, q28c⟩ := isOf hZ eh27 (u17.ext O13.2)
      obtain ⟨_, _, ⟨T28, L28, k28, n28⟩, -, X28, ⟨Lc28, hQ28, l28, y28, z28⟩, st28⟩ := X27.virtualBack hx (y := own_y3) (z := own_y3) hown (mvT hZ (own_w hw 29 rfl)) (mvT hZ (own_w hw 30 rfl)) (notFace_of_selects (args := #[]) (mvT hZ (own_w hw 32 rfl))) (mvT hZ (own_w hw 32 rfl)) (mvT hZ (own_w hw 31 rfl)) (by decide) (backOf (W := 0) (rmRan0 l Z a0 hw [] rr1 h13 n0 (Nat.le_trans Z0 K13.1) O13 u18) hZ (own_w hw 33 rfl) (own_w hw 27 rfl) (by decide) (by decide)) q28a q28c (g := (mkF m 59 #[.val (.int p1), .val (.int p2), .val (.ref b1), .val (.ref ad1), .val (.int (1 : Int32)), .unset] [(.ref rr1)])) rfl (by rw [hml]; rfl) (Steps.refl _) (argsL := []) (rest := []) (lenOf pd_3 rfl) rfl (by show 2 * 0 + _ ≤ _; exact Nat.le_of_eq rfl) (hb hby at_59) (fun _ _ => ⟨rfl, eh27, (by decide : 1 + 0 ≤ _), (by decide : 4 + 0 ≤ _)⟩)
      dsimp only [Pt.U, Pt.locs, Pt.cells, Pt.slots] at X28 l28 y28 z28 st28 hQ28
      subst l28 y28 z28
      obtain ⟨rfl, N28q, eh28⟩ := hQ28
      have N28 := Fr.app N27 N28q
      refine own_via st28 ?_
      refine own_go (A := T28.setTop (mkF m 75 #[.val (.int p1), .val (.int p2), .val (.ref b1), .val (.ref ad1), .val (.int (1 : Int32)), .val (.int (0 : Int32))] [(.int (1 : Int32)), (.ref ad1)])) (fun t_ k_ => ?_) ?_
      · show Steps p.tables e below (T28.setTop (mkF m 62 #[.val (.int p1), .val (.int p2), .val (.ref b1), .val (.ref ad1), .val (.int (1 : Int32)), .unset] [(.int (0 : Int32))])) t_
        refine XS.ifYes X28.here hx rfl (pc0 := 62) (pc' := 69) rfl (hb hby at_62) rfl ((if0 _ _).trans (teq (by decide : (0 : Int32) = (0 : Int32))).1) (by decide) (by decide) ?_
        show Steps p.tables e below (T28.setTop (mkF m 69 #[.val (.int p1), .val (.int p2), .val (.ref b1), .val (.ref ad1), .val (.int (1 : Int32)), .unset] [])) t_
        refine XS.iconst X28.here hx rfl (hb hby at_69) ?_
        show Steps p.tables e below (T28.setTop (mkF m 70 #[.val (.int p1), .val (.int p2), .val (.ref b1), .val (.ref ad1), .val (.int (1 : Int32)), .unset] [(.int (0 : Int32))])) t_
        refine XS.istore X28.here hx rfl (hb hby at_70) rfl (l' := #[.val (.int p1), .val (.int p2), .val (.ref b1), .val (.ref ad1), .val (.int (1 : Int32)), .val (.int (0 : Int32))]) rfl ?_
        show Steps p.tables e below (T28.setTop (mkF m 72 #[.val (.int p1), .val (.int p2), .val (.ref b1), .val (.ref ad1), .val (.int (1 : Int32)), .val (.int (0 : Int32))] [])) t_
        refine XS.aloadN X28.here hx rfl (hb hby at_72) rfl rfl ?_
        show Steps p.tables e below (T28.setTop (mkF m 73 #[.val (.int p1), .val (.int p2), .val (.ref b1), .val (.ref ad1), .val (.int (1 : Int32)), .val (.int (0 : Int32))] [(.ref ad1)])) t_
        refine XS.iload X28.here hx rfl (hb hby at_73) rfl ?_
        exact k_
      obtain ⟨cq29, kq29, q29a, q29b, q29c⟩ := isOf hZ eh28 (u5.ext O13.2)
      obtain ⟨_, _, ⟨T29, L29, k29, n29⟩, -, X29, ⟨Lc29, hQ29, l29, y29, z29⟩, st29⟩ := X28.virtualBack hx (y := own_y4) (z := own_y4) hown (mvT hZ (own_w hw 36 rfl)) (mvT hZ (own_w hw 37 rfl)) (notFace_of_selects (args := #[]) (mvT hZ (own_w hw 39 rfl))) (mvT hZ (own_w hw 39 rfl)) (mvT hZ (own_w hw 38 rfl)) (by decide) (backOf (W := 0) (rmLeave1 l Z a0 hw [] ad1 ad2 ad3 h13 n0 (Nat.le_trans Z0 K13.1) O13 u7 u10 (Fld.ne u6 u9 (by decide)) (Fld.ne u6 u12 (by decide))) hZ (own_w hw 40 rfl) (own_w hw 3 rfl) (by decide) (by decide)) q29a q29c (g := (mkF m 75 #[.val (.int p1), .val (.int p2), .val (.ref b1), .val (.ref ad1), .val (.int (1 : Int32)), .val (.int (0 : Int32))] [(.int (1 : Int32)), (.ref ad1)])) rfl (by rw [hml]; rfl) (Steps.refl _) (argsL := [(.int (1 : Int32))]) (rest := []) (lenOf pd_1 rfl) rfl (by show 2 * 0 + _ ≤ _; exact Nat.le_of_eq rfl) (hb hby at_75) (fun _ _ => ⟨rfl, eh28, (by decide : 1 + 0 ≤ _), (by decide : 4 + 0 ≤ _)⟩)
      dsimp only [Pt.U, Pt.locs, Pt.cells, Pt.slots] at X29 l29 y29 z29 st29 hQ29
      subst l29 y29 z29
      obtain ⟨rfl, N29q, eh29⟩ := hQ29
      have N29 := Fr.app N28 N29q
      refine own_via st29 ?_
      refine own_go (A := T29.setTop (mkF m 88 #[.val (.int p1), .val (.int p2), .val (.ref b1), .val (.ref ad1), .val (.int (1 : Int32)), .val (.int (0 : Int32))] [(.int (1 : Int32))])) (fun t_ k_ => ?_) ?_
      · show Steps p.tables e below (T29.setTop (mkF m 78 #[.val (.int p1), .val (.int p2), .val (.ref b1), .val (.ref ad1), .val (.int (1 : Int32)), .val (.int (0 : Int32))] [(.int (0 : Int32))])) t_
        refine XS.iload X29.here hx rfl (hb hby at_78) rfl ?_
        show Steps p.tables e below (T29.setTop (mkF m 80 #[.val (.int p1), .val (.int p2), .val (.ref b1), .val (.ref ad1), .val (.int (1 : Int32)), .val (.int (0 : Int32))] [(.int (0 : Int32)), (.int (0 : Int32))])) t_
        refine XS.icmpNo X29.here hx rfl (hb hby at_80) rfl (teq (by decide : (0 : Int32) = (0 : Int32))).2 ?_
        show Steps p.tables e below (T29.setTop (mkF m 83 #[.val (.int p1), .val (.int p2), .val (.ref b1), .val (.ref ad1), .val (.int (1 : Int32)), .val (.int (0 : Int32))] [])) t_
        refine XS.iconst X29.here hx rfl (hb hby at_83) ?_
        show Steps p.tables e below (T29.setTop (mkF m 84 #[.val (.int p1), .val (.int p2), .val (.ref b1), .val (.ref ad1), .val (.int (1 : Int32)), .val (.int (0 : Int32))] [(.int (1 : Int32))])) t_
        refine XS.goto X29.here hx rfl (pc0 := 84) (pc' := 88) rfl (hb hby at_84) (by decide) (by decide) ?_
        exact k_
      obtain ⟨fs30, hr30, hrun30, hended30, hW30, hsame30⟩ := X29.leave (v := some (.int (1 : Int32))) (fun h => by rw [Bd.returns] at h; cases h)
      refine ⟨_, _, ?_, hrun30, hended30, _, _, rfl, ?_, ⟨_, rfl⟩, hW30, hsame30.mono (by decide) (by decide)⟩
      · exact retN X29 hx (t := .boolean) Bd.returns (by simp) (hb hby at_88) hr30
      · show Q_rm0 Z p1 p2 ad0 ad1 ad2 ad3 rr0 rr1 rr2 rr3 h0 n0 _ T29.heap _
        rw [eh29]
        exact ⟨rfl, N29, K13⟩
  · rw [hm14]
    obtain ⟨cl31, Ar31, q31, S31, M31, H31, G31⟩ := B13
    have hin31 : ¬ ((2 : Int32) < 0 ∨ cl31.slots.size ≤ ((2 : Int32)).toNatClampNeg) := inb_of S31 ⟨by decide, by decide⟩
    have hat31 : cl31.slots[((2 : Int32)).toNatClampNeg]? = some (.ref ad2) := Has.at H31 hin31 rfl
    refine own_go (A := T13.setTop (mkF m 38 #[.val (.int p1), .val (.int p2), .val (.ref b1), .val (.ref ad2), .unset, .unset] [(.int (p2 &&& (1 : Int32)))])) (fun t_ k_ => ?_) ?_
    · show Steps p.tables e below (T13.setTop (mkF m 33 #[.val (.int p1), .val (.int p2), .val (.ref b1), .unset, .unset, .unset] [(.int (2 : Int32)), (.ref b1)])) t_
      refine X13.aaload hx (j := (2 : Int32)) (v := (.ref ad2)) (by rw [e13]; exact Ar31.1) (State.isArrayOf_alike hZ.alike Ar31.2.1) rfl Ar31.2.2 hin31 hat31 (g := (mkF m 33 #[.val (.int p1), .val (.int p2), .val (.ref b1), .unset, .unset, .unset] [(.int (2 : Int32)), (.ref b1)])) rfl rfl (hb hby at_33) _ ?_
      show Steps p.tables e below (T13.setTop (mkF m 34 #[.val (.int p1), .val (.int p2), .val (.ref b1), .unset, .unset, .unset] [(.ref ad2)])) t_
      refine XS.astoreN X13.here hx rfl (hb hby at_34) rfl rfl (l' := #[.val (.int p1), .val (.int p2), .val (.ref b1), .val (.ref ad2), .unset, .unset]) rfl ?_
      show Steps p.tables e below (T13.setTop (mkF m 35 #[.val (.int p1), .val (.int p2), .val (.ref b1), .val (.ref ad2), .unset, .unset] [])) t_
      refine XS.iloadN X13.here hx rfl (hb hby at_35) rfl ?_
      show Steps p.tables e below (T13.setTop (mkF m 36 #[.val (.int p1), .val (.int p2), .val (.ref b1), .val (.ref ad2), .unset, .unset] [(.int p2)])) t_
      refine XS.iconst X13.here hx rfl (hb hby at_36) ?_
      show Steps p.tables e below (T13.setTop (mkF m 37 #[.val (.int p1), .val (.int p2), .val (.ref b1), .val (.ref ad2), .unset, .unset] [(.int (1 : Int32)), (.int p2)])) t_
      refine XS.iand X13.here hx rfl (hb hby at_37) rfl ?_
      exact k_
    by_cases hc38_32 : (p2 &&& (1 : Int32)) = (0 : Int32)
    · refine own_go (A := T13.setTop (mkF m 75 #[.val (.int p1), .val (.int p2), .val (.ref b1), .val (.ref ad2), .val (.int (0 : Int32)), .val (.int (1 : Int32))] [(.int (0 : Int32)), (.ref ad2)])) (fun t_ k_ => ?_) ?_
      · show Steps p.tables e below (T13.setTop (mkF m 38 #[.val (.int p1), .val (.int p2), .val (.ref b1), .val (.ref ad2), .unset, .unset] [(.int (p2 &&& (1 : Int32)))])) t_
        refine XS.ifYes X13.here hx rfl (pc0 := 38) (pc' := 45) rfl (hb hby at_38) rfl ((if0 _ _).trans (teq hc38_32).1) (by decide) (by decide) ?_
        show Steps p.tables e below (T13.setTop (mkF m 45 #[.val (.int p1), .val (.int p2), .val (.ref b1), .val (.ref ad2), .unset, .unset] [])) t_
        refine XS.iconst X13.here hx rfl (hb hby at_45) ?_
        show Steps p.tables e below (T13.setTop (mkF m 46 #[.val (.int p1), .val (.int p2), .val (.ref b1), .val (.ref ad2), .unset, .unset] [(.int (0 : Int32))])) t_
        refine XS.istore X13.here hx rfl (hb hby at_46) rfl (l' := #[.val (.int p1), .val (.int p2), .val (.ref b1), .val (.ref ad2), .val (.int (0 : Int32)), .unset]) rfl ?_
        show Steps p.tables e below (T13.setTop (mkF m 48 #[.val (.int p1), .val (.int p2), .val (.ref b1), .val (.ref ad2), .val (.int (0 : Int32)), .unset] [])) t_
        refine XS.iload X13.here hx rfl (hb hby at_48) rfl ?_
        show Steps p.tables e below (T13.setTop (mkF m 50 #[.val (.int p1), .val (.int p2), .val (.ref b1), .val (.ref ad2), .val (.int (0 : Int32)), .unset] [(.int (0 : Int32))])) t_
        refine XS.ifYes X13.here hx rfl (pc0 := 50) (pc' := 65) rfl (hb hby at_50) rfl ((if0 _ _).trans (teq (by decide : (0 : Int32) = (0 : Int32))).1) (by decide) (by decide) ?_
        show Steps p.tables e below (T13.setTop (mkF m 65 #[.val (.int p1), .val (.int p2), .val (.ref b1), .val (.ref ad2), .val (.int (0 : Int32)), .unset] [])) t_
        refine XS.iconst X13.here hx rfl (hb hby at_65) ?_
        show Steps p.tables e below (T13.setTop (mkF m 66 #[.val (.int p1), .val (.int p2), .val (.ref b1), .val (.ref ad2), .val (.int (0 : Int32)), .unset] [(.int (1 : Int32))])) t_
        refine XS.goto X13.here hx rfl (pc0 := 66) (pc' := 70) rfl (hb hby at_66) (by decide) (by decide) ?_
        show Steps p.tables e below (T13.setTop (mkF m 70 #[.val (.int p1), .val (.int p2), .val (.ref b1), .val (.ref ad2), .val (.int (0 : Int32)), .unset] [(.int (1 : Int32))])) t_
        refine XS.istore X13.here hx rfl (hb hby at_70) rfl (l' := #[.val (.int p1), .val (.int p2), .val (.ref b1), .val (.ref ad2), .val (.int (0 : Int32)), .val (.int (1 : Int32))]) rfl ?_
        show Steps p.tables e below (T13.setTop (mkF m 72 #[.val (.int p1), .val (.int p2), .val (.ref b1), .val (.ref ad2), .val (.int (0 : Int32)), .val (.int (1 : Int32))] [])) t_
        refine XS.aloadN X13.here hx rfl (hb hby at_72) rfl rfl ?_
        show Steps p.tables e below (T13.setTop (mkF m 73 #[.val (.int p1), .val (.int p2), .val (.ref b1), .val (.ref ad2), .val (.int (0 : Int32)), .val (.int (1 : Int32))] [(.ref ad2)])) t_
        refine XS.iload X13.here hx rfl (hb hby at_73) rfl ?_
        exact k_
      obtain ⟨cq33, kq33, q33a, q33b, q33c⟩ := isOf hZ e13 (u8.ext O13.2)
      obtain ⟨_, _, ⟨T33, L33, k33, n33⟩, -, X33, ⟨Lc33, hQ33, l33, y33, z33⟩, st33⟩ := X13.virtualBack hx (y := own_y4) (z := own_y4) hown (mvT hZ (own_w hw 36 rfl)) (mvT hZ (own_w hw 37 rfl)) (notFace_of_selects (args := #[]) (mvT hZ (own_w hw 39 rfl))) (mvT hZ (own_w hw 39 rfl)) (mvT hZ (own_w hw 38 rfl)) (by decide) (backOf (W := 0) (rmLeaveN l Z a0 hw [] ad2 h13 n0 (Nat.le_trans Z0 K13.1) O13) hZ (own_w hw 40 rfl) (own_w hw 3 rfl) (by decide) (by decide)) q33a q33c (g := (mkF m 75 #[.val (.int p1), .val (.int p2), .val (.ref b1), .val (.ref ad2), .val (.int (0 : Int32)), .val (.int (1 : Int32))] [(.int (0 : Int32)), (.ref ad2)])) rfl (by rw [hml]; rfl) (Steps.refl _) (argsL := [(.int (0 : Int32))]) (rest := []) (lenOf pd_1 rfl) rfl (by show 2 * 0 + _ ≤ _; exact Nat.le_of_eq rfl) (hb hby at_75) (fun _ _ => ⟨rfl, e13, (by decide : 1 + 0 ≤ _), (by decide : 4 + 0 ≤ _)⟩)
      dsimp only [Pt.U, Pt.locs, Pt.cells, Pt.slots] at X33 l33 y33 z33 st33 hQ33
      subst l33 y33 z33
      obtain ⟨rfl, N33q, eh33⟩ := hQ33
      have N33 := Fr.app N13 N33q
      refine own_via st33 ?_
      refine own_go (A := T33.setTop (mkF m 88 #[.val (.int p1), .val (.int p2), .val (.ref b1), .val (.ref ad2), .val (.int (0 : Int32)), .val (.int (1 : Int32))] [(.int (1 : Int32))])) (fun t_ k_ => ?_) ?_
      · show Steps p.tables e below (T33.setTop (mkF m 78 #[.val (.int p1), .val (.int p2), .val (.ref b1), .val (.ref ad2), .val (.int (0 : Int32)), .val (.int (1 : Int32))] [(.int (1 : Int32))])) t_
        refine XS.iload X33.here hx rfl (hb hby at_78) rfl ?_
        show Steps p.tables e below (T33.setTop (mkF m 80 #[.val (.int p1), .val (.int p2), .val (.ref b1), .val (.ref ad2), .val (.int (0 : Int32)), .val (.int (1 : Int32))] [(.int (1 : Int32)), (.int (1 : Int32))])) t_
        refine XS.icmpNo X33.here hx rfl (hb hby at_80) rfl (teq (by decide : (1 : Int32) = (1 : Int32))).2 ?_
        show Steps p.tables e below (T33.setTop (mkF m 83 #[.val (.int p1), .val (.int p2), .val (.ref b1), .val (.ref ad2), .val (.int (0 : Int32)), .val (.int (1 : Int32))] [])) t_
        refine XS.iconst X33.here hx rfl (hb hby at_83) ?_
        show Steps p.tables e below (T33.setTop (mkF m 84 #[.val (.int p1), .val (.int p2), .val (.ref b1), .val (.ref ad2), .val (.int (0 : Int32)), .val (.int (1 : Int32))] [(.int (1 : Int32))])) t_
        refine XS.goto X33.here hx rfl (pc0 := 84) (pc' := 88) rfl (hb hby at_84) (by decide) (by decide) ?_
        exact k_
      obtain ⟨fs34, hr34, hrun34, hended34, hW34, hsame34⟩ := X33.leave (v := some (.int (1 : Int32))) (fun h => by rw [Bd.returns] at h; cases h)
      refine ⟨_, _, ?_, hrun34, hended34, _, _, rfl, ?_, ⟨_, rfl⟩, hW34, hsame34.mono (by decide) (by decide)⟩
      · exact retN X33 hx (t := .boolean) Bd.returns (by simp) (hb hby at_88) hr34
      · show Q_rm0 Z p1 p2 ad0 ad1 ad2 ad3 rr0 rr1 rr2 rr3 h0 n0 _ T33.heap _
        rw [eh33]
        exact ⟨rfl, N33, K13⟩
    · refine own_go (A := T13.setTop (mkF m 56 #[.val (.int p1), .val (.int p2), .val (.ref b1), .val (.ref ad2), .val (.int (1 : Int32)), .unset] [(.int (1 : Int32)), (.ref ad2)])) (fun t_ k_ => ?_) ?_
      · show Steps p.tables e below (T13.setTop (mkF m 38 #[.val (.int p1), .val (.int p2), .val (.ref b1), .val (.ref ad2), .unset, .unset] [(.int (p2 &&& (1 : Int32)))])) t_
        refine XS.ifNo X13.here hx rfl (hb hby at_38) rfl ((if0 _ _).trans (feq hc38_32).1) ?_
        show Steps p.tables e below (T13.setTop (mkF m 41 #[.val (.int p1), .val (.int p2), .val (.ref b1), .val (.ref ad2), .unset, .unset] [])) t_
        refine XS.iconst X13.here hx rfl (hb hby at_41) ?_
        show Steps p.tables e below (T13.setTop (mkF m 42 #[.val (.int p1), .val (.int p2), .val (.ref b1), .val (.ref ad2), .unset, .unset] [(.int (1 : Int32))])) t_
        refine XS.goto X13.here hx rfl (pc0 := 42) (pc' := 46) rfl (hb hby at_42) (by decide) (by decide) ?_
        show Steps p.tables e below (T13.setTop (mkF m 46 #[.val (.int p1), .val (.int p2), .val (.ref b1), .val (.ref ad2), .unset, .unset] [(.int (1 : Int32))])) t_
        refine XS.istore X13.here hx rfl (hb hby at_46) rfl (l' := #[.val (.int p1), .val (.int p2), .val (.ref b1), .val (.ref ad2), .val (.int (1 : Int32)), .unset]) rfl ?_
        show Steps p.tables e below (T13.setTop (mkF m 48 #[.val (.int p1), .val (.int p2), .val (.ref b1), .val (.ref ad2), .val (.int (1 : Int32)), .unset] [])) t_
        refine XS.iload X13.here hx rfl (hb hby at_48) rfl ?_
        show Steps p.tables e below (T13.setTop (mkF m 50 #[.val (.int p1), .val (.int p2), .val (.ref b1), .val (.ref ad2), .val (.int (1 : Int32)), .unset] [(.int (1 : Int32))])) t_
        refine XS.ifNo X13.here hx rfl (hb hby at_50) rfl ((if0 _ _).trans (feq (by decide : ¬ ((1 : Int32) = (0 : Int32)))).1) ?_
        show Steps p.tables e below (T13.setTop (mkF m 53 #[.val (.int p1), .val (.int p2), .val (.ref b1), .val (.ref ad2), .val (.int (1 : Int32)), .unset] [])) t_
        refine XS.aloadN X13.here hx rfl (hb hby at_53) rfl rfl ?_
        show Steps p.tables e below (T13.setTop (mkF m 54 #[.val (.int p1), .val (.int p2), .val (.ref b1), .val (.ref ad2), .val (.int (1 : Int32)), .unset] [(.ref ad2)])) t_
        refine XS.iload X13.here hx rfl (hb hby at_54) rfl ?_
        exact k_
      obtain ⟨cq35, kq35, q35a, q35b, q35c⟩ := isOf hZ e13 (u8.ext O13.2)
      obtain ⟨_, _, ⟨T35, L35, k35, n35⟩, -, X35, ⟨Lc35, hQ35, l35, y35, z35⟩, st35⟩ := X13.virtualBack hx (y := own_y2) (z := own_y2) hown (mvT hZ (own_w hw 12 rfl)) (mvT hZ (own_w hw 13 rfl)) (notFace_of_selects (args := #[]) (mvT hZ (own_w hw 15 rfl))) (mvT hZ (own_w hw 15 rfl)) (mvT hZ (own_w hw 14 rfl)) (by decide) (backOf (W := 0) (rmRun2 l Z a0 hw [] ad2 rr2 h13 n0 (Nat.le_trans Z0 K13.1) O13 u8 u9 u19) hZ (own_w hw 16 rfl) (own_w hw 3 rfl) (by decide) (by decide)) q35a q35c (g := (mkF m 56 #[.val (.int p1), .val (.int p2), .val (.ref b1), .val (.ref ad2), .val (.int (1 : Int32)), .unset] [(.int (1 : Int32)), (.ref ad2)])) rfl (by rw [hml]; rfl) (Steps.refl _) (argsL := [(.int (1 : Int32))]) (rest := []) (lenOf pd_2 rfl) rfl (by show 2 * 0 + _ ≤ _; exact Nat.le_of_eq rfl) (hb hby at_56) (fun _ _ => ⟨rfl, e13, (by decide : 1 + 0 ≤ _), (by decide : 4 + 0 ≤ _)⟩)
      dsimp only [Pt.U, Pt.locs, Pt.cells, Pt.slots] at X35 l35 y35 z35 st35 hQ35
      subst l35 y35 z35
      obtain ⟨rfl, N35q, eh35⟩ := hQ35
      have N35 := Fr.app N13 N35q
      refine own_via st35 ?_
      obtain ⟨cq36, kq36, q36a, q36b, q36c⟩ := isOf hZ eh35 (u20.ext O13.2)
      obtain ⟨_, _, ⟨T36, L36, k36, n36⟩, -, X36, ⟨Lc36, hQ36, l36, y36, z36⟩, st36⟩ := X35.virtualBack hx (y := own_y3) (z := own_y3) hown (mvT hZ (own_w hw 29 rfl)) (mvT hZ (own_w hw 30 rfl)) (notFace_of_selects (args := #[]) (mvT hZ (own_w hw 32 rfl))) (mvT hZ (own_w hw 32 rfl)) (mvT hZ (own_w hw 31 rfl)) (by decide) (backOf (W := 0) (rmRan1 l Z a0 hw [] rr2 h13 n0 (Nat.le_trans Z0 K13.1) O13 u21) hZ (own_w hw 33 rfl) (own_w hw 27 rfl) (by decide) (by decide)) q36a q36c (g := (mkF m 59 #[.val (.int p1), .val (.int p2), .val (.ref b1), .val (.ref ad2), .val (.int (1 : Int32)), .unset] [(.ref rr2)])) rfl (by rw [hml]; rfl) (Steps.refl _) (argsL := []) (rest := []) (lenOf pd_3 rfl) rfl (by show 2 * 0 + _ ≤ _; exact Nat.le_of_eq rfl) (hb hby at_59) (fun _ _ => ⟨rfl, eh35, (by decide : 1 + 0 ≤ _), (by decide : 4 + 0 ≤ _)⟩)
      dsimp only [Pt.U, Pt.locs, Pt.cells, Pt.slots] at X36 l36 y36 z36 st36 hQ36
      subst l36 y36 z36
      obtain ⟨rfl, N36q, eh36⟩ := hQ36
      have N36 := Fr.app N35 N36q
      refine own_via st36 ?_
      refine own_go (A := T36.setTop (mkF m 75 #[.val (.int p1), .val (.int p2), .val (.ref b1), .val (.ref ad2), .val (.int (1 : Int32)), .val (.int (1 : Int32))] [(.int (1 : Int32)), (.ref ad2)])) (fun t_ k_ => ?_) ?_
      · show Steps p.tables e below (T36.setTop (mkF m 62 #[.val (.int p1), .val (.int p2), .val (.ref b1), .val (.ref ad2), .val (.int (1 : Int32)), .unset] [(.int (1 : Int32))])) t_
        refine XS.ifNo X36.here hx rfl (hb hby at_62) rfl ((if0 _ _).trans (feq (by decide : ¬ ((1 : Int32) = (0 : Int32)))).1) ?_
        show Steps p.tables e below (T36.setTop (mkF m 65 #[.val (.int p1), .val (.int p2), .val (.ref b1), .val (.ref ad2), .val (.int (1 : Int32)), .unset] [])) t_
        refine XS.iconst X36.here hx rfl (hb hby at_65) ?_
        show Steps p.tables e below (T36.setTop (mkF m 66 #[.val (.int p1), .val (.int p2), .val (.ref b1), .val (.ref ad2), .val (.int (1 : Int32)), .unset] [(.int (1 : Int32))])) t_
        refine XS.goto X36.here hx rfl (pc0 := 66) (pc' := 70) rfl (hb hby at_66) (by decide) (by decide) ?_
        show Steps p.tables e below (T36.setTop (mkF m 70 #[.val (.int p1), .val (.int p2), .val (.ref b1), .val (.ref ad2), .val (.int (1 : Int32)), .unset] [(.int (1 : Int32))])) t_
        refine XS.istore X36.here hx rfl (hb hby at_70) rfl (l' := #[.val (.int p1), .val (.int p2), .val (.ref b1), .val (.ref ad2), .val (.int (1 : Int32)), .val (.int (1 : Int32))]) rfl ?_
        show Steps p.tables e below (T36.setTop (mkF m 72 #[.val (.int p1), .val (.int p2), .val (.ref b1), .val (.ref ad2), .val (.int (1 : Int32)), .val (.int (1 : Int32))] [])) t_
        refine XS.aloadN X36.here hx rfl (hb hby at_72) rfl rfl ?_
        show Steps p.tables e below (T36.setTop (mkF m 73 #[.val (.int p1), .val (.int p2), .val (.ref b1), .val (.ref ad2), .val (.int (1 : Int32)), .val (.int (1 : Int32))] [(.ref ad2)])) t_
        refine XS.iload X36.here hx rfl (hb hby at_73) rfl ?_
        exact k_
      obtain ⟨cq37, kq37, q37a, q37b, q37c⟩ := isOf hZ eh36 (u8.ext O13.2)
      obtain ⟨_, _, ⟨T37, L37, k37, n37⟩, -, X37, ⟨Lc37, hQ37, l37, y37, z37⟩, st37⟩ := X36.virtualBack hx (y := own_y4) (z := own_y4) hown (mvT hZ (own_w hw 36 rfl)) (mvT hZ (own_w hw 37 rfl)) (notFace_of_selects (args := #[]) (mvT hZ (own_w hw 39 rfl))) (mvT hZ (own_w hw 39 rfl)) (mvT hZ (own_w hw 38 rfl)) (by decide) (backOf (W := 0) (rmLeave2 l Z a0 hw [] ad2 ad3 h13 n0 (Nat.le_trans Z0 K13.1) O13 u7 u10 (Fld.ne u9 u12 (by decide))) hZ (own_w hw 40 rfl) (own_w hw 3 rfl) (by decide) (by decide)) q37a q37c (g := (mkF m 75 #[.val (.int p1), .val (.int p2), .val (.ref b1), .val (.ref ad2), .val (.int (1 : Int32)), .val (.int (1 : Int32))] [(.int (1 : Int32)), (.ref ad2)])) rfl (by rw [hml]; rfl) (Steps.refl _) (argsL := [(.int (1 : Int32))]) (rest := []) (lenOf pd_1 rfl) rfl (by show 2 * 0 + _ ≤ _; exact Nat.le_of_eq rfl) (hb hby at_75) (fun _ _ => ⟨rfl, eh36, (by decide : 1 + 0 ≤ _), (by decide : 4 + 0 ≤ _)⟩)
      dsimp only [Pt.U, Pt.locs, Pt.cells, Pt.slots] at X37 l37 y37 z37 st37 hQ37
      subst l37 y37 z37
      obtain ⟨rfl, N37q, eh37⟩ := hQ37
      have N37 := Fr.app N36 N37q
      refine own_via st37 ?_
      refine own_go (A := T37.setTop (mkF m 88 #[.val (.int p1), .val (.int p2), .val (.ref b1), .val (.ref ad2), .val (.int (1 : Int32)), .val (.int (1 : Int32))] [(.int (1 : Int32))])) (fun t_ k_ => ?_) ?_
      · show Steps p.tables e below (T37.setTop (mkF m 78 #[.val (.int p1), .val (.int p2), .val (.ref b1), .val (.ref ad2), .val (.int (1 : Int32)), .val (.int (1 : Int32))] [(.int (1 : Int32))])) t_
        refine XS.iload X37.here hx rfl (hb hby at_78) rfl ?_
        show Steps p.tables e below (T37.setTop (mkF m 80 #[.val (.int p1), .val (.int p2), .val (.ref b1), .val (.ref ad2), .val (.int (1 : Int32)), .val (.int (1 : Int32))] [(.int (1 : Int32)), (.int (1 : Int32))])) t_
        refine XS.icmpNo X37.here hx rfl (hb hby at_80) rfl (teq (by decide : (1 : Int32) = (1 : Int32))).2 ?_
        show Steps p.tables e below (T37.setTop (mkF m 83 #[.val (.int p1), .val (.int p2), .val (.ref b1), .val (.ref ad2), .val (.int (1 : Int32)), .val (.int (1 : Int32))] [])) t_
        refine XS.iconst X37.here hx rfl (hb hby at_83) ?_
        show Steps p.tables e below (T37.setTop (mkF m 84 #[.val (.int p1), .val (.int p2), .val (.ref b1), .val (.ref ad2), .val (.int (1 : Int32)), .val (.int (1 : Int32))] [(.int (1 : Int32))])) t_
        refine XS.goto X37.here hx rfl (pc0 := 84) (pc' := 88) rfl (hb hby at_84) (by decide) (by decide) ?_
        exact k_
      obtain ⟨fs38, hr38, hrun38, hended38, hW38, hsame38⟩ := X37.leave (v := some (.int (1 : Int32))) (fun h => by rw [Bd.returns] at h; cases h)
      refine ⟨_, _, ?_, hrun38, hended38, _, _, rfl, ?_, ⟨_, rfl⟩, hW38, hsame38.mono (by decide) (by decide)⟩
      · exact retN X37 hx (t := .boolean) Bd.returns (by simp) (hb hby at_88) hr38
      · show Q_rm0 Z p1 p2 ad0 ad1 ad2 ad3 rr0 rr1 rr2 rr3 h0 n0 _ T37.heap _
        rw [eh37]
        exact ⟨rfl, N37, K13⟩
  · rw [hm14]
    obtain ⟨cl39, Ar39, q39, S39, M39, H39, G39⟩ := B13
    have hin39 : ¬ ((3 : Int32) < 0 ∨ cl39.slots.size ≤ ((3 : Int32)).toNatClampNeg) := inb_of S39 ⟨by decide, by decide⟩
    have hat39 : cl39.slots[((3 : Int32)).toNatClampNeg]? = some (.ref ad3) := Has.at H39 hin39 rfl
    refine own_go (A := T13.setTop (mkF m 38 #[.val (.int p1), .val (.int p2), .val (.ref b1), .val (.ref ad3), .unset, .unset] [(.int (p2 &&& (1 : Int32)))])) (fun t_ k_ => ?_) ?_
    · show Steps p.tables e below (T13.setTop (mkF m 33 #[.val (.int p1), .val (.int p2), .val (.ref b1), .unset, .unset, .unset] [(.int (3 : Int32)), (.ref b1)])) t_
      refine X13.aaload hx (j := (3 : Int32)) (v := (.ref ad3)) (by rw [e13]; exact Ar39.1) (State.isArrayOf_alike hZ.alike Ar39.2.1) rfl Ar39.2.2 hin39 hat39 (g := (mkF m 33 #[.val (.int p1), .val (.int p2), .val (.ref b1), .unset, .unset, .unset] [(.int (3 : Int32)), (.ref b1)])) rfl rfl (hb hby at_33) _ ?_
      show Steps p.tables e below (T13.setTop (mkF m 34 #[.val (.int p1), .val (.int p2), .val (.ref b1), .unset, .unset, .unset] [(.ref ad3)])) t_
      refine XS.astoreN X13.here hx rfl (hb hby at_34) rfl rfl (l' := #[.val (.int p1), .val (.int p2), .val (.ref b1), .val (.ref ad3), .unset, .unset]) rfl ?_
      show Steps p.tables e below (T13.setTop (mkF m 35 #[.val (.int p1), .val (.int p2), .val (.ref b1), .val (.ref ad3), .unset, .unset] [])) t_
      refine XS.iloadN X13.here hx rfl (hb hby at_35) rfl ?_
      show Steps p.tables e below (T13.setTop (mkF m 36 #[.val (.int p1), .val (.int p2), .val (.ref b1), .val (.ref ad3), .unset, .unset] [(.int p2)])) t_
      refine XS.iconst X13.here hx rfl (hb hby at_36) ?_
      show Steps p.tables e below (T13.setTop (mkF m 37 #[.val (.int p1), .val (.int p2), .val (.ref b1), .val (.ref ad3), .unset, .unset] [(.int (1 : Int32)), (.int p2)])) t_
      refine XS.iand X13.here hx rfl (hb hby at_37) rfl ?_
      exact k_
    by_cases hc38_40 : (p2 &&& (1 : Int32)) = (0 : Int32)
    · refine own_go (A := T13.setTop (mkF m 75 #[.val (.int p1), .val (.int p2), .val (.ref b1), .val (.ref ad3), .val (.int (0 : Int32)), .val (.int (1 : Int32))] [(.int (0 : Int32)), (.ref ad3)])) (fun t_ k_ => ?_) ?_
      · show Steps p.tables e below (T13.setTop (mkF m 38 #[.val (.int p1), .val (.int p2), .val (.ref b1), .val (.ref ad3), .unset, .unset] [(.int (p2 &&& (1 : Int32)))])) t_
        refine XS.ifYes X13.here hx rfl (pc0 := 38) (pc' := 45) rfl (hb hby at_38) rfl ((if0 _ _).trans (teq hc38_40).1) (by decide) (by decide) ?_
        show Steps p.tables e below (T13.setTop (mkF m 45 #[.val (.int p1), .val (.int p2), .val (.ref b1), .val (.ref ad3), .unset, .unset] [])) t_
        refine XS.iconst X13.here hx rfl (hb hby at_45) ?_
        show Steps p.tables e below (T13.setTop (mkF m 46 #[.val (.int p1), .val (.int p2), .val (.ref b1), .val (.ref ad3), .unset, .unset] [(.int (0 : Int32))])) t_
        refine XS.istore X13.here hx rfl (hb hby at_46) rfl (l' := #[.val (.int p1), .val (.int p2), .val (.ref b1), .val (.ref ad3), .val (.int (0 : Int32)), .unset]) rfl ?_
        show Steps p.tables e below (T13.setTop (mkF m 48 #[.val (.int p1), .val (.int p2), .val (.ref b1), .val (.ref ad3), .val (.int (0 : Int32)), .unset] [])) t_
        refine XS.iload X13.here hx rfl (hb hby at_48) rfl ?_
        show Steps p.tables e below (T13.setTop (mkF m 50 #[.val (.int p1), .val (.int p2), .val (.ref b1), .val (.ref ad3), .val (.int (0 : Int32)), .unset] [(.int (0 : Int32))])) t_
        refine XS.ifYes X13.here hx rfl (pc0 := 50) (pc' := 65) rfl (hb hby at_50) rfl ((if0 _ _).trans (teq (by decide : (0 : Int32) = (0 : Int32))).1) (by decide) (by decide) ?_
        show Steps p.tables e below (T13.setTop (mkF m 65 #[.val (.int p1), .val (.int p2), .val (.ref b1), .val (.ref ad3), .val (.int (0 : Int32)), .unset] [])) t_
        refine XS.iconst X13.here hx rfl (hb hby at_65) ?_
        show Steps p.tables e below (T13.setTop (mkF m 66 #[.val (.int p1), .val (.int p2), .val (.ref b1), .val (.ref ad3), .val (.int (0 : Int32)), .unset] [(.int (1 : Int32))])) t_
        refine XS.goto X13.here hx rfl (pc0 := 66) (pc' := 70) rfl (hb hby at_66) (by decide) (by decide) ?_
        show Steps p.tables e below (T13.setTop (mkF m 70 #[.val (.int p1), .val (.int p2), .val (.ref b1), .val (.ref ad3), .val (.int (0 : Int32)), .unset] [(.int (1 : Int32))])) t_
        refine XS.istore X13.here hx rfl (hb hby at_70) rfl (l' := #[.val (.int p1), .val (.int p2), .val (.ref b1), .val (.ref ad3), .val (.int (0 : Int32)), .val (.int (1 : Int32))]) rfl ?_
        show Steps p.tables e below (T13.setTop (mkF m 72 #[.val (.int p1), .val (.int p2), .val (.ref b1), .val (.ref ad3), .val (.int (0 : Int32)), .val (.int (1 : Int32))] [])) t_
        refine XS.aloadN X13.here hx rfl (hb hby at_72) rfl rfl ?_
        show Steps p.tables e below (T13.setTop (mkF m 73 #[.val (.int p1), .val (.int p2), .val (.ref b1), .val (.ref ad3), .val (.int (0 : Int32)), .val (.int (1 : Int32))] [(.ref ad3)])) t_
        refine XS.iload X13.here hx rfl (hb hby at_73) rfl ?_
        exact k_
      obtain ⟨cq41, kq41, q41a, q41b, q41c⟩ := isOf hZ e13 (u11.ext O13.2)
      obtain ⟨_, _, ⟨T41, L41, k41, n41⟩, -, X41, ⟨Lc41, hQ41, l41, y41, z41⟩, st41⟩ := X13.virtualBack hx (y := own_y4) (z := own_y4) hown (mvT hZ (own_w hw 36 rfl)) (mvT hZ (own_w hw 37 rfl)) (notFace_of_selects (args := #[]) (mvT hZ (own_w hw 39 rfl))) (mvT hZ (own_w hw 39 rfl)) (mvT hZ (own_w hw 38 rfl)) (by decide) (backOf (W := 0) (rmLeaveN l Z a0 hw [] ad3 h13 n0 (Nat.le_trans Z0 K13.1) O13) hZ (own_w hw 40 rfl) (own_w hw 3 rfl) (by decide) (by decide)) q41a q41c (g := (mkF m 75 #[.val (.int p1), .val (.int p2), .val (.ref b1), .val (.ref ad3), .val (.int (0 : Int32)), .val (.int (1 : Int32))] [(.int (0 : Int32)), (.ref ad3)])) rfl (by rw [hml]; rfl) (Steps.refl _) (argsL := [(.int (0 : Int32))]) (rest := []) (lenOf pd_1 rfl) rfl (by show 2 * 0 + _ ≤ _; exact Nat.le_of_eq rfl) (hb hby at_75) (fun _ _ => ⟨rfl, e13, (by decide : 1 + 0 ≤ _), (by decide : 4 + 0 ≤ _)⟩)
      dsimp only [Pt.U, Pt.locs, Pt.cells, Pt.slots] at X41 l41 y41 z41 st41 hQ41
      subst l41 y41 z41
      obtain ⟨rfl, N41q, eh41⟩ := hQ41
      have N41 := Fr.app N13 N41q
      refine own_via st41 ?_
      refine own_go (A := T41.setTop (mkF m 88 #[.val (.int p1), .val (.int p2), .val (.ref b1), .val (.ref ad3), .val (.int (0 : Int32)), .val (.int (1 : Int32))] [(.int (1 : Int32))])) (fun t_ k_ => ?_) ?_
      · show Steps p.tables e below (T41.setTop (mkF m 78 #[.val (.int p1), .val (.int p2), .val (.ref b1), .val (.ref ad3), .val (.int (0 : Int32)), .val (.int (1 : Int32))] [(.int (1 : Int32))])) t_
        refine XS.iload X41.here hx rfl (hb hby at_78) rfl ?_
        show Steps p.tables e below (T41.setTop (mkF m 80 #[.val (.int p1), .val (.int p2), .val (.ref b1), .val (.ref ad3), .val (.int (0 : Int32)), .val (.int (1 : Int32))] [(.int (1 : Int32)), (.int (1 : Int32))])) t_
        refine XS.icmpNo X41.here hx rfl (hb hby at_80) rfl (teq (by decide : (1 : Int32) = (1 : Int32))).2 ?_
        show Steps p.tables e below (T41.setTop (mkF m 83 #[.val (.int p1), .val (.int p2), .val (.ref b1), .val (.ref ad3), .val (.int (0 : Int32)), .val (.int (1 : Int32))] [])) t_
        refine XS.iconst X41.here hx rfl (hb hby at_83) ?_
        show Steps p.tables e below (T41.setTop (mkF m 84 #[.val (.int p1), .val (.int p2), .val (.ref b1), .val (.ref ad3), .val (.int (0 : Int32)), .val (.int (1 : Int32))] [(.int (1 : Int32))])) t_
        refine XS.goto X41.here hx rfl (pc0 := 84) (pc' := 88) rfl (hb hby at_84) (by decide) (by decide) ?_
        exact k_
      obtain ⟨fs42, hr42, hrun42, hended42, hW42, hsame42⟩ := X41.leave (v := some (.int (1 : Int32))) (fun h => by rw [Bd.returns] at h; cases h)
      refine ⟨_, _, ?_, hrun42, hended42, _, _, rfl, ?_, ⟨_, rfl⟩, hW42, hsame42.mono (by decide) (by decide)⟩
      · exact retN X41 hx (t := .boolean) Bd.returns (by simp) (hb hby at_88) hr42
      · show Q_rm0 Z p1 p2 ad0 ad1 ad2 ad3 rr0 rr1 rr2 rr3 h0 n0 _ T41.heap _
        rw [eh41]
        exact ⟨rfl, N41, K13⟩
    · refine own_go (A := T13.setTop (mkF m 56 #[.val (.int p1), .val (.int p2), .val (.ref b1), .val (.ref ad3), .val (.int (1 : Int32)), .unset] [(.int (1 : Int32)), (.ref ad3)])) (fun t_ k_ => ?_) ?_
      · show Steps p.tables e below (T13.setTop (mkF m 38 #[.val (.int p1), .val (.int p2), .val (.ref b1), .val (.ref ad3), .unset, .unset] [(.int (p2 &&& (1 : Int32)))])) t_
        refine XS.ifNo X13.here hx rfl (hb hby at_38) rfl ((if0 _ _).trans (feq hc38_40).1) ?_
        show Steps p.tables e below (T13.setTop (mkF m 41 #[.val (.int p1), .val (.int p2), .val (.ref b1), .val (.ref ad3), .unset, .unset] [])) t_
        refine XS.iconst X13.here hx rfl (hb hby at_41) ?_
        show Steps p.tables e below (T13.setTop (mkF m 42 #[.val (.int p1), .val (.int p2), .val (.ref b1), .val (.ref ad3), .unset, .unset] [(.int (1 : Int32))])) t_
        refine XS.goto X13.here hx rfl (pc0 := 42) (pc' := 46) rfl (hb hby at_42) (by decide) (by decide) ?_
        show Steps p.tables e below (T13.setTop (mkF m 46 #[.val (.int p1), .val (.int p2), .val (.ref b1), .val (.ref ad3), .unset, .unset] [(.int (1 : Int32))])) t_
        refine XS.istore X13.here hx rfl (hb hby at_46) rfl (l' := #[.val (.int p1), .val (.int p2), .val (.ref b1), .val (.ref ad3), .val (.int (1 : Int32)), .unset]) rfl ?_
        show Steps p.tables e below (T13.setTop (mkF m 48 #[.val (.int p1), .val (.int p2), .val (.ref b1), .val (.ref ad3), .val (.int (1 : Int32)), .unset] [])) t_
        refine XS.iload X13.here hx rfl (hb hby at_48) rfl ?_
        show Steps p.tables e below (T13.setTop (mkF m 50 #[.val (.int p1), .val (.int p2), .val (.ref b1), .val (.ref ad3), .val (.int (1 : Int32)), .unset] [(.int (1 : Int32))])) t_
        refine XS.ifNo X13.here hx rfl (hb hby at_50) rfl ((if0 _ _).trans (feq (by decide : ¬ ((1 : Int32) = (0 : Int32)))).1) ?_
        show Steps p.tables e below (T13.setTop (mkF m 53 #[.val (.int p1), .val (.int p2), .val (.ref b1), .val (.ref ad3), .val (.int (1 : Int32)), .unset] [])) t_
        refine XS.aloadN X13.here hx rfl (hb hby at_53) rfl rfl ?_
        show Steps p.tables e below (T13.setTop (mkF m 54 #[.val (.int p1), .val (.int p2), .val (.ref b1), .val (.ref ad3), .val (.int (1 : Int32)), .unset] [(.ref ad3)])) t_
        refine XS.iload X13.here hx rfl (hb hby at_54) rfl ?_
        exact k_
      obtain ⟨cq43, kq43, q43a, q43b, q43c⟩ := isOf hZ e13 (u11.ext O13.2)
      obtain ⟨_, _, ⟨T43, L43, k43, n43⟩, -, X43, ⟨Lc43, hQ43, l43, y43, z43⟩, st43⟩ := X13.virtualBack hx (y := own_y2) (z := own_y2) hown (mvT hZ (own_w hw 12 rfl)) (mvT hZ (own_w hw 13 rfl)) (notFace_of_selects (args := #[]) (mvT hZ (own_w hw 15 rfl))) (mvT hZ (own_w hw 15 rfl)) (mvT hZ (own_w hw 14 rfl)) (by decide) (backOf (W := 0) (rmRun3 l Z a0 hw [] ad3 rr3 h13 n0 (Nat.le_trans Z0 K13.1) O13 u11 u12 u22) hZ (own_w hw 16 rfl) (own_w hw 3 rfl) (by decide) (by decide)) q43a q43c (g := (mkF m 56 #[.val (.int p1), .val (.int p2), .val (.ref b1), .val (.ref ad3), .val (.int (1 : Int32)), .unset] [(.int (1 : Int32)), (.ref ad3)])) rfl (by rw [hml]; rfl) (Steps.refl _) (argsL := [(.int (1 : Int32))]) (rest := []) (lenOf pd_2 rfl) rfl (by show 2 * 0 + _ ≤ _; exact Nat.le_of_eq rfl) (hb hby at_56) (fun _ _ => ⟨rfl, e13, (by decide : 1 + 0 ≤ _), (by decide : 4 + 0 ≤ _)⟩)
      dsimp only [Pt.U, Pt.locs, Pt.cells, Pt.slots] at X43 l43 y43 z43 st43 hQ43
      subst l43 y43 z43
      obtain ⟨rfl, N43q, eh43⟩ := hQ43
      have N43 := Fr.app N13 N43q
      refine own_via st43 ?_
      obtain ⟨cq44, kq44, q44a, q44b, q44c⟩ := isOf hZ eh43 (u23.ext O13.2)
      obtain ⟨_, _, ⟨T44, L44, k44, n44⟩, -, X44, ⟨Lc44, hQ44, l44, y44, z44⟩, st44⟩ := X43.virtualBack hx (y := own_y3) (z := own_y3) hown (mvT hZ (own_w hw 29 rfl)) (mvT hZ (own_w hw 30 rfl)) (notFace_of_selects (args := #[]) (mvT hZ (own_w hw 32 rfl))) (mvT hZ (own_w hw 32 rfl)) (mvT hZ (own_w hw 31 rfl)) (by decide) (backOf (W := 0) (rmRan1 l Z a0 hw [] rr3 h13 n0 (Nat.le_trans Z0 K13.1) O13 u24) hZ (own_w hw 33 rfl) (own_w hw 27 rfl) (by decide) (by decide)) q44a q44c (g := (mkF m 59 #[.val (.int p1), .val (.int p2), .val (.ref b1), .val (.ref ad3), .val (.int (1 : Int32)), .unset] [(.ref rr3)])) rfl (by rw [hml]; rfl) (Steps.refl _) (argsL := []) (rest := []) (lenOf pd_3 rfl) rfl (by show 2 * 0 + _ ≤ _; exact Nat.le_of_eq rfl) (hb hby at_59) (fun _ _ => ⟨rfl, eh43, (by decide : 1 + 0 ≤ _), (by decide : 4 + 0 ≤ _)⟩)
      dsimp only [Pt.U, Pt.locs, Pt.cells, Pt.slots] at X44 l44 y44 z44 st44 hQ44
      subst l44 y44 z44
      obtain ⟨rfl, N44q, eh44⟩ := hQ44
      have N44 := Fr.app N43 N44q
      refine own_via st44 ?_
      refine own_go (A := T44.setTop (mkF m 75 #[.val (.int p1), .val (.int p2), .val (.ref b1), .val (.ref ad3), .val (.int (1 : Int32)), .val (.int (1 : Int32))] [(.int (1 : Int32)), (.ref ad3)])) (fun t_ k_ => ?_) ?_
      · show Steps p.tables e below (T44.setTop (mkF m 62 #[.val (.int p1), .val (.int p2), .val (.ref b1), .val (.ref ad3), .val (.int (1 : Int32)), .unset] [(.int (1 : Int32))])) t_
        refine XS.ifNo X44.here hx rfl (hb hby at_62) rfl ((if0 _ _).trans (feq (by decide : ¬ ((1 : Int32) = (0 : Int32)))).1) ?_
        show Steps p.tables e below (T44.setTop (mkF m 65 #[.val (.int p1), .val (.int p2), .val (.ref b1), .val (.ref ad3), .val (.int (1 : Int32)), .unset] [])) t_
        refine XS.iconst X44.here hx rfl (hb hby at_65) ?_
        show Steps p.tables e below (T44.setTop (mkF m 66 #[.val (.int p1), .val (.int p2), .val (.ref b1), .val (.ref ad3), .val (.int (1 : Int32)), .unset] [(.int (1 : Int32))])) t_
        refine XS.goto X44.here hx rfl (pc0 := 66) (pc' := 70) rfl (hb hby at_66) (by decide) (by decide) ?_
        show Steps p.tables e below (T44.setTop (mkF m 70 #[.val (.int p1), .val (.int p2), .val (.ref b1), .val (.ref ad3), .val (.int (1 : Int32)), .unset] [(.int (1 : Int32))])) t_
        refine XS.istore X44.here hx rfl (hb hby at_70) rfl (l' := #[.val (.int p1), .val (.int p2), .val (.ref b1), .val (.ref ad3), .val (.int (1 : Int32)), .val (.int (1 : Int32))]) rfl ?_
        show Steps p.tables e below (T44.setTop (mkF m 72 #[.val (.int p1), .val (.int p2), .val (.ref b1), .val (.ref ad3), .val (.int (1 : Int32)), .val (.int (1 : Int32))] [])) t_
        refine XS.aloadN X44.here hx rfl (hb hby at_72) rfl rfl ?_
        show Steps p.tables e below (T44.setTop (mkF m 73 #[.val (.int p1), .val (.int p2), .val (.ref b1), .val (.ref ad3), .val (.int (1 : Int32)), .val (.int (1 : Int32))] [(.ref ad3)])) t_
        refine XS.iload X44.here hx rfl (hb hby at_73) rfl ?_
        exact k_
      obtain ⟨cq45, kq45, q45a, q45b, q45c⟩ := isOf hZ eh44 (u11.ext O13.2)
      obtain ⟨_, _, ⟨T45, L45, k45, n45⟩, -, X45, ⟨Lc45, hQ45, l45, y45, z45⟩, st45⟩ := X44.virtualBack hx (y := own_y4) (z := own_y4) hown (mvT hZ (own_w hw 36 rfl)) (mvT hZ (own_w hw 37 rfl)) (notFace_of_selects (args := #[]) (mvT hZ (own_w hw 39 rfl))) (mvT hZ (own_w hw 39 rfl)) (mvT hZ (own_w hw 38 rfl)) (by decide) (backOf (W := 0) (rmLeave3 l Z a0 hw [] ad3 ad2 h13 n0 (Nat.le_trans Z0 K13.1) O13 u7 u10 (Fld.ne u12 u9 (by decide))) hZ (own_w hw 40 rfl) (own_w hw 3 rfl) (by decide) (by decide)) q45a q45c (g := (mkF m 75 #[.val (.int p1), .val (.int p2), .val (.ref b1), .val (.ref ad3), .val (.int (1 : Int32)), .val (.int (1 : Int32))] [(.int (1 : Int32)), (.ref ad3)])) rfl (by rw [hml]; rfl) (Steps.refl _) (argsL := [(.int (1 : Int32))]) (rest := []) (lenOf pd_1 rfl) rfl (by show 2 * 0 + _ ≤ _; exact Nat.le_of_eq rfl) (hb hby at_75) (fun _ _ => ⟨rfl, eh44, (by decide : 1 + 0 ≤ _), (by decide : 4 + 0 ≤ _)⟩)
      dsimp only [Pt.U, Pt.locs, Pt.cells, Pt.slots] at X45 l45 y45 z45 st45 hQ45
      subst l45 y45 z45
      obtain ⟨rfl, N45q, eh45⟩ := hQ45
      have N45 := Fr.app N44 N45q
      refine own_via st45 ?_
      refine own_go (A := T45.setTop (mkF m 88 #[.val (.int p1), .val (.int p2), .val (.ref b1), .val (.ref ad3), .val (.int (1 : Int32)), .val (.int (1 : Int32))] [(.int (1 : Int32))])) (fun t_ k_ => ?_) ?_
      · show Steps p.tables e below (T45.setTop (mkF m 78 #[.val (.int p1), .val (.int p2), .val (.ref b1), .val (.ref ad3), .val (.int (1 : Int32)), .val (.int (1 : Int32))] [(.int (1 : Int32))])) t_
        refine XS.iload X45.here hx rfl (hb hby at_78) rfl ?_
        show Steps p.tables e below (T45.setTop (mkF m 80 #[.val (.int p1), .val (.int p2), .val (.ref b1), .val (.ref ad3), .val (.int (1 : Int32)), .val (.int (1 : Int32))] [(.int (1 : Int32)), (.int (1 : Int32))])) t_
        refine XS.icmpNo X45.here hx rfl (hb hby at_80) rfl (teq (by decide : (1 : Int32) = (1 : Int32))).2 ?_
        show Steps p.tables e below (T45.setTop (mkF m 83 #[.val (.int p1), .val (.int p2), .val (.ref b1), .val (.ref ad3), .val (.int (1 : Int32)), .val (.int (1 : Int32))] [])) t_
        refine XS.iconst X45.here hx rfl (hb hby at_83) ?_
        show Steps p.tables e below (T45.setTop (mkF m 84 #[.val (.int p1), .val (.int p2), .val (.ref b1), .val (.ref ad3), .val (.int (1 : Int32)), .val (.int (1 : Int32))] [(.int (1 : Int32))])) t_
        refine XS.goto X45.here hx rfl (pc0 := 84) (pc' := 88) rfl (hb hby at_84) (by decide) (by decide) ?_
        exact k_
      obtain ⟨fs46, hr46, hrun46, hended46, hW46, hsame46⟩ := X45.leave (v := some (.int (1 : Int32))) (fun h => by rw [Bd.returns] at h; cases h)
      refine ⟨_, _, ?_, hrun46, hended46, _, _, rfl, ?_, ⟨_, rfl⟩, hW46, hsame46.mono (by decide) (by decide)⟩
      · exact retN X45 hx (t := .boolean) Bd.returns (by simp) (hb hby at_88) hr46
      · show Q_rm0 Z p1 p2 ad0 ad1 ad2 ad3 rr0 rr1 rr2 rr3 h0 n0 _ T45.heap _
        rw [eh45]
        exact ⟨rfl, N45, K13⟩
set_option maxRecDepth 65536 in
set_option maxHeartbeats 40000000 in
theorem comes_1 {Post : Tables → Env → Array Value → State → Outcome → State → Prop} (hpost : ∀ tb e args s v u, (limb_1_1.after args s (.returned v) u = true ∧ limb_1_2.after args s (.returned v) u = true ∧ True) → FrameEnd s (.returned v) u (Jvm.fieldLocs frame_1_writes args s ++ Jvm.arrayLocs frame_1_arrays args s ++ Jvm.staticLocs frame_1_statics s) 16 128 → Post tb e args s (.returned v) u) :
    ArmFor flags0 classFile x code maxLocals ret World_1 tables_1 room_1 Calls_1 rest_1 Pre_1 Post := by
  intro l hfl _ _ p e ha hc hk s m args below hf hA hF happ hP
  obtain ⟨hcalls, hrest, hpre⟩ := hP
  obtain ⟨-, -, -, hnamed, -, -, -, hat⟩ := (Spec.applies_iff hf).mp happ
  obtain ⟨hg, hn⟩ := and_e (Cond.before_iff.mp (show (Jvm.Cond.and given_1 narrow_1).before args s = true from hpre))
  obtain ⟨hg_0, hg_1⟩ := and_e hg
  obtain ⟨hg_2, hg_3⟩ := and_e hg_1
  obtain ⟨w0, w1, rfl⟩ : ∃ w0 w1 : Value, args = #[w0, w1] := by
    have hs : args.size = 2 := by simpa [Cond.value, given_1] using hg_0
    obtain ⟨L⟩ := args
    match L, hs with
    | [w0, w1], _ => exact ⟨w0, w1, rfl⟩
  have hw := fun d (hd : d ∈ tables_1) => atoms_spec (ws := Jvm.Cond.code x code maxLocals ret :: tables_1) hat d (List.mem_cons_of_mem _ hd)
  have hfit : Fit s := fun {y c} hc i hi => by
    obtain ⟨ha, rfl⟩ := Array.getElem?_eq_some_iff.mp hc
    have q := List.all_eq_true.mp ((Array.all_eq_true_iff_forall_mem.mp hF) _ (Array.getElem_mem ha)) i (List.mem_range.mpr hi)
    simpa [Array.getElem?_eq_getElem hi] using q
  obtain ⟨i0, ei0⟩ := is_v hg_2
  obtain rfl : w0 = (.int i0) := Option.some.inj ei0
  obtain ⟨i1, ei1⟩ := is_v hg_3
  obtain rfl : w1 = (.int i1) := Option.some.inj ei1
  obtain ⟨hn_0, hn_1⟩ := and_e hn
  obtain ⟨hn_2, hn_3⟩ := and_e hn_1
  obtain ⟨hn_4, hn_5⟩ := and_e hn_3
  obtain ⟨hn_6, hn_7⟩ := and_e hn_5
  obtain ⟨hn_8, hn_9⟩ := and_e hn_7
  obtain ⟨hn_10, hn_11⟩ := and_e hn_9
  obtain ⟨hn_12, hn_13⟩ := and_e hn_11
  obtain ⟨hn_14, hn_15⟩ := and_e hn_13
  obtain ⟨hn_16, hn_17⟩ := and_e hn_15
  obtain ⟨hn_18, hn_19⟩ := and_e hn_17
  obtain ⟨hn_20, hn_21⟩ := and_e hn_19
  obtain ⟨hn_22, hn_23⟩ := and_e hn_21
  obtain ⟨hn_24, hn_25⟩ := and_e hn_23
  obtain ⟨hn_26, hn_27⟩ := and_e hn_25
  obtain ⟨hn_28, hn_29⟩ := and_e hn_27
  obtain ⟨a_UNPROTECTED, eva_UNPROTECTED⟩ := exa_v hn_0
  have Sa_UNPROTECTED : Sta s s.heap "com/example/firmline/firmline/sim/Protection" "UNPROTECTED" "Lcom/example/firmline/firmline/sim/Protection;" (.ref a_UNPROTECTED) := Sta.start eva_UNPROTECTED (Or.inr ⟨(own_w hw 3 rfl), (own_w hw 4 rfl)⟩)
  have Ea_UNPROTECTED : Exa s s.heap a_UNPROTECTED "com/example/firmline/firmline/sim/Protection" := Exa.start eva_UNPROTECTED hn_0
  obtain ⟨a_TOLERATING, eva_TOLERATING⟩ := exa_v hn_2
  have Sa_TOLERATING : Sta s s.heap "com/example/firmline/firmline/sim/Protection" "TOLERATING" "Lcom/example/firmline/firmline/sim/Protection;" (.ref a_TOLERATING) := Sta.start eva_TOLERATING (Or.inr ⟨(own_w hw 3 rfl), (own_w hw 7 rfl)⟩)
  have Ea_TOLERATING : Exa s s.heap a_TOLERATING "com/example/firmline/firmline/sim/Protection" := Exa.start eva_TOLERATING hn_2
  obtain ⟨a_CORRECTING, eva_CORRECTING⟩ := exa_v hn_4
  have Sa_CORRECTING : Sta s s.heap "com/example/firmline/firmline/sim/Protection" "CORRECTING" "Lcom/example/firmline/firmline/sim/Protection;" (.ref a_CORRECTING) := Sta.start eva_CORRECTING (Or.inr ⟨(own_w hw 3 rfl), (own_w hw 9 rfl)⟩)
  have Ea_CORRECTING : Exa s s.heap a_CORRECTING "com/example/firmline/firmline/sim/Protection" := Exa.start eva_CORRECTING hn_4
  obtain ⟨a_RECOVERING, eva_RECOVERING⟩ := exa_v hn_6
  have Sa_RECOVERING : Sta s s.heap "com/example/firmline/firmline/sim/Protection" "RECOVERING" "Lcom/example/firmline/firmline/sim/Protection;" (.ref a_RECOVERING) := Sta.start eva_RECOVERING (Or.inr ⟨(own_w hw 3 rfl), (own_w hw 11 rfl)⟩)
  have Ea_RECOVERING : Exa s s.heap a_RECOVERING "com/example/firmline/firmline/sim/Protection" := Exa.start eva_RECOVERING hn_6
  obtain ⟨a_U, eva_U⟩ := exa_v hn_10
  have Sa_U : Sta s s.heap "com/example/firmline/firmline/sim/InstanceRun" "U" "Lcom/example/firmline/firmline/sim/InstanceRun;" (.ref a_U) := Sta.start eva_U (Or.inr ⟨(own_w hw 27 rfl), (own_w hw 28 rfl)⟩)
  have Ea_U : Exa s s.heap a_U "com/example/firmline/firmline/sim/InstanceRun" := Exa.start eva_U hn_10
  obtain ⟨a_C, eva_C⟩ := exa_v hn_18
  have Sa_C : Sta s s.heap "com/example/firmline/firmline/sim/InstanceRun" "C" "Lcom/example/firmline/firmline/sim/InstanceRun;" (.ref a_C) := Sta.start eva_C (Or.inr ⟨(own_w hw 27 rfl), (own_w hw 44 rfl)⟩)
  have Ea_C : Exa s s.heap a_C "com/example/firmline/firmline/sim/InstanceRun" := Exa.start eva_C hn_18
  obtain ⟨a_D, eva_D⟩ := exa_v hn_24
  have Sa_D : Sta s s.heap "com/example/firmline/firmline/sim/InstanceRun" "D" "Lcom/example/firmline/firmline/sim/InstanceRun;" (.ref a_D) := Sta.start eva_D (Or.inr ⟨(own_w hw 27 rfl), (own_w hw 46 rfl)⟩)
  have Ea_D : Exa s s.heap a_D "com/example/firmline/firmline/sim/InstanceRun" := Exa.start eva_D hn_24
  obtain ⟨a_D_THEN_C, eva_D_THEN_C⟩ := exa_v hn_28
  have Sa_D_THEN_C : Sta s s.heap "com/example/firmline/firmline/sim/InstanceRun" "D_THEN_C" "Lcom/example/firmline/firmline/sim/InstanceRun;" (.ref a_D_THEN_C) := Sta.start eva_D_THEN_C (Or.inr ⟨(own_w hw 27 rfl), (own_w hw 48 rfl)⟩)
  have Ea_D_THEN_C : Exa s s.heap a_D_THEN_C "com/example/firmline/firmline/sim/InstanceRun" := Exa.start eva_D_THEN_C hn_28
  have Fa_UNPROTECTED_ordinal : Fld s s.heap a_UNPROTECTED "java/lang/Enum" "ordinal" "I" (.int (0 : Int32)) := Fld.start ((fld_at eva_UNPROTECTED).symm.trans (own_eqInt hn_8))
  have Fa_U_ranC : Fld s s.heap a_U "com/example/firmline/firmline/sim/InstanceRun" "ranC" "Z" (.int (0 : Int32)) := Fld.start ((fld_at eva_U).symm.trans (own_eqInt hn_12))
  have Fa_CORRECTING_ordinal : Fld s s.heap a_CORRECTING "java/lang/Enum" "ordinal" "I" (.int (2 : Int32)) := Fld.start ((fld_at eva_CORRECTING).symm.trans (own_eqInt hn_14))
  have Fa_RECOVERING_ordinal : Fld s s.heap a_RECOVERING "java/lang/Enum" "ordinal" "I" (.int (3 : Int32)) := Fld.start ((fld_at eva_RECOVERING).symm.trans (own_eqInt hn_16))
  have Fa_C_ranC : Fld s s.heap a_C "com/example/firmline/firmline/sim/InstanceRun" "ranC" "Z" (.int (1 : Int32)) := Fld.start ((fld_at eva_C).symm.trans (own_eqInt hn_20))
  have Fa_TOLERATING_ordinal : Fld s s.heap a_TOLERATING "java/lang/Enum" "ordinal" "I" (.int (1 : Int32)) := Fld.start ((fld_at eva_TOLERATING).symm.trans (own_eqInt hn_22))
  have Fa_D_ranC : Fld s s.heap a_D "com/example/firmline/firmline/sim/InstanceRun" "ranC" "Z" (.int (0 : Int32)) := Fld.start ((fld_at eva_D).symm.trans (own_eqInt hn_26))
  have Fa_D_THEN_C_ranC : Fld s s.heap a_D_THEN_C "com/example/firmline/firmline/sim/InstanceRun" "ranC" "Z" (.int (1 : Int32)) := Fld.start ((fld_at eva_D_THEN_C).symm.trans (own_eqInt hn_29))
  obtain ⟨n, o, h1, h2, h3, _, L, rfl, ⟨rfl, N, -⟩, hq⟩ := rm0 l s _ hw tables_1 i0 i1 a_UNPROTECTED a_TOLERATING a_CORRECTING a_RECOVERING a_U a_D a_C a_D_THEN_C s.heap s.heap.size (Nat.le_refl _) (Old.start s) Sa_UNPROTECTED Ea_UNPROTECTED Fa_UNPROTECTED_ordinal Sa_TOLERATING Ea_TOLERATING Fa_TOLERATING_ordinal Sa_CORRECTING Ea_CORRECTING Fa_CORRECTING_ordinal Sa_RECOVERING Ea_RECOVERING Fa_RECOVERING_ordinal Sa_U Ea_U Fa_U_ranC Sa_D Ea_D Fa_D_ranC Sa_C Ea_C Fa_C_ranC Sa_D_THEN_C Ea_D_THEN_C Fa_D_THEN_C_ranC p e ha hc hk s m _ below hf ((Spec.applies_iff_loose hf).mp happ).1 ⟨rfl, State.Warmed39.refl s, rfl⟩ trivial
  refine ⟨n, _, h1, h2, h3, hpost _ _ _ _ _ _ ⟨Cond.after_iff.mpr rfl, Cond.after_iff.mpr (eq_i res_at (Term.int_eval (1)) rfl), trivial⟩ ⟨hq.1, hq.2.1, (hq.2.2.sift fun y hy => Or.inr (N y hy)).mono (by decide) (by decide)⟩⟩
theorem main_1_1 : Claimed_1_1 := comes_1 fun _ _ _ _ _ _ h hF => ⟨h.1, hF⟩
theorem main_1_2 : Claimed_1_2 := comes_1 fun _ _ _ _ _ _ h hF => ⟨h.2.1, hF⟩
end Jvm.Pilot.@@N@@
namespace Jvm.Pilot.@@N@@
open Jvm Jvm.ClassFile Sem Op Lib Jvm.Free Jvm.Stand Jvm.Pilot.@@N@@.Jvm.D
/-! MADE BY PROGRAM (witnessworld.py) out of the Statement's table words and the real class files: 14 classes; the members and pool entries that the words name. The judged class is class 1, her method 1. -/
namespace start1
open Jvm.ClassFile
def u (s : String) : CpInfo := .utf8 (stringToUtf16 s)
/-- a pool by its gaps: so many unusable entries, then the entry; so many at the end -/
def gap : Nat → List CpInfo → List CpInfo
  | 0, r => r
  | n + 1, r => .unusable :: gap n r
def poolList (es : List (Nat × CpInfo)) (last : Nat) : List CpInfo := es.foldr (fun e r => gap e.1 (e.2 :: r)) (gap last [])
def pool (es : List (Nat × CpInfo)) (last : Nat) : Array CpInfo := ⟨poolList es last⟩
def fileOf (pool : Array CpInfo) (this : Nat) (attrs : Array Attribute := #[]) (ms : Array MethodInfo := #[]) (fl : Nat := 33) (sup : Nat := 0) (ifs : Array Nat := #[]) (fds : Array FieldInfo := #[]) : ClassFile where
  minorVersion := 0
  majorVersion := 65
  constantPool := pool
  accessFlags := fl
  thisClass := this
  superClass := sup
  interfaces := ifs
  fields := fds
  methods := ms
  attributes := attrs
def plain (name : String) (sup : Option ClassId) : Class where
  name := name
  kind := .ordinary
  loader := none
  accessFlags := 33
  super := sup
  interfaces := #[]
  cf := none
  fields := #[]
  methods := #[]
  instanceTypes := #[]
  staticTypes := #[]
  resolved := #[]
  callSites := []
  init := .initialized
  statics := none
  mirror := none

def pool0 : Array CpInfo := pool [(5, u "<init>"), (0, u "()V"), (1, .class_ 10), (1, u "java/lang/Object")] 113

def k0m0 : Method := { name := "<init>", desc := "()V", sig := { parameters := [], returnType := none }, accessFlags := 1, code := none }
/-- java/lang/Object -/
def k0 : Class := { plain "java/lang/Object" none with
  accessFlags := 33
  interfaces := #[]
  cf := some (fileOf pool0 8 #[] #[{ accessFlags := 1, nameIndex := 5, descriptorIndex := 6, attributes := #[] }] 33 0 #[] #[])
  fields := #[]
  methods := #[k0m0]
  instanceTypes := #[]
  staticTypes := #[]
  resolved := Array.replicate 124 none
  statics := none }

def pool1 : Array CpInfo := pool [(2, .class_ 4), (1, u "java/lang/Object"), (0, u "<init>"), (0, u "()V"), (0, .class_ 8), (0, u "com/example/firmline/firmline/sim/Protection"), (0, .fieldref 7 10), (0, .nameAndType 11 12), (0, u "UNPROTECTED"), (0, u "Lcom/example/firmline/firmline/sim/Protection;"), (0, .fieldref 7 14), (0, .nameAndType 15 12), (0, u "TOLERATING"), (0, .fieldref 7 17), (0, .nameAndType 18 12), (0, u "CORRECTING"), (0, .fieldref 7 20), (0, .nameAndType 21 12), (0, u "RECOVERING"), (0, .methodref 7 23), (0, .nameAndType 24 25), (0, u "run"), (0, u "(Z)Lcom/example/firmline/firmline/sim/InstanceRun;"), (0, .methodref 27 28), (0, .class_ 29), (0, .nameAndType 30 31), (0, u "com/example/firmline/firmline/sim/InstanceRun"), (0, u "ranC"), (0, u "()Z"), (0, .methodref 7 33), (0, .nameAndType 34 35), (0, u "leavesCorrect"), (0, u "(Z)Z"), (0, .class_ 37), (0, u "com/example/firmline/firmline/sim/ProtectionLeavesCorrectPinLaw"), (2, u "law"), (0, u "(II)Z")] 5

def k1m0 : Method := { name := "<init>", desc := "()V", sig := { parameters := [], returnType := none }, accessFlags := 1, code := none }
def k1c1 : Code := { maxStack := 4, maxLocals := 6, code := code, exceptionTable := #[], attributes := #[] }
def k1m1 : Method := { name := "law", desc := "(II)Z", sig := { parameters := [.int, .int], returnType := some .boolean }, accessFlags := 9, code := some k1c1 }
/-- com/example/firmline/firmline/sim/ProtectionLeavesCorrectPinLaw -/
def k1 : Class := { plain "com/example/firmline/firmline/sim/ProtectionLeavesCorrectPinLaw" (some 0) with
  accessFlags := 49
  interfaces := #[]
  cf := some (fileOf pool1 36 #[] #[{ accessFlags := 1, nameIndex := 5, descriptorIndex := 6, attributes := #[] }, { accessFlags := 9, nameIndex := 40, descriptorIndex := 41, attributes := #[] }] 49 2 #[] #[])
  fields := #[]
  methods := #[k1m0, k1m1]
  instanceTypes := #[]
  staticTypes := #[]
  resolved := Array.replicate 47 none
  statics := none }

def pool2 : Array CpInfo := pool [(1, .class_ 2), (0, u "java/lang/constant/Constable"), (0, .class_ 4), (0, u "java/lang/Object")] 6

/-- java/lang/constant/Constable -/
def k2 : Class := { plain "java/lang/constant/Constable" (some 0) with
  accessFlags := 1537
  interfaces := #[]
  cf := some (fileOf pool2 1 #[] #[] 1537 3 #[] #[])
  fields := #[]
  methods := #[]
  instanceTypes := #[]
  staticTypes := #[]
  resolved := Array.replicate 11 none
  statics := none }

def pool3 : Array CpInfo := pool [(1, .class_ 2), (0, u "java/lang/Comparable"), (0, .class_ 4), (0, u "java/lang/Object")] 7

/-- java/lang/Comparable -/
def k3 : Class := { plain "java/lang/Comparable" (some 0) with
  accessFlags := 1537
  interfaces := #[]
  cf := some (fileOf pool3 1 #[] #[] 1537 3 #[] #[])
  fields := #[]
  methods := #[]
  instanceTypes := #[]
  staticTypes := #[]
  resolved := Array.replicate 12 none
  statics := none }

def pool4 : Array CpInfo := pool [(1, .class_ 2), (0, u "java/io/Serializable"), (0, .class_ 4), (0, u "java/lang/Object")] 2

/-- java/io/Serializable -/
def k4 : Class := { plain "java/io/Serializable" (some 0) with
  accessFlags := 1537
  interfaces := #[]
  cf := some (fileOf pool4 1 #[] #[] 1537 3 #[] #[])
  fields := #[]
  methods := #[]
  instanceTypes := #[]
  staticTypes := #[]
  resolved := Array.replicate 7 none
  statics := none }

def pool5 : Array CpInfo := pool [(2, .class_ 4), (1, u "java/lang/Enum"), (0, u "name"), (0, u "Ljava/lang/String;"), (0, .fieldref 2 8), (0, .nameAndType 9 10), (0, u "ordinal"), (0, u "I"), (1, .class_ 14), (1, u "java/lang/Object"), (4, u "hash"), (86, .class_ 108), (1, u "java/lang/Enum$EnumDesc"), (2, .class_ 112), (0, u "java/lang/constant/Constable"), (0, .class_ 114), (0, u "java/lang/Comparable"), (0, .class_ 116), (0, u "java/io/Serializable"), (9, u "()I")] 77

def k5c0 : Code := { maxStack := 1, maxLocals := 1, code := jdk_37_method_2_code, exceptionTable := #[], attributes := #[] }
def k5m0 : Method := { name := "ordinal", desc := "()I", sig := { parameters := [], returnType := some .int }, accessFlags := 17, code := some k5c0 }
/-- java/lang/Enum -/
def k5 : Class := { plain "java/lang/Enum" (some 0) with
  accessFlags := 1057
  interfaces := #[2, 3, 4]
  cf := some (fileOf pool5 2 #[.nestMembers #[106]] #[{ accessFlags := 17, nameIndex := 9, descriptorIndex := 126, attributes := #[] }] 1057 12 #[111, 113, 115] #[{ accessFlags := 18, nameIndex := 5, descriptorIndex := 6, attributes := #[] }, { accessFlags := 18, nameIndex := 9, descriptorIndex := 10, attributes := #[] }, { accessFlags := 2, nameIndex := 19, descriptorIndex := 10, attributes := #[] }])
  fields := #[{ name := "name", type := (.object "java/lang/String"), accessFlags := 18, slot := 0, constantValue := 0 }, { name := "ordinal", type := .int, accessFlags := 18, slot := 1, constantValue := 0 }, { name := "hash", type := .int, accessFlags := 2, slot := 2, constantValue := 0 }]
  methods := #[k5m0]
  instanceTypes := #[(.object "java/lang/String"), .int, .int]
  staticTypes := #[]
  resolved := Array.replicate 204 none
  statics := none }

def pool6 : Array CpInfo := pool [(1, .class_ 2), (0, u "com/example/firmline/firmline/sim/Protection"), (2, u "UNPROTECTED"), (0, u "Lcom/example/firmline/firmline/sim/Protection;"), (2, u "TOLERATING"), (0, .fieldref 1 11), (0, .nameAndType 12 6), (0, u "CORRECTING"), (0, .fieldref 1 14), (0, .nameAndType 15 6), (0, u "RECOVERING"), (2, u "$VALUES"), (0, u "[Lcom/example/firmline/firmline/sim/Protection;"), (6, .class_ 28), (1, u "java/lang/Enum"), (6, .methodref 1 36), (0, .nameAndType 37 38), (0, u "ordinal"), (0, u "()I"), (5, .fieldref 45 46), (0, .class_ 47), (0, .nameAndType 48 49), (0, u "com/example/firmline/firmline/sim/InstanceRun"), (0, u "U"), (0, u "Lcom/example/firmline/firmline/sim/InstanceRun;"), (0, .fieldref 45 51), (0, .nameAndType 52 49), (0, u "D"), (0, .fieldref 45 54), (0, .nameAndType 55 49), (0, u "C"), (0, .fieldref 45 57), (0, .nameAndType 58 49), (0, u "D_THEN_C"), (16, u "run"), (0, u "(Z)Lcom/example/firmline/firmline/sim/InstanceRun;"), (1, u "leavesCorrect"), (0, u "(Z)Z")] 4

def k6c0 : Code := { maxStack := 4, maxLocals := 2, code := prog_31_method_4_code, exceptionTable := #[], attributes := #[] }
def k6m0 : Method := { name := "run", desc := "(Z)Lcom/example/firmline/firmline/sim/InstanceRun;", sig := { parameters := [.boolean], returnType := some (.object "com/example/firmline/firmline/sim/InstanceRun") }, accessFlags := 0, code := some k6c0 }
def k6c1 : Code := { maxStack := 2, maxLocals := 2, code := prog_31_method_5_code, exceptionTable := #[], attributes := #[] }
def k6m1 : Method := { name := "leavesCorrect", desc := "(Z)Z", sig := { parameters := [.boolean], returnType := some .boolean }, accessFlags := 0, code := some k6c1 }
/-- com/example/firmline/firmline/sim/Protection -/
def k6 : Class := { plain "com/example/firmline/firmline/sim/Protection" (some 5) with
  accessFlags := 16432
  interfaces := #[]
  cf := some (fileOf pool6 1 #[] #[{ accessFlags := 0, nameIndex := 75, descriptorIndex := 76, attributes := #[] }, { accessFlags := 0, nameIndex := 78, descriptorIndex := 79, attributes := #[] }] 16432 26 #[] #[{ accessFlags := 16409, nameIndex := 5, descriptorIndex := 6, attributes := #[] }, { accessFlags := 16409, nameIndex := 9, descriptorIndex := 6, attributes := #[] }, { accessFlags := 16409, nameIndex := 12, descriptorIndex := 6, attributes := #[] }, { accessFlags := 16409, nameIndex := 15, descriptorIndex := 6, attributes := #[] }, { accessFlags := 4122, nameIndex := 18, descriptorIndex := 19, attributes := #[] }])
  fields := #[{ name := "UNPROTECTED", type := (.object "com/example/firmline/firmline/sim/Protection"), accessFlags := 16409, slot := 0, constantValue := 0 }, { name := "TOLERATING", type := (.object "com/example/firmline/firmline/sim/Protection"), accessFlags := 16409, slot := 1, constantValue := 0 }, { name := "CORRECTING", type := (.object "com/example/firmline/firmline/sim/Protection"), accessFlags := 16409, slot := 2, constantValue := 0 }, { name := "RECOVERING", type := (.object "com/example/firmline/firmline/sim/Protection"), accessFlags := 16409, slot := 3, constantValue := 0 }, { name := "$VALUES", type := (.array (.object "com/example/firmline/firmline/sim/Protection")), accessFlags := 4122, slot := 4, constantValue := 0 }]
  methods := #[k6m0, k6m1]
  instanceTypes := #[(.object "java/lang/String"), .int, .int]
  staticTypes := #[(.object "com/example/firmline/firmline/sim/Protection"), (.object "com/example/firmline/firmline/sim/Protection"), (.object "com/example/firmline/firmline/sim/Protection"), (.object "com/example/firmline/firmline/sim/Protection"), (.array (.object "com/example/firmline/firmline/sim/Protection"))]
  resolved := Array.replicate 84 none
  statics := some 0 }

def pool7 : Array CpInfo := pool [(1, .class_ 2), (0, u "com/example/firmline/firmline/sim/InstanceRun"), (2, u "U"), (0, u "Lcom/example/firmline/firmline/sim/InstanceRun;"), (2, u "D"), (2, u "C"), (2, u "D_THEN_C"), (2, u "$VALUES"), (0, u "[Lcom/example/firmline/firmline/sim/InstanceRun;"), (6, .class_ 28), (1, u "java/lang/Enum"), (8, u "ranU"), (0, u "Z"), (2, u "ranD"), (0, .fieldref 1 43), (0, .nameAndType 44 38), (0, u "ranC"), (18, u "()Z")] 5

def k7c0 : Code := { maxStack := 1, maxLocals := 1, code := prog_27_method_6_code, exceptionTable := #[], attributes := #[] }
def k7m0 : Method := { name := "ranC", desc := "()Z", sig := { parameters := [], returnType := some .boolean }, accessFlags := 1, code := some k7c0 }
/-- com/example/firmline/firmline/sim/InstanceRun -/
def k7 : Class := { plain "com/example/firmline/firmline/sim/InstanceRun" (some 5) with
  accessFlags := 16433
  interfaces := #[]
  cf := some (fileOf pool7 1 #[] #[{ accessFlags := 1, nameIndex := 44, descriptorIndex := 63, attributes := #[] }] 16433 26 #[] #[{ accessFlags := 16409, nameIndex := 5, descriptorIndex := 6, attributes := #[] }, { accessFlags := 16409, nameIndex := 9, descriptorIndex := 6, attributes := #[] }, { accessFlags := 16409, nameIndex := 12, descriptorIndex := 6, attributes := #[] }, { accessFlags := 16409, nameIndex := 15, descriptorIndex := 6, attributes := #[] }, { accessFlags := 18, nameIndex := 37, descriptorIndex := 38, attributes := #[] }, { accessFlags := 18, nameIndex := 41, descriptorIndex := 38, attributes := #[] }, { accessFlags := 18, nameIndex := 44, descriptorIndex := 38, attributes := #[] }, { accessFlags := 4122, nameIndex := 18, descriptorIndex := 19, attributes := #[] }])
  fields := #[{ name := "U", type := (.object "com/example/firmline/firmline/sim/InstanceRun"), accessFlags := 16409, slot := 0, constantValue := 0 }, { name := "D", type := (.object "com/example/firmline/firmline/sim/InstanceRun"), accessFlags := 16409, slot := 1, constantValue := 0 }, { name := "C", type := (.object "com/example/firmline/firmline/sim/InstanceRun"), accessFlags := 16409, slot := 2, constantValue := 0 }, { name := "D_THEN_C", type := (.object "com/example/firmline/firmline/sim/InstanceRun"), accessFlags := 16409, slot := 3, constantValue := 0 }, { name := "ranU", type := .boolean, accessFlags := 18, slot := 3, constantValue := 0 }, { name := "ranD", type := .boolean, accessFlags := 18, slot := 4, constantValue := 0 }, { name := "ranC", type := .boolean, accessFlags := 18, slot := 5, constantValue := 0 }, { name := "$VALUES", type := (.array (.object "com/example/firmline/firmline/sim/InstanceRun")), accessFlags := 4122, slot := 4, constantValue := 0 }]
  methods := #[k7m0]
  instanceTypes := #[(.object "java/lang/String"), .int, .int, .boolean, .boolean, .boolean]
  staticTypes := #[(.object "com/example/firmline/firmline/sim/InstanceRun"), (.object "com/example/firmline/firmline/sim/InstanceRun"), (.object "com/example/firmline/firmline/sim/InstanceRun"), (.object "com/example/firmline/firmline/sim/InstanceRun"), (.array (.object "com/example/firmline/firmline/sim/InstanceRun"))]
  resolved := Array.replicate 69 none
  statics := some 1 }

def pool8 : Array CpInfo := pool [(1, u "java/lang/Cloneable"), (0, .class_ 1), (0, u "java/lang/Object"), (0, .class_ 3)] 3

/-- java/lang/Cloneable -/
def k8 : Class := { plain "java/lang/Cloneable" (some 0) with
  accessFlags := 1537
  interfaces := #[]
  cf := some (fileOf pool8 2 #[] #[] 1537 4 #[] #[])
  fields := #[]
  methods := #[]
  instanceTypes := #[]
  staticTypes := #[]
  resolved := Array.replicate 8 none
  statics := none }

/-- the primitive byte -/
def k9 : Class := { plain "byte" none with kind := .primitive 'B', accessFlags := 0x411 }
/-- [B -/
def k10 : Class := { plain "[B" (some 0) with kind := .array 9 .byte, interfaces := #[8, 4], accessFlags := 1041 }

/-- the primitive int -/
def k11 : Class := { plain "int" none with kind := .primitive 'I', accessFlags := 0x411 }
/-- [I -/
def k12 : Class := { plain "[I" (some 0) with kind := .array 11 .int, interfaces := #[8, 4], accessFlags := 1041 }

/-- [Lcom/example/firmline/firmline/sim/Protection; -/
def k13 : Class := { plain "[Lcom/example/firmline/firmline/sim/Protection;" (some 0) with kind := .array 6 (.object "com/example/firmline/firmline/sim/Protection"), interfaces := #[8, 4], accessFlags := 1041 }

def heap : Heap := #[{ cls := 6, slots := #[.ref 2, .ref 3, .ref 4, .ref 5, .null], vm := .statics 6 },
  { cls := 7, slots := #[.ref 6, .ref 7, .ref 8, .ref 9, .null], vm := .statics 7 },
  { cls := 6, slots := #[.null, .int 0, .int 0], vm := .none },
  { cls := 6, slots := #[.null, .int 1, .int 0], vm := .none },
  { cls := 6, slots := #[.null, .int 2, .int 0], vm := .none },
  { cls := 6, slots := #[.null, .int 3, .int 0], vm := .none },
  { cls := 7, slots := #[.null, .int 0, .int 0, .int 0, .int 0, .int 0], vm := .none },
  { cls := 7, slots := #[.null, .int 1, .int 0, .int 0, .int 0, .int 0], vm := .none },
  { cls := 7, slots := #[.null, .int 2, .int 0, .int 1, .int 1, .int 1], vm := .none },
  { cls := 7, slots := #[.null, .int 3, .int 0, .int 1, .int 1, .int 1], vm := .none }]
def classes : Array Class := #[k0, k1, k2, k3, k4, k5, k6, k7, k8, k9, k10, k11, k12, k13]
def interned : List (Array UInt16 × Addr) := []
def slotsUsed : Nat := 46
def theMethod : MethodId := ⟨1, 1⟩
def args0 : Array Value := #[.int 5, .int 1]
def aboutOver (below : List Frame) : State where
  vm := { classes := classes, interned := interned.toArray }
  heap := heap
  slotsUsed := slotsUsed
  threads := #[{ frames := .invoking theMethod args0 :: below }]
def below0 : List Frame := [.native { method := ⟨0, 0⟩, args := #[] }]
def about1 : State := aboutOver below0
def p0 : Program := .bare "" "" ""
def e0 : Env := launch0.env 0 0 0
theorem w_frames : about1.frames = Frame.invoking theMethod args0 :: below0 := rfl
set_option maxRecDepth 65536 in
theorem w_args : argsFit about1.vm theMethod args0 = true := by decide +kernel
set_option maxRecDepth 65536 in
theorem w_heap : heapFits about1 = true := by decide +kernel
set_option maxRecDepth 65536 in
theorem w_runnable : about1.curStatus? = some .runnable := by decide +kernel
set_option maxRecDepth 65536 in
theorem w_alone : about1.alone = true := by decide +kernel
set_option maxRecDepth 65536 in
theorem w_named : about1.methodNamed? x = some theMethod := by decide +kernel
set_option maxRecDepth 65536 in
theorem w_hears : about1.hears theMethod below0 = true := by decide +kernel
set_option maxRecDepth 65536 in
theorem w_ripe : about1.ripe theMethod args0 below0 = true := by decide +kernel
theorem w_running : about1.status = .running := rfl
set_option maxRecDepth 65536 in
theorem w_room : about1.hasRoom e0.platform room_1 = true :=
  launch0.hasRoom_least _ room_1 (by decide +kernel) (by decide +kernel) (by decide +kernel) (by decide +kernel) (by decide +kernel) (by decide +kernel)
theorem allAtoms_all (ts : List Jvm.Cond) (a : Array Jvm.Value) (st : Jvm.State) : (allAtoms ts).before a st = ts.all (fun c => c.before a st) := by
  induction ts with
  | nil => rfl
  | cons c t ih =>
    show (Jvm.Cond.and c (allAtoms t)).before a st = _
    rw [Jvm.Cond.before_and, ih, List.all_cons]
def words1 : List Jvm.Cond := Jvm.Cond.code x code maxLocals ret :: tables_1
/-- a 'code' word, met by the world's own term for the bytes: nothing is compared byte by byte -/
theorem code_word {y : MethodName} {bytes : ByteArray} {mx : Nat} {rt : Option FieldType} {a : Array Value} {s : State} {m : MethodId} {meth : Method} {c : Code} (h1 : s.methodNamed? y = some m) (h2 : s.vm.method? m = some meth) (h3 : meth.code = some c) (h4 : c.code = bytes)
    (h5 : (c.maxLocals == mx && c.exceptionTable.isEmpty && decide (c.maxStack ≤ mostOperands) && decide (meth.sig.returnType = rt) && !meth.locks && decide (parseMethodDescriptor y.desc = some meth.sig)) = true) : (Jvm.Cond.code y bytes mx rt).before a s = true := by
  simp only [Bool.and_eq_true, beq_iff_eq, Bool.not_eq_true', decide_eq_true_eq] at h5
  obtain ⟨⟨⟨⟨⟨g1, g2⟩, g3⟩, g4⟩, g5⟩, g6⟩ := h5
  simp [Cond.before, Cond.holds, Cond.value, h1, h2, h3, h4, g1, g2, g3, g4, g5, g6]
def isCode : Jvm.Cond → Bool
  | .code _ _ _ _ => true
  | _ => false
theorem all_split {L : List Jvm.Cond} {P : Jvm.Cond → Bool} (h1 : L.all (fun c => isCode c || P c) = true) (h2 : ∀ c ∈ L.filter isCode, P c = true) : L.all P = true := by
  refine List.all_eq_true.mpr fun c hc => ?_
  have h := List.all_eq_true.mp h1 c hc
  rcases Bool.eq_false_or_eq_true (isCode c) with hi | hi
  · exact h2 c (List.mem_filter.mpr ⟨hc, hi⟩)
  · simpa [hi] using h
set_option maxRecDepth 65536 in
theorem w_c0 : (Jvm.Cond.code x code maxLocals ret).before args0 about1 = true := code_word (m := ⟨1, 1⟩) (meth := k1m1) (c := k1c1) (by decide +kernel) rfl rfl rfl (by decide +kernel)
set_option maxRecDepth 65536 in
theorem w_c1 : (Jvm.Cond.code ({ cls := "com/example/firmline/firmline/sim/Protection", name := "run", desc := "(Z)Lcom/example/firmline/firmline/sim/InstanceRun;" } : Jvm.MethodName) prog_31_method_4_code (2 : Nat) (Option.some (Jvm.ClassFile.FieldType.object "com/example/firmline/firmline/sim/InstanceRun"))).before args0 about1 = true := code_word (m := ⟨6, 0⟩) (meth := k6m0) (c := k6c0) (by decide +kernel) rfl rfl rfl (by decide +kernel)
set_option maxRecDepth 65536 in
theorem w_c2 : (Jvm.Cond.code ({ cls := "java/lang/Enum", name := "ordinal", desc := "()I" } : Jvm.MethodName) jdk_37_method_2_code (1 : Nat) (Option.some Jvm.ClassFile.FieldType.int)).before args0 about1 = true := code_word (m := ⟨5, 0⟩) (meth := k5m0) (c := k5c0) (by decide +kernel) rfl rfl rfl (by decide +kernel)
set_option maxRecDepth 65536 in
theorem w_c3 : (Jvm.Cond.code ({ cls := "com/example/firmline/firmline/sim/InstanceRun", name := "ranC", desc := "()Z" } : Jvm.MethodName) prog_27_method_6_code (1 : Nat) (Option.some Jvm.ClassFile.FieldType.boolean)).before args0 about1 = true := code_word (m := ⟨7, 0⟩) (meth := k7m0) (c := k7c0) (by decide +kernel) rfl rfl rfl (by decide +kernel)
set_option maxRecDepth 65536 in
theorem w_c4 : (Jvm.Cond.code ({ cls := "com/example/firmline/firmline/sim/Protection", name := "leavesCorrect", desc := "(Z)Z" } : Jvm.MethodName) prog_31_method_5_code (2 : Nat) (Option.some Jvm.ClassFile.FieldType.boolean)).before args0 about1 = true := code_word (m := ⟨6, 1⟩) (meth := k6m1) (c := k6c1) (by decide +kernel) rfl rfl rfl (by decide +kernel)
def codes1 : List Jvm.Cond := [Jvm.Cond.code x code maxLocals ret, Jvm.Cond.code ({ cls := "com/example/firmline/firmline/sim/Protection", name := "run", desc := "(Z)Lcom/example/firmline/firmline/sim/InstanceRun;" } : Jvm.MethodName) prog_31_method_4_code (2 : Nat) (Option.some (Jvm.ClassFile.FieldType.object "com/example/firmline/firmline/sim/InstanceRun")), Jvm.Cond.code ({ cls := "java/lang/Enum", name := "ordinal", desc := "()I" } : Jvm.MethodName) jdk_37_method_2_code (1 : Nat) (Option.some Jvm.ClassFile.FieldType.int), Jvm.Cond.code ({ cls := "com/example/firmline/firmline/sim/InstanceRun", name := "ranC", desc := "()Z" } : Jvm.MethodName) prog_27_method_6_code (1 : Nat) (Option.some Jvm.ClassFile.FieldType.boolean), Jvm.Cond.code ({ cls := "com/example/firmline/firmline/sim/Protection", name := "leavesCorrect", desc := "(Z)Z" } : Jvm.MethodName) prog_31_method_5_code (2 : Nat) (Option.some Jvm.ClassFile.FieldType.boolean)]
set_option maxRecDepth 65536 in
theorem codes_eq : words1.filter isCode = codes1 := rfl
theorem w_codes : ∀ c ∈ words1.filter isCode, c.before args0 about1 = true := by
  rw [codes_eq]
  intro c hc
  simp only [codes1, List.mem_cons, List.not_mem_nil, or_false] at hc
  rcases hc with rfl | rfl | rfl | rfl | rfl
  · exact w_c0
  · exact w_c1
  · exact w_c2
  · exact w_c3
  · exact w_c4
set_option maxRecDepth 65536 in
theorem w_t1 : (words1.take 24).all (fun c => isCode c || c.before args0 about1) = true := by decide +kernel
set_option maxRecDepth 65536 in
theorem w_t2 : ((words1.drop 24).take 24).all (fun c => isCode c || c.before args0 about1) = true := by decide +kernel
set_option maxRecDepth 65536 in
theorem w_t3 : ((words1.drop 24).drop 24).all (fun c => isCode c || c.before args0 about1) = true := by decide +kernel
theorem w_tables : (allAtoms (Jvm.Cond.code x code maxLocals ret :: tables_1)).before args0 about1 = true := by
  rw [allAtoms_all]
  show words1.all (fun c => c.before args0 about1) = true
  refine all_split ?_ w_codes
  rw [← List.take_append_drop 24 words1, List.all_append, w_t1, ← List.take_append_drop 24 (words1.drop 24), List.all_append, w_t2, w_t3]
  rfl
set_option maxRecDepth 65536 in
theorem w_case : (Jvm.Cond.and given_1 narrow_1).before args0 about1 = true := by decide +kernel
theorem w_applies : (headSpec (Jvm.Cond.code x code maxLocals ret :: tables_1) room_1).applies x e0.platform about1 = true :=
  (Spec.applies_iff w_frames).mpr ⟨w_running, w_runnable, w_alone, w_named, w_hears, w_ripe, w_room, w_tables⟩
theorem atStart : AtStart classFile x code maxLocals ret World_1 tables_1 room_1 Calls_1 rest_1 Pre_1 launch0 p0 e0 about1 theMethod args0 below0 :=
  ⟨lists_1, trivial, launch0.admits_env _ _ _, launch0.least_env, fairChoices_fair.cas, fairChoices_fair.clock, w_frames, w_args, w_heap, w_applies, trivial, trivial, w_case⟩
end start1
theorem witness_1 : WitnessClaimed_1 := ⟨start1.p0, start1.e0, start1.about1, start1.theMethod, start1.args0, start1.below0, start1.atStart⟩
end Jvm.Pilot.@@N@@
