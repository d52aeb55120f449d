import JvmDerived
import JvmDerived.Pilot.@@N@@Statement
import JvmDerived.Pilot.@@N@@Code
set_option linter.unusedVariables false
set_option linter.unusedSimpArgs false
namespace Jvm.Pilot.@@N@@
open Jvm Jvm.ClassFile Sem Op Lib Jvm.Free Jvm.Stand Jvm.LawKit Jvm.RoadKit Bundle Jvm.Pilot.@@N@@.Jvm.D
theorem own_retI {p : Program} {l : Launch} {e : Env} {R : Room} {s : State} {m : MethodId} {args : Array Value} {below : List Frame} {meth : Method} {c : Code} {T : State} {locs : List Loc} {cells slots : Nat} (X : Stand p l e R s m args below meth c T locs cells slots) (hx : p.tables.exec = Jvm.exec) {pc : Nat} {Ls : Array Slot} {z : Int32} {rest : List Value} (hret : meth.sig.returnType = some .int) (hd : decode c.code pc = .ok (.ireturn, 1)) {fs : List Frame}
    (hl : ∀ (f : JFrame) (acts : List Action), f.method = m → f.locked = none → f.entered = [] → (doReturn e (T.setTop f) acts (some (.int z))).1 = T.setFrames fs) : Steps p.tables e below (T.setTop (mkF m pc Ls (.int z :: rest))) (T.setFrames fs) :=
  retOut X hx hret rfl (Or.inl ⟨rfl, Or.inl rfl, z, rfl⟩) hd hl
theorem own_retJ {p : Program} {l : Launch} {e : Env} {R : Room} {s : State} {m : MethodId} {args : Array Value} {below : List Frame} {meth : Method} {c : Code} {T : State} {locs : List Loc} {cells slots : Nat} (X : Stand p l e R s m args below meth c T locs cells slots) (hx : p.tables.exec = Jvm.exec) {pc : Nat} {Ls : Array Slot} {z : Int64} {rest : List Value} (hret : meth.sig.returnType = some .long) (hd : decode c.code pc = .ok (.lreturn, 1)) {fs : List Frame}
    (hl : ∀ (f : JFrame) (acts : List Action), f.method = m → f.locked = none → f.entered = [] → (doReturn e (T.setTop f) acts (some (.long z))).1 = T.setFrames fs) : Steps p.tables e below (T.setTop (mkF m pc Ls (.long z :: rest))) (T.setFrames fs) :=
  retOut X hx hret rfl (Or.inr (Or.inl ⟨rfl, rfl, z, rfl⟩)) hd hl
theorem own_retA {p : Program} {l : Launch} {e : Env} {R : Room} {s : State} {m : MethodId} {args : Array Value} {below : List Frame} {meth : Method} {c : Code} {T : State} {locs : List Loc} {cells slots : Nat} (X : Stand p l e R s m args below meth c T locs cells slots) (hx : p.tables.exec = Jvm.exec) {pc : Nat} {Ls : Array Slot} {w : Value} {rest : List Value} {t : FieldType} (hret : meth.sig.returnType = some t) (ht : t.isReference = true) (hn : narrow t w = w) (hw : w.isRef = true) (hd : decode c.code pc = .ok (.areturn, 1)) {fs : List Frame}
    (hl : ∀ (f : JFrame) (acts : List Action), f.method = m → f.locked = none → f.entered = [] → (doReturn e (T.setTop f) acts (some w)).1 = T.setFrames fs) : Steps p.tables e below (T.setTop (mkF m pc Ls (w :: rest))) (T.setFrames fs) :=
  retOut X hx hret hn (Or.inr (Or.inr (Or.inr (Or.inr ⟨rfl, ht, hw⟩)))) hd hl
theorem own_go {tb : Tables} {e : Env} {below : List Frame} {A B : State} {R : State → Outcome → Prop} (st : ∀ t, Steps tb e below A t → Steps tb e below B t) (h : ∃ U o, Steps tb e below A U ∧ R U o) : ∃ U o, Steps tb e below B U ∧ R U o := by
  obtain ⟨U, o, h1, h2⟩ := h
  exact ⟨U, o, st U h1, h2⟩
theorem own_via {tb : Tables} {e : Env} {below : List Frame} {A B : State} {R : State → Outcome → Prop} (st : Steps tb e below B A) (h : ∃ U o, Steps tb e below A U ∧ R U o) : ∃ U o, Steps tb e below B U ∧ R U o := by
  obtain ⟨U, o, h1, h2⟩ := h
  exact ⟨U, o, st.trans h1, h2⟩
theorem own_eqInt {t : Term} {k : Int32} {args : Array Value} {s : State} (h : (Jvm.Cond.eq t (.int k)).value args s none s [] = some true) : t.eval args s none [] s = some (.int k) := by
  cases ha : t.eval args s none [] s with
  | none => simp [Cond.value, ha] at h
  | some x => cases x <;> simp_all [Cond.value, Term.eval, Value.isRef]
theorem own_selP {s : State} {args : Array Value} {y : MethodName} {n : Nat} (hinst : (Jvm.Cond.instanceMethod y).before args s = true) (hp : (Jvm.Cond.privateMethod y).before args s = true) (hi : (Jvm.Cond.instantiable y.cls n).before args s = true) (hy : y.cls ≠ "java/lang/invoke/MethodHandle" ∧ y.cls ≠ "java/lang/invoke/VarHandle") : (Jvm.Cond.selects y.cls y y).before args s = true := by
  obtain ⟨c, k, h1, h2, -, h4, -, -⟩ := Cond.instantiable_spec hi
  simp only [Bool.or_eq_false_iff] at h4
  exact selects_self_of_private h1 h2 h4.1 (Cond.privateMethod_at hp) hinst hy
theorem own_mvMN {Z s : State} {a0 args : Array Value} {own host : String} {y : MethodName} {index : Nat} (hZ : Z.Warmed39 s.vm) (w : (Jvm.Cond.methodLinkNest own index y host).before a0 Z = true) : (Jvm.Cond.methodLinkNest own index y host).before args s = true := (Cond.methodLinkNest_wide hZ w :)
theorem own_stoV {Z : State} {h : Heap} {a y : Addr} {k : ClassId} {ty : FieldType} {n : Int32} {vs : List Value} {d : Value} {C : String} (F : Arv Z h a k ty n vs d) (O : Ovr Z k C) (I : Ins Z h y C true) : Sto Z h a (.ref y) := by
  obtain ⟨c, A, q, -⟩ := F
  exact Sto.ofV A q O I
theorem own_cat1 {v : Value} (h : v.isRef = true) : v.category = 1 := by cases v <;> simp_all [Value.isRef, Value.category]
theorem own_nref {t : FieldType} {v : Value} (h : v.isRef = true) : narrow t v = v := by cases v <;> simp_all [Value.isRef, narrow]
theorem own_narb (x : Int32) : nar .byte x.toInt8.toInt32 = x.toInt8.toInt32 := by simp [nar]
theorem own_w {Z : State} {a0 : Array Value} (hw : ∀ d ∈ tables_1, d.before a0 Z = true) (i : Nat) {d : Jvm.Cond} (h : tables_1[i]? = some d) : d.before a0 Z = true := hw _ (List.mem_of_getElem? h)
theorem own_bT {P : Prop} [Decidable P] (h : P) : (if P then (1 : Int32) else 0) = 1 := if_pos h
theorem own_bF {P : Prop} [Decidable P] (h : ¬ P) : (if P then (1 : Int32) else 0) = 0 := if_neg h
theorem own_narB {P : Prop} [Decidable P] : nar .boolean (if P then (1 : Int32) else 0) = (if P then (1 : Int32) else 0) := by split <;> rfl
theorem d2_0 : decode jdk_37_method_2_code 0 = .ok (.aload_n 0, 1) := by decide +kernel
theorem d2_1 : decode jdk_37_method_2_code 1 = .ok (.getfield 7, 3) := by decide +kernel
theorem d2_4 : decode jdk_37_method_2_code 4 = .ok (.ireturn, 1) := by decide +kernel
abbrev own_y0 : MethodName := ⟨"java/lang/Enum", "ordinal", "()I"⟩
theorem ef_rmOrd (m : MethodId) (a : Addr) : entryFrame m #[(.ref a)] 1 = mkF m 0 #[.val (.ref a)] [] := by first | (simp [entryFrame, mkF, argsToLocals, Value.category]; done) | rfl
def Q_rmOrd (Z : State) (a : Addr) (w : Int32) (h0 : Heap) (n0 : Nat) (v_ : Option Value) (h_ : Heap) (L_ : List Loc) : Prop := v_ = some (.int w) ∧ Fr n0 L_ ∧ h_ = h0
theorem pn_0 : plainName "java/lang/Enum" = true := by first | (simp [plainName, overriddenIn]; done) | decide +kernel
set_option maxRecDepth 65536 in
set_option maxHeartbeats 40000000 in
theorem rmOrd (l : Launch) (Z : State) (a0 : Array Value) (hw : ∀ d ∈ tables_1, d.before a0 Z = true) (ws : List Jvm.Cond) (a : Addr) (w : Int32) (h0 : Heap) (n0 : Nat) (Z0 : n0 ≤ h0.size) (O0 : Old Z n0 h0) (u1 : Fld Z Z.heap a "java/lang/Enum" "ordinal" "I" (.int w)) :
    MetFree l own_y0 (head1 (Jvm.Cond.code own_y0 jdk_37_method_2_code 1 (some .int) :: ws) ({ frames := 0, cells := 0, slots := 0, locals := 0 } : Room)) (fun a_ U_ => a_ = #[(.ref a)] ∧ Z.Warmed39 U_.vm ∧ U_.heap = h0) (fun _ _ _ _ _ => True) (fun _ U_ o_ U2_ => ∃ v_ L_, o_ = .returned v_ ∧ Q_rmOrd Z a w h0 n0 v_ U2_.heap L_ ∧ FrameEnd U_ o_ U2_ L_ ({ frames := 0, cells := 0, slots := 0, locals := 0 } : Room).cells ({ frames := 0, cells := 0, slots := 0, locals := 0 } : Room).slots) := by
  refine MetFree.of_bodySF (plainFor_of_name pn_0) hisR ?_
  intro p e s m args below meth c s₁ Bd hml0 hP hK
  obtain ⟨rfl, hZ, hh⟩ := hP
  have hx := Bd.exec
  have hby := Bd.bytes
  have hml : c.maxLocals = 1 := hml0
  have hown : s.vm.findClass "java/lang/Enum" = some m.cls := findClass_of_methodNamed Bd.named
  have hnm := (name_of_methodNamed Bd.named Bd.method).1
  have X0 : Stand p l e ({ frames := 0, cells := 0, slots := 0, locals := 0 } : Room) s m #[(.ref a)] below meth c s₁ [] 0 0 := Stand.of_body Bd
  have e0 : s₁.heap = h0 := by rw [← hh, Bd.state]; rfl
  have N0 := Fr.nil n0
  refine own_go (A := s₁.setTop (mkF m 0 #[.val (.ref a)] [])) (fun t_ k_ => castTop (ef_rmOrd m a) k_) ?_
  refine own_go (A := s₁.setTop (mkF m 1 #[.val (.ref a)] [(.ref a)])) (fun t_ k_ => ?_) ?_
  · show Steps p.tables e below (s₁.setTop (mkF m 0 #[.val (.ref a)] [])) t_
    refine XS.aloadN X0.here hx rfl (hb hby d2_0) rfl rfl ?_
    exact k_
  obtain ⟨T1, X1, e1, st1⟩ := getF X0 hx hZ hown (host := "") (Or.inl (own_w hw 86 rfl)) Via.refl e0 (u1.ext O0.2) (g := (mkF m 1 #[.val (.ref a)] [(.ref a)])) rfl rfl (hb hby d2_1)
  refine own_go st1 ?_
  obtain ⟨fs2, hr2, hrun2, hended2, hW2, hsame2⟩ := X1.leave (v := some (.int w)) (fun h => by rw [Bd.returns] at h; cases h)
  refine ⟨_, _, ?_, hrun2, hended2, _, _, rfl, ?_, ⟨_, rfl⟩, hW2, hsame2.mono (by decide) (by decide)⟩
  · exact own_retI X1 hx Bd.returns (hb hby d2_4) hr2
  · show Q_rmOrd Z a w h0 n0 _ T1.heap _
    rw [e1]
    exact ⟨rfl, N0, rfl⟩
theorem d1_0 : decode prog_15_method_7_code 0 = .ok (.aload_n 0, 1) := by decide +kernel
theorem pd_0 : parseMethodDescriptor "()I" = some ⟨[], some .int⟩ := by decide +kernel
theorem d1_1 : decode prog_15_method_7_code 1 = .ok (.invokevirtual 135, 3) := by decide +kernel
abbrev own_y1 : MethodName := ⟨"com/example/querent/querent/dicom/Vr", "ordinal", "()I"⟩
theorem d1_4 : decode prog_15_method_7_code 4 = .ok (.tableswitch 137 7 33 #[132, 128, 137, 137, 137, 137, 137, 137, 137, 137, 137, 137, 137, 128, 137, 124, 137, 132, 137, 137, 137, 128, 137, 137, 124, 137, 132], 124) := by decide +kernel
theorem d1_128 : decode prog_15_method_7_code 128 = .ok (.iconst 2, 1) := by decide +kernel
theorem d1_129 : decode prog_15_method_7_code 129 = .ok (.goto 13, 3) := by decide +kernel
theorem d1_142 : decode prog_15_method_7_code 142 = .ok (.ireturn, 1) := by decide +kernel
abbrev own_y2 : MethodName := ⟨"com/example/querent/querent/dicom/Vr", "binaryNumberLength", "()I"⟩
theorem ef_rmMIn124 (m : MethodId) (a : Addr) : entryFrame m #[(.ref a)] 1 = mkF m 0 #[.val (.ref a)] [] := by first | (simp [entryFrame, mkF, argsToLocals, Value.category]; done) | rfl
def Q_rmMIn124 (Z : State) (a : Addr) (w : Int32) (h0 : Heap) (n0 : Nat) (v_ : Option Value) (h_ : Heap) (L_ : List Loc) : Prop := v_ = some (.int (2 : Int32)) ∧ Fr n0 L_ ∧ h_ = h0
theorem pn_1 : plainName "com/example/querent/querent/dicom/Vr" = true := by first | (simp [plainName, overriddenIn]; done) | decide +kernel
set_option maxRecDepth 65536 in
set_option maxHeartbeats 40000000 in
theorem rmMIn124 (l : Launch) (Z : State) (a0 : Array Value) (hw : ∀ d ∈ tables_1, d.before a0 Z = true) (ws : List Jvm.Cond) (a : Addr) (w : Int32) (h0 : Heap) (n0 : Nat) (Z0 : n0 ≤ h0.size) (O0 : Old Z n0 h0) (u1 : Exa Z Z.heap a "com/example/querent/querent/dicom/Vr") (u2 : Fld Z Z.heap a "java/lang/Enum" "ordinal" "I" (.int w)) (hin : ¬ (w.toInt < 7 ∨ w.toInt > 33)) (hoff : (#[132, 128, 137, 137, 137, 137, 137, 137, 137, 137, 137, 137, 137, 128, 137, 124, 137, 132, 137, 137, 137, 128, 137, 137, 124, 137, 132] : Array Int)[(w.toInt - 7).toNat]? = some 124) :
    MetFree l own_y2 (head1 (Jvm.Cond.code own_y2 prog_15_method_7_code 1 (some .int) :: ws) ({ frames := 1, cells := 0, slots := 0, locals := 12 } : Room)) (fun a_ U_ => a_ = #[(.ref a)] ∧ Z.Warmed39 U_.vm ∧ U_.heap = h0) (fun _ _ _ _ _ => True) (fun _ U_ o_ U2_ => ∃ v_ L_, o_ = .returned v_ ∧ Q_rmMIn124 Z a w h0 n0 v_ U2_.heap L_ ∧ FrameEnd U_ o_ U2_ L_ ({ frames := 1, cells := 0, slots := 0, locals := 12 } : Room).cells ({ frames := 1, cells := 0, slots := 0, locals := 12 } : Room).slots) := by
  refine MetFree.of_bodySF (plainFor_of_name pn_1) hisR ?_
  intro p e s m args below meth c s₁ Bd hml0 hP hK
  obtain ⟨rfl, hZ, hh⟩ := hP
  have hx := Bd.exec
  have hby := Bd.bytes
  have hml : c.maxLocals = 1 := hml0
  have hown : s.vm.findClass "com/example/querent/querent/dicom/Vr" = some m.cls := findClass_of_methodNamed Bd.named
  have hnm := (name_of_methodNamed Bd.named Bd.method).1
  have X0 : Stand p l e ({ frames := 1, cells := 0, slots := 0, locals := 12 } : Room) s m #[(.ref a)] below meth c s₁ [] 0 0 := Stand.of_body Bd
  have e0 : s₁.heap = h0 := by rw [← hh, Bd.state]; rfl
  have N0 := Fr.nil n0
  refine own_go (A := s₁.setTop (mkF m 0 #[.val (.ref a)] [])) (fun t_ k_ => castTop (ef_rmMIn124 m a) k_) ?_
  refine own_go (A := s₁.setTop (mkF m 1 #[.val (.ref a)] [(.ref a)])) (fun t_ k_ => ?_) ?_
  · show Steps p.tables e below (s₁.setTop (mkF m 0 #[.val (.ref a)] [])) t_
    refine XS.aloadN X0.here hx rfl (hb hby d1_0) rfl rfl ?_
    exact k_
  obtain ⟨cq1, kq1, q1a, q1b, q1c⟩ := isOf hZ e0 (u1.ext O0.2)
  obtain ⟨_, _, ⟨T1, L1, k1, n1⟩, -, X1, ⟨Lc1, hQ1, l1, y1, z1⟩, st1⟩ := X0.virtualBackUp hx (owner := "java/lang/Enum") (x := own_y1) (y := own_y0) hown (mvT hZ (own_w hw 79 rfl)) (mvT hZ (own_w hw 80 rfl)) (mvT hZ (own_w hw 81 rfl)) (by decide) (mvT hZ (own_w hw 83 rfl)) (mvT hZ (own_w hw 82 rfl)) (backOf (W := 0) (rmOrd l Z a0 hw [] a w h0 n0 Z0 O0 u2) hZ (own_w hw 85 rfl) (own_w hw 84 rfl) (by decide) (by decide)) q1a q1c (g := (mkF m 1 #[.val (.ref a)] [(.ref a)])) rfl (by rw [hml]; rfl) (Steps.refl _) (argsL := []) (rest := []) (lenOf pd_0 rfl) rfl (by show 2 * 0 + _ ≤ _; exact Nat.le_of_eq rfl) (hb hby d1_1) (fun _ _ => ⟨rfl, e0, (by decide : 0 + 0 ≤ _), (by decide : 0 + 0 ≤ _)⟩)
  dsimp only [Pt.U, Pt.locs, Pt.cells, Pt.slots] at X1 l1 y1 z1 st1 hQ1
  subst l1 y1 z1
  obtain ⟨rfl, N1q, eh1⟩ := hQ1
  have N1 := Fr.app N0 N1q
  refine own_via st1 ?_
  refine own_go (A := T1.setTop (mkF m 142 #[.val (.ref a)] [(.int (2 : Int32))])) (fun t_ k_ => ?_) ?_
  · show Steps p.tables e below (T1.setTop (mkF m 4 #[.val (.ref a)] [(.int w)])) t_
    refine XS.tswIn X1.here hx rfl (pc0 := 4) (pc' := 128) rfl (hb hby d1_4) rfl hin (o := 124) hoff (by decide) (by decide) ?_
    show Steps p.tables e below (T1.setTop (mkF m 128 #[.val (.ref a)] [])) t_
    refine XS.iconst X1.here hx rfl (hb hby d1_128) ?_
    show Steps p.tables e below (T1.setTop (mkF m 129 #[.val (.ref a)] [(.int (2 : Int32))])) t_
    refine XS.goto X1.here hx rfl (pc0 := 129) (pc' := 142) rfl (hb hby d1_129) (by decide) (by decide) ?_
    exact k_
  obtain ⟨fs2, hr2, hrun2, hended2, hW2, hsame2⟩ := X1.leave (v := some (.int (2 : Int32))) (fun h => by rw [Bd.returns] at h; cases h)
  refine ⟨_, _, ?_, hrun2, hended2, _, _, rfl, ?_, ⟨_, rfl⟩, hW2, hsame2.mono (by decide) (by decide)⟩
  · exact own_retI X1 hx Bd.returns (hb hby d1_142) hr2
  · show Q_rmMIn124 Z a w h0 n0 _ T1.heap _
    rw [eh1]
    exact ⟨rfl, N1, rfl⟩
theorem d1_132 : decode prog_15_method_7_code 132 = .ok (.iconst 4, 1) := by decide +kernel
theorem d1_133 : decode prog_15_method_7_code 133 = .ok (.goto 9, 3) := by decide +kernel
theorem ef_rmMIn128 (m : MethodId) (a : Addr) : entryFrame m #[(.ref a)] 1 = mkF m 0 #[.val (.ref a)] [] := by first | (simp [entryFrame, mkF, argsToLocals, Value.category]; done) | rfl
def Q_rmMIn128 (Z : State) (a : Addr) (w : Int32) (h0 : Heap) (n0 : Nat) (v_ : Option Value) (h_ : Heap) (L_ : List Loc) : Prop := v_ = some (.int (4 : Int32)) ∧ Fr n0 L_ ∧ h_ = h0
set_option maxRecDepth 65536 in
set_option maxHeartbeats 40000000 in
theorem rmMIn128 (l : Launch) (Z : State) (a0 : Array Value) (hw : ∀ d ∈ tables_1, d.before a0 Z = true) (ws : List Jvm.Cond) (a : Addr) (w : Int32) (h0 : Heap) (n0 : Nat) (Z0 : n0 ≤ h0.size) (O0 : Old Z n0 h0) (u1 : Exa Z Z.heap a "com/example/querent/querent/dicom/Vr") (u2 : Fld Z Z.heap a "java/lang/Enum" "ordinal" "I" (.int w)) (hin : ¬ (w.toInt < 7 ∨ w.toInt > 33)) (hoff : (#[132, 128, 137, 137, 137, 137, 137, 137, 137, 137, 137, 137, 137, 128, 137, 124, 137, 132, 137, 137, 137, 128, 137, 137, 124, 137, 132] : Array Int)[(w.toInt - 7).toNat]? = some 128) :
    MetFree l own_y2 (head1 (Jvm.Cond.code own_y2 prog_15_method_7_code 1 (some .int) :: ws) ({ frames := 1, cells := 0, slots := 0, locals := 12 } : Room)) (fun a_ U_ => a_ = #[(.ref a)] ∧ Z.Warmed39 U_.vm ∧ U_.heap = h0) (fun _ _ _ _ _ => True) (fun _ U_ o_ U2_ => ∃ v_ L_, o_ = .returned v_ ∧ Q_rmMIn128 Z a w h0 n0 v_ U2_.heap L_ ∧ FrameEnd U_ o_ U2_ L_ ({ frames := 1, cells := 0, slots := 0, locals := 12 } : Room).cells ({ frames := 1, cells := 0, slots := 0, locals := 12 } : Room).slots) := by
  refine MetFree.of_bodySF (plainFor_of_name pn_1) hisR ?_
  intro p e s m args below meth c s₁ Bd hml0 hP hK
  obtain ⟨rfl, hZ, hh⟩ := hP
  have hx := Bd.exec
  have hby := Bd.bytes
  have hml : c.maxLocals = 1 := hml0
  have hown : s.vm.findClass "com/example/querent/querent/dicom/Vr" = some m.cls := findClass_of_methodNamed Bd.named
  have hnm := (name_of_methodNamed Bd.named Bd.method).1
  have X0 : Stand p l e ({ frames := 1, cells := 0, slots := 0, locals := 12 } : Room) s m #[(.ref a)] below meth c s₁ [] 0 0 := Stand.of_body Bd
  have e0 : s₁.heap = h0 := by rw [← hh, Bd.state]; rfl
  have N0 := Fr.nil n0
  refine own_go (A := s₁.setTop (mkF m 0 #[.val (.ref a)] [])) (fun t_ k_ => castTop (ef_rmMIn128 m a) k_) ?_
  refine own_go (A := s₁.setTop (mkF m 1 #[.val (.ref a)] [(.ref a)])) (fun t_ k_ => ?_) ?_
  · show Steps p.tables e below (s₁.setTop (mkF m 0 #[.val (.ref a)] [])) t_
    refine XS.aloadN X0.here hx rfl (hb hby d1_0) rfl rfl ?_
    exact k_
  obtain ⟨cq1, kq1, q1a, q1b, q1c⟩ := isOf hZ e0 (u1.ext O0.2)
  obtain ⟨_, _, ⟨T1, L1, k1, n1⟩, -, X1, ⟨Lc1, hQ1, l1, y1, z1⟩, st1⟩ := X0.virtualBackUp hx (owner := "java/lang/Enum") (x := own_y1) (y := own_y0) hown (mvT hZ (own_w hw 79 rfl)) (mvT hZ (own_w hw 80 rfl)) (mvT hZ (own_w hw 81 rfl)) (by decide) (mvT hZ (own_w hw 83 rfl)) (mvT hZ (own_w hw 82 rfl)) (backOf (W := 0) (rmOrd l Z a0 hw [] a w h0 n0 Z0 O0 u2) hZ (own_w hw 85 rfl) (own_w hw 84 rfl) (by decide) (by decide)) q1a q1c (g := (mkF m 1 #[.val (.ref a)] [(.ref a)])) rfl (by rw [hml]; rfl) (Steps.refl _) (argsL := []) (rest := []) (lenOf pd_0 rfl) rfl (by show 2 * 0 + _ ≤ _; exact Nat.le_of_eq rfl) (hb hby d1_1) (fun _ _ => ⟨rfl, e0, (by decide : 0 + 0 ≤ _), (by decide : 0 + 0 ≤ _)⟩)
  dsimp only [Pt.U, Pt.locs, Pt.cells, Pt.slots] at X1 l1 y1 z1 st1 hQ1
  subst l1 y1 z1
  obtain ⟨rfl, N1q, eh1⟩ := hQ1
  have N1 := Fr.app N0 N1q
  refine own_via st1 ?_
  refine own_go (A := T1.setTop (mkF m 142 #[.val (.ref a)] [(.int (4 : Int32))])) (fun t_ k_ => ?_) ?_
  · show Steps p.tables e below (T1.setTop (mkF m 4 #[.val (.ref a)] [(.int w)])) t_
    refine XS.tswIn X1.here hx rfl (pc0 := 4) (pc' := 132) rfl (hb hby d1_4) rfl hin (o := 128) hoff (by decide) (by decide) ?_
    show Steps p.tables e below (T1.setTop (mkF m 132 #[.val (.ref a)] [])) t_
    refine XS.iconst X1.here hx rfl (hb hby d1_132) ?_
    show Steps p.tables e below (T1.setTop (mkF m 133 #[.val (.ref a)] [(.int (4 : Int32))])) t_
    refine XS.goto X1.here hx rfl (pc0 := 133) (pc' := 142) rfl (hb hby d1_133) (by decide) (by decide) ?_
    exact k_
  obtain ⟨fs2, hr2, hrun2, hended2, hW2, hsame2⟩ := X1.leave (v := some (.int (4 : Int32))) (fun h => by rw [Bd.returns] at h; cases h)
  refine ⟨_, _, ?_, hrun2, hended2, _, _, rfl, ?_, ⟨_, rfl⟩, hW2, hsame2.mono (by decide) (by decide)⟩
  · exact own_retI X1 hx Bd.returns (hb hby d1_142) hr2
  · show Q_rmMIn128 Z a w h0 n0 _ T1.heap _
    rw [eh1]
    exact ⟨rfl, N1, rfl⟩
theorem d1_136 : decode prog_15_method_7_code 136 = .ok (.bipush 8, 2) := by decide +kernel
theorem d1_138 : decode prog_15_method_7_code 138 = .ok (.goto 4, 3) := by decide +kernel
theorem ef_rmMIn132 (m : MethodId) (a : Addr) : entryFrame m #[(.ref a)] 1 = mkF m 0 #[.val (.ref a)] [] := by first | (simp [entryFrame, mkF, argsToLocals, Value.category]; done) | rfl
def Q_rmMIn132 (Z : State) (a : Addr) (w : Int32) (h0 : Heap) (n0 : Nat) (v_ : Option Value) (h_ : Heap) (L_ : List Loc) : Prop := v_ = some (.int (8 : Int32)) ∧ Fr n0 L_ ∧ h_ = h0
set_option maxRecDepth 65536 in
set_option maxHeartbeats 40000000 in
theorem rmMIn132 (l : Launch) (Z : State) (a0 : Array Value) (hw : ∀ d ∈ tables_1, d.before a0 Z = true) (ws : List Jvm.Cond) (a : Addr) (w : Int32) (h0 : Heap) (n0 : Nat) (Z0 : n0 ≤ h0.size) (O0 : Old Z n0 h0) (u1 : Exa Z Z.heap a "com/example/querent/querent/dicom/Vr") (u2 : Fld Z Z.heap a "java/lang/Enum" "ordinal" "I" (.int w)) (hin : ¬ (w.toInt < 7 ∨ w.toInt > 33)) (hoff : (#[132, 128, 137, 137, 137, 137, 137, 137, 137, 137, 137, 137, 137, 128, 137, 124, 137, 132, 137, 137, 137, 128, 137, 137, 124, 137, 132] : Array Int)[(w.toInt - 7).toNat]? = some 132) :
    MetFree l own_y2 (head1 (Jvm.Cond.code own_y2 prog_15_method_7_code 1 (some .int) :: ws) ({ frames := 1, cells := 0, slots := 0, locals := 12 } : Room)) (fun a_ U_ => a_ = #[(.ref a)] ∧ Z.Warmed39 U_.vm ∧ U_.heap = h0) (fun _ _ _ _ _ => True) (fun _ U_ o_ U2_ => ∃ v_ L_, o_ = .returned v_ ∧ Q_rmMIn132 Z a w h0 n0 v_ U2_.heap L_ ∧ FrameEnd U_ o_ U2_ L_ ({ frames := 1, cells := 0, slots := 0, locals := 12 } : Room).cells ({ frames := 1, cells := 0, slots := 0, locals := 12 } : Room).slots) := by
  refine MetFree.of_bodySF (plainFor_of_name pn_1) hisR ?_
  intro p e s m args below meth c s₁ Bd hml0 hP hK
  obtain ⟨rfl, hZ, hh⟩ := hP
  have hx := Bd.exec
  have hby := Bd.bytes
  have hml : c.maxLocals = 1 := hml0
  have hown : s.vm.findClass "com/example/querent/querent/dicom/Vr" = some m.cls := findClass_of_methodNamed Bd.named
  have hnm := (name_of_methodNamed Bd.named Bd.method).1
  have X0 : Stand p l e ({ frames := 1, cells := 0, slots := 0, locals := 12 } : Room) s m #[(.ref a)] below meth c s₁ [] 0 0 := Stand.of_body Bd
  have e0 : s₁.heap = h0 := by rw [← hh, Bd.state]; rfl
  have N0 := Fr.nil n0
  refine own_go (A := s₁.setTop (mkF m 0 #[.val (.ref a)] [])) (fun t_ k_ => castTop (ef_rmMIn132 m a) k_) ?_
  refine own_go (A := s₁.setTop (mkF m 1 #[.val (.ref a)] [(.ref a)])) (fun t_ k_ => ?_) ?_
  · show Steps p.tables e below (s₁.setTop (mkF m 0 #[.val (.ref a)] [])) t_
    refine XS.aloadN X0.here hx rfl (hb hby d1_0) rfl rfl ?_
    exact k_
  obtain ⟨cq1, kq1, q1a, q1b, q1c⟩ := isOf hZ e0 (u1.ext O0.2)
  obtain ⟨_, _, ⟨T1, L1, k1, n1⟩, -, X1, ⟨Lc1, hQ1, l1, y1, z1⟩, st1⟩ := X0.virtualBackUp hx (owner := "java/lang/Enum") (x := own_y1) (y := own_y0) hown (mvT hZ (own_w hw 79 rfl)) (mvT hZ (own_w hw 80 rfl)) (mvT hZ (own_w hw 81 rfl)) (by decide) (mvT hZ (own_w hw 83 rfl)) (mvT hZ (own_w hw 82 rfl)) (backOf (W := 0) (rmOrd l Z a0 hw [] a w h0 n0 Z0 O0 u2) hZ (own_w hw 85 rfl) (own_w hw 84 rfl) (by decide) (by decide)) q1a q1c (g := (mkF m 1 #[.val (.ref a)] [(.ref a)])) rfl (by rw [hml]; rfl) (Steps.refl _) (argsL := []) (rest := []) (lenOf pd_0 rfl) rfl (by show 2 * 0 + _ ≤ _; exact Nat.le_of_eq rfl) (hb hby d1_1) (fun _ _ => ⟨rfl, e0, (by decide : 0 + 0 ≤ _), (by decide : 0 + 0 ≤ _)⟩)
  dsimp only [Pt.U, Pt.locs, Pt.cells, Pt.slots] at X1 l1 y1 z1 st1 hQ1
  subst l1 y1 z1
  obtain ⟨rfl, N1q, eh1⟩ := hQ1
  have N1 := Fr.app N0 N1q
  refine own_via st1 ?_
  refine own_go (A := T1.setTop (mkF m 142 #[.val (.ref a)] [(.int (8 : Int32))])) (fun t_ k_ => ?_) ?_
  · show Steps p.tables e below (T1.setTop (mkF m 4 #[.val (.ref a)] [(.int w)])) t_
    refine XS.tswIn X1.here hx rfl (pc0 := 4) (pc' := 136) rfl (hb hby d1_4) rfl hin (o := 132) hoff (by decide) (by decide) ?_
    show Steps p.tables e below (T1.setTop (mkF m 136 #[.val (.ref a)] [])) t_
    refine XS.bipush X1.here hx rfl (hb hby d1_136) ?_
    show Steps p.tables e below (T1.setTop (mkF m 138 #[.val (.ref a)] [(.int (8 : Int32))])) t_
    refine XS.goto X1.here hx rfl (pc0 := 138) (pc' := 142) rfl (hb hby d1_138) (by decide) (by decide) ?_
    exact k_
  obtain ⟨fs2, hr2, hrun2, hended2, hW2, hsame2⟩ := X1.leave (v := some (.int (8 : Int32))) (fun h => by rw [Bd.returns] at h; cases h)
  refine ⟨_, _, ?_, hrun2, hended2, _, _, rfl, ?_, ⟨_, rfl⟩, hW2, hsame2.mono (by decide) (by decide)⟩
  · exact own_retI X1 hx Bd.returns (hb hby d1_142) hr2
  · show Q_rmMIn132 Z a w h0 n0 _ T1.heap _
    rw [eh1]
    exact ⟨rfl, N1, rfl⟩
theorem d1_141 : decode prog_15_method_7_code 141 = .ok (.iconst 0, 1) := by decide +kernel
theorem ef_rmMIn137 (m : MethodId) (a : Addr) : entryFrame m #[(.ref a)] 1 = mkF m 0 #[.val (.ref a)] [] := by first | (simp [entryFrame, mkF, argsToLocals, Value.category]; done) | rfl
def Q_rmMIn137 (Z : State) (a : Addr) (w : Int32) (h0 : Heap) (n0 : Nat) (v_ : Option Value) (h_ : Heap) (L_ : List Loc) : Prop := v_ = some (.int (0 : Int32)) ∧ Fr n0 L_ ∧ h_ = h0
set_option maxRecDepth 65536 in
set_option maxHeartbeats 40000000 in
theorem rmMIn137 (l : Launch) (Z : State) (a0 : Array Value) (hw : ∀ d ∈ tables_1, d.before a0 Z = true) (ws : List Jvm.Cond) (a : Addr) (w : Int32) (h0 : Heap) (n0 : Nat) (Z0 : n0 ≤ h0.size) (O0 : Old Z n0 h0) (u1 : Exa Z Z.heap a "com/example/querent/querent/dicom/Vr") (u2 : Fld Z Z.heap a "java/lang/Enum" "ordinal" "I" (.int w)) (hin : ¬ (w.toInt < 7 ∨ w.toInt > 33)) (hoff : (#[132, 128, 137, 137, 137, 137, 137, 137, 137, 137, 137, 137, 137, 128, 137, 124, 137, 132, 137, 137, 137, 128, 137, 137, 124, 137, 132] : Array Int)[(w.toInt - 7).toNat]? = some 137) :
    MetFree l own_y2 (head1 (Jvm.Cond.code own_y2 prog_15_method_7_code 1 (some .int) :: ws) ({ frames := 1, cells := 0, slots := 0, locals := 12 } : Room)) (fun a_ U_ => a_ = #[(.ref a)] ∧ Z.Warmed39 U_.vm ∧ U_.heap = h0) (fun _ _ _ _ _ => True) (fun _ U_ o_ U2_ => ∃ v_ L_, o_ = .returned v_ ∧ Q_rmMIn137 Z a w h0 n0 v_ U2_.heap L_ ∧ FrameEnd U_ o_ U2_ L_ ({ frames := 1, cells := 0, slots := 0, locals := 12 } : Room).cells ({ frames := 1, cells := 0, slots := 0, locals := 12 } : Room).slots) := by
  refine MetFree.of_bodySF (plainFor_of_name pn_1) hisR ?_
  intro p e s m args below meth c s₁ Bd hml0 hP hK
  obtain ⟨rfl, hZ, hh⟩ := hP
  have hx := Bd.exec
  have hby := Bd.bytes
  have hml : c.maxLocals = 1 := hml0
  have hown : s.vm.findClass "com/example/querent/querent/dicom/Vr" = some m.cls := findClass_of_methodNamed Bd.named
  have hnm := (name_of_methodNamed Bd.named Bd.method).1
  have X0 : Stand p l e ({ frames := 1, cells := 0, slots := 0, locals := 12 } : Room) s m #[(.ref a)] below meth c s₁ [] 0 0 := Stand.of_body Bd
  have e0 : s₁.heap = h0 := by rw [← hh, Bd.state]; rfl
  have N0 := Fr.nil n0
  refine own_go (A := s₁.setTop (mkF m 0 #[.val (.ref a)] [])) (fun t_ k_ => castTop (ef_rmMIn137 m a) k_) ?_
  refine own_go (A := s₁.setTop (mkF m 1 #[.val (.ref a)] [(.ref a)])) (fun t_ k_ => ?_) ?_
  · show Steps p.tables e below (s₁.setTop (mkF m 0 #[.val (.ref a)] [])) t_
    refine XS.aloadN X0.here hx rfl (hb hby d1_0) rfl rfl ?_
    exact k_
  obtain ⟨cq1, kq1, q1a, q1b, q1c⟩ := isOf hZ e0 (u1.ext O0.2)
  obtain ⟨_, _, ⟨T1, L1, k1, n1⟩, -, X1, ⟨Lc1, hQ1, l1, y1, z1⟩, st1⟩ := X0.virtualBackUp hx (owner := "java/lang/Enum") (x := own_y1) (y := own_y0) hown (mvT hZ (own_w hw 79 rfl)) (mvT hZ (own_w hw 80 rfl)) (mvT hZ (own_w hw 81 rfl)) (by decide) (mvT hZ (own_w hw 83 rfl)) (mvT hZ (own_w hw 82 rfl)) (backOf (W := 0) (rmOrd l Z a0 hw [] a w h0 n0 Z0 O0 u2) hZ (own_w hw 85 rfl) (own_w hw 84 rfl) (by decide) (by decide)) q1a q1c (g := (mkF m 1 #[.val (.ref a)] [(.ref a)])) rfl (by rw [hml]; rfl) (Steps.refl _) (argsL := []) (rest := []) (lenOf pd_0 rfl) rfl (by show 2 * 0 + _ ≤ _; exact Nat.le_of_eq rfl) (hb hby d1_1) (fun _ _ => ⟨rfl, e0, (by decide : 0 + 0 ≤ _), (by decide : 0 + 0 ≤ _)⟩)
  dsimp only [Pt.U, Pt.locs, Pt.cells, Pt.slots] at X1 l1 y1 z1 st1 hQ1
  subst l1 y1 z1
  obtain ⟨rfl, N1q, eh1⟩ := hQ1
  have N1 := Fr.app N0 N1q
  refine own_via st1 ?_
  refine own_go (A := T1.setTop (mkF m 142 #[.val (.ref a)] [(.int (0 : Int32))])) (fun t_ k_ => ?_) ?_
  · show Steps p.tables e below (T1.setTop (mkF m 4 #[.val (.ref a)] [(.int w)])) t_
    refine XS.tswIn X1.here hx rfl (pc0 := 4) (pc' := 141) rfl (hb hby d1_4) rfl hin (o := 137) hoff (by decide) (by decide) ?_
    show Steps p.tables e below (T1.setTop (mkF m 141 #[.val (.ref a)] [])) t_
    refine XS.iconst X1.here hx rfl (hb hby d1_141) ?_
    exact k_
  obtain ⟨fs2, hr2, hrun2, hended2, hW2, hsame2⟩ := X1.leave (v := some (.int (0 : Int32))) (fun h => by rw [Bd.returns] at h; cases h)
  refine ⟨_, _, ?_, hrun2, hended2, _, _, rfl, ?_, ⟨_, rfl⟩, hW2, hsame2.mono (by decide) (by decide)⟩
  · exact own_retI X1 hx Bd.returns (hb hby d1_142) hr2
  · show Q_rmMIn137 Z a w h0 n0 _ T1.heap _
    rw [eh1]
    exact ⟨rfl, N1, rfl⟩
theorem ef_rmMOut (m : MethodId) (a : Addr) : entryFrame m #[(.ref a)] 1 = mkF m 0 #[.val (.ref a)] [] := by first | (simp [entryFrame, mkF, argsToLocals, Value.category]; done) | rfl
def Q_rmMOut (Z : State) (a : Addr) (w : Int32) (h0 : Heap) (n0 : Nat) (v_ : Option Value) (h_ : Heap) (L_ : List Loc) : Prop := v_ = some (.int (0 : Int32)) ∧ Fr n0 L_ ∧ h_ = h0
set_option maxRecDepth 65536 in
set_option maxHeartbeats 40000000 in
theorem rmMOut (l : Launch) (Z : State) (a0 : Array Value) (hw : ∀ d ∈ tables_1, d.before a0 Z = true) (ws : List Jvm.Cond) (a : Addr) (w : Int32) (h0 : Heap) (n0 : Nat) (Z0 : n0 ≤ h0.size) (O0 : Old Z n0 h0) (u1 : Exa Z Z.heap a "com/example/querent/querent/dicom/Vr") (u2 : Fld Z Z.heap a "java/lang/Enum" "ordinal" "I" (.int w)) (hout : w.toInt < 7 ∨ w.toInt > 33) :
    MetFree l own_y2 (head1 (Jvm.Cond.code own_y2 prog_15_method_7_code 1 (some .int) :: ws) ({ frames := 1, cells := 0, slots := 0, locals := 12 } : Room)) (fun a_ U_ => a_ = #[(.ref a)] ∧ Z.Warmed39 U_.vm ∧ U_.heap = h0) (fun _ _ _ _ _ => True) (fun _ U_ o_ U2_ => ∃ v_ L_, o_ = .returned v_ ∧ Q_rmMOut Z a w h0 n0 v_ U2_.heap L_ ∧ FrameEnd U_ o_ U2_ L_ ({ frames := 1, cells := 0, slots := 0, locals := 12 } : Room).cells ({ frames := 1, cells := 0, slots := 0, locals := 12 } : Room).slots) := by
  refine MetFree.of_bodySF (plainFor_of_name pn_1) hisR ?_
  intro p e s m args below meth c s₁ Bd hml0 hP hK
  obtain ⟨rfl, hZ, hh⟩ := hP
  have hx := Bd.exec
  have hby := Bd.bytes
  have hml : c.maxLocals = 1 := hml0
  have hown : s.vm.findClass "com/example/querent/querent/dicom/Vr" = some m.cls := findClass_of_methodNamed Bd.named
  have hnm := (name_of_methodNamed Bd.named Bd.method).1
  have X0 : Stand p l e ({ frames := 1, cells := 0, slots := 0, locals := 12 } : Room) s m #[(.ref a)] below meth c s₁ [] 0 0 := Stand.of_body Bd
  have e0 : s₁.heap = h0 := by rw [← hh, Bd.state]; rfl
  have N0 := Fr.nil n0
  refine own_go (A := s₁.setTop (mkF m 0 #[.val (.ref a)] [])) (fun t_ k_ => castTop (ef_rmMOut m a) k_) ?_
  refine own_go (A := s₁.setTop (mkF m 1 #[.val (.ref a)] [(.ref a)])) (fun t_ k_ => ?_) ?_
  · show Steps p.tables e below (s₁.setTop (mkF m 0 #[.val (.ref a)] [])) t_
    refine XS.aloadN X0.here hx rfl (hb hby d1_0) rfl rfl ?_
    exact k_
  obtain ⟨cq1, kq1, q1a, q1b, q1c⟩ := isOf hZ e0 (u1.ext O0.2)
  obtain ⟨_, _, ⟨T1, L1, k1, n1⟩, -, X1, ⟨Lc1, hQ1, l1, y1, z1⟩, st1⟩ := X0.virtualBackUp hx (owner := "java/lang/Enum") (x := own_y1) (y := own_y0) hown (mvT hZ (own_w hw 79 rfl)) (mvT hZ (own_w hw 80 rfl)) (mvT hZ (own_w hw 81 rfl)) (by decide) (mvT hZ (own_w hw 83 rfl)) (mvT hZ (own_w hw 82 rfl)) (backOf (W := 0) (rmOrd l Z a0 hw [] a w h0 n0 Z0 O0 u2) hZ (own_w hw 85 rfl) (own_w hw 84 rfl) (by decide) (by decide)) q1a q1c (g := (mkF m 1 #[.val (.ref a)] [(.ref a)])) rfl (by rw [hml]; rfl) (Steps.refl _) (argsL := []) (rest := []) (lenOf pd_0 rfl) rfl (by show 2 * 0 + _ ≤ _; exact Nat.le_of_eq rfl) (hb hby d1_1) (fun _ _ => ⟨rfl, e0, (by decide : 0 + 0 ≤ _), (by decide : 0 + 0 ≤ _)⟩)
  dsimp only [Pt.U, Pt.locs, Pt.cells, Pt.slots] at X1 l1 y1 z1 st1 hQ1
  subst l1 y1 z1
  obtain ⟨rfl, N1q, eh1⟩ := hQ1
  have N1 := Fr.app N0 N1q
  refine own_via st1 ?_
  refine own_go (A := T1.setTop (mkF m 142 #[.val (.ref a)] [(.int (0 : Int32))])) (fun t_ k_ => ?_) ?_
  · show Steps p.tables e below (T1.setTop (mkF m 4 #[.val (.ref a)] [(.int w)])) t_
    refine XS.tswOut X1.here hx rfl (pc0 := 4) (pc' := 141) rfl (hb hby d1_4) rfl hout (by decide) (by decide) ?_
    show Steps p.tables e below (T1.setTop (mkF m 141 #[.val (.ref a)] [])) t_
    refine XS.iconst X1.here hx rfl (hb hby d1_141) ?_
    exact k_
  obtain ⟨fs2, hr2, hrun2, hended2, hW2, hsame2⟩ := X1.leave (v := some (.int (0 : Int32))) (fun h => by rw [Bd.returns] at h; cases h)
  refine ⟨_, _, ?_, hrun2, hended2, _, _, rfl, ?_, ⟨_, rfl⟩, hW2, hsame2.mono (by decide) (by decide)⟩
  · exact own_retI X1 hx Bd.returns (hb hby d1_142) hr2
  · show Q_rmMOut Z a w h0 n0 _ T1.heap _
    rw [eh1]
    exact ⟨rfl, N1, rfl⟩
theorem own_mod34 (p : Int32) : ((p &&& (2147483647 : Int32)) % (34 : Int32)) = (0 : Int32) ∨ ((p &&& (2147483647 : Int32)) % (34 : Int32)) = (1 : Int32) ∨ ((p &&& (2147483647 : Int32)) % (34 : Int32)) = (2 : Int32) ∨ ((p &&& (2147483647 : Int32)) % (34 : Int32)) = (3 : Int32) ∨ ((p &&& (2147483647 : Int32)) % (34 : Int32)) = (4 : Int32) ∨ ((p &&& (2147483647 : Int32)) % (34 : Int32)) = (5 : Int32) ∨ ((p &&& (2147483647 : Int32)) % (34 : Int32)) = (6 : Int32) ∨ ((p &&& (2147483647 : Int32)) % (34 : Int32)) = (7 : Int32) ∨ ((p &&& (2147483647 : Int32)) % (34 : Int32)) = (8 : Int32) ∨ ((p &&& (2147483647 : Int32)) % (34 : Int32)) = (9 : Int32) ∨ ((p &&& (2147483647 : Int32)) % (34 : Int32)) = (10 : Int32) ∨ ((p &&& (2147483647 : Int32)) % (34 : Int32)) = (11 : Int32) ∨ ((p &&& (2147483647 : Int32)) % (34 : Int32)) = (12 : Int32) ∨ ((p &&& (2147483647 : Int32)) % (34 : Int32)) = (13 : Int32) ∨ ((p &&& (2147483647 : Int32)) % (34 : Int32)) = (14 : Int32) ∨ ((p &&& (2147483647 : Int32)) % (34 : Int32)) = (15 : Int32) ∨ ((p &&& (2147483647 : Int32)) % (34 : Int32)) = (16 : Int32) ∨ ((p &&& (2147483647 : Int32)) % (34 : Int32)) = (17 : Int32) ∨ ((p &&& (2147483647 : Int32)) % (34 : Int32)) = (18 : Int32) ∨ ((p &&& (2147483647 : Int32)) % (34 : Int32)) = (19 : Int32) ∨ ((p &&& (2147483647 : Int32)) % (34 : Int32)) = (20 : Int32) ∨ ((p &&& (2147483647 : Int32)) % (34 : Int32)) = (21 : Int32) ∨ ((p &&& (2147483647 : Int32)) % (34 : Int32)) = (22 : Int32) ∨ ((p &&& (2147483647 : Int32)) % (34 : Int32)) = (23 : Int32) ∨ ((p &&& (2147483647 : Int32)) % (34 : Int32)) = (24 : Int32) ∨ ((p &&& (2147483647 : Int32)) % (34 : Int32)) = (25 : Int32) ∨ ((p &&& (2147483647 : Int32)) % (34 : Int32)) = (26 : Int32) ∨ ((p &&& (2147483647 : Int32)) % (34 : Int32)) = (27 : Int32) ∨ ((p &&& (2147483647 : Int32)) % (34 : Int32)) = (28 : Int32) ∨ ((p &&& (2147483647 : Int32)) % (34 : Int32)) = (29 : Int32) ∨ ((p &&& (2147483647 : Int32)) % (34 : Int32)) = (30 : Int32) ∨ ((p &&& (2147483647 : Int32)) % (34 : Int32)) = (31 : Int32) ∨ ((p &&& (2147483647 : Int32)) % (34 : Int32)) = (32 : Int32) ∨ ((p &&& (2147483647 : Int32)) % (34 : Int32)) = (33 : Int32) := by
  have h1 := c_and p 2147483647 (by decide)
  have h2 := (c_irem (p &&& 2147483647) 34 34 (by decide)).1 h1.1
  have h3 : ((p &&& (2147483647 : Int32)) % (34 : Int32)).toInt = 0 ∨ ((p &&& (2147483647 : Int32)) % (34 : Int32)).toInt = 1 ∨ ((p &&& (2147483647 : Int32)) % (34 : Int32)).toInt = 2 ∨ ((p &&& (2147483647 : Int32)) % (34 : Int32)).toInt = 3 ∨ ((p &&& (2147483647 : Int32)) % (34 : Int32)).toInt = 4 ∨ ((p &&& (2147483647 : Int32)) % (34 : Int32)).toInt = 5 ∨ ((p &&& (2147483647 : Int32)) % (34 : Int32)).toInt = 6 ∨ ((p &&& (2147483647 : Int32)) % (34 : Int32)).toInt = 7 ∨ ((p &&& (2147483647 : Int32)) % (34 : Int32)).toInt = 8 ∨ ((p &&& (2147483647 : Int32)) % (34 : Int32)).toInt = 9 ∨ ((p &&& (2147483647 : Int32)) % (34 : Int32)).toInt = 10 ∨ ((p &&& (2147483647 : Int32)) % (34 : Int32)).toInt = 11 ∨ ((p &&& (2147483647 : Int32)) % (34 : Int32)).toInt = 12 ∨ ((p &&& (2147483647 : Int32)) % (34 : Int32)).toInt = 13 ∨ ((p &&& (2147483647 : Int32)) % (34 : Int32)).toInt = 14 ∨ ((p &&& (2147483647 : Int32)) % (34 : Int32)).toInt = 15 ∨ ((p &&& (2147483647 : Int32)) % (34 : Int32)).toInt = 16 ∨ ((p &&& (2147483647 : Int32)) % (34 : Int32)).toInt = 17 ∨ ((p &&& (2147483647 : Int32)) % (34 : Int32)).toInt = 18 ∨ ((p &&& (2147483647 : Int32)) % (34 : Int32)).toInt = 19 ∨ ((p &&& (2147483647 : Int32)) % (34 : Int32)).toInt = 20 ∨ ((p &&& (2147483647 : Int32)) % (34 : Int32)).toInt = 21 ∨ ((p &&& (2147483647 : Int32)) % (34 : Int32)).toInt = 22 ∨ ((p &&& (2147483647 : Int32)) % (34 : Int32)).toInt = 23 ∨ ((p &&& (2147483647 : Int32)) % (34 : Int32)).toInt = 24 ∨ ((p &&& (2147483647 : Int32)) % (34 : Int32)).toInt = 25 ∨ ((p &&& (2147483647 : Int32)) % (34 : Int32)).toInt = 26 ∨ ((p &&& (2147483647 : Int32)) % (34 : Int32)).toInt = 27 ∨ ((p &&& (2147483647 : Int32)) % (34 : Int32)).toInt = 28 ∨ ((p &&& (2147483647 : Int32)) % (34 : Int32)).toInt = 29 ∨ ((p &&& (2147483647 : Int32)) % (34 : Int32)).toInt = 30 ∨ ((p &&& (2147483647 : Int32)) % (34 : Int32)).toInt = 31 ∨ ((p &&& (2147483647 : Int32)) % (34 : Int32)).toInt = 32 ∨ ((p &&& (2147483647 : Int32)) % (34 : Int32)).toInt = 33 := by omega
  rcases h3 with h | h | h | h | h | h | h | h | h | h | h | h | h | h | h | h | h | h | h | h | h | h | h | h | h | h | h | h | h | h | h | h | h | h
  · exact Or.inl (Int32.toInt_inj.mp (h.trans (by decide)))
  · exact Or.inr (Or.inl (Int32.toInt_inj.mp (h.trans (by decide))))
  · exact Or.inr (Or.inr (Or.inl (Int32.toInt_inj.mp (h.trans (by decide)))))
  · exact Or.inr (Or.inr (Or.inr (Or.inl (Int32.toInt_inj.mp (h.trans (by decide))))))
  · exact Or.inr (Or.inr (Or.inr (Or.inr (Or.inl (Int32.toInt_inj.mp (h.trans (by decide)))))))
  · exact Or.inr (Or.inr (Or.inr (Or.inr (Or.inr (Or.inl (Int32.toInt_inj.mp (h.trans (by decide))))))))
  · exact Or.inr (Or.inr (Or.inr (Or.inr (Or.inr (Or.inr (Or.inl (Int32.toInt_inj.mp (h.trans (by decide)))))))))
  · exact Or.inr (Or.inr (Or.inr (Or.inr (Or.inr (Or.inr (Or.inr (Or.inl (Int32.toInt_inj.mp (h.trans (by decide))))))))))
  · exact Or.inr (Or.inr (Or.inr (Or.inr (Or.inr (Or.inr (Or.inr (Or.inr (Or.inl (Int32.toInt_inj.mp (h.trans (by decide)))))))))))
  · exact Or.inr (Or.inr (Or.inr (Or.inr (Or.inr (Or.inr (Or.inr (Or.inr (Or.inr (Or.inl (Int32.toInt_inj.mp (h.trans (by decide))))))))))))
  · exact Or.inr (Or.inr (Or.inr (Or.inr (Or.inr (Or.inr (Or.inr (Or.inr (Or.inr (Or.inr (Or.inl (Int32.toInt_inj.mp (h.trans (by decide)))))))))))))
  · exact Or.inr (Or.inr (Or.inr (Or.inr (Or.inr (Or.inr (Or.inr (Or.inr (Or.inr (Or.inr (Or.inr (Or.inl (Int32.toInt_inj.mp (h.trans (by decide))))))))))))))
  · exact Or.inr (Or.inr (Or.inr (Or.inr (Or.inr (Or.inr (Or.inr (Or.inr (Or.inr (Or.inr (Or.inr (Or.inr (Or.inl (Int32.toInt_inj.mp (h.trans (by decide)))))))))))))))
  · exact Or.inr (Or.inr (Or.inr (Or.inr (Or.inr (Or.inr (Or.inr (Or.inr (Or.inr (Or.inr (Or.inr (Or.inr (Or.inr (Or.inl (Int32.toInt_inj.mp (h.trans (by decide))))))))))))))))
  · exact Or.inr (Or.inr (Or.inr (Or.inr (Or.inr (Or.inr (Or.inr (Or.inr (Or.inr (Or.inr (Or.inr (Or.inr (Or.inr (Or.inr (Or.inl (Int32.toInt_inj.mp (h.trans (by decide)))))))))))))))))
  · exact Or.inr (Or.inr (Or.inr (Or.inr (Or.inr (Or.inr (Or.inr (Or.inr (Or.inr (Or.inr (Or.inr (Or.inr (Or.inr (Or.inr (Or.inr (Or.inl (Int32.toInt_inj.mp (h.trans (by decide))))))))))))))))))
  · exact Or.inr (Or.inr (Or.inr (Or.inr (Or.inr (Or.inr (Or.inr (Or.inr (Or.inr (Or.inr (Or.inr (Or.inr (Or.inr (Or.inr (Or.inr (Or.inr (Or.inl (Int32.toInt_inj.mp (h.trans (by decide)))))))))))))))))))
  · exact Or.inr (Or.inr (Or.inr (Or.inr (Or.inr (Or.inr (Or.inr (Or.inr (Or.inr (Or.inr (Or.inr (Or.inr (Or.inr (Or.inr (Or.inr (Or.inr (Or.inr (Or.inl (Int32.toInt_inj.mp (h.trans (by decide))))))))))))))))))))
  · exact Or.inr (Or.inr (Or.inr (Or.inr (Or.inr (Or.inr (Or.inr (Or.inr (Or.inr (Or.inr (Or.inr (Or.inr (Or.inr (Or.inr (Or.inr (Or.inr (Or.inr (Or.inr (Or.inl (Int32.toInt_inj.mp (h.trans (by decide)))))))))))))))))))))
  · exact Or.inr (Or.inr (Or.inr (Or.inr (Or.inr (Or.inr (Or.inr (Or.inr (Or.inr (Or.inr (Or.inr (Or.inr (Or.inr (Or.inr (Or.inr (Or.inr (Or.inr (Or.inr (Or.inr (Or.inl (Int32.toInt_inj.mp (h.trans (by decide))))))))))))))))))))))
  · exact Or.inr (Or.inr (Or.inr (Or.inr (Or.inr (Or.inr (Or.inr (Or.inr (Or.inr (Or.inr (Or.inr (Or.inr (Or.inr (Or.inr (Or.inr (Or.inr (Or.inr (Or.inr (Or.inr (Or.inr (Or.inl (Int32.toInt_inj.mp (h.trans (by decide)))))))))))))))))))))))
  · exact Or.inr (Or.inr (Or.inr (Or.inr (Or.inr (Or.inr (Or.inr (Or.inr (Or.inr (Or.inr (Or.inr (Or.inr (Or.inr (Or.inr (Or.inr (Or.inr (Or.inr (Or.inr (Or.inr (Or.inr (Or.inr (Or.inl (Int32.toInt_inj.mp (h.trans (by decide))))))))))))))))))))))))
  · exact Or.inr (Or.inr (Or.inr (Or.inr (Or.inr (Or.inr (Or.inr (Or.inr (Or.inr (Or.inr (Or.inr (Or.inr (Or.inr (Or.inr (Or.inr (Or.inr (Or.inr (Or.inr (Or.inr (Or.inr (Or.inr (Or.inr (Or.inl (Int32.toInt_inj.mp (h.trans (by decide)))))))))))))))))))))))))
  · exact Or.inr (Or.inr (Or.inr (Or.inr (Or.inr (Or.inr (Or.inr (Or.inr (Or.inr (Or.inr (Or.inr (Or.inr (Or.inr (Or.inr (Or.inr (Or.inr (Or.inr (Or.inr (Or.inr (Or.inr (Or.inr (Or.inr (Or.inr (Or.inl (Int32.toInt_inj.mp (h.trans (by decide))))))))))))))))))))))))))
  · exact Or.inr (Or.inr (Or.inr (Or.inr (Or.inr (Or.inr (Or.inr (Or.inr (Or.inr (Or.inr (Or.inr (Or.inr (Or.inr (Or.inr (Or.inr (Or.inr (Or.inr (Or.inr (Or.inr (Or.inr (Or.inr (Or.inr (Or.inr (Or.inr (Or.inl (Int32.toInt_inj.mp (h.trans (by decide)))))))))))))))))))))))))))
  · exact Or.inr (Or.inr (Or.inr (Or.inr (Or.inr (Or.inr (Or.inr (Or.inr (Or.inr (Or.inr (Or.inr (Or.inr (Or.inr (Or.inr (Or.inr (Or.inr (Or.inr (Or.inr (Or.inr (Or.inr (Or.inr (Or.inr (Or.inr (Or.inr (Or.inr (Or.inl (Int32.toInt_inj.mp (h.trans (by decide))))))))))))))))))))))))))))
  · exact Or.inr (Or.inr (Or.inr (Or.inr (Or.inr (Or.inr (Or.inr (Or.inr (Or.inr (Or.inr (Or.inr (Or.inr (Or.inr (Or.inr (Or.inr (Or.inr (Or.inr (Or.inr (Or.inr (Or.inr (Or.inr (Or.inr (Or.inr (Or.inr (Or.inr (Or.inr (Or.inl (Int32.toInt_inj.mp (h.trans (by decide)))))))))))))))))))))))))))))
  · exact Or.inr (Or.inr (Or.inr (Or.inr (Or.inr (Or.inr (Or.inr (Or.inr (Or.inr (Or.inr (Or.inr (Or.inr (Or.inr (Or.inr (Or.inr (Or.inr (Or.inr (Or.inr (Or.inr (Or.inr (Or.inr (Or.inr (Or.inr (Or.inr (Or.inr (Or.inr (Or.inr (Or.inl (Int32.toInt_inj.mp (h.trans (by decide))))))))))))))))))))))))))))))
  · exact Or.inr (Or.inr (Or.inr (Or.inr (Or.inr (Or.inr (Or.inr (Or.inr (Or.inr (Or.inr (Or.inr (Or.inr (Or.inr (Or.inr (Or.inr (Or.inr (Or.inr (Or.inr (Or.inr (Or.inr (Or.inr (Or.inr (Or.inr (Or.inr (Or.inr (Or.inr (Or.inr (Or.inr (Or.inl (Int32.toInt_inj.mp (h.trans (by decide)))))))))))))))))))))))))))))))
  · exact Or.inr (Or.inr (Or.inr (Or.inr (Or.inr (Or.inr (Or.inr (Or.inr (Or.inr (Or.inr (Or.inr (Or.inr (Or.inr (Or.inr (Or.inr (Or.inr (Or.inr (Or.inr (Or.inr (Or.inr (Or.inr (Or.inr (Or.inr (Or.inr (Or.inr (Or.inr (Or.inr (Or.inr (Or.inr (Or.inl (Int32.toInt_inj.mp (h.trans (by decide))))))))))))))))))))))))))))))))
  · exact Or.inr (Or.inr (Or.inr (Or.inr (Or.inr (Or.inr (Or.inr (Or.inr (Or.inr (Or.inr (Or.inr (Or.inr (Or.inr (Or.inr (Or.inr (Or.inr (Or.inr (Or.inr (Or.inr (Or.inr (Or.inr (Or.inr (Or.inr (Or.inr (Or.inr (Or.inr (Or.inr (Or.inr (Or.inr (Or.inr (Or.inl (Int32.toInt_inj.mp (h.trans (by decide)))))))))))))))))))))))))))))))))
  · exact Or.inr (Or.inr (Or.inr (Or.inr (Or.inr (Or.inr (Or.inr (Or.inr (Or.inr (Or.inr (Or.inr (Or.inr (Or.inr (Or.inr (Or.inr (Or.inr (Or.inr (Or.inr (Or.inr (Or.inr (Or.inr (Or.inr (Or.inr (Or.inr (Or.inr (Or.inr (Or.inr (Or.inr (Or.inr (Or.inr (Or.inr (Or.inl (Int32.toInt_inj.mp (h.trans (by decide))))))))))))))))))))))))))))))))))
  · exact Or.inr (Or.inr (Or.inr (Or.inr (Or.inr (Or.inr (Or.inr (Or.inr (Or.inr (Or.inr (Or.inr (Or.inr (Or.inr (Or.inr (Or.inr (Or.inr (Or.inr (Or.inr (Or.inr (Or.inr (Or.inr (Or.inr (Or.inr (Or.inr (Or.inr (Or.inr (Or.inr (Or.inr (Or.inr (Or.inr (Or.inr (Or.inr (Or.inl (Int32.toInt_inj.mp (h.trans (by decide)))))))))))))))))))))))))))))))))))
  · exact Or.inr (Or.inr (Or.inr (Or.inr (Or.inr (Or.inr (Or.inr (Or.inr (Or.inr (Or.inr (Or.inr (Or.inr (Or.inr (Or.inr (Or.inr (Or.inr (Or.inr (Or.inr (Or.inr (Or.inr (Or.inr (Or.inr (Or.inr (Or.inr (Or.inr (Or.inr (Or.inr (Or.inr (Or.inr (Or.inr (Or.inr (Or.inr (Or.inr (Int32.toInt_inj.mp (h.trans (by decide)))))))))))))))))))))))))))))))))))
def Q_rm0 (Z : State) (p1 : Int32) (ad0 : Addr) (ad1 : Addr) (ad2 : Addr) (ad3 : Addr) (ad4 : Addr) (ad5 : Addr) (ad6 : Addr) (ad7 : Addr) (ad8 : Addr) (ad9 : Addr) (ad10 : Addr) (ad11 : Addr) (ad12 : Addr) (ad13 : Addr) (ad14 : Addr) (ad15 : Addr) (ad16 : Addr) (ad17 : Addr) (ad18 : Addr) (ad19 : Addr) (ad20 : Addr) (ad21 : Addr) (ad22 : Addr) (ad23 : Addr) (ad24 : Addr) (ad25 : Addr) (ad26 : Addr) (ad27 : Addr) (ad28 : Addr) (ad29 : Addr) (ad30 : Addr) (ad31 : Addr) (ad32 : Addr) (ad33 : Addr) (h0 : Heap) (n0 : Nat) (v_ : Option Value) (h_ : Heap) (L_ : List Loc) : Prop := v_ = some (.int (1 : Int32)) ∧ Fr n0 L_ ∧ Keep h0 h_ []
set_option maxRecDepth 65536 in
set_option maxHeartbeats 40000000 in
theorem own_sufad0 (l : Launch) (Z : State) (a0 : Array Value) (hw : ∀ d ∈ tables_1, d.before a0 Z = true) (p1 : Int32) (ad0 : Addr) (ad1 : Addr) (ad2 : Addr) (ad3 : Addr) (ad4 : Addr) (ad5 : Addr) (ad6 : Addr) (ad7 : Addr) (ad8 : Addr) (ad9 : Addr) (ad10 : Addr) (ad11 : Addr) (ad12 : Addr) (ad13 : Addr) (ad14 : Addr) (ad15 : Addr) (ad16 : Addr) (ad17 : Addr) (ad18 : Addr) (ad19 : Addr) (ad20 : Addr) (ad21 : Addr) (ad22 : Addr) (ad23 : Addr) (ad24 : Addr) (ad25 : Addr) (ad26 : Addr) (ad27 : Addr) (ad28 : Addr) (ad29 : Addr) (ad30 : Addr) (ad31 : Addr) (ad32 : Addr) (ad33 : Addr) (b1 : Addr) (b104 : Addr) (k104 : ClassId) (h0 : Heap) (n0 : Nat) (Z0 : n0 ≤ h0.size) {p : Program} {e : Env} {s : State} {m : MethodId} {below : List Frame} {meth : Method} {c : Code} {Tc : State} {Hc : Heap} {locsc : List Loc} (Xc : Stand p l e room_1 s m #[(.int p1)] below meth c Tc locsc 2 68) (hx : p.tables.exec = Jvm.exec) (hZ : Z.Warmed39 s.vm) (hby : c.code = code) (hml : c.maxLocals = 4) (hown : s.vm.findClass "com/example/querent/querent/dicom/VrBinaryNumberLengthPinLaw" = some m.cls) (hret : meth.sig.returnType = some .boolean) (hlk : meth.locks = false) (hh : s.heap = h0) (ec : Tc.heap = Hc) (Nc : Fr n0 locsc) (Kc0 : Keep h0 Hc []) (Oc : Old Z n0 Hc) (zc0 : Exa Z Z.heap ad0 "com/example/querent/querent/dicom/Vr") (zc1 : Fld Z Z.heap ad0 "java/lang/Enum" "ordinal" "I" (.int (0 : Int32))) (zc2 : Arv Z Hc b104 k104 .int (34 : Int32) [(.int (0 : Int32)), (.int (0 : Int32)), (.int (0 : Int32)), (.int (0 : Int32)), (.int (0 : Int32)), (.int (0 : Int32)), (.int (0 : Int32)), (.int (8 : Int32)), (.int (4 : Int32)), (.int (0 : Int32)), (.int (0 : Int32)), (.int (0 : Int32)), (.int (0 : Int32)), (.int (0 : Int32)), (.int (0 : Int32)), (.int (0 : Int32)), (.int (0 : Int32)), (.int (0 : Int32)), (.int (0 : Int32)), (.int (0 : Int32)), (.int (4 : Int32)), (.int (0 : Int32)), (.int (2 : Int32)), (.int (0 : Int32)), (.int (8 : Int32)), (.int (0 : Int32)), (.int (0 : Int32)), (.int (0 : Int32)), (.int (4 : Int32)), (.int (0 : Int32)), (.int (0 : Int32)), (.int (2 : Int32)), (.int (0 : Int32)), (.int (8 : Int32))] (.int (0 : Int32))) (gc3 : n0 ≤ b104) (sc3 : h0.size ≤ b104) :
    ∃ U_ o_, Steps p.tables e below (Tc.setTop (mkF m 421 #[.val (.int p1), .val (.ref b1), .val (.ref b104), .val (.int (0 : Int32))] [(.ref ad0)])) U_ ∧ U_.status = .running ∧ Ended U_ below o_ ∧ (∃ v_ L_, o_ = .returned v_ ∧ Q_rm0 Z p1 ad0 ad1 ad2 ad3 ad4 ad5 ad6 ad7 ad8 ad9 ad10 ad11 ad12 ad13 ad14 ad15 ad16 ad17 ad18 ad19 ad20 ad21 ad22 ad23 ad24 ad25 ad26 ad27 ad28 ad29 ad30 ad31 ad32 ad33 h0 n0 v_ U_.heap L_ ∧ FrameEnd s o_ U_ L_ room_1.cells room_1.slots) := by
  obtain ⟨cq177, kq177, q177a, q177b, q177c⟩ := isOf hZ ec (zc0.ext Oc.2)
  obtain ⟨_, _, ⟨T177, L177, k177, n177⟩, -, X177, ⟨Lc177, hQ177, l177, y177, z177⟩, st177⟩ := Xc.virtualBack hx (y := own_y2) (z := own_y2) hown (mvT hZ (own_w hw 74 rfl)) (mvT hZ (own_w hw 75 rfl)) (notFace_of_selects (args := #[]) (mvT hZ (own_w hw 77 rfl))) (mvT hZ (own_w hw 77 rfl)) (mvT hZ (own_w hw 76 rfl)) (by decide) (backOf (W := 0) (rmMOut l Z a0 hw [] ad0 (0 : Int32) Hc n0 (Nat.le_trans Z0 Kc0.1) Oc zc0 zc1 (by decide)) hZ (own_w hw 78 rfl) (own_w hw 3 rfl) (by decide) (by decide)) q177a q177c (g := (mkF m 421 #[.val (.int p1), .val (.ref b1), .val (.ref b104), .val (.int (0 : Int32))] [(.ref ad0)])) rfl (by rw [hml]; rfl) (Steps.refl _) (argsL := []) (rest := []) (lenOf pd_0 rfl) rfl (by show 2 * 0 + _ ≤ _; exact Nat.le_of_eq rfl) (hb hby at_421) (fun _ _ => ⟨rfl, ec, (by decide : 2 + 0 ≤ _), (by decide : 68 + 0 ≤ _)⟩)
  dsimp only [Pt.U, Pt.locs, Pt.cells, Pt.slots] at X177 l177 y177 z177 st177 hQ177
  subst l177 y177 z177
  obtain ⟨rfl, N177q, eh177⟩ := hQ177
  have N177 := Fr.app Nc N177q
  refine own_via st177 ?_
  obtain ⟨cl178, Ar178, q178, S178, M178, H178, G178⟩ := id zc2
  have hin178 : ¬ ((0 : Int32) < 0 ∨ cl178.slots.size ≤ ((0 : Int32)).toNatClampNeg) := inb_of S178 ⟨by decide, by decide⟩
  have hat178 : cl178.slots[((0 : Int32)).toNatClampNeg]? = some (.int (0 : Int32)) := Has.at H178 hin178 rfl
  refine own_go (A := T177.setTop (mkF m 435 #[.val (.int p1), .val (.ref b1), .val (.ref b104), .val (.int (0 : Int32))] [(.int (1 : Int32))])) (fun t_ k_ => ?_) ?_
  · show Steps p.tables e below (T177.setTop (mkF m 424 #[.val (.int p1), .val (.ref b1), .val (.ref b104), .val (.int (0 : Int32))] [(.int (0 : Int32))])) t_
    refine XS.aloadN X177.here hx rfl (hb hby at_424) rfl rfl ?_
    show Steps p.tables e below (T177.setTop (mkF m 425 #[.val (.int p1), .val (.ref b1), .val (.ref b104), .val (.int (0 : Int32))] [(.ref b104), (.int (0 : Int32))])) t_
    refine XS.iloadN X177.here hx rfl (hb hby at_425) rfl ?_
    show Steps p.tables e below (T177.setTop (mkF m 426 #[.val (.int p1), .val (.ref b1), .val (.ref b104), .val (.int (0 : Int32))] [(.int (0 : Int32)), (.ref b104), (.int (0 : Int32))])) t_
    refine X177.iaload hx (j := (0 : Int32)) (v := (.int (0 : Int32))) (by rw [eh177]; exact Ar178.1) (State.isArrayOf_alike hZ.alike Ar178.2.1) Ar178.2.2 hin178 hat178 (g := (mkF m 426 #[.val (.int p1), .val (.ref b1), .val (.ref b104), .val (.int (0 : Int32))] [(.int (0 : Int32)), (.ref b104), (.int (0 : Int32))])) rfl rfl (hb hby at_426) _ ?_
    show Steps p.tables e below (T177.setTop (mkF m 427 #[.val (.int p1), .val (.ref b1), .val (.ref b104), .val (.int (0 : Int32))] [(.int (0 : Int32)), (.int (0 : Int32))])) t_
    refine XS.icmpNo X177.here hx rfl (hb hby at_427) rfl (teq (by decide : (0 : Int32) = (0 : Int32))).2 ?_
    show Steps p.tables e below (T177.setTop (mkF m 430 #[.val (.int p1), .val (.ref b1), .val (.ref b104), .val (.int (0 : Int32))] [])) t_
    refine XS.iconst X177.here hx rfl (hb hby at_430) ?_
    show Steps p.tables e below (T177.setTop (mkF m 431 #[.val (.int p1), .val (.ref b1), .val (.ref b104), .val (.int (0 : Int32))] [(.int (1 : Int32))])) t_
    refine XS.goto X177.here hx rfl (pc0 := 431) (pc' := 435) rfl (hb hby at_431) (by decide) (by decide) ?_
    exact k_
  obtain ⟨fs179, hr179, hrun179, hended179, hW179, hsame179⟩ := X177.leave (v := some (.int (1 : Int32))) (fun h => by rw [hret] at h; cases h)
  refine ⟨_, _, ?_, hrun179, hended179, _, _, rfl, ?_, ⟨_, rfl⟩, hW179, hsame179.mono (by decide) (by decide)⟩
  · exact retN X177 hx (t := .boolean) hret (by simp) (hb hby at_435) hr179
  · show Q_rm0 Z p1 ad0 ad1 ad2 ad3 ad4 ad5 ad6 ad7 ad8 ad9 ad10 ad11 ad12 ad13 ad14 ad15 ad16 ad17 ad18 ad19 ad20 ad21 ad22 ad23 ad24 ad25 ad26 ad27 ad28 ad29 ad30 ad31 ad32 ad33 h0 n0 _ T177.heap _
    rw [eh177]
    exact ⟨rfl, N177, Kc0⟩
set_option maxRecDepth 65536 in
set_option maxHeartbeats 40000000 in
theorem own_sufad1 (l : Launch) (Z : State) (a0 : Array Value) (hw : ∀ d ∈ tables_1, d.before a0 Z = true) (p1 : Int32) (ad0 : Addr) (ad1 : Addr) (ad2 : Addr) (ad3 : Addr) (ad4 : Addr) (ad5 : Addr) (ad6 : Addr) (ad7 : Addr) (ad8 : Addr) (ad9 : Addr) (ad10 : Addr) (ad11 : Addr) (ad12 : Addr) (ad13 : Addr) (ad14 : Addr) (ad15 : Addr) (ad16 : Addr) (ad17 : Addr) (ad18 : Addr) (ad19 : Addr) (ad20 : Addr) (ad21 : Addr) (ad22 : Addr) (ad23 : Addr) (ad24 : Addr) (ad25 : Addr) (ad26 : Addr) (ad27 : Addr) (ad28 : Addr) (ad29 : Addr) (ad30 : Addr) (ad31 : Addr) (ad32 : Addr) (ad33 : Addr) (b1 : Addr) (b104 : Addr) (k104 : ClassId) (h0 : Heap) (n0 : Nat) (Z0 : n0 ≤ h0.size) {p : Program} {e : Env} {s : State} {m : MethodId} {below : List Frame} {meth : Method} {c : Code} {Tc : State} {Hc : Heap} {locsc : List Loc} (Xc : Stand p l e room_1 s m #[(.int p1)] below meth c Tc locsc 2 68) (hx : p.tables.exec = Jvm.exec) (hZ : Z.Warmed39 s.vm) (hby : c.code = code) (hml : c.maxLocals = 4) (hown : s.vm.findClass "com/example/querent/querent/dicom/VrBinaryNumberLengthPinLaw" = some m.cls) (hret : meth.sig.returnType = some .boolean) (hlk : meth.locks = false) (hh : s.heap = h0) (ec : Tc.heap = Hc) (Nc : Fr n0 locsc) (Kc0 : Keep h0 Hc []) (Oc : Old Z n0 Hc) (zc0 : Exa Z Z.heap ad1 "com/example/querent/querent/dicom/Vr") (zc1 : Fld Z Z.heap ad1 "java/lang/Enum" "ordinal" "I" (.int (1 : Int32))) (zc2 : Arv Z Hc b104 k104 .int (34 : Int32) [(.int (0 : Int32)), (.int (0 : Int32)), (.int (0 : Int32)), (.int (0 : Int32)), (.int (0 : Int32)), (.int (0 : Int32)), (.int (0 : Int32)), (.int (8 : Int32)), (.int (4 : Int32)), (.int (0 : Int32)), (.int (0 : Int32)), (.int (0 : Int32)), (.int (0 : Int32)), (.int (0 : Int32)), (.int (0 : Int32)), (.int (0 : Int32)), (.int (0 : Int32)), (.int (0 : Int32)), (.int (0 : Int32)), (.int (0 : Int32)), (.int (4 : Int32)), (.int (0 : Int32)), (.int (2 : Int32)), (.int (0 : Int32)), (.int (8 : Int32)), (.int (0 : Int32)), (.int (0 : Int32)), (.int (0 : Int32)), (.int (4 : Int32)), (.int (0 : Int32)), (.int (0 : Int32)), (.int (2 : Int32)), (.int (0 : Int32)), (.int (8 : Int32))] (.int (0 : Int32))) (gc3 : n0 ≤ b104) (sc3 : h0.size ≤ b104) :
    ∃ U_ o_, Steps p.tables e below (Tc.setTop (mkF m 421 #[.val (.int p1), .val (.ref b1), .val (.ref b104), .val (.int (1 : Int32))] [(.ref ad1)])) U_ ∧ U_.status = .running ∧ Ended U_ below o_ ∧ (∃ v_ L_, o_ = .returned v_ ∧ Q_rm0 Z p1 ad0 ad1 ad2 ad3 ad4 ad5 ad6 ad7 ad8 ad9 ad10 ad11 ad12 ad13 ad14 ad15 ad16 ad17 ad18 ad19 ad20 ad21 ad22 ad23 ad24 ad25 ad26 ad27 ad28 ad29 ad30 ad31 ad32 ad33 h0 n0 v_ U_.heap L_ ∧ FrameEnd s o_ U_ L_ room_1.cells room_1.slots) := by
  obtain ⟨cq181, kq181, q181a, q181b, q181c⟩ := isOf hZ ec (zc0.ext Oc.2)
  obtain ⟨_, _, ⟨T181, L181, k181, n181⟩, -, X181, ⟨Lc181, hQ181, l181, y181, z181⟩, st181⟩ := Xc.virtualBack hx (y := own_y2) (z := own_y2) hown (mvT hZ (own_w hw 74 rfl)) (mvT hZ (own_w hw 75 rfl)) (notFace_of_selects (args := #[]) (mvT hZ (own_w hw 77 rfl))) (mvT hZ (own_w hw 77 rfl)) (mvT hZ (own_w hw 76 rfl)) (by decide) (backOf (W := 0) (rmMOut l Z a0 hw [] ad1 (1 : Int32) Hc n0 (Nat.le_trans Z0 Kc0.1) Oc zc0 zc1 (by decide)) hZ (own_w hw 78 rfl) (own_w hw 3 rfl) (by decide) (by decide)) q181a q181c (g := (mkF m 421 #[.val (.int p1), .val (.ref b1), .val (.ref b104), .val (.int (1 : Int32))] [(.ref ad1)])) rfl (by rw [hml]; rfl) (Steps.refl _) (argsL := []) (rest := []) (lenOf pd_0 rfl) rfl (by show 2 * 0 + _ ≤ _; exact Nat.le_of_eq rfl) (hb hby at_421) (fun _ _ => ⟨rfl, ec, (by decide : 2 + 0 ≤ _), (by decide : 68 + 0 ≤ _)⟩)
  dsimp only [Pt.U, Pt.locs, Pt.cells, Pt.slots] at X181 l181 y181 z181 st181 hQ181
  subst l181 y181 z181
  obtain ⟨rfl, N181q, eh181⟩ := hQ181
  have N181 := Fr.app Nc N181q
  refine own_via st181 ?_
  obtain ⟨cl182, Ar182, q182, S182, M182, H182, G182⟩ := id zc2
  have hin182 : ¬ ((1 : Int32) < 0 ∨ cl182.slots.size ≤ ((1 : Int32)).toNatClampNeg) := inb_of S182 ⟨by decide, by decide⟩
  have hat182 : cl182.slots[((1 : Int32)).toNatClampNeg]? = some (.int (0 : Int32)) := Has.at H182 hin182 rfl
  refine own_go (A := T181.setTop (mkF m 435 #[.val (.int p1), .val (.ref b1), .val (.ref b104), .val (.int (1 : Int32))] [(.int (1 : Int32))])) (fun t_ k_ => ?_) ?_
  · show Steps p.tables e below (T181.setTop (mkF m 424 #[.val (.int p1), .val (.ref b1), .val (.ref b104), .val (.int (1 : Int32))] [(.int (0 : Int32))])) t_
    refine XS.aloadN X181.here hx rfl (hb hby at_424) rfl rfl ?_
    show Steps p.tables e below (T181.setTop (mkF m 425 #[.val (.int p1), .val (.ref b1), .val (.ref b104), .val (.int (1 : Int32))] [(.ref b104), (.int (0 : Int32))])) t_
    refine XS.iloadN X181.here hx rfl (hb hby at_425) rfl ?_
    show Steps p.tables e below (T181.setTop (mkF m 426 #[.val (.int p1), .val (.ref b1), .val (.ref b104), .val (.int (1 : Int32))] [(.int (1 : Int32)), (.ref b104), (.int (0 : Int32))])) t_
    refine X181.iaload hx (j := (1 : Int32)) (v := (.int (0 : Int32))) (by rw [eh181]; exact Ar182.1) (State.isArrayOf_alike hZ.alike Ar182.2.1) Ar182.2.2 hin182 hat182 (g := (mkF m 426 #[.val (.int p1), .val (.ref b1), .val (.ref b104), .val (.int (1 : Int32))] [(.int (1 : Int32)), (.ref b104), (.int (0 : Int32))])) rfl rfl (hb hby at_426) _ ?_
    show Steps p.tables e below (T181.setTop (mkF m 427 #[.val (.int p1), .val (.ref b1), .val (.ref b104), .val (.int (1 : Int32))] [(.int (0 : Int32)), (.int (0 : Int32))])) t_
    refine XS.icmpNo X181.here hx rfl (hb hby at_427) rfl (teq (by decide : (0 : Int32) = (0 : Int32))).2 ?_
    show Steps p.tables e below (T181.setTop (mkF m 430 #[.val (.int p1), .val (.ref b1), .val (.ref b104), .val (.int (1 : Int32))] [])) t_
    refine XS.iconst X181.here hx rfl (hb hby at_430) ?_
    show Steps p.tables e below (T181.setTop (mkF m 431 #[.val (.int p1), .val (.ref b1), .val (.ref b104), .val (.int (1 : Int32))] [(.int (1 : Int32))])) t_
    refine XS.goto X181.here hx rfl (pc0 := 431) (pc' := 435) rfl (hb hby at_431) (by decide) (by decide) ?_
    exact k_
  obtain ⟨fs183, hr183, hrun183, hended183, hW183, hsame183⟩ := X181.leave (v := some (.int (1 : Int32))) (fun h => by rw [hret] at h; cases h)
  refine ⟨_, _, ?_, hrun183, hended183, _, _, rfl, ?_, ⟨_, rfl⟩, hW183, hsame183.mono (by decide) (by decide)⟩
  · exact retN X181 hx (t := .boolean) hret (by simp) (hb hby at_435) hr183
  · show Q_rm0 Z p1 ad0 ad1 ad2 ad3 ad4 ad5 ad6 ad7 ad8 ad9 ad10 ad11 ad12 ad13 ad14 ad15 ad16 ad17 ad18 ad19 ad20 ad21 ad22 ad23 ad24 ad25 ad26 ad27 ad28 ad29 ad30 ad31 ad32 ad33 h0 n0 _ T181.heap _
    rw [eh181]
    exact ⟨rfl, N181, Kc0⟩
set_option maxRecDepth 65536 in
set_option maxHeartbeats 40000000 in
theorem own_sufad2 (l : Launch) (Z : State) (a0 : Array Value) (hw : ∀ d ∈ tables_1, d.before a0 Z = true) (p1 : Int32) (ad0 : Addr) (ad1 : Addr) (ad2 : Addr) (ad3 : Addr) (ad4 : Addr) (ad5 : Addr) (ad6 : Addr) (ad7 : Addr) (ad8 : Addr) (ad9 : Addr) (ad10 : Addr) (ad11 : Addr) (ad12 : Addr) (ad13 : Addr) (ad14 : Addr) (ad15 : Addr) (ad16 : Addr) (ad17 : Addr) (ad18 : Addr) (ad19 : Addr) (ad20 : Addr) (ad21 : Addr) (ad22 : Addr) (ad23 : Addr) (ad24 : Addr) (ad25 : Addr) (ad26 : Addr) (ad27 : Addr) (ad28 : Addr) (ad29 : Addr) (ad30 : Addr) (ad31 : Addr) (ad32 : Addr) (ad33 : Addr) (b1 : Addr) (b104 : Addr) (k104 : ClassId) (h0 : Heap) (n0 : Nat) (Z0 : n0 ≤ h0.size) {p : Program} {e : Env} {s : State} {m : MethodId} {below : List Frame} {meth : Method} {c : Code} {Tc : State} {Hc : Heap} {locsc : List Loc} (Xc : Stand p l e room_1 s m #[(.int p1)] below meth c Tc locsc 2 68) (hx : p.tables.exec = Jvm.exec) (hZ : Z.Warmed39 s.vm) (hby : c.code = code) (hml : c.maxLocals = 4) (hown : s.vm.findClass "com/example/querent/querent/dicom/VrBinaryNumberLengthPinLaw" = some m.cls) (hret : meth.sig.returnType = some .boolean) (hlk : meth.locks = false) (hh : s.heap = h0) (ec : Tc.heap = Hc) (Nc : Fr n0 locsc) (Kc0 : Keep h0 Hc []) (Oc : Old Z n0 Hc) (zc0 : Exa Z Z.heap ad2 "com/example/querent/querent/dicom/Vr") (zc1 : Fld Z Z.heap ad2 "java/lang/Enum" "ordinal" "I" (.int (2 : Int32))) (zc2 : Arv Z Hc b104 k104 .int (34 : Int32) [(.int (0 : Int32)), (.int (0 : Int32)), (.int (0 : Int32)), (.int (0 : Int32)), (.int (0 : Int32)), (.int (0 : Int32)), (.int (0 : Int32)), (.int (8 : Int32)), (.int (4 : Int32)), (.int (0 : Int32)), (.int (0 : Int32)), (.int (0 : Int32)), (.int (0 : Int32)), (.int (0 : Int32)), (.int (0 : Int32)), (.int (0 : Int32)), (.int (0 : Int32)), (.int (0 : Int32)), (.int (0 : Int32)), (.int (0 : Int32)), (.int (4 : Int32)), (.int (0 : Int32)), (.int (2 : Int32)), (.int (0 : Int32)), (.int (8 : Int32)), (.int (0 : Int32)), (.int (0 : Int32)), (.int (0 : Int32)), (.int (4 : Int32)), (.int (0 : Int32)), (.int (0 : Int32)), (.int (2 : Int32)), (.int (0 : Int32)), (.int (8 : Int32))] (.int (0 : Int32))) (gc3 : n0 ≤ b104) (sc3 : h0.size ≤ b104) :
    ∃ U_ o_, Steps p.tables e below (Tc.setTop (mkF m 421 #[.val (.int p1), .val (.ref b1), .val (.ref b104), .val (.int (2 : Int32))] [(.ref ad2)])) U_ ∧ U_.status = .running ∧ Ended U_ below o_ ∧ (∃ v_ L_, o_ = .returned v_ ∧ Q_rm0 Z p1 ad0 ad1 ad2 ad3 ad4 ad5 ad6 ad7 ad8 ad9 ad10 ad11 ad12 ad13 ad14 ad15 ad16 ad17 ad18 ad19 ad20 ad21 ad22 ad23 ad24 ad25 ad26 ad27 ad28 ad29 ad30 ad31 ad32 ad33 h0 n0 v_ U_.heap L_ ∧ FrameEnd s o_ U_ L_ room_1.cells room_1.slots) := by
  obtain ⟨cq185, kq185, q185a, q185b, q185c⟩ := isOf hZ ec (zc0.ext Oc.2)
  obtain ⟨_, _, ⟨T185, L185, k185, n185⟩, -, X185, ⟨Lc185, hQ185, l185, y185, z185⟩, st185⟩ := Xc.virtualBack hx (y := own_y2) (z := own_y2) hown (mvT hZ (own_w hw 74 rfl)) (mvT hZ (own_w hw 75 rfl)) (notFace_of_selects (args := #[]) (mvT hZ (own_w hw 77 rfl))) (mvT hZ (own_w hw 77 rfl)) (mvT hZ (own_w hw 76 rfl)) (by decide) (backOf (W := 0) (rmMOut l Z a0 hw [] ad2 (2 : Int32) Hc n0 (Nat.le_trans Z0 Kc0.1) Oc zc0 zc1 (by decide)) hZ (own_w hw 78 rfl) (own_w hw 3 rfl) (by decide) (by decide)) q185a q185c (g := (mkF m 421 #[.val (.int p1), .val (.ref b1), .val (.ref b104), .val (.int (2 : Int32))] [(.ref ad2)])) rfl (by rw [hml]; rfl) (Steps.refl _) (argsL := []) (rest := []) (lenOf pd_0 rfl) rfl (by show 2 * 0 + _ ≤ _; exact Nat.le_of_eq rfl) (hb hby at_421) (fun _ _ => ⟨rfl, ec, (by decide : 2 + 0 ≤ _), (by decide : 68 + 0 ≤ _)⟩)
  dsimp only [Pt.U, Pt.locs, Pt.cells, Pt.slots] at X185 l185 y185 z185 st185 hQ185
  subst l185 y185 z185
  obtain ⟨rfl, N185q, eh185⟩ := hQ185
  have N185 := Fr.app Nc N185q
  refine own_via st185 ?_
  obtain ⟨cl186, Ar186, q186, S186, M186, H186, G186⟩ := id zc2
  have hin186 : ¬ ((2 : Int32) < 0 ∨ cl186.slots.size ≤ ((2 : Int32)).toNatClampNeg) := inb_of S186 ⟨by decide, by decide⟩
  have hat186 : cl186.slots[((2 : Int32)).toNatClampNeg]? = some (.int (0 : Int32)) := Has.at H186 hin186 rfl
  refine own_go (A := T185.setTop (mkF m 435 #[.val (.int p1), .val (.ref b1), .val (.ref b104), .val (.int (2 : Int32))] [(.int (1 : Int32))])) (fun t_ k_ => ?_) ?_
  · show Steps p.tables e below (T185.setTop (mkF m 424 #[.val (.int p1), .val (.ref b1), .val (.ref b104), .val (.int (2 : Int32))] [(.int (0 : Int32))])) t_
    refine XS.aloadN X185.here hx rfl (hb hby at_424) rfl rfl ?_
    show Steps p.tables e below (T185.setTop (mkF m 425 #[.val (.int p1), .val (.ref b1), .val (.ref b104), .val (.int (2 : Int32))] [(.ref b104), (.int (0 : Int32))])) t_
    refine XS.iloadN X185.here hx rfl (hb hby at_425) rfl ?_
    show Steps p.tables e below (T185.setTop (mkF m 426 #[.val (.int p1), .val (.ref b1), .val (.ref b104), .val (.int (2 : Int32))] [(.int (2 : Int32)), (.ref b104), (.int (0 : Int32))])) t_
    refine X185.iaload hx (j := (2 : Int32)) (v := (.int (0 : Int32))) (by rw [eh185]; exact Ar186.1) (State.isArrayOf_alike hZ.alike Ar186.2.1) Ar186.2.2 hin186 hat186 (g := (mkF m 426 #[.val (.int p1), .val (.ref b1), .val (.ref b104), .val (.int (2 : Int32))] [(.int (2 : Int32)), (.ref b104), (.int (0 : Int32))])) rfl rfl (hb hby at_426) _ ?_
    show Steps p.tables e below (T185.setTop (mkF m 427 #[.val (.int p1), .val (.ref b1), .val (.ref b104), .val (.int (2 : Int32))] [(.int (0 : Int32)), (.int (0 : Int32))])) t_
    refine XS.icmpNo X185.here hx rfl (hb hby at_427) rfl (teq (by decide : (0 : Int32) = (0 : Int32))).2 ?_
    show Steps p.tables e below (T185.setTop (mkF m 430 #[.val (.int p1), .val (.ref b1), .val (.ref b104), .val (.int (2 : Int32))] [])) t_
    refine XS.iconst X185.here hx rfl (hb hby at_430) ?_
    show Steps p.tables e below (T185.setTop (mkF m 431 #[.val (.int p1), .val (.ref b1), .val (.ref b104), .val (.int (2 : Int32))] [(.int (1 : Int32))])) t_
    refine XS.goto X185.here hx rfl (pc0 := 431) (pc' := 435) rfl (hb hby at_431) (by decide) (by decide) ?_
    exact k_
  obtain ⟨fs187, hr187, hrun187, hended187, hW187, hsame187⟩ := X185.leave (v := some (.int (1 : Int32))) (fun h => by rw [hret] at h; cases h)
  refine ⟨_, _, ?_, hrun187, hended187, _, _, rfl, ?_, ⟨_, rfl⟩, hW187, hsame187.mono (by decide) (by decide)⟩
  · exact retN X185 hx (t := .boolean) hret (by simp) (hb hby at_435) hr187
  · show Q_rm0 Z p1 ad0 ad1 ad2 ad3 ad4 ad5 ad6 ad7 ad8 ad9 ad10 ad11 ad12 ad13 ad14 ad15 ad16 ad17 ad18 ad19 ad20 ad21 ad22 ad23 ad24 ad25 ad26 ad27 ad28 ad29 ad30 ad31 ad32 ad33 h0 n0 _ T185.heap _
    rw [eh185]
    exact ⟨rfl, N185, Kc0⟩
set_option maxRecDepth 65536 in
set_option maxHeartbeats 40000000 in
theorem own_sufad3 (l : Launch) (Z : State) (a0 : Array Value) (hw : ∀ d ∈ tables_1, d.before a0 Z = true) (p1 : Int32) (ad0 : Addr) (ad1 : Addr) (ad2 : Addr) (ad3 : Addr) (ad4 : Addr) (ad5 : Addr) (ad6 : Addr) (ad7 : Addr) (ad8 : Addr) (ad9 : Addr) (ad10 : Addr) (ad11 : Addr) (ad12 : Addr) (ad13 : Addr) (ad14 : Addr) (ad15 : Addr) (ad16 : Addr) (ad17 : Addr) (ad18 : Addr) (ad19 : Addr) (ad20 : Addr) (ad21 : Addr) (ad22 : Addr) (ad23 : Addr) (ad24 : Addr) (ad25 : Addr) (ad26 : Addr) (ad27 : Addr) (ad28 : Addr) (ad29 : Addr) (ad30 : Addr) (ad31 : Addr) (ad32 : Addr) (ad33 : Addr) (b1 : Addr) (b104 : Addr) (k104 : ClassId) (h0 : Heap) (n0 : Nat) (Z0 : n0 ≤ h0.size) {p : Program} {e : Env} {s : State} {m : MethodId} {below : List Frame} {meth : Method} {c : Code} {Tc : State} {Hc : Heap} {locsc : List Loc} (Xc : Stand p l e room_1 s m #[(.int p1)] below meth c Tc locsc 2 68) (hx : p.tables.exec = Jvm.exec) (hZ : Z.Warmed39 s.vm) (hby : c.code = code) (hml : c.maxLocals = 4) (hown : s.vm.findClass "com/example/querent/querent/dicom/VrBinaryNumberLengthPinLaw" = some m.cls) (hret : meth.sig.returnType = some .boolean) (hlk : meth.locks = false) (hh : s.heap = h0) (ec : Tc.heap = Hc) (Nc : Fr n0 locsc) (Kc0 : Keep h0 Hc []) (Oc : Old Z n0 Hc) (zc0 : Exa Z Z.heap ad3 "com/example/querent/querent/dicom/Vr") (zc1 : Fld Z Z.heap ad3 "java/lang/Enum" "ordinal" "I" (.int (3 : Int32))) (zc2 : Arv Z Hc b104 k104 .int (34 : Int32) [(.int (0 : Int32)), (.int (0 : Int32)), (.int (0 : Int32)), (.int (0 : Int32)), (.int (0 : Int32)), (.int (0 : Int32)), (.int (0 : Int32)), (.int (8 : Int32)), (.int (4 : Int32)), (.int (0 : Int32)), (.int (0 : Int32)), (.int (0 : Int32)), (.int (0 : Int32)), (.int (0 : Int32)), (.int (0 : Int32)), (.int (0 : Int32)), (.int (0 : Int32)), (.int (0 : Int32)), (.int (0 : Int32)), (.int (0 : Int32)), (.int (4 : Int32)), (.int (0 : Int32)), (.int (2 : Int32)), (.int (0 : Int32)), (.int (8 : Int32)), (.int (0 : Int32)), (.int (0 : Int32)), (.int (0 : Int32)), (.int (4 : Int32)), (.int (0 : Int32)), (.int (0 : Int32)), (.int (2 : Int32)), (.int (0 : Int32)), (.int (8 : Int32))] (.int (0 : Int32))) (gc3 : n0 ≤ b104) (sc3 : h0.size ≤ b104) :
    ∃ U_ o_, Steps p.tables e below (Tc.setTop (mkF m 421 #[.val (.int p1), .val (.ref b1), .val (.ref b104), .val (.int (3 : Int32))] [(.ref ad3)])) U_ ∧ U_.status = .running ∧ Ended U_ below o_ ∧ (∃ v_ L_, o_ = .returned v_ ∧ Q_rm0 Z p1 ad0 ad1 ad2 ad3 ad4 ad5 ad6 ad7 ad8 ad9 ad10 ad11 ad12 ad13 ad14 ad15 ad16 ad17 ad18 ad19 ad20 ad21 ad22 ad23 ad24 ad25 ad26 ad27 ad28 ad29 ad30 ad31 ad32 ad33 h0 n0 v_ U_.heap L_ ∧ FrameEnd s o_ U_ L_ room_1.cells room_1.slots) := by
  obtain ⟨cq189, kq189, q189a, q189b, q189c⟩ := isOf hZ ec (zc0.ext Oc.2)
  obtain ⟨_, _, ⟨T189, L189, k189, n189⟩, -, X189, ⟨Lc189, hQ189, l189, y189, z189⟩, st189⟩ := Xc.virtualBack hx (y := own_y2) (z := own_y2) hown (mvT hZ (own_w hw 74 rfl)) (mvT hZ (own_w hw 75 rfl)) (notFace_of_selects (args := #[]) (mvT hZ (own_w hw 77 rfl))) (mvT hZ (own_w hw 77 rfl)) (mvT hZ (own_w hw 76 rfl)) (by decide) (backOf (W := 0) (rmMOut l Z a0 hw [] ad3 (3 : Int32) Hc n0 (Nat.le_trans Z0 Kc0.1) Oc zc0 zc1 (by decide)) hZ (own_w hw 78 rfl) (own_w hw 3 rfl) (by decide) (by decide)) q189a q189c (g := (mkF m 421 #[.val (.int p1), .val (.ref b1), .val (.ref b104), .val (.int (3 : Int32))] [(.ref ad3)])) rfl (by rw [hml]; rfl) (Steps.refl _) (argsL := []) (rest := []) (lenOf pd_0 rfl) rfl (by show 2 * 0 + _ ≤ _; exact Nat.le_of_eq rfl) (hb hby at_421) (fun _ _ => ⟨rfl, ec, (by decide : 2 + 0 ≤ _), (by decide : 68 + 0 ≤ _)⟩)
  dsimp only [Pt.U, Pt.locs, Pt.cells, Pt.slots] at X189 l189 y189 z189 st189 hQ189
  subst l189 y189 z189
  obtain ⟨rfl, N189q, eh189⟩ := hQ189
  have N189 := Fr.app Nc N189q
  refine own_via st189 ?_
  obtain ⟨cl190, Ar190, q190, S190, M190, H190, G190⟩ := id zc2
  have hin190 : ¬ ((3 : Int32) < 0 ∨ cl190.slots.size ≤ ((3 : Int32)).toNatClampNeg) := inb_of S190 ⟨by decide, by decide⟩
  have hat190 : cl190.slots[((3 : Int32)).toNatClampNeg]? = some (.int (0 : Int32)) := Has.at H190 hin190 rfl
  refine own_go (A := T189.setTop (mkF m 435 #[.val (.int p1), .val (.ref b1), .val (.ref b104), .val (.int (3 : Int32))] [(.int (1 : Int32))])) (fun t_ k_ => ?_) ?_
  · show Steps p.tables e below (T189.setTop (mkF m 424 #[.val (.int p1), .val (.ref b1), .val (.ref b104), .val (.int (3 : Int32))] [(.int (0 : Int32))])) t_
    refine XS.aloadN X189.here hx rfl (hb hby at_424) rfl rfl ?_
    show Steps p.tables e below (T189.setTop (mkF m 425 #[.val (.int p1), .val (.ref b1), .val (.ref b104), .val (.int (3 : Int32))] [(.ref b104), (.int (0 : Int32))])) t_
    refine XS.iloadN X189.here hx rfl (hb hby at_425) rfl ?_
    show Steps p.tables e below (T189.setTop (mkF m 426 #[.val (.int p1), .val (.ref b1), .val (.ref b104), .val (.int (3 : Int32))] [(.int (3 : Int32)), (.ref b104), (.int (0 : Int32))])) t_
    refine X189.iaload hx (j := (3 : Int32)) (v := (.int (0 : Int32))) (by rw [eh189]; exact Ar190.1) (State.isArrayOf_alike hZ.alike Ar190.2.1) Ar190.2.2 hin190 hat190 (g := (mkF m 426 #[.val (.int p1), .val (.ref b1), .val (.ref b104), .val (.int (3 : Int32))] [(.int (3 : Int32)), (.ref b104), (.int (0 : Int32))])) rfl rfl (hb hby at_426) _ ?_
    show Steps p.tables e below (T189.setTop (mkF m 427 #[.val (.int p1), .val (.ref b1), .val (.ref b104), .val (.int (3 : Int32))] [(.int (0 : Int32)), (.int (0 : Int32))])) t_
    refine XS.icmpNo X189.here hx rfl (hb hby at_427) rfl (teq (by decide : (0 : Int32) = (0 : Int32))).2 ?_
    show Steps p.tables e below (T189.setTop (mkF m 430 #[.val (.int p1), .val (.ref b1), .val (.ref b104), .val (.int (3 : Int32))] [])) t_
    refine XS.iconst X189.here hx rfl (hb hby at_430) ?_
    show Steps p.tables e below (T189.setTop (mkF m 431 #[.val (.int p1), .val (.ref b1), .val (.ref b104), .val (.int (3 : Int32))] [(.int (1 : Int32))])) t_
    refine XS.goto X189.here hx rfl (pc0 := 431) (pc' := 435) rfl (hb hby at_431) (by decide) (by decide) ?_
    exact k_
  obtain ⟨fs191, hr191, hrun191, hended191, hW191, hsame191⟩ := X189.leave (v := some (.int (1 : Int32))) (fun h => by rw [hret] at h; cases h)
  refine ⟨_, _, ?_, hrun191, hended191, _, _, rfl, ?_, ⟨_, rfl⟩, hW191, hsame191.mono (by decide) (by decide)⟩
  · exact retN X189 hx (t := .boolean) hret (by simp) (hb hby at_435) hr191
  · show Q_rm0 Z p1 ad0 ad1 ad2 ad3 ad4 ad5 ad6 ad7 ad8 ad9 ad10 ad11 ad12 ad13 ad14 ad15 ad16 ad17 ad18 ad19 ad20 ad21 ad22 ad23 ad24 ad25 ad26 ad27 ad28 ad29 ad30 ad31 ad32 ad33 h0 n0 _ T189.heap _
    rw [eh189]
    exact ⟨rfl, N189, Kc0⟩
set_option maxRecDepth 65536 in
set_option maxHeartbeats 40000000 in
theorem own_sufad4 (l : Launch) (Z : State) (a0 : Array Value) (hw : ∀ d ∈ tables_1, d.before a0 Z = true) (p1 : Int32) (ad0 : Addr) (ad1 : Addr) (ad2 : Addr) (ad3 : Addr) (ad4 : Addr) (ad5 : Addr) (ad6 : Addr) (ad7 : Addr) (ad8 : Addr) (ad9 : Addr) (ad10 : Addr) (ad11 : Addr) (ad12 : Addr) (ad13 : Addr) (ad14 : Addr) (ad15 : Addr) (ad16 : Addr) (ad17 : Addr) (ad18 : Addr) (ad19 : Addr) (ad20 : Addr) (ad21 : Addr) (ad22 : Addr) (ad23 : Addr) (ad24 : Addr) (ad25 : Addr) (ad26 : Addr) (ad27 : Addr) (ad28 : Addr) (ad29 : Addr) (ad30 : Addr) (ad31 : Addr) (ad32 : Addr) (ad33 : Addr) (b1 : Addr) (b104 : Addr) (k104 : ClassId) (h0 : Heap) (n0 : Nat) (Z0 : n0 ≤ h0.size) {p : Program} {e : Env} {s : State} {m : MethodId} {below : List Frame} {meth : Method} {c : Code} {Tc : State} {Hc : Heap} {locsc : List Loc} (Xc : Stand p l e room_1 s m #[(.int p1)] below meth c Tc locsc 2 68) (hx : p.tables.exec = Jvm.exec) (hZ : Z.Warmed39 s.vm) (hby : c.code = code) (hml : c.maxLocals = 4) (hown : s.vm.findClass "com/example/querent/querent/dicom/VrBinaryNumberLengthPinLaw" = some m.cls) (hret : meth.sig.returnType = some .boolean) (hlk : meth.locks = false) (hh : s.heap = h0) (ec : Tc.heap = Hc) (Nc : Fr n0 locsc) (Kc0 : Keep h0 Hc []) (Oc : Old Z n0 Hc) (zc0 : Exa Z Z.heap ad4 "com/example/querent/querent/dicom/Vr") (zc1 : Fld Z Z.heap ad4 "java/lang/Enum" "ordinal" "I" (.int (4 : Int32))) (zc2 : Arv Z Hc b104 k104 .int (34 : Int32) [(.int (0 : Int32)), (.int (0 : Int32)), (.int (0 : Int32)), (.int (0 : Int32)), (.int (0 : Int32)), (.int (0 : Int32)), (.int (0 : Int32)), (.int (8 : Int32)), (.int (4 : Int32)), (.int (0 : Int32)), (.int (0 : Int32)), (.int (0 : Int32)), (.int (0 : Int32)), (.int (0 : Int32)), (.int (0 : Int32)), (.int (0 : Int32)), (.int (0 : Int32)), (.int (0 : Int32)), (.int (0 : Int32)), (.int (0 : Int32)), (.int (4 : Int32)), (.int (0 : Int32)), (.int (2 : Int32)), (.int (0 : Int32)), (.int (8 : Int32)), (.int (0 : Int32)), (.int (0 : Int32)), (.int (0 : Int32)), (.int (4 : Int32)), (.int (0 : Int32)), (.int (0 : Int32)), (.int (2 : Int32)), (.int (0 : Int32)), (.int (8 : Int32))] (.int (0 : Int32))) (gc3 : n0 ≤ b104) (sc3 : h0.size ≤ b104) :
    ∃ U_ o_, Steps p.tables e below (Tc.setTop (mkF m 421 #[.val (.int p1), .val (.ref b1), .val (.ref b104), .val (.int (4 : Int32))] [(.ref ad4)])) U_ ∧ U_.status = .running ∧ Ended U_ below o_ ∧ (∃ v_ L_, o_ = .returned v_ ∧ Q_rm0 Z p1 ad0 ad1 ad2 ad3 ad4 ad5 ad6 ad7 ad8 ad9 ad10 ad11 ad12 ad13 ad14 ad15 ad16 ad17 ad18 ad19 ad20 ad21 ad22 ad23 ad24 ad25 ad26 ad27 ad28 ad29 ad30 ad31 ad32 ad33 h0 n0 v_ U_.heap L_ ∧ FrameEnd s o_ U_ L_ room_1.cells room_1.slots) := by
  obtain ⟨cq193, kq193, q193a, q193b, q193c⟩ := isOf hZ ec (zc0.ext Oc.2)
  obtain ⟨_, _, ⟨T193, L193, k193, n193⟩, -, X193, ⟨Lc193, hQ193, l193, y193, z193⟩, st193⟩ := Xc.virtualBack hx (y := own_y2) (z := own_y2) hown (mvT hZ (own_w hw 74 rfl)) (mvT hZ (own_w hw 75 rfl)) (notFace_of_selects (args := #[]) (mvT hZ (own_w hw 77 rfl))) (mvT hZ (own_w hw 77 rfl)) (mvT hZ (own_w hw 76 rfl)) (by decide) (backOf (W := 0) (rmMOut l Z a0 hw [] ad4 (4 : Int32) Hc n0 (Nat.le_trans Z0 Kc0.1) Oc zc0 zc1 (by decide)) hZ (own_w hw 78 rfl) (own_w hw 3 rfl) (by decide) (by decide)) q193a q193c (g := (mkF m 421 #[.val (.int p1), .val (.ref b1), .val (.ref b104), .val (.int (4 : Int32))] [(.ref ad4)])) rfl (by rw [hml]; rfl) (Steps.refl _) (argsL := []) (rest := []) (lenOf pd_0 rfl) rfl (by show 2 * 0 + _ ≤ _; exact Nat.le_of_eq rfl) (hb hby at_421) (fun _ _ => ⟨rfl, ec, (by decide : 2 + 0 ≤ _), (by decide : 68 + 0 ≤ _)⟩)
  dsimp only [Pt.U, Pt.locs, Pt.cells, Pt.slots] at X193 l193 y193 z193 st193 hQ193
  subst l193 y193 z193
  obtain ⟨rfl, N193q, eh193⟩ := hQ193
  have N193 := Fr.app Nc N193q
  refine own_via st193 ?_
  obtain ⟨cl194, Ar194, q194, S194, M194, H194, G194⟩ := id zc2
  have hin194 : ¬ ((4 : Int32) < 0 ∨ cl194.slots.size ≤ ((4 : Int32)).toNatClampNeg) := inb_of S194 ⟨by decide, by decide⟩
  have hat194 : cl194.slots[((4 : Int32)).toNatClampNeg]? = some (.int (0 : Int32)) := Has.at H194 hin194 rfl
  refine own_go (A := T193.setTop (mkF m 435 #[.val (.int p1), .val (.ref b1), .val (.ref b104), .val (.int (4 : Int32))] [(.int (1 : Int32))])) (fun t_ k_ => ?_) ?_
  · show Steps p.tables e below (T193.setTop (mkF m 424 #[.val (.int p1), .val (.ref b1), .val (.ref b104), .val (.int (4 : Int32))] [(.int (0 : Int32))])) t_
    refine XS.aloadN X193.here hx rfl (hb hby at_424) rfl rfl ?_
    show Steps p.tables e below (T193.setTop (mkF m 425 #[.val (.int p1), .val (.ref b1), .val (.ref b104), .val (.int (4 : Int32))] [(.ref b104), (.int (0 : Int32))])) t_
    refine XS.iloadN X193.here hx rfl (hb hby at_425) rfl ?_
    show Steps p.tables e below (T193.setTop (mkF m 426 #[.val (.int p1), .val (.ref b1), .val (.ref b104), .val (.int (4 : Int32))] [(.int (4 : Int32)), (.ref b104), (.int (0 : Int32))])) t_
    refine X193.iaload hx (j := (4 : Int32)) (v := (.int (0 : Int32))) (by rw [eh193]; exact Ar194.1) (State.isArrayOf_alike hZ.alike Ar194.2.1) Ar194.2.2 hin194 hat194 (g := (mkF m 426 #[.val (.int p1), .val (.ref b1), .val (.ref b104), .val (.int (4 : Int32))] [(.int (4 : Int32)), (.ref b104), (.int (0 : Int32))])) rfl rfl (hb hby at_426) _ ?_
    show Steps p.tables e below (T193.setTop (mkF m 427 #[.val (.int p1), .val (.ref b1), .val (.ref b104), .val (.int (4 : Int32))] [(.int (0 : Int32)), (.int (0 : Int32))])) t_
    refine XS.icmpNo X193.here hx rfl (hb hby at_427) rfl (teq (by decide : (0 : Int32) = (0 : Int32))).2 ?_
    show Steps p.tables e below (T193.setTop (mkF m 430 #[.val (.int p1), .val (.ref b1), .val (.ref b104), .val (.int (4 : Int32))] [])) t_
    refine XS.iconst X193.here hx rfl (hb hby at_430) ?_
    show Steps p.tables e below (T193.setTop (mkF m 431 #[.val (.int p1), .val (.ref b1), .val (.ref b104), .val (.int (4 : Int32))] [(.int (1 : Int32))])) t_
    refine XS.goto X193.here hx rfl (pc0 := 431) (pc' := 435) rfl (hb hby at_431) (by decide) (by decide) ?_
    exact k_
  obtain ⟨fs195, hr195, hrun195, hended195, hW195, hsame195⟩ := X193.leave (v := some (.int (1 : Int32))) (fun h => by rw [hret] at h; cases h)
  refine ⟨_, _, ?_, hrun195, hended195, _, _, rfl, ?_, ⟨_, rfl⟩, hW195, hsame195.mono (by decide) (by decide)⟩
  · exact retN X193 hx (t := .boolean) hret (by simp) (hb hby at_435) hr195
  · show Q_rm0 Z p1 ad0 ad1 ad2 ad3 ad4 ad5 ad6 ad7 ad8 ad9 ad10 ad11 ad12 ad13 ad14 ad15 ad16 ad17 ad18 ad19 ad20 ad21 ad22 ad23 ad24 ad25 ad26 ad27 ad28 ad29 ad30 ad31 ad32 ad33 h0 n0 _ T193.heap _
    rw [eh193]
    exact ⟨rfl, N193, Kc0⟩
set_option maxRecDepth 65536 in
set_option maxHeartbeats 40000000 in
theorem own_sufad5 (l : Launch) (Z : State) (a0 : Array Value) (hw : ∀ d ∈ tables_1, d.before a0 Z = true) (p1 : Int32) (ad0 : Addr) (ad1 : Addr) (ad2 : Addr) (ad3 : Addr) (ad4 : Addr) (ad5 : Addr) (ad6 : Addr) (ad7 : Addr) (ad8 : Addr) (ad9 : Addr) (ad10 : Addr) (ad11 : Addr) (ad12 : Addr) (ad13 : Addr) (ad14 : Addr) (ad15 : Addr) (ad16 : Addr) (ad17 : Addr) (ad18 : Addr) (ad19 : Addr) (ad20 : Addr) (ad21 : Addr) (ad22 : Addr) (ad23 : Addr) (ad24 : Addr) (ad25 : Addr) (ad26 : Addr) (ad27 : Addr) (ad28 : Addr) (ad29 : Addr) (ad30 : Addr) (ad31 : Addr) (ad32 : Addr) (ad33 : Addr) (b1 : Addr) (b104 : Addr) (k104 : ClassId) (h0 : Heap) (n0 : Nat) (Z0 : n0 ≤ h0.size) {p : Program} {e : Env} {s : State} {m : MethodId} {below : List Frame} {meth : Method} {c : Code} {Tc : State} {Hc : Heap} {locsc : List Loc} (Xc : Stand p l e room_1 s m #[(.int p1)] below meth c Tc locsc 2 68) (hx : p.tables.exec = Jvm.exec) (hZ : Z.Warmed39 s.vm) (hby : c.code = code) (hml : c.maxLocals = 4) (hown : s.vm.findClass "com/example/querent/querent/dicom/VrBinaryNumberLengthPinLaw" = some m.cls) (hret : meth.sig.returnType = some .boolean) (hlk : meth.locks = false) (hh : s.heap = h0) (ec : Tc.heap = Hc) (Nc : Fr n0 locsc) (Kc0 : Keep h0 Hc []) (Oc : Old Z n0 Hc) (zc0 : Exa Z Z.heap ad5 "com/example/querent/querent/dicom/Vr") (zc1 : Fld Z Z.heap ad5 "java/lang/Enum" "ordinal" "I" (.int (5 : Int32))) (zc2 : Arv Z Hc b104 k104 .int (34 : Int32) [(.int (0 : Int32)), (.int (0 : Int32)), (.int (0 : Int32)), (.int (0 : Int32)), (.int (0 : Int32)), (.int (0 : Int32)), (.int (0 : Int32)), (.int (8 : Int32)), (.int (4 : Int32)), (.int (0 : Int32)), (.int (0 : Int32)), (.int (0 : Int32)), (.int (0 : Int32)), (.int (0 : Int32)), (.int (0 : Int32)), (.int (0 : Int32)), (.int (0 : Int32)), (.int (0 : Int32)), (.int (0 : Int32)), (.int (0 : Int32)), (.int (4 : Int32)), (.int (0 : Int32)), (.int (2 : Int32)), (.int (0 : Int32)), (.int (8 : Int32)), (.int (0 : Int32)), (.int (0 : Int32)), (.int (0 : Int32)), (.int (4 : Int32)), (.int (0 : Int32)), (.int (0 : Int32)), (.int (2 : Int32)), (.int (0 : Int32)), (.int (8 : Int32))] (.int (0 : Int32))) (gc3 : n0 ≤ b104) (sc3 : h0.size ≤ b104) :
    ∃ U_ o_, Steps p.tables e below (Tc.setTop (mkF m 421 #[.val (.int p1), .val (.ref b1), .val (.ref b104), .val (.int (5 : Int32))] [(.ref ad5)])) U_ ∧ U_.status = .running ∧ Ended U_ below o_ ∧ (∃ v_ L_, o_ = .returned v_ ∧ Q_rm0 Z p1 ad0 ad1 ad2 ad3 ad4 ad5 ad6 ad7 ad8 ad9 ad10 ad11 ad12 ad13 ad14 ad15 ad16 ad17 ad18 ad19 ad20 ad21 ad22 ad23 ad24 ad25 ad26 ad27 ad28 ad29 ad30 ad31 ad32 ad33 h0 n0 v_ U_.heap L_ ∧ FrameEnd s o_ U_ L_ room_1.cells room_1.slots) := by
  obtain ⟨cq197, kq197, q197a, q197b, q197c⟩ := isOf hZ ec (zc0.ext Oc.2)
  obtain ⟨_, _, ⟨T197, L197, k197, n197⟩, -, X197, ⟨Lc197, hQ197, l197, y197, z197⟩, st197⟩ := Xc.virtualBack hx (y := own_y2) (z := own_y2) hown (mvT hZ (own_w hw 74 rfl)) (mvT hZ (own_w hw 75 rfl)) (notFace_of_selects (args := #[]) (mvT hZ (own_w hw 77 rfl))) (mvT hZ (own_w hw 77 rfl)) (mvT hZ (own_w hw 76 rfl)) (by decide) (backOf (W := 0) (rmMOut l Z a0 hw [] ad5 (5 : Int32) Hc n0 (Nat.le_trans Z0 Kc0.1) Oc zc0 zc1 (by decide)) hZ (own_w hw 78 rfl) (own_w hw 3 rfl) (by decide) (by decide)) q197a q197c (g := (mkF m 421 #[.val (.int p1), .val (.ref b1), .val (.ref b104), .val (.int (5 : Int32))] [(.ref ad5)])) rfl (by rw [hml]; rfl) (Steps.refl _) (argsL := []) (rest := []) (lenOf pd_0 rfl) rfl (by show 2 * 0 + _ ≤ _; exact Nat.le_of_eq rfl) (hb hby at_421) (fun _ _ => ⟨rfl, ec, (by decide : 2 + 0 ≤ _), (by decide : 68 + 0 ≤ _)⟩)
  dsimp only [Pt.U, Pt.locs, Pt.cells, Pt.slots] at X197 l197 y197 z197 st197 hQ197
  subst l197 y197 z197
  obtain ⟨rfl, N197q, eh197⟩ := hQ197
  have N197 := Fr.app Nc N197q
  refine own_via st197 ?_
  obtain ⟨cl198, Ar198, q198, S198, M198, H198, G198⟩ := id zc2
  have hin198 : ¬ ((5 : Int32) < 0 ∨ cl198.slots.size ≤ ((5 : Int32)).toNatClampNeg) := inb_of S198 ⟨by decide, by decide⟩
  have hat198 : cl198.slots[((5 : Int32)).toNatClampNeg]? = some (.int (0 : Int32)) := Has.at H198 hin198 rfl
  refine own_go (A := T197.setTop (mkF m 435 #[.val (.int p1), .val (.ref b1), .val (.ref b104), .val (.int (5 : Int32))] [(.int (1 : Int32))])) (fun t_ k_ => ?_) ?_
  · show Steps p.tables e below (T197.setTop (mkF m 424 #[.val (.int p1), .val (.ref b1), .val (.ref b104), .val (.int (5 : Int32))] [(.int (0 : Int32))])) t_
    refine XS.aloadN X197.here hx rfl (hb hby at_424) rfl rfl ?_
    show Steps p.tables e below (T197.setTop (mkF m 425 #[.val (.int p1), .val (.ref b1), .val (.ref b104), .val (.int (5 : Int32))] [(.ref b104), (.int (0 : Int32))])) t_
    refine XS.iloadN X197.here hx rfl (hb hby at_425) rfl ?_
    show Steps p.tables e below (T197.setTop (mkF m 426 #[.val (.int p1), .val (.ref b1), .val (.ref b104), .val (.int (5 : Int32))] [(.int (5 : Int32)), (.ref b104), (.int (0 : Int32))])) t_
    refine X197.iaload hx (j := (5 : Int32)) (v := (.int (0 : Int32))) (by rw [eh197]; exact Ar198.1) (State.isArrayOf_alike hZ.alike Ar198.2.1) Ar198.2.2 hin198 hat198 (g := (mkF m 426 #[.val (.int p1), .val (.ref b1), .val (.ref b104), .val (.int (5 : Int32))] [(.int (5 : Int32)), (.ref b104), (.int (0 : Int32))])) rfl rfl (hb hby at_426) _ ?_
    show Steps p.tables e below (T197.setTop (mkF m 427 #[.val (.int p1), .val (.ref b1), .val (.ref b104), .val (.int (5 : Int32))] [(.int (0 : Int32)), (.int (0 : Int32))])) t_
    refine XS.icmpNo X197.here hx rfl (hb hby at_427) rfl (teq (by decide : (0 : Int32) = (0 : Int32))).2 ?_
    show Steps p.tables e below (T197.setTop (mkF m 430 #[.val (.int p1), .val (.ref b1), .val (.ref b104), .val (.int (5 : Int32))] [])) t_
    refine XS.iconst X197.here hx rfl (hb hby at_430) ?_
    show Steps p.tables e below (T197.setTop (mkF m 431 #[.val (.int p1), .val (.ref b1), .val (.ref b104), .val (.int (5 : Int32))] [(.int (1 : Int32))])) t_
    refine XS.goto X197.here hx rfl (pc0 := 431) (pc' := 435) rfl (hb hby at_431) (by decide) (by decide) ?_
    exact k_
  obtain ⟨fs199, hr199, hrun199, hended199, hW199, hsame199⟩ := X197.leave (v := some (.int (1 : Int32))) (fun h => by rw [hret] at h; cases h)
  refine ⟨_, _, ?_, hrun199, hended199, _, _, rfl, ?_, ⟨_, rfl⟩, hW199, hsame199.mono (by decide) (by decide)⟩
  · exact retN X197 hx (t := .boolean) hret (by simp) (hb hby at_435) hr199
  · show Q_rm0 Z p1 ad0 ad1 ad2 ad3 ad4 ad5 ad6 ad7 ad8 ad9 ad10 ad11 ad12 ad13 ad14 ad15 ad16 ad17 ad18 ad19 ad20 ad21 ad22 ad23 ad24 ad25 ad26 ad27 ad28 ad29 ad30 ad31 ad32 ad33 h0 n0 _ T197.heap _
    rw [eh197]
    exact ⟨rfl, N197, Kc0⟩
set_option maxRecDepth 65536 in
set_option maxHeartbeats 40000000 in
theorem own_sufad6 (l : Launch) (Z : State) (a0 : Array Value) (hw : ∀ d ∈ tables_1, d.before a0 Z = true) (p1 : Int32) (ad0 : Addr) (ad1 : Addr) (ad2 : Addr) (ad3 : Addr) (ad4 : Addr) (ad5 : Addr) (ad6 : Addr) (ad7 : Addr) (ad8 : Addr) (ad9 : Addr) (ad10 : Addr) (ad11 : Addr) (ad12 : Addr) (ad13 : Addr) (ad14 : Addr) (ad15 : Addr) (ad16 : Addr) (ad17 : Addr) (ad18 : Addr) (ad19 : Addr) (ad20 : Addr) (ad21 : Addr) (ad22 : Addr) (ad23 : Addr) (ad24 : Addr) (ad25 : Addr) (ad26 : Addr) (ad27 : Addr) (ad28 : Addr) (ad29 : Addr) (ad30 : Addr) (ad31 : Addr) (ad32 : Addr) (ad33 : Addr) (b1 : Addr) (b104 : Addr) (k104 : ClassId) (h0 : Heap) (n0 : Nat) (Z0 : n0 ≤ h0.size) {p : Program} {e : Env} {s : State} {m : MethodId} {below : List Frame} {meth : Method} {c : Code} {Tc : State} {Hc : Heap} {locsc : List Loc} (Xc : Stand p l e room_1 s m #[(.int p1)] below meth c Tc locsc 2 68) (hx : p.tables.exec = Jvm.exec) (hZ : Z.Warmed39 s.vm) (hby : c.code = code) (hml : c.maxLocals = 4) (hown : s.vm.findClass "com/example/querent/querent/dicom/VrBinaryNumberLengthPinLaw" = some m.cls) (hret : meth.sig.returnType = some .boolean) (hlk : meth.locks = false) (hh : s.heap = h0) (ec : Tc.heap = Hc) (Nc : Fr n0 locsc) (Kc0 : Keep h0 Hc []) (Oc : Old Z n0 Hc) (zc0 : Exa Z Z.heap ad6 "com/example/querent/querent/dicom/Vr") (zc1 : Fld Z Z.heap ad6 "java/lang/Enum" "ordinal" "I" (.int (6 : Int32))) (zc2 : Arv Z Hc b104 k104 .int (34 : Int32) [(.int (0 : Int32)), (.int (0 : Int32)), (.int (0 : Int32)), (.int (0 : Int32)), (.int (0 : Int32)), (.int (0 : Int32)), (.int (0 : Int32)), (.int (8 : Int32)), (.int (4 : Int32)), (.int (0 : Int32)), (.int (0 : Int32)), (.int (0 : Int32)), (.int (0 : Int32)), (.int (0 : Int32)), (.int (0 : Int32)), (.int (0 : Int32)), (.int (0 : Int32)), (.int (0 : Int32)), (.int (0 : Int32)), (.int (0 : Int32)), (.int (4 : Int32)), (.int (0 : Int32)), (.int (2 : Int32)), (.int (0 : Int32)), (.int (8 : Int32)), (.int (0 : Int32)), (.int (0 : Int32)), (.int (0 : Int32)), (.int (4 : Int32)), (.int (0 : Int32)), (.int (0 : Int32)), (.int (2 : Int32)), (.int (0 : Int32)), (.int (8 : Int32))] (.int (0 : Int32))) (gc3 : n0 ≤ b104) (sc3 : h0.size ≤ b104) :
    ∃ U_ o_, Steps p.tables e below (Tc.setTop (mkF m 421 #[.val (.int p1), .val (.ref b1), .val (.ref b104), .val (.int (6 : Int32))] [(.ref ad6)])) U_ ∧ U_.status = .running ∧ Ended U_ below o_ ∧ (∃ v_ L_, o_ = .returned v_ ∧ Q_rm0 Z p1 ad0 ad1 ad2 ad3 ad4 ad5 ad6 ad7 ad8 ad9 ad10 ad11 ad12 ad13 ad14 ad15 ad16 ad17 ad18 ad19 ad20 ad21 ad22 ad23 ad24 ad25 ad26 ad27 ad28 ad29 ad30 ad31 ad32 ad33 h0 n0 v_ U_.heap L_ ∧ FrameEnd s o_ U_ L_ room_1.cells room_1.slots) := by
  obtain ⟨cq201, kq201, q201a, q201b, q201c⟩ := isOf hZ ec (zc0.ext Oc.2)
  obtain ⟨_, _, ⟨T201, L201, k201, n201⟩, -, X201, ⟨Lc201, hQ201, l201, y201, z201⟩, st201⟩ := Xc.virtualBack hx (y := own_y2) (z := own_y2) hown (mvT hZ (own_w hw 74 rfl)) (mvT hZ (own_w hw 75 rfl)) (notFace_of_selects (args := #[]) (mvT hZ (own_w hw 77 rfl))) (mvT hZ (own_w hw 77 rfl)) (mvT hZ (own_w hw 76 rfl)) (by decide) (backOf (W := 0) (rmMOut l Z a0 hw [] ad6 (6 : Int32) Hc n0 (Nat.le_trans Z0 Kc0.1) Oc zc0 zc1 (by decide)) hZ (own_w hw 78 rfl) (own_w hw 3 rfl) (by decide) (by decide)) q201a q201c (g := (mkF m 421 #[.val (.int p1), .val (.ref b1), .val (.ref b104), .val (.int (6 : Int32))] [(.ref ad6)])) rfl (by rw [hml]; rfl) (Steps.refl _) (argsL := []) (rest := []) (lenOf pd_0 rfl) rfl (by show 2 * 0 + _ ≤ _; exact Nat.le_of_eq rfl) (hb hby at_421) (fun _ _ => ⟨rfl, ec, (by decide : 2 + 0 ≤ _), (by decide : 68 + 0 ≤ _)⟩)
  dsimp only [Pt.U, Pt.locs, Pt.cells, Pt.slots] at X201 l201 y201 z201 st201 hQ201
  subst l201 y201 z201
  obtain ⟨rfl, N201q, eh201⟩ := hQ201
  have N201 := Fr.app Nc N201q
  refine own_via st201 ?_
  obtain ⟨cl202, Ar202, q202, S202, M202, H202, G202⟩ := id zc2
  have hin202 : ¬ ((6 : Int32) < 0 ∨ cl202.slots.size ≤ ((6 : Int32)).toNatClampNeg) := inb_of S202 ⟨by decide, by decide⟩
  have hat202 : cl202.slots[((6 : Int32)).toNatClampNeg]? = some (.int (0 : Int32)) := Has.at H202 hin202 rfl
  refine own_go (A := T201.setTop (mkF m 435 #[.val (.int p1), .val (.ref b1), .val (.ref b104), .val (.int (6 : Int32))] [(.int (1 : Int32))])) (fun t_ k_ => ?_) ?_
  · show Steps p.tables e below (T201.setTop (mkF m 424 #[.val (.int p1), .val (.ref b1), .val (.ref b104), .val (.int (6 : Int32))] [(.int (0 : Int32))])) t_
    refine XS.aloadN X201.here hx rfl (hb hby at_424) rfl rfl ?_
    show Steps p.tables e below (T201.setTop (mkF m 425 #[.val (.int p1), .val (.ref b1), .val (.ref b104), .val (.int (6 : Int32))] [(.ref b104), (.int (0 : Int32))])) t_
    refine XS.iloadN X201.here hx rfl (hb hby at_425) rfl ?_
    show Steps p.tables e below (T201.setTop (mkF m 426 #[.val (.int p1), .val (.ref b1), .val (.ref b104), .val (.int (6 : Int32))] [(.int (6 : Int32)), (.ref b104), (.int (0 : Int32))])) t_
    refine X201.iaload hx (j := (6 : Int32)) (v := (.int (0 : Int32))) (by rw [eh201]; exact Ar202.1) (State.isArrayOf_alike hZ.alike Ar202.2.1) Ar202.2.2 hin202 hat202 (g := (mkF m 426 #[.val (.int p1), .val (.ref b1), .val (.ref b104), .val (.int (6 : Int32))] [(.int (6 : Int32)), (.ref b104), (.int (0 : Int32))])) rfl rfl (hb hby at_426) _ ?_
    show Steps p.tables e below (T201.setTop (mkF m 427 #[.val (.int p1), .val (.ref b1), .val (.ref b104), .val (.int (6 : Int32))] [(.int (0 : Int32)), (.int (0 : Int32))])) t_
    refine XS.icmpNo X201.here hx rfl (hb hby at_427) rfl (teq (by decide : (0 : Int32) = (0 : Int32))).2 ?_
    show Steps p.tables e below (T201.setTop (mkF m 430 #[.val (.int p1), .val (.ref b1), .val (.ref b104), .val (.int (6 : Int32))] [])) t_
    refine XS.iconst X201.here hx rfl (hb hby at_430) ?_
    show Steps p.tables e below (T201.setTop (mkF m 431 #[.val (.int p1), .val (.ref b1), .val (.ref b104), .val (.int (6 : Int32))] [(.int (1 : Int32))])) t_
    refine XS.goto X201.here hx rfl (pc0 := 431) (pc' := 435) rfl (hb hby at_431) (by decide) (by decide) ?_
    exact k_
  obtain ⟨fs203, hr203, hrun203, hended203, hW203, hsame203⟩ := X201.leave (v := some (.int (1 : Int32))) (fun h => by rw [hret] at h; cases h)
  refine ⟨_, _, ?_, hrun203, hended203, _, _, rfl, ?_, ⟨_, rfl⟩, hW203, hsame203.mono (by decide) (by decide)⟩
  · exact retN X201 hx (t := .boolean) hret (by simp) (hb hby at_435) hr203
  · show Q_rm0 Z p1 ad0 ad1 ad2 ad3 ad4 ad5 ad6 ad7 ad8 ad9 ad10 ad11 ad12 ad13 ad14 ad15 ad16 ad17 ad18 ad19 ad20 ad21 ad22 ad23 ad24 ad25 ad26 ad27 ad28 ad29 ad30 ad31 ad32 ad33 h0 n0 _ T201.heap _
    rw [eh201]
    exact ⟨rfl, N201, Kc0⟩
set_option maxRecDepth 65536 in
set_option maxHeartbeats 40000000 in
theorem own_sufad7 (l : Launch) (Z : State) (a0 : Array Value) (hw : ∀ d ∈ tables_1, d.before a0 Z = true) (p1 : Int32) (ad0 : Addr) (ad1 : Addr) (ad2 : Addr) (ad3 : Addr) (ad4 : Addr) (ad5 : Addr) (ad6 : Addr) (ad7 : Addr) (ad8 : Addr) (ad9 : Addr) (ad10 : Addr) (ad11 : Addr) (ad12 : Addr) (ad13 : Addr) (ad14 : Addr) (ad15 : Addr) (ad16 : Addr) (ad17 : Addr) (ad18 : Addr) (ad19 : Addr) (ad20 : Addr) (ad21 : Addr) (ad22 : Addr) (ad23 : Addr) (ad24 : Addr) (ad25 : Addr) (ad26 : Addr) (ad27 : Addr) (ad28 : Addr) (ad29 : Addr) (ad30 : Addr) (ad31 : Addr) (ad32 : Addr) (ad33 : Addr) (b1 : Addr) (b104 : Addr) (k104 : ClassId) (h0 : Heap) (n0 : Nat) (Z0 : n0 ≤ h0.size) {p : Program} {e : Env} {s : State} {m : MethodId} {below : List Frame} {meth : Method} {c : Code} {Tc : State} {Hc : Heap} {locsc : List Loc} (Xc : Stand p l e room_1 s m #[(.int p1)] below meth c Tc locsc 2 68) (hx : p.tables.exec = Jvm.exec) (hZ : Z.Warmed39 s.vm) (hby : c.code = code) (hml : c.maxLocals = 4) (hown : s.vm.findClass "com/example/querent/querent/dicom/VrBinaryNumberLengthPinLaw" = some m.cls) (hret : meth.sig.returnType = some .boolean) (hlk : meth.locks = false) (hh : s.heap = h0) (ec : Tc.heap = Hc) (Nc : Fr n0 locsc) (Kc0 : Keep h0 Hc []) (Oc : Old Z n0 Hc) (zc0 : Exa Z Z.heap ad7 "com/example/querent/querent/dicom/Vr") (zc1 : Fld Z Z.heap ad7 "java/lang/Enum" "ordinal" "I" (.int (7 : Int32))) (zc2 : Arv Z Hc b104 k104 .int (34 : Int32) [(.int (0 : Int32)), (.int (0 : Int32)), (.int (0 : Int32)), (.int (0 : Int32)), (.int (0 : Int32)), (.int (0 : Int32)), (.int (0 : Int32)), (.int (8 : Int32)), (.int (4 : Int32)), (.int (0 : Int32)), (.int (0 : Int32)), (.int (0 : Int32)), (.int (0 : Int32)), (.int (0 : Int32)), (.int (0 : Int32)), (.int (0 : Int32)), (.int (0 : Int32)), (.int (0 : Int32)), (.int (0 : Int32)), (.int (0 : Int32)), (.int (4 : Int32)), (.int (0 : Int32)), (.int (2 : Int32)), (.int (0 : Int32)), (.int (8 : Int32)), (.int (0 : Int32)), (.int (0 : Int32)), (.int (0 : Int32)), (.int (4 : Int32)), (.int (0 : Int32)), (.int (0 : Int32)), (.int (2 : Int32)), (.int (0 : Int32)), (.int (8 : Int32))] (.int (0 : Int32))) (gc3 : n0 ≤ b104) (sc3 : h0.size ≤ b104) :
    ∃ U_ o_, Steps p.tables e below (Tc.setTop (mkF m 421 #[.val (.int p1), .val (.ref b1), .val (.ref b104), .val (.int (7 : Int32))] [(.ref ad7)])) U_ ∧ U_.status = .running ∧ Ended U_ below o_ ∧ (∃ v_ L_, o_ = .returned v_ ∧ Q_rm0 Z p1 ad0 ad1 ad2 ad3 ad4 ad5 ad6 ad7 ad8 ad9 ad10 ad11 ad12 ad13 ad14 ad15 ad16 ad17 ad18 ad19 ad20 ad21 ad22 ad23 ad24 ad25 ad26 ad27 ad28 ad29 ad30 ad31 ad32 ad33 h0 n0 v_ U_.heap L_ ∧ FrameEnd s o_ U_ L_ room_1.cells room_1.slots) := by
  obtain ⟨cq205, kq205, q205a, q205b, q205c⟩ := isOf hZ ec (zc0.ext Oc.2)
  obtain ⟨_, _, ⟨T205, L205, k205, n205⟩, -, X205, ⟨Lc205, hQ205, l205, y205, z205⟩, st205⟩ := Xc.virtualBack hx (y := own_y2) (z := own_y2) hown (mvT hZ (own_w hw 74 rfl)) (mvT hZ (own_w hw 75 rfl)) (notFace_of_selects (args := #[]) (mvT hZ (own_w hw 77 rfl))) (mvT hZ (own_w hw 77 rfl)) (mvT hZ (own_w hw 76 rfl)) (by decide) (backOf (W := 0) (rmMIn132 l Z a0 hw [] ad7 (7 : Int32) Hc n0 (Nat.le_trans Z0 Kc0.1) Oc zc0 zc1 (by decide) (by decide)) hZ (own_w hw 78 rfl) (own_w hw 3 rfl) (by decide) (by decide)) q205a q205c (g := (mkF m 421 #[.val (.int p1), .val (.ref b1), .val (.ref b104), .val (.int (7 : Int32))] [(.ref ad7)])) rfl (by rw [hml]; rfl) (Steps.refl _) (argsL := []) (rest := []) (lenOf pd_0 rfl) rfl (by show 2 * 0 + _ ≤ _; exact Nat.le_of_eq rfl) (hb hby at_421) (fun _ _ => ⟨rfl, ec, (by decide : 2 + 0 ≤ _), (by decide : 68 + 0 ≤ _)⟩)
  dsimp only [Pt.U, Pt.locs, Pt.cells, Pt.slots] at X205 l205 y205 z205 st205 hQ205
  subst l205 y205 z205
  obtain ⟨rfl, N205q, eh205⟩ := hQ205
  have N205 := Fr.app Nc N205q
  refine own_via st205 ?_
  obtain ⟨cl206, Ar206, q206, S206, M206, H206, G206⟩ := id zc2
  have hin206 : ¬ ((7 : Int32) < 0 ∨ cl206.slots.size ≤ ((7 : Int32)).toNatClampNeg) := inb_of S206 ⟨by decide, by decide⟩
  have hat206 : cl206.slots[((7 : Int32)).toNatClampNeg]? = some (.int (8 : Int32)) := Has.at H206 hin206 rfl
  refine own_go (A := T205.setTop (mkF m 435 #[.val (.int p1), .val (.ref b1), .val (.ref b104), .val (.int (7 : Int32))] [(.int (1 : Int32))])) (fun t_ k_ => ?_) ?_
  · show Steps p.tables e below (T205.setTop (mkF m 424 #[.val (.int p1), .val (.ref b1), .val (.ref b104), .val (.int (7 : Int32))] [(.int (8 : Int32))])) t_
    refine XS.aloadN X205.here hx rfl (hb hby at_424) rfl rfl ?_
    show Steps p.tables e below (T205.setTop (mkF m 425 #[.val (.int p1), .val (.ref b1), .val (.ref b104), .val (.int (7 : Int32))] [(.ref b104), (.int (8 : Int32))])) t_
    refine XS.iloadN X205.here hx rfl (hb hby at_425) rfl ?_
    show Steps p.tables e below (T205.setTop (mkF m 426 #[.val (.int p1), .val (.ref b1), .val (.ref b104), .val (.int (7 : Int32))] [(.int (7 : Int32)), (.ref b104), (.int (8 : Int32))])) t_
    refine X205.iaload hx (j := (7 : Int32)) (v := (.int (8 : Int32))) (by rw [eh205]; exact Ar206.1) (State.isArrayOf_alike hZ.alike Ar206.2.1) Ar206.2.2 hin206 hat206 (g := (mkF m 426 #[.val (.int p1), .val (.ref b1), .val (.ref b104), .val (.int (7 : Int32))] [(.int (7 : Int32)), (.ref b104), (.int (8 : Int32))])) rfl rfl (hb hby at_426) _ ?_
    show Steps p.tables e below (T205.setTop (mkF m 427 #[.val (.int p1), .val (.ref b1), .val (.ref b104), .val (.int (7 : Int32))] [(.int (8 : Int32)), (.int (8 : Int32))])) t_
    refine XS.icmpNo X205.here hx rfl (hb hby at_427) rfl (teq (by decide : (8 : Int32) = (8 : Int32))).2 ?_
    show Steps p.tables e below (T205.setTop (mkF m 430 #[.val (.int p1), .val (.ref b1), .val (.ref b104), .val (.int (7 : Int32))] [])) t_
    refine XS.iconst X205.here hx rfl (hb hby at_430) ?_
    show Steps p.tables e below (T205.setTop (mkF m 431 #[.val (.int p1), .val (.ref b1), .val (.ref b104), .val (.int (7 : Int32))] [(.int (1 : Int32))])) t_
    refine XS.goto X205.here hx rfl (pc0 := 431) (pc' := 435) rfl (hb hby at_431) (by decide) (by decide) ?_
    exact k_
  obtain ⟨fs207, hr207, hrun207, hended207, hW207, hsame207⟩ := X205.leave (v := some (.int (1 : Int32))) (fun h => by rw [hret] at h; cases h)
  refine ⟨_, _, ?_, hrun207, hended207, _, _, rfl, ?_, ⟨_, rfl⟩, hW207, hsame207.mono (by decide) (by decide)⟩
  · exact retN X205 hx (t := .boolean) hret (by simp) (hb hby at_435) hr207
  · show Q_rm0 Z p1 ad0 ad1 ad2 ad3 ad4 ad5 ad6 ad7 ad8 ad9 ad10 ad11 ad12 ad13 ad14 ad15 ad16 ad17 ad18 ad19 ad20 ad21 ad22 ad23 ad24 ad25 ad26 ad27 ad28 ad29 ad30 ad31 ad32 ad33 h0 n0 _ T205.heap _
    rw [eh205]
    exact ⟨rfl, N205, Kc0⟩
set_option maxRecDepth 65536 in
set_option maxHeartbeats 40000000 in
theorem own_sufad8 (l : Launch) (Z : State) (a0 : Array Value) (hw : ∀ d ∈ tables_1, d.before a0 Z = true) (p1 : Int32) (ad0 : Addr) (ad1 : Addr) (ad2 : Addr) (ad3 : Addr) (ad4 : Addr) (ad5 : Addr) (ad6 : Addr) (ad7 : Addr) (ad8 : Addr) (ad9 : Addr) (ad10 : Addr) (ad11 : Addr) (ad12 : Addr) (ad13 : Addr) (ad14 : Addr) (ad15 : Addr) (ad16 : Addr) (ad17 : Addr) (ad18 : Addr) (ad19 : Addr) (ad20 : Addr) (ad21 : Addr) (ad22 : Addr) (ad23 : Addr) (ad24 : Addr) (ad25 : Addr) (ad26 : Addr) (ad27 : Addr) (ad28 : Addr) (ad29 : Addr) (ad30 : Addr) (ad31 : Addr) (ad32 : Addr) (ad33 : Addr) (b1 : Addr) (b104 : Addr) (k104 : ClassId) (h0 : Heap) (n0 : Nat) (Z0 : n0 ≤ h0.size) {p : Program} {e : Env} {s : State} {m : MethodId} {below : List Frame} {meth : Method} {c : Code} {Tc : State} {Hc : Heap} {locsc : List Loc} (Xc : Stand p l e room_1 s m #[(.int p1)] below meth c Tc locsc 2 68) (hx : p.tables.exec = Jvm.exec) (hZ : Z.Warmed39 s.vm) (hby : c.code = code) (hml : c.maxLocals = 4) (hown : s.vm.findClass "com/example/querent/querent/dicom/VrBinaryNumberLengthPinLaw" = some m.cls) (hret : meth.sig.returnType = some .boolean) (hlk : meth.locks = false) (hh : s.heap = h0) (ec : Tc.heap = Hc) (Nc : Fr n0 locsc) (Kc0 : Keep h0 Hc []) (Oc : Old Z n0 Hc) (zc0 : Exa Z Z.heap ad8 "com/example/querent/querent/dicom/Vr") (zc1 : Fld Z Z.heap ad8 "java/lang/Enum" "ordinal" "I" (.int (8 : Int32))) (zc2 : Arv Z Hc b104 k104 .int (34 : Int32) [(.int (0 : Int32)), (.int (0 : Int32)), (.int (0 : Int32)), (.int (0 : Int32)), (.int (0 : Int32)), (.int (0 : Int32)), (.int (0 : Int32)), (.int (8 : Int32)), (.int (4 : Int32)), (.int (0 : Int32)), (.int (0 : Int32)), (.int (0 : Int32)), (.int (0 : Int32)), (.int (0 : Int32)), (.int (0 : Int32)), (.int (0 : Int32)), (.int (0 : Int32)), (.int (0 : Int32)), (.int (0 : Int32)), (.int (0 : Int32)), (.int (4 : Int32)), (.int (0 : Int32)), (.int (2 : Int32)), (.int (0 : Int32)), (.int (8 : Int32)), (.int (0 : Int32)), (.int (0 : Int32)), (.int (0 : Int32)), (.int (4 : Int32)), (.int (0 : Int32)), (.int (0 : Int32)), (.int (2 : Int32)), (.int (0 : Int32)), (.int (8 : Int32))] (.int (0 : Int32))) (gc3 : n0 ≤ b104) (sc3 : h0.size ≤ b104) :
    ∃ U_ o_, Steps p.tables e below (Tc.setTop (mkF m 421 #[.val (.int p1), .val (.ref b1), .val (.ref b104), .val (.int (8 : Int32))] [(.ref ad8)])) U_ ∧ U_.status = .running ∧ Ended U_ below o_ ∧ (∃ v_ L_, o_ = .returned v_ ∧ Q_rm0 Z p1 ad0 ad1 ad2 ad3 ad4 ad5 ad6 ad7 ad8 ad9 ad10 ad11 ad12 ad13 ad14 ad15 ad16 ad17 ad18 ad19 ad20 ad21 ad22 ad23 ad24 ad25 ad26 ad27 ad28 ad29 ad30 ad31 ad32 ad33 h0 n0 v_ U_.heap L_ ∧ FrameEnd s o_ U_ L_ room_1.cells room_1.slots) := by
  obtain ⟨cq209, kq209, q209a, q209b, q209c⟩ := isOf hZ ec (zc0.ext Oc.2)
  obtain ⟨_, _, ⟨T209, L209, k209, n209⟩, -, X209, ⟨Lc209, hQ209, l209, y209, z209⟩, st209⟩ := Xc.virtualBack hx (y := own_y2) (z := own_y2) hown (mvT hZ (own_w hw 74 rfl)) (mvT hZ (own_w hw 75 rfl)) (notFace_of_selects (args := #[]) (mvT hZ (own_w hw 77 rfl))) (mvT hZ (own_w hw 77 rfl)) (mvT hZ (own_w hw 76 rfl)) (by decide) (backOf (W := 0) (rmMIn128 l Z a0 hw [] ad8 (8 : Int32) Hc n0 (Nat.le_trans Z0 Kc0.1) Oc zc0 zc1 (by decide) (by decide)) hZ (own_w hw 78 rfl) (own_w hw 3 rfl) (by decide) (by decide)) q209a q209c (g := (mkF m 421 #[.val (.int p1), .val (.ref b1), .val (.ref b104), .val (.int (8 : Int32))] [(.ref ad8)])) rfl (by rw [hml]; rfl) (Steps.refl _) (argsL := []) (rest := []) (lenOf pd_0 rfl) rfl (by show 2 * 0 + _ ≤ _; exact Nat.le_of_eq rfl) (hb hby at_421) (fun _ _ => ⟨rfl, ec, (by decide : 2 + 0 ≤ _), (by decide : 68 + 0 ≤ _)⟩)
  dsimp only [Pt.U, Pt.locs, Pt.cells, Pt.slots] at X209 l209 y209 z209 st209 hQ209
  subst l209 y209 z209
  obtain ⟨rfl, N209q, eh209⟩ := hQ209
  have N209 := Fr.app Nc N209q
  refine own_via st209 ?_
  obtain ⟨cl210, Ar210, q210, S210, M210, H210, G210⟩ := id zc2
  have hin210 : ¬ ((8 : Int32) < 0 ∨ cl210.slots.size ≤ ((8 : Int32)).toNatClampNeg) := inb_of S210 ⟨by decide, by decide⟩
  have hat210 : cl210.slots[((8 : Int32)).toNatClampNeg]? = some (.int (4 : Int32)) := Has.at H210 hin210 rfl
  refine own_go (A := T209.setTop (mkF m 435 #[.val (.int p1), .val (.ref b1), .val (.ref b104), .val (.int (8 : Int32))] [(.int (1 : Int32))])) (fun t_ k_ => ?_) ?_
  · show Steps p.tables e below (T209.setTop (mkF m 424 #[.val (.int p1), .val (.ref b1), .val (.ref b104), .val (.int (8 : Int32))] [(.int (4 : Int32))])) t_
    refine XS.aloadN X209.here hx rfl (hb hby at_424) rfl rfl ?_
    show Steps p.tables e below (T209.setTop (mkF m 425 #[.val (.int p1), .val (.ref b1), .val (.ref b104), .val (.int (8 : Int32))] [(.ref b104), (.int (4 : Int32))])) t_
    refine XS.iloadN X209.here hx rfl (hb hby at_425) rfl ?_
    show Steps p.tables e below (T209.setTop (mkF m 426 #[.val (.int p1), .val (.ref b1), .val (.ref b104), .val (.int (8 : Int32))] [(.int (8 : Int32)), (.ref b104), (.int (4 : Int32))])) t_
    refine X209.iaload hx (j := (8 : Int32)) (v := (.int (4 : Int32))) (by rw [eh209]; exact Ar210.1) (State.isArrayOf_alike hZ.alike Ar210.2.1) Ar210.2.2 hin210 hat210 (g := (mkF m 426 #[.val (.int p1), .val (.ref b1), .val (.ref b104), .val (.int (8 : Int32))] [(.int (8 : Int32)), (.ref b104), (.int (4 : Int32))])) rfl rfl (hb hby at_426) _ ?_
    show Steps p.tables e below (T209.setTop (mkF m 427 #[.val (.int p1), .val (.ref b1), .val (.ref b104), .val (.int (8 : Int32))] [(.int (4 : Int32)), (.int (4 : Int32))])) t_
    refine XS.icmpNo X209.here hx rfl (hb hby at_427) rfl (teq (by decide : (4 : Int32) = (4 : Int32))).2 ?_
    show Steps p.tables e below (T209.setTop (mkF m 430 #[.val (.int p1), .val (.ref b1), .val (.ref b104), .val (.int (8 : Int32))] [])) t_
    refine XS.iconst X209.here hx rfl (hb hby at_430) ?_
    show Steps p.tables e below (T209.setTop (mkF m 431 #[.val (.int p1), .val (.ref b1), .val (.ref b104), .val (.int (8 : Int32))] [(.int (1 : Int32))])) t_
    refine XS.goto X209.here hx rfl (pc0 := 431) (pc' := 435) rfl (hb hby at_431) (by decide) (by decide) ?_
    exact k_
  obtain ⟨fs211, hr211, hrun211, hended211, hW211, hsame211⟩ := X209.leave (v := some (.int (1 : Int32))) (fun h => by rw [hret] at h; cases h)
  refine ⟨_, _, ?_, hrun211, hended211, _, _, rfl, ?_, ⟨_, rfl⟩, hW211, hsame211.mono (by decide) (by decide)⟩
  · exact retN X209 hx (t := .boolean) hret (by simp) (hb hby at_435) hr211
  · show Q_rm0 Z p1 ad0 ad1 ad2 ad3 ad4 ad5 ad6 ad7 ad8 ad9 ad10 ad11 ad12 ad13 ad14 ad15 ad16 ad17 ad18 ad19 ad20 ad21 ad22 ad23 ad24 ad25 ad26 ad27 ad28 ad29 ad30 ad31 ad32 ad33 h0 n0 _ T209.heap _
    rw [eh209]
    exact ⟨rfl, N209, Kc0⟩
set_option maxRecDepth 65536 in
set_option maxHeartbeats 40000000 in
theorem own_sufad9 (l : Launch) (Z : State) (a0 : Array Value) (hw : ∀ d ∈ tables_1, d.before a0 Z = true) (p1 : Int32) (ad0 : Addr) (ad1 : Addr) (ad2 : Addr) (ad3 : Addr) (ad4 : Addr) (ad5 : Addr) (ad6 : Addr) (ad7 : Addr) (ad8 : Addr) (ad9 : Addr) (ad10 : Addr) (ad11 : Addr) (ad12 : Addr) (ad13 : Addr) (ad14 : Addr) (ad15 : Addr) (ad16 : Addr) (ad17 : Addr) (ad18 : Addr) (ad19 : Addr) (ad20 : Addr) (ad21 : Addr) (ad22 : Addr) (ad23 : Addr) (ad24 : Addr) (ad25 : Addr) (ad26 : Addr) (ad27 : Addr) (ad28 : Addr) (ad29 : Addr) (ad30 : Addr) (ad31 : Addr) (ad32 : Addr) (ad33 : Addr) (b1 : Addr) (b104 : Addr) (k104 : ClassId) (h0 : Heap) (n0 : Nat) (Z0 : n0 ≤ h0.size) {p : Program} {e : Env} {s : State} {m : MethodId} {below : List Frame} {meth : Method} {c : Code} {Tc : State} {Hc : Heap} {locsc : List Loc} (Xc : Stand p l e room_1 s m #[(.int p1)] below meth c Tc locsc 2 68) (hx : p.tables.exec = Jvm.exec) (hZ : Z.Warmed39 s.vm) (hby : c.code = code) (hml : c.maxLocals = 4) (hown : s.vm.findClass "com/example/querent/querent/dicom/VrBinaryNumberLengthPinLaw" = some m.cls) (hret : meth.sig.returnType = some .boolean) (hlk : meth.locks = false) (hh : s.heap = h0) (ec : Tc.heap = Hc) (Nc : Fr n0 locsc) (Kc0 : Keep h0 Hc []) (Oc : Old Z n0 Hc) (zc0 : Exa Z Z.heap ad9 "com/example/querent/querent/dicom/Vr") (zc1 : Fld Z Z.heap ad9 "java/lang/Enum" "ordinal" "I" (.int (9 : Int32))) (zc2 : Arv Z Hc b104 k104 .int (34 : Int32) [(.int (0 : Int32)), (.int (0 : Int32)), (.int (0 : Int32)), (.int (0 : Int32)), (.int (0 : Int32)), (.int (0 : Int32)), (.int (0 : Int32)), (.int (8 : Int32)), (.int (4 : Int32)), (.int (0 : Int32)), (.int (0 : Int32)), (.int (0 : Int32)), (.int (0 : Int32)), (.int (0 : Int32)), (.int (0 : Int32)), (.int (0 : Int32)), (.int (0 : Int32)), (.int (0 : Int32)), (.int (0 : Int32)), (.int (0 : Int32)), (.int (4 : Int32)), (.int (0 : Int32)), (.int (2 : Int32)), (.int (0 : Int32)), (.int (8 : Int32)), (.int (0 : Int32)), (.int (0 : Int32)), (.int (0 : Int32)), (.int (4 : Int32)), (.int (0 : Int32)), (.int (0 : Int32)), (.int (2 : Int32)), (.int (0 : Int32)), (.int (8 : Int32))] (.int (0 : Int32))) (gc3 : n0 ≤ b104) (sc3 : h0.size ≤ b104) :
    ∃ U_ o_, Steps p.tables e below (Tc.setTop (mkF m 421 #[.val (.int p1), .val (.ref b1), .val (.ref b104), .val (.int (9 : Int32))] [(.ref ad9)])) U_ ∧ U_.status = .running ∧ Ended U_ below o_ ∧ (∃ v_ L_, o_ = .returned v_ ∧ Q_rm0 Z p1 ad0 ad1 ad2 ad3 ad4 ad5 ad6 ad7 ad8 ad9 ad10 ad11 ad12 ad13 ad14 ad15 ad16 ad17 ad18 ad19 ad20 ad21 ad22 ad23 ad24 ad25 ad26 ad27 ad28 ad29 ad30 ad31 ad32 ad33 h0 n0 v_ U_.heap L_ ∧ FrameEnd s o_ U_ L_ room_1.cells room_1.slots) := by
  obtain ⟨cq213, kq213, q213a, q213b, q213c⟩ := isOf hZ ec (zc0.ext Oc.2)
  obtain ⟨_, _, ⟨T213, L213, k213, n213⟩, -, X213, ⟨Lc213, hQ213, l213, y213, z213⟩, st213⟩ := Xc.virtualBack hx (y := own_y2) (z := own_y2) hown (mvT hZ (own_w hw 74 rfl)) (mvT hZ (own_w hw 75 rfl)) (notFace_of_selects (args := #[]) (mvT hZ (own_w hw 77 rfl))) (mvT hZ (own_w hw 77 rfl)) (mvT hZ (own_w hw 76 rfl)) (by decide) (backOf (W := 0) (rmMIn137 l Z a0 hw [] ad9 (9 : Int32) Hc n0 (Nat.le_trans Z0 Kc0.1) Oc zc0 zc1 (by decide) (by decide)) hZ (own_w hw 78 rfl) (own_w hw 3 rfl) (by decide) (by decide)) q213a q213c (g := (mkF m 421 #[.val (.int p1), .val (.ref b1), .val (.ref b104), .val (.int (9 : Int32))] [(.ref ad9)])) rfl (by rw [hml]; rfl) (Steps.refl _) (argsL := []) (rest := []) (lenOf pd_0 rfl) rfl (by show 2 * 0 + _ ≤ _; exact Nat.le_of_eq rfl) (hb hby at_421) (fun _ _ => ⟨rfl, ec, (by decide : 2 + 0 ≤ _), (by decide : 68 + 0 ≤ _)⟩)
  dsimp only [Pt.U, Pt.locs, Pt.cells, Pt.slots] at X213 l213 y213 z213 st213 hQ213
  subst l213 y213 z213
  obtain ⟨rfl, N213q, eh213⟩ := hQ213
  have N213 := Fr.app Nc N213q
  refine own_via st213 ?_
  obtain ⟨cl214, Ar214, q214, S214, M214, H214, G214⟩ := id zc2
  have hin214 : ¬ ((9 : Int32) < 0 ∨ cl214.slots.size ≤ ((9 : Int32)).toNatClampNeg) := inb_of S214 ⟨by decide, by decide⟩
  have hat214 : cl214.slots[((9 : Int32)).toNatClampNeg]? = some (.int (0 : Int32)) := Has.at H214 hin214 rfl
  refine own_go (A := T213.setTop (mkF m 435 #[.val (.int p1), .val (.ref b1), .val (.ref b104), .val (.int (9 : Int32))] [(.int (1 : Int32))])) (fun t_ k_ => ?_) ?_
  · show Steps p.tables e below (T213.setTop (mkF m 424 #[.val (.int p1), .val (.ref b1), .val (.ref b104), .val (.int (9 : Int32))] [(.int (0 : Int32))])) t_
    refine XS.aloadN X213.here hx rfl (hb hby at_424) rfl rfl ?_
    show Steps p.tables e below (T213.setTop (mkF m 425 #[.val (.int p1), .val (.ref b1), .val (.ref b104), .val (.int (9 : Int32))] [(.ref b104), (.int (0 : Int32))])) t_
    refine XS.iloadN X213.here hx rfl (hb hby at_425) rfl ?_
    show Steps p.tables e below (T213.setTop (mkF m 426 #[.val (.int p1), .val (.ref b1), .val (.ref b104), .val (.int (9 : Int32))] [(.int (9 : Int32)), (.ref b104), (.int (0 : Int32))])) t_
    refine X213.iaload hx (j := (9 : Int32)) (v := (.int (0 : Int32))) (by rw [eh213]; exact Ar214.1) (State.isArrayOf_alike hZ.alike Ar214.2.1) Ar214.2.2 hin214 hat214 (g := (mkF m 426 #[.val (.int p1), .val (.ref b1), .val (.ref b104), .val (.int (9 : Int32))] [(.int (9 : Int32)), (.ref b104), (.int (0 : Int32))])) rfl rfl (hb hby at_426) _ ?_
    show Steps p.tables e below (T213.setTop (mkF m 427 #[.val (.int p1), .val (.ref b1), .val (.ref b104), .val (.int (9 : Int32))] [(.int (0 : Int32)), (.int (0 : Int32))])) t_
    refine XS.icmpNo X213.here hx rfl (hb hby at_427) rfl (teq (by decide : (0 : Int32) = (0 : Int32))).2 ?_
    show Steps p.tables e below (T213.setTop (mkF m 430 #[.val (.int p1), .val (.ref b1), .val (.ref b104), .val (.int (9 : Int32))] [])) t_
    refine XS.iconst X213.here hx rfl (hb hby at_430) ?_
    show Steps p.tables e below (T213.setTop (mkF m 431 #[.val (.int p1), .val (.ref b1), .val (.ref b104), .val (.int (9 : Int32))] [(.int (1 : Int32))])) t_
    refine XS.goto X213.here hx rfl (pc0 := 431) (pc' := 435) rfl (hb hby at_431) (by decide) (by decide) ?_
    exact k_
  obtain ⟨fs215, hr215, hrun215, hended215, hW215, hsame215⟩ := X213.leave (v := some (.int (1 : Int32))) (fun h => by rw [hret] at h; cases h)
  refine ⟨_, _, ?_, hrun215, hended215, _, _, rfl, ?_, ⟨_, rfl⟩, hW215, hsame215.mono (by decide) (by decide)⟩
  · exact retN X213 hx (t := .boolean) hret (by simp) (hb hby at_435) hr215
  · show Q_rm0 Z p1 ad0 ad1 ad2 ad3 ad4 ad5 ad6 ad7 ad8 ad9 ad10 ad11 ad12 ad13 ad14 ad15 ad16 ad17 ad18 ad19 ad20 ad21 ad22 ad23 ad24 ad25 ad26 ad27 ad28 ad29 ad30 ad31 ad32 ad33 h0 n0 _ T213.heap _
    rw [eh213]
    exact ⟨rfl, N213, Kc0⟩
set_option maxRecDepth 65536 in
set_option maxHeartbeats 40000000 in
theorem own_sufad10 (l : Launch) (Z : State) (a0 : Array Value) (hw : ∀ d ∈ tables_1, d.before a0 Z = true) (p1 : Int32) (ad0 : Addr) (ad1 : Addr) (ad2 : Addr) (ad3 : Addr) (ad4 : Addr) (ad5 : Addr) (ad6 : Addr) (ad7 : Addr) (ad8 : Addr) (ad9 : Addr) (ad10 : Addr) (ad11 : Addr) (ad12 : Addr) (ad13 : Addr) (ad14 : Addr) (ad15 : Addr) (ad16 : Addr) (ad17 : Addr) (ad18 : Addr) (ad19 : Addr) (ad20 : Addr) (ad21 : Addr) (ad22 : Addr) (ad23 : Addr) (ad24 : Addr) (ad25 : Addr) (ad26 : Addr) (ad27 : Addr) (ad28 : Addr) (ad29 : Addr) (ad30 : Addr) (ad31 : Addr) (ad32 : Addr) (ad33 : Addr) (b1 : Addr) (b104 : Addr) (k104 : ClassId) (h0 : Heap) (n0 : Nat) (Z0 : n0 ≤ h0.size) {p : Program} {e : Env} {s : State} {m : MethodId} {below : List Frame} {meth : Method} {c : Code} {Tc : State} {Hc : Heap} {locsc : List Loc} (Xc : Stand p l e room_1 s m #[(.int p1)] below meth c Tc locsc 2 68) (hx : p.tables.exec = Jvm.exec) (hZ : Z.Warmed39 s.vm) (hby : c.code = code) (hml : c.maxLocals = 4) (hown : s.vm.findClass "com/example/querent/querent/dicom/VrBinaryNumberLengthPinLaw" = some m.cls) (hret : meth.sig.returnType = some .boolean) (hlk : meth.locks = false) (hh : s.heap = h0) (ec : Tc.heap = Hc) (Nc : Fr n0 locsc) (Kc0 : Keep h0 Hc []) (Oc : Old Z n0 Hc) (zc0 : Exa Z Z.heap ad10 "com/example/querent/querent/dicom/Vr") (zc1 : Fld Z Z.heap ad10 "java/lang/Enum" "ordinal" "I" (.int (10 : Int32))) (zc2 : Arv Z Hc b104 k104 .int (34 : Int32) [(.int (0 : Int32)), (.int (0 : Int32)), (.int (0 : Int32)), (.int (0 : Int32)), (.int (0 : Int32)), (.int (0 : Int32)), (.int (0 : Int32)), (.int (8 : Int32)), (.int (4 : Int32)), (.int (0 : Int32)), (.int (0 : Int32)), (.int (0 : Int32)), (.int (0 : Int32)), (.int (0 : Int32)), (.int (0 : Int32)), (.int (0 : Int32)), (.int (0 : Int32)), (.int (0 : Int32)), (.int (0 : Int32)), (.int (0 : Int32)), (.int (4 : Int32)), (.int (0 : Int32)), (.int (2 : Int32)), (.int (0 : Int32)), (.int (8 : Int32)), (.int (0 : Int32)), (.int (0 : Int32)), (.int (0 : Int32)), (.int (4 : Int32)), (.int (0 : Int32)), (.int (0 : Int32)), (.int (2 : Int32)), (.int (0 : Int32)), (.int (8 : Int32))] (.int (0 : Int32))) (gc3 : n0 ≤ b104) (sc3 : h0.size ≤ b104) :
    ∃ U_ o_, Steps p.tables e below (Tc.setTop (mkF m 421 #[.val (.int p1), .val (.ref b1), .val (.ref b104), .val (.int (10 : Int32))] [(.ref ad10)])) U_ ∧ U_.status = .running ∧ Ended U_ below o_ ∧ (∃ v_ L_, o_ = .returned v_ ∧ Q_rm0 Z p1 ad0 ad1 ad2 ad3 ad4 ad5 ad6 ad7 ad8 ad9 ad10 ad11 ad12 ad13 ad14 ad15 ad16 ad17 ad18 ad19 ad20 ad21 ad22 ad23 ad24 ad25 ad26 ad27 ad28 ad29 ad30 ad31 ad32 ad33 h0 n0 v_ U_.heap L_ ∧ FrameEnd s o_ U_ L_ room_1.cells room_1.slots) := by
  obtain ⟨cq217, kq217, q217a, q217b, q217c⟩ := isOf hZ ec (zc0.ext Oc.2)
  obtain ⟨_, _, ⟨T217, L217, k217, n217⟩, -, X217, ⟨Lc217, hQ217, l217, y217, z217⟩, st217⟩ := Xc.virtualBack hx (y := own_y2) (z := own_y2) hown (mvT hZ (own_w hw 74 rfl)) (mvT hZ (own_w hw 75 rfl)) (notFace_of_selects (args := #[]) (mvT hZ (own_w hw 77 rfl))) (mvT hZ (own_w hw 77 rfl)) (mvT hZ (own_w hw 76 rfl)) (by decide) (backOf (W := 0) (rmMIn137 l Z a0 hw [] ad10 (10 : Int32) Hc n0 (Nat.le_trans Z0 Kc0.1) Oc zc0 zc1 (by decide) (by decide)) hZ (own_w hw 78 rfl) (own_w hw 3 rfl) (by decide) (by decide)) q217a q217c (g := (mkF m 421 #[.val (.int p1), .val (.ref b1), .val (.ref b104), .val (.int (10 : Int32))] [(.ref ad10)])) rfl (by rw [hml]; rfl) (Steps.refl _) (argsL := []) (rest := []) (lenOf pd_0 rfl) rfl (by show 2 * 0 + _ ≤ _; exact Nat.le_of_eq rfl) (hb hby at_421) (fun _ _ => ⟨rfl, ec, (by decide : 2 + 0 ≤ _), (by decide : 68 + 0 ≤ _)⟩)
  dsimp only [Pt.U, Pt.locs, Pt.cells, Pt.slots] at X217 l217 y217 z217 st217 hQ217
  subst l217 y217 z217
  obtain ⟨rfl, N217q, eh217⟩ := hQ217
  have N217 := Fr.app Nc N217q
  refine own_via st217 ?_
  obtain ⟨cl218, Ar218, q218, S218, M218, H218, G218⟩ := id zc2
  have hin218 : ¬ ((10 : Int32) < 0 ∨ cl218.slots.size ≤ ((10 : Int32)).toNatClampNeg) := inb_of S218 ⟨by decide, by decide⟩
  have hat218 : cl218.slots[((10 : Int32)).toNatClampNeg]? = some (.int (0 : Int32)) := Has.at H218 hin218 rfl
  refine own_go (A := T217.setTop (mkF m 435 #[.val (.int p1), .val (.ref b1), .val (.ref b104), .val (.int (10 : Int32))] [(.int (1 : Int32))])) (fun t_ k_ => ?_) ?_
  · show Steps p.tables e below (T217.setTop (mkF m 424 #[.val (.int p1), .val (.ref b1), .val (.ref b104), .val (.int (10 : Int32))] [(.int (0 : Int32))])) t_
    refine XS.aloadN X217.here hx rfl (hb hby at_424) rfl rfl ?_
    show Steps p.tables e below (T217.setTop (mkF m 425 #[.val (.int p1), .val (.ref b1), .val (.ref b104), .val (.int (10 : Int32))] [(.ref b104), (.int (0 : Int32))])) t_
    refine XS.iloadN X217.here hx rfl (hb hby at_425) rfl ?_
    show Steps p.tables e below (T217.setTop (mkF m 426 #[.val (.int p1), .val (.ref b1), .val (.ref b104), .val (.int (10 : Int32))] [(.int (10 : Int32)), (.ref b104), (.int (0 : Int32))])) t_
    refine X217.iaload hx (j := (10 : Int32)) (v := (.int (0 : Int32))) (by rw [eh217]; exact Ar218.1) (State.isArrayOf_alike hZ.alike Ar218.2.1) Ar218.2.2 hin218 hat218 (g := (mkF m 426 #[.val (.int p1), .val (.ref b1), .val (.ref b104), .val (.int (10 : Int32))] [(.int (10 : Int32)), (.ref b104), (.int (0 : Int32))])) rfl rfl (hb hby at_426) _ ?_
    show Steps p.tables e below (T217.setTop (mkF m 427 #[.val (.int p1), .val (.ref b1), .val (.ref b104), .val (.int (10 : Int32))] [(.int (0 : Int32)), (.int (0 : Int32))])) t_
    refine XS.icmpNo X217.here hx rfl (hb hby at_427) rfl (teq (by decide : (0 : Int32) = (0 : Int32))).2 ?_
    show Steps p.tables e below (T217.setTop (mkF m 430 #[.val (.int p1), .val (.ref b1), .val (.ref b104), .val (.int (10 : Int32))] [])) t_
    refine XS.iconst X217.here hx rfl (hb hby at_430) ?_
    show Steps p.tables e below (T217.setTop (mkF m 431 #[.val (.int p1), .val (.ref b1), .val (.ref b104), .val (.int (10 : Int32))] [(.int (1 : Int32))])) t_
    refine XS.goto X217.here hx rfl (pc0 := 431) (pc' := 435) rfl (hb hby at_431) (by decide) (by decide) ?_
    exact k_
  obtain ⟨fs219, hr219, hrun219, hended219, hW219, hsame219⟩ := X217.leave (v := some (.int (1 : Int32))) (fun h => by rw [hret] at h; cases h)
  refine ⟨_, _, ?_, hrun219, hended219, _, _, rfl, ?_, ⟨_, rfl⟩, hW219, hsame219.mono (by decide) (by decide)⟩
  · exact retN X217 hx (t := .boolean) hret (by simp) (hb hby at_435) hr219
  · show Q_rm0 Z p1 ad0 ad1 ad2 ad3 ad4 ad5 ad6 ad7 ad8 ad9 ad10 ad11 ad12 ad13 ad14 ad15 ad16 ad17 ad18 ad19 ad20 ad21 ad22 ad23 ad24 ad25 ad26 ad27 ad28 ad29 ad30 ad31 ad32 ad33 h0 n0 _ T217.heap _
    rw [eh217]
    exact ⟨rfl, N217, Kc0⟩
set_option maxRecDepth 65536 in
set_option maxHeartbeats 40000000 in
theorem own_sufad11 (l : Launch) (Z : State) (a0 : Array Value) (hw : ∀ d ∈ tables_1, d.before a0 Z = true) (p1 : Int32) (ad0 : Addr) (ad1 : Addr) (ad2 : Addr) (ad3 : Addr) (ad4 : Addr) (ad5 : Addr) (ad6 : Addr) (ad7 : Addr) (ad8 : Addr) (ad9 : Addr) (ad10 : Addr) (ad11 : Addr) (ad12 : Addr) (ad13 : Addr) (ad14 : Addr) (ad15 : Addr) (ad16 : Addr) (ad17 : Addr) (ad18 : Addr) (ad19 : Addr) (ad20 : Addr) (ad21 : Addr) (ad22 : Addr) (ad23 : Addr) (ad24 : Addr) (ad25 : Addr) (ad26 : Addr) (ad27 : Addr) (ad28 : Addr) (ad29 : Addr) (ad30 : Addr) (ad31 : Addr) (ad32 : Addr) (ad33 : Addr) (b1 : Addr) (b104 : Addr) (k104 : ClassId) (h0 : Heap) (n0 : Nat) (Z0 : n0 ≤ h0.size) {p : Program} {e : Env} {s : State} {m : MethodId} {below : List Frame} {meth : Method} {c : Code} {Tc : State} {Hc : Heap} {locsc : List Loc} (Xc : Stand p l e room_1 s m #[(.int p1)] below meth c Tc locsc 2 68) (hx : p.tables.exec = Jvm.exec) (hZ : Z.Warmed39 s.vm) (hby : c.code = code) (hml : c.maxLocals = 4) (hown : s.vm.findClass "com/example/querent/querent/dicom/VrBinaryNumberLengthPinLaw" = some m.cls) (hret : meth.sig.returnType = some .boolean) (hlk : meth.locks = false) (hh : s.heap = h0) (ec : Tc.heap = Hc) (Nc : Fr n0 locsc) (Kc0 : Keep h0 Hc []) (Oc : Old Z n0 Hc) (zc0 : Exa Z Z.heap ad11 "com/example/querent/querent/dicom/Vr") (zc1 : Fld Z Z.heap ad11 "java/lang/Enum" "ordinal" "I" (.int (11 : Int32))) (zc2 : Arv Z Hc b104 k104 .int (34 : Int32) [(.int (0 : Int32)), (.int (0 : Int32)), (.int (0 : Int32)), (.int (0 : Int32)), (.int (0 : Int32)), (.int (0 : Int32)), (.int (0 : Int32)), (.int (8 : Int32)), (.int (4 : Int32)), (.int (0 : Int32)), (.int (0 : Int32)), (.int (0 : Int32)), (.int (0 : Int32)), (.int (0 : Int32)), (.int (0 : Int32)), (.int (0 : Int32)), (.int (0 : Int32)), (.int (0 : Int32)), (.int (0 : Int32)), (.int (0 : Int32)), (.int (4 : Int32)), (.int (0 : Int32)), (.int (2 : Int32)), (.int (0 : Int32)), (.int (8 : Int32)), (.int (0 : Int32)), (.int (0 : Int32)), (.int (0 : Int32)), (.int (4 : Int32)), (.int (0 : Int32)), (.int (0 : Int32)), (.int (2 : Int32)), (.int (0 : Int32)), (.int (8 : Int32))] (.int (0 : Int32))) (gc3 : n0 ≤ b104) (sc3 : h0.size ≤ b104) :
    ∃ U_ o_, Steps p.tables e below (Tc.setTop (mkF m 421 #[.val (.int p1), .val (.ref b1), .val (.ref b104), .val (.int (11 : Int32))] [(.ref ad11)])) U_ ∧ U_.status = .running ∧ Ended U_ below o_ ∧ (∃ v_ L_, o_ = .returned v_ ∧ Q_rm0 Z p1 ad0 ad1 ad2 ad3 ad4 ad5 ad6 ad7 ad8 ad9 ad10 ad11 ad12 ad13 ad14 ad15 ad16 ad17 ad18 ad19 ad20 ad21 ad22 ad23 ad24 ad25 ad26 ad27 ad28 ad29 ad30 ad31 ad32 ad33 h0 n0 v_ U_.heap L_ ∧ FrameEnd s o_ U_ L_ room_1.cells room_1.slots) := by
  obtain ⟨cq221, kq221, q221a, q221b, q221c⟩ := isOf hZ ec (zc0.ext Oc.2)
  obtain ⟨_, _, ⟨T221, L221, k221, n221⟩, -, X221, ⟨Lc221, hQ221, l221, y221, z221⟩, st221⟩ := Xc.virtualBack hx (y := own_y2) (z := own_y2) hown (mvT hZ (own_w hw 74 rfl)) (mvT hZ (own_w hw 75 rfl)) (notFace_of_selects (args := #[]) (mvT hZ (own_w hw 77 rfl))) (mvT hZ (own_w hw 77 rfl)) (mvT hZ (own_w hw 76 rfl)) (by decide) (backOf (W := 0) (rmMIn137 l Z a0 hw [] ad11 (11 : Int32) Hc n0 (Nat.le_trans Z0 Kc0.1) Oc zc0 zc1 (by decide) (by decide)) hZ (own_w hw 78 rfl) (own_w hw 3 rfl) (by decide) (by decide)) q221a q221c (g := (mkF m 421 #[.val (.int p1), .val (.ref b1), .val (.ref b104), .val (.int (11 : Int32))] [(.ref ad11)])) rfl (by rw [hml]; rfl) (Steps.refl _) (argsL := []) (rest := []) (lenOf pd_0 rfl) rfl (by show 2 * 0 + _ ≤ _; exact Nat.le_of_eq rfl) (hb hby at_421) (fun _ _ => ⟨rfl, ec, (by decide : 2 + 0 ≤ _), (by decide : 68 + 0 ≤ _)⟩)
  dsimp only [Pt.U, Pt.locs, Pt.cells, Pt.slots] at X221 l221 y221 z221 st221 hQ221
  subst l221 y221 z221
  obtain ⟨rfl, N221q, eh221⟩ := hQ221
  have N221 := Fr.app Nc N221q
  refine own_via st221 ?_
  obtain ⟨cl222, Ar222, q222, S222, M222, H222, G222⟩ := id zc2
  have hin222 : ¬ ((11 : Int32) < 0 ∨ cl222.slots.size ≤ ((11 : Int32)).toNatClampNeg) := inb_of S222 ⟨by decide, by decide⟩
  have hat222 : cl222.slots[((11 : Int32)).toNatClampNeg]? = some (.int (0 : Int32)) := Has.at H222 hin222 rfl
  refine own_go (A := T221.setTop (mkF m 435 #[.val (.int p1), .val (.ref b1), .val (.ref b104), .val (.int (11 : Int32))] [(.int (1 : Int32))])) (fun t_ k_ => ?_) ?_
  · show Steps p.tables e below (T221.setTop (mkF m 424 #[.val (.int p1), .val (.ref b1), .val (.ref b104), .val (.int (11 : Int32))] [(.int (0 : Int32))])) t_
    refine XS.aloadN X221.here hx rfl (hb hby at_424) rfl rfl ?_
    show Steps p.tables e below (T221.setTop (mkF m 425 #[.val (.int p1), .val (.ref b1), .val (.ref b104), .val (.int (11 : Int32))] [(.ref b104), (.int (0 : Int32))])) t_
    refine XS.iloadN X221.here hx rfl (hb hby at_425) rfl ?_
    show Steps p.tables e below (T221.setTop (mkF m 426 #[.val (.int p1), .val (.ref b1), .val (.ref b104), .val (.int (11 : Int32))] [(.int (11 : Int32)), (.ref b104), (.int (0 : Int32))])) t_
    refine X221.iaload hx (j := (11 : Int32)) (v := (.int (0 : Int32))) (by rw [eh221]; exact Ar222.1) (State.isArrayOf_alike hZ.alike Ar222.2.1) Ar222.2.2 hin222 hat222 (g := (mkF m 426 #[.val (.int p1), .val (.ref b1), .val (.ref b104), .val (.int (11 : Int32))] [(.int (11 : Int32)), (.ref b104), (.int (0 : Int32))])) rfl rfl (hb hby at_426) _ ?_
    show Steps p.tables e below (T221.setTop (mkF m 427 #[.val (.int p1), .val (.ref b1), .val (.ref b104), .val (.int (11 : Int32))] [(.int (0 : Int32)), (.int (0 : Int32))])) t_
    refine XS.icmpNo X221.here hx rfl (hb hby at_427) rfl (teq (by decide : (0 : Int32) = (0 : Int32))).2 ?_
    show Steps p.tables e below (T221.setTop (mkF m 430 #[.val (.int p1), .val (.ref b1), .val (.ref b104), .val (.int (11 : Int32))] [])) t_
    refine XS.iconst X221.here hx rfl (hb hby at_430) ?_
    show Steps p.tables e below (T221.setTop (mkF m 431 #[.val (.int p1), .val (.ref b1), .val (.ref b104), .val (.int (11 : Int32))] [(.int (1 : Int32))])) t_
    refine XS.goto X221.here hx rfl (pc0 := 431) (pc' := 435) rfl (hb hby at_431) (by decide) (by decide) ?_
    exact k_
  obtain ⟨fs223, hr223, hrun223, hended223, hW223, hsame223⟩ := X221.leave (v := some (.int (1 : Int32))) (fun h => by rw [hret] at h; cases h)
  refine ⟨_, _, ?_, hrun223, hended223, _, _, rfl, ?_, ⟨_, rfl⟩, hW223, hsame223.mono (by decide) (by decide)⟩
  · exact retN X221 hx (t := .boolean) hret (by simp) (hb hby at_435) hr223
  · show Q_rm0 Z p1 ad0 ad1 ad2 ad3 ad4 ad5 ad6 ad7 ad8 ad9 ad10 ad11 ad12 ad13 ad14 ad15 ad16 ad17 ad18 ad19 ad20 ad21 ad22 ad23 ad24 ad25 ad26 ad27 ad28 ad29 ad30 ad31 ad32 ad33 h0 n0 _ T221.heap _
    rw [eh221]
    exact ⟨rfl, N221, Kc0⟩
set_option maxRecDepth 65536 in
set_option maxHeartbeats 40000000 in
theorem own_sufad12 (l : Launch) (Z : State) (a0 : Array Value) (hw : ∀ d ∈ tables_1, d.before a0 Z = true) (p1 : Int32) (ad0 : Addr) (ad1 : Addr) (ad2 : Addr) (ad3 : Addr) (ad4 : Addr) (ad5 : Addr) (ad6 : Addr) (ad7 : Addr) (ad8 : Addr) (ad9 : Addr) (ad10 : Addr) (ad11 : Addr) (ad12 : Addr) (ad13 : Addr) (ad14 : Addr) (ad15 : Addr) (ad16 : Addr) (ad17 : Addr) (ad18 : Addr) (ad19 : Addr) (ad20 : Addr) (ad21 : Addr) (ad22 : Addr) (ad23 : Addr) (ad24 : Addr) (ad25 : Addr) (ad26 : Addr) (ad27 : Addr) (ad28 : Addr) (ad29 : Addr) (ad30 : Addr) (ad31 : Addr) (ad32 : Addr) (ad33 : Addr) (b1 : Addr) (b104 : Addr) (k104 : ClassId) (h0 : Heap) (n0 : Nat) (Z0 : n0 ≤ h0.size) {p : Program} {e : Env} {s : State} {m : MethodId} {below : List Frame} {meth : Method} {c : Code} {Tc : State} {Hc : Heap} {locsc : List Loc} (Xc : Stand p l e room_1 s m #[(.int p1)] below meth c Tc locsc 2 68) (hx : p.tables.exec = Jvm.exec) (hZ : Z.Warmed39 s.vm) (hby : c.code = code) (hml : c.maxLocals = 4) (hown : s.vm.findClass "com/example/querent/querent/dicom/VrBinaryNumberLengthPinLaw" = some m.cls) (hret : meth.sig.returnType = some .boolean) (hlk : meth.locks = false) (hh : s.heap = h0) (ec : Tc.heap = Hc) (Nc : Fr n0 locsc) (Kc0 : Keep h0 Hc []) (Oc : Old Z n0 Hc) (zc0 : Exa Z Z.heap ad12 "com/example/querent/querent/dicom/Vr") (zc1 : Fld Z Z.heap ad12 "java/lang/Enum" "ordinal" "I" (.int (12 : Int32))) (zc2 : Arv Z Hc b104 k104 .int (34 : Int32) [(.int (0 : Int32)), (.int (0 : Int32)), (.int (0 : Int32)), (.int (0 : Int32)), (.int (0 : Int32)), (.int (0 : Int32)), (.int (0 : Int32)), (.int (8 : Int32)), (.int (4 : Int32)), (.int (0 : Int32)), (.int (0 : Int32)), (.int (0 : Int32)), (.int (0 : Int32)), (.int (0 : Int32)), (.int (0 : Int32)), (.int (0 : Int32)), (.int (0 : Int32)), (.int (0 : Int32)), (.int (0 : Int32)), (.int (0 : Int32)), (.int (4 : Int32)), (.int (0 : Int32)), (.int (2 : Int32)), (.int (0 : Int32)), (.int (8 : Int32)), (.int (0 : Int32)), (.int (0 : Int32)), (.int (0 : Int32)), (.int (4 : Int32)), (.int (0 : Int32)), (.int (0 : Int32)), (.int (2 : Int32)), (.int (0 : Int32)), (.int (8 : Int32))] (.int (0 : Int32))) (gc3 : n0 ≤ b104) (sc3 : h0.size ≤ b104) :
    ∃ U_ o_, Steps p.tables e below (Tc.setTop (mkF m 421 #[.val (.int p1), .val (.ref b1), .val (.ref b104), .val (.int (12 : Int32))] [(.ref ad12)])) U_ ∧ U_.status = .running ∧ Ended U_ below o_ ∧ (∃ v_ L_, o_ = .returned v_ ∧ Q_rm0 Z p1 ad0 ad1 ad2 ad3 ad4 ad5 ad6 ad7 ad8 ad9 ad10 ad11 ad12 ad13 ad14 ad15 ad16 ad17 ad18 ad19 ad20 ad21 ad22 ad23 ad24 ad25 ad26 ad27 ad28 ad29 ad30 ad31 ad32 ad33 h0 n0 v_ U_.heap L_ ∧ FrameEnd s o_ U_ L_ room_1.cells room_1.slots) := by
  obtain ⟨cq225, kq225, q225a, q225b, q225c⟩ := isOf hZ ec (zc0.ext Oc.2)
  obtain ⟨_, _, ⟨T225, L225, k225, n225⟩, -, X225, ⟨Lc225, hQ225, l225, y225, z225⟩, st225⟩ := Xc.virtualBack hx (y := own_y2) (z := own_y2) hown (mvT hZ (own_w hw 74 rfl)) (mvT hZ (own_w hw 75 rfl)) (notFace_of_selects (args := #[]) (mvT hZ (own_w hw 77 rfl))) (mvT hZ (own_w hw 77 rfl)) (mvT hZ (own_w hw 76 rfl)) (by decide) (backOf (W := 0) (rmMIn137 l Z a0 hw [] ad12 (12 : Int32) Hc n0 (Nat.le_trans Z0 Kc0.1) Oc zc0 zc1 (by decide) (by decide)) hZ (own_w hw 78 rfl) (own_w hw 3 rfl) (by decide) (by decide)) q225a q225c (g := (mkF m 421 #[.val (.int p1), .val (.ref b1), .val (.ref b104), .val (.int (12 : Int32))] [(.ref ad12)])) rfl (by rw [hml]; rfl) (Steps.refl _) (argsL := []) (rest := []) (lenOf pd_0 rfl) rfl (by show 2 * 0 + _ ≤ _; exact Nat.le_of_eq rfl) (hb hby at_421) (fun _ _ => ⟨rfl, ec, (by decide : 2 + 0 ≤ _), (by decide : 68 + 0 ≤ _)⟩)
  dsimp only [Pt.U, Pt.locs, Pt.cells, Pt.slots] at X225 l225 y225 z225 st225 hQ225
  subst l225 y225 z225
  obtain ⟨rfl, N225q, eh225⟩ := hQ225
  have N225 := Fr.app Nc N225q
  refine own_via st225 ?_
  obtain ⟨cl226, Ar226, q226, S226, M226, H226, G226⟩ := id zc2
  have hin226 : ¬ ((12 : Int32) < 0 ∨ cl226.slots.size ≤ ((12 : Int32)).toNatClampNeg) := inb_of S226 ⟨by decide, by decide⟩
  have hat226 : cl226.slots[((12 : Int32)).toNatClampNeg]? = some (.int (0 : Int32)) := Has.at H226 hin226 rfl
  refine own_go (A := T225.setTop (mkF m 435 #[.val (.int p1), .val (.ref b1), .val (.ref b104), .val (.int (12 : Int32))] [(.int (1 : Int32))])) (fun t_ k_ => ?_) ?_
  · show Steps p.tables e below (T225.setTop (mkF m 424 #[.val (.int p1), .val (.ref b1), .val (.ref b104), .val (.int (12 : Int32))] [(.int (0 : Int32))])) t_
    refine XS.aloadN X225.here hx rfl (hb hby at_424) rfl rfl ?_
    show Steps p.tables e below (T225.setTop (mkF m 425 #[.val (.int p1), .val (.ref b1), .val (.ref b104), .val (.int (12 : Int32))] [(.ref b104), (.int (0 : Int32))])) t_
    refine XS.iloadN X225.here hx rfl (hb hby at_425) rfl ?_
    show Steps p.tables e below (T225.setTop (mkF m 426 #[.val (.int p1), .val (.ref b1), .val (.ref b104), .val (.int (12 : Int32))] [(.int (12 : Int32)), (.ref b104), (.int (0 : Int32))])) t_
    refine X225.iaload hx (j := (12 : Int32)) (v := (.int (0 : Int32))) (by rw [eh225]; exact Ar226.1) (State.isArrayOf_alike hZ.alike Ar226.2.1) Ar226.2.2 hin226 hat226 (g := (mkF m 426 #[.val (.int p1), .val (.ref b1), .val (.ref b104), .val (.int (12 : Int32))] [(.int (12 : Int32)), (.ref b104), (.int (0 : Int32))])) rfl rfl (hb hby at_426) _ ?_
    show Steps p.tables e below (T225.setTop (mkF m 427 #[.val (.int p1), .val (.ref b1), .val (.ref b104), .val (.int (12 : Int32))] [(.int (0 : Int32)), (.int (0 : Int32))])) t_
    refine XS.icmpNo X225.here hx rfl (hb hby at_427) rfl (teq (by decide : (0 : Int32) = (0 : Int32))).2 ?_
    show Steps p.tables e below (T225.setTop (mkF m 430 #[.val (.int p1), .val (.ref b1), .val (.ref b104), .val (.int (12 : Int32))] [])) t_
    refine XS.iconst X225.here hx rfl (hb hby at_430) ?_
    show Steps p.tables e below (T225.setTop (mkF m 431 #[.val (.int p1), .val (.ref b1), .val (.ref b104), .val (.int (12 : Int32))] [(.int (1 : Int32))])) t_
    refine XS.goto X225.here hx rfl (pc0 := 431) (pc' := 435) rfl (hb hby at_431) (by decide) (by decide) ?_
    exact k_
  obtain ⟨fs227, hr227, hrun227, hended227, hW227, hsame227⟩ := X225.leave (v := some (.int (1 : Int32))) (fun h => by rw [hret] at h; cases h)
  refine ⟨_, _, ?_, hrun227, hended227, _, _, rfl, ?_, ⟨_, rfl⟩, hW227, hsame227.mono (by decide) (by decide)⟩
  · exact retN X225 hx (t := .boolean) hret (by simp) (hb hby at_435) hr227
  · show Q_rm0 Z p1 ad0 ad1 ad2 ad3 ad4 ad5 ad6 ad7 ad8 ad9 ad10 ad11 ad12 ad13 ad14 ad15 ad16 ad17 ad18 ad19 ad20 ad21 ad22 ad23 ad24 ad25 ad26 ad27 ad28 ad29 ad30 ad31 ad32 ad33 h0 n0 _ T225.heap _
    rw [eh225]
    exact ⟨rfl, N225, Kc0⟩
set_option maxRecDepth 65536 in
set_option maxHeartbeats 40000000 in
theorem own_sufad13 (l : Launch) (Z : State) (a0 : Array Value) (hw : ∀ d ∈ tables_1, d.before a0 Z = true) (p1 : Int32) (ad0 : Addr) (ad1 : Addr) (ad2 : Addr) (ad3 : Addr) (ad4 : Addr) (ad5 : Addr) (ad6 : Addr) (ad7 : Addr) (ad8 : Addr) (ad9 : Addr) (ad10 : Addr) (ad11 : Addr) (ad12 : Addr) (ad13 : Addr) (ad14 : Addr) (ad15 : Addr) (ad16 : Addr) (ad17 : Addr) (ad18 : Addr) (ad19 : Addr) (ad20 : Addr) (ad21 : Addr) (ad22 : Addr) (ad23 : Addr) (ad24 : Addr) (ad25 : Addr) (ad26 : Addr) (ad27 : Addr) (ad28 : Addr) (ad29 : Addr) (ad30 : Addr) (ad31 : Addr) (ad32 : Addr) (ad33 : Addr) (b1 : Addr) (b104 : Addr) (k104 : ClassId) (h0 : Heap) (n0 : Nat) (Z0 : n0 ≤ h0.size) {p : Program} {e : Env} {s : State} {m : MethodId} {below : List Frame} {meth : Method} {c : Code} {Tc : State} {Hc : Heap} {locsc : List Loc} (Xc : Stand p l e room_1 s m #[(.int p1)] below meth c Tc locsc 2 68) (hx : p.tables.exec = Jvm.exec) (hZ : Z.Warmed39 s.vm) (hby : c.code = code) (hml : c.maxLocals = 4) (hown : s.vm.findClass "com/example/querent/querent/dicom/VrBinaryNumberLengthPinLaw" = some m.cls) (hret : meth.sig.returnType = some .boolean) (hlk : meth.locks = false) (hh : s.heap = h0) (ec : Tc.heap = Hc) (Nc : Fr n0 locsc) (Kc0 : Keep h0 Hc []) (Oc : Old Z n0 Hc) (zc0 : Exa Z Z.heap ad13 "com/example/querent/querent/dicom/Vr") (zc1 : Fld Z Z.heap ad13 "java/lang/Enum" "ordinal" "I" (.int (13 : Int32))) (zc2 : Arv Z Hc b104 k104 .int (34 : Int32) [(.int (0 : Int32)), (.int (0 : Int32)), (.int (0 : Int32)), (.int (0 : Int32)), (.int (0 : Int32)), (.int (0 : Int32)), (.int (0 : Int32)), (.int (8 : Int32)), (.int (4 : Int32)), (.int (0 : Int32)), (.int (0 : Int32)), (.int (0 : Int32)), (.int (0 : Int32)), (.int (0 : Int32)), (.int (0 : Int32)), (.int (0 : Int32)), (.int (0 : Int32)), (.int (0 : Int32)), (.int (0 : Int32)), (.int (0 : Int32)), (.int (4 : Int32)), (.int (0 : Int32)), (.int (2 : Int32)), (.int (0 : Int32)), (.int (8 : Int32)), (.int (0 : Int32)), (.int (0 : Int32)), (.int (0 : Int32)), (.int (4 : Int32)), (.int (0 : Int32)), (.int (0 : Int32)), (.int (2 : Int32)), (.int (0 : Int32)), (.int (8 : Int32))] (.int (0 : Int32))) (gc3 : n0 ≤ b104) (sc3 : h0.size ≤ b104) :
    ∃ U_ o_, Steps p.tables e below (Tc.setTop (mkF m 421 #[.val (.int p1), .val (.ref b1), .val (.ref b104), .val (.int (13 : Int32))] [(.ref ad13)])) U_ ∧ U_.status = .running ∧ Ended U_ below o_ ∧ (∃ v_ L_, o_ = .returned v_ ∧ Q_rm0 Z p1 ad0 ad1 ad2 ad3 ad4 ad5 ad6 ad7 ad8 ad9 ad10 ad11 ad12 ad13 ad14 ad15 ad16 ad17 ad18 ad19 ad20 ad21 ad22 ad23 ad24 ad25 ad26 ad27 ad28 ad29 ad30 ad31 ad32 ad33 h0 n0 v_ U_.heap L_ ∧ FrameEnd s o_ U_ L_ room_1.cells room_1.slots) := by
  obtain ⟨cq229, kq229, q229a, q229b, q229c⟩ := isOf hZ ec (zc0.ext Oc.2)
  obtain ⟨_, _, ⟨T229, L229, k229, n229⟩, -, X229, ⟨Lc229, hQ229, l229, y229, z229⟩, st229⟩ := Xc.virtualBack hx (y := own_y2) (z := own_y2) hown (mvT hZ (own_w hw 74 rfl)) (mvT hZ (own_w hw 75 rfl)) (notFace_of_selects (args := #[]) (mvT hZ (own_w hw 77 rfl))) (mvT hZ (own_w hw 77 rfl)) (mvT hZ (own_w hw 76 rfl)) (by decide) (backOf (W := 0) (rmMIn137 l Z a0 hw [] ad13 (13 : Int32) Hc n0 (Nat.le_trans Z0 Kc0.1) Oc zc0 zc1 (by decide) (by decide)) hZ (own_w hw 78 rfl) (own_w hw 3 rfl) (by decide) (by decide)) q229a q229c (g := (mkF m 421 #[.val (.int p1), .val (.ref b1), .val (.ref b104), .val (.int (13 : Int32))] [(.ref ad13)])) rfl (by rw [hml]; rfl) (Steps.refl _) (argsL := []) (rest := []) (lenOf pd_0 rfl) rfl (by show 2 * 0 + _ ≤ _; exact Nat.le_of_eq rfl) (hb hby at_421) (fun _ _ => ⟨rfl, ec, (by decide : 2 + 0 ≤ _), (by decide : 68 + 0 ≤ _)⟩)
  dsimp only [Pt.U, Pt.locs, Pt.cells, Pt.slots] at X229 l229 y229 z229 st229 hQ229
  subst l229 y229 z229
  obtain ⟨rfl, N229q, eh229⟩ := hQ229
  have N229 := Fr.app Nc N229q
  refine own_via st229 ?_
  obtain ⟨cl230, Ar230, q230, S230, M230, H230, G230⟩ := id zc2
  have hin230 : ¬ ((13 : Int32) < 0 ∨ cl230.slots.size ≤ ((13 : Int32)).toNatClampNeg) := inb_of S230 ⟨by decide, by decide⟩
  have hat230 : cl230.slots[((13 : Int32)).toNatClampNeg]? = some (.int (0 : Int32)) := Has.at H230 hin230 rfl
  refine own_go (A := T229.setTop (mkF m 435 #[.val (.int p1), .val (.ref b1), .val (.ref b104), .val (.int (13 : Int32))] [(.int (1 : Int32))])) (fun t_ k_ => ?_) ?_
  · show Steps p.tables e below (T229.setTop (mkF m 424 #[.val (.int p1), .val (.ref b1), .val (.ref b104), .val (.int (13 : Int32))] [(.int (0 : Int32))])) t_
    refine XS.aloadN X229.here hx rfl (hb hby at_424) rfl rfl ?_
    show Steps p.tables e below (T229.setTop (mkF m 425 #[.val (.int p1), .val (.ref b1), .val (.ref b104), .val (.int (13 : Int32))] [(.ref b104), (.int (0 : Int32))])) t_
    refine XS.iloadN X229.here hx rfl (hb hby at_425) rfl ?_
    show Steps p.tables e below (T229.setTop (mkF m 426 #[.val (.int p1), .val (.ref b1), .val (.ref b104), .val (.int (13 : Int32))] [(.int (13 : Int32)), (.ref b104), (.int (0 : Int32))])) t_
    refine X229.iaload hx (j := (13 : Int32)) (v := (.int (0 : Int32))) (by rw [eh229]; exact Ar230.1) (State.isArrayOf_alike hZ.alike Ar230.2.1) Ar230.2.2 hin230 hat230 (g := (mkF m 426 #[.val (.int p1), .val (.ref b1), .val (.ref b104), .val (.int (13 : Int32))] [(.int (13 : Int32)), (.ref b104), (.int (0 : Int32))])) rfl rfl (hb hby at_426) _ ?_
    show Steps p.tables e below (T229.setTop (mkF m 427 #[.val (.int p1), .val (.ref b1), .val (.ref b104), .val (.int (13 : Int32))] [(.int (0 : Int32)), (.int (0 : Int32))])) t_
    refine XS.icmpNo X229.here hx rfl (hb hby at_427) rfl (teq (by decide : (0 : Int32) = (0 : Int32))).2 ?_
    show Steps p.tables e below (T229.setTop (mkF m 430 #[.val (.int p1), .val (.ref b1), .val (.ref b104), .val (.int (13 : Int32))] [])) t_
    refine XS.iconst X229.here hx rfl (hb hby at_430) ?_
    show Steps p.tables e below (T229.setTop (mkF m 431 #[.val (.int p1), .val (.ref b1), .val (.ref b104), .val (.int (13 : Int32))] [(.int (1 : Int32))])) t_
    refine XS.goto X229.here hx rfl (pc0 := 431) (pc' := 435) rfl (hb hby at_431) (by decide) (by decide) ?_
    exact k_
  obtain ⟨fs231, hr231, hrun231, hended231, hW231, hsame231⟩ := X229.leave (v := some (.int (1 : Int32))) (fun h => by rw [hret] at h; cases h)
  refine ⟨_, _, ?_, hrun231, hended231, _, _, rfl, ?_, ⟨_, rfl⟩, hW231, hsame231.mono (by decide) (by decide)⟩
  · exact retN X229 hx (t := .boolean) hret (by simp) (hb hby at_435) hr231
  · show Q_rm0 Z p1 ad0 ad1 ad2 ad3 ad4 ad5 ad6 ad7 ad8 ad9 ad10 ad11 ad12 ad13 ad14 ad15 ad16 ad17 ad18 ad19 ad20 ad21 ad22 ad23 ad24 ad25 ad26 ad27 ad28 ad29 ad30 ad31 ad32 ad33 h0 n0 _ T229.heap _
    rw [eh229]
    exact ⟨rfl, N229, Kc0⟩
set_option maxRecDepth 65536 in
set_option maxHeartbeats 40000000 in
theorem own_sufad14 (l : Launch) (Z : State) (a0 : Array Value) (hw : ∀ d ∈ tables_1, d.before a0 Z = true) (p1 : Int32) (ad0 : Addr) (ad1 : Addr) (ad2 : Addr) (ad3 : Addr) (ad4 : Addr) (ad5 : Addr) (ad6 : Addr) (ad7 : Addr) (ad8 : Addr) (ad9 : Addr) (ad10 : Addr) (ad11 : Addr) (ad12 : Addr) (ad13 : Addr) (ad14 : Addr) (ad15 : Addr) (ad16 : Addr) (ad17 : Addr) (ad18 : Addr) (ad19 : Addr) (ad20 : Addr) (ad21 : Addr) (ad22 : Addr) (ad23 : Addr) (ad24 : Addr) (ad25 : Addr) (ad26 : Addr) (ad27 : Addr) (ad28 : Addr) (ad29 : Addr) (ad30 : Addr) (ad31 : Addr) (ad32 : Addr) (ad33 : Addr) (b1 : Addr) (b104 : Addr) (k104 : ClassId) (h0 : Heap) (n0 : Nat) (Z0 : n0 ≤ h0.size) {p : Program} {e : Env} {s : State} {m : MethodId} {below : List Frame} {meth : Method} {c : Code} {Tc : State} {Hc : Heap} {locsc : List Loc} (Xc : Stand p l e room_1 s m #[(.int p1)] below meth c Tc locsc 2 68) (hx : p.tables.exec = Jvm.exec) (hZ : Z.Warmed39 s.vm) (hby : c.code = code) (hml : c.maxLocals = 4) (hown : s.vm.findClass "com/example/querent/querent/dicom/VrBinaryNumberLengthPinLaw" = some m.cls) (hret : meth.sig.returnType = some .boolean) (hlk : meth.locks = false) (hh : s.heap = h0) (ec : Tc.heap = Hc) (Nc : Fr n0 locsc) (Kc0 : Keep h0 Hc []) (Oc : Old Z n0 Hc) (zc0 : Exa Z Z.heap ad14 "com/example/querent/querent/dicom/Vr") (zc1 : Fld Z Z.heap ad14 "java/lang/Enum" "ordinal" "I" (.int (14 : Int32))) (zc2 : Arv Z Hc b104 k104 .int (34 : Int32) [(.int (0 : Int32)), (.int (0 : Int32)), (.int (0 : Int32)), (.int (0 : Int32)), (.int (0 : Int32)), (.int (0 : Int32)), (.int (0 : Int32)), (.int (8 : Int32)), (.int (4 : Int32)), (.int (0 : Int32)), (.int (0 : Int32)), (.int (0 : Int32)), (.int (0 : Int32)), (.int (0 : Int32)), (.int (0 : Int32)), (.int (0 : Int32)), (.int (0 : Int32)), (.int (0 : Int32)), (.int (0 : Int32)), (.int (0 : Int32)), (.int (4 : Int32)), (.int (0 : Int32)), (.int (2 : Int32)), (.int (0 : Int32)), (.int (8 : Int32)), (.int (0 : Int32)), (.int (0 : Int32)), (.int (0 : Int32)), (.int (4 : Int32)), (.int (0 : Int32)), (.int (0 : Int32)), (.int (2 : Int32)), (.int (0 : Int32)), (.int (8 : Int32))] (.int (0 : Int32))) (gc3 : n0 ≤ b104) (sc3 : h0.size ≤ b104) :
    ∃ U_ o_, Steps p.tables e below (Tc.setTop (mkF m 421 #[.val (.int p1), .val (.ref b1), .val (.ref b104), .val (.int (14 : Int32))] [(.ref ad14)])) U_ ∧ U_.status = .running ∧ Ended U_ below o_ ∧ (∃ v_ L_, o_ = .returned v_ ∧ Q_rm0 Z p1 ad0 ad1 ad2 ad3 ad4 ad5 ad6 ad7 ad8 ad9 ad10 ad11 ad12 ad13 ad14 ad15 ad16 ad17 ad18 ad19 ad20 ad21 ad22 ad23 ad24 ad25 ad26 ad27 ad28 ad29 ad30 ad31 ad32 ad33 h0 n0 v_ U_.heap L_ ∧ FrameEnd s o_ U_ L_ room_1.cells room_1.slots) := by
  obtain ⟨cq233, kq233, q233a, q233b, q233c⟩ := isOf hZ ec (zc0.ext Oc.2)
  obtain ⟨_, _, ⟨T233, L233, k233, n233⟩, -, X233, ⟨Lc233, hQ233, l233, y233, z233⟩, st233⟩ := Xc.virtualBack hx (y := own_y2) (z := own_y2) hown (mvT hZ (own_w hw 74 rfl)) (mvT hZ (own_w hw 75 rfl)) (notFace_of_selects (args := #[]) (mvT hZ (own_w hw 77 rfl))) (mvT hZ (own_w hw 77 rfl)) (mvT hZ (own_w hw 76 rfl)) (by decide) (backOf (W := 0) (rmMIn137 l Z a0 hw [] ad14 (14 : Int32) Hc n0 (Nat.le_trans Z0 Kc0.1) Oc zc0 zc1 (by decide) (by decide)) hZ (own_w hw 78 rfl) (own_w hw 3 rfl) (by decide) (by decide)) q233a q233c (g := (mkF m 421 #[.val (.int p1), .val (.ref b1), .val (.ref b104), .val (.int (14 : Int32))] [(.ref ad14)])) rfl (by rw [hml]; rfl) (Steps.refl _) (argsL := []) (rest := []) (lenOf pd_0 rfl) rfl (by show 2 * 0 + _ ≤ _; exact Nat.le_of_eq rfl) (hb hby at_421) (fun _ _ => ⟨rfl, ec, (by decide : 2 + 0 ≤ _), (by decide : 68 + 0 ≤ _)⟩)
  dsimp only [Pt.U, Pt.locs, Pt.cells, Pt.slots] at X233 l233 y233 z233 st233 hQ233
  subst l233 y233 z233
  obtain ⟨rfl, N233q, eh233⟩ := hQ233
  have N233 := Fr.app Nc N233q
  refine own_via st233 ?_
  obtain ⟨cl234, Ar234, q234, S234, M234, H234, G234⟩ := id zc2
  have hin234 : ¬ ((14 : Int32) < 0 ∨ cl234.slots.size ≤ ((14 : Int32)).toNatClampNeg) := inb_of S234 ⟨by decide, by decide⟩
  have hat234 : cl234.slots[((14 : Int32)).toNatClampNeg]? = some (.int (0 : Int32)) := Has.at H234 hin234 rfl
  refine own_go (A := T233.setTop (mkF m 435 #[.val (.int p1), .val (.ref b1), .val (.ref b104), .val (.int (14 : Int32))] [(.int (1 : Int32))])) (fun t_ k_ => ?_) ?_
  · show Steps p.tables e below (T233.setTop (mkF m 424 #[.val (.int p1), .val (.ref b1), .val (.ref b104), .val (.int (14 : Int32))] [(.int (0 : Int32))])) t_
    refine XS.aloadN X233.here hx rfl (hb hby at_424) rfl rfl ?_
    show Steps p.tables e below (T233.setTop (mkF m 425 #[.val (.int p1), .val (.ref b1), .val (.ref b104), .val (.int (14 : Int32))] [(.ref b104), (.int (0 : Int32))])) t_
    refine XS.iloadN X233.here hx rfl (hb hby at_425) rfl ?_
    show Steps p.tables e below (T233.setTop (mkF m 426 #[.val (.int p1), .val (.ref b1), .val (.ref b104), .val (.int (14 : Int32))] [(.int (14 : Int32)), (.ref b104), (.int (0 : Int32))])) t_
    refine X233.iaload hx (j := (14 : Int32)) (v := (.int (0 : Int32))) (by rw [eh233]; exact Ar234.1) (State.isArrayOf_alike hZ.alike Ar234.2.1) Ar234.2.2 hin234 hat234 (g := (mkF m 426 #[.val (.int p1), .val (.ref b1), .val (.ref b104), .val (.int (14 : Int32))] [(.int (14 : Int32)), (.ref b104), (.int (0 : Int32))])) rfl rfl (hb hby at_426) _ ?_
    show Steps p.tables e below (T233.setTop (mkF m 427 #[.val (.int p1), .val (.ref b1), .val (.ref b104), .val (.int (14 : Int32))] [(.int (0 : Int32)), (.int (0 : Int32))])) t_
    refine XS.icmpNo X233.here hx rfl (hb hby at_427) rfl (teq (by decide : (0 : Int32) = (0 : Int32))).2 ?_
    show Steps p.tables e below (T233.setTop (mkF m 430 #[.val (.int p1), .val (.ref b1), .val (.ref b104), .val (.int (14 : Int32))] [])) t_
    refine XS.iconst X233.here hx rfl (hb hby at_430) ?_
    show Steps p.tables e below (T233.setTop (mkF m 431 #[.val (.int p1), .val (.ref b1), .val (.ref b104), .val (.int (14 : Int32))] [(.int (1 : Int32))])) t_
    refine XS.goto X233.here hx rfl (pc0 := 431) (pc' := 435) rfl (hb hby at_431) (by decide) (by decide) ?_
    exact k_
  obtain ⟨fs235, hr235, hrun235, hended235, hW235, hsame235⟩ := X233.leave (v := some (.int (1 : Int32))) (fun h => by rw [hret] at h; cases h)
  refine ⟨_, _, ?_, hrun235, hended235, _, _, rfl, ?_, ⟨_, rfl⟩, hW235, hsame235.mono (by decide) (by decide)⟩
  · exact retN X233 hx (t := .boolean) hret (by simp) (hb hby at_435) hr235
  · show Q_rm0 Z p1 ad0 ad1 ad2 ad3 ad4 ad5 ad6 ad7 ad8 ad9 ad10 ad11 ad12 ad13 ad14 ad15 ad16 ad17 ad18 ad19 ad20 ad21 ad22 ad23 ad24 ad25 ad26 ad27 ad28 ad29 ad30 ad31 ad32 ad33 h0 n0 _ T233.heap _
    rw [eh233]
    exact ⟨rfl, N233, Kc0⟩
set_option maxRecDepth 65536 in
set_option maxHeartbeats 40000000 in
theorem own_sufad15 (l : Launch) (Z : State) (a0 : Array Value) (hw : ∀ d ∈ tables_1, d.before a0 Z = true) (p1 : Int32) (ad0 : Addr) (ad1 : Addr) (ad2 : Addr) (ad3 : Addr) (ad4 : Addr) (ad5 : Addr) (ad6 : Addr) (ad7 : Addr) (ad8 : Addr) (ad9 : Addr) (ad10 : Addr) (ad11 : Addr) (ad12 : Addr) (ad13 : Addr) (ad14 : Addr) (ad15 : Addr) (ad16 : Addr) (ad17 : Addr) (ad18 : Addr) (ad19 : Addr) (ad20 : Addr) (ad21 : Addr) (ad22 : Addr) (ad23 : Addr) (ad24 : Addr) (ad25 : Addr) (ad26 : Addr) (ad27 : Addr) (ad28 : Addr) (ad29 : Addr) (ad30 : Addr) (ad31 : Addr) (ad32 : Addr) (ad33 : Addr) (b1 : Addr) (b104 : Addr) (k104 : ClassId) (h0 : Heap) (n0 : Nat) (Z0 : n0 ≤ h0.size) {p : Program} {e : Env} {s : State} {m : MethodId} {below : List Frame} {meth : Method} {c : Code} {Tc : State} {Hc : Heap} {locsc : List Loc} (Xc : Stand p l e room_1 s m #[(.int p1)] below meth c Tc locsc 2 68) (hx : p.tables.exec = Jvm.exec) (hZ : Z.Warmed39 s.vm) (hby : c.code = code) (hml : c.maxLocals = 4) (hown : s.vm.findClass "com/example/querent/querent/dicom/VrBinaryNumberLengthPinLaw" = some m.cls) (hret : meth.sig.returnType = some .boolean) (hlk : meth.locks = false) (hh : s.heap = h0) (ec : Tc.heap = Hc) (Nc : Fr n0 locsc) (Kc0 : Keep h0 Hc []) (Oc : Old Z n0 Hc) (zc0 : Exa Z Z.heap ad15 "com/example/querent/querent/dicom/Vr") (zc1 : Fld Z Z.heap ad15 "java/lang/Enum" "ordinal" "I" (.int (15 : Int32))) (zc2 : Arv Z Hc b104 k104 .int (34 : Int32) [(.int (0 : Int32)), (.int (0 : Int32)), (.int (0 : Int32)), (.int (0 : Int32)), (.int (0 : Int32)), (.int (0 : Int32)), (.int (0 : Int32)), (.int (8 : Int32)), (.int (4 : Int32)), (.int (0 : Int32)), (.int (0 : Int32)), (.int (0 : Int32)), (.int (0 : Int32)), (.int (0 : Int32)), (.int (0 : Int32)), (.int (0 : Int32)), (.int (0 : Int32)), (.int (0 : Int32)), (.int (0 : Int32)), (.int (0 : Int32)), (.int (4 : Int32)), (.int (0 : Int32)), (.int (2 : Int32)), (.int (0 : Int32)), (.int (8 : Int32)), (.int (0 : Int32)), (.int (0 : Int32)), (.int (0 : Int32)), (.int (4 : Int32)), (.int (0 : Int32)), (.int (0 : Int32)), (.int (2 : Int32)), (.int (0 : Int32)), (.int (8 : Int32))] (.int (0 : Int32))) (gc3 : n0 ≤ b104) (sc3 : h0.size ≤ b104) :
    ∃ U_ o_, Steps p.tables e below (Tc.setTop (mkF m 421 #[.val (.int p1), .val (.ref b1), .val (.ref b104), .val (.int (15 : Int32))] [(.ref ad15)])) U_ ∧ U_.status = .running ∧ Ended U_ below o_ ∧ (∃ v_ L_, o_ = .returned v_ ∧ Q_rm0 Z p1 ad0 ad1 ad2 ad3 ad4 ad5 ad6 ad7 ad8 ad9 ad10 ad11 ad12 ad13 ad14 ad15 ad16 ad17 ad18 ad19 ad20 ad21 ad22 ad23 ad24 ad25 ad26 ad27 ad28 ad29 ad30 ad31 ad32 ad33 h0 n0 v_ U_.heap L_ ∧ FrameEnd s o_ U_ L_ room_1.cells room_1.slots) := by
  obtain ⟨cq237, kq237, q237a, q237b, q237c⟩ := isOf hZ ec (zc0.ext Oc.2)
  obtain ⟨_, _, ⟨T237, L237, k237, n237⟩, -, X237, ⟨Lc237, hQ237, l237, y237, z237⟩, st237⟩ := Xc.virtualBack hx (y := own_y2) (z := own_y2) hown (mvT hZ (own_w hw 74 rfl)) (mvT hZ (own_w hw 75 rfl)) (notFace_of_selects (args := #[]) (mvT hZ (own_w hw 77 rfl))) (mvT hZ (own_w hw 77 rfl)) (mvT hZ (own_w hw 76 rfl)) (by decide) (backOf (W := 0) (rmMIn137 l Z a0 hw [] ad15 (15 : Int32) Hc n0 (Nat.le_trans Z0 Kc0.1) Oc zc0 zc1 (by decide) (by decide)) hZ (own_w hw 78 rfl) (own_w hw 3 rfl) (by decide) (by decide)) q237a q237c (g := (mkF m 421 #[.val (.int p1), .val (.ref b1), .val (.ref b104), .val (.int (15 : Int32))] [(.ref ad15)])) rfl (by rw [hml]; rfl) (Steps.refl _) (argsL := []) (rest := []) (lenOf pd_0 rfl) rfl (by show 2 * 0 + _ ≤ _; exact Nat.le_of_eq rfl) (hb hby at_421) (fun _ _ => ⟨rfl, ec, (by decide : 2 + 0 ≤ _), (by decide : 68 + 0 ≤ _)⟩)
  dsimp only [Pt.U, Pt.locs, Pt.cells, Pt.slots] at X237 l237 y237 z237 st237 hQ237
  subst l237 y237 z237
  obtain ⟨rfl, N237q, eh237⟩ := hQ237
  have N237 := Fr.app Nc N237q
  refine own_via st237 ?_
  obtain ⟨cl238, Ar238, q238, S238, M238, H238, G238⟩ := id zc2
  have hin238 : ¬ ((15 : Int32) < 0 ∨ cl238.slots.size ≤ ((15 : Int32)).toNatClampNeg) := inb_of S238 ⟨by decide, by decide⟩
  have hat238 : cl238.slots[((15 : Int32)).toNatClampNeg]? = some (.int (0 : Int32)) := Has.at H238 hin238 rfl
  refine own_go (A := T237.setTop (mkF m 435 #[.val (.int p1), .val (.ref b1), .val (.ref b104), .val (.int (15 : Int32))] [(.int (1 : Int32))])) (fun t_ k_ => ?_) ?_
  · show Steps p.tables e below (T237.setTop (mkF m 424 #[.val (.int p1), .val (.ref b1), .val (.ref b104), .val (.int (15 : Int32))] [(.int (0 : Int32))])) t_
    refine XS.aloadN X237.here hx rfl (hb hby at_424) rfl rfl ?_
    show Steps p.tables e below (T237.setTop (mkF m 425 #[.val (.int p1), .val (.ref b1), .val (.ref b104), .val (.int (15 : Int32))] [(.ref b104), (.int (0 : Int32))])) t_
    refine XS.iloadN X237.here hx rfl (hb hby at_425) rfl ?_
    show Steps p.tables e below (T237.setTop (mkF m 426 #[.val (.int p1), .val (.ref b1), .val (.ref b104), .val (.int (15 : Int32))] [(.int (15 : Int32)), (.ref b104), (.int (0 : Int32))])) t_
    refine X237.iaload hx (j := (15 : Int32)) (v := (.int (0 : Int32))) (by rw [eh237]; exact Ar238.1) (State.isArrayOf_alike hZ.alike Ar238.2.1) Ar238.2.2 hin238 hat238 (g := (mkF m 426 #[.val (.int p1), .val (.ref b1), .val (.ref b104), .val (.int (15 : Int32))] [(.int (15 : Int32)), (.ref b104), (.int (0 : Int32))])) rfl rfl (hb hby at_426) _ ?_
    show Steps p.tables e below (T237.setTop (mkF m 427 #[.val (.int p1), .val (.ref b1), .val (.ref b104), .val (.int (15 : Int32))] [(.int (0 : Int32)), (.int (0 : Int32))])) t_
    refine XS.icmpNo X237.here hx rfl (hb hby at_427) rfl (teq (by decide : (0 : Int32) = (0 : Int32))).2 ?_
    show Steps p.tables e below (T237.setTop (mkF m 430 #[.val (.int p1), .val (.ref b1), .val (.ref b104), .val (.int (15 : Int32))] [])) t_
    refine XS.iconst X237.here hx rfl (hb hby at_430) ?_
    show Steps p.tables e below (T237.setTop (mkF m 431 #[.val (.int p1), .val (.ref b1), .val (.ref b104), .val (.int (15 : Int32))] [(.int (1 : Int32))])) t_
    refine XS.goto X237.here hx rfl (pc0 := 431) (pc' := 435) rfl (hb hby at_431) (by decide) (by decide) ?_
    exact k_
  obtain ⟨fs239, hr239, hrun239, hended239, hW239, hsame239⟩ := X237.leave (v := some (.int (1 : Int32))) (fun h => by rw [hret] at h; cases h)
  refine ⟨_, _, ?_, hrun239, hended239, _, _, rfl, ?_, ⟨_, rfl⟩, hW239, hsame239.mono (by decide) (by decide)⟩
  · exact retN X237 hx (t := .boolean) hret (by simp) (hb hby at_435) hr239
  · show Q_rm0 Z p1 ad0 ad1 ad2 ad3 ad4 ad5 ad6 ad7 ad8 ad9 ad10 ad11 ad12 ad13 ad14 ad15 ad16 ad17 ad18 ad19 ad20 ad21 ad22 ad23 ad24 ad25 ad26 ad27 ad28 ad29 ad30 ad31 ad32 ad33 h0 n0 _ T237.heap _
    rw [eh237]
    exact ⟨rfl, N237, Kc0⟩
set_option maxRecDepth 65536 in
set_option maxHeartbeats 40000000 in
theorem own_sufad16 (l : Launch) (Z : State) (a0 : Array Value) (hw : ∀ d ∈ tables_1, d.before a0 Z = true) (p1 : Int32) (ad0 : Addr) (ad1 : Addr) (ad2 : Addr) (ad3 : Addr) (ad4 : Addr) (ad5 : Addr) (ad6 : Addr) (ad7 : Addr) (ad8 : Addr) (ad9 : Addr) (ad10 : Addr) (ad11 : Addr) (ad12 : Addr) (ad13 : Addr) (ad14 : Addr) (ad15 : Addr) (ad16 : Addr) (ad17 : Addr) (ad18 : Addr) (ad19 : Addr) (ad20 : Addr) (ad21 : Addr) (ad22 : Addr) (ad23 : Addr) (ad24 : Addr) (ad25 : Addr) (ad26 : Addr) (ad27 : Addr) (ad28 : Addr) (ad29 : Addr) (ad30 : Addr) (ad31 : Addr) (ad32 : Addr) (ad33 : Addr) (b1 : Addr) (b104 : Addr) (k104 : ClassId) (h0 : Heap) (n0 : Nat) (Z0 : n0 ≤ h0.size) {p : Program} {e : Env} {s : State} {m : MethodId} {below : List Frame} {meth : Method} {c : Code} {Tc : State} {Hc : Heap} {locsc : List Loc} (Xc : Stand p l e room_1 s m #[(.int p1)] below meth c Tc locsc 2 68) (hx : p.tables.exec = Jvm.exec) (hZ : Z.Warmed39 s.vm) (hby : c.code = code) (hml : c.maxLocals = 4) (hown : s.vm.findClass "com/example/querent/querent/dicom/VrBinaryNumberLengthPinLaw" = some m.cls) (hret : meth.sig.returnType = some .boolean) (hlk : meth.locks = false) (hh : s.heap = h0) (ec : Tc.heap = Hc) (Nc : Fr n0 locsc) (Kc0 : Keep h0 Hc []) (Oc : Old Z n0 Hc) (zc0 : Exa Z Z.heap ad16 "com/example/querent/querent/dicom/Vr") (zc1 : Fld Z Z.heap ad16 "java/lang/Enum" "ordinal" "I" (.int (16 : Int32))) (zc2 : Arv Z Hc b104 k104 .int (34 : Int32) [(.int (0 : Int32)), (.int (0 : Int32)), (.int (0 : Int32)), (.int (0 : Int32)), (.int (0 : Int32)), (.int (0 : Int32)), (.int (0 : Int32)), (.int (8 : Int32)), (.int (4 : Int32)), (.int (0 : Int32)), (.int (0 : Int32)), (.int (0 : Int32)), (.int (0 : Int32)), (.int (0 : Int32)), (.int (0 : Int32)), (.int (0 : Int32)), (.int (0 : Int32)), (.int (0 : Int32)), (.int (0 : Int32)), (.int (0 : Int32)), (.int (4 : Int32)), (.int (0 : Int32)), (.int (2 : Int32)), (.int (0 : Int32)), (.int (8 : Int32)), (.int (0 : Int32)), (.int (0 : Int32)), (.int (0 : Int32)), (.int (4 : Int32)), (.int (0 : Int32)), (.int (0 : Int32)), (.int (2 : Int32)), (.int (0 : Int32)), (.int (8 : Int32))] (.int (0 : Int32))) (gc3 : n0 ≤ b104) (sc3 : h0.size ≤ b104) :
    ∃ U_ o_, Steps p.tables e below (Tc.setTop (mkF m 421 #[.val (.int p1), .val (.ref b1), .val (.ref b104), .val (.int (16 : Int32))] [(.ref ad16)])) U_ ∧ U_.status = .running ∧ Ended U_ below o_ ∧ (∃ v_ L_, o_ = .returned v_ ∧ Q_rm0 Z p1 ad0 ad1 ad2 ad3 ad4 ad5 ad6 ad7 ad8 ad9 ad10 ad11 ad12 ad13 ad14 ad15 ad16 ad17 ad18 ad19 ad20 ad21 ad22 ad23 ad24 ad25 ad26 ad27 ad28 ad29 ad30 ad31 ad32 ad33 h0 n0 v_ U_.heap L_ ∧ FrameEnd s o_ U_ L_ room_1.cells room_1.slots) := by
  obtain ⟨cq241, kq241, q241a, q241b, q241c⟩ := isOf hZ ec (zc0.ext Oc.2)
  obtain ⟨_, _, ⟨T241, L241, k241, n241⟩, -, X241, ⟨Lc241, hQ241, l241, y241, z241⟩, st241⟩ := Xc.virtualBack hx (y := own_y2) (z := own_y2) hown (mvT hZ (own_w hw 74 rfl)) (mvT hZ (own_w hw 75 rfl)) (notFace_of_selects (args := #[]) (mvT hZ (own_w hw 77 rfl))) (mvT hZ (own_w hw 77 rfl)) (mvT hZ (own_w hw 76 rfl)) (by decide) (backOf (W := 0) (rmMIn137 l Z a0 hw [] ad16 (16 : Int32) Hc n0 (Nat.le_trans Z0 Kc0.1) Oc zc0 zc1 (by decide) (by decide)) hZ (own_w hw 78 rfl) (own_w hw 3 rfl) (by decide) (by decide)) q241a q241c (g := (mkF m 421 #[.val (.int p1), .val (.ref b1), .val (.ref b104), .val (.int (16 : Int32))] [(.ref ad16)])) rfl (by rw [hml]; rfl) (Steps.refl _) (argsL := []) (rest := []) (lenOf pd_0 rfl) rfl (by show 2 * 0 + _ ≤ _; exact Nat.le_of_eq rfl) (hb hby at_421) (fun _ _ => ⟨rfl, ec, (by decide : 2 + 0 ≤ _), (by decide : 68 + 0 ≤ _)⟩)
  dsimp only [Pt.U, Pt.locs, Pt.cells, Pt.slots] at X241 l241 y241 z241 st241 hQ241
  subst l241 y241 z241
  obtain ⟨rfl, N241q, eh241⟩ := hQ241
  have N241 := Fr.app Nc N241q
  refine own_via st241 ?_
  obtain ⟨cl242, Ar242, q242, S242, M242, H242, G242⟩ := id zc2
  have hin242 : ¬ ((16 : Int32) < 0 ∨ cl242.slots.size ≤ ((16 : Int32)).toNatClampNeg) := inb_of S242 ⟨by decide, by decide⟩
  have hat242 : cl242.slots[((16 : Int32)).toNatClampNeg]? = some (.int (0 : Int32)) := Has.at H242 hin242 rfl
  refine own_go (A := T241.setTop (mkF m 435 #[.val (.int p1), .val (.ref b1), .val (.ref b104), .val (.int (16 : Int32))] [(.int (1 : Int32))])) (fun t_ k_ => ?_) ?_
  · show Steps p.tables e below (T241.setTop (mkF m 424 #[.val (.int p1), .val (.ref b1), .val (.ref b104), .val (.int (16 : Int32))] [(.int (0 : Int32))])) t_
    refine XS.aloadN X241.here hx rfl (hb hby at_424) rfl rfl ?_
    show Steps p.tables e below (T241.setTop (mkF m 425 #[.val (.int p1), .val (.ref b1), .val (.ref b104), .val (.int (16 : Int32))] [(.ref b104), (.int (0 : Int32))])) t_
    refine XS.iloadN X241.here hx rfl (hb hby at_425) rfl ?_
    show Steps p.tables e below (T241.setTop (mkF m 426 #[.val (.int p1), .val (.ref b1), .val (.ref b104), .val (.int (16 : Int32))] [(.int (16 : Int32)), (.ref b104), (.int (0 : Int32))])) t_
    refine X241.iaload hx (j := (16 : Int32)) (v := (.int (0 : Int32))) (by rw [eh241]; exact Ar242.1) (State.isArrayOf_alike hZ.alike Ar242.2.1) Ar242.2.2 hin242 hat242 (g := (mkF m 426 #[.val (.int p1), .val (.ref b1), .val (.ref b104), .val (.int (16 : Int32))] [(.int (16 : Int32)), (.ref b104), (.int (0 : Int32))])) rfl rfl (hb hby at_426) _ ?_
    show Steps p.tables e below (T241.setTop (mkF m 427 #[.val (.int p1), .val (.ref b1), .val (.ref b104), .val (.int (16 : Int32))] [(.int (0 : Int32)), (.int (0 : Int32))])) t_
    refine XS.icmpNo X241.here hx rfl (hb hby at_427) rfl (teq (by decide : (0 : Int32) = (0 : Int32))).2 ?_
    show Steps p.tables e below (T241.setTop (mkF m 430 #[.val (.int p1), .val (.ref b1), .val (.ref b104), .val (.int (16 : Int32))] [])) t_
    refine XS.iconst X241.here hx rfl (hb hby at_430) ?_
    show Steps p.tables e below (T241.setTop (mkF m 431 #[.val (.int p1), .val (.ref b1), .val (.ref b104), .val (.int (16 : Int32))] [(.int (1 : Int32))])) t_
    refine XS.goto X241.here hx rfl (pc0 := 431) (pc' := 435) rfl (hb hby at_431) (by decide) (by decide) ?_
    exact k_
  obtain ⟨fs243, hr243, hrun243, hended243, hW243, hsame243⟩ := X241.leave (v := some (.int (1 : Int32))) (fun h => by rw [hret] at h; cases h)
  refine ⟨_, _, ?_, hrun243, hended243, _, _, rfl, ?_, ⟨_, rfl⟩, hW243, hsame243.mono (by decide) (by decide)⟩
  · exact retN X241 hx (t := .boolean) hret (by simp) (hb hby at_435) hr243
  · show Q_rm0 Z p1 ad0 ad1 ad2 ad3 ad4 ad5 ad6 ad7 ad8 ad9 ad10 ad11 ad12 ad13 ad14 ad15 ad16 ad17 ad18 ad19 ad20 ad21 ad22 ad23 ad24 ad25 ad26 ad27 ad28 ad29 ad30 ad31 ad32 ad33 h0 n0 _ T241.heap _
    rw [eh241]
    exact ⟨rfl, N241, Kc0⟩
set_option maxRecDepth 65536 in
set_option maxHeartbeats 40000000 in
theorem own_sufad17 (l : Launch) (Z : State) (a0 : Array Value) (hw : ∀ d ∈ tables_1, d.before a0 Z = true) (p1 : Int32) (ad0 : Addr) (ad1 : Addr) (ad2 : Addr) (ad3 : Addr) (ad4 : Addr) (ad5 : Addr) (ad6 : Addr) (ad7 : Addr) (ad8 : Addr) (ad9 : Addr) (ad10 : Addr) (ad11 : Addr) (ad12 : Addr) (ad13 : Addr) (ad14 : Addr) (ad15 : Addr) (ad16 : Addr) (ad17 : Addr) (ad18 : Addr) (ad19 : Addr) (ad20 : Addr) (ad21 : Addr) (ad22 : Addr) (ad23 : Addr) (ad24 : Addr) (ad25 : Addr) (ad26 : Addr) (ad27 : Addr) (ad28 : Addr) (ad29 : Addr) (ad30 : Addr) (ad31 : Addr) (ad32 : Addr) (ad33 : Addr) (b1 : Addr) (b104 : Addr) (k104 : ClassId) (h0 : Heap) (n0 : Nat) (Z0 : n0 ≤ h0.size) {p : Program} {e : Env} {s : State} {m : MethodId} {below : List Frame} {meth : Method} {c : Code} {Tc : State} {Hc : Heap} {locsc : List Loc} (Xc : Stand p l e room_1 s m #[(.int p1)] below meth c Tc locsc 2 68) (hx : p.tables.exec = Jvm.exec) (hZ : Z.Warmed39 s.vm) (hby : c.code = code) (hml : c.maxLocals = 4) (hown : s.vm.findClass "com/example/querent/querent/dicom/VrBinaryNumberLengthPinLaw" = some m.cls) (hret : meth.sig.returnType = some .boolean) (hlk : meth.locks = false) (hh : s.heap = h0) (ec : Tc.heap = Hc) (Nc : Fr n0 locsc) (Kc0 : Keep h0 Hc []) (Oc : Old Z n0 Hc) (zc0 : Exa Z Z.heap ad17 "com/example/querent/querent/dicom/Vr") (zc1 : Fld Z Z.heap ad17 "java/lang/Enum" "ordinal" "I" (.int (17 : Int32))) (zc2 : Arv Z Hc b104 k104 .int (34 : Int32) [(.int (0 : Int32)), (.int (0 : Int32)), (.int (0 : Int32)), (.int (0 : Int32)), (.int (0 : Int32)), (.int (0 : Int32)), (.int (0 : Int32)), (.int (8 : Int32)), (.int (4 : Int32)), (.int (0 : Int32)), (.int (0 : Int32)), (.int (0 : Int32)), (.int (0 : Int32)), (.int (0 : Int32)), (.int (0 : Int32)), (.int (0 : Int32)), (.int (0 : Int32)), (.int (0 : Int32)), (.int (0 : Int32)), (.int (0 : Int32)), (.int (4 : Int32)), (.int (0 : Int32)), (.int (2 : Int32)), (.int (0 : Int32)), (.int (8 : Int32)), (.int (0 : Int32)), (.int (0 : Int32)), (.int (0 : Int32)), (.int (4 : Int32)), (.int (0 : Int32)), (.int (0 : Int32)), (.int (2 : Int32)), (.int (0 : Int32)), (.int (8 : Int32))] (.int (0 : Int32))) (gc3 : n0 ≤ b104) (sc3 : h0.size ≤ b104) :
    ∃ U_ o_, Steps p.tables e below (Tc.setTop (mkF m 421 #[.val (.int p1), .val (.ref b1), .val (.ref b104), .val (.int (17 : Int32))] [(.ref ad17)])) U_ ∧ U_.status = .running ∧ Ended U_ below o_ ∧ (∃ v_ L_, o_ = .returned v_ ∧ Q_rm0 Z p1 ad0 ad1 ad2 ad3 ad4 ad5 ad6 ad7 ad8 ad9 ad10 ad11 ad12 ad13 ad14 ad15 ad16 ad17 ad18 ad19 ad20 ad21 ad22 ad23 ad24 ad25 ad26 ad27 ad28 ad29 ad30 ad31 ad32 ad33 h0 n0 v_ U_.heap L_ ∧ FrameEnd s o_ U_ L_ room_1.cells room_1.slots) := by
  obtain ⟨cq245, kq245, q245a, q245b, q245c⟩ := isOf hZ ec (zc0.ext Oc.2)
  obtain ⟨_, _, ⟨T245, L245, k245, n245⟩, -, X245, ⟨Lc245, hQ245, l245, y245, z245⟩, st245⟩ := Xc.virtualBack hx (y := own_y2) (z := own_y2) hown (mvT hZ (own_w hw 74 rfl)) (mvT hZ (own_w hw 75 rfl)) (notFace_of_selects (args := #[]) (mvT hZ (own_w hw 77 rfl))) (mvT hZ (own_w hw 77 rfl)) (mvT hZ (own_w hw 76 rfl)) (by decide) (backOf (W := 0) (rmMIn137 l Z a0 hw [] ad17 (17 : Int32) Hc n0 (Nat.le_trans Z0 Kc0.1) Oc zc0 zc1 (by decide) (by decide)) hZ (own_w hw 78 rfl) (own_w hw 3 rfl) (by decide) (by decide)) q245a q245c (g := (mkF m 421 #[.val (.int p1), .val (.ref b1), .val (.ref b104), .val (.int (17 : Int32))] [(.ref ad17)])) rfl (by rw [hml]; rfl) (Steps.refl _) (argsL := []) (rest := []) (lenOf pd_0 rfl) rfl (by show 2 * 0 + _ ≤ _; exact Nat.le_of_eq rfl) (hb hby at_421) (fun _ _ => ⟨rfl, ec, (by decide : 2 + 0 ≤ _), (by decide : 68 + 0 ≤ _)⟩)
  dsimp only [Pt.U, Pt.locs, Pt.cells, Pt.slots] at X245 l245 y245 z245 st245 hQ245
  subst l245 y245 z245
  obtain ⟨rfl, N245q, eh245⟩ := hQ245
  have N245 := Fr.app Nc N245q
  refine own_via st245 ?_
  obtain ⟨cl246, Ar246, q246, S246, M246, H246, G246⟩ := id zc2
  have hin246 : ¬ ((17 : Int32) < 0 ∨ cl246.slots.size ≤ ((17 : Int32)).toNatClampNeg) := inb_of S246 ⟨by decide, by decide⟩
  have hat246 : cl246.slots[((17 : Int32)).toNatClampNeg]? = some (.int (0 : Int32)) := Has.at H246 hin246 rfl
  refine own_go (A := T245.setTop (mkF m 435 #[.val (.int p1), .val (.ref b1), .val (.ref b104), .val (.int (17 : Int32))] [(.int (1 : Int32))])) (fun t_ k_ => ?_) ?_
  · show Steps p.tables e below (T245.setTop (mkF m 424 #[.val (.int p1), .val (.ref b1), .val (.ref b104), .val (.int (17 : Int32))] [(.int (0 : Int32))])) t_
    refine XS.aloadN X245.here hx rfl (hb hby at_424) rfl rfl ?_
    show Steps p.tables e below (T245.setTop (mkF m 425 #[.val (.int p1), .val (.ref b1), .val (.ref b104), .val (.int (17 : Int32))] [(.ref b104), (.int (0 : Int32))])) t_
    refine XS.iloadN X245.here hx rfl (hb hby at_425) rfl ?_
    show Steps p.tables e below (T245.setTop (mkF m 426 #[.val (.int p1), .val (.ref b1), .val (.ref b104), .val (.int (17 : Int32))] [(.int (17 : Int32)), (.ref b104), (.int (0 : Int32))])) t_
    refine X245.iaload hx (j := (17 : Int32)) (v := (.int (0 : Int32))) (by rw [eh245]; exact Ar246.1) (State.isArrayOf_alike hZ.alike Ar246.2.1) Ar246.2.2 hin246 hat246 (g := (mkF m 426 #[.val (.int p1), .val (.ref b1), .val (.ref b104), .val (.int (17 : Int32))] [(.int (17 : Int32)), (.ref b104), (.int (0 : Int32))])) rfl rfl (hb hby at_426) _ ?_
    show Steps p.tables e below (T245.setTop (mkF m 427 #[.val (.int p1), .val (.ref b1), .val (.ref b104), .val (.int (17 : Int32))] [(.int (0 : Int32)), (.int (0 : Int32))])) t_
    refine XS.icmpNo X245.here hx rfl (hb hby at_427) rfl (teq (by decide : (0 : Int32) = (0 : Int32))).2 ?_
    show Steps p.tables e below (T245.setTop (mkF m 430 #[.val (.int p1), .val (.ref b1), .val (.ref b104), .val (.int (17 : Int32))] [])) t_
    refine XS.iconst X245.here hx rfl (hb hby at_430) ?_
    show Steps p.tables e below (T245.setTop (mkF m 431 #[.val (.int p1), .val (.ref b1), .val (.ref b104), .val (.int (17 : Int32))] [(.int (1 : Int32))])) t_
    refine XS.goto X245.here hx rfl (pc0 := 431) (pc' := 435) rfl (hb hby at_431) (by decide) (by decide) ?_
    exact k_
  obtain ⟨fs247, hr247, hrun247, hended247, hW247, hsame247⟩ := X245.leave (v := some (.int (1 : Int32))) (fun h => by rw [hret] at h; cases h)
  refine ⟨_, _, ?_, hrun247, hended247, _, _, rfl, ?_, ⟨_, rfl⟩, hW247, hsame247.mono (by decide) (by decide)⟩
  · exact retN X245 hx (t := .boolean) hret (by simp) (hb hby at_435) hr247
  · show Q_rm0 Z p1 ad0 ad1 ad2 ad3 ad4 ad5 ad6 ad7 ad8 ad9 ad10 ad11 ad12 ad13 ad14 ad15 ad16 ad17 ad18 ad19 ad20 ad21 ad22 ad23 ad24 ad25 ad26 ad27 ad28 ad29 ad30 ad31 ad32 ad33 h0 n0 _ T245.heap _
    rw [eh245]
    exact ⟨rfl, N245, Kc0⟩
set_option maxRecDepth 65536 in
set_option maxHeartbeats 40000000 in
theorem own_sufad18 (l : Launch) (Z : State) (a0 : Array Value) (hw : ∀ d ∈ tables_1, d.before a0 Z = true) (p1 : Int32) (ad0 : Addr) (ad1 : Addr) (ad2 : Addr) (ad3 : Addr) (ad4 : Addr) (ad5 : Addr) (ad6 : Addr) (ad7 : Addr) (ad8 : Addr) (ad9 : Addr) (ad10 : Addr) (ad11 : Addr) (ad12 : Addr) (ad13 : Addr) (ad14 : Addr) (ad15 : Addr) (ad16 : Addr) (ad17 : Addr) (ad18 : Addr) (ad19 : Addr) (ad20 : Addr) (ad21 : Addr) (ad22 : Addr) (ad23 : Addr) (ad24 : Addr) (ad25 : Addr) (ad26 : Addr) (ad27 : Addr) (ad28 : Addr) (ad29 : Addr) (ad30 : Addr) (ad31 : Addr) (ad32 : Addr) (ad33 : Addr) (b1 : Addr) (b104 : Addr) (k104 : ClassId) (h0 : Heap) (n0 : Nat) (Z0 : n0 ≤ h0.size) {p : Program} {e : Env} {s : State} {m : MethodId} {below : List Frame} {meth : Method} {c : Code} {Tc : State} {Hc : Heap} {locsc : List Loc} (Xc : Stand p l e room_1 s m #[(.int p1)] below meth c Tc locsc 2 68) (hx : p.tables.exec = Jvm.exec) (hZ : Z.Warmed39 s.vm) (hby : c.code = code) (hml : c.maxLocals = 4) (hown : s.vm.findClass "com/example/querent/querent/dicom/VrBinaryNumberLengthPinLaw" = some m.cls) (hret : meth.sig.returnType = some .boolean) (hlk : meth.locks = false) (hh : s.heap = h0) (ec : Tc.heap = Hc) (Nc : Fr n0 locsc) (Kc0 : Keep h0 Hc []) (Oc : Old Z n0 Hc) (zc0 : Exa Z Z.heap ad18 "com/example/querent/querent/dicom/Vr") (zc1 : Fld Z Z.heap ad18 "java/lang/Enum" "ordinal" "I" (.int (18 : Int32))) (zc2 : Arv Z Hc b104 k104 .int (34 : Int32) [(.int (0 : Int32)), (.int (0 : Int32)), (.int (0 : Int32)), (.int (0 : Int32)), (.int (0 : Int32)), (.int (0 : Int32)), (.int (0 : Int32)), (.int (8 : Int32)), (.int (4 : Int32)), (.int (0 : Int32)), (.int (0 : Int32)), (.int (0 : Int32)), (.int (0 : Int32)), (.int (0 : Int32)), (.int (0 : Int32)), (.int (0 : Int32)), (.int (0 : Int32)), (.int (0 : Int32)), (.int (0 : Int32)), (.int (0 : Int32)), (.int (4 : Int32)), (.int (0 : Int32)), (.int (2 : Int32)), (.int (0 : Int32)), (.int (8 : Int32)), (.int (0 : Int32)), (.int (0 : Int32)), (.int (0 : Int32)), (.int (4 : Int32)), (.int (0 : Int32)), (.int (0 : Int32)), (.int (2 : Int32)), (.int (0 : Int32)), (.int (8 : Int32))] (.int (0 : Int32))) (gc3 : n0 ≤ b104) (sc3 : h0.size ≤ b104) :
    ∃ U_ o_, Steps p.tables e below (Tc.setTop (mkF m 421 #[.val (.int p1), .val (.ref b1), .val (.ref b104), .val (.int (18 : Int32))] [(.ref ad18)])) U_ ∧ U_.status = .running ∧ Ended U_ below o_ ∧ (∃ v_ L_, o_ = .returned v_ ∧ Q_rm0 Z p1 ad0 ad1 ad2 ad3 ad4 ad5 ad6 ad7 ad8 ad9 ad10 ad11 ad12 ad13 ad14 ad15 ad16 ad17 ad18 ad19 ad20 ad21 ad22 ad23 ad24 ad25 ad26 ad27 ad28 ad29 ad30 ad31 ad32 ad33 h0 n0 v_ U_.heap L_ ∧ FrameEnd s o_ U_ L_ room_1.cells room_1.slots) := by
  obtain ⟨cq249, kq249, q249a, q249b, q249c⟩ := isOf hZ ec (zc0.ext Oc.2)
  obtain ⟨_, _, ⟨T249, L249, k249, n249⟩, -, X249, ⟨Lc249, hQ249, l249, y249, z249⟩, st249⟩ := Xc.virtualBack hx (y := own_y2) (z := own_y2) hown (mvT hZ (own_w hw 74 rfl)) (mvT hZ (own_w hw 75 rfl)) (notFace_of_selects (args := #[]) (mvT hZ (own_w hw 77 rfl))) (mvT hZ (own_w hw 77 rfl)) (mvT hZ (own_w hw 76 rfl)) (by decide) (backOf (W := 0) (rmMIn137 l Z a0 hw [] ad18 (18 : Int32) Hc n0 (Nat.le_trans Z0 Kc0.1) Oc zc0 zc1 (by decide) (by decide)) hZ (own_w hw 78 rfl) (own_w hw 3 rfl) (by decide) (by decide)) q249a q249c (g := (mkF m 421 #[.val (.int p1), .val (.ref b1), .val (.ref b104), .val (.int (18 : Int32))] [(.ref ad18)])) rfl (by rw [hml]; rfl) (Steps.refl _) (argsL := []) (rest := []) (lenOf pd_0 rfl) rfl (by show 2 * 0 + _ ≤ _; exact Nat.le_of_eq rfl) (hb hby at_421) (fun _ _ => ⟨rfl, ec, (by decide : 2 + 0 ≤ _), (by decide : 68 + 0 ≤ _)⟩)
  dsimp only [Pt.U, Pt.locs, Pt.cells, Pt.slots] at X249 l249 y249 z249 st249 hQ249
  subst l249 y249 z249
  obtain ⟨rfl, N249q, eh249⟩ := hQ249
  have N249 := Fr.app Nc N249q
  refine own_via st249 ?_
  obtain ⟨cl250, Ar250, q250, S250, M250, H250, G250⟩ := id zc2
  have hin250 : ¬ ((18 : Int32) < 0 ∨ cl250.slots.size ≤ ((18 : Int32)).toNatClampNeg) := inb_of S250 ⟨by decide, by decide⟩
  have hat250 : cl250.slots[((18 : Int32)).toNatClampNeg]? = some (.int (0 : Int32)) := Has.at H250 hin250 rfl
  refine own_go (A := T249.setTop (mkF m 435 #[.val (.int p1), .val (.ref b1), .val (.ref b104), .val (.int (18 : Int32))] [(.int (1 : Int32))])) (fun t_ k_ => ?_) ?_
  · show Steps p.tables e below (T249.setTop (mkF m 424 #[.val (.int p1), .val (.ref b1), .val (.ref b104), .val (.int (18 : Int32))] [(.int (0 : Int32))])) t_
    refine XS.aloadN X249.here hx rfl (hb hby at_424) rfl rfl ?_
    show Steps p.tables e below (T249.setTop (mkF m 425 #[.val (.int p1), .val (.ref b1), .val (.ref b104), .val (.int (18 : Int32))] [(.ref b104), (.int (0 : Int32))])) t_
    refine XS.iloadN X249.here hx rfl (hb hby at_425) rfl ?_
    show Steps p.tables e below (T249.setTop (mkF m 426 #[.val (.int p1), .val (.ref b1), .val (.ref b104), .val (.int (18 : Int32))] [(.int (18 : Int32)), (.ref b104), (.int (0 : Int32))])) t_
    refine X249.iaload hx (j := (18 : Int32)) (v := (.int (0 : Int32))) (by rw [eh249]; exact Ar250.1) (State.isArrayOf_alike hZ.alike Ar250.2.1) Ar250.2.2 hin250 hat250 (g := (mkF m 426 #[.val (.int p1), .val (.ref b1), .val (.ref b104), .val (.int (18 : Int32))] [(.int (18 : Int32)), (.ref b104), (.int (0 : Int32))])) rfl rfl (hb hby at_426) _ ?_
    show Steps p.tables e below (T249.setTop (mkF m 427 #[.val (.int p1), .val (.ref b1), .val (.ref b104), .val (.int (18 : Int32))] [(.int (0 : Int32)), (.int (0 : Int32))])) t_
    refine XS.icmpNo X249.here hx rfl (hb hby at_427) rfl (teq (by decide : (0 : Int32) = (0 : Int32))).2 ?_
    show Steps p.tables e below (T249.setTop (mkF m 430 #[.val (.int p1), .val (.ref b1), .val (.ref b104), .val (.int (18 : Int32))] [])) t_
    refine XS.iconst X249.here hx rfl (hb hby at_430) ?_
    show Steps p.tables e below (T249.setTop (mkF m 431 #[.val (.int p1), .val (.ref b1), .val (.ref b104), .val (.int (18 : Int32))] [(.int (1 : Int32))])) t_
    refine XS.goto X249.here hx rfl (pc0 := 431) (pc' := 435) rfl (hb hby at_431) (by decide) (by decide) ?_
    exact k_
  obtain ⟨fs251, hr251, hrun251, hended251, hW251, hsame251⟩ := X249.leave (v := some (.int (1 : Int32))) (fun h => by rw [hret] at h; cases h)
  refine ⟨_, _, ?_, hrun251, hended251, _, _, rfl, ?_, ⟨_, rfl⟩, hW251, hsame251.mono (by decide) (by decide)⟩
  · exact retN X249 hx (t := .boolean) hret (by simp) (hb hby at_435) hr251
  · show Q_rm0 Z p1 ad0 ad1 ad2 ad3 ad4 ad5 ad6 ad7 ad8 ad9 ad10 ad11 ad12 ad13 ad14 ad15 ad16 ad17 ad18 ad19 ad20 ad21 ad22 ad23 ad24 ad25 ad26 ad27 ad28 ad29 ad30 ad31 ad32 ad33 h0 n0 _ T249.heap _
    rw [eh249]
    exact ⟨rfl, N249, Kc0⟩
set_option maxRecDepth 65536 in
set_option maxHeartbeats 40000000 in
theorem own_sufad19 (l : Launch) (Z : State) (a0 : Array Value) (hw : ∀ d ∈ tables_1, d.before a0 Z = true) (p1 : Int32) (ad0 : Addr) (ad1 : Addr) (ad2 : Addr) (ad3 : Addr) (ad4 : Addr) (ad5 : Addr) (ad6 : Addr) (ad7 : Addr) (ad8 : Addr) (ad9 : Addr) (ad10 : Addr) (ad11 : Addr) (ad12 : Addr) (ad13 : Addr) (ad14 : Addr) (ad15 : Addr) (ad16 : Addr) (ad17 : Addr) (ad18 : Addr) (ad19 : Addr) (ad20 : Addr) (ad21 : Addr) (ad22 : Addr) (ad23 : Addr) (ad24 : Addr) (ad25 : Addr) (ad26 : Addr) (ad27 : Addr) (ad28 : Addr) (ad29 : Addr) (ad30 : Addr) (ad31 : Addr) (ad32 : Addr) (ad33 : Addr) (b1 : Addr) (b104 : Addr) (k104 : ClassId) (h0 : Heap) (n0 : Nat) (Z0 : n0 ≤ h0.size) {p : Program} {e : Env} {s : State} {m : MethodId} {below : List Frame} {meth : Method} {c : Code} {Tc : State} {Hc : Heap} {locsc : List Loc} (Xc : Stand p l e room_1 s m #[(.int p1)] below meth c Tc locsc 2 68) (hx : p.tables.exec = Jvm.exec) (hZ : Z.Warmed39 s.vm) (hby : c.code = code) (hml : c.maxLocals = 4) (hown : s.vm.findClass "com/example/querent/querent/dicom/VrBinaryNumberLengthPinLaw" = some m.cls) (hret : meth.sig.returnType = some .boolean) (hlk : meth.locks = false) (hh : s.heap = h0) (ec : Tc.heap = Hc) (Nc : Fr n0 locsc) (Kc0 : Keep h0 Hc []) (Oc : Old Z n0 Hc) (zc0 : Exa Z Z.heap ad19 "com/example/querent/querent/dicom/Vr") (zc1 : Fld Z Z.heap ad19 "java/lang/Enum" "ordinal" "I" (.int (19 : Int32))) (zc2 : Arv Z Hc b104 k104 .int (34 : Int32) [(.int (0 : Int32)), (.int (0 : Int32)), (.int (0 : Int32)), (.int (0 : Int32)), (.int (0 : Int32)), (.int (0 : Int32)), (.int (0 : Int32)), (.int (8 : Int32)), (.int (4 : Int32)), (.int (0 : Int32)), (.int (0 : Int32)), (.int (0 : Int32)), (.int (0 : Int32)), (.int (0 : Int32)), (.int (0 : Int32)), (.int (0 : Int32)), (.int (0 : Int32)), (.int (0 : Int32)), (.int (0 : Int32)), (.int (0 : Int32)), (.int (4 : Int32)), (.int (0 : Int32)), (.int (2 : Int32)), (.int (0 : Int32)), (.int (8 : Int32)), (.int (0 : Int32)), (.int (0 : Int32)), (.int (0 : Int32)), (.int (4 : Int32)), (.int (0 : Int32)), (.int (0 : Int32)), (.int (2 : Int32)), (.int (0 : Int32)), (.int (8 : Int32))] (.int (0 : Int32))) (gc3 : n0 ≤ b104) (sc3 : h0.size ≤ b104) :
    ∃ U_ o_, Steps p.tables e below (Tc.setTop (mkF m 421 #[.val (.int p1), .val (.ref b1), .val (.ref b104), .val (.int (19 : Int32))] [(.ref ad19)])) U_ ∧ U_.status = .running ∧ Ended U_ below o_ ∧ (∃ v_ L_, o_ = .returned v_ ∧ Q_rm0 Z p1 ad0 ad1 ad2 ad3 ad4 ad5 ad6 ad7 ad8 ad9 ad10 ad11 ad12 ad13 ad14 ad15 ad16 ad17 ad18 ad19 ad20 ad21 ad22 ad23 ad24 ad25 ad26 ad27 ad28 ad29 ad30 ad31 ad32 ad33 h0 n0 v_ U_.heap L_ ∧ FrameEnd s o_ U_ L_ room_1.cells room_1.slots) := by
  obtain ⟨cq253, kq253, q253a, q253b, q253c⟩ := isOf hZ ec (zc0.ext Oc.2)
  obtain ⟨_, _, ⟨T253, L253, k253, n253⟩, -, X253, ⟨Lc253, hQ253, l253, y253, z253⟩, st253⟩ := Xc.virtualBack hx (y := own_y2) (z := own_y2) hown (mvT hZ (own_w hw 74 rfl)) (mvT hZ (own_w hw 75 rfl)) (notFace_of_selects (args := #[]) (mvT hZ (own_w hw 77 rfl))) (mvT hZ (own_w hw 77 rfl)) (mvT hZ (own_w hw 76 rfl)) (by decide) (backOf (W := 0) (rmMIn137 l Z a0 hw [] ad19 (19 : Int32) Hc n0 (Nat.le_trans Z0 Kc0.1) Oc zc0 zc1 (by decide) (by decide)) hZ (own_w hw 78 rfl) (own_w hw 3 rfl) (by decide) (by decide)) q253a q253c (g := (mkF m 421 #[.val (.int p1), .val (.ref b1), .val (.ref b104), .val (.int (19 : Int32))] [(.ref ad19)])) rfl (by rw [hml]; rfl) (Steps.refl _) (argsL := []) (rest := []) (lenOf pd_0 rfl) rfl (by show 2 * 0 + _ ≤ _; exact Nat.le_of_eq rfl) (hb hby at_421) (fun _ _ => ⟨rfl, ec, (by decide : 2 + 0 ≤ _), (by decide : 68 + 0 ≤ _)⟩)
  dsimp only [Pt.U, Pt.locs, Pt.cells, Pt.slots] at X253 l253 y253 z253 st253 hQ253
  subst l253 y253 z253
  obtain ⟨rfl, N253q, eh253⟩ := hQ253
  have N253 := Fr.app Nc N253q
  refine own_via st253 ?_
  obtain ⟨cl254, Ar254, q254, S254, M254, H254, G254⟩ := id zc2
  have hin254 : ¬ ((19 : Int32) < 0 ∨ cl254.slots.size ≤ ((19 : Int32)).toNatClampNeg) := inb_of S254 ⟨by decide, by decide⟩
  have hat254 : cl254.slots[((19 : Int32)).toNatClampNeg]? = some (.int (0 : Int32)) := Has.at H254 hin254 rfl
  refine own_go (A := T253.setTop (mkF m 435 #[.val (.int p1), .val (.ref b1), .val (.ref b104), .val (.int (19 : Int32))] [(.int (1 : Int32))])) (fun t_ k_ => ?_) ?_
  · show Steps p.tables e below (T253.setTop (mkF m 424 #[.val (.int p1), .val (.ref b1), .val (.ref b104), .val (.int (19 : Int32))] [(.int (0 : Int32))])) t_
    refine XS.aloadN X253.here hx rfl (hb hby at_424) rfl rfl ?_
    show Steps p.tables e below (T253.setTop (mkF m 425 #[.val (.int p1), .val (.ref b1), .val (.ref b104), .val (.int (19 : Int32))] [(.ref b104), (.int (0 : Int32))])) t_
    refine XS.iloadN X253.here hx rfl (hb hby at_425) rfl ?_
    show Steps p.tables e below (T253.setTop (mkF m 426 #[.val (.int p1), .val (.ref b1), .val (.ref b104), .val (.int (19 : Int32))] [(.int (19 : Int32)), (.ref b104), (.int (0 : Int32))])) t_
    refine X253.iaload hx (j := (19 : Int32)) (v := (.int (0 : Int32))) (by rw [eh253]; exact Ar254.1) (State.isArrayOf_alike hZ.alike Ar254.2.1) Ar254.2.2 hin254 hat254 (g := (mkF m 426 #[.val (.int p1), .val (.ref b1), .val (.ref b104), .val (.int (19 : Int32))] [(.int (19 : Int32)), (.ref b104), (.int (0 : Int32))])) rfl rfl (hb hby at_426) _ ?_
    show Steps p.tables e below (T253.setTop (mkF m 427 #[.val (.int p1), .val (.ref b1), .val (.ref b104), .val (.int (19 : Int32))] [(.int (0 : Int32)), (.int (0 : Int32))])) t_
    refine XS.icmpNo X253.here hx rfl (hb hby at_427) rfl (teq (by decide : (0 : Int32) = (0 : Int32))).2 ?_
    show Steps p.tables e below (T253.setTop (mkF m 430 #[.val (.int p1), .val (.ref b1), .val (.ref b104), .val (.int (19 : Int32))] [])) t_
    refine XS.iconst X253.here hx rfl (hb hby at_430) ?_
    show Steps p.tables e below (T253.setTop (mkF m 431 #[.val (.int p1), .val (.ref b1), .val (.ref b104), .val (.int (19 : Int32))] [(.int (1 : Int32))])) t_
    refine XS.goto X253.here hx rfl (pc0 := 431) (pc' := 435) rfl (hb hby at_431) (by decide) (by decide) ?_
    exact k_
  obtain ⟨fs255, hr255, hrun255, hended255, hW255, hsame255⟩ := X253.leave (v := some (.int (1 : Int32))) (fun h => by rw [hret] at h; cases h)
  refine ⟨_, _, ?_, hrun255, hended255, _, _, rfl, ?_, ⟨_, rfl⟩, hW255, hsame255.mono (by decide) (by decide)⟩
  · exact retN X253 hx (t := .boolean) hret (by simp) (hb hby at_435) hr255
  · show Q_rm0 Z p1 ad0 ad1 ad2 ad3 ad4 ad5 ad6 ad7 ad8 ad9 ad10 ad11 ad12 ad13 ad14 ad15 ad16 ad17 ad18 ad19 ad20 ad21 ad22 ad23 ad24 ad25 ad26 ad27 ad28 ad29 ad30 ad31 ad32 ad33 h0 n0 _ T253.heap _
    rw [eh253]
    exact ⟨rfl, N253, Kc0⟩
set_option maxRecDepth 65536 in
set_option maxHeartbeats 40000000 in
theorem own_sufad20 (l : Launch) (Z : State) (a0 : Array Value) (hw : ∀ d ∈ tables_1, d.before a0 Z = true) (p1 : Int32) (ad0 : Addr) (ad1 : Addr) (ad2 : Addr) (ad3 : Addr) (ad4 : Addr) (ad5 : Addr) (ad6 : Addr) (ad7 : Addr) (ad8 : Addr) (ad9 : Addr) (ad10 : Addr) (ad11 : Addr) (ad12 : Addr) (ad13 : Addr) (ad14 : Addr) (ad15 : Addr) (ad16 : Addr) (ad17 : Addr) (ad18 : Addr) (ad19 : Addr) (ad20 : Addr) (ad21 : Addr) (ad22 : Addr) (ad23 : Addr) (ad24 : Addr) (ad25 : Addr) (ad26 : Addr) (ad27 : Addr) (ad28 : Addr) (ad29 : Addr) (ad30 : Addr) (ad31 : Addr) (ad32 : Addr) (ad33 : Addr) (b1 : Addr) (b104 : Addr) (k104 : ClassId) (h0 : Heap) (n0 : Nat) (Z0 : n0 ≤ h0.size) {p : Program} {e : Env} {s : State} {m : MethodId} {below : List Frame} {meth : Method} {c : Code} {Tc : State} {Hc : Heap} {locsc : List Loc} (Xc : Stand p l e room_1 s m #[(.int p1)] below meth c Tc locsc 2 68) (hx : p.tables.exec = Jvm.exec) (hZ : Z.Warmed39 s.vm) (hby : c.code = code) (hml : c.maxLocals = 4) (hown : s.vm.findClass "com/example/querent/querent/dicom/VrBinaryNumberLengthPinLaw" = some m.cls) (hret : meth.sig.returnType = some .boolean) (hlk : meth.locks = false) (hh : s.heap = h0) (ec : Tc.heap = Hc) (Nc : Fr n0 locsc) (Kc0 : Keep h0 Hc []) (Oc : Old Z n0 Hc) (zc0 : Exa Z Z.heap ad20 "com/example/querent/querent/dicom/Vr") (zc1 : Fld Z Z.heap ad20 "java/lang/Enum" "ordinal" "I" (.int (20 : Int32))) (zc2 : Arv Z Hc b104 k104 .int (34 : Int32) [(.int (0 : Int32)), (.int (0 : Int32)), (.int (0 : Int32)), (.int (0 : Int32)), (.int (0 : Int32)), (.int (0 : Int32)), (.int (0 : Int32)), (.int (8 : Int32)), (.int (4 : Int32)), (.int (0 : Int32)), (.int (0 : Int32)), (.int (0 : Int32)), (.int (0 : Int32)), (.int (0 : Int32)), (.int (0 : Int32)), (.int (0 : Int32)), (.int (0 : Int32)), (.int (0 : Int32)), (.int (0 : Int32)), (.int (0 : Int32)), (.int (4 : Int32)), (.int (0 : Int32)), (.int (2 : Int32)), (.int (0 : Int32)), (.int (8 : Int32)), (.int (0 : Int32)), (.int (0 : Int32)), (.int (0 : Int32)), (.int (4 : Int32)), (.int (0 : Int32)), (.int (0 : Int32)), (.int (2 : Int32)), (.int (0 : Int32)), (.int (8 : Int32))] (.int (0 : Int32))) (gc3 : n0 ≤ b104) (sc3 : h0.size ≤ b104) :
    ∃ U_ o_, Steps p.tables e below (Tc.setTop (mkF m 421 #[.val (.int p1), .val (.ref b1), .val (.ref b104), .val (.int (20 : Int32))] [(.ref ad20)])) U_ ∧ U_.status = .running ∧ Ended U_ below o_ ∧ (∃ v_ L_, o_ = .returned v_ ∧ Q_rm0 Z p1 ad0 ad1 ad2 ad3 ad4 ad5 ad6 ad7 ad8 ad9 ad10 ad11 ad12 ad13 ad14 ad15 ad16 ad17 ad18 ad19 ad20 ad21 ad22 ad23 ad24 ad25 ad26 ad27 ad28 ad29 ad30 ad31 ad32 ad33 h0 n0 v_ U_.heap L_ ∧ FrameEnd s o_ U_ L_ room_1.cells room_1.slots) := by
  obtain ⟨cq257, kq257, q257a, q257b, q257c⟩ := isOf hZ ec (zc0.ext Oc.2)
  obtain ⟨_, _, ⟨T257, L257, k257, n257⟩, -, X257, ⟨Lc257, hQ257, l257, y257, z257⟩, st257⟩ := Xc.virtualBack hx (y := own_y2) (z := own_y2) hown (mvT hZ (own_w hw 74 rfl)) (mvT hZ (own_w hw 75 rfl)) (notFace_of_selects (args := #[]) (mvT hZ (own_w hw 77 rfl))) (mvT hZ (own_w hw 77 rfl)) (mvT hZ (own_w hw 76 rfl)) (by decide) (backOf (W := 0) (rmMIn128 l Z a0 hw [] ad20 (20 : Int32) Hc n0 (Nat.le_trans Z0 Kc0.1) Oc zc0 zc1 (by decide) (by decide)) hZ (own_w hw 78 rfl) (own_w hw 3 rfl) (by decide) (by decide)) q257a q257c (g := (mkF m 421 #[.val (.int p1), .val (.ref b1), .val (.ref b104), .val (.int (20 : Int32))] [(.ref ad20)])) rfl (by rw [hml]; rfl) (Steps.refl _) (argsL := []) (rest := []) (lenOf pd_0 rfl) rfl (by show 2 * 0 + _ ≤ _; exact Nat.le_of_eq rfl) (hb hby at_421) (fun _ _ => ⟨rfl, ec, (by decide : 2 + 0 ≤ _), (by decide : 68 + 0 ≤ _)⟩)
  dsimp only [Pt.U, Pt.locs, Pt.cells, Pt.slots] at X257 l257 y257 z257 st257 hQ257
  subst l257 y257 z257
  obtain ⟨rfl, N257q, eh257⟩ := hQ257
  have N257 := Fr.app Nc N257q
  refine own_via st257 ?_
  obtain ⟨cl258, Ar258, q258, S258, M258, H258, G258⟩ := id zc2
  have hin258 : ¬ ((20 : Int32) < 0 ∨ cl258.slots.size ≤ ((20 : Int32)).toNatClampNeg) := inb_of S258 ⟨by decide, by decide⟩
  have hat258 : cl258.slots[((20 : Int32)).toNatClampNeg]? = some (.int (4 : Int32)) := Has.at H258 hin258 rfl
  refine own_go (A := T257.setTop (mkF m 435 #[.val (.int p1), .val (.ref b1), .val (.ref b104), .val (.int (20 : Int32))] [(.int (1 : Int32))])) (fun t_ k_ => ?_) ?_
  · show Steps p.tables e below (T257.setTop (mkF m 424 #[.val (.int p1), .val (.ref b1), .val (.ref b104), .val (.int (20 : Int32))] [(.int (4 : Int32))])) t_
    refine XS.aloadN X257.here hx rfl (hb hby at_424) rfl rfl ?_
    show Steps p.tables e below (T257.setTop (mkF m 425 #[.val (.int p1), .val (.ref b1), .val (.ref b104), .val (.int (20 : Int32))] [(.ref b104), (.int (4 : Int32))])) t_
    refine XS.iloadN X257.here hx rfl (hb hby at_425) rfl ?_
    show Steps p.tables e below (T257.setTop (mkF m 426 #[.val (.int p1), .val (.ref b1), .val (.ref b104), .val (.int (20 : Int32))] [(.int (20 : Int32)), (.ref b104), (.int (4 : Int32))])) t_
    refine X257.iaload hx (j := (20 : Int32)) (v := (.int (4 : Int32))) (by rw [eh257]; exact Ar258.1) (State.isArrayOf_alike hZ.alike Ar258.2.1) Ar258.2.2 hin258 hat258 (g := (mkF m 426 #[.val (.int p1), .val (.ref b1), .val (.ref b104), .val (.int (20 : Int32))] [(.int (20 : Int32)), (.ref b104), (.int (4 : Int32))])) rfl rfl (hb hby at_426) _ ?_
    show Steps p.tables e below (T257.setTop (mkF m 427 #[.val (.int p1), .val (.ref b1), .val (.ref b104), .val (.int (20 : Int32))] [(.int (4 : Int32)), (.int (4 : Int32))])) t_
    refine XS.icmpNo X257.here hx rfl (hb hby at_427) rfl (teq (by decide : (4 : Int32) = (4 : Int32))).2 ?_
    show Steps p.tables e below (T257.setTop (mkF m 430 #[.val (.int p1), .val (.ref b1), .val (.ref b104), .val (.int (20 : Int32))] [])) t_
    refine XS.iconst X257.here hx rfl (hb hby at_430) ?_
    show Steps p.tables e below (T257.setTop (mkF m 431 #[.val (.int p1), .val (.ref b1), .val (.ref b104), .val (.int (20 : Int32))] [(.int (1 : Int32))])) t_
    refine XS.goto X257.here hx rfl (pc0 := 431) (pc' := 435) rfl (hb hby at_431) (by decide) (by decide) ?_
    exact k_
  obtain ⟨fs259, hr259, hrun259, hended259, hW259, hsame259⟩ := X257.leave (v := some (.int (1 : Int32))) (fun h => by rw [hret] at h; cases h)
  refine ⟨_, _, ?_, hrun259, hended259, _, _, rfl, ?_, ⟨_, rfl⟩, hW259, hsame259.mono (by decide) (by decide)⟩
  · exact retN X257 hx (t := .boolean) hret (by simp) (hb hby at_435) hr259
  · show Q_rm0 Z p1 ad0 ad1 ad2 ad3 ad4 ad5 ad6 ad7 ad8 ad9 ad10 ad11 ad12 ad13 ad14 ad15 ad16 ad17 ad18 ad19 ad20 ad21 ad22 ad23 ad24 ad25 ad26 ad27 ad28 ad29 ad30 ad31 ad32 ad33 h0 n0 _ T257.heap _
    rw [eh257]
    exact ⟨rfl, N257, Kc0⟩
set_option maxRecDepth 65536 in
set_option maxHeartbeats 40000000 in
theorem own_sufad21 (l : Launch) (Z : State) (a0 : Array Value) (hw : ∀ d ∈ tables_1, d.before a0 Z = true) (p1 : Int32) (ad0 : Addr) (ad1 : Addr) (ad2 : Addr) (ad3 : Addr) (ad4 : Addr) (ad5 : Addr) (ad6 : Addr) (ad7 : Addr) (ad8 : Addr) (ad9 : Addr) (ad10 : Addr) (ad11 : Addr) (ad12 : Addr) (ad13 : Addr) (ad14 : Addr) (ad15 : Addr) (ad16 : Addr) (ad17 : Addr) (ad18 : Addr) (ad19 : Addr) (ad20 : Addr) (ad21 : Addr) (ad22 : Addr) (ad23 : Addr) (ad24 : Addr) (ad25 : Addr) (ad26 : Addr) (ad27 : Addr) (ad28 : Addr) (ad29 : Addr) (ad30 : Addr) (ad31 : Addr) (ad32 : Addr) (ad33 : Addr) (b1 : Addr) (b104 : Addr) (k104 : ClassId) (h0 : Heap) (n0 : Nat) (Z0 : n0 ≤ h0.size) {p : Program} {e : Env} {s : State} {m : MethodId} {below : List Frame} {meth : Method} {c : Code} {Tc : State} {Hc : Heap} {locsc : List Loc} (Xc : Stand p l e room_1 s m #[(.int p1)] below meth c Tc locsc 2 68) (hx : p.tables.exec = Jvm.exec) (hZ : Z.Warmed39 s.vm) (hby : c.code = code) (hml : c.maxLocals = 4) (hown : s.vm.findClass "com/example/querent/querent/dicom/VrBinaryNumberLengthPinLaw" = some m.cls) (hret : meth.sig.returnType = some .boolean) (hlk : meth.locks = false) (hh : s.heap = h0) (ec : Tc.heap = Hc) (Nc : Fr n0 locsc) (Kc0 : Keep h0 Hc []) (Oc : Old Z n0 Hc) (zc0 : Exa Z Z.heap ad21 "com/example/querent/querent/dicom/Vr") (zc1 : Fld Z Z.heap ad21 "java/lang/Enum" "ordinal" "I" (.int (21 : Int32))) (zc2 : Arv Z Hc b104 k104 .int (34 : Int32) [(.int (0 : Int32)), (.int (0 : Int32)), (.int (0 : Int32)), (.int (0 : Int32)), (.int (0 : Int32)), (.int (0 : Int32)), (.int (0 : Int32)), (.int (8 : Int32)), (.int (4 : Int32)), (.int (0 : Int32)), (.int (0 : Int32)), (.int (0 : Int32)), (.int (0 : Int32)), (.int (0 : Int32)), (.int (0 : Int32)), (.int (0 : Int32)), (.int (0 : Int32)), (.int (0 : Int32)), (.int (0 : Int32)), (.int (0 : Int32)), (.int (4 : Int32)), (.int (0 : Int32)), (.int (2 : Int32)), (.int (0 : Int32)), (.int (8 : Int32)), (.int (0 : Int32)), (.int (0 : Int32)), (.int (0 : Int32)), (.int (4 : Int32)), (.int (0 : Int32)), (.int (0 : Int32)), (.int (2 : Int32)), (.int (0 : Int32)), (.int (8 : Int32))] (.int (0 : Int32))) (gc3 : n0 ≤ b104) (sc3 : h0.size ≤ b104) :
    ∃ U_ o_, Steps p.tables e below (Tc.setTop (mkF m 421 #[.val (.int p1), .val (.ref b1), .val (.ref b104), .val (.int (21 : Int32))] [(.ref ad21)])) U_ ∧ U_.status = .running ∧ Ended U_ below o_ ∧ (∃ v_ L_, o_ = .returned v_ ∧ Q_rm0 Z p1 ad0 ad1 ad2 ad3 ad4 ad5 ad6 ad7 ad8 ad9 ad10 ad11 ad12 ad13 ad14 ad15 ad16 ad17 ad18 ad19 ad20 ad21 ad22 ad23 ad24 ad25 ad26 ad27 ad28 ad29 ad30 ad31 ad32 ad33 h0 n0 v_ U_.heap L_ ∧ FrameEnd s o_ U_ L_ room_1.cells room_1.slots) := by
  obtain ⟨cq261, kq261, q261a, q261b, q261c⟩ := isOf hZ ec (zc0.ext Oc.2)
  obtain ⟨_, _, ⟨T261, L261, k261, n261⟩, -, X261, ⟨Lc261, hQ261, l261, y261, z261⟩, st261⟩ := Xc.virtualBack hx (y := own_y2) (z := own_y2) hown (mvT hZ (own_w hw 74 rfl)) (mvT hZ (own_w hw 75 rfl)) (notFace_of_selects (args := #[]) (mvT hZ (own_w hw 77 rfl))) (mvT hZ (own_w hw 77 rfl)) (mvT hZ (own_w hw 76 rfl)) (by decide) (backOf (W := 0) (rmMIn137 l Z a0 hw [] ad21 (21 : Int32) Hc n0 (Nat.le_trans Z0 Kc0.1) Oc zc0 zc1 (by decide) (by decide)) hZ (own_w hw 78 rfl) (own_w hw 3 rfl) (by decide) (by decide)) q261a q261c (g := (mkF m 421 #[.val (.int p1), .val (.ref b1), .val (.ref b104), .val (.int (21 : Int32))] [(.ref ad21)])) rfl (by rw [hml]; rfl) (Steps.refl _) (argsL := []) (rest := []) (lenOf pd_0 rfl) rfl (by show 2 * 0 + _ ≤ _; exact Nat.le_of_eq rfl) (hb hby at_421) (fun _ _ => ⟨rfl, ec, (by decide : 2 + 0 ≤ _), (by decide : 68 + 0 ≤ _)⟩)
  dsimp only [Pt.U, Pt.locs, Pt.cells, Pt.slots] at X261 l261 y261 z261 st261 hQ261
  subst l261 y261 z261
  obtain ⟨rfl, N261q, eh261⟩ := hQ261
  have N261 := Fr.app Nc N261q
  refine own_via st261 ?_
  obtain ⟨cl262, Ar262, q262, S262, M262, H262, G262⟩ := id zc2
  have hin262 : ¬ ((21 : Int32) < 0 ∨ cl262.slots.size ≤ ((21 : Int32)).toNatClampNeg) := inb_of S262 ⟨by decide, by decide⟩
  have hat262 : cl262.slots[((21 : Int32)).toNatClampNeg]? = some (.int (0 : Int32)) := Has.at H262 hin262 rfl
  refine own_go (A := T261.setTop (mkF m 435 #[.val (.int p1), .val (.ref b1), .val (.ref b104), .val (.int (21 : Int32))] [(.int (1 : Int32))])) (fun t_ k_ => ?_) ?_
  · show Steps p.tables e below (T261.setTop (mkF m 424 #[.val (.int p1), .val (.ref b1), .val (.ref b104), .val (.int (21 : Int32))] [(.int (0 : Int32))])) t_
    refine XS.aloadN X261.here hx rfl (hb hby at_424) rfl rfl ?_
    show Steps p.tables e below (T261.setTop (mkF m 425 #[.val (.int p1), .val (.ref b1), .val (.ref b104), .val (.int (21 : Int32))] [(.ref b104), (.int (0 : Int32))])) t_
    refine XS.iloadN X261.here hx rfl (hb hby at_425) rfl ?_
    show Steps p.tables e below (T261.setTop (mkF m 426 #[.val (.int p1), .val (.ref b1), .val (.ref b104), .val (.int (21 : Int32))] [(.int (21 : Int32)), (.ref b104), (.int (0 : Int32))])) t_
    refine X261.iaload hx (j := (21 : Int32)) (v := (.int (0 : Int32))) (by rw [eh261]; exact Ar262.1) (State.isArrayOf_alike hZ.alike Ar262.2.1) Ar262.2.2 hin262 hat262 (g := (mkF m 426 #[.val (.int p1), .val (.ref b1), .val (.ref b104), .val (.int (21 : Int32))] [(.int (21 : Int32)), (.ref b104), (.int (0 : Int32))])) rfl rfl (hb hby at_426) _ ?_
    show Steps p.tables e below (T261.setTop (mkF m 427 #[.val (.int p1), .val (.ref b1), .val (.ref b104), .val (.int (21 : Int32))] [(.int (0 : Int32)), (.int (0 : Int32))])) t_
    refine XS.icmpNo X261.here hx rfl (hb hby at_427) rfl (teq (by decide : (0 : Int32) = (0 : Int32))).2 ?_
    show Steps p.tables e below (T261.setTop (mkF m 430 #[.val (.int p1), .val (.ref b1), .val (.ref b104), .val (.int (21 : Int32))] [])) t_
    refine XS.iconst X261.here hx rfl (hb hby at_430) ?_
    show Steps p.tables e below (T261.setTop (mkF m 431 #[.val (.int p1), .val (.ref b1), .val (.ref b104), .val (.int (21 : Int32))] [(.int (1 : Int32))])) t_
    refine XS.goto X261.here hx rfl (pc0 := 431) (pc' := 435) rfl (hb hby at_431) (by decide) (by decide) ?_
    exact k_
  obtain ⟨fs263, hr263, hrun263, hended263, hW263, hsame263⟩ := X261.leave (v := some (.int (1 : Int32))) (fun h => by rw [hret] at h; cases h)
  refine ⟨_, _, ?_, hrun263, hended263, _, _, rfl, ?_, ⟨_, rfl⟩, hW263, hsame263.mono (by decide) (by decide)⟩
  · exact retN X261 hx (t := .boolean) hret (by simp) (hb hby at_435) hr263
  · show Q_rm0 Z p1 ad0 ad1 ad2 ad3 ad4 ad5 ad6 ad7 ad8 ad9 ad10 ad11 ad12 ad13 ad14 ad15 ad16 ad17 ad18 ad19 ad20 ad21 ad22 ad23 ad24 ad25 ad26 ad27 ad28 ad29 ad30 ad31 ad32 ad33 h0 n0 _ T261.heap _
    rw [eh261]
    exact ⟨rfl, N261, Kc0⟩
set_option maxRecDepth 65536 in
set_option maxHeartbeats 40000000 in
theorem own_sufad22 (l : Launch) (Z : State) (a0 : Array Value) (hw : ∀ d ∈ tables_1, d.before a0 Z = true) (p1 : Int32) (ad0 : Addr) (ad1 : Addr) (ad2 : Addr) (ad3 : Addr) (ad4 : Addr) (ad5 : Addr) (ad6 : Addr) (ad7 : Addr) (ad8 : Addr) (ad9 : Addr) (ad10 : Addr) (ad11 : Addr) (ad12 : Addr) (ad13 : Addr) (ad14 : Addr) (ad15 : Addr) (ad16 : Addr) (ad17 : Addr) (ad18 : Addr) (ad19 : Addr) (ad20 : Addr) (ad21 : Addr) (ad22 : Addr) (ad23 : Addr) (ad24 : Addr) (ad25 : Addr) (ad26 : Addr) (ad27 : Addr) (ad28 : Addr) (ad29 : Addr) (ad30 : Addr) (ad31 : Addr) (ad32 : Addr) (ad33 : Addr) (b1 : Addr) (b104 : Addr) (k104 : ClassId) (h0 : Heap) (n0 : Nat) (Z0 : n0 ≤ h0.size) {p : Program} {e : Env} {s : State} {m : MethodId} {below : List Frame} {meth : Method} {c : Code} {Tc : State} {Hc : Heap} {locsc : List Loc} (Xc : Stand p l e room_1 s m #[(.int p1)] below meth c Tc locsc 2 68) (hx : p.tables.exec = Jvm.exec) (hZ : Z.Warmed39 s.vm) (hby : c.code = code) (hml : c.maxLocals = 4) (hown : s.vm.findClass "com/example/querent/querent/dicom/VrBinaryNumberLengthPinLaw" = some m.cls) (hret : meth.sig.returnType = some .boolean) (hlk : meth.locks = false) (hh : s.heap = h0) (ec : Tc.heap = Hc) (Nc : Fr n0 locsc) (Kc0 : Keep h0 Hc []) (Oc : Old Z n0 Hc) (zc0 : Exa Z Z.heap ad22 "com/example/querent/querent/dicom/Vr") (zc1 : Fld Z Z.heap ad22 "java/lang/Enum" "ordinal" "I" (.int (22 : Int32))) (zc2 : Arv Z Hc b104 k104 .int (34 : Int32) [(.int (0 : Int32)), (.int (0 : Int32)), (.int (0 : Int32)), (.int (0 : Int32)), (.int (0 : Int32)), (.int (0 : Int32)), (.int (0 : Int32)), (.int (8 : Int32)), (.int (4 : Int32)), (.int (0 : Int32)), (.int (0 : Int32)), (.int (0 : Int32)), (.int (0 : Int32)), (.int (0 : Int32)), (.int (0 : Int32)), (.int (0 : Int32)), (.int (0 : Int32)), (.int (0 : Int32)), (.int (0 : Int32)), (.int (0 : Int32)), (.int (4 : Int32)), (.int (0 : Int32)), (.int (2 : Int32)), (.int (0 : Int32)), (.int (8 : Int32)), (.int (0 : Int32)), (.int (0 : Int32)), (.int (0 : Int32)), (.int (4 : Int32)), (.int (0 : Int32)), (.int (0 : Int32)), (.int (2 : Int32)), (.int (0 : Int32)), (.int (8 : Int32))] (.int (0 : Int32))) (gc3 : n0 ≤ b104) (sc3 : h0.size ≤ b104) :
    ∃ U_ o_, Steps p.tables e below (Tc.setTop (mkF m 421 #[.val (.int p1), .val (.ref b1), .val (.ref b104), .val (.int (22 : Int32))] [(.ref ad22)])) U_ ∧ U_.status = .running ∧ Ended U_ below o_ ∧ (∃ v_ L_, o_ = .returned v_ ∧ Q_rm0 Z p1 ad0 ad1 ad2 ad3 ad4 ad5 ad6 ad7 ad8 ad9 ad10 ad11 ad12 ad13 ad14 ad15 ad16 ad17 ad18 ad19 ad20 ad21 ad22 ad23 ad24 ad25 ad26 ad27 ad28 ad29 ad30 ad31 ad32 ad33 h0 n0 v_ U_.heap L_ ∧ FrameEnd s o_ U_ L_ room_1.cells room_1.slots) := by
  obtain ⟨cq265, kq265, q265a, q265b, q265c⟩ := isOf hZ ec (zc0.ext Oc.2)
  obtain ⟨_, _, ⟨T265, L265, k265, n265⟩, -, X265, ⟨Lc265, hQ265, l265, y265, z265⟩, st265⟩ := Xc.virtualBack hx (y := own_y2) (z := own_y2) hown (mvT hZ (own_w hw 74 rfl)) (mvT hZ (own_w hw 75 rfl)) (notFace_of_selects (args := #[]) (mvT hZ (own_w hw 77 rfl))) (mvT hZ (own_w hw 77 rfl)) (mvT hZ (own_w hw 76 rfl)) (by decide) (backOf (W := 0) (rmMIn124 l Z a0 hw [] ad22 (22 : Int32) Hc n0 (Nat.le_trans Z0 Kc0.1) Oc zc0 zc1 (by decide) (by decide)) hZ (own_w hw 78 rfl) (own_w hw 3 rfl) (by decide) (by decide)) q265a q265c (g := (mkF m 421 #[.val (.int p1), .val (.ref b1), .val (.ref b104), .val (.int (22 : Int32))] [(.ref ad22)])) rfl (by rw [hml]; rfl) (Steps.refl _) (argsL := []) (rest := []) (lenOf pd_0 rfl) rfl (by show 2 * 0 + _ ≤ _; exact Nat.le_of_eq rfl) (hb hby at_421) (fun _ _ => ⟨rfl, ec, (by decide : 2 + 0 ≤ _), (by decide : 68 + 0 ≤ _)⟩)
  dsimp only [Pt.U, Pt.locs, Pt.cells, Pt.slots] at X265 l265 y265 z265 st265 hQ265
  subst l265 y265 z265
  obtain ⟨rfl, N265q, eh265⟩ := hQ265
  have N265 := Fr.app Nc N265q
  refine own_via st265 ?_
  obtain ⟨cl266, Ar266, q266, S266, M266, H266, G266⟩ := id zc2
  have hin266 : ¬ ((22 : Int32) < 0 ∨ cl266.slots.size ≤ ((22 : Int32)).toNatClampNeg) := inb_of S266 ⟨by decide, by decide⟩
  have hat266 : cl266.slots[((22 : Int32)).toNatClampNeg]? = some (.int (2 : Int32)) := Has.at H266 hin266 rfl
  refine own_go (A := T265.setTop (mkF m 435 #[.val (.int p1), .val (.ref b1), .val (.ref b104), .val (.int (22 : Int32))] [(.int (1 : Int32))])) (fun t_ k_ => ?_) ?_
  · show Steps p.tables e below (T265.setTop (mkF m 424 #[.val (.int p1), .val (.ref b1), .val (.ref b104), .val (.int (22 : Int32))] [(.int (2 : Int32))])) t_
    refine XS.aloadN X265.here hx rfl (hb hby at_424) rfl rfl ?_
    show Steps p.tables e below (T265.setTop (mkF m 425 #[.val (.int p1), .val (.ref b1), .val (.ref b104), .val (.int (22 : Int32))] [(.ref b104), (.int (2 : Int32))])) t_
    refine XS.iloadN X265.here hx rfl (hb hby at_425) rfl ?_
    show Steps p.tables e below (T265.setTop (mkF m 426 #[.val (.int p1), .val (.ref b1), .val (.ref b104), .val (.int (22 : Int32))] [(.int (22 : Int32)), (.ref b104), (.int (2 : Int32))])) t_
    refine X265.iaload hx (j := (22 : Int32)) (v := (.int (2 : Int32))) (by rw [eh265]; exact Ar266.1) (State.isArrayOf_alike hZ.alike Ar266.2.1) Ar266.2.2 hin266 hat266 (g := (mkF m 426 #[.val (.int p1), .val (.ref b1), .val (.ref b104), .val (.int (22 : Int32))] [(.int (22 : Int32)), (.ref b104), (.int (2 : Int32))])) rfl rfl (hb hby at_426) _ ?_
    show Steps p.tables e below (T265.setTop (mkF m 427 #[.val (.int p1), .val (.ref b1), .val (.ref b104), .val (.int (22 : Int32))] [(.int (2 : Int32)), (.int (2 : Int32))])) t_
    refine XS.icmpNo X265.here hx rfl (hb hby at_427) rfl (teq (by decide : (2 : Int32) = (2 : Int32))).2 ?_
    show Steps p.tables e below (T265.setTop (mkF m 430 #[.val (.int p1), .val (.ref b1), .val (.ref b104), .val (.int (22 : Int32))] [])) t_
    refine XS.iconst X265.here hx rfl (hb hby at_430) ?_
    show Steps p.tables e below (T265.setTop (mkF m 431 #[.val (.int p1), .val (.ref b1), .val (.ref b104), .val (.int (22 : Int32))] [(.int (1 : Int32))])) t_
    refine XS.goto X265.here hx rfl (pc0 := 431) (pc' := 435) rfl (hb hby at_431) (by decide) (by decide) ?_
    exact k_
  obtain ⟨fs267, hr267, hrun267, hended267, hW267, hsame267⟩ := X265.leave (v := some (.int (1 : Int32))) (fun h => by rw [hret] at h; cases h)
  refine ⟨_, _, ?_, hrun267, hended267, _, _, rfl, ?_, ⟨_, rfl⟩, hW267, hsame267.mono (by decide) (by decide)⟩
  · exact retN X265 hx (t := .boolean) hret (by simp) (hb hby at_435) hr267
  · show Q_rm0 Z p1 ad0 ad1 ad2 ad3 ad4 ad5 ad6 ad7 ad8 ad9 ad10 ad11 ad12 ad13 ad14 ad15 ad16 ad17 ad18 ad19 ad20 ad21 ad22 ad23 ad24 ad25 ad26 ad27 ad28 ad29 ad30 ad31 ad32 ad33 h0 n0 _ T265.heap _
    rw [eh265]
    exact ⟨rfl, N265, Kc0⟩
set_option maxRecDepth 65536 in
set_option maxHeartbeats 40000000 in
theorem own_sufad23 (l : Launch) (Z : State) (a0 : Array Value) (hw : ∀ d ∈ tables_1, d.before a0 Z = true) (p1 : Int32) (ad0 : Addr) (ad1 : Addr) (ad2 : Addr) (ad3 : Addr) (ad4 : Addr) (ad5 : Addr) (ad6 : Addr) (ad7 : Addr) (ad8 : Addr) (ad9 : Addr) (ad10 : Addr) (ad11 : Addr) (ad12 : Addr) (ad13 : Addr) (ad14 : Addr) (ad15 : Addr) (ad16 : Addr) (ad17 : Addr) (ad18 : Addr) (ad19 : Addr) (ad20 : Addr) (ad21 : Addr) (ad22 : Addr) (ad23 : Addr) (ad24 : Addr) (ad25 : Addr) (ad26 : Addr) (ad27 : Addr) (ad28 : Addr) (ad29 : Addr) (ad30 : Addr) (ad31 : Addr) (ad32 : Addr) (ad33 : Addr) (b1 : Addr) (b104 : Addr) (k104 : ClassId) (h0 : Heap) (n0 : Nat) (Z0 : n0 ≤ h0.size) {p : Program} {e : Env} {s : State} {m : MethodId} {below : List Frame} {meth : Method} {c : Code} {Tc : State} {Hc : Heap} {locsc : List Loc} (Xc : Stand p l e room_1 s m #[(.int p1)] below meth c Tc locsc 2 68) (hx : p.tables.exec = Jvm.exec) (hZ : Z.Warmed39 s.vm) (hby : c.code = code) (hml : c.maxLocals = 4) (hown : s.vm.findClass "com/example/querent/querent/dicom/VrBinaryNumberLengthPinLaw" = some m.cls) (hret : meth.sig.returnType = some .boolean) (hlk : meth.locks = false) (hh : s.heap = h0) (ec : Tc.heap = Hc) (Nc : Fr n0 locsc) (Kc0 : Keep h0 Hc []) (Oc : Old Z n0 Hc) (zc0 : Exa Z Z.heap ad23 "com/example/querent/querent/dicom/Vr") (zc1 : Fld Z Z.heap ad23 "java/lang/Enum" "ordinal" "I" (.int (23 : Int32))) (zc2 : Arv Z Hc b104 k104 .int (34 : Int32) [(.int (0 : Int32)), (.int (0 : Int32)), (.int (0 : Int32)), (.int (0 : Int32)), (.int (0 : Int32)), (.int (0 : Int32)), (.int (0 : Int32)), (.int (8 : Int32)), (.int (4 : Int32)), (.int (0 : Int32)), (.int (0 : Int32)), (.int (0 : Int32)), (.int (0 : Int32)), (.int (0 : Int32)), (.int (0 : Int32)), (.int (0 : Int32)), (.int (0 : Int32)), (.int (0 : Int32)), (.int (0 : Int32)), (.int (0 : Int32)), (.int (4 : Int32)), (.int (0 : Int32)), (.int (2 : Int32)), (.int (0 : Int32)), (.int (8 : Int32)), (.int (0 : Int32)), (.int (0 : Int32)), (.int (0 : Int32)), (.int (4 : Int32)), (.int (0 : Int32)), (.int (0 : Int32)), (.int (2 : Int32)), (.int (0 : Int32)), (.int (8 : Int32))] (.int (0 : Int32))) (gc3 : n0 ≤ b104) (sc3 : h0.size ≤ b104) :
    ∃ U_ o_, Steps p.tables e below (Tc.setTop (mkF m 421 #[.val (.int p1), .val (.ref b1), .val (.ref b104), .val (.int (23 : Int32))] [(.ref ad23)])) U_ ∧ U_.status = .running ∧ Ended U_ below o_ ∧ (∃ v_ L_, o_ = .returned v_ ∧ Q_rm0 Z p1 ad0 ad1 ad2 ad3 ad4 ad5 ad6 ad7 ad8 ad9 ad10 ad11 ad12 ad13 ad14 ad15 ad16 ad17 ad18 ad19 ad20 ad21 ad22 ad23 ad24 ad25 ad26 ad27 ad28 ad29 ad30 ad31 ad32 ad33 h0 n0 v_ U_.heap L_ ∧ FrameEnd s o_ U_ L_ room_1.cells room_1.slots) := by
  obtain ⟨cq269, kq269, q269a, q269b, q269c⟩ := isOf hZ ec (zc0.ext Oc.2)
  obtain ⟨_, _, ⟨T269, L269, k269, n269⟩, -, X269, ⟨Lc269, hQ269, l269, y269, z269⟩, st269⟩ := Xc.virtualBack hx (y := own_y2) (z := own_y2) hown (mvT hZ (own_w hw 74 rfl)) (mvT hZ (own_w hw 75 rfl)) (notFace_of_selects (args := #[]) (mvT hZ (own_w hw 77 rfl))) (mvT hZ (own_w hw 77 rfl)) (mvT hZ (own_w hw 76 rfl)) (by decide) (backOf (W := 0) (rmMIn137 l Z a0 hw [] ad23 (23 : Int32) Hc n0 (Nat.le_trans Z0 Kc0.1) Oc zc0 zc1 (by decide) (by decide)) hZ (own_w hw 78 rfl) (own_w hw 3 rfl) (by decide) (by decide)) q269a q269c (g := (mkF m 421 #[.val (.int p1), .val (.ref b1), .val (.ref b104), .val (.int (23 : Int32))] [(.ref ad23)])) rfl (by rw [hml]; rfl) (Steps.refl _) (argsL := []) (rest := []) (lenOf pd_0 rfl) rfl (by show 2 * 0 + _ ≤ _; exact Nat.le_of_eq rfl) (hb hby at_421) (fun _ _ => ⟨rfl, ec, (by decide : 2 + 0 ≤ _), (by decide : 68 + 0 ≤ _)⟩)
  dsimp only [Pt.U, Pt.locs, Pt.cells, Pt.slots] at X269 l269 y269 z269 st269 hQ269
  subst l269 y269 z269
  obtain ⟨rfl, N269q, eh269⟩ := hQ269
  have N269 := Fr.app Nc N269q
  refine own_via st269 ?_
  obtain ⟨cl270, Ar270, q270, S270, M270, H270, G270⟩ := id zc2
  have hin270 : ¬ ((23 : Int32) < 0 ∨ cl270.slots.size ≤ ((23 : Int32)).toNatClampNeg) := inb_of S270 ⟨by decide, by decide⟩
  have hat270 : cl270.slots[((23 : Int32)).toNatClampNeg]? = some (.int (0 : Int32)) := Has.at H270 hin270 rfl
  refine own_go (A := T269.setTop (mkF m 435 #[.val (.int p1), .val (.ref b1), .val (.ref b104), .val (.int (23 : Int32))] [(.int (1 : Int32))])) (fun t_ k_ => ?_) ?_
  · show Steps p.tables e below (T269.setTop (mkF m 424 #[.val (.int p1), .val (.ref b1), .val (.ref b104), .val (.int (23 : Int32))] [(.int (0 : Int32))])) t_
    refine XS.aloadN X269.here hx rfl (hb hby at_424) rfl rfl ?_
    show Steps p.tables e below (T269.setTop (mkF m 425 #[.val (.int p1), .val (.ref b1), .val (.ref b104), .val (.int (23 : Int32))] [(.ref b104), (.int (0 : Int32))])) t_
    refine XS.iloadN X269.here hx rfl (hb hby at_425) rfl ?_
    show Steps p.tables e below (T269.setTop (mkF m 426 #[.val (.int p1), .val (.ref b1), .val (.ref b104), .val (.int (23 : Int32))] [(.int (23 : Int32)), (.ref b104), (.int (0 : Int32))])) t_
    refine X269.iaload hx (j := (23 : Int32)) (v := (.int (0 : Int32))) (by rw [eh269]; exact Ar270.1) (State.isArrayOf_alike hZ.alike Ar270.2.1) Ar270.2.2 hin270 hat270 (g := (mkF m 426 #[.val (.int p1), .val (.ref b1), .val (.ref b104), .val (.int (23 : Int32))] [(.int (23 : Int32)), (.ref b104), (.int (0 : Int32))])) rfl rfl (hb hby at_426) _ ?_
    show Steps p.tables e below (T269.setTop (mkF m 427 #[.val (.int p1), .val (.ref b1), .val (.ref b104), .val (.int (23 : Int32))] [(.int (0 : Int32)), (.int (0 : Int32))])) t_
    refine XS.icmpNo X269.here hx rfl (hb hby at_427) rfl (teq (by decide : (0 : Int32) = (0 : Int32))).2 ?_
    show Steps p.tables e below (T269.setTop (mkF m 430 #[.val (.int p1), .val (.ref b1), .val (.ref b104), .val (.int (23 : Int32))] [])) t_
    refine XS.iconst X269.here hx rfl (hb hby at_430) ?_
    show Steps p.tables e below (T269.setTop (mkF m 431 #[.val (.int p1), .val (.ref b1), .val (.ref b104), .val (.int (23 : Int32))] [(.int (1 : Int32))])) t_
    refine XS.goto X269.here hx rfl (pc0 := 431) (pc' := 435) rfl (hb hby at_431) (by decide) (by decide) ?_
    exact k_
  obtain ⟨fs271, hr271, hrun271, hended271, hW271, hsame271⟩ := X269.leave (v := some (.int (1 : Int32))) (fun h => by rw [hret] at h; cases h)
  refine ⟨_, _, ?_, hrun271, hended271, _, _, rfl, ?_, ⟨_, rfl⟩, hW271, hsame271.mono (by decide) (by decide)⟩
  · exact retN X269 hx (t := .boolean) hret (by simp) (hb hby at_435) hr271
  · show Q_rm0 Z p1 ad0 ad1 ad2 ad3 ad4 ad5 ad6 ad7 ad8 ad9 ad10 ad11 ad12 ad13 ad14 ad15 ad16 ad17 ad18 ad19 ad20 ad21 ad22 ad23 ad24 ad25 ad26 ad27 ad28 ad29 ad30 ad31 ad32 ad33 h0 n0 _ T269.heap _
    rw [eh269]
    exact ⟨rfl, N269, Kc0⟩
set_option maxRecDepth 65536 in
set_option maxHeartbeats 40000000 in
theorem own_sufad24 (l : Launch) (Z : State) (a0 : Array Value) (hw : ∀ d ∈ tables_1, d.before a0 Z = true) (p1 : Int32) (ad0 : Addr) (ad1 : Addr) (ad2 : Addr) (ad3 : Addr) (ad4 : Addr) (ad5 : Addr) (ad6 : Addr) (ad7 : Addr) (ad8 : Addr) (ad9 : Addr) (ad10 : Addr) (ad11 : Addr) (ad12 : Addr) (ad13 : Addr) (ad14 : Addr) (ad15 : Addr) (ad16 : Addr) (ad17 : Addr) (ad18 : Addr) (ad19 : Addr) (ad20 : Addr) (ad21 : Addr) (ad22 : Addr) (ad23 : Addr) (ad24 : Addr) (ad25 : Addr) (ad26 : Addr) (ad27 : Addr) (ad28 : Addr) (ad29 : Addr) (ad30 : Addr) (ad31 : Addr) (ad32 : Addr) (ad33 : Addr) (b1 : Addr) (b104 : Addr) (k104 : ClassId) (h0 : Heap) (n0 : Nat) (Z0 : n0 ≤ h0.size) {p : Program} {e : Env} {s : State} {m : MethodId} {below : List Frame} {meth : Method} {c : Code} {Tc : State} {Hc : Heap} {locsc : List Loc} (Xc : Stand p l e room_1 s m #[(.int p1)] below meth c Tc locsc 2 68) (hx : p.tables.exec = Jvm.exec) (hZ : Z.Warmed39 s.vm) (hby : c.code = code) (hml : c.maxLocals = 4) (hown : s.vm.findClass "com/example/querent/querent/dicom/VrBinaryNumberLengthPinLaw" = some m.cls) (hret : meth.sig.returnType = some .boolean) (hlk : meth.locks = false) (hh : s.heap = h0) (ec : Tc.heap = Hc) (Nc : Fr n0 locsc) (Kc0 : Keep h0 Hc []) (Oc : Old Z n0 Hc) (zc0 : Exa Z Z.heap ad24 "com/example/querent/querent/dicom/Vr") (zc1 : Fld Z Z.heap ad24 "java/lang/Enum" "ordinal" "I" (.int (24 : Int32))) (zc2 : Arv Z Hc b104 k104 .int (34 : Int32) [(.int (0 : Int32)), (.int (0 : Int32)), (.int (0 : Int32)), (.int (0 : Int32)), (.int (0 : Int32)), (.int (0 : Int32)), (.int (0 : Int32)), (.int (8 : Int32)), (.int (4 : Int32)), (.int (0 : Int32)), (.int (0 : Int32)), (.int (0 : Int32)), (.int (0 : Int32)), (.int (0 : Int32)), (.int (0 : Int32)), (.int (0 : Int32)), (.int (0 : Int32)), (.int (0 : Int32)), (.int (0 : Int32)), (.int (0 : Int32)), (.int (4 : Int32)), (.int (0 : Int32)), (.int (2 : Int32)), (.int (0 : Int32)), (.int (8 : Int32)), (.int (0 : Int32)), (.int (0 : Int32)), (.int (0 : Int32)), (.int (4 : Int32)), (.int (0 : Int32)), (.int (0 : Int32)), (.int (2 : Int32)), (.int (0 : Int32)), (.int (8 : Int32))] (.int (0 : Int32))) (gc3 : n0 ≤ b104) (sc3 : h0.size ≤ b104) :
    ∃ U_ o_, Steps p.tables e below (Tc.setTop (mkF m 421 #[.val (.int p1), .val (.ref b1), .val (.ref b104), .val (.int (24 : Int32))] [(.ref ad24)])) U_ ∧ U_.status = .running ∧ Ended U_ below o_ ∧ (∃ v_ L_, o_ = .returned v_ ∧ Q_rm0 Z p1 ad0 ad1 ad2 ad3 ad4 ad5 ad6 ad7 ad8 ad9 ad10 ad11 ad12 ad13 ad14 ad15 ad16 ad17 ad18 ad19 ad20 ad21 ad22 ad23 ad24 ad25 ad26 ad27 ad28 ad29 ad30 ad31 ad32 ad33 h0 n0 v_ U_.heap L_ ∧ FrameEnd s o_ U_ L_ room_1.cells room_1.slots) := by
  obtain ⟨cq273, kq273, q273a, q273b, q273c⟩ := isOf hZ ec (zc0.ext Oc.2)
  obtain ⟨_, _, ⟨T273, L273, k273, n273⟩, -, X273, ⟨Lc273, hQ273, l273, y273, z273⟩, st273⟩ := Xc.virtualBack hx (y := own_y2) (z := own_y2) hown (mvT hZ (own_w hw 74 rfl)) (mvT hZ (own_w hw 75 rfl)) (notFace_of_selects (args := #[]) (mvT hZ (own_w hw 77 rfl))) (mvT hZ (own_w hw 77 rfl)) (mvT hZ (own_w hw 76 rfl)) (by decide) (backOf (W := 0) (rmMIn132 l Z a0 hw [] ad24 (24 : Int32) Hc n0 (Nat.le_trans Z0 Kc0.1) Oc zc0 zc1 (by decide) (by decide)) hZ (own_w hw 78 rfl) (own_w hw 3 rfl) (by decide) (by decide)) q273a q273c (g := (mkF m 421 #[.val (.int p1), .val (.ref b1), .val (.ref b104), .val (.int (24 : Int32))] [(.ref ad24)])) rfl (by rw [hml]; rfl) (Steps.refl _) (argsL := []) (rest := []) (lenOf pd_0 rfl) rfl (by show 2 * 0 + _ ≤ _; exact Nat.le_of_eq rfl) (hb hby at_421) (fun _ _ => ⟨rfl, ec, (by decide : 2 + 0 ≤ _), (by decide : 68 + 0 ≤ _)⟩)
  dsimp only [Pt.U, Pt.locs, Pt.cells, Pt.slots] at X273 l273 y273 z273 st273 hQ273
  subst l273 y273 z273
  obtain ⟨rfl, N273q, eh273⟩ := hQ273
  have N273 := Fr.app Nc N273q
  refine own_via st273 ?_
  obtain ⟨cl274, Ar274, q274, S274, M274, H274, G274⟩ := id zc2
  have hin274 : ¬ ((24 : Int32) < 0 ∨ cl274.slots.size ≤ ((24 : Int32)).toNatClampNeg) := inb_of S274 ⟨by decide, by decide⟩
  have hat274 : cl274.slots[((24 : Int32)).toNatClampNeg]? = some (.int (8 : Int32)) := Has.at H274 hin274 rfl
  refine own_go (A := T273.setTop (mkF m 435 #[.val (.int p1), .val (.ref b1), .val (.ref b104), .val (.int (24 : Int32))] [(.int (1 : Int32))])) (fun t_ k_ => ?_) ?_
  · show Steps p.tables e below (T273.setTop (mkF m 424 #[.val (.int p1), .val (.ref b1), .val (.ref b104), .val (.int (24 : Int32))] [(.int (8 : Int32))])) t_
    refine XS.aloadN X273.here hx rfl (hb hby at_424) rfl rfl ?_
    show Steps p.tables e below (T273.setTop (mkF m 425 #[.val (.int p1), .val (.ref b1), .val (.ref b104), .val (.int (24 : Int32))] [(.ref b104), (.int (8 : Int32))])) t_
    refine XS.iloadN X273.here hx rfl (hb hby at_425) rfl ?_
    show Steps p.tables e below (T273.setTop (mkF m 426 #[.val (.int p1), .val (.ref b1), .val (.ref b104), .val (.int (24 : Int32))] [(.int (24 : Int32)), (.ref b104), (.int (8 : Int32))])) t_
    refine X273.iaload hx (j := (24 : Int32)) (v := (.int (8 : Int32))) (by rw [eh273]; exact Ar274.1) (State.isArrayOf_alike hZ.alike Ar274.2.1) Ar274.2.2 hin274 hat274 (g := (mkF m 426 #[.val (.int p1), .val (.ref b1), .val (.ref b104), .val (.int (24 : Int32))] [(.int (24 : Int32)), (.ref b104), (.int (8 : Int32))])) rfl rfl (hb hby at_426) _ ?_
    show Steps p.tables e below (T273.setTop (mkF m 427 #[.val (.int p1), .val (.ref b1), .val (.ref b104), .val (.int (24 : Int32))] [(.int (8 : Int32)), (.int (8 : Int32))])) t_
    refine XS.icmpNo X273.here hx rfl (hb hby at_427) rfl (teq (by decide : (8 : Int32) = (8 : Int32))).2 ?_
    show Steps p.tables e below (T273.setTop (mkF m 430 #[.val (.int p1), .val (.ref b1), .val (.ref b104), .val (.int (24 : Int32))] [])) t_
    refine XS.iconst X273.here hx rfl (hb hby at_430) ?_
    show Steps p.tables e below (T273.setTop (mkF m 431 #[.val (.int p1), .val (.ref b1), .val (.ref b104), .val (.int (24 : Int32))] [(.int (1 : Int32))])) t_
    refine XS.goto X273.here hx rfl (pc0 := 431) (pc' := 435) rfl (hb hby at_431) (by decide) (by decide) ?_
    exact k_
  obtain ⟨fs275, hr275, hrun275, hended275, hW275, hsame275⟩ := X273.leave (v := some (.int (1 : Int32))) (fun h => by rw [hret] at h; cases h)
  refine ⟨_, _, ?_, hrun275, hended275, _, _, rfl, ?_, ⟨_, rfl⟩, hW275, hsame275.mono (by decide) (by decide)⟩
  · exact retN X273 hx (t := .boolean) hret (by simp) (hb hby at_435) hr275
  · show Q_rm0 Z p1 ad0 ad1 ad2 ad3 ad4 ad5 ad6 ad7 ad8 ad9 ad10 ad11 ad12 ad13 ad14 ad15 ad16 ad17 ad18 ad19 ad20 ad21 ad22 ad23 ad24 ad25 ad26 ad27 ad28 ad29 ad30 ad31 ad32 ad33 h0 n0 _ T273.heap _
    rw [eh273]
    exact ⟨rfl, N273, Kc0⟩
set_option maxRecDepth 65536 in
set_option maxHeartbeats 40000000 in
theorem own_sufad25 (l : Launch) (Z : State) (a0 : Array Value) (hw : ∀ d ∈ tables_1, d.before a0 Z = true) (p1 : Int32) (ad0 : Addr) (ad1 : Addr) (ad2 : Addr) (ad3 : Addr) (ad4 : Addr) (ad5 : Addr) (ad6 : Addr) (ad7 : Addr) (ad8 : Addr) (ad9 : Addr) (ad10 : Addr) (ad11 : Addr) (ad12 : Addr) (ad13 : Addr) (ad14 : Addr) (ad15 : Addr) (ad16 : Addr) (ad17 : Addr) (ad18 : Addr) (ad19 : Addr) (ad20 : Addr) (ad21 : Addr) (ad22 : Addr) (ad23 : Addr) (ad24 : Addr) (ad25 : Addr) (ad26 : Addr) (ad27 : Addr) (ad28 : Addr) (ad29 : Addr) (ad30 : Addr) (ad31 : Addr) (ad32 : Addr) (ad33 : Addr) (b1 : Addr) (b104 : Addr) (k104 : ClassId) (h0 : Heap) (n0 : Nat) (Z0 : n0 ≤ h0.size) {p : Program} {e : Env} {s : State} {m : MethodId} {below : List Frame} {meth : Method} {c : Code} {Tc : State} {Hc : Heap} {locsc : List Loc} (Xc : Stand p l e room_1 s m #[(.int p1)] below meth c Tc locsc 2 68) (hx : p.tables.exec = Jvm.exec) (hZ : Z.Warmed39 s.vm) (hby : c.code = code) (hml : c.maxLocals = 4) (hown : s.vm.findClass "com/example/querent/querent/dicom/VrBinaryNumberLengthPinLaw" = some m.cls) (hret : meth.sig.returnType = some .boolean) (hlk : meth.locks = false) (hh : s.heap = h0) (ec : Tc.heap = Hc) (Nc : Fr n0 locsc) (Kc0 : Keep h0 Hc []) (Oc : Old Z n0 Hc) (zc0 : Exa Z Z.heap ad25 "com/example/querent/querent/dicom/Vr") (zc1 : Fld Z Z.heap ad25 "java/lang/Enum" "ordinal" "I" (.int (25 : Int32))) (zc2 : Arv Z Hc b104 k104 .int (34 : Int32) [(.int (0 : Int32)), (.int (0 : Int32)), (.int (0 : Int32)), (.int (0 : Int32)), (.int (0 : Int32)), (.int (0 : Int32)), (.int (0 : Int32)), (.int (8 : Int32)), (.int (4 : Int32)), (.int (0 : Int32)), (.int (0 : Int32)), (.int (0 : Int32)), (.int (0 : Int32)), (.int (0 : Int32)), (.int (0 : Int32)), (.int (0 : Int32)), (.int (0 : Int32)), (.int (0 : Int32)), (.int (0 : Int32)), (.int (0 : Int32)), (.int (4 : Int32)), (.int (0 : Int32)), (.int (2 : Int32)), (.int (0 : Int32)), (.int (8 : Int32)), (.int (0 : Int32)), (.int (0 : Int32)), (.int (0 : Int32)), (.int (4 : Int32)), (.int (0 : Int32)), (.int (0 : Int32)), (.int (2 : Int32)), (.int (0 : Int32)), (.int (8 : Int32))] (.int (0 : Int32))) (gc3 : n0 ≤ b104) (sc3 : h0.size ≤ b104) :
    ∃ U_ o_, Steps p.tables e below (Tc.setTop (mkF m 421 #[.val (.int p1), .val (.ref b1), .val (.ref b104), .val (.int (25 : Int32))] [(.ref ad25)])) U_ ∧ U_.status = .running ∧ Ended U_ below o_ ∧ (∃ v_ L_, o_ = .returned v_ ∧ Q_rm0 Z p1 ad0 ad1 ad2 ad3 ad4 ad5 ad6 ad7 ad8 ad9 ad10 ad11 ad12 ad13 ad14 ad15 ad16 ad17 ad18 ad19 ad20 ad21 ad22 ad23 ad24 ad25 ad26 ad27 ad28 ad29 ad30 ad31 ad32 ad33 h0 n0 v_ U_.heap L_ ∧ FrameEnd s o_ U_ L_ room_1.cells room_1.slots) := by
  obtain ⟨cq277, kq277, q277a, q277b, q277c⟩ := isOf hZ ec (zc0.ext Oc.2)
  obtain ⟨_, _, ⟨T277, L277, k277, n277⟩, -, X277, ⟨Lc277, hQ277, l277, y277, z277⟩, st277⟩ := Xc.virtualBack hx (y := own_y2) (z := own_y2) hown (mvT hZ (own_w hw 74 rfl)) (mvT hZ (own_w hw 75 rfl)) (notFace_of_selects (args := #[]) (mvT hZ (own_w hw 77 rfl))) (mvT hZ (own_w hw 77 rfl)) (mvT hZ (own_w hw 76 rfl)) (by decide) (backOf (W := 0) (rmMIn137 l Z a0 hw [] ad25 (25 : Int32) Hc n0 (Nat.le_trans Z0 Kc0.1) Oc zc0 zc1 (by decide) (by decide)) hZ (own_w hw 78 rfl) (own_w hw 3 rfl) (by decide) (by decide)) q277a q277c (g := (mkF m 421 #[.val (.int p1), .val (.ref b1), .val (.ref b104), .val (.int (25 : Int32))] [(.ref ad25)])) rfl (by rw [hml]; rfl) (Steps.refl _) (argsL := []) (rest := []) (lenOf pd_0 rfl) rfl (by show 2 * 0 + _ ≤ _; exact Nat.le_of_eq rfl) (hb hby at_421) (fun _ _ => ⟨rfl, ec, (by decide : 2 + 0 ≤ _), (by decide : 68 + 0 ≤ _)⟩)
  dsimp only [Pt.U, Pt.locs, Pt.cells, Pt.slots] at X277 l277 y277 z277 st277 hQ277
  subst l277 y277 z277
  obtain ⟨rfl, N277q, eh277⟩ := hQ277
  have N277 := Fr.app Nc N277q
  refine own_via st277 ?_
  obtain ⟨cl278, Ar278, q278, S278, M278, H278, G278⟩ := id zc2
  have hin278 : ¬ ((25 : Int32) < 0 ∨ cl278.slots.size ≤ ((25 : Int32)).toNatClampNeg) := inb_of S278 ⟨by decide, by decide⟩
  have hat278 : cl278.slots[((25 : Int32)).toNatClampNeg]? = some (.int (0 : Int32)) := Has.at H278 hin278 rfl
  refine own_go (A := T277.setTop (mkF m 435 #[.val (.int p1), .val (.ref b1), .val (.ref b104), .val (.int (25 : Int32))] [(.int (1 : Int32))])) (fun t_ k_ => ?_) ?_
  · show Steps p.tables e below (T277.setTop (mkF m 424 #[.val (.int p1), .val (.ref b1), .val (.ref b104), .val (.int (25 : Int32))] [(.int (0 : Int32))])) t_
    refine XS.aloadN X277.here hx rfl (hb hby at_424) rfl rfl ?_
    show Steps p.tables e below (T277.setTop (mkF m 425 #[.val (.int p1), .val (.ref b1), .val (.ref b104), .val (.int (25 : Int32))] [(.ref b104), (.int (0 : Int32))])) t_
    refine XS.iloadN X277.here hx rfl (hb hby at_425) rfl ?_
    show Steps p.tables e below (T277.setTop (mkF m 426 #[.val (.int p1), .val (.ref b1), .val (.ref b104), .val (.int (25 : Int32))] [(.int (25 : Int32)), (.ref b104), (.int (0 : Int32))])) t_
    refine X277.iaload hx (j := (25 : Int32)) (v := (.int (0 : Int32))) (by rw [eh277]; exact Ar278.1) (State.isArrayOf_alike hZ.alike Ar278.2.1) Ar278.2.2 hin278 hat278 (g := (mkF m 426 #[.val (.int p1), .val (.ref b1), .val (.ref b104), .val (.int (25 : Int32))] [(.int (25 : Int32)), (.ref b104), (.int (0 : Int32))])) rfl rfl (hb hby at_426) _ ?_
    show Steps p.tables e below (T277.setTop (mkF m 427 #[.val (.int p1), .val (.ref b1), .val (.ref b104), .val (.int (25 : Int32))] [(.int (0 : Int32)), (.int (0 : Int32))])) t_
    refine XS.icmpNo X277.here hx rfl (hb hby at_427) rfl (teq (by decide : (0 : Int32) = (0 : Int32))).2 ?_
    show Steps p.tables e below (T277.setTop (mkF m 430 #[.val (.int p1), .val (.ref b1), .val (.ref b104), .val (.int (25 : Int32))] [])) t_
    refine XS.iconst X277.here hx rfl (hb hby at_430) ?_
    show Steps p.tables e below (T277.setTop (mkF m 431 #[.val (.int p1), .val (.ref b1), .val (.ref b104), .val (.int (25 : Int32))] [(.int (1 : Int32))])) t_
    refine XS.goto X277.here hx rfl (pc0 := 431) (pc' := 435) rfl (hb hby at_431) (by decide) (by decide) ?_
    exact k_
  obtain ⟨fs279, hr279, hrun279, hended279, hW279, hsame279⟩ := X277.leave (v := some (.int (1 : Int32))) (fun h => by rw [hret] at h; cases h)
  refine ⟨_, _, ?_, hrun279, hended279, _, _, rfl, ?_, ⟨_, rfl⟩, hW279, hsame279.mono (by decide) (by decide)⟩
  · exact retN X277 hx (t := .boolean) hret (by simp) (hb hby at_435) hr279
  · show Q_rm0 Z p1 ad0 ad1 ad2 ad3 ad4 ad5 ad6 ad7 ad8 ad9 ad10 ad11 ad12 ad13 ad14 ad15 ad16 ad17 ad18 ad19 ad20 ad21 ad22 ad23 ad24 ad25 ad26 ad27 ad28 ad29 ad30 ad31 ad32 ad33 h0 n0 _ T277.heap _
    rw [eh277]
    exact ⟨rfl, N277, Kc0⟩
set_option maxRecDepth 65536 in
set_option maxHeartbeats 40000000 in
theorem own_sufad26 (l : Launch) (Z : State) (a0 : Array Value) (hw : ∀ d ∈ tables_1, d.before a0 Z = true) (p1 : Int32) (ad0 : Addr) (ad1 : Addr) (ad2 : Addr) (ad3 : Addr) (ad4 : Addr) (ad5 : Addr) (ad6 : Addr) (ad7 : Addr) (ad8 : Addr) (ad9 : Addr) (ad10 : Addr) (ad11 : Addr) (ad12 : Addr) (ad13 : Addr) (ad14 : Addr) (ad15 : Addr) (ad16 : Addr) (ad17 : Addr) (ad18 : Addr) (ad19 : Addr) (ad20 : Addr) (ad21 : Addr) (ad22 : Addr) (ad23 : Addr) (ad24 : Addr) (ad25 : Addr) (ad26 : Addr) (ad27 : Addr) (ad28 : Addr) (ad29 : Addr) (ad30 : Addr) (ad31 : Addr) (ad32 : Addr) (ad33 : Addr) (b1 : Addr) (b104 : Addr) (k104 : ClassId) (h0 : Heap) (n0 : Nat) (Z0 : n0 ≤ h0.size) {p : Program} {e : Env} {s : State} {m : MethodId} {below : List Frame} {meth : Method} {c : Code} {Tc : State} {Hc : Heap} {locsc : List Loc} (Xc : Stand p l e room_1 s m #[(.int p1)] below meth c Tc locsc 2 68) (hx : p.tables.exec = Jvm.exec) (hZ : Z.Warmed39 s.vm) (hby : c.code = code) (hml : c.maxLocals = 4) (hown : s.vm.findClass "com/example/querent/querent/dicom/VrBinaryNumberLengthPinLaw" = some m.cls) (hret : meth.sig.returnType = some .boolean) (hlk : meth.locks = false) (hh : s.heap = h0) (ec : Tc.heap = Hc) (Nc : Fr n0 locsc) (Kc0 : Keep h0 Hc []) (Oc : Old Z n0 Hc) (zc0 : Exa Z Z.heap ad26 "com/example/querent/querent/dicom/Vr") (zc1 : Fld Z Z.heap ad26 "java/lang/Enum" "ordinal" "I" (.int (26 : Int32))) (zc2 : Arv Z Hc b104 k104 .int (34 : Int32) [(.int (0 : Int32)), (.int (0 : Int32)), (.int (0 : Int32)), (.int (0 : Int32)), (.int (0 : Int32)), (.int (0 : Int32)), (.int (0 : Int32)), (.int (8 : Int32)), (.int (4 : Int32)), (.int (0 : Int32)), (.int (0 : Int32)), (.int (0 : Int32)), (.int (0 : Int32)), (.int (0 : Int32)), (.int (0 : Int32)), (.int (0 : Int32)), (.int (0 : Int32)), (.int (0 : Int32)), (.int (0 : Int32)), (.int (0 : Int32)), (.int (4 : Int32)), (.int (0 : Int32)), (.int (2 : Int32)), (.int (0 : Int32)), (.int (8 : Int32)), (.int (0 : Int32)), (.int (0 : Int32)), (.int (0 : Int32)), (.int (4 : Int32)), (.int (0 : Int32)), (.int (0 : Int32)), (.int (2 : Int32)), (.int (0 : Int32)), (.int (8 : Int32))] (.int (0 : Int32))) (gc3 : n0 ≤ b104) (sc3 : h0.size ≤ b104) :
    ∃ U_ o_, Steps p.tables e below (Tc.setTop (mkF m 421 #[.val (.int p1), .val (.ref b1), .val (.ref b104), .val (.int (26 : Int32))] [(.ref ad26)])) U_ ∧ U_.status = .running ∧ Ended U_ below o_ ∧ (∃ v_ L_, o_ = .returned v_ ∧ Q_rm0 Z p1 ad0 ad1 ad2 ad3 ad4 ad5 ad6 ad7 ad8 ad9 ad10 ad11 ad12 ad13 ad14 ad15 ad16 ad17 ad18 ad19 ad20 ad21 ad22 ad23 ad24 ad25 ad26 ad27 ad28 ad29 ad30 ad31 ad32 ad33 h0 n0 v_ U_.heap L_ ∧ FrameEnd s o_ U_ L_ room_1.cells room_1.slots) := by
  obtain ⟨cq281, kq281, q281a, q281b, q281c⟩ := isOf hZ ec (zc0.ext Oc.2)
  obtain ⟨_, _, ⟨T281, L281, k281, n281⟩, -, X281, ⟨Lc281, hQ281, l281, y281, z281⟩, st281⟩ := Xc.virtualBack hx (y := own_y2) (z := own_y2) hown (mvT hZ (own_w hw 74 rfl)) (mvT hZ (own_w hw 75 rfl)) (notFace_of_selects (args := #[]) (mvT hZ (own_w hw 77 rfl))) (mvT hZ (own_w hw 77 rfl)) (mvT hZ (own_w hw 76 rfl)) (by decide) (backOf (W := 0) (rmMIn137 l Z a0 hw [] ad26 (26 : Int32) Hc n0 (Nat.le_trans Z0 Kc0.1) Oc zc0 zc1 (by decide) (by decide)) hZ (own_w hw 78 rfl) (own_w hw 3 rfl) (by decide) (by decide)) q281a q281c (g := (mkF m 421 #[.val (.int p1), .val (.ref b1), .val (.ref b104), .val (.int (26 : Int32))] [(.ref ad26)])) rfl (by rw [hml]; rfl) (Steps.refl _) (argsL := []) (rest := []) (lenOf pd_0 rfl) rfl (by show 2 * 0 + _ ≤ _; exact Nat.le_of_eq rfl) (hb hby at_421) (fun _ _ => ⟨rfl, ec, (by decide : 2 + 0 ≤ _), (by decide : 68 + 0 ≤ _)⟩)
  dsimp only [Pt.U, Pt.locs, Pt.cells, Pt.slots] at X281 l281 y281 z281 st281 hQ281
  subst l281 y281 z281
  obtain ⟨rfl, N281q, eh281⟩ := hQ281
  have N281 := Fr.app Nc N281q
  refine own_via st281 ?_
  obtain ⟨cl282, Ar282, q282, S282, M282, H282, G282⟩ := id zc2
  have hin282 : ¬ ((26 : Int32) < 0 ∨ cl282.slots.size ≤ ((26 : Int32)).toNatClampNeg) := inb_of S282 ⟨by decide, by decide⟩
  have hat282 : cl282.slots[((26 : Int32)).toNatClampNeg]? = some (.int (0 : Int32)) := Has.at H282 hin282 rfl
  refine own_go (A := T281.setTop (mkF m 435 #[.val (.int p1), .val (.ref b1), .val (.ref b104), .val (.int (26 : Int32))] [(.int (1 : Int32))])) (fun t_ k_ => ?_) ?_
  · show Steps p.tables e below (T281.setTop (mkF m 424 #[.val (.int p1), .val (.ref b1), .val (.ref b104), .val (.int (26 : Int32))] [(.int (0 : Int32))])) t_
    refine XS.aloadN X281.here hx rfl (hb hby at_424) rfl rfl ?_
    show Steps p.tables e below (T281.setTop (mkF m 425 #[.val (.int p1), .val (.ref b1), .val (.ref b104), .val (.int (26 : Int32))] [(.ref b104), (.int (0 : Int32))])) t_
    refine XS.iloadN X281.here hx rfl (hb hby at_425) rfl ?_
    show Steps p.tables e below (T281.setTop (mkF m 426 #[.val (.int p1), .val (.ref b1), .val (.ref b104), .val (.int (26 : Int32))] [(.int (26 : Int32)), (.ref b104), (.int (0 : Int32))])) t_
    refine X281.iaload hx (j := (26 : Int32)) (v := (.int (0 : Int32))) (by rw [eh281]; exact Ar282.1) (State.isArrayOf_alike hZ.alike Ar282.2.1) Ar282.2.2 hin282 hat282 (g := (mkF m 426 #[.val (.int p1), .val (.ref b1), .val (.ref b104), .val (.int (26 : Int32))] [(.int (26 : Int32)), (.ref b104), (.int (0 : Int32))])) rfl rfl (hb hby at_426) _ ?_
    show Steps p.tables e below (T281.setTop (mkF m 427 #[.val (.int p1), .val (.ref b1), .val (.ref b104), .val (.int (26 : Int32))] [(.int (0 : Int32)), (.int (0 : Int32))])) t_
    refine XS.icmpNo X281.here hx rfl (hb hby at_427) rfl (teq (by decide : (0 : Int32) = (0 : Int32))).2 ?_
    show Steps p.tables e below (T281.setTop (mkF m 430 #[.val (.int p1), .val (.ref b1), .val (.ref b104), .val (.int (26 : Int32))] [])) t_
    refine XS.iconst X281.here hx rfl (hb hby at_430) ?_
    show Steps p.tables e below (T281.setTop (mkF m 431 #[.val (.int p1), .val (.ref b1), .val (.ref b104), .val (.int (26 : Int32))] [(.int (1 : Int32))])) t_
    refine XS.goto X281.here hx rfl (pc0 := 431) (pc' := 435) rfl (hb hby at_431) (by decide) (by decide) ?_
    exact k_
  obtain ⟨fs283, hr283, hrun283, hended283, hW283, hsame283⟩ := X281.leave (v := some (.int (1 : Int32))) (fun h => by rw [hret] at h; cases h)
  refine ⟨_, _, ?_, hrun283, hended283, _, _, rfl, ?_, ⟨_, rfl⟩, hW283, hsame283.mono (by decide) (by decide)⟩
  · exact retN X281 hx (t := .boolean) hret (by simp) (hb hby at_435) hr283
  · show Q_rm0 Z p1 ad0 ad1 ad2 ad3 ad4 ad5 ad6 ad7 ad8 ad9 ad10 ad11 ad12 ad13 ad14 ad15 ad16 ad17 ad18 ad19 ad20 ad21 ad22 ad23 ad24 ad25 ad26 ad27 ad28 ad29 ad30 ad31 ad32 ad33 h0 n0 _ T281.heap _
    rw [eh281]
    exact ⟨rfl, N281, Kc0⟩
set_option maxRecDepth 65536 in
set_option maxHeartbeats 40000000 in
theorem own_sufad27 (l : Launch) (Z : State) (a0 : Array Value) (hw : ∀ d ∈ tables_1, d.before a0 Z = true) (p1 : Int32) (ad0 : Addr) (ad1 : Addr) (ad2 : Addr) (ad3 : Addr) (ad4 : Addr) (ad5 : Addr) (ad6 : Addr) (ad7 : Addr) (ad8 : Addr) (ad9 : Addr) (ad10 : Addr) (ad11 : Addr) (ad12 : Addr) (ad13 : Addr) (ad14 : Addr) (ad15 : Addr) (ad16 : Addr) (ad17 : Addr) (ad18 : Addr) (ad19 : Addr) (ad20 : Addr) (ad21 : Addr) (ad22 : Addr) (ad23 : Addr) (ad24 : Addr) (ad25 : Addr) (ad26 : Addr) (ad27 : Addr) (ad28 : Addr) (ad29 : Addr) (ad30 : Addr) (ad31 : Addr) (ad32 : Addr) (ad33 : Addr) (b1 : Addr) (b104 : Addr) (k104 : ClassId) (h0 : Heap) (n0 : Nat) (Z0 : n0 ≤ h0.size) {p : Program} {e : Env} {s : State} {m : MethodId} {below : List Frame} {meth : Method} {c : Code} {Tc : State} {Hc : Heap} {locsc : List Loc} (Xc : Stand p l e room_1 s m #[(.int p1)] below meth c Tc locsc 2 68) (hx : p.tables.exec = Jvm.exec) (hZ : Z.Warmed39 s.vm) (hby : c.code = code) (hml : c.maxLocals = 4) (hown : s.vm.findClass "com/example/querent/querent/dicom/VrBinaryNumberLengthPinLaw" = some m.cls) (hret : meth.sig.returnType = some .boolean) (hlk : meth.locks = false) (hh : s.heap = h0) (ec : Tc.heap = Hc) (Nc : Fr n0 locsc) (Kc0 : Keep h0 Hc []) (Oc : Old Z n0 Hc) (zc0 : Exa Z Z.heap ad27 "com/example/querent/querent/dicom/Vr") (zc1 : Fld Z Z.heap ad27 "java/lang/Enum" "ordinal" "I" (.int (27 : Int32))) (zc2 : Arv Z Hc b104 k104 .int (34 : Int32) [(.int (0 : Int32)), (.int (0 : Int32)), (.int (0 : Int32)), (.int (0 : Int32)), (.int (0 : Int32)), (.int (0 : Int32)), (.int (0 : Int32)), (.int (8 : Int32)), (.int (4 : Int32)), (.int (0 : Int32)), (.int (0 : Int32)), (.int (0 : Int32)), (.int (0 : Int32)), (.int (0 : Int32)), (.int (0 : Int32)), (.int (0 : Int32)), (.int (0 : Int32)), (.int (0 : Int32)), (.int (0 : Int32)), (.int (0 : Int32)), (.int (4 : Int32)), (.int (0 : Int32)), (.int (2 : Int32)), (.int (0 : Int32)), (.int (8 : Int32)), (.int (0 : Int32)), (.int (0 : Int32)), (.int (0 : Int32)), (.int (4 : Int32)), (.int (0 : Int32)), (.int (0 : Int32)), (.int (2 : Int32)), (.int (0 : Int32)), (.int (8 : Int32))] (.int (0 : Int32))) (gc3 : n0 ≤ b104) (sc3 : h0.size ≤ b104) :
    ∃ U_ o_, Steps p.tables e below (Tc.setTop (mkF m 421 #[.val (.int p1), .val (.ref b1), .val (.ref b104), .val (.int (27 : Int32))] [(.ref ad27)])) U_ ∧ U_.status = .running ∧ Ended U_ below o_ ∧ (∃ v_ L_, o_ = .returned v_ ∧ Q_rm0 Z p1 ad0 ad1 ad2 ad3 ad4 ad5 ad6 ad7 ad8 ad9 ad10 ad11 ad12 ad13 ad14 ad15 ad16 ad17 ad18 ad19 ad20 ad21 ad22 ad23 ad24 ad25 ad26 ad27 ad28 ad29 ad30 ad31 ad32 ad33 h0 n0 v_ U_.heap L_ ∧ FrameEnd s o_ U_ L_ room_1.cells room_1.slots) := by
  obtain ⟨cq285, kq285, q285a, q285b, q285c⟩ := isOf hZ ec (zc0.ext Oc.2)
  obtain ⟨_, _, ⟨T285, L285, k285, n285⟩, -, X285, ⟨Lc285, hQ285, l285, y285, z285⟩, st285⟩ := Xc.virtualBack hx (y := own_y2) (z := own_y2) hown (mvT hZ (own_w hw 74 rfl)) (mvT hZ (own_w hw 75 rfl)) (notFace_of_selects (args := #[]) (mvT hZ (own_w hw 77 rfl))) (mvT hZ (own_w hw 77 rfl)) (mvT hZ (own_w hw 76 rfl)) (by decide) (backOf (W := 0) (rmMIn137 l Z a0 hw [] ad27 (27 : Int32) Hc n0 (Nat.le_trans Z0 Kc0.1) Oc zc0 zc1 (by decide) (by decide)) hZ (own_w hw 78 rfl) (own_w hw 3 rfl) (by decide) (by decide)) q285a q285c (g := (mkF m 421 #[.val (.int p1), .val (.ref b1), .val (.ref b104), .val (.int (27 : Int32))] [(.ref ad27)])) rfl (by rw [hml]; rfl) (Steps.refl _) (argsL := []) (rest := []) (lenOf pd_0 rfl) rfl (by show 2 * 0 + _ ≤ _; exact Nat.le_of_eq rfl) (hb hby at_421) (fun _ _ => ⟨rfl, ec, (by decide : 2 + 0 ≤ _), (by decide : 68 + 0 ≤ _)⟩)
  dsimp only [Pt.U, Pt.locs, Pt.cells, Pt.slots] at X285 l285 y285 z285 st285 hQ285
  subst l285 y285 z285
  obtain ⟨rfl, N285q, eh285⟩ := hQ285
  have N285 := Fr.app Nc N285q
  refine own_via st285 ?_
  obtain ⟨cl286, Ar286, q286, S286, M286, H286, G286⟩ := id zc2
  have hin286 : ¬ ((27 : Int32) < 0 ∨ cl286.slots.size ≤ ((27 : Int32)).toNatClampNeg) := inb_of S286 ⟨by decide, by decide⟩
  have hat286 : cl286.slots[((27 : Int32)).toNatClampNeg]? = some (.int (0 : Int32)) := Has.at H286 hin286 rfl
  refine own_go (A := T285.setTop (mkF m 435 #[.val (.int p1), .val (.ref b1), .val (.ref b104), .val (.int (27 : Int32))] [(.int (1 : Int32))])) (fun t_ k_ => ?_) ?_
  · show Steps p.tables e below (T285.setTop (mkF m 424 #[.val (.int p1), .val (.ref b1), .val (.ref b104), .val (.int (27 : Int32))] [(.int (0 : Int32))])) t_
    refine XS.aloadN X285.here hx rfl (hb hby at_424) rfl rfl ?_
    show Steps p.tables e below (T285.setTop (mkF m 425 #[.val (.int p1), .val (.ref b1), .val (.ref b104), .val (.int (27 : Int32))] [(.ref b104), (.int (0 : Int32))])) t_
    refine XS.iloadN X285.here hx rfl (hb hby at_425) rfl ?_
    show Steps p.tables e below (T285.setTop (mkF m 426 #[.val (.int p1), .val (.ref b1), .val (.ref b104), .val (.int (27 : Int32))] [(.int (27 : Int32)), (.ref b104), (.int (0 : Int32))])) t_
    refine X285.iaload hx (j := (27 : Int32)) (v := (.int (0 : Int32))) (by rw [eh285]; exact Ar286.1) (State.isArrayOf_alike hZ.alike Ar286.2.1) Ar286.2.2 hin286 hat286 (g := (mkF m 426 #[.val (.int p1), .val (.ref b1), .val (.ref b104), .val (.int (27 : Int32))] [(.int (27 : Int32)), (.ref b104), (.int (0 : Int32))])) rfl rfl (hb hby at_426) _ ?_
    show Steps p.tables e below (T285.setTop (mkF m 427 #[.val (.int p1), .val (.ref b1), .val (.ref b104), .val (.int (27 : Int32))] [(.int (0 : Int32)), (.int (0 : Int32))])) t_
    refine XS.icmpNo X285.here hx rfl (hb hby at_427) rfl (teq (by decide : (0 : Int32) = (0 : Int32))).2 ?_
    show Steps p.tables e below (T285.setTop (mkF m 430 #[.val (.int p1), .val (.ref b1), .val (.ref b104), .val (.int (27 : Int32))] [])) t_
    refine XS.iconst X285.here hx rfl (hb hby at_430) ?_
    show Steps p.tables e below (T285.setTop (mkF m 431 #[.val (.int p1), .val (.ref b1), .val (.ref b104), .val (.int (27 : Int32))] [(.int (1 : Int32))])) t_
    refine XS.goto X285.here hx rfl (pc0 := 431) (pc' := 435) rfl (hb hby at_431) (by decide) (by decide) ?_
    exact k_
  obtain ⟨fs287, hr287, hrun287, hended287, hW287, hsame287⟩ := X285.leave (v := some (.int (1 : Int32))) (fun h => by rw [hret] at h; cases h)
  refine ⟨_, _, ?_, hrun287, hended287, _, _, rfl, ?_, ⟨_, rfl⟩, hW287, hsame287.mono (by decide) (by decide)⟩
  · exact retN X285 hx (t := .boolean) hret (by simp) (hb hby at_435) hr287
  · show Q_rm0 Z p1 ad0 ad1 ad2 ad3 ad4 ad5 ad6 ad7 ad8 ad9 ad10 ad11 ad12 ad13 ad14 ad15 ad16 ad17 ad18 ad19 ad20 ad21 ad22 ad23 ad24 ad25 ad26 ad27 ad28 ad29 ad30 ad31 ad32 ad33 h0 n0 _ T285.heap _
    rw [eh285]
    exact ⟨rfl, N285, Kc0⟩
set_option maxRecDepth 65536 in
set_option maxHeartbeats 40000000 in
theorem own_sufad28 (l : Launch) (Z : State) (a0 : Array Value) (hw : ∀ d ∈ tables_1, d.before a0 Z = true) (p1 : Int32) (ad0 : Addr) (ad1 : Addr) (ad2 : Addr) (ad3 : Addr) (ad4 : Addr) (ad5 : Addr) (ad6 : Addr) (ad7 : Addr) (ad8 : Addr) (ad9 : Addr) (ad10 : Addr) (ad11 : Addr) (ad12 : Addr) (ad13 : Addr) (ad14 : Addr) (ad15 : Addr) (ad16 : Addr) (ad17 : Addr) (ad18 : Addr) (ad19 : Addr) (ad20 : Addr) (ad21 : Addr) (ad22 : Addr) (ad23 : Addr) (ad24 : Addr) (ad25 : Addr) (ad26 : Addr) (ad27 : Addr) (ad28 : Addr) (ad29 : Addr) (ad30 : Addr) (ad31 : Addr) (ad32 : Addr) (ad33 : Addr) (b1 : Addr) (b104 : Addr) (k104 : ClassId) (h0 : Heap) (n0 : Nat) (Z0 : n0 ≤ h0.size) {p : Program} {e : Env} {s : State} {m : MethodId} {below : List Frame} {meth : Method} {c : Code} {Tc : State} {Hc : Heap} {locsc : List Loc} (Xc : Stand p l e room_1 s m #[(.int p1)] below meth c Tc locsc 2 68) (hx : p.tables.exec = Jvm.exec) (hZ : Z.Warmed39 s.vm) (hby : c.code = code) (hml : c.maxLocals = 4) (hown : s.vm.findClass "com/example/querent/querent/dicom/VrBinaryNumberLengthPinLaw" = some m.cls) (hret : meth.sig.returnType = some .boolean) (hlk : meth.locks = false) (hh : s.heap = h0) (ec : Tc.heap = Hc) (Nc : Fr n0 locsc) (Kc0 : Keep h0 Hc []) (Oc : Old Z n0 Hc) (zc0 : Exa Z Z.heap ad28 "com/example/querent/querent/dicom/Vr") (zc1 : Fld Z Z.heap ad28 "java/lang/Enum" "ordinal" "I" (.int (28 : Int32))) (zc2 : Arv Z Hc b104 k104 .int (34 : Int32) [(.int (0 : Int32)), (.int (0 : Int32)), (.int (0 : Int32)), (.int (0 : Int32)), (.int (0 : Int32)), (.int (0 : Int32)), (.int (0 : Int32)), (.int (8 : Int32)), (.int (4 : Int32)), (.int (0 : Int32)), (.int (0 : Int32)), (.int (0 : Int32)), (.int (0 : Int32)), (.int (0 : Int32)), (.int (0 : Int32)), (.int (0 : Int32)), (.int (0 : Int32)), (.int (0 : Int32)), (.int (0 : Int32)), (.int (0 : Int32)), (.int (4 : Int32)), (.int (0 : Int32)), (.int (2 : Int32)), (.int (0 : Int32)), (.int (8 : Int32)), (.int (0 : Int32)), (.int (0 : Int32)), (.int (0 : Int32)), (.int (4 : Int32)), (.int (0 : Int32)), (.int (0 : Int32)), (.int (2 : Int32)), (.int (0 : Int32)), (.int (8 : Int32))] (.int (0 : Int32))) (gc3 : n0 ≤ b104) (sc3 : h0.size ≤ b104) :
    ∃ U_ o_, Steps p.tables e below (Tc.setTop (mkF m 421 #[.val (.int p1), .val (.ref b1), .val (.ref b104), .val (.int (28 : Int32))] [(.ref ad28)])) U_ ∧ U_.status = .running ∧ Ended U_ below o_ ∧ (∃ v_ L_, o_ = .returned v_ ∧ Q_rm0 Z p1 ad0 ad1 ad2 ad3 ad4 ad5 ad6 ad7 ad8 ad9 ad10 ad11 ad12 ad13 ad14 ad15 ad16 ad17 ad18 ad19 ad20 ad21 ad22 ad23 ad24 ad25 ad26 ad27 ad28 ad29 ad30 ad31 ad32 ad33 h0 n0 v_ U_.heap L_ ∧ FrameEnd s o_ U_ L_ room_1.cells room_1.slots) := by
  obtain ⟨cq289, kq289, q289a, q289b, q289c⟩ := isOf hZ ec (zc0.ext Oc.2)
  obtain ⟨_, _, ⟨T289, L289, k289, n289⟩, -, X289, ⟨Lc289, hQ289, l289, y289, z289⟩, st289⟩ := Xc.virtualBack hx (y := own_y2) (z := own_y2) hown (mvT hZ (own_w hw 74 rfl)) (mvT hZ (own_w hw 75 rfl)) (notFace_of_selects (args := #[]) (mvT hZ (own_w hw 77 rfl))) (mvT hZ (own_w hw 77 rfl)) (mvT hZ (own_w hw 76 rfl)) (by decide) (backOf (W := 0) (rmMIn128 l Z a0 hw [] ad28 (28 : Int32) Hc n0 (Nat.le_trans Z0 Kc0.1) Oc zc0 zc1 (by decide) (by decide)) hZ (own_w hw 78 rfl) (own_w hw 3 rfl) (by decide) (by decide)) q289a q289c (g := (mkF m 421 #[.val (.int p1), .val (.ref b1), .val (.ref b104), .val (.int (28 : Int32))] [(.ref ad28)])) rfl (by rw [hml]; rfl) (Steps.refl _) (argsL := []) (rest := []) (lenOf pd_0 rfl) rfl (by show 2 * 0 + _ ≤ _; exact Nat.le_of_eq rfl) (hb hby at_421) (fun _ _ => ⟨rfl, ec, (by decide : 2 + 0 ≤ _), (by decide : 68 + 0 ≤ _)⟩)
  dsimp only [Pt.U, Pt.locs, Pt.cells, Pt.slots] at X289 l289 y289 z289 st289 hQ289
  subst l289 y289 z289
  obtain ⟨rfl, N289q, eh289⟩ := hQ289
  have N289 := Fr.app Nc N289q
  refine own_via st289 ?_
  obtain ⟨cl290, Ar290, q290, S290, M290, H290, G290⟩ := id zc2
  have hin290 : ¬ ((28 : Int32) < 0 ∨ cl290.slots.size ≤ ((28 : Int32)).toNatClampNeg) := inb_of S290 ⟨by decide, by decide⟩
  have hat290 : cl290.slots[((28 : Int32)).toNatClampNeg]? = some (.int (4 : Int32)) := Has.at H290 hin290 rfl
  refine own_go (A := T289.setTop (mkF m 435 #[.val (.int p1), .val (.ref b1), .val (.ref b104), .val (.int (28 : Int32))] [(.int (1 : Int32))])) (fun t_ k_ => ?_) ?_
  · show Steps p.tables e below (T289.setTop (mkF m 424 #[.val (.int p1), .val (.ref b1), .val (.ref b104), .val (.int (28 : Int32))] [(.int (4 : Int32))])) t_
    refine XS.aloadN X289.here hx rfl (hb hby at_424) rfl rfl ?_
    show Steps p.tables e below (T289.setTop (mkF m 425 #[.val (.int p1), .val (.ref b1), .val (.ref b104), .val (.int (28 : Int32))] [(.ref b104), (.int (4 : Int32))])) t_
    refine XS.iloadN X289.here hx rfl (hb hby at_425) rfl ?_
    show Steps p.tables e below (T289.setTop (mkF m 426 #[.val (.int p1), .val (.ref b1), .val (.ref b104), .val (.int (28 : Int32))] [(.int (28 : Int32)), (.ref b104), (.int (4 : Int32))])) t_
    refine X289.iaload hx (j := (28 : Int32)) (v := (.int (4 : Int32))) (by rw [eh289]; exact Ar290.1) (State.isArrayOf_alike hZ.alike Ar290.2.1) Ar290.2.2 hin290 hat290 (g := (mkF m 426 #[.val (.int p1), .val (.ref b1), .val (.ref b104), .val (.int (28 : Int32))] [(.int (28 : Int32)), (.ref b104), (.int (4 : Int32))])) rfl rfl (hb hby at_426) _ ?_
    show Steps p.tables e below (T289.setTop (mkF m 427 #[.val (.int p1), .val (.ref b1), .val (.ref b104), .val (.int (28 : Int32))] [(.int (4 : Int32)), (.int (4 : Int32))])) t_
    refine XS.icmpNo X289.here hx rfl (hb hby at_427) rfl (teq (by decide : (4 : Int32) = (4 : Int32))).2 ?_
    show Steps p.tables e below (T289.setTop (mkF m 430 #[.val (.int p1), .val (.ref b1), .val (.ref b104), .val (.int (28 : Int32))] [])) t_
    refine XS.iconst X289.here hx rfl (hb hby at_430) ?_
    show Steps p.tables e below (T289.setTop (mkF m 431 #[.val (.int p1), .val (.ref b1), .val (.ref b104), .val (.int (28 : Int32))] [(.int (1 : Int32))])) t_
    refine XS.goto X289.here hx rfl (pc0 := 431) (pc' := 435) rfl (hb hby at_431) (by decide) (by decide) ?_
    exact k_
  obtain ⟨fs291, hr291, hrun291, hended291, hW291, hsame291⟩ := X289.leave (v := some (.int (1 : Int32))) (fun h => by rw [hret] at h; cases h)
  refine ⟨_, _, ?_, hrun291, hended291, _, _, rfl, ?_, ⟨_, rfl⟩, hW291, hsame291.mono (by decide) (by decide)⟩
  · exact retN X289 hx (t := .boolean) hret (by simp) (hb hby at_435) hr291
  · show Q_rm0 Z p1 ad0 ad1 ad2 ad3 ad4 ad5 ad6 ad7 ad8 ad9 ad10 ad11 ad12 ad13 ad14 ad15 ad16 ad17 ad18 ad19 ad20 ad21 ad22 ad23 ad24 ad25 ad26 ad27 ad28 ad29 ad30 ad31 ad32 ad33 h0 n0 _ T289.heap _
    rw [eh289]
    exact ⟨rfl, N289, Kc0⟩
set_option maxRecDepth 65536 in
set_option maxHeartbeats 40000000 in
theorem own_sufad29 (l : Launch) (Z : State) (a0 : Array Value) (hw : ∀ d ∈ tables_1, d.before a0 Z = true) (p1 : Int32) (ad0 : Addr) (ad1 : Addr) (ad2 : Addr) (ad3 : Addr) (ad4 : Addr) (ad5 : Addr) (ad6 : Addr) (ad7 : Addr) (ad8 : Addr) (ad9 : Addr) (ad10 : Addr) (ad11 : Addr) (ad12 : Addr) (ad13 : Addr) (ad14 : Addr) (ad15 : Addr) (ad16 : Addr) (ad17 : Addr) (ad18 : Addr) (ad19 : Addr) (ad20 : Addr) (ad21 : Addr) (ad22 : Addr) (ad23 : Addr) (ad24 : Addr) (ad25 : Addr) (ad26 : Addr) (ad27 : Addr) (ad28 : Addr) (ad29 : Addr) (ad30 : Addr) (ad31 : Addr) (ad32 : Addr) (ad33 : Addr) (b1 : Addr) (b104 : Addr) (k104 : ClassId) (h0 : Heap) (n0 : Nat) (Z0 : n0 ≤ h0.size) {p : Program} {e : Env} {s : State} {m : MethodId} {below : List Frame} {meth : Method} {c : Code} {Tc : State} {Hc : Heap} {locsc : List Loc} (Xc : Stand p l e room_1 s m #[(.int p1)] below meth c Tc locsc 2 68) (hx : p.tables.exec = Jvm.exec) (hZ : Z.Warmed39 s.vm) (hby : c.code = code) (hml : c.maxLocals = 4) (hown : s.vm.findClass "com/example/querent/querent/dicom/VrBinaryNumberLengthPinLaw" = some m.cls) (hret : meth.sig.returnType = some .boolean) (hlk : meth.locks = false) (hh : s.heap = h0) (ec : Tc.heap = Hc) (Nc : Fr n0 locsc) (Kc0 : Keep h0 Hc []) (Oc : Old Z n0 Hc) (zc0 : Exa Z Z.heap ad29 "com/example/querent/querent/dicom/Vr") (zc1 : Fld Z Z.heap ad29 "java/lang/Enum" "ordinal" "I" (.int (29 : Int32))) (zc2 : Arv Z Hc b104 k104 .int (34 : Int32) [(.int (0 : Int32)), (.int (0 : Int32)), (.int (0 : Int32)), (.int (0 : Int32)), (.int (0 : Int32)), (.int (0 : Int32)), (.int (0 : Int32)), (.int (8 : Int32)), (.int (4 : Int32)), (.int (0 : Int32)), (.int (0 : Int32)), (.int (0 : Int32)), (.int (0 : Int32)), (.int (0 : Int32)), (.int (0 : Int32)), (.int (0 : Int32)), (.int (0 : Int32)), (.int (0 : Int32)), (.int (0 : Int32)), (.int (0 : Int32)), (.int (4 : Int32)), (.int (0 : Int32)), (.int (2 : Int32)), (.int (0 : Int32)), (.int (8 : Int32)), (.int (0 : Int32)), (.int (0 : Int32)), (.int (0 : Int32)), (.int (4 : Int32)), (.int (0 : Int32)), (.int (0 : Int32)), (.int (2 : Int32)), (.int (0 : Int32)), (.int (8 : Int32))] (.int (0 : Int32))) (gc3 : n0 ≤ b104) (sc3 : h0.size ≤ b104) :
    ∃ U_ o_, Steps p.tables e below (Tc.setTop (mkF m 421 #[.val (.int p1), .val (.ref b1), .val (.ref b104), .val (.int (29 : Int32))] [(.ref ad29)])) U_ ∧ U_.status = .running ∧ Ended U_ below o_ ∧ (∃ v_ L_, o_ = .returned v_ ∧ Q_rm0 Z p1 ad0 ad1 ad2 ad3 ad4 ad5 ad6 ad7 ad8 ad9 ad10 ad11 ad12 ad13 ad14 ad15 ad16 ad17 ad18 ad19 ad20 ad21 ad22 ad23 ad24 ad25 ad26 ad27 ad28 ad29 ad30 ad31 ad32 ad33 h0 n0 v_ U_.heap L_ ∧ FrameEnd s o_ U_ L_ room_1.cells room_1.slots) := by
  obtain ⟨cq293, kq293, q293a, q293b, q293c⟩ := isOf hZ ec (zc0.ext Oc.2)
  obtain ⟨_, _, ⟨T293, L293, k293, n293⟩, -, X293, ⟨Lc293, hQ293, l293, y293, z293⟩, st293⟩ := Xc.virtualBack hx (y := own_y2) (z := own_y2) hown (mvT hZ (own_w hw 74 rfl)) (mvT hZ (own_w hw 75 rfl)) (notFace_of_selects (args := #[]) (mvT hZ (own_w hw 77 rfl))) (mvT hZ (own_w hw 77 rfl)) (mvT hZ (own_w hw 76 rfl)) (by decide) (backOf (W := 0) (rmMIn137 l Z a0 hw [] ad29 (29 : Int32) Hc n0 (Nat.le_trans Z0 Kc0.1) Oc zc0 zc1 (by decide) (by decide)) hZ (own_w hw 78 rfl) (own_w hw 3 rfl) (by decide) (by decide)) q293a q293c (g := (mkF m 421 #[.val (.int p1), .val (.ref b1), .val (.ref b104), .val (.int (29 : Int32))] [(.ref ad29)])) rfl (by rw [hml]; rfl) (Steps.refl _) (argsL := []) (rest := []) (lenOf pd_0 rfl) rfl (by show 2 * 0 + _ ≤ _; exact Nat.le_of_eq rfl) (hb hby at_421) (fun _ _ => ⟨rfl, ec, (by decide : 2 + 0 ≤ _), (by decide : 68 + 0 ≤ _)⟩)
  dsimp only [Pt.U, Pt.locs, Pt.cells, Pt.slots] at X293 l293 y293 z293 st293 hQ293
  subst l293 y293 z293
  obtain ⟨rfl, N293q, eh293⟩ := hQ293
  have N293 := Fr.app Nc N293q
  refine own_via st293 ?_
  obtain ⟨cl294, Ar294, q294, S294, M294, H294, G294⟩ := id zc2
  have hin294 : ¬ ((29 : Int32) < 0 ∨ cl294.slots.size ≤ ((29 : Int32)).toNatClampNeg) := inb_of S294 ⟨by decide, by decide⟩
  have hat294 : cl294.slots[((29 : Int32)).toNatClampNeg]? = some (.int (0 : Int32)) := Has.at H294 hin294 rfl
  refine own_go (A := T293.setTop (mkF m 435 #[.val (.int p1), .val (.ref b1), .val (.ref b104), .val (.int (29 : Int32))] [(.int (1 : Int32))])) (fun t_ k_ => ?_) ?_
  · show Steps p.tables e below (T293.setTop (mkF m 424 #[.val (.int p1), .val (.ref b1), .val (.ref b104), .val (.int (29 : Int32))] [(.int (0 : Int32))])) t_
    refine XS.aloadN X293.here hx rfl (hb hby at_424) rfl rfl ?_
    show Steps p.tables e below (T293.setTop (mkF m 425 #[.val (.int p1), .val (.ref b1), .val (.ref b104), .val (.int (29 : Int32))] [(.ref b104), (.int (0 : Int32))])) t_
    refine XS.iloadN X293.here hx rfl (hb hby at_425) rfl ?_
    show Steps p.tables e below (T293.setTop (mkF m 426 #[.val (.int p1), .val (.ref b1), .val (.ref b104), .val (.int (29 : Int32))] [(.int (29 : Int32)), (.ref b104), (.int (0 : Int32))])) t_
    refine X293.iaload hx (j := (29 : Int32)) (v := (.int (0 : Int32))) (by rw [eh293]; exact Ar294.1) (State.isArrayOf_alike hZ.alike Ar294.2.1) Ar294.2.2 hin294 hat294 (g := (mkF m 426 #[.val (.int p1), .val (.ref b1), .val (.ref b104), .val (.int (29 : Int32))] [(.int (29 : Int32)), (.ref b104), (.int (0 : Int32))])) rfl rfl (hb hby at_426) _ ?_
    show Steps p.tables e below (T293.setTop (mkF m 427 #[.val (.int p1), .val (.ref b1), .val (.ref b104), .val (.int (29 : Int32))] [(.int (0 : Int32)), (.int (0 : Int32))])) t_
    refine XS.icmpNo X293.here hx rfl (hb hby at_427) rfl (teq (by decide : (0 : Int32) = (0 : Int32))).2 ?_
    show Steps p.tables e below (T293.setTop (mkF m 430 #[.val (.int p1), .val (.ref b1), .val (.ref b104), .val (.int (29 : Int32))] [])) t_
    refine XS.iconst X293.here hx rfl (hb hby at_430) ?_
    show Steps p.tables e below (T293.setTop (mkF m 431 #[.val (.int p1), .val (.ref b1), .val (.ref b104), .val (.int (29 : Int32))] [(.int (1 : Int32))])) t_
    refine XS.goto X293.here hx rfl (pc0 := 431) (pc' := 435) rfl (hb hby at_431) (by decide) (by decide) ?_
    exact k_
  obtain ⟨fs295, hr295, hrun295, hended295, hW295, hsame295⟩ := X293.leave (v := some (.int (1 : Int32))) (fun h => by rw [hret] at h; cases h)
  refine ⟨_, _, ?_, hrun295, hended295, _, _, rfl, ?_, ⟨_, rfl⟩, hW295, hsame295.mono (by decide) (by decide)⟩
  · exact retN X293 hx (t := .boolean) hret (by simp) (hb hby at_435) hr295
  · show Q_rm0 Z p1 ad0 ad1 ad2 ad3 ad4 ad5 ad6 ad7 ad8 ad9 ad10 ad11 ad12 ad13 ad14 ad15 ad16 ad17 ad18 ad19 ad20 ad21 ad22 ad23 ad24 ad25 ad26 ad27 ad28 ad29 ad30 ad31 ad32 ad33 h0 n0 _ T293.heap _
    rw [eh293]
    exact ⟨rfl, N293, Kc0⟩
set_option maxRecDepth 65536 in
set_option maxHeartbeats 40000000 in
theorem own_sufad30 (l : Launch) (Z : State) (a0 : Array Value) (hw : ∀ d ∈ tables_1, d.before a0 Z = true) (p1 : Int32) (ad0 : Addr) (ad1 : Addr) (ad2 : Addr) (ad3 : Addr) (ad4 : Addr) (ad5 : Addr) (ad6 : Addr) (ad7 : Addr) (ad8 : Addr) (ad9 : Addr) (ad10 : Addr) (ad11 : Addr) (ad12 : Addr) (ad13 : Addr) (ad14 : Addr) (ad15 : Addr) (ad16 : Addr) (ad17 : Addr) (ad18 : Addr) (ad19 : Addr) (ad20 : Addr) (ad21 : Addr) (ad22 : Addr) (ad23 : Addr) (ad24 : Addr) (ad25 : Addr) (ad26 : Addr) (ad27 : Addr) (ad28 : Addr) (ad29 : Addr) (ad30 : Addr) (ad31 : Addr) (ad32 : Addr) (ad33 : Addr) (b1 : Addr) (b104 : Addr) (k104 : ClassId) (h0 : Heap) (n0 : Nat) (Z0 : n0 ≤ h0.size) {p : Program} {e : Env} {s : State} {m : MethodId} {below : List Frame} {meth : Method} {c : Code} {Tc : State} {Hc : Heap} {locsc : List Loc} (Xc : Stand p l e room_1 s m #[(.int p1)] below meth c Tc locsc 2 68) (hx : p.tables.exec = Jvm.exec) (hZ : Z.Warmed39 s.vm) (hby : c.code = code) (hml : c.maxLocals = 4) (hown : s.vm.findClass "com/example/querent/querent/dicom/VrBinaryNumberLengthPinLaw" = some m.cls) (hret : meth.sig.returnType = some .boolean) (hlk : meth.locks = false) (hh : s.heap = h0) (ec : Tc.heap = Hc) (Nc : Fr n0 locsc) (Kc0 : Keep h0 Hc []) (Oc : Old Z n0 Hc) (zc0 : Exa Z Z.heap ad30 "com/example/querent/querent/dicom/Vr") (zc1 : Fld Z Z.heap ad30 "java/lang/Enum" "ordinal" "I" (.int (30 : Int32))) (zc2 : Arv Z Hc b104 k104 .int (34 : Int32) [(.int (0 : Int32)), (.int (0 : Int32)), (.int (0 : Int32)), (.int (0 : Int32)), (.int (0 : Int32)), (.int (0 : Int32)), (.int (0 : Int32)), (.int (8 : Int32)), (.int (4 : Int32)), (.int (0 : Int32)), (.int (0 : Int32)), (.int (0 : Int32)), (.int (0 : Int32)), (.int (0 : Int32)), (.int (0 : Int32)), (.int (0 : Int32)), (.int (0 : Int32)), (.int (0 : Int32)), (.int (0 : Int32)), (.int (0 : Int32)), (.int (4 : Int32)), (.int (0 : Int32)), (.int (2 : Int32)), (.int (0 : Int32)), (.int (8 : Int32)), (.int (0 : Int32)), (.int (0 : Int32)), (.int (0 : Int32)), (.int (4 : Int32)), (.int (0 : Int32)), (.int (0 : Int32)), (.int (2 : Int32)), (.int (0 : Int32)), (.int (8 : Int32))] (.int (0 : Int32))) (gc3 : n0 ≤ b104) (sc3 : h0.size ≤ b104) :
    ∃ U_ o_, Steps p.tables e below (Tc.setTop (mkF m 421 #[.val (.int p1), .val (.ref b1), .val (.ref b104), .val (.int (30 : Int32))] [(.ref ad30)])) U_ ∧ U_.status = .running ∧ Ended U_ below o_ ∧ (∃ v_ L_, o_ = .returned v_ ∧ Q_rm0 Z p1 ad0 ad1 ad2 ad3 ad4 ad5 ad6 ad7 ad8 ad9 ad10 ad11 ad12 ad13 ad14 ad15 ad16 ad17 ad18 ad19 ad20 ad21 ad22 ad23 ad24 ad25 ad26 ad27 ad28 ad29 ad30 ad31 ad32 ad33 h0 n0 v_ U_.heap L_ ∧ FrameEnd s o_ U_ L_ room_1.cells room_1.slots) := by
  obtain ⟨cq297, kq297, q297a, q297b, q297c⟩ := isOf hZ ec (zc0.ext Oc.2)
  obtain ⟨_, _, ⟨T297, L297, k297, n297⟩, -, X297, ⟨Lc297, hQ297, l297, y297, z297⟩, st297⟩ := Xc.virtualBack hx (y := own_y2) (z := own_y2) hown (mvT hZ (own_w hw 74 rfl)) (mvT hZ (own_w hw 75 rfl)) (notFace_of_selects (args := #[]) (mvT hZ (own_w hw 77 rfl))) (mvT hZ (own_w hw 77 rfl)) (mvT hZ (own_w hw 76 rfl)) (by decide) (backOf (W := 0) (rmMIn137 l Z a0 hw [] ad30 (30 : Int32) Hc n0 (Nat.le_trans Z0 Kc0.1) Oc zc0 zc1 (by decide) (by decide)) hZ (own_w hw 78 rfl) (own_w hw 3 rfl) (by decide) (by decide)) q297a q297c (g := (mkF m 421 #[.val (.int p1), .val (.ref b1), .val (.ref b104), .val (.int (30 : Int32))] [(.ref ad30)])) rfl (by rw [hml]; rfl) (Steps.refl _) (argsL := []) (rest := []) (lenOf pd_0 rfl) rfl (by show 2 * 0 + _ ≤ _; exact Nat.le_of_eq rfl) (hb hby at_421) (fun _ _ => ⟨rfl, ec, (by decide : 2 + 0 ≤ _), (by decide : 68 + 0 ≤ _)⟩)
  dsimp only [Pt.U, Pt.locs, Pt.cells, Pt.slots] at X297 l297 y297 z297 st297 hQ297
  subst l297 y297 z297
  obtain ⟨rfl, N297q, eh297⟩ := hQ297
  have N297 := Fr.app Nc N297q
  refine own_via st297 ?_
  obtain ⟨cl298, Ar298, q298, S298, M298, H298, G298⟩ := id zc2
  have hin298 : ¬ ((30 : Int32) < 0 ∨ cl298.slots.size ≤ ((30 : Int32)).toNatClampNeg) := inb_of S298 ⟨by decide, by decide⟩
  have hat298 : cl298.slots[((30 : Int32)).toNatClampNeg]? = some (.int (0 : Int32)) := Has.at H298 hin298 rfl
  refine own_go (A := T297.setTop (mkF m 435 #[.val (.int p1), .val (.ref b1), .val (.ref b104), .val (.int (30 : Int32))] [(.int (1 : Int32))])) (fun t_ k_ => ?_) ?_
  · show Steps p.tables e below (T297.setTop (mkF m 424 #[.val (.int p1), .val (.ref b1), .val (.ref b104), .val (.int (30 : Int32))] [(.int (0 : Int32))])) t_
    refine XS.aloadN X297.here hx rfl (hb hby at_424) rfl rfl ?_
    show Steps p.tables e below (T297.setTop (mkF m 425 #[.val (.int p1), .val (.ref b1), .val (.ref b104), .val (.int (30 : Int32))] [(.ref b104), (.int (0 : Int32))])) t_
    refine XS.iloadN X297.here hx rfl (hb hby at_425) rfl ?_
    show Steps p.tables e below (T297.setTop (mkF m 426 #[.val (.int p1), .val (.ref b1), .val (.ref b104), .val (.int (30 : Int32))] [(.int (30 : Int32)), (.ref b104), (.int (0 : Int32))])) t_
    refine X297.iaload hx (j := (30 : Int32)) (v := (.int (0 : Int32))) (by rw [eh297]; exact Ar298.1) (State.isArrayOf_alike hZ.alike Ar298.2.1) Ar298.2.2 hin298 hat298 (g := (mkF m 426 #[.val (.int p1), .val (.ref b1), .val (.ref b104), .val (.int (30 : Int32))] [(.int (30 : Int32)), (.ref b104), (.int (0 : Int32))])) rfl rfl (hb hby at_426) _ ?_
    show Steps p.tables e below (T297.setTop (mkF m 427 #[.val (.int p1), .val (.ref b1), .val (.ref b104), .val (.int (30 : Int32))] [(.int (0 : Int32)), (.int (0 : Int32))])) t_
    refine XS.icmpNo X297.here hx rfl (hb hby at_427) rfl (teq (by decide : (0 : Int32) = (0 : Int32))).2 ?_
    show Steps p.tables e below (T297.setTop (mkF m 430 #[.val (.int p1), .val (.ref b1), .val (.ref b104), .val (.int (30 : Int32))] [])) t_
    refine XS.iconst X297.here hx rfl (hb hby at_430) ?_
    show Steps p.tables e below (T297.setTop (mkF m 431 #[.val (.int p1), .val (.ref b1), .val (.ref b104), .val (.int (30 : Int32))] [(.int (1 : Int32))])) t_
    refine XS.goto X297.here hx rfl (pc0 := 431) (pc' := 435) rfl (hb hby at_431) (by decide) (by decide) ?_
    exact k_
  obtain ⟨fs299, hr299, hrun299, hended299, hW299, hsame299⟩ := X297.leave (v := some (.int (1 : Int32))) (fun h => by rw [hret] at h; cases h)
  refine ⟨_, _, ?_, hrun299, hended299, _, _, rfl, ?_, ⟨_, rfl⟩, hW299, hsame299.mono (by decide) (by decide)⟩
  · exact retN X297 hx (t := .boolean) hret (by simp) (hb hby at_435) hr299
  · show Q_rm0 Z p1 ad0 ad1 ad2 ad3 ad4 ad5 ad6 ad7 ad8 ad9 ad10 ad11 ad12 ad13 ad14 ad15 ad16 ad17 ad18 ad19 ad20 ad21 ad22 ad23 ad24 ad25 ad26 ad27 ad28 ad29 ad30 ad31 ad32 ad33 h0 n0 _ T297.heap _
    rw [eh297]
    exact ⟨rfl, N297, Kc0⟩
set_option maxRecDepth 65536 in
set_option maxHeartbeats 40000000 in
theorem own_sufad31 (l : Launch) (Z : State) (a0 : Array Value) (hw : ∀ d ∈ tables_1, d.before a0 Z = true) (p1 : Int32) (ad0 : Addr) (ad1 : Addr) (ad2 : Addr) (ad3 : Addr) (ad4 : Addr) (ad5 : Addr) (ad6 : Addr) (ad7 : Addr) (ad8 : Addr) (ad9 : Addr) (ad10 : Addr) (ad11 : Addr) (ad12 : Addr) (ad13 : Addr) (ad14 : Addr) (ad15 : Addr) (ad16 : Addr) (ad17 : Addr) (ad18 : Addr) (ad19 : Addr) (ad20 : Addr) (ad21 : Addr) (ad22 : Addr) (ad23 : Addr) (ad24 : Addr) (ad25 : Addr) (ad26 : Addr) (ad27 : Addr) (ad28 : Addr) (ad29 : Addr) (ad30 : Addr) (ad31 : Addr) (ad32 : Addr) (ad33 : Addr) (b1 : Addr) (b104 : Addr) (k104 : ClassId) (h0 : Heap) (n0 : Nat) (Z0 : n0 ≤ h0.size) {p : Program} {e : Env} {s : State} {m : MethodId} {below : List Frame} {meth : Method} {c : Code} {Tc : State} {Hc : Heap} {locsc : List Loc} (Xc : Stand p l e room_1 s m #[(.int p1)] below meth c Tc locsc 2 68) (hx : p.tables.exec = Jvm.exec) (hZ : Z.Warmed39 s.vm) (hby : c.code = code) (hml : c.maxLocals = 4) (hown : s.vm.findClass "com/example/querent/querent/dicom/VrBinaryNumberLengthPinLaw" = some m.cls) (hret : meth.sig.returnType = some .boolean) (hlk : meth.locks = false) (hh : s.heap = h0) (ec : Tc.heap = Hc) (Nc : Fr n0 locsc) (Kc0 : Keep h0 Hc []) (Oc : Old Z n0 Hc) (zc0 : Exa Z Z.heap ad31 "com/example/querent/querent/dicom/Vr") (zc1 : Fld Z Z.heap ad31 "java/lang/Enum" "ordinal" "I" (.int (31 : Int32))) (zc2 : Arv Z Hc b104 k104 .int (34 : Int32) [(.int (0 : Int32)), (.int (0 : Int32)), (.int (0 : Int32)), (.int (0 : Int32)), (.int (0 : Int32)), (.int (0 : Int32)), (.int (0 : Int32)), (.int (8 : Int32)), (.int (4 : Int32)), (.int (0 : Int32)), (.int (0 : Int32)), (.int (0 : Int32)), (.int (0 : Int32)), (.int (0 : Int32)), (.int (0 : Int32)), (.int (0 : Int32)), (.int (0 : Int32)), (.int (0 : Int32)), (.int (0 : Int32)), (.int (0 : Int32)), (.int (4 : Int32)), (.int (0 : Int32)), (.int (2 : Int32)), (.int (0 : Int32)), (.int (8 : Int32)), (.int (0 : Int32)), (.int (0 : Int32)), (.int (0 : Int32)), (.int (4 : Int32)), (.int (0 : Int32)), (.int (0 : Int32)), (.int (2 : Int32)), (.int (0 : Int32)), (.int (8 : Int32))] (.int (0 : Int32))) (gc3 : n0 ≤ b104) (sc3 : h0.size ≤ b104) :
    ∃ U_ o_, Steps p.tables e below (Tc.setTop (mkF m 421 #[.val (.int p1), .val (.ref b1), .val (.ref b104), .val (.int (31 : Int32))] [(.ref ad31)])) U_ ∧ U_.status = .running ∧ Ended U_ below o_ ∧ (∃ v_ L_, o_ = .returned v_ ∧ Q_rm0 Z p1 ad0 ad1 ad2 ad3 ad4 ad5 ad6 ad7 ad8 ad9 ad10 ad11 ad12 ad13 ad14 ad15 ad16 ad17 ad18 ad19 ad20 ad21 ad22 ad23 ad24 ad25 ad26 ad27 ad28 ad29 ad30 ad31 ad32 ad33 h0 n0 v_ U_.heap L_ ∧ FrameEnd s o_ U_ L_ room_1.cells room_1.slots) := by
  obtain ⟨cq301, kq301, q301a, q301b, q301c⟩ := isOf hZ ec (zc0.ext Oc.2)
  obtain ⟨_, _, ⟨T301, L301, k301, n301⟩, -, X301, ⟨Lc301, hQ301, l301, y301, z301⟩, st301⟩ := Xc.virtualBack hx (y := own_y2) (z := own_y2) hown (mvT hZ (own_w hw 74 rfl)) (mvT hZ (own_w hw 75 rfl)) (notFace_of_selects (args := #[]) (mvT hZ (own_w hw 77 rfl))) (mvT hZ (own_w hw 77 rfl)) (mvT hZ (own_w hw 76 rfl)) (by decide) (backOf (W := 0) (rmMIn124 l Z a0 hw [] ad31 (31 : Int32) Hc n0 (Nat.le_trans Z0 Kc0.1) Oc zc0 zc1 (by decide) (by decide)) hZ (own_w hw 78 rfl) (own_w hw 3 rfl) (by decide) (by decide)) q301a q301c (g := (mkF m 421 #[.val (.int p1), .val (.ref b1), .val (.ref b104), .val (.int (31 : Int32))] [(.ref ad31)])) rfl (by rw [hml]; rfl) (Steps.refl _) (argsL := []) (rest := []) (lenOf pd_0 rfl) rfl (by show 2 * 0 + _ ≤ _; exact Nat.le_of_eq rfl) (hb hby at_421) (fun _ _ => ⟨rfl, ec, (by decide : 2 + 0 ≤ _), (by decide : 68 + 0 ≤ _)⟩)
  dsimp only [Pt.U, Pt.locs, Pt.cells, Pt.slots] at X301 l301 y301 z301 st301 hQ301
  subst l301 y301 z301
  obtain ⟨rfl, N301q, eh301⟩ := hQ301
  have N301 := Fr.app Nc N301q
  refine own_via st301 ?_
  obtain ⟨cl302, Ar302, q302, S302, M302, H302, G302⟩ := id zc2
  have hin302 : ¬ ((31 : Int32) < 0 ∨ cl302.slots.size ≤ ((31 : Int32)).toNatClampNeg) := inb_of S302 ⟨by decide, by decide⟩
  have hat302 : cl302.slots[((31 : Int32)).toNatClampNeg]? = some (.int (2 : Int32)) := Has.at H302 hin302 rfl
  refine own_go (A := T301.setTop (mkF m 435 #[.val (.int p1), .val (.ref b1), .val (.ref b104), .val (.int (31 : Int32))] [(.int (1 : Int32))])) (fun t_ k_ => ?_) ?_
  · show Steps p.tables e below (T301.setTop (mkF m 424 #[.val (.int p1), .val (.ref b1), .val (.ref b104), .val (.int (31 : Int32))] [(.int (2 : Int32))])) t_
    refine XS.aloadN X301.here hx rfl (hb hby at_424) rfl rfl ?_
    show Steps p.tables e below (T301.setTop (mkF m 425 #[.val (.int p1), .val (.ref b1), .val (.ref b104), .val (.int (31 : Int32))] [(.ref b104), (.int (2 : Int32))])) t_
    refine XS.iloadN X301.here hx rfl (hb hby at_425) rfl ?_
    show Steps p.tables e below (T301.setTop (mkF m 426 #[.val (.int p1), .val (.ref b1), .val (.ref b104), .val (.int (31 : Int32))] [(.int (31 : Int32)), (.ref b104), (.int (2 : Int32))])) t_
    refine X301.iaload hx (j := (31 : Int32)) (v := (.int (2 : Int32))) (by rw [eh301]; exact Ar302.1) (State.isArrayOf_alike hZ.alike Ar302.2.1) Ar302.2.2 hin302 hat302 (g := (mkF m 426 #[.val (.int p1), .val (.ref b1), .val (.ref b104), .val (.int (31 : Int32))] [(.int (31 : Int32)), (.ref b104), (.int (2 : Int32))])) rfl rfl (hb hby at_426) _ ?_
    show Steps p.tables e below (T301.setTop (mkF m 427 #[.val (.int p1), .val (.ref b1), .val (.ref b104), .val (.int (31 : Int32))] [(.int (2 : Int32)), (.int (2 : Int32))])) t_
    refine XS.icmpNo X301.here hx rfl (hb hby at_427) rfl (teq (by decide : (2 : Int32) = (2 : Int32))).2 ?_
    show Steps p.tables e below (T301.setTop (mkF m 430 #[.val (.int p1), .val (.ref b1), .val (.ref b104), .val (.int (31 : Int32))] [])) t_
    refine XS.iconst X301.here hx rfl (hb hby at_430) ?_
    show Steps p.tables e below (T301.setTop (mkF m 431 #[.val (.int p1), .val (.ref b1), .val (.ref b104), .val (.int (31 : Int32))] [(.int (1 : Int32))])) t_
    refine XS.goto X301.here hx rfl (pc0 := 431) (pc' := 435) rfl (hb hby at_431) (by decide) (by decide) ?_
    exact k_
  obtain ⟨fs303, hr303, hrun303, hended303, hW303, hsame303⟩ := X301.leave (v := some (.int (1 : Int32))) (fun h => by rw [hret] at h; cases h)
  refine ⟨_, _, ?_, hrun303, hended303, _, _, rfl, ?_, ⟨_, rfl⟩, hW303, hsame303.mono (by decide) (by decide)⟩
  · exact retN X301 hx (t := .boolean) hret (by simp) (hb hby at_435) hr303
  · show Q_rm0 Z p1 ad0 ad1 ad2 ad3 ad4 ad5 ad6 ad7 ad8 ad9 ad10 ad11 ad12 ad13 ad14 ad15 ad16 ad17 ad18 ad19 ad20 ad21 ad22 ad23 ad24 ad25 ad26 ad27 ad28 ad29 ad30 ad31 ad32 ad33 h0 n0 _ T301.heap _
    rw [eh301]
    exact ⟨rfl, N301, Kc0⟩
set_option maxRecDepth 65536 in
set_option maxHeartbeats 40000000 in
theorem own_sufad32 (l : Launch) (Z : State) (a0 : Array Value) (hw : ∀ d ∈ tables_1, d.before a0 Z = true) (p1 : Int32) (ad0 : Addr) (ad1 : Addr) (ad2 : Addr) (ad3 : Addr) (ad4 : Addr) (ad5 : Addr) (ad6 : Addr) (ad7 : Addr) (ad8 : Addr) (ad9 : Addr) (ad10 : Addr) (ad11 : Addr) (ad12 : Addr) (ad13 : Addr) (ad14 : Addr) (ad15 : Addr) (ad16 : Addr) (ad17 : Addr) (ad18 : Addr) (ad19 : Addr) (ad20 : Addr) (ad21 : Addr) (ad22 : Addr) (ad23 : Addr) (ad24 : Addr) (ad25 : Addr) (ad26 : Addr) (ad27 : Addr) (ad28 : Addr) (ad29 : Addr) (ad30 : Addr) (ad31 : Addr) (ad32 : Addr) (ad33 : Addr) (b1 : Addr) (b104 : Addr) (k104 : ClassId) (h0 : Heap) (n0 : Nat) (Z0 : n0 ≤ h0.size) {p : Program} {e : Env} {s : State} {m : MethodId} {below : List Frame} {meth : Method} {c : Code} {Tc : State} {Hc : Heap} {locsc : List Loc} (Xc : Stand p l e room_1 s m #[(.int p1)] below meth c Tc locsc 2 68) (hx : p.tables.exec = Jvm.exec) (hZ : Z.Warmed39 s.vm) (hby : c.code = code) (hml : c.maxLocals = 4) (hown : s.vm.findClass "com/example/querent/querent/dicom/VrBinaryNumberLengthPinLaw" = some m.cls) (hret : meth.sig.returnType = some .boolean) (hlk : meth.locks = false) (hh : s.heap = h0) (ec : Tc.heap = Hc) (Nc : Fr n0 locsc) (Kc0 : Keep h0 Hc []) (Oc : Old Z n0 Hc) (zc0 : Exa Z Z.heap ad32 "com/example/querent/querent/dicom/Vr") (zc1 : Fld Z Z.heap ad32 "java/lang/Enum" "ordinal" "I" (.int (32 : Int32))) (zc2 : Arv Z Hc b104 k104 .int (34 : Int32) [(.int (0 : Int32)), (.int (0 : Int32)), (.int (0 : Int32)), (.int (0 : Int32)), (.int (0 : Int32)), (.int (0 : Int32)), (.int (0 : Int32)), (.int (8 : Int32)), (.int (4 : Int32)), (.int (0 : Int32)), (.int (0 : Int32)), (.int (0 : Int32)), (.int (0 : Int32)), (.int (0 : Int32)), (.int (0 : Int32)), (.int (0 : Int32)), (.int (0 : Int32)), (.int (0 : Int32)), (.int (0 : Int32)), (.int (0 : Int32)), (.int (4 : Int32)), (.int (0 : Int32)), (.int (2 : Int32)), (.int (0 : Int32)), (.int (8 : Int32)), (.int (0 : Int32)), (.int (0 : Int32)), (.int (0 : Int32)), (.int (4 : Int32)), (.int (0 : Int32)), (.int (0 : Int32)), (.int (2 : Int32)), (.int (0 : Int32)), (.int (8 : Int32))] (.int (0 : Int32))) (gc3 : n0 ≤ b104) (sc3 : h0.size ≤ b104) :
    ∃ U_ o_, Steps p.tables e below (Tc.setTop (mkF m 421 #[.val (.int p1), .val (.ref b1), .val (.ref b104), .val (.int (32 : Int32))] [(.ref ad32)])) U_ ∧ U_.status = .running ∧ Ended U_ below o_ ∧ (∃ v_ L_, o_ = .returned v_ ∧ Q_rm0 Z p1 ad0 ad1 ad2 ad3 ad4 ad5 ad6 ad7 ad8 ad9 ad10 ad11 ad12 ad13 ad14 ad15 ad16 ad17 ad18 ad19 ad20 ad21 ad22 ad23 ad24 ad25 ad26 ad27 ad28 ad29 ad30 ad31 ad32 ad33 h0 n0 v_ U_.heap L_ ∧ FrameEnd s o_ U_ L_ room_1.cells room_1.slots) := by
  obtain ⟨cq305, kq305, q305a, q305b, q305c⟩ := isOf hZ ec (zc0.ext Oc.2)
  obtain ⟨_, _, ⟨T305, L305, k305, n305⟩, -, X305, ⟨Lc305, hQ305, l305, y305, z305⟩, st305⟩ := Xc.virtualBack hx (y := own_y2) (z := own_y2) hown (mvT hZ (own_w hw 74 rfl)) (mvT hZ (own_w hw 75 rfl)) (notFace_of_selects (args := #[]) (mvT hZ (own_w hw 77 rfl))) (mvT hZ (own_w hw 77 rfl)) (mvT hZ (own_w hw 76 rfl)) (by decide) (backOf (W := 0) (rmMIn137 l Z a0 hw [] ad32 (32 : Int32) Hc n0 (Nat.le_trans Z0 Kc0.1) Oc zc0 zc1 (by decide) (by decide)) hZ (own_w hw 78 rfl) (own_w hw 3 rfl) (by decide) (by decide)) q305a q305c (g := (mkF m 421 #[.val (.int p1), .val (.ref b1), .val (.ref b104), .val (.int (32 : Int32))] [(.ref ad32)])) rfl (by rw [hml]; rfl) (Steps.refl _) (argsL := []) (rest := []) (lenOf pd_0 rfl) rfl (by show 2 * 0 + _ ≤ _; exact Nat.le_of_eq rfl) (hb hby at_421) (fun _ _ => ⟨rfl, ec, (by decide : 2 + 0 ≤ _), (by decide : 68 + 0 ≤ _)⟩)
  dsimp only [Pt.U, Pt.locs, Pt.cells, Pt.slots] at X305 l305 y305 z305 st305 hQ305
  subst l305 y305 z305
  obtain ⟨rfl, N305q, eh305⟩ := hQ305
  have N305 := Fr.app Nc N305q
  refine own_via st305 ?_
  obtain ⟨cl306, Ar306, q306, S306, M306, H306, G306⟩ := id zc2
  have hin306 : ¬ ((32 : Int32) < 0 ∨ cl306.slots.size ≤ ((32 : Int32)).toNatClampNeg) := inb_of S306 ⟨by decide, by decide⟩
  have hat306 : cl306.slots[((32 : Int32)).toNatClampNeg]? = some (.int (0 : Int32)) := Has.at H306 hin306 rfl
  refine own_go (A := T305.setTop (mkF m 435 #[.val (.int p1), .val (.ref b1), .val (.ref b104), .val (.int (32 : Int32))] [(.int (1 : Int32))])) (fun t_ k_ => ?_) ?_
  · show Steps p.tables e below (T305.setTop (mkF m 424 #[.val (.int p1), .val (.ref b1), .val (.ref b104), .val (.int (32 : Int32))] [(.int (0 : Int32))])) t_
    refine XS.aloadN X305.here hx rfl (hb hby at_424) rfl rfl ?_
    show Steps p.tables e below (T305.setTop (mkF m 425 #[.val (.int p1), .val (.ref b1), .val (.ref b104), .val (.int (32 : Int32))] [(.ref b104), (.int (0 : Int32))])) t_
    refine XS.iloadN X305.here hx rfl (hb hby at_425) rfl ?_
    show Steps p.tables e below (T305.setTop (mkF m 426 #[.val (.int p1), .val (.ref b1), .val (.ref b104), .val (.int (32 : Int32))] [(.int (32 : Int32)), (.ref b104), (.int (0 : Int32))])) t_
    refine X305.iaload hx (j := (32 : Int32)) (v := (.int (0 : Int32))) (by rw [eh305]; exact Ar306.1) (State.isArrayOf_alike hZ.alike Ar306.2.1) Ar306.2.2 hin306 hat306 (g := (mkF m 426 #[.val (.int p1), .val (.ref b1), .val (.ref b104), .val (.int (32 : Int32))] [(.int (32 : Int32)), (.ref b104), (.int (0 : Int32))])) rfl rfl (hb hby at_426) _ ?_
    show Steps p.tables e below (T305.setTop (mkF m 427 #[.val (.int p1), .val (.ref b1), .val (.ref b104), .val (.int (32 : Int32))] [(.int (0 : Int32)), (.int (0 : Int32))])) t_
    refine XS.icmpNo X305.here hx rfl (hb hby at_427) rfl (teq (by decide : (0 : Int32) = (0 : Int32))).2 ?_
    show Steps p.tables e below (T305.setTop (mkF m 430 #[.val (.int p1), .val (.ref b1), .val (.ref b104), .val (.int (32 : Int32))] [])) t_
    refine XS.iconst X305.here hx rfl (hb hby at_430) ?_
    show Steps p.tables e below (T305.setTop (mkF m 431 #[.val (.int p1), .val (.ref b1), .val (.ref b104), .val (.int (32 : Int32))] [(.int (1 : Int32))])) t_
    refine XS.goto X305.here hx rfl (pc0 := 431) (pc' := 435) rfl (hb hby at_431) (by decide) (by decide) ?_
    exact k_
  obtain ⟨fs307, hr307, hrun307, hended307, hW307, hsame307⟩ := X305.leave (v := some (.int (1 : Int32))) (fun h => by rw [hret] at h; cases h)
  refine ⟨_, _, ?_, hrun307, hended307, _, _, rfl, ?_, ⟨_, rfl⟩, hW307, hsame307.mono (by decide) (by decide)⟩
  · exact retN X305 hx (t := .boolean) hret (by simp) (hb hby at_435) hr307
  · show Q_rm0 Z p1 ad0 ad1 ad2 ad3 ad4 ad5 ad6 ad7 ad8 ad9 ad10 ad11 ad12 ad13 ad14 ad15 ad16 ad17 ad18 ad19 ad20 ad21 ad22 ad23 ad24 ad25 ad26 ad27 ad28 ad29 ad30 ad31 ad32 ad33 h0 n0 _ T305.heap _
    rw [eh305]
    exact ⟨rfl, N305, Kc0⟩
set_option maxRecDepth 65536 in
set_option maxHeartbeats 40000000 in
theorem own_sufad33 (l : Launch) (Z : State) (a0 : Array Value) (hw : ∀ d ∈ tables_1, d.before a0 Z = true) (p1 : Int32) (ad0 : Addr) (ad1 : Addr) (ad2 : Addr) (ad3 : Addr) (ad4 : Addr) (ad5 : Addr) (ad6 : Addr) (ad7 : Addr) (ad8 : Addr) (ad9 : Addr) (ad10 : Addr) (ad11 : Addr) (ad12 : Addr) (ad13 : Addr) (ad14 : Addr) (ad15 : Addr) (ad16 : Addr) (ad17 : Addr) (ad18 : Addr) (ad19 : Addr) (ad20 : Addr) (ad21 : Addr) (ad22 : Addr) (ad23 : Addr) (ad24 : Addr) (ad25 : Addr) (ad26 : Addr) (ad27 : Addr) (ad28 : Addr) (ad29 : Addr) (ad30 : Addr) (ad31 : Addr) (ad32 : Addr) (ad33 : Addr) (b1 : Addr) (b104 : Addr) (k104 : ClassId) (h0 : Heap) (n0 : Nat) (Z0 : n0 ≤ h0.size) {p : Program} {e : Env} {s : State} {m : MethodId} {below : List Frame} {meth : Method} {c : Code} {Tc : State} {Hc : Heap} {locsc : List Loc} (Xc : Stand p l e room_1 s m #[(.int p1)] below meth c Tc locsc 2 68) (hx : p.tables.exec = Jvm.exec) (hZ : Z.Warmed39 s.vm) (hby : c.code = code) (hml : c.maxLocals = 4) (hown : s.vm.findClass "com/example/querent/querent/dicom/VrBinaryNumberLengthPinLaw" = some m.cls) (hret : meth.sig.returnType = some .boolean) (hlk : meth.locks = false) (hh : s.heap = h0) (ec : Tc.heap = Hc) (Nc : Fr n0 locsc) (Kc0 : Keep h0 Hc []) (Oc : Old Z n0 Hc) (zc0 : Exa Z Z.heap ad33 "com/example/querent/querent/dicom/Vr") (zc1 : Fld Z Z.heap ad33 "java/lang/Enum" "ordinal" "I" (.int (33 : Int32))) (zc2 : Arv Z Hc b104 k104 .int (34 : Int32) [(.int (0 : Int32)), (.int (0 : Int32)), (.int (0 : Int32)), (.int (0 : Int32)), (.int (0 : Int32)), (.int (0 : Int32)), (.int (0 : Int32)), (.int (8 : Int32)), (.int (4 : Int32)), (.int (0 : Int32)), (.int (0 : Int32)), (.int (0 : Int32)), (.int (0 : Int32)), (.int (0 : Int32)), (.int (0 : Int32)), (.int (0 : Int32)), (.int (0 : Int32)), (.int (0 : Int32)), (.int (0 : Int32)), (.int (0 : Int32)), (.int (4 : Int32)), (.int (0 : Int32)), (.int (2 : Int32)), (.int (0 : Int32)), (.int (8 : Int32)), (.int (0 : Int32)), (.int (0 : Int32)), (.int (0 : Int32)), (.int (4 : Int32)), (.int (0 : Int32)), (.int (0 : Int32)), (.int (2 : Int32)), (.int (0 : Int32)), (.int (8 : Int32))] (.int (0 : Int32))) (gc3 : n0 ≤ b104) (sc3 : h0.size ≤ b104) :
    ∃ U_ o_, Steps p.tables e below (Tc.setTop (mkF m 421 #[.val (.int p1), .val (.ref b1), .val (.ref b104), .val (.int (33 : Int32))] [(.ref ad33)])) U_ ∧ U_.status = .running ∧ Ended U_ below o_ ∧ (∃ v_ L_, o_ = .returned v_ ∧ Q_rm0 Z p1 ad0 ad1 ad2 ad3 ad4 ad5 ad6 ad7 ad8 ad9 ad10 ad11 ad12 ad13 ad14 ad15 ad16 ad17 ad18 ad19 ad20 ad21 ad22 ad23 ad24 ad25 ad26 ad27 ad28 ad29 ad30 ad31 ad32 ad33 h0 n0 v_ U_.heap L_ ∧ FrameEnd s o_ U_ L_ room_1.cells room_1.slots) := by
  obtain ⟨cq309, kq309, q309a, q309b, q309c⟩ := isOf hZ ec (zc0.ext Oc.2)
  obtain ⟨_, _, ⟨T309, L309, k309, n309⟩, -, X309, ⟨Lc309, hQ309, l309, y309, z309⟩, st309⟩ := Xc.virtualBack hx (y := own_y2) (z := own_y2) hown (mvT hZ (own_w hw 74 rfl)) (mvT hZ (own_w hw 75 rfl)) (notFace_of_selects (args := #[]) (mvT hZ (own_w hw 77 rfl))) (mvT hZ (own_w hw 77 rfl)) (mvT hZ (own_w hw 76 rfl)) (by decide) (backOf (W := 0) (rmMIn132 l Z a0 hw [] ad33 (33 : Int32) Hc n0 (Nat.le_trans Z0 Kc0.1) Oc zc0 zc1 (by decide) (by decide)) hZ (own_w hw 78 rfl) (own_w hw 3 rfl) (by decide) (by decide)) q309a q309c (g := (mkF m 421 #[.val (.int p1), .val (.ref b1), .val (.ref b104), .val (.int (33 : Int32))] [(.ref ad33)])) rfl (by rw [hml]; rfl) (Steps.refl _) (argsL := []) (rest := []) (lenOf pd_0 rfl) rfl (by show 2 * 0 + _ ≤ _; exact Nat.le_of_eq rfl) (hb hby at_421) (fun _ _ => ⟨rfl, ec, (by decide : 2 + 0 ≤ _), (by decide : 68 + 0 ≤ _)⟩)
  dsimp only [Pt.U, Pt.locs, Pt.cells, Pt.slots] at X309 l309 y309 z309 st309 hQ309
  subst l309 y309 z309
  obtain ⟨rfl, N309q, eh309⟩ := hQ309
  have N309 := Fr.app Nc N309q
  refine own_via st309 ?_
  obtain ⟨cl310, Ar310, q310, S310, M310, H310, G310⟩ := id zc2
  have hin310 : ¬ ((33 : Int32) < 0 ∨ cl310.slots.size ≤ ((33 : Int32)).toNatClampNeg) := inb_of S310 ⟨by decide, by decide⟩
  have hat310 : cl310.slots[((33 : Int32)).toNatClampNeg]? = some (.int (8 : Int32)) := Has.at H310 hin310 rfl
  refine own_go (A := T309.setTop (mkF m 435 #[.val (.int p1), .val (.ref b1), .val (.ref b104), .val (.int (33 : Int32))] [(.int (1 : Int32))])) (fun t_ k_ => ?_) ?_
  · show Steps p.tables e below (T309.setTop (mkF m 424 #[.val (.int p1), .val (.ref b1), .val (.ref b104), .val (.int (33 : Int32))] [(.int (8 : Int32))])) t_
    refine XS.aloadN X309.here hx rfl (hb hby at_424) rfl rfl ?_
    show Steps p.tables e below (T309.setTop (mkF m 425 #[.val (.int p1), .val (.ref b1), .val (.ref b104), .val (.int (33 : Int32))] [(.ref b104), (.int (8 : Int32))])) t_
    refine XS.iloadN X309.here hx rfl (hb hby at_425) rfl ?_
    show Steps p.tables e below (T309.setTop (mkF m 426 #[.val (.int p1), .val (.ref b1), .val (.ref b104), .val (.int (33 : Int32))] [(.int (33 : Int32)), (.ref b104), (.int (8 : Int32))])) t_
    refine X309.iaload hx (j := (33 : Int32)) (v := (.int (8 : Int32))) (by rw [eh309]; exact Ar310.1) (State.isArrayOf_alike hZ.alike Ar310.2.1) Ar310.2.2 hin310 hat310 (g := (mkF m 426 #[.val (.int p1), .val (.ref b1), .val (.ref b104), .val (.int (33 : Int32))] [(.int (33 : Int32)), (.ref b104), (.int (8 : Int32))])) rfl rfl (hb hby at_426) _ ?_
    show Steps p.tables e below (T309.setTop (mkF m 427 #[.val (.int p1), .val (.ref b1), .val (.ref b104), .val (.int (33 : Int32))] [(.int (8 : Int32)), (.int (8 : Int32))])) t_
    refine XS.icmpNo X309.here hx rfl (hb hby at_427) rfl (teq (by decide : (8 : Int32) = (8 : Int32))).2 ?_
    show Steps p.tables e below (T309.setTop (mkF m 430 #[.val (.int p1), .val (.ref b1), .val (.ref b104), .val (.int (33 : Int32))] [])) t_
    refine XS.iconst X309.here hx rfl (hb hby at_430) ?_
    show Steps p.tables e below (T309.setTop (mkF m 431 #[.val (.int p1), .val (.ref b1), .val (.ref b104), .val (.int (33 : Int32))] [(.int (1 : Int32))])) t_
    refine XS.goto X309.here hx rfl (pc0 := 431) (pc' := 435) rfl (hb hby at_431) (by decide) (by decide) ?_
    exact k_
  obtain ⟨fs311, hr311, hrun311, hended311, hW311, hsame311⟩ := X309.leave (v := some (.int (1 : Int32))) (fun h => by rw [hret] at h; cases h)
  refine ⟨_, _, ?_, hrun311, hended311, _, _, rfl, ?_, ⟨_, rfl⟩, hW311, hsame311.mono (by decide) (by decide)⟩
  · exact retN X309 hx (t := .boolean) hret (by simp) (hb hby at_435) hr311
  · show Q_rm0 Z p1 ad0 ad1 ad2 ad3 ad4 ad5 ad6 ad7 ad8 ad9 ad10 ad11 ad12 ad13 ad14 ad15 ad16 ad17 ad18 ad19 ad20 ad21 ad22 ad23 ad24 ad25 ad26 ad27 ad28 ad29 ad30 ad31 ad32 ad33 h0 n0 _ T309.heap _
    rw [eh309]
    exact ⟨rfl, N309, Kc0⟩
theorem ef_rm0 (m : MethodId) (p1 : Int32) : entryFrame m #[(.int p1)] maxLocals = mkF m 0 #[.val (.int p1), .unset, .unset, .unset] [] := by first | (simp [entryFrame, mkF, argsToLocals, Value.category, maxLocals]; done) | rfl
theorem pn_2 : plainName "com/example/querent/querent/dicom/VrBinaryNumberLengthPinLaw" = true := by first | (simp [plainName, overriddenIn]; done) | decide +kernel
set_option maxRecDepth 65536 in
set_option maxHeartbeats 40000000 in
theorem rm0 (l : Launch) (Z : State) (a0 : Array Value) (hw : ∀ d ∈ tables_1, d.before a0 Z = true) (ws : List Jvm.Cond) (p1 : Int32) (ad0 : Addr) (ad1 : Addr) (ad2 : Addr) (ad3 : Addr) (ad4 : Addr) (ad5 : Addr) (ad6 : Addr) (ad7 : Addr) (ad8 : Addr) (ad9 : Addr) (ad10 : Addr) (ad11 : Addr) (ad12 : Addr) (ad13 : Addr) (ad14 : Addr) (ad15 : Addr) (ad16 : Addr) (ad17 : Addr) (ad18 : Addr) (ad19 : Addr) (ad20 : Addr) (ad21 : Addr) (ad22 : Addr) (ad23 : Addr) (ad24 : Addr) (ad25 : Addr) (ad26 : Addr) (ad27 : Addr) (ad28 : Addr) (ad29 : Addr) (ad30 : Addr) (ad31 : Addr) (ad32 : Addr) (ad33 : Addr) (h0 : Heap) (n0 : Nat) (Z0 : n0 ≤ h0.size) (O0 : Old Z n0 h0) (u1 : Sta Z Z.heap "com/example/querent/querent/dicom/Vr" "AE" "Lcom/example/querent/querent/dicom/Vr;" (.ref ad0)) (u2 : Exa Z Z.heap ad0 "com/example/querent/querent/dicom/Vr") (u3 : Fld Z Z.heap ad0 "java/lang/Enum" "ordinal" "I" (.int (0 : Int32))) (u4 : Sta Z Z.heap "com/example/querent/querent/dicom/Vr" "AS" "Lcom/example/querent/querent/dicom/Vr;" (.ref ad1)) (u5 : Exa Z Z.heap ad1 "com/example/querent/querent/dicom/Vr") (u6 : Fld Z Z.heap ad1 "java/lang/Enum" "ordinal" "I" (.int (1 : Int32))) (u7 : Sta Z Z.heap "com/example/querent/querent/dicom/Vr" "AT" "Lcom/example/querent/querent/dicom/Vr;" (.ref ad2)) (u8 : Exa Z Z.heap ad2 "com/example/querent/querent/dicom/Vr") (u9 : Fld Z Z.heap ad2 "java/lang/Enum" "ordinal" "I" (.int (2 : Int32))) (u10 : Sta Z Z.heap "com/example/querent/querent/dicom/Vr" "CS" "Lcom/example/querent/querent/dicom/Vr;" (.ref ad3)) (u11 : Exa Z Z.heap ad3 "com/example/querent/querent/dicom/Vr") (u12 : Fld Z Z.heap ad3 "java/lang/Enum" "ordinal" "I" (.int (3 : Int32))) (u13 : Sta Z Z.heap "com/example/querent/querent/dicom/Vr" "DA" "Lcom/example/querent/querent/dicom/Vr;" (.ref ad4)) (u14 : Exa Z Z.heap ad4 "com/example/querent/querent/dicom/Vr") (u15 : Fld Z Z.heap ad4 "java/lang/Enum" "ordinal" "I" (.int (4 : Int32))) (u16 : Sta Z Z.heap "com/example/querent/querent/dicom/Vr" "DS" "Lcom/example/querent/querent/dicom/Vr;" (.ref ad5)) (u17 : Exa Z Z.heap ad5 "com/example/querent/querent/dicom/Vr") (u18 : Fld Z Z.heap ad5 "java/lang/Enum" "ordinal" "I" (.int (5 : Int32))) (u19 : Sta Z Z.heap "com/example/querent/querent/dicom/Vr" "DT" "Lcom/example/querent/querent/dicom/Vr;" (.ref ad6)) (u20 : Exa Z Z.heap ad6 "com/example/querent/querent/dicom/Vr") (u21 : Fld Z Z.heap ad6 "java/lang/Enum" "ordinal" "I" (.int (6 : Int32))) (u22 : Sta Z Z.heap "com/example/querent/querent/dicom/Vr" "FD" "Lcom/example/querent/querent/dicom/Vr;" (.ref ad7)) (u23 : Exa Z Z.heap ad7 "com/example/querent/querent/dicom/Vr") (u24 : Fld Z Z.heap ad7 "java/lang/Enum" "ordinal" "I" (.int (7 : Int32))) (u25 : Sta Z Z.heap "com/example/querent/querent/dicom/Vr" "FL" "Lcom/example/querent/querent/dicom/Vr;" (.ref ad8)) (u26 : Exa Z Z.heap ad8 "com/example/querent/querent/dicom/Vr") (u27 : Fld Z Z.heap ad8 "java/lang/Enum" "ordinal" "I" (.int (8 : Int32))) (u28 : Sta Z Z.heap "com/example/querent/querent/dicom/Vr" "IS" "Lcom/example/querent/querent/dicom/Vr;" (.ref ad9)) (u29 : Exa Z Z.heap ad9 "com/example/querent/querent/dicom/Vr") (u30 : Fld Z Z.heap ad9 "java/lang/Enum" "ordinal" "I" (.int (9 : Int32))) (u31 : Sta Z Z.heap "com/example/querent/querent/dicom/Vr" "LO" "Lcom/example/querent/querent/dicom/Vr;" (.ref ad10)) (u32 : Exa Z Z.heap ad10 "com/example/querent/querent/dicom/Vr") (u33 : Fld Z Z.heap ad10 "java/lang/Enum" "ordinal" "I" (.int (10 : Int32))) (u34 : Sta Z Z.heap "com/example/querent/querent/dicom/Vr" "LT" "Lcom/example/querent/querent/dicom/Vr;" (.ref ad11)) (u35 : Exa Z Z.heap ad11 "com/example/querent/querent/dicom/Vr") (u36 : Fld Z Z.heap ad11 "java/lang/Enum" "ordinal" "I" (.int (11 : Int32))) (u37 : Sta Z Z.heap "com/example/querent/querent/dicom/Vr" "OB" "Lcom/example/querent/querent/dicom/Vr;" (.ref ad12)) (u38 : Exa Z Z.heap ad12 "com/example/querent/querent/dicom/Vr") (u39 : Fld Z Z.heap ad12 "java/lang/Enum" "ordinal" "I" (.int (12 : Int32))) (u40 : Sta Z Z.heap "com/example/querent/querent/dicom/Vr" "OD" "Lcom/example/querent/querent/dicom/Vr;" (.ref ad13)) (u41 : Exa Z Z.heap ad13 "com/example/querent/querent/dicom/Vr") (u42 : Fld Z Z.heap ad13 "java/lang/Enum" "ordinal" "I" (.int (13 : Int32))) (u43 : Sta Z Z.heap "com/example/querent/querent/dicom/Vr" "OF" "Lcom/example/querent/querent/dicom/Vr;" (.ref ad14)) (u44 : Exa Z Z.heap ad14 "com/example/querent/querent/dicom/Vr") (u45 : Fld Z Z.heap ad14 "java/lang/Enum" "ordinal" "I" (.int (14 : Int32))) (u46 : Sta Z Z.heap "com/example/querent/querent/dicom/Vr" "OL" "Lcom/example/querent/querent/dicom/Vr;" (.ref ad15)) (u47 : Exa Z Z.heap ad15 "com/example/querent/querent/dicom/Vr") (u48 : Fld Z Z.heap ad15 "java/lang/Enum" "ordinal" "I" (.int (15 : Int32))) (u49 : Sta Z Z.heap "com/example/querent/querent/dicom/Vr" "OV" "Lcom/example/querent/querent/dicom/Vr;" (.ref ad16)) (u50 : Exa Z Z.heap ad16 "com/example/querent/querent/dicom/Vr") (u51 : Fld Z Z.heap ad16 "java/lang/Enum" "ordinal" "I" (.int (16 : Int32))) (u52 : Sta Z Z.heap "com/example/querent/querent/dicom/Vr" "OW" "Lcom/example/querent/querent/dicom/Vr;" (.ref ad17)) (u53 : Exa Z Z.heap ad17 "com/example/querent/querent/dicom/Vr") (u54 : Fld Z Z.heap ad17 "java/lang/Enum" "ordinal" "I" (.int (17 : Int32))) (u55 : Sta Z Z.heap "com/example/querent/querent/dicom/Vr" "PN" "Lcom/example/querent/querent/dicom/Vr;" (.ref ad18)) (u56 : Exa Z Z.heap ad18 "com/example/querent/querent/dicom/Vr") (u57 : Fld Z Z.heap ad18 "java/lang/Enum" "ordinal" "I" (.int (18 : Int32))) (u58 : Sta Z Z.heap "com/example/querent/querent/dicom/Vr" "SH" "Lcom/example/querent/querent/dicom/Vr;" (.ref ad19)) (u59 : Exa Z Z.heap ad19 "com/example/querent/querent/dicom/Vr") (u60 : Fld Z Z.heap ad19 "java/lang/Enum" "ordinal" "I" (.int (19 : Int32))) (u61 : Sta Z Z.heap "com/example/querent/querent/dicom/Vr" "SL" "Lcom/example/querent/querent/dicom/Vr;" (.ref ad20)) (u62 : Exa Z Z.heap ad20 "com/example/querent/querent/dicom/Vr") (u63 : Fld Z Z.heap ad20 "java/lang/Enum" "ordinal" "I" (.int (20 : Int32))) (u64 : Sta Z Z.heap "com/example/querent/querent/dicom/Vr" "SQ" "Lcom/example/querent/querent/dicom/Vr;" (.ref ad21)) (u65 : Exa Z Z.heap ad21 "com/example/querent/querent/dicom/Vr") (u66 : Fld Z Z.heap ad21 "java/lang/Enum" "ordinal" "I" (.int (21 : Int32))) (u67 : Sta Z Z.heap "com/example/querent/querent/dicom/Vr" "SS" "Lcom/example/querent/querent/dicom/Vr;" (.ref ad22)) (u68 : Exa Z Z.heap ad22 "com/example/querent/querent/dicom/Vr") (u69 : Fld Z Z.heap ad22 "java/lang/Enum" "ordinal" "I" (.int (22 : Int32))) (u70 : Sta Z Z.heap "com/example/querent/querent/dicom/Vr" "ST" "Lcom/example/querent/querent/dicom/Vr;" (.ref ad23)) (u71 : Exa Z Z.heap ad23 "com/example/querent/querent/dicom/Vr") (u72 : Fld Z Z.heap ad23 "java/lang/Enum" "ordinal" "I" (.int (23 : Int32))) (u73 : Sta Z Z.heap "com/example/querent/querent/dicom/Vr" "SV" "Lcom/example/querent/querent/dicom/Vr;" (.ref ad24)) (u74 : Exa Z Z.heap ad24 "com/example/querent/querent/dicom/Vr") (u75 : Fld Z Z.heap ad24 "java/lang/Enum" "ordinal" "I" (.int (24 : Int32))) (u76 : Sta Z Z.heap "com/example/querent/querent/dicom/Vr" "TM" "Lcom/example/querent/querent/dicom/Vr;" (.ref ad25)) (u77 : Exa Z Z.heap ad25 "com/example/querent/querent/dicom/Vr") (u78 : Fld Z Z.heap ad25 "java/lang/Enum" "ordinal" "I" (.int (25 : Int32))) (u79 : Sta Z Z.heap "com/example/querent/querent/dicom/Vr" "UC" "Lcom/example/querent/querent/dicom/Vr;" (.ref ad26)) (u80 : Exa Z Z.heap ad26 "com/example/querent/querent/dicom/Vr") (u81 : Fld Z Z.heap ad26 "java/lang/Enum" "ordinal" "I" (.int (26 : Int32))) (u82 : Sta Z Z.heap "com/example/querent/querent/dicom/Vr" "UI" "Lcom/example/querent/querent/dicom/Vr;" (.ref ad27)) (u83 : Exa Z Z.heap ad27 "com/example/querent/querent/dicom/Vr") (u84 : Fld Z Z.heap ad27 "java/lang/Enum" "ordinal" "I" (.int (27 : Int32))) (u85 : Sta Z Z.heap "com/example/querent/querent/dicom/Vr" "UL" "Lcom/example/querent/querent/dicom/Vr;" (.ref ad28)) (u86 : Exa Z Z.heap ad28 "com/example/querent/querent/dicom/Vr") (u87 : Fld Z Z.heap ad28 "java/lang/Enum" "ordinal" "I" (.int (28 : Int32))) (u88 : Sta Z Z.heap "com/example/querent/querent/dicom/Vr" "UN" "Lcom/example/querent/querent/dicom/Vr;" (.ref ad29)) (u89 : Exa Z Z.heap ad29 "com/example/querent/querent/dicom/Vr") (u90 : Fld Z Z.heap ad29 "java/lang/Enum" "ordinal" "I" (.int (29 : Int32))) (u91 : Sta Z Z.heap "com/example/querent/querent/dicom/Vr" "UR" "Lcom/example/querent/querent/dicom/Vr;" (.ref ad30)) (u92 : Exa Z Z.heap ad30 "com/example/querent/querent/dicom/Vr") (u93 : Fld Z Z.heap ad30 "java/lang/Enum" "ordinal" "I" (.int (30 : Int32))) (u94 : Sta Z Z.heap "com/example/querent/querent/dicom/Vr" "US" "Lcom/example/querent/querent/dicom/Vr;" (.ref ad31)) (u95 : Exa Z Z.heap ad31 "com/example/querent/querent/dicom/Vr") (u96 : Fld Z Z.heap ad31 "java/lang/Enum" "ordinal" "I" (.int (31 : Int32))) (u97 : Sta Z Z.heap "com/example/querent/querent/dicom/Vr" "UT" "Lcom/example/querent/querent/dicom/Vr;" (.ref ad32)) (u98 : Exa Z Z.heap ad32 "com/example/querent/querent/dicom/Vr") (u99 : Fld Z Z.heap ad32 "java/lang/Enum" "ordinal" "I" (.int (32 : Int32))) (u100 : Sta Z Z.heap "com/example/querent/querent/dicom/Vr" "UV" "Lcom/example/querent/querent/dicom/Vr;" (.ref ad33)) (u101 : Exa Z Z.heap ad33 "com/example/querent/querent/dicom/Vr") (u102 : Fld Z Z.heap ad33 "java/lang/Enum" "ordinal" "I" (.int (33 : Int32))) :
    MetFree l x (head1 (Jvm.Cond.code x code maxLocals ret :: ws) room_1) (fun a_ U_ => a_ = #[(.int p1)] ∧ Z.Warmed39 U_.vm ∧ U_.heap = h0) (fun _ _ _ _ _ => True) (fun _ U_ o_ U2_ => ∃ v_ L_, o_ = .returned v_ ∧ Q_rm0 Z p1 ad0 ad1 ad2 ad3 ad4 ad5 ad6 ad7 ad8 ad9 ad10 ad11 ad12 ad13 ad14 ad15 ad16 ad17 ad18 ad19 ad20 ad21 ad22 ad23 ad24 ad25 ad26 ad27 ad28 ad29 ad30 ad31 ad32 ad33 h0 n0 v_ U2_.heap L_ ∧ FrameEnd U_ o_ U2_ L_ room_1.cells room_1.slots) := by
  refine MetFree.of_bodySF (plainFor_of_name pn_2) hisR ?_
  intro p e s m args below meth c s₁ Bd hml0 hP hK
  obtain ⟨rfl, hZ, hh⟩ := hP
  have hx := Bd.exec
  have hby := Bd.bytes
  have hml : c.maxLocals = 4 := hml0
  have hown : s.vm.findClass "com/example/querent/querent/dicom/VrBinaryNumberLengthPinLaw" = some m.cls := findClass_of_methodNamed Bd.named
  have hnm := (name_of_methodNamed Bd.named Bd.method).1
  have X0 : Stand p l e room_1 s m #[(.int p1)] below meth c s₁ [] 0 0 := Stand.of_body Bd
  have e0 : s₁.heap = h0 := by rw [← hh, Bd.state]; rfl
  have N0 := Fr.nil n0
  refine own_go (A := s₁.setTop (mkF m 0 #[.val (.int p1), .unset, .unset, .unset] [])) (fun t_ k_ => castTop (ef_rm0 m p1) k_) ?_
  refine own_go (A := s₁.setTop (mkF m 2 #[.val (.int p1), .unset, .unset, .unset] [(.int (34 : Int32))])) (fun t_ k_ => ?_) ?_
  · show Steps p.tables e below (s₁.setTop (mkF m 0 #[.val (.int p1), .unset, .unset, .unset] [])) t_
    refine XS.bipush X0.here hx rfl (hb hby at_0) ?_
    exact k_
  obtain ⟨T1, h1, k1, X1, e1, E1, A1, V1, st1⟩ := newR X0 hx hZ hown (own_w hw 0 rfl) (own_w hw 1 rfl) e0 (g := (mkF m 2 #[.val (.int p1), .unset, .unset, .unset] [(.int (34 : Int32))])) rfl (hb hby at_2) rfl (by decide) (cap := 34) (by decide) (by decide) (by decide) (by decide)
  obtain ⟨b1, g1⟩ : ∃ z, z = h0.size := ⟨_, rfl⟩
  rw [← g1] at A1 st1
  refine own_go st1 ?_
  have K1 : Keep h0 h1 [] := (Keep.refl h0 []).ext E1
  have O1 := O0.ext E1
  have B1 : Arv Z h1 b1 k1 (.object "com/example/querent/querent/dicom/Vr") (34 : Int32) [.null, .null, .null, .null, .null, .null, .null, .null, .null, .null, .null, .null, .null, .null, .null, .null, .null, .null, .null, .null, .null, .null, .null, .null, .null, .null, .null, .null, .null, .null, .null, .null, .null, .null] .null := (Arv.new A1 (by decide)).pad (pad_rep [] .null 34)
  refine own_go (A := T1.setTop (mkF m 7 #[.val (.int p1), .unset, .unset, .unset] [(.int (0 : Int32)), (.ref b1), (.ref b1)])) (fun t_ k_ => ?_) ?_
  · show Steps p.tables e below (T1.setTop (mkF m 5 #[.val (.int p1), .unset, .unset, .unset] [(.ref b1)])) t_
    refine XS.dup X1.here hx rfl (hb hby at_5) rfl rfl ?_
    show Steps p.tables e below (T1.setTop (mkF m 6 #[.val (.int p1), .unset, .unset, .unset] [(.ref b1), (.ref b1)])) t_
    refine XS.iconst X1.here hx rfl (hb hby at_6) ?_
    exact k_
  obtain ⟨T2, X2, e2, st2⟩ := getS2 X1 hx hZ hown (host := "") (Or.inl (own_w hw 2 rfl)) Via.refl e1 (u1.ext O1.2) (g := (mkF m 7 #[.val (.int p1), .unset, .unset, .unset] [(.int (0 : Int32)), (.ref b1), (.ref b1)])) rfl (hb hby at_7)
  refine own_go st2 ?_
  obtain ⟨cl3, Ar3, q3, S3, M3, H3, G3⟩ := id B1
  have hin3 : ¬ ((0 : Int32) < 0 ∨ cl3.slots.size ≤ ((0 : Int32)).toNatClampNeg) := inb_of S3 ⟨by decide, by decide⟩
  obtain ⟨T4, h4, X4, e4, W4, st4⟩ := stR X2 hx hZ e2 Ar3 (j := (0 : Int32)) hin3 rfl (Sto.ofV Ar3 q3 V1 (Ins.self (u2.ext O1.2))) (g := (mkF m 10 #[.val (.int p1), .unset, .unset, .unset] [(.ref ad0), (.int (0 : Int32)), (.ref b1), (.ref b1)])) rfl rfl (hb hby at_10)
  have B4 : Arv Z h4 b1 k1 (.object "com/example/querent/querent/dicom/Vr") (34 : Int32) [(.ref ad0), .null, .null, .null, .null, .null, .null, .null, .null, .null, .null, .null, .null, .null, .null, .null, .null, .null, .null, .null, .null, .null, .null, .null, .null, .null, .null, .null, .null, .null, .null, .null, .null, .null] .null := Arv.set Ar3 q3 S3 M3 H3 G3 rfl W4 0 rfl (Nat.le_of_ble_eq_true rfl)
  refine own_go st4 ?_
  have K4 : Keep h0 h4 [] := K1.wr W4 (Or.inr (Nat.le_of_eq g1.symm))
  have O4 := O1.wr W4 (Nat.le_trans Z0 (Nat.le_of_eq g1.symm))
  have N4 := Fr.snoc X4 N0 (Nat.le_trans Z0 (Nat.le_of_eq g1.symm))
  refine own_go (A := T4.setTop (mkF m 13 #[.val (.int p1), .unset, .unset, .unset] [(.int (1 : Int32)), (.ref b1), (.ref b1)])) (fun t_ k_ => ?_) ?_
  · show Steps p.tables e below (T4.setTop (mkF m 11 #[.val (.int p1), .unset, .unset, .unset] [(.ref b1)])) t_
    refine XS.dup X4.here hx rfl (hb hby at_11) rfl rfl ?_
    show Steps p.tables e below (T4.setTop (mkF m 12 #[.val (.int p1), .unset, .unset, .unset] [(.ref b1), (.ref b1)])) t_
    refine XS.iconst X4.here hx rfl (hb hby at_12) ?_
    exact k_
  obtain ⟨T5, X5, e5, st5⟩ := getS2 X4 hx hZ hown (host := "") (Or.inl (own_w hw 6 rfl)) Via.refl e4 (u4.ext O4.2) (g := (mkF m 13 #[.val (.int p1), .unset, .unset, .unset] [(.int (1 : Int32)), (.ref b1), (.ref b1)])) rfl (hb hby at_13)
  refine own_go st5 ?_
  obtain ⟨cl6, Ar6, q6, S6, M6, H6, G6⟩ := id B4
  have hin6 : ¬ ((1 : Int32) < 0 ∨ cl6.slots.size ≤ ((1 : Int32)).toNatClampNeg) := inb_of S6 ⟨by decide, by decide⟩
  obtain ⟨T7, h7, X7, e7, W7, st7⟩ := stR X5 hx hZ e5 Ar6 (j := (1 : Int32)) hin6 rfl (Sto.ofV Ar6 q6 V1 (Ins.self (u5.ext O4.2))) (g := (mkF m 16 #[.val (.int p1), .unset, .unset, .unset] [(.ref ad1), (.int (1 : Int32)), (.ref b1), (.ref b1)])) rfl rfl (hb hby at_16)
  have B7 : Arv Z h7 b1 k1 (.object "com/example/querent/querent/dicom/Vr") (34 : Int32) [(.ref ad0), (.ref ad1), .null, .null, .null, .null, .null, .null, .null, .null, .null, .null, .null, .null, .null, .null, .null, .null, .null, .null, .null, .null, .null, .null, .null, .null, .null, .null, .null, .null, .null, .null, .null, .null] .null := Arv.set Ar6 q6 S6 M6 H6 G6 rfl W7 1 rfl (Nat.le_of_ble_eq_true rfl)
  refine own_go st7 ?_
  have K7 : Keep h0 h7 [] := K4.wr W7 (Or.inr (Nat.le_of_eq g1.symm))
  have O7 := O4.wr W7 (Nat.le_trans Z0 (Nat.le_of_eq g1.symm))
  have N7 := Fr.snoc X7 N4 (Nat.le_trans Z0 (Nat.le_of_eq g1.symm))
  refine own_go (A := T7.setTop (mkF m 19 #[.val (.int p1), .unset, .unset, .unset] [(.int (2 : Int32)), (.ref b1), (.ref b1)])) (fun t_ k_ => ?_) ?_
  · show Steps p.tables e below (T7.setTop (mkF m 17 #[.val (.int p1), .unset, .unset, .unset] [(.ref b1)])) t_
    refine XS.dup X7.here hx rfl (hb hby at_17) rfl rfl ?_
    show Steps p.tables e below (T7.setTop (mkF m 18 #[.val (.int p1), .unset, .unset, .unset] [(.ref b1), (.ref b1)])) t_
    refine XS.iconst X7.here hx rfl (hb hby at_18) ?_
    exact k_
  obtain ⟨T8, X8, e8, st8⟩ := getS2 X7 hx hZ hown (host := "") (Or.inl (own_w hw 8 rfl)) Via.refl e7 (u7.ext O7.2) (g := (mkF m 19 #[.val (.int p1), .unset, .unset, .unset] [(.int (2 : Int32)), (.ref b1), (.ref b1)])) rfl (hb hby at_19)
  refine own_go st8 ?_
  obtain ⟨cl9, Ar9, q9, S9, M9, H9, G9⟩ := id B7
  have hin9 : ¬ ((2 : Int32) < 0 ∨ cl9.slots.size ≤ ((2 : Int32)).toNatClampNeg) := inb_of S9 ⟨by decide, by decide⟩
  obtain ⟨T10, h10, X10, e10, W10, st10⟩ := stR X8 hx hZ e8 Ar9 (j := (2 : Int32)) hin9 rfl (Sto.ofV Ar9 q9 V1 (Ins.self (u8.ext O7.2))) (g := (mkF m 22 #[.val (.int p1), .unset, .unset, .unset] [(.ref ad2), (.int (2 : Int32)), (.ref b1), (.ref b1)])) rfl rfl (hb hby at_22)
  have B10 : Arv Z h10 b1 k1 (.object "com/example/querent/querent/dicom/Vr") (34 : Int32) [(.ref ad0), (.ref ad1), (.ref ad2), .null, .null, .null, .null, .null, .null, .null, .null, .null, .null, .null, .null, .null, .null, .null, .null, .null, .null, .null, .null, .null, .null, .null, .null, .null, .null, .null, .null, .null, .null, .null] .null := Arv.set Ar9 q9 S9 M9 H9 G9 rfl W10 2 rfl (Nat.le_of_ble_eq_true rfl)
  refine own_go st10 ?_
  have K10 : Keep h0 h10 [] := K7.wr W10 (Or.inr (Nat.le_of_eq g1.symm))
  have O10 := O7.wr W10 (Nat.le_trans Z0 (Nat.le_of_eq g1.symm))
  have N10 := Fr.snoc X10 N7 (Nat.le_trans Z0 (Nat.le_of_eq g1.symm))
  refine own_go (A := T10.setTop (mkF m 25 #[.val (.int p1), .unset, .unset, .unset] [(.int (3 : Int32)), (.ref b1), (.ref b1)])) (fun t_ k_ => ?_) ?_
  · show Steps p.tables e below (T10.setTop (mkF m 23 #[.val (.int p1), .unset, .unset, .unset] [(.ref b1)])) t_
    refine XS.dup X10.here hx rfl (hb hby at_23) rfl rfl ?_
    show Steps p.tables e below (T10.setTop (mkF m 24 #[.val (.int p1), .unset, .unset, .unset] [(.ref b1), (.ref b1)])) t_
    refine XS.iconst X10.here hx rfl (hb hby at_24) ?_
    exact k_
  obtain ⟨T11, X11, e11, st11⟩ := getS2 X10 hx hZ hown (host := "") (Or.inl (own_w hw 10 rfl)) Via.refl e10 (u10.ext O10.2) (g := (mkF m 25 #[.val (.int p1), .unset, .unset, .unset] [(.int (3 : Int32)), (.ref b1), (.ref b1)])) rfl (hb hby at_25)
  refine own_go st11 ?_
  obtain ⟨cl12, Ar12, q12, S12, M12, H12, G12⟩ := id B10
  have hin12 : ¬ ((3 : Int32) < 0 ∨ cl12.slots.size ≤ ((3 : Int32)).toNatClampNeg) := inb_of S12 ⟨by decide, by decide⟩
  obtain ⟨T13, h13, X13, e13, W13, st13⟩ := stR X11 hx hZ e11 Ar12 (j := (3 : Int32)) hin12 rfl (Sto.ofV Ar12 q12 V1 (Ins.self (u11.ext O10.2))) (g := (mkF m 28 #[.val (.int p1), .unset, .unset, .unset] [(.ref ad3), (.int (3 : Int32)), (.ref b1), (.ref b1)])) rfl rfl (hb hby at_28)
  have B13 : Arv Z h13 b1 k1 (.object "com/example/querent/querent/dicom/Vr") (34 : Int32) [(.ref ad0), (.ref ad1), (.ref ad2), (.ref ad3), .null, .null, .null, .null, .null, .null, .null, .null, .null, .null, .null, .null, .null, .null, .null, .null, .null, .null, .null, .null, .null, .null, .null, .null, .null, .null, .null, .null, .null, .null] .null := Arv.set Ar12 q12 S12 M12 H12 G12 rfl W13 3 rfl (Nat.le_of_ble_eq_true rfl)
  refine own_go st13 ?_
  have K13 : Keep h0 h13 [] := K10.wr W13 (Or.inr (Nat.le_of_eq g1.symm))
  have O13 := O10.wr W13 (Nat.le_trans Z0 (Nat.le_of_eq g1.symm))
  have N13 := Fr.snoc X13 N10 (Nat.le_trans Z0 (Nat.le_of_eq g1.symm))
  refine own_go (A := T13.setTop (mkF m 31 #[.val (.int p1), .unset, .unset, .unset] [(.int (4 : Int32)), (.ref b1), (.ref b1)])) (fun t_ k_ => ?_) ?_
  · show Steps p.tables e below (T13.setTop (mkF m 29 #[.val (.int p1), .unset, .unset, .unset] [(.ref b1)])) t_
    refine XS.dup X13.here hx rfl (hb hby at_29) rfl rfl ?_
    show Steps p.tables e below (T13.setTop (mkF m 30 #[.val (.int p1), .unset, .unset, .unset] [(.ref b1), (.ref b1)])) t_
    refine XS.iconst X13.here hx rfl (hb hby at_30) ?_
    exact k_
  obtain ⟨T14, X14, e14, st14⟩ := getS2 X13 hx hZ hown (host := "") (Or.inl (own_w hw 12 rfl)) Via.refl e13 (u13.ext O13.2) (g := (mkF m 31 #[.val (.int p1), .unset, .unset, .unset] [(.int (4 : Int32)), (.ref b1), (.ref b1)])) rfl (hb hby at_31)
  refine own_go st14 ?_
  obtain ⟨cl15, Ar15, q15, S15, M15, H15, G15⟩ := id B13
  have hin15 : ¬ ((4 : Int32) < 0 ∨ cl15.slots.size ≤ ((4 : Int32)).toNatClampNeg) := inb_of S15 ⟨by decide, by decide⟩
  obtain ⟨T16, h16, X16, e16, W16, st16⟩ := stR X14 hx hZ e14 Ar15 (j := (4 : Int32)) hin15 rfl (Sto.ofV Ar15 q15 V1 (Ins.self (u14.ext O13.2))) (g := (mkF m 34 #[.val (.int p1), .unset, .unset, .unset] [(.ref ad4), (.int (4 : Int32)), (.ref b1), (.ref b1)])) rfl rfl (hb hby at_34)
  have B16 : Arv Z h16 b1 k1 (.object "com/example/querent/querent/dicom/Vr") (34 : Int32) [(.ref ad0), (.ref ad1), (.ref ad2), (.ref ad3), (.ref ad4), .null, .null, .null, .null, .null, .null, .null, .null, .null, .null, .null, .null, .null, .null, .null, .null, .null, .null, .null, .null, .null, .null, .null, .null, .null, .null, .null, .null, .null] .null := Arv.set Ar15 q15 S15 M15 H15 G15 rfl W16 4 rfl (Nat.le_of_ble_eq_true rfl)
  refine own_go st16 ?_
  have K16 : Keep h0 h16 [] := K13.wr W16 (Or.inr (Nat.le_of_eq g1.symm))
  have O16 := O13.wr W16 (Nat.le_trans Z0 (Nat.le_of_eq g1.symm))
  have N16 := Fr.snoc X16 N13 (Nat.le_trans Z0 (Nat.le_of_eq g1.symm))
  refine own_go (A := T16.setTop (mkF m 37 #[.val (.int p1), .unset, .unset, .unset] [(.int (5 : Int32)), (.ref b1), (.ref b1)])) (fun t_ k_ => ?_) ?_
  · show Steps p.tables e below (T16.setTop (mkF m 35 #[.val (.int p1), .unset, .unset, .unset] [(.ref b1)])) t_
    refine XS.dup X16.here hx rfl (hb hby at_35) rfl rfl ?_
    show Steps p.tables e below (T16.setTop (mkF m 36 #[.val (.int p1), .unset, .unset, .unset] [(.ref b1), (.ref b1)])) t_
    refine XS.iconst X16.here hx rfl (hb hby at_36) ?_
    exact k_
  obtain ⟨T17, X17, e17, st17⟩ := getS2 X16 hx hZ hown (host := "") (Or.inl (own_w hw 14 rfl)) Via.refl e16 (u16.ext O16.2) (g := (mkF m 37 #[.val (.int p1), .unset, .unset, .unset] [(.int (5 : Int32)), (.ref b1), (.ref b1)])) rfl (hb hby at_37)
  refine own_go st17 ?_
  obtain ⟨cl18, Ar18, q18, S18, M18, H18, G18⟩ := id B16
  have hin18 : ¬ ((5 : Int32) < 0 ∨ cl18.slots.size ≤ ((5 : Int32)).toNatClampNeg) := inb_of S18 ⟨by decide, by decide⟩
  obtain ⟨T19, h19, X19, e19, W19, st19⟩ := stR X17 hx hZ e17 Ar18 (j := (5 : Int32)) hin18 rfl (Sto.ofV Ar18 q18 V1 (Ins.self (u17.ext O16.2))) (g := (mkF m 40 #[.val (.int p1), .unset, .unset, .unset] [(.ref ad5), (.int (5 : Int32)), (.ref b1), (.ref b1)])) rfl rfl (hb hby at_40)
  have B19 : Arv Z h19 b1 k1 (.object "com/example/querent/querent/dicom/Vr") (34 : Int32) [(.ref ad0), (.ref ad1), (.ref ad2), (.ref ad3), (.ref ad4), (.ref ad5), .null, .null, .null, .null, .null, .null, .null, .null, .null, .null, .null, .null, .null, .null, .null, .null, .null, .null, .null, .null, .null, .null, .null, .null, .null, .null, .null, .null] .null := Arv.set Ar18 q18 S18 M18 H18 G18 rfl W19 5 rfl (Nat.le_of_ble_eq_true rfl)
  refine own_go st19 ?_
  have K19 : Keep h0 h19 [] := K16.wr W19 (Or.inr (Nat.le_of_eq g1.symm))
  have O19 := O16.wr W19 (Nat.le_trans Z0 (Nat.le_of_eq g1.symm))
  have N19 := Fr.snoc X19 N16 (Nat.le_trans Z0 (Nat.le_of_eq g1.symm))
  refine own_go (A := T19.setTop (mkF m 44 #[.val (.int p1), .unset, .unset, .unset] [(.int (6 : Int32)), (.ref b1), (.ref b1)])) (fun t_ k_ => ?_) ?_
  · show Steps p.tables e below (T19.setTop (mkF m 41 #[.val (.int p1), .unset, .unset, .unset] [(.ref b1)])) t_
    refine XS.dup X19.here hx rfl (hb hby at_41) rfl rfl ?_
    show Steps p.tables e below (T19.setTop (mkF m 42 #[.val (.int p1), .unset, .unset, .unset] [(.ref b1), (.ref b1)])) t_
    refine XS.bipush X19.here hx rfl (hb hby at_42) ?_
    exact k_
  obtain ⟨T20, X20, e20, st20⟩ := getS2 X19 hx hZ hown (host := "") (Or.inl (own_w hw 16 rfl)) Via.refl e19 (u19.ext O19.2) (g := (mkF m 44 #[.val (.int p1), .unset, .unset, .unset] [(.int (6 : Int32)), (.ref b1), (.ref b1)])) rfl (hb hby at_44)
  refine own_go st20 ?_
  obtain ⟨cl21, Ar21, q21, S21, M21, H21, G21⟩ := id B19
  have hin21 : ¬ ((6 : Int32) < 0 ∨ cl21.slots.size ≤ ((6 : Int32)).toNatClampNeg) := inb_of S21 ⟨by decide, by decide⟩
  obtain ⟨T22, h22, X22, e22, W22, st22⟩ := stR X20 hx hZ e20 Ar21 (j := (6 : Int32)) hin21 rfl (Sto.ofV Ar21 q21 V1 (Ins.self (u20.ext O19.2))) (g := (mkF m 47 #[.val (.int p1), .unset, .unset, .unset] [(.ref ad6), (.int (6 : Int32)), (.ref b1), (.ref b1)])) rfl rfl (hb hby at_47)
  have B22 : Arv Z h22 b1 k1 (.object "com/example/querent/querent/dicom/Vr") (34 : Int32) [(.ref ad0), (.ref ad1), (.ref ad2), (.ref ad3), (.ref ad4), (.ref ad5), (.ref ad6), .null, .null, .null, .null, .null, .null, .null, .null, .null, .null, .null, .null, .null, .null, .null, .null, .null, .null, .null, .null, .null, .null, .null, .null, .null, .null, .null] .null := Arv.set Ar21 q21 S21 M21 H21 G21 rfl W22 6 rfl (Nat.le_of_ble_eq_true rfl)
  refine own_go st22 ?_
  have K22 : Keep h0 h22 [] := K19.wr W22 (Or.inr (Nat.le_of_eq g1.symm))
  have O22 := O19.wr W22 (Nat.le_trans Z0 (Nat.le_of_eq g1.symm))
  have N22 := Fr.snoc X22 N19 (Nat.le_trans Z0 (Nat.le_of_eq g1.symm))
  refine own_go (A := T22.setTop (mkF m 51 #[.val (.int p1), .unset, .unset, .unset] [(.int (7 : Int32)), (.ref b1), (.ref b1)])) (fun t_ k_ => ?_) ?_
  · show Steps p.tables e below (T22.setTop (mkF m 48 #[.val (.int p1), .unset, .unset, .unset] [(.ref b1)])) t_
    refine XS.dup X22.here hx rfl (hb hby at_48) rfl rfl ?_
    show Steps p.tables e below (T22.setTop (mkF m 49 #[.val (.int p1), .unset, .unset, .unset] [(.ref b1), (.ref b1)])) t_
    refine XS.bipush X22.here hx rfl (hb hby at_49) ?_
    exact k_
  obtain ⟨T23, X23, e23, st23⟩ := getS2 X22 hx hZ hown (host := "") (Or.inl (own_w hw 18 rfl)) Via.refl e22 (u22.ext O22.2) (g := (mkF m 51 #[.val (.int p1), .unset, .unset, .unset] [(.int (7 : Int32)), (.ref b1), (.ref b1)])) rfl (hb hby at_51)
  refine own_go st23 ?_
  obtain ⟨cl24, Ar24, q24, S24, M24, H24, G24⟩ := id B22
  have hin24 : ¬ ((7 : Int32) < 0 ∨ cl24.slots.size ≤ ((7 : Int32)).toNatClampNeg) := inb_of S24 ⟨by decide, by decide⟩
  obtain ⟨T25, h25, X25, e25, W25, st25⟩ := stR X23 hx hZ e23 Ar24 (j := (7 : Int32)) hin24 rfl (Sto.ofV Ar24 q24 V1 (Ins.self (u23.ext O22.2))) (g := (mkF m 54 #[.val (.int p1), .unset, .unset, .unset] [(.ref ad7), (.int (7 : Int32)), (.ref b1), (.ref b1)])) rfl rfl (hb hby at_54)
  have B25 : Arv Z h25 b1 k1 (.object "com/example/querent/querent/dicom/Vr") (34 : Int32) [(.ref ad0), (.ref ad1), (.ref ad2), (.ref ad3), (.ref ad4), (.ref ad5), (.ref ad6), (.ref ad7), .null, .null, .null, .null, .null, .null, .null, .null, .null, .null, .null, .null, .null, .null, .null, .null, .null, .null, .null, .null, .null, .null, .null, .null, .null, .null] .null := Arv.set Ar24 q24 S24 M24 H24 G24 rfl W25 7 rfl (Nat.le_of_ble_eq_true rfl)
  refine own_go st25 ?_
  have K25 : Keep h0 h25 [] := K22.wr W25 (Or.inr (Nat.le_of_eq g1.symm))
  have O25 := O22.wr W25 (Nat.le_trans Z0 (Nat.le_of_eq g1.symm))
  have N25 := Fr.snoc X25 N22 (Nat.le_trans Z0 (Nat.le_of_eq g1.symm))
  refine own_go (A := T25.setTop (mkF m 58 #[.val (.int p1), .unset, .unset, .unset] [(.int (8 : Int32)), (.ref b1), (.ref b1)])) (fun t_ k_ => ?_) ?_
  · show Steps p.tables e below (T25.setTop (mkF m 55 #[.val (.int p1), .unset, .unset, .unset] [(.ref b1)])) t_
    refine XS.dup X25.here hx rfl (hb hby at_55) rfl rfl ?_
    show Steps p.tables e below (T25.setTop (mkF m 56 #[.val (.int p1), .unset, .unset, .unset] [(.ref b1), (.ref b1)])) t_
    refine XS.bipush X25.here hx rfl (hb hby at_56) ?_
    exact k_
  obtain ⟨T26, X26, e26, st26⟩ := getS2 X25 hx hZ hown (host := "") (Or.inl (own_w hw 20 rfl)) Via.refl e25 (u25.ext O25.2) (g := (mkF m 58 #[.val (.int p1), .unset, .unset, .unset] [(.int (8 : Int32)), (.ref b1), (.ref b1)])) rfl (hb hby at_58)
  refine own_go st26 ?_
  obtain ⟨cl27, Ar27, q27, S27, M27, H27, G27⟩ := id B25
  have hin27 : ¬ ((8 : Int32) < 0 ∨ cl27.slots.size ≤ ((8 : Int32)).toNatClampNeg) := inb_of S27 ⟨by decide, by decide⟩
  obtain ⟨T28, h28, X28, e28, W28, st28⟩ := stR X26 hx hZ e26 Ar27 (j := (8 : Int32)) hin27 rfl (Sto.ofV Ar27 q27 V1 (Ins.self (u26.ext O25.2))) (g := (mkF m 61 #[.val (.int p1), .unset, .unset, .unset] [(.ref ad8), (.int (8 : Int32)), (.ref b1), (.ref b1)])) rfl rfl (hb hby at_61)
  have B28 : Arv Z h28 b1 k1 (.object "com/example/querent/querent/dicom/Vr") (34 : Int32) [(.ref ad0), (.ref ad1), (.ref ad2), (.ref ad3), (.ref ad4), (.ref ad5), (.ref ad6), (.ref ad7), (.ref ad8), .null, .null, .null, .null, .null, .null, .null, .null, .null, .null, .null, .null, .null, .null, .null, .null, .null, .null, .null, .null, .null, .null, .null, .null, .null] .null := Arv.set Ar27 q27 S27 M27 H27 G27 rfl W28 8 rfl (Nat.le_of_ble_eq_true rfl)
  refine own_go st28 ?_
  have K28 : Keep h0 h28 [] := K25.wr W28 (Or.inr (Nat.le_of_eq g1.symm))
  have O28 := O25.wr W28 (Nat.le_trans Z0 (Nat.le_of_eq g1.symm))
  have N28 := Fr.snoc X28 N25 (Nat.le_trans Z0 (Nat.le_of_eq g1.symm))
  refine own_go (A := T28.setTop (mkF m 65 #[.val (.int p1), .unset, .unset, .unset] [(.int (9 : Int32)), (.ref b1), (.ref b1)])) (fun t_ k_ => ?_) ?_
  · show Steps p.tables e below (T28.setTop (mkF m 62 #[.val (.int p1), .unset, .unset, .unset] [(.ref b1)])) t_
    refine XS.dup X28.here hx rfl (hb hby at_62) rfl rfl ?_
    show Steps p.tables e below (T28.setTop (mkF m 63 #[.val (.int p1), .unset, .unset, .unset] [(.ref b1), (.ref b1)])) t_
    refine XS.bipush X28.here hx rfl (hb hby at_63) ?_
    exact k_
  obtain ⟨T29, X29, e29, st29⟩ := getS2 X28 hx hZ hown (host := "") (Or.inl (own_w hw 22 rfl)) Via.refl e28 (u28.ext O28.2) (g := (mkF m 65 #[.val (.int p1), .unset, .unset, .unset] [(.int (9 : Int32)), (.ref b1), (.ref b1)])) rfl (hb hby at_65)
  refine own_go st29 ?_
  obtain ⟨cl30, Ar30, q30, S30, M30, H30, G30⟩ := id B28
  have hin30 : ¬ ((9 : Int32) < 0 ∨ cl30.slots.size ≤ ((9 : Int32)).toNatClampNeg) := inb_of S30 ⟨by decide, by decide⟩
  obtain ⟨T31, h31, X31, e31, W31, st31⟩ := stR X29 hx hZ e29 Ar30 (j := (9 : Int32)) hin30 rfl (Sto.ofV Ar30 q30 V1 (Ins.self (u29.ext O28.2))) (g := (mkF m 68 #[.val (.int p1), .unset, .unset, .unset] [(.ref ad9), (.int (9 : Int32)), (.ref b1), (.ref b1)])) rfl rfl (hb hby at_68)
  have B31 : Arv Z h31 b1 k1 (.object "com/example/querent/querent/dicom/Vr") (34 : Int32) [(.ref ad0), (.ref ad1), (.ref ad2), (.ref ad3), (.ref ad4), (.ref ad5), (.ref ad6), (.ref ad7), (.ref ad8), (.ref ad9), .null, .null, .null, .null, .null, .null, .null, .null, .null, .null, .null, .null, .null, .null, .null, .null, .null, .null, .null, .null, .null, .null, .null, .null] .null := Arv.set Ar30 q30 S30 M30 H30 G30 rfl W31 9 rfl (Nat.le_of_ble_eq_true rfl)
  refine own_go st31 ?_
  have K31 : Keep h0 h31 [] := K28.wr W31 (Or.inr (Nat.le_of_eq g1.symm))
  have O31 := O28.wr W31 (Nat.le_trans Z0 (Nat.le_of_eq g1.symm))
  have N31 := Fr.snoc X31 N28 (Nat.le_trans Z0 (Nat.le_of_eq g1.symm))
  refine own_go (A := T31.setTop (mkF m 72 #[.val (.int p1), .unset, .unset, .unset] [(.int (10 : Int32)), (.ref b1), (.ref b1)])) (fun t_ k_ => ?_) ?_
  · show Steps p.tables e below (T31.setTop (mkF m 69 #[.val (.int p1), .unset, .unset, .unset] [(.ref b1)])) t_
    refine XS.dup X31.here hx rfl (hb hby at_69) rfl rfl ?_
    show Steps p.tables e below (T31.setTop (mkF m 70 #[.val (.int p1), .unset, .unset, .unset] [(.ref b1), (.ref b1)])) t_
    refine XS.bipush X31.here hx rfl (hb hby at_70) ?_
    exact k_
  obtain ⟨T32, X32, e32, st32⟩ := getS2 X31 hx hZ hown (host := "") (Or.inl (own_w hw 24 rfl)) Via.refl e31 (u31.ext O31.2) (g := (mkF m 72 #[.val (.int p1), .unset, .unset, .unset] [(.int (10 : Int32)), (.ref b1), (.ref b1)])) rfl (hb hby at_72)
  refine own_go st32 ?_
  obtain ⟨cl33, Ar33, q33, S33, M33, H33, G33⟩ := id B31
  have hin33 : ¬ ((10 : Int32) < 0 ∨ cl33.slots.size ≤ ((10 : Int32)).toNatClampNeg) := inb_of S33 ⟨by decide, by decide⟩
  obtain ⟨T34, h34, X34, e34, W34, st34⟩ := stR X32 hx hZ e32 Ar33 (j := (10 : Int32)) hin33 rfl (Sto.ofV Ar33 q33 V1 (Ins.self (u32.ext O31.2))) (g := (mkF m 75 #[.val (.int p1), .unset, .unset, .unset] [(.ref ad10), (.int (10 : Int32)), (.ref b1), (.ref b1)])) rfl rfl (hb hby at_75)
  have B34 : Arv Z h34 b1 k1 (.object "com/example/querent/querent/dicom/Vr") (34 : Int32) [(.ref ad0), (.ref ad1), (.ref ad2), (.ref ad3), (.ref ad4), (.ref ad5), (.ref ad6), (.ref ad7), (.ref ad8), (.ref ad9), (.ref ad10), .null, .null, .null, .null, .null, .null, .null, .null, .null, .null, .null, .null, .null, .null, .null, .null, .null, .null, .null, .null, .null, .null, .null] .null := Arv.set Ar33 q33 S33 M33 H33 G33 rfl W34 10 rfl (Nat.le_of_ble_eq_true rfl)
  refine own_go st34 ?_
  have K34 : Keep h0 h34 [] := K31.wr W34 (Or.inr (Nat.le_of_eq g1.symm))
  have O34 := O31.wr W34 (Nat.le_trans Z0 (Nat.le_of_eq g1.symm))
  have N34 := Fr.snoc X34 N31 (Nat.le_trans Z0 (Nat.le_of_eq g1.symm))
  refine own_go (A := T34.setTop (mkF m 79 #[.val (.int p1), .unset, .unset, .unset] [(.int (11 : Int32)), (.ref b1), (.ref b1)])) (fun t_ k_ => ?_) ?_
  · show Steps p.tables e below (T34.setTop (mkF m 76 #[.val (.int p1), .unset, .unset, .unset] [(.ref b1)])) t_
    refine XS.dup X34.here hx rfl (hb hby at_76) rfl rfl ?_
    show Steps p.tables e below (T34.setTop (mkF m 77 #[.val (.int p1), .unset, .unset, .unset] [(.ref b1), (.ref b1)])) t_
    refine XS.bipush X34.here hx rfl (hb hby at_77) ?_
    exact k_
  obtain ⟨T35, X35, e35, st35⟩ := getS2 X34 hx hZ hown (host := "") (Or.inl (own_w hw 26 rfl)) Via.refl e34 (u34.ext O34.2) (g := (mkF m 79 #[.val (.int p1), .unset, .unset, .unset] [(.int (11 : Int32)), (.ref b1), (.ref b1)])) rfl (hb hby at_79)
  refine own_go st35 ?_
  obtain ⟨cl36, Ar36, q36, S36, M36, H36, G36⟩ := id B34
  have hin36 : ¬ ((11 : Int32) < 0 ∨ cl36.slots.size ≤ ((11 : Int32)).toNatClampNeg) := inb_of S36 ⟨by decide, by decide⟩
  obtain ⟨T37, h37, X37, e37, W37, st37⟩ := stR X35 hx hZ e35 Ar36 (j := (11 : Int32)) hin36 rfl (Sto.ofV Ar36 q36 V1 (Ins.self (u35.ext O34.2))) (g := (mkF m 82 #[.val (.int p1), .unset, .unset, .unset] [(.ref ad11), (.int (11 : Int32)), (.ref b1), (.ref b1)])) rfl rfl (hb hby at_82)
  have B37 : Arv Z h37 b1 k1 (.object "com/example/querent/querent/dicom/Vr") (34 : Int32) [(.ref ad0), (.ref ad1), (.ref ad2), (.ref ad3), (.ref ad4), (.ref ad5), (.ref ad6), (.ref ad7), (.ref ad8), (.ref ad9), (.ref ad10), (.ref ad11), .null, .null, .null, .null, .null, .null, .null, .null, .null, .null, .null, .null, .null, .null, .null, .null, .null, .null, .null, .null, .null, .null] .null := Arv.set Ar36 q36 S36 M36 H36 G36 rfl W37 11 rfl (Nat.le_of_ble_eq_true rfl)
  refine own_go st37 ?_
  have K37 : Keep h0 h37 [] := K34.wr W37 (Or.inr (Nat.le_of_eq g1.symm))
  have O37 := O34.wr W37 (Nat.le_trans Z0 (Nat.le_of_eq g1.symm))
  have N37 := Fr.snoc X37 N34 (Nat.le_trans Z0 (Nat.le_of_eq g1.symm))
  refine own_go (A := T37.setTop (mkF m 86 #[.val (.int p1), .unset, .unset, .unset] [(.int (12 : Int32)), (.ref b1), (.ref b1)])) (fun t_ k_ => ?_) ?_
  · show Steps p.tables e below (T37.setTop (mkF m 83 #[.val (.int p1), .unset, .unset, .unset] [(.ref b1)])) t_
    refine XS.dup X37.here hx rfl (hb hby at_83) rfl rfl ?_
    show Steps p.tables e below (T37.setTop (mkF m 84 #[.val (.int p1), .unset, .unset, .unset] [(.ref b1), (.ref b1)])) t_
    refine XS.bipush X37.here hx rfl (hb hby at_84) ?_
    exact k_
  obtain ⟨T38, X38, e38, st38⟩ := getS2 X37 hx hZ hown (host := "") (Or.inl (own_w hw 28 rfl)) Via.refl e37 (u37.ext O37.2) (g := (mkF m 86 #[.val (.int p1), .unset, .unset, .unset] [(.int (12 : Int32)), (.ref b1), (.ref b1)])) rfl (hb hby at_86)
  refine own_go st38 ?_
  obtain ⟨cl39, Ar39, q39, S39, M39, H39, G39⟩ := id B37
  have hin39 : ¬ ((12 : Int32) < 0 ∨ cl39.slots.size ≤ ((12 : Int32)).toNatClampNeg) := inb_of S39 ⟨by decide, by decide⟩
  obtain ⟨T40, h40, X40, e40, W40, st40⟩ := stR X38 hx hZ e38 Ar39 (j := (12 : Int32)) hin39 rfl (Sto.ofV Ar39 q39 V1 (Ins.self (u38.ext O37.2))) (g := (mkF m 89 #[.val (.int p1), .unset, .unset, .unset] [(.ref ad12), (.int (12 : Int32)), (.ref b1), (.ref b1)])) rfl rfl (hb hby at_89)
  have B40 : Arv Z h40 b1 k1 (.object "com/example/querent/querent/dicom/Vr") (34 : Int32) [(.ref ad0), (.ref ad1), (.ref ad2), (.ref ad3), (.ref ad4), (.ref ad5), (.ref ad6), (.ref ad7), (.ref ad8), (.ref ad9), (.ref ad10), (.ref ad11), (.ref ad12), .null, .null, .null, .null, .null, .null, .null, .null, .null, .null, .null, .null, .null, .null, .null, .null, .null, .null, .null, .null, .null] .null := Arv.set Ar39 q39 S39 M39 H39 G39 rfl W40 12 rfl (Nat.le_of_ble_eq_true rfl)
  refine own_go st40 ?_
  have K40 : Keep h0 h40 [] := K37.wr W40 (Or.inr (Nat.le_of_eq g1.symm))
  have O40 := O37.wr W40 (Nat.le_trans Z0 (Nat.le_of_eq g1.symm))
  have N40 := Fr.snoc X40 N37 (Nat.le_trans Z0 (Nat.le_of_eq g1.symm))
  refine own_go (A := T40.setTop (mkF m 93 #[.val (.int p1), .unset, .unset, .unset] [(.int (13 : Int32)), (.ref b1), (.ref b1)])) (fun t_ k_ => ?_) ?_
  · show Steps p.tables e below (T40.setTop (mkF m 90 #[.val (.int p1), .unset, .unset, .unset] [(.ref b1)])) t_
    refine XS.dup X40.here hx rfl (hb hby at_90) rfl rfl ?_
    show Steps p.tables e below (T40.setTop (mkF m 91 #[.val (.int p1), .unset, .unset, .unset] [(.ref b1), (.ref b1)])) t_
    refine XS.bipush X40.here hx rfl (hb hby at_91) ?_
    exact k_
  obtain ⟨T41, X41, e41, st41⟩ := getS2 X40 hx hZ hown (host := "") (Or.inl (own_w hw 30 rfl)) Via.refl e40 (u40.ext O40.2) (g := (mkF m 93 #[.val (.int p1), .unset, .unset, .unset] [(.int (13 : Int32)), (.ref b1), (.ref b1)])) rfl (hb hby at_93)
  refine own_go st41 ?_
  obtain ⟨cl42, Ar42, q42, S42, M42, H42, G42⟩ := id B40
  have hin42 : ¬ ((13 : Int32) < 0 ∨ cl42.slots.size ≤ ((13 : Int32)).toNatClampNeg) := inb_of S42 ⟨by decide, by decide⟩
  obtain ⟨T43, h43, X43, e43, W43, st43⟩ := stR X41 hx hZ e41 Ar42 (j := (13 : Int32)) hin42 rfl (Sto.ofV Ar42 q42 V1 (Ins.self (u41.ext O40.2))) (g := (mkF m 96 #[.val (.int p1), .unset, .unset, .unset] [(.ref ad13), (.int (13 : Int32)), (.ref b1), (.ref b1)])) rfl rfl (hb hby at_96)
  have B43 : Arv Z h43 b1 k1 (.object "com/example/querent/querent/dicom/Vr") (34 : Int32) [(.ref ad0), (.ref ad1), (.ref ad2), (.ref ad3), (.ref ad4), (.ref ad5), (.ref ad6), (.ref ad7), (.ref ad8), (.ref ad9), (.ref ad10), (.ref ad11), (.ref ad12), (.ref ad13), .null, .null, .null, .null, .null, .null, .null, .null, .null, .null, .null, .null, .null, .null, .null, .null, .null, .null, .null, .null] .null := Arv.set Ar42 q42 S42 M42 H42 G42 rfl W43 13 rfl (Nat.le_of_ble_eq_true rfl)
  refine own_go st43 ?_
  have K43 : Keep h0 h43 [] := K40.wr W43 (Or.inr (Nat.le_of_eq g1.symm))
  have O43 := O40.wr W43 (Nat.le_trans Z0 (Nat.le_of_eq g1.symm))
  have N43 := Fr.snoc X43 N40 (Nat.le_trans Z0 (Nat.le_of_eq g1.symm))
  refine own_go (A := T43.setTop (mkF m 100 #[.val (.int p1), .unset, .unset, .unset] [(.int (14 : Int32)), (.ref b1), (.ref b1)])) (fun t_ k_ => ?_) ?_
  · show Steps p.tables e below (T43.setTop (mkF m 97 #[.val (.int p1), .unset, .unset, .unset] [(.ref b1)])) t_
    refine XS.dup X43.here hx rfl (hb hby at_97) rfl rfl ?_
    show Steps p.tables e below (T43.setTop (mkF m 98 #[.val (.int p1), .unset, .unset, .unset] [(.ref b1), (.ref b1)])) t_
    refine XS.bipush X43.here hx rfl (hb hby at_98) ?_
    exact k_
  obtain ⟨T44, X44, e44, st44⟩ := getS2 X43 hx hZ hown (host := "") (Or.inl (own_w hw 32 rfl)) Via.refl e43 (u43.ext O43.2) (g := (mkF m 100 #[.val (.int p1), .unset, .unset, .unset] [(.int (14 : Int32)), (.ref b1), (.ref b1)])) rfl (hb hby at_100)
  refine own_go st44 ?_
  obtain ⟨cl45, Ar45, q45, S45, M45, H45, G45⟩ := id B43
  have hin45 : ¬ ((14 : Int32) < 0 ∨ cl45.slots.size ≤ ((14 : Int32)).toNatClampNeg) := inb_of S45 ⟨by decide, by decide⟩
  obtain ⟨T46, h46, X46, e46, W46, st46⟩ := stR X44 hx hZ e44 Ar45 (j := (14 : Int32)) hin45 rfl (Sto.ofV Ar45 q45 V1 (Ins.self (u44.ext O43.2))) (g := (mkF m 103 #[.val (.int p1), .unset, .unset, .unset] [(.ref ad14), (.int (14 : Int32)), (.ref b1), (.ref b1)])) rfl rfl (hb hby at_103)
  have B46 : Arv Z h46 b1 k1 (.object "com/example/querent/querent/dicom/Vr") (34 : Int32) [(.ref ad0), (.ref ad1), (.ref ad2), (.ref ad3), (.ref ad4), (.ref ad5), (.ref ad6), (.ref ad7), (.ref ad8), (.ref ad9), (.ref ad10), (.ref ad11), (.ref ad12), (.ref ad13), (.ref ad14), .null, .null, .null, .null, .null, .null, .null, .null, .null, .null, .null, .null, .null, .null, .null, .null, .null, .null, .null] .null := Arv.set Ar45 q45 S45 M45 H45 G45 rfl W46 14 rfl (Nat.le_of_ble_eq_true rfl)
  refine own_go st46 ?_
  have K46 : Keep h0 h46 [] := K43.wr W46 (Or.inr (Nat.le_of_eq g1.symm))
  have O46 := O43.wr W46 (Nat.le_trans Z0 (Nat.le_of_eq g1.symm))
  have N46 := Fr.snoc X46 N43 (Nat.le_trans Z0 (Nat.le_of_eq g1.symm))
  refine own_go (A := T46.setTop (mkF m 107 #[.val (.int p1), .unset, .unset, .unset] [(.int (15 : Int32)), (.ref b1), (.ref b1)])) (fun t_ k_ => ?_) ?_
  · show Steps p.tables e below (T46.setTop (mkF m 104 #[.val (.int p1), .unset, .unset, .unset] [(.ref b1)])) t_
    refine XS.dup X46.here hx rfl (hb hby at_104) rfl rfl ?_
    show Steps p.tables e below (T46.setTop (mkF m 105 #[.val (.int p1), .unset, .unset, .unset] [(.ref b1), (.ref b1)])) t_
    refine XS.bipush X46.here hx rfl (hb hby at_105) ?_
    exact k_
  obtain ⟨T47, X47, e47, st47⟩ := getS2 X46 hx hZ hown (host := "") (Or.inl (own_w hw 34 rfl)) Via.refl e46 (u46.ext O46.2) (g := (mkF m 107 #[.val (.int p1), .unset, .unset, .unset] [(.int (15 : Int32)), (.ref b1), (.ref b1)])) rfl (hb hby at_107)
  refine own_go st47 ?_
  obtain ⟨cl48, Ar48, q48, S48, M48, H48, G48⟩ := id B46
  have hin48 : ¬ ((15 : Int32) < 0 ∨ cl48.slots.size ≤ ((15 : Int32)).toNatClampNeg) := inb_of S48 ⟨by decide, by decide⟩
  obtain ⟨T49, h49, X49, e49, W49, st49⟩ := stR X47 hx hZ e47 Ar48 (j := (15 : Int32)) hin48 rfl (Sto.ofV Ar48 q48 V1 (Ins.self (u47.ext O46.2))) (g := (mkF m 110 #[.val (.int p1), .unset, .unset, .unset] [(.ref ad15), (.int (15 : Int32)), (.ref b1), (.ref b1)])) rfl rfl (hb hby at_110)
  have B49 : Arv Z h49 b1 k1 (.object "com/example/querent/querent/dicom/Vr") (34 : Int32) [(.ref ad0), (.ref ad1), (.ref ad2), (.ref ad3), (.ref ad4), (.ref ad5), (.ref ad6), (.ref ad7), (.ref ad8), (.ref ad9), (.ref ad10), (.ref ad11), (.ref ad12), (.ref ad13), (.ref ad14), (.ref ad15), .null, .null, .null, .null, .null, .null, .null, .null, .null, .null, .null, .null, .null, .null, .null, .null, .null, .null] .null := Arv.set Ar48 q48 S48 M48 H48 G48 rfl W49 15 rfl (Nat.le_of_ble_eq_true rfl)
  refine own_go st49 ?_
  have K49 : Keep h0 h49 [] := K46.wr W49 (Or.inr (Nat.le_of_eq g1.symm))
  have O49 := O46.wr W49 (Nat.le_trans Z0 (Nat.le_of_eq g1.symm))
  have N49 := Fr.snoc X49 N46 (Nat.le_trans Z0 (Nat.le_of_eq g1.symm))
  refine own_go (A := T49.setTop (mkF m 114 #[.val (.int p1), .unset, .unset, .unset] [(.int (16 : Int32)), (.ref b1), (.ref b1)])) (fun t_ k_ => ?_) ?_
  · show Steps p.tables e below (T49.setTop (mkF m 111 #[.val (.int p1), .unset, .unset, .unset] [(.ref b1)])) t_
    refine XS.dup X49.here hx rfl (hb hby at_111) rfl rfl ?_
    show Steps p.tables e below (T49.setTop (mkF m 112 #[.val (.int p1), .unset, .unset, .unset] [(.ref b1), (.ref b1)])) t_
    refine XS.bipush X49.here hx rfl (hb hby at_112) ?_
    exact k_
  obtain ⟨T50, X50, e50, st50⟩ := getS2 X49 hx hZ hown (host := "") (Or.inl (own_w hw 36 rfl)) Via.refl e49 (u49.ext O49.2) (g := (mkF m 114 #[.val (.int p1), .unset, .unset, .unset] [(.int (16 : Int32)), (.ref b1), (.ref b1)])) rfl (hb hby at_114)
  refine own_go st50 ?_
  obtain ⟨cl51, Ar51, q51, S51, M51, H51, G51⟩ := id B49
  have hin51 : ¬ ((16 : Int32) < 0 ∨ cl51.slots.size ≤ ((16 : Int32)).toNatClampNeg) := inb_of S51 ⟨by decide, by decide⟩
  obtain ⟨T52, h52, X52, e52, W52, st52⟩ := stR X50 hx hZ e50 Ar51 (j := (16 : Int32)) hin51 rfl (Sto.ofV Ar51 q51 V1 (Ins.self (u50.ext O49.2))) (g := (mkF m 117 #[.val (.int p1), .unset, .unset, .unset] [(.ref ad16), (.int (16 : Int32)), (.ref b1), (.ref b1)])) rfl rfl (hb hby at_117)
  have B52 : Arv Z h52 b1 k1 (.object "com/example/querent/querent/dicom/Vr") (34 : Int32) [(.ref ad0), (.ref ad1), (.ref ad2), (.ref ad3), (.ref ad4), (.ref ad5), (.ref ad6), (.ref ad7), (.ref ad8), (.ref ad9), (.ref ad10), (.ref ad11), (.ref ad12), (.ref ad13), (.ref ad14), (.ref ad15), (.ref ad16), .null, .null, .null, .null, .null, .null, .null, .null, .null, .null, .null, .null, .null, .null, .null, .null, .null] .null := Arv.set Ar51 q51 S51 M51 H51 G51 rfl W52 16 rfl (Nat.le_of_ble_eq_true rfl)
  refine own_go st52 ?_
  have K52 : Keep h0 h52 [] := K49.wr W52 (Or.inr (Nat.le_of_eq g1.symm))
  have O52 := O49.wr W52 (Nat.le_trans Z0 (Nat.le_of_eq g1.symm))
  have N52 := Fr.snoc X52 N49 (Nat.le_trans Z0 (Nat.le_of_eq g1.symm))
  refine own_go (A := T52.setTop (mkF m 121 #[.val (.int p1), .unset, .unset, .unset] [(.int (17 : Int32)), (.ref b1), (.ref b1)])) (fun t_ k_ => ?_) ?_
  · show Steps p.tables e below (T52.setTop (mkF m 118 #[.val (.int p1), .unset, .unset, .unset] [(.ref b1)])) t_
    refine XS.dup X52.here hx rfl (hb hby at_118) rfl rfl ?_
    show Steps p.tables e below (T52.setTop (mkF m 119 #[.val (.int p1), .unset, .unset, .unset] [(.ref b1), (.ref b1)])) t_
    refine XS.bipush X52.here hx rfl (hb hby at_119) ?_
    exact k_
  obtain ⟨T53, X53, e53, st53⟩ := getS2 X52 hx hZ hown (host := "") (Or.inl (own_w hw 38 rfl)) Via.refl e52 (u52.ext O52.2) (g := (mkF m 121 #[.val (.int p1), .unset, .unset, .unset] [(.int (17 : Int32)), (.ref b1), (.ref b1)])) rfl (hb hby at_121)
  refine own_go st53 ?_
  obtain ⟨cl54, Ar54, q54, S54, M54, H54, G54⟩ := id B52
  have hin54 : ¬ ((17 : Int32) < 0 ∨ cl54.slots.size ≤ ((17 : Int32)).toNatClampNeg) := inb_of S54 ⟨by decide, by decide⟩
  obtain ⟨T55, h55, X55, e55, W55, st55⟩ := stR X53 hx hZ e53 Ar54 (j := (17 : Int32)) hin54 rfl (Sto.ofV Ar54 q54 V1 (Ins.self (u53.ext O52.2))) (g := (mkF m 124 #[.val (.int p1), .unset, .unset, .unset] [(.ref ad17), (.int (17 : Int32)), (.ref b1), (.ref b1)])) rfl rfl (hb hby at_124)
  have B55 : Arv Z h55 b1 k1 (.object "com/example/querent/querent/dicom/Vr") (34 : Int32) [(.ref ad0), (.ref ad1), (.ref ad2), (.ref ad3), (.ref ad4), (.ref ad5), (.ref ad6), (.ref ad7), (.ref ad8), (.ref ad9), (.ref ad10), (.ref ad11), (.ref ad12), (.ref ad13), (.ref ad14), (.ref ad15), (.ref ad16), (.ref ad17), .null, .null, .null, .null, .null, .null, .null, .null, .null, .null, .null, .null, .null, .null, .null, .null] .null := Arv.set Ar54 q54 S54 M54 H54 G54 rfl W55 17 rfl (Nat.le_of_ble_eq_true rfl)
  refine own_go st55 ?_
  have K55 : Keep h0 h55 [] := K52.wr W55 (Or.inr (Nat.le_of_eq g1.symm))
  have O55 := O52.wr W55 (Nat.le_trans Z0 (Nat.le_of_eq g1.symm))
  have N55 := Fr.snoc X55 N52 (Nat.le_trans Z0 (Nat.le_of_eq g1.symm))
  refine own_go (A := T55.setTop (mkF m 128 #[.val (.int p1), .unset, .unset, .unset] [(.int (18 : Int32)), (.ref b1), (.ref b1)])) (fun t_ k_ => ?_) ?_
  · show Steps p.tables e below (T55.setTop (mkF m 125 #[.val (.int p1), .unset, .unset, .unset] [(.ref b1)])) t_
    refine XS.dup X55.here hx rfl (hb hby at_125) rfl rfl ?_
    show Steps p.tables e below (T55.setTop (mkF m 126 #[.val (.int p1), .unset, .unset, .unset] [(.ref b1), (.ref b1)])) t_
    refine XS.bipush X55.here hx rfl (hb hby at_126) ?_
    exact k_
  obtain ⟨T56, X56, e56, st56⟩ := getS2 X55 hx hZ hown (host := "") (Or.inl (own_w hw 40 rfl)) Via.refl e55 (u55.ext O55.2) (g := (mkF m 128 #[.val (.int p1), .unset, .unset, .unset] [(.int (18 : Int32)), (.ref b1), (.ref b1)])) rfl (hb hby at_128)
  refine own_go st56 ?_
  obtain ⟨cl57, Ar57, q57, S57, M57, H57, G57⟩ := id B55
  have hin57 : ¬ ((18 : Int32) < 0 ∨ cl57.slots.size ≤ ((18 : Int32)).toNatClampNeg) := inb_of S57 ⟨by decide, by decide⟩
  obtain ⟨T58, h58, X58, e58, W58, st58⟩ := stR X56 hx hZ e56 Ar57 (j := (18 : Int32)) hin57 rfl (Sto.ofV Ar57 q57 V1 (Ins.self (u56.ext O55.2))) (g := (mkF m 131 #[.val (.int p1), .unset, .unset, .unset] [(.ref ad18), (.int (18 : Int32)), (.ref b1), (.ref b1)])) rfl rfl (hb hby at_131)
  have B58 : Arv Z h58 b1 k1 (.object "com/example/querent/querent/dicom/Vr") (34 : Int32) [(.ref ad0), (.ref ad1), (.ref ad2), (.ref ad3), (.ref ad4), (.ref ad5), (.ref ad6), (.ref ad7), (.ref ad8), (.ref ad9), (.ref ad10), (.ref ad11), (.ref ad12), (.ref ad13), (.ref ad14), (.ref ad15), (.ref ad16), (.ref ad17), (.ref ad18), .null, .null, .null, .null, .null, .null, .null, .null, .null, .null, .null, .null, .null, .null, .null] .null := Arv.set Ar57 q57 S57 M57 H57 G57 rfl W58 18 rfl (Nat.le_of_ble_eq_true rfl)
  refine own_go st58 ?_
  have K58 : Keep h0 h58 [] := K55.wr W58 (Or.inr (Nat.le_of_eq g1.symm))
  have O58 := O55.wr W58 (Nat.le_trans Z0 (Nat.le_of_eq g1.symm))
  have N58 := Fr.snoc X58 N55 (Nat.le_trans Z0 (Nat.le_of_eq g1.symm))
  refine own_go (A := T58.setTop (mkF m 135 #[.val (.int p1), .unset, .unset, .unset] [(.int (19 : Int32)), (.ref b1), (.ref b1)])) (fun t_ k_ => ?_) ?_
  · show Steps p.tables e below (T58.setTop (mkF m 132 #[.val (.int p1), .unset, .unset, .unset] [(.ref b1)])) t_
    refine XS.dup X58.here hx rfl (hb hby at_132) rfl rfl ?_
    show Steps p.tables e below (T58.setTop (mkF m 133 #[.val (.int p1), .unset, .unset, .unset] [(.ref b1), (.ref b1)])) t_
    refine XS.bipush X58.here hx rfl (hb hby at_133) ?_
    exact k_
  obtain ⟨T59, X59, e59, st59⟩ := getS2 X58 hx hZ hown (host := "") (Or.inl (own_w hw 42 rfl)) Via.refl e58 (u58.ext O58.2) (g := (mkF m 135 #[.val (.int p1), .unset, .unset, .unset] [(.int (19 : Int32)), (.ref b1), (.ref b1)])) rfl (hb hby at_135)
  refine own_go st59 ?_
  obtain ⟨cl60, Ar60, q60, S60, M60, H60, G60⟩ := id B58
  have hin60 : ¬ ((19 : Int32) < 0 ∨ cl60.slots.size ≤ ((19 : Int32)).toNatClampNeg) := inb_of S60 ⟨by decide, by decide⟩
  obtain ⟨T61, h61, X61, e61, W61, st61⟩ := stR X59 hx hZ e59 Ar60 (j := (19 : Int32)) hin60 rfl (Sto.ofV Ar60 q60 V1 (Ins.self (u59.ext O58.2))) (g := (mkF m 138 #[.val (.int p1), .unset, .unset, .unset] [(.ref ad19), (.int (19 : Int32)), (.ref b1), (.ref b1)])) rfl rfl (hb hby at_138)
  have B61 : Arv Z h61 b1 k1 (.object "com/example/querent/querent/dicom/Vr") (34 : Int32) [(.ref ad0), (.ref ad1), (.ref ad2), (.ref ad3), (.ref ad4), (.ref ad5), (.ref ad6), (.ref ad7), (.ref ad8), (.ref ad9), (.ref ad10), (.ref ad11), (.ref ad12), (.ref ad13), (.ref ad14), (.ref ad15), (.ref ad16), (.ref ad17), (.ref ad18), (.ref ad19), .null, .null, .null, .null, .null, .null, .null, .null, .null, .null, .null, .null, .null, .null] .null := Arv.set Ar60 q60 S60 M60 H60 G60 rfl W61 19 rfl (Nat.le_of_ble_eq_true rfl)
  refine own_go st61 ?_
  have K61 : Keep h0 h61 [] := K58.wr W61 (Or.inr (Nat.le_of_eq g1.symm))
  have O61 := O58.wr W61 (Nat.le_trans Z0 (Nat.le_of_eq g1.symm))
  have N61 := Fr.snoc X61 N58 (Nat.le_trans Z0 (Nat.le_of_eq g1.symm))
  refine own_go (A := T61.setTop (mkF m 142 #[.val (.int p1), .unset, .unset, .unset] [(.int (20 : Int32)), (.ref b1), (.ref b1)])) (fun t_ k_ => ?_) ?_
  · show Steps p.tables e below (T61.setTop (mkF m 139 #[.val (.int p1), .unset, .unset, .unset] [(.ref b1)])) t_
    refine XS.dup X61.here hx rfl (hb hby at_139) rfl rfl ?_
    show Steps p.tables e below (T61.setTop (mkF m 140 #[.val (.int p1), .unset, .unset, .unset] [(.ref b1), (.ref b1)])) t_
    refine XS.bipush X61.here hx rfl (hb hby at_140) ?_
    exact k_
  obtain ⟨T62, X62, e62, st62⟩ := getS2 X61 hx hZ hown (host := "") (Or.inl (own_w hw 44 rfl)) Via.refl e61 (u61.ext O61.2) (g := (mkF m 142 #[.val (.int p1), .unset, .unset, .unset] [(.int (20 : Int32)), (.ref b1), (.ref b1)])) rfl (hb hby at_142)
  refine own_go st62 ?_
  obtain ⟨cl63, Ar63, q63, S63, M63, H63, G63⟩ := id B61
  have hin63 : ¬ ((20 : Int32) < 0 ∨ cl63.slots.size ≤ ((20 : Int32)).toNatClampNeg) := inb_of S63 ⟨by decide, by decide⟩
  obtain ⟨T64, h64, X64, e64, W64, st64⟩ := stR X62 hx hZ e62 Ar63 (j := (20 : Int32)) hin63 rfl (Sto.ofV Ar63 q63 V1 (Ins.self (u62.ext O61.2))) (g := (mkF m 145 #[.val (.int p1), .unset, .unset, .unset] [(.ref ad20), (.int (20 : Int32)), (.ref b1), (.ref b1)])) rfl rfl (hb hby at_145)
  have B64 : Arv Z h64 b1 k1 (.object "com/example/querent/querent/dicom/Vr") (34 : Int32) [(.ref ad0), (.ref ad1), (.ref ad2), (.ref ad3), (.ref ad4), (.ref ad5), (.ref ad6), (.ref ad7), (.ref ad8), (.ref ad9), (.ref ad10), (.ref ad11), (.ref ad12), (.ref ad13), (.ref ad14), (.ref ad15), (.ref ad16), (.ref ad17), (.ref ad18), (.ref ad19), (.ref ad20), .null, .null, .null, .null, .null, .null, .null, .null, .null, .null, .null, .null, .null] .null := Arv.set Ar63 q63 S63 M63 H63 G63 rfl W64 20 rfl (Nat.le_of_ble_eq_true rfl)
  refine own_go st64 ?_
  have K64 : Keep h0 h64 [] := K61.wr W64 (Or.inr (Nat.le_of_eq g1.symm))
  have O64 := O61.wr W64 (Nat.le_trans Z0 (Nat.le_of_eq g1.symm))
  have N64 := Fr.snoc X64 N61 (Nat.le_trans Z0 (Nat.le_of_eq g1.symm))
  refine own_go (A := T64.setTop (mkF m 149 #[.val (.int p1), .unset, .unset, .unset] [(.int (21 : Int32)), (.ref b1), (.ref b1)])) (fun t_ k_ => ?_) ?_
  · show Steps p.tables e below (T64.setTop (mkF m 146 #[.val (.int p1), .unset, .unset, .unset] [(.ref b1)])) t_
    refine XS.dup X64.here hx rfl (hb hby at_146) rfl rfl ?_
    show Steps p.tables e below (T64.setTop (mkF m 147 #[.val (.int p1), .unset, .unset, .unset] [(.ref b1), (.ref b1)])) t_
    refine XS.bipush X64.here hx rfl (hb hby at_147) ?_
    exact k_
  obtain ⟨T65, X65, e65, st65⟩ := getS2 X64 hx hZ hown (host := "") (Or.inl (own_w hw 46 rfl)) Via.refl e64 (u64.ext O64.2) (g := (mkF m 149 #[.val (.int p1), .unset, .unset, .unset] [(.int (21 : Int32)), (.ref b1), (.ref b1)])) rfl (hb hby at_149)
  refine own_go st65 ?_
  obtain ⟨cl66, Ar66, q66, S66, M66, H66, G66⟩ := id B64
  have hin66 : ¬ ((21 : Int32) < 0 ∨ cl66.slots.size ≤ ((21 : Int32)).toNatClampNeg) := inb_of S66 ⟨by decide, by decide⟩
  obtain ⟨T67, h67, X67, e67, W67, st67⟩ := stR X65 hx hZ e65 Ar66 (j := (21 : Int32)) hin66 rfl (Sto.ofV Ar66 q66 V1 (Ins.self (u65.ext O64.2))) (g := (mkF m 152 #[.val (.int p1), .unset, .unset, .unset] [(.ref ad21), (.int (21 : Int32)), (.ref b1), (.ref b1)])) rfl rfl (hb hby at_152)
  have B67 : Arv Z h67 b1 k1 (.object "com/example/querent/querent/dicom/Vr") (34 : Int32) [(.ref ad0), (.ref ad1), (.ref ad2), (.ref ad3), (.ref ad4), (.ref ad5), (.ref ad6), (.ref ad7), (.ref ad8), (.ref ad9), (.ref ad10), (.ref ad11), (.ref ad12), (.ref ad13), (.ref ad14), (.ref ad15), (.ref ad16), (.ref ad17), (.ref ad18), (.ref ad19), (.ref ad20), (.ref ad21), .null, .null, .null, .null, .null, .null, .null, .null, .null, .null, .null, .null] .null := Arv.set Ar66 q66 S66 M66 H66 G66 rfl W67 21 rfl (Nat.le_of_ble_eq_true rfl)
  refine own_go st67 ?_
  have K67 : Keep h0 h67 [] := K64.wr W67 (Or.inr (Nat.le_of_eq g1.symm))
  have O67 := O64.wr W67 (Nat.le_trans Z0 (Nat.le_of_eq g1.symm))
  have N67 := Fr.snoc X67 N64 (Nat.le_trans Z0 (Nat.le_of_eq g1.symm))
  refine own_go (A := T67.setTop (mkF m 156 #[.val (.int p1), .unset, .unset, .unset] [(.int (22 : Int32)), (.ref b1), (.ref b1)])) (fun t_ k_ => ?_) ?_
  · show Steps p.tables e below (T67.setTop (mkF m 153 #[.val (.int p1), .unset, .unset, .unset] [(.ref b1)])) t_
    refine XS.dup X67.here hx rfl (hb hby at_153) rfl rfl ?_
    show Steps p.tables e below (T67.setTop (mkF m 154 #[.val (.int p1), .unset, .unset, .unset] [(.ref b1), (.ref b1)])) t_
    refine XS.bipush X67.here hx rfl (hb hby at_154) ?_
    exact k_
  obtain ⟨T68, X68, e68, st68⟩ := getS2 X67 hx hZ hown (host := "") (Or.inl (own_w hw 48 rfl)) Via.refl e67 (u67.ext O67.2) (g := (mkF m 156 #[.val (.int p1), .unset, .unset, .unset] [(.int (22 : Int32)), (.ref b1), (.ref b1)])) rfl (hb hby at_156)
  refine own_go st68 ?_
  obtain ⟨cl69, Ar69, q69, S69, M69, H69, G69⟩ := id B67
  have hin69 : ¬ ((22 : Int32) < 0 ∨ cl69.slots.size ≤ ((22 : Int32)).toNatClampNeg) := inb_of S69 ⟨by decide, by decide⟩
  obtain ⟨T70, h70, X70, e70, W70, st70⟩ := stR X68 hx hZ e68 Ar69 (j := (22 : Int32)) hin69 rfl (Sto.ofV Ar69 q69 V1 (Ins.self (u68.ext O67.2))) (g := (mkF m 159 #[.val (.int p1), .unset, .unset, .unset] [(.ref ad22), (.int (22 : Int32)), (.ref b1), (.ref b1)])) rfl rfl (hb hby at_159)
  have B70 : Arv Z h70 b1 k1 (.object "com/example/querent/querent/dicom/Vr") (34 : Int32) [(.ref ad0), (.ref ad1), (.ref ad2), (.ref ad3), (.ref ad4), (.ref ad5), (.ref ad6), (.ref ad7), (.ref ad8), (.ref ad9), (.ref ad10), (.ref ad11), (.ref ad12), (.ref ad13), (.ref ad14), (.ref ad15), (.ref ad16), (.ref ad17), (.ref ad18), (.ref ad19), (.ref ad20), (.ref ad21), (.ref ad22), .null, .null, .null, .null, .null, .null, .null, .null, .null, .null, .null] .null := Arv.set Ar69 q69 S69 M69 H69 G69 rfl W70 22 rfl (Nat.le_of_ble_eq_true rfl)
  refine own_go st70 ?_
  have K70 : Keep h0 h70 [] := K67.wr W70 (Or.inr (Nat.le_of_eq g1.symm))
  have O70 := O67.wr W70 (Nat.le_trans Z0 (Nat.le_of_eq g1.symm))
  have N70 := Fr.snoc X70 N67 (Nat.le_trans Z0 (Nat.le_of_eq g1.symm))
  refine own_go (A := T70.setTop (mkF m 163 #[.val (.int p1), .unset, .unset, .unset] [(.int (23 : Int32)), (.ref b1), (.ref b1)])) (fun t_ k_ => ?_) ?_
  · show Steps p.tables e below (T70.setTop (mkF m 160 #[.val (.int p1), .unset, .unset, .unset] [(.ref b1)])) t_
    refine XS.dup X70.here hx rfl (hb hby at_160) rfl rfl ?_
    show Steps p.tables e below (T70.setTop (mkF m 161 #[.val (.int p1), .unset, .unset, .unset] [(.ref b1), (.ref b1)])) t_
    refine XS.bipush X70.here hx rfl (hb hby at_161) ?_
    exact k_
  obtain ⟨T71, X71, e71, st71⟩ := getS2 X70 hx hZ hown (host := "") (Or.inl (own_w hw 50 rfl)) Via.refl e70 (u70.ext O70.2) (g := (mkF m 163 #[.val (.int p1), .unset, .unset, .unset] [(.int (23 : Int32)), (.ref b1), (.ref b1)])) rfl (hb hby at_163)
  refine own_go st71 ?_
  obtain ⟨cl72, Ar72, q72, S72, M72, H72, G72⟩ := id B70
  have hin72 : ¬ ((23 : Int32) < 0 ∨ cl72.slots.size ≤ ((23 : Int32)).toNatClampNeg) := inb_of S72 ⟨by decide, by decide⟩
  obtain ⟨T73, h73, X73, e73, W73, st73⟩ := stR X71 hx hZ e71 Ar72 (j := (23 : Int32)) hin72 rfl (Sto.ofV Ar72 q72 V1 (Ins.self (u71.ext O70.2))) (g := (mkF m 166 #[.val (.int p1), .unset, .unset, .unset] [(.ref ad23), (.int (23 : Int32)), (.ref b1), (.ref b1)])) rfl rfl (hb hby at_166)
  have B73 : Arv Z h73 b1 k1 (.object "com/example/querent/querent/dicom/Vr") (34 : Int32) [(.ref ad0), (.ref ad1), (.ref ad2), (.ref ad3), (.ref ad4), (.ref ad5), (.ref ad6), (.ref ad7), (.ref ad8), (.ref ad9), (.ref ad10), (.ref ad11), (.ref ad12), (.ref ad13), (.ref ad14), (.ref ad15), (.ref ad16), (.ref ad17), (.ref ad18), (.ref ad19), (.ref ad20), (.ref ad21), (.ref ad22), (.ref ad23), .null, .null, .null, .null, .null, .null, .null, .null, .null, .null] .null := Arv.set Ar72 q72 S72 M72 H72 G72 rfl W73 23 rfl (Nat.le_of_ble_eq_true rfl)
  refine own_go st73 ?_
  have K73 : Keep h0 h73 [] := K70.wr W73 (Or.inr (Nat.le_of_eq g1.symm))
  have O73 := O70.wr W73 (Nat.le_trans Z0 (Nat.le_of_eq g1.symm))
  have N73 := Fr.snoc X73 N70 (Nat.le_trans Z0 (Nat.le_of_eq g1.symm))
  refine own_go (A := T73.setTop (mkF m 170 #[.val (.int p1), .unset, .unset, .unset] [(.int (24 : Int32)), (.ref b1), (.ref b1)])) (fun t_ k_ => ?_) ?_
  · show Steps p.tables e below (T73.setTop (mkF m 167 #[.val (.int p1), .unset, .unset, .unset] [(.ref b1)])) t_
    refine XS.dup X73.here hx rfl (hb hby at_167) rfl rfl ?_
    show Steps p.tables e below (T73.setTop (mkF m 168 #[.val (.int p1), .unset, .unset, .unset] [(.ref b1), (.ref b1)])) t_
    refine XS.bipush X73.here hx rfl (hb hby at_168) ?_
    exact k_
  obtain ⟨T74, X74, e74, st74⟩ := getS2 X73 hx hZ hown (host := "") (Or.inl (own_w hw 52 rfl)) Via.refl e73 (u73.ext O73.2) (g := (mkF m 170 #[.val (.int p1), .unset, .unset, .unset] [(.int (24 : Int32)), (.ref b1), (.ref b1)])) rfl (hb hby at_170)
  refine own_go st74 ?_
  obtain ⟨cl75, Ar75, q75, S75, M75, H75, G75⟩ := id B73
  have hin75 : ¬ ((24 : Int32) < 0 ∨ cl75.slots.size ≤ ((24 : Int32)).toNatClampNeg) := inb_of S75 ⟨by decide, by decide⟩
  obtain ⟨T76, h76, X76, e76, W76, st76⟩ := stR X74 hx hZ e74 Ar75 (j := (24 : Int32)) hin75 rfl (Sto.ofV Ar75 q75 V1 (Ins.self (u74.ext O73.2))) (g := (mkF m 173 #[.val (.int p1), .unset, .unset, .unset] [(.ref ad24), (.int (24 : Int32)), (.ref b1), (.ref b1)])) rfl rfl (hb hby at_173)
  have B76 : Arv Z h76 b1 k1 (.object "com/example/querent/querent/dicom/Vr") (34 : Int32) [(.ref ad0), (.ref ad1), (.ref ad2), (.ref ad3), (.ref ad4), (.ref ad5), (.ref ad6), (.ref ad7), (.ref ad8), (.ref ad9), (.ref ad10), (.ref ad11), (.ref ad12), (.ref ad13), (.ref ad14), (.ref ad15), (.ref ad16), (.ref ad17), (.ref ad18), (.ref ad19), (.ref ad20), (.ref ad21), (.ref ad22), (.ref ad23), (.ref ad24), .null, .null, .null, .null, .null, .null, .null, .null, .null] .null := Arv.set Ar75 q75 S75 M75 H75 G75 rfl W76 24 rfl (Nat.le_of_ble_eq_true rfl)
  refine own_go st76 ?_
  have K76 : Keep h0 h76 [] := K73.wr W76 (Or.inr (Nat.le_of_eq g1.symm))
  have O76 := O73.wr W76 (Nat.le_trans Z0 (Nat.le_of_eq g1.symm))
  have N76 := Fr.snoc X76 N73 (Nat.le_trans Z0 (Nat.le_of_eq g1.symm))
  refine own_go (A := T76.setTop (mkF m 177 #[.val (.int p1), .unset, .unset, .unset] [(.int (25 : Int32)), (.ref b1), (.ref b1)])) (fun t_ k_ => ?_) ?_
  · show Steps p.tables e below (T76.setTop (mkF m 174 #[.val (.int p1), .unset, .unset, .unset] [(.ref b1)])) t_
    refine XS.dup X76.here hx rfl (hb hby at_174) rfl rfl ?_
    show Steps p.tables e below (T76.setTop (mkF m 175 #[.val (.int p1), .unset, .unset, .unset] [(.ref b1), (.ref b1)])) t_
    refine XS.bipush X76.here hx rfl (hb hby at_175) ?_
    exact k_
  obtain ⟨T77, X77, e77, st77⟩ := getS2 X76 hx hZ hown (host := "") (Or.inl (own_w hw 54 rfl)) Via.refl e76 (u76.ext O76.2) (g := (mkF m 177 #[.val (.int p1), .unset, .unset, .unset] [(.int (25 : Int32)), (.ref b1), (.ref b1)])) rfl (hb hby at_177)
  refine own_go st77 ?_
  obtain ⟨cl78, Ar78, q78, S78, M78, H78, G78⟩ := id B76
  have hin78 : ¬ ((25 : Int32) < 0 ∨ cl78.slots.size ≤ ((25 : Int32)).toNatClampNeg) := inb_of S78 ⟨by decide, by decide⟩
  obtain ⟨T79, h79, X79, e79, W79, st79⟩ := stR X77 hx hZ e77 Ar78 (j := (25 : Int32)) hin78 rfl (Sto.ofV Ar78 q78 V1 (Ins.self (u77.ext O76.2))) (g := (mkF m 180 #[.val (.int p1), .unset, .unset, .unset] [(.ref ad25), (.int (25 : Int32)), (.ref b1), (.ref b1)])) rfl rfl (hb hby at_180)
  have B79 : Arv Z h79 b1 k1 (.object "com/example/querent/querent/dicom/Vr") (34 : Int32) [(.ref ad0), (.ref ad1), (.ref ad2), (.ref ad3), (.ref ad4), (.ref ad5), (.ref ad6), (.ref ad7), (.ref ad8), (.ref ad9), (.ref ad10), (.ref ad11), (.ref ad12), (.ref ad13), (.ref ad14), (.ref ad15), (.ref ad16), (.ref ad17), (.ref ad18), (.ref ad19), (.ref ad20), (.ref ad21), (.ref ad22), (.ref ad23), (.ref ad24), (.ref ad25), .null, .null, .null, .null, .null, .null, .null, .null] .null := Arv.set Ar78 q78 S78 M78 H78 G78 rfl W79 25 rfl (Nat.le_of_ble_eq_true rfl)
  refine own_go st79 ?_
  have K79 : Keep h0 h79 [] := K76.wr W79 (Or.inr (Nat.le_of_eq g1.symm))
  have O79 := O76.wr W79 (Nat.le_trans Z0 (Nat.le_of_eq g1.symm))
  have N79 := Fr.snoc X79 N76 (Nat.le_trans Z0 (Nat.le_of_eq g1.symm))
  refine own_go (A := T79.setTop (mkF m 184 #[.val (.int p1), .unset, .unset, .unset] [(.int (26 : Int32)), (.ref b1), (.ref b1)])) (fun t_ k_ => ?_) ?_
  · show Steps p.tables e below (T79.setTop (mkF m 181 #[.val (.int p1), .unset, .unset, .unset] [(.ref b1)])) t_
    refine XS.dup X79.here hx rfl (hb hby at_181) rfl rfl ?_
    show Steps p.tables e below (T79.setTop (mkF m 182 #[.val (.int p1), .unset, .unset, .unset] [(.ref b1), (.ref b1)])) t_
    refine XS.bipush X79.here hx rfl (hb hby at_182) ?_
    exact k_
  obtain ⟨T80, X80, e80, st80⟩ := getS2 X79 hx hZ hown (host := "") (Or.inl (own_w hw 56 rfl)) Via.refl e79 (u79.ext O79.2) (g := (mkF m 184 #[.val (.int p1), .unset, .unset, .unset] [(.int (26 : Int32)), (.ref b1), (.ref b1)])) rfl (hb hby at_184)
  refine own_go st80 ?_
  obtain ⟨cl81, Ar81, q81, S81, M81, H81, G81⟩ := id B79
  have hin81 : ¬ ((26 : Int32) < 0 ∨ cl81.slots.size ≤ ((26 : Int32)).toNatClampNeg) := inb_of S81 ⟨by decide, by decide⟩
  obtain ⟨T82, h82, X82, e82, W82, st82⟩ := stR X80 hx hZ e80 Ar81 (j := (26 : Int32)) hin81 rfl (Sto.ofV Ar81 q81 V1 (Ins.self (u80.ext O79.2))) (g := (mkF m 187 #[.val (.int p1), .unset, .unset, .unset] [(.ref ad26), (.int (26 : Int32)), (.ref b1), (.ref b1)])) rfl rfl (hb hby at_187)
  have B82 : Arv Z h82 b1 k1 (.object "com/example/querent/querent/dicom/Vr") (34 : Int32) [(.ref ad0), (.ref ad1), (.ref ad2), (.ref ad3), (.ref ad4), (.ref ad5), (.ref ad6), (.ref ad7), (.ref ad8), (.ref ad9), (.ref ad10), (.ref ad11), (.ref ad12), (.ref ad13), (.ref ad14), (.ref ad15), (.ref ad16), (.ref ad17), (.ref ad18), (.ref ad19), (.ref ad20), (.ref ad21), (.ref ad22), (.ref ad23), (.ref ad24), (.ref ad25), (.ref ad26), .null, .null, .null, .null, .null, .null, .null] .null := Arv.set Ar81 q81 S81 M81 H81 G81 rfl W82 26 rfl (Nat.le_of_ble_eq_true rfl)
  refine own_go st82 ?_
  have K82 : Keep h0 h82 [] := K79.wr W82 (Or.inr (Nat.le_of_eq g1.symm))
  have O82 := O79.wr W82 (Nat.le_trans Z0 (Nat.le_of_eq g1.symm))
  have N82 := Fr.snoc X82 N79 (Nat.le_trans Z0 (Nat.le_of_eq g1.symm))
  refine own_go (A := T82.setTop (mkF m 191 #[.val (.int p1), .unset, .unset, .unset] [(.int (27 : Int32)), (.ref b1), (.ref b1)])) (fun t_ k_ => ?_) ?_
  · show Steps p.tables e below (T82.setTop (mkF m 188 #[.val (.int p1), .unset, .unset, .unset] [(.ref b1)])) t_
    refine XS.dup X82.here hx rfl (hb hby at_188) rfl rfl ?_
    show Steps p.tables e below (T82.setTop (mkF m 189 #[.val (.int p1), .unset, .unset, .unset] [(.ref b1), (.ref b1)])) t_
    refine XS.bipush X82.here hx rfl (hb hby at_189) ?_
    exact k_
  obtain ⟨T83, X83, e83, st83⟩ := getS2 X82 hx hZ hown (host := "") (Or.inl (own_w hw 58 rfl)) Via.refl e82 (u82.ext O82.2) (g := (mkF m 191 #[.val (.int p1), .unset, .unset, .unset] [(.int (27 : Int32)), (.ref b1), (.ref b1)])) rfl (hb hby at_191)
  refine own_go st83 ?_
  obtain ⟨cl84, Ar84, q84, S84, M84, H84, G84⟩ := id B82
  have hin84 : ¬ ((27 : Int32) < 0 ∨ cl84.slots.size ≤ ((27 : Int32)).toNatClampNeg) := inb_of S84 ⟨by decide, by decide⟩
  obtain ⟨T85, h85, X85, e85, W85, st85⟩ := stR X83 hx hZ e83 Ar84 (j := (27 : Int32)) hin84 rfl (Sto.ofV Ar84 q84 V1 (Ins.self (u83.ext O82.2))) (g := (mkF m 194 #[.val (.int p1), .unset, .unset, .unset] [(.ref ad27), (.int (27 : Int32)), (.ref b1), (.ref b1)])) rfl rfl (hb hby at_194)
  have B85 : Arv Z h85 b1 k1 (.object "com/example/querent/querent/dicom/Vr") (34 : Int32) [(.ref ad0), (.ref ad1), (.ref ad2), (.ref ad3), (.ref ad4), (.ref ad5), (.ref ad6), (.ref ad7), (.ref ad8), (.ref ad9), (.ref ad10), (.ref ad11), (.ref ad12), (.ref ad13), (.ref ad14), (.ref ad15), (.ref ad16), (.ref ad17), (.ref ad18), (.ref ad19), (.ref ad20), (.ref ad21), (.ref ad22), (.ref ad23), (.ref ad24), (.ref ad25), (.ref ad26), (.ref ad27), .null, .null, .null, .null, .null, .null] .null := Arv.set Ar84 q84 S84 M84 H84 G84 rfl W85 27 rfl (Nat.le_of_ble_eq_true rfl)
  refine own_go st85 ?_
  have K85 : Keep h0 h85 [] := K82.wr W85 (Or.inr (Nat.le_of_eq g1.symm))
  have O85 := O82.wr W85 (Nat.le_trans Z0 (Nat.le_of_eq g1.symm))
  have N85 := Fr.snoc X85 N82 (Nat.le_trans Z0 (Nat.le_of_eq g1.symm))
  refine own_go (A := T85.setTop (mkF m 198 #[.val (.int p1), .unset, .unset, .unset] [(.int (28 : Int32)), (.ref b1), (.ref b1)])) (fun t_ k_ => ?_) ?_
  · show Steps p.tables e below (T85.setTop (mkF m 195 #[.val (.int p1), .unset, .unset, .unset] [(.ref b1)])) t_
    refine XS.dup X85.here hx rfl (hb hby at_195) rfl rfl ?_
    show Steps p.tables e below (T85.setTop (mkF m 196 #[.val (.int p1), .unset, .unset, .unset] [(.ref b1), (.ref b1)])) t_
    refine XS.bipush X85.here hx rfl (hb hby at_196) ?_
    exact k_
  obtain ⟨T86, X86, e86, st86⟩ := getS2 X85 hx hZ hown (host := "") (Or.inl (own_w hw 60 rfl)) Via.refl e85 (u85.ext O85.2) (g := (mkF m 198 #[.val (.int p1), .unset, .unset, .unset] [(.int (28 : Int32)), (.ref b1), (.ref b1)])) rfl (hb hby at_198)
  refine own_go st86 ?_
  obtain ⟨cl87, Ar87, q87, S87, M87, H87, G87⟩ := id B85
  have hin87 : ¬ ((28 : Int32) < 0 ∨ cl87.slots.size ≤ ((28 : Int32)).toNatClampNeg) := inb_of S87 ⟨by decide, by decide⟩
  obtain ⟨T88, h88, X88, e88, W88, st88⟩ := stR X86 hx hZ e86 Ar87 (j := (28 : Int32)) hin87 rfl (Sto.ofV Ar87 q87 V1 (Ins.self (u86.ext O85.2))) (g := (mkF m 201 #[.val (.int p1), .unset, .unset, .unset] [(.ref ad28), (.int (28 : Int32)), (.ref b1), (.ref b1)])) rfl rfl (hb hby at_201)
  have B88 : Arv Z h88 b1 k1 (.object "com/example/querent/querent/dicom/Vr") (34 : Int32) [(.ref ad0), (.ref ad1), (.ref ad2), (.ref ad3), (.ref ad4), (.ref ad5), (.ref ad6), (.ref ad7), (.ref ad8), (.ref ad9), (.ref ad10), (.ref ad11), (.ref ad12), (.ref ad13), (.ref ad14), (.ref ad15), (.ref ad16), (.ref ad17), (.ref ad18), (.ref ad19), (.ref ad20), (.ref ad21), (.ref ad22), (.ref ad23), (.ref ad24), (.ref ad25), (.ref ad26), (.ref ad27), (.ref ad28), .null, .null, .null, .null, .null] .null := Arv.set Ar87 q87 S87 M87 H87 G87 rfl W88 28 rfl (Nat.le_of_ble_eq_true rfl)
  refine own_go st88 ?_
  have K88 : Keep h0 h88 [] := K85.wr W88 (Or.inr (Nat.le_of_eq g1.symm))
  have O88 := O85.wr W88 (Nat.le_trans Z0 (Nat.le_of_eq g1.symm))
  have N88 := Fr.snoc X88 N85 (Nat.le_trans Z0 (Nat.le_of_eq g1.symm))
  refine own_go (A := T88.setTop (mkF m 205 #[.val (.int p1), .unset, .unset, .unset] [(.int (29 : Int32)), (.ref b1), (.ref b1)])) (fun t_ k_ => ?_) ?_
  · show Steps p.tables e below (T88.setTop (mkF m 202 #[.val (.int p1), .unset, .unset, .unset] [(.ref b1)])) t_
    refine XS.dup X88.here hx rfl (hb hby at_202) rfl rfl ?_
    show Steps p.tables e below (T88.setTop (mkF m 203 #[.val (.int p1), .unset, .unset, .unset] [(.ref b1), (.ref b1)])) t_
    refine XS.bipush X88.here hx rfl (hb hby at_203) ?_
    exact k_
  obtain ⟨T89, X89, e89, st89⟩ := getS2 X88 hx hZ hown (host := "") (Or.inl (own_w hw 62 rfl)) Via.refl e88 (u88.ext O88.2) (g := (mkF m 205 #[.val (.int p1), .unset, .unset, .unset] [(.int (29 : Int32)), (.ref b1), (.ref b1)])) rfl (hb hby at_205)
  refine own_go st89 ?_
  obtain ⟨cl90, Ar90, q90, S90, M90, H90, G90⟩ := id B88
  have hin90 : ¬ ((29 : Int32) < 0 ∨ cl90.slots.size ≤ ((29 : Int32)).toNatClampNeg) := inb_of S90 ⟨by decide, by decide⟩
  obtain ⟨T91, h91, X91, e91, W91, st91⟩ := stR X89 hx hZ e89 Ar90 (j := (29 : Int32)) hin90 rfl (Sto.ofV Ar90 q90 V1 (Ins.self (u89.ext O88.2))) (g := (mkF m 208 #[.val (.int p1), .unset, .unset, .unset] [(.ref ad29), (.int (29 : Int32)), (.ref b1), (.ref b1)])) rfl rfl (hb hby at_208)
  have B91 : Arv Z h91 b1 k1 (.object "com/example/querent/querent/dicom/Vr") (34 : Int32) [(.ref ad0), (.ref ad1), (.ref ad2), (.ref ad3), (.ref ad4), (.ref ad5), (.ref ad6), (.ref ad7), (.ref ad8), (.ref ad9), (.ref ad10), (.ref ad11), (.ref ad12), (.ref ad13), (.ref ad14), (.ref ad15), (.ref ad16), (.ref ad17), (.ref ad18), (.ref ad19), (.ref ad20), (.ref ad21), (.ref ad22), (.ref ad23), (.ref ad24), (.ref ad25), (.ref ad26), (.ref ad27), (.ref ad28), (.ref ad29), .null, .null, .null, .null] .null := Arv.set Ar90 q90 S90 M90 H90 G90 rfl W91 29 rfl (Nat.le_of_ble_eq_true rfl)
  refine own_go st91 ?_
  have K91 : Keep h0 h91 [] := K88.wr W91 (Or.inr (Nat.le_of_eq g1.symm))
  have O91 := O88.wr W91 (Nat.le_trans Z0 (Nat.le_of_eq g1.symm))
  have N91 := Fr.snoc X91 N88 (Nat.le_trans Z0 (Nat.le_of_eq g1.symm))
  refine own_go (A := T91.setTop (mkF m 212 #[.val (.int p1), .unset, .unset, .unset] [(.int (30 : Int32)), (.ref b1), (.ref b1)])) (fun t_ k_ => ?_) ?_
  · show Steps p.tables e below (T91.setTop (mkF m 209 #[.val (.int p1), .unset, .unset, .unset] [(.ref b1)])) t_
    refine XS.dup X91.here hx rfl (hb hby at_209) rfl rfl ?_
    show Steps p.tables e below (T91.setTop (mkF m 210 #[.val (.int p1), .unset, .unset, .unset] [(.ref b1), (.ref b1)])) t_
    refine XS.bipush X91.here hx rfl (hb hby at_210) ?_
    exact k_
  obtain ⟨T92, X92, e92, st92⟩ := getS2 X91 hx hZ hown (host := "") (Or.inl (own_w hw 64 rfl)) Via.refl e91 (u91.ext O91.2) (g := (mkF m 212 #[.val (.int p1), .unset, .unset, .unset] [(.int (30 : Int32)), (.ref b1), (.ref b1)])) rfl (hb hby at_212)
  refine own_go st92 ?_
  obtain ⟨cl93, Ar93, q93, S93, M93, H93, G93⟩ := id B91
  have hin93 : ¬ ((30 : Int32) < 0 ∨ cl93.slots.size ≤ ((30 : Int32)).toNatClampNeg) := inb_of S93 ⟨by decide, by decide⟩
  obtain ⟨T94, h94, X94, e94, W94, st94⟩ := stR X92 hx hZ e92 Ar93 (j := (30 : Int32)) hin93 rfl (Sto.ofV Ar93 q93 V1 (Ins.self (u92.ext O91.2))) (g := (mkF m 215 #[.val (.int p1), .unset, .unset, .unset] [(.ref ad30), (.int (30 : Int32)), (.ref b1), (.ref b1)])) rfl rfl (hb hby at_215)
  have B94 : Arv Z h94 b1 k1 (.object "com/example/querent/querent/dicom/Vr") (34 : Int32) [(.ref ad0), (.ref ad1), (.ref ad2), (.ref ad3), (.ref ad4), (.ref ad5), (.ref ad6), (.ref ad7), (.ref ad8), (.ref ad9), (.ref ad10), (.ref ad11), (.ref ad12), (.ref ad13), (.ref ad14), (.ref ad15), (.ref ad16), (.ref ad17), (.ref ad18), (.ref ad19), (.ref ad20), (.ref ad21), (.ref ad22), (.ref ad23), (.ref ad24), (.ref ad25), (.ref ad26), (.ref ad27), (.ref ad28), (.ref ad29), (.ref ad30), .null, .null, .null] .null := Arv.set Ar93 q93 S93 M93 H93 G93 rfl W94 30 rfl (Nat.le_of_ble_eq_true rfl)
  refine own_go st94 ?_
  have K94 : Keep h0 h94 [] := K91.wr W94 (Or.inr (Nat.le_of_eq g1.symm))
  have O94 := O91.wr W94 (Nat.le_trans Z0 (Nat.le_of_eq g1.symm))
  have N94 := Fr.snoc X94 N91 (Nat.le_trans Z0 (Nat.le_of_eq g1.symm))
  refine own_go (A := T94.setTop (mkF m 219 #[.val (.int p1), .unset, .unset, .unset] [(.int (31 : Int32)), (.ref b1), (.ref b1)])) (fun t_ k_ => ?_) ?_
  · show Steps p.tables e below (T94.setTop (mkF m 216 #[.val (.int p1), .unset, .unset, .unset] [(.ref b1)])) t_
    refine XS.dup X94.here hx rfl (hb hby at_216) rfl rfl ?_
    show Steps p.tables e below (T94.setTop (mkF m 217 #[.val (.int p1), .unset, .unset, .unset] [(.ref b1), (.ref b1)])) t_
    refine XS.bipush X94.here hx rfl (hb hby at_217) ?_
    exact k_
  obtain ⟨T95, X95, e95, st95⟩ := getS2 X94 hx hZ hown (host := "") (Or.inl (own_w hw 66 rfl)) Via.refl e94 (u94.ext O94.2) (g := (mkF m 219 #[.val (.int p1), .unset, .unset, .unset] [(.int (31 : Int32)), (.ref b1), (.ref b1)])) rfl (hb hby at_219)
  refine own_go st95 ?_
  obtain ⟨cl96, Ar96, q96, S96, M96, H96, G96⟩ := id B94
  have hin96 : ¬ ((31 : Int32) < 0 ∨ cl96.slots.size ≤ ((31 : Int32)).toNatClampNeg) := inb_of S96 ⟨by decide, by decide⟩
  obtain ⟨T97, h97, X97, e97, W97, st97⟩ := stR X95 hx hZ e95 Ar96 (j := (31 : Int32)) hin96 rfl (Sto.ofV Ar96 q96 V1 (Ins.self (u95.ext O94.2))) (g := (mkF m 222 #[.val (.int p1), .unset, .unset, .unset] [(.ref ad31), (.int (31 : Int32)), (.ref b1), (.ref b1)])) rfl rfl (hb hby at_222)
  have B97 : Arv Z h97 b1 k1 (.object "com/example/querent/querent/dicom/Vr") (34 : Int32) [(.ref ad0), (.ref ad1), (.ref ad2), (.ref ad3), (.ref ad4), (.ref ad5), (.ref ad6), (.ref ad7), (.ref ad8), (.ref ad9), (.ref ad10), (.ref ad11), (.ref ad12), (.ref ad13), (.ref ad14), (.ref ad15), (.ref ad16), (.ref ad17), (.ref ad18), (.ref ad19), (.ref ad20), (.ref ad21), (.ref ad22), (.ref ad23), (.ref ad24), (.ref ad25), (.ref ad26), (.ref ad27), (.ref ad28), (.ref ad29), (.ref ad30), (.ref ad31), .null, .null] .null := Arv.set Ar96 q96 S96 M96 H96 G96 rfl W97 31 rfl (Nat.le_of_ble_eq_true rfl)
  refine own_go st97 ?_
  have K97 : Keep h0 h97 [] := K94.wr W97 (Or.inr (Nat.le_of_eq g1.symm))
  have O97 := O94.wr W97 (Nat.le_trans Z0 (Nat.le_of_eq g1.symm))
  have N97 := Fr.snoc X97 N94 (Nat.le_trans Z0 (Nat.le_of_eq g1.symm))
  refine own_go (A := T97.setTop (mkF m 226 #[.val (.int p1), .unset, .unset, .unset] [(.int (32 : Int32)), (.ref b1), (.ref b1)])) (fun t_ k_ => ?_) ?_
  · show Steps p.tables e below (T97.setTop (mkF m 223 #[.val (.int p1), .unset, .unset, .unset] [(.ref b1)])) t_
    refine XS.dup X97.here hx rfl (hb hby at_223) rfl rfl ?_
    show Steps p.tables e below (T97.setTop (mkF m 224 #[.val (.int p1), .unset, .unset, .unset] [(.ref b1), (.ref b1)])) t_
    refine XS.bipush X97.here hx rfl (hb hby at_224) ?_
    exact k_
  obtain ⟨T98, X98, e98, st98⟩ := getS2 X97 hx hZ hown (host := "") (Or.inl (own_w hw 68 rfl)) Via.refl e97 (u97.ext O97.2) (g := (mkF m 226 #[.val (.int p1), .unset, .unset, .unset] [(.int (32 : Int32)), (.ref b1), (.ref b1)])) rfl (hb hby at_226)
  refine own_go st98 ?_
  obtain ⟨cl99, Ar99, q99, S99, M99, H99, G99⟩ := id B97
  have hin99 : ¬ ((32 : Int32) < 0 ∨ cl99.slots.size ≤ ((32 : Int32)).toNatClampNeg) := inb_of S99 ⟨by decide, by decide⟩
  obtain ⟨T100, h100, X100, e100, W100, st100⟩ := stR X98 hx hZ e98 Ar99 (j := (32 : Int32)) hin99 rfl (Sto.ofV Ar99 q99 V1 (Ins.self (u98.ext O97.2))) (g := (mkF m 229 #[.val (.int p1), .unset, .unset, .unset] [(.ref ad32), (.int (32 : Int32)), (.ref b1), (.ref b1)])) rfl rfl (hb hby at_229)
  have B100 : Arv Z h100 b1 k1 (.object "com/example/querent/querent/dicom/Vr") (34 : Int32) [(.ref ad0), (.ref ad1), (.ref ad2), (.ref ad3), (.ref ad4), (.ref ad5), (.ref ad6), (.ref ad7), (.ref ad8), (.ref ad9), (.ref ad10), (.ref ad11), (.ref ad12), (.ref ad13), (.ref ad14), (.ref ad15), (.ref ad16), (.ref ad17), (.ref ad18), (.ref ad19), (.ref ad20), (.ref ad21), (.ref ad22), (.ref ad23), (.ref ad24), (.ref ad25), (.ref ad26), (.ref ad27), (.ref ad28), (.ref ad29), (.ref ad30), (.ref ad31), (.ref ad32), .null] .null := Arv.set Ar99 q99 S99 M99 H99 G99 rfl W100 32 rfl (Nat.le_of_ble_eq_true rfl)
  refine own_go st100 ?_
  have K100 : Keep h0 h100 [] := K97.wr W100 (Or.inr (Nat.le_of_eq g1.symm))
  have O100 := O97.wr W100 (Nat.le_trans Z0 (Nat.le_of_eq g1.symm))
  have N100 := Fr.snoc X100 N97 (Nat.le_trans Z0 (Nat.le_of_eq g1.symm))
  refine own_go (A := T100.setTop (mkF m 233 #[.val (.int p1), .unset, .unset, .unset] [(.int (33 : Int32)), (.ref b1), (.ref b1)])) (fun t_ k_ => ?_) ?_
  · show Steps p.tables e below (T100.setTop (mkF m 230 #[.val (.int p1), .unset, .unset, .unset] [(.ref b1)])) t_
    refine XS.dup X100.here hx rfl (hb hby at_230) rfl rfl ?_
    show Steps p.tables e below (T100.setTop (mkF m 231 #[.val (.int p1), .unset, .unset, .unset] [(.ref b1), (.ref b1)])) t_
    refine XS.bipush X100.here hx rfl (hb hby at_231) ?_
    exact k_
  obtain ⟨T101, X101, e101, st101⟩ := getS2 X100 hx hZ hown (host := "") (Or.inl (own_w hw 70 rfl)) Via.refl e100 (u100.ext O100.2) (g := (mkF m 233 #[.val (.int p1), .unset, .unset, .unset] [(.int (33 : Int32)), (.ref b1), (.ref b1)])) rfl (hb hby at_233)
  refine own_go st101 ?_
  obtain ⟨cl102, Ar102, q102, S102, M102, H102, G102⟩ := id B100
  have hin102 : ¬ ((33 : Int32) < 0 ∨ cl102.slots.size ≤ ((33 : Int32)).toNatClampNeg) := inb_of S102 ⟨by decide, by decide⟩
  obtain ⟨T103, h103, X103, e103, W103, st103⟩ := stR X101 hx hZ e101 Ar102 (j := (33 : Int32)) hin102 rfl (Sto.ofV Ar102 q102 V1 (Ins.self (u101.ext O100.2))) (g := (mkF m 236 #[.val (.int p1), .unset, .unset, .unset] [(.ref ad33), (.int (33 : Int32)), (.ref b1), (.ref b1)])) rfl rfl (hb hby at_236)
  have B103 : Arv Z h103 b1 k1 (.object "com/example/querent/querent/dicom/Vr") (34 : Int32) [(.ref ad0), (.ref ad1), (.ref ad2), (.ref ad3), (.ref ad4), (.ref ad5), (.ref ad6), (.ref ad7), (.ref ad8), (.ref ad9), (.ref ad10), (.ref ad11), (.ref ad12), (.ref ad13), (.ref ad14), (.ref ad15), (.ref ad16), (.ref ad17), (.ref ad18), (.ref ad19), (.ref ad20), (.ref ad21), (.ref ad22), (.ref ad23), (.ref ad24), (.ref ad25), (.ref ad26), (.ref ad27), (.ref ad28), (.ref ad29), (.ref ad30), (.ref ad31), (.ref ad32), (.ref ad33)] .null := Arv.set Ar102 q102 S102 M102 H102 G102 rfl W103 33 rfl (Nat.le_of_ble_eq_true rfl)
  refine own_go st103 ?_
  have K103 : Keep h0 h103 [] := K100.wr W103 (Or.inr (Nat.le_of_eq g1.symm))
  have O103 := O100.wr W103 (Nat.le_trans Z0 (Nat.le_of_eq g1.symm))
  have N103 := Fr.snoc X103 N100 (Nat.le_trans Z0 (Nat.le_of_eq g1.symm))
  refine own_go (A := T103.setTop (mkF m 240 #[.val (.int p1), .val (.ref b1), .unset, .unset] [(.int (34 : Int32))])) (fun t_ k_ => ?_) ?_
  · show Steps p.tables e below (T103.setTop (mkF m 237 #[.val (.int p1), .unset, .unset, .unset] [(.ref b1)])) t_
    refine XS.astoreN X103.here hx rfl (hb hby at_237) rfl rfl (l' := #[.val (.int p1), .val (.ref b1), .unset, .unset]) rfl ?_
    show Steps p.tables e below (T103.setTop (mkF m 238 #[.val (.int p1), .val (.ref b1), .unset, .unset] [])) t_
    refine XS.bipush X103.here hx rfl (hb hby at_238) ?_
    exact k_
  obtain ⟨T104, h104, k104, X104, e104, E104, A104, st104⟩ := newP X103 hx hZ (own_w hw 72 rfl) e103 (g := (mkF m 240 #[.val (.int p1), .val (.ref b1), .unset, .unset] [(.int (34 : Int32))])) rfl (hb hby at_240) rfl (by decide) (cap := 34) (by decide) (by decide) (by decide) (by decide)
  obtain ⟨b104, g104⟩ : ∃ z, z = h103.size := ⟨_, rfl⟩
  rw [← g104] at A104 st104
  refine own_go st104 ?_
  have K104 : Keep h0 h104 [] := K103.ext E104
  have O104 := O103.ext E104
  have B104 : Arv Z h104 b104 k104 .int (34 : Int32) [(.int (0 : Int32)), (.int (0 : Int32)), (.int (0 : Int32)), (.int (0 : Int32)), (.int (0 : Int32)), (.int (0 : Int32)), (.int (0 : Int32)), (.int (0 : Int32)), (.int (0 : Int32)), (.int (0 : Int32)), (.int (0 : Int32)), (.int (0 : Int32)), (.int (0 : Int32)), (.int (0 : Int32)), (.int (0 : Int32)), (.int (0 : Int32)), (.int (0 : Int32)), (.int (0 : Int32)), (.int (0 : Int32)), (.int (0 : Int32)), (.int (0 : Int32)), (.int (0 : Int32)), (.int (0 : Int32)), (.int (0 : Int32)), (.int (0 : Int32)), (.int (0 : Int32)), (.int (0 : Int32)), (.int (0 : Int32)), (.int (0 : Int32)), (.int (0 : Int32)), (.int (0 : Int32)), (.int (0 : Int32)), (.int (0 : Int32)), (.int (0 : Int32))] (.int (0 : Int32)) := (Arv.new A104 (by decide)).pad (pad_rep [] (.int (0 : Int32)) 34)
  refine own_go (A := T104.setTop (mkF m 245 #[.val (.int p1), .val (.ref b1), .unset, .unset] [(.int (0 : Int32)), (.int (0 : Int32)), (.ref b104), (.ref b104)])) (fun t_ k_ => ?_) ?_
  · show Steps p.tables e below (T104.setTop (mkF m 242 #[.val (.int p1), .val (.ref b1), .unset, .unset] [(.ref b104)])) t_
    refine XS.dup X104.here hx rfl (hb hby at_242) rfl rfl ?_
    show Steps p.tables e below (T104.setTop (mkF m 243 #[.val (.int p1), .val (.ref b1), .unset, .unset] [(.ref b104), (.ref b104)])) t_
    refine XS.iconst X104.here hx rfl (hb hby at_243) ?_
    show Steps p.tables e below (T104.setTop (mkF m 244 #[.val (.int p1), .val (.ref b1), .unset, .unset] [(.int (0 : Int32)), (.ref b104), (.ref b104)])) t_
    refine XS.iconst X104.here hx rfl (hb hby at_244) ?_
    exact k_
  obtain ⟨cl105, Ar105, q105, S105, M105, H105, G105⟩ := id B104
  have hin105 : ¬ ((0 : Int32) < 0 ∨ cl105.slots.size ≤ ((0 : Int32)).toNatClampNeg) := inb_of S105 ⟨by decide, by decide⟩
  obtain ⟨T106, h106, X106, e106, W106, st106⟩ := stI X104 hx hZ e104 Ar105 (j := (0 : Int32)) hin105 (g := (mkF m 245 #[.val (.int p1), .val (.ref b1), .unset, .unset] [(.int (0 : Int32)), (.int (0 : Int32)), (.ref b104), (.ref b104)])) rfl rfl (hb hby at_245)
  have B106 : Arv Z h106 b104 k104 .int (34 : Int32) [(.int (0 : Int32)), (.int (0 : Int32)), (.int (0 : Int32)), (.int (0 : Int32)), (.int (0 : Int32)), (.int (0 : Int32)), (.int (0 : Int32)), (.int (0 : Int32)), (.int (0 : Int32)), (.int (0 : Int32)), (.int (0 : Int32)), (.int (0 : Int32)), (.int (0 : Int32)), (.int (0 : Int32)), (.int (0 : Int32)), (.int (0 : Int32)), (.int (0 : Int32)), (.int (0 : Int32)), (.int (0 : Int32)), (.int (0 : Int32)), (.int (0 : Int32)), (.int (0 : Int32)), (.int (0 : Int32)), (.int (0 : Int32)), (.int (0 : Int32)), (.int (0 : Int32)), (.int (0 : Int32)), (.int (0 : Int32)), (.int (0 : Int32)), (.int (0 : Int32)), (.int (0 : Int32)), (.int (0 : Int32)), (.int (0 : Int32)), (.int (0 : Int32))] (.int (0 : Int32)) := Arv.set Ar105 q105 S105 M105 H105 G105 rfl W106 0 rfl (Nat.le_of_ble_eq_true rfl)
  refine own_go st106 ?_
  have K106 : Keep h0 h106 [] := K104.wr W106 (Or.inr (Nat.le_trans K103.1 (Nat.le_of_eq g104.symm)))
  have O106 := O104.wr W106 (Nat.le_trans Z0 (Nat.le_trans K103.1 (Nat.le_of_eq g104.symm)))
  have N106 := Fr.snoc X106 N103 (Nat.le_trans Z0 (Nat.le_trans K103.1 (Nat.le_of_eq g104.symm)))
  refine own_go (A := T106.setTop (mkF m 249 #[.val (.int p1), .val (.ref b1), .unset, .unset] [(.int (0 : Int32)), (.int (1 : Int32)), (.ref b104), (.ref b104)])) (fun t_ k_ => ?_) ?_
  · show Steps p.tables e below (T106.setTop (mkF m 246 #[.val (.int p1), .val (.ref b1), .unset, .unset] [(.ref b104)])) t_
    refine XS.dup X106.here hx rfl (hb hby at_246) rfl rfl ?_
    show Steps p.tables e below (T106.setTop (mkF m 247 #[.val (.int p1), .val (.ref b1), .unset, .unset] [(.ref b104), (.ref b104)])) t_
    refine XS.iconst X106.here hx rfl (hb hby at_247) ?_
    show Steps p.tables e below (T106.setTop (mkF m 248 #[.val (.int p1), .val (.ref b1), .unset, .unset] [(.int (1 : Int32)), (.ref b104), (.ref b104)])) t_
    refine XS.iconst X106.here hx rfl (hb hby at_248) ?_
    exact k_
  obtain ⟨cl107, Ar107, q107, S107, M107, H107, G107⟩ := id B106
  have hin107 : ¬ ((1 : Int32) < 0 ∨ cl107.slots.size ≤ ((1 : Int32)).toNatClampNeg) := inb_of S107 ⟨by decide, by decide⟩
  obtain ⟨T108, h108, X108, e108, W108, st108⟩ := stI X106 hx hZ e106 Ar107 (j := (1 : Int32)) hin107 (g := (mkF m 249 #[.val (.int p1), .val (.ref b1), .unset, .unset] [(.int (0 : Int32)), (.int (1 : Int32)), (.ref b104), (.ref b104)])) rfl rfl (hb hby at_249)
  have B108 : Arv Z h108 b104 k104 .int (34 : Int32) [(.int (0 : Int32)), (.int (0 : Int32)), (.int (0 : Int32)), (.int (0 : Int32)), (.int (0 : Int32)), (.int (0 : Int32)), (.int (0 : Int32)), (.int (0 : Int32)), (.int (0 : Int32)), (.int (0 : Int32)), (.int (0 : Int32)), (.int (0 : Int32)), (.int (0 : Int32)), (.int (0 : Int32)), (.int (0 : Int32)), (.int (0 : Int32)), (.int (0 : Int32)), (.int (0 : Int32)), (.int (0 : Int32)), (.int (0 : Int32)), (.int (0 : Int32)), (.int (0 : Int32)), (.int (0 : Int32)), (.int (0 : Int32)), (.int (0 : Int32)), (.int (0 : Int32)), (.int (0 : Int32)), (.int (0 : Int32)), (.int (0 : Int32)), (.int (0 : Int32)), (.int (0 : Int32)), (.int (0 : Int32)), (.int (0 : Int32)), (.int (0 : Int32))] (.int (0 : Int32)) := Arv.set Ar107 q107 S107 M107 H107 G107 rfl W108 1 rfl (Nat.le_of_ble_eq_true rfl)
  refine own_go st108 ?_
  have K108 : Keep h0 h108 [] := K106.wr W108 (Or.inr (Nat.le_trans K103.1 (Nat.le_of_eq g104.symm)))
  have O108 := O106.wr W108 (Nat.le_trans Z0 (Nat.le_trans K103.1 (Nat.le_of_eq g104.symm)))
  have N108 := Fr.snoc X108 N106 (Nat.le_trans Z0 (Nat.le_trans K103.1 (Nat.le_of_eq g104.symm)))
  refine own_go (A := T108.setTop (mkF m 253 #[.val (.int p1), .val (.ref b1), .unset, .unset] [(.int (0 : Int32)), (.int (2 : Int32)), (.ref b104), (.ref b104)])) (fun t_ k_ => ?_) ?_
  · show Steps p.tables e below (T108.setTop (mkF m 250 #[.val (.int p1), .val (.ref b1), .unset, .unset] [(.ref b104)])) t_
    refine XS.dup X108.here hx rfl (hb hby at_250) rfl rfl ?_
    show Steps p.tables e below (T108.setTop (mkF m 251 #[.val (.int p1), .val (.ref b1), .unset, .unset] [(.ref b104), (.ref b104)])) t_
    refine XS.iconst X108.here hx rfl (hb hby at_251) ?_
    show Steps p.tables e below (T108.setTop (mkF m 252 #[.val (.int p1), .val (.ref b1), .unset, .unset] [(.int (2 : Int32)), (.ref b104), (.ref b104)])) t_
    refine XS.iconst X108.here hx rfl (hb hby at_252) ?_
    exact k_
  obtain ⟨cl109, Ar109, q109, S109, M109, H109, G109⟩ := id B108
  have hin109 : ¬ ((2 : Int32) < 0 ∨ cl109.slots.size ≤ ((2 : Int32)).toNatClampNeg) := inb_of S109 ⟨by decide, by decide⟩
  obtain ⟨T110, h110, X110, e110, W110, st110⟩ := stI X108 hx hZ e108 Ar109 (j := (2 : Int32)) hin109 (g := (mkF m 253 #[.val (.int p1), .val (.ref b1), .unset, .unset] [(.int (0 : Int32)), (.int (2 : Int32)), (.ref b104), (.ref b104)])) rfl rfl (hb hby at_253)
  have B110 : Arv Z h110 b104 k104 .int (34 : Int32) [(.int (0 : Int32)), (.int (0 : Int32)), (.int (0 : Int32)), (.int (0 : Int32)), (.int (0 : Int32)), (.int (0 : Int32)), (.int (0 : Int32)), (.int (0 : Int32)), (.int (0 : Int32)), (.int (0 : Int32)), (.int (0 : Int32)), (.int (0 : Int32)), (.int (0 : Int32)), (.int (0 : Int32)), (.int (0 : Int32)), (.int (0 : Int32)), (.int (0 : Int32)), (.int (0 : Int32)), (.int (0 : Int32)), (.int (0 : Int32)), (.int (0 : Int32)), (.int (0 : Int32)), (.int (0 : Int32)), (.int (0 : Int32)), (.int (0 : Int32)), (.int (0 : Int32)), (.int (0 : Int32)), (.int (0 : Int32)), (.int (0 : Int32)), (.int (0 : Int32)), (.int (0 : Int32)), (.int (0 : Int32)), (.int (0 : Int32)), (.int (0 : Int32))] (.int (0 : Int32)) := Arv.set Ar109 q109 S109 M109 H109 G109 rfl W110 2 rfl (Nat.le_of_ble_eq_true rfl)
  refine own_go st110 ?_
  have K110 : Keep h0 h110 [] := K108.wr W110 (Or.inr (Nat.le_trans K103.1 (Nat.le_of_eq g104.symm)))
  have O110 := O108.wr W110 (Nat.le_trans Z0 (Nat.le_trans K103.1 (Nat.le_of_eq g104.symm)))
  have N110 := Fr.snoc X110 N108 (Nat.le_trans Z0 (Nat.le_trans K103.1 (Nat.le_of_eq g104.symm)))
  refine own_go (A := T110.setTop (mkF m 257 #[.val (.int p1), .val (.ref b1), .unset, .unset] [(.int (0 : Int32)), (.int (3 : Int32)), (.ref b104), (.ref b104)])) (fun t_ k_ => ?_) ?_
  · show Steps p.tables e below (T110.setTop (mkF m 254 #[.val (.int p1), .val (.ref b1), .unset, .unset] [(.ref b104)])) t_
    refine XS.dup X110.here hx rfl (hb hby at_254) rfl rfl ?_
    show Steps p.tables e below (T110.setTop (mkF m 255 #[.val (.int p1), .val (.ref b1), .unset, .unset] [(.ref b104), (.ref b104)])) t_
    refine XS.iconst X110.here hx rfl (hb hby at_255) ?_
    show Steps p.tables e below (T110.setTop (mkF m 256 #[.val (.int p1), .val (.ref b1), .unset, .unset] [(.int (3 : Int32)), (.ref b104), (.ref b104)])) t_
    refine XS.iconst X110.here hx rfl (hb hby at_256) ?_
    exact k_
  obtain ⟨cl111, Ar111, q111, S111, M111, H111, G111⟩ := id B110
  have hin111 : ¬ ((3 : Int32) < 0 ∨ cl111.slots.size ≤ ((3 : Int32)).toNatClampNeg) := inb_of S111 ⟨by decide, by decide⟩
  obtain ⟨T112, h112, X112, e112, W112, st112⟩ := stI X110 hx hZ e110 Ar111 (j := (3 : Int32)) hin111 (g := (mkF m 257 #[.val (.int p1), .val (.ref b1), .unset, .unset] [(.int (0 : Int32)), (.int (3 : Int32)), (.ref b104), (.ref b104)])) rfl rfl (hb hby at_257)
  have B112 : Arv Z h112 b104 k104 .int (34 : Int32) [(.int (0 : Int32)), (.int (0 : Int32)), (.int (0 : Int32)), (.int (0 : Int32)), (.int (0 : Int32)), (.int (0 : Int32)), (.int (0 : Int32)), (.int (0 : Int32)), (.int (0 : Int32)), (.int (0 : Int32)), (.int (0 : Int32)), (.int (0 : Int32)), (.int (0 : Int32)), (.int (0 : Int32)), (.int (0 : Int32)), (.int (0 : Int32)), (.int (0 : Int32)), (.int (0 : Int32)), (.int (0 : Int32)), (.int (0 : Int32)), (.int (0 : Int32)), (.int (0 : Int32)), (.int (0 : Int32)), (.int (0 : Int32)), (.int (0 : Int32)), (.int (0 : Int32)), (.int (0 : Int32)), (.int (0 : Int32)), (.int (0 : Int32)), (.int (0 : Int32)), (.int (0 : Int32)), (.int (0 : Int32)), (.int (0 : Int32)), (.int (0 : Int32))] (.int (0 : Int32)) := Arv.set Ar111 q111 S111 M111 H111 G111 rfl W112 3 rfl (Nat.le_of_ble_eq_true rfl)
  refine own_go st112 ?_
  have K112 : Keep h0 h112 [] := K110.wr W112 (Or.inr (Nat.le_trans K103.1 (Nat.le_of_eq g104.symm)))
  have O112 := O110.wr W112 (Nat.le_trans Z0 (Nat.le_trans K103.1 (Nat.le_of_eq g104.symm)))
  have N112 := Fr.snoc X112 N110 (Nat.le_trans Z0 (Nat.le_trans K103.1 (Nat.le_of_eq g104.symm)))
  refine own_go (A := T112.setTop (mkF m 261 #[.val (.int p1), .val (.ref b1), .unset, .unset] [(.int (0 : Int32)), (.int (4 : Int32)), (.ref b104), (.ref b104)])) (fun t_ k_ => ?_) ?_
  · show Steps p.tables e below (T112.setTop (mkF m 258 #[.val (.int p1), .val (.ref b1), .unset, .unset] [(.ref b104)])) t_
    refine XS.dup X112.here hx rfl (hb hby at_258) rfl rfl ?_
    show Steps p.tables e below (T112.setTop (mkF m 259 #[.val (.int p1), .val (.ref b1), .unset, .unset] [(.ref b104), (.ref b104)])) t_
    refine XS.iconst X112.here hx rfl (hb hby at_259) ?_
    show Steps p.tables e below (T112.setTop (mkF m 260 #[.val (.int p1), .val (.ref b1), .unset, .unset] [(.int (4 : Int32)), (.ref b104), (.ref b104)])) t_
    refine XS.iconst X112.here hx rfl (hb hby at_260) ?_
    exact k_
  obtain ⟨cl113, Ar113, q113, S113, M113, H113, G113⟩ := id B112
  have hin113 : ¬ ((4 : Int32) < 0 ∨ cl113.slots.size ≤ ((4 : Int32)).toNatClampNeg) := inb_of S113 ⟨by decide, by decide⟩
  obtain ⟨T114, h114, X114, e114, W114, st114⟩ := stI X112 hx hZ e112 Ar113 (j := (4 : Int32)) hin113 (g := (mkF m 261 #[.val (.int p1), .val (.ref b1), .unset, .unset] [(.int (0 : Int32)), (.int (4 : Int32)), (.ref b104), (.ref b104)])) rfl rfl (hb hby at_261)
  have B114 : Arv Z h114 b104 k104 .int (34 : Int32) [(.int (0 : Int32)), (.int (0 : Int32)), (.int (0 : Int32)), (.int (0 : Int32)), (.int (0 : Int32)), (.int (0 : Int32)), (.int (0 : Int32)), (.int (0 : Int32)), (.int (0 : Int32)), (.int (0 : Int32)), (.int (0 : Int32)), (.int (0 : Int32)), (.int (0 : Int32)), (.int (0 : Int32)), (.int (0 : Int32)), (.int (0 : Int32)), (.int (0 : Int32)), (.int (0 : Int32)), (.int (0 : Int32)), (.int (0 : Int32)), (.int (0 : Int32)), (.int (0 : Int32)), (.int (0 : Int32)), (.int (0 : Int32)), (.int (0 : Int32)), (.int (0 : Int32)), (.int (0 : Int32)), (.int (0 : Int32)), (.int (0 : Int32)), (.int (0 : Int32)), (.int (0 : Int32)), (.int (0 : Int32)), (.int (0 : Int32)), (.int (0 : Int32))] (.int (0 : Int32)) := Arv.set Ar113 q113 S113 M113 H113 G113 rfl W114 4 rfl (Nat.le_of_ble_eq_true rfl)
  refine own_go st114 ?_
  have K114 : Keep h0 h114 [] := K112.wr W114 (Or.inr (Nat.le_trans K103.1 (Nat.le_of_eq g104.symm)))
  have O114 := O112.wr W114 (Nat.le_trans Z0 (Nat.le_trans K103.1 (Nat.le_of_eq g104.symm)))
  have N114 := Fr.snoc X114 N112 (Nat.le_trans Z0 (Nat.le_trans K103.1 (Nat.le_of_eq g104.symm)))
  refine own_go (A := T114.setTop (mkF m 265 #[.val (.int p1), .val (.ref b1), .unset, .unset] [(.int (0 : Int32)), (.int (5 : Int32)), (.ref b104), (.ref b104)])) (fun t_ k_ => ?_) ?_
  · show Steps p.tables e below (T114.setTop (mkF m 262 #[.val (.int p1), .val (.ref b1), .unset, .unset] [(.ref b104)])) t_
    refine XS.dup X114.here hx rfl (hb hby at_262) rfl rfl ?_
    show Steps p.tables e below (T114.setTop (mkF m 263 #[.val (.int p1), .val (.ref b1), .unset, .unset] [(.ref b104), (.ref b104)])) t_
    refine XS.iconst X114.here hx rfl (hb hby at_263) ?_
    show Steps p.tables e below (T114.setTop (mkF m 264 #[.val (.int p1), .val (.ref b1), .unset, .unset] [(.int (5 : Int32)), (.ref b104), (.ref b104)])) t_
    refine XS.iconst X114.here hx rfl (hb hby at_264) ?_
    exact k_
  obtain ⟨cl115, Ar115, q115, S115, M115, H115, G115⟩ := id B114
  have hin115 : ¬ ((5 : Int32) < 0 ∨ cl115.slots.size ≤ ((5 : Int32)).toNatClampNeg) := inb_of S115 ⟨by decide, by decide⟩
  obtain ⟨T116, h116, X116, e116, W116, st116⟩ := stI X114 hx hZ e114 Ar115 (j := (5 : Int32)) hin115 (g := (mkF m 265 #[.val (.int p1), .val (.ref b1), .unset, .unset] [(.int (0 : Int32)), (.int (5 : Int32)), (.ref b104), (.ref b104)])) rfl rfl (hb hby at_265)
  have B116 : Arv Z h116 b104 k104 .int (34 : Int32) [(.int (0 : Int32)), (.int (0 : Int32)), (.int (0 : Int32)), (.int (0 : Int32)), (.int (0 : Int32)), (.int (0 : Int32)), (.int (0 : Int32)), (.int (0 : Int32)), (.int (0 : Int32)), (.int (0 : Int32)), (.int (0 : Int32)), (.int (0 : Int32)), (.int (0 : Int32)), (.int (0 : Int32)), (.int (0 : Int32)), (.int (0 : Int32)), (.int (0 : Int32)), (.int (0 : Int32)), (.int (0 : Int32)), (.int (0 : Int32)), (.int (0 : Int32)), (.int (0 : Int32)), (.int (0 : Int32)), (.int (0 : Int32)), (.int (0 : Int32)), (.int (0 : Int32)), (.int (0 : Int32)), (.int (0 : Int32)), (.int (0 : Int32)), (.int (0 : Int32)), (.int (0 : Int32)), (.int (0 : Int32)), (.int (0 : Int32)), (.int (0 : Int32))] (.int (0 : Int32)) := Arv.set Ar115 q115 S115 M115 H115 G115 rfl W116 5 rfl (Nat.le_of_ble_eq_true rfl)
  refine own_go st116 ?_
  have K116 : Keep h0 h116 [] := K114.wr W116 (Or.inr (Nat.le_trans K103.1 (Nat.le_of_eq g104.symm)))
  have O116 := O114.wr W116 (Nat.le_trans Z0 (Nat.le_trans K103.1 (Nat.le_of_eq g104.symm)))
  have N116 := Fr.snoc X116 N114 (Nat.le_trans Z0 (Nat.le_trans K103.1 (Nat.le_of_eq g104.symm)))
  refine own_go (A := T116.setTop (mkF m 270 #[.val (.int p1), .val (.ref b1), .unset, .unset] [(.int (0 : Int32)), (.int (6 : Int32)), (.ref b104), (.ref b104)])) (fun t_ k_ => ?_) ?_
  · show Steps p.tables e below (T116.setTop (mkF m 266 #[.val (.int p1), .val (.ref b1), .unset, .unset] [(.ref b104)])) t_
    refine XS.dup X116.here hx rfl (hb hby at_266) rfl rfl ?_
    show Steps p.tables e below (T116.setTop (mkF m 267 #[.val (.int p1), .val (.ref b1), .unset, .unset] [(.ref b104), (.ref b104)])) t_
    refine XS.bipush X116.here hx rfl (hb hby at_267) ?_
    show Steps p.tables e below (T116.setTop (mkF m 269 #[.val (.int p1), .val (.ref b1), .unset, .unset] [(.int (6 : Int32)), (.ref b104), (.ref b104)])) t_
    refine XS.iconst X116.here hx rfl (hb hby at_269) ?_
    exact k_
  obtain ⟨cl117, Ar117, q117, S117, M117, H117, G117⟩ := id B116
  have hin117 : ¬ ((6 : Int32) < 0 ∨ cl117.slots.size ≤ ((6 : Int32)).toNatClampNeg) := inb_of S117 ⟨by decide, by decide⟩
  obtain ⟨T118, h118, X118, e118, W118, st118⟩ := stI X116 hx hZ e116 Ar117 (j := (6 : Int32)) hin117 (g := (mkF m 270 #[.val (.int p1), .val (.ref b1), .unset, .unset] [(.int (0 : Int32)), (.int (6 : Int32)), (.ref b104), (.ref b104)])) rfl rfl (hb hby at_270)
  have B118 : Arv Z h118 b104 k104 .int (34 : Int32) [(.int (0 : Int32)), (.int (0 : Int32)), (.int (0 : Int32)), (.int (0 : Int32)), (.int (0 : Int32)), (.int (0 : Int32)), (.int (0 : Int32)), (.int (0 : Int32)), (.int (0 : Int32)), (.int (0 : Int32)), (.int (0 : Int32)), (.int (0 : Int32)), (.int (0 : Int32)), (.int (0 : Int32)), (.int (0 : Int32)), (.int (0 : Int32)), (.int (0 : Int32)), (.int (0 : Int32)), (.int (0 : Int32)), (.int (0 : Int32)), (.int (0 : Int32)), (.int (0 : Int32)), (.int (0 : Int32)), (.int (0 : Int32)), (.int (0 : Int32)), (.int (0 : Int32)), (.int (0 : Int32)), (.int (0 : Int32)), (.int (0 : Int32)), (.int (0 : Int32)), (.int (0 : Int32)), (.int (0 : Int32)), (.int (0 : Int32)), (.int (0 : Int32))] (.int (0 : Int32)) := Arv.set Ar117 q117 S117 M117 H117 G117 rfl W118 6 rfl (Nat.le_of_ble_eq_true rfl)
  refine own_go st118 ?_
  have K118 : Keep h0 h118 [] := K116.wr W118 (Or.inr (Nat.le_trans K103.1 (Nat.le_of_eq g104.symm)))
  have O118 := O116.wr W118 (Nat.le_trans Z0 (Nat.le_trans K103.1 (Nat.le_of_eq g104.symm)))
  have N118 := Fr.snoc X118 N116 (Nat.le_trans Z0 (Nat.le_trans K103.1 (Nat.le_of_eq g104.symm)))
  refine own_go (A := T118.setTop (mkF m 276 #[.val (.int p1), .val (.ref b1), .unset, .unset] [(.int (8 : Int32)), (.int (7 : Int32)), (.ref b104), (.ref b104)])) (fun t_ k_ => ?_) ?_
  · show Steps p.tables e below (T118.setTop (mkF m 271 #[.val (.int p1), .val (.ref b1), .unset, .unset] [(.ref b104)])) t_
    refine XS.dup X118.here hx rfl (hb hby at_271) rfl rfl ?_
    show Steps p.tables e below (T118.setTop (mkF m 272 #[.val (.int p1), .val (.ref b1), .unset, .unset] [(.ref b104), (.ref b104)])) t_
    refine XS.bipush X118.here hx rfl (hb hby at_272) ?_
    show Steps p.tables e below (T118.setTop (mkF m 274 #[.val (.int p1), .val (.ref b1), .unset, .unset] [(.int (7 : Int32)), (.ref b104), (.ref b104)])) t_
    refine XS.bipush X118.here hx rfl (hb hby at_274) ?_
    exact k_
  obtain ⟨cl119, Ar119, q119, S119, M119, H119, G119⟩ := id B118
  have hin119 : ¬ ((7 : Int32) < 0 ∨ cl119.slots.size ≤ ((7 : Int32)).toNatClampNeg) := inb_of S119 ⟨by decide, by decide⟩
  obtain ⟨T120, h120, X120, e120, W120, st120⟩ := stI X118 hx hZ e118 Ar119 (j := (7 : Int32)) hin119 (g := (mkF m 276 #[.val (.int p1), .val (.ref b1), .unset, .unset] [(.int (8 : Int32)), (.int (7 : Int32)), (.ref b104), (.ref b104)])) rfl rfl (hb hby at_276)
  have B120 : Arv Z h120 b104 k104 .int (34 : Int32) [(.int (0 : Int32)), (.int (0 : Int32)), (.int (0 : Int32)), (.int (0 : Int32)), (.int (0 : Int32)), (.int (0 : Int32)), (.int (0 : Int32)), (.int (8 : Int32)), (.int (0 : Int32)), (.int (0 : Int32)), (.int (0 : Int32)), (.int (0 : Int32)), (.int (0 : Int32)), (.int (0 : Int32)), (.int (0 : Int32)), (.int (0 : Int32)), (.int (0 : Int32)), (.int (0 : Int32)), (.int (0 : Int32)), (.int (0 : Int32)), (.int (0 : Int32)), (.int (0 : Int32)), (.int (0 : Int32)), (.int (0 : Int32)), (.int (0 : Int32)), (.int (0 : Int32)), (.int (0 : Int32)), (.int (0 : Int32)), (.int (0 : Int32)), (.int (0 : Int32)), (.int (0 : Int32)), (.int (0 : Int32)), (.int (0 : Int32)), (.int (0 : Int32))] (.int (0 : Int32)) := Arv.set Ar119 q119 S119 M119 H119 G119 rfl W120 7 rfl (Nat.le_of_ble_eq_true rfl)
  refine own_go st120 ?_
  have K120 : Keep h0 h120 [] := K118.wr W120 (Or.inr (Nat.le_trans K103.1 (Nat.le_of_eq g104.symm)))
  have O120 := O118.wr W120 (Nat.le_trans Z0 (Nat.le_trans K103.1 (Nat.le_of_eq g104.symm)))
  have N120 := Fr.snoc X120 N118 (Nat.le_trans Z0 (Nat.le_trans K103.1 (Nat.le_of_eq g104.symm)))
  refine own_go (A := T120.setTop (mkF m 281 #[.val (.int p1), .val (.ref b1), .unset, .unset] [(.int (4 : Int32)), (.int (8 : Int32)), (.ref b104), (.ref b104)])) (fun t_ k_ => ?_) ?_
  · show Steps p.tables e below (T120.setTop (mkF m 277 #[.val (.int p1), .val (.ref b1), .unset, .unset] [(.ref b104)])) t_
    refine XS.dup X120.here hx rfl (hb hby at_277) rfl rfl ?_
    show Steps p.tables e below (T120.setTop (mkF m 278 #[.val (.int p1), .val (.ref b1), .unset, .unset] [(.ref b104), (.ref b104)])) t_
    refine XS.bipush X120.here hx rfl (hb hby at_278) ?_
    show Steps p.tables e below (T120.setTop (mkF m 280 #[.val (.int p1), .val (.ref b1), .unset, .unset] [(.int (8 : Int32)), (.ref b104), (.ref b104)])) t_
    refine XS.iconst X120.here hx rfl (hb hby at_280) ?_
    exact k_
  obtain ⟨cl121, Ar121, q121, S121, M121, H121, G121⟩ := id B120
  have hin121 : ¬ ((8 : Int32) < 0 ∨ cl121.slots.size ≤ ((8 : Int32)).toNatClampNeg) := inb_of S121 ⟨by decide, by decide⟩
  obtain ⟨T122, h122, X122, e122, W122, st122⟩ := stI X120 hx hZ e120 Ar121 (j := (8 : Int32)) hin121 (g := (mkF m 281 #[.val (.int p1), .val (.ref b1), .unset, .unset] [(.int (4 : Int32)), (.int (8 : Int32)), (.ref b104), (.ref b104)])) rfl rfl (hb hby at_281)
  have B122 : Arv Z h122 b104 k104 .int (34 : Int32) [(.int (0 : Int32)), (.int (0 : Int32)), (.int (0 : Int32)), (.int (0 : Int32)), (.int (0 : Int32)), (.int (0 : Int32)), (.int (0 : Int32)), (.int (8 : Int32)), (.int (4 : Int32)), (.int (0 : Int32)), (.int (0 : Int32)), (.int (0 : Int32)), (.int (0 : Int32)), (.int (0 : Int32)), (.int (0 : Int32)), (.int (0 : Int32)), (.int (0 : Int32)), (.int (0 : Int32)), (.int (0 : Int32)), (.int (0 : Int32)), (.int (0 : Int32)), (.int (0 : Int32)), (.int (0 : Int32)), (.int (0 : Int32)), (.int (0 : Int32)), (.int (0 : Int32)), (.int (0 : Int32)), (.int (0 : Int32)), (.int (0 : Int32)), (.int (0 : Int32)), (.int (0 : Int32)), (.int (0 : Int32)), (.int (0 : Int32)), (.int (0 : Int32))] (.int (0 : Int32)) := Arv.set Ar121 q121 S121 M121 H121 G121 rfl W122 8 rfl (Nat.le_of_ble_eq_true rfl)
  refine own_go st122 ?_
  have K122 : Keep h0 h122 [] := K120.wr W122 (Or.inr (Nat.le_trans K103.1 (Nat.le_of_eq g104.symm)))
  have O122 := O120.wr W122 (Nat.le_trans Z0 (Nat.le_trans K103.1 (Nat.le_of_eq g104.symm)))
  have N122 := Fr.snoc X122 N120 (Nat.le_trans Z0 (Nat.le_trans K103.1 (Nat.le_of_eq g104.symm)))
  refine own_go (A := T122.setTop (mkF m 286 #[.val (.int p1), .val (.ref b1), .unset, .unset] [(.int (0 : Int32)), (.int (9 : Int32)), (.ref b104), (.ref b104)])) (fun t_ k_ => ?_) ?_
  · show Steps p.tables e below (T122.setTop (mkF m 282 #[.val (.int p1), .val (.ref b1), .unset, .unset] [(.ref b104)])) t_
    refine XS.dup X122.here hx rfl (hb hby at_282) rfl rfl ?_
    show Steps p.tables e below (T122.setTop (mkF m 283 #[.val (.int p1), .val (.ref b1), .unset, .unset] [(.ref b104), (.ref b104)])) t_
    refine XS.bipush X122.here hx rfl (hb hby at_283) ?_
    show Steps p.tables e below (T122.setTop (mkF m 285 #[.val (.int p1), .val (.ref b1), .unset, .unset] [(.int (9 : Int32)), (.ref b104), (.ref b104)])) t_
    refine XS.iconst X122.here hx rfl (hb hby at_285) ?_
    exact k_
  obtain ⟨cl123, Ar123, q123, S123, M123, H123, G123⟩ := id B122
  have hin123 : ¬ ((9 : Int32) < 0 ∨ cl123.slots.size ≤ ((9 : Int32)).toNatClampNeg) := inb_of S123 ⟨by decide, by decide⟩
  obtain ⟨T124, h124, X124, e124, W124, st124⟩ := stI X122 hx hZ e122 Ar123 (j := (9 : Int32)) hin123 (g := (mkF m 286 #[.val (.int p1), .val (.ref b1), .unset, .unset] [(.int (0 : Int32)), (.int (9 : Int32)), (.ref b104), (.ref b104)])) rfl rfl (hb hby at_286)
  have B124 : Arv Z h124 b104 k104 .int (34 : Int32) [(.int (0 : Int32)), (.int (0 : Int32)), (.int (0 : Int32)), (.int (0 : Int32)), (.int (0 : Int32)), (.int (0 : Int32)), (.int (0 : Int32)), (.int (8 : Int32)), (.int (4 : Int32)), (.int (0 : Int32)), (.int (0 : Int32)), (.int (0 : Int32)), (.int (0 : Int32)), (.int (0 : Int32)), (.int (0 : Int32)), (.int (0 : Int32)), (.int (0 : Int32)), (.int (0 : Int32)), (.int (0 : Int32)), (.int (0 : Int32)), (.int (0 : Int32)), (.int (0 : Int32)), (.int (0 : Int32)), (.int (0 : Int32)), (.int (0 : Int32)), (.int (0 : Int32)), (.int (0 : Int32)), (.int (0 : Int32)), (.int (0 : Int32)), (.int (0 : Int32)), (.int (0 : Int32)), (.int (0 : Int32)), (.int (0 : Int32)), (.int (0 : Int32))] (.int (0 : Int32)) := Arv.set Ar123 q123 S123 M123 H123 G123 rfl W124 9 rfl (Nat.le_of_ble_eq_true rfl)
  refine own_go st124 ?_
  have K124 : Keep h0 h124 [] := K122.wr W124 (Or.inr (Nat.le_trans K103.1 (Nat.le_of_eq g104.symm)))
  have O124 := O122.wr W124 (Nat.le_trans Z0 (Nat.le_trans K103.1 (Nat.le_of_eq g104.symm)))
  have N124 := Fr.snoc X124 N122 (Nat.le_trans Z0 (Nat.le_trans K103.1 (Nat.le_of_eq g104.symm)))
  refine own_go (A := T124.setTop (mkF m 291 #[.val (.int p1), .val (.ref b1), .unset, .unset] [(.int (0 : Int32)), (.int (10 : Int32)), (.ref b104), (.ref b104)])) (fun t_ k_ => ?_) ?_
  · show Steps p.tables e below (T124.setTop (mkF m 287 #[.val (.int p1), .val (.ref b1), .unset, .unset] [(.ref b104)])) t_
    refine XS.dup X124.here hx rfl (hb hby at_287) rfl rfl ?_
    show Steps p.tables e below (T124.setTop (mkF m 288 #[.val (.int p1), .val (.ref b1), .unset, .unset] [(.ref b104), (.ref b104)])) t_
    refine XS.bipush X124.here hx rfl (hb hby at_288) ?_
    show Steps p.tables e below (T124.setTop (mkF m 290 #[.val (.int p1), .val (.ref b1), .unset, .unset] [(.int (10 : Int32)), (.ref b104), (.ref b104)])) t_
    refine XS.iconst X124.here hx rfl (hb hby at_290) ?_
    exact k_
  obtain ⟨cl125, Ar125, q125, S125, M125, H125, G125⟩ := id B124
  have hin125 : ¬ ((10 : Int32) < 0 ∨ cl125.slots.size ≤ ((10 : Int32)).toNatClampNeg) := inb_of S125 ⟨by decide, by decide⟩
  obtain ⟨T126, h126, X126, e126, W126, st126⟩ := stI X124 hx hZ e124 Ar125 (j := (10 : Int32)) hin125 (g := (mkF m 291 #[.val (.int p1), .val (.ref b1), .unset, .unset] [(.int (0 : Int32)), (.int (10 : Int32)), (.ref b104), (.ref b104)])) rfl rfl (hb hby at_291)
  have B126 : Arv Z h126 b104 k104 .int (34 : Int32) [(.int (0 : Int32)), (.int (0 : Int32)), (.int (0 : Int32)), (.int (0 : Int32)), (.int (0 : Int32)), (.int (0 : Int32)), (.int (0 : Int32)), (.int (8 : Int32)), (.int (4 : Int32)), (.int (0 : Int32)), (.int (0 : Int32)), (.int (0 : Int32)), (.int (0 : Int32)), (.int (0 : Int32)), (.int (0 : Int32)), (.int (0 : Int32)), (.int (0 : Int32)), (.int (0 : Int32)), (.int (0 : Int32)), (.int (0 : Int32)), (.int (0 : Int32)), (.int (0 : Int32)), (.int (0 : Int32)), (.int (0 : Int32)), (.int (0 : Int32)), (.int (0 : Int32)), (.int (0 : Int32)), (.int (0 : Int32)), (.int (0 : Int32)), (.int (0 : Int32)), (.int (0 : Int32)), (.int (0 : Int32)), (.int (0 : Int32)), (.int (0 : Int32))] (.int (0 : Int32)) := Arv.set Ar125 q125 S125 M125 H125 G125 rfl W126 10 rfl (Nat.le_of_ble_eq_true rfl)
  refine own_go st126 ?_
  have K126 : Keep h0 h126 [] := K124.wr W126 (Or.inr (Nat.le_trans K103.1 (Nat.le_of_eq g104.symm)))
  have O126 := O124.wr W126 (Nat.le_trans Z0 (Nat.le_trans K103.1 (Nat.le_of_eq g104.symm)))
  have N126 := Fr.snoc X126 N124 (Nat.le_trans Z0 (Nat.le_trans K103.1 (Nat.le_of_eq g104.symm)))
  refine own_go (A := T126.setTop (mkF m 296 #[.val (.int p1), .val (.ref b1), .unset, .unset] [(.int (0 : Int32)), (.int (11 : Int32)), (.ref b104), (.ref b104)])) (fun t_ k_ => ?_) ?_
  · show Steps p.tables e below (T126.setTop (mkF m 292 #[.val (.int p1), .val (.ref b1), .unset, .unset] [(.ref b104)])) t_
    refine XS.dup X126.here hx rfl (hb hby at_292) rfl rfl ?_
    show Steps p.tables e below (T126.setTop (mkF m 293 #[.val (.int p1), .val (.ref b1), .unset, .unset] [(.ref b104), (.ref b104)])) t_
    refine XS.bipush X126.here hx rfl (hb hby at_293) ?_
    show Steps p.tables e below (T126.setTop (mkF m 295 #[.val (.int p1), .val (.ref b1), .unset, .unset] [(.int (11 : Int32)), (.ref b104), (.ref b104)])) t_
    refine XS.iconst X126.here hx rfl (hb hby at_295) ?_
    exact k_
  obtain ⟨cl127, Ar127, q127, S127, M127, H127, G127⟩ := id B126
  have hin127 : ¬ ((11 : Int32) < 0 ∨ cl127.slots.size ≤ ((11 : Int32)).toNatClampNeg) := inb_of S127 ⟨by decide, by decide⟩
  obtain ⟨T128, h128, X128, e128, W128, st128⟩ := stI X126 hx hZ e126 Ar127 (j := (11 : Int32)) hin127 (g := (mkF m 296 #[.val (.int p1), .val (.ref b1), .unset, .unset] [(.int (0 : Int32)), (.int (11 : Int32)), (.ref b104), (.ref b104)])) rfl rfl (hb hby at_296)
  have B128 : Arv Z h128 b104 k104 .int (34 : Int32) [(.int (0 : Int32)), (.int (0 : Int32)), (.int (0 : Int32)), (.int (0 : Int32)), (.int (0 : Int32)), (.int (0 : Int32)), (.int (0 : Int32)), (.int (8 : Int32)), (.int (4 : Int32)), (.int (0 : Int32)), (.int (0 : Int32)), (.int (0 : Int32)), (.int (0 : Int32)), (.int (0 : Int32)), (.int (0 : Int32)), (.int (0 : Int32)), (.int (0 : Int32)), (.int (0 : Int32)), (.int (0 : Int32)), (.int (0 : Int32)), (.int (0 : Int32)), (.int (0 : Int32)), (.int (0 : Int32)), (.int (0 : Int32)), (.int (0 : Int32)), (.int (0 : Int32)), (.int (0 : Int32)), (.int (0 : Int32)), (.int (0 : Int32)), (.int (0 : Int32)), (.int (0 : Int32)), (.int (0 : Int32)), (.int (0 : Int32)), (.int (0 : Int32))] (.int (0 : Int32)) := Arv.set Ar127 q127 S127 M127 H127 G127 rfl W128 11 rfl (Nat.le_of_ble_eq_true rfl)
  refine own_go st128 ?_
  have K128 : Keep h0 h128 [] := K126.wr W128 (Or.inr (Nat.le_trans K103.1 (Nat.le_of_eq g104.symm)))
  have O128 := O126.wr W128 (Nat.le_trans Z0 (Nat.le_trans K103.1 (Nat.le_of_eq g104.symm)))
  have N128 := Fr.snoc X128 N126 (Nat.le_trans Z0 (Nat.le_trans K103.1 (Nat.le_of_eq g104.symm)))
  refine own_go (A := T128.setTop (mkF m 301 #[.val (.int p1), .val (.ref b1), .unset, .unset] [(.int (0 : Int32)), (.int (12 : Int32)), (.ref b104), (.ref b104)])) (fun t_ k_ => ?_) ?_
  · show Steps p.tables e below (T128.setTop (mkF m 297 #[.val (.int p1), .val (.ref b1), .unset, .unset] [(.ref b104)])) t_
    refine XS.dup X128.here hx rfl (hb hby at_297) rfl rfl ?_
    show Steps p.tables e below (T128.setTop (mkF m 298 #[.val (.int p1), .val (.ref b1), .unset, .unset] [(.ref b104), (.ref b104)])) t_
    refine XS.bipush X128.here hx rfl (hb hby at_298) ?_
    show Steps p.tables e below (T128.setTop (mkF m 300 #[.val (.int p1), .val (.ref b1), .unset, .unset] [(.int (12 : Int32)), (.ref b104), (.ref b104)])) t_
    refine XS.iconst X128.here hx rfl (hb hby at_300) ?_
    exact k_
  obtain ⟨cl129, Ar129, q129, S129, M129, H129, G129⟩ := id B128
  have hin129 : ¬ ((12 : Int32) < 0 ∨ cl129.slots.size ≤ ((12 : Int32)).toNatClampNeg) := inb_of S129 ⟨by decide, by decide⟩
  obtain ⟨T130, h130, X130, e130, W130, st130⟩ := stI X128 hx hZ e128 Ar129 (j := (12 : Int32)) hin129 (g := (mkF m 301 #[.val (.int p1), .val (.ref b1), .unset, .unset] [(.int (0 : Int32)), (.int (12 : Int32)), (.ref b104), (.ref b104)])) rfl rfl (hb hby at_301)
  have B130 : Arv Z h130 b104 k104 .int (34 : Int32) [(.int (0 : Int32)), (.int (0 : Int32)), (.int (0 : Int32)), (.int (0 : Int32)), (.int (0 : Int32)), (.int (0 : Int32)), (.int (0 : Int32)), (.int (8 : Int32)), (.int (4 : Int32)), (.int (0 : Int32)), (.int (0 : Int32)), (.int (0 : Int32)), (.int (0 : Int32)), (.int (0 : Int32)), (.int (0 : Int32)), (.int (0 : Int32)), (.int (0 : Int32)), (.int (0 : Int32)), (.int (0 : Int32)), (.int (0 : Int32)), (.int (0 : Int32)), (.int (0 : Int32)), (.int (0 : Int32)), (.int (0 : Int32)), (.int (0 : Int32)), (.int (0 : Int32)), (.int (0 : Int32)), (.int (0 : Int32)), (.int (0 : Int32)), (.int (0 : Int32)), (.int (0 : Int32)), (.int (0 : Int32)), (.int (0 : Int32)), (.int (0 : Int32))] (.int (0 : Int32)) := Arv.set Ar129 q129 S129 M129 H129 G129 rfl W130 12 rfl (Nat.le_of_ble_eq_true rfl)
  refine own_go st130 ?_
  have K130 : Keep h0 h130 [] := K128.wr W130 (Or.inr (Nat.le_trans K103.1 (Nat.le_of_eq g104.symm)))
  have O130 := O128.wr W130 (Nat.le_trans Z0 (Nat.le_trans K103.1 (Nat.le_of_eq g104.symm)))
  have N130 := Fr.snoc X130 N128 (Nat.le_trans Z0 (Nat.le_trans K103.1 (Nat.le_of_eq g104.symm)))
  refine own_go (A := T130.setTop (mkF m 306 #[.val (.int p1), .val (.ref b1), .unset, .unset] [(.int (0 : Int32)), (.int (13 : Int32)), (.ref b104), (.ref b104)])) (fun t_ k_ => ?_) ?_
  · show Steps p.tables e below (T130.setTop (mkF m 302 #[.val (.int p1), .val (.ref b1), .unset, .unset] [(.ref b104)])) t_
    refine XS.dup X130.here hx rfl (hb hby at_302) rfl rfl ?_
    show Steps p.tables e below (T130.setTop (mkF m 303 #[.val (.int p1), .val (.ref b1), .unset, .unset] [(.ref b104), (.ref b104)])) t_
    refine XS.bipush X130.here hx rfl (hb hby at_303) ?_
    show Steps p.tables e below (T130.setTop (mkF m 305 #[.val (.int p1), .val (.ref b1), .unset, .unset] [(.int (13 : Int32)), (.ref b104), (.ref b104)])) t_
    refine XS.iconst X130.here hx rfl (hb hby at_305) ?_
    exact k_
  obtain ⟨cl131, Ar131, q131, S131, M131, H131, G131⟩ := id B130
  have hin131 : ¬ ((13 : Int32) < 0 ∨ cl131.slots.size ≤ ((13 : Int32)).toNatClampNeg) := inb_of S131 ⟨by decide, by decide⟩
  obtain ⟨T132, h132, X132, e132, W132, st132⟩ := stI X130 hx hZ e130 Ar131 (j := (13 : Int32)) hin131 (g := (mkF m 306 #[.val (.int p1), .val (.ref b1), .unset, .unset] [(.int (0 : Int32)), (.int (13 : Int32)), (.ref b104), (.ref b104)])) rfl rfl (hb hby at_306)
  have B132 : Arv Z h132 b104 k104 .int (34 : Int32) [(.int (0 : Int32)), (.int (0 : Int32)), (.int (0 : Int32)), (.int (0 : Int32)), (.int (0 : Int32)), (.int (0 : Int32)), (.int (0 : Int32)), (.int (8 : Int32)), (.int (4 : Int32)), (.int (0 : Int32)), (.int (0 : Int32)), (.int (0 : Int32)), (.int (0 : Int32)), (.int (0 : Int32)), (.int (0 : Int32)), (.int (0 : Int32)), (.int (0 : Int32)), (.int (0 : Int32)), (.int (0 : Int32)), (.int (0 : Int32)), (.int (0 : Int32)), (.int (0 : Int32)), (.int (0 : Int32)), (.int (0 : Int32)), (.int (0 : Int32)), (.int (0 : Int32)), (.int (0 : Int32)), (.int (0 : Int32)), (.int (0 : Int32)), (.int (0 : Int32)), (.int (0 : Int32)), (.int (0 : Int32)), (.int (0 : Int32)), (.int (0 : Int32))] (.int (0 : Int32)) := Arv.set Ar131 q131 S131 M131 H131 G131 rfl W132 13 rfl (Nat.le_of_ble_eq_true rfl)
  refine own_go st132 ?_
  have K132 : Keep h0 h132 [] := K130.wr W132 (Or.inr (Nat.le_trans K103.1 (Nat.le_of_eq g104.symm)))
  have O132 := O130.wr W132 (Nat.le_trans Z0 (Nat.le_trans K103.1 (Nat.le_of_eq g104.symm)))
  have N132 := Fr.snoc X132 N130 (Nat.le_trans Z0 (Nat.le_trans K103.1 (Nat.le_of_eq g104.symm)))
  refine own_go (A := T132.setTop (mkF m 311 #[.val (.int p1), .val (.ref b1), .unset, .unset] [(.int (0 : Int32)), (.int (14 : Int32)), (.ref b104), (.ref b104)])) (fun t_ k_ => ?_) ?_
  · show Steps p.tables e below (T132.setTop (mkF m 307 #[.val (.int p1), .val (.ref b1), .unset, .unset] [(.ref b104)])) t_
    refine XS.dup X132.here hx rfl (hb hby at_307) rfl rfl ?_
    show Steps p.tables e below (T132.setTop (mkF m 308 #[.val (.int p1), .val (.ref b1), .unset, .unset] [(.ref b104), (.ref b104)])) t_
    refine XS.bipush X132.here hx rfl (hb hby at_308) ?_
    show Steps p.tables e below (T132.setTop (mkF m 310 #[.val (.int p1), .val (.ref b1), .unset, .unset] [(.int (14 : Int32)), (.ref b104), (.ref b104)])) t_
    refine XS.iconst X132.here hx rfl (hb hby at_310) ?_
    exact k_
  obtain ⟨cl133, Ar133, q133, S133, M133, H133, G133⟩ := id B132
  have hin133 : ¬ ((14 : Int32) < 0 ∨ cl133.slots.size ≤ ((14 : Int32)).toNatClampNeg) := inb_of S133 ⟨by decide, by decide⟩
  obtain ⟨T134, h134, X134, e134, W134, st134⟩ := stI X132 hx hZ e132 Ar133 (j := (14 : Int32)) hin133 (g := (mkF m 311 #[.val (.int p1), .val (.ref b1), .unset, .unset] [(.int (0 : Int32)), (.int (14 : Int32)), (.ref b104), (.ref b104)])) rfl rfl (hb hby at_311)
  have B134 : Arv Z h134 b104 k104 .int (34 : Int32) [(.int (0 : Int32)), (.int (0 : Int32)), (.int (0 : Int32)), (.int (0 : Int32)), (.int (0 : Int32)), (.int (0 : Int32)), (.int (0 : Int32)), (.int (8 : Int32)), (.int (4 : Int32)), (.int (0 : Int32)), (.int (0 : Int32)), (.int (0 : Int32)), (.int (0 : Int32)), (.int (0 : Int32)), (.int (0 : Int32)), (.int (0 : Int32)), (.int (0 : Int32)), (.int (0 : Int32)), (.int (0 : Int32)), (.int (0 : Int32)), (.int (0 : Int32)), (.int (0 : Int32)), (.int (0 : Int32)), (.int (0 : Int32)), (.int (0 : Int32)), (.int (0 : Int32)), (.int (0 : Int32)), (.int (0 : Int32)), (.int (0 : Int32)), (.int (0 : Int32)), (.int (0 : Int32)), (.int (0 : Int32)), (.int (0 : Int32)), (.int (0 : Int32))] (.int (0 : Int32)) := Arv.set Ar133 q133 S133 M133 H133 G133 rfl W134 14 rfl (Nat.le_of_ble_eq_true rfl)
  refine own_go st134 ?_
  have K134 : Keep h0 h134 [] := K132.wr W134 (Or.inr (Nat.le_trans K103.1 (Nat.le_of_eq g104.symm)))
  have O134 := O132.wr W134 (Nat.le_trans Z0 (Nat.le_trans K103.1 (Nat.le_of_eq g104.symm)))
  have N134 := Fr.snoc X134 N132 (Nat.le_trans Z0 (Nat.le_trans K103.1 (Nat.le_of_eq g104.symm)))
  refine own_go (A := T134.setTop (mkF m 316 #[.val (.int p1), .val (.ref b1), .unset, .unset] [(.int (0 : Int32)), (.int (15 : Int32)), (.ref b104), (.ref b104)])) (fun t_ k_ => ?_) ?_
  · show Steps p.tables e below (T134.setTop (mkF m 312 #[.val (.int p1), .val (.ref b1), .unset, .unset] [(.ref b104)])) t_
    refine XS.dup X134.here hx rfl (hb hby at_312) rfl rfl ?_
    show Steps p.tables e below (T134.setTop (mkF m 313 #[.val (.int p1), .val (.ref b1), .unset, .unset] [(.ref b104), (.ref b104)])) t_
    refine XS.bipush X134.here hx rfl (hb hby at_313) ?_
    show Steps p.tables e below (T134.setTop (mkF m 315 #[.val (.int p1), .val (.ref b1), .unset, .unset] [(.int (15 : Int32)), (.ref b104), (.ref b104)])) t_
    refine XS.iconst X134.here hx rfl (hb hby at_315) ?_
    exact k_
  obtain ⟨cl135, Ar135, q135, S135, M135, H135, G135⟩ := id B134
  have hin135 : ¬ ((15 : Int32) < 0 ∨ cl135.slots.size ≤ ((15 : Int32)).toNatClampNeg) := inb_of S135 ⟨by decide, by decide⟩
  obtain ⟨T136, h136, X136, e136, W136, st136⟩ := stI X134 hx hZ e134 Ar135 (j := (15 : Int32)) hin135 (g := (mkF m 316 #[.val (.int p1), .val (.ref b1), .unset, .unset] [(.int (0 : Int32)), (.int (15 : Int32)), (.ref b104), (.ref b104)])) rfl rfl (hb hby at_316)
  have B136 : Arv Z h136 b104 k104 .int (34 : Int32) [(.int (0 : Int32)), (.int (0 : Int32)), (.int (0 : Int32)), (.int (0 : Int32)), (.int (0 : Int32)), (.int (0 : Int32)), (.int (0 : Int32)), (.int (8 : Int32)), (.int (4 : Int32)), (.int (0 : Int32)), (.int (0 : Int32)), (.int (0 : Int32)), (.int (0 : Int32)), (.int (0 : Int32)), (.int (0 : Int32)), (.int (0 : Int32)), (.int (0 : Int32)), (.int (0 : Int32)), (.int (0 : Int32)), (.int (0 : Int32)), (.int (0 : Int32)), (.int (0 : Int32)), (.int (0 : Int32)), (.int (0 : Int32)), (.int (0 : Int32)), (.int (0 : Int32)), (.int (0 : Int32)), (.int (0 : Int32)), (.int (0 : Int32)), (.int (0 : Int32)), (.int (0 : Int32)), (.int (0 : Int32)), (.int (0 : Int32)), (.int (0 : Int32))] (.int (0 : Int32)) := Arv.set Ar135 q135 S135 M135 H135 G135 rfl W136 15 rfl (Nat.le_of_ble_eq_true rfl)
  refine own_go st136 ?_
  have K136 : Keep h0 h136 [] := K134.wr W136 (Or.inr (Nat.le_trans K103.1 (Nat.le_of_eq g104.symm)))
  have O136 := O134.wr W136 (Nat.le_trans Z0 (Nat.le_trans K103.1 (Nat.le_of_eq g104.symm)))
  have N136 := Fr.snoc X136 N134 (Nat.le_trans Z0 (Nat.le_trans K103.1 (Nat.le_of_eq g104.symm)))
  refine own_go (A := T136.setTop (mkF m 321 #[.val (.int p1), .val (.ref b1), .unset, .unset] [(.int (0 : Int32)), (.int (16 : Int32)), (.ref b104), (.ref b104)])) (fun t_ k_ => ?_) ?_
  · show Steps p.tables e below (T136.setTop (mkF m 317 #[.val (.int p1), .val (.ref b1), .unset, .unset] [(.ref b104)])) t_
    refine XS.dup X136.here hx rfl (hb hby at_317) rfl rfl ?_
    show Steps p.tables e below (T136.setTop (mkF m 318 #[.val (.int p1), .val (.ref b1), .unset, .unset] [(.ref b104), (.ref b104)])) t_
    refine XS.bipush X136.here hx rfl (hb hby at_318) ?_
    show Steps p.tables e below (T136.setTop (mkF m 320 #[.val (.int p1), .val (.ref b1), .unset, .unset] [(.int (16 : Int32)), (.ref b104), (.ref b104)])) t_
    refine XS.iconst X136.here hx rfl (hb hby at_320) ?_
    exact k_
  obtain ⟨cl137, Ar137, q137, S137, M137, H137, G137⟩ := id B136
  have hin137 : ¬ ((16 : Int32) < 0 ∨ cl137.slots.size ≤ ((16 : Int32)).toNatClampNeg) := inb_of S137 ⟨by decide, by decide⟩
  obtain ⟨T138, h138, X138, e138, W138, st138⟩ := stI X136 hx hZ e136 Ar137 (j := (16 : Int32)) hin137 (g := (mkF m 321 #[.val (.int p1), .val (.ref b1), .unset, .unset] [(.int (0 : Int32)), (.int (16 : Int32)), (.ref b104), (.ref b104)])) rfl rfl (hb hby at_321)
  have B138 : Arv Z h138 b104 k104 .int (34 : Int32) [(.int (0 : Int32)), (.int (0 : Int32)), (.int (0 : Int32)), (.int (0 : Int32)), (.int (0 : Int32)), (.int (0 : Int32)), (.int (0 : Int32)), (.int (8 : Int32)), (.int (4 : Int32)), (.int (0 : Int32)), (.int (0 : Int32)), (.int (0 : Int32)), (.int (0 : Int32)), (.int (0 : Int32)), (.int (0 : Int32)), (.int (0 : Int32)), (.int (0 : Int32)), (.int (0 : Int32)), (.int (0 : Int32)), (.int (0 : Int32)), (.int (0 : Int32)), (.int (0 : Int32)), (.int (0 : Int32)), (.int (0 : Int32)), (.int (0 : Int32)), (.int (0 : Int32)), (.int (0 : Int32)), (.int (0 : Int32)), (.int (0 : Int32)), (.int (0 : Int32)), (.int (0 : Int32)), (.int (0 : Int32)), (.int (0 : Int32)), (.int (0 : Int32))] (.int (0 : Int32)) := Arv.set Ar137 q137 S137 M137 H137 G137 rfl W138 16 rfl (Nat.le_of_ble_eq_true rfl)
  refine own_go st138 ?_
  have K138 : Keep h0 h138 [] := K136.wr W138 (Or.inr (Nat.le_trans K103.1 (Nat.le_of_eq g104.symm)))
  have O138 := O136.wr W138 (Nat.le_trans Z0 (Nat.le_trans K103.1 (Nat.le_of_eq g104.symm)))
  have N138 := Fr.snoc X138 N136 (Nat.le_trans Z0 (Nat.le_trans K103.1 (Nat.le_of_eq g104.symm)))
  refine own_go (A := T138.setTop (mkF m 326 #[.val (.int p1), .val (.ref b1), .unset, .unset] [(.int (0 : Int32)), (.int (17 : Int32)), (.ref b104), (.ref b104)])) (fun t_ k_ => ?_) ?_
  · show Steps p.tables e below (T138.setTop (mkF m 322 #[.val (.int p1), .val (.ref b1), .unset, .unset] [(.ref b104)])) t_
    refine XS.dup X138.here hx rfl (hb hby at_322) rfl rfl ?_
    show Steps p.tables e below (T138.setTop (mkF m 323 #[.val (.int p1), .val (.ref b1), .unset, .unset] [(.ref b104), (.ref b104)])) t_
    refine XS.bipush X138.here hx rfl (hb hby at_323) ?_
    show Steps p.tables e below (T138.setTop (mkF m 325 #[.val (.int p1), .val (.ref b1), .unset, .unset] [(.int (17 : Int32)), (.ref b104), (.ref b104)])) t_
    refine XS.iconst X138.here hx rfl (hb hby at_325) ?_
    exact k_
  obtain ⟨cl139, Ar139, q139, S139, M139, H139, G139⟩ := id B138
  have hin139 : ¬ ((17 : Int32) < 0 ∨ cl139.slots.size ≤ ((17 : Int32)).toNatClampNeg) := inb_of S139 ⟨by decide, by decide⟩
  obtain ⟨T140, h140, X140, e140, W140, st140⟩ := stI X138 hx hZ e138 Ar139 (j := (17 : Int32)) hin139 (g := (mkF m 326 #[.val (.int p1), .val (.ref b1), .unset, .unset] [(.int (0 : Int32)), (.int (17 : Int32)), (.ref b104), (.ref b104)])) rfl rfl (hb hby at_326)
  have B140 : Arv Z h140 b104 k104 .int (34 : Int32) [(.int (0 : Int32)), (.int (0 : Int32)), (.int (0 : Int32)), (.int (0 : Int32)), (.int (0 : Int32)), (.int (0 : Int32)), (.int (0 : Int32)), (.int (8 : Int32)), (.int (4 : Int32)), (.int (0 : Int32)), (.int (0 : Int32)), (.int (0 : Int32)), (.int (0 : Int32)), (.int (0 : Int32)), (.int (0 : Int32)), (.int (0 : Int32)), (.int (0 : Int32)), (.int (0 : Int32)), (.int (0 : Int32)), (.int (0 : Int32)), (.int (0 : Int32)), (.int (0 : Int32)), (.int (0 : Int32)), (.int (0 : Int32)), (.int (0 : Int32)), (.int (0 : Int32)), (.int (0 : Int32)), (.int (0 : Int32)), (.int (0 : Int32)), (.int (0 : Int32)), (.int (0 : Int32)), (.int (0 : Int32)), (.int (0 : Int32)), (.int (0 : Int32))] (.int (0 : Int32)) := Arv.set Ar139 q139 S139 M139 H139 G139 rfl W140 17 rfl (Nat.le_of_ble_eq_true rfl)
  refine own_go st140 ?_
  have K140 : Keep h0 h140 [] := K138.wr W140 (Or.inr (Nat.le_trans K103.1 (Nat.le_of_eq g104.symm)))
  have O140 := O138.wr W140 (Nat.le_trans Z0 (Nat.le_trans K103.1 (Nat.le_of_eq g104.symm)))
  have N140 := Fr.snoc X140 N138 (Nat.le_trans Z0 (Nat.le_trans K103.1 (Nat.le_of_eq g104.symm)))
  refine own_go (A := T140.setTop (mkF m 331 #[.val (.int p1), .val (.ref b1), .unset, .unset] [(.int (0 : Int32)), (.int (18 : Int32)), (.ref b104), (.ref b104)])) (fun t_ k_ => ?_) ?_
  · show Steps p.tables e below (T140.setTop (mkF m 327 #[.val (.int p1), .val (.ref b1), .unset, .unset] [(.ref b104)])) t_
    refine XS.dup X140.here hx rfl (hb hby at_327) rfl rfl ?_
    show Steps p.tables e below (T140.setTop (mkF m 328 #[.val (.int p1), .val (.ref b1), .unset, .unset] [(.ref b104), (.ref b104)])) t_
    refine XS.bipush X140.here hx rfl (hb hby at_328) ?_
    show Steps p.tables e below (T140.setTop (mkF m 330 #[.val (.int p1), .val (.ref b1), .unset, .unset] [(.int (18 : Int32)), (.ref b104), (.ref b104)])) t_
    refine XS.iconst X140.here hx rfl (hb hby at_330) ?_
    exact k_
  obtain ⟨cl141, Ar141, q141, S141, M141, H141, G141⟩ := id B140
  have hin141 : ¬ ((18 : Int32) < 0 ∨ cl141.slots.size ≤ ((18 : Int32)).toNatClampNeg) := inb_of S141 ⟨by decide, by decide⟩
  obtain ⟨T142, h142, X142, e142, W142, st142⟩ := stI X140 hx hZ e140 Ar141 (j := (18 : Int32)) hin141 (g := (mkF m 331 #[.val (.int p1), .val (.ref b1), .unset, .unset] [(.int (0 : Int32)), (.int (18 : Int32)), (.ref b104), (.ref b104)])) rfl rfl (hb hby at_331)
  have B142 : Arv Z h142 b104 k104 .int (34 : Int32) [(.int (0 : Int32)), (.int (0 : Int32)), (.int (0 : Int32)), (.int (0 : Int32)), (.int (0 : Int32)), (.int (0 : Int32)), (.int (0 : Int32)), (.int (8 : Int32)), (.int (4 : Int32)), (.int (0 : Int32)), (.int (0 : Int32)), (.int (0 : Int32)), (.int (0 : Int32)), (.int (0 : Int32)), (.int (0 : Int32)), (.int (0 : Int32)), (.int (0 : Int32)), (.int (0 : Int32)), (.int (0 : Int32)), (.int (0 : Int32)), (.int (0 : Int32)), (.int (0 : Int32)), (.int (0 : Int32)), (.int (0 : Int32)), (.int (0 : Int32)), (.int (0 : Int32)), (.int (0 : Int32)), (.int (0 : Int32)), (.int (0 : Int32)), (.int (0 : Int32)), (.int (0 : Int32)), (.int (0 : Int32)), (.int (0 : Int32)), (.int (0 : Int32))] (.int (0 : Int32)) := Arv.set Ar141 q141 S141 M141 H141 G141 rfl W142 18 rfl (Nat.le_of_ble_eq_true rfl)
  refine own_go st142 ?_
  have K142 : Keep h0 h142 [] := K140.wr W142 (Or.inr (Nat.le_trans K103.1 (Nat.le_of_eq g104.symm)))
  have O142 := O140.wr W142 (Nat.le_trans Z0 (Nat.le_trans K103.1 (Nat.le_of_eq g104.symm)))
  have N142 := Fr.snoc X142 N140 (Nat.le_trans Z0 (Nat.le_trans K103.1 (Nat.le_of_eq g104.symm)))
  refine own_go (A := T142.setTop (mkF m 336 #[.val (.int p1), .val (.ref b1), .unset, .unset] [(.int (0 : Int32)), (.int (19 : Int32)), (.ref b104), (.ref b104)])) (fun t_ k_ => ?_) ?_
  · show Steps p.tables e below (T142.setTop (mkF m 332 #[.val (.int p1), .val (.ref b1), .unset, .unset] [(.ref b104)])) t_
    refine XS.dup X142.here hx rfl (hb hby at_332) rfl rfl ?_
    show Steps p.tables e below (T142.setTop (mkF m 333 #[.val (.int p1), .val (.ref b1), .unset, .unset] [(.ref b104), (.ref b104)])) t_
    refine XS.bipush X142.here hx rfl (hb hby at_333) ?_
    show Steps p.tables e below (T142.setTop (mkF m 335 #[.val (.int p1), .val (.ref b1), .unset, .unset] [(.int (19 : Int32)), (.ref b104), (.ref b104)])) t_
    refine XS.iconst X142.here hx rfl (hb hby at_335) ?_
    exact k_
  obtain ⟨cl143, Ar143, q143, S143, M143, H143, G143⟩ := id B142
  have hin143 : ¬ ((19 : Int32) < 0 ∨ cl143.slots.size ≤ ((19 : Int32)).toNatClampNeg) := inb_of S143 ⟨by decide, by decide⟩
  obtain ⟨T144, h144, X144, e144, W144, st144⟩ := stI X142 hx hZ e142 Ar143 (j := (19 : Int32)) hin143 (g := (mkF m 336 #[.val (.int p1), .val (.ref b1), .unset, .unset] [(.int (0 : Int32)), (.int (19 : Int32)), (.ref b104), (.ref b104)])) rfl rfl (hb hby at_336)
  have B144 : Arv Z h144 b104 k104 .int (34 : Int32) [(.int (0 : Int32)), (.int (0 : Int32)), (.int (0 : Int32)), (.int (0 : Int32)), (.int (0 : Int32)), (.int (0 : Int32)), (.int (0 : Int32)), (.int (8 : Int32)), (.int (4 : Int32)), (.int (0 : Int32)), (.int (0 : Int32)), (.int (0 : Int32)), (.int (0 : Int32)), (.int (0 : Int32)), (.int (0 : Int32)), (.int (0 : Int32)), (.int (0 : Int32)), (.int (0 : Int32)), (.int (0 : Int32)), (.int (0 : Int32)), (.int (0 : Int32)), (.int (0 : Int32)), (.int (0 : Int32)), (.int (0 : Int32)), (.int (0 : Int32)), (.int (0 : Int32)), (.int (0 : Int32)), (.int (0 : Int32)), (.int (0 : Int32)), (.int (0 : Int32)), (.int (0 : Int32)), (.int (0 : Int32)), (.int (0 : Int32)), (.int (0 : Int32))] (.int (0 : Int32)) := Arv.set Ar143 q143 S143 M143 H143 G143 rfl W144 19 rfl (Nat.le_of_ble_eq_true rfl)
  refine own_go st144 ?_
  have K144 : Keep h0 h144 [] := K142.wr W144 (Or.inr (Nat.le_trans K103.1 (Nat.le_of_eq g104.symm)))
  have O144 := O142.wr W144 (Nat.le_trans Z0 (Nat.le_trans K103.1 (Nat.le_of_eq g104.symm)))
  have N144 := Fr.snoc X144 N142 (Nat.le_trans Z0 (Nat.le_trans K103.1 (Nat.le_of_eq g104.symm)))
  refine own_go (A := T144.setTop (mkF m 341 #[.val (.int p1), .val (.ref b1), .unset, .unset] [(.int (4 : Int32)), (.int (20 : Int32)), (.ref b104), (.ref b104)])) (fun t_ k_ => ?_) ?_
  · show Steps p.tables e below (T144.setTop (mkF m 337 #[.val (.int p1), .val (.ref b1), .unset, .unset] [(.ref b104)])) t_
    refine XS.dup X144.here hx rfl (hb hby at_337) rfl rfl ?_
    show Steps p.tables e below (T144.setTop (mkF m 338 #[.val (.int p1), .val (.ref b1), .unset, .unset] [(.ref b104), (.ref b104)])) t_
    refine XS.bipush X144.here hx rfl (hb hby at_338) ?_
    show Steps p.tables e below (T144.setTop (mkF m 340 #[.val (.int p1), .val (.ref b1), .unset, .unset] [(.int (20 : Int32)), (.ref b104), (.ref b104)])) t_
    refine XS.iconst X144.here hx rfl (hb hby at_340) ?_
    exact k_
  obtain ⟨cl145, Ar145, q145, S145, M145, H145, G145⟩ := id B144
  have hin145 : ¬ ((20 : Int32) < 0 ∨ cl145.slots.size ≤ ((20 : Int32)).toNatClampNeg) := inb_of S145 ⟨by decide, by decide⟩
  obtain ⟨T146, h146, X146, e146, W146, st146⟩ := stI X144 hx hZ e144 Ar145 (j := (20 : Int32)) hin145 (g := (mkF m 341 #[.val (.int p1), .val (.ref b1), .unset, .unset] [(.int (4 : Int32)), (.int (20 : Int32)), (.ref b104), (.ref b104)])) rfl rfl (hb hby at_341)
  have B146 : Arv Z h146 b104 k104 .int (34 : Int32) [(.int (0 : Int32)), (.int (0 : Int32)), (.int (0 : Int32)), (.int (0 : Int32)), (.int (0 : Int32)), (.int (0 : Int32)), (.int (0 : Int32)), (.int (8 : Int32)), (.int (4 : Int32)), (.int (0 : Int32)), (.int (0 : Int32)), (.int (0 : Int32)), (.int (0 : Int32)), (.int (0 : Int32)), (.int (0 : Int32)), (.int (0 : Int32)), (.int (0 : Int32)), (.int (0 : Int32)), (.int (0 : Int32)), (.int (0 : Int32)), (.int (4 : Int32)), (.int (0 : Int32)), (.int (0 : Int32)), (.int (0 : Int32)), (.int (0 : Int32)), (.int (0 : Int32)), (.int (0 : Int32)), (.int (0 : Int32)), (.int (0 : Int32)), (.int (0 : Int32)), (.int (0 : Int32)), (.int (0 : Int32)), (.int (0 : Int32)), (.int (0 : Int32))] (.int (0 : Int32)) := Arv.set Ar145 q145 S145 M145 H145 G145 rfl W146 20 rfl (Nat.le_of_ble_eq_true rfl)
  refine own_go st146 ?_
  have K146 : Keep h0 h146 [] := K144.wr W146 (Or.inr (Nat.le_trans K103.1 (Nat.le_of_eq g104.symm)))
  have O146 := O144.wr W146 (Nat.le_trans Z0 (Nat.le_trans K103.1 (Nat.le_of_eq g104.symm)))
  have N146 := Fr.snoc X146 N144 (Nat.le_trans Z0 (Nat.le_trans K103.1 (Nat.le_of_eq g104.symm)))
  refine own_go (A := T146.setTop (mkF m 346 #[.val (.int p1), .val (.ref b1), .unset, .unset] [(.int (0 : Int32)), (.int (21 : Int32)), (.ref b104), (.ref b104)])) (fun t_ k_ => ?_) ?_
  · show Steps p.tables e below (T146.setTop (mkF m 342 #[.val (.int p1), .val (.ref b1), .unset, .unset] [(.ref b104)])) t_
    refine XS.dup X146.here hx rfl (hb hby at_342) rfl rfl ?_
    show Steps p.tables e below (T146.setTop (mkF m 343 #[.val (.int p1), .val (.ref b1), .unset, .unset] [(.ref b104), (.ref b104)])) t_
    refine XS.bipush X146.here hx rfl (hb hby at_343) ?_
    show Steps p.tables e below (T146.setTop (mkF m 345 #[.val (.int p1), .val (.ref b1), .unset, .unset] [(.int (21 : Int32)), (.ref b104), (.ref b104)])) t_
    refine XS.iconst X146.here hx rfl (hb hby at_345) ?_
    exact k_
  obtain ⟨cl147, Ar147, q147, S147, M147, H147, G147⟩ := id B146
  have hin147 : ¬ ((21 : Int32) < 0 ∨ cl147.slots.size ≤ ((21 : Int32)).toNatClampNeg) := inb_of S147 ⟨by decide, by decide⟩
  obtain ⟨T148, h148, X148, e148, W148, st148⟩ := stI X146 hx hZ e146 Ar147 (j := (21 : Int32)) hin147 (g := (mkF m 346 #[.val (.int p1), .val (.ref b1), .unset, .unset] [(.int (0 : Int32)), (.int (21 : Int32)), (.ref b104), (.ref b104)])) rfl rfl (hb hby at_346)
  have B148 : Arv Z h148 b104 k104 .int (34 : Int32) [(.int (0 : Int32)), (.int (0 : Int32)), (.int (0 : Int32)), (.int (0 : Int32)), (.int (0 : Int32)), (.int (0 : Int32)), (.int (0 : Int32)), (.int (8 : Int32)), (.int (4 : Int32)), (.int (0 : Int32)), (.int (0 : Int32)), (.int (0 : Int32)), (.int (0 : Int32)), (.int (0 : Int32)), (.int (0 : Int32)), (.int (0 : Int32)), (.int (0 : Int32)), (.int (0 : Int32)), (.int (0 : Int32)), (.int (0 : Int32)), (.int (4 : Int32)), (.int (0 : Int32)), (.int (0 : Int32)), (.int (0 : Int32)), (.int (0 : Int32)), (.int (0 : Int32)), (.int (0 : Int32)), (.int (0 : Int32)), (.int (0 : Int32)), (.int (0 : Int32)), (.int (0 : Int32)), (.int (0 : Int32)), (.int (0 : Int32)), (.int (0 : Int32))] (.int (0 : Int32)) := Arv.set Ar147 q147 S147 M147 H147 G147 rfl W148 21 rfl (Nat.le_of_ble_eq_true rfl)
  refine own_go st148 ?_
  have K148 : Keep h0 h148 [] := K146.wr W148 (Or.inr (Nat.le_trans K103.1 (Nat.le_of_eq g104.symm)))
  have O148 := O146.wr W148 (Nat.le_trans Z0 (Nat.le_trans K103.1 (Nat.le_of_eq g104.symm)))
  have N148 := Fr.snoc X148 N146 (Nat.le_trans Z0 (Nat.le_trans K103.1 (Nat.le_of_eq g104.symm)))
  refine own_go (A := T148.setTop (mkF m 351 #[.val (.int p1), .val (.ref b1), .unset, .unset] [(.int (2 : Int32)), (.int (22 : Int32)), (.ref b104), (.ref b104)])) (fun t_ k_ => ?_) ?_
  · show Steps p.tables e below (T148.setTop (mkF m 347 #[.val (.int p1), .val (.ref b1), .unset, .unset] [(.ref b104)])) t_
    refine XS.dup X148.here hx rfl (hb hby at_347) rfl rfl ?_
    show Steps p.tables e below (T148.setTop (mkF m 348 #[.val (.int p1), .val (.ref b1), .unset, .unset] [(.ref b104), (.ref b104)])) t_
    refine XS.bipush X148.here hx rfl (hb hby at_348) ?_
    show Steps p.tables e below (T148.setTop (mkF m 350 #[.val (.int p1), .val (.ref b1), .unset, .unset] [(.int (22 : Int32)), (.ref b104), (.ref b104)])) t_
    refine XS.iconst X148.here hx rfl (hb hby at_350) ?_
    exact k_
  obtain ⟨cl149, Ar149, q149, S149, M149, H149, G149⟩ := id B148
  have hin149 : ¬ ((22 : Int32) < 0 ∨ cl149.slots.size ≤ ((22 : Int32)).toNatClampNeg) := inb_of S149 ⟨by decide, by decide⟩
  obtain ⟨T150, h150, X150, e150, W150, st150⟩ := stI X148 hx hZ e148 Ar149 (j := (22 : Int32)) hin149 (g := (mkF m 351 #[.val (.int p1), .val (.ref b1), .unset, .unset] [(.int (2 : Int32)), (.int (22 : Int32)), (.ref b104), (.ref b104)])) rfl rfl (hb hby at_351)
  have B150 : Arv Z h150 b104 k104 .int (34 : Int32) [(.int (0 : Int32)), (.int (0 : Int32)), (.int (0 : Int32)), (.int (0 : Int32)), (.int (0 : Int32)), (.int (0 : Int32)), (.int (0 : Int32)), (.int (8 : Int32)), (.int (4 : Int32)), (.int (0 : Int32)), (.int (0 : Int32)), (.int (0 : Int32)), (.int (0 : Int32)), (.int (0 : Int32)), (.int (0 : Int32)), (.int (0 : Int32)), (.int (0 : Int32)), (.int (0 : Int32)), (.int (0 : Int32)), (.int (0 : Int32)), (.int (4 : Int32)), (.int (0 : Int32)), (.int (2 : Int32)), (.int (0 : Int32)), (.int (0 : Int32)), (.int (0 : Int32)), (.int (0 : Int32)), (.int (0 : Int32)), (.int (0 : Int32)), (.int (0 : Int32)), (.int (0 : Int32)), (.int (0 : Int32)), (.int (0 : Int32)), (.int (0 : Int32))] (.int (0 : Int32)) := Arv.set Ar149 q149 S149 M149 H149 G149 rfl W150 22 rfl (Nat.le_of_ble_eq_true rfl)
  refine own_go st150 ?_
  have K150 : Keep h0 h150 [] := K148.wr W150 (Or.inr (Nat.le_trans K103.1 (Nat.le_of_eq g104.symm)))
  have O150 := O148.wr W150 (Nat.le_trans Z0 (Nat.le_trans K103.1 (Nat.le_of_eq g104.symm)))
  have N150 := Fr.snoc X150 N148 (Nat.le_trans Z0 (Nat.le_trans K103.1 (Nat.le_of_eq g104.symm)))
  refine own_go (A := T150.setTop (mkF m 356 #[.val (.int p1), .val (.ref b1), .unset, .unset] [(.int (0 : Int32)), (.int (23 : Int32)), (.ref b104), (.ref b104)])) (fun t_ k_ => ?_) ?_
  · show Steps p.tables e below (T150.setTop (mkF m 352 #[.val (.int p1), .val (.ref b1), .unset, .unset] [(.ref b104)])) t_
    refine XS.dup X150.here hx rfl (hb hby at_352) rfl rfl ?_
    show Steps p.tables e below (T150.setTop (mkF m 353 #[.val (.int p1), .val (.ref b1), .unset, .unset] [(.ref b104), (.ref b104)])) t_
    refine XS.bipush X150.here hx rfl (hb hby at_353) ?_
    show Steps p.tables e below (T150.setTop (mkF m 355 #[.val (.int p1), .val (.ref b1), .unset, .unset] [(.int (23 : Int32)), (.ref b104), (.ref b104)])) t_
    refine XS.iconst X150.here hx rfl (hb hby at_355) ?_
    exact k_
  obtain ⟨cl151, Ar151, q151, S151, M151, H151, G151⟩ := id B150
  have hin151 : ¬ ((23 : Int32) < 0 ∨ cl151.slots.size ≤ ((23 : Int32)).toNatClampNeg) := inb_of S151 ⟨by decide, by decide⟩
  obtain ⟨T152, h152, X152, e152, W152, st152⟩ := stI X150 hx hZ e150 Ar151 (j := (23 : Int32)) hin151 (g := (mkF m 356 #[.val (.int p1), .val (.ref b1), .unset, .unset] [(.int (0 : Int32)), (.int (23 : Int32)), (.ref b104), (.ref b104)])) rfl rfl (hb hby at_356)
  have B152 : Arv Z h152 b104 k104 .int (34 : Int32) [(.int (0 : Int32)), (.int (0 : Int32)), (.int (0 : Int32)), (.int (0 : Int32)), (.int (0 : Int32)), (.int (0 : Int32)), (.int (0 : Int32)), (.int (8 : Int32)), (.int (4 : Int32)), (.int (0 : Int32)), (.int (0 : Int32)), (.int (0 : Int32)), (.int (0 : Int32)), (.int (0 : Int32)), (.int (0 : Int32)), (.int (0 : Int32)), (.int (0 : Int32)), (.int (0 : Int32)), (.int (0 : Int32)), (.int (0 : Int32)), (.int (4 : Int32)), (.int (0 : Int32)), (.int (2 : Int32)), (.int (0 : Int32)), (.int (0 : Int32)), (.int (0 : Int32)), (.int (0 : Int32)), (.int (0 : Int32)), (.int (0 : Int32)), (.int (0 : Int32)), (.int (0 : Int32)), (.int (0 : Int32)), (.int (0 : Int32)), (.int (0 : Int32))] (.int (0 : Int32)) := Arv.set Ar151 q151 S151 M151 H151 G151 rfl W152 23 rfl (Nat.le_of_ble_eq_true rfl)
  refine own_go st152 ?_
  have K152 : Keep h0 h152 [] := K150.wr W152 (Or.inr (Nat.le_trans K103.1 (Nat.le_of_eq g104.symm)))
  have O152 := O150.wr W152 (Nat.le_trans Z0 (Nat.le_trans K103.1 (Nat.le_of_eq g104.symm)))
  have N152 := Fr.snoc X152 N150 (Nat.le_trans Z0 (Nat.le_trans K103.1 (Nat.le_of_eq g104.symm)))
  refine own_go (A := T152.setTop (mkF m 362 #[.val (.int p1), .val (.ref b1), .unset, .unset] [(.int (8 : Int32)), (.int (24 : Int32)), (.ref b104), (.ref b104)])) (fun t_ k_ => ?_) ?_
  · show Steps p.tables e below (T152.setTop (mkF m 357 #[.val (.int p1), .val (.ref b1), .unset, .unset] [(.ref b104)])) t_
    refine XS.dup X152.here hx rfl (hb hby at_357) rfl rfl ?_
    show Steps p.tables e below (T152.setTop (mkF m 358 #[.val (.int p1), .val (.ref b1), .unset, .unset] [(.ref b104), (.ref b104)])) t_
    refine XS.bipush X152.here hx rfl (hb hby at_358) ?_
    show Steps p.tables e below (T152.setTop (mkF m 360 #[.val (.int p1), .val (.ref b1), .unset, .unset] [(.int (24 : Int32)), (.ref b104), (.ref b104)])) t_
    refine XS.bipush X152.here hx rfl (hb hby at_360) ?_
    exact k_
  obtain ⟨cl153, Ar153, q153, S153, M153, H153, G153⟩ := id B152
  have hin153 : ¬ ((24 : Int32) < 0 ∨ cl153.slots.size ≤ ((24 : Int32)).toNatClampNeg) := inb_of S153 ⟨by decide, by decide⟩
  obtain ⟨T154, h154, X154, e154, W154, st154⟩ := stI X152 hx hZ e152 Ar153 (j := (24 : Int32)) hin153 (g := (mkF m 362 #[.val (.int p1), .val (.ref b1), .unset, .unset] [(.int (8 : Int32)), (.int (24 : Int32)), (.ref b104), (.ref b104)])) rfl rfl (hb hby at_362)
  have B154 : Arv Z h154 b104 k104 .int (34 : Int32) [(.int (0 : Int32)), (.int (0 : Int32)), (.int (0 : Int32)), (.int (0 : Int32)), (.int (0 : Int32)), (.int (0 : Int32)), (.int (0 : Int32)), (.int (8 : Int32)), (.int (4 : Int32)), (.int (0 : Int32)), (.int (0 : Int32)), (.int (0 : Int32)), (.int (0 : Int32)), (.int (0 : Int32)), (.int (0 : Int32)), (.int (0 : Int32)), (.int (0 : Int32)), (.int (0 : Int32)), (.int (0 : Int32)), (.int (0 : Int32)), (.int (4 : Int32)), (.int (0 : Int32)), (.int (2 : Int32)), (.int (0 : Int32)), (.int (8 : Int32)), (.int (0 : Int32)), (.int (0 : Int32)), (.int (0 : Int32)), (.int (0 : Int32)), (.int (0 : Int32)), (.int (0 : Int32)), (.int (0 : Int32)), (.int (0 : Int32)), (.int (0 : Int32))] (.int (0 : Int32)) := Arv.set Ar153 q153 S153 M153 H153 G153 rfl W154 24 rfl (Nat.le_of_ble_eq_true rfl)
  refine own_go st154 ?_
  have K154 : Keep h0 h154 [] := K152.wr W154 (Or.inr (Nat.le_trans K103.1 (Nat.le_of_eq g104.symm)))
  have O154 := O152.wr W154 (Nat.le_trans Z0 (Nat.le_trans K103.1 (Nat.le_of_eq g104.symm)))
  have N154 := Fr.snoc X154 N152 (Nat.le_trans Z0 (Nat.le_trans K103.1 (Nat.le_of_eq g104.symm)))
  refine own_go (A := T154.setTop (mkF m 367 #[.val (.int p1), .val (.ref b1), .unset, .unset] [(.int (0 : Int32)), (.int (25 : Int32)), (.ref b104), (.ref b104)])) (fun t_ k_ => ?_) ?_
  · show Steps p.tables e below (T154.setTop (mkF m 363 #[.val (.int p1), .val (.ref b1), .unset, .unset] [(.ref b104)])) t_
    refine XS.dup X154.here hx rfl (hb hby at_363) rfl rfl ?_
    show Steps p.tables e below (T154.setTop (mkF m 364 #[.val (.int p1), .val (.ref b1), .unset, .unset] [(.ref b104), (.ref b104)])) t_
    refine XS.bipush X154.here hx rfl (hb hby at_364) ?_
    show Steps p.tables e below (T154.setTop (mkF m 366 #[.val (.int p1), .val (.ref b1), .unset, .unset] [(.int (25 : Int32)), (.ref b104), (.ref b104)])) t_
    refine XS.iconst X154.here hx rfl (hb hby at_366) ?_
    exact k_
  obtain ⟨cl155, Ar155, q155, S155, M155, H155, G155⟩ := id B154
  have hin155 : ¬ ((25 : Int32) < 0 ∨ cl155.slots.size ≤ ((25 : Int32)).toNatClampNeg) := inb_of S155 ⟨by decide, by decide⟩
  obtain ⟨T156, h156, X156, e156, W156, st156⟩ := stI X154 hx hZ e154 Ar155 (j := (25 : Int32)) hin155 (g := (mkF m 367 #[.val (.int p1), .val (.ref b1), .unset, .unset] [(.int (0 : Int32)), (.int (25 : Int32)), (.ref b104), (.ref b104)])) rfl rfl (hb hby at_367)
  have B156 : Arv Z h156 b104 k104 .int (34 : Int32) [(.int (0 : Int32)), (.int (0 : Int32)), (.int (0 : Int32)), (.int (0 : Int32)), (.int (0 : Int32)), (.int (0 : Int32)), (.int (0 : Int32)), (.int (8 : Int32)), (.int (4 : Int32)), (.int (0 : Int32)), (.int (0 : Int32)), (.int (0 : Int32)), (.int (0 : Int32)), (.int (0 : Int32)), (.int (0 : Int32)), (.int (0 : Int32)), (.int (0 : Int32)), (.int (0 : Int32)), (.int (0 : Int32)), (.int (0 : Int32)), (.int (4 : Int32)), (.int (0 : Int32)), (.int (2 : Int32)), (.int (0 : Int32)), (.int (8 : Int32)), (.int (0 : Int32)), (.int (0 : Int32)), (.int (0 : Int32)), (.int (0 : Int32)), (.int (0 : Int32)), (.int (0 : Int32)), (.int (0 : Int32)), (.int (0 : Int32)), (.int (0 : Int32))] (.int (0 : Int32)) := Arv.set Ar155 q155 S155 M155 H155 G155 rfl W156 25 rfl (Nat.le_of_ble_eq_true rfl)
  refine own_go st156 ?_
  have K156 : Keep h0 h156 [] := K154.wr W156 (Or.inr (Nat.le_trans K103.1 (Nat.le_of_eq g104.symm)))
  have O156 := O154.wr W156 (Nat.le_trans Z0 (Nat.le_trans K103.1 (Nat.le_of_eq g104.symm)))
  have N156 := Fr.snoc X156 N154 (Nat.le_trans Z0 (Nat.le_trans K103.1 (Nat.le_of_eq g104.symm)))
  refine own_go (A := T156.setTop (mkF m 372 #[.val (.int p1), .val (.ref b1), .unset, .unset] [(.int (0 : Int32)), (.int (26 : Int32)), (.ref b104), (.ref b104)])) (fun t_ k_ => ?_) ?_
  · show Steps p.tables e below (T156.setTop (mkF m 368 #[.val (.int p1), .val (.ref b1), .unset, .unset] [(.ref b104)])) t_
    refine XS.dup X156.here hx rfl (hb hby at_368) rfl rfl ?_
    show Steps p.tables e below (T156.setTop (mkF m 369 #[.val (.int p1), .val (.ref b1), .unset, .unset] [(.ref b104), (.ref b104)])) t_
    refine XS.bipush X156.here hx rfl (hb hby at_369) ?_
    show Steps p.tables e below (T156.setTop (mkF m 371 #[.val (.int p1), .val (.ref b1), .unset, .unset] [(.int (26 : Int32)), (.ref b104), (.ref b104)])) t_
    refine XS.iconst X156.here hx rfl (hb hby at_371) ?_
    exact k_
  obtain ⟨cl157, Ar157, q157, S157, M157, H157, G157⟩ := id B156
  have hin157 : ¬ ((26 : Int32) < 0 ∨ cl157.slots.size ≤ ((26 : Int32)).toNatClampNeg) := inb_of S157 ⟨by decide, by decide⟩
  obtain ⟨T158, h158, X158, e158, W158, st158⟩ := stI X156 hx hZ e156 Ar157 (j := (26 : Int32)) hin157 (g := (mkF m 372 #[.val (.int p1), .val (.ref b1), .unset, .unset] [(.int (0 : Int32)), (.int (26 : Int32)), (.ref b104), (.ref b104)])) rfl rfl (hb hby at_372)
  have B158 : Arv Z h158 b104 k104 .int (34 : Int32) [(.int (0 : Int32)), (.int (0 : Int32)), (.int (0 : Int32)), (.int (0 : Int32)), (.int (0 : Int32)), (.int (0 : Int32)), (.int (0 : Int32)), (.int (8 : Int32)), (.int (4 : Int32)), (.int (0 : Int32)), (.int (0 : Int32)), (.int (0 : Int32)), (.int (0 : Int32)), (.int (0 : Int32)), (.int (0 : Int32)), (.int (0 : Int32)), (.int (0 : Int32)), (.int (0 : Int32)), (.int (0 : Int32)), (.int (0 : Int32)), (.int (4 : Int32)), (.int (0 : Int32)), (.int (2 : Int32)), (.int (0 : Int32)), (.int (8 : Int32)), (.int (0 : Int32)), (.int (0 : Int32)), (.int (0 : Int32)), (.int (0 : Int32)), (.int (0 : Int32)), (.int (0 : Int32)), (.int (0 : Int32)), (.int (0 : Int32)), (.int (0 : Int32))] (.int (0 : Int32)) := Arv.set Ar157 q157 S157 M157 H157 G157 rfl W158 26 rfl (Nat.le_of_ble_eq_true rfl)
  refine own_go st158 ?_
  have K158 : Keep h0 h158 [] := K156.wr W158 (Or.inr (Nat.le_trans K103.1 (Nat.le_of_eq g104.symm)))
  have O158 := O156.wr W158 (Nat.le_trans Z0 (Nat.le_trans K103.1 (Nat.le_of_eq g104.symm)))
  have N158 := Fr.snoc X158 N156 (Nat.le_trans Z0 (Nat.le_trans K103.1 (Nat.le_of_eq g104.symm)))
  refine own_go (A := T158.setTop (mkF m 377 #[.val (.int p1), .val (.ref b1), .unset, .unset] [(.int (0 : Int32)), (.int (27 : Int32)), (.ref b104), (.ref b104)])) (fun t_ k_ => ?_) ?_
  · show Steps p.tables e below (T158.setTop (mkF m 373 #[.val (.int p1), .val (.ref b1), .unset, .unset] [(.ref b104)])) t_
    refine XS.dup X158.here hx rfl (hb hby at_373) rfl rfl ?_
    show Steps p.tables e below (T158.setTop (mkF m 374 #[.val (.int p1), .val (.ref b1), .unset, .unset] [(.ref b104), (.ref b104)])) t_
    refine XS.bipush X158.here hx rfl (hb hby at_374) ?_
    show Steps p.tables e below (T158.setTop (mkF m 376 #[.val (.int p1), .val (.ref b1), .unset, .unset] [(.int (27 : Int32)), (.ref b104), (.ref b104)])) t_
    refine XS.iconst X158.here hx rfl (hb hby at_376) ?_
    exact k_
  obtain ⟨cl159, Ar159, q159, S159, M159, H159, G159⟩ := id B158
  have hin159 : ¬ ((27 : Int32) < 0 ∨ cl159.slots.size ≤ ((27 : Int32)).toNatClampNeg) := inb_of S159 ⟨by decide, by decide⟩
  obtain ⟨T160, h160, X160, e160, W160, st160⟩ := stI X158 hx hZ e158 Ar159 (j := (27 : Int32)) hin159 (g := (mkF m 377 #[.val (.int p1), .val (.ref b1), .unset, .unset] [(.int (0 : Int32)), (.int (27 : Int32)), (.ref b104), (.ref b104)])) rfl rfl (hb hby at_377)
  have B160 : Arv Z h160 b104 k104 .int (34 : Int32) [(.int (0 : Int32)), (.int (0 : Int32)), (.int (0 : Int32)), (.int (0 : Int32)), (.int (0 : Int32)), (.int (0 : Int32)), (.int (0 : Int32)), (.int (8 : Int32)), (.int (4 : Int32)), (.int (0 : Int32)), (.int (0 : Int32)), (.int (0 : Int32)), (.int (0 : Int32)), (.int (0 : Int32)), (.int (0 : Int32)), (.int (0 : Int32)), (.int (0 : Int32)), (.int (0 : Int32)), (.int (0 : Int32)), (.int (0 : Int32)), (.int (4 : Int32)), (.int (0 : Int32)), (.int (2 : Int32)), (.int (0 : Int32)), (.int (8 : Int32)), (.int (0 : Int32)), (.int (0 : Int32)), (.int (0 : Int32)), (.int (0 : Int32)), (.int (0 : Int32)), (.int (0 : Int32)), (.int (0 : Int32)), (.int (0 : Int32)), (.int (0 : Int32))] (.int (0 : Int32)) := Arv.set Ar159 q159 S159 M159 H159 G159 rfl W160 27 rfl (Nat.le_of_ble_eq_true rfl)
  refine own_go st160 ?_
  have K160 : Keep h0 h160 [] := K158.wr W160 (Or.inr (Nat.le_trans K103.1 (Nat.le_of_eq g104.symm)))
  have O160 := O158.wr W160 (Nat.le_trans Z0 (Nat.le_trans K103.1 (Nat.le_of_eq g104.symm)))
  have N160 := Fr.snoc X160 N158 (Nat.le_trans Z0 (Nat.le_trans K103.1 (Nat.le_of_eq g104.symm)))
  refine own_go (A := T160.setTop (mkF m 382 #[.val (.int p1), .val (.ref b1), .unset, .unset] [(.int (4 : Int32)), (.int (28 : Int32)), (.ref b104), (.ref b104)])) (fun t_ k_ => ?_) ?_
  · show Steps p.tables e below (T160.setTop (mkF m 378 #[.val (.int p1), .val (.ref b1), .unset, .unset] [(.ref b104)])) t_
    refine XS.dup X160.here hx rfl (hb hby at_378) rfl rfl ?_
    show Steps p.tables e below (T160.setTop (mkF m 379 #[.val (.int p1), .val (.ref b1), .unset, .unset] [(.ref b104), (.ref b104)])) t_
    refine XS.bipush X160.here hx rfl (hb hby at_379) ?_
    show Steps p.tables e below (T160.setTop (mkF m 381 #[.val (.int p1), .val (.ref b1), .unset, .unset] [(.int (28 : Int32)), (.ref b104), (.ref b104)])) t_
    refine XS.iconst X160.here hx rfl (hb hby at_381) ?_
    exact k_
  obtain ⟨cl161, Ar161, q161, S161, M161, H161, G161⟩ := id B160
  have hin161 : ¬ ((28 : Int32) < 0 ∨ cl161.slots.size ≤ ((28 : Int32)).toNatClampNeg) := inb_of S161 ⟨by decide, by decide⟩
  obtain ⟨T162, h162, X162, e162, W162, st162⟩ := stI X160 hx hZ e160 Ar161 (j := (28 : Int32)) hin161 (g := (mkF m 382 #[.val (.int p1), .val (.ref b1), .unset, .unset] [(.int (4 : Int32)), (.int (28 : Int32)), (.ref b104), (.ref b104)])) rfl rfl (hb hby at_382)
  have B162 : Arv Z h162 b104 k104 .int (34 : Int32) [(.int (0 : Int32)), (.int (0 : Int32)), (.int (0 : Int32)), (.int (0 : Int32)), (.int (0 : Int32)), (.int (0 : Int32)), (.int (0 : Int32)), (.int (8 : Int32)), (.int (4 : Int32)), (.int (0 : Int32)), (.int (0 : Int32)), (.int (0 : Int32)), (.int (0 : Int32)), (.int (0 : Int32)), (.int (0 : Int32)), (.int (0 : Int32)), (.int (0 : Int32)), (.int (0 : Int32)), (.int (0 : Int32)), (.int (0 : Int32)), (.int (4 : Int32)), (.int (0 : Int32)), (.int (2 : Int32)), (.int (0 : Int32)), (.int (8 : Int32)), (.int (0 : Int32)), (.int (0 : Int32)), (.int (0 : Int32)), (.int (4 : Int32)), (.int (0 : Int32)), (.int (0 : Int32)), (.int (0 : Int32)), (.int (0 : Int32)), (.int (0 : Int32))] (.int (0 : Int32)) := Arv.set Ar161 q161 S161 M161 H161 G161 rfl W162 28 rfl (Nat.le_of_ble_eq_true rfl)
  refine own_go st162 ?_
  have K162 : Keep h0 h162 [] := K160.wr W162 (Or.inr (Nat.le_trans K103.1 (Nat.le_of_eq g104.symm)))
  have O162 := O160.wr W162 (Nat.le_trans Z0 (Nat.le_trans K103.1 (Nat.le_of_eq g104.symm)))
  have N162 := Fr.snoc X162 N160 (Nat.le_trans Z0 (Nat.le_trans K103.1 (Nat.le_of_eq g104.symm)))
  refine own_go (A := T162.setTop (mkF m 387 #[.val (.int p1), .val (.ref b1), .unset, .unset] [(.int (0 : Int32)), (.int (29 : Int32)), (.ref b104), (.ref b104)])) (fun t_ k_ => ?_) ?_
  · show Steps p.tables e below (T162.setTop (mkF m 383 #[.val (.int p1), .val (.ref b1), .unset, .unset] [(.ref b104)])) t_
    refine XS.dup X162.here hx rfl (hb hby at_383) rfl rfl ?_
    show Steps p.tables e below (T162.setTop (mkF m 384 #[.val (.int p1), .val (.ref b1), .unset, .unset] [(.ref b104), (.ref b104)])) t_
    refine XS.bipush X162.here hx rfl (hb hby at_384) ?_
    show Steps p.tables e below (T162.setTop (mkF m 386 #[.val (.int p1), .val (.ref b1), .unset, .unset] [(.int (29 : Int32)), (.ref b104), (.ref b104)])) t_
    refine XS.iconst X162.here hx rfl (hb hby at_386) ?_
    exact k_
  obtain ⟨cl163, Ar163, q163, S163, M163, H163, G163⟩ := id B162
  have hin163 : ¬ ((29 : Int32) < 0 ∨ cl163.slots.size ≤ ((29 : Int32)).toNatClampNeg) := inb_of S163 ⟨by decide, by decide⟩
  obtain ⟨T164, h164, X164, e164, W164, st164⟩ := stI X162 hx hZ e162 Ar163 (j := (29 : Int32)) hin163 (g := (mkF m 387 #[.val (.int p1), .val (.ref b1), .unset, .unset] [(.int (0 : Int32)), (.int (29 : Int32)), (.ref b104), (.ref b104)])) rfl rfl (hb hby at_387)
  have B164 : Arv Z h164 b104 k104 .int (34 : Int32) [(.int (0 : Int32)), (.int (0 : Int32)), (.int (0 : Int32)), (.int (0 : Int32)), (.int (0 : Int32)), (.int (0 : Int32)), (.int (0 : Int32)), (.int (8 : Int32)), (.int (4 : Int32)), (.int (0 : Int32)), (.int (0 : Int32)), (.int (0 : Int32)), (.int (0 : Int32)), (.int (0 : Int32)), (.int (0 : Int32)), (.int (0 : Int32)), (.int (0 : Int32)), (.int (0 : Int32)), (.int (0 : Int32)), (.int (0 : Int32)), (.int (4 : Int32)), (.int (0 : Int32)), (.int (2 : Int32)), (.int (0 : Int32)), (.int (8 : Int32)), (.int (0 : Int32)), (.int (0 : Int32)), (.int (0 : Int32)), (.int (4 : Int32)), (.int (0 : Int32)), (.int (0 : Int32)), (.int (0 : Int32)), (.int (0 : Int32)), (.int (0 : Int32))] (.int (0 : Int32)) := Arv.set Ar163 q163 S163 M163 H163 G163 rfl W164 29 rfl (Nat.le_of_ble_eq_true rfl)
  refine own_go st164 ?_
  have K164 : Keep h0 h164 [] := K162.wr W164 (Or.inr (Nat.le_trans K103.1 (Nat.le_of_eq g104.symm)))
  have O164 := O162.wr W164 (Nat.le_trans Z0 (Nat.le_trans K103.1 (Nat.le_of_eq g104.symm)))
  have N164 := Fr.snoc X164 N162 (Nat.le_trans Z0 (Nat.le_trans K103.1 (Nat.le_of_eq g104.symm)))
  refine own_go (A := T164.setTop (mkF m 392 #[.val (.int p1), .val (.ref b1), .unset, .unset] [(.int (0 : Int32)), (.int (30 : Int32)), (.ref b104), (.ref b104)])) (fun t_ k_ => ?_) ?_
  · show Steps p.tables e below (T164.setTop (mkF m 388 #[.val (.int p1), .val (.ref b1), .unset, .unset] [(.ref b104)])) t_
    refine XS.dup X164.here hx rfl (hb hby at_388) rfl rfl ?_
    show Steps p.tables e below (T164.setTop (mkF m 389 #[.val (.int p1), .val (.ref b1), .unset, .unset] [(.ref b104), (.ref b104)])) t_
    refine XS.bipush X164.here hx rfl (hb hby at_389) ?_
    show Steps p.tables e below (T164.setTop (mkF m 391 #[.val (.int p1), .val (.ref b1), .unset, .unset] [(.int (30 : Int32)), (.ref b104), (.ref b104)])) t_
    refine XS.iconst X164.here hx rfl (hb hby at_391) ?_
    exact k_
  obtain ⟨cl165, Ar165, q165, S165, M165, H165, G165⟩ := id B164
  have hin165 : ¬ ((30 : Int32) < 0 ∨ cl165.slots.size ≤ ((30 : Int32)).toNatClampNeg) := inb_of S165 ⟨by decide, by decide⟩
  obtain ⟨T166, h166, X166, e166, W166, st166⟩ := stI X164 hx hZ e164 Ar165 (j := (30 : Int32)) hin165 (g := (mkF m 392 #[.val (.int p1), .val (.ref b1), .unset, .unset] [(.int (0 : Int32)), (.int (30 : Int32)), (.ref b104), (.ref b104)])) rfl rfl (hb hby at_392)
  have B166 : Arv Z h166 b104 k104 .int (34 : Int32) [(.int (0 : Int32)), (.int (0 : Int32)), (.int (0 : Int32)), (.int (0 : Int32)), (.int (0 : Int32)), (.int (0 : Int32)), (.int (0 : Int32)), (.int (8 : Int32)), (.int (4 : Int32)), (.int (0 : Int32)), (.int (0 : Int32)), (.int (0 : Int32)), (.int (0 : Int32)), (.int (0 : Int32)), (.int (0 : Int32)), (.int (0 : Int32)), (.int (0 : Int32)), (.int (0 : Int32)), (.int (0 : Int32)), (.int (0 : Int32)), (.int (4 : Int32)), (.int (0 : Int32)), (.int (2 : Int32)), (.int (0 : Int32)), (.int (8 : Int32)), (.int (0 : Int32)), (.int (0 : Int32)), (.int (0 : Int32)), (.int (4 : Int32)), (.int (0 : Int32)), (.int (0 : Int32)), (.int (0 : Int32)), (.int (0 : Int32)), (.int (0 : Int32))] (.int (0 : Int32)) := Arv.set Ar165 q165 S165 M165 H165 G165 rfl W166 30 rfl (Nat.le_of_ble_eq_true rfl)
  refine own_go st166 ?_
  have K166 : Keep h0 h166 [] := K164.wr W166 (Or.inr (Nat.le_trans K103.1 (Nat.le_of_eq g104.symm)))
  have O166 := O164.wr W166 (Nat.le_trans Z0 (Nat.le_trans K103.1 (Nat.le_of_eq g104.symm)))
  have N166 := Fr.snoc X166 N164 (Nat.le_trans Z0 (Nat.le_trans K103.1 (Nat.le_of_eq g104.symm)))
  refine own_go (A := T166.setTop (mkF m 397 #[.val (.int p1), .val (.ref b1), .unset, .unset] [(.int (2 : Int32)), (.int (31 : Int32)), (.ref b104), (.ref b104)])) (fun t_ k_ => ?_) ?_
  · show Steps p.tables e below (T166.setTop (mkF m 393 #[.val (.int p1), .val (.ref b1), .unset, .unset] [(.ref b104)])) t_
    refine XS.dup X166.here hx rfl (hb hby at_393) rfl rfl ?_
    show Steps p.tables e below (T166.setTop (mkF m 394 #[.val (.int p1), .val (.ref b1), .unset, .unset] [(.ref b104), (.ref b104)])) t_
    refine XS.bipush X166.here hx rfl (hb hby at_394) ?_
    show Steps p.tables e below (T166.setTop (mkF m 396 #[.val (.int p1), .val (.ref b1), .unset, .unset] [(.int (31 : Int32)), (.ref b104), (.ref b104)])) t_
    refine XS.iconst X166.here hx rfl (hb hby at_396) ?_
    exact k_
  obtain ⟨cl167, Ar167, q167, S167, M167, H167, G167⟩ := id B166
  have hin167 : ¬ ((31 : Int32) < 0 ∨ cl167.slots.size ≤ ((31 : Int32)).toNatClampNeg) := inb_of S167 ⟨by decide, by decide⟩
  obtain ⟨T168, h168, X168, e168, W168, st168⟩ := stI X166 hx hZ e166 Ar167 (j := (31 : Int32)) hin167 (g := (mkF m 397 #[.val (.int p1), .val (.ref b1), .unset, .unset] [(.int (2 : Int32)), (.int (31 : Int32)), (.ref b104), (.ref b104)])) rfl rfl (hb hby at_397)
  have B168 : Arv Z h168 b104 k104 .int (34 : Int32) [(.int (0 : Int32)), (.int (0 : Int32)), (.int (0 : Int32)), (.int (0 : Int32)), (.int (0 : Int32)), (.int (0 : Int32)), (.int (0 : Int32)), (.int (8 : Int32)), (.int (4 : Int32)), (.int (0 : Int32)), (.int (0 : Int32)), (.int (0 : Int32)), (.int (0 : Int32)), (.int (0 : Int32)), (.int (0 : Int32)), (.int (0 : Int32)), (.int (0 : Int32)), (.int (0 : Int32)), (.int (0 : Int32)), (.int (0 : Int32)), (.int (4 : Int32)), (.int (0 : Int32)), (.int (2 : Int32)), (.int (0 : Int32)), (.int (8 : Int32)), (.int (0 : Int32)), (.int (0 : Int32)), (.int (0 : Int32)), (.int (4 : Int32)), (.int (0 : Int32)), (.int (0 : Int32)), (.int (2 : Int32)), (.int (0 : Int32)), (.int (0 : Int32))] (.int (0 : Int32)) := Arv.set Ar167 q167 S167 M167 H167 G167 rfl W168 31 rfl (Nat.le_of_ble_eq_true rfl)
  refine own_go st168 ?_
  have K168 : Keep h0 h168 [] := K166.wr W168 (Or.inr (Nat.le_trans K103.1 (Nat.le_of_eq g104.symm)))
  have O168 := O166.wr W168 (Nat.le_trans Z0 (Nat.le_trans K103.1 (Nat.le_of_eq g104.symm)))
  have N168 := Fr.snoc X168 N166 (Nat.le_trans Z0 (Nat.le_trans K103.1 (Nat.le_of_eq g104.symm)))
  refine own_go (A := T168.setTop (mkF m 402 #[.val (.int p1), .val (.ref b1), .unset, .unset] [(.int (0 : Int32)), (.int (32 : Int32)), (.ref b104), (.ref b104)])) (fun t_ k_ => ?_) ?_
  · show Steps p.tables e below (T168.setTop (mkF m 398 #[.val (.int p1), .val (.ref b1), .unset, .unset] [(.ref b104)])) t_
    refine XS.dup X168.here hx rfl (hb hby at_398) rfl rfl ?_
    show Steps p.tables e below (T168.setTop (mkF m 399 #[.val (.int p1), .val (.ref b1), .unset, .unset] [(.ref b104), (.ref b104)])) t_
    refine XS.bipush X168.here hx rfl (hb hby at_399) ?_
    show Steps p.tables e below (T168.setTop (mkF m 401 #[.val (.int p1), .val (.ref b1), .unset, .unset] [(.int (32 : Int32)), (.ref b104), (.ref b104)])) t_
    refine XS.iconst X168.here hx rfl (hb hby at_401) ?_
    exact k_
  obtain ⟨cl169, Ar169, q169, S169, M169, H169, G169⟩ := id B168
  have hin169 : ¬ ((32 : Int32) < 0 ∨ cl169.slots.size ≤ ((32 : Int32)).toNatClampNeg) := inb_of S169 ⟨by decide, by decide⟩
  obtain ⟨T170, h170, X170, e170, W170, st170⟩ := stI X168 hx hZ e168 Ar169 (j := (32 : Int32)) hin169 (g := (mkF m 402 #[.val (.int p1), .val (.ref b1), .unset, .unset] [(.int (0 : Int32)), (.int (32 : Int32)), (.ref b104), (.ref b104)])) rfl rfl (hb hby at_402)
  have B170 : Arv Z h170 b104 k104 .int (34 : Int32) [(.int (0 : Int32)), (.int (0 : Int32)), (.int (0 : Int32)), (.int (0 : Int32)), (.int (0 : Int32)), (.int (0 : Int32)), (.int (0 : Int32)), (.int (8 : Int32)), (.int (4 : Int32)), (.int (0 : Int32)), (.int (0 : Int32)), (.int (0 : Int32)), (.int (0 : Int32)), (.int (0 : Int32)), (.int (0 : Int32)), (.int (0 : Int32)), (.int (0 : Int32)), (.int (0 : Int32)), (.int (0 : Int32)), (.int (0 : Int32)), (.int (4 : Int32)), (.int (0 : Int32)), (.int (2 : Int32)), (.int (0 : Int32)), (.int (8 : Int32)), (.int (0 : Int32)), (.int (0 : Int32)), (.int (0 : Int32)), (.int (4 : Int32)), (.int (0 : Int32)), (.int (0 : Int32)), (.int (2 : Int32)), (.int (0 : Int32)), (.int (0 : Int32))] (.int (0 : Int32)) := Arv.set Ar169 q169 S169 M169 H169 G169 rfl W170 32 rfl (Nat.le_of_ble_eq_true rfl)
  refine own_go st170 ?_
  have K170 : Keep h0 h170 [] := K168.wr W170 (Or.inr (Nat.le_trans K103.1 (Nat.le_of_eq g104.symm)))
  have O170 := O168.wr W170 (Nat.le_trans Z0 (Nat.le_trans K103.1 (Nat.le_of_eq g104.symm)))
  have N170 := Fr.snoc X170 N168 (Nat.le_trans Z0 (Nat.le_trans K103.1 (Nat.le_of_eq g104.symm)))
  refine own_go (A := T170.setTop (mkF m 408 #[.val (.int p1), .val (.ref b1), .unset, .unset] [(.int (8 : Int32)), (.int (33 : Int32)), (.ref b104), (.ref b104)])) (fun t_ k_ => ?_) ?_
  · show Steps p.tables e below (T170.setTop (mkF m 403 #[.val (.int p1), .val (.ref b1), .unset, .unset] [(.ref b104)])) t_
    refine XS.dup X170.here hx rfl (hb hby at_403) rfl rfl ?_
    show Steps p.tables e below (T170.setTop (mkF m 404 #[.val (.int p1), .val (.ref b1), .unset, .unset] [(.ref b104), (.ref b104)])) t_
    refine XS.bipush X170.here hx rfl (hb hby at_404) ?_
    show Steps p.tables e below (T170.setTop (mkF m 406 #[.val (.int p1), .val (.ref b1), .unset, .unset] [(.int (33 : Int32)), (.ref b104), (.ref b104)])) t_
    refine XS.bipush X170.here hx rfl (hb hby at_406) ?_
    exact k_
  obtain ⟨cl171, Ar171, q171, S171, M171, H171, G171⟩ := id B170
  have hin171 : ¬ ((33 : Int32) < 0 ∨ cl171.slots.size ≤ ((33 : Int32)).toNatClampNeg) := inb_of S171 ⟨by decide, by decide⟩
  obtain ⟨T172, h172, X172, e172, W172, st172⟩ := stI X170 hx hZ e170 Ar171 (j := (33 : Int32)) hin171 (g := (mkF m 408 #[.val (.int p1), .val (.ref b1), .unset, .unset] [(.int (8 : Int32)), (.int (33 : Int32)), (.ref b104), (.ref b104)])) rfl rfl (hb hby at_408)
  have B172 : Arv Z h172 b104 k104 .int (34 : Int32) [(.int (0 : Int32)), (.int (0 : Int32)), (.int (0 : Int32)), (.int (0 : Int32)), (.int (0 : Int32)), (.int (0 : Int32)), (.int (0 : Int32)), (.int (8 : Int32)), (.int (4 : Int32)), (.int (0 : Int32)), (.int (0 : Int32)), (.int (0 : Int32)), (.int (0 : Int32)), (.int (0 : Int32)), (.int (0 : Int32)), (.int (0 : Int32)), (.int (0 : Int32)), (.int (0 : Int32)), (.int (0 : Int32)), (.int (0 : Int32)), (.int (4 : Int32)), (.int (0 : Int32)), (.int (2 : Int32)), (.int (0 : Int32)), (.int (8 : Int32)), (.int (0 : Int32)), (.int (0 : Int32)), (.int (0 : Int32)), (.int (4 : Int32)), (.int (0 : Int32)), (.int (0 : Int32)), (.int (2 : Int32)), (.int (0 : Int32)), (.int (8 : Int32))] (.int (0 : Int32)) := Arv.set Ar171 q171 S171 M171 H171 G171 rfl W172 33 rfl (Nat.le_of_ble_eq_true rfl)
  refine own_go st172 ?_
  have K172 : Keep h0 h172 [] := K170.wr W172 (Or.inr (Nat.le_trans K103.1 (Nat.le_of_eq g104.symm)))
  have O172 := O170.wr W172 (Nat.le_trans Z0 (Nat.le_trans K103.1 (Nat.le_of_eq g104.symm)))
  have N172 := Fr.snoc X172 N170 (Nat.le_trans Z0 (Nat.le_trans K103.1 (Nat.le_of_eq g104.symm)))
  refine own_go (A := T172.setTop (mkF m 417 #[.val (.int p1), .val (.ref b1), .val (.ref b104), .unset] [(.int ((p1 &&& (2147483647 : Int32)) % (34 : Int32)))])) (fun t_ k_ => ?_) ?_
  · show Steps p.tables e below (T172.setTop (mkF m 409 #[.val (.int p1), .val (.ref b1), .unset, .unset] [(.ref b104)])) t_
    refine XS.astoreN X172.here hx rfl (hb hby at_409) rfl rfl (l' := #[.val (.int p1), .val (.ref b1), .val (.ref b104), .unset]) rfl ?_
    show Steps p.tables e below (T172.setTop (mkF m 410 #[.val (.int p1), .val (.ref b1), .val (.ref b104), .unset] [])) t_
    refine XS.iloadN X172.here hx rfl (hb hby at_410) rfl ?_
    show Steps p.tables e below (T172.setTop (mkF m 411 #[.val (.int p1), .val (.ref b1), .val (.ref b104), .unset] [(.int p1)])) t_
    refine Jvm.Stand.ldcI X172 hx hown (mvT hZ (own_w hw 73 rfl)) (g := (mkF m 411 #[.val (.int p1), .val (.ref b1), .val (.ref b104), .unset] [(.int p1)])) rfl (hb hby at_411) ?_
    show Steps p.tables e below (T172.setTop (mkF m 413 #[.val (.int p1), .val (.ref b1), .val (.ref b104), .unset] [(.int (2147483647 : Int32)), (.int p1)])) t_
    refine XS.iand X172.here hx rfl (hb hby at_413) rfl ?_
    show Steps p.tables e below (T172.setTop (mkF m 414 #[.val (.int p1), .val (.ref b1), .val (.ref b104), .unset] [(.int (p1 &&& (2147483647 : Int32)))])) t_
    refine XS.bipush X172.here hx rfl (hb hby at_414) ?_
    show Steps p.tables e below (T172.setTop (mkF m 416 #[.val (.int p1), .val (.ref b1), .val (.ref b104), .unset] [(.int (34 : Int32)), (.int (p1 &&& (2147483647 : Int32)))])) t_
    refine iremM (g := (mkF m 416 #[.val (.int p1), .val (.ref b1), .val (.ref b104), .unset] [(.int (34 : Int32)), (.int (p1 &&& (2147483647 : Int32)))])) X172 hx rfl (hb hby at_416) rfl (by decide : ¬ ((34 : Int32) = (0 : Int32))) ?_
    exact k_
  have Y173 : Arv Z h172 b1 k1 (.object "com/example/querent/querent/dicom/Vr") (34 : Int32) [(.ref ad0), (.ref ad1), (.ref ad2), (.ref ad3), (.ref ad4), (.ref ad5), (.ref ad6), (.ref ad7), (.ref ad8), (.ref ad9), (.ref ad10), (.ref ad11), (.ref ad12), (.ref ad13), (.ref ad14), (.ref ad15), (.ref ad16), (.ref ad17), (.ref ad18), (.ref ad19), (.ref ad20), (.ref ad21), (.ref ad22), (.ref ad23), (.ref ad24), (.ref ad25), (.ref ad26), (.ref ad27), (.ref ad28), (.ref ad29), (.ref ad30), (.ref ad31), (.ref ad32), (.ref ad33)] .null := (((((((((((((((((((((((((((((((((((B103.ext E104).other W106 (Nat.ne_of_lt (Nat.lt_of_lt_of_le (Nat.lt_of_lt_of_le (Nat.lt_of_lt_of_le (Nat.lt_of_lt_of_le (Nat.lt_of_lt_of_le (Nat.lt_of_lt_of_le (Nat.lt_of_lt_of_le (Nat.lt_of_lt_of_le (Nat.lt_of_lt_of_le (Nat.lt_of_lt_of_le (Nat.lt_of_lt_of_le (Nat.lt_of_lt_of_le (Nat.lt_of_lt_of_le (Nat.lt_of_lt_of_le (Nat.lt_of_lt_of_le (Nat.lt_of_lt_of_le (Nat.lt_of_lt_of_le (Nat.lt_of_lt_of_le (Nat.lt_of_lt_of_le (Nat.lt_of_lt_of_le (Nat.lt_of_lt_of_le (Nat.lt_of_lt_of_le (Nat.lt_of_lt_of_le (Nat.lt_of_lt_of_le (Nat.lt_of_lt_of_le (Nat.lt_of_lt_of_le (Nat.lt_of_lt_of_le (Nat.lt_of_lt_of_le (Nat.lt_of_lt_of_le (Nat.lt_of_lt_of_le (Nat.lt_of_lt_of_le (Nat.lt_of_lt_of_le (Nat.lt_of_lt_of_le (Nat.lt_of_lt_of_le (Nat.lt_of_lt_of_le B1.lt (Keep.of_wr W4).1) (Keep.of_wr W7).1) (Keep.of_wr W10).1) (Keep.of_wr W13).1) (Keep.of_wr W16).1) (Keep.of_wr W19).1) (Keep.of_wr W22).1) (Keep.of_wr W25).1) (Keep.of_wr W28).1) (Keep.of_wr W31).1) (Keep.of_wr W34).1) (Keep.of_wr W37).1) (Keep.of_wr W40).1) (Keep.of_wr W43).1) (Keep.of_wr W46).1) (Keep.of_wr W49).1) (Keep.of_wr W52).1) (Keep.of_wr W55).1) (Keep.of_wr W58).1) (Keep.of_wr W61).1) (Keep.of_wr W64).1) (Keep.of_wr W67).1) (Keep.of_wr W70).1) (Keep.of_wr W73).1) (Keep.of_wr W76).1) (Keep.of_wr W79).1) (Keep.of_wr W82).1) (Keep.of_wr W85).1) (Keep.of_wr W88).1) (Keep.of_wr W91).1) (Keep.of_wr W94).1) (Keep.of_wr W97).1) (Keep.of_wr W100).1) (Keep.of_wr W103).1) (Nat.le_of_eq g104.symm)))).other W108 (Nat.ne_of_lt (Nat.lt_of_lt_of_le (Nat.lt_of_lt_of_le (Nat.lt_of_lt_of_le (Nat.lt_of_lt_of_le (Nat.lt_of_lt_of_le (Nat.lt_of_lt_of_le (Nat.lt_of_lt_of_le (Nat.lt_of_lt_of_le (Nat.lt_of_lt_of_le (Nat.lt_of_lt_of_le (Nat.lt_of_lt_of_le (Nat.lt_of_lt_of_le (Nat.lt_of_lt_of_le (Nat.lt_of_lt_of_le (Nat.lt_of_lt_of_le (Nat.lt_of_lt_of_le (Nat.lt_of_lt_of_le (Nat.lt_of_lt_of_le (Nat.lt_of_lt_of_le (Nat.lt_of_lt_of_le (Nat.lt_of_lt_of_le (Nat.lt_of_lt_of_le (Nat.lt_of_lt_of_le (Nat.lt_of_lt_of_le (Nat.lt_of_lt_of_le (Nat.lt_of_lt_of_le (Nat.lt_of_lt_of_le (Nat.lt_of_lt_of_le (Nat.lt_of_lt_of_le (Nat.lt_of_lt_of_le (Nat.lt_of_lt_of_le (Nat.lt_of_lt_of_le (Nat.lt_of_lt_of_le (Nat.lt_of_lt_of_le (Nat.lt_of_lt_of_le B1.lt (Keep.of_wr W4).1) (Keep.of_wr W7).1) (Keep.of_wr W10).1) (Keep.of_wr W13).1) (Keep.of_wr W16).1) (Keep.of_wr W19).1) (Keep.of_wr W22).1) (Keep.of_wr W25).1) (Keep.of_wr W28).1) (Keep.of_wr W31).1) (Keep.of_wr W34).1) (Keep.of_wr W37).1) (Keep.of_wr W40).1) (Keep.of_wr W43).1) (Keep.of_wr W46).1) (Keep.of_wr W49).1) (Keep.of_wr W52).1) (Keep.of_wr W55).1) (Keep.of_wr W58).1) (Keep.of_wr W61).1) (Keep.of_wr W64).1) (Keep.of_wr W67).1) (Keep.of_wr W70).1) (Keep.of_wr W73).1) (Keep.of_wr W76).1) (Keep.of_wr W79).1) (Keep.of_wr W82).1) (Keep.of_wr W85).1) (Keep.of_wr W88).1) (Keep.of_wr W91).1) (Keep.of_wr W94).1) (Keep.of_wr W97).1) (Keep.of_wr W100).1) (Keep.of_wr W103).1) (Nat.le_of_eq g104.symm)))).other W110 (Nat.ne_of_lt (Nat.lt_of_lt_of_le (Nat.lt_of_lt_of_le (Nat.lt_of_lt_of_le (Nat.lt_of_lt_of_le (Nat.lt_of_lt_of_le (Nat.lt_of_lt_of_le (Nat.lt_of_lt_of_le (Nat.lt_of_lt_of_le (Nat.lt_of_lt_of_le (Nat.lt_of_lt_of_le (Nat.lt_of_lt_of_le (Nat.lt_of_lt_of_le (Nat.lt_of_lt_of_le (Nat.lt_of_lt_of_le (Nat.lt_of_lt_of_le (Nat.lt_of_lt_of_le (Nat.lt_of_lt_of_le (Nat.lt_of_lt_of_le (Nat.lt_of_lt_of_le (Nat.lt_of_lt_of_le (Nat.lt_of_lt_of_le (Nat.lt_of_lt_of_le (Nat.lt_of_lt_of_le (Nat.lt_of_lt_of_le (Nat.lt_of_lt_of_le (Nat.lt_of_lt_of_le (Nat.lt_of_lt_of_le (Nat.lt_of_lt_of_le (Nat.lt_of_lt_of_le (Nat.lt_of_lt_of_le (Nat.lt_of_lt_of_le (Nat.lt_of_lt_of_le (Nat.lt_of_lt_of_le (Nat.lt_of_lt_of_le (Nat.lt_of_lt_of_le B1.lt (Keep.of_wr W4).1) (Keep.of_wr W7).1) (Keep.of_wr W10).1) (Keep.of_wr W13).1) (Keep.of_wr W16).1) (Keep.of_wr W19).1) (Keep.of_wr W22).1) (Keep.of_wr W25).1) (Keep.of_wr W28).1) (Keep.of_wr W31).1) (Keep.of_wr W34).1) (Keep.of_wr W37).1) (Keep.of_wr W40).1) (Keep.of_wr W43).1) (Keep.of_wr W46).1) (Keep.of_wr W49).1) (Keep.of_wr W52).1) (Keep.of_wr W55).1) (Keep.of_wr W58).1) (Keep.of_wr W61).1) (Keep.of_wr W64).1) (Keep.of_wr W67).1) (Keep.of_wr W70).1) (Keep.of_wr W73).1) (Keep.of_wr W76).1) (Keep.of_wr W79).1) (Keep.of_wr W82).1) (Keep.of_wr W85).1) (Keep.of_wr W88).1) (Keep.of_wr W91).1) (Keep.of_wr W94).1) (Keep.of_wr W97).1) (Keep.of_wr W100).1) (Keep.of_wr W103).1) (Nat.le_of_eq g104.symm)))).other W112 (Nat.ne_of_lt (Nat.lt_of_lt_of_le (Nat.lt_of_lt_of_le (Nat.lt_of_lt_of_le (Nat.lt_of_lt_of_le (Nat.lt_of_lt_of_le (Nat.lt_of_lt_of_le (Nat.lt_of_lt_of_le (Nat.lt_of_lt_of_le (Nat.lt_of_lt_of_le (Nat.lt_of_lt_of_le (Nat.lt_of_lt_of_le (Nat.lt_of_lt_of_le (Nat.lt_of_lt_of_le (Nat.lt_of_lt_of_le (Nat.lt_of_lt_of_le (Nat.lt_of_lt_of_le (Nat.lt_of_lt_of_le (Nat.lt_of_lt_of_le (Nat.lt_of_lt_of_le (Nat.lt_of_lt_of_le (Nat.lt_of_lt_of_le (Nat.lt_of_lt_of_le (Nat.lt_of_lt_of_le (Nat.lt_of_lt_of_le (Nat.lt_of_lt_of_le (Nat.lt_of_lt_of_le (Nat.lt_of_lt_of_le (Nat.lt_of_lt_of_le (Nat.lt_of_lt_of_le (Nat.lt_of_lt_of_le (Nat.lt_of_lt_of_le (Nat.lt_of_lt_of_le (Nat.lt_of_lt_of_le (Nat.lt_of_lt_of_le (Nat.lt_of_lt_of_le B1.lt (Keep.of_wr W4).1) (Keep.of_wr W7).1) (Keep.of_wr W10).1) (Keep.of_wr W13).1) (Keep.of_wr W16).1) (Keep.of_wr W19).1) (Keep.of_wr W22).1) (Keep.of_wr W25).1) (Keep.of_wr W28).1) (Keep.of_wr W31).1) (Keep.of_wr W34).1) (Keep.of_wr W37).1) (Keep.of_wr W40).1) (Keep.of_wr W43).1) (Keep.of_wr W46).1) (Keep.of_wr W49).1) (Keep.of_wr W52).1) (Keep.of_wr W55).1) (Keep.of_wr W58).1) (Keep.of_wr W61).1) (Keep.of_wr W64).1) (Keep.of_wr W67).1) (Keep.of_wr W70).1) (Keep.of_wr W73).1) (Keep.of_wr W76).1) (Keep.of_wr W79).1) (Keep.of_wr W82).1) (Keep.of_wr W85).1) (Keep.of_wr W88).1) (Keep.of_wr W91).1) (Keep.of_wr W94).1) (Keep.of_wr W97).1) (Keep.of_wr W100).1) (Keep.of_wr W103).1) (Nat.le_of_eq g104.symm)))).other W114 (Nat.ne_of_lt (Nat.lt_of_lt_of_le (Nat.lt_of_lt_of_le (Nat.lt_of_lt_of_le (Nat.lt_of_lt_of_le (Nat.lt_of_lt_of_le (Nat.lt_of_lt_of_le (Nat.lt_of_lt_of_le (Nat.lt_of_lt_of_le (Nat.lt_of_lt_of_le (Nat.lt_of_lt_of_le (Nat.lt_of_lt_of_le (Nat.lt_of_lt_of_le (Nat.lt_of_lt_of_le (Nat.lt_of_lt_of_le (Nat.lt_of_lt_of_le (Nat.lt_of_lt_of_le (Nat.lt_of_lt_of_le (Nat.lt_of_lt_of_le (Nat.lt_of_lt_of_le (Nat.lt_of_lt_of_le (Nat.lt_of_lt_of_le (Nat.lt_of_lt_of_le (Nat.lt_of_lt_of_le (Nat.lt_of_lt_of_le (Nat.lt_of_lt_of_le (Nat.lt_of_lt_of_le (Nat.lt_of_lt_of_le (Nat.lt_of_lt_of_le (Nat.lt_of_lt_of_le (Nat.lt_of_lt_of_le (Nat.lt_of_lt_of_le (Nat.lt_of_lt_of_le (Nat.lt_of_lt_of_le (Nat.lt_of_lt_of_le (Nat.lt_of_lt_of_le B1.lt (Keep.of_wr W4).1) (Keep.of_wr W7).1) (Keep.of_wr W10).1) (Keep.of_wr W13).1) (Keep.of_wr W16).1) (Keep.of_wr W19).1) (Keep.of_wr W22).1) (Keep.of_wr W25).1) (Keep.of_wr W28).1) (Keep.of_wr W31).1) (Keep.of_wr W34).1) (Keep.of_wr W37).1) (Keep.of_wr W40).1) (Keep.of_wr W43).1) (Keep.of_wr W46).1) (Keep.of_wr W49).1) (Keep.of_wr W52).1) (Keep.of_wr W55).1) (Keep.of_wr W58).1) (Keep.of_wr W61).1) (Keep.of_wr W64).1) (Keep.of_wr W67).1) (Keep.of_wr W70).1) (Keep.of_wr W73).1) (Keep.of_wr W76).1) (Keep.of_wr W79).1) (Keep.of_wr W82).1) (Keep.of_wr W85).1) (Keep.of_wr W88).1) (Keep.of_wr W91).1) (Keep.of_wr W94).1) (Keep.of_wr W97).1) (Keep.of_wr W100).1) (Keep.of_wr W103).1) (Nat.le_of_eq g104.symm)))).other W116 (Nat.ne_of_lt (Nat.lt_of_lt_of_le (Nat.lt_of_lt_of_le (Nat.lt_of_lt_of_le (Nat.lt_of_lt_of_le (Nat.lt_of_lt_of_le (Nat.lt_of_lt_of_le (Nat.lt_of_lt_of_le (Nat.lt_of_lt_of_le (Nat.lt_of_lt_of_le (Nat.lt_of_lt_of_le (Nat.lt_of_lt_of_le (Nat.lt_of_lt_of_le (Nat.lt_of_lt_of_le (Nat.lt_of_lt_of_le (Nat.lt_of_lt_of_le (Nat.lt_of_lt_of_le (Nat.lt_of_lt_of_le (Nat.lt_of_lt_of_le (Nat.lt_of_lt_of_le (Nat.lt_of_lt_of_le (Nat.lt_of_lt_of_le (Nat.lt_of_lt_of_le (Nat.lt_of_lt_of_le (Nat.lt_of_lt_of_le (Nat.lt_of_lt_of_le (Nat.lt_of_lt_of_le (Nat.lt_of_lt_of_le (Nat.lt_of_lt_of_le (Nat.lt_of_lt_of_le (Nat.lt_of_lt_of_le (Nat.lt_of_lt_of_le (Nat.lt_of_lt_of_le (Nat.lt_of_lt_of_le (Nat.lt_of_lt_of_le (Nat.lt_of_lt_of_le B1.lt (Keep.of_wr W4).1) (Keep.of_wr W7).1) (Keep.of_wr W10).1) (Keep.of_wr W13).1) (Keep.of_wr W16).1) (Keep.of_wr W19).1) (Keep.of_wr W22).1) (Keep.of_wr W25).1) (Keep.of_wr W28).1) (Keep.of_wr W31).1) (Keep.of_wr W34).1) (Keep.of_wr W37).1) (Keep.of_wr W40).1) (Keep.of_wr W43).1) (Keep.of_wr W46).1) (Keep.of_wr W49).1) (Keep.of_wr W52).1) (Keep.of_wr W55).1) (Keep.of_wr W58).1) (Keep.of_wr W61).1) (Keep.of_wr W64).1) (Keep.of_wr W67).1) (Keep.of_wr W70).1) (Keep.of_wr W73).1) (Keep.of_wr W76).1) (Keep.of_wr W79).1) (Keep.of_wr W82).1) (Keep.of_wr W85).1) (Keep.of_wr W88).1) (Keep.of_wr W91).1) (Keep.of_wr W94).1) (Keep.of_wr W97).1) (Keep.of_wr W100).1) (Keep.of_wr W103).1) (Nat.le_of_eq g104.symm)))).other W118 (Nat.ne_of_lt (Nat.lt_of_lt_of_le (Nat.lt_of_lt_of_le (Nat.lt_of_lt_of_le (Nat.lt_of_lt_of_le (Nat.lt_of_lt_of_le (Nat.lt_of_lt_of_le (Nat.lt_of_lt_of_le (Nat.lt_of_lt_of_le (Nat.lt_of_lt_of_le (Nat.lt_of_lt_of_le (Nat.lt_of_lt_of_le (Nat.lt_of_lt_of_le (Nat.lt_of_lt_of_le (Nat.lt_of_lt_of_le (Nat.lt_of_lt_of_le (Nat.lt_of_lt_of_le (Nat.lt_of_lt_of_le (Nat.lt_of_lt_of_le (Nat.lt_of_lt_of_le (Nat.lt_of_lt_of_le (Nat.lt_of_lt_of_le (Nat.lt_of_lt_of_le (Nat.lt_of_lt_of_le (Nat.lt_of_lt_of_le (Nat.lt_of_lt_of_le (Nat.lt_of_lt_of_le (Nat.lt_of_lt_of_le (Nat.lt_of_lt_of_le (Nat.lt_of_lt_of_le (Nat.lt_of_lt_of_le (Nat.lt_of_lt_of_le (Nat.lt_of_lt_of_le (Nat.lt_of_lt_of_le (Nat.lt_of_lt_of_le (Nat.lt_of_lt_of_le B1.lt (Keep.of_wr W4).1) (Keep.of_wr W7).1) (Keep.of_wr W10).1) (Keep.of_wr W13).1) (Keep.of_wr W16).1) (Keep.of_wr W19).1) (Keep.of_wr W22).1) (Keep.of_wr W25).1) (Keep.of_wr W28).1) (Keep.of_wr W31).1) (Keep.of_wr W34).1) (Keep.of_wr W37).1) (Keep.of_wr W40).1) (Keep.of_wr W43).1) (Keep.of_wr W46).1) (Keep.of_wr W49).1) (Keep.of_wr W52).1) (Keep.of_wr W55).1) (Keep.of_wr W58).1) (Keep.of_wr W61).1) (Keep.of_wr W64).1) (Keep.of_wr W67).1) (Keep.of_wr W70).1) (Keep.of_wr W73).1) (Keep.of_wr W76).1) (Keep.of_wr W79).1) (Keep.of_wr W82).1) (Keep.of_wr W85).1) (Keep.of_wr W88).1) (Keep.of_wr W91).1) (Keep.of_wr W94).1) (Keep.of_wr W97).1) (Keep.of_wr W100).1) (Keep.of_wr W103).1) (Nat.le_of_eq g104.symm)))).other W120 (Nat.ne_of_lt (Nat.lt_of_lt_of_le (Nat.lt_of_lt_of_le (Nat.lt_of_lt_of_le (Nat.lt_of_lt_of_le (Nat.lt_of_lt_of_le (Nat.lt_of_lt_of_le (Nat.lt_of_lt_of_le (Nat.lt_of_lt_of_le (Nat.lt_of_lt_of_le (Nat.lt_of_lt_of_le (Nat.lt_of_lt_of_le (Nat.lt_of_lt_of_le (Nat.lt_of_lt_of_le (Nat.lt_of_lt_of_le (Nat.lt_of_lt_of_le (Nat.lt_of_lt_of_le (Nat.lt_of_lt_of_le (Nat.lt_of_lt_of_le (Nat.lt_of_lt_of_le (Nat.lt_of_lt_of_le (Nat.lt_of_lt_of_le (Nat.lt_of_lt_of_le (Nat.lt_of_lt_of_le (Nat.lt_of_lt_of_le (Nat.lt_of_lt_of_le (Nat.lt_of_lt_of_le (Nat.lt_of_lt_of_le (Nat.lt_of_lt_of_le (Nat.lt_of_lt_of_le (Nat.lt_of_lt_of_le (Nat.lt_of_lt_of_le (Nat.lt_of_lt_of_le (Nat.lt_of_lt_of_le (Nat.lt_of_lt_of_le (Nat.lt_of_lt_of_le B1.lt (Keep.of_wr W4).1) (Keep.of_wr W7).1) (Keep.of_wr W10).1) (Keep.of_wr W13).1) (Keep.of_wr W16).1) (Keep.of_wr W19).1) (Keep.of_wr W22).1) (Keep.of_wr W25).1) (Keep.of_wr W28).1) (Keep.of_wr W31).1) (Keep.of_wr W34).1) (Keep.of_wr W37).1) (Keep.of_wr W40).1) (Keep.of_wr W43).1) (Keep.of_wr W46).1) (Keep.of_wr W49).1) (Keep.of_wr W52).1) (Keep.of_wr W55).1) (Keep.of_wr W58).1) (Keep.of_wr W61).1) (Keep.of_wr W64).1) (Keep.of_wr W67).1) (Keep.of_wr W70).1) (Keep.of_wr W73).1) (Keep.of_wr W76).1) (Keep.of_wr W79).1) (Keep.of_wr W82).1) (Keep.of_wr W85).1) (Keep.of_wr W88).1) (Keep.of_wr W91).1) (Keep.of_wr W94).1) (Keep.of_wr W97).1) (Keep.of_wr W100).1) (Keep.of_wr W103).1) (Nat.le_of_eq g104.symm)))).other W122 (Nat.ne_of_lt (Nat.lt_of_lt_of_le (Nat.lt_of_lt_of_le (Nat.lt_of_lt_of_le (Nat.lt_of_lt_of_le (Nat.lt_of_lt_of_le (Nat.lt_of_lt_of_le (Nat.lt_of_lt_of_le (Nat.lt_of_lt_of_le (Nat.lt_of_lt_of_le (Nat.lt_of_lt_of_le (Nat.lt_of_lt_of_le (Nat.lt_of_lt_of_le (Nat.lt_of_lt_of_le (Nat.lt_of_lt_of_le (Nat.lt_of_lt_of_le (Nat.lt_of_lt_of_le (Nat.lt_of_lt_of_le (Nat.lt_of_lt_of_le (Nat.lt_of_lt_of_le (Nat.lt_of_lt_of_le (Nat.lt_of_lt_of_le (Nat.lt_of_lt_of_le (Nat.lt_of_lt_of_le (Nat.lt_of_lt_of_le (Nat.lt_of_lt_of_le (Nat.lt_of_lt_of_le (Nat.lt_of_lt_of_le (Nat.lt_of_lt_of_le (Nat.lt_of_lt_of_le (Nat.lt_of_lt_of_le (Nat.lt_of_lt_of_le (Nat.lt_of_lt_of_le (Nat.lt_of_lt_of_le (Nat.lt_of_lt_of_le (Nat.lt_of_lt_of_le B1.lt (Keep.of_wr W4).1) (Keep.of_wr W7).1) (Keep.of_wr W10).1) (Keep.of_wr W13).1) (Keep.of_wr W16).1) (Keep.of_wr W19).1) (Keep.of_wr W22).1) (Keep.of_wr W25).1) (Keep.of_wr W28).1) (Keep.of_wr W31).1) (Keep.of_wr W34).1) (Keep.of_wr W37).1) (Keep.of_wr W40).1) (Keep.of_wr W43).1) (Keep.of_wr W46).1) (Keep.of_wr W49).1) (Keep.of_wr W52).1) (Keep.of_wr W55).1) (Keep.of_wr W58).1) (Keep.of_wr W61).1) (Keep.of_wr W64).1) (Keep.of_wr W67).1) (Keep.of_wr W70).1) (Keep.of_wr W73).1) (Keep.of_wr W76).1) (Keep.of_wr W79).1) (Keep.of_wr W82).1) (Keep.of_wr W85).1) (Keep.of_wr W88).1) (Keep.of_wr W91).1) (Keep.of_wr W94).1) (Keep.of_wr W97).1) (Keep.of_wr W100).1) (Keep.of_wr W103).1) (Nat.le_of_eq g104.symm)))).other W124 (Nat.ne_of_lt (Nat.lt_of_lt_of_le (Nat.lt_of_lt_of_le (Nat.lt_of_lt_of_le (Nat.lt_of_lt_of_le (Nat.lt_of_lt_of_le (Nat.lt_of_lt_of_le (Nat.lt_of_lt_of_le (Nat.lt_of_lt_of_le (Nat.lt_of_lt_of_le (Nat.lt_of_lt_of_le (Nat.lt_of_lt_of_le (Nat.lt_of_lt_of_le (Nat.lt_of_lt_of_le (Nat.lt_of_lt_of_le (Nat.lt_of_lt_of_le (Nat.lt_of_lt_of_le (Nat.lt_of_lt_of_le (Nat.lt_of_lt_of_le (Nat.lt_of_lt_of_le (Nat.lt_of_lt_of_le (Nat.lt_of_lt_of_le (Nat.lt_of_lt_of_le (Nat.lt_of_lt_of_le (Nat.lt_of_lt_of_le (Nat.lt_of_lt_of_le (Nat.lt_of_lt_of_le (Nat.lt_of_lt_of_le (Nat.lt_of_lt_of_le (Nat.lt_of_lt_of_le (Nat.lt_of_lt_of_le (Nat.lt_of_lt_of_le (Nat.lt_of_lt_of_le (Nat.lt_of_lt_of_le (Nat.lt_of_lt_of_le (Nat.lt_of_lt_of_le B1.lt (Keep.of_wr W4).1) (Keep.of_wr W7).1) (Keep.of_wr W10).1) (Keep.of_wr W13).1) (Keep.of_wr W16).1) (Keep.of_wr W19).1) (Keep.of_wr W22).1) (Keep.of_wr W25).1) (Keep.of_wr W28).1) (Keep.of_wr W31).1) (Keep.of_wr W34).1) (Keep.of_wr W37).1) (Keep.of_wr W40).1) (Keep.of_wr W43).1) (Keep.of_wr W46).1) (Keep.of_wr W49).1) (Keep.of_wr W52).1) (Keep.of_wr W55).1) (Keep.of_wr W58).1) (Keep.of_wr W61).1) (Keep.of_wr W64).1) (Keep.of_wr W67).1) (Keep.of_wr W70).1) (Keep.of_wr W73).1) (Keep.of_wr W76).1) (Keep.of_wr W79).1) (Keep.of_wr W82).1) (Keep.of_wr W85).1) (Keep.of_wr W88).1) (Keep.of_wr W91).1) (Keep.of_wr W94).1) (Keep.of_wr W97).1) (Keep.of_wr W100).1) (Keep.of_wr W103).1) (Nat.le_of_eq g104.symm)))).other W126 (Nat.ne_of_lt (Nat.lt_of_lt_of_le (Nat.lt_of_lt_of_le (Nat.lt_of_lt_of_le (Nat.lt_of_lt_of_le (Nat.lt_of_lt_of_le (Nat.lt_of_lt_of_le (Nat.lt_of_lt_of_le (Nat.lt_of_lt_of_le (Nat.lt_of_lt_of_le (Nat.lt_of_lt_of_le (Nat.lt_of_lt_of_le (Nat.lt_of_lt_of_le (Nat.lt_of_lt_of_le (Nat.lt_of_lt_of_le (Nat.lt_of_lt_of_le (Nat.lt_of_lt_of_le (Nat.lt_of_lt_of_le (Nat.lt_of_lt_of_le (Nat.lt_of_lt_of_le (Nat.lt_of_lt_of_le (Nat.lt_of_lt_of_le (Nat.lt_of_lt_of_le (Nat.lt_of_lt_of_le (Nat.lt_of_lt_of_le (Nat.lt_of_lt_of_le (Nat.lt_of_lt_of_le (Nat.lt_of_lt_of_le (Nat.lt_of_lt_of_le (Nat.lt_of_lt_of_le (Nat.lt_of_lt_of_le (Nat.lt_of_lt_of_le (Nat.lt_of_lt_of_le (Nat.lt_of_lt_of_le (Nat.lt_of_lt_of_le (Nat.lt_of_lt_of_le B1.lt (Keep.of_wr W4).1) (Keep.of_wr W7).1) (Keep.of_wr W10).1) (Keep.of_wr W13).1) (Keep.of_wr W16).1) (Keep.of_wr W19).1) (Keep.of_wr W22).1) (Keep.of_wr W25).1) (Keep.of_wr W28).1) (Keep.of_wr W31).1) (Keep.of_wr W34).1) (Keep.of_wr W37).1) (Keep.of_wr W40).1) (Keep.of_wr W43).1) (Keep.of_wr W46).1) (Keep.of_wr W49).1) (Keep.of_wr W52).1) (Keep.of_wr W55).1) (Keep.of_wr W58).1) (Keep.of_wr W61).1) (Keep.of_wr W64).1) (Keep.of_wr W67).1) (Keep.of_wr W70).1) (Keep.of_wr W73).1) (Keep.of_wr W76).1) (Keep.of_wr W79).1) (Keep.of_wr W82).1) (Keep.of_wr W85).1) (Keep.of_wr W88).1) (Keep.of_wr W91).1) (Keep.of_wr W94).1) (Keep.of_wr W97).1) (Keep.of_wr W100).1) (Keep.of_wr W103).1) (Nat.le_of_eq g104.symm)))).other W128 (Nat.ne_of_lt (Nat.lt_of_lt_of_le (Nat.lt_of_lt_of_le (Nat.lt_of_lt_of_le (Nat.lt_of_lt_of_le (Nat.lt_of_lt_of_le (Nat.lt_of_lt_of_le (Nat.lt_of_lt_of_le (Nat.lt_of_lt_of_le (Nat.lt_of_lt_of_le (Nat.lt_of_lt_of_le (Nat.lt_of_lt_of_le (Nat.lt_of_lt_of_le (Nat.lt_of_lt_of_le (Nat.lt_of_lt_of_le (Nat.lt_of_lt_of_le (Nat.lt_of_lt_of_le (Nat.lt_of_lt_of_le (Nat.lt_of_lt_of_le (Nat.lt_of_lt_of_le (Nat.lt_of_lt_of_le (Nat.lt_of_lt_of_le (Nat.lt_of_lt_of_le (Nat.lt_of_lt_of_le (Nat.lt_of_lt_of_le (Nat.lt_of_lt_of_le (Nat.lt_of_lt_of_le (Nat.lt_of_lt_of_le (Nat.lt_of_lt_of_le (Nat.lt_of_lt_of_le (Nat.lt_of_lt_of_le (Nat.lt_of_lt_of_le (Nat.lt_of_lt_of_le (Nat.lt_of_lt_of_le (Nat.lt_of_lt_of_le (Nat.lt_of_lt_of_le B1.lt (Keep.of_wr W4).1) (Keep.of_wr W7).1) (Keep.of_wr W10).1) (Keep.of_wr W13).1) (Keep.of_wr W16).1) (Keep.of_wr W19).1) (Keep.of_wr W22).1) (Keep.of_wr W25).1) (Keep.of_wr W28).1) (Keep.of_wr W31).1) (Keep.of_wr W34).1) (Keep.of_wr W37).1) (Keep.of_wr W40).1) (Keep.of_wr W43).1) (Keep.of_wr W46).1) (Keep.of_wr W49).1) (Keep.of_wr W52).1) (Keep.of_wr W55).1) (Keep.of_wr W58).1) (Keep.of_wr W61).1) (Keep.of_wr W64).1) (Keep.of_wr W67).1) (Keep.of_wr W70).1) (Keep.of_wr W73).1) (Keep.of_wr W76).1) (Keep.of_wr W79).1) (Keep.of_wr W82).1) (Keep.of_wr W85).1) (Keep.of_wr W88).1) (Keep.of_wr W91).1) (Keep.of_wr W94).1) (Keep.of_wr W97).1) (Keep.of_wr W100).1) (Keep.of_wr W103).1) (Nat.le_of_eq g104.symm)))).other W130 (Nat.ne_of_lt (Nat.lt_of_lt_of_le (Nat.lt_of_lt_of_le (Nat.lt_of_lt_of_le (Nat.lt_of_lt_of_le (Nat.lt_of_lt_of_le (Nat.lt_of_lt_of_le (Nat.lt_of_lt_of_le (Nat.lt_of_lt_of_le (Nat.lt_of_lt_of_le (Nat.lt_of_lt_of_le (Nat.lt_of_lt_of_le (Nat.lt_of_lt_of_le (Nat.lt_of_lt_of_le (Nat.lt_of_lt_of_le (Nat.lt_of_lt_of_le (Nat.lt_of_lt_of_le (Nat.lt_of_lt_of_le (Nat.lt_of_lt_of_le (Nat.lt_of_lt_of_le (Nat.lt_of_lt_of_le (Nat.lt_of_lt_of_le (Nat.lt_of_lt_of_le (Nat.lt_of_lt_of_le (Nat.lt_of_lt_of_le (Nat.lt_of_lt_of_le (Nat.lt_of_lt_of_le (Nat.lt_of_lt_of_le (Nat.lt_of_lt_of_le (Nat.lt_of_lt_of_le (Nat.lt_of_lt_of_le (Nat.lt_of_lt_of_le (Nat.lt_of_lt_of_le (Nat.lt_of_lt_of_le (Nat.lt_of_lt_of_le (Nat.lt_of_lt_of_le B1.lt (Keep.of_wr W4).1) (Keep.of_wr W7).1) (Keep.of_wr W10).1) (Keep.of_wr W13).1) (Keep.of_wr W16).1) (Keep.of_wr W19).1) (Keep.of_wr W22).1) (Keep.of_wr W25).1) (Keep.of_wr W28).1) (Keep.of_wr W31).1) (Keep.of_wr W34).1) (Keep.of_wr W37).1) (Keep.of_wr W40).1) (Keep.of_wr W43).1) (Keep.of_wr W46).1) (Keep.of_wr W49).1) (Keep.of_wr W52).1) (Keep.of_wr W55).1) (Keep.of_wr W58).1) (Keep.of_wr W61).1) (Keep.of_wr W64).1) (Keep.of_wr W67).1) (Keep.of_wr W70).1) (Keep.of_wr W73).1) (Keep.of_wr W76).1) (Keep.of_wr W79).1) (Keep.of_wr W82).1) (Keep.of_wr W85).1) (Keep.of_wr W88).1) (Keep.of_wr W91).1) (Keep.of_wr W94).1) (Keep.of_wr W97).1) (Keep.of_wr W100).1) (Keep.of_wr W103).1) (Nat.le_of_eq g104.symm)))).other W132 (Nat.ne_of_lt (Nat.lt_of_lt_of_le (Nat.lt_of_lt_of_le (Nat.lt_of_lt_of_le (Nat.lt_of_lt_of_le (Nat.lt_of_lt_of_le (Nat.lt_of_lt_of_le (Nat.lt_of_lt_of_le (Nat.lt_of_lt_of_le (Nat.lt_of_lt_of_le (Nat.lt_of_lt_of_le (Nat.lt_of_lt_of_le (Nat.lt_of_lt_of_le (Nat.lt_of_lt_of_le (Nat.lt_of_lt_of_le (Nat.lt_of_lt_of_le (Nat.lt_of_lt_of_le (Nat.lt_of_lt_of_le (Nat.lt_of_lt_of_le (Nat.lt_of_lt_of_le (Nat.lt_of_lt_of_le (Nat.lt_of_lt_of_le (Nat.lt_of_lt_of_le (Nat.lt_of_lt_of_le (Nat.lt_of_lt_of_le (Nat.lt_of_lt_of_le (Nat.lt_of_lt_of_le (Nat.lt_of_lt_of_le (Nat.lt_of_lt_of_le (Nat.lt_of_lt_of_le (Nat.lt_of_lt_of_le (Nat.lt_of_lt_of_le (Nat.lt_of_lt_of_le (Nat.lt_of_lt_of_le (Nat.lt_of_lt_of_le (Nat.lt_of_lt_of_le B1.lt (Keep.of_wr W4).1) (Keep.of_wr W7).1) (Keep.of_wr W10).1) (Keep.of_wr W13).1) (Keep.of_wr W16).1) (Keep.of_wr W19).1) (Keep.of_wr W22).1) (Keep.of_wr W25).1) (Keep.of_wr W28).1) (Keep.of_wr W31).1) (Keep.of_wr W34).1) (Keep.of_wr W37).1) (Keep.of_wr W40).1) (Keep.of_wr W43).1) (Keep.of_wr W46).1) (Keep.of_wr W49).1) (Keep.of_wr W52).1) (Keep.of_wr W55).1) (Keep.of_wr W58).1) (Keep.of_wr W61).1) (Keep.of_wr W64).1) (Keep.of_wr W67).1) (Keep.of_wr W70).1) (Keep.of_wr W73).1) (Keep.of_wr W76).1) (Keep.of_wr W79).1) (Keep.of_wr W82).1) (Keep.of_wr W85).1) (Keep.of_wr W88).1) (Keep.of_wr W91).1) (Keep.of_wr W94).1) (Keep.of_wr W97).1) (Keep.of_wr W100).1) (Keep.of_wr W103).1) (Nat.le_of_eq g104.symm)))).other W134 (Nat.ne_of_lt (Nat.lt_of_lt_of_le (Nat.lt_of_lt_of_le (Nat.lt_of_lt_of_le (Nat.lt_of_lt_of_le (Nat.lt_of_lt_of_le (Nat.lt_of_lt_of_le (Nat.lt_of_lt_of_le (Nat.lt_of_lt_of_le (Nat.lt_of_lt_of_le (Nat.lt_of_lt_of_le (Nat.lt_of_lt_of_le (Nat.lt_of_lt_of_le (Nat.lt_of_lt_of_le (Nat.lt_of_lt_of_le (Nat.lt_of_lt_of_le (Nat.lt_of_lt_of_le (Nat.lt_of_lt_of_le (Nat.lt_of_lt_of_le (Nat.lt_of_lt_of_le (Nat.lt_of_lt_of_le (Nat.lt_of_lt_of_le (Nat.lt_of_lt_of_le (Nat.lt_of_lt_of_le (Nat.lt_of_lt_of_le (Nat.lt_of_lt_of_le (Nat.lt_of_lt_of_le (Nat.lt_of_lt_of_le (Nat.lt_of_lt_of_le (Nat.lt_of_lt_of_le (Nat.lt_of_lt_of_le (Nat.lt_of_lt_of_le (Nat.lt_of_lt_of_le (Nat.lt_of_lt_of_le (Nat.lt_of_lt_of_le (Nat.lt_of_lt_of_le B1.lt (Keep.of_wr W4).1) (Keep.of_wr W7).1) (Keep.of_wr W10).1) (Keep.of_wr W13).1) (Keep.of_wr W16).1) (Keep.of_wr W19).1) (Keep.of_wr W22).1) (Keep.of_wr W25).1) (Keep.of_wr W28).1) (Keep.of_wr W31).1) (Keep.of_wr W34).1) (Keep.of_wr W37).1) (Keep.of_wr W40).1) (Keep.of_wr W43).1) (Keep.of_wr W46).1) (Keep.of_wr W49).1) (Keep.of_wr W52).1) (Keep.of_wr W55).1) (Keep.of_wr W58).1) (Keep.of_wr W61).1) (Keep.of_wr W64).1) (Keep.of_wr W67).1) (Keep.of_wr W70).1) (Keep.of_wr W73).1) (Keep.of_wr W76).1) (Keep.of_wr W79).1) (Keep.of_wr W82).1) (Keep.of_wr W85).1) (Keep.of_wr W88).1) (Keep.of_wr W91).1) (Keep.of_wr W94).1) (Keep.of_wr W97).1) (Keep.of_wr W100).1) (Keep.of_wr W103).1) (Nat.le_of_eq g104.symm)))).other W136 (Nat.ne_of_lt (Nat.lt_of_lt_of_le (Nat.lt_of_lt_of_le (Nat.lt_of_lt_of_le (Nat.lt_of_lt_of_le (Nat.lt_of_lt_of_le (Nat.lt_of_lt_of_le (Nat.lt_of_lt_of_le (Nat.lt_of_lt_of_le (Nat.lt_of_lt_of_le (Nat.lt_of_lt_of_le (Nat.lt_of_lt_of_le (Nat.lt_of_lt_of_le (Nat.lt_of_lt_of_le (Nat.lt_of_lt_of_le (Nat.lt_of_lt_of_le (Nat.lt_of_lt_of_le (Nat.lt_of_lt_of_le (Nat.lt_of_lt_of_le (Nat.lt_of_lt_of_le (Nat.lt_of_lt_of_le (Nat.lt_of_lt_of_le (Nat.lt_of_lt_of_le (Nat.lt_of_lt_of_le (Nat.lt_of_lt_of_le (Nat.lt_of_lt_of_le (Nat.lt_of_lt_of_le (Nat.lt_of_lt_of_le (Nat.lt_of_lt_of_le (Nat.lt_of_lt_of_le (Nat.lt_of_lt_of_le (Nat.lt_of_lt_of_le (Nat.lt_of_lt_of_le (Nat.lt_of_lt_of_le (Nat.lt_of_lt_of_le (Nat.lt_of_lt_of_le B1.lt (Keep.of_wr W4).1) (Keep.of_wr W7).1) (Keep.of_wr W10).1) (Keep.of_wr W13).1) (Keep.of_wr W16).1) (Keep.of_wr W19).1) (Keep.of_wr W22).1) (Keep.of_wr W25).1) (Keep.of_wr W28).1) (Keep.of_wr W31).1) (Keep.of_wr W34).1) (Keep.of_wr W37).1) (Keep.of_wr W40).1) (Keep.of_wr W43).1) (Keep.of_wr W46).1) (Keep.of_wr W49).1) (Keep.of_wr W52).1) (Keep.of_wr W55).1) (Keep.of_wr W58).1) (Keep.of_wr W61).1) (Keep.of_wr W64).1) (Keep.of_wr W67).1) (Keep.of_wr W70).1) (Keep.of_wr W73).1) (Keep.of_wr W76).1) (Keep.of_wr W79).1) (Keep.of_wr W82).1) (Keep.of_wr W85).1) (Keep.of_wr W88).1) (Keep.of_wr W91).1) (Keep.of_wr W94).1) (Keep.of_wr W97).1) (Keep.of_wr W100).1) (Keep.of_wr W103).1) (Nat.le_of_eq g104.symm)))).other W138 (Nat.ne_of_lt (Nat.lt_of_lt_of_le (Nat.lt_of_lt_of_le (Nat.lt_of_lt_of_le (Nat.lt_of_lt_of_le (Nat.lt_of_lt_of_le (Nat.lt_of_lt_of_le (Nat.lt_of_lt_of_le (Nat.lt_of_lt_of_le (Nat.lt_of_lt_of_le (Nat.lt_of_lt_of_le (Nat.lt_of_lt_of_le (Nat.lt_of_lt_of_le (Nat.lt_of_lt_of_le (Nat.lt_of_lt_of_le (Nat.lt_of_lt_of_le (Nat.lt_of_lt_of_le (Nat.lt_of_lt_of_le (Nat.lt_of_lt_of_le (Nat.lt_of_lt_of_le (Nat.lt_of_lt_of_le (Nat.lt_of_lt_of_le (Nat.lt_of_lt_of_le (Nat.lt_of_lt_of_le (Nat.lt_of_lt_of_le (Nat.lt_of_lt_of_le (Nat.lt_of_lt_of_le (Nat.lt_of_lt_of_le (Nat.lt_of_lt_of_le (Nat.lt_of_lt_of_le (Nat.lt_of_lt_of_le (Nat.lt_of_lt_of_le (Nat.lt_of_lt_of_le (Nat.lt_of_lt_of_le (Nat.lt_of_lt_of_le (Nat.lt_of_lt_of_le B1.lt (Keep.of_wr W4).1) (Keep.of_wr W7).1) (Keep.of_wr W10).1) (Keep.of_wr W13).1) (Keep.of_wr W16).1) (Keep.of_wr W19).1) (Keep.of_wr W22).1) (Keep.of_wr W25).1) (Keep.of_wr W28).1) (Keep.of_wr W31).1) (Keep.of_wr W34).1) (Keep.of_wr W37).1) (Keep.of_wr W40).1) (Keep.of_wr W43).1) (Keep.of_wr W46).1) (Keep.of_wr W49).1) (Keep.of_wr W52).1) (Keep.of_wr W55).1) (Keep.of_wr W58).1) (Keep.of_wr W61).1) (Keep.of_wr W64).1) (Keep.of_wr W67).1) (Keep.of_wr W70).1) (Keep.of_wr W73).1) (Keep.of_wr W76).1) (Keep.of_wr W79).1) (Keep.of_wr W82).1) (Keep.of_wr W85).1) (Keep.of_wr W88).1) (Keep.of_wr W91).1) (Keep.of_wr W94).1) (Keep.of_wr W97).1) (Keep.of_wr W100).1) (Keep.of_wr W103).1) (Nat.le_of_eq g104.symm)))).other W140 (Nat.ne_of_lt (Nat.lt_of_lt_of_le (Nat.lt_of_lt_of_le (Nat.lt_of_lt_of_le (Nat.lt_of_lt_of_le (Nat.lt_of_lt_of_le (Nat.lt_of_lt_of_le (Nat.lt_of_lt_of_le (Nat.lt_of_lt_of_le (Nat.lt_of_lt_of_le (Nat.lt_of_lt_of_le (Nat.lt_of_lt_of_le (Nat.lt_of_lt_of_le (Nat.lt_of_lt_of_le (Nat.lt_of_lt_of_le (Nat.lt_of_lt_of_le (Nat.lt_of_lt_of_le (Nat.lt_of_lt_of_le (Nat.lt_of_lt_of_le (Nat.lt_of_lt_of_le (Nat.lt_of_lt_of_le (Nat.lt_of_lt_of_le (Nat.lt_of_lt_of_le (Nat.lt_of_lt_of_le (Nat.lt_of_lt_of_le (Nat.lt_of_lt_of_le (Nat.lt_of_lt_of_le (Nat.lt_of_lt_of_le (Nat.lt_of_lt_of_le (Nat.lt_of_lt_of_le (Nat.lt_of_lt_of_le (Nat.lt_of_lt_of_le (Nat.lt_of_lt_of_le (Nat.lt_of_lt_of_le (Nat.lt_of_lt_of_le (Nat.lt_of_lt_of_le B1.lt (Keep.of_wr W4).1) (Keep.of_wr W7).1) (Keep.of_wr W10).1) (Keep.of_wr W13).1) (Keep.of_wr W16).1) (Keep.of_wr W19).1) (Keep.of_wr W22).1) (Keep.of_wr W25).1) (Keep.of_wr W28).1) (Keep.of_wr W31).1) (Keep.of_wr W34).1) (Keep.of_wr W37).1) (Keep.of_wr W40).1) (Keep.of_wr W43).1) (Keep.of_wr W46).1) (Keep.of_wr W49).1) (Keep.of_wr W52).1) (Keep.of_wr W55).1) (Keep.of_wr W58).1) (Keep.of_wr W61).1) (Keep.of_wr W64).1) (Keep.of_wr W67).1) (Keep.of_wr W70).1) (Keep.of_wr W73).1) (Keep.of_wr W76).1) (Keep.of_wr W79).1) (Keep.of_wr W82).1) (Keep.of_wr W85).1) (Keep.of_wr W88).1) (Keep.of_wr W91).1) (Keep.of_wr W94).1) (Keep.of_wr W97).1) (Keep.of_wr W100).1) (Keep.of_wr W103).1) (Nat.le_of_eq g104.symm)))).other W142 (Nat.ne_of_lt (Nat.lt_of_lt_of_le (Nat.lt_of_lt_of_le (Nat.lt_of_lt_of_le (Nat.lt_of_lt_of_le (Nat.lt_of_lt_of_le (Nat.lt_of_lt_of_le (Nat.lt_of_lt_of_le (Nat.lt_of_lt_of_le (Nat.lt_of_lt_of_le (Nat.lt_of_lt_of_le (Nat.lt_of_lt_of_le (Nat.lt_of_lt_of_le (Nat.lt_of_lt_of_le (Nat.lt_of_lt_of_le (Nat.lt_of_lt_of_le (Nat.lt_of_lt_of_le (Nat.lt_of_lt_of_le (Nat.lt_of_lt_of_le (Nat.lt_of_lt_of_le (Nat.lt_of_lt_of_le (Nat.lt_of_lt_of_le (Nat.lt_of_lt_of_le (Nat.lt_of_lt_of_le (Nat.lt_of_lt_of_le (Nat.lt_of_lt_of_le (Nat.lt_of_lt_of_le (Nat.lt_of_lt_of_le (Nat.lt_of_lt_of_le (Nat.lt_of_lt_of_le (Nat.lt_of_lt_of_le (Nat.lt_of_lt_of_le (Nat.lt_of_lt_of_le (Nat.lt_of_lt_of_le (Nat.lt_of_lt_of_le (Nat.lt_of_lt_of_le B1.lt (Keep.of_wr W4).1) (Keep.of_wr W7).1) (Keep.of_wr W10).1) (Keep.of_wr W13).1) (Keep.of_wr W16).1) (Keep.of_wr W19).1) (Keep.of_wr W22).1) (Keep.of_wr W25).1) (Keep.of_wr W28).1) (Keep.of_wr W31).1) (Keep.of_wr W34).1) (Keep.of_wr W37).1) (Keep.of_wr W40).1) (Keep.of_wr W43).1) (Keep.of_wr W46).1) (Keep.of_wr W49).1) (Keep.of_wr W52).1) (Keep.of_wr W55).1) (Keep.of_wr W58).1) (Keep.of_wr W61).1) (Keep.of_wr W64).1) (Keep.of_wr W67).1) (Keep.of_wr W70).1) (Keep.of_wr W73).1) (Keep.of_wr W76).1) (Keep.of_wr W79).1) (Keep.of_wr W82).1) (Keep.of_wr W85).1) (Keep.of_wr W88).1) (Keep.of_wr W91).1) (Keep.of_wr W94).1) (Keep.of_wr W97).1) (Keep.of_wr W100).1) (Keep.of_wr W103).1) (Nat.le_of_eq g104.symm)))).other W144 (Nat.ne_of_lt (Nat.lt_of_lt_of_le (Nat.lt_of_lt_of_le (Nat.lt_of_lt_of_le (Nat.lt_of_lt_of_le (Nat.lt_of_lt_of_le (Nat.lt_of_lt_of_le (Nat.lt_of_lt_of_le (Nat.lt_of_lt_of_le (Nat.lt_of_lt_of_le (Nat.lt_of_lt_of_le (Nat.lt_of_lt_of_le (Nat.lt_of_lt_of_le (Nat.lt_of_lt_of_le (Nat.lt_of_lt_of_le (Nat.lt_of_lt_of_le (Nat.lt_of_lt_of_le (Nat.lt_of_lt_of_le (Nat.lt_of_lt_of_le (Nat.lt_of_lt_of_le (Nat.lt_of_lt_of_le (Nat.lt_of_lt_of_le (Nat.lt_of_lt_of_le (Nat.lt_of_lt_of_le (Nat.lt_of_lt_of_le (Nat.lt_of_lt_of_le (Nat.lt_of_lt_of_le (Nat.lt_of_lt_of_le (Nat.lt_of_lt_of_le (Nat.lt_of_lt_of_le (Nat.lt_of_lt_of_le (Nat.lt_of_lt_of_le (Nat.lt_of_lt_of_le (Nat.lt_of_lt_of_le (Nat.lt_of_lt_of_le (Nat.lt_of_lt_of_le B1.lt (Keep.of_wr W4).1) (Keep.of_wr W7).1) (Keep.of_wr W10).1) (Keep.of_wr W13).1) (Keep.of_wr W16).1) (Keep.of_wr W19).1) (Keep.of_wr W22).1) (Keep.of_wr W25).1) (Keep.of_wr W28).1) (Keep.of_wr W31).1) (Keep.of_wr W34).1) (Keep.of_wr W37).1) (Keep.of_wr W40).1) (Keep.of_wr W43).1) (Keep.of_wr W46).1) (Keep.of_wr W49).1) (Keep.of_wr W52).1) (Keep.of_wr W55).1) (Keep.of_wr W58).1) (Keep.of_wr W61).1) (Keep.of_wr W64).1) (Keep.of_wr W67).1) (Keep.of_wr W70).1) (Keep.of_wr W73).1) (Keep.of_wr W76).1) (Keep.of_wr W79).1) (Keep.of_wr W82).1) (Keep.of_wr W85).1) (Keep.of_wr W88).1) (Keep.of_wr W91).1) (Keep.of_wr W94).1) (Keep.of_wr W97).1) (Keep.of_wr W100).1) (Keep.of_wr W103).1) (Nat.le_of_eq g104.symm)))).other W146 (Nat.ne_of_lt (Nat.lt_of_lt_of_le (Nat.lt_of_lt_of_le (Nat.lt_of_lt_of_le (Nat.lt_of_lt_of_le (Nat.lt_of_lt_of_le (Nat.lt_of_lt_of_le (Nat.lt_of_lt_of_le (Nat.lt_of_lt_of_le (Nat.lt_of_lt_of_le (Nat.lt_of_lt_of_le (Nat.lt_of_lt_of_le (Nat.lt_of_lt_of_le (Nat.lt_of_lt_of_le (Nat.lt_of_lt_of_le (Nat.lt_of_lt_of_le (Nat.lt_of_lt_of_le (Nat.lt_of_lt_of_le (Nat.lt_of_lt_of_le (Nat.lt_of_lt_of_le (Nat.lt_of_lt_of_le (Nat.lt_of_lt_of_le (Nat.lt_of_lt_of_le (Nat.lt_of_lt_of_le (Nat.lt_of_lt_of_le (Nat.lt_of_lt_of_le (Nat.lt_of_lt_of_le (Nat.lt_of_lt_of_le (Nat.lt_of_lt_of_le (Nat.lt_of_lt_of_le (Nat.lt_of_lt_of_le (Nat.lt_of_lt_of_le (Nat.lt_of_lt_of_le (Nat.lt_of_lt_of_le (Nat.lt_of_lt_of_le (Nat.lt_of_lt_of_le B1.lt (Keep.of_wr W4).1) (Keep.of_wr W7).1) (Keep.of_wr W10).1) (Keep.of_wr W13).1) (Keep.of_wr W16).1) (Keep.of_wr W19).1) (Keep.of_wr W22).1) (Keep.of_wr W25).1) (Keep.of_wr W28).1) (Keep.of_wr W31).1) (Keep.of_wr W34).1) (Keep.of_wr W37).1) (Keep.of_wr W40).1) (Keep.of_wr W43).1) (Keep.of_wr W46).1) (Keep.of_wr W49).1) (Keep.of_wr W52).1) (Keep.of_wr W55).1) (Keep.of_wr W58).1) (Keep.of_wr W61).1) (Keep.of_wr W64).1) (Keep.of_wr W67).1) (Keep.of_wr W70).1) (Keep.of_wr W73).1) (Keep.of_wr W76).1) (Keep.of_wr W79).1) (Keep.of_wr W82).1) (Keep.of_wr W85).1) (Keep.of_wr W88).1) (Keep.of_wr W91).1) (Keep.of_wr W94).1) (Keep.of_wr W97).1) (Keep.of_wr W100).1) (Keep.of_wr W103).1) (Nat.le_of_eq g104.symm)))).other W148 (Nat.ne_of_lt (Nat.lt_of_lt_of_le (Nat.lt_of_lt_of_le (Nat.lt_of_lt_of_le (Nat.lt_of_lt_of_le (Nat.lt_of_lt_of_le (Nat.lt_of_lt_of_le (Nat.lt_of_lt_of_le (Nat.lt_of_lt_of_le (Nat.lt_of_lt_of_le (Nat.lt_of_lt_of_le (Nat.lt_of_lt_of_le (Nat.lt_of_lt_of_le (Nat.lt_of_lt_of_le (Nat.lt_of_lt_of_le (Nat.lt_of_lt_of_le (Nat.lt_of_lt_of_le (Nat.lt_of_lt_of_le (Nat.lt_of_lt_of_le (Nat.lt_of_lt_of_le (Nat.lt_of_lt_of_le (Nat.lt_of_lt_of_le (Nat.lt_of_lt_of_le (Nat.lt_of_lt_of_le (Nat.lt_of_lt_of_le (Nat.lt_of_lt_of_le (Nat.lt_of_lt_of_le (Nat.lt_of_lt_of_le (Nat.lt_of_lt_of_le (Nat.lt_of_lt_of_le (Nat.lt_of_lt_of_le (Nat.lt_of_lt_of_le (Nat.lt_of_lt_of_le (Nat.lt_of_lt_of_le (Nat.lt_of_lt_of_le (Nat.lt_of_lt_of_le B1.lt (Keep.of_wr W4).1) (Keep.of_wr W7).1) (Keep.of_wr W10).1) (Keep.of_wr W13).1) (Keep.of_wr W16).1) (Keep.of_wr W19).1) (Keep.of_wr W22).1) (Keep.of_wr W25).1) (Keep.of_wr W28).1) (Keep.of_wr W31).1) (Keep.of_wr W34).1) (Keep.of_wr W37).1) (Keep.of_wr W40).1) (Keep.of_wr W43).1) (Keep.of_wr W46).1) (Keep.of_wr W49).1) (Keep.of_wr W52).1) (Keep.of_wr W55).1) (Keep.of_wr W58).1) (Keep.of_wr W61).1) (Keep.of_wr W64).1) (Keep.of_wr W67).1) (Keep.of_wr W70).1) (Keep.of_wr W73).1) (Keep.of_wr W76).1) (Keep.of_wr W79).1) (Keep.of_wr W82).1) (Keep.of_wr W85).1) (Keep.of_wr W88).1) (Keep.of_wr W91).1) (Keep.of_wr W94).1) (Keep.of_wr W97).1) (Keep.of_wr W100).1) (Keep.of_wr W103).1) (Nat.le_of_eq g104.symm)))).other W150 (Nat.ne_of_lt (Nat.lt_of_lt_of_le (Nat.lt_of_lt_of_le (Nat.lt_of_lt_of_le (Nat.lt_of_lt_of_le (Nat.lt_of_lt_of_le (Nat.lt_of_lt_of_le (Nat.lt_of_lt_of_le (Nat.lt_of_lt_of_le (Nat.lt_of_lt_of_le (Nat.lt_of_lt_of_le (Nat.lt_of_lt_of_le (Nat.lt_of_lt_of_le (Nat.lt_of_lt_of_le (Nat.lt_of_lt_of_le (Nat.lt_of_lt_of_le (Nat.lt_of_lt_of_le (Nat.lt_of_lt_of_le (Nat.lt_of_lt_of_le (Nat.lt_of_lt_of_le (Nat.lt_of_lt_of_le (Nat.lt_of_lt_of_le (Nat.lt_of_lt_of_le (Nat.lt_of_lt_of_le (Nat.lt_of_lt_of_le (Nat.lt_of_lt_of_le (Nat.lt_of_lt_of_le (Nat.lt_of_lt_of_le (Nat.lt_of_lt_of_le (Nat.lt_of_lt_of_le (Nat.lt_of_lt_of_le (Nat.lt_of_lt_of_le (Nat.lt_of_lt_of_le (Nat.lt_of_lt_of_le (Nat.lt_of_lt_of_le (Nat.lt_of_lt_of_le B1.lt (Keep.of_wr W4).1) (Keep.of_wr W7).1) (Keep.of_wr W10).1) (Keep.of_wr W13).1) (Keep.of_wr W16).1) (Keep.of_wr W19).1) (Keep.of_wr W22).1) (Keep.of_wr W25).1) (Keep.of_wr W28).1) (Keep.of_wr W31).1) (Keep.of_wr W34).1) (Keep.of_wr W37).1) (Keep.of_wr W40).1) (Keep.of_wr W43).1) (Keep.of_wr W46).1) (Keep.of_wr W49).1) (Keep.of_wr W52).1) (Keep.of_wr W55).1) (Keep.of_wr W58).1) (Keep.of_wr W61).1) (Keep.of_wr W64).1) (Keep.of_wr W67).1) (Keep.of_wr W70).1) (Keep.of_wr W73).1) (Keep.of_wr W76).1) (Keep.of_wr W79).1) (Keep.of_wr W82).1) (Keep.of_wr W85).1) (Keep.of_wr W88).1) (Keep.of_wr W91).1) (Keep.of_wr W94).1) (Keep.of_wr W97).1) (Keep.of_wr W100).1) (Keep.of_wr W103).1) (Nat.le_of_eq g104.symm)))).other W152 (Nat.ne_of_lt (Nat.lt_of_lt_of_le (Nat.lt_of_lt_of_le (Nat.lt_of_lt_of_le (Nat.lt_of_lt_of_le (Nat.lt_of_lt_of_le (Nat.lt_of_lt_of_le (Nat.lt_of_lt_of_le (Nat.lt_of_lt_of_le (Nat.lt_of_lt_of_le (Nat.lt_of_lt_of_le (Nat.lt_of_lt_of_le (Nat.lt_of_lt_of_le (Nat.lt_of_lt_of_le (Nat.lt_of_lt_of_le (Nat.lt_of_lt_of_le (Nat.lt_of_lt_of_le (Nat.lt_of_lt_of_le (Nat.lt_of_lt_of_le (Nat.lt_of_lt_of_le (Nat.lt_of_lt_of_le (Nat.lt_of_lt_of_le (Nat.lt_of_lt_of_le (Nat.lt_of_lt_of_le (Nat.lt_of_lt_of_le (Nat.lt_of_lt_of_le (Nat.lt_of_lt_of_le (Nat.lt_of_lt_of_le (Nat.lt_of_lt_of_le (Nat.lt_of_lt_of_le (Nat.lt_of_lt_of_le (Nat.lt_of_lt_of_le (Nat.lt_of_lt_of_le (Nat.lt_of_lt_of_le (Nat.lt_of_lt_of_le (Nat.lt_of_lt_of_le B1.lt (Keep.of_wr W4).1) (Keep.of_wr W7).1) (Keep.of_wr W10).1) (Keep.of_wr W13).1) (Keep.of_wr W16).1) (Keep.of_wr W19).1) (Keep.of_wr W22).1) (Keep.of_wr W25).1) (Keep.of_wr W28).1) (Keep.of_wr W31).1) (Keep.of_wr W34).1) (Keep.of_wr W37).1) (Keep.of_wr W40).1) (Keep.of_wr W43).1) (Keep.of_wr W46).1) (Keep.of_wr W49).1) (Keep.of_wr W52).1) (Keep.of_wr W55).1) (Keep.of_wr W58).1) (Keep.of_wr W61).1) (Keep.of_wr W64).1) (Keep.of_wr W67).1) (Keep.of_wr W70).1) (Keep.of_wr W73).1) (Keep.of_wr W76).1) (Keep.of_wr W79).1) (Keep.of_wr W82).1) (Keep.of_wr W85).1) (Keep.of_wr W88).1) (Keep.of_wr W91).1) (Keep.of_wr W94).1) (Keep.of_wr W97).1) (Keep.of_wr W100).1) (Keep.of_wr W103).1) (Nat.le_of_eq g104.symm)))).other W154 (Nat.ne_of_lt (Nat.lt_of_lt_of_le (Nat.lt_of_lt_of_le (Nat.lt_of_lt_of_le (Nat.lt_of_lt_of_le (Nat.lt_of_lt_of_le (Nat.lt_of_lt_of_le (Nat.lt_of_lt_of_le (Nat.lt_of_lt_of_le (Nat.lt_of_lt_of_le (Nat.lt_of_lt_of_le (Nat.lt_of_lt_of_le (Nat.lt_of_lt_of_le (Nat.lt_of_lt_of_le (Nat.lt_of_lt_of_le (Nat.lt_of_lt_of_le (Nat.lt_of_lt_of_le (Nat.lt_of_lt_of_le (Nat.lt_of_lt_of_le (Nat.lt_of_lt_of_le (Nat.lt_of_lt_of_le (Nat.lt_of_lt_of_le (Nat.lt_of_lt_of_le (Nat.lt_of_lt_of_le (Nat.lt_of_lt_of_le (Nat.lt_of_lt_of_le (Nat.lt_of_lt_of_le (Nat.lt_of_lt_of_le (Nat.lt_of_lt_of_le (Nat.lt_of_lt_of_le (Nat.lt_of_lt_of_le (Nat.lt_of_lt_of_le (Nat.lt_of_lt_of_le (Nat.lt_of_lt_of_le (Nat.lt_of_lt_of_le (Nat.lt_of_lt_of_le B1.lt (Keep.of_wr W4).1) (Keep.of_wr W7).1) (Keep.of_wr W10).1) (Keep.of_wr W13).1) (Keep.of_wr W16).1) (Keep.of_wr W19).1) (Keep.of_wr W22).1) (Keep.of_wr W25).1) (Keep.of_wr W28).1) (Keep.of_wr W31).1) (Keep.of_wr W34).1) (Keep.of_wr W37).1) (Keep.of_wr W40).1) (Keep.of_wr W43).1) (Keep.of_wr W46).1) (Keep.of_wr W49).1) (Keep.of_wr W52).1) (Keep.of_wr W55).1) (Keep.of_wr W58).1) (Keep.of_wr W61).1) (Keep.of_wr W64).1) (Keep.of_wr W67).1) (Keep.of_wr W70).1) (Keep.of_wr W73).1) (Keep.of_wr W76).1) (Keep.of_wr W79).1) (Keep.of_wr W82).1) (Keep.of_wr W85).1) (Keep.of_wr W88).1) (Keep.of_wr W91).1) (Keep.of_wr W94).1) (Keep.of_wr W97).1) (Keep.of_wr W100).1) (Keep.of_wr W103).1) (Nat.le_of_eq g104.symm)))).other W156 (Nat.ne_of_lt (Nat.lt_of_lt_of_le (Nat.lt_of_lt_of_le (Nat.lt_of_lt_of_le (Nat.lt_of_lt_of_le (Nat.lt_of_lt_of_le (Nat.lt_of_lt_of_le (Nat.lt_of_lt_of_le (Nat.lt_of_lt_of_le (Nat.lt_of_lt_of_le (Nat.lt_of_lt_of_le (Nat.lt_of_lt_of_le (Nat.lt_of_lt_of_le (Nat.lt_of_lt_of_le (Nat.lt_of_lt_of_le (Nat.lt_of_lt_of_le (Nat.lt_of_lt_of_le (Nat.lt_of_lt_of_le (Nat.lt_of_lt_of_le (Nat.lt_of_lt_of_le (Nat.lt_of_lt_of_le (Nat.lt_of_lt_of_le (Nat.lt_of_lt_of_le (Nat.lt_of_lt_of_le (Nat.lt_of_lt_of_le (Nat.lt_of_lt_of_le (Nat.lt_of_lt_of_le (Nat.lt_of_lt_of_le (Nat.lt_of_lt_of_le (Nat.lt_of_lt_of_le (Nat.lt_of_lt_of_le (Nat.lt_of_lt_of_le (Nat.lt_of_lt_of_le (Nat.lt_of_lt_of_le (Nat.lt_of_lt_of_le (Nat.lt_of_lt_of_le B1.lt (Keep.of_wr W4).1) (Keep.of_wr W7).1) (Keep.of_wr W10).1) (Keep.of_wr W13).1) (Keep.of_wr W16).1) (Keep.of_wr W19).1) (Keep.of_wr W22).1) (Keep.of_wr W25).1) (Keep.of_wr W28).1) (Keep.of_wr W31).1) (Keep.of_wr W34).1) (Keep.of_wr W37).1) (Keep.of_wr W40).1) (Keep.of_wr W43).1) (Keep.of_wr W46).1) (Keep.of_wr W49).1) (Keep.of_wr W52).1) (Keep.of_wr W55).1) (Keep.of_wr W58).1) (Keep.of_wr W61).1) (Keep.of_wr W64).1) (Keep.of_wr W67).1) (Keep.of_wr W70).1) (Keep.of_wr W73).1) (Keep.of_wr W76).1) (Keep.of_wr W79).1) (Keep.of_wr W82).1) (Keep.of_wr W85).1) (Keep.of_wr W88).1) (Keep.of_wr W91).1) (Keep.of_wr W94).1) (Keep.of_wr W97).1) (Keep.of_wr W100).1) (Keep.of_wr W103).1) (Nat.le_of_eq g104.symm)))).other W158 (Nat.ne_of_lt (Nat.lt_of_lt_of_le (Nat.lt_of_lt_of_le (Nat.lt_of_lt_of_le (Nat.lt_of_lt_of_le (Nat.lt_of_lt_of_le (Nat.lt_of_lt_of_le (Nat.lt_of_lt_of_le (Nat.lt_of_lt_of_le (Nat.lt_of_lt_of_le (Nat.lt_of_lt_of_le (Nat.lt_of_lt_of_le (Nat.lt_of_lt_of_le (Nat.lt_of_lt_of_le (Nat.lt_of_lt_of_le (Nat.lt_of_lt_of_le (Nat.lt_of_lt_of_le (Nat.lt_of_lt_of_le (Nat.lt_of_lt_of_le (Nat.lt_of_lt_of_le (Nat.lt_of_lt_of_le (Nat.lt_of_lt_of_le (Nat.lt_of_lt_of_le (Nat.lt_of_lt_of_le (Nat.lt_of_lt_of_le (Nat.lt_of_lt_of_le (Nat.lt_of_lt_of_le (Nat.lt_of_lt_of_le (Nat.lt_of_lt_of_le (Nat.lt_of_lt_of_le (Nat.lt_of_lt_of_le (Nat.lt_of_lt_of_le (Nat.lt_of_lt_of_le (Nat.lt_of_lt_of_le (Nat.lt_of_lt_of_le (Nat.lt_of_lt_of_le B1.lt (Keep.of_wr W4).1) (Keep.of_wr W7).1) (Keep.of_wr W10).1) (Keep.of_wr W13).1) (Keep.of_wr W16).1) (Keep.of_wr W19).1) (Keep.of_wr W22).1) (Keep.of_wr W25).1) (Keep.of_wr W28).1) (Keep.of_wr W31).1) (Keep.of_wr W34).1) (Keep.of_wr W37).1) (Keep.of_wr W40).1) (Keep.of_wr W43).1) (Keep.of_wr W46).1) (Keep.of_wr W49).1) (Keep.of_wr W52).1) (Keep.of_wr W55).1) (Keep.of_wr W58).1) (Keep.of_wr W61).1) (Keep.of_wr W64).1) (Keep.of_wr W67).1) (Keep.of_wr W70).1) (Keep.of_wr W73).1) (Keep.of_wr W76).1) (Keep.of_wr W79).1) (Keep.of_wr W82).1) (Keep.of_wr W85).1) (Keep.of_wr W88).1) (Keep.of_wr W91).1) (Keep.of_wr W94).1) (Keep.of_wr W97).1) (Keep.of_wr W100).1) (Keep.of_wr W103).1) (Nat.le_of_eq g104.symm)))).other W160 (Nat.ne_of_lt (Nat.lt_of_lt_of_le (Nat.lt_of_lt_of_le (Nat.lt_of_lt_of_le (Nat.lt_of_lt_of_le (Nat.lt_of_lt_of_le (Nat.lt_of_lt_of_le (Nat.lt_of_lt_of_le (Nat.lt_of_lt_of_le (Nat.lt_of_lt_of_le (Nat.lt_of_lt_of_le (Nat.lt_of_lt_of_le (Nat.lt_of_lt_of_le (Nat.lt_of_lt_of_le (Nat.lt_of_lt_of_le (Nat.lt_of_lt_of_le (Nat.lt_of_lt_of_le (Nat.lt_of_lt_of_le (Nat.lt_of_lt_of_le (Nat.lt_of_lt_of_le (Nat.lt_of_lt_of_le (Nat.lt_of_lt_of_le (Nat.lt_of_lt_of_le (Nat.lt_of_lt_of_le (Nat.lt_of_lt_of_le (Nat.lt_of_lt_of_le (Nat.lt_of_lt_of_le (Nat.lt_of_lt_of_le (Nat.lt_of_lt_of_le (Nat.lt_of_lt_of_le (Nat.lt_of_lt_of_le (Nat.lt_of_lt_of_le (Nat.lt_of_lt_of_le (Nat.lt_of_lt_of_le (Nat.lt_of_lt_of_le (Nat.lt_of_lt_of_le B1.lt (Keep.of_wr W4).1) (Keep.of_wr W7).1) (Keep.of_wr W10).1) (Keep.of_wr W13).1) (Keep.of_wr W16).1) (Keep.of_wr W19).1) (Keep.of_wr W22).1) (Keep.of_wr W25).1) (Keep.of_wr W28).1) (Keep.of_wr W31).1) (Keep.of_wr W34).1) (Keep.of_wr W37).1) (Keep.of_wr W40).1) (Keep.of_wr W43).1) (Keep.of_wr W46).1) (Keep.of_wr W49).1) (Keep.of_wr W52).1) (Keep.of_wr W55).1) (Keep.of_wr W58).1) (Keep.of_wr W61).1) (Keep.of_wr W64).1) (Keep.of_wr W67).1) (Keep.of_wr W70).1) (Keep.of_wr W73).1) (Keep.of_wr W76).1) (Keep.of_wr W79).1) (Keep.of_wr W82).1) (Keep.of_wr W85).1) (Keep.of_wr W88).1) (Keep.of_wr W91).1) (Keep.of_wr W94).1) (Keep.of_wr W97).1) (Keep.of_wr W100).1) (Keep.of_wr W103).1) (Nat.le_of_eq g104.symm)))).other W162 (Nat.ne_of_lt (Nat.lt_of_lt_of_le (Nat.lt_of_lt_of_le (Nat.lt_of_lt_of_le (Nat.lt_of_lt_of_le (Nat.lt_of_lt_of_le (Nat.lt_of_lt_of_le (Nat.lt_of_lt_of_le (Nat.lt_of_lt_of_le (Nat.lt_of_lt_of_le (Nat.lt_of_lt_of_le (Nat.lt_of_lt_of_le (Nat.lt_of_lt_of_le (Nat.lt_of_lt_of_le (Nat.lt_of_lt_of_le (Nat.lt_of_lt_of_le (Nat.lt_of_lt_of_le (Nat.lt_of_lt_of_le (Nat.lt_of_lt_of_le (Nat.lt_of_lt_of_le (Nat.lt_of_lt_of_le (Nat.lt_of_lt_of_le (Nat.lt_of_lt_of_le (Nat.lt_of_lt_of_le (Nat.lt_of_lt_of_le (Nat.lt_of_lt_of_le (Nat.lt_of_lt_of_le (Nat.lt_of_lt_of_le (Nat.lt_of_lt_of_le (Nat.lt_of_lt_of_le (Nat.lt_of_lt_of_le (Nat.lt_of_lt_of_le (Nat.lt_of_lt_of_le (Nat.lt_of_lt_of_le (Nat.lt_of_lt_of_le (Nat.lt_of_lt_of_le B1.lt (Keep.of_wr W4).1) (Keep.of_wr W7).1) (Keep.of_wr W10).1) (Keep.of_wr W13).1) (Keep.of_wr W16).1) (Keep.of_wr W19).1) (Keep.of_wr W22).1) (Keep.of_wr W25).1) (Keep.of_wr W28).1) (Keep.of_wr W31).1) (Keep.of_wr W34).1) (Keep.of_wr W37).1) (Keep.of_wr W40).1) (Keep.of_wr W43).1) (Keep.of_wr W46).1) (Keep.of_wr W49).1) (Keep.of_wr W52).1) (Keep.of_wr W55).1) (Keep.of_wr W58).1) (Keep.of_wr W61).1) (Keep.of_wr W64).1) (Keep.of_wr W67).1) (Keep.of_wr W70).1) (Keep.of_wr W73).1) (Keep.of_wr W76).1) (Keep.of_wr W79).1) (Keep.of_wr W82).1) (Keep.of_wr W85).1) (Keep.of_wr W88).1) (Keep.of_wr W91).1) (Keep.of_wr W94).1) (Keep.of_wr W97).1) (Keep.of_wr W100).1) (Keep.of_wr W103).1) (Nat.le_of_eq g104.symm)))).other W164 (Nat.ne_of_lt (Nat.lt_of_lt_of_le (Nat.lt_of_lt_of_le (Nat.lt_of_lt_of_le (Nat.lt_of_lt_of_le (Nat.lt_of_lt_of_le (Nat.lt_of_lt_of_le (Nat.lt_of_lt_of_le (Nat.lt_of_lt_of_le (Nat.lt_of_lt_of_le (Nat.lt_of_lt_of_le (Nat.lt_of_lt_of_le (Nat.lt_of_lt_of_le (Nat.lt_of_lt_of_le (Nat.lt_of_lt_of_le (Nat.lt_of_lt_of_le (Nat.lt_of_lt_of_le (Nat.lt_of_lt_of_le (Nat.lt_of_lt_of_le (Nat.lt_of_lt_of_le (Nat.lt_of_lt_of_le (Nat.lt_of_lt_of_le (Nat.lt_of_lt_of_le (Nat.lt_of_lt_of_le (Nat.lt_of_lt_of_le (Nat.lt_of_lt_of_le (Nat.lt_of_lt_of_le (Nat.lt_of_lt_of_le (Nat.lt_of_lt_of_le (Nat.lt_of_lt_of_le (Nat.lt_of_lt_of_le (Nat.lt_of_lt_of_le (Nat.lt_of_lt_of_le (Nat.lt_of_lt_of_le (Nat.lt_of_lt_of_le (Nat.lt_of_lt_of_le B1.lt (Keep.of_wr W4).1) (Keep.of_wr W7).1) (Keep.of_wr W10).1) (Keep.of_wr W13).1) (Keep.of_wr W16).1) (Keep.of_wr W19).1) (Keep.of_wr W22).1) (Keep.of_wr W25).1) (Keep.of_wr W28).1) (Keep.of_wr W31).1) (Keep.of_wr W34).1) (Keep.of_wr W37).1) (Keep.of_wr W40).1) (Keep.of_wr W43).1) (Keep.of_wr W46).1) (Keep.of_wr W49).1) (Keep.of_wr W52).1) (Keep.of_wr W55).1) (Keep.of_wr W58).1) (Keep.of_wr W61).1) (Keep.of_wr W64).1) (Keep.of_wr W67).1) (Keep.of_wr W70).1) (Keep.of_wr W73).1) (Keep.of_wr W76).1) (Keep.of_wr W79).1) (Keep.of_wr W82).1) (Keep.of_wr W85).1) (Keep.of_wr W88).1) (Keep.of_wr W91).1) (Keep.of_wr W94).1) (Keep.of_wr W97).1) (Keep.of_wr W100).1) (Keep.of_wr W103).1) (Nat.le_of_eq g104.symm)))).other W166 (Nat.ne_of_lt (Nat.lt_of_lt_of_le (Nat.lt_of_lt_of_le (Nat.lt_of_lt_of_le (Nat.lt_of_lt_of_le (Nat.lt_of_lt_of_le (Nat.lt_of_lt_of_le (Nat.lt_of_lt_of_le (Nat.lt_of_lt_of_le (Nat.lt_of_lt_of_le (Nat.lt_of_lt_of_le (Nat.lt_of_lt_of_le (Nat.lt_of_lt_of_le (Nat.lt_of_lt_of_le (Nat.lt_of_lt_of_le (Nat.lt_of_lt_of_le (Nat.lt_of_lt_of_le (Nat.lt_of_lt_of_le (Nat.lt_of_lt_of_le (Nat.lt_of_lt_of_le (Nat.lt_of_lt_of_le (Nat.lt_of_lt_of_le (Nat.lt_of_lt_of_le (Nat.lt_of_lt_of_le (Nat.lt_of_lt_of_le (Nat.lt_of_lt_of_le (Nat.lt_of_lt_of_le (Nat.lt_of_lt_of_le (Nat.lt_of_lt_of_le (Nat.lt_of_lt_of_le (Nat.lt_of_lt_of_le (Nat.lt_of_lt_of_le (Nat.lt_of_lt_of_le (Nat.lt_of_lt_of_le (Nat.lt_of_lt_of_le (Nat.lt_of_lt_of_le B1.lt (Keep.of_wr W4).1) (Keep.of_wr W7).1) (Keep.of_wr W10).1) (Keep.of_wr W13).1) (Keep.of_wr W16).1) (Keep.of_wr W19).1) (Keep.of_wr W22).1) (Keep.of_wr W25).1) (Keep.of_wr W28).1) (Keep.of_wr W31).1) (Keep.of_wr W34).1) (Keep.of_wr W37).1) (Keep.of_wr W40).1) (Keep.of_wr W43).1) (Keep.of_wr W46).1) (Keep.of_wr W49).1) (Keep.of_wr W52).1) (Keep.of_wr W55).1) (Keep.of_wr W58).1) (Keep.of_wr W61).1) (Keep.of_wr W64).1) (Keep.of_wr W67).1) (Keep.of_wr W70).1) (Keep.of_wr W73).1) (Keep.of_wr W76).1) (Keep.of_wr W79).1) (Keep.of_wr W82).1) (Keep.of_wr W85).1) (Keep.of_wr W88).1) (Keep.of_wr W91).1) (Keep.of_wr W94).1) (Keep.of_wr W97).1) (Keep.of_wr W100).1) (Keep.of_wr W103).1) (Nat.le_of_eq g104.symm)))).other W168 (Nat.ne_of_lt (Nat.lt_of_lt_of_le (Nat.lt_of_lt_of_le (Nat.lt_of_lt_of_le (Nat.lt_of_lt_of_le (Nat.lt_of_lt_of_le (Nat.lt_of_lt_of_le (Nat.lt_of_lt_of_le (Nat.lt_of_lt_of_le (Nat.lt_of_lt_of_le (Nat.lt_of_lt_of_le (Nat.lt_of_lt_of_le (Nat.lt_of_lt_of_le (Nat.lt_of_lt_of_le (Nat.lt_of_lt_of_le (Nat.lt_of_lt_of_le (Nat.lt_of_lt_of_le (Nat.lt_of_lt_of_le (Nat.lt_of_lt_of_le (Nat.lt_of_lt_of_le (Nat.lt_of_lt_of_le (Nat.lt_of_lt_of_le (Nat.lt_of_lt_of_le (Nat.lt_of_lt_of_le (Nat.lt_of_lt_of_le (Nat.lt_of_lt_of_le (Nat.lt_of_lt_of_le (Nat.lt_of_lt_of_le (Nat.lt_of_lt_of_le (Nat.lt_of_lt_of_le (Nat.lt_of_lt_of_le (Nat.lt_of_lt_of_le (Nat.lt_of_lt_of_le (Nat.lt_of_lt_of_le (Nat.lt_of_lt_of_le (Nat.lt_of_lt_of_le B1.lt (Keep.of_wr W4).1) (Keep.of_wr W7).1) (Keep.of_wr W10).1) (Keep.of_wr W13).1) (Keep.of_wr W16).1) (Keep.of_wr W19).1) (Keep.of_wr W22).1) (Keep.of_wr W25).1) (Keep.of_wr W28).1) (Keep.of_wr W31).1) (Keep.of_wr W34).1) (Keep.of_wr W37).1) (Keep.of_wr W40).1) (Keep.of_wr W43).1) (Keep.of_wr W46).1) (Keep.of_wr W49).1) (Keep.of_wr W52).1) (Keep.of_wr W55).1) (Keep.of_wr W58).1) (Keep.of_wr W61).1) (Keep.of_wr W64).1) (Keep.of_wr W67).1) (Keep.of_wr W70).1) (Keep.of_wr W73).1) (Keep.of_wr W76).1) (Keep.of_wr W79).1) (Keep.of_wr W82).1) (Keep.of_wr W85).1) (Keep.of_wr W88).1) (Keep.of_wr W91).1) (Keep.of_wr W94).1) (Keep.of_wr W97).1) (Keep.of_wr W100).1) (Keep.of_wr W103).1) (Nat.le_of_eq g104.symm)))).other W170 (Nat.ne_of_lt (Nat.lt_of_lt_of_le (Nat.lt_of_lt_of_le (Nat.lt_of_lt_of_le (Nat.lt_of_lt_of_le (Nat.lt_of_lt_of_le (Nat.lt_of_lt_of_le (Nat.lt_of_lt_of_le (Nat.lt_of_lt_of_le (Nat.lt_of_lt_of_le (Nat.lt_of_lt_of_le (Nat.lt_of_lt_of_le (Nat.lt_of_lt_of_le (Nat.lt_of_lt_of_le (Nat.lt_of_lt_of_le (Nat.lt_of_lt_of_le (Nat.lt_of_lt_of_le (Nat.lt_of_lt_of_le (Nat.lt_of_lt_of_le (Nat.lt_of_lt_of_le (Nat.lt_of_lt_of_le (Nat.lt_of_lt_of_le (Nat.lt_of_lt_of_le (Nat.lt_of_lt_of_le (Nat.lt_of_lt_of_le (Nat.lt_of_lt_of_le (Nat.lt_of_lt_of_le (Nat.lt_of_lt_of_le (Nat.lt_of_lt_of_le (Nat.lt_of_lt_of_le (Nat.lt_of_lt_of_le (Nat.lt_of_lt_of_le (Nat.lt_of_lt_of_le (Nat.lt_of_lt_of_le (Nat.lt_of_lt_of_le (Nat.lt_of_lt_of_le B1.lt (Keep.of_wr W4).1) (Keep.of_wr W7).1) (Keep.of_wr W10).1) (Keep.of_wr W13).1) (Keep.of_wr W16).1) (Keep.of_wr W19).1) (Keep.of_wr W22).1) (Keep.of_wr W25).1) (Keep.of_wr W28).1) (Keep.of_wr W31).1) (Keep.of_wr W34).1) (Keep.of_wr W37).1) (Keep.of_wr W40).1) (Keep.of_wr W43).1) (Keep.of_wr W46).1) (Keep.of_wr W49).1) (Keep.of_wr W52).1) (Keep.of_wr W55).1) (Keep.of_wr W58).1) (Keep.of_wr W61).1) (Keep.of_wr W64).1) (Keep.of_wr W67).1) (Keep.of_wr W70).1) (Keep.of_wr W73).1) (Keep.of_wr W76).1) (Keep.of_wr W79).1) (Keep.of_wr W82).1) (Keep.of_wr W85).1) (Keep.of_wr W88).1) (Keep.of_wr W91).1) (Keep.of_wr W94).1) (Keep.of_wr W97).1) (Keep.of_wr W100).1) (Keep.of_wr W103).1) (Nat.le_of_eq g104.symm)))).other W172 (Nat.ne_of_lt (Nat.lt_of_lt_of_le (Nat.lt_of_lt_of_le (Nat.lt_of_lt_of_le (Nat.lt_of_lt_of_le (Nat.lt_of_lt_of_le (Nat.lt_of_lt_of_le (Nat.lt_of_lt_of_le (Nat.lt_of_lt_of_le (Nat.lt_of_lt_of_le (Nat.lt_of_lt_of_le (Nat.lt_of_lt_of_le (Nat.lt_of_lt_of_le (Nat.lt_of_lt_of_le (Nat.lt_of_lt_of_le (Nat.lt_of_lt_of_le (Nat.lt_of_lt_of_le (Nat.lt_of_lt_of_le (Nat.lt_of_lt_of_le (Nat.lt_of_lt_of_le (Nat.lt_of_lt_of_le (Nat.lt_of_lt_of_le (Nat.lt_of_lt_of_le (Nat.lt_of_lt_of_le (Nat.lt_of_lt_of_le (Nat.lt_of_lt_of_le (Nat.lt_of_lt_of_le (Nat.lt_of_lt_of_le (Nat.lt_of_lt_of_le (Nat.lt_of_lt_of_le (Nat.lt_of_lt_of_le (Nat.lt_of_lt_of_le (Nat.lt_of_lt_of_le (Nat.lt_of_lt_of_le (Nat.lt_of_lt_of_le (Nat.lt_of_lt_of_le B1.lt (Keep.of_wr W4).1) (Keep.of_wr W7).1) (Keep.of_wr W10).1) (Keep.of_wr W13).1) (Keep.of_wr W16).1) (Keep.of_wr W19).1) (Keep.of_wr W22).1) (Keep.of_wr W25).1) (Keep.of_wr W28).1) (Keep.of_wr W31).1) (Keep.of_wr W34).1) (Keep.of_wr W37).1) (Keep.of_wr W40).1) (Keep.of_wr W43).1) (Keep.of_wr W46).1) (Keep.of_wr W49).1) (Keep.of_wr W52).1) (Keep.of_wr W55).1) (Keep.of_wr W58).1) (Keep.of_wr W61).1) (Keep.of_wr W64).1) (Keep.of_wr W67).1) (Keep.of_wr W70).1) (Keep.of_wr W73).1) (Keep.of_wr W76).1) (Keep.of_wr W79).1) (Keep.of_wr W82).1) (Keep.of_wr W85).1) (Keep.of_wr W88).1) (Keep.of_wr W91).1) (Keep.of_wr W94).1) (Keep.of_wr W97).1) (Keep.of_wr W100).1) (Keep.of_wr W103).1) (Nat.le_of_eq g104.symm))))
  have Y174 : Arv Z h172 b104 k104 .int (34 : Int32) [(.int (0 : Int32)), (.int (0 : Int32)), (.int (0 : Int32)), (.int (0 : Int32)), (.int (0 : Int32)), (.int (0 : Int32)), (.int (0 : Int32)), (.int (8 : Int32)), (.int (4 : Int32)), (.int (0 : Int32)), (.int (0 : Int32)), (.int (0 : Int32)), (.int (0 : Int32)), (.int (0 : Int32)), (.int (0 : Int32)), (.int (0 : Int32)), (.int (0 : Int32)), (.int (0 : Int32)), (.int (0 : Int32)), (.int (0 : Int32)), (.int (4 : Int32)), (.int (0 : Int32)), (.int (2 : Int32)), (.int (0 : Int32)), (.int (8 : Int32)), (.int (0 : Int32)), (.int (0 : Int32)), (.int (0 : Int32)), (.int (4 : Int32)), (.int (0 : Int32)), (.int (0 : Int32)), (.int (2 : Int32)), (.int (0 : Int32)), (.int (8 : Int32))] (.int (0 : Int32)) := B172
  rcases own_mod34 p1 with hm175 | hm175 | hm175 | hm175 | hm175 | hm175 | hm175 | hm175 | hm175 | hm175 | hm175 | hm175 | hm175 | hm175 | hm175 | hm175 | hm175 | hm175 | hm175 | hm175 | hm175 | hm175 | hm175 | hm175 | hm175 | hm175 | hm175 | hm175 | hm175 | hm175 | hm175 | hm175 | hm175 | hm175
  · rw [hm175]
    obtain ⟨cl176, Ar176, q176, S176, M176, H176, G176⟩ := id Y173
    have hin176 : ¬ ((0 : Int32) < 0 ∨ cl176.slots.size ≤ ((0 : Int32)).toNatClampNeg) := inb_of S176 ⟨by decide, by decide⟩
    have hat176 : cl176.slots[((0 : Int32)).toNatClampNeg]? = some (.ref ad0) := Has.at H176 hin176 rfl
    refine own_go (A := T172.setTop (mkF m 421 #[.val (.int p1), .val (.ref b1), .val (.ref b104), .val (.int (0 : Int32))] [(.ref ad0)])) (fun t_ k_ => ?_) ?_
    · show Steps p.tables e below (T172.setTop (mkF m 417 #[.val (.int p1), .val (.ref b1), .val (.ref b104), .unset] [(.int (0 : Int32))])) t_
      refine XS.istoreN X172.here hx rfl (hb hby at_417) rfl (l' := #[.val (.int p1), .val (.ref b1), .val (.ref b104), .val (.int (0 : Int32))]) rfl ?_
      show Steps p.tables e below (T172.setTop (mkF m 418 #[.val (.int p1), .val (.ref b1), .val (.ref b104), .val (.int (0 : Int32))] [])) t_
      refine XS.aloadN X172.here hx rfl (hb hby at_418) rfl rfl ?_
      show Steps p.tables e below (T172.setTop (mkF m 419 #[.val (.int p1), .val (.ref b1), .val (.ref b104), .val (.int (0 : Int32))] [(.ref b1)])) t_
      refine XS.iloadN X172.here hx rfl (hb hby at_419) rfl ?_
      show Steps p.tables e below (T172.setTop (mkF m 420 #[.val (.int p1), .val (.ref b1), .val (.ref b104), .val (.int (0 : Int32))] [(.int (0 : Int32)), (.ref b1)])) t_
      refine X172.aaload hx (j := (0 : Int32)) (v := (.ref ad0)) (by rw [e172]; exact Ar176.1) (State.isArrayOf_alike hZ.alike Ar176.2.1) rfl Ar176.2.2 hin176 hat176 (g := (mkF m 420 #[.val (.int p1), .val (.ref b1), .val (.ref b104), .val (.int (0 : Int32))] [(.int (0 : Int32)), (.ref b1)])) rfl rfl (hb hby at_420) _ ?_
      exact k_
    exact own_sufad0 l Z a0 hw p1 ad0 ad1 ad2 ad3 ad4 ad5 ad6 ad7 ad8 ad9 ad10 ad11 ad12 ad13 ad14 ad15 ad16 ad17 ad18 ad19 ad20 ad21 ad22 ad23 ad24 ad25 ad26 ad27 ad28 ad29 ad30 ad31 ad32 ad33 b1 b104 k104 h0 n0 Z0 X172 hx hZ hby hml hown Bd.returns (BodyLoose.notSynchronized Bd) hh e172 N172 K172 O172 u2 u3 Y174 (Nat.le_trans Z0 (Nat.le_trans K103.1 (Nat.le_of_eq g104.symm))) (Nat.le_trans K103.1 (Nat.le_of_eq g104.symm))
  · rw [hm175]
    obtain ⟨cl180, Ar180, q180, S180, M180, H180, G180⟩ := id Y173
    have hin180 : ¬ ((1 : Int32) < 0 ∨ cl180.slots.size ≤ ((1 : Int32)).toNatClampNeg) := inb_of S180 ⟨by decide, by decide⟩
    have hat180 : cl180.slots[((1 : Int32)).toNatClampNeg]? = some (.ref ad1) := Has.at H180 hin180 rfl
    refine own_go (A := T172.setTop (mkF m 421 #[.val (.int p1), .val (.ref b1), .val (.ref b104), .val (.int (1 : Int32))] [(.ref ad1)])) (fun t_ k_ => ?_) ?_
    · show Steps p.tables e below (T172.setTop (mkF m 417 #[.val (.int p1), .val (.ref b1), .val (.ref b104), .unset] [(.int (1 : Int32))])) t_
      refine XS.istoreN X172.here hx rfl (hb hby at_417) rfl (l' := #[.val (.int p1), .val (.ref b1), .val (.ref b104), .val (.int (1 : Int32))]) rfl ?_
      show Steps p.tables e below (T172.setTop (mkF m 418 #[.val (.int p1), .val (.ref b1), .val (.ref b104), .val (.int (1 : Int32))] [])) t_
      refine XS.aloadN X172.here hx rfl (hb hby at_418) rfl rfl ?_
      show Steps p.tables e below (T172.setTop (mkF m 419 #[.val (.int p1), .val (.ref b1), .val (.ref b104), .val (.int (1 : Int32))] [(.ref b1)])) t_
      refine XS.iloadN X172.here hx rfl (hb hby at_419) rfl ?_
      show Steps p.tables e below (T172.setTop (mkF m 420 #[.val (.int p1), .val (.ref b1), .val (.ref b104), .val (.int (1 : Int32))] [(.int (1 : Int32)), (.ref b1)])) t_
      refine X172.aaload hx (j := (1 : Int32)) (v := (.ref ad1)) (by rw [e172]; exact Ar180.1) (State.isArrayOf_alike hZ.alike Ar180.2.1) rfl Ar180.2.2 hin180 hat180 (g := (mkF m 420 #[.val (.int p1), .val (.ref b1), .val (.ref b104), .val (.int (1 : Int32))] [(.int (1 : Int32)), (.ref b1)])) rfl rfl (hb hby at_420) _ ?_
      exact k_
    exact own_sufad1 l Z a0 hw p1 ad0 ad1 ad2 ad3 ad4 ad5 ad6 ad7 ad8 ad9 ad10 ad11 ad12 ad13 ad14 ad15 ad16 ad17 ad18 ad19 ad20 ad21 ad22 ad23 ad24 ad25 ad26 ad27 ad28 ad29 ad30 ad31 ad32 ad33 b1 b104 k104 h0 n0 Z0 X172 hx hZ hby hml hown Bd.returns (BodyLoose.notSynchronized Bd) hh e172 N172 K172 O172 u5 u6 Y174 (Nat.le_trans Z0 (Nat.le_trans K103.1 (Nat.le_of_eq g104.symm))) (Nat.le_trans K103.1 (Nat.le_of_eq g104.symm))
  · rw [hm175]
    obtain ⟨cl184, Ar184, q184, S184, M184, H184, G184⟩ := id Y173
    have hin184 : ¬ ((2 : Int32) < 0 ∨ cl184.slots.size ≤ ((2 : Int32)).toNatClampNeg) := inb_of S184 ⟨by decide, by decide⟩
    have hat184 : cl184.slots[((2 : Int32)).toNatClampNeg]? = some (.ref ad2) := Has.at H184 hin184 rfl
    refine own_go (A := T172.setTop (mkF m 421 #[.val (.int p1), .val (.ref b1), .val (.ref b104), .val (.int (2 : Int32))] [(.ref ad2)])) (fun t_ k_ => ?_) ?_
    · show Steps p.tables e below (T172.setTop (mkF m 417 #[.val (.int p1), .val (.ref b1), .val (.ref b104), .unset] [(.int (2 : Int32))])) t_
      refine XS.istoreN X172.here hx rfl (hb hby at_417) rfl (l' := #[.val (.int p1), .val (.ref b1), .val (.ref b104), .val (.int (2 : Int32))]) rfl ?_
      show Steps p.tables e below (T172.setTop (mkF m 418 #[.val (.int p1), .val (.ref b1), .val (.ref b104), .val (.int (2 : Int32))] [])) t_
      refine XS.aloadN X172.here hx rfl (hb hby at_418) rfl rfl ?_
      show Steps p.tables e below (T172.setTop (mkF m 419 #[.val (.int p1), .val (.ref b1), .val (.ref b104), .val (.int (2 : Int32))] [(.ref b1)])) t_
      refine XS.iloadN X172.here hx rfl (hb hby at_419) rfl ?_
      show Steps p.tables e below (T172.setTop (mkF m 420 #[.val (.int p1), .val (.ref b1), .val (.ref b104), .val (.int (2 : Int32))] [(.int (2 : Int32)), (.ref b1)])) t_
      refine X172.aaload hx (j := (2 : Int32)) (v := (.ref ad2)) (by rw [e172]; exact Ar184.1) (State.isArrayOf_alike hZ.alike Ar184.2.1) rfl Ar184.2.2 hin184 hat184 (g := (mkF m 420 #[.val (.int p1), .val (.ref b1), .val (.ref b104), .val (.int (2 : Int32))] [(.int (2 : Int32)), (.ref b1)])) rfl rfl (hb hby at_420) _ ?_
      exact k_
    exact own_sufad2 l Z a0 hw p1 ad0 ad1 ad2 ad3 ad4 ad5 ad6 ad7 ad8 ad9 ad10 ad11 ad12 ad13 ad14 ad15 ad16 ad17 ad18 ad19 ad20 ad21 ad22 ad23 ad24 ad25 ad26 ad27 ad28 ad29 ad30 ad31 ad32 ad33 b1 b104 k104 h0 n0 Z0 X172 hx hZ hby hml hown Bd.returns (BodyLoose.notSynchronized Bd) hh e172 N172 K172 O172 u8 u9 Y174 (Nat.le_trans Z0 (Nat.le_trans K103.1 (Nat.le_of_eq g104.symm))) (Nat.le_trans K103.1 (Nat.le_of_eq g104.symm))
  · rw [hm175]
    obtain ⟨cl188, Ar188, q188, S188, M188, H188, G188⟩ := id Y173
    have hin188 : ¬ ((3 : Int32) < 0 ∨ cl188.slots.size ≤ ((3 : Int32)).toNatClampNeg) := inb_of S188 ⟨by decide, by decide⟩
    have hat188 : cl188.slots[((3 : Int32)).toNatClampNeg]? = some (.ref ad3) := Has.at H188 hin188 rfl
    refine own_go (A := T172.setTop (mkF m 421 #[.val (.int p1), .val (.ref b1), .val (.ref b104), .val (.int (3 : Int32))] [(.ref ad3)])) (fun t_ k_ => ?_) ?_
    · show Steps p.tables e below (T172.setTop (mkF m 417 #[.val (.int p1), .val (.ref b1), .val (.ref b104), .unset] [(.int (3 : Int32))])) t_
      refine XS.istoreN X172.here hx rfl (hb hby at_417) rfl (l' := #[.val (.int p1), .val (.ref b1), .val (.ref b104), .val (.int (3 : Int32))]) rfl ?_
      show Steps p.tables e below (T172.setTop (mkF m 418 #[.val (.int p1), .val (.ref b1), .val (.ref b104), .val (.int (3 : Int32))] [])) t_
      refine XS.aloadN X172.here hx rfl (hb hby at_418) rfl rfl ?_
      show Steps p.tables e below (T172.setTop (mkF m 419 #[.val (.int p1), .val (.ref b1), .val (.ref b104), .val (.int (3 : Int32))] [(.ref b1)])) t_
      refine XS.iloadN X172.here hx rfl (hb hby at_419) rfl ?_
      show Steps p.tables e below (T172.setTop (mkF m 420 #[.val (.int p1), .val (.ref b1), .val (.ref b104), .val (.int (3 : Int32))] [(.int (3 : Int32)), (.ref b1)])) t_
      refine X172.aaload hx (j := (3 : Int32)) (v := (.ref ad3)) (by rw [e172]; exact Ar188.1) (State.isArrayOf_alike hZ.alike Ar188.2.1) rfl Ar188.2.2 hin188 hat188 (g := (mkF m 420 #[.val (.int p1), .val (.ref b1), .val (.ref b104), .val (.int (3 : Int32))] [(.int (3 : Int32)), (.ref b1)])) rfl rfl (hb hby at_420) _ ?_
      exact k_
    exact own_sufad3 l Z a0 hw p1 ad0 ad1 ad2 ad3 ad4 ad5 ad6 ad7 ad8 ad9 ad10 ad11 ad12 ad13 ad14 ad15 ad16 ad17 ad18 ad19 ad20 ad21 ad22 ad23 ad24 ad25 ad26 ad27 ad28 ad29 ad30 ad31 ad32 ad33 b1 b104 k104 h0 n0 Z0 X172 hx hZ hby hml hown Bd.returns (BodyLoose.notSynchronized Bd) hh e172 N172 K172 O172 u11 u12 Y174 (Nat.le_trans Z0 (Nat.le_trans K103.1 (Nat.le_of_eq g104.symm))) (Nat.le_trans K103.1 (Nat.le_of_eq g104.symm))
  · rw [hm175]
    obtain ⟨cl192, Ar192, q192, S192, M192, H192, G192⟩ := id Y173
    have hin192 : ¬ ((4 : Int32) < 0 ∨ cl192.slots.size ≤ ((4 : Int32)).toNatClampNeg) := inb_of S192 ⟨by decide, by decide⟩
    have hat192 : cl192.slots[((4 : Int32)).toNatClampNeg]? = some (.ref ad4) := Has.at H192 hin192 rfl
    refine own_go (A := T172.setTop (mkF m 421 #[.val (.int p1), .val (.ref b1), .val (.ref b104), .val (.int (4 : Int32))] [(.ref ad4)])) (fun t_ k_ => ?_) ?_
    · show Steps p.tables e below (T172.setTop (mkF m 417 #[.val (.int p1), .val (.ref b1), .val (.ref b104), .unset] [(.int (4 : Int32))])) t_
      refine XS.istoreN X172.here hx rfl (hb hby at_417) rfl (l' := #[.val (.int p1), .val (.ref b1), .val (.ref b104), .val (.int (4 : Int32))]) rfl ?_
      show Steps p.tables e below (T172.setTop (mkF m 418 #[.val (.int p1), .val (.ref b1), .val (.ref b104), .val (.int (4 : Int32))] [])) t_
      refine XS.aloadN X172.here hx rfl (hb hby at_418) rfl rfl ?_
      show Steps p.tables e below (T172.setTop (mkF m 419 #[.val (.int p1), .val (.ref b1), .val (.ref b104), .val (.int (4 : Int32))] [(.ref b1)])) t_
      refine XS.iloadN X172.here hx rfl (hb hby at_419) rfl ?_
      show Steps p.tables e below (T172.setTop (mkF m 420 #[.val (.int p1), .val (.ref b1), .val (.ref b104), .val (.int (4 : Int32))] [(.int (4 : Int32)), (.ref b1)])) t_
      refine X172.aaload hx (j := (4 : Int32)) (v := (.ref ad4)) (by rw [e172]; exact Ar192.1) (State.isArrayOf_alike hZ.alike Ar192.2.1) rfl Ar192.2.2 hin192 hat192 (g := (mkF m 420 #[.val (.int p1), .val (.ref b1), .val (.ref b104), .val (.int (4 : Int32))] [(.int (4 : Int32)), (.ref b1)])) rfl rfl (hb hby at_420) _ ?_
      exact k_
    exact own_sufad4 l Z a0 hw p1 ad0 ad1 ad2 ad3 ad4 ad5 ad6 ad7 ad8 ad9 ad10 ad11 ad12 ad13 ad14 ad15 ad16 ad17 ad18 ad19 ad20 ad21 ad22 ad23 ad24 ad25 ad26 ad27 ad28 ad29 ad30 ad31 ad32 ad33 b1 b104 k104 h0 n0 Z0 X172 hx hZ hby hml hown Bd.returns (BodyLoose.notSynchronized Bd) hh e172 N172 K172 O172 u14 u15 Y174 (Nat.le_trans Z0 (Nat.le_trans K103.1 (Nat.le_of_eq g104.symm))) (Nat.le_trans K103.1 (Nat.le_of_eq g104.symm))
  · rw [hm175]
    obtain ⟨cl196, Ar196, q196, S196, M196, H196, G196⟩ := id Y173
    have hin196 : ¬ ((5 : Int32) < 0 ∨ cl196.slots.size ≤ ((5 : Int32)).toNatClampNeg) := inb_of S196 ⟨by decide, by decide⟩
    have hat196 : cl196.slots[((5 : Int32)).toNatClampNeg]? = some (.ref ad5) := Has.at H196 hin196 rfl
    refine own_go (A := T172.setTop (mkF m 421 #[.val (.int p1), .val (.ref b1), .val (.ref b104), .val (.int (5 : Int32))] [(.ref ad5)])) (fun t_ k_ => ?_) ?_
    · show Steps p.tables e below (T172.setTop (mkF m 417 #[.val (.int p1), .val (.ref b1), .val (.ref b104), .unset] [(.int (5 : Int32))])) t_
      refine XS.istoreN X172.here hx rfl (hb hby at_417) rfl (l' := #[.val (.int p1), .val (.ref b1), .val (.ref b104), .val (.int (5 : Int32))]) rfl ?_
      show Steps p.tables e below (T172.setTop (mkF m 418 #[.val (.int p1), .val (.ref b1), .val (.ref b104), .val (.int (5 : Int32))] [])) t_
      refine XS.aloadN X172.here hx rfl (hb hby at_418) rfl rfl ?_
      show Steps p.tables e below (T172.setTop (mkF m 419 #[.val (.int p1), .val (.ref b1), .val (.ref b104), .val (.int (5 : Int32))] [(.ref b1)])) t_
      refine XS.iloadN X172.here hx rfl (hb hby at_419) rfl ?_
      show Steps p.tables e below (T172.setTop (mkF m 420 #[.val (.int p1), .val (.ref b1), .val (.ref b104), .val (.int (5 : Int32))] [(.int (5 : Int32)), (.ref b1)])) t_
      refine X172.aaload hx (j := (5 : Int32)) (v := (.ref ad5)) (by rw [e172]; exact Ar196.1) (State.isArrayOf_alike hZ.alike Ar196.2.1) rfl Ar196.2.2 hin196 hat196 (g := (mkF m 420 #[.val (.int p1), .val (.ref b1), .val (.ref b104), .val (.int (5 : Int32))] [(.int (5 : Int32)), (.ref b1)])) rfl rfl (hb hby at_420) _ ?_
      exact k_
    exact own_sufad5 l Z a0 hw p1 ad0 ad1 ad2 ad3 ad4 ad5 ad6 ad7 ad8 ad9 ad10 ad11 ad12 ad13 ad14 ad15 ad16 ad17 ad18 ad19 ad20 ad21 ad22 ad23 ad24 ad25 ad26 ad27 ad28 ad29 ad30 ad31 ad32 ad33 b1 b104 k104 h0 n0 Z0 X172 hx hZ hby hml hown Bd.returns (BodyLoose.notSynchronized Bd) hh e172 N172 K172 O172 u17 u18 Y174 (Nat.le_trans Z0 (Nat.le_trans K103.1 (Nat.le_of_eq g104.symm))) (Nat.le_trans K103.1 (Nat.le_of_eq g104.symm))
  · rw [hm175]
    obtain ⟨cl200, Ar200, q200, S200, M200, H200, G200⟩ := id Y173
    have hin200 : ¬ ((6 : Int32) < 0 ∨ cl200.slots.size ≤ ((6 : Int32)).toNatClampNeg) := inb_of S200 ⟨by decide, by decide⟩
    have hat200 : cl200.slots[((6 : Int32)).toNatClampNeg]? = some (.ref ad6) := Has.at H200 hin200 rfl
    refine own_go (A := T172.setTop (mkF m 421 #[.val (.int p1), .val (.ref b1), .val (.ref b104), .val (.int (6 : Int32))] [(.ref ad6)])) (fun t_ k_ => ?_) ?_
    · show Steps p.tables e below (T172.setTop (mkF m 417 #[.val (.int p1), .val (.ref b1), .val (.ref b104), .unset] [(.int (6 : Int32))])) t_
      refine XS.istoreN X172.here hx rfl (hb hby at_417) rfl (l' := #[.val (.int p1), .val (.ref b1), .val (.ref b104), .val (.int (6 : Int32))]) rfl ?_
      show Steps p.tables e below (T172.setTop (mkF m 418 #[.val (.int p1), .val (.ref b1), .val (.ref b104), .val (.int (6 : Int32))] [])) t_
      refine XS.aloadN X172.here hx rfl (hb hby at_418) rfl rfl ?_
      show Steps p.tables e below (T172.setTop (mkF m 419 #[.val (.int p1), .val (.ref b1), .val (.ref b104), .val (.int (6 : Int32))] [(.ref b1)])) t_
      refine XS.iloadN X172.here hx rfl (hb hby at_419) rfl ?_
      show Steps p.tables e below (T172.setTop (mkF m 420 #[.val (.int p1), .val (.ref b1), .val (.ref b104), .val (.int (6 : Int32))] [(.int (6 : Int32)), (.ref b1)])) t_
      refine X172.aaload hx (j := (6 : Int32)) (v := (.ref ad6)) (by rw [e172]; exact Ar200.1) (State.isArrayOf_alike hZ.alike Ar200.2.1) rfl Ar200.2.2 hin200 hat200 (g := (mkF m 420 #[.val (.int p1), .val (.ref b1), .val (.ref b104), .val (.int (6 : Int32))] [(.int (6 : Int32)), (.ref b1)])) rfl rfl (hb hby at_420) _ ?_
      exact k_
    exact own_sufad6 l Z a0 hw p1 ad0 ad1 ad2 ad3 ad4 ad5 ad6 ad7 ad8 ad9 ad10 ad11 ad12 ad13 ad14 ad15 ad16 ad17 ad18 ad19 ad20 ad21 ad22 ad23 ad24 ad25 ad26 ad27 ad28 ad29 ad30 ad31 ad32 ad33 b1 b104 k104 h0 n0 Z0 X172 hx hZ hby hml hown Bd.returns (BodyLoose.notSynchronized Bd) hh e172 N172 K172 O172 u20 u21 Y174 (Nat.le_trans Z0 (Nat.le_trans K103.1 (Nat.le_of_eq g104.symm))) (Nat.le_trans K103.1 (Nat.le_of_eq g104.symm))
  · rw [hm175]
    obtain ⟨cl204, Ar204, q204, S204, M204, H204, G204⟩ := id Y173
    have hin204 : ¬ ((7 : Int32) < 0 ∨ cl204.slots.size ≤ ((7 : Int32)).toNatClampNeg) := inb_of S204 ⟨by decide, by decide⟩
    have hat204 : cl204.slots[((7 : Int32)).toNatClampNeg]? = some (.ref ad7) := Has.at H204 hin204 rfl
    refine own_go (A := T172.setTop (mkF m 421 #[.val (.int p1), .val (.ref b1), .val (.ref b104), .val (.int (7 : Int32))] [(.ref ad7)])) (fun t_ k_ => ?_) ?_
    · show Steps p.tables e below (T172.setTop (mkF m 417 #[.val (.int p1), .val (.ref b1), .val (.ref b104), .unset] [(.int (7 : Int32))])) t_
      refine XS.istoreN X172.here hx rfl (hb hby at_417) rfl (l' := #[.val (.int p1), .val (.ref b1), .val (.ref b104), .val (.int (7 : Int32))]) rfl ?_
      show Steps p.tables e below (T172.setTop (mkF m 418 #[.val (.int p1), .val (.ref b1), .val (.ref b104), .val (.int (7 : Int32))] [])) t_
      refine XS.aloadN X172.here hx rfl (hb hby at_418) rfl rfl ?_
      show Steps p.tables e below (T172.setTop (mkF m 419 #[.val (.int p1), .val (.ref b1), .val (.ref b104), .val (.int (7 : Int32))] [(.ref b1)])) t_
      refine XS.iloadN X172.here hx rfl (hb hby at_419) rfl ?_
      show Steps p.tables e below (T172.setTop (mkF m 420 #[.val (.int p1), .val (.ref b1), .val (.ref b104), .val (.int (7 : Int32))] [(.int (7 : Int32)), (.ref b1)])) t_
      refine X172.aaload hx (j := (7 : Int32)) (v := (.ref ad7)) (by rw [e172]; exact Ar204.1) (State.isArrayOf_alike hZ.alike Ar204.2.1) rfl Ar204.2.2 hin204 hat204 (g := (mkF m 420 #[.val (.int p1), .val (.ref b1), .val (.ref b104), .val (.int (7 : Int32))] [(.int (7 : Int32)), (.ref b1)])) rfl rfl (hb hby at_420) _ ?_
      exact k_
    exact own_sufad7 l Z a0 hw p1 ad0 ad1 ad2 ad3 ad4 ad5 ad6 ad7 ad8 ad9 ad10 ad11 ad12 ad13 ad14 ad15 ad16 ad17 ad18 ad19 ad20 ad21 ad22 ad23 ad24 ad25 ad26 ad27 ad28 ad29 ad30 ad31 ad32 ad33 b1 b104 k104 h0 n0 Z0 X172 hx hZ hby hml hown Bd.returns (BodyLoose.notSynchronized Bd) hh e172 N172 K172 O172 u23 u24 Y174 (Nat.le_trans Z0 (Nat.le_trans K103.1 (Nat.le_of_eq g104.symm))) (Nat.le_trans K103.1 (Nat.le_of_eq g104.symm))
  · rw [hm175]
    obtain ⟨cl208, Ar208, q208, S208, M208, H208, G208⟩ := id Y173
    have hin208 : ¬ ((8 : Int32) < 0 ∨ cl208.slots.size ≤ ((8 : Int32)).toNatClampNeg) := inb_of S208 ⟨by decide, by decide⟩
    have hat208 : cl208.slots[((8 : Int32)).toNatClampNeg]? = some (.ref ad8) := Has.at H208 hin208 rfl
    refine own_go (A := T172.setTop (mkF m 421 #[.val (.int p1), .val (.ref b1), .val (.ref b104), .val (.int (8 : Int32))] [(.ref ad8)])) (fun t_ k_ => ?_) ?_
    · show Steps p.tables e below (T172.setTop (mkF m 417 #[.val (.int p1), .val (.ref b1), .val (.ref b104), .unset] [(.int (8 : Int32))])) t_
      refine XS.istoreN X172.here hx rfl (hb hby at_417) rfl (l' := #[.val (.int p1), .val (.ref b1), .val (.ref b104), .val (.int (8 : Int32))]) rfl ?_
      show Steps p.tables e below (T172.setTop (mkF m 418 #[.val (.int p1), .val (.ref b1), .val (.ref b104), .val (.int (8 : Int32))] [])) t_
      refine XS.aloadN X172.here hx rfl (hb hby at_418) rfl rfl ?_
      show Steps p.tables e below (T172.setTop (mkF m 419 #[.val (.int p1), .val (.ref b1), .val (.ref b104), .val (.int (8 : Int32))] [(.ref b1)])) t_
      refine XS.iloadN X172.here hx rfl (hb hby at_419) rfl ?_
      show Steps p.tables e below (T172.setTop (mkF m 420 #[.val (.int p1), .val (.ref b1), .val (.ref b104), .val (.int (8 : Int32))] [(.int (8 : Int32)), (.ref b1)])) t_
      refine X172.aaload hx (j := (8 : Int32)) (v := (.ref ad8)) (by rw [e172]; exact Ar208.1) (State.isArrayOf_alike hZ.alike Ar208.2.1) rfl Ar208.2.2 hin208 hat208 (g := (mkF m 420 #[.val (.int p1), .val (.ref b1), .val (.ref b104), .val (.int (8 : Int32))] [(.int (8 : Int32)), (.ref b1)])) rfl rfl (hb hby at_420) _ ?_
      exact k_
    exact own_sufad8 l Z a0 hw p1 ad0 ad1 ad2 ad3 ad4 ad5 ad6 ad7 ad8 ad9 ad10 ad11 ad12 ad13 ad14 ad15 ad16 ad17 ad18 ad19 ad20 ad21 ad22 ad23 ad24 ad25 ad26 ad27 ad28 ad29 ad30 ad31 ad32 ad33 b1 b104 k104 h0 n0 Z0 X172 hx hZ hby hml hown Bd.returns (BodyLoose.notSynchronized Bd) hh e172 N172 K172 O172 u26 u27 Y174 (Nat.le_trans Z0 (Nat.le_trans K103.1 (Nat.le_of_eq g104.symm))) (Nat.le_trans K103.1 (Nat.le_of_eq g104.symm))
  · rw [hm175]
    obtain ⟨cl212, Ar212, q212, S212, M212, H212, G212⟩ := id Y173
    have hin212 : ¬ ((9 : Int32) < 0 ∨ cl212.slots.size ≤ ((9 : Int32)).toNatClampNeg) := inb_of S212 ⟨by decide, by decide⟩
    have hat212 : cl212.slots[((9 : Int32)).toNatClampNeg]? = some (.ref ad9) := Has.at H212 hin212 rfl
    refine own_go (A := T172.setTop (mkF m 421 #[.val (.int p1), .val (.ref b1), .val (.ref b104), .val (.int (9 : Int32))] [(.ref ad9)])) (fun t_ k_ => ?_) ?_
    · show Steps p.tables e below (T172.setTop (mkF m 417 #[.val (.int p1), .val (.ref b1), .val (.ref b104), .unset] [(.int (9 : Int32))])) t_
      refine XS.istoreN X172.here hx rfl (hb hby at_417) rfl (l' := #[.val (.int p1), .val (.ref b1), .val (.ref b104), .val (.int (9 : Int32))]) rfl ?_
      show Steps p.tables e below (T172.setTop (mkF m 418 #[.val (.int p1), .val (.ref b1), .val (.ref b104), .val (.int (9 : Int32))] [])) t_
      refine XS.aloadN X172.here hx rfl (hb hby at_418) rfl rfl ?_
      show Steps p.tables e below (T172.setTop (mkF m 419 #[.val (.int p1), .val (.ref b1), .val (.ref b104), .val (.int (9 : Int32))] [(.ref b1)])) t_
      refine XS.iloadN X172.here hx rfl (hb hby at_419) rfl ?_
      show Steps p.tables e below (T172.setTop (mkF m 420 #[.val (.int p1), .val (.ref b1), .val (.ref b104), .val (.int (9 : Int32))] [(.int (9 : Int32)), (.ref b1)])) t_
      refine X172.aaload hx (j := (9 : Int32)) (v := (.ref ad9)) (by rw [e172]; exact Ar212.1) (State.isArrayOf_alike hZ.alike Ar212.2.1) rfl Ar212.2.2 hin212 hat212 (g := (mkF m 420 #[.val (.int p1), .val (.ref b1), .val (.ref b104), .val (.int (9 : Int32))] [(.int (9 : Int32)), (.ref b1)])) rfl rfl (hb hby at_420) _ ?_
      exact k_
    exact own_sufad9 l Z a0 hw p1 ad0 ad1 ad2 ad3 ad4 ad5 ad6 ad7 ad8 ad9 ad10 ad11 ad12 ad13 ad14 ad15 ad16 ad17 ad18 ad19 ad20 ad21 ad22 ad23 ad24 ad25 ad26 ad27 ad28 ad29 ad30 ad31 ad32 ad33 b1 b104 k104 h0 n0 Z0 X172 hx hZ hby hml hown Bd.returns (BodyLoose.notSynchronized Bd) hh e172 N172 K172 O172 u29 u30 Y174 (Nat.le_trans Z0 (Nat.le_trans K103.1 (Nat.le_of_eq g104.symm))) (Nat.le_trans K103.1 (Nat.le_of_eq g104.symm))
  · rw [hm175]
    obtain ⟨cl216, Ar216, q216, S216, M216, H216, G216⟩ := id Y173
    have hin216 : ¬ ((10 : Int32) < 0 ∨ cl216.slots.size ≤ ((10 : Int32)).toNatClampNeg) := inb_of S216 ⟨by decide, by decide⟩
    have hat216 : cl216.slots[((10 : Int32)).toNatClampNeg]? = some (.ref ad10) := Has.at H216 hin216 rfl
    refine own_go (A := T172.setTop (mkF m 421 #[.val (.int p1), .val (.ref b1), .val (.ref b104), .val (.int (10 : Int32))] [(.ref ad10)])) (fun t_ k_ => ?_) ?_
    · show Steps p.tables e below (T172.setTop (mkF m 417 #[.val (.int p1), .val (.ref b1), .val (.ref b104), .unset] [(.int (10 : Int32))])) t_
      refine XS.istoreN X172.here hx rfl (hb hby at_417) rfl (l' := #[.val (.int p1), .val (.ref b1), .val (.ref b104), .val (.int (10 : Int32))]) rfl ?_
      show Steps p.tables e below (T172.setTop (mkF m 418 #[.val (.int p1), .val (.ref b1), .val (.ref b104), .val (.int (10 : Int32))] [])) t_
      refine XS.aloadN X172.here hx rfl (hb hby at_418) rfl rfl ?_
      show Steps p.tables e below (T172.setTop (mkF m 419 #[.val (.int p1), .val (.ref b1), .val (.ref b104), .val (.int (10 : Int32))] [(.ref b1)])) t_
      refine XS.iloadN X172.here hx rfl (hb hby at_419) rfl ?_
      show Steps p.tables e below (T172.setTop (mkF m 420 #[.val (.int p1), .val (.ref b1), .val (.ref b104), .val (.int (10 : Int32))] [(.int (10 : Int32)), (.ref b1)])) t_
      refine X172.aaload hx (j := (10 : Int32)) (v := (.ref ad10)) (by rw [e172]; exact Ar216.1) (State.isArrayOf_alike hZ.alike Ar216.2.1) rfl Ar216.2.2 hin216 hat216 (g := (mkF m 420 #[.val (.int p1), .val (.ref b1), .val (.ref b104), .val (.int (10 : Int32))] [(.int (10 : Int32)), (.ref b1)])) rfl rfl (hb hby at_420) _ ?_
      exact k_
    exact own_sufad10 l Z a0 hw p1 ad0 ad1 ad2 ad3 ad4 ad5 ad6 ad7 ad8 ad9 ad10 ad11 ad12 ad13 ad14 ad15 ad16 ad17 ad18 ad19 ad20 ad21 ad22 ad23 ad24 ad25 ad26 ad27 ad28 ad29 ad30 ad31 ad32 ad33 b1 b104 k104 h0 n0 Z0 X172 hx hZ hby hml hown Bd.returns (BodyLoose.notSynchronized Bd) hh e172 N172 K172 O172 u32 u33 Y174 (Nat.le_trans Z0 (Nat.le_trans K103.1 (Nat.le_of_eq g104.symm))) (Nat.le_trans K103.1 (Nat.le_of_eq g104.symm))
  · rw [hm175]
    obtain ⟨cl220, Ar220, q220, S220, M220, H220, G220⟩ := id Y173
    have hin220 : ¬ ((11 : Int32) < 0 ∨ cl220.slots.size ≤ ((11 : Int32)).toNatClampNeg) := inb_of S220 ⟨by decide, by decide⟩
    have hat220 : cl220.slots[((11 : Int32)).toNatClampNeg]? = some (.ref ad11) := Has.at H220 hin220 rfl
    refine own_go (A := T172.setTop (mkF m 421 #[.val (.int p1), .val (.ref b1), .val (.ref b104), .val (.int (11 : Int32))] [(.ref ad11)])) (fun t_ k_ => ?_) ?_
    · show Steps p.tables e below (T172.setTop (mkF m 417 #[.val (.int p1), .val (.ref b1), .val (.ref b104), .unset] [(.int (11 : Int32))])) t_
      refine XS.istoreN X172.here hx rfl (hb hby at_417) rfl (l' := #[.val (.int p1), .val (.ref b1), .val (.ref b104), .val (.int (11 : Int32))]) rfl ?_
      show Steps p.tables e below (T172.setTop (mkF m 418 #[.val (.int p1), .val (.ref b1), .val (.ref b104), .val (.int (11 : Int32))] [])) t_
      refine XS.aloadN X172.here hx rfl (hb hby at_418) rfl rfl ?_
      show Steps p.tables e below (T172.setTop (mkF m 419 #[.val (.int p1), .val (.ref b1), .val (.ref b104), .val (.int (11 : Int32))] [(.ref b1)])) t_
      refine XS.iloadN X172.here hx rfl (hb hby at_419) rfl ?_
      show Steps p.tables e below (T172.setTop (mkF m 420 #[.val (.int p1), .val (.ref b1), .val (.ref b104), .val (.int (11 : Int32))] [(.int (11 : Int32)), (.ref b1)])) t_
      refine X172.aaload hx (j := (11 : Int32)) (v := (.ref ad11)) (by rw [e172]; exact Ar220.1) (State.isArrayOf_alike hZ.alike Ar220.2.1) rfl Ar220.2.2 hin220 hat220 (g := (mkF m 420 #[.val (.int p1), .val (.ref b1), .val (.ref b104), .val (.int (11 : Int32))] [(.int (11 : Int32)), (.ref b1)])) rfl rfl (hb hby at_420) _ ?_
      exact k_
    exact own_sufad11 l Z a0 hw p1 ad0 ad1 ad2 ad3 ad4 ad5 ad6 ad7 ad8 ad9 ad10 ad11 ad12 ad13 ad14 ad15 ad16 ad17 ad18 ad19 ad20 ad21 ad22 ad23 ad24 ad25 ad26 ad27 ad28 ad29 ad30 ad31 ad32 ad33 b1 b104 k104 h0 n0 Z0 X172 hx hZ hby hml hown Bd.returns (BodyLoose.notSynchronized Bd) hh e172 N172 K172 O172 u35 u36 Y174 (Nat.le_trans Z0 (Nat.le_trans K103.1 (Nat.le_of_eq g104.symm))) (Nat.le_trans K103.1 (Nat.le_of_eq g104.symm))
  · rw [hm175]
    obtain ⟨cl224, Ar224, q224, S224, M224, H224, G224⟩ := id Y173
    have hin224 : ¬ ((12 : Int32) < 0 ∨ cl224.slots.size ≤ ((12 : Int32)).toNatClampNeg) := inb_of S224 ⟨by decide, by decide⟩
    have hat224 : cl224.slots[((12 : Int32)).toNatClampNeg]? = some (.ref ad12) := Has.at H224 hin224 rfl
    refine own_go (A := T172.setTop (mkF m 421 #[.val (.int p1), .val (.ref b1), .val (.ref b104), .val (.int (12 : Int32))] [(.ref ad12)])) (fun t_ k_ => ?_) ?_
    · show Steps p.tables e below (T172.setTop (mkF m 417 #[.val (.int p1), .val (.ref b1), .val (.ref b104), .unset] [(.int (12 : Int32))])) t_
      refine XS.istoreN X172.here hx rfl (hb hby at_417) rfl (l' := #[.val (.int p1), .val (.ref b1), .val (.ref b104), .val (.int (12 : Int32))]) rfl ?_
      show Steps p.tables e below (T172.setTop (mkF m 418 #[.val (.int p1), .val (.ref b1), .val (.ref b104), .val (.int (12 : Int32))] [])) t_
      refine XS.aloadN X172.here hx rfl (hb hby at_418) rfl rfl ?_
      show Steps p.tables e below (T172.setTop (mkF m 419 #[.val (.int p1), .val (.ref b1), .val (.ref b104), .val (.int (12 : Int32))] [(.ref b1)])) t_
      refine XS.iloadN X172.here hx rfl (hb hby at_419) rfl ?_
      show Steps p.tables e below (T172.setTop (mkF m 420 #[.val (.int p1), .val (.ref b1), .val (.ref b104), .val (.int (12 : Int32))] [(.int (12 : Int32)), (.ref b1)])) t_
      refine X172.aaload hx (j := (12 : Int32)) (v := (.ref ad12)) (by rw [e172]; exact Ar224.1) (State.isArrayOf_alike hZ.alike Ar224.2.1) rfl Ar224.2.2 hin224 hat224 (g := (mkF m 420 #[.val (.int p1), .val (.ref b1), .val (.ref b104), .val (.int (12 : Int32))] [(.int (12 : Int32)), (.ref b1)])) rfl rfl (hb hby at_420) _ ?_
      exact k_
    exact own_sufad12 l Z a0 hw p1 ad0 ad1 ad2 ad3 ad4 ad5 ad6 ad7 ad8 ad9 ad10 ad11 ad12 ad13 ad14 ad15 ad16 ad17 ad18 ad19 ad20 ad21 ad22 ad23 ad24 ad25 ad26 ad27 ad28 ad29 ad30 ad31 ad32 ad33 b1 b104 k104 h0 n0 Z0 X172 hx hZ hby hml hown Bd.returns (BodyLoose.notSynchronized Bd) hh e172 N172 K172 O172 u38 u39 Y174 (Nat.le_trans Z0 (Nat.le_trans K103.1 (Nat.le_of_eq g104.symm))) (Nat.le_trans K103.1 (Nat.le_of_eq g104.symm))
  · rw [hm175]
    obtain ⟨cl228, Ar228, q228, S228, M228, H228, G228⟩ := id Y173
    have hin228 : ¬ ((13 : Int32) < 0 ∨ cl228.slots.size ≤ ((13 : Int32)).toNatClampNeg) := inb_of S228 ⟨by decide, by decide⟩
    have hat228 : cl228.slots[((13 : Int32)).toNatClampNeg]? = some (.ref ad13) := Has.at H228 hin228 rfl
    refine own_go (A := T172.setTop (mkF m 421 #[.val (.int p1), .val (.ref b1), .val (.ref b104), .val (.int (13 : Int32))] [(.ref ad13)])) (fun t_ k_ => ?_) ?_
    · show Steps p.tables e below (T172.setTop (mkF m 417 #[.val (.int p1), .val (.ref b1), .val (.ref b104), .unset] [(.int (13 : Int32))])) t_
      refine XS.istoreN X172.here hx rfl (hb hby at_417) rfl (l' := #[.val (.int p1), .val (.ref b1), .val (.ref b104), .val (.int (13 : Int32))]) rfl ?_
      show Steps p.tables e below (T172.setTop (mkF m 418 #[.val (.int p1), .val (.ref b1), .val (.ref b104), .val (.int (13 : Int32))] [])) t_
      refine XS.aloadN X172.here hx rfl (hb hby at_418) rfl rfl ?_
      show Steps p.tables e below (T172.setTop (mkF m 419 #[.val (.int p1), .val (.ref b1), .val (.ref b104), .val (.int (13 : Int32))] [(.ref b1)])) t_
      refine XS.iloadN X172.here hx rfl (hb hby at_419) rfl ?_
      show Steps p.tables e below (T172.setTop (mkF m 420 #[.val (.int p1), .val (.ref b1), .val (.ref b104), .val (.int (13 : Int32))] [(.int (13 : Int32)), (.ref b1)])) t_
      refine X172.aaload hx (j := (13 : Int32)) (v := (.ref ad13)) (by rw [e172]; exact Ar228.1) (State.isArrayOf_alike hZ.alike Ar228.2.1) rfl Ar228.2.2 hin228 hat228 (g := (mkF m 420 #[.val (.int p1), .val (.ref b1), .val (.ref b104), .val (.int (13 : Int32))] [(.int (13 : Int32)), (.ref b1)])) rfl rfl (hb hby at_420) _ ?_
      exact k_
    exact own_sufad13 l Z a0 hw p1 ad0 ad1 ad2 ad3 ad4 ad5 ad6 ad7 ad8 ad9 ad10 ad11 ad12 ad13 ad14 ad15 ad16 ad17 ad18 ad19 ad20 ad21 ad22 ad23 ad24 ad25 ad26 ad27 ad28 ad29 ad30 ad31 ad32 ad33 b1 b104 k104 h0 n0 Z0 X172 hx hZ hby hml hown Bd.returns (BodyLoose.notSynchronized Bd) hh e172 N172 K172 O172 u41 u42 Y174 (Nat.le_trans Z0 (Nat.le_trans K103.1 (Nat.le_of_eq g104.symm))) (Nat.le_trans K103.1 (Nat.le_of_eq g104.symm))
  · rw [hm175]
    obtain ⟨cl232, Ar232, q232, S232, M232, H232, G232⟩ := id Y173
    have hin232 : ¬ ((14 : Int32) < 0 ∨ cl232.slots.size ≤ ((14 : Int32)).toNatClampNeg) := inb_of S232 ⟨by decide, by decide⟩
    have hat232 : cl232.slots[((14 : Int32)).toNatClampNeg]? = some (.ref ad14) := Has.at H232 hin232 rfl
    refine own_go (A := T172.setTop (mkF m 421 #[.val (.int p1), .val (.ref b1), .val (.ref b104), .val (.int (14 : Int32))] [(.ref ad14)])) (fun t_ k_ => ?_) ?_
    · show Steps p.tables e below (T172.setTop (mkF m 417 #[.val (.int p1), .val (.ref b1), .val (.ref b104), .unset] [(.int (14 : Int32))])) t_
      refine XS.istoreN X172.here hx rfl (hb hby at_417) rfl (l' := #[.val (.int p1), .val (.ref b1), .val (.ref b104), .val (.int (14 : Int32))]) rfl ?_
      show Steps p.tables e below (T172.setTop (mkF m 418 #[.val (.int p1), .val (.ref b1), .val (.ref b104), .val (.int (14 : Int32))] [])) t_
      refine XS.aloadN X172.here hx rfl (hb hby at_418) rfl rfl ?_
      show Steps p.tables e below (T172.setTop (mkF m 419 #[.val (.int p1), .val (.ref b1), .val (.ref b104), .val (.int (14 : Int32))] [(.ref b1)])) t_
      refine XS.iloadN X172.here hx rfl (hb hby at_419) rfl ?_
      show Steps p.tables e below (T172.setTop (mkF m 420 #[.val (.int p1), .val (.ref b1), .val (.ref b104), .val (.int (14 : Int32))] [(.int (14 : Int32)), (.ref b1)])) t_
      refine X172.aaload hx (j := (14 : Int32)) (v := (.ref ad14)) (by rw [e172]; exact Ar232.1) (State.isArrayOf_alike hZ.alike Ar232.2.1) rfl Ar232.2.2 hin232 hat232 (g := (mkF m 420 #[.val (.int p1), .val (.ref b1), .val (.ref b104), .val (.int (14 : Int32))] [(.int (14 : Int32)), (.ref b1)])) rfl rfl (hb hby at_420) _ ?_
      exact k_
    exact own_sufad14 l Z a0 hw p1 ad0 ad1 ad2 ad3 ad4 ad5 ad6 ad7 ad8 ad9 ad10 ad11 ad12 ad13 ad14 ad15 ad16 ad17 ad18 ad19 ad20 ad21 ad22 ad23 ad24 ad25 ad26 ad27 ad28 ad29 ad30 ad31 ad32 ad33 b1 b104 k104 h0 n0 Z0 X172 hx hZ hby hml hown Bd.returns (BodyLoose.notSynchronized Bd) hh e172 N172 K172 O172 u44 u45 Y174 (Nat.le_trans Z0 (Nat.le_trans K103.1 (Nat.le_of_eq g104.symm))) (Nat.le_trans K103.1 (Nat.le_of_eq g104.symm))
  · rw [hm175]
    obtain ⟨cl236, Ar236, q236, S236, M236, H236, G236⟩ := id Y173
    have hin236 : ¬ ((15 : Int32) < 0 ∨ cl236.slots.size ≤ ((15 : Int32)).toNatClampNeg) := inb_of S236 ⟨by decide, by decide⟩
    have hat236 : cl236.slots[((15 : Int32)).toNatClampNeg]? = some (.ref ad15) := Has.at H236 hin236 rfl
    refine own_go (A := T172.setTop (mkF m 421 #[.val (.int p1), .val (.ref b1), .val (.ref b104), .val (.int (15 : Int32))] [(.ref ad15)])) (fun t_ k_ => ?_) ?_
    · show Steps p.tables e below (T172.setTop (mkF m 417 #[.val (.int p1), .val (.ref b1), .val (.ref b104), .unset] [(.int (15 : Int32))])) t_
      refine XS.istoreN X172.here hx rfl (hb hby at_417) rfl (l' := #[.val (.int p1), .val (.ref b1), .val (.ref b104), .val (.int (15 : Int32))]) rfl ?_
      show Steps p.tables e below (T172.setTop (mkF m 418 #[.val (.int p1), .val (.ref b1), .val (.ref b104), .val (.int (15 : Int32))] [])) t_
      refine XS.aloadN X172.here hx rfl (hb hby at_418) rfl rfl ?_
      show Steps p.tables e below (T172.setTop (mkF m 419 #[.val (.int p1), .val (.ref b1), .val (.ref b104), .val (.int (15 : Int32))] [(.ref b1)])) t_
      refine XS.iloadN X172.here hx rfl (hb hby at_419) rfl ?_
      show Steps p.tables e below (T172.setTop (mkF m 420 #[.val (.int p1), .val (.ref b1), .val (.ref b104), .val (.int (15 : Int32))] [(.int (15 : Int32)), (.ref b1)])) t_
      refine X172.aaload hx (j := (15 : Int32)) (v := (.ref ad15)) (by rw [e172]; exact Ar236.1) (State.isArrayOf_alike hZ.alike Ar236.2.1) rfl Ar236.2.2 hin236 hat236 (g := (mkF m 420 #[.val (.int p1), .val (.ref b1), .val (.ref b104), .val (.int (15 : Int32))] [(.int (15 : Int32)), (.ref b1)])) rfl rfl (hb hby at_420) _ ?_
      exact k_
    exact own_sufad15 l Z a0 hw p1 ad0 ad1 ad2 ad3 ad4 ad5 ad6 ad7 ad8 ad9 ad10 ad11 ad12 ad13 ad14 ad15 ad16 ad17 ad18 ad19 ad20 ad21 ad22 ad23 ad24 ad25 ad26 ad27 ad28 ad29 ad30 ad31 ad32 ad33 b1 b104 k104 h0 n0 Z0 X172 hx hZ hby hml hown Bd.returns (BodyLoose.notSynchronized Bd) hh e172 N172 K172 O172 u47 u48 Y174 (Nat.le_trans Z0 (Nat.le_trans K103.1 (Nat.le_of_eq g104.symm))) (Nat.le_trans K103.1 (Nat.le_of_eq g104.symm))
  · rw [hm175]
    obtain ⟨cl240, Ar240, q240, S240, M240, H240, G240⟩ := id Y173
    have hin240 : ¬ ((16 : Int32) < 0 ∨ cl240.slots.size ≤ ((16 : Int32)).toNatClampNeg) := inb_of S240 ⟨by decide, by decide⟩
    have hat240 : cl240.slots[((16 : Int32)).toNatClampNeg]? = some (.ref ad16) := Has.at H240 hin240 rfl
    refine own_go (A := T172.setTop (mkF m 421 #[.val (.int p1), .val (.ref b1), .val (.ref b104), .val (.int (16 : Int32))] [(.ref ad16)])) (fun t_ k_ => ?_) ?_
    · show Steps p.tables e below (T172.setTop (mkF m 417 #[.val (.int p1), .val (.ref b1), .val (.ref b104), .unset] [(.int (16 : Int32))])) t_
      refine XS.istoreN X172.here hx rfl (hb hby at_417) rfl (l' := #[.val (.int p1), .val (.ref b1), .val (.ref b104), .val (.int (16 : Int32))]) rfl ?_
      show Steps p.tables e below (T172.setTop (mkF m 418 #[.val (.int p1), .val (.ref b1), .val (.ref b104), .val (.int (16 : Int32))] [])) t_
      refine XS.aloadN X172.here hx rfl (hb hby at_418) rfl rfl ?_
      show Steps p.tables e below (T172.setTop (mkF m 419 #[.val (.int p1), .val (.ref b1), .val (.ref b104), .val (.int (16 : Int32))] [(.ref b1)])) t_
      refine XS.iloadN X172.here hx rfl (hb hby at_419) rfl ?_
      show Steps p.tables e below (T172.setTop (mkF m 420 #[.val (.int p1), .val (.ref b1), .val (.ref b104), .val (.int (16 : Int32))] [(.int (16 : Int32)), (.ref b1)])) t_
      refine X172.aaload hx (j := (16 : Int32)) (v := (.ref ad16)) (by rw [e172]; exact Ar240.1) (State.isArrayOf_alike hZ.alike Ar240.2.1) rfl Ar240.2.2 hin240 hat240 (g := (mkF m 420 #[.val (.int p1), .val (.ref b1), .val (.ref b104), .val (.int (16 : Int32))] [(.int (16 : Int32)), (.ref b1)])) rfl rfl (hb hby at_420) _ ?_
      exact k_
    exact own_sufad16 l Z a0 hw p1 ad0 ad1 ad2 ad3 ad4 ad5 ad6 ad7 ad8 ad9 ad10 ad11 ad12 ad13 ad14 ad15 ad16 ad17 ad18 ad19 ad20 ad21 ad22 ad23 ad24 ad25 ad26 ad27 ad28 ad29 ad30 ad31 ad32 ad33 b1 b104 k104 h0 n0 Z0 X172 hx hZ hby hml hown Bd.returns (BodyLoose.notSynchronized Bd) hh e172 N172 K172 O172 u50 u51 Y174 (Nat.le_trans Z0 (Nat.le_trans K103.1 (Nat.le_of_eq g104.symm))) (Nat.le_trans K103.1 (Nat.le_of_eq g104.symm))
  · rw [hm175]
    obtain ⟨cl244, Ar244, q244, S244, M244, H244, G244⟩ := id Y173
    have hin244 : ¬ ((17 : Int32) < 0 ∨ cl244.slots.size ≤ ((17 : Int32)).toNatClampNeg) := inb_of S244 ⟨by decide, by decide⟩
    have hat244 : cl244.slots[((17 : Int32)).toNatClampNeg]? = some (.ref ad17) := Has.at H244 hin244 rfl
    refine own_go (A := T172.setTop (mkF m 421 #[.val (.int p1), .val (.ref b1), .val (.ref b104), .val (.int (17 : Int32))] [(.ref ad17)])) (fun t_ k_ => ?_) ?_
    · show Steps p.tables e below (T172.setTop (mkF m 417 #[.val (.int p1), .val (.ref b1), .val (.ref b104), .unset] [(.int (17 : Int32))])) t_
      refine XS.istoreN X172.here hx rfl (hb hby at_417) rfl (l' := #[.val (.int p1), .val (.ref b1), .val (.ref b104), .val (.int (17 : Int32))]) rfl ?_
      show Steps p.tables e below (T172.setTop (mkF m 418 #[.val (.int p1), .val (.ref b1), .val (.ref b104), .val (.int (17 : Int32))] [])) t_
      refine XS.aloadN X172.here hx rfl (hb hby at_418) rfl rfl ?_
      show Steps p.tables e below (T172.setTop (mkF m 419 #[.val (.int p1), .val (.ref b1), .val (.ref b104), .val (.int (17 : Int32))] [(.ref b1)])) t_
      refine XS.iloadN X172.here hx rfl (hb hby at_419) rfl ?_
      show Steps p.tables e below (T172.setTop (mkF m 420 #[.val (.int p1), .val (.ref b1), .val (.ref b104), .val (.int (17 : Int32))] [(.int (17 : Int32)), (.ref b1)])) t_
      refine X172.aaload hx (j := (17 : Int32)) (v := (.ref ad17)) (by rw [e172]; exact Ar244.1) (State.isArrayOf_alike hZ.alike Ar244.2.1) rfl Ar244.2.2 hin244 hat244 (g := (mkF m 420 #[.val (.int p1), .val (.ref b1), .val (.ref b104), .val (.int (17 : Int32))] [(.int (17 : Int32)), (.ref b1)])) rfl rfl (hb hby at_420) _ ?_
      exact k_
    exact own_sufad17 l Z a0 hw p1 ad0 ad1 ad2 ad3 ad4 ad5 ad6 ad7 ad8 ad9 ad10 ad11 ad12 ad13 ad14 ad15 ad16 ad17 ad18 ad19 ad20 ad21 ad22 ad23 ad24 ad25 ad26 ad27 ad28 ad29 ad30 ad31 ad32 ad33 b1 b104 k104 h0 n0 Z0 X172 hx hZ hby hml hown Bd.returns (BodyLoose.notSynchronized Bd) hh e172 N172 K172 O172 u53 u54 Y174 (Nat.le_trans Z0 (Nat.le_trans K103.1 (Nat.le_of_eq g104.symm))) (Nat.le_trans K103.1 (Nat.le_of_eq g104.symm))
  · rw [hm175]
    obtain ⟨cl248, Ar248, q248, S248, M248, H248, G248⟩ := id Y173
    have hin248 : ¬ ((18 : Int32) < 0 ∨ cl248.slots.size ≤ ((18 : Int32)).toNatClampNeg) := inb_of S248 ⟨by decide, by decide⟩
    have hat248 : cl248.slots[((18 : Int32)).toNatClampNeg]? = some (.ref ad18) := Has.at H248 hin248 rfl
    refine own_go (A := T172.setTop (mkF m 421 #[.val (.int p1), .val (.ref b1), .val (.ref b104), .val (.int (18 : Int32))] [(.ref ad18)])) (fun t_ k_ => ?_) ?_
    · show Steps p.tables e below (T172.setTop (mkF m 417 #[.val (.int p1), .val (.ref b1), .val (.ref b104), .unset] [(.int (18 : Int32))])) t_
      refine XS.istoreN X172.here hx rfl (hb hby at_417) rfl (l' := #[.val (.int p1), .val (.ref b1), .val (.ref b104), .val (.int (18 : Int32))]) rfl ?_
      show Steps p.tables e below (T172.setTop (mkF m 418 #[.val (.int p1), .val (.ref b1), .val (.ref b104), .val (.int (18 : Int32))] [])) t_
      refine XS.aloadN X172.here hx rfl (hb hby at_418) rfl rfl ?_
      show Steps p.tables e below (T172.setTop (mkF m 419 #[.val (.int p1), .val (.ref b1), .val (.ref b104), .val (.int (18 : Int32))] [(.ref b1)])) t_
      refine XS.iloadN X172.here hx rfl (hb hby at_419) rfl ?_
      show Steps p.tables e below (T172.setTop (mkF m 420 #[.val (.int p1), .val (.ref b1), .val (.ref b104), .val (.int (18 : Int32))] [(.int (18 : Int32)), (.ref b1)])) t_
      refine X172.aaload hx (j := (18 : Int32)) (v := (.ref ad18)) (by rw [e172]; exact Ar248.1) (State.isArrayOf_alike hZ.alike Ar248.2.1) rfl Ar248.2.2 hin248 hat248 (g := (mkF m 420 #[.val (.int p1), .val (.ref b1), .val (.ref b104), .val (.int (18 : Int32))] [(.int (18 : Int32)), (.ref b1)])) rfl rfl (hb hby at_420) _ ?_
      exact k_
    exact own_sufad18 l Z a0 hw p1 ad0 ad1 ad2 ad3 ad4 ad5 ad6 ad7 ad8 ad9 ad10 ad11 ad12 ad13 ad14 ad15 ad16 ad17 ad18 ad19 ad20 ad21 ad22 ad23 ad24 ad25 ad26 ad27 ad28 ad29 ad30 ad31 ad32 ad33 b1 b104 k104 h0 n0 Z0 X172 hx hZ hby hml hown Bd.returns (BodyLoose.notSynchronized Bd) hh e172 N172 K172 O172 u56 u57 Y174 (Nat.le_trans Z0 (Nat.le_trans K103.1 (Nat.le_of_eq g104.symm))) (Nat.le_trans K103.1 (Nat.le_of_eq g104.symm))
  · rw [hm175]
    obtain ⟨cl252, Ar252, q252, S252, M252, H252, G252⟩ := id Y173
    have hin252 : ¬ ((19 : Int32) < 0 ∨ cl252.slots.size ≤ ((19 : Int32)).toNatClampNeg) := inb_of S252 ⟨by decide, by decide⟩
    have hat252 : cl252.slots[((19 : Int32)).toNatClampNeg]? = some (.ref ad19) := Has.at H252 hin252 rfl
    refine own_go (A := T172.setTop (mkF m 421 #[.val (.int p1), .val (.ref b1), .val (.ref b104), .val (.int (19 : Int32))] [(.ref ad19)])) (fun t_ k_ => ?_) ?_
    · show Steps p.tables e below (T172.setTop (mkF m 417 #[.val (.int p1), .val (.ref b1), .val (.ref b104), .unset] [(.int (19 : Int32))])) t_
      refine XS.istoreN X172.here hx rfl (hb hby at_417) rfl (l' := #[.val (.int p1), .val (.ref b1), .val (.ref b104), .val (.int (19 : Int32))]) rfl ?_
      show Steps p.tables e below (T172.setTop (mkF m 418 #[.val (.int p1), .val (.ref b1), .val (.ref b104), .val (.int (19 : Int32))] [])) t_
      refine XS.aloadN X172.here hx rfl (hb hby at_418) rfl rfl ?_
      show Steps p.tables e below (T172.setTop (mkF m 419 #[.val (.int p1), .val (.ref b1), .val (.ref b104), .val (.int (19 : Int32))] [(.ref b1)])) t_
      refine XS.iloadN X172.here hx rfl (hb hby at_419) rfl ?_
      show Steps p.tables e below (T172.setTop (mkF m 420 #[.val (.int p1), .val (.ref b1), .val (.ref b104), .val (.int (19 : Int32))] [(.int (19 : Int32)), (.ref b1)])) t_
      refine X172.aaload hx (j := (19 : Int32)) (v := (.ref ad19)) (by rw [e172]; exact Ar252.1) (State.isArrayOf_alike hZ.alike Ar252.2.1) rfl Ar252.2.2 hin252 hat252 (g := (mkF m 420 #[.val (.int p1), .val (.ref b1), .val (.ref b104), .val (.int (19 : Int32))] [(.int (19 : Int32)), (.ref b1)])) rfl rfl (hb hby at_420) _ ?_
      exact k_
    exact own_sufad19 l Z a0 hw p1 ad0 ad1 ad2 ad3 ad4 ad5 ad6 ad7 ad8 ad9 ad10 ad11 ad12 ad13 ad14 ad15 ad16 ad17 ad18 ad19 ad20 ad21 ad22 ad23 ad24 ad25 ad26 ad27 ad28 ad29 ad30 ad31 ad32 ad33 b1 b104 k104 h0 n0 Z0 X172 hx hZ hby hml hown Bd.returns (BodyLoose.notSynchronized Bd) hh e172 N172 K172 O172 u59 u60 Y174 (Nat.le_trans Z0 (Nat.le_trans K103.1 (Nat.le_of_eq g104.symm))) (Nat.le_trans K103.1 (Nat.le_of_eq g104.symm))
  · rw [hm175]
    obtain ⟨cl256, Ar256, q256, S256, M256, H256, G256⟩ := id Y173
    have hin256 : ¬ ((20 : Int32) < 0 ∨ cl256.slots.size ≤ ((20 : Int32)).toNatClampNeg) := inb_of S256 ⟨by decide, by decide⟩
    have hat256 : cl256.slots[((20 : Int32)).toNatClampNeg]? = some (.ref ad20) := Has.at H256 hin256 rfl
    refine own_go (A := T172.setTop (mkF m 421 #[.val (.int p1), .val (.ref b1), .val (.ref b104), .val (.int (20 : Int32))] [(.ref ad20)])) (fun t_ k_ => ?_) ?_
    · show Steps p.tables e below (T172.setTop (mkF m 417 #[.val (.int p1), .val (.ref b1), .val (.ref b104), .unset] [(.int (20 : Int32))])) t_
      refine XS.istoreN X172.here hx rfl (hb hby at_417) rfl (l' := #[.val (.int p1), .val (.ref b1), .val (.ref b104), .val (.int (20 : Int32))]) rfl ?_
      show Steps p.tables e below (T172.setTop (mkF m 418 #[.val (.int p1), .val (.ref b1), .val (.ref b104), .val (.int (20 : Int32))] [])) t_
      refine XS.aloadN X172.here hx rfl (hb hby at_418) rfl rfl ?_
      show Steps p.tables e below (T172.setTop (mkF m 419 #[.val (.int p1), .val (.ref b1), .val (.ref b104), .val (.int (20 : Int32))] [(.ref b1)])) t_
      refine XS.iloadN X172.here hx rfl (hb hby at_419) rfl ?_
      show Steps p.tables e below (T172.setTop (mkF m 420 #[.val (.int p1), .val (.ref b1), .val (.ref b104), .val (.int (20 : Int32))] [(.int (20 : Int32)), (.ref b1)])) t_
      refine X172.aaload hx (j := (20 : Int32)) (v := (.ref ad20)) (by rw [e172]; exact Ar256.1) (State.isArrayOf_alike hZ.alike Ar256.2.1) rfl Ar256.2.2 hin256 hat256 (g := (mkF m 420 #[.val (.int p1), .val (.ref b1), .val (.ref b104), .val (.int (20 : Int32))] [(.int (20 : Int32)), (.ref b1)])) rfl rfl (hb hby at_420) _ ?_
      exact k_
    exact own_sufad20 l Z a0 hw p1 ad0 ad1 ad2 ad3 ad4 ad5 ad6 ad7 ad8 ad9 ad10 ad11 ad12 ad13 ad14 ad15 ad16 ad17 ad18 ad19 ad20 ad21 ad22 ad23 ad24 ad25 ad26 ad27 ad28 ad29 ad30 ad31 ad32 ad33 b1 b104 k104 h0 n0 Z0 X172 hx hZ hby hml hown Bd.returns (BodyLoose.notSynchronized Bd) hh e172 N172 K172 O172 u62 u63 Y174 (Nat.le_trans Z0 (Nat.le_trans K103.1 (Nat.le_of_eq g104.symm))) (Nat.le_trans K103.1 (Nat.le_of_eq g104.symm))
  · rw [hm175]
    obtain ⟨cl260, Ar260, q260, S260, M260, H260, G260⟩ := id Y173
    have hin260 : ¬ ((21 : Int32) < 0 ∨ cl260.slots.size ≤ ((21 : Int32)).toNatClampNeg) := inb_of S260 ⟨by decide, by decide⟩
    have hat260 : cl260.slots[((21 : Int32)).toNatClampNeg]? = some (.ref ad21) := Has.at H260 hin260 rfl
    refine own_go (A := T172.setTop (mkF m 421 #[.val (.int p1), .val (.ref b1), .val (.ref b104), .val (.int (21 : Int32))] [(.ref ad21)])) (fun t_ k_ => ?_) ?_
    · show Steps p.tables e below (T172.setTop (mkF m 417 #[.val (.int p1), .val (.ref b1), .val (.ref b104), .unset] [(.int (21 : Int32))])) t_
      refine XS.istoreN X172.here hx rfl (hb hby at_417) rfl (l' := #[.val (.int p1), .val (.ref b1), .val (.ref b104), .val (.int (21 : Int32))]) rfl ?_
      show Steps p.tables e below (T172.setTop (mkF m 418 #[.val (.int p1), .val (.ref b1), .val (.ref b104), .val (.int (21 : Int32))] [])) t_
      refine XS.aloadN X172.here hx rfl (hb hby at_418) rfl rfl ?_
      show Steps p.tables e below (T172.setTop (mkF m 419 #[.val (.int p1), .val (.ref b1), .val (.ref b104), .val (.int (21 : Int32))] [(.ref b1)])) t_
      refine XS.iloadN X172.here hx rfl (hb hby at_419) rfl ?_
      show Steps p.tables e below (T172.setTop (mkF m 420 #[.val (.int p1), .val (.ref b1), .val (.ref b104), .val (.int (21 : Int32))] [(.int (21 : Int32)), (.ref b1)])) t_
      refine X172.aaload hx (j := (21 : Int32)) (v := (.ref ad21)) (by rw [e172]; exact Ar260.1) (State.isArrayOf_alike hZ.alike Ar260.2.1) rfl Ar260.2.2 hin260 hat260 (g := (mkF m 420 #[.val (.int p1), .val (.ref b1), .val (.ref b104), .val (.int (21 : Int32))] [(.int (21 : Int32)), (.ref b1)])) rfl rfl (hb hby at_420) _ ?_
      exact k_
    exact own_sufad21 l Z a0 hw p1 ad0 ad1 ad2 ad3 ad4 ad5 ad6 ad7 ad8 ad9 ad10 ad11 ad12 ad13 ad14 ad15 ad16 ad17 ad18 ad19 ad20 ad21 ad22 ad23 ad24 ad25 ad26 ad27 ad28 ad29 ad30 ad31 ad32 ad33 b1 b104 k104 h0 n0 Z0 X172 hx hZ hby hml hown Bd.returns (BodyLoose.notSynchronized Bd) hh e172 N172 K172 O172 u65 u66 Y174 (Nat.le_trans Z0 (Nat.le_trans K103.1 (Nat.le_of_eq g104.symm))) (Nat.le_trans K103.1 (Nat.le_of_eq g104.symm))
  · rw [hm175]
    obtain ⟨cl264, Ar264, q264, S264, M264, H264, G264⟩ := id Y173
    have hin264 : ¬ ((22 : Int32) < 0 ∨ cl264.slots.size ≤ ((22 : Int32)).toNatClampNeg) := inb_of S264 ⟨by decide, by decide⟩
    have hat264 : cl264.slots[((22 : Int32)).toNatClampNeg]? = some (.ref ad22) := Has.at H264 hin264 rfl
    refine own_go (A := T172.setTop (mkF m 421 #[.val (.int p1), .val (.ref b1), .val (.ref b104), .val (.int (22 : Int32))] [(.ref ad22)])) (fun t_ k_ => ?_) ?_
    · show Steps p.tables e below (T172.setTop (mkF m 417 #[.val (.int p1), .val (.ref b1), .val (.ref b104), .unset] [(.int (22 : Int32))])) t_
      refine XS.istoreN X172.here hx rfl (hb hby at_417) rfl (l' := #[.val (.int p1), .val (.ref b1), .val (.ref b104), .val (.int (22 : Int32))]) rfl ?_
      show Steps p.tables e below (T172.setTop (mkF m 418 #[.val (.int p1), .val (.ref b1), .val (.ref b104), .val (.int (22 : Int32))] [])) t_
      refine XS.aloadN X172.here hx rfl (hb hby at_418) rfl rfl ?_
      show Steps p.tables e below (T172.setTop (mkF m 419 #[.val (.int p1), .val (.ref b1), .val (.ref b104), .val (.int (22 : Int32))] [(.ref b1)])) t_
      refine XS.iloadN X172.here hx rfl (hb hby at_419) rfl ?_
      show Steps p.tables e below (T172.setTop (mkF m 420 #[.val (.int p1), .val (.ref b1), .val (.ref b104), .val (.int (22 : Int32))] [(.int (22 : Int32)), (.ref b1)])) t_
      refine X172.aaload hx (j := (22 : Int32)) (v := (.ref ad22)) (by rw [e172]; exact Ar264.1) (State.isArrayOf_alike hZ.alike Ar264.2.1) rfl Ar264.2.2 hin264 hat264 (g := (mkF m 420 #[.val (.int p1), .val (.ref b1), .val (.ref b104), .val (.int (22 : Int32))] [(.int (22 : Int32)), (.ref b1)])) rfl rfl (hb hby at_420) _ ?_
      exact k_
    exact own_sufad22 l Z a0 hw p1 ad0 ad1 ad2 ad3 ad4 ad5 ad6 ad7 ad8 ad9 ad10 ad11 ad12 ad13 ad14 ad15 ad16 ad17 ad18 ad19 ad20 ad21 ad22 ad23 ad24 ad25 ad26 ad27 ad28 ad29 ad30 ad31 ad32 ad33 b1 b104 k104 h0 n0 Z0 X172 hx hZ hby hml hown Bd.returns (BodyLoose.notSynchronized Bd) hh e172 N172 K172 O172 u68 u69 Y174 (Nat.le_trans Z0 (Nat.le_trans K103.1 (Nat.le_of_eq g104.symm))) (Nat.le_trans K103.1 (Nat.le_of_eq g104.symm))
  · rw [hm175]
    obtain ⟨cl268, Ar268, q268, S268, M268, H268, G268⟩ := id Y173
    have hin268 : ¬ ((23 : Int32) < 0 ∨ cl268.slots.size ≤ ((23 : Int32)).toNatClampNeg) := inb_of S268 ⟨by decide, by decide⟩
    have hat268 : cl268.slots[((23 : Int32)).toNatClampNeg]? = some (.ref ad23) := Has.at H268 hin268 rfl
    refine own_go (A := T172.setTop (mkF m 421 #[.val (.int p1), .val (.ref b1), .val (.ref b104), .val (.int (23 : Int32))] [(.ref ad23)])) (fun t_ k_ => ?_) ?_
    · show Steps p.tables e below (T172.setTop (mkF m 417 #[.val (.int p1), .val (.ref b1), .val (.ref b104), .unset] [(.int (23 : Int32))])) t_
      refine XS.istoreN X172.here hx rfl (hb hby at_417) rfl (l' := #[.val (.int p1), .val (.ref b1), .val (.ref b104), .val (.int (23 : Int32))]) rfl ?_
      show Steps p.tables e below (T172.setTop (mkF m 418 #[.val (.int p1), .val (.ref b1), .val (.ref b104), .val (.int (23 : Int32))] [])) t_
      refine XS.aloadN X172.here hx rfl (hb hby at_418) rfl rfl ?_
      show Steps p.tables e below (T172.setTop (mkF m 419 #[.val (.int p1), .val (.ref b1), .val (.ref b104), .val (.int (23 : Int32))] [(.ref b1)])) t_
      refine XS.iloadN X172.here hx rfl (hb hby at_419) rfl ?_
      show Steps p.tables e below (T172.setTop (mkF m 420 #[.val (.int p1), .val (.ref b1), .val (.ref b104), .val (.int (23 : Int32))] [(.int (23 : Int32)), (.ref b1)])) t_
      refine X172.aaload hx (j := (23 : Int32)) (v := (.ref ad23)) (by rw [e172]; exact Ar268.1) (State.isArrayOf_alike hZ.alike Ar268.2.1) rfl Ar268.2.2 hin268 hat268 (g := (mkF m 420 #[.val (.int p1), .val (.ref b1), .val (.ref b104), .val (.int (23 : Int32))] [(.int (23 : Int32)), (.ref b1)])) rfl rfl (hb hby at_420) _ ?_
      exact k_
    exact own_sufad23 l Z a0 hw p1 ad0 ad1 ad2 ad3 ad4 ad5 ad6 ad7 ad8 ad9 ad10 ad11 ad12 ad13 ad14 ad15 ad16 ad17 ad18 ad19 ad20 ad21 ad22 ad23 ad24 ad25 ad26 ad27 ad28 ad29 ad30 ad31 ad32 ad33 b1 b104 k104 h0 n0 Z0 X172 hx hZ hby hml hown Bd.returns (BodyLoose.notSynchronized Bd) hh e172 N172 K172 O172 u71 u72 Y174 (Nat.le_trans Z0 (Nat.le_trans K103.1 (Nat.le_of_eq g104.symm))) (Nat.le_trans K103.1 (Nat.le_of_eq g104.symm))
  · rw [hm175]
    obtain ⟨cl272, Ar272, q272, S272, M272, H272, G272⟩ := id Y173
    have hin272 : ¬ ((24 : Int32) < 0 ∨ cl272.slots.size ≤ ((24 : Int32)).toNatClampNeg) := inb_of S272 ⟨by decide, by decide⟩
    have hat272 : cl272.slots[((24 : Int32)).toNatClampNeg]? = some (.ref ad24) := Has.at H272 hin272 rfl
    refine own_go (A := T172.setTop (mkF m 421 #[.val (.int p1), .val (.ref b1), .val (.ref b104), .val (.int (24 : Int32))] [(.ref ad24)])) (fun t_ k_ => ?_) ?_
    · show Steps p.tables e below (T172.setTop (mkF m 417 #[.val (.int p1), .val (.ref b1), .val (.ref b104), .unset] [(.int (24 : Int32))])) t_
      refine XS.istoreN X172.here hx rfl (hb hby at_417) rfl (l' := #[.val (.int p1), .val (.ref b1), .val (.ref b104), .val (.int (24 : Int32))]) rfl ?_
      show Steps p.tables e below (T172.setTop (mkF m 418 #[.val (.int p1), .val (.ref b1), .val (.ref b104), .val (.int (24 : Int32))] [])) t_
      refine XS.aloadN X172.here hx rfl (hb hby at_418) rfl rfl ?_
      show Steps p.tables e below (T172.setTop (mkF m 419 #[.val (.int p1), .val (.ref b1), .val (.ref b104), .val (.int (24 : Int32))] [(.ref b1)])) t_
      refine XS.iloadN X172.here hx rfl (hb hby at_419) rfl ?_
      show Steps p.tables e below (T172.setTop (mkF m 420 #[.val (.int p1), .val (.ref b1), .val (.ref b104), .val (.int (24 : Int32))] [(.int (24 : Int32)), (.ref b1)])) t_
      refine X172.aaload hx (j := (24 : Int32)) (v := (.ref ad24)) (by rw [e172]; exact Ar272.1) (State.isArrayOf_alike hZ.alike Ar272.2.1) rfl Ar272.2.2 hin272 hat272 (g := (mkF m 420 #[.val (.int p1), .val (.ref b1), .val (.ref b104), .val (.int (24 : Int32))] [(.int (24 : Int32)), (.ref b1)])) rfl rfl (hb hby at_420) _ ?_
      exact k_
    exact own_sufad24 l Z a0 hw p1 ad0 ad1 ad2 ad3 ad4 ad5 ad6 ad7 ad8 ad9 ad10 ad11 ad12 ad13 ad14 ad15 ad16 ad17 ad18 ad19 ad20 ad21 ad22 ad23 ad24 ad25 ad26 ad27 ad28 ad29 ad30 ad31 ad32 ad33 b1 b104 k104 h0 n0 Z0 X172 hx hZ hby hml hown Bd.returns (BodyLoose.notSynchronized Bd) hh e172 N172 K172 O172 u74 u75 Y174 (Nat.le_trans Z0 (Nat.le_trans K103.1 (Nat.le_of_eq g104.symm))) (Nat.le_trans K103.1 (Nat.le_of_eq g104.symm))
  · rw [hm175]
    obtain ⟨cl276, Ar276, q276, S276, M276, H276, G276⟩ := id Y173
    have hin276 : ¬ ((25 : Int32) < 0 ∨ cl276.slots.size ≤ ((25 : Int32)).toNatClampNeg) := inb_of S276 ⟨by decide, by decide⟩
    have hat276 : cl276.slots[((25 : Int32)).toNatClampNeg]? = some (.ref ad25) := Has.at H276 hin276 rfl
    refine own_go (A := T172.setTop (mkF m 421 #[.val (.int p1), .val (.ref b1), .val (.ref b104), .val (.int (25 : Int32))] [(.ref ad25)])) (fun t_ k_ => ?_) ?_
    · show Steps p.tables e below (T172.setTop (mkF m 417 #[.val (.int p1), .val (.ref b1), .val (.ref b104), .unset] [(.int (25 : Int32))])) t_
      refine XS.istoreN X172.here hx rfl (hb hby at_417) rfl (l' := #[.val (.int p1), .val (.ref b1), .val (.ref b104), .val (.int (25 : Int32))]) rfl ?_
      show Steps p.tables e below (T172.setTop (mkF m 418 #[.val (.int p1), .val (.ref b1), .val (.ref b104), .val (.int (25 : Int32))] [])) t_
      refine XS.aloadN X172.here hx rfl (hb hby at_418) rfl rfl ?_
      show Steps p.tables e below (T172.setTop (mkF m 419 #[.val (.int p1), .val (.ref b1), .val (.ref b104), .val (.int (25 : Int32))] [(.ref b1)])) t_
      refine XS.iloadN X172.here hx rfl (hb hby at_419) rfl ?_
      show Steps p.tables e below (T172.setTop (mkF m 420 #[.val (.int p1), .val (.ref b1), .val (.ref b104), .val (.int (25 : Int32))] [(.int (25 : Int32)), (.ref b1)])) t_
      refine X172.aaload hx (j := (25 : Int32)) (v := (.ref ad25)) (by rw [e172]; exact Ar276.1) (State.isArrayOf_alike hZ.alike Ar276.2.1) rfl Ar276.2.2 hin276 hat276 (g := (mkF m 420 #[.val (.int p1), .val (.ref b1), .val (.ref b104), .val (.int (25 : Int32))] [(.int (25 : Int32)), (.ref b1)])) rfl rfl (hb hby at_420) _ ?_
      exact k_
    exact own_sufad25 l Z a0 hw p1 ad0 ad1 ad2 ad3 ad4 ad5 ad6 ad7 ad8 ad9 ad10 ad11 ad12 ad13 ad14 ad15 ad16 ad17 ad18 ad19 ad20 ad21 ad22 ad23 ad24 ad25 ad26 ad27 ad28 ad29 ad30 ad31 ad32 ad33 b1 b104 k104 h0 n0 Z0 X172 hx hZ hby hml hown Bd.returns (BodyLoose.notSynchronized Bd) hh e172 N172 K172 O172 u77 u78 Y174 (Nat.le_trans Z0 (Nat.le_trans K103.1 (Nat.le_of_eq g104.symm))) (Nat.le_trans K103.1 (Nat.le_of_eq g104.symm))
  · rw [hm175]
    obtain ⟨cl280, Ar280, q280, S280, M280, H280, G280⟩ := id Y173
    have hin280 : ¬ ((26 : Int32) < 0 ∨ cl280.slots.size ≤ ((26 : Int32)).toNatClampNeg) := inb_of S280 ⟨by decide, by decide⟩
    have hat280 : cl280.slots[((26 : Int32)).toNatClampNeg]? = some (.ref ad26) := Has.at H280 hin280 rfl
    refine own_go (A := T172.setTop (mkF m 421 #[.val (.int p1), .val (.ref b1), .val (.ref b104), .val (.int (26 : Int32))] [(.ref ad26)])) (fun t_ k_ => ?_) ?_
    · show Steps p.tables e below (T172.setTop (mkF m 417 #[.val (.int p1), .val (.ref b1), .val (.ref b104), .unset] [(.int (26 : Int32))])) t_
      refine XS.istoreN X172.here hx rfl (hb hby at_417) rfl (l' := #[.val (.int p1), .val (.ref b1), .val (.ref b104), .val (.int (26 : Int32))]) rfl ?_
      show Steps p.tables e below (T172.setTop (mkF m 418 #[.val (.int p1), .val (.ref b1), .val (.ref b104), .val (.int (26 : Int32))] [])) t_
      refine XS.aloadN X172.here hx rfl (hb hby at_418) rfl rfl ?_
      show Steps p.tables e below (T172.setTop (mkF m 419 #[.val (.int p1), .val (.ref b1), .val (.ref b104), .val (.int (26 : Int32))] [(.ref b1)])) t_
      refine XS.iloadN X172.here hx rfl (hb hby at_419) rfl ?_
      show Steps p.tables e below (T172.setTop (mkF m 420 #[.val (.int p1), .val (.ref b1), .val (.ref b104), .val (.int (26 : Int32))] [(.int (26 : Int32)), (.ref b1)])) t_
      refine X172.aaload hx (j := (26 : Int32)) (v := (.ref ad26)) (by rw [e172]; exact Ar280.1) (State.isArrayOf_alike hZ.alike Ar280.2.1) rfl Ar280.2.2 hin280 hat280 (g := (mkF m 420 #[.val (.int p1), .val (.ref b1), .val (.ref b104), .val (.int (26 : Int32))] [(.int (26 : Int32)), (.ref b1)])) rfl rfl (hb hby at_420) _ ?_
      exact k_
    exact own_sufad26 l Z a0 hw p1 ad0 ad1 ad2 ad3 ad4 ad5 ad6 ad7 ad8 ad9 ad10 ad11 ad12 ad13 ad14 ad15 ad16 ad17 ad18 ad19 ad20 ad21 ad22 ad23 ad24 ad25 ad26 ad27 ad28 ad29 ad30 ad31 ad32 ad33 b1 b104 k104 h0 n0 Z0 X172 hx hZ hby hml hown Bd.returns (BodyLoose.notSynchronized Bd) hh e172 N172 K172 O172 u80 u81 Y174 (Nat.le_trans Z0 (Nat.le_trans K103.1 (Nat.le_of_eq g104.symm))) (Nat.le_trans K103.1 (Nat.le_of_eq g104.symm))
  · rw [hm175]
    obtain ⟨cl284, Ar284, q284, S284, M284, H284, G284⟩ := id Y173
    have hin284 : ¬ ((27 : Int32) < 0 ∨ cl284.slots.size ≤ ((27 : Int32)).toNatClampNeg) := inb_of S284 ⟨by decide, by decide⟩
    have hat284 : cl284.slots[((27 : Int32)).toNatClampNeg]? = some (.ref ad27) := Has.at H284 hin284 rfl
    refine own_go (A := T172.setTop (mkF m 421 #[.val (.int p1), .val (.ref b1), .val (.ref b104), .val (.int (27 : Int32))] [(.ref ad27)])) (fun t_ k_ => ?_) ?_
    · show Steps p.tables e below (T172.setTop (mkF m 417 #[.val (.int p1), .val (.ref b1), .val (.ref b104), .unset] [(.int (27 : Int32))])) t_
      refine XS.istoreN X172.here hx rfl (hb hby at_417) rfl (l' := #[.val (.int p1), .val (.ref b1), .val (.ref b104), .val (.int (27 : Int32))]) rfl ?_
      show Steps p.tables e below (T172.setTop (mkF m 418 #[.val (.int p1), .val (.ref b1), .val (.ref b104), .val (.int (27 : Int32))] [])) t_
      refine XS.aloadN X172.here hx rfl (hb hby at_418) rfl rfl ?_
      show Steps p.tables e below (T172.setTop (mkF m 419 #[.val (.int p1), .val (.ref b1), .val (.ref b104), .val (.int (27 : Int32))] [(.ref b1)])) t_
      refine XS.iloadN X172.here hx rfl (hb hby at_419) rfl ?_
      show Steps p.tables e below (T172.setTop (mkF m 420 #[.val (.int p1), .val (.ref b1), .val (.ref b104), .val (.int (27 : Int32))] [(.int (27 : Int32)), (.ref b1)])) t_
      refine X172.aaload hx (j := (27 : Int32)) (v := (.ref ad27)) (by rw [e172]; exact Ar284.1) (State.isArrayOf_alike hZ.alike Ar284.2.1) rfl Ar284.2.2 hin284 hat284 (g := (mkF m 420 #[.val (.int p1), .val (.ref b1), .val (.ref b104), .val (.int (27 : Int32))] [(.int (27 : Int32)), (.ref b1)])) rfl rfl (hb hby at_420) _ ?_
      exact k_
    exact own_sufad27 l Z a0 hw p1 ad0 ad1 ad2 ad3 ad4 ad5 ad6 ad7 ad8 ad9 ad10 ad11 ad12 ad13 ad14 ad15 ad16 ad17 ad18 ad19 ad20 ad21 ad22 ad23 ad24 ad25 ad26 ad27 ad28 ad29 ad30 ad31 ad32 ad33 b1 b104 k104 h0 n0 Z0 X172 hx hZ hby hml hown Bd.returns (BodyLoose.notSynchronized Bd) hh e172 N172 K172 O172 u83 u84 Y174 (Nat.le_trans Z0 (Nat.le_trans K103.1 (Nat.le_of_eq g104.symm))) (Nat.le_trans K103.1 (Nat.le_of_eq g104.symm))
  · rw [hm175]
    obtain ⟨cl288, Ar288, q288, S288, M288, H288, G288⟩ := id Y173
    have hin288 : ¬ ((28 : Int32) < 0 ∨ cl288.slots.size ≤ ((28 : Int32)).toNatClampNeg) := inb_of S288 ⟨by decide, by decide⟩
    have hat288 : cl288.slots[((28 : Int32)).toNatClampNeg]? = some (.ref ad28) := Has.at H288 hin288 rfl
    refine own_go (A := T172.setTop (mkF m 421 #[.val (.int p1), .val (.ref b1), .val (.ref b104), .val (.int (28 : Int32))] [(.ref ad28)])) (fun t_ k_ => ?_) ?_
    · show Steps p.tables e below (T172.setTop (mkF m 417 #[.val (.int p1), .val (.ref b1), .val (.ref b104), .unset] [(.int (28 : Int32))])) t_
      refine XS.istoreN X172.here hx rfl (hb hby at_417) rfl (l' := #[.val (.int p1), .val (.ref b1), .val (.ref b104), .val (.int (28 : Int32))]) rfl ?_
      show Steps p.tables e below (T172.setTop (mkF m 418 #[.val (.int p1), .val (.ref b1), .val (.ref b104), .val (.int (28 : Int32))] [])) t_
      refine XS.aloadN X172.here hx rfl (hb hby at_418) rfl rfl ?_
      show Steps p.tables e below (T172.setTop (mkF m 419 #[.val (.int p1), .val (.ref b1), .val (.ref b104), .val (.int (28 : Int32))] [(.ref b1)])) t_
      refine XS.iloadN X172.here hx rfl (hb hby at_419) rfl ?_
      show Steps p.tables e below (T172.setTop (mkF m 420 #[.val (.int p1), .val (.ref b1), .val (.ref b104), .val (.int (28 : Int32))] [(.int (28 : Int32)), (.ref b1)])) t_
      refine X172.aaload hx (j := (28 : Int32)) (v := (.ref ad28)) (by rw [e172]; exact Ar288.1) (State.isArrayOf_alike hZ.alike Ar288.2.1) rfl Ar288.2.2 hin288 hat288 (g := (mkF m 420 #[.val (.int p1), .val (.ref b1), .val (.ref b104), .val (.int (28 : Int32))] [(.int (28 : Int32)), (.ref b1)])) rfl rfl (hb hby at_420) _ ?_
      exact k_
    exact own_sufad28 l Z a0 hw p1 ad0 ad1 ad2 ad3 ad4 ad5 ad6 ad7 ad8 ad9 ad10 ad11 ad12 ad13 ad14 ad15 ad16 ad17 ad18 ad19 ad20 ad21 ad22 ad23 ad24 ad25 ad26 ad27 ad28 ad29 ad30 ad31 ad32 ad33 b1 b104 k104 h0 n0 Z0 X172 hx hZ hby hml hown Bd.returns (BodyLoose.notSynchronized Bd) hh e172 N172 K172 O172 u86 u87 Y174 (Nat.le_trans Z0 (Nat.le_trans K103.1 (Nat.le_of_eq g104.symm))) (Nat.le_trans K103.1 (Nat.le_of_eq g104.symm))
  · rw [hm175]
    obtain ⟨cl292, Ar292, q292, S292, M292, H292, G292⟩ := id Y173
    have hin292 : ¬ ((29 : Int32) < 0 ∨ cl292.slots.size ≤ ((29 : Int32)).toNatClampNeg) := inb_of S292 ⟨by decide, by decide⟩
    have hat292 : cl292.slots[((29 : Int32)).toNatClampNeg]? = some (.ref ad29) := Has.at H292 hin292 rfl
    refine own_go (A := T172.setTop (mkF m 421 #[.val (.int p1), .val (.ref b1), .val (.ref b104), .val (.int (29 : Int32))] [(.ref ad29)])) (fun t_ k_ => ?_) ?_
    · show Steps p.tables e below (T172.setTop (mkF m 417 #[.val (.int p1), .val (.ref b1), .val (.ref b104), .unset] [(.int (29 : Int32))])) t_
      refine XS.istoreN X172.here hx rfl (hb hby at_417) rfl (l' := #[.val (.int p1), .val (.ref b1), .val (.ref b104), .val (.int (29 : Int32))]) rfl ?_
      show Steps p.tables e below (T172.setTop (mkF m 418 #[.val (.int p1), .val (.ref b1), .val (.ref b104), .val (.int (29 : Int32))] [])) t_
      refine XS.aloadN X172.here hx rfl (hb hby at_418) rfl rfl ?_
      show Steps p.tables e below (T172.setTop (mkF m 419 #[.val (.int p1), .val (.ref b1), .val (.ref b104), .val (.int (29 : Int32))] [(.ref b1)])) t_
      refine XS.iloadN X172.here hx rfl (hb hby at_419) rfl ?_
      show Steps p.tables e below (T172.setTop (mkF m 420 #[.val (.int p1), .val (.ref b1), .val (.ref b104), .val (.int (29 : Int32))] [(.int (29 : Int32)), (.ref b1)])) t_
      refine X172.aaload hx (j := (29 : Int32)) (v := (.ref ad29)) (by rw [e172]; exact Ar292.1) (State.isArrayOf_alike hZ.alike Ar292.2.1) rfl Ar292.2.2 hin292 hat292 (g := (mkF m 420 #[.val (.int p1), .val (.ref b1), .val (.ref b104), .val (.int (29 : Int32))] [(.int (29 : Int32)), (.ref b1)])) rfl rfl (hb hby at_420) _ ?_
      exact k_
    exact own_sufad29 l Z a0 hw p1 ad0 ad1 ad2 ad3 ad4 ad5 ad6 ad7 ad8 ad9 ad10 ad11 ad12 ad13 ad14 ad15 ad16 ad17 ad18 ad19 ad20 ad21 ad22 ad23 ad24 ad25 ad26 ad27 ad28 ad29 ad30 ad31 ad32 ad33 b1 b104 k104 h0 n0 Z0 X172 hx hZ hby hml hown Bd.returns (BodyLoose.notSynchronized Bd) hh e172 N172 K172 O172 u89 u90 Y174 (Nat.le_trans Z0 (Nat.le_trans K103.1 (Nat.le_of_eq g104.symm))) (Nat.le_trans K103.1 (Nat.le_of_eq g104.symm))
  · rw [hm175]
    obtain ⟨cl296, Ar296, q296, S296, M296, H296, G296⟩ := id Y173
    have hin296 : ¬ ((30 : Int32) < 0 ∨ cl296.slots.size ≤ ((30 : Int32)).toNatClampNeg) := inb_of S296 ⟨by decide, by decide⟩
    have hat296 : cl296.slots[((30 : Int32)).toNatClampNeg]? = some (.ref ad30) := Has.at H296 hin296 rfl
    refine own_go (A := T172.setTop (mkF m 421 #[.val (.int p1), .val (.ref b1), .val (.ref b104), .val (.int (30 : Int32))] [(.ref ad30)])) (fun t_ k_ => ?_) ?_
    · show Steps p.tables e below (T172.setTop (mkF m 417 #[.val (.int p1), .val (.ref b1), .val (.ref b104), .unset] [(.int (30 : Int32))])) t_
      refine XS.istoreN X172.here hx rfl (hb hby at_417) rfl (l' := #[.val (.int p1), .val (.ref b1), .val (.ref b104), .val (.int (30 : Int32))]) rfl ?_
      show Steps p.tables e below (T172.setTop (mkF m 418 #[.val (.int p1), .val (.ref b1), .val (.ref b104), .val (.int (30 : Int32))] [])) t_
      refine XS.aloadN X172.here hx rfl (hb hby at_418) rfl rfl ?_
      show Steps p.tables e below (T172.setTop (mkF m 419 #[.val (.int p1), .val (.ref b1), .val (.ref b104), .val (.int (30 : Int32))] [(.ref b1)])) t_
      refine XS.iloadN X172.here hx rfl (hb hby at_419) rfl ?_
      show Steps p.tables e below (T172.setTop (mkF m 420 #[.val (.int p1), .val (.ref b1), .val (.ref b104), .val (.int (30 : Int32))] [(.int (30 : Int32)), (.ref b1)])) t_
      refine X172.aaload hx (j := (30 : Int32)) (v := (.ref ad30)) (by rw [e172]; exact Ar296.1) (State.isArrayOf_alike hZ.alike Ar296.2.1) rfl Ar296.2.2 hin296 hat296 (g := (mkF m 420 #[.val (.int p1), .val (.ref b1), .val (.ref b104), .val (.int (30 : Int32))] [(.int (30 : Int32)), (.ref b1)])) rfl rfl (hb hby at_420) _ ?_
      exact k_
    exact own_sufad30 l Z a0 hw p1 ad0 ad1 ad2 ad3 ad4 ad5 ad6 ad7 ad8 ad9 ad10 ad11 ad12 ad13 ad14 ad15 ad16 ad17 ad18 ad19 ad20 ad21 ad22 ad23 ad24 ad25 ad26 ad27 ad28 ad29 ad30 ad31 ad32 ad33 b1 b104 k104 h0 n0 Z0 X172 hx hZ hby hml hown Bd.returns (BodyLoose.notSynchronized Bd) hh e172 N172 K172 O172 u92 u93 Y174 (Nat.le_trans Z0 (Nat.le_trans K103.1 (Nat.le_of_eq g104.symm))) (Nat.le_trans K103.1 (Nat.le_of_eq g104.symm))
  · rw [hm175]
    obtain ⟨cl300, Ar300, q300, S300, M300, H300, G300⟩ := id Y173
    have hin300 : ¬ ((31 : Int32) < 0 ∨ cl300.slots.size ≤ ((31 : Int32)).toNatClampNeg) := inb_of S300 ⟨by decide, by decide⟩
    have hat300 : cl300.slots[((31 : Int32)).toNatClampNeg]? = some (.ref ad31) := Has.at H300 hin300 rfl
    refine own_go (A := T172.setTop (mkF m 421 #[.val (.int p1), .val (.ref b1), .val (.ref b104), .val (.int (31 : Int32))] [(.ref ad31)])) (fun t_ k_ => ?_) ?_
    · show Steps p.tables e below (T172.setTop (mkF m 417 #[.val (.int p1), .val (.ref b1), .val (.ref b104), .unset] [(.int (31 : Int32))])) t_
      refine XS.istoreN X172.here hx rfl (hb hby at_417) rfl (l' := #[.val (.int p1), .val (.ref b1), .val (.ref b104), .val (.int (31 : Int32))]) rfl ?_
      show Steps p.tables e below (T172.setTop (mkF m 418 #[.val (.int p1), .val (.ref b1), .val (.ref b104), .val (.int (31 : Int32))] [])) t_
      refine XS.aloadN X172.here hx rfl (hb hby at_418) rfl rfl ?_
      show Steps p.tables e below (T172.setTop (mkF m 419 #[.val (.int p1), .val (.ref b1), .val (.ref b104), .val (.int (31 : Int32))] [(.ref b1)])) t_
      refine XS.iloadN X172.here hx rfl (hb hby at_419) rfl ?_
      show Steps p.tables e below (T172.setTop (mkF m 420 #[.val (.int p1), .val (.ref b1), .val (.ref b104), .val (.int (31 : Int32))] [(.int (31 : Int32)), (.ref b1)])) t_
      refine X172.aaload hx (j := (31 : Int32)) (v := (.ref ad31)) (by rw [e172]; exact Ar300.1) (State.isArrayOf_alike hZ.alike Ar300.2.1) rfl Ar300.2.2 hin300 hat300 (g := (mkF m 420 #[.val (.int p1), .val (.ref b1), .val (.ref b104), .val (.int (31 : Int32))] [(.int (31 : Int32)), (.ref b1)])) rfl rfl (hb hby at_420) _ ?_
      exact k_
    exact own_sufad31 l Z a0 hw p1 ad0 ad1 ad2 ad3 ad4 ad5 ad6 ad7 ad8 ad9 ad10 ad11 ad12 ad13 ad14 ad15 ad16 ad17 ad18 ad19 ad20 ad21 ad22 ad23 ad24 ad25 ad26 ad27 ad28 ad29 ad30 ad31 ad32 ad33 b1 b104 k104 h0 n0 Z0 X172 hx hZ hby hml hown Bd.returns (BodyLoose.notSynchronized Bd) hh e172 N172 K172 O172 u95 u96 Y174 (Nat.le_trans Z0 (Nat.le_trans K103.1 (Nat.le_of_eq g104.symm))) (Nat.le_trans K103.1 (Nat.le_of_eq g104.symm))
  · rw [hm175]
    obtain ⟨cl304, Ar304, q304, S304, M304, H304, G304⟩ := id Y173
    have hin304 : ¬ ((32 : Int32) < 0 ∨ cl304.slots.size ≤ ((32 : Int32)).toNatClampNeg) := inb_of S304 ⟨by decide, by decide⟩
    have hat304 : cl304.slots[((32 : Int32)).toNatClampNeg]? = some (.ref ad32) := Has.at H304 hin304 rfl
    refine own_go (A := T172.setTop (mkF m 421 #[.val (.int p1), .val (.ref b1), .val (.ref b104), .val (.int (32 : Int32))] [(.ref ad32)])) (fun t_ k_ => ?_) ?_
    · show Steps p.tables e below (T172.setTop (mkF m 417 #[.val (.int p1), .val (.ref b1), .val (.ref b104), .unset] [(.int (32 : Int32))])) t_
      refine XS.istoreN X172.here hx rfl (hb hby at_417) rfl (l' := #[.val (.int p1), .val (.ref b1), .val (.ref b104), .val (.int (32 : Int32))]) rfl ?_
      show Steps p.tables e below (T172.setTop (mkF m 418 #[.val (.int p1), .val (.ref b1), .val (.ref b104), .val (.int (32 : Int32))] [])) t_
      refine XS.aloadN X172.here hx rfl (hb hby at_418) rfl rfl ?_
      show Steps p.tables e below (T172.setTop (mkF m 419 #[.val (.int p1), .val (.ref b1), .val (.ref b104), .val (.int (32 : Int32))] [(.ref b1)])) t_
      refine XS.iloadN X172.here hx rfl (hb hby at_419) rfl ?_
      show Steps p.tables e below (T172.setTop (mkF m 420 #[.val (.int p1), .val (.ref b1), .val (.ref b104), .val (.int (32 : Int32))] [(.int (32 : Int32)), (.ref b1)])) t_
      refine X172.aaload hx (j := (32 : Int32)) (v := (.ref ad32)) (by rw [e172]; exact Ar304.1) (State.isArrayOf_alike hZ.alike Ar304.2.1) rfl Ar304.2.2 hin304 hat304 (g := (mkF m 420 #[.val (.int p1), .val (.ref b1), .val (.ref b104), .val (.int (32 : Int32))] [(.int (32 : Int32)), (.ref b1)])) rfl rfl (hb hby at_420) _ ?_
      exact k_
    exact own_sufad32 l Z a0 hw p1 ad0 ad1 ad2 ad3 ad4 ad5 ad6 ad7 ad8 ad9 ad10 ad11 ad12 ad13 ad14 ad15 ad16 ad17 ad18 ad19 ad20 ad21 ad22 ad23 ad24 ad25 ad26 ad27 ad28 ad29 ad30 ad31 ad32 ad33 b1 b104 k104 h0 n0 Z0 X172 hx hZ hby hml hown Bd.returns (BodyLoose.notSynchronized Bd) hh e172 N172 K172 O172 u98 u99 Y174 (Nat.le_trans Z0 (Nat.le_trans K103.1 (Nat.le_of_eq g104.symm))) (Nat.le_trans K103.1 (Nat.le_of_eq g104.symm))
  · rw [hm175]
    obtain ⟨cl308, Ar308, q308, S308, M308, H308, G308⟩ := id Y173
    have hin308 : ¬ ((33 : Int32) < 0 ∨ cl308.slots.size ≤ ((33 : Int32)).toNatClampNeg) := inb_of S308 ⟨by decide, by decide⟩
    have hat308 : cl308.slots[((33 : Int32)).toNatClampNeg]? = some (.ref ad33) := Has.at H308 hin308 rfl
    refine own_go (A := T172.setTop (mkF m 421 #[.val (.int p1), .val (.ref b1), .val (.ref b104), .val (.int (33 : Int32))] [(.ref ad33)])) (fun t_ k_ => ?_) ?_
    · show Steps p.tables e below (T172.setTop (mkF m 417 #[.val (.int p1), .val (.ref b1), .val (.ref b104), .unset] [(.int (33 : Int32))])) t_
      refine XS.istoreN X172.here hx rfl (hb hby at_417) rfl (l' := #[.val (.int p1), .val (.ref b1), .val (.ref b104), .val (.int (33 : Int32))]) rfl ?_
      show Steps p.tables e below (T172.setTop (mkF m 418 #[.val (.int p1), .val (.ref b1), .val (.ref b104), .val (.int (33 : Int32))] [])) t_
      refine XS.aloadN X172.here hx rfl (hb hby at_418) rfl rfl ?_
      show Steps p.tables e below (T172.setTop (mkF m 419 #[.val (.int p1), .val (.ref b1), .val (.ref b104), .val (.int (33 : Int32))] [(.ref b1)])) t_
      refine XS.iloadN X172.here hx rfl (hb hby at_419) rfl ?_
      show Steps p.tables e below (T172.setTop (mkF m 420 #[.val (.int p1), .val (.ref b1), .val (.ref b104), .val (.int (33 : Int32))] [(.int (33 : Int32)), (.ref b1)])) t_
      refine X172.aaload hx (j := (33 : Int32)) (v := (.ref ad33)) (by rw [e172]; exact Ar308.1) (State.isArrayOf_alike hZ.alike Ar308.2.1) rfl Ar308.2.2 hin308 hat308 (g := (mkF m 420 #[.val (.int p1), .val (.ref b1), .val (.ref b104), .val (.int (33 : Int32))] [(.int (33 : Int32)), (.ref b1)])) rfl rfl (hb hby at_420) _ ?_
      exact k_
    exact own_sufad33 l Z a0 hw p1 ad0 ad1 ad2 ad3 ad4 ad5 ad6 ad7 ad8 ad9 ad10 ad11 ad12 ad13 ad14 ad15 ad16 ad17 ad18 ad19 ad20 ad21 ad22 ad23 ad24 ad25 ad26 ad27 ad28 ad29 ad30 ad31 ad32 ad33 b1 b104 k104 h0 n0 Z0 X172 hx hZ hby hml hown Bd.returns (BodyLoose.notSynchronized Bd) hh e172 N172 K172 O172 u101 u102 Y174 (Nat.le_trans Z0 (Nat.le_trans K103.1 (Nat.le_of_eq g104.symm))) (Nat.le_trans K103.1 (Nat.le_of_eq g104.symm))
set_option maxRecDepth 65536 in
set_option maxHeartbeats 40000000 in
theorem comes_1 {Post : Tables → Env → Array Value → State → Outcome → State → Prop} (hpost : ∀ tb e args s v u, (limb_1_1.after args s (.returned v) u = true ∧ limb_1_2.after args s (.returned v) u = true ∧ True) → FrameEnd s (.returned v) u (Jvm.fieldLocs frame_1_writes args s ++ Jvm.arrayLocs frame_1_arrays args s ++ Jvm.staticLocs frame_1_statics s) 16 256 → Post tb e args s (.returned v) u) :
    ArmFor flags0 classFile x code maxLocals ret World_1 tables_1 room_1 Calls_1 rest_1 Pre_1 Post := by
  intro l hfl _ _ p e ha hc hk s m args below hf hA hF happ hP
  obtain ⟨hcalls, hrest, hpre⟩ := hP
  obtain ⟨-, -, -, hnamed, -, -, -, hat⟩ := (Spec.applies_iff hf).mp happ
  obtain ⟨hg, hn⟩ := and_e (Cond.before_iff.mp (show (Jvm.Cond.and given_1 narrow_1).before args s = true from hpre))
  obtain ⟨hg_0, hg_1⟩ := and_e hg
  obtain ⟨w0, rfl⟩ : ∃ w0 : Value, args = #[w0] := by
    have hs : args.size = 1 := by simpa [Cond.value, given_1] using hg_0
    obtain ⟨L⟩ := args
    match L, hs with
    | [w0], _ => exact ⟨w0, rfl⟩
  have hw := fun d (hd : d ∈ tables_1) => atoms_spec (ws := Jvm.Cond.code x code maxLocals ret :: tables_1) hat d (List.mem_cons_of_mem _ hd)
  have hfit : Fit s := fun {y c} hc i hi => by
    obtain ⟨ha, rfl⟩ := Array.getElem?_eq_some_iff.mp hc
    have q := List.all_eq_true.mp ((Array.all_eq_true_iff_forall_mem.mp hF) _ (Array.getElem_mem ha)) i (List.mem_range.mpr hi)
    simpa [Array.getElem?_eq_getElem hi] using q
  obtain ⟨i0, ei0⟩ := is_v hg_1
  obtain rfl : w0 = (.int i0) := Option.some.inj ei0
  obtain ⟨hn_0, hn_1⟩ := and_e hn
  obtain ⟨hn_2, hn_3⟩ := and_e hn_1
  obtain ⟨hn_4, hn_5⟩ := and_e hn_3
  obtain ⟨hn_6, hn_7⟩ := and_e hn_5
  obtain ⟨hn_8, hn_9⟩ := and_e hn_7
  obtain ⟨hn_10, hn_11⟩ := and_e hn_9
  obtain ⟨hn_12, hn_13⟩ := and_e hn_11
  obtain ⟨hn_14, hn_15⟩ := and_e hn_13
  obtain ⟨hn_16, hn_17⟩ := and_e hn_15
  obtain ⟨hn_18, hn_19⟩ := and_e hn_17
  obtain ⟨hn_20, hn_21⟩ := and_e hn_19
  obtain ⟨hn_22, hn_23⟩ := and_e hn_21
  obtain ⟨hn_24, hn_25⟩ := and_e hn_23
  obtain ⟨hn_26, hn_27⟩ := and_e hn_25
  obtain ⟨hn_28, hn_29⟩ := and_e hn_27
  obtain ⟨hn_30, hn_31⟩ := and_e hn_29
  obtain ⟨hn_32, hn_33⟩ := and_e hn_31
  obtain ⟨hn_34, hn_35⟩ := and_e hn_33
  obtain ⟨hn_36, hn_37⟩ := and_e hn_35
  obtain ⟨hn_38, hn_39⟩ := and_e hn_37
  obtain ⟨hn_40, hn_41⟩ := and_e hn_39
  obtain ⟨hn_42, hn_43⟩ := and_e hn_41
  obtain ⟨hn_44, hn_45⟩ := and_e hn_43
  obtain ⟨hn_46, hn_47⟩ := and_e hn_45
  obtain ⟨hn_48, hn_49⟩ := and_e hn_47
  obtain ⟨hn_50, hn_51⟩ := and_e hn_49
  obtain ⟨hn_52, hn_53⟩ := and_e hn_51
  obtain ⟨hn_54, hn_55⟩ := and_e hn_53
  obtain ⟨hn_56, hn_57⟩ := and_e hn_55
  obtain ⟨hn_58, hn_59⟩ := and_e hn_57
  obtain ⟨hn_60, hn_61⟩ := and_e hn_59
  obtain ⟨hn_62, hn_63⟩ := and_e hn_61
  obtain ⟨hn_64, hn_65⟩ := and_e hn_63
  obtain ⟨hn_66, hn_67⟩ := and_e hn_65
  obtain ⟨hn_68, hn_69⟩ := and_e hn_67
  obtain ⟨hn_70, hn_71⟩ := and_e hn_69
  obtain ⟨hn_72, hn_73⟩ := and_e hn_71
  obtain ⟨hn_74, hn_75⟩ := and_e hn_73
  obtain ⟨hn_76, hn_77⟩ := and_e hn_75
  obtain ⟨hn_78, hn_79⟩ := and_e hn_77
  obtain ⟨hn_80, hn_81⟩ := and_e hn_79
  obtain ⟨hn_82, hn_83⟩ := and_e hn_81
  obtain ⟨hn_84, hn_85⟩ := and_e hn_83
  obtain ⟨hn_86, hn_87⟩ := and_e hn_85
  obtain ⟨hn_88, hn_89⟩ := and_e hn_87
  obtain ⟨hn_90, hn_91⟩ := and_e hn_89
  obtain ⟨hn_92, hn_93⟩ := and_e hn_91
  obtain ⟨hn_94, hn_95⟩ := and_e hn_93
  obtain ⟨hn_96, hn_97⟩ := and_e hn_95
  obtain ⟨hn_98, hn_99⟩ := and_e hn_97
  obtain ⟨hn_100, hn_101⟩ := and_e hn_99
  obtain ⟨hn_102, hn_103⟩ := and_e hn_101
  obtain ⟨hn_104, hn_105⟩ := and_e hn_103
  obtain ⟨hn_106, hn_107⟩ := and_e hn_105
  obtain ⟨hn_108, hn_109⟩ := and_e hn_107
  obtain ⟨hn_110, hn_111⟩ := and_e hn_109
  obtain ⟨hn_112, hn_113⟩ := and_e hn_111
  obtain ⟨hn_114, hn_115⟩ := and_e hn_113
  obtain ⟨hn_116, hn_117⟩ := and_e hn_115
  obtain ⟨hn_118, hn_119⟩ := and_e hn_117
  obtain ⟨hn_120, hn_121⟩ := and_e hn_119
  obtain ⟨hn_122, hn_123⟩ := and_e hn_121
  obtain ⟨hn_124, hn_125⟩ := and_e hn_123
  obtain ⟨hn_126, hn_127⟩ := and_e hn_125
  obtain ⟨hn_128, hn_129⟩ := and_e hn_127
  obtain ⟨hn_130, hn_131⟩ := and_e hn_129
  obtain ⟨hn_132, hn_133⟩ := and_e hn_131
  obtain ⟨a_AE, eva_AE⟩ := exa_v hn_0
  have Sa_AE : Sta s s.heap "com/example/querent/querent/dicom/Vr" "AE" "Lcom/example/querent/querent/dicom/Vr;" (.ref a_AE) := Sta.start eva_AE (Or.inr ⟨(own_w hw 3 rfl), (own_w hw 4 rfl)⟩)
  have Ea_AE : Exa s s.heap a_AE "com/example/querent/querent/dicom/Vr" := Exa.start eva_AE hn_0
  obtain ⟨a_AS, eva_AS⟩ := exa_v hn_2
  have Sa_AS : Sta s s.heap "com/example/querent/querent/dicom/Vr" "AS" "Lcom/example/querent/querent/dicom/Vr;" (.ref a_AS) := Sta.start eva_AS (Or.inr ⟨(own_w hw 3 rfl), (own_w hw 7 rfl)⟩)
  have Ea_AS : Exa s s.heap a_AS "com/example/querent/querent/dicom/Vr" := Exa.start eva_AS hn_2
  obtain ⟨a_AT, eva_AT⟩ := exa_v hn_4
  have Sa_AT : Sta s s.heap "com/example/querent/querent/dicom/Vr" "AT" "Lcom/example/querent/querent/dicom/Vr;" (.ref a_AT) := Sta.start eva_AT (Or.inr ⟨(own_w hw 3 rfl), (own_w hw 9 rfl)⟩)
  have Ea_AT : Exa s s.heap a_AT "com/example/querent/querent/dicom/Vr" := Exa.start eva_AT hn_4
  obtain ⟨a_CS, eva_CS⟩ := exa_v hn_6
  have Sa_CS : Sta s s.heap "com/example/querent/querent/dicom/Vr" "CS" "Lcom/example/querent/querent/dicom/Vr;" (.ref a_CS) := Sta.start eva_CS (Or.inr ⟨(own_w hw 3 rfl), (own_w hw 11 rfl)⟩)
  have Ea_CS : Exa s s.heap a_CS "com/example/querent/querent/dicom/Vr" := Exa.start eva_CS hn_6
  obtain ⟨a_DA, eva_DA⟩ := exa_v hn_8
  have Sa_DA : Sta s s.heap "com/example/querent/querent/dicom/Vr" "DA" "Lcom/example/querent/querent/dicom/Vr;" (.ref a_DA) := Sta.start eva_DA (Or.inr ⟨(own_w hw 3 rfl), (own_w hw 13 rfl)⟩)
  have Ea_DA : Exa s s.heap a_DA "com/example/querent/querent/dicom/Vr" := Exa.start eva_DA hn_8
  obtain ⟨a_DS, eva_DS⟩ := exa_v hn_10
  have Sa_DS : Sta s s.heap "com/example/querent/querent/dicom/Vr" "DS" "Lcom/example/querent/querent/dicom/Vr;" (.ref a_DS) := Sta.start eva_DS (Or.inr ⟨(own_w hw 3 rfl), (own_w hw 15 rfl)⟩)
  have Ea_DS : Exa s s.heap a_DS "com/example/querent/querent/dicom/Vr" := Exa.start eva_DS hn_10
  obtain ⟨a_DT, eva_DT⟩ := exa_v hn_12
  have Sa_DT : Sta s s.heap "com/example/querent/querent/dicom/Vr" "DT" "Lcom/example/querent/querent/dicom/Vr;" (.ref a_DT) := Sta.start eva_DT (Or.inr ⟨(own_w hw 3 rfl), (own_w hw 17 rfl)⟩)
  have Ea_DT : Exa s s.heap a_DT "com/example/querent/querent/dicom/Vr" := Exa.start eva_DT hn_12
  obtain ⟨a_FD, eva_FD⟩ := exa_v hn_14
  have Sa_FD : Sta s s.heap "com/example/querent/querent/dicom/Vr" "FD" "Lcom/example/querent/querent/dicom/Vr;" (.ref a_FD) := Sta.start eva_FD (Or.inr ⟨(own_w hw 3 rfl), (own_w hw 19 rfl)⟩)
  have Ea_FD : Exa s s.heap a_FD "com/example/querent/querent/dicom/Vr" := Exa.start eva_FD hn_14
  obtain ⟨a_FL, eva_FL⟩ := exa_v hn_16
  have Sa_FL : Sta s s.heap "com/example/querent/querent/dicom/Vr" "FL" "Lcom/example/querent/querent/dicom/Vr;" (.ref a_FL) := Sta.start eva_FL (Or.inr ⟨(own_w hw 3 rfl), (own_w hw 21 rfl)⟩)
  have Ea_FL : Exa s s.heap a_FL "com/example/querent/querent/dicom/Vr" := Exa.start eva_FL hn_16
  obtain ⟨a_IS, eva_IS⟩ := exa_v hn_18
  have Sa_IS : Sta s s.heap "com/example/querent/querent/dicom/Vr" "IS" "Lcom/example/querent/querent/dicom/Vr;" (.ref a_IS) := Sta.start eva_IS (Or.inr ⟨(own_w hw 3 rfl), (own_w hw 23 rfl)⟩)
  have Ea_IS : Exa s s.heap a_IS "com/example/querent/querent/dicom/Vr" := Exa.start eva_IS hn_18
  obtain ⟨a_LO, eva_LO⟩ := exa_v hn_20
  have Sa_LO : Sta s s.heap "com/example/querent/querent/dicom/Vr" "LO" "Lcom/example/querent/querent/dicom/Vr;" (.ref a_LO) := Sta.start eva_LO (Or.inr ⟨(own_w hw 3 rfl), (own_w hw 25 rfl)⟩)
  have Ea_LO : Exa s s.heap a_LO "com/example/querent/querent/dicom/Vr" := Exa.start eva_LO hn_20
  obtain ⟨a_LT, eva_LT⟩ := exa_v hn_22
  have Sa_LT : Sta s s.heap "com/example/querent/querent/dicom/Vr" "LT" "Lcom/example/querent/querent/dicom/Vr;" (.ref a_LT) := Sta.start eva_LT (Or.inr ⟨(own_w hw 3 rfl), (own_w hw 27 rfl)⟩)
  have Ea_LT : Exa s s.heap a_LT "com/example/querent/querent/dicom/Vr" := Exa.start eva_LT hn_22
  obtain ⟨a_OB, eva_OB⟩ := exa_v hn_24
  have Sa_OB : Sta s s.heap "com/example/querent/querent/dicom/Vr" "OB" "Lcom/example/querent/querent/dicom/Vr;" (.ref a_OB) := Sta.start eva_OB (Or.inr ⟨(own_w hw 3 rfl), (own_w hw 29 rfl)⟩)
  have Ea_OB : Exa s s.heap a_OB "com/example/querent/querent/dicom/Vr" := Exa.start eva_OB hn_24
  obtain ⟨a_OD, eva_OD⟩ := exa_v hn_26
  have Sa_OD : Sta s s.heap "com/example/querent/querent/dicom/Vr" "OD" "Lcom/example/querent/querent/dicom/Vr;" (.ref a_OD) := Sta.start eva_OD (Or.inr ⟨(own_w hw 3 rfl), (own_w hw 31 rfl)⟩)
  have Ea_OD : Exa s s.heap a_OD "com/example/querent/querent/dicom/Vr" := Exa.start eva_OD hn_26
  obtain ⟨a_OF, eva_OF⟩ := exa_v hn_28
  have Sa_OF : Sta s s.heap "com/example/querent/querent/dicom/Vr" "OF" "Lcom/example/querent/querent/dicom/Vr;" (.ref a_OF) := Sta.start eva_OF (Or.inr ⟨(own_w hw 3 rfl), (own_w hw 33 rfl)⟩)
  have Ea_OF : Exa s s.heap a_OF "com/example/querent/querent/dicom/Vr" := Exa.start eva_OF hn_28
  obtain ⟨a_OL, eva_OL⟩ := exa_v hn_30
  have Sa_OL : Sta s s.heap "com/example/querent/querent/dicom/Vr" "OL" "Lcom/example/querent/querent/dicom/Vr;" (.ref a_OL) := Sta.start eva_OL (Or.inr ⟨(own_w hw 3 rfl), (own_w hw 35 rfl)⟩)
  have Ea_OL : Exa s s.heap a_OL "com/example/querent/querent/dicom/Vr" := Exa.start eva_OL hn_30
  obtain ⟨a_OV, eva_OV⟩ := exa_v hn_32
  have Sa_OV : Sta s s.heap "com/example/querent/querent/dicom/Vr" "OV" "Lcom/example/querent/querent/dicom/Vr;" (.ref a_OV) := Sta.start eva_OV (Or.inr ⟨(own_w hw 3 rfl), (own_w hw 37 rfl)⟩)
  have Ea_OV : Exa s s.heap a_OV "com/example/querent/querent/dicom/Vr" := Exa.start eva_OV hn_32
  obtain ⟨a_OW, eva_OW⟩ := exa_v hn_34
  have Sa_OW : Sta s s.heap "com/example/querent/querent/dicom/Vr" "OW" "Lcom/example/querent/querent/dicom/Vr;" (.ref a_OW) := Sta.start eva_OW (Or.inr ⟨(own_w hw 3 rfl), (own_w hw 39 rfl)⟩)
  have Ea_OW : Exa s s.heap a_OW "com/example/querent/querent/dicom/Vr" := Exa.start eva_OW hn_34
  obtain ⟨a_PN, eva_PN⟩ := exa_v hn_36
  have Sa_PN : Sta s s.heap "com/example/querent/querent/dicom/Vr" "PN" "Lcom/example/querent/querent/dicom/Vr;" (.ref a_PN) := Sta.start eva_PN (Or.inr ⟨(own_w hw 3 rfl), (own_w hw 41 rfl)⟩)
  have Ea_PN : Exa s s.heap a_PN "com/example/querent/querent/dicom/Vr" := Exa.start eva_PN hn_36
  obtain ⟨a_SH, eva_SH⟩ := exa_v hn_38
  have Sa_SH : Sta s s.heap "com/example/querent/querent/dicom/Vr" "SH" "Lcom/example/querent/querent/dicom/Vr;" (.ref a_SH) := Sta.start eva_SH (Or.inr ⟨(own_w hw 3 rfl), (own_w hw 43 rfl)⟩)
  have Ea_SH : Exa s s.heap a_SH "com/example/querent/querent/dicom/Vr" := Exa.start eva_SH hn_38
  obtain ⟨a_SL, eva_SL⟩ := exa_v hn_40
  have Sa_SL : Sta s s.heap "com/example/querent/querent/dicom/Vr" "SL" "Lcom/example/querent/querent/dicom/Vr;" (.ref a_SL) := Sta.start eva_SL (Or.inr ⟨(own_w hw 3 rfl), (own_w hw 45 rfl)⟩)
  have Ea_SL : Exa s s.heap a_SL "com/example/querent/querent/dicom/Vr" := Exa.start eva_SL hn_40
  obtain ⟨a_SQ, eva_SQ⟩ := exa_v hn_42
  have Sa_SQ : Sta s s.heap "com/example/querent/querent/dicom/Vr" "SQ" "Lcom/example/querent/querent/dicom/Vr;" (.ref a_SQ) := Sta.start eva_SQ (Or.inr ⟨(own_w hw 3 rfl), (own_w hw 47 rfl)⟩)
  have Ea_SQ : Exa s s.heap a_SQ "com/example/querent/querent/dicom/Vr" := Exa.start eva_SQ hn_42
  obtain ⟨a_SS, eva_SS⟩ := exa_v hn_44
  have Sa_SS : Sta s s.heap "com/example/querent/querent/dicom/Vr" "SS" "Lcom/example/querent/querent/dicom/Vr;" (.ref a_SS) := Sta.start eva_SS (Or.inr ⟨(own_w hw 3 rfl), (own_w hw 49 rfl)⟩)
  have Ea_SS : Exa s s.heap a_SS "com/example/querent/querent/dicom/Vr" := Exa.start eva_SS hn_44
  obtain ⟨a_ST, eva_ST⟩ := exa_v hn_46
  have Sa_ST : Sta s s.heap "com/example/querent/querent/dicom/Vr" "ST" "Lcom/example/querent/querent/dicom/Vr;" (.ref a_ST) := Sta.start eva_ST (Or.inr ⟨(own_w hw 3 rfl), (own_w hw 51 rfl)⟩)
  have Ea_ST : Exa s s.heap a_ST "com/example/querent/querent/dicom/Vr" := Exa.start eva_ST hn_46
  obtain ⟨a_SV, eva_SV⟩ := exa_v hn_48
  have Sa_SV : Sta s s.heap "com/example/querent/querent/dicom/Vr" "SV" "Lcom/example/querent/querent/dicom/Vr;" (.ref a_SV) := Sta.start eva_SV (Or.inr ⟨(own_w hw 3 rfl), (own_w hw 53 rfl)⟩)
  have Ea_SV : Exa s s.heap a_SV "com/example/querent/querent/dicom/Vr" := Exa.start eva_SV hn_48
  obtain ⟨a_TM, eva_TM⟩ := exa_v hn_50
  have Sa_TM : Sta s s.heap "com/example/querent/querent/dicom/Vr" "TM" "Lcom/example/querent/querent/dicom/Vr;" (.ref a_TM) := Sta.start eva_TM (Or.inr ⟨(own_w hw 3 rfl), (own_w hw 55 rfl)⟩)
  have Ea_TM : Exa s s.heap a_TM "com/example/querent/querent/dicom/Vr" := Exa.start eva_TM hn_50
  obtain ⟨a_UC, eva_UC⟩ := exa_v hn_52
  have Sa_UC : Sta s s.heap "com/example/querent/querent/dicom/Vr" "UC" "Lcom/example/querent/querent/dicom/Vr;" (.ref a_UC) := Sta.start eva_UC (Or.inr ⟨(own_w hw 3 rfl), (own_w hw 57 rfl)⟩)
  have Ea_UC : Exa s s.heap a_UC "com/example/querent/querent/dicom/Vr" := Exa.start eva_UC hn_52
  obtain ⟨a_UI, eva_UI⟩ := exa_v hn_54
  have Sa_UI : Sta s s.heap "com/example/querent/querent/dicom/Vr" "UI" "Lcom/example/querent/querent/dicom/Vr;" (.ref a_UI) := Sta.start eva_UI (Or.inr ⟨(own_w hw 3 rfl), (own_w hw 59 rfl)⟩)
  have Ea_UI : Exa s s.heap a_UI "com/example/querent/querent/dicom/Vr" := Exa.start eva_UI hn_54
  obtain ⟨a_UL, eva_UL⟩ := exa_v hn_56
  have Sa_UL : Sta s s.heap "com/example/querent/querent/dicom/Vr" "UL" "Lcom/example/querent/querent/dicom/Vr;" (.ref a_UL) := Sta.start eva_UL (Or.inr ⟨(own_w hw 3 rfl), (own_w hw 61 rfl)⟩)
  have Ea_UL : Exa s s.heap a_UL "com/example/querent/querent/dicom/Vr" := Exa.start eva_UL hn_56
  obtain ⟨a_UN, eva_UN⟩ := exa_v hn_58
  have Sa_UN : Sta s s.heap "com/example/querent/querent/dicom/Vr" "UN" "Lcom/example/querent/querent/dicom/Vr;" (.ref a_UN) := Sta.start eva_UN (Or.inr ⟨(own_w hw 3 rfl), (own_w hw 63 rfl)⟩)
  have Ea_UN : Exa s s.heap a_UN "com/example/querent/querent/dicom/Vr" := Exa.start eva_UN hn_58
  obtain ⟨a_UR, eva_UR⟩ := exa_v hn_60
  have Sa_UR : Sta s s.heap "com/example/querent/querent/dicom/Vr" "UR" "Lcom/example/querent/querent/dicom/Vr;" (.ref a_UR) := Sta.start eva_UR (Or.inr ⟨(own_w hw 3 rfl), (own_w hw 65 rfl)⟩)
  have Ea_UR : Exa s s.heap a_UR "com/example/querent/querent/dicom/Vr" := Exa.start eva_UR hn_60
  obtain ⟨a_US, eva_US⟩ := exa_v hn_62
  have Sa_US : Sta s s.heap "com/example/querent/querent/dicom/Vr" "US" "Lcom/example/querent/querent/dicom/Vr;" (.ref a_US) := Sta.start eva_US (Or.inr ⟨(own_w hw 3 rfl), (own_w hw 67 rfl)⟩)
  have Ea_US : Exa s s.heap a_US "com/example/querent/querent/dicom/Vr" := Exa.start eva_US hn_62
  obtain ⟨a_UT, eva_UT⟩ := exa_v hn_64
  have Sa_UT : Sta s s.heap "com/example/querent/querent/dicom/Vr" "UT" "Lcom/example/querent/querent/dicom/Vr;" (.ref a_UT) := Sta.start eva_UT (Or.inr ⟨(own_w hw 3 rfl), (own_w hw 69 rfl)⟩)
  have Ea_UT : Exa s s.heap a_UT "com/example/querent/querent/dicom/Vr" := Exa.start eva_UT hn_64
  obtain ⟨a_UV, eva_UV⟩ := exa_v hn_66
  have Sa_UV : Sta s s.heap "com/example/querent/querent/dicom/Vr" "UV" "Lcom/example/querent/querent/dicom/Vr;" (.ref a_UV) := Sta.start eva_UV (Or.inr ⟨(own_w hw 3 rfl), (own_w hw 71 rfl)⟩)
  have Ea_UV : Exa s s.heap a_UV "com/example/querent/querent/dicom/Vr" := Exa.start eva_UV hn_66
  have Fa_AE_ordinal : Fld s s.heap a_AE "java/lang/Enum" "ordinal" "I" (.int (0 : Int32)) := Fld.start ((fld_at eva_AE).symm.trans (own_eqInt hn_68))
  have Fa_CS_ordinal : Fld s s.heap a_CS "java/lang/Enum" "ordinal" "I" (.int (3 : Int32)) := Fld.start ((fld_at eva_CS).symm.trans (own_eqInt hn_70))
  have Fa_FL_ordinal : Fld s s.heap a_FL "java/lang/Enum" "ordinal" "I" (.int (8 : Int32)) := Fld.start ((fld_at eva_FL).symm.trans (own_eqInt hn_72))
  have Fa_OW_ordinal : Fld s s.heap a_OW "java/lang/Enum" "ordinal" "I" (.int (17 : Int32)) := Fld.start ((fld_at eva_OW).symm.trans (own_eqInt hn_74))
  have Fa_IS_ordinal : Fld s s.heap a_IS "java/lang/Enum" "ordinal" "I" (.int (9 : Int32)) := Fld.start ((fld_at eva_IS).symm.trans (own_eqInt hn_76))
  have Fa_DT_ordinal : Fld s s.heap a_DT "java/lang/Enum" "ordinal" "I" (.int (6 : Int32)) := Fld.start ((fld_at eva_DT).symm.trans (own_eqInt hn_78))
  have Fa_FD_ordinal : Fld s s.heap a_FD "java/lang/Enum" "ordinal" "I" (.int (7 : Int32)) := Fld.start ((fld_at eva_FD).symm.trans (own_eqInt hn_80))
  have Fa_AT_ordinal : Fld s s.heap a_AT "java/lang/Enum" "ordinal" "I" (.int (2 : Int32)) := Fld.start ((fld_at eva_AT).symm.trans (own_eqInt hn_82))
  have Fa_LT_ordinal : Fld s s.heap a_LT "java/lang/Enum" "ordinal" "I" (.int (11 : Int32)) := Fld.start ((fld_at eva_LT).symm.trans (own_eqInt hn_84))
  have Fa_AS_ordinal : Fld s s.heap a_AS "java/lang/Enum" "ordinal" "I" (.int (1 : Int32)) := Fld.start ((fld_at eva_AS).symm.trans (own_eqInt hn_86))
  have Fa_OD_ordinal : Fld s s.heap a_OD "java/lang/Enum" "ordinal" "I" (.int (13 : Int32)) := Fld.start ((fld_at eva_OD).symm.trans (own_eqInt hn_88))
  have Fa_PN_ordinal : Fld s s.heap a_PN "java/lang/Enum" "ordinal" "I" (.int (18 : Int32)) := Fld.start ((fld_at eva_PN).symm.trans (own_eqInt hn_90))
  have Fa_DA_ordinal : Fld s s.heap a_DA "java/lang/Enum" "ordinal" "I" (.int (4 : Int32)) := Fld.start ((fld_at eva_DA).symm.trans (own_eqInt hn_92))
  have Fa_LO_ordinal : Fld s s.heap a_LO "java/lang/Enum" "ordinal" "I" (.int (10 : Int32)) := Fld.start ((fld_at eva_LO).symm.trans (own_eqInt hn_94))
  have Fa_OV_ordinal : Fld s s.heap a_OV "java/lang/Enum" "ordinal" "I" (.int (16 : Int32)) := Fld.start ((fld_at eva_OV).symm.trans (own_eqInt hn_96))
  have Fa_UT_ordinal : Fld s s.heap a_UT "java/lang/Enum" "ordinal" "I" (.int (32 : Int32)) := Fld.start ((fld_at eva_UT).symm.trans (own_eqInt hn_98))
  have Fa_UL_ordinal : Fld s s.heap a_UL "java/lang/Enum" "ordinal" "I" (.int (28 : Int32)) := Fld.start ((fld_at eva_UL).symm.trans (own_eqInt hn_100))
  have Fa_SH_ordinal : Fld s s.heap a_SH "java/lang/Enum" "ordinal" "I" (.int (19 : Int32)) := Fld.start ((fld_at eva_SH).symm.trans (own_eqInt hn_102))
  have Fa_OL_ordinal : Fld s s.heap a_OL "java/lang/Enum" "ordinal" "I" (.int (15 : Int32)) := Fld.start ((fld_at eva_OL).symm.trans (own_eqInt hn_104))
  have Fa_SV_ordinal : Fld s s.heap a_SV "java/lang/Enum" "ordinal" "I" (.int (24 : Int32)) := Fld.start ((fld_at eva_SV).symm.trans (own_eqInt hn_106))
  have Fa_ST_ordinal : Fld s s.heap a_ST "java/lang/Enum" "ordinal" "I" (.int (23 : Int32)) := Fld.start ((fld_at eva_ST).symm.trans (own_eqInt hn_108))
  have Fa_SS_ordinal : Fld s s.heap a_SS "java/lang/Enum" "ordinal" "I" (.int (22 : Int32)) := Fld.start ((fld_at eva_SS).symm.trans (own_eqInt hn_110))
  have Fa_DS_ordinal : Fld s s.heap a_DS "java/lang/Enum" "ordinal" "I" (.int (5 : Int32)) := Fld.start ((fld_at eva_DS).symm.trans (own_eqInt hn_112))
  have Fa_OF_ordinal : Fld s s.heap a_OF "java/lang/Enum" "ordinal" "I" (.int (14 : Int32)) := Fld.start ((fld_at eva_OF).symm.trans (own_eqInt hn_114))
  have Fa_OB_ordinal : Fld s s.heap a_OB "java/lang/Enum" "ordinal" "I" (.int (12 : Int32)) := Fld.start ((fld_at eva_OB).symm.trans (own_eqInt hn_116))
  have Fa_UV_ordinal : Fld s s.heap a_UV "java/lang/Enum" "ordinal" "I" (.int (33 : Int32)) := Fld.start ((fld_at eva_UV).symm.trans (own_eqInt hn_118))
  have Fa_SL_ordinal : Fld s s.heap a_SL "java/lang/Enum" "ordinal" "I" (.int (20 : Int32)) := Fld.start ((fld_at eva_SL).symm.trans (own_eqInt hn_120))
  have Fa_TM_ordinal : Fld s s.heap a_TM "java/lang/Enum" "ordinal" "I" (.int (25 : Int32)) := Fld.start ((fld_at eva_TM).symm.trans (own_eqInt hn_122))
  have Fa_UR_ordinal : Fld s s.heap a_UR "java/lang/Enum" "ordinal" "I" (.int (30 : Int32)) := Fld.start ((fld_at eva_UR).symm.trans (own_eqInt hn_124))
  have Fa_UI_ordinal : Fld s s.heap a_UI "java/lang/Enum" "ordinal" "I" (.int (27 : Int32)) := Fld.start ((fld_at eva_UI).symm.trans (own_eqInt hn_126))
  have Fa_SQ_ordinal : Fld s s.heap a_SQ "java/lang/Enum" "ordinal" "I" (.int (21 : Int32)) := Fld.start ((fld_at eva_SQ).symm.trans (own_eqInt hn_128))
  have Fa_US_ordinal : Fld s s.heap a_US "java/lang/Enum" "ordinal" "I" (.int (31 : Int32)) := Fld.start ((fld_at eva_US).symm.trans (own_eqInt hn_130))
  have Fa_UN_ordinal : Fld s s.heap a_UN "java/lang/Enum" "ordinal" "I" (.int (29 : Int32)) := Fld.start ((fld_at eva_UN).symm.trans (own_eqInt hn_132))
  have Fa_UC_ordinal : Fld s s.heap a_UC "java/lang/Enum" "ordinal" "I" (.int (26 : Int32)) := Fld.start ((fld_at eva_UC).symm.trans (own_eqInt hn_133))
  obtain ⟨n, o, h1, h2, h3, _, L, rfl, ⟨rfl, N, -⟩, hq⟩ := rm0 l s _ hw tables_1 i0 a_AE a_AS a_AT a_CS a_DA a_DS a_DT a_FD a_FL a_IS a_LO a_LT a_OB a_OD a_OF a_OL a_OV a_OW a_PN a_SH a_SL a_SQ a_SS a_ST a_SV a_TM a_UC a_UI a_UL a_UN a_UR a_US a_UT a_UV s.heap s.heap.size (Nat.le_refl _) (Old.start s) Sa_AE Ea_AE Fa_AE_ordinal Sa_AS Ea_AS Fa_AS_ordinal Sa_AT Ea_AT Fa_AT_ordinal Sa_CS Ea_CS Fa_CS_ordinal Sa_DA Ea_DA Fa_DA_ordinal Sa_DS Ea_DS Fa_DS_ordinal Sa_DT Ea_DT Fa_DT_ordinal Sa_FD Ea_FD Fa_FD_ordinal Sa_FL Ea_FL Fa_FL_ordinal Sa_IS Ea_IS Fa_IS_ordinal Sa_LO Ea_LO Fa_LO_ordinal Sa_LT Ea_LT Fa_LT_ordinal Sa_OB Ea_OB Fa_OB_ordinal Sa_OD Ea_OD Fa_OD_ordinal Sa_OF Ea_OF Fa_OF_ordinal Sa_OL Ea_OL Fa_OL_ordinal Sa_OV Ea_OV Fa_OV_ordinal Sa_OW Ea_OW Fa_OW_ordinal Sa_PN Ea_PN Fa_PN_ordinal Sa_SH Ea_SH Fa_SH_ordinal Sa_SL Ea_SL Fa_SL_ordinal Sa_SQ Ea_SQ Fa_SQ_ordinal Sa_SS Ea_SS Fa_SS_ordinal Sa_ST Ea_ST Fa_ST_ordinal Sa_SV Ea_SV Fa_SV_ordinal Sa_TM Ea_TM Fa_TM_ordinal Sa_UC Ea_UC Fa_UC_ordinal Sa_UI Ea_UI Fa_UI_ordinal Sa_UL Ea_UL Fa_UL_ordinal Sa_UN Ea_UN Fa_UN_ordinal Sa_UR Ea_UR Fa_UR_ordinal Sa_US Ea_US Fa_US_ordinal Sa_UT Ea_UT Fa_UT_ordinal Sa_UV Ea_UV Fa_UV_ordinal p e ha hc hk s m _ below hf ((Spec.applies_iff_loose hf).mp happ).1 ⟨rfl, State.Warmed39.refl s, rfl⟩ trivial
  refine ⟨n, _, h1, h2, h3, hpost _ _ _ _ _ _ ⟨Cond.after_iff.mpr rfl, Cond.after_iff.mpr (eq_i res_at (Term.int_eval (1)) rfl), trivial⟩ ⟨hq.1, hq.2.1, (hq.2.2.sift fun y hy => Or.inr (N y hy)).mono (by decide) (by decide)⟩⟩
theorem main_1_1 : Claimed_1_1 := comes_1 fun _ _ _ _ _ _ h hF => ⟨h.1, hF⟩
theorem main_1_2 : Claimed_1_2 := comes_1 fun _ _ _ _ _ _ h hF => ⟨h.2.1, hF⟩
end Jvm.Pilot.@@N@@
namespace Jvm.Pilot.@@N@@
open Jvm Jvm.ClassFile Sem Op Lib Jvm.Free Jvm.Stand Jvm.Pilot.@@N@@.Jvm.D
/-! MADE BY PROGRAM (witnessworld.py) out of the Statement's table words and the real class files: 13 classes; the members and pool entries that the words name. The judged class is class 1, her method 1. -/
namespace start1
open Jvm.ClassFile
def u (s : String) : CpInfo := .utf8 (stringToUtf16 s)
/-- a pool by its gaps: so many unusable entries, then the entry; so many at the end -/
def gap : Nat → List CpInfo → List CpInfo
  | 0, r => r
  | n + 1, r => .unusable :: gap n r
def poolList (es : List (Nat × CpInfo)) (last : Nat) : List CpInfo := es.foldr (fun e r => gap e.1 (e.2 :: r)) (gap last [])
def pool (es : List (Nat × CpInfo)) (last : Nat) : Array CpInfo := ⟨poolList es last⟩
def fileOf (pool : Array CpInfo) (this : Nat) (attrs : Array Attribute := #[]) (ms : Array MethodInfo := #[]) (fl : Nat := 33) (sup : Nat := 0) (ifs : Array Nat := #[]) (fds : Array FieldInfo := #[]) : ClassFile where
  minorVersion := 0
  majorVersion := 65
  constantPool := pool
  accessFlags := fl
  thisClass := this
  superClass := sup
  interfaces := ifs
  fields := fds
  methods := ms
  attributes := attrs
def plain (name : String) (sup : Option ClassId) : Class where
  name := name
  kind := .ordinary
  loader := none
  accessFlags := 33
  super := sup
  interfaces := #[]
  cf := none
  fields := #[]
  methods := #[]
  instanceTypes := #[]
  staticTypes := #[]
  resolved := #[]
  callSites := []
  init := .initialized
  statics := none
  mirror := none

def pool0 : Array CpInfo := pool [(5, u "<init>"), (0, u "()V"), (1, .class_ 10), (1, u "java/lang/Object")] 113

def k0m0 : Method := { name := "<init>", desc := "()V", sig := { parameters := [], returnType := none }, accessFlags := 1, code := none }
/-- java/lang/Object -/
def k0 : Class := { plain "java/lang/Object" none with
  accessFlags := 33
  interfaces := #[]
  cf := some (fileOf pool0 8 #[] #[{ accessFlags := 1, nameIndex := 5, descriptorIndex := 6, attributes := #[] }] 33 0 #[] #[])
  fields := #[]
  methods := #[k0m0]
  instanceTypes := #[]
  staticTypes := #[]
  resolved := Array.replicate 124 none
  statics := none }

def pool1 : Array CpInfo := pool [(2, .class_ 4), (1, u "java/lang/Object"), (0, u "<init>"), (0, u "()V"), (0, .class_ 8), (0, u "com/example/querent/querent/dicom/Vr"), (0, .fieldref 7 10), (0, .nameAndType 11 12), (0, u "AE"), (0, u "Lcom/example/querent/querent/dicom/Vr;"), (0, .fieldref 7 14), (0, .nameAndType 15 12), (0, u "AS"), (0, .fieldref 7 17), (0, .nameAndType 18 12), (0, u "AT"), (0, .fieldref 7 20), (0, .nameAndType 21 12), (0, u "CS"), (0, .fieldref 7 23), (0, .nameAndType 24 12), (0, u "DA"), (0, .fieldref 7 26), (0, .nameAndType 27 12), (0, u "DS"), (0, .fieldref 7 29), (0, .nameAndType 30 12), (0, u "DT"), (0, .fieldref 7 32), (0, .nameAndType 33 12), (0, u "FD"), (0, .fieldref 7 35), (0, .nameAndType 36 12), (0, u "FL"), (0, .fieldref 7 38), (0, .nameAndType 39 12), (0, u "IS"), (0, .fieldref 7 41), (0, .nameAndType 42 12), (0, u "LO"), (0, .fieldref 7 44), (0, .nameAndType 45 12), (0, u "LT"), (0, .fieldref 7 47), (0, .nameAndType 48 12), (0, u "OB"), (0, .fieldref 7 50), (0, .nameAndType 51 12), (0, u "OD"), (0, .fieldref 7 53), (0, .nameAndType 54 12), (0, u "OF"), (0, .fieldref 7 56), (0, .nameAndType 57 12), (0, u "OL"), (0, .fieldref 7 59), (0, .nameAndType 60 12), (0, u "OV"), (0, .fieldref 7 62), (0, .nameAndType 63 12), (0, u "OW"), (0, .fieldref 7 65), (0, .nameAndType 66 12), (0, u "PN"), (0, .fieldref 7 68), (0, .nameAndType 69 12), (0, u "SH"), (0, .fieldref 7 71), (0, .nameAndType 72 12), (0, u "SL"), (0, .fieldref 7 74), (0, .nameAndType 75 12), (0, u "SQ"), (0, .fieldref 7 77), (0, .nameAndType 78 12), (0, u "SS"), (0, .fieldref 7 80), (0, .nameAndType 81 12), (0, u "ST"), (0, .fieldref 7 83), (0, .nameAndType 84 12), (0, u "SV"), (0, .fieldref 7 86), (0, .nameAndType 87 12), (0, u "TM"), (0, .fieldref 7 89), (0, .nameAndType 90 12), (0, u "UC"), (0, .fieldref 7 92), (0, .nameAndType 93 12), (0, u "UI"), (0, .fieldref 7 95), (0, .nameAndType 96 12), (0, u "UL"), (0, .fieldref 7 98), (0, .nameAndType 99 12), (0, u "UN"), (0, .fieldref 7 101), (0, .nameAndType 102 12), (0, u "UR"), (0, .fieldref 7 104), (0, .nameAndType 105 12), (0, u "US"), (0, .fieldref 7 107), (0, .nameAndType 108 12), (0, u "UT"), (0, .fieldref 7 110), (0, .nameAndType 111 12), (0, u "UV"), (0, .integer 2147483647), (0, .methodref 7 114), (0, .nameAndType 115 116), (0, u "binaryNumberLength"), (0, u "()I"), (0, .class_ 118), (0, u "com/example/querent/querent/dicom/VrBinaryNumberLengthPinLaw"), (2, u "law"), (0, u "(I)Z")] 7

def k1m0 : Method := { name := "<init>", desc := "()V", sig := { parameters := [], returnType := none }, accessFlags := 1, code := none }
def k1c1 : Code := { maxStack := 4, maxLocals := 4, code := code, exceptionTable := #[], attributes := #[] }
def k1m1 : Method := { name := "law", desc := "(I)Z", sig := { parameters := [.int], returnType := some .boolean }, accessFlags := 9, code := some k1c1 }
/-- com/example/querent/querent/dicom/VrBinaryNumberLengthPinLaw -/
def k1 : Class := { plain "com/example/querent/querent/dicom/VrBinaryNumberLengthPinLaw" (some 0) with
  accessFlags := 49
  interfaces := #[]
  cf := some (fileOf pool1 117 #[] #[{ accessFlags := 1, nameIndex := 5, descriptorIndex := 6, attributes := #[] }, { accessFlags := 9, nameIndex := 121, descriptorIndex := 122, attributes := #[] }] 49 2 #[] #[])
  fields := #[]
  methods := #[k1m0, k1m1]
  instanceTypes := #[]
  staticTypes := #[]
  resolved := Array.replicate 130 none
  statics := none }

def pool2 : Array CpInfo := pool [(1, .class_ 2), (0, u "java/lang/constant/Constable"), (0, .class_ 4), (0, u "java/lang/Object")] 6

/-- java/lang/constant/Constable -/
def k2 : Class := { plain "java/lang/constant/Constable" (some 0) with
  accessFlags := 1537
  interfaces := #[]
  cf := some (fileOf pool2 1 #[] #[] 1537 3 #[] #[])
  fields := #[]
  methods := #[]
  instanceTypes := #[]
  staticTypes := #[]
  resolved := Array.replicate 11 none
  statics := none }

def pool3 : Array CpInfo := pool [(1, .class_ 2), (0, u "java/lang/Comparable"), (0, .class_ 4), (0, u "java/lang/Object")] 7

/-- java/lang/Comparable -/
def k3 : Class := { plain "java/lang/Comparable" (some 0) with
  accessFlags := 1537
  interfaces := #[]
  cf := some (fileOf pool3 1 #[] #[] 1537 3 #[] #[])
  fields := #[]
  methods := #[]
  instanceTypes := #[]
  staticTypes := #[]
  resolved := Array.replicate 12 none
  statics := none }

def pool4 : Array CpInfo := pool [(1, .class_ 2), (0, u "java/io/Serializable"), (0, .class_ 4), (0, u "java/lang/Object")] 2

/-- java/io/Serializable -/
def k4 : Class := { plain "java/io/Serializable" (some 0) with
  accessFlags := 1537
  interfaces := #[]
  cf := some (fileOf pool4 1 #[] #[] 1537 3 #[] #[])
  fields := #[]
  methods := #[]
  instanceTypes := #[]
  staticTypes := #[]
  resolved := Array.replicate 7 none
  statics := none }

def pool5 : Array CpInfo := pool [(2, .class_ 4), (1, u "java/lang/Enum"), (0, u "name"), (0, u "Ljava/lang/String;"), (0, .fieldref 2 8), (0, .nameAndType 9 10), (0, u "ordinal"), (0, u "I"), (1, .class_ 14), (1, u "java/lang/Object"), (4, u "hash"), (86, .class_ 108), (1, u "java/lang/Enum$EnumDesc"), (2, .class_ 112), (0, u "java/lang/constant/Constable"), (0, .class_ 114), (0, u "java/lang/Comparable"), (0, .class_ 116), (0, u "java/io/Serializable"), (9, u "()I")] 77

def k5c0 : Code := { maxStack := 1, maxLocals := 1, code := jdk_37_method_2_code, exceptionTable := #[], attributes := #[] }
def k5m0 : Method := { name := "ordinal", desc := "()I", sig := { parameters := [], returnType := some .int }, accessFlags := 17, code := some k5c0 }
/-- java/lang/Enum -/
def k5 : Class := { plain "java/lang/Enum" (some 0) with
  accessFlags := 1057
  interfaces := #[2, 3, 4]
  cf := some (fileOf pool5 2 #[.nestMembers #[106]] #[{ accessFlags := 17, nameIndex := 9, descriptorIndex := 126, attributes := #[] }] 1057 12 #[111, 113, 115] #[{ accessFlags := 18, nameIndex := 5, descriptorIndex := 6, attributes := #[] }, { accessFlags := 18, nameIndex := 9, descriptorIndex := 10, attributes := #[] }, { accessFlags := 2, nameIndex := 19, descriptorIndex := 10, attributes := #[] }])
  fields := #[{ name := "name", type := (.object "java/lang/String"), accessFlags := 18, slot := 0, constantValue := 0 }, { name := "ordinal", type := .int, accessFlags := 18, slot := 1, constantValue := 0 }, { name := "hash", type := .int, accessFlags := 2, slot := 2, constantValue := 0 }]
  methods := #[k5m0]
  instanceTypes := #[(.object "java/lang/String"), .int, .int]
  staticTypes := #[]
  resolved := Array.replicate 204 none
  statics := none }

def pool6 : Array CpInfo := pool [(1, .class_ 2), (0, u "com/example/querent/querent/dicom/Vr"), (2, u "AE"), (0, u "Lcom/example/querent/querent/dicom/Vr;"), (2, u "AS"), (2, u "AT"), (2, u "CS"), (2, u "DA"), (2, u "DS"), (2, u "DT"), (2, u "FD"), (2, u "FL"), (2, u "IS"), (2, u "LO"), (2, u "LT"), (2, u "OB"), (2, u "OD"), (2, u "OF"), (2, u "OL"), (2, u "OV"), (2, u "OW"), (2, u "PN"), (2, u "SH"), (2, u "SL"), (2, u "SQ"), (2, u "SS"), (2, u "ST"), (2, u "SV"), (2, u "TM"), (2, u "UC"), (2, u "UI"), (2, u "UL"), (2, u "UN"), (2, u "UR"), (2, u "US"), (2, u "UT"), (2, u "UV"), (2, u "$VALUES"), (0, u "[Lcom/example/querent/querent/dicom/Vr;"), (6, .class_ 118), (1, u "java/lang/Enum"), (8, u "BY_CODE"), (0, u "Ljava/util/Map;"), (6, .methodref 1 136), (0, .nameAndType 137 138), (0, u "ordinal"), (0, u "()I"), (66, u "binaryNumberLength")] 6

def k6c0 : Code := { maxStack := 1, maxLocals := 1, code := prog_15_method_7_code, exceptionTable := #[], attributes := #[] }
def k6m0 : Method := { name := "binaryNumberLength", desc := "()I", sig := { parameters := [], returnType := some .int }, accessFlags := 0, code := some k6c0 }
/-- com/example/querent/querent/dicom/Vr -/
def k6 : Class := { plain "com/example/querent/querent/dicom/Vr" (some 5) with
  accessFlags := 16433
  interfaces := #[]
  cf := some (fileOf pool6 1 #[] #[{ accessFlags := 0, nameIndex := 205, descriptorIndex := 138, attributes := #[] }] 16433 116 #[] #[{ accessFlags := 16409, nameIndex := 5, descriptorIndex := 6, attributes := #[] }, { accessFlags := 16409, nameIndex := 9, descriptorIndex := 6, attributes := #[] }, { accessFlags := 16409, nameIndex := 12, descriptorIndex := 6, attributes := #[] }, { accessFlags := 16409, nameIndex := 15, descriptorIndex := 6, attributes := #[] }, { accessFlags := 16409, nameIndex := 18, descriptorIndex := 6, attributes := #[] }, { accessFlags := 16409, nameIndex := 21, descriptorIndex := 6, attributes := #[] }, { accessFlags := 16409, nameIndex := 24, descriptorIndex := 6, attributes := #[] }, { accessFlags := 16409, nameIndex := 27, descriptorIndex := 6, attributes := #[] }, { accessFlags := 16409, nameIndex := 30, descriptorIndex := 6, attributes := #[] }, { accessFlags := 16409, nameIndex := 33, descriptorIndex := 6, attributes := #[] }, { accessFlags := 16409, nameIndex := 36, descriptorIndex := 6, attributes := #[] }, { accessFlags := 16409, nameIndex := 39, descriptorIndex := 6, attributes := #[] }, { accessFlags := 16409, nameIndex := 42, descriptorIndex := 6, attributes := #[] }, { accessFlags := 16409, nameIndex := 45, descriptorIndex := 6, attributes := #[] }, { accessFlags := 16409, nameIndex := 48, descriptorIndex := 6, attributes := #[] }, { accessFlags := 16409, nameIndex := 51, descriptorIndex := 6, attributes := #[] }, { accessFlags := 16409, nameIndex := 54, descriptorIndex := 6, attributes := #[] }, { accessFlags := 16409, nameIndex := 57, descriptorIndex := 6, attributes := #[] }, { accessFlags := 16409, nameIndex := 60, descriptorIndex := 6, attributes := #[] }, { accessFlags := 16409, nameIndex := 63, descriptorIndex := 6, attributes := #[] }, { accessFlags := 16409, nameIndex := 66, descriptorIndex := 6, attributes := #[] }, { accessFlags := 16409, nameIndex := 69, descriptorIndex := 6, attributes := #[] }, { accessFlags := 16409, nameIndex := 72, descriptorIndex := 6, attributes := #[] }, { accessFlags := 16409, nameIndex := 75, descriptorIndex := 6, attributes := #[] }, { accessFlags := 16409, nameIndex := 78, descriptorIndex := 6, attributes := #[] }, { accessFlags := 16409, nameIndex := 81, descriptorIndex := 6, attributes := #[] }, { accessFlags := 16409, nameIndex := 84, descriptorIndex := 6, attributes := #[] }, { accessFlags := 16409, nameIndex := 87, descriptorIndex := 6, attributes := #[] }, { accessFlags := 16409, nameIndex := 90, descriptorIndex := 6, attributes := #[] }, { accessFlags := 16409, nameIndex := 93, descriptorIndex := 6, attributes := #[] }, { accessFlags := 16409, nameIndex := 96, descriptorIndex := 6, attributes := #[] }, { accessFlags := 16409, nameIndex := 99, descriptorIndex := 6, attributes := #[] }, { accessFlags := 16409, nameIndex := 102, descriptorIndex := 6, attributes := #[] }, { accessFlags := 16409, nameIndex := 105, descriptorIndex := 6, attributes := #[] }, { accessFlags := 26, nameIndex := 127, descriptorIndex := 128, attributes := #[] }, { accessFlags := 4122, nameIndex := 108, descriptorIndex := 109, attributes := #[] }])
  fields := #[{ name := "AE", type := (.object "com/example/querent/querent/dicom/Vr"), accessFlags := 16409, slot := 0, constantValue := 0 }, { name := "AS", type := (.object "com/example/querent/querent/dicom/Vr"), accessFlags := 16409, slot := 1, constantValue := 0 }, { name := "AT", type := (.object "com/example/querent/querent/dicom/Vr"), accessFlags := 16409, slot := 2, constantValue := 0 }, { name := "CS", type := (.object "com/example/querent/querent/dicom/Vr"), accessFlags := 16409, slot := 3, constantValue := 0 }, { name := "DA", type := (.object "com/example/querent/querent/dicom/Vr"), accessFlags := 16409, slot := 4, constantValue := 0 }, { name := "DS", type := (.object "com/example/querent/querent/dicom/Vr"), accessFlags := 16409, slot := 5, constantValue := 0 }, { name := "DT", type := (.object "com/example/querent/querent/dicom/Vr"), accessFlags := 16409, slot := 6, constantValue := 0 }, { name := "FD", type := (.object "com/example/querent/querent/dicom/Vr"), accessFlags := 16409, slot := 7, constantValue := 0 }, { name := "FL", type := (.object "com/example/querent/querent/dicom/Vr"), accessFlags := 16409, slot := 8, constantValue := 0 }, { name := "IS", type := (.object "com/example/querent/querent/dicom/Vr"), accessFlags := 16409, slot := 9, constantValue := 0 }, { name := "LO", type := (.object "com/example/querent/querent/dicom/Vr"), accessFlags := 16409, slot := 10, constantValue := 0 }, { name := "LT", type := (.object "com/example/querent/querent/dicom/Vr"), accessFlags := 16409, slot := 11, constantValue := 0 }, { name := "OB", type := (.object "com/example/querent/querent/dicom/Vr"), accessFlags := 16409, slot := 12, constantValue := 0 }, { name := "OD", type := (.object "com/example/querent/querent/dicom/Vr"), accessFlags := 16409, slot := 13, constantValue := 0 }, { name := "OF", type := (.object "com/example/querent/querent/dicom/Vr"), accessFlags := 16409, slot := 14, constantValue := 0 }, { name := "OL", type := (.object "com/example/querent/querent/dicom/Vr"), accessFlags := 16409, slot := 15, constantValue := 0 }, { name := "OV", type := (.object "com/example/querent/querent/dicom/Vr"), accessFlags := 16409, slot := 16, constantValue := 0 }, { name := "OW", type := (.object "com/example/querent/querent/dicom/Vr"), accessFlags := 16409, slot := 17, constantValue := 0 }, { name := "PN", type := (.object "com/example/querent/querent/dicom/Vr"), accessFlags := 16409, slot := 18, constantValue := 0 }, { name := "SH", type := (.object "com/example/querent/querent/dicom/Vr"), accessFlags := 16409, slot := 19, constantValue := 0 }, { name := "SL", type := (.object "com/example/querent/querent/dicom/Vr"), accessFlags := 16409, slot := 20, constantValue := 0 }, { name := "SQ", type := (.object "com/example/querent/querent/dicom/Vr"), accessFlags := 16409, slot := 21, constantValue := 0 }, { name := "SS", type := (.object "com/example/querent/querent/dicom/Vr"), accessFlags := 16409, slot := 22, constantValue := 0 }, { name := "ST", type := (.object "com/example/querent/querent/dicom/Vr"), accessFlags := 16409, slot := 23, constantValue := 0 }, { name := "SV", type := (.object "com/example/querent/querent/dicom/Vr"), accessFlags := 16409, slot := 24, constantValue := 0 }, { name := "TM", type := (.object "com/example/querent/querent/dicom/Vr"), accessFlags := 16409, slot := 25, constantValue := 0 }, { name := "UC", type := (.object "com/example/querent/querent/dicom/Vr"), accessFlags := 16409, slot := 26, constantValue := 0 }, { name := "UI", type := (.object "com/example/querent/querent/dicom/Vr"), accessFlags := 16409, slot := 27, constantValue := 0 }, { name := "UL", type := (.object "com/example/querent/querent/dicom/Vr"), accessFlags := 16409, slot := 28, constantValue := 0 }, { name := "UN", type := (.object "com/example/querent/querent/dicom/Vr"), accessFlags := 16409, slot := 29, constantValue := 0 }, { name := "UR", type := (.object "com/example/querent/querent/dicom/Vr"), accessFlags := 16409, slot := 30, constantValue := 0 }, { name := "US", type := (.object "com/example/querent/querent/dicom/Vr"), accessFlags := 16409, slot := 31, constantValue := 0 }, { name := "UT", type := (.object "com/example/querent/querent/dicom/Vr"), accessFlags := 16409, slot := 32, constantValue := 0 }, { name := "UV", type := (.object "com/example/querent/querent/dicom/Vr"), accessFlags := 16409, slot := 33, constantValue := 0 }, { name := "BY_CODE", type := (.object "java/util/Map"), accessFlags := 26, slot := 34, constantValue := 0 }, { name := "$VALUES", type := (.array (.object "com/example/querent/querent/dicom/Vr")), accessFlags := 4122, slot := 35, constantValue := 0 }]
  methods := #[k6m0]
  instanceTypes := #[(.object "java/lang/String"), .int, .int]
  staticTypes := #[(.object "com/example/querent/querent/dicom/Vr"), (.object "com/example/querent/querent/dicom/Vr"), (.object "com/example/querent/querent/dicom/Vr"), (.object "com/example/querent/querent/dicom/Vr"), (.object "com/example/querent/querent/dicom/Vr"), (.object "com/example/querent/querent/dicom/Vr"), (.object "com/example/querent/querent/dicom/Vr"), (.object "com/example/querent/querent/dicom/Vr"), (.object "com/example/querent/querent/dicom/Vr"), (.object "com/example/querent/querent/dicom/Vr"), (.object "com/example/querent/querent/dicom/Vr"), (.object "com/example/querent/querent/dicom/Vr"), (.object "com/example/querent/querent/dicom/Vr"), (.object "com/example/querent/querent/dicom/Vr"), (.object "com/example/querent/querent/dicom/Vr"), (.object "com/example/querent/querent/dicom/Vr"), (.object "com/example/querent/querent/dicom/Vr"), (.object "com/example/querent/querent/dicom/Vr"), (.object "com/example/querent/querent/dicom/Vr"), (.object "com/example/querent/querent/dicom/Vr"), (.object "com/example/querent/querent/dicom/Vr"), (.object "com/example/querent/querent/dicom/Vr"), (.object "com/example/querent/querent/dicom/Vr"), (.object "com/example/querent/querent/dicom/Vr"), (.object "com/example/querent/querent/dicom/Vr"), (.object "com/example/querent/querent/dicom/Vr"), (.object "com/example/querent/querent/dicom/Vr"), (.object "com/example/querent/querent/dicom/Vr"), (.object "com/example/querent/querent/dicom/Vr"), (.object "com/example/querent/querent/dicom/Vr"), (.object "com/example/querent/querent/dicom/Vr"), (.object "com/example/querent/querent/dicom/Vr"), (.object "com/example/querent/querent/dicom/Vr"), (.object "com/example/querent/querent/dicom/Vr"), (.object "java/util/Map"), (.array (.object "com/example/querent/querent/dicom/Vr"))]
  resolved := Array.replicate 212 none
  statics := some 0 }

def pool7 : Array CpInfo := pool [(1, u "java/lang/Cloneable"), (0, .class_ 1), (0, u "java/lang/Object"), (0, .class_ 3)] 3

/-- java/lang/Cloneable -/
def k7 : Class := { plain "java/lang/Cloneable" (some 0) with
  accessFlags := 1537
  interfaces := #[]
  cf := some (fileOf pool7 2 #[] #[] 1537 4 #[] #[])
  fields := #[]
  methods := #[]
  instanceTypes := #[]
  staticTypes := #[]
  resolved := Array.replicate 8 none
  statics := none }

/-- the primitive byte -/
def k8 : Class := { plain "byte" none with kind := .primitive 'B', accessFlags := 0x411 }
/-- [B -/
def k9 : Class := { plain "[B" (some 0) with kind := .array 8 .byte, interfaces := #[7, 4], accessFlags := 1041 }

/-- the primitive int -/
def k10 : Class := { plain "int" none with kind := .primitive 'I', accessFlags := 0x411 }
/-- [I -/
def k11 : Class := { plain "[I" (some 0) with kind := .array 10 .int, interfaces := #[7, 4], accessFlags := 1041 }

/-- [Lcom/example/querent/querent/dicom/Vr; -/
def k12 : Class := { plain "[Lcom/example/querent/querent/dicom/Vr;" (some 0) with kind := .array 6 (.object "com/example/querent/querent/dicom/Vr"), interfaces := #[7, 4], accessFlags := 1041 }

def heap : Heap := #[{ cls := 6, slots := #[.ref 1, .ref 2, .ref 3, .ref 4, .ref 5, .ref 6, .ref 7, .ref 8, .ref 9, .ref 10, .ref 11, .ref 12, .ref 13, .ref 14, .ref 15, .ref 16, .ref 17, .ref 18, .ref 19, .ref 20, .ref 21, .ref 22, .ref 23, .ref 24, .ref 25, .ref 26, .ref 27, .ref 28, .ref 29, .ref 30, .ref 31, .ref 32, .ref 33, .ref 34, .null, .null], vm := .statics 6 },
  { cls := 6, slots := #[.null, .int 0, .int 0], vm := .none },
  { cls := 6, slots := #[.null, .int 1, .int 0], vm := .none },
  { cls := 6, slots := #[.null, .int 2, .int 0], vm := .none },
  { cls := 6, slots := #[.null, .int 3, .int 0], vm := .none },
  { cls := 6, slots := #[.null, .int 4, .int 0], vm := .none },
  { cls := 6, slots := #[.null, .int 5, .int 0], vm := .none },
  { cls := 6, slots := #[.null, .int 6, .int 0], vm := .none },
  { cls := 6, slots := #[.null, .int 7, .int 0], vm := .none },
  { cls := 6, slots := #[.null, .int 8, .int 0], vm := .none },
  { cls := 6, slots := #[.null, .int 9, .int 0], vm := .none },
  { cls := 6, slots := #[.null, .int 10, .int 0], vm := .none },
  { cls := 6, slots := #[.null, .int 11, .int 0], vm := .none },
  { cls := 6, slots := #[.null, .int 12, .int 0], vm := .none },
  { cls := 6, slots := #[.null, .int 13, .int 0], vm := .none },
  { cls := 6, slots := #[.null, .int 14, .int 0], vm := .none },
  { cls := 6, slots := #[.null, .int 15, .int 0], vm := .none },
  { cls := 6, slots := #[.null, .int 16, .int 0], vm := .none },
  { cls := 6, slots := #[.null, .int 17, .int 0], vm := .none },
  { cls := 6, slots := #[.null, .int 18, .int 0], vm := .none },
  { cls := 6, slots := #[.null, .int 19, .int 0], vm := .none },
  { cls := 6, slots := #[.null, .int 20, .int 0], vm := .none },
  { cls := 6, slots := #[.null, .int 21, .int 0], vm := .none },
  { cls := 6, slots := #[.null, .int 22, .int 0], vm := .none },
  { cls := 6, slots := #[.null, .int 23, .int 0], vm := .none },
  { cls := 6, slots := #[.null, .int 24, .int 0], vm := .none },
  { cls := 6, slots := #[.null, .int 25, .int 0], vm := .none },
  { cls := 6, slots := #[.null, .int 26, .int 0], vm := .none },
  { cls := 6, slots := #[.null, .int 27, .int 0], vm := .none },
  { cls := 6, slots := #[.null, .int 28, .int 0], vm := .none },
  { cls := 6, slots := #[.null, .int 29, .int 0], vm := .none },
  { cls := 6, slots := #[.null, .int 30, .int 0], vm := .none },
  { cls := 6, slots := #[.null, .int 31, .int 0], vm := .none },
  { cls := 6, slots := #[.null, .int 32, .int 0], vm := .none },
  { cls := 6, slots := #[.null, .int 33, .int 0], vm := .none }]
def classes : Array Class := #[k0, k1, k2, k3, k4, k5, k6, k7, k8, k9, k10, k11, k12]
def interned : List (Array UInt16 × Addr) := []
def slotsUsed : Nat := 138
def theMethod : MethodId := ⟨1, 1⟩
def args0 : Array Value := #[.int 5]
def aboutOver (below : List Frame) : State where
  vm := { classes := classes, interned := interned.toArray }
  heap := heap
  slotsUsed := slotsUsed
  threads := #[{ frames := .invoking theMethod args0 :: below }]
def below0 : List Frame := [.native { method := ⟨0, 0⟩, args := #[] }]
def about1 : State := aboutOver below0
def p0 : Program := .bare "" "" ""
def e0 : Env := launch0.env 0 0 0
theorem w_frames : about1.frames = Frame.invoking theMethod args0 :: below0 := rfl
set_option maxRecDepth 65536 in
theorem w_args : argsFit about1.vm theMethod args0 = true := by decide +kernel
set_option maxRecDepth 65536 in
theorem w_heap : heapFits about1 = true := by decide +kernel
set_option maxRecDepth 65536 in
theorem w_runnable : about1.curStatus? = some .runnable := by decide +kernel
set_option maxRecDepth 65536 in
theorem w_alone : about1.alone = true := by decide +kernel
set_option maxRecDepth 65536 in
theorem w_named : about1.methodNamed? x = some theMethod := by decide +kernel
set_option maxRecDepth 65536 in
theorem w_hears : about1.hears theMethod below0 = true := by decide +kernel
set_option maxRecDepth 65536 in
theorem w_ripe : about1.ripe theMethod args0 below0 = true := by decide +kernel
theorem w_running : about1.status = .running := rfl
set_option maxRecDepth 65536 in
theorem w_room : about1.hasRoom e0.platform room_1 = true :=
  launch0.hasRoom_least _ room_1 (by decide +kernel) (by decide +kernel) (by decide +kernel) (by decide +kernel) (by decide +kernel) (by decide +kernel)
theorem allAtoms_all (ts : List Jvm.Cond) (a : Array Jvm.Value) (st : Jvm.State) : (allAtoms ts).before a st = ts.all (fun c => c.before a st) := by
  induction ts with
  | nil => rfl
  | cons c t ih =>
    show (Jvm.Cond.and c (allAtoms t)).before a st = _
    rw [Jvm.Cond.before_and, ih, List.all_cons]
def words1 : List Jvm.Cond := Jvm.Cond.code x code maxLocals ret :: tables_1
/-- a 'code' word, met by the world's own term for the bytes: nothing is compared byte by byte -/
theorem code_word {y : MethodName} {bytes : ByteArray} {mx : Nat} {rt : Option FieldType} {a : Array Value} {s : State} {m : MethodId} {meth : Method} {c : Code} (h1 : s.methodNamed? y = some m) (h2 : s.vm.method? m = some meth) (h3 : meth.code = some c) (h4 : c.code = bytes)
    (h5 : (c.maxLocals == mx && c.exceptionTable.isEmpty && decide (c.maxStack ≤ mostOperands) && decide (meth.sig.returnType = rt) && !meth.locks && decide (parseMethodDescriptor y.desc = some meth.sig)) = true) : (Jvm.Cond.code y bytes mx rt).before a s = true := by
  simp only [Bool.and_eq_true, beq_iff_eq, Bool.not_eq_true', decide_eq_true_eq] at h5
  obtain ⟨⟨⟨⟨⟨g1, g2⟩, g3⟩, g4⟩, g5⟩, g6⟩ := h5
  simp [Cond.before, Cond.holds, Cond.value, h1, h2, h3, h4, g1, g2, g3, g4, g5, g6]
def isCode : Jvm.Cond → Bool
  | .code _ _ _ _ => true
  | _ => false
theorem all_split {L : List Jvm.Cond} {P : Jvm.Cond → Bool} (h1 : L.all (fun c => isCode c || P c) = true) (h2 : ∀ c ∈ L.filter isCode, P c = true) : L.all P = true := by
  refine List.all_eq_true.mpr fun c hc => ?_
  have h := List.all_eq_true.mp h1 c hc
  rcases Bool.eq_false_or_eq_true (isCode c) with hi | hi
  · exact h2 c (List.mem_filter.mpr ⟨hc, hi⟩)
  · simpa [hi] using h
set_option maxRecDepth 65536 in
theorem w_c0 : (Jvm.Cond.code x code maxLocals ret).before args0 about1 = true := code_word (m := ⟨1, 1⟩) (meth := k1m1) (c := k1c1) (by decide +kernel) rfl rfl rfl (by decide +kernel)
set_option maxRecDepth 65536 in
theorem w_c1 : (Jvm.Cond.code ({ cls := "com/example/querent/querent/dicom/Vr", name := "binaryNumberLength", desc := "()I" } : Jvm.MethodName) prog_15_method_7_code (1 : Nat) (Option.some Jvm.ClassFile.FieldType.int)).before args0 about1 = true := code_word (m := ⟨6, 0⟩) (meth := k6m0) (c := k6c0) (by decide +kernel) rfl rfl rfl (by decide +kernel)
set_option maxRecDepth 65536 in
theorem w_c2 : (Jvm.Cond.code ({ cls := "java/lang/Enum", name := "ordinal", desc := "()I" } : Jvm.MethodName) jdk_37_method_2_code (1 : Nat) (Option.some Jvm.ClassFile.FieldType.int)).before args0 about1 = true := code_word (m := ⟨5, 0⟩) (meth := k5m0) (c := k5c0) (by decide +kernel) rfl rfl rfl (by decide +kernel)
def codes1 : List Jvm.Cond := [Jvm.Cond.code x code maxLocals ret, Jvm.Cond.code ({ cls := "com/example/querent/querent/dicom/Vr", name := "binaryNumberLength", desc := "()I" } : Jvm.MethodName) prog_15_method_7_code (1 : Nat) (Option.some Jvm.ClassFile.FieldType.int), Jvm.Cond.code ({ cls := "java/lang/Enum", name := "ordinal", desc := "()I" } : Jvm.MethodName) jdk_37_method_2_code (1 : Nat) (Option.some Jvm.ClassFile.FieldType.int)]
set_option maxRecDepth 65536 in
theorem codes_eq : words1.filter isCode = codes1 := rfl
theorem w_codes : ∀ c ∈ words1.filter isCode, c.before args0 about1 = true := by
  rw [codes_eq]
  intro c hc
  simp only [codes1, List.mem_cons, List.not_mem_nil, or_false] at hc
  rcases hc with rfl | rfl | rfl
  · exact w_c0
  · exact w_c1
  · exact w_c2
set_option maxRecDepth 65536 in
theorem w_t1 : (words1.take 24).all (fun c => isCode c || c.before args0 about1) = true := by decide +kernel
set_option maxRecDepth 65536 in
theorem w_t2 : ((words1.drop 24).take 24).all (fun c => isCode c || c.before args0 about1) = true := by decide +kernel
set_option maxRecDepth 65536 in
theorem w_t3 : (((words1.drop 24).drop 24).take 24).all (fun c => isCode c || c.before args0 about1) = true := by decide +kernel
set_option maxRecDepth 65536 in
theorem w_t4 : (((words1.drop 24).drop 24).drop 24).all (fun c => isCode c || c.before args0 about1) = true := by decide +kernel
theorem w_tables : (allAtoms (Jvm.Cond.code x code maxLocals ret :: tables_1)).before args0 about1 = true := by
  rw [allAtoms_all]
  show words1.all (fun c => c.before args0 about1) = true
  refine all_split ?_ w_codes
  rw [← List.take_append_drop 24 words1, List.all_append, w_t1, ← List.take_append_drop 24 (words1.drop 24), List.all_append, w_t2, ← List.take_append_drop 24 ((words1.drop 24).drop 24), List.all_append, w_t3, w_t4]
  rfl
set_option maxRecDepth 65536 in
theorem w_case : (Jvm.Cond.and given_1 narrow_1).before args0 about1 = true := by decide +kernel
theorem w_applies : (headSpec (Jvm.Cond.code x code maxLocals ret :: tables_1) room_1).applies x e0.platform about1 = true :=
  (Spec.applies_iff w_frames).mpr ⟨w_running, w_runnable, w_alone, w_named, w_hears, w_ripe, w_room, w_tables⟩
theorem atStart : AtStart classFile x code maxLocals ret World_1 tables_1 room_1 Calls_1 rest_1 Pre_1 launch0 p0 e0 about1 theMethod args0 below0 :=
  ⟨lists_1, trivial, launch0.admits_env _ _ _, launch0.least_env, fairChoices_fair.cas, fairChoices_fair.clock, w_frames, w_args, w_heap, w_applies, trivial, trivial, w_case⟩
end start1
theorem witness_1 : WitnessClaimed_1 := ⟨start1.p0, start1.e0, start1.about1, start1.theMethod, start1.args0, start1.below0, start1.atStart⟩
end Jvm.Pilot.@@N@@
