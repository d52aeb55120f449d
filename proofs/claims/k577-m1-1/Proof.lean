import JvmDerived
import JvmDerived.Pilot.@@N@@Statement
import JvmDerived.Pilot.@@N@@Code
set_option linter.unusedVariables false
set_option linter.unusedSimpArgs false
namespace Jvm.Pilot.@@N@@
open Jvm Jvm.ClassFile Sem Op Lib Jvm.Free Jvm.Stand Jvm.LawKit Jvm.RoadKit Bundle Jvm.Pilot.@@N@@.Jvm.D
theorem own_retI {p : Program} {l : Launch} {e : Env} {R : Room} {s : State} {m : MethodId} {args : Array Value} {below : List Frame} {meth : Method} {c : Code} {T : State} {locs : List Loc} {cells slots : Nat} (X : Stand p l e R s m args below meth c T locs cells slots) (hx : p.tables.exec = Jvm.exec) {pc : Nat} {Ls : Array Slot} {z : Int32} {rest : List Value} (hret : meth.sig.returnType = some .int) (hd : decode c.code pc = .ok (.ireturn, 1)) {fs : List Frame}
    (hl : ∀ (f : JFrame) (acts : List Action), f.method = m → f.locked = none → f.entered = [] → (doReturn e (T.setTop f) acts (some (.int z))).1 = T.setFrames fs) : Steps p.tables e below (T.setTop (mkF m pc Ls (.int z :: rest))) (T.setFrames fs) :=
  retOut X hx hret rfl (Or.inl ⟨rfl, Or.inl rfl, z, rfl⟩) hd hl
theorem own_retJ {p : Program} {l : Launch} {e : Env} {R : Room} {s : State} {m : MethodId} {args : Array Value} {below : List Frame} {meth : Method} {c : Code} {T : State} {locs : List Loc} {cells slots : Nat} (X : Stand p l e R s m args below meth c T locs cells slots) (hx : p.tables.exec = Jvm.exec) {pc : Nat} {Ls : Array Slot} {z : Int64} {rest : List Value} (hret : meth.sig.returnType = some .long) (hd : decode c.code pc = .ok (.lreturn, 1)) {fs : List Frame}
    (hl : ∀ (f : JFrame) (acts : List Action), f.method = m → f.locked = none → f.entered = [] → (doReturn e (T.setTop f) acts (some (.long z))).1 = T.setFrames fs) : Steps p.tables e below (T.setTop (mkF m pc Ls (.long z :: rest))) (T.setFrames fs) :=
  retOut X hx hret rfl (Or.inr (Or.inl ⟨rfl, rfl, z, rfl⟩)) hd hl
theorem own_retA {p : Program} {l : Launch} {e : Env} {R : Room} {s : State} {m : MethodId} {args : Array Value} {below : List Frame} {meth : Method} {c : Code} {T : State} {locs : List Loc} {cells slots : Nat} (X : Stand p l e R s m args below meth c T locs cells slots) (hx : p.tables.exec = Jvm.exec) {pc : Nat} {Ls : Array Slot} {w : Value} {rest : List Value} {t : FieldType} (hret : meth.sig.returnType = some t) (ht : t.isReference = true) (hn : narrow t w = w) (hw : w.isRef = true) (hd : decode c.code pc = .ok (.areturn, 1)) {fs : List Frame}
    (hl : ∀ (f : JFrame) (acts : List Action), f.method = m → f.locked = none → f.entered = [] → (doReturn e (T.setTop f) acts (some w)).1 = T.setFrames fs) : Steps p.tables e below (T.setTop (mkF m pc Ls (w :: rest))) (T.setFrames fs) :=
  retOut X hx hret hn (Or.inr (Or.inr (Or.inr (Or.inr ⟨rfl, ht, hw⟩)))) hd hl
theorem own_go {tb : Tables} {e : Env} {below : List Frame} {A B : State} {R : State → Outcome → Prop} (st : ∀ t, Steps tb e below A t → Steps tb e below B t) (h : ∃ U o, Steps tb e below A U ∧ R U o) : ∃ U o, Steps tb e below B U ∧ R U o := by
  obtain ⟨U, o, h1, h2⟩ := h
  exact ⟨U, o, st U h1, h2⟩
theorem own_via {tb : Tables} {e : Env} {below : List Frame} {A B : State} {R : State → Outcome → Prop} (st : Steps tb e below B A) (h : ∃ U o, Steps tb e below A U ∧ R U o) : ∃ U o, Steps tb e below B U ∧ R U o := by
  obtain ⟨U, o, h1, h2⟩ := h
  exact ⟨U, o, st.trans h1, h2⟩
theorem own_eqInt {t : Term} {k : Int32} {args : Array Value} {s : State} (h : (Jvm.Cond.eq t (.int k)).value args s none s [] = some true) : t.eval args s none [] s = some (.int k) := by
  cases ha : t.eval args s none [] s with
  | none => simp [Cond.value, ha] at h
  | some x => cases x <;> simp_all [Cond.value, Term.eval, Value.isRef]
theorem own_selP {s : State} {args : Array Value} {y : MethodName} {n : Nat} (hinst : (Jvm.Cond.instanceMethod y).before args s = true) (hp : (Jvm.Cond.privateMethod y).before args s = true) (hi : (Jvm.Cond.instantiable y.cls n).before args s = true) (hy : y.cls ≠ "java/lang/invoke/MethodHandle" ∧ y.cls ≠ "java/lang/invoke/VarHandle") : (Jvm.Cond.selects y.cls y y).before args s = true := by
  obtain ⟨c, k, h1, h2, -, h4, -, -⟩ := Cond.instantiable_spec hi
  simp only [Bool.or_eq_false_iff] at h4
  exact selects_self_of_private h1 h2 h4.1 (Cond.privateMethod_at hp) hinst hy
theorem own_stoV {Z : State} {h : Heap} {a y : Addr} {k : ClassId} {ty : FieldType} {n : Int32} {vs : List Value} {d : Value} {C : String} (F : Arv Z h a k ty n vs d) (O : Ovr Z k C) (I : Ins Z h y C true) : Sto Z h a (.ref y) := by
  obtain ⟨c, A, q, -⟩ := F
  exact Sto.ofV A q O I
theorem own_cat1 {v : Value} (h : v.isRef = true) : v.category = 1 := by cases v <;> simp_all [Value.isRef, Value.category]
theorem own_nref {t : FieldType} {v : Value} (h : v.isRef = true) : narrow t v = v := by cases v <;> simp_all [Value.isRef, narrow]
theorem own_narb (x : Int32) : nar .byte x.toInt8.toInt32 = x.toInt8.toInt32 := by simp [nar]
theorem own_w {Z : State} {a0 : Array Value} (hw : ∀ d ∈ tables_1, d.before a0 Z = true) (i : Nat) {d : Jvm.Cond} (h : tables_1[i]? = some d) : d.before a0 Z = true := hw _ (List.mem_of_getElem? h)
theorem own_bT {P : Prop} [Decidable P] (h : P) : (if P then (1 : Int32) else 0) = 1 := if_pos h
theorem own_bF {P : Prop} [Decidable P] (h : ¬ P) : (if P then (1 : Int32) else 0) = 0 := if_neg h
theorem own_narB {P : Prop} [Decidable P] : nar .boolean (if P then (1 : Int32) else 0) = (if P then (1 : Int32) else 0) := by split <;> rfl
theorem d1_0 : decode method_2_code 0 = .ok (.iload_n 0, 1) := by decide +kernel
theorem d1_1 : decode method_2_code 1 = .ok (.ifCond .ne 7, 3) := by decide +kernel
theorem d1_4 : decode method_2_code 4 = .ok (.getstatic 7, 3) := by decide +kernel
theorem d1_7 : decode method_2_code 7 = .ok (.areturn, 1) := by decide +kernel
abbrev own_y0 : MethodName := ⟨"com/example/portcullis/portcullis/hashing/HashAlgorithmIsKeyDerivationPinLaw", "pick", "(I)Lcom/example/portcullis/portcullis/hashing/HashAlgorithm;"⟩
theorem ef_rmPick0 (m : MethodId)  : entryFrame m #[(.int (0 : Int32))] 1 = mkF m 0 #[.val (.int (0 : Int32))] [] := by first | (simp [entryFrame, mkF, argsToLocals, Value.category]; done) | rfl
def Q_rmPick0 (Z : State) (a : Addr) (h0 : Heap) (n0 : Nat) (v_ : Option Value) (h_ : Heap) (L_ : List Loc) : Prop := v_ = some (.ref a) ∧ Fr n0 L_ ∧ h_ = h0
theorem pn_0 : plainName "com/example/portcullis/portcullis/hashing/HashAlgorithmIsKeyDerivationPinLaw" = true := by first | (simp [plainName, overriddenIn]; done) | decide +kernel
set_option maxRecDepth 65536 in
set_option maxHeartbeats 40000000 in
theorem rmPick0 (l : Launch) (Z : State) (a0 : Array Value) (hw : ∀ d ∈ tables_1, d.before a0 Z = true) (ws : List Jvm.Cond) (a : Addr) (h0 : Heap) (n0 : Nat) (Z0 : n0 ≤ h0.size) (O0 : Old Z n0 h0) (u1 : Sta Z Z.heap "com/example/portcullis/portcullis/hashing/HashAlgorithm" "PBKDF2_WITH_HMAC_SHA1" "Lcom/example/portcullis/portcullis/hashing/HashAlgorithm;" (.ref a)) :
    MetFree l own_y0 (head1 (Jvm.Cond.code own_y0 method_2_code 1 (some (.object "com/example/portcullis/portcullis/hashing/HashAlgorithm")) :: ws) ({ frames := 0, cells := 0, slots := 0, locals := 0 } : Room)) (fun a_ U_ => a_ = #[(.int (0 : Int32))] ∧ Z.Warmed39 U_.vm ∧ U_.heap = h0) (fun _ _ _ _ _ => True) (fun _ U_ o_ U2_ => ∃ v_ L_, o_ = .returned v_ ∧ Q_rmPick0 Z a h0 n0 v_ U2_.heap L_ ∧ FrameEnd U_ o_ U2_ L_ ({ frames := 0, cells := 0, slots := 0, locals := 0 } : Room).cells ({ frames := 0, cells := 0, slots := 0, locals := 0 } : Room).slots) := by
  refine MetFree.of_bodySF (plainFor_of_name pn_0) hisR ?_
  intro p e s m args below meth c s₁ Bd hml0 hP hK
  obtain ⟨rfl, hZ, hh⟩ := hP
  have hx := Bd.exec
  have hby := Bd.bytes
  have hml : c.maxLocals = 1 := hml0
  have hown : s.vm.findClass "com/example/portcullis/portcullis/hashing/HashAlgorithmIsKeyDerivationPinLaw" = some m.cls := findClass_of_methodNamed Bd.named
  have hnm := (name_of_methodNamed Bd.named Bd.method).1
  have X0 : Stand p l e ({ frames := 0, cells := 0, slots := 0, locals := 0 } : Room) s m #[(.int (0 : Int32))] below meth c s₁ [] 0 0 := Stand.of_body Bd
  have e0 : s₁.heap = h0 := by rw [← hh, Bd.state]; rfl
  have N0 := Fr.nil n0
  refine own_go (A := s₁.setTop (mkF m 0 #[.val (.int (0 : Int32))] [])) (fun t_ k_ => castTop (ef_rmPick0 m ) k_) ?_
  refine own_go (A := s₁.setTop (mkF m 4 #[.val (.int (0 : Int32))] [])) (fun t_ k_ => ?_) ?_
  · show Steps p.tables e below (s₁.setTop (mkF m 0 #[.val (.int (0 : Int32))] [])) t_
    refine XS.iloadN X0.here hx rfl (hb hby d1_0) rfl ?_
    show Steps p.tables e below (s₁.setTop (mkF m 1 #[.val (.int (0 : Int32))] [(.int (0 : Int32))])) t_
    refine XS.ifNo X0.here hx rfl (hb hby d1_1) rfl ((if0 _ _).trans (teq (by decide : (0 : Int32) = (0 : Int32))).2) ?_
    exact k_
  obtain ⟨T1, X1, e1, st1⟩ := getS2 X0 hx hZ hown (host := "") (Or.inl (own_w hw 5 rfl)) Via.refl e0 (u1.ext O0.2) (g := (mkF m 4 #[.val (.int (0 : Int32))] [])) rfl (hb hby d1_4)
  refine own_go st1 ?_
  obtain ⟨fs2, hr2, hrun2, hended2, hW2, hsame2⟩ := X1.leave (v := some (.ref a)) (fun h => by rw [Bd.returns] at h; cases h)
  refine ⟨_, _, ?_, hrun2, hended2, _, _, rfl, ?_, ⟨_, rfl⟩, hW2, hsame2.mono (by decide) (by decide)⟩
  · exact own_retA X1 hx Bd.returns rfl rfl rfl (hb hby d1_7) hr2
  · show Q_rmPick0 Z a h0 n0 _ T1.heap _
    rw [e1]
    exact ⟨rfl, N0, rfl⟩
theorem d1_8 : decode method_2_code 8 = .ok (.iload_n 0, 1) := by decide +kernel
theorem d1_9 : decode method_2_code 9 = .ok (.iconst 1, 1) := by decide +kernel
theorem d1_10 : decode method_2_code 10 = .ok (.if_icmp .ne 7, 3) := by decide +kernel
theorem d1_13 : decode method_2_code 13 = .ok (.getstatic 13, 3) := by decide +kernel
theorem d1_16 : decode method_2_code 16 = .ok (.areturn, 1) := by decide +kernel
theorem ef_rmPick1 (m : MethodId)  : entryFrame m #[(.int (1 : Int32))] 1 = mkF m 0 #[.val (.int (1 : Int32))] [] := by first | (simp [entryFrame, mkF, argsToLocals, Value.category]; done) | rfl
def Q_rmPick1 (Z : State) (a : Addr) (h0 : Heap) (n0 : Nat) (v_ : Option Value) (h_ : Heap) (L_ : List Loc) : Prop := v_ = some (.ref a) ∧ Fr n0 L_ ∧ h_ = h0
set_option maxRecDepth 65536 in
set_option maxHeartbeats 40000000 in
theorem rmPick1 (l : Launch) (Z : State) (a0 : Array Value) (hw : ∀ d ∈ tables_1, d.before a0 Z = true) (ws : List Jvm.Cond) (a : Addr) (h0 : Heap) (n0 : Nat) (Z0 : n0 ≤ h0.size) (O0 : Old Z n0 h0) (u1 : Sta Z Z.heap "com/example/portcullis/portcullis/hashing/HashAlgorithm" "PBKDF2_WITH_HMAC_SHA256" "Lcom/example/portcullis/portcullis/hashing/HashAlgorithm;" (.ref a)) :
    MetFree l own_y0 (head1 (Jvm.Cond.code own_y0 method_2_code 1 (some (.object "com/example/portcullis/portcullis/hashing/HashAlgorithm")) :: ws) ({ frames := 0, cells := 0, slots := 0, locals := 0 } : Room)) (fun a_ U_ => a_ = #[(.int (1 : Int32))] ∧ Z.Warmed39 U_.vm ∧ U_.heap = h0) (fun _ _ _ _ _ => True) (fun _ U_ o_ U2_ => ∃ v_ L_, o_ = .returned v_ ∧ Q_rmPick1 Z a h0 n0 v_ U2_.heap L_ ∧ FrameEnd U_ o_ U2_ L_ ({ frames := 0, cells := 0, slots := 0, locals := 0 } : Room).cells ({ frames := 0, cells := 0, slots := 0, locals := 0 } : Room).slots) := by
  refine MetFree.of_bodySF (plainFor_of_name pn_0) hisR ?_
  intro p e s m args below meth c s₁ Bd hml0 hP hK
  obtain ⟨rfl, hZ, hh⟩ := hP
  have hx := Bd.exec
  have hby := Bd.bytes
  have hml : c.maxLocals = 1 := hml0
  have hown : s.vm.findClass "com/example/portcullis/portcullis/hashing/HashAlgorithmIsKeyDerivationPinLaw" = some m.cls := findClass_of_methodNamed Bd.named
  have hnm := (name_of_methodNamed Bd.named Bd.method).1
  have X0 : Stand p l e ({ frames := 0, cells := 0, slots := 0, locals := 0 } : Room) s m #[(.int (1 : Int32))] below meth c s₁ [] 0 0 := Stand.of_body Bd
  have e0 : s₁.heap = h0 := by rw [← hh, Bd.state]; rfl
  have N0 := Fr.nil n0
  refine own_go (A := s₁.setTop (mkF m 0 #[.val (.int (1 : Int32))] [])) (fun t_ k_ => castTop (ef_rmPick1 m ) k_) ?_
  refine own_go (A := s₁.setTop (mkF m 13 #[.val (.int (1 : Int32))] [])) (fun t_ k_ => ?_) ?_
  · show Steps p.tables e below (s₁.setTop (mkF m 0 #[.val (.int (1 : Int32))] [])) t_
    refine XS.iloadN X0.here hx rfl (hb hby d1_0) rfl ?_
    show Steps p.tables e below (s₁.setTop (mkF m 1 #[.val (.int (1 : Int32))] [(.int (1 : Int32))])) t_
    refine XS.ifYes X0.here hx rfl (pc0 := 1) (pc' := 8) rfl (hb hby d1_1) rfl ((if0 _ _).trans (feq (by decide : ¬ ((1 : Int32) = (0 : Int32)))).2) (by decide) (by decide) ?_
    show Steps p.tables e below (s₁.setTop (mkF m 8 #[.val (.int (1 : Int32))] [])) t_
    refine XS.iloadN X0.here hx rfl (hb hby d1_8) rfl ?_
    show Steps p.tables e below (s₁.setTop (mkF m 9 #[.val (.int (1 : Int32))] [(.int (1 : Int32))])) t_
    refine XS.iconst X0.here hx rfl (hb hby d1_9) ?_
    show Steps p.tables e below (s₁.setTop (mkF m 10 #[.val (.int (1 : Int32))] [(.int (1 : Int32)), (.int (1 : Int32))])) t_
    refine XS.icmpNo X0.here hx rfl (hb hby d1_10) rfl (teq (by decide : (1 : Int32) = (1 : Int32))).2 ?_
    exact k_
  obtain ⟨T1, X1, e1, st1⟩ := getS2 X0 hx hZ hown (host := "") (Or.inl (own_w hw 28 rfl)) Via.refl e0 (u1.ext O0.2) (g := (mkF m 13 #[.val (.int (1 : Int32))] [])) rfl (hb hby d1_13)
  refine own_go st1 ?_
  obtain ⟨fs2, hr2, hrun2, hended2, hW2, hsame2⟩ := X1.leave (v := some (.ref a)) (fun h => by rw [Bd.returns] at h; cases h)
  refine ⟨_, _, ?_, hrun2, hended2, _, _, rfl, ?_, ⟨_, rfl⟩, hW2, hsame2.mono (by decide) (by decide)⟩
  · exact own_retA X1 hx Bd.returns rfl rfl rfl (hb hby d1_16) hr2
  · show Q_rmPick1 Z a h0 n0 _ T1.heap _
    rw [e1]
    exact ⟨rfl, N0, rfl⟩
theorem d1_17 : decode method_2_code 17 = .ok (.iload_n 0, 1) := by decide +kernel
theorem d1_18 : decode method_2_code 18 = .ok (.iconst 2, 1) := by decide +kernel
theorem d1_19 : decode method_2_code 19 = .ok (.if_icmp .ne 7, 3) := by decide +kernel
theorem d1_22 : decode method_2_code 22 = .ok (.getstatic 16, 3) := by decide +kernel
theorem d1_25 : decode method_2_code 25 = .ok (.areturn, 1) := by decide +kernel
theorem ef_rmPick2 (m : MethodId)  : entryFrame m #[(.int (2 : Int32))] 1 = mkF m 0 #[.val (.int (2 : Int32))] [] := by first | (simp [entryFrame, mkF, argsToLocals, Value.category]; done) | rfl
def Q_rmPick2 (Z : State) (a : Addr) (h0 : Heap) (n0 : Nat) (v_ : Option Value) (h_ : Heap) (L_ : List Loc) : Prop := v_ = some (.ref a) ∧ Fr n0 L_ ∧ h_ = h0
set_option maxRecDepth 65536 in
set_option maxHeartbeats 40000000 in
theorem rmPick2 (l : Launch) (Z : State) (a0 : Array Value) (hw : ∀ d ∈ tables_1, d.before a0 Z = true) (ws : List Jvm.Cond) (a : Addr) (h0 : Heap) (n0 : Nat) (Z0 : n0 ≤ h0.size) (O0 : Old Z n0 h0) (u1 : Sta Z Z.heap "com/example/portcullis/portcullis/hashing/HashAlgorithm" "PBKDF2_WITH_HMAC_SHA512" "Lcom/example/portcullis/portcullis/hashing/HashAlgorithm;" (.ref a)) :
    MetFree l own_y0 (head1 (Jvm.Cond.code own_y0 method_2_code 1 (some (.object "com/example/portcullis/portcullis/hashing/HashAlgorithm")) :: ws) ({ frames := 0, cells := 0, slots := 0, locals := 0 } : Room)) (fun a_ U_ => a_ = #[(.int (2 : Int32))] ∧ Z.Warmed39 U_.vm ∧ U_.heap = h0) (fun _ _ _ _ _ => True) (fun _ U_ o_ U2_ => ∃ v_ L_, o_ = .returned v_ ∧ Q_rmPick2 Z a h0 n0 v_ U2_.heap L_ ∧ FrameEnd U_ o_ U2_ L_ ({ frames := 0, cells := 0, slots := 0, locals := 0 } : Room).cells ({ frames := 0, cells := 0, slots := 0, locals := 0 } : Room).slots) := by
  refine MetFree.of_bodySF (plainFor_of_name pn_0) hisR ?_
  intro p e s m args below meth c s₁ Bd hml0 hP hK
  obtain ⟨rfl, hZ, hh⟩ := hP
  have hx := Bd.exec
  have hby := Bd.bytes
  have hml : c.maxLocals = 1 := hml0
  have hown : s.vm.findClass "com/example/portcullis/portcullis/hashing/HashAlgorithmIsKeyDerivationPinLaw" = some m.cls := findClass_of_methodNamed Bd.named
  have hnm := (name_of_methodNamed Bd.named Bd.method).1
  have X0 : Stand p l e ({ frames := 0, cells := 0, slots := 0, locals := 0 } : Room) s m #[(.int (2 : Int32))] below meth c s₁ [] 0 0 := Stand.of_body Bd
  have e0 : s₁.heap = h0 := by rw [← hh, Bd.state]; rfl
  have N0 := Fr.nil n0
  refine own_go (A := s₁.setTop (mkF m 0 #[.val (.int (2 : Int32))] [])) (fun t_ k_ => castTop (ef_rmPick2 m ) k_) ?_
  refine own_go (A := s₁.setTop (mkF m 22 #[.val (.int (2 : Int32))] [])) (fun t_ k_ => ?_) ?_
  · show Steps p.tables e below (s₁.setTop (mkF m 0 #[.val (.int (2 : Int32))] [])) t_
    refine XS.iloadN X0.here hx rfl (hb hby d1_0) rfl ?_
    show Steps p.tables e below (s₁.setTop (mkF m 1 #[.val (.int (2 : Int32))] [(.int (2 : Int32))])) t_
    refine XS.ifYes X0.here hx rfl (pc0 := 1) (pc' := 8) rfl (hb hby d1_1) rfl ((if0 _ _).trans (feq (by decide : ¬ ((2 : Int32) = (0 : Int32)))).2) (by decide) (by decide) ?_
    show Steps p.tables e below (s₁.setTop (mkF m 8 #[.val (.int (2 : Int32))] [])) t_
    refine XS.iloadN X0.here hx rfl (hb hby d1_8) rfl ?_
    show Steps p.tables e below (s₁.setTop (mkF m 9 #[.val (.int (2 : Int32))] [(.int (2 : Int32))])) t_
    refine XS.iconst X0.here hx rfl (hb hby d1_9) ?_
    show Steps p.tables e below (s₁.setTop (mkF m 10 #[.val (.int (2 : Int32))] [(.int (1 : Int32)), (.int (2 : Int32))])) t_
    refine XS.icmpYes X0.here hx rfl (pc0 := 10) (pc' := 17) rfl (hb hby d1_10) rfl (feq (by decide : ¬ ((2 : Int32) = (1 : Int32)))).2 (by decide) (by decide) ?_
    show Steps p.tables e below (s₁.setTop (mkF m 17 #[.val (.int (2 : Int32))] [])) t_
    refine XS.iloadN X0.here hx rfl (hb hby d1_17) rfl ?_
    show Steps p.tables e below (s₁.setTop (mkF m 18 #[.val (.int (2 : Int32))] [(.int (2 : Int32))])) t_
    refine XS.iconst X0.here hx rfl (hb hby d1_18) ?_
    show Steps p.tables e below (s₁.setTop (mkF m 19 #[.val (.int (2 : Int32))] [(.int (2 : Int32)), (.int (2 : Int32))])) t_
    refine XS.icmpNo X0.here hx rfl (hb hby d1_19) rfl (teq (by decide : (2 : Int32) = (2 : Int32))).2 ?_
    exact k_
  obtain ⟨T1, X1, e1, st1⟩ := getS2 X0 hx hZ hown (host := "") (Or.inl (own_w hw 26 rfl)) Via.refl e0 (u1.ext O0.2) (g := (mkF m 22 #[.val (.int (2 : Int32))] [])) rfl (hb hby d1_22)
  refine own_go st1 ?_
  obtain ⟨fs2, hr2, hrun2, hended2, hW2, hsame2⟩ := X1.leave (v := some (.ref a)) (fun h => by rw [Bd.returns] at h; cases h)
  refine ⟨_, _, ?_, hrun2, hended2, _, _, rfl, ?_, ⟨_, rfl⟩, hW2, hsame2.mono (by decide) (by decide)⟩
  · exact own_retA X1 hx Bd.returns rfl rfl rfl (hb hby d1_25) hr2
  · show Q_rmPick2 Z a h0 n0 _ T1.heap _
    rw [e1]
    exact ⟨rfl, N0, rfl⟩
theorem d1_26 : decode method_2_code 26 = .ok (.iload_n 0, 1) := by decide +kernel
theorem d1_27 : decode method_2_code 27 = .ok (.iconst 3, 1) := by decide +kernel
theorem d1_28 : decode method_2_code 28 = .ok (.if_icmp .ne 7, 3) := by decide +kernel
theorem d1_31 : decode method_2_code 31 = .ok (.getstatic 19, 3) := by decide +kernel
theorem d1_34 : decode method_2_code 34 = .ok (.areturn, 1) := by decide +kernel
theorem ef_rmPick3 (m : MethodId)  : entryFrame m #[(.int (3 : Int32))] 1 = mkF m 0 #[.val (.int (3 : Int32))] [] := by first | (simp [entryFrame, mkF, argsToLocals, Value.category]; done) | rfl
def Q_rmPick3 (Z : State) (a : Addr) (h0 : Heap) (n0 : Nat) (v_ : Option Value) (h_ : Heap) (L_ : List Loc) : Prop := v_ = some (.ref a) ∧ Fr n0 L_ ∧ h_ = h0
set_option maxRecDepth 65536 in
set_option maxHeartbeats 40000000 in
theorem rmPick3 (l : Launch) (Z : State) (a0 : Array Value) (hw : ∀ d ∈ tables_1, d.before a0 Z = true) (ws : List Jvm.Cond) (a : Addr) (h0 : Heap) (n0 : Nat) (Z0 : n0 ≤ h0.size) (O0 : Old Z n0 h0) (u1 : Sta Z Z.heap "com/example/portcullis/portcullis/hashing/HashAlgorithm" "MD5" "Lcom/example/portcullis/portcullis/hashing/HashAlgorithm;" (.ref a)) :
    MetFree l own_y0 (head1 (Jvm.Cond.code own_y0 method_2_code 1 (some (.object "com/example/portcullis/portcullis/hashing/HashAlgorithm")) :: ws) ({ frames := 0, cells := 0, slots := 0, locals := 0 } : Room)) (fun a_ U_ => a_ = #[(.int (3 : Int32))] ∧ Z.Warmed39 U_.vm ∧ U_.heap = h0) (fun _ _ _ _ _ => True) (fun _ U_ o_ U2_ => ∃ v_ L_, o_ = .returned v_ ∧ Q_rmPick3 Z a h0 n0 v_ U2_.heap L_ ∧ FrameEnd U_ o_ U2_ L_ ({ frames := 0, cells := 0, slots := 0, locals := 0 } : Room).cells ({ frames := 0, cells := 0, slots := 0, locals := 0 } : Room).slots) := by
  refine MetFree.of_bodySF (plainFor_of_name pn_0) hisR ?_
  intro p e s m args below meth c s₁ Bd hml0 hP hK
  obtain ⟨rfl, hZ, hh⟩ := hP
  have hx := Bd.exec
  have hby := Bd.bytes
  have hml : c.maxLocals = 1 := hml0
  have hown : s.vm.findClass "com/example/portcullis/portcullis/hashing/HashAlgorithmIsKeyDerivationPinLaw" = some m.cls := findClass_of_methodNamed Bd.named
  have hnm := (name_of_methodNamed Bd.named Bd.method).1
  have X0 : Stand p l e ({ frames := 0, cells := 0, slots := 0, locals := 0 } : Room) s m #[(.int (3 : Int32))] below meth c s₁ [] 0 0 := Stand.of_body Bd
  have e0 : s₁.heap = h0 := by rw [← hh, Bd.state]; rfl
  have N0 := Fr.nil n0
  refine own_go (A := s₁.setTop (mkF m 0 #[.val (.int (3 : Int32))] [])) (fun t_ k_ => castTop (ef_rmPick3 m ) k_) ?_
  refine own_go (A := s₁.setTop (mkF m 31 #[.val (.int (3 : Int32))] [])) (fun t_ k_ => ?_) ?_
  · show Steps p.tables e below (s₁.setTop (mkF m 0 #[.val (.int (3 : Int32))] [])) t_
    refine XS.iloadN X0.here hx rfl (hb hby d1_0) rfl ?_
    show Steps p.tables e below (s₁.setTop (mkF m 1 #[.val (.int (3 : Int32))] [(.int (3 : Int32))])) t_
    refine XS.ifYes X0.here hx rfl (pc0 := 1) (pc' := 8) rfl (hb hby d1_1) rfl ((if0 _ _).trans (feq (by decide : ¬ ((3 : Int32) = (0 : Int32)))).2) (by decide) (by decide) ?_
    show Steps p.tables e below (s₁.setTop (mkF m 8 #[.val (.int (3 : Int32))] [])) t_
    refine XS.iloadN X0.here hx rfl (hb hby d1_8) rfl ?_
    show Steps p.tables e below (s₁.setTop (mkF m 9 #[.val (.int (3 : Int32))] [(.int (3 : Int32))])) t_
    refine XS.iconst X0.here hx rfl (hb hby d1_9) ?_
    show Steps p.tables e below (s₁.setTop (mkF m 10 #[.val (.int (3 : Int32))] [(.int (1 : Int32)), (.int (3 : Int32))])) t_
    refine XS.icmpYes X0.here hx rfl (pc0 := 10) (pc' := 17) rfl (hb hby d1_10) rfl (feq (by decide : ¬ ((3 : Int32) = (1 : Int32)))).2 (by decide) (by decide) ?_
    show Steps p.tables e below (s₁.setTop (mkF m 17 #[.val (.int (3 : Int32))] [])) t_
    refine XS.iloadN X0.here hx rfl (hb hby d1_17) rfl ?_
    show Steps p.tables e below (s₁.setTop (mkF m 18 #[.val (.int (3 : Int32))] [(.int (3 : Int32))])) t_
    refine XS.iconst X0.here hx rfl (hb hby d1_18) ?_
    show Steps p.tables e below (s₁.setTop (mkF m 19 #[.val (.int (3 : Int32))] [(.int (2 : Int32)), (.int (3 : Int32))])) t_
    refine XS.icmpYes X0.here hx rfl (pc0 := 19) (pc' := 26) rfl (hb hby d1_19) rfl (feq (by decide : ¬ ((3 : Int32) = (2 : Int32)))).2 (by decide) (by decide) ?_
    show Steps p.tables e below (s₁.setTop (mkF m 26 #[.val (.int (3 : Int32))] [])) t_
    refine XS.iloadN X0.here hx rfl (hb hby d1_26) rfl ?_
    show Steps p.tables e below (s₁.setTop (mkF m 27 #[.val (.int (3 : Int32))] [(.int (3 : Int32))])) t_
    refine XS.iconst X0.here hx rfl (hb hby d1_27) ?_
    show Steps p.tables e below (s₁.setTop (mkF m 28 #[.val (.int (3 : Int32))] [(.int (3 : Int32)), (.int (3 : Int32))])) t_
    refine XS.icmpNo X0.here hx rfl (hb hby d1_28) rfl (teq (by decide : (3 : Int32) = (3 : Int32))).2 ?_
    exact k_
  obtain ⟨T1, X1, e1, st1⟩ := getS2 X0 hx hZ hown (host := "") (Or.inl (own_w hw 20 rfl)) Via.refl e0 (u1.ext O0.2) (g := (mkF m 31 #[.val (.int (3 : Int32))] [])) rfl (hb hby d1_31)
  refine own_go st1 ?_
  obtain ⟨fs2, hr2, hrun2, hended2, hW2, hsame2⟩ := X1.leave (v := some (.ref a)) (fun h => by rw [Bd.returns] at h; cases h)
  refine ⟨_, _, ?_, hrun2, hended2, _, _, rfl, ?_, ⟨_, rfl⟩, hW2, hsame2.mono (by decide) (by decide)⟩
  · exact own_retA X1 hx Bd.returns rfl rfl rfl (hb hby d1_34) hr2
  · show Q_rmPick3 Z a h0 n0 _ T1.heap _
    rw [e1]
    exact ⟨rfl, N0, rfl⟩
theorem d1_35 : decode method_2_code 35 = .ok (.iload_n 0, 1) := by decide +kernel
theorem d1_36 : decode method_2_code 36 = .ok (.iconst 4, 1) := by decide +kernel
theorem d1_37 : decode method_2_code 37 = .ok (.if_icmp .ne 7, 3) := by decide +kernel
theorem d1_40 : decode method_2_code 40 = .ok (.getstatic 22, 3) := by decide +kernel
theorem d1_43 : decode method_2_code 43 = .ok (.areturn, 1) := by decide +kernel
theorem ef_rmPick4 (m : MethodId)  : entryFrame m #[(.int (4 : Int32))] 1 = mkF m 0 #[.val (.int (4 : Int32))] [] := by first | (simp [entryFrame, mkF, argsToLocals, Value.category]; done) | rfl
def Q_rmPick4 (Z : State) (a : Addr) (h0 : Heap) (n0 : Nat) (v_ : Option Value) (h_ : Heap) (L_ : List Loc) : Prop := v_ = some (.ref a) ∧ Fr n0 L_ ∧ h_ = h0
set_option maxRecDepth 65536 in
set_option maxHeartbeats 40000000 in
theorem rmPick4 (l : Launch) (Z : State) (a0 : Array Value) (hw : ∀ d ∈ tables_1, d.before a0 Z = true) (ws : List Jvm.Cond) (a : Addr) (h0 : Heap) (n0 : Nat) (Z0 : n0 ≤ h0.size) (O0 : Old Z n0 h0) (u1 : Sta Z Z.heap "com/example/portcullis/portcullis/hashing/HashAlgorithm" "SHA_1" "Lcom/example/portcullis/portcullis/hashing/HashAlgorithm;" (.ref a)) :
    MetFree l own_y0 (head1 (Jvm.Cond.code own_y0 method_2_code 1 (some (.object "com/example/portcullis/portcullis/hashing/HashAlgorithm")) :: ws) ({ frames := 0, cells := 0, slots := 0, locals := 0 } : Room)) (fun a_ U_ => a_ = #[(.int (4 : Int32))] ∧ Z.Warmed39 U_.vm ∧ U_.heap = h0) (fun _ _ _ _ _ => True) (fun _ U_ o_ U2_ => ∃ v_ L_, o_ = .returned v_ ∧ Q_rmPick4 Z a h0 n0 v_ U2_.heap L_ ∧ FrameEnd U_ o_ U2_ L_ ({ frames := 0, cells := 0, slots := 0, locals := 0 } : Room).cells ({ frames := 0, cells := 0, slots := 0, locals := 0 } : Room).slots) := by
  refine MetFree.of_bodySF (plainFor_of_name pn_0) hisR ?_
  intro p e s m args below meth c s₁ Bd hml0 hP hK
  obtain ⟨rfl, hZ, hh⟩ := hP
  have hx := Bd.exec
  have hby := Bd.bytes
  have hml : c.maxLocals = 1 := hml0
  have hown : s.vm.findClass "com/example/portcullis/portcullis/hashing/HashAlgorithmIsKeyDerivationPinLaw" = some m.cls := findClass_of_methodNamed Bd.named
  have hnm := (name_of_methodNamed Bd.named Bd.method).1
  have X0 : Stand p l e ({ frames := 0, cells := 0, slots := 0, locals := 0 } : Room) s m #[(.int (4 : Int32))] below meth c s₁ [] 0 0 := Stand.of_body Bd
  have e0 : s₁.heap = h0 := by rw [← hh, Bd.state]; rfl
  have N0 := Fr.nil n0
  refine own_go (A := s₁.setTop (mkF m 0 #[.val (.int (4 : Int32))] [])) (fun t_ k_ => castTop (ef_rmPick4 m ) k_) ?_
  refine own_go (A := s₁.setTop (mkF m 40 #[.val (.int (4 : Int32))] [])) (fun t_ k_ => ?_) ?_
  · show Steps p.tables e below (s₁.setTop (mkF m 0 #[.val (.int (4 : Int32))] [])) t_
    refine XS.iloadN X0.here hx rfl (hb hby d1_0) rfl ?_
    show Steps p.tables e below (s₁.setTop (mkF m 1 #[.val (.int (4 : Int32))] [(.int (4 : Int32))])) t_
    refine XS.ifYes X0.here hx rfl (pc0 := 1) (pc' := 8) rfl (hb hby d1_1) rfl ((if0 _ _).trans (feq (by decide : ¬ ((4 : Int32) = (0 : Int32)))).2) (by decide) (by decide) ?_
    show Steps p.tables e below (s₁.setTop (mkF m 8 #[.val (.int (4 : Int32))] [])) t_
    refine XS.iloadN X0.here hx rfl (hb hby d1_8) rfl ?_
    show Steps p.tables e below (s₁.setTop (mkF m 9 #[.val (.int (4 : Int32))] [(.int (4 : Int32))])) t_
    refine XS.iconst X0.here hx rfl (hb hby d1_9) ?_
    show Steps p.tables e below (s₁.setTop (mkF m 10 #[.val (.int (4 : Int32))] [(.int (1 : Int32)), (.int (4 : Int32))])) t_
    refine XS.icmpYes X0.here hx rfl (pc0 := 10) (pc' := 17) rfl (hb hby d1_10) rfl (feq (by decide : ¬ ((4 : Int32) = (1 : Int32)))).2 (by decide) (by decide) ?_
    show Steps p.tables e below (s₁.setTop (mkF m 17 #[.val (.int (4 : Int32))] [])) t_
    refine XS.iloadN X0.here hx rfl (hb hby d1_17) rfl ?_
    show Steps p.tables e below (s₁.setTop (mkF m 18 #[.val (.int (4 : Int32))] [(.int (4 : Int32))])) t_
    refine XS.iconst X0.here hx rfl (hb hby d1_18) ?_
    show Steps p.tables e below (s₁.setTop (mkF m 19 #[.val (.int (4 : Int32))] [(.int (2 : Int32)), (.int (4 : Int32))])) t_
    refine XS.icmpYes X0.here hx rfl (pc0 := 19) (pc' := 26) rfl (hb hby d1_19) rfl (feq (by decide : ¬ ((4 : Int32) = (2 : Int32)))).2 (by decide) (by decide) ?_
    show Steps p.tables e below (s₁.setTop (mkF m 26 #[.val (.int (4 : Int32))] [])) t_
    refine XS.iloadN X0.here hx rfl (hb hby d1_26) rfl ?_
    show Steps p.tables e below (s₁.setTop (mkF m 27 #[.val (.int (4 : Int32))] [(.int (4 : Int32))])) t_
    refine XS.iconst X0.here hx rfl (hb hby d1_27) ?_
    show Steps p.tables e below (s₁.setTop (mkF m 28 #[.val (.int (4 : Int32))] [(.int (3 : Int32)), (.int (4 : Int32))])) t_
    refine XS.icmpYes X0.here hx rfl (pc0 := 28) (pc' := 35) rfl (hb hby d1_28) rfl (feq (by decide : ¬ ((4 : Int32) = (3 : Int32)))).2 (by decide) (by decide) ?_
    show Steps p.tables e below (s₁.setTop (mkF m 35 #[.val (.int (4 : Int32))] [])) t_
    refine XS.iloadN X0.here hx rfl (hb hby d1_35) rfl ?_
    show Steps p.tables e below (s₁.setTop (mkF m 36 #[.val (.int (4 : Int32))] [(.int (4 : Int32))])) t_
    refine XS.iconst X0.here hx rfl (hb hby d1_36) ?_
    show Steps p.tables e below (s₁.setTop (mkF m 37 #[.val (.int (4 : Int32))] [(.int (4 : Int32)), (.int (4 : Int32))])) t_
    refine XS.icmpNo X0.here hx rfl (hb hby d1_37) rfl (teq (by decide : (4 : Int32) = (4 : Int32))).2 ?_
    exact k_
  obtain ⟨T1, X1, e1, st1⟩ := getS2 X0 hx hZ hown (host := "") (Or.inl (own_w hw 30 rfl)) Via.refl e0 (u1.ext O0.2) (g := (mkF m 40 #[.val (.int (4 : Int32))] [])) rfl (hb hby d1_40)
  refine own_go st1 ?_
  obtain ⟨fs2, hr2, hrun2, hended2, hW2, hsame2⟩ := X1.leave (v := some (.ref a)) (fun h => by rw [Bd.returns] at h; cases h)
  refine ⟨_, _, ?_, hrun2, hended2, _, _, rfl, ?_, ⟨_, rfl⟩, hW2, hsame2.mono (by decide) (by decide)⟩
  · exact own_retA X1 hx Bd.returns rfl rfl rfl (hb hby d1_43) hr2
  · show Q_rmPick4 Z a h0 n0 _ T1.heap _
    rw [e1]
    exact ⟨rfl, N0, rfl⟩
theorem d1_44 : decode method_2_code 44 = .ok (.iload_n 0, 1) := by decide +kernel
theorem d1_45 : decode method_2_code 45 = .ok (.iconst 5, 1) := by decide +kernel
theorem d1_46 : decode method_2_code 46 = .ok (.if_icmp .ne 7, 3) := by decide +kernel
theorem d1_49 : decode method_2_code 49 = .ok (.getstatic 25, 3) := by decide +kernel
theorem d1_52 : decode method_2_code 52 = .ok (.areturn, 1) := by decide +kernel
theorem ef_rmPick5 (m : MethodId)  : entryFrame m #[(.int (5 : Int32))] 1 = mkF m 0 #[.val (.int (5 : Int32))] [] := by first | (simp [entryFrame, mkF, argsToLocals, Value.category]; done) | rfl
def Q_rmPick5 (Z : State) (a : Addr) (h0 : Heap) (n0 : Nat) (v_ : Option Value) (h_ : Heap) (L_ : List Loc) : Prop := v_ = some (.ref a) ∧ Fr n0 L_ ∧ h_ = h0
set_option maxRecDepth 65536 in
set_option maxHeartbeats 40000000 in
theorem rmPick5 (l : Launch) (Z : State) (a0 : Array Value) (hw : ∀ d ∈ tables_1, d.before a0 Z = true) (ws : List Jvm.Cond) (a : Addr) (h0 : Heap) (n0 : Nat) (Z0 : n0 ≤ h0.size) (O0 : Old Z n0 h0) (u1 : Sta Z Z.heap "com/example/portcullis/portcullis/hashing/HashAlgorithm" "SHA_256" "Lcom/example/portcullis/portcullis/hashing/HashAlgorithm;" (.ref a)) :
    MetFree l own_y0 (head1 (Jvm.Cond.code own_y0 method_2_code 1 (some (.object "com/example/portcullis/portcullis/hashing/HashAlgorithm")) :: ws) ({ frames := 0, cells := 0, slots := 0, locals := 0 } : Room)) (fun a_ U_ => a_ = #[(.int (5 : Int32))] ∧ Z.Warmed39 U_.vm ∧ U_.heap = h0) (fun _ _ _ _ _ => True) (fun _ U_ o_ U2_ => ∃ v_ L_, o_ = .returned v_ ∧ Q_rmPick5 Z a h0 n0 v_ U2_.heap L_ ∧ FrameEnd U_ o_ U2_ L_ ({ frames := 0, cells := 0, slots := 0, locals := 0 } : Room).cells ({ frames := 0, cells := 0, slots := 0, locals := 0 } : Room).slots) := by
  refine MetFree.of_bodySF (plainFor_of_name pn_0) hisR ?_
  intro p e s m args below meth c s₁ Bd hml0 hP hK
  obtain ⟨rfl, hZ, hh⟩ := hP
  have hx := Bd.exec
  have hby := Bd.bytes
  have hml : c.maxLocals = 1 := hml0
  have hown : s.vm.findClass "com/example/portcullis/portcullis/hashing/HashAlgorithmIsKeyDerivationPinLaw" = some m.cls := findClass_of_methodNamed Bd.named
  have hnm := (name_of_methodNamed Bd.named Bd.method).1
  have X0 : Stand p l e ({ frames := 0, cells := 0, slots := 0, locals := 0 } : Room) s m #[(.int (5 : Int32))] below meth c s₁ [] 0 0 := Stand.of_body Bd
  have e0 : s₁.heap = h0 := by rw [← hh, Bd.state]; rfl
  have N0 := Fr.nil n0
  refine own_go (A := s₁.setTop (mkF m 0 #[.val (.int (5 : Int32))] [])) (fun t_ k_ => castTop (ef_rmPick5 m ) k_) ?_
  refine own_go (A := s₁.setTop (mkF m 49 #[.val (.int (5 : Int32))] [])) (fun t_ k_ => ?_) ?_
  · show Steps p.tables e below (s₁.setTop (mkF m 0 #[.val (.int (5 : Int32))] [])) t_
    refine XS.iloadN X0.here hx rfl (hb hby d1_0) rfl ?_
    show Steps p.tables e below (s₁.setTop (mkF m 1 #[.val (.int (5 : Int32))] [(.int (5 : Int32))])) t_
    refine XS.ifYes X0.here hx rfl (pc0 := 1) (pc' := 8) rfl (hb hby d1_1) rfl ((if0 _ _).trans (feq (by decide : ¬ ((5 : Int32) = (0 : Int32)))).2) (by decide) (by decide) ?_
    show Steps p.tables e below (s₁.setTop (mkF m 8 #[.val (.int (5 : Int32))] [])) t_
    refine XS.iloadN X0.here hx rfl (hb hby d1_8) rfl ?_
    show Steps p.tables e below (s₁.setTop (mkF m 9 #[.val (.int (5 : Int32))] [(.int (5 : Int32))])) t_
    refine XS.iconst X0.here hx rfl (hb hby d1_9) ?_
    show Steps p.tables e below (s₁.setTop (mkF m 10 #[.val (.int (5 : Int32))] [(.int (1 : Int32)), (.int (5 : Int32))])) t_
    refine XS.icmpYes X0.here hx rfl (pc0 := 10) (pc' := 17) rfl (hb hby d1_10) rfl (feq (by decide : ¬ ((5 : Int32) = (1 : Int32)))).2 (by decide) (by decide) ?_
    show Steps p.tables e below (s₁.setTop (mkF m 17 #[.val (.int (5 : Int32))] [])) t_
    refine XS.iloadN X0.here hx rfl (hb hby d1_17) rfl ?_
    show Steps p.tables e below (s₁.setTop (mkF m 18 #[.val (.int (5 : Int32))] [(.int (5 : Int32))])) t_
    refine XS.iconst X0.here hx rfl (hb hby d1_18) ?_
    show Steps p.tables e below (s₁.setTop (mkF m 19 #[.val (.int (5 : Int32))] [(.int (2 : Int32)), (.int (5 : Int32))])) t_
    refine XS.icmpYes X0.here hx rfl (pc0 := 19) (pc' := 26) rfl (hb hby d1_19) rfl (feq (by decide : ¬ ((5 : Int32) = (2 : Int32)))).2 (by decide) (by decide) ?_
    show Steps p.tables e below (s₁.setTop (mkF m 26 #[.val (.int (5 : Int32))] [])) t_
    refine XS.iloadN X0.here hx rfl (hb hby d1_26) rfl ?_
    show Steps p.tables e below (s₁.setTop (mkF m 27 #[.val (.int (5 : Int32))] [(.int (5 : Int32))])) t_
    refine XS.iconst X0.here hx rfl (hb hby d1_27) ?_
    show Steps p.tables e below (s₁.setTop (mkF m 28 #[.val (.int (5 : Int32))] [(.int (3 : Int32)), (.int (5 : Int32))])) t_
    refine XS.icmpYes X0.here hx rfl (pc0 := 28) (pc' := 35) rfl (hb hby d1_28) rfl (feq (by decide : ¬ ((5 : Int32) = (3 : Int32)))).2 (by decide) (by decide) ?_
    show Steps p.tables e below (s₁.setTop (mkF m 35 #[.val (.int (5 : Int32))] [])) t_
    refine XS.iloadN X0.here hx rfl (hb hby d1_35) rfl ?_
    show Steps p.tables e below (s₁.setTop (mkF m 36 #[.val (.int (5 : Int32))] [(.int (5 : Int32))])) t_
    refine XS.iconst X0.here hx rfl (hb hby d1_36) ?_
    show Steps p.tables e below (s₁.setTop (mkF m 37 #[.val (.int (5 : Int32))] [(.int (4 : Int32)), (.int (5 : Int32))])) t_
    refine XS.icmpYes X0.here hx rfl (pc0 := 37) (pc' := 44) rfl (hb hby d1_37) rfl (feq (by decide : ¬ ((5 : Int32) = (4 : Int32)))).2 (by decide) (by decide) ?_
    show Steps p.tables e below (s₁.setTop (mkF m 44 #[.val (.int (5 : Int32))] [])) t_
    refine XS.iloadN X0.here hx rfl (hb hby d1_44) rfl ?_
    show Steps p.tables e below (s₁.setTop (mkF m 45 #[.val (.int (5 : Int32))] [(.int (5 : Int32))])) t_
    refine XS.iconst X0.here hx rfl (hb hby d1_45) ?_
    show Steps p.tables e below (s₁.setTop (mkF m 46 #[.val (.int (5 : Int32))] [(.int (5 : Int32)), (.int (5 : Int32))])) t_
    refine XS.icmpNo X0.here hx rfl (hb hby d1_46) rfl (teq (by decide : (5 : Int32) = (5 : Int32))).2 ?_
    exact k_
  obtain ⟨T1, X1, e1, st1⟩ := getS2 X0 hx hZ hown (host := "") (Or.inl (own_w hw 32 rfl)) Via.refl e0 (u1.ext O0.2) (g := (mkF m 49 #[.val (.int (5 : Int32))] [])) rfl (hb hby d1_49)
  refine own_go st1 ?_
  obtain ⟨fs2, hr2, hrun2, hended2, hW2, hsame2⟩ := X1.leave (v := some (.ref a)) (fun h => by rw [Bd.returns] at h; cases h)
  refine ⟨_, _, ?_, hrun2, hended2, _, _, rfl, ?_, ⟨_, rfl⟩, hW2, hsame2.mono (by decide) (by decide)⟩
  · exact own_retA X1 hx Bd.returns rfl rfl rfl (hb hby d1_52) hr2
  · show Q_rmPick5 Z a h0 n0 _ T1.heap _
    rw [e1]
    exact ⟨rfl, N0, rfl⟩
theorem d1_53 : decode method_2_code 53 = .ok (.iload_n 0, 1) := by decide +kernel
theorem d1_54 : decode method_2_code 54 = .ok (.bipush 6, 2) := by decide +kernel
theorem d1_56 : decode method_2_code 56 = .ok (.if_icmp .ne 7, 3) := by decide +kernel
theorem d1_59 : decode method_2_code 59 = .ok (.getstatic 28, 3) := by decide +kernel
theorem d1_62 : decode method_2_code 62 = .ok (.areturn, 1) := by decide +kernel
theorem ef_rmPick6 (m : MethodId)  : entryFrame m #[(.int (6 : Int32))] 1 = mkF m 0 #[.val (.int (6 : Int32))] [] := by first | (simp [entryFrame, mkF, argsToLocals, Value.category]; done) | rfl
def Q_rmPick6 (Z : State) (a : Addr) (h0 : Heap) (n0 : Nat) (v_ : Option Value) (h_ : Heap) (L_ : List Loc) : Prop := v_ = some (.ref a) ∧ Fr n0 L_ ∧ h_ = h0
set_option maxRecDepth 65536 in
set_option maxHeartbeats 40000000 in
theorem rmPick6 (l : Launch) (Z : State) (a0 : Array Value) (hw : ∀ d ∈ tables_1, d.before a0 Z = true) (ws : List Jvm.Cond) (a : Addr) (h0 : Heap) (n0 : Nat) (Z0 : n0 ≤ h0.size) (O0 : Old Z n0 h0) (u1 : Sta Z Z.heap "com/example/portcullis/portcullis/hashing/HashAlgorithm" "SHA_384" "Lcom/example/portcullis/portcullis/hashing/HashAlgorithm;" (.ref a)) :
    MetFree l own_y0 (head1 (Jvm.Cond.code own_y0 method_2_code 1 (some (.object "com/example/portcullis/portcullis/hashing/HashAlgorithm")) :: ws) ({ frames := 0, cells := 0, slots := 0, locals := 0 } : Room)) (fun a_ U_ => a_ = #[(.int (6 : Int32))] ∧ Z.Warmed39 U_.vm ∧ U_.heap = h0) (fun _ _ _ _ _ => True) (fun _ U_ o_ U2_ => ∃ v_ L_, o_ = .returned v_ ∧ Q_rmPick6 Z a h0 n0 v_ U2_.heap L_ ∧ FrameEnd U_ o_ U2_ L_ ({ frames := 0, cells := 0, slots := 0, locals := 0 } : Room).cells ({ frames := 0, cells := 0, slots := 0, locals := 0 } : Room).slots) := by
  refine MetFree.of_bodySF (plainFor_of_name pn_0) hisR ?_
  intro p e s m args below meth c s₁ Bd hml0 hP hK
  obtain ⟨rfl, hZ, hh⟩ := hP
  have hx := Bd.exec
  have hby := Bd.bytes
  have hml : c.maxLocals = 1 := hml0
  have hown : s.vm.findClass "com/example/portcullis/portcullis/hashing/HashAlgorithmIsKeyDerivationPinLaw" = some m.cls := findClass_of_methodNamed Bd.named
  have hnm := (name_of_methodNamed Bd.named Bd.method).1
  have X0 : Stand p l e ({ frames := 0, cells := 0, slots := 0, locals := 0 } : Room) s m #[(.int (6 : Int32))] below meth c s₁ [] 0 0 := Stand.of_body Bd
  have e0 : s₁.heap = h0 := by rw [← hh, Bd.state]; rfl
  have N0 := Fr.nil n0
  refine own_go (A := s₁.setTop (mkF m 0 #[.val (.int (6 : Int32))] [])) (fun t_ k_ => castTop (ef_rmPick6 m ) k_) ?_
  refine own_go (A := s₁.setTop (mkF m 59 #[.val (.int (6 : Int32))] [])) (fun t_ k_ => ?_) ?_
  · show Steps p.tables e below (s₁.setTop (mkF m 0 #[.val (.int (6 : Int32))] [])) t_
    refine XS.iloadN X0.here hx rfl (hb hby d1_0) rfl ?_
    show Steps p.tables e below (s₁.setTop (mkF m 1 #[.val (.int (6 : Int32))] [(.int (6 : Int32))])) t_
    refine XS.ifYes X0.here hx rfl (pc0 := 1) (pc' := 8) rfl (hb hby d1_1) rfl ((if0 _ _).trans (feq (by decide : ¬ ((6 : Int32) = (0 : Int32)))).2) (by decide) (by decide) ?_
    show Steps p.tables e below (s₁.setTop (mkF m 8 #[.val (.int (6 : Int32))] [])) t_
    refine XS.iloadN X0.here hx rfl (hb hby d1_8) rfl ?_
    show Steps p.tables e below (s₁.setTop (mkF m 9 #[.val (.int (6 : Int32))] [(.int (6 : Int32))])) t_
    refine XS.iconst X0.here hx rfl (hb hby d1_9) ?_
    show Steps p.tables e below (s₁.setTop (mkF m 10 #[.val (.int (6 : Int32))] [(.int (1 : Int32)), (.int (6 : Int32))])) t_
    refine XS.icmpYes X0.here hx rfl (pc0 := 10) (pc' := 17) rfl (hb hby d1_10) rfl (feq (by decide : ¬ ((6 : Int32) = (1 : Int32)))).2 (by decide) (by decide) ?_
    show Steps p.tables e below (s₁.setTop (mkF m 17 #[.val (.int (6 : Int32))] [])) t_
    refine XS.iloadN X0.here hx rfl (hb hby d1_17) rfl ?_
    show Steps p.tables e below (s₁.setTop (mkF m 18 #[.val (.int (6 : Int32))] [(.int (6 : Int32))])) t_
    refine XS.iconst X0.here hx rfl (hb hby d1_18) ?_
    show Steps p.tables e below (s₁.setTop (mkF m 19 #[.val (.int (6 : Int32))] [(.int (2 : Int32)), (.int (6 : Int32))])) t_
    refine XS.icmpYes X0.here hx rfl (pc0 := 19) (pc' := 26) rfl (hb hby d1_19) rfl (feq (by decide : ¬ ((6 : Int32) = (2 : Int32)))).2 (by decide) (by decide) ?_
    show Steps p.tables e below (s₁.setTop (mkF m 26 #[.val (.int (6 : Int32))] [])) t_
    refine XS.iloadN X0.here hx rfl (hb hby d1_26) rfl ?_
    show Steps p.tables e below (s₁.setTop (mkF m 27 #[.val (.int (6 : Int32))] [(.int (6 : Int32))])) t_
    refine XS.iconst X0.here hx rfl (hb hby d1_27) ?_
    show Steps p.tables e below (s₁.setTop (mkF m 28 #[.val (.int (6 : Int32))] [(.int (3 : Int32)), (.int (6 : Int32))])) t_
    refine XS.icmpYes X0.here hx rfl (pc0 := 28) (pc' := 35) rfl (hb hby d1_28) rfl (feq (by decide : ¬ ((6 : Int32) = (3 : Int32)))).2 (by decide) (by decide) ?_
    show Steps p.tables e below (s₁.setTop (mkF m 35 #[.val (.int (6 : Int32))] [])) t_
    refine XS.iloadN X0.here hx rfl (hb hby d1_35) rfl ?_
    show Steps p.tables e below (s₁.setTop (mkF m 36 #[.val (.int (6 : Int32))] [(.int (6 : Int32))])) t_
    refine XS.iconst X0.here hx rfl (hb hby d1_36) ?_
    show Steps p.tables e below (s₁.setTop (mkF m 37 #[.val (.int (6 : Int32))] [(.int (4 : Int32)), (.int (6 : Int32))])) t_
    refine XS.icmpYes X0.here hx rfl (pc0 := 37) (pc' := 44) rfl (hb hby d1_37) rfl (feq (by decide : ¬ ((6 : Int32) = (4 : Int32)))).2 (by decide) (by decide) ?_
    show Steps p.tables e below (s₁.setTop (mkF m 44 #[.val (.int (6 : Int32))] [])) t_
    refine XS.iloadN X0.here hx rfl (hb hby d1_44) rfl ?_
    show Steps p.tables e below (s₁.setTop (mkF m 45 #[.val (.int (6 : Int32))] [(.int (6 : Int32))])) t_
    refine XS.iconst X0.here hx rfl (hb hby d1_45) ?_
    show Steps p.tables e below (s₁.setTop (mkF m 46 #[.val (.int (6 : Int32))] [(.int (5 : Int32)), (.int (6 : Int32))])) t_
    refine XS.icmpYes X0.here hx rfl (pc0 := 46) (pc' := 53) rfl (hb hby d1_46) rfl (feq (by decide : ¬ ((6 : Int32) = (5 : Int32)))).2 (by decide) (by decide) ?_
    show Steps p.tables e below (s₁.setTop (mkF m 53 #[.val (.int (6 : Int32))] [])) t_
    refine XS.iloadN X0.here hx rfl (hb hby d1_53) rfl ?_
    show Steps p.tables e below (s₁.setTop (mkF m 54 #[.val (.int (6 : Int32))] [(.int (6 : Int32))])) t_
    refine XS.bipush X0.here hx rfl (hb hby d1_54) ?_
    show Steps p.tables e below (s₁.setTop (mkF m 56 #[.val (.int (6 : Int32))] [(.int (6 : Int32)), (.int (6 : Int32))])) t_
    refine XS.icmpNo X0.here hx rfl (hb hby d1_56) rfl (teq (by decide : (6 : Int32) = (6 : Int32))).2 ?_
    exact k_
  obtain ⟨T1, X1, e1, st1⟩ := getS2 X0 hx hZ hown (host := "") (Or.inl (own_w hw 22 rfl)) Via.refl e0 (u1.ext O0.2) (g := (mkF m 59 #[.val (.int (6 : Int32))] [])) rfl (hb hby d1_59)
  refine own_go st1 ?_
  obtain ⟨fs2, hr2, hrun2, hended2, hW2, hsame2⟩ := X1.leave (v := some (.ref a)) (fun h => by rw [Bd.returns] at h; cases h)
  refine ⟨_, _, ?_, hrun2, hended2, _, _, rfl, ?_, ⟨_, rfl⟩, hW2, hsame2.mono (by decide) (by decide)⟩
  · exact own_retA X1 hx Bd.returns rfl rfl rfl (hb hby d1_62) hr2
  · show Q_rmPick6 Z a h0 n0 _ T1.heap _
    rw [e1]
    exact ⟨rfl, N0, rfl⟩
theorem d1_63 : decode method_2_code 63 = .ok (.getstatic 31, 3) := by decide +kernel
theorem d1_66 : decode method_2_code 66 = .ok (.areturn, 1) := by decide +kernel
theorem ef_rmPick7 (m : MethodId)  : entryFrame m #[(.int (7 : Int32))] 1 = mkF m 0 #[.val (.int (7 : Int32))] [] := by first | (simp [entryFrame, mkF, argsToLocals, Value.category]; done) | rfl
def Q_rmPick7 (Z : State) (a : Addr) (h0 : Heap) (n0 : Nat) (v_ : Option Value) (h_ : Heap) (L_ : List Loc) : Prop := v_ = some (.ref a) ∧ Fr n0 L_ ∧ h_ = h0
set_option maxRecDepth 65536 in
set_option maxHeartbeats 40000000 in
theorem rmPick7 (l : Launch) (Z : State) (a0 : Array Value) (hw : ∀ d ∈ tables_1, d.before a0 Z = true) (ws : List Jvm.Cond) (a : Addr) (h0 : Heap) (n0 : Nat) (Z0 : n0 ≤ h0.size) (O0 : Old Z n0 h0) (u1 : Sta Z Z.heap "com/example/portcullis/portcullis/hashing/HashAlgorithm" "SHA_512" "Lcom/example/portcullis/portcullis/hashing/HashAlgorithm;" (.ref a)) :
    MetFree l own_y0 (head1 (Jvm.Cond.code own_y0 method_2_code 1 (some (.object "com/example/portcullis/portcullis/hashing/HashAlgorithm")) :: ws) ({ frames := 0, cells := 0, slots := 0, locals := 0 } : Room)) (fun a_ U_ => a_ = #[(.int (7 : Int32))] ∧ Z.Warmed39 U_.vm ∧ U_.heap = h0) (fun _ _ _ _ _ => True) (fun _ U_ o_ U2_ => ∃ v_ L_, o_ = .returned v_ ∧ Q_rmPick7 Z a h0 n0 v_ U2_.heap L_ ∧ FrameEnd U_ o_ U2_ L_ ({ frames := 0, cells := 0, slots := 0, locals := 0 } : Room).cells ({ frames := 0, cells := 0, slots := 0, locals := 0 } : Room).slots) := by
  refine MetFree.of_bodySF (plainFor_of_name pn_0) hisR ?_
  intro p e s m args below meth c s₁ Bd hml0 hP hK
  obtain ⟨rfl, hZ, hh⟩ := hP
  have hx := Bd.exec
  have hby := Bd.bytes
  have hml : c.maxLocals = 1 := hml0
  have hown : s.vm.findClass "com/example/portcullis/portcullis/hashing/HashAlgorithmIsKeyDerivationPinLaw" = some m.cls := findClass_of_methodNamed Bd.named
  have hnm := (name_of_methodNamed Bd.named Bd.method).1
  have X0 : Stand p l e ({ frames := 0, cells := 0, slots := 0, locals := 0 } : Room) s m #[(.int (7 : Int32))] below meth c s₁ [] 0 0 := Stand.of_body Bd
  have e0 : s₁.heap = h0 := by rw [← hh, Bd.state]; rfl
  have N0 := Fr.nil n0
  refine own_go (A := s₁.setTop (mkF m 0 #[.val (.int (7 : Int32))] [])) (fun t_ k_ => castTop (ef_rmPick7 m ) k_) ?_
  refine own_go (A := s₁.setTop (mkF m 63 #[.val (.int (7 : Int32))] [])) (fun t_ k_ => ?_) ?_
  · show Steps p.tables e below (s₁.setTop (mkF m 0 #[.val (.int (7 : Int32))] [])) t_
    refine XS.iloadN X0.here hx rfl (hb hby d1_0) rfl ?_
    show Steps p.tables e below (s₁.setTop (mkF m 1 #[.val (.int (7 : Int32))] [(.int (7 : Int32))])) t_
    refine XS.ifYes X0.here hx rfl (pc0 := 1) (pc' := 8) rfl (hb hby d1_1) rfl ((if0 _ _).trans (feq (by decide : ¬ ((7 : Int32) = (0 : Int32)))).2) (by decide) (by decide) ?_
    show Steps p.tables e below (s₁.setTop (mkF m 8 #[.val (.int (7 : Int32))] [])) t_
    refine XS.iloadN X0.here hx rfl (hb hby d1_8) rfl ?_
    show Steps p.tables e below (s₁.setTop (mkF m 9 #[.val (.int (7 : Int32))] [(.int (7 : Int32))])) t_
    refine XS.iconst X0.here hx rfl (hb hby d1_9) ?_
    show Steps p.tables e below (s₁.setTop (mkF m 10 #[.val (.int (7 : Int32))] [(.int (1 : Int32)), (.int (7 : Int32))])) t_
    refine XS.icmpYes X0.here hx rfl (pc0 := 10) (pc' := 17) rfl (hb hby d1_10) rfl (feq (by decide : ¬ ((7 : Int32) = (1 : Int32)))).2 (by decide) (by decide) ?_
    show Steps p.tables e below (s₁.setTop (mkF m 17 #[.val (.int (7 : Int32))] [])) t_
    refine XS.iloadN X0.here hx rfl (hb hby d1_17) rfl ?_
    show Steps p.tables e below (s₁.setTop (mkF m 18 #[.val (.int (7 : Int32))] [(.int (7 : Int32))])) t_
    refine XS.iconst X0.here hx rfl (hb hby d1_18) ?_
    show Steps p.tables e below (s₁.setTop (mkF m 19 #[.val (.int (7 : Int32))] [(.int (2 : Int32)), (.int (7 : Int32))])) t_
    refine XS.icmpYes X0.here hx rfl (pc0 := 19) (pc' := 26) rfl (hb hby d1_19) rfl (feq (by decide : ¬ ((7 : Int32) = (2 : Int32)))).2 (by decide) (by decide) ?_
    show Steps p.tables e below (s₁.setTop (mkF m 26 #[.val (.int (7 : Int32))] [])) t_
    refine XS.iloadN X0.here hx rfl (hb hby d1_26) rfl ?_
    show Steps p.tables e below (s₁.setTop (mkF m 27 #[.val (.int (7 : Int32))] [(.int (7 : Int32))])) t_
    refine XS.iconst X0.here hx rfl (hb hby d1_27) ?_
    show Steps p.tables e below (s₁.setTop (mkF m 28 #[.val (.int (7 : Int32))] [(.int (3 : Int32)), (.int (7 : Int32))])) t_
    refine XS.icmpYes X0.here hx rfl (pc0 := 28) (pc' := 35) rfl (hb hby d1_28) rfl (feq (by decide : ¬ ((7 : Int32) = (3 : Int32)))).2 (by decide) (by decide) ?_
    show Steps p.tables e below (s₁.setTop (mkF m 35 #[.val (.int (7 : Int32))] [])) t_
    refine XS.iloadN X0.here hx rfl (hb hby d1_35) rfl ?_
    show Steps p.tables e below (s₁.setTop (mkF m 36 #[.val (.int (7 : Int32))] [(.int (7 : Int32))])) t_
    refine XS.iconst X0.here hx rfl (hb hby d1_36) ?_
    show Steps p.tables e below (s₁.setTop (mkF m 37 #[.val (.int (7 : Int32))] [(.int (4 : Int32)), (.int (7 : Int32))])) t_
    refine XS.icmpYes X0.here hx rfl (pc0 := 37) (pc' := 44) rfl (hb hby d1_37) rfl (feq (by decide : ¬ ((7 : Int32) = (4 : Int32)))).2 (by decide) (by decide) ?_
    show Steps p.tables e below (s₁.setTop (mkF m 44 #[.val (.int (7 : Int32))] [])) t_
    refine XS.iloadN X0.here hx rfl (hb hby d1_44) rfl ?_
    show Steps p.tables e below (s₁.setTop (mkF m 45 #[.val (.int (7 : Int32))] [(.int (7 : Int32))])) t_
    refine XS.iconst X0.here hx rfl (hb hby d1_45) ?_
    show Steps p.tables e below (s₁.setTop (mkF m 46 #[.val (.int (7 : Int32))] [(.int (5 : Int32)), (.int (7 : Int32))])) t_
    refine XS.icmpYes X0.here hx rfl (pc0 := 46) (pc' := 53) rfl (hb hby d1_46) rfl (feq (by decide : ¬ ((7 : Int32) = (5 : Int32)))).2 (by decide) (by decide) ?_
    show Steps p.tables e below (s₁.setTop (mkF m 53 #[.val (.int (7 : Int32))] [])) t_
    refine XS.iloadN X0.here hx rfl (hb hby d1_53) rfl ?_
    show Steps p.tables e below (s₁.setTop (mkF m 54 #[.val (.int (7 : Int32))] [(.int (7 : Int32))])) t_
    refine XS.bipush X0.here hx rfl (hb hby d1_54) ?_
    show Steps p.tables e below (s₁.setTop (mkF m 56 #[.val (.int (7 : Int32))] [(.int (6 : Int32)), (.int (7 : Int32))])) t_
    refine XS.icmpYes X0.here hx rfl (pc0 := 56) (pc' := 63) rfl (hb hby d1_56) rfl (feq (by decide : ¬ ((7 : Int32) = (6 : Int32)))).2 (by decide) (by decide) ?_
    exact k_
  obtain ⟨T1, X1, e1, st1⟩ := getS2 X0 hx hZ hown (host := "") (Or.inl (own_w hw 24 rfl)) Via.refl e0 (u1.ext O0.2) (g := (mkF m 63 #[.val (.int (7 : Int32))] [])) rfl (hb hby d1_63)
  refine own_go st1 ?_
  obtain ⟨fs2, hr2, hrun2, hended2, hW2, hsame2⟩ := X1.leave (v := some (.ref a)) (fun h => by rw [Bd.returns] at h; cases h)
  refine ⟨_, _, ?_, hrun2, hended2, _, _, rfl, ?_, ⟨_, rfl⟩, hW2, hsame2.mono (by decide) (by decide)⟩
  · exact own_retA X1 hx Bd.returns rfl rfl rfl (hb hby d1_66) hr2
  · show Q_rmPick7 Z a h0 n0 _ T1.heap _
    rw [e1]
    exact ⟨rfl, N0, rfl⟩
theorem d2_0 : decode prog_32_method_8_code 0 = .ok (.aload_n 0, 1) := by decide +kernel
theorem d2_1 : decode prog_32_method_8_code 1 = .ok (.getfield 58, 3) := by decide +kernel
theorem d2_4 : decode prog_32_method_8_code 4 = .ok (.ifCond .eq 7, 3) := by decide +kernel
theorem d2_11 : decode prog_32_method_8_code 11 = .ok (.iconst 0, 1) := by decide +kernel
theorem d2_12 : decode prog_32_method_8_code 12 = .ok (.ireturn, 1) := by decide +kernel
abbrev own_y1 : MethodName := ⟨"com/example/portcullis/portcullis/hashing/HashAlgorithm", "isKeyDerivation", "()Z"⟩
theorem ef_rmKdF (m : MethodId) (a : Addr) : entryFrame m #[(.ref a)] 1 = mkF m 0 #[.val (.ref a)] [] := by first | (simp [entryFrame, mkF, argsToLocals, Value.category]; done) | rfl
def Q_rmKdF (Z : State) (a : Addr) (w : Int32) (h0 : Heap) (n0 : Nat) (v_ : Option Value) (h_ : Heap) (L_ : List Loc) : Prop := v_ = some (.int (0 : Int32)) ∧ Fr n0 L_ ∧ h_ = h0
theorem pn_1 : plainName "com/example/portcullis/portcullis/hashing/HashAlgorithm" = true := by first | (simp [plainName, overriddenIn]; done) | decide +kernel
set_option maxRecDepth 65536 in
set_option maxHeartbeats 40000000 in
theorem rmKdF (l : Launch) (Z : State) (a0 : Array Value) (hw : ∀ d ∈ tables_1, d.before a0 Z = true) (ws : List Jvm.Cond) (a : Addr) (w : Int32) (h0 : Heap) (n0 : Nat) (Z0 : n0 ≤ h0.size) (O0 : Old Z n0 h0) (u1 : Fld Z Z.heap a "com/example/portcullis/portcullis/hashing/HashAlgorithm" "leastIterations" "I" (.int w)) (hw0 : w = (0 : Int32)) :
    MetFree l own_y1 (head1 (Jvm.Cond.code own_y1 prog_32_method_8_code 1 (some .boolean) :: ws) ({ frames := 0, cells := 0, slots := 0, locals := 0 } : Room)) (fun a_ U_ => a_ = #[(.ref a)] ∧ Z.Warmed39 U_.vm ∧ U_.heap = h0) (fun _ _ _ _ _ => True) (fun _ U_ o_ U2_ => ∃ v_ L_, o_ = .returned v_ ∧ Q_rmKdF Z a w h0 n0 v_ U2_.heap L_ ∧ FrameEnd U_ o_ U2_ L_ ({ frames := 0, cells := 0, slots := 0, locals := 0 } : Room).cells ({ frames := 0, cells := 0, slots := 0, locals := 0 } : Room).slots) := by
  refine MetFree.of_bodySF (plainFor_of_name pn_1) hisR ?_
  intro p e s m args below meth c s₁ Bd hml0 hP hK
  obtain ⟨rfl, hZ, hh⟩ := hP
  have hx := Bd.exec
  have hby := Bd.bytes
  have hml : c.maxLocals = 1 := hml0
  have hown : s.vm.findClass "com/example/portcullis/portcullis/hashing/HashAlgorithm" = some m.cls := findClass_of_methodNamed Bd.named
  have hnm := (name_of_methodNamed Bd.named Bd.method).1
  have X0 : Stand p l e ({ frames := 0, cells := 0, slots := 0, locals := 0 } : Room) s m #[(.ref a)] below meth c s₁ [] 0 0 := Stand.of_body Bd
  have e0 : s₁.heap = h0 := by rw [← hh, Bd.state]; rfl
  have N0 := Fr.nil n0
  refine own_go (A := s₁.setTop (mkF m 0 #[.val (.ref a)] [])) (fun t_ k_ => castTop (ef_rmKdF m a) k_) ?_
  refine own_go (A := s₁.setTop (mkF m 1 #[.val (.ref a)] [(.ref a)])) (fun t_ k_ => ?_) ?_
  · show Steps p.tables e below (s₁.setTop (mkF m 0 #[.val (.ref a)] [])) t_
    refine XS.aloadN X0.here hx rfl (hb hby d2_0) rfl rfl ?_
    exact k_
  obtain ⟨T1, X1, e1, st1⟩ := getF X0 hx hZ hown (host := "") (Or.inl (own_w hw 13 rfl)) Via.refl e0 (u1.ext O0.2) (g := (mkF m 1 #[.val (.ref a)] [(.ref a)])) rfl rfl (hb hby d2_1)
  refine own_go st1 ?_
  refine own_go (A := T1.setTop (mkF m 12 #[.val (.ref a)] [(.int (0 : Int32))])) (fun t_ k_ => ?_) ?_
  · show Steps p.tables e below (T1.setTop (mkF m 4 #[.val (.ref a)] [(.int w)])) t_
    refine XS.ifYes X1.here hx rfl (pc0 := 4) (pc' := 11) rfl (hb hby d2_4) rfl ((if0 _ _).trans (teq hw0).1) (by decide) (by decide) ?_
    show Steps p.tables e below (T1.setTop (mkF m 11 #[.val (.ref a)] [])) t_
    refine XS.iconst X1.here hx rfl (hb hby d2_11) ?_
    exact k_
  obtain ⟨fs2, hr2, hrun2, hended2, hW2, hsame2⟩ := X1.leave (v := some (.int (0 : Int32))) (fun h => by rw [Bd.returns] at h; cases h)
  refine ⟨_, _, ?_, hrun2, hended2, _, _, rfl, ?_, ⟨_, rfl⟩, hW2, hsame2.mono (by decide) (by decide)⟩
  · exact retN X1 hx (t := .boolean) Bd.returns (by simp) (hb hby d2_12) hr2
  · show Q_rmKdF Z a w h0 n0 _ T1.heap _
    rw [e1]
    exact ⟨rfl, N0, rfl⟩
theorem d2_7 : decode prog_32_method_8_code 7 = .ok (.iconst 1, 1) := by decide +kernel
theorem d2_8 : decode prog_32_method_8_code 8 = .ok (.goto 4, 3) := by decide +kernel
theorem ef_rmKdT (m : MethodId) (a : Addr) : entryFrame m #[(.ref a)] 1 = mkF m 0 #[.val (.ref a)] [] := by first | (simp [entryFrame, mkF, argsToLocals, Value.category]; done) | rfl
def Q_rmKdT (Z : State) (a : Addr) (w : Int32) (h0 : Heap) (n0 : Nat) (v_ : Option Value) (h_ : Heap) (L_ : List Loc) : Prop := v_ = some (.int (1 : Int32)) ∧ Fr n0 L_ ∧ h_ = h0
set_option maxRecDepth 65536 in
set_option maxHeartbeats 40000000 in
theorem rmKdT (l : Launch) (Z : State) (a0 : Array Value) (hw : ∀ d ∈ tables_1, d.before a0 Z = true) (ws : List Jvm.Cond) (a : Addr) (w : Int32) (h0 : Heap) (n0 : Nat) (Z0 : n0 ≤ h0.size) (O0 : Old Z n0 h0) (u1 : Fld Z Z.heap a "com/example/portcullis/portcullis/hashing/HashAlgorithm" "leastIterations" "I" (.int w)) (hw0 : ¬ (w = (0 : Int32))) :
    MetFree l own_y1 (head1 (Jvm.Cond.code own_y1 prog_32_method_8_code 1 (some .boolean) :: ws) ({ frames := 0, cells := 0, slots := 0, locals := 0 } : Room)) (fun a_ U_ => a_ = #[(.ref a)] ∧ Z.Warmed39 U_.vm ∧ U_.heap = h0) (fun _ _ _ _ _ => True) (fun _ U_ o_ U2_ => ∃ v_ L_, o_ = .returned v_ ∧ Q_rmKdT Z a w h0 n0 v_ U2_.heap L_ ∧ FrameEnd U_ o_ U2_ L_ ({ frames := 0, cells := 0, slots := 0, locals := 0 } : Room).cells ({ frames := 0, cells := 0, slots := 0, locals := 0 } : Room).slots) := by
  refine MetFree.of_bodySF (plainFor_of_name pn_1) hisR ?_
  intro p e s m args below meth c s₁ Bd hml0 hP hK
  obtain ⟨rfl, hZ, hh⟩ := hP
  have hx := Bd.exec
  have hby := Bd.bytes
  have hml : c.maxLocals = 1 := hml0
  have hown : s.vm.findClass "com/example/portcullis/portcullis/hashing/HashAlgorithm" = some m.cls := findClass_of_methodNamed Bd.named
  have hnm := (name_of_methodNamed Bd.named Bd.method).1
  have X0 : Stand p l e ({ frames := 0, cells := 0, slots := 0, locals := 0 } : Room) s m #[(.ref a)] below meth c s₁ [] 0 0 := Stand.of_body Bd
  have e0 : s₁.heap = h0 := by rw [← hh, Bd.state]; rfl
  have N0 := Fr.nil n0
  refine own_go (A := s₁.setTop (mkF m 0 #[.val (.ref a)] [])) (fun t_ k_ => castTop (ef_rmKdT m a) k_) ?_
  refine own_go (A := s₁.setTop (mkF m 1 #[.val (.ref a)] [(.ref a)])) (fun t_ k_ => ?_) ?_
  · show Steps p.tables e below (s₁.setTop (mkF m 0 #[.val (.ref a)] [])) t_
    refine XS.aloadN X0.here hx rfl (hb hby d2_0) rfl rfl ?_
    exact k_
  obtain ⟨T1, X1, e1, st1⟩ := getF X0 hx hZ hown (host := "") (Or.inl (own_w hw 13 rfl)) Via.refl e0 (u1.ext O0.2) (g := (mkF m 1 #[.val (.ref a)] [(.ref a)])) rfl rfl (hb hby d2_1)
  refine own_go st1 ?_
  refine own_go (A := T1.setTop (mkF m 12 #[.val (.ref a)] [(.int (1 : Int32))])) (fun t_ k_ => ?_) ?_
  · show Steps p.tables e below (T1.setTop (mkF m 4 #[.val (.ref a)] [(.int w)])) t_
    refine XS.ifNo X1.here hx rfl (hb hby d2_4) rfl ((if0 _ _).trans (feq hw0).1) ?_
    show Steps p.tables e below (T1.setTop (mkF m 7 #[.val (.ref a)] [])) t_
    refine XS.iconst X1.here hx rfl (hb hby d2_7) ?_
    show Steps p.tables e below (T1.setTop (mkF m 8 #[.val (.ref a)] [(.int (1 : Int32))])) t_
    refine XS.goto X1.here hx rfl (pc0 := 8) (pc' := 12) rfl (hb hby d2_8) (by decide) (by decide) ?_
    exact k_
  obtain ⟨fs2, hr2, hrun2, hended2, hW2, hsame2⟩ := X1.leave (v := some (.int (1 : Int32))) (fun h => by rw [Bd.returns] at h; cases h)
  refine ⟨_, _, ?_, hrun2, hended2, _, _, rfl, ?_, ⟨_, rfl⟩, hW2, hsame2.mono (by decide) (by decide)⟩
  · exact retN X1 hx (t := .boolean) Bd.returns (by simp) (hb hby d2_12) hr2
  · show Q_rmKdT Z a w h0 n0 _ T1.heap _
    rw [e1]
    exact ⟨rfl, N0, rfl⟩
theorem d3_0 : decode prog_32_method_9_code 0 = .ok (.aload_n 0, 1) := by decide +kernel
theorem d3_1 : decode prog_32_method_9_code 1 = .ok (.getfield 58, 3) := by decide +kernel
theorem d3_4 : decode prog_32_method_9_code 4 = .ok (.ireturn, 1) := by decide +kernel
abbrev own_y2 : MethodName := ⟨"com/example/portcullis/portcullis/hashing/HashAlgorithm", "leastIterations", "()I"⟩
theorem ef_rmLeast (m : MethodId) (a : Addr) : entryFrame m #[(.ref a)] 1 = mkF m 0 #[.val (.ref a)] [] := by first | (simp [entryFrame, mkF, argsToLocals, Value.category]; done) | rfl
def Q_rmLeast (Z : State) (a : Addr) (w : Int32) (h0 : Heap) (n0 : Nat) (v_ : Option Value) (h_ : Heap) (L_ : List Loc) : Prop := v_ = some (.int w) ∧ Fr n0 L_ ∧ h_ = h0
set_option maxRecDepth 65536 in
set_option maxHeartbeats 40000000 in
theorem rmLeast (l : Launch) (Z : State) (a0 : Array Value) (hw : ∀ d ∈ tables_1, d.before a0 Z = true) (ws : List Jvm.Cond) (a : Addr) (w : Int32) (h0 : Heap) (n0 : Nat) (Z0 : n0 ≤ h0.size) (O0 : Old Z n0 h0) (u1 : Fld Z Z.heap a "com/example/portcullis/portcullis/hashing/HashAlgorithm" "leastIterations" "I" (.int w)) :
    MetFree l own_y2 (head1 (Jvm.Cond.code own_y2 prog_32_method_9_code 1 (some .int) :: ws) ({ frames := 0, cells := 0, slots := 0, locals := 0 } : Room)) (fun a_ U_ => a_ = #[(.ref a)] ∧ Z.Warmed39 U_.vm ∧ U_.heap = h0) (fun _ _ _ _ _ => True) (fun _ U_ o_ U2_ => ∃ v_ L_, o_ = .returned v_ ∧ Q_rmLeast Z a w h0 n0 v_ U2_.heap L_ ∧ FrameEnd U_ o_ U2_ L_ ({ frames := 0, cells := 0, slots := 0, locals := 0 } : Room).cells ({ frames := 0, cells := 0, slots := 0, locals := 0 } : Room).slots) := by
  refine MetFree.of_bodySF (plainFor_of_name pn_1) hisR ?_
  intro p e s m args below meth c s₁ Bd hml0 hP hK
  obtain ⟨rfl, hZ, hh⟩ := hP
  have hx := Bd.exec
  have hby := Bd.bytes
  have hml : c.maxLocals = 1 := hml0
  have hown : s.vm.findClass "com/example/portcullis/portcullis/hashing/HashAlgorithm" = some m.cls := findClass_of_methodNamed Bd.named
  have hnm := (name_of_methodNamed Bd.named Bd.method).1
  have X0 : Stand p l e ({ frames := 0, cells := 0, slots := 0, locals := 0 } : Room) s m #[(.ref a)] below meth c s₁ [] 0 0 := Stand.of_body Bd
  have e0 : s₁.heap = h0 := by rw [← hh, Bd.state]; rfl
  have N0 := Fr.nil n0
  refine own_go (A := s₁.setTop (mkF m 0 #[.val (.ref a)] [])) (fun t_ k_ => castTop (ef_rmLeast m a) k_) ?_
  refine own_go (A := s₁.setTop (mkF m 1 #[.val (.ref a)] [(.ref a)])) (fun t_ k_ => ?_) ?_
  · show Steps p.tables e below (s₁.setTop (mkF m 0 #[.val (.ref a)] [])) t_
    refine XS.aloadN X0.here hx rfl (hb hby d3_0) rfl rfl ?_
    exact k_
  obtain ⟨T1, X1, e1, st1⟩ := getF X0 hx hZ hown (host := "") (Or.inl (own_w hw 13 rfl)) Via.refl e0 (u1.ext O0.2) (g := (mkF m 1 #[.val (.ref a)] [(.ref a)])) rfl rfl (hb hby d3_1)
  refine own_go st1 ?_
  obtain ⟨fs2, hr2, hrun2, hended2, hW2, hsame2⟩ := X1.leave (v := some (.int w)) (fun h => by rw [Bd.returns] at h; cases h)
  refine ⟨_, _, ?_, hrun2, hended2, _, _, rfl, ?_, ⟨_, rfl⟩, hW2, hsame2.mono (by decide) (by decide)⟩
  · exact own_retI X1 hx Bd.returns (hb hby d3_4) hr2
  · show Q_rmLeast Z a w h0 n0 _ T1.heap _
    rw [e1]
    exact ⟨rfl, N0, rfl⟩
theorem own_mod8 (p : Int32) : ((p &&& (2147483647 : Int32)) % (8 : Int32)) = (0 : Int32) ∨ ((p &&& (2147483647 : Int32)) % (8 : Int32)) = (1 : Int32) ∨ ((p &&& (2147483647 : Int32)) % (8 : Int32)) = (2 : Int32) ∨ ((p &&& (2147483647 : Int32)) % (8 : Int32)) = (3 : Int32) ∨ ((p &&& (2147483647 : Int32)) % (8 : Int32)) = (4 : Int32) ∨ ((p &&& (2147483647 : Int32)) % (8 : Int32)) = (5 : Int32) ∨ ((p &&& (2147483647 : Int32)) % (8 : Int32)) = (6 : Int32) ∨ ((p &&& (2147483647 : Int32)) % (8 : Int32)) = (7 : Int32) := by
  have h1 := c_and p 2147483647 (by decide)
  have h2 := (c_irem (p &&& 2147483647) 8 8 (by decide)).1 h1.1
  have h3 : ((p &&& (2147483647 : Int32)) % (8 : Int32)).toInt = 0 ∨ ((p &&& (2147483647 : Int32)) % (8 : Int32)).toInt = 1 ∨ ((p &&& (2147483647 : Int32)) % (8 : Int32)).toInt = 2 ∨ ((p &&& (2147483647 : Int32)) % (8 : Int32)).toInt = 3 ∨ ((p &&& (2147483647 : Int32)) % (8 : Int32)).toInt = 4 ∨ ((p &&& (2147483647 : Int32)) % (8 : Int32)).toInt = 5 ∨ ((p &&& (2147483647 : Int32)) % (8 : Int32)).toInt = 6 ∨ ((p &&& (2147483647 : Int32)) % (8 : Int32)).toInt = 7 := by omega
  rcases h3 with h | h | h | h | h | h | h | h
  · exact Or.inl (Int32.toInt_inj.mp (h.trans (by decide)))
  · exact Or.inr (Or.inl (Int32.toInt_inj.mp (h.trans (by decide))))
  · exact Or.inr (Or.inr (Or.inl (Int32.toInt_inj.mp (h.trans (by decide)))))
  · exact Or.inr (Or.inr (Or.inr (Or.inl (Int32.toInt_inj.mp (h.trans (by decide))))))
  · exact Or.inr (Or.inr (Or.inr (Or.inr (Or.inl (Int32.toInt_inj.mp (h.trans (by decide)))))))
  · exact Or.inr (Or.inr (Or.inr (Or.inr (Or.inr (Or.inl (Int32.toInt_inj.mp (h.trans (by decide))))))))
  · exact Or.inr (Or.inr (Or.inr (Or.inr (Or.inr (Or.inr (Or.inl (Int32.toInt_inj.mp (h.trans (by decide)))))))))
  · exact Or.inr (Or.inr (Or.inr (Or.inr (Or.inr (Or.inr (Or.inr (Int32.toInt_inj.mp (h.trans (by decide)))))))))
theorem pd_0 : parseMethodDescriptor "(I)Lcom/example/portcullis/portcullis/hashing/HashAlgorithm;" = some ⟨[.int], some (.object "com/example/portcullis/portcullis/hashing/HashAlgorithm")⟩ := by decide +kernel
theorem pd_1 : parseMethodDescriptor "()Z" = some ⟨[], some .boolean⟩ := by decide +kernel
theorem pd_2 : parseMethodDescriptor "()I" = some ⟨[], some .int⟩ := by decide +kernel
theorem ef_rm0 (m : MethodId) (p1 : Int32) : entryFrame m #[(.int p1)] maxLocals = mkF m 0 #[.val (.int p1), .unset, .unset, .unset, .unset] [] := by first | (simp [entryFrame, mkF, argsToLocals, Value.category, maxLocals]; done) | rfl
def Q_rm0 (Z : State) (p1 : Int32) (ad0 : Addr) (ad1 : Addr) (ad2 : Addr) (ad3 : Addr) (ad4 : Addr) (ad5 : Addr) (ad6 : Addr) (ad7 : Addr) (h0 : Heap) (n0 : Nat) (v_ : Option Value) (h_ : Heap) (L_ : List Loc) : Prop := v_ = some (.int (1 : Int32)) ∧ Fr n0 L_ ∧ h_ = h0
set_option maxRecDepth 65536 in
set_option maxHeartbeats 40000000 in
theorem rm0 (l : Launch) (Z : State) (a0 : Array Value) (hw : ∀ d ∈ tables_1, d.before a0 Z = true) (ws : List Jvm.Cond) (p1 : Int32) (ad0 : Addr) (ad1 : Addr) (ad2 : Addr) (ad3 : Addr) (ad4 : Addr) (ad5 : Addr) (ad6 : Addr) (ad7 : Addr) (h0 : Heap) (n0 : Nat) (Z0 : n0 ≤ h0.size) (O0 : Old Z n0 h0) (u1 : Sta Z Z.heap "com/example/portcullis/portcullis/hashing/HashAlgorithm" "PBKDF2_WITH_HMAC_SHA1" "Lcom/example/portcullis/portcullis/hashing/HashAlgorithm;" (.ref ad0)) (u2 : Exa Z Z.heap ad0 "com/example/portcullis/portcullis/hashing/HashAlgorithm") (u3 : Fld Z Z.heap ad0 "com/example/portcullis/portcullis/hashing/HashAlgorithm" "leastIterations" "I" (.int (1300000 : Int32))) (u4 : Sta Z Z.heap "com/example/portcullis/portcullis/hashing/HashAlgorithm" "PBKDF2_WITH_HMAC_SHA256" "Lcom/example/portcullis/portcullis/hashing/HashAlgorithm;" (.ref ad1)) (u5 : Exa Z Z.heap ad1 "com/example/portcullis/portcullis/hashing/HashAlgorithm") (u6 : Fld Z Z.heap ad1 "com/example/portcullis/portcullis/hashing/HashAlgorithm" "leastIterations" "I" (.int (600000 : Int32))) (u7 : Sta Z Z.heap "com/example/portcullis/portcullis/hashing/HashAlgorithm" "PBKDF2_WITH_HMAC_SHA512" "Lcom/example/portcullis/portcullis/hashing/HashAlgorithm;" (.ref ad2)) (u8 : Exa Z Z.heap ad2 "com/example/portcullis/portcullis/hashing/HashAlgorithm") (u9 : Fld Z Z.heap ad2 "com/example/portcullis/portcullis/hashing/HashAlgorithm" "leastIterations" "I" (.int (210000 : Int32))) (u10 : Sta Z Z.heap "com/example/portcullis/portcullis/hashing/HashAlgorithm" "MD5" "Lcom/example/portcullis/portcullis/hashing/HashAlgorithm;" (.ref ad3)) (u11 : Exa Z Z.heap ad3 "com/example/portcullis/portcullis/hashing/HashAlgorithm") (u12 : Fld Z Z.heap ad3 "com/example/portcullis/portcullis/hashing/HashAlgorithm" "leastIterations" "I" (.int (0 : Int32))) (u13 : Sta Z Z.heap "com/example/portcullis/portcullis/hashing/HashAlgorithm" "SHA_1" "Lcom/example/portcullis/portcullis/hashing/HashAlgorithm;" (.ref ad4)) (u14 : Exa Z Z.heap ad4 "com/example/portcullis/portcullis/hashing/HashAlgorithm") (u15 : Fld Z Z.heap ad4 "com/example/portcullis/portcullis/hashing/HashAlgorithm" "leastIterations" "I" (.int (0 : Int32))) (u16 : Sta Z Z.heap "com/example/portcullis/portcullis/hashing/HashAlgorithm" "SHA_256" "Lcom/example/portcullis/portcullis/hashing/HashAlgorithm;" (.ref ad5)) (u17 : Exa Z Z.heap ad5 "com/example/portcullis/portcullis/hashing/HashAlgorithm") (u18 : Fld Z Z.heap ad5 "com/example/portcullis/portcullis/hashing/HashAlgorithm" "leastIterations" "I" (.int (0 : Int32))) (u19 : Sta Z Z.heap "com/example/portcullis/portcullis/hashing/HashAlgorithm" "SHA_384" "Lcom/example/portcullis/portcullis/hashing/HashAlgorithm;" (.ref ad6)) (u20 : Exa Z Z.heap ad6 "com/example/portcullis/portcullis/hashing/HashAlgorithm") (u21 : Fld Z Z.heap ad6 "com/example/portcullis/portcullis/hashing/HashAlgorithm" "leastIterations" "I" (.int (0 : Int32))) (u22 : Sta Z Z.heap "com/example/portcullis/portcullis/hashing/HashAlgorithm" "SHA_512" "Lcom/example/portcullis/portcullis/hashing/HashAlgorithm;" (.ref ad7)) (u23 : Exa Z Z.heap ad7 "com/example/portcullis/portcullis/hashing/HashAlgorithm") (u24 : Fld Z Z.heap ad7 "com/example/portcullis/portcullis/hashing/HashAlgorithm" "leastIterations" "I" (.int (0 : Int32))) :
    MetFree l x (head1 (Jvm.Cond.code x code maxLocals ret :: ws) room_1) (fun a_ U_ => a_ = #[(.int p1)] ∧ Z.Warmed39 U_.vm ∧ U_.heap = h0) (fun _ _ _ _ _ => True) (fun _ U_ o_ U2_ => ∃ v_ L_, o_ = .returned v_ ∧ Q_rm0 Z p1 ad0 ad1 ad2 ad3 ad4 ad5 ad6 ad7 h0 n0 v_ U2_.heap L_ ∧ FrameEnd U_ o_ U2_ L_ room_1.cells room_1.slots) := by
  refine MetFree.of_bodySF (plainFor_of_name pn_0) hisR ?_
  intro p e s m args below meth c s₁ Bd hml0 hP hK
  obtain ⟨rfl, hZ, hh⟩ := hP
  have hx := Bd.exec
  have hby := Bd.bytes
  have hml : c.maxLocals = 5 := hml0
  have hown : s.vm.findClass "com/example/portcullis/portcullis/hashing/HashAlgorithmIsKeyDerivationPinLaw" = some m.cls := findClass_of_methodNamed Bd.named
  have hnm := (name_of_methodNamed Bd.named Bd.method).1
  have X0 : Stand p l e room_1 s m #[(.int p1)] below meth c s₁ [] 0 0 := Stand.of_body Bd
  have e0 : s₁.heap = h0 := by rw [← hh, Bd.state]; rfl
  have N0 := Fr.nil n0
  refine own_go (A := s₁.setTop (mkF m 0 #[.val (.int p1), .unset, .unset, .unset, .unset] [])) (fun t_ k_ => castTop (ef_rm0 m p1) k_) ?_
  refine own_go (A := s₁.setTop (mkF m 7 #[.val (.int p1), .unset, .unset, .unset, .unset] [(.int ((p1 &&& (2147483647 : Int32)) % (8 : Int32)))])) (fun t_ k_ => ?_) ?_
  · show Steps p.tables e below (s₁.setTop (mkF m 0 #[.val (.int p1), .unset, .unset, .unset, .unset] [])) t_
    refine XS.iloadN X0.here hx rfl (hb hby at_0) rfl ?_
    show Steps p.tables e below (s₁.setTop (mkF m 1 #[.val (.int p1), .unset, .unset, .unset, .unset] [(.int p1)])) t_
    refine Jvm.Stand.ldcI X0 hx hown (mvT hZ (own_w hw 0 rfl)) (g := (mkF m 1 #[.val (.int p1), .unset, .unset, .unset, .unset] [(.int p1)])) rfl (hb hby at_1) ?_
    show Steps p.tables e below (s₁.setTop (mkF m 3 #[.val (.int p1), .unset, .unset, .unset, .unset] [(.int (2147483647 : Int32)), (.int p1)])) t_
    refine XS.iand X0.here hx rfl (hb hby at_3) rfl ?_
    show Steps p.tables e below (s₁.setTop (mkF m 4 #[.val (.int p1), .unset, .unset, .unset, .unset] [(.int (p1 &&& (2147483647 : Int32)))])) t_
    refine XS.bipush X0.here hx rfl (hb hby at_4) ?_
    show Steps p.tables e below (s₁.setTop (mkF m 6 #[.val (.int p1), .unset, .unset, .unset, .unset] [(.int (8 : Int32)), (.int (p1 &&& (2147483647 : Int32)))])) t_
    refine iremM (g := (mkF m 6 #[.val (.int p1), .unset, .unset, .unset, .unset] [(.int (8 : Int32)), (.int (p1 &&& (2147483647 : Int32)))])) X0 hx rfl (hb hby at_6) rfl (by decide : ¬ ((8 : Int32) = (0 : Int32))) ?_
    exact k_
  rcases own_mod8 p1 with hm1 | hm1 | hm1 | hm1 | hm1 | hm1 | hm1 | hm1
  · rw [hm1]
    refine own_go (A := s₁.setTop (mkF m 9 #[.val (.int p1), .val (.int (0 : Int32)), .unset, .unset, .unset] [(.int (0 : Int32))])) (fun t_ k_ => ?_) ?_
    · show Steps p.tables e below (s₁.setTop (mkF m 7 #[.val (.int p1), .unset, .unset, .unset, .unset] [(.int (0 : Int32))])) t_
      refine XS.istoreN X0.here hx rfl (hb hby at_7) rfl (l' := #[.val (.int p1), .val (.int (0 : Int32)), .unset, .unset, .unset]) rfl ?_
      show Steps p.tables e below (s₁.setTop (mkF m 8 #[.val (.int p1), .val (.int (0 : Int32)), .unset, .unset, .unset] [])) t_
      refine XS.iloadN X0.here hx rfl (hb hby at_8) rfl ?_
      exact k_
    obtain ⟨_, _, ⟨T2, L2, k2, n2⟩, -, X2, ⟨Lc2, hQ2, l2, y2, z2⟩, st2⟩ := Jvm.LawKit.callS X0 hx (y := own_y0) hown (mvT hZ (own_w hw 1 rfl)) (mvT hZ (own_w hw 2 rfl)) (mvT hZ (own_w hw 3 rfl)) (mvT hZ (own_w hw 4 rfl)) (by decide) (backOf (W := 0) (rmPick0 l Z a0 hw [] ad0 h0 n0 Z0 O0 u1) hZ (own_w hw 4 rfl) (own_w hw 3 rfl) (by decide) (by decide)) (g := (mkF m 9 #[.val (.int p1), .val (.int (0 : Int32)), .unset, .unset, .unset] [(.int (0 : Int32))])) rfl (by rw [hml]; rfl) (argsL := [(.int (0 : Int32))]) (rest := []) (lenOf pd_0 rfl) rfl (by show 2 * 0 + _ ≤ _; exact Nat.le_of_eq rfl) (hb hby at_9) (fun _ _ => ⟨rfl, e0, (by decide : 0 + 0 ≤ _), (by decide : 0 + 0 ≤ _)⟩)
    dsimp only [Pt.U, Pt.locs, Pt.cells, Pt.slots] at X2 l2 y2 z2 st2 hQ2
    subst l2 y2 z2
    obtain ⟨rfl, N2q, eh2⟩ := hQ2
    have N2 := Fr.app N0 N2q
    refine own_go st2 ?_
    refine own_go (A := T2.setTop (mkF m 25 #[.val (.int p1), .val (.int (0 : Int32)), .val (.ref ad0), .val (.int (1 : Int32)), .unset] [(.ref ad0)])) (fun t_ k_ => ?_) ?_
    · show Steps p.tables e below (T2.setTop (mkF m 12 #[.val (.int p1), .val (.int (0 : Int32)), .unset, .unset, .unset] [(.ref ad0)])) t_
      refine XS.astoreN X2.here hx rfl (hb hby at_12) rfl rfl (l' := #[.val (.int p1), .val (.int (0 : Int32)), .val (.ref ad0), .unset, .unset]) rfl ?_
      show Steps p.tables e below (T2.setTop (mkF m 13 #[.val (.int p1), .val (.int (0 : Int32)), .val (.ref ad0), .unset, .unset] [])) t_
      refine XS.iloadN X2.here hx rfl (hb hby at_13) rfl ?_
      show Steps p.tables e below (T2.setTop (mkF m 14 #[.val (.int p1), .val (.int (0 : Int32)), .val (.ref ad0), .unset, .unset] [(.int (0 : Int32))])) t_
      refine XS.iconst X2.here hx rfl (hb hby at_14) ?_
      show Steps p.tables e below (T2.setTop (mkF m 15 #[.val (.int p1), .val (.int (0 : Int32)), .val (.ref ad0), .unset, .unset] [(.int (3 : Int32)), (.int (0 : Int32))])) t_
      refine XS.icmpNo X2.here hx rfl (hb hby at_15) rfl (tlt (by decide : (0 : Int32) < (3 : Int32))).2.1 ?_
      show Steps p.tables e below (T2.setTop (mkF m 18 #[.val (.int p1), .val (.int (0 : Int32)), .val (.ref ad0), .unset, .unset] [])) t_
      refine XS.iconst X2.here hx rfl (hb hby at_18) ?_
      show Steps p.tables e below (T2.setTop (mkF m 19 #[.val (.int p1), .val (.int (0 : Int32)), .val (.ref ad0), .unset, .unset] [(.int (1 : Int32))])) t_
      refine XS.goto X2.here hx rfl (pc0 := 19) (pc' := 23) rfl (hb hby at_19) (by decide) (by decide) ?_
      show Steps p.tables e below (T2.setTop (mkF m 23 #[.val (.int p1), .val (.int (0 : Int32)), .val (.ref ad0), .unset, .unset] [(.int (1 : Int32))])) t_
      refine XS.istoreN X2.here hx rfl (hb hby at_23) rfl (l' := #[.val (.int p1), .val (.int (0 : Int32)), .val (.ref ad0), .val (.int (1 : Int32)), .unset]) rfl ?_
      show Steps p.tables e below (T2.setTop (mkF m 24 #[.val (.int p1), .val (.int (0 : Int32)), .val (.ref ad0), .val (.int (1 : Int32)), .unset] [])) t_
      refine XS.aloadN X2.here hx rfl (hb hby at_24) rfl rfl ?_
      exact k_
    obtain ⟨cq3, kq3, q3a, q3b, q3c⟩ := isOf hZ eh2 (u2.ext O0.2)
    obtain ⟨_, _, ⟨T3, L3, k3, n3⟩, -, X3, ⟨Lc3, hQ3, l3, y3, z3⟩, st3⟩ := X2.virtualBack hx (y := own_y1) (z := own_y1) hown (mvT hZ (own_w hw 8 rfl)) (mvT hZ (own_w hw 9 rfl)) (notFace_of_selects (args := #[]) (mvT hZ (own_w hw 11 rfl))) (mvT hZ (own_w hw 11 rfl)) (mvT hZ (own_w hw 10 rfl)) (by decide) (backOf (W := 0) (rmKdT l Z a0 hw [] ad0 (1300000 : Int32) h0 n0 Z0 O0 u3 (by decide : ¬ ((1300000 : Int32) = (0 : Int32)))) hZ (own_w hw 12 rfl) (own_w hw 6 rfl) (by decide) (by decide)) q3a q3c (g := (mkF m 25 #[.val (.int p1), .val (.int (0 : Int32)), .val (.ref ad0), .val (.int (1 : Int32)), .unset] [(.ref ad0)])) rfl (by rw [hml]; rfl) (Steps.refl _) (argsL := []) (rest := []) (lenOf pd_1 rfl) rfl (by show 2 * 0 + _ ≤ _; exact Nat.le_of_eq rfl) (hb hby at_25) (fun _ _ => ⟨rfl, eh2, (by decide : 0 + 0 ≤ _), (by decide : 0 + 0 ≤ _)⟩)
    dsimp only [Pt.U, Pt.locs, Pt.cells, Pt.slots] at X3 l3 y3 z3 st3 hQ3
    subst l3 y3 z3
    obtain ⟨rfl, N3q, eh3⟩ := hQ3
    have N3 := Fr.app N2 N3q
    refine own_via st3 ?_
    refine own_go (A := T3.setTop (mkF m 39 #[.val (.int p1), .val (.int (0 : Int32)), .val (.ref ad0), .val (.int (1 : Int32)), .val (.int (1 : Int32))] [(.ref ad0), (.int (1 : Int32))])) (fun t_ k_ => ?_) ?_
    · show Steps p.tables e below (T3.setTop (mkF m 28 #[.val (.int p1), .val (.int (0 : Int32)), .val (.ref ad0), .val (.int (1 : Int32)), .unset] [(.int (1 : Int32))])) t_
      refine XS.istore X3.here hx rfl (hb hby at_28) rfl (l' := #[.val (.int p1), .val (.int (0 : Int32)), .val (.ref ad0), .val (.int (1 : Int32)), .val (.int (1 : Int32))]) rfl ?_
      show Steps p.tables e below (T3.setTop (mkF m 30 #[.val (.int p1), .val (.int (0 : Int32)), .val (.ref ad0), .val (.int (1 : Int32)), .val (.int (1 : Int32))] [])) t_
      refine XS.iload X3.here hx rfl (hb hby at_30) rfl ?_
      show Steps p.tables e below (T3.setTop (mkF m 32 #[.val (.int p1), .val (.int (0 : Int32)), .val (.ref ad0), .val (.int (1 : Int32)), .val (.int (1 : Int32))] [(.int (1 : Int32))])) t_
      refine XS.iloadN X3.here hx rfl (hb hby at_32) rfl ?_
      show Steps p.tables e below (T3.setTop (mkF m 33 #[.val (.int p1), .val (.int (0 : Int32)), .val (.ref ad0), .val (.int (1 : Int32)), .val (.int (1 : Int32))] [(.int (1 : Int32)), (.int (1 : Int32))])) t_
      refine XS.icmpNo X3.here hx rfl (hb hby at_33) rfl (teq (by decide : (1 : Int32) = (1 : Int32))).2 ?_
      show Steps p.tables e below (T3.setTop (mkF m 36 #[.val (.int p1), .val (.int (0 : Int32)), .val (.ref ad0), .val (.int (1 : Int32)), .val (.int (1 : Int32))] [])) t_
      refine XS.iload X3.here hx rfl (hb hby at_36) rfl ?_
      show Steps p.tables e below (T3.setTop (mkF m 38 #[.val (.int p1), .val (.int (0 : Int32)), .val (.ref ad0), .val (.int (1 : Int32)), .val (.int (1 : Int32))] [(.int (1 : Int32))])) t_
      refine XS.aloadN X3.here hx rfl (hb hby at_38) rfl rfl ?_
      exact k_
    obtain ⟨cq4, kq4, q4a, q4b, q4c⟩ := isOf hZ eh3 (u2.ext O0.2)
    obtain ⟨_, _, ⟨T4, L4, k4, n4⟩, -, X4, ⟨Lc4, hQ4, l4, y4, z4⟩, st4⟩ := X3.virtualBack hx (y := own_y2) (z := own_y2) hown (mvT hZ (own_w hw 15 rfl)) (mvT hZ (own_w hw 16 rfl)) (notFace_of_selects (args := #[]) (mvT hZ (own_w hw 18 rfl))) (mvT hZ (own_w hw 18 rfl)) (mvT hZ (own_w hw 17 rfl)) (by decide) (backOf (W := 1) (rmLeast l Z a0 hw [] ad0 (1300000 : Int32) h0 n0 Z0 O0 u3) hZ (own_w hw 19 rfl) (own_w hw 6 rfl) (by decide) (by decide)) q4a q4c (g := (mkF m 39 #[.val (.int p1), .val (.int (0 : Int32)), .val (.ref ad0), .val (.int (1 : Int32)), .val (.int (1 : Int32))] [(.ref ad0), (.int (1 : Int32))])) rfl (by rw [hml]; rfl) (Steps.refl _) (argsL := []) (rest := [(.int (1 : Int32))]) (lenOf pd_2 rfl) rfl (by show 2 * 0 + _ ≤ _; exact Nat.le_of_eq rfl) (hb hby at_39) (fun _ _ => ⟨rfl, eh3, (by decide : 0 + 0 ≤ _), (by decide : 0 + 0 ≤ _)⟩)
    dsimp only [Pt.U, Pt.locs, Pt.cells, Pt.slots] at X4 l4 y4 z4 st4 hQ4
    subst l4 y4 z4
    obtain ⟨rfl, N4q, eh4⟩ := hQ4
    have N4 := Fr.app N3 N4q
    refine own_via st4 ?_
    refine own_go (A := T4.setTop (mkF m 58 #[.val (.int p1), .val (.int (0 : Int32)), .val (.ref ad0), .val (.int (1 : Int32)), .val (.int (1 : Int32))] [(.int (1 : Int32))])) (fun t_ k_ => ?_) ?_
    · show Steps p.tables e below (T4.setTop (mkF m 42 #[.val (.int p1), .val (.int (0 : Int32)), .val (.ref ad0), .val (.int (1 : Int32)), .val (.int (1 : Int32))] [(.int (1300000 : Int32)), (.int (1 : Int32))])) t_
      refine XS.ifNo X4.here hx rfl (hb hby at_42) rfl ((if0 _ _).trans (tlt (by decide : (0 : Int32) < (1300000 : Int32))).2.2.2) ?_
      show Steps p.tables e below (T4.setTop (mkF m 45 #[.val (.int p1), .val (.int (0 : Int32)), .val (.ref ad0), .val (.int (1 : Int32)), .val (.int (1 : Int32))] [(.int (1 : Int32))])) t_
      refine XS.iconst X4.here hx rfl (hb hby at_45) ?_
      show Steps p.tables e below (T4.setTop (mkF m 46 #[.val (.int p1), .val (.int (0 : Int32)), .val (.ref ad0), .val (.int (1 : Int32)), .val (.int (1 : Int32))] [(.int (1 : Int32)), (.int (1 : Int32))])) t_
      refine XS.goto X4.here hx rfl (pc0 := 46) (pc' := 50) rfl (hb hby at_46) (by decide) (by decide) ?_
      show Steps p.tables e below (T4.setTop (mkF m 50 #[.val (.int p1), .val (.int (0 : Int32)), .val (.ref ad0), .val (.int (1 : Int32)), .val (.int (1 : Int32))] [(.int (1 : Int32)), (.int (1 : Int32))])) t_
      refine XS.icmpNo X4.here hx rfl (hb hby at_50) rfl (teq (by decide : (1 : Int32) = (1 : Int32))).2 ?_
      show Steps p.tables e below (T4.setTop (mkF m 53 #[.val (.int p1), .val (.int (0 : Int32)), .val (.ref ad0), .val (.int (1 : Int32)), .val (.int (1 : Int32))] [])) t_
      refine XS.iconst X4.here hx rfl (hb hby at_53) ?_
      show Steps p.tables e below (T4.setTop (mkF m 54 #[.val (.int p1), .val (.int (0 : Int32)), .val (.ref ad0), .val (.int (1 : Int32)), .val (.int (1 : Int32))] [(.int (1 : Int32))])) t_
      refine XS.goto X4.here hx rfl (pc0 := 54) (pc' := 58) rfl (hb hby at_54) (by decide) (by decide) ?_
      exact k_
    obtain ⟨fs5, hr5, hrun5, hended5, hW5, hsame5⟩ := X4.leave (v := some (.int (1 : Int32))) (fun h => by rw [Bd.returns] at h; cases h)
    refine ⟨_, _, ?_, hrun5, hended5, _, _, rfl, ?_, ⟨_, rfl⟩, hW5, hsame5.mono (by decide) (by decide)⟩
    · exact retN X4 hx (t := .boolean) Bd.returns (by simp) (hb hby at_58) hr5
    · show Q_rm0 Z p1 ad0 ad1 ad2 ad3 ad4 ad5 ad6 ad7 h0 n0 _ T4.heap _
      rw [eh4]
      exact ⟨rfl, N4, rfl⟩
  · rw [hm1]
    refine own_go (A := s₁.setTop (mkF m 9 #[.val (.int p1), .val (.int (1 : Int32)), .unset, .unset, .unset] [(.int (1 : Int32))])) (fun t_ k_ => ?_) ?_
    · show Steps p.tables e below (s₁.setTop (mkF m 7 #[.val (.int p1), .unset, .unset, .unset, .unset] [(.int (1 : Int32))])) t_
      refine XS.istoreN X0.here hx rfl (hb hby at_7) rfl (l' := #[.val (.int p1), .val (.int (1 : Int32)), .unset, .unset, .unset]) rfl ?_
      show Steps p.tables e below (s₁.setTop (mkF m 8 #[.val (.int p1), .val (.int (1 : Int32)), .unset, .unset, .unset] [])) t_
      refine XS.iloadN X0.here hx rfl (hb hby at_8) rfl ?_
      exact k_
    obtain ⟨_, _, ⟨T6, L6, k6, n6⟩, -, X6, ⟨Lc6, hQ6, l6, y6, z6⟩, st6⟩ := Jvm.LawKit.callS X0 hx (y := own_y0) hown (mvT hZ (own_w hw 1 rfl)) (mvT hZ (own_w hw 2 rfl)) (mvT hZ (own_w hw 3 rfl)) (mvT hZ (own_w hw 4 rfl)) (by decide) (backOf (W := 0) (rmPick1 l Z a0 hw [] ad1 h0 n0 Z0 O0 u4) hZ (own_w hw 4 rfl) (own_w hw 3 rfl) (by decide) (by decide)) (g := (mkF m 9 #[.val (.int p1), .val (.int (1 : Int32)), .unset, .unset, .unset] [(.int (1 : Int32))])) rfl (by rw [hml]; rfl) (argsL := [(.int (1 : Int32))]) (rest := []) (lenOf pd_0 rfl) rfl (by show 2 * 0 + _ ≤ _; exact Nat.le_of_eq rfl) (hb hby at_9) (fun _ _ => ⟨rfl, e0, (by decide : 0 + 0 ≤ _), (by decide : 0 + 0 ≤ _)⟩)
    dsimp only [Pt.U, Pt.locs, Pt.cells, Pt.slots] at X6 l6 y6 z6 st6 hQ6
    subst l6 y6 z6
    obtain ⟨rfl, N6q, eh6⟩ := hQ6
    have N6 := Fr.app N0 N6q
    refine own_go st6 ?_
    refine own_go (A := T6.setTop (mkF m 25 #[.val (.int p1), .val (.int (1 : Int32)), .val (.ref ad1), .val (.int (1 : Int32)), .unset] [(.ref ad1)])) (fun t_ k_ => ?_) ?_
    · show Steps p.tables e below (T6.setTop (mkF m 12 #[.val (.int p1), .val (.int (1 : Int32)), .unset, .unset, .unset] [(.ref ad1)])) t_
      refine XS.astoreN X6.here hx rfl (hb hby at_12) rfl rfl (l' := #[.val (.int p1), .val (.int (1 : Int32)), .val (.ref ad1), .unset, .unset]) rfl ?_
      show Steps p.tables e below (T6.setTop (mkF m 13 #[.val (.int p1), .val (.int (1 : Int32)), .val (.ref ad1), .unset, .unset] [])) t_
      refine XS.iloadN X6.here hx rfl (hb hby at_13) rfl ?_
      show Steps p.tables e below (T6.setTop (mkF m 14 #[.val (.int p1), .val (.int (1 : Int32)), .val (.ref ad1), .unset, .unset] [(.int (1 : Int32))])) t_
      refine XS.iconst X6.here hx rfl (hb hby at_14) ?_
      show Steps p.tables e below (T6.setTop (mkF m 15 #[.val (.int p1), .val (.int (1 : Int32)), .val (.ref ad1), .unset, .unset] [(.int (3 : Int32)), (.int (1 : Int32))])) t_
      refine XS.icmpNo X6.here hx rfl (hb hby at_15) rfl (tlt (by decide : (1 : Int32) < (3 : Int32))).2.1 ?_
      show Steps p.tables e below (T6.setTop (mkF m 18 #[.val (.int p1), .val (.int (1 : Int32)), .val (.ref ad1), .unset, .unset] [])) t_
      refine XS.iconst X6.here hx rfl (hb hby at_18) ?_
      show Steps p.tables e below (T6.setTop (mkF m 19 #[.val (.int p1), .val (.int (1 : Int32)), .val (.ref ad1), .unset, .unset] [(.int (1 : Int32))])) t_
      refine XS.goto X6.here hx rfl (pc0 := 19) (pc' := 23) rfl (hb hby at_19) (by decide) (by decide) ?_
      show Steps p.tables e below (T6.setTop (mkF m 23 #[.val (.int p1), .val (.int (1 : Int32)), .val (.ref ad1), .unset, .unset] [(.int (1 : Int32))])) t_
      refine XS.istoreN X6.here hx rfl (hb hby at_23) rfl (l' := #[.val (.int p1), .val (.int (1 : Int32)), .val (.ref ad1), .val (.int (1 : Int32)), .unset]) rfl ?_
      show Steps p.tables e below (T6.setTop (mkF m 24 #[.val (.int p1), .val (.int (1 : Int32)), .val (.ref ad1), .val (.int (1 : Int32)), .unset] [])) t_
      refine XS.aloadN X6.here hx rfl (hb hby at_24) rfl rfl ?_
      exact k_
    obtain ⟨cq7, kq7, q7a, q7b, q7c⟩ := isOf hZ eh6 (u5.ext O0.2)
    obtain ⟨_, _, ⟨T7, L7, k7, n7⟩, -, X7, ⟨Lc7, hQ7, l7, y7, z7⟩, st7⟩ := X6.virtualBack hx (y := own_y1) (z := own_y1) hown (mvT hZ (own_w hw 8 rfl)) (mvT hZ (own_w hw 9 rfl)) (notFace_of_selects (args := #[]) (mvT hZ (own_w hw 11 rfl))) (mvT hZ (own_w hw 11 rfl)) (mvT hZ (own_w hw 10 rfl)) (by decide) (backOf (W := 0) (rmKdT l Z a0 hw [] ad1 (600000 : Int32) h0 n0 Z0 O0 u6 (by decide : ¬ ((600000 : Int32) = (0 : Int32)))) hZ (own_w hw 12 rfl) (own_w hw 6 rfl) (by decide) (by decide)) q7a q7c (g := (mkF m 25 #[.val (.int p1), .val (.int (1 : Int32)), .val (.ref ad1), .val (.int (1 : Int32)), .unset] [(.ref ad1)])) rfl (by rw [hml]; rfl) (Steps.refl _) (argsL := []) (rest := []) (lenOf pd_1 rfl) rfl (by show 2 * 0 + _ ≤ _; exact Nat.le_of_eq rfl) (hb hby at_25) (fun _ _ => ⟨rfl, eh6, (by decide : 0 + 0 ≤ _), (by decide : 0 + 0 ≤ _)⟩)
    dsimp only [Pt.U, Pt.locs, Pt.cells, Pt.slots] at X7 l7 y7 z7 st7 hQ7
    subst l7 y7 z7
    obtain ⟨rfl, N7q, eh7⟩ := hQ7
    have N7 := Fr.app N6 N7q
    refine own_via st7 ?_
    refine own_go (A := T7.setTop (mkF m 39 #[.val (.int p1), .val (.int (1 : Int32)), .val (.ref ad1), .val (.int (1 : Int32)), .val (.int (1 : Int32))] [(.ref ad1), (.int (1 : Int32))])) (fun t_ k_ => ?_) ?_
    · show Steps p.tables e below (T7.setTop (mkF m 28 #[.val (.int p1), .val (.int (1 : Int32)), .val (.ref ad1), .val (.int (1 : Int32)), .unset] [(.int (1 : Int32))])) t_
      refine XS.istore X7.here hx rfl (hb hby at_28) rfl (l' := #[.val (.int p1), .val (.int (1 : Int32)), .val (.ref ad1), .val (.int (1 : Int32)), .val (.int (1 : Int32))]) rfl ?_
      show Steps p.tables e below (T7.setTop (mkF m 30 #[.val (.int p1), .val (.int (1 : Int32)), .val (.ref ad1), .val (.int (1 : Int32)), .val (.int (1 : Int32))] [])) t_
      refine XS.iload X7.here hx rfl (hb hby at_30) rfl ?_
      show Steps p.tables e below (T7.setTop (mkF m 32 #[.val (.int p1), .val (.int (1 : Int32)), .val (.ref ad1), .val (.int (1 : Int32)), .val (.int (1 : Int32))] [(.int (1 : Int32))])) t_
      refine XS.iloadN X7.here hx rfl (hb hby at_32) rfl ?_
      show Steps p.tables e below (T7.setTop (mkF m 33 #[.val (.int p1), .val (.int (1 : Int32)), .val (.ref ad1), .val (.int (1 : Int32)), .val (.int (1 : Int32))] [(.int (1 : Int32)), (.int (1 : Int32))])) t_
      refine XS.icmpNo X7.here hx rfl (hb hby at_33) rfl (teq (by decide : (1 : Int32) = (1 : Int32))).2 ?_
      show Steps p.tables e below (T7.setTop (mkF m 36 #[.val (.int p1), .val (.int (1 : Int32)), .val (.ref ad1), .val (.int (1 : Int32)), .val (.int (1 : Int32))] [])) t_
      refine XS.iload X7.here hx rfl (hb hby at_36) rfl ?_
      show Steps p.tables e below (T7.setTop (mkF m 38 #[.val (.int p1), .val (.int (1 : Int32)), .val (.ref ad1), .val (.int (1 : Int32)), .val (.int (1 : Int32))] [(.int (1 : Int32))])) t_
      refine XS.aloadN X7.here hx rfl (hb hby at_38) rfl rfl ?_
      exact k_
    obtain ⟨cq8, kq8, q8a, q8b, q8c⟩ := isOf hZ eh7 (u5.ext O0.2)
    obtain ⟨_, _, ⟨T8, L8, k8, n8⟩, -, X8, ⟨Lc8, hQ8, l8, y8, z8⟩, st8⟩ := X7.virtualBack hx (y := own_y2) (z := own_y2) hown (mvT hZ (own_w hw 15 rfl)) (mvT hZ (own_w hw 16 rfl)) (notFace_of_selects (args := #[]) (mvT hZ (own_w hw 18 rfl))) (mvT hZ (own_w hw 18 rfl)) (mvT hZ (own_w hw 17 rfl)) (by decide) (backOf (W := 1) (rmLeast l Z a0 hw [] ad1 (600000 : Int32) h0 n0 Z0 O0 u6) hZ (own_w hw 19 rfl) (own_w hw 6 rfl) (by decide) (by decide)) q8a q8c (g := (mkF m 39 #[.val (.int p1), .val (.int (1 : Int32)), .val (.ref ad1), .val (.int (1 : Int32)), .val (.int (1 : Int32))] [(.ref ad1), (.int (1 : Int32))])) rfl (by rw [hml]; rfl) (Steps.refl _) (argsL := []) (rest := [(.int (1 : Int32))]) (lenOf pd_2 rfl) rfl (by show 2 * 0 + _ ≤ _; exact Nat.le_of_eq rfl) (hb hby at_39) (fun _ _ => ⟨rfl, eh7, (by decide : 0 + 0 ≤ _), (by decide : 0 + 0 ≤ _)⟩)
    dsimp only [Pt.U, Pt.locs, Pt.cells, Pt.slots] at X8 l8 y8 z8 st8 hQ8
    subst l8 y8 z8
    obtain ⟨rfl, N8q, eh8⟩ := hQ8
    have N8 := Fr.app N7 N8q
    refine own_via st8 ?_
    refine own_go (A := T8.setTop (mkF m 58 #[.val (.int p1), .val (.int (1 : Int32)), .val (.ref ad1), .val (.int (1 : Int32)), .val (.int (1 : Int32))] [(.int (1 : Int32))])) (fun t_ k_ => ?_) ?_
    · show Steps p.tables e below (T8.setTop (mkF m 42 #[.val (.int p1), .val (.int (1 : Int32)), .val (.ref ad1), .val (.int (1 : Int32)), .val (.int (1 : Int32))] [(.int (600000 : Int32)), (.int (1 : Int32))])) t_
      refine XS.ifNo X8.here hx rfl (hb hby at_42) rfl ((if0 _ _).trans (tlt (by decide : (0 : Int32) < (600000 : Int32))).2.2.2) ?_
      show Steps p.tables e below (T8.setTop (mkF m 45 #[.val (.int p1), .val (.int (1 : Int32)), .val (.ref ad1), .val (.int (1 : Int32)), .val (.int (1 : Int32))] [(.int (1 : Int32))])) t_
      refine XS.iconst X8.here hx rfl (hb hby at_45) ?_
      show Steps p.tables e below (T8.setTop (mkF m 46 #[.val (.int p1), .val (.int (1 : Int32)), .val (.ref ad1), .val (.int (1 : Int32)), .val (.int (1 : Int32))] [(.int (1 : Int32)), (.int (1 : Int32))])) t_
      refine XS.goto X8.here hx rfl (pc0 := 46) (pc' := 50) rfl (hb hby at_46) (by decide) (by decide) ?_
      show Steps p.tables e below (T8.setTop (mkF m 50 #[.val (.int p1), .val (.int (1 : Int32)), .val (.ref ad1), .val (.int (1 : Int32)), .val (.int (1 : Int32))] [(.int (1 : Int32)), (.int (1 : Int32))])) t_
      refine XS.icmpNo X8.here hx rfl (hb hby at_50) rfl (teq (by decide : (1 : Int32) = (1 : Int32))).2 ?_
      show Steps p.tables e below (T8.setTop (mkF m 53 #[.val (.int p1), .val (.int (1 : Int32)), .val (.ref ad1), .val (.int (1 : Int32)), .val (.int (1 : Int32))] [])) t_
      refine XS.iconst X8.here hx rfl (hb hby at_53) ?_
      show Steps p.tables e below (T8.setTop (mkF m 54 #[.val (.int p1), .val (.int (1 : Int32)), .val (.ref ad1), .val (.int (1 : Int32)), .val (.int (1 : Int32))] [(.int (1 : Int32))])) t_
      refine XS.goto X8.here hx rfl (pc0 := 54) (pc' := 58) rfl (hb hby at_54) (by decide) (by decide) ?_
      exact k_
    obtain ⟨fs9, hr9, hrun9, hended9, hW9, hsame9⟩ := X8.leave (v := some (.int (1 : Int32))) (fun h => by rw [Bd.returns] at h; cases h)
    refine ⟨_, _, ?_, hrun9, hended9, _, _, rfl, ?_, ⟨_, rfl⟩, hW9, hsame9.mono (by decide) (by decide)⟩
    · exact retN X8 hx (t := .boolean) Bd.returns (by simp) (hb hby at_58) hr9
    · show Q_rm0 Z p1 ad0 ad1 ad2 ad3 ad4 ad5 ad6 ad7 h0 n0 _ T8.heap _
      rw [eh8]
      exact ⟨rfl, N8, rfl⟩
  · rw [hm1]
    refine own_go (A := s₁.setTop (mkF m 9 #[.val (.int p1), .val (.int (2 : Int32)), .unset, .unset, .unset] [(.int (2 : Int32))])) (fun t_ k_ => ?_) ?_
    · show Steps p.tables e below (s₁.setTop (mkF m 7 #[.val (.int p1), .unset, .unset, .unset, .unset] [(.int (2 : Int32))])) t_
      refine XS.istoreN X0.here hx rfl (hb hby at_7) rfl (l' := #[.val (.int p1), .val (.int (2 : Int32)), .unset, .unset, .unset]) rfl ?_
      show Steps p.tables e below (s₁.setTop (mkF m 8 #[.val (.int p1), .val (.int (2 : Int32)), .unset, .unset, .unset] [])) t_
      refine XS.iloadN X0.here hx rfl (hb hby at_8) rfl ?_
      exact k_
    obtain ⟨_, _, ⟨T10, L10, k10, n10⟩, -, X10, ⟨Lc10, hQ10, l10, y10, z10⟩, st10⟩ := Jvm.LawKit.callS X0 hx (y := own_y0) hown (mvT hZ (own_w hw 1 rfl)) (mvT hZ (own_w hw 2 rfl)) (mvT hZ (own_w hw 3 rfl)) (mvT hZ (own_w hw 4 rfl)) (by decide) (backOf (W := 0) (rmPick2 l Z a0 hw [] ad2 h0 n0 Z0 O0 u7) hZ (own_w hw 4 rfl) (own_w hw 3 rfl) (by decide) (by decide)) (g := (mkF m 9 #[.val (.int p1), .val (.int (2 : Int32)), .unset, .unset, .unset] [(.int (2 : Int32))])) rfl (by rw [hml]; rfl) (argsL := [(.int (2 : Int32))]) (rest := []) (lenOf pd_0 rfl) rfl (by show 2 * 0 + _ ≤ _; exact Nat.le_of_eq rfl) (hb hby at_9) (fun _ _ => ⟨rfl, e0, (by decide : 0 + 0 ≤ _), (by decide : 0 + 0 ≤ _)⟩)
    dsimp only [Pt.U, Pt.locs, Pt.cells, Pt.slots] at X10 l10 y10 z10 st10 hQ10
    subst l10 y10 z10
    obtain ⟨rfl, N10q, eh10⟩ := hQ10
    have N10 := Fr.app N0 N10q
    refine own_go st10 ?_
    refine own_go (A := T10.setTop (mkF m 25 #[.val (.int p1), .val (.int (2 : Int32)), .val (.ref ad2), .val (.int (1 : Int32)), .unset] [(.ref ad2)])) (fun t_ k_ => ?_) ?_
    · show Steps p.tables e below (T10.setTop (mkF m 12 #[.val (.int p1), .val (.int (2 : Int32)), .unset, .unset, .unset] [(.ref ad2)])) t_
      refine XS.astoreN X10.here hx rfl (hb hby at_12) rfl rfl (l' := #[.val (.int p1), .val (.int (2 : Int32)), .val (.ref ad2), .unset, .unset]) rfl ?_
      show Steps p.tables e below (T10.setTop (mkF m 13 #[.val (.int p1), .val (.int (2 : Int32)), .val (.ref ad2), .unset, .unset] [])) t_
      refine XS.iloadN X10.here hx rfl (hb hby at_13) rfl ?_
      show Steps p.tables e below (T10.setTop (mkF m 14 #[.val (.int p1), .val (.int (2 : Int32)), .val (.ref ad2), .unset, .unset] [(.int (2 : Int32))])) t_
      refine XS.iconst X10.here hx rfl (hb hby at_14) ?_
      show Steps p.tables e below (T10.setTop (mkF m 15 #[.val (.int p1), .val (.int (2 : Int32)), .val (.ref ad2), .unset, .unset] [(.int (3 : Int32)), (.int (2 : Int32))])) t_
      refine XS.icmpNo X10.here hx rfl (hb hby at_15) rfl (tlt (by decide : (2 : Int32) < (3 : Int32))).2.1 ?_
      show Steps p.tables e below (T10.setTop (mkF m 18 #[.val (.int p1), .val (.int (2 : Int32)), .val (.ref ad2), .unset, .unset] [])) t_
      refine XS.iconst X10.here hx rfl (hb hby at_18) ?_
      show Steps p.tables e below (T10.setTop (mkF m 19 #[.val (.int p1), .val (.int (2 : Int32)), .val (.ref ad2), .unset, .unset] [(.int (1 : Int32))])) t_
      refine XS.goto X10.here hx rfl (pc0 := 19) (pc' := 23) rfl (hb hby at_19) (by decide) (by decide) ?_
      show Steps p.tables e below (T10.setTop (mkF m 23 #[.val (.int p1), .val (.int (2 : Int32)), .val (.ref ad2), .unset, .unset] [(.int (1 : Int32))])) t_
      refine XS.istoreN X10.here hx rfl (hb hby at_23) rfl (l' := #[.val (.int p1), .val (.int (2 : Int32)), .val (.ref ad2), .val (.int (1 : Int32)), .unset]) rfl ?_
      show Steps p.tables e below (T10.setTop (mkF m 24 #[.val (.int p1), .val (.int (2 : Int32)), .val (.ref ad2), .val (.int (1 : Int32)), .unset] [])) t_
      refine XS.aloadN X10.here hx rfl (hb hby at_24) rfl rfl ?_
      exact k_
    obtain ⟨cq11, kq11, q11a, q11b, q11c⟩ := isOf hZ eh10 (u8.ext O0.2)
    obtain ⟨_, _, ⟨T11, L11, k11, n11⟩, -, X11, ⟨Lc11, hQ11, l11, y11, z11⟩, st11⟩ := X10.virtualBack hx (y := own_y1) (z := own_y1) hown (mvT hZ (own_w hw 8 rfl)) (mvT hZ (own_w hw 9 rfl)) (notFace_of_selects (args := #[]) (mvT hZ (own_w hw 11 rfl))) (mvT hZ (own_w hw 11 rfl)) (mvT hZ (own_w hw 10 rfl)) (by decide) (backOf (W := 0) (rmKdT l Z a0 hw [] ad2 (210000 : Int32) h0 n0 Z0 O0 u9 (by decide : ¬ ((210000 : Int32) = (0 : Int32)))) hZ (own_w hw 12 rfl) (own_w hw 6 rfl) (by decide) (by decide)) q11a q11c (g := (mkF m 25 #[.val (.int p1), .val (.int (2 : Int32)), .val (.ref ad2), .val (.int (1 : Int32)), .unset] [(.ref ad2)])) rfl (by rw [hml]; rfl) (Steps.refl _) (argsL := []) (rest := []) (lenOf pd_1 rfl) rfl (by show 2 * 0 + _ ≤ _; exact Nat.le_of_eq rfl) (hb hby at_25) (fun _ _ => ⟨rfl, eh10, (by decide : 0 + 0 ≤ _), (by decide : 0 + 0 ≤ _)⟩)
    dsimp only [Pt.U, Pt.locs, Pt.cells, Pt.slots] at X11 l11 y11 z11 st11 hQ11
    subst l11 y11 z11
    obtain ⟨rfl, N11q, eh11⟩ := hQ11
    have N11 := Fr.app N10 N11q
    refine own_via st11 ?_
    refine own_go (A := T11.setTop (mkF m 39 #[.val (.int p1), .val (.int (2 : Int32)), .val (.ref ad2), .val (.int (1 : Int32)), .val (.int (1 : Int32))] [(.ref ad2), (.int (1 : Int32))])) (fun t_ k_ => ?_) ?_
    · show Steps p.tables e below (T11.setTop (mkF m 28 #[.val (.int p1), .val (.int (2 : Int32)), .val (.ref ad2), .val (.int (1 : Int32)), .unset] [(.int (1 : Int32))])) t_
      refine XS.istore X11.here hx rfl (hb hby at_28) rfl (l' := #[.val (.int p1), .val (.int (2 : Int32)), .val (.ref ad2), .val (.int (1 : Int32)), .val (.int (1 : Int32))]) rfl ?_
      show Steps p.tables e below (T11.setTop (mkF m 30 #[.val (.int p1), .val (.int (2 : Int32)), .val (.ref ad2), .val (.int (1 : Int32)), .val (.int (1 : Int32))] [])) t_
      refine XS.iload X11.here hx rfl (hb hby at_30) rfl ?_
      show Steps p.tables e below (T11.setTop (mkF m 32 #[.val (.int p1), .val (.int (2 : Int32)), .val (.ref ad2), .val (.int (1 : Int32)), .val (.int (1 : Int32))] [(.int (1 : Int32))])) t_
      refine XS.iloadN X11.here hx rfl (hb hby at_32) rfl ?_
      show Steps p.tables e below (T11.setTop (mkF m 33 #[.val (.int p1), .val (.int (2 : Int32)), .val (.ref ad2), .val (.int (1 : Int32)), .val (.int (1 : Int32))] [(.int (1 : Int32)), (.int (1 : Int32))])) t_
      refine XS.icmpNo X11.here hx rfl (hb hby at_33) rfl (teq (by decide : (1 : Int32) = (1 : Int32))).2 ?_
      show Steps p.tables e below (T11.setTop (mkF m 36 #[.val (.int p1), .val (.int (2 : Int32)), .val (.ref ad2), .val (.int (1 : Int32)), .val (.int (1 : Int32))] [])) t_
      refine XS.iload X11.here hx rfl (hb hby at_36) rfl ?_
      show Steps p.tables e below (T11.setTop (mkF m 38 #[.val (.int p1), .val (.int (2 : Int32)), .val (.ref ad2), .val (.int (1 : Int32)), .val (.int (1 : Int32))] [(.int (1 : Int32))])) t_
      refine XS.aloadN X11.here hx rfl (hb hby at_38) rfl rfl ?_
      exact k_
    obtain ⟨cq12, kq12, q12a, q12b, q12c⟩ := isOf hZ eh11 (u8.ext O0.2)
    obtain ⟨_, _, ⟨T12, L12, k12, n12⟩, -, X12, ⟨Lc12, hQ12, l12, y12, z12⟩, st12⟩ := X11.virtualBack hx (y := own_y2) (z := own_y2) hown (mvT hZ (own_w hw 15 rfl)) (mvT hZ (own_w hw 16 rfl)) (notFace_of_selects (args := #[]) (mvT hZ (own_w hw 18 rfl))) (mvT hZ (own_w hw 18 rfl)) (mvT hZ (own_w hw 17 rfl)) (by decide) (backOf (W := 1) (rmLeast l Z a0 hw [] ad2 (210000 : Int32) h0 n0 Z0 O0 u9) hZ (own_w hw 19 rfl) (own_w hw 6 rfl) (by decide) (by decide)) q12a q12c (g := (mkF m 39 #[.val (.int p1), .val (.int (2 : Int32)), .val (.ref ad2), .val (.int (1 : Int32)), .val (.int (1 : Int32))] [(.ref ad2), (.int (1 : Int32))])) rfl (by rw [hml]; rfl) (Steps.refl _) (argsL := []) (rest := [(.int (1 : Int32))]) (lenOf pd_2 rfl) rfl (by show 2 * 0 + _ ≤ _; exact Nat.le_of_eq rfl) (hb hby at_39) (fun _ _ => ⟨rfl, eh11, (by decide : 0 + 0 ≤ _), (by decide : 0 + 0 ≤ _)⟩)
    dsimp only [Pt.U, Pt.locs, Pt.cells, Pt.slots] at X12 l12 y12 z12 st12 hQ12
    subst l12 y12 z12
    obtain ⟨rfl, N12q, eh12⟩ := hQ12
    have N12 := Fr.app N11 N12q
    refine own_via st12 ?_
    refine own_go (A := T12.setTop (mkF m 58 #[.val (.int p1), .val (.int (2 : Int32)), .val (.ref ad2), .val (.int (1 : Int32)), .val (.int (1 : Int32))] [(.int (1 : Int32))])) (fun t_ k_ => ?_) ?_
    · show Steps p.tables e below (T12.setTop (mkF m 42 #[.val (.int p1), .val (.int (2 : Int32)), .val (.ref ad2), .val (.int (1 : Int32)), .val (.int (1 : Int32))] [(.int (210000 : Int32)), (.int (1 : Int32))])) t_
      refine XS.ifNo X12.here hx rfl (hb hby at_42) rfl ((if0 _ _).trans (tlt (by decide : (0 : Int32) < (210000 : Int32))).2.2.2) ?_
      show Steps p.tables e below (T12.setTop (mkF m 45 #[.val (.int p1), .val (.int (2 : Int32)), .val (.ref ad2), .val (.int (1 : Int32)), .val (.int (1 : Int32))] [(.int (1 : Int32))])) t_
      refine XS.iconst X12.here hx rfl (hb hby at_45) ?_
      show Steps p.tables e below (T12.setTop (mkF m 46 #[.val (.int p1), .val (.int (2 : Int32)), .val (.ref ad2), .val (.int (1 : Int32)), .val (.int (1 : Int32))] [(.int (1 : Int32)), (.int (1 : Int32))])) t_
      refine XS.goto X12.here hx rfl (pc0 := 46) (pc' := 50) rfl (hb hby at_46) (by decide) (by decide) ?_
      show Steps p.tables e below (T12.setTop (mkF m 50 #[.val (.int p1), .val (.int (2 : Int32)), .val (.ref ad2), .val (.int (1 : Int32)), .val (.int (1 : Int32))] [(.int (1 : Int32)), (.int (1 : Int32))])) t_
      refine XS.icmpNo X12.here hx rfl (hb hby at_50) rfl (teq (by decide : (1 : Int32) = (1 : Int32))).2 ?_
      show Steps p.tables e below (T12.setTop (mkF m 53 #[.val (.int p1), .val (.int (2 : Int32)), .val (.ref ad2), .val (.int (1 : Int32)), .val (.int (1 : Int32))] [])) t_
      refine XS.iconst X12.here hx rfl (hb hby at_53) ?_
      show Steps p.tables e below (T12.setTop (mkF m 54 #[.val (.int p1), .val (.int (2 : Int32)), .val (.ref ad2), .val (.int (1 : Int32)), .val (.int (1 : Int32))] [(.int (1 : Int32))])) t_
      refine XS.goto X12.here hx rfl (pc0 := 54) (pc' := 58) rfl (hb hby at_54) (by decide) (by decide) ?_
      exact k_
    obtain ⟨fs13, hr13, hrun13, hended13, hW13, hsame13⟩ := X12.leave (v := some (.int (1 : Int32))) (fun h => by rw [Bd.returns] at h; cases h)
    refine ⟨_, _, ?_, hrun13, hended13, _, _, rfl, ?_, ⟨_, rfl⟩, hW13, hsame13.mono (by decide) (by decide)⟩
    · exact retN X12 hx (t := .boolean) Bd.returns (by simp) (hb hby at_58) hr13
    · show Q_rm0 Z p1 ad0 ad1 ad2 ad3 ad4 ad5 ad6 ad7 h0 n0 _ T12.heap _
      rw [eh12]
      exact ⟨rfl, N12, rfl⟩
  · rw [hm1]
    refine own_go (A := s₁.setTop (mkF m 9 #[.val (.int p1), .val (.int (3 : Int32)), .unset, .unset, .unset] [(.int (3 : Int32))])) (fun t_ k_ => ?_) ?_
    · show Steps p.tables e below (s₁.setTop (mkF m 7 #[.val (.int p1), .unset, .unset, .unset, .unset] [(.int (3 : Int32))])) t_
      refine XS.istoreN X0.here hx rfl (hb hby at_7) rfl (l' := #[.val (.int p1), .val (.int (3 : Int32)), .unset, .unset, .unset]) rfl ?_
      show Steps p.tables e below (s₁.setTop (mkF m 8 #[.val (.int p1), .val (.int (3 : Int32)), .unset, .unset, .unset] [])) t_
      refine XS.iloadN X0.here hx rfl (hb hby at_8) rfl ?_
      exact k_
    obtain ⟨_, _, ⟨T14, L14, k14, n14⟩, -, X14, ⟨Lc14, hQ14, l14, y14, z14⟩, st14⟩ := Jvm.LawKit.callS X0 hx (y := own_y0) hown (mvT hZ (own_w hw 1 rfl)) (mvT hZ (own_w hw 2 rfl)) (mvT hZ (own_w hw 3 rfl)) (mvT hZ (own_w hw 4 rfl)) (by decide) (backOf (W := 0) (rmPick3 l Z a0 hw [] ad3 h0 n0 Z0 O0 u10) hZ (own_w hw 4 rfl) (own_w hw 3 rfl) (by decide) (by decide)) (g := (mkF m 9 #[.val (.int p1), .val (.int (3 : Int32)), .unset, .unset, .unset] [(.int (3 : Int32))])) rfl (by rw [hml]; rfl) (argsL := [(.int (3 : Int32))]) (rest := []) (lenOf pd_0 rfl) rfl (by show 2 * 0 + _ ≤ _; exact Nat.le_of_eq rfl) (hb hby at_9) (fun _ _ => ⟨rfl, e0, (by decide : 0 + 0 ≤ _), (by decide : 0 + 0 ≤ _)⟩)
    dsimp only [Pt.U, Pt.locs, Pt.cells, Pt.slots] at X14 l14 y14 z14 st14 hQ14
    subst l14 y14 z14
    obtain ⟨rfl, N14q, eh14⟩ := hQ14
    have N14 := Fr.app N0 N14q
    refine own_go st14 ?_
    refine own_go (A := T14.setTop (mkF m 25 #[.val (.int p1), .val (.int (3 : Int32)), .val (.ref ad3), .val (.int (0 : Int32)), .unset] [(.ref ad3)])) (fun t_ k_ => ?_) ?_
    · show Steps p.tables e below (T14.setTop (mkF m 12 #[.val (.int p1), .val (.int (3 : Int32)), .unset, .unset, .unset] [(.ref ad3)])) t_
      refine XS.astoreN X14.here hx rfl (hb hby at_12) rfl rfl (l' := #[.val (.int p1), .val (.int (3 : Int32)), .val (.ref ad3), .unset, .unset]) rfl ?_
      show Steps p.tables e below (T14.setTop (mkF m 13 #[.val (.int p1), .val (.int (3 : Int32)), .val (.ref ad3), .unset, .unset] [])) t_
      refine XS.iloadN X14.here hx rfl (hb hby at_13) rfl ?_
      show Steps p.tables e below (T14.setTop (mkF m 14 #[.val (.int p1), .val (.int (3 : Int32)), .val (.ref ad3), .unset, .unset] [(.int (3 : Int32))])) t_
      refine XS.iconst X14.here hx rfl (hb hby at_14) ?_
      show Steps p.tables e below (T14.setTop (mkF m 15 #[.val (.int p1), .val (.int (3 : Int32)), .val (.ref ad3), .unset, .unset] [(.int (3 : Int32)), (.int (3 : Int32))])) t_
      refine XS.icmpYes X14.here hx rfl (pc0 := 15) (pc' := 22) rfl (hb hby at_15) rfl (flt (by decide : ¬ ((3 : Int32) < (3 : Int32)))).2.1 (by decide) (by decide) ?_
      show Steps p.tables e below (T14.setTop (mkF m 22 #[.val (.int p1), .val (.int (3 : Int32)), .val (.ref ad3), .unset, .unset] [])) t_
      refine XS.iconst X14.here hx rfl (hb hby at_22) ?_
      show Steps p.tables e below (T14.setTop (mkF m 23 #[.val (.int p1), .val (.int (3 : Int32)), .val (.ref ad3), .unset, .unset] [(.int (0 : Int32))])) t_
      refine XS.istoreN X14.here hx rfl (hb hby at_23) rfl (l' := #[.val (.int p1), .val (.int (3 : Int32)), .val (.ref ad3), .val (.int (0 : Int32)), .unset]) rfl ?_
      show Steps p.tables e below (T14.setTop (mkF m 24 #[.val (.int p1), .val (.int (3 : Int32)), .val (.ref ad3), .val (.int (0 : Int32)), .unset] [])) t_
      refine XS.aloadN X14.here hx rfl (hb hby at_24) rfl rfl ?_
      exact k_
    obtain ⟨cq15, kq15, q15a, q15b, q15c⟩ := isOf hZ eh14 (u11.ext O0.2)
    obtain ⟨_, _, ⟨T15, L15, k15, n15⟩, -, X15, ⟨Lc15, hQ15, l15, y15, z15⟩, st15⟩ := X14.virtualBack hx (y := own_y1) (z := own_y1) hown (mvT hZ (own_w hw 8 rfl)) (mvT hZ (own_w hw 9 rfl)) (notFace_of_selects (args := #[]) (mvT hZ (own_w hw 11 rfl))) (mvT hZ (own_w hw 11 rfl)) (mvT hZ (own_w hw 10 rfl)) (by decide) (backOf (W := 0) (rmKdF l Z a0 hw [] ad3 (0 : Int32) h0 n0 Z0 O0 u12 (by decide : (0 : Int32) = (0 : Int32))) hZ (own_w hw 12 rfl) (own_w hw 6 rfl) (by decide) (by decide)) q15a q15c (g := (mkF m 25 #[.val (.int p1), .val (.int (3 : Int32)), .val (.ref ad3), .val (.int (0 : Int32)), .unset] [(.ref ad3)])) rfl (by rw [hml]; rfl) (Steps.refl _) (argsL := []) (rest := []) (lenOf pd_1 rfl) rfl (by show 2 * 0 + _ ≤ _; exact Nat.le_of_eq rfl) (hb hby at_25) (fun _ _ => ⟨rfl, eh14, (by decide : 0 + 0 ≤ _), (by decide : 0 + 0 ≤ _)⟩)
    dsimp only [Pt.U, Pt.locs, Pt.cells, Pt.slots] at X15 l15 y15 z15 st15 hQ15
    subst l15 y15 z15
    obtain ⟨rfl, N15q, eh15⟩ := hQ15
    have N15 := Fr.app N14 N15q
    refine own_via st15 ?_
    refine own_go (A := T15.setTop (mkF m 39 #[.val (.int p1), .val (.int (3 : Int32)), .val (.ref ad3), .val (.int (0 : Int32)), .val (.int (0 : Int32))] [(.ref ad3), (.int (0 : Int32))])) (fun t_ k_ => ?_) ?_
    · show Steps p.tables e below (T15.setTop (mkF m 28 #[.val (.int p1), .val (.int (3 : Int32)), .val (.ref ad3), .val (.int (0 : Int32)), .unset] [(.int (0 : Int32))])) t_
      refine XS.istore X15.here hx rfl (hb hby at_28) rfl (l' := #[.val (.int p1), .val (.int (3 : Int32)), .val (.ref ad3), .val (.int (0 : Int32)), .val (.int (0 : Int32))]) rfl ?_
      show Steps p.tables e below (T15.setTop (mkF m 30 #[.val (.int p1), .val (.int (3 : Int32)), .val (.ref ad3), .val (.int (0 : Int32)), .val (.int (0 : Int32))] [])) t_
      refine XS.iload X15.here hx rfl (hb hby at_30) rfl ?_
      show Steps p.tables e below (T15.setTop (mkF m 32 #[.val (.int p1), .val (.int (3 : Int32)), .val (.ref ad3), .val (.int (0 : Int32)), .val (.int (0 : Int32))] [(.int (0 : Int32))])) t_
      refine XS.iloadN X15.here hx rfl (hb hby at_32) rfl ?_
      show Steps p.tables e below (T15.setTop (mkF m 33 #[.val (.int p1), .val (.int (3 : Int32)), .val (.ref ad3), .val (.int (0 : Int32)), .val (.int (0 : Int32))] [(.int (0 : Int32)), (.int (0 : Int32))])) t_
      refine XS.icmpNo X15.here hx rfl (hb hby at_33) rfl (teq (by decide : (0 : Int32) = (0 : Int32))).2 ?_
      show Steps p.tables e below (T15.setTop (mkF m 36 #[.val (.int p1), .val (.int (3 : Int32)), .val (.ref ad3), .val (.int (0 : Int32)), .val (.int (0 : Int32))] [])) t_
      refine XS.iload X15.here hx rfl (hb hby at_36) rfl ?_
      show Steps p.tables e below (T15.setTop (mkF m 38 #[.val (.int p1), .val (.int (3 : Int32)), .val (.ref ad3), .val (.int (0 : Int32)), .val (.int (0 : Int32))] [(.int (0 : Int32))])) t_
      refine XS.aloadN X15.here hx rfl (hb hby at_38) rfl rfl ?_
      exact k_
    obtain ⟨cq16, kq16, q16a, q16b, q16c⟩ := isOf hZ eh15 (u11.ext O0.2)
    obtain ⟨_, _, ⟨T16, L16, k16, n16⟩, -, X16, ⟨Lc16, hQ16, l16, y16, z16⟩, st16⟩ := X15.virtualBack hx (y := own_y2) (z := own_y2) hown (mvT hZ (own_w hw 15 rfl)) (mvT hZ (own_w hw 16 rfl)) (notFace_of_selects (args := #[]) (mvT hZ (own_w hw 18 rfl))) (mvT hZ (own_w hw 18 rfl)) (mvT hZ (own_w hw 17 rfl)) (by decide) (backOf (W := 1) (rmLeast l Z a0 hw [] ad3 (0 : Int32) h0 n0 Z0 O0 u12) hZ (own_w hw 19 rfl) (own_w hw 6 rfl) (by decide) (by decide)) q16a q16c (g := (mkF m 39 #[.val (.int p1), .val (.int (3 : Int32)), .val (.ref ad3), .val (.int (0 : Int32)), .val (.int (0 : Int32))] [(.ref ad3), (.int (0 : Int32))])) rfl (by rw [hml]; rfl) (Steps.refl _) (argsL := []) (rest := [(.int (0 : Int32))]) (lenOf pd_2 rfl) rfl (by show 2 * 0 + _ ≤ _; exact Nat.le_of_eq rfl) (hb hby at_39) (fun _ _ => ⟨rfl, eh15, (by decide : 0 + 0 ≤ _), (by decide : 0 + 0 ≤ _)⟩)
    dsimp only [Pt.U, Pt.locs, Pt.cells, Pt.slots] at X16 l16 y16 z16 st16 hQ16
    subst l16 y16 z16
    obtain ⟨rfl, N16q, eh16⟩ := hQ16
    have N16 := Fr.app N15 N16q
    refine own_via st16 ?_
    refine own_go (A := T16.setTop (mkF m 58 #[.val (.int p1), .val (.int (3 : Int32)), .val (.ref ad3), .val (.int (0 : Int32)), .val (.int (0 : Int32))] [(.int (1 : Int32))])) (fun t_ k_ => ?_) ?_
    · show Steps p.tables e below (T16.setTop (mkF m 42 #[.val (.int p1), .val (.int (3 : Int32)), .val (.ref ad3), .val (.int (0 : Int32)), .val (.int (0 : Int32))] [(.int (0 : Int32)), (.int (0 : Int32))])) t_
      refine XS.ifYes X16.here hx rfl (pc0 := 42) (pc' := 49) rfl (hb hby at_42) rfl ((if0 _ _).trans (flt (by decide : ¬ ((0 : Int32) < (0 : Int32)))).2.2.2) (by decide) (by decide) ?_
      show Steps p.tables e below (T16.setTop (mkF m 49 #[.val (.int p1), .val (.int (3 : Int32)), .val (.ref ad3), .val (.int (0 : Int32)), .val (.int (0 : Int32))] [(.int (0 : Int32))])) t_
      refine XS.iconst X16.here hx rfl (hb hby at_49) ?_
      show Steps p.tables e below (T16.setTop (mkF m 50 #[.val (.int p1), .val (.int (3 : Int32)), .val (.ref ad3), .val (.int (0 : Int32)), .val (.int (0 : Int32))] [(.int (0 : Int32)), (.int (0 : Int32))])) t_
      refine XS.icmpNo X16.here hx rfl (hb hby at_50) rfl (teq (by decide : (0 : Int32) = (0 : Int32))).2 ?_
      show Steps p.tables e below (T16.setTop (mkF m 53 #[.val (.int p1), .val (.int (3 : Int32)), .val (.ref ad3), .val (.int (0 : Int32)), .val (.int (0 : Int32))] [])) t_
      refine XS.iconst X16.here hx rfl (hb hby at_53) ?_
      show Steps p.tables e below (T16.setTop (mkF m 54 #[.val (.int p1), .val (.int (3 : Int32)), .val (.ref ad3), .val (.int (0 : Int32)), .val (.int (0 : Int32))] [(.int (1 : Int32))])) t_
      refine XS.goto X16.here hx rfl (pc0 := 54) (pc' := 58) rfl (hb hby at_54) (by decide) (by decide) ?_
      exact k_
    obtain ⟨fs17, hr17, hrun17, hended17, hW17, hsame17⟩ := X16.leave (v := some (.int (1 : Int32))) (fun h => by rw [Bd.returns] at h; cases h)
    refine ⟨_, _, ?_, hrun17, hended17, _, _, rfl, ?_, ⟨_, rfl⟩, hW17, hsame17.mono (by decide) (by decide)⟩
    · exact retN X16 hx (t := .boolean) Bd.returns (by simp) (hb hby at_58) hr17
    · show Q_rm0 Z p1 ad0 ad1 ad2 ad3 ad4 ad5 ad6 ad7 h0 n0 _ T16.heap _
      rw [eh16]
      exact ⟨rfl, N16, rfl⟩
  · rw [hm1]
    refine own_go (A := s₁.setTop (mkF m 9 #[.val (.int p1), .val (.int (4 : Int32)), .unset, .unset, .unset] [(.int (4 : Int32))])) (fun t_ k_ => ?_) ?_
    · show Steps p.tables e below (s₁.setTop (mkF m 7 #[.val (.int p1), .unset, .unset, .unset, .unset] [(.int (4 : Int32))])) t_
      refine XS.istoreN X0.here hx rfl (hb hby at_7) rfl (l' := #[.val (.int p1), .val (.int (4 : Int32)), .unset, .unset, .unset]) rfl ?_
      show Steps p.tables e below (s₁.setTop (mkF m 8 #[.val (.int p1), .val (.int (4 : Int32)), .unset, .unset, .unset] [])) t_
      refine XS.iloadN X0.here hx rfl (hb hby at_8) rfl ?_
      exact k_
    obtain ⟨_, _, ⟨T18, L18, k18, n18⟩, -, X18, ⟨Lc18, hQ18, l18, y18, z18⟩, st18⟩ := Jvm.LawKit.callS X0 hx (y := own_y0) hown (mvT hZ (own_w hw 1 rfl)) (mvT hZ (own_w hw 2 rfl)) (mvT hZ (own_w hw 3 rfl)) (mvT hZ (own_w hw 4 rfl)) (by decide) (backOf (W := 0) (rmPick4 l Z a0 hw [] ad4 h0 n0 Z0 O0 u13) hZ (own_w hw 4 rfl) (own_w hw 3 rfl) (by decide) (by decide)) (g := (mkF m 9 #[.val (.int p1), .val (.int (4 : Int32)), .unset, .unset, .unset] [(.int (4 : Int32))])) rfl (by rw [hml]; rfl) (argsL := [(.int (4 : Int32))]) (rest := []) (lenOf pd_0 rfl) rfl (by show 2 * 0 + _ ≤ _; exact Nat.le_of_eq rfl) (hb hby at_9) (fun _ _ => ⟨rfl, e0, (by decide : 0 + 0 ≤ _), (by decide : 0 + 0 ≤ _)⟩)
    dsimp only [Pt.U, Pt.locs, Pt.cells, Pt.slots] at X18 l18 y18 z18 st18 hQ18
    subst l18 y18 z18
    obtain ⟨rfl, N18q, eh18⟩ := hQ18
    have N18 := Fr.app N0 N18q
    refine own_go st18 ?_
    refine own_go (A := T18.setTop (mkF m 25 #[.val (.int p1), .val (.int (4 : Int32)), .val (.ref ad4), .val (.int (0 : Int32)), .unset] [(.ref ad4)])) (fun t_ k_ => ?_) ?_
    · show Steps p.tables e below (T18.setTop (mkF m 12 #[.val (.int p1), .val (.int (4 : Int32)), .unset, .unset, .unset] [(.ref ad4)])) t_
      refine XS.astoreN X18.here hx rfl (hb hby at_12) rfl rfl (l' := #[.val (.int p1), .val (.int (4 : Int32)), .val (.ref ad4), .unset, .unset]) rfl ?_
      show Steps p.tables e below (T18.setTop (mkF m 13 #[.val (.int p1), .val (.int (4 : Int32)), .val (.ref ad4), .unset, .unset] [])) t_
      refine XS.iloadN X18.here hx rfl (hb hby at_13) rfl ?_
      show Steps p.tables e below (T18.setTop (mkF m 14 #[.val (.int p1), .val (.int (4 : Int32)), .val (.ref ad4), .unset, .unset] [(.int (4 : Int32))])) t_
      refine XS.iconst X18.here hx rfl (hb hby at_14) ?_
      show Steps p.tables e below (T18.setTop (mkF m 15 #[.val (.int p1), .val (.int (4 : Int32)), .val (.ref ad4), .unset, .unset] [(.int (3 : Int32)), (.int (4 : Int32))])) t_
      refine XS.icmpYes X18.here hx rfl (pc0 := 15) (pc' := 22) rfl (hb hby at_15) rfl (flt (by decide : ¬ ((4 : Int32) < (3 : Int32)))).2.1 (by decide) (by decide) ?_
      show Steps p.tables e below (T18.setTop (mkF m 22 #[.val (.int p1), .val (.int (4 : Int32)), .val (.ref ad4), .unset, .unset] [])) t_
      refine XS.iconst X18.here hx rfl (hb hby at_22) ?_
      show Steps p.tables e below (T18.setTop (mkF m 23 #[.val (.int p1), .val (.int (4 : Int32)), .val (.ref ad4), .unset, .unset] [(.int (0 : Int32))])) t_
      refine XS.istoreN X18.here hx rfl (hb hby at_23) rfl (l' := #[.val (.int p1), .val (.int (4 : Int32)), .val (.ref ad4), .val (.int (0 : Int32)), .unset]) rfl ?_
      show Steps p.tables e below (T18.setTop (mkF m 24 #[.val (.int p1), .val (.int (4 : Int32)), .val (.ref ad4), .val (.int (0 : Int32)), .unset] [])) t_
      refine XS.aloadN X18.here hx rfl (hb hby at_24) rfl rfl ?_
      exact k_
    obtain ⟨cq19, kq19, q19a, q19b, q19c⟩ := isOf hZ eh18 (u14.ext O0.2)
    obtain ⟨_, _, ⟨T19, L19, k19, n19⟩, -, X19, ⟨Lc19, hQ19, l19, y19, z19⟩, st19⟩ := X18.virtualBack hx (y := own_y1) (z := own_y1) hown (mvT hZ (own_w hw 8 rfl)) (mvT hZ (own_w hw 9 rfl)) (notFace_of_selects (args := #[]) (mvT hZ (own_w hw 11 rfl))) (mvT hZ (own_w hw 11 rfl)) (mvT hZ (own_w hw 10 rfl)) (by decide) (backOf (W := 0) (rmKdF l Z a0 hw [] ad4 (0 : Int32) h0 n0 Z0 O0 u15 (by decide : (0 : Int32) = (0 : Int32))) hZ (own_w hw 12 rfl) (own_w hw 6 rfl) (by decide) (by decide)) q19a q19c (g := (mkF m 25 #[.val (.int p1), .val (.int (4 : Int32)), .val (.ref ad4), .val (.int (0 : Int32)), .unset] [(.ref ad4)])) rfl (by rw [hml]; rfl) (Steps.refl _) (argsL := []) (rest := []) (lenOf pd_1 rfl) rfl (by show 2 * 0 + _ ≤ _; exact Nat.le_of_eq rfl) (hb hby at_25) (fun _ _ => ⟨rfl, eh18, (by decide : 0 + 0 ≤ _), (by decide : 0 + 0 ≤ _)⟩)
    dsimp only [Pt.U, Pt.locs, Pt.cells, Pt.slots] at X19 l19 y19 z19 st19 hQ19
    subst l19 y19 z19
    obtain ⟨rfl, N19q, eh19⟩ := hQ19
    have N19 := Fr.app N18 N19q
    refine own_via st19 ?_
    refine own_go (A := T19.setTop (mkF m 39 #[.val (.int p1), .val (.int (4 : Int32)), .val (.ref ad4), .val (.int (0 : Int32)), .val (.int (0 : Int32))] [(.ref ad4), (.int (0 : Int32))])) (fun t_ k_ => ?_) ?_
    · show Steps p.tables e below (T19.setTop (mkF m 28 #[.val (.int p1), .val (.int (4 : Int32)), .val (.ref ad4), .val (.int (0 : Int32)), .unset] [(.int (0 : Int32))])) t_
      refine XS.istore X19.here hx rfl (hb hby at_28) rfl (l' := #[.val (.int p1), .val (.int (4 : Int32)), .val (.ref ad4), .val (.int (0 : Int32)), .val (.int (0 : Int32))]) rfl ?_
      show Steps p.tables e below (T19.setTop (mkF m 30 #[.val (.int p1), .val (.int (4 : Int32)), .val (.ref ad4), .val (.int (0 : Int32)), .val (.int (0 : Int32))] [])) t_
      refine XS.iload X19.here hx rfl (hb hby at_30) rfl ?_
      show Steps p.tables e below (T19.setTop (mkF m 32 #[.val (.int p1), .val (.int (4 : Int32)), .val (.ref ad4), .val (.int (0 : Int32)), .val (.int (0 : Int32))] [(.int (0 : Int32))])) t_
      refine XS.iloadN X19.here hx rfl (hb hby at_32) rfl ?_
      show Steps p.tables e below (T19.setTop (mkF m 33 #[.val (.int p1), .val (.int (4 : Int32)), .val (.ref ad4), .val (.int (0 : Int32)), .val (.int (0 : Int32))] [(.int (0 : Int32)), (.int (0 : Int32))])) t_
      refine XS.icmpNo X19.here hx rfl (hb hby at_33) rfl (teq (by decide : (0 : Int32) = (0 : Int32))).2 ?_
      show Steps p.tables e below (T19.setTop (mkF m 36 #[.val (.int p1), .val (.int (4 : Int32)), .val (.ref ad4), .val (.int (0 : Int32)), .val (.int (0 : Int32))] [])) t_
      refine XS.iload X19.here hx rfl (hb hby at_36) rfl ?_
      show Steps p.tables e below (T19.setTop (mkF m 38 #[.val (.int p1), .val (.int (4 : Int32)), .val (.ref ad4), .val (.int (0 : Int32)), .val (.int (0 : Int32))] [(.int (0 : Int32))])) t_
      refine XS.aloadN X19.here hx rfl (hb hby at_38) rfl rfl ?_
      exact k_
    obtain ⟨cq20, kq20, q20a, q20b, q20c⟩ := isOf hZ eh19 (u14.ext O0.2)
    obtain ⟨_, _, ⟨T20, L20, k20, n20⟩, -, X20, ⟨Lc20, hQ20, l20, y20, z20⟩, st20⟩ := X19.virtualBack hx (y := own_y2) (z := own_y2) hown (mvT hZ (own_w hw 15 rfl)) (mvT hZ (own_w hw 16 rfl)) (notFace_of_selects (args := #[]) (mvT hZ (own_w hw 18 rfl))) (mvT hZ (own_w hw 18 rfl)) (mvT hZ (own_w hw 17 rfl)) (by decide) (backOf (W := 1) (rmLeast l Z a0 hw [] ad4 (0 : Int32) h0 n0 Z0 O0 u15) hZ (own_w hw 19 rfl) (own_w hw 6 rfl) (by decide) (by decide)) q20a q20c (g := (mkF m 39 #[.val (.int p1), .val (.int (4 : Int32)), .val (.ref ad4), .val (.int (0 : Int32)), .val (.int (0 : Int32))] [(.ref ad4), (.int (0 : Int32))])) rfl (by rw [hml]; rfl) (Steps.refl _) (argsL := []) (rest := [(.int (0 : Int32))]) (lenOf pd_2 rfl) rfl (by show 2 * 0 + _ ≤ _; exact Nat.le_of_eq rfl) (hb hby at_39) (fun _ _ => ⟨rfl, eh19, (by decide : 0 + 0 ≤ _), (by decide : 0 + 0 ≤ _)⟩)
    dsimp only [Pt.U, Pt.locs, Pt.cells, Pt.slots] at X20 l20 y20 z20 st20 hQ20
    subst l20 y20 z20
    obtain ⟨rfl, N20q, eh20⟩ := hQ20
    have N20 := Fr.app N19 N20q
    refine own_via st20 ?_
    refine own_go (A := T20.setTop (mkF m 58 #[.val (.int p1), .val (.int (4 : Int32)), .val (.ref ad4), .val (.int (0 : Int32)), .val (.int (0 : Int32))] [(.int (1 : Int32))])) (fun t_ k_ => ?_) ?_
    · show Steps p.tables e below (T20.setTop (mkF m 42 #[.val (.int p1), .val (.int (4 : Int32)), .val (.ref ad4), .val (.int (0 : Int32)), .val (.int (0 : Int32))] [(.int (0 : Int32)), (.int (0 : Int32))])) t_
      refine XS.ifYes X20.here hx rfl (pc0 := 42) (pc' := 49) rfl (hb hby at_42) rfl ((if0 _ _).trans (flt (by decide : ¬ ((0 : Int32) < (0 : Int32)))).2.2.2) (by decide) (by decide) ?_
      show Steps p.tables e below (T20.setTop (mkF m 49 #[.val (.int p1), .val (.int (4 : Int32)), .val (.ref ad4), .val (.int (0 : Int32)), .val (.int (0 : Int32))] [(.int (0 : Int32))])) t_
      refine XS.iconst X20.here hx rfl (hb hby at_49) ?_
      show Steps p.tables e below (T20.setTop (mkF m 50 #[.val (.int p1), .val (.int (4 : Int32)), .val (.ref ad4), .val (.int (0 : Int32)), .val (.int (0 : Int32))] [(.int (0 : Int32)), (.int (0 : Int32))])) t_
      refine XS.icmpNo X20.here hx rfl (hb hby at_50) rfl (teq (by decide : (0 : Int32) = (0 : Int32))).2 ?_
      show Steps p.tables e below (T20.setTop (mkF m 53 #[.val (.int p1), .val (.int (4 : Int32)), .val (.ref ad4), .val (.int (0 : Int32)), .val (.int (0 : Int32))] [])) t_
      refine XS.iconst X20.here hx rfl (hb hby at_53) ?_
      show Steps p.tables e below (T20.setTop (mkF m 54 #[.val (.int p1), .val (.int (4 : Int32)), .val (.ref ad4), .val (.int (0 : Int32)), .val (.int (0 : Int32))] [(.int (1 : Int32))])) t_
      refine XS.goto X20.here hx rfl (pc0 := 54) (pc' := 58) rfl (hb hby at_54) (by decide) (by decide) ?_
      exact k_
    obtain ⟨fs21, hr21, hrun21, hended21, hW21, hsame21⟩ := X20.leave (v := some (.int (1 : Int32))) (fun h => by rw [Bd.returns] at h; cases h)
    refine ⟨_, _, ?_, hrun21, hended21, _, _, rfl, ?_, ⟨_, rfl⟩, hW21, hsame21.mono (by decide) (by decide)⟩
    · exact retN X20 hx (t := .boolean) Bd.returns (by simp) (hb hby at_58) hr21
    · show Q_rm0 Z p1 ad0 ad1 ad2 ad3 ad4 ad5 ad6 ad7 h0 n0 _ T20.heap _
      rw [eh20]
      exact ⟨rfl, N20, rfl⟩
  · rw [hm1]
    refine own_go (A := s₁.setTop (mkF m 9 #[.val (.int p1), .val (.int (5 : Int32)), .unset, .unset, .unset] [(.int (5 : Int32))])) (fun t_ k_ => ?_) ?_
    · show Steps p.tables e below (s₁.setTop (mkF m 7 #[.val (.int p1), .unset, .unset, .unset, .unset] [(.int (5 : Int32))])) t_
      refine XS.istoreN X0.here hx rfl (hb hby at_7) rfl (l' := #[.val (.int p1), .val (.int (5 : Int32)), .unset, .unset, .unset]) rfl ?_
      show Steps p.tables e below (s₁.setTop (mkF m 8 #[.val (.int p1), .val (.int (5 : Int32)), .unset, .unset, .unset] [])) t_
      refine XS.iloadN X0.here hx rfl (hb hby at_8) rfl ?_
      exact k_
    obtain ⟨_, _, ⟨T22, L22, k22, n22⟩, -, X22, ⟨Lc22, hQ22, l22, y22, z22⟩, st22⟩ := Jvm.LawKit.callS X0 hx (y := own_y0) hown (mvT hZ (own_w hw 1 rfl)) (mvT hZ (own_w hw 2 rfl)) (mvT hZ (own_w hw 3 rfl)) (mvT hZ (own_w hw 4 rfl)) (by decide) (backOf (W := 0) (rmPick5 l Z a0 hw [] ad5 h0 n0 Z0 O0 u16) hZ (own_w hw 4 rfl) (own_w hw 3 rfl) (by decide) (by decide)) (g := (mkF m 9 #[.val (.int p1), .val (.int (5 : Int32)), .unset, .unset, .unset] [(.int (5 : Int32))])) rfl (by rw [hml]; rfl) (argsL := [(.int (5 : Int32))]) (rest := []) (lenOf pd_0 rfl) rfl (by show 2 * 0 + _ ≤ _; exact Nat.le_of_eq rfl) (hb hby at_9) (fun _ _ => ⟨rfl, e0, (by decide : 0 + 0 ≤ _), (by decide : 0 + 0 ≤ _)⟩)
    dsimp only [Pt.U, Pt.locs, Pt.cells, Pt.slots] at X22 l22 y22 z22 st22 hQ22
    subst l22 y22 z22
    obtain ⟨rfl, N22q, eh22⟩ := hQ22
    have N22 := Fr.app N0 N22q
    refine own_go st22 ?_
    refine own_go (A := T22.setTop (mkF m 25 #[.val (.int p1), .val (.int (5 : Int32)), .val (.ref ad5), .val (.int (0 : Int32)), .unset] [(.ref ad5)])) (fun t_ k_ => ?_) ?_
    · show Steps p.tables e below (T22.setTop (mkF m 12 #[.val (.int p1), .val (.int (5 : Int32)), .unset, .unset, .unset] [(.ref ad5)])) t_
      refine XS.astoreN X22.here hx rfl (hb hby at_12) rfl rfl (l' := #[.val (.int p1), .val (.int (5 : Int32)), .val (.ref ad5), .unset, .unset]) rfl ?_
      show Steps p.tables e below (T22.setTop (mkF m 13 #[.val (.int p1), .val (.int (5 : Int32)), .val (.ref ad5), .unset, .unset] [])) t_
      refine XS.iloadN X22.here hx rfl (hb hby at_13) rfl ?_
      show Steps p.tables e below (T22.setTop (mkF m 14 #[.val (.int p1), .val (.int (5 : Int32)), .val (.ref ad5), .unset, .unset] [(.int (5 : Int32))])) t_
      refine XS.iconst X22.here hx rfl (hb hby at_14) ?_
      show Steps p.tables e below (T22.setTop (mkF m 15 #[.val (.int p1), .val (.int (5 : Int32)), .val (.ref ad5), .unset, .unset] [(.int (3 : Int32)), (.int (5 : Int32))])) t_
      refine XS.icmpYes X22.here hx rfl (pc0 := 15) (pc' := 22) rfl (hb hby at_15) rfl (flt (by decide : ¬ ((5 : Int32) < (3 : Int32)))).2.1 (by decide) (by decide) ?_
      show Steps p.tables e below (T22.setTop (mkF m 22 #[.val (.int p1), .val (.int (5 : Int32)), .val (.ref ad5), .unset, .unset] [])) t_
      refine XS.iconst X22.here hx rfl (hb hby at_22) ?_
      show Steps p.tables e below (T22.setTop (mkF m 23 #[.val (.int p1), .val (.int (5 : Int32)), .val (.ref ad5), .unset, .unset] [(.int (0 : Int32))])) t_
      refine XS.istoreN X22.here hx rfl (hb hby at_23) rfl (l' := #[.val (.int p1), .val (.int (5 : Int32)), .val (.ref ad5), .val (.int (0 : Int32)), .unset]) rfl ?_
      show Steps p.tables e below (T22.setTop (mkF m 24 #[.val (.int p1), .val (.int (5 : Int32)), .val (.ref ad5), .val (.int (0 : Int32)), .unset] [])) t_
      refine XS.aloadN X22.here hx rfl (hb hby at_24) rfl rfl ?_
      exact k_
    obtain ⟨cq23, kq23, q23a, q23b, q23c⟩ := isOf hZ eh22 (u17.ext O0.2)
    obtain ⟨_, _, ⟨T23, L23, k23, n23⟩, -, X23, ⟨Lc23, hQ23, l23, y23, z23⟩, st23⟩ := X22.virtualBack hx (y := own_y1) (z := own_y1) hown (mvT hZ (own_w hw 8 rfl)) (mvT hZ (own_w hw 9 rfl)) (notFace_of_selects (args := #[]) (mvT hZ (own_w hw 11 rfl))) (mvT hZ (own_w hw 11 rfl)) (mvT hZ (own_w hw 10 rfl)) (by decide) (backOf (W := 0) (rmKdF l Z a0 hw [] ad5 (0 : Int32) h0 n0 Z0 O0 u18 (by decide : (0 : Int32) = (0 : Int32))) hZ (own_w hw 12 rfl) (own_w hw 6 rfl) (by decide) (by decide)) q23a q23c (g := (mkF m 25 #[.val (.int p1), .val (.int (5 : Int32)), .val (.ref ad5), .val (.int (0 : Int32)), .unset] [(.ref ad5)])) rfl (by rw [hml]; rfl) (Steps.refl _) (argsL := []) (rest := []) (lenOf pd_1 rfl) rfl (by show 2 * 0 + _ ≤ _; exact Nat.le_of_eq rfl) (hb hby at_25) (fun _ _ => ⟨rfl, eh22, (by decide : 0 + 0 ≤ _), (by decide : 0 + 0 ≤ _)⟩)
    dsimp only [Pt.U, Pt.locs, Pt.cells, Pt.slots] at X23 l23 y23 z23 st23 hQ23
    subst l23 y23 z23
    obtain ⟨rfl, N23q, eh23⟩ := hQ23
    have N23 := Fr.app N22 N23q
    refine own_via st23 ?_
    refine own_go (A := T23.setTop (mkF m 39 #[.val (.int p1), .val (.int (5 : Int32)), .val (.ref ad5), .val (.int (0 : Int32)), .val (.int (0 : Int32))] [(.ref ad5), (.int (0 : Int32))])) (fun t_ k_ => ?_) ?_
    · show Steps p.tables e below (T23.setTop (mkF m 28 #[.val (.int p1), .val (.int (5 : Int32)), .val (.ref ad5), .val (.int (0 : Int32)), .unset] [(.int (0 : Int32))])) t_
      refine XS.istore X23.here hx rfl (hb hby at_28) rfl (l' := #[.val (.int p1), .val (.int (5 : Int32)), .val (.ref ad5), .val (.int (0 : Int32)), .val (.int (0 : Int32))]) rfl ?_
      show Steps p.tables e below (T23.setTop (mkF m 30 #[.val (.int p1), .val (.int (5 : Int32)), .val (.ref ad5), .val (.int (0 : Int32)), .val (.int (0 : Int32))] [])) t_
      refine XS.iload X23.here hx rfl (hb hby at_30) rfl ?_
      show Steps p.tables e below (T23.setTop (mkF m 32 #[.val (.int p1), .val (.int (5 : Int32)), .val (.ref ad5), .val (.int (0 : Int32)), .val (.int (0 : Int32))] [(.int (0 : Int32))])) t_
      refine XS.iloadN X23.here hx rfl (hb hby at_32) rfl ?_
      show Steps p.tables e below (T23.setTop (mkF m 33 #[.val (.int p1), .val (.int (5 : Int32)), .val (.ref ad5), .val (.int (0 : Int32)), .val (.int (0 : Int32))] [(.int (0 : Int32)), (.int (0 : Int32))])) t_
      refine XS.icmpNo X23.here hx rfl (hb hby at_33) rfl (teq (by decide : (0 : Int32) = (0 : Int32))).2 ?_
      show Steps p.tables e below (T23.setTop (mkF m 36 #[.val (.int p1), .val (.int (5 : Int32)), .val (.ref ad5), .val (.int (0 : Int32)), .val (.int (0 : Int32))] [])) t_
      refine XS.iload X23.here hx rfl (hb hby at_36) rfl ?_
      show Steps p.tables e below (T23.setTop (mkF m 38 #[.val (.int p1), .val (.int (5 : Int32)), .val (.ref ad5), .val (.int (0 : Int32)), .val (.int (0 : Int32))] [(.int (0 : Int32))])) t_
      refine XS.aloadN X23.here hx rfl (hb hby at_38) rfl rfl ?_
      exact k_
    obtain ⟨cq24, kq24, q24a, q24b, q24c⟩ := isOf hZ eh23 (u17.ext O0.2)
    obtain ⟨_, _, ⟨T24, L24, k24, n24⟩, -, X24, ⟨Lc24, hQ24, l24, y24, z24⟩, st24⟩ := X23.virtualBack hx (y := own_y2) (z := own_y2) hown (mvT hZ (own_w hw 15 rfl)) (mvT hZ (own_w hw 16 rfl)) (notFace_of_selects (args := #[]) (mvT hZ (own_w hw 18 rfl))) (mvT hZ (own_w hw 18 rfl)) (mvT hZ (own_w hw 17 rfl)) (by decide) (backOf (W := 1) (rmLeast l Z a0 hw [] ad5 (0 : Int32) h0 n0 Z0 O0 u18) hZ (own_w hw 19 rfl) (own_w hw 6 rfl) (by decide) (by decide)) q24a q24c (g := (mkF m 39 #[.val (.int p1), .val (.int (5 : Int32)), .val (.ref ad5), .val (.int (0 : Int32)), .val (.int (0 : Int32))] [(.ref ad5), (.int (0 : Int32))])) rfl (by rw [hml]; rfl) (Steps.refl _) (argsL := []) (rest := [(.int (0 : Int32))]) (lenOf pd_2 rfl) rfl (by show 2 * 0 + _ ≤ _; exact Nat.le_of_eq rfl) (hb hby at_39) (fun _ _ => ⟨rfl, eh23, (by decide : 0 + 0 ≤ _), (by decide : 0 + 0 ≤ _)⟩)
    dsimp only [Pt.U, Pt.locs, Pt.cells, Pt.slots] at X24 l24 y24 z24 st24 hQ24
    subst l24 y24 z24
    obtain ⟨rfl, N24q, eh24⟩ := hQ24
    have N24 := Fr.app N23 N24q
    refine own_via st24 ?_
    refine own_go (A := T24.setTop (mkF m 58 #[.val (.int p1), .val (.int (5 : Int32)), .val (.ref ad5), .val (.int (0 : Int32)), .val (.int (0 : Int32))] [(.int (1 : Int32))])) (fun t_ k_ => ?_) ?_
    · show Steps p.tables e below (T24.setTop (mkF m 42 #[.val (.int p1), .val (.int (5 : Int32)), .val (.ref ad5), .val (.int (0 : Int32)), .val (.int (0 : Int32))] [(.int (0 : Int32)), (.int (0 : Int32))])) t_
      refine XS.ifYes X24.here hx rfl (pc0 := 42) (pc' := 49) rfl (hb hby at_42) rfl ((if0 _ _).trans (flt (by decide : ¬ ((0 : Int32) < (0 : Int32)))).2.2.2) (by decide) (by decide) ?_
      show Steps p.tables e below (T24.setTop (mkF m 49 #[.val (.int p1), .val (.int (5 : Int32)), .val (.ref ad5), .val (.int (0 : Int32)), .val (.int (0 : Int32))] [(.int (0 : Int32))])) t_
      refine XS.iconst X24.here hx rfl (hb hby at_49) ?_
      show Steps p.tables e below (T24.setTop (mkF m 50 #[.val (.int p1), .val (.int (5 : Int32)), .val (.ref ad5), .val (.int (0 : Int32)), .val (.int (0 : Int32))] [(.int (0 : Int32)), (.int (0 : Int32))])) t_
      refine XS.icmpNo X24.here hx rfl (hb hby at_50) rfl (teq (by decide : (0 : Int32) = (0 : Int32))).2 ?_
      show Steps p.tables e below (T24.setTop (mkF m 53 #[.val (.int p1), .val (.int (5 : Int32)), .val (.ref ad5), .val (.int (0 : Int32)), .val (.int (0 : Int32))] [])) t_
      refine XS.iconst X24.here hx rfl (hb hby at_53) ?_
      show Steps p.tables e below (T24.setTop (mkF m 54 #[.val (.int p1), .val (.int (5 : Int32)), .val (.ref ad5), .val (.int (0 : Int32)), .val (.int (0 : Int32))] [(.int (1 : Int32))])) t_
      refine XS.goto X24.here hx rfl (pc0 := 54) (pc' := 58) rfl (hb hby at_54) (by decide) (by decide) ?_
      exact k_
    obtain ⟨fs25, hr25, hrun25, hended25, hW25, hsame25⟩ := X24.leave (v := some (.int (1 : Int32))) (fun h => by rw [Bd.returns] at h; cases h)
    refine ⟨_, _, ?_, hrun25, hended25, _, _, rfl, ?_, ⟨_, rfl⟩, hW25, hsame25.mono (by decide) (by decide)⟩
    · exact retN X24 hx (t := .boolean) Bd.returns (by simp) (hb hby at_58) hr25
    · show Q_rm0 Z p1 ad0 ad1 ad2 ad3 ad4 ad5 ad6 ad7 h0 n0 _ T24.heap _
      rw [eh24]
      exact ⟨rfl, N24, rfl⟩
  · rw [hm1]
    refine own_go (A := s₁.setTop (mkF m 9 #[.val (.int p1), .val (.int (6 : Int32)), .unset, .unset, .unset] [(.int (6 : Int32))])) (fun t_ k_ => ?_) ?_
    · show Steps p.tables e below (s₁.setTop (mkF m 7 #[.val (.int p1), .unset, .unset, .unset, .unset] [(.int (6 : Int32))])) t_
      refine XS.istoreN X0.here hx rfl (hb hby at_7) rfl (l' := #[.val (.int p1), .val (.int (6 : Int32)), .unset, .unset, .unset]) rfl ?_
      show Steps p.tables e below (s₁.setTop (mkF m 8 #[.val (.int p1), .val (.int (6 : Int32)), .unset, .unset, .unset] [])) t_
      refine XS.iloadN X0.here hx rfl (hb hby at_8) rfl ?_
      exact k_
    obtain ⟨_, _, ⟨T26, L26, k26, n26⟩, -, X26, ⟨Lc26, hQ26, l26, y26, z26⟩, st26⟩ := Jvm.LawKit.callS X0 hx (y := own_y0) hown (mvT hZ (own_w hw 1 rfl)) (mvT hZ (own_w hw 2 rfl)) (mvT hZ (own_w hw 3 rfl)) (mvT hZ (own_w hw 4 rfl)) (by decide) (backOf (W := 0) (rmPick6 l Z a0 hw [] ad6 h0 n0 Z0 O0 u19) hZ (own_w hw 4 rfl) (own_w hw 3 rfl) (by decide) (by decide)) (g := (mkF m 9 #[.val (.int p1), .val (.int (6 : Int32)), .unset, .unset, .unset] [(.int (6 : Int32))])) rfl (by rw [hml]; rfl) (argsL := [(.int (6 : Int32))]) (rest := []) (lenOf pd_0 rfl) rfl (by show 2 * 0 + _ ≤ _; exact Nat.le_of_eq rfl) (hb hby at_9) (fun _ _ => ⟨rfl, e0, (by decide : 0 + 0 ≤ _), (by decide : 0 + 0 ≤ _)⟩)
    dsimp only [Pt.U, Pt.locs, Pt.cells, Pt.slots] at X26 l26 y26 z26 st26 hQ26
    subst l26 y26 z26
    obtain ⟨rfl, N26q, eh26⟩ := hQ26
    have N26 := Fr.app N0 N26q
    refine own_go st26 ?_
    refine own_go (A := T26.setTop (mkF m 25 #[.val (.int p1), .val (.int (6 : Int32)), .val (.ref ad6), .val (.int (0 : Int32)), .unset] [(.ref ad6)])) (fun t_ k_ => ?_) ?_
    · show Steps p.tables e below (T26.setTop (mkF m 12 #[.val (.int p1), .val (.int (6 : Int32)), .unset, .unset, .unset] [(.ref ad6)])) t_
      refine XS.astoreN X26.here hx rfl (hb hby at_12) rfl rfl (l' := #[.val (.int p1), .val (.int (6 : Int32)), .val (.ref ad6), .unset, .unset]) rfl ?_
      show Steps p.tables e below (T26.setTop (mkF m 13 #[.val (.int p1), .val (.int (6 : Int32)), .val (.ref ad6), .unset, .unset] [])) t_
      refine XS.iloadN X26.here hx rfl (hb hby at_13) rfl ?_
      show Steps p.tables e below (T26.setTop (mkF m 14 #[.val (.int p1), .val (.int (6 : Int32)), .val (.ref ad6), .unset, .unset] [(.int (6 : Int32))])) t_
      refine XS.iconst X26.here hx rfl (hb hby at_14) ?_
      show Steps p.tables e below (T26.setTop (mkF m 15 #[.val (.int p1), .val (.int (6 : Int32)), .val (.ref ad6), .unset, .unset] [(.int (3 : Int32)), (.int (6 : Int32))])) t_
      refine XS.icmpYes X26.here hx rfl (pc0 := 15) (pc' := 22) rfl (hb hby at_15) rfl (flt (by decide : ¬ ((6 : Int32) < (3 : Int32)))).2.1 (by decide) (by decide) ?_
      show Steps p.tables e below (T26.setTop (mkF m 22 #[.val (.int p1), .val (.int (6 : Int32)), .val (.ref ad6), .unset, .unset] [])) t_
      refine XS.iconst X26.here hx rfl (hb hby at_22) ?_
      show Steps p.tables e below (T26.setTop (mkF m 23 #[.val (.int p1), .val (.int (6 : Int32)), .val (.ref ad6), .unset, .unset] [(.int (0 : Int32))])) t_
      refine XS.istoreN X26.here hx rfl (hb hby at_23) rfl (l' := #[.val (.int p1), .val (.int (6 : Int32)), .val (.ref ad6), .val (.int (0 : Int32)), .unset]) rfl ?_
      show Steps p.tables e below (T26.setTop (mkF m 24 #[.val (.int p1), .val (.int (6 : Int32)), .val (.ref ad6), .val (.int (0 : Int32)), .unset] [])) t_
      refine XS.aloadN X26.here hx rfl (hb hby at_24) rfl rfl ?_
      exact k_
    obtain ⟨cq27, kq27, q27a, q27b, q27c⟩ := isOf hZ eh26 (u20.ext O0.2)
    obtain ⟨_, _, ⟨T27, L27, k27, n27⟩, -, X27, ⟨Lc27, hQ27, l27, y27, z27⟩, st27⟩ := X26.virtualBack hx (y := own_y1) (z := own_y1) hown (mvT hZ (own_w hw 8 rfl)) (mvT hZ (own_w hw 9 rfl)) (notFace_of_selects (args := #[]) (mvT hZ (own_w hw 11 rfl))) (mvT hZ (own_w hw 11 rfl)) (mvT hZ (own_w hw 10 rfl)) (by decide) (backOf (W := 0) (rmKdF l Z a0 hw [] ad6 (0 : Int32) h0 n0 Z0 O0 u21 (by decide : (0 : Int32) = (0 : Int32))) hZ (own_w hw 12 rfl) (own_w hw 6 rfl) (by decide) (by decide)) q27a q27c (g := (mkF m 25 #[.val (.int p1), .val (.int (6 : Int32)), .val (.ref ad6), .val (.int (0 : Int32)), .unset] [(.ref ad6)])) rfl (by rw [hml]; rfl) (Steps.refl _) (argsL := []) (rest := []) (lenOf pd_1 rfl) rfl (by show 2 * 0 + _ ≤ _; exact Nat.le_of_eq rfl) (hb hby at_25) (fun _ _ => ⟨rfl, eh26, (by decide : 0 + 0 ≤ _), (by decide : 0 + 0 ≤ _)⟩)
    dsimp only [Pt.U, Pt.locs, Pt.cells, Pt.slots] at X27 l27 y27 z27 st27 hQ27
    subst l27 y27 z27
    obtain ⟨rfl, N27q, eh27⟩ := hQ27
    have N27 := Fr.app N26 N27q
    refine own_via st27 ?_
    refine own_go (A := T27.setTop (mkF m 39 #[.val (.int p1), .val (.int (6 : Int32)), .val (.ref ad6), .val (.int (0 : Int32)), .val (.int (0 : Int32))] [(.ref ad6), (.int (0 : Int32))])) (fun t_ k_ => ?_) ?_
    · show Steps p.tables e below (T27.setTop (mkF m 28 #[.val (.int p1), .val (.int (6 : Int32)), .val (.ref ad6), .val (.int (0 : Int32)), .unset] [(.int (0 : Int32))])) t_
      refine XS.istore X27.here hx rfl (hb hby at_28) rfl (l' := #[.val (.int p1), .val (.int (6 : Int32)), .val (.ref ad6), .val (.int (0 : Int32)), .val (.int (0 : Int32))]) rfl ?_
      show Steps p.tables e below (T27.setTop (mkF m 30 #[.val (.int p1), .val (.int (6 : Int32)), .val (.ref ad6), .val (.int (0 : Int32)), .val (.int (0 : Int32))] [])) t_
      refine XS.iload X27.here hx rfl (hb hby at_30) rfl ?_
      show Steps p.tables e below (T27.setTop (mkF m 32 #[.val (.int p1), .val (.int (6 : Int32)), .val (.ref ad6), .val (.int (0 : Int32)), .val (.int (0 : Int32))] [(.int (0 : Int32))])) t_
      refine XS.iloadN X27.here hx rfl (hb hby at_32) rfl ?_
      show Steps p.tables e below (T27.setTop (mkF m 33 #[.val (.int p1), .val (.int (6 : Int32)), .val (.ref ad6), .val (.int (0 : Int32)), .val (.int (0 : Int32))] [(.int (0 : Int32)), (.int (0 : Int32))])) t_
      refine XS.icmpNo X27.here hx rfl (hb hby at_33) rfl (teq (by decide : (0 : Int32) = (0 : Int32))).2 ?_
      show Steps p.tables e below (T27.setTop (mkF m 36 #[.val (.int p1), .val (.int (6 : Int32)), .val (.ref ad6), .val (.int (0 : Int32)), .val (.int (0 : Int32))] [])) t_
      refine XS.iload X27.here hx rfl (hb hby at_36) rfl ?_
      show Steps p.tables e below (T27.setTop (mkF m 38 #[.val (.int p1), .val (.int (6 : Int32)), .val (.ref ad6), .val (.int (0 : Int32)), .val (.int (0 : Int32))] [(.int (0 : Int32))])) t_
      refine XS.aloadN X27.here hx rfl (hb hby at_38) rfl rfl ?_
      exact k_
    obtain ⟨cq28, kq28, q28a, q28b, q28c⟩ := isOf hZ eh27 (u20.ext O0.2)
    obtain ⟨_, _, ⟨T28, L28, k28, n28⟩, -, X28, ⟨Lc28, hQ28, l28, y28, z28⟩, st28⟩ := X27.virtualBack hx (y := own_y2) (z := own_y2) hown (mvT hZ (own_w hw 15 rfl)) (mvT hZ (own_w hw 16 rfl)) (notFace_of_selects (args := #[]) (mvT hZ (own_w hw 18 rfl))) (mvT hZ (own_w hw 18 rfl)) (mvT hZ (own_w hw 17 rfl)) (by decide) (backOf (W := 1) (rmLeast l Z a0 hw [] ad6 (0 : Int32) h0 n0 Z0 O0 u21) hZ (own_w hw 19 rfl) (own_w hw 6 rfl) (by decide) (by decide)) q28a q28c (g := (mkF m 39 #[.val (.int p1), .val (.int (6 : Int32)), .val (.ref ad6), .val (.int (0 : Int32)), .val (.int (0 : Int32))] [(.ref ad6), (.int (0 : Int32))])) rfl (by rw [hml]; rfl) (Steps.refl _) (argsL := []) (rest := [(.int (0 : Int32))]) (lenOf pd_2 rfl) rfl (by show 2 * 0 + _ ≤ _; exact Nat.le_of_eq rfl) (hb hby at_39) (fun _ _ => ⟨rfl, eh27, (by decide : 0 + 0 ≤ _), (by decide : 0 + 0 ≤ _)⟩)
    dsimp only [Pt.U, Pt.locs, Pt.cells, Pt.slots] at X28 l28 y28 z28 st28 hQ28
    subst l28 y28 z28
    obtain ⟨rfl, N28q, eh28⟩ := hQ28
    have N28 := Fr.app N27 N28q
    refine own_via st28 ?_
    refine own_go (A := T28.setTop (mkF m 58 #[.val (.int p1), .val (.int (6 : Int32)), .val (.ref ad6), .val (.int (0 : Int32)), .val (.int (0 : Int32))] [(.int (1 : Int32))])) (fun t_ k_ => ?_) ?_
    · show Steps p.tables e below (T28.setTop (mkF m 42 #[.val (.int p1), .val (.int (6 : Int32)), .val (.ref ad6), .val (.int (0 : Int32)), .val (.int (0 : Int32))] [(.int (0 : Int32)), (.int (0 : Int32))])) t_
      refine XS.ifYes X28.here hx rfl (pc0 := 42) (pc' := 49) rfl (hb hby at_42) rfl ((if0 _ _).trans (flt (by decide : ¬ ((0 : Int32) < (0 : Int32)))).2.2.2) (by decide) (by decide) ?_
      show Steps p.tables e below (T28.setTop (mkF m 49 #[.val (.int p1), .val (.int (6 : Int32)), .val (.ref ad6), .val (.int (0 : Int32)), .val (.int (0 : Int32))] [(.int (0 : Int32))])) t_
      refine XS.iconst X28.here hx rfl (hb hby at_49) ?_
      show Steps p.tables e below (T28.setTop (mkF m 50 #[.val (.int p1), .val (.int (6 : Int32)), .val (.ref ad6), .val (.int (0 : Int32)), .val (.int (0 : Int32))] [(.int (0 : Int32)), (.int (0 : Int32))])) t_
      refine XS.icmpNo X28.here hx rfl (hb hby at_50) rfl (teq (by decide : (0 : Int32) = (0 : Int32))).2 ?_
      show Steps p.tables e below (T28.setTop (mkF m 53 #[.val (.int p1), .val (.int (6 : Int32)), .val (.ref ad6), .val (.int (0 : Int32)), .val (.int (0 : Int32))] [])) t_
      refine XS.iconst X28.here hx rfl (hb hby at_53) ?_
      show Steps p.tables e below (T28.setTop (mkF m 54 #[.val (.int p1), .val (.int (6 : Int32)), .val (.ref ad6), .val (.int (0 : Int32)), .val (.int (0 : Int32))] [(.int (1 : Int32))])) t_
      refine XS.goto X28.here hx rfl (pc0 := 54) (pc' := 58) rfl (hb hby at_54) (by decide) (by decide) ?_
      exact k_
    obtain ⟨fs29, hr29, hrun29, hended29, hW29, hsame29⟩ := X28.leave (v := some (.int (1 : Int32))) (fun h => by rw [Bd.returns] at h; cases h)
    refine ⟨_, _, ?_, hrun29, hended29, _, _, rfl, ?_, ⟨_, rfl⟩, hW29, hsame29.mono (by decide) (by decide)⟩
    · exact retN X28 hx (t := .boolean) Bd.returns (by simp) (hb hby at_58) hr29
    · show Q_rm0 Z p1 ad0 ad1 ad2 ad3 ad4 ad5 ad6 ad7 h0 n0 _ T28.heap _
      rw [eh28]
      exact ⟨rfl, N28, rfl⟩
  · rw [hm1]
    refine own_go (A := s₁.setTop (mkF m 9 #[.val (.int p1), .val (.int (7 : Int32)), .unset, .unset, .unset] [(.int (7 : Int32))])) (fun t_ k_ => ?_) ?_
    · show Steps p.tables e below (s₁.setTop (mkF m 7 #[.val (.int p1), .unset, .unset, .unset, .unset] [(.int (7 : Int32))])) t_
      refine XS.istoreN X0.here hx rfl (hb hby at_7) rfl (l' := #[.val (.int p1), .val (.int (7 : Int32)), .unset, .unset, .unset]) rfl ?_
      show Steps p.tables e below (s₁.setTop (mkF m 8 #[.val (.int p1), .val (.int (7 : Int32)), .unset, .unset, .unset] [])) t_
      refine XS.iloadN X0.here hx rfl (hb hby at_8) rfl ?_
      exact k_
    obtain ⟨_, _, ⟨T30, L30, k30, n30⟩, -, X30, ⟨Lc30, hQ30, l30, y30, z30⟩, st30⟩ := Jvm.LawKit.callS X0 hx (y := own_y0) hown (mvT hZ (own_w hw 1 rfl)) (mvT hZ (own_w hw 2 rfl)) (mvT hZ (own_w hw 3 rfl)) (mvT hZ (own_w hw 4 rfl)) (by decide) (backOf (W := 0) (rmPick7 l Z a0 hw [] ad7 h0 n0 Z0 O0 u22) hZ (own_w hw 4 rfl) (own_w hw 3 rfl) (by decide) (by decide)) (g := (mkF m 9 #[.val (.int p1), .val (.int (7 : Int32)), .unset, .unset, .unset] [(.int (7 : Int32))])) rfl (by rw [hml]; rfl) (argsL := [(.int (7 : Int32))]) (rest := []) (lenOf pd_0 rfl) rfl (by show 2 * 0 + _ ≤ _; exact Nat.le_of_eq rfl) (hb hby at_9) (fun _ _ => ⟨rfl, e0, (by decide : 0 + 0 ≤ _), (by decide : 0 + 0 ≤ _)⟩)
    dsimp only [Pt.U, Pt.locs, Pt.cells, Pt.slots] at X30 l30 y30 z30 st30 hQ30
    subst l30 y30 z30
    obtain ⟨rfl, N30q, eh30⟩ := hQ30
    have N30 := Fr.app N0 N30q
    refine own_go st30 ?_
    refine own_go (A := T30.setTop (mkF m 25 #[.val (.int p1), .val (.int (7 : Int32)), .val (.ref ad7), .val (.int (0 : Int32)), .unset] [(.ref ad7)])) (fun t_ k_ => ?_) ?_
    · show Steps p.tables e below (T30.setTop (mkF m 12 #[.val (.int p1), .val (.int (7 : Int32)), .unset, .unset, .unset] [(.ref ad7)])) t_
      refine XS.astoreN X30.here hx rfl (hb hby at_12) rfl rfl (l' := #[.val (.int p1), .val (.int (7 : Int32)), .val (.ref ad7), .unset, .unset]) rfl ?_
      show Steps p.tables e below (T30.setTop (mkF m 13 #[.val (.int p1), .val (.int (7 : Int32)), .val (.ref ad7), .unset, .unset] [])) t_
      refine XS.iloadN X30.here hx rfl (hb hby at_13) rfl ?_
      show Steps p.tables e below (T30.setTop (mkF m 14 #[.val (.int p1), .val (.int (7 : Int32)), .val (.ref ad7), .unset, .unset] [(.int (7 : Int32))])) t_
      refine XS.iconst X30.here hx rfl (hb hby at_14) ?_
      show Steps p.tables e below (T30.setTop (mkF m 15 #[.val (.int p1), .val (.int (7 : Int32)), .val (.ref ad7), .unset, .unset] [(.int (3 : Int32)), (.int (7 : Int32))])) t_
      refine XS.icmpYes X30.here hx rfl (pc0 := 15) (pc' := 22) rfl (hb hby at_15) rfl (flt (by decide : ¬ ((7 : Int32) < (3 : Int32)))).2.1 (by decide) (by decide) ?_
      show Steps p.tables e below (T30.setTop (mkF m 22 #[.val (.int p1), .val (.int (7 : Int32)), .val (.ref ad7), .unset, .unset] [])) t_
      refine XS.iconst X30.here hx rfl (hb hby at_22) ?_
      show Steps p.tables e below (T30.setTop (mkF m 23 #[.val (.int p1), .val (.int (7 : Int32)), .val (.ref ad7), .unset, .unset] [(.int (0 : Int32))])) t_
      refine XS.istoreN X30.here hx rfl (hb hby at_23) rfl (l' := #[.val (.int p1), .val (.int (7 : Int32)), .val (.ref ad7), .val (.int (0 : Int32)), .unset]) rfl ?_
      show Steps p.tables e below (T30.setTop (mkF m 24 #[.val (.int p1), .val (.int (7 : Int32)), .val (.ref ad7), .val (.int (0 : Int32)), .unset] [])) t_
      refine XS.aloadN X30.here hx rfl (hb hby at_24) rfl rfl ?_
      exact k_
    obtain ⟨cq31, kq31, q31a, q31b, q31c⟩ := isOf hZ eh30 (u23.ext O0.2)
    obtain ⟨_, _, ⟨T31, L31, k31, n31⟩, -, X31, ⟨Lc31, hQ31, l31, y31, z31⟩, st31⟩ := X30.virtualBack hx (y := own_y1) (z := own_y1) hown (mvT hZ (own_w hw 8 rfl)) (mvT hZ (own_w hw 9 rfl)) (notFace_of_selects (args := #[]) (mvT hZ (own_w hw 11 rfl))) (mvT hZ (own_w hw 11 rfl)) (mvT hZ (own_w hw 10 rfl)) (by decide) (backOf (W := 0) (rmKdF l Z a0 hw [] ad7 (0 : Int32) h0 n0 Z0 O0 u24 (by decide : (0 : Int32) = (0 : Int32))) hZ (own_w hw 12 rfl) (own_w hw 6 rfl) (by decide) (by decide)) q31a q31c (g := (mkF m 25 #[.val (.int p1), .val (.int (7 : Int32)), .val (.ref ad7), .val (.int (0 : Int32)), .unset] [(.ref ad7)])) rfl (by rw [hml]; rfl) (Steps.refl _) (argsL := []) (rest := []) (lenOf pd_1 rfl) rfl (by show 2 * 0 + _ ≤ _; exact Nat.le_of_eq rfl) (hb hby at_25) (fun _ _ => ⟨rfl, eh30, (by decide : 0 + 0 ≤ _), (by decide : 0 + 0 ≤ _)⟩)
    dsimp only [Pt.U, Pt.locs, Pt.cells, Pt.slots] at X31 l31 y31 z31 st31 hQ31
    subst l31 y31 z31
    obtain ⟨rfl, N31q, eh31⟩ := hQ31
    have N31 := Fr.app N30 N31q
    refine own_via st31 ?_
    refine own_go (A := T31.setTop (mkF m 39 #[.val (.int p1), .val (.int (7 : Int32)), .val (.ref ad7), .val (.int (0 : Int32)), .val (.int (0 : Int32))] [(.ref ad7), (.int (0 : Int32))])) (fun t_ k_ => ?_) ?_
    · show Steps p.tables e below (T31.setTop (mkF m 28 #[.val (.int p1), .val (.int (7 : Int32)), .val (.ref ad7), .val (.int (0 : Int32)), .unset] [(.int (0 : Int32))])) t_
      refine XS.istore X31.here hx rfl (hb hby at_28) rfl (l' := #[.val (.int p1), .val (.int (7 : Int32)), .val (.ref ad7), .val (.int (0 : Int32)), .val (.int (0 : Int32))]) rfl ?_
      show Steps p.tables e below (T31.setTop (mkF m 30 #[.val (.int p1), .val (.int (7 : Int32)), .val (.ref ad7), .val (.int (0 : Int32)), .val (.int (0 : Int32))] [])) t_
      refine XS.iload X31.here hx rfl (hb hby at_30) rfl ?_
      show Steps p.tables e below (T31.setTop (mkF m 32 #[.val (.int p1), .val (.int (7 : Int32)), .val (.ref ad7), .val (.int (0 : Int32)), .val (.int (0 : Int32))] [(.int (0 : Int32))])) t_
      refine XS.iloadN X31.here hx rfl (hb hby at_32) rfl ?_
      show Steps p.tables e below (T31.setTop (mkF m 33 #[.val (.int p1), .val (.int (7 : Int32)), .val (.ref ad7), .val (.int (0 : Int32)), .val (.int (0 : Int32))] [(.int (0 : Int32)), (.int (0 : Int32))])) t_
      refine XS.icmpNo X31.here hx rfl (hb hby at_33) rfl (teq (by decide : (0 : Int32) = (0 : Int32))).2 ?_
      show Steps p.tables e below (T31.setTop (mkF m 36 #[.val (.int p1), .val (.int (7 : Int32)), .val (.ref ad7), .val (.int (0 : Int32)), .val (.int (0 : Int32))] [])) t_
      refine XS.iload X31.here hx rfl (hb hby at_36) rfl ?_
      show Steps p.tables e below (T31.setTop (mkF m 38 #[.val (.int p1), .val (.int (7 : Int32)), .val (.ref ad7), .val (.int (0 : Int32)), .val (.int (0 : Int32))] [(.int (0 : Int32))])) t_
      refine XS.aloadN X31.here hx rfl (hb hby at_38) rfl rfl ?_
      exact k_
    obtain ⟨cq32, kq32, q32a, q32b, q32c⟩ := isOf hZ eh31 (u23.ext O0.2)
    obtain ⟨_, _, ⟨T32, L32, k32, n32⟩, -, X32, ⟨Lc32, hQ32, l32, y32, z32⟩, st32⟩ := X31.virtualBack hx (y := own_y2) (z := own_y2) hown (mvT hZ (own_w hw 15 rfl)) (mvT hZ (own_w hw 16 rfl)) (notFace_of_selects (args := #[]) (mvT hZ (own_w hw 18 rfl))) (mvT hZ (own_w hw 18 rfl)) (mvT hZ (own_w hw 17 rfl)) (by decide) (backOf (W := 1) (rmLeast l Z a0 hw [] ad7 (0 : Int32) h0 n0 Z0 O0 u24) hZ (own_w hw 19 rfl) (own_w hw 6 rfl) (by decide) (by decide)) q32a q32c (g := (mkF m 39 #[.val (.int p1), .val (.int (7 : Int32)), .val (.ref ad7), .val (.int (0 : Int32)), .val (.int (0 : Int32))] [(.ref ad7), (.int (0 : Int32))])) rfl (by rw [hml]; rfl) (Steps.refl _) (argsL := []) (rest := [(.int (0 : Int32))]) (lenOf pd_2 rfl) rfl (by show 2 * 0 + _ ≤ _; exact Nat.le_of_eq rfl) (hb hby at_39) (fun _ _ => ⟨rfl, eh31, (by decide : 0 + 0 ≤ _), (by decide : 0 + 0 ≤ _)⟩)
    dsimp only [Pt.U, Pt.locs, Pt.cells, Pt.slots] at X32 l32 y32 z32 st32 hQ32
    subst l32 y32 z32
    obtain ⟨rfl, N32q, eh32⟩ := hQ32
    have N32 := Fr.app N31 N32q
    refine own_via st32 ?_
    refine own_go (A := T32.setTop (mkF m 58 #[.val (.int p1), .val (.int (7 : Int32)), .val (.ref ad7), .val (.int (0 : Int32)), .val (.int (0 : Int32))] [(.int (1 : Int32))])) (fun t_ k_ => ?_) ?_
    · show Steps p.tables e below (T32.setTop (mkF m 42 #[.val (.int p1), .val (.int (7 : Int32)), .val (.ref ad7), .val (.int (0 : Int32)), .val (.int (0 : Int32))] [(.int (0 : Int32)), (.int (0 : Int32))])) t_
      refine XS.ifYes X32.here hx rfl (pc0 := 42) (pc' := 49) rfl (hb hby at_42) rfl ((if0 _ _).trans (flt (by decide : ¬ ((0 : Int32) < (0 : Int32)))).2.2.2) (by decide) (by decide) ?_
      show Steps p.tables e below (T32.setTop (mkF m 49 #[.val (.int p1), .val (.int (7 : Int32)), .val (.ref ad7), .val (.int (0 : Int32)), .val (.int (0 : Int32))] [(.int (0 : Int32))])) t_
      refine XS.iconst X32.here hx rfl (hb hby at_49) ?_
      show Steps p.tables e below (T32.setTop (mkF m 50 #[.val (.int p1), .val (.int (7 : Int32)), .val (.ref ad7), .val (.int (0 : Int32)), .val (.int (0 : Int32))] [(.int (0 : Int32)), (.int (0 : Int32))])) t_
      refine XS.icmpNo X32.here hx rfl (hb hby at_50) rfl (teq (by decide : (0 : Int32) = (0 : Int32))).2 ?_
      show Steps p.tables e below (T32.setTop (mkF m 53 #[.val (.int p1), .val (.int (7 : Int32)), .val (.ref ad7), .val (.int (0 : Int32)), .val (.int (0 : Int32))] [])) t_
      refine XS.iconst X32.here hx rfl (hb hby at_53) ?_
      show Steps p.tables e below (T32.setTop (mkF m 54 #[.val (.int p1), .val (.int (7 : Int32)), .val (.ref ad7), .val (.int (0 : Int32)), .val (.int (0 : Int32))] [(.int (1 : Int32))])) t_
      refine XS.goto X32.here hx rfl (pc0 := 54) (pc' := 58) rfl (hb hby at_54) (by decide) (by decide) ?_
      exact k_
    obtain ⟨fs33, hr33, hrun33, hended33, hW33, hsame33⟩ := X32.leave (v := some (.int (1 : Int32))) (fun h => by rw [Bd.returns] at h; cases h)
    refine ⟨_, _, ?_, hrun33, hended33, _, _, rfl, ?_, ⟨_, rfl⟩, hW33, hsame33.mono (by decide) (by decide)⟩
    · exact retN X32 hx (t := .boolean) Bd.returns (by simp) (hb hby at_58) hr33
    · show Q_rm0 Z p1 ad0 ad1 ad2 ad3 ad4 ad5 ad6 ad7 h0 n0 _ T32.heap _
      rw [eh32]
      exact ⟨rfl, N32, rfl⟩
set_option maxRecDepth 65536 in
set_option maxHeartbeats 40000000 in
theorem comes_1 {Post : Tables → Env → Array Value → State → Outcome → State → Prop} (hpost : ∀ tb e args s v u, (limb_1_1.after args s (.returned v) u = true ∧ limb_1_2.after args s (.returned v) u = true ∧ True) → FrameEnd s (.returned v) u (Jvm.fieldLocs frame_1_writes args s ++ Jvm.arrayLocs frame_1_arrays args s ++ Jvm.staticLocs frame_1_statics s) 0 0 → Post tb e args s (.returned v) u) :
    ArmFor flags0 classFile x code maxLocals ret World_1 tables_1 room_1 Calls_1 rest_1 Pre_1 Post := by
  intro l hfl _ _ p e ha hc hk s m args below hf hA hF happ hP
  obtain ⟨hcalls, hrest, hpre⟩ := hP
  obtain ⟨-, -, -, hnamed, -, -, -, hat⟩ := (Spec.applies_iff hf).mp happ
  obtain ⟨hg, hn⟩ := and_e (Cond.before_iff.mp (show (Jvm.Cond.and given_1 narrow_1).before args s = true from hpre))
  obtain ⟨hg_0, hg_1⟩ := and_e hg
  obtain ⟨w0, rfl⟩ : ∃ w0 : Value, args = #[w0] := by
    have hs : args.size = 1 := by simpa [Cond.value, given_1] using hg_0
    obtain ⟨L⟩ := args
    match L, hs with
    | [w0], _ => exact ⟨w0, rfl⟩
  have hw := fun d (hd : d ∈ tables_1) => atoms_spec (ws := Jvm.Cond.code x code maxLocals ret :: tables_1) hat d (List.mem_cons_of_mem _ hd)
  have hfit : Fit s := fun {y c} hc i hi => by
    obtain ⟨ha, rfl⟩ := Array.getElem?_eq_some_iff.mp hc
    have q := List.all_eq_true.mp ((Array.all_eq_true_iff_forall_mem.mp hF) _ (Array.getElem_mem ha)) i (List.mem_range.mpr hi)
    simpa [Array.getElem?_eq_getElem hi] using q
  obtain ⟨i0, ei0⟩ := is_v hg_1
  obtain rfl : w0 = (.int i0) := Option.some.inj ei0
  obtain ⟨hn_0, hn_1⟩ := and_e hn
  obtain ⟨hn_2, hn_3⟩ := and_e hn_1
  obtain ⟨hn_4, hn_5⟩ := and_e hn_3
  obtain ⟨hn_6, hn_7⟩ := and_e hn_5
  obtain ⟨hn_8, hn_9⟩ := and_e hn_7
  obtain ⟨hn_10, hn_11⟩ := and_e hn_9
  obtain ⟨hn_12, hn_13⟩ := and_e hn_11
  obtain ⟨hn_14, hn_15⟩ := and_e hn_13
  obtain ⟨hn_16, hn_17⟩ := and_e hn_15
  obtain ⟨hn_18, hn_19⟩ := and_e hn_17
  obtain ⟨hn_20, hn_21⟩ := and_e hn_19
  obtain ⟨hn_22, hn_23⟩ := and_e hn_21
  obtain ⟨hn_24, hn_25⟩ := and_e hn_23
  obtain ⟨hn_26, hn_27⟩ := and_e hn_25
  obtain ⟨hn_28, hn_29⟩ := and_e hn_27
  obtain ⟨a_PBKDF2_WITH_HMAC_SHA1, eva_PBKDF2_WITH_HMAC_SHA1⟩ := exa_v hn_0
  have Sa_PBKDF2_WITH_HMAC_SHA1 : Sta s s.heap "com/example/portcullis/portcullis/hashing/HashAlgorithm" "PBKDF2_WITH_HMAC_SHA1" "Lcom/example/portcullis/portcullis/hashing/HashAlgorithm;" (.ref a_PBKDF2_WITH_HMAC_SHA1) := Sta.start eva_PBKDF2_WITH_HMAC_SHA1 (Or.inr ⟨(own_w hw 6 rfl), (own_w hw 7 rfl)⟩)
  have Ea_PBKDF2_WITH_HMAC_SHA1 : Exa s s.heap a_PBKDF2_WITH_HMAC_SHA1 "com/example/portcullis/portcullis/hashing/HashAlgorithm" := Exa.start eva_PBKDF2_WITH_HMAC_SHA1 hn_0
  obtain ⟨a_MD5, eva_MD5⟩ := exa_v hn_4
  have Sa_MD5 : Sta s s.heap "com/example/portcullis/portcullis/hashing/HashAlgorithm" "MD5" "Lcom/example/portcullis/portcullis/hashing/HashAlgorithm;" (.ref a_MD5) := Sta.start eva_MD5 (Or.inr ⟨(own_w hw 6 rfl), (own_w hw 21 rfl)⟩)
  have Ea_MD5 : Exa s s.heap a_MD5 "com/example/portcullis/portcullis/hashing/HashAlgorithm" := Exa.start eva_MD5 hn_4
  obtain ⟨a_SHA_384, eva_SHA_384⟩ := exa_v hn_8
  have Sa_SHA_384 : Sta s s.heap "com/example/portcullis/portcullis/hashing/HashAlgorithm" "SHA_384" "Lcom/example/portcullis/portcullis/hashing/HashAlgorithm;" (.ref a_SHA_384) := Sta.start eva_SHA_384 (Or.inr ⟨(own_w hw 6 rfl), (own_w hw 23 rfl)⟩)
  have Ea_SHA_384 : Exa s s.heap a_SHA_384 "com/example/portcullis/portcullis/hashing/HashAlgorithm" := Exa.start eva_SHA_384 hn_8
  obtain ⟨a_SHA_512, eva_SHA_512⟩ := exa_v hn_12
  have Sa_SHA_512 : Sta s s.heap "com/example/portcullis/portcullis/hashing/HashAlgorithm" "SHA_512" "Lcom/example/portcullis/portcullis/hashing/HashAlgorithm;" (.ref a_SHA_512) := Sta.start eva_SHA_512 (Or.inr ⟨(own_w hw 6 rfl), (own_w hw 25 rfl)⟩)
  have Ea_SHA_512 : Exa s s.heap a_SHA_512 "com/example/portcullis/portcullis/hashing/HashAlgorithm" := Exa.start eva_SHA_512 hn_12
  obtain ⟨a_PBKDF2_WITH_HMAC_SHA512, eva_PBKDF2_WITH_HMAC_SHA512⟩ := exa_v hn_16
  have Sa_PBKDF2_WITH_HMAC_SHA512 : Sta s s.heap "com/example/portcullis/portcullis/hashing/HashAlgorithm" "PBKDF2_WITH_HMAC_SHA512" "Lcom/example/portcullis/portcullis/hashing/HashAlgorithm;" (.ref a_PBKDF2_WITH_HMAC_SHA512) := Sta.start eva_PBKDF2_WITH_HMAC_SHA512 (Or.inr ⟨(own_w hw 6 rfl), (own_w hw 27 rfl)⟩)
  have Ea_PBKDF2_WITH_HMAC_SHA512 : Exa s s.heap a_PBKDF2_WITH_HMAC_SHA512 "com/example/portcullis/portcullis/hashing/HashAlgorithm" := Exa.start eva_PBKDF2_WITH_HMAC_SHA512 hn_16
  obtain ⟨a_PBKDF2_WITH_HMAC_SHA256, eva_PBKDF2_WITH_HMAC_SHA256⟩ := exa_v hn_20
  have Sa_PBKDF2_WITH_HMAC_SHA256 : Sta s s.heap "com/example/portcullis/portcullis/hashing/HashAlgorithm" "PBKDF2_WITH_HMAC_SHA256" "Lcom/example/portcullis/portcullis/hashing/HashAlgorithm;" (.ref a_PBKDF2_WITH_HMAC_SHA256) := Sta.start eva_PBKDF2_WITH_HMAC_SHA256 (Or.inr ⟨(own_w hw 6 rfl), (own_w hw 29 rfl)⟩)
  have Ea_PBKDF2_WITH_HMAC_SHA256 : Exa s s.heap a_PBKDF2_WITH_HMAC_SHA256 "com/example/portcullis/portcullis/hashing/HashAlgorithm" := Exa.start eva_PBKDF2_WITH_HMAC_SHA256 hn_20
  obtain ⟨a_SHA_1, eva_SHA_1⟩ := exa_v hn_24
  have Sa_SHA_1 : Sta s s.heap "com/example/portcullis/portcullis/hashing/HashAlgorithm" "SHA_1" "Lcom/example/portcullis/portcullis/hashing/HashAlgorithm;" (.ref a_SHA_1) := Sta.start eva_SHA_1 (Or.inr ⟨(own_w hw 6 rfl), (own_w hw 31 rfl)⟩)
  have Ea_SHA_1 : Exa s s.heap a_SHA_1 "com/example/portcullis/portcullis/hashing/HashAlgorithm" := Exa.start eva_SHA_1 hn_24
  obtain ⟨a_SHA_256, eva_SHA_256⟩ := exa_v hn_28
  have Sa_SHA_256 : Sta s s.heap "com/example/portcullis/portcullis/hashing/HashAlgorithm" "SHA_256" "Lcom/example/portcullis/portcullis/hashing/HashAlgorithm;" (.ref a_SHA_256) := Sta.start eva_SHA_256 (Or.inr ⟨(own_w hw 6 rfl), (own_w hw 33 rfl)⟩)
  have Ea_SHA_256 : Exa s s.heap a_SHA_256 "com/example/portcullis/portcullis/hashing/HashAlgorithm" := Exa.start eva_SHA_256 hn_28
  have Fa_PBKDF2_WITH_HMAC_SHA1_leastIterations : Fld s s.heap a_PBKDF2_WITH_HMAC_SHA1 "com/example/portcullis/portcullis/hashing/HashAlgorithm" "leastIterations" "I" (.int (1300000 : Int32)) := Fld.start ((fld_at eva_PBKDF2_WITH_HMAC_SHA1).symm.trans (own_eqInt hn_2))
  have Fa_MD5_leastIterations : Fld s s.heap a_MD5 "com/example/portcullis/portcullis/hashing/HashAlgorithm" "leastIterations" "I" (.int (0 : Int32)) := Fld.start ((fld_at eva_MD5).symm.trans (own_eqInt hn_6))
  have Fa_SHA_384_leastIterations : Fld s s.heap a_SHA_384 "com/example/portcullis/portcullis/hashing/HashAlgorithm" "leastIterations" "I" (.int (0 : Int32)) := Fld.start ((fld_at eva_SHA_384).symm.trans (own_eqInt hn_10))
  have Fa_SHA_512_leastIterations : Fld s s.heap a_SHA_512 "com/example/portcullis/portcullis/hashing/HashAlgorithm" "leastIterations" "I" (.int (0 : Int32)) := Fld.start ((fld_at eva_SHA_512).symm.trans (own_eqInt hn_14))
  have Fa_PBKDF2_WITH_HMAC_SHA512_leastIterations : Fld s s.heap a_PBKDF2_WITH_HMAC_SHA512 "com/example/portcullis/portcullis/hashing/HashAlgorithm" "leastIterations" "I" (.int (210000 : Int32)) := Fld.start ((fld_at eva_PBKDF2_WITH_HMAC_SHA512).symm.trans (own_eqInt hn_18))
  have Fa_PBKDF2_WITH_HMAC_SHA256_leastIterations : Fld s s.heap a_PBKDF2_WITH_HMAC_SHA256 "com/example/portcullis/portcullis/hashing/HashAlgorithm" "leastIterations" "I" (.int (600000 : Int32)) := Fld.start ((fld_at eva_PBKDF2_WITH_HMAC_SHA256).symm.trans (own_eqInt hn_22))
  have Fa_SHA_1_leastIterations : Fld s s.heap a_SHA_1 "com/example/portcullis/portcullis/hashing/HashAlgorithm" "leastIterations" "I" (.int (0 : Int32)) := Fld.start ((fld_at eva_SHA_1).symm.trans (own_eqInt hn_26))
  have Fa_SHA_256_leastIterations : Fld s s.heap a_SHA_256 "com/example/portcullis/portcullis/hashing/HashAlgorithm" "leastIterations" "I" (.int (0 : Int32)) := Fld.start ((fld_at eva_SHA_256).symm.trans (own_eqInt hn_29))
  obtain ⟨n, o, h1, h2, h3, _, L, rfl, ⟨rfl, N, -⟩, hq⟩ := rm0 l s _ hw tables_1 i0 a_PBKDF2_WITH_HMAC_SHA1 a_PBKDF2_WITH_HMAC_SHA256 a_PBKDF2_WITH_HMAC_SHA512 a_MD5 a_SHA_1 a_SHA_256 a_SHA_384 a_SHA_512 s.heap s.heap.size (Nat.le_refl _) (Old.start s) Sa_PBKDF2_WITH_HMAC_SHA1 Ea_PBKDF2_WITH_HMAC_SHA1 Fa_PBKDF2_WITH_HMAC_SHA1_leastIterations Sa_PBKDF2_WITH_HMAC_SHA256 Ea_PBKDF2_WITH_HMAC_SHA256 Fa_PBKDF2_WITH_HMAC_SHA256_leastIterations Sa_PBKDF2_WITH_HMAC_SHA512 Ea_PBKDF2_WITH_HMAC_SHA512 Fa_PBKDF2_WITH_HMAC_SHA512_leastIterations Sa_MD5 Ea_MD5 Fa_MD5_leastIterations Sa_SHA_1 Ea_SHA_1 Fa_SHA_1_leastIterations Sa_SHA_256 Ea_SHA_256 Fa_SHA_256_leastIterations Sa_SHA_384 Ea_SHA_384 Fa_SHA_384_leastIterations Sa_SHA_512 Ea_SHA_512 Fa_SHA_512_leastIterations p e ha hc hk s m _ below hf ((Spec.applies_iff_loose hf).mp happ).1 ⟨rfl, State.Warmed39.refl s, rfl⟩ trivial
  refine ⟨n, _, h1, h2, h3, hpost _ _ _ _ _ _ ⟨Cond.after_iff.mpr rfl, Cond.after_iff.mpr (eq_i res_at (Term.int_eval (1)) rfl), trivial⟩ ⟨hq.1, hq.2.1, (hq.2.2.sift fun y hy => Or.inr (N y hy)).mono (by decide) (by decide)⟩⟩
theorem main_1_1 : Claimed_1_1 := comes_1 fun _ _ _ _ _ _ h hF => ⟨h.1, hF⟩
theorem main_1_2 : Claimed_1_2 := comes_1 fun _ _ _ _ _ _ h hF => ⟨h.2.1, hF⟩
end Jvm.Pilot.@@N@@
namespace Jvm.Pilot.@@N@@
open Jvm Jvm.ClassFile Sem Op Lib Jvm.Free Jvm.Stand Jvm.Pilot.@@N@@.Jvm.D
/-! MADE BY PROGRAM (witnessworld.py) out of the Statement's table words and the real class files: 12 classes; the members and pool entries that the words name. The judged class is class 1, her method 2. -/
namespace start1
open Jvm.ClassFile
def u (s : String) : CpInfo := .utf8 (stringToUtf16 s)
/-- a pool by its gaps: so many unusable entries, then the entry; so many at the end -/
def gap : Nat → List CpInfo → List CpInfo
  | 0, r => r
  | n + 1, r => .unusable :: gap n r
def poolList (es : List (Nat × CpInfo)) (last : Nat) : List CpInfo := es.foldr (fun e r => gap e.1 (e.2 :: r)) (gap last [])
def pool (es : List (Nat × CpInfo)) (last : Nat) : Array CpInfo := ⟨poolList es last⟩
def fileOf (pool : Array CpInfo) (this : Nat) (attrs : Array Attribute := #[]) (ms : Array MethodInfo := #[]) (fl : Nat := 33) (sup : Nat := 0) (ifs : Array Nat := #[]) (fds : Array FieldInfo := #[]) : ClassFile where
  minorVersion := 0
  majorVersion := 65
  constantPool := pool
  accessFlags := fl
  thisClass := this
  superClass := sup
  interfaces := ifs
  fields := fds
  methods := ms
  attributes := attrs
def plain (name : String) (sup : Option ClassId) : Class where
  name := name
  kind := .ordinary
  loader := none
  accessFlags := 33
  super := sup
  interfaces := #[]
  cf := none
  fields := #[]
  methods := #[]
  instanceTypes := #[]
  staticTypes := #[]
  resolved := #[]
  callSites := []
  init := .initialized
  statics := none
  mirror := none

def pool0 : Array CpInfo := pool [(5, u "<init>"), (0, u "()V"), (1, .class_ 10), (1, u "java/lang/Object")] 113

def k0m0 : Method := { name := "<init>", desc := "()V", sig := { parameters := [], returnType := none }, accessFlags := 1, code := none }
/-- java/lang/Object -/
def k0 : Class := { plain "java/lang/Object" none with
  accessFlags := 33
  interfaces := #[]
  cf := some (fileOf pool0 8 #[] #[{ accessFlags := 1, nameIndex := 5, descriptorIndex := 6, attributes := #[] }] 33 0 #[] #[])
  fields := #[]
  methods := #[k0m0]
  instanceTypes := #[]
  staticTypes := #[]
  resolved := Array.replicate 124 none
  statics := none }

def pool1 : Array CpInfo := pool [(2, .class_ 4), (1, u "java/lang/Object"), (0, u "<init>"), (0, u "()V"), (0, .fieldref 8 9), (0, .class_ 10), (0, .nameAndType 11 12), (0, u "com/example/portcullis/portcullis/hashing/HashAlgorithm"), (0, u "PBKDF2_WITH_HMAC_SHA1"), (0, u "Lcom/example/portcullis/portcullis/hashing/HashAlgorithm;"), (0, .fieldref 8 14), (0, .nameAndType 15 12), (0, u "PBKDF2_WITH_HMAC_SHA256"), (0, .fieldref 8 17), (0, .nameAndType 18 12), (0, u "PBKDF2_WITH_HMAC_SHA512"), (0, .fieldref 8 20), (0, .nameAndType 21 12), (0, u "MD5"), (0, .fieldref 8 23), (0, .nameAndType 24 12), (0, u "SHA_1"), (0, .fieldref 8 26), (0, .nameAndType 27 12), (0, u "SHA_256"), (0, .fieldref 8 29), (0, .nameAndType 30 12), (0, u "SHA_384"), (0, .fieldref 8 32), (0, .nameAndType 33 12), (0, u "SHA_512"), (0, .integer 2147483647), (0, .methodref 36 37), (0, .class_ 38), (0, .nameAndType 39 40), (0, u "com/example/portcullis/portcullis/hashing/HashAlgorithmIsKeyDerivationPinLaw"), (0, u "pick"), (0, u "(I)Lcom/example/portcullis/portcullis/hashing/HashAlgorithm;"), (0, .methodref 8 42), (0, .nameAndType 43 44), (0, u "isKeyDerivation"), (0, u "()Z"), (0, .methodref 8 46), (0, .nameAndType 47 48), (0, u "leastIterations"), (0, u "()I"), (3, u "law"), (0, u "(I)Z")] 2

def k1m0 : Method := { name := "<init>", desc := "()V", sig := { parameters := [], returnType := none }, accessFlags := 2, code := none }
def k1c1 : Code := { maxStack := 2, maxLocals := 1, code := method_2_code, exceptionTable := #[], attributes := #[] }
def k1m1 : Method := { name := "pick", desc := "(I)Lcom/example/portcullis/portcullis/hashing/HashAlgorithm;", sig := { parameters := [.int], returnType := some (.object "com/example/portcullis/portcullis/hashing/HashAlgorithm") }, accessFlags := 10, code := some k1c1 }
def k1c2 : Code := { maxStack := 2, maxLocals := 5, code := code, exceptionTable := #[], attributes := #[] }
def k1m2 : Method := { name := "law", desc := "(I)Z", sig := { parameters := [.int], returnType := some .boolean }, accessFlags := 9, code := some k1c2 }
/-- com/example/portcullis/portcullis/hashing/HashAlgorithmIsKeyDerivationPinLaw -/
def k1 : Class := { plain "com/example/portcullis/portcullis/hashing/HashAlgorithmIsKeyDerivationPinLaw" (some 0) with
  accessFlags := 49
  interfaces := #[]
  cf := some (fileOf pool1 36 #[] #[{ accessFlags := 2, nameIndex := 5, descriptorIndex := 6, attributes := #[] }, { accessFlags := 10, nameIndex := 39, descriptorIndex := 40, attributes := #[] }, { accessFlags := 9, nameIndex := 52, descriptorIndex := 53, attributes := #[] }] 49 2 #[] #[])
  fields := #[]
  methods := #[k1m0, k1m1, k1m2]
  instanceTypes := #[]
  staticTypes := #[]
  resolved := Array.replicate 56 none
  statics := none }

def pool2 : Array CpInfo := pool [(1, .class_ 2), (0, u "java/lang/constant/Constable"), (0, .class_ 4), (0, u "java/lang/Object")] 6

/-- java/lang/constant/Constable -/
def k2 : Class := { plain "java/lang/constant/Constable" (some 0) with
  accessFlags := 1537
  interfaces := #[]
  cf := some (fileOf pool2 1 #[] #[] 1537 3 #[] #[])
  fields := #[]
  methods := #[]
  instanceTypes := #[]
  staticTypes := #[]
  resolved := Array.replicate 11 none
  statics := none }

def pool3 : Array CpInfo := pool [(1, .class_ 2), (0, u "java/lang/Comparable"), (0, .class_ 4), (0, u "java/lang/Object")] 7

/-- java/lang/Comparable -/
def k3 : Class := { plain "java/lang/Comparable" (some 0) with
  accessFlags := 1537
  interfaces := #[]
  cf := some (fileOf pool3 1 #[] #[] 1537 3 #[] #[])
  fields := #[]
  methods := #[]
  instanceTypes := #[]
  staticTypes := #[]
  resolved := Array.replicate 12 none
  statics := none }

def pool4 : Array CpInfo := pool [(1, .class_ 2), (0, u "java/io/Serializable"), (0, .class_ 4), (0, u "java/lang/Object")] 2

/-- java/io/Serializable -/
def k4 : Class := { plain "java/io/Serializable" (some 0) with
  accessFlags := 1537
  interfaces := #[]
  cf := some (fileOf pool4 1 #[] #[] 1537 3 #[] #[])
  fields := #[]
  methods := #[]
  instanceTypes := #[]
  staticTypes := #[]
  resolved := Array.replicate 7 none
  statics := none }

def pool5 : Array CpInfo := pool [(2, .class_ 4), (1, u "java/lang/Enum"), (0, u "name"), (0, u "Ljava/lang/String;"), (2, u "ordinal"), (0, u "I"), (1, .class_ 14), (1, u "java/lang/Object"), (4, u "hash"), (86, .class_ 108), (1, u "java/lang/Enum$EnumDesc"), (2, .class_ 112), (0, u "java/lang/constant/Constable"), (0, .class_ 114), (0, u "java/lang/Comparable"), (0, .class_ 116), (0, u "java/io/Serializable")] 87

/-- java/lang/Enum -/
def k5 : Class := { plain "java/lang/Enum" (some 0) with
  accessFlags := 1057
  interfaces := #[2, 3, 4]
  cf := some (fileOf pool5 2 #[.nestMembers #[106]] #[] 1057 12 #[111, 113, 115] #[{ accessFlags := 18, nameIndex := 5, descriptorIndex := 6, attributes := #[] }, { accessFlags := 18, nameIndex := 9, descriptorIndex := 10, attributes := #[] }, { accessFlags := 2, nameIndex := 19, descriptorIndex := 10, attributes := #[] }])
  fields := #[{ name := "name", type := (.object "java/lang/String"), accessFlags := 18, slot := 0, constantValue := 0 }, { name := "ordinal", type := .int, accessFlags := 18, slot := 1, constantValue := 0 }, { name := "hash", type := .int, accessFlags := 2, slot := 2, constantValue := 0 }]
  methods := #[]
  instanceTypes := #[(.object "java/lang/String"), .int, .int]
  staticTypes := #[]
  resolved := Array.replicate 204 none
  statics := none }

def pool6 : Array CpInfo := pool [(1, .class_ 2), (0, u "com/example/portcullis/portcullis/hashing/HashAlgorithm"), (2, u "PBKDF2_WITH_HMAC_SHA1"), (0, u "Lcom/example/portcullis/portcullis/hashing/HashAlgorithm;"), (2, u "PBKDF2_WITH_HMAC_SHA256"), (2, u "PBKDF2_WITH_HMAC_SHA512"), (2, u "MD5"), (2, u "SHA_1"), (2, u "SHA_256"), (2, u "SHA_384"), (2, u "SHA_512"), (2, u "$VALUES"), (0, u "[Lcom/example/portcullis/portcullis/hashing/HashAlgorithm;"), (6, .class_ 40), (1, u "java/lang/Enum"), (11, u "standardName"), (0, u "Ljava/lang/String;"), (2, u "length"), (0, u "I"), (0, .fieldref 1 59), (0, .nameAndType 60 57), (0, u "leastIterations"), (50, u "isKeyDerivation"), (0, u "()Z"), (119, u "NOT_KEY_DERIVATION"), (11, u "()I")] 35

def k6c0 : Code := { maxStack := 1, maxLocals := 1, code := prog_32_method_8_code, exceptionTable := #[], attributes := #[] }
def k6m0 : Method := { name := "isKeyDerivation", desc := "()Z", sig := { parameters := [], returnType := some .boolean }, accessFlags := 1, code := some k6c0 }
def k6c1 : Code := { maxStack := 1, maxLocals := 1, code := prog_32_method_9_code, exceptionTable := #[], attributes := #[] }
def k6m1 : Method := { name := "leastIterations", desc := "()I", sig := { parameters := [], returnType := some .int }, accessFlags := 0, code := some k6c1 }
/-- com/example/portcullis/portcullis/hashing/HashAlgorithm -/
def k6 : Class := { plain "com/example/portcullis/portcullis/hashing/HashAlgorithm" (some 5) with
  accessFlags := 16433
  interfaces := #[]
  cf := some (fileOf pool6 1 #[] #[{ accessFlags := 1, nameIndex := 111, descriptorIndex := 112, attributes := #[] }, { accessFlags := 0, nameIndex := 60, descriptorIndex := 244, attributes := #[] }] 16433 38 #[] #[{ accessFlags := 16409, nameIndex := 5, descriptorIndex := 6, attributes := #[] }, { accessFlags := 16409, nameIndex := 9, descriptorIndex := 6, attributes := #[] }, { accessFlags := 16409, nameIndex := 12, descriptorIndex := 6, attributes := #[] }, { accessFlags := 16409, nameIndex := 15, descriptorIndex := 6, attributes := #[] }, { accessFlags := 16409, nameIndex := 18, descriptorIndex := 6, attributes := #[] }, { accessFlags := 16409, nameIndex := 21, descriptorIndex := 6, attributes := #[] }, { accessFlags := 16409, nameIndex := 24, descriptorIndex := 6, attributes := #[] }, { accessFlags := 16409, nameIndex := 27, descriptorIndex := 6, attributes := #[] }, { accessFlags := 26, nameIndex := 232, descriptorIndex := 57, attributes := #[] }, { accessFlags := 18, nameIndex := 52, descriptorIndex := 53, attributes := #[] }, { accessFlags := 18, nameIndex := 56, descriptorIndex := 57, attributes := #[] }, { accessFlags := 18, nameIndex := 60, descriptorIndex := 57, attributes := #[] }, { accessFlags := 4122, nameIndex := 30, descriptorIndex := 31, attributes := #[] }])
  fields := #[{ name := "PBKDF2_WITH_HMAC_SHA1", type := (.object "com/example/portcullis/portcullis/hashing/HashAlgorithm"), accessFlags := 16409, slot := 0, constantValue := 0 }, { name := "PBKDF2_WITH_HMAC_SHA256", type := (.object "com/example/portcullis/portcullis/hashing/HashAlgorithm"), accessFlags := 16409, slot := 1, constantValue := 0 }, { name := "PBKDF2_WITH_HMAC_SHA512", type := (.object "com/example/portcullis/portcullis/hashing/HashAlgorithm"), accessFlags := 16409, slot := 2, constantValue := 0 }, { name := "MD5", type := (.object "com/example/portcullis/portcullis/hashing/HashAlgorithm"), accessFlags := 16409, slot := 3, constantValue := 0 }, { name := "SHA_1", type := (.object "com/example/portcullis/portcullis/hashing/HashAlgorithm"), accessFlags := 16409, slot := 4, constantValue := 0 }, { name := "SHA_256", type := (.object "com/example/portcullis/portcullis/hashing/HashAlgorithm"), accessFlags := 16409, slot := 5, constantValue := 0 }, { name := "SHA_384", type := (.object "com/example/portcullis/portcullis/hashing/HashAlgorithm"), accessFlags := 16409, slot := 6, constantValue := 0 }, { name := "SHA_512", type := (.object "com/example/portcullis/portcullis/hashing/HashAlgorithm"), accessFlags := 16409, slot := 7, constantValue := 0 }, { name := "NOT_KEY_DERIVATION", type := .int, accessFlags := 26, slot := 8, constantValue := 0 }, { name := "standardName", type := (.object "java/lang/String"), accessFlags := 18, slot := 3, constantValue := 0 }, { name := "length", type := .int, accessFlags := 18, slot := 4, constantValue := 0 }, { name := "leastIterations", type := .int, accessFlags := 18, slot := 5, constantValue := 0 }, { name := "$VALUES", type := (.array (.object "com/example/portcullis/portcullis/hashing/HashAlgorithm")), accessFlags := 4122, slot := 9, constantValue := 0 }]
  methods := #[k6m0, k6m1]
  instanceTypes := #[(.object "java/lang/String"), .int, .int, (.object "java/lang/String"), .int, .int]
  staticTypes := #[(.object "com/example/portcullis/portcullis/hashing/HashAlgorithm"), (.object "com/example/portcullis/portcullis/hashing/HashAlgorithm"), (.object "com/example/portcullis/portcullis/hashing/HashAlgorithm"), (.object "com/example/portcullis/portcullis/hashing/HashAlgorithm"), (.object "com/example/portcullis/portcullis/hashing/HashAlgorithm"), (.object "com/example/portcullis/portcullis/hashing/HashAlgorithm"), (.object "com/example/portcullis/portcullis/hashing/HashAlgorithm"), (.object "com/example/portcullis/portcullis/hashing/HashAlgorithm"), .int, (.array (.object "com/example/portcullis/portcullis/hashing/HashAlgorithm"))]
  resolved := Array.replicate 280 none
  statics := some 0 }

def pool7 : Array CpInfo := pool [(1, u "java/lang/Cloneable"), (0, .class_ 1), (0, u "java/lang/Object"), (0, .class_ 3)] 3

/-- java/lang/Cloneable -/
def k7 : Class := { plain "java/lang/Cloneable" (some 0) with
  accessFlags := 1537
  interfaces := #[]
  cf := some (fileOf pool7 2 #[] #[] 1537 4 #[] #[])
  fields := #[]
  methods := #[]
  instanceTypes := #[]
  staticTypes := #[]
  resolved := Array.replicate 8 none
  statics := none }

/-- the primitive byte -/
def k8 : Class := { plain "byte" none with kind := .primitive 'B', accessFlags := 0x411 }
/-- [B -/
def k9 : Class := { plain "[B" (some 0) with kind := .array 8 .byte, interfaces := #[7, 4], accessFlags := 1041 }

/-- the primitive int -/
def k10 : Class := { plain "int" none with kind := .primitive 'I', accessFlags := 0x411 }
/-- [I -/
def k11 : Class := { plain "[I" (some 0) with kind := .array 10 .int, interfaces := #[7, 4], accessFlags := 1041 }

def heap : Heap := #[{ cls := 6, slots := #[.ref 1, .ref 2, .ref 3, .ref 4, .ref 5, .ref 6, .ref 7, .ref 8, .int 0, .null], vm := .statics 6 },
  { cls := 6, slots := #[.null, .int 0, .int 0, .null, .int 0, .int 1300000], vm := .none },
  { cls := 6, slots := #[.null, .int 1, .int 0, .null, .int 0, .int 600000], vm := .none },
  { cls := 6, slots := #[.null, .int 2, .int 0, .null, .int 0, .int 210000], vm := .none },
  { cls := 6, slots := #[.null, .int 3, .int 0, .null, .int 0, .int 0], vm := .none },
  { cls := 6, slots := #[.null, .int 4, .int 0, .null, .int 0, .int 0], vm := .none },
  { cls := 6, slots := #[.null, .int 5, .int 0, .null, .int 0, .int 0], vm := .none },
  { cls := 6, slots := #[.null, .int 6, .int 0, .null, .int 0, .int 0], vm := .none },
  { cls := 6, slots := #[.null, .int 7, .int 0, .null, .int 0, .int 0], vm := .none }]
def classes : Array Class := #[k0, k1, k2, k3, k4, k5, k6, k7, k8, k9, k10, k11]
def interned : List (Array UInt16 × Addr) := []
def slotsUsed : Nat := 58
def theMethod : MethodId := ⟨1, 2⟩
def args0 : Array Value := #[.int 5]
def aboutOver (below : List Frame) : State where
  vm := { classes := classes, interned := interned.toArray }
  heap := heap
  slotsUsed := slotsUsed
  threads := #[{ frames := .invoking theMethod args0 :: below }]
def below0 : List Frame := [.native { method := ⟨0, 0⟩, args := #[] }]
def about1 : State := aboutOver below0
def p0 : Program := .bare "" "" ""
def e0 : Env := launch0.env 0 0 0
theorem w_frames : about1.frames = Frame.invoking theMethod args0 :: below0 := rfl
set_option maxRecDepth 65536 in
theorem w_args : argsFit about1.vm theMethod args0 = true := by decide +kernel
set_option maxRecDepth 65536 in
theorem w_heap : heapFits about1 = true := by decide +kernel
set_option maxRecDepth 65536 in
theorem w_runnable : about1.curStatus? = some .runnable := by decide +kernel
set_option maxRecDepth 65536 in
theorem w_alone : about1.alone = true := by decide +kernel
set_option maxRecDepth 65536 in
theorem w_named : about1.methodNamed? x = some theMethod := by decide +kernel
set_option maxRecDepth 65536 in
theorem w_hears : about1.hears theMethod below0 = true := by decide +kernel
set_option maxRecDepth 65536 in
theorem w_ripe : about1.ripe theMethod args0 below0 = true := by decide +kernel
theorem w_running : about1.status = .running := rfl
set_option maxRecDepth 65536 in
theorem w_room : about1.hasRoom e0.platform room_1 = true :=
  launch0.hasRoom_least _ room_1 (by decide +kernel) (by decide +kernel) (by decide +kernel) (by decide +kernel) (by decide +kernel) (by decide +kernel)
theorem allAtoms_all (ts : List Jvm.Cond) (a : Array Jvm.Value) (st : Jvm.State) : (allAtoms ts).before a st = ts.all (fun c => c.before a st) := by
  induction ts with
  | nil => rfl
  | cons c t ih =>
    show (Jvm.Cond.and c (allAtoms t)).before a st = _
    rw [Jvm.Cond.before_and, ih, List.all_cons]
def words1 : List Jvm.Cond := Jvm.Cond.code x code maxLocals ret :: tables_1
/-- a 'code' word, met by the world's own term for the bytes: nothing is compared byte by byte -/
theorem code_word {y : MethodName} {bytes : ByteArray} {mx : Nat} {rt : Option FieldType} {a : Array Value} {s : State} {m : MethodId} {meth : Method} {c : Code} (h1 : s.methodNamed? y = some m) (h2 : s.vm.method? m = some meth) (h3 : meth.code = some c) (h4 : c.code = bytes)
    (h5 : (c.maxLocals == mx && c.exceptionTable.isEmpty && decide (c.maxStack ≤ mostOperands) && decide (meth.sig.returnType = rt) && !meth.locks && decide (parseMethodDescriptor y.desc = some meth.sig)) = true) : (Jvm.Cond.code y bytes mx rt).before a s = true := by
  simp only [Bool.and_eq_true, beq_iff_eq, Bool.not_eq_true', decide_eq_true_eq] at h5
  obtain ⟨⟨⟨⟨⟨g1, g2⟩, g3⟩, g4⟩, g5⟩, g6⟩ := h5
  simp [Cond.before, Cond.holds, Cond.value, h1, h2, h3, h4, g1, g2, g3, g4, g5, g6]
def isCode : Jvm.Cond → Bool
  | .code _ _ _ _ => true
  | _ => false
theorem all_split {L : List Jvm.Cond} {P : Jvm.Cond → Bool} (h1 : L.all (fun c => isCode c || P c) = true) (h2 : ∀ c ∈ L.filter isCode, P c = true) : L.all P = true := by
  refine List.all_eq_true.mpr fun c hc => ?_
  have h := List.all_eq_true.mp h1 c hc
  rcases Bool.eq_false_or_eq_true (isCode c) with hi | hi
  · exact h2 c (List.mem_filter.mpr ⟨hc, hi⟩)
  · simpa [hi] using h
set_option maxRecDepth 65536 in
theorem w_c0 : (Jvm.Cond.code x code maxLocals ret).before args0 about1 = true := code_word (m := ⟨1, 2⟩) (meth := k1m2) (c := k1c2) (by decide +kernel) rfl rfl rfl (by decide +kernel)
set_option maxRecDepth 65536 in
theorem w_c1 : (Jvm.Cond.code ({ cls := "com/example/portcullis/portcullis/hashing/HashAlgorithmIsKeyDerivationPinLaw", name := "pick", desc := "(I)Lcom/example/portcullis/portcullis/hashing/HashAlgorithm;" } : Jvm.MethodName) method_2_code (1 : Nat) (Option.some (Jvm.ClassFile.FieldType.object "com/example/portcullis/portcullis/hashing/HashAlgorithm"))).before args0 about1 = true := code_word (m := ⟨1, 1⟩) (meth := k1m1) (c := k1c1) (by decide +kernel) rfl rfl rfl (by decide +kernel)
set_option maxRecDepth 65536 in
theorem w_c2 : (Jvm.Cond.code ({ cls := "com/example/portcullis/portcullis/hashing/HashAlgorithm", name := "isKeyDerivation", desc := "()Z" } : Jvm.MethodName) prog_32_method_8_code (1 : Nat) (Option.some Jvm.ClassFile.FieldType.boolean)).before args0 about1 = true := code_word (m := ⟨6, 0⟩) (meth := k6m0) (c := k6c0) (by decide +kernel) rfl rfl rfl (by decide +kernel)
set_option maxRecDepth 65536 in
theorem w_c3 : (Jvm.Cond.code ({ cls := "com/example/portcullis/portcullis/hashing/HashAlgorithm", name := "leastIterations", desc := "()I" } : Jvm.MethodName) prog_32_method_9_code (1 : Nat) (Option.some Jvm.ClassFile.FieldType.int)).before args0 about1 = true := code_word (m := ⟨6, 1⟩) (meth := k6m1) (c := k6c1) (by decide +kernel) rfl rfl rfl (by decide +kernel)
def codes1 : List Jvm.Cond := [Jvm.Cond.code x code maxLocals ret, Jvm.Cond.code ({ cls := "com/example/portcullis/portcullis/hashing/HashAlgorithmIsKeyDerivationPinLaw", name := "pick", desc := "(I)Lcom/example/portcullis/portcullis/hashing/HashAlgorithm;" } : Jvm.MethodName) method_2_code (1 : Nat) (Option.some (Jvm.ClassFile.FieldType.object "com/example/portcullis/portcullis/hashing/HashAlgorithm")), Jvm.Cond.code ({ cls := "com/example/portcullis/portcullis/hashing/HashAlgorithm", name := "isKeyDerivation", desc := "()Z" } : Jvm.MethodName) prog_32_method_8_code (1 : Nat) (Option.some Jvm.ClassFile.FieldType.boolean), Jvm.Cond.code ({ cls := "com/example/portcullis/portcullis/hashing/HashAlgorithm", name := "leastIterations", desc := "()I" } : Jvm.MethodName) prog_32_method_9_code (1 : Nat) (Option.some Jvm.ClassFile.FieldType.int)]
set_option maxRecDepth 65536 in
theorem codes_eq : words1.filter isCode = codes1 := rfl
theorem w_codes : ∀ c ∈ words1.filter isCode, c.before args0 about1 = true := by
  rw [codes_eq]
  intro c hc
  simp only [codes1, List.mem_cons, List.not_mem_nil, or_false] at hc
  rcases hc with rfl | rfl | rfl | rfl
  · exact w_c0
  · exact w_c1
  · exact w_c2
  · exact w_c3
set_option maxRecDepth 65536 in
theorem w_t1 : (words1.take 24).all (fun c => isCode c || c.before args0 about1) = true := by decide +kernel
set_option maxRecDepth 65536 in
theorem w_t2 : (words1.drop 24).all (fun c => isCode c || c.before args0 about1) = true := by decide +kernel
theorem w_tables : (allAtoms (Jvm.Cond.code x code maxLocals ret :: tables_1)).before args0 about1 = true := by
  rw [allAtoms_all]
  show words1.all (fun c => c.before args0 about1) = true
  refine all_split ?_ w_codes
  rw [← List.take_append_drop 24 words1, List.all_append, w_t1, w_t2]
  rfl
set_option maxRecDepth 65536 in
theorem w_case : (Jvm.Cond.and given_1 narrow_1).before args0 about1 = true := by decide +kernel
theorem w_applies : (headSpec (Jvm.Cond.code x code maxLocals ret :: tables_1) room_1).applies x e0.platform about1 = true :=
  (Spec.applies_iff w_frames).mpr ⟨w_running, w_runnable, w_alone, w_named, w_hears, w_ripe, w_room, w_tables⟩
theorem atStart : AtStart classFile x code maxLocals ret World_1 tables_1 room_1 Calls_1 rest_1 Pre_1 launch0 p0 e0 about1 theMethod args0 below0 :=
  ⟨lists_1, trivial, launch0.admits_env _ _ _, launch0.least_env, fairChoices_fair.cas, fairChoices_fair.clock, w_frames, w_args, w_heap, w_applies, trivial, trivial, w_case⟩
end start1
theorem witness_1 : WitnessClaimed_1 := ⟨start1.p0, start1.e0, start1.about1, start1.theMethod, start1.args0, start1.below0, start1.atStart⟩
end Jvm.Pilot.@@N@@
