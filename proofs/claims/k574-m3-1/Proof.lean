import JvmDerived
import JvmDerived.Pilot.@@N@@Statement
import JvmDerived.Pilot.@@N@@Code
set_option linter.unusedVariables false
set_option linter.unusedSimpArgs false
namespace Jvm.Pilot.@@N@@
open Jvm Jvm.ClassFile Sem Op Lib Jvm.Free Jvm.Stand Jvm.LawKit Jvm.RoadKit Bundle Jvm.Pilot.@@N@@.Jvm.D
theorem own_retI {p : Program} {l : Launch} {e : Env} {R : Room} {s : State} {m : MethodId} {args : Array Value} {below : List Frame} {meth : Method} {c : Code} {T : State} {locs : List Loc} {cells slots : Nat} (X : Stand p l e R s m args below meth c T locs cells slots) (hx : p.tables.exec = Jvm.exec) {pc : Nat} {Ls : Array Slot} {z : Int32} {rest : List Value} (hret : meth.sig.returnType = some .int) (hd : decode c.code pc = .ok (.ireturn, 1)) {fs : List Frame}
    (hl : ∀ (f : JFrame) (acts : List Action), f.method = m → f.locked = none → f.entered = [] → (doReturn e (T.setTop f) acts (some (.int z))).1 = T.setFrames fs) : Steps p.tables e below (T.setTop (mkF m pc Ls (.int z :: rest))) (T.setFrames fs) :=
  retOut X hx hret rfl (Or.inl ⟨rfl, Or.inl rfl, z, rfl⟩) hd hl
theorem own_retJ {p : Program} {l : Launch} {e : Env} {R : Room} {s : State} {m : MethodId} {args : Array Value} {below : List Frame} {meth : Method} {c : Code} {T : State} {locs : List Loc} {cells slots : Nat} (X : Stand p l e R s m args below meth c T locs cells slots) (hx : p.tables.exec = Jvm.exec) {pc : Nat} {Ls : Array Slot} {z : Int64} {rest : List Value} (hret : meth.sig.returnType = some .long) (hd : decode c.code pc = .ok (.lreturn, 1)) {fs : List Frame}
    (hl : ∀ (f : JFrame) (acts : List Action), f.method = m → f.locked = none → f.entered = [] → (doReturn e (T.setTop f) acts (some (.long z))).1 = T.setFrames fs) : Steps p.tables e below (T.setTop (mkF m pc Ls (.long z :: rest))) (T.setFrames fs) :=
  retOut X hx hret rfl (Or.inr (Or.inl ⟨rfl, rfl, z, rfl⟩)) hd hl
theorem own_retA {p : Program} {l : Launch} {e : Env} {R : Room} {s : State} {m : MethodId} {args : Array Value} {below : List Frame} {meth : Method} {c : Code} {T : State} {locs : List Loc} {cells slots : Nat} (X : Stand p l e R s m args below meth c T locs cells slots) (hx : p.tables.exec = Jvm.exec) {pc : Nat} {Ls : Array Slot} {w : Value} {rest : List Value} {t : FieldType} (hret : meth.sig.returnType = some t) (ht : t.isReference = true) (hn : narrow t w = w) (hw : w.isRef = true) (hd : decode c.code pc = .ok (.areturn, 1)) {fs : List Frame}
    (hl : ∀ (f : JFrame) (acts : List Action), f.method = m → f.locked = none → f.entered = [] → (doReturn e (T.setTop f) acts (some w)).1 = T.setFrames fs) : Steps p.tables e below (T.setTop (mkF m pc Ls (w :: rest))) (T.setFrames fs) :=
  retOut X hx hret hn (Or.inr (Or.inr (Or.inr (Or.inr ⟨rfl, ht, hw⟩)))) hd hl
theorem own_go {tb : Tables} {e : Env} {below : List Frame} {A B : State} {R : State → Outcome → Prop} (st : ∀ t, Steps tb e below A t → Steps tb e below B t) (h : ∃ U o, Steps tb e below A U ∧ R U o) : ∃ U o, Steps tb e below B U ∧ R U o := by
  obtain ⟨U, o, h1, h2⟩ := h
  exact ⟨U, o, st U h1, h2⟩
theorem own_via {tb : Tables} {e : Env} {below : List Frame} {A B : State} {R : State → Outcome → Prop} (st : Steps tb e below B A) (h : ∃ U o, Steps tb e below A U ∧ R U o) : ∃ U o, Steps tb e below B U ∧ R U o := by
  obtain ⟨U, o, h1, h2⟩ := h
  exact ⟨U, o, st.trans h1, h2⟩
theorem own_eqInt {t : Term} {k : Int32} {args : Array Value} {s : State} (h : (Jvm.Cond.eq t (.int k)).value args s none s [] = some true) : t.eval args s none [] s = some (.int k) := by
  cases ha : t.eval args s none [] s with
  | none => simp [Cond.value, ha] at h
  | some x => cases x <;> simp_all [Cond.value, Term.eval, Value.isRef]
theorem own_selP {s : State} {args : Array Value} {y : MethodName} {n : Nat} (hinst : (Jvm.Cond.instanceMethod y).before args s = true) (hp : (Jvm.Cond.privateMethod y).before args s = true) (hi : (Jvm.Cond.instantiable y.cls n).before args s = true) (hy : y.cls ≠ "java/lang/invoke/MethodHandle" ∧ y.cls ≠ "java/lang/invoke/VarHandle") : (Jvm.Cond.selects y.cls y y).before args s = true := by
  obtain ⟨c, k, h1, h2, -, h4, -, -⟩ := Cond.instantiable_spec hi
  simp only [Bool.or_eq_false_iff] at h4
  exact selects_self_of_private h1 h2 h4.1 (Cond.privateMethod_at hp) hinst hy
theorem own_mvMN {Z s : State} {a0 args : Array Value} {own host : String} {y : MethodName} {index : Nat} (hZ : Z.Warmed39 s.vm) (w : (Jvm.Cond.methodLinkNest own index y host).before a0 Z = true) : (Jvm.Cond.methodLinkNest own index y host).before args s = true := (Cond.methodLinkNest_wide hZ w :)
theorem own_stoV {Z : State} {h : Heap} {a y : Addr} {k : ClassId} {ty : FieldType} {n : Int32} {vs : List Value} {d : Value} {C : String} (F : Arv Z h a k ty n vs d) (O : Ovr Z k C) (I : Ins Z h y C true) : Sto Z h a (.ref y) := by
  obtain ⟨c, A, q, -⟩ := F
  exact Sto.ofV A q O I
theorem own_cat1 {v : Value} (h : v.isRef = true) : v.category = 1 := by cases v <;> simp_all [Value.isRef, Value.category]
theorem own_nref {t : FieldType} {v : Value} (h : v.isRef = true) : narrow t v = v := by cases v <;> simp_all [Value.isRef, narrow]
theorem own_narb (x : Int32) : nar .byte x.toInt8.toInt32 = x.toInt8.toInt32 := by simp [nar]
theorem own_w {Z : State} {a0 : Array Value} (hw : ∀ d ∈ tables_1, d.before a0 Z = true) (i : Nat) {d : Jvm.Cond} (h : tables_1[i]? = some d) : d.before a0 Z = true := hw _ (List.mem_of_getElem? h)
theorem own_bT {P : Prop} [Decidable P] (h : P) : (if P then (1 : Int32) else 0) = 1 := if_pos h
theorem own_bF {P : Prop} [Decidable P] (h : ¬ P) : (if P then (1 : Int32) else 0) = 0 := if_neg h
theorem own_narB {P : Prop} [Decidable P] : nar .boolean (if P then (1 : Int32) else 0) = (if P then (1 : Int32) else 0) := by split <;> rfl
theorem own_strA {Z : State} {a0 : Array Value} (hw : ∀ d ∈ tables_1, d.before a0 Z = true) : ∀ a ∈ Bundle.stringAtoms, a.before a0 Z = true := by
  intro a ha
  simp only [Bundle.stringAtoms, List.mem_cons, List.not_mem_nil, or_false] at ha
  rcases ha with rfl | rfl | rfl | rfl | rfl | rfl | rfl
  · exact (own_w hw 73 rfl)
  · exact (own_w hw 74 rfl)
  · exact (own_w hw 75 rfl)
  · exact (own_w hw 76 rfl)
  · exact (own_w hw 77 rfl)
  · exact (own_w hw 78 rfl)
  · exact (own_w hw 79 rfl)
theorem own_shr0 (n : Int32) : (n >>> ((0 : Int32) &&& 31)) = n := by
  apply Int32.toInt_inj.mp; rw [c_ishr n 0 0 (by decide)]; simp
theorem own_ch (x : Int32) : nar .char (x &&& 255).toUInt32.toUInt16.toUInt32.toInt32 = x &&& 255 := by
  show ((x &&& 255).toUInt32.toUInt16.toUInt32.toInt32).toUInt32.toUInt16.toUInt32.toInt32 = _
  rw [i2c_mask, i2c_mask]
theorem own_ch1 (x : Int32) : nar .char (x &&& 255) = x &&& 255 := i2c_mask x
theorem d2_0 : decode jdk_42_method_154_code 0 = .ok (.getstatic 38, 3) := by decide +kernel
theorem d2_3 : decode jdk_42_method_154_code 3 = .ok (.ifCond .eq 14, 3) := by decide +kernel
theorem d2_6 : decode jdk_42_method_154_code 6 = .ok (.aload_n 0, 1) := by decide +kernel
theorem d2_7 : decode jdk_42_method_154_code 7 = .ok (.getfield 15, 3) := by decide +kernel
theorem d2_10 : decode jdk_42_method_154_code 10 = .ok (.ifCond .ne 7, 3) := by decide +kernel
theorem d2_13 : decode jdk_42_method_154_code 13 = .ok (.iconst 1, 1) := by decide +kernel
theorem d2_14 : decode jdk_42_method_154_code 14 = .ok (.goto 4, 3) := by decide +kernel
theorem d2_18 : decode jdk_42_method_154_code 18 = .ok (.ireturn, 1) := by decide +kernel
abbrev own_y0 : MethodName := ⟨"java/lang/String", "isLatin1", "()Z"⟩
theorem ef_rmIsL1 (m : MethodId) (a : Addr) : entryFrame m #[(.ref a)] 1 = mkF m 0 #[.val (.ref a)] [] := by first | (simp [entryFrame, mkF, argsToLocals, Value.category]; done) | rfl
def Q_rmIsL1 (Z : State) (a : Addr) (cs : Int32) (h0 : Heap) (n0 : Nat) (v_ : Option Value) (h_ : Heap) (L_ : List Loc) : Prop := v_ = some (.int (1 : Int32)) ∧ Fr n0 L_ ∧ h_ = h0
theorem pn_0 : plainName "java/lang/String" = true := by first | (simp [plainName, overriddenIn]; done) | decide +kernel
set_option maxRecDepth 65536 in
set_option maxHeartbeats 40000000 in
theorem rmIsL1 (l : Launch) (Z : State) (a0 : Array Value) (hw : ∀ d ∈ tables_1, d.before a0 Z = true) (ws : List Jvm.Cond) (a : Addr) (cs : Int32) (h0 : Heap) (n0 : Nat) (Z0 : n0 ≤ h0.size) (O0 : Old Z n0 h0) (u1 : Sta Z Z.heap "java/lang/String" "COMPACT_STRINGS" "Z" (.int cs)) (hcs : ¬ (cs = (0 : Int32))) (u3 : Fld Z h0 a "java/lang/String" "coder" "B" (.int (0 : Int32))) :
    MetFree l own_y0 (head1 (Jvm.Cond.code own_y0 jdk_42_method_154_code 1 (some .boolean) :: ws) ({ frames := 0, cells := 0, slots := 0, locals := 0 } : Room)) (fun a_ U_ => a_ = #[(.ref a)] ∧ Z.Warmed39 U_.vm ∧ U_.heap = h0) (fun _ _ _ _ _ => True) (fun _ U_ o_ U2_ => ∃ v_ L_, o_ = .returned v_ ∧ Q_rmIsL1 Z a cs h0 n0 v_ U2_.heap L_ ∧ FrameEnd U_ o_ U2_ L_ ({ frames := 0, cells := 0, slots := 0, locals := 0 } : Room).cells ({ frames := 0, cells := 0, slots := 0, locals := 0 } : Room).slots) := by
  refine MetFree.of_bodySF (plainFor_of_name pn_0) hisR ?_
  intro p e s m args below meth c s₁ Bd hml0 hP hK
  obtain ⟨rfl, hZ, hh⟩ := hP
  have hx := Bd.exec
  have hby := Bd.bytes
  have hml : c.maxLocals = 1 := hml0
  have hown : s.vm.findClass "java/lang/String" = some m.cls := findClass_of_methodNamed Bd.named
  have hnm := (name_of_methodNamed Bd.named Bd.method).1
  have X0 : Stand p l e ({ frames := 0, cells := 0, slots := 0, locals := 0 } : Room) s m #[(.ref a)] below meth c s₁ [] 0 0 := Stand.of_body Bd
  have e0 : s₁.heap = h0 := by rw [← hh, Bd.state]; rfl
  have N0 := Fr.nil n0
  refine own_go (A := s₁.setTop (mkF m 0 #[.val (.ref a)] [])) (fun t_ k_ => castTop (ef_rmIsL1 m a) k_) ?_
  obtain ⟨T1, X1, e1, st1⟩ := getS2 X0 hx hZ hown (host := "") (Or.inl (own_w hw 91 rfl)) Via.refl e0 (u1.ext O0.2) (g := (mkF m 0 #[.val (.ref a)] [])) rfl (hb hby d2_0)
  refine own_go st1 ?_
  refine own_go (A := T1.setTop (mkF m 7 #[.val (.ref a)] [(.ref a)])) (fun t_ k_ => ?_) ?_
  · show Steps p.tables e below (T1.setTop (mkF m 3 #[.val (.ref a)] [(.int cs)])) t_
    refine XS.ifNo X1.here hx rfl (hb hby d2_3) rfl ((if0 _ _).trans (feq hcs).1) ?_
    show Steps p.tables e below (T1.setTop (mkF m 6 #[.val (.ref a)] [])) t_
    refine XS.aloadN X1.here hx rfl (hb hby d2_6) rfl rfl ?_
    exact k_
  obtain ⟨T2, X2, e2, st2⟩ := getF X1 hx hZ hown (host := "") (Or.inl (own_w hw 92 rfl)) Via.refl e1 u3 (g := (mkF m 7 #[.val (.ref a)] [(.ref a)])) rfl rfl (hb hby d2_7)
  refine own_go st2 ?_
  refine own_go (A := T2.setTop (mkF m 18 #[.val (.ref a)] [(.int (1 : Int32))])) (fun t_ k_ => ?_) ?_
  · show Steps p.tables e below (T2.setTop (mkF m 10 #[.val (.ref a)] [(.int (0 : Int32))])) t_
    refine XS.ifNo X2.here hx rfl (hb hby d2_10) rfl ((if0 _ _).trans (teq (by decide : (0 : Int32) = (0 : Int32))).2) ?_
    show Steps p.tables e below (T2.setTop (mkF m 13 #[.val (.ref a)] [])) t_
    refine XS.iconst X2.here hx rfl (hb hby d2_13) ?_
    show Steps p.tables e below (T2.setTop (mkF m 14 #[.val (.ref a)] [(.int (1 : Int32))])) t_
    refine XS.goto X2.here hx rfl (pc0 := 14) (pc' := 18) rfl (hb hby d2_14) (by decide) (by decide) ?_
    exact k_
  obtain ⟨fs3, hr3, hrun3, hended3, hW3, hsame3⟩ := X2.leave (v := some (.int (1 : Int32))) (fun h => by rw [Bd.returns] at h; cases h)
  refine ⟨_, _, ?_, hrun3, hended3, _, _, rfl, ?_, ⟨_, rfl⟩, hW3, hsame3.mono (by decide) (by decide)⟩
  · exact retN X2 hx (t := .boolean) Bd.returns (by simp) (hb hby d2_18) hr3
  · show Q_rmIsL1 Z a cs h0 n0 _ T2.heap _
    rw [e2]
    exact ⟨rfl, N0, rfl⟩
theorem d5_0 : decode jdk_41_method_11_code 0 = .ok (.iload_n 0, 1) := by decide +kernel
theorem d5_1 : decode jdk_41_method_11_code 1 = .ok (.ifCond .lt 8, 3) := by decide +kernel
theorem d5_4 : decode jdk_41_method_11_code 4 = .ok (.iload_n 0, 1) := by decide +kernel
theorem d5_5 : decode jdk_41_method_11_code 5 = .ok (.iload_n 1, 1) := by decide +kernel
theorem d5_6 : decode jdk_41_method_11_code 6 = .ok (.if_icmp .lt 10, 3) := by decide +kernel
theorem d5_16 : decode jdk_41_method_11_code 16 = .ok (.iload_n 0, 1) := by decide +kernel
theorem d5_17 : decode jdk_41_method_11_code 17 = .ok (.ireturn, 1) := by decide +kernel
abbrev own_y1 : MethodName := ⟨"jdk/internal/util/Preconditions", "checkIndex", "(IILjava/util/function/BiFunction;)I"⟩
theorem ef_rmCkI (m : MethodId) (i : Int32) (n : Int32) (f : Value) (hf : f.isRef = true) : entryFrame m #[(.int i), (.int n), f] 3 = mkF m 0 #[.val (.int i), .val (.int n), .val f] [] := by
  rcases ref_cases hf with rfl | ⟨_, rfl⟩
  all_goals first | (simp [entryFrame, mkF, argsToLocals, Value.category]; done) | rfl
def Q_rmCkI (Z : State) (i : Int32) (n : Int32) (f : Value) (h0 : Heap) (n0 : Nat) (v_ : Option Value) (h_ : Heap) (L_ : List Loc) : Prop := v_ = some (.int i) ∧ Fr n0 L_ ∧ h_ = h0
theorem pn_1 : plainName "jdk/internal/util/Preconditions" = true := by first | (simp [plainName, overriddenIn]; done) | decide +kernel
set_option maxRecDepth 65536 in
set_option maxHeartbeats 40000000 in
theorem rmCkI (l : Launch) (Z : State) (a0 : Array Value) (hw : ∀ d ∈ tables_1, d.before a0 Z = true) (ws : List Jvm.Cond) (i : Int32) (n : Int32) (f : Value) (h0 : Heap) (n0 : Nat) (Z0 : n0 ≤ h0.size) (hf : f.isRef = true) (h1 : ¬ (i < (0 : Int32))) (h2 : i < n) :
    MetFree l own_y1 (head1 (Jvm.Cond.code own_y1 jdk_41_method_11_code 3 (some .int) :: ws) ({ frames := 0, cells := 0, slots := 0, locals := 0 } : Room)) (fun a_ U_ => a_ = #[(.int i), (.int n), f] ∧ Z.Warmed39 U_.vm ∧ U_.heap = h0) (fun _ _ _ _ _ => True) (fun _ U_ o_ U2_ => ∃ v_ L_, o_ = .returned v_ ∧ Q_rmCkI Z i n f h0 n0 v_ U2_.heap L_ ∧ FrameEnd U_ o_ U2_ L_ ({ frames := 0, cells := 0, slots := 0, locals := 0 } : Room).cells ({ frames := 0, cells := 0, slots := 0, locals := 0 } : Room).slots) := by
  refine MetFree.of_bodySF (plainFor_of_name pn_1) hisR ?_
  intro p e s m args below meth c s₁ Bd hml0 hP hK
  obtain ⟨rfl, hZ, hh⟩ := hP
  have hx := Bd.exec
  have hby := Bd.bytes
  have hml : c.maxLocals = 3 := hml0
  have hown : s.vm.findClass "jdk/internal/util/Preconditions" = some m.cls := findClass_of_methodNamed Bd.named
  have hnm := (name_of_methodNamed Bd.named Bd.method).1
  have X0 : Stand p l e ({ frames := 0, cells := 0, slots := 0, locals := 0 } : Room) s m #[(.int i), (.int n), f] below meth c s₁ [] 0 0 := Stand.of_body Bd
  have e0 : s₁.heap = h0 := by rw [← hh, Bd.state]; rfl
  have N0 := Fr.nil n0
  refine own_go (A := s₁.setTop (mkF m 0 #[.val (.int i), .val (.int n), .val f] [])) (fun t_ k_ => castTop (ef_rmCkI m i n f hf) k_) ?_
  refine own_go (A := s₁.setTop (mkF m 17 #[.val (.int i), .val (.int n), .val f] [(.int i)])) (fun t_ k_ => ?_) ?_
  · show Steps p.tables e below (s₁.setTop (mkF m 0 #[.val (.int i), .val (.int n), .val f] [])) t_
    refine XS.iloadN X0.here hx rfl (hb hby d5_0) rfl ?_
    show Steps p.tables e below (s₁.setTop (mkF m 1 #[.val (.int i), .val (.int n), .val f] [(.int i)])) t_
    refine XS.ifNo X0.here hx rfl (hb hby d5_1) rfl ((if0 _ _).trans (flt h1).1) ?_
    show Steps p.tables e below (s₁.setTop (mkF m 4 #[.val (.int i), .val (.int n), .val f] [])) t_
    refine XS.iloadN X0.here hx rfl (hb hby d5_4) rfl ?_
    show Steps p.tables e below (s₁.setTop (mkF m 5 #[.val (.int i), .val (.int n), .val f] [(.int i)])) t_
    refine XS.iloadN X0.here hx rfl (hb hby d5_5) rfl ?_
    show Steps p.tables e below (s₁.setTop (mkF m 6 #[.val (.int i), .val (.int n), .val f] [(.int n), (.int i)])) t_
    refine XS.icmpYes X0.here hx rfl (pc0 := 6) (pc' := 16) rfl (hb hby d5_6) rfl (tlt h2).1 (by decide) (by decide) ?_
    show Steps p.tables e below (s₁.setTop (mkF m 16 #[.val (.int i), .val (.int n), .val f] [])) t_
    refine XS.iloadN X0.here hx rfl (hb hby d5_16) rfl ?_
    exact k_
  obtain ⟨fs1, hr1, hrun1, hended1, hW1, hsame1⟩ := X0.leave (v := some (.int i)) (fun h => by rw [Bd.returns] at h; cases h)
  refine ⟨_, _, ?_, hrun1, hended1, _, _, rfl, ?_, ⟨_, rfl⟩, hW1, hsame1.mono (by decide) (by decide)⟩
  · exact own_retI X0 hx Bd.returns (hb hby d5_17) hr1
  · show Q_rmCkI Z i n f h0 n0 _ s₁.heap _
    rw [e0]
    exact ⟨rfl, N0, rfl⟩
theorem d4_0 : decode jdk_42_method_155_code 0 = .ok (.iload_n 0, 1) := by decide +kernel
theorem d4_1 : decode jdk_42_method_155_code 1 = .ok (.iload_n 1, 1) := by decide +kernel
theorem d4_2 : decode jdk_42_method_155_code 2 = .ok (.getstatic 1053, 3) := by decide +kernel
theorem pd_0 : parseMethodDescriptor "(IILjava/util/function/BiFunction;)I" = some ⟨[.int, .int, (.object "java/util/function/BiFunction")], some .int⟩ := by decide +kernel
theorem d4_5 : decode jdk_42_method_155_code 5 = .ok (.invokestatic 1059, 3) := by decide +kernel
theorem d4_8 : decode jdk_42_method_155_code 8 = .ok (.pop, 1) := by decide +kernel
theorem d4_9 : decode jdk_42_method_155_code 9 = .ok (.return_, 1) := by decide +kernel
abbrev own_y2 : MethodName := ⟨"java/lang/String", "checkIndex", "(II)V"⟩
theorem ef_rmSCk (m : MethodId) (i : Int32) (n : Int32) : entryFrame m #[(.int i), (.int n)] 2 = mkF m 0 #[.val (.int i), .val (.int n)] [] := by first | (simp [entryFrame, mkF, argsToLocals, Value.category]; done) | rfl
def Q_rmSCk (Z : State) (i : Int32) (n : Int32) (sf : Value) (h0 : Heap) (n0 : Nat) (v_ : Option Value) (h_ : Heap) (L_ : List Loc) : Prop := v_ = none ∧ Fr n0 L_ ∧ h_ = h0
set_option maxRecDepth 65536 in
set_option maxHeartbeats 40000000 in
theorem rmSCk (l : Launch) (Z : State) (a0 : Array Value) (hw : ∀ d ∈ tables_1, d.before a0 Z = true) (ws : List Jvm.Cond) (i : Int32) (n : Int32) (sf : Value) (h0 : Heap) (n0 : Nat) (Z0 : n0 ≤ h0.size) (O0 : Old Z n0 h0) (u1 : Sta Z Z.heap "jdk/internal/util/Preconditions" "SIOOBE_FORMATTER" "Ljava/util/function/BiFunction;" sf) (hsf : sf.isRef = true) (h1 : ¬ (i < (0 : Int32))) (h2 : i < n) :
    MetFree l own_y2 (head1 (Jvm.Cond.code own_y2 jdk_42_method_155_code 2 none :: ws) ({ frames := 1, cells := 0, slots := 0, locals := 14 } : Room)) (fun a_ U_ => a_ = #[(.int i), (.int n)] ∧ Z.Warmed39 U_.vm ∧ U_.heap = h0) (fun _ _ _ _ _ => True) (fun _ U_ o_ U2_ => ∃ v_ L_, o_ = .returned v_ ∧ Q_rmSCk Z i n sf h0 n0 v_ U2_.heap L_ ∧ FrameEnd U_ o_ U2_ L_ ({ frames := 1, cells := 0, slots := 0, locals := 14 } : Room).cells ({ frames := 1, cells := 0, slots := 0, locals := 14 } : Room).slots) := by
  refine MetFree.of_bodySF (plainFor_of_name pn_0) hisR ?_
  intro p e s m args below meth c s₁ Bd hml0 hP hK
  obtain ⟨rfl, hZ, hh⟩ := hP
  have hx := Bd.exec
  have hby := Bd.bytes
  have hml : c.maxLocals = 2 := hml0
  have hown : s.vm.findClass "java/lang/String" = some m.cls := findClass_of_methodNamed Bd.named
  have hnm := (name_of_methodNamed Bd.named Bd.method).1
  have X0 : Stand p l e ({ frames := 1, cells := 0, slots := 0, locals := 14 } : Room) s m #[(.int i), (.int n)] below meth c s₁ [] 0 0 := Stand.of_body Bd
  have e0 : s₁.heap = h0 := by rw [← hh, Bd.state]; rfl
  have N0 := Fr.nil n0
  refine own_go (A := s₁.setTop (mkF m 0 #[.val (.int i), .val (.int n)] [])) (fun t_ k_ => castTop (ef_rmSCk m i n) k_) ?_
  refine own_go (A := s₁.setTop (mkF m 2 #[.val (.int i), .val (.int n)] [(.int n), (.int i)])) (fun t_ k_ => ?_) ?_
  · show Steps p.tables e below (s₁.setTop (mkF m 0 #[.val (.int i), .val (.int n)] [])) t_
    refine XS.iloadN X0.here hx rfl (hb hby d4_0) rfl ?_
    show Steps p.tables e below (s₁.setTop (mkF m 1 #[.val (.int i), .val (.int n)] [(.int i)])) t_
    refine XS.iloadN X0.here hx rfl (hb hby d4_1) rfl ?_
    exact k_
  obtain ⟨T1, X1, e1, st1⟩ := getS2 X0 hx hZ hown (host := "") (Or.inl (own_w hw 101 rfl)) Via.refl e0 (u1.ext O0.2) (g := (mkF m 2 #[.val (.int i), .val (.int n)] [(.int n), (.int i)])) rfl (hb hby d4_2)
  refine own_go st1 ?_
  obtain ⟨_, _, ⟨T2, L2, k2, n2⟩, -, X2, ⟨Lc2, hQ2, l2, y2, z2⟩, st2⟩ := Jvm.LawKit.callS X1 hx (y := own_y1) hown (mvT hZ (own_w hw 103 rfl)) (mvT hZ (own_w hw 104 rfl)) (mvT hZ (own_w hw 102 rfl)) (mvT hZ (own_w hw 105 rfl)) (by decide) (backOf (W := 0) (rmCkI l Z a0 hw [] i n sf h0 n0 Z0 hsf h1 h2) hZ (own_w hw 105 rfl) (own_w hw 102 rfl) (by decide) (by decide)) (g := (mkF m 5 #[.val (.int i), .val (.int n)] [sf, (.int n), (.int i)])) rfl (by rw [hml]; rfl) (argsL := [(.int i), (.int n), sf]) (rest := []) (lenOf pd_0 rfl) rfl (by show 2 * 0 + _ ≤ _; exact Nat.le_of_eq rfl) (hb hby d4_5) (fun _ _ => ⟨rfl, e1, (by decide : 0 + 0 ≤ _), (by decide : 0 + 0 ≤ _)⟩)
  dsimp only [Pt.U, Pt.locs, Pt.cells, Pt.slots] at X2 l2 y2 z2 st2 hQ2
  subst l2 y2 z2
  obtain ⟨rfl, N2q, eh2⟩ := hQ2
  have N2 := Fr.app N0 N2q
  refine own_go st2 ?_
  refine own_go (A := T2.setTop (mkF m 9 #[.val (.int i), .val (.int n)] [])) (fun t_ k_ => ?_) ?_
  · show Steps p.tables e below (T2.setTop (mkF m 8 #[.val (.int i), .val (.int n)] [(.int i)])) t_
    refine XS.pop X2.here hx rfl (hb hby d4_8) rfl rfl ?_
    exact k_
  obtain ⟨fs3, hr3, hrun3, hended3, hW3, hsame3⟩ := X2.leave (v := none) (fun _ => rfl)
  refine ⟨_, _, ?_, hrun3, hended3, _, _, rfl, ?_, ⟨_, rfl⟩, hW3, hsame3.mono (by decide) (by decide)⟩
  · exact X2.returnOut hx Bd.returns (hb hby d4_9) hr3
  · show Q_rmSCk Z i n sf h0 n0 _ T2.heap _
    rw [eh2]
    exact ⟨rfl, N2, rfl⟩
theorem d3_0 : decode jdk_43_method_2_code 0 = .ok (.iload_n 1, 1) := by decide +kernel
theorem d3_1 : decode jdk_43_method_2_code 1 = .ok (.aload_n 0, 1) := by decide +kernel
theorem d3_2 : decode jdk_43_method_2_code 2 = .ok (.arraylength, 1) := by decide +kernel
theorem pd_1 : parseMethodDescriptor "(II)V" = some ⟨[.int, .int], none⟩ := by decide +kernel
theorem d3_3 : decode jdk_43_method_2_code 3 = .ok (.invokestatic 9, 3) := by decide +kernel
theorem d3_6 : decode jdk_43_method_2_code 6 = .ok (.aload_n 0, 1) := by decide +kernel
theorem d3_7 : decode jdk_43_method_2_code 7 = .ok (.iload_n 1, 1) := by decide +kernel
theorem d3_8 : decode jdk_43_method_2_code 8 = .ok (.baload, 1) := by decide +kernel
theorem d3_9 : decode jdk_43_method_2_code 9 = .ok (.sipush 255, 3) := by decide +kernel
theorem d3_12 : decode jdk_43_method_2_code 12 = .ok (.iand, 1) := by decide +kernel
theorem d3_13 : decode jdk_43_method_2_code 13 = .ok (.i2c, 1) := by decide +kernel
theorem d3_14 : decode jdk_43_method_2_code 14 = .ok (.ireturn, 1) := by decide +kernel
abbrev own_y3 : MethodName := ⟨"java/lang/StringLatin1", "charAt", "([BI)C"⟩
theorem ef_rmL1Ch (m : MethodId) (d : Addr) (i : Int32) : entryFrame m #[(.ref d), (.int i)] 2 = mkF m 0 #[.val (.ref d), .val (.int i)] [] := by first | (simp [entryFrame, mkF, argsToLocals, Value.category]; done) | rfl
def Q_rmL1Ch (Z : State) (d : Addr) (i : Int32) (k : ClassId) (n : Int32) (vs : List Value) (x : Int32) (sf : Value) (h0 : Heap) (n0 : Nat) (v_ : Option Value) (h_ : Heap) (L_ : List Loc) : Prop := v_ = some (.int (x &&& (255 : Int32))) ∧ Fr n0 L_ ∧ h_ = h0
theorem pn_2 : plainName "java/lang/StringLatin1" = true := by first | (simp [plainName, overriddenIn]; done) | decide +kernel
set_option maxRecDepth 65536 in
set_option maxHeartbeats 40000000 in
theorem rmL1Ch (l : Launch) (Z : State) (a0 : Array Value) (hw : ∀ d ∈ tables_1, d.before a0 Z = true) (ws : List Jvm.Cond) (d : Addr) (i : Int32) (k : ClassId) (n : Int32) (vs : List Value) (x : Int32) (sf : Value) (h0 : Heap) (n0 : Nat) (Z0 : n0 ≤ h0.size) (O0 : Old Z n0 h0) (u1 : Sta Z Z.heap "jdk/internal/util/Preconditions" "SIOOBE_FORMATTER" "Ljava/util/function/BiFunction;" sf) (hsf : sf.isRef = true) (u3 : Arv Z h0 d k .byte n vs (.int (0 : Int32))) (h1 : ¬ (i < (0 : Int32))) (h2 : i < n) (hat : vs.getD (i).toNatClampNeg (.int (0 : Int32)) = (.int x)) :
    MetFree l own_y3 (head1 (Jvm.Cond.code own_y3 jdk_43_method_2_code 2 (some .char) :: ws) ({ frames := 2, cells := 0, slots := 0, locals := 27 } : Room)) (fun a_ U_ => a_ = #[(.ref d), (.int i)] ∧ Z.Warmed39 U_.vm ∧ U_.heap = h0) (fun _ _ _ _ _ => True) (fun _ U_ o_ U2_ => ∃ v_ L_, o_ = .returned v_ ∧ Q_rmL1Ch Z d i k n vs x sf h0 n0 v_ U2_.heap L_ ∧ FrameEnd U_ o_ U2_ L_ ({ frames := 2, cells := 0, slots := 0, locals := 27 } : Room).cells ({ frames := 2, cells := 0, slots := 0, locals := 27 } : Room).slots) := by
  refine MetFree.of_bodySF (plainFor_of_name pn_2) hisR ?_
  intro p e s m args below meth c s₁ Bd hml0 hP hK
  obtain ⟨rfl, hZ, hh⟩ := hP
  have hx := Bd.exec
  have hby := Bd.bytes
  have hml : c.maxLocals = 2 := hml0
  have hown : s.vm.findClass "java/lang/StringLatin1" = some m.cls := findClass_of_methodNamed Bd.named
  have hnm := (name_of_methodNamed Bd.named Bd.method).1
  have X0 : Stand p l e ({ frames := 2, cells := 0, slots := 0, locals := 27 } : Room) s m #[(.ref d), (.int i)] below meth c s₁ [] 0 0 := Stand.of_body Bd
  have e0 : s₁.heap = h0 := by rw [← hh, Bd.state]; rfl
  have N0 := Fr.nil n0
  refine own_go (A := s₁.setTop (mkF m 0 #[.val (.ref d), .val (.int i)] [])) (fun t_ k_ => castTop (ef_rmL1Ch m d i) k_) ?_
  obtain ⟨cl1, Ar1, q1, S1, M1, H1, G1⟩ := id u3
  refine own_go (A := s₁.setTop (mkF m 3 #[.val (.ref d), .val (.int i)] [(.int n), (.int i)])) (fun t_ k_ => ?_) ?_
  · show Steps p.tables e below (s₁.setTop (mkF m 0 #[.val (.ref d), .val (.int i)] [])) t_
    refine XS.iloadN X0.here hx rfl (hb hby d3_0) rfl ?_
    show Steps p.tables e below (s₁.setTop (mkF m 1 #[.val (.ref d), .val (.int i)] [(.int i)])) t_
    refine XS.aloadN X0.here hx rfl (hb hby d3_1) rfl rfl ?_
    show Steps p.tables e below (s₁.setTop (mkF m 2 #[.val (.ref d), .val (.int i)] [(.ref d), (.int i)])) t_
    refine X0.arraylength hx (by rw [e0]; exact Ar1.1) (State.isArrayOf_alike hZ.alike Ar1.2.1) (g := (mkF m 2 #[.val (.ref d), .val (.int i)] [(.ref d), (.int i)])) rfl rfl (hb hby d3_2) _ ?_
    rw [len_of S1 M1]
    exact k_
  obtain ⟨_, _, ⟨T2, L2, k2, n2⟩, -, X2, ⟨Lc2, hQ2, l2, y2, z2⟩, st2⟩ := Jvm.LawKit.callS X0 hx (y := own_y2) hown (mvT hZ (own_w hw 98 rfl)) (mvT hZ (own_w hw 99 rfl)) (mvT hZ (own_w hw 73 rfl)) (mvT hZ (own_w hw 100 rfl)) (by decide) (backOf (W := 0) (rmSCk l Z a0 hw [] i n sf h0 n0 Z0 O0 u1 hsf h1 h2) hZ (own_w hw 100 rfl) (own_w hw 73 rfl) (by decide) (by decide)) (g := (mkF m 3 #[.val (.ref d), .val (.int i)] [(.int n), (.int i)])) rfl (by rw [hml]; rfl) (argsL := [(.int i), (.int n)]) (rest := []) (lenOf pd_1 rfl) rfl (by show 2 * 0 + _ ≤ _; exact Nat.le_of_eq rfl) (hb hby d3_3) (fun _ _ => ⟨rfl, e0, (by decide : 0 + 0 ≤ _), (by decide : 0 + 0 ≤ _)⟩)
  dsimp only [Pt.U, Pt.locs, Pt.cells, Pt.slots] at X2 l2 y2 z2 st2 hQ2
  subst l2 y2 z2
  obtain ⟨rfl, N2q, eh2⟩ := hQ2
  have N2 := Fr.app N0 N2q
  refine own_go st2 ?_
  obtain ⟨cl3, Ar3, q3, S3, M3, H3, G3⟩ := id u3
  have hin3 : ¬ (i < 0 ∨ cl3.slots.size ≤ (i).toNatClampNeg) := inb_of S3 ⟨h1, h2⟩
  have hat3 : cl3.slots[(i).toNatClampNeg]? = some (.int x) := Has.at H3 hin3 hat
  refine own_go (A := T2.setTop (mkF m 14 #[.val (.ref d), .val (.int i)] [(.int ((x &&& (255 : Int32))).toUInt32.toUInt16.toUInt32.toInt32)])) (fun t_ k_ => ?_) ?_
  · show Steps p.tables e below (T2.setTop (mkF m 6 #[.val (.ref d), .val (.int i)] [])) t_
    refine XS.aloadN X2.here hx rfl (hb hby d3_6) rfl rfl ?_
    show Steps p.tables e below (T2.setTop (mkF m 7 #[.val (.ref d), .val (.int i)] [(.ref d)])) t_
    refine XS.iloadN X2.here hx rfl (hb hby d3_7) rfl ?_
    show Steps p.tables e below (T2.setTop (mkF m 8 #[.val (.ref d), .val (.int i)] [(.int i), (.ref d)])) t_
    refine X2.baloadBytes hx (j := i) (v := (.int x)) (by rw [eh2]; exact Ar3.1) (State.isArrayOf_alike hZ.alike Ar3.2.1) Ar3.2.2 hin3 hat3 (g := (mkF m 8 #[.val (.ref d), .val (.int i)] [(.int i), (.ref d)])) rfl rfl (hb hby d3_8) _ ?_
    show Steps p.tables e below (T2.setTop (mkF m 9 #[.val (.ref d), .val (.int i)] [(.int x)])) t_
    refine XS.sipush X2.here hx rfl (hb hby d3_9) ?_
    show Steps p.tables e below (T2.setTop (mkF m 12 #[.val (.ref d), .val (.int i)] [(.int (255 : Int32)), (.int x)])) t_
    refine XS.iand X2.here hx rfl (hb hby d3_12) rfl ?_
    show Steps p.tables e below (T2.setTop (mkF m 13 #[.val (.ref d), .val (.int i)] [(.int (x &&& (255 : Int32)))])) t_
    refine XS.i2c X2.here hx rfl (hb hby d3_13) rfl ?_
    exact k_
  obtain ⟨fs4, hr4, hrun4, hended4, hW4, hsame4⟩ := X2.leave (v := some (.int (nar .char ((x &&& (255 : Int32))).toUInt32.toUInt16.toUInt32.toInt32))) (fun h => by rw [Bd.returns] at h; cases h)
  refine ⟨_, _, ?_, hrun4, hended4, _, _, rfl, ?_, ⟨_, rfl⟩, hW4, hsame4.mono (by decide) (by decide)⟩
  · exact retN X2 hx (t := .char) Bd.returns (by simp) (hb hby d3_14) hr4
  · show Q_rmL1Ch Z d i k n vs x sf h0 n0 _ T2.heap _
    rw [eh2]
    exact ⟨(congrArg (fun z => some (Value.int z)) (own_ch x)), N2, rfl⟩
theorem d1_0 : decode jdk_42_method_56_code 0 = .ok (.aload_n 0, 1) := by decide +kernel
theorem pd_2 : parseMethodDescriptor "()Z" = some ⟨[], some .boolean⟩ := by decide +kernel
theorem d1_1 : decode jdk_42_method_56_code 1 = .ok (.invokevirtual 492, 3) := by decide +kernel
theorem d1_4 : decode jdk_42_method_56_code 4 = .ok (.ifCond .eq 12, 3) := by decide +kernel
theorem d1_7 : decode jdk_42_method_56_code 7 = .ok (.aload_n 0, 1) := by decide +kernel
theorem d1_8 : decode jdk_42_method_56_code 8 = .ok (.getfield 9, 3) := by decide +kernel
theorem d1_11 : decode jdk_42_method_56_code 11 = .ok (.iload_n 1, 1) := by decide +kernel
theorem pd_3 : parseMethodDescriptor "([BI)C" = some ⟨[(.array .byte), .int], some .char⟩ := by decide +kernel
theorem d1_12 : decode jdk_42_method_56_code 12 = .ok (.invokestatic 495, 3) := by decide +kernel
theorem d1_15 : decode jdk_42_method_56_code 15 = .ok (.ireturn, 1) := by decide +kernel
abbrev own_y4 : MethodName := ⟨"java/lang/String", "charAt", "(I)C"⟩
theorem ef_rmChAt (m : MethodId) (a : Addr) (i : Int32) : entryFrame m #[(.ref a), (.int i)] 2 = mkF m 0 #[.val (.ref a), .val (.int i)] [] := by first | (simp [entryFrame, mkF, argsToLocals, Value.category]; done) | rfl
def Q_rmChAt (Z : State) (a : Addr) (i : Int32) (d : Addr) (k : ClassId) (n : Int32) (vs : List Value) (x : Int32) (sf : Value) (cs : Int32) (h0 : Heap) (n0 : Nat) (v_ : Option Value) (h_ : Heap) (L_ : List Loc) : Prop := v_ = some (.int (x &&& (255 : Int32))) ∧ Fr n0 L_ ∧ h_ = h0
set_option maxRecDepth 65536 in
set_option maxHeartbeats 40000000 in
theorem rmChAt (l : Launch) (Z : State) (a0 : Array Value) (hw : ∀ d ∈ tables_1, d.before a0 Z = true) (ws : List Jvm.Cond) (a : Addr) (i : Int32) (d : Addr) (k : ClassId) (n : Int32) (vs : List Value) (x : Int32) (sf : Value) (cs : Int32) (h0 : Heap) (n0 : Nat) (Z0 : n0 ≤ h0.size) (O0 : Old Z n0 h0) (u1 : Sta Z Z.heap "java/lang/String" "COMPACT_STRINGS" "Z" (.int cs)) (hcs : ¬ (cs = (0 : Int32))) (u3 : Sta Z Z.heap "jdk/internal/util/Preconditions" "SIOOBE_FORMATTER" "Ljava/util/function/BiFunction;" sf) (hsf : sf.isRef = true) (u5 : Exa Z h0 a "java/lang/String") (u6 : Fld Z h0 a "java/lang/String" "coder" "B" (.int (0 : Int32))) (u7 : Fld Z h0 a "java/lang/String" "value" "[B" (.ref d)) (u8 : Arv Z h0 d k .byte n vs (.int (0 : Int32))) (h1 : ¬ (i < (0 : Int32))) (h2 : i < n) (hat : vs.getD (i).toNatClampNeg (.int (0 : Int32)) = (.int x)) :
    MetFree l own_y4 (head1 (Jvm.Cond.code own_y4 jdk_42_method_56_code 2 (some .char) :: ws) ({ frames := 3, cells := 0, slots := 0, locals := 40 } : Room)) (fun a_ U_ => a_ = #[(.ref a), (.int i)] ∧ Z.Warmed39 U_.vm ∧ U_.heap = h0) (fun _ _ _ _ _ => True) (fun _ U_ o_ U2_ => ∃ v_ L_, o_ = .returned v_ ∧ Q_rmChAt Z a i d k n vs x sf cs h0 n0 v_ U2_.heap L_ ∧ FrameEnd U_ o_ U2_ L_ ({ frames := 3, cells := 0, slots := 0, locals := 40 } : Room).cells ({ frames := 3, cells := 0, slots := 0, locals := 40 } : Room).slots) := by
  refine MetFree.of_bodySF (plainFor_of_name pn_0) hisR ?_
  intro p e s m args below meth c s₁ Bd hml0 hP hK
  obtain ⟨rfl, hZ, hh⟩ := hP
  have hx := Bd.exec
  have hby := Bd.bytes
  have hml : c.maxLocals = 2 := hml0
  have hown : s.vm.findClass "java/lang/String" = some m.cls := findClass_of_methodNamed Bd.named
  have hnm := (name_of_methodNamed Bd.named Bd.method).1
  have X0 : Stand p l e ({ frames := 3, cells := 0, slots := 0, locals := 40 } : Room) s m #[(.ref a), (.int i)] below meth c s₁ [] 0 0 := Stand.of_body Bd
  have e0 : s₁.heap = h0 := by rw [← hh, Bd.state]; rfl
  have N0 := Fr.nil n0
  refine own_go (A := s₁.setTop (mkF m 0 #[.val (.ref a), .val (.int i)] [])) (fun t_ k_ => castTop (ef_rmChAt m a i) k_) ?_
  refine own_go (A := s₁.setTop (mkF m 1 #[.val (.ref a), .val (.int i)] [(.ref a)])) (fun t_ k_ => ?_) ?_
  · show Steps p.tables e below (s₁.setTop (mkF m 0 #[.val (.ref a), .val (.int i)] [])) t_
    refine XS.aloadN X0.here hx rfl (hb hby d1_0) rfl rfl ?_
    exact k_
  obtain ⟨cq1, kq1, q1a, q1b, q1c⟩ := isOf hZ e0 u5
  obtain ⟨_, _, ⟨T1, L1, k1, n1⟩, -, X1, ⟨Lc1, hQ1, l1, y1, z1⟩, st1⟩ := X0.virtualBack hx (y := own_y0) (z := own_y0) hown (mvT hZ (own_w hw 86 rfl)) (mvT hZ (own_w hw 87 rfl)) (notFace_of_selects (args := #[]) (mvT hZ (own_w hw 89 rfl))) (mvT hZ (own_w hw 89 rfl)) (mvT hZ (own_w hw 88 rfl)) (by decide) (backOf (W := 0) (rmIsL1 l Z a0 hw [] a cs h0 n0 Z0 O0 u1 hcs u6) hZ (own_w hw 90 rfl) (own_w hw 73 rfl) (by decide) (by decide)) q1a q1c (g := (mkF m 1 #[.val (.ref a), .val (.int i)] [(.ref a)])) rfl (by rw [hml]; rfl) (Steps.refl _) (argsL := []) (rest := []) (lenOf pd_2 rfl) rfl (by show 2 * 0 + _ ≤ _; exact Nat.le_of_eq rfl) (hb hby d1_1) (fun _ _ => ⟨rfl, e0, (by decide : 0 + 0 ≤ _), (by decide : 0 + 0 ≤ _)⟩)
  dsimp only [Pt.U, Pt.locs, Pt.cells, Pt.slots] at X1 l1 y1 z1 st1 hQ1
  subst l1 y1 z1
  obtain ⟨rfl, N1q, eh1⟩ := hQ1
  have N1 := Fr.app N0 N1q
  refine own_via st1 ?_
  refine own_go (A := T1.setTop (mkF m 8 #[.val (.ref a), .val (.int i)] [(.ref a)])) (fun t_ k_ => ?_) ?_
  · show Steps p.tables e below (T1.setTop (mkF m 4 #[.val (.ref a), .val (.int i)] [(.int (1 : Int32))])) t_
    refine XS.ifNo X1.here hx rfl (hb hby d1_4) rfl ((if0 _ _).trans (feq (by decide : ¬ ((1 : Int32) = (0 : Int32)))).1) ?_
    show Steps p.tables e below (T1.setTop (mkF m 7 #[.val (.ref a), .val (.int i)] [])) t_
    refine XS.aloadN X1.here hx rfl (hb hby d1_7) rfl rfl ?_
    exact k_
  obtain ⟨T2, X2, e2, st2⟩ := getF X1 hx hZ hown (host := "") (Or.inl (own_w hw 93 rfl)) Via.refl eh1 u7 (g := (mkF m 8 #[.val (.ref a), .val (.int i)] [(.ref a)])) rfl rfl (hb hby d1_8)
  refine own_go st2 ?_
  refine own_go (A := T2.setTop (mkF m 12 #[.val (.ref a), .val (.int i)] [(.int i), (.ref d)])) (fun t_ k_ => ?_) ?_
  · show Steps p.tables e below (T2.setTop (mkF m 11 #[.val (.ref a), .val (.int i)] [(.ref d)])) t_
    refine XS.iloadN X2.here hx rfl (hb hby d1_11) rfl ?_
    exact k_
  obtain ⟨_, _, ⟨T3, L3, k3, n3⟩, -, X3, ⟨Lc3, hQ3, l3, y3, z3⟩, st3⟩ := Jvm.LawKit.callS X2 hx (y := own_y3) hown (mvT hZ (own_w hw 94 rfl)) (mvT hZ (own_w hw 95 rfl)) (mvT hZ (own_w hw 96 rfl)) (mvT hZ (own_w hw 97 rfl)) (by decide) (backOf (W := 0) (rmL1Ch l Z a0 hw [] d i k n vs x sf h0 n0 Z0 O0 u3 hsf u8 h1 h2 hat) hZ (own_w hw 97 rfl) (own_w hw 96 rfl) (by decide) (by decide)) (g := (mkF m 12 #[.val (.ref a), .val (.int i)] [(.int i), (.ref d)])) rfl (by rw [hml]; rfl) (argsL := [(.ref d), (.int i)]) (rest := []) (lenOf pd_3 rfl) rfl (by show 2 * 0 + _ ≤ _; exact Nat.le_of_eq rfl) (hb hby d1_12) (fun _ _ => ⟨rfl, e2, (by decide : 0 + 0 ≤ _), (by decide : 0 + 0 ≤ _)⟩)
  dsimp only [Pt.U, Pt.locs, Pt.cells, Pt.slots] at X3 l3 y3 z3 st3 hQ3
  subst l3 y3 z3
  obtain ⟨rfl, N3q, eh3⟩ := hQ3
  have N3 := Fr.app N1 N3q
  refine own_go st3 ?_
  obtain ⟨fs4, hr4, hrun4, hended4, hW4, hsame4⟩ := X3.leave (v := some (.int (nar .char (x &&& (255 : Int32))))) (fun h => by rw [Bd.returns] at h; cases h)
  refine ⟨_, _, ?_, hrun4, hended4, _, _, rfl, ?_, ⟨_, rfl⟩, hW4, hsame4.mono (by decide) (by decide)⟩
  · exact retN X3 hx (t := .char) Bd.returns (by simp) (hb hby d1_15) hr4
  · show Q_rmChAt Z a i d k n vs x sf cs h0 n0 _ T3.heap _
    rw [eh3]
    exact ⟨(congrArg (fun z => some (Value.int z)) (own_ch1 x)), N3, rfl⟩
def own_txt : List Value := [(.int (65 : Int32)), (.int (69 : Int32)), (.int (65 : Int32)), (.int (83 : Int32)), (.int (65 : Int32)), (.int (84 : Int32)), (.int (67 : Int32)), (.int (83 : Int32)), (.int (68 : Int32)), (.int (65 : Int32)), (.int (68 : Int32)), (.int (83 : Int32)), (.int (68 : Int32)), (.int (84 : Int32)), (.int (70 : Int32)), (.int (68 : Int32)), (.int (70 : Int32)), (.int (76 : Int32)), (.int (73 : Int32)), (.int (83 : Int32)), (.int (76 : Int32)), (.int (79 : Int32)), (.int (76 : Int32)), (.int (84 : Int32)), (.int (79 : Int32)), (.int (66 : Int32)), (.int (79 : Int32)), (.int (68 : Int32)), (.int (79 : Int32)), (.int (70 : Int32)), (.int (79 : Int32)), (.int (76 : Int32)), (.int (79 : Int32)), (.int (86 : Int32)), (.int (79 : Int32)), (.int (87 : Int32)), (.int (80 : Int32)), (.int (78 : Int32)), (.int (83 : Int32)), (.int (72 : Int32)), (.int (83 : Int32)), (.int (76 : Int32)), (.int (83 : Int32)), (.int (81 : Int32)), (.int (83 : Int32)), (.int (83 : Int32)), (.int (83 : Int32)), (.int (84 : Int32)), (.int (83 : Int32)), (.int (86 : Int32)), (.int (84 : Int32)), (.int (77 : Int32)), (.int (85 : Int32)), (.int (67 : Int32)), (.int (85 : Int32)), (.int (73 : Int32)), (.int (85 : Int32)), (.int (76 : Int32)), (.int (85 : Int32)), (.int (78 : Int32)), (.int (85 : Int32)), (.int (82 : Int32)), (.int (85 : Int32)), (.int (83 : Int32)), (.int (85 : Int32)), (.int (84 : Int32)), (.int (85 : Int32)), (.int (86 : Int32))]
theorem d7_0 : decode jdk_37_method_2_code 0 = .ok (.aload_n 0, 1) := by decide +kernel
theorem d7_1 : decode jdk_37_method_2_code 1 = .ok (.getfield 7, 3) := by decide +kernel
theorem d7_4 : decode jdk_37_method_2_code 4 = .ok (.ireturn, 1) := by decide +kernel
abbrev own_y5 : MethodName := ⟨"java/lang/Enum", "ordinal", "()I"⟩
theorem ef_rmOrd (m : MethodId) (a : Addr) : entryFrame m #[(.ref a)] 1 = mkF m 0 #[.val (.ref a)] [] := by first | (simp [entryFrame, mkF, argsToLocals, Value.category]; done) | rfl
def Q_rmOrd (Z : State) (a : Addr) (w : Int32) (h0 : Heap) (n0 : Nat) (v_ : Option Value) (h_ : Heap) (L_ : List Loc) : Prop := v_ = some (.int w) ∧ Fr n0 L_ ∧ h_ = h0
theorem pn_3 : plainName "java/lang/Enum" = true := by first | (simp [plainName, overriddenIn]; done) | decide +kernel
set_option maxRecDepth 65536 in
set_option maxHeartbeats 40000000 in
theorem rmOrd (l : Launch) (Z : State) (a0 : Array Value) (hw : ∀ d ∈ tables_1, d.before a0 Z = true) (ws : List Jvm.Cond) (a : Addr) (w : Int32) (h0 : Heap) (n0 : Nat) (Z0 : n0 ≤ h0.size) (O0 : Old Z n0 h0) (u1 : Fld Z Z.heap a "java/lang/Enum" "ordinal" "I" (.int w)) :
    MetFree l own_y5 (head1 (Jvm.Cond.code own_y5 jdk_37_method_2_code 1 (some .int) :: ws) ({ frames := 0, cells := 0, slots := 0, locals := 0 } : Room)) (fun a_ U_ => a_ = #[(.ref a)] ∧ Z.Warmed39 U_.vm ∧ U_.heap = h0) (fun _ _ _ _ _ => True) (fun _ U_ o_ U2_ => ∃ v_ L_, o_ = .returned v_ ∧ Q_rmOrd Z a w h0 n0 v_ U2_.heap L_ ∧ FrameEnd U_ o_ U2_ L_ ({ frames := 0, cells := 0, slots := 0, locals := 0 } : Room).cells ({ frames := 0, cells := 0, slots := 0, locals := 0 } : Room).slots) := by
  refine MetFree.of_bodySF (plainFor_of_name pn_3) hisR ?_
  intro p e s m args below meth c s₁ Bd hml0 hP hK
  obtain ⟨rfl, hZ, hh⟩ := hP
  have hx := Bd.exec
  have hby := Bd.bytes
  have hml : c.maxLocals = 1 := hml0
  have hown : s.vm.findClass "java/lang/Enum" = some m.cls := findClass_of_methodNamed Bd.named
  have hnm := (name_of_methodNamed Bd.named Bd.method).1
  have X0 : Stand p l e ({ frames := 0, cells := 0, slots := 0, locals := 0 } : Room) s m #[(.ref a)] below meth c s₁ [] 0 0 := Stand.of_body Bd
  have e0 : s₁.heap = h0 := by rw [← hh, Bd.state]; rfl
  have N0 := Fr.nil n0
  refine own_go (A := s₁.setTop (mkF m 0 #[.val (.ref a)] [])) (fun t_ k_ => castTop (ef_rmOrd m a) k_) ?_
  refine own_go (A := s₁.setTop (mkF m 1 #[.val (.ref a)] [(.ref a)])) (fun t_ k_ => ?_) ?_
  · show Steps p.tables e below (s₁.setTop (mkF m 0 #[.val (.ref a)] [])) t_
    refine XS.aloadN X0.here hx rfl (hb hby d7_0) rfl rfl ?_
    exact k_
  obtain ⟨T1, X1, e1, st1⟩ := getF X0 hx hZ hown (host := "") (Or.inl (own_w hw 118 rfl)) Via.refl e0 (u1.ext O0.2) (g := (mkF m 1 #[.val (.ref a)] [(.ref a)])) rfl rfl (hb hby d7_1)
  refine own_go st1 ?_
  obtain ⟨fs2, hr2, hrun2, hended2, hW2, hsame2⟩ := X1.leave (v := some (.int w)) (fun h => by rw [Bd.returns] at h; cases h)
  refine ⟨_, _, ?_, hrun2, hended2, _, _, rfl, ?_, ⟨_, rfl⟩, hW2, hsame2.mono (by decide) (by decide)⟩
  · exact own_retI X1 hx Bd.returns (hb hby d7_4) hr2
  · show Q_rmOrd Z a w h0 n0 _ T1.heap _
    rw [e1]
    exact ⟨rfl, N0, rfl⟩
theorem d6_0 : decode prog_15_method_5_code 0 = .ok (.aload_n 0, 1) := by decide +kernel
theorem pd_4 : parseMethodDescriptor "()I" = some ⟨[], some .int⟩ := by decide +kernel
theorem d6_1 : decode prog_15_method_5_code 1 = .ok (.invokevirtual 135, 3) := by decide +kernel
abbrev own_y6 : MethodName := ⟨"com/example/querent/querent/dicom/Vr", "ordinal", "()I"⟩
theorem d6_4 : decode prog_15_method_5_code 4 = .ok (.tableswitch 108 12 33 #[104, 104, 104, 104, 104, 104, 108, 108, 108, 104, 108, 108, 104, 108, 104, 108, 108, 104, 104, 108, 104, 104], 104) := by decide +kernel
theorem d6_108 : decode prog_15_method_5_code 108 = .ok (.iconst 1, 1) := by decide +kernel
theorem d6_109 : decode prog_15_method_5_code 109 = .ok (.goto 4, 3) := by decide +kernel
theorem d6_113 : decode prog_15_method_5_code 113 = .ok (.ireturn, 1) := by decide +kernel
abbrev own_y7 : MethodName := ⟨"com/example/querent/querent/dicom/Vr", "hasLongLength", "()Z"⟩
theorem ef_rmMIn104 (m : MethodId) (a : Addr) : entryFrame m #[(.ref a)] 1 = mkF m 0 #[.val (.ref a)] [] := by first | (simp [entryFrame, mkF, argsToLocals, Value.category]; done) | rfl
def Q_rmMIn104 (Z : State) (a : Addr) (w : Int32) (h0 : Heap) (n0 : Nat) (v_ : Option Value) (h_ : Heap) (L_ : List Loc) : Prop := v_ = some (.int (1 : Int32)) ∧ Fr n0 L_ ∧ h_ = h0
theorem pn_4 : plainName "com/example/querent/querent/dicom/Vr" = true := by first | (simp [plainName, overriddenIn]; done) | decide +kernel
set_option maxRecDepth 65536 in
set_option maxHeartbeats 40000000 in
theorem rmMIn104 (l : Launch) (Z : State) (a0 : Array Value) (hw : ∀ d ∈ tables_1, d.before a0 Z = true) (ws : List Jvm.Cond) (a : Addr) (w : Int32) (h0 : Heap) (n0 : Nat) (Z0 : n0 ≤ h0.size) (O0 : Old Z n0 h0) (u1 : Exa Z Z.heap a "com/example/querent/querent/dicom/Vr") (u2 : Fld Z Z.heap a "java/lang/Enum" "ordinal" "I" (.int w)) (hin : ¬ (w.toInt < 12 ∨ w.toInt > 33)) (hoff : (#[104, 104, 104, 104, 104, 104, 108, 108, 108, 104, 108, 108, 104, 108, 104, 108, 108, 104, 104, 108, 104, 104] : Array Int)[(w.toInt - 12).toNat]? = some 104) :
    MetFree l own_y7 (head1 (Jvm.Cond.code own_y7 prog_15_method_5_code 1 (some .boolean) :: ws) ({ frames := 1, cells := 0, slots := 0, locals := 12 } : Room)) (fun a_ U_ => a_ = #[(.ref a)] ∧ Z.Warmed39 U_.vm ∧ U_.heap = h0) (fun _ _ _ _ _ => True) (fun _ U_ o_ U2_ => ∃ v_ L_, o_ = .returned v_ ∧ Q_rmMIn104 Z a w h0 n0 v_ U2_.heap L_ ∧ FrameEnd U_ o_ U2_ L_ ({ frames := 1, cells := 0, slots := 0, locals := 12 } : Room).cells ({ frames := 1, cells := 0, slots := 0, locals := 12 } : Room).slots) := by
  refine MetFree.of_bodySF (plainFor_of_name pn_4) hisR ?_
  intro p e s m args below meth c s₁ Bd hml0 hP hK
  obtain ⟨rfl, hZ, hh⟩ := hP
  have hx := Bd.exec
  have hby := Bd.bytes
  have hml : c.maxLocals = 1 := hml0
  have hown : s.vm.findClass "com/example/querent/querent/dicom/Vr" = some m.cls := findClass_of_methodNamed Bd.named
  have hnm := (name_of_methodNamed Bd.named Bd.method).1
  have X0 : Stand p l e ({ frames := 1, cells := 0, slots := 0, locals := 12 } : Room) s m #[(.ref a)] below meth c s₁ [] 0 0 := Stand.of_body Bd
  have e0 : s₁.heap = h0 := by rw [← hh, Bd.state]; rfl
  have N0 := Fr.nil n0
  refine own_go (A := s₁.setTop (mkF m 0 #[.val (.ref a)] [])) (fun t_ k_ => castTop (ef_rmMIn104 m a) k_) ?_
  refine own_go (A := s₁.setTop (mkF m 1 #[.val (.ref a)] [(.ref a)])) (fun t_ k_ => ?_) ?_
  · show Steps p.tables e below (s₁.setTop (mkF m 0 #[.val (.ref a)] [])) t_
    refine XS.aloadN X0.here hx rfl (hb hby d6_0) rfl rfl ?_
    exact k_
  obtain ⟨cq1, kq1, q1a, q1b, q1c⟩ := isOf hZ e0 (u1.ext O0.2)
  obtain ⟨_, _, ⟨T1, L1, k1, n1⟩, -, X1, ⟨Lc1, hQ1, l1, y1, z1⟩, st1⟩ := X0.virtualBackUp hx (owner := "java/lang/Enum") (x := own_y6) (y := own_y5) hown (mvT hZ (own_w hw 111 rfl)) (mvT hZ (own_w hw 112 rfl)) (mvT hZ (own_w hw 113 rfl)) (by decide) (mvT hZ (own_w hw 115 rfl)) (mvT hZ (own_w hw 114 rfl)) (backOf (W := 0) (rmOrd l Z a0 hw [] a w h0 n0 Z0 O0 u2) hZ (own_w hw 117 rfl) (own_w hw 116 rfl) (by decide) (by decide)) q1a q1c (g := (mkF m 1 #[.val (.ref a)] [(.ref a)])) rfl (by rw [hml]; rfl) (Steps.refl _) (argsL := []) (rest := []) (lenOf pd_4 rfl) rfl (by show 2 * 0 + _ ≤ _; exact Nat.le_of_eq rfl) (hb hby d6_1) (fun _ _ => ⟨rfl, e0, (by decide : 0 + 0 ≤ _), (by decide : 0 + 0 ≤ _)⟩)
  dsimp only [Pt.U, Pt.locs, Pt.cells, Pt.slots] at X1 l1 y1 z1 st1 hQ1
  subst l1 y1 z1
  obtain ⟨rfl, N1q, eh1⟩ := hQ1
  have N1 := Fr.app N0 N1q
  refine own_via st1 ?_
  refine own_go (A := T1.setTop (mkF m 113 #[.val (.ref a)] [(.int (1 : Int32))])) (fun t_ k_ => ?_) ?_
  · show Steps p.tables e below (T1.setTop (mkF m 4 #[.val (.ref a)] [(.int w)])) t_
    refine XS.tswIn X1.here hx rfl (pc0 := 4) (pc' := 108) rfl (hb hby d6_4) rfl hin (o := 104) hoff (by decide) (by decide) ?_
    show Steps p.tables e below (T1.setTop (mkF m 108 #[.val (.ref a)] [])) t_
    refine XS.iconst X1.here hx rfl (hb hby d6_108) ?_
    show Steps p.tables e below (T1.setTop (mkF m 109 #[.val (.ref a)] [(.int (1 : Int32))])) t_
    refine XS.goto X1.here hx rfl (pc0 := 109) (pc' := 113) rfl (hb hby d6_109) (by decide) (by decide) ?_
    exact k_
  obtain ⟨fs2, hr2, hrun2, hended2, hW2, hsame2⟩ := X1.leave (v := some (.int (1 : Int32))) (fun h => by rw [Bd.returns] at h; cases h)
  refine ⟨_, _, ?_, hrun2, hended2, _, _, rfl, ?_, ⟨_, rfl⟩, hW2, hsame2.mono (by decide) (by decide)⟩
  · exact retN X1 hx (t := .boolean) Bd.returns (by simp) (hb hby d6_113) hr2
  · show Q_rmMIn104 Z a w h0 n0 _ T1.heap _
    rw [eh1]
    exact ⟨rfl, N1, rfl⟩
theorem d6_112 : decode prog_15_method_5_code 112 = .ok (.iconst 0, 1) := by decide +kernel
theorem ef_rmMIn108 (m : MethodId) (a : Addr) : entryFrame m #[(.ref a)] 1 = mkF m 0 #[.val (.ref a)] [] := by first | (simp [entryFrame, mkF, argsToLocals, Value.category]; done) | rfl
def Q_rmMIn108 (Z : State) (a : Addr) (w : Int32) (h0 : Heap) (n0 : Nat) (v_ : Option Value) (h_ : Heap) (L_ : List Loc) : Prop := v_ = some (.int (0 : Int32)) ∧ Fr n0 L_ ∧ h_ = h0
set_option maxRecDepth 65536 in
set_option maxHeartbeats 40000000 in
theorem rmMIn108 (l : Launch) (Z : State) (a0 : Array Value) (hw : ∀ d ∈ tables_1, d.before a0 Z = true) (ws : List Jvm.Cond) (a : Addr) (w : Int32) (h0 : Heap) (n0 : Nat) (Z0 : n0 ≤ h0.size) (O0 : Old Z n0 h0) (u1 : Exa Z Z.heap a "com/example/querent/querent/dicom/Vr") (u2 : Fld Z Z.heap a "java/lang/Enum" "ordinal" "I" (.int w)) (hin : ¬ (w.toInt < 12 ∨ w.toInt > 33)) (hoff : (#[104, 104, 104, 104, 104, 104, 108, 108, 108, 104, 108, 108, 104, 108, 104, 108, 108, 104, 104, 108, 104, 104] : Array Int)[(w.toInt - 12).toNat]? = some 108) :
    MetFree l own_y7 (head1 (Jvm.Cond.code own_y7 prog_15_method_5_code 1 (some .boolean) :: ws) ({ frames := 1, cells := 0, slots := 0, locals := 12 } : Room)) (fun a_ U_ => a_ = #[(.ref a)] ∧ Z.Warmed39 U_.vm ∧ U_.heap = h0) (fun _ _ _ _ _ => True) (fun _ U_ o_ U2_ => ∃ v_ L_, o_ = .returned v_ ∧ Q_rmMIn108 Z a w h0 n0 v_ U2_.heap L_ ∧ FrameEnd U_ o_ U2_ L_ ({ frames := 1, cells := 0, slots := 0, locals := 12 } : Room).cells ({ frames := 1, cells := 0, slots := 0, locals := 12 } : Room).slots) := by
  refine MetFree.of_bodySF (plainFor_of_name pn_4) hisR ?_
  intro p e s m args below meth c s₁ Bd hml0 hP hK
  obtain ⟨rfl, hZ, hh⟩ := hP
  have hx := Bd.exec
  have hby := Bd.bytes
  have hml : c.maxLocals = 1 := hml0
  have hown : s.vm.findClass "com/example/querent/querent/dicom/Vr" = some m.cls := findClass_of_methodNamed Bd.named
  have hnm := (name_of_methodNamed Bd.named Bd.method).1
  have X0 : Stand p l e ({ frames := 1, cells := 0, slots := 0, locals := 12 } : Room) s m #[(.ref a)] below meth c s₁ [] 0 0 := Stand.of_body Bd
  have e0 : s₁.heap = h0 := by rw [← hh, Bd.state]; rfl
  have N0 := Fr.nil n0
  refine own_go (A := s₁.setTop (mkF m 0 #[.val (.ref a)] [])) (fun t_ k_ => castTop (ef_rmMIn108 m a) k_) ?_
  refine own_go (A := s₁.setTop (mkF m 1 #[.val (.ref a)] [(.ref a)])) (fun t_ k_ => ?_) ?_
  · show Steps p.tables e below (s₁.setTop (mkF m 0 #[.val (.ref a)] [])) t_
    refine XS.aloadN X0.here hx rfl (hb hby d6_0) rfl rfl ?_
    exact k_
  obtain ⟨cq1, kq1, q1a, q1b, q1c⟩ := isOf hZ e0 (u1.ext O0.2)
  obtain ⟨_, _, ⟨T1, L1, k1, n1⟩, -, X1, ⟨Lc1, hQ1, l1, y1, z1⟩, st1⟩ := X0.virtualBackUp hx (owner := "java/lang/Enum") (x := own_y6) (y := own_y5) hown (mvT hZ (own_w hw 111 rfl)) (mvT hZ (own_w hw 112 rfl)) (mvT hZ (own_w hw 113 rfl)) (by decide) (mvT hZ (own_w hw 115 rfl)) (mvT hZ (own_w hw 114 rfl)) (backOf (W := 0) (rmOrd l Z a0 hw [] a w h0 n0 Z0 O0 u2) hZ (own_w hw 117 rfl) (own_w hw 116 rfl) (by decide) (by decide)) q1a q1c (g := (mkF m 1 #[.val (.ref a)] [(.ref a)])) rfl (by rw [hml]; rfl) (Steps.refl _) (argsL := []) (rest := []) (lenOf pd_4 rfl) rfl (by show 2 * 0 + _ ≤ _; exact Nat.le_of_eq rfl) (hb hby d6_1) (fun _ _ => ⟨rfl, e0, (by decide : 0 + 0 ≤ _), (by decide : 0 + 0 ≤ _)⟩)
  dsimp only [Pt.U, Pt.locs, Pt.cells, Pt.slots] at X1 l1 y1 z1 st1 hQ1
  subst l1 y1 z1
  obtain ⟨rfl, N1q, eh1⟩ := hQ1
  have N1 := Fr.app N0 N1q
  refine own_via st1 ?_
  refine own_go (A := T1.setTop (mkF m 113 #[.val (.ref a)] [(.int (0 : Int32))])) (fun t_ k_ => ?_) ?_
  · show Steps p.tables e below (T1.setTop (mkF m 4 #[.val (.ref a)] [(.int w)])) t_
    refine XS.tswIn X1.here hx rfl (pc0 := 4) (pc' := 112) rfl (hb hby d6_4) rfl hin (o := 108) hoff (by decide) (by decide) ?_
    show Steps p.tables e below (T1.setTop (mkF m 112 #[.val (.ref a)] [])) t_
    refine XS.iconst X1.here hx rfl (hb hby d6_112) ?_
    exact k_
  obtain ⟨fs2, hr2, hrun2, hended2, hW2, hsame2⟩ := X1.leave (v := some (.int (0 : Int32))) (fun h => by rw [Bd.returns] at h; cases h)
  refine ⟨_, _, ?_, hrun2, hended2, _, _, rfl, ?_, ⟨_, rfl⟩, hW2, hsame2.mono (by decide) (by decide)⟩
  · exact retN X1 hx (t := .boolean) Bd.returns (by simp) (hb hby d6_113) hr2
  · show Q_rmMIn108 Z a w h0 n0 _ T1.heap _
    rw [eh1]
    exact ⟨rfl, N1, rfl⟩
theorem ef_rmMOut (m : MethodId) (a : Addr) : entryFrame m #[(.ref a)] 1 = mkF m 0 #[.val (.ref a)] [] := by first | (simp [entryFrame, mkF, argsToLocals, Value.category]; done) | rfl
def Q_rmMOut (Z : State) (a : Addr) (w : Int32) (h0 : Heap) (n0 : Nat) (v_ : Option Value) (h_ : Heap) (L_ : List Loc) : Prop := v_ = some (.int (0 : Int32)) ∧ Fr n0 L_ ∧ h_ = h0
set_option maxRecDepth 65536 in
set_option maxHeartbeats 40000000 in
theorem rmMOut (l : Launch) (Z : State) (a0 : Array Value) (hw : ∀ d ∈ tables_1, d.before a0 Z = true) (ws : List Jvm.Cond) (a : Addr) (w : Int32) (h0 : Heap) (n0 : Nat) (Z0 : n0 ≤ h0.size) (O0 : Old Z n0 h0) (u1 : Exa Z Z.heap a "com/example/querent/querent/dicom/Vr") (u2 : Fld Z Z.heap a "java/lang/Enum" "ordinal" "I" (.int w)) (hout : w.toInt < 12 ∨ w.toInt > 33) :
    MetFree l own_y7 (head1 (Jvm.Cond.code own_y7 prog_15_method_5_code 1 (some .boolean) :: ws) ({ frames := 1, cells := 0, slots := 0, locals := 12 } : Room)) (fun a_ U_ => a_ = #[(.ref a)] ∧ Z.Warmed39 U_.vm ∧ U_.heap = h0) (fun _ _ _ _ _ => True) (fun _ U_ o_ U2_ => ∃ v_ L_, o_ = .returned v_ ∧ Q_rmMOut Z a w h0 n0 v_ U2_.heap L_ ∧ FrameEnd U_ o_ U2_ L_ ({ frames := 1, cells := 0, slots := 0, locals := 12 } : Room).cells ({ frames := 1, cells := 0, slots := 0, locals := 12 } : Room).slots) := by
  refine MetFree.of_bodySF (plainFor_of_name pn_4) hisR ?_
  intro p e s m args below meth c s₁ Bd hml0 hP hK
  obtain ⟨rfl, hZ, hh⟩ := hP
  have hx := Bd.exec
  have hby := Bd.bytes
  have hml : c.maxLocals = 1 := hml0
  have hown : s.vm.findClass "com/example/querent/querent/dicom/Vr" = some m.cls := findClass_of_methodNamed Bd.named
  have hnm := (name_of_methodNamed Bd.named Bd.method).1
  have X0 : Stand p l e ({ frames := 1, cells := 0, slots := 0, locals := 12 } : Room) s m #[(.ref a)] below meth c s₁ [] 0 0 := Stand.of_body Bd
  have e0 : s₁.heap = h0 := by rw [← hh, Bd.state]; rfl
  have N0 := Fr.nil n0
  refine own_go (A := s₁.setTop (mkF m 0 #[.val (.ref a)] [])) (fun t_ k_ => castTop (ef_rmMOut m a) k_) ?_
  refine own_go (A := s₁.setTop (mkF m 1 #[.val (.ref a)] [(.ref a)])) (fun t_ k_ => ?_) ?_
  · show Steps p.tables e below (s₁.setTop (mkF m 0 #[.val (.ref a)] [])) t_
    refine XS.aloadN X0.here hx rfl (hb hby d6_0) rfl rfl ?_
    exact k_
  obtain ⟨cq1, kq1, q1a, q1b, q1c⟩ := isOf hZ e0 (u1.ext O0.2)
  obtain ⟨_, _, ⟨T1, L1, k1, n1⟩, -, X1, ⟨Lc1, hQ1, l1, y1, z1⟩, st1⟩ := X0.virtualBackUp hx (owner := "java/lang/Enum") (x := own_y6) (y := own_y5) hown (mvT hZ (own_w hw 111 rfl)) (mvT hZ (own_w hw 112 rfl)) (mvT hZ (own_w hw 113 rfl)) (by decide) (mvT hZ (own_w hw 115 rfl)) (mvT hZ (own_w hw 114 rfl)) (backOf (W := 0) (rmOrd l Z a0 hw [] a w h0 n0 Z0 O0 u2) hZ (own_w hw 117 rfl) (own_w hw 116 rfl) (by decide) (by decide)) q1a q1c (g := (mkF m 1 #[.val (.ref a)] [(.ref a)])) rfl (by rw [hml]; rfl) (Steps.refl _) (argsL := []) (rest := []) (lenOf pd_4 rfl) rfl (by show 2 * 0 + _ ≤ _; exact Nat.le_of_eq rfl) (hb hby d6_1) (fun _ _ => ⟨rfl, e0, (by decide : 0 + 0 ≤ _), (by decide : 0 + 0 ≤ _)⟩)
  dsimp only [Pt.U, Pt.locs, Pt.cells, Pt.slots] at X1 l1 y1 z1 st1 hQ1
  subst l1 y1 z1
  obtain ⟨rfl, N1q, eh1⟩ := hQ1
  have N1 := Fr.app N0 N1q
  refine own_via st1 ?_
  refine own_go (A := T1.setTop (mkF m 113 #[.val (.ref a)] [(.int (0 : Int32))])) (fun t_ k_ => ?_) ?_
  · show Steps p.tables e below (T1.setTop (mkF m 4 #[.val (.ref a)] [(.int w)])) t_
    refine XS.tswOut X1.here hx rfl (pc0 := 4) (pc' := 112) rfl (hb hby d6_4) rfl hout (by decide) (by decide) ?_
    show Steps p.tables e below (T1.setTop (mkF m 112 #[.val (.ref a)] [])) t_
    refine XS.iconst X1.here hx rfl (hb hby d6_112) ?_
    exact k_
  obtain ⟨fs2, hr2, hrun2, hended2, hW2, hsame2⟩ := X1.leave (v := some (.int (0 : Int32))) (fun h => by rw [Bd.returns] at h; cases h)
  refine ⟨_, _, ?_, hrun2, hended2, _, _, rfl, ?_, ⟨_, rfl⟩, hW2, hsame2.mono (by decide) (by decide)⟩
  · exact retN X1 hx (t := .boolean) Bd.returns (by simp) (hb hby d6_113) hr2
  · show Q_rmMOut Z a w h0 n0 _ T1.heap _
    rw [eh1]
    exact ⟨rfl, N1, rfl⟩
theorem d8_0 : decode method_2_code 0 = .ok (.iload_n 0, 1) := by decide +kernel
theorem d8_1 : decode method_2_code 1 = .ok (.bipush 79, 2) := by decide +kernel
theorem d8_3 : decode method_2_code 3 = .ok (.if_icmp .ne 5, 3) := by decide +kernel
theorem d8_6 : decode method_2_code 6 = .ok (.iconst 1, 1) := by decide +kernel
theorem d8_7 : decode method_2_code 7 = .ok (.ireturn, 1) := by decide +kernel
abbrev own_y8 : MethodName := ⟨"com/example/querent/querent/dicom/VrHasLongLengthPinLaw", "expected", "(CC)Z"⟩
theorem ef_rmEO (m : MethodId) (c1 : Int32) : entryFrame m #[(.int (79 : Int32)), (.int c1)] 2 = mkF m 0 #[.val (.int (79 : Int32)), .val (.int c1)] [] := by first | (simp [entryFrame, mkF, argsToLocals, Value.category]; done) | rfl
def Q_rmEO (Z : State) (c1 : Int32) (h0 : Heap) (n0 : Nat) (v_ : Option Value) (h_ : Heap) (L_ : List Loc) : Prop := v_ = some (.int (1 : Int32)) ∧ Fr n0 L_ ∧ h_ = h0
theorem pn_5 : plainName "com/example/querent/querent/dicom/VrHasLongLengthPinLaw" = true := by first | (simp [plainName, overriddenIn]; done) | decide +kernel
set_option maxRecDepth 65536 in
set_option maxHeartbeats 40000000 in
theorem rmEO (l : Launch) (Z : State) (a0 : Array Value) (hw : ∀ d ∈ tables_1, d.before a0 Z = true) (ws : List Jvm.Cond) (c1 : Int32) (h0 : Heap) (n0 : Nat) (Z0 : n0 ≤ h0.size)  :
    MetFree l own_y8 (head1 (Jvm.Cond.code own_y8 method_2_code 2 (some .boolean) :: ws) ({ frames := 0, cells := 0, slots := 0, locals := 0 } : Room)) (fun a_ U_ => a_ = #[(.int (79 : Int32)), (.int c1)] ∧ Z.Warmed39 U_.vm ∧ U_.heap = h0) (fun _ _ _ _ _ => True) (fun _ U_ o_ U2_ => ∃ v_ L_, o_ = .returned v_ ∧ Q_rmEO Z c1 h0 n0 v_ U2_.heap L_ ∧ FrameEnd U_ o_ U2_ L_ ({ frames := 0, cells := 0, slots := 0, locals := 0 } : Room).cells ({ frames := 0, cells := 0, slots := 0, locals := 0 } : Room).slots) := by
  refine MetFree.of_bodySF (plainFor_of_name pn_5) hisR ?_
  intro p e s m args below meth c s₁ Bd hml0 hP hK
  obtain ⟨rfl, hZ, hh⟩ := hP
  have hx := Bd.exec
  have hby := Bd.bytes
  have hml : c.maxLocals = 2 := hml0
  have hown : s.vm.findClass "com/example/querent/querent/dicom/VrHasLongLengthPinLaw" = some m.cls := findClass_of_methodNamed Bd.named
  have hnm := (name_of_methodNamed Bd.named Bd.method).1
  have X0 : Stand p l e ({ frames := 0, cells := 0, slots := 0, locals := 0 } : Room) s m #[(.int (79 : Int32)), (.int c1)] below meth c s₁ [] 0 0 := Stand.of_body Bd
  have e0 : s₁.heap = h0 := by rw [← hh, Bd.state]; rfl
  have N0 := Fr.nil n0
  refine own_go (A := s₁.setTop (mkF m 0 #[.val (.int (79 : Int32)), .val (.int c1)] [])) (fun t_ k_ => castTop (ef_rmEO m c1) k_) ?_
  refine own_go (A := s₁.setTop (mkF m 7 #[.val (.int (79 : Int32)), .val (.int c1)] [(.int (1 : Int32))])) (fun t_ k_ => ?_) ?_
  · show Steps p.tables e below (s₁.setTop (mkF m 0 #[.val (.int (79 : Int32)), .val (.int c1)] [])) t_
    refine XS.iloadN X0.here hx rfl (hb hby d8_0) rfl ?_
    show Steps p.tables e below (s₁.setTop (mkF m 1 #[.val (.int (79 : Int32)), .val (.int c1)] [(.int (79 : Int32))])) t_
    refine XS.bipush X0.here hx rfl (hb hby d8_1) ?_
    show Steps p.tables e below (s₁.setTop (mkF m 3 #[.val (.int (79 : Int32)), .val (.int c1)] [(.int (79 : Int32)), (.int (79 : Int32))])) t_
    refine XS.icmpNo X0.here hx rfl (hb hby d8_3) rfl (teq (by decide : (79 : Int32) = (79 : Int32))).2 ?_
    show Steps p.tables e below (s₁.setTop (mkF m 6 #[.val (.int (79 : Int32)), .val (.int c1)] [])) t_
    refine XS.iconst X0.here hx rfl (hb hby d8_6) ?_
    exact k_
  obtain ⟨fs1, hr1, hrun1, hended1, hW1, hsame1⟩ := X0.leave (v := some (.int (1 : Int32))) (fun h => by rw [Bd.returns] at h; cases h)
  refine ⟨_, _, ?_, hrun1, hended1, _, _, rfl, ?_, ⟨_, rfl⟩, hW1, hsame1.mono (by decide) (by decide)⟩
  · exact retN X0 hx (t := .boolean) Bd.returns (by simp) (hb hby d8_7) hr1
  · show Q_rmEO Z c1 h0 n0 _ s₁.heap _
    rw [e0]
    exact ⟨rfl, N0, rfl⟩
theorem d8_8 : decode method_2_code 8 = .ok (.iload_n 0, 1) := by decide +kernel
theorem d8_9 : decode method_2_code 9 = .ok (.bipush 83, 2) := by decide +kernel
theorem d8_11 : decode method_2_code 11 = .ok (.if_icmp .ne 21, 3) := by decide +kernel
theorem d8_32 : decode method_2_code 32 = .ok (.iload_n 0, 1) := by decide +kernel
theorem d8_33 : decode method_2_code 33 = .ok (.bipush 85, 2) := by decide +kernel
theorem d8_35 : decode method_2_code 35 = .ok (.if_icmp .ne 39, 3) := by decide +kernel
theorem d8_74 : decode method_2_code 74 = .ok (.iconst 0, 1) := by decide +kernel
theorem d8_75 : decode method_2_code 75 = .ok (.ireturn, 1) := by decide +kernel
theorem ef_rmEX (m : MethodId) (c0 : Int32) (c1 : Int32) : entryFrame m #[(.int c0), (.int c1)] 2 = mkF m 0 #[.val (.int c0), .val (.int c1)] [] := by first | (simp [entryFrame, mkF, argsToLocals, Value.category]; done) | rfl
def Q_rmEX (Z : State) (c0 : Int32) (c1 : Int32) (h0 : Heap) (n0 : Nat) (v_ : Option Value) (h_ : Heap) (L_ : List Loc) : Prop := v_ = some (.int (0 : Int32)) ∧ Fr n0 L_ ∧ h_ = h0
set_option maxRecDepth 65536 in
set_option maxHeartbeats 40000000 in
theorem rmEX (l : Launch) (Z : State) (a0 : Array Value) (hw : ∀ d ∈ tables_1, d.before a0 Z = true) (ws : List Jvm.Cond) (c0 : Int32) (c1 : Int32) (h0 : Heap) (n0 : Nat) (Z0 : n0 ≤ h0.size) (hc079 : ¬ (c0 = (79 : Int32))) (hc083 : ¬ (c0 = (83 : Int32))) (hc085 : ¬ (c0 = (85 : Int32))) :
    MetFree l own_y8 (head1 (Jvm.Cond.code own_y8 method_2_code 2 (some .boolean) :: ws) ({ frames := 0, cells := 0, slots := 0, locals := 0 } : Room)) (fun a_ U_ => a_ = #[(.int c0), (.int c1)] ∧ Z.Warmed39 U_.vm ∧ U_.heap = h0) (fun _ _ _ _ _ => True) (fun _ U_ o_ U2_ => ∃ v_ L_, o_ = .returned v_ ∧ Q_rmEX Z c0 c1 h0 n0 v_ U2_.heap L_ ∧ FrameEnd U_ o_ U2_ L_ ({ frames := 0, cells := 0, slots := 0, locals := 0 } : Room).cells ({ frames := 0, cells := 0, slots := 0, locals := 0 } : Room).slots) := by
  refine MetFree.of_bodySF (plainFor_of_name pn_5) hisR ?_
  intro p e s m args below meth c s₁ Bd hml0 hP hK
  obtain ⟨rfl, hZ, hh⟩ := hP
  have hx := Bd.exec
  have hby := Bd.bytes
  have hml : c.maxLocals = 2 := hml0
  have hown : s.vm.findClass "com/example/querent/querent/dicom/VrHasLongLengthPinLaw" = some m.cls := findClass_of_methodNamed Bd.named
  have hnm := (name_of_methodNamed Bd.named Bd.method).1
  have X0 : Stand p l e ({ frames := 0, cells := 0, slots := 0, locals := 0 } : Room) s m #[(.int c0), (.int c1)] below meth c s₁ [] 0 0 := Stand.of_body Bd
  have e0 : s₁.heap = h0 := by rw [← hh, Bd.state]; rfl
  have N0 := Fr.nil n0
  refine own_go (A := s₁.setTop (mkF m 0 #[.val (.int c0), .val (.int c1)] [])) (fun t_ k_ => castTop (ef_rmEX m c0 c1) k_) ?_
  refine own_go (A := s₁.setTop (mkF m 75 #[.val (.int c0), .val (.int c1)] [(.int (0 : Int32))])) (fun t_ k_ => ?_) ?_
  · show Steps p.tables e below (s₁.setTop (mkF m 0 #[.val (.int c0), .val (.int c1)] [])) t_
    refine XS.iloadN X0.here hx rfl (hb hby d8_0) rfl ?_
    show Steps p.tables e below (s₁.setTop (mkF m 1 #[.val (.int c0), .val (.int c1)] [(.int c0)])) t_
    refine XS.bipush X0.here hx rfl (hb hby d8_1) ?_
    show Steps p.tables e below (s₁.setTop (mkF m 3 #[.val (.int c0), .val (.int c1)] [(.int (79 : Int32)), (.int c0)])) t_
    refine XS.icmpYes X0.here hx rfl (pc0 := 3) (pc' := 8) rfl (hb hby d8_3) rfl (feq hc079).2 (by decide) (by decide) ?_
    show Steps p.tables e below (s₁.setTop (mkF m 8 #[.val (.int c0), .val (.int c1)] [])) t_
    refine XS.iloadN X0.here hx rfl (hb hby d8_8) rfl ?_
    show Steps p.tables e below (s₁.setTop (mkF m 9 #[.val (.int c0), .val (.int c1)] [(.int c0)])) t_
    refine XS.bipush X0.here hx rfl (hb hby d8_9) ?_
    show Steps p.tables e below (s₁.setTop (mkF m 11 #[.val (.int c0), .val (.int c1)] [(.int (83 : Int32)), (.int c0)])) t_
    refine XS.icmpYes X0.here hx rfl (pc0 := 11) (pc' := 32) rfl (hb hby d8_11) rfl (feq hc083).2 (by decide) (by decide) ?_
    show Steps p.tables e below (s₁.setTop (mkF m 32 #[.val (.int c0), .val (.int c1)] [])) t_
    refine XS.iloadN X0.here hx rfl (hb hby d8_32) rfl ?_
    show Steps p.tables e below (s₁.setTop (mkF m 33 #[.val (.int c0), .val (.int c1)] [(.int c0)])) t_
    refine XS.bipush X0.here hx rfl (hb hby d8_33) ?_
    show Steps p.tables e below (s₁.setTop (mkF m 35 #[.val (.int c0), .val (.int c1)] [(.int (85 : Int32)), (.int c0)])) t_
    refine XS.icmpYes X0.here hx rfl (pc0 := 35) (pc' := 74) rfl (hb hby d8_35) rfl (feq hc085).2 (by decide) (by decide) ?_
    show Steps p.tables e below (s₁.setTop (mkF m 74 #[.val (.int c0), .val (.int c1)] [])) t_
    refine XS.iconst X0.here hx rfl (hb hby d8_74) ?_
    exact k_
  obtain ⟨fs1, hr1, hrun1, hended1, hW1, hsame1⟩ := X0.leave (v := some (.int (0 : Int32))) (fun h => by rw [Bd.returns] at h; cases h)
  refine ⟨_, _, ?_, hrun1, hended1, _, _, rfl, ?_, ⟨_, rfl⟩, hW1, hsame1.mono (by decide) (by decide)⟩
  · exact retN X0 hx (t := .boolean) Bd.returns (by simp) (hb hby d8_75) hr1
  · show Q_rmEX Z c0 c1 h0 n0 _ s₁.heap _
    rw [e0]
    exact ⟨rfl, N0, rfl⟩
theorem d8_14 : decode method_2_code 14 = .ok (.iload_n 1, 1) := by decide +kernel
theorem d8_15 : decode method_2_code 15 = .ok (.bipush 81, 2) := by decide +kernel
theorem d8_17 : decode method_2_code 17 = .ok (.if_icmp .eq 9, 3) := by decide +kernel
theorem d8_26 : decode method_2_code 26 = .ok (.iconst 1, 1) := by decide +kernel
theorem d8_27 : decode method_2_code 27 = .ok (.goto 4, 3) := by decide +kernel
theorem d8_31 : decode method_2_code 31 = .ok (.ireturn, 1) := by decide +kernel
theorem ef_rmESQ (m : MethodId)  : entryFrame m #[(.int (83 : Int32)), (.int (81 : Int32))] 2 = mkF m 0 #[.val (.int (83 : Int32)), .val (.int (81 : Int32))] [] := by first | (simp [entryFrame, mkF, argsToLocals, Value.category]; done) | rfl
def Q_rmESQ (Z : State)  (h0 : Heap) (n0 : Nat) (v_ : Option Value) (h_ : Heap) (L_ : List Loc) : Prop := v_ = some (.int (1 : Int32)) ∧ Fr n0 L_ ∧ h_ = h0
set_option maxRecDepth 65536 in
set_option maxHeartbeats 40000000 in
theorem rmESQ (l : Launch) (Z : State) (a0 : Array Value) (hw : ∀ d ∈ tables_1, d.before a0 Z = true) (ws : List Jvm.Cond)  (h0 : Heap) (n0 : Nat) (Z0 : n0 ≤ h0.size)  :
    MetFree l own_y8 (head1 (Jvm.Cond.code own_y8 method_2_code 2 (some .boolean) :: ws) ({ frames := 0, cells := 0, slots := 0, locals := 0 } : Room)) (fun a_ U_ => a_ = #[(.int (83 : Int32)), (.int (81 : Int32))] ∧ Z.Warmed39 U_.vm ∧ U_.heap = h0) (fun _ _ _ _ _ => True) (fun _ U_ o_ U2_ => ∃ v_ L_, o_ = .returned v_ ∧ Q_rmESQ Z  h0 n0 v_ U2_.heap L_ ∧ FrameEnd U_ o_ U2_ L_ ({ frames := 0, cells := 0, slots := 0, locals := 0 } : Room).cells ({ frames := 0, cells := 0, slots := 0, locals := 0 } : Room).slots) := by
  refine MetFree.of_bodySF (plainFor_of_name pn_5) hisR ?_
  intro p e s m args below meth c s₁ Bd hml0 hP hK
  obtain ⟨rfl, hZ, hh⟩ := hP
  have hx := Bd.exec
  have hby := Bd.bytes
  have hml : c.maxLocals = 2 := hml0
  have hown : s.vm.findClass "com/example/querent/querent/dicom/VrHasLongLengthPinLaw" = some m.cls := findClass_of_methodNamed Bd.named
  have hnm := (name_of_methodNamed Bd.named Bd.method).1
  have X0 : Stand p l e ({ frames := 0, cells := 0, slots := 0, locals := 0 } : Room) s m #[(.int (83 : Int32)), (.int (81 : Int32))] below meth c s₁ [] 0 0 := Stand.of_body Bd
  have e0 : s₁.heap = h0 := by rw [← hh, Bd.state]; rfl
  have N0 := Fr.nil n0
  refine own_go (A := s₁.setTop (mkF m 0 #[.val (.int (83 : Int32)), .val (.int (81 : Int32))] [])) (fun t_ k_ => castTop (ef_rmESQ m ) k_) ?_
  refine own_go (A := s₁.setTop (mkF m 31 #[.val (.int (83 : Int32)), .val (.int (81 : Int32))] [(.int (1 : Int32))])) (fun t_ k_ => ?_) ?_
  · show Steps p.tables e below (s₁.setTop (mkF m 0 #[.val (.int (83 : Int32)), .val (.int (81 : Int32))] [])) t_
    refine XS.iloadN X0.here hx rfl (hb hby d8_0) rfl ?_
    show Steps p.tables e below (s₁.setTop (mkF m 1 #[.val (.int (83 : Int32)), .val (.int (81 : Int32))] [(.int (83 : Int32))])) t_
    refine XS.bipush X0.here hx rfl (hb hby d8_1) ?_
    show Steps p.tables e below (s₁.setTop (mkF m 3 #[.val (.int (83 : Int32)), .val (.int (81 : Int32))] [(.int (79 : Int32)), (.int (83 : Int32))])) t_
    refine XS.icmpYes X0.here hx rfl (pc0 := 3) (pc' := 8) rfl (hb hby d8_3) rfl (feq (by decide : ¬ ((83 : Int32) = (79 : Int32)))).2 (by decide) (by decide) ?_
    show Steps p.tables e below (s₁.setTop (mkF m 8 #[.val (.int (83 : Int32)), .val (.int (81 : Int32))] [])) t_
    refine XS.iloadN X0.here hx rfl (hb hby d8_8) rfl ?_
    show Steps p.tables e below (s₁.setTop (mkF m 9 #[.val (.int (83 : Int32)), .val (.int (81 : Int32))] [(.int (83 : Int32))])) t_
    refine XS.bipush X0.here hx rfl (hb hby d8_9) ?_
    show Steps p.tables e below (s₁.setTop (mkF m 11 #[.val (.int (83 : Int32)), .val (.int (81 : Int32))] [(.int (83 : Int32)), (.int (83 : Int32))])) t_
    refine XS.icmpNo X0.here hx rfl (hb hby d8_11) rfl (teq (by decide : (83 : Int32) = (83 : Int32))).2 ?_
    show Steps p.tables e below (s₁.setTop (mkF m 14 #[.val (.int (83 : Int32)), .val (.int (81 : Int32))] [])) t_
    refine XS.iloadN X0.here hx rfl (hb hby d8_14) rfl ?_
    show Steps p.tables e below (s₁.setTop (mkF m 15 #[.val (.int (83 : Int32)), .val (.int (81 : Int32))] [(.int (81 : Int32))])) t_
    refine XS.bipush X0.here hx rfl (hb hby d8_15) ?_
    show Steps p.tables e below (s₁.setTop (mkF m 17 #[.val (.int (83 : Int32)), .val (.int (81 : Int32))] [(.int (81 : Int32)), (.int (81 : Int32))])) t_
    refine XS.icmpYes X0.here hx rfl (pc0 := 17) (pc' := 26) rfl (hb hby d8_17) rfl (teq (by decide : (81 : Int32) = (81 : Int32))).1 (by decide) (by decide) ?_
    show Steps p.tables e below (s₁.setTop (mkF m 26 #[.val (.int (83 : Int32)), .val (.int (81 : Int32))] [])) t_
    refine XS.iconst X0.here hx rfl (hb hby d8_26) ?_
    show Steps p.tables e below (s₁.setTop (mkF m 27 #[.val (.int (83 : Int32)), .val (.int (81 : Int32))] [(.int (1 : Int32))])) t_
    refine XS.goto X0.here hx rfl (pc0 := 27) (pc' := 31) rfl (hb hby d8_27) (by decide) (by decide) ?_
    exact k_
  obtain ⟨fs1, hr1, hrun1, hended1, hW1, hsame1⟩ := X0.leave (v := some (.int (1 : Int32))) (fun h => by rw [Bd.returns] at h; cases h)
  refine ⟨_, _, ?_, hrun1, hended1, _, _, rfl, ?_, ⟨_, rfl⟩, hW1, hsame1.mono (by decide) (by decide)⟩
  · exact retN X0 hx (t := .boolean) Bd.returns (by simp) (hb hby d8_31) hr1
  · show Q_rmESQ Z  h0 n0 _ s₁.heap _
    rw [e0]
    exact ⟨rfl, N0, rfl⟩
theorem d8_20 : decode method_2_code 20 = .ok (.iload_n 1, 1) := by decide +kernel
theorem d8_21 : decode method_2_code 21 = .ok (.bipush 86, 2) := by decide +kernel
theorem d8_23 : decode method_2_code 23 = .ok (.if_icmp .ne 7, 3) := by decide +kernel
theorem ef_rmESV (m : MethodId)  : entryFrame m #[(.int (83 : Int32)), (.int (86 : Int32))] 2 = mkF m 0 #[.val (.int (83 : Int32)), .val (.int (86 : Int32))] [] := by first | (simp [entryFrame, mkF, argsToLocals, Value.category]; done) | rfl
def Q_rmESV (Z : State)  (h0 : Heap) (n0 : Nat) (v_ : Option Value) (h_ : Heap) (L_ : List Loc) : Prop := v_ = some (.int (1 : Int32)) ∧ Fr n0 L_ ∧ h_ = h0
set_option maxRecDepth 65536 in
set_option maxHeartbeats 40000000 in
theorem rmESV (l : Launch) (Z : State) (a0 : Array Value) (hw : ∀ d ∈ tables_1, d.before a0 Z = true) (ws : List Jvm.Cond)  (h0 : Heap) (n0 : Nat) (Z0 : n0 ≤ h0.size)  :
    MetFree l own_y8 (head1 (Jvm.Cond.code own_y8 method_2_code 2 (some .boolean) :: ws) ({ frames := 0, cells := 0, slots := 0, locals := 0 } : Room)) (fun a_ U_ => a_ = #[(.int (83 : Int32)), (.int (86 : Int32))] ∧ Z.Warmed39 U_.vm ∧ U_.heap = h0) (fun _ _ _ _ _ => True) (fun _ U_ o_ U2_ => ∃ v_ L_, o_ = .returned v_ ∧ Q_rmESV Z  h0 n0 v_ U2_.heap L_ ∧ FrameEnd U_ o_ U2_ L_ ({ frames := 0, cells := 0, slots := 0, locals := 0 } : Room).cells ({ frames := 0, cells := 0, slots := 0, locals := 0 } : Room).slots) := by
  refine MetFree.of_bodySF (plainFor_of_name pn_5) hisR ?_
  intro p e s m args below meth c s₁ Bd hml0 hP hK
  obtain ⟨rfl, hZ, hh⟩ := hP
  have hx := Bd.exec
  have hby := Bd.bytes
  have hml : c.maxLocals = 2 := hml0
  have hown : s.vm.findClass "com/example/querent/querent/dicom/VrHasLongLengthPinLaw" = some m.cls := findClass_of_methodNamed Bd.named
  have hnm := (name_of_methodNamed Bd.named Bd.method).1
  have X0 : Stand p l e ({ frames := 0, cells := 0, slots := 0, locals := 0 } : Room) s m #[(.int (83 : Int32)), (.int (86 : Int32))] below meth c s₁ [] 0 0 := Stand.of_body Bd
  have e0 : s₁.heap = h0 := by rw [← hh, Bd.state]; rfl
  have N0 := Fr.nil n0
  refine own_go (A := s₁.setTop (mkF m 0 #[.val (.int (83 : Int32)), .val (.int (86 : Int32))] [])) (fun t_ k_ => castTop (ef_rmESV m ) k_) ?_
  refine own_go (A := s₁.setTop (mkF m 31 #[.val (.int (83 : Int32)), .val (.int (86 : Int32))] [(.int (1 : Int32))])) (fun t_ k_ => ?_) ?_
  · show Steps p.tables e below (s₁.setTop (mkF m 0 #[.val (.int (83 : Int32)), .val (.int (86 : Int32))] [])) t_
    refine XS.iloadN X0.here hx rfl (hb hby d8_0) rfl ?_
    show Steps p.tables e below (s₁.setTop (mkF m 1 #[.val (.int (83 : Int32)), .val (.int (86 : Int32))] [(.int (83 : Int32))])) t_
    refine XS.bipush X0.here hx rfl (hb hby d8_1) ?_
    show Steps p.tables e below (s₁.setTop (mkF m 3 #[.val (.int (83 : Int32)), .val (.int (86 : Int32))] [(.int (79 : Int32)), (.int (83 : Int32))])) t_
    refine XS.icmpYes X0.here hx rfl (pc0 := 3) (pc' := 8) rfl (hb hby d8_3) rfl (feq (by decide : ¬ ((83 : Int32) = (79 : Int32)))).2 (by decide) (by decide) ?_
    show Steps p.tables e below (s₁.setTop (mkF m 8 #[.val (.int (83 : Int32)), .val (.int (86 : Int32))] [])) t_
    refine XS.iloadN X0.here hx rfl (hb hby d8_8) rfl ?_
    show Steps p.tables e below (s₁.setTop (mkF m 9 #[.val (.int (83 : Int32)), .val (.int (86 : Int32))] [(.int (83 : Int32))])) t_
    refine XS.bipush X0.here hx rfl (hb hby d8_9) ?_
    show Steps p.tables e below (s₁.setTop (mkF m 11 #[.val (.int (83 : Int32)), .val (.int (86 : Int32))] [(.int (83 : Int32)), (.int (83 : Int32))])) t_
    refine XS.icmpNo X0.here hx rfl (hb hby d8_11) rfl (teq (by decide : (83 : Int32) = (83 : Int32))).2 ?_
    show Steps p.tables e below (s₁.setTop (mkF m 14 #[.val (.int (83 : Int32)), .val (.int (86 : Int32))] [])) t_
    refine XS.iloadN X0.here hx rfl (hb hby d8_14) rfl ?_
    show Steps p.tables e below (s₁.setTop (mkF m 15 #[.val (.int (83 : Int32)), .val (.int (86 : Int32))] [(.int (86 : Int32))])) t_
    refine XS.bipush X0.here hx rfl (hb hby d8_15) ?_
    show Steps p.tables e below (s₁.setTop (mkF m 17 #[.val (.int (83 : Int32)), .val (.int (86 : Int32))] [(.int (81 : Int32)), (.int (86 : Int32))])) t_
    refine XS.icmpNo X0.here hx rfl (hb hby d8_17) rfl (feq (by decide : ¬ ((86 : Int32) = (81 : Int32)))).1 ?_
    show Steps p.tables e below (s₁.setTop (mkF m 20 #[.val (.int (83 : Int32)), .val (.int (86 : Int32))] [])) t_
    refine XS.iloadN X0.here hx rfl (hb hby d8_20) rfl ?_
    show Steps p.tables e below (s₁.setTop (mkF m 21 #[.val (.int (83 : Int32)), .val (.int (86 : Int32))] [(.int (86 : Int32))])) t_
    refine XS.bipush X0.here hx rfl (hb hby d8_21) ?_
    show Steps p.tables e below (s₁.setTop (mkF m 23 #[.val (.int (83 : Int32)), .val (.int (86 : Int32))] [(.int (86 : Int32)), (.int (86 : Int32))])) t_
    refine XS.icmpNo X0.here hx rfl (hb hby d8_23) rfl (teq (by decide : (86 : Int32) = (86 : Int32))).2 ?_
    show Steps p.tables e below (s₁.setTop (mkF m 26 #[.val (.int (83 : Int32)), .val (.int (86 : Int32))] [])) t_
    refine XS.iconst X0.here hx rfl (hb hby d8_26) ?_
    show Steps p.tables e below (s₁.setTop (mkF m 27 #[.val (.int (83 : Int32)), .val (.int (86 : Int32))] [(.int (1 : Int32))])) t_
    refine XS.goto X0.here hx rfl (pc0 := 27) (pc' := 31) rfl (hb hby d8_27) (by decide) (by decide) ?_
    exact k_
  obtain ⟨fs1, hr1, hrun1, hended1, hW1, hsame1⟩ := X0.leave (v := some (.int (1 : Int32))) (fun h => by rw [Bd.returns] at h; cases h)
  refine ⟨_, _, ?_, hrun1, hended1, _, _, rfl, ?_, ⟨_, rfl⟩, hW1, hsame1.mono (by decide) (by decide)⟩
  · exact retN X0 hx (t := .boolean) Bd.returns (by simp) (hb hby d8_31) hr1
  · show Q_rmESV Z  h0 n0 _ s₁.heap _
    rw [e0]
    exact ⟨rfl, N0, rfl⟩
theorem d8_30 : decode method_2_code 30 = .ok (.iconst 0, 1) := by decide +kernel
theorem ef_rmES (m : MethodId) (c1 : Int32) : entryFrame m #[(.int (83 : Int32)), (.int c1)] 2 = mkF m 0 #[.val (.int (83 : Int32)), .val (.int c1)] [] := by first | (simp [entryFrame, mkF, argsToLocals, Value.category]; done) | rfl
def Q_rmES (Z : State) (c1 : Int32) (h0 : Heap) (n0 : Nat) (v_ : Option Value) (h_ : Heap) (L_ : List Loc) : Prop := v_ = some (.int (0 : Int32)) ∧ Fr n0 L_ ∧ h_ = h0
set_option maxRecDepth 65536 in
set_option maxHeartbeats 40000000 in
theorem rmES (l : Launch) (Z : State) (a0 : Array Value) (hw : ∀ d ∈ tables_1, d.before a0 Z = true) (ws : List Jvm.Cond) (c1 : Int32) (h0 : Heap) (n0 : Nat) (Z0 : n0 ≤ h0.size) (hc181 : ¬ (c1 = (81 : Int32))) (hc186 : ¬ (c1 = (86 : Int32))) :
    MetFree l own_y8 (head1 (Jvm.Cond.code own_y8 method_2_code 2 (some .boolean) :: ws) ({ frames := 0, cells := 0, slots := 0, locals := 0 } : Room)) (fun a_ U_ => a_ = #[(.int (83 : Int32)), (.int c1)] ∧ Z.Warmed39 U_.vm ∧ U_.heap = h0) (fun _ _ _ _ _ => True) (fun _ U_ o_ U2_ => ∃ v_ L_, o_ = .returned v_ ∧ Q_rmES Z c1 h0 n0 v_ U2_.heap L_ ∧ FrameEnd U_ o_ U2_ L_ ({ frames := 0, cells := 0, slots := 0, locals := 0 } : Room).cells ({ frames := 0, cells := 0, slots := 0, locals := 0 } : Room).slots) := by
  refine MetFree.of_bodySF (plainFor_of_name pn_5) hisR ?_
  intro p e s m args below meth c s₁ Bd hml0 hP hK
  obtain ⟨rfl, hZ, hh⟩ := hP
  have hx := Bd.exec
  have hby := Bd.bytes
  have hml : c.maxLocals = 2 := hml0
  have hown : s.vm.findClass "com/example/querent/querent/dicom/VrHasLongLengthPinLaw" = some m.cls := findClass_of_methodNamed Bd.named
  have hnm := (name_of_methodNamed Bd.named Bd.method).1
  have X0 : Stand p l e ({ frames := 0, cells := 0, slots := 0, locals := 0 } : Room) s m #[(.int (83 : Int32)), (.int c1)] below meth c s₁ [] 0 0 := Stand.of_body Bd
  have e0 : s₁.heap = h0 := by rw [← hh, Bd.state]; rfl
  have N0 := Fr.nil n0
  refine own_go (A := s₁.setTop (mkF m 0 #[.val (.int (83 : Int32)), .val (.int c1)] [])) (fun t_ k_ => castTop (ef_rmES m c1) k_) ?_
  refine own_go (A := s₁.setTop (mkF m 31 #[.val (.int (83 : Int32)), .val (.int c1)] [(.int (0 : Int32))])) (fun t_ k_ => ?_) ?_
  · show Steps p.tables e below (s₁.setTop (mkF m 0 #[.val (.int (83 : Int32)), .val (.int c1)] [])) t_
    refine XS.iloadN X0.here hx rfl (hb hby d8_0) rfl ?_
    show Steps p.tables e below (s₁.setTop (mkF m 1 #[.val (.int (83 : Int32)), .val (.int c1)] [(.int (83 : Int32))])) t_
    refine XS.bipush X0.here hx rfl (hb hby d8_1) ?_
    show Steps p.tables e below (s₁.setTop (mkF m 3 #[.val (.int (83 : Int32)), .val (.int c1)] [(.int (79 : Int32)), (.int (83 : Int32))])) t_
    refine XS.icmpYes X0.here hx rfl (pc0 := 3) (pc' := 8) rfl (hb hby d8_3) rfl (feq (by decide : ¬ ((83 : Int32) = (79 : Int32)))).2 (by decide) (by decide) ?_
    show Steps p.tables e below (s₁.setTop (mkF m 8 #[.val (.int (83 : Int32)), .val (.int c1)] [])) t_
    refine XS.iloadN X0.here hx rfl (hb hby d8_8) rfl ?_
    show Steps p.tables e below (s₁.setTop (mkF m 9 #[.val (.int (83 : Int32)), .val (.int c1)] [(.int (83 : Int32))])) t_
    refine XS.bipush X0.here hx rfl (hb hby d8_9) ?_
    show Steps p.tables e below (s₁.setTop (mkF m 11 #[.val (.int (83 : Int32)), .val (.int c1)] [(.int (83 : Int32)), (.int (83 : Int32))])) t_
    refine XS.icmpNo X0.here hx rfl (hb hby d8_11) rfl (teq (by decide : (83 : Int32) = (83 : Int32))).2 ?_
    show Steps p.tables e below (s₁.setTop (mkF m 14 #[.val (.int (83 : Int32)), .val (.int c1)] [])) t_
    refine XS.iloadN X0.here hx rfl (hb hby d8_14) rfl ?_
    show Steps p.tables e below (s₁.setTop (mkF m 15 #[.val (.int (83 : Int32)), .val (.int c1)] [(.int c1)])) t_
    refine XS.bipush X0.here hx rfl (hb hby d8_15) ?_
    show Steps p.tables e below (s₁.setTop (mkF m 17 #[.val (.int (83 : Int32)), .val (.int c1)] [(.int (81 : Int32)), (.int c1)])) t_
    refine XS.icmpNo X0.here hx rfl (hb hby d8_17) rfl (feq hc181).1 ?_
    show Steps p.tables e below (s₁.setTop (mkF m 20 #[.val (.int (83 : Int32)), .val (.int c1)] [])) t_
    refine XS.iloadN X0.here hx rfl (hb hby d8_20) rfl ?_
    show Steps p.tables e below (s₁.setTop (mkF m 21 #[.val (.int (83 : Int32)), .val (.int c1)] [(.int c1)])) t_
    refine XS.bipush X0.here hx rfl (hb hby d8_21) ?_
    show Steps p.tables e below (s₁.setTop (mkF m 23 #[.val (.int (83 : Int32)), .val (.int c1)] [(.int (86 : Int32)), (.int c1)])) t_
    refine XS.icmpYes X0.here hx rfl (pc0 := 23) (pc' := 30) rfl (hb hby d8_23) rfl (feq hc186).2 (by decide) (by decide) ?_
    show Steps p.tables e below (s₁.setTop (mkF m 30 #[.val (.int (83 : Int32)), .val (.int c1)] [])) t_
    refine XS.iconst X0.here hx rfl (hb hby d8_30) ?_
    exact k_
  obtain ⟨fs1, hr1, hrun1, hended1, hW1, hsame1⟩ := X0.leave (v := some (.int (0 : Int32))) (fun h => by rw [Bd.returns] at h; cases h)
  refine ⟨_, _, ?_, hrun1, hended1, _, _, rfl, ?_, ⟨_, rfl⟩, hW1, hsame1.mono (by decide) (by decide)⟩
  · exact retN X0 hx (t := .boolean) Bd.returns (by simp) (hb hby d8_31) hr1
  · show Q_rmES Z c1 h0 n0 _ s₁.heap _
    rw [e0]
    exact ⟨rfl, N0, rfl⟩
theorem d8_38 : decode method_2_code 38 = .ok (.iload_n 1, 1) := by decide +kernel
theorem d8_39 : decode method_2_code 39 = .ok (.bipush 67, 2) := by decide +kernel
theorem d8_41 : decode method_2_code 41 = .ok (.if_icmp .eq 27, 3) := by decide +kernel
theorem d8_68 : decode method_2_code 68 = .ok (.iconst 1, 1) := by decide +kernel
theorem d8_69 : decode method_2_code 69 = .ok (.goto 4, 3) := by decide +kernel
theorem d8_73 : decode method_2_code 73 = .ok (.ireturn, 1) := by decide +kernel
theorem ef_rmEUC (m : MethodId)  : entryFrame m #[(.int (85 : Int32)), (.int (67 : Int32))] 2 = mkF m 0 #[.val (.int (85 : Int32)), .val (.int (67 : Int32))] [] := by first | (simp [entryFrame, mkF, argsToLocals, Value.category]; done) | rfl
def Q_rmEUC (Z : State)  (h0 : Heap) (n0 : Nat) (v_ : Option Value) (h_ : Heap) (L_ : List Loc) : Prop := v_ = some (.int (1 : Int32)) ∧ Fr n0 L_ ∧ h_ = h0
set_option maxRecDepth 65536 in
set_option maxHeartbeats 40000000 in
theorem rmEUC (l : Launch) (Z : State) (a0 : Array Value) (hw : ∀ d ∈ tables_1, d.before a0 Z = true) (ws : List Jvm.Cond)  (h0 : Heap) (n0 : Nat) (Z0 : n0 ≤ h0.size)  :
    MetFree l own_y8 (head1 (Jvm.Cond.code own_y8 method_2_code 2 (some .boolean) :: ws) ({ frames := 0, cells := 0, slots := 0, locals := 0 } : Room)) (fun a_ U_ => a_ = #[(.int (85 : Int32)), (.int (67 : Int32))] ∧ Z.Warmed39 U_.vm ∧ U_.heap = h0) (fun _ _ _ _ _ => True) (fun _ U_ o_ U2_ => ∃ v_ L_, o_ = .returned v_ ∧ Q_rmEUC Z  h0 n0 v_ U2_.heap L_ ∧ FrameEnd U_ o_ U2_ L_ ({ frames := 0, cells := 0, slots := 0, locals := 0 } : Room).cells ({ frames := 0, cells := 0, slots := 0, locals := 0 } : Room).slots) := by
  refine MetFree.of_bodySF (plainFor_of_name pn_5) hisR ?_
  intro p e s m args below meth c s₁ Bd hml0 hP hK
  obtain ⟨rfl, hZ, hh⟩ := hP
  have hx := Bd.exec
  have hby := Bd.bytes
  have hml : c.maxLocals = 2 := hml0
  have hown : s.vm.findClass "com/example/querent/querent/dicom/VrHasLongLengthPinLaw" = some m.cls := findClass_of_methodNamed Bd.named
  have hnm := (name_of_methodNamed Bd.named Bd.method).1
  have X0 : Stand p l e ({ frames := 0, cells := 0, slots := 0, locals := 0 } : Room) s m #[(.int (85 : Int32)), (.int (67 : Int32))] below meth c s₁ [] 0 0 := Stand.of_body Bd
  have e0 : s₁.heap = h0 := by rw [← hh, Bd.state]; rfl
  have N0 := Fr.nil n0
  refine own_go (A := s₁.setTop (mkF m 0 #[.val (.int (85 : Int32)), .val (.int (67 : Int32))] [])) (fun t_ k_ => castTop (ef_rmEUC m ) k_) ?_
  refine own_go (A := s₁.setTop (mkF m 73 #[.val (.int (85 : Int32)), .val (.int (67 : Int32))] [(.int (1 : Int32))])) (fun t_ k_ => ?_) ?_
  · show Steps p.tables e below (s₁.setTop (mkF m 0 #[.val (.int (85 : Int32)), .val (.int (67 : Int32))] [])) t_
    refine XS.iloadN X0.here hx rfl (hb hby d8_0) rfl ?_
    show Steps p.tables e below (s₁.setTop (mkF m 1 #[.val (.int (85 : Int32)), .val (.int (67 : Int32))] [(.int (85 : Int32))])) t_
    refine XS.bipush X0.here hx rfl (hb hby d8_1) ?_
    show Steps p.tables e below (s₁.setTop (mkF m 3 #[.val (.int (85 : Int32)), .val (.int (67 : Int32))] [(.int (79 : Int32)), (.int (85 : Int32))])) t_
    refine XS.icmpYes X0.here hx rfl (pc0 := 3) (pc' := 8) rfl (hb hby d8_3) rfl (feq (by decide : ¬ ((85 : Int32) = (79 : Int32)))).2 (by decide) (by decide) ?_
    show Steps p.tables e below (s₁.setTop (mkF m 8 #[.val (.int (85 : Int32)), .val (.int (67 : Int32))] [])) t_
    refine XS.iloadN X0.here hx rfl (hb hby d8_8) rfl ?_
    show Steps p.tables e below (s₁.setTop (mkF m 9 #[.val (.int (85 : Int32)), .val (.int (67 : Int32))] [(.int (85 : Int32))])) t_
    refine XS.bipush X0.here hx rfl (hb hby d8_9) ?_
    show Steps p.tables e below (s₁.setTop (mkF m 11 #[.val (.int (85 : Int32)), .val (.int (67 : Int32))] [(.int (83 : Int32)), (.int (85 : Int32))])) t_
    refine XS.icmpYes X0.here hx rfl (pc0 := 11) (pc' := 32) rfl (hb hby d8_11) rfl (feq (by decide : ¬ ((85 : Int32) = (83 : Int32)))).2 (by decide) (by decide) ?_
    show Steps p.tables e below (s₁.setTop (mkF m 32 #[.val (.int (85 : Int32)), .val (.int (67 : Int32))] [])) t_
    refine XS.iloadN X0.here hx rfl (hb hby d8_32) rfl ?_
    show Steps p.tables e below (s₁.setTop (mkF m 33 #[.val (.int (85 : Int32)), .val (.int (67 : Int32))] [(.int (85 : Int32))])) t_
    refine XS.bipush X0.here hx rfl (hb hby d8_33) ?_
    show Steps p.tables e below (s₁.setTop (mkF m 35 #[.val (.int (85 : Int32)), .val (.int (67 : Int32))] [(.int (85 : Int32)), (.int (85 : Int32))])) t_
    refine XS.icmpNo X0.here hx rfl (hb hby d8_35) rfl (teq (by decide : (85 : Int32) = (85 : Int32))).2 ?_
    show Steps p.tables e below (s₁.setTop (mkF m 38 #[.val (.int (85 : Int32)), .val (.int (67 : Int32))] [])) t_
    refine XS.iloadN X0.here hx rfl (hb hby d8_38) rfl ?_
    show Steps p.tables e below (s₁.setTop (mkF m 39 #[.val (.int (85 : Int32)), .val (.int (67 : Int32))] [(.int (67 : Int32))])) t_
    refine XS.bipush X0.here hx rfl (hb hby d8_39) ?_
    show Steps p.tables e below (s₁.setTop (mkF m 41 #[.val (.int (85 : Int32)), .val (.int (67 : Int32))] [(.int (67 : Int32)), (.int (67 : Int32))])) t_
    refine XS.icmpYes X0.here hx rfl (pc0 := 41) (pc' := 68) rfl (hb hby d8_41) rfl (teq (by decide : (67 : Int32) = (67 : Int32))).1 (by decide) (by decide) ?_
    show Steps p.tables e below (s₁.setTop (mkF m 68 #[.val (.int (85 : Int32)), .val (.int (67 : Int32))] [])) t_
    refine XS.iconst X0.here hx rfl (hb hby d8_68) ?_
    show Steps p.tables e below (s₁.setTop (mkF m 69 #[.val (.int (85 : Int32)), .val (.int (67 : Int32))] [(.int (1 : Int32))])) t_
    refine XS.goto X0.here hx rfl (pc0 := 69) (pc' := 73) rfl (hb hby d8_69) (by decide) (by decide) ?_
    exact k_
  obtain ⟨fs1, hr1, hrun1, hended1, hW1, hsame1⟩ := X0.leave (v := some (.int (1 : Int32))) (fun h => by rw [Bd.returns] at h; cases h)
  refine ⟨_, _, ?_, hrun1, hended1, _, _, rfl, ?_, ⟨_, rfl⟩, hW1, hsame1.mono (by decide) (by decide)⟩
  · exact retN X0 hx (t := .boolean) Bd.returns (by simp) (hb hby d8_73) hr1
  · show Q_rmEUC Z  h0 n0 _ s₁.heap _
    rw [e0]
    exact ⟨rfl, N0, rfl⟩
theorem d8_44 : decode method_2_code 44 = .ok (.iload_n 1, 1) := by decide +kernel
theorem d8_45 : decode method_2_code 45 = .ok (.bipush 78, 2) := by decide +kernel
theorem d8_47 : decode method_2_code 47 = .ok (.if_icmp .eq 21, 3) := by decide +kernel
theorem ef_rmEUN (m : MethodId)  : entryFrame m #[(.int (85 : Int32)), (.int (78 : Int32))] 2 = mkF m 0 #[.val (.int (85 : Int32)), .val (.int (78 : Int32))] [] := by first | (simp [entryFrame, mkF, argsToLocals, Value.category]; done) | rfl
def Q_rmEUN (Z : State)  (h0 : Heap) (n0 : Nat) (v_ : Option Value) (h_ : Heap) (L_ : List Loc) : Prop := v_ = some (.int (1 : Int32)) ∧ Fr n0 L_ ∧ h_ = h0
set_option maxRecDepth 65536 in
set_option maxHeartbeats 40000000 in
theorem rmEUN (l : Launch) (Z : State) (a0 : Array Value) (hw : ∀ d ∈ tables_1, d.before a0 Z = true) (ws : List Jvm.Cond)  (h0 : Heap) (n0 : Nat) (Z0 : n0 ≤ h0.size)  :
    MetFree l own_y8 (head1 (Jvm.Cond.code own_y8 method_2_code 2 (some .boolean) :: ws) ({ frames := 0, cells := 0, slots := 0, locals := 0 } : Room)) (fun a_ U_ => a_ = #[(.int (85 : Int32)), (.int (78 : Int32))] ∧ Z.Warmed39 U_.vm ∧ U_.heap = h0) (fun _ _ _ _ _ => True) (fun _ U_ o_ U2_ => ∃ v_ L_, o_ = .returned v_ ∧ Q_rmEUN Z  h0 n0 v_ U2_.heap L_ ∧ FrameEnd U_ o_ U2_ L_ ({ frames := 0, cells := 0, slots := 0, locals := 0 } : Room).cells ({ frames := 0, cells := 0, slots := 0, locals := 0 } : Room).slots) := by
  refine MetFree.of_bodySF (plainFor_of_name pn_5) hisR ?_
  intro p e s m args below meth c s₁ Bd hml0 hP hK
  obtain ⟨rfl, hZ, hh⟩ := hP
  have hx := Bd.exec
  have hby := Bd.bytes
  have hml : c.maxLocals = 2 := hml0
  have hown : s.vm.findClass "com/example/querent/querent/dicom/VrHasLongLengthPinLaw" = some m.cls := findClass_of_methodNamed Bd.named
  have hnm := (name_of_methodNamed Bd.named Bd.method).1
  have X0 : Stand p l e ({ frames := 0, cells := 0, slots := 0, locals := 0 } : Room) s m #[(.int (85 : Int32)), (.int (78 : Int32))] below meth c s₁ [] 0 0 := Stand.of_body Bd
  have e0 : s₁.heap = h0 := by rw [← hh, Bd.state]; rfl
  have N0 := Fr.nil n0
  refine own_go (A := s₁.setTop (mkF m 0 #[.val (.int (85 : Int32)), .val (.int (78 : Int32))] [])) (fun t_ k_ => castTop (ef_rmEUN m ) k_) ?_
  refine own_go (A := s₁.setTop (mkF m 73 #[.val (.int (85 : Int32)), .val (.int (78 : Int32))] [(.int (1 : Int32))])) (fun t_ k_ => ?_) ?_
  · show Steps p.tables e below (s₁.setTop (mkF m 0 #[.val (.int (85 : Int32)), .val (.int (78 : Int32))] [])) t_
    refine XS.iloadN X0.here hx rfl (hb hby d8_0) rfl ?_
    show Steps p.tables e below (s₁.setTop (mkF m 1 #[.val (.int (85 : Int32)), .val (.int (78 : Int32))] [(.int (85 : Int32))])) t_
    refine XS.bipush X0.here hx rfl (hb hby d8_1) ?_
    show Steps p.tables e below (s₁.setTop (mkF m 3 #[.val (.int (85 : Int32)), .val (.int (78 : Int32))] [(.int (79 : Int32)), (.int (85 : Int32))])) t_
    refine XS.icmpYes X0.here hx rfl (pc0 := 3) (pc' := 8) rfl (hb hby d8_3) rfl (feq (by decide : ¬ ((85 : Int32) = (79 : Int32)))).2 (by decide) (by decide) ?_
    show Steps p.tables e below (s₁.setTop (mkF m 8 #[.val (.int (85 : Int32)), .val (.int (78 : Int32))] [])) t_
    refine XS.iloadN X0.here hx rfl (hb hby d8_8) rfl ?_
    show Steps p.tables e below (s₁.setTop (mkF m 9 #[.val (.int (85 : Int32)), .val (.int (78 : Int32))] [(.int (85 : Int32))])) t_
    refine XS.bipush X0.here hx rfl (hb hby d8_9) ?_
    show Steps p.tables e below (s₁.setTop (mkF m 11 #[.val (.int (85 : Int32)), .val (.int (78 : Int32))] [(.int (83 : Int32)), (.int (85 : Int32))])) t_
    refine XS.icmpYes X0.here hx rfl (pc0 := 11) (pc' := 32) rfl (hb hby d8_11) rfl (feq (by decide : ¬ ((85 : Int32) = (83 : Int32)))).2 (by decide) (by decide) ?_
    show Steps p.tables e below (s₁.setTop (mkF m 32 #[.val (.int (85 : Int32)), .val (.int (78 : Int32))] [])) t_
    refine XS.iloadN X0.here hx rfl (hb hby d8_32) rfl ?_
    show Steps p.tables e below (s₁.setTop (mkF m 33 #[.val (.int (85 : Int32)), .val (.int (78 : Int32))] [(.int (85 : Int32))])) t_
    refine XS.bipush X0.here hx rfl (hb hby d8_33) ?_
    show Steps p.tables e below (s₁.setTop (mkF m 35 #[.val (.int (85 : Int32)), .val (.int (78 : Int32))] [(.int (85 : Int32)), (.int (85 : Int32))])) t_
    refine XS.icmpNo X0.here hx rfl (hb hby d8_35) rfl (teq (by decide : (85 : Int32) = (85 : Int32))).2 ?_
    show Steps p.tables e below (s₁.setTop (mkF m 38 #[.val (.int (85 : Int32)), .val (.int (78 : Int32))] [])) t_
    refine XS.iloadN X0.here hx rfl (hb hby d8_38) rfl ?_
    show Steps p.tables e below (s₁.setTop (mkF m 39 #[.val (.int (85 : Int32)), .val (.int (78 : Int32))] [(.int (78 : Int32))])) t_
    refine XS.bipush X0.here hx rfl (hb hby d8_39) ?_
    show Steps p.tables e below (s₁.setTop (mkF m 41 #[.val (.int (85 : Int32)), .val (.int (78 : Int32))] [(.int (67 : Int32)), (.int (78 : Int32))])) t_
    refine XS.icmpNo X0.here hx rfl (hb hby d8_41) rfl (feq (by decide : ¬ ((78 : Int32) = (67 : Int32)))).1 ?_
    show Steps p.tables e below (s₁.setTop (mkF m 44 #[.val (.int (85 : Int32)), .val (.int (78 : Int32))] [])) t_
    refine XS.iloadN X0.here hx rfl (hb hby d8_44) rfl ?_
    show Steps p.tables e below (s₁.setTop (mkF m 45 #[.val (.int (85 : Int32)), .val (.int (78 : Int32))] [(.int (78 : Int32))])) t_
    refine XS.bipush X0.here hx rfl (hb hby d8_45) ?_
    show Steps p.tables e below (s₁.setTop (mkF m 47 #[.val (.int (85 : Int32)), .val (.int (78 : Int32))] [(.int (78 : Int32)), (.int (78 : Int32))])) t_
    refine XS.icmpYes X0.here hx rfl (pc0 := 47) (pc' := 68) rfl (hb hby d8_47) rfl (teq (by decide : (78 : Int32) = (78 : Int32))).1 (by decide) (by decide) ?_
    show Steps p.tables e below (s₁.setTop (mkF m 68 #[.val (.int (85 : Int32)), .val (.int (78 : Int32))] [])) t_
    refine XS.iconst X0.here hx rfl (hb hby d8_68) ?_
    show Steps p.tables e below (s₁.setTop (mkF m 69 #[.val (.int (85 : Int32)), .val (.int (78 : Int32))] [(.int (1 : Int32))])) t_
    refine XS.goto X0.here hx rfl (pc0 := 69) (pc' := 73) rfl (hb hby d8_69) (by decide) (by decide) ?_
    exact k_
  obtain ⟨fs1, hr1, hrun1, hended1, hW1, hsame1⟩ := X0.leave (v := some (.int (1 : Int32))) (fun h => by rw [Bd.returns] at h; cases h)
  refine ⟨_, _, ?_, hrun1, hended1, _, _, rfl, ?_, ⟨_, rfl⟩, hW1, hsame1.mono (by decide) (by decide)⟩
  · exact retN X0 hx (t := .boolean) Bd.returns (by simp) (hb hby d8_73) hr1
  · show Q_rmEUN Z  h0 n0 _ s₁.heap _
    rw [e0]
    exact ⟨rfl, N0, rfl⟩
theorem d8_50 : decode method_2_code 50 = .ok (.iload_n 1, 1) := by decide +kernel
theorem d8_51 : decode method_2_code 51 = .ok (.bipush 82, 2) := by decide +kernel
theorem d8_53 : decode method_2_code 53 = .ok (.if_icmp .eq 15, 3) := by decide +kernel
theorem ef_rmEUR (m : MethodId)  : entryFrame m #[(.int (85 : Int32)), (.int (82 : Int32))] 2 = mkF m 0 #[.val (.int (85 : Int32)), .val (.int (82 : Int32))] [] := by first | (simp [entryFrame, mkF, argsToLocals, Value.category]; done) | rfl
def Q_rmEUR (Z : State)  (h0 : Heap) (n0 : Nat) (v_ : Option Value) (h_ : Heap) (L_ : List Loc) : Prop := v_ = some (.int (1 : Int32)) ∧ Fr n0 L_ ∧ h_ = h0
set_option maxRecDepth 65536 in
set_option maxHeartbeats 40000000 in
theorem rmEUR (l : Launch) (Z : State) (a0 : Array Value) (hw : ∀ d ∈ tables_1, d.before a0 Z = true) (ws : List Jvm.Cond)  (h0 : Heap) (n0 : Nat) (Z0 : n0 ≤ h0.size)  :
    MetFree l own_y8 (head1 (Jvm.Cond.code own_y8 method_2_code 2 (some .boolean) :: ws) ({ frames := 0, cells := 0, slots := 0, locals := 0 } : Room)) (fun a_ U_ => a_ = #[(.int (85 : Int32)), (.int (82 : Int32))] ∧ Z.Warmed39 U_.vm ∧ U_.heap = h0) (fun _ _ _ _ _ => True) (fun _ U_ o_ U2_ => ∃ v_ L_, o_ = .returned v_ ∧ Q_rmEUR Z  h0 n0 v_ U2_.heap L_ ∧ FrameEnd U_ o_ U2_ L_ ({ frames := 0, cells := 0, slots := 0, locals := 0 } : Room).cells ({ frames := 0, cells := 0, slots := 0, locals := 0 } : Room).slots) := by
  refine MetFree.of_bodySF (plainFor_of_name pn_5) hisR ?_
  intro p e s m args below meth c s₁ Bd hml0 hP hK
  obtain ⟨rfl, hZ, hh⟩ := hP
  have hx := Bd.exec
  have hby := Bd.bytes
  have hml : c.maxLocals = 2 := hml0
  have hown : s.vm.findClass "com/example/querent/querent/dicom/VrHasLongLengthPinLaw" = some m.cls := findClass_of_methodNamed Bd.named
  have hnm := (name_of_methodNamed Bd.named Bd.method).1
  have X0 : Stand p l e ({ frames := 0, cells := 0, slots := 0, locals := 0 } : Room) s m #[(.int (85 : Int32)), (.int (82 : Int32))] below meth c s₁ [] 0 0 := Stand.of_body Bd
  have e0 : s₁.heap = h0 := by rw [← hh, Bd.state]; rfl
  have N0 := Fr.nil n0
  refine own_go (A := s₁.setTop (mkF m 0 #[.val (.int (85 : Int32)), .val (.int (82 : Int32))] [])) (fun t_ k_ => castTop (ef_rmEUR m ) k_) ?_
  refine own_go (A := s₁.setTop (mkF m 73 #[.val (.int (85 : Int32)), .val (.int (82 : Int32))] [(.int (1 : Int32))])) (fun t_ k_ => ?_) ?_
  · show Steps p.tables e below (s₁.setTop (mkF m 0 #[.val (.int (85 : Int32)), .val (.int (82 : Int32))] [])) t_
    refine XS.iloadN X0.here hx rfl (hb hby d8_0) rfl ?_
    show Steps p.tables e below (s₁.setTop (mkF m 1 #[.val (.int (85 : Int32)), .val (.int (82 : Int32))] [(.int (85 : Int32))])) t_
    refine XS.bipush X0.here hx rfl (hb hby d8_1) ?_
    show Steps p.tables e below (s₁.setTop (mkF m 3 #[.val (.int (85 : Int32)), .val (.int (82 : Int32))] [(.int (79 : Int32)), (.int (85 : Int32))])) t_
    refine XS.icmpYes X0.here hx rfl (pc0 := 3) (pc' := 8) rfl (hb hby d8_3) rfl (feq (by decide : ¬ ((85 : Int32) = (79 : Int32)))).2 (by decide) (by decide) ?_
    show Steps p.tables e below (s₁.setTop (mkF m 8 #[.val (.int (85 : Int32)), .val (.int (82 : Int32))] [])) t_
    refine XS.iloadN X0.here hx rfl (hb hby d8_8) rfl ?_
    show Steps p.tables e below (s₁.setTop (mkF m 9 #[.val (.int (85 : Int32)), .val (.int (82 : Int32))] [(.int (85 : Int32))])) t_
    refine XS.bipush X0.here hx rfl (hb hby d8_9) ?_
    show Steps p.tables e below (s₁.setTop (mkF m 11 #[.val (.int (85 : Int32)), .val (.int (82 : Int32))] [(.int (83 : Int32)), (.int (85 : Int32))])) t_
    refine XS.icmpYes X0.here hx rfl (pc0 := 11) (pc' := 32) rfl (hb hby d8_11) rfl (feq (by decide : ¬ ((85 : Int32) = (83 : Int32)))).2 (by decide) (by decide) ?_
    show Steps p.tables e below (s₁.setTop (mkF m 32 #[.val (.int (85 : Int32)), .val (.int (82 : Int32))] [])) t_
    refine XS.iloadN X0.here hx rfl (hb hby d8_32) rfl ?_
    show Steps p.tables e below (s₁.setTop (mkF m 33 #[.val (.int (85 : Int32)), .val (.int (82 : Int32))] [(.int (85 : Int32))])) t_
    refine XS.bipush X0.here hx rfl (hb hby d8_33) ?_
    show Steps p.tables e below (s₁.setTop (mkF m 35 #[.val (.int (85 : Int32)), .val (.int (82 : Int32))] [(.int (85 : Int32)), (.int (85 : Int32))])) t_
    refine XS.icmpNo X0.here hx rfl (hb hby d8_35) rfl (teq (by decide : (85 : Int32) = (85 : Int32))).2 ?_
    show Steps p.tables e below (s₁.setTop (mkF m 38 #[.val (.int (85 : Int32)), .val (.int (82 : Int32))] [])) t_
    refine XS.iloadN X0.here hx rfl (hb hby d8_38) rfl ?_
    show Steps p.tables e below (s₁.setTop (mkF m 39 #[.val (.int (85 : Int32)), .val (.int (82 : Int32))] [(.int (82 : Int32))])) t_
    refine XS.bipush X0.here hx rfl (hb hby d8_39) ?_
    show Steps p.tables e below (s₁.setTop (mkF m 41 #[.val (.int (85 : Int32)), .val (.int (82 : Int32))] [(.int (67 : Int32)), (.int (82 : Int32))])) t_
    refine XS.icmpNo X0.here hx rfl (hb hby d8_41) rfl (feq (by decide : ¬ ((82 : Int32) = (67 : Int32)))).1 ?_
    show Steps p.tables e below (s₁.setTop (mkF m 44 #[.val (.int (85 : Int32)), .val (.int (82 : Int32))] [])) t_
    refine XS.iloadN X0.here hx rfl (hb hby d8_44) rfl ?_
    show Steps p.tables e below (s₁.setTop (mkF m 45 #[.val (.int (85 : Int32)), .val (.int (82 : Int32))] [(.int (82 : Int32))])) t_
    refine XS.bipush X0.here hx rfl (hb hby d8_45) ?_
    show Steps p.tables e below (s₁.setTop (mkF m 47 #[.val (.int (85 : Int32)), .val (.int (82 : Int32))] [(.int (78 : Int32)), (.int (82 : Int32))])) t_
    refine XS.icmpNo X0.here hx rfl (hb hby d8_47) rfl (feq (by decide : ¬ ((82 : Int32) = (78 : Int32)))).1 ?_
    show Steps p.tables e below (s₁.setTop (mkF m 50 #[.val (.int (85 : Int32)), .val (.int (82 : Int32))] [])) t_
    refine XS.iloadN X0.here hx rfl (hb hby d8_50) rfl ?_
    show Steps p.tables e below (s₁.setTop (mkF m 51 #[.val (.int (85 : Int32)), .val (.int (82 : Int32))] [(.int (82 : Int32))])) t_
    refine XS.bipush X0.here hx rfl (hb hby d8_51) ?_
    show Steps p.tables e below (s₁.setTop (mkF m 53 #[.val (.int (85 : Int32)), .val (.int (82 : Int32))] [(.int (82 : Int32)), (.int (82 : Int32))])) t_
    refine XS.icmpYes X0.here hx rfl (pc0 := 53) (pc' := 68) rfl (hb hby d8_53) rfl (teq (by decide : (82 : Int32) = (82 : Int32))).1 (by decide) (by decide) ?_
    show Steps p.tables e below (s₁.setTop (mkF m 68 #[.val (.int (85 : Int32)), .val (.int (82 : Int32))] [])) t_
    refine XS.iconst X0.here hx rfl (hb hby d8_68) ?_
    show Steps p.tables e below (s₁.setTop (mkF m 69 #[.val (.int (85 : Int32)), .val (.int (82 : Int32))] [(.int (1 : Int32))])) t_
    refine XS.goto X0.here hx rfl (pc0 := 69) (pc' := 73) rfl (hb hby d8_69) (by decide) (by decide) ?_
    exact k_
  obtain ⟨fs1, hr1, hrun1, hended1, hW1, hsame1⟩ := X0.leave (v := some (.int (1 : Int32))) (fun h => by rw [Bd.returns] at h; cases h)
  refine ⟨_, _, ?_, hrun1, hended1, _, _, rfl, ?_, ⟨_, rfl⟩, hW1, hsame1.mono (by decide) (by decide)⟩
  · exact retN X0 hx (t := .boolean) Bd.returns (by simp) (hb hby d8_73) hr1
  · show Q_rmEUR Z  h0 n0 _ s₁.heap _
    rw [e0]
    exact ⟨rfl, N0, rfl⟩
theorem d8_56 : decode method_2_code 56 = .ok (.iload_n 1, 1) := by decide +kernel
theorem d8_57 : decode method_2_code 57 = .ok (.bipush 84, 2) := by decide +kernel
theorem d8_59 : decode method_2_code 59 = .ok (.if_icmp .eq 9, 3) := by decide +kernel
theorem ef_rmEUT (m : MethodId)  : entryFrame m #[(.int (85 : Int32)), (.int (84 : Int32))] 2 = mkF m 0 #[.val (.int (85 : Int32)), .val (.int (84 : Int32))] [] := by first | (simp [entryFrame, mkF, argsToLocals, Value.category]; done) | rfl
def Q_rmEUT (Z : State)  (h0 : Heap) (n0 : Nat) (v_ : Option Value) (h_ : Heap) (L_ : List Loc) : Prop := v_ = some (.int (1 : Int32)) ∧ Fr n0 L_ ∧ h_ = h0
set_option maxRecDepth 65536 in
set_option maxHeartbeats 40000000 in
theorem rmEUT (l : Launch) (Z : State) (a0 : Array Value) (hw : ∀ d ∈ tables_1, d.before a0 Z = true) (ws : List Jvm.Cond)  (h0 : Heap) (n0 : Nat) (Z0 : n0 ≤ h0.size)  :
    MetFree l own_y8 (head1 (Jvm.Cond.code own_y8 method_2_code 2 (some .boolean) :: ws) ({ frames := 0, cells := 0, slots := 0, locals := 0 } : Room)) (fun a_ U_ => a_ = #[(.int (85 : Int32)), (.int (84 : Int32))] ∧ Z.Warmed39 U_.vm ∧ U_.heap = h0) (fun _ _ _ _ _ => True) (fun _ U_ o_ U2_ => ∃ v_ L_, o_ = .returned v_ ∧ Q_rmEUT Z  h0 n0 v_ U2_.heap L_ ∧ FrameEnd U_ o_ U2_ L_ ({ frames := 0, cells := 0, slots := 0, locals := 0 } : Room).cells ({ frames := 0, cells := 0, slots := 0, locals := 0 } : Room).slots) := by
  refine MetFree.of_bodySF (plainFor_of_name pn_5) hisR ?_
  intro p e s m args below meth c s₁ Bd hml0 hP hK
  obtain ⟨rfl, hZ, hh⟩ := hP
  have hx := Bd.exec
  have hby := Bd.bytes
  have hml : c.maxLocals = 2 := hml0
  have hown : s.vm.findClass "com/example/querent/querent/dicom/VrHasLongLengthPinLaw" = some m.cls := findClass_of_methodNamed Bd.named
  have hnm := (name_of_methodNamed Bd.named Bd.method).1
  have X0 : Stand p l e ({ frames := 0, cells := 0, slots := 0, locals := 0 } : Room) s m #[(.int (85 : Int32)), (.int (84 : Int32))] below meth c s₁ [] 0 0 := Stand.of_body Bd
  have e0 : s₁.heap = h0 := by rw [← hh, Bd.state]; rfl
  have N0 := Fr.nil n0
  refine own_go (A := s₁.setTop (mkF m 0 #[.val (.int (85 : Int32)), .val (.int (84 : Int32))] [])) (fun t_ k_ => castTop (ef_rmEUT m ) k_) ?_
  refine own_go (A := s₁.setTop (mkF m 73 #[.val (.int (85 : Int32)), .val (.int (84 : Int32))] [(.int (1 : Int32))])) (fun t_ k_ => ?_) ?_
  · show Steps p.tables e below (s₁.setTop (mkF m 0 #[.val (.int (85 : Int32)), .val (.int (84 : Int32))] [])) t_
    refine XS.iloadN X0.here hx rfl (hb hby d8_0) rfl ?_
    show Steps p.tables e below (s₁.setTop (mkF m 1 #[.val (.int (85 : Int32)), .val (.int (84 : Int32))] [(.int (85 : Int32))])) t_
    refine XS.bipush X0.here hx rfl (hb hby d8_1) ?_
    show Steps p.tables e below (s₁.setTop (mkF m 3 #[.val (.int (85 : Int32)), .val (.int (84 : Int32))] [(.int (79 : Int32)), (.int (85 : Int32))])) t_
    refine XS.icmpYes X0.here hx rfl (pc0 := 3) (pc' := 8) rfl (hb hby d8_3) rfl (feq (by decide : ¬ ((85 : Int32) = (79 : Int32)))).2 (by decide) (by decide) ?_
    show Steps p.tables e below (s₁.setTop (mkF m 8 #[.val (.int (85 : Int32)), .val (.int (84 : Int32))] [])) t_
    refine XS.iloadN X0.here hx rfl (hb hby d8_8) rfl ?_
    show Steps p.tables e below (s₁.setTop (mkF m 9 #[.val (.int (85 : Int32)), .val (.int (84 : Int32))] [(.int (85 : Int32))])) t_
    refine XS.bipush X0.here hx rfl (hb hby d8_9) ?_
    show Steps p.tables e below (s₁.setTop (mkF m 11 #[.val (.int (85 : Int32)), .val (.int (84 : Int32))] [(.int (83 : Int32)), (.int (85 : Int32))])) t_
    refine XS.icmpYes X0.here hx rfl (pc0 := 11) (pc' := 32) rfl (hb hby d8_11) rfl (feq (by decide : ¬ ((85 : Int32) = (83 : Int32)))).2 (by decide) (by decide) ?_
    show Steps p.tables e below (s₁.setTop (mkF m 32 #[.val (.int (85 : Int32)), .val (.int (84 : Int32))] [])) t_
    refine XS.iloadN X0.here hx rfl (hb hby d8_32) rfl ?_
    show Steps p.tables e below (s₁.setTop (mkF m 33 #[.val (.int (85 : Int32)), .val (.int (84 : Int32))] [(.int (85 : Int32))])) t_
    refine XS.bipush X0.here hx rfl (hb hby d8_33) ?_
    show Steps p.tables e below (s₁.setTop (mkF m 35 #[.val (.int (85 : Int32)), .val (.int (84 : Int32))] [(.int (85 : Int32)), (.int (85 : Int32))])) t_
    refine XS.icmpNo X0.here hx rfl (hb hby d8_35) rfl (teq (by decide : (85 : Int32) = (85 : Int32))).2 ?_
    show Steps p.tables e below (s₁.setTop (mkF m 38 #[.val (.int (85 : Int32)), .val (.int (84 : Int32))] [])) t_
    refine XS.iloadN X0.here hx rfl (hb hby d8_38) rfl ?_
    show Steps p.tables e below (s₁.setTop (mkF m 39 #[.val (.int (85 : Int32)), .val (.int (84 : Int32))] [(.int (84 : Int32))])) t_
    refine XS.bipush X0.here hx rfl (hb hby d8_39) ?_
    show Steps p.tables e below (s₁.setTop (mkF m 41 #[.val (.int (85 : Int32)), .val (.int (84 : Int32))] [(.int (67 : Int32)), (.int (84 : Int32))])) t_
    refine XS.icmpNo X0.here hx rfl (hb hby d8_41) rfl (feq (by decide : ¬ ((84 : Int32) = (67 : Int32)))).1 ?_
    show Steps p.tables e below (s₁.setTop (mkF m 44 #[.val (.int (85 : Int32)), .val (.int (84 : Int32))] [])) t_
    refine XS.iloadN X0.here hx rfl (hb hby d8_44) rfl ?_
    show Steps p.tables e below (s₁.setTop (mkF m 45 #[.val (.int (85 : Int32)), .val (.int (84 : Int32))] [(.int (84 : Int32))])) t_
    refine XS.bipush X0.here hx rfl (hb hby d8_45) ?_
    show Steps p.tables e below (s₁.setTop (mkF m 47 #[.val (.int (85 : Int32)), .val (.int (84 : Int32))] [(.int (78 : Int32)), (.int (84 : Int32))])) t_
    refine XS.icmpNo X0.here hx rfl (hb hby d8_47) rfl (feq (by decide : ¬ ((84 : Int32) = (78 : Int32)))).1 ?_
    show Steps p.tables e below (s₁.setTop (mkF m 50 #[.val (.int (85 : Int32)), .val (.int (84 : Int32))] [])) t_
    refine XS.iloadN X0.here hx rfl (hb hby d8_50) rfl ?_
    show Steps p.tables e below (s₁.setTop (mkF m 51 #[.val (.int (85 : Int32)), .val (.int (84 : Int32))] [(.int (84 : Int32))])) t_
    refine XS.bipush X0.here hx rfl (hb hby d8_51) ?_
    show Steps p.tables e below (s₁.setTop (mkF m 53 #[.val (.int (85 : Int32)), .val (.int (84 : Int32))] [(.int (82 : Int32)), (.int (84 : Int32))])) t_
    refine XS.icmpNo X0.here hx rfl (hb hby d8_53) rfl (feq (by decide : ¬ ((84 : Int32) = (82 : Int32)))).1 ?_
    show Steps p.tables e below (s₁.setTop (mkF m 56 #[.val (.int (85 : Int32)), .val (.int (84 : Int32))] [])) t_
    refine XS.iloadN X0.here hx rfl (hb hby d8_56) rfl ?_
    show Steps p.tables e below (s₁.setTop (mkF m 57 #[.val (.int (85 : Int32)), .val (.int (84 : Int32))] [(.int (84 : Int32))])) t_
    refine XS.bipush X0.here hx rfl (hb hby d8_57) ?_
    show Steps p.tables e below (s₁.setTop (mkF m 59 #[.val (.int (85 : Int32)), .val (.int (84 : Int32))] [(.int (84 : Int32)), (.int (84 : Int32))])) t_
    refine XS.icmpYes X0.here hx rfl (pc0 := 59) (pc' := 68) rfl (hb hby d8_59) rfl (teq (by decide : (84 : Int32) = (84 : Int32))).1 (by decide) (by decide) ?_
    show Steps p.tables e below (s₁.setTop (mkF m 68 #[.val (.int (85 : Int32)), .val (.int (84 : Int32))] [])) t_
    refine XS.iconst X0.here hx rfl (hb hby d8_68) ?_
    show Steps p.tables e below (s₁.setTop (mkF m 69 #[.val (.int (85 : Int32)), .val (.int (84 : Int32))] [(.int (1 : Int32))])) t_
    refine XS.goto X0.here hx rfl (pc0 := 69) (pc' := 73) rfl (hb hby d8_69) (by decide) (by decide) ?_
    exact k_
  obtain ⟨fs1, hr1, hrun1, hended1, hW1, hsame1⟩ := X0.leave (v := some (.int (1 : Int32))) (fun h => by rw [Bd.returns] at h; cases h)
  refine ⟨_, _, ?_, hrun1, hended1, _, _, rfl, ?_, ⟨_, rfl⟩, hW1, hsame1.mono (by decide) (by decide)⟩
  · exact retN X0 hx (t := .boolean) Bd.returns (by simp) (hb hby d8_73) hr1
  · show Q_rmEUT Z  h0 n0 _ s₁.heap _
    rw [e0]
    exact ⟨rfl, N0, rfl⟩
theorem d8_62 : decode method_2_code 62 = .ok (.iload_n 1, 1) := by decide +kernel
theorem d8_63 : decode method_2_code 63 = .ok (.bipush 86, 2) := by decide +kernel
theorem d8_65 : decode method_2_code 65 = .ok (.if_icmp .ne 7, 3) := by decide +kernel
theorem ef_rmEUV (m : MethodId)  : entryFrame m #[(.int (85 : Int32)), (.int (86 : Int32))] 2 = mkF m 0 #[.val (.int (85 : Int32)), .val (.int (86 : Int32))] [] := by first | (simp [entryFrame, mkF, argsToLocals, Value.category]; done) | rfl
def Q_rmEUV (Z : State)  (h0 : Heap) (n0 : Nat) (v_ : Option Value) (h_ : Heap) (L_ : List Loc) : Prop := v_ = some (.int (1 : Int32)) ∧ Fr n0 L_ ∧ h_ = h0
set_option maxRecDepth 65536 in
set_option maxHeartbeats 40000000 in
theorem rmEUV (l : Launch) (Z : State) (a0 : Array Value) (hw : ∀ d ∈ tables_1, d.before a0 Z = true) (ws : List Jvm.Cond)  (h0 : Heap) (n0 : Nat) (Z0 : n0 ≤ h0.size)  :
    MetFree l own_y8 (head1 (Jvm.Cond.code own_y8 method_2_code 2 (some .boolean) :: ws) ({ frames := 0, cells := 0, slots := 0, locals := 0 } : Room)) (fun a_ U_ => a_ = #[(.int (85 : Int32)), (.int (86 : Int32))] ∧ Z.Warmed39 U_.vm ∧ U_.heap = h0) (fun _ _ _ _ _ => True) (fun _ U_ o_ U2_ => ∃ v_ L_, o_ = .returned v_ ∧ Q_rmEUV Z  h0 n0 v_ U2_.heap L_ ∧ FrameEnd U_ o_ U2_ L_ ({ frames := 0, cells := 0, slots := 0, locals := 0 } : Room).cells ({ frames := 0, cells := 0, slots := 0, locals := 0 } : Room).slots) := by
  refine MetFree.of_bodySF (plainFor_of_name pn_5) hisR ?_
  intro p e s m args below meth c s₁ Bd hml0 hP hK
  obtain ⟨rfl, hZ, hh⟩ := hP
  have hx := Bd.exec
  have hby := Bd.bytes
  have hml : c.maxLocals = 2 := hml0
  have hown : s.vm.findClass "com/example/querent/querent/dicom/VrHasLongLengthPinLaw" = some m.cls := findClass_of_methodNamed Bd.named
  have hnm := (name_of_methodNamed Bd.named Bd.method).1
  have X0 : Stand p l e ({ frames := 0, cells := 0, slots := 0, locals := 0 } : Room) s m #[(.int (85 : Int32)), (.int (86 : Int32))] below meth c s₁ [] 0 0 := Stand.of_body Bd
  have e0 : s₁.heap = h0 := by rw [← hh, Bd.state]; rfl
  have N0 := Fr.nil n0
  refine own_go (A := s₁.setTop (mkF m 0 #[.val (.int (85 : Int32)), .val (.int (86 : Int32))] [])) (fun t_ k_ => castTop (ef_rmEUV m ) k_) ?_
  refine own_go (A := s₁.setTop (mkF m 73 #[.val (.int (85 : Int32)), .val (.int (86 : Int32))] [(.int (1 : Int32))])) (fun t_ k_ => ?_) ?_
  · show Steps p.tables e below (s₁.setTop (mkF m 0 #[.val (.int (85 : Int32)), .val (.int (86 : Int32))] [])) t_
    refine XS.iloadN X0.here hx rfl (hb hby d8_0) rfl ?_
    show Steps p.tables e below (s₁.setTop (mkF m 1 #[.val (.int (85 : Int32)), .val (.int (86 : Int32))] [(.int (85 : Int32))])) t_
    refine XS.bipush X0.here hx rfl (hb hby d8_1) ?_
    show Steps p.tables e below (s₁.setTop (mkF m 3 #[.val (.int (85 : Int32)), .val (.int (86 : Int32))] [(.int (79 : Int32)), (.int (85 : Int32))])) t_
    refine XS.icmpYes X0.here hx rfl (pc0 := 3) (pc' := 8) rfl (hb hby d8_3) rfl (feq (by decide : ¬ ((85 : Int32) = (79 : Int32)))).2 (by decide) (by decide) ?_
    show Steps p.tables e below (s₁.setTop (mkF m 8 #[.val (.int (85 : Int32)), .val (.int (86 : Int32))] [])) t_
    refine XS.iloadN X0.here hx rfl (hb hby d8_8) rfl ?_
    show Steps p.tables e below (s₁.setTop (mkF m 9 #[.val (.int (85 : Int32)), .val (.int (86 : Int32))] [(.int (85 : Int32))])) t_
    refine XS.bipush X0.here hx rfl (hb hby d8_9) ?_
    show Steps p.tables e below (s₁.setTop (mkF m 11 #[.val (.int (85 : Int32)), .val (.int (86 : Int32))] [(.int (83 : Int32)), (.int (85 : Int32))])) t_
    refine XS.icmpYes X0.here hx rfl (pc0 := 11) (pc' := 32) rfl (hb hby d8_11) rfl (feq (by decide : ¬ ((85 : Int32) = (83 : Int32)))).2 (by decide) (by decide) ?_
    show Steps p.tables e below (s₁.setTop (mkF m 32 #[.val (.int (85 : Int32)), .val (.int (86 : Int32))] [])) t_
    refine XS.iloadN X0.here hx rfl (hb hby d8_32) rfl ?_
    show Steps p.tables e below (s₁.setTop (mkF m 33 #[.val (.int (85 : Int32)), .val (.int (86 : Int32))] [(.int (85 : Int32))])) t_
    refine XS.bipush X0.here hx rfl (hb hby d8_33) ?_
    show Steps p.tables e below (s₁.setTop (mkF m 35 #[.val (.int (85 : Int32)), .val (.int (86 : Int32))] [(.int (85 : Int32)), (.int (85 : Int32))])) t_
    refine XS.icmpNo X0.here hx rfl (hb hby d8_35) rfl (teq (by decide : (85 : Int32) = (85 : Int32))).2 ?_
    show Steps p.tables e below (s₁.setTop (mkF m 38 #[.val (.int (85 : Int32)), .val (.int (86 : Int32))] [])) t_
    refine XS.iloadN X0.here hx rfl (hb hby d8_38) rfl ?_
    show Steps p.tables e below (s₁.setTop (mkF m 39 #[.val (.int (85 : Int32)), .val (.int (86 : Int32))] [(.int (86 : Int32))])) t_
    refine XS.bipush X0.here hx rfl (hb hby d8_39) ?_
    show Steps p.tables e below (s₁.setTop (mkF m 41 #[.val (.int (85 : Int32)), .val (.int (86 : Int32))] [(.int (67 : Int32)), (.int (86 : Int32))])) t_
    refine XS.icmpNo X0.here hx rfl (hb hby d8_41) rfl (feq (by decide : ¬ ((86 : Int32) = (67 : Int32)))).1 ?_
    show Steps p.tables e below (s₁.setTop (mkF m 44 #[.val (.int (85 : Int32)), .val (.int (86 : Int32))] [])) t_
    refine XS.iloadN X0.here hx rfl (hb hby d8_44) rfl ?_
    show Steps p.tables e below (s₁.setTop (mkF m 45 #[.val (.int (85 : Int32)), .val (.int (86 : Int32))] [(.int (86 : Int32))])) t_
    refine XS.bipush X0.here hx rfl (hb hby d8_45) ?_
    show Steps p.tables e below (s₁.setTop (mkF m 47 #[.val (.int (85 : Int32)), .val (.int (86 : Int32))] [(.int (78 : Int32)), (.int (86 : Int32))])) t_
    refine XS.icmpNo X0.here hx rfl (hb hby d8_47) rfl (feq (by decide : ¬ ((86 : Int32) = (78 : Int32)))).1 ?_
    show Steps p.tables e below (s₁.setTop (mkF m 50 #[.val (.int (85 : Int32)), .val (.int (86 : Int32))] [])) t_
    refine XS.iloadN X0.here hx rfl (hb hby d8_50) rfl ?_
    show Steps p.tables e below (s₁.setTop (mkF m 51 #[.val (.int (85 : Int32)), .val (.int (86 : Int32))] [(.int (86 : Int32))])) t_
    refine XS.bipush X0.here hx rfl (hb hby d8_51) ?_
    show Steps p.tables e below (s₁.setTop (mkF m 53 #[.val (.int (85 : Int32)), .val (.int (86 : Int32))] [(.int (82 : Int32)), (.int (86 : Int32))])) t_
    refine XS.icmpNo X0.here hx rfl (hb hby d8_53) rfl (feq (by decide : ¬ ((86 : Int32) = (82 : Int32)))).1 ?_
    show Steps p.tables e below (s₁.setTop (mkF m 56 #[.val (.int (85 : Int32)), .val (.int (86 : Int32))] [])) t_
    refine XS.iloadN X0.here hx rfl (hb hby d8_56) rfl ?_
    show Steps p.tables e below (s₁.setTop (mkF m 57 #[.val (.int (85 : Int32)), .val (.int (86 : Int32))] [(.int (86 : Int32))])) t_
    refine XS.bipush X0.here hx rfl (hb hby d8_57) ?_
    show Steps p.tables e below (s₁.setTop (mkF m 59 #[.val (.int (85 : Int32)), .val (.int (86 : Int32))] [(.int (84 : Int32)), (.int (86 : Int32))])) t_
    refine XS.icmpNo X0.here hx rfl (hb hby d8_59) rfl (feq (by decide : ¬ ((86 : Int32) = (84 : Int32)))).1 ?_
    show Steps p.tables e below (s₁.setTop (mkF m 62 #[.val (.int (85 : Int32)), .val (.int (86 : Int32))] [])) t_
    refine XS.iloadN X0.here hx rfl (hb hby d8_62) rfl ?_
    show Steps p.tables e below (s₁.setTop (mkF m 63 #[.val (.int (85 : Int32)), .val (.int (86 : Int32))] [(.int (86 : Int32))])) t_
    refine XS.bipush X0.here hx rfl (hb hby d8_63) ?_
    show Steps p.tables e below (s₁.setTop (mkF m 65 #[.val (.int (85 : Int32)), .val (.int (86 : Int32))] [(.int (86 : Int32)), (.int (86 : Int32))])) t_
    refine XS.icmpNo X0.here hx rfl (hb hby d8_65) rfl (teq (by decide : (86 : Int32) = (86 : Int32))).2 ?_
    show Steps p.tables e below (s₁.setTop (mkF m 68 #[.val (.int (85 : Int32)), .val (.int (86 : Int32))] [])) t_
    refine XS.iconst X0.here hx rfl (hb hby d8_68) ?_
    show Steps p.tables e below (s₁.setTop (mkF m 69 #[.val (.int (85 : Int32)), .val (.int (86 : Int32))] [(.int (1 : Int32))])) t_
    refine XS.goto X0.here hx rfl (pc0 := 69) (pc' := 73) rfl (hb hby d8_69) (by decide) (by decide) ?_
    exact k_
  obtain ⟨fs1, hr1, hrun1, hended1, hW1, hsame1⟩ := X0.leave (v := some (.int (1 : Int32))) (fun h => by rw [Bd.returns] at h; cases h)
  refine ⟨_, _, ?_, hrun1, hended1, _, _, rfl, ?_, ⟨_, rfl⟩, hW1, hsame1.mono (by decide) (by decide)⟩
  · exact retN X0 hx (t := .boolean) Bd.returns (by simp) (hb hby d8_73) hr1
  · show Q_rmEUV Z  h0 n0 _ s₁.heap _
    rw [e0]
    exact ⟨rfl, N0, rfl⟩
theorem d8_72 : decode method_2_code 72 = .ok (.iconst 0, 1) := by decide +kernel
theorem ef_rmEU (m : MethodId) (c1 : Int32) : entryFrame m #[(.int (85 : Int32)), (.int c1)] 2 = mkF m 0 #[.val (.int (85 : Int32)), .val (.int c1)] [] := by first | (simp [entryFrame, mkF, argsToLocals, Value.category]; done) | rfl
def Q_rmEU (Z : State) (c1 : Int32) (h0 : Heap) (n0 : Nat) (v_ : Option Value) (h_ : Heap) (L_ : List Loc) : Prop := v_ = some (.int (0 : Int32)) ∧ Fr n0 L_ ∧ h_ = h0
set_option maxRecDepth 65536 in
set_option maxHeartbeats 40000000 in
theorem rmEU (l : Launch) (Z : State) (a0 : Array Value) (hw : ∀ d ∈ tables_1, d.before a0 Z = true) (ws : List Jvm.Cond) (c1 : Int32) (h0 : Heap) (n0 : Nat) (Z0 : n0 ≤ h0.size) (hc167 : ¬ (c1 = (67 : Int32))) (hc178 : ¬ (c1 = (78 : Int32))) (hc182 : ¬ (c1 = (82 : Int32))) (hc184 : ¬ (c1 = (84 : Int32))) (hc186 : ¬ (c1 = (86 : Int32))) :
    MetFree l own_y8 (head1 (Jvm.Cond.code own_y8 method_2_code 2 (some .boolean) :: ws) ({ frames := 0, cells := 0, slots := 0, locals := 0 } : Room)) (fun a_ U_ => a_ = #[(.int (85 : Int32)), (.int c1)] ∧ Z.Warmed39 U_.vm ∧ U_.heap = h0) (fun _ _ _ _ _ => True) (fun _ U_ o_ U2_ => ∃ v_ L_, o_ = .returned v_ ∧ Q_rmEU Z c1 h0 n0 v_ U2_.heap L_ ∧ FrameEnd U_ o_ U2_ L_ ({ frames := 0, cells := 0, slots := 0, locals := 0 } : Room).cells ({ frames := 0, cells := 0, slots := 0, locals := 0 } : Room).slots) := by
  refine MetFree.of_bodySF (plainFor_of_name pn_5) hisR ?_
  intro p e s m args below meth c s₁ Bd hml0 hP hK
  obtain ⟨rfl, hZ, hh⟩ := hP
  have hx := Bd.exec
  have hby := Bd.bytes
  have hml : c.maxLocals = 2 := hml0
  have hown : s.vm.findClass "com/example/querent/querent/dicom/VrHasLongLengthPinLaw" = some m.cls := findClass_of_methodNamed Bd.named
  have hnm := (name_of_methodNamed Bd.named Bd.method).1
  have X0 : Stand p l e ({ frames := 0, cells := 0, slots := 0, locals := 0 } : Room) s m #[(.int (85 : Int32)), (.int c1)] below meth c s₁ [] 0 0 := Stand.of_body Bd
  have e0 : s₁.heap = h0 := by rw [← hh, Bd.state]; rfl
  have N0 := Fr.nil n0
  refine own_go (A := s₁.setTop (mkF m 0 #[.val (.int (85 : Int32)), .val (.int c1)] [])) (fun t_ k_ => castTop (ef_rmEU m c1) k_) ?_
  refine own_go (A := s₁.setTop (mkF m 73 #[.val (.int (85 : Int32)), .val (.int c1)] [(.int (0 : Int32))])) (fun t_ k_ => ?_) ?_
  · show Steps p.tables e below (s₁.setTop (mkF m 0 #[.val (.int (85 : Int32)), .val (.int c1)] [])) t_
    refine XS.iloadN X0.here hx rfl (hb hby d8_0) rfl ?_
    show Steps p.tables e below (s₁.setTop (mkF m 1 #[.val (.int (85 : Int32)), .val (.int c1)] [(.int (85 : Int32))])) t_
    refine XS.bipush X0.here hx rfl (hb hby d8_1) ?_
    show Steps p.tables e below (s₁.setTop (mkF m 3 #[.val (.int (85 : Int32)), .val (.int c1)] [(.int (79 : Int32)), (.int (85 : Int32))])) t_
    refine XS.icmpYes X0.here hx rfl (pc0 := 3) (pc' := 8) rfl (hb hby d8_3) rfl (feq (by decide : ¬ ((85 : Int32) = (79 : Int32)))).2 (by decide) (by decide) ?_
    show Steps p.tables e below (s₁.setTop (mkF m 8 #[.val (.int (85 : Int32)), .val (.int c1)] [])) t_
    refine XS.iloadN X0.here hx rfl (hb hby d8_8) rfl ?_
    show Steps p.tables e below (s₁.setTop (mkF m 9 #[.val (.int (85 : Int32)), .val (.int c1)] [(.int (85 : Int32))])) t_
    refine XS.bipush X0.here hx rfl (hb hby d8_9) ?_
    show Steps p.tables e below (s₁.setTop (mkF m 11 #[.val (.int (85 : Int32)), .val (.int c1)] [(.int (83 : Int32)), (.int (85 : Int32))])) t_
    refine XS.icmpYes X0.here hx rfl (pc0 := 11) (pc' := 32) rfl (hb hby d8_11) rfl (feq (by decide : ¬ ((85 : Int32) = (83 : Int32)))).2 (by decide) (by decide) ?_
    show Steps p.tables e below (s₁.setTop (mkF m 32 #[.val (.int (85 : Int32)), .val (.int c1)] [])) t_
    refine XS.iloadN X0.here hx rfl (hb hby d8_32) rfl ?_
    show Steps p.tables e below (s₁.setTop (mkF m 33 #[.val (.int (85 : Int32)), .val (.int c1)] [(.int (85 : Int32))])) t_
    refine XS.bipush X0.here hx rfl (hb hby d8_33) ?_
    show Steps p.tables e below (s₁.setTop (mkF m 35 #[.val (.int (85 : Int32)), .val (.int c1)] [(.int (85 : Int32)), (.int (85 : Int32))])) t_
    refine XS.icmpNo X0.here hx rfl (hb hby d8_35) rfl (teq (by decide : (85 : Int32) = (85 : Int32))).2 ?_
    show Steps p.tables e below (s₁.setTop (mkF m 38 #[.val (.int (85 : Int32)), .val (.int c1)] [])) t_
    refine XS.iloadN X0.here hx rfl (hb hby d8_38) rfl ?_
    show Steps p.tables e below (s₁.setTop (mkF m 39 #[.val (.int (85 : Int32)), .val (.int c1)] [(.int c1)])) t_
    refine XS.bipush X0.here hx rfl (hb hby d8_39) ?_
    show Steps p.tables e below (s₁.setTop (mkF m 41 #[.val (.int (85 : Int32)), .val (.int c1)] [(.int (67 : Int32)), (.int c1)])) t_
    refine XS.icmpNo X0.here hx rfl (hb hby d8_41) rfl (feq hc167).1 ?_
    show Steps p.tables e below (s₁.setTop (mkF m 44 #[.val (.int (85 : Int32)), .val (.int c1)] [])) t_
    refine XS.iloadN X0.here hx rfl (hb hby d8_44) rfl ?_
    show Steps p.tables e below (s₁.setTop (mkF m 45 #[.val (.int (85 : Int32)), .val (.int c1)] [(.int c1)])) t_
    refine XS.bipush X0.here hx rfl (hb hby d8_45) ?_
    show Steps p.tables e below (s₁.setTop (mkF m 47 #[.val (.int (85 : Int32)), .val (.int c1)] [(.int (78 : Int32)), (.int c1)])) t_
    refine XS.icmpNo X0.here hx rfl (hb hby d8_47) rfl (feq hc178).1 ?_
    show Steps p.tables e below (s₁.setTop (mkF m 50 #[.val (.int (85 : Int32)), .val (.int c1)] [])) t_
    refine XS.iloadN X0.here hx rfl (hb hby d8_50) rfl ?_
    show Steps p.tables e below (s₁.setTop (mkF m 51 #[.val (.int (85 : Int32)), .val (.int c1)] [(.int c1)])) t_
    refine XS.bipush X0.here hx rfl (hb hby d8_51) ?_
    show Steps p.tables e below (s₁.setTop (mkF m 53 #[.val (.int (85 : Int32)), .val (.int c1)] [(.int (82 : Int32)), (.int c1)])) t_
    refine XS.icmpNo X0.here hx rfl (hb hby d8_53) rfl (feq hc182).1 ?_
    show Steps p.tables e below (s₁.setTop (mkF m 56 #[.val (.int (85 : Int32)), .val (.int c1)] [])) t_
    refine XS.iloadN X0.here hx rfl (hb hby d8_56) rfl ?_
    show Steps p.tables e below (s₁.setTop (mkF m 57 #[.val (.int (85 : Int32)), .val (.int c1)] [(.int c1)])) t_
    refine XS.bipush X0.here hx rfl (hb hby d8_57) ?_
    show Steps p.tables e below (s₁.setTop (mkF m 59 #[.val (.int (85 : Int32)), .val (.int c1)] [(.int (84 : Int32)), (.int c1)])) t_
    refine XS.icmpNo X0.here hx rfl (hb hby d8_59) rfl (feq hc184).1 ?_
    show Steps p.tables e below (s₁.setTop (mkF m 62 #[.val (.int (85 : Int32)), .val (.int c1)] [])) t_
    refine XS.iloadN X0.here hx rfl (hb hby d8_62) rfl ?_
    show Steps p.tables e below (s₁.setTop (mkF m 63 #[.val (.int (85 : Int32)), .val (.int c1)] [(.int c1)])) t_
    refine XS.bipush X0.here hx rfl (hb hby d8_63) ?_
    show Steps p.tables e below (s₁.setTop (mkF m 65 #[.val (.int (85 : Int32)), .val (.int c1)] [(.int (86 : Int32)), (.int c1)])) t_
    refine XS.icmpYes X0.here hx rfl (pc0 := 65) (pc' := 72) rfl (hb hby d8_65) rfl (feq hc186).2 (by decide) (by decide) ?_
    show Steps p.tables e below (s₁.setTop (mkF m 72 #[.val (.int (85 : Int32)), .val (.int c1)] [])) t_
    refine XS.iconst X0.here hx rfl (hb hby d8_72) ?_
    exact k_
  obtain ⟨fs1, hr1, hrun1, hended1, hW1, hsame1⟩ := X0.leave (v := some (.int (0 : Int32))) (fun h => by rw [Bd.returns] at h; cases h)
  refine ⟨_, _, ?_, hrun1, hended1, _, _, rfl, ?_, ⟨_, rfl⟩, hW1, hsame1.mono (by decide) (by decide)⟩
  · exact retN X0 hx (t := .boolean) Bd.returns (by simp) (hb hby d8_73) hr1
  · show Q_rmEU Z c1 h0 n0 _ s₁.heap _
    rw [e0]
    exact ⟨rfl, N0, rfl⟩
theorem own_mod34 (p : Int32) : ((p &&& (2147483647 : Int32)) % (34 : Int32)) = (0 : Int32) ∨ ((p &&& (2147483647 : Int32)) % (34 : Int32)) = (1 : Int32) ∨ ((p &&& (2147483647 : Int32)) % (34 : Int32)) = (2 : Int32) ∨ ((p &&& (2147483647 : Int32)) % (34 : Int32)) = (3 : Int32) ∨ ((p &&& (2147483647 : Int32)) % (34 : Int32)) = (4 : Int32) ∨ ((p &&& (2147483647 : Int32)) % (34 : Int32)) = (5 : Int32) ∨ ((p &&& (2147483647 : Int32)) % (34 : Int32)) = (6 : Int32) ∨ ((p &&& (2147483647 : Int32)) % (34 : Int32)) = (7 : Int32) ∨ ((p &&& (2147483647 : Int32)) % (34 : Int32)) = (8 : Int32) ∨ ((p &&& (2147483647 : Int32)) % (34 : Int32)) = (9 : Int32) ∨ ((p &&& (2147483647 : Int32)) % (34 : Int32)) = (10 : Int32) ∨ ((p &&& (2147483647 : Int32)) % (34 : Int32)) = (11 : Int32) ∨ ((p &&& (2147483647 : Int32)) % (34 : Int32)) = (12 : Int32) ∨ ((p &&& (2147483647 : Int32)) % (34 : Int32)) = (13 : Int32) ∨ ((p &&& (2147483647 : Int32)) % (34 : Int32)) = (14 : Int32) ∨ ((p &&& (2147483647 : Int32)) % (34 : Int32)) = (15 : Int32) ∨ ((p &&& (2147483647 : Int32)) % (34 : Int32)) = (16 : Int32) ∨ ((p &&& (2147483647 : Int32)) % (34 : Int32)) = (17 : Int32) ∨ ((p &&& (2147483647 : Int32)) % (34 : Int32)) = (18 : Int32) ∨ ((p &&& (2147483647 : Int32)) % (34 : Int32)) = (19 : Int32) ∨ ((p &&& (2147483647 : Int32)) % (34 : Int32)) = (20 : Int32) ∨ ((p &&& (2147483647 : Int32)) % (34 : Int32)) = (21 : Int32) ∨ ((p &&& (2147483647 : Int32)) % (34 : Int32)) = (22 : Int32) ∨ ((p &&& (2147483647 : Int32)) % (34 : Int32)) = (23 : Int32) ∨ ((p &&& (2147483647 : Int32)) % (34 : Int32)) = (24 : Int32) ∨ ((p &&& (2147483647 : Int32)) % (34 : Int32)) = (25 : Int32) ∨ ((p &&& (2147483647 : Int32)) % (34 : Int32)) = (26 : Int32) ∨ ((p &&& (2147483647 : Int32)) % (34 : Int32)) = (27 : Int32) ∨ ((p &&& (2147483647 : Int32)) % (34 : Int32)) = (28 : Int32) ∨ ((p &&& (2147483647 : Int32)) % (34 : Int32)) = (29 : Int32) ∨ ((p &&& (2147483647 : Int32)) % (34 : Int32)) = (30 : Int32) ∨ ((p &&& (2147483647 : Int32)) % (34 : Int32)) = (31 : Int32) ∨ ((p &&& (2147483647 : Int32)) % (34 : Int32)) = (32 : Int32) ∨ ((p &&& (2147483647 : Int32)) % (34 : Int32)) = (33 : Int32) := by
  have h1 := c_and p 2147483647 (by decide)
  have h2 := (c_irem (p &&& 2147483647) 34 34 (by decide)).1 h1.1
  have h3 : ((p &&& (2147483647 : Int32)) % (34 : Int32)).toInt = 0 ∨ ((p &&& (2147483647 : Int32)) % (34 : Int32)).toInt = 1 ∨ ((p &&& (2147483647 : Int32)) % (34 : Int32)).toInt = 2 ∨ ((p &&& (2147483647 : Int32)) % (34 : Int32)).toInt = 3 ∨ ((p &&& (2147483647 : Int32)) % (34 : Int32)).toInt = 4 ∨ ((p &&& (2147483647 : Int32)) % (34 : Int32)).toInt = 5 ∨ ((p &&& (2147483647 : Int32)) % (34 : Int32)).toInt = 6 ∨ ((p &&& (2147483647 : Int32)) % (34 : Int32)).toInt = 7 ∨ ((p &&& (2147483647 : Int32)) % (34 : Int32)).toInt = 8 ∨ ((p &&& (2147483647 : Int32)) % (34 : Int32)).toInt = 9 ∨ ((p &&& (2147483647 : Int32)) % (34 : Int32)).toInt = 10 ∨ ((p &&& (2147483647 : Int32)) % (34 : Int32)).toInt = 11 ∨ ((p &&& (2147483647 : Int32)) % (34 : Int32)).toInt = 12 ∨ ((p &&& (2147483647 : Int32)) % (34 : Int32)).toInt = 13 ∨ ((p &&& (2147483647 : Int32)) % (34 : Int32)).toInt = 14 ∨ ((p &&& (2147483647 : Int32)) % (34 : Int32)).toInt = 15 ∨ ((p &&& (2147483647 : Int32)) % (34 : Int32)).toInt = 16 ∨ ((p &&& (2147483647 : Int32)) % (34 : Int32)).toInt = 17 ∨ ((p &&& (2147483647 : Int32)) % (34 : Int32)).toInt = 18 ∨ ((p &&& (2147483647 : Int32)) % (34 : Int32)).toInt = 19 ∨ ((p &&& (2147483647 : Int32)) % (34 : Int32)).toInt = 20 ∨ ((p &&& (2147483647 : Int32)) % (34 : Int32)).toInt = 21 ∨ ((p &&& (2147483647 : Int32)) % (34 : Int32)).toInt = 22 ∨ ((p &&& (2147483647 : Int32)) % (34 : Int32)).toInt = 23 ∨ ((p &&& (2147483647 : Int32)) % (34 : Int32)).toInt = 24 ∨ ((p &&& (2147483647 : Int32)) % (34 : Int32)).toInt = 25 ∨ ((p &&& (2147483647 : Int32)) % (34 : Int32)).toInt = 26 ∨ ((p &&& (2147483647 : Int32)) % (34 : Int32)).toInt = 27 ∨ ((p &&& (2147483647 : Int32)) % (34 : Int32)).toInt = 28 ∨ ((p &&& (2147483647 : Int32)) % (34 : Int32)).toInt = 29 ∨ ((p &&& (2147483647 : Int32)) % (34 : Int32)).toInt = 30 ∨ ((p &&& (2147483647 : Int32)) % (34 : Int32)).toInt = 31 ∨ ((p &&& (2147483647 : Int32)) % (34 : Int32)).toInt = 32 ∨ ((p &&& (2147483647 : Int32)) % (34 : Int32)).toInt = 33 := by omega
  rcases h3 with h | h | h | h | h | h | h | h | h | h | h | h | h | h | h | h | h | h | h | h | h | h | h | h | h | h | h | h | h | h | h | h | h | h
  · exact Or.inl (Int32.toInt_inj.mp (h.trans (by decide)))
  · exact Or.inr (Or.inl (Int32.toInt_inj.mp (h.trans (by decide))))
  · exact Or.inr (Or.inr (Or.inl (Int32.toInt_inj.mp (h.trans (by decide)))))
  · exact Or.inr (Or.inr (Or.inr (Or.inl (Int32.toInt_inj.mp (h.trans (by decide))))))
  · exact Or.inr (Or.inr (Or.inr (Or.inr (Or.inl (Int32.toInt_inj.mp (h.trans (by decide)))))))
  · exact Or.inr (Or.inr (Or.inr (Or.inr (Or.inr (Or.inl (Int32.toInt_inj.mp (h.trans (by decide))))))))
  · exact Or.inr (Or.inr (Or.inr (Or.inr (Or.inr (Or.inr (Or.inl (Int32.toInt_inj.mp (h.trans (by decide)))))))))
  · exact Or.inr (Or.inr (Or.inr (Or.inr (Or.inr (Or.inr (Or.inr (Or.inl (Int32.toInt_inj.mp (h.trans (by decide))))))))))
  · exact Or.inr (Or.inr (Or.inr (Or.inr (Or.inr (Or.inr (Or.inr (Or.inr (Or.inl (Int32.toInt_inj.mp (h.trans (by decide)))))))))))
  · exact Or.inr (Or.inr (Or.inr (Or.inr (Or.inr (Or.inr (Or.inr (Or.inr (Or.inr (Or.inl (Int32.toInt_inj.mp (h.trans (by decide))))))))))))
  · exact Or.inr (Or.inr (Or.inr (Or.inr (Or.inr (Or.inr (Or.inr (Or.inr (Or.inr (Or.inr (Or.inl (Int32.toInt_inj.mp (h.trans (by decide)))))))))))))
  · exact Or.inr (Or.inr (Or.inr (Or.inr (Or.inr (Or.inr (Or.inr (Or.inr (Or.inr (Or.inr (Or.inr (Or.inl (Int32.toInt_inj.mp (h.trans (by decide))))))))))))))
  · exact Or.inr (Or.inr (Or.inr (Or.inr (Or.inr (Or.inr (Or.inr (Or.inr (Or.inr (Or.inr (Or.inr (Or.inr (Or.inl (Int32.toInt_inj.mp (h.trans (by decide)))))))))))))))
  · exact Or.inr (Or.inr (Or.inr (Or.inr (Or.inr (Or.inr (Or.inr (Or.inr (Or.inr (Or.inr (Or.inr (Or.inr (Or.inr (Or.inl (Int32.toInt_inj.mp (h.trans (by decide))))))))))))))))
  · exact Or.inr (Or.inr (Or.inr (Or.inr (Or.inr (Or.inr (Or.inr (Or.inr (Or.inr (Or.inr (Or.inr (Or.inr (Or.inr (Or.inr (Or.inl (Int32.toInt_inj.mp (h.trans (by decide)))))))))))))))))
  · exact Or.inr (Or.inr (Or.inr (Or.inr (Or.inr (Or.inr (Or.inr (Or.inr (Or.inr (Or.inr (Or.inr (Or.inr (Or.inr (Or.inr (Or.inr (Or.inl (Int32.toInt_inj.mp (h.trans (by decide))))))))))))))))))
  · exact Or.inr (Or.inr (Or.inr (Or.inr (Or.inr (Or.inr (Or.inr (Or.inr (Or.inr (Or.inr (Or.inr (Or.inr (Or.inr (Or.inr (Or.inr (Or.inr (Or.inl (Int32.toInt_inj.mp (h.trans (by decide)))))))))))))))))))
  · exact Or.inr (Or.inr (Or.inr (Or.inr (Or.inr (Or.inr (Or.inr (Or.inr (Or.inr (Or.inr (Or.inr (Or.inr (Or.inr (Or.inr (Or.inr (Or.inr (Or.inr (Or.inl (Int32.toInt_inj.mp (h.trans (by decide))))))))))))))))))))
  · exact Or.inr (Or.inr (Or.inr (Or.inr (Or.inr (Or.inr (Or.inr (Or.inr (Or.inr (Or.inr (Or.inr (Or.inr (Or.inr (Or.inr (Or.inr (Or.inr (Or.inr (Or.inr (Or.inl (Int32.toInt_inj.mp (h.trans (by decide)))))))))))))))))))))
  · exact Or.inr (Or.inr (Or.inr (Or.inr (Or.inr (Or.inr (Or.inr (Or.inr (Or.inr (Or.inr (Or.inr (Or.inr (Or.inr (Or.inr (Or.inr (Or.inr (Or.inr (Or.inr (Or.inr (Or.inl (Int32.toInt_inj.mp (h.trans (by decide))))))))))))))))))))))
  · exact Or.inr (Or.inr (Or.inr (Or.inr (Or.inr (Or.inr (Or.inr (Or.inr (Or.inr (Or.inr (Or.inr (Or.inr (Or.inr (Or.inr (Or.inr (Or.inr (Or.inr (Or.inr (Or.inr (Or.inr (Or.inl (Int32.toInt_inj.mp (h.trans (by decide)))))))))))))))))))))))
  · exact Or.inr (Or.inr (Or.inr (Or.inr (Or.inr (Or.inr (Or.inr (Or.inr (Or.inr (Or.inr (Or.inr (Or.inr (Or.inr (Or.inr (Or.inr (Or.inr (Or.inr (Or.inr (Or.inr (Or.inr (Or.inr (Or.inl (Int32.toInt_inj.mp (h.trans (by decide))))))))))))))))))))))))
  · exact Or.inr (Or.inr (Or.inr (Or.inr (Or.inr (Or.inr (Or.inr (Or.inr (Or.inr (Or.inr (Or.inr (Or.inr (Or.inr (Or.inr (Or.inr (Or.inr (Or.inr (Or.inr (Or.inr (Or.inr (Or.inr (Or.inr (Or.inl (Int32.toInt_inj.mp (h.trans (by decide)))))))))))))))))))))))))
  · exact Or.inr (Or.inr (Or.inr (Or.inr (Or.inr (Or.inr (Or.inr (Or.inr (Or.inr (Or.inr (Or.inr (Or.inr (Or.inr (Or.inr (Or.inr (Or.inr (Or.inr (Or.inr (Or.inr (Or.inr (Or.inr (Or.inr (Or.inr (Or.inl (Int32.toInt_inj.mp (h.trans (by decide))))))))))))))))))))))))))
  · exact Or.inr (Or.inr (Or.inr (Or.inr (Or.inr (Or.inr (Or.inr (Or.inr (Or.inr (Or.inr (Or.inr (Or.inr (Or.inr (Or.inr (Or.inr (Or.inr (Or.inr (Or.inr (Or.inr (Or.inr (Or.inr (Or.inr (Or.inr (Or.inr (Or.inl (Int32.toInt_inj.mp (h.trans (by decide)))))))))))))))))))))))))))
  · exact Or.inr (Or.inr (Or.inr (Or.inr (Or.inr (Or.inr (Or.inr (Or.inr (Or.inr (Or.inr (Or.inr (Or.inr (Or.inr (Or.inr (Or.inr (Or.inr (Or.inr (Or.inr (Or.inr (Or.inr (Or.inr (Or.inr (Or.inr (Or.inr (Or.inr (Or.inl (Int32.toInt_inj.mp (h.trans (by decide))))))))))))))))))))))))))))
  · exact Or.inr (Or.inr (Or.inr (Or.inr (Or.inr (Or.inr (Or.inr (Or.inr (Or.inr (Or.inr (Or.inr (Or.inr (Or.inr (Or.inr (Or.inr (Or.inr (Or.inr (Or.inr (Or.inr (Or.inr (Or.inr (Or.inr (Or.inr (Or.inr (Or.inr (Or.inr (Or.inl (Int32.toInt_inj.mp (h.trans (by decide)))))))))))))))))))))))))))))
  · exact Or.inr (Or.inr (Or.inr (Or.inr (Or.inr (Or.inr (Or.inr (Or.inr (Or.inr (Or.inr (Or.inr (Or.inr (Or.inr (Or.inr (Or.inr (Or.inr (Or.inr (Or.inr (Or.inr (Or.inr (Or.inr (Or.inr (Or.inr (Or.inr (Or.inr (Or.inr (Or.inr (Or.inl (Int32.toInt_inj.mp (h.trans (by decide))))))))))))))))))))))))))))))
  · exact Or.inr (Or.inr (Or.inr (Or.inr (Or.inr (Or.inr (Or.inr (Or.inr (Or.inr (Or.inr (Or.inr (Or.inr (Or.inr (Or.inr (Or.inr (Or.inr (Or.inr (Or.inr (Or.inr (Or.inr (Or.inr (Or.inr (Or.inr (Or.inr (Or.inr (Or.inr (Or.inr (Or.inr (Or.inl (Int32.toInt_inj.mp (h.trans (by decide)))))))))))))))))))))))))))))))
  · exact Or.inr (Or.inr (Or.inr (Or.inr (Or.inr (Or.inr (Or.inr (Or.inr (Or.inr (Or.inr (Or.inr (Or.inr (Or.inr (Or.inr (Or.inr (Or.inr (Or.inr (Or.inr (Or.inr (Or.inr (Or.inr (Or.inr (Or.inr (Or.inr (Or.inr (Or.inr (Or.inr (Or.inr (Or.inr (Or.inl (Int32.toInt_inj.mp (h.trans (by decide))))))))))))))))))))))))))))))))
  · exact Or.inr (Or.inr (Or.inr (Or.inr (Or.inr (Or.inr (Or.inr (Or.inr (Or.inr (Or.inr (Or.inr (Or.inr (Or.inr (Or.inr (Or.inr (Or.inr (Or.inr (Or.inr (Or.inr (Or.inr (Or.inr (Or.inr (Or.inr (Or.inr (Or.inr (Or.inr (Or.inr (Or.inr (Or.inr (Or.inr (Or.inl (Int32.toInt_inj.mp (h.trans (by decide)))))))))))))))))))))))))))))))))
  · exact Or.inr (Or.inr (Or.inr (Or.inr (Or.inr (Or.inr (Or.inr (Or.inr (Or.inr (Or.inr (Or.inr (Or.inr (Or.inr (Or.inr (Or.inr (Or.inr (Or.inr (Or.inr (Or.inr (Or.inr (Or.inr (Or.inr (Or.inr (Or.inr (Or.inr (Or.inr (Or.inr (Or.inr (Or.inr (Or.inr (Or.inr (Or.inl (Int32.toInt_inj.mp (h.trans (by decide))))))))))))))))))))))))))))))))))
  · exact Or.inr (Or.inr (Or.inr (Or.inr (Or.inr (Or.inr (Or.inr (Or.inr (Or.inr (Or.inr (Or.inr (Or.inr (Or.inr (Or.inr (Or.inr (Or.inr (Or.inr (Or.inr (Or.inr (Or.inr (Or.inr (Or.inr (Or.inr (Or.inr (Or.inr (Or.inr (Or.inr (Or.inr (Or.inr (Or.inr (Or.inr (Or.inr (Or.inl (Int32.toInt_inj.mp (h.trans (by decide)))))))))))))))))))))))))))))))))))
  · exact Or.inr (Or.inr (Or.inr (Or.inr (Or.inr (Or.inr (Or.inr (Or.inr (Or.inr (Or.inr (Or.inr (Or.inr (Or.inr (Or.inr (Or.inr (Or.inr (Or.inr (Or.inr (Or.inr (Or.inr (Or.inr (Or.inr (Or.inr (Or.inr (Or.inr (Or.inr (Or.inr (Or.inr (Or.inr (Or.inr (Or.inr (Or.inr (Or.inr (Int32.toInt_inj.mp (h.trans (by decide)))))))))))))))))))))))))))))))))))
def Q_rm0 (Z : State) (p1 : Int32) (cs : Int32) (sf : Value) (ad0 : Addr) (ad1 : Addr) (ad2 : Addr) (ad3 : Addr) (ad4 : Addr) (ad5 : Addr) (ad6 : Addr) (ad7 : Addr) (ad8 : Addr) (ad9 : Addr) (ad10 : Addr) (ad11 : Addr) (ad12 : Addr) (ad13 : Addr) (ad14 : Addr) (ad15 : Addr) (ad16 : Addr) (ad17 : Addr) (ad18 : Addr) (ad19 : Addr) (ad20 : Addr) (ad21 : Addr) (ad22 : Addr) (ad23 : Addr) (ad24 : Addr) (ad25 : Addr) (ad26 : Addr) (ad27 : Addr) (ad28 : Addr) (ad29 : Addr) (ad30 : Addr) (ad31 : Addr) (ad32 : Addr) (ad33 : Addr) (h0 : Heap) (n0 : Nat) (v_ : Option Value) (h_ : Heap) (L_ : List Loc) : Prop := v_ = some (.int (1 : Int32)) ∧ Fr n0 L_ ∧ Keep h0 h_ []
theorem pd_5 : parseMethodDescriptor "(I)C" = some ⟨[.int], some .char⟩ := by decide +kernel
theorem pd_6 : parseMethodDescriptor "(CC)Z" = some ⟨[.char, .char], some .boolean⟩ := by decide +kernel
set_option maxRecDepth 65536 in
set_option maxHeartbeats 40000000 in
theorem own_sufad0 (l : Launch) (Z : State) (a0 : Array Value) (hw : ∀ d ∈ tables_1, d.before a0 Z = true) (p1 : Int32) (cs : Int32) (sf : Value) (ad0 : Addr) (ad1 : Addr) (ad2 : Addr) (ad3 : Addr) (ad4 : Addr) (ad5 : Addr) (ad6 : Addr) (ad7 : Addr) (ad8 : Addr) (ad9 : Addr) (ad10 : Addr) (ad11 : Addr) (ad12 : Addr) (ad13 : Addr) (ad14 : Addr) (ad15 : Addr) (ad16 : Addr) (ad17 : Addr) (ad18 : Addr) (ad19 : Addr) (ad20 : Addr) (ad21 : Addr) (ad22 : Addr) (ad23 : Addr) (ad24 : Addr) (ad25 : Addr) (ad26 : Addr) (ad27 : Addr) (ad28 : Addr) (ad29 : Addr) (ad30 : Addr) (ad31 : Addr) (ad32 : Addr) (ad33 : Addr) (b1 : Addr) (b104 : Addr) (d104 : Addr) (kk104 : ClassId) (h0 : Heap) (n0 : Nat) (Z0 : n0 ≤ h0.size) {p : Program} {e : Env} {s : State} {m : MethodId} {below : List Frame} {meth : Method} {c : Code} {Tc : State} {Hc : Heap} {locsc : List Loc} {vmc : Vm} {kc0 : Nat} (Xc : Stand p l e room_1 (s.setVm vmc) m #[(.int p1)] below meth c Tc locsc 3 310) (hx : p.tables.exec = Jvm.exec) (hZ : Z.Warmed39 (s.setVm vmc).vm) (hby : c.code = code) (hml : c.maxLocals = 7) (hown : (s.setVm vmc).vm.findClass "com/example/querent/querent/dicom/VrHasLongLengthPinLaw" = some m.cls) (hret : meth.sig.returnType = some .boolean) (hlk : meth.locks = false) (hh : s.heap = h0) (ec : Tc.heap = Hc) (Nc : Fr n0 locsc) (Kc0 : Keep h0 Hc []) (Oc : Old Z n0 Hc) (hS : s.Since vmc kc0) (hk : kc0 ≤ Hc.size) (hSA : ∀ a ∈ Bundle.stringAtoms, a.before a0 Z = true) (zc0 : Sta Z Z.heap "java/lang/String" "COMPACT_STRINGS" "Z" (.int cs)) (zc1 : Sta Z Z.heap "jdk/internal/util/Preconditions" "SIOOBE_FORMATTER" "Ljava/util/function/BiFunction;" sf) (zc2 : Exa Z Z.heap ad0 "com/example/querent/querent/dicom/Vr") (zc3 : Fld Z Z.heap ad0 "java/lang/Enum" "ordinal" "I" (.int (0 : Int32))) (zc4 : Exa Z Hc b104 "java/lang/String") (zc5 : Fld Z Hc b104 "java/lang/String" "coder" "B" (.int (0 : Int32))) (zc6 : Fld Z Hc b104 "java/lang/String" "value" "[B" (.ref d104)) (zc7 : Arv Z Hc d104 kk104 .byte (68 : Int32) own_txt (.int (0 : Int32))) (hcs : ¬ (cs = (0 : Int32))) (hsf : sf.isRef = true) (hn0 : n0 = h0.size) (hcw : Jvm.Lit.compactW.before a0 Z = true) (hlit : Jvm.Lit.constHeld Z "com/example/querent/querent/dicom/VrHasLongLengthPinLaw" 112) :
    ∃ U_ o_, Steps p.tables e below (Tc.setTop (mkF m 254 #[.val (.int p1), .val (.ref b1), .val (.ref b104), .val (.int (0 : Int32)), .val (.ref ad0), .unset, .unset] [])) U_ ∧ U_.status = .running ∧ Ended U_ below o_ ∧ (∃ v_ L_, o_ = .returned v_ ∧ Q_rm0 Z p1 cs sf ad0 ad1 ad2 ad3 ad4 ad5 ad6 ad7 ad8 ad9 ad10 ad11 ad12 ad13 ad14 ad15 ad16 ad17 ad18 ad19 ad20 ad21 ad22 ad23 ad24 ad25 ad26 ad27 ad28 ad29 ad30 ad31 ad32 ad33 h0 n0 v_ U_.heap L_ ∧ ReturnedEndW s o_ U_ L_ room_1.cells room_1.slots) := by
  refine own_go (A := Tc.setTop (mkF m 258 #[.val (.int p1), .val (.ref b1), .val (.ref b104), .val (.int (0 : Int32)), .val (.ref ad0), .unset, .unset] [(.int (0 : Int32)), (.ref b104)])) (fun t_ k_ => ?_) ?_
  · show Steps p.tables e below (Tc.setTop (mkF m 254 #[.val (.int p1), .val (.ref b1), .val (.ref b104), .val (.int (0 : Int32)), .val (.ref ad0), .unset, .unset] [])) t_
    refine XS.aloadN Xc.here hx rfl (hb hby at_254) rfl rfl ?_
    show Steps p.tables e below (Tc.setTop (mkF m 255 #[.val (.int p1), .val (.ref b1), .val (.ref b104), .val (.int (0 : Int32)), .val (.ref ad0), .unset, .unset] [(.ref b104)])) t_
    refine XS.iconst Xc.here hx rfl (hb hby at_255) ?_
    show Steps p.tables e below (Tc.setTop (mkF m 256 #[.val (.int p1), .val (.ref b1), .val (.ref b104), .val (.int (0 : Int32)), .val (.ref ad0), .unset, .unset] [(.int (2 : Int32)), (.ref b104)])) t_
    refine XS.iloadN Xc.here hx rfl (hb hby at_256) rfl ?_
    show Steps p.tables e below (Tc.setTop (mkF m 257 #[.val (.int p1), .val (.ref b1), .val (.ref b104), .val (.int (0 : Int32)), .val (.ref ad0), .unset, .unset] [(.int (0 : Int32)), (.int (2 : Int32)), (.ref b104)])) t_
    refine XS.imul Xc.here hx rfl (hb hby at_257) rfl ?_
    exact k_
  obtain ⟨cq109, kq109, q109a, q109b, q109c⟩ := isOf hZ ec zc4
  obtain ⟨_, _, ⟨T109, L109, k109, n109⟩, -, X109, ⟨Lc109, hQ109, l109, y109, z109⟩, st109⟩ := Xc.virtualBack hx (y := own_y4) (z := own_y4) hown (mvT hZ (own_w hw 81 rfl)) (mvT hZ (own_w hw 82 rfl)) (notFace_of_selects (args := #[]) (mvT hZ (own_w hw 84 rfl))) (mvT hZ (own_w hw 84 rfl)) (mvT hZ (own_w hw 83 rfl)) (by decide) (backOf (W := 0) (rmChAt l Z a0 hw [] b104 (0 : Int32) d104 kk104 (68 : Int32) own_txt (65 : Int32) sf cs Hc n0 (Nat.le_trans Z0 Kc0.1) Oc zc0 hcs zc1 hsf zc4 zc5 zc6 zc7 (by decide : ¬ ((0 : Int32) < (0 : Int32))) (by decide : (0 : Int32) < (68 : Int32)) rfl) hZ (own_w hw 85 rfl) (own_w hw 73 rfl) (by decide) (by decide)) q109a q109c (g := (mkF m 258 #[.val (.int p1), .val (.ref b1), .val (.ref b104), .val (.int (0 : Int32)), .val (.ref ad0), .unset, .unset] [(.int (0 : Int32)), (.ref b104)])) rfl (by rw [hml]; rfl) (Steps.refl _) (argsL := [(.int (0 : Int32))]) (rest := []) (lenOf pd_5 rfl) rfl (by show 2 * 0 + _ ≤ _; exact Nat.le_of_eq rfl) (hb hby at_258) (fun _ _ => ⟨rfl, ec, (by decide : 3 + 0 ≤ _), (by decide : 310 + 0 ≤ _)⟩)
  dsimp only [Pt.U, Pt.locs, Pt.cells, Pt.slots] at X109 l109 y109 z109 st109 hQ109
  subst l109 y109 z109
  obtain ⟨rfl, N109q, eh109⟩ := hQ109
  have N109 := Fr.app Nc N109q
  refine own_via st109 ?_
  refine own_go (A := T109.setTop (mkF m 269 #[.val (.int p1), .val (.ref b1), .val (.ref b104), .val (.int (0 : Int32)), .val (.ref ad0), .val (.int (65 : Int32)), .unset] [(.int (1 : Int32)), (.ref b104)])) (fun t_ k_ => ?_) ?_
  · show Steps p.tables e below (T109.setTop (mkF m 261 #[.val (.int p1), .val (.ref b1), .val (.ref b104), .val (.int (0 : Int32)), .val (.ref ad0), .unset, .unset] [(.int (65 : Int32))])) t_
    refine XS.istore X109.here hx rfl (hb hby at_261) rfl (l' := #[.val (.int p1), .val (.ref b1), .val (.ref b104), .val (.int (0 : Int32)), .val (.ref ad0), .val (.int (65 : Int32)), .unset]) rfl ?_
    show Steps p.tables e below (T109.setTop (mkF m 263 #[.val (.int p1), .val (.ref b1), .val (.ref b104), .val (.int (0 : Int32)), .val (.ref ad0), .val (.int (65 : Int32)), .unset] [])) t_
    refine XS.aloadN X109.here hx rfl (hb hby at_263) rfl rfl ?_
    show Steps p.tables e below (T109.setTop (mkF m 264 #[.val (.int p1), .val (.ref b1), .val (.ref b104), .val (.int (0 : Int32)), .val (.ref ad0), .val (.int (65 : Int32)), .unset] [(.ref b104)])) t_
    refine XS.iconst X109.here hx rfl (hb hby at_264) ?_
    show Steps p.tables e below (T109.setTop (mkF m 265 #[.val (.int p1), .val (.ref b1), .val (.ref b104), .val (.int (0 : Int32)), .val (.ref ad0), .val (.int (65 : Int32)), .unset] [(.int (2 : Int32)), (.ref b104)])) t_
    refine XS.iloadN X109.here hx rfl (hb hby at_265) rfl ?_
    show Steps p.tables e below (T109.setTop (mkF m 266 #[.val (.int p1), .val (.ref b1), .val (.ref b104), .val (.int (0 : Int32)), .val (.ref ad0), .val (.int (65 : Int32)), .unset] [(.int (0 : Int32)), (.int (2 : Int32)), (.ref b104)])) t_
    refine XS.imul X109.here hx rfl (hb hby at_266) rfl ?_
    show Steps p.tables e below (T109.setTop (mkF m 267 #[.val (.int p1), .val (.ref b1), .val (.ref b104), .val (.int (0 : Int32)), .val (.ref ad0), .val (.int (65 : Int32)), .unset] [(.int (0 : Int32)), (.ref b104)])) t_
    refine XS.iconst X109.here hx rfl (hb hby at_267) ?_
    show Steps p.tables e below (T109.setTop (mkF m 268 #[.val (.int p1), .val (.ref b1), .val (.ref b104), .val (.int (0 : Int32)), .val (.ref ad0), .val (.int (65 : Int32)), .unset] [(.int (1 : Int32)), (.int (0 : Int32)), (.ref b104)])) t_
    refine XS.iadd X109.here hx rfl (hb hby at_268) rfl ?_
    exact k_
  obtain ⟨cq110, kq110, q110a, q110b, q110c⟩ := isOf hZ eh109 zc4
  obtain ⟨_, _, ⟨T110, L110, k110, n110⟩, -, X110, ⟨Lc110, hQ110, l110, y110, z110⟩, st110⟩ := X109.virtualBack hx (y := own_y4) (z := own_y4) hown (mvT hZ (own_w hw 81 rfl)) (mvT hZ (own_w hw 82 rfl)) (notFace_of_selects (args := #[]) (mvT hZ (own_w hw 84 rfl))) (mvT hZ (own_w hw 84 rfl)) (mvT hZ (own_w hw 83 rfl)) (by decide) (backOf (W := 0) (rmChAt l Z a0 hw [] b104 (1 : Int32) d104 kk104 (68 : Int32) own_txt (69 : Int32) sf cs Hc n0 (Nat.le_trans Z0 Kc0.1) Oc zc0 hcs zc1 hsf zc4 zc5 zc6 zc7 (by decide : ¬ ((1 : Int32) < (0 : Int32))) (by decide : (1 : Int32) < (68 : Int32)) rfl) hZ (own_w hw 85 rfl) (own_w hw 73 rfl) (by decide) (by decide)) q110a q110c (g := (mkF m 269 #[.val (.int p1), .val (.ref b1), .val (.ref b104), .val (.int (0 : Int32)), .val (.ref ad0), .val (.int (65 : Int32)), .unset] [(.int (1 : Int32)), (.ref b104)])) rfl (by rw [hml]; rfl) (Steps.refl _) (argsL := [(.int (1 : Int32))]) (rest := []) (lenOf pd_5 rfl) rfl (by show 2 * 0 + _ ≤ _; exact Nat.le_of_eq rfl) (hb hby at_269) (fun _ _ => ⟨rfl, eh109, (by decide : 3 + 0 ≤ _), (by decide : 310 + 0 ≤ _)⟩)
  dsimp only [Pt.U, Pt.locs, Pt.cells, Pt.slots] at X110 l110 y110 z110 st110 hQ110
  subst l110 y110 z110
  obtain ⟨rfl, N110q, eh110⟩ := hQ110
  have N110 := Fr.app N109 N110q
  refine own_via st110 ?_
  refine own_go (A := T110.setTop (mkF m 276 #[.val (.int p1), .val (.ref b1), .val (.ref b104), .val (.int (0 : Int32)), .val (.ref ad0), .val (.int (65 : Int32)), .val (.int (69 : Int32))] [(.ref ad0)])) (fun t_ k_ => ?_) ?_
  · show Steps p.tables e below (T110.setTop (mkF m 272 #[.val (.int p1), .val (.ref b1), .val (.ref b104), .val (.int (0 : Int32)), .val (.ref ad0), .val (.int (65 : Int32)), .unset] [(.int (69 : Int32))])) t_
    refine XS.istore X110.here hx rfl (hb hby at_272) rfl (l' := #[.val (.int p1), .val (.ref b1), .val (.ref b104), .val (.int (0 : Int32)), .val (.ref ad0), .val (.int (65 : Int32)), .val (.int (69 : Int32))]) rfl ?_
    show Steps p.tables e below (T110.setTop (mkF m 274 #[.val (.int p1), .val (.ref b1), .val (.ref b104), .val (.int (0 : Int32)), .val (.ref ad0), .val (.int (65 : Int32)), .val (.int (69 : Int32))] [])) t_
    refine XS.aload X110.here hx rfl (hb hby at_274) rfl rfl ?_
    exact k_
  obtain ⟨cq111, kq111, q111a, q111b, q111c⟩ := isOf hZ eh110 (zc2.ext Oc.2)
  obtain ⟨_, _, ⟨T111, L111, k111, n111⟩, -, X111, ⟨Lc111, hQ111, l111, y111, z111⟩, st111⟩ := X110.virtualBack hx (y := own_y7) (z := own_y7) hown (mvT hZ (own_w hw 106 rfl)) (mvT hZ (own_w hw 107 rfl)) (notFace_of_selects (args := #[]) (mvT hZ (own_w hw 109 rfl))) (mvT hZ (own_w hw 109 rfl)) (mvT hZ (own_w hw 108 rfl)) (by decide) (backOf (W := 0) (rmMOut l Z a0 hw [] ad0 (0 : Int32) Hc n0 (Nat.le_trans Z0 Kc0.1) Oc zc2 zc3 (by decide)) hZ (own_w hw 110 rfl) (own_w hw 3 rfl) (by decide) (by decide)) q111a q111c (g := (mkF m 276 #[.val (.int p1), .val (.ref b1), .val (.ref b104), .val (.int (0 : Int32)), .val (.ref ad0), .val (.int (65 : Int32)), .val (.int (69 : Int32))] [(.ref ad0)])) rfl (by rw [hml]; rfl) (Steps.refl _) (argsL := []) (rest := []) (lenOf pd_2 rfl) rfl (by show 2 * 0 + _ ≤ _; exact Nat.le_of_eq rfl) (hb hby at_276) (fun _ _ => ⟨rfl, eh110, (by decide : 3 + 0 ≤ _), (by decide : 310 + 0 ≤ _)⟩)
  dsimp only [Pt.U, Pt.locs, Pt.cells, Pt.slots] at X111 l111 y111 z111 st111 hQ111
  subst l111 y111 z111
  obtain ⟨rfl, N111q, eh111⟩ := hQ111
  have N111 := Fr.app N110 N111q
  refine own_via st111 ?_
  refine own_go (A := T111.setTop (mkF m 283 #[.val (.int p1), .val (.ref b1), .val (.ref b104), .val (.int (0 : Int32)), .val (.ref ad0), .val (.int (65 : Int32)), .val (.int (69 : Int32))] [(.int (69 : Int32)), (.int (65 : Int32)), (.int (0 : Int32))])) (fun t_ k_ => ?_) ?_
  · show Steps p.tables e below (T111.setTop (mkF m 279 #[.val (.int p1), .val (.ref b1), .val (.ref b104), .val (.int (0 : Int32)), .val (.ref ad0), .val (.int (65 : Int32)), .val (.int (69 : Int32))] [(.int (0 : Int32))])) t_
    refine XS.iload X111.here hx rfl (hb hby at_279) rfl ?_
    show Steps p.tables e below (T111.setTop (mkF m 281 #[.val (.int p1), .val (.ref b1), .val (.ref b104), .val (.int (0 : Int32)), .val (.ref ad0), .val (.int (65 : Int32)), .val (.int (69 : Int32))] [(.int (65 : Int32)), (.int (0 : Int32))])) t_
    refine XS.iload X111.here hx rfl (hb hby at_281) rfl ?_
    exact k_
  obtain ⟨_, _, ⟨T112, L112, k112, n112⟩, -, X112, ⟨Lc112, hQ112, l112, y112, z112⟩, st112⟩ := Jvm.LawKit.callS X111 hx (y := own_y8) hown (mvT hZ (own_w hw 120 rfl)) (mvT hZ (own_w hw 121 rfl)) (mvT hZ (own_w hw 122 rfl)) (mvT hZ (own_w hw 123 rfl)) (by decide) (backOf (W := 1) (rmEX l Z a0 hw [] (65 : Int32) (69 : Int32) Hc n0 (Nat.le_trans Z0 Kc0.1) (by decide : ¬ ((65 : Int32) = (79 : Int32))) (by decide : ¬ ((65 : Int32) = (83 : Int32))) (by decide : ¬ ((65 : Int32) = (85 : Int32)))) hZ (own_w hw 123 rfl) (own_w hw 122 rfl) (by decide) (by decide)) (g := (mkF m 283 #[.val (.int p1), .val (.ref b1), .val (.ref b104), .val (.int (0 : Int32)), .val (.ref ad0), .val (.int (65 : Int32)), .val (.int (69 : Int32))] [(.int (69 : Int32)), (.int (65 : Int32)), (.int (0 : Int32))])) rfl (by rw [hml]; rfl) (argsL := [(.int (65 : Int32)), (.int (69 : Int32))]) (rest := [(.int (0 : Int32))]) (lenOf pd_6 rfl) rfl (by show 2 * 0 + _ ≤ _; exact Nat.le_of_eq rfl) (hb hby at_283) (fun _ _ => ⟨rfl, eh111, (by decide : 3 + 0 ≤ _), (by decide : 310 + 0 ≤ _)⟩)
  dsimp only [Pt.U, Pt.locs, Pt.cells, Pt.slots] at X112 l112 y112 z112 st112 hQ112
  subst l112 y112 z112
  obtain ⟨rfl, N112q, eh112⟩ := hQ112
  have N112 := Fr.app N111 N112q
  refine own_go st112 ?_
  refine own_go (A := T112.setTop (mkF m 294 #[.val (.int p1), .val (.ref b1), .val (.ref b104), .val (.int (0 : Int32)), .val (.ref ad0), .val (.int (65 : Int32)), .val (.int (69 : Int32))] [(.int (1 : Int32))])) (fun t_ k_ => ?_) ?_
  · show Steps p.tables e below (T112.setTop (mkF m 286 #[.val (.int p1), .val (.ref b1), .val (.ref b104), .val (.int (0 : Int32)), .val (.ref ad0), .val (.int (65 : Int32)), .val (.int (69 : Int32))] [(.int (0 : Int32)), (.int (0 : Int32))])) t_
    refine XS.icmpNo X112.here hx rfl (hb hby at_286) rfl (teq (by decide : (0 : Int32) = (0 : Int32))).2 ?_
    show Steps p.tables e below (T112.setTop (mkF m 289 #[.val (.int p1), .val (.ref b1), .val (.ref b104), .val (.int (0 : Int32)), .val (.ref ad0), .val (.int (65 : Int32)), .val (.int (69 : Int32))] [])) t_
    refine XS.iconst X112.here hx rfl (hb hby at_289) ?_
    show Steps p.tables e below (T112.setTop (mkF m 290 #[.val (.int p1), .val (.ref b1), .val (.ref b104), .val (.int (0 : Int32)), .val (.ref ad0), .val (.int (65 : Int32)), .val (.int (69 : Int32))] [(.int (1 : Int32))])) t_
    refine XS.goto X112.here hx rfl (pc0 := 290) (pc' := 294) rfl (hb hby at_290) (by decide) (by decide) ?_
    exact k_
  obtain ⟨fs113, hr113, hrun113, hended113, hRW113⟩ := X112.leaveW hS (by rw [eh112]; exact hk) (v := some (.int (1 : Int32))) (fun h => by rw [hret] at h; cases h)
  refine ⟨_, _, ?_, hrun113, hended113, _, _, rfl, ?_, hRW113.1, hRW113.2.1, hRW113.2.2.1, hRW113.2.2.2.mono (by decide) (by decide)⟩
  · exact retN X112 hx (t := .boolean) hret (by simp) (hb hby at_294) hr113
  · show Q_rm0 Z p1 cs sf ad0 ad1 ad2 ad3 ad4 ad5 ad6 ad7 ad8 ad9 ad10 ad11 ad12 ad13 ad14 ad15 ad16 ad17 ad18 ad19 ad20 ad21 ad22 ad23 ad24 ad25 ad26 ad27 ad28 ad29 ad30 ad31 ad32 ad33 h0 n0 _ T112.heap _
    rw [eh112]
    exact ⟨rfl, N112, Kc0⟩
set_option maxRecDepth 65536 in
set_option maxHeartbeats 40000000 in
theorem own_sufad1 (l : Launch) (Z : State) (a0 : Array Value) (hw : ∀ d ∈ tables_1, d.before a0 Z = true) (p1 : Int32) (cs : Int32) (sf : Value) (ad0 : Addr) (ad1 : Addr) (ad2 : Addr) (ad3 : Addr) (ad4 : Addr) (ad5 : Addr) (ad6 : Addr) (ad7 : Addr) (ad8 : Addr) (ad9 : Addr) (ad10 : Addr) (ad11 : Addr) (ad12 : Addr) (ad13 : Addr) (ad14 : Addr) (ad15 : Addr) (ad16 : Addr) (ad17 : Addr) (ad18 : Addr) (ad19 : Addr) (ad20 : Addr) (ad21 : Addr) (ad22 : Addr) (ad23 : Addr) (ad24 : Addr) (ad25 : Addr) (ad26 : Addr) (ad27 : Addr) (ad28 : Addr) (ad29 : Addr) (ad30 : Addr) (ad31 : Addr) (ad32 : Addr) (ad33 : Addr) (b1 : Addr) (b104 : Addr) (d104 : Addr) (kk104 : ClassId) (h0 : Heap) (n0 : Nat) (Z0 : n0 ≤ h0.size) {p : Program} {e : Env} {s : State} {m : MethodId} {below : List Frame} {meth : Method} {c : Code} {Tc : State} {Hc : Heap} {locsc : List Loc} {vmc : Vm} {kc0 : Nat} (Xc : Stand p l e room_1 (s.setVm vmc) m #[(.int p1)] below meth c Tc locsc 3 310) (hx : p.tables.exec = Jvm.exec) (hZ : Z.Warmed39 (s.setVm vmc).vm) (hby : c.code = code) (hml : c.maxLocals = 7) (hown : (s.setVm vmc).vm.findClass "com/example/querent/querent/dicom/VrHasLongLengthPinLaw" = some m.cls) (hret : meth.sig.returnType = some .boolean) (hlk : meth.locks = false) (hh : s.heap = h0) (ec : Tc.heap = Hc) (Nc : Fr n0 locsc) (Kc0 : Keep h0 Hc []) (Oc : Old Z n0 Hc) (hS : s.Since vmc kc0) (hk : kc0 ≤ Hc.size) (hSA : ∀ a ∈ Bundle.stringAtoms, a.before a0 Z = true) (zc0 : Sta Z Z.heap "java/lang/String" "COMPACT_STRINGS" "Z" (.int cs)) (zc1 : Sta Z Z.heap "jdk/internal/util/Preconditions" "SIOOBE_FORMATTER" "Ljava/util/function/BiFunction;" sf) (zc2 : Exa Z Z.heap ad1 "com/example/querent/querent/dicom/Vr") (zc3 : Fld Z Z.heap ad1 "java/lang/Enum" "ordinal" "I" (.int (1 : Int32))) (zc4 : Exa Z Hc b104 "java/lang/String") (zc5 : Fld Z Hc b104 "java/lang/String" "coder" "B" (.int (0 : Int32))) (zc6 : Fld Z Hc b104 "java/lang/String" "value" "[B" (.ref d104)) (zc7 : Arv Z Hc d104 kk104 .byte (68 : Int32) own_txt (.int (0 : Int32))) (hcs : ¬ (cs = (0 : Int32))) (hsf : sf.isRef = true) (hn0 : n0 = h0.size) (hcw : Jvm.Lit.compactW.before a0 Z = true) (hlit : Jvm.Lit.constHeld Z "com/example/querent/querent/dicom/VrHasLongLengthPinLaw" 112) :
    ∃ U_ o_, Steps p.tables e below (Tc.setTop (mkF m 254 #[.val (.int p1), .val (.ref b1), .val (.ref b104), .val (.int (1 : Int32)), .val (.ref ad1), .unset, .unset] [])) U_ ∧ U_.status = .running ∧ Ended U_ below o_ ∧ (∃ v_ L_, o_ = .returned v_ ∧ Q_rm0 Z p1 cs sf ad0 ad1 ad2 ad3 ad4 ad5 ad6 ad7 ad8 ad9 ad10 ad11 ad12 ad13 ad14 ad15 ad16 ad17 ad18 ad19 ad20 ad21 ad22 ad23 ad24 ad25 ad26 ad27 ad28 ad29 ad30 ad31 ad32 ad33 h0 n0 v_ U_.heap L_ ∧ ReturnedEndW s o_ U_ L_ room_1.cells room_1.slots) := by
  refine own_go (A := Tc.setTop (mkF m 258 #[.val (.int p1), .val (.ref b1), .val (.ref b104), .val (.int (1 : Int32)), .val (.ref ad1), .unset, .unset] [(.int (2 : Int32)), (.ref b104)])) (fun t_ k_ => ?_) ?_
  · show Steps p.tables e below (Tc.setTop (mkF m 254 #[.val (.int p1), .val (.ref b1), .val (.ref b104), .val (.int (1 : Int32)), .val (.ref ad1), .unset, .unset] [])) t_
    refine XS.aloadN Xc.here hx rfl (hb hby at_254) rfl rfl ?_
    show Steps p.tables e below (Tc.setTop (mkF m 255 #[.val (.int p1), .val (.ref b1), .val (.ref b104), .val (.int (1 : Int32)), .val (.ref ad1), .unset, .unset] [(.ref b104)])) t_
    refine XS.iconst Xc.here hx rfl (hb hby at_255) ?_
    show Steps p.tables e below (Tc.setTop (mkF m 256 #[.val (.int p1), .val (.ref b1), .val (.ref b104), .val (.int (1 : Int32)), .val (.ref ad1), .unset, .unset] [(.int (2 : Int32)), (.ref b104)])) t_
    refine XS.iloadN Xc.here hx rfl (hb hby at_256) rfl ?_
    show Steps p.tables e below (Tc.setTop (mkF m 257 #[.val (.int p1), .val (.ref b1), .val (.ref b104), .val (.int (1 : Int32)), .val (.ref ad1), .unset, .unset] [(.int (1 : Int32)), (.int (2 : Int32)), (.ref b104)])) t_
    refine XS.imul Xc.here hx rfl (hb hby at_257) rfl ?_
    exact k_
  obtain ⟨cq115, kq115, q115a, q115b, q115c⟩ := isOf hZ ec zc4
  obtain ⟨_, _, ⟨T115, L115, k115, n115⟩, -, X115, ⟨Lc115, hQ115, l115, y115, z115⟩, st115⟩ := Xc.virtualBack hx (y := own_y4) (z := own_y4) hown (mvT hZ (own_w hw 81 rfl)) (mvT hZ (own_w hw 82 rfl)) (notFace_of_selects (args := #[]) (mvT hZ (own_w hw 84 rfl))) (mvT hZ (own_w hw 84 rfl)) (mvT hZ (own_w hw 83 rfl)) (by decide) (backOf (W := 0) (rmChAt l Z a0 hw [] b104 (2 : Int32) d104 kk104 (68 : Int32) own_txt (65 : Int32) sf cs Hc n0 (Nat.le_trans Z0 Kc0.1) Oc zc0 hcs zc1 hsf zc4 zc5 zc6 zc7 (by decide : ¬ ((2 : Int32) < (0 : Int32))) (by decide : (2 : Int32) < (68 : Int32)) rfl) hZ (own_w hw 85 rfl) (own_w hw 73 rfl) (by decide) (by decide)) q115a q115c (g := (mkF m 258 #[.val (.int p1), .val (.ref b1), .val (.ref b104), .val (.int (1 : Int32)), .val (.ref ad1), .unset, .unset] [(.int (2 : Int32)), (.ref b104)])) rfl (by rw [hml]; rfl) (Steps.refl _) (argsL := [(.int (2 : Int32))]) (rest := []) (lenOf pd_5 rfl) rfl (by show 2 * 0 + _ ≤ _; exact Nat.le_of_eq rfl) (hb hby at_258) (fun _ _ => ⟨rfl, ec, (by decide : 3 + 0 ≤ _), (by decide : 310 + 0 ≤ _)⟩)
  dsimp only [Pt.U, Pt.locs, Pt.cells, Pt.slots] at X115 l115 y115 z115 st115 hQ115
  subst l115 y115 z115
  obtain ⟨rfl, N115q, eh115⟩ := hQ115
  have N115 := Fr.app Nc N115q
  refine own_via st115 ?_
  refine own_go (A := T115.setTop (mkF m 269 #[.val (.int p1), .val (.ref b1), .val (.ref b104), .val (.int (1 : Int32)), .val (.ref ad1), .val (.int (65 : Int32)), .unset] [(.int (3 : Int32)), (.ref b104)])) (fun t_ k_ => ?_) ?_
  · show Steps p.tables e below (T115.setTop (mkF m 261 #[.val (.int p1), .val (.ref b1), .val (.ref b104), .val (.int (1 : Int32)), .val (.ref ad1), .unset, .unset] [(.int (65 : Int32))])) t_
    refine XS.istore X115.here hx rfl (hb hby at_261) rfl (l' := #[.val (.int p1), .val (.ref b1), .val (.ref b104), .val (.int (1 : Int32)), .val (.ref ad1), .val (.int (65 : Int32)), .unset]) rfl ?_
    show Steps p.tables e below (T115.setTop (mkF m 263 #[.val (.int p1), .val (.ref b1), .val (.ref b104), .val (.int (1 : Int32)), .val (.ref ad1), .val (.int (65 : Int32)), .unset] [])) t_
    refine XS.aloadN X115.here hx rfl (hb hby at_263) rfl rfl ?_
    show Steps p.tables e below (T115.setTop (mkF m 264 #[.val (.int p1), .val (.ref b1), .val (.ref b104), .val (.int (1 : Int32)), .val (.ref ad1), .val (.int (65 : Int32)), .unset] [(.ref b104)])) t_
    refine XS.iconst X115.here hx rfl (hb hby at_264) ?_
    show Steps p.tables e below (T115.setTop (mkF m 265 #[.val (.int p1), .val (.ref b1), .val (.ref b104), .val (.int (1 : Int32)), .val (.ref ad1), .val (.int (65 : Int32)), .unset] [(.int (2 : Int32)), (.ref b104)])) t_
    refine XS.iloadN X115.here hx rfl (hb hby at_265) rfl ?_
    show Steps p.tables e below (T115.setTop (mkF m 266 #[.val (.int p1), .val (.ref b1), .val (.ref b104), .val (.int (1 : Int32)), .val (.ref ad1), .val (.int (65 : Int32)), .unset] [(.int (1 : Int32)), (.int (2 : Int32)), (.ref b104)])) t_
    refine XS.imul X115.here hx rfl (hb hby at_266) rfl ?_
    show Steps p.tables e below (T115.setTop (mkF m 267 #[.val (.int p1), .val (.ref b1), .val (.ref b104), .val (.int (1 : Int32)), .val (.ref ad1), .val (.int (65 : Int32)), .unset] [(.int (2 : Int32)), (.ref b104)])) t_
    refine XS.iconst X115.here hx rfl (hb hby at_267) ?_
    show Steps p.tables e below (T115.setTop (mkF m 268 #[.val (.int p1), .val (.ref b1), .val (.ref b104), .val (.int (1 : Int32)), .val (.ref ad1), .val (.int (65 : Int32)), .unset] [(.int (1 : Int32)), (.int (2 : Int32)), (.ref b104)])) t_
    refine XS.iadd X115.here hx rfl (hb hby at_268) rfl ?_
    exact k_
  obtain ⟨cq116, kq116, q116a, q116b, q116c⟩ := isOf hZ eh115 zc4
  obtain ⟨_, _, ⟨T116, L116, k116, n116⟩, -, X116, ⟨Lc116, hQ116, l116, y116, z116⟩, st116⟩ := X115.virtualBack hx (y := own_y4) (z := own_y4) hown (mvT hZ (own_w hw 81 rfl)) (mvT hZ (own_w hw 82 rfl)) (notFace_of_selects (args := #[]) (mvT hZ (own_w hw 84 rfl))) (mvT hZ (own_w hw 84 rfl)) (mvT hZ (own_w hw 83 rfl)) (by decide) (backOf (W := 0) (rmChAt l Z a0 hw [] b104 (3 : Int32) d104 kk104 (68 : Int32) own_txt (83 : Int32) sf cs Hc n0 (Nat.le_trans Z0 Kc0.1) Oc zc0 hcs zc1 hsf zc4 zc5 zc6 zc7 (by decide : ¬ ((3 : Int32) < (0 : Int32))) (by decide : (3 : Int32) < (68 : Int32)) rfl) hZ (own_w hw 85 rfl) (own_w hw 73 rfl) (by decide) (by decide)) q116a q116c (g := (mkF m 269 #[.val (.int p1), .val (.ref b1), .val (.ref b104), .val (.int (1 : Int32)), .val (.ref ad1), .val (.int (65 : Int32)), .unset] [(.int (3 : Int32)), (.ref b104)])) rfl (by rw [hml]; rfl) (Steps.refl _) (argsL := [(.int (3 : Int32))]) (rest := []) (lenOf pd_5 rfl) rfl (by show 2 * 0 + _ ≤ _; exact Nat.le_of_eq rfl) (hb hby at_269) (fun _ _ => ⟨rfl, eh115, (by decide : 3 + 0 ≤ _), (by decide : 310 + 0 ≤ _)⟩)
  dsimp only [Pt.U, Pt.locs, Pt.cells, Pt.slots] at X116 l116 y116 z116 st116 hQ116
  subst l116 y116 z116
  obtain ⟨rfl, N116q, eh116⟩ := hQ116
  have N116 := Fr.app N115 N116q
  refine own_via st116 ?_
  refine own_go (A := T116.setTop (mkF m 276 #[.val (.int p1), .val (.ref b1), .val (.ref b104), .val (.int (1 : Int32)), .val (.ref ad1), .val (.int (65 : Int32)), .val (.int (83 : Int32))] [(.ref ad1)])) (fun t_ k_ => ?_) ?_
  · show Steps p.tables e below (T116.setTop (mkF m 272 #[.val (.int p1), .val (.ref b1), .val (.ref b104), .val (.int (1 : Int32)), .val (.ref ad1), .val (.int (65 : Int32)), .unset] [(.int (83 : Int32))])) t_
    refine XS.istore X116.here hx rfl (hb hby at_272) rfl (l' := #[.val (.int p1), .val (.ref b1), .val (.ref b104), .val (.int (1 : Int32)), .val (.ref ad1), .val (.int (65 : Int32)), .val (.int (83 : Int32))]) rfl ?_
    show Steps p.tables e below (T116.setTop (mkF m 274 #[.val (.int p1), .val (.ref b1), .val (.ref b104), .val (.int (1 : Int32)), .val (.ref ad1), .val (.int (65 : Int32)), .val (.int (83 : Int32))] [])) t_
    refine XS.aload X116.here hx rfl (hb hby at_274) rfl rfl ?_
    exact k_
  obtain ⟨cq117, kq117, q117a, q117b, q117c⟩ := isOf hZ eh116 (zc2.ext Oc.2)
  obtain ⟨_, _, ⟨T117, L117, k117, n117⟩, -, X117, ⟨Lc117, hQ117, l117, y117, z117⟩, st117⟩ := X116.virtualBack hx (y := own_y7) (z := own_y7) hown (mvT hZ (own_w hw 106 rfl)) (mvT hZ (own_w hw 107 rfl)) (notFace_of_selects (args := #[]) (mvT hZ (own_w hw 109 rfl))) (mvT hZ (own_w hw 109 rfl)) (mvT hZ (own_w hw 108 rfl)) (by decide) (backOf (W := 0) (rmMOut l Z a0 hw [] ad1 (1 : Int32) Hc n0 (Nat.le_trans Z0 Kc0.1) Oc zc2 zc3 (by decide)) hZ (own_w hw 110 rfl) (own_w hw 3 rfl) (by decide) (by decide)) q117a q117c (g := (mkF m 276 #[.val (.int p1), .val (.ref b1), .val (.ref b104), .val (.int (1 : Int32)), .val (.ref ad1), .val (.int (65 : Int32)), .val (.int (83 : Int32))] [(.ref ad1)])) rfl (by rw [hml]; rfl) (Steps.refl _) (argsL := []) (rest := []) (lenOf pd_2 rfl) rfl (by show 2 * 0 + _ ≤ _; exact Nat.le_of_eq rfl) (hb hby at_276) (fun _ _ => ⟨rfl, eh116, (by decide : 3 + 0 ≤ _), (by decide : 310 + 0 ≤ _)⟩)
  dsimp only [Pt.U, Pt.locs, Pt.cells, Pt.slots] at X117 l117 y117 z117 st117 hQ117
  subst l117 y117 z117
  obtain ⟨rfl, N117q, eh117⟩ := hQ117
  have N117 := Fr.app N116 N117q
  refine own_via st117 ?_
  refine own_go (A := T117.setTop (mkF m 283 #[.val (.int p1), .val (.ref b1), .val (.ref b104), .val (.int (1 : Int32)), .val (.ref ad1), .val (.int (65 : Int32)), .val (.int (83 : Int32))] [(.int (83 : Int32)), (.int (65 : Int32)), (.int (0 : Int32))])) (fun t_ k_ => ?_) ?_
  · show Steps p.tables e below (T117.setTop (mkF m 279 #[.val (.int p1), .val (.ref b1), .val (.ref b104), .val (.int (1 : Int32)), .val (.ref ad1), .val (.int (65 : Int32)), .val (.int (83 : Int32))] [(.int (0 : Int32))])) t_
    refine XS.iload X117.here hx rfl (hb hby at_279) rfl ?_
    show Steps p.tables e below (T117.setTop (mkF m 281 #[.val (.int p1), .val (.ref b1), .val (.ref b104), .val (.int (1 : Int32)), .val (.ref ad1), .val (.int (65 : Int32)), .val (.int (83 : Int32))] [(.int (65 : Int32)), (.int (0 : Int32))])) t_
    refine XS.iload X117.here hx rfl (hb hby at_281) rfl ?_
    exact k_
  obtain ⟨_, _, ⟨T118, L118, k118, n118⟩, -, X118, ⟨Lc118, hQ118, l118, y118, z118⟩, st118⟩ := Jvm.LawKit.callS X117 hx (y := own_y8) hown (mvT hZ (own_w hw 120 rfl)) (mvT hZ (own_w hw 121 rfl)) (mvT hZ (own_w hw 122 rfl)) (mvT hZ (own_w hw 123 rfl)) (by decide) (backOf (W := 1) (rmEX l Z a0 hw [] (65 : Int32) (83 : Int32) Hc n0 (Nat.le_trans Z0 Kc0.1) (by decide : ¬ ((65 : Int32) = (79 : Int32))) (by decide : ¬ ((65 : Int32) = (83 : Int32))) (by decide : ¬ ((65 : Int32) = (85 : Int32)))) hZ (own_w hw 123 rfl) (own_w hw 122 rfl) (by decide) (by decide)) (g := (mkF m 283 #[.val (.int p1), .val (.ref b1), .val (.ref b104), .val (.int (1 : Int32)), .val (.ref ad1), .val (.int (65 : Int32)), .val (.int (83 : Int32))] [(.int (83 : Int32)), (.int (65 : Int32)), (.int (0 : Int32))])) rfl (by rw [hml]; rfl) (argsL := [(.int (65 : Int32)), (.int (83 : Int32))]) (rest := [(.int (0 : Int32))]) (lenOf pd_6 rfl) rfl (by show 2 * 0 + _ ≤ _; exact Nat.le_of_eq rfl) (hb hby at_283) (fun _ _ => ⟨rfl, eh117, (by decide : 3 + 0 ≤ _), (by decide : 310 + 0 ≤ _)⟩)
  dsimp only [Pt.U, Pt.locs, Pt.cells, Pt.slots] at X118 l118 y118 z118 st118 hQ118
  subst l118 y118 z118
  obtain ⟨rfl, N118q, eh118⟩ := hQ118
  have N118 := Fr.app N117 N118q
  refine own_go st118 ?_
  refine own_go (A := T118.setTop (mkF m 294 #[.val (.int p1), .val (.ref b1), .val (.ref b104), .val (.int (1 : Int32)), .val (.ref ad1), .val (.int (65 : Int32)), .val (.int (83 : Int32))] [(.int (1 : Int32))])) (fun t_ k_ => ?_) ?_
  · show Steps p.tables e below (T118.setTop (mkF m 286 #[.val (.int p1), .val (.ref b1), .val (.ref b104), .val (.int (1 : Int32)), .val (.ref ad1), .val (.int (65 : Int32)), .val (.int (83 : Int32))] [(.int (0 : Int32)), (.int (0 : Int32))])) t_
    refine XS.icmpNo X118.here hx rfl (hb hby at_286) rfl (teq (by decide : (0 : Int32) = (0 : Int32))).2 ?_
    show Steps p.tables e below (T118.setTop (mkF m 289 #[.val (.int p1), .val (.ref b1), .val (.ref b104), .val (.int (1 : Int32)), .val (.ref ad1), .val (.int (65 : Int32)), .val (.int (83 : Int32))] [])) t_
    refine XS.iconst X118.here hx rfl (hb hby at_289) ?_
    show Steps p.tables e below (T118.setTop (mkF m 290 #[.val (.int p1), .val (.ref b1), .val (.ref b104), .val (.int (1 : Int32)), .val (.ref ad1), .val (.int (65 : Int32)), .val (.int (83 : Int32))] [(.int (1 : Int32))])) t_
    refine XS.goto X118.here hx rfl (pc0 := 290) (pc' := 294) rfl (hb hby at_290) (by decide) (by decide) ?_
    exact k_
  obtain ⟨fs119, hr119, hrun119, hended119, hRW119⟩ := X118.leaveW hS (by rw [eh118]; exact hk) (v := some (.int (1 : Int32))) (fun h => by rw [hret] at h; cases h)
  refine ⟨_, _, ?_, hrun119, hended119, _, _, rfl, ?_, hRW119.1, hRW119.2.1, hRW119.2.2.1, hRW119.2.2.2.mono (by decide) (by decide)⟩
  · exact retN X118 hx (t := .boolean) hret (by simp) (hb hby at_294) hr119
  · show Q_rm0 Z p1 cs sf ad0 ad1 ad2 ad3 ad4 ad5 ad6 ad7 ad8 ad9 ad10 ad11 ad12 ad13 ad14 ad15 ad16 ad17 ad18 ad19 ad20 ad21 ad22 ad23 ad24 ad25 ad26 ad27 ad28 ad29 ad30 ad31 ad32 ad33 h0 n0 _ T118.heap _
    rw [eh118]
    exact ⟨rfl, N118, Kc0⟩
set_option maxRecDepth 65536 in
set_option maxHeartbeats 40000000 in
theorem own_sufad2 (l : Launch) (Z : State) (a0 : Array Value) (hw : ∀ d ∈ tables_1, d.before a0 Z = true) (p1 : Int32) (cs : Int32) (sf : Value) (ad0 : Addr) (ad1 : Addr) (ad2 : Addr) (ad3 : Addr) (ad4 : Addr) (ad5 : Addr) (ad6 : Addr) (ad7 : Addr) (ad8 : Addr) (ad9 : Addr) (ad10 : Addr) (ad11 : Addr) (ad12 : Addr) (ad13 : Addr) (ad14 : Addr) (ad15 : Addr) (ad16 : Addr) (ad17 : Addr) (ad18 : Addr) (ad19 : Addr) (ad20 : Addr) (ad21 : Addr) (ad22 : Addr) (ad23 : Addr) (ad24 : Addr) (ad25 : Addr) (ad26 : Addr) (ad27 : Addr) (ad28 : Addr) (ad29 : Addr) (ad30 : Addr) (ad31 : Addr) (ad32 : Addr) (ad33 : Addr) (b1 : Addr) (b104 : Addr) (d104 : Addr) (kk104 : ClassId) (h0 : Heap) (n0 : Nat) (Z0 : n0 ≤ h0.size) {p : Program} {e : Env} {s : State} {m : MethodId} {below : List Frame} {meth : Method} {c : Code} {Tc : State} {Hc : Heap} {locsc : List Loc} {vmc : Vm} {kc0 : Nat} (Xc : Stand p l e room_1 (s.setVm vmc) m #[(.int p1)] below meth c Tc locsc 3 310) (hx : p.tables.exec = Jvm.exec) (hZ : Z.Warmed39 (s.setVm vmc).vm) (hby : c.code = code) (hml : c.maxLocals = 7) (hown : (s.setVm vmc).vm.findClass "com/example/querent/querent/dicom/VrHasLongLengthPinLaw" = some m.cls) (hret : meth.sig.returnType = some .boolean) (hlk : meth.locks = false) (hh : s.heap = h0) (ec : Tc.heap = Hc) (Nc : Fr n0 locsc) (Kc0 : Keep h0 Hc []) (Oc : Old Z n0 Hc) (hS : s.Since vmc kc0) (hk : kc0 ≤ Hc.size) (hSA : ∀ a ∈ Bundle.stringAtoms, a.before a0 Z = true) (zc0 : Sta Z Z.heap "java/lang/String" "COMPACT_STRINGS" "Z" (.int cs)) (zc1 : Sta Z Z.heap "jdk/internal/util/Preconditions" "SIOOBE_FORMATTER" "Ljava/util/function/BiFunction;" sf) (zc2 : Exa Z Z.heap ad2 "com/example/querent/querent/dicom/Vr") (zc3 : Fld Z Z.heap ad2 "java/lang/Enum" "ordinal" "I" (.int (2 : Int32))) (zc4 : Exa Z Hc b104 "java/lang/String") (zc5 : Fld Z Hc b104 "java/lang/String" "coder" "B" (.int (0 : Int32))) (zc6 : Fld Z Hc b104 "java/lang/String" "value" "[B" (.ref d104)) (zc7 : Arv Z Hc d104 kk104 .byte (68 : Int32) own_txt (.int (0 : Int32))) (hcs : ¬ (cs = (0 : Int32))) (hsf : sf.isRef = true) (hn0 : n0 = h0.size) (hcw : Jvm.Lit.compactW.before a0 Z = true) (hlit : Jvm.Lit.constHeld Z "com/example/querent/querent/dicom/VrHasLongLengthPinLaw" 112) :
    ∃ U_ o_, Steps p.tables e below (Tc.setTop (mkF m 254 #[.val (.int p1), .val (.ref b1), .val (.ref b104), .val (.int (2 : Int32)), .val (.ref ad2), .unset, .unset] [])) U_ ∧ U_.status = .running ∧ Ended U_ below o_ ∧ (∃ v_ L_, o_ = .returned v_ ∧ Q_rm0 Z p1 cs sf ad0 ad1 ad2 ad3 ad4 ad5 ad6 ad7 ad8 ad9 ad10 ad11 ad12 ad13 ad14 ad15 ad16 ad17 ad18 ad19 ad20 ad21 ad22 ad23 ad24 ad25 ad26 ad27 ad28 ad29 ad30 ad31 ad32 ad33 h0 n0 v_ U_.heap L_ ∧ ReturnedEndW s o_ U_ L_ room_1.cells room_1.slots) := by
  refine own_go (A := Tc.setTop (mkF m 258 #[.val (.int p1), .val (.ref b1), .val (.ref b104), .val (.int (2 : Int32)), .val (.ref ad2), .unset, .unset] [(.int (4 : Int32)), (.ref b104)])) (fun t_ k_ => ?_) ?_
  · show Steps p.tables e below (Tc.setTop (mkF m 254 #[.val (.int p1), .val (.ref b1), .val (.ref b104), .val (.int (2 : Int32)), .val (.ref ad2), .unset, .unset] [])) t_
    refine XS.aloadN Xc.here hx rfl (hb hby at_254) rfl rfl ?_
    show Steps p.tables e below (Tc.setTop (mkF m 255 #[.val (.int p1), .val (.ref b1), .val (.ref b104), .val (.int (2 : Int32)), .val (.ref ad2), .unset, .unset] [(.ref b104)])) t_
    refine XS.iconst Xc.here hx rfl (hb hby at_255) ?_
    show Steps p.tables e below (Tc.setTop (mkF m 256 #[.val (.int p1), .val (.ref b1), .val (.ref b104), .val (.int (2 : Int32)), .val (.ref ad2), .unset, .unset] [(.int (2 : Int32)), (.ref b104)])) t_
    refine XS.iloadN Xc.here hx rfl (hb hby at_256) rfl ?_
    show Steps p.tables e below (Tc.setTop (mkF m 257 #[.val (.int p1), .val (.ref b1), .val (.ref b104), .val (.int (2 : Int32)), .val (.ref ad2), .unset, .unset] [(.int (2 : Int32)), (.int (2 : Int32)), (.ref b104)])) t_
    refine XS.imul Xc.here hx rfl (hb hby at_257) rfl ?_
    exact k_
  obtain ⟨cq121, kq121, q121a, q121b, q121c⟩ := isOf hZ ec zc4
  obtain ⟨_, _, ⟨T121, L121, k121, n121⟩, -, X121, ⟨Lc121, hQ121, l121, y121, z121⟩, st121⟩ := Xc.virtualBack hx (y := own_y4) (z := own_y4) hown (mvT hZ (own_w hw 81 rfl)) (mvT hZ (own_w hw 82 rfl)) (notFace_of_selects (args := #[]) (mvT hZ (own_w hw 84 rfl))) (mvT hZ (own_w hw 84 rfl)) (mvT hZ (own_w hw 83 rfl)) (by decide) (backOf (W := 0) (rmChAt l Z a0 hw [] b104 (4 : Int32) d104 kk104 (68 : Int32) own_txt (65 : Int32) sf cs Hc n0 (Nat.le_trans Z0 Kc0.1) Oc zc0 hcs zc1 hsf zc4 zc5 zc6 zc7 (by decide : ¬ ((4 : Int32) < (0 : Int32))) (by decide : (4 : Int32) < (68 : Int32)) rfl) hZ (own_w hw 85 rfl) (own_w hw 73 rfl) (by decide) (by decide)) q121a q121c (g := (mkF m 258 #[.val (.int p1), .val (.ref b1), .val (.ref b104), .val (.int (2 : Int32)), .val (.ref ad2), .unset, .unset] [(.int (4 : Int32)), (.ref b104)])) rfl (by rw [hml]; rfl) (Steps.refl _) (argsL := [(.int (4 : Int32))]) (rest := []) (lenOf pd_5 rfl) rfl (by show 2 * 0 + _ ≤ _; exact Nat.le_of_eq rfl) (hb hby at_258) (fun _ _ => ⟨rfl, ec, (by decide : 3 + 0 ≤ _), (by decide : 310 + 0 ≤ _)⟩)
  dsimp only [Pt.U, Pt.locs, Pt.cells, Pt.slots] at X121 l121 y121 z121 st121 hQ121
  subst l121 y121 z121
  obtain ⟨rfl, N121q, eh121⟩ := hQ121
  have N121 := Fr.app Nc N121q
  refine own_via st121 ?_
  refine own_go (A := T121.setTop (mkF m 269 #[.val (.int p1), .val (.ref b1), .val (.ref b104), .val (.int (2 : Int32)), .val (.ref ad2), .val (.int (65 : Int32)), .unset] [(.int (5 : Int32)), (.ref b104)])) (fun t_ k_ => ?_) ?_
  · show Steps p.tables e below (T121.setTop (mkF m 261 #[.val (.int p1), .val (.ref b1), .val (.ref b104), .val (.int (2 : Int32)), .val (.ref ad2), .unset, .unset] [(.int (65 : Int32))])) t_
    refine XS.istore X121.here hx rfl (hb hby at_261) rfl (l' := #[.val (.int p1), .val (.ref b1), .val (.ref b104), .val (.int (2 : Int32)), .val (.ref ad2), .val (.int (65 : Int32)), .unset]) rfl ?_
    show Steps p.tables e below (T121.setTop (mkF m 263 #[.val (.int p1), .val (.ref b1), .val (.ref b104), .val (.int (2 : Int32)), .val (.ref ad2), .val (.int (65 : Int32)), .unset] [])) t_
    refine XS.aloadN X121.here hx rfl (hb hby at_263) rfl rfl ?_
    show Steps p.tables e below (T121.setTop (mkF m 264 #[.val (.int p1), .val (.ref b1), .val (.ref b104), .val (.int (2 : Int32)), .val (.ref ad2), .val (.int (65 : Int32)), .unset] [(.ref b104)])) t_
    refine XS.iconst X121.here hx rfl (hb hby at_264) ?_
    show Steps p.tables e below (T121.setTop (mkF m 265 #[.val (.int p1), .val (.ref b1), .val (.ref b104), .val (.int (2 : Int32)), .val (.ref ad2), .val (.int (65 : Int32)), .unset] [(.int (2 : Int32)), (.ref b104)])) t_
    refine XS.iloadN X121.here hx rfl (hb hby at_265) rfl ?_
    show Steps p.tables e below (T121.setTop (mkF m 266 #[.val (.int p1), .val (.ref b1), .val (.ref b104), .val (.int (2 : Int32)), .val (.ref ad2), .val (.int (65 : Int32)), .unset] [(.int (2 : Int32)), (.int (2 : Int32)), (.ref b104)])) t_
    refine XS.imul X121.here hx rfl (hb hby at_266) rfl ?_
    show Steps p.tables e below (T121.setTop (mkF m 267 #[.val (.int p1), .val (.ref b1), .val (.ref b104), .val (.int (2 : Int32)), .val (.ref ad2), .val (.int (65 : Int32)), .unset] [(.int (4 : Int32)), (.ref b104)])) t_
    refine XS.iconst X121.here hx rfl (hb hby at_267) ?_
    show Steps p.tables e below (T121.setTop (mkF m 268 #[.val (.int p1), .val (.ref b1), .val (.ref b104), .val (.int (2 : Int32)), .val (.ref ad2), .val (.int (65 : Int32)), .unset] [(.int (1 : Int32)), (.int (4 : Int32)), (.ref b104)])) t_
    refine XS.iadd X121.here hx rfl (hb hby at_268) rfl ?_
    exact k_
  obtain ⟨cq122, kq122, q122a, q122b, q122c⟩ := isOf hZ eh121 zc4
  obtain ⟨_, _, ⟨T122, L122, k122, n122⟩, -, X122, ⟨Lc122, hQ122, l122, y122, z122⟩, st122⟩ := X121.virtualBack hx (y := own_y4) (z := own_y4) hown (mvT hZ (own_w hw 81 rfl)) (mvT hZ (own_w hw 82 rfl)) (notFace_of_selects (args := #[]) (mvT hZ (own_w hw 84 rfl))) (mvT hZ (own_w hw 84 rfl)) (mvT hZ (own_w hw 83 rfl)) (by decide) (backOf (W := 0) (rmChAt l Z a0 hw [] b104 (5 : Int32) d104 kk104 (68 : Int32) own_txt (84 : Int32) sf cs Hc n0 (Nat.le_trans Z0 Kc0.1) Oc zc0 hcs zc1 hsf zc4 zc5 zc6 zc7 (by decide : ¬ ((5 : Int32) < (0 : Int32))) (by decide : (5 : Int32) < (68 : Int32)) rfl) hZ (own_w hw 85 rfl) (own_w hw 73 rfl) (by decide) (by decide)) q122a q122c (g := (mkF m 269 #[.val (.int p1), .val (.ref b1), .val (.ref b104), .val (.int (2 : Int32)), .val (.ref ad2), .val (.int (65 : Int32)), .unset] [(.int (5 : Int32)), (.ref b104)])) rfl (by rw [hml]; rfl) (Steps.refl _) (argsL := [(.int (5 : Int32))]) (rest := []) (lenOf pd_5 rfl) rfl (by show 2 * 0 + _ ≤ _; exact Nat.le_of_eq rfl) (hb hby at_269) (fun _ _ => ⟨rfl, eh121, (by decide : 3 + 0 ≤ _), (by decide : 310 + 0 ≤ _)⟩)
  dsimp only [Pt.U, Pt.locs, Pt.cells, Pt.slots] at X122 l122 y122 z122 st122 hQ122
  subst l122 y122 z122
  obtain ⟨rfl, N122q, eh122⟩ := hQ122
  have N122 := Fr.app N121 N122q
  refine own_via st122 ?_
  refine own_go (A := T122.setTop (mkF m 276 #[.val (.int p1), .val (.ref b1), .val (.ref b104), .val (.int (2 : Int32)), .val (.ref ad2), .val (.int (65 : Int32)), .val (.int (84 : Int32))] [(.ref ad2)])) (fun t_ k_ => ?_) ?_
  · show Steps p.tables e below (T122.setTop (mkF m 272 #[.val (.int p1), .val (.ref b1), .val (.ref b104), .val (.int (2 : Int32)), .val (.ref ad2), .val (.int (65 : Int32)), .unset] [(.int (84 : Int32))])) t_
    refine XS.istore X122.here hx rfl (hb hby at_272) rfl (l' := #[.val (.int p1), .val (.ref b1), .val (.ref b104), .val (.int (2 : Int32)), .val (.ref ad2), .val (.int (65 : Int32)), .val (.int (84 : Int32))]) rfl ?_
    show Steps p.tables e below (T122.setTop (mkF m 274 #[.val (.int p1), .val (.ref b1), .val (.ref b104), .val (.int (2 : Int32)), .val (.ref ad2), .val (.int (65 : Int32)), .val (.int (84 : Int32))] [])) t_
    refine XS.aload X122.here hx rfl (hb hby at_274) rfl rfl ?_
    exact k_
  obtain ⟨cq123, kq123, q123a, q123b, q123c⟩ := isOf hZ eh122 (zc2.ext Oc.2)
  obtain ⟨_, _, ⟨T123, L123, k123, n123⟩, -, X123, ⟨Lc123, hQ123, l123, y123, z123⟩, st123⟩ := X122.virtualBack hx (y := own_y7) (z := own_y7) hown (mvT hZ (own_w hw 106 rfl)) (mvT hZ (own_w hw 107 rfl)) (notFace_of_selects (args := #[]) (mvT hZ (own_w hw 109 rfl))) (mvT hZ (own_w hw 109 rfl)) (mvT hZ (own_w hw 108 rfl)) (by decide) (backOf (W := 0) (rmMOut l Z a0 hw [] ad2 (2 : Int32) Hc n0 (Nat.le_trans Z0 Kc0.1) Oc zc2 zc3 (by decide)) hZ (own_w hw 110 rfl) (own_w hw 3 rfl) (by decide) (by decide)) q123a q123c (g := (mkF m 276 #[.val (.int p1), .val (.ref b1), .val (.ref b104), .val (.int (2 : Int32)), .val (.ref ad2), .val (.int (65 : Int32)), .val (.int (84 : Int32))] [(.ref ad2)])) rfl (by rw [hml]; rfl) (Steps.refl _) (argsL := []) (rest := []) (lenOf pd_2 rfl) rfl (by show 2 * 0 + _ ≤ _; exact Nat.le_of_eq rfl) (hb hby at_276) (fun _ _ => ⟨rfl, eh122, (by decide : 3 + 0 ≤ _), (by decide : 310 + 0 ≤ _)⟩)
  dsimp only [Pt.U, Pt.locs, Pt.cells, Pt.slots] at X123 l123 y123 z123 st123 hQ123
  subst l123 y123 z123
  obtain ⟨rfl, N123q, eh123⟩ := hQ123
  have N123 := Fr.app N122 N123q
  refine own_via st123 ?_
  refine own_go (A := T123.setTop (mkF m 283 #[.val (.int p1), .val (.ref b1), .val (.ref b104), .val (.int (2 : Int32)), .val (.ref ad2), .val (.int (65 : Int32)), .val (.int (84 : Int32))] [(.int (84 : Int32)), (.int (65 : Int32)), (.int (0 : Int32))])) (fun t_ k_ => ?_) ?_
  · show Steps p.tables e below (T123.setTop (mkF m 279 #[.val (.int p1), .val (.ref b1), .val (.ref b104), .val (.int (2 : Int32)), .val (.ref ad2), .val (.int (65 : Int32)), .val (.int (84 : Int32))] [(.int (0 : Int32))])) t_
    refine XS.iload X123.here hx rfl (hb hby at_279) rfl ?_
    show Steps p.tables e below (T123.setTop (mkF m 281 #[.val (.int p1), .val (.ref b1), .val (.ref b104), .val (.int (2 : Int32)), .val (.ref ad2), .val (.int (65 : Int32)), .val (.int (84 : Int32))] [(.int (65 : Int32)), (.int (0 : Int32))])) t_
    refine XS.iload X123.here hx rfl (hb hby at_281) rfl ?_
    exact k_
  obtain ⟨_, _, ⟨T124, L124, k124, n124⟩, -, X124, ⟨Lc124, hQ124, l124, y124, z124⟩, st124⟩ := Jvm.LawKit.callS X123 hx (y := own_y8) hown (mvT hZ (own_w hw 120 rfl)) (mvT hZ (own_w hw 121 rfl)) (mvT hZ (own_w hw 122 rfl)) (mvT hZ (own_w hw 123 rfl)) (by decide) (backOf (W := 1) (rmEX l Z a0 hw [] (65 : Int32) (84 : Int32) Hc n0 (Nat.le_trans Z0 Kc0.1) (by decide : ¬ ((65 : Int32) = (79 : Int32))) (by decide : ¬ ((65 : Int32) = (83 : Int32))) (by decide : ¬ ((65 : Int32) = (85 : Int32)))) hZ (own_w hw 123 rfl) (own_w hw 122 rfl) (by decide) (by decide)) (g := (mkF m 283 #[.val (.int p1), .val (.ref b1), .val (.ref b104), .val (.int (2 : Int32)), .val (.ref ad2), .val (.int (65 : Int32)), .val (.int (84 : Int32))] [(.int (84 : Int32)), (.int (65 : Int32)), (.int (0 : Int32))])) rfl (by rw [hml]; rfl) (argsL := [(.int (65 : Int32)), (.int (84 : Int32))]) (rest := [(.int (0 : Int32))]) (lenOf pd_6 rfl) rfl (by show 2 * 0 + _ ≤ _; exact Nat.le_of_eq rfl) (hb hby at_283) (fun _ _ => ⟨rfl, eh123, (by decide : 3 + 0 ≤ _), (by decide : 310 + 0 ≤ _)⟩)
  dsimp only [Pt.U, Pt.locs, Pt.cells, Pt.slots] at X124 l124 y124 z124 st124 hQ124
  subst l124 y124 z124
  obtain ⟨rfl, N124q, eh124⟩ := hQ124
  have N124 := Fr.app N123 N124q
  refine own_go st124 ?_
  refine own_go (A := T124.setTop (mkF m 294 #[.val (.int p1), .val (.ref b1), .val (.ref b104), .val (.int (2 : Int32)), .val (.ref ad2), .val (.int (65 : Int32)), .val (.int (84 : Int32))] [(.int (1 : Int32))])) (fun t_ k_ => ?_) ?_
  · show Steps p.tables e below (T124.setTop (mkF m 286 #[.val (.int p1), .val (.ref b1), .val (.ref b104), .val (.int (2 : Int32)), .val (.ref ad2), .val (.int (65 : Int32)), .val (.int (84 : Int32))] [(.int (0 : Int32)), (.int (0 : Int32))])) t_
    refine XS.icmpNo X124.here hx rfl (hb hby at_286) rfl (teq (by decide : (0 : Int32) = (0 : Int32))).2 ?_
    show Steps p.tables e below (T124.setTop (mkF m 289 #[.val (.int p1), .val (.ref b1), .val (.ref b104), .val (.int (2 : Int32)), .val (.ref ad2), .val (.int (65 : Int32)), .val (.int (84 : Int32))] [])) t_
    refine XS.iconst X124.here hx rfl (hb hby at_289) ?_
    show Steps p.tables e below (T124.setTop (mkF m 290 #[.val (.int p1), .val (.ref b1), .val (.ref b104), .val (.int (2 : Int32)), .val (.ref ad2), .val (.int (65 : Int32)), .val (.int (84 : Int32))] [(.int (1 : Int32))])) t_
    refine XS.goto X124.here hx rfl (pc0 := 290) (pc' := 294) rfl (hb hby at_290) (by decide) (by decide) ?_
    exact k_
  obtain ⟨fs125, hr125, hrun125, hended125, hRW125⟩ := X124.leaveW hS (by rw [eh124]; exact hk) (v := some (.int (1 : Int32))) (fun h => by rw [hret] at h; cases h)
  refine ⟨_, _, ?_, hrun125, hended125, _, _, rfl, ?_, hRW125.1, hRW125.2.1, hRW125.2.2.1, hRW125.2.2.2.mono (by decide) (by decide)⟩
  · exact retN X124 hx (t := .boolean) hret (by simp) (hb hby at_294) hr125
  · show Q_rm0 Z p1 cs sf ad0 ad1 ad2 ad3 ad4 ad5 ad6 ad7 ad8 ad9 ad10 ad11 ad12 ad13 ad14 ad15 ad16 ad17 ad18 ad19 ad20 ad21 ad22 ad23 ad24 ad25 ad26 ad27 ad28 ad29 ad30 ad31 ad32 ad33 h0 n0 _ T124.heap _
    rw [eh124]
    exact ⟨rfl, N124, Kc0⟩
set_option maxRecDepth 65536 in
set_option maxHeartbeats 40000000 in
theorem own_sufad3 (l : Launch) (Z : State) (a0 : Array Value) (hw : ∀ d ∈ tables_1, d.before a0 Z = true) (p1 : Int32) (cs : Int32) (sf : Value) (ad0 : Addr) (ad1 : Addr) (ad2 : Addr) (ad3 : Addr) (ad4 : Addr) (ad5 : Addr) (ad6 : Addr) (ad7 : Addr) (ad8 : Addr) (ad9 : Addr) (ad10 : Addr) (ad11 : Addr) (ad12 : Addr) (ad13 : Addr) (ad14 : Addr) (ad15 : Addr) (ad16 : Addr) (ad17 : Addr) (ad18 : Addr) (ad19 : Addr) (ad20 : Addr) (ad21 : Addr) (ad22 : Addr) (ad23 : Addr) (ad24 : Addr) (ad25 : Addr) (ad26 : Addr) (ad27 : Addr) (ad28 : Addr) (ad29 : Addr) (ad30 : Addr) (ad31 : Addr) (ad32 : Addr) (ad33 : Addr) (b1 : Addr) (b104 : Addr) (d104 : Addr) (kk104 : ClassId) (h0 : Heap) (n0 : Nat) (Z0 : n0 ≤ h0.size) {p : Program} {e : Env} {s : State} {m : MethodId} {below : List Frame} {meth : Method} {c : Code} {Tc : State} {Hc : Heap} {locsc : List Loc} {vmc : Vm} {kc0 : Nat} (Xc : Stand p l e room_1 (s.setVm vmc) m #[(.int p1)] below meth c Tc locsc 3 310) (hx : p.tables.exec = Jvm.exec) (hZ : Z.Warmed39 (s.setVm vmc).vm) (hby : c.code = code) (hml : c.maxLocals = 7) (hown : (s.setVm vmc).vm.findClass "com/example/querent/querent/dicom/VrHasLongLengthPinLaw" = some m.cls) (hret : meth.sig.returnType = some .boolean) (hlk : meth.locks = false) (hh : s.heap = h0) (ec : Tc.heap = Hc) (Nc : Fr n0 locsc) (Kc0 : Keep h0 Hc []) (Oc : Old Z n0 Hc) (hS : s.Since vmc kc0) (hk : kc0 ≤ Hc.size) (hSA : ∀ a ∈ Bundle.stringAtoms, a.before a0 Z = true) (zc0 : Sta Z Z.heap "java/lang/String" "COMPACT_STRINGS" "Z" (.int cs)) (zc1 : Sta Z Z.heap "jdk/internal/util/Preconditions" "SIOOBE_FORMATTER" "Ljava/util/function/BiFunction;" sf) (zc2 : Exa Z Z.heap ad3 "com/example/querent/querent/dicom/Vr") (zc3 : Fld Z Z.heap ad3 "java/lang/Enum" "ordinal" "I" (.int (3 : Int32))) (zc4 : Exa Z Hc b104 "java/lang/String") (zc5 : Fld Z Hc b104 "java/lang/String" "coder" "B" (.int (0 : Int32))) (zc6 : Fld Z Hc b104 "java/lang/String" "value" "[B" (.ref d104)) (zc7 : Arv Z Hc d104 kk104 .byte (68 : Int32) own_txt (.int (0 : Int32))) (hcs : ¬ (cs = (0 : Int32))) (hsf : sf.isRef = true) (hn0 : n0 = h0.size) (hcw : Jvm.Lit.compactW.before a0 Z = true) (hlit : Jvm.Lit.constHeld Z "com/example/querent/querent/dicom/VrHasLongLengthPinLaw" 112) :
    ∃ U_ o_, Steps p.tables e below (Tc.setTop (mkF m 254 #[.val (.int p1), .val (.ref b1), .val (.ref b104), .val (.int (3 : Int32)), .val (.ref ad3), .unset, .unset] [])) U_ ∧ U_.status = .running ∧ Ended U_ below o_ ∧ (∃ v_ L_, o_ = .returned v_ ∧ Q_rm0 Z p1 cs sf ad0 ad1 ad2 ad3 ad4 ad5 ad6 ad7 ad8 ad9 ad10 ad11 ad12 ad13 ad14 ad15 ad16 ad17 ad18 ad19 ad20 ad21 ad22 ad23 ad24 ad25 ad26 ad27 ad28 ad29 ad30 ad31 ad32 ad33 h0 n0 v_ U_.heap L_ ∧ ReturnedEndW s o_ U_ L_ room_1.cells room_1.slots) := by
  refine own_go (A := Tc.setTop (mkF m 258 #[.val (.int p1), .val (.ref b1), .val (.ref b104), .val (.int (3 : Int32)), .val (.ref ad3), .unset, .unset] [(.int (6 : Int32)), (.ref b104)])) (fun t_ k_ => ?_) ?_
  · show Steps p.tables e below (Tc.setTop (mkF m 254 #[.val (.int p1), .val (.ref b1), .val (.ref b104), .val (.int (3 : Int32)), .val (.ref ad3), .unset, .unset] [])) t_
    refine XS.aloadN Xc.here hx rfl (hb hby at_254) rfl rfl ?_
    show Steps p.tables e below (Tc.setTop (mkF m 255 #[.val (.int p1), .val (.ref b1), .val (.ref b104), .val (.int (3 : Int32)), .val (.ref ad3), .unset, .unset] [(.ref b104)])) t_
    refine XS.iconst Xc.here hx rfl (hb hby at_255) ?_
    show Steps p.tables e below (Tc.setTop (mkF m 256 #[.val (.int p1), .val (.ref b1), .val (.ref b104), .val (.int (3 : Int32)), .val (.ref ad3), .unset, .unset] [(.int (2 : Int32)), (.ref b104)])) t_
    refine XS.iloadN Xc.here hx rfl (hb hby at_256) rfl ?_
    show Steps p.tables e below (Tc.setTop (mkF m 257 #[.val (.int p1), .val (.ref b1), .val (.ref b104), .val (.int (3 : Int32)), .val (.ref ad3), .unset, .unset] [(.int (3 : Int32)), (.int (2 : Int32)), (.ref b104)])) t_
    refine XS.imul Xc.here hx rfl (hb hby at_257) rfl ?_
    exact k_
  obtain ⟨cq127, kq127, q127a, q127b, q127c⟩ := isOf hZ ec zc4
  obtain ⟨_, _, ⟨T127, L127, k127, n127⟩, -, X127, ⟨Lc127, hQ127, l127, y127, z127⟩, st127⟩ := Xc.virtualBack hx (y := own_y4) (z := own_y4) hown (mvT hZ (own_w hw 81 rfl)) (mvT hZ (own_w hw 82 rfl)) (notFace_of_selects (args := #[]) (mvT hZ (own_w hw 84 rfl))) (mvT hZ (own_w hw 84 rfl)) (mvT hZ (own_w hw 83 rfl)) (by decide) (backOf (W := 0) (rmChAt l Z a0 hw [] b104 (6 : Int32) d104 kk104 (68 : Int32) own_txt (67 : Int32) sf cs Hc n0 (Nat.le_trans Z0 Kc0.1) Oc zc0 hcs zc1 hsf zc4 zc5 zc6 zc7 (by decide : ¬ ((6 : Int32) < (0 : Int32))) (by decide : (6 : Int32) < (68 : Int32)) rfl) hZ (own_w hw 85 rfl) (own_w hw 73 rfl) (by decide) (by decide)) q127a q127c (g := (mkF m 258 #[.val (.int p1), .val (.ref b1), .val (.ref b104), .val (.int (3 : Int32)), .val (.ref ad3), .unset, .unset] [(.int (6 : Int32)), (.ref b104)])) rfl (by rw [hml]; rfl) (Steps.refl _) (argsL := [(.int (6 : Int32))]) (rest := []) (lenOf pd_5 rfl) rfl (by show 2 * 0 + _ ≤ _; exact Nat.le_of_eq rfl) (hb hby at_258) (fun _ _ => ⟨rfl, ec, (by decide : 3 + 0 ≤ _), (by decide : 310 + 0 ≤ _)⟩)
  dsimp only [Pt.U, Pt.locs, Pt.cells, Pt.slots] at X127 l127 y127 z127 st127 hQ127
  subst l127 y127 z127
  obtain ⟨rfl, N127q, eh127⟩ := hQ127
  have N127 := Fr.app Nc N127q
  refine own_via st127 ?_
  refine own_go (A := T127.setTop (mkF m 269 #[.val (.int p1), .val (.ref b1), .val (.ref b104), .val (.int (3 : Int32)), .val (.ref ad3), .val (.int (67 : Int32)), .unset] [(.int (7 : Int32)), (.ref b104)])) (fun t_ k_ => ?_) ?_
  · show Steps p.tables e below (T127.setTop (mkF m 261 #[.val (.int p1), .val (.ref b1), .val (.ref b104), .val (.int (3 : Int32)), .val (.ref ad3), .unset, .unset] [(.int (67 : Int32))])) t_
    refine XS.istore X127.here hx rfl (hb hby at_261) rfl (l' := #[.val (.int p1), .val (.ref b1), .val (.ref b104), .val (.int (3 : Int32)), .val (.ref ad3), .val (.int (67 : Int32)), .unset]) rfl ?_
    show Steps p.tables e below (T127.setTop (mkF m 263 #[.val (.int p1), .val (.ref b1), .val (.ref b104), .val (.int (3 : Int32)), .val (.ref ad3), .val (.int (67 : Int32)), .unset] [])) t_
    refine XS.aloadN X127.here hx rfl (hb hby at_263) rfl rfl ?_
    show Steps p.tables e below (T127.setTop (mkF m 264 #[.val (.int p1), .val (.ref b1), .val (.ref b104), .val (.int (3 : Int32)), .val (.ref ad3), .val (.int (67 : Int32)), .unset] [(.ref b104)])) t_
    refine XS.iconst X127.here hx rfl (hb hby at_264) ?_
    show Steps p.tables e below (T127.setTop (mkF m 265 #[.val (.int p1), .val (.ref b1), .val (.ref b104), .val (.int (3 : Int32)), .val (.ref ad3), .val (.int (67 : Int32)), .unset] [(.int (2 : Int32)), (.ref b104)])) t_
    refine XS.iloadN X127.here hx rfl (hb hby at_265) rfl ?_
    show Steps p.tables e below (T127.setTop (mkF m 266 #[.val (.int p1), .val (.ref b1), .val (.ref b104), .val (.int (3 : Int32)), .val (.ref ad3), .val (.int (67 : Int32)), .unset] [(.int (3 : Int32)), (.int (2 : Int32)), (.ref b104)])) t_
    refine XS.imul X127.here hx rfl (hb hby at_266) rfl ?_
    show Steps p.tables e below (T127.setTop (mkF m 267 #[.val (.int p1), .val (.ref b1), .val (.ref b104), .val (.int (3 : Int32)), .val (.ref ad3), .val (.int (67 : Int32)), .unset] [(.int (6 : Int32)), (.ref b104)])) t_
    refine XS.iconst X127.here hx rfl (hb hby at_267) ?_
    show Steps p.tables e below (T127.setTop (mkF m 268 #[.val (.int p1), .val (.ref b1), .val (.ref b104), .val (.int (3 : Int32)), .val (.ref ad3), .val (.int (67 : Int32)), .unset] [(.int (1 : Int32)), (.int (6 : Int32)), (.ref b104)])) t_
    refine XS.iadd X127.here hx rfl (hb hby at_268) rfl ?_
    exact k_
  obtain ⟨cq128, kq128, q128a, q128b, q128c⟩ := isOf hZ eh127 zc4
  obtain ⟨_, _, ⟨T128, L128, k128, n128⟩, -, X128, ⟨Lc128, hQ128, l128, y128, z128⟩, st128⟩ := X127.virtualBack hx (y := own_y4) (z := own_y4) hown (mvT hZ (own_w hw 81 rfl)) (mvT hZ (own_w hw 82 rfl)) (notFace_of_selects (args := #[]) (mvT hZ (own_w hw 84 rfl))) (mvT hZ (own_w hw 84 rfl)) (mvT hZ (own_w hw 83 rfl)) (by decide) (backOf (W := 0) (rmChAt l Z a0 hw [] b104 (7 : Int32) d104 kk104 (68 : Int32) own_txt (83 : Int32) sf cs Hc n0 (Nat.le_trans Z0 Kc0.1) Oc zc0 hcs zc1 hsf zc4 zc5 zc6 zc7 (by decide : ¬ ((7 : Int32) < (0 : Int32))) (by decide : (7 : Int32) < (68 : Int32)) rfl) hZ (own_w hw 85 rfl) (own_w hw 73 rfl) (by decide) (by decide)) q128a q128c (g := (mkF m 269 #[.val (.int p1), .val (.ref b1), .val (.ref b104), .val (.int (3 : Int32)), .val (.ref ad3), .val (.int (67 : Int32)), .unset] [(.int (7 : Int32)), (.ref b104)])) rfl (by rw [hml]; rfl) (Steps.refl _) (argsL := [(.int (7 : Int32))]) (rest := []) (lenOf pd_5 rfl) rfl (by show 2 * 0 + _ ≤ _; exact Nat.le_of_eq rfl) (hb hby at_269) (fun _ _ => ⟨rfl, eh127, (by decide : 3 + 0 ≤ _), (by decide : 310 + 0 ≤ _)⟩)
  dsimp only [Pt.U, Pt.locs, Pt.cells, Pt.slots] at X128 l128 y128 z128 st128 hQ128
  subst l128 y128 z128
  obtain ⟨rfl, N128q, eh128⟩ := hQ128
  have N128 := Fr.app N127 N128q
  refine own_via st128 ?_
  refine own_go (A := T128.setTop (mkF m 276 #[.val (.int p1), .val (.ref b1), .val (.ref b104), .val (.int (3 : Int32)), .val (.ref ad3), .val (.int (67 : Int32)), .val (.int (83 : Int32))] [(.ref ad3)])) (fun t_ k_ => ?_) ?_
  · show Steps p.tables e below (T128.setTop (mkF m 272 #[.val (.int p1), .val (.ref b1), .val (.ref b104), .val (.int (3 : Int32)), .val (.ref ad3), .val (.int (67 : Int32)), .unset] [(.int (83 : Int32))])) t_
    refine XS.istore X128.here hx rfl (hb hby at_272) rfl (l' := #[.val (.int p1), .val (.ref b1), .val (.ref b104), .val (.int (3 : Int32)), .val (.ref ad3), .val (.int (67 : Int32)), .val (.int (83 : Int32))]) rfl ?_
    show Steps p.tables e below (T128.setTop (mkF m 274 #[.val (.int p1), .val (.ref b1), .val (.ref b104), .val (.int (3 : Int32)), .val (.ref ad3), .val (.int (67 : Int32)), .val (.int (83 : Int32))] [])) t_
    refine XS.aload X128.here hx rfl (hb hby at_274) rfl rfl ?_
    exact k_
  obtain ⟨cq129, kq129, q129a, q129b, q129c⟩ := isOf hZ eh128 (zc2.ext Oc.2)
  obtain ⟨_, _, ⟨T129, L129, k129, n129⟩, -, X129, ⟨Lc129, hQ129, l129, y129, z129⟩, st129⟩ := X128.virtualBack hx (y := own_y7) (z := own_y7) hown (mvT hZ (own_w hw 106 rfl)) (mvT hZ (own_w hw 107 rfl)) (notFace_of_selects (args := #[]) (mvT hZ (own_w hw 109 rfl))) (mvT hZ (own_w hw 109 rfl)) (mvT hZ (own_w hw 108 rfl)) (by decide) (backOf (W := 0) (rmMOut l Z a0 hw [] ad3 (3 : Int32) Hc n0 (Nat.le_trans Z0 Kc0.1) Oc zc2 zc3 (by decide)) hZ (own_w hw 110 rfl) (own_w hw 3 rfl) (by decide) (by decide)) q129a q129c (g := (mkF m 276 #[.val (.int p1), .val (.ref b1), .val (.ref b104), .val (.int (3 : Int32)), .val (.ref ad3), .val (.int (67 : Int32)), .val (.int (83 : Int32))] [(.ref ad3)])) rfl (by rw [hml]; rfl) (Steps.refl _) (argsL := []) (rest := []) (lenOf pd_2 rfl) rfl (by show 2 * 0 + _ ≤ _; exact Nat.le_of_eq rfl) (hb hby at_276) (fun _ _ => ⟨rfl, eh128, (by decide : 3 + 0 ≤ _), (by decide : 310 + 0 ≤ _)⟩)
  dsimp only [Pt.U, Pt.locs, Pt.cells, Pt.slots] at X129 l129 y129 z129 st129 hQ129
  subst l129 y129 z129
  obtain ⟨rfl, N129q, eh129⟩ := hQ129
  have N129 := Fr.app N128 N129q
  refine own_via st129 ?_
  refine own_go (A := T129.setTop (mkF m 283 #[.val (.int p1), .val (.ref b1), .val (.ref b104), .val (.int (3 : Int32)), .val (.ref ad3), .val (.int (67 : Int32)), .val (.int (83 : Int32))] [(.int (83 : Int32)), (.int (67 : Int32)), (.int (0 : Int32))])) (fun t_ k_ => ?_) ?_
  · show Steps p.tables e below (T129.setTop (mkF m 279 #[.val (.int p1), .val (.ref b1), .val (.ref b104), .val (.int (3 : Int32)), .val (.ref ad3), .val (.int (67 : Int32)), .val (.int (83 : Int32))] [(.int (0 : Int32))])) t_
    refine XS.iload X129.here hx rfl (hb hby at_279) rfl ?_
    show Steps p.tables e below (T129.setTop (mkF m 281 #[.val (.int p1), .val (.ref b1), .val (.ref b104), .val (.int (3 : Int32)), .val (.ref ad3), .val (.int (67 : Int32)), .val (.int (83 : Int32))] [(.int (67 : Int32)), (.int (0 : Int32))])) t_
    refine XS.iload X129.here hx rfl (hb hby at_281) rfl ?_
    exact k_
  obtain ⟨_, _, ⟨T130, L130, k130, n130⟩, -, X130, ⟨Lc130, hQ130, l130, y130, z130⟩, st130⟩ := Jvm.LawKit.callS X129 hx (y := own_y8) hown (mvT hZ (own_w hw 120 rfl)) (mvT hZ (own_w hw 121 rfl)) (mvT hZ (own_w hw 122 rfl)) (mvT hZ (own_w hw 123 rfl)) (by decide) (backOf (W := 1) (rmEX l Z a0 hw [] (67 : Int32) (83 : Int32) Hc n0 (Nat.le_trans Z0 Kc0.1) (by decide : ¬ ((67 : Int32) = (79 : Int32))) (by decide : ¬ ((67 : Int32) = (83 : Int32))) (by decide : ¬ ((67 : Int32) = (85 : Int32)))) hZ (own_w hw 123 rfl) (own_w hw 122 rfl) (by decide) (by decide)) (g := (mkF m 283 #[.val (.int p1), .val (.ref b1), .val (.ref b104), .val (.int (3 : Int32)), .val (.ref ad3), .val (.int (67 : Int32)), .val (.int (83 : Int32))] [(.int (83 : Int32)), (.int (67 : Int32)), (.int (0 : Int32))])) rfl (by rw [hml]; rfl) (argsL := [(.int (67 : Int32)), (.int (83 : Int32))]) (rest := [(.int (0 : Int32))]) (lenOf pd_6 rfl) rfl (by show 2 * 0 + _ ≤ _; exact Nat.le_of_eq rfl) (hb hby at_283) (fun _ _ => ⟨rfl, eh129, (by decide : 3 + 0 ≤ _), (by decide : 310 + 0 ≤ _)⟩)
  dsimp only [Pt.U, Pt.locs, Pt.cells, Pt.slots] at X130 l130 y130 z130 st130 hQ130
  subst l130 y130 z130
  obtain ⟨rfl, N130q, eh130⟩ := hQ130
  have N130 := Fr.app N129 N130q
  refine own_go st130 ?_
  refine own_go (A := T130.setTop (mkF m 294 #[.val (.int p1), .val (.ref b1), .val (.ref b104), .val (.int (3 : Int32)), .val (.ref ad3), .val (.int (67 : Int32)), .val (.int (83 : Int32))] [(.int (1 : Int32))])) (fun t_ k_ => ?_) ?_
  · show Steps p.tables e below (T130.setTop (mkF m 286 #[.val (.int p1), .val (.ref b1), .val (.ref b104), .val (.int (3 : Int32)), .val (.ref ad3), .val (.int (67 : Int32)), .val (.int (83 : Int32))] [(.int (0 : Int32)), (.int (0 : Int32))])) t_
    refine XS.icmpNo X130.here hx rfl (hb hby at_286) rfl (teq (by decide : (0 : Int32) = (0 : Int32))).2 ?_
    show Steps p.tables e below (T130.setTop (mkF m 289 #[.val (.int p1), .val (.ref b1), .val (.ref b104), .val (.int (3 : Int32)), .val (.ref ad3), .val (.int (67 : Int32)), .val (.int (83 : Int32))] [])) t_
    refine XS.iconst X130.here hx rfl (hb hby at_289) ?_
    show Steps p.tables e below (T130.setTop (mkF m 290 #[.val (.int p1), .val (.ref b1), .val (.ref b104), .val (.int (3 : Int32)), .val (.ref ad3), .val (.int (67 : Int32)), .val (.int (83 : Int32))] [(.int (1 : Int32))])) t_
    refine XS.goto X130.here hx rfl (pc0 := 290) (pc' := 294) rfl (hb hby at_290) (by decide) (by decide) ?_
    exact k_
  obtain ⟨fs131, hr131, hrun131, hended131, hRW131⟩ := X130.leaveW hS (by rw [eh130]; exact hk) (v := some (.int (1 : Int32))) (fun h => by rw [hret] at h; cases h)
  refine ⟨_, _, ?_, hrun131, hended131, _, _, rfl, ?_, hRW131.1, hRW131.2.1, hRW131.2.2.1, hRW131.2.2.2.mono (by decide) (by decide)⟩
  · exact retN X130 hx (t := .boolean) hret (by simp) (hb hby at_294) hr131
  · show Q_rm0 Z p1 cs sf ad0 ad1 ad2 ad3 ad4 ad5 ad6 ad7 ad8 ad9 ad10 ad11 ad12 ad13 ad14 ad15 ad16 ad17 ad18 ad19 ad20 ad21 ad22 ad23 ad24 ad25 ad26 ad27 ad28 ad29 ad30 ad31 ad32 ad33 h0 n0 _ T130.heap _
    rw [eh130]
    exact ⟨rfl, N130, Kc0⟩
set_option maxRecDepth 65536 in
set_option maxHeartbeats 40000000 in
theorem own_sufad4 (l : Launch) (Z : State) (a0 : Array Value) (hw : ∀ d ∈ tables_1, d.before a0 Z = true) (p1 : Int32) (cs : Int32) (sf : Value) (ad0 : Addr) (ad1 : Addr) (ad2 : Addr) (ad3 : Addr) (ad4 : Addr) (ad5 : Addr) (ad6 : Addr) (ad7 : Addr) (ad8 : Addr) (ad9 : Addr) (ad10 : Addr) (ad11 : Addr) (ad12 : Addr) (ad13 : Addr) (ad14 : Addr) (ad15 : Addr) (ad16 : Addr) (ad17 : Addr) (ad18 : Addr) (ad19 : Addr) (ad20 : Addr) (ad21 : Addr) (ad22 : Addr) (ad23 : Addr) (ad24 : Addr) (ad25 : Addr) (ad26 : Addr) (ad27 : Addr) (ad28 : Addr) (ad29 : Addr) (ad30 : Addr) (ad31 : Addr) (ad32 : Addr) (ad33 : Addr) (b1 : Addr) (b104 : Addr) (d104 : Addr) (kk104 : ClassId) (h0 : Heap) (n0 : Nat) (Z0 : n0 ≤ h0.size) {p : Program} {e : Env} {s : State} {m : MethodId} {below : List Frame} {meth : Method} {c : Code} {Tc : State} {Hc : Heap} {locsc : List Loc} {vmc : Vm} {kc0 : Nat} (Xc : Stand p l e room_1 (s.setVm vmc) m #[(.int p1)] below meth c Tc locsc 3 310) (hx : p.tables.exec = Jvm.exec) (hZ : Z.Warmed39 (s.setVm vmc).vm) (hby : c.code = code) (hml : c.maxLocals = 7) (hown : (s.setVm vmc).vm.findClass "com/example/querent/querent/dicom/VrHasLongLengthPinLaw" = some m.cls) (hret : meth.sig.returnType = some .boolean) (hlk : meth.locks = false) (hh : s.heap = h0) (ec : Tc.heap = Hc) (Nc : Fr n0 locsc) (Kc0 : Keep h0 Hc []) (Oc : Old Z n0 Hc) (hS : s.Since vmc kc0) (hk : kc0 ≤ Hc.size) (hSA : ∀ a ∈ Bundle.stringAtoms, a.before a0 Z = true) (zc0 : Sta Z Z.heap "java/lang/String" "COMPACT_STRINGS" "Z" (.int cs)) (zc1 : Sta Z Z.heap "jdk/internal/util/Preconditions" "SIOOBE_FORMATTER" "Ljava/util/function/BiFunction;" sf) (zc2 : Exa Z Z.heap ad4 "com/example/querent/querent/dicom/Vr") (zc3 : Fld Z Z.heap ad4 "java/lang/Enum" "ordinal" "I" (.int (4 : Int32))) (zc4 : Exa Z Hc b104 "java/lang/String") (zc5 : Fld Z Hc b104 "java/lang/String" "coder" "B" (.int (0 : Int32))) (zc6 : Fld Z Hc b104 "java/lang/String" "value" "[B" (.ref d104)) (zc7 : Arv Z Hc d104 kk104 .byte (68 : Int32) own_txt (.int (0 : Int32))) (hcs : ¬ (cs = (0 : Int32))) (hsf : sf.isRef = true) (hn0 : n0 = h0.size) (hcw : Jvm.Lit.compactW.before a0 Z = true) (hlit : Jvm.Lit.constHeld Z "com/example/querent/querent/dicom/VrHasLongLengthPinLaw" 112) :
    ∃ U_ o_, Steps p.tables e below (Tc.setTop (mkF m 254 #[.val (.int p1), .val (.ref b1), .val (.ref b104), .val (.int (4 : Int32)), .val (.ref ad4), .unset, .unset] [])) U_ ∧ U_.status = .running ∧ Ended U_ below o_ ∧ (∃ v_ L_, o_ = .returned v_ ∧ Q_rm0 Z p1 cs sf ad0 ad1 ad2 ad3 ad4 ad5 ad6 ad7 ad8 ad9 ad10 ad11 ad12 ad13 ad14 ad15 ad16 ad17 ad18 ad19 ad20 ad21 ad22 ad23 ad24 ad25 ad26 ad27 ad28 ad29 ad30 ad31 ad32 ad33 h0 n0 v_ U_.heap L_ ∧ ReturnedEndW s o_ U_ L_ room_1.cells room_1.slots) := by
  refine own_go (A := Tc.setTop (mkF m 258 #[.val (.int p1), .val (.ref b1), .val (.ref b104), .val (.int (4 : Int32)), .val (.ref ad4), .unset, .unset] [(.int (8 : Int32)), (.ref b104)])) (fun t_ k_ => ?_) ?_
  · show Steps p.tables e below (Tc.setTop (mkF m 254 #[.val (.int p1), .val (.ref b1), .val (.ref b104), .val (.int (4 : Int32)), .val (.ref ad4), .unset, .unset] [])) t_
    refine XS.aloadN Xc.here hx rfl (hb hby at_254) rfl rfl ?_
    show Steps p.tables e below (Tc.setTop (mkF m 255 #[.val (.int p1), .val (.ref b1), .val (.ref b104), .val (.int (4 : Int32)), .val (.ref ad4), .unset, .unset] [(.ref b104)])) t_
    refine XS.iconst Xc.here hx rfl (hb hby at_255) ?_
    show Steps p.tables e below (Tc.setTop (mkF m 256 #[.val (.int p1), .val (.ref b1), .val (.ref b104), .val (.int (4 : Int32)), .val (.ref ad4), .unset, .unset] [(.int (2 : Int32)), (.ref b104)])) t_
    refine XS.iloadN Xc.here hx rfl (hb hby at_256) rfl ?_
    show Steps p.tables e below (Tc.setTop (mkF m 257 #[.val (.int p1), .val (.ref b1), .val (.ref b104), .val (.int (4 : Int32)), .val (.ref ad4), .unset, .unset] [(.int (4 : Int32)), (.int (2 : Int32)), (.ref b104)])) t_
    refine XS.imul Xc.here hx rfl (hb hby at_257) rfl ?_
    exact k_
  obtain ⟨cq133, kq133, q133a, q133b, q133c⟩ := isOf hZ ec zc4
  obtain ⟨_, _, ⟨T133, L133, k133, n133⟩, -, X133, ⟨Lc133, hQ133, l133, y133, z133⟩, st133⟩ := Xc.virtualBack hx (y := own_y4) (z := own_y4) hown (mvT hZ (own_w hw 81 rfl)) (mvT hZ (own_w hw 82 rfl)) (notFace_of_selects (args := #[]) (mvT hZ (own_w hw 84 rfl))) (mvT hZ (own_w hw 84 rfl)) (mvT hZ (own_w hw 83 rfl)) (by decide) (backOf (W := 0) (rmChAt l Z a0 hw [] b104 (8 : Int32) d104 kk104 (68 : Int32) own_txt (68 : Int32) sf cs Hc n0 (Nat.le_trans Z0 Kc0.1) Oc zc0 hcs zc1 hsf zc4 zc5 zc6 zc7 (by decide : ¬ ((8 : Int32) < (0 : Int32))) (by decide : (8 : Int32) < (68 : Int32)) rfl) hZ (own_w hw 85 rfl) (own_w hw 73 rfl) (by decide) (by decide)) q133a q133c (g := (mkF m 258 #[.val (.int p1), .val (.ref b1), .val (.ref b104), .val (.int (4 : Int32)), .val (.ref ad4), .unset, .unset] [(.int (8 : Int32)), (.ref b104)])) rfl (by rw [hml]; rfl) (Steps.refl _) (argsL := [(.int (8 : Int32))]) (rest := []) (lenOf pd_5 rfl) rfl (by show 2 * 0 + _ ≤ _; exact Nat.le_of_eq rfl) (hb hby at_258) (fun _ _ => ⟨rfl, ec, (by decide : 3 + 0 ≤ _), (by decide : 310 + 0 ≤ _)⟩)
  dsimp only [Pt.U, Pt.locs, Pt.cells, Pt.slots] at X133 l133 y133 z133 st133 hQ133
  subst l133 y133 z133
  obtain ⟨rfl, N133q, eh133⟩ := hQ133
  have N133 := Fr.app Nc N133q
  refine own_via st133 ?_
  refine own_go (A := T133.setTop (mkF m 269 #[.val (.int p1), .val (.ref b1), .val (.ref b104), .val (.int (4 : Int32)), .val (.ref ad4), .val (.int (68 : Int32)), .unset] [(.int (9 : Int32)), (.ref b104)])) (fun t_ k_ => ?_) ?_
  · show Steps p.tables e below (T133.setTop (mkF m 261 #[.val (.int p1), .val (.ref b1), .val (.ref b104), .val (.int (4 : Int32)), .val (.ref ad4), .unset, .unset] [(.int (68 : Int32))])) t_
    refine XS.istore X133.here hx rfl (hb hby at_261) rfl (l' := #[.val (.int p1), .val (.ref b1), .val (.ref b104), .val (.int (4 : Int32)), .val (.ref ad4), .val (.int (68 : Int32)), .unset]) rfl ?_
    show Steps p.tables e below (T133.setTop (mkF m 263 #[.val (.int p1), .val (.ref b1), .val (.ref b104), .val (.int (4 : Int32)), .val (.ref ad4), .val (.int (68 : Int32)), .unset] [])) t_
    refine XS.aloadN X133.here hx rfl (hb hby at_263) rfl rfl ?_
    show Steps p.tables e below (T133.setTop (mkF m 264 #[.val (.int p1), .val (.ref b1), .val (.ref b104), .val (.int (4 : Int32)), .val (.ref ad4), .val (.int (68 : Int32)), .unset] [(.ref b104)])) t_
    refine XS.iconst X133.here hx rfl (hb hby at_264) ?_
    show Steps p.tables e below (T133.setTop (mkF m 265 #[.val (.int p1), .val (.ref b1), .val (.ref b104), .val (.int (4 : Int32)), .val (.ref ad4), .val (.int (68 : Int32)), .unset] [(.int (2 : Int32)), (.ref b104)])) t_
    refine XS.iloadN X133.here hx rfl (hb hby at_265) rfl ?_
    show Steps p.tables e below (T133.setTop (mkF m 266 #[.val (.int p1), .val (.ref b1), .val (.ref b104), .val (.int (4 : Int32)), .val (.ref ad4), .val (.int (68 : Int32)), .unset] [(.int (4 : Int32)), (.int (2 : Int32)), (.ref b104)])) t_
    refine XS.imul X133.here hx rfl (hb hby at_266) rfl ?_
    show Steps p.tables e below (T133.setTop (mkF m 267 #[.val (.int p1), .val (.ref b1), .val (.ref b104), .val (.int (4 : Int32)), .val (.ref ad4), .val (.int (68 : Int32)), .unset] [(.int (8 : Int32)), (.ref b104)])) t_
    refine XS.iconst X133.here hx rfl (hb hby at_267) ?_
    show Steps p.tables e below (T133.setTop (mkF m 268 #[.val (.int p1), .val (.ref b1), .val (.ref b104), .val (.int (4 : Int32)), .val (.ref ad4), .val (.int (68 : Int32)), .unset] [(.int (1 : Int32)), (.int (8 : Int32)), (.ref b104)])) t_
    refine XS.iadd X133.here hx rfl (hb hby at_268) rfl ?_
    exact k_
  obtain ⟨cq134, kq134, q134a, q134b, q134c⟩ := isOf hZ eh133 zc4
  obtain ⟨_, _, ⟨T134, L134, k134, n134⟩, -, X134, ⟨Lc134, hQ134, l134, y134, z134⟩, st134⟩ := X133.virtualBack hx (y := own_y4) (z := own_y4) hown (mvT hZ (own_w hw 81 rfl)) (mvT hZ (own_w hw 82 rfl)) (notFace_of_selects (args := #[]) (mvT hZ (own_w hw 84 rfl))) (mvT hZ (own_w hw 84 rfl)) (mvT hZ (own_w hw 83 rfl)) (by decide) (backOf (W := 0) (rmChAt l Z a0 hw [] b104 (9 : Int32) d104 kk104 (68 : Int32) own_txt (65 : Int32) sf cs Hc n0 (Nat.le_trans Z0 Kc0.1) Oc zc0 hcs zc1 hsf zc4 zc5 zc6 zc7 (by decide : ¬ ((9 : Int32) < (0 : Int32))) (by decide : (9 : Int32) < (68 : Int32)) rfl) hZ (own_w hw 85 rfl) (own_w hw 73 rfl) (by decide) (by decide)) q134a q134c (g := (mkF m 269 #[.val (.int p1), .val (.ref b1), .val (.ref b104), .val (.int (4 : Int32)), .val (.ref ad4), .val (.int (68 : Int32)), .unset] [(.int (9 : Int32)), (.ref b104)])) rfl (by rw [hml]; rfl) (Steps.refl _) (argsL := [(.int (9 : Int32))]) (rest := []) (lenOf pd_5 rfl) rfl (by show 2 * 0 + _ ≤ _; exact Nat.le_of_eq rfl) (hb hby at_269) (fun _ _ => ⟨rfl, eh133, (by decide : 3 + 0 ≤ _), (by decide : 310 + 0 ≤ _)⟩)
  dsimp only [Pt.U, Pt.locs, Pt.cells, Pt.slots] at X134 l134 y134 z134 st134 hQ134
  subst l134 y134 z134
  obtain ⟨rfl, N134q, eh134⟩ := hQ134
  have N134 := Fr.app N133 N134q
  refine own_via st134 ?_
  refine own_go (A := T134.setTop (mkF m 276 #[.val (.int p1), .val (.ref b1), .val (.ref b104), .val (.int (4 : Int32)), .val (.ref ad4), .val (.int (68 : Int32)), .val (.int (65 : Int32))] [(.ref ad4)])) (fun t_ k_ => ?_) ?_
  · show Steps p.tables e below (T134.setTop (mkF m 272 #[.val (.int p1), .val (.ref b1), .val (.ref b104), .val (.int (4 : Int32)), .val (.ref ad4), .val (.int (68 : Int32)), .unset] [(.int (65 : Int32))])) t_
    refine XS.istore X134.here hx rfl (hb hby at_272) rfl (l' := #[.val (.int p1), .val (.ref b1), .val (.ref b104), .val (.int (4 : Int32)), .val (.ref ad4), .val (.int (68 : Int32)), .val (.int (65 : Int32))]) rfl ?_
    show Steps p.tables e below (T134.setTop (mkF m 274 #[.val (.int p1), .val (.ref b1), .val (.ref b104), .val (.int (4 : Int32)), .val (.ref ad4), .val (.int (68 : Int32)), .val (.int (65 : Int32))] [])) t_
    refine XS.aload X134.here hx rfl (hb hby at_274) rfl rfl ?_
    exact k_
  obtain ⟨cq135, kq135, q135a, q135b, q135c⟩ := isOf hZ eh134 (zc2.ext Oc.2)
  obtain ⟨_, _, ⟨T135, L135, k135, n135⟩, -, X135, ⟨Lc135, hQ135, l135, y135, z135⟩, st135⟩ := X134.virtualBack hx (y := own_y7) (z := own_y7) hown (mvT hZ (own_w hw 106 rfl)) (mvT hZ (own_w hw 107 rfl)) (notFace_of_selects (args := #[]) (mvT hZ (own_w hw 109 rfl))) (mvT hZ (own_w hw 109 rfl)) (mvT hZ (own_w hw 108 rfl)) (by decide) (backOf (W := 0) (rmMOut l Z a0 hw [] ad4 (4 : Int32) Hc n0 (Nat.le_trans Z0 Kc0.1) Oc zc2 zc3 (by decide)) hZ (own_w hw 110 rfl) (own_w hw 3 rfl) (by decide) (by decide)) q135a q135c (g := (mkF m 276 #[.val (.int p1), .val (.ref b1), .val (.ref b104), .val (.int (4 : Int32)), .val (.ref ad4), .val (.int (68 : Int32)), .val (.int (65 : Int32))] [(.ref ad4)])) rfl (by rw [hml]; rfl) (Steps.refl _) (argsL := []) (rest := []) (lenOf pd_2 rfl) rfl (by show 2 * 0 + _ ≤ _; exact Nat.le_of_eq rfl) (hb hby at_276) (fun _ _ => ⟨rfl, eh134, (by decide : 3 + 0 ≤ _), (by decide : 310 + 0 ≤ _)⟩)
  dsimp only [Pt.U, Pt.locs, Pt.cells, Pt.slots] at X135 l135 y135 z135 st135 hQ135
  subst l135 y135 z135
  obtain ⟨rfl, N135q, eh135⟩ := hQ135
  have N135 := Fr.app N134 N135q
  refine own_via st135 ?_
  refine own_go (A := T135.setTop (mkF m 283 #[.val (.int p1), .val (.ref b1), .val (.ref b104), .val (.int (4 : Int32)), .val (.ref ad4), .val (.int (68 : Int32)), .val (.int (65 : Int32))] [(.int (65 : Int32)), (.int (68 : Int32)), (.int (0 : Int32))])) (fun t_ k_ => ?_) ?_
  · show Steps p.tables e below (T135.setTop (mkF m 279 #[.val (.int p1), .val (.ref b1), .val (.ref b104), .val (.int (4 : Int32)), .val (.ref ad4), .val (.int (68 : Int32)), .val (.int (65 : Int32))] [(.int (0 : Int32))])) t_
    refine XS.iload X135.here hx rfl (hb hby at_279) rfl ?_
    show Steps p.tables e below (T135.setTop (mkF m 281 #[.val (.int p1), .val (.ref b1), .val (.ref b104), .val (.int (4 : Int32)), .val (.ref ad4), .val (.int (68 : Int32)), .val (.int (65 : Int32))] [(.int (68 : Int32)), (.int (0 : Int32))])) t_
    refine XS.iload X135.here hx rfl (hb hby at_281) rfl ?_
    exact k_
  obtain ⟨_, _, ⟨T136, L136, k136, n136⟩, -, X136, ⟨Lc136, hQ136, l136, y136, z136⟩, st136⟩ := Jvm.LawKit.callS X135 hx (y := own_y8) hown (mvT hZ (own_w hw 120 rfl)) (mvT hZ (own_w hw 121 rfl)) (mvT hZ (own_w hw 122 rfl)) (mvT hZ (own_w hw 123 rfl)) (by decide) (backOf (W := 1) (rmEX l Z a0 hw [] (68 : Int32) (65 : Int32) Hc n0 (Nat.le_trans Z0 Kc0.1) (by decide : ¬ ((68 : Int32) = (79 : Int32))) (by decide : ¬ ((68 : Int32) = (83 : Int32))) (by decide : ¬ ((68 : Int32) = (85 : Int32)))) hZ (own_w hw 123 rfl) (own_w hw 122 rfl) (by decide) (by decide)) (g := (mkF m 283 #[.val (.int p1), .val (.ref b1), .val (.ref b104), .val (.int (4 : Int32)), .val (.ref ad4), .val (.int (68 : Int32)), .val (.int (65 : Int32))] [(.int (65 : Int32)), (.int (68 : Int32)), (.int (0 : Int32))])) rfl (by rw [hml]; rfl) (argsL := [(.int (68 : Int32)), (.int (65 : Int32))]) (rest := [(.int (0 : Int32))]) (lenOf pd_6 rfl) rfl (by show 2 * 0 + _ ≤ _; exact Nat.le_of_eq rfl) (hb hby at_283) (fun _ _ => ⟨rfl, eh135, (by decide : 3 + 0 ≤ _), (by decide : 310 + 0 ≤ _)⟩)
  dsimp only [Pt.U, Pt.locs, Pt.cells, Pt.slots] at X136 l136 y136 z136 st136 hQ136
  subst l136 y136 z136
  obtain ⟨rfl, N136q, eh136⟩ := hQ136
  have N136 := Fr.app N135 N136q
  refine own_go st136 ?_
  refine own_go (A := T136.setTop (mkF m 294 #[.val (.int p1), .val (.ref b1), .val (.ref b104), .val (.int (4 : Int32)), .val (.ref ad4), .val (.int (68 : Int32)), .val (.int (65 : Int32))] [(.int (1 : Int32))])) (fun t_ k_ => ?_) ?_
  · show Steps p.tables e below (T136.setTop (mkF m 286 #[.val (.int p1), .val (.ref b1), .val (.ref b104), .val (.int (4 : Int32)), .val (.ref ad4), .val (.int (68 : Int32)), .val (.int (65 : Int32))] [(.int (0 : Int32)), (.int (0 : Int32))])) t_
    refine XS.icmpNo X136.here hx rfl (hb hby at_286) rfl (teq (by decide : (0 : Int32) = (0 : Int32))).2 ?_
    show Steps p.tables e below (T136.setTop (mkF m 289 #[.val (.int p1), .val (.ref b1), .val (.ref b104), .val (.int (4 : Int32)), .val (.ref ad4), .val (.int (68 : Int32)), .val (.int (65 : Int32))] [])) t_
    refine XS.iconst X136.here hx rfl (hb hby at_289) ?_
    show Steps p.tables e below (T136.setTop (mkF m 290 #[.val (.int p1), .val (.ref b1), .val (.ref b104), .val (.int (4 : Int32)), .val (.ref ad4), .val (.int (68 : Int32)), .val (.int (65 : Int32))] [(.int (1 : Int32))])) t_
    refine XS.goto X136.here hx rfl (pc0 := 290) (pc' := 294) rfl (hb hby at_290) (by decide) (by decide) ?_
    exact k_
  obtain ⟨fs137, hr137, hrun137, hended137, hRW137⟩ := X136.leaveW hS (by rw [eh136]; exact hk) (v := some (.int (1 : Int32))) (fun h => by rw [hret] at h; cases h)
  refine ⟨_, _, ?_, hrun137, hended137, _, _, rfl, ?_, hRW137.1, hRW137.2.1, hRW137.2.2.1, hRW137.2.2.2.mono (by decide) (by decide)⟩
  · exact retN X136 hx (t := .boolean) hret (by simp) (hb hby at_294) hr137
  · show Q_rm0 Z p1 cs sf ad0 ad1 ad2 ad3 ad4 ad5 ad6 ad7 ad8 ad9 ad10 ad11 ad12 ad13 ad14 ad15 ad16 ad17 ad18 ad19 ad20 ad21 ad22 ad23 ad24 ad25 ad26 ad27 ad28 ad29 ad30 ad31 ad32 ad33 h0 n0 _ T136.heap _
    rw [eh136]
    exact ⟨rfl, N136, Kc0⟩
set_option maxRecDepth 65536 in
set_option maxHeartbeats 40000000 in
theorem own_sufad5 (l : Launch) (Z : State) (a0 : Array Value) (hw : ∀ d ∈ tables_1, d.before a0 Z = true) (p1 : Int32) (cs : Int32) (sf : Value) (ad0 : Addr) (ad1 : Addr) (ad2 : Addr) (ad3 : Addr) (ad4 : Addr) (ad5 : Addr) (ad6 : Addr) (ad7 : Addr) (ad8 : Addr) (ad9 : Addr) (ad10 : Addr) (ad11 : Addr) (ad12 : Addr) (ad13 : Addr) (ad14 : Addr) (ad15 : Addr) (ad16 : Addr) (ad17 : Addr) (ad18 : Addr) (ad19 : Addr) (ad20 : Addr) (ad21 : Addr) (ad22 : Addr) (ad23 : Addr) (ad24 : Addr) (ad25 : Addr) (ad26 : Addr) (ad27 : Addr) (ad28 : Addr) (ad29 : Addr) (ad30 : Addr) (ad31 : Addr) (ad32 : Addr) (ad33 : Addr) (b1 : Addr) (b104 : Addr) (d104 : Addr) (kk104 : ClassId) (h0 : Heap) (n0 : Nat) (Z0 : n0 ≤ h0.size) {p : Program} {e : Env} {s : State} {m : MethodId} {below : List Frame} {meth : Method} {c : Code} {Tc : State} {Hc : Heap} {locsc : List Loc} {vmc : Vm} {kc0 : Nat} (Xc : Stand p l e room_1 (s.setVm vmc) m #[(.int p1)] below meth c Tc locsc 3 310) (hx : p.tables.exec = Jvm.exec) (hZ : Z.Warmed39 (s.setVm vmc).vm) (hby : c.code = code) (hml : c.maxLocals = 7) (hown : (s.setVm vmc).vm.findClass "com/example/querent/querent/dicom/VrHasLongLengthPinLaw" = some m.cls) (hret : meth.sig.returnType = some .boolean) (hlk : meth.locks = false) (hh : s.heap = h0) (ec : Tc.heap = Hc) (Nc : Fr n0 locsc) (Kc0 : Keep h0 Hc []) (Oc : Old Z n0 Hc) (hS : s.Since vmc kc0) (hk : kc0 ≤ Hc.size) (hSA : ∀ a ∈ Bundle.stringAtoms, a.before a0 Z = true) (zc0 : Sta Z Z.heap "java/lang/String" "COMPACT_STRINGS" "Z" (.int cs)) (zc1 : Sta Z Z.heap "jdk/internal/util/Preconditions" "SIOOBE_FORMATTER" "Ljava/util/function/BiFunction;" sf) (zc2 : Exa Z Z.heap ad5 "com/example/querent/querent/dicom/Vr") (zc3 : Fld Z Z.heap ad5 "java/lang/Enum" "ordinal" "I" (.int (5 : Int32))) (zc4 : Exa Z Hc b104 "java/lang/String") (zc5 : Fld Z Hc b104 "java/lang/String" "coder" "B" (.int (0 : Int32))) (zc6 : Fld Z Hc b104 "java/lang/String" "value" "[B" (.ref d104)) (zc7 : Arv Z Hc d104 kk104 .byte (68 : Int32) own_txt (.int (0 : Int32))) (hcs : ¬ (cs = (0 : Int32))) (hsf : sf.isRef = true) (hn0 : n0 = h0.size) (hcw : Jvm.Lit.compactW.before a0 Z = true) (hlit : Jvm.Lit.constHeld Z "com/example/querent/querent/dicom/VrHasLongLengthPinLaw" 112) :
    ∃ U_ o_, Steps p.tables e below (Tc.setTop (mkF m 254 #[.val (.int p1), .val (.ref b1), .val (.ref b104), .val (.int (5 : Int32)), .val (.ref ad5), .unset, .unset] [])) U_ ∧ U_.status = .running ∧ Ended U_ below o_ ∧ (∃ v_ L_, o_ = .returned v_ ∧ Q_rm0 Z p1 cs sf ad0 ad1 ad2 ad3 ad4 ad5 ad6 ad7 ad8 ad9 ad10 ad11 ad12 ad13 ad14 ad15 ad16 ad17 ad18 ad19 ad20 ad21 ad22 ad23 ad24 ad25 ad26 ad27 ad28 ad29 ad30 ad31 ad32 ad33 h0 n0 v_ U_.heap L_ ∧ ReturnedEndW s o_ U_ L_ room_1.cells room_1.slots) := by
  refine own_go (A := Tc.setTop (mkF m 258 #[.val (.int p1), .val (.ref b1), .val (.ref b104), .val (.int (5 : Int32)), .val (.ref ad5), .unset, .unset] [(.int (10 : Int32)), (.ref b104)])) (fun t_ k_ => ?_) ?_
  · show Steps p.tables e below (Tc.setTop (mkF m 254 #[.val (.int p1), .val (.ref b1), .val (.ref b104), .val (.int (5 : Int32)), .val (.ref ad5), .unset, .unset] [])) t_
    refine XS.aloadN Xc.here hx rfl (hb hby at_254) rfl rfl ?_
    show Steps p.tables e below (Tc.setTop (mkF m 255 #[.val (.int p1), .val (.ref b1), .val (.ref b104), .val (.int (5 : Int32)), .val (.ref ad5), .unset, .unset] [(.ref b104)])) t_
    refine XS.iconst Xc.here hx rfl (hb hby at_255) ?_
    show Steps p.tables e below (Tc.setTop (mkF m 256 #[.val (.int p1), .val (.ref b1), .val (.ref b104), .val (.int (5 : Int32)), .val (.ref ad5), .unset, .unset] [(.int (2 : Int32)), (.ref b104)])) t_
    refine XS.iloadN Xc.here hx rfl (hb hby at_256) rfl ?_
    show Steps p.tables e below (Tc.setTop (mkF m 257 #[.val (.int p1), .val (.ref b1), .val (.ref b104), .val (.int (5 : Int32)), .val (.ref ad5), .unset, .unset] [(.int (5 : Int32)), (.int (2 : Int32)), (.ref b104)])) t_
    refine XS.imul Xc.here hx rfl (hb hby at_257) rfl ?_
    exact k_
  obtain ⟨cq139, kq139, q139a, q139b, q139c⟩ := isOf hZ ec zc4
  obtain ⟨_, _, ⟨T139, L139, k139, n139⟩, -, X139, ⟨Lc139, hQ139, l139, y139, z139⟩, st139⟩ := Xc.virtualBack hx (y := own_y4) (z := own_y4) hown (mvT hZ (own_w hw 81 rfl)) (mvT hZ (own_w hw 82 rfl)) (notFace_of_selects (args := #[]) (mvT hZ (own_w hw 84 rfl))) (mvT hZ (own_w hw 84 rfl)) (mvT hZ (own_w hw 83 rfl)) (by decide) (backOf (W := 0) (rmChAt l Z a0 hw [] b104 (10 : Int32) d104 kk104 (68 : Int32) own_txt (68 : Int32) sf cs Hc n0 (Nat.le_trans Z0 Kc0.1) Oc zc0 hcs zc1 hsf zc4 zc5 zc6 zc7 (by decide : ¬ ((10 : Int32) < (0 : Int32))) (by decide : (10 : Int32) < (68 : Int32)) rfl) hZ (own_w hw 85 rfl) (own_w hw 73 rfl) (by decide) (by decide)) q139a q139c (g := (mkF m 258 #[.val (.int p1), .val (.ref b1), .val (.ref b104), .val (.int (5 : Int32)), .val (.ref ad5), .unset, .unset] [(.int (10 : Int32)), (.ref b104)])) rfl (by rw [hml]; rfl) (Steps.refl _) (argsL := [(.int (10 : Int32))]) (rest := []) (lenOf pd_5 rfl) rfl (by show 2 * 0 + _ ≤ _; exact Nat.le_of_eq rfl) (hb hby at_258) (fun _ _ => ⟨rfl, ec, (by decide : 3 + 0 ≤ _), (by decide : 310 + 0 ≤ _)⟩)
  dsimp only [Pt.U, Pt.locs, Pt.cells, Pt.slots] at X139 l139 y139 z139 st139 hQ139
  subst l139 y139 z139
  obtain ⟨rfl, N139q, eh139⟩ := hQ139
  have N139 := Fr.app Nc N139q
  refine own_via st139 ?_
  refine own_go (A := T139.setTop (mkF m 269 #[.val (.int p1), .val (.ref b1), .val (.ref b104), .val (.int (5 : Int32)), .val (.ref ad5), .val (.int (68 : Int32)), .unset] [(.int (11 : Int32)), (.ref b104)])) (fun t_ k_ => ?_) ?_
  · show Steps p.tables e below (T139.setTop (mkF m 261 #[.val (.int p1), .val (.ref b1), .val (.ref b104), .val (.int (5 : Int32)), .val (.ref ad5), .unset, .unset] [(.int (68 : Int32))])) t_
    refine XS.istore X139.here hx rfl (hb hby at_261) rfl (l' := #[.val (.int p1), .val (.ref b1), .val (.ref b104), .val (.int (5 : Int32)), .val (.ref ad5), .val (.int (68 : Int32)), .unset]) rfl ?_
    show Steps p.tables e below (T139.setTop (mkF m 263 #[.val (.int p1), .val (.ref b1), .val (.ref b104), .val (.int (5 : Int32)), .val (.ref ad5), .val (.int (68 : Int32)), .unset] [])) t_
    refine XS.aloadN X139.here hx rfl (hb hby at_263) rfl rfl ?_
    show Steps p.tables e below (T139.setTop (mkF m 264 #[.val (.int p1), .val (.ref b1), .val (.ref b104), .val (.int (5 : Int32)), .val (.ref ad5), .val (.int (68 : Int32)), .unset] [(.ref b104)])) t_
    refine XS.iconst X139.here hx rfl (hb hby at_264) ?_
    show Steps p.tables e below (T139.setTop (mkF m 265 #[.val (.int p1), .val (.ref b1), .val (.ref b104), .val (.int (5 : Int32)), .val (.ref ad5), .val (.int (68 : Int32)), .unset] [(.int (2 : Int32)), (.ref b104)])) t_
    refine XS.iloadN X139.here hx rfl (hb hby at_265) rfl ?_
    show Steps p.tables e below (T139.setTop (mkF m 266 #[.val (.int p1), .val (.ref b1), .val (.ref b104), .val (.int (5 : Int32)), .val (.ref ad5), .val (.int (68 : Int32)), .unset] [(.int (5 : Int32)), (.int (2 : Int32)), (.ref b104)])) t_
    refine XS.imul X139.here hx rfl (hb hby at_266) rfl ?_
    show Steps p.tables e below (T139.setTop (mkF m 267 #[.val (.int p1), .val (.ref b1), .val (.ref b104), .val (.int (5 : Int32)), .val (.ref ad5), .val (.int (68 : Int32)), .unset] [(.int (10 : Int32)), (.ref b104)])) t_
    refine XS.iconst X139.here hx rfl (hb hby at_267) ?_
    show Steps p.tables e below (T139.setTop (mkF m 268 #[.val (.int p1), .val (.ref b1), .val (.ref b104), .val (.int (5 : Int32)), .val (.ref ad5), .val (.int (68 : Int32)), .unset] [(.int (1 : Int32)), (.int (10 : Int32)), (.ref b104)])) t_
    refine XS.iadd X139.here hx rfl (hb hby at_268) rfl ?_
    exact k_
  obtain ⟨cq140, kq140, q140a, q140b, q140c⟩ := isOf hZ eh139 zc4
  obtain ⟨_, _, ⟨T140, L140, k140, n140⟩, -, X140, ⟨Lc140, hQ140, l140, y140, z140⟩, st140⟩ := X139.virtualBack hx (y := own_y4) (z := own_y4) hown (mvT hZ (own_w hw 81 rfl)) (mvT hZ (own_w hw 82 rfl)) (notFace_of_selects (args := #[]) (mvT hZ (own_w hw 84 rfl))) (mvT hZ (own_w hw 84 rfl)) (mvT hZ (own_w hw 83 rfl)) (by decide) (backOf (W := 0) (rmChAt l Z a0 hw [] b104 (11 : Int32) d104 kk104 (68 : Int32) own_txt (83 : Int32) sf cs Hc n0 (Nat.le_trans Z0 Kc0.1) Oc zc0 hcs zc1 hsf zc4 zc5 zc6 zc7 (by decide : ¬ ((11 : Int32) < (0 : Int32))) (by decide : (11 : Int32) < (68 : Int32)) rfl) hZ (own_w hw 85 rfl) (own_w hw 73 rfl) (by decide) (by decide)) q140a q140c (g := (mkF m 269 #[.val (.int p1), .val (.ref b1), .val (.ref b104), .val (.int (5 : Int32)), .val (.ref ad5), .val (.int (68 : Int32)), .unset] [(.int (11 : Int32)), (.ref b104)])) rfl (by rw [hml]; rfl) (Steps.refl _) (argsL := [(.int (11 : Int32))]) (rest := []) (lenOf pd_5 rfl) rfl (by show 2 * 0 + _ ≤ _; exact Nat.le_of_eq rfl) (hb hby at_269) (fun _ _ => ⟨rfl, eh139, (by decide : 3 + 0 ≤ _), (by decide : 310 + 0 ≤ _)⟩)
  dsimp only [Pt.U, Pt.locs, Pt.cells, Pt.slots] at X140 l140 y140 z140 st140 hQ140
  subst l140 y140 z140
  obtain ⟨rfl, N140q, eh140⟩ := hQ140
  have N140 := Fr.app N139 N140q
  refine own_via st140 ?_
  refine own_go (A := T140.setTop (mkF m 276 #[.val (.int p1), .val (.ref b1), .val (.ref b104), .val (.int (5 : Int32)), .val (.ref ad5), .val (.int (68 : Int32)), .val (.int (83 : Int32))] [(.ref ad5)])) (fun t_ k_ => ?_) ?_
  · show Steps p.tables e below (T140.setTop (mkF m 272 #[.val (.int p1), .val (.ref b1), .val (.ref b104), .val (.int (5 : Int32)), .val (.ref ad5), .val (.int (68 : Int32)), .unset] [(.int (83 : Int32))])) t_
    refine XS.istore X140.here hx rfl (hb hby at_272) rfl (l' := #[.val (.int p1), .val (.ref b1), .val (.ref b104), .val (.int (5 : Int32)), .val (.ref ad5), .val (.int (68 : Int32)), .val (.int (83 : Int32))]) rfl ?_
    show Steps p.tables e below (T140.setTop (mkF m 274 #[.val (.int p1), .val (.ref b1), .val (.ref b104), .val (.int (5 : Int32)), .val (.ref ad5), .val (.int (68 : Int32)), .val (.int (83 : Int32))] [])) t_
    refine XS.aload X140.here hx rfl (hb hby at_274) rfl rfl ?_
    exact k_
  obtain ⟨cq141, kq141, q141a, q141b, q141c⟩ := isOf hZ eh140 (zc2.ext Oc.2)
  obtain ⟨_, _, ⟨T141, L141, k141, n141⟩, -, X141, ⟨Lc141, hQ141, l141, y141, z141⟩, st141⟩ := X140.virtualBack hx (y := own_y7) (z := own_y7) hown (mvT hZ (own_w hw 106 rfl)) (mvT hZ (own_w hw 107 rfl)) (notFace_of_selects (args := #[]) (mvT hZ (own_w hw 109 rfl))) (mvT hZ (own_w hw 109 rfl)) (mvT hZ (own_w hw 108 rfl)) (by decide) (backOf (W := 0) (rmMOut l Z a0 hw [] ad5 (5 : Int32) Hc n0 (Nat.le_trans Z0 Kc0.1) Oc zc2 zc3 (by decide)) hZ (own_w hw 110 rfl) (own_w hw 3 rfl) (by decide) (by decide)) q141a q141c (g := (mkF m 276 #[.val (.int p1), .val (.ref b1), .val (.ref b104), .val (.int (5 : Int32)), .val (.ref ad5), .val (.int (68 : Int32)), .val (.int (83 : Int32))] [(.ref ad5)])) rfl (by rw [hml]; rfl) (Steps.refl _) (argsL := []) (rest := []) (lenOf pd_2 rfl) rfl (by show 2 * 0 + _ ≤ _; exact Nat.le_of_eq rfl) (hb hby at_276) (fun _ _ => ⟨rfl, eh140, (by decide : 3 + 0 ≤ _), (by decide : 310 + 0 ≤ _)⟩)
  dsimp only [Pt.U, Pt.locs, Pt.cells, Pt.slots] at X141 l141 y141 z141 st141 hQ141
  subst l141 y141 z141
  obtain ⟨rfl, N141q, eh141⟩ := hQ141
  have N141 := Fr.app N140 N141q
  refine own_via st141 ?_
  refine own_go (A := T141.setTop (mkF m 283 #[.val (.int p1), .val (.ref b1), .val (.ref b104), .val (.int (5 : Int32)), .val (.ref ad5), .val (.int (68 : Int32)), .val (.int (83 : Int32))] [(.int (83 : Int32)), (.int (68 : Int32)), (.int (0 : Int32))])) (fun t_ k_ => ?_) ?_
  · show Steps p.tables e below (T141.setTop (mkF m 279 #[.val (.int p1), .val (.ref b1), .val (.ref b104), .val (.int (5 : Int32)), .val (.ref ad5), .val (.int (68 : Int32)), .val (.int (83 : Int32))] [(.int (0 : Int32))])) t_
    refine XS.iload X141.here hx rfl (hb hby at_279) rfl ?_
    show Steps p.tables e below (T141.setTop (mkF m 281 #[.val (.int p1), .val (.ref b1), .val (.ref b104), .val (.int (5 : Int32)), .val (.ref ad5), .val (.int (68 : Int32)), .val (.int (83 : Int32))] [(.int (68 : Int32)), (.int (0 : Int32))])) t_
    refine XS.iload X141.here hx rfl (hb hby at_281) rfl ?_
    exact k_
  obtain ⟨_, _, ⟨T142, L142, k142, n142⟩, -, X142, ⟨Lc142, hQ142, l142, y142, z142⟩, st142⟩ := Jvm.LawKit.callS X141 hx (y := own_y8) hown (mvT hZ (own_w hw 120 rfl)) (mvT hZ (own_w hw 121 rfl)) (mvT hZ (own_w hw 122 rfl)) (mvT hZ (own_w hw 123 rfl)) (by decide) (backOf (W := 1) (rmEX l Z a0 hw [] (68 : Int32) (83 : Int32) Hc n0 (Nat.le_trans Z0 Kc0.1) (by decide : ¬ ((68 : Int32) = (79 : Int32))) (by decide : ¬ ((68 : Int32) = (83 : Int32))) (by decide : ¬ ((68 : Int32) = (85 : Int32)))) hZ (own_w hw 123 rfl) (own_w hw 122 rfl) (by decide) (by decide)) (g := (mkF m 283 #[.val (.int p1), .val (.ref b1), .val (.ref b104), .val (.int (5 : Int32)), .val (.ref ad5), .val (.int (68 : Int32)), .val (.int (83 : Int32))] [(.int (83 : Int32)), (.int (68 : Int32)), (.int (0 : Int32))])) rfl (by rw [hml]; rfl) (argsL := [(.int (68 : Int32)), (.int (83 : Int32))]) (rest := [(.int (0 : Int32))]) (lenOf pd_6 rfl) rfl (by show 2 * 0 + _ ≤ _; exact Nat.le_of_eq rfl) (hb hby at_283) (fun _ _ => ⟨rfl, eh141, (by decide : 3 + 0 ≤ _), (by decide : 310 + 0 ≤ _)⟩)
  dsimp only [Pt.U, Pt.locs, Pt.cells, Pt.slots] at X142 l142 y142 z142 st142 hQ142
  subst l142 y142 z142
  obtain ⟨rfl, N142q, eh142⟩ := hQ142
  have N142 := Fr.app N141 N142q
  refine own_go st142 ?_
  refine own_go (A := T142.setTop (mkF m 294 #[.val (.int p1), .val (.ref b1), .val (.ref b104), .val (.int (5 : Int32)), .val (.ref ad5), .val (.int (68 : Int32)), .val (.int (83 : Int32))] [(.int (1 : Int32))])) (fun t_ k_ => ?_) ?_
  · show Steps p.tables e below (T142.setTop (mkF m 286 #[.val (.int p1), .val (.ref b1), .val (.ref b104), .val (.int (5 : Int32)), .val (.ref ad5), .val (.int (68 : Int32)), .val (.int (83 : Int32))] [(.int (0 : Int32)), (.int (0 : Int32))])) t_
    refine XS.icmpNo X142.here hx rfl (hb hby at_286) rfl (teq (by decide : (0 : Int32) = (0 : Int32))).2 ?_
    show Steps p.tables e below (T142.setTop (mkF m 289 #[.val (.int p1), .val (.ref b1), .val (.ref b104), .val (.int (5 : Int32)), .val (.ref ad5), .val (.int (68 : Int32)), .val (.int (83 : Int32))] [])) t_
    refine XS.iconst X142.here hx rfl (hb hby at_289) ?_
    show Steps p.tables e below (T142.setTop (mkF m 290 #[.val (.int p1), .val (.ref b1), .val (.ref b104), .val (.int (5 : Int32)), .val (.ref ad5), .val (.int (68 : Int32)), .val (.int (83 : Int32))] [(.int (1 : Int32))])) t_
    refine XS.goto X142.here hx rfl (pc0 := 290) (pc' := 294) rfl (hb hby at_290) (by decide) (by decide) ?_
    exact k_
  obtain ⟨fs143, hr143, hrun143, hended143, hRW143⟩ := X142.leaveW hS (by rw [eh142]; exact hk) (v := some (.int (1 : Int32))) (fun h => by rw [hret] at h; cases h)
  refine ⟨_, _, ?_, hrun143, hended143, _, _, rfl, ?_, hRW143.1, hRW143.2.1, hRW143.2.2.1, hRW143.2.2.2.mono (by decide) (by decide)⟩
  · exact retN X142 hx (t := .boolean) hret (by simp) (hb hby at_294) hr143
  · show Q_rm0 Z p1 cs sf ad0 ad1 ad2 ad3 ad4 ad5 ad6 ad7 ad8 ad9 ad10 ad11 ad12 ad13 ad14 ad15 ad16 ad17 ad18 ad19 ad20 ad21 ad22 ad23 ad24 ad25 ad26 ad27 ad28 ad29 ad30 ad31 ad32 ad33 h0 n0 _ T142.heap _
    rw [eh142]
    exact ⟨rfl, N142, Kc0⟩
set_option maxRecDepth 65536 in
set_option maxHeartbeats 40000000 in
theorem own_sufad6 (l : Launch) (Z : State) (a0 : Array Value) (hw : ∀ d ∈ tables_1, d.before a0 Z = true) (p1 : Int32) (cs : Int32) (sf : Value) (ad0 : Addr) (ad1 : Addr) (ad2 : Addr) (ad3 : Addr) (ad4 : Addr) (ad5 : Addr) (ad6 : Addr) (ad7 : Addr) (ad8 : Addr) (ad9 : Addr) (ad10 : Addr) (ad11 : Addr) (ad12 : Addr) (ad13 : Addr) (ad14 : Addr) (ad15 : Addr) (ad16 : Addr) (ad17 : Addr) (ad18 : Addr) (ad19 : Addr) (ad20 : Addr) (ad21 : Addr) (ad22 : Addr) (ad23 : Addr) (ad24 : Addr) (ad25 : Addr) (ad26 : Addr) (ad27 : Addr) (ad28 : Addr) (ad29 : Addr) (ad30 : Addr) (ad31 : Addr) (ad32 : Addr) (ad33 : Addr) (b1 : Addr) (b104 : Addr) (d104 : Addr) (kk104 : ClassId) (h0 : Heap) (n0 : Nat) (Z0 : n0 ≤ h0.size) {p : Program} {e : Env} {s : State} {m : MethodId} {below : List Frame} {meth : Method} {c : Code} {Tc : State} {Hc : Heap} {locsc : List Loc} {vmc : Vm} {kc0 : Nat} (Xc : Stand p l e room_1 (s.setVm vmc) m #[(.int p1)] below meth c Tc locsc 3 310) (hx : p.tables.exec = Jvm.exec) (hZ : Z.Warmed39 (s.setVm vmc).vm) (hby : c.code = code) (hml : c.maxLocals = 7) (hown : (s.setVm vmc).vm.findClass "com/example/querent/querent/dicom/VrHasLongLengthPinLaw" = some m.cls) (hret : meth.sig.returnType = some .boolean) (hlk : meth.locks = false) (hh : s.heap = h0) (ec : Tc.heap = Hc) (Nc : Fr n0 locsc) (Kc0 : Keep h0 Hc []) (Oc : Old Z n0 Hc) (hS : s.Since vmc kc0) (hk : kc0 ≤ Hc.size) (hSA : ∀ a ∈ Bundle.stringAtoms, a.before a0 Z = true) (zc0 : Sta Z Z.heap "java/lang/String" "COMPACT_STRINGS" "Z" (.int cs)) (zc1 : Sta Z Z.heap "jdk/internal/util/Preconditions" "SIOOBE_FORMATTER" "Ljava/util/function/BiFunction;" sf) (zc2 : Exa Z Z.heap ad6 "com/example/querent/querent/dicom/Vr") (zc3 : Fld Z Z.heap ad6 "java/lang/Enum" "ordinal" "I" (.int (6 : Int32))) (zc4 : Exa Z Hc b104 "java/lang/String") (zc5 : Fld Z Hc b104 "java/lang/String" "coder" "B" (.int (0 : Int32))) (zc6 : Fld Z Hc b104 "java/lang/String" "value" "[B" (.ref d104)) (zc7 : Arv Z Hc d104 kk104 .byte (68 : Int32) own_txt (.int (0 : Int32))) (hcs : ¬ (cs = (0 : Int32))) (hsf : sf.isRef = true) (hn0 : n0 = h0.size) (hcw : Jvm.Lit.compactW.before a0 Z = true) (hlit : Jvm.Lit.constHeld Z "com/example/querent/querent/dicom/VrHasLongLengthPinLaw" 112) :
    ∃ U_ o_, Steps p.tables e below (Tc.setTop (mkF m 254 #[.val (.int p1), .val (.ref b1), .val (.ref b104), .val (.int (6 : Int32)), .val (.ref ad6), .unset, .unset] [])) U_ ∧ U_.status = .running ∧ Ended U_ below o_ ∧ (∃ v_ L_, o_ = .returned v_ ∧ Q_rm0 Z p1 cs sf ad0 ad1 ad2 ad3 ad4 ad5 ad6 ad7 ad8 ad9 ad10 ad11 ad12 ad13 ad14 ad15 ad16 ad17 ad18 ad19 ad20 ad21 ad22 ad23 ad24 ad25 ad26 ad27 ad28 ad29 ad30 ad31 ad32 ad33 h0 n0 v_ U_.heap L_ ∧ ReturnedEndW s o_ U_ L_ room_1.cells room_1.slots) := by
  refine own_go (A := Tc.setTop (mkF m 258 #[.val (.int p1), .val (.ref b1), .val (.ref b104), .val (.int (6 : Int32)), .val (.ref ad6), .unset, .unset] [(.int (12 : Int32)), (.ref b104)])) (fun t_ k_ => ?_) ?_
  · show Steps p.tables e below (Tc.setTop (mkF m 254 #[.val (.int p1), .val (.ref b1), .val (.ref b104), .val (.int (6 : Int32)), .val (.ref ad6), .unset, .unset] [])) t_
    refine XS.aloadN Xc.here hx rfl (hb hby at_254) rfl rfl ?_
    show Steps p.tables e below (Tc.setTop (mkF m 255 #[.val (.int p1), .val (.ref b1), .val (.ref b104), .val (.int (6 : Int32)), .val (.ref ad6), .unset, .unset] [(.ref b104)])) t_
    refine XS.iconst Xc.here hx rfl (hb hby at_255) ?_
    show Steps p.tables e below (Tc.setTop (mkF m 256 #[.val (.int p1), .val (.ref b1), .val (.ref b104), .val (.int (6 : Int32)), .val (.ref ad6), .unset, .unset] [(.int (2 : Int32)), (.ref b104)])) t_
    refine XS.iloadN Xc.here hx rfl (hb hby at_256) rfl ?_
    show Steps p.tables e below (Tc.setTop (mkF m 257 #[.val (.int p1), .val (.ref b1), .val (.ref b104), .val (.int (6 : Int32)), .val (.ref ad6), .unset, .unset] [(.int (6 : Int32)), (.int (2 : Int32)), (.ref b104)])) t_
    refine XS.imul Xc.here hx rfl (hb hby at_257) rfl ?_
    exact k_
  obtain ⟨cq145, kq145, q145a, q145b, q145c⟩ := isOf hZ ec zc4
  obtain ⟨_, _, ⟨T145, L145, k145, n145⟩, -, X145, ⟨Lc145, hQ145, l145, y145, z145⟩, st145⟩ := Xc.virtualBack hx (y := own_y4) (z := own_y4) hown (mvT hZ (own_w hw 81 rfl)) (mvT hZ (own_w hw 82 rfl)) (notFace_of_selects (args := #[]) (mvT hZ (own_w hw 84 rfl))) (mvT hZ (own_w hw 84 rfl)) (mvT hZ (own_w hw 83 rfl)) (by decide) (backOf (W := 0) (rmChAt l Z a0 hw [] b104 (12 : Int32) d104 kk104 (68 : Int32) own_txt (68 : Int32) sf cs Hc n0 (Nat.le_trans Z0 Kc0.1) Oc zc0 hcs zc1 hsf zc4 zc5 zc6 zc7 (by decide : ¬ ((12 : Int32) < (0 : Int32))) (by decide : (12 : Int32) < (68 : Int32)) rfl) hZ (own_w hw 85 rfl) (own_w hw 73 rfl) (by decide) (by decide)) q145a q145c (g := (mkF m 258 #[.val (.int p1), .val (.ref b1), .val (.ref b104), .val (.int (6 : Int32)), .val (.ref ad6), .unset, .unset] [(.int (12 : Int32)), (.ref b104)])) rfl (by rw [hml]; rfl) (Steps.refl _) (argsL := [(.int (12 : Int32))]) (rest := []) (lenOf pd_5 rfl) rfl (by show 2 * 0 + _ ≤ _; exact Nat.le_of_eq rfl) (hb hby at_258) (fun _ _ => ⟨rfl, ec, (by decide : 3 + 0 ≤ _), (by decide : 310 + 0 ≤ _)⟩)
  dsimp only [Pt.U, Pt.locs, Pt.cells, Pt.slots] at X145 l145 y145 z145 st145 hQ145
  subst l145 y145 z145
  obtain ⟨rfl, N145q, eh145⟩ := hQ145
  have N145 := Fr.app Nc N145q
  refine own_via st145 ?_
  refine own_go (A := T145.setTop (mkF m 269 #[.val (.int p1), .val (.ref b1), .val (.ref b104), .val (.int (6 : Int32)), .val (.ref ad6), .val (.int (68 : Int32)), .unset] [(.int (13 : Int32)), (.ref b104)])) (fun t_ k_ => ?_) ?_
  · show Steps p.tables e below (T145.setTop (mkF m 261 #[.val (.int p1), .val (.ref b1), .val (.ref b104), .val (.int (6 : Int32)), .val (.ref ad6), .unset, .unset] [(.int (68 : Int32))])) t_
    refine XS.istore X145.here hx rfl (hb hby at_261) rfl (l' := #[.val (.int p1), .val (.ref b1), .val (.ref b104), .val (.int (6 : Int32)), .val (.ref ad6), .val (.int (68 : Int32)), .unset]) rfl ?_
    show Steps p.tables e below (T145.setTop (mkF m 263 #[.val (.int p1), .val (.ref b1), .val (.ref b104), .val (.int (6 : Int32)), .val (.ref ad6), .val (.int (68 : Int32)), .unset] [])) t_
    refine XS.aloadN X145.here hx rfl (hb hby at_263) rfl rfl ?_
    show Steps p.tables e below (T145.setTop (mkF m 264 #[.val (.int p1), .val (.ref b1), .val (.ref b104), .val (.int (6 : Int32)), .val (.ref ad6), .val (.int (68 : Int32)), .unset] [(.ref b104)])) t_
    refine XS.iconst X145.here hx rfl (hb hby at_264) ?_
    show Steps p.tables e below (T145.setTop (mkF m 265 #[.val (.int p1), .val (.ref b1), .val (.ref b104), .val (.int (6 : Int32)), .val (.ref ad6), .val (.int (68 : Int32)), .unset] [(.int (2 : Int32)), (.ref b104)])) t_
    refine XS.iloadN X145.here hx rfl (hb hby at_265) rfl ?_
    show Steps p.tables e below (T145.setTop (mkF m 266 #[.val (.int p1), .val (.ref b1), .val (.ref b104), .val (.int (6 : Int32)), .val (.ref ad6), .val (.int (68 : Int32)), .unset] [(.int (6 : Int32)), (.int (2 : Int32)), (.ref b104)])) t_
    refine XS.imul X145.here hx rfl (hb hby at_266) rfl ?_
    show Steps p.tables e below (T145.setTop (mkF m 267 #[.val (.int p1), .val (.ref b1), .val (.ref b104), .val (.int (6 : Int32)), .val (.ref ad6), .val (.int (68 : Int32)), .unset] [(.int (12 : Int32)), (.ref b104)])) t_
    refine XS.iconst X145.here hx rfl (hb hby at_267) ?_
    show Steps p.tables e below (T145.setTop (mkF m 268 #[.val (.int p1), .val (.ref b1), .val (.ref b104), .val (.int (6 : Int32)), .val (.ref ad6), .val (.int (68 : Int32)), .unset] [(.int (1 : Int32)), (.int (12 : Int32)), (.ref b104)])) t_
    refine XS.iadd X145.here hx rfl (hb hby at_268) rfl ?_
    exact k_
  obtain ⟨cq146, kq146, q146a, q146b, q146c⟩ := isOf hZ eh145 zc4
  obtain ⟨_, _, ⟨T146, L146, k146, n146⟩, -, X146, ⟨Lc146, hQ146, l146, y146, z146⟩, st146⟩ := X145.virtualBack hx (y := own_y4) (z := own_y4) hown (mvT hZ (own_w hw 81 rfl)) (mvT hZ (own_w hw 82 rfl)) (notFace_of_selects (args := #[]) (mvT hZ (own_w hw 84 rfl))) (mvT hZ (own_w hw 84 rfl)) (mvT hZ (own_w hw 83 rfl)) (by decide) (backOf (W := 0) (rmChAt l Z a0 hw [] b104 (13 : Int32) d104 kk104 (68 : Int32) own_txt (84 : Int32) sf cs Hc n0 (Nat.le_trans Z0 Kc0.1) Oc zc0 hcs zc1 hsf zc4 zc5 zc6 zc7 (by decide : ¬ ((13 : Int32) < (0 : Int32))) (by decide : (13 : Int32) < (68 : Int32)) rfl) hZ (own_w hw 85 rfl) (own_w hw 73 rfl) (by decide) (by decide)) q146a q146c (g := (mkF m 269 #[.val (.int p1), .val (.ref b1), .val (.ref b104), .val (.int (6 : Int32)), .val (.ref ad6), .val (.int (68 : Int32)), .unset] [(.int (13 : Int32)), (.ref b104)])) rfl (by rw [hml]; rfl) (Steps.refl _) (argsL := [(.int (13 : Int32))]) (rest := []) (lenOf pd_5 rfl) rfl (by show 2 * 0 + _ ≤ _; exact Nat.le_of_eq rfl) (hb hby at_269) (fun _ _ => ⟨rfl, eh145, (by decide : 3 + 0 ≤ _), (by decide : 310 + 0 ≤ _)⟩)
  dsimp only [Pt.U, Pt.locs, Pt.cells, Pt.slots] at X146 l146 y146 z146 st146 hQ146
  subst l146 y146 z146
  obtain ⟨rfl, N146q, eh146⟩ := hQ146
  have N146 := Fr.app N145 N146q
  refine own_via st146 ?_
  refine own_go (A := T146.setTop (mkF m 276 #[.val (.int p1), .val (.ref b1), .val (.ref b104), .val (.int (6 : Int32)), .val (.ref ad6), .val (.int (68 : Int32)), .val (.int (84 : Int32))] [(.ref ad6)])) (fun t_ k_ => ?_) ?_
  · show Steps p.tables e below (T146.setTop (mkF m 272 #[.val (.int p1), .val (.ref b1), .val (.ref b104), .val (.int (6 : Int32)), .val (.ref ad6), .val (.int (68 : Int32)), .unset] [(.int (84 : Int32))])) t_
    refine XS.istore X146.here hx rfl (hb hby at_272) rfl (l' := #[.val (.int p1), .val (.ref b1), .val (.ref b104), .val (.int (6 : Int32)), .val (.ref ad6), .val (.int (68 : Int32)), .val (.int (84 : Int32))]) rfl ?_
    show Steps p.tables e below (T146.setTop (mkF m 274 #[.val (.int p1), .val (.ref b1), .val (.ref b104), .val (.int (6 : Int32)), .val (.ref ad6), .val (.int (68 : Int32)), .val (.int (84 : Int32))] [])) t_
    refine XS.aload X146.here hx rfl (hb hby at_274) rfl rfl ?_
    exact k_
  obtain ⟨cq147, kq147, q147a, q147b, q147c⟩ := isOf hZ eh146 (zc2.ext Oc.2)
  obtain ⟨_, _, ⟨T147, L147, k147, n147⟩, -, X147, ⟨Lc147, hQ147, l147, y147, z147⟩, st147⟩ := X146.virtualBack hx (y := own_y7) (z := own_y7) hown (mvT hZ (own_w hw 106 rfl)) (mvT hZ (own_w hw 107 rfl)) (notFace_of_selects (args := #[]) (mvT hZ (own_w hw 109 rfl))) (mvT hZ (own_w hw 109 rfl)) (mvT hZ (own_w hw 108 rfl)) (by decide) (backOf (W := 0) (rmMOut l Z a0 hw [] ad6 (6 : Int32) Hc n0 (Nat.le_trans Z0 Kc0.1) Oc zc2 zc3 (by decide)) hZ (own_w hw 110 rfl) (own_w hw 3 rfl) (by decide) (by decide)) q147a q147c (g := (mkF m 276 #[.val (.int p1), .val (.ref b1), .val (.ref b104), .val (.int (6 : Int32)), .val (.ref ad6), .val (.int (68 : Int32)), .val (.int (84 : Int32))] [(.ref ad6)])) rfl (by rw [hml]; rfl) (Steps.refl _) (argsL := []) (rest := []) (lenOf pd_2 rfl) rfl (by show 2 * 0 + _ ≤ _; exact Nat.le_of_eq rfl) (hb hby at_276) (fun _ _ => ⟨rfl, eh146, (by decide : 3 + 0 ≤ _), (by decide : 310 + 0 ≤ _)⟩)
  dsimp only [Pt.U, Pt.locs, Pt.cells, Pt.slots] at X147 l147 y147 z147 st147 hQ147
  subst l147 y147 z147
  obtain ⟨rfl, N147q, eh147⟩ := hQ147
  have N147 := Fr.app N146 N147q
  refine own_via st147 ?_
  refine own_go (A := T147.setTop (mkF m 283 #[.val (.int p1), .val (.ref b1), .val (.ref b104), .val (.int (6 : Int32)), .val (.ref ad6), .val (.int (68 : Int32)), .val (.int (84 : Int32))] [(.int (84 : Int32)), (.int (68 : Int32)), (.int (0 : Int32))])) (fun t_ k_ => ?_) ?_
  · show Steps p.tables e below (T147.setTop (mkF m 279 #[.val (.int p1), .val (.ref b1), .val (.ref b104), .val (.int (6 : Int32)), .val (.ref ad6), .val (.int (68 : Int32)), .val (.int (84 : Int32))] [(.int (0 : Int32))])) t_
    refine XS.iload X147.here hx rfl (hb hby at_279) rfl ?_
    show Steps p.tables e below (T147.setTop (mkF m 281 #[.val (.int p1), .val (.ref b1), .val (.ref b104), .val (.int (6 : Int32)), .val (.ref ad6), .val (.int (68 : Int32)), .val (.int (84 : Int32))] [(.int (68 : Int32)), (.int (0 : Int32))])) t_
    refine XS.iload X147.here hx rfl (hb hby at_281) rfl ?_
    exact k_
  obtain ⟨_, _, ⟨T148, L148, k148, n148⟩, -, X148, ⟨Lc148, hQ148, l148, y148, z148⟩, st148⟩ := Jvm.LawKit.callS X147 hx (y := own_y8) hown (mvT hZ (own_w hw 120 rfl)) (mvT hZ (own_w hw 121 rfl)) (mvT hZ (own_w hw 122 rfl)) (mvT hZ (own_w hw 123 rfl)) (by decide) (backOf (W := 1) (rmEX l Z a0 hw [] (68 : Int32) (84 : Int32) Hc n0 (Nat.le_trans Z0 Kc0.1) (by decide : ¬ ((68 : Int32) = (79 : Int32))) (by decide : ¬ ((68 : Int32) = (83 : Int32))) (by decide : ¬ ((68 : Int32) = (85 : Int32)))) hZ (own_w hw 123 rfl) (own_w hw 122 rfl) (by decide) (by decide)) (g := (mkF m 283 #[.val (.int p1), .val (.ref b1), .val (.ref b104), .val (.int (6 : Int32)), .val (.ref ad6), .val (.int (68 : Int32)), .val (.int (84 : Int32))] [(.int (84 : Int32)), (.int (68 : Int32)), (.int (0 : Int32))])) rfl (by rw [hml]; rfl) (argsL := [(.int (68 : Int32)), (.int (84 : Int32))]) (rest := [(.int (0 : Int32))]) (lenOf pd_6 rfl) rfl (by show 2 * 0 + _ ≤ _; exact Nat.le_of_eq rfl) (hb hby at_283) (fun _ _ => ⟨rfl, eh147, (by decide : 3 + 0 ≤ _), (by decide : 310 + 0 ≤ _)⟩)
  dsimp only [Pt.U, Pt.locs, Pt.cells, Pt.slots] at X148 l148 y148 z148 st148 hQ148
  subst l148 y148 z148
  obtain ⟨rfl, N148q, eh148⟩ := hQ148
  have N148 := Fr.app N147 N148q
  refine own_go st148 ?_
  refine own_go (A := T148.setTop (mkF m 294 #[.val (.int p1), .val (.ref b1), .val (.ref b104), .val (.int (6 : Int32)), .val (.ref ad6), .val (.int (68 : Int32)), .val (.int (84 : Int32))] [(.int (1 : Int32))])) (fun t_ k_ => ?_) ?_
  · show Steps p.tables e below (T148.setTop (mkF m 286 #[.val (.int p1), .val (.ref b1), .val (.ref b104), .val (.int (6 : Int32)), .val (.ref ad6), .val (.int (68 : Int32)), .val (.int (84 : Int32))] [(.int (0 : Int32)), (.int (0 : Int32))])) t_
    refine XS.icmpNo X148.here hx rfl (hb hby at_286) rfl (teq (by decide : (0 : Int32) = (0 : Int32))).2 ?_
    show Steps p.tables e below (T148.setTop (mkF m 289 #[.val (.int p1), .val (.ref b1), .val (.ref b104), .val (.int (6 : Int32)), .val (.ref ad6), .val (.int (68 : Int32)), .val (.int (84 : Int32))] [])) t_
    refine XS.iconst X148.here hx rfl (hb hby at_289) ?_
    show Steps p.tables e below (T148.setTop (mkF m 290 #[.val (.int p1), .val (.ref b1), .val (.ref b104), .val (.int (6 : Int32)), .val (.ref ad6), .val (.int (68 : Int32)), .val (.int (84 : Int32))] [(.int (1 : Int32))])) t_
    refine XS.goto X148.here hx rfl (pc0 := 290) (pc' := 294) rfl (hb hby at_290) (by decide) (by decide) ?_
    exact k_
  obtain ⟨fs149, hr149, hrun149, hended149, hRW149⟩ := X148.leaveW hS (by rw [eh148]; exact hk) (v := some (.int (1 : Int32))) (fun h => by rw [hret] at h; cases h)
  refine ⟨_, _, ?_, hrun149, hended149, _, _, rfl, ?_, hRW149.1, hRW149.2.1, hRW149.2.2.1, hRW149.2.2.2.mono (by decide) (by decide)⟩
  · exact retN X148 hx (t := .boolean) hret (by simp) (hb hby at_294) hr149
  · show Q_rm0 Z p1 cs sf ad0 ad1 ad2 ad3 ad4 ad5 ad6 ad7 ad8 ad9 ad10 ad11 ad12 ad13 ad14 ad15 ad16 ad17 ad18 ad19 ad20 ad21 ad22 ad23 ad24 ad25 ad26 ad27 ad28 ad29 ad30 ad31 ad32 ad33 h0 n0 _ T148.heap _
    rw [eh148]
    exact ⟨rfl, N148, Kc0⟩
set_option maxRecDepth 65536 in
set_option maxHeartbeats 40000000 in
theorem own_sufad7 (l : Launch) (Z : State) (a0 : Array Value) (hw : ∀ d ∈ tables_1, d.before a0 Z = true) (p1 : Int32) (cs : Int32) (sf : Value) (ad0 : Addr) (ad1 : Addr) (ad2 : Addr) (ad3 : Addr) (ad4 : Addr) (ad5 : Addr) (ad6 : Addr) (ad7 : Addr) (ad8 : Addr) (ad9 : Addr) (ad10 : Addr) (ad11 : Addr) (ad12 : Addr) (ad13 : Addr) (ad14 : Addr) (ad15 : Addr) (ad16 : Addr) (ad17 : Addr) (ad18 : Addr) (ad19 : Addr) (ad20 : Addr) (ad21 : Addr) (ad22 : Addr) (ad23 : Addr) (ad24 : Addr) (ad25 : Addr) (ad26 : Addr) (ad27 : Addr) (ad28 : Addr) (ad29 : Addr) (ad30 : Addr) (ad31 : Addr) (ad32 : Addr) (ad33 : Addr) (b1 : Addr) (b104 : Addr) (d104 : Addr) (kk104 : ClassId) (h0 : Heap) (n0 : Nat) (Z0 : n0 ≤ h0.size) {p : Program} {e : Env} {s : State} {m : MethodId} {below : List Frame} {meth : Method} {c : Code} {Tc : State} {Hc : Heap} {locsc : List Loc} {vmc : Vm} {kc0 : Nat} (Xc : Stand p l e room_1 (s.setVm vmc) m #[(.int p1)] below meth c Tc locsc 3 310) (hx : p.tables.exec = Jvm.exec) (hZ : Z.Warmed39 (s.setVm vmc).vm) (hby : c.code = code) (hml : c.maxLocals = 7) (hown : (s.setVm vmc).vm.findClass "com/example/querent/querent/dicom/VrHasLongLengthPinLaw" = some m.cls) (hret : meth.sig.returnType = some .boolean) (hlk : meth.locks = false) (hh : s.heap = h0) (ec : Tc.heap = Hc) (Nc : Fr n0 locsc) (Kc0 : Keep h0 Hc []) (Oc : Old Z n0 Hc) (hS : s.Since vmc kc0) (hk : kc0 ≤ Hc.size) (hSA : ∀ a ∈ Bundle.stringAtoms, a.before a0 Z = true) (zc0 : Sta Z Z.heap "java/lang/String" "COMPACT_STRINGS" "Z" (.int cs)) (zc1 : Sta Z Z.heap "jdk/internal/util/Preconditions" "SIOOBE_FORMATTER" "Ljava/util/function/BiFunction;" sf) (zc2 : Exa Z Z.heap ad7 "com/example/querent/querent/dicom/Vr") (zc3 : Fld Z Z.heap ad7 "java/lang/Enum" "ordinal" "I" (.int (7 : Int32))) (zc4 : Exa Z Hc b104 "java/lang/String") (zc5 : Fld Z Hc b104 "java/lang/String" "coder" "B" (.int (0 : Int32))) (zc6 : Fld Z Hc b104 "java/lang/String" "value" "[B" (.ref d104)) (zc7 : Arv Z Hc d104 kk104 .byte (68 : Int32) own_txt (.int (0 : Int32))) (hcs : ¬ (cs = (0 : Int32))) (hsf : sf.isRef = true) (hn0 : n0 = h0.size) (hcw : Jvm.Lit.compactW.before a0 Z = true) (hlit : Jvm.Lit.constHeld Z "com/example/querent/querent/dicom/VrHasLongLengthPinLaw" 112) :
    ∃ U_ o_, Steps p.tables e below (Tc.setTop (mkF m 254 #[.val (.int p1), .val (.ref b1), .val (.ref b104), .val (.int (7 : Int32)), .val (.ref ad7), .unset, .unset] [])) U_ ∧ U_.status = .running ∧ Ended U_ below o_ ∧ (∃ v_ L_, o_ = .returned v_ ∧ Q_rm0 Z p1 cs sf ad0 ad1 ad2 ad3 ad4 ad5 ad6 ad7 ad8 ad9 ad10 ad11 ad12 ad13 ad14 ad15 ad16 ad17 ad18 ad19 ad20 ad21 ad22 ad23 ad24 ad25 ad26 ad27 ad28 ad29 ad30 ad31 ad32 ad33 h0 n0 v_ U_.heap L_ ∧ ReturnedEndW s o_ U_ L_ room_1.cells room_1.slots) := by
  refine own_go (A := Tc.setTop (mkF m 258 #[.val (.int p1), .val (.ref b1), .val (.ref b104), .val (.int (7 : Int32)), .val (.ref ad7), .unset, .unset] [(.int (14 : Int32)), (.ref b104)])) (fun t_ k_ => ?_) ?_
  · show Steps p.tables e below (Tc.setTop (mkF m 254 #[.val (.int p1), .val (.ref b1), .val (.ref b104), .val (.int (7 : Int32)), .val (.ref ad7), .unset, .unset] [])) t_
    refine XS.aloadN Xc.here hx rfl (hb hby at_254) rfl rfl ?_
    show Steps p.tables e below (Tc.setTop (mkF m 255 #[.val (.int p1), .val (.ref b1), .val (.ref b104), .val (.int (7 : Int32)), .val (.ref ad7), .unset, .unset] [(.ref b104)])) t_
    refine XS.iconst Xc.here hx rfl (hb hby at_255) ?_
    show Steps p.tables e below (Tc.setTop (mkF m 256 #[.val (.int p1), .val (.ref b1), .val (.ref b104), .val (.int (7 : Int32)), .val (.ref ad7), .unset, .unset] [(.int (2 : Int32)), (.ref b104)])) t_
    refine XS.iloadN Xc.here hx rfl (hb hby at_256) rfl ?_
    show Steps p.tables e below (Tc.setTop (mkF m 257 #[.val (.int p1), .val (.ref b1), .val (.ref b104), .val (.int (7 : Int32)), .val (.ref ad7), .unset, .unset] [(.int (7 : Int32)), (.int (2 : Int32)), (.ref b104)])) t_
    refine XS.imul Xc.here hx rfl (hb hby at_257) rfl ?_
    exact k_
  obtain ⟨cq151, kq151, q151a, q151b, q151c⟩ := isOf hZ ec zc4
  obtain ⟨_, _, ⟨T151, L151, k151, n151⟩, -, X151, ⟨Lc151, hQ151, l151, y151, z151⟩, st151⟩ := Xc.virtualBack hx (y := own_y4) (z := own_y4) hown (mvT hZ (own_w hw 81 rfl)) (mvT hZ (own_w hw 82 rfl)) (notFace_of_selects (args := #[]) (mvT hZ (own_w hw 84 rfl))) (mvT hZ (own_w hw 84 rfl)) (mvT hZ (own_w hw 83 rfl)) (by decide) (backOf (W := 0) (rmChAt l Z a0 hw [] b104 (14 : Int32) d104 kk104 (68 : Int32) own_txt (70 : Int32) sf cs Hc n0 (Nat.le_trans Z0 Kc0.1) Oc zc0 hcs zc1 hsf zc4 zc5 zc6 zc7 (by decide : ¬ ((14 : Int32) < (0 : Int32))) (by decide : (14 : Int32) < (68 : Int32)) rfl) hZ (own_w hw 85 rfl) (own_w hw 73 rfl) (by decide) (by decide)) q151a q151c (g := (mkF m 258 #[.val (.int p1), .val (.ref b1), .val (.ref b104), .val (.int (7 : Int32)), .val (.ref ad7), .unset, .unset] [(.int (14 : Int32)), (.ref b104)])) rfl (by rw [hml]; rfl) (Steps.refl _) (argsL := [(.int (14 : Int32))]) (rest := []) (lenOf pd_5 rfl) rfl (by show 2 * 0 + _ ≤ _; exact Nat.le_of_eq rfl) (hb hby at_258) (fun _ _ => ⟨rfl, ec, (by decide : 3 + 0 ≤ _), (by decide : 310 + 0 ≤ _)⟩)
  dsimp only [Pt.U, Pt.locs, Pt.cells, Pt.slots] at X151 l151 y151 z151 st151 hQ151
  subst l151 y151 z151
  obtain ⟨rfl, N151q, eh151⟩ := hQ151
  have N151 := Fr.app Nc N151q
  refine own_via st151 ?_
  refine own_go (A := T151.setTop (mkF m 269 #[.val (.int p1), .val (.ref b1), .val (.ref b104), .val (.int (7 : Int32)), .val (.ref ad7), .val (.int (70 : Int32)), .unset] [(.int (15 : Int32)), (.ref b104)])) (fun t_ k_ => ?_) ?_
  · show Steps p.tables e below (T151.setTop (mkF m 261 #[.val (.int p1), .val (.ref b1), .val (.ref b104), .val (.int (7 : Int32)), .val (.ref ad7), .unset, .unset] [(.int (70 : Int32))])) t_
    refine XS.istore X151.here hx rfl (hb hby at_261) rfl (l' := #[.val (.int p1), .val (.ref b1), .val (.ref b104), .val (.int (7 : Int32)), .val (.ref ad7), .val (.int (70 : Int32)), .unset]) rfl ?_
    show Steps p.tables e below (T151.setTop (mkF m 263 #[.val (.int p1), .val (.ref b1), .val (.ref b104), .val (.int (7 : Int32)), .val (.ref ad7), .val (.int (70 : Int32)), .unset] [])) t_
    refine XS.aloadN X151.here hx rfl (hb hby at_263) rfl rfl ?_
    show Steps p.tables e below (T151.setTop (mkF m 264 #[.val (.int p1), .val (.ref b1), .val (.ref b104), .val (.int (7 : Int32)), .val (.ref ad7), .val (.int (70 : Int32)), .unset] [(.ref b104)])) t_
    refine XS.iconst X151.here hx rfl (hb hby at_264) ?_
    show Steps p.tables e below (T151.setTop (mkF m 265 #[.val (.int p1), .val (.ref b1), .val (.ref b104), .val (.int (7 : Int32)), .val (.ref ad7), .val (.int (70 : Int32)), .unset] [(.int (2 : Int32)), (.ref b104)])) t_
    refine XS.iloadN X151.here hx rfl (hb hby at_265) rfl ?_
    show Steps p.tables e below (T151.setTop (mkF m 266 #[.val (.int p1), .val (.ref b1), .val (.ref b104), .val (.int (7 : Int32)), .val (.ref ad7), .val (.int (70 : Int32)), .unset] [(.int (7 : Int32)), (.int (2 : Int32)), (.ref b104)])) t_
    refine XS.imul X151.here hx rfl (hb hby at_266) rfl ?_
    show Steps p.tables e below (T151.setTop (mkF m 267 #[.val (.int p1), .val (.ref b1), .val (.ref b104), .val (.int (7 : Int32)), .val (.ref ad7), .val (.int (70 : Int32)), .unset] [(.int (14 : Int32)), (.ref b104)])) t_
    refine XS.iconst X151.here hx rfl (hb hby at_267) ?_
    show Steps p.tables e below (T151.setTop (mkF m 268 #[.val (.int p1), .val (.ref b1), .val (.ref b104), .val (.int (7 : Int32)), .val (.ref ad7), .val (.int (70 : Int32)), .unset] [(.int (1 : Int32)), (.int (14 : Int32)), (.ref b104)])) t_
    refine XS.iadd X151.here hx rfl (hb hby at_268) rfl ?_
    exact k_
  obtain ⟨cq152, kq152, q152a, q152b, q152c⟩ := isOf hZ eh151 zc4
  obtain ⟨_, _, ⟨T152, L152, k152, n152⟩, -, X152, ⟨Lc152, hQ152, l152, y152, z152⟩, st152⟩ := X151.virtualBack hx (y := own_y4) (z := own_y4) hown (mvT hZ (own_w hw 81 rfl)) (mvT hZ (own_w hw 82 rfl)) (notFace_of_selects (args := #[]) (mvT hZ (own_w hw 84 rfl))) (mvT hZ (own_w hw 84 rfl)) (mvT hZ (own_w hw 83 rfl)) (by decide) (backOf (W := 0) (rmChAt l Z a0 hw [] b104 (15 : Int32) d104 kk104 (68 : Int32) own_txt (68 : Int32) sf cs Hc n0 (Nat.le_trans Z0 Kc0.1) Oc zc0 hcs zc1 hsf zc4 zc5 zc6 zc7 (by decide : ¬ ((15 : Int32) < (0 : Int32))) (by decide : (15 : Int32) < (68 : Int32)) rfl) hZ (own_w hw 85 rfl) (own_w hw 73 rfl) (by decide) (by decide)) q152a q152c (g := (mkF m 269 #[.val (.int p1), .val (.ref b1), .val (.ref b104), .val (.int (7 : Int32)), .val (.ref ad7), .val (.int (70 : Int32)), .unset] [(.int (15 : Int32)), (.ref b104)])) rfl (by rw [hml]; rfl) (Steps.refl _) (argsL := [(.int (15 : Int32))]) (rest := []) (lenOf pd_5 rfl) rfl (by show 2 * 0 + _ ≤ _; exact Nat.le_of_eq rfl) (hb hby at_269) (fun _ _ => ⟨rfl, eh151, (by decide : 3 + 0 ≤ _), (by decide : 310 + 0 ≤ _)⟩)
  dsimp only [Pt.U, Pt.locs, Pt.cells, Pt.slots] at X152 l152 y152 z152 st152 hQ152
  subst l152 y152 z152
  obtain ⟨rfl, N152q, eh152⟩ := hQ152
  have N152 := Fr.app N151 N152q
  refine own_via st152 ?_
  refine own_go (A := T152.setTop (mkF m 276 #[.val (.int p1), .val (.ref b1), .val (.ref b104), .val (.int (7 : Int32)), .val (.ref ad7), .val (.int (70 : Int32)), .val (.int (68 : Int32))] [(.ref ad7)])) (fun t_ k_ => ?_) ?_
  · show Steps p.tables e below (T152.setTop (mkF m 272 #[.val (.int p1), .val (.ref b1), .val (.ref b104), .val (.int (7 : Int32)), .val (.ref ad7), .val (.int (70 : Int32)), .unset] [(.int (68 : Int32))])) t_
    refine XS.istore X152.here hx rfl (hb hby at_272) rfl (l' := #[.val (.int p1), .val (.ref b1), .val (.ref b104), .val (.int (7 : Int32)), .val (.ref ad7), .val (.int (70 : Int32)), .val (.int (68 : Int32))]) rfl ?_
    show Steps p.tables e below (T152.setTop (mkF m 274 #[.val (.int p1), .val (.ref b1), .val (.ref b104), .val (.int (7 : Int32)), .val (.ref ad7), .val (.int (70 : Int32)), .val (.int (68 : Int32))] [])) t_
    refine XS.aload X152.here hx rfl (hb hby at_274) rfl rfl ?_
    exact k_
  obtain ⟨cq153, kq153, q153a, q153b, q153c⟩ := isOf hZ eh152 (zc2.ext Oc.2)
  obtain ⟨_, _, ⟨T153, L153, k153, n153⟩, -, X153, ⟨Lc153, hQ153, l153, y153, z153⟩, st153⟩ := X152.virtualBack hx (y := own_y7) (z := own_y7) hown (mvT hZ (own_w hw 106 rfl)) (mvT hZ (own_w hw 107 rfl)) (notFace_of_selects (args := #[]) (mvT hZ (own_w hw 109 rfl))) (mvT hZ (own_w hw 109 rfl)) (mvT hZ (own_w hw 108 rfl)) (by decide) (backOf (W := 0) (rmMOut l Z a0 hw [] ad7 (7 : Int32) Hc n0 (Nat.le_trans Z0 Kc0.1) Oc zc2 zc3 (by decide)) hZ (own_w hw 110 rfl) (own_w hw 3 rfl) (by decide) (by decide)) q153a q153c (g := (mkF m 276 #[.val (.int p1), .val (.ref b1), .val (.ref b104), .val (.int (7 : Int32)), .val (.ref ad7), .val (.int (70 : Int32)), .val (.int (68 : Int32))] [(.ref ad7)])) rfl (by rw [hml]; rfl) (Steps.refl _) (argsL := []) (rest := []) (lenOf pd_2 rfl) rfl (by show 2 * 0 + _ ≤ _; exact Nat.le_of_eq rfl) (hb hby at_276) (fun _ _ => ⟨rfl, eh152, (by decide : 3 + 0 ≤ _), (by decide : 310 + 0 ≤ _)⟩)
  dsimp only [Pt.U, Pt.locs, Pt.cells, Pt.slots] at X153 l153 y153 z153 st153 hQ153
  subst l153 y153 z153
  obtain ⟨rfl, N153q, eh153⟩ := hQ153
  have N153 := Fr.app N152 N153q
  refine own_via st153 ?_
  refine own_go (A := T153.setTop (mkF m 283 #[.val (.int p1), .val (.ref b1), .val (.ref b104), .val (.int (7 : Int32)), .val (.ref ad7), .val (.int (70 : Int32)), .val (.int (68 : Int32))] [(.int (68 : Int32)), (.int (70 : Int32)), (.int (0 : Int32))])) (fun t_ k_ => ?_) ?_
  · show Steps p.tables e below (T153.setTop (mkF m 279 #[.val (.int p1), .val (.ref b1), .val (.ref b104), .val (.int (7 : Int32)), .val (.ref ad7), .val (.int (70 : Int32)), .val (.int (68 : Int32))] [(.int (0 : Int32))])) t_
    refine XS.iload X153.here hx rfl (hb hby at_279) rfl ?_
    show Steps p.tables e below (T153.setTop (mkF m 281 #[.val (.int p1), .val (.ref b1), .val (.ref b104), .val (.int (7 : Int32)), .val (.ref ad7), .val (.int (70 : Int32)), .val (.int (68 : Int32))] [(.int (70 : Int32)), (.int (0 : Int32))])) t_
    refine XS.iload X153.here hx rfl (hb hby at_281) rfl ?_
    exact k_
  obtain ⟨_, _, ⟨T154, L154, k154, n154⟩, -, X154, ⟨Lc154, hQ154, l154, y154, z154⟩, st154⟩ := Jvm.LawKit.callS X153 hx (y := own_y8) hown (mvT hZ (own_w hw 120 rfl)) (mvT hZ (own_w hw 121 rfl)) (mvT hZ (own_w hw 122 rfl)) (mvT hZ (own_w hw 123 rfl)) (by decide) (backOf (W := 1) (rmEX l Z a0 hw [] (70 : Int32) (68 : Int32) Hc n0 (Nat.le_trans Z0 Kc0.1) (by decide : ¬ ((70 : Int32) = (79 : Int32))) (by decide : ¬ ((70 : Int32) = (83 : Int32))) (by decide : ¬ ((70 : Int32) = (85 : Int32)))) hZ (own_w hw 123 rfl) (own_w hw 122 rfl) (by decide) (by decide)) (g := (mkF m 283 #[.val (.int p1), .val (.ref b1), .val (.ref b104), .val (.int (7 : Int32)), .val (.ref ad7), .val (.int (70 : Int32)), .val (.int (68 : Int32))] [(.int (68 : Int32)), (.int (70 : Int32)), (.int (0 : Int32))])) rfl (by rw [hml]; rfl) (argsL := [(.int (70 : Int32)), (.int (68 : Int32))]) (rest := [(.int (0 : Int32))]) (lenOf pd_6 rfl) rfl (by show 2 * 0 + _ ≤ _; exact Nat.le_of_eq rfl) (hb hby at_283) (fun _ _ => ⟨rfl, eh153, (by decide : 3 + 0 ≤ _), (by decide : 310 + 0 ≤ _)⟩)
  dsimp only [Pt.U, Pt.locs, Pt.cells, Pt.slots] at X154 l154 y154 z154 st154 hQ154
  subst l154 y154 z154
  obtain ⟨rfl, N154q, eh154⟩ := hQ154
  have N154 := Fr.app N153 N154q
  refine own_go st154 ?_
  refine own_go (A := T154.setTop (mkF m 294 #[.val (.int p1), .val (.ref b1), .val (.ref b104), .val (.int (7 : Int32)), .val (.ref ad7), .val (.int (70 : Int32)), .val (.int (68 : Int32))] [(.int (1 : Int32))])) (fun t_ k_ => ?_) ?_
  · show Steps p.tables e below (T154.setTop (mkF m 286 #[.val (.int p1), .val (.ref b1), .val (.ref b104), .val (.int (7 : Int32)), .val (.ref ad7), .val (.int (70 : Int32)), .val (.int (68 : Int32))] [(.int (0 : Int32)), (.int (0 : Int32))])) t_
    refine XS.icmpNo X154.here hx rfl (hb hby at_286) rfl (teq (by decide : (0 : Int32) = (0 : Int32))).2 ?_
    show Steps p.tables e below (T154.setTop (mkF m 289 #[.val (.int p1), .val (.ref b1), .val (.ref b104), .val (.int (7 : Int32)), .val (.ref ad7), .val (.int (70 : Int32)), .val (.int (68 : Int32))] [])) t_
    refine XS.iconst X154.here hx rfl (hb hby at_289) ?_
    show Steps p.tables e below (T154.setTop (mkF m 290 #[.val (.int p1), .val (.ref b1), .val (.ref b104), .val (.int (7 : Int32)), .val (.ref ad7), .val (.int (70 : Int32)), .val (.int (68 : Int32))] [(.int (1 : Int32))])) t_
    refine XS.goto X154.here hx rfl (pc0 := 290) (pc' := 294) rfl (hb hby at_290) (by decide) (by decide) ?_
    exact k_
  obtain ⟨fs155, hr155, hrun155, hended155, hRW155⟩ := X154.leaveW hS (by rw [eh154]; exact hk) (v := some (.int (1 : Int32))) (fun h => by rw [hret] at h; cases h)
  refine ⟨_, _, ?_, hrun155, hended155, _, _, rfl, ?_, hRW155.1, hRW155.2.1, hRW155.2.2.1, hRW155.2.2.2.mono (by decide) (by decide)⟩
  · exact retN X154 hx (t := .boolean) hret (by simp) (hb hby at_294) hr155
  · show Q_rm0 Z p1 cs sf ad0 ad1 ad2 ad3 ad4 ad5 ad6 ad7 ad8 ad9 ad10 ad11 ad12 ad13 ad14 ad15 ad16 ad17 ad18 ad19 ad20 ad21 ad22 ad23 ad24 ad25 ad26 ad27 ad28 ad29 ad30 ad31 ad32 ad33 h0 n0 _ T154.heap _
    rw [eh154]
    exact ⟨rfl, N154, Kc0⟩
set_option maxRecDepth 65536 in
set_option maxHeartbeats 40000000 in
theorem own_sufad8 (l : Launch) (Z : State) (a0 : Array Value) (hw : ∀ d ∈ tables_1, d.before a0 Z = true) (p1 : Int32) (cs : Int32) (sf : Value) (ad0 : Addr) (ad1 : Addr) (ad2 : Addr) (ad3 : Addr) (ad4 : Addr) (ad5 : Addr) (ad6 : Addr) (ad7 : Addr) (ad8 : Addr) (ad9 : Addr) (ad10 : Addr) (ad11 : Addr) (ad12 : Addr) (ad13 : Addr) (ad14 : Addr) (ad15 : Addr) (ad16 : Addr) (ad17 : Addr) (ad18 : Addr) (ad19 : Addr) (ad20 : Addr) (ad21 : Addr) (ad22 : Addr) (ad23 : Addr) (ad24 : Addr) (ad25 : Addr) (ad26 : Addr) (ad27 : Addr) (ad28 : Addr) (ad29 : Addr) (ad30 : Addr) (ad31 : Addr) (ad32 : Addr) (ad33 : Addr) (b1 : Addr) (b104 : Addr) (d104 : Addr) (kk104 : ClassId) (h0 : Heap) (n0 : Nat) (Z0 : n0 ≤ h0.size) {p : Program} {e : Env} {s : State} {m : MethodId} {below : List Frame} {meth : Method} {c : Code} {Tc : State} {Hc : Heap} {locsc : List Loc} {vmc : Vm} {kc0 : Nat} (Xc : Stand p l e room_1 (s.setVm vmc) m #[(.int p1)] below meth c Tc locsc 3 310) (hx : p.tables.exec = Jvm.exec) (hZ : Z.Warmed39 (s.setVm vmc).vm) (hby : c.code = code) (hml : c.maxLocals = 7) (hown : (s.setVm vmc).vm.findClass "com/example/querent/querent/dicom/VrHasLongLengthPinLaw" = some m.cls) (hret : meth.sig.returnType = some .boolean) (hlk : meth.locks = false) (hh : s.heap = h0) (ec : Tc.heap = Hc) (Nc : Fr n0 locsc) (Kc0 : Keep h0 Hc []) (Oc : Old Z n0 Hc) (hS : s.Since vmc kc0) (hk : kc0 ≤ Hc.size) (hSA : ∀ a ∈ Bundle.stringAtoms, a.before a0 Z = true) (zc0 : Sta Z Z.heap "java/lang/String" "COMPACT_STRINGS" "Z" (.int cs)) (zc1 : Sta Z Z.heap "jdk/internal/util/Preconditions" "SIOOBE_FORMATTER" "Ljava/util/function/BiFunction;" sf) (zc2 : Exa Z Z.heap ad8 "com/example/querent/querent/dicom/Vr") (zc3 : Fld Z Z.heap ad8 "java/lang/Enum" "ordinal" "I" (.int (8 : Int32))) (zc4 : Exa Z Hc b104 "java/lang/String") (zc5 : Fld Z Hc b104 "java/lang/String" "coder" "B" (.int (0 : Int32))) (zc6 : Fld Z Hc b104 "java/lang/String" "value" "[B" (.ref d104)) (zc7 : Arv Z Hc d104 kk104 .byte (68 : Int32) own_txt (.int (0 : Int32))) (hcs : ¬ (cs = (0 : Int32))) (hsf : sf.isRef = true) (hn0 : n0 = h0.size) (hcw : Jvm.Lit.compactW.before a0 Z = true) (hlit : Jvm.Lit.constHeld Z "com/example/querent/querent/dicom/VrHasLongLengthPinLaw" 112) :
    ∃ U_ o_, Steps p.tables e below (Tc.setTop (mkF m 254 #[.val (.int p1), .val (.ref b1), .val (.ref b104), .val (.int (8 : Int32)), .val (.ref ad8), .unset, .unset] [])) U_ ∧ U_.status = .running ∧ Ended U_ below o_ ∧ (∃ v_ L_, o_ = .returned v_ ∧ Q_rm0 Z p1 cs sf ad0 ad1 ad2 ad3 ad4 ad5 ad6 ad7 ad8 ad9 ad10 ad11 ad12 ad13 ad14 ad15 ad16 ad17 ad18 ad19 ad20 ad21 ad22 ad23 ad24 ad25 ad26 ad27 ad28 ad29 ad30 ad31 ad32 ad33 h0 n0 v_ U_.heap L_ ∧ ReturnedEndW s o_ U_ L_ room_1.cells room_1.slots) := by
  refine own_go (A := Tc.setTop (mkF m 258 #[.val (.int p1), .val (.ref b1), .val (.ref b104), .val (.int (8 : Int32)), .val (.ref ad8), .unset, .unset] [(.int (16 : Int32)), (.ref b104)])) (fun t_ k_ => ?_) ?_
  · show Steps p.tables e below (Tc.setTop (mkF m 254 #[.val (.int p1), .val (.ref b1), .val (.ref b104), .val (.int (8 : Int32)), .val (.ref ad8), .unset, .unset] [])) t_
    refine XS.aloadN Xc.here hx rfl (hb hby at_254) rfl rfl ?_
    show Steps p.tables e below (Tc.setTop (mkF m 255 #[.val (.int p1), .val (.ref b1), .val (.ref b104), .val (.int (8 : Int32)), .val (.ref ad8), .unset, .unset] [(.ref b104)])) t_
    refine XS.iconst Xc.here hx rfl (hb hby at_255) ?_
    show Steps p.tables e below (Tc.setTop (mkF m 256 #[.val (.int p1), .val (.ref b1), .val (.ref b104), .val (.int (8 : Int32)), .val (.ref ad8), .unset, .unset] [(.int (2 : Int32)), (.ref b104)])) t_
    refine XS.iloadN Xc.here hx rfl (hb hby at_256) rfl ?_
    show Steps p.tables e below (Tc.setTop (mkF m 257 #[.val (.int p1), .val (.ref b1), .val (.ref b104), .val (.int (8 : Int32)), .val (.ref ad8), .unset, .unset] [(.int (8 : Int32)), (.int (2 : Int32)), (.ref b104)])) t_
    refine XS.imul Xc.here hx rfl (hb hby at_257) rfl ?_
    exact k_
  obtain ⟨cq157, kq157, q157a, q157b, q157c⟩ := isOf hZ ec zc4
  obtain ⟨_, _, ⟨T157, L157, k157, n157⟩, -, X157, ⟨Lc157, hQ157, l157, y157, z157⟩, st157⟩ := Xc.virtualBack hx (y := own_y4) (z := own_y4) hown (mvT hZ (own_w hw 81 rfl)) (mvT hZ (own_w hw 82 rfl)) (notFace_of_selects (args := #[]) (mvT hZ (own_w hw 84 rfl))) (mvT hZ (own_w hw 84 rfl)) (mvT hZ (own_w hw 83 rfl)) (by decide) (backOf (W := 0) (rmChAt l Z a0 hw [] b104 (16 : Int32) d104 kk104 (68 : Int32) own_txt (70 : Int32) sf cs Hc n0 (Nat.le_trans Z0 Kc0.1) Oc zc0 hcs zc1 hsf zc4 zc5 zc6 zc7 (by decide : ¬ ((16 : Int32) < (0 : Int32))) (by decide : (16 : Int32) < (68 : Int32)) rfl) hZ (own_w hw 85 rfl) (own_w hw 73 rfl) (by decide) (by decide)) q157a q157c (g := (mkF m 258 #[.val (.int p1), .val (.ref b1), .val (.ref b104), .val (.int (8 : Int32)), .val (.ref ad8), .unset, .unset] [(.int (16 : Int32)), (.ref b104)])) rfl (by rw [hml]; rfl) (Steps.refl _) (argsL := [(.int (16 : Int32))]) (rest := []) (lenOf pd_5 rfl) rfl (by show 2 * 0 + _ ≤ _; exact Nat.le_of_eq rfl) (hb hby at_258) (fun _ _ => ⟨rfl, ec, (by decide : 3 + 0 ≤ _), (by decide : 310 + 0 ≤ _)⟩)
  dsimp only [Pt.U, Pt.locs, Pt.cells, Pt.slots] at X157 l157 y157 z157 st157 hQ157
  subst l157 y157 z157
  obtain ⟨rfl, N157q, eh157⟩ := hQ157
  have N157 := Fr.app Nc N157q
  refine own_via st157 ?_
  refine own_go (A := T157.setTop (mkF m 269 #[.val (.int p1), .val (.ref b1), .val (.ref b104), .val (.int (8 : Int32)), .val (.ref ad8), .val (.int (70 : Int32)), .unset] [(.int (17 : Int32)), (.ref b104)])) (fun t_ k_ => ?_) ?_
  · show Steps p.tables e below (T157.setTop (mkF m 261 #[.val (.int p1), .val (.ref b1), .val (.ref b104), .val (.int (8 : Int32)), .val (.ref ad8), .unset, .unset] [(.int (70 : Int32))])) t_
    refine XS.istore X157.here hx rfl (hb hby at_261) rfl (l' := #[.val (.int p1), .val (.ref b1), .val (.ref b104), .val (.int (8 : Int32)), .val (.ref ad8), .val (.int (70 : Int32)), .unset]) rfl ?_
    show Steps p.tables e below (T157.setTop (mkF m 263 #[.val (.int p1), .val (.ref b1), .val (.ref b104), .val (.int (8 : Int32)), .val (.ref ad8), .val (.int (70 : Int32)), .unset] [])) t_
    refine XS.aloadN X157.here hx rfl (hb hby at_263) rfl rfl ?_
    show Steps p.tables e below (T157.setTop (mkF m 264 #[.val (.int p1), .val (.ref b1), .val (.ref b104), .val (.int (8 : Int32)), .val (.ref ad8), .val (.int (70 : Int32)), .unset] [(.ref b104)])) t_
    refine XS.iconst X157.here hx rfl (hb hby at_264) ?_
    show Steps p.tables e below (T157.setTop (mkF m 265 #[.val (.int p1), .val (.ref b1), .val (.ref b104), .val (.int (8 : Int32)), .val (.ref ad8), .val (.int (70 : Int32)), .unset] [(.int (2 : Int32)), (.ref b104)])) t_
    refine XS.iloadN X157.here hx rfl (hb hby at_265) rfl ?_
    show Steps p.tables e below (T157.setTop (mkF m 266 #[.val (.int p1), .val (.ref b1), .val (.ref b104), .val (.int (8 : Int32)), .val (.ref ad8), .val (.int (70 : Int32)), .unset] [(.int (8 : Int32)), (.int (2 : Int32)), (.ref b104)])) t_
    refine XS.imul X157.here hx rfl (hb hby at_266) rfl ?_
    show Steps p.tables e below (T157.setTop (mkF m 267 #[.val (.int p1), .val (.ref b1), .val (.ref b104), .val (.int (8 : Int32)), .val (.ref ad8), .val (.int (70 : Int32)), .unset] [(.int (16 : Int32)), (.ref b104)])) t_
    refine XS.iconst X157.here hx rfl (hb hby at_267) ?_
    show Steps p.tables e below (T157.setTop (mkF m 268 #[.val (.int p1), .val (.ref b1), .val (.ref b104), .val (.int (8 : Int32)), .val (.ref ad8), .val (.int (70 : Int32)), .unset] [(.int (1 : Int32)), (.int (16 : Int32)), (.ref b104)])) t_
    refine XS.iadd X157.here hx rfl (hb hby at_268) rfl ?_
    exact k_
  obtain ⟨cq158, kq158, q158a, q158b, q158c⟩ := isOf hZ eh157 zc4
  obtain ⟨_, _, ⟨T158, L158, k158, n158⟩, -, X158, ⟨Lc158, hQ158, l158, y158, z158⟩, st158⟩ := X157.virtualBack hx (y := own_y4) (z := own_y4) hown (mvT hZ (own_w hw 81 rfl)) (mvT hZ (own_w hw 82 rfl)) (notFace_of_selects (args := #[]) (mvT hZ (own_w hw 84 rfl))) (mvT hZ (own_w hw 84 rfl)) (mvT hZ (own_w hw 83 rfl)) (by decide) (backOf (W := 0) (rmChAt l Z a0 hw [] b104 (17 : Int32) d104 kk104 (68 : Int32) own_txt (76 : Int32) sf cs Hc n0 (Nat.le_trans Z0 Kc0.1) Oc zc0 hcs zc1 hsf zc4 zc5 zc6 zc7 (by decide : ¬ ((17 : Int32) < (0 : Int32))) (by decide : (17 : Int32) < (68 : Int32)) rfl) hZ (own_w hw 85 rfl) (own_w hw 73 rfl) (by decide) (by decide)) q158a q158c (g := (mkF m 269 #[.val (.int p1), .val (.ref b1), .val (.ref b104), .val (.int (8 : Int32)), .val (.ref ad8), .val (.int (70 : Int32)), .unset] [(.int (17 : Int32)), (.ref b104)])) rfl (by rw [hml]; rfl) (Steps.refl _) (argsL := [(.int (17 : Int32))]) (rest := []) (lenOf pd_5 rfl) rfl (by show 2 * 0 + _ ≤ _; exact Nat.le_of_eq rfl) (hb hby at_269) (fun _ _ => ⟨rfl, eh157, (by decide : 3 + 0 ≤ _), (by decide : 310 + 0 ≤ _)⟩)
  dsimp only [Pt.U, Pt.locs, Pt.cells, Pt.slots] at X158 l158 y158 z158 st158 hQ158
  subst l158 y158 z158
  obtain ⟨rfl, N158q, eh158⟩ := hQ158
  have N158 := Fr.app N157 N158q
  refine own_via st158 ?_
  refine own_go (A := T158.setTop (mkF m 276 #[.val (.int p1), .val (.ref b1), .val (.ref b104), .val (.int (8 : Int32)), .val (.ref ad8), .val (.int (70 : Int32)), .val (.int (76 : Int32))] [(.ref ad8)])) (fun t_ k_ => ?_) ?_
  · show Steps p.tables e below (T158.setTop (mkF m 272 #[.val (.int p1), .val (.ref b1), .val (.ref b104), .val (.int (8 : Int32)), .val (.ref ad8), .val (.int (70 : Int32)), .unset] [(.int (76 : Int32))])) t_
    refine XS.istore X158.here hx rfl (hb hby at_272) rfl (l' := #[.val (.int p1), .val (.ref b1), .val (.ref b104), .val (.int (8 : Int32)), .val (.ref ad8), .val (.int (70 : Int32)), .val (.int (76 : Int32))]) rfl ?_
    show Steps p.tables e below (T158.setTop (mkF m 274 #[.val (.int p1), .val (.ref b1), .val (.ref b104), .val (.int (8 : Int32)), .val (.ref ad8), .val (.int (70 : Int32)), .val (.int (76 : Int32))] [])) t_
    refine XS.aload X158.here hx rfl (hb hby at_274) rfl rfl ?_
    exact k_
  obtain ⟨cq159, kq159, q159a, q159b, q159c⟩ := isOf hZ eh158 (zc2.ext Oc.2)
  obtain ⟨_, _, ⟨T159, L159, k159, n159⟩, -, X159, ⟨Lc159, hQ159, l159, y159, z159⟩, st159⟩ := X158.virtualBack hx (y := own_y7) (z := own_y7) hown (mvT hZ (own_w hw 106 rfl)) (mvT hZ (own_w hw 107 rfl)) (notFace_of_selects (args := #[]) (mvT hZ (own_w hw 109 rfl))) (mvT hZ (own_w hw 109 rfl)) (mvT hZ (own_w hw 108 rfl)) (by decide) (backOf (W := 0) (rmMOut l Z a0 hw [] ad8 (8 : Int32) Hc n0 (Nat.le_trans Z0 Kc0.1) Oc zc2 zc3 (by decide)) hZ (own_w hw 110 rfl) (own_w hw 3 rfl) (by decide) (by decide)) q159a q159c (g := (mkF m 276 #[.val (.int p1), .val (.ref b1), .val (.ref b104), .val (.int (8 : Int32)), .val (.ref ad8), .val (.int (70 : Int32)), .val (.int (76 : Int32))] [(.ref ad8)])) rfl (by rw [hml]; rfl) (Steps.refl _) (argsL := []) (rest := []) (lenOf pd_2 rfl) rfl (by show 2 * 0 + _ ≤ _; exact Nat.le_of_eq rfl) (hb hby at_276) (fun _ _ => ⟨rfl, eh158, (by decide : 3 + 0 ≤ _), (by decide : 310 + 0 ≤ _)⟩)
  dsimp only [Pt.U, Pt.locs, Pt.cells, Pt.slots] at X159 l159 y159 z159 st159 hQ159
  subst l159 y159 z159
  obtain ⟨rfl, N159q, eh159⟩ := hQ159
  have N159 := Fr.app N158 N159q
  refine own_via st159 ?_
  refine own_go (A := T159.setTop (mkF m 283 #[.val (.int p1), .val (.ref b1), .val (.ref b104), .val (.int (8 : Int32)), .val (.ref ad8), .val (.int (70 : Int32)), .val (.int (76 : Int32))] [(.int (76 : Int32)), (.int (70 : Int32)), (.int (0 : Int32))])) (fun t_ k_ => ?_) ?_
  · show Steps p.tables e below (T159.setTop (mkF m 279 #[.val (.int p1), .val (.ref b1), .val (.ref b104), .val (.int (8 : Int32)), .val (.ref ad8), .val (.int (70 : Int32)), .val (.int (76 : Int32))] [(.int (0 : Int32))])) t_
    refine XS.iload X159.here hx rfl (hb hby at_279) rfl ?_
    show Steps p.tables e below (T159.setTop (mkF m 281 #[.val (.int p1), .val (.ref b1), .val (.ref b104), .val (.int (8 : Int32)), .val (.ref ad8), .val (.int (70 : Int32)), .val (.int (76 : Int32))] [(.int (70 : Int32)), (.int (0 : Int32))])) t_
    refine XS.iload X159.here hx rfl (hb hby at_281) rfl ?_
    exact k_
  obtain ⟨_, _, ⟨T160, L160, k160, n160⟩, -, X160, ⟨Lc160, hQ160, l160, y160, z160⟩, st160⟩ := Jvm.LawKit.callS X159 hx (y := own_y8) hown (mvT hZ (own_w hw 120 rfl)) (mvT hZ (own_w hw 121 rfl)) (mvT hZ (own_w hw 122 rfl)) (mvT hZ (own_w hw 123 rfl)) (by decide) (backOf (W := 1) (rmEX l Z a0 hw [] (70 : Int32) (76 : Int32) Hc n0 (Nat.le_trans Z0 Kc0.1) (by decide : ¬ ((70 : Int32) = (79 : Int32))) (by decide : ¬ ((70 : Int32) = (83 : Int32))) (by decide : ¬ ((70 : Int32) = (85 : Int32)))) hZ (own_w hw 123 rfl) (own_w hw 122 rfl) (by decide) (by decide)) (g := (mkF m 283 #[.val (.int p1), .val (.ref b1), .val (.ref b104), .val (.int (8 : Int32)), .val (.ref ad8), .val (.int (70 : Int32)), .val (.int (76 : Int32))] [(.int (76 : Int32)), (.int (70 : Int32)), (.int (0 : Int32))])) rfl (by rw [hml]; rfl) (argsL := [(.int (70 : Int32)), (.int (76 : Int32))]) (rest := [(.int (0 : Int32))]) (lenOf pd_6 rfl) rfl (by show 2 * 0 + _ ≤ _; exact Nat.le_of_eq rfl) (hb hby at_283) (fun _ _ => ⟨rfl, eh159, (by decide : 3 + 0 ≤ _), (by decide : 310 + 0 ≤ _)⟩)
  dsimp only [Pt.U, Pt.locs, Pt.cells, Pt.slots] at X160 l160 y160 z160 st160 hQ160
  subst l160 y160 z160
  obtain ⟨rfl, N160q, eh160⟩ := hQ160
  have N160 := Fr.app N159 N160q
  refine own_go st160 ?_
  refine own_go (A := T160.setTop (mkF m 294 #[.val (.int p1), .val (.ref b1), .val (.ref b104), .val (.int (8 : Int32)), .val (.ref ad8), .val (.int (70 : Int32)), .val (.int (76 : Int32))] [(.int (1 : Int32))])) (fun t_ k_ => ?_) ?_
  · show Steps p.tables e below (T160.setTop (mkF m 286 #[.val (.int p1), .val (.ref b1), .val (.ref b104), .val (.int (8 : Int32)), .val (.ref ad8), .val (.int (70 : Int32)), .val (.int (76 : Int32))] [(.int (0 : Int32)), (.int (0 : Int32))])) t_
    refine XS.icmpNo X160.here hx rfl (hb hby at_286) rfl (teq (by decide : (0 : Int32) = (0 : Int32))).2 ?_
    show Steps p.tables e below (T160.setTop (mkF m 289 #[.val (.int p1), .val (.ref b1), .val (.ref b104), .val (.int (8 : Int32)), .val (.ref ad8), .val (.int (70 : Int32)), .val (.int (76 : Int32))] [])) t_
    refine XS.iconst X160.here hx rfl (hb hby at_289) ?_
    show Steps p.tables e below (T160.setTop (mkF m 290 #[.val (.int p1), .val (.ref b1), .val (.ref b104), .val (.int (8 : Int32)), .val (.ref ad8), .val (.int (70 : Int32)), .val (.int (76 : Int32))] [(.int (1 : Int32))])) t_
    refine XS.goto X160.here hx rfl (pc0 := 290) (pc' := 294) rfl (hb hby at_290) (by decide) (by decide) ?_
    exact k_
  obtain ⟨fs161, hr161, hrun161, hended161, hRW161⟩ := X160.leaveW hS (by rw [eh160]; exact hk) (v := some (.int (1 : Int32))) (fun h => by rw [hret] at h; cases h)
  refine ⟨_, _, ?_, hrun161, hended161, _, _, rfl, ?_, hRW161.1, hRW161.2.1, hRW161.2.2.1, hRW161.2.2.2.mono (by decide) (by decide)⟩
  · exact retN X160 hx (t := .boolean) hret (by simp) (hb hby at_294) hr161
  · show Q_rm0 Z p1 cs sf ad0 ad1 ad2 ad3 ad4 ad5 ad6 ad7 ad8 ad9 ad10 ad11 ad12 ad13 ad14 ad15 ad16 ad17 ad18 ad19 ad20 ad21 ad22 ad23 ad24 ad25 ad26 ad27 ad28 ad29 ad30 ad31 ad32 ad33 h0 n0 _ T160.heap _
    rw [eh160]
    exact ⟨rfl, N160, Kc0⟩
set_option maxRecDepth 65536 in
set_option maxHeartbeats 40000000 in
theorem own_sufad9 (l : Launch) (Z : State) (a0 : Array Value) (hw : ∀ d ∈ tables_1, d.before a0 Z = true) (p1 : Int32) (cs : Int32) (sf : Value) (ad0 : Addr) (ad1 : Addr) (ad2 : Addr) (ad3 : Addr) (ad4 : Addr) (ad5 : Addr) (ad6 : Addr) (ad7 : Addr) (ad8 : Addr) (ad9 : Addr) (ad10 : Addr) (ad11 : Addr) (ad12 : Addr) (ad13 : Addr) (ad14 : Addr) (ad15 : Addr) (ad16 : Addr) (ad17 : Addr) (ad18 : Addr) (ad19 : Addr) (ad20 : Addr) (ad21 : Addr) (ad22 : Addr) (ad23 : Addr) (ad24 : Addr) (ad25 : Addr) (ad26 : Addr) (ad27 : Addr) (ad28 : Addr) (ad29 : Addr) (ad30 : Addr) (ad31 : Addr) (ad32 : Addr) (ad33 : Addr) (b1 : Addr) (b104 : Addr) (d104 : Addr) (kk104 : ClassId) (h0 : Heap) (n0 : Nat) (Z0 : n0 ≤ h0.size) {p : Program} {e : Env} {s : State} {m : MethodId} {below : List Frame} {meth : Method} {c : Code} {Tc : State} {Hc : Heap} {locsc : List Loc} {vmc : Vm} {kc0 : Nat} (Xc : Stand p l e room_1 (s.setVm vmc) m #[(.int p1)] below meth c Tc locsc 3 310) (hx : p.tables.exec = Jvm.exec) (hZ : Z.Warmed39 (s.setVm vmc).vm) (hby : c.code = code) (hml : c.maxLocals = 7) (hown : (s.setVm vmc).vm.findClass "com/example/querent/querent/dicom/VrHasLongLengthPinLaw" = some m.cls) (hret : meth.sig.returnType = some .boolean) (hlk : meth.locks = false) (hh : s.heap = h0) (ec : Tc.heap = Hc) (Nc : Fr n0 locsc) (Kc0 : Keep h0 Hc []) (Oc : Old Z n0 Hc) (hS : s.Since vmc kc0) (hk : kc0 ≤ Hc.size) (hSA : ∀ a ∈ Bundle.stringAtoms, a.before a0 Z = true) (zc0 : Sta Z Z.heap "java/lang/String" "COMPACT_STRINGS" "Z" (.int cs)) (zc1 : Sta Z Z.heap "jdk/internal/util/Preconditions" "SIOOBE_FORMATTER" "Ljava/util/function/BiFunction;" sf) (zc2 : Exa Z Z.heap ad9 "com/example/querent/querent/dicom/Vr") (zc3 : Fld Z Z.heap ad9 "java/lang/Enum" "ordinal" "I" (.int (9 : Int32))) (zc4 : Exa Z Hc b104 "java/lang/String") (zc5 : Fld Z Hc b104 "java/lang/String" "coder" "B" (.int (0 : Int32))) (zc6 : Fld Z Hc b104 "java/lang/String" "value" "[B" (.ref d104)) (zc7 : Arv Z Hc d104 kk104 .byte (68 : Int32) own_txt (.int (0 : Int32))) (hcs : ¬ (cs = (0 : Int32))) (hsf : sf.isRef = true) (hn0 : n0 = h0.size) (hcw : Jvm.Lit.compactW.before a0 Z = true) (hlit : Jvm.Lit.constHeld Z "com/example/querent/querent/dicom/VrHasLongLengthPinLaw" 112) :
    ∃ U_ o_, Steps p.tables e below (Tc.setTop (mkF m 254 #[.val (.int p1), .val (.ref b1), .val (.ref b104), .val (.int (9 : Int32)), .val (.ref ad9), .unset, .unset] [])) U_ ∧ U_.status = .running ∧ Ended U_ below o_ ∧ (∃ v_ L_, o_ = .returned v_ ∧ Q_rm0 Z p1 cs sf ad0 ad1 ad2 ad3 ad4 ad5 ad6 ad7 ad8 ad9 ad10 ad11 ad12 ad13 ad14 ad15 ad16 ad17 ad18 ad19 ad20 ad21 ad22 ad23 ad24 ad25 ad26 ad27 ad28 ad29 ad30 ad31 ad32 ad33 h0 n0 v_ U_.heap L_ ∧ ReturnedEndW s o_ U_ L_ room_1.cells room_1.slots) := by
  refine own_go (A := Tc.setTop (mkF m 258 #[.val (.int p1), .val (.ref b1), .val (.ref b104), .val (.int (9 : Int32)), .val (.ref ad9), .unset, .unset] [(.int (18 : Int32)), (.ref b104)])) (fun t_ k_ => ?_) ?_
  · show Steps p.tables e below (Tc.setTop (mkF m 254 #[.val (.int p1), .val (.ref b1), .val (.ref b104), .val (.int (9 : Int32)), .val (.ref ad9), .unset, .unset] [])) t_
    refine XS.aloadN Xc.here hx rfl (hb hby at_254) rfl rfl ?_
    show Steps p.tables e below (Tc.setTop (mkF m 255 #[.val (.int p1), .val (.ref b1), .val (.ref b104), .val (.int (9 : Int32)), .val (.ref ad9), .unset, .unset] [(.ref b104)])) t_
    refine XS.iconst Xc.here hx rfl (hb hby at_255) ?_
    show Steps p.tables e below (Tc.setTop (mkF m 256 #[.val (.int p1), .val (.ref b1), .val (.ref b104), .val (.int (9 : Int32)), .val (.ref ad9), .unset, .unset] [(.int (2 : Int32)), (.ref b104)])) t_
    refine XS.iloadN Xc.here hx rfl (hb hby at_256) rfl ?_
    show Steps p.tables e below (Tc.setTop (mkF m 257 #[.val (.int p1), .val (.ref b1), .val (.ref b104), .val (.int (9 : Int32)), .val (.ref ad9), .unset, .unset] [(.int (9 : Int32)), (.int (2 : Int32)), (.ref b104)])) t_
    refine XS.imul Xc.here hx rfl (hb hby at_257) rfl ?_
    exact k_
  obtain ⟨cq163, kq163, q163a, q163b, q163c⟩ := isOf hZ ec zc4
  obtain ⟨_, _, ⟨T163, L163, k163, n163⟩, -, X163, ⟨Lc163, hQ163, l163, y163, z163⟩, st163⟩ := Xc.virtualBack hx (y := own_y4) (z := own_y4) hown (mvT hZ (own_w hw 81 rfl)) (mvT hZ (own_w hw 82 rfl)) (notFace_of_selects (args := #[]) (mvT hZ (own_w hw 84 rfl))) (mvT hZ (own_w hw 84 rfl)) (mvT hZ (own_w hw 83 rfl)) (by decide) (backOf (W := 0) (rmChAt l Z a0 hw [] b104 (18 : Int32) d104 kk104 (68 : Int32) own_txt (73 : Int32) sf cs Hc n0 (Nat.le_trans Z0 Kc0.1) Oc zc0 hcs zc1 hsf zc4 zc5 zc6 zc7 (by decide : ¬ ((18 : Int32) < (0 : Int32))) (by decide : (18 : Int32) < (68 : Int32)) rfl) hZ (own_w hw 85 rfl) (own_w hw 73 rfl) (by decide) (by decide)) q163a q163c (g := (mkF m 258 #[.val (.int p1), .val (.ref b1), .val (.ref b104), .val (.int (9 : Int32)), .val (.ref ad9), .unset, .unset] [(.int (18 : Int32)), (.ref b104)])) rfl (by rw [hml]; rfl) (Steps.refl _) (argsL := [(.int (18 : Int32))]) (rest := []) (lenOf pd_5 rfl) rfl (by show 2 * 0 + _ ≤ _; exact Nat.le_of_eq rfl) (hb hby at_258) (fun _ _ => ⟨rfl, ec, (by decide : 3 + 0 ≤ _), (by decide : 310 + 0 ≤ _)⟩)
  dsimp only [Pt.U, Pt.locs, Pt.cells, Pt.slots] at X163 l163 y163 z163 st163 hQ163
  subst l163 y163 z163
  obtain ⟨rfl, N163q, eh163⟩ := hQ163
  have N163 := Fr.app Nc N163q
  refine own_via st163 ?_
  refine own_go (A := T163.setTop (mkF m 269 #[.val (.int p1), .val (.ref b1), .val (.ref b104), .val (.int (9 : Int32)), .val (.ref ad9), .val (.int (73 : Int32)), .unset] [(.int (19 : Int32)), (.ref b104)])) (fun t_ k_ => ?_) ?_
  · show Steps p.tables e below (T163.setTop (mkF m 261 #[.val (.int p1), .val (.ref b1), .val (.ref b104), .val (.int (9 : Int32)), .val (.ref ad9), .unset, .unset] [(.int (73 : Int32))])) t_
    refine XS.istore X163.here hx rfl (hb hby at_261) rfl (l' := #[.val (.int p1), .val (.ref b1), .val (.ref b104), .val (.int (9 : Int32)), .val (.ref ad9), .val (.int (73 : Int32)), .unset]) rfl ?_
    show Steps p.tables e below (T163.setTop (mkF m 263 #[.val (.int p1), .val (.ref b1), .val (.ref b104), .val (.int (9 : Int32)), .val (.ref ad9), .val (.int (73 : Int32)), .unset] [])) t_
    refine XS.aloadN X163.here hx rfl (hb hby at_263) rfl rfl ?_
    show Steps p.tables e below (T163.setTop (mkF m 264 #[.val (.int p1), .val (.ref b1), .val (.ref b104), .val (.int (9 : Int32)), .val (.ref ad9), .val (.int (73 : Int32)), .unset] [(.ref b104)])) t_
    refine XS.iconst X163.here hx rfl (hb hby at_264) ?_
    show Steps p.tables e below (T163.setTop (mkF m 265 #[.val (.int p1), .val (.ref b1), .val (.ref b104), .val (.int (9 : Int32)), .val (.ref ad9), .val (.int (73 : Int32)), .unset] [(.int (2 : Int32)), (.ref b104)])) t_
    refine XS.iloadN X163.here hx rfl (hb hby at_265) rfl ?_
    show Steps p.tables e below (T163.setTop (mkF m 266 #[.val (.int p1), .val (.ref b1), .val (.ref b104), .val (.int (9 : Int32)), .val (.ref ad9), .val (.int (73 : Int32)), .unset] [(.int (9 : Int32)), (.int (2 : Int32)), (.ref b104)])) t_
    refine XS.imul X163.here hx rfl (hb hby at_266) rfl ?_
    show Steps p.tables e below (T163.setTop (mkF m 267 #[.val (.int p1), .val (.ref b1), .val (.ref b104), .val (.int (9 : Int32)), .val (.ref ad9), .val (.int (73 : Int32)), .unset] [(.int (18 : Int32)), (.ref b104)])) t_
    refine XS.iconst X163.here hx rfl (hb hby at_267) ?_
    show Steps p.tables e below (T163.setTop (mkF m 268 #[.val (.int p1), .val (.ref b1), .val (.ref b104), .val (.int (9 : Int32)), .val (.ref ad9), .val (.int (73 : Int32)), .unset] [(.int (1 : Int32)), (.int (18 : Int32)), (.ref b104)])) t_
    refine XS.iadd X163.here hx rfl (hb hby at_268) rfl ?_
    exact k_
  obtain ⟨cq164, kq164, q164a, q164b, q164c⟩ := isOf hZ eh163 zc4
  obtain ⟨_, _, ⟨T164, L164, k164, n164⟩, -, X164, ⟨Lc164, hQ164, l164, y164, z164⟩, st164⟩ := X163.virtualBack hx (y := own_y4) (z := own_y4) hown (mvT hZ (own_w hw 81 rfl)) (mvT hZ (own_w hw 82 rfl)) (notFace_of_selects (args := #[]) (mvT hZ (own_w hw 84 rfl))) (mvT hZ (own_w hw 84 rfl)) (mvT hZ (own_w hw 83 rfl)) (by decide) (backOf (W := 0) (rmChAt l Z a0 hw [] b104 (19 : Int32) d104 kk104 (68 : Int32) own_txt (83 : Int32) sf cs Hc n0 (Nat.le_trans Z0 Kc0.1) Oc zc0 hcs zc1 hsf zc4 zc5 zc6 zc7 (by decide : ¬ ((19 : Int32) < (0 : Int32))) (by decide : (19 : Int32) < (68 : Int32)) rfl) hZ (own_w hw 85 rfl) (own_w hw 73 rfl) (by decide) (by decide)) q164a q164c (g := (mkF m 269 #[.val (.int p1), .val (.ref b1), .val (.ref b104), .val (.int (9 : Int32)), .val (.ref ad9), .val (.int (73 : Int32)), .unset] [(.int (19 : Int32)), (.ref b104)])) rfl (by rw [hml]; rfl) (Steps.refl _) (argsL := [(.int (19 : Int32))]) (rest := []) (lenOf pd_5 rfl) rfl (by show 2 * 0 + _ ≤ _; exact Nat.le_of_eq rfl) (hb hby at_269) (fun _ _ => ⟨rfl, eh163, (by decide : 3 + 0 ≤ _), (by decide : 310 + 0 ≤ _)⟩)
  dsimp only [Pt.U, Pt.locs, Pt.cells, Pt.slots] at X164 l164 y164 z164 st164 hQ164
  subst l164 y164 z164
  obtain ⟨rfl, N164q, eh164⟩ := hQ164
  have N164 := Fr.app N163 N164q
  refine own_via st164 ?_
  refine own_go (A := T164.setTop (mkF m 276 #[.val (.int p1), .val (.ref b1), .val (.ref b104), .val (.int (9 : Int32)), .val (.ref ad9), .val (.int (73 : Int32)), .val (.int (83 : Int32))] [(.ref ad9)])) (fun t_ k_ => ?_) ?_
  · show Steps p.tables e below (T164.setTop (mkF m 272 #[.val (.int p1), .val (.ref b1), .val (.ref b104), .val (.int (9 : Int32)), .val (.ref ad9), .val (.int (73 : Int32)), .unset] [(.int (83 : Int32))])) t_
    refine XS.istore X164.here hx rfl (hb hby at_272) rfl (l' := #[.val (.int p1), .val (.ref b1), .val (.ref b104), .val (.int (9 : Int32)), .val (.ref ad9), .val (.int (73 : Int32)), .val (.int (83 : Int32))]) rfl ?_
    show Steps p.tables e below (T164.setTop (mkF m 274 #[.val (.int p1), .val (.ref b1), .val (.ref b104), .val (.int (9 : Int32)), .val (.ref ad9), .val (.int (73 : Int32)), .val (.int (83 : Int32))] [])) t_
    refine XS.aload X164.here hx rfl (hb hby at_274) rfl rfl ?_
    exact k_
  obtain ⟨cq165, kq165, q165a, q165b, q165c⟩ := isOf hZ eh164 (zc2.ext Oc.2)
  obtain ⟨_, _, ⟨T165, L165, k165, n165⟩, -, X165, ⟨Lc165, hQ165, l165, y165, z165⟩, st165⟩ := X164.virtualBack hx (y := own_y7) (z := own_y7) hown (mvT hZ (own_w hw 106 rfl)) (mvT hZ (own_w hw 107 rfl)) (notFace_of_selects (args := #[]) (mvT hZ (own_w hw 109 rfl))) (mvT hZ (own_w hw 109 rfl)) (mvT hZ (own_w hw 108 rfl)) (by decide) (backOf (W := 0) (rmMOut l Z a0 hw [] ad9 (9 : Int32) Hc n0 (Nat.le_trans Z0 Kc0.1) Oc zc2 zc3 (by decide)) hZ (own_w hw 110 rfl) (own_w hw 3 rfl) (by decide) (by decide)) q165a q165c (g := (mkF m 276 #[.val (.int p1), .val (.ref b1), .val (.ref b104), .val (.int (9 : Int32)), .val (.ref ad9), .val (.int (73 : Int32)), .val (.int (83 : Int32))] [(.ref ad9)])) rfl (by rw [hml]; rfl) (Steps.refl _) (argsL := []) (rest := []) (lenOf pd_2 rfl) rfl (by show 2 * 0 + _ ≤ _; exact Nat.le_of_eq rfl) (hb hby at_276) (fun _ _ => ⟨rfl, eh164, (by decide : 3 + 0 ≤ _), (by decide : 310 + 0 ≤ _)⟩)
  dsimp only [Pt.U, Pt.locs, Pt.cells, Pt.slots] at X165 l165 y165 z165 st165 hQ165
  subst l165 y165 z165
  obtain ⟨rfl, N165q, eh165⟩ := hQ165
  have N165 := Fr.app N164 N165q
  refine own_via st165 ?_
  refine own_go (A := T165.setTop (mkF m 283 #[.val (.int p1), .val (.ref b1), .val (.ref b104), .val (.int (9 : Int32)), .val (.ref ad9), .val (.int (73 : Int32)), .val (.int (83 : Int32))] [(.int (83 : Int32)), (.int (73 : Int32)), (.int (0 : Int32))])) (fun t_ k_ => ?_) ?_
  · show Steps p.tables e below (T165.setTop (mkF m 279 #[.val (.int p1), .val (.ref b1), .val (.ref b104), .val (.int (9 : Int32)), .val (.ref ad9), .val (.int (73 : Int32)), .val (.int (83 : Int32))] [(.int (0 : Int32))])) t_
    refine XS.iload X165.here hx rfl (hb hby at_279) rfl ?_
    show Steps p.tables e below (T165.setTop (mkF m 281 #[.val (.int p1), .val (.ref b1), .val (.ref b104), .val (.int (9 : Int32)), .val (.ref ad9), .val (.int (73 : Int32)), .val (.int (83 : Int32))] [(.int (73 : Int32)), (.int (0 : Int32))])) t_
    refine XS.iload X165.here hx rfl (hb hby at_281) rfl ?_
    exact k_
  obtain ⟨_, _, ⟨T166, L166, k166, n166⟩, -, X166, ⟨Lc166, hQ166, l166, y166, z166⟩, st166⟩ := Jvm.LawKit.callS X165 hx (y := own_y8) hown (mvT hZ (own_w hw 120 rfl)) (mvT hZ (own_w hw 121 rfl)) (mvT hZ (own_w hw 122 rfl)) (mvT hZ (own_w hw 123 rfl)) (by decide) (backOf (W := 1) (rmEX l Z a0 hw [] (73 : Int32) (83 : Int32) Hc n0 (Nat.le_trans Z0 Kc0.1) (by decide : ¬ ((73 : Int32) = (79 : Int32))) (by decide : ¬ ((73 : Int32) = (83 : Int32))) (by decide : ¬ ((73 : Int32) = (85 : Int32)))) hZ (own_w hw 123 rfl) (own_w hw 122 rfl) (by decide) (by decide)) (g := (mkF m 283 #[.val (.int p1), .val (.ref b1), .val (.ref b104), .val (.int (9 : Int32)), .val (.ref ad9), .val (.int (73 : Int32)), .val (.int (83 : Int32))] [(.int (83 : Int32)), (.int (73 : Int32)), (.int (0 : Int32))])) rfl (by rw [hml]; rfl) (argsL := [(.int (73 : Int32)), (.int (83 : Int32))]) (rest := [(.int (0 : Int32))]) (lenOf pd_6 rfl) rfl (by show 2 * 0 + _ ≤ _; exact Nat.le_of_eq rfl) (hb hby at_283) (fun _ _ => ⟨rfl, eh165, (by decide : 3 + 0 ≤ _), (by decide : 310 + 0 ≤ _)⟩)
  dsimp only [Pt.U, Pt.locs, Pt.cells, Pt.slots] at X166 l166 y166 z166 st166 hQ166
  subst l166 y166 z166
  obtain ⟨rfl, N166q, eh166⟩ := hQ166
  have N166 := Fr.app N165 N166q
  refine own_go st166 ?_
  refine own_go (A := T166.setTop (mkF m 294 #[.val (.int p1), .val (.ref b1), .val (.ref b104), .val (.int (9 : Int32)), .val (.ref ad9), .val (.int (73 : Int32)), .val (.int (83 : Int32))] [(.int (1 : Int32))])) (fun t_ k_ => ?_) ?_
  · show Steps p.tables e below (T166.setTop (mkF m 286 #[.val (.int p1), .val (.ref b1), .val (.ref b104), .val (.int (9 : Int32)), .val (.ref ad9), .val (.int (73 : Int32)), .val (.int (83 : Int32))] [(.int (0 : Int32)), (.int (0 : Int32))])) t_
    refine XS.icmpNo X166.here hx rfl (hb hby at_286) rfl (teq (by decide : (0 : Int32) = (0 : Int32))).2 ?_
    show Steps p.tables e below (T166.setTop (mkF m 289 #[.val (.int p1), .val (.ref b1), .val (.ref b104), .val (.int (9 : Int32)), .val (.ref ad9), .val (.int (73 : Int32)), .val (.int (83 : Int32))] [])) t_
    refine XS.iconst X166.here hx rfl (hb hby at_289) ?_
    show Steps p.tables e below (T166.setTop (mkF m 290 #[.val (.int p1), .val (.ref b1), .val (.ref b104), .val (.int (9 : Int32)), .val (.ref ad9), .val (.int (73 : Int32)), .val (.int (83 : Int32))] [(.int (1 : Int32))])) t_
    refine XS.goto X166.here hx rfl (pc0 := 290) (pc' := 294) rfl (hb hby at_290) (by decide) (by decide) ?_
    exact k_
  obtain ⟨fs167, hr167, hrun167, hended167, hRW167⟩ := X166.leaveW hS (by rw [eh166]; exact hk) (v := some (.int (1 : Int32))) (fun h => by rw [hret] at h; cases h)
  refine ⟨_, _, ?_, hrun167, hended167, _, _, rfl, ?_, hRW167.1, hRW167.2.1, hRW167.2.2.1, hRW167.2.2.2.mono (by decide) (by decide)⟩
  · exact retN X166 hx (t := .boolean) hret (by simp) (hb hby at_294) hr167
  · show Q_rm0 Z p1 cs sf ad0 ad1 ad2 ad3 ad4 ad5 ad6 ad7 ad8 ad9 ad10 ad11 ad12 ad13 ad14 ad15 ad16 ad17 ad18 ad19 ad20 ad21 ad22 ad23 ad24 ad25 ad26 ad27 ad28 ad29 ad30 ad31 ad32 ad33 h0 n0 _ T166.heap _
    rw [eh166]
    exact ⟨rfl, N166, Kc0⟩
set_option maxRecDepth 65536 in
set_option maxHeartbeats 40000000 in
theorem own_sufad10 (l : Launch) (Z : State) (a0 : Array Value) (hw : ∀ d ∈ tables_1, d.before a0 Z = true) (p1 : Int32) (cs : Int32) (sf : Value) (ad0 : Addr) (ad1 : Addr) (ad2 : Addr) (ad3 : Addr) (ad4 : Addr) (ad5 : Addr) (ad6 : Addr) (ad7 : Addr) (ad8 : Addr) (ad9 : Addr) (ad10 : Addr) (ad11 : Addr) (ad12 : Addr) (ad13 : Addr) (ad14 : Addr) (ad15 : Addr) (ad16 : Addr) (ad17 : Addr) (ad18 : Addr) (ad19 : Addr) (ad20 : Addr) (ad21 : Addr) (ad22 : Addr) (ad23 : Addr) (ad24 : Addr) (ad25 : Addr) (ad26 : Addr) (ad27 : Addr) (ad28 : Addr) (ad29 : Addr) (ad30 : Addr) (ad31 : Addr) (ad32 : Addr) (ad33 : Addr) (b1 : Addr) (b104 : Addr) (d104 : Addr) (kk104 : ClassId) (h0 : Heap) (n0 : Nat) (Z0 : n0 ≤ h0.size) {p : Program} {e : Env} {s : State} {m : MethodId} {below : List Frame} {meth : Method} {c : Code} {Tc : State} {Hc : Heap} {locsc : List Loc} {vmc : Vm} {kc0 : Nat} (Xc : Stand p l e room_1 (s.setVm vmc) m #[(.int p1)] below meth c Tc locsc 3 310) (hx : p.tables.exec = Jvm.exec) (hZ : Z.Warmed39 (s.setVm vmc).vm) (hby : c.code = code) (hml : c.maxLocals = 7) (hown : (s.setVm vmc).vm.findClass "com/example/querent/querent/dicom/VrHasLongLengthPinLaw" = some m.cls) (hret : meth.sig.returnType = some .boolean) (hlk : meth.locks = false) (hh : s.heap = h0) (ec : Tc.heap = Hc) (Nc : Fr n0 locsc) (Kc0 : Keep h0 Hc []) (Oc : Old Z n0 Hc) (hS : s.Since vmc kc0) (hk : kc0 ≤ Hc.size) (hSA : ∀ a ∈ Bundle.stringAtoms, a.before a0 Z = true) (zc0 : Sta Z Z.heap "java/lang/String" "COMPACT_STRINGS" "Z" (.int cs)) (zc1 : Sta Z Z.heap "jdk/internal/util/Preconditions" "SIOOBE_FORMATTER" "Ljava/util/function/BiFunction;" sf) (zc2 : Exa Z Z.heap ad10 "com/example/querent/querent/dicom/Vr") (zc3 : Fld Z Z.heap ad10 "java/lang/Enum" "ordinal" "I" (.int (10 : Int32))) (zc4 : Exa Z Hc b104 "java/lang/String") (zc5 : Fld Z Hc b104 "java/lang/String" "coder" "B" (.int (0 : Int32))) (zc6 : Fld Z Hc b104 "java/lang/String" "value" "[B" (.ref d104)) (zc7 : Arv Z Hc d104 kk104 .byte (68 : Int32) own_txt (.int (0 : Int32))) (hcs : ¬ (cs = (0 : Int32))) (hsf : sf.isRef = true) (hn0 : n0 = h0.size) (hcw : Jvm.Lit.compactW.before a0 Z = true) (hlit : Jvm.Lit.constHeld Z "com/example/querent/querent/dicom/VrHasLongLengthPinLaw" 112) :
    ∃ U_ o_, Steps p.tables e below (Tc.setTop (mkF m 254 #[.val (.int p1), .val (.ref b1), .val (.ref b104), .val (.int (10 : Int32)), .val (.ref ad10), .unset, .unset] [])) U_ ∧ U_.status = .running ∧ Ended U_ below o_ ∧ (∃ v_ L_, o_ = .returned v_ ∧ Q_rm0 Z p1 cs sf ad0 ad1 ad2 ad3 ad4 ad5 ad6 ad7 ad8 ad9 ad10 ad11 ad12 ad13 ad14 ad15 ad16 ad17 ad18 ad19 ad20 ad21 ad22 ad23 ad24 ad25 ad26 ad27 ad28 ad29 ad30 ad31 ad32 ad33 h0 n0 v_ U_.heap L_ ∧ ReturnedEndW s o_ U_ L_ room_1.cells room_1.slots) := by
  refine own_go (A := Tc.setTop (mkF m 258 #[.val (.int p1), .val (.ref b1), .val (.ref b104), .val (.int (10 : Int32)), .val (.ref ad10), .unset, .unset] [(.int (20 : Int32)), (.ref b104)])) (fun t_ k_ => ?_) ?_
  · show Steps p.tables e below (Tc.setTop (mkF m 254 #[.val (.int p1), .val (.ref b1), .val (.ref b104), .val (.int (10 : Int32)), .val (.ref ad10), .unset, .unset] [])) t_
    refine XS.aloadN Xc.here hx rfl (hb hby at_254) rfl rfl ?_
    show Steps p.tables e below (Tc.setTop (mkF m 255 #[.val (.int p1), .val (.ref b1), .val (.ref b104), .val (.int (10 : Int32)), .val (.ref ad10), .unset, .unset] [(.ref b104)])) t_
    refine XS.iconst Xc.here hx rfl (hb hby at_255) ?_
    show Steps p.tables e below (Tc.setTop (mkF m 256 #[.val (.int p1), .val (.ref b1), .val (.ref b104), .val (.int (10 : Int32)), .val (.ref ad10), .unset, .unset] [(.int (2 : Int32)), (.ref b104)])) t_
    refine XS.iloadN Xc.here hx rfl (hb hby at_256) rfl ?_
    show Steps p.tables e below (Tc.setTop (mkF m 257 #[.val (.int p1), .val (.ref b1), .val (.ref b104), .val (.int (10 : Int32)), .val (.ref ad10), .unset, .unset] [(.int (10 : Int32)), (.int (2 : Int32)), (.ref b104)])) t_
    refine XS.imul Xc.here hx rfl (hb hby at_257) rfl ?_
    exact k_
  obtain ⟨cq169, kq169, q169a, q169b, q169c⟩ := isOf hZ ec zc4
  obtain ⟨_, _, ⟨T169, L169, k169, n169⟩, -, X169, ⟨Lc169, hQ169, l169, y169, z169⟩, st169⟩ := Xc.virtualBack hx (y := own_y4) (z := own_y4) hown (mvT hZ (own_w hw 81 rfl)) (mvT hZ (own_w hw 82 rfl)) (notFace_of_selects (args := #[]) (mvT hZ (own_w hw 84 rfl))) (mvT hZ (own_w hw 84 rfl)) (mvT hZ (own_w hw 83 rfl)) (by decide) (backOf (W := 0) (rmChAt l Z a0 hw [] b104 (20 : Int32) d104 kk104 (68 : Int32) own_txt (76 : Int32) sf cs Hc n0 (Nat.le_trans Z0 Kc0.1) Oc zc0 hcs zc1 hsf zc4 zc5 zc6 zc7 (by decide : ¬ ((20 : Int32) < (0 : Int32))) (by decide : (20 : Int32) < (68 : Int32)) rfl) hZ (own_w hw 85 rfl) (own_w hw 73 rfl) (by decide) (by decide)) q169a q169c (g := (mkF m 258 #[.val (.int p1), .val (.ref b1), .val (.ref b104), .val (.int (10 : Int32)), .val (.ref ad10), .unset, .unset] [(.int (20 : Int32)), (.ref b104)])) rfl (by rw [hml]; rfl) (Steps.refl _) (argsL := [(.int (20 : Int32))]) (rest := []) (lenOf pd_5 rfl) rfl (by show 2 * 0 + _ ≤ _; exact Nat.le_of_eq rfl) (hb hby at_258) (fun _ _ => ⟨rfl, ec, (by decide : 3 + 0 ≤ _), (by decide : 310 + 0 ≤ _)⟩)
  dsimp only [Pt.U, Pt.locs, Pt.cells, Pt.slots] at X169 l169 y169 z169 st169 hQ169
  subst l169 y169 z169
  obtain ⟨rfl, N169q, eh169⟩ := hQ169
  have N169 := Fr.app Nc N169q
  refine own_via st169 ?_
  refine own_go (A := T169.setTop (mkF m 269 #[.val (.int p1), .val (.ref b1), .val (.ref b104), .val (.int (10 : Int32)), .val (.ref ad10), .val (.int (76 : Int32)), .unset] [(.int (21 : Int32)), (.ref b104)])) (fun t_ k_ => ?_) ?_
  · show Steps p.tables e below (T169.setTop (mkF m 261 #[.val (.int p1), .val (.ref b1), .val (.ref b104), .val (.int (10 : Int32)), .val (.ref ad10), .unset, .unset] [(.int (76 : Int32))])) t_
    refine XS.istore X169.here hx rfl (hb hby at_261) rfl (l' := #[.val (.int p1), .val (.ref b1), .val (.ref b104), .val (.int (10 : Int32)), .val (.ref ad10), .val (.int (76 : Int32)), .unset]) rfl ?_
    show Steps p.tables e below (T169.setTop (mkF m 263 #[.val (.int p1), .val (.ref b1), .val (.ref b104), .val (.int (10 : Int32)), .val (.ref ad10), .val (.int (76 : Int32)), .unset] [])) t_
    refine XS.aloadN X169.here hx rfl (hb hby at_263) rfl rfl ?_
    show Steps p.tables e below (T169.setTop (mkF m 264 #[.val (.int p1), .val (.ref b1), .val (.ref b104), .val (.int (10 : Int32)), .val (.ref ad10), .val (.int (76 : Int32)), .unset] [(.ref b104)])) t_
    refine XS.iconst X169.here hx rfl (hb hby at_264) ?_
    show Steps p.tables e below (T169.setTop (mkF m 265 #[.val (.int p1), .val (.ref b1), .val (.ref b104), .val (.int (10 : Int32)), .val (.ref ad10), .val (.int (76 : Int32)), .unset] [(.int (2 : Int32)), (.ref b104)])) t_
    refine XS.iloadN X169.here hx rfl (hb hby at_265) rfl ?_
    show Steps p.tables e below (T169.setTop (mkF m 266 #[.val (.int p1), .val (.ref b1), .val (.ref b104), .val (.int (10 : Int32)), .val (.ref ad10), .val (.int (76 : Int32)), .unset] [(.int (10 : Int32)), (.int (2 : Int32)), (.ref b104)])) t_
    refine XS.imul X169.here hx rfl (hb hby at_266) rfl ?_
    show Steps p.tables e below (T169.setTop (mkF m 267 #[.val (.int p1), .val (.ref b1), .val (.ref b104), .val (.int (10 : Int32)), .val (.ref ad10), .val (.int (76 : Int32)), .unset] [(.int (20 : Int32)), (.ref b104)])) t_
    refine XS.iconst X169.here hx rfl (hb hby at_267) ?_
    show Steps p.tables e below (T169.setTop (mkF m 268 #[.val (.int p1), .val (.ref b1), .val (.ref b104), .val (.int (10 : Int32)), .val (.ref ad10), .val (.int (76 : Int32)), .unset] [(.int (1 : Int32)), (.int (20 : Int32)), (.ref b104)])) t_
    refine XS.iadd X169.here hx rfl (hb hby at_268) rfl ?_
    exact k_
  obtain ⟨cq170, kq170, q170a, q170b, q170c⟩ := isOf hZ eh169 zc4
  obtain ⟨_, _, ⟨T170, L170, k170, n170⟩, -, X170, ⟨Lc170, hQ170, l170, y170, z170⟩, st170⟩ := X169.virtualBack hx (y := own_y4) (z := own_y4) hown (mvT hZ (own_w hw 81 rfl)) (mvT hZ (own_w hw 82 rfl)) (notFace_of_selects (args := #[]) (mvT hZ (own_w hw 84 rfl))) (mvT hZ (own_w hw 84 rfl)) (mvT hZ (own_w hw 83 rfl)) (by decide) (backOf (W := 0) (rmChAt l Z a0 hw [] b104 (21 : Int32) d104 kk104 (68 : Int32) own_txt (79 : Int32) sf cs Hc n0 (Nat.le_trans Z0 Kc0.1) Oc zc0 hcs zc1 hsf zc4 zc5 zc6 zc7 (by decide : ¬ ((21 : Int32) < (0 : Int32))) (by decide : (21 : Int32) < (68 : Int32)) rfl) hZ (own_w hw 85 rfl) (own_w hw 73 rfl) (by decide) (by decide)) q170a q170c (g := (mkF m 269 #[.val (.int p1), .val (.ref b1), .val (.ref b104), .val (.int (10 : Int32)), .val (.ref ad10), .val (.int (76 : Int32)), .unset] [(.int (21 : Int32)), (.ref b104)])) rfl (by rw [hml]; rfl) (Steps.refl _) (argsL := [(.int (21 : Int32))]) (rest := []) (lenOf pd_5 rfl) rfl (by show 2 * 0 + _ ≤ _; exact Nat.le_of_eq rfl) (hb hby at_269) (fun _ _ => ⟨rfl, eh169, (by decide : 3 + 0 ≤ _), (by decide : 310 + 0 ≤ _)⟩)
  dsimp only [Pt.U, Pt.locs, Pt.cells, Pt.slots] at X170 l170 y170 z170 st170 hQ170
  subst l170 y170 z170
  obtain ⟨rfl, N170q, eh170⟩ := hQ170
  have N170 := Fr.app N169 N170q
  refine own_via st170 ?_
  refine own_go (A := T170.setTop (mkF m 276 #[.val (.int p1), .val (.ref b1), .val (.ref b104), .val (.int (10 : Int32)), .val (.ref ad10), .val (.int (76 : Int32)), .val (.int (79 : Int32))] [(.ref ad10)])) (fun t_ k_ => ?_) ?_
  · show Steps p.tables e below (T170.setTop (mkF m 272 #[.val (.int p1), .val (.ref b1), .val (.ref b104), .val (.int (10 : Int32)), .val (.ref ad10), .val (.int (76 : Int32)), .unset] [(.int (79 : Int32))])) t_
    refine XS.istore X170.here hx rfl (hb hby at_272) rfl (l' := #[.val (.int p1), .val (.ref b1), .val (.ref b104), .val (.int (10 : Int32)), .val (.ref ad10), .val (.int (76 : Int32)), .val (.int (79 : Int32))]) rfl ?_
    show Steps p.tables e below (T170.setTop (mkF m 274 #[.val (.int p1), .val (.ref b1), .val (.ref b104), .val (.int (10 : Int32)), .val (.ref ad10), .val (.int (76 : Int32)), .val (.int (79 : Int32))] [])) t_
    refine XS.aload X170.here hx rfl (hb hby at_274) rfl rfl ?_
    exact k_
  obtain ⟨cq171, kq171, q171a, q171b, q171c⟩ := isOf hZ eh170 (zc2.ext Oc.2)
  obtain ⟨_, _, ⟨T171, L171, k171, n171⟩, -, X171, ⟨Lc171, hQ171, l171, y171, z171⟩, st171⟩ := X170.virtualBack hx (y := own_y7) (z := own_y7) hown (mvT hZ (own_w hw 106 rfl)) (mvT hZ (own_w hw 107 rfl)) (notFace_of_selects (args := #[]) (mvT hZ (own_w hw 109 rfl))) (mvT hZ (own_w hw 109 rfl)) (mvT hZ (own_w hw 108 rfl)) (by decide) (backOf (W := 0) (rmMOut l Z a0 hw [] ad10 (10 : Int32) Hc n0 (Nat.le_trans Z0 Kc0.1) Oc zc2 zc3 (by decide)) hZ (own_w hw 110 rfl) (own_w hw 3 rfl) (by decide) (by decide)) q171a q171c (g := (mkF m 276 #[.val (.int p1), .val (.ref b1), .val (.ref b104), .val (.int (10 : Int32)), .val (.ref ad10), .val (.int (76 : Int32)), .val (.int (79 : Int32))] [(.ref ad10)])) rfl (by rw [hml]; rfl) (Steps.refl _) (argsL := []) (rest := []) (lenOf pd_2 rfl) rfl (by show 2 * 0 + _ ≤ _; exact Nat.le_of_eq rfl) (hb hby at_276) (fun _ _ => ⟨rfl, eh170, (by decide : 3 + 0 ≤ _), (by decide : 310 + 0 ≤ _)⟩)
  dsimp only [Pt.U, Pt.locs, Pt.cells, Pt.slots] at X171 l171 y171 z171 st171 hQ171
  subst l171 y171 z171
  obtain ⟨rfl, N171q, eh171⟩ := hQ171
  have N171 := Fr.app N170 N171q
  refine own_via st171 ?_
  refine own_go (A := T171.setTop (mkF m 283 #[.val (.int p1), .val (.ref b1), .val (.ref b104), .val (.int (10 : Int32)), .val (.ref ad10), .val (.int (76 : Int32)), .val (.int (79 : Int32))] [(.int (79 : Int32)), (.int (76 : Int32)), (.int (0 : Int32))])) (fun t_ k_ => ?_) ?_
  · show Steps p.tables e below (T171.setTop (mkF m 279 #[.val (.int p1), .val (.ref b1), .val (.ref b104), .val (.int (10 : Int32)), .val (.ref ad10), .val (.int (76 : Int32)), .val (.int (79 : Int32))] [(.int (0 : Int32))])) t_
    refine XS.iload X171.here hx rfl (hb hby at_279) rfl ?_
    show Steps p.tables e below (T171.setTop (mkF m 281 #[.val (.int p1), .val (.ref b1), .val (.ref b104), .val (.int (10 : Int32)), .val (.ref ad10), .val (.int (76 : Int32)), .val (.int (79 : Int32))] [(.int (76 : Int32)), (.int (0 : Int32))])) t_
    refine XS.iload X171.here hx rfl (hb hby at_281) rfl ?_
    exact k_
  obtain ⟨_, _, ⟨T172, L172, k172, n172⟩, -, X172, ⟨Lc172, hQ172, l172, y172, z172⟩, st172⟩ := Jvm.LawKit.callS X171 hx (y := own_y8) hown (mvT hZ (own_w hw 120 rfl)) (mvT hZ (own_w hw 121 rfl)) (mvT hZ (own_w hw 122 rfl)) (mvT hZ (own_w hw 123 rfl)) (by decide) (backOf (W := 1) (rmEX l Z a0 hw [] (76 : Int32) (79 : Int32) Hc n0 (Nat.le_trans Z0 Kc0.1) (by decide : ¬ ((76 : Int32) = (79 : Int32))) (by decide : ¬ ((76 : Int32) = (83 : Int32))) (by decide : ¬ ((76 : Int32) = (85 : Int32)))) hZ (own_w hw 123 rfl) (own_w hw 122 rfl) (by decide) (by decide)) (g := (mkF m 283 #[.val (.int p1), .val (.ref b1), .val (.ref b104), .val (.int (10 : Int32)), .val (.ref ad10), .val (.int (76 : Int32)), .val (.int (79 : Int32))] [(.int (79 : Int32)), (.int (76 : Int32)), (.int (0 : Int32))])) rfl (by rw [hml]; rfl) (argsL := [(.int (76 : Int32)), (.int (79 : Int32))]) (rest := [(.int (0 : Int32))]) (lenOf pd_6 rfl) rfl (by show 2 * 0 + _ ≤ _; exact Nat.le_of_eq rfl) (hb hby at_283) (fun _ _ => ⟨rfl, eh171, (by decide : 3 + 0 ≤ _), (by decide : 310 + 0 ≤ _)⟩)
  dsimp only [Pt.U, Pt.locs, Pt.cells, Pt.slots] at X172 l172 y172 z172 st172 hQ172
  subst l172 y172 z172
  obtain ⟨rfl, N172q, eh172⟩ := hQ172
  have N172 := Fr.app N171 N172q
  refine own_go st172 ?_
  refine own_go (A := T172.setTop (mkF m 294 #[.val (.int p1), .val (.ref b1), .val (.ref b104), .val (.int (10 : Int32)), .val (.ref ad10), .val (.int (76 : Int32)), .val (.int (79 : Int32))] [(.int (1 : Int32))])) (fun t_ k_ => ?_) ?_
  · show Steps p.tables e below (T172.setTop (mkF m 286 #[.val (.int p1), .val (.ref b1), .val (.ref b104), .val (.int (10 : Int32)), .val (.ref ad10), .val (.int (76 : Int32)), .val (.int (79 : Int32))] [(.int (0 : Int32)), (.int (0 : Int32))])) t_
    refine XS.icmpNo X172.here hx rfl (hb hby at_286) rfl (teq (by decide : (0 : Int32) = (0 : Int32))).2 ?_
    show Steps p.tables e below (T172.setTop (mkF m 289 #[.val (.int p1), .val (.ref b1), .val (.ref b104), .val (.int (10 : Int32)), .val (.ref ad10), .val (.int (76 : Int32)), .val (.int (79 : Int32))] [])) t_
    refine XS.iconst X172.here hx rfl (hb hby at_289) ?_
    show Steps p.tables e below (T172.setTop (mkF m 290 #[.val (.int p1), .val (.ref b1), .val (.ref b104), .val (.int (10 : Int32)), .val (.ref ad10), .val (.int (76 : Int32)), .val (.int (79 : Int32))] [(.int (1 : Int32))])) t_
    refine XS.goto X172.here hx rfl (pc0 := 290) (pc' := 294) rfl (hb hby at_290) (by decide) (by decide) ?_
    exact k_
  obtain ⟨fs173, hr173, hrun173, hended173, hRW173⟩ := X172.leaveW hS (by rw [eh172]; exact hk) (v := some (.int (1 : Int32))) (fun h => by rw [hret] at h; cases h)
  refine ⟨_, _, ?_, hrun173, hended173, _, _, rfl, ?_, hRW173.1, hRW173.2.1, hRW173.2.2.1, hRW173.2.2.2.mono (by decide) (by decide)⟩
  · exact retN X172 hx (t := .boolean) hret (by simp) (hb hby at_294) hr173
  · show Q_rm0 Z p1 cs sf ad0 ad1 ad2 ad3 ad4 ad5 ad6 ad7 ad8 ad9 ad10 ad11 ad12 ad13 ad14 ad15 ad16 ad17 ad18 ad19 ad20 ad21 ad22 ad23 ad24 ad25 ad26 ad27 ad28 ad29 ad30 ad31 ad32 ad33 h0 n0 _ T172.heap _
    rw [eh172]
    exact ⟨rfl, N172, Kc0⟩
set_option maxRecDepth 65536 in
set_option maxHeartbeats 40000000 in
theorem own_sufad11 (l : Launch) (Z : State) (a0 : Array Value) (hw : ∀ d ∈ tables_1, d.before a0 Z = true) (p1 : Int32) (cs : Int32) (sf : Value) (ad0 : Addr) (ad1 : Addr) (ad2 : Addr) (ad3 : Addr) (ad4 : Addr) (ad5 : Addr) (ad6 : Addr) (ad7 : Addr) (ad8 : Addr) (ad9 : Addr) (ad10 : Addr) (ad11 : Addr) (ad12 : Addr) (ad13 : Addr) (ad14 : Addr) (ad15 : Addr) (ad16 : Addr) (ad17 : Addr) (ad18 : Addr) (ad19 : Addr) (ad20 : Addr) (ad21 : Addr) (ad22 : Addr) (ad23 : Addr) (ad24 : Addr) (ad25 : Addr) (ad26 : Addr) (ad27 : Addr) (ad28 : Addr) (ad29 : Addr) (ad30 : Addr) (ad31 : Addr) (ad32 : Addr) (ad33 : Addr) (b1 : Addr) (b104 : Addr) (d104 : Addr) (kk104 : ClassId) (h0 : Heap) (n0 : Nat) (Z0 : n0 ≤ h0.size) {p : Program} {e : Env} {s : State} {m : MethodId} {below : List Frame} {meth : Method} {c : Code} {Tc : State} {Hc : Heap} {locsc : List Loc} {vmc : Vm} {kc0 : Nat} (Xc : Stand p l e room_1 (s.setVm vmc) m #[(.int p1)] below meth c Tc locsc 3 310) (hx : p.tables.exec = Jvm.exec) (hZ : Z.Warmed39 (s.setVm vmc).vm) (hby : c.code = code) (hml : c.maxLocals = 7) (hown : (s.setVm vmc).vm.findClass "com/example/querent/querent/dicom/VrHasLongLengthPinLaw" = some m.cls) (hret : meth.sig.returnType = some .boolean) (hlk : meth.locks = false) (hh : s.heap = h0) (ec : Tc.heap = Hc) (Nc : Fr n0 locsc) (Kc0 : Keep h0 Hc []) (Oc : Old Z n0 Hc) (hS : s.Since vmc kc0) (hk : kc0 ≤ Hc.size) (hSA : ∀ a ∈ Bundle.stringAtoms, a.before a0 Z = true) (zc0 : Sta Z Z.heap "java/lang/String" "COMPACT_STRINGS" "Z" (.int cs)) (zc1 : Sta Z Z.heap "jdk/internal/util/Preconditions" "SIOOBE_FORMATTER" "Ljava/util/function/BiFunction;" sf) (zc2 : Exa Z Z.heap ad11 "com/example/querent/querent/dicom/Vr") (zc3 : Fld Z Z.heap ad11 "java/lang/Enum" "ordinal" "I" (.int (11 : Int32))) (zc4 : Exa Z Hc b104 "java/lang/String") (zc5 : Fld Z Hc b104 "java/lang/String" "coder" "B" (.int (0 : Int32))) (zc6 : Fld Z Hc b104 "java/lang/String" "value" "[B" (.ref d104)) (zc7 : Arv Z Hc d104 kk104 .byte (68 : Int32) own_txt (.int (0 : Int32))) (hcs : ¬ (cs = (0 : Int32))) (hsf : sf.isRef = true) (hn0 : n0 = h0.size) (hcw : Jvm.Lit.compactW.before a0 Z = true) (hlit : Jvm.Lit.constHeld Z "com/example/querent/querent/dicom/VrHasLongLengthPinLaw" 112) :
    ∃ U_ o_, Steps p.tables e below (Tc.setTop (mkF m 254 #[.val (.int p1), .val (.ref b1), .val (.ref b104), .val (.int (11 : Int32)), .val (.ref ad11), .unset, .unset] [])) U_ ∧ U_.status = .running ∧ Ended U_ below o_ ∧ (∃ v_ L_, o_ = .returned v_ ∧ Q_rm0 Z p1 cs sf ad0 ad1 ad2 ad3 ad4 ad5 ad6 ad7 ad8 ad9 ad10 ad11 ad12 ad13 ad14 ad15 ad16 ad17 ad18 ad19 ad20 ad21 ad22 ad23 ad24 ad25 ad26 ad27 ad28 ad29 ad30 ad31 ad32 ad33 h0 n0 v_ U_.heap L_ ∧ ReturnedEndW s o_ U_ L_ room_1.cells room_1.slots) := by
  refine own_go (A := Tc.setTop (mkF m 258 #[.val (.int p1), .val (.ref b1), .val (.ref b104), .val (.int (11 : Int32)), .val (.ref ad11), .unset, .unset] [(.int (22 : Int32)), (.ref b104)])) (fun t_ k_ => ?_) ?_
  · show Steps p.tables e below (Tc.setTop (mkF m 254 #[.val (.int p1), .val (.ref b1), .val (.ref b104), .val (.int (11 : Int32)), .val (.ref ad11), .unset, .unset] [])) t_
    refine XS.aloadN Xc.here hx rfl (hb hby at_254) rfl rfl ?_
    show Steps p.tables e below (Tc.setTop (mkF m 255 #[.val (.int p1), .val (.ref b1), .val (.ref b104), .val (.int (11 : Int32)), .val (.ref ad11), .unset, .unset] [(.ref b104)])) t_
    refine XS.iconst Xc.here hx rfl (hb hby at_255) ?_
    show Steps p.tables e below (Tc.setTop (mkF m 256 #[.val (.int p1), .val (.ref b1), .val (.ref b104), .val (.int (11 : Int32)), .val (.ref ad11), .unset, .unset] [(.int (2 : Int32)), (.ref b104)])) t_
    refine XS.iloadN Xc.here hx rfl (hb hby at_256) rfl ?_
    show Steps p.tables e below (Tc.setTop (mkF m 257 #[.val (.int p1), .val (.ref b1), .val (.ref b104), .val (.int (11 : Int32)), .val (.ref ad11), .unset, .unset] [(.int (11 : Int32)), (.int (2 : Int32)), (.ref b104)])) t_
    refine XS.imul Xc.here hx rfl (hb hby at_257) rfl ?_
    exact k_
  obtain ⟨cq175, kq175, q175a, q175b, q175c⟩ := isOf hZ ec zc4
  obtain ⟨_, _, ⟨T175, L175, k175, n175⟩, -, X175, ⟨Lc175, hQ175, l175, y175, z175⟩, st175⟩ := Xc.virtualBack hx (y := own_y4) (z := own_y4) hown (mvT hZ (own_w hw 81 rfl)) (mvT hZ (own_w hw 82 rfl)) (notFace_of_selects (args := #[]) (mvT hZ (own_w hw 84 rfl))) (mvT hZ (own_w hw 84 rfl)) (mvT hZ (own_w hw 83 rfl)) (by decide) (backOf (W := 0) (rmChAt l Z a0 hw [] b104 (22 : Int32) d104 kk104 (68 : Int32) own_txt (76 : Int32) sf cs Hc n0 (Nat.le_trans Z0 Kc0.1) Oc zc0 hcs zc1 hsf zc4 zc5 zc6 zc7 (by decide : ¬ ((22 : Int32) < (0 : Int32))) (by decide : (22 : Int32) < (68 : Int32)) rfl) hZ (own_w hw 85 rfl) (own_w hw 73 rfl) (by decide) (by decide)) q175a q175c (g := (mkF m 258 #[.val (.int p1), .val (.ref b1), .val (.ref b104), .val (.int (11 : Int32)), .val (.ref ad11), .unset, .unset] [(.int (22 : Int32)), (.ref b104)])) rfl (by rw [hml]; rfl) (Steps.refl _) (argsL := [(.int (22 : Int32))]) (rest := []) (lenOf pd_5 rfl) rfl (by show 2 * 0 + _ ≤ _; exact Nat.le_of_eq rfl) (hb hby at_258) (fun _ _ => ⟨rfl, ec, (by decide : 3 + 0 ≤ _), (by decide : 310 + 0 ≤ _)⟩)
  dsimp only [Pt.U, Pt.locs, Pt.cells, Pt.slots] at X175 l175 y175 z175 st175 hQ175
  subst l175 y175 z175
  obtain ⟨rfl, N175q, eh175⟩ := hQ175
  have N175 := Fr.app Nc N175q
  refine own_via st175 ?_
  refine own_go (A := T175.setTop (mkF m 269 #[.val (.int p1), .val (.ref b1), .val (.ref b104), .val (.int (11 : Int32)), .val (.ref ad11), .val (.int (76 : Int32)), .unset] [(.int (23 : Int32)), (.ref b104)])) (fun t_ k_ => ?_) ?_
  · show Steps p.tables e below (T175.setTop (mkF m 261 #[.val (.int p1), .val (.ref b1), .val (.ref b104), .val (.int (11 : Int32)), .val (.ref ad11), .unset, .unset] [(.int (76 : Int32))])) t_
    refine XS.istore X175.here hx rfl (hb hby at_261) rfl (l' := #[.val (.int p1), .val (.ref b1), .val (.ref b104), .val (.int (11 : Int32)), .val (.ref ad11), .val (.int (76 : Int32)), .unset]) rfl ?_
    show Steps p.tables e below (T175.setTop (mkF m 263 #[.val (.int p1), .val (.ref b1), .val (.ref b104), .val (.int (11 : Int32)), .val (.ref ad11), .val (.int (76 : Int32)), .unset] [])) t_
    refine XS.aloadN X175.here hx rfl (hb hby at_263) rfl rfl ?_
    show Steps p.tables e below (T175.setTop (mkF m 264 #[.val (.int p1), .val (.ref b1), .val (.ref b104), .val (.int (11 : Int32)), .val (.ref ad11), .val (.int (76 : Int32)), .unset] [(.ref b104)])) t_
    refine XS.iconst X175.here hx rfl (hb hby at_264) ?_
    show Steps p.tables e below (T175.setTop (mkF m 265 #[.val (.int p1), .val (.ref b1), .val (.ref b104), .val (.int (11 : Int32)), .val (.ref ad11), .val (.int (76 : Int32)), .unset] [(.int (2 : Int32)), (.ref b104)])) t_
    refine XS.iloadN X175.here hx rfl (hb hby at_265) rfl ?_
    show Steps p.tables e below (T175.setTop (mkF m 266 #[.val (.int p1), .val (.ref b1), .val (.ref b104), .val (.int (11 : Int32)), .val (.ref ad11), .val (.int (76 : Int32)), .unset] [(.int (11 : Int32)), (.int (2 : Int32)), (.ref b104)])) t_
    refine XS.imul X175.here hx rfl (hb hby at_266) rfl ?_
    show Steps p.tables e below (T175.setTop (mkF m 267 #[.val (.int p1), .val (.ref b1), .val (.ref b104), .val (.int (11 : Int32)), .val (.ref ad11), .val (.int (76 : Int32)), .unset] [(.int (22 : Int32)), (.ref b104)])) t_
    refine XS.iconst X175.here hx rfl (hb hby at_267) ?_
    show Steps p.tables e below (T175.setTop (mkF m 268 #[.val (.int p1), .val (.ref b1), .val (.ref b104), .val (.int (11 : Int32)), .val (.ref ad11), .val (.int (76 : Int32)), .unset] [(.int (1 : Int32)), (.int (22 : Int32)), (.ref b104)])) t_
    refine XS.iadd X175.here hx rfl (hb hby at_268) rfl ?_
    exact k_
  obtain ⟨cq176, kq176, q176a, q176b, q176c⟩ := isOf hZ eh175 zc4
  obtain ⟨_, _, ⟨T176, L176, k176, n176⟩, -, X176, ⟨Lc176, hQ176, l176, y176, z176⟩, st176⟩ := X175.virtualBack hx (y := own_y4) (z := own_y4) hown (mvT hZ (own_w hw 81 rfl)) (mvT hZ (own_w hw 82 rfl)) (notFace_of_selects (args := #[]) (mvT hZ (own_w hw 84 rfl))) (mvT hZ (own_w hw 84 rfl)) (mvT hZ (own_w hw 83 rfl)) (by decide) (backOf (W := 0) (rmChAt l Z a0 hw [] b104 (23 : Int32) d104 kk104 (68 : Int32) own_txt (84 : Int32) sf cs Hc n0 (Nat.le_trans Z0 Kc0.1) Oc zc0 hcs zc1 hsf zc4 zc5 zc6 zc7 (by decide : ¬ ((23 : Int32) < (0 : Int32))) (by decide : (23 : Int32) < (68 : Int32)) rfl) hZ (own_w hw 85 rfl) (own_w hw 73 rfl) (by decide) (by decide)) q176a q176c (g := (mkF m 269 #[.val (.int p1), .val (.ref b1), .val (.ref b104), .val (.int (11 : Int32)), .val (.ref ad11), .val (.int (76 : Int32)), .unset] [(.int (23 : Int32)), (.ref b104)])) rfl (by rw [hml]; rfl) (Steps.refl _) (argsL := [(.int (23 : Int32))]) (rest := []) (lenOf pd_5 rfl) rfl (by show 2 * 0 + _ ≤ _; exact Nat.le_of_eq rfl) (hb hby at_269) (fun _ _ => ⟨rfl, eh175, (by decide : 3 + 0 ≤ _), (by decide : 310 + 0 ≤ _)⟩)
  dsimp only [Pt.U, Pt.locs, Pt.cells, Pt.slots] at X176 l176 y176 z176 st176 hQ176
  subst l176 y176 z176
  obtain ⟨rfl, N176q, eh176⟩ := hQ176
  have N176 := Fr.app N175 N176q
  refine own_via st176 ?_
  refine own_go (A := T176.setTop (mkF m 276 #[.val (.int p1), .val (.ref b1), .val (.ref b104), .val (.int (11 : Int32)), .val (.ref ad11), .val (.int (76 : Int32)), .val (.int (84 : Int32))] [(.ref ad11)])) (fun t_ k_ => ?_) ?_
  · show Steps p.tables e below (T176.setTop (mkF m 272 #[.val (.int p1), .val (.ref b1), .val (.ref b104), .val (.int (11 : Int32)), .val (.ref ad11), .val (.int (76 : Int32)), .unset] [(.int (84 : Int32))])) t_
    refine XS.istore X176.here hx rfl (hb hby at_272) rfl (l' := #[.val (.int p1), .val (.ref b1), .val (.ref b104), .val (.int (11 : Int32)), .val (.ref ad11), .val (.int (76 : Int32)), .val (.int (84 : Int32))]) rfl ?_
    show Steps p.tables e below (T176.setTop (mkF m 274 #[.val (.int p1), .val (.ref b1), .val (.ref b104), .val (.int (11 : Int32)), .val (.ref ad11), .val (.int (76 : Int32)), .val (.int (84 : Int32))] [])) t_
    refine XS.aload X176.here hx rfl (hb hby at_274) rfl rfl ?_
    exact k_
  obtain ⟨cq177, kq177, q177a, q177b, q177c⟩ := isOf hZ eh176 (zc2.ext Oc.2)
  obtain ⟨_, _, ⟨T177, L177, k177, n177⟩, -, X177, ⟨Lc177, hQ177, l177, y177, z177⟩, st177⟩ := X176.virtualBack hx (y := own_y7) (z := own_y7) hown (mvT hZ (own_w hw 106 rfl)) (mvT hZ (own_w hw 107 rfl)) (notFace_of_selects (args := #[]) (mvT hZ (own_w hw 109 rfl))) (mvT hZ (own_w hw 109 rfl)) (mvT hZ (own_w hw 108 rfl)) (by decide) (backOf (W := 0) (rmMOut l Z a0 hw [] ad11 (11 : Int32) Hc n0 (Nat.le_trans Z0 Kc0.1) Oc zc2 zc3 (by decide)) hZ (own_w hw 110 rfl) (own_w hw 3 rfl) (by decide) (by decide)) q177a q177c (g := (mkF m 276 #[.val (.int p1), .val (.ref b1), .val (.ref b104), .val (.int (11 : Int32)), .val (.ref ad11), .val (.int (76 : Int32)), .val (.int (84 : Int32))] [(.ref ad11)])) rfl (by rw [hml]; rfl) (Steps.refl _) (argsL := []) (rest := []) (lenOf pd_2 rfl) rfl (by show 2 * 0 + _ ≤ _; exact Nat.le_of_eq rfl) (hb hby at_276) (fun _ _ => ⟨rfl, eh176, (by decide : 3 + 0 ≤ _), (by decide : 310 + 0 ≤ _)⟩)
  dsimp only [Pt.U, Pt.locs, Pt.cells, Pt.slots] at X177 l177 y177 z177 st177 hQ177
  subst l177 y177 z177
  obtain ⟨rfl, N177q, eh177⟩ := hQ177
  have N177 := Fr.app N176 N177q
  refine own_via st177 ?_
  refine own_go (A := T177.setTop (mkF m 283 #[.val (.int p1), .val (.ref b1), .val (.ref b104), .val (.int (11 : Int32)), .val (.ref ad11), .val (.int (76 : Int32)), .val (.int (84 : Int32))] [(.int (84 : Int32)), (.int (76 : Int32)), (.int (0 : Int32))])) (fun t_ k_ => ?_) ?_
  · show Steps p.tables e below (T177.setTop (mkF m 279 #[.val (.int p1), .val (.ref b1), .val (.ref b104), .val (.int (11 : Int32)), .val (.ref ad11), .val (.int (76 : Int32)), .val (.int (84 : Int32))] [(.int (0 : Int32))])) t_
    refine XS.iload X177.here hx rfl (hb hby at_279) rfl ?_
    show Steps p.tables e below (T177.setTop (mkF m 281 #[.val (.int p1), .val (.ref b1), .val (.ref b104), .val (.int (11 : Int32)), .val (.ref ad11), .val (.int (76 : Int32)), .val (.int (84 : Int32))] [(.int (76 : Int32)), (.int (0 : Int32))])) t_
    refine XS.iload X177.here hx rfl (hb hby at_281) rfl ?_
    exact k_
  obtain ⟨_, _, ⟨T178, L178, k178, n178⟩, -, X178, ⟨Lc178, hQ178, l178, y178, z178⟩, st178⟩ := Jvm.LawKit.callS X177 hx (y := own_y8) hown (mvT hZ (own_w hw 120 rfl)) (mvT hZ (own_w hw 121 rfl)) (mvT hZ (own_w hw 122 rfl)) (mvT hZ (own_w hw 123 rfl)) (by decide) (backOf (W := 1) (rmEX l Z a0 hw [] (76 : Int32) (84 : Int32) Hc n0 (Nat.le_trans Z0 Kc0.1) (by decide : ¬ ((76 : Int32) = (79 : Int32))) (by decide : ¬ ((76 : Int32) = (83 : Int32))) (by decide : ¬ ((76 : Int32) = (85 : Int32)))) hZ (own_w hw 123 rfl) (own_w hw 122 rfl) (by decide) (by decide)) (g := (mkF m 283 #[.val (.int p1), .val (.ref b1), .val (.ref b104), .val (.int (11 : Int32)), .val (.ref ad11), .val (.int (76 : Int32)), .val (.int (84 : Int32))] [(.int (84 : Int32)), (.int (76 : Int32)), (.int (0 : Int32))])) rfl (by rw [hml]; rfl) (argsL := [(.int (76 : Int32)), (.int (84 : Int32))]) (rest := [(.int (0 : Int32))]) (lenOf pd_6 rfl) rfl (by show 2 * 0 + _ ≤ _; exact Nat.le_of_eq rfl) (hb hby at_283) (fun _ _ => ⟨rfl, eh177, (by decide : 3 + 0 ≤ _), (by decide : 310 + 0 ≤ _)⟩)
  dsimp only [Pt.U, Pt.locs, Pt.cells, Pt.slots] at X178 l178 y178 z178 st178 hQ178
  subst l178 y178 z178
  obtain ⟨rfl, N178q, eh178⟩ := hQ178
  have N178 := Fr.app N177 N178q
  refine own_go st178 ?_
  refine own_go (A := T178.setTop (mkF m 294 #[.val (.int p1), .val (.ref b1), .val (.ref b104), .val (.int (11 : Int32)), .val (.ref ad11), .val (.int (76 : Int32)), .val (.int (84 : Int32))] [(.int (1 : Int32))])) (fun t_ k_ => ?_) ?_
  · show Steps p.tables e below (T178.setTop (mkF m 286 #[.val (.int p1), .val (.ref b1), .val (.ref b104), .val (.int (11 : Int32)), .val (.ref ad11), .val (.int (76 : Int32)), .val (.int (84 : Int32))] [(.int (0 : Int32)), (.int (0 : Int32))])) t_
    refine XS.icmpNo X178.here hx rfl (hb hby at_286) rfl (teq (by decide : (0 : Int32) = (0 : Int32))).2 ?_
    show Steps p.tables e below (T178.setTop (mkF m 289 #[.val (.int p1), .val (.ref b1), .val (.ref b104), .val (.int (11 : Int32)), .val (.ref ad11), .val (.int (76 : Int32)), .val (.int (84 : Int32))] [])) t_
    refine XS.iconst X178.here hx rfl (hb hby at_289) ?_
    show Steps p.tables e below (T178.setTop (mkF m 290 #[.val (.int p1), .val (.ref b1), .val (.ref b104), .val (.int (11 : Int32)), .val (.ref ad11), .val (.int (76 : Int32)), .val (.int (84 : Int32))] [(.int (1 : Int32))])) t_
    refine XS.goto X178.here hx rfl (pc0 := 290) (pc' := 294) rfl (hb hby at_290) (by decide) (by decide) ?_
    exact k_
  obtain ⟨fs179, hr179, hrun179, hended179, hRW179⟩ := X178.leaveW hS (by rw [eh178]; exact hk) (v := some (.int (1 : Int32))) (fun h => by rw [hret] at h; cases h)
  refine ⟨_, _, ?_, hrun179, hended179, _, _, rfl, ?_, hRW179.1, hRW179.2.1, hRW179.2.2.1, hRW179.2.2.2.mono (by decide) (by decide)⟩
  · exact retN X178 hx (t := .boolean) hret (by simp) (hb hby at_294) hr179
  · show Q_rm0 Z p1 cs sf ad0 ad1 ad2 ad3 ad4 ad5 ad6 ad7 ad8 ad9 ad10 ad11 ad12 ad13 ad14 ad15 ad16 ad17 ad18 ad19 ad20 ad21 ad22 ad23 ad24 ad25 ad26 ad27 ad28 ad29 ad30 ad31 ad32 ad33 h0 n0 _ T178.heap _
    rw [eh178]
    exact ⟨rfl, N178, Kc0⟩
set_option maxRecDepth 65536 in
set_option maxHeartbeats 40000000 in
theorem own_sufad12 (l : Launch) (Z : State) (a0 : Array Value) (hw : ∀ d ∈ tables_1, d.before a0 Z = true) (p1 : Int32) (cs : Int32) (sf : Value) (ad0 : Addr) (ad1 : Addr) (ad2 : Addr) (ad3 : Addr) (ad4 : Addr) (ad5 : Addr) (ad6 : Addr) (ad7 : Addr) (ad8 : Addr) (ad9 : Addr) (ad10 : Addr) (ad11 : Addr) (ad12 : Addr) (ad13 : Addr) (ad14 : Addr) (ad15 : Addr) (ad16 : Addr) (ad17 : Addr) (ad18 : Addr) (ad19 : Addr) (ad20 : Addr) (ad21 : Addr) (ad22 : Addr) (ad23 : Addr) (ad24 : Addr) (ad25 : Addr) (ad26 : Addr) (ad27 : Addr) (ad28 : Addr) (ad29 : Addr) (ad30 : Addr) (ad31 : Addr) (ad32 : Addr) (ad33 : Addr) (b1 : Addr) (b104 : Addr) (d104 : Addr) (kk104 : ClassId) (h0 : Heap) (n0 : Nat) (Z0 : n0 ≤ h0.size) {p : Program} {e : Env} {s : State} {m : MethodId} {below : List Frame} {meth : Method} {c : Code} {Tc : State} {Hc : Heap} {locsc : List Loc} {vmc : Vm} {kc0 : Nat} (Xc : Stand p l e room_1 (s.setVm vmc) m #[(.int p1)] below meth c Tc locsc 3 310) (hx : p.tables.exec = Jvm.exec) (hZ : Z.Warmed39 (s.setVm vmc).vm) (hby : c.code = code) (hml : c.maxLocals = 7) (hown : (s.setVm vmc).vm.findClass "com/example/querent/querent/dicom/VrHasLongLengthPinLaw" = some m.cls) (hret : meth.sig.returnType = some .boolean) (hlk : meth.locks = false) (hh : s.heap = h0) (ec : Tc.heap = Hc) (Nc : Fr n0 locsc) (Kc0 : Keep h0 Hc []) (Oc : Old Z n0 Hc) (hS : s.Since vmc kc0) (hk : kc0 ≤ Hc.size) (hSA : ∀ a ∈ Bundle.stringAtoms, a.before a0 Z = true) (zc0 : Sta Z Z.heap "java/lang/String" "COMPACT_STRINGS" "Z" (.int cs)) (zc1 : Sta Z Z.heap "jdk/internal/util/Preconditions" "SIOOBE_FORMATTER" "Ljava/util/function/BiFunction;" sf) (zc2 : Exa Z Z.heap ad12 "com/example/querent/querent/dicom/Vr") (zc3 : Fld Z Z.heap ad12 "java/lang/Enum" "ordinal" "I" (.int (12 : Int32))) (zc4 : Exa Z Hc b104 "java/lang/String") (zc5 : Fld Z Hc b104 "java/lang/String" "coder" "B" (.int (0 : Int32))) (zc6 : Fld Z Hc b104 "java/lang/String" "value" "[B" (.ref d104)) (zc7 : Arv Z Hc d104 kk104 .byte (68 : Int32) own_txt (.int (0 : Int32))) (hcs : ¬ (cs = (0 : Int32))) (hsf : sf.isRef = true) (hn0 : n0 = h0.size) (hcw : Jvm.Lit.compactW.before a0 Z = true) (hlit : Jvm.Lit.constHeld Z "com/example/querent/querent/dicom/VrHasLongLengthPinLaw" 112) :
    ∃ U_ o_, Steps p.tables e below (Tc.setTop (mkF m 254 #[.val (.int p1), .val (.ref b1), .val (.ref b104), .val (.int (12 : Int32)), .val (.ref ad12), .unset, .unset] [])) U_ ∧ U_.status = .running ∧ Ended U_ below o_ ∧ (∃ v_ L_, o_ = .returned v_ ∧ Q_rm0 Z p1 cs sf ad0 ad1 ad2 ad3 ad4 ad5 ad6 ad7 ad8 ad9 ad10 ad11 ad12 ad13 ad14 ad15 ad16 ad17 ad18 ad19 ad20 ad21 ad22 ad23 ad24 ad25 ad26 ad27 ad28 ad29 ad30 ad31 ad32 ad33 h0 n0 v_ U_.heap L_ ∧ ReturnedEndW s o_ U_ L_ room_1.cells room_1.slots) := by
  refine own_go (A := Tc.setTop (mkF m 258 #[.val (.int p1), .val (.ref b1), .val (.ref b104), .val (.int (12 : Int32)), .val (.ref ad12), .unset, .unset] [(.int (24 : Int32)), (.ref b104)])) (fun t_ k_ => ?_) ?_
  · show Steps p.tables e below (Tc.setTop (mkF m 254 #[.val (.int p1), .val (.ref b1), .val (.ref b104), .val (.int (12 : Int32)), .val (.ref ad12), .unset, .unset] [])) t_
    refine XS.aloadN Xc.here hx rfl (hb hby at_254) rfl rfl ?_
    show Steps p.tables e below (Tc.setTop (mkF m 255 #[.val (.int p1), .val (.ref b1), .val (.ref b104), .val (.int (12 : Int32)), .val (.ref ad12), .unset, .unset] [(.ref b104)])) t_
    refine XS.iconst Xc.here hx rfl (hb hby at_255) ?_
    show Steps p.tables e below (Tc.setTop (mkF m 256 #[.val (.int p1), .val (.ref b1), .val (.ref b104), .val (.int (12 : Int32)), .val (.ref ad12), .unset, .unset] [(.int (2 : Int32)), (.ref b104)])) t_
    refine XS.iloadN Xc.here hx rfl (hb hby at_256) rfl ?_
    show Steps p.tables e below (Tc.setTop (mkF m 257 #[.val (.int p1), .val (.ref b1), .val (.ref b104), .val (.int (12 : Int32)), .val (.ref ad12), .unset, .unset] [(.int (12 : Int32)), (.int (2 : Int32)), (.ref b104)])) t_
    refine XS.imul Xc.here hx rfl (hb hby at_257) rfl ?_
    exact k_
  obtain ⟨cq181, kq181, q181a, q181b, q181c⟩ := isOf hZ ec zc4
  obtain ⟨_, _, ⟨T181, L181, k181, n181⟩, -, X181, ⟨Lc181, hQ181, l181, y181, z181⟩, st181⟩ := Xc.virtualBack hx (y := own_y4) (z := own_y4) hown (mvT hZ (own_w hw 81 rfl)) (mvT hZ (own_w hw 82 rfl)) (notFace_of_selects (args := #[]) (mvT hZ (own_w hw 84 rfl))) (mvT hZ (own_w hw 84 rfl)) (mvT hZ (own_w hw 83 rfl)) (by decide) (backOf (W := 0) (rmChAt l Z a0 hw [] b104 (24 : Int32) d104 kk104 (68 : Int32) own_txt (79 : Int32) sf cs Hc n0 (Nat.le_trans Z0 Kc0.1) Oc zc0 hcs zc1 hsf zc4 zc5 zc6 zc7 (by decide : ¬ ((24 : Int32) < (0 : Int32))) (by decide : (24 : Int32) < (68 : Int32)) rfl) hZ (own_w hw 85 rfl) (own_w hw 73 rfl) (by decide) (by decide)) q181a q181c (g := (mkF m 258 #[.val (.int p1), .val (.ref b1), .val (.ref b104), .val (.int (12 : Int32)), .val (.ref ad12), .unset, .unset] [(.int (24 : Int32)), (.ref b104)])) rfl (by rw [hml]; rfl) (Steps.refl _) (argsL := [(.int (24 : Int32))]) (rest := []) (lenOf pd_5 rfl) rfl (by show 2 * 0 + _ ≤ _; exact Nat.le_of_eq rfl) (hb hby at_258) (fun _ _ => ⟨rfl, ec, (by decide : 3 + 0 ≤ _), (by decide : 310 + 0 ≤ _)⟩)
  dsimp only [Pt.U, Pt.locs, Pt.cells, Pt.slots] at X181 l181 y181 z181 st181 hQ181
  subst l181 y181 z181
  obtain ⟨rfl, N181q, eh181⟩ := hQ181
  have N181 := Fr.app Nc N181q
  refine own_via st181 ?_
  refine own_go (A := T181.setTop (mkF m 269 #[.val (.int p1), .val (.ref b1), .val (.ref b104), .val (.int (12 : Int32)), .val (.ref ad12), .val (.int (79 : Int32)), .unset] [(.int (25 : Int32)), (.ref b104)])) (fun t_ k_ => ?_) ?_
  · show Steps p.tables e below (T181.setTop (mkF m 261 #[.val (.int p1), .val (.ref b1), .val (.ref b104), .val (.int (12 : Int32)), .val (.ref ad12), .unset, .unset] [(.int (79 : Int32))])) t_
    refine XS.istore X181.here hx rfl (hb hby at_261) rfl (l' := #[.val (.int p1), .val (.ref b1), .val (.ref b104), .val (.int (12 : Int32)), .val (.ref ad12), .val (.int (79 : Int32)), .unset]) rfl ?_
    show Steps p.tables e below (T181.setTop (mkF m 263 #[.val (.int p1), .val (.ref b1), .val (.ref b104), .val (.int (12 : Int32)), .val (.ref ad12), .val (.int (79 : Int32)), .unset] [])) t_
    refine XS.aloadN X181.here hx rfl (hb hby at_263) rfl rfl ?_
    show Steps p.tables e below (T181.setTop (mkF m 264 #[.val (.int p1), .val (.ref b1), .val (.ref b104), .val (.int (12 : Int32)), .val (.ref ad12), .val (.int (79 : Int32)), .unset] [(.ref b104)])) t_
    refine XS.iconst X181.here hx rfl (hb hby at_264) ?_
    show Steps p.tables e below (T181.setTop (mkF m 265 #[.val (.int p1), .val (.ref b1), .val (.ref b104), .val (.int (12 : Int32)), .val (.ref ad12), .val (.int (79 : Int32)), .unset] [(.int (2 : Int32)), (.ref b104)])) t_
    refine XS.iloadN X181.here hx rfl (hb hby at_265) rfl ?_
    show Steps p.tables e below (T181.setTop (mkF m 266 #[.val (.int p1), .val (.ref b1), .val (.ref b104), .val (.int (12 : Int32)), .val (.ref ad12), .val (.int (79 : Int32)), .unset] [(.int (12 : Int32)), (.int (2 : Int32)), (.ref b104)])) t_
    refine XS.imul X181.here hx rfl (hb hby at_266) rfl ?_
    show Steps p.tables e below (T181.setTop (mkF m 267 #[.val (.int p1), .val (.ref b1), .val (.ref b104), .val (.int (12 : Int32)), .val (.ref ad12), .val (.int (79 : Int32)), .unset] [(.int (24 : Int32)), (.ref b104)])) t_
    refine XS.iconst X181.here hx rfl (hb hby at_267) ?_
    show Steps p.tables e below (T181.setTop (mkF m 268 #[.val (.int p1), .val (.ref b1), .val (.ref b104), .val (.int (12 : Int32)), .val (.ref ad12), .val (.int (79 : Int32)), .unset] [(.int (1 : Int32)), (.int (24 : Int32)), (.ref b104)])) t_
    refine XS.iadd X181.here hx rfl (hb hby at_268) rfl ?_
    exact k_
  obtain ⟨cq182, kq182, q182a, q182b, q182c⟩ := isOf hZ eh181 zc4
  obtain ⟨_, _, ⟨T182, L182, k182, n182⟩, -, X182, ⟨Lc182, hQ182, l182, y182, z182⟩, st182⟩ := X181.virtualBack hx (y := own_y4) (z := own_y4) hown (mvT hZ (own_w hw 81 rfl)) (mvT hZ (own_w hw 82 rfl)) (notFace_of_selects (args := #[]) (mvT hZ (own_w hw 84 rfl))) (mvT hZ (own_w hw 84 rfl)) (mvT hZ (own_w hw 83 rfl)) (by decide) (backOf (W := 0) (rmChAt l Z a0 hw [] b104 (25 : Int32) d104 kk104 (68 : Int32) own_txt (66 : Int32) sf cs Hc n0 (Nat.le_trans Z0 Kc0.1) Oc zc0 hcs zc1 hsf zc4 zc5 zc6 zc7 (by decide : ¬ ((25 : Int32) < (0 : Int32))) (by decide : (25 : Int32) < (68 : Int32)) rfl) hZ (own_w hw 85 rfl) (own_w hw 73 rfl) (by decide) (by decide)) q182a q182c (g := (mkF m 269 #[.val (.int p1), .val (.ref b1), .val (.ref b104), .val (.int (12 : Int32)), .val (.ref ad12), .val (.int (79 : Int32)), .unset] [(.int (25 : Int32)), (.ref b104)])) rfl (by rw [hml]; rfl) (Steps.refl _) (argsL := [(.int (25 : Int32))]) (rest := []) (lenOf pd_5 rfl) rfl (by show 2 * 0 + _ ≤ _; exact Nat.le_of_eq rfl) (hb hby at_269) (fun _ _ => ⟨rfl, eh181, (by decide : 3 + 0 ≤ _), (by decide : 310 + 0 ≤ _)⟩)
  dsimp only [Pt.U, Pt.locs, Pt.cells, Pt.slots] at X182 l182 y182 z182 st182 hQ182
  subst l182 y182 z182
  obtain ⟨rfl, N182q, eh182⟩ := hQ182
  have N182 := Fr.app N181 N182q
  refine own_via st182 ?_
  refine own_go (A := T182.setTop (mkF m 276 #[.val (.int p1), .val (.ref b1), .val (.ref b104), .val (.int (12 : Int32)), .val (.ref ad12), .val (.int (79 : Int32)), .val (.int (66 : Int32))] [(.ref ad12)])) (fun t_ k_ => ?_) ?_
  · show Steps p.tables e below (T182.setTop (mkF m 272 #[.val (.int p1), .val (.ref b1), .val (.ref b104), .val (.int (12 : Int32)), .val (.ref ad12), .val (.int (79 : Int32)), .unset] [(.int (66 : Int32))])) t_
    refine XS.istore X182.here hx rfl (hb hby at_272) rfl (l' := #[.val (.int p1), .val (.ref b1), .val (.ref b104), .val (.int (12 : Int32)), .val (.ref ad12), .val (.int (79 : Int32)), .val (.int (66 : Int32))]) rfl ?_
    show Steps p.tables e below (T182.setTop (mkF m 274 #[.val (.int p1), .val (.ref b1), .val (.ref b104), .val (.int (12 : Int32)), .val (.ref ad12), .val (.int (79 : Int32)), .val (.int (66 : Int32))] [])) t_
    refine XS.aload X182.here hx rfl (hb hby at_274) rfl rfl ?_
    exact k_
  obtain ⟨cq183, kq183, q183a, q183b, q183c⟩ := isOf hZ eh182 (zc2.ext Oc.2)
  obtain ⟨_, _, ⟨T183, L183, k183, n183⟩, -, X183, ⟨Lc183, hQ183, l183, y183, z183⟩, st183⟩ := X182.virtualBack hx (y := own_y7) (z := own_y7) hown (mvT hZ (own_w hw 106 rfl)) (mvT hZ (own_w hw 107 rfl)) (notFace_of_selects (args := #[]) (mvT hZ (own_w hw 109 rfl))) (mvT hZ (own_w hw 109 rfl)) (mvT hZ (own_w hw 108 rfl)) (by decide) (backOf (W := 0) (rmMIn104 l Z a0 hw [] ad12 (12 : Int32) Hc n0 (Nat.le_trans Z0 Kc0.1) Oc zc2 zc3 (by decide) (by decide)) hZ (own_w hw 110 rfl) (own_w hw 3 rfl) (by decide) (by decide)) q183a q183c (g := (mkF m 276 #[.val (.int p1), .val (.ref b1), .val (.ref b104), .val (.int (12 : Int32)), .val (.ref ad12), .val (.int (79 : Int32)), .val (.int (66 : Int32))] [(.ref ad12)])) rfl (by rw [hml]; rfl) (Steps.refl _) (argsL := []) (rest := []) (lenOf pd_2 rfl) rfl (by show 2 * 0 + _ ≤ _; exact Nat.le_of_eq rfl) (hb hby at_276) (fun _ _ => ⟨rfl, eh182, (by decide : 3 + 0 ≤ _), (by decide : 310 + 0 ≤ _)⟩)
  dsimp only [Pt.U, Pt.locs, Pt.cells, Pt.slots] at X183 l183 y183 z183 st183 hQ183
  subst l183 y183 z183
  obtain ⟨rfl, N183q, eh183⟩ := hQ183
  have N183 := Fr.app N182 N183q
  refine own_via st183 ?_
  refine own_go (A := T183.setTop (mkF m 283 #[.val (.int p1), .val (.ref b1), .val (.ref b104), .val (.int (12 : Int32)), .val (.ref ad12), .val (.int (79 : Int32)), .val (.int (66 : Int32))] [(.int (66 : Int32)), (.int (79 : Int32)), (.int (1 : Int32))])) (fun t_ k_ => ?_) ?_
  · show Steps p.tables e below (T183.setTop (mkF m 279 #[.val (.int p1), .val (.ref b1), .val (.ref b104), .val (.int (12 : Int32)), .val (.ref ad12), .val (.int (79 : Int32)), .val (.int (66 : Int32))] [(.int (1 : Int32))])) t_
    refine XS.iload X183.here hx rfl (hb hby at_279) rfl ?_
    show Steps p.tables e below (T183.setTop (mkF m 281 #[.val (.int p1), .val (.ref b1), .val (.ref b104), .val (.int (12 : Int32)), .val (.ref ad12), .val (.int (79 : Int32)), .val (.int (66 : Int32))] [(.int (79 : Int32)), (.int (1 : Int32))])) t_
    refine XS.iload X183.here hx rfl (hb hby at_281) rfl ?_
    exact k_
  obtain ⟨_, _, ⟨T184, L184, k184, n184⟩, -, X184, ⟨Lc184, hQ184, l184, y184, z184⟩, st184⟩ := Jvm.LawKit.callS X183 hx (y := own_y8) hown (mvT hZ (own_w hw 120 rfl)) (mvT hZ (own_w hw 121 rfl)) (mvT hZ (own_w hw 122 rfl)) (mvT hZ (own_w hw 123 rfl)) (by decide) (backOf (W := 1) (rmEO l Z a0 hw [] (66 : Int32) Hc n0 (Nat.le_trans Z0 Kc0.1)) hZ (own_w hw 123 rfl) (own_w hw 122 rfl) (by decide) (by decide)) (g := (mkF m 283 #[.val (.int p1), .val (.ref b1), .val (.ref b104), .val (.int (12 : Int32)), .val (.ref ad12), .val (.int (79 : Int32)), .val (.int (66 : Int32))] [(.int (66 : Int32)), (.int (79 : Int32)), (.int (1 : Int32))])) rfl (by rw [hml]; rfl) (argsL := [(.int (79 : Int32)), (.int (66 : Int32))]) (rest := [(.int (1 : Int32))]) (lenOf pd_6 rfl) rfl (by show 2 * 0 + _ ≤ _; exact Nat.le_of_eq rfl) (hb hby at_283) (fun _ _ => ⟨rfl, eh183, (by decide : 3 + 0 ≤ _), (by decide : 310 + 0 ≤ _)⟩)
  dsimp only [Pt.U, Pt.locs, Pt.cells, Pt.slots] at X184 l184 y184 z184 st184 hQ184
  subst l184 y184 z184
  obtain ⟨rfl, N184q, eh184⟩ := hQ184
  have N184 := Fr.app N183 N184q
  refine own_go st184 ?_
  refine own_go (A := T184.setTop (mkF m 294 #[.val (.int p1), .val (.ref b1), .val (.ref b104), .val (.int (12 : Int32)), .val (.ref ad12), .val (.int (79 : Int32)), .val (.int (66 : Int32))] [(.int (1 : Int32))])) (fun t_ k_ => ?_) ?_
  · show Steps p.tables e below (T184.setTop (mkF m 286 #[.val (.int p1), .val (.ref b1), .val (.ref b104), .val (.int (12 : Int32)), .val (.ref ad12), .val (.int (79 : Int32)), .val (.int (66 : Int32))] [(.int (1 : Int32)), (.int (1 : Int32))])) t_
    refine XS.icmpNo X184.here hx rfl (hb hby at_286) rfl (teq (by decide : (1 : Int32) = (1 : Int32))).2 ?_
    show Steps p.tables e below (T184.setTop (mkF m 289 #[.val (.int p1), .val (.ref b1), .val (.ref b104), .val (.int (12 : Int32)), .val (.ref ad12), .val (.int (79 : Int32)), .val (.int (66 : Int32))] [])) t_
    refine XS.iconst X184.here hx rfl (hb hby at_289) ?_
    show Steps p.tables e below (T184.setTop (mkF m 290 #[.val (.int p1), .val (.ref b1), .val (.ref b104), .val (.int (12 : Int32)), .val (.ref ad12), .val (.int (79 : Int32)), .val (.int (66 : Int32))] [(.int (1 : Int32))])) t_
    refine XS.goto X184.here hx rfl (pc0 := 290) (pc' := 294) rfl (hb hby at_290) (by decide) (by decide) ?_
    exact k_
  obtain ⟨fs185, hr185, hrun185, hended185, hRW185⟩ := X184.leaveW hS (by rw [eh184]; exact hk) (v := some (.int (1 : Int32))) (fun h => by rw [hret] at h; cases h)
  refine ⟨_, _, ?_, hrun185, hended185, _, _, rfl, ?_, hRW185.1, hRW185.2.1, hRW185.2.2.1, hRW185.2.2.2.mono (by decide) (by decide)⟩
  · exact retN X184 hx (t := .boolean) hret (by simp) (hb hby at_294) hr185
  · show Q_rm0 Z p1 cs sf ad0 ad1 ad2 ad3 ad4 ad5 ad6 ad7 ad8 ad9 ad10 ad11 ad12 ad13 ad14 ad15 ad16 ad17 ad18 ad19 ad20 ad21 ad22 ad23 ad24 ad25 ad26 ad27 ad28 ad29 ad30 ad31 ad32 ad33 h0 n0 _ T184.heap _
    rw [eh184]
    exact ⟨rfl, N184, Kc0⟩
set_option maxRecDepth 65536 in
set_option maxHeartbeats 40000000 in
theorem own_sufad13 (l : Launch) (Z : State) (a0 : Array Value) (hw : ∀ d ∈ tables_1, d.before a0 Z = true) (p1 : Int32) (cs : Int32) (sf : Value) (ad0 : Addr) (ad1 : Addr) (ad2 : Addr) (ad3 : Addr) (ad4 : Addr) (ad5 : Addr) (ad6 : Addr) (ad7 : Addr) (ad8 : Addr) (ad9 : Addr) (ad10 : Addr) (ad11 : Addr) (ad12 : Addr) (ad13 : Addr) (ad14 : Addr) (ad15 : Addr) (ad16 : Addr) (ad17 : Addr) (ad18 : Addr) (ad19 : Addr) (ad20 : Addr) (ad21 : Addr) (ad22 : Addr) (ad23 : Addr) (ad24 : Addr) (ad25 : Addr) (ad26 : Addr) (ad27 : Addr) (ad28 : Addr) (ad29 : Addr) (ad30 : Addr) (ad31 : Addr) (ad32 : Addr) (ad33 : Addr) (b1 : Addr) (b104 : Addr) (d104 : Addr) (kk104 : ClassId) (h0 : Heap) (n0 : Nat) (Z0 : n0 ≤ h0.size) {p : Program} {e : Env} {s : State} {m : MethodId} {below : List Frame} {meth : Method} {c : Code} {Tc : State} {Hc : Heap} {locsc : List Loc} {vmc : Vm} {kc0 : Nat} (Xc : Stand p l e room_1 (s.setVm vmc) m #[(.int p1)] below meth c Tc locsc 3 310) (hx : p.tables.exec = Jvm.exec) (hZ : Z.Warmed39 (s.setVm vmc).vm) (hby : c.code = code) (hml : c.maxLocals = 7) (hown : (s.setVm vmc).vm.findClass "com/example/querent/querent/dicom/VrHasLongLengthPinLaw" = some m.cls) (hret : meth.sig.returnType = some .boolean) (hlk : meth.locks = false) (hh : s.heap = h0) (ec : Tc.heap = Hc) (Nc : Fr n0 locsc) (Kc0 : Keep h0 Hc []) (Oc : Old Z n0 Hc) (hS : s.Since vmc kc0) (hk : kc0 ≤ Hc.size) (hSA : ∀ a ∈ Bundle.stringAtoms, a.before a0 Z = true) (zc0 : Sta Z Z.heap "java/lang/String" "COMPACT_STRINGS" "Z" (.int cs)) (zc1 : Sta Z Z.heap "jdk/internal/util/Preconditions" "SIOOBE_FORMATTER" "Ljava/util/function/BiFunction;" sf) (zc2 : Exa Z Z.heap ad13 "com/example/querent/querent/dicom/Vr") (zc3 : Fld Z Z.heap ad13 "java/lang/Enum" "ordinal" "I" (.int (13 : Int32))) (zc4 : Exa Z Hc b104 "java/lang/String") (zc5 : Fld Z Hc b104 "java/lang/String" "coder" "B" (.int (0 : Int32))) (zc6 : Fld Z Hc b104 "java/lang/String" "value" "[B" (.ref d104)) (zc7 : Arv Z Hc d104 kk104 .byte (68 : Int32) own_txt (.int (0 : Int32))) (hcs : ¬ (cs = (0 : Int32))) (hsf : sf.isRef = true) (hn0 : n0 = h0.size) (hcw : Jvm.Lit.compactW.before a0 Z = true) (hlit : Jvm.Lit.constHeld Z "com/example/querent/querent/dicom/VrHasLongLengthPinLaw" 112) :
    ∃ U_ o_, Steps p.tables e below (Tc.setTop (mkF m 254 #[.val (.int p1), .val (.ref b1), .val (.ref b104), .val (.int (13 : Int32)), .val (.ref ad13), .unset, .unset] [])) U_ ∧ U_.status = .running ∧ Ended U_ below o_ ∧ (∃ v_ L_, o_ = .returned v_ ∧ Q_rm0 Z p1 cs sf ad0 ad1 ad2 ad3 ad4 ad5 ad6 ad7 ad8 ad9 ad10 ad11 ad12 ad13 ad14 ad15 ad16 ad17 ad18 ad19 ad20 ad21 ad22 ad23 ad24 ad25 ad26 ad27 ad28 ad29 ad30 ad31 ad32 ad33 h0 n0 v_ U_.heap L_ ∧ ReturnedEndW s o_ U_ L_ room_1.cells room_1.slots) := by
  refine own_go (A := Tc.setTop (mkF m 258 #[.val (.int p1), .val (.ref b1), .val (.ref b104), .val (.int (13 : Int32)), .val (.ref ad13), .unset, .unset] [(.int (26 : Int32)), (.ref b104)])) (fun t_ k_ => ?_) ?_
  · show Steps p.tables e below (Tc.setTop (mkF m 254 #[.val (.int p1), .val (.ref b1), .val (.ref b104), .val (.int (13 : Int32)), .val (.ref ad13), .unset, .unset] [])) t_
    refine XS.aloadN Xc.here hx rfl (hb hby at_254) rfl rfl ?_
    show Steps p.tables e below (Tc.setTop (mkF m 255 #[.val (.int p1), .val (.ref b1), .val (.ref b104), .val (.int (13 : Int32)), .val (.ref ad13), .unset, .unset] [(.ref b104)])) t_
    refine XS.iconst Xc.here hx rfl (hb hby at_255) ?_
    show Steps p.tables e below (Tc.setTop (mkF m 256 #[.val (.int p1), .val (.ref b1), .val (.ref b104), .val (.int (13 : Int32)), .val (.ref ad13), .unset, .unset] [(.int (2 : Int32)), (.ref b104)])) t_
    refine XS.iloadN Xc.here hx rfl (hb hby at_256) rfl ?_
    show Steps p.tables e below (Tc.setTop (mkF m 257 #[.val (.int p1), .val (.ref b1), .val (.ref b104), .val (.int (13 : Int32)), .val (.ref ad13), .unset, .unset] [(.int (13 : Int32)), (.int (2 : Int32)), (.ref b104)])) t_
    refine XS.imul Xc.here hx rfl (hb hby at_257) rfl ?_
    exact k_
  obtain ⟨cq187, kq187, q187a, q187b, q187c⟩ := isOf hZ ec zc4
  obtain ⟨_, _, ⟨T187, L187, k187, n187⟩, -, X187, ⟨Lc187, hQ187, l187, y187, z187⟩, st187⟩ := Xc.virtualBack hx (y := own_y4) (z := own_y4) hown (mvT hZ (own_w hw 81 rfl)) (mvT hZ (own_w hw 82 rfl)) (notFace_of_selects (args := #[]) (mvT hZ (own_w hw 84 rfl))) (mvT hZ (own_w hw 84 rfl)) (mvT hZ (own_w hw 83 rfl)) (by decide) (backOf (W := 0) (rmChAt l Z a0 hw [] b104 (26 : Int32) d104 kk104 (68 : Int32) own_txt (79 : Int32) sf cs Hc n0 (Nat.le_trans Z0 Kc0.1) Oc zc0 hcs zc1 hsf zc4 zc5 zc6 zc7 (by decide : ¬ ((26 : Int32) < (0 : Int32))) (by decide : (26 : Int32) < (68 : Int32)) rfl) hZ (own_w hw 85 rfl) (own_w hw 73 rfl) (by decide) (by decide)) q187a q187c (g := (mkF m 258 #[.val (.int p1), .val (.ref b1), .val (.ref b104), .val (.int (13 : Int32)), .val (.ref ad13), .unset, .unset] [(.int (26 : Int32)), (.ref b104)])) rfl (by rw [hml]; rfl) (Steps.refl _) (argsL := [(.int (26 : Int32))]) (rest := []) (lenOf pd_5 rfl) rfl (by show 2 * 0 + _ ≤ _; exact Nat.le_of_eq rfl) (hb hby at_258) (fun _ _ => ⟨rfl, ec, (by decide : 3 + 0 ≤ _), (by decide : 310 + 0 ≤ _)⟩)
  dsimp only [Pt.U, Pt.locs, Pt.cells, Pt.slots] at X187 l187 y187 z187 st187 hQ187
  subst l187 y187 z187
  obtain ⟨rfl, N187q, eh187⟩ := hQ187
  have N187 := Fr.app Nc N187q
  refine own_via st187 ?_
  refine own_go (A := T187.setTop (mkF m 269 #[.val (.int p1), .val (.ref b1), .val (.ref b104), .val (.int (13 : Int32)), .val (.ref ad13), .val (.int (79 : Int32)), .unset] [(.int (27 : Int32)), (.ref b104)])) (fun t_ k_ => ?_) ?_
  · show Steps p.tables e below (T187.setTop (mkF m 261 #[.val (.int p1), .val (.ref b1), .val (.ref b104), .val (.int (13 : Int32)), .val (.ref ad13), .unset, .unset] [(.int (79 : Int32))])) t_
    refine XS.istore X187.here hx rfl (hb hby at_261) rfl (l' := #[.val (.int p1), .val (.ref b1), .val (.ref b104), .val (.int (13 : Int32)), .val (.ref ad13), .val (.int (79 : Int32)), .unset]) rfl ?_
    show Steps p.tables e below (T187.setTop (mkF m 263 #[.val (.int p1), .val (.ref b1), .val (.ref b104), .val (.int (13 : Int32)), .val (.ref ad13), .val (.int (79 : Int32)), .unset] [])) t_
    refine XS.aloadN X187.here hx rfl (hb hby at_263) rfl rfl ?_
    show Steps p.tables e below (T187.setTop (mkF m 264 #[.val (.int p1), .val (.ref b1), .val (.ref b104), .val (.int (13 : Int32)), .val (.ref ad13), .val (.int (79 : Int32)), .unset] [(.ref b104)])) t_
    refine XS.iconst X187.here hx rfl (hb hby at_264) ?_
    show Steps p.tables e below (T187.setTop (mkF m 265 #[.val (.int p1), .val (.ref b1), .val (.ref b104), .val (.int (13 : Int32)), .val (.ref ad13), .val (.int (79 : Int32)), .unset] [(.int (2 : Int32)), (.ref b104)])) t_
    refine XS.iloadN X187.here hx rfl (hb hby at_265) rfl ?_
    show Steps p.tables e below (T187.setTop (mkF m 266 #[.val (.int p1), .val (.ref b1), .val (.ref b104), .val (.int (13 : Int32)), .val (.ref ad13), .val (.int (79 : Int32)), .unset] [(.int (13 : Int32)), (.int (2 : Int32)), (.ref b104)])) t_
    refine XS.imul X187.here hx rfl (hb hby at_266) rfl ?_
    show Steps p.tables e below (T187.setTop (mkF m 267 #[.val (.int p1), .val (.ref b1), .val (.ref b104), .val (.int (13 : Int32)), .val (.ref ad13), .val (.int (79 : Int32)), .unset] [(.int (26 : Int32)), (.ref b104)])) t_
    refine XS.iconst X187.here hx rfl (hb hby at_267) ?_
    show Steps p.tables e below (T187.setTop (mkF m 268 #[.val (.int p1), .val (.ref b1), .val (.ref b104), .val (.int (13 : Int32)), .val (.ref ad13), .val (.int (79 : Int32)), .unset] [(.int (1 : Int32)), (.int (26 : Int32)), (.ref b104)])) t_
    refine XS.iadd X187.here hx rfl (hb hby at_268) rfl ?_
    exact k_
  obtain ⟨cq188, kq188, q188a, q188b, q188c⟩ := isOf hZ eh187 zc4
  obtain ⟨_, _, ⟨T188, L188, k188, n188⟩, -, X188, ⟨Lc188, hQ188, l188, y188, z188⟩, st188⟩ := X187.virtualBack hx (y := own_y4) (z := own_y4) hown (mvT hZ (own_w hw 81 rfl)) (mvT hZ (own_w hw 82 rfl)) (notFace_of_selects (args := #[]) (mvT hZ (own_w hw 84 rfl))) (mvT hZ (own_w hw 84 rfl)) (mvT hZ (own_w hw 83 rfl)) (by decide) (backOf (W := 0) (rmChAt l Z a0 hw [] b104 (27 : Int32) d104 kk104 (68 : Int32) own_txt (68 : Int32) sf cs Hc n0 (Nat.le_trans Z0 Kc0.1) Oc zc0 hcs zc1 hsf zc4 zc5 zc6 zc7 (by decide : ¬ ((27 : Int32) < (0 : Int32))) (by decide : (27 : Int32) < (68 : Int32)) rfl) hZ (own_w hw 85 rfl) (own_w hw 73 rfl) (by decide) (by decide)) q188a q188c (g := (mkF m 269 #[.val (.int p1), .val (.ref b1), .val (.ref b104), .val (.int (13 : Int32)), .val (.ref ad13), .val (.int (79 : Int32)), .unset] [(.int (27 : Int32)), (.ref b104)])) rfl (by rw [hml]; rfl) (Steps.refl _) (argsL := [(.int (27 : Int32))]) (rest := []) (lenOf pd_5 rfl) rfl (by show 2 * 0 + _ ≤ _; exact Nat.le_of_eq rfl) (hb hby at_269) (fun _ _ => ⟨rfl, eh187, (by decide : 3 + 0 ≤ _), (by decide : 310 + 0 ≤ _)⟩)
  dsimp only [Pt.U, Pt.locs, Pt.cells, Pt.slots] at X188 l188 y188 z188 st188 hQ188
  subst l188 y188 z188
  obtain ⟨rfl, N188q, eh188⟩ := hQ188
  have N188 := Fr.app N187 N188q
  refine own_via st188 ?_
  refine own_go (A := T188.setTop (mkF m 276 #[.val (.int p1), .val (.ref b1), .val (.ref b104), .val (.int (13 : Int32)), .val (.ref ad13), .val (.int (79 : Int32)), .val (.int (68 : Int32))] [(.ref ad13)])) (fun t_ k_ => ?_) ?_
  · show Steps p.tables e below (T188.setTop (mkF m 272 #[.val (.int p1), .val (.ref b1), .val (.ref b104), .val (.int (13 : Int32)), .val (.ref ad13), .val (.int (79 : Int32)), .unset] [(.int (68 : Int32))])) t_
    refine XS.istore X188.here hx rfl (hb hby at_272) rfl (l' := #[.val (.int p1), .val (.ref b1), .val (.ref b104), .val (.int (13 : Int32)), .val (.ref ad13), .val (.int (79 : Int32)), .val (.int (68 : Int32))]) rfl ?_
    show Steps p.tables e below (T188.setTop (mkF m 274 #[.val (.int p1), .val (.ref b1), .val (.ref b104), .val (.int (13 : Int32)), .val (.ref ad13), .val (.int (79 : Int32)), .val (.int (68 : Int32))] [])) t_
    refine XS.aload X188.here hx rfl (hb hby at_274) rfl rfl ?_
    exact k_
  obtain ⟨cq189, kq189, q189a, q189b, q189c⟩ := isOf hZ eh188 (zc2.ext Oc.2)
  obtain ⟨_, _, ⟨T189, L189, k189, n189⟩, -, X189, ⟨Lc189, hQ189, l189, y189, z189⟩, st189⟩ := X188.virtualBack hx (y := own_y7) (z := own_y7) hown (mvT hZ (own_w hw 106 rfl)) (mvT hZ (own_w hw 107 rfl)) (notFace_of_selects (args := #[]) (mvT hZ (own_w hw 109 rfl))) (mvT hZ (own_w hw 109 rfl)) (mvT hZ (own_w hw 108 rfl)) (by decide) (backOf (W := 0) (rmMIn104 l Z a0 hw [] ad13 (13 : Int32) Hc n0 (Nat.le_trans Z0 Kc0.1) Oc zc2 zc3 (by decide) (by decide)) hZ (own_w hw 110 rfl) (own_w hw 3 rfl) (by decide) (by decide)) q189a q189c (g := (mkF m 276 #[.val (.int p1), .val (.ref b1), .val (.ref b104), .val (.int (13 : Int32)), .val (.ref ad13), .val (.int (79 : Int32)), .val (.int (68 : Int32))] [(.ref ad13)])) rfl (by rw [hml]; rfl) (Steps.refl _) (argsL := []) (rest := []) (lenOf pd_2 rfl) rfl (by show 2 * 0 + _ ≤ _; exact Nat.le_of_eq rfl) (hb hby at_276) (fun _ _ => ⟨rfl, eh188, (by decide : 3 + 0 ≤ _), (by decide : 310 + 0 ≤ _)⟩)
  dsimp only [Pt.U, Pt.locs, Pt.cells, Pt.slots] at X189 l189 y189 z189 st189 hQ189
  subst l189 y189 z189
  obtain ⟨rfl, N189q, eh189⟩ := hQ189
  have N189 := Fr.app N188 N189q
  refine own_via st189 ?_
  refine own_go (A := T189.setTop (mkF m 283 #[.val (.int p1), .val (.ref b1), .val (.ref b104), .val (.int (13 : Int32)), .val (.ref ad13), .val (.int (79 : Int32)), .val (.int (68 : Int32))] [(.int (68 : Int32)), (.int (79 : Int32)), (.int (1 : Int32))])) (fun t_ k_ => ?_) ?_
  · show Steps p.tables e below (T189.setTop (mkF m 279 #[.val (.int p1), .val (.ref b1), .val (.ref b104), .val (.int (13 : Int32)), .val (.ref ad13), .val (.int (79 : Int32)), .val (.int (68 : Int32))] [(.int (1 : Int32))])) t_
    refine XS.iload X189.here hx rfl (hb hby at_279) rfl ?_
    show Steps p.tables e below (T189.setTop (mkF m 281 #[.val (.int p1), .val (.ref b1), .val (.ref b104), .val (.int (13 : Int32)), .val (.ref ad13), .val (.int (79 : Int32)), .val (.int (68 : Int32))] [(.int (79 : Int32)), (.int (1 : Int32))])) t_
    refine XS.iload X189.here hx rfl (hb hby at_281) rfl ?_
    exact k_
  obtain ⟨_, _, ⟨T190, L190, k190, n190⟩, -, X190, ⟨Lc190, hQ190, l190, y190, z190⟩, st190⟩ := Jvm.LawKit.callS X189 hx (y := own_y8) hown (mvT hZ (own_w hw 120 rfl)) (mvT hZ (own_w hw 121 rfl)) (mvT hZ (own_w hw 122 rfl)) (mvT hZ (own_w hw 123 rfl)) (by decide) (backOf (W := 1) (rmEO l Z a0 hw [] (68 : Int32) Hc n0 (Nat.le_trans Z0 Kc0.1)) hZ (own_w hw 123 rfl) (own_w hw 122 rfl) (by decide) (by decide)) (g := (mkF m 283 #[.val (.int p1), .val (.ref b1), .val (.ref b104), .val (.int (13 : Int32)), .val (.ref ad13), .val (.int (79 : Int32)), .val (.int (68 : Int32))] [(.int (68 : Int32)), (.int (79 : Int32)), (.int (1 : Int32))])) rfl (by rw [hml]; rfl) (argsL := [(.int (79 : Int32)), (.int (68 : Int32))]) (rest := [(.int (1 : Int32))]) (lenOf pd_6 rfl) rfl (by show 2 * 0 + _ ≤ _; exact Nat.le_of_eq rfl) (hb hby at_283) (fun _ _ => ⟨rfl, eh189, (by decide : 3 + 0 ≤ _), (by decide : 310 + 0 ≤ _)⟩)
  dsimp only [Pt.U, Pt.locs, Pt.cells, Pt.slots] at X190 l190 y190 z190 st190 hQ190
  subst l190 y190 z190
  obtain ⟨rfl, N190q, eh190⟩ := hQ190
  have N190 := Fr.app N189 N190q
  refine own_go st190 ?_
  refine own_go (A := T190.setTop (mkF m 294 #[.val (.int p1), .val (.ref b1), .val (.ref b104), .val (.int (13 : Int32)), .val (.ref ad13), .val (.int (79 : Int32)), .val (.int (68 : Int32))] [(.int (1 : Int32))])) (fun t_ k_ => ?_) ?_
  · show Steps p.tables e below (T190.setTop (mkF m 286 #[.val (.int p1), .val (.ref b1), .val (.ref b104), .val (.int (13 : Int32)), .val (.ref ad13), .val (.int (79 : Int32)), .val (.int (68 : Int32))] [(.int (1 : Int32)), (.int (1 : Int32))])) t_
    refine XS.icmpNo X190.here hx rfl (hb hby at_286) rfl (teq (by decide : (1 : Int32) = (1 : Int32))).2 ?_
    show Steps p.tables e below (T190.setTop (mkF m 289 #[.val (.int p1), .val (.ref b1), .val (.ref b104), .val (.int (13 : Int32)), .val (.ref ad13), .val (.int (79 : Int32)), .val (.int (68 : Int32))] [])) t_
    refine XS.iconst X190.here hx rfl (hb hby at_289) ?_
    show Steps p.tables e below (T190.setTop (mkF m 290 #[.val (.int p1), .val (.ref b1), .val (.ref b104), .val (.int (13 : Int32)), .val (.ref ad13), .val (.int (79 : Int32)), .val (.int (68 : Int32))] [(.int (1 : Int32))])) t_
    refine XS.goto X190.here hx rfl (pc0 := 290) (pc' := 294) rfl (hb hby at_290) (by decide) (by decide) ?_
    exact k_
  obtain ⟨fs191, hr191, hrun191, hended191, hRW191⟩ := X190.leaveW hS (by rw [eh190]; exact hk) (v := some (.int (1 : Int32))) (fun h => by rw [hret] at h; cases h)
  refine ⟨_, _, ?_, hrun191, hended191, _, _, rfl, ?_, hRW191.1, hRW191.2.1, hRW191.2.2.1, hRW191.2.2.2.mono (by decide) (by decide)⟩
  · exact retN X190 hx (t := .boolean) hret (by simp) (hb hby at_294) hr191
  · show Q_rm0 Z p1 cs sf ad0 ad1 ad2 ad3 ad4 ad5 ad6 ad7 ad8 ad9 ad10 ad11 ad12 ad13 ad14 ad15 ad16 ad17 ad18 ad19 ad20 ad21 ad22 ad23 ad24 ad25 ad26 ad27 ad28 ad29 ad30 ad31 ad32 ad33 h0 n0 _ T190.heap _
    rw [eh190]
    exact ⟨rfl, N190, Kc0⟩
set_option maxRecDepth 65536 in
set_option maxHeartbeats 40000000 in
theorem own_sufad14 (l : Launch) (Z : State) (a0 : Array Value) (hw : ∀ d ∈ tables_1, d.before a0 Z = true) (p1 : Int32) (cs : Int32) (sf : Value) (ad0 : Addr) (ad1 : Addr) (ad2 : Addr) (ad3 : Addr) (ad4 : Addr) (ad5 : Addr) (ad6 : Addr) (ad7 : Addr) (ad8 : Addr) (ad9 : Addr) (ad10 : Addr) (ad11 : Addr) (ad12 : Addr) (ad13 : Addr) (ad14 : Addr) (ad15 : Addr) (ad16 : Addr) (ad17 : Addr) (ad18 : Addr) (ad19 : Addr) (ad20 : Addr) (ad21 : Addr) (ad22 : Addr) (ad23 : Addr) (ad24 : Addr) (ad25 : Addr) (ad26 : Addr) (ad27 : Addr) (ad28 : Addr) (ad29 : Addr) (ad30 : Addr) (ad31 : Addr) (ad32 : Addr) (ad33 : Addr) (b1 : Addr) (b104 : Addr) (d104 : Addr) (kk104 : ClassId) (h0 : Heap) (n0 : Nat) (Z0 : n0 ≤ h0.size) {p : Program} {e : Env} {s : State} {m : MethodId} {below : List Frame} {meth : Method} {c : Code} {Tc : State} {Hc : Heap} {locsc : List Loc} {vmc : Vm} {kc0 : Nat} (Xc : Stand p l e room_1 (s.setVm vmc) m #[(.int p1)] below meth c Tc locsc 3 310) (hx : p.tables.exec = Jvm.exec) (hZ : Z.Warmed39 (s.setVm vmc).vm) (hby : c.code = code) (hml : c.maxLocals = 7) (hown : (s.setVm vmc).vm.findClass "com/example/querent/querent/dicom/VrHasLongLengthPinLaw" = some m.cls) (hret : meth.sig.returnType = some .boolean) (hlk : meth.locks = false) (hh : s.heap = h0) (ec : Tc.heap = Hc) (Nc : Fr n0 locsc) (Kc0 : Keep h0 Hc []) (Oc : Old Z n0 Hc) (hS : s.Since vmc kc0) (hk : kc0 ≤ Hc.size) (hSA : ∀ a ∈ Bundle.stringAtoms, a.before a0 Z = true) (zc0 : Sta Z Z.heap "java/lang/String" "COMPACT_STRINGS" "Z" (.int cs)) (zc1 : Sta Z Z.heap "jdk/internal/util/Preconditions" "SIOOBE_FORMATTER" "Ljava/util/function/BiFunction;" sf) (zc2 : Exa Z Z.heap ad14 "com/example/querent/querent/dicom/Vr") (zc3 : Fld Z Z.heap ad14 "java/lang/Enum" "ordinal" "I" (.int (14 : Int32))) (zc4 : Exa Z Hc b104 "java/lang/String") (zc5 : Fld Z Hc b104 "java/lang/String" "coder" "B" (.int (0 : Int32))) (zc6 : Fld Z Hc b104 "java/lang/String" "value" "[B" (.ref d104)) (zc7 : Arv Z Hc d104 kk104 .byte (68 : Int32) own_txt (.int (0 : Int32))) (hcs : ¬ (cs = (0 : Int32))) (hsf : sf.isRef = true) (hn0 : n0 = h0.size) (hcw : Jvm.Lit.compactW.before a0 Z = true) (hlit : Jvm.Lit.constHeld Z "com/example/querent/querent/dicom/VrHasLongLengthPinLaw" 112) :
    ∃ U_ o_, Steps p.tables e below (Tc.setTop (mkF m 254 #[.val (.int p1), .val (.ref b1), .val (.ref b104), .val (.int (14 : Int32)), .val (.ref ad14), .unset, .unset] [])) U_ ∧ U_.status = .running ∧ Ended U_ below o_ ∧ (∃ v_ L_, o_ = .returned v_ ∧ Q_rm0 Z p1 cs sf ad0 ad1 ad2 ad3 ad4 ad5 ad6 ad7 ad8 ad9 ad10 ad11 ad12 ad13 ad14 ad15 ad16 ad17 ad18 ad19 ad20 ad21 ad22 ad23 ad24 ad25 ad26 ad27 ad28 ad29 ad30 ad31 ad32 ad33 h0 n0 v_ U_.heap L_ ∧ ReturnedEndW s o_ U_ L_ room_1.cells room_1.slots) := by
  refine own_go (A := Tc.setTop (mkF m 258 #[.val (.int p1), .val (.ref b1), .val (.ref b104), .val (.int (14 : Int32)), .val (.ref ad14), .unset, .unset] [(.int (28 : Int32)), (.ref b104)])) (fun t_ k_ => ?_) ?_
  · show Steps p.tables e below (Tc.setTop (mkF m 254 #[.val (.int p1), .val (.ref b1), .val (.ref b104), .val (.int (14 : Int32)), .val (.ref ad14), .unset, .unset] [])) t_
    refine XS.aloadN Xc.here hx rfl (hb hby at_254) rfl rfl ?_
    show Steps p.tables e below (Tc.setTop (mkF m 255 #[.val (.int p1), .val (.ref b1), .val (.ref b104), .val (.int (14 : Int32)), .val (.ref ad14), .unset, .unset] [(.ref b104)])) t_
    refine XS.iconst Xc.here hx rfl (hb hby at_255) ?_
    show Steps p.tables e below (Tc.setTop (mkF m 256 #[.val (.int p1), .val (.ref b1), .val (.ref b104), .val (.int (14 : Int32)), .val (.ref ad14), .unset, .unset] [(.int (2 : Int32)), (.ref b104)])) t_
    refine XS.iloadN Xc.here hx rfl (hb hby at_256) rfl ?_
    show Steps p.tables e below (Tc.setTop (mkF m 257 #[.val (.int p1), .val (.ref b1), .val (.ref b104), .val (.int (14 : Int32)), .val (.ref ad14), .unset, .unset] [(.int (14 : Int32)), (.int (2 : Int32)), (.ref b104)])) t_
    refine XS.imul Xc.here hx rfl (hb hby at_257) rfl ?_
    exact k_
  obtain ⟨cq193, kq193, q193a, q193b, q193c⟩ := isOf hZ ec zc4
  obtain ⟨_, _, ⟨T193, L193, k193, n193⟩, -, X193, ⟨Lc193, hQ193, l193, y193, z193⟩, st193⟩ := Xc.virtualBack hx (y := own_y4) (z := own_y4) hown (mvT hZ (own_w hw 81 rfl)) (mvT hZ (own_w hw 82 rfl)) (notFace_of_selects (args := #[]) (mvT hZ (own_w hw 84 rfl))) (mvT hZ (own_w hw 84 rfl)) (mvT hZ (own_w hw 83 rfl)) (by decide) (backOf (W := 0) (rmChAt l Z a0 hw [] b104 (28 : Int32) d104 kk104 (68 : Int32) own_txt (79 : Int32) sf cs Hc n0 (Nat.le_trans Z0 Kc0.1) Oc zc0 hcs zc1 hsf zc4 zc5 zc6 zc7 (by decide : ¬ ((28 : Int32) < (0 : Int32))) (by decide : (28 : Int32) < (68 : Int32)) rfl) hZ (own_w hw 85 rfl) (own_w hw 73 rfl) (by decide) (by decide)) q193a q193c (g := (mkF m 258 #[.val (.int p1), .val (.ref b1), .val (.ref b104), .val (.int (14 : Int32)), .val (.ref ad14), .unset, .unset] [(.int (28 : Int32)), (.ref b104)])) rfl (by rw [hml]; rfl) (Steps.refl _) (argsL := [(.int (28 : Int32))]) (rest := []) (lenOf pd_5 rfl) rfl (by show 2 * 0 + _ ≤ _; exact Nat.le_of_eq rfl) (hb hby at_258) (fun _ _ => ⟨rfl, ec, (by decide : 3 + 0 ≤ _), (by decide : 310 + 0 ≤ _)⟩)
  dsimp only [Pt.U, Pt.locs, Pt.cells, Pt.slots] at X193 l193 y193 z193 st193 hQ193
  subst l193 y193 z193
  obtain ⟨rfl, N193q, eh193⟩ := hQ193
  have N193 := Fr.app Nc N193q
  refine own_via st193 ?_
  refine own_go (A := T193.setTop (mkF m 269 #[.val (.int p1), .val (.ref b1), .val (.ref b104), .val (.int (14 : Int32)), .val (.ref ad14), .val (.int (79 : Int32)), .unset] [(.int (29 : Int32)), (.ref b104)])) (fun t_ k_ => ?_) ?_
  · show Steps p.tables e below (T193.setTop (mkF m 261 #[.val (.int p1), .val (.ref b1), .val (.ref b104), .val (.int (14 : Int32)), .val (.ref ad14), .unset, .unset] [(.int (79 : Int32))])) t_
    refine XS.istore X193.here hx rfl (hb hby at_261) rfl (l' := #[.val (.int p1), .val (.ref b1), .val (.ref b104), .val (.int (14 : Int32)), .val (.ref ad14), .val (.int (79 : Int32)), .unset]) rfl ?_
    show Steps p.tables e below (T193.setTop (mkF m 263 #[.val (.int p1), .val (.ref b1), .val (.ref b104), .val (.int (14 : Int32)), .val (.ref ad14), .val (.int (79 : Int32)), .unset] [])) t_
    refine XS.aloadN X193.here hx rfl (hb hby at_263) rfl rfl ?_
    show Steps p.tables e below (T193.setTop (mkF m 264 #[.val (.int p1), .val (.ref b1), .val (.ref b104), .val (.int (14 : Int32)), .val (.ref ad14), .val (.int (79 : Int32)), .unset] [(.ref b104)])) t_
    refine XS.iconst X193.here hx rfl (hb hby at_264) ?_
    show Steps p.tables e below (T193.setTop (mkF m 265 #[.val (.int p1), .val (.ref b1), .val (.ref b104), .val (.int (14 : Int32)), .val (.ref ad14), .val (.int (79 : Int32)), .unset] [(.int (2 : Int32)), (.ref b104)])) t_
    refine XS.iloadN X193.here hx rfl (hb hby at_265) rfl ?_
    show Steps p.tables e below (T193.setTop (mkF m 266 #[.val (.int p1), .val (.ref b1), .val (.ref b104), .val (.int (14 : Int32)), .val (.ref ad14), .val (.int (79 : Int32)), .unset] [(.int (14 : Int32)), (.int (2 : Int32)), (.ref b104)])) t_
    refine XS.imul X193.here hx rfl (hb hby at_266) rfl ?_
    show Steps p.tables e below (T193.setTop (mkF m 267 #[.val (.int p1), .val (.ref b1), .val (.ref b104), .val (.int (14 : Int32)), .val (.ref ad14), .val (.int (79 : Int32)), .unset] [(.int (28 : Int32)), (.ref b104)])) t_
    refine XS.iconst X193.here hx rfl (hb hby at_267) ?_
    show Steps p.tables e below (T193.setTop (mkF m 268 #[.val (.int p1), .val (.ref b1), .val (.ref b104), .val (.int (14 : Int32)), .val (.ref ad14), .val (.int (79 : Int32)), .unset] [(.int (1 : Int32)), (.int (28 : Int32)), (.ref b104)])) t_
    refine XS.iadd X193.here hx rfl (hb hby at_268) rfl ?_
    exact k_
  obtain ⟨cq194, kq194, q194a, q194b, q194c⟩ := isOf hZ eh193 zc4
  obtain ⟨_, _, ⟨T194, L194, k194, n194⟩, -, X194, ⟨Lc194, hQ194, l194, y194, z194⟩, st194⟩ := X193.virtualBack hx (y := own_y4) (z := own_y4) hown (mvT hZ (own_w hw 81 rfl)) (mvT hZ (own_w hw 82 rfl)) (notFace_of_selects (args := #[]) (mvT hZ (own_w hw 84 rfl))) (mvT hZ (own_w hw 84 rfl)) (mvT hZ (own_w hw 83 rfl)) (by decide) (backOf (W := 0) (rmChAt l Z a0 hw [] b104 (29 : Int32) d104 kk104 (68 : Int32) own_txt (70 : Int32) sf cs Hc n0 (Nat.le_trans Z0 Kc0.1) Oc zc0 hcs zc1 hsf zc4 zc5 zc6 zc7 (by decide : ¬ ((29 : Int32) < (0 : Int32))) (by decide : (29 : Int32) < (68 : Int32)) rfl) hZ (own_w hw 85 rfl) (own_w hw 73 rfl) (by decide) (by decide)) q194a q194c (g := (mkF m 269 #[.val (.int p1), .val (.ref b1), .val (.ref b104), .val (.int (14 : Int32)), .val (.ref ad14), .val (.int (79 : Int32)), .unset] [(.int (29 : Int32)), (.ref b104)])) rfl (by rw [hml]; rfl) (Steps.refl _) (argsL := [(.int (29 : Int32))]) (rest := []) (lenOf pd_5 rfl) rfl (by show 2 * 0 + _ ≤ _; exact Nat.le_of_eq rfl) (hb hby at_269) (fun _ _ => ⟨rfl, eh193, (by decide : 3 + 0 ≤ _), (by decide : 310 + 0 ≤ _)⟩)
  dsimp only [Pt.U, Pt.locs, Pt.cells, Pt.slots] at X194 l194 y194 z194 st194 hQ194
  subst l194 y194 z194
  obtain ⟨rfl, N194q, eh194⟩ := hQ194
  have N194 := Fr.app N193 N194q
  refine own_via st194 ?_
  refine own_go (A := T194.setTop (mkF m 276 #[.val (.int p1), .val (.ref b1), .val (.ref b104), .val (.int (14 : Int32)), .val (.ref ad14), .val (.int (79 : Int32)), .val (.int (70 : Int32))] [(.ref ad14)])) (fun t_ k_ => ?_) ?_
  · show Steps p.tables e below (T194.setTop (mkF m 272 #[.val (.int p1), .val (.ref b1), .val (.ref b104), .val (.int (14 : Int32)), .val (.ref ad14), .val (.int (79 : Int32)), .unset] [(.int (70 : Int32))])) t_
    refine XS.istore X194.here hx rfl (hb hby at_272) rfl (l' := #[.val (.int p1), .val (.ref b1), .val (.ref b104), .val (.int (14 : Int32)), .val (.ref ad14), .val (.int (79 : Int32)), .val (.int (70 : Int32))]) rfl ?_
    show Steps p.tables e below (T194.setTop (mkF m 274 #[.val (.int p1), .val (.ref b1), .val (.ref b104), .val (.int (14 : Int32)), .val (.ref ad14), .val (.int (79 : Int32)), .val (.int (70 : Int32))] [])) t_
    refine XS.aload X194.here hx rfl (hb hby at_274) rfl rfl ?_
    exact k_
  obtain ⟨cq195, kq195, q195a, q195b, q195c⟩ := isOf hZ eh194 (zc2.ext Oc.2)
  obtain ⟨_, _, ⟨T195, L195, k195, n195⟩, -, X195, ⟨Lc195, hQ195, l195, y195, z195⟩, st195⟩ := X194.virtualBack hx (y := own_y7) (z := own_y7) hown (mvT hZ (own_w hw 106 rfl)) (mvT hZ (own_w hw 107 rfl)) (notFace_of_selects (args := #[]) (mvT hZ (own_w hw 109 rfl))) (mvT hZ (own_w hw 109 rfl)) (mvT hZ (own_w hw 108 rfl)) (by decide) (backOf (W := 0) (rmMIn104 l Z a0 hw [] ad14 (14 : Int32) Hc n0 (Nat.le_trans Z0 Kc0.1) Oc zc2 zc3 (by decide) (by decide)) hZ (own_w hw 110 rfl) (own_w hw 3 rfl) (by decide) (by decide)) q195a q195c (g := (mkF m 276 #[.val (.int p1), .val (.ref b1), .val (.ref b104), .val (.int (14 : Int32)), .val (.ref ad14), .val (.int (79 : Int32)), .val (.int (70 : Int32))] [(.ref ad14)])) rfl (by rw [hml]; rfl) (Steps.refl _) (argsL := []) (rest := []) (lenOf pd_2 rfl) rfl (by show 2 * 0 + _ ≤ _; exact Nat.le_of_eq rfl) (hb hby at_276) (fun _ _ => ⟨rfl, eh194, (by decide : 3 + 0 ≤ _), (by decide : 310 + 0 ≤ _)⟩)
  dsimp only [Pt.U, Pt.locs, Pt.cells, Pt.slots] at X195 l195 y195 z195 st195 hQ195
  subst l195 y195 z195
  obtain ⟨rfl, N195q, eh195⟩ := hQ195
  have N195 := Fr.app N194 N195q
  refine own_via st195 ?_
  refine own_go (A := T195.setTop (mkF m 283 #[.val (.int p1), .val (.ref b1), .val (.ref b104), .val (.int (14 : Int32)), .val (.ref ad14), .val (.int (79 : Int32)), .val (.int (70 : Int32))] [(.int (70 : Int32)), (.int (79 : Int32)), (.int (1 : Int32))])) (fun t_ k_ => ?_) ?_
  · show Steps p.tables e below (T195.setTop (mkF m 279 #[.val (.int p1), .val (.ref b1), .val (.ref b104), .val (.int (14 : Int32)), .val (.ref ad14), .val (.int (79 : Int32)), .val (.int (70 : Int32))] [(.int (1 : Int32))])) t_
    refine XS.iload X195.here hx rfl (hb hby at_279) rfl ?_
    show Steps p.tables e below (T195.setTop (mkF m 281 #[.val (.int p1), .val (.ref b1), .val (.ref b104), .val (.int (14 : Int32)), .val (.ref ad14), .val (.int (79 : Int32)), .val (.int (70 : Int32))] [(.int (79 : Int32)), (.int (1 : Int32))])) t_
    refine XS.iload X195.here hx rfl (hb hby at_281) rfl ?_
    exact k_
  obtain ⟨_, _, ⟨T196, L196, k196, n196⟩, -, X196, ⟨Lc196, hQ196, l196, y196, z196⟩, st196⟩ := Jvm.LawKit.callS X195 hx (y := own_y8) hown (mvT hZ (own_w hw 120 rfl)) (mvT hZ (own_w hw 121 rfl)) (mvT hZ (own_w hw 122 rfl)) (mvT hZ (own_w hw 123 rfl)) (by decide) (backOf (W := 1) (rmEO l Z a0 hw [] (70 : Int32) Hc n0 (Nat.le_trans Z0 Kc0.1)) hZ (own_w hw 123 rfl) (own_w hw 122 rfl) (by decide) (by decide)) (g := (mkF m 283 #[.val (.int p1), .val (.ref b1), .val (.ref b104), .val (.int (14 : Int32)), .val (.ref ad14), .val (.int (79 : Int32)), .val (.int (70 : Int32))] [(.int (70 : Int32)), (.int (79 : Int32)), (.int (1 : Int32))])) rfl (by rw [hml]; rfl) (argsL := [(.int (79 : Int32)), (.int (70 : Int32))]) (rest := [(.int (1 : Int32))]) (lenOf pd_6 rfl) rfl (by show 2 * 0 + _ ≤ _; exact Nat.le_of_eq rfl) (hb hby at_283) (fun _ _ => ⟨rfl, eh195, (by decide : 3 + 0 ≤ _), (by decide : 310 + 0 ≤ _)⟩)
  dsimp only [Pt.U, Pt.locs, Pt.cells, Pt.slots] at X196 l196 y196 z196 st196 hQ196
  subst l196 y196 z196
  obtain ⟨rfl, N196q, eh196⟩ := hQ196
  have N196 := Fr.app N195 N196q
  refine own_go st196 ?_
  refine own_go (A := T196.setTop (mkF m 294 #[.val (.int p1), .val (.ref b1), .val (.ref b104), .val (.int (14 : Int32)), .val (.ref ad14), .val (.int (79 : Int32)), .val (.int (70 : Int32))] [(.int (1 : Int32))])) (fun t_ k_ => ?_) ?_
  · show Steps p.tables e below (T196.setTop (mkF m 286 #[.val (.int p1), .val (.ref b1), .val (.ref b104), .val (.int (14 : Int32)), .val (.ref ad14), .val (.int (79 : Int32)), .val (.int (70 : Int32))] [(.int (1 : Int32)), (.int (1 : Int32))])) t_
    refine XS.icmpNo X196.here hx rfl (hb hby at_286) rfl (teq (by decide : (1 : Int32) = (1 : Int32))).2 ?_
    show Steps p.tables e below (T196.setTop (mkF m 289 #[.val (.int p1), .val (.ref b1), .val (.ref b104), .val (.int (14 : Int32)), .val (.ref ad14), .val (.int (79 : Int32)), .val (.int (70 : Int32))] [])) t_
    refine XS.iconst X196.here hx rfl (hb hby at_289) ?_
    show Steps p.tables e below (T196.setTop (mkF m 290 #[.val (.int p1), .val (.ref b1), .val (.ref b104), .val (.int (14 : Int32)), .val (.ref ad14), .val (.int (79 : Int32)), .val (.int (70 : Int32))] [(.int (1 : Int32))])) t_
    refine XS.goto X196.here hx rfl (pc0 := 290) (pc' := 294) rfl (hb hby at_290) (by decide) (by decide) ?_
    exact k_
  obtain ⟨fs197, hr197, hrun197, hended197, hRW197⟩ := X196.leaveW hS (by rw [eh196]; exact hk) (v := some (.int (1 : Int32))) (fun h => by rw [hret] at h; cases h)
  refine ⟨_, _, ?_, hrun197, hended197, _, _, rfl, ?_, hRW197.1, hRW197.2.1, hRW197.2.2.1, hRW197.2.2.2.mono (by decide) (by decide)⟩
  · exact retN X196 hx (t := .boolean) hret (by simp) (hb hby at_294) hr197
  · show Q_rm0 Z p1 cs sf ad0 ad1 ad2 ad3 ad4 ad5 ad6 ad7 ad8 ad9 ad10 ad11 ad12 ad13 ad14 ad15 ad16 ad17 ad18 ad19 ad20 ad21 ad22 ad23 ad24 ad25 ad26 ad27 ad28 ad29 ad30 ad31 ad32 ad33 h0 n0 _ T196.heap _
    rw [eh196]
    exact ⟨rfl, N196, Kc0⟩
set_option maxRecDepth 65536 in
set_option maxHeartbeats 40000000 in
theorem own_sufad15 (l : Launch) (Z : State) (a0 : Array Value) (hw : ∀ d ∈ tables_1, d.before a0 Z = true) (p1 : Int32) (cs : Int32) (sf : Value) (ad0 : Addr) (ad1 : Addr) (ad2 : Addr) (ad3 : Addr) (ad4 : Addr) (ad5 : Addr) (ad6 : Addr) (ad7 : Addr) (ad8 : Addr) (ad9 : Addr) (ad10 : Addr) (ad11 : Addr) (ad12 : Addr) (ad13 : Addr) (ad14 : Addr) (ad15 : Addr) (ad16 : Addr) (ad17 : Addr) (ad18 : Addr) (ad19 : Addr) (ad20 : Addr) (ad21 : Addr) (ad22 : Addr) (ad23 : Addr) (ad24 : Addr) (ad25 : Addr) (ad26 : Addr) (ad27 : Addr) (ad28 : Addr) (ad29 : Addr) (ad30 : Addr) (ad31 : Addr) (ad32 : Addr) (ad33 : Addr) (b1 : Addr) (b104 : Addr) (d104 : Addr) (kk104 : ClassId) (h0 : Heap) (n0 : Nat) (Z0 : n0 ≤ h0.size) {p : Program} {e : Env} {s : State} {m : MethodId} {below : List Frame} {meth : Method} {c : Code} {Tc : State} {Hc : Heap} {locsc : List Loc} {vmc : Vm} {kc0 : Nat} (Xc : Stand p l e room_1 (s.setVm vmc) m #[(.int p1)] below meth c Tc locsc 3 310) (hx : p.tables.exec = Jvm.exec) (hZ : Z.Warmed39 (s.setVm vmc).vm) (hby : c.code = code) (hml : c.maxLocals = 7) (hown : (s.setVm vmc).vm.findClass "com/example/querent/querent/dicom/VrHasLongLengthPinLaw" = some m.cls) (hret : meth.sig.returnType = some .boolean) (hlk : meth.locks = false) (hh : s.heap = h0) (ec : Tc.heap = Hc) (Nc : Fr n0 locsc) (Kc0 : Keep h0 Hc []) (Oc : Old Z n0 Hc) (hS : s.Since vmc kc0) (hk : kc0 ≤ Hc.size) (hSA : ∀ a ∈ Bundle.stringAtoms, a.before a0 Z = true) (zc0 : Sta Z Z.heap "java/lang/String" "COMPACT_STRINGS" "Z" (.int cs)) (zc1 : Sta Z Z.heap "jdk/internal/util/Preconditions" "SIOOBE_FORMATTER" "Ljava/util/function/BiFunction;" sf) (zc2 : Exa Z Z.heap ad15 "com/example/querent/querent/dicom/Vr") (zc3 : Fld Z Z.heap ad15 "java/lang/Enum" "ordinal" "I" (.int (15 : Int32))) (zc4 : Exa Z Hc b104 "java/lang/String") (zc5 : Fld Z Hc b104 "java/lang/String" "coder" "B" (.int (0 : Int32))) (zc6 : Fld Z Hc b104 "java/lang/String" "value" "[B" (.ref d104)) (zc7 : Arv Z Hc d104 kk104 .byte (68 : Int32) own_txt (.int (0 : Int32))) (hcs : ¬ (cs = (0 : Int32))) (hsf : sf.isRef = true) (hn0 : n0 = h0.size) (hcw : Jvm.Lit.compactW.before a0 Z = true) (hlit : Jvm.Lit.constHeld Z "com/example/querent/querent/dicom/VrHasLongLengthPinLaw" 112) :
    ∃ U_ o_, Steps p.tables e below (Tc.setTop (mkF m 254 #[.val (.int p1), .val (.ref b1), .val (.ref b104), .val (.int (15 : Int32)), .val (.ref ad15), .unset, .unset] [])) U_ ∧ U_.status = .running ∧ Ended U_ below o_ ∧ (∃ v_ L_, o_ = .returned v_ ∧ Q_rm0 Z p1 cs sf ad0 ad1 ad2 ad3 ad4 ad5 ad6 ad7 ad8 ad9 ad10 ad11 ad12 ad13 ad14 ad15 ad16 ad17 ad18 ad19 ad20 ad21 ad22 ad23 ad24 ad25 ad26 ad27 ad28 ad29 ad30 ad31 ad32 ad33 h0 n0 v_ U_.heap L_ ∧ ReturnedEndW s o_ U_ L_ room_1.cells room_1.slots) := by
  refine own_go (A := Tc.setTop (mkF m 258 #[.val (.int p1), .val (.ref b1), .val (.ref b104), .val (.int (15 : Int32)), .val (.ref ad15), .unset, .unset] [(.int (30 : Int32)), (.ref b104)])) (fun t_ k_ => ?_) ?_
  · show Steps p.tables e below (Tc.setTop (mkF m 254 #[.val (.int p1), .val (.ref b1), .val (.ref b104), .val (.int (15 : Int32)), .val (.ref ad15), .unset, .unset] [])) t_
    refine XS.aloadN Xc.here hx rfl (hb hby at_254) rfl rfl ?_
    show Steps p.tables e below (Tc.setTop (mkF m 255 #[.val (.int p1), .val (.ref b1), .val (.ref b104), .val (.int (15 : Int32)), .val (.ref ad15), .unset, .unset] [(.ref b104)])) t_
    refine XS.iconst Xc.here hx rfl (hb hby at_255) ?_
    show Steps p.tables e below (Tc.setTop (mkF m 256 #[.val (.int p1), .val (.ref b1), .val (.ref b104), .val (.int (15 : Int32)), .val (.ref ad15), .unset, .unset] [(.int (2 : Int32)), (.ref b104)])) t_
    refine XS.iloadN Xc.here hx rfl (hb hby at_256) rfl ?_
    show Steps p.tables e below (Tc.setTop (mkF m 257 #[.val (.int p1), .val (.ref b1), .val (.ref b104), .val (.int (15 : Int32)), .val (.ref ad15), .unset, .unset] [(.int (15 : Int32)), (.int (2 : Int32)), (.ref b104)])) t_
    refine XS.imul Xc.here hx rfl (hb hby at_257) rfl ?_
    exact k_
  obtain ⟨cq199, kq199, q199a, q199b, q199c⟩ := isOf hZ ec zc4
  obtain ⟨_, _, ⟨T199, L199, k199, n199⟩, -, X199, ⟨Lc199, hQ199, l199, y199, z199⟩, st199⟩ := Xc.virtualBack hx (y := own_y4) (z := own_y4) hown (mvT hZ (own_w hw 81 rfl)) (mvT hZ (own_w hw 82 rfl)) (notFace_of_selects (args := #[]) (mvT hZ (own_w hw 84 rfl))) (mvT hZ (own_w hw 84 rfl)) (mvT hZ (own_w hw 83 rfl)) (by decide) (backOf (W := 0) (rmChAt l Z a0 hw [] b104 (30 : Int32) d104 kk104 (68 : Int32) own_txt (79 : Int32) sf cs Hc n0 (Nat.le_trans Z0 Kc0.1) Oc zc0 hcs zc1 hsf zc4 zc5 zc6 zc7 (by decide : ¬ ((30 : Int32) < (0 : Int32))) (by decide : (30 : Int32) < (68 : Int32)) rfl) hZ (own_w hw 85 rfl) (own_w hw 73 rfl) (by decide) (by decide)) q199a q199c (g := (mkF m 258 #[.val (.int p1), .val (.ref b1), .val (.ref b104), .val (.int (15 : Int32)), .val (.ref ad15), .unset, .unset] [(.int (30 : Int32)), (.ref b104)])) rfl (by rw [hml]; rfl) (Steps.refl _) (argsL := [(.int (30 : Int32))]) (rest := []) (lenOf pd_5 rfl) rfl (by show 2 * 0 + _ ≤ _; exact Nat.le_of_eq rfl) (hb hby at_258) (fun _ _ => ⟨rfl, ec, (by decide : 3 + 0 ≤ _), (by decide : 310 + 0 ≤ _)⟩)
  dsimp only [Pt.U, Pt.locs, Pt.cells, Pt.slots] at X199 l199 y199 z199 st199 hQ199
  subst l199 y199 z199
  obtain ⟨rfl, N199q, eh199⟩ := hQ199
  have N199 := Fr.app Nc N199q
  refine own_via st199 ?_
  refine own_go (A := T199.setTop (mkF m 269 #[.val (.int p1), .val (.ref b1), .val (.ref b104), .val (.int (15 : Int32)), .val (.ref ad15), .val (.int (79 : Int32)), .unset] [(.int (31 : Int32)), (.ref b104)])) (fun t_ k_ => ?_) ?_
  · show Steps p.tables e below (T199.setTop (mkF m 261 #[.val (.int p1), .val (.ref b1), .val (.ref b104), .val (.int (15 : Int32)), .val (.ref ad15), .unset, .unset] [(.int (79 : Int32))])) t_
    refine XS.istore X199.here hx rfl (hb hby at_261) rfl (l' := #[.val (.int p1), .val (.ref b1), .val (.ref b104), .val (.int (15 : Int32)), .val (.ref ad15), .val (.int (79 : Int32)), .unset]) rfl ?_
    show Steps p.tables e below (T199.setTop (mkF m 263 #[.val (.int p1), .val (.ref b1), .val (.ref b104), .val (.int (15 : Int32)), .val (.ref ad15), .val (.int (79 : Int32)), .unset] [])) t_
    refine XS.aloadN X199.here hx rfl (hb hby at_263) rfl rfl ?_
    show Steps p.tables e below (T199.setTop (mkF m 264 #[.val (.int p1), .val (.ref b1), .val (.ref b104), .val (.int (15 : Int32)), .val (.ref ad15), .val (.int (79 : Int32)), .unset] [(.ref b104)])) t_
    refine XS.iconst X199.here hx rfl (hb hby at_264) ?_
    show Steps p.tables e below (T199.setTop (mkF m 265 #[.val (.int p1), .val (.ref b1), .val (.ref b104), .val (.int (15 : Int32)), .val (.ref ad15), .val (.int (79 : Int32)), .unset] [(.int (2 : Int32)), (.ref b104)])) t_
    refine XS.iloadN X199.here hx rfl (hb hby at_265) rfl ?_
    show Steps p.tables e below (T199.setTop (mkF m 266 #[.val (.int p1), .val (.ref b1), .val (.ref b104), .val (.int (15 : Int32)), .val (.ref ad15), .val (.int (79 : Int32)), .unset] [(.int (15 : Int32)), (.int (2 : Int32)), (.ref b104)])) t_
    refine XS.imul X199.here hx rfl (hb hby at_266) rfl ?_
    show Steps p.tables e below (T199.setTop (mkF m 267 #[.val (.int p1), .val (.ref b1), .val (.ref b104), .val (.int (15 : Int32)), .val (.ref ad15), .val (.int (79 : Int32)), .unset] [(.int (30 : Int32)), (.ref b104)])) t_
    refine XS.iconst X199.here hx rfl (hb hby at_267) ?_
    show Steps p.tables e below (T199.setTop (mkF m 268 #[.val (.int p1), .val (.ref b1), .val (.ref b104), .val (.int (15 : Int32)), .val (.ref ad15), .val (.int (79 : Int32)), .unset] [(.int (1 : Int32)), (.int (30 : Int32)), (.ref b104)])) t_
    refine XS.iadd X199.here hx rfl (hb hby at_268) rfl ?_
    exact k_
  obtain ⟨cq200, kq200, q200a, q200b, q200c⟩ := isOf hZ eh199 zc4
  obtain ⟨_, _, ⟨T200, L200, k200, n200⟩, -, X200, ⟨Lc200, hQ200, l200, y200, z200⟩, st200⟩ := X199.virtualBack hx (y := own_y4) (z := own_y4) hown (mvT hZ (own_w hw 81 rfl)) (mvT hZ (own_w hw 82 rfl)) (notFace_of_selects (args := #[]) (mvT hZ (own_w hw 84 rfl))) (mvT hZ (own_w hw 84 rfl)) (mvT hZ (own_w hw 83 rfl)) (by decide) (backOf (W := 0) (rmChAt l Z a0 hw [] b104 (31 : Int32) d104 kk104 (68 : Int32) own_txt (76 : Int32) sf cs Hc n0 (Nat.le_trans Z0 Kc0.1) Oc zc0 hcs zc1 hsf zc4 zc5 zc6 zc7 (by decide : ¬ ((31 : Int32) < (0 : Int32))) (by decide : (31 : Int32) < (68 : Int32)) rfl) hZ (own_w hw 85 rfl) (own_w hw 73 rfl) (by decide) (by decide)) q200a q200c (g := (mkF m 269 #[.val (.int p1), .val (.ref b1), .val (.ref b104), .val (.int (15 : Int32)), .val (.ref ad15), .val (.int (79 : Int32)), .unset] [(.int (31 : Int32)), (.ref b104)])) rfl (by rw [hml]; rfl) (Steps.refl _) (argsL := [(.int (31 : Int32))]) (rest := []) (lenOf pd_5 rfl) rfl (by show 2 * 0 + _ ≤ _; exact Nat.le_of_eq rfl) (hb hby at_269) (fun _ _ => ⟨rfl, eh199, (by decide : 3 + 0 ≤ _), (by decide : 310 + 0 ≤ _)⟩)
  dsimp only [Pt.U, Pt.locs, Pt.cells, Pt.slots] at X200 l200 y200 z200 st200 hQ200
  subst l200 y200 z200
  obtain ⟨rfl, N200q, eh200⟩ := hQ200
  have N200 := Fr.app N199 N200q
  refine own_via st200 ?_
  refine own_go (A := T200.setTop (mkF m 276 #[.val (.int p1), .val (.ref b1), .val (.ref b104), .val (.int (15 : Int32)), .val (.ref ad15), .val (.int (79 : Int32)), .val (.int (76 : Int32))] [(.ref ad15)])) (fun t_ k_ => ?_) ?_
  · show Steps p.tables e below (T200.setTop (mkF m 272 #[.val (.int p1), .val (.ref b1), .val (.ref b104), .val (.int (15 : Int32)), .val (.ref ad15), .val (.int (79 : Int32)), .unset] [(.int (76 : Int32))])) t_
    refine XS.istore X200.here hx rfl (hb hby at_272) rfl (l' := #[.val (.int p1), .val (.ref b1), .val (.ref b104), .val (.int (15 : Int32)), .val (.ref ad15), .val (.int (79 : Int32)), .val (.int (76 : Int32))]) rfl ?_
    show Steps p.tables e below (T200.setTop (mkF m 274 #[.val (.int p1), .val (.ref b1), .val (.ref b104), .val (.int (15 : Int32)), .val (.ref ad15), .val (.int (79 : Int32)), .val (.int (76 : Int32))] [])) t_
    refine XS.aload X200.here hx rfl (hb hby at_274) rfl rfl ?_
    exact k_
  obtain ⟨cq201, kq201, q201a, q201b, q201c⟩ := isOf hZ eh200 (zc2.ext Oc.2)
  obtain ⟨_, _, ⟨T201, L201, k201, n201⟩, -, X201, ⟨Lc201, hQ201, l201, y201, z201⟩, st201⟩ := X200.virtualBack hx (y := own_y7) (z := own_y7) hown (mvT hZ (own_w hw 106 rfl)) (mvT hZ (own_w hw 107 rfl)) (notFace_of_selects (args := #[]) (mvT hZ (own_w hw 109 rfl))) (mvT hZ (own_w hw 109 rfl)) (mvT hZ (own_w hw 108 rfl)) (by decide) (backOf (W := 0) (rmMIn104 l Z a0 hw [] ad15 (15 : Int32) Hc n0 (Nat.le_trans Z0 Kc0.1) Oc zc2 zc3 (by decide) (by decide)) hZ (own_w hw 110 rfl) (own_w hw 3 rfl) (by decide) (by decide)) q201a q201c (g := (mkF m 276 #[.val (.int p1), .val (.ref b1), .val (.ref b104), .val (.int (15 : Int32)), .val (.ref ad15), .val (.int (79 : Int32)), .val (.int (76 : Int32))] [(.ref ad15)])) rfl (by rw [hml]; rfl) (Steps.refl _) (argsL := []) (rest := []) (lenOf pd_2 rfl) rfl (by show 2 * 0 + _ ≤ _; exact Nat.le_of_eq rfl) (hb hby at_276) (fun _ _ => ⟨rfl, eh200, (by decide : 3 + 0 ≤ _), (by decide : 310 + 0 ≤ _)⟩)
  dsimp only [Pt.U, Pt.locs, Pt.cells, Pt.slots] at X201 l201 y201 z201 st201 hQ201
  subst l201 y201 z201
  obtain ⟨rfl, N201q, eh201⟩ := hQ201
  have N201 := Fr.app N200 N201q
  refine own_via st201 ?_
  refine own_go (A := T201.setTop (mkF m 283 #[.val (.int p1), .val (.ref b1), .val (.ref b104), .val (.int (15 : Int32)), .val (.ref ad15), .val (.int (79 : Int32)), .val (.int (76 : Int32))] [(.int (76 : Int32)), (.int (79 : Int32)), (.int (1 : Int32))])) (fun t_ k_ => ?_) ?_
  · show Steps p.tables e below (T201.setTop (mkF m 279 #[.val (.int p1), .val (.ref b1), .val (.ref b104), .val (.int (15 : Int32)), .val (.ref ad15), .val (.int (79 : Int32)), .val (.int (76 : Int32))] [(.int (1 : Int32))])) t_
    refine XS.iload X201.here hx rfl (hb hby at_279) rfl ?_
    show Steps p.tables e below (T201.setTop (mkF m 281 #[.val (.int p1), .val (.ref b1), .val (.ref b104), .val (.int (15 : Int32)), .val (.ref ad15), .val (.int (79 : Int32)), .val (.int (76 : Int32))] [(.int (79 : Int32)), (.int (1 : Int32))])) t_
    refine XS.iload X201.here hx rfl (hb hby at_281) rfl ?_
    exact k_
  obtain ⟨_, _, ⟨T202, L202, k202, n202⟩, -, X202, ⟨Lc202, hQ202, l202, y202, z202⟩, st202⟩ := Jvm.LawKit.callS X201 hx (y := own_y8) hown (mvT hZ (own_w hw 120 rfl)) (mvT hZ (own_w hw 121 rfl)) (mvT hZ (own_w hw 122 rfl)) (mvT hZ (own_w hw 123 rfl)) (by decide) (backOf (W := 1) (rmEO l Z a0 hw [] (76 : Int32) Hc n0 (Nat.le_trans Z0 Kc0.1)) hZ (own_w hw 123 rfl) (own_w hw 122 rfl) (by decide) (by decide)) (g := (mkF m 283 #[.val (.int p1), .val (.ref b1), .val (.ref b104), .val (.int (15 : Int32)), .val (.ref ad15), .val (.int (79 : Int32)), .val (.int (76 : Int32))] [(.int (76 : Int32)), (.int (79 : Int32)), (.int (1 : Int32))])) rfl (by rw [hml]; rfl) (argsL := [(.int (79 : Int32)), (.int (76 : Int32))]) (rest := [(.int (1 : Int32))]) (lenOf pd_6 rfl) rfl (by show 2 * 0 + _ ≤ _; exact Nat.le_of_eq rfl) (hb hby at_283) (fun _ _ => ⟨rfl, eh201, (by decide : 3 + 0 ≤ _), (by decide : 310 + 0 ≤ _)⟩)
  dsimp only [Pt.U, Pt.locs, Pt.cells, Pt.slots] at X202 l202 y202 z202 st202 hQ202
  subst l202 y202 z202
  obtain ⟨rfl, N202q, eh202⟩ := hQ202
  have N202 := Fr.app N201 N202q
  refine own_go st202 ?_
  refine own_go (A := T202.setTop (mkF m 294 #[.val (.int p1), .val (.ref b1), .val (.ref b104), .val (.int (15 : Int32)), .val (.ref ad15), .val (.int (79 : Int32)), .val (.int (76 : Int32))] [(.int (1 : Int32))])) (fun t_ k_ => ?_) ?_
  · show Steps p.tables e below (T202.setTop (mkF m 286 #[.val (.int p1), .val (.ref b1), .val (.ref b104), .val (.int (15 : Int32)), .val (.ref ad15), .val (.int (79 : Int32)), .val (.int (76 : Int32))] [(.int (1 : Int32)), (.int (1 : Int32))])) t_
    refine XS.icmpNo X202.here hx rfl (hb hby at_286) rfl (teq (by decide : (1 : Int32) = (1 : Int32))).2 ?_
    show Steps p.tables e below (T202.setTop (mkF m 289 #[.val (.int p1), .val (.ref b1), .val (.ref b104), .val (.int (15 : Int32)), .val (.ref ad15), .val (.int (79 : Int32)), .val (.int (76 : Int32))] [])) t_
    refine XS.iconst X202.here hx rfl (hb hby at_289) ?_
    show Steps p.tables e below (T202.setTop (mkF m 290 #[.val (.int p1), .val (.ref b1), .val (.ref b104), .val (.int (15 : Int32)), .val (.ref ad15), .val (.int (79 : Int32)), .val (.int (76 : Int32))] [(.int (1 : Int32))])) t_
    refine XS.goto X202.here hx rfl (pc0 := 290) (pc' := 294) rfl (hb hby at_290) (by decide) (by decide) ?_
    exact k_
  obtain ⟨fs203, hr203, hrun203, hended203, hRW203⟩ := X202.leaveW hS (by rw [eh202]; exact hk) (v := some (.int (1 : Int32))) (fun h => by rw [hret] at h; cases h)
  refine ⟨_, _, ?_, hrun203, hended203, _, _, rfl, ?_, hRW203.1, hRW203.2.1, hRW203.2.2.1, hRW203.2.2.2.mono (by decide) (by decide)⟩
  · exact retN X202 hx (t := .boolean) hret (by simp) (hb hby at_294) hr203
  · show Q_rm0 Z p1 cs sf ad0 ad1 ad2 ad3 ad4 ad5 ad6 ad7 ad8 ad9 ad10 ad11 ad12 ad13 ad14 ad15 ad16 ad17 ad18 ad19 ad20 ad21 ad22 ad23 ad24 ad25 ad26 ad27 ad28 ad29 ad30 ad31 ad32 ad33 h0 n0 _ T202.heap _
    rw [eh202]
    exact ⟨rfl, N202, Kc0⟩
set_option maxRecDepth 65536 in
set_option maxHeartbeats 40000000 in
theorem own_sufad16 (l : Launch) (Z : State) (a0 : Array Value) (hw : ∀ d ∈ tables_1, d.before a0 Z = true) (p1 : Int32) (cs : Int32) (sf : Value) (ad0 : Addr) (ad1 : Addr) (ad2 : Addr) (ad3 : Addr) (ad4 : Addr) (ad5 : Addr) (ad6 : Addr) (ad7 : Addr) (ad8 : Addr) (ad9 : Addr) (ad10 : Addr) (ad11 : Addr) (ad12 : Addr) (ad13 : Addr) (ad14 : Addr) (ad15 : Addr) (ad16 : Addr) (ad17 : Addr) (ad18 : Addr) (ad19 : Addr) (ad20 : Addr) (ad21 : Addr) (ad22 : Addr) (ad23 : Addr) (ad24 : Addr) (ad25 : Addr) (ad26 : Addr) (ad27 : Addr) (ad28 : Addr) (ad29 : Addr) (ad30 : Addr) (ad31 : Addr) (ad32 : Addr) (ad33 : Addr) (b1 : Addr) (b104 : Addr) (d104 : Addr) (kk104 : ClassId) (h0 : Heap) (n0 : Nat) (Z0 : n0 ≤ h0.size) {p : Program} {e : Env} {s : State} {m : MethodId} {below : List Frame} {meth : Method} {c : Code} {Tc : State} {Hc : Heap} {locsc : List Loc} {vmc : Vm} {kc0 : Nat} (Xc : Stand p l e room_1 (s.setVm vmc) m #[(.int p1)] below meth c Tc locsc 3 310) (hx : p.tables.exec = Jvm.exec) (hZ : Z.Warmed39 (s.setVm vmc).vm) (hby : c.code = code) (hml : c.maxLocals = 7) (hown : (s.setVm vmc).vm.findClass "com/example/querent/querent/dicom/VrHasLongLengthPinLaw" = some m.cls) (hret : meth.sig.returnType = some .boolean) (hlk : meth.locks = false) (hh : s.heap = h0) (ec : Tc.heap = Hc) (Nc : Fr n0 locsc) (Kc0 : Keep h0 Hc []) (Oc : Old Z n0 Hc) (hS : s.Since vmc kc0) (hk : kc0 ≤ Hc.size) (hSA : ∀ a ∈ Bundle.stringAtoms, a.before a0 Z = true) (zc0 : Sta Z Z.heap "java/lang/String" "COMPACT_STRINGS" "Z" (.int cs)) (zc1 : Sta Z Z.heap "jdk/internal/util/Preconditions" "SIOOBE_FORMATTER" "Ljava/util/function/BiFunction;" sf) (zc2 : Exa Z Z.heap ad16 "com/example/querent/querent/dicom/Vr") (zc3 : Fld Z Z.heap ad16 "java/lang/Enum" "ordinal" "I" (.int (16 : Int32))) (zc4 : Exa Z Hc b104 "java/lang/String") (zc5 : Fld Z Hc b104 "java/lang/String" "coder" "B" (.int (0 : Int32))) (zc6 : Fld Z Hc b104 "java/lang/String" "value" "[B" (.ref d104)) (zc7 : Arv Z Hc d104 kk104 .byte (68 : Int32) own_txt (.int (0 : Int32))) (hcs : ¬ (cs = (0 : Int32))) (hsf : sf.isRef = true) (hn0 : n0 = h0.size) (hcw : Jvm.Lit.compactW.before a0 Z = true) (hlit : Jvm.Lit.constHeld Z "com/example/querent/querent/dicom/VrHasLongLengthPinLaw" 112) :
    ∃ U_ o_, Steps p.tables e below (Tc.setTop (mkF m 254 #[.val (.int p1), .val (.ref b1), .val (.ref b104), .val (.int (16 : Int32)), .val (.ref ad16), .unset, .unset] [])) U_ ∧ U_.status = .running ∧ Ended U_ below o_ ∧ (∃ v_ L_, o_ = .returned v_ ∧ Q_rm0 Z p1 cs sf ad0 ad1 ad2 ad3 ad4 ad5 ad6 ad7 ad8 ad9 ad10 ad11 ad12 ad13 ad14 ad15 ad16 ad17 ad18 ad19 ad20 ad21 ad22 ad23 ad24 ad25 ad26 ad27 ad28 ad29 ad30 ad31 ad32 ad33 h0 n0 v_ U_.heap L_ ∧ ReturnedEndW s o_ U_ L_ room_1.cells room_1.slots) := by
  refine own_go (A := Tc.setTop (mkF m 258 #[.val (.int p1), .val (.ref b1), .val (.ref b104), .val (.int (16 : Int32)), .val (.ref ad16), .unset, .unset] [(.int (32 : Int32)), (.ref b104)])) (fun t_ k_ => ?_) ?_
  · show Steps p.tables e below (Tc.setTop (mkF m 254 #[.val (.int p1), .val (.ref b1), .val (.ref b104), .val (.int (16 : Int32)), .val (.ref ad16), .unset, .unset] [])) t_
    refine XS.aloadN Xc.here hx rfl (hb hby at_254) rfl rfl ?_
    show Steps p.tables e below (Tc.setTop (mkF m 255 #[.val (.int p1), .val (.ref b1), .val (.ref b104), .val (.int (16 : Int32)), .val (.ref ad16), .unset, .unset] [(.ref b104)])) t_
    refine XS.iconst Xc.here hx rfl (hb hby at_255) ?_
    show Steps p.tables e below (Tc.setTop (mkF m 256 #[.val (.int p1), .val (.ref b1), .val (.ref b104), .val (.int (16 : Int32)), .val (.ref ad16), .unset, .unset] [(.int (2 : Int32)), (.ref b104)])) t_
    refine XS.iloadN Xc.here hx rfl (hb hby at_256) rfl ?_
    show Steps p.tables e below (Tc.setTop (mkF m 257 #[.val (.int p1), .val (.ref b1), .val (.ref b104), .val (.int (16 : Int32)), .val (.ref ad16), .unset, .unset] [(.int (16 : Int32)), (.int (2 : Int32)), (.ref b104)])) t_
    refine XS.imul Xc.here hx rfl (hb hby at_257) rfl ?_
    exact k_
  obtain ⟨cq205, kq205, q205a, q205b, q205c⟩ := isOf hZ ec zc4
  obtain ⟨_, _, ⟨T205, L205, k205, n205⟩, -, X205, ⟨Lc205, hQ205, l205, y205, z205⟩, st205⟩ := Xc.virtualBack hx (y := own_y4) (z := own_y4) hown (mvT hZ (own_w hw 81 rfl)) (mvT hZ (own_w hw 82 rfl)) (notFace_of_selects (args := #[]) (mvT hZ (own_w hw 84 rfl))) (mvT hZ (own_w hw 84 rfl)) (mvT hZ (own_w hw 83 rfl)) (by decide) (backOf (W := 0) (rmChAt l Z a0 hw [] b104 (32 : Int32) d104 kk104 (68 : Int32) own_txt (79 : Int32) sf cs Hc n0 (Nat.le_trans Z0 Kc0.1) Oc zc0 hcs zc1 hsf zc4 zc5 zc6 zc7 (by decide : ¬ ((32 : Int32) < (0 : Int32))) (by decide : (32 : Int32) < (68 : Int32)) rfl) hZ (own_w hw 85 rfl) (own_w hw 73 rfl) (by decide) (by decide)) q205a q205c (g := (mkF m 258 #[.val (.int p1), .val (.ref b1), .val (.ref b104), .val (.int (16 : Int32)), .val (.ref ad16), .unset, .unset] [(.int (32 : Int32)), (.ref b104)])) rfl (by rw [hml]; rfl) (Steps.refl _) (argsL := [(.int (32 : Int32))]) (rest := []) (lenOf pd_5 rfl) rfl (by show 2 * 0 + _ ≤ _; exact Nat.le_of_eq rfl) (hb hby at_258) (fun _ _ => ⟨rfl, ec, (by decide : 3 + 0 ≤ _), (by decide : 310 + 0 ≤ _)⟩)
  dsimp only [Pt.U, Pt.locs, Pt.cells, Pt.slots] at X205 l205 y205 z205 st205 hQ205
  subst l205 y205 z205
  obtain ⟨rfl, N205q, eh205⟩ := hQ205
  have N205 := Fr.app Nc N205q
  refine own_via st205 ?_
  refine own_go (A := T205.setTop (mkF m 269 #[.val (.int p1), .val (.ref b1), .val (.ref b104), .val (.int (16 : Int32)), .val (.ref ad16), .val (.int (79 : Int32)), .unset] [(.int (33 : Int32)), (.ref b104)])) (fun t_ k_ => ?_) ?_
  · show Steps p.tables e below (T205.setTop (mkF m 261 #[.val (.int p1), .val (.ref b1), .val (.ref b104), .val (.int (16 : Int32)), .val (.ref ad16), .unset, .unset] [(.int (79 : Int32))])) t_
    refine XS.istore X205.here hx rfl (hb hby at_261) rfl (l' := #[.val (.int p1), .val (.ref b1), .val (.ref b104), .val (.int (16 : Int32)), .val (.ref ad16), .val (.int (79 : Int32)), .unset]) rfl ?_
    show Steps p.tables e below (T205.setTop (mkF m 263 #[.val (.int p1), .val (.ref b1), .val (.ref b104), .val (.int (16 : Int32)), .val (.ref ad16), .val (.int (79 : Int32)), .unset] [])) t_
    refine XS.aloadN X205.here hx rfl (hb hby at_263) rfl rfl ?_
    show Steps p.tables e below (T205.setTop (mkF m 264 #[.val (.int p1), .val (.ref b1), .val (.ref b104), .val (.int (16 : Int32)), .val (.ref ad16), .val (.int (79 : Int32)), .unset] [(.ref b104)])) t_
    refine XS.iconst X205.here hx rfl (hb hby at_264) ?_
    show Steps p.tables e below (T205.setTop (mkF m 265 #[.val (.int p1), .val (.ref b1), .val (.ref b104), .val (.int (16 : Int32)), .val (.ref ad16), .val (.int (79 : Int32)), .unset] [(.int (2 : Int32)), (.ref b104)])) t_
    refine XS.iloadN X205.here hx rfl (hb hby at_265) rfl ?_
    show Steps p.tables e below (T205.setTop (mkF m 266 #[.val (.int p1), .val (.ref b1), .val (.ref b104), .val (.int (16 : Int32)), .val (.ref ad16), .val (.int (79 : Int32)), .unset] [(.int (16 : Int32)), (.int (2 : Int32)), (.ref b104)])) t_
    refine XS.imul X205.here hx rfl (hb hby at_266) rfl ?_
    show Steps p.tables e below (T205.setTop (mkF m 267 #[.val (.int p1), .val (.ref b1), .val (.ref b104), .val (.int (16 : Int32)), .val (.ref ad16), .val (.int (79 : Int32)), .unset] [(.int (32 : Int32)), (.ref b104)])) t_
    refine XS.iconst X205.here hx rfl (hb hby at_267) ?_
    show Steps p.tables e below (T205.setTop (mkF m 268 #[.val (.int p1), .val (.ref b1), .val (.ref b104), .val (.int (16 : Int32)), .val (.ref ad16), .val (.int (79 : Int32)), .unset] [(.int (1 : Int32)), (.int (32 : Int32)), (.ref b104)])) t_
    refine XS.iadd X205.here hx rfl (hb hby at_268) rfl ?_
    exact k_
  obtain ⟨cq206, kq206, q206a, q206b, q206c⟩ := isOf hZ eh205 zc4
  obtain ⟨_, _, ⟨T206, L206, k206, n206⟩, -, X206, ⟨Lc206, hQ206, l206, y206, z206⟩, st206⟩ := X205.virtualBack hx (y := own_y4) (z := own_y4) hown (mvT hZ (own_w hw 81 rfl)) (mvT hZ (own_w hw 82 rfl)) (notFace_of_selects (args := #[]) (mvT hZ (own_w hw 84 rfl))) (mvT hZ (own_w hw 84 rfl)) (mvT hZ (own_w hw 83 rfl)) (by decide) (backOf (W := 0) (rmChAt l Z a0 hw [] b104 (33 : Int32) d104 kk104 (68 : Int32) own_txt (86 : Int32) sf cs Hc n0 (Nat.le_trans Z0 Kc0.1) Oc zc0 hcs zc1 hsf zc4 zc5 zc6 zc7 (by decide : ¬ ((33 : Int32) < (0 : Int32))) (by decide : (33 : Int32) < (68 : Int32)) rfl) hZ (own_w hw 85 rfl) (own_w hw 73 rfl) (by decide) (by decide)) q206a q206c (g := (mkF m 269 #[.val (.int p1), .val (.ref b1), .val (.ref b104), .val (.int (16 : Int32)), .val (.ref ad16), .val (.int (79 : Int32)), .unset] [(.int (33 : Int32)), (.ref b104)])) rfl (by rw [hml]; rfl) (Steps.refl _) (argsL := [(.int (33 : Int32))]) (rest := []) (lenOf pd_5 rfl) rfl (by show 2 * 0 + _ ≤ _; exact Nat.le_of_eq rfl) (hb hby at_269) (fun _ _ => ⟨rfl, eh205, (by decide : 3 + 0 ≤ _), (by decide : 310 + 0 ≤ _)⟩)
  dsimp only [Pt.U, Pt.locs, Pt.cells, Pt.slots] at X206 l206 y206 z206 st206 hQ206
  subst l206 y206 z206
  obtain ⟨rfl, N206q, eh206⟩ := hQ206
  have N206 := Fr.app N205 N206q
  refine own_via st206 ?_
  refine own_go (A := T206.setTop (mkF m 276 #[.val (.int p1), .val (.ref b1), .val (.ref b104), .val (.int (16 : Int32)), .val (.ref ad16), .val (.int (79 : Int32)), .val (.int (86 : Int32))] [(.ref ad16)])) (fun t_ k_ => ?_) ?_
  · show Steps p.tables e below (T206.setTop (mkF m 272 #[.val (.int p1), .val (.ref b1), .val (.ref b104), .val (.int (16 : Int32)), .val (.ref ad16), .val (.int (79 : Int32)), .unset] [(.int (86 : Int32))])) t_
    refine XS.istore X206.here hx rfl (hb hby at_272) rfl (l' := #[.val (.int p1), .val (.ref b1), .val (.ref b104), .val (.int (16 : Int32)), .val (.ref ad16), .val (.int (79 : Int32)), .val (.int (86 : Int32))]) rfl ?_
    show Steps p.tables e below (T206.setTop (mkF m 274 #[.val (.int p1), .val (.ref b1), .val (.ref b104), .val (.int (16 : Int32)), .val (.ref ad16), .val (.int (79 : Int32)), .val (.int (86 : Int32))] [])) t_
    refine XS.aload X206.here hx rfl (hb hby at_274) rfl rfl ?_
    exact k_
  obtain ⟨cq207, kq207, q207a, q207b, q207c⟩ := isOf hZ eh206 (zc2.ext Oc.2)
  obtain ⟨_, _, ⟨T207, L207, k207, n207⟩, -, X207, ⟨Lc207, hQ207, l207, y207, z207⟩, st207⟩ := X206.virtualBack hx (y := own_y7) (z := own_y7) hown (mvT hZ (own_w hw 106 rfl)) (mvT hZ (own_w hw 107 rfl)) (notFace_of_selects (args := #[]) (mvT hZ (own_w hw 109 rfl))) (mvT hZ (own_w hw 109 rfl)) (mvT hZ (own_w hw 108 rfl)) (by decide) (backOf (W := 0) (rmMIn104 l Z a0 hw [] ad16 (16 : Int32) Hc n0 (Nat.le_trans Z0 Kc0.1) Oc zc2 zc3 (by decide) (by decide)) hZ (own_w hw 110 rfl) (own_w hw 3 rfl) (by decide) (by decide)) q207a q207c (g := (mkF m 276 #[.val (.int p1), .val (.ref b1), .val (.ref b104), .val (.int (16 : Int32)), .val (.ref ad16), .val (.int (79 : Int32)), .val (.int (86 : Int32))] [(.ref ad16)])) rfl (by rw [hml]; rfl) (Steps.refl _) (argsL := []) (rest := []) (lenOf pd_2 rfl) rfl (by show 2 * 0 + _ ≤ _; exact Nat.le_of_eq rfl) (hb hby at_276) (fun _ _ => ⟨rfl, eh206, (by decide : 3 + 0 ≤ _), (by decide : 310 + 0 ≤ _)⟩)
  dsimp only [Pt.U, Pt.locs, Pt.cells, Pt.slots] at X207 l207 y207 z207 st207 hQ207
  subst l207 y207 z207
  obtain ⟨rfl, N207q, eh207⟩ := hQ207
  have N207 := Fr.app N206 N207q
  refine own_via st207 ?_
  refine own_go (A := T207.setTop (mkF m 283 #[.val (.int p1), .val (.ref b1), .val (.ref b104), .val (.int (16 : Int32)), .val (.ref ad16), .val (.int (79 : Int32)), .val (.int (86 : Int32))] [(.int (86 : Int32)), (.int (79 : Int32)), (.int (1 : Int32))])) (fun t_ k_ => ?_) ?_
  · show Steps p.tables e below (T207.setTop (mkF m 279 #[.val (.int p1), .val (.ref b1), .val (.ref b104), .val (.int (16 : Int32)), .val (.ref ad16), .val (.int (79 : Int32)), .val (.int (86 : Int32))] [(.int (1 : Int32))])) t_
    refine XS.iload X207.here hx rfl (hb hby at_279) rfl ?_
    show Steps p.tables e below (T207.setTop (mkF m 281 #[.val (.int p1), .val (.ref b1), .val (.ref b104), .val (.int (16 : Int32)), .val (.ref ad16), .val (.int (79 : Int32)), .val (.int (86 : Int32))] [(.int (79 : Int32)), (.int (1 : Int32))])) t_
    refine XS.iload X207.here hx rfl (hb hby at_281) rfl ?_
    exact k_
  obtain ⟨_, _, ⟨T208, L208, k208, n208⟩, -, X208, ⟨Lc208, hQ208, l208, y208, z208⟩, st208⟩ := Jvm.LawKit.callS X207 hx (y := own_y8) hown (mvT hZ (own_w hw 120 rfl)) (mvT hZ (own_w hw 121 rfl)) (mvT hZ (own_w hw 122 rfl)) (mvT hZ (own_w hw 123 rfl)) (by decide) (backOf (W := 1) (rmEO l Z a0 hw [] (86 : Int32) Hc n0 (Nat.le_trans Z0 Kc0.1)) hZ (own_w hw 123 rfl) (own_w hw 122 rfl) (by decide) (by decide)) (g := (mkF m 283 #[.val (.int p1), .val (.ref b1), .val (.ref b104), .val (.int (16 : Int32)), .val (.ref ad16), .val (.int (79 : Int32)), .val (.int (86 : Int32))] [(.int (86 : Int32)), (.int (79 : Int32)), (.int (1 : Int32))])) rfl (by rw [hml]; rfl) (argsL := [(.int (79 : Int32)), (.int (86 : Int32))]) (rest := [(.int (1 : Int32))]) (lenOf pd_6 rfl) rfl (by show 2 * 0 + _ ≤ _; exact Nat.le_of_eq rfl) (hb hby at_283) (fun _ _ => ⟨rfl, eh207, (by decide : 3 + 0 ≤ _), (by decide : 310 + 0 ≤ _)⟩)
  dsimp only [Pt.U, Pt.locs, Pt.cells, Pt.slots] at X208 l208 y208 z208 st208 hQ208
  subst l208 y208 z208
  obtain ⟨rfl, N208q, eh208⟩ := hQ208
  have N208 := Fr.app N207 N208q
  refine own_go st208 ?_
  refine own_go (A := T208.setTop (mkF m 294 #[.val (.int p1), .val (.ref b1), .val (.ref b104), .val (.int (16 : Int32)), .val (.ref ad16), .val (.int (79 : Int32)), .val (.int (86 : Int32))] [(.int (1 : Int32))])) (fun t_ k_ => ?_) ?_
  · show Steps p.tables e below (T208.setTop (mkF m 286 #[.val (.int p1), .val (.ref b1), .val (.ref b104), .val (.int (16 : Int32)), .val (.ref ad16), .val (.int (79 : Int32)), .val (.int (86 : Int32))] [(.int (1 : Int32)), (.int (1 : Int32))])) t_
    refine XS.icmpNo X208.here hx rfl (hb hby at_286) rfl (teq (by decide : (1 : Int32) = (1 : Int32))).2 ?_
    show Steps p.tables e below (T208.setTop (mkF m 289 #[.val (.int p1), .val (.ref b1), .val (.ref b104), .val (.int (16 : Int32)), .val (.ref ad16), .val (.int (79 : Int32)), .val (.int (86 : Int32))] [])) t_
    refine XS.iconst X208.here hx rfl (hb hby at_289) ?_
    show Steps p.tables e below (T208.setTop (mkF m 290 #[.val (.int p1), .val (.ref b1), .val (.ref b104), .val (.int (16 : Int32)), .val (.ref ad16), .val (.int (79 : Int32)), .val (.int (86 : Int32))] [(.int (1 : Int32))])) t_
    refine XS.goto X208.here hx rfl (pc0 := 290) (pc' := 294) rfl (hb hby at_290) (by decide) (by decide) ?_
    exact k_
  obtain ⟨fs209, hr209, hrun209, hended209, hRW209⟩ := X208.leaveW hS (by rw [eh208]; exact hk) (v := some (.int (1 : Int32))) (fun h => by rw [hret] at h; cases h)
  refine ⟨_, _, ?_, hrun209, hended209, _, _, rfl, ?_, hRW209.1, hRW209.2.1, hRW209.2.2.1, hRW209.2.2.2.mono (by decide) (by decide)⟩
  · exact retN X208 hx (t := .boolean) hret (by simp) (hb hby at_294) hr209
  · show Q_rm0 Z p1 cs sf ad0 ad1 ad2 ad3 ad4 ad5 ad6 ad7 ad8 ad9 ad10 ad11 ad12 ad13 ad14 ad15 ad16 ad17 ad18 ad19 ad20 ad21 ad22 ad23 ad24 ad25 ad26 ad27 ad28 ad29 ad30 ad31 ad32 ad33 h0 n0 _ T208.heap _
    rw [eh208]
    exact ⟨rfl, N208, Kc0⟩
set_option maxRecDepth 65536 in
set_option maxHeartbeats 40000000 in
theorem own_sufad17 (l : Launch) (Z : State) (a0 : Array Value) (hw : ∀ d ∈ tables_1, d.before a0 Z = true) (p1 : Int32) (cs : Int32) (sf : Value) (ad0 : Addr) (ad1 : Addr) (ad2 : Addr) (ad3 : Addr) (ad4 : Addr) (ad5 : Addr) (ad6 : Addr) (ad7 : Addr) (ad8 : Addr) (ad9 : Addr) (ad10 : Addr) (ad11 : Addr) (ad12 : Addr) (ad13 : Addr) (ad14 : Addr) (ad15 : Addr) (ad16 : Addr) (ad17 : Addr) (ad18 : Addr) (ad19 : Addr) (ad20 : Addr) (ad21 : Addr) (ad22 : Addr) (ad23 : Addr) (ad24 : Addr) (ad25 : Addr) (ad26 : Addr) (ad27 : Addr) (ad28 : Addr) (ad29 : Addr) (ad30 : Addr) (ad31 : Addr) (ad32 : Addr) (ad33 : Addr) (b1 : Addr) (b104 : Addr) (d104 : Addr) (kk104 : ClassId) (h0 : Heap) (n0 : Nat) (Z0 : n0 ≤ h0.size) {p : Program} {e : Env} {s : State} {m : MethodId} {below : List Frame} {meth : Method} {c : Code} {Tc : State} {Hc : Heap} {locsc : List Loc} {vmc : Vm} {kc0 : Nat} (Xc : Stand p l e room_1 (s.setVm vmc) m #[(.int p1)] below meth c Tc locsc 3 310) (hx : p.tables.exec = Jvm.exec) (hZ : Z.Warmed39 (s.setVm vmc).vm) (hby : c.code = code) (hml : c.maxLocals = 7) (hown : (s.setVm vmc).vm.findClass "com/example/querent/querent/dicom/VrHasLongLengthPinLaw" = some m.cls) (hret : meth.sig.returnType = some .boolean) (hlk : meth.locks = false) (hh : s.heap = h0) (ec : Tc.heap = Hc) (Nc : Fr n0 locsc) (Kc0 : Keep h0 Hc []) (Oc : Old Z n0 Hc) (hS : s.Since vmc kc0) (hk : kc0 ≤ Hc.size) (hSA : ∀ a ∈ Bundle.stringAtoms, a.before a0 Z = true) (zc0 : Sta Z Z.heap "java/lang/String" "COMPACT_STRINGS" "Z" (.int cs)) (zc1 : Sta Z Z.heap "jdk/internal/util/Preconditions" "SIOOBE_FORMATTER" "Ljava/util/function/BiFunction;" sf) (zc2 : Exa Z Z.heap ad17 "com/example/querent/querent/dicom/Vr") (zc3 : Fld Z Z.heap ad17 "java/lang/Enum" "ordinal" "I" (.int (17 : Int32))) (zc4 : Exa Z Hc b104 "java/lang/String") (zc5 : Fld Z Hc b104 "java/lang/String" "coder" "B" (.int (0 : Int32))) (zc6 : Fld Z Hc b104 "java/lang/String" "value" "[B" (.ref d104)) (zc7 : Arv Z Hc d104 kk104 .byte (68 : Int32) own_txt (.int (0 : Int32))) (hcs : ¬ (cs = (0 : Int32))) (hsf : sf.isRef = true) (hn0 : n0 = h0.size) (hcw : Jvm.Lit.compactW.before a0 Z = true) (hlit : Jvm.Lit.constHeld Z "com/example/querent/querent/dicom/VrHasLongLengthPinLaw" 112) :
    ∃ U_ o_, Steps p.tables e below (Tc.setTop (mkF m 254 #[.val (.int p1), .val (.ref b1), .val (.ref b104), .val (.int (17 : Int32)), .val (.ref ad17), .unset, .unset] [])) U_ ∧ U_.status = .running ∧ Ended U_ below o_ ∧ (∃ v_ L_, o_ = .returned v_ ∧ Q_rm0 Z p1 cs sf ad0 ad1 ad2 ad3 ad4 ad5 ad6 ad7 ad8 ad9 ad10 ad11 ad12 ad13 ad14 ad15 ad16 ad17 ad18 ad19 ad20 ad21 ad22 ad23 ad24 ad25 ad26 ad27 ad28 ad29 ad30 ad31 ad32 ad33 h0 n0 v_ U_.heap L_ ∧ ReturnedEndW s o_ U_ L_ room_1.cells room_1.slots) := by
  refine own_go (A := Tc.setTop (mkF m 258 #[.val (.int p1), .val (.ref b1), .val (.ref b104), .val (.int (17 : Int32)), .val (.ref ad17), .unset, .unset] [(.int (34 : Int32)), (.ref b104)])) (fun t_ k_ => ?_) ?_
  · show Steps p.tables e below (Tc.setTop (mkF m 254 #[.val (.int p1), .val (.ref b1), .val (.ref b104), .val (.int (17 : Int32)), .val (.ref ad17), .unset, .unset] [])) t_
    refine XS.aloadN Xc.here hx rfl (hb hby at_254) rfl rfl ?_
    show Steps p.tables e below (Tc.setTop (mkF m 255 #[.val (.int p1), .val (.ref b1), .val (.ref b104), .val (.int (17 : Int32)), .val (.ref ad17), .unset, .unset] [(.ref b104)])) t_
    refine XS.iconst Xc.here hx rfl (hb hby at_255) ?_
    show Steps p.tables e below (Tc.setTop (mkF m 256 #[.val (.int p1), .val (.ref b1), .val (.ref b104), .val (.int (17 : Int32)), .val (.ref ad17), .unset, .unset] [(.int (2 : Int32)), (.ref b104)])) t_
    refine XS.iloadN Xc.here hx rfl (hb hby at_256) rfl ?_
    show Steps p.tables e below (Tc.setTop (mkF m 257 #[.val (.int p1), .val (.ref b1), .val (.ref b104), .val (.int (17 : Int32)), .val (.ref ad17), .unset, .unset] [(.int (17 : Int32)), (.int (2 : Int32)), (.ref b104)])) t_
    refine XS.imul Xc.here hx rfl (hb hby at_257) rfl ?_
    exact k_
  obtain ⟨cq211, kq211, q211a, q211b, q211c⟩ := isOf hZ ec zc4
  obtain ⟨_, _, ⟨T211, L211, k211, n211⟩, -, X211, ⟨Lc211, hQ211, l211, y211, z211⟩, st211⟩ := Xc.virtualBack hx (y := own_y4) (z := own_y4) hown (mvT hZ (own_w hw 81 rfl)) (mvT hZ (own_w hw 82 rfl)) (notFace_of_selects (args := #[]) (mvT hZ (own_w hw 84 rfl))) (mvT hZ (own_w hw 84 rfl)) (mvT hZ (own_w hw 83 rfl)) (by decide) (backOf (W := 0) (rmChAt l Z a0 hw [] b104 (34 : Int32) d104 kk104 (68 : Int32) own_txt (79 : Int32) sf cs Hc n0 (Nat.le_trans Z0 Kc0.1) Oc zc0 hcs zc1 hsf zc4 zc5 zc6 zc7 (by decide : ¬ ((34 : Int32) < (0 : Int32))) (by decide : (34 : Int32) < (68 : Int32)) rfl) hZ (own_w hw 85 rfl) (own_w hw 73 rfl) (by decide) (by decide)) q211a q211c (g := (mkF m 258 #[.val (.int p1), .val (.ref b1), .val (.ref b104), .val (.int (17 : Int32)), .val (.ref ad17), .unset, .unset] [(.int (34 : Int32)), (.ref b104)])) rfl (by rw [hml]; rfl) (Steps.refl _) (argsL := [(.int (34 : Int32))]) (rest := []) (lenOf pd_5 rfl) rfl (by show 2 * 0 + _ ≤ _; exact Nat.le_of_eq rfl) (hb hby at_258) (fun _ _ => ⟨rfl, ec, (by decide : 3 + 0 ≤ _), (by decide : 310 + 0 ≤ _)⟩)
  dsimp only [Pt.U, Pt.locs, Pt.cells, Pt.slots] at X211 l211 y211 z211 st211 hQ211
  subst l211 y211 z211
  obtain ⟨rfl, N211q, eh211⟩ := hQ211
  have N211 := Fr.app Nc N211q
  refine own_via st211 ?_
  refine own_go (A := T211.setTop (mkF m 269 #[.val (.int p1), .val (.ref b1), .val (.ref b104), .val (.int (17 : Int32)), .val (.ref ad17), .val (.int (79 : Int32)), .unset] [(.int (35 : Int32)), (.ref b104)])) (fun t_ k_ => ?_) ?_
  · show Steps p.tables e below (T211.setTop (mkF m 261 #[.val (.int p1), .val (.ref b1), .val (.ref b104), .val (.int (17 : Int32)), .val (.ref ad17), .unset, .unset] [(.int (79 : Int32))])) t_
    refine XS.istore X211.here hx rfl (hb hby at_261) rfl (l' := #[.val (.int p1), .val (.ref b1), .val (.ref b104), .val (.int (17 : Int32)), .val (.ref ad17), .val (.int (79 : Int32)), .unset]) rfl ?_
    show Steps p.tables e below (T211.setTop (mkF m 263 #[.val (.int p1), .val (.ref b1), .val (.ref b104), .val (.int (17 : Int32)), .val (.ref ad17), .val (.int (79 : Int32)), .unset] [])) t_
    refine XS.aloadN X211.here hx rfl (hb hby at_263) rfl rfl ?_
    show Steps p.tables e below (T211.setTop (mkF m 264 #[.val (.int p1), .val (.ref b1), .val (.ref b104), .val (.int (17 : Int32)), .val (.ref ad17), .val (.int (79 : Int32)), .unset] [(.ref b104)])) t_
    refine XS.iconst X211.here hx rfl (hb hby at_264) ?_
    show Steps p.tables e below (T211.setTop (mkF m 265 #[.val (.int p1), .val (.ref b1), .val (.ref b104), .val (.int (17 : Int32)), .val (.ref ad17), .val (.int (79 : Int32)), .unset] [(.int (2 : Int32)), (.ref b104)])) t_
    refine XS.iloadN X211.here hx rfl (hb hby at_265) rfl ?_
    show Steps p.tables e below (T211.setTop (mkF m 266 #[.val (.int p1), .val (.ref b1), .val (.ref b104), .val (.int (17 : Int32)), .val (.ref ad17), .val (.int (79 : Int32)), .unset] [(.int (17 : Int32)), (.int (2 : Int32)), (.ref b104)])) t_
    refine XS.imul X211.here hx rfl (hb hby at_266) rfl ?_
    show Steps p.tables e below (T211.setTop (mkF m 267 #[.val (.int p1), .val (.ref b1), .val (.ref b104), .val (.int (17 : Int32)), .val (.ref ad17), .val (.int (79 : Int32)), .unset] [(.int (34 : Int32)), (.ref b104)])) t_
    refine XS.iconst X211.here hx rfl (hb hby at_267) ?_
    show Steps p.tables e below (T211.setTop (mkF m 268 #[.val (.int p1), .val (.ref b1), .val (.ref b104), .val (.int (17 : Int32)), .val (.ref ad17), .val (.int (79 : Int32)), .unset] [(.int (1 : Int32)), (.int (34 : Int32)), (.ref b104)])) t_
    refine XS.iadd X211.here hx rfl (hb hby at_268) rfl ?_
    exact k_
  obtain ⟨cq212, kq212, q212a, q212b, q212c⟩ := isOf hZ eh211 zc4
  obtain ⟨_, _, ⟨T212, L212, k212, n212⟩, -, X212, ⟨Lc212, hQ212, l212, y212, z212⟩, st212⟩ := X211.virtualBack hx (y := own_y4) (z := own_y4) hown (mvT hZ (own_w hw 81 rfl)) (mvT hZ (own_w hw 82 rfl)) (notFace_of_selects (args := #[]) (mvT hZ (own_w hw 84 rfl))) (mvT hZ (own_w hw 84 rfl)) (mvT hZ (own_w hw 83 rfl)) (by decide) (backOf (W := 0) (rmChAt l Z a0 hw [] b104 (35 : Int32) d104 kk104 (68 : Int32) own_txt (87 : Int32) sf cs Hc n0 (Nat.le_trans Z0 Kc0.1) Oc zc0 hcs zc1 hsf zc4 zc5 zc6 zc7 (by decide : ¬ ((35 : Int32) < (0 : Int32))) (by decide : (35 : Int32) < (68 : Int32)) rfl) hZ (own_w hw 85 rfl) (own_w hw 73 rfl) (by decide) (by decide)) q212a q212c (g := (mkF m 269 #[.val (.int p1), .val (.ref b1), .val (.ref b104), .val (.int (17 : Int32)), .val (.ref ad17), .val (.int (79 : Int32)), .unset] [(.int (35 : Int32)), (.ref b104)])) rfl (by rw [hml]; rfl) (Steps.refl _) (argsL := [(.int (35 : Int32))]) (rest := []) (lenOf pd_5 rfl) rfl (by show 2 * 0 + _ ≤ _; exact Nat.le_of_eq rfl) (hb hby at_269) (fun _ _ => ⟨rfl, eh211, (by decide : 3 + 0 ≤ _), (by decide : 310 + 0 ≤ _)⟩)
  dsimp only [Pt.U, Pt.locs, Pt.cells, Pt.slots] at X212 l212 y212 z212 st212 hQ212
  subst l212 y212 z212
  obtain ⟨rfl, N212q, eh212⟩ := hQ212
  have N212 := Fr.app N211 N212q
  refine own_via st212 ?_
  refine own_go (A := T212.setTop (mkF m 276 #[.val (.int p1), .val (.ref b1), .val (.ref b104), .val (.int (17 : Int32)), .val (.ref ad17), .val (.int (79 : Int32)), .val (.int (87 : Int32))] [(.ref ad17)])) (fun t_ k_ => ?_) ?_
  · show Steps p.tables e below (T212.setTop (mkF m 272 #[.val (.int p1), .val (.ref b1), .val (.ref b104), .val (.int (17 : Int32)), .val (.ref ad17), .val (.int (79 : Int32)), .unset] [(.int (87 : Int32))])) t_
    refine XS.istore X212.here hx rfl (hb hby at_272) rfl (l' := #[.val (.int p1), .val (.ref b1), .val (.ref b104), .val (.int (17 : Int32)), .val (.ref ad17), .val (.int (79 : Int32)), .val (.int (87 : Int32))]) rfl ?_
    show Steps p.tables e below (T212.setTop (mkF m 274 #[.val (.int p1), .val (.ref b1), .val (.ref b104), .val (.int (17 : Int32)), .val (.ref ad17), .val (.int (79 : Int32)), .val (.int (87 : Int32))] [])) t_
    refine XS.aload X212.here hx rfl (hb hby at_274) rfl rfl ?_
    exact k_
  obtain ⟨cq213, kq213, q213a, q213b, q213c⟩ := isOf hZ eh212 (zc2.ext Oc.2)
  obtain ⟨_, _, ⟨T213, L213, k213, n213⟩, -, X213, ⟨Lc213, hQ213, l213, y213, z213⟩, st213⟩ := X212.virtualBack hx (y := own_y7) (z := own_y7) hown (mvT hZ (own_w hw 106 rfl)) (mvT hZ (own_w hw 107 rfl)) (notFace_of_selects (args := #[]) (mvT hZ (own_w hw 109 rfl))) (mvT hZ (own_w hw 109 rfl)) (mvT hZ (own_w hw 108 rfl)) (by decide) (backOf (W := 0) (rmMIn104 l Z a0 hw [] ad17 (17 : Int32) Hc n0 (Nat.le_trans Z0 Kc0.1) Oc zc2 zc3 (by decide) (by decide)) hZ (own_w hw 110 rfl) (own_w hw 3 rfl) (by decide) (by decide)) q213a q213c (g := (mkF m 276 #[.val (.int p1), .val (.ref b1), .val (.ref b104), .val (.int (17 : Int32)), .val (.ref ad17), .val (.int (79 : Int32)), .val (.int (87 : Int32))] [(.ref ad17)])) rfl (by rw [hml]; rfl) (Steps.refl _) (argsL := []) (rest := []) (lenOf pd_2 rfl) rfl (by show 2 * 0 + _ ≤ _; exact Nat.le_of_eq rfl) (hb hby at_276) (fun _ _ => ⟨rfl, eh212, (by decide : 3 + 0 ≤ _), (by decide : 310 + 0 ≤ _)⟩)
  dsimp only [Pt.U, Pt.locs, Pt.cells, Pt.slots] at X213 l213 y213 z213 st213 hQ213
  subst l213 y213 z213
  obtain ⟨rfl, N213q, eh213⟩ := hQ213
  have N213 := Fr.app N212 N213q
  refine own_via st213 ?_
  refine own_go (A := T213.setTop (mkF m 283 #[.val (.int p1), .val (.ref b1), .val (.ref b104), .val (.int (17 : Int32)), .val (.ref ad17), .val (.int (79 : Int32)), .val (.int (87 : Int32))] [(.int (87 : Int32)), (.int (79 : Int32)), (.int (1 : Int32))])) (fun t_ k_ => ?_) ?_
  · show Steps p.tables e below (T213.setTop (mkF m 279 #[.val (.int p1), .val (.ref b1), .val (.ref b104), .val (.int (17 : Int32)), .val (.ref ad17), .val (.int (79 : Int32)), .val (.int (87 : Int32))] [(.int (1 : Int32))])) t_
    refine XS.iload X213.here hx rfl (hb hby at_279) rfl ?_
    show Steps p.tables e below (T213.setTop (mkF m 281 #[.val (.int p1), .val (.ref b1), .val (.ref b104), .val (.int (17 : Int32)), .val (.ref ad17), .val (.int (79 : Int32)), .val (.int (87 : Int32))] [(.int (79 : Int32)), (.int (1 : Int32))])) t_
    refine XS.iload X213.here hx rfl (hb hby at_281) rfl ?_
    exact k_
  obtain ⟨_, _, ⟨T214, L214, k214, n214⟩, -, X214, ⟨Lc214, hQ214, l214, y214, z214⟩, st214⟩ := Jvm.LawKit.callS X213 hx (y := own_y8) hown (mvT hZ (own_w hw 120 rfl)) (mvT hZ (own_w hw 121 rfl)) (mvT hZ (own_w hw 122 rfl)) (mvT hZ (own_w hw 123 rfl)) (by decide) (backOf (W := 1) (rmEO l Z a0 hw [] (87 : Int32) Hc n0 (Nat.le_trans Z0 Kc0.1)) hZ (own_w hw 123 rfl) (own_w hw 122 rfl) (by decide) (by decide)) (g := (mkF m 283 #[.val (.int p1), .val (.ref b1), .val (.ref b104), .val (.int (17 : Int32)), .val (.ref ad17), .val (.int (79 : Int32)), .val (.int (87 : Int32))] [(.int (87 : Int32)), (.int (79 : Int32)), (.int (1 : Int32))])) rfl (by rw [hml]; rfl) (argsL := [(.int (79 : Int32)), (.int (87 : Int32))]) (rest := [(.int (1 : Int32))]) (lenOf pd_6 rfl) rfl (by show 2 * 0 + _ ≤ _; exact Nat.le_of_eq rfl) (hb hby at_283) (fun _ _ => ⟨rfl, eh213, (by decide : 3 + 0 ≤ _), (by decide : 310 + 0 ≤ _)⟩)
  dsimp only [Pt.U, Pt.locs, Pt.cells, Pt.slots] at X214 l214 y214 z214 st214 hQ214
  subst l214 y214 z214
  obtain ⟨rfl, N214q, eh214⟩ := hQ214
  have N214 := Fr.app N213 N214q
  refine own_go st214 ?_
  refine own_go (A := T214.setTop (mkF m 294 #[.val (.int p1), .val (.ref b1), .val (.ref b104), .val (.int (17 : Int32)), .val (.ref ad17), .val (.int (79 : Int32)), .val (.int (87 : Int32))] [(.int (1 : Int32))])) (fun t_ k_ => ?_) ?_
  · show Steps p.tables e below (T214.setTop (mkF m 286 #[.val (.int p1), .val (.ref b1), .val (.ref b104), .val (.int (17 : Int32)), .val (.ref ad17), .val (.int (79 : Int32)), .val (.int (87 : Int32))] [(.int (1 : Int32)), (.int (1 : Int32))])) t_
    refine XS.icmpNo X214.here hx rfl (hb hby at_286) rfl (teq (by decide : (1 : Int32) = (1 : Int32))).2 ?_
    show Steps p.tables e below (T214.setTop (mkF m 289 #[.val (.int p1), .val (.ref b1), .val (.ref b104), .val (.int (17 : Int32)), .val (.ref ad17), .val (.int (79 : Int32)), .val (.int (87 : Int32))] [])) t_
    refine XS.iconst X214.here hx rfl (hb hby at_289) ?_
    show Steps p.tables e below (T214.setTop (mkF m 290 #[.val (.int p1), .val (.ref b1), .val (.ref b104), .val (.int (17 : Int32)), .val (.ref ad17), .val (.int (79 : Int32)), .val (.int (87 : Int32))] [(.int (1 : Int32))])) t_
    refine XS.goto X214.here hx rfl (pc0 := 290) (pc' := 294) rfl (hb hby at_290) (by decide) (by decide) ?_
    exact k_
  obtain ⟨fs215, hr215, hrun215, hended215, hRW215⟩ := X214.leaveW hS (by rw [eh214]; exact hk) (v := some (.int (1 : Int32))) (fun h => by rw [hret] at h; cases h)
  refine ⟨_, _, ?_, hrun215, hended215, _, _, rfl, ?_, hRW215.1, hRW215.2.1, hRW215.2.2.1, hRW215.2.2.2.mono (by decide) (by decide)⟩
  · exact retN X214 hx (t := .boolean) hret (by simp) (hb hby at_294) hr215
  · show Q_rm0 Z p1 cs sf ad0 ad1 ad2 ad3 ad4 ad5 ad6 ad7 ad8 ad9 ad10 ad11 ad12 ad13 ad14 ad15 ad16 ad17 ad18 ad19 ad20 ad21 ad22 ad23 ad24 ad25 ad26 ad27 ad28 ad29 ad30 ad31 ad32 ad33 h0 n0 _ T214.heap _
    rw [eh214]
    exact ⟨rfl, N214, Kc0⟩
set_option maxRecDepth 65536 in
set_option maxHeartbeats 40000000 in
theorem own_sufad18 (l : Launch) (Z : State) (a0 : Array Value) (hw : ∀ d ∈ tables_1, d.before a0 Z = true) (p1 : Int32) (cs : Int32) (sf : Value) (ad0 : Addr) (ad1 : Addr) (ad2 : Addr) (ad3 : Addr) (ad4 : Addr) (ad5 : Addr) (ad6 : Addr) (ad7 : Addr) (ad8 : Addr) (ad9 : Addr) (ad10 : Addr) (ad11 : Addr) (ad12 : Addr) (ad13 : Addr) (ad14 : Addr) (ad15 : Addr) (ad16 : Addr) (ad17 : Addr) (ad18 : Addr) (ad19 : Addr) (ad20 : Addr) (ad21 : Addr) (ad22 : Addr) (ad23 : Addr) (ad24 : Addr) (ad25 : Addr) (ad26 : Addr) (ad27 : Addr) (ad28 : Addr) (ad29 : Addr) (ad30 : Addr) (ad31 : Addr) (ad32 : Addr) (ad33 : Addr) (b1 : Addr) (b104 : Addr) (d104 : Addr) (kk104 : ClassId) (h0 : Heap) (n0 : Nat) (Z0 : n0 ≤ h0.size) {p : Program} {e : Env} {s : State} {m : MethodId} {below : List Frame} {meth : Method} {c : Code} {Tc : State} {Hc : Heap} {locsc : List Loc} {vmc : Vm} {kc0 : Nat} (Xc : Stand p l e room_1 (s.setVm vmc) m #[(.int p1)] below meth c Tc locsc 3 310) (hx : p.tables.exec = Jvm.exec) (hZ : Z.Warmed39 (s.setVm vmc).vm) (hby : c.code = code) (hml : c.maxLocals = 7) (hown : (s.setVm vmc).vm.findClass "com/example/querent/querent/dicom/VrHasLongLengthPinLaw" = some m.cls) (hret : meth.sig.returnType = some .boolean) (hlk : meth.locks = false) (hh : s.heap = h0) (ec : Tc.heap = Hc) (Nc : Fr n0 locsc) (Kc0 : Keep h0 Hc []) (Oc : Old Z n0 Hc) (hS : s.Since vmc kc0) (hk : kc0 ≤ Hc.size) (hSA : ∀ a ∈ Bundle.stringAtoms, a.before a0 Z = true) (zc0 : Sta Z Z.heap "java/lang/String" "COMPACT_STRINGS" "Z" (.int cs)) (zc1 : Sta Z Z.heap "jdk/internal/util/Preconditions" "SIOOBE_FORMATTER" "Ljava/util/function/BiFunction;" sf) (zc2 : Exa Z Z.heap ad18 "com/example/querent/querent/dicom/Vr") (zc3 : Fld Z Z.heap ad18 "java/lang/Enum" "ordinal" "I" (.int (18 : Int32))) (zc4 : Exa Z Hc b104 "java/lang/String") (zc5 : Fld Z Hc b104 "java/lang/String" "coder" "B" (.int (0 : Int32))) (zc6 : Fld Z Hc b104 "java/lang/String" "value" "[B" (.ref d104)) (zc7 : Arv Z Hc d104 kk104 .byte (68 : Int32) own_txt (.int (0 : Int32))) (hcs : ¬ (cs = (0 : Int32))) (hsf : sf.isRef = true) (hn0 : n0 = h0.size) (hcw : Jvm.Lit.compactW.before a0 Z = true) (hlit : Jvm.Lit.constHeld Z "com/example/querent/querent/dicom/VrHasLongLengthPinLaw" 112) :
    ∃ U_ o_, Steps p.tables e below (Tc.setTop (mkF m 254 #[.val (.int p1), .val (.ref b1), .val (.ref b104), .val (.int (18 : Int32)), .val (.ref ad18), .unset, .unset] [])) U_ ∧ U_.status = .running ∧ Ended U_ below o_ ∧ (∃ v_ L_, o_ = .returned v_ ∧ Q_rm0 Z p1 cs sf ad0 ad1 ad2 ad3 ad4 ad5 ad6 ad7 ad8 ad9 ad10 ad11 ad12 ad13 ad14 ad15 ad16 ad17 ad18 ad19 ad20 ad21 ad22 ad23 ad24 ad25 ad26 ad27 ad28 ad29 ad30 ad31 ad32 ad33 h0 n0 v_ U_.heap L_ ∧ ReturnedEndW s o_ U_ L_ room_1.cells room_1.slots) := by
  refine own_go (A := Tc.setTop (mkF m 258 #[.val (.int p1), .val (.ref b1), .val (.ref b104), .val (.int (18 : Int32)), .val (.ref ad18), .unset, .unset] [(.int (36 : Int32)), (.ref b104)])) (fun t_ k_ => ?_) ?_
  · show Steps p.tables e below (Tc.setTop (mkF m 254 #[.val (.int p1), .val (.ref b1), .val (.ref b104), .val (.int (18 : Int32)), .val (.ref ad18), .unset, .unset] [])) t_
    refine XS.aloadN Xc.here hx rfl (hb hby at_254) rfl rfl ?_
    show Steps p.tables e below (Tc.setTop (mkF m 255 #[.val (.int p1), .val (.ref b1), .val (.ref b104), .val (.int (18 : Int32)), .val (.ref ad18), .unset, .unset] [(.ref b104)])) t_
    refine XS.iconst Xc.here hx rfl (hb hby at_255) ?_
    show Steps p.tables e below (Tc.setTop (mkF m 256 #[.val (.int p1), .val (.ref b1), .val (.ref b104), .val (.int (18 : Int32)), .val (.ref ad18), .unset, .unset] [(.int (2 : Int32)), (.ref b104)])) t_
    refine XS.iloadN Xc.here hx rfl (hb hby at_256) rfl ?_
    show Steps p.tables e below (Tc.setTop (mkF m 257 #[.val (.int p1), .val (.ref b1), .val (.ref b104), .val (.int (18 : Int32)), .val (.ref ad18), .unset, .unset] [(.int (18 : Int32)), (.int (2 : Int32)), (.ref b104)])) t_
    refine XS.imul Xc.here hx rfl (hb hby at_257) rfl ?_
    exact k_
  obtain ⟨cq217, kq217, q217a, q217b, q217c⟩ := isOf hZ ec zc4
  obtain ⟨_, _, ⟨T217, L217, k217, n217⟩, -, X217, ⟨Lc217, hQ217, l217, y217, z217⟩, st217⟩ := Xc.virtualBack hx (y := own_y4) (z := own_y4) hown (mvT hZ (own_w hw 81 rfl)) (mvT hZ (own_w hw 82 rfl)) (notFace_of_selects (args := #[]) (mvT hZ (own_w hw 84 rfl))) (mvT hZ (own_w hw 84 rfl)) (mvT hZ (own_w hw 83 rfl)) (by decide) (backOf (W := 0) (rmChAt l Z a0 hw [] b104 (36 : Int32) d104 kk104 (68 : Int32) own_txt (80 : Int32) sf cs Hc n0 (Nat.le_trans Z0 Kc0.1) Oc zc0 hcs zc1 hsf zc4 zc5 zc6 zc7 (by decide : ¬ ((36 : Int32) < (0 : Int32))) (by decide : (36 : Int32) < (68 : Int32)) rfl) hZ (own_w hw 85 rfl) (own_w hw 73 rfl) (by decide) (by decide)) q217a q217c (g := (mkF m 258 #[.val (.int p1), .val (.ref b1), .val (.ref b104), .val (.int (18 : Int32)), .val (.ref ad18), .unset, .unset] [(.int (36 : Int32)), (.ref b104)])) rfl (by rw [hml]; rfl) (Steps.refl _) (argsL := [(.int (36 : Int32))]) (rest := []) (lenOf pd_5 rfl) rfl (by show 2 * 0 + _ ≤ _; exact Nat.le_of_eq rfl) (hb hby at_258) (fun _ _ => ⟨rfl, ec, (by decide : 3 + 0 ≤ _), (by decide : 310 + 0 ≤ _)⟩)
  dsimp only [Pt.U, Pt.locs, Pt.cells, Pt.slots] at X217 l217 y217 z217 st217 hQ217
  subst l217 y217 z217
  obtain ⟨rfl, N217q, eh217⟩ := hQ217
  have N217 := Fr.app Nc N217q
  refine own_via st217 ?_
  refine own_go (A := T217.setTop (mkF m 269 #[.val (.int p1), .val (.ref b1), .val (.ref b104), .val (.int (18 : Int32)), .val (.ref ad18), .val (.int (80 : Int32)), .unset] [(.int (37 : Int32)), (.ref b104)])) (fun t_ k_ => ?_) ?_
  · show Steps p.tables e below (T217.setTop (mkF m 261 #[.val (.int p1), .val (.ref b1), .val (.ref b104), .val (.int (18 : Int32)), .val (.ref ad18), .unset, .unset] [(.int (80 : Int32))])) t_
    refine XS.istore X217.here hx rfl (hb hby at_261) rfl (l' := #[.val (.int p1), .val (.ref b1), .val (.ref b104), .val (.int (18 : Int32)), .val (.ref ad18), .val (.int (80 : Int32)), .unset]) rfl ?_
    show Steps p.tables e below (T217.setTop (mkF m 263 #[.val (.int p1), .val (.ref b1), .val (.ref b104), .val (.int (18 : Int32)), .val (.ref ad18), .val (.int (80 : Int32)), .unset] [])) t_
    refine XS.aloadN X217.here hx rfl (hb hby at_263) rfl rfl ?_
    show Steps p.tables e below (T217.setTop (mkF m 264 #[.val (.int p1), .val (.ref b1), .val (.ref b104), .val (.int (18 : Int32)), .val (.ref ad18), .val (.int (80 : Int32)), .unset] [(.ref b104)])) t_
    refine XS.iconst X217.here hx rfl (hb hby at_264) ?_
    show Steps p.tables e below (T217.setTop (mkF m 265 #[.val (.int p1), .val (.ref b1), .val (.ref b104), .val (.int (18 : Int32)), .val (.ref ad18), .val (.int (80 : Int32)), .unset] [(.int (2 : Int32)), (.ref b104)])) t_
    refine XS.iloadN X217.here hx rfl (hb hby at_265) rfl ?_
    show Steps p.tables e below (T217.setTop (mkF m 266 #[.val (.int p1), .val (.ref b1), .val (.ref b104), .val (.int (18 : Int32)), .val (.ref ad18), .val (.int (80 : Int32)), .unset] [(.int (18 : Int32)), (.int (2 : Int32)), (.ref b104)])) t_
    refine XS.imul X217.here hx rfl (hb hby at_266) rfl ?_
    show Steps p.tables e below (T217.setTop (mkF m 267 #[.val (.int p1), .val (.ref b1), .val (.ref b104), .val (.int (18 : Int32)), .val (.ref ad18), .val (.int (80 : Int32)), .unset] [(.int (36 : Int32)), (.ref b104)])) t_
    refine XS.iconst X217.here hx rfl (hb hby at_267) ?_
    show Steps p.tables e below (T217.setTop (mkF m 268 #[.val (.int p1), .val (.ref b1), .val (.ref b104), .val (.int (18 : Int32)), .val (.ref ad18), .val (.int (80 : Int32)), .unset] [(.int (1 : Int32)), (.int (36 : Int32)), (.ref b104)])) t_
    refine XS.iadd X217.here hx rfl (hb hby at_268) rfl ?_
    exact k_
  obtain ⟨cq218, kq218, q218a, q218b, q218c⟩ := isOf hZ eh217 zc4
  obtain ⟨_, _, ⟨T218, L218, k218, n218⟩, -, X218, ⟨Lc218, hQ218, l218, y218, z218⟩, st218⟩ := X217.virtualBack hx (y := own_y4) (z := own_y4) hown (mvT hZ (own_w hw 81 rfl)) (mvT hZ (own_w hw 82 rfl)) (notFace_of_selects (args := #[]) (mvT hZ (own_w hw 84 rfl))) (mvT hZ (own_w hw 84 rfl)) (mvT hZ (own_w hw 83 rfl)) (by decide) (backOf (W := 0) (rmChAt l Z a0 hw [] b104 (37 : Int32) d104 kk104 (68 : Int32) own_txt (78 : Int32) sf cs Hc n0 (Nat.le_trans Z0 Kc0.1) Oc zc0 hcs zc1 hsf zc4 zc5 zc6 zc7 (by decide : ¬ ((37 : Int32) < (0 : Int32))) (by decide : (37 : Int32) < (68 : Int32)) rfl) hZ (own_w hw 85 rfl) (own_w hw 73 rfl) (by decide) (by decide)) q218a q218c (g := (mkF m 269 #[.val (.int p1), .val (.ref b1), .val (.ref b104), .val (.int (18 : Int32)), .val (.ref ad18), .val (.int (80 : Int32)), .unset] [(.int (37 : Int32)), (.ref b104)])) rfl (by rw [hml]; rfl) (Steps.refl _) (argsL := [(.int (37 : Int32))]) (rest := []) (lenOf pd_5 rfl) rfl (by show 2 * 0 + _ ≤ _; exact Nat.le_of_eq rfl) (hb hby at_269) (fun _ _ => ⟨rfl, eh217, (by decide : 3 + 0 ≤ _), (by decide : 310 + 0 ≤ _)⟩)
  dsimp only [Pt.U, Pt.locs, Pt.cells, Pt.slots] at X218 l218 y218 z218 st218 hQ218
  subst l218 y218 z218
  obtain ⟨rfl, N218q, eh218⟩ := hQ218
  have N218 := Fr.app N217 N218q
  refine own_via st218 ?_
  refine own_go (A := T218.setTop (mkF m 276 #[.val (.int p1), .val (.ref b1), .val (.ref b104), .val (.int (18 : Int32)), .val (.ref ad18), .val (.int (80 : Int32)), .val (.int (78 : Int32))] [(.ref ad18)])) (fun t_ k_ => ?_) ?_
  · show Steps p.tables e below (T218.setTop (mkF m 272 #[.val (.int p1), .val (.ref b1), .val (.ref b104), .val (.int (18 : Int32)), .val (.ref ad18), .val (.int (80 : Int32)), .unset] [(.int (78 : Int32))])) t_
    refine XS.istore X218.here hx rfl (hb hby at_272) rfl (l' := #[.val (.int p1), .val (.ref b1), .val (.ref b104), .val (.int (18 : Int32)), .val (.ref ad18), .val (.int (80 : Int32)), .val (.int (78 : Int32))]) rfl ?_
    show Steps p.tables e below (T218.setTop (mkF m 274 #[.val (.int p1), .val (.ref b1), .val (.ref b104), .val (.int (18 : Int32)), .val (.ref ad18), .val (.int (80 : Int32)), .val (.int (78 : Int32))] [])) t_
    refine XS.aload X218.here hx rfl (hb hby at_274) rfl rfl ?_
    exact k_
  obtain ⟨cq219, kq219, q219a, q219b, q219c⟩ := isOf hZ eh218 (zc2.ext Oc.2)
  obtain ⟨_, _, ⟨T219, L219, k219, n219⟩, -, X219, ⟨Lc219, hQ219, l219, y219, z219⟩, st219⟩ := X218.virtualBack hx (y := own_y7) (z := own_y7) hown (mvT hZ (own_w hw 106 rfl)) (mvT hZ (own_w hw 107 rfl)) (notFace_of_selects (args := #[]) (mvT hZ (own_w hw 109 rfl))) (mvT hZ (own_w hw 109 rfl)) (mvT hZ (own_w hw 108 rfl)) (by decide) (backOf (W := 0) (rmMIn108 l Z a0 hw [] ad18 (18 : Int32) Hc n0 (Nat.le_trans Z0 Kc0.1) Oc zc2 zc3 (by decide) (by decide)) hZ (own_w hw 110 rfl) (own_w hw 3 rfl) (by decide) (by decide)) q219a q219c (g := (mkF m 276 #[.val (.int p1), .val (.ref b1), .val (.ref b104), .val (.int (18 : Int32)), .val (.ref ad18), .val (.int (80 : Int32)), .val (.int (78 : Int32))] [(.ref ad18)])) rfl (by rw [hml]; rfl) (Steps.refl _) (argsL := []) (rest := []) (lenOf pd_2 rfl) rfl (by show 2 * 0 + _ ≤ _; exact Nat.le_of_eq rfl) (hb hby at_276) (fun _ _ => ⟨rfl, eh218, (by decide : 3 + 0 ≤ _), (by decide : 310 + 0 ≤ _)⟩)
  dsimp only [Pt.U, Pt.locs, Pt.cells, Pt.slots] at X219 l219 y219 z219 st219 hQ219
  subst l219 y219 z219
  obtain ⟨rfl, N219q, eh219⟩ := hQ219
  have N219 := Fr.app N218 N219q
  refine own_via st219 ?_
  refine own_go (A := T219.setTop (mkF m 283 #[.val (.int p1), .val (.ref b1), .val (.ref b104), .val (.int (18 : Int32)), .val (.ref ad18), .val (.int (80 : Int32)), .val (.int (78 : Int32))] [(.int (78 : Int32)), (.int (80 : Int32)), (.int (0 : Int32))])) (fun t_ k_ => ?_) ?_
  · show Steps p.tables e below (T219.setTop (mkF m 279 #[.val (.int p1), .val (.ref b1), .val (.ref b104), .val (.int (18 : Int32)), .val (.ref ad18), .val (.int (80 : Int32)), .val (.int (78 : Int32))] [(.int (0 : Int32))])) t_
    refine XS.iload X219.here hx rfl (hb hby at_279) rfl ?_
    show Steps p.tables e below (T219.setTop (mkF m 281 #[.val (.int p1), .val (.ref b1), .val (.ref b104), .val (.int (18 : Int32)), .val (.ref ad18), .val (.int (80 : Int32)), .val (.int (78 : Int32))] [(.int (80 : Int32)), (.int (0 : Int32))])) t_
    refine XS.iload X219.here hx rfl (hb hby at_281) rfl ?_
    exact k_
  obtain ⟨_, _, ⟨T220, L220, k220, n220⟩, -, X220, ⟨Lc220, hQ220, l220, y220, z220⟩, st220⟩ := Jvm.LawKit.callS X219 hx (y := own_y8) hown (mvT hZ (own_w hw 120 rfl)) (mvT hZ (own_w hw 121 rfl)) (mvT hZ (own_w hw 122 rfl)) (mvT hZ (own_w hw 123 rfl)) (by decide) (backOf (W := 1) (rmEX l Z a0 hw [] (80 : Int32) (78 : Int32) Hc n0 (Nat.le_trans Z0 Kc0.1) (by decide : ¬ ((80 : Int32) = (79 : Int32))) (by decide : ¬ ((80 : Int32) = (83 : Int32))) (by decide : ¬ ((80 : Int32) = (85 : Int32)))) hZ (own_w hw 123 rfl) (own_w hw 122 rfl) (by decide) (by decide)) (g := (mkF m 283 #[.val (.int p1), .val (.ref b1), .val (.ref b104), .val (.int (18 : Int32)), .val (.ref ad18), .val (.int (80 : Int32)), .val (.int (78 : Int32))] [(.int (78 : Int32)), (.int (80 : Int32)), (.int (0 : Int32))])) rfl (by rw [hml]; rfl) (argsL := [(.int (80 : Int32)), (.int (78 : Int32))]) (rest := [(.int (0 : Int32))]) (lenOf pd_6 rfl) rfl (by show 2 * 0 + _ ≤ _; exact Nat.le_of_eq rfl) (hb hby at_283) (fun _ _ => ⟨rfl, eh219, (by decide : 3 + 0 ≤ _), (by decide : 310 + 0 ≤ _)⟩)
  dsimp only [Pt.U, Pt.locs, Pt.cells, Pt.slots] at X220 l220 y220 z220 st220 hQ220
  subst l220 y220 z220
  obtain ⟨rfl, N220q, eh220⟩ := hQ220
  have N220 := Fr.app N219 N220q
  refine own_go st220 ?_
  refine own_go (A := T220.setTop (mkF m 294 #[.val (.int p1), .val (.ref b1), .val (.ref b104), .val (.int (18 : Int32)), .val (.ref ad18), .val (.int (80 : Int32)), .val (.int (78 : Int32))] [(.int (1 : Int32))])) (fun t_ k_ => ?_) ?_
  · show Steps p.tables e below (T220.setTop (mkF m 286 #[.val (.int p1), .val (.ref b1), .val (.ref b104), .val (.int (18 : Int32)), .val (.ref ad18), .val (.int (80 : Int32)), .val (.int (78 : Int32))] [(.int (0 : Int32)), (.int (0 : Int32))])) t_
    refine XS.icmpNo X220.here hx rfl (hb hby at_286) rfl (teq (by decide : (0 : Int32) = (0 : Int32))).2 ?_
    show Steps p.tables e below (T220.setTop (mkF m 289 #[.val (.int p1), .val (.ref b1), .val (.ref b104), .val (.int (18 : Int32)), .val (.ref ad18), .val (.int (80 : Int32)), .val (.int (78 : Int32))] [])) t_
    refine XS.iconst X220.here hx rfl (hb hby at_289) ?_
    show Steps p.tables e below (T220.setTop (mkF m 290 #[.val (.int p1), .val (.ref b1), .val (.ref b104), .val (.int (18 : Int32)), .val (.ref ad18), .val (.int (80 : Int32)), .val (.int (78 : Int32))] [(.int (1 : Int32))])) t_
    refine XS.goto X220.here hx rfl (pc0 := 290) (pc' := 294) rfl (hb hby at_290) (by decide) (by decide) ?_
    exact k_
  obtain ⟨fs221, hr221, hrun221, hended221, hRW221⟩ := X220.leaveW hS (by rw [eh220]; exact hk) (v := some (.int (1 : Int32))) (fun h => by rw [hret] at h; cases h)
  refine ⟨_, _, ?_, hrun221, hended221, _, _, rfl, ?_, hRW221.1, hRW221.2.1, hRW221.2.2.1, hRW221.2.2.2.mono (by decide) (by decide)⟩
  · exact retN X220 hx (t := .boolean) hret (by simp) (hb hby at_294) hr221
  · show Q_rm0 Z p1 cs sf ad0 ad1 ad2 ad3 ad4 ad5 ad6 ad7 ad8 ad9 ad10 ad11 ad12 ad13 ad14 ad15 ad16 ad17 ad18 ad19 ad20 ad21 ad22 ad23 ad24 ad25 ad26 ad27 ad28 ad29 ad30 ad31 ad32 ad33 h0 n0 _ T220.heap _
    rw [eh220]
    exact ⟨rfl, N220, Kc0⟩
set_option maxRecDepth 65536 in
set_option maxHeartbeats 40000000 in
theorem own_sufad19 (l : Launch) (Z : State) (a0 : Array Value) (hw : ∀ d ∈ tables_1, d.before a0 Z = true) (p1 : Int32) (cs : Int32) (sf : Value) (ad0 : Addr) (ad1 : Addr) (ad2 : Addr) (ad3 : Addr) (ad4 : Addr) (ad5 : Addr) (ad6 : Addr) (ad7 : Addr) (ad8 : Addr) (ad9 : Addr) (ad10 : Addr) (ad11 : Addr) (ad12 : Addr) (ad13 : Addr) (ad14 : Addr) (ad15 : Addr) (ad16 : Addr) (ad17 : Addr) (ad18 : Addr) (ad19 : Addr) (ad20 : Addr) (ad21 : Addr) (ad22 : Addr) (ad23 : Addr) (ad24 : Addr) (ad25 : Addr) (ad26 : Addr) (ad27 : Addr) (ad28 : Addr) (ad29 : Addr) (ad30 : Addr) (ad31 : Addr) (ad32 : Addr) (ad33 : Addr) (b1 : Addr) (b104 : Addr) (d104 : Addr) (kk104 : ClassId) (h0 : Heap) (n0 : Nat) (Z0 : n0 ≤ h0.size) {p : Program} {e : Env} {s : State} {m : MethodId} {below : List Frame} {meth : Method} {c : Code} {Tc : State} {Hc : Heap} {locsc : List Loc} {vmc : Vm} {kc0 : Nat} (Xc : Stand p l e room_1 (s.setVm vmc) m #[(.int p1)] below meth c Tc locsc 3 310) (hx : p.tables.exec = Jvm.exec) (hZ : Z.Warmed39 (s.setVm vmc).vm) (hby : c.code = code) (hml : c.maxLocals = 7) (hown : (s.setVm vmc).vm.findClass "com/example/querent/querent/dicom/VrHasLongLengthPinLaw" = some m.cls) (hret : meth.sig.returnType = some .boolean) (hlk : meth.locks = false) (hh : s.heap = h0) (ec : Tc.heap = Hc) (Nc : Fr n0 locsc) (Kc0 : Keep h0 Hc []) (Oc : Old Z n0 Hc) (hS : s.Since vmc kc0) (hk : kc0 ≤ Hc.size) (hSA : ∀ a ∈ Bundle.stringAtoms, a.before a0 Z = true) (zc0 : Sta Z Z.heap "java/lang/String" "COMPACT_STRINGS" "Z" (.int cs)) (zc1 : Sta Z Z.heap "jdk/internal/util/Preconditions" "SIOOBE_FORMATTER" "Ljava/util/function/BiFunction;" sf) (zc2 : Exa Z Z.heap ad19 "com/example/querent/querent/dicom/Vr") (zc3 : Fld Z Z.heap ad19 "java/lang/Enum" "ordinal" "I" (.int (19 : Int32))) (zc4 : Exa Z Hc b104 "java/lang/String") (zc5 : Fld Z Hc b104 "java/lang/String" "coder" "B" (.int (0 : Int32))) (zc6 : Fld Z Hc b104 "java/lang/String" "value" "[B" (.ref d104)) (zc7 : Arv Z Hc d104 kk104 .byte (68 : Int32) own_txt (.int (0 : Int32))) (hcs : ¬ (cs = (0 : Int32))) (hsf : sf.isRef = true) (hn0 : n0 = h0.size) (hcw : Jvm.Lit.compactW.before a0 Z = true) (hlit : Jvm.Lit.constHeld Z "com/example/querent/querent/dicom/VrHasLongLengthPinLaw" 112) :
    ∃ U_ o_, Steps p.tables e below (Tc.setTop (mkF m 254 #[.val (.int p1), .val (.ref b1), .val (.ref b104), .val (.int (19 : Int32)), .val (.ref ad19), .unset, .unset] [])) U_ ∧ U_.status = .running ∧ Ended U_ below o_ ∧ (∃ v_ L_, o_ = .returned v_ ∧ Q_rm0 Z p1 cs sf ad0 ad1 ad2 ad3 ad4 ad5 ad6 ad7 ad8 ad9 ad10 ad11 ad12 ad13 ad14 ad15 ad16 ad17 ad18 ad19 ad20 ad21 ad22 ad23 ad24 ad25 ad26 ad27 ad28 ad29 ad30 ad31 ad32 ad33 h0 n0 v_ U_.heap L_ ∧ ReturnedEndW s o_ U_ L_ room_1.cells room_1.slots) := by
  refine own_go (A := Tc.setTop (mkF m 258 #[.val (.int p1), .val (.ref b1), .val (.ref b104), .val (.int (19 : Int32)), .val (.ref ad19), .unset, .unset] [(.int (38 : Int32)), (.ref b104)])) (fun t_ k_ => ?_) ?_
  · show Steps p.tables e below (Tc.setTop (mkF m 254 #[.val (.int p1), .val (.ref b1), .val (.ref b104), .val (.int (19 : Int32)), .val (.ref ad19), .unset, .unset] [])) t_
    refine XS.aloadN Xc.here hx rfl (hb hby at_254) rfl rfl ?_
    show Steps p.tables e below (Tc.setTop (mkF m 255 #[.val (.int p1), .val (.ref b1), .val (.ref b104), .val (.int (19 : Int32)), .val (.ref ad19), .unset, .unset] [(.ref b104)])) t_
    refine XS.iconst Xc.here hx rfl (hb hby at_255) ?_
    show Steps p.tables e below (Tc.setTop (mkF m 256 #[.val (.int p1), .val (.ref b1), .val (.ref b104), .val (.int (19 : Int32)), .val (.ref ad19), .unset, .unset] [(.int (2 : Int32)), (.ref b104)])) t_
    refine XS.iloadN Xc.here hx rfl (hb hby at_256) rfl ?_
    show Steps p.tables e below (Tc.setTop (mkF m 257 #[.val (.int p1), .val (.ref b1), .val (.ref b104), .val (.int (19 : Int32)), .val (.ref ad19), .unset, .unset] [(.int (19 : Int32)), (.int (2 : Int32)), (.ref b104)])) t_
    refine XS.imul Xc.here hx rfl (hb hby at_257) rfl ?_
    exact k_
  obtain ⟨cq223, kq223, q223a, q223b, q223c⟩ := isOf hZ ec zc4
  obtain ⟨_, _, ⟨T223, L223, k223, n223⟩, -, X223, ⟨Lc223, hQ223, l223, y223, z223⟩, st223⟩ := Xc.virtualBack hx (y := own_y4) (z := own_y4) hown (mvT hZ (own_w hw 81 rfl)) (mvT hZ (own_w hw 82 rfl)) (notFace_of_selects (args := #[]) (mvT hZ (own_w hw 84 rfl))) (mvT hZ (own_w hw 84 rfl)) (mvT hZ (own_w hw 83 rfl)) (by decide) (backOf (W := 0) (rmChAt l Z a0 hw [] b104 (38 : Int32) d104 kk104 (68 : Int32) own_txt (83 : Int32) sf cs Hc n0 (Nat.le_trans Z0 Kc0.1) Oc zc0 hcs zc1 hsf zc4 zc5 zc6 zc7 (by decide : ¬ ((38 : Int32) < (0 : Int32))) (by decide : (38 : Int32) < (68 : Int32)) rfl) hZ (own_w hw 85 rfl) (own_w hw 73 rfl) (by decide) (by decide)) q223a q223c (g := (mkF m 258 #[.val (.int p1), .val (.ref b1), .val (.ref b104), .val (.int (19 : Int32)), .val (.ref ad19), .unset, .unset] [(.int (38 : Int32)), (.ref b104)])) rfl (by rw [hml]; rfl) (Steps.refl _) (argsL := [(.int (38 : Int32))]) (rest := []) (lenOf pd_5 rfl) rfl (by show 2 * 0 + _ ≤ _; exact Nat.le_of_eq rfl) (hb hby at_258) (fun _ _ => ⟨rfl, ec, (by decide : 3 + 0 ≤ _), (by decide : 310 + 0 ≤ _)⟩)
  dsimp only [Pt.U, Pt.locs, Pt.cells, Pt.slots] at X223 l223 y223 z223 st223 hQ223
  subst l223 y223 z223
  obtain ⟨rfl, N223q, eh223⟩ := hQ223
  have N223 := Fr.app Nc N223q
  refine own_via st223 ?_
  refine own_go (A := T223.setTop (mkF m 269 #[.val (.int p1), .val (.ref b1), .val (.ref b104), .val (.int (19 : Int32)), .val (.ref ad19), .val (.int (83 : Int32)), .unset] [(.int (39 : Int32)), (.ref b104)])) (fun t_ k_ => ?_) ?_
  · show Steps p.tables e below (T223.setTop (mkF m 261 #[.val (.int p1), .val (.ref b1), .val (.ref b104), .val (.int (19 : Int32)), .val (.ref ad19), .unset, .unset] [(.int (83 : Int32))])) t_
    refine XS.istore X223.here hx rfl (hb hby at_261) rfl (l' := #[.val (.int p1), .val (.ref b1), .val (.ref b104), .val (.int (19 : Int32)), .val (.ref ad19), .val (.int (83 : Int32)), .unset]) rfl ?_
    show Steps p.tables e below (T223.setTop (mkF m 263 #[.val (.int p1), .val (.ref b1), .val (.ref b104), .val (.int (19 : Int32)), .val (.ref ad19), .val (.int (83 : Int32)), .unset] [])) t_
    refine XS.aloadN X223.here hx rfl (hb hby at_263) rfl rfl ?_
    show Steps p.tables e below (T223.setTop (mkF m 264 #[.val (.int p1), .val (.ref b1), .val (.ref b104), .val (.int (19 : Int32)), .val (.ref ad19), .val (.int (83 : Int32)), .unset] [(.ref b104)])) t_
    refine XS.iconst X223.here hx rfl (hb hby at_264) ?_
    show Steps p.tables e below (T223.setTop (mkF m 265 #[.val (.int p1), .val (.ref b1), .val (.ref b104), .val (.int (19 : Int32)), .val (.ref ad19), .val (.int (83 : Int32)), .unset] [(.int (2 : Int32)), (.ref b104)])) t_
    refine XS.iloadN X223.here hx rfl (hb hby at_265) rfl ?_
    show Steps p.tables e below (T223.setTop (mkF m 266 #[.val (.int p1), .val (.ref b1), .val (.ref b104), .val (.int (19 : Int32)), .val (.ref ad19), .val (.int (83 : Int32)), .unset] [(.int (19 : Int32)), (.int (2 : Int32)), (.ref b104)])) t_
    refine XS.imul X223.here hx rfl (hb hby at_266) rfl ?_
    show Steps p.tables e below (T223.setTop (mkF m 267 #[.val (.int p1), .val (.ref b1), .val (.ref b104), .val (.int (19 : Int32)), .val (.ref ad19), .val (.int (83 : Int32)), .unset] [(.int (38 : Int32)), (.ref b104)])) t_
    refine XS.iconst X223.here hx rfl (hb hby at_267) ?_
    show Steps p.tables e below (T223.setTop (mkF m 268 #[.val (.int p1), .val (.ref b1), .val (.ref b104), .val (.int (19 : Int32)), .val (.ref ad19), .val (.int (83 : Int32)), .unset] [(.int (1 : Int32)), (.int (38 : Int32)), (.ref b104)])) t_
    refine XS.iadd X223.here hx rfl (hb hby at_268) rfl ?_
    exact k_
  obtain ⟨cq224, kq224, q224a, q224b, q224c⟩ := isOf hZ eh223 zc4
  obtain ⟨_, _, ⟨T224, L224, k224, n224⟩, -, X224, ⟨Lc224, hQ224, l224, y224, z224⟩, st224⟩ := X223.virtualBack hx (y := own_y4) (z := own_y4) hown (mvT hZ (own_w hw 81 rfl)) (mvT hZ (own_w hw 82 rfl)) (notFace_of_selects (args := #[]) (mvT hZ (own_w hw 84 rfl))) (mvT hZ (own_w hw 84 rfl)) (mvT hZ (own_w hw 83 rfl)) (by decide) (backOf (W := 0) (rmChAt l Z a0 hw [] b104 (39 : Int32) d104 kk104 (68 : Int32) own_txt (72 : Int32) sf cs Hc n0 (Nat.le_trans Z0 Kc0.1) Oc zc0 hcs zc1 hsf zc4 zc5 zc6 zc7 (by decide : ¬ ((39 : Int32) < (0 : Int32))) (by decide : (39 : Int32) < (68 : Int32)) rfl) hZ (own_w hw 85 rfl) (own_w hw 73 rfl) (by decide) (by decide)) q224a q224c (g := (mkF m 269 #[.val (.int p1), .val (.ref b1), .val (.ref b104), .val (.int (19 : Int32)), .val (.ref ad19), .val (.int (83 : Int32)), .unset] [(.int (39 : Int32)), (.ref b104)])) rfl (by rw [hml]; rfl) (Steps.refl _) (argsL := [(.int (39 : Int32))]) (rest := []) (lenOf pd_5 rfl) rfl (by show 2 * 0 + _ ≤ _; exact Nat.le_of_eq rfl) (hb hby at_269) (fun _ _ => ⟨rfl, eh223, (by decide : 3 + 0 ≤ _), (by decide : 310 + 0 ≤ _)⟩)
  dsimp only [Pt.U, Pt.locs, Pt.cells, Pt.slots] at X224 l224 y224 z224 st224 hQ224
  subst l224 y224 z224
  obtain ⟨rfl, N224q, eh224⟩ := hQ224
  have N224 := Fr.app N223 N224q
  refine own_via st224 ?_
  refine own_go (A := T224.setTop (mkF m 276 #[.val (.int p1), .val (.ref b1), .val (.ref b104), .val (.int (19 : Int32)), .val (.ref ad19), .val (.int (83 : Int32)), .val (.int (72 : Int32))] [(.ref ad19)])) (fun t_ k_ => ?_) ?_
  · show Steps p.tables e below (T224.setTop (mkF m 272 #[.val (.int p1), .val (.ref b1), .val (.ref b104), .val (.int (19 : Int32)), .val (.ref ad19), .val (.int (83 : Int32)), .unset] [(.int (72 : Int32))])) t_
    refine XS.istore X224.here hx rfl (hb hby at_272) rfl (l' := #[.val (.int p1), .val (.ref b1), .val (.ref b104), .val (.int (19 : Int32)), .val (.ref ad19), .val (.int (83 : Int32)), .val (.int (72 : Int32))]) rfl ?_
    show Steps p.tables e below (T224.setTop (mkF m 274 #[.val (.int p1), .val (.ref b1), .val (.ref b104), .val (.int (19 : Int32)), .val (.ref ad19), .val (.int (83 : Int32)), .val (.int (72 : Int32))] [])) t_
    refine XS.aload X224.here hx rfl (hb hby at_274) rfl rfl ?_
    exact k_
  obtain ⟨cq225, kq225, q225a, q225b, q225c⟩ := isOf hZ eh224 (zc2.ext Oc.2)
  obtain ⟨_, _, ⟨T225, L225, k225, n225⟩, -, X225, ⟨Lc225, hQ225, l225, y225, z225⟩, st225⟩ := X224.virtualBack hx (y := own_y7) (z := own_y7) hown (mvT hZ (own_w hw 106 rfl)) (mvT hZ (own_w hw 107 rfl)) (notFace_of_selects (args := #[]) (mvT hZ (own_w hw 109 rfl))) (mvT hZ (own_w hw 109 rfl)) (mvT hZ (own_w hw 108 rfl)) (by decide) (backOf (W := 0) (rmMIn108 l Z a0 hw [] ad19 (19 : Int32) Hc n0 (Nat.le_trans Z0 Kc0.1) Oc zc2 zc3 (by decide) (by decide)) hZ (own_w hw 110 rfl) (own_w hw 3 rfl) (by decide) (by decide)) q225a q225c (g := (mkF m 276 #[.val (.int p1), .val (.ref b1), .val (.ref b104), .val (.int (19 : Int32)), .val (.ref ad19), .val (.int (83 : Int32)), .val (.int (72 : Int32))] [(.ref ad19)])) rfl (by rw [hml]; rfl) (Steps.refl _) (argsL := []) (rest := []) (lenOf pd_2 rfl) rfl (by show 2 * 0 + _ ≤ _; exact Nat.le_of_eq rfl) (hb hby at_276) (fun _ _ => ⟨rfl, eh224, (by decide : 3 + 0 ≤ _), (by decide : 310 + 0 ≤ _)⟩)
  dsimp only [Pt.U, Pt.locs, Pt.cells, Pt.slots] at X225 l225 y225 z225 st225 hQ225
  subst l225 y225 z225
  obtain ⟨rfl, N225q, eh225⟩ := hQ225
  have N225 := Fr.app N224 N225q
  refine own_via st225 ?_
  refine own_go (A := T225.setTop (mkF m 283 #[.val (.int p1), .val (.ref b1), .val (.ref b104), .val (.int (19 : Int32)), .val (.ref ad19), .val (.int (83 : Int32)), .val (.int (72 : Int32))] [(.int (72 : Int32)), (.int (83 : Int32)), (.int (0 : Int32))])) (fun t_ k_ => ?_) ?_
  · show Steps p.tables e below (T225.setTop (mkF m 279 #[.val (.int p1), .val (.ref b1), .val (.ref b104), .val (.int (19 : Int32)), .val (.ref ad19), .val (.int (83 : Int32)), .val (.int (72 : Int32))] [(.int (0 : Int32))])) t_
    refine XS.iload X225.here hx rfl (hb hby at_279) rfl ?_
    show Steps p.tables e below (T225.setTop (mkF m 281 #[.val (.int p1), .val (.ref b1), .val (.ref b104), .val (.int (19 : Int32)), .val (.ref ad19), .val (.int (83 : Int32)), .val (.int (72 : Int32))] [(.int (83 : Int32)), (.int (0 : Int32))])) t_
    refine XS.iload X225.here hx rfl (hb hby at_281) rfl ?_
    exact k_
  obtain ⟨_, _, ⟨T226, L226, k226, n226⟩, -, X226, ⟨Lc226, hQ226, l226, y226, z226⟩, st226⟩ := Jvm.LawKit.callS X225 hx (y := own_y8) hown (mvT hZ (own_w hw 120 rfl)) (mvT hZ (own_w hw 121 rfl)) (mvT hZ (own_w hw 122 rfl)) (mvT hZ (own_w hw 123 rfl)) (by decide) (backOf (W := 1) (rmES l Z a0 hw [] (72 : Int32) Hc n0 (Nat.le_trans Z0 Kc0.1) (by decide : ¬ ((72 : Int32) = (81 : Int32))) (by decide : ¬ ((72 : Int32) = (86 : Int32)))) hZ (own_w hw 123 rfl) (own_w hw 122 rfl) (by decide) (by decide)) (g := (mkF m 283 #[.val (.int p1), .val (.ref b1), .val (.ref b104), .val (.int (19 : Int32)), .val (.ref ad19), .val (.int (83 : Int32)), .val (.int (72 : Int32))] [(.int (72 : Int32)), (.int (83 : Int32)), (.int (0 : Int32))])) rfl (by rw [hml]; rfl) (argsL := [(.int (83 : Int32)), (.int (72 : Int32))]) (rest := [(.int (0 : Int32))]) (lenOf pd_6 rfl) rfl (by show 2 * 0 + _ ≤ _; exact Nat.le_of_eq rfl) (hb hby at_283) (fun _ _ => ⟨rfl, eh225, (by decide : 3 + 0 ≤ _), (by decide : 310 + 0 ≤ _)⟩)
  dsimp only [Pt.U, Pt.locs, Pt.cells, Pt.slots] at X226 l226 y226 z226 st226 hQ226
  subst l226 y226 z226
  obtain ⟨rfl, N226q, eh226⟩ := hQ226
  have N226 := Fr.app N225 N226q
  refine own_go st226 ?_
  refine own_go (A := T226.setTop (mkF m 294 #[.val (.int p1), .val (.ref b1), .val (.ref b104), .val (.int (19 : Int32)), .val (.ref ad19), .val (.int (83 : Int32)), .val (.int (72 : Int32))] [(.int (1 : Int32))])) (fun t_ k_ => ?_) ?_
  · show Steps p.tables e below (T226.setTop (mkF m 286 #[.val (.int p1), .val (.ref b1), .val (.ref b104), .val (.int (19 : Int32)), .val (.ref ad19), .val (.int (83 : Int32)), .val (.int (72 : Int32))] [(.int (0 : Int32)), (.int (0 : Int32))])) t_
    refine XS.icmpNo X226.here hx rfl (hb hby at_286) rfl (teq (by decide : (0 : Int32) = (0 : Int32))).2 ?_
    show Steps p.tables e below (T226.setTop (mkF m 289 #[.val (.int p1), .val (.ref b1), .val (.ref b104), .val (.int (19 : Int32)), .val (.ref ad19), .val (.int (83 : Int32)), .val (.int (72 : Int32))] [])) t_
    refine XS.iconst X226.here hx rfl (hb hby at_289) ?_
    show Steps p.tables e below (T226.setTop (mkF m 290 #[.val (.int p1), .val (.ref b1), .val (.ref b104), .val (.int (19 : Int32)), .val (.ref ad19), .val (.int (83 : Int32)), .val (.int (72 : Int32))] [(.int (1 : Int32))])) t_
    refine XS.goto X226.here hx rfl (pc0 := 290) (pc' := 294) rfl (hb hby at_290) (by decide) (by decide) ?_
    exact k_
  obtain ⟨fs227, hr227, hrun227, hended227, hRW227⟩ := X226.leaveW hS (by rw [eh226]; exact hk) (v := some (.int (1 : Int32))) (fun h => by rw [hret] at h; cases h)
  refine ⟨_, _, ?_, hrun227, hended227, _, _, rfl, ?_, hRW227.1, hRW227.2.1, hRW227.2.2.1, hRW227.2.2.2.mono (by decide) (by decide)⟩
  · exact retN X226 hx (t := .boolean) hret (by simp) (hb hby at_294) hr227
  · show Q_rm0 Z p1 cs sf ad0 ad1 ad2 ad3 ad4 ad5 ad6 ad7 ad8 ad9 ad10 ad11 ad12 ad13 ad14 ad15 ad16 ad17 ad18 ad19 ad20 ad21 ad22 ad23 ad24 ad25 ad26 ad27 ad28 ad29 ad30 ad31 ad32 ad33 h0 n0 _ T226.heap _
    rw [eh226]
    exact ⟨rfl, N226, Kc0⟩
set_option maxRecDepth 65536 in
set_option maxHeartbeats 40000000 in
theorem own_sufad20 (l : Launch) (Z : State) (a0 : Array Value) (hw : ∀ d ∈ tables_1, d.before a0 Z = true) (p1 : Int32) (cs : Int32) (sf : Value) (ad0 : Addr) (ad1 : Addr) (ad2 : Addr) (ad3 : Addr) (ad4 : Addr) (ad5 : Addr) (ad6 : Addr) (ad7 : Addr) (ad8 : Addr) (ad9 : Addr) (ad10 : Addr) (ad11 : Addr) (ad12 : Addr) (ad13 : Addr) (ad14 : Addr) (ad15 : Addr) (ad16 : Addr) (ad17 : Addr) (ad18 : Addr) (ad19 : Addr) (ad20 : Addr) (ad21 : Addr) (ad22 : Addr) (ad23 : Addr) (ad24 : Addr) (ad25 : Addr) (ad26 : Addr) (ad27 : Addr) (ad28 : Addr) (ad29 : Addr) (ad30 : Addr) (ad31 : Addr) (ad32 : Addr) (ad33 : Addr) (b1 : Addr) (b104 : Addr) (d104 : Addr) (kk104 : ClassId) (h0 : Heap) (n0 : Nat) (Z0 : n0 ≤ h0.size) {p : Program} {e : Env} {s : State} {m : MethodId} {below : List Frame} {meth : Method} {c : Code} {Tc : State} {Hc : Heap} {locsc : List Loc} {vmc : Vm} {kc0 : Nat} (Xc : Stand p l e room_1 (s.setVm vmc) m #[(.int p1)] below meth c Tc locsc 3 310) (hx : p.tables.exec = Jvm.exec) (hZ : Z.Warmed39 (s.setVm vmc).vm) (hby : c.code = code) (hml : c.maxLocals = 7) (hown : (s.setVm vmc).vm.findClass "com/example/querent/querent/dicom/VrHasLongLengthPinLaw" = some m.cls) (hret : meth.sig.returnType = some .boolean) (hlk : meth.locks = false) (hh : s.heap = h0) (ec : Tc.heap = Hc) (Nc : Fr n0 locsc) (Kc0 : Keep h0 Hc []) (Oc : Old Z n0 Hc) (hS : s.Since vmc kc0) (hk : kc0 ≤ Hc.size) (hSA : ∀ a ∈ Bundle.stringAtoms, a.before a0 Z = true) (zc0 : Sta Z Z.heap "java/lang/String" "COMPACT_STRINGS" "Z" (.int cs)) (zc1 : Sta Z Z.heap "jdk/internal/util/Preconditions" "SIOOBE_FORMATTER" "Ljava/util/function/BiFunction;" sf) (zc2 : Exa Z Z.heap ad20 "com/example/querent/querent/dicom/Vr") (zc3 : Fld Z Z.heap ad20 "java/lang/Enum" "ordinal" "I" (.int (20 : Int32))) (zc4 : Exa Z Hc b104 "java/lang/String") (zc5 : Fld Z Hc b104 "java/lang/String" "coder" "B" (.int (0 : Int32))) (zc6 : Fld Z Hc b104 "java/lang/String" "value" "[B" (.ref d104)) (zc7 : Arv Z Hc d104 kk104 .byte (68 : Int32) own_txt (.int (0 : Int32))) (hcs : ¬ (cs = (0 : Int32))) (hsf : sf.isRef = true) (hn0 : n0 = h0.size) (hcw : Jvm.Lit.compactW.before a0 Z = true) (hlit : Jvm.Lit.constHeld Z "com/example/querent/querent/dicom/VrHasLongLengthPinLaw" 112) :
    ∃ U_ o_, Steps p.tables e below (Tc.setTop (mkF m 254 #[.val (.int p1), .val (.ref b1), .val (.ref b104), .val (.int (20 : Int32)), .val (.ref ad20), .unset, .unset] [])) U_ ∧ U_.status = .running ∧ Ended U_ below o_ ∧ (∃ v_ L_, o_ = .returned v_ ∧ Q_rm0 Z p1 cs sf ad0 ad1 ad2 ad3 ad4 ad5 ad6 ad7 ad8 ad9 ad10 ad11 ad12 ad13 ad14 ad15 ad16 ad17 ad18 ad19 ad20 ad21 ad22 ad23 ad24 ad25 ad26 ad27 ad28 ad29 ad30 ad31 ad32 ad33 h0 n0 v_ U_.heap L_ ∧ ReturnedEndW s o_ U_ L_ room_1.cells room_1.slots) := by
  refine own_go (A := Tc.setTop (mkF m 258 #[.val (.int p1), .val (.ref b1), .val (.ref b104), .val (.int (20 : Int32)), .val (.ref ad20), .unset, .unset] [(.int (40 : Int32)), (.ref b104)])) (fun t_ k_ => ?_) ?_
  · show Steps p.tables e below (Tc.setTop (mkF m 254 #[.val (.int p1), .val (.ref b1), .val (.ref b104), .val (.int (20 : Int32)), .val (.ref ad20), .unset, .unset] [])) t_
    refine XS.aloadN Xc.here hx rfl (hb hby at_254) rfl rfl ?_
    show Steps p.tables e below (Tc.setTop (mkF m 255 #[.val (.int p1), .val (.ref b1), .val (.ref b104), .val (.int (20 : Int32)), .val (.ref ad20), .unset, .unset] [(.ref b104)])) t_
    refine XS.iconst Xc.here hx rfl (hb hby at_255) ?_
    show Steps p.tables e below (Tc.setTop (mkF m 256 #[.val (.int p1), .val (.ref b1), .val (.ref b104), .val (.int (20 : Int32)), .val (.ref ad20), .unset, .unset] [(.int (2 : Int32)), (.ref b104)])) t_
    refine XS.iloadN Xc.here hx rfl (hb hby at_256) rfl ?_
    show Steps p.tables e below (Tc.setTop (mkF m 257 #[.val (.int p1), .val (.ref b1), .val (.ref b104), .val (.int (20 : Int32)), .val (.ref ad20), .unset, .unset] [(.int (20 : Int32)), (.int (2 : Int32)), (.ref b104)])) t_
    refine XS.imul Xc.here hx rfl (hb hby at_257) rfl ?_
    exact k_
  obtain ⟨cq229, kq229, q229a, q229b, q229c⟩ := isOf hZ ec zc4
  obtain ⟨_, _, ⟨T229, L229, k229, n229⟩, -, X229, ⟨Lc229, hQ229, l229, y229, z229⟩, st229⟩ := Xc.virtualBack hx (y := own_y4) (z := own_y4) hown (mvT hZ (own_w hw 81 rfl)) (mvT hZ (own_w hw 82 rfl)) (notFace_of_selects (args := #[]) (mvT hZ (own_w hw 84 rfl))) (mvT hZ (own_w hw 84 rfl)) (mvT hZ (own_w hw 83 rfl)) (by decide) (backOf (W := 0) (rmChAt l Z a0 hw [] b104 (40 : Int32) d104 kk104 (68 : Int32) own_txt (83 : Int32) sf cs Hc n0 (Nat.le_trans Z0 Kc0.1) Oc zc0 hcs zc1 hsf zc4 zc5 zc6 zc7 (by decide : ¬ ((40 : Int32) < (0 : Int32))) (by decide : (40 : Int32) < (68 : Int32)) rfl) hZ (own_w hw 85 rfl) (own_w hw 73 rfl) (by decide) (by decide)) q229a q229c (g := (mkF m 258 #[.val (.int p1), .val (.ref b1), .val (.ref b104), .val (.int (20 : Int32)), .val (.ref ad20), .unset, .unset] [(.int (40 : Int32)), (.ref b104)])) rfl (by rw [hml]; rfl) (Steps.refl _) (argsL := [(.int (40 : Int32))]) (rest := []) (lenOf pd_5 rfl) rfl (by show 2 * 0 + _ ≤ _; exact Nat.le_of_eq rfl) (hb hby at_258) (fun _ _ => ⟨rfl, ec, (by decide : 3 + 0 ≤ _), (by decide : 310 + 0 ≤ _)⟩)
  dsimp only [Pt.U, Pt.locs, Pt.cells, Pt.slots] at X229 l229 y229 z229 st229 hQ229
  subst l229 y229 z229
  obtain ⟨rfl, N229q, eh229⟩ := hQ229
  have N229 := Fr.app Nc N229q
  refine own_via st229 ?_
  refine own_go (A := T229.setTop (mkF m 269 #[.val (.int p1), .val (.ref b1), .val (.ref b104), .val (.int (20 : Int32)), .val (.ref ad20), .val (.int (83 : Int32)), .unset] [(.int (41 : Int32)), (.ref b104)])) (fun t_ k_ => ?_) ?_
  · show Steps p.tables e below (T229.setTop (mkF m 261 #[.val (.int p1), .val (.ref b1), .val (.ref b104), .val (.int (20 : Int32)), .val (.ref ad20), .unset, .unset] [(.int (83 : Int32))])) t_
    refine XS.istore X229.here hx rfl (hb hby at_261) rfl (l' := #[.val (.int p1), .val (.ref b1), .val (.ref b104), .val (.int (20 : Int32)), .val (.ref ad20), .val (.int (83 : Int32)), .unset]) rfl ?_
    show Steps p.tables e below (T229.setTop (mkF m 263 #[.val (.int p1), .val (.ref b1), .val (.ref b104), .val (.int (20 : Int32)), .val (.ref ad20), .val (.int (83 : Int32)), .unset] [])) t_
    refine XS.aloadN X229.here hx rfl (hb hby at_263) rfl rfl ?_
    show Steps p.tables e below (T229.setTop (mkF m 264 #[.val (.int p1), .val (.ref b1), .val (.ref b104), .val (.int (20 : Int32)), .val (.ref ad20), .val (.int (83 : Int32)), .unset] [(.ref b104)])) t_
    refine XS.iconst X229.here hx rfl (hb hby at_264) ?_
    show Steps p.tables e below (T229.setTop (mkF m 265 #[.val (.int p1), .val (.ref b1), .val (.ref b104), .val (.int (20 : Int32)), .val (.ref ad20), .val (.int (83 : Int32)), .unset] [(.int (2 : Int32)), (.ref b104)])) t_
    refine XS.iloadN X229.here hx rfl (hb hby at_265) rfl ?_
    show Steps p.tables e below (T229.setTop (mkF m 266 #[.val (.int p1), .val (.ref b1), .val (.ref b104), .val (.int (20 : Int32)), .val (.ref ad20), .val (.int (83 : Int32)), .unset] [(.int (20 : Int32)), (.int (2 : Int32)), (.ref b104)])) t_
    refine XS.imul X229.here hx rfl (hb hby at_266) rfl ?_
    show Steps p.tables e below (T229.setTop (mkF m 267 #[.val (.int p1), .val (.ref b1), .val (.ref b104), .val (.int (20 : Int32)), .val (.ref ad20), .val (.int (83 : Int32)), .unset] [(.int (40 : Int32)), (.ref b104)])) t_
    refine XS.iconst X229.here hx rfl (hb hby at_267) ?_
    show Steps p.tables e below (T229.setTop (mkF m 268 #[.val (.int p1), .val (.ref b1), .val (.ref b104), .val (.int (20 : Int32)), .val (.ref ad20), .val (.int (83 : Int32)), .unset] [(.int (1 : Int32)), (.int (40 : Int32)), (.ref b104)])) t_
    refine XS.iadd X229.here hx rfl (hb hby at_268) rfl ?_
    exact k_
  obtain ⟨cq230, kq230, q230a, q230b, q230c⟩ := isOf hZ eh229 zc4
  obtain ⟨_, _, ⟨T230, L230, k230, n230⟩, -, X230, ⟨Lc230, hQ230, l230, y230, z230⟩, st230⟩ := X229.virtualBack hx (y := own_y4) (z := own_y4) hown (mvT hZ (own_w hw 81 rfl)) (mvT hZ (own_w hw 82 rfl)) (notFace_of_selects (args := #[]) (mvT hZ (own_w hw 84 rfl))) (mvT hZ (own_w hw 84 rfl)) (mvT hZ (own_w hw 83 rfl)) (by decide) (backOf (W := 0) (rmChAt l Z a0 hw [] b104 (41 : Int32) d104 kk104 (68 : Int32) own_txt (76 : Int32) sf cs Hc n0 (Nat.le_trans Z0 Kc0.1) Oc zc0 hcs zc1 hsf zc4 zc5 zc6 zc7 (by decide : ¬ ((41 : Int32) < (0 : Int32))) (by decide : (41 : Int32) < (68 : Int32)) rfl) hZ (own_w hw 85 rfl) (own_w hw 73 rfl) (by decide) (by decide)) q230a q230c (g := (mkF m 269 #[.val (.int p1), .val (.ref b1), .val (.ref b104), .val (.int (20 : Int32)), .val (.ref ad20), .val (.int (83 : Int32)), .unset] [(.int (41 : Int32)), (.ref b104)])) rfl (by rw [hml]; rfl) (Steps.refl _) (argsL := [(.int (41 : Int32))]) (rest := []) (lenOf pd_5 rfl) rfl (by show 2 * 0 + _ ≤ _; exact Nat.le_of_eq rfl) (hb hby at_269) (fun _ _ => ⟨rfl, eh229, (by decide : 3 + 0 ≤ _), (by decide : 310 + 0 ≤ _)⟩)
  dsimp only [Pt.U, Pt.locs, Pt.cells, Pt.slots] at X230 l230 y230 z230 st230 hQ230
  subst l230 y230 z230
  obtain ⟨rfl, N230q, eh230⟩ := hQ230
  have N230 := Fr.app N229 N230q
  refine own_via st230 ?_
  refine own_go (A := T230.setTop (mkF m 276 #[.val (.int p1), .val (.ref b1), .val (.ref b104), .val (.int (20 : Int32)), .val (.ref ad20), .val (.int (83 : Int32)), .val (.int (76 : Int32))] [(.ref ad20)])) (fun t_ k_ => ?_) ?_
  · show Steps p.tables e below (T230.setTop (mkF m 272 #[.val (.int p1), .val (.ref b1), .val (.ref b104), .val (.int (20 : Int32)), .val (.ref ad20), .val (.int (83 : Int32)), .unset] [(.int (76 : Int32))])) t_
    refine XS.istore X230.here hx rfl (hb hby at_272) rfl (l' := #[.val (.int p1), .val (.ref b1), .val (.ref b104), .val (.int (20 : Int32)), .val (.ref ad20), .val (.int (83 : Int32)), .val (.int (76 : Int32))]) rfl ?_
    show Steps p.tables e below (T230.setTop (mkF m 274 #[.val (.int p1), .val (.ref b1), .val (.ref b104), .val (.int (20 : Int32)), .val (.ref ad20), .val (.int (83 : Int32)), .val (.int (76 : Int32))] [])) t_
    refine XS.aload X230.here hx rfl (hb hby at_274) rfl rfl ?_
    exact k_
  obtain ⟨cq231, kq231, q231a, q231b, q231c⟩ := isOf hZ eh230 (zc2.ext Oc.2)
  obtain ⟨_, _, ⟨T231, L231, k231, n231⟩, -, X231, ⟨Lc231, hQ231, l231, y231, z231⟩, st231⟩ := X230.virtualBack hx (y := own_y7) (z := own_y7) hown (mvT hZ (own_w hw 106 rfl)) (mvT hZ (own_w hw 107 rfl)) (notFace_of_selects (args := #[]) (mvT hZ (own_w hw 109 rfl))) (mvT hZ (own_w hw 109 rfl)) (mvT hZ (own_w hw 108 rfl)) (by decide) (backOf (W := 0) (rmMIn108 l Z a0 hw [] ad20 (20 : Int32) Hc n0 (Nat.le_trans Z0 Kc0.1) Oc zc2 zc3 (by decide) (by decide)) hZ (own_w hw 110 rfl) (own_w hw 3 rfl) (by decide) (by decide)) q231a q231c (g := (mkF m 276 #[.val (.int p1), .val (.ref b1), .val (.ref b104), .val (.int (20 : Int32)), .val (.ref ad20), .val (.int (83 : Int32)), .val (.int (76 : Int32))] [(.ref ad20)])) rfl (by rw [hml]; rfl) (Steps.refl _) (argsL := []) (rest := []) (lenOf pd_2 rfl) rfl (by show 2 * 0 + _ ≤ _; exact Nat.le_of_eq rfl) (hb hby at_276) (fun _ _ => ⟨rfl, eh230, (by decide : 3 + 0 ≤ _), (by decide : 310 + 0 ≤ _)⟩)
  dsimp only [Pt.U, Pt.locs, Pt.cells, Pt.slots] at X231 l231 y231 z231 st231 hQ231
  subst l231 y231 z231
  obtain ⟨rfl, N231q, eh231⟩ := hQ231
  have N231 := Fr.app N230 N231q
  refine own_via st231 ?_
  refine own_go (A := T231.setTop (mkF m 283 #[.val (.int p1), .val (.ref b1), .val (.ref b104), .val (.int (20 : Int32)), .val (.ref ad20), .val (.int (83 : Int32)), .val (.int (76 : Int32))] [(.int (76 : Int32)), (.int (83 : Int32)), (.int (0 : Int32))])) (fun t_ k_ => ?_) ?_
  · show Steps p.tables e below (T231.setTop (mkF m 279 #[.val (.int p1), .val (.ref b1), .val (.ref b104), .val (.int (20 : Int32)), .val (.ref ad20), .val (.int (83 : Int32)), .val (.int (76 : Int32))] [(.int (0 : Int32))])) t_
    refine XS.iload X231.here hx rfl (hb hby at_279) rfl ?_
    show Steps p.tables e below (T231.setTop (mkF m 281 #[.val (.int p1), .val (.ref b1), .val (.ref b104), .val (.int (20 : Int32)), .val (.ref ad20), .val (.int (83 : Int32)), .val (.int (76 : Int32))] [(.int (83 : Int32)), (.int (0 : Int32))])) t_
    refine XS.iload X231.here hx rfl (hb hby at_281) rfl ?_
    exact k_
  obtain ⟨_, _, ⟨T232, L232, k232, n232⟩, -, X232, ⟨Lc232, hQ232, l232, y232, z232⟩, st232⟩ := Jvm.LawKit.callS X231 hx (y := own_y8) hown (mvT hZ (own_w hw 120 rfl)) (mvT hZ (own_w hw 121 rfl)) (mvT hZ (own_w hw 122 rfl)) (mvT hZ (own_w hw 123 rfl)) (by decide) (backOf (W := 1) (rmES l Z a0 hw [] (76 : Int32) Hc n0 (Nat.le_trans Z0 Kc0.1) (by decide : ¬ ((76 : Int32) = (81 : Int32))) (by decide : ¬ ((76 : Int32) = (86 : Int32)))) hZ (own_w hw 123 rfl) (own_w hw 122 rfl) (by decide) (by decide)) (g := (mkF m 283 #[.val (.int p1), .val (.ref b1), .val (.ref b104), .val (.int (20 : Int32)), .val (.ref ad20), .val (.int (83 : Int32)), .val (.int (76 : Int32))] [(.int (76 : Int32)), (.int (83 : Int32)), (.int (0 : Int32))])) rfl (by rw [hml]; rfl) (argsL := [(.int (83 : Int32)), (.int (76 : Int32))]) (rest := [(.int (0 : Int32))]) (lenOf pd_6 rfl) rfl (by show 2 * 0 + _ ≤ _; exact Nat.le_of_eq rfl) (hb hby at_283) (fun _ _ => ⟨rfl, eh231, (by decide : 3 + 0 ≤ _), (by decide : 310 + 0 ≤ _)⟩)
  dsimp only [Pt.U, Pt.locs, Pt.cells, Pt.slots] at X232 l232 y232 z232 st232 hQ232
  subst l232 y232 z232
  obtain ⟨rfl, N232q, eh232⟩ := hQ232
  have N232 := Fr.app N231 N232q
  refine own_go st232 ?_
  refine own_go (A := T232.setTop (mkF m 294 #[.val (.int p1), .val (.ref b1), .val (.ref b104), .val (.int (20 : Int32)), .val (.ref ad20), .val (.int (83 : Int32)), .val (.int (76 : Int32))] [(.int (1 : Int32))])) (fun t_ k_ => ?_) ?_
  · show Steps p.tables e below (T232.setTop (mkF m 286 #[.val (.int p1), .val (.ref b1), .val (.ref b104), .val (.int (20 : Int32)), .val (.ref ad20), .val (.int (83 : Int32)), .val (.int (76 : Int32))] [(.int (0 : Int32)), (.int (0 : Int32))])) t_
    refine XS.icmpNo X232.here hx rfl (hb hby at_286) rfl (teq (by decide : (0 : Int32) = (0 : Int32))).2 ?_
    show Steps p.tables e below (T232.setTop (mkF m 289 #[.val (.int p1), .val (.ref b1), .val (.ref b104), .val (.int (20 : Int32)), .val (.ref ad20), .val (.int (83 : Int32)), .val (.int (76 : Int32))] [])) t_
    refine XS.iconst X232.here hx rfl (hb hby at_289) ?_
    show Steps p.tables e below (T232.setTop (mkF m 290 #[.val (.int p1), .val (.ref b1), .val (.ref b104), .val (.int (20 : Int32)), .val (.ref ad20), .val (.int (83 : Int32)), .val (.int (76 : Int32))] [(.int (1 : Int32))])) t_
    refine XS.goto X232.here hx rfl (pc0 := 290) (pc' := 294) rfl (hb hby at_290) (by decide) (by decide) ?_
    exact k_
  obtain ⟨fs233, hr233, hrun233, hended233, hRW233⟩ := X232.leaveW hS (by rw [eh232]; exact hk) (v := some (.int (1 : Int32))) (fun h => by rw [hret] at h; cases h)
  refine ⟨_, _, ?_, hrun233, hended233, _, _, rfl, ?_, hRW233.1, hRW233.2.1, hRW233.2.2.1, hRW233.2.2.2.mono (by decide) (by decide)⟩
  · exact retN X232 hx (t := .boolean) hret (by simp) (hb hby at_294) hr233
  · show Q_rm0 Z p1 cs sf ad0 ad1 ad2 ad3 ad4 ad5 ad6 ad7 ad8 ad9 ad10 ad11 ad12 ad13 ad14 ad15 ad16 ad17 ad18 ad19 ad20 ad21 ad22 ad23 ad24 ad25 ad26 ad27 ad28 ad29 ad30 ad31 ad32 ad33 h0 n0 _ T232.heap _
    rw [eh232]
    exact ⟨rfl, N232, Kc0⟩
set_option maxRecDepth 65536 in
set_option maxHeartbeats 40000000 in
theorem own_sufad21 (l : Launch) (Z : State) (a0 : Array Value) (hw : ∀ d ∈ tables_1, d.before a0 Z = true) (p1 : Int32) (cs : Int32) (sf : Value) (ad0 : Addr) (ad1 : Addr) (ad2 : Addr) (ad3 : Addr) (ad4 : Addr) (ad5 : Addr) (ad6 : Addr) (ad7 : Addr) (ad8 : Addr) (ad9 : Addr) (ad10 : Addr) (ad11 : Addr) (ad12 : Addr) (ad13 : Addr) (ad14 : Addr) (ad15 : Addr) (ad16 : Addr) (ad17 : Addr) (ad18 : Addr) (ad19 : Addr) (ad20 : Addr) (ad21 : Addr) (ad22 : Addr) (ad23 : Addr) (ad24 : Addr) (ad25 : Addr) (ad26 : Addr) (ad27 : Addr) (ad28 : Addr) (ad29 : Addr) (ad30 : Addr) (ad31 : Addr) (ad32 : Addr) (ad33 : Addr) (b1 : Addr) (b104 : Addr) (d104 : Addr) (kk104 : ClassId) (h0 : Heap) (n0 : Nat) (Z0 : n0 ≤ h0.size) {p : Program} {e : Env} {s : State} {m : MethodId} {below : List Frame} {meth : Method} {c : Code} {Tc : State} {Hc : Heap} {locsc : List Loc} {vmc : Vm} {kc0 : Nat} (Xc : Stand p l e room_1 (s.setVm vmc) m #[(.int p1)] below meth c Tc locsc 3 310) (hx : p.tables.exec = Jvm.exec) (hZ : Z.Warmed39 (s.setVm vmc).vm) (hby : c.code = code) (hml : c.maxLocals = 7) (hown : (s.setVm vmc).vm.findClass "com/example/querent/querent/dicom/VrHasLongLengthPinLaw" = some m.cls) (hret : meth.sig.returnType = some .boolean) (hlk : meth.locks = false) (hh : s.heap = h0) (ec : Tc.heap = Hc) (Nc : Fr n0 locsc) (Kc0 : Keep h0 Hc []) (Oc : Old Z n0 Hc) (hS : s.Since vmc kc0) (hk : kc0 ≤ Hc.size) (hSA : ∀ a ∈ Bundle.stringAtoms, a.before a0 Z = true) (zc0 : Sta Z Z.heap "java/lang/String" "COMPACT_STRINGS" "Z" (.int cs)) (zc1 : Sta Z Z.heap "jdk/internal/util/Preconditions" "SIOOBE_FORMATTER" "Ljava/util/function/BiFunction;" sf) (zc2 : Exa Z Z.heap ad21 "com/example/querent/querent/dicom/Vr") (zc3 : Fld Z Z.heap ad21 "java/lang/Enum" "ordinal" "I" (.int (21 : Int32))) (zc4 : Exa Z Hc b104 "java/lang/String") (zc5 : Fld Z Hc b104 "java/lang/String" "coder" "B" (.int (0 : Int32))) (zc6 : Fld Z Hc b104 "java/lang/String" "value" "[B" (.ref d104)) (zc7 : Arv Z Hc d104 kk104 .byte (68 : Int32) own_txt (.int (0 : Int32))) (hcs : ¬ (cs = (0 : Int32))) (hsf : sf.isRef = true) (hn0 : n0 = h0.size) (hcw : Jvm.Lit.compactW.before a0 Z = true) (hlit : Jvm.Lit.constHeld Z "com/example/querent/querent/dicom/VrHasLongLengthPinLaw" 112) :
    ∃ U_ o_, Steps p.tables e below (Tc.setTop (mkF m 254 #[.val (.int p1), .val (.ref b1), .val (.ref b104), .val (.int (21 : Int32)), .val (.ref ad21), .unset, .unset] [])) U_ ∧ U_.status = .running ∧ Ended U_ below o_ ∧ (∃ v_ L_, o_ = .returned v_ ∧ Q_rm0 Z p1 cs sf ad0 ad1 ad2 ad3 ad4 ad5 ad6 ad7 ad8 ad9 ad10 ad11 ad12 ad13 ad14 ad15 ad16 ad17 ad18 ad19 ad20 ad21 ad22 ad23 ad24 ad25 ad26 ad27 ad28 ad29 ad30 ad31 ad32 ad33 h0 n0 v_ U_.heap L_ ∧ ReturnedEndW s o_ U_ L_ room_1.cells room_1.slots) := by
  refine own_go (A := Tc.setTop (mkF m 258 #[.val (.int p1), .val (.ref b1), .val (.ref b104), .val (.int (21 : Int32)), .val (.ref ad21), .unset, .unset] [(.int (42 : Int32)), (.ref b104)])) (fun t_ k_ => ?_) ?_
  · show Steps p.tables e below (Tc.setTop (mkF m 254 #[.val (.int p1), .val (.ref b1), .val (.ref b104), .val (.int (21 : Int32)), .val (.ref ad21), .unset, .unset] [])) t_
    refine XS.aloadN Xc.here hx rfl (hb hby at_254) rfl rfl ?_
    show Steps p.tables e below (Tc.setTop (mkF m 255 #[.val (.int p1), .val (.ref b1), .val (.ref b104), .val (.int (21 : Int32)), .val (.ref ad21), .unset, .unset] [(.ref b104)])) t_
    refine XS.iconst Xc.here hx rfl (hb hby at_255) ?_
    show Steps p.tables e below (Tc.setTop (mkF m 256 #[.val (.int p1), .val (.ref b1), .val (.ref b104), .val (.int (21 : Int32)), .val (.ref ad21), .unset, .unset] [(.int (2 : Int32)), (.ref b104)])) t_
    refine XS.iloadN Xc.here hx rfl (hb hby at_256) rfl ?_
    show Steps p.tables e below (Tc.setTop (mkF m 257 #[.val (.int p1), .val (.ref b1), .val (.ref b104), .val (.int (21 : Int32)), .val (.ref ad21), .unset, .unset] [(.int (21 : Int32)), (.int (2 : Int32)), (.ref b104)])) t_
    refine XS.imul Xc.here hx rfl (hb hby at_257) rfl ?_
    exact k_
  obtain ⟨cq235, kq235, q235a, q235b, q235c⟩ := isOf hZ ec zc4
  obtain ⟨_, _, ⟨T235, L235, k235, n235⟩, -, X235, ⟨Lc235, hQ235, l235, y235, z235⟩, st235⟩ := Xc.virtualBack hx (y := own_y4) (z := own_y4) hown (mvT hZ (own_w hw 81 rfl)) (mvT hZ (own_w hw 82 rfl)) (notFace_of_selects (args := #[]) (mvT hZ (own_w hw 84 rfl))) (mvT hZ (own_w hw 84 rfl)) (mvT hZ (own_w hw 83 rfl)) (by decide) (backOf (W := 0) (rmChAt l Z a0 hw [] b104 (42 : Int32) d104 kk104 (68 : Int32) own_txt (83 : Int32) sf cs Hc n0 (Nat.le_trans Z0 Kc0.1) Oc zc0 hcs zc1 hsf zc4 zc5 zc6 zc7 (by decide : ¬ ((42 : Int32) < (0 : Int32))) (by decide : (42 : Int32) < (68 : Int32)) rfl) hZ (own_w hw 85 rfl) (own_w hw 73 rfl) (by decide) (by decide)) q235a q235c (g := (mkF m 258 #[.val (.int p1), .val (.ref b1), .val (.ref b104), .val (.int (21 : Int32)), .val (.ref ad21), .unset, .unset] [(.int (42 : Int32)), (.ref b104)])) rfl (by rw [hml]; rfl) (Steps.refl _) (argsL := [(.int (42 : Int32))]) (rest := []) (lenOf pd_5 rfl) rfl (by show 2 * 0 + _ ≤ _; exact Nat.le_of_eq rfl) (hb hby at_258) (fun _ _ => ⟨rfl, ec, (by decide : 3 + 0 ≤ _), (by decide : 310 + 0 ≤ _)⟩)
  dsimp only [Pt.U, Pt.locs, Pt.cells, Pt.slots] at X235 l235 y235 z235 st235 hQ235
  subst l235 y235 z235
  obtain ⟨rfl, N235q, eh235⟩ := hQ235
  have N235 := Fr.app Nc N235q
  refine own_via st235 ?_
  refine own_go (A := T235.setTop (mkF m 269 #[.val (.int p1), .val (.ref b1), .val (.ref b104), .val (.int (21 : Int32)), .val (.ref ad21), .val (.int (83 : Int32)), .unset] [(.int (43 : Int32)), (.ref b104)])) (fun t_ k_ => ?_) ?_
  · show Steps p.tables e below (T235.setTop (mkF m 261 #[.val (.int p1), .val (.ref b1), .val (.ref b104), .val (.int (21 : Int32)), .val (.ref ad21), .unset, .unset] [(.int (83 : Int32))])) t_
    refine XS.istore X235.here hx rfl (hb hby at_261) rfl (l' := #[.val (.int p1), .val (.ref b1), .val (.ref b104), .val (.int (21 : Int32)), .val (.ref ad21), .val (.int (83 : Int32)), .unset]) rfl ?_
    show Steps p.tables e below (T235.setTop (mkF m 263 #[.val (.int p1), .val (.ref b1), .val (.ref b104), .val (.int (21 : Int32)), .val (.ref ad21), .val (.int (83 : Int32)), .unset] [])) t_
    refine XS.aloadN X235.here hx rfl (hb hby at_263) rfl rfl ?_
    show Steps p.tables e below (T235.setTop (mkF m 264 #[.val (.int p1), .val (.ref b1), .val (.ref b104), .val (.int (21 : Int32)), .val (.ref ad21), .val (.int (83 : Int32)), .unset] [(.ref b104)])) t_
    refine XS.iconst X235.here hx rfl (hb hby at_264) ?_
    show Steps p.tables e below (T235.setTop (mkF m 265 #[.val (.int p1), .val (.ref b1), .val (.ref b104), .val (.int (21 : Int32)), .val (.ref ad21), .val (.int (83 : Int32)), .unset] [(.int (2 : Int32)), (.ref b104)])) t_
    refine XS.iloadN X235.here hx rfl (hb hby at_265) rfl ?_
    show Steps p.tables e below (T235.setTop (mkF m 266 #[.val (.int p1), .val (.ref b1), .val (.ref b104), .val (.int (21 : Int32)), .val (.ref ad21), .val (.int (83 : Int32)), .unset] [(.int (21 : Int32)), (.int (2 : Int32)), (.ref b104)])) t_
    refine XS.imul X235.here hx rfl (hb hby at_266) rfl ?_
    show Steps p.tables e below (T235.setTop (mkF m 267 #[.val (.int p1), .val (.ref b1), .val (.ref b104), .val (.int (21 : Int32)), .val (.ref ad21), .val (.int (83 : Int32)), .unset] [(.int (42 : Int32)), (.ref b104)])) t_
    refine XS.iconst X235.here hx rfl (hb hby at_267) ?_
    show Steps p.tables e below (T235.setTop (mkF m 268 #[.val (.int p1), .val (.ref b1), .val (.ref b104), .val (.int (21 : Int32)), .val (.ref ad21), .val (.int (83 : Int32)), .unset] [(.int (1 : Int32)), (.int (42 : Int32)), (.ref b104)])) t_
    refine XS.iadd X235.here hx rfl (hb hby at_268) rfl ?_
    exact k_
  obtain ⟨cq236, kq236, q236a, q236b, q236c⟩ := isOf hZ eh235 zc4
  obtain ⟨_, _, ⟨T236, L236, k236, n236⟩, -, X236, ⟨Lc236, hQ236, l236, y236, z236⟩, st236⟩ := X235.virtualBack hx (y := own_y4) (z := own_y4) hown (mvT hZ (own_w hw 81 rfl)) (mvT hZ (own_w hw 82 rfl)) (notFace_of_selects (args := #[]) (mvT hZ (own_w hw 84 rfl))) (mvT hZ (own_w hw 84 rfl)) (mvT hZ (own_w hw 83 rfl)) (by decide) (backOf (W := 0) (rmChAt l Z a0 hw [] b104 (43 : Int32) d104 kk104 (68 : Int32) own_txt (81 : Int32) sf cs Hc n0 (Nat.le_trans Z0 Kc0.1) Oc zc0 hcs zc1 hsf zc4 zc5 zc6 zc7 (by decide : ¬ ((43 : Int32) < (0 : Int32))) (by decide : (43 : Int32) < (68 : Int32)) rfl) hZ (own_w hw 85 rfl) (own_w hw 73 rfl) (by decide) (by decide)) q236a q236c (g := (mkF m 269 #[.val (.int p1), .val (.ref b1), .val (.ref b104), .val (.int (21 : Int32)), .val (.ref ad21), .val (.int (83 : Int32)), .unset] [(.int (43 : Int32)), (.ref b104)])) rfl (by rw [hml]; rfl) (Steps.refl _) (argsL := [(.int (43 : Int32))]) (rest := []) (lenOf pd_5 rfl) rfl (by show 2 * 0 + _ ≤ _; exact Nat.le_of_eq rfl) (hb hby at_269) (fun _ _ => ⟨rfl, eh235, (by decide : 3 + 0 ≤ _), (by decide : 310 + 0 ≤ _)⟩)
  dsimp only [Pt.U, Pt.locs, Pt.cells, Pt.slots] at X236 l236 y236 z236 st236 hQ236
  subst l236 y236 z236
  obtain ⟨rfl, N236q, eh236⟩ := hQ236
  have N236 := Fr.app N235 N236q
  refine own_via st236 ?_
  refine own_go (A := T236.setTop (mkF m 276 #[.val (.int p1), .val (.ref b1), .val (.ref b104), .val (.int (21 : Int32)), .val (.ref ad21), .val (.int (83 : Int32)), .val (.int (81 : Int32))] [(.ref ad21)])) (fun t_ k_ => ?_) ?_
  · show Steps p.tables e below (T236.setTop (mkF m 272 #[.val (.int p1), .val (.ref b1), .val (.ref b104), .val (.int (21 : Int32)), .val (.ref ad21), .val (.int (83 : Int32)), .unset] [(.int (81 : Int32))])) t_
    refine XS.istore X236.here hx rfl (hb hby at_272) rfl (l' := #[.val (.int p1), .val (.ref b1), .val (.ref b104), .val (.int (21 : Int32)), .val (.ref ad21), .val (.int (83 : Int32)), .val (.int (81 : Int32))]) rfl ?_
    show Steps p.tables e below (T236.setTop (mkF m 274 #[.val (.int p1), .val (.ref b1), .val (.ref b104), .val (.int (21 : Int32)), .val (.ref ad21), .val (.int (83 : Int32)), .val (.int (81 : Int32))] [])) t_
    refine XS.aload X236.here hx rfl (hb hby at_274) rfl rfl ?_
    exact k_
  obtain ⟨cq237, kq237, q237a, q237b, q237c⟩ := isOf hZ eh236 (zc2.ext Oc.2)
  obtain ⟨_, _, ⟨T237, L237, k237, n237⟩, -, X237, ⟨Lc237, hQ237, l237, y237, z237⟩, st237⟩ := X236.virtualBack hx (y := own_y7) (z := own_y7) hown (mvT hZ (own_w hw 106 rfl)) (mvT hZ (own_w hw 107 rfl)) (notFace_of_selects (args := #[]) (mvT hZ (own_w hw 109 rfl))) (mvT hZ (own_w hw 109 rfl)) (mvT hZ (own_w hw 108 rfl)) (by decide) (backOf (W := 0) (rmMIn104 l Z a0 hw [] ad21 (21 : Int32) Hc n0 (Nat.le_trans Z0 Kc0.1) Oc zc2 zc3 (by decide) (by decide)) hZ (own_w hw 110 rfl) (own_w hw 3 rfl) (by decide) (by decide)) q237a q237c (g := (mkF m 276 #[.val (.int p1), .val (.ref b1), .val (.ref b104), .val (.int (21 : Int32)), .val (.ref ad21), .val (.int (83 : Int32)), .val (.int (81 : Int32))] [(.ref ad21)])) rfl (by rw [hml]; rfl) (Steps.refl _) (argsL := []) (rest := []) (lenOf pd_2 rfl) rfl (by show 2 * 0 + _ ≤ _; exact Nat.le_of_eq rfl) (hb hby at_276) (fun _ _ => ⟨rfl, eh236, (by decide : 3 + 0 ≤ _), (by decide : 310 + 0 ≤ _)⟩)
  dsimp only [Pt.U, Pt.locs, Pt.cells, Pt.slots] at X237 l237 y237 z237 st237 hQ237
  subst l237 y237 z237
  obtain ⟨rfl, N237q, eh237⟩ := hQ237
  have N237 := Fr.app N236 N237q
  refine own_via st237 ?_
  refine own_go (A := T237.setTop (mkF m 283 #[.val (.int p1), .val (.ref b1), .val (.ref b104), .val (.int (21 : Int32)), .val (.ref ad21), .val (.int (83 : Int32)), .val (.int (81 : Int32))] [(.int (81 : Int32)), (.int (83 : Int32)), (.int (1 : Int32))])) (fun t_ k_ => ?_) ?_
  · show Steps p.tables e below (T237.setTop (mkF m 279 #[.val (.int p1), .val (.ref b1), .val (.ref b104), .val (.int (21 : Int32)), .val (.ref ad21), .val (.int (83 : Int32)), .val (.int (81 : Int32))] [(.int (1 : Int32))])) t_
    refine XS.iload X237.here hx rfl (hb hby at_279) rfl ?_
    show Steps p.tables e below (T237.setTop (mkF m 281 #[.val (.int p1), .val (.ref b1), .val (.ref b104), .val (.int (21 : Int32)), .val (.ref ad21), .val (.int (83 : Int32)), .val (.int (81 : Int32))] [(.int (83 : Int32)), (.int (1 : Int32))])) t_
    refine XS.iload X237.here hx rfl (hb hby at_281) rfl ?_
    exact k_
  obtain ⟨_, _, ⟨T238, L238, k238, n238⟩, -, X238, ⟨Lc238, hQ238, l238, y238, z238⟩, st238⟩ := Jvm.LawKit.callS X237 hx (y := own_y8) hown (mvT hZ (own_w hw 120 rfl)) (mvT hZ (own_w hw 121 rfl)) (mvT hZ (own_w hw 122 rfl)) (mvT hZ (own_w hw 123 rfl)) (by decide) (backOf (W := 1) (rmESQ l Z a0 hw [] Hc n0 (Nat.le_trans Z0 Kc0.1)) hZ (own_w hw 123 rfl) (own_w hw 122 rfl) (by decide) (by decide)) (g := (mkF m 283 #[.val (.int p1), .val (.ref b1), .val (.ref b104), .val (.int (21 : Int32)), .val (.ref ad21), .val (.int (83 : Int32)), .val (.int (81 : Int32))] [(.int (81 : Int32)), (.int (83 : Int32)), (.int (1 : Int32))])) rfl (by rw [hml]; rfl) (argsL := [(.int (83 : Int32)), (.int (81 : Int32))]) (rest := [(.int (1 : Int32))]) (lenOf pd_6 rfl) rfl (by show 2 * 0 + _ ≤ _; exact Nat.le_of_eq rfl) (hb hby at_283) (fun _ _ => ⟨rfl, eh237, (by decide : 3 + 0 ≤ _), (by decide : 310 + 0 ≤ _)⟩)
  dsimp only [Pt.U, Pt.locs, Pt.cells, Pt.slots] at X238 l238 y238 z238 st238 hQ238
  subst l238 y238 z238
  obtain ⟨rfl, N238q, eh238⟩ := hQ238
  have N238 := Fr.app N237 N238q
  refine own_go st238 ?_
  refine own_go (A := T238.setTop (mkF m 294 #[.val (.int p1), .val (.ref b1), .val (.ref b104), .val (.int (21 : Int32)), .val (.ref ad21), .val (.int (83 : Int32)), .val (.int (81 : Int32))] [(.int (1 : Int32))])) (fun t_ k_ => ?_) ?_
  · show Steps p.tables e below (T238.setTop (mkF m 286 #[.val (.int p1), .val (.ref b1), .val (.ref b104), .val (.int (21 : Int32)), .val (.ref ad21), .val (.int (83 : Int32)), .val (.int (81 : Int32))] [(.int (1 : Int32)), (.int (1 : Int32))])) t_
    refine XS.icmpNo X238.here hx rfl (hb hby at_286) rfl (teq (by decide : (1 : Int32) = (1 : Int32))).2 ?_
    show Steps p.tables e below (T238.setTop (mkF m 289 #[.val (.int p1), .val (.ref b1), .val (.ref b104), .val (.int (21 : Int32)), .val (.ref ad21), .val (.int (83 : Int32)), .val (.int (81 : Int32))] [])) t_
    refine XS.iconst X238.here hx rfl (hb hby at_289) ?_
    show Steps p.tables e below (T238.setTop (mkF m 290 #[.val (.int p1), .val (.ref b1), .val (.ref b104), .val (.int (21 : Int32)), .val (.ref ad21), .val (.int (83 : Int32)), .val (.int (81 : Int32))] [(.int (1 : Int32))])) t_
    refine XS.goto X238.here hx rfl (pc0 := 290) (pc' := 294) rfl (hb hby at_290) (by decide) (by decide) ?_
    exact k_
  obtain ⟨fs239, hr239, hrun239, hended239, hRW239⟩ := X238.leaveW hS (by rw [eh238]; exact hk) (v := some (.int (1 : Int32))) (fun h => by rw [hret] at h; cases h)
  refine ⟨_, _, ?_, hrun239, hended239, _, _, rfl, ?_, hRW239.1, hRW239.2.1, hRW239.2.2.1, hRW239.2.2.2.mono (by decide) (by decide)⟩
  · exact retN X238 hx (t := .boolean) hret (by simp) (hb hby at_294) hr239
  · show Q_rm0 Z p1 cs sf ad0 ad1 ad2 ad3 ad4 ad5 ad6 ad7 ad8 ad9 ad10 ad11 ad12 ad13 ad14 ad15 ad16 ad17 ad18 ad19 ad20 ad21 ad22 ad23 ad24 ad25 ad26 ad27 ad28 ad29 ad30 ad31 ad32 ad33 h0 n0 _ T238.heap _
    rw [eh238]
    exact ⟨rfl, N238, Kc0⟩
set_option maxRecDepth 65536 in
set_option maxHeartbeats 40000000 in
theorem own_sufad22 (l : Launch) (Z : State) (a0 : Array Value) (hw : ∀ d ∈ tables_1, d.before a0 Z = true) (p1 : Int32) (cs : Int32) (sf : Value) (ad0 : Addr) (ad1 : Addr) (ad2 : Addr) (ad3 : Addr) (ad4 : Addr) (ad5 : Addr) (ad6 : Addr) (ad7 : Addr) (ad8 : Addr) (ad9 : Addr) (ad10 : Addr) (ad11 : Addr) (ad12 : Addr) (ad13 : Addr) (ad14 : Addr) (ad15 : Addr) (ad16 : Addr) (ad17 : Addr) (ad18 : Addr) (ad19 : Addr) (ad20 : Addr) (ad21 : Addr) (ad22 : Addr) (ad23 : Addr) (ad24 : Addr) (ad25 : Addr) (ad26 : Addr) (ad27 : Addr) (ad28 : Addr) (ad29 : Addr) (ad30 : Addr) (ad31 : Addr) (ad32 : Addr) (ad33 : Addr) (b1 : Addr) (b104 : Addr) (d104 : Addr) (kk104 : ClassId) (h0 : Heap) (n0 : Nat) (Z0 : n0 ≤ h0.size) {p : Program} {e : Env} {s : State} {m : MethodId} {below : List Frame} {meth : Method} {c : Code} {Tc : State} {Hc : Heap} {locsc : List Loc} {vmc : Vm} {kc0 : Nat} (Xc : Stand p l e room_1 (s.setVm vmc) m #[(.int p1)] below meth c Tc locsc 3 310) (hx : p.tables.exec = Jvm.exec) (hZ : Z.Warmed39 (s.setVm vmc).vm) (hby : c.code = code) (hml : c.maxLocals = 7) (hown : (s.setVm vmc).vm.findClass "com/example/querent/querent/dicom/VrHasLongLengthPinLaw" = some m.cls) (hret : meth.sig.returnType = some .boolean) (hlk : meth.locks = false) (hh : s.heap = h0) (ec : Tc.heap = Hc) (Nc : Fr n0 locsc) (Kc0 : Keep h0 Hc []) (Oc : Old Z n0 Hc) (hS : s.Since vmc kc0) (hk : kc0 ≤ Hc.size) (hSA : ∀ a ∈ Bundle.stringAtoms, a.before a0 Z = true) (zc0 : Sta Z Z.heap "java/lang/String" "COMPACT_STRINGS" "Z" (.int cs)) (zc1 : Sta Z Z.heap "jdk/internal/util/Preconditions" "SIOOBE_FORMATTER" "Ljava/util/function/BiFunction;" sf) (zc2 : Exa Z Z.heap ad22 "com/example/querent/querent/dicom/Vr") (zc3 : Fld Z Z.heap ad22 "java/lang/Enum" "ordinal" "I" (.int (22 : Int32))) (zc4 : Exa Z Hc b104 "java/lang/String") (zc5 : Fld Z Hc b104 "java/lang/String" "coder" "B" (.int (0 : Int32))) (zc6 : Fld Z Hc b104 "java/lang/String" "value" "[B" (.ref d104)) (zc7 : Arv Z Hc d104 kk104 .byte (68 : Int32) own_txt (.int (0 : Int32))) (hcs : ¬ (cs = (0 : Int32))) (hsf : sf.isRef = true) (hn0 : n0 = h0.size) (hcw : Jvm.Lit.compactW.before a0 Z = true) (hlit : Jvm.Lit.constHeld Z "com/example/querent/querent/dicom/VrHasLongLengthPinLaw" 112) :
    ∃ U_ o_, Steps p.tables e below (Tc.setTop (mkF m 254 #[.val (.int p1), .val (.ref b1), .val (.ref b104), .val (.int (22 : Int32)), .val (.ref ad22), .unset, .unset] [])) U_ ∧ U_.status = .running ∧ Ended U_ below o_ ∧ (∃ v_ L_, o_ = .returned v_ ∧ Q_rm0 Z p1 cs sf ad0 ad1 ad2 ad3 ad4 ad5 ad6 ad7 ad8 ad9 ad10 ad11 ad12 ad13 ad14 ad15 ad16 ad17 ad18 ad19 ad20 ad21 ad22 ad23 ad24 ad25 ad26 ad27 ad28 ad29 ad30 ad31 ad32 ad33 h0 n0 v_ U_.heap L_ ∧ ReturnedEndW s o_ U_ L_ room_1.cells room_1.slots) := by
  refine own_go (A := Tc.setTop (mkF m 258 #[.val (.int p1), .val (.ref b1), .val (.ref b104), .val (.int (22 : Int32)), .val (.ref ad22), .unset, .unset] [(.int (44 : Int32)), (.ref b104)])) (fun t_ k_ => ?_) ?_
  · show Steps p.tables e below (Tc.setTop (mkF m 254 #[.val (.int p1), .val (.ref b1), .val (.ref b104), .val (.int (22 : Int32)), .val (.ref ad22), .unset, .unset] [])) t_
    refine XS.aloadN Xc.here hx rfl (hb hby at_254) rfl rfl ?_
    show Steps p.tables e below (Tc.setTop (mkF m 255 #[.val (.int p1), .val (.ref b1), .val (.ref b104), .val (.int (22 : Int32)), .val (.ref ad22), .unset, .unset] [(.ref b104)])) t_
    refine XS.iconst Xc.here hx rfl (hb hby at_255) ?_
    show Steps p.tables e below (Tc.setTop (mkF m 256 #[.val (.int p1), .val (.ref b1), .val (.ref b104), .val (.int (22 : Int32)), .val (.ref ad22), .unset, .unset] [(.int (2 : Int32)), (.ref b104)])) t_
    refine XS.iloadN Xc.here hx rfl (hb hby at_256) rfl ?_
    show Steps p.tables e below (Tc.setTop (mkF m 257 #[.val (.int p1), .val (.ref b1), .val (.ref b104), .val (.int (22 : Int32)), .val (.ref ad22), .unset, .unset] [(.int (22 : Int32)), (.int (2 : Int32)), (.ref b104)])) t_
    refine XS.imul Xc.here hx rfl (hb hby at_257) rfl ?_
    exact k_
  obtain ⟨cq241, kq241, q241a, q241b, q241c⟩ := isOf hZ ec zc4
  obtain ⟨_, _, ⟨T241, L241, k241, n241⟩, -, X241, ⟨Lc241, hQ241, l241, y241, z241⟩, st241⟩ := Xc.virtualBack hx (y := own_y4) (z := own_y4) hown (mvT hZ (own_w hw 81 rfl)) (mvT hZ (own_w hw 82 rfl)) (notFace_of_selects (args := #[]) (mvT hZ (own_w hw 84 rfl))) (mvT hZ (own_w hw 84 rfl)) (mvT hZ (own_w hw 83 rfl)) (by decide) (backOf (W := 0) (rmChAt l Z a0 hw [] b104 (44 : Int32) d104 kk104 (68 : Int32) own_txt (83 : Int32) sf cs Hc n0 (Nat.le_trans Z0 Kc0.1) Oc zc0 hcs zc1 hsf zc4 zc5 zc6 zc7 (by decide : ¬ ((44 : Int32) < (0 : Int32))) (by decide : (44 : Int32) < (68 : Int32)) rfl) hZ (own_w hw 85 rfl) (own_w hw 73 rfl) (by decide) (by decide)) q241a q241c (g := (mkF m 258 #[.val (.int p1), .val (.ref b1), .val (.ref b104), .val (.int (22 : Int32)), .val (.ref ad22), .unset, .unset] [(.int (44 : Int32)), (.ref b104)])) rfl (by rw [hml]; rfl) (Steps.refl _) (argsL := [(.int (44 : Int32))]) (rest := []) (lenOf pd_5 rfl) rfl (by show 2 * 0 + _ ≤ _; exact Nat.le_of_eq rfl) (hb hby at_258) (fun _ _ => ⟨rfl, ec, (by decide : 3 + 0 ≤ _), (by decide : 310 + 0 ≤ _)⟩)
  dsimp only [Pt.U, Pt.locs, Pt.cells, Pt.slots] at X241 l241 y241 z241 st241 hQ241
  subst l241 y241 z241
  obtain ⟨rfl, N241q, eh241⟩ := hQ241
  have N241 := Fr.app Nc N241q
  refine own_via st241 ?_
  refine own_go (A := T241.setTop (mkF m 269 #[.val (.int p1), .val (.ref b1), .val (.ref b104), .val (.int (22 : Int32)), .val (.ref ad22), .val (.int (83 : Int32)), .unset] [(.int (45 : Int32)), (.ref b104)])) (fun t_ k_ => ?_) ?_
  · show Steps p.tables e below (T241.setTop (mkF m 261 #[.val (.int p1), .val (.ref b1), .val (.ref b104), .val (.int (22 : Int32)), .val (.ref ad22), .unset, .unset] [(.int (83 : Int32))])) t_
    refine XS.istore X241.here hx rfl (hb hby at_261) rfl (l' := #[.val (.int p1), .val (.ref b1), .val (.ref b104), .val (.int (22 : Int32)), .val (.ref ad22), .val (.int (83 : Int32)), .unset]) rfl ?_
    show Steps p.tables e below (T241.setTop (mkF m 263 #[.val (.int p1), .val (.ref b1), .val (.ref b104), .val (.int (22 : Int32)), .val (.ref ad22), .val (.int (83 : Int32)), .unset] [])) t_
    refine XS.aloadN X241.here hx rfl (hb hby at_263) rfl rfl ?_
    show Steps p.tables e below (T241.setTop (mkF m 264 #[.val (.int p1), .val (.ref b1), .val (.ref b104), .val (.int (22 : Int32)), .val (.ref ad22), .val (.int (83 : Int32)), .unset] [(.ref b104)])) t_
    refine XS.iconst X241.here hx rfl (hb hby at_264) ?_
    show Steps p.tables e below (T241.setTop (mkF m 265 #[.val (.int p1), .val (.ref b1), .val (.ref b104), .val (.int (22 : Int32)), .val (.ref ad22), .val (.int (83 : Int32)), .unset] [(.int (2 : Int32)), (.ref b104)])) t_
    refine XS.iloadN X241.here hx rfl (hb hby at_265) rfl ?_
    show Steps p.tables e below (T241.setTop (mkF m 266 #[.val (.int p1), .val (.ref b1), .val (.ref b104), .val (.int (22 : Int32)), .val (.ref ad22), .val (.int (83 : Int32)), .unset] [(.int (22 : Int32)), (.int (2 : Int32)), (.ref b104)])) t_
    refine XS.imul X241.here hx rfl (hb hby at_266) rfl ?_
    show Steps p.tables e below (T241.setTop (mkF m 267 #[.val (.int p1), .val (.ref b1), .val (.ref b104), .val (.int (22 : Int32)), .val (.ref ad22), .val (.int (83 : Int32)), .unset] [(.int (44 : Int32)), (.ref b104)])) t_
    refine XS.iconst X241.here hx rfl (hb hby at_267) ?_
    show Steps p.tables e below (T241.setTop (mkF m 268 #[.val (.int p1), .val (.ref b1), .val (.ref b104), .val (.int (22 : Int32)), .val (.ref ad22), .val (.int (83 : Int32)), .unset] [(.int (1 : Int32)), (.int (44 : Int32)), (.ref b104)])) t_
    refine XS.iadd X241.here hx rfl (hb hby at_268) rfl ?_
    exact k_
  obtain ⟨cq242, kq242, q242a, q242b, q242c⟩ := isOf hZ eh241 zc4
  obtain ⟨_, _, ⟨T242, L242, k242, n242⟩, -, X242, ⟨Lc242, hQ242, l242, y242, z242⟩, st242⟩ := X241.virtualBack hx (y := own_y4) (z := own_y4) hown (mvT hZ (own_w hw 81 rfl)) (mvT hZ (own_w hw 82 rfl)) (notFace_of_selects (args := #[]) (mvT hZ (own_w hw 84 rfl))) (mvT hZ (own_w hw 84 rfl)) (mvT hZ (own_w hw 83 rfl)) (by decide) (backOf (W := 0) (rmChAt l Z a0 hw [] b104 (45 : Int32) d104 kk104 (68 : Int32) own_txt (83 : Int32) sf cs Hc n0 (Nat.le_trans Z0 Kc0.1) Oc zc0 hcs zc1 hsf zc4 zc5 zc6 zc7 (by decide : ¬ ((45 : Int32) < (0 : Int32))) (by decide : (45 : Int32) < (68 : Int32)) rfl) hZ (own_w hw 85 rfl) (own_w hw 73 rfl) (by decide) (by decide)) q242a q242c (g := (mkF m 269 #[.val (.int p1), .val (.ref b1), .val (.ref b104), .val (.int (22 : Int32)), .val (.ref ad22), .val (.int (83 : Int32)), .unset] [(.int (45 : Int32)), (.ref b104)])) rfl (by rw [hml]; rfl) (Steps.refl _) (argsL := [(.int (45 : Int32))]) (rest := []) (lenOf pd_5 rfl) rfl (by show 2 * 0 + _ ≤ _; exact Nat.le_of_eq rfl) (hb hby at_269) (fun _ _ => ⟨rfl, eh241, (by decide : 3 + 0 ≤ _), (by decide : 310 + 0 ≤ _)⟩)
  dsimp only [Pt.U, Pt.locs, Pt.cells, Pt.slots] at X242 l242 y242 z242 st242 hQ242
  subst l242 y242 z242
  obtain ⟨rfl, N242q, eh242⟩ := hQ242
  have N242 := Fr.app N241 N242q
  refine own_via st242 ?_
  refine own_go (A := T242.setTop (mkF m 276 #[.val (.int p1), .val (.ref b1), .val (.ref b104), .val (.int (22 : Int32)), .val (.ref ad22), .val (.int (83 : Int32)), .val (.int (83 : Int32))] [(.ref ad22)])) (fun t_ k_ => ?_) ?_
  · show Steps p.tables e below (T242.setTop (mkF m 272 #[.val (.int p1), .val (.ref b1), .val (.ref b104), .val (.int (22 : Int32)), .val (.ref ad22), .val (.int (83 : Int32)), .unset] [(.int (83 : Int32))])) t_
    refine XS.istore X242.here hx rfl (hb hby at_272) rfl (l' := #[.val (.int p1), .val (.ref b1), .val (.ref b104), .val (.int (22 : Int32)), .val (.ref ad22), .val (.int (83 : Int32)), .val (.int (83 : Int32))]) rfl ?_
    show Steps p.tables e below (T242.setTop (mkF m 274 #[.val (.int p1), .val (.ref b1), .val (.ref b104), .val (.int (22 : Int32)), .val (.ref ad22), .val (.int (83 : Int32)), .val (.int (83 : Int32))] [])) t_
    refine XS.aload X242.here hx rfl (hb hby at_274) rfl rfl ?_
    exact k_
  obtain ⟨cq243, kq243, q243a, q243b, q243c⟩ := isOf hZ eh242 (zc2.ext Oc.2)
  obtain ⟨_, _, ⟨T243, L243, k243, n243⟩, -, X243, ⟨Lc243, hQ243, l243, y243, z243⟩, st243⟩ := X242.virtualBack hx (y := own_y7) (z := own_y7) hown (mvT hZ (own_w hw 106 rfl)) (mvT hZ (own_w hw 107 rfl)) (notFace_of_selects (args := #[]) (mvT hZ (own_w hw 109 rfl))) (mvT hZ (own_w hw 109 rfl)) (mvT hZ (own_w hw 108 rfl)) (by decide) (backOf (W := 0) (rmMIn108 l Z a0 hw [] ad22 (22 : Int32) Hc n0 (Nat.le_trans Z0 Kc0.1) Oc zc2 zc3 (by decide) (by decide)) hZ (own_w hw 110 rfl) (own_w hw 3 rfl) (by decide) (by decide)) q243a q243c (g := (mkF m 276 #[.val (.int p1), .val (.ref b1), .val (.ref b104), .val (.int (22 : Int32)), .val (.ref ad22), .val (.int (83 : Int32)), .val (.int (83 : Int32))] [(.ref ad22)])) rfl (by rw [hml]; rfl) (Steps.refl _) (argsL := []) (rest := []) (lenOf pd_2 rfl) rfl (by show 2 * 0 + _ ≤ _; exact Nat.le_of_eq rfl) (hb hby at_276) (fun _ _ => ⟨rfl, eh242, (by decide : 3 + 0 ≤ _), (by decide : 310 + 0 ≤ _)⟩)
  dsimp only [Pt.U, Pt.locs, Pt.cells, Pt.slots] at X243 l243 y243 z243 st243 hQ243
  subst l243 y243 z243
  obtain ⟨rfl, N243q, eh243⟩ := hQ243
  have N243 := Fr.app N242 N243q
  refine own_via st243 ?_
  refine own_go (A := T243.setTop (mkF m 283 #[.val (.int p1), .val (.ref b1), .val (.ref b104), .val (.int (22 : Int32)), .val (.ref ad22), .val (.int (83 : Int32)), .val (.int (83 : Int32))] [(.int (83 : Int32)), (.int (83 : Int32)), (.int (0 : Int32))])) (fun t_ k_ => ?_) ?_
  · show Steps p.tables e below (T243.setTop (mkF m 279 #[.val (.int p1), .val (.ref b1), .val (.ref b104), .val (.int (22 : Int32)), .val (.ref ad22), .val (.int (83 : Int32)), .val (.int (83 : Int32))] [(.int (0 : Int32))])) t_
    refine XS.iload X243.here hx rfl (hb hby at_279) rfl ?_
    show Steps p.tables e below (T243.setTop (mkF m 281 #[.val (.int p1), .val (.ref b1), .val (.ref b104), .val (.int (22 : Int32)), .val (.ref ad22), .val (.int (83 : Int32)), .val (.int (83 : Int32))] [(.int (83 : Int32)), (.int (0 : Int32))])) t_
    refine XS.iload X243.here hx rfl (hb hby at_281) rfl ?_
    exact k_
  obtain ⟨_, _, ⟨T244, L244, k244, n244⟩, -, X244, ⟨Lc244, hQ244, l244, y244, z244⟩, st244⟩ := Jvm.LawKit.callS X243 hx (y := own_y8) hown (mvT hZ (own_w hw 120 rfl)) (mvT hZ (own_w hw 121 rfl)) (mvT hZ (own_w hw 122 rfl)) (mvT hZ (own_w hw 123 rfl)) (by decide) (backOf (W := 1) (rmES l Z a0 hw [] (83 : Int32) Hc n0 (Nat.le_trans Z0 Kc0.1) (by decide : ¬ ((83 : Int32) = (81 : Int32))) (by decide : ¬ ((83 : Int32) = (86 : Int32)))) hZ (own_w hw 123 rfl) (own_w hw 122 rfl) (by decide) (by decide)) (g := (mkF m 283 #[.val (.int p1), .val (.ref b1), .val (.ref b104), .val (.int (22 : Int32)), .val (.ref ad22), .val (.int (83 : Int32)), .val (.int (83 : Int32))] [(.int (83 : Int32)), (.int (83 : Int32)), (.int (0 : Int32))])) rfl (by rw [hml]; rfl) (argsL := [(.int (83 : Int32)), (.int (83 : Int32))]) (rest := [(.int (0 : Int32))]) (lenOf pd_6 rfl) rfl (by show 2 * 0 + _ ≤ _; exact Nat.le_of_eq rfl) (hb hby at_283) (fun _ _ => ⟨rfl, eh243, (by decide : 3 + 0 ≤ _), (by decide : 310 + 0 ≤ _)⟩)
  dsimp only [Pt.U, Pt.locs, Pt.cells, Pt.slots] at X244 l244 y244 z244 st244 hQ244
  subst l244 y244 z244
  obtain ⟨rfl, N244q, eh244⟩ := hQ244
  have N244 := Fr.app N243 N244q
  refine own_go st244 ?_
  refine own_go (A := T244.setTop (mkF m 294 #[.val (.int p1), .val (.ref b1), .val (.ref b104), .val (.int (22 : Int32)), .val (.ref ad22), .val (.int (83 : Int32)), .val (.int (83 : Int32))] [(.int (1 : Int32))])) (fun t_ k_ => ?_) ?_
  · show Steps p.tables e below (T244.setTop (mkF m 286 #[.val (.int p1), .val (.ref b1), .val (.ref b104), .val (.int (22 : Int32)), .val (.ref ad22), .val (.int (83 : Int32)), .val (.int (83 : Int32))] [(.int (0 : Int32)), (.int (0 : Int32))])) t_
    refine XS.icmpNo X244.here hx rfl (hb hby at_286) rfl (teq (by decide : (0 : Int32) = (0 : Int32))).2 ?_
    show Steps p.tables e below (T244.setTop (mkF m 289 #[.val (.int p1), .val (.ref b1), .val (.ref b104), .val (.int (22 : Int32)), .val (.ref ad22), .val (.int (83 : Int32)), .val (.int (83 : Int32))] [])) t_
    refine XS.iconst X244.here hx rfl (hb hby at_289) ?_
    show Steps p.tables e below (T244.setTop (mkF m 290 #[.val (.int p1), .val (.ref b1), .val (.ref b104), .val (.int (22 : Int32)), .val (.ref ad22), .val (.int (83 : Int32)), .val (.int (83 : Int32))] [(.int (1 : Int32))])) t_
    refine XS.goto X244.here hx rfl (pc0 := 290) (pc' := 294) rfl (hb hby at_290) (by decide) (by decide) ?_
    exact k_
  obtain ⟨fs245, hr245, hrun245, hended245, hRW245⟩ := X244.leaveW hS (by rw [eh244]; exact hk) (v := some (.int (1 : Int32))) (fun h => by rw [hret] at h; cases h)
  refine ⟨_, _, ?_, hrun245, hended245, _, _, rfl, ?_, hRW245.1, hRW245.2.1, hRW245.2.2.1, hRW245.2.2.2.mono (by decide) (by decide)⟩
  · exact retN X244 hx (t := .boolean) hret (by simp) (hb hby at_294) hr245
  · show Q_rm0 Z p1 cs sf ad0 ad1 ad2 ad3 ad4 ad5 ad6 ad7 ad8 ad9 ad10 ad11 ad12 ad13 ad14 ad15 ad16 ad17 ad18 ad19 ad20 ad21 ad22 ad23 ad24 ad25 ad26 ad27 ad28 ad29 ad30 ad31 ad32 ad33 h0 n0 _ T244.heap _
    rw [eh244]
    exact ⟨rfl, N244, Kc0⟩
set_option maxRecDepth 65536 in
set_option maxHeartbeats 40000000 in
theorem own_sufad23 (l : Launch) (Z : State) (a0 : Array Value) (hw : ∀ d ∈ tables_1, d.before a0 Z = true) (p1 : Int32) (cs : Int32) (sf : Value) (ad0 : Addr) (ad1 : Addr) (ad2 : Addr) (ad3 : Addr) (ad4 : Addr) (ad5 : Addr) (ad6 : Addr) (ad7 : Addr) (ad8 : Addr) (ad9 : Addr) (ad10 : Addr) (ad11 : Addr) (ad12 : Addr) (ad13 : Addr) (ad14 : Addr) (ad15 : Addr) (ad16 : Addr) (ad17 : Addr) (ad18 : Addr) (ad19 : Addr) (ad20 : Addr) (ad21 : Addr) (ad22 : Addr) (ad23 : Addr) (ad24 : Addr) (ad25 : Addr) (ad26 : Addr) (ad27 : Addr) (ad28 : Addr) (ad29 : Addr) (ad30 : Addr) (ad31 : Addr) (ad32 : Addr) (ad33 : Addr) (b1 : Addr) (b104 : Addr) (d104 : Addr) (kk104 : ClassId) (h0 : Heap) (n0 : Nat) (Z0 : n0 ≤ h0.size) {p : Program} {e : Env} {s : State} {m : MethodId} {below : List Frame} {meth : Method} {c : Code} {Tc : State} {Hc : Heap} {locsc : List Loc} {vmc : Vm} {kc0 : Nat} (Xc : Stand p l e room_1 (s.setVm vmc) m #[(.int p1)] below meth c Tc locsc 3 310) (hx : p.tables.exec = Jvm.exec) (hZ : Z.Warmed39 (s.setVm vmc).vm) (hby : c.code = code) (hml : c.maxLocals = 7) (hown : (s.setVm vmc).vm.findClass "com/example/querent/querent/dicom/VrHasLongLengthPinLaw" = some m.cls) (hret : meth.sig.returnType = some .boolean) (hlk : meth.locks = false) (hh : s.heap = h0) (ec : Tc.heap = Hc) (Nc : Fr n0 locsc) (Kc0 : Keep h0 Hc []) (Oc : Old Z n0 Hc) (hS : s.Since vmc kc0) (hk : kc0 ≤ Hc.size) (hSA : ∀ a ∈ Bundle.stringAtoms, a.before a0 Z = true) (zc0 : Sta Z Z.heap "java/lang/String" "COMPACT_STRINGS" "Z" (.int cs)) (zc1 : Sta Z Z.heap "jdk/internal/util/Preconditions" "SIOOBE_FORMATTER" "Ljava/util/function/BiFunction;" sf) (zc2 : Exa Z Z.heap ad23 "com/example/querent/querent/dicom/Vr") (zc3 : Fld Z Z.heap ad23 "java/lang/Enum" "ordinal" "I" (.int (23 : Int32))) (zc4 : Exa Z Hc b104 "java/lang/String") (zc5 : Fld Z Hc b104 "java/lang/String" "coder" "B" (.int (0 : Int32))) (zc6 : Fld Z Hc b104 "java/lang/String" "value" "[B" (.ref d104)) (zc7 : Arv Z Hc d104 kk104 .byte (68 : Int32) own_txt (.int (0 : Int32))) (hcs : ¬ (cs = (0 : Int32))) (hsf : sf.isRef = true) (hn0 : n0 = h0.size) (hcw : Jvm.Lit.compactW.before a0 Z = true) (hlit : Jvm.Lit.constHeld Z "com/example/querent/querent/dicom/VrHasLongLengthPinLaw" 112) :
    ∃ U_ o_, Steps p.tables e below (Tc.setTop (mkF m 254 #[.val (.int p1), .val (.ref b1), .val (.ref b104), .val (.int (23 : Int32)), .val (.ref ad23), .unset, .unset] [])) U_ ∧ U_.status = .running ∧ Ended U_ below o_ ∧ (∃ v_ L_, o_ = .returned v_ ∧ Q_rm0 Z p1 cs sf ad0 ad1 ad2 ad3 ad4 ad5 ad6 ad7 ad8 ad9 ad10 ad11 ad12 ad13 ad14 ad15 ad16 ad17 ad18 ad19 ad20 ad21 ad22 ad23 ad24 ad25 ad26 ad27 ad28 ad29 ad30 ad31 ad32 ad33 h0 n0 v_ U_.heap L_ ∧ ReturnedEndW s o_ U_ L_ room_1.cells room_1.slots) := by
  refine own_go (A := Tc.setTop (mkF m 258 #[.val (.int p1), .val (.ref b1), .val (.ref b104), .val (.int (23 : Int32)), .val (.ref ad23), .unset, .unset] [(.int (46 : Int32)), (.ref b104)])) (fun t_ k_ => ?_) ?_
  · show Steps p.tables e below (Tc.setTop (mkF m 254 #[.val (.int p1), .val (.ref b1), .val (.ref b104), .val (.int (23 : Int32)), .val (.ref ad23), .unset, .unset] [])) t_
    refine XS.aloadN Xc.here hx rfl (hb hby at_254) rfl rfl ?_
    show Steps p.tables e below (Tc.setTop (mkF m 255 #[.val (.int p1), .val (.ref b1), .val (.ref b104), .val (.int (23 : Int32)), .val (.ref ad23), .unset, .unset] [(.ref b104)])) t_
    refine XS.iconst Xc.here hx rfl (hb hby at_255) ?_
    show Steps p.tables e below (Tc.setTop (mkF m 256 #[.val (.int p1), .val (.ref b1), .val (.ref b104), .val (.int (23 : Int32)), .val (.ref ad23), .unset, .unset] [(.int (2 : Int32)), (.ref b104)])) t_
    refine XS.iloadN Xc.here hx rfl (hb hby at_256) rfl ?_
    show Steps p.tables e below (Tc.setTop (mkF m 257 #[.val (.int p1), .val (.ref b1), .val (.ref b104), .val (.int (23 : Int32)), .val (.ref ad23), .unset, .unset] [(.int (23 : Int32)), (.int (2 : Int32)), (.ref b104)])) t_
    refine XS.imul Xc.here hx rfl (hb hby at_257) rfl ?_
    exact k_
  obtain ⟨cq247, kq247, q247a, q247b, q247c⟩ := isOf hZ ec zc4
  obtain ⟨_, _, ⟨T247, L247, k247, n247⟩, -, X247, ⟨Lc247, hQ247, l247, y247, z247⟩, st247⟩ := Xc.virtualBack hx (y := own_y4) (z := own_y4) hown (mvT hZ (own_w hw 81 rfl)) (mvT hZ (own_w hw 82 rfl)) (notFace_of_selects (args := #[]) (mvT hZ (own_w hw 84 rfl))) (mvT hZ (own_w hw 84 rfl)) (mvT hZ (own_w hw 83 rfl)) (by decide) (backOf (W := 0) (rmChAt l Z a0 hw [] b104 (46 : Int32) d104 kk104 (68 : Int32) own_txt (83 : Int32) sf cs Hc n0 (Nat.le_trans Z0 Kc0.1) Oc zc0 hcs zc1 hsf zc4 zc5 zc6 zc7 (by decide : ¬ ((46 : Int32) < (0 : Int32))) (by decide : (46 : Int32) < (68 : Int32)) rfl) hZ (own_w hw 85 rfl) (own_w hw 73 rfl) (by decide) (by decide)) q247a q247c (g := (mkF m 258 #[.val (.int p1), .val (.ref b1), .val (.ref b104), .val (.int (23 : Int32)), .val (.ref ad23), .unset, .unset] [(.int (46 : Int32)), (.ref b104)])) rfl (by rw [hml]; rfl) (Steps.refl _) (argsL := [(.int (46 : Int32))]) (rest := []) (lenOf pd_5 rfl) rfl (by show 2 * 0 + _ ≤ _; exact Nat.le_of_eq rfl) (hb hby at_258) (fun _ _ => ⟨rfl, ec, (by decide : 3 + 0 ≤ _), (by decide : 310 + 0 ≤ _)⟩)
  dsimp only [Pt.U, Pt.locs, Pt.cells, Pt.slots] at X247 l247 y247 z247 st247 hQ247
  subst l247 y247 z247
  obtain ⟨rfl, N247q, eh247⟩ := hQ247
  have N247 := Fr.app Nc N247q
  refine own_via st247 ?_
  refine own_go (A := T247.setTop (mkF m 269 #[.val (.int p1), .val (.ref b1), .val (.ref b104), .val (.int (23 : Int32)), .val (.ref ad23), .val (.int (83 : Int32)), .unset] [(.int (47 : Int32)), (.ref b104)])) (fun t_ k_ => ?_) ?_
  · show Steps p.tables e below (T247.setTop (mkF m 261 #[.val (.int p1), .val (.ref b1), .val (.ref b104), .val (.int (23 : Int32)), .val (.ref ad23), .unset, .unset] [(.int (83 : Int32))])) t_
    refine XS.istore X247.here hx rfl (hb hby at_261) rfl (l' := #[.val (.int p1), .val (.ref b1), .val (.ref b104), .val (.int (23 : Int32)), .val (.ref ad23), .val (.int (83 : Int32)), .unset]) rfl ?_
    show Steps p.tables e below (T247.setTop (mkF m 263 #[.val (.int p1), .val (.ref b1), .val (.ref b104), .val (.int (23 : Int32)), .val (.ref ad23), .val (.int (83 : Int32)), .unset] [])) t_
    refine XS.aloadN X247.here hx rfl (hb hby at_263) rfl rfl ?_
    show Steps p.tables e below (T247.setTop (mkF m 264 #[.val (.int p1), .val (.ref b1), .val (.ref b104), .val (.int (23 : Int32)), .val (.ref ad23), .val (.int (83 : Int32)), .unset] [(.ref b104)])) t_
    refine XS.iconst X247.here hx rfl (hb hby at_264) ?_
    show Steps p.tables e below (T247.setTop (mkF m 265 #[.val (.int p1), .val (.ref b1), .val (.ref b104), .val (.int (23 : Int32)), .val (.ref ad23), .val (.int (83 : Int32)), .unset] [(.int (2 : Int32)), (.ref b104)])) t_
    refine XS.iloadN X247.here hx rfl (hb hby at_265) rfl ?_
    show Steps p.tables e below (T247.setTop (mkF m 266 #[.val (.int p1), .val (.ref b1), .val (.ref b104), .val (.int (23 : Int32)), .val (.ref ad23), .val (.int (83 : Int32)), .unset] [(.int (23 : Int32)), (.int (2 : Int32)), (.ref b104)])) t_
    refine XS.imul X247.here hx rfl (hb hby at_266) rfl ?_
    show Steps p.tables e below (T247.setTop (mkF m 267 #[.val (.int p1), .val (.ref b1), .val (.ref b104), .val (.int (23 : Int32)), .val (.ref ad23), .val (.int (83 : Int32)), .unset] [(.int (46 : Int32)), (.ref b104)])) t_
    refine XS.iconst X247.here hx rfl (hb hby at_267) ?_
    show Steps p.tables e below (T247.setTop (mkF m 268 #[.val (.int p1), .val (.ref b1), .val (.ref b104), .val (.int (23 : Int32)), .val (.ref ad23), .val (.int (83 : Int32)), .unset] [(.int (1 : Int32)), (.int (46 : Int32)), (.ref b104)])) t_
    refine XS.iadd X247.here hx rfl (hb hby at_268) rfl ?_
    exact k_
  obtain ⟨cq248, kq248, q248a, q248b, q248c⟩ := isOf hZ eh247 zc4
  obtain ⟨_, _, ⟨T248, L248, k248, n248⟩, -, X248, ⟨Lc248, hQ248, l248, y248, z248⟩, st248⟩ := X247.virtualBack hx (y := own_y4) (z := own_y4) hown (mvT hZ (own_w hw 81 rfl)) (mvT hZ (own_w hw 82 rfl)) (notFace_of_selects (args := #[]) (mvT hZ (own_w hw 84 rfl))) (mvT hZ (own_w hw 84 rfl)) (mvT hZ (own_w hw 83 rfl)) (by decide) (backOf (W := 0) (rmChAt l Z a0 hw [] b104 (47 : Int32) d104 kk104 (68 : Int32) own_txt (84 : Int32) sf cs Hc n0 (Nat.le_trans Z0 Kc0.1) Oc zc0 hcs zc1 hsf zc4 zc5 zc6 zc7 (by decide : ¬ ((47 : Int32) < (0 : Int32))) (by decide : (47 : Int32) < (68 : Int32)) rfl) hZ (own_w hw 85 rfl) (own_w hw 73 rfl) (by decide) (by decide)) q248a q248c (g := (mkF m 269 #[.val (.int p1), .val (.ref b1), .val (.ref b104), .val (.int (23 : Int32)), .val (.ref ad23), .val (.int (83 : Int32)), .unset] [(.int (47 : Int32)), (.ref b104)])) rfl (by rw [hml]; rfl) (Steps.refl _) (argsL := [(.int (47 : Int32))]) (rest := []) (lenOf pd_5 rfl) rfl (by show 2 * 0 + _ ≤ _; exact Nat.le_of_eq rfl) (hb hby at_269) (fun _ _ => ⟨rfl, eh247, (by decide : 3 + 0 ≤ _), (by decide : 310 + 0 ≤ _)⟩)
  dsimp only [Pt.U, Pt.locs, Pt.cells, Pt.slots] at X248 l248 y248 z248 st248 hQ248
  subst l248 y248 z248
  obtain ⟨rfl, N248q, eh248⟩ := hQ248
  have N248 := Fr.app N247 N248q
  refine own_via st248 ?_
  refine own_go (A := T248.setTop (mkF m 276 #[.val (.int p1), .val (.ref b1), .val (.ref b104), .val (.int (23 : Int32)), .val (.ref ad23), .val (.int (83 : Int32)), .val (.int (84 : Int32))] [(.ref ad23)])) (fun t_ k_ => ?_) ?_
  · show Steps p.tables e below (T248.setTop (mkF m 272 #[.val (.int p1), .val (.ref b1), .val (.ref b104), .val (.int (23 : Int32)), .val (.ref ad23), .val (.int (83 : Int32)), .unset] [(.int (84 : Int32))])) t_
    refine XS.istore X248.here hx rfl (hb hby at_272) rfl (l' := #[.val (.int p1), .val (.ref b1), .val (.ref b104), .val (.int (23 : Int32)), .val (.ref ad23), .val (.int (83 : Int32)), .val (.int (84 : Int32))]) rfl ?_
    show Steps p.tables e below (T248.setTop (mkF m 274 #[.val (.int p1), .val (.ref b1), .val (.ref b104), .val (.int (23 : Int32)), .val (.ref ad23), .val (.int (83 : Int32)), .val (.int (84 : Int32))] [])) t_
    refine XS.aload X248.here hx rfl (hb hby at_274) rfl rfl ?_
    exact k_
  obtain ⟨cq249, kq249, q249a, q249b, q249c⟩ := isOf hZ eh248 (zc2.ext Oc.2)
  obtain ⟨_, _, ⟨T249, L249, k249, n249⟩, -, X249, ⟨Lc249, hQ249, l249, y249, z249⟩, st249⟩ := X248.virtualBack hx (y := own_y7) (z := own_y7) hown (mvT hZ (own_w hw 106 rfl)) (mvT hZ (own_w hw 107 rfl)) (notFace_of_selects (args := #[]) (mvT hZ (own_w hw 109 rfl))) (mvT hZ (own_w hw 109 rfl)) (mvT hZ (own_w hw 108 rfl)) (by decide) (backOf (W := 0) (rmMIn108 l Z a0 hw [] ad23 (23 : Int32) Hc n0 (Nat.le_trans Z0 Kc0.1) Oc zc2 zc3 (by decide) (by decide)) hZ (own_w hw 110 rfl) (own_w hw 3 rfl) (by decide) (by decide)) q249a q249c (g := (mkF m 276 #[.val (.int p1), .val (.ref b1), .val (.ref b104), .val (.int (23 : Int32)), .val (.ref ad23), .val (.int (83 : Int32)), .val (.int (84 : Int32))] [(.ref ad23)])) rfl (by rw [hml]; rfl) (Steps.refl _) (argsL := []) (rest := []) (lenOf pd_2 rfl) rfl (by show 2 * 0 + _ ≤ _; exact Nat.le_of_eq rfl) (hb hby at_276) (fun _ _ => ⟨rfl, eh248, (by decide : 3 + 0 ≤ _), (by decide : 310 + 0 ≤ _)⟩)
  dsimp only [Pt.U, Pt.locs, Pt.cells, Pt.slots] at X249 l249 y249 z249 st249 hQ249
  subst l249 y249 z249
  obtain ⟨rfl, N249q, eh249⟩ := hQ249
  have N249 := Fr.app N248 N249q
  refine own_via st249 ?_
  refine own_go (A := T249.setTop (mkF m 283 #[.val (.int p1), .val (.ref b1), .val (.ref b104), .val (.int (23 : Int32)), .val (.ref ad23), .val (.int (83 : Int32)), .val (.int (84 : Int32))] [(.int (84 : Int32)), (.int (83 : Int32)), (.int (0 : Int32))])) (fun t_ k_ => ?_) ?_
  · show Steps p.tables e below (T249.setTop (mkF m 279 #[.val (.int p1), .val (.ref b1), .val (.ref b104), .val (.int (23 : Int32)), .val (.ref ad23), .val (.int (83 : Int32)), .val (.int (84 : Int32))] [(.int (0 : Int32))])) t_
    refine XS.iload X249.here hx rfl (hb hby at_279) rfl ?_
    show Steps p.tables e below (T249.setTop (mkF m 281 #[.val (.int p1), .val (.ref b1), .val (.ref b104), .val (.int (23 : Int32)), .val (.ref ad23), .val (.int (83 : Int32)), .val (.int (84 : Int32))] [(.int (83 : Int32)), (.int (0 : Int32))])) t_
    refine XS.iload X249.here hx rfl (hb hby at_281) rfl ?_
    exact k_
  obtain ⟨_, _, ⟨T250, L250, k250, n250⟩, -, X250, ⟨Lc250, hQ250, l250, y250, z250⟩, st250⟩ := Jvm.LawKit.callS X249 hx (y := own_y8) hown (mvT hZ (own_w hw 120 rfl)) (mvT hZ (own_w hw 121 rfl)) (mvT hZ (own_w hw 122 rfl)) (mvT hZ (own_w hw 123 rfl)) (by decide) (backOf (W := 1) (rmES l Z a0 hw [] (84 : Int32) Hc n0 (Nat.le_trans Z0 Kc0.1) (by decide : ¬ ((84 : Int32) = (81 : Int32))) (by decide : ¬ ((84 : Int32) = (86 : Int32)))) hZ (own_w hw 123 rfl) (own_w hw 122 rfl) (by decide) (by decide)) (g := (mkF m 283 #[.val (.int p1), .val (.ref b1), .val (.ref b104), .val (.int (23 : Int32)), .val (.ref ad23), .val (.int (83 : Int32)), .val (.int (84 : Int32))] [(.int (84 : Int32)), (.int (83 : Int32)), (.int (0 : Int32))])) rfl (by rw [hml]; rfl) (argsL := [(.int (83 : Int32)), (.int (84 : Int32))]) (rest := [(.int (0 : Int32))]) (lenOf pd_6 rfl) rfl (by show 2 * 0 + _ ≤ _; exact Nat.le_of_eq rfl) (hb hby at_283) (fun _ _ => ⟨rfl, eh249, (by decide : 3 + 0 ≤ _), (by decide : 310 + 0 ≤ _)⟩)
  dsimp only [Pt.U, Pt.locs, Pt.cells, Pt.slots] at X250 l250 y250 z250 st250 hQ250
  subst l250 y250 z250
  obtain ⟨rfl, N250q, eh250⟩ := hQ250
  have N250 := Fr.app N249 N250q
  refine own_go st250 ?_
  refine own_go (A := T250.setTop (mkF m 294 #[.val (.int p1), .val (.ref b1), .val (.ref b104), .val (.int (23 : Int32)), .val (.ref ad23), .val (.int (83 : Int32)), .val (.int (84 : Int32))] [(.int (1 : Int32))])) (fun t_ k_ => ?_) ?_
  · show Steps p.tables e below (T250.setTop (mkF m 286 #[.val (.int p1), .val (.ref b1), .val (.ref b104), .val (.int (23 : Int32)), .val (.ref ad23), .val (.int (83 : Int32)), .val (.int (84 : Int32))] [(.int (0 : Int32)), (.int (0 : Int32))])) t_
    refine XS.icmpNo X250.here hx rfl (hb hby at_286) rfl (teq (by decide : (0 : Int32) = (0 : Int32))).2 ?_
    show Steps p.tables e below (T250.setTop (mkF m 289 #[.val (.int p1), .val (.ref b1), .val (.ref b104), .val (.int (23 : Int32)), .val (.ref ad23), .val (.int (83 : Int32)), .val (.int (84 : Int32))] [])) t_
    refine XS.iconst X250.here hx rfl (hb hby at_289) ?_
    show Steps p.tables e below (T250.setTop (mkF m 290 #[.val (.int p1), .val (.ref b1), .val (.ref b104), .val (.int (23 : Int32)), .val (.ref ad23), .val (.int (83 : Int32)), .val (.int (84 : Int32))] [(.int (1 : Int32))])) t_
    refine XS.goto X250.here hx rfl (pc0 := 290) (pc' := 294) rfl (hb hby at_290) (by decide) (by decide) ?_
    exact k_
  obtain ⟨fs251, hr251, hrun251, hended251, hRW251⟩ := X250.leaveW hS (by rw [eh250]; exact hk) (v := some (.int (1 : Int32))) (fun h => by rw [hret] at h; cases h)
  refine ⟨_, _, ?_, hrun251, hended251, _, _, rfl, ?_, hRW251.1, hRW251.2.1, hRW251.2.2.1, hRW251.2.2.2.mono (by decide) (by decide)⟩
  · exact retN X250 hx (t := .boolean) hret (by simp) (hb hby at_294) hr251
  · show Q_rm0 Z p1 cs sf ad0 ad1 ad2 ad3 ad4 ad5 ad6 ad7 ad8 ad9 ad10 ad11 ad12 ad13 ad14 ad15 ad16 ad17 ad18 ad19 ad20 ad21 ad22 ad23 ad24 ad25 ad26 ad27 ad28 ad29 ad30 ad31 ad32 ad33 h0 n0 _ T250.heap _
    rw [eh250]
    exact ⟨rfl, N250, Kc0⟩
set_option maxRecDepth 65536 in
set_option maxHeartbeats 40000000 in
theorem own_sufad24 (l : Launch) (Z : State) (a0 : Array Value) (hw : ∀ d ∈ tables_1, d.before a0 Z = true) (p1 : Int32) (cs : Int32) (sf : Value) (ad0 : Addr) (ad1 : Addr) (ad2 : Addr) (ad3 : Addr) (ad4 : Addr) (ad5 : Addr) (ad6 : Addr) (ad7 : Addr) (ad8 : Addr) (ad9 : Addr) (ad10 : Addr) (ad11 : Addr) (ad12 : Addr) (ad13 : Addr) (ad14 : Addr) (ad15 : Addr) (ad16 : Addr) (ad17 : Addr) (ad18 : Addr) (ad19 : Addr) (ad20 : Addr) (ad21 : Addr) (ad22 : Addr) (ad23 : Addr) (ad24 : Addr) (ad25 : Addr) (ad26 : Addr) (ad27 : Addr) (ad28 : Addr) (ad29 : Addr) (ad30 : Addr) (ad31 : Addr) (ad32 : Addr) (ad33 : Addr) (b1 : Addr) (b104 : Addr) (d104 : Addr) (kk104 : ClassId) (h0 : Heap) (n0 : Nat) (Z0 : n0 ≤ h0.size) {p : Program} {e : Env} {s : State} {m : MethodId} {below : List Frame} {meth : Method} {c : Code} {Tc : State} {Hc : Heap} {locsc : List Loc} {vmc : Vm} {kc0 : Nat} (Xc : Stand p l e room_1 (s.setVm vmc) m #[(.int p1)] below meth c Tc locsc 3 310) (hx : p.tables.exec = Jvm.exec) (hZ : Z.Warmed39 (s.setVm vmc).vm) (hby : c.code = code) (hml : c.maxLocals = 7) (hown : (s.setVm vmc).vm.findClass "com/example/querent/querent/dicom/VrHasLongLengthPinLaw" = some m.cls) (hret : meth.sig.returnType = some .boolean) (hlk : meth.locks = false) (hh : s.heap = h0) (ec : Tc.heap = Hc) (Nc : Fr n0 locsc) (Kc0 : Keep h0 Hc []) (Oc : Old Z n0 Hc) (hS : s.Since vmc kc0) (hk : kc0 ≤ Hc.size) (hSA : ∀ a ∈ Bundle.stringAtoms, a.before a0 Z = true) (zc0 : Sta Z Z.heap "java/lang/String" "COMPACT_STRINGS" "Z" (.int cs)) (zc1 : Sta Z Z.heap "jdk/internal/util/Preconditions" "SIOOBE_FORMATTER" "Ljava/util/function/BiFunction;" sf) (zc2 : Exa Z Z.heap ad24 "com/example/querent/querent/dicom/Vr") (zc3 : Fld Z Z.heap ad24 "java/lang/Enum" "ordinal" "I" (.int (24 : Int32))) (zc4 : Exa Z Hc b104 "java/lang/String") (zc5 : Fld Z Hc b104 "java/lang/String" "coder" "B" (.int (0 : Int32))) (zc6 : Fld Z Hc b104 "java/lang/String" "value" "[B" (.ref d104)) (zc7 : Arv Z Hc d104 kk104 .byte (68 : Int32) own_txt (.int (0 : Int32))) (hcs : ¬ (cs = (0 : Int32))) (hsf : sf.isRef = true) (hn0 : n0 = h0.size) (hcw : Jvm.Lit.compactW.before a0 Z = true) (hlit : Jvm.Lit.constHeld Z "com/example/querent/querent/dicom/VrHasLongLengthPinLaw" 112) :
    ∃ U_ o_, Steps p.tables e below (Tc.setTop (mkF m 254 #[.val (.int p1), .val (.ref b1), .val (.ref b104), .val (.int (24 : Int32)), .val (.ref ad24), .unset, .unset] [])) U_ ∧ U_.status = .running ∧ Ended U_ below o_ ∧ (∃ v_ L_, o_ = .returned v_ ∧ Q_rm0 Z p1 cs sf ad0 ad1 ad2 ad3 ad4 ad5 ad6 ad7 ad8 ad9 ad10 ad11 ad12 ad13 ad14 ad15 ad16 ad17 ad18 ad19 ad20 ad21 ad22 ad23 ad24 ad25 ad26 ad27 ad28 ad29 ad30 ad31 ad32 ad33 h0 n0 v_ U_.heap L_ ∧ ReturnedEndW s o_ U_ L_ room_1.cells room_1.slots) := by
  refine own_go (A := Tc.setTop (mkF m 258 #[.val (.int p1), .val (.ref b1), .val (.ref b104), .val (.int (24 : Int32)), .val (.ref ad24), .unset, .unset] [(.int (48 : Int32)), (.ref b104)])) (fun t_ k_ => ?_) ?_
  · show Steps p.tables e below (Tc.setTop (mkF m 254 #[.val (.int p1), .val (.ref b1), .val (.ref b104), .val (.int (24 : Int32)), .val (.ref ad24), .unset, .unset] [])) t_
    refine XS.aloadN Xc.here hx rfl (hb hby at_254) rfl rfl ?_
    show Steps p.tables e below (Tc.setTop (mkF m 255 #[.val (.int p1), .val (.ref b1), .val (.ref b104), .val (.int (24 : Int32)), .val (.ref ad24), .unset, .unset] [(.ref b104)])) t_
    refine XS.iconst Xc.here hx rfl (hb hby at_255) ?_
    show Steps p.tables e below (Tc.setTop (mkF m 256 #[.val (.int p1), .val (.ref b1), .val (.ref b104), .val (.int (24 : Int32)), .val (.ref ad24), .unset, .unset] [(.int (2 : Int32)), (.ref b104)])) t_
    refine XS.iloadN Xc.here hx rfl (hb hby at_256) rfl ?_
    show Steps p.tables e below (Tc.setTop (mkF m 257 #[.val (.int p1), .val (.ref b1), .val (.ref b104), .val (.int (24 : Int32)), .val (.ref ad24), .unset, .unset] [(.int (24 : Int32)), (.int (2 : Int32)), (.ref b104)])) t_
    refine XS.imul Xc.here hx rfl (hb hby at_257) rfl ?_
    exact k_
  obtain ⟨cq253, kq253, q253a, q253b, q253c⟩ := isOf hZ ec zc4
  obtain ⟨_, _, ⟨T253, L253, k253, n253⟩, -, X253, ⟨Lc253, hQ253, l253, y253, z253⟩, st253⟩ := Xc.virtualBack hx (y := own_y4) (z := own_y4) hown (mvT hZ (own_w hw 81 rfl)) (mvT hZ (own_w hw 82 rfl)) (notFace_of_selects (args := #[]) (mvT hZ (own_w hw 84 rfl))) (mvT hZ (own_w hw 84 rfl)) (mvT hZ (own_w hw 83 rfl)) (by decide) (backOf (W := 0) (rmChAt l Z a0 hw [] b104 (48 : Int32) d104 kk104 (68 : Int32) own_txt (83 : Int32) sf cs Hc n0 (Nat.le_trans Z0 Kc0.1) Oc zc0 hcs zc1 hsf zc4 zc5 zc6 zc7 (by decide : ¬ ((48 : Int32) < (0 : Int32))) (by decide : (48 : Int32) < (68 : Int32)) rfl) hZ (own_w hw 85 rfl) (own_w hw 73 rfl) (by decide) (by decide)) q253a q253c (g := (mkF m 258 #[.val (.int p1), .val (.ref b1), .val (.ref b104), .val (.int (24 : Int32)), .val (.ref ad24), .unset, .unset] [(.int (48 : Int32)), (.ref b104)])) rfl (by rw [hml]; rfl) (Steps.refl _) (argsL := [(.int (48 : Int32))]) (rest := []) (lenOf pd_5 rfl) rfl (by show 2 * 0 + _ ≤ _; exact Nat.le_of_eq rfl) (hb hby at_258) (fun _ _ => ⟨rfl, ec, (by decide : 3 + 0 ≤ _), (by decide : 310 + 0 ≤ _)⟩)
  dsimp only [Pt.U, Pt.locs, Pt.cells, Pt.slots] at X253 l253 y253 z253 st253 hQ253
  subst l253 y253 z253
  obtain ⟨rfl, N253q, eh253⟩ := hQ253
  have N253 := Fr.app Nc N253q
  refine own_via st253 ?_
  refine own_go (A := T253.setTop (mkF m 269 #[.val (.int p1), .val (.ref b1), .val (.ref b104), .val (.int (24 : Int32)), .val (.ref ad24), .val (.int (83 : Int32)), .unset] [(.int (49 : Int32)), (.ref b104)])) (fun t_ k_ => ?_) ?_
  · show Steps p.tables e below (T253.setTop (mkF m 261 #[.val (.int p1), .val (.ref b1), .val (.ref b104), .val (.int (24 : Int32)), .val (.ref ad24), .unset, .unset] [(.int (83 : Int32))])) t_
    refine XS.istore X253.here hx rfl (hb hby at_261) rfl (l' := #[.val (.int p1), .val (.ref b1), .val (.ref b104), .val (.int (24 : Int32)), .val (.ref ad24), .val (.int (83 : Int32)), .unset]) rfl ?_
    show Steps p.tables e below (T253.setTop (mkF m 263 #[.val (.int p1), .val (.ref b1), .val (.ref b104), .val (.int (24 : Int32)), .val (.ref ad24), .val (.int (83 : Int32)), .unset] [])) t_
    refine XS.aloadN X253.here hx rfl (hb hby at_263) rfl rfl ?_
    show Steps p.tables e below (T253.setTop (mkF m 264 #[.val (.int p1), .val (.ref b1), .val (.ref b104), .val (.int (24 : Int32)), .val (.ref ad24), .val (.int (83 : Int32)), .unset] [(.ref b104)])) t_
    refine XS.iconst X253.here hx rfl (hb hby at_264) ?_
    show Steps p.tables e below (T253.setTop (mkF m 265 #[.val (.int p1), .val (.ref b1), .val (.ref b104), .val (.int (24 : Int32)), .val (.ref ad24), .val (.int (83 : Int32)), .unset] [(.int (2 : Int32)), (.ref b104)])) t_
    refine XS.iloadN X253.here hx rfl (hb hby at_265) rfl ?_
    show Steps p.tables e below (T253.setTop (mkF m 266 #[.val (.int p1), .val (.ref b1), .val (.ref b104), .val (.int (24 : Int32)), .val (.ref ad24), .val (.int (83 : Int32)), .unset] [(.int (24 : Int32)), (.int (2 : Int32)), (.ref b104)])) t_
    refine XS.imul X253.here hx rfl (hb hby at_266) rfl ?_
    show Steps p.tables e below (T253.setTop (mkF m 267 #[.val (.int p1), .val (.ref b1), .val (.ref b104), .val (.int (24 : Int32)), .val (.ref ad24), .val (.int (83 : Int32)), .unset] [(.int (48 : Int32)), (.ref b104)])) t_
    refine XS.iconst X253.here hx rfl (hb hby at_267) ?_
    show Steps p.tables e below (T253.setTop (mkF m 268 #[.val (.int p1), .val (.ref b1), .val (.ref b104), .val (.int (24 : Int32)), .val (.ref ad24), .val (.int (83 : Int32)), .unset] [(.int (1 : Int32)), (.int (48 : Int32)), (.ref b104)])) t_
    refine XS.iadd X253.here hx rfl (hb hby at_268) rfl ?_
    exact k_
  obtain ⟨cq254, kq254, q254a, q254b, q254c⟩ := isOf hZ eh253 zc4
  obtain ⟨_, _, ⟨T254, L254, k254, n254⟩, -, X254, ⟨Lc254, hQ254, l254, y254, z254⟩, st254⟩ := X253.virtualBack hx (y := own_y4) (z := own_y4) hown (mvT hZ (own_w hw 81 rfl)) (mvT hZ (own_w hw 82 rfl)) (notFace_of_selects (args := #[]) (mvT hZ (own_w hw 84 rfl))) (mvT hZ (own_w hw 84 rfl)) (mvT hZ (own_w hw 83 rfl)) (by decide) (backOf (W := 0) (rmChAt l Z a0 hw [] b104 (49 : Int32) d104 kk104 (68 : Int32) own_txt (86 : Int32) sf cs Hc n0 (Nat.le_trans Z0 Kc0.1) Oc zc0 hcs zc1 hsf zc4 zc5 zc6 zc7 (by decide : ¬ ((49 : Int32) < (0 : Int32))) (by decide : (49 : Int32) < (68 : Int32)) rfl) hZ (own_w hw 85 rfl) (own_w hw 73 rfl) (by decide) (by decide)) q254a q254c (g := (mkF m 269 #[.val (.int p1), .val (.ref b1), .val (.ref b104), .val (.int (24 : Int32)), .val (.ref ad24), .val (.int (83 : Int32)), .unset] [(.int (49 : Int32)), (.ref b104)])) rfl (by rw [hml]; rfl) (Steps.refl _) (argsL := [(.int (49 : Int32))]) (rest := []) (lenOf pd_5 rfl) rfl (by show 2 * 0 + _ ≤ _; exact Nat.le_of_eq rfl) (hb hby at_269) (fun _ _ => ⟨rfl, eh253, (by decide : 3 + 0 ≤ _), (by decide : 310 + 0 ≤ _)⟩)
  dsimp only [Pt.U, Pt.locs, Pt.cells, Pt.slots] at X254 l254 y254 z254 st254 hQ254
  subst l254 y254 z254
  obtain ⟨rfl, N254q, eh254⟩ := hQ254
  have N254 := Fr.app N253 N254q
  refine own_via st254 ?_
  refine own_go (A := T254.setTop (mkF m 276 #[.val (.int p1), .val (.ref b1), .val (.ref b104), .val (.int (24 : Int32)), .val (.ref ad24), .val (.int (83 : Int32)), .val (.int (86 : Int32))] [(.ref ad24)])) (fun t_ k_ => ?_) ?_
  · show Steps p.tables e below (T254.setTop (mkF m 272 #[.val (.int p1), .val (.ref b1), .val (.ref b104), .val (.int (24 : Int32)), .val (.ref ad24), .val (.int (83 : Int32)), .unset] [(.int (86 : Int32))])) t_
    refine XS.istore X254.here hx rfl (hb hby at_272) rfl (l' := #[.val (.int p1), .val (.ref b1), .val (.ref b104), .val (.int (24 : Int32)), .val (.ref ad24), .val (.int (83 : Int32)), .val (.int (86 : Int32))]) rfl ?_
    show Steps p.tables e below (T254.setTop (mkF m 274 #[.val (.int p1), .val (.ref b1), .val (.ref b104), .val (.int (24 : Int32)), .val (.ref ad24), .val (.int (83 : Int32)), .val (.int (86 : Int32))] [])) t_
    refine XS.aload X254.here hx rfl (hb hby at_274) rfl rfl ?_
    exact k_
  obtain ⟨cq255, kq255, q255a, q255b, q255c⟩ := isOf hZ eh254 (zc2.ext Oc.2)
  obtain ⟨_, _, ⟨T255, L255, k255, n255⟩, -, X255, ⟨Lc255, hQ255, l255, y255, z255⟩, st255⟩ := X254.virtualBack hx (y := own_y7) (z := own_y7) hown (mvT hZ (own_w hw 106 rfl)) (mvT hZ (own_w hw 107 rfl)) (notFace_of_selects (args := #[]) (mvT hZ (own_w hw 109 rfl))) (mvT hZ (own_w hw 109 rfl)) (mvT hZ (own_w hw 108 rfl)) (by decide) (backOf (W := 0) (rmMIn104 l Z a0 hw [] ad24 (24 : Int32) Hc n0 (Nat.le_trans Z0 Kc0.1) Oc zc2 zc3 (by decide) (by decide)) hZ (own_w hw 110 rfl) (own_w hw 3 rfl) (by decide) (by decide)) q255a q255c (g := (mkF m 276 #[.val (.int p1), .val (.ref b1), .val (.ref b104), .val (.int (24 : Int32)), .val (.ref ad24), .val (.int (83 : Int32)), .val (.int (86 : Int32))] [(.ref ad24)])) rfl (by rw [hml]; rfl) (Steps.refl _) (argsL := []) (rest := []) (lenOf pd_2 rfl) rfl (by show 2 * 0 + _ ≤ _; exact Nat.le_of_eq rfl) (hb hby at_276) (fun _ _ => ⟨rfl, eh254, (by decide : 3 + 0 ≤ _), (by decide : 310 + 0 ≤ _)⟩)
  dsimp only [Pt.U, Pt.locs, Pt.cells, Pt.slots] at X255 l255 y255 z255 st255 hQ255
  subst l255 y255 z255
  obtain ⟨rfl, N255q, eh255⟩ := hQ255
  have N255 := Fr.app N254 N255q
  refine own_via st255 ?_
  refine own_go (A := T255.setTop (mkF m 283 #[.val (.int p1), .val (.ref b1), .val (.ref b104), .val (.int (24 : Int32)), .val (.ref ad24), .val (.int (83 : Int32)), .val (.int (86 : Int32))] [(.int (86 : Int32)), (.int (83 : Int32)), (.int (1 : Int32))])) (fun t_ k_ => ?_) ?_
  · show Steps p.tables e below (T255.setTop (mkF m 279 #[.val (.int p1), .val (.ref b1), .val (.ref b104), .val (.int (24 : Int32)), .val (.ref ad24), .val (.int (83 : Int32)), .val (.int (86 : Int32))] [(.int (1 : Int32))])) t_
    refine XS.iload X255.here hx rfl (hb hby at_279) rfl ?_
    show Steps p.tables e below (T255.setTop (mkF m 281 #[.val (.int p1), .val (.ref b1), .val (.ref b104), .val (.int (24 : Int32)), .val (.ref ad24), .val (.int (83 : Int32)), .val (.int (86 : Int32))] [(.int (83 : Int32)), (.int (1 : Int32))])) t_
    refine XS.iload X255.here hx rfl (hb hby at_281) rfl ?_
    exact k_
  obtain ⟨_, _, ⟨T256, L256, k256, n256⟩, -, X256, ⟨Lc256, hQ256, l256, y256, z256⟩, st256⟩ := Jvm.LawKit.callS X255 hx (y := own_y8) hown (mvT hZ (own_w hw 120 rfl)) (mvT hZ (own_w hw 121 rfl)) (mvT hZ (own_w hw 122 rfl)) (mvT hZ (own_w hw 123 rfl)) (by decide) (backOf (W := 1) (rmESV l Z a0 hw [] Hc n0 (Nat.le_trans Z0 Kc0.1)) hZ (own_w hw 123 rfl) (own_w hw 122 rfl) (by decide) (by decide)) (g := (mkF m 283 #[.val (.int p1), .val (.ref b1), .val (.ref b104), .val (.int (24 : Int32)), .val (.ref ad24), .val (.int (83 : Int32)), .val (.int (86 : Int32))] [(.int (86 : Int32)), (.int (83 : Int32)), (.int (1 : Int32))])) rfl (by rw [hml]; rfl) (argsL := [(.int (83 : Int32)), (.int (86 : Int32))]) (rest := [(.int (1 : Int32))]) (lenOf pd_6 rfl) rfl (by show 2 * 0 + _ ≤ _; exact Nat.le_of_eq rfl) (hb hby at_283) (fun _ _ => ⟨rfl, eh255, (by decide : 3 + 0 ≤ _), (by decide : 310 + 0 ≤ _)⟩)
  dsimp only [Pt.U, Pt.locs, Pt.cells, Pt.slots] at X256 l256 y256 z256 st256 hQ256
  subst l256 y256 z256
  obtain ⟨rfl, N256q, eh256⟩ := hQ256
  have N256 := Fr.app N255 N256q
  refine own_go st256 ?_
  refine own_go (A := T256.setTop (mkF m 294 #[.val (.int p1), .val (.ref b1), .val (.ref b104), .val (.int (24 : Int32)), .val (.ref ad24), .val (.int (83 : Int32)), .val (.int (86 : Int32))] [(.int (1 : Int32))])) (fun t_ k_ => ?_) ?_
  · show Steps p.tables e below (T256.setTop (mkF m 286 #[.val (.int p1), .val (.ref b1), .val (.ref b104), .val (.int (24 : Int32)), .val (.ref ad24), .val (.int (83 : Int32)), .val (.int (86 : Int32))] [(.int (1 : Int32)), (.int (1 : Int32))])) t_
    refine XS.icmpNo X256.here hx rfl (hb hby at_286) rfl (teq (by decide : (1 : Int32) = (1 : Int32))).2 ?_
    show Steps p.tables e below (T256.setTop (mkF m 289 #[.val (.int p1), .val (.ref b1), .val (.ref b104), .val (.int (24 : Int32)), .val (.ref ad24), .val (.int (83 : Int32)), .val (.int (86 : Int32))] [])) t_
    refine XS.iconst X256.here hx rfl (hb hby at_289) ?_
    show Steps p.tables e below (T256.setTop (mkF m 290 #[.val (.int p1), .val (.ref b1), .val (.ref b104), .val (.int (24 : Int32)), .val (.ref ad24), .val (.int (83 : Int32)), .val (.int (86 : Int32))] [(.int (1 : Int32))])) t_
    refine XS.goto X256.here hx rfl (pc0 := 290) (pc' := 294) rfl (hb hby at_290) (by decide) (by decide) ?_
    exact k_
  obtain ⟨fs257, hr257, hrun257, hended257, hRW257⟩ := X256.leaveW hS (by rw [eh256]; exact hk) (v := some (.int (1 : Int32))) (fun h => by rw [hret] at h; cases h)
  refine ⟨_, _, ?_, hrun257, hended257, _, _, rfl, ?_, hRW257.1, hRW257.2.1, hRW257.2.2.1, hRW257.2.2.2.mono (by decide) (by decide)⟩
  · exact retN X256 hx (t := .boolean) hret (by simp) (hb hby at_294) hr257
  · show Q_rm0 Z p1 cs sf ad0 ad1 ad2 ad3 ad4 ad5 ad6 ad7 ad8 ad9 ad10 ad11 ad12 ad13 ad14 ad15 ad16 ad17 ad18 ad19 ad20 ad21 ad22 ad23 ad24 ad25 ad26 ad27 ad28 ad29 ad30 ad31 ad32 ad33 h0 n0 _ T256.heap _
    rw [eh256]
    exact ⟨rfl, N256, Kc0⟩
set_option maxRecDepth 65536 in
set_option maxHeartbeats 40000000 in
theorem own_sufad25 (l : Launch) (Z : State) (a0 : Array Value) (hw : ∀ d ∈ tables_1, d.before a0 Z = true) (p1 : Int32) (cs : Int32) (sf : Value) (ad0 : Addr) (ad1 : Addr) (ad2 : Addr) (ad3 : Addr) (ad4 : Addr) (ad5 : Addr) (ad6 : Addr) (ad7 : Addr) (ad8 : Addr) (ad9 : Addr) (ad10 : Addr) (ad11 : Addr) (ad12 : Addr) (ad13 : Addr) (ad14 : Addr) (ad15 : Addr) (ad16 : Addr) (ad17 : Addr) (ad18 : Addr) (ad19 : Addr) (ad20 : Addr) (ad21 : Addr) (ad22 : Addr) (ad23 : Addr) (ad24 : Addr) (ad25 : Addr) (ad26 : Addr) (ad27 : Addr) (ad28 : Addr) (ad29 : Addr) (ad30 : Addr) (ad31 : Addr) (ad32 : Addr) (ad33 : Addr) (b1 : Addr) (b104 : Addr) (d104 : Addr) (kk104 : ClassId) (h0 : Heap) (n0 : Nat) (Z0 : n0 ≤ h0.size) {p : Program} {e : Env} {s : State} {m : MethodId} {below : List Frame} {meth : Method} {c : Code} {Tc : State} {Hc : Heap} {locsc : List Loc} {vmc : Vm} {kc0 : Nat} (Xc : Stand p l e room_1 (s.setVm vmc) m #[(.int p1)] below meth c Tc locsc 3 310) (hx : p.tables.exec = Jvm.exec) (hZ : Z.Warmed39 (s.setVm vmc).vm) (hby : c.code = code) (hml : c.maxLocals = 7) (hown : (s.setVm vmc).vm.findClass "com/example/querent/querent/dicom/VrHasLongLengthPinLaw" = some m.cls) (hret : meth.sig.returnType = some .boolean) (hlk : meth.locks = false) (hh : s.heap = h0) (ec : Tc.heap = Hc) (Nc : Fr n0 locsc) (Kc0 : Keep h0 Hc []) (Oc : Old Z n0 Hc) (hS : s.Since vmc kc0) (hk : kc0 ≤ Hc.size) (hSA : ∀ a ∈ Bundle.stringAtoms, a.before a0 Z = true) (zc0 : Sta Z Z.heap "java/lang/String" "COMPACT_STRINGS" "Z" (.int cs)) (zc1 : Sta Z Z.heap "jdk/internal/util/Preconditions" "SIOOBE_FORMATTER" "Ljava/util/function/BiFunction;" sf) (zc2 : Exa Z Z.heap ad25 "com/example/querent/querent/dicom/Vr") (zc3 : Fld Z Z.heap ad25 "java/lang/Enum" "ordinal" "I" (.int (25 : Int32))) (zc4 : Exa Z Hc b104 "java/lang/String") (zc5 : Fld Z Hc b104 "java/lang/String" "coder" "B" (.int (0 : Int32))) (zc6 : Fld Z Hc b104 "java/lang/String" "value" "[B" (.ref d104)) (zc7 : Arv Z Hc d104 kk104 .byte (68 : Int32) own_txt (.int (0 : Int32))) (hcs : ¬ (cs = (0 : Int32))) (hsf : sf.isRef = true) (hn0 : n0 = h0.size) (hcw : Jvm.Lit.compactW.before a0 Z = true) (hlit : Jvm.Lit.constHeld Z "com/example/querent/querent/dicom/VrHasLongLengthPinLaw" 112) :
    ∃ U_ o_, Steps p.tables e below (Tc.setTop (mkF m 254 #[.val (.int p1), .val (.ref b1), .val (.ref b104), .val (.int (25 : Int32)), .val (.ref ad25), .unset, .unset] [])) U_ ∧ U_.status = .running ∧ Ended U_ below o_ ∧ (∃ v_ L_, o_ = .returned v_ ∧ Q_rm0 Z p1 cs sf ad0 ad1 ad2 ad3 ad4 ad5 ad6 ad7 ad8 ad9 ad10 ad11 ad12 ad13 ad14 ad15 ad16 ad17 ad18 ad19 ad20 ad21 ad22 ad23 ad24 ad25 ad26 ad27 ad28 ad29 ad30 ad31 ad32 ad33 h0 n0 v_ U_.heap L_ ∧ ReturnedEndW s o_ U_ L_ room_1.cells room_1.slots) := by
  refine own_go (A := Tc.setTop (mkF m 258 #[.val (.int p1), .val (.ref b1), .val (.ref b104), .val (.int (25 : Int32)), .val (.ref ad25), .unset, .unset] [(.int (50 : Int32)), (.ref b104)])) (fun t_ k_ => ?_) ?_
  · show Steps p.tables e below (Tc.setTop (mkF m 254 #[.val (.int p1), .val (.ref b1), .val (.ref b104), .val (.int (25 : Int32)), .val (.ref ad25), .unset, .unset] [])) t_
    refine XS.aloadN Xc.here hx rfl (hb hby at_254) rfl rfl ?_
    show Steps p.tables e below (Tc.setTop (mkF m 255 #[.val (.int p1), .val (.ref b1), .val (.ref b104), .val (.int (25 : Int32)), .val (.ref ad25), .unset, .unset] [(.ref b104)])) t_
    refine XS.iconst Xc.here hx rfl (hb hby at_255) ?_
    show Steps p.tables e below (Tc.setTop (mkF m 256 #[.val (.int p1), .val (.ref b1), .val (.ref b104), .val (.int (25 : Int32)), .val (.ref ad25), .unset, .unset] [(.int (2 : Int32)), (.ref b104)])) t_
    refine XS.iloadN Xc.here hx rfl (hb hby at_256) rfl ?_
    show Steps p.tables e below (Tc.setTop (mkF m 257 #[.val (.int p1), .val (.ref b1), .val (.ref b104), .val (.int (25 : Int32)), .val (.ref ad25), .unset, .unset] [(.int (25 : Int32)), (.int (2 : Int32)), (.ref b104)])) t_
    refine XS.imul Xc.here hx rfl (hb hby at_257) rfl ?_
    exact k_
  obtain ⟨cq259, kq259, q259a, q259b, q259c⟩ := isOf hZ ec zc4
  obtain ⟨_, _, ⟨T259, L259, k259, n259⟩, -, X259, ⟨Lc259, hQ259, l259, y259, z259⟩, st259⟩ := Xc.virtualBack hx (y := own_y4) (z := own_y4) hown (mvT hZ (own_w hw 81 rfl)) (mvT hZ (own_w hw 82 rfl)) (notFace_of_selects (args := #[]) (mvT hZ (own_w hw 84 rfl))) (mvT hZ (own_w hw 84 rfl)) (mvT hZ (own_w hw 83 rfl)) (by decide) (backOf (W := 0) (rmChAt l Z a0 hw [] b104 (50 : Int32) d104 kk104 (68 : Int32) own_txt (84 : Int32) sf cs Hc n0 (Nat.le_trans Z0 Kc0.1) Oc zc0 hcs zc1 hsf zc4 zc5 zc6 zc7 (by decide : ¬ ((50 : Int32) < (0 : Int32))) (by decide : (50 : Int32) < (68 : Int32)) rfl) hZ (own_w hw 85 rfl) (own_w hw 73 rfl) (by decide) (by decide)) q259a q259c (g := (mkF m 258 #[.val (.int p1), .val (.ref b1), .val (.ref b104), .val (.int (25 : Int32)), .val (.ref ad25), .unset, .unset] [(.int (50 : Int32)), (.ref b104)])) rfl (by rw [hml]; rfl) (Steps.refl _) (argsL := [(.int (50 : Int32))]) (rest := []) (lenOf pd_5 rfl) rfl (by show 2 * 0 + _ ≤ _; exact Nat.le_of_eq rfl) (hb hby at_258) (fun _ _ => ⟨rfl, ec, (by decide : 3 + 0 ≤ _), (by decide : 310 + 0 ≤ _)⟩)
  dsimp only [Pt.U, Pt.locs, Pt.cells, Pt.slots] at X259 l259 y259 z259 st259 hQ259
  subst l259 y259 z259
  obtain ⟨rfl, N259q, eh259⟩ := hQ259
  have N259 := Fr.app Nc N259q
  refine own_via st259 ?_
  refine own_go (A := T259.setTop (mkF m 269 #[.val (.int p1), .val (.ref b1), .val (.ref b104), .val (.int (25 : Int32)), .val (.ref ad25), .val (.int (84 : Int32)), .unset] [(.int (51 : Int32)), (.ref b104)])) (fun t_ k_ => ?_) ?_
  · show Steps p.tables e below (T259.setTop (mkF m 261 #[.val (.int p1), .val (.ref b1), .val (.ref b104), .val (.int (25 : Int32)), .val (.ref ad25), .unset, .unset] [(.int (84 : Int32))])) t_
    refine XS.istore X259.here hx rfl (hb hby at_261) rfl (l' := #[.val (.int p1), .val (.ref b1), .val (.ref b104), .val (.int (25 : Int32)), .val (.ref ad25), .val (.int (84 : Int32)), .unset]) rfl ?_
    show Steps p.tables e below (T259.setTop (mkF m 263 #[.val (.int p1), .val (.ref b1), .val (.ref b104), .val (.int (25 : Int32)), .val (.ref ad25), .val (.int (84 : Int32)), .unset] [])) t_
    refine XS.aloadN X259.here hx rfl (hb hby at_263) rfl rfl ?_
    show Steps p.tables e below (T259.setTop (mkF m 264 #[.val (.int p1), .val (.ref b1), .val (.ref b104), .val (.int (25 : Int32)), .val (.ref ad25), .val (.int (84 : Int32)), .unset] [(.ref b104)])) t_
    refine XS.iconst X259.here hx rfl (hb hby at_264) ?_
    show Steps p.tables e below (T259.setTop (mkF m 265 #[.val (.int p1), .val (.ref b1), .val (.ref b104), .val (.int (25 : Int32)), .val (.ref ad25), .val (.int (84 : Int32)), .unset] [(.int (2 : Int32)), (.ref b104)])) t_
    refine XS.iloadN X259.here hx rfl (hb hby at_265) rfl ?_
    show Steps p.tables e below (T259.setTop (mkF m 266 #[.val (.int p1), .val (.ref b1), .val (.ref b104), .val (.int (25 : Int32)), .val (.ref ad25), .val (.int (84 : Int32)), .unset] [(.int (25 : Int32)), (.int (2 : Int32)), (.ref b104)])) t_
    refine XS.imul X259.here hx rfl (hb hby at_266) rfl ?_
    show Steps p.tables e below (T259.setTop (mkF m 267 #[.val (.int p1), .val (.ref b1), .val (.ref b104), .val (.int (25 : Int32)), .val (.ref ad25), .val (.int (84 : Int32)), .unset] [(.int (50 : Int32)), (.ref b104)])) t_
    refine XS.iconst X259.here hx rfl (hb hby at_267) ?_
    show Steps p.tables e below (T259.setTop (mkF m 268 #[.val (.int p1), .val (.ref b1), .val (.ref b104), .val (.int (25 : Int32)), .val (.ref ad25), .val (.int (84 : Int32)), .unset] [(.int (1 : Int32)), (.int (50 : Int32)), (.ref b104)])) t_
    refine XS.iadd X259.here hx rfl (hb hby at_268) rfl ?_
    exact k_
  obtain ⟨cq260, kq260, q260a, q260b, q260c⟩ := isOf hZ eh259 zc4
  obtain ⟨_, _, ⟨T260, L260, k260, n260⟩, -, X260, ⟨Lc260, hQ260, l260, y260, z260⟩, st260⟩ := X259.virtualBack hx (y := own_y4) (z := own_y4) hown (mvT hZ (own_w hw 81 rfl)) (mvT hZ (own_w hw 82 rfl)) (notFace_of_selects (args := #[]) (mvT hZ (own_w hw 84 rfl))) (mvT hZ (own_w hw 84 rfl)) (mvT hZ (own_w hw 83 rfl)) (by decide) (backOf (W := 0) (rmChAt l Z a0 hw [] b104 (51 : Int32) d104 kk104 (68 : Int32) own_txt (77 : Int32) sf cs Hc n0 (Nat.le_trans Z0 Kc0.1) Oc zc0 hcs zc1 hsf zc4 zc5 zc6 zc7 (by decide : ¬ ((51 : Int32) < (0 : Int32))) (by decide : (51 : Int32) < (68 : Int32)) rfl) hZ (own_w hw 85 rfl) (own_w hw 73 rfl) (by decide) (by decide)) q260a q260c (g := (mkF m 269 #[.val (.int p1), .val (.ref b1), .val (.ref b104), .val (.int (25 : Int32)), .val (.ref ad25), .val (.int (84 : Int32)), .unset] [(.int (51 : Int32)), (.ref b104)])) rfl (by rw [hml]; rfl) (Steps.refl _) (argsL := [(.int (51 : Int32))]) (rest := []) (lenOf pd_5 rfl) rfl (by show 2 * 0 + _ ≤ _; exact Nat.le_of_eq rfl) (hb hby at_269) (fun _ _ => ⟨rfl, eh259, (by decide : 3 + 0 ≤ _), (by decide : 310 + 0 ≤ _)⟩)
  dsimp only [Pt.U, Pt.locs, Pt.cells, Pt.slots] at X260 l260 y260 z260 st260 hQ260
  subst l260 y260 z260
  obtain ⟨rfl, N260q, eh260⟩ := hQ260
  have N260 := Fr.app N259 N260q
  refine own_via st260 ?_
  refine own_go (A := T260.setTop (mkF m 276 #[.val (.int p1), .val (.ref b1), .val (.ref b104), .val (.int (25 : Int32)), .val (.ref ad25), .val (.int (84 : Int32)), .val (.int (77 : Int32))] [(.ref ad25)])) (fun t_ k_ => ?_) ?_
  · show Steps p.tables e below (T260.setTop (mkF m 272 #[.val (.int p1), .val (.ref b1), .val (.ref b104), .val (.int (25 : Int32)), .val (.ref ad25), .val (.int (84 : Int32)), .unset] [(.int (77 : Int32))])) t_
    refine XS.istore X260.here hx rfl (hb hby at_272) rfl (l' := #[.val (.int p1), .val (.ref b1), .val (.ref b104), .val (.int (25 : Int32)), .val (.ref ad25), .val (.int (84 : Int32)), .val (.int (77 : Int32))]) rfl ?_
    show Steps p.tables e below (T260.setTop (mkF m 274 #[.val (.int p1), .val (.ref b1), .val (.ref b104), .val (.int (25 : Int32)), .val (.ref ad25), .val (.int (84 : Int32)), .val (.int (77 : Int32))] [])) t_
    refine XS.aload X260.here hx rfl (hb hby at_274) rfl rfl ?_
    exact k_
  obtain ⟨cq261, kq261, q261a, q261b, q261c⟩ := isOf hZ eh260 (zc2.ext Oc.2)
  obtain ⟨_, _, ⟨T261, L261, k261, n261⟩, -, X261, ⟨Lc261, hQ261, l261, y261, z261⟩, st261⟩ := X260.virtualBack hx (y := own_y7) (z := own_y7) hown (mvT hZ (own_w hw 106 rfl)) (mvT hZ (own_w hw 107 rfl)) (notFace_of_selects (args := #[]) (mvT hZ (own_w hw 109 rfl))) (mvT hZ (own_w hw 109 rfl)) (mvT hZ (own_w hw 108 rfl)) (by decide) (backOf (W := 0) (rmMIn108 l Z a0 hw [] ad25 (25 : Int32) Hc n0 (Nat.le_trans Z0 Kc0.1) Oc zc2 zc3 (by decide) (by decide)) hZ (own_w hw 110 rfl) (own_w hw 3 rfl) (by decide) (by decide)) q261a q261c (g := (mkF m 276 #[.val (.int p1), .val (.ref b1), .val (.ref b104), .val (.int (25 : Int32)), .val (.ref ad25), .val (.int (84 : Int32)), .val (.int (77 : Int32))] [(.ref ad25)])) rfl (by rw [hml]; rfl) (Steps.refl _) (argsL := []) (rest := []) (lenOf pd_2 rfl) rfl (by show 2 * 0 + _ ≤ _; exact Nat.le_of_eq rfl) (hb hby at_276) (fun _ _ => ⟨rfl, eh260, (by decide : 3 + 0 ≤ _), (by decide : 310 + 0 ≤ _)⟩)
  dsimp only [Pt.U, Pt.locs, Pt.cells, Pt.slots] at X261 l261 y261 z261 st261 hQ261
  subst l261 y261 z261
  obtain ⟨rfl, N261q, eh261⟩ := hQ261
  have N261 := Fr.app N260 N261q
  refine own_via st261 ?_
  refine own_go (A := T261.setTop (mkF m 283 #[.val (.int p1), .val (.ref b1), .val (.ref b104), .val (.int (25 : Int32)), .val (.ref ad25), .val (.int (84 : Int32)), .val (.int (77 : Int32))] [(.int (77 : Int32)), (.int (84 : Int32)), (.int (0 : Int32))])) (fun t_ k_ => ?_) ?_
  · show Steps p.tables e below (T261.setTop (mkF m 279 #[.val (.int p1), .val (.ref b1), .val (.ref b104), .val (.int (25 : Int32)), .val (.ref ad25), .val (.int (84 : Int32)), .val (.int (77 : Int32))] [(.int (0 : Int32))])) t_
    refine XS.iload X261.here hx rfl (hb hby at_279) rfl ?_
    show Steps p.tables e below (T261.setTop (mkF m 281 #[.val (.int p1), .val (.ref b1), .val (.ref b104), .val (.int (25 : Int32)), .val (.ref ad25), .val (.int (84 : Int32)), .val (.int (77 : Int32))] [(.int (84 : Int32)), (.int (0 : Int32))])) t_
    refine XS.iload X261.here hx rfl (hb hby at_281) rfl ?_
    exact k_
  obtain ⟨_, _, ⟨T262, L262, k262, n262⟩, -, X262, ⟨Lc262, hQ262, l262, y262, z262⟩, st262⟩ := Jvm.LawKit.callS X261 hx (y := own_y8) hown (mvT hZ (own_w hw 120 rfl)) (mvT hZ (own_w hw 121 rfl)) (mvT hZ (own_w hw 122 rfl)) (mvT hZ (own_w hw 123 rfl)) (by decide) (backOf (W := 1) (rmEX l Z a0 hw [] (84 : Int32) (77 : Int32) Hc n0 (Nat.le_trans Z0 Kc0.1) (by decide : ¬ ((84 : Int32) = (79 : Int32))) (by decide : ¬ ((84 : Int32) = (83 : Int32))) (by decide : ¬ ((84 : Int32) = (85 : Int32)))) hZ (own_w hw 123 rfl) (own_w hw 122 rfl) (by decide) (by decide)) (g := (mkF m 283 #[.val (.int p1), .val (.ref b1), .val (.ref b104), .val (.int (25 : Int32)), .val (.ref ad25), .val (.int (84 : Int32)), .val (.int (77 : Int32))] [(.int (77 : Int32)), (.int (84 : Int32)), (.int (0 : Int32))])) rfl (by rw [hml]; rfl) (argsL := [(.int (84 : Int32)), (.int (77 : Int32))]) (rest := [(.int (0 : Int32))]) (lenOf pd_6 rfl) rfl (by show 2 * 0 + _ ≤ _; exact Nat.le_of_eq rfl) (hb hby at_283) (fun _ _ => ⟨rfl, eh261, (by decide : 3 + 0 ≤ _), (by decide : 310 + 0 ≤ _)⟩)
  dsimp only [Pt.U, Pt.locs, Pt.cells, Pt.slots] at X262 l262 y262 z262 st262 hQ262
  subst l262 y262 z262
  obtain ⟨rfl, N262q, eh262⟩ := hQ262
  have N262 := Fr.app N261 N262q
  refine own_go st262 ?_
  refine own_go (A := T262.setTop (mkF m 294 #[.val (.int p1), .val (.ref b1), .val (.ref b104), .val (.int (25 : Int32)), .val (.ref ad25), .val (.int (84 : Int32)), .val (.int (77 : Int32))] [(.int (1 : Int32))])) (fun t_ k_ => ?_) ?_
  · show Steps p.tables e below (T262.setTop (mkF m 286 #[.val (.int p1), .val (.ref b1), .val (.ref b104), .val (.int (25 : Int32)), .val (.ref ad25), .val (.int (84 : Int32)), .val (.int (77 : Int32))] [(.int (0 : Int32)), (.int (0 : Int32))])) t_
    refine XS.icmpNo X262.here hx rfl (hb hby at_286) rfl (teq (by decide : (0 : Int32) = (0 : Int32))).2 ?_
    show Steps p.tables e below (T262.setTop (mkF m 289 #[.val (.int p1), .val (.ref b1), .val (.ref b104), .val (.int (25 : Int32)), .val (.ref ad25), .val (.int (84 : Int32)), .val (.int (77 : Int32))] [])) t_
    refine XS.iconst X262.here hx rfl (hb hby at_289) ?_
    show Steps p.tables e below (T262.setTop (mkF m 290 #[.val (.int p1), .val (.ref b1), .val (.ref b104), .val (.int (25 : Int32)), .val (.ref ad25), .val (.int (84 : Int32)), .val (.int (77 : Int32))] [(.int (1 : Int32))])) t_
    refine XS.goto X262.here hx rfl (pc0 := 290) (pc' := 294) rfl (hb hby at_290) (by decide) (by decide) ?_
    exact k_
  obtain ⟨fs263, hr263, hrun263, hended263, hRW263⟩ := X262.leaveW hS (by rw [eh262]; exact hk) (v := some (.int (1 : Int32))) (fun h => by rw [hret] at h; cases h)
  refine ⟨_, _, ?_, hrun263, hended263, _, _, rfl, ?_, hRW263.1, hRW263.2.1, hRW263.2.2.1, hRW263.2.2.2.mono (by decide) (by decide)⟩
  · exact retN X262 hx (t := .boolean) hret (by simp) (hb hby at_294) hr263
  · show Q_rm0 Z p1 cs sf ad0 ad1 ad2 ad3 ad4 ad5 ad6 ad7 ad8 ad9 ad10 ad11 ad12 ad13 ad14 ad15 ad16 ad17 ad18 ad19 ad20 ad21 ad22 ad23 ad24 ad25 ad26 ad27 ad28 ad29 ad30 ad31 ad32 ad33 h0 n0 _ T262.heap _
    rw [eh262]
    exact ⟨rfl, N262, Kc0⟩
set_option maxRecDepth 65536 in
set_option maxHeartbeats 40000000 in
theorem own_sufad26 (l : Launch) (Z : State) (a0 : Array Value) (hw : ∀ d ∈ tables_1, d.before a0 Z = true) (p1 : Int32) (cs : Int32) (sf : Value) (ad0 : Addr) (ad1 : Addr) (ad2 : Addr) (ad3 : Addr) (ad4 : Addr) (ad5 : Addr) (ad6 : Addr) (ad7 : Addr) (ad8 : Addr) (ad9 : Addr) (ad10 : Addr) (ad11 : Addr) (ad12 : Addr) (ad13 : Addr) (ad14 : Addr) (ad15 : Addr) (ad16 : Addr) (ad17 : Addr) (ad18 : Addr) (ad19 : Addr) (ad20 : Addr) (ad21 : Addr) (ad22 : Addr) (ad23 : Addr) (ad24 : Addr) (ad25 : Addr) (ad26 : Addr) (ad27 : Addr) (ad28 : Addr) (ad29 : Addr) (ad30 : Addr) (ad31 : Addr) (ad32 : Addr) (ad33 : Addr) (b1 : Addr) (b104 : Addr) (d104 : Addr) (kk104 : ClassId) (h0 : Heap) (n0 : Nat) (Z0 : n0 ≤ h0.size) {p : Program} {e : Env} {s : State} {m : MethodId} {below : List Frame} {meth : Method} {c : Code} {Tc : State} {Hc : Heap} {locsc : List Loc} {vmc : Vm} {kc0 : Nat} (Xc : Stand p l e room_1 (s.setVm vmc) m #[(.int p1)] below meth c Tc locsc 3 310) (hx : p.tables.exec = Jvm.exec) (hZ : Z.Warmed39 (s.setVm vmc).vm) (hby : c.code = code) (hml : c.maxLocals = 7) (hown : (s.setVm vmc).vm.findClass "com/example/querent/querent/dicom/VrHasLongLengthPinLaw" = some m.cls) (hret : meth.sig.returnType = some .boolean) (hlk : meth.locks = false) (hh : s.heap = h0) (ec : Tc.heap = Hc) (Nc : Fr n0 locsc) (Kc0 : Keep h0 Hc []) (Oc : Old Z n0 Hc) (hS : s.Since vmc kc0) (hk : kc0 ≤ Hc.size) (hSA : ∀ a ∈ Bundle.stringAtoms, a.before a0 Z = true) (zc0 : Sta Z Z.heap "java/lang/String" "COMPACT_STRINGS" "Z" (.int cs)) (zc1 : Sta Z Z.heap "jdk/internal/util/Preconditions" "SIOOBE_FORMATTER" "Ljava/util/function/BiFunction;" sf) (zc2 : Exa Z Z.heap ad26 "com/example/querent/querent/dicom/Vr") (zc3 : Fld Z Z.heap ad26 "java/lang/Enum" "ordinal" "I" (.int (26 : Int32))) (zc4 : Exa Z Hc b104 "java/lang/String") (zc5 : Fld Z Hc b104 "java/lang/String" "coder" "B" (.int (0 : Int32))) (zc6 : Fld Z Hc b104 "java/lang/String" "value" "[B" (.ref d104)) (zc7 : Arv Z Hc d104 kk104 .byte (68 : Int32) own_txt (.int (0 : Int32))) (hcs : ¬ (cs = (0 : Int32))) (hsf : sf.isRef = true) (hn0 : n0 = h0.size) (hcw : Jvm.Lit.compactW.before a0 Z = true) (hlit : Jvm.Lit.constHeld Z "com/example/querent/querent/dicom/VrHasLongLengthPinLaw" 112) :
    ∃ U_ o_, Steps p.tables e below (Tc.setTop (mkF m 254 #[.val (.int p1), .val (.ref b1), .val (.ref b104), .val (.int (26 : Int32)), .val (.ref ad26), .unset, .unset] [])) U_ ∧ U_.status = .running ∧ Ended U_ below o_ ∧ (∃ v_ L_, o_ = .returned v_ ∧ Q_rm0 Z p1 cs sf ad0 ad1 ad2 ad3 ad4 ad5 ad6 ad7 ad8 ad9 ad10 ad11 ad12 ad13 ad14 ad15 ad16 ad17 ad18 ad19 ad20 ad21 ad22 ad23 ad24 ad25 ad26 ad27 ad28 ad29 ad30 ad31 ad32 ad33 h0 n0 v_ U_.heap L_ ∧ ReturnedEndW s o_ U_ L_ room_1.cells room_1.slots) := by
  refine own_go (A := Tc.setTop (mkF m 258 #[.val (.int p1), .val (.ref b1), .val (.ref b104), .val (.int (26 : Int32)), .val (.ref ad26), .unset, .unset] [(.int (52 : Int32)), (.ref b104)])) (fun t_ k_ => ?_) ?_
  · show Steps p.tables e below (Tc.setTop (mkF m 254 #[.val (.int p1), .val (.ref b1), .val (.ref b104), .val (.int (26 : Int32)), .val (.ref ad26), .unset, .unset] [])) t_
    refine XS.aloadN Xc.here hx rfl (hb hby at_254) rfl rfl ?_
    show Steps p.tables e below (Tc.setTop (mkF m 255 #[.val (.int p1), .val (.ref b1), .val (.ref b104), .val (.int (26 : Int32)), .val (.ref ad26), .unset, .unset] [(.ref b104)])) t_
    refine XS.iconst Xc.here hx rfl (hb hby at_255) ?_
    show Steps p.tables e below (Tc.setTop (mkF m 256 #[.val (.int p1), .val (.ref b1), .val (.ref b104), .val (.int (26 : Int32)), .val (.ref ad26), .unset, .unset] [(.int (2 : Int32)), (.ref b104)])) t_
    refine XS.iloadN Xc.here hx rfl (hb hby at_256) rfl ?_
    show Steps p.tables e below (Tc.setTop (mkF m 257 #[.val (.int p1), .val (.ref b1), .val (.ref b104), .val (.int (26 : Int32)), .val (.ref ad26), .unset, .unset] [(.int (26 : Int32)), (.int (2 : Int32)), (.ref b104)])) t_
    refine XS.imul Xc.here hx rfl (hb hby at_257) rfl ?_
    exact k_
  obtain ⟨cq265, kq265, q265a, q265b, q265c⟩ := isOf hZ ec zc4
  obtain ⟨_, _, ⟨T265, L265, k265, n265⟩, -, X265, ⟨Lc265, hQ265, l265, y265, z265⟩, st265⟩ := Xc.virtualBack hx (y := own_y4) (z := own_y4) hown (mvT hZ (own_w hw 81 rfl)) (mvT hZ (own_w hw 82 rfl)) (notFace_of_selects (args := #[]) (mvT hZ (own_w hw 84 rfl))) (mvT hZ (own_w hw 84 rfl)) (mvT hZ (own_w hw 83 rfl)) (by decide) (backOf (W := 0) (rmChAt l Z a0 hw [] b104 (52 : Int32) d104 kk104 (68 : Int32) own_txt (85 : Int32) sf cs Hc n0 (Nat.le_trans Z0 Kc0.1) Oc zc0 hcs zc1 hsf zc4 zc5 zc6 zc7 (by decide : ¬ ((52 : Int32) < (0 : Int32))) (by decide : (52 : Int32) < (68 : Int32)) rfl) hZ (own_w hw 85 rfl) (own_w hw 73 rfl) (by decide) (by decide)) q265a q265c (g := (mkF m 258 #[.val (.int p1), .val (.ref b1), .val (.ref b104), .val (.int (26 : Int32)), .val (.ref ad26), .unset, .unset] [(.int (52 : Int32)), (.ref b104)])) rfl (by rw [hml]; rfl) (Steps.refl _) (argsL := [(.int (52 : Int32))]) (rest := []) (lenOf pd_5 rfl) rfl (by show 2 * 0 + _ ≤ _; exact Nat.le_of_eq rfl) (hb hby at_258) (fun _ _ => ⟨rfl, ec, (by decide : 3 + 0 ≤ _), (by decide : 310 + 0 ≤ _)⟩)
  dsimp only [Pt.U, Pt.locs, Pt.cells, Pt.slots] at X265 l265 y265 z265 st265 hQ265
  subst l265 y265 z265
  obtain ⟨rfl, N265q, eh265⟩ := hQ265
  have N265 := Fr.app Nc N265q
  refine own_via st265 ?_
  refine own_go (A := T265.setTop (mkF m 269 #[.val (.int p1), .val (.ref b1), .val (.ref b104), .val (.int (26 : Int32)), .val (.ref ad26), .val (.int (85 : Int32)), .unset] [(.int (53 : Int32)), (.ref b104)])) (fun t_ k_ => ?_) ?_
  · show Steps p.tables e below (T265.setTop (mkF m 261 #[.val (.int p1), .val (.ref b1), .val (.ref b104), .val (.int (26 : Int32)), .val (.ref ad26), .unset, .unset] [(.int (85 : Int32))])) t_
    refine XS.istore X265.here hx rfl (hb hby at_261) rfl (l' := #[.val (.int p1), .val (.ref b1), .val (.ref b104), .val (.int (26 : Int32)), .val (.ref ad26), .val (.int (85 : Int32)), .unset]) rfl ?_
    show Steps p.tables e below (T265.setTop (mkF m 263 #[.val (.int p1), .val (.ref b1), .val (.ref b104), .val (.int (26 : Int32)), .val (.ref ad26), .val (.int (85 : Int32)), .unset] [])) t_
    refine XS.aloadN X265.here hx rfl (hb hby at_263) rfl rfl ?_
    show Steps p.tables e below (T265.setTop (mkF m 264 #[.val (.int p1), .val (.ref b1), .val (.ref b104), .val (.int (26 : Int32)), .val (.ref ad26), .val (.int (85 : Int32)), .unset] [(.ref b104)])) t_
    refine XS.iconst X265.here hx rfl (hb hby at_264) ?_
    show Steps p.tables e below (T265.setTop (mkF m 265 #[.val (.int p1), .val (.ref b1), .val (.ref b104), .val (.int (26 : Int32)), .val (.ref ad26), .val (.int (85 : Int32)), .unset] [(.int (2 : Int32)), (.ref b104)])) t_
    refine XS.iloadN X265.here hx rfl (hb hby at_265) rfl ?_
    show Steps p.tables e below (T265.setTop (mkF m 266 #[.val (.int p1), .val (.ref b1), .val (.ref b104), .val (.int (26 : Int32)), .val (.ref ad26), .val (.int (85 : Int32)), .unset] [(.int (26 : Int32)), (.int (2 : Int32)), (.ref b104)])) t_
    refine XS.imul X265.here hx rfl (hb hby at_266) rfl ?_
    show Steps p.tables e below (T265.setTop (mkF m 267 #[.val (.int p1), .val (.ref b1), .val (.ref b104), .val (.int (26 : Int32)), .val (.ref ad26), .val (.int (85 : Int32)), .unset] [(.int (52 : Int32)), (.ref b104)])) t_
    refine XS.iconst X265.here hx rfl (hb hby at_267) ?_
    show Steps p.tables e below (T265.setTop (mkF m 268 #[.val (.int p1), .val (.ref b1), .val (.ref b104), .val (.int (26 : Int32)), .val (.ref ad26), .val (.int (85 : Int32)), .unset] [(.int (1 : Int32)), (.int (52 : Int32)), (.ref b104)])) t_
    refine XS.iadd X265.here hx rfl (hb hby at_268) rfl ?_
    exact k_
  obtain ⟨cq266, kq266, q266a, q266b, q266c⟩ := isOf hZ eh265 zc4
  obtain ⟨_, _, ⟨T266, L266, k266, n266⟩, -, X266, ⟨Lc266, hQ266, l266, y266, z266⟩, st266⟩ := X265.virtualBack hx (y := own_y4) (z := own_y4) hown (mvT hZ (own_w hw 81 rfl)) (mvT hZ (own_w hw 82 rfl)) (notFace_of_selects (args := #[]) (mvT hZ (own_w hw 84 rfl))) (mvT hZ (own_w hw 84 rfl)) (mvT hZ (own_w hw 83 rfl)) (by decide) (backOf (W := 0) (rmChAt l Z a0 hw [] b104 (53 : Int32) d104 kk104 (68 : Int32) own_txt (67 : Int32) sf cs Hc n0 (Nat.le_trans Z0 Kc0.1) Oc zc0 hcs zc1 hsf zc4 zc5 zc6 zc7 (by decide : ¬ ((53 : Int32) < (0 : Int32))) (by decide : (53 : Int32) < (68 : Int32)) rfl) hZ (own_w hw 85 rfl) (own_w hw 73 rfl) (by decide) (by decide)) q266a q266c (g := (mkF m 269 #[.val (.int p1), .val (.ref b1), .val (.ref b104), .val (.int (26 : Int32)), .val (.ref ad26), .val (.int (85 : Int32)), .unset] [(.int (53 : Int32)), (.ref b104)])) rfl (by rw [hml]; rfl) (Steps.refl _) (argsL := [(.int (53 : Int32))]) (rest := []) (lenOf pd_5 rfl) rfl (by show 2 * 0 + _ ≤ _; exact Nat.le_of_eq rfl) (hb hby at_269) (fun _ _ => ⟨rfl, eh265, (by decide : 3 + 0 ≤ _), (by decide : 310 + 0 ≤ _)⟩)
  dsimp only [Pt.U, Pt.locs, Pt.cells, Pt.slots] at X266 l266 y266 z266 st266 hQ266
  subst l266 y266 z266
  obtain ⟨rfl, N266q, eh266⟩ := hQ266
  have N266 := Fr.app N265 N266q
  refine own_via st266 ?_
  refine own_go (A := T266.setTop (mkF m 276 #[.val (.int p1), .val (.ref b1), .val (.ref b104), .val (.int (26 : Int32)), .val (.ref ad26), .val (.int (85 : Int32)), .val (.int (67 : Int32))] [(.ref ad26)])) (fun t_ k_ => ?_) ?_
  · show Steps p.tables e below (T266.setTop (mkF m 272 #[.val (.int p1), .val (.ref b1), .val (.ref b104), .val (.int (26 : Int32)), .val (.ref ad26), .val (.int (85 : Int32)), .unset] [(.int (67 : Int32))])) t_
    refine XS.istore X266.here hx rfl (hb hby at_272) rfl (l' := #[.val (.int p1), .val (.ref b1), .val (.ref b104), .val (.int (26 : Int32)), .val (.ref ad26), .val (.int (85 : Int32)), .val (.int (67 : Int32))]) rfl ?_
    show Steps p.tables e below (T266.setTop (mkF m 274 #[.val (.int p1), .val (.ref b1), .val (.ref b104), .val (.int (26 : Int32)), .val (.ref ad26), .val (.int (85 : Int32)), .val (.int (67 : Int32))] [])) t_
    refine XS.aload X266.here hx rfl (hb hby at_274) rfl rfl ?_
    exact k_
  obtain ⟨cq267, kq267, q267a, q267b, q267c⟩ := isOf hZ eh266 (zc2.ext Oc.2)
  obtain ⟨_, _, ⟨T267, L267, k267, n267⟩, -, X267, ⟨Lc267, hQ267, l267, y267, z267⟩, st267⟩ := X266.virtualBack hx (y := own_y7) (z := own_y7) hown (mvT hZ (own_w hw 106 rfl)) (mvT hZ (own_w hw 107 rfl)) (notFace_of_selects (args := #[]) (mvT hZ (own_w hw 109 rfl))) (mvT hZ (own_w hw 109 rfl)) (mvT hZ (own_w hw 108 rfl)) (by decide) (backOf (W := 0) (rmMIn104 l Z a0 hw [] ad26 (26 : Int32) Hc n0 (Nat.le_trans Z0 Kc0.1) Oc zc2 zc3 (by decide) (by decide)) hZ (own_w hw 110 rfl) (own_w hw 3 rfl) (by decide) (by decide)) q267a q267c (g := (mkF m 276 #[.val (.int p1), .val (.ref b1), .val (.ref b104), .val (.int (26 : Int32)), .val (.ref ad26), .val (.int (85 : Int32)), .val (.int (67 : Int32))] [(.ref ad26)])) rfl (by rw [hml]; rfl) (Steps.refl _) (argsL := []) (rest := []) (lenOf pd_2 rfl) rfl (by show 2 * 0 + _ ≤ _; exact Nat.le_of_eq rfl) (hb hby at_276) (fun _ _ => ⟨rfl, eh266, (by decide : 3 + 0 ≤ _), (by decide : 310 + 0 ≤ _)⟩)
  dsimp only [Pt.U, Pt.locs, Pt.cells, Pt.slots] at X267 l267 y267 z267 st267 hQ267
  subst l267 y267 z267
  obtain ⟨rfl, N267q, eh267⟩ := hQ267
  have N267 := Fr.app N266 N267q
  refine own_via st267 ?_
  refine own_go (A := T267.setTop (mkF m 283 #[.val (.int p1), .val (.ref b1), .val (.ref b104), .val (.int (26 : Int32)), .val (.ref ad26), .val (.int (85 : Int32)), .val (.int (67 : Int32))] [(.int (67 : Int32)), (.int (85 : Int32)), (.int (1 : Int32))])) (fun t_ k_ => ?_) ?_
  · show Steps p.tables e below (T267.setTop (mkF m 279 #[.val (.int p1), .val (.ref b1), .val (.ref b104), .val (.int (26 : Int32)), .val (.ref ad26), .val (.int (85 : Int32)), .val (.int (67 : Int32))] [(.int (1 : Int32))])) t_
    refine XS.iload X267.here hx rfl (hb hby at_279) rfl ?_
    show Steps p.tables e below (T267.setTop (mkF m 281 #[.val (.int p1), .val (.ref b1), .val (.ref b104), .val (.int (26 : Int32)), .val (.ref ad26), .val (.int (85 : Int32)), .val (.int (67 : Int32))] [(.int (85 : Int32)), (.int (1 : Int32))])) t_
    refine XS.iload X267.here hx rfl (hb hby at_281) rfl ?_
    exact k_
  obtain ⟨_, _, ⟨T268, L268, k268, n268⟩, -, X268, ⟨Lc268, hQ268, l268, y268, z268⟩, st268⟩ := Jvm.LawKit.callS X267 hx (y := own_y8) hown (mvT hZ (own_w hw 120 rfl)) (mvT hZ (own_w hw 121 rfl)) (mvT hZ (own_w hw 122 rfl)) (mvT hZ (own_w hw 123 rfl)) (by decide) (backOf (W := 1) (rmEUC l Z a0 hw [] Hc n0 (Nat.le_trans Z0 Kc0.1)) hZ (own_w hw 123 rfl) (own_w hw 122 rfl) (by decide) (by decide)) (g := (mkF m 283 #[.val (.int p1), .val (.ref b1), .val (.ref b104), .val (.int (26 : Int32)), .val (.ref ad26), .val (.int (85 : Int32)), .val (.int (67 : Int32))] [(.int (67 : Int32)), (.int (85 : Int32)), (.int (1 : Int32))])) rfl (by rw [hml]; rfl) (argsL := [(.int (85 : Int32)), (.int (67 : Int32))]) (rest := [(.int (1 : Int32))]) (lenOf pd_6 rfl) rfl (by show 2 * 0 + _ ≤ _; exact Nat.le_of_eq rfl) (hb hby at_283) (fun _ _ => ⟨rfl, eh267, (by decide : 3 + 0 ≤ _), (by decide : 310 + 0 ≤ _)⟩)
  dsimp only [Pt.U, Pt.locs, Pt.cells, Pt.slots] at X268 l268 y268 z268 st268 hQ268
  subst l268 y268 z268
  obtain ⟨rfl, N268q, eh268⟩ := hQ268
  have N268 := Fr.app N267 N268q
  refine own_go st268 ?_
  refine own_go (A := T268.setTop (mkF m 294 #[.val (.int p1), .val (.ref b1), .val (.ref b104), .val (.int (26 : Int32)), .val (.ref ad26), .val (.int (85 : Int32)), .val (.int (67 : Int32))] [(.int (1 : Int32))])) (fun t_ k_ => ?_) ?_
  · show Steps p.tables e below (T268.setTop (mkF m 286 #[.val (.int p1), .val (.ref b1), .val (.ref b104), .val (.int (26 : Int32)), .val (.ref ad26), .val (.int (85 : Int32)), .val (.int (67 : Int32))] [(.int (1 : Int32)), (.int (1 : Int32))])) t_
    refine XS.icmpNo X268.here hx rfl (hb hby at_286) rfl (teq (by decide : (1 : Int32) = (1 : Int32))).2 ?_
    show Steps p.tables e below (T268.setTop (mkF m 289 #[.val (.int p1), .val (.ref b1), .val (.ref b104), .val (.int (26 : Int32)), .val (.ref ad26), .val (.int (85 : Int32)), .val (.int (67 : Int32))] [])) t_
    refine XS.iconst X268.here hx rfl (hb hby at_289) ?_
    show Steps p.tables e below (T268.setTop (mkF m 290 #[.val (.int p1), .val (.ref b1), .val (.ref b104), .val (.int (26 : Int32)), .val (.ref ad26), .val (.int (85 : Int32)), .val (.int (67 : Int32))] [(.int (1 : Int32))])) t_
    refine XS.goto X268.here hx rfl (pc0 := 290) (pc' := 294) rfl (hb hby at_290) (by decide) (by decide) ?_
    exact k_
  obtain ⟨fs269, hr269, hrun269, hended269, hRW269⟩ := X268.leaveW hS (by rw [eh268]; exact hk) (v := some (.int (1 : Int32))) (fun h => by rw [hret] at h; cases h)
  refine ⟨_, _, ?_, hrun269, hended269, _, _, rfl, ?_, hRW269.1, hRW269.2.1, hRW269.2.2.1, hRW269.2.2.2.mono (by decide) (by decide)⟩
  · exact retN X268 hx (t := .boolean) hret (by simp) (hb hby at_294) hr269
  · show Q_rm0 Z p1 cs sf ad0 ad1 ad2 ad3 ad4 ad5 ad6 ad7 ad8 ad9 ad10 ad11 ad12 ad13 ad14 ad15 ad16 ad17 ad18 ad19 ad20 ad21 ad22 ad23 ad24 ad25 ad26 ad27 ad28 ad29 ad30 ad31 ad32 ad33 h0 n0 _ T268.heap _
    rw [eh268]
    exact ⟨rfl, N268, Kc0⟩
set_option maxRecDepth 65536 in
set_option maxHeartbeats 40000000 in
theorem own_sufad27 (l : Launch) (Z : State) (a0 : Array Value) (hw : ∀ d ∈ tables_1, d.before a0 Z = true) (p1 : Int32) (cs : Int32) (sf : Value) (ad0 : Addr) (ad1 : Addr) (ad2 : Addr) (ad3 : Addr) (ad4 : Addr) (ad5 : Addr) (ad6 : Addr) (ad7 : Addr) (ad8 : Addr) (ad9 : Addr) (ad10 : Addr) (ad11 : Addr) (ad12 : Addr) (ad13 : Addr) (ad14 : Addr) (ad15 : Addr) (ad16 : Addr) (ad17 : Addr) (ad18 : Addr) (ad19 : Addr) (ad20 : Addr) (ad21 : Addr) (ad22 : Addr) (ad23 : Addr) (ad24 : Addr) (ad25 : Addr) (ad26 : Addr) (ad27 : Addr) (ad28 : Addr) (ad29 : Addr) (ad30 : Addr) (ad31 : Addr) (ad32 : Addr) (ad33 : Addr) (b1 : Addr) (b104 : Addr) (d104 : Addr) (kk104 : ClassId) (h0 : Heap) (n0 : Nat) (Z0 : n0 ≤ h0.size) {p : Program} {e : Env} {s : State} {m : MethodId} {below : List Frame} {meth : Method} {c : Code} {Tc : State} {Hc : Heap} {locsc : List Loc} {vmc : Vm} {kc0 : Nat} (Xc : Stand p l e room_1 (s.setVm vmc) m #[(.int p1)] below meth c Tc locsc 3 310) (hx : p.tables.exec = Jvm.exec) (hZ : Z.Warmed39 (s.setVm vmc).vm) (hby : c.code = code) (hml : c.maxLocals = 7) (hown : (s.setVm vmc).vm.findClass "com/example/querent/querent/dicom/VrHasLongLengthPinLaw" = some m.cls) (hret : meth.sig.returnType = some .boolean) (hlk : meth.locks = false) (hh : s.heap = h0) (ec : Tc.heap = Hc) (Nc : Fr n0 locsc) (Kc0 : Keep h0 Hc []) (Oc : Old Z n0 Hc) (hS : s.Since vmc kc0) (hk : kc0 ≤ Hc.size) (hSA : ∀ a ∈ Bundle.stringAtoms, a.before a0 Z = true) (zc0 : Sta Z Z.heap "java/lang/String" "COMPACT_STRINGS" "Z" (.int cs)) (zc1 : Sta Z Z.heap "jdk/internal/util/Preconditions" "SIOOBE_FORMATTER" "Ljava/util/function/BiFunction;" sf) (zc2 : Exa Z Z.heap ad27 "com/example/querent/querent/dicom/Vr") (zc3 : Fld Z Z.heap ad27 "java/lang/Enum" "ordinal" "I" (.int (27 : Int32))) (zc4 : Exa Z Hc b104 "java/lang/String") (zc5 : Fld Z Hc b104 "java/lang/String" "coder" "B" (.int (0 : Int32))) (zc6 : Fld Z Hc b104 "java/lang/String" "value" "[B" (.ref d104)) (zc7 : Arv Z Hc d104 kk104 .byte (68 : Int32) own_txt (.int (0 : Int32))) (hcs : ¬ (cs = (0 : Int32))) (hsf : sf.isRef = true) (hn0 : n0 = h0.size) (hcw : Jvm.Lit.compactW.before a0 Z = true) (hlit : Jvm.Lit.constHeld Z "com/example/querent/querent/dicom/VrHasLongLengthPinLaw" 112) :
    ∃ U_ o_, Steps p.tables e below (Tc.setTop (mkF m 254 #[.val (.int p1), .val (.ref b1), .val (.ref b104), .val (.int (27 : Int32)), .val (.ref ad27), .unset, .unset] [])) U_ ∧ U_.status = .running ∧ Ended U_ below o_ ∧ (∃ v_ L_, o_ = .returned v_ ∧ Q_rm0 Z p1 cs sf ad0 ad1 ad2 ad3 ad4 ad5 ad6 ad7 ad8 ad9 ad10 ad11 ad12 ad13 ad14 ad15 ad16 ad17 ad18 ad19 ad20 ad21 ad22 ad23 ad24 ad25 ad26 ad27 ad28 ad29 ad30 ad31 ad32 ad33 h0 n0 v_ U_.heap L_ ∧ ReturnedEndW s o_ U_ L_ room_1.cells room_1.slots) := by
  refine own_go (A := Tc.setTop (mkF m 258 #[.val (.int p1), .val (.ref b1), .val (.ref b104), .val (.int (27 : Int32)), .val (.ref ad27), .unset, .unset] [(.int (54 : Int32)), (.ref b104)])) (fun t_ k_ => ?_) ?_
  · show Steps p.tables e below (Tc.setTop (mkF m 254 #[.val (.int p1), .val (.ref b1), .val (.ref b104), .val (.int (27 : Int32)), .val (.ref ad27), .unset, .unset] [])) t_
    refine XS.aloadN Xc.here hx rfl (hb hby at_254) rfl rfl ?_
    show Steps p.tables e below (Tc.setTop (mkF m 255 #[.val (.int p1), .val (.ref b1), .val (.ref b104), .val (.int (27 : Int32)), .val (.ref ad27), .unset, .unset] [(.ref b104)])) t_
    refine XS.iconst Xc.here hx rfl (hb hby at_255) ?_
    show Steps p.tables e below (Tc.setTop (mkF m 256 #[.val (.int p1), .val (.ref b1), .val (.ref b104), .val (.int (27 : Int32)), .val (.ref ad27), .unset, .unset] [(.int (2 : Int32)), (.ref b104)])) t_
    refine XS.iloadN Xc.here hx rfl (hb hby at_256) rfl ?_
    show Steps p.tables e below (Tc.setTop (mkF m 257 #[.val (.int p1), .val (.ref b1), .val (.ref b104), .val (.int (27 : Int32)), .val (.ref ad27), .unset, .unset] [(.int (27 : Int32)), (.int (2 : Int32)), (.ref b104)])) t_
    refine XS.imul Xc.here hx rfl (hb hby at_257) rfl ?_
    exact k_
  obtain ⟨cq271, kq271, q271a, q271b, q271c⟩ := isOf hZ ec zc4
  obtain ⟨_, _, ⟨T271, L271, k271, n271⟩, -, X271, ⟨Lc271, hQ271, l271, y271, z271⟩, st271⟩ := Xc.virtualBack hx (y := own_y4) (z := own_y4) hown (mvT hZ (own_w hw 81 rfl)) (mvT hZ (own_w hw 82 rfl)) (notFace_of_selects (args := #[]) (mvT hZ (own_w hw 84 rfl))) (mvT hZ (own_w hw 84 rfl)) (mvT hZ (own_w hw 83 rfl)) (by decide) (backOf (W := 0) (rmChAt l Z a0 hw [] b104 (54 : Int32) d104 kk104 (68 : Int32) own_txt (85 : Int32) sf cs Hc n0 (Nat.le_trans Z0 Kc0.1) Oc zc0 hcs zc1 hsf zc4 zc5 zc6 zc7 (by decide : ¬ ((54 : Int32) < (0 : Int32))) (by decide : (54 : Int32) < (68 : Int32)) rfl) hZ (own_w hw 85 rfl) (own_w hw 73 rfl) (by decide) (by decide)) q271a q271c (g := (mkF m 258 #[.val (.int p1), .val (.ref b1), .val (.ref b104), .val (.int (27 : Int32)), .val (.ref ad27), .unset, .unset] [(.int (54 : Int32)), (.ref b104)])) rfl (by rw [hml]; rfl) (Steps.refl _) (argsL := [(.int (54 : Int32))]) (rest := []) (lenOf pd_5 rfl) rfl (by show 2 * 0 + _ ≤ _; exact Nat.le_of_eq rfl) (hb hby at_258) (fun _ _ => ⟨rfl, ec, (by decide : 3 + 0 ≤ _), (by decide : 310 + 0 ≤ _)⟩)
  dsimp only [Pt.U, Pt.locs, Pt.cells, Pt.slots] at X271 l271 y271 z271 st271 hQ271
  subst l271 y271 z271
  obtain ⟨rfl, N271q, eh271⟩ := hQ271
  have N271 := Fr.app Nc N271q
  refine own_via st271 ?_
  refine own_go (A := T271.setTop (mkF m 269 #[.val (.int p1), .val (.ref b1), .val (.ref b104), .val (.int (27 : Int32)), .val (.ref ad27), .val (.int (85 : Int32)), .unset] [(.int (55 : Int32)), (.ref b104)])) (fun t_ k_ => ?_) ?_
  · show Steps p.tables e below (T271.setTop (mkF m 261 #[.val (.int p1), .val (.ref b1), .val (.ref b104), .val (.int (27 : Int32)), .val (.ref ad27), .unset, .unset] [(.int (85 : Int32))])) t_
    refine XS.istore X271.here hx rfl (hb hby at_261) rfl (l' := #[.val (.int p1), .val (.ref b1), .val (.ref b104), .val (.int (27 : Int32)), .val (.ref ad27), .val (.int (85 : Int32)), .unset]) rfl ?_
    show Steps p.tables e below (T271.setTop (mkF m 263 #[.val (.int p1), .val (.ref b1), .val (.ref b104), .val (.int (27 : Int32)), .val (.ref ad27), .val (.int (85 : Int32)), .unset] [])) t_
    refine XS.aloadN X271.here hx rfl (hb hby at_263) rfl rfl ?_
    show Steps p.tables e below (T271.setTop (mkF m 264 #[.val (.int p1), .val (.ref b1), .val (.ref b104), .val (.int (27 : Int32)), .val (.ref ad27), .val (.int (85 : Int32)), .unset] [(.ref b104)])) t_
    refine XS.iconst X271.here hx rfl (hb hby at_264) ?_
    show Steps p.tables e below (T271.setTop (mkF m 265 #[.val (.int p1), .val (.ref b1), .val (.ref b104), .val (.int (27 : Int32)), .val (.ref ad27), .val (.int (85 : Int32)), .unset] [(.int (2 : Int32)), (.ref b104)])) t_
    refine XS.iloadN X271.here hx rfl (hb hby at_265) rfl ?_
    show Steps p.tables e below (T271.setTop (mkF m 266 #[.val (.int p1), .val (.ref b1), .val (.ref b104), .val (.int (27 : Int32)), .val (.ref ad27), .val (.int (85 : Int32)), .unset] [(.int (27 : Int32)), (.int (2 : Int32)), (.ref b104)])) t_
    refine XS.imul X271.here hx rfl (hb hby at_266) rfl ?_
    show Steps p.tables e below (T271.setTop (mkF m 267 #[.val (.int p1), .val (.ref b1), .val (.ref b104), .val (.int (27 : Int32)), .val (.ref ad27), .val (.int (85 : Int32)), .unset] [(.int (54 : Int32)), (.ref b104)])) t_
    refine XS.iconst X271.here hx rfl (hb hby at_267) ?_
    show Steps p.tables e below (T271.setTop (mkF m 268 #[.val (.int p1), .val (.ref b1), .val (.ref b104), .val (.int (27 : Int32)), .val (.ref ad27), .val (.int (85 : Int32)), .unset] [(.int (1 : Int32)), (.int (54 : Int32)), (.ref b104)])) t_
    refine XS.iadd X271.here hx rfl (hb hby at_268) rfl ?_
    exact k_
  obtain ⟨cq272, kq272, q272a, q272b, q272c⟩ := isOf hZ eh271 zc4
  obtain ⟨_, _, ⟨T272, L272, k272, n272⟩, -, X272, ⟨Lc272, hQ272, l272, y272, z272⟩, st272⟩ := X271.virtualBack hx (y := own_y4) (z := own_y4) hown (mvT hZ (own_w hw 81 rfl)) (mvT hZ (own_w hw 82 rfl)) (notFace_of_selects (args := #[]) (mvT hZ (own_w hw 84 rfl))) (mvT hZ (own_w hw 84 rfl)) (mvT hZ (own_w hw 83 rfl)) (by decide) (backOf (W := 0) (rmChAt l Z a0 hw [] b104 (55 : Int32) d104 kk104 (68 : Int32) own_txt (73 : Int32) sf cs Hc n0 (Nat.le_trans Z0 Kc0.1) Oc zc0 hcs zc1 hsf zc4 zc5 zc6 zc7 (by decide : ¬ ((55 : Int32) < (0 : Int32))) (by decide : (55 : Int32) < (68 : Int32)) rfl) hZ (own_w hw 85 rfl) (own_w hw 73 rfl) (by decide) (by decide)) q272a q272c (g := (mkF m 269 #[.val (.int p1), .val (.ref b1), .val (.ref b104), .val (.int (27 : Int32)), .val (.ref ad27), .val (.int (85 : Int32)), .unset] [(.int (55 : Int32)), (.ref b104)])) rfl (by rw [hml]; rfl) (Steps.refl _) (argsL := [(.int (55 : Int32))]) (rest := []) (lenOf pd_5 rfl) rfl (by show 2 * 0 + _ ≤ _; exact Nat.le_of_eq rfl) (hb hby at_269) (fun _ _ => ⟨rfl, eh271, (by decide : 3 + 0 ≤ _), (by decide : 310 + 0 ≤ _)⟩)
  dsimp only [Pt.U, Pt.locs, Pt.cells, Pt.slots] at X272 l272 y272 z272 st272 hQ272
  subst l272 y272 z272
  obtain ⟨rfl, N272q, eh272⟩ := hQ272
  have N272 := Fr.app N271 N272q
  refine own_via st272 ?_
  refine own_go (A := T272.setTop (mkF m 276 #[.val (.int p1), .val (.ref b1), .val (.ref b104), .val (.int (27 : Int32)), .val (.ref ad27), .val (.int (85 : Int32)), .val (.int (73 : Int32))] [(.ref ad27)])) (fun t_ k_ => ?_) ?_
  · show Steps p.tables e below (T272.setTop (mkF m 272 #[.val (.int p1), .val (.ref b1), .val (.ref b104), .val (.int (27 : Int32)), .val (.ref ad27), .val (.int (85 : Int32)), .unset] [(.int (73 : Int32))])) t_
    refine XS.istore X272.here hx rfl (hb hby at_272) rfl (l' := #[.val (.int p1), .val (.ref b1), .val (.ref b104), .val (.int (27 : Int32)), .val (.ref ad27), .val (.int (85 : Int32)), .val (.int (73 : Int32))]) rfl ?_
    show Steps p.tables e below (T272.setTop (mkF m 274 #[.val (.int p1), .val (.ref b1), .val (.ref b104), .val (.int (27 : Int32)), .val (.ref ad27), .val (.int (85 : Int32)), .val (.int (73 : Int32))] [])) t_
    refine XS.aload X272.here hx rfl (hb hby at_274) rfl rfl ?_
    exact k_
  obtain ⟨cq273, kq273, q273a, q273b, q273c⟩ := isOf hZ eh272 (zc2.ext Oc.2)
  obtain ⟨_, _, ⟨T273, L273, k273, n273⟩, -, X273, ⟨Lc273, hQ273, l273, y273, z273⟩, st273⟩ := X272.virtualBack hx (y := own_y7) (z := own_y7) hown (mvT hZ (own_w hw 106 rfl)) (mvT hZ (own_w hw 107 rfl)) (notFace_of_selects (args := #[]) (mvT hZ (own_w hw 109 rfl))) (mvT hZ (own_w hw 109 rfl)) (mvT hZ (own_w hw 108 rfl)) (by decide) (backOf (W := 0) (rmMIn108 l Z a0 hw [] ad27 (27 : Int32) Hc n0 (Nat.le_trans Z0 Kc0.1) Oc zc2 zc3 (by decide) (by decide)) hZ (own_w hw 110 rfl) (own_w hw 3 rfl) (by decide) (by decide)) q273a q273c (g := (mkF m 276 #[.val (.int p1), .val (.ref b1), .val (.ref b104), .val (.int (27 : Int32)), .val (.ref ad27), .val (.int (85 : Int32)), .val (.int (73 : Int32))] [(.ref ad27)])) rfl (by rw [hml]; rfl) (Steps.refl _) (argsL := []) (rest := []) (lenOf pd_2 rfl) rfl (by show 2 * 0 + _ ≤ _; exact Nat.le_of_eq rfl) (hb hby at_276) (fun _ _ => ⟨rfl, eh272, (by decide : 3 + 0 ≤ _), (by decide : 310 + 0 ≤ _)⟩)
  dsimp only [Pt.U, Pt.locs, Pt.cells, Pt.slots] at X273 l273 y273 z273 st273 hQ273
  subst l273 y273 z273
  obtain ⟨rfl, N273q, eh273⟩ := hQ273
  have N273 := Fr.app N272 N273q
  refine own_via st273 ?_
  refine own_go (A := T273.setTop (mkF m 283 #[.val (.int p1), .val (.ref b1), .val (.ref b104), .val (.int (27 : Int32)), .val (.ref ad27), .val (.int (85 : Int32)), .val (.int (73 : Int32))] [(.int (73 : Int32)), (.int (85 : Int32)), (.int (0 : Int32))])) (fun t_ k_ => ?_) ?_
  · show Steps p.tables e below (T273.setTop (mkF m 279 #[.val (.int p1), .val (.ref b1), .val (.ref b104), .val (.int (27 : Int32)), .val (.ref ad27), .val (.int (85 : Int32)), .val (.int (73 : Int32))] [(.int (0 : Int32))])) t_
    refine XS.iload X273.here hx rfl (hb hby at_279) rfl ?_
    show Steps p.tables e below (T273.setTop (mkF m 281 #[.val (.int p1), .val (.ref b1), .val (.ref b104), .val (.int (27 : Int32)), .val (.ref ad27), .val (.int (85 : Int32)), .val (.int (73 : Int32))] [(.int (85 : Int32)), (.int (0 : Int32))])) t_
    refine XS.iload X273.here hx rfl (hb hby at_281) rfl ?_
    exact k_
  obtain ⟨_, _, ⟨T274, L274, k274, n274⟩, -, X274, ⟨Lc274, hQ274, l274, y274, z274⟩, st274⟩ := Jvm.LawKit.callS X273 hx (y := own_y8) hown (mvT hZ (own_w hw 120 rfl)) (mvT hZ (own_w hw 121 rfl)) (mvT hZ (own_w hw 122 rfl)) (mvT hZ (own_w hw 123 rfl)) (by decide) (backOf (W := 1) (rmEU l Z a0 hw [] (73 : Int32) Hc n0 (Nat.le_trans Z0 Kc0.1) (by decide : ¬ ((73 : Int32) = (67 : Int32))) (by decide : ¬ ((73 : Int32) = (78 : Int32))) (by decide : ¬ ((73 : Int32) = (82 : Int32))) (by decide : ¬ ((73 : Int32) = (84 : Int32))) (by decide : ¬ ((73 : Int32) = (86 : Int32)))) hZ (own_w hw 123 rfl) (own_w hw 122 rfl) (by decide) (by decide)) (g := (mkF m 283 #[.val (.int p1), .val (.ref b1), .val (.ref b104), .val (.int (27 : Int32)), .val (.ref ad27), .val (.int (85 : Int32)), .val (.int (73 : Int32))] [(.int (73 : Int32)), (.int (85 : Int32)), (.int (0 : Int32))])) rfl (by rw [hml]; rfl) (argsL := [(.int (85 : Int32)), (.int (73 : Int32))]) (rest := [(.int (0 : Int32))]) (lenOf pd_6 rfl) rfl (by show 2 * 0 + _ ≤ _; exact Nat.le_of_eq rfl) (hb hby at_283) (fun _ _ => ⟨rfl, eh273, (by decide : 3 + 0 ≤ _), (by decide : 310 + 0 ≤ _)⟩)
  dsimp only [Pt.U, Pt.locs, Pt.cells, Pt.slots] at X274 l274 y274 z274 st274 hQ274
  subst l274 y274 z274
  obtain ⟨rfl, N274q, eh274⟩ := hQ274
  have N274 := Fr.app N273 N274q
  refine own_go st274 ?_
  refine own_go (A := T274.setTop (mkF m 294 #[.val (.int p1), .val (.ref b1), .val (.ref b104), .val (.int (27 : Int32)), .val (.ref ad27), .val (.int (85 : Int32)), .val (.int (73 : Int32))] [(.int (1 : Int32))])) (fun t_ k_ => ?_) ?_
  · show Steps p.tables e below (T274.setTop (mkF m 286 #[.val (.int p1), .val (.ref b1), .val (.ref b104), .val (.int (27 : Int32)), .val (.ref ad27), .val (.int (85 : Int32)), .val (.int (73 : Int32))] [(.int (0 : Int32)), (.int (0 : Int32))])) t_
    refine XS.icmpNo X274.here hx rfl (hb hby at_286) rfl (teq (by decide : (0 : Int32) = (0 : Int32))).2 ?_
    show Steps p.tables e below (T274.setTop (mkF m 289 #[.val (.int p1), .val (.ref b1), .val (.ref b104), .val (.int (27 : Int32)), .val (.ref ad27), .val (.int (85 : Int32)), .val (.int (73 : Int32))] [])) t_
    refine XS.iconst X274.here hx rfl (hb hby at_289) ?_
    show Steps p.tables e below (T274.setTop (mkF m 290 #[.val (.int p1), .val (.ref b1), .val (.ref b104), .val (.int (27 : Int32)), .val (.ref ad27), .val (.int (85 : Int32)), .val (.int (73 : Int32))] [(.int (1 : Int32))])) t_
    refine XS.goto X274.here hx rfl (pc0 := 290) (pc' := 294) rfl (hb hby at_290) (by decide) (by decide) ?_
    exact k_
  obtain ⟨fs275, hr275, hrun275, hended275, hRW275⟩ := X274.leaveW hS (by rw [eh274]; exact hk) (v := some (.int (1 : Int32))) (fun h => by rw [hret] at h; cases h)
  refine ⟨_, _, ?_, hrun275, hended275, _, _, rfl, ?_, hRW275.1, hRW275.2.1, hRW275.2.2.1, hRW275.2.2.2.mono (by decide) (by decide)⟩
  · exact retN X274 hx (t := .boolean) hret (by simp) (hb hby at_294) hr275
  · show Q_rm0 Z p1 cs sf ad0 ad1 ad2 ad3 ad4 ad5 ad6 ad7 ad8 ad9 ad10 ad11 ad12 ad13 ad14 ad15 ad16 ad17 ad18 ad19 ad20 ad21 ad22 ad23 ad24 ad25 ad26 ad27 ad28 ad29 ad30 ad31 ad32 ad33 h0 n0 _ T274.heap _
    rw [eh274]
    exact ⟨rfl, N274, Kc0⟩
set_option maxRecDepth 65536 in
set_option maxHeartbeats 40000000 in
theorem own_sufad28 (l : Launch) (Z : State) (a0 : Array Value) (hw : ∀ d ∈ tables_1, d.before a0 Z = true) (p1 : Int32) (cs : Int32) (sf : Value) (ad0 : Addr) (ad1 : Addr) (ad2 : Addr) (ad3 : Addr) (ad4 : Addr) (ad5 : Addr) (ad6 : Addr) (ad7 : Addr) (ad8 : Addr) (ad9 : Addr) (ad10 : Addr) (ad11 : Addr) (ad12 : Addr) (ad13 : Addr) (ad14 : Addr) (ad15 : Addr) (ad16 : Addr) (ad17 : Addr) (ad18 : Addr) (ad19 : Addr) (ad20 : Addr) (ad21 : Addr) (ad22 : Addr) (ad23 : Addr) (ad24 : Addr) (ad25 : Addr) (ad26 : Addr) (ad27 : Addr) (ad28 : Addr) (ad29 : Addr) (ad30 : Addr) (ad31 : Addr) (ad32 : Addr) (ad33 : Addr) (b1 : Addr) (b104 : Addr) (d104 : Addr) (kk104 : ClassId) (h0 : Heap) (n0 : Nat) (Z0 : n0 ≤ h0.size) {p : Program} {e : Env} {s : State} {m : MethodId} {below : List Frame} {meth : Method} {c : Code} {Tc : State} {Hc : Heap} {locsc : List Loc} {vmc : Vm} {kc0 : Nat} (Xc : Stand p l e room_1 (s.setVm vmc) m #[(.int p1)] below meth c Tc locsc 3 310) (hx : p.tables.exec = Jvm.exec) (hZ : Z.Warmed39 (s.setVm vmc).vm) (hby : c.code = code) (hml : c.maxLocals = 7) (hown : (s.setVm vmc).vm.findClass "com/example/querent/querent/dicom/VrHasLongLengthPinLaw" = some m.cls) (hret : meth.sig.returnType = some .boolean) (hlk : meth.locks = false) (hh : s.heap = h0) (ec : Tc.heap = Hc) (Nc : Fr n0 locsc) (Kc0 : Keep h0 Hc []) (Oc : Old Z n0 Hc) (hS : s.Since vmc kc0) (hk : kc0 ≤ Hc.size) (hSA : ∀ a ∈ Bundle.stringAtoms, a.before a0 Z = true) (zc0 : Sta Z Z.heap "java/lang/String" "COMPACT_STRINGS" "Z" (.int cs)) (zc1 : Sta Z Z.heap "jdk/internal/util/Preconditions" "SIOOBE_FORMATTER" "Ljava/util/function/BiFunction;" sf) (zc2 : Exa Z Z.heap ad28 "com/example/querent/querent/dicom/Vr") (zc3 : Fld Z Z.heap ad28 "java/lang/Enum" "ordinal" "I" (.int (28 : Int32))) (zc4 : Exa Z Hc b104 "java/lang/String") (zc5 : Fld Z Hc b104 "java/lang/String" "coder" "B" (.int (0 : Int32))) (zc6 : Fld Z Hc b104 "java/lang/String" "value" "[B" (.ref d104)) (zc7 : Arv Z Hc d104 kk104 .byte (68 : Int32) own_txt (.int (0 : Int32))) (hcs : ¬ (cs = (0 : Int32))) (hsf : sf.isRef = true) (hn0 : n0 = h0.size) (hcw : Jvm.Lit.compactW.before a0 Z = true) (hlit : Jvm.Lit.constHeld Z "com/example/querent/querent/dicom/VrHasLongLengthPinLaw" 112) :
    ∃ U_ o_, Steps p.tables e below (Tc.setTop (mkF m 254 #[.val (.int p1), .val (.ref b1), .val (.ref b104), .val (.int (28 : Int32)), .val (.ref ad28), .unset, .unset] [])) U_ ∧ U_.status = .running ∧ Ended U_ below o_ ∧ (∃ v_ L_, o_ = .returned v_ ∧ Q_rm0 Z p1 cs sf ad0 ad1 ad2 ad3 ad4 ad5 ad6 ad7 ad8 ad9 ad10 ad11 ad12 ad13 ad14 ad15 ad16 ad17 ad18 ad19 ad20 ad21 ad22 ad23 ad24 ad25 ad26 ad27 ad28 ad29 ad30 ad31 ad32 ad33 h0 n0 v_ U_.heap L_ ∧ ReturnedEndW s o_ U_ L_ room_1.cells room_1.slots) := by
  refine own_go (A := Tc.setTop (mkF m 258 #[.val (.int p1), .val (.ref b1), .val (.ref b104), .val (.int (28 : Int32)), .val (.ref ad28), .unset, .unset] [(.int (56 : Int32)), (.ref b104)])) (fun t_ k_ => ?_) ?_
  · show Steps p.tables e below (Tc.setTop (mkF m 254 #[.val (.int p1), .val (.ref b1), .val (.ref b104), .val (.int (28 : Int32)), .val (.ref ad28), .unset, .unset] [])) t_
    refine XS.aloadN Xc.here hx rfl (hb hby at_254) rfl rfl ?_
    show Steps p.tables e below (Tc.setTop (mkF m 255 #[.val (.int p1), .val (.ref b1), .val (.ref b104), .val (.int (28 : Int32)), .val (.ref ad28), .unset, .unset] [(.ref b104)])) t_
    refine XS.iconst Xc.here hx rfl (hb hby at_255) ?_
    show Steps p.tables e below (Tc.setTop (mkF m 256 #[.val (.int p1), .val (.ref b1), .val (.ref b104), .val (.int (28 : Int32)), .val (.ref ad28), .unset, .unset] [(.int (2 : Int32)), (.ref b104)])) t_
    refine XS.iloadN Xc.here hx rfl (hb hby at_256) rfl ?_
    show Steps p.tables e below (Tc.setTop (mkF m 257 #[.val (.int p1), .val (.ref b1), .val (.ref b104), .val (.int (28 : Int32)), .val (.ref ad28), .unset, .unset] [(.int (28 : Int32)), (.int (2 : Int32)), (.ref b104)])) t_
    refine XS.imul Xc.here hx rfl (hb hby at_257) rfl ?_
    exact k_
  obtain ⟨cq277, kq277, q277a, q277b, q277c⟩ := isOf hZ ec zc4
  obtain ⟨_, _, ⟨T277, L277, k277, n277⟩, -, X277, ⟨Lc277, hQ277, l277, y277, z277⟩, st277⟩ := Xc.virtualBack hx (y := own_y4) (z := own_y4) hown (mvT hZ (own_w hw 81 rfl)) (mvT hZ (own_w hw 82 rfl)) (notFace_of_selects (args := #[]) (mvT hZ (own_w hw 84 rfl))) (mvT hZ (own_w hw 84 rfl)) (mvT hZ (own_w hw 83 rfl)) (by decide) (backOf (W := 0) (rmChAt l Z a0 hw [] b104 (56 : Int32) d104 kk104 (68 : Int32) own_txt (85 : Int32) sf cs Hc n0 (Nat.le_trans Z0 Kc0.1) Oc zc0 hcs zc1 hsf zc4 zc5 zc6 zc7 (by decide : ¬ ((56 : Int32) < (0 : Int32))) (by decide : (56 : Int32) < (68 : Int32)) rfl) hZ (own_w hw 85 rfl) (own_w hw 73 rfl) (by decide) (by decide)) q277a q277c (g := (mkF m 258 #[.val (.int p1), .val (.ref b1), .val (.ref b104), .val (.int (28 : Int32)), .val (.ref ad28), .unset, .unset] [(.int (56 : Int32)), (.ref b104)])) rfl (by rw [hml]; rfl) (Steps.refl _) (argsL := [(.int (56 : Int32))]) (rest := []) (lenOf pd_5 rfl) rfl (by show 2 * 0 + _ ≤ _; exact Nat.le_of_eq rfl) (hb hby at_258) (fun _ _ => ⟨rfl, ec, (by decide : 3 + 0 ≤ _), (by decide : 310 + 0 ≤ _)⟩)
  dsimp only [Pt.U, Pt.locs, Pt.cells, Pt.slots] at X277 l277 y277 z277 st277 hQ277
  subst l277 y277 z277
  obtain ⟨rfl, N277q, eh277⟩ := hQ277
  have N277 := Fr.app Nc N277q
  refine own_via st277 ?_
  refine own_go (A := T277.setTop (mkF m 269 #[.val (.int p1), .val (.ref b1), .val (.ref b104), .val (.int (28 : Int32)), .val (.ref ad28), .val (.int (85 : Int32)), .unset] [(.int (57 : Int32)), (.ref b104)])) (fun t_ k_ => ?_) ?_
  · show Steps p.tables e below (T277.setTop (mkF m 261 #[.val (.int p1), .val (.ref b1), .val (.ref b104), .val (.int (28 : Int32)), .val (.ref ad28), .unset, .unset] [(.int (85 : Int32))])) t_
    refine XS.istore X277.here hx rfl (hb hby at_261) rfl (l' := #[.val (.int p1), .val (.ref b1), .val (.ref b104), .val (.int (28 : Int32)), .val (.ref ad28), .val (.int (85 : Int32)), .unset]) rfl ?_
    show Steps p.tables e below (T277.setTop (mkF m 263 #[.val (.int p1), .val (.ref b1), .val (.ref b104), .val (.int (28 : Int32)), .val (.ref ad28), .val (.int (85 : Int32)), .unset] [])) t_
    refine XS.aloadN X277.here hx rfl (hb hby at_263) rfl rfl ?_
    show Steps p.tables e below (T277.setTop (mkF m 264 #[.val (.int p1), .val (.ref b1), .val (.ref b104), .val (.int (28 : Int32)), .val (.ref ad28), .val (.int (85 : Int32)), .unset] [(.ref b104)])) t_
    refine XS.iconst X277.here hx rfl (hb hby at_264) ?_
    show Steps p.tables e below (T277.setTop (mkF m 265 #[.val (.int p1), .val (.ref b1), .val (.ref b104), .val (.int (28 : Int32)), .val (.ref ad28), .val (.int (85 : Int32)), .unset] [(.int (2 : Int32)), (.ref b104)])) t_
    refine XS.iloadN X277.here hx rfl (hb hby at_265) rfl ?_
    show Steps p.tables e below (T277.setTop (mkF m 266 #[.val (.int p1), .val (.ref b1), .val (.ref b104), .val (.int (28 : Int32)), .val (.ref ad28), .val (.int (85 : Int32)), .unset] [(.int (28 : Int32)), (.int (2 : Int32)), (.ref b104)])) t_
    refine XS.imul X277.here hx rfl (hb hby at_266) rfl ?_
    show Steps p.tables e below (T277.setTop (mkF m 267 #[.val (.int p1), .val (.ref b1), .val (.ref b104), .val (.int (28 : Int32)), .val (.ref ad28), .val (.int (85 : Int32)), .unset] [(.int (56 : Int32)), (.ref b104)])) t_
    refine XS.iconst X277.here hx rfl (hb hby at_267) ?_
    show Steps p.tables e below (T277.setTop (mkF m 268 #[.val (.int p1), .val (.ref b1), .val (.ref b104), .val (.int (28 : Int32)), .val (.ref ad28), .val (.int (85 : Int32)), .unset] [(.int (1 : Int32)), (.int (56 : Int32)), (.ref b104)])) t_
    refine XS.iadd X277.here hx rfl (hb hby at_268) rfl ?_
    exact k_
  obtain ⟨cq278, kq278, q278a, q278b, q278c⟩ := isOf hZ eh277 zc4
  obtain ⟨_, _, ⟨T278, L278, k278, n278⟩, -, X278, ⟨Lc278, hQ278, l278, y278, z278⟩, st278⟩ := X277.virtualBack hx (y := own_y4) (z := own_y4) hown (mvT hZ (own_w hw 81 rfl)) (mvT hZ (own_w hw 82 rfl)) (notFace_of_selects (args := #[]) (mvT hZ (own_w hw 84 rfl))) (mvT hZ (own_w hw 84 rfl)) (mvT hZ (own_w hw 83 rfl)) (by decide) (backOf (W := 0) (rmChAt l Z a0 hw [] b104 (57 : Int32) d104 kk104 (68 : Int32) own_txt (76 : Int32) sf cs Hc n0 (Nat.le_trans Z0 Kc0.1) Oc zc0 hcs zc1 hsf zc4 zc5 zc6 zc7 (by decide : ¬ ((57 : Int32) < (0 : Int32))) (by decide : (57 : Int32) < (68 : Int32)) rfl) hZ (own_w hw 85 rfl) (own_w hw 73 rfl) (by decide) (by decide)) q278a q278c (g := (mkF m 269 #[.val (.int p1), .val (.ref b1), .val (.ref b104), .val (.int (28 : Int32)), .val (.ref ad28), .val (.int (85 : Int32)), .unset] [(.int (57 : Int32)), (.ref b104)])) rfl (by rw [hml]; rfl) (Steps.refl _) (argsL := [(.int (57 : Int32))]) (rest := []) (lenOf pd_5 rfl) rfl (by show 2 * 0 + _ ≤ _; exact Nat.le_of_eq rfl) (hb hby at_269) (fun _ _ => ⟨rfl, eh277, (by decide : 3 + 0 ≤ _), (by decide : 310 + 0 ≤ _)⟩)
  dsimp only [Pt.U, Pt.locs, Pt.cells, Pt.slots] at X278 l278 y278 z278 st278 hQ278
  subst l278 y278 z278
  obtain ⟨rfl, N278q, eh278⟩ := hQ278
  have N278 := Fr.app N277 N278q
  refine own_via st278 ?_
  refine own_go (A := T278.setTop (mkF m 276 #[.val (.int p1), .val (.ref b1), .val (.ref b104), .val (.int (28 : Int32)), .val (.ref ad28), .val (.int (85 : Int32)), .val (.int (76 : Int32))] [(.ref ad28)])) (fun t_ k_ => ?_) ?_
  · show Steps p.tables e below (T278.setTop (mkF m 272 #[.val (.int p1), .val (.ref b1), .val (.ref b104), .val (.int (28 : Int32)), .val (.ref ad28), .val (.int (85 : Int32)), .unset] [(.int (76 : Int32))])) t_
    refine XS.istore X278.here hx rfl (hb hby at_272) rfl (l' := #[.val (.int p1), .val (.ref b1), .val (.ref b104), .val (.int (28 : Int32)), .val (.ref ad28), .val (.int (85 : Int32)), .val (.int (76 : Int32))]) rfl ?_
    show Steps p.tables e below (T278.setTop (mkF m 274 #[.val (.int p1), .val (.ref b1), .val (.ref b104), .val (.int (28 : Int32)), .val (.ref ad28), .val (.int (85 : Int32)), .val (.int (76 : Int32))] [])) t_
    refine XS.aload X278.here hx rfl (hb hby at_274) rfl rfl ?_
    exact k_
  obtain ⟨cq279, kq279, q279a, q279b, q279c⟩ := isOf hZ eh278 (zc2.ext Oc.2)
  obtain ⟨_, _, ⟨T279, L279, k279, n279⟩, -, X279, ⟨Lc279, hQ279, l279, y279, z279⟩, st279⟩ := X278.virtualBack hx (y := own_y7) (z := own_y7) hown (mvT hZ (own_w hw 106 rfl)) (mvT hZ (own_w hw 107 rfl)) (notFace_of_selects (args := #[]) (mvT hZ (own_w hw 109 rfl))) (mvT hZ (own_w hw 109 rfl)) (mvT hZ (own_w hw 108 rfl)) (by decide) (backOf (W := 0) (rmMIn108 l Z a0 hw [] ad28 (28 : Int32) Hc n0 (Nat.le_trans Z0 Kc0.1) Oc zc2 zc3 (by decide) (by decide)) hZ (own_w hw 110 rfl) (own_w hw 3 rfl) (by decide) (by decide)) q279a q279c (g := (mkF m 276 #[.val (.int p1), .val (.ref b1), .val (.ref b104), .val (.int (28 : Int32)), .val (.ref ad28), .val (.int (85 : Int32)), .val (.int (76 : Int32))] [(.ref ad28)])) rfl (by rw [hml]; rfl) (Steps.refl _) (argsL := []) (rest := []) (lenOf pd_2 rfl) rfl (by show 2 * 0 + _ ≤ _; exact Nat.le_of_eq rfl) (hb hby at_276) (fun _ _ => ⟨rfl, eh278, (by decide : 3 + 0 ≤ _), (by decide : 310 + 0 ≤ _)⟩)
  dsimp only [Pt.U, Pt.locs, Pt.cells, Pt.slots] at X279 l279 y279 z279 st279 hQ279
  subst l279 y279 z279
  obtain ⟨rfl, N279q, eh279⟩ := hQ279
  have N279 := Fr.app N278 N279q
  refine own_via st279 ?_
  refine own_go (A := T279.setTop (mkF m 283 #[.val (.int p1), .val (.ref b1), .val (.ref b104), .val (.int (28 : Int32)), .val (.ref ad28), .val (.int (85 : Int32)), .val (.int (76 : Int32))] [(.int (76 : Int32)), (.int (85 : Int32)), (.int (0 : Int32))])) (fun t_ k_ => ?_) ?_
  · show Steps p.tables e below (T279.setTop (mkF m 279 #[.val (.int p1), .val (.ref b1), .val (.ref b104), .val (.int (28 : Int32)), .val (.ref ad28), .val (.int (85 : Int32)), .val (.int (76 : Int32))] [(.int (0 : Int32))])) t_
    refine XS.iload X279.here hx rfl (hb hby at_279) rfl ?_
    show Steps p.tables e below (T279.setTop (mkF m 281 #[.val (.int p1), .val (.ref b1), .val (.ref b104), .val (.int (28 : Int32)), .val (.ref ad28), .val (.int (85 : Int32)), .val (.int (76 : Int32))] [(.int (85 : Int32)), (.int (0 : Int32))])) t_
    refine XS.iload X279.here hx rfl (hb hby at_281) rfl ?_
    exact k_
  obtain ⟨_, _, ⟨T280, L280, k280, n280⟩, -, X280, ⟨Lc280, hQ280, l280, y280, z280⟩, st280⟩ := Jvm.LawKit.callS X279 hx (y := own_y8) hown (mvT hZ (own_w hw 120 rfl)) (mvT hZ (own_w hw 121 rfl)) (mvT hZ (own_w hw 122 rfl)) (mvT hZ (own_w hw 123 rfl)) (by decide) (backOf (W := 1) (rmEU l Z a0 hw [] (76 : Int32) Hc n0 (Nat.le_trans Z0 Kc0.1) (by decide : ¬ ((76 : Int32) = (67 : Int32))) (by decide : ¬ ((76 : Int32) = (78 : Int32))) (by decide : ¬ ((76 : Int32) = (82 : Int32))) (by decide : ¬ ((76 : Int32) = (84 : Int32))) (by decide : ¬ ((76 : Int32) = (86 : Int32)))) hZ (own_w hw 123 rfl) (own_w hw 122 rfl) (by decide) (by decide)) (g := (mkF m 283 #[.val (.int p1), .val (.ref b1), .val (.ref b104), .val (.int (28 : Int32)), .val (.ref ad28), .val (.int (85 : Int32)), .val (.int (76 : Int32))] [(.int (76 : Int32)), (.int (85 : Int32)), (.int (0 : Int32))])) rfl (by rw [hml]; rfl) (argsL := [(.int (85 : Int32)), (.int (76 : Int32))]) (rest := [(.int (0 : Int32))]) (lenOf pd_6 rfl) rfl (by show 2 * 0 + _ ≤ _; exact Nat.le_of_eq rfl) (hb hby at_283) (fun _ _ => ⟨rfl, eh279, (by decide : 3 + 0 ≤ _), (by decide : 310 + 0 ≤ _)⟩)
  dsimp only [Pt.U, Pt.locs, Pt.cells, Pt.slots] at X280 l280 y280 z280 st280 hQ280
  subst l280 y280 z280
  obtain ⟨rfl, N280q, eh280⟩ := hQ280
  have N280 := Fr.app N279 N280q
  refine own_go st280 ?_
  refine own_go (A := T280.setTop (mkF m 294 #[.val (.int p1), .val (.ref b1), .val (.ref b104), .val (.int (28 : Int32)), .val (.ref ad28), .val (.int (85 : Int32)), .val (.int (76 : Int32))] [(.int (1 : Int32))])) (fun t_ k_ => ?_) ?_
  · show Steps p.tables e below (T280.setTop (mkF m 286 #[.val (.int p1), .val (.ref b1), .val (.ref b104), .val (.int (28 : Int32)), .val (.ref ad28), .val (.int (85 : Int32)), .val (.int (76 : Int32))] [(.int (0 : Int32)), (.int (0 : Int32))])) t_
    refine XS.icmpNo X280.here hx rfl (hb hby at_286) rfl (teq (by decide : (0 : Int32) = (0 : Int32))).2 ?_
    show Steps p.tables e below (T280.setTop (mkF m 289 #[.val (.int p1), .val (.ref b1), .val (.ref b104), .val (.int (28 : Int32)), .val (.ref ad28), .val (.int (85 : Int32)), .val (.int (76 : Int32))] [])) t_
    refine XS.iconst X280.here hx rfl (hb hby at_289) ?_
    show Steps p.tables e below (T280.setTop (mkF m 290 #[.val (.int p1), .val (.ref b1), .val (.ref b104), .val (.int (28 : Int32)), .val (.ref ad28), .val (.int (85 : Int32)), .val (.int (76 : Int32))] [(.int (1 : Int32))])) t_
    refine XS.goto X280.here hx rfl (pc0 := 290) (pc' := 294) rfl (hb hby at_290) (by decide) (by decide) ?_
    exact k_
  obtain ⟨fs281, hr281, hrun281, hended281, hRW281⟩ := X280.leaveW hS (by rw [eh280]; exact hk) (v := some (.int (1 : Int32))) (fun h => by rw [hret] at h; cases h)
  refine ⟨_, _, ?_, hrun281, hended281, _, _, rfl, ?_, hRW281.1, hRW281.2.1, hRW281.2.2.1, hRW281.2.2.2.mono (by decide) (by decide)⟩
  · exact retN X280 hx (t := .boolean) hret (by simp) (hb hby at_294) hr281
  · show Q_rm0 Z p1 cs sf ad0 ad1 ad2 ad3 ad4 ad5 ad6 ad7 ad8 ad9 ad10 ad11 ad12 ad13 ad14 ad15 ad16 ad17 ad18 ad19 ad20 ad21 ad22 ad23 ad24 ad25 ad26 ad27 ad28 ad29 ad30 ad31 ad32 ad33 h0 n0 _ T280.heap _
    rw [eh280]
    exact ⟨rfl, N280, Kc0⟩
set_option maxRecDepth 65536 in
set_option maxHeartbeats 40000000 in
theorem own_sufad29 (l : Launch) (Z : State) (a0 : Array Value) (hw : ∀ d ∈ tables_1, d.before a0 Z = true) (p1 : Int32) (cs : Int32) (sf : Value) (ad0 : Addr) (ad1 : Addr) (ad2 : Addr) (ad3 : Addr) (ad4 : Addr) (ad5 : Addr) (ad6 : Addr) (ad7 : Addr) (ad8 : Addr) (ad9 : Addr) (ad10 : Addr) (ad11 : Addr) (ad12 : Addr) (ad13 : Addr) (ad14 : Addr) (ad15 : Addr) (ad16 : Addr) (ad17 : Addr) (ad18 : Addr) (ad19 : Addr) (ad20 : Addr) (ad21 : Addr) (ad22 : Addr) (ad23 : Addr) (ad24 : Addr) (ad25 : Addr) (ad26 : Addr) (ad27 : Addr) (ad28 : Addr) (ad29 : Addr) (ad30 : Addr) (ad31 : Addr) (ad32 : Addr) (ad33 : Addr) (b1 : Addr) (b104 : Addr) (d104 : Addr) (kk104 : ClassId) (h0 : Heap) (n0 : Nat) (Z0 : n0 ≤ h0.size) {p : Program} {e : Env} {s : State} {m : MethodId} {below : List Frame} {meth : Method} {c : Code} {Tc : State} {Hc : Heap} {locsc : List Loc} {vmc : Vm} {kc0 : Nat} (Xc : Stand p l e room_1 (s.setVm vmc) m #[(.int p1)] below meth c Tc locsc 3 310) (hx : p.tables.exec = Jvm.exec) (hZ : Z.Warmed39 (s.setVm vmc).vm) (hby : c.code = code) (hml : c.maxLocals = 7) (hown : (s.setVm vmc).vm.findClass "com/example/querent/querent/dicom/VrHasLongLengthPinLaw" = some m.cls) (hret : meth.sig.returnType = some .boolean) (hlk : meth.locks = false) (hh : s.heap = h0) (ec : Tc.heap = Hc) (Nc : Fr n0 locsc) (Kc0 : Keep h0 Hc []) (Oc : Old Z n0 Hc) (hS : s.Since vmc kc0) (hk : kc0 ≤ Hc.size) (hSA : ∀ a ∈ Bundle.stringAtoms, a.before a0 Z = true) (zc0 : Sta Z Z.heap "java/lang/String" "COMPACT_STRINGS" "Z" (.int cs)) (zc1 : Sta Z Z.heap "jdk/internal/util/Preconditions" "SIOOBE_FORMATTER" "Ljava/util/function/BiFunction;" sf) (zc2 : Exa Z Z.heap ad29 "com/example/querent/querent/dicom/Vr") (zc3 : Fld Z Z.heap ad29 "java/lang/Enum" "ordinal" "I" (.int (29 : Int32))) (zc4 : Exa Z Hc b104 "java/lang/String") (zc5 : Fld Z Hc b104 "java/lang/String" "coder" "B" (.int (0 : Int32))) (zc6 : Fld Z Hc b104 "java/lang/String" "value" "[B" (.ref d104)) (zc7 : Arv Z Hc d104 kk104 .byte (68 : Int32) own_txt (.int (0 : Int32))) (hcs : ¬ (cs = (0 : Int32))) (hsf : sf.isRef = true) (hn0 : n0 = h0.size) (hcw : Jvm.Lit.compactW.before a0 Z = true) (hlit : Jvm.Lit.constHeld Z "com/example/querent/querent/dicom/VrHasLongLengthPinLaw" 112) :
    ∃ U_ o_, Steps p.tables e below (Tc.setTop (mkF m 254 #[.val (.int p1), .val (.ref b1), .val (.ref b104), .val (.int (29 : Int32)), .val (.ref ad29), .unset, .unset] [])) U_ ∧ U_.status = .running ∧ Ended U_ below o_ ∧ (∃ v_ L_, o_ = .returned v_ ∧ Q_rm0 Z p1 cs sf ad0 ad1 ad2 ad3 ad4 ad5 ad6 ad7 ad8 ad9 ad10 ad11 ad12 ad13 ad14 ad15 ad16 ad17 ad18 ad19 ad20 ad21 ad22 ad23 ad24 ad25 ad26 ad27 ad28 ad29 ad30 ad31 ad32 ad33 h0 n0 v_ U_.heap L_ ∧ ReturnedEndW s o_ U_ L_ room_1.cells room_1.slots) := by
  refine own_go (A := Tc.setTop (mkF m 258 #[.val (.int p1), .val (.ref b1), .val (.ref b104), .val (.int (29 : Int32)), .val (.ref ad29), .unset, .unset] [(.int (58 : Int32)), (.ref b104)])) (fun t_ k_ => ?_) ?_
  · show Steps p.tables e below (Tc.setTop (mkF m 254 #[.val (.int p1), .val (.ref b1), .val (.ref b104), .val (.int (29 : Int32)), .val (.ref ad29), .unset, .unset] [])) t_
    refine XS.aloadN Xc.here hx rfl (hb hby at_254) rfl rfl ?_
    show Steps p.tables e below (Tc.setTop (mkF m 255 #[.val (.int p1), .val (.ref b1), .val (.ref b104), .val (.int (29 : Int32)), .val (.ref ad29), .unset, .unset] [(.ref b104)])) t_
    refine XS.iconst Xc.here hx rfl (hb hby at_255) ?_
    show Steps p.tables e below (Tc.setTop (mkF m 256 #[.val (.int p1), .val (.ref b1), .val (.ref b104), .val (.int (29 : Int32)), .val (.ref ad29), .unset, .unset] [(.int (2 : Int32)), (.ref b104)])) t_
    refine XS.iloadN Xc.here hx rfl (hb hby at_256) rfl ?_
    show Steps p.tables e below (Tc.setTop (mkF m 257 #[.val (.int p1), .val (.ref b1), .val (.ref b104), .val (.int (29 : Int32)), .val (.ref ad29), .unset, .unset] [(.int (29 : Int32)), (.int (2 : Int32)), (.ref b104)])) t_
    refine XS.imul Xc.here hx rfl (hb hby at_257) rfl ?_
    exact k_
  obtain ⟨cq283, kq283, q283a, q283b, q283c⟩ := isOf hZ ec zc4
  obtain ⟨_, _, ⟨T283, L283, k283, n283⟩, -, X283, ⟨Lc283, hQ283, l283, y283, z283⟩, st283⟩ := Xc.virtualBack hx (y := own_y4) (z := own_y4) hown (mvT hZ (own_w hw 81 rfl)) (mvT hZ (own_w hw 82 rfl)) (notFace_of_selects (args := #[]) (mvT hZ (own_w hw 84 rfl))) (mvT hZ (own_w hw 84 rfl)) (mvT hZ (own_w hw 83 rfl)) (by decide) (backOf (W := 0) (rmChAt l Z a0 hw [] b104 (58 : Int32) d104 kk104 (68 : Int32) own_txt (85 : Int32) sf cs Hc n0 (Nat.le_trans Z0 Kc0.1) Oc zc0 hcs zc1 hsf zc4 zc5 zc6 zc7 (by decide : ¬ ((58 : Int32) < (0 : Int32))) (by decide : (58 : Int32) < (68 : Int32)) rfl) hZ (own_w hw 85 rfl) (own_w hw 73 rfl) (by decide) (by decide)) q283a q283c (g := (mkF m 258 #[.val (.int p1), .val (.ref b1), .val (.ref b104), .val (.int (29 : Int32)), .val (.ref ad29), .unset, .unset] [(.int (58 : Int32)), (.ref b104)])) rfl (by rw [hml]; rfl) (Steps.refl _) (argsL := [(.int (58 : Int32))]) (rest := []) (lenOf pd_5 rfl) rfl (by show 2 * 0 + _ ≤ _; exact Nat.le_of_eq rfl) (hb hby at_258) (fun _ _ => ⟨rfl, ec, (by decide : 3 + 0 ≤ _), (by decide : 310 + 0 ≤ _)⟩)
  dsimp only [Pt.U, Pt.locs, Pt.cells, Pt.slots] at X283 l283 y283 z283 st283 hQ283
  subst l283 y283 z283
  obtain ⟨rfl, N283q, eh283⟩ := hQ283
  have N283 := Fr.app Nc N283q
  refine own_via st283 ?_
  refine own_go (A := T283.setTop (mkF m 269 #[.val (.int p1), .val (.ref b1), .val (.ref b104), .val (.int (29 : Int32)), .val (.ref ad29), .val (.int (85 : Int32)), .unset] [(.int (59 : Int32)), (.ref b104)])) (fun t_ k_ => ?_) ?_
  · show Steps p.tables e below (T283.setTop (mkF m 261 #[.val (.int p1), .val (.ref b1), .val (.ref b104), .val (.int (29 : Int32)), .val (.ref ad29), .unset, .unset] [(.int (85 : Int32))])) t_
    refine XS.istore X283.here hx rfl (hb hby at_261) rfl (l' := #[.val (.int p1), .val (.ref b1), .val (.ref b104), .val (.int (29 : Int32)), .val (.ref ad29), .val (.int (85 : Int32)), .unset]) rfl ?_
    show Steps p.tables e below (T283.setTop (mkF m 263 #[.val (.int p1), .val (.ref b1), .val (.ref b104), .val (.int (29 : Int32)), .val (.ref ad29), .val (.int (85 : Int32)), .unset] [])) t_
    refine XS.aloadN X283.here hx rfl (hb hby at_263) rfl rfl ?_
    show Steps p.tables e below (T283.setTop (mkF m 264 #[.val (.int p1), .val (.ref b1), .val (.ref b104), .val (.int (29 : Int32)), .val (.ref ad29), .val (.int (85 : Int32)), .unset] [(.ref b104)])) t_
    refine XS.iconst X283.here hx rfl (hb hby at_264) ?_
    show Steps p.tables e below (T283.setTop (mkF m 265 #[.val (.int p1), .val (.ref b1), .val (.ref b104), .val (.int (29 : Int32)), .val (.ref ad29), .val (.int (85 : Int32)), .unset] [(.int (2 : Int32)), (.ref b104)])) t_
    refine XS.iloadN X283.here hx rfl (hb hby at_265) rfl ?_
    show Steps p.tables e below (T283.setTop (mkF m 266 #[.val (.int p1), .val (.ref b1), .val (.ref b104), .val (.int (29 : Int32)), .val (.ref ad29), .val (.int (85 : Int32)), .unset] [(.int (29 : Int32)), (.int (2 : Int32)), (.ref b104)])) t_
    refine XS.imul X283.here hx rfl (hb hby at_266) rfl ?_
    show Steps p.tables e below (T283.setTop (mkF m 267 #[.val (.int p1), .val (.ref b1), .val (.ref b104), .val (.int (29 : Int32)), .val (.ref ad29), .val (.int (85 : Int32)), .unset] [(.int (58 : Int32)), (.ref b104)])) t_
    refine XS.iconst X283.here hx rfl (hb hby at_267) ?_
    show Steps p.tables e below (T283.setTop (mkF m 268 #[.val (.int p1), .val (.ref b1), .val (.ref b104), .val (.int (29 : Int32)), .val (.ref ad29), .val (.int (85 : Int32)), .unset] [(.int (1 : Int32)), (.int (58 : Int32)), (.ref b104)])) t_
    refine XS.iadd X283.here hx rfl (hb hby at_268) rfl ?_
    exact k_
  obtain ⟨cq284, kq284, q284a, q284b, q284c⟩ := isOf hZ eh283 zc4
  obtain ⟨_, _, ⟨T284, L284, k284, n284⟩, -, X284, ⟨Lc284, hQ284, l284, y284, z284⟩, st284⟩ := X283.virtualBack hx (y := own_y4) (z := own_y4) hown (mvT hZ (own_w hw 81 rfl)) (mvT hZ (own_w hw 82 rfl)) (notFace_of_selects (args := #[]) (mvT hZ (own_w hw 84 rfl))) (mvT hZ (own_w hw 84 rfl)) (mvT hZ (own_w hw 83 rfl)) (by decide) (backOf (W := 0) (rmChAt l Z a0 hw [] b104 (59 : Int32) d104 kk104 (68 : Int32) own_txt (78 : Int32) sf cs Hc n0 (Nat.le_trans Z0 Kc0.1) Oc zc0 hcs zc1 hsf zc4 zc5 zc6 zc7 (by decide : ¬ ((59 : Int32) < (0 : Int32))) (by decide : (59 : Int32) < (68 : Int32)) rfl) hZ (own_w hw 85 rfl) (own_w hw 73 rfl) (by decide) (by decide)) q284a q284c (g := (mkF m 269 #[.val (.int p1), .val (.ref b1), .val (.ref b104), .val (.int (29 : Int32)), .val (.ref ad29), .val (.int (85 : Int32)), .unset] [(.int (59 : Int32)), (.ref b104)])) rfl (by rw [hml]; rfl) (Steps.refl _) (argsL := [(.int (59 : Int32))]) (rest := []) (lenOf pd_5 rfl) rfl (by show 2 * 0 + _ ≤ _; exact Nat.le_of_eq rfl) (hb hby at_269) (fun _ _ => ⟨rfl, eh283, (by decide : 3 + 0 ≤ _), (by decide : 310 + 0 ≤ _)⟩)
  dsimp only [Pt.U, Pt.locs, Pt.cells, Pt.slots] at X284 l284 y284 z284 st284 hQ284
  subst l284 y284 z284
  obtain ⟨rfl, N284q, eh284⟩ := hQ284
  have N284 := Fr.app N283 N284q
  refine own_via st284 ?_
  refine own_go (A := T284.setTop (mkF m 276 #[.val (.int p1), .val (.ref b1), .val (.ref b104), .val (.int (29 : Int32)), .val (.ref ad29), .val (.int (85 : Int32)), .val (.int (78 : Int32))] [(.ref ad29)])) (fun t_ k_ => ?_) ?_
  · show Steps p.tables e below (T284.setTop (mkF m 272 #[.val (.int p1), .val (.ref b1), .val (.ref b104), .val (.int (29 : Int32)), .val (.ref ad29), .val (.int (85 : Int32)), .unset] [(.int (78 : Int32))])) t_
    refine XS.istore X284.here hx rfl (hb hby at_272) rfl (l' := #[.val (.int p1), .val (.ref b1), .val (.ref b104), .val (.int (29 : Int32)), .val (.ref ad29), .val (.int (85 : Int32)), .val (.int (78 : Int32))]) rfl ?_
    show Steps p.tables e below (T284.setTop (mkF m 274 #[.val (.int p1), .val (.ref b1), .val (.ref b104), .val (.int (29 : Int32)), .val (.ref ad29), .val (.int (85 : Int32)), .val (.int (78 : Int32))] [])) t_
    refine XS.aload X284.here hx rfl (hb hby at_274) rfl rfl ?_
    exact k_
  obtain ⟨cq285, kq285, q285a, q285b, q285c⟩ := isOf hZ eh284 (zc2.ext Oc.2)
  obtain ⟨_, _, ⟨T285, L285, k285, n285⟩, -, X285, ⟨Lc285, hQ285, l285, y285, z285⟩, st285⟩ := X284.virtualBack hx (y := own_y7) (z := own_y7) hown (mvT hZ (own_w hw 106 rfl)) (mvT hZ (own_w hw 107 rfl)) (notFace_of_selects (args := #[]) (mvT hZ (own_w hw 109 rfl))) (mvT hZ (own_w hw 109 rfl)) (mvT hZ (own_w hw 108 rfl)) (by decide) (backOf (W := 0) (rmMIn104 l Z a0 hw [] ad29 (29 : Int32) Hc n0 (Nat.le_trans Z0 Kc0.1) Oc zc2 zc3 (by decide) (by decide)) hZ (own_w hw 110 rfl) (own_w hw 3 rfl) (by decide) (by decide)) q285a q285c (g := (mkF m 276 #[.val (.int p1), .val (.ref b1), .val (.ref b104), .val (.int (29 : Int32)), .val (.ref ad29), .val (.int (85 : Int32)), .val (.int (78 : Int32))] [(.ref ad29)])) rfl (by rw [hml]; rfl) (Steps.refl _) (argsL := []) (rest := []) (lenOf pd_2 rfl) rfl (by show 2 * 0 + _ ≤ _; exact Nat.le_of_eq rfl) (hb hby at_276) (fun _ _ => ⟨rfl, eh284, (by decide : 3 + 0 ≤ _), (by decide : 310 + 0 ≤ _)⟩)
  dsimp only [Pt.U, Pt.locs, Pt.cells, Pt.slots] at X285 l285 y285 z285 st285 hQ285
  subst l285 y285 z285
  obtain ⟨rfl, N285q, eh285⟩ := hQ285
  have N285 := Fr.app N284 N285q
  refine own_via st285 ?_
  refine own_go (A := T285.setTop (mkF m 283 #[.val (.int p1), .val (.ref b1), .val (.ref b104), .val (.int (29 : Int32)), .val (.ref ad29), .val (.int (85 : Int32)), .val (.int (78 : Int32))] [(.int (78 : Int32)), (.int (85 : Int32)), (.int (1 : Int32))])) (fun t_ k_ => ?_) ?_
  · show Steps p.tables e below (T285.setTop (mkF m 279 #[.val (.int p1), .val (.ref b1), .val (.ref b104), .val (.int (29 : Int32)), .val (.ref ad29), .val (.int (85 : Int32)), .val (.int (78 : Int32))] [(.int (1 : Int32))])) t_
    refine XS.iload X285.here hx rfl (hb hby at_279) rfl ?_
    show Steps p.tables e below (T285.setTop (mkF m 281 #[.val (.int p1), .val (.ref b1), .val (.ref b104), .val (.int (29 : Int32)), .val (.ref ad29), .val (.int (85 : Int32)), .val (.int (78 : Int32))] [(.int (85 : Int32)), (.int (1 : Int32))])) t_
    refine XS.iload X285.here hx rfl (hb hby at_281) rfl ?_
    exact k_
  obtain ⟨_, _, ⟨T286, L286, k286, n286⟩, -, X286, ⟨Lc286, hQ286, l286, y286, z286⟩, st286⟩ := Jvm.LawKit.callS X285 hx (y := own_y8) hown (mvT hZ (own_w hw 120 rfl)) (mvT hZ (own_w hw 121 rfl)) (mvT hZ (own_w hw 122 rfl)) (mvT hZ (own_w hw 123 rfl)) (by decide) (backOf (W := 1) (rmEUN l Z a0 hw [] Hc n0 (Nat.le_trans Z0 Kc0.1)) hZ (own_w hw 123 rfl) (own_w hw 122 rfl) (by decide) (by decide)) (g := (mkF m 283 #[.val (.int p1), .val (.ref b1), .val (.ref b104), .val (.int (29 : Int32)), .val (.ref ad29), .val (.int (85 : Int32)), .val (.int (78 : Int32))] [(.int (78 : Int32)), (.int (85 : Int32)), (.int (1 : Int32))])) rfl (by rw [hml]; rfl) (argsL := [(.int (85 : Int32)), (.int (78 : Int32))]) (rest := [(.int (1 : Int32))]) (lenOf pd_6 rfl) rfl (by show 2 * 0 + _ ≤ _; exact Nat.le_of_eq rfl) (hb hby at_283) (fun _ _ => ⟨rfl, eh285, (by decide : 3 + 0 ≤ _), (by decide : 310 + 0 ≤ _)⟩)
  dsimp only [Pt.U, Pt.locs, Pt.cells, Pt.slots] at X286 l286 y286 z286 st286 hQ286
  subst l286 y286 z286
  obtain ⟨rfl, N286q, eh286⟩ := hQ286
  have N286 := Fr.app N285 N286q
  refine own_go st286 ?_
  refine own_go (A := T286.setTop (mkF m 294 #[.val (.int p1), .val (.ref b1), .val (.ref b104), .val (.int (29 : Int32)), .val (.ref ad29), .val (.int (85 : Int32)), .val (.int (78 : Int32))] [(.int (1 : Int32))])) (fun t_ k_ => ?_) ?_
  · show Steps p.tables e below (T286.setTop (mkF m 286 #[.val (.int p1), .val (.ref b1), .val (.ref b104), .val (.int (29 : Int32)), .val (.ref ad29), .val (.int (85 : Int32)), .val (.int (78 : Int32))] [(.int (1 : Int32)), (.int (1 : Int32))])) t_
    refine XS.icmpNo X286.here hx rfl (hb hby at_286) rfl (teq (by decide : (1 : Int32) = (1 : Int32))).2 ?_
    show Steps p.tables e below (T286.setTop (mkF m 289 #[.val (.int p1), .val (.ref b1), .val (.ref b104), .val (.int (29 : Int32)), .val (.ref ad29), .val (.int (85 : Int32)), .val (.int (78 : Int32))] [])) t_
    refine XS.iconst X286.here hx rfl (hb hby at_289) ?_
    show Steps p.tables e below (T286.setTop (mkF m 290 #[.val (.int p1), .val (.ref b1), .val (.ref b104), .val (.int (29 : Int32)), .val (.ref ad29), .val (.int (85 : Int32)), .val (.int (78 : Int32))] [(.int (1 : Int32))])) t_
    refine XS.goto X286.here hx rfl (pc0 := 290) (pc' := 294) rfl (hb hby at_290) (by decide) (by decide) ?_
    exact k_
  obtain ⟨fs287, hr287, hrun287, hended287, hRW287⟩ := X286.leaveW hS (by rw [eh286]; exact hk) (v := some (.int (1 : Int32))) (fun h => by rw [hret] at h; cases h)
  refine ⟨_, _, ?_, hrun287, hended287, _, _, rfl, ?_, hRW287.1, hRW287.2.1, hRW287.2.2.1, hRW287.2.2.2.mono (by decide) (by decide)⟩
  · exact retN X286 hx (t := .boolean) hret (by simp) (hb hby at_294) hr287
  · show Q_rm0 Z p1 cs sf ad0 ad1 ad2 ad3 ad4 ad5 ad6 ad7 ad8 ad9 ad10 ad11 ad12 ad13 ad14 ad15 ad16 ad17 ad18 ad19 ad20 ad21 ad22 ad23 ad24 ad25 ad26 ad27 ad28 ad29 ad30 ad31 ad32 ad33 h0 n0 _ T286.heap _
    rw [eh286]
    exact ⟨rfl, N286, Kc0⟩
set_option maxRecDepth 65536 in
set_option maxHeartbeats 40000000 in
theorem own_sufad30 (l : Launch) (Z : State) (a0 : Array Value) (hw : ∀ d ∈ tables_1, d.before a0 Z = true) (p1 : Int32) (cs : Int32) (sf : Value) (ad0 : Addr) (ad1 : Addr) (ad2 : Addr) (ad3 : Addr) (ad4 : Addr) (ad5 : Addr) (ad6 : Addr) (ad7 : Addr) (ad8 : Addr) (ad9 : Addr) (ad10 : Addr) (ad11 : Addr) (ad12 : Addr) (ad13 : Addr) (ad14 : Addr) (ad15 : Addr) (ad16 : Addr) (ad17 : Addr) (ad18 : Addr) (ad19 : Addr) (ad20 : Addr) (ad21 : Addr) (ad22 : Addr) (ad23 : Addr) (ad24 : Addr) (ad25 : Addr) (ad26 : Addr) (ad27 : Addr) (ad28 : Addr) (ad29 : Addr) (ad30 : Addr) (ad31 : Addr) (ad32 : Addr) (ad33 : Addr) (b1 : Addr) (b104 : Addr) (d104 : Addr) (kk104 : ClassId) (h0 : Heap) (n0 : Nat) (Z0 : n0 ≤ h0.size) {p : Program} {e : Env} {s : State} {m : MethodId} {below : List Frame} {meth : Method} {c : Code} {Tc : State} {Hc : Heap} {locsc : List Loc} {vmc : Vm} {kc0 : Nat} (Xc : Stand p l e room_1 (s.setVm vmc) m #[(.int p1)] below meth c Tc locsc 3 310) (hx : p.tables.exec = Jvm.exec) (hZ : Z.Warmed39 (s.setVm vmc).vm) (hby : c.code = code) (hml : c.maxLocals = 7) (hown : (s.setVm vmc).vm.findClass "com/example/querent/querent/dicom/VrHasLongLengthPinLaw" = some m.cls) (hret : meth.sig.returnType = some .boolean) (hlk : meth.locks = false) (hh : s.heap = h0) (ec : Tc.heap = Hc) (Nc : Fr n0 locsc) (Kc0 : Keep h0 Hc []) (Oc : Old Z n0 Hc) (hS : s.Since vmc kc0) (hk : kc0 ≤ Hc.size) (hSA : ∀ a ∈ Bundle.stringAtoms, a.before a0 Z = true) (zc0 : Sta Z Z.heap "java/lang/String" "COMPACT_STRINGS" "Z" (.int cs)) (zc1 : Sta Z Z.heap "jdk/internal/util/Preconditions" "SIOOBE_FORMATTER" "Ljava/util/function/BiFunction;" sf) (zc2 : Exa Z Z.heap ad30 "com/example/querent/querent/dicom/Vr") (zc3 : Fld Z Z.heap ad30 "java/lang/Enum" "ordinal" "I" (.int (30 : Int32))) (zc4 : Exa Z Hc b104 "java/lang/String") (zc5 : Fld Z Hc b104 "java/lang/String" "coder" "B" (.int (0 : Int32))) (zc6 : Fld Z Hc b104 "java/lang/String" "value" "[B" (.ref d104)) (zc7 : Arv Z Hc d104 kk104 .byte (68 : Int32) own_txt (.int (0 : Int32))) (hcs : ¬ (cs = (0 : Int32))) (hsf : sf.isRef = true) (hn0 : n0 = h0.size) (hcw : Jvm.Lit.compactW.before a0 Z = true) (hlit : Jvm.Lit.constHeld Z "com/example/querent/querent/dicom/VrHasLongLengthPinLaw" 112) :
    ∃ U_ o_, Steps p.tables e below (Tc.setTop (mkF m 254 #[.val (.int p1), .val (.ref b1), .val (.ref b104), .val (.int (30 : Int32)), .val (.ref ad30), .unset, .unset] [])) U_ ∧ U_.status = .running ∧ Ended U_ below o_ ∧ (∃ v_ L_, o_ = .returned v_ ∧ Q_rm0 Z p1 cs sf ad0 ad1 ad2 ad3 ad4 ad5 ad6 ad7 ad8 ad9 ad10 ad11 ad12 ad13 ad14 ad15 ad16 ad17 ad18 ad19 ad20 ad21 ad22 ad23 ad24 ad25 ad26 ad27 ad28 ad29 ad30 ad31 ad32 ad33 h0 n0 v_ U_.heap L_ ∧ ReturnedEndW s o_ U_ L_ room_1.cells room_1.slots) := by
  refine own_go (A := Tc.setTop (mkF m 258 #[.val (.int p1), .val (.ref b1), .val (.ref b104), .val (.int (30 : Int32)), .val (.ref ad30), .unset, .unset] [(.int (60 : Int32)), (.ref b104)])) (fun t_ k_ => ?_) ?_
  · show Steps p.tables e below (Tc.setTop (mkF m 254 #[.val (.int p1), .val (.ref b1), .val (.ref b104), .val (.int (30 : Int32)), .val (.ref ad30), .unset, .unset] [])) t_
    refine XS.aloadN Xc.here hx rfl (hb hby at_254) rfl rfl ?_
    show Steps p.tables e below (Tc.setTop (mkF m 255 #[.val (.int p1), .val (.ref b1), .val (.ref b104), .val (.int (30 : Int32)), .val (.ref ad30), .unset, .unset] [(.ref b104)])) t_
    refine XS.iconst Xc.here hx rfl (hb hby at_255) ?_
    show Steps p.tables e below (Tc.setTop (mkF m 256 #[.val (.int p1), .val (.ref b1), .val (.ref b104), .val (.int (30 : Int32)), .val (.ref ad30), .unset, .unset] [(.int (2 : Int32)), (.ref b104)])) t_
    refine XS.iloadN Xc.here hx rfl (hb hby at_256) rfl ?_
    show Steps p.tables e below (Tc.setTop (mkF m 257 #[.val (.int p1), .val (.ref b1), .val (.ref b104), .val (.int (30 : Int32)), .val (.ref ad30), .unset, .unset] [(.int (30 : Int32)), (.int (2 : Int32)), (.ref b104)])) t_
    refine XS.imul Xc.here hx rfl (hb hby at_257) rfl ?_
    exact k_
  obtain ⟨cq289, kq289, q289a, q289b, q289c⟩ := isOf hZ ec zc4
  obtain ⟨_, _, ⟨T289, L289, k289, n289⟩, -, X289, ⟨Lc289, hQ289, l289, y289, z289⟩, st289⟩ := Xc.virtualBack hx (y := own_y4) (z := own_y4) hown (mvT hZ (own_w hw 81 rfl)) (mvT hZ (own_w hw 82 rfl)) (notFace_of_selects (args := #[]) (mvT hZ (own_w hw 84 rfl))) (mvT hZ (own_w hw 84 rfl)) (mvT hZ (own_w hw 83 rfl)) (by decide) (backOf (W := 0) (rmChAt l Z a0 hw [] b104 (60 : Int32) d104 kk104 (68 : Int32) own_txt (85 : Int32) sf cs Hc n0 (Nat.le_trans Z0 Kc0.1) Oc zc0 hcs zc1 hsf zc4 zc5 zc6 zc7 (by decide : ¬ ((60 : Int32) < (0 : Int32))) (by decide : (60 : Int32) < (68 : Int32)) rfl) hZ (own_w hw 85 rfl) (own_w hw 73 rfl) (by decide) (by decide)) q289a q289c (g := (mkF m 258 #[.val (.int p1), .val (.ref b1), .val (.ref b104), .val (.int (30 : Int32)), .val (.ref ad30), .unset, .unset] [(.int (60 : Int32)), (.ref b104)])) rfl (by rw [hml]; rfl) (Steps.refl _) (argsL := [(.int (60 : Int32))]) (rest := []) (lenOf pd_5 rfl) rfl (by show 2 * 0 + _ ≤ _; exact Nat.le_of_eq rfl) (hb hby at_258) (fun _ _ => ⟨rfl, ec, (by decide : 3 + 0 ≤ _), (by decide : 310 + 0 ≤ _)⟩)
  dsimp only [Pt.U, Pt.locs, Pt.cells, Pt.slots] at X289 l289 y289 z289 st289 hQ289
  subst l289 y289 z289
  obtain ⟨rfl, N289q, eh289⟩ := hQ289
  have N289 := Fr.app Nc N289q
  refine own_via st289 ?_
  refine own_go (A := T289.setTop (mkF m 269 #[.val (.int p1), .val (.ref b1), .val (.ref b104), .val (.int (30 : Int32)), .val (.ref ad30), .val (.int (85 : Int32)), .unset] [(.int (61 : Int32)), (.ref b104)])) (fun t_ k_ => ?_) ?_
  · show Steps p.tables e below (T289.setTop (mkF m 261 #[.val (.int p1), .val (.ref b1), .val (.ref b104), .val (.int (30 : Int32)), .val (.ref ad30), .unset, .unset] [(.int (85 : Int32))])) t_
    refine XS.istore X289.here hx rfl (hb hby at_261) rfl (l' := #[.val (.int p1), .val (.ref b1), .val (.ref b104), .val (.int (30 : Int32)), .val (.ref ad30), .val (.int (85 : Int32)), .unset]) rfl ?_
    show Steps p.tables e below (T289.setTop (mkF m 263 #[.val (.int p1), .val (.ref b1), .val (.ref b104), .val (.int (30 : Int32)), .val (.ref ad30), .val (.int (85 : Int32)), .unset] [])) t_
    refine XS.aloadN X289.here hx rfl (hb hby at_263) rfl rfl ?_
    show Steps p.tables e below (T289.setTop (mkF m 264 #[.val (.int p1), .val (.ref b1), .val (.ref b104), .val (.int (30 : Int32)), .val (.ref ad30), .val (.int (85 : Int32)), .unset] [(.ref b104)])) t_
    refine XS.iconst X289.here hx rfl (hb hby at_264) ?_
    show Steps p.tables e below (T289.setTop (mkF m 265 #[.val (.int p1), .val (.ref b1), .val (.ref b104), .val (.int (30 : Int32)), .val (.ref ad30), .val (.int (85 : Int32)), .unset] [(.int (2 : Int32)), (.ref b104)])) t_
    refine XS.iloadN X289.here hx rfl (hb hby at_265) rfl ?_
    show Steps p.tables e below (T289.setTop (mkF m 266 #[.val (.int p1), .val (.ref b1), .val (.ref b104), .val (.int (30 : Int32)), .val (.ref ad30), .val (.int (85 : Int32)), .unset] [(.int (30 : Int32)), (.int (2 : Int32)), (.ref b104)])) t_
    refine XS.imul X289.here hx rfl (hb hby at_266) rfl ?_
    show Steps p.tables e below (T289.setTop (mkF m 267 #[.val (.int p1), .val (.ref b1), .val (.ref b104), .val (.int (30 : Int32)), .val (.ref ad30), .val (.int (85 : Int32)), .unset] [(.int (60 : Int32)), (.ref b104)])) t_
    refine XS.iconst X289.here hx rfl (hb hby at_267) ?_
    show Steps p.tables e below (T289.setTop (mkF m 268 #[.val (.int p1), .val (.ref b1), .val (.ref b104), .val (.int (30 : Int32)), .val (.ref ad30), .val (.int (85 : Int32)), .unset] [(.int (1 : Int32)), (.int (60 : Int32)), (.ref b104)])) t_
    refine XS.iadd X289.here hx rfl (hb hby at_268) rfl ?_
    exact k_
  obtain ⟨cq290, kq290, q290a, q290b, q290c⟩ := isOf hZ eh289 zc4
  obtain ⟨_, _, ⟨T290, L290, k290, n290⟩, -, X290, ⟨Lc290, hQ290, l290, y290, z290⟩, st290⟩ := X289.virtualBack hx (y := own_y4) (z := own_y4) hown (mvT hZ (own_w hw 81 rfl)) (mvT hZ (own_w hw 82 rfl)) (notFace_of_selects (args := #[]) (mvT hZ (own_w hw 84 rfl))) (mvT hZ (own_w hw 84 rfl)) (mvT hZ (own_w hw 83 rfl)) (by decide) (backOf (W := 0) (rmChAt l Z a0 hw [] b104 (61 : Int32) d104 kk104 (68 : Int32) own_txt (82 : Int32) sf cs Hc n0 (Nat.le_trans Z0 Kc0.1) Oc zc0 hcs zc1 hsf zc4 zc5 zc6 zc7 (by decide : ¬ ((61 : Int32) < (0 : Int32))) (by decide : (61 : Int32) < (68 : Int32)) rfl) hZ (own_w hw 85 rfl) (own_w hw 73 rfl) (by decide) (by decide)) q290a q290c (g := (mkF m 269 #[.val (.int p1), .val (.ref b1), .val (.ref b104), .val (.int (30 : Int32)), .val (.ref ad30), .val (.int (85 : Int32)), .unset] [(.int (61 : Int32)), (.ref b104)])) rfl (by rw [hml]; rfl) (Steps.refl _) (argsL := [(.int (61 : Int32))]) (rest := []) (lenOf pd_5 rfl) rfl (by show 2 * 0 + _ ≤ _; exact Nat.le_of_eq rfl) (hb hby at_269) (fun _ _ => ⟨rfl, eh289, (by decide : 3 + 0 ≤ _), (by decide : 310 + 0 ≤ _)⟩)
  dsimp only [Pt.U, Pt.locs, Pt.cells, Pt.slots] at X290 l290 y290 z290 st290 hQ290
  subst l290 y290 z290
  obtain ⟨rfl, N290q, eh290⟩ := hQ290
  have N290 := Fr.app N289 N290q
  refine own_via st290 ?_
  refine own_go (A := T290.setTop (mkF m 276 #[.val (.int p1), .val (.ref b1), .val (.ref b104), .val (.int (30 : Int32)), .val (.ref ad30), .val (.int (85 : Int32)), .val (.int (82 : Int32))] [(.ref ad30)])) (fun t_ k_ => ?_) ?_
  · show Steps p.tables e below (T290.setTop (mkF m 272 #[.val (.int p1), .val (.ref b1), .val (.ref b104), .val (.int (30 : Int32)), .val (.ref ad30), .val (.int (85 : Int32)), .unset] [(.int (82 : Int32))])) t_
    refine XS.istore X290.here hx rfl (hb hby at_272) rfl (l' := #[.val (.int p1), .val (.ref b1), .val (.ref b104), .val (.int (30 : Int32)), .val (.ref ad30), .val (.int (85 : Int32)), .val (.int (82 : Int32))]) rfl ?_
    show Steps p.tables e below (T290.setTop (mkF m 274 #[.val (.int p1), .val (.ref b1), .val (.ref b104), .val (.int (30 : Int32)), .val (.ref ad30), .val (.int (85 : Int32)), .val (.int (82 : Int32))] [])) t_
    refine XS.aload X290.here hx rfl (hb hby at_274) rfl rfl ?_
    exact k_
  obtain ⟨cq291, kq291, q291a, q291b, q291c⟩ := isOf hZ eh290 (zc2.ext Oc.2)
  obtain ⟨_, _, ⟨T291, L291, k291, n291⟩, -, X291, ⟨Lc291, hQ291, l291, y291, z291⟩, st291⟩ := X290.virtualBack hx (y := own_y7) (z := own_y7) hown (mvT hZ (own_w hw 106 rfl)) (mvT hZ (own_w hw 107 rfl)) (notFace_of_selects (args := #[]) (mvT hZ (own_w hw 109 rfl))) (mvT hZ (own_w hw 109 rfl)) (mvT hZ (own_w hw 108 rfl)) (by decide) (backOf (W := 0) (rmMIn104 l Z a0 hw [] ad30 (30 : Int32) Hc n0 (Nat.le_trans Z0 Kc0.1) Oc zc2 zc3 (by decide) (by decide)) hZ (own_w hw 110 rfl) (own_w hw 3 rfl) (by decide) (by decide)) q291a q291c (g := (mkF m 276 #[.val (.int p1), .val (.ref b1), .val (.ref b104), .val (.int (30 : Int32)), .val (.ref ad30), .val (.int (85 : Int32)), .val (.int (82 : Int32))] [(.ref ad30)])) rfl (by rw [hml]; rfl) (Steps.refl _) (argsL := []) (rest := []) (lenOf pd_2 rfl) rfl (by show 2 * 0 + _ ≤ _; exact Nat.le_of_eq rfl) (hb hby at_276) (fun _ _ => ⟨rfl, eh290, (by decide : 3 + 0 ≤ _), (by decide : 310 + 0 ≤ _)⟩)
  dsimp only [Pt.U, Pt.locs, Pt.cells, Pt.slots] at X291 l291 y291 z291 st291 hQ291
  subst l291 y291 z291
  obtain ⟨rfl, N291q, eh291⟩ := hQ291
  have N291 := Fr.app N290 N291q
  refine own_via st291 ?_
  refine own_go (A := T291.setTop (mkF m 283 #[.val (.int p1), .val (.ref b1), .val (.ref b104), .val (.int (30 : Int32)), .val (.ref ad30), .val (.int (85 : Int32)), .val (.int (82 : Int32))] [(.int (82 : Int32)), (.int (85 : Int32)), (.int (1 : Int32))])) (fun t_ k_ => ?_) ?_
  · show Steps p.tables e below (T291.setTop (mkF m 279 #[.val (.int p1), .val (.ref b1), .val (.ref b104), .val (.int (30 : Int32)), .val (.ref ad30), .val (.int (85 : Int32)), .val (.int (82 : Int32))] [(.int (1 : Int32))])) t_
    refine XS.iload X291.here hx rfl (hb hby at_279) rfl ?_
    show Steps p.tables e below (T291.setTop (mkF m 281 #[.val (.int p1), .val (.ref b1), .val (.ref b104), .val (.int (30 : Int32)), .val (.ref ad30), .val (.int (85 : Int32)), .val (.int (82 : Int32))] [(.int (85 : Int32)), (.int (1 : Int32))])) t_
    refine XS.iload X291.here hx rfl (hb hby at_281) rfl ?_
    exact k_
  obtain ⟨_, _, ⟨T292, L292, k292, n292⟩, -, X292, ⟨Lc292, hQ292, l292, y292, z292⟩, st292⟩ := Jvm.LawKit.callS X291 hx (y := own_y8) hown (mvT hZ (own_w hw 120 rfl)) (mvT hZ (own_w hw 121 rfl)) (mvT hZ (own_w hw 122 rfl)) (mvT hZ (own_w hw 123 rfl)) (by decide) (backOf (W := 1) (rmEUR l Z a0 hw [] Hc n0 (Nat.le_trans Z0 Kc0.1)) hZ (own_w hw 123 rfl) (own_w hw 122 rfl) (by decide) (by decide)) (g := (mkF m 283 #[.val (.int p1), .val (.ref b1), .val (.ref b104), .val (.int (30 : Int32)), .val (.ref ad30), .val (.int (85 : Int32)), .val (.int (82 : Int32))] [(.int (82 : Int32)), (.int (85 : Int32)), (.int (1 : Int32))])) rfl (by rw [hml]; rfl) (argsL := [(.int (85 : Int32)), (.int (82 : Int32))]) (rest := [(.int (1 : Int32))]) (lenOf pd_6 rfl) rfl (by show 2 * 0 + _ ≤ _; exact Nat.le_of_eq rfl) (hb hby at_283) (fun _ _ => ⟨rfl, eh291, (by decide : 3 + 0 ≤ _), (by decide : 310 + 0 ≤ _)⟩)
  dsimp only [Pt.U, Pt.locs, Pt.cells, Pt.slots] at X292 l292 y292 z292 st292 hQ292
  subst l292 y292 z292
  obtain ⟨rfl, N292q, eh292⟩ := hQ292
  have N292 := Fr.app N291 N292q
  refine own_go st292 ?_
  refine own_go (A := T292.setTop (mkF m 294 #[.val (.int p1), .val (.ref b1), .val (.ref b104), .val (.int (30 : Int32)), .val (.ref ad30), .val (.int (85 : Int32)), .val (.int (82 : Int32))] [(.int (1 : Int32))])) (fun t_ k_ => ?_) ?_
  · show Steps p.tables e below (T292.setTop (mkF m 286 #[.val (.int p1), .val (.ref b1), .val (.ref b104), .val (.int (30 : Int32)), .val (.ref ad30), .val (.int (85 : Int32)), .val (.int (82 : Int32))] [(.int (1 : Int32)), (.int (1 : Int32))])) t_
    refine XS.icmpNo X292.here hx rfl (hb hby at_286) rfl (teq (by decide : (1 : Int32) = (1 : Int32))).2 ?_
    show Steps p.tables e below (T292.setTop (mkF m 289 #[.val (.int p1), .val (.ref b1), .val (.ref b104), .val (.int (30 : Int32)), .val (.ref ad30), .val (.int (85 : Int32)), .val (.int (82 : Int32))] [])) t_
    refine XS.iconst X292.here hx rfl (hb hby at_289) ?_
    show Steps p.tables e below (T292.setTop (mkF m 290 #[.val (.int p1), .val (.ref b1), .val (.ref b104), .val (.int (30 : Int32)), .val (.ref ad30), .val (.int (85 : Int32)), .val (.int (82 : Int32))] [(.int (1 : Int32))])) t_
    refine XS.goto X292.here hx rfl (pc0 := 290) (pc' := 294) rfl (hb hby at_290) (by decide) (by decide) ?_
    exact k_
  obtain ⟨fs293, hr293, hrun293, hended293, hRW293⟩ := X292.leaveW hS (by rw [eh292]; exact hk) (v := some (.int (1 : Int32))) (fun h => by rw [hret] at h; cases h)
  refine ⟨_, _, ?_, hrun293, hended293, _, _, rfl, ?_, hRW293.1, hRW293.2.1, hRW293.2.2.1, hRW293.2.2.2.mono (by decide) (by decide)⟩
  · exact retN X292 hx (t := .boolean) hret (by simp) (hb hby at_294) hr293
  · show Q_rm0 Z p1 cs sf ad0 ad1 ad2 ad3 ad4 ad5 ad6 ad7 ad8 ad9 ad10 ad11 ad12 ad13 ad14 ad15 ad16 ad17 ad18 ad19 ad20 ad21 ad22 ad23 ad24 ad25 ad26 ad27 ad28 ad29 ad30 ad31 ad32 ad33 h0 n0 _ T292.heap _
    rw [eh292]
    exact ⟨rfl, N292, Kc0⟩
set_option maxRecDepth 65536 in
set_option maxHeartbeats 40000000 in
theorem own_sufad31 (l : Launch) (Z : State) (a0 : Array Value) (hw : ∀ d ∈ tables_1, d.before a0 Z = true) (p1 : Int32) (cs : Int32) (sf : Value) (ad0 : Addr) (ad1 : Addr) (ad2 : Addr) (ad3 : Addr) (ad4 : Addr) (ad5 : Addr) (ad6 : Addr) (ad7 : Addr) (ad8 : Addr) (ad9 : Addr) (ad10 : Addr) (ad11 : Addr) (ad12 : Addr) (ad13 : Addr) (ad14 : Addr) (ad15 : Addr) (ad16 : Addr) (ad17 : Addr) (ad18 : Addr) (ad19 : Addr) (ad20 : Addr) (ad21 : Addr) (ad22 : Addr) (ad23 : Addr) (ad24 : Addr) (ad25 : Addr) (ad26 : Addr) (ad27 : Addr) (ad28 : Addr) (ad29 : Addr) (ad30 : Addr) (ad31 : Addr) (ad32 : Addr) (ad33 : Addr) (b1 : Addr) (b104 : Addr) (d104 : Addr) (kk104 : ClassId) (h0 : Heap) (n0 : Nat) (Z0 : n0 ≤ h0.size) {p : Program} {e : Env} {s : State} {m : MethodId} {below : List Frame} {meth : Method} {c : Code} {Tc : State} {Hc : Heap} {locsc : List Loc} {vmc : Vm} {kc0 : Nat} (Xc : Stand p l e room_1 (s.setVm vmc) m #[(.int p1)] below meth c Tc locsc 3 310) (hx : p.tables.exec = Jvm.exec) (hZ : Z.Warmed39 (s.setVm vmc).vm) (hby : c.code = code) (hml : c.maxLocals = 7) (hown : (s.setVm vmc).vm.findClass "com/example/querent/querent/dicom/VrHasLongLengthPinLaw" = some m.cls) (hret : meth.sig.returnType = some .boolean) (hlk : meth.locks = false) (hh : s.heap = h0) (ec : Tc.heap = Hc) (Nc : Fr n0 locsc) (Kc0 : Keep h0 Hc []) (Oc : Old Z n0 Hc) (hS : s.Since vmc kc0) (hk : kc0 ≤ Hc.size) (hSA : ∀ a ∈ Bundle.stringAtoms, a.before a0 Z = true) (zc0 : Sta Z Z.heap "java/lang/String" "COMPACT_STRINGS" "Z" (.int cs)) (zc1 : Sta Z Z.heap "jdk/internal/util/Preconditions" "SIOOBE_FORMATTER" "Ljava/util/function/BiFunction;" sf) (zc2 : Exa Z Z.heap ad31 "com/example/querent/querent/dicom/Vr") (zc3 : Fld Z Z.heap ad31 "java/lang/Enum" "ordinal" "I" (.int (31 : Int32))) (zc4 : Exa Z Hc b104 "java/lang/String") (zc5 : Fld Z Hc b104 "java/lang/String" "coder" "B" (.int (0 : Int32))) (zc6 : Fld Z Hc b104 "java/lang/String" "value" "[B" (.ref d104)) (zc7 : Arv Z Hc d104 kk104 .byte (68 : Int32) own_txt (.int (0 : Int32))) (hcs : ¬ (cs = (0 : Int32))) (hsf : sf.isRef = true) (hn0 : n0 = h0.size) (hcw : Jvm.Lit.compactW.before a0 Z = true) (hlit : Jvm.Lit.constHeld Z "com/example/querent/querent/dicom/VrHasLongLengthPinLaw" 112) :
    ∃ U_ o_, Steps p.tables e below (Tc.setTop (mkF m 254 #[.val (.int p1), .val (.ref b1), .val (.ref b104), .val (.int (31 : Int32)), .val (.ref ad31), .unset, .unset] [])) U_ ∧ U_.status = .running ∧ Ended U_ below o_ ∧ (∃ v_ L_, o_ = .returned v_ ∧ Q_rm0 Z p1 cs sf ad0 ad1 ad2 ad3 ad4 ad5 ad6 ad7 ad8 ad9 ad10 ad11 ad12 ad13 ad14 ad15 ad16 ad17 ad18 ad19 ad20 ad21 ad22 ad23 ad24 ad25 ad26 ad27 ad28 ad29 ad30 ad31 ad32 ad33 h0 n0 v_ U_.heap L_ ∧ ReturnedEndW s o_ U_ L_ room_1.cells room_1.slots) := by
  refine own_go (A := Tc.setTop (mkF m 258 #[.val (.int p1), .val (.ref b1), .val (.ref b104), .val (.int (31 : Int32)), .val (.ref ad31), .unset, .unset] [(.int (62 : Int32)), (.ref b104)])) (fun t_ k_ => ?_) ?_
  · show Steps p.tables e below (Tc.setTop (mkF m 254 #[.val (.int p1), .val (.ref b1), .val (.ref b104), .val (.int (31 : Int32)), .val (.ref ad31), .unset, .unset] [])) t_
    refine XS.aloadN Xc.here hx rfl (hb hby at_254) rfl rfl ?_
    show Steps p.tables e below (Tc.setTop (mkF m 255 #[.val (.int p1), .val (.ref b1), .val (.ref b104), .val (.int (31 : Int32)), .val (.ref ad31), .unset, .unset] [(.ref b104)])) t_
    refine XS.iconst Xc.here hx rfl (hb hby at_255) ?_
    show Steps p.tables e below (Tc.setTop (mkF m 256 #[.val (.int p1), .val (.ref b1), .val (.ref b104), .val (.int (31 : Int32)), .val (.ref ad31), .unset, .unset] [(.int (2 : Int32)), (.ref b104)])) t_
    refine XS.iloadN Xc.here hx rfl (hb hby at_256) rfl ?_
    show Steps p.tables e below (Tc.setTop (mkF m 257 #[.val (.int p1), .val (.ref b1), .val (.ref b104), .val (.int (31 : Int32)), .val (.ref ad31), .unset, .unset] [(.int (31 : Int32)), (.int (2 : Int32)), (.ref b104)])) t_
    refine XS.imul Xc.here hx rfl (hb hby at_257) rfl ?_
    exact k_
  obtain ⟨cq295, kq295, q295a, q295b, q295c⟩ := isOf hZ ec zc4
  obtain ⟨_, _, ⟨T295, L295, k295, n295⟩, -, X295, ⟨Lc295, hQ295, l295, y295, z295⟩, st295⟩ := Xc.virtualBack hx (y := own_y4) (z := own_y4) hown (mvT hZ (own_w hw 81 rfl)) (mvT hZ (own_w hw 82 rfl)) (notFace_of_selects (args := #[]) (mvT hZ (own_w hw 84 rfl))) (mvT hZ (own_w hw 84 rfl)) (mvT hZ (own_w hw 83 rfl)) (by decide) (backOf (W := 0) (rmChAt l Z a0 hw [] b104 (62 : Int32) d104 kk104 (68 : Int32) own_txt (85 : Int32) sf cs Hc n0 (Nat.le_trans Z0 Kc0.1) Oc zc0 hcs zc1 hsf zc4 zc5 zc6 zc7 (by decide : ¬ ((62 : Int32) < (0 : Int32))) (by decide : (62 : Int32) < (68 : Int32)) rfl) hZ (own_w hw 85 rfl) (own_w hw 73 rfl) (by decide) (by decide)) q295a q295c (g := (mkF m 258 #[.val (.int p1), .val (.ref b1), .val (.ref b104), .val (.int (31 : Int32)), .val (.ref ad31), .unset, .unset] [(.int (62 : Int32)), (.ref b104)])) rfl (by rw [hml]; rfl) (Steps.refl _) (argsL := [(.int (62 : Int32))]) (rest := []) (lenOf pd_5 rfl) rfl (by show 2 * 0 + _ ≤ _; exact Nat.le_of_eq rfl) (hb hby at_258) (fun _ _ => ⟨rfl, ec, (by decide : 3 + 0 ≤ _), (by decide : 310 + 0 ≤ _)⟩)
  dsimp only [Pt.U, Pt.locs, Pt.cells, Pt.slots] at X295 l295 y295 z295 st295 hQ295
  subst l295 y295 z295
  obtain ⟨rfl, N295q, eh295⟩ := hQ295
  have N295 := Fr.app Nc N295q
  refine own_via st295 ?_
  refine own_go (A := T295.setTop (mkF m 269 #[.val (.int p1), .val (.ref b1), .val (.ref b104), .val (.int (31 : Int32)), .val (.ref ad31), .val (.int (85 : Int32)), .unset] [(.int (63 : Int32)), (.ref b104)])) (fun t_ k_ => ?_) ?_
  · show Steps p.tables e below (T295.setTop (mkF m 261 #[.val (.int p1), .val (.ref b1), .val (.ref b104), .val (.int (31 : Int32)), .val (.ref ad31), .unset, .unset] [(.int (85 : Int32))])) t_
    refine XS.istore X295.here hx rfl (hb hby at_261) rfl (l' := #[.val (.int p1), .val (.ref b1), .val (.ref b104), .val (.int (31 : Int32)), .val (.ref ad31), .val (.int (85 : Int32)), .unset]) rfl ?_
    show Steps p.tables e below (T295.setTop (mkF m 263 #[.val (.int p1), .val (.ref b1), .val (.ref b104), .val (.int (31 : Int32)), .val (.ref ad31), .val (.int (85 : Int32)), .unset] [])) t_
    refine XS.aloadN X295.here hx rfl (hb hby at_263) rfl rfl ?_
    show Steps p.tables e below (T295.setTop (mkF m 264 #[.val (.int p1), .val (.ref b1), .val (.ref b104), .val (.int (31 : Int32)), .val (.ref ad31), .val (.int (85 : Int32)), .unset] [(.ref b104)])) t_
    refine XS.iconst X295.here hx rfl (hb hby at_264) ?_
    show Steps p.tables e below (T295.setTop (mkF m 265 #[.val (.int p1), .val (.ref b1), .val (.ref b104), .val (.int (31 : Int32)), .val (.ref ad31), .val (.int (85 : Int32)), .unset] [(.int (2 : Int32)), (.ref b104)])) t_
    refine XS.iloadN X295.here hx rfl (hb hby at_265) rfl ?_
    show Steps p.tables e below (T295.setTop (mkF m 266 #[.val (.int p1), .val (.ref b1), .val (.ref b104), .val (.int (31 : Int32)), .val (.ref ad31), .val (.int (85 : Int32)), .unset] [(.int (31 : Int32)), (.int (2 : Int32)), (.ref b104)])) t_
    refine XS.imul X295.here hx rfl (hb hby at_266) rfl ?_
    show Steps p.tables e below (T295.setTop (mkF m 267 #[.val (.int p1), .val (.ref b1), .val (.ref b104), .val (.int (31 : Int32)), .val (.ref ad31), .val (.int (85 : Int32)), .unset] [(.int (62 : Int32)), (.ref b104)])) t_
    refine XS.iconst X295.here hx rfl (hb hby at_267) ?_
    show Steps p.tables e below (T295.setTop (mkF m 268 #[.val (.int p1), .val (.ref b1), .val (.ref b104), .val (.int (31 : Int32)), .val (.ref ad31), .val (.int (85 : Int32)), .unset] [(.int (1 : Int32)), (.int (62 : Int32)), (.ref b104)])) t_
    refine XS.iadd X295.here hx rfl (hb hby at_268) rfl ?_
    exact k_
  obtain ⟨cq296, kq296, q296a, q296b, q296c⟩ := isOf hZ eh295 zc4
  obtain ⟨_, _, ⟨T296, L296, k296, n296⟩, -, X296, ⟨Lc296, hQ296, l296, y296, z296⟩, st296⟩ := X295.virtualBack hx (y := own_y4) (z := own_y4) hown (mvT hZ (own_w hw 81 rfl)) (mvT hZ (own_w hw 82 rfl)) (notFace_of_selects (args := #[]) (mvT hZ (own_w hw 84 rfl))) (mvT hZ (own_w hw 84 rfl)) (mvT hZ (own_w hw 83 rfl)) (by decide) (backOf (W := 0) (rmChAt l Z a0 hw [] b104 (63 : Int32) d104 kk104 (68 : Int32) own_txt (83 : Int32) sf cs Hc n0 (Nat.le_trans Z0 Kc0.1) Oc zc0 hcs zc1 hsf zc4 zc5 zc6 zc7 (by decide : ¬ ((63 : Int32) < (0 : Int32))) (by decide : (63 : Int32) < (68 : Int32)) rfl) hZ (own_w hw 85 rfl) (own_w hw 73 rfl) (by decide) (by decide)) q296a q296c (g := (mkF m 269 #[.val (.int p1), .val (.ref b1), .val (.ref b104), .val (.int (31 : Int32)), .val (.ref ad31), .val (.int (85 : Int32)), .unset] [(.int (63 : Int32)), (.ref b104)])) rfl (by rw [hml]; rfl) (Steps.refl _) (argsL := [(.int (63 : Int32))]) (rest := []) (lenOf pd_5 rfl) rfl (by show 2 * 0 + _ ≤ _; exact Nat.le_of_eq rfl) (hb hby at_269) (fun _ _ => ⟨rfl, eh295, (by decide : 3 + 0 ≤ _), (by decide : 310 + 0 ≤ _)⟩)
  dsimp only [Pt.U, Pt.locs, Pt.cells, Pt.slots] at X296 l296 y296 z296 st296 hQ296
  subst l296 y296 z296
  obtain ⟨rfl, N296q, eh296⟩ := hQ296
  have N296 := Fr.app N295 N296q
  refine own_via st296 ?_
  refine own_go (A := T296.setTop (mkF m 276 #[.val (.int p1), .val (.ref b1), .val (.ref b104), .val (.int (31 : Int32)), .val (.ref ad31), .val (.int (85 : Int32)), .val (.int (83 : Int32))] [(.ref ad31)])) (fun t_ k_ => ?_) ?_
  · show Steps p.tables e below (T296.setTop (mkF m 272 #[.val (.int p1), .val (.ref b1), .val (.ref b104), .val (.int (31 : Int32)), .val (.ref ad31), .val (.int (85 : Int32)), .unset] [(.int (83 : Int32))])) t_
    refine XS.istore X296.here hx rfl (hb hby at_272) rfl (l' := #[.val (.int p1), .val (.ref b1), .val (.ref b104), .val (.int (31 : Int32)), .val (.ref ad31), .val (.int (85 : Int32)), .val (.int (83 : Int32))]) rfl ?_
    show Steps p.tables e below (T296.setTop (mkF m 274 #[.val (.int p1), .val (.ref b1), .val (.ref b104), .val (.int (31 : Int32)), .val (.ref ad31), .val (.int (85 : Int32)), .val (.int (83 : Int32))] [])) t_
    refine XS.aload X296.here hx rfl (hb hby at_274) rfl rfl ?_
    exact k_
  obtain ⟨cq297, kq297, q297a, q297b, q297c⟩ := isOf hZ eh296 (zc2.ext Oc.2)
  obtain ⟨_, _, ⟨T297, L297, k297, n297⟩, -, X297, ⟨Lc297, hQ297, l297, y297, z297⟩, st297⟩ := X296.virtualBack hx (y := own_y7) (z := own_y7) hown (mvT hZ (own_w hw 106 rfl)) (mvT hZ (own_w hw 107 rfl)) (notFace_of_selects (args := #[]) (mvT hZ (own_w hw 109 rfl))) (mvT hZ (own_w hw 109 rfl)) (mvT hZ (own_w hw 108 rfl)) (by decide) (backOf (W := 0) (rmMIn108 l Z a0 hw [] ad31 (31 : Int32) Hc n0 (Nat.le_trans Z0 Kc0.1) Oc zc2 zc3 (by decide) (by decide)) hZ (own_w hw 110 rfl) (own_w hw 3 rfl) (by decide) (by decide)) q297a q297c (g := (mkF m 276 #[.val (.int p1), .val (.ref b1), .val (.ref b104), .val (.int (31 : Int32)), .val (.ref ad31), .val (.int (85 : Int32)), .val (.int (83 : Int32))] [(.ref ad31)])) rfl (by rw [hml]; rfl) (Steps.refl _) (argsL := []) (rest := []) (lenOf pd_2 rfl) rfl (by show 2 * 0 + _ ≤ _; exact Nat.le_of_eq rfl) (hb hby at_276) (fun _ _ => ⟨rfl, eh296, (by decide : 3 + 0 ≤ _), (by decide : 310 + 0 ≤ _)⟩)
  dsimp only [Pt.U, Pt.locs, Pt.cells, Pt.slots] at X297 l297 y297 z297 st297 hQ297
  subst l297 y297 z297
  obtain ⟨rfl, N297q, eh297⟩ := hQ297
  have N297 := Fr.app N296 N297q
  refine own_via st297 ?_
  refine own_go (A := T297.setTop (mkF m 283 #[.val (.int p1), .val (.ref b1), .val (.ref b104), .val (.int (31 : Int32)), .val (.ref ad31), .val (.int (85 : Int32)), .val (.int (83 : Int32))] [(.int (83 : Int32)), (.int (85 : Int32)), (.int (0 : Int32))])) (fun t_ k_ => ?_) ?_
  · show Steps p.tables e below (T297.setTop (mkF m 279 #[.val (.int p1), .val (.ref b1), .val (.ref b104), .val (.int (31 : Int32)), .val (.ref ad31), .val (.int (85 : Int32)), .val (.int (83 : Int32))] [(.int (0 : Int32))])) t_
    refine XS.iload X297.here hx rfl (hb hby at_279) rfl ?_
    show Steps p.tables e below (T297.setTop (mkF m 281 #[.val (.int p1), .val (.ref b1), .val (.ref b104), .val (.int (31 : Int32)), .val (.ref ad31), .val (.int (85 : Int32)), .val (.int (83 : Int32))] [(.int (85 : Int32)), (.int (0 : Int32))])) t_
    refine XS.iload X297.here hx rfl (hb hby at_281) rfl ?_
    exact k_
  obtain ⟨_, _, ⟨T298, L298, k298, n298⟩, -, X298, ⟨Lc298, hQ298, l298, y298, z298⟩, st298⟩ := Jvm.LawKit.callS X297 hx (y := own_y8) hown (mvT hZ (own_w hw 120 rfl)) (mvT hZ (own_w hw 121 rfl)) (mvT hZ (own_w hw 122 rfl)) (mvT hZ (own_w hw 123 rfl)) (by decide) (backOf (W := 1) (rmEU l Z a0 hw [] (83 : Int32) Hc n0 (Nat.le_trans Z0 Kc0.1) (by decide : ¬ ((83 : Int32) = (67 : Int32))) (by decide : ¬ ((83 : Int32) = (78 : Int32))) (by decide : ¬ ((83 : Int32) = (82 : Int32))) (by decide : ¬ ((83 : Int32) = (84 : Int32))) (by decide : ¬ ((83 : Int32) = (86 : Int32)))) hZ (own_w hw 123 rfl) (own_w hw 122 rfl) (by decide) (by decide)) (g := (mkF m 283 #[.val (.int p1), .val (.ref b1), .val (.ref b104), .val (.int (31 : Int32)), .val (.ref ad31), .val (.int (85 : Int32)), .val (.int (83 : Int32))] [(.int (83 : Int32)), (.int (85 : Int32)), (.int (0 : Int32))])) rfl (by rw [hml]; rfl) (argsL := [(.int (85 : Int32)), (.int (83 : Int32))]) (rest := [(.int (0 : Int32))]) (lenOf pd_6 rfl) rfl (by show 2 * 0 + _ ≤ _; exact Nat.le_of_eq rfl) (hb hby at_283) (fun _ _ => ⟨rfl, eh297, (by decide : 3 + 0 ≤ _), (by decide : 310 + 0 ≤ _)⟩)
  dsimp only [Pt.U, Pt.locs, Pt.cells, Pt.slots] at X298 l298 y298 z298 st298 hQ298
  subst l298 y298 z298
  obtain ⟨rfl, N298q, eh298⟩ := hQ298
  have N298 := Fr.app N297 N298q
  refine own_go st298 ?_
  refine own_go (A := T298.setTop (mkF m 294 #[.val (.int p1), .val (.ref b1), .val (.ref b104), .val (.int (31 : Int32)), .val (.ref ad31), .val (.int (85 : Int32)), .val (.int (83 : Int32))] [(.int (1 : Int32))])) (fun t_ k_ => ?_) ?_
  · show Steps p.tables e below (T298.setTop (mkF m 286 #[.val (.int p1), .val (.ref b1), .val (.ref b104), .val (.int (31 : Int32)), .val (.ref ad31), .val (.int (85 : Int32)), .val (.int (83 : Int32))] [(.int (0 : Int32)), (.int (0 : Int32))])) t_
    refine XS.icmpNo X298.here hx rfl (hb hby at_286) rfl (teq (by decide : (0 : Int32) = (0 : Int32))).2 ?_
    show Steps p.tables e below (T298.setTop (mkF m 289 #[.val (.int p1), .val (.ref b1), .val (.ref b104), .val (.int (31 : Int32)), .val (.ref ad31), .val (.int (85 : Int32)), .val (.int (83 : Int32))] [])) t_
    refine XS.iconst X298.here hx rfl (hb hby at_289) ?_
    show Steps p.tables e below (T298.setTop (mkF m 290 #[.val (.int p1), .val (.ref b1), .val (.ref b104), .val (.int (31 : Int32)), .val (.ref ad31), .val (.int (85 : Int32)), .val (.int (83 : Int32))] [(.int (1 : Int32))])) t_
    refine XS.goto X298.here hx rfl (pc0 := 290) (pc' := 294) rfl (hb hby at_290) (by decide) (by decide) ?_
    exact k_
  obtain ⟨fs299, hr299, hrun299, hended299, hRW299⟩ := X298.leaveW hS (by rw [eh298]; exact hk) (v := some (.int (1 : Int32))) (fun h => by rw [hret] at h; cases h)
  refine ⟨_, _, ?_, hrun299, hended299, _, _, rfl, ?_, hRW299.1, hRW299.2.1, hRW299.2.2.1, hRW299.2.2.2.mono (by decide) (by decide)⟩
  · exact retN X298 hx (t := .boolean) hret (by simp) (hb hby at_294) hr299
  · show Q_rm0 Z p1 cs sf ad0 ad1 ad2 ad3 ad4 ad5 ad6 ad7 ad8 ad9 ad10 ad11 ad12 ad13 ad14 ad15 ad16 ad17 ad18 ad19 ad20 ad21 ad22 ad23 ad24 ad25 ad26 ad27 ad28 ad29 ad30 ad31 ad32 ad33 h0 n0 _ T298.heap _
    rw [eh298]
    exact ⟨rfl, N298, Kc0⟩
set_option maxRecDepth 65536 in
set_option maxHeartbeats 40000000 in
theorem own_sufad32 (l : Launch) (Z : State) (a0 : Array Value) (hw : ∀ d ∈ tables_1, d.before a0 Z = true) (p1 : Int32) (cs : Int32) (sf : Value) (ad0 : Addr) (ad1 : Addr) (ad2 : Addr) (ad3 : Addr) (ad4 : Addr) (ad5 : Addr) (ad6 : Addr) (ad7 : Addr) (ad8 : Addr) (ad9 : Addr) (ad10 : Addr) (ad11 : Addr) (ad12 : Addr) (ad13 : Addr) (ad14 : Addr) (ad15 : Addr) (ad16 : Addr) (ad17 : Addr) (ad18 : Addr) (ad19 : Addr) (ad20 : Addr) (ad21 : Addr) (ad22 : Addr) (ad23 : Addr) (ad24 : Addr) (ad25 : Addr) (ad26 : Addr) (ad27 : Addr) (ad28 : Addr) (ad29 : Addr) (ad30 : Addr) (ad31 : Addr) (ad32 : Addr) (ad33 : Addr) (b1 : Addr) (b104 : Addr) (d104 : Addr) (kk104 : ClassId) (h0 : Heap) (n0 : Nat) (Z0 : n0 ≤ h0.size) {p : Program} {e : Env} {s : State} {m : MethodId} {below : List Frame} {meth : Method} {c : Code} {Tc : State} {Hc : Heap} {locsc : List Loc} {vmc : Vm} {kc0 : Nat} (Xc : Stand p l e room_1 (s.setVm vmc) m #[(.int p1)] below meth c Tc locsc 3 310) (hx : p.tables.exec = Jvm.exec) (hZ : Z.Warmed39 (s.setVm vmc).vm) (hby : c.code = code) (hml : c.maxLocals = 7) (hown : (s.setVm vmc).vm.findClass "com/example/querent/querent/dicom/VrHasLongLengthPinLaw" = some m.cls) (hret : meth.sig.returnType = some .boolean) (hlk : meth.locks = false) (hh : s.heap = h0) (ec : Tc.heap = Hc) (Nc : Fr n0 locsc) (Kc0 : Keep h0 Hc []) (Oc : Old Z n0 Hc) (hS : s.Since vmc kc0) (hk : kc0 ≤ Hc.size) (hSA : ∀ a ∈ Bundle.stringAtoms, a.before a0 Z = true) (zc0 : Sta Z Z.heap "java/lang/String" "COMPACT_STRINGS" "Z" (.int cs)) (zc1 : Sta Z Z.heap "jdk/internal/util/Preconditions" "SIOOBE_FORMATTER" "Ljava/util/function/BiFunction;" sf) (zc2 : Exa Z Z.heap ad32 "com/example/querent/querent/dicom/Vr") (zc3 : Fld Z Z.heap ad32 "java/lang/Enum" "ordinal" "I" (.int (32 : Int32))) (zc4 : Exa Z Hc b104 "java/lang/String") (zc5 : Fld Z Hc b104 "java/lang/String" "coder" "B" (.int (0 : Int32))) (zc6 : Fld Z Hc b104 "java/lang/String" "value" "[B" (.ref d104)) (zc7 : Arv Z Hc d104 kk104 .byte (68 : Int32) own_txt (.int (0 : Int32))) (hcs : ¬ (cs = (0 : Int32))) (hsf : sf.isRef = true) (hn0 : n0 = h0.size) (hcw : Jvm.Lit.compactW.before a0 Z = true) (hlit : Jvm.Lit.constHeld Z "com/example/querent/querent/dicom/VrHasLongLengthPinLaw" 112) :
    ∃ U_ o_, Steps p.tables e below (Tc.setTop (mkF m 254 #[.val (.int p1), .val (.ref b1), .val (.ref b104), .val (.int (32 : Int32)), .val (.ref ad32), .unset, .unset] [])) U_ ∧ U_.status = .running ∧ Ended U_ below o_ ∧ (∃ v_ L_, o_ = .returned v_ ∧ Q_rm0 Z p1 cs sf ad0 ad1 ad2 ad3 ad4 ad5 ad6 ad7 ad8 ad9 ad10 ad11 ad12 ad13 ad14 ad15 ad16 ad17 ad18 ad19 ad20 ad21 ad22 ad23 ad24 ad25 ad26 ad27 ad28 ad29 ad30 ad31 ad32 ad33 h0 n0 v_ U_.heap L_ ∧ ReturnedEndW s o_ U_ L_ room_1.cells room_1.slots) := by
  refine own_go (A := Tc.setTop (mkF m 258 #[.val (.int p1), .val (.ref b1), .val (.ref b104), .val (.int (32 : Int32)), .val (.ref ad32), .unset, .unset] [(.int (64 : Int32)), (.ref b104)])) (fun t_ k_ => ?_) ?_
  · show Steps p.tables e below (Tc.setTop (mkF m 254 #[.val (.int p1), .val (.ref b1), .val (.ref b104), .val (.int (32 : Int32)), .val (.ref ad32), .unset, .unset] [])) t_
    refine XS.aloadN Xc.here hx rfl (hb hby at_254) rfl rfl ?_
    show Steps p.tables e below (Tc.setTop (mkF m 255 #[.val (.int p1), .val (.ref b1), .val (.ref b104), .val (.int (32 : Int32)), .val (.ref ad32), .unset, .unset] [(.ref b104)])) t_
    refine XS.iconst Xc.here hx rfl (hb hby at_255) ?_
    show Steps p.tables e below (Tc.setTop (mkF m 256 #[.val (.int p1), .val (.ref b1), .val (.ref b104), .val (.int (32 : Int32)), .val (.ref ad32), .unset, .unset] [(.int (2 : Int32)), (.ref b104)])) t_
    refine XS.iloadN Xc.here hx rfl (hb hby at_256) rfl ?_
    show Steps p.tables e below (Tc.setTop (mkF m 257 #[.val (.int p1), .val (.ref b1), .val (.ref b104), .val (.int (32 : Int32)), .val (.ref ad32), .unset, .unset] [(.int (32 : Int32)), (.int (2 : Int32)), (.ref b104)])) t_
    refine XS.imul Xc.here hx rfl (hb hby at_257) rfl ?_
    exact k_
  obtain ⟨cq301, kq301, q301a, q301b, q301c⟩ := isOf hZ ec zc4
  obtain ⟨_, _, ⟨T301, L301, k301, n301⟩, -, X301, ⟨Lc301, hQ301, l301, y301, z301⟩, st301⟩ := Xc.virtualBack hx (y := own_y4) (z := own_y4) hown (mvT hZ (own_w hw 81 rfl)) (mvT hZ (own_w hw 82 rfl)) (notFace_of_selects (args := #[]) (mvT hZ (own_w hw 84 rfl))) (mvT hZ (own_w hw 84 rfl)) (mvT hZ (own_w hw 83 rfl)) (by decide) (backOf (W := 0) (rmChAt l Z a0 hw [] b104 (64 : Int32) d104 kk104 (68 : Int32) own_txt (85 : Int32) sf cs Hc n0 (Nat.le_trans Z0 Kc0.1) Oc zc0 hcs zc1 hsf zc4 zc5 zc6 zc7 (by decide : ¬ ((64 : Int32) < (0 : Int32))) (by decide : (64 : Int32) < (68 : Int32)) rfl) hZ (own_w hw 85 rfl) (own_w hw 73 rfl) (by decide) (by decide)) q301a q301c (g := (mkF m 258 #[.val (.int p1), .val (.ref b1), .val (.ref b104), .val (.int (32 : Int32)), .val (.ref ad32), .unset, .unset] [(.int (64 : Int32)), (.ref b104)])) rfl (by rw [hml]; rfl) (Steps.refl _) (argsL := [(.int (64 : Int32))]) (rest := []) (lenOf pd_5 rfl) rfl (by show 2 * 0 + _ ≤ _; exact Nat.le_of_eq rfl) (hb hby at_258) (fun _ _ => ⟨rfl, ec, (by decide : 3 + 0 ≤ _), (by decide : 310 + 0 ≤ _)⟩)
  dsimp only [Pt.U, Pt.locs, Pt.cells, Pt.slots] at X301 l301 y301 z301 st301 hQ301
  subst l301 y301 z301
  obtain ⟨rfl, N301q, eh301⟩ := hQ301
  have N301 := Fr.app Nc N301q
  refine own_via st301 ?_
  refine own_go (A := T301.setTop (mkF m 269 #[.val (.int p1), .val (.ref b1), .val (.ref b104), .val (.int (32 : Int32)), .val (.ref ad32), .val (.int (85 : Int32)), .unset] [(.int (65 : Int32)), (.ref b104)])) (fun t_ k_ => ?_) ?_
  · show Steps p.tables e below (T301.setTop (mkF m 261 #[.val (.int p1), .val (.ref b1), .val (.ref b104), .val (.int (32 : Int32)), .val (.ref ad32), .unset, .unset] [(.int (85 : Int32))])) t_
    refine XS.istore X301.here hx rfl (hb hby at_261) rfl (l' := #[.val (.int p1), .val (.ref b1), .val (.ref b104), .val (.int (32 : Int32)), .val (.ref ad32), .val (.int (85 : Int32)), .unset]) rfl ?_
    show Steps p.tables e below (T301.setTop (mkF m 263 #[.val (.int p1), .val (.ref b1), .val (.ref b104), .val (.int (32 : Int32)), .val (.ref ad32), .val (.int (85 : Int32)), .unset] [])) t_
    refine XS.aloadN X301.here hx rfl (hb hby at_263) rfl rfl ?_
    show Steps p.tables e below (T301.setTop (mkF m 264 #[.val (.int p1), .val (.ref b1), .val (.ref b104), .val (.int (32 : Int32)), .val (.ref ad32), .val (.int (85 : Int32)), .unset] [(.ref b104)])) t_
    refine XS.iconst X301.here hx rfl (hb hby at_264) ?_
    show Steps p.tables e below (T301.setTop (mkF m 265 #[.val (.int p1), .val (.ref b1), .val (.ref b104), .val (.int (32 : Int32)), .val (.ref ad32), .val (.int (85 : Int32)), .unset] [(.int (2 : Int32)), (.ref b104)])) t_
    refine XS.iloadN X301.here hx rfl (hb hby at_265) rfl ?_
    show Steps p.tables e below (T301.setTop (mkF m 266 #[.val (.int p1), .val (.ref b1), .val (.ref b104), .val (.int (32 : Int32)), .val (.ref ad32), .val (.int (85 : Int32)), .unset] [(.int (32 : Int32)), (.int (2 : Int32)), (.ref b104)])) t_
    refine XS.imul X301.here hx rfl (hb hby at_266) rfl ?_
    show Steps p.tables e below (T301.setTop (mkF m 267 #[.val (.int p1), .val (.ref b1), .val (.ref b104), .val (.int (32 : Int32)), .val (.ref ad32), .val (.int (85 : Int32)), .unset] [(.int (64 : Int32)), (.ref b104)])) t_
    refine XS.iconst X301.here hx rfl (hb hby at_267) ?_
    show Steps p.tables e below (T301.setTop (mkF m 268 #[.val (.int p1), .val (.ref b1), .val (.ref b104), .val (.int (32 : Int32)), .val (.ref ad32), .val (.int (85 : Int32)), .unset] [(.int (1 : Int32)), (.int (64 : Int32)), (.ref b104)])) t_
    refine XS.iadd X301.here hx rfl (hb hby at_268) rfl ?_
    exact k_
  obtain ⟨cq302, kq302, q302a, q302b, q302c⟩ := isOf hZ eh301 zc4
  obtain ⟨_, _, ⟨T302, L302, k302, n302⟩, -, X302, ⟨Lc302, hQ302, l302, y302, z302⟩, st302⟩ := X301.virtualBack hx (y := own_y4) (z := own_y4) hown (mvT hZ (own_w hw 81 rfl)) (mvT hZ (own_w hw 82 rfl)) (notFace_of_selects (args := #[]) (mvT hZ (own_w hw 84 rfl))) (mvT hZ (own_w hw 84 rfl)) (mvT hZ (own_w hw 83 rfl)) (by decide) (backOf (W := 0) (rmChAt l Z a0 hw [] b104 (65 : Int32) d104 kk104 (68 : Int32) own_txt (84 : Int32) sf cs Hc n0 (Nat.le_trans Z0 Kc0.1) Oc zc0 hcs zc1 hsf zc4 zc5 zc6 zc7 (by decide : ¬ ((65 : Int32) < (0 : Int32))) (by decide : (65 : Int32) < (68 : Int32)) rfl) hZ (own_w hw 85 rfl) (own_w hw 73 rfl) (by decide) (by decide)) q302a q302c (g := (mkF m 269 #[.val (.int p1), .val (.ref b1), .val (.ref b104), .val (.int (32 : Int32)), .val (.ref ad32), .val (.int (85 : Int32)), .unset] [(.int (65 : Int32)), (.ref b104)])) rfl (by rw [hml]; rfl) (Steps.refl _) (argsL := [(.int (65 : Int32))]) (rest := []) (lenOf pd_5 rfl) rfl (by show 2 * 0 + _ ≤ _; exact Nat.le_of_eq rfl) (hb hby at_269) (fun _ _ => ⟨rfl, eh301, (by decide : 3 + 0 ≤ _), (by decide : 310 + 0 ≤ _)⟩)
  dsimp only [Pt.U, Pt.locs, Pt.cells, Pt.slots] at X302 l302 y302 z302 st302 hQ302
  subst l302 y302 z302
  obtain ⟨rfl, N302q, eh302⟩ := hQ302
  have N302 := Fr.app N301 N302q
  refine own_via st302 ?_
  refine own_go (A := T302.setTop (mkF m 276 #[.val (.int p1), .val (.ref b1), .val (.ref b104), .val (.int (32 : Int32)), .val (.ref ad32), .val (.int (85 : Int32)), .val (.int (84 : Int32))] [(.ref ad32)])) (fun t_ k_ => ?_) ?_
  · show Steps p.tables e below (T302.setTop (mkF m 272 #[.val (.int p1), .val (.ref b1), .val (.ref b104), .val (.int (32 : Int32)), .val (.ref ad32), .val (.int (85 : Int32)), .unset] [(.int (84 : Int32))])) t_
    refine XS.istore X302.here hx rfl (hb hby at_272) rfl (l' := #[.val (.int p1), .val (.ref b1), .val (.ref b104), .val (.int (32 : Int32)), .val (.ref ad32), .val (.int (85 : Int32)), .val (.int (84 : Int32))]) rfl ?_
    show Steps p.tables e below (T302.setTop (mkF m 274 #[.val (.int p1), .val (.ref b1), .val (.ref b104), .val (.int (32 : Int32)), .val (.ref ad32), .val (.int (85 : Int32)), .val (.int (84 : Int32))] [])) t_
    refine XS.aload X302.here hx rfl (hb hby at_274) rfl rfl ?_
    exact k_
  obtain ⟨cq303, kq303, q303a, q303b, q303c⟩ := isOf hZ eh302 (zc2.ext Oc.2)
  obtain ⟨_, _, ⟨T303, L303, k303, n303⟩, -, X303, ⟨Lc303, hQ303, l303, y303, z303⟩, st303⟩ := X302.virtualBack hx (y := own_y7) (z := own_y7) hown (mvT hZ (own_w hw 106 rfl)) (mvT hZ (own_w hw 107 rfl)) (notFace_of_selects (args := #[]) (mvT hZ (own_w hw 109 rfl))) (mvT hZ (own_w hw 109 rfl)) (mvT hZ (own_w hw 108 rfl)) (by decide) (backOf (W := 0) (rmMIn104 l Z a0 hw [] ad32 (32 : Int32) Hc n0 (Nat.le_trans Z0 Kc0.1) Oc zc2 zc3 (by decide) (by decide)) hZ (own_w hw 110 rfl) (own_w hw 3 rfl) (by decide) (by decide)) q303a q303c (g := (mkF m 276 #[.val (.int p1), .val (.ref b1), .val (.ref b104), .val (.int (32 : Int32)), .val (.ref ad32), .val (.int (85 : Int32)), .val (.int (84 : Int32))] [(.ref ad32)])) rfl (by rw [hml]; rfl) (Steps.refl _) (argsL := []) (rest := []) (lenOf pd_2 rfl) rfl (by show 2 * 0 + _ ≤ _; exact Nat.le_of_eq rfl) (hb hby at_276) (fun _ _ => ⟨rfl, eh302, (by decide : 3 + 0 ≤ _), (by decide : 310 + 0 ≤ _)⟩)
  dsimp only [Pt.U, Pt.locs, Pt.cells, Pt.slots] at X303 l303 y303 z303 st303 hQ303
  subst l303 y303 z303
  obtain ⟨rfl, N303q, eh303⟩ := hQ303
  have N303 := Fr.app N302 N303q
  refine own_via st303 ?_
  refine own_go (A := T303.setTop (mkF m 283 #[.val (.int p1), .val (.ref b1), .val (.ref b104), .val (.int (32 : Int32)), .val (.ref ad32), .val (.int (85 : Int32)), .val (.int (84 : Int32))] [(.int (84 : Int32)), (.int (85 : Int32)), (.int (1 : Int32))])) (fun t_ k_ => ?_) ?_
  · show Steps p.tables e below (T303.setTop (mkF m 279 #[.val (.int p1), .val (.ref b1), .val (.ref b104), .val (.int (32 : Int32)), .val (.ref ad32), .val (.int (85 : Int32)), .val (.int (84 : Int32))] [(.int (1 : Int32))])) t_
    refine XS.iload X303.here hx rfl (hb hby at_279) rfl ?_
    show Steps p.tables e below (T303.setTop (mkF m 281 #[.val (.int p1), .val (.ref b1), .val (.ref b104), .val (.int (32 : Int32)), .val (.ref ad32), .val (.int (85 : Int32)), .val (.int (84 : Int32))] [(.int (85 : Int32)), (.int (1 : Int32))])) t_
    refine XS.iload X303.here hx rfl (hb hby at_281) rfl ?_
    exact k_
  obtain ⟨_, _, ⟨T304, L304, k304, n304⟩, -, X304, ⟨Lc304, hQ304, l304, y304, z304⟩, st304⟩ := Jvm.LawKit.callS X303 hx (y := own_y8) hown (mvT hZ (own_w hw 120 rfl)) (mvT hZ (own_w hw 121 rfl)) (mvT hZ (own_w hw 122 rfl)) (mvT hZ (own_w hw 123 rfl)) (by decide) (backOf (W := 1) (rmEUT l Z a0 hw [] Hc n0 (Nat.le_trans Z0 Kc0.1)) hZ (own_w hw 123 rfl) (own_w hw 122 rfl) (by decide) (by decide)) (g := (mkF m 283 #[.val (.int p1), .val (.ref b1), .val (.ref b104), .val (.int (32 : Int32)), .val (.ref ad32), .val (.int (85 : Int32)), .val (.int (84 : Int32))] [(.int (84 : Int32)), (.int (85 : Int32)), (.int (1 : Int32))])) rfl (by rw [hml]; rfl) (argsL := [(.int (85 : Int32)), (.int (84 : Int32))]) (rest := [(.int (1 : Int32))]) (lenOf pd_6 rfl) rfl (by show 2 * 0 + _ ≤ _; exact Nat.le_of_eq rfl) (hb hby at_283) (fun _ _ => ⟨rfl, eh303, (by decide : 3 + 0 ≤ _), (by decide : 310 + 0 ≤ _)⟩)
  dsimp only [Pt.U, Pt.locs, Pt.cells, Pt.slots] at X304 l304 y304 z304 st304 hQ304
  subst l304 y304 z304
  obtain ⟨rfl, N304q, eh304⟩ := hQ304
  have N304 := Fr.app N303 N304q
  refine own_go st304 ?_
  refine own_go (A := T304.setTop (mkF m 294 #[.val (.int p1), .val (.ref b1), .val (.ref b104), .val (.int (32 : Int32)), .val (.ref ad32), .val (.int (85 : Int32)), .val (.int (84 : Int32))] [(.int (1 : Int32))])) (fun t_ k_ => ?_) ?_
  · show Steps p.tables e below (T304.setTop (mkF m 286 #[.val (.int p1), .val (.ref b1), .val (.ref b104), .val (.int (32 : Int32)), .val (.ref ad32), .val (.int (85 : Int32)), .val (.int (84 : Int32))] [(.int (1 : Int32)), (.int (1 : Int32))])) t_
    refine XS.icmpNo X304.here hx rfl (hb hby at_286) rfl (teq (by decide : (1 : Int32) = (1 : Int32))).2 ?_
    show Steps p.tables e below (T304.setTop (mkF m 289 #[.val (.int p1), .val (.ref b1), .val (.ref b104), .val (.int (32 : Int32)), .val (.ref ad32), .val (.int (85 : Int32)), .val (.int (84 : Int32))] [])) t_
    refine XS.iconst X304.here hx rfl (hb hby at_289) ?_
    show Steps p.tables e below (T304.setTop (mkF m 290 #[.val (.int p1), .val (.ref b1), .val (.ref b104), .val (.int (32 : Int32)), .val (.ref ad32), .val (.int (85 : Int32)), .val (.int (84 : Int32))] [(.int (1 : Int32))])) t_
    refine XS.goto X304.here hx rfl (pc0 := 290) (pc' := 294) rfl (hb hby at_290) (by decide) (by decide) ?_
    exact k_
  obtain ⟨fs305, hr305, hrun305, hended305, hRW305⟩ := X304.leaveW hS (by rw [eh304]; exact hk) (v := some (.int (1 : Int32))) (fun h => by rw [hret] at h; cases h)
  refine ⟨_, _, ?_, hrun305, hended305, _, _, rfl, ?_, hRW305.1, hRW305.2.1, hRW305.2.2.1, hRW305.2.2.2.mono (by decide) (by decide)⟩
  · exact retN X304 hx (t := .boolean) hret (by simp) (hb hby at_294) hr305
  · show Q_rm0 Z p1 cs sf ad0 ad1 ad2 ad3 ad4 ad5 ad6 ad7 ad8 ad9 ad10 ad11 ad12 ad13 ad14 ad15 ad16 ad17 ad18 ad19 ad20 ad21 ad22 ad23 ad24 ad25 ad26 ad27 ad28 ad29 ad30 ad31 ad32 ad33 h0 n0 _ T304.heap _
    rw [eh304]
    exact ⟨rfl, N304, Kc0⟩
set_option maxRecDepth 65536 in
set_option maxHeartbeats 40000000 in
theorem own_sufad33 (l : Launch) (Z : State) (a0 : Array Value) (hw : ∀ d ∈ tables_1, d.before a0 Z = true) (p1 : Int32) (cs : Int32) (sf : Value) (ad0 : Addr) (ad1 : Addr) (ad2 : Addr) (ad3 : Addr) (ad4 : Addr) (ad5 : Addr) (ad6 : Addr) (ad7 : Addr) (ad8 : Addr) (ad9 : Addr) (ad10 : Addr) (ad11 : Addr) (ad12 : Addr) (ad13 : Addr) (ad14 : Addr) (ad15 : Addr) (ad16 : Addr) (ad17 : Addr) (ad18 : Addr) (ad19 : Addr) (ad20 : Addr) (ad21 : Addr) (ad22 : Addr) (ad23 : Addr) (ad24 : Addr) (ad25 : Addr) (ad26 : Addr) (ad27 : Addr) (ad28 : Addr) (ad29 : Addr) (ad30 : Addr) (ad31 : Addr) (ad32 : Addr) (ad33 : Addr) (b1 : Addr) (b104 : Addr) (d104 : Addr) (kk104 : ClassId) (h0 : Heap) (n0 : Nat) (Z0 : n0 ≤ h0.size) {p : Program} {e : Env} {s : State} {m : MethodId} {below : List Frame} {meth : Method} {c : Code} {Tc : State} {Hc : Heap} {locsc : List Loc} {vmc : Vm} {kc0 : Nat} (Xc : Stand p l e room_1 (s.setVm vmc) m #[(.int p1)] below meth c Tc locsc 3 310) (hx : p.tables.exec = Jvm.exec) (hZ : Z.Warmed39 (s.setVm vmc).vm) (hby : c.code = code) (hml : c.maxLocals = 7) (hown : (s.setVm vmc).vm.findClass "com/example/querent/querent/dicom/VrHasLongLengthPinLaw" = some m.cls) (hret : meth.sig.returnType = some .boolean) (hlk : meth.locks = false) (hh : s.heap = h0) (ec : Tc.heap = Hc) (Nc : Fr n0 locsc) (Kc0 : Keep h0 Hc []) (Oc : Old Z n0 Hc) (hS : s.Since vmc kc0) (hk : kc0 ≤ Hc.size) (hSA : ∀ a ∈ Bundle.stringAtoms, a.before a0 Z = true) (zc0 : Sta Z Z.heap "java/lang/String" "COMPACT_STRINGS" "Z" (.int cs)) (zc1 : Sta Z Z.heap "jdk/internal/util/Preconditions" "SIOOBE_FORMATTER" "Ljava/util/function/BiFunction;" sf) (zc2 : Exa Z Z.heap ad33 "com/example/querent/querent/dicom/Vr") (zc3 : Fld Z Z.heap ad33 "java/lang/Enum" "ordinal" "I" (.int (33 : Int32))) (zc4 : Exa Z Hc b104 "java/lang/String") (zc5 : Fld Z Hc b104 "java/lang/String" "coder" "B" (.int (0 : Int32))) (zc6 : Fld Z Hc b104 "java/lang/String" "value" "[B" (.ref d104)) (zc7 : Arv Z Hc d104 kk104 .byte (68 : Int32) own_txt (.int (0 : Int32))) (hcs : ¬ (cs = (0 : Int32))) (hsf : sf.isRef = true) (hn0 : n0 = h0.size) (hcw : Jvm.Lit.compactW.before a0 Z = true) (hlit : Jvm.Lit.constHeld Z "com/example/querent/querent/dicom/VrHasLongLengthPinLaw" 112) :
    ∃ U_ o_, Steps p.tables e below (Tc.setTop (mkF m 254 #[.val (.int p1), .val (.ref b1), .val (.ref b104), .val (.int (33 : Int32)), .val (.ref ad33), .unset, .unset] [])) U_ ∧ U_.status = .running ∧ Ended U_ below o_ ∧ (∃ v_ L_, o_ = .returned v_ ∧ Q_rm0 Z p1 cs sf ad0 ad1 ad2 ad3 ad4 ad5 ad6 ad7 ad8 ad9 ad10 ad11 ad12 ad13 ad14 ad15 ad16 ad17 ad18 ad19 ad20 ad21 ad22 ad23 ad24 ad25 ad26 ad27 ad28 ad29 ad30 ad31 ad32 ad33 h0 n0 v_ U_.heap L_ ∧ ReturnedEndW s o_ U_ L_ room_1.cells room_1.slots) := by
  refine own_go (A := Tc.setTop (mkF m 258 #[.val (.int p1), .val (.ref b1), .val (.ref b104), .val (.int (33 : Int32)), .val (.ref ad33), .unset, .unset] [(.int (66 : Int32)), (.ref b104)])) (fun t_ k_ => ?_) ?_
  · show Steps p.tables e below (Tc.setTop (mkF m 254 #[.val (.int p1), .val (.ref b1), .val (.ref b104), .val (.int (33 : Int32)), .val (.ref ad33), .unset, .unset] [])) t_
    refine XS.aloadN Xc.here hx rfl (hb hby at_254) rfl rfl ?_
    show Steps p.tables e below (Tc.setTop (mkF m 255 #[.val (.int p1), .val (.ref b1), .val (.ref b104), .val (.int (33 : Int32)), .val (.ref ad33), .unset, .unset] [(.ref b104)])) t_
    refine XS.iconst Xc.here hx rfl (hb hby at_255) ?_
    show Steps p.tables e below (Tc.setTop (mkF m 256 #[.val (.int p1), .val (.ref b1), .val (.ref b104), .val (.int (33 : Int32)), .val (.ref ad33), .unset, .unset] [(.int (2 : Int32)), (.ref b104)])) t_
    refine XS.iloadN Xc.here hx rfl (hb hby at_256) rfl ?_
    show Steps p.tables e below (Tc.setTop (mkF m 257 #[.val (.int p1), .val (.ref b1), .val (.ref b104), .val (.int (33 : Int32)), .val (.ref ad33), .unset, .unset] [(.int (33 : Int32)), (.int (2 : Int32)), (.ref b104)])) t_
    refine XS.imul Xc.here hx rfl (hb hby at_257) rfl ?_
    exact k_
  obtain ⟨cq307, kq307, q307a, q307b, q307c⟩ := isOf hZ ec zc4
  obtain ⟨_, _, ⟨T307, L307, k307, n307⟩, -, X307, ⟨Lc307, hQ307, l307, y307, z307⟩, st307⟩ := Xc.virtualBack hx (y := own_y4) (z := own_y4) hown (mvT hZ (own_w hw 81 rfl)) (mvT hZ (own_w hw 82 rfl)) (notFace_of_selects (args := #[]) (mvT hZ (own_w hw 84 rfl))) (mvT hZ (own_w hw 84 rfl)) (mvT hZ (own_w hw 83 rfl)) (by decide) (backOf (W := 0) (rmChAt l Z a0 hw [] b104 (66 : Int32) d104 kk104 (68 : Int32) own_txt (85 : Int32) sf cs Hc n0 (Nat.le_trans Z0 Kc0.1) Oc zc0 hcs zc1 hsf zc4 zc5 zc6 zc7 (by decide : ¬ ((66 : Int32) < (0 : Int32))) (by decide : (66 : Int32) < (68 : Int32)) rfl) hZ (own_w hw 85 rfl) (own_w hw 73 rfl) (by decide) (by decide)) q307a q307c (g := (mkF m 258 #[.val (.int p1), .val (.ref b1), .val (.ref b104), .val (.int (33 : Int32)), .val (.ref ad33), .unset, .unset] [(.int (66 : Int32)), (.ref b104)])) rfl (by rw [hml]; rfl) (Steps.refl _) (argsL := [(.int (66 : Int32))]) (rest := []) (lenOf pd_5 rfl) rfl (by show 2 * 0 + _ ≤ _; exact Nat.le_of_eq rfl) (hb hby at_258) (fun _ _ => ⟨rfl, ec, (by decide : 3 + 0 ≤ _), (by decide : 310 + 0 ≤ _)⟩)
  dsimp only [Pt.U, Pt.locs, Pt.cells, Pt.slots] at X307 l307 y307 z307 st307 hQ307
  subst l307 y307 z307
  obtain ⟨rfl, N307q, eh307⟩ := hQ307
  have N307 := Fr.app Nc N307q
  refine own_via st307 ?_
  refine own_go (A := T307.setTop (mkF m 269 #[.val (.int p1), .val (.ref b1), .val (.ref b104), .val (.int (33 : Int32)), .val (.ref ad33), .val (.int (85 : Int32)), .unset] [(.int (67 : Int32)), (.ref b104)])) (fun t_ k_ => ?_) ?_
  · show Steps p.tables e below (T307.setTop (mkF m 261 #[.val (.int p1), .val (.ref b1), .val (.ref b104), .val (.int (33 : Int32)), .val (.ref ad33), .unset, .unset] [(.int (85 : Int32))])) t_
    refine XS.istore X307.here hx rfl (hb hby at_261) rfl (l' := #[.val (.int p1), .val (.ref b1), .val (.ref b104), .val (.int (33 : Int32)), .val (.ref ad33), .val (.int (85 : Int32)), .unset]) rfl ?_
    show Steps p.tables e below (T307.setTop (mkF m 263 #[.val (.int p1), .val (.ref b1), .val (.ref b104), .val (.int (33 : Int32)), .val (.ref ad33), .val (.int (85 : Int32)), .unset] [])) t_
    refine XS.aloadN X307.here hx rfl (hb hby at_263) rfl rfl ?_
    show Steps p.tables e below (T307.setTop (mkF m 264 #[.val (.int p1), .val (.ref b1), .val (.ref b104), .val (.int (33 : Int32)), .val (.ref ad33), .val (.int (85 : Int32)), .unset] [(.ref b104)])) t_
    refine XS.iconst X307.here hx rfl (hb hby at_264) ?_
    show Steps p.tables e below (T307.setTop (mkF m 265 #[.val (.int p1), .val (.ref b1), .val (.ref b104), .val (.int (33 : Int32)), .val (.ref ad33), .val (.int (85 : Int32)), .unset] [(.int (2 : Int32)), (.ref b104)])) t_
    refine XS.iloadN X307.here hx rfl (hb hby at_265) rfl ?_
    show Steps p.tables e below (T307.setTop (mkF m 266 #[.val (.int p1), .val (.ref b1), .val (.ref b104), .val (.int (33 : Int32)), .val (.ref ad33), .val (.int (85 : Int32)), .unset] [(.int (33 : Int32)), (.int (2 : Int32)), (.ref b104)])) t_
    refine XS.imul X307.here hx rfl (hb hby at_266) rfl ?_
    show Steps p.tables e below (T307.setTop (mkF m 267 #[.val (.int p1), .val (.ref b1), .val (.ref b104), .val (.int (33 : Int32)), .val (.ref ad33), .val (.int (85 : Int32)), .unset] [(.int (66 : Int32)), (.ref b104)])) t_
    refine XS.iconst X307.here hx rfl (hb hby at_267) ?_
    show Steps p.tables e below (T307.setTop (mkF m 268 #[.val (.int p1), .val (.ref b1), .val (.ref b104), .val (.int (33 : Int32)), .val (.ref ad33), .val (.int (85 : Int32)), .unset] [(.int (1 : Int32)), (.int (66 : Int32)), (.ref b104)])) t_
    refine XS.iadd X307.here hx rfl (hb hby at_268) rfl ?_
    exact k_
  obtain ⟨cq308, kq308, q308a, q308b, q308c⟩ := isOf hZ eh307 zc4
  obtain ⟨_, _, ⟨T308, L308, k308, n308⟩, -, X308, ⟨Lc308, hQ308, l308, y308, z308⟩, st308⟩ := X307.virtualBack hx (y := own_y4) (z := own_y4) hown (mvT hZ (own_w hw 81 rfl)) (mvT hZ (own_w hw 82 rfl)) (notFace_of_selects (args := #[]) (mvT hZ (own_w hw 84 rfl))) (mvT hZ (own_w hw 84 rfl)) (mvT hZ (own_w hw 83 rfl)) (by decide) (backOf (W := 0) (rmChAt l Z a0 hw [] b104 (67 : Int32) d104 kk104 (68 : Int32) own_txt (86 : Int32) sf cs Hc n0 (Nat.le_trans Z0 Kc0.1) Oc zc0 hcs zc1 hsf zc4 zc5 zc6 zc7 (by decide : ¬ ((67 : Int32) < (0 : Int32))) (by decide : (67 : Int32) < (68 : Int32)) rfl) hZ (own_w hw 85 rfl) (own_w hw 73 rfl) (by decide) (by decide)) q308a q308c (g := (mkF m 269 #[.val (.int p1), .val (.ref b1), .val (.ref b104), .val (.int (33 : Int32)), .val (.ref ad33), .val (.int (85 : Int32)), .unset] [(.int (67 : Int32)), (.ref b104)])) rfl (by rw [hml]; rfl) (Steps.refl _) (argsL := [(.int (67 : Int32))]) (rest := []) (lenOf pd_5 rfl) rfl (by show 2 * 0 + _ ≤ _; exact Nat.le_of_eq rfl) (hb hby at_269) (fun _ _ => ⟨rfl, eh307, (by decide : 3 + 0 ≤ _), (by decide : 310 + 0 ≤ _)⟩)
  dsimp only [Pt.U, Pt.locs, Pt.cells, Pt.slots] at X308 l308 y308 z308 st308 hQ308
  subst l308 y308 z308
  obtain ⟨rfl, N308q, eh308⟩ := hQ308
  have N308 := Fr.app N307 N308q
  refine own_via st308 ?_
  refine own_go (A := T308.setTop (mkF m 276 #[.val (.int p1), .val (.ref b1), .val (.ref b104), .val (.int (33 : Int32)), .val (.ref ad33), .val (.int (85 : Int32)), .val (.int (86 : Int32))] [(.ref ad33)])) (fun t_ k_ => ?_) ?_
  · show Steps p.tables e below (T308.setTop (mkF m 272 #[.val (.int p1), .val (.ref b1), .val (.ref b104), .val (.int (33 : Int32)), .val (.ref ad33), .val (.int (85 : Int32)), .unset] [(.int (86 : Int32))])) t_
    refine XS.istore X308.here hx rfl (hb hby at_272) rfl (l' := #[.val (.int p1), .val (.ref b1), .val (.ref b104), .val (.int (33 : Int32)), .val (.ref ad33), .val (.int (85 : Int32)), .val (.int (86 : Int32))]) rfl ?_
    show Steps p.tables e below (T308.setTop (mkF m 274 #[.val (.int p1), .val (.ref b1), .val (.ref b104), .val (.int (33 : Int32)), .val (.ref ad33), .val (.int (85 : Int32)), .val (.int (86 : Int32))] [])) t_
    refine XS.aload X308.here hx rfl (hb hby at_274) rfl rfl ?_
    exact k_
  obtain ⟨cq309, kq309, q309a, q309b, q309c⟩ := isOf hZ eh308 (zc2.ext Oc.2)
  obtain ⟨_, _, ⟨T309, L309, k309, n309⟩, -, X309, ⟨Lc309, hQ309, l309, y309, z309⟩, st309⟩ := X308.virtualBack hx (y := own_y7) (z := own_y7) hown (mvT hZ (own_w hw 106 rfl)) (mvT hZ (own_w hw 107 rfl)) (notFace_of_selects (args := #[]) (mvT hZ (own_w hw 109 rfl))) (mvT hZ (own_w hw 109 rfl)) (mvT hZ (own_w hw 108 rfl)) (by decide) (backOf (W := 0) (rmMIn104 l Z a0 hw [] ad33 (33 : Int32) Hc n0 (Nat.le_trans Z0 Kc0.1) Oc zc2 zc3 (by decide) (by decide)) hZ (own_w hw 110 rfl) (own_w hw 3 rfl) (by decide) (by decide)) q309a q309c (g := (mkF m 276 #[.val (.int p1), .val (.ref b1), .val (.ref b104), .val (.int (33 : Int32)), .val (.ref ad33), .val (.int (85 : Int32)), .val (.int (86 : Int32))] [(.ref ad33)])) rfl (by rw [hml]; rfl) (Steps.refl _) (argsL := []) (rest := []) (lenOf pd_2 rfl) rfl (by show 2 * 0 + _ ≤ _; exact Nat.le_of_eq rfl) (hb hby at_276) (fun _ _ => ⟨rfl, eh308, (by decide : 3 + 0 ≤ _), (by decide : 310 + 0 ≤ _)⟩)
  dsimp only [Pt.U, Pt.locs, Pt.cells, Pt.slots] at X309 l309 y309 z309 st309 hQ309
  subst l309 y309 z309
  obtain ⟨rfl, N309q, eh309⟩ := hQ309
  have N309 := Fr.app N308 N309q
  refine own_via st309 ?_
  refine own_go (A := T309.setTop (mkF m 283 #[.val (.int p1), .val (.ref b1), .val (.ref b104), .val (.int (33 : Int32)), .val (.ref ad33), .val (.int (85 : Int32)), .val (.int (86 : Int32))] [(.int (86 : Int32)), (.int (85 : Int32)), (.int (1 : Int32))])) (fun t_ k_ => ?_) ?_
  · show Steps p.tables e below (T309.setTop (mkF m 279 #[.val (.int p1), .val (.ref b1), .val (.ref b104), .val (.int (33 : Int32)), .val (.ref ad33), .val (.int (85 : Int32)), .val (.int (86 : Int32))] [(.int (1 : Int32))])) t_
    refine XS.iload X309.here hx rfl (hb hby at_279) rfl ?_
    show Steps p.tables e below (T309.setTop (mkF m 281 #[.val (.int p1), .val (.ref b1), .val (.ref b104), .val (.int (33 : Int32)), .val (.ref ad33), .val (.int (85 : Int32)), .val (.int (86 : Int32))] [(.int (85 : Int32)), (.int (1 : Int32))])) t_
    refine XS.iload X309.here hx rfl (hb hby at_281) rfl ?_
    exact k_
  obtain ⟨_, _, ⟨T310, L310, k310, n310⟩, -, X310, ⟨Lc310, hQ310, l310, y310, z310⟩, st310⟩ := Jvm.LawKit.callS X309 hx (y := own_y8) hown (mvT hZ (own_w hw 120 rfl)) (mvT hZ (own_w hw 121 rfl)) (mvT hZ (own_w hw 122 rfl)) (mvT hZ (own_w hw 123 rfl)) (by decide) (backOf (W := 1) (rmEUV l Z a0 hw [] Hc n0 (Nat.le_trans Z0 Kc0.1)) hZ (own_w hw 123 rfl) (own_w hw 122 rfl) (by decide) (by decide)) (g := (mkF m 283 #[.val (.int p1), .val (.ref b1), .val (.ref b104), .val (.int (33 : Int32)), .val (.ref ad33), .val (.int (85 : Int32)), .val (.int (86 : Int32))] [(.int (86 : Int32)), (.int (85 : Int32)), (.int (1 : Int32))])) rfl (by rw [hml]; rfl) (argsL := [(.int (85 : Int32)), (.int (86 : Int32))]) (rest := [(.int (1 : Int32))]) (lenOf pd_6 rfl) rfl (by show 2 * 0 + _ ≤ _; exact Nat.le_of_eq rfl) (hb hby at_283) (fun _ _ => ⟨rfl, eh309, (by decide : 3 + 0 ≤ _), (by decide : 310 + 0 ≤ _)⟩)
  dsimp only [Pt.U, Pt.locs, Pt.cells, Pt.slots] at X310 l310 y310 z310 st310 hQ310
  subst l310 y310 z310
  obtain ⟨rfl, N310q, eh310⟩ := hQ310
  have N310 := Fr.app N309 N310q
  refine own_go st310 ?_
  refine own_go (A := T310.setTop (mkF m 294 #[.val (.int p1), .val (.ref b1), .val (.ref b104), .val (.int (33 : Int32)), .val (.ref ad33), .val (.int (85 : Int32)), .val (.int (86 : Int32))] [(.int (1 : Int32))])) (fun t_ k_ => ?_) ?_
  · show Steps p.tables e below (T310.setTop (mkF m 286 #[.val (.int p1), .val (.ref b1), .val (.ref b104), .val (.int (33 : Int32)), .val (.ref ad33), .val (.int (85 : Int32)), .val (.int (86 : Int32))] [(.int (1 : Int32)), (.int (1 : Int32))])) t_
    refine XS.icmpNo X310.here hx rfl (hb hby at_286) rfl (teq (by decide : (1 : Int32) = (1 : Int32))).2 ?_
    show Steps p.tables e below (T310.setTop (mkF m 289 #[.val (.int p1), .val (.ref b1), .val (.ref b104), .val (.int (33 : Int32)), .val (.ref ad33), .val (.int (85 : Int32)), .val (.int (86 : Int32))] [])) t_
    refine XS.iconst X310.here hx rfl (hb hby at_289) ?_
    show Steps p.tables e below (T310.setTop (mkF m 290 #[.val (.int p1), .val (.ref b1), .val (.ref b104), .val (.int (33 : Int32)), .val (.ref ad33), .val (.int (85 : Int32)), .val (.int (86 : Int32))] [(.int (1 : Int32))])) t_
    refine XS.goto X310.here hx rfl (pc0 := 290) (pc' := 294) rfl (hb hby at_290) (by decide) (by decide) ?_
    exact k_
  obtain ⟨fs311, hr311, hrun311, hended311, hRW311⟩ := X310.leaveW hS (by rw [eh310]; exact hk) (v := some (.int (1 : Int32))) (fun h => by rw [hret] at h; cases h)
  refine ⟨_, _, ?_, hrun311, hended311, _, _, rfl, ?_, hRW311.1, hRW311.2.1, hRW311.2.2.1, hRW311.2.2.2.mono (by decide) (by decide)⟩
  · exact retN X310 hx (t := .boolean) hret (by simp) (hb hby at_294) hr311
  · show Q_rm0 Z p1 cs sf ad0 ad1 ad2 ad3 ad4 ad5 ad6 ad7 ad8 ad9 ad10 ad11 ad12 ad13 ad14 ad15 ad16 ad17 ad18 ad19 ad20 ad21 ad22 ad23 ad24 ad25 ad26 ad27 ad28 ad29 ad30 ad31 ad32 ad33 h0 n0 _ T310.heap _
    rw [eh310]
    exact ⟨rfl, N310, Kc0⟩
theorem ef_rm0 (m : MethodId) (p1 : Int32) : entryFrame m #[(.int p1)] maxLocals = mkF m 0 #[.val (.int p1), .unset, .unset, .unset, .unset, .unset, .unset] [] := by first | (simp [entryFrame, mkF, argsToLocals, Value.category, maxLocals]; done) | rfl
set_option maxRecDepth 65536 in
set_option maxHeartbeats 40000000 in
theorem rm0 (l : Launch) (Z : State) (a0 : Array Value) (hw : ∀ d ∈ tables_1, d.before a0 Z = true) (ws : List Jvm.Cond) (p1 : Int32) (cs : Int32) (sf : Value) (ad0 : Addr) (ad1 : Addr) (ad2 : Addr) (ad3 : Addr) (ad4 : Addr) (ad5 : Addr) (ad6 : Addr) (ad7 : Addr) (ad8 : Addr) (ad9 : Addr) (ad10 : Addr) (ad11 : Addr) (ad12 : Addr) (ad13 : Addr) (ad14 : Addr) (ad15 : Addr) (ad16 : Addr) (ad17 : Addr) (ad18 : Addr) (ad19 : Addr) (ad20 : Addr) (ad21 : Addr) (ad22 : Addr) (ad23 : Addr) (ad24 : Addr) (ad25 : Addr) (ad26 : Addr) (ad27 : Addr) (ad28 : Addr) (ad29 : Addr) (ad30 : Addr) (ad31 : Addr) (ad32 : Addr) (ad33 : Addr) (h0 : Heap) (n0 : Nat) (Z0 : n0 ≤ h0.size) (O0 : Old Z n0 h0) (u1 : Sta Z Z.heap "java/lang/String" "COMPACT_STRINGS" "Z" (.int cs)) (hcs : ¬ (cs = (0 : Int32))) (u3 : Sta Z Z.heap "jdk/internal/util/Preconditions" "SIOOBE_FORMATTER" "Ljava/util/function/BiFunction;" sf) (hsf : sf.isRef = true) (hn0 : n0 = h0.size) (hcw : Jvm.Lit.compactW.before a0 Z = true) (hlit : Jvm.Lit.constHeld Z "com/example/querent/querent/dicom/VrHasLongLengthPinLaw" 112) (u8 : Sta Z Z.heap "com/example/querent/querent/dicom/Vr" "AE" "Lcom/example/querent/querent/dicom/Vr;" (.ref ad0)) (u9 : Exa Z Z.heap ad0 "com/example/querent/querent/dicom/Vr") (u10 : Fld Z Z.heap ad0 "java/lang/Enum" "ordinal" "I" (.int (0 : Int32))) (u11 : Sta Z Z.heap "com/example/querent/querent/dicom/Vr" "AS" "Lcom/example/querent/querent/dicom/Vr;" (.ref ad1)) (u12 : Exa Z Z.heap ad1 "com/example/querent/querent/dicom/Vr") (u13 : Fld Z Z.heap ad1 "java/lang/Enum" "ordinal" "I" (.int (1 : Int32))) (u14 : Sta Z Z.heap "com/example/querent/querent/dicom/Vr" "AT" "Lcom/example/querent/querent/dicom/Vr;" (.ref ad2)) (u15 : Exa Z Z.heap ad2 "com/example/querent/querent/dicom/Vr") (u16 : Fld Z Z.heap ad2 "java/lang/Enum" "ordinal" "I" (.int (2 : Int32))) (u17 : Sta Z Z.heap "com/example/querent/querent/dicom/Vr" "CS" "Lcom/example/querent/querent/dicom/Vr;" (.ref ad3)) (u18 : Exa Z Z.heap ad3 "com/example/querent/querent/dicom/Vr") (u19 : Fld Z Z.heap ad3 "java/lang/Enum" "ordinal" "I" (.int (3 : Int32))) (u20 : Sta Z Z.heap "com/example/querent/querent/dicom/Vr" "DA" "Lcom/example/querent/querent/dicom/Vr;" (.ref ad4)) (u21 : Exa Z Z.heap ad4 "com/example/querent/querent/dicom/Vr") (u22 : Fld Z Z.heap ad4 "java/lang/Enum" "ordinal" "I" (.int (4 : Int32))) (u23 : Sta Z Z.heap "com/example/querent/querent/dicom/Vr" "DS" "Lcom/example/querent/querent/dicom/Vr;" (.ref ad5)) (u24 : Exa Z Z.heap ad5 "com/example/querent/querent/dicom/Vr") (u25 : Fld Z Z.heap ad5 "java/lang/Enum" "ordinal" "I" (.int (5 : Int32))) (u26 : Sta Z Z.heap "com/example/querent/querent/dicom/Vr" "DT" "Lcom/example/querent/querent/dicom/Vr;" (.ref ad6)) (u27 : Exa Z Z.heap ad6 "com/example/querent/querent/dicom/Vr") (u28 : Fld Z Z.heap ad6 "java/lang/Enum" "ordinal" "I" (.int (6 : Int32))) (u29 : Sta Z Z.heap "com/example/querent/querent/dicom/Vr" "FD" "Lcom/example/querent/querent/dicom/Vr;" (.ref ad7)) (u30 : Exa Z Z.heap ad7 "com/example/querent/querent/dicom/Vr") (u31 : Fld Z Z.heap ad7 "java/lang/Enum" "ordinal" "I" (.int (7 : Int32))) (u32 : Sta Z Z.heap "com/example/querent/querent/dicom/Vr" "FL" "Lcom/example/querent/querent/dicom/Vr;" (.ref ad8)) (u33 : Exa Z Z.heap ad8 "com/example/querent/querent/dicom/Vr") (u34 : Fld Z Z.heap ad8 "java/lang/Enum" "ordinal" "I" (.int (8 : Int32))) (u35 : Sta Z Z.heap "com/example/querent/querent/dicom/Vr" "IS" "Lcom/example/querent/querent/dicom/Vr;" (.ref ad9)) (u36 : Exa Z Z.heap ad9 "com/example/querent/querent/dicom/Vr") (u37 : Fld Z Z.heap ad9 "java/lang/Enum" "ordinal" "I" (.int (9 : Int32))) (u38 : Sta Z Z.heap "com/example/querent/querent/dicom/Vr" "LO" "Lcom/example/querent/querent/dicom/Vr;" (.ref ad10)) (u39 : Exa Z Z.heap ad10 "com/example/querent/querent/dicom/Vr") (u40 : Fld Z Z.heap ad10 "java/lang/Enum" "ordinal" "I" (.int (10 : Int32))) (u41 : Sta Z Z.heap "com/example/querent/querent/dicom/Vr" "LT" "Lcom/example/querent/querent/dicom/Vr;" (.ref ad11)) (u42 : Exa Z Z.heap ad11 "com/example/querent/querent/dicom/Vr") (u43 : Fld Z Z.heap ad11 "java/lang/Enum" "ordinal" "I" (.int (11 : Int32))) (u44 : Sta Z Z.heap "com/example/querent/querent/dicom/Vr" "OB" "Lcom/example/querent/querent/dicom/Vr;" (.ref ad12)) (u45 : Exa Z Z.heap ad12 "com/example/querent/querent/dicom/Vr") (u46 : Fld Z Z.heap ad12 "java/lang/Enum" "ordinal" "I" (.int (12 : Int32))) (u47 : Sta Z Z.heap "com/example/querent/querent/dicom/Vr" "OD" "Lcom/example/querent/querent/dicom/Vr;" (.ref ad13)) (u48 : Exa Z Z.heap ad13 "com/example/querent/querent/dicom/Vr") (u49 : Fld Z Z.heap ad13 "java/lang/Enum" "ordinal" "I" (.int (13 : Int32))) (u50 : Sta Z Z.heap "com/example/querent/querent/dicom/Vr" "OF" "Lcom/example/querent/querent/dicom/Vr;" (.ref ad14)) (u51 : Exa Z Z.heap ad14 "com/example/querent/querent/dicom/Vr") (u52 : Fld Z Z.heap ad14 "java/lang/Enum" "ordinal" "I" (.int (14 : Int32))) (u53 : Sta Z Z.heap "com/example/querent/querent/dicom/Vr" "OL" "Lcom/example/querent/querent/dicom/Vr;" (.ref ad15)) (u54 : Exa Z Z.heap ad15 "com/example/querent/querent/dicom/Vr") (u55 : Fld Z Z.heap ad15 "java/lang/Enum" "ordinal" "I" (.int (15 : Int32))) (u56 : Sta Z Z.heap "com/example/querent/querent/dicom/Vr" "OV" "Lcom/example/querent/querent/dicom/Vr;" (.ref ad16)) (u57 : Exa Z Z.heap ad16 "com/example/querent/querent/dicom/Vr") (u58 : Fld Z Z.heap ad16 "java/lang/Enum" "ordinal" "I" (.int (16 : Int32))) (u59 : Sta Z Z.heap "com/example/querent/querent/dicom/Vr" "OW" "Lcom/example/querent/querent/dicom/Vr;" (.ref ad17)) (u60 : Exa Z Z.heap ad17 "com/example/querent/querent/dicom/Vr") (u61 : Fld Z Z.heap ad17 "java/lang/Enum" "ordinal" "I" (.int (17 : Int32))) (u62 : Sta Z Z.heap "com/example/querent/querent/dicom/Vr" "PN" "Lcom/example/querent/querent/dicom/Vr;" (.ref ad18)) (u63 : Exa Z Z.heap ad18 "com/example/querent/querent/dicom/Vr") (u64 : Fld Z Z.heap ad18 "java/lang/Enum" "ordinal" "I" (.int (18 : Int32))) (u65 : Sta Z Z.heap "com/example/querent/querent/dicom/Vr" "SH" "Lcom/example/querent/querent/dicom/Vr;" (.ref ad19)) (u66 : Exa Z Z.heap ad19 "com/example/querent/querent/dicom/Vr") (u67 : Fld Z Z.heap ad19 "java/lang/Enum" "ordinal" "I" (.int (19 : Int32))) (u68 : Sta Z Z.heap "com/example/querent/querent/dicom/Vr" "SL" "Lcom/example/querent/querent/dicom/Vr;" (.ref ad20)) (u69 : Exa Z Z.heap ad20 "com/example/querent/querent/dicom/Vr") (u70 : Fld Z Z.heap ad20 "java/lang/Enum" "ordinal" "I" (.int (20 : Int32))) (u71 : Sta Z Z.heap "com/example/querent/querent/dicom/Vr" "SQ" "Lcom/example/querent/querent/dicom/Vr;" (.ref ad21)) (u72 : Exa Z Z.heap ad21 "com/example/querent/querent/dicom/Vr") (u73 : Fld Z Z.heap ad21 "java/lang/Enum" "ordinal" "I" (.int (21 : Int32))) (u74 : Sta Z Z.heap "com/example/querent/querent/dicom/Vr" "SS" "Lcom/example/querent/querent/dicom/Vr;" (.ref ad22)) (u75 : Exa Z Z.heap ad22 "com/example/querent/querent/dicom/Vr") (u76 : Fld Z Z.heap ad22 "java/lang/Enum" "ordinal" "I" (.int (22 : Int32))) (u77 : Sta Z Z.heap "com/example/querent/querent/dicom/Vr" "ST" "Lcom/example/querent/querent/dicom/Vr;" (.ref ad23)) (u78 : Exa Z Z.heap ad23 "com/example/querent/querent/dicom/Vr") (u79 : Fld Z Z.heap ad23 "java/lang/Enum" "ordinal" "I" (.int (23 : Int32))) (u80 : Sta Z Z.heap "com/example/querent/querent/dicom/Vr" "SV" "Lcom/example/querent/querent/dicom/Vr;" (.ref ad24)) (u81 : Exa Z Z.heap ad24 "com/example/querent/querent/dicom/Vr") (u82 : Fld Z Z.heap ad24 "java/lang/Enum" "ordinal" "I" (.int (24 : Int32))) (u83 : Sta Z Z.heap "com/example/querent/querent/dicom/Vr" "TM" "Lcom/example/querent/querent/dicom/Vr;" (.ref ad25)) (u84 : Exa Z Z.heap ad25 "com/example/querent/querent/dicom/Vr") (u85 : Fld Z Z.heap ad25 "java/lang/Enum" "ordinal" "I" (.int (25 : Int32))) (u86 : Sta Z Z.heap "com/example/querent/querent/dicom/Vr" "UC" "Lcom/example/querent/querent/dicom/Vr;" (.ref ad26)) (u87 : Exa Z Z.heap ad26 "com/example/querent/querent/dicom/Vr") (u88 : Fld Z Z.heap ad26 "java/lang/Enum" "ordinal" "I" (.int (26 : Int32))) (u89 : Sta Z Z.heap "com/example/querent/querent/dicom/Vr" "UI" "Lcom/example/querent/querent/dicom/Vr;" (.ref ad27)) (u90 : Exa Z Z.heap ad27 "com/example/querent/querent/dicom/Vr") (u91 : Fld Z Z.heap ad27 "java/lang/Enum" "ordinal" "I" (.int (27 : Int32))) (u92 : Sta Z Z.heap "com/example/querent/querent/dicom/Vr" "UL" "Lcom/example/querent/querent/dicom/Vr;" (.ref ad28)) (u93 : Exa Z Z.heap ad28 "com/example/querent/querent/dicom/Vr") (u94 : Fld Z Z.heap ad28 "java/lang/Enum" "ordinal" "I" (.int (28 : Int32))) (u95 : Sta Z Z.heap "com/example/querent/querent/dicom/Vr" "UN" "Lcom/example/querent/querent/dicom/Vr;" (.ref ad29)) (u96 : Exa Z Z.heap ad29 "com/example/querent/querent/dicom/Vr") (u97 : Fld Z Z.heap ad29 "java/lang/Enum" "ordinal" "I" (.int (29 : Int32))) (u98 : Sta Z Z.heap "com/example/querent/querent/dicom/Vr" "UR" "Lcom/example/querent/querent/dicom/Vr;" (.ref ad30)) (u99 : Exa Z Z.heap ad30 "com/example/querent/querent/dicom/Vr") (u100 : Fld Z Z.heap ad30 "java/lang/Enum" "ordinal" "I" (.int (30 : Int32))) (u101 : Sta Z Z.heap "com/example/querent/querent/dicom/Vr" "US" "Lcom/example/querent/querent/dicom/Vr;" (.ref ad31)) (u102 : Exa Z Z.heap ad31 "com/example/querent/querent/dicom/Vr") (u103 : Fld Z Z.heap ad31 "java/lang/Enum" "ordinal" "I" (.int (31 : Int32))) (u104 : Sta Z Z.heap "com/example/querent/querent/dicom/Vr" "UT" "Lcom/example/querent/querent/dicom/Vr;" (.ref ad32)) (u105 : Exa Z Z.heap ad32 "com/example/querent/querent/dicom/Vr") (u106 : Fld Z Z.heap ad32 "java/lang/Enum" "ordinal" "I" (.int (32 : Int32))) (u107 : Sta Z Z.heap "com/example/querent/querent/dicom/Vr" "UV" "Lcom/example/querent/querent/dicom/Vr;" (.ref ad33)) (u108 : Exa Z Z.heap ad33 "com/example/querent/querent/dicom/Vr") (u109 : Fld Z Z.heap ad33 "java/lang/Enum" "ordinal" "I" (.int (33 : Int32))) :
    MetFree l x (head1 (Jvm.Cond.code x code maxLocals ret :: ws) room_1) (fun a_ U_ => a_ = #[(.int p1)] ∧ Z.Warmed39 U_.vm ∧ U_.heap = h0 ∧ U_.vm = Z.vm) (fun _ _ _ _ _ => True) (fun _ U_ o_ U2_ => ∃ v_ L_, o_ = .returned v_ ∧ Q_rm0 Z p1 cs sf ad0 ad1 ad2 ad3 ad4 ad5 ad6 ad7 ad8 ad9 ad10 ad11 ad12 ad13 ad14 ad15 ad16 ad17 ad18 ad19 ad20 ad21 ad22 ad23 ad24 ad25 ad26 ad27 ad28 ad29 ad30 ad31 ad32 ad33 h0 n0 v_ U2_.heap L_ ∧ ReturnedEndW U_ o_ U2_ L_ room_1.cells room_1.slots) := by
  refine MetFree.of_bodySF (plainFor_of_name pn_5) hisR ?_
  intro p e s m args below meth c s₁ Bd hml0 hP hK
  obtain ⟨rfl, hZ, hh, hvm⟩ := hP
  have hx := Bd.exec
  have hby := Bd.bytes
  have hml : c.maxLocals = 7 := hml0
  have hown : s.vm.findClass "com/example/querent/querent/dicom/VrHasLongLengthPinLaw" = some m.cls := findClass_of_methodNamed Bd.named
  have hnm := (name_of_methodNamed Bd.named Bd.method).1
  have X0 : Stand p l e room_1 (s.setVm s.vm) m #[(.int p1)] below meth c s₁ [] 0 0 := Stand.of_body Bd
  have e0 : s₁.heap = h0 := by rw [← hh, Bd.state]; rfl
  have N0 := Fr.nil n0
  have hS : s.Since s.vm h0.size := (State.WarmedH.refl s).since _
  have hk := Nat.le_refl h0.size
  have hSA := own_strA hw
  refine own_go (A := s₁.setTop (mkF m 0 #[.val (.int p1), .unset, .unset, .unset, .unset, .unset, .unset] [])) (fun t_ k_ => castTop (ef_rm0 m p1) k_) ?_
  refine own_go (A := s₁.setTop (mkF m 2 #[.val (.int p1), .unset, .unset, .unset, .unset, .unset, .unset] [(.int (34 : Int32))])) (fun t_ k_ => ?_) ?_
  · show Steps p.tables e below (s₁.setTop (mkF m 0 #[.val (.int p1), .unset, .unset, .unset, .unset, .unset, .unset] [])) t_
    refine XS.bipush X0.here hx rfl (hb hby at_0) ?_
    exact k_
  obtain ⟨T1, h1, k1, X1, e1, E1, A1, V1, st1⟩ := newR X0 hx hZ hown (own_w hw 0 rfl) (own_w hw 1 rfl) e0 (g := (mkF m 2 #[.val (.int p1), .unset, .unset, .unset, .unset, .unset, .unset] [(.int (34 : Int32))])) rfl (hb hby at_2) rfl (by decide) (cap := 34) (by decide) (by decide) (by decide) (by decide)
  obtain ⟨b1, g1⟩ : ∃ z, z = h0.size := ⟨_, rfl⟩
  rw [← g1] at A1 st1
  refine own_go st1 ?_
  have K1 : Keep h0 h1 [] := (Keep.refl h0 []).ext E1
  have hk := Nat.le_trans hk E1.1
  have O1 := O0.ext E1
  have B1 : Arv Z h1 b1 k1 (.object "com/example/querent/querent/dicom/Vr") (34 : Int32) [.null, .null, .null, .null, .null, .null, .null, .null, .null, .null, .null, .null, .null, .null, .null, .null, .null, .null, .null, .null, .null, .null, .null, .null, .null, .null, .null, .null, .null, .null, .null, .null, .null, .null] .null := (Arv.new A1 (by decide)).pad (pad_rep [] .null 34)
  refine own_go (A := T1.setTop (mkF m 7 #[.val (.int p1), .unset, .unset, .unset, .unset, .unset, .unset] [(.int (0 : Int32)), (.ref b1), (.ref b1)])) (fun t_ k_ => ?_) ?_
  · show Steps p.tables e below (T1.setTop (mkF m 5 #[.val (.int p1), .unset, .unset, .unset, .unset, .unset, .unset] [(.ref b1)])) t_
    refine XS.dup X1.here hx rfl (hb hby at_5) rfl rfl ?_
    show Steps p.tables e below (T1.setTop (mkF m 6 #[.val (.int p1), .unset, .unset, .unset, .unset, .unset, .unset] [(.ref b1), (.ref b1)])) t_
    refine XS.iconst X1.here hx rfl (hb hby at_6) ?_
    exact k_
  obtain ⟨T2, X2, e2, st2⟩ := getS2 X1 hx hZ hown (host := "") (Or.inl (own_w hw 2 rfl)) Via.refl e1 (u8.ext O1.2) (g := (mkF m 7 #[.val (.int p1), .unset, .unset, .unset, .unset, .unset, .unset] [(.int (0 : Int32)), (.ref b1), (.ref b1)])) rfl (hb hby at_7)
  refine own_go st2 ?_
  obtain ⟨cl3, Ar3, q3, S3, M3, H3, G3⟩ := id B1
  have hin3 : ¬ ((0 : Int32) < 0 ∨ cl3.slots.size ≤ ((0 : Int32)).toNatClampNeg) := inb_of S3 ⟨by decide, by decide⟩
  obtain ⟨T4, h4, X4, e4, W4, st4⟩ := stR X2 hx hZ e2 Ar3 (j := (0 : Int32)) hin3 rfl (Sto.ofV Ar3 q3 V1 (Ins.self (u9.ext O1.2))) (g := (mkF m 10 #[.val (.int p1), .unset, .unset, .unset, .unset, .unset, .unset] [(.ref ad0), (.int (0 : Int32)), (.ref b1), (.ref b1)])) rfl rfl (hb hby at_10)
  have B4 : Arv Z h4 b1 k1 (.object "com/example/querent/querent/dicom/Vr") (34 : Int32) [(.ref ad0), .null, .null, .null, .null, .null, .null, .null, .null, .null, .null, .null, .null, .null, .null, .null, .null, .null, .null, .null, .null, .null, .null, .null, .null, .null, .null, .null, .null, .null, .null, .null, .null, .null] .null := Arv.set Ar3 q3 S3 M3 H3 G3 rfl W4 0 rfl (Nat.le_of_ble_eq_true rfl)
  refine own_go st4 ?_
  have K4 : Keep h0 h4 [] := K1.wr W4 (Or.inr (Nat.le_of_eq g1.symm))
  have hk := Nat.le_trans hk (Keep.of_wr W4).1
  have O4 := O1.wr W4 (Nat.le_trans Z0 (Nat.le_of_eq g1.symm))
  have N4 := Fr.snoc X4 N0 (Nat.le_trans Z0 (Nat.le_of_eq g1.symm))
  refine own_go (A := T4.setTop (mkF m 13 #[.val (.int p1), .unset, .unset, .unset, .unset, .unset, .unset] [(.int (1 : Int32)), (.ref b1), (.ref b1)])) (fun t_ k_ => ?_) ?_
  · show Steps p.tables e below (T4.setTop (mkF m 11 #[.val (.int p1), .unset, .unset, .unset, .unset, .unset, .unset] [(.ref b1)])) t_
    refine XS.dup X4.here hx rfl (hb hby at_11) rfl rfl ?_
    show Steps p.tables e below (T4.setTop (mkF m 12 #[.val (.int p1), .unset, .unset, .unset, .unset, .unset, .unset] [(.ref b1), (.ref b1)])) t_
    refine XS.iconst X4.here hx rfl (hb hby at_12) ?_
    exact k_
  obtain ⟨T5, X5, e5, st5⟩ := getS2 X4 hx hZ hown (host := "") (Or.inl (own_w hw 6 rfl)) Via.refl e4 (u11.ext O4.2) (g := (mkF m 13 #[.val (.int p1), .unset, .unset, .unset, .unset, .unset, .unset] [(.int (1 : Int32)), (.ref b1), (.ref b1)])) rfl (hb hby at_13)
  refine own_go st5 ?_
  obtain ⟨cl6, Ar6, q6, S6, M6, H6, G6⟩ := id B4
  have hin6 : ¬ ((1 : Int32) < 0 ∨ cl6.slots.size ≤ ((1 : Int32)).toNatClampNeg) := inb_of S6 ⟨by decide, by decide⟩
  obtain ⟨T7, h7, X7, e7, W7, st7⟩ := stR X5 hx hZ e5 Ar6 (j := (1 : Int32)) hin6 rfl (Sto.ofV Ar6 q6 V1 (Ins.self (u12.ext O4.2))) (g := (mkF m 16 #[.val (.int p1), .unset, .unset, .unset, .unset, .unset, .unset] [(.ref ad1), (.int (1 : Int32)), (.ref b1), (.ref b1)])) rfl rfl (hb hby at_16)
  have B7 : Arv Z h7 b1 k1 (.object "com/example/querent/querent/dicom/Vr") (34 : Int32) [(.ref ad0), (.ref ad1), .null, .null, .null, .null, .null, .null, .null, .null, .null, .null, .null, .null, .null, .null, .null, .null, .null, .null, .null, .null, .null, .null, .null, .null, .null, .null, .null, .null, .null, .null, .null, .null] .null := Arv.set Ar6 q6 S6 M6 H6 G6 rfl W7 1 rfl (Nat.le_of_ble_eq_true rfl)
  refine own_go st7 ?_
  have K7 : Keep h0 h7 [] := K4.wr W7 (Or.inr (Nat.le_of_eq g1.symm))
  have hk := Nat.le_trans hk (Keep.of_wr W7).1
  have O7 := O4.wr W7 (Nat.le_trans Z0 (Nat.le_of_eq g1.symm))
  have N7 := Fr.snoc X7 N4 (Nat.le_trans Z0 (Nat.le_of_eq g1.symm))
  refine own_go (A := T7.setTop (mkF m 19 #[.val (.int p1), .unset, .unset, .unset, .unset, .unset, .unset] [(.int (2 : Int32)), (.ref b1), (.ref b1)])) (fun t_ k_ => ?_) ?_
  · show Steps p.tables e below (T7.setTop (mkF m 17 #[.val (.int p1), .unset, .unset, .unset, .unset, .unset, .unset] [(.ref b1)])) t_
    refine XS.dup X7.here hx rfl (hb hby at_17) rfl rfl ?_
    show Steps p.tables e below (T7.setTop (mkF m 18 #[.val (.int p1), .unset, .unset, .unset, .unset, .unset, .unset] [(.ref b1), (.ref b1)])) t_
    refine XS.iconst X7.here hx rfl (hb hby at_18) ?_
    exact k_
  obtain ⟨T8, X8, e8, st8⟩ := getS2 X7 hx hZ hown (host := "") (Or.inl (own_w hw 8 rfl)) Via.refl e7 (u14.ext O7.2) (g := (mkF m 19 #[.val (.int p1), .unset, .unset, .unset, .unset, .unset, .unset] [(.int (2 : Int32)), (.ref b1), (.ref b1)])) rfl (hb hby at_19)
  refine own_go st8 ?_
  obtain ⟨cl9, Ar9, q9, S9, M9, H9, G9⟩ := id B7
  have hin9 : ¬ ((2 : Int32) < 0 ∨ cl9.slots.size ≤ ((2 : Int32)).toNatClampNeg) := inb_of S9 ⟨by decide, by decide⟩
  obtain ⟨T10, h10, X10, e10, W10, st10⟩ := stR X8 hx hZ e8 Ar9 (j := (2 : Int32)) hin9 rfl (Sto.ofV Ar9 q9 V1 (Ins.self (u15.ext O7.2))) (g := (mkF m 22 #[.val (.int p1), .unset, .unset, .unset, .unset, .unset, .unset] [(.ref ad2), (.int (2 : Int32)), (.ref b1), (.ref b1)])) rfl rfl (hb hby at_22)
  have B10 : Arv Z h10 b1 k1 (.object "com/example/querent/querent/dicom/Vr") (34 : Int32) [(.ref ad0), (.ref ad1), (.ref ad2), .null, .null, .null, .null, .null, .null, .null, .null, .null, .null, .null, .null, .null, .null, .null, .null, .null, .null, .null, .null, .null, .null, .null, .null, .null, .null, .null, .null, .null, .null, .null] .null := Arv.set Ar9 q9 S9 M9 H9 G9 rfl W10 2 rfl (Nat.le_of_ble_eq_true rfl)
  refine own_go st10 ?_
  have K10 : Keep h0 h10 [] := K7.wr W10 (Or.inr (Nat.le_of_eq g1.symm))
  have hk := Nat.le_trans hk (Keep.of_wr W10).1
  have O10 := O7.wr W10 (Nat.le_trans Z0 (Nat.le_of_eq g1.symm))
  have N10 := Fr.snoc X10 N7 (Nat.le_trans Z0 (Nat.le_of_eq g1.symm))
  refine own_go (A := T10.setTop (mkF m 25 #[.val (.int p1), .unset, .unset, .unset, .unset, .unset, .unset] [(.int (3 : Int32)), (.ref b1), (.ref b1)])) (fun t_ k_ => ?_) ?_
  · show Steps p.tables e below (T10.setTop (mkF m 23 #[.val (.int p1), .unset, .unset, .unset, .unset, .unset, .unset] [(.ref b1)])) t_
    refine XS.dup X10.here hx rfl (hb hby at_23) rfl rfl ?_
    show Steps p.tables e below (T10.setTop (mkF m 24 #[.val (.int p1), .unset, .unset, .unset, .unset, .unset, .unset] [(.ref b1), (.ref b1)])) t_
    refine XS.iconst X10.here hx rfl (hb hby at_24) ?_
    exact k_
  obtain ⟨T11, X11, e11, st11⟩ := getS2 X10 hx hZ hown (host := "") (Or.inl (own_w hw 10 rfl)) Via.refl e10 (u17.ext O10.2) (g := (mkF m 25 #[.val (.int p1), .unset, .unset, .unset, .unset, .unset, .unset] [(.int (3 : Int32)), (.ref b1), (.ref b1)])) rfl (hb hby at_25)
  refine own_go st11 ?_
  obtain ⟨cl12, Ar12, q12, S12, M12, H12, G12⟩ := id B10
  have hin12 : ¬ ((3 : Int32) < 0 ∨ cl12.slots.size ≤ ((3 : Int32)).toNatClampNeg) := inb_of S12 ⟨by decide, by decide⟩
  obtain ⟨T13, h13, X13, e13, W13, st13⟩ := stR X11 hx hZ e11 Ar12 (j := (3 : Int32)) hin12 rfl (Sto.ofV Ar12 q12 V1 (Ins.self (u18.ext O10.2))) (g := (mkF m 28 #[.val (.int p1), .unset, .unset, .unset, .unset, .unset, .unset] [(.ref ad3), (.int (3 : Int32)), (.ref b1), (.ref b1)])) rfl rfl (hb hby at_28)
  have B13 : Arv Z h13 b1 k1 (.object "com/example/querent/querent/dicom/Vr") (34 : Int32) [(.ref ad0), (.ref ad1), (.ref ad2), (.ref ad3), .null, .null, .null, .null, .null, .null, .null, .null, .null, .null, .null, .null, .null, .null, .null, .null, .null, .null, .null, .null, .null, .null, .null, .null, .null, .null, .null, .null, .null, .null] .null := Arv.set Ar12 q12 S12 M12 H12 G12 rfl W13 3 rfl (Nat.le_of_ble_eq_true rfl)
  refine own_go st13 ?_
  have K13 : Keep h0 h13 [] := K10.wr W13 (Or.inr (Nat.le_of_eq g1.symm))
  have hk := Nat.le_trans hk (Keep.of_wr W13).1
  have O13 := O10.wr W13 (Nat.le_trans Z0 (Nat.le_of_eq g1.symm))
  have N13 := Fr.snoc X13 N10 (Nat.le_trans Z0 (Nat.le_of_eq g1.symm))
  refine own_go (A := T13.setTop (mkF m 31 #[.val (.int p1), .unset, .unset, .unset, .unset, .unset, .unset] [(.int (4 : Int32)), (.ref b1), (.ref b1)])) (fun t_ k_ => ?_) ?_
  · show Steps p.tables e below (T13.setTop (mkF m 29 #[.val (.int p1), .unset, .unset, .unset, .unset, .unset, .unset] [(.ref b1)])) t_
    refine XS.dup X13.here hx rfl (hb hby at_29) rfl rfl ?_
    show Steps p.tables e below (T13.setTop (mkF m 30 #[.val (.int p1), .unset, .unset, .unset, .unset, .unset, .unset] [(.ref b1), (.ref b1)])) t_
    refine XS.iconst X13.here hx rfl (hb hby at_30) ?_
    exact k_
  obtain ⟨T14, X14, e14, st14⟩ := getS2 X13 hx hZ hown (host := "") (Or.inl (own_w hw 12 rfl)) Via.refl e13 (u20.ext O13.2) (g := (mkF m 31 #[.val (.int p1), .unset, .unset, .unset, .unset, .unset, .unset] [(.int (4 : Int32)), (.ref b1), (.ref b1)])) rfl (hb hby at_31)
  refine own_go st14 ?_
  obtain ⟨cl15, Ar15, q15, S15, M15, H15, G15⟩ := id B13
  have hin15 : ¬ ((4 : Int32) < 0 ∨ cl15.slots.size ≤ ((4 : Int32)).toNatClampNeg) := inb_of S15 ⟨by decide, by decide⟩
  obtain ⟨T16, h16, X16, e16, W16, st16⟩ := stR X14 hx hZ e14 Ar15 (j := (4 : Int32)) hin15 rfl (Sto.ofV Ar15 q15 V1 (Ins.self (u21.ext O13.2))) (g := (mkF m 34 #[.val (.int p1), .unset, .unset, .unset, .unset, .unset, .unset] [(.ref ad4), (.int (4 : Int32)), (.ref b1), (.ref b1)])) rfl rfl (hb hby at_34)
  have B16 : Arv Z h16 b1 k1 (.object "com/example/querent/querent/dicom/Vr") (34 : Int32) [(.ref ad0), (.ref ad1), (.ref ad2), (.ref ad3), (.ref ad4), .null, .null, .null, .null, .null, .null, .null, .null, .null, .null, .null, .null, .null, .null, .null, .null, .null, .null, .null, .null, .null, .null, .null, .null, .null, .null, .null, .null, .null] .null := Arv.set Ar15 q15 S15 M15 H15 G15 rfl W16 4 rfl (Nat.le_of_ble_eq_true rfl)
  refine own_go st16 ?_
  have K16 : Keep h0 h16 [] := K13.wr W16 (Or.inr (Nat.le_of_eq g1.symm))
  have hk := Nat.le_trans hk (Keep.of_wr W16).1
  have O16 := O13.wr W16 (Nat.le_trans Z0 (Nat.le_of_eq g1.symm))
  have N16 := Fr.snoc X16 N13 (Nat.le_trans Z0 (Nat.le_of_eq g1.symm))
  refine own_go (A := T16.setTop (mkF m 37 #[.val (.int p1), .unset, .unset, .unset, .unset, .unset, .unset] [(.int (5 : Int32)), (.ref b1), (.ref b1)])) (fun t_ k_ => ?_) ?_
  · show Steps p.tables e below (T16.setTop (mkF m 35 #[.val (.int p1), .unset, .unset, .unset, .unset, .unset, .unset] [(.ref b1)])) t_
    refine XS.dup X16.here hx rfl (hb hby at_35) rfl rfl ?_
    show Steps p.tables e below (T16.setTop (mkF m 36 #[.val (.int p1), .unset, .unset, .unset, .unset, .unset, .unset] [(.ref b1), (.ref b1)])) t_
    refine XS.iconst X16.here hx rfl (hb hby at_36) ?_
    exact k_
  obtain ⟨T17, X17, e17, st17⟩ := getS2 X16 hx hZ hown (host := "") (Or.inl (own_w hw 14 rfl)) Via.refl e16 (u23.ext O16.2) (g := (mkF m 37 #[.val (.int p1), .unset, .unset, .unset, .unset, .unset, .unset] [(.int (5 : Int32)), (.ref b1), (.ref b1)])) rfl (hb hby at_37)
  refine own_go st17 ?_
  obtain ⟨cl18, Ar18, q18, S18, M18, H18, G18⟩ := id B16
  have hin18 : ¬ ((5 : Int32) < 0 ∨ cl18.slots.size ≤ ((5 : Int32)).toNatClampNeg) := inb_of S18 ⟨by decide, by decide⟩
  obtain ⟨T19, h19, X19, e19, W19, st19⟩ := stR X17 hx hZ e17 Ar18 (j := (5 : Int32)) hin18 rfl (Sto.ofV Ar18 q18 V1 (Ins.self (u24.ext O16.2))) (g := (mkF m 40 #[.val (.int p1), .unset, .unset, .unset, .unset, .unset, .unset] [(.ref ad5), (.int (5 : Int32)), (.ref b1), (.ref b1)])) rfl rfl (hb hby at_40)
  have B19 : Arv Z h19 b1 k1 (.object "com/example/querent/querent/dicom/Vr") (34 : Int32) [(.ref ad0), (.ref ad1), (.ref ad2), (.ref ad3), (.ref ad4), (.ref ad5), .null, .null, .null, .null, .null, .null, .null, .null, .null, .null, .null, .null, .null, .null, .null, .null, .null, .null, .null, .null, .null, .null, .null, .null, .null, .null, .null, .null] .null := Arv.set Ar18 q18 S18 M18 H18 G18 rfl W19 5 rfl (Nat.le_of_ble_eq_true rfl)
  refine own_go st19 ?_
  have K19 : Keep h0 h19 [] := K16.wr W19 (Or.inr (Nat.le_of_eq g1.symm))
  have hk := Nat.le_trans hk (Keep.of_wr W19).1
  have O19 := O16.wr W19 (Nat.le_trans Z0 (Nat.le_of_eq g1.symm))
  have N19 := Fr.snoc X19 N16 (Nat.le_trans Z0 (Nat.le_of_eq g1.symm))
  refine own_go (A := T19.setTop (mkF m 44 #[.val (.int p1), .unset, .unset, .unset, .unset, .unset, .unset] [(.int (6 : Int32)), (.ref b1), (.ref b1)])) (fun t_ k_ => ?_) ?_
  · show Steps p.tables e below (T19.setTop (mkF m 41 #[.val (.int p1), .unset, .unset, .unset, .unset, .unset, .unset] [(.ref b1)])) t_
    refine XS.dup X19.here hx rfl (hb hby at_41) rfl rfl ?_
    show Steps p.tables e below (T19.setTop (mkF m 42 #[.val (.int p1), .unset, .unset, .unset, .unset, .unset, .unset] [(.ref b1), (.ref b1)])) t_
    refine XS.bipush X19.here hx rfl (hb hby at_42) ?_
    exact k_
  obtain ⟨T20, X20, e20, st20⟩ := getS2 X19 hx hZ hown (host := "") (Or.inl (own_w hw 16 rfl)) Via.refl e19 (u26.ext O19.2) (g := (mkF m 44 #[.val (.int p1), .unset, .unset, .unset, .unset, .unset, .unset] [(.int (6 : Int32)), (.ref b1), (.ref b1)])) rfl (hb hby at_44)
  refine own_go st20 ?_
  obtain ⟨cl21, Ar21, q21, S21, M21, H21, G21⟩ := id B19
  have hin21 : ¬ ((6 : Int32) < 0 ∨ cl21.slots.size ≤ ((6 : Int32)).toNatClampNeg) := inb_of S21 ⟨by decide, by decide⟩
  obtain ⟨T22, h22, X22, e22, W22, st22⟩ := stR X20 hx hZ e20 Ar21 (j := (6 : Int32)) hin21 rfl (Sto.ofV Ar21 q21 V1 (Ins.self (u27.ext O19.2))) (g := (mkF m 47 #[.val (.int p1), .unset, .unset, .unset, .unset, .unset, .unset] [(.ref ad6), (.int (6 : Int32)), (.ref b1), (.ref b1)])) rfl rfl (hb hby at_47)
  have B22 : Arv Z h22 b1 k1 (.object "com/example/querent/querent/dicom/Vr") (34 : Int32) [(.ref ad0), (.ref ad1), (.ref ad2), (.ref ad3), (.ref ad4), (.ref ad5), (.ref ad6), .null, .null, .null, .null, .null, .null, .null, .null, .null, .null, .null, .null, .null, .null, .null, .null, .null, .null, .null, .null, .null, .null, .null, .null, .null, .null, .null] .null := Arv.set Ar21 q21 S21 M21 H21 G21 rfl W22 6 rfl (Nat.le_of_ble_eq_true rfl)
  refine own_go st22 ?_
  have K22 : Keep h0 h22 [] := K19.wr W22 (Or.inr (Nat.le_of_eq g1.symm))
  have hk := Nat.le_trans hk (Keep.of_wr W22).1
  have O22 := O19.wr W22 (Nat.le_trans Z0 (Nat.le_of_eq g1.symm))
  have N22 := Fr.snoc X22 N19 (Nat.le_trans Z0 (Nat.le_of_eq g1.symm))
  refine own_go (A := T22.setTop (mkF m 51 #[.val (.int p1), .unset, .unset, .unset, .unset, .unset, .unset] [(.int (7 : Int32)), (.ref b1), (.ref b1)])) (fun t_ k_ => ?_) ?_
  · show Steps p.tables e below (T22.setTop (mkF m 48 #[.val (.int p1), .unset, .unset, .unset, .unset, .unset, .unset] [(.ref b1)])) t_
    refine XS.dup X22.here hx rfl (hb hby at_48) rfl rfl ?_
    show Steps p.tables e below (T22.setTop (mkF m 49 #[.val (.int p1), .unset, .unset, .unset, .unset, .unset, .unset] [(.ref b1), (.ref b1)])) t_
    refine XS.bipush X22.here hx rfl (hb hby at_49) ?_
    exact k_
  obtain ⟨T23, X23, e23, st23⟩ := getS2 X22 hx hZ hown (host := "") (Or.inl (own_w hw 18 rfl)) Via.refl e22 (u29.ext O22.2) (g := (mkF m 51 #[.val (.int p1), .unset, .unset, .unset, .unset, .unset, .unset] [(.int (7 : Int32)), (.ref b1), (.ref b1)])) rfl (hb hby at_51)
  refine own_go st23 ?_
  obtain ⟨cl24, Ar24, q24, S24, M24, H24, G24⟩ := id B22
  have hin24 : ¬ ((7 : Int32) < 0 ∨ cl24.slots.size ≤ ((7 : Int32)).toNatClampNeg) := inb_of S24 ⟨by decide, by decide⟩
  obtain ⟨T25, h25, X25, e25, W25, st25⟩ := stR X23 hx hZ e23 Ar24 (j := (7 : Int32)) hin24 rfl (Sto.ofV Ar24 q24 V1 (Ins.self (u30.ext O22.2))) (g := (mkF m 54 #[.val (.int p1), .unset, .unset, .unset, .unset, .unset, .unset] [(.ref ad7), (.int (7 : Int32)), (.ref b1), (.ref b1)])) rfl rfl (hb hby at_54)
  have B25 : Arv Z h25 b1 k1 (.object "com/example/querent/querent/dicom/Vr") (34 : Int32) [(.ref ad0), (.ref ad1), (.ref ad2), (.ref ad3), (.ref ad4), (.ref ad5), (.ref ad6), (.ref ad7), .null, .null, .null, .null, .null, .null, .null, .null, .null, .null, .null, .null, .null, .null, .null, .null, .null, .null, .null, .null, .null, .null, .null, .null, .null, .null] .null := Arv.set Ar24 q24 S24 M24 H24 G24 rfl W25 7 rfl (Nat.le_of_ble_eq_true rfl)
  refine own_go st25 ?_
  have K25 : Keep h0 h25 [] := K22.wr W25 (Or.inr (Nat.le_of_eq g1.symm))
  have hk := Nat.le_trans hk (Keep.of_wr W25).1
  have O25 := O22.wr W25 (Nat.le_trans Z0 (Nat.le_of_eq g1.symm))
  have N25 := Fr.snoc X25 N22 (Nat.le_trans Z0 (Nat.le_of_eq g1.symm))
  refine own_go (A := T25.setTop (mkF m 58 #[.val (.int p1), .unset, .unset, .unset, .unset, .unset, .unset] [(.int (8 : Int32)), (.ref b1), (.ref b1)])) (fun t_ k_ => ?_) ?_
  · show Steps p.tables e below (T25.setTop (mkF m 55 #[.val (.int p1), .unset, .unset, .unset, .unset, .unset, .unset] [(.ref b1)])) t_
    refine XS.dup X25.here hx rfl (hb hby at_55) rfl rfl ?_
    show Steps p.tables e below (T25.setTop (mkF m 56 #[.val (.int p1), .unset, .unset, .unset, .unset, .unset, .unset] [(.ref b1), (.ref b1)])) t_
    refine XS.bipush X25.here hx rfl (hb hby at_56) ?_
    exact k_
  obtain ⟨T26, X26, e26, st26⟩ := getS2 X25 hx hZ hown (host := "") (Or.inl (own_w hw 20 rfl)) Via.refl e25 (u32.ext O25.2) (g := (mkF m 58 #[.val (.int p1), .unset, .unset, .unset, .unset, .unset, .unset] [(.int (8 : Int32)), (.ref b1), (.ref b1)])) rfl (hb hby at_58)
  refine own_go st26 ?_
  obtain ⟨cl27, Ar27, q27, S27, M27, H27, G27⟩ := id B25
  have hin27 : ¬ ((8 : Int32) < 0 ∨ cl27.slots.size ≤ ((8 : Int32)).toNatClampNeg) := inb_of S27 ⟨by decide, by decide⟩
  obtain ⟨T28, h28, X28, e28, W28, st28⟩ := stR X26 hx hZ e26 Ar27 (j := (8 : Int32)) hin27 rfl (Sto.ofV Ar27 q27 V1 (Ins.self (u33.ext O25.2))) (g := (mkF m 61 #[.val (.int p1), .unset, .unset, .unset, .unset, .unset, .unset] [(.ref ad8), (.int (8 : Int32)), (.ref b1), (.ref b1)])) rfl rfl (hb hby at_61)
  have B28 : Arv Z h28 b1 k1 (.object "com/example/querent/querent/dicom/Vr") (34 : Int32) [(.ref ad0), (.ref ad1), (.ref ad2), (.ref ad3), (.ref ad4), (.ref ad5), (.ref ad6), (.ref ad7), (.ref ad8), .null, .null, .null, .null, .null, .null, .null, .null, .null, .null, .null, .null, .null, .null, .null, .null, .null, .null, .null, .null, .null, .null, .null, .null, .null] .null := Arv.set Ar27 q27 S27 M27 H27 G27 rfl W28 8 rfl (Nat.le_of_ble_eq_true rfl)
  refine own_go st28 ?_
  have K28 : Keep h0 h28 [] := K25.wr W28 (Or.inr (Nat.le_of_eq g1.symm))
  have hk := Nat.le_trans hk (Keep.of_wr W28).1
  have O28 := O25.wr W28 (Nat.le_trans Z0 (Nat.le_of_eq g1.symm))
  have N28 := Fr.snoc X28 N25 (Nat.le_trans Z0 (Nat.le_of_eq g1.symm))
  refine own_go (A := T28.setTop (mkF m 65 #[.val (.int p1), .unset, .unset, .unset, .unset, .unset, .unset] [(.int (9 : Int32)), (.ref b1), (.ref b1)])) (fun t_ k_ => ?_) ?_
  · show Steps p.tables e below (T28.setTop (mkF m 62 #[.val (.int p1), .unset, .unset, .unset, .unset, .unset, .unset] [(.ref b1)])) t_
    refine XS.dup X28.here hx rfl (hb hby at_62) rfl rfl ?_
    show Steps p.tables e below (T28.setTop (mkF m 63 #[.val (.int p1), .unset, .unset, .unset, .unset, .unset, .unset] [(.ref b1), (.ref b1)])) t_
    refine XS.bipush X28.here hx rfl (hb hby at_63) ?_
    exact k_
  obtain ⟨T29, X29, e29, st29⟩ := getS2 X28 hx hZ hown (host := "") (Or.inl (own_w hw 22 rfl)) Via.refl e28 (u35.ext O28.2) (g := (mkF m 65 #[.val (.int p1), .unset, .unset, .unset, .unset, .unset, .unset] [(.int (9 : Int32)), (.ref b1), (.ref b1)])) rfl (hb hby at_65)
  refine own_go st29 ?_
  obtain ⟨cl30, Ar30, q30, S30, M30, H30, G30⟩ := id B28
  have hin30 : ¬ ((9 : Int32) < 0 ∨ cl30.slots.size ≤ ((9 : Int32)).toNatClampNeg) := inb_of S30 ⟨by decide, by decide⟩
  obtain ⟨T31, h31, X31, e31, W31, st31⟩ := stR X29 hx hZ e29 Ar30 (j := (9 : Int32)) hin30 rfl (Sto.ofV Ar30 q30 V1 (Ins.self (u36.ext O28.2))) (g := (mkF m 68 #[.val (.int p1), .unset, .unset, .unset, .unset, .unset, .unset] [(.ref ad9), (.int (9 : Int32)), (.ref b1), (.ref b1)])) rfl rfl (hb hby at_68)
  have B31 : Arv Z h31 b1 k1 (.object "com/example/querent/querent/dicom/Vr") (34 : Int32) [(.ref ad0), (.ref ad1), (.ref ad2), (.ref ad3), (.ref ad4), (.ref ad5), (.ref ad6), (.ref ad7), (.ref ad8), (.ref ad9), .null, .null, .null, .null, .null, .null, .null, .null, .null, .null, .null, .null, .null, .null, .null, .null, .null, .null, .null, .null, .null, .null, .null, .null] .null := Arv.set Ar30 q30 S30 M30 H30 G30 rfl W31 9 rfl (Nat.le_of_ble_eq_true rfl)
  refine own_go st31 ?_
  have K31 : Keep h0 h31 [] := K28.wr W31 (Or.inr (Nat.le_of_eq g1.symm))
  have hk := Nat.le_trans hk (Keep.of_wr W31).1
  have O31 := O28.wr W31 (Nat.le_trans Z0 (Nat.le_of_eq g1.symm))
  have N31 := Fr.snoc X31 N28 (Nat.le_trans Z0 (Nat.le_of_eq g1.symm))
  refine own_go (A := T31.setTop (mkF m 72 #[.val (.int p1), .unset, .unset, .unset, .unset, .unset, .unset] [(.int (10 : Int32)), (.ref b1), (.ref b1)])) (fun t_ k_ => ?_) ?_
  · show Steps p.tables e below (T31.setTop (mkF m 69 #[.val (.int p1), .unset, .unset, .unset, .unset, .unset, .unset] [(.ref b1)])) t_
    refine XS.dup X31.here hx rfl (hb hby at_69) rfl rfl ?_
    show Steps p.tables e below (T31.setTop (mkF m 70 #[.val (.int p1), .unset, .unset, .unset, .unset, .unset, .unset] [(.ref b1), (.ref b1)])) t_
    refine XS.bipush X31.here hx rfl (hb hby at_70) ?_
    exact k_
  obtain ⟨T32, X32, e32, st32⟩ := getS2 X31 hx hZ hown (host := "") (Or.inl (own_w hw 24 rfl)) Via.refl e31 (u38.ext O31.2) (g := (mkF m 72 #[.val (.int p1), .unset, .unset, .unset, .unset, .unset, .unset] [(.int (10 : Int32)), (.ref b1), (.ref b1)])) rfl (hb hby at_72)
  refine own_go st32 ?_
  obtain ⟨cl33, Ar33, q33, S33, M33, H33, G33⟩ := id B31
  have hin33 : ¬ ((10 : Int32) < 0 ∨ cl33.slots.size ≤ ((10 : Int32)).toNatClampNeg) := inb_of S33 ⟨by decide, by decide⟩
  obtain ⟨T34, h34, X34, e34, W34, st34⟩ := stR X32 hx hZ e32 Ar33 (j := (10 : Int32)) hin33 rfl (Sto.ofV Ar33 q33 V1 (Ins.self (u39.ext O31.2))) (g := (mkF m 75 #[.val (.int p1), .unset, .unset, .unset, .unset, .unset, .unset] [(.ref ad10), (.int (10 : Int32)), (.ref b1), (.ref b1)])) rfl rfl (hb hby at_75)
  have B34 : Arv Z h34 b1 k1 (.object "com/example/querent/querent/dicom/Vr") (34 : Int32) [(.ref ad0), (.ref ad1), (.ref ad2), (.ref ad3), (.ref ad4), (.ref ad5), (.ref ad6), (.ref ad7), (.ref ad8), (.ref ad9), (.ref ad10), .null, .null, .null, .null, .null, .null, .null, .null, .null, .null, .null, .null, .null, .null, .null, .null, .null, .null, .null, .null, .null, .null, .null] .null := Arv.set Ar33 q33 S33 M33 H33 G33 rfl W34 10 rfl (Nat.le_of_ble_eq_true rfl)
  refine own_go st34 ?_
  have K34 : Keep h0 h34 [] := K31.wr W34 (Or.inr (Nat.le_of_eq g1.symm))
  have hk := Nat.le_trans hk (Keep.of_wr W34).1
  have O34 := O31.wr W34 (Nat.le_trans Z0 (Nat.le_of_eq g1.symm))
  have N34 := Fr.snoc X34 N31 (Nat.le_trans Z0 (Nat.le_of_eq g1.symm))
  refine own_go (A := T34.setTop (mkF m 79 #[.val (.int p1), .unset, .unset, .unset, .unset, .unset, .unset] [(.int (11 : Int32)), (.ref b1), (.ref b1)])) (fun t_ k_ => ?_) ?_
  · show Steps p.tables e below (T34.setTop (mkF m 76 #[.val (.int p1), .unset, .unset, .unset, .unset, .unset, .unset] [(.ref b1)])) t_
    refine XS.dup X34.here hx rfl (hb hby at_76) rfl rfl ?_
    show Steps p.tables e below (T34.setTop (mkF m 77 #[.val (.int p1), .unset, .unset, .unset, .unset, .unset, .unset] [(.ref b1), (.ref b1)])) t_
    refine XS.bipush X34.here hx rfl (hb hby at_77) ?_
    exact k_
  obtain ⟨T35, X35, e35, st35⟩ := getS2 X34 hx hZ hown (host := "") (Or.inl (own_w hw 26 rfl)) Via.refl e34 (u41.ext O34.2) (g := (mkF m 79 #[.val (.int p1), .unset, .unset, .unset, .unset, .unset, .unset] [(.int (11 : Int32)), (.ref b1), (.ref b1)])) rfl (hb hby at_79)
  refine own_go st35 ?_
  obtain ⟨cl36, Ar36, q36, S36, M36, H36, G36⟩ := id B34
  have hin36 : ¬ ((11 : Int32) < 0 ∨ cl36.slots.size ≤ ((11 : Int32)).toNatClampNeg) := inb_of S36 ⟨by decide, by decide⟩
  obtain ⟨T37, h37, X37, e37, W37, st37⟩ := stR X35 hx hZ e35 Ar36 (j := (11 : Int32)) hin36 rfl (Sto.ofV Ar36 q36 V1 (Ins.self (u42.ext O34.2))) (g := (mkF m 82 #[.val (.int p1), .unset, .unset, .unset, .unset, .unset, .unset] [(.ref ad11), (.int (11 : Int32)), (.ref b1), (.ref b1)])) rfl rfl (hb hby at_82)
  have B37 : Arv Z h37 b1 k1 (.object "com/example/querent/querent/dicom/Vr") (34 : Int32) [(.ref ad0), (.ref ad1), (.ref ad2), (.ref ad3), (.ref ad4), (.ref ad5), (.ref ad6), (.ref ad7), (.ref ad8), (.ref ad9), (.ref ad10), (.ref ad11), .null, .null, .null, .null, .null, .null, .null, .null, .null, .null, .null, .null, .null, .null, .null, .null, .null, .null, .null, .null, .null, .null] .null := Arv.set Ar36 q36 S36 M36 H36 G36 rfl W37 11 rfl (Nat.le_of_ble_eq_true rfl)
  refine own_go st37 ?_
  have K37 : Keep h0 h37 [] := K34.wr W37 (Or.inr (Nat.le_of_eq g1.symm))
  have hk := Nat.le_trans hk (Keep.of_wr W37).1
  have O37 := O34.wr W37 (Nat.le_trans Z0 (Nat.le_of_eq g1.symm))
  have N37 := Fr.snoc X37 N34 (Nat.le_trans Z0 (Nat.le_of_eq g1.symm))
  refine own_go (A := T37.setTop (mkF m 86 #[.val (.int p1), .unset, .unset, .unset, .unset, .unset, .unset] [(.int (12 : Int32)), (.ref b1), (.ref b1)])) (fun t_ k_ => ?_) ?_
  · show Steps p.tables e below (T37.setTop (mkF m 83 #[.val (.int p1), .unset, .unset, .unset, .unset, .unset, .unset] [(.ref b1)])) t_
    refine XS.dup X37.here hx rfl (hb hby at_83) rfl rfl ?_
    show Steps p.tables e below (T37.setTop (mkF m 84 #[.val (.int p1), .unset, .unset, .unset, .unset, .unset, .unset] [(.ref b1), (.ref b1)])) t_
    refine XS.bipush X37.here hx rfl (hb hby at_84) ?_
    exact k_
  obtain ⟨T38, X38, e38, st38⟩ := getS2 X37 hx hZ hown (host := "") (Or.inl (own_w hw 28 rfl)) Via.refl e37 (u44.ext O37.2) (g := (mkF m 86 #[.val (.int p1), .unset, .unset, .unset, .unset, .unset, .unset] [(.int (12 : Int32)), (.ref b1), (.ref b1)])) rfl (hb hby at_86)
  refine own_go st38 ?_
  obtain ⟨cl39, Ar39, q39, S39, M39, H39, G39⟩ := id B37
  have hin39 : ¬ ((12 : Int32) < 0 ∨ cl39.slots.size ≤ ((12 : Int32)).toNatClampNeg) := inb_of S39 ⟨by decide, by decide⟩
  obtain ⟨T40, h40, X40, e40, W40, st40⟩ := stR X38 hx hZ e38 Ar39 (j := (12 : Int32)) hin39 rfl (Sto.ofV Ar39 q39 V1 (Ins.self (u45.ext O37.2))) (g := (mkF m 89 #[.val (.int p1), .unset, .unset, .unset, .unset, .unset, .unset] [(.ref ad12), (.int (12 : Int32)), (.ref b1), (.ref b1)])) rfl rfl (hb hby at_89)
  have B40 : Arv Z h40 b1 k1 (.object "com/example/querent/querent/dicom/Vr") (34 : Int32) [(.ref ad0), (.ref ad1), (.ref ad2), (.ref ad3), (.ref ad4), (.ref ad5), (.ref ad6), (.ref ad7), (.ref ad8), (.ref ad9), (.ref ad10), (.ref ad11), (.ref ad12), .null, .null, .null, .null, .null, .null, .null, .null, .null, .null, .null, .null, .null, .null, .null, .null, .null, .null, .null, .null, .null] .null := Arv.set Ar39 q39 S39 M39 H39 G39 rfl W40 12 rfl (Nat.le_of_ble_eq_true rfl)
  refine own_go st40 ?_
  have K40 : Keep h0 h40 [] := K37.wr W40 (Or.inr (Nat.le_of_eq g1.symm))
  have hk := Nat.le_trans hk (Keep.of_wr W40).1
  have O40 := O37.wr W40 (Nat.le_trans Z0 (Nat.le_of_eq g1.symm))
  have N40 := Fr.snoc X40 N37 (Nat.le_trans Z0 (Nat.le_of_eq g1.symm))
  refine own_go (A := T40.setTop (mkF m 93 #[.val (.int p1), .unset, .unset, .unset, .unset, .unset, .unset] [(.int (13 : Int32)), (.ref b1), (.ref b1)])) (fun t_ k_ => ?_) ?_
  · show Steps p.tables e below (T40.setTop (mkF m 90 #[.val (.int p1), .unset, .unset, .unset, .unset, .unset, .unset] [(.ref b1)])) t_
    refine XS.dup X40.here hx rfl (hb hby at_90) rfl rfl ?_
    show Steps p.tables e below (T40.setTop (mkF m 91 #[.val (.int p1), .unset, .unset, .unset, .unset, .unset, .unset] [(.ref b1), (.ref b1)])) t_
    refine XS.bipush X40.here hx rfl (hb hby at_91) ?_
    exact k_
  obtain ⟨T41, X41, e41, st41⟩ := getS2 X40 hx hZ hown (host := "") (Or.inl (own_w hw 30 rfl)) Via.refl e40 (u47.ext O40.2) (g := (mkF m 93 #[.val (.int p1), .unset, .unset, .unset, .unset, .unset, .unset] [(.int (13 : Int32)), (.ref b1), (.ref b1)])) rfl (hb hby at_93)
  refine own_go st41 ?_
  obtain ⟨cl42, Ar42, q42, S42, M42, H42, G42⟩ := id B40
  have hin42 : ¬ ((13 : Int32) < 0 ∨ cl42.slots.size ≤ ((13 : Int32)).toNatClampNeg) := inb_of S42 ⟨by decide, by decide⟩
  obtain ⟨T43, h43, X43, e43, W43, st43⟩ := stR X41 hx hZ e41 Ar42 (j := (13 : Int32)) hin42 rfl (Sto.ofV Ar42 q42 V1 (Ins.self (u48.ext O40.2))) (g := (mkF m 96 #[.val (.int p1), .unset, .unset, .unset, .unset, .unset, .unset] [(.ref ad13), (.int (13 : Int32)), (.ref b1), (.ref b1)])) rfl rfl (hb hby at_96)
  have B43 : Arv Z h43 b1 k1 (.object "com/example/querent/querent/dicom/Vr") (34 : Int32) [(.ref ad0), (.ref ad1), (.ref ad2), (.ref ad3), (.ref ad4), (.ref ad5), (.ref ad6), (.ref ad7), (.ref ad8), (.ref ad9), (.ref ad10), (.ref ad11), (.ref ad12), (.ref ad13), .null, .null, .null, .null, .null, .null, .null, .null, .null, .null, .null, .null, .null, .null, .null, .null, .null, .null, .null, .null] .null := Arv.set Ar42 q42 S42 M42 H42 G42 rfl W43 13 rfl (Nat.le_of_ble_eq_true rfl)
  refine own_go st43 ?_
  have K43 : Keep h0 h43 [] := K40.wr W43 (Or.inr (Nat.le_of_eq g1.symm))
  have hk := Nat.le_trans hk (Keep.of_wr W43).1
  have O43 := O40.wr W43 (Nat.le_trans Z0 (Nat.le_of_eq g1.symm))
  have N43 := Fr.snoc X43 N40 (Nat.le_trans Z0 (Nat.le_of_eq g1.symm))
  refine own_go (A := T43.setTop (mkF m 100 #[.val (.int p1), .unset, .unset, .unset, .unset, .unset, .unset] [(.int (14 : Int32)), (.ref b1), (.ref b1)])) (fun t_ k_ => ?_) ?_
  · show Steps p.tables e below (T43.setTop (mkF m 97 #[.val (.int p1), .unset, .unset, .unset, .unset, .unset, .unset] [(.ref b1)])) t_
    refine XS.dup X43.here hx rfl (hb hby at_97) rfl rfl ?_
    show Steps p.tables e below (T43.setTop (mkF m 98 #[.val (.int p1), .unset, .unset, .unset, .unset, .unset, .unset] [(.ref b1), (.ref b1)])) t_
    refine XS.bipush X43.here hx rfl (hb hby at_98) ?_
    exact k_
  obtain ⟨T44, X44, e44, st44⟩ := getS2 X43 hx hZ hown (host := "") (Or.inl (own_w hw 32 rfl)) Via.refl e43 (u50.ext O43.2) (g := (mkF m 100 #[.val (.int p1), .unset, .unset, .unset, .unset, .unset, .unset] [(.int (14 : Int32)), (.ref b1), (.ref b1)])) rfl (hb hby at_100)
  refine own_go st44 ?_
  obtain ⟨cl45, Ar45, q45, S45, M45, H45, G45⟩ := id B43
  have hin45 : ¬ ((14 : Int32) < 0 ∨ cl45.slots.size ≤ ((14 : Int32)).toNatClampNeg) := inb_of S45 ⟨by decide, by decide⟩
  obtain ⟨T46, h46, X46, e46, W46, st46⟩ := stR X44 hx hZ e44 Ar45 (j := (14 : Int32)) hin45 rfl (Sto.ofV Ar45 q45 V1 (Ins.self (u51.ext O43.2))) (g := (mkF m 103 #[.val (.int p1), .unset, .unset, .unset, .unset, .unset, .unset] [(.ref ad14), (.int (14 : Int32)), (.ref b1), (.ref b1)])) rfl rfl (hb hby at_103)
  have B46 : Arv Z h46 b1 k1 (.object "com/example/querent/querent/dicom/Vr") (34 : Int32) [(.ref ad0), (.ref ad1), (.ref ad2), (.ref ad3), (.ref ad4), (.ref ad5), (.ref ad6), (.ref ad7), (.ref ad8), (.ref ad9), (.ref ad10), (.ref ad11), (.ref ad12), (.ref ad13), (.ref ad14), .null, .null, .null, .null, .null, .null, .null, .null, .null, .null, .null, .null, .null, .null, .null, .null, .null, .null, .null] .null := Arv.set Ar45 q45 S45 M45 H45 G45 rfl W46 14 rfl (Nat.le_of_ble_eq_true rfl)
  refine own_go st46 ?_
  have K46 : Keep h0 h46 [] := K43.wr W46 (Or.inr (Nat.le_of_eq g1.symm))
  have hk := Nat.le_trans hk (Keep.of_wr W46).1
  have O46 := O43.wr W46 (Nat.le_trans Z0 (Nat.le_of_eq g1.symm))
  have N46 := Fr.snoc X46 N43 (Nat.le_trans Z0 (Nat.le_of_eq g1.symm))
  refine own_go (A := T46.setTop (mkF m 107 #[.val (.int p1), .unset, .unset, .unset, .unset, .unset, .unset] [(.int (15 : Int32)), (.ref b1), (.ref b1)])) (fun t_ k_ => ?_) ?_
  · show Steps p.tables e below (T46.setTop (mkF m 104 #[.val (.int p1), .unset, .unset, .unset, .unset, .unset, .unset] [(.ref b1)])) t_
    refine XS.dup X46.here hx rfl (hb hby at_104) rfl rfl ?_
    show Steps p.tables e below (T46.setTop (mkF m 105 #[.val (.int p1), .unset, .unset, .unset, .unset, .unset, .unset] [(.ref b1), (.ref b1)])) t_
    refine XS.bipush X46.here hx rfl (hb hby at_105) ?_
    exact k_
  obtain ⟨T47, X47, e47, st47⟩ := getS2 X46 hx hZ hown (host := "") (Or.inl (own_w hw 34 rfl)) Via.refl e46 (u53.ext O46.2) (g := (mkF m 107 #[.val (.int p1), .unset, .unset, .unset, .unset, .unset, .unset] [(.int (15 : Int32)), (.ref b1), (.ref b1)])) rfl (hb hby at_107)
  refine own_go st47 ?_
  obtain ⟨cl48, Ar48, q48, S48, M48, H48, G48⟩ := id B46
  have hin48 : ¬ ((15 : Int32) < 0 ∨ cl48.slots.size ≤ ((15 : Int32)).toNatClampNeg) := inb_of S48 ⟨by decide, by decide⟩
  obtain ⟨T49, h49, X49, e49, W49, st49⟩ := stR X47 hx hZ e47 Ar48 (j := (15 : Int32)) hin48 rfl (Sto.ofV Ar48 q48 V1 (Ins.self (u54.ext O46.2))) (g := (mkF m 110 #[.val (.int p1), .unset, .unset, .unset, .unset, .unset, .unset] [(.ref ad15), (.int (15 : Int32)), (.ref b1), (.ref b1)])) rfl rfl (hb hby at_110)
  have B49 : Arv Z h49 b1 k1 (.object "com/example/querent/querent/dicom/Vr") (34 : Int32) [(.ref ad0), (.ref ad1), (.ref ad2), (.ref ad3), (.ref ad4), (.ref ad5), (.ref ad6), (.ref ad7), (.ref ad8), (.ref ad9), (.ref ad10), (.ref ad11), (.ref ad12), (.ref ad13), (.ref ad14), (.ref ad15), .null, .null, .null, .null, .null, .null, .null, .null, .null, .null, .null, .null, .null, .null, .null, .null, .null, .null] .null := Arv.set Ar48 q48 S48 M48 H48 G48 rfl W49 15 rfl (Nat.le_of_ble_eq_true rfl)
  refine own_go st49 ?_
  have K49 : Keep h0 h49 [] := K46.wr W49 (Or.inr (Nat.le_of_eq g1.symm))
  have hk := Nat.le_trans hk (Keep.of_wr W49).1
  have O49 := O46.wr W49 (Nat.le_trans Z0 (Nat.le_of_eq g1.symm))
  have N49 := Fr.snoc X49 N46 (Nat.le_trans Z0 (Nat.le_of_eq g1.symm))
  refine own_go (A := T49.setTop (mkF m 114 #[.val (.int p1), .unset, .unset, .unset, .unset, .unset, .unset] [(.int (16 : Int32)), (.ref b1), (.ref b1)])) (fun t_ k_ => ?_) ?_
  · show Steps p.tables e below (T49.setTop (mkF m 111 #[.val (.int p1), .unset, .unset, .unset, .unset, .unset, .unset] [(.ref b1)])) t_
    refine XS.dup X49.here hx rfl (hb hby at_111) rfl rfl ?_
    show Steps p.tables e below (T49.setTop (mkF m 112 #[.val (.int p1), .unset, .unset, .unset, .unset, .unset, .unset] [(.ref b1), (.ref b1)])) t_
    refine XS.bipush X49.here hx rfl (hb hby at_112) ?_
    exact k_
  obtain ⟨T50, X50, e50, st50⟩ := getS2 X49 hx hZ hown (host := "") (Or.inl (own_w hw 36 rfl)) Via.refl e49 (u56.ext O49.2) (g := (mkF m 114 #[.val (.int p1), .unset, .unset, .unset, .unset, .unset, .unset] [(.int (16 : Int32)), (.ref b1), (.ref b1)])) rfl (hb hby at_114)
  refine own_go st50 ?_
  obtain ⟨cl51, Ar51, q51, S51, M51, H51, G51⟩ := id B49
  have hin51 : ¬ ((16 : Int32) < 0 ∨ cl51.slots.size ≤ ((16 : Int32)).toNatClampNeg) := inb_of S51 ⟨by decide, by decide⟩
  obtain ⟨T52, h52, X52, e52, W52, st52⟩ := stR X50 hx hZ e50 Ar51 (j := (16 : Int32)) hin51 rfl (Sto.ofV Ar51 q51 V1 (Ins.self (u57.ext O49.2))) (g := (mkF m 117 #[.val (.int p1), .unset, .unset, .unset, .unset, .unset, .unset] [(.ref ad16), (.int (16 : Int32)), (.ref b1), (.ref b1)])) rfl rfl (hb hby at_117)
  have B52 : Arv Z h52 b1 k1 (.object "com/example/querent/querent/dicom/Vr") (34 : Int32) [(.ref ad0), (.ref ad1), (.ref ad2), (.ref ad3), (.ref ad4), (.ref ad5), (.ref ad6), (.ref ad7), (.ref ad8), (.ref ad9), (.ref ad10), (.ref ad11), (.ref ad12), (.ref ad13), (.ref ad14), (.ref ad15), (.ref ad16), .null, .null, .null, .null, .null, .null, .null, .null, .null, .null, .null, .null, .null, .null, .null, .null, .null] .null := Arv.set Ar51 q51 S51 M51 H51 G51 rfl W52 16 rfl (Nat.le_of_ble_eq_true rfl)
  refine own_go st52 ?_
  have K52 : Keep h0 h52 [] := K49.wr W52 (Or.inr (Nat.le_of_eq g1.symm))
  have hk := Nat.le_trans hk (Keep.of_wr W52).1
  have O52 := O49.wr W52 (Nat.le_trans Z0 (Nat.le_of_eq g1.symm))
  have N52 := Fr.snoc X52 N49 (Nat.le_trans Z0 (Nat.le_of_eq g1.symm))
  refine own_go (A := T52.setTop (mkF m 121 #[.val (.int p1), .unset, .unset, .unset, .unset, .unset, .unset] [(.int (17 : Int32)), (.ref b1), (.ref b1)])) (fun t_ k_ => ?_) ?_
  · show Steps p.tables e below (T52.setTop (mkF m 118 #[.val (.int p1), .unset, .unset, .unset, .unset, .unset, .unset] [(.ref b1)])) t_
    refine XS.dup X52.here hx rfl (hb hby at_118) rfl rfl ?_
    show Steps p.tables e below (T52.setTop (mkF m 119 #[.val (.int p1), .unset, .unset, .unset, .unset, .unset, .unset] [(.ref b1), (.ref b1)])) t_
    refine XS.bipush X52.here hx rfl (hb hby at_119) ?_
    exact k_
  obtain ⟨T53, X53, e53, st53⟩ := getS2 X52 hx hZ hown (host := "") (Or.inl (own_w hw 38 rfl)) Via.refl e52 (u59.ext O52.2) (g := (mkF m 121 #[.val (.int p1), .unset, .unset, .unset, .unset, .unset, .unset] [(.int (17 : Int32)), (.ref b1), (.ref b1)])) rfl (hb hby at_121)
  refine own_go st53 ?_
  obtain ⟨cl54, Ar54, q54, S54, M54, H54, G54⟩ := id B52
  have hin54 : ¬ ((17 : Int32) < 0 ∨ cl54.slots.size ≤ ((17 : Int32)).toNatClampNeg) := inb_of S54 ⟨by decide, by decide⟩
  obtain ⟨T55, h55, X55, e55, W55, st55⟩ := stR X53 hx hZ e53 Ar54 (j := (17 : Int32)) hin54 rfl (Sto.ofV Ar54 q54 V1 (Ins.self (u60.ext O52.2))) (g := (mkF m 124 #[.val (.int p1), .unset, .unset, .unset, .unset, .unset, .unset] [(.ref ad17), (.int (17 : Int32)), (.ref b1), (.ref b1)])) rfl rfl (hb hby at_124)
  have B55 : Arv Z h55 b1 k1 (.object "com/example/querent/querent/dicom/Vr") (34 : Int32) [(.ref ad0), (.ref ad1), (.ref ad2), (.ref ad3), (.ref ad4), (.ref ad5), (.ref ad6), (.ref ad7), (.ref ad8), (.ref ad9), (.ref ad10), (.ref ad11), (.ref ad12), (.ref ad13), (.ref ad14), (.ref ad15), (.ref ad16), (.ref ad17), .null, .null, .null, .null, .null, .null, .null, .null, .null, .null, .null, .null, .null, .null, .null, .null] .null := Arv.set Ar54 q54 S54 M54 H54 G54 rfl W55 17 rfl (Nat.le_of_ble_eq_true rfl)
  refine own_go st55 ?_
  have K55 : Keep h0 h55 [] := K52.wr W55 (Or.inr (Nat.le_of_eq g1.symm))
  have hk := Nat.le_trans hk (Keep.of_wr W55).1
  have O55 := O52.wr W55 (Nat.le_trans Z0 (Nat.le_of_eq g1.symm))
  have N55 := Fr.snoc X55 N52 (Nat.le_trans Z0 (Nat.le_of_eq g1.symm))
  refine own_go (A := T55.setTop (mkF m 128 #[.val (.int p1), .unset, .unset, .unset, .unset, .unset, .unset] [(.int (18 : Int32)), (.ref b1), (.ref b1)])) (fun t_ k_ => ?_) ?_
  · show Steps p.tables e below (T55.setTop (mkF m 125 #[.val (.int p1), .unset, .unset, .unset, .unset, .unset, .unset] [(.ref b1)])) t_
    refine XS.dup X55.here hx rfl (hb hby at_125) rfl rfl ?_
    show Steps p.tables e below (T55.setTop (mkF m 126 #[.val (.int p1), .unset, .unset, .unset, .unset, .unset, .unset] [(.ref b1), (.ref b1)])) t_
    refine XS.bipush X55.here hx rfl (hb hby at_126) ?_
    exact k_
  obtain ⟨T56, X56, e56, st56⟩ := getS2 X55 hx hZ hown (host := "") (Or.inl (own_w hw 40 rfl)) Via.refl e55 (u62.ext O55.2) (g := (mkF m 128 #[.val (.int p1), .unset, .unset, .unset, .unset, .unset, .unset] [(.int (18 : Int32)), (.ref b1), (.ref b1)])) rfl (hb hby at_128)
  refine own_go st56 ?_
  obtain ⟨cl57, Ar57, q57, S57, M57, H57, G57⟩ := id B55
  have hin57 : ¬ ((18 : Int32) < 0 ∨ cl57.slots.size ≤ ((18 : Int32)).toNatClampNeg) := inb_of S57 ⟨by decide, by decide⟩
  obtain ⟨T58, h58, X58, e58, W58, st58⟩ := stR X56 hx hZ e56 Ar57 (j := (18 : Int32)) hin57 rfl (Sto.ofV Ar57 q57 V1 (Ins.self (u63.ext O55.2))) (g := (mkF m 131 #[.val (.int p1), .unset, .unset, .unset, .unset, .unset, .unset] [(.ref ad18), (.int (18 : Int32)), (.ref b1), (.ref b1)])) rfl rfl (hb hby at_131)
  have B58 : Arv Z h58 b1 k1 (.object "com/example/querent/querent/dicom/Vr") (34 : Int32) [(.ref ad0), (.ref ad1), (.ref ad2), (.ref ad3), (.ref ad4), (.ref ad5), (.ref ad6), (.ref ad7), (.ref ad8), (.ref ad9), (.ref ad10), (.ref ad11), (.ref ad12), (.ref ad13), (.ref ad14), (.ref ad15), (.ref ad16), (.ref ad17), (.ref ad18), .null, .null, .null, .null, .null, .null, .null, .null, .null, .null, .null, .null, .null, .null, .null] .null := Arv.set Ar57 q57 S57 M57 H57 G57 rfl W58 18 rfl (Nat.le_of_ble_eq_true rfl)
  refine own_go st58 ?_
  have K58 : Keep h0 h58 [] := K55.wr W58 (Or.inr (Nat.le_of_eq g1.symm))
  have hk := Nat.le_trans hk (Keep.of_wr W58).1
  have O58 := O55.wr W58 (Nat.le_trans Z0 (Nat.le_of_eq g1.symm))
  have N58 := Fr.snoc X58 N55 (Nat.le_trans Z0 (Nat.le_of_eq g1.symm))
  refine own_go (A := T58.setTop (mkF m 135 #[.val (.int p1), .unset, .unset, .unset, .unset, .unset, .unset] [(.int (19 : Int32)), (.ref b1), (.ref b1)])) (fun t_ k_ => ?_) ?_
  · show Steps p.tables e below (T58.setTop (mkF m 132 #[.val (.int p1), .unset, .unset, .unset, .unset, .unset, .unset] [(.ref b1)])) t_
    refine XS.dup X58.here hx rfl (hb hby at_132) rfl rfl ?_
    show Steps p.tables e below (T58.setTop (mkF m 133 #[.val (.int p1), .unset, .unset, .unset, .unset, .unset, .unset] [(.ref b1), (.ref b1)])) t_
    refine XS.bipush X58.here hx rfl (hb hby at_133) ?_
    exact k_
  obtain ⟨T59, X59, e59, st59⟩ := getS2 X58 hx hZ hown (host := "") (Or.inl (own_w hw 42 rfl)) Via.refl e58 (u65.ext O58.2) (g := (mkF m 135 #[.val (.int p1), .unset, .unset, .unset, .unset, .unset, .unset] [(.int (19 : Int32)), (.ref b1), (.ref b1)])) rfl (hb hby at_135)
  refine own_go st59 ?_
  obtain ⟨cl60, Ar60, q60, S60, M60, H60, G60⟩ := id B58
  have hin60 : ¬ ((19 : Int32) < 0 ∨ cl60.slots.size ≤ ((19 : Int32)).toNatClampNeg) := inb_of S60 ⟨by decide, by decide⟩
  obtain ⟨T61, h61, X61, e61, W61, st61⟩ := stR X59 hx hZ e59 Ar60 (j := (19 : Int32)) hin60 rfl (Sto.ofV Ar60 q60 V1 (Ins.self (u66.ext O58.2))) (g := (mkF m 138 #[.val (.int p1), .unset, .unset, .unset, .unset, .unset, .unset] [(.ref ad19), (.int (19 : Int32)), (.ref b1), (.ref b1)])) rfl rfl (hb hby at_138)
  have B61 : Arv Z h61 b1 k1 (.object "com/example/querent/querent/dicom/Vr") (34 : Int32) [(.ref ad0), (.ref ad1), (.ref ad2), (.ref ad3), (.ref ad4), (.ref ad5), (.ref ad6), (.ref ad7), (.ref ad8), (.ref ad9), (.ref ad10), (.ref ad11), (.ref ad12), (.ref ad13), (.ref ad14), (.ref ad15), (.ref ad16), (.ref ad17), (.ref ad18), (.ref ad19), .null, .null, .null, .null, .null, .null, .null, .null, .null, .null, .null, .null, .null, .null] .null := Arv.set Ar60 q60 S60 M60 H60 G60 rfl W61 19 rfl (Nat.le_of_ble_eq_true rfl)
  refine own_go st61 ?_
  have K61 : Keep h0 h61 [] := K58.wr W61 (Or.inr (Nat.le_of_eq g1.symm))
  have hk := Nat.le_trans hk (Keep.of_wr W61).1
  have O61 := O58.wr W61 (Nat.le_trans Z0 (Nat.le_of_eq g1.symm))
  have N61 := Fr.snoc X61 N58 (Nat.le_trans Z0 (Nat.le_of_eq g1.symm))
  refine own_go (A := T61.setTop (mkF m 142 #[.val (.int p1), .unset, .unset, .unset, .unset, .unset, .unset] [(.int (20 : Int32)), (.ref b1), (.ref b1)])) (fun t_ k_ => ?_) ?_
  · show Steps p.tables e below (T61.setTop (mkF m 139 #[.val (.int p1), .unset, .unset, .unset, .unset, .unset, .unset] [(.ref b1)])) t_
    refine XS.dup X61.here hx rfl (hb hby at_139) rfl rfl ?_
    show Steps p.tables e below (T61.setTop (mkF m 140 #[.val (.int p1), .unset, .unset, .unset, .unset, .unset, .unset] [(.ref b1), (.ref b1)])) t_
    refine XS.bipush X61.here hx rfl (hb hby at_140) ?_
    exact k_
  obtain ⟨T62, X62, e62, st62⟩ := getS2 X61 hx hZ hown (host := "") (Or.inl (own_w hw 44 rfl)) Via.refl e61 (u68.ext O61.2) (g := (mkF m 142 #[.val (.int p1), .unset, .unset, .unset, .unset, .unset, .unset] [(.int (20 : Int32)), (.ref b1), (.ref b1)])) rfl (hb hby at_142)
  refine own_go st62 ?_
  obtain ⟨cl63, Ar63, q63, S63, M63, H63, G63⟩ := id B61
  have hin63 : ¬ ((20 : Int32) < 0 ∨ cl63.slots.size ≤ ((20 : Int32)).toNatClampNeg) := inb_of S63 ⟨by decide, by decide⟩
  obtain ⟨T64, h64, X64, e64, W64, st64⟩ := stR X62 hx hZ e62 Ar63 (j := (20 : Int32)) hin63 rfl (Sto.ofV Ar63 q63 V1 (Ins.self (u69.ext O61.2))) (g := (mkF m 145 #[.val (.int p1), .unset, .unset, .unset, .unset, .unset, .unset] [(.ref ad20), (.int (20 : Int32)), (.ref b1), (.ref b1)])) rfl rfl (hb hby at_145)
  have B64 : Arv Z h64 b1 k1 (.object "com/example/querent/querent/dicom/Vr") (34 : Int32) [(.ref ad0), (.ref ad1), (.ref ad2), (.ref ad3), (.ref ad4), (.ref ad5), (.ref ad6), (.ref ad7), (.ref ad8), (.ref ad9), (.ref ad10), (.ref ad11), (.ref ad12), (.ref ad13), (.ref ad14), (.ref ad15), (.ref ad16), (.ref ad17), (.ref ad18), (.ref ad19), (.ref ad20), .null, .null, .null, .null, .null, .null, .null, .null, .null, .null, .null, .null, .null] .null := Arv.set Ar63 q63 S63 M63 H63 G63 rfl W64 20 rfl (Nat.le_of_ble_eq_true rfl)
  refine own_go st64 ?_
  have K64 : Keep h0 h64 [] := K61.wr W64 (Or.inr (Nat.le_of_eq g1.symm))
  have hk := Nat.le_trans hk (Keep.of_wr W64).1
  have O64 := O61.wr W64 (Nat.le_trans Z0 (Nat.le_of_eq g1.symm))
  have N64 := Fr.snoc X64 N61 (Nat.le_trans Z0 (Nat.le_of_eq g1.symm))
  refine own_go (A := T64.setTop (mkF m 149 #[.val (.int p1), .unset, .unset, .unset, .unset, .unset, .unset] [(.int (21 : Int32)), (.ref b1), (.ref b1)])) (fun t_ k_ => ?_) ?_
  · show Steps p.tables e below (T64.setTop (mkF m 146 #[.val (.int p1), .unset, .unset, .unset, .unset, .unset, .unset] [(.ref b1)])) t_
    refine XS.dup X64.here hx rfl (hb hby at_146) rfl rfl ?_
    show Steps p.tables e below (T64.setTop (mkF m 147 #[.val (.int p1), .unset, .unset, .unset, .unset, .unset, .unset] [(.ref b1), (.ref b1)])) t_
    refine XS.bipush X64.here hx rfl (hb hby at_147) ?_
    exact k_
  obtain ⟨T65, X65, e65, st65⟩ := getS2 X64 hx hZ hown (host := "") (Or.inl (own_w hw 46 rfl)) Via.refl e64 (u71.ext O64.2) (g := (mkF m 149 #[.val (.int p1), .unset, .unset, .unset, .unset, .unset, .unset] [(.int (21 : Int32)), (.ref b1), (.ref b1)])) rfl (hb hby at_149)
  refine own_go st65 ?_
  obtain ⟨cl66, Ar66, q66, S66, M66, H66, G66⟩ := id B64
  have hin66 : ¬ ((21 : Int32) < 0 ∨ cl66.slots.size ≤ ((21 : Int32)).toNatClampNeg) := inb_of S66 ⟨by decide, by decide⟩
  obtain ⟨T67, h67, X67, e67, W67, st67⟩ := stR X65 hx hZ e65 Ar66 (j := (21 : Int32)) hin66 rfl (Sto.ofV Ar66 q66 V1 (Ins.self (u72.ext O64.2))) (g := (mkF m 152 #[.val (.int p1), .unset, .unset, .unset, .unset, .unset, .unset] [(.ref ad21), (.int (21 : Int32)), (.ref b1), (.ref b1)])) rfl rfl (hb hby at_152)
  have B67 : Arv Z h67 b1 k1 (.object "com/example/querent/querent/dicom/Vr") (34 : Int32) [(.ref ad0), (.ref ad1), (.ref ad2), (.ref ad3), (.ref ad4), (.ref ad5), (.ref ad6), (.ref ad7), (.ref ad8), (.ref ad9), (.ref ad10), (.ref ad11), (.ref ad12), (.ref ad13), (.ref ad14), (.ref ad15), (.ref ad16), (.ref ad17), (.ref ad18), (.ref ad19), (.ref ad20), (.ref ad21), .null, .null, .null, .null, .null, .null, .null, .null, .null, .null, .null, .null] .null := Arv.set Ar66 q66 S66 M66 H66 G66 rfl W67 21 rfl (Nat.le_of_ble_eq_true rfl)
  refine own_go st67 ?_
  have K67 : Keep h0 h67 [] := K64.wr W67 (Or.inr (Nat.le_of_eq g1.symm))
  have hk := Nat.le_trans hk (Keep.of_wr W67).1
  have O67 := O64.wr W67 (Nat.le_trans Z0 (Nat.le_of_eq g1.symm))
  have N67 := Fr.snoc X67 N64 (Nat.le_trans Z0 (Nat.le_of_eq g1.symm))
  refine own_go (A := T67.setTop (mkF m 156 #[.val (.int p1), .unset, .unset, .unset, .unset, .unset, .unset] [(.int (22 : Int32)), (.ref b1), (.ref b1)])) (fun t_ k_ => ?_) ?_
  · show Steps p.tables e below (T67.setTop (mkF m 153 #[.val (.int p1), .unset, .unset, .unset, .unset, .unset, .unset] [(.ref b1)])) t_
    refine XS.dup X67.here hx rfl (hb hby at_153) rfl rfl ?_
    show Steps p.tables e below (T67.setTop (mkF m 154 #[.val (.int p1), .unset, .unset, .unset, .unset, .unset, .unset] [(.ref b1), (.ref b1)])) t_
    refine XS.bipush X67.here hx rfl (hb hby at_154) ?_
    exact k_
  obtain ⟨T68, X68, e68, st68⟩ := getS2 X67 hx hZ hown (host := "") (Or.inl (own_w hw 48 rfl)) Via.refl e67 (u74.ext O67.2) (g := (mkF m 156 #[.val (.int p1), .unset, .unset, .unset, .unset, .unset, .unset] [(.int (22 : Int32)), (.ref b1), (.ref b1)])) rfl (hb hby at_156)
  refine own_go st68 ?_
  obtain ⟨cl69, Ar69, q69, S69, M69, H69, G69⟩ := id B67
  have hin69 : ¬ ((22 : Int32) < 0 ∨ cl69.slots.size ≤ ((22 : Int32)).toNatClampNeg) := inb_of S69 ⟨by decide, by decide⟩
  obtain ⟨T70, h70, X70, e70, W70, st70⟩ := stR X68 hx hZ e68 Ar69 (j := (22 : Int32)) hin69 rfl (Sto.ofV Ar69 q69 V1 (Ins.self (u75.ext O67.2))) (g := (mkF m 159 #[.val (.int p1), .unset, .unset, .unset, .unset, .unset, .unset] [(.ref ad22), (.int (22 : Int32)), (.ref b1), (.ref b1)])) rfl rfl (hb hby at_159)
  have B70 : Arv Z h70 b1 k1 (.object "com/example/querent/querent/dicom/Vr") (34 : Int32) [(.ref ad0), (.ref ad1), (.ref ad2), (.ref ad3), (.ref ad4), (.ref ad5), (.ref ad6), (.ref ad7), (.ref ad8), (.ref ad9), (.ref ad10), (.ref ad11), (.ref ad12), (.ref ad13), (.ref ad14), (.ref ad15), (.ref ad16), (.ref ad17), (.ref ad18), (.ref ad19), (.ref ad20), (.ref ad21), (.ref ad22), .null, .null, .null, .null, .null, .null, .null, .null, .null, .null, .null] .null := Arv.set Ar69 q69 S69 M69 H69 G69 rfl W70 22 rfl (Nat.le_of_ble_eq_true rfl)
  refine own_go st70 ?_
  have K70 : Keep h0 h70 [] := K67.wr W70 (Or.inr (Nat.le_of_eq g1.symm))
  have hk := Nat.le_trans hk (Keep.of_wr W70).1
  have O70 := O67.wr W70 (Nat.le_trans Z0 (Nat.le_of_eq g1.symm))
  have N70 := Fr.snoc X70 N67 (Nat.le_trans Z0 (Nat.le_of_eq g1.symm))
  refine own_go (A := T70.setTop (mkF m 163 #[.val (.int p1), .unset, .unset, .unset, .unset, .unset, .unset] [(.int (23 : Int32)), (.ref b1), (.ref b1)])) (fun t_ k_ => ?_) ?_
  · show Steps p.tables e below (T70.setTop (mkF m 160 #[.val (.int p1), .unset, .unset, .unset, .unset, .unset, .unset] [(.ref b1)])) t_
    refine XS.dup X70.here hx rfl (hb hby at_160) rfl rfl ?_
    show Steps p.tables e below (T70.setTop (mkF m 161 #[.val (.int p1), .unset, .unset, .unset, .unset, .unset, .unset] [(.ref b1), (.ref b1)])) t_
    refine XS.bipush X70.here hx rfl (hb hby at_161) ?_
    exact k_
  obtain ⟨T71, X71, e71, st71⟩ := getS2 X70 hx hZ hown (host := "") (Or.inl (own_w hw 50 rfl)) Via.refl e70 (u77.ext O70.2) (g := (mkF m 163 #[.val (.int p1), .unset, .unset, .unset, .unset, .unset, .unset] [(.int (23 : Int32)), (.ref b1), (.ref b1)])) rfl (hb hby at_163)
  refine own_go st71 ?_
  obtain ⟨cl72, Ar72, q72, S72, M72, H72, G72⟩ := id B70
  have hin72 : ¬ ((23 : Int32) < 0 ∨ cl72.slots.size ≤ ((23 : Int32)).toNatClampNeg) := inb_of S72 ⟨by decide, by decide⟩
  obtain ⟨T73, h73, X73, e73, W73, st73⟩ := stR X71 hx hZ e71 Ar72 (j := (23 : Int32)) hin72 rfl (Sto.ofV Ar72 q72 V1 (Ins.self (u78.ext O70.2))) (g := (mkF m 166 #[.val (.int p1), .unset, .unset, .unset, .unset, .unset, .unset] [(.ref ad23), (.int (23 : Int32)), (.ref b1), (.ref b1)])) rfl rfl (hb hby at_166)
  have B73 : Arv Z h73 b1 k1 (.object "com/example/querent/querent/dicom/Vr") (34 : Int32) [(.ref ad0), (.ref ad1), (.ref ad2), (.ref ad3), (.ref ad4), (.ref ad5), (.ref ad6), (.ref ad7), (.ref ad8), (.ref ad9), (.ref ad10), (.ref ad11), (.ref ad12), (.ref ad13), (.ref ad14), (.ref ad15), (.ref ad16), (.ref ad17), (.ref ad18), (.ref ad19), (.ref ad20), (.ref ad21), (.ref ad22), (.ref ad23), .null, .null, .null, .null, .null, .null, .null, .null, .null, .null] .null := Arv.set Ar72 q72 S72 M72 H72 G72 rfl W73 23 rfl (Nat.le_of_ble_eq_true rfl)
  refine own_go st73 ?_
  have K73 : Keep h0 h73 [] := K70.wr W73 (Or.inr (Nat.le_of_eq g1.symm))
  have hk := Nat.le_trans hk (Keep.of_wr W73).1
  have O73 := O70.wr W73 (Nat.le_trans Z0 (Nat.le_of_eq g1.symm))
  have N73 := Fr.snoc X73 N70 (Nat.le_trans Z0 (Nat.le_of_eq g1.symm))
  refine own_go (A := T73.setTop (mkF m 170 #[.val (.int p1), .unset, .unset, .unset, .unset, .unset, .unset] [(.int (24 : Int32)), (.ref b1), (.ref b1)])) (fun t_ k_ => ?_) ?_
  · show Steps p.tables e below (T73.setTop (mkF m 167 #[.val (.int p1), .unset, .unset, .unset, .unset, .unset, .unset] [(.ref b1)])) t_
    refine XS.dup X73.here hx rfl (hb hby at_167) rfl rfl ?_
    show Steps p.tables e below (T73.setTop (mkF m 168 #[.val (.int p1), .unset, .unset, .unset, .unset, .unset, .unset] [(.ref b1), (.ref b1)])) t_
    refine XS.bipush X73.here hx rfl (hb hby at_168) ?_
    exact k_
  obtain ⟨T74, X74, e74, st74⟩ := getS2 X73 hx hZ hown (host := "") (Or.inl (own_w hw 52 rfl)) Via.refl e73 (u80.ext O73.2) (g := (mkF m 170 #[.val (.int p1), .unset, .unset, .unset, .unset, .unset, .unset] [(.int (24 : Int32)), (.ref b1), (.ref b1)])) rfl (hb hby at_170)
  refine own_go st74 ?_
  obtain ⟨cl75, Ar75, q75, S75, M75, H75, G75⟩ := id B73
  have hin75 : ¬ ((24 : Int32) < 0 ∨ cl75.slots.size ≤ ((24 : Int32)).toNatClampNeg) := inb_of S75 ⟨by decide, by decide⟩
  obtain ⟨T76, h76, X76, e76, W76, st76⟩ := stR X74 hx hZ e74 Ar75 (j := (24 : Int32)) hin75 rfl (Sto.ofV Ar75 q75 V1 (Ins.self (u81.ext O73.2))) (g := (mkF m 173 #[.val (.int p1), .unset, .unset, .unset, .unset, .unset, .unset] [(.ref ad24), (.int (24 : Int32)), (.ref b1), (.ref b1)])) rfl rfl (hb hby at_173)
  have B76 : Arv Z h76 b1 k1 (.object "com/example/querent/querent/dicom/Vr") (34 : Int32) [(.ref ad0), (.ref ad1), (.ref ad2), (.ref ad3), (.ref ad4), (.ref ad5), (.ref ad6), (.ref ad7), (.ref ad8), (.ref ad9), (.ref ad10), (.ref ad11), (.ref ad12), (.ref ad13), (.ref ad14), (.ref ad15), (.ref ad16), (.ref ad17), (.ref ad18), (.ref ad19), (.ref ad20), (.ref ad21), (.ref ad22), (.ref ad23), (.ref ad24), .null, .null, .null, .null, .null, .null, .null, .null, .null] .null := Arv.set Ar75 q75 S75 M75 H75 G75 rfl W76 24 rfl (Nat.le_of_ble_eq_true rfl)
  refine own_go st76 ?_
  have K76 : Keep h0 h76 [] := K73.wr W76 (Or.inr (Nat.le_of_eq g1.symm))
  have hk := Nat.le_trans hk (Keep.of_wr W76).1
  have O76 := O73.wr W76 (Nat.le_trans Z0 (Nat.le_of_eq g1.symm))
  have N76 := Fr.snoc X76 N73 (Nat.le_trans Z0 (Nat.le_of_eq g1.symm))
  refine own_go (A := T76.setTop (mkF m 177 #[.val (.int p1), .unset, .unset, .unset, .unset, .unset, .unset] [(.int (25 : Int32)), (.ref b1), (.ref b1)])) (fun t_ k_ => ?_) ?_
  · show Steps p.tables e below (T76.setTop (mkF m 174 #[.val (.int p1), .unset, .unset, .unset, .unset, .unset, .unset] [(.ref b1)])) t_
    refine XS.dup X76.here hx rfl (hb hby at_174) rfl rfl ?_
    show Steps p.tables e below (T76.setTop (mkF m 175 #[.val (.int p1), .unset, .unset, .unset, .unset, .unset, .unset] [(.ref b1), (.ref b1)])) t_
    refine XS.bipush X76.here hx rfl (hb hby at_175) ?_
    exact k_
  obtain ⟨T77, X77, e77, st77⟩ := getS2 X76 hx hZ hown (host := "") (Or.inl (own_w hw 54 rfl)) Via.refl e76 (u83.ext O76.2) (g := (mkF m 177 #[.val (.int p1), .unset, .unset, .unset, .unset, .unset, .unset] [(.int (25 : Int32)), (.ref b1), (.ref b1)])) rfl (hb hby at_177)
  refine own_go st77 ?_
  obtain ⟨cl78, Ar78, q78, S78, M78, H78, G78⟩ := id B76
  have hin78 : ¬ ((25 : Int32) < 0 ∨ cl78.slots.size ≤ ((25 : Int32)).toNatClampNeg) := inb_of S78 ⟨by decide, by decide⟩
  obtain ⟨T79, h79, X79, e79, W79, st79⟩ := stR X77 hx hZ e77 Ar78 (j := (25 : Int32)) hin78 rfl (Sto.ofV Ar78 q78 V1 (Ins.self (u84.ext O76.2))) (g := (mkF m 180 #[.val (.int p1), .unset, .unset, .unset, .unset, .unset, .unset] [(.ref ad25), (.int (25 : Int32)), (.ref b1), (.ref b1)])) rfl rfl (hb hby at_180)
  have B79 : Arv Z h79 b1 k1 (.object "com/example/querent/querent/dicom/Vr") (34 : Int32) [(.ref ad0), (.ref ad1), (.ref ad2), (.ref ad3), (.ref ad4), (.ref ad5), (.ref ad6), (.ref ad7), (.ref ad8), (.ref ad9), (.ref ad10), (.ref ad11), (.ref ad12), (.ref ad13), (.ref ad14), (.ref ad15), (.ref ad16), (.ref ad17), (.ref ad18), (.ref ad19), (.ref ad20), (.ref ad21), (.ref ad22), (.ref ad23), (.ref ad24), (.ref ad25), .null, .null, .null, .null, .null, .null, .null, .null] .null := Arv.set Ar78 q78 S78 M78 H78 G78 rfl W79 25 rfl (Nat.le_of_ble_eq_true rfl)
  refine own_go st79 ?_
  have K79 : Keep h0 h79 [] := K76.wr W79 (Or.inr (Nat.le_of_eq g1.symm))
  have hk := Nat.le_trans hk (Keep.of_wr W79).1
  have O79 := O76.wr W79 (Nat.le_trans Z0 (Nat.le_of_eq g1.symm))
  have N79 := Fr.snoc X79 N76 (Nat.le_trans Z0 (Nat.le_of_eq g1.symm))
  refine own_go (A := T79.setTop (mkF m 184 #[.val (.int p1), .unset, .unset, .unset, .unset, .unset, .unset] [(.int (26 : Int32)), (.ref b1), (.ref b1)])) (fun t_ k_ => ?_) ?_
  · show Steps p.tables e below (T79.setTop (mkF m 181 #[.val (.int p1), .unset, .unset, .unset, .unset, .unset, .unset] [(.ref b1)])) t_
    refine XS.dup X79.here hx rfl (hb hby at_181) rfl rfl ?_
    show Steps p.tables e below (T79.setTop (mkF m 182 #[.val (.int p1), .unset, .unset, .unset, .unset, .unset, .unset] [(.ref b1), (.ref b1)])) t_
    refine XS.bipush X79.here hx rfl (hb hby at_182) ?_
    exact k_
  obtain ⟨T80, X80, e80, st80⟩ := getS2 X79 hx hZ hown (host := "") (Or.inl (own_w hw 56 rfl)) Via.refl e79 (u86.ext O79.2) (g := (mkF m 184 #[.val (.int p1), .unset, .unset, .unset, .unset, .unset, .unset] [(.int (26 : Int32)), (.ref b1), (.ref b1)])) rfl (hb hby at_184)
  refine own_go st80 ?_
  obtain ⟨cl81, Ar81, q81, S81, M81, H81, G81⟩ := id B79
  have hin81 : ¬ ((26 : Int32) < 0 ∨ cl81.slots.size ≤ ((26 : Int32)).toNatClampNeg) := inb_of S81 ⟨by decide, by decide⟩
  obtain ⟨T82, h82, X82, e82, W82, st82⟩ := stR X80 hx hZ e80 Ar81 (j := (26 : Int32)) hin81 rfl (Sto.ofV Ar81 q81 V1 (Ins.self (u87.ext O79.2))) (g := (mkF m 187 #[.val (.int p1), .unset, .unset, .unset, .unset, .unset, .unset] [(.ref ad26), (.int (26 : Int32)), (.ref b1), (.ref b1)])) rfl rfl (hb hby at_187)
  have B82 : Arv Z h82 b1 k1 (.object "com/example/querent/querent/dicom/Vr") (34 : Int32) [(.ref ad0), (.ref ad1), (.ref ad2), (.ref ad3), (.ref ad4), (.ref ad5), (.ref ad6), (.ref ad7), (.ref ad8), (.ref ad9), (.ref ad10), (.ref ad11), (.ref ad12), (.ref ad13), (.ref ad14), (.ref ad15), (.ref ad16), (.ref ad17), (.ref ad18), (.ref ad19), (.ref ad20), (.ref ad21), (.ref ad22), (.ref ad23), (.ref ad24), (.ref ad25), (.ref ad26), .null, .null, .null, .null, .null, .null, .null] .null := Arv.set Ar81 q81 S81 M81 H81 G81 rfl W82 26 rfl (Nat.le_of_ble_eq_true rfl)
  refine own_go st82 ?_
  have K82 : Keep h0 h82 [] := K79.wr W82 (Or.inr (Nat.le_of_eq g1.symm))
  have hk := Nat.le_trans hk (Keep.of_wr W82).1
  have O82 := O79.wr W82 (Nat.le_trans Z0 (Nat.le_of_eq g1.symm))
  have N82 := Fr.snoc X82 N79 (Nat.le_trans Z0 (Nat.le_of_eq g1.symm))
  refine own_go (A := T82.setTop (mkF m 191 #[.val (.int p1), .unset, .unset, .unset, .unset, .unset, .unset] [(.int (27 : Int32)), (.ref b1), (.ref b1)])) (fun t_ k_ => ?_) ?_
  · show Steps p.tables e below (T82.setTop (mkF m 188 #[.val (.int p1), .unset, .unset, .unset, .unset, .unset, .unset] [(.ref b1)])) t_
    refine XS.dup X82.here hx rfl (hb hby at_188) rfl rfl ?_
    show Steps p.tables e below (T82.setTop (mkF m 189 #[.val (.int p1), .unset, .unset, .unset, .unset, .unset, .unset] [(.ref b1), (.ref b1)])) t_
    refine XS.bipush X82.here hx rfl (hb hby at_189) ?_
    exact k_
  obtain ⟨T83, X83, e83, st83⟩ := getS2 X82 hx hZ hown (host := "") (Or.inl (own_w hw 58 rfl)) Via.refl e82 (u89.ext O82.2) (g := (mkF m 191 #[.val (.int p1), .unset, .unset, .unset, .unset, .unset, .unset] [(.int (27 : Int32)), (.ref b1), (.ref b1)])) rfl (hb hby at_191)
  refine own_go st83 ?_
  obtain ⟨cl84, Ar84, q84, S84, M84, H84, G84⟩ := id B82
  have hin84 : ¬ ((27 : Int32) < 0 ∨ cl84.slots.size ≤ ((27 : Int32)).toNatClampNeg) := inb_of S84 ⟨by decide, by decide⟩
  obtain ⟨T85, h85, X85, e85, W85, st85⟩ := stR X83 hx hZ e83 Ar84 (j := (27 : Int32)) hin84 rfl (Sto.ofV Ar84 q84 V1 (Ins.self (u90.ext O82.2))) (g := (mkF m 194 #[.val (.int p1), .unset, .unset, .unset, .unset, .unset, .unset] [(.ref ad27), (.int (27 : Int32)), (.ref b1), (.ref b1)])) rfl rfl (hb hby at_194)
  have B85 : Arv Z h85 b1 k1 (.object "com/example/querent/querent/dicom/Vr") (34 : Int32) [(.ref ad0), (.ref ad1), (.ref ad2), (.ref ad3), (.ref ad4), (.ref ad5), (.ref ad6), (.ref ad7), (.ref ad8), (.ref ad9), (.ref ad10), (.ref ad11), (.ref ad12), (.ref ad13), (.ref ad14), (.ref ad15), (.ref ad16), (.ref ad17), (.ref ad18), (.ref ad19), (.ref ad20), (.ref ad21), (.ref ad22), (.ref ad23), (.ref ad24), (.ref ad25), (.ref ad26), (.ref ad27), .null, .null, .null, .null, .null, .null] .null := Arv.set Ar84 q84 S84 M84 H84 G84 rfl W85 27 rfl (Nat.le_of_ble_eq_true rfl)
  refine own_go st85 ?_
  have K85 : Keep h0 h85 [] := K82.wr W85 (Or.inr (Nat.le_of_eq g1.symm))
  have hk := Nat.le_trans hk (Keep.of_wr W85).1
  have O85 := O82.wr W85 (Nat.le_trans Z0 (Nat.le_of_eq g1.symm))
  have N85 := Fr.snoc X85 N82 (Nat.le_trans Z0 (Nat.le_of_eq g1.symm))
  refine own_go (A := T85.setTop (mkF m 198 #[.val (.int p1), .unset, .unset, .unset, .unset, .unset, .unset] [(.int (28 : Int32)), (.ref b1), (.ref b1)])) (fun t_ k_ => ?_) ?_
  · show Steps p.tables e below (T85.setTop (mkF m 195 #[.val (.int p1), .unset, .unset, .unset, .unset, .unset, .unset] [(.ref b1)])) t_
    refine XS.dup X85.here hx rfl (hb hby at_195) rfl rfl ?_
    show Steps p.tables e below (T85.setTop (mkF m 196 #[.val (.int p1), .unset, .unset, .unset, .unset, .unset, .unset] [(.ref b1), (.ref b1)])) t_
    refine XS.bipush X85.here hx rfl (hb hby at_196) ?_
    exact k_
  obtain ⟨T86, X86, e86, st86⟩ := getS2 X85 hx hZ hown (host := "") (Or.inl (own_w hw 60 rfl)) Via.refl e85 (u92.ext O85.2) (g := (mkF m 198 #[.val (.int p1), .unset, .unset, .unset, .unset, .unset, .unset] [(.int (28 : Int32)), (.ref b1), (.ref b1)])) rfl (hb hby at_198)
  refine own_go st86 ?_
  obtain ⟨cl87, Ar87, q87, S87, M87, H87, G87⟩ := id B85
  have hin87 : ¬ ((28 : Int32) < 0 ∨ cl87.slots.size ≤ ((28 : Int32)).toNatClampNeg) := inb_of S87 ⟨by decide, by decide⟩
  obtain ⟨T88, h88, X88, e88, W88, st88⟩ := stR X86 hx hZ e86 Ar87 (j := (28 : Int32)) hin87 rfl (Sto.ofV Ar87 q87 V1 (Ins.self (u93.ext O85.2))) (g := (mkF m 201 #[.val (.int p1), .unset, .unset, .unset, .unset, .unset, .unset] [(.ref ad28), (.int (28 : Int32)), (.ref b1), (.ref b1)])) rfl rfl (hb hby at_201)
  have B88 : Arv Z h88 b1 k1 (.object "com/example/querent/querent/dicom/Vr") (34 : Int32) [(.ref ad0), (.ref ad1), (.ref ad2), (.ref ad3), (.ref ad4), (.ref ad5), (.ref ad6), (.ref ad7), (.ref ad8), (.ref ad9), (.ref ad10), (.ref ad11), (.ref ad12), (.ref ad13), (.ref ad14), (.ref ad15), (.ref ad16), (.ref ad17), (.ref ad18), (.ref ad19), (.ref ad20), (.ref ad21), (.ref ad22), (.ref ad23), (.ref ad24), (.ref ad25), (.ref ad26), (.ref ad27), (.ref ad28), .null, .null, .null, .null, .null] .null := Arv.set Ar87 q87 S87 M87 H87 G87 rfl W88 28 rfl (Nat.le_of_ble_eq_true rfl)
  refine own_go st88 ?_
  have K88 : Keep h0 h88 [] := K85.wr W88 (Or.inr (Nat.le_of_eq g1.symm))
  have hk := Nat.le_trans hk (Keep.of_wr W88).1
  have O88 := O85.wr W88 (Nat.le_trans Z0 (Nat.le_of_eq g1.symm))
  have N88 := Fr.snoc X88 N85 (Nat.le_trans Z0 (Nat.le_of_eq g1.symm))
  refine own_go (A := T88.setTop (mkF m 205 #[.val (.int p1), .unset, .unset, .unset, .unset, .unset, .unset] [(.int (29 : Int32)), (.ref b1), (.ref b1)])) (fun t_ k_ => ?_) ?_
  · show Steps p.tables e below (T88.setTop (mkF m 202 #[.val (.int p1), .unset, .unset, .unset, .unset, .unset, .unset] [(.ref b1)])) t_
    refine XS.dup X88.here hx rfl (hb hby at_202) rfl rfl ?_
    show Steps p.tables e below (T88.setTop (mkF m 203 #[.val (.int p1), .unset, .unset, .unset, .unset, .unset, .unset] [(.ref b1), (.ref b1)])) t_
    refine XS.bipush X88.here hx rfl (hb hby at_203) ?_
    exact k_
  obtain ⟨T89, X89, e89, st89⟩ := getS2 X88 hx hZ hown (host := "") (Or.inl (own_w hw 62 rfl)) Via.refl e88 (u95.ext O88.2) (g := (mkF m 205 #[.val (.int p1), .unset, .unset, .unset, .unset, .unset, .unset] [(.int (29 : Int32)), (.ref b1), (.ref b1)])) rfl (hb hby at_205)
  refine own_go st89 ?_
  obtain ⟨cl90, Ar90, q90, S90, M90, H90, G90⟩ := id B88
  have hin90 : ¬ ((29 : Int32) < 0 ∨ cl90.slots.size ≤ ((29 : Int32)).toNatClampNeg) := inb_of S90 ⟨by decide, by decide⟩
  obtain ⟨T91, h91, X91, e91, W91, st91⟩ := stR X89 hx hZ e89 Ar90 (j := (29 : Int32)) hin90 rfl (Sto.ofV Ar90 q90 V1 (Ins.self (u96.ext O88.2))) (g := (mkF m 208 #[.val (.int p1), .unset, .unset, .unset, .unset, .unset, .unset] [(.ref ad29), (.int (29 : Int32)), (.ref b1), (.ref b1)])) rfl rfl (hb hby at_208)
  have B91 : Arv Z h91 b1 k1 (.object "com/example/querent/querent/dicom/Vr") (34 : Int32) [(.ref ad0), (.ref ad1), (.ref ad2), (.ref ad3), (.ref ad4), (.ref ad5), (.ref ad6), (.ref ad7), (.ref ad8), (.ref ad9), (.ref ad10), (.ref ad11), (.ref ad12), (.ref ad13), (.ref ad14), (.ref ad15), (.ref ad16), (.ref ad17), (.ref ad18), (.ref ad19), (.ref ad20), (.ref ad21), (.ref ad22), (.ref ad23), (.ref ad24), (.ref ad25), (.ref ad26), (.ref ad27), (.ref ad28), (.ref ad29), .null, .null, .null, .null] .null := Arv.set Ar90 q90 S90 M90 H90 G90 rfl W91 29 rfl (Nat.le_of_ble_eq_true rfl)
  refine own_go st91 ?_
  have K91 : Keep h0 h91 [] := K88.wr W91 (Or.inr (Nat.le_of_eq g1.symm))
  have hk := Nat.le_trans hk (Keep.of_wr W91).1
  have O91 := O88.wr W91 (Nat.le_trans Z0 (Nat.le_of_eq g1.symm))
  have N91 := Fr.snoc X91 N88 (Nat.le_trans Z0 (Nat.le_of_eq g1.symm))
  refine own_go (A := T91.setTop (mkF m 212 #[.val (.int p1), .unset, .unset, .unset, .unset, .unset, .unset] [(.int (30 : Int32)), (.ref b1), (.ref b1)])) (fun t_ k_ => ?_) ?_
  · show Steps p.tables e below (T91.setTop (mkF m 209 #[.val (.int p1), .unset, .unset, .unset, .unset, .unset, .unset] [(.ref b1)])) t_
    refine XS.dup X91.here hx rfl (hb hby at_209) rfl rfl ?_
    show Steps p.tables e below (T91.setTop (mkF m 210 #[.val (.int p1), .unset, .unset, .unset, .unset, .unset, .unset] [(.ref b1), (.ref b1)])) t_
    refine XS.bipush X91.here hx rfl (hb hby at_210) ?_
    exact k_
  obtain ⟨T92, X92, e92, st92⟩ := getS2 X91 hx hZ hown (host := "") (Or.inl (own_w hw 64 rfl)) Via.refl e91 (u98.ext O91.2) (g := (mkF m 212 #[.val (.int p1), .unset, .unset, .unset, .unset, .unset, .unset] [(.int (30 : Int32)), (.ref b1), (.ref b1)])) rfl (hb hby at_212)
  refine own_go st92 ?_
  obtain ⟨cl93, Ar93, q93, S93, M93, H93, G93⟩ := id B91
  have hin93 : ¬ ((30 : Int32) < 0 ∨ cl93.slots.size ≤ ((30 : Int32)).toNatClampNeg) := inb_of S93 ⟨by decide, by decide⟩
  obtain ⟨T94, h94, X94, e94, W94, st94⟩ := stR X92 hx hZ e92 Ar93 (j := (30 : Int32)) hin93 rfl (Sto.ofV Ar93 q93 V1 (Ins.self (u99.ext O91.2))) (g := (mkF m 215 #[.val (.int p1), .unset, .unset, .unset, .unset, .unset, .unset] [(.ref ad30), (.int (30 : Int32)), (.ref b1), (.ref b1)])) rfl rfl (hb hby at_215)
  have B94 : Arv Z h94 b1 k1 (.object "com/example/querent/querent/dicom/Vr") (34 : Int32) [(.ref ad0), (.ref ad1), (.ref ad2), (.ref ad3), (.ref ad4), (.ref ad5), (.ref ad6), (.ref ad7), (.ref ad8), (.ref ad9), (.ref ad10), (.ref ad11), (.ref ad12), (.ref ad13), (.ref ad14), (.ref ad15), (.ref ad16), (.ref ad17), (.ref ad18), (.ref ad19), (.ref ad20), (.ref ad21), (.ref ad22), (.ref ad23), (.ref ad24), (.ref ad25), (.ref ad26), (.ref ad27), (.ref ad28), (.ref ad29), (.ref ad30), .null, .null, .null] .null := Arv.set Ar93 q93 S93 M93 H93 G93 rfl W94 30 rfl (Nat.le_of_ble_eq_true rfl)
  refine own_go st94 ?_
  have K94 : Keep h0 h94 [] := K91.wr W94 (Or.inr (Nat.le_of_eq g1.symm))
  have hk := Nat.le_trans hk (Keep.of_wr W94).1
  have O94 := O91.wr W94 (Nat.le_trans Z0 (Nat.le_of_eq g1.symm))
  have N94 := Fr.snoc X94 N91 (Nat.le_trans Z0 (Nat.le_of_eq g1.symm))
  refine own_go (A := T94.setTop (mkF m 219 #[.val (.int p1), .unset, .unset, .unset, .unset, .unset, .unset] [(.int (31 : Int32)), (.ref b1), (.ref b1)])) (fun t_ k_ => ?_) ?_
  · show Steps p.tables e below (T94.setTop (mkF m 216 #[.val (.int p1), .unset, .unset, .unset, .unset, .unset, .unset] [(.ref b1)])) t_
    refine XS.dup X94.here hx rfl (hb hby at_216) rfl rfl ?_
    show Steps p.tables e below (T94.setTop (mkF m 217 #[.val (.int p1), .unset, .unset, .unset, .unset, .unset, .unset] [(.ref b1), (.ref b1)])) t_
    refine XS.bipush X94.here hx rfl (hb hby at_217) ?_
    exact k_
  obtain ⟨T95, X95, e95, st95⟩ := getS2 X94 hx hZ hown (host := "") (Or.inl (own_w hw 66 rfl)) Via.refl e94 (u101.ext O94.2) (g := (mkF m 219 #[.val (.int p1), .unset, .unset, .unset, .unset, .unset, .unset] [(.int (31 : Int32)), (.ref b1), (.ref b1)])) rfl (hb hby at_219)
  refine own_go st95 ?_
  obtain ⟨cl96, Ar96, q96, S96, M96, H96, G96⟩ := id B94
  have hin96 : ¬ ((31 : Int32) < 0 ∨ cl96.slots.size ≤ ((31 : Int32)).toNatClampNeg) := inb_of S96 ⟨by decide, by decide⟩
  obtain ⟨T97, h97, X97, e97, W97, st97⟩ := stR X95 hx hZ e95 Ar96 (j := (31 : Int32)) hin96 rfl (Sto.ofV Ar96 q96 V1 (Ins.self (u102.ext O94.2))) (g := (mkF m 222 #[.val (.int p1), .unset, .unset, .unset, .unset, .unset, .unset] [(.ref ad31), (.int (31 : Int32)), (.ref b1), (.ref b1)])) rfl rfl (hb hby at_222)
  have B97 : Arv Z h97 b1 k1 (.object "com/example/querent/querent/dicom/Vr") (34 : Int32) [(.ref ad0), (.ref ad1), (.ref ad2), (.ref ad3), (.ref ad4), (.ref ad5), (.ref ad6), (.ref ad7), (.ref ad8), (.ref ad9), (.ref ad10), (.ref ad11), (.ref ad12), (.ref ad13), (.ref ad14), (.ref ad15), (.ref ad16), (.ref ad17), (.ref ad18), (.ref ad19), (.ref ad20), (.ref ad21), (.ref ad22), (.ref ad23), (.ref ad24), (.ref ad25), (.ref ad26), (.ref ad27), (.ref ad28), (.ref ad29), (.ref ad30), (.ref ad31), .null, .null] .null := Arv.set Ar96 q96 S96 M96 H96 G96 rfl W97 31 rfl (Nat.le_of_ble_eq_true rfl)
  refine own_go st97 ?_
  have K97 : Keep h0 h97 [] := K94.wr W97 (Or.inr (Nat.le_of_eq g1.symm))
  have hk := Nat.le_trans hk (Keep.of_wr W97).1
  have O97 := O94.wr W97 (Nat.le_trans Z0 (Nat.le_of_eq g1.symm))
  have N97 := Fr.snoc X97 N94 (Nat.le_trans Z0 (Nat.le_of_eq g1.symm))
  refine own_go (A := T97.setTop (mkF m 226 #[.val (.int p1), .unset, .unset, .unset, .unset, .unset, .unset] [(.int (32 : Int32)), (.ref b1), (.ref b1)])) (fun t_ k_ => ?_) ?_
  · show Steps p.tables e below (T97.setTop (mkF m 223 #[.val (.int p1), .unset, .unset, .unset, .unset, .unset, .unset] [(.ref b1)])) t_
    refine XS.dup X97.here hx rfl (hb hby at_223) rfl rfl ?_
    show Steps p.tables e below (T97.setTop (mkF m 224 #[.val (.int p1), .unset, .unset, .unset, .unset, .unset, .unset] [(.ref b1), (.ref b1)])) t_
    refine XS.bipush X97.here hx rfl (hb hby at_224) ?_
    exact k_
  obtain ⟨T98, X98, e98, st98⟩ := getS2 X97 hx hZ hown (host := "") (Or.inl (own_w hw 68 rfl)) Via.refl e97 (u104.ext O97.2) (g := (mkF m 226 #[.val (.int p1), .unset, .unset, .unset, .unset, .unset, .unset] [(.int (32 : Int32)), (.ref b1), (.ref b1)])) rfl (hb hby at_226)
  refine own_go st98 ?_
  obtain ⟨cl99, Ar99, q99, S99, M99, H99, G99⟩ := id B97
  have hin99 : ¬ ((32 : Int32) < 0 ∨ cl99.slots.size ≤ ((32 : Int32)).toNatClampNeg) := inb_of S99 ⟨by decide, by decide⟩
  obtain ⟨T100, h100, X100, e100, W100, st100⟩ := stR X98 hx hZ e98 Ar99 (j := (32 : Int32)) hin99 rfl (Sto.ofV Ar99 q99 V1 (Ins.self (u105.ext O97.2))) (g := (mkF m 229 #[.val (.int p1), .unset, .unset, .unset, .unset, .unset, .unset] [(.ref ad32), (.int (32 : Int32)), (.ref b1), (.ref b1)])) rfl rfl (hb hby at_229)
  have B100 : Arv Z h100 b1 k1 (.object "com/example/querent/querent/dicom/Vr") (34 : Int32) [(.ref ad0), (.ref ad1), (.ref ad2), (.ref ad3), (.ref ad4), (.ref ad5), (.ref ad6), (.ref ad7), (.ref ad8), (.ref ad9), (.ref ad10), (.ref ad11), (.ref ad12), (.ref ad13), (.ref ad14), (.ref ad15), (.ref ad16), (.ref ad17), (.ref ad18), (.ref ad19), (.ref ad20), (.ref ad21), (.ref ad22), (.ref ad23), (.ref ad24), (.ref ad25), (.ref ad26), (.ref ad27), (.ref ad28), (.ref ad29), (.ref ad30), (.ref ad31), (.ref ad32), .null] .null := Arv.set Ar99 q99 S99 M99 H99 G99 rfl W100 32 rfl (Nat.le_of_ble_eq_true rfl)
  refine own_go st100 ?_
  have K100 : Keep h0 h100 [] := K97.wr W100 (Or.inr (Nat.le_of_eq g1.symm))
  have hk := Nat.le_trans hk (Keep.of_wr W100).1
  have O100 := O97.wr W100 (Nat.le_trans Z0 (Nat.le_of_eq g1.symm))
  have N100 := Fr.snoc X100 N97 (Nat.le_trans Z0 (Nat.le_of_eq g1.symm))
  refine own_go (A := T100.setTop (mkF m 233 #[.val (.int p1), .unset, .unset, .unset, .unset, .unset, .unset] [(.int (33 : Int32)), (.ref b1), (.ref b1)])) (fun t_ k_ => ?_) ?_
  · show Steps p.tables e below (T100.setTop (mkF m 230 #[.val (.int p1), .unset, .unset, .unset, .unset, .unset, .unset] [(.ref b1)])) t_
    refine XS.dup X100.here hx rfl (hb hby at_230) rfl rfl ?_
    show Steps p.tables e below (T100.setTop (mkF m 231 #[.val (.int p1), .unset, .unset, .unset, .unset, .unset, .unset] [(.ref b1), (.ref b1)])) t_
    refine XS.bipush X100.here hx rfl (hb hby at_231) ?_
    exact k_
  obtain ⟨T101, X101, e101, st101⟩ := getS2 X100 hx hZ hown (host := "") (Or.inl (own_w hw 70 rfl)) Via.refl e100 (u107.ext O100.2) (g := (mkF m 233 #[.val (.int p1), .unset, .unset, .unset, .unset, .unset, .unset] [(.int (33 : Int32)), (.ref b1), (.ref b1)])) rfl (hb hby at_233)
  refine own_go st101 ?_
  obtain ⟨cl102, Ar102, q102, S102, M102, H102, G102⟩ := id B100
  have hin102 : ¬ ((33 : Int32) < 0 ∨ cl102.slots.size ≤ ((33 : Int32)).toNatClampNeg) := inb_of S102 ⟨by decide, by decide⟩
  obtain ⟨T103, h103, X103, e103, W103, st103⟩ := stR X101 hx hZ e101 Ar102 (j := (33 : Int32)) hin102 rfl (Sto.ofV Ar102 q102 V1 (Ins.self (u108.ext O100.2))) (g := (mkF m 236 #[.val (.int p1), .unset, .unset, .unset, .unset, .unset, .unset] [(.ref ad33), (.int (33 : Int32)), (.ref b1), (.ref b1)])) rfl rfl (hb hby at_236)
  have B103 : Arv Z h103 b1 k1 (.object "com/example/querent/querent/dicom/Vr") (34 : Int32) [(.ref ad0), (.ref ad1), (.ref ad2), (.ref ad3), (.ref ad4), (.ref ad5), (.ref ad6), (.ref ad7), (.ref ad8), (.ref ad9), (.ref ad10), (.ref ad11), (.ref ad12), (.ref ad13), (.ref ad14), (.ref ad15), (.ref ad16), (.ref ad17), (.ref ad18), (.ref ad19), (.ref ad20), (.ref ad21), (.ref ad22), (.ref ad23), (.ref ad24), (.ref ad25), (.ref ad26), (.ref ad27), (.ref ad28), (.ref ad29), (.ref ad30), (.ref ad31), (.ref ad32), (.ref ad33)] .null := Arv.set Ar102 q102 S102 M102 H102 G102 rfl W103 33 rfl (Nat.le_of_ble_eq_true rfl)
  refine own_go st103 ?_
  have K103 : Keep h0 h103 [] := K100.wr W103 (Or.inr (Nat.le_of_eq g1.symm))
  have hk := Nat.le_trans hk (Keep.of_wr W103).1
  have O103 := O100.wr W103 (Nat.le_trans Z0 (Nat.le_of_eq g1.symm))
  have N103 := Fr.snoc X103 N100 (Nat.le_trans Z0 (Nat.le_of_eq g1.symm))
  refine own_go (A := T103.setTop (mkF m 238 #[.val (.int p1), .val (.ref b1), .unset, .unset, .unset, .unset, .unset] [])) (fun t_ k_ => ?_) ?_
  · show Steps p.tables e below (T103.setTop (mkF m 237 #[.val (.int p1), .unset, .unset, .unset, .unset, .unset, .unset] [(.ref b1)])) t_
    refine XS.astoreN X103.here hx rfl (hb hby at_237) rfl rfl (l' := #[.val (.int p1), .val (.ref b1), .unset, .unset, .unset, .unset, .unset]) rfl ?_
    exact k_
  obtain ⟨b104, T104, h104, k104, d104, kk104, X104, e104, E104, hS, hk, hZ, hown, Ea104, Fc104, Fv104, Av104, la104, lb104, IB104, st104⟩ := ldcSV X103 hx hZ hown (own_w hw 72 rfl) hSA e103 hS hk (by rw [hh, ← hn0]; exact N103) (Ts := []) (fun b cl q => by rw [hh]; exact O0.2.2 b cl q) (by rw [hvm]; exact IB.start) (by simp) hlit hcw (vs := own_txt) (z := (68 : Int32)) (by decide +kernel) (by decide) (by decide +kernel) (g := (mkF m 238 #[.val (.int p1), .val (.ref b1), .unset, .unset, .unset, .unset, .unset] [])) rfl (hb hby at_238) (n := 272) (by decide) (by decide) (by decide) (by decide)
  refine own_go st104 ?_
  have K104 : Keep h0 h104 [] := K103.ext E104
  have O104 := O103.ext E104
  refine own_go (A := T104.setTop (mkF m 248 #[.val (.int p1), .val (.ref b1), .val (.ref b104), .unset, .unset, .unset, .unset] [(.int ((p1 &&& (2147483647 : Int32)) % (34 : Int32)))])) (fun t_ k_ => ?_) ?_
  · show Steps p.tables e below (T104.setTop (mkF m 240 #[.val (.int p1), .val (.ref b1), .unset, .unset, .unset, .unset, .unset] [(.ref b104)])) t_
    refine XS.astoreN X104.here hx rfl (hb hby at_240) rfl rfl (l' := #[.val (.int p1), .val (.ref b1), .val (.ref b104), .unset, .unset, .unset, .unset]) rfl ?_
    show Steps p.tables e below (T104.setTop (mkF m 241 #[.val (.int p1), .val (.ref b1), .val (.ref b104), .unset, .unset, .unset, .unset] [])) t_
    refine XS.iloadN X104.here hx rfl (hb hby at_241) rfl ?_
    show Steps p.tables e below (T104.setTop (mkF m 242 #[.val (.int p1), .val (.ref b1), .val (.ref b104), .unset, .unset, .unset, .unset] [(.int p1)])) t_
    refine Jvm.Stand.ldcI X104 hx hown (mvT hZ (own_w hw 80 rfl)) (g := (mkF m 242 #[.val (.int p1), .val (.ref b1), .val (.ref b104), .unset, .unset, .unset, .unset] [(.int p1)])) rfl (hb hby at_242) ?_
    show Steps p.tables e below (T104.setTop (mkF m 244 #[.val (.int p1), .val (.ref b1), .val (.ref b104), .unset, .unset, .unset, .unset] [(.int (2147483647 : Int32)), (.int p1)])) t_
    refine XS.iand X104.here hx rfl (hb hby at_244) rfl ?_
    show Steps p.tables e below (T104.setTop (mkF m 245 #[.val (.int p1), .val (.ref b1), .val (.ref b104), .unset, .unset, .unset, .unset] [(.int (p1 &&& (2147483647 : Int32)))])) t_
    refine XS.bipush X104.here hx rfl (hb hby at_245) ?_
    show Steps p.tables e below (T104.setTop (mkF m 247 #[.val (.int p1), .val (.ref b1), .val (.ref b104), .unset, .unset, .unset, .unset] [(.int (34 : Int32)), (.int (p1 &&& (2147483647 : Int32)))])) t_
    refine iremM (g := (mkF m 247 #[.val (.int p1), .val (.ref b1), .val (.ref b104), .unset, .unset, .unset, .unset] [(.int (34 : Int32)), (.int (p1 &&& (2147483647 : Int32)))])) X104 hx rfl (hb hby at_247) rfl (by decide : ¬ ((34 : Int32) = (0 : Int32))) ?_
    exact k_
  have Y105 : Arv Z h104 b1 k1 (.object "com/example/querent/querent/dicom/Vr") (34 : Int32) [(.ref ad0), (.ref ad1), (.ref ad2), (.ref ad3), (.ref ad4), (.ref ad5), (.ref ad6), (.ref ad7), (.ref ad8), (.ref ad9), (.ref ad10), (.ref ad11), (.ref ad12), (.ref ad13), (.ref ad14), (.ref ad15), (.ref ad16), (.ref ad17), (.ref ad18), (.ref ad19), (.ref ad20), (.ref ad21), (.ref ad22), (.ref ad23), (.ref ad24), (.ref ad25), (.ref ad26), (.ref ad27), (.ref ad28), (.ref ad29), (.ref ad30), (.ref ad31), (.ref ad32), (.ref ad33)] .null := (B103.ext E104)
  have Y106 : Arv Z h104 d104 kk104 .byte (68 : Int32) own_txt (.int (0 : Int32)) := Av104
  rcases own_mod34 p1 with hm107 | hm107 | hm107 | hm107 | hm107 | hm107 | hm107 | hm107 | hm107 | hm107 | hm107 | hm107 | hm107 | hm107 | hm107 | hm107 | hm107 | hm107 | hm107 | hm107 | hm107 | hm107 | hm107 | hm107 | hm107 | hm107 | hm107 | hm107 | hm107 | hm107 | hm107 | hm107 | hm107 | hm107
  · rw [hm107]
    obtain ⟨cl108, Ar108, q108, S108, M108, H108, G108⟩ := id Y105
    have hin108 : ¬ ((0 : Int32) < 0 ∨ cl108.slots.size ≤ ((0 : Int32)).toNatClampNeg) := inb_of S108 ⟨by decide, by decide⟩
    have hat108 : cl108.slots[((0 : Int32)).toNatClampNeg]? = some (.ref ad0) := Has.at H108 hin108 rfl
    refine own_go (A := T104.setTop (mkF m 254 #[.val (.int p1), .val (.ref b1), .val (.ref b104), .val (.int (0 : Int32)), .val (.ref ad0), .unset, .unset] [])) (fun t_ k_ => ?_) ?_
    · show Steps p.tables e below (T104.setTop (mkF m 248 #[.val (.int p1), .val (.ref b1), .val (.ref b104), .unset, .unset, .unset, .unset] [(.int (0 : Int32))])) t_
      refine XS.istoreN X104.here hx rfl (hb hby at_248) rfl (l' := #[.val (.int p1), .val (.ref b1), .val (.ref b104), .val (.int (0 : Int32)), .unset, .unset, .unset]) rfl ?_
      show Steps p.tables e below (T104.setTop (mkF m 249 #[.val (.int p1), .val (.ref b1), .val (.ref b104), .val (.int (0 : Int32)), .unset, .unset, .unset] [])) t_
      refine XS.aloadN X104.here hx rfl (hb hby at_249) rfl rfl ?_
      show Steps p.tables e below (T104.setTop (mkF m 250 #[.val (.int p1), .val (.ref b1), .val (.ref b104), .val (.int (0 : Int32)), .unset, .unset, .unset] [(.ref b1)])) t_
      refine XS.iloadN X104.here hx rfl (hb hby at_250) rfl ?_
      show Steps p.tables e below (T104.setTop (mkF m 251 #[.val (.int p1), .val (.ref b1), .val (.ref b104), .val (.int (0 : Int32)), .unset, .unset, .unset] [(.int (0 : Int32)), (.ref b1)])) t_
      refine X104.aaload hx (j := (0 : Int32)) (v := (.ref ad0)) (by rw [e104]; exact Ar108.1) (State.isArrayOf_alike hZ.alike Ar108.2.1) rfl Ar108.2.2 hin108 hat108 (g := (mkF m 251 #[.val (.int p1), .val (.ref b1), .val (.ref b104), .val (.int (0 : Int32)), .unset, .unset, .unset] [(.int (0 : Int32)), (.ref b1)])) rfl rfl (hb hby at_251) _ ?_
      show Steps p.tables e below (T104.setTop (mkF m 252 #[.val (.int p1), .val (.ref b1), .val (.ref b104), .val (.int (0 : Int32)), .unset, .unset, .unset] [(.ref ad0)])) t_
      refine XS.astore X104.here hx rfl (hb hby at_252) rfl rfl (l' := #[.val (.int p1), .val (.ref b1), .val (.ref b104), .val (.int (0 : Int32)), .val (.ref ad0), .unset, .unset]) rfl ?_
      exact k_
    exact own_sufad0 l Z a0 hw p1 cs sf ad0 ad1 ad2 ad3 ad4 ad5 ad6 ad7 ad8 ad9 ad10 ad11 ad12 ad13 ad14 ad15 ad16 ad17 ad18 ad19 ad20 ad21 ad22 ad23 ad24 ad25 ad26 ad27 ad28 ad29 ad30 ad31 ad32 ad33 b1 b104 d104 kk104 h0 n0 Z0 X104 hx hZ hby hml hown Bd.returns (BodyLoose.notSynchronized Bd) hh e104 N103 K104 O104 hS hk hSA u1 u3 u9 u10 Ea104 Fc104 Fv104 Y106 hcs hsf hn0 hcw hlit
  · rw [hm107]
    obtain ⟨cl114, Ar114, q114, S114, M114, H114, G114⟩ := id Y105
    have hin114 : ¬ ((1 : Int32) < 0 ∨ cl114.slots.size ≤ ((1 : Int32)).toNatClampNeg) := inb_of S114 ⟨by decide, by decide⟩
    have hat114 : cl114.slots[((1 : Int32)).toNatClampNeg]? = some (.ref ad1) := Has.at H114 hin114 rfl
    refine own_go (A := T104.setTop (mkF m 254 #[.val (.int p1), .val (.ref b1), .val (.ref b104), .val (.int (1 : Int32)), .val (.ref ad1), .unset, .unset] [])) (fun t_ k_ => ?_) ?_
    · show Steps p.tables e below (T104.setTop (mkF m 248 #[.val (.int p1), .val (.ref b1), .val (.ref b104), .unset, .unset, .unset, .unset] [(.int (1 : Int32))])) t_
      refine XS.istoreN X104.here hx rfl (hb hby at_248) rfl (l' := #[.val (.int p1), .val (.ref b1), .val (.ref b104), .val (.int (1 : Int32)), .unset, .unset, .unset]) rfl ?_
      show Steps p.tables e below (T104.setTop (mkF m 249 #[.val (.int p1), .val (.ref b1), .val (.ref b104), .val (.int (1 : Int32)), .unset, .unset, .unset] [])) t_
      refine XS.aloadN X104.here hx rfl (hb hby at_249) rfl rfl ?_
      show Steps p.tables e below (T104.setTop (mkF m 250 #[.val (.int p1), .val (.ref b1), .val (.ref b104), .val (.int (1 : Int32)), .unset, .unset, .unset] [(.ref b1)])) t_
      refine XS.iloadN X104.here hx rfl (hb hby at_250) rfl ?_
      show Steps p.tables e below (T104.setTop (mkF m 251 #[.val (.int p1), .val (.ref b1), .val (.ref b104), .val (.int (1 : Int32)), .unset, .unset, .unset] [(.int (1 : Int32)), (.ref b1)])) t_
      refine X104.aaload hx (j := (1 : Int32)) (v := (.ref ad1)) (by rw [e104]; exact Ar114.1) (State.isArrayOf_alike hZ.alike Ar114.2.1) rfl Ar114.2.2 hin114 hat114 (g := (mkF m 251 #[.val (.int p1), .val (.ref b1), .val (.ref b104), .val (.int (1 : Int32)), .unset, .unset, .unset] [(.int (1 : Int32)), (.ref b1)])) rfl rfl (hb hby at_251) _ ?_
      show Steps p.tables e below (T104.setTop (mkF m 252 #[.val (.int p1), .val (.ref b1), .val (.ref b104), .val (.int (1 : Int32)), .unset, .unset, .unset] [(.ref ad1)])) t_
      refine XS.astore X104.here hx rfl (hb hby at_252) rfl rfl (l' := #[.val (.int p1), .val (.ref b1), .val (.ref b104), .val (.int (1 : Int32)), .val (.ref ad1), .unset, .unset]) rfl ?_
      exact k_
    exact own_sufad1 l Z a0 hw p1 cs sf ad0 ad1 ad2 ad3 ad4 ad5 ad6 ad7 ad8 ad9 ad10 ad11 ad12 ad13 ad14 ad15 ad16 ad17 ad18 ad19 ad20 ad21 ad22 ad23 ad24 ad25 ad26 ad27 ad28 ad29 ad30 ad31 ad32 ad33 b1 b104 d104 kk104 h0 n0 Z0 X104 hx hZ hby hml hown Bd.returns (BodyLoose.notSynchronized Bd) hh e104 N103 K104 O104 hS hk hSA u1 u3 u12 u13 Ea104 Fc104 Fv104 Y106 hcs hsf hn0 hcw hlit
  · rw [hm107]
    obtain ⟨cl120, Ar120, q120, S120, M120, H120, G120⟩ := id Y105
    have hin120 : ¬ ((2 : Int32) < 0 ∨ cl120.slots.size ≤ ((2 : Int32)).toNatClampNeg) := inb_of S120 ⟨by decide, by decide⟩
    have hat120 : cl120.slots[((2 : Int32)).toNatClampNeg]? = some (.ref ad2) := Has.at H120 hin120 rfl
    refine own_go (A := T104.setTop (mkF m 254 #[.val (.int p1), .val (.ref b1), .val (.ref b104), .val (.int (2 : Int32)), .val (.ref ad2), .unset, .unset] [])) (fun t_ k_ => ?_) ?_
    · show Steps p.tables e below (T104.setTop (mkF m 248 #[.val (.int p1), .val (.ref b1), .val (.ref b104), .unset, .unset, .unset, .unset] [(.int (2 : Int32))])) t_
      refine XS.istoreN X104.here hx rfl (hb hby at_248) rfl (l' := #[.val (.int p1), .val (.ref b1), .val (.ref b104), .val (.int (2 : Int32)), .unset, .unset, .unset]) rfl ?_
      show Steps p.tables e below (T104.setTop (mkF m 249 #[.val (.int p1), .val (.ref b1), .val (.ref b104), .val (.int (2 : Int32)), .unset, .unset, .unset] [])) t_
      refine XS.aloadN X104.here hx rfl (hb hby at_249) rfl rfl ?_
      show Steps p.tables e below (T104.setTop (mkF m 250 #[.val (.int p1), .val (.ref b1), .val (.ref b104), .val (.int (2 : Int32)), .unset, .unset, .unset] [(.ref b1)])) t_
      refine XS.iloadN X104.here hx rfl (hb hby at_250) rfl ?_
      show Steps p.tables e below (T104.setTop (mkF m 251 #[.val (.int p1), .val (.ref b1), .val (.ref b104), .val (.int (2 : Int32)), .unset, .unset, .unset] [(.int (2 : Int32)), (.ref b1)])) t_
      refine X104.aaload hx (j := (2 : Int32)) (v := (.ref ad2)) (by rw [e104]; exact Ar120.1) (State.isArrayOf_alike hZ.alike Ar120.2.1) rfl Ar120.2.2 hin120 hat120 (g := (mkF m 251 #[.val (.int p1), .val (.ref b1), .val (.ref b104), .val (.int (2 : Int32)), .unset, .unset, .unset] [(.int (2 : Int32)), (.ref b1)])) rfl rfl (hb hby at_251) _ ?_
      show Steps p.tables e below (T104.setTop (mkF m 252 #[.val (.int p1), .val (.ref b1), .val (.ref b104), .val (.int (2 : Int32)), .unset, .unset, .unset] [(.ref ad2)])) t_
      refine XS.astore X104.here hx rfl (hb hby at_252) rfl rfl (l' := #[.val (.int p1), .val (.ref b1), .val (.ref b104), .val (.int (2 : Int32)), .val (.ref ad2), .unset, .unset]) rfl ?_
      exact k_
    exact own_sufad2 l Z a0 hw p1 cs sf ad0 ad1 ad2 ad3 ad4 ad5 ad6 ad7 ad8 ad9 ad10 ad11 ad12 ad13 ad14 ad15 ad16 ad17 ad18 ad19 ad20 ad21 ad22 ad23 ad24 ad25 ad26 ad27 ad28 ad29 ad30 ad31 ad32 ad33 b1 b104 d104 kk104 h0 n0 Z0 X104 hx hZ hby hml hown Bd.returns (BodyLoose.notSynchronized Bd) hh e104 N103 K104 O104 hS hk hSA u1 u3 u15 u16 Ea104 Fc104 Fv104 Y106 hcs hsf hn0 hcw hlit
  · rw [hm107]
    obtain ⟨cl126, Ar126, q126, S126, M126, H126, G126⟩ := id Y105
    have hin126 : ¬ ((3 : Int32) < 0 ∨ cl126.slots.size ≤ ((3 : Int32)).toNatClampNeg) := inb_of S126 ⟨by decide, by decide⟩
    have hat126 : cl126.slots[((3 : Int32)).toNatClampNeg]? = some (.ref ad3) := Has.at H126 hin126 rfl
    refine own_go (A := T104.setTop (mkF m 254 #[.val (.int p1), .val (.ref b1), .val (.ref b104), .val (.int (3 : Int32)), .val (.ref ad3), .unset, .unset] [])) (fun t_ k_ => ?_) ?_
    · show Steps p.tables e below (T104.setTop (mkF m 248 #[.val (.int p1), .val (.ref b1), .val (.ref b104), .unset, .unset, .unset, .unset] [(.int (3 : Int32))])) t_
      refine XS.istoreN X104.here hx rfl (hb hby at_248) rfl (l' := #[.val (.int p1), .val (.ref b1), .val (.ref b104), .val (.int (3 : Int32)), .unset, .unset, .unset]) rfl ?_
      show Steps p.tables e below (T104.setTop (mkF m 249 #[.val (.int p1), .val (.ref b1), .val (.ref b104), .val (.int (3 : Int32)), .unset, .unset, .unset] [])) t_
      refine XS.aloadN X104.here hx rfl (hb hby at_249) rfl rfl ?_
      show Steps p.tables e below (T104.setTop (mkF m 250 #[.val (.int p1), .val (.ref b1), .val (.ref b104), .val (.int (3 : Int32)), .unset, .unset, .unset] [(.ref b1)])) t_
      refine XS.iloadN X104.here hx rfl (hb hby at_250) rfl ?_
      show Steps p.tables e below (T104.setTop (mkF m 251 #[.val (.int p1), .val (.ref b1), .val (.ref b104), .val (.int (3 : Int32)), .unset, .unset, .unset] [(.int (3 : Int32)), (.ref b1)])) t_
      refine X104.aaload hx (j := (3 : Int32)) (v := (.ref ad3)) (by rw [e104]; exact Ar126.1) (State.isArrayOf_alike hZ.alike Ar126.2.1) rfl Ar126.2.2 hin126 hat126 (g := (mkF m 251 #[.val (.int p1), .val (.ref b1), .val (.ref b104), .val (.int (3 : Int32)), .unset, .unset, .unset] [(.int (3 : Int32)), (.ref b1)])) rfl rfl (hb hby at_251) _ ?_
      show Steps p.tables e below (T104.setTop (mkF m 252 #[.val (.int p1), .val (.ref b1), .val (.ref b104), .val (.int (3 : Int32)), .unset, .unset, .unset] [(.ref ad3)])) t_
      refine XS.astore X104.here hx rfl (hb hby at_252) rfl rfl (l' := #[.val (.int p1), .val (.ref b1), .val (.ref b104), .val (.int (3 : Int32)), .val (.ref ad3), .unset, .unset]) rfl ?_
      exact k_
    exact own_sufad3 l Z a0 hw p1 cs sf ad0 ad1 ad2 ad3 ad4 ad5 ad6 ad7 ad8 ad9 ad10 ad11 ad12 ad13 ad14 ad15 ad16 ad17 ad18 ad19 ad20 ad21 ad22 ad23 ad24 ad25 ad26 ad27 ad28 ad29 ad30 ad31 ad32 ad33 b1 b104 d104 kk104 h0 n0 Z0 X104 hx hZ hby hml hown Bd.returns (BodyLoose.notSynchronized Bd) hh e104 N103 K104 O104 hS hk hSA u1 u3 u18 u19 Ea104 Fc104 Fv104 Y106 hcs hsf hn0 hcw hlit
  · rw [hm107]
    obtain ⟨cl132, Ar132, q132, S132, M132, H132, G132⟩ := id Y105
    have hin132 : ¬ ((4 : Int32) < 0 ∨ cl132.slots.size ≤ ((4 : Int32)).toNatClampNeg) := inb_of S132 ⟨by decide, by decide⟩
    have hat132 : cl132.slots[((4 : Int32)).toNatClampNeg]? = some (.ref ad4) := Has.at H132 hin132 rfl
    refine own_go (A := T104.setTop (mkF m 254 #[.val (.int p1), .val (.ref b1), .val (.ref b104), .val (.int (4 : Int32)), .val (.ref ad4), .unset, .unset] [])) (fun t_ k_ => ?_) ?_
    · show Steps p.tables e below (T104.setTop (mkF m 248 #[.val (.int p1), .val (.ref b1), .val (.ref b104), .unset, .unset, .unset, .unset] [(.int (4 : Int32))])) t_
      refine XS.istoreN X104.here hx rfl (hb hby at_248) rfl (l' := #[.val (.int p1), .val (.ref b1), .val (.ref b104), .val (.int (4 : Int32)), .unset, .unset, .unset]) rfl ?_
      show Steps p.tables e below (T104.setTop (mkF m 249 #[.val (.int p1), .val (.ref b1), .val (.ref b104), .val (.int (4 : Int32)), .unset, .unset, .unset] [])) t_
      refine XS.aloadN X104.here hx rfl (hb hby at_249) rfl rfl ?_
      show Steps p.tables e below (T104.setTop (mkF m 250 #[.val (.int p1), .val (.ref b1), .val (.ref b104), .val (.int (4 : Int32)), .unset, .unset, .unset] [(.ref b1)])) t_
      refine XS.iloadN X104.here hx rfl (hb hby at_250) rfl ?_
      show Steps p.tables e below (T104.setTop (mkF m 251 #[.val (.int p1), .val (.ref b1), .val (.ref b104), .val (.int (4 : Int32)), .unset, .unset, .unset] [(.int (4 : Int32)), (.ref b1)])) t_
      refine X104.aaload hx (j := (4 : Int32)) (v := (.ref ad4)) (by rw [e104]; exact Ar132.1) (State.isArrayOf_alike hZ.alike Ar132.2.1) rfl Ar132.2.2 hin132 hat132 (g := (mkF m 251 #[.val (.int p1), .val (.ref b1), .val (.ref b104), .val (.int (4 : Int32)), .unset, .unset, .unset] [(.int (4 : Int32)), (.ref b1)])) rfl rfl (hb hby at_251) _ ?_
      show Steps p.tables e below (T104.setTop (mkF m 252 #[.val (.int p1), .val (.ref b1), .val (.ref b104), .val (.int (4 : Int32)), .unset, .unset, .unset] [(.ref ad4)])) t_
      refine XS.astore X104.here hx rfl (hb hby at_252) rfl rfl (l' := #[.val (.int p1), .val (.ref b1), .val (.ref b104), .val (.int (4 : Int32)), .val (.ref ad4), .unset, .unset]) rfl ?_
      exact k_
    exact own_sufad4 l Z a0 hw p1 cs sf ad0 ad1 ad2 ad3 ad4 ad5 ad6 ad7 ad8 ad9 ad10 ad11 ad12 ad13 ad14 ad15 ad16 ad17 ad18 ad19 ad20 ad21 ad22 ad23 ad24 ad25 ad26 ad27 ad28 ad29 ad30 ad31 ad32 ad33 b1 b104 d104 kk104 h0 n0 Z0 X104 hx hZ hby hml hown Bd.returns (BodyLoose.notSynchronized Bd) hh e104 N103 K104 O104 hS hk hSA u1 u3 u21 u22 Ea104 Fc104 Fv104 Y106 hcs hsf hn0 hcw hlit
  · rw [hm107]
    obtain ⟨cl138, Ar138, q138, S138, M138, H138, G138⟩ := id Y105
    have hin138 : ¬ ((5 : Int32) < 0 ∨ cl138.slots.size ≤ ((5 : Int32)).toNatClampNeg) := inb_of S138 ⟨by decide, by decide⟩
    have hat138 : cl138.slots[((5 : Int32)).toNatClampNeg]? = some (.ref ad5) := Has.at H138 hin138 rfl
    refine own_go (A := T104.setTop (mkF m 254 #[.val (.int p1), .val (.ref b1), .val (.ref b104), .val (.int (5 : Int32)), .val (.ref ad5), .unset, .unset] [])) (fun t_ k_ => ?_) ?_
    · show Steps p.tables e below (T104.setTop (mkF m 248 #[.val (.int p1), .val (.ref b1), .val (.ref b104), .unset, .unset, .unset, .unset] [(.int (5 : Int32))])) t_
      refine XS.istoreN X104.here hx rfl (hb hby at_248) rfl (l' := #[.val (.int p1), .val (.ref b1), .val (.ref b104), .val (.int (5 : Int32)), .unset, .unset, .unset]) rfl ?_
      show Steps p.tables e below (T104.setTop (mkF m 249 #[.val (.int p1), .val (.ref b1), .val (.ref b104), .val (.int (5 : Int32)), .unset, .unset, .unset] [])) t_
      refine XS.aloadN X104.here hx rfl (hb hby at_249) rfl rfl ?_
      show Steps p.tables e below (T104.setTop (mkF m 250 #[.val (.int p1), .val (.ref b1), .val (.ref b104), .val (.int (5 : Int32)), .unset, .unset, .unset] [(.ref b1)])) t_
      refine XS.iloadN X104.here hx rfl (hb hby at_250) rfl ?_
      show Steps p.tables e below (T104.setTop (mkF m 251 #[.val (.int p1), .val (.ref b1), .val (.ref b104), .val (.int (5 : Int32)), .unset, .unset, .unset] [(.int (5 : Int32)), (.ref b1)])) t_
      refine X104.aaload hx (j := (5 : Int32)) (v := (.ref ad5)) (by rw [e104]; exact Ar138.1) (State.isArrayOf_alike hZ.alike Ar138.2.1) rfl Ar138.2.2 hin138 hat138 (g := (mkF m 251 #[.val (.int p1), .val (.ref b1), .val (.ref b104), .val (.int (5 : Int32)), .unset, .unset, .unset] [(.int (5 : Int32)), (.ref b1)])) rfl rfl (hb hby at_251) _ ?_
      show Steps p.tables e below (T104.setTop (mkF m 252 #[.val (.int p1), .val (.ref b1), .val (.ref b104), .val (.int (5 : Int32)), .unset, .unset, .unset] [(.ref ad5)])) t_
      refine XS.astore X104.here hx rfl (hb hby at_252) rfl rfl (l' := #[.val (.int p1), .val (.ref b1), .val (.ref b104), .val (.int (5 : Int32)), .val (.ref ad5), .unset, .unset]) rfl ?_
      exact k_
    exact own_sufad5 l Z a0 hw p1 cs sf ad0 ad1 ad2 ad3 ad4 ad5 ad6 ad7 ad8 ad9 ad10 ad11 ad12 ad13 ad14 ad15 ad16 ad17 ad18 ad19 ad20 ad21 ad22 ad23 ad24 ad25 ad26 ad27 ad28 ad29 ad30 ad31 ad32 ad33 b1 b104 d104 kk104 h0 n0 Z0 X104 hx hZ hby hml hown Bd.returns (BodyLoose.notSynchronized Bd) hh e104 N103 K104 O104 hS hk hSA u1 u3 u24 u25 Ea104 Fc104 Fv104 Y106 hcs hsf hn0 hcw hlit
  · rw [hm107]
    obtain ⟨cl144, Ar144, q144, S144, M144, H144, G144⟩ := id Y105
    have hin144 : ¬ ((6 : Int32) < 0 ∨ cl144.slots.size ≤ ((6 : Int32)).toNatClampNeg) := inb_of S144 ⟨by decide, by decide⟩
    have hat144 : cl144.slots[((6 : Int32)).toNatClampNeg]? = some (.ref ad6) := Has.at H144 hin144 rfl
    refine own_go (A := T104.setTop (mkF m 254 #[.val (.int p1), .val (.ref b1), .val (.ref b104), .val (.int (6 : Int32)), .val (.ref ad6), .unset, .unset] [])) (fun t_ k_ => ?_) ?_
    · show Steps p.tables e below (T104.setTop (mkF m 248 #[.val (.int p1), .val (.ref b1), .val (.ref b104), .unset, .unset, .unset, .unset] [(.int (6 : Int32))])) t_
      refine XS.istoreN X104.here hx rfl (hb hby at_248) rfl (l' := #[.val (.int p1), .val (.ref b1), .val (.ref b104), .val (.int (6 : Int32)), .unset, .unset, .unset]) rfl ?_
      show Steps p.tables e below (T104.setTop (mkF m 249 #[.val (.int p1), .val (.ref b1), .val (.ref b104), .val (.int (6 : Int32)), .unset, .unset, .unset] [])) t_
      refine XS.aloadN X104.here hx rfl (hb hby at_249) rfl rfl ?_
      show Steps p.tables e below (T104.setTop (mkF m 250 #[.val (.int p1), .val (.ref b1), .val (.ref b104), .val (.int (6 : Int32)), .unset, .unset, .unset] [(.ref b1)])) t_
      refine XS.iloadN X104.here hx rfl (hb hby at_250) rfl ?_
      show Steps p.tables e below (T104.setTop (mkF m 251 #[.val (.int p1), .val (.ref b1), .val (.ref b104), .val (.int (6 : Int32)), .unset, .unset, .unset] [(.int (6 : Int32)), (.ref b1)])) t_
      refine X104.aaload hx (j := (6 : Int32)) (v := (.ref ad6)) (by rw [e104]; exact Ar144.1) (State.isArrayOf_alike hZ.alike Ar144.2.1) rfl Ar144.2.2 hin144 hat144 (g := (mkF m 251 #[.val (.int p1), .val (.ref b1), .val (.ref b104), .val (.int (6 : Int32)), .unset, .unset, .unset] [(.int (6 : Int32)), (.ref b1)])) rfl rfl (hb hby at_251) _ ?_
      show Steps p.tables e below (T104.setTop (mkF m 252 #[.val (.int p1), .val (.ref b1), .val (.ref b104), .val (.int (6 : Int32)), .unset, .unset, .unset] [(.ref ad6)])) t_
      refine XS.astore X104.here hx rfl (hb hby at_252) rfl rfl (l' := #[.val (.int p1), .val (.ref b1), .val (.ref b104), .val (.int (6 : Int32)), .val (.ref ad6), .unset, .unset]) rfl ?_
      exact k_
    exact own_sufad6 l Z a0 hw p1 cs sf ad0 ad1 ad2 ad3 ad4 ad5 ad6 ad7 ad8 ad9 ad10 ad11 ad12 ad13 ad14 ad15 ad16 ad17 ad18 ad19 ad20 ad21 ad22 ad23 ad24 ad25 ad26 ad27 ad28 ad29 ad30 ad31 ad32 ad33 b1 b104 d104 kk104 h0 n0 Z0 X104 hx hZ hby hml hown Bd.returns (BodyLoose.notSynchronized Bd) hh e104 N103 K104 O104 hS hk hSA u1 u3 u27 u28 Ea104 Fc104 Fv104 Y106 hcs hsf hn0 hcw hlit
  · rw [hm107]
    obtain ⟨cl150, Ar150, q150, S150, M150, H150, G150⟩ := id Y105
    have hin150 : ¬ ((7 : Int32) < 0 ∨ cl150.slots.size ≤ ((7 : Int32)).toNatClampNeg) := inb_of S150 ⟨by decide, by decide⟩
    have hat150 : cl150.slots[((7 : Int32)).toNatClampNeg]? = some (.ref ad7) := Has.at H150 hin150 rfl
    refine own_go (A := T104.setTop (mkF m 254 #[.val (.int p1), .val (.ref b1), .val (.ref b104), .val (.int (7 : Int32)), .val (.ref ad7), .unset, .unset] [])) (fun t_ k_ => ?_) ?_
    · show Steps p.tables e below (T104.setTop (mkF m 248 #[.val (.int p1), .val (.ref b1), .val (.ref b104), .unset, .unset, .unset, .unset] [(.int (7 : Int32))])) t_
      refine XS.istoreN X104.here hx rfl (hb hby at_248) rfl (l' := #[.val (.int p1), .val (.ref b1), .val (.ref b104), .val (.int (7 : Int32)), .unset, .unset, .unset]) rfl ?_
      show Steps p.tables e below (T104.setTop (mkF m 249 #[.val (.int p1), .val (.ref b1), .val (.ref b104), .val (.int (7 : Int32)), .unset, .unset, .unset] [])) t_
      refine XS.aloadN X104.here hx rfl (hb hby at_249) rfl rfl ?_
      show Steps p.tables e below (T104.setTop (mkF m 250 #[.val (.int p1), .val (.ref b1), .val (.ref b104), .val (.int (7 : Int32)), .unset, .unset, .unset] [(.ref b1)])) t_
      refine XS.iloadN X104.here hx rfl (hb hby at_250) rfl ?_
      show Steps p.tables e below (T104.setTop (mkF m 251 #[.val (.int p1), .val (.ref b1), .val (.ref b104), .val (.int (7 : Int32)), .unset, .unset, .unset] [(.int (7 : Int32)), (.ref b1)])) t_
      refine X104.aaload hx (j := (7 : Int32)) (v := (.ref ad7)) (by rw [e104]; exact Ar150.1) (State.isArrayOf_alike hZ.alike Ar150.2.1) rfl Ar150.2.2 hin150 hat150 (g := (mkF m 251 #[.val (.int p1), .val (.ref b1), .val (.ref b104), .val (.int (7 : Int32)), .unset, .unset, .unset] [(.int (7 : Int32)), (.ref b1)])) rfl rfl (hb hby at_251) _ ?_
      show Steps p.tables e below (T104.setTop (mkF m 252 #[.val (.int p1), .val (.ref b1), .val (.ref b104), .val (.int (7 : Int32)), .unset, .unset, .unset] [(.ref ad7)])) t_
      refine XS.astore X104.here hx rfl (hb hby at_252) rfl rfl (l' := #[.val (.int p1), .val (.ref b1), .val (.ref b104), .val (.int (7 : Int32)), .val (.ref ad7), .unset, .unset]) rfl ?_
      exact k_
    exact own_sufad7 l Z a0 hw p1 cs sf ad0 ad1 ad2 ad3 ad4 ad5 ad6 ad7 ad8 ad9 ad10 ad11 ad12 ad13 ad14 ad15 ad16 ad17 ad18 ad19 ad20 ad21 ad22 ad23 ad24 ad25 ad26 ad27 ad28 ad29 ad30 ad31 ad32 ad33 b1 b104 d104 kk104 h0 n0 Z0 X104 hx hZ hby hml hown Bd.returns (BodyLoose.notSynchronized Bd) hh e104 N103 K104 O104 hS hk hSA u1 u3 u30 u31 Ea104 Fc104 Fv104 Y106 hcs hsf hn0 hcw hlit
  · rw [hm107]
    obtain ⟨cl156, Ar156, q156, S156, M156, H156, G156⟩ := id Y105
    have hin156 : ¬ ((8 : Int32) < 0 ∨ cl156.slots.size ≤ ((8 : Int32)).toNatClampNeg) := inb_of S156 ⟨by decide, by decide⟩
    have hat156 : cl156.slots[((8 : Int32)).toNatClampNeg]? = some (.ref ad8) := Has.at H156 hin156 rfl
    refine own_go (A := T104.setTop (mkF m 254 #[.val (.int p1), .val (.ref b1), .val (.ref b104), .val (.int (8 : Int32)), .val (.ref ad8), .unset, .unset] [])) (fun t_ k_ => ?_) ?_
    · show Steps p.tables e below (T104.setTop (mkF m 248 #[.val (.int p1), .val (.ref b1), .val (.ref b104), .unset, .unset, .unset, .unset] [(.int (8 : Int32))])) t_
      refine XS.istoreN X104.here hx rfl (hb hby at_248) rfl (l' := #[.val (.int p1), .val (.ref b1), .val (.ref b104), .val (.int (8 : Int32)), .unset, .unset, .unset]) rfl ?_
      show Steps p.tables e below (T104.setTop (mkF m 249 #[.val (.int p1), .val (.ref b1), .val (.ref b104), .val (.int (8 : Int32)), .unset, .unset, .unset] [])) t_
      refine XS.aloadN X104.here hx rfl (hb hby at_249) rfl rfl ?_
      show Steps p.tables e below (T104.setTop (mkF m 250 #[.val (.int p1), .val (.ref b1), .val (.ref b104), .val (.int (8 : Int32)), .unset, .unset, .unset] [(.ref b1)])) t_
      refine XS.iloadN X104.here hx rfl (hb hby at_250) rfl ?_
      show Steps p.tables e below (T104.setTop (mkF m 251 #[.val (.int p1), .val (.ref b1), .val (.ref b104), .val (.int (8 : Int32)), .unset, .unset, .unset] [(.int (8 : Int32)), (.ref b1)])) t_
      refine X104.aaload hx (j := (8 : Int32)) (v := (.ref ad8)) (by rw [e104]; exact Ar156.1) (State.isArrayOf_alike hZ.alike Ar156.2.1) rfl Ar156.2.2 hin156 hat156 (g := (mkF m 251 #[.val (.int p1), .val (.ref b1), .val (.ref b104), .val (.int (8 : Int32)), .unset, .unset, .unset] [(.int (8 : Int32)), (.ref b1)])) rfl rfl (hb hby at_251) _ ?_
      show Steps p.tables e below (T104.setTop (mkF m 252 #[.val (.int p1), .val (.ref b1), .val (.ref b104), .val (.int (8 : Int32)), .unset, .unset, .unset] [(.ref ad8)])) t_
      refine XS.astore X104.here hx rfl (hb hby at_252) rfl rfl (l' := #[.val (.int p1), .val (.ref b1), .val (.ref b104), .val (.int (8 : Int32)), .val (.ref ad8), .unset, .unset]) rfl ?_
      exact k_
    exact own_sufad8 l Z a0 hw p1 cs sf ad0 ad1 ad2 ad3 ad4 ad5 ad6 ad7 ad8 ad9 ad10 ad11 ad12 ad13 ad14 ad15 ad16 ad17 ad18 ad19 ad20 ad21 ad22 ad23 ad24 ad25 ad26 ad27 ad28 ad29 ad30 ad31 ad32 ad33 b1 b104 d104 kk104 h0 n0 Z0 X104 hx hZ hby hml hown Bd.returns (BodyLoose.notSynchronized Bd) hh e104 N103 K104 O104 hS hk hSA u1 u3 u33 u34 Ea104 Fc104 Fv104 Y106 hcs hsf hn0 hcw hlit
  · rw [hm107]
    obtain ⟨cl162, Ar162, q162, S162, M162, H162, G162⟩ := id Y105
    have hin162 : ¬ ((9 : Int32) < 0 ∨ cl162.slots.size ≤ ((9 : Int32)).toNatClampNeg) := inb_of S162 ⟨by decide, by decide⟩
    have hat162 : cl162.slots[((9 : Int32)).toNatClampNeg]? = some (.ref ad9) := Has.at H162 hin162 rfl
    refine own_go (A := T104.setTop (mkF m 254 #[.val (.int p1), .val (.ref b1), .val (.ref b104), .val (.int (9 : Int32)), .val (.ref ad9), .unset, .unset] [])) (fun t_ k_ => ?_) ?_
    · show Steps p.tables e below (T104.setTop (mkF m 248 #[.val (.int p1), .val (.ref b1), .val (.ref b104), .unset, .unset, .unset, .unset] [(.int (9 : Int32))])) t_
      refine XS.istoreN X104.here hx rfl (hb hby at_248) rfl (l' := #[.val (.int p1), .val (.ref b1), .val (.ref b104), .val (.int (9 : Int32)), .unset, .unset, .unset]) rfl ?_
      show Steps p.tables e below (T104.setTop (mkF m 249 #[.val (.int p1), .val (.ref b1), .val (.ref b104), .val (.int (9 : Int32)), .unset, .unset, .unset] [])) t_
      refine XS.aloadN X104.here hx rfl (hb hby at_249) rfl rfl ?_
      show Steps p.tables e below (T104.setTop (mkF m 250 #[.val (.int p1), .val (.ref b1), .val (.ref b104), .val (.int (9 : Int32)), .unset, .unset, .unset] [(.ref b1)])) t_
      refine XS.iloadN X104.here hx rfl (hb hby at_250) rfl ?_
      show Steps p.tables e below (T104.setTop (mkF m 251 #[.val (.int p1), .val (.ref b1), .val (.ref b104), .val (.int (9 : Int32)), .unset, .unset, .unset] [(.int (9 : Int32)), (.ref b1)])) t_
      refine X104.aaload hx (j := (9 : Int32)) (v := (.ref ad9)) (by rw [e104]; exact Ar162.1) (State.isArrayOf_alike hZ.alike Ar162.2.1) rfl Ar162.2.2 hin162 hat162 (g := (mkF m 251 #[.val (.int p1), .val (.ref b1), .val (.ref b104), .val (.int (9 : Int32)), .unset, .unset, .unset] [(.int (9 : Int32)), (.ref b1)])) rfl rfl (hb hby at_251) _ ?_
      show Steps p.tables e below (T104.setTop (mkF m 252 #[.val (.int p1), .val (.ref b1), .val (.ref b104), .val (.int (9 : Int32)), .unset, .unset, .unset] [(.ref ad9)])) t_
      refine XS.astore X104.here hx rfl (hb hby at_252) rfl rfl (l' := #[.val (.int p1), .val (.ref b1), .val (.ref b104), .val (.int (9 : Int32)), .val (.ref ad9), .unset, .unset]) rfl ?_
      exact k_
    exact own_sufad9 l Z a0 hw p1 cs sf ad0 ad1 ad2 ad3 ad4 ad5 ad6 ad7 ad8 ad9 ad10 ad11 ad12 ad13 ad14 ad15 ad16 ad17 ad18 ad19 ad20 ad21 ad22 ad23 ad24 ad25 ad26 ad27 ad28 ad29 ad30 ad31 ad32 ad33 b1 b104 d104 kk104 h0 n0 Z0 X104 hx hZ hby hml hown Bd.returns (BodyLoose.notSynchronized Bd) hh e104 N103 K104 O104 hS hk hSA u1 u3 u36 u37 Ea104 Fc104 Fv104 Y106 hcs hsf hn0 hcw hlit
  · rw [hm107]
    obtain ⟨cl168, Ar168, q168, S168, M168, H168, G168⟩ := id Y105
    have hin168 : ¬ ((10 : Int32) < 0 ∨ cl168.slots.size ≤ ((10 : Int32)).toNatClampNeg) := inb_of S168 ⟨by decide, by decide⟩
    have hat168 : cl168.slots[((10 : Int32)).toNatClampNeg]? = some (.ref ad10) := Has.at H168 hin168 rfl
    refine own_go (A := T104.setTop (mkF m 254 #[.val (.int p1), .val (.ref b1), .val (.ref b104), .val (.int (10 : Int32)), .val (.ref ad10), .unset, .unset] [])) (fun t_ k_ => ?_) ?_
    · show Steps p.tables e below (T104.setTop (mkF m 248 #[.val (.int p1), .val (.ref b1), .val (.ref b104), .unset, .unset, .unset, .unset] [(.int (10 : Int32))])) t_
      refine XS.istoreN X104.here hx rfl (hb hby at_248) rfl (l' := #[.val (.int p1), .val (.ref b1), .val (.ref b104), .val (.int (10 : Int32)), .unset, .unset, .unset]) rfl ?_
      show Steps p.tables e below (T104.setTop (mkF m 249 #[.val (.int p1), .val (.ref b1), .val (.ref b104), .val (.int (10 : Int32)), .unset, .unset, .unset] [])) t_
      refine XS.aloadN X104.here hx rfl (hb hby at_249) rfl rfl ?_
      show Steps p.tables e below (T104.setTop (mkF m 250 #[.val (.int p1), .val (.ref b1), .val (.ref b104), .val (.int (10 : Int32)), .unset, .unset, .unset] [(.ref b1)])) t_
      refine XS.iloadN X104.here hx rfl (hb hby at_250) rfl ?_
      show Steps p.tables e below (T104.setTop (mkF m 251 #[.val (.int p1), .val (.ref b1), .val (.ref b104), .val (.int (10 : Int32)), .unset, .unset, .unset] [(.int (10 : Int32)), (.ref b1)])) t_
      refine X104.aaload hx (j := (10 : Int32)) (v := (.ref ad10)) (by rw [e104]; exact Ar168.1) (State.isArrayOf_alike hZ.alike Ar168.2.1) rfl Ar168.2.2 hin168 hat168 (g := (mkF m 251 #[.val (.int p1), .val (.ref b1), .val (.ref b104), .val (.int (10 : Int32)), .unset, .unset, .unset] [(.int (10 : Int32)), (.ref b1)])) rfl rfl (hb hby at_251) _ ?_
      show Steps p.tables e below (T104.setTop (mkF m 252 #[.val (.int p1), .val (.ref b1), .val (.ref b104), .val (.int (10 : Int32)), .unset, .unset, .unset] [(.ref ad10)])) t_
      refine XS.astore X104.here hx rfl (hb hby at_252) rfl rfl (l' := #[.val (.int p1), .val (.ref b1), .val (.ref b104), .val (.int (10 : Int32)), .val (.ref ad10), .unset, .unset]) rfl ?_
      exact k_
    exact own_sufad10 l Z a0 hw p1 cs sf ad0 ad1 ad2 ad3 ad4 ad5 ad6 ad7 ad8 ad9 ad10 ad11 ad12 ad13 ad14 ad15 ad16 ad17 ad18 ad19 ad20 ad21 ad22 ad23 ad24 ad25 ad26 ad27 ad28 ad29 ad30 ad31 ad32 ad33 b1 b104 d104 kk104 h0 n0 Z0 X104 hx hZ hby hml hown Bd.returns (BodyLoose.notSynchronized Bd) hh e104 N103 K104 O104 hS hk hSA u1 u3 u39 u40 Ea104 Fc104 Fv104 Y106 hcs hsf hn0 hcw hlit
  · rw [hm107]
    obtain ⟨cl174, Ar174, q174, S174, M174, H174, G174⟩ := id Y105
    have hin174 : ¬ ((11 : Int32) < 0 ∨ cl174.slots.size ≤ ((11 : Int32)).toNatClampNeg) := inb_of S174 ⟨by decide, by decide⟩
    have hat174 : cl174.slots[((11 : Int32)).toNatClampNeg]? = some (.ref ad11) := Has.at H174 hin174 rfl
    refine own_go (A := T104.setTop (mkF m 254 #[.val (.int p1), .val (.ref b1), .val (.ref b104), .val (.int (11 : Int32)), .val (.ref ad11), .unset, .unset] [])) (fun t_ k_ => ?_) ?_
    · show Steps p.tables e below (T104.setTop (mkF m 248 #[.val (.int p1), .val (.ref b1), .val (.ref b104), .unset, .unset, .unset, .unset] [(.int (11 : Int32))])) t_
      refine XS.istoreN X104.here hx rfl (hb hby at_248) rfl (l' := #[.val (.int p1), .val (.ref b1), .val (.ref b104), .val (.int (11 : Int32)), .unset, .unset, .unset]) rfl ?_
      show Steps p.tables e below (T104.setTop (mkF m 249 #[.val (.int p1), .val (.ref b1), .val (.ref b104), .val (.int (11 : Int32)), .unset, .unset, .unset] [])) t_
      refine XS.aloadN X104.here hx rfl (hb hby at_249) rfl rfl ?_
      show Steps p.tables e below (T104.setTop (mkF m 250 #[.val (.int p1), .val (.ref b1), .val (.ref b104), .val (.int (11 : Int32)), .unset, .unset, .unset] [(.ref b1)])) t_
      refine XS.iloadN X104.here hx rfl (hb hby at_250) rfl ?_
      show Steps p.tables e below (T104.setTop (mkF m 251 #[.val (.int p1), .val (.ref b1), .val (.ref b104), .val (.int (11 : Int32)), .unset, .unset, .unset] [(.int (11 : Int32)), (.ref b1)])) t_
      refine X104.aaload hx (j := (11 : Int32)) (v := (.ref ad11)) (by rw [e104]; exact Ar174.1) (State.isArrayOf_alike hZ.alike Ar174.2.1) rfl Ar174.2.2 hin174 hat174 (g := (mkF m 251 #[.val (.int p1), .val (.ref b1), .val (.ref b104), .val (.int (11 : Int32)), .unset, .unset, .unset] [(.int (11 : Int32)), (.ref b1)])) rfl rfl (hb hby at_251) _ ?_
      show Steps p.tables e below (T104.setTop (mkF m 252 #[.val (.int p1), .val (.ref b1), .val (.ref b104), .val (.int (11 : Int32)), .unset, .unset, .unset] [(.ref ad11)])) t_
      refine XS.astore X104.here hx rfl (hb hby at_252) rfl rfl (l' := #[.val (.int p1), .val (.ref b1), .val (.ref b104), .val (.int (11 : Int32)), .val (.ref ad11), .unset, .unset]) rfl ?_
      exact k_
    exact own_sufad11 l Z a0 hw p1 cs sf ad0 ad1 ad2 ad3 ad4 ad5 ad6 ad7 ad8 ad9 ad10 ad11 ad12 ad13 ad14 ad15 ad16 ad17 ad18 ad19 ad20 ad21 ad22 ad23 ad24 ad25 ad26 ad27 ad28 ad29 ad30 ad31 ad32 ad33 b1 b104 d104 kk104 h0 n0 Z0 X104 hx hZ hby hml hown Bd.returns (BodyLoose.notSynchronized Bd) hh e104 N103 K104 O104 hS hk hSA u1 u3 u42 u43 Ea104 Fc104 Fv104 Y106 hcs hsf hn0 hcw hlit
  · rw [hm107]
    obtain ⟨cl180, Ar180, q180, S180, M180, H180, G180⟩ := id Y105
    have hin180 : ¬ ((12 : Int32) < 0 ∨ cl180.slots.size ≤ ((12 : Int32)).toNatClampNeg) := inb_of S180 ⟨by decide, by decide⟩
    have hat180 : cl180.slots[((12 : Int32)).toNatClampNeg]? = some (.ref ad12) := Has.at H180 hin180 rfl
    refine own_go (A := T104.setTop (mkF m 254 #[.val (.int p1), .val (.ref b1), .val (.ref b104), .val (.int (12 : Int32)), .val (.ref ad12), .unset, .unset] [])) (fun t_ k_ => ?_) ?_
    · show Steps p.tables e below (T104.setTop (mkF m 248 #[.val (.int p1), .val (.ref b1), .val (.ref b104), .unset, .unset, .unset, .unset] [(.int (12 : Int32))])) t_
      refine XS.istoreN X104.here hx rfl (hb hby at_248) rfl (l' := #[.val (.int p1), .val (.ref b1), .val (.ref b104), .val (.int (12 : Int32)), .unset, .unset, .unset]) rfl ?_
      show Steps p.tables e below (T104.setTop (mkF m 249 #[.val (.int p1), .val (.ref b1), .val (.ref b104), .val (.int (12 : Int32)), .unset, .unset, .unset] [])) t_
      refine XS.aloadN X104.here hx rfl (hb hby at_249) rfl rfl ?_
      show Steps p.tables e below (T104.setTop (mkF m 250 #[.val (.int p1), .val (.ref b1), .val (.ref b104), .val (.int (12 : Int32)), .unset, .unset, .unset] [(.ref b1)])) t_
      refine XS.iloadN X104.here hx rfl (hb hby at_250) rfl ?_
      show Steps p.tables e below (T104.setTop (mkF m 251 #[.val (.int p1), .val (.ref b1), .val (.ref b104), .val (.int (12 : Int32)), .unset, .unset, .unset] [(.int (12 : Int32)), (.ref b1)])) t_
      refine X104.aaload hx (j := (12 : Int32)) (v := (.ref ad12)) (by rw [e104]; exact Ar180.1) (State.isArrayOf_alike hZ.alike Ar180.2.1) rfl Ar180.2.2 hin180 hat180 (g := (mkF m 251 #[.val (.int p1), .val (.ref b1), .val (.ref b104), .val (.int (12 : Int32)), .unset, .unset, .unset] [(.int (12 : Int32)), (.ref b1)])) rfl rfl (hb hby at_251) _ ?_
      show Steps p.tables e below (T104.setTop (mkF m 252 #[.val (.int p1), .val (.ref b1), .val (.ref b104), .val (.int (12 : Int32)), .unset, .unset, .unset] [(.ref ad12)])) t_
      refine XS.astore X104.here hx rfl (hb hby at_252) rfl rfl (l' := #[.val (.int p1), .val (.ref b1), .val (.ref b104), .val (.int (12 : Int32)), .val (.ref ad12), .unset, .unset]) rfl ?_
      exact k_
    exact own_sufad12 l Z a0 hw p1 cs sf ad0 ad1 ad2 ad3 ad4 ad5 ad6 ad7 ad8 ad9 ad10 ad11 ad12 ad13 ad14 ad15 ad16 ad17 ad18 ad19 ad20 ad21 ad22 ad23 ad24 ad25 ad26 ad27 ad28 ad29 ad30 ad31 ad32 ad33 b1 b104 d104 kk104 h0 n0 Z0 X104 hx hZ hby hml hown Bd.returns (BodyLoose.notSynchronized Bd) hh e104 N103 K104 O104 hS hk hSA u1 u3 u45 u46 Ea104 Fc104 Fv104 Y106 hcs hsf hn0 hcw hlit
  · rw [hm107]
    obtain ⟨cl186, Ar186, q186, S186, M186, H186, G186⟩ := id Y105
    have hin186 : ¬ ((13 : Int32) < 0 ∨ cl186.slots.size ≤ ((13 : Int32)).toNatClampNeg) := inb_of S186 ⟨by decide, by decide⟩
    have hat186 : cl186.slots[((13 : Int32)).toNatClampNeg]? = some (.ref ad13) := Has.at H186 hin186 rfl
    refine own_go (A := T104.setTop (mkF m 254 #[.val (.int p1), .val (.ref b1), .val (.ref b104), .val (.int (13 : Int32)), .val (.ref ad13), .unset, .unset] [])) (fun t_ k_ => ?_) ?_
    · show Steps p.tables e below (T104.setTop (mkF m 248 #[.val (.int p1), .val (.ref b1), .val (.ref b104), .unset, .unset, .unset, .unset] [(.int (13 : Int32))])) t_
      refine XS.istoreN X104.here hx rfl (hb hby at_248) rfl (l' := #[.val (.int p1), .val (.ref b1), .val (.ref b104), .val (.int (13 : Int32)), .unset, .unset, .unset]) rfl ?_
      show Steps p.tables e below (T104.setTop (mkF m 249 #[.val (.int p1), .val (.ref b1), .val (.ref b104), .val (.int (13 : Int32)), .unset, .unset, .unset] [])) t_
      refine XS.aloadN X104.here hx rfl (hb hby at_249) rfl rfl ?_
      show Steps p.tables e below (T104.setTop (mkF m 250 #[.val (.int p1), .val (.ref b1), .val (.ref b104), .val (.int (13 : Int32)), .unset, .unset, .unset] [(.ref b1)])) t_
      refine XS.iloadN X104.here hx rfl (hb hby at_250) rfl ?_
      show Steps p.tables e below (T104.setTop (mkF m 251 #[.val (.int p1), .val (.ref b1), .val (.ref b104), .val (.int (13 : Int32)), .unset, .unset, .unset] [(.int (13 : Int32)), (.ref b1)])) t_
      refine X104.aaload hx (j := (13 : Int32)) (v := (.ref ad13)) (by rw [e104]; exact Ar186.1) (State.isArrayOf_alike hZ.alike Ar186.2.1) rfl Ar186.2.2 hin186 hat186 (g := (mkF m 251 #[.val (.int p1), .val (.ref b1), .val (.ref b104), .val (.int (13 : Int32)), .unset, .unset, .unset] [(.int (13 : Int32)), (.ref b1)])) rfl rfl (hb hby at_251) _ ?_
      show Steps p.tables e below (T104.setTop (mkF m 252 #[.val (.int p1), .val (.ref b1), .val (.ref b104), .val (.int (13 : Int32)), .unset, .unset, .unset] [(.ref ad13)])) t_
      refine XS.astore X104.here hx rfl (hb hby at_252) rfl rfl (l' := #[.val (.int p1), .val (.ref b1), .val (.ref b104), .val (.int (13 : Int32)), .val (.ref ad13), .unset, .unset]) rfl ?_
      exact k_
    exact own_sufad13 l Z a0 hw p1 cs sf ad0 ad1 ad2 ad3 ad4 ad5 ad6 ad7 ad8 ad9 ad10 ad11 ad12 ad13 ad14 ad15 ad16 ad17 ad18 ad19 ad20 ad21 ad22 ad23 ad24 ad25 ad26 ad27 ad28 ad29 ad30 ad31 ad32 ad33 b1 b104 d104 kk104 h0 n0 Z0 X104 hx hZ hby hml hown Bd.returns (BodyLoose.notSynchronized Bd) hh e104 N103 K104 O104 hS hk hSA u1 u3 u48 u49 Ea104 Fc104 Fv104 Y106 hcs hsf hn0 hcw hlit
  · rw [hm107]
    obtain ⟨cl192, Ar192, q192, S192, M192, H192, G192⟩ := id Y105
    have hin192 : ¬ ((14 : Int32) < 0 ∨ cl192.slots.size ≤ ((14 : Int32)).toNatClampNeg) := inb_of S192 ⟨by decide, by decide⟩
    have hat192 : cl192.slots[((14 : Int32)).toNatClampNeg]? = some (.ref ad14) := Has.at H192 hin192 rfl
    refine own_go (A := T104.setTop (mkF m 254 #[.val (.int p1), .val (.ref b1), .val (.ref b104), .val (.int (14 : Int32)), .val (.ref ad14), .unset, .unset] [])) (fun t_ k_ => ?_) ?_
    · show Steps p.tables e below (T104.setTop (mkF m 248 #[.val (.int p1), .val (.ref b1), .val (.ref b104), .unset, .unset, .unset, .unset] [(.int (14 : Int32))])) t_
      refine XS.istoreN X104.here hx rfl (hb hby at_248) rfl (l' := #[.val (.int p1), .val (.ref b1), .val (.ref b104), .val (.int (14 : Int32)), .unset, .unset, .unset]) rfl ?_
      show Steps p.tables e below (T104.setTop (mkF m 249 #[.val (.int p1), .val (.ref b1), .val (.ref b104), .val (.int (14 : Int32)), .unset, .unset, .unset] [])) t_
      refine XS.aloadN X104.here hx rfl (hb hby at_249) rfl rfl ?_
      show Steps p.tables e below (T104.setTop (mkF m 250 #[.val (.int p1), .val (.ref b1), .val (.ref b104), .val (.int (14 : Int32)), .unset, .unset, .unset] [(.ref b1)])) t_
      refine XS.iloadN X104.here hx rfl (hb hby at_250) rfl ?_
      show Steps p.tables e below (T104.setTop (mkF m 251 #[.val (.int p1), .val (.ref b1), .val (.ref b104), .val (.int (14 : Int32)), .unset, .unset, .unset] [(.int (14 : Int32)), (.ref b1)])) t_
      refine X104.aaload hx (j := (14 : Int32)) (v := (.ref ad14)) (by rw [e104]; exact Ar192.1) (State.isArrayOf_alike hZ.alike Ar192.2.1) rfl Ar192.2.2 hin192 hat192 (g := (mkF m 251 #[.val (.int p1), .val (.ref b1), .val (.ref b104), .val (.int (14 : Int32)), .unset, .unset, .unset] [(.int (14 : Int32)), (.ref b1)])) rfl rfl (hb hby at_251) _ ?_
      show Steps p.tables e below (T104.setTop (mkF m 252 #[.val (.int p1), .val (.ref b1), .val (.ref b104), .val (.int (14 : Int32)), .unset, .unset, .unset] [(.ref ad14)])) t_
      refine XS.astore X104.here hx rfl (hb hby at_252) rfl rfl (l' := #[.val (.int p1), .val (.ref b1), .val (.ref b104), .val (.int (14 : Int32)), .val (.ref ad14), .unset, .unset]) rfl ?_
      exact k_
    exact own_sufad14 l Z a0 hw p1 cs sf ad0 ad1 ad2 ad3 ad4 ad5 ad6 ad7 ad8 ad9 ad10 ad11 ad12 ad13 ad14 ad15 ad16 ad17 ad18 ad19 ad20 ad21 ad22 ad23 ad24 ad25 ad26 ad27 ad28 ad29 ad30 ad31 ad32 ad33 b1 b104 d104 kk104 h0 n0 Z0 X104 hx hZ hby hml hown Bd.returns (BodyLoose.notSynchronized Bd) hh e104 N103 K104 O104 hS hk hSA u1 u3 u51 u52 Ea104 Fc104 Fv104 Y106 hcs hsf hn0 hcw hlit
  · rw [hm107]
    obtain ⟨cl198, Ar198, q198, S198, M198, H198, G198⟩ := id Y105
    have hin198 : ¬ ((15 : Int32) < 0 ∨ cl198.slots.size ≤ ((15 : Int32)).toNatClampNeg) := inb_of S198 ⟨by decide, by decide⟩
    have hat198 : cl198.slots[((15 : Int32)).toNatClampNeg]? = some (.ref ad15) := Has.at H198 hin198 rfl
    refine own_go (A := T104.setTop (mkF m 254 #[.val (.int p1), .val (.ref b1), .val (.ref b104), .val (.int (15 : Int32)), .val (.ref ad15), .unset, .unset] [])) (fun t_ k_ => ?_) ?_
    · show Steps p.tables e below (T104.setTop (mkF m 248 #[.val (.int p1), .val (.ref b1), .val (.ref b104), .unset, .unset, .unset, .unset] [(.int (15 : Int32))])) t_
      refine XS.istoreN X104.here hx rfl (hb hby at_248) rfl (l' := #[.val (.int p1), .val (.ref b1), .val (.ref b104), .val (.int (15 : Int32)), .unset, .unset, .unset]) rfl ?_
      show Steps p.tables e below (T104.setTop (mkF m 249 #[.val (.int p1), .val (.ref b1), .val (.ref b104), .val (.int (15 : Int32)), .unset, .unset, .unset] [])) t_
      refine XS.aloadN X104.here hx rfl (hb hby at_249) rfl rfl ?_
      show Steps p.tables e below (T104.setTop (mkF m 250 #[.val (.int p1), .val (.ref b1), .val (.ref b104), .val (.int (15 : Int32)), .unset, .unset, .unset] [(.ref b1)])) t_
      refine XS.iloadN X104.here hx rfl (hb hby at_250) rfl ?_
      show Steps p.tables e below (T104.setTop (mkF m 251 #[.val (.int p1), .val (.ref b1), .val (.ref b104), .val (.int (15 : Int32)), .unset, .unset, .unset] [(.int (15 : Int32)), (.ref b1)])) t_
      refine X104.aaload hx (j := (15 : Int32)) (v := (.ref ad15)) (by rw [e104]; exact Ar198.1) (State.isArrayOf_alike hZ.alike Ar198.2.1) rfl Ar198.2.2 hin198 hat198 (g := (mkF m 251 #[.val (.int p1), .val (.ref b1), .val (.ref b104), .val (.int (15 : Int32)), .unset, .unset, .unset] [(.int (15 : Int32)), (.ref b1)])) rfl rfl (hb hby at_251) _ ?_
      show Steps p.tables e below (T104.setTop (mkF m 252 #[.val (.int p1), .val (.ref b1), .val (.ref b104), .val (.int (15 : Int32)), .unset, .unset, .unset] [(.ref ad15)])) t_
      refine XS.astore X104.here hx rfl (hb hby at_252) rfl rfl (l' := #[.val (.int p1), .val (.ref b1), .val (.ref b104), .val (.int (15 : Int32)), .val (.ref ad15), .unset, .unset]) rfl ?_
      exact k_
    exact own_sufad15 l Z a0 hw p1 cs sf ad0 ad1 ad2 ad3 ad4 ad5 ad6 ad7 ad8 ad9 ad10 ad11 ad12 ad13 ad14 ad15 ad16 ad17 ad18 ad19 ad20 ad21 ad22 ad23 ad24 ad25 ad26 ad27 ad28 ad29 ad30 ad31 ad32 ad33 b1 b104 d104 kk104 h0 n0 Z0 X104 hx hZ hby hml hown Bd.returns (BodyLoose.notSynchronized Bd) hh e104 N103 K104 O104 hS hk hSA u1 u3 u54 u55 Ea104 Fc104 Fv104 Y106 hcs hsf hn0 hcw hlit
  · rw [hm107]
    obtain ⟨cl204, Ar204, q204, S204, M204, H204, G204⟩ := id Y105
    have hin204 : ¬ ((16 : Int32) < 0 ∨ cl204.slots.size ≤ ((16 : Int32)).toNatClampNeg) := inb_of S204 ⟨by decide, by decide⟩
    have hat204 : cl204.slots[((16 : Int32)).toNatClampNeg]? = some (.ref ad16) := Has.at H204 hin204 rfl
    refine own_go (A := T104.setTop (mkF m 254 #[.val (.int p1), .val (.ref b1), .val (.ref b104), .val (.int (16 : Int32)), .val (.ref ad16), .unset, .unset] [])) (fun t_ k_ => ?_) ?_
    · show Steps p.tables e below (T104.setTop (mkF m 248 #[.val (.int p1), .val (.ref b1), .val (.ref b104), .unset, .unset, .unset, .unset] [(.int (16 : Int32))])) t_
      refine XS.istoreN X104.here hx rfl (hb hby at_248) rfl (l' := #[.val (.int p1), .val (.ref b1), .val (.ref b104), .val (.int (16 : Int32)), .unset, .unset, .unset]) rfl ?_
      show Steps p.tables e below (T104.setTop (mkF m 249 #[.val (.int p1), .val (.ref b1), .val (.ref b104), .val (.int (16 : Int32)), .unset, .unset, .unset] [])) t_
      refine XS.aloadN X104.here hx rfl (hb hby at_249) rfl rfl ?_
      show Steps p.tables e below (T104.setTop (mkF m 250 #[.val (.int p1), .val (.ref b1), .val (.ref b104), .val (.int (16 : Int32)), .unset, .unset, .unset] [(.ref b1)])) t_
      refine XS.iloadN X104.here hx rfl (hb hby at_250) rfl ?_
      show Steps p.tables e below (T104.setTop (mkF m 251 #[.val (.int p1), .val (.ref b1), .val (.ref b104), .val (.int (16 : Int32)), .unset, .unset, .unset] [(.int (16 : Int32)), (.ref b1)])) t_
      refine X104.aaload hx (j := (16 : Int32)) (v := (.ref ad16)) (by rw [e104]; exact Ar204.1) (State.isArrayOf_alike hZ.alike Ar204.2.1) rfl Ar204.2.2 hin204 hat204 (g := (mkF m 251 #[.val (.int p1), .val (.ref b1), .val (.ref b104), .val (.int (16 : Int32)), .unset, .unset, .unset] [(.int (16 : Int32)), (.ref b1)])) rfl rfl (hb hby at_251) _ ?_
      show Steps p.tables e below (T104.setTop (mkF m 252 #[.val (.int p1), .val (.ref b1), .val (.ref b104), .val (.int (16 : Int32)), .unset, .unset, .unset] [(.ref ad16)])) t_
      refine XS.astore X104.here hx rfl (hb hby at_252) rfl rfl (l' := #[.val (.int p1), .val (.ref b1), .val (.ref b104), .val (.int (16 : Int32)), .val (.ref ad16), .unset, .unset]) rfl ?_
      exact k_
    exact own_sufad16 l Z a0 hw p1 cs sf ad0 ad1 ad2 ad3 ad4 ad5 ad6 ad7 ad8 ad9 ad10 ad11 ad12 ad13 ad14 ad15 ad16 ad17 ad18 ad19 ad20 ad21 ad22 ad23 ad24 ad25 ad26 ad27 ad28 ad29 ad30 ad31 ad32 ad33 b1 b104 d104 kk104 h0 n0 Z0 X104 hx hZ hby hml hown Bd.returns (BodyLoose.notSynchronized Bd) hh e104 N103 K104 O104 hS hk hSA u1 u3 u57 u58 Ea104 Fc104 Fv104 Y106 hcs hsf hn0 hcw hlit
  · rw [hm107]
    obtain ⟨cl210, Ar210, q210, S210, M210, H210, G210⟩ := id Y105
    have hin210 : ¬ ((17 : Int32) < 0 ∨ cl210.slots.size ≤ ((17 : Int32)).toNatClampNeg) := inb_of S210 ⟨by decide, by decide⟩
    have hat210 : cl210.slots[((17 : Int32)).toNatClampNeg]? = some (.ref ad17) := Has.at H210 hin210 rfl
    refine own_go (A := T104.setTop (mkF m 254 #[.val (.int p1), .val (.ref b1), .val (.ref b104), .val (.int (17 : Int32)), .val (.ref ad17), .unset, .unset] [])) (fun t_ k_ => ?_) ?_
    · show Steps p.tables e below (T104.setTop (mkF m 248 #[.val (.int p1), .val (.ref b1), .val (.ref b104), .unset, .unset, .unset, .unset] [(.int (17 : Int32))])) t_
      refine XS.istoreN X104.here hx rfl (hb hby at_248) rfl (l' := #[.val (.int p1), .val (.ref b1), .val (.ref b104), .val (.int (17 : Int32)), .unset, .unset, .unset]) rfl ?_
      show Steps p.tables e below (T104.setTop (mkF m 249 #[.val (.int p1), .val (.ref b1), .val (.ref b104), .val (.int (17 : Int32)), .unset, .unset, .unset] [])) t_
      refine XS.aloadN X104.here hx rfl (hb hby at_249) rfl rfl ?_
      show Steps p.tables e below (T104.setTop (mkF m 250 #[.val (.int p1), .val (.ref b1), .val (.ref b104), .val (.int (17 : Int32)), .unset, .unset, .unset] [(.ref b1)])) t_
      refine XS.iloadN X104.here hx rfl (hb hby at_250) rfl ?_
      show Steps p.tables e below (T104.setTop (mkF m 251 #[.val (.int p1), .val (.ref b1), .val (.ref b104), .val (.int (17 : Int32)), .unset, .unset, .unset] [(.int (17 : Int32)), (.ref b1)])) t_
      refine X104.aaload hx (j := (17 : Int32)) (v := (.ref ad17)) (by rw [e104]; exact Ar210.1) (State.isArrayOf_alike hZ.alike Ar210.2.1) rfl Ar210.2.2 hin210 hat210 (g := (mkF m 251 #[.val (.int p1), .val (.ref b1), .val (.ref b104), .val (.int (17 : Int32)), .unset, .unset, .unset] [(.int (17 : Int32)), (.ref b1)])) rfl rfl (hb hby at_251) _ ?_
      show Steps p.tables e below (T104.setTop (mkF m 252 #[.val (.int p1), .val (.ref b1), .val (.ref b104), .val (.int (17 : Int32)), .unset, .unset, .unset] [(.ref ad17)])) t_
      refine XS.astore X104.here hx rfl (hb hby at_252) rfl rfl (l' := #[.val (.int p1), .val (.ref b1), .val (.ref b104), .val (.int (17 : Int32)), .val (.ref ad17), .unset, .unset]) rfl ?_
      exact k_
    exact own_sufad17 l Z a0 hw p1 cs sf ad0 ad1 ad2 ad3 ad4 ad5 ad6 ad7 ad8 ad9 ad10 ad11 ad12 ad13 ad14 ad15 ad16 ad17 ad18 ad19 ad20 ad21 ad22 ad23 ad24 ad25 ad26 ad27 ad28 ad29 ad30 ad31 ad32 ad33 b1 b104 d104 kk104 h0 n0 Z0 X104 hx hZ hby hml hown Bd.returns (BodyLoose.notSynchronized Bd) hh e104 N103 K104 O104 hS hk hSA u1 u3 u60 u61 Ea104 Fc104 Fv104 Y106 hcs hsf hn0 hcw hlit
  · rw [hm107]
    obtain ⟨cl216, Ar216, q216, S216, M216, H216, G216⟩ := id Y105
    have hin216 : ¬ ((18 : Int32) < 0 ∨ cl216.slots.size ≤ ((18 : Int32)).toNatClampNeg) := inb_of S216 ⟨by decide, by decide⟩
    have hat216 : cl216.slots[((18 : Int32)).toNatClampNeg]? = some (.ref ad18) := Has.at H216 hin216 rfl
    refine own_go (A := T104.setTop (mkF m 254 #[.val (.int p1), .val (.ref b1), .val (.ref b104), .val (.int (18 : Int32)), .val (.ref ad18), .unset, .unset] [])) (fun t_ k_ => ?_) ?_
    · show Steps p.tables e below (T104.setTop (mkF m 248 #[.val (.int p1), .val (.ref b1), .val (.ref b104), .unset, .unset, .unset, .unset] [(.int (18 : Int32))])) t_
      refine XS.istoreN X104.here hx rfl (hb hby at_248) rfl (l' := #[.val (.int p1), .val (.ref b1), .val (.ref b104), .val (.int (18 : Int32)), .unset, .unset, .unset]) rfl ?_
      show Steps p.tables e below (T104.setTop (mkF m 249 #[.val (.int p1), .val (.ref b1), .val (.ref b104), .val (.int (18 : Int32)), .unset, .unset, .unset] [])) t_
      refine XS.aloadN X104.here hx rfl (hb hby at_249) rfl rfl ?_
      show Steps p.tables e below (T104.setTop (mkF m 250 #[.val (.int p1), .val (.ref b1), .val (.ref b104), .val (.int (18 : Int32)), .unset, .unset, .unset] [(.ref b1)])) t_
      refine XS.iloadN X104.here hx rfl (hb hby at_250) rfl ?_
      show Steps p.tables e below (T104.setTop (mkF m 251 #[.val (.int p1), .val (.ref b1), .val (.ref b104), .val (.int (18 : Int32)), .unset, .unset, .unset] [(.int (18 : Int32)), (.ref b1)])) t_
      refine X104.aaload hx (j := (18 : Int32)) (v := (.ref ad18)) (by rw [e104]; exact Ar216.1) (State.isArrayOf_alike hZ.alike Ar216.2.1) rfl Ar216.2.2 hin216 hat216 (g := (mkF m 251 #[.val (.int p1), .val (.ref b1), .val (.ref b104), .val (.int (18 : Int32)), .unset, .unset, .unset] [(.int (18 : Int32)), (.ref b1)])) rfl rfl (hb hby at_251) _ ?_
      show Steps p.tables e below (T104.setTop (mkF m 252 #[.val (.int p1), .val (.ref b1), .val (.ref b104), .val (.int (18 : Int32)), .unset, .unset, .unset] [(.ref ad18)])) t_
      refine XS.astore X104.here hx rfl (hb hby at_252) rfl rfl (l' := #[.val (.int p1), .val (.ref b1), .val (.ref b104), .val (.int (18 : Int32)), .val (.ref ad18), .unset, .unset]) rfl ?_
      exact k_
    exact own_sufad18 l Z a0 hw p1 cs sf ad0 ad1 ad2 ad3 ad4 ad5 ad6 ad7 ad8 ad9 ad10 ad11 ad12 ad13 ad14 ad15 ad16 ad17 ad18 ad19 ad20 ad21 ad22 ad23 ad24 ad25 ad26 ad27 ad28 ad29 ad30 ad31 ad32 ad33 b1 b104 d104 kk104 h0 n0 Z0 X104 hx hZ hby hml hown Bd.returns (BodyLoose.notSynchronized Bd) hh e104 N103 K104 O104 hS hk hSA u1 u3 u63 u64 Ea104 Fc104 Fv104 Y106 hcs hsf hn0 hcw hlit
  · rw [hm107]
    obtain ⟨cl222, Ar222, q222, S222, M222, H222, G222⟩ := id Y105
    have hin222 : ¬ ((19 : Int32) < 0 ∨ cl222.slots.size ≤ ((19 : Int32)).toNatClampNeg) := inb_of S222 ⟨by decide, by decide⟩
    have hat222 : cl222.slots[((19 : Int32)).toNatClampNeg]? = some (.ref ad19) := Has.at H222 hin222 rfl
    refine own_go (A := T104.setTop (mkF m 254 #[.val (.int p1), .val (.ref b1), .val (.ref b104), .val (.int (19 : Int32)), .val (.ref ad19), .unset, .unset] [])) (fun t_ k_ => ?_) ?_
    · show Steps p.tables e below (T104.setTop (mkF m 248 #[.val (.int p1), .val (.ref b1), .val (.ref b104), .unset, .unset, .unset, .unset] [(.int (19 : Int32))])) t_
      refine XS.istoreN X104.here hx rfl (hb hby at_248) rfl (l' := #[.val (.int p1), .val (.ref b1), .val (.ref b104), .val (.int (19 : Int32)), .unset, .unset, .unset]) rfl ?_
      show Steps p.tables e below (T104.setTop (mkF m 249 #[.val (.int p1), .val (.ref b1), .val (.ref b104), .val (.int (19 : Int32)), .unset, .unset, .unset] [])) t_
      refine XS.aloadN X104.here hx rfl (hb hby at_249) rfl rfl ?_
      show Steps p.tables e below (T104.setTop (mkF m 250 #[.val (.int p1), .val (.ref b1), .val (.ref b104), .val (.int (19 : Int32)), .unset, .unset, .unset] [(.ref b1)])) t_
      refine XS.iloadN X104.here hx rfl (hb hby at_250) rfl ?_
      show Steps p.tables e below (T104.setTop (mkF m 251 #[.val (.int p1), .val (.ref b1), .val (.ref b104), .val (.int (19 : Int32)), .unset, .unset, .unset] [(.int (19 : Int32)), (.ref b1)])) t_
      refine X104.aaload hx (j := (19 : Int32)) (v := (.ref ad19)) (by rw [e104]; exact Ar222.1) (State.isArrayOf_alike hZ.alike Ar222.2.1) rfl Ar222.2.2 hin222 hat222 (g := (mkF m 251 #[.val (.int p1), .val (.ref b1), .val (.ref b104), .val (.int (19 : Int32)), .unset, .unset, .unset] [(.int (19 : Int32)), (.ref b1)])) rfl rfl (hb hby at_251) _ ?_
      show Steps p.tables e below (T104.setTop (mkF m 252 #[.val (.int p1), .val (.ref b1), .val (.ref b104), .val (.int (19 : Int32)), .unset, .unset, .unset] [(.ref ad19)])) t_
      refine XS.astore X104.here hx rfl (hb hby at_252) rfl rfl (l' := #[.val (.int p1), .val (.ref b1), .val (.ref b104), .val (.int (19 : Int32)), .val (.ref ad19), .unset, .unset]) rfl ?_
      exact k_
    exact own_sufad19 l Z a0 hw p1 cs sf ad0 ad1 ad2 ad3 ad4 ad5 ad6 ad7 ad8 ad9 ad10 ad11 ad12 ad13 ad14 ad15 ad16 ad17 ad18 ad19 ad20 ad21 ad22 ad23 ad24 ad25 ad26 ad27 ad28 ad29 ad30 ad31 ad32 ad33 b1 b104 d104 kk104 h0 n0 Z0 X104 hx hZ hby hml hown Bd.returns (BodyLoose.notSynchronized Bd) hh e104 N103 K104 O104 hS hk hSA u1 u3 u66 u67 Ea104 Fc104 Fv104 Y106 hcs hsf hn0 hcw hlit
  · rw [hm107]
    obtain ⟨cl228, Ar228, q228, S228, M228, H228, G228⟩ := id Y105
    have hin228 : ¬ ((20 : Int32) < 0 ∨ cl228.slots.size ≤ ((20 : Int32)).toNatClampNeg) := inb_of S228 ⟨by decide, by decide⟩
    have hat228 : cl228.slots[((20 : Int32)).toNatClampNeg]? = some (.ref ad20) := Has.at H228 hin228 rfl
    refine own_go (A := T104.setTop (mkF m 254 #[.val (.int p1), .val (.ref b1), .val (.ref b104), .val (.int (20 : Int32)), .val (.ref ad20), .unset, .unset] [])) (fun t_ k_ => ?_) ?_
    · show Steps p.tables e below (T104.setTop (mkF m 248 #[.val (.int p1), .val (.ref b1), .val (.ref b104), .unset, .unset, .unset, .unset] [(.int (20 : Int32))])) t_
      refine XS.istoreN X104.here hx rfl (hb hby at_248) rfl (l' := #[.val (.int p1), .val (.ref b1), .val (.ref b104), .val (.int (20 : Int32)), .unset, .unset, .unset]) rfl ?_
      show Steps p.tables e below (T104.setTop (mkF m 249 #[.val (.int p1), .val (.ref b1), .val (.ref b104), .val (.int (20 : Int32)), .unset, .unset, .unset] [])) t_
      refine XS.aloadN X104.here hx rfl (hb hby at_249) rfl rfl ?_
      show Steps p.tables e below (T104.setTop (mkF m 250 #[.val (.int p1), .val (.ref b1), .val (.ref b104), .val (.int (20 : Int32)), .unset, .unset, .unset] [(.ref b1)])) t_
      refine XS.iloadN X104.here hx rfl (hb hby at_250) rfl ?_
      show Steps p.tables e below (T104.setTop (mkF m 251 #[.val (.int p1), .val (.ref b1), .val (.ref b104), .val (.int (20 : Int32)), .unset, .unset, .unset] [(.int (20 : Int32)), (.ref b1)])) t_
      refine X104.aaload hx (j := (20 : Int32)) (v := (.ref ad20)) (by rw [e104]; exact Ar228.1) (State.isArrayOf_alike hZ.alike Ar228.2.1) rfl Ar228.2.2 hin228 hat228 (g := (mkF m 251 #[.val (.int p1), .val (.ref b1), .val (.ref b104), .val (.int (20 : Int32)), .unset, .unset, .unset] [(.int (20 : Int32)), (.ref b1)])) rfl rfl (hb hby at_251) _ ?_
      show Steps p.tables e below (T104.setTop (mkF m 252 #[.val (.int p1), .val (.ref b1), .val (.ref b104), .val (.int (20 : Int32)), .unset, .unset, .unset] [(.ref ad20)])) t_
      refine XS.astore X104.here hx rfl (hb hby at_252) rfl rfl (l' := #[.val (.int p1), .val (.ref b1), .val (.ref b104), .val (.int (20 : Int32)), .val (.ref ad20), .unset, .unset]) rfl ?_
      exact k_
    exact own_sufad20 l Z a0 hw p1 cs sf ad0 ad1 ad2 ad3 ad4 ad5 ad6 ad7 ad8 ad9 ad10 ad11 ad12 ad13 ad14 ad15 ad16 ad17 ad18 ad19 ad20 ad21 ad22 ad23 ad24 ad25 ad26 ad27 ad28 ad29 ad30 ad31 ad32 ad33 b1 b104 d104 kk104 h0 n0 Z0 X104 hx hZ hby hml hown Bd.returns (BodyLoose.notSynchronized Bd) hh e104 N103 K104 O104 hS hk hSA u1 u3 u69 u70 Ea104 Fc104 Fv104 Y106 hcs hsf hn0 hcw hlit
  · rw [hm107]
    obtain ⟨cl234, Ar234, q234, S234, M234, H234, G234⟩ := id Y105
    have hin234 : ¬ ((21 : Int32) < 0 ∨ cl234.slots.size ≤ ((21 : Int32)).toNatClampNeg) := inb_of S234 ⟨by decide, by decide⟩
    have hat234 : cl234.slots[((21 : Int32)).toNatClampNeg]? = some (.ref ad21) := Has.at H234 hin234 rfl
    refine own_go (A := T104.setTop (mkF m 254 #[.val (.int p1), .val (.ref b1), .val (.ref b104), .val (.int (21 : Int32)), .val (.ref ad21), .unset, .unset] [])) (fun t_ k_ => ?_) ?_
    · show Steps p.tables e below (T104.setTop (mkF m 248 #[.val (.int p1), .val (.ref b1), .val (.ref b104), .unset, .unset, .unset, .unset] [(.int (21 : Int32))])) t_
      refine XS.istoreN X104.here hx rfl (hb hby at_248) rfl (l' := #[.val (.int p1), .val (.ref b1), .val (.ref b104), .val (.int (21 : Int32)), .unset, .unset, .unset]) rfl ?_
      show Steps p.tables e below (T104.setTop (mkF m 249 #[.val (.int p1), .val (.ref b1), .val (.ref b104), .val (.int (21 : Int32)), .unset, .unset, .unset] [])) t_
      refine XS.aloadN X104.here hx rfl (hb hby at_249) rfl rfl ?_
      show Steps p.tables e below (T104.setTop (mkF m 250 #[.val (.int p1), .val (.ref b1), .val (.ref b104), .val (.int (21 : Int32)), .unset, .unset, .unset] [(.ref b1)])) t_
      refine XS.iloadN X104.here hx rfl (hb hby at_250) rfl ?_
      show Steps p.tables e below (T104.setTop (mkF m 251 #[.val (.int p1), .val (.ref b1), .val (.ref b104), .val (.int (21 : Int32)), .unset, .unset, .unset] [(.int (21 : Int32)), (.ref b1)])) t_
      refine X104.aaload hx (j := (21 : Int32)) (v := (.ref ad21)) (by rw [e104]; exact Ar234.1) (State.isArrayOf_alike hZ.alike Ar234.2.1) rfl Ar234.2.2 hin234 hat234 (g := (mkF m 251 #[.val (.int p1), .val (.ref b1), .val (.ref b104), .val (.int (21 : Int32)), .unset, .unset, .unset] [(.int (21 : Int32)), (.ref b1)])) rfl rfl (hb hby at_251) _ ?_
      show Steps p.tables e below (T104.setTop (mkF m 252 #[.val (.int p1), .val (.ref b1), .val (.ref b104), .val (.int (21 : Int32)), .unset, .unset, .unset] [(.ref ad21)])) t_
      refine XS.astore X104.here hx rfl (hb hby at_252) rfl rfl (l' := #[.val (.int p1), .val (.ref b1), .val (.ref b104), .val (.int (21 : Int32)), .val (.ref ad21), .unset, .unset]) rfl ?_
      exact k_
    exact own_sufad21 l Z a0 hw p1 cs sf ad0 ad1 ad2 ad3 ad4 ad5 ad6 ad7 ad8 ad9 ad10 ad11 ad12 ad13 ad14 ad15 ad16 ad17 ad18 ad19 ad20 ad21 ad22 ad23 ad24 ad25 ad26 ad27 ad28 ad29 ad30 ad31 ad32 ad33 b1 b104 d104 kk104 h0 n0 Z0 X104 hx hZ hby hml hown Bd.returns (BodyLoose.notSynchronized Bd) hh e104 N103 K104 O104 hS hk hSA u1 u3 u72 u73 Ea104 Fc104 Fv104 Y106 hcs hsf hn0 hcw hlit
  · rw [hm107]
    obtain ⟨cl240, Ar240, q240, S240, M240, H240, G240⟩ := id Y105
    have hin240 : ¬ ((22 : Int32) < 0 ∨ cl240.slots.size ≤ ((22 : Int32)).toNatClampNeg) := inb_of S240 ⟨by decide, by decide⟩
    have hat240 : cl240.slots[((22 : Int32)).toNatClampNeg]? = some (.ref ad22) := Has.at H240 hin240 rfl
    refine own_go (A := T104.setTop (mkF m 254 #[.val (.int p1), .val (.ref b1), .val (.ref b104), .val (.int (22 : Int32)), .val (.ref ad22), .unset, .unset] [])) (fun t_ k_ => ?_) ?_
    · show Steps p.tables e below (T104.setTop (mkF m 248 #[.val (.int p1), .val (.ref b1), .val (.ref b104), .unset, .unset, .unset, .unset] [(.int (22 : Int32))])) t_
      refine XS.istoreN X104.here hx rfl (hb hby at_248) rfl (l' := #[.val (.int p1), .val (.ref b1), .val (.ref b104), .val (.int (22 : Int32)), .unset, .unset, .unset]) rfl ?_
      show Steps p.tables e below (T104.setTop (mkF m 249 #[.val (.int p1), .val (.ref b1), .val (.ref b104), .val (.int (22 : Int32)), .unset, .unset, .unset] [])) t_
      refine XS.aloadN X104.here hx rfl (hb hby at_249) rfl rfl ?_
      show Steps p.tables e below (T104.setTop (mkF m 250 #[.val (.int p1), .val (.ref b1), .val (.ref b104), .val (.int (22 : Int32)), .unset, .unset, .unset] [(.ref b1)])) t_
      refine XS.iloadN X104.here hx rfl (hb hby at_250) rfl ?_
      show Steps p.tables e below (T104.setTop (mkF m 251 #[.val (.int p1), .val (.ref b1), .val (.ref b104), .val (.int (22 : Int32)), .unset, .unset, .unset] [(.int (22 : Int32)), (.ref b1)])) t_
      refine X104.aaload hx (j := (22 : Int32)) (v := (.ref ad22)) (by rw [e104]; exact Ar240.1) (State.isArrayOf_alike hZ.alike Ar240.2.1) rfl Ar240.2.2 hin240 hat240 (g := (mkF m 251 #[.val (.int p1), .val (.ref b1), .val (.ref b104), .val (.int (22 : Int32)), .unset, .unset, .unset] [(.int (22 : Int32)), (.ref b1)])) rfl rfl (hb hby at_251) _ ?_
      show Steps p.tables e below (T104.setTop (mkF m 252 #[.val (.int p1), .val (.ref b1), .val (.ref b104), .val (.int (22 : Int32)), .unset, .unset, .unset] [(.ref ad22)])) t_
      refine XS.astore X104.here hx rfl (hb hby at_252) rfl rfl (l' := #[.val (.int p1), .val (.ref b1), .val (.ref b104), .val (.int (22 : Int32)), .val (.ref ad22), .unset, .unset]) rfl ?_
      exact k_
    exact own_sufad22 l Z a0 hw p1 cs sf ad0 ad1 ad2 ad3 ad4 ad5 ad6 ad7 ad8 ad9 ad10 ad11 ad12 ad13 ad14 ad15 ad16 ad17 ad18 ad19 ad20 ad21 ad22 ad23 ad24 ad25 ad26 ad27 ad28 ad29 ad30 ad31 ad32 ad33 b1 b104 d104 kk104 h0 n0 Z0 X104 hx hZ hby hml hown Bd.returns (BodyLoose.notSynchronized Bd) hh e104 N103 K104 O104 hS hk hSA u1 u3 u75 u76 Ea104 Fc104 Fv104 Y106 hcs hsf hn0 hcw hlit
  · rw [hm107]
    obtain ⟨cl246, Ar246, q246, S246, M246, H246, G246⟩ := id Y105
    have hin246 : ¬ ((23 : Int32) < 0 ∨ cl246.slots.size ≤ ((23 : Int32)).toNatClampNeg) := inb_of S246 ⟨by decide, by decide⟩
    have hat246 : cl246.slots[((23 : Int32)).toNatClampNeg]? = some (.ref ad23) := Has.at H246 hin246 rfl
    refine own_go (A := T104.setTop (mkF m 254 #[.val (.int p1), .val (.ref b1), .val (.ref b104), .val (.int (23 : Int32)), .val (.ref ad23), .unset, .unset] [])) (fun t_ k_ => ?_) ?_
    · show Steps p.tables e below (T104.setTop (mkF m 248 #[.val (.int p1), .val (.ref b1), .val (.ref b104), .unset, .unset, .unset, .unset] [(.int (23 : Int32))])) t_
      refine XS.istoreN X104.here hx rfl (hb hby at_248) rfl (l' := #[.val (.int p1), .val (.ref b1), .val (.ref b104), .val (.int (23 : Int32)), .unset, .unset, .unset]) rfl ?_
      show Steps p.tables e below (T104.setTop (mkF m 249 #[.val (.int p1), .val (.ref b1), .val (.ref b104), .val (.int (23 : Int32)), .unset, .unset, .unset] [])) t_
      refine XS.aloadN X104.here hx rfl (hb hby at_249) rfl rfl ?_
      show Steps p.tables e below (T104.setTop (mkF m 250 #[.val (.int p1), .val (.ref b1), .val (.ref b104), .val (.int (23 : Int32)), .unset, .unset, .unset] [(.ref b1)])) t_
      refine XS.iloadN X104.here hx rfl (hb hby at_250) rfl ?_
      show Steps p.tables e below (T104.setTop (mkF m 251 #[.val (.int p1), .val (.ref b1), .val (.ref b104), .val (.int (23 : Int32)), .unset, .unset, .unset] [(.int (23 : Int32)), (.ref b1)])) t_
      refine X104.aaload hx (j := (23 : Int32)) (v := (.ref ad23)) (by rw [e104]; exact Ar246.1) (State.isArrayOf_alike hZ.alike Ar246.2.1) rfl Ar246.2.2 hin246 hat246 (g := (mkF m 251 #[.val (.int p1), .val (.ref b1), .val (.ref b104), .val (.int (23 : Int32)), .unset, .unset, .unset] [(.int (23 : Int32)), (.ref b1)])) rfl rfl (hb hby at_251) _ ?_
      show Steps p.tables e below (T104.setTop (mkF m 252 #[.val (.int p1), .val (.ref b1), .val (.ref b104), .val (.int (23 : Int32)), .unset, .unset, .unset] [(.ref ad23)])) t_
      refine XS.astore X104.here hx rfl (hb hby at_252) rfl rfl (l' := #[.val (.int p1), .val (.ref b1), .val (.ref b104), .val (.int (23 : Int32)), .val (.ref ad23), .unset, .unset]) rfl ?_
      exact k_
    exact own_sufad23 l Z a0 hw p1 cs sf ad0 ad1 ad2 ad3 ad4 ad5 ad6 ad7 ad8 ad9 ad10 ad11 ad12 ad13 ad14 ad15 ad16 ad17 ad18 ad19 ad20 ad21 ad22 ad23 ad24 ad25 ad26 ad27 ad28 ad29 ad30 ad31 ad32 ad33 b1 b104 d104 kk104 h0 n0 Z0 X104 hx hZ hby hml hown Bd.returns (BodyLoose.notSynchronized Bd) hh e104 N103 K104 O104 hS hk hSA u1 u3 u78 u79 Ea104 Fc104 Fv104 Y106 hcs hsf hn0 hcw hlit
  · rw [hm107]
    obtain ⟨cl252, Ar252, q252, S252, M252, H252, G252⟩ := id Y105
    have hin252 : ¬ ((24 : Int32) < 0 ∨ cl252.slots.size ≤ ((24 : Int32)).toNatClampNeg) := inb_of S252 ⟨by decide, by decide⟩
    have hat252 : cl252.slots[((24 : Int32)).toNatClampNeg]? = some (.ref ad24) := Has.at H252 hin252 rfl
    refine own_go (A := T104.setTop (mkF m 254 #[.val (.int p1), .val (.ref b1), .val (.ref b104), .val (.int (24 : Int32)), .val (.ref ad24), .unset, .unset] [])) (fun t_ k_ => ?_) ?_
    · show Steps p.tables e below (T104.setTop (mkF m 248 #[.val (.int p1), .val (.ref b1), .val (.ref b104), .unset, .unset, .unset, .unset] [(.int (24 : Int32))])) t_
      refine XS.istoreN X104.here hx rfl (hb hby at_248) rfl (l' := #[.val (.int p1), .val (.ref b1), .val (.ref b104), .val (.int (24 : Int32)), .unset, .unset, .unset]) rfl ?_
      show Steps p.tables e below (T104.setTop (mkF m 249 #[.val (.int p1), .val (.ref b1), .val (.ref b104), .val (.int (24 : Int32)), .unset, .unset, .unset] [])) t_
      refine XS.aloadN X104.here hx rfl (hb hby at_249) rfl rfl ?_
      show Steps p.tables e below (T104.setTop (mkF m 250 #[.val (.int p1), .val (.ref b1), .val (.ref b104), .val (.int (24 : Int32)), .unset, .unset, .unset] [(.ref b1)])) t_
      refine XS.iloadN X104.here hx rfl (hb hby at_250) rfl ?_
      show Steps p.tables e below (T104.setTop (mkF m 251 #[.val (.int p1), .val (.ref b1), .val (.ref b104), .val (.int (24 : Int32)), .unset, .unset, .unset] [(.int (24 : Int32)), (.ref b1)])) t_
      refine X104.aaload hx (j := (24 : Int32)) (v := (.ref ad24)) (by rw [e104]; exact Ar252.1) (State.isArrayOf_alike hZ.alike Ar252.2.1) rfl Ar252.2.2 hin252 hat252 (g := (mkF m 251 #[.val (.int p1), .val (.ref b1), .val (.ref b104), .val (.int (24 : Int32)), .unset, .unset, .unset] [(.int (24 : Int32)), (.ref b1)])) rfl rfl (hb hby at_251) _ ?_
      show Steps p.tables e below (T104.setTop (mkF m 252 #[.val (.int p1), .val (.ref b1), .val (.ref b104), .val (.int (24 : Int32)), .unset, .unset, .unset] [(.ref ad24)])) t_
      refine XS.astore X104.here hx rfl (hb hby at_252) rfl rfl (l' := #[.val (.int p1), .val (.ref b1), .val (.ref b104), .val (.int (24 : Int32)), .val (.ref ad24), .unset, .unset]) rfl ?_
      exact k_
    exact own_sufad24 l Z a0 hw p1 cs sf ad0 ad1 ad2 ad3 ad4 ad5 ad6 ad7 ad8 ad9 ad10 ad11 ad12 ad13 ad14 ad15 ad16 ad17 ad18 ad19 ad20 ad21 ad22 ad23 ad24 ad25 ad26 ad27 ad28 ad29 ad30 ad31 ad32 ad33 b1 b104 d104 kk104 h0 n0 Z0 X104 hx hZ hby hml hown Bd.returns (BodyLoose.notSynchronized Bd) hh e104 N103 K104 O104 hS hk hSA u1 u3 u81 u82 Ea104 Fc104 Fv104 Y106 hcs hsf hn0 hcw hlit
  · rw [hm107]
    obtain ⟨cl258, Ar258, q258, S258, M258, H258, G258⟩ := id Y105
    have hin258 : ¬ ((25 : Int32) < 0 ∨ cl258.slots.size ≤ ((25 : Int32)).toNatClampNeg) := inb_of S258 ⟨by decide, by decide⟩
    have hat258 : cl258.slots[((25 : Int32)).toNatClampNeg]? = some (.ref ad25) := Has.at H258 hin258 rfl
    refine own_go (A := T104.setTop (mkF m 254 #[.val (.int p1), .val (.ref b1), .val (.ref b104), .val (.int (25 : Int32)), .val (.ref ad25), .unset, .unset] [])) (fun t_ k_ => ?_) ?_
    · show Steps p.tables e below (T104.setTop (mkF m 248 #[.val (.int p1), .val (.ref b1), .val (.ref b104), .unset, .unset, .unset, .unset] [(.int (25 : Int32))])) t_
      refine XS.istoreN X104.here hx rfl (hb hby at_248) rfl (l' := #[.val (.int p1), .val (.ref b1), .val (.ref b104), .val (.int (25 : Int32)), .unset, .unset, .unset]) rfl ?_
      show Steps p.tables e below (T104.setTop (mkF m 249 #[.val (.int p1), .val (.ref b1), .val (.ref b104), .val (.int (25 : Int32)), .unset, .unset, .unset] [])) t_
      refine XS.aloadN X104.here hx rfl (hb hby at_249) rfl rfl ?_
      show Steps p.tables e below (T104.setTop (mkF m 250 #[.val (.int p1), .val (.ref b1), .val (.ref b104), .val (.int (25 : Int32)), .unset, .unset, .unset] [(.ref b1)])) t_
      refine XS.iloadN X104.here hx rfl (hb hby at_250) rfl ?_
      show Steps p.tables e below (T104.setTop (mkF m 251 #[.val (.int p1), .val (.ref b1), .val (.ref b104), .val (.int (25 : Int32)), .unset, .unset, .unset] [(.int (25 : Int32)), (.ref b1)])) t_
      refine X104.aaload hx (j := (25 : Int32)) (v := (.ref ad25)) (by rw [e104]; exact Ar258.1) (State.isArrayOf_alike hZ.alike Ar258.2.1) rfl Ar258.2.2 hin258 hat258 (g := (mkF m 251 #[.val (.int p1), .val (.ref b1), .val (.ref b104), .val (.int (25 : Int32)), .unset, .unset, .unset] [(.int (25 : Int32)), (.ref b1)])) rfl rfl (hb hby at_251) _ ?_
      show Steps p.tables e below (T104.setTop (mkF m 252 #[.val (.int p1), .val (.ref b1), .val (.ref b104), .val (.int (25 : Int32)), .unset, .unset, .unset] [(.ref ad25)])) t_
      refine XS.astore X104.here hx rfl (hb hby at_252) rfl rfl (l' := #[.val (.int p1), .val (.ref b1), .val (.ref b104), .val (.int (25 : Int32)), .val (.ref ad25), .unset, .unset]) rfl ?_
      exact k_
    exact own_sufad25 l Z a0 hw p1 cs sf ad0 ad1 ad2 ad3 ad4 ad5 ad6 ad7 ad8 ad9 ad10 ad11 ad12 ad13 ad14 ad15 ad16 ad17 ad18 ad19 ad20 ad21 ad22 ad23 ad24 ad25 ad26 ad27 ad28 ad29 ad30 ad31 ad32 ad33 b1 b104 d104 kk104 h0 n0 Z0 X104 hx hZ hby hml hown Bd.returns (BodyLoose.notSynchronized Bd) hh e104 N103 K104 O104 hS hk hSA u1 u3 u84 u85 Ea104 Fc104 Fv104 Y106 hcs hsf hn0 hcw hlit
  · rw [hm107]
    obtain ⟨cl264, Ar264, q264, S264, M264, H264, G264⟩ := id Y105
    have hin264 : ¬ ((26 : Int32) < 0 ∨ cl264.slots.size ≤ ((26 : Int32)).toNatClampNeg) := inb_of S264 ⟨by decide, by decide⟩
    have hat264 : cl264.slots[((26 : Int32)).toNatClampNeg]? = some (.ref ad26) := Has.at H264 hin264 rfl
    refine own_go (A := T104.setTop (mkF m 254 #[.val (.int p1), .val (.ref b1), .val (.ref b104), .val (.int (26 : Int32)), .val (.ref ad26), .unset, .unset] [])) (fun t_ k_ => ?_) ?_
    · show Steps p.tables e below (T104.setTop (mkF m 248 #[.val (.int p1), .val (.ref b1), .val (.ref b104), .unset, .unset, .unset, .unset] [(.int (26 : Int32))])) t_
      refine XS.istoreN X104.here hx rfl (hb hby at_248) rfl (l' := #[.val (.int p1), .val (.ref b1), .val (.ref b104), .val (.int (26 : Int32)), .unset, .unset, .unset]) rfl ?_
      show Steps p.tables e below (T104.setTop (mkF m 249 #[.val (.int p1), .val (.ref b1), .val (.ref b104), .val (.int (26 : Int32)), .unset, .unset, .unset] [])) t_
      refine XS.aloadN X104.here hx rfl (hb hby at_249) rfl rfl ?_
      show Steps p.tables e below (T104.setTop (mkF m 250 #[.val (.int p1), .val (.ref b1), .val (.ref b104), .val (.int (26 : Int32)), .unset, .unset, .unset] [(.ref b1)])) t_
      refine XS.iloadN X104.here hx rfl (hb hby at_250) rfl ?_
      show Steps p.tables e below (T104.setTop (mkF m 251 #[.val (.int p1), .val (.ref b1), .val (.ref b104), .val (.int (26 : Int32)), .unset, .unset, .unset] [(.int (26 : Int32)), (.ref b1)])) t_
      refine X104.aaload hx (j := (26 : Int32)) (v := (.ref ad26)) (by rw [e104]; exact Ar264.1) (State.isArrayOf_alike hZ.alike Ar264.2.1) rfl Ar264.2.2 hin264 hat264 (g := (mkF m 251 #[.val (.int p1), .val (.ref b1), .val (.ref b104), .val (.int (26 : Int32)), .unset, .unset, .unset] [(.int (26 : Int32)), (.ref b1)])) rfl rfl (hb hby at_251) _ ?_
      show Steps p.tables e below (T104.setTop (mkF m 252 #[.val (.int p1), .val (.ref b1), .val (.ref b104), .val (.int (26 : Int32)), .unset, .unset, .unset] [(.ref ad26)])) t_
      refine XS.astore X104.here hx rfl (hb hby at_252) rfl rfl (l' := #[.val (.int p1), .val (.ref b1), .val (.ref b104), .val (.int (26 : Int32)), .val (.ref ad26), .unset, .unset]) rfl ?_
      exact k_
    exact own_sufad26 l Z a0 hw p1 cs sf ad0 ad1 ad2 ad3 ad4 ad5 ad6 ad7 ad8 ad9 ad10 ad11 ad12 ad13 ad14 ad15 ad16 ad17 ad18 ad19 ad20 ad21 ad22 ad23 ad24 ad25 ad26 ad27 ad28 ad29 ad30 ad31 ad32 ad33 b1 b104 d104 kk104 h0 n0 Z0 X104 hx hZ hby hml hown Bd.returns (BodyLoose.notSynchronized Bd) hh e104 N103 K104 O104 hS hk hSA u1 u3 u87 u88 Ea104 Fc104 Fv104 Y106 hcs hsf hn0 hcw hlit
  · rw [hm107]
    obtain ⟨cl270, Ar270, q270, S270, M270, H270, G270⟩ := id Y105
    have hin270 : ¬ ((27 : Int32) < 0 ∨ cl270.slots.size ≤ ((27 : Int32)).toNatClampNeg) := inb_of S270 ⟨by decide, by decide⟩
    have hat270 : cl270.slots[((27 : Int32)).toNatClampNeg]? = some (.ref ad27) := Has.at H270 hin270 rfl
    refine own_go (A := T104.setTop (mkF m 254 #[.val (.int p1), .val (.ref b1), .val (.ref b104), .val (.int (27 : Int32)), .val (.ref ad27), .unset, .unset] [])) (fun t_ k_ => ?_) ?_
    · show Steps p.tables e below (T104.setTop (mkF m 248 #[.val (.int p1), .val (.ref b1), .val (.ref b104), .unset, .unset, .unset, .unset] [(.int (27 : Int32))])) t_
      refine XS.istoreN X104.here hx rfl (hb hby at_248) rfl (l' := #[.val (.int p1), .val (.ref b1), .val (.ref b104), .val (.int (27 : Int32)), .unset, .unset, .unset]) rfl ?_
      show Steps p.tables e below (T104.setTop (mkF m 249 #[.val (.int p1), .val (.ref b1), .val (.ref b104), .val (.int (27 : Int32)), .unset, .unset, .unset] [])) t_
      refine XS.aloadN X104.here hx rfl (hb hby at_249) rfl rfl ?_
      show Steps p.tables e below (T104.setTop (mkF m 250 #[.val (.int p1), .val (.ref b1), .val (.ref b104), .val (.int (27 : Int32)), .unset, .unset, .unset] [(.ref b1)])) t_
      refine XS.iloadN X104.here hx rfl (hb hby at_250) rfl ?_
      show Steps p.tables e below (T104.setTop (mkF m 251 #[.val (.int p1), .val (.ref b1), .val (.ref b104), .val (.int (27 : Int32)), .unset, .unset, .unset] [(.int (27 : Int32)), (.ref b1)])) t_
      refine X104.aaload hx (j := (27 : Int32)) (v := (.ref ad27)) (by rw [e104]; exact Ar270.1) (State.isArrayOf_alike hZ.alike Ar270.2.1) rfl Ar270.2.2 hin270 hat270 (g := (mkF m 251 #[.val (.int p1), .val (.ref b1), .val (.ref b104), .val (.int (27 : Int32)), .unset, .unset, .unset] [(.int (27 : Int32)), (.ref b1)])) rfl rfl (hb hby at_251) _ ?_
      show Steps p.tables e below (T104.setTop (mkF m 252 #[.val (.int p1), .val (.ref b1), .val (.ref b104), .val (.int (27 : Int32)), .unset, .unset, .unset] [(.ref ad27)])) t_
      refine XS.astore X104.here hx rfl (hb hby at_252) rfl rfl (l' := #[.val (.int p1), .val (.ref b1), .val (.ref b104), .val (.int (27 : Int32)), .val (.ref ad27), .unset, .unset]) rfl ?_
      exact k_
    exact own_sufad27 l Z a0 hw p1 cs sf ad0 ad1 ad2 ad3 ad4 ad5 ad6 ad7 ad8 ad9 ad10 ad11 ad12 ad13 ad14 ad15 ad16 ad17 ad18 ad19 ad20 ad21 ad22 ad23 ad24 ad25 ad26 ad27 ad28 ad29 ad30 ad31 ad32 ad33 b1 b104 d104 kk104 h0 n0 Z0 X104 hx hZ hby hml hown Bd.returns (BodyLoose.notSynchronized Bd) hh e104 N103 K104 O104 hS hk hSA u1 u3 u90 u91 Ea104 Fc104 Fv104 Y106 hcs hsf hn0 hcw hlit
  · rw [hm107]
    obtain ⟨cl276, Ar276, q276, S276, M276, H276, G276⟩ := id Y105
    have hin276 : ¬ ((28 : Int32) < 0 ∨ cl276.slots.size ≤ ((28 : Int32)).toNatClampNeg) := inb_of S276 ⟨by decide, by decide⟩
    have hat276 : cl276.slots[((28 : Int32)).toNatClampNeg]? = some (.ref ad28) := Has.at H276 hin276 rfl
    refine own_go (A := T104.setTop (mkF m 254 #[.val (.int p1), .val (.ref b1), .val (.ref b104), .val (.int (28 : Int32)), .val (.ref ad28), .unset, .unset] [])) (fun t_ k_ => ?_) ?_
    · show Steps p.tables e below (T104.setTop (mkF m 248 #[.val (.int p1), .val (.ref b1), .val (.ref b104), .unset, .unset, .unset, .unset] [(.int (28 : Int32))])) t_
      refine XS.istoreN X104.here hx rfl (hb hby at_248) rfl (l' := #[.val (.int p1), .val (.ref b1), .val (.ref b104), .val (.int (28 : Int32)), .unset, .unset, .unset]) rfl ?_
      show Steps p.tables e below (T104.setTop (mkF m 249 #[.val (.int p1), .val (.ref b1), .val (.ref b104), .val (.int (28 : Int32)), .unset, .unset, .unset] [])) t_
      refine XS.aloadN X104.here hx rfl (hb hby at_249) rfl rfl ?_
      show Steps p.tables e below (T104.setTop (mkF m 250 #[.val (.int p1), .val (.ref b1), .val (.ref b104), .val (.int (28 : Int32)), .unset, .unset, .unset] [(.ref b1)])) t_
      refine XS.iloadN X104.here hx rfl (hb hby at_250) rfl ?_
      show Steps p.tables e below (T104.setTop (mkF m 251 #[.val (.int p1), .val (.ref b1), .val (.ref b104), .val (.int (28 : Int32)), .unset, .unset, .unset] [(.int (28 : Int32)), (.ref b1)])) t_
      refine X104.aaload hx (j := (28 : Int32)) (v := (.ref ad28)) (by rw [e104]; exact Ar276.1) (State.isArrayOf_alike hZ.alike Ar276.2.1) rfl Ar276.2.2 hin276 hat276 (g := (mkF m 251 #[.val (.int p1), .val (.ref b1), .val (.ref b104), .val (.int (28 : Int32)), .unset, .unset, .unset] [(.int (28 : Int32)), (.ref b1)])) rfl rfl (hb hby at_251) _ ?_
      show Steps p.tables e below (T104.setTop (mkF m 252 #[.val (.int p1), .val (.ref b1), .val (.ref b104), .val (.int (28 : Int32)), .unset, .unset, .unset] [(.ref ad28)])) t_
      refine XS.astore X104.here hx rfl (hb hby at_252) rfl rfl (l' := #[.val (.int p1), .val (.ref b1), .val (.ref b104), .val (.int (28 : Int32)), .val (.ref ad28), .unset, .unset]) rfl ?_
      exact k_
    exact own_sufad28 l Z a0 hw p1 cs sf ad0 ad1 ad2 ad3 ad4 ad5 ad6 ad7 ad8 ad9 ad10 ad11 ad12 ad13 ad14 ad15 ad16 ad17 ad18 ad19 ad20 ad21 ad22 ad23 ad24 ad25 ad26 ad27 ad28 ad29 ad30 ad31 ad32 ad33 b1 b104 d104 kk104 h0 n0 Z0 X104 hx hZ hby hml hown Bd.returns (BodyLoose.notSynchronized Bd) hh e104 N103 K104 O104 hS hk hSA u1 u3 u93 u94 Ea104 Fc104 Fv104 Y106 hcs hsf hn0 hcw hlit
  · rw [hm107]
    obtain ⟨cl282, Ar282, q282, S282, M282, H282, G282⟩ := id Y105
    have hin282 : ¬ ((29 : Int32) < 0 ∨ cl282.slots.size ≤ ((29 : Int32)).toNatClampNeg) := inb_of S282 ⟨by decide, by decide⟩
    have hat282 : cl282.slots[((29 : Int32)).toNatClampNeg]? = some (.ref ad29) := Has.at H282 hin282 rfl
    refine own_go (A := T104.setTop (mkF m 254 #[.val (.int p1), .val (.ref b1), .val (.ref b104), .val (.int (29 : Int32)), .val (.ref ad29), .unset, .unset] [])) (fun t_ k_ => ?_) ?_
    · show Steps p.tables e below (T104.setTop (mkF m 248 #[.val (.int p1), .val (.ref b1), .val (.ref b104), .unset, .unset, .unset, .unset] [(.int (29 : Int32))])) t_
      refine XS.istoreN X104.here hx rfl (hb hby at_248) rfl (l' := #[.val (.int p1), .val (.ref b1), .val (.ref b104), .val (.int (29 : Int32)), .unset, .unset, .unset]) rfl ?_
      show Steps p.tables e below (T104.setTop (mkF m 249 #[.val (.int p1), .val (.ref b1), .val (.ref b104), .val (.int (29 : Int32)), .unset, .unset, .unset] [])) t_
      refine XS.aloadN X104.here hx rfl (hb hby at_249) rfl rfl ?_
      show Steps p.tables e below (T104.setTop (mkF m 250 #[.val (.int p1), .val (.ref b1), .val (.ref b104), .val (.int (29 : Int32)), .unset, .unset, .unset] [(.ref b1)])) t_
      refine XS.iloadN X104.here hx rfl (hb hby at_250) rfl ?_
      show Steps p.tables e below (T104.setTop (mkF m 251 #[.val (.int p1), .val (.ref b1), .val (.ref b104), .val (.int (29 : Int32)), .unset, .unset, .unset] [(.int (29 : Int32)), (.ref b1)])) t_
      refine X104.aaload hx (j := (29 : Int32)) (v := (.ref ad29)) (by rw [e104]; exact Ar282.1) (State.isArrayOf_alike hZ.alike Ar282.2.1) rfl Ar282.2.2 hin282 hat282 (g := (mkF m 251 #[.val (.int p1), .val (.ref b1), .val (.ref b104), .val (.int (29 : Int32)), .unset, .unset, .unset] [(.int (29 : Int32)), (.ref b1)])) rfl rfl (hb hby at_251) _ ?_
      show Steps p.tables e below (T104.setTop (mkF m 252 #[.val (.int p1), .val (.ref b1), .val (.ref b104), .val (.int (29 : Int32)), .unset, .unset, .unset] [(.ref ad29)])) t_
      refine XS.astore X104.here hx rfl (hb hby at_252) rfl rfl (l' := #[.val (.int p1), .val (.ref b1), .val (.ref b104), .val (.int (29 : Int32)), .val (.ref ad29), .unset, .unset]) rfl ?_
      exact k_
    exact own_sufad29 l Z a0 hw p1 cs sf ad0 ad1 ad2 ad3 ad4 ad5 ad6 ad7 ad8 ad9 ad10 ad11 ad12 ad13 ad14 ad15 ad16 ad17 ad18 ad19 ad20 ad21 ad22 ad23 ad24 ad25 ad26 ad27 ad28 ad29 ad30 ad31 ad32 ad33 b1 b104 d104 kk104 h0 n0 Z0 X104 hx hZ hby hml hown Bd.returns (BodyLoose.notSynchronized Bd) hh e104 N103 K104 O104 hS hk hSA u1 u3 u96 u97 Ea104 Fc104 Fv104 Y106 hcs hsf hn0 hcw hlit
  · rw [hm107]
    obtain ⟨cl288, Ar288, q288, S288, M288, H288, G288⟩ := id Y105
    have hin288 : ¬ ((30 : Int32) < 0 ∨ cl288.slots.size ≤ ((30 : Int32)).toNatClampNeg) := inb_of S288 ⟨by decide, by decide⟩
    have hat288 : cl288.slots[((30 : Int32)).toNatClampNeg]? = some (.ref ad30) := Has.at H288 hin288 rfl
    refine own_go (A := T104.setTop (mkF m 254 #[.val (.int p1), .val (.ref b1), .val (.ref b104), .val (.int (30 : Int32)), .val (.ref ad30), .unset, .unset] [])) (fun t_ k_ => ?_) ?_
    · show Steps p.tables e below (T104.setTop (mkF m 248 #[.val (.int p1), .val (.ref b1), .val (.ref b104), .unset, .unset, .unset, .unset] [(.int (30 : Int32))])) t_
      refine XS.istoreN X104.here hx rfl (hb hby at_248) rfl (l' := #[.val (.int p1), .val (.ref b1), .val (.ref b104), .val (.int (30 : Int32)), .unset, .unset, .unset]) rfl ?_
      show Steps p.tables e below (T104.setTop (mkF m 249 #[.val (.int p1), .val (.ref b1), .val (.ref b104), .val (.int (30 : Int32)), .unset, .unset, .unset] [])) t_
      refine XS.aloadN X104.here hx rfl (hb hby at_249) rfl rfl ?_
      show Steps p.tables e below (T104.setTop (mkF m 250 #[.val (.int p1), .val (.ref b1), .val (.ref b104), .val (.int (30 : Int32)), .unset, .unset, .unset] [(.ref b1)])) t_
      refine XS.iloadN X104.here hx rfl (hb hby at_250) rfl ?_
      show Steps p.tables e below (T104.setTop (mkF m 251 #[.val (.int p1), .val (.ref b1), .val (.ref b104), .val (.int (30 : Int32)), .unset, .unset, .unset] [(.int (30 : Int32)), (.ref b1)])) t_
      refine X104.aaload hx (j := (30 : Int32)) (v := (.ref ad30)) (by rw [e104]; exact Ar288.1) (State.isArrayOf_alike hZ.alike Ar288.2.1) rfl Ar288.2.2 hin288 hat288 (g := (mkF m 251 #[.val (.int p1), .val (.ref b1), .val (.ref b104), .val (.int (30 : Int32)), .unset, .unset, .unset] [(.int (30 : Int32)), (.ref b1)])) rfl rfl (hb hby at_251) _ ?_
      show Steps p.tables e below (T104.setTop (mkF m 252 #[.val (.int p1), .val (.ref b1), .val (.ref b104), .val (.int (30 : Int32)), .unset, .unset, .unset] [(.ref ad30)])) t_
      refine XS.astore X104.here hx rfl (hb hby at_252) rfl rfl (l' := #[.val (.int p1), .val (.ref b1), .val (.ref b104), .val (.int (30 : Int32)), .val (.ref ad30), .unset, .unset]) rfl ?_
      exact k_
    exact own_sufad30 l Z a0 hw p1 cs sf ad0 ad1 ad2 ad3 ad4 ad5 ad6 ad7 ad8 ad9 ad10 ad11 ad12 ad13 ad14 ad15 ad16 ad17 ad18 ad19 ad20 ad21 ad22 ad23 ad24 ad25 ad26 ad27 ad28 ad29 ad30 ad31 ad32 ad33 b1 b104 d104 kk104 h0 n0 Z0 X104 hx hZ hby hml hown Bd.returns (BodyLoose.notSynchronized Bd) hh e104 N103 K104 O104 hS hk hSA u1 u3 u99 u100 Ea104 Fc104 Fv104 Y106 hcs hsf hn0 hcw hlit
  · rw [hm107]
    obtain ⟨cl294, Ar294, q294, S294, M294, H294, G294⟩ := id Y105
    have hin294 : ¬ ((31 : Int32) < 0 ∨ cl294.slots.size ≤ ((31 : Int32)).toNatClampNeg) := inb_of S294 ⟨by decide, by decide⟩
    have hat294 : cl294.slots[((31 : Int32)).toNatClampNeg]? = some (.ref ad31) := Has.at H294 hin294 rfl
    refine own_go (A := T104.setTop (mkF m 254 #[.val (.int p1), .val (.ref b1), .val (.ref b104), .val (.int (31 : Int32)), .val (.ref ad31), .unset, .unset] [])) (fun t_ k_ => ?_) ?_
    · show Steps p.tables e below (T104.setTop (mkF m 248 #[.val (.int p1), .val (.ref b1), .val (.ref b104), .unset, .unset, .unset, .unset] [(.int (31 : Int32))])) t_
      refine XS.istoreN X104.here hx rfl (hb hby at_248) rfl (l' := #[.val (.int p1), .val (.ref b1), .val (.ref b104), .val (.int (31 : Int32)), .unset, .unset, .unset]) rfl ?_
      show Steps p.tables e below (T104.setTop (mkF m 249 #[.val (.int p1), .val (.ref b1), .val (.ref b104), .val (.int (31 : Int32)), .unset, .unset, .unset] [])) t_
      refine XS.aloadN X104.here hx rfl (hb hby at_249) rfl rfl ?_
      show Steps p.tables e below (T104.setTop (mkF m 250 #[.val (.int p1), .val (.ref b1), .val (.ref b104), .val (.int (31 : Int32)), .unset, .unset, .unset] [(.ref b1)])) t_
      refine XS.iloadN X104.here hx rfl (hb hby at_250) rfl ?_
      show Steps p.tables e below (T104.setTop (mkF m 251 #[.val (.int p1), .val (.ref b1), .val (.ref b104), .val (.int (31 : Int32)), .unset, .unset, .unset] [(.int (31 : Int32)), (.ref b1)])) t_
      refine X104.aaload hx (j := (31 : Int32)) (v := (.ref ad31)) (by rw [e104]; exact Ar294.1) (State.isArrayOf_alike hZ.alike Ar294.2.1) rfl Ar294.2.2 hin294 hat294 (g := (mkF m 251 #[.val (.int p1), .val (.ref b1), .val (.ref b104), .val (.int (31 : Int32)), .unset, .unset, .unset] [(.int (31 : Int32)), (.ref b1)])) rfl rfl (hb hby at_251) _ ?_
      show Steps p.tables e below (T104.setTop (mkF m 252 #[.val (.int p1), .val (.ref b1), .val (.ref b104), .val (.int (31 : Int32)), .unset, .unset, .unset] [(.ref ad31)])) t_
      refine XS.astore X104.here hx rfl (hb hby at_252) rfl rfl (l' := #[.val (.int p1), .val (.ref b1), .val (.ref b104), .val (.int (31 : Int32)), .val (.ref ad31), .unset, .unset]) rfl ?_
      exact k_
    exact own_sufad31 l Z a0 hw p1 cs sf ad0 ad1 ad2 ad3 ad4 ad5 ad6 ad7 ad8 ad9 ad10 ad11 ad12 ad13 ad14 ad15 ad16 ad17 ad18 ad19 ad20 ad21 ad22 ad23 ad24 ad25 ad26 ad27 ad28 ad29 ad30 ad31 ad32 ad33 b1 b104 d104 kk104 h0 n0 Z0 X104 hx hZ hby hml hown Bd.returns (BodyLoose.notSynchronized Bd) hh e104 N103 K104 O104 hS hk hSA u1 u3 u102 u103 Ea104 Fc104 Fv104 Y106 hcs hsf hn0 hcw hlit
  · rw [hm107]
    obtain ⟨cl300, Ar300, q300, S300, M300, H300, G300⟩ := id Y105
    have hin300 : ¬ ((32 : Int32) < 0 ∨ cl300.slots.size ≤ ((32 : Int32)).toNatClampNeg) := inb_of S300 ⟨by decide, by decide⟩
    have hat300 : cl300.slots[((32 : Int32)).toNatClampNeg]? = some (.ref ad32) := Has.at H300 hin300 rfl
    refine own_go (A := T104.setTop (mkF m 254 #[.val (.int p1), .val (.ref b1), .val (.ref b104), .val (.int (32 : Int32)), .val (.ref ad32), .unset, .unset] [])) (fun t_ k_ => ?_) ?_
    · show Steps p.tables e below (T104.setTop (mkF m 248 #[.val (.int p1), .val (.ref b1), .val (.ref b104), .unset, .unset, .unset, .unset] [(.int (32 : Int32))])) t_
      refine XS.istoreN X104.here hx rfl (hb hby at_248) rfl (l' := #[.val (.int p1), .val (.ref b1), .val (.ref b104), .val (.int (32 : Int32)), .unset, .unset, .unset]) rfl ?_
      show Steps p.tables e below (T104.setTop (mkF m 249 #[.val (.int p1), .val (.ref b1), .val (.ref b104), .val (.int (32 : Int32)), .unset, .unset, .unset] [])) t_
      refine XS.aloadN X104.here hx rfl (hb hby at_249) rfl rfl ?_
      show Steps p.tables e below (T104.setTop (mkF m 250 #[.val (.int p1), .val (.ref b1), .val (.ref b104), .val (.int (32 : Int32)), .unset, .unset, .unset] [(.ref b1)])) t_
      refine XS.iloadN X104.here hx rfl (hb hby at_250) rfl ?_
      show Steps p.tables e below (T104.setTop (mkF m 251 #[.val (.int p1), .val (.ref b1), .val (.ref b104), .val (.int (32 : Int32)), .unset, .unset, .unset] [(.int (32 : Int32)), (.ref b1)])) t_
      refine X104.aaload hx (j := (32 : Int32)) (v := (.ref ad32)) (by rw [e104]; exact Ar300.1) (State.isArrayOf_alike hZ.alike Ar300.2.1) rfl Ar300.2.2 hin300 hat300 (g := (mkF m 251 #[.val (.int p1), .val (.ref b1), .val (.ref b104), .val (.int (32 : Int32)), .unset, .unset, .unset] [(.int (32 : Int32)), (.ref b1)])) rfl rfl (hb hby at_251) _ ?_
      show Steps p.tables e below (T104.setTop (mkF m 252 #[.val (.int p1), .val (.ref b1), .val (.ref b104), .val (.int (32 : Int32)), .unset, .unset, .unset] [(.ref ad32)])) t_
      refine XS.astore X104.here hx rfl (hb hby at_252) rfl rfl (l' := #[.val (.int p1), .val (.ref b1), .val (.ref b104), .val (.int (32 : Int32)), .val (.ref ad32), .unset, .unset]) rfl ?_
      exact k_
    exact own_sufad32 l Z a0 hw p1 cs sf ad0 ad1 ad2 ad3 ad4 ad5 ad6 ad7 ad8 ad9 ad10 ad11 ad12 ad13 ad14 ad15 ad16 ad17 ad18 ad19 ad20 ad21 ad22 ad23 ad24 ad25 ad26 ad27 ad28 ad29 ad30 ad31 ad32 ad33 b1 b104 d104 kk104 h0 n0 Z0 X104 hx hZ hby hml hown Bd.returns (BodyLoose.notSynchronized Bd) hh e104 N103 K104 O104 hS hk hSA u1 u3 u105 u106 Ea104 Fc104 Fv104 Y106 hcs hsf hn0 hcw hlit
  · rw [hm107]
    obtain ⟨cl306, Ar306, q306, S306, M306, H306, G306⟩ := id Y105
    have hin306 : ¬ ((33 : Int32) < 0 ∨ cl306.slots.size ≤ ((33 : Int32)).toNatClampNeg) := inb_of S306 ⟨by decide, by decide⟩
    have hat306 : cl306.slots[((33 : Int32)).toNatClampNeg]? = some (.ref ad33) := Has.at H306 hin306 rfl
    refine own_go (A := T104.setTop (mkF m 254 #[.val (.int p1), .val (.ref b1), .val (.ref b104), .val (.int (33 : Int32)), .val (.ref ad33), .unset, .unset] [])) (fun t_ k_ => ?_) ?_
    · show Steps p.tables e below (T104.setTop (mkF m 248 #[.val (.int p1), .val (.ref b1), .val (.ref b104), .unset, .unset, .unset, .unset] [(.int (33 : Int32))])) t_
      refine XS.istoreN X104.here hx rfl (hb hby at_248) rfl (l' := #[.val (.int p1), .val (.ref b1), .val (.ref b104), .val (.int (33 : Int32)), .unset, .unset, .unset]) rfl ?_
      show Steps p.tables e below (T104.setTop (mkF m 249 #[.val (.int p1), .val (.ref b1), .val (.ref b104), .val (.int (33 : Int32)), .unset, .unset, .unset] [])) t_
      refine XS.aloadN X104.here hx rfl (hb hby at_249) rfl rfl ?_
      show Steps p.tables e below (T104.setTop (mkF m 250 #[.val (.int p1), .val (.ref b1), .val (.ref b104), .val (.int (33 : Int32)), .unset, .unset, .unset] [(.ref b1)])) t_
      refine XS.iloadN X104.here hx rfl (hb hby at_250) rfl ?_
      show Steps p.tables e below (T104.setTop (mkF m 251 #[.val (.int p1), .val (.ref b1), .val (.ref b104), .val (.int (33 : Int32)), .unset, .unset, .unset] [(.int (33 : Int32)), (.ref b1)])) t_
      refine X104.aaload hx (j := (33 : Int32)) (v := (.ref ad33)) (by rw [e104]; exact Ar306.1) (State.isArrayOf_alike hZ.alike Ar306.2.1) rfl Ar306.2.2 hin306 hat306 (g := (mkF m 251 #[.val (.int p1), .val (.ref b1), .val (.ref b104), .val (.int (33 : Int32)), .unset, .unset, .unset] [(.int (33 : Int32)), (.ref b1)])) rfl rfl (hb hby at_251) _ ?_
      show Steps p.tables e below (T104.setTop (mkF m 252 #[.val (.int p1), .val (.ref b1), .val (.ref b104), .val (.int (33 : Int32)), .unset, .unset, .unset] [(.ref ad33)])) t_
      refine XS.astore X104.here hx rfl (hb hby at_252) rfl rfl (l' := #[.val (.int p1), .val (.ref b1), .val (.ref b104), .val (.int (33 : Int32)), .val (.ref ad33), .unset, .unset]) rfl ?_
      exact k_
    exact own_sufad33 l Z a0 hw p1 cs sf ad0 ad1 ad2 ad3 ad4 ad5 ad6 ad7 ad8 ad9 ad10 ad11 ad12 ad13 ad14 ad15 ad16 ad17 ad18 ad19 ad20 ad21 ad22 ad23 ad24 ad25 ad26 ad27 ad28 ad29 ad30 ad31 ad32 ad33 b1 b104 d104 kk104 h0 n0 Z0 X104 hx hZ hby hml hown Bd.returns (BodyLoose.notSynchronized Bd) hh e104 N103 K104 O104 hS hk hSA u1 u3 u108 u109 Ea104 Fc104 Fv104 Y106 hcs hsf hn0 hcw hlit
set_option maxRecDepth 65536 in
set_option maxHeartbeats 40000000 in
theorem comes_1 {Post : Tables → Env → Array Value → State → Outcome → State → Prop} (hpost : ∀ tb e args s v u, (limb_1_1.after args s (.returned v) u = true ∧ limb_1_2.after args s (.returned v) u = true ∧ True) → ReturnedEndW s (.returned v) u (Jvm.fieldLocs frame_1_writes args s ++ Jvm.arrayLocs frame_1_arrays args s ++ Jvm.staticLocs frame_1_statics s) 16 1216 → Post tb e args s (.returned v) u) :
    ArmFor flags0 classFile x code maxLocals ret World_1 tables_1 room_1 Calls_1 rest_1 Pre_1 Post := by
  intro l hfl _ _ p e ha hc hk s m args below hf hA hF happ hP
  obtain ⟨hcalls, hrest, hpre⟩ := hP
  obtain ⟨-, -, -, hnamed, -, -, -, hat⟩ := (Spec.applies_iff hf).mp happ
  obtain ⟨hg, hn⟩ := and_e (Cond.before_iff.mp (show (Jvm.Cond.and given_1 narrow_1).before args s = true from hpre))
  obtain ⟨hg_0, hg_1⟩ := and_e hg
  obtain ⟨w0, rfl⟩ : ∃ w0 : Value, args = #[w0] := by
    have hs : args.size = 1 := by simpa [Cond.value, given_1] using hg_0
    obtain ⟨L⟩ := args
    match L, hs with
    | [w0], _ => exact ⟨w0, rfl⟩
  have hw := fun d (hd : d ∈ tables_1) => atoms_spec (ws := Jvm.Cond.code x code maxLocals ret :: tables_1) hat d (List.mem_cons_of_mem _ hd)
  have hfit : Fit s := fun {y c} hc i hi => by
    obtain ⟨ha, rfl⟩ := Array.getElem?_eq_some_iff.mp hc
    have q := List.all_eq_true.mp ((Array.all_eq_true_iff_forall_mem.mp hF) _ (Array.getElem_mem ha)) i (List.mem_range.mpr hi)
    simpa [Array.getElem?_eq_getElem hi] using q
  obtain ⟨i0, ei0⟩ := is_v hg_1
  obtain rfl : w0 = (.int i0) := Option.some.inj ei0
  obtain ⟨hn_0, hn_1⟩ := and_e hn
  obtain ⟨hn_2, hn_3⟩ := and_e hn_1
  obtain ⟨hn_4, hn_5⟩ := and_e hn_3
  obtain ⟨hn_6, hn_7⟩ := and_e hn_5
  obtain ⟨hn_8, hn_9⟩ := and_e hn_7
  obtain ⟨hn_10, hn_11⟩ := and_e hn_9
  obtain ⟨hn_12, hn_13⟩ := and_e hn_11
  obtain ⟨hn_14, hn_15⟩ := and_e hn_13
  obtain ⟨hn_16, hn_17⟩ := and_e hn_15
  obtain ⟨hn_18, hn_19⟩ := and_e hn_17
  obtain ⟨hn_20, hn_21⟩ := and_e hn_19
  obtain ⟨hn_22, hn_23⟩ := and_e hn_21
  obtain ⟨hn_24, hn_25⟩ := and_e hn_23
  obtain ⟨hn_26, hn_27⟩ := and_e hn_25
  obtain ⟨hn_28, hn_29⟩ := and_e hn_27
  obtain ⟨hn_30, hn_31⟩ := and_e hn_29
  obtain ⟨hn_32, hn_33⟩ := and_e hn_31
  obtain ⟨hn_34, hn_35⟩ := and_e hn_33
  obtain ⟨hn_36, hn_37⟩ := and_e hn_35
  obtain ⟨hn_38, hn_39⟩ := and_e hn_37
  obtain ⟨hn_40, hn_41⟩ := and_e hn_39
  obtain ⟨hn_42, hn_43⟩ := and_e hn_41
  obtain ⟨hn_44, hn_45⟩ := and_e hn_43
  obtain ⟨hn_46, hn_47⟩ := and_e hn_45
  obtain ⟨hn_48, hn_49⟩ := and_e hn_47
  obtain ⟨hn_50, hn_51⟩ := and_e hn_49
  obtain ⟨hn_52, hn_53⟩ := and_e hn_51
  obtain ⟨hn_54, hn_55⟩ := and_e hn_53
  obtain ⟨hn_56, hn_57⟩ := and_e hn_55
  obtain ⟨hn_58, hn_59⟩ := and_e hn_57
  obtain ⟨hn_60, hn_61⟩ := and_e hn_59
  obtain ⟨hn_62, hn_63⟩ := and_e hn_61
  obtain ⟨hn_64, hn_65⟩ := and_e hn_63
  obtain ⟨hn_66, hn_67⟩ := and_e hn_65
  obtain ⟨hn_68, hn_69⟩ := and_e hn_67
  obtain ⟨hn_70, hn_71⟩ := and_e hn_69
  obtain ⟨hn_72, hn_73⟩ := and_e hn_71
  obtain ⟨hn_74, hn_75⟩ := and_e hn_73
  obtain ⟨hn_76, hn_77⟩ := and_e hn_75
  obtain ⟨hn_78, hn_79⟩ := and_e hn_77
  obtain ⟨hn_80, hn_81⟩ := and_e hn_79
  obtain ⟨hn_82, hn_83⟩ := and_e hn_81
  obtain ⟨hn_84, hn_85⟩ := and_e hn_83
  obtain ⟨hn_86, hn_87⟩ := and_e hn_85
  obtain ⟨hn_88, hn_89⟩ := and_e hn_87
  obtain ⟨hn_90, hn_91⟩ := and_e hn_89
  obtain ⟨hn_92, hn_93⟩ := and_e hn_91
  obtain ⟨hn_94, hn_95⟩ := and_e hn_93
  obtain ⟨hn_96, hn_97⟩ := and_e hn_95
  obtain ⟨hn_98, hn_99⟩ := and_e hn_97
  obtain ⟨hn_100, hn_101⟩ := and_e hn_99
  obtain ⟨hn_102, hn_103⟩ := and_e hn_101
  obtain ⟨hn_104, hn_105⟩ := and_e hn_103
  obtain ⟨hn_106, hn_107⟩ := and_e hn_105
  obtain ⟨hn_108, hn_109⟩ := and_e hn_107
  obtain ⟨hn_110, hn_111⟩ := and_e hn_109
  obtain ⟨hn_112, hn_113⟩ := and_e hn_111
  obtain ⟨hn_114, hn_115⟩ := and_e hn_113
  obtain ⟨hn_116, hn_117⟩ := and_e hn_115
  obtain ⟨hn_118, hn_119⟩ := and_e hn_117
  obtain ⟨hn_120, hn_121⟩ := and_e hn_119
  obtain ⟨hn_122, hn_123⟩ := and_e hn_121
  obtain ⟨hn_124, hn_125⟩ := and_e hn_123
  obtain ⟨hn_126, hn_127⟩ := and_e hn_125
  obtain ⟨hn_128, hn_129⟩ := and_e hn_127
  obtain ⟨hn_130, hn_131⟩ := and_e hn_129
  obtain ⟨hn_132, hn_133⟩ := and_e hn_131
  obtain ⟨a_AE, eva_AE⟩ := exa_v hn_0
  have Sa_AE : Sta s s.heap "com/example/querent/querent/dicom/Vr" "AE" "Lcom/example/querent/querent/dicom/Vr;" (.ref a_AE) := Sta.start eva_AE (Or.inr ⟨(own_w hw 3 rfl), (own_w hw 4 rfl)⟩)
  have Ea_AE : Exa s s.heap a_AE "com/example/querent/querent/dicom/Vr" := Exa.start eva_AE hn_0
  obtain ⟨a_AS, eva_AS⟩ := exa_v hn_2
  have Sa_AS : Sta s s.heap "com/example/querent/querent/dicom/Vr" "AS" "Lcom/example/querent/querent/dicom/Vr;" (.ref a_AS) := Sta.start eva_AS (Or.inr ⟨(own_w hw 3 rfl), (own_w hw 7 rfl)⟩)
  have Ea_AS : Exa s s.heap a_AS "com/example/querent/querent/dicom/Vr" := Exa.start eva_AS hn_2
  obtain ⟨a_AT, eva_AT⟩ := exa_v hn_4
  have Sa_AT : Sta s s.heap "com/example/querent/querent/dicom/Vr" "AT" "Lcom/example/querent/querent/dicom/Vr;" (.ref a_AT) := Sta.start eva_AT (Or.inr ⟨(own_w hw 3 rfl), (own_w hw 9 rfl)⟩)
  have Ea_AT : Exa s s.heap a_AT "com/example/querent/querent/dicom/Vr" := Exa.start eva_AT hn_4
  obtain ⟨a_CS, eva_CS⟩ := exa_v hn_6
  have Sa_CS : Sta s s.heap "com/example/querent/querent/dicom/Vr" "CS" "Lcom/example/querent/querent/dicom/Vr;" (.ref a_CS) := Sta.start eva_CS (Or.inr ⟨(own_w hw 3 rfl), (own_w hw 11 rfl)⟩)
  have Ea_CS : Exa s s.heap a_CS "com/example/querent/querent/dicom/Vr" := Exa.start eva_CS hn_6
  obtain ⟨a_DA, eva_DA⟩ := exa_v hn_8
  have Sa_DA : Sta s s.heap "com/example/querent/querent/dicom/Vr" "DA" "Lcom/example/querent/querent/dicom/Vr;" (.ref a_DA) := Sta.start eva_DA (Or.inr ⟨(own_w hw 3 rfl), (own_w hw 13 rfl)⟩)
  have Ea_DA : Exa s s.heap a_DA "com/example/querent/querent/dicom/Vr" := Exa.start eva_DA hn_8
  obtain ⟨a_DS, eva_DS⟩ := exa_v hn_10
  have Sa_DS : Sta s s.heap "com/example/querent/querent/dicom/Vr" "DS" "Lcom/example/querent/querent/dicom/Vr;" (.ref a_DS) := Sta.start eva_DS (Or.inr ⟨(own_w hw 3 rfl), (own_w hw 15 rfl)⟩)
  have Ea_DS : Exa s s.heap a_DS "com/example/querent/querent/dicom/Vr" := Exa.start eva_DS hn_10
  obtain ⟨a_DT, eva_DT⟩ := exa_v hn_12
  have Sa_DT : Sta s s.heap "com/example/querent/querent/dicom/Vr" "DT" "Lcom/example/querent/querent/dicom/Vr;" (.ref a_DT) := Sta.start eva_DT (Or.inr ⟨(own_w hw 3 rfl), (own_w hw 17 rfl)⟩)
  have Ea_DT : Exa s s.heap a_DT "com/example/querent/querent/dicom/Vr" := Exa.start eva_DT hn_12
  obtain ⟨a_FD, eva_FD⟩ := exa_v hn_14
  have Sa_FD : Sta s s.heap "com/example/querent/querent/dicom/Vr" "FD" "Lcom/example/querent/querent/dicom/Vr;" (.ref a_FD) := Sta.start eva_FD (Or.inr ⟨(own_w hw 3 rfl), (own_w hw 19 rfl)⟩)
  have Ea_FD : Exa s s.heap a_FD "com/example/querent/querent/dicom/Vr" := Exa.start eva_FD hn_14
  obtain ⟨a_FL, eva_FL⟩ := exa_v hn_16
  have Sa_FL : Sta s s.heap "com/example/querent/querent/dicom/Vr" "FL" "Lcom/example/querent/querent/dicom/Vr;" (.ref a_FL) := Sta.start eva_FL (Or.inr ⟨(own_w hw 3 rfl), (own_w hw 21 rfl)⟩)
  have Ea_FL : Exa s s.heap a_FL "com/example/querent/querent/dicom/Vr" := Exa.start eva_FL hn_16
  obtain ⟨a_IS, eva_IS⟩ := exa_v hn_18
  have Sa_IS : Sta s s.heap "com/example/querent/querent/dicom/Vr" "IS" "Lcom/example/querent/querent/dicom/Vr;" (.ref a_IS) := Sta.start eva_IS (Or.inr ⟨(own_w hw 3 rfl), (own_w hw 23 rfl)⟩)
  have Ea_IS : Exa s s.heap a_IS "com/example/querent/querent/dicom/Vr" := Exa.start eva_IS hn_18
  obtain ⟨a_LO, eva_LO⟩ := exa_v hn_20
  have Sa_LO : Sta s s.heap "com/example/querent/querent/dicom/Vr" "LO" "Lcom/example/querent/querent/dicom/Vr;" (.ref a_LO) := Sta.start eva_LO (Or.inr ⟨(own_w hw 3 rfl), (own_w hw 25 rfl)⟩)
  have Ea_LO : Exa s s.heap a_LO "com/example/querent/querent/dicom/Vr" := Exa.start eva_LO hn_20
  obtain ⟨a_LT, eva_LT⟩ := exa_v hn_22
  have Sa_LT : Sta s s.heap "com/example/querent/querent/dicom/Vr" "LT" "Lcom/example/querent/querent/dicom/Vr;" (.ref a_LT) := Sta.start eva_LT (Or.inr ⟨(own_w hw 3 rfl), (own_w hw 27 rfl)⟩)
  have Ea_LT : Exa s s.heap a_LT "com/example/querent/querent/dicom/Vr" := Exa.start eva_LT hn_22
  obtain ⟨a_OB, eva_OB⟩ := exa_v hn_24
  have Sa_OB : Sta s s.heap "com/example/querent/querent/dicom/Vr" "OB" "Lcom/example/querent/querent/dicom/Vr;" (.ref a_OB) := Sta.start eva_OB (Or.inr ⟨(own_w hw 3 rfl), (own_w hw 29 rfl)⟩)
  have Ea_OB : Exa s s.heap a_OB "com/example/querent/querent/dicom/Vr" := Exa.start eva_OB hn_24
  obtain ⟨a_OD, eva_OD⟩ := exa_v hn_26
  have Sa_OD : Sta s s.heap "com/example/querent/querent/dicom/Vr" "OD" "Lcom/example/querent/querent/dicom/Vr;" (.ref a_OD) := Sta.start eva_OD (Or.inr ⟨(own_w hw 3 rfl), (own_w hw 31 rfl)⟩)
  have Ea_OD : Exa s s.heap a_OD "com/example/querent/querent/dicom/Vr" := Exa.start eva_OD hn_26
  obtain ⟨a_OF, eva_OF⟩ := exa_v hn_28
  have Sa_OF : Sta s s.heap "com/example/querent/querent/dicom/Vr" "OF" "Lcom/example/querent/querent/dicom/Vr;" (.ref a_OF) := Sta.start eva_OF (Or.inr ⟨(own_w hw 3 rfl), (own_w hw 33 rfl)⟩)
  have Ea_OF : Exa s s.heap a_OF "com/example/querent/querent/dicom/Vr" := Exa.start eva_OF hn_28
  obtain ⟨a_OL, eva_OL⟩ := exa_v hn_30
  have Sa_OL : Sta s s.heap "com/example/querent/querent/dicom/Vr" "OL" "Lcom/example/querent/querent/dicom/Vr;" (.ref a_OL) := Sta.start eva_OL (Or.inr ⟨(own_w hw 3 rfl), (own_w hw 35 rfl)⟩)
  have Ea_OL : Exa s s.heap a_OL "com/example/querent/querent/dicom/Vr" := Exa.start eva_OL hn_30
  obtain ⟨a_OV, eva_OV⟩ := exa_v hn_32
  have Sa_OV : Sta s s.heap "com/example/querent/querent/dicom/Vr" "OV" "Lcom/example/querent/querent/dicom/Vr;" (.ref a_OV) := Sta.start eva_OV (Or.inr ⟨(own_w hw 3 rfl), (own_w hw 37 rfl)⟩)
  have Ea_OV : Exa s s.heap a_OV "com/example/querent/querent/dicom/Vr" := Exa.start eva_OV hn_32
  obtain ⟨a_OW, eva_OW⟩ := exa_v hn_34
  have Sa_OW : Sta s s.heap "com/example/querent/querent/dicom/Vr" "OW" "Lcom/example/querent/querent/dicom/Vr;" (.ref a_OW) := Sta.start eva_OW (Or.inr ⟨(own_w hw 3 rfl), (own_w hw 39 rfl)⟩)
  have Ea_OW : Exa s s.heap a_OW "com/example/querent/querent/dicom/Vr" := Exa.start eva_OW hn_34
  obtain ⟨a_PN, eva_PN⟩ := exa_v hn_36
  have Sa_PN : Sta s s.heap "com/example/querent/querent/dicom/Vr" "PN" "Lcom/example/querent/querent/dicom/Vr;" (.ref a_PN) := Sta.start eva_PN (Or.inr ⟨(own_w hw 3 rfl), (own_w hw 41 rfl)⟩)
  have Ea_PN : Exa s s.heap a_PN "com/example/querent/querent/dicom/Vr" := Exa.start eva_PN hn_36
  obtain ⟨a_SH, eva_SH⟩ := exa_v hn_38
  have Sa_SH : Sta s s.heap "com/example/querent/querent/dicom/Vr" "SH" "Lcom/example/querent/querent/dicom/Vr;" (.ref a_SH) := Sta.start eva_SH (Or.inr ⟨(own_w hw 3 rfl), (own_w hw 43 rfl)⟩)
  have Ea_SH : Exa s s.heap a_SH "com/example/querent/querent/dicom/Vr" := Exa.start eva_SH hn_38
  obtain ⟨a_SL, eva_SL⟩ := exa_v hn_40
  have Sa_SL : Sta s s.heap "com/example/querent/querent/dicom/Vr" "SL" "Lcom/example/querent/querent/dicom/Vr;" (.ref a_SL) := Sta.start eva_SL (Or.inr ⟨(own_w hw 3 rfl), (own_w hw 45 rfl)⟩)
  have Ea_SL : Exa s s.heap a_SL "com/example/querent/querent/dicom/Vr" := Exa.start eva_SL hn_40
  obtain ⟨a_SQ, eva_SQ⟩ := exa_v hn_42
  have Sa_SQ : Sta s s.heap "com/example/querent/querent/dicom/Vr" "SQ" "Lcom/example/querent/querent/dicom/Vr;" (.ref a_SQ) := Sta.start eva_SQ (Or.inr ⟨(own_w hw 3 rfl), (own_w hw 47 rfl)⟩)
  have Ea_SQ : Exa s s.heap a_SQ "com/example/querent/querent/dicom/Vr" := Exa.start eva_SQ hn_42
  obtain ⟨a_SS, eva_SS⟩ := exa_v hn_44
  have Sa_SS : Sta s s.heap "com/example/querent/querent/dicom/Vr" "SS" "Lcom/example/querent/querent/dicom/Vr;" (.ref a_SS) := Sta.start eva_SS (Or.inr ⟨(own_w hw 3 rfl), (own_w hw 49 rfl)⟩)
  have Ea_SS : Exa s s.heap a_SS "com/example/querent/querent/dicom/Vr" := Exa.start eva_SS hn_44
  obtain ⟨a_ST, eva_ST⟩ := exa_v hn_46
  have Sa_ST : Sta s s.heap "com/example/querent/querent/dicom/Vr" "ST" "Lcom/example/querent/querent/dicom/Vr;" (.ref a_ST) := Sta.start eva_ST (Or.inr ⟨(own_w hw 3 rfl), (own_w hw 51 rfl)⟩)
  have Ea_ST : Exa s s.heap a_ST "com/example/querent/querent/dicom/Vr" := Exa.start eva_ST hn_46
  obtain ⟨a_SV, eva_SV⟩ := exa_v hn_48
  have Sa_SV : Sta s s.heap "com/example/querent/querent/dicom/Vr" "SV" "Lcom/example/querent/querent/dicom/Vr;" (.ref a_SV) := Sta.start eva_SV (Or.inr ⟨(own_w hw 3 rfl), (own_w hw 53 rfl)⟩)
  have Ea_SV : Exa s s.heap a_SV "com/example/querent/querent/dicom/Vr" := Exa.start eva_SV hn_48
  obtain ⟨a_TM, eva_TM⟩ := exa_v hn_50
  have Sa_TM : Sta s s.heap "com/example/querent/querent/dicom/Vr" "TM" "Lcom/example/querent/querent/dicom/Vr;" (.ref a_TM) := Sta.start eva_TM (Or.inr ⟨(own_w hw 3 rfl), (own_w hw 55 rfl)⟩)
  have Ea_TM : Exa s s.heap a_TM "com/example/querent/querent/dicom/Vr" := Exa.start eva_TM hn_50
  obtain ⟨a_UC, eva_UC⟩ := exa_v hn_52
  have Sa_UC : Sta s s.heap "com/example/querent/querent/dicom/Vr" "UC" "Lcom/example/querent/querent/dicom/Vr;" (.ref a_UC) := Sta.start eva_UC (Or.inr ⟨(own_w hw 3 rfl), (own_w hw 57 rfl)⟩)
  have Ea_UC : Exa s s.heap a_UC "com/example/querent/querent/dicom/Vr" := Exa.start eva_UC hn_52
  obtain ⟨a_UI, eva_UI⟩ := exa_v hn_54
  have Sa_UI : Sta s s.heap "com/example/querent/querent/dicom/Vr" "UI" "Lcom/example/querent/querent/dicom/Vr;" (.ref a_UI) := Sta.start eva_UI (Or.inr ⟨(own_w hw 3 rfl), (own_w hw 59 rfl)⟩)
  have Ea_UI : Exa s s.heap a_UI "com/example/querent/querent/dicom/Vr" := Exa.start eva_UI hn_54
  obtain ⟨a_UL, eva_UL⟩ := exa_v hn_56
  have Sa_UL : Sta s s.heap "com/example/querent/querent/dicom/Vr" "UL" "Lcom/example/querent/querent/dicom/Vr;" (.ref a_UL) := Sta.start eva_UL (Or.inr ⟨(own_w hw 3 rfl), (own_w hw 61 rfl)⟩)
  have Ea_UL : Exa s s.heap a_UL "com/example/querent/querent/dicom/Vr" := Exa.start eva_UL hn_56
  obtain ⟨a_UN, eva_UN⟩ := exa_v hn_58
  have Sa_UN : Sta s s.heap "com/example/querent/querent/dicom/Vr" "UN" "Lcom/example/querent/querent/dicom/Vr;" (.ref a_UN) := Sta.start eva_UN (Or.inr ⟨(own_w hw 3 rfl), (own_w hw 63 rfl)⟩)
  have Ea_UN : Exa s s.heap a_UN "com/example/querent/querent/dicom/Vr" := Exa.start eva_UN hn_58
  obtain ⟨a_UR, eva_UR⟩ := exa_v hn_60
  have Sa_UR : Sta s s.heap "com/example/querent/querent/dicom/Vr" "UR" "Lcom/example/querent/querent/dicom/Vr;" (.ref a_UR) := Sta.start eva_UR (Or.inr ⟨(own_w hw 3 rfl), (own_w hw 65 rfl)⟩)
  have Ea_UR : Exa s s.heap a_UR "com/example/querent/querent/dicom/Vr" := Exa.start eva_UR hn_60
  obtain ⟨a_US, eva_US⟩ := exa_v hn_62
  have Sa_US : Sta s s.heap "com/example/querent/querent/dicom/Vr" "US" "Lcom/example/querent/querent/dicom/Vr;" (.ref a_US) := Sta.start eva_US (Or.inr ⟨(own_w hw 3 rfl), (own_w hw 67 rfl)⟩)
  have Ea_US : Exa s s.heap a_US "com/example/querent/querent/dicom/Vr" := Exa.start eva_US hn_62
  obtain ⟨a_UT, eva_UT⟩ := exa_v hn_64
  have Sa_UT : Sta s s.heap "com/example/querent/querent/dicom/Vr" "UT" "Lcom/example/querent/querent/dicom/Vr;" (.ref a_UT) := Sta.start eva_UT (Or.inr ⟨(own_w hw 3 rfl), (own_w hw 69 rfl)⟩)
  have Ea_UT : Exa s s.heap a_UT "com/example/querent/querent/dicom/Vr" := Exa.start eva_UT hn_64
  obtain ⟨a_UV, eva_UV⟩ := exa_v hn_66
  have Sa_UV : Sta s s.heap "com/example/querent/querent/dicom/Vr" "UV" "Lcom/example/querent/querent/dicom/Vr;" (.ref a_UV) := Sta.start eva_UV (Or.inr ⟨(own_w hw 3 rfl), (own_w hw 71 rfl)⟩)
  have Ea_UV : Exa s s.heap a_UV "com/example/querent/querent/dicom/Vr" := Exa.start eva_UV hn_66
  have Fa_AE_ordinal : Fld s s.heap a_AE "java/lang/Enum" "ordinal" "I" (.int (0 : Int32)) := Fld.start ((fld_at eva_AE).symm.trans (own_eqInt hn_68))
  have Fa_CS_ordinal : Fld s s.heap a_CS "java/lang/Enum" "ordinal" "I" (.int (3 : Int32)) := Fld.start ((fld_at eva_CS).symm.trans (own_eqInt hn_70))
  have Fa_FL_ordinal : Fld s s.heap a_FL "java/lang/Enum" "ordinal" "I" (.int (8 : Int32)) := Fld.start ((fld_at eva_FL).symm.trans (own_eqInt hn_72))
  have Fa_OW_ordinal : Fld s s.heap a_OW "java/lang/Enum" "ordinal" "I" (.int (17 : Int32)) := Fld.start ((fld_at eva_OW).symm.trans (own_eqInt hn_74))
  have Fa_IS_ordinal : Fld s s.heap a_IS "java/lang/Enum" "ordinal" "I" (.int (9 : Int32)) := Fld.start ((fld_at eva_IS).symm.trans (own_eqInt hn_76))
  have Fa_DT_ordinal : Fld s s.heap a_DT "java/lang/Enum" "ordinal" "I" (.int (6 : Int32)) := Fld.start ((fld_at eva_DT).symm.trans (own_eqInt hn_78))
  have Fa_FD_ordinal : Fld s s.heap a_FD "java/lang/Enum" "ordinal" "I" (.int (7 : Int32)) := Fld.start ((fld_at eva_FD).symm.trans (own_eqInt hn_80))
  have Fa_AT_ordinal : Fld s s.heap a_AT "java/lang/Enum" "ordinal" "I" (.int (2 : Int32)) := Fld.start ((fld_at eva_AT).symm.trans (own_eqInt hn_82))
  have Fa_LT_ordinal : Fld s s.heap a_LT "java/lang/Enum" "ordinal" "I" (.int (11 : Int32)) := Fld.start ((fld_at eva_LT).symm.trans (own_eqInt hn_84))
  have Fa_AS_ordinal : Fld s s.heap a_AS "java/lang/Enum" "ordinal" "I" (.int (1 : Int32)) := Fld.start ((fld_at eva_AS).symm.trans (own_eqInt hn_86))
  have Fa_OD_ordinal : Fld s s.heap a_OD "java/lang/Enum" "ordinal" "I" (.int (13 : Int32)) := Fld.start ((fld_at eva_OD).symm.trans (own_eqInt hn_88))
  have Fa_PN_ordinal : Fld s s.heap a_PN "java/lang/Enum" "ordinal" "I" (.int (18 : Int32)) := Fld.start ((fld_at eva_PN).symm.trans (own_eqInt hn_90))
  have Fa_DA_ordinal : Fld s s.heap a_DA "java/lang/Enum" "ordinal" "I" (.int (4 : Int32)) := Fld.start ((fld_at eva_DA).symm.trans (own_eqInt hn_92))
  have Fa_LO_ordinal : Fld s s.heap a_LO "java/lang/Enum" "ordinal" "I" (.int (10 : Int32)) := Fld.start ((fld_at eva_LO).symm.trans (own_eqInt hn_94))
  have Fa_OV_ordinal : Fld s s.heap a_OV "java/lang/Enum" "ordinal" "I" (.int (16 : Int32)) := Fld.start ((fld_at eva_OV).symm.trans (own_eqInt hn_96))
  have Fa_UT_ordinal : Fld s s.heap a_UT "java/lang/Enum" "ordinal" "I" (.int (32 : Int32)) := Fld.start ((fld_at eva_UT).symm.trans (own_eqInt hn_98))
  have Fa_UL_ordinal : Fld s s.heap a_UL "java/lang/Enum" "ordinal" "I" (.int (28 : Int32)) := Fld.start ((fld_at eva_UL).symm.trans (own_eqInt hn_100))
  have Fa_SH_ordinal : Fld s s.heap a_SH "java/lang/Enum" "ordinal" "I" (.int (19 : Int32)) := Fld.start ((fld_at eva_SH).symm.trans (own_eqInt hn_102))
  have Fa_OL_ordinal : Fld s s.heap a_OL "java/lang/Enum" "ordinal" "I" (.int (15 : Int32)) := Fld.start ((fld_at eva_OL).symm.trans (own_eqInt hn_104))
  have Fa_SV_ordinal : Fld s s.heap a_SV "java/lang/Enum" "ordinal" "I" (.int (24 : Int32)) := Fld.start ((fld_at eva_SV).symm.trans (own_eqInt hn_106))
  have Fa_ST_ordinal : Fld s s.heap a_ST "java/lang/Enum" "ordinal" "I" (.int (23 : Int32)) := Fld.start ((fld_at eva_ST).symm.trans (own_eqInt hn_108))
  have Fa_SS_ordinal : Fld s s.heap a_SS "java/lang/Enum" "ordinal" "I" (.int (22 : Int32)) := Fld.start ((fld_at eva_SS).symm.trans (own_eqInt hn_110))
  have Fa_DS_ordinal : Fld s s.heap a_DS "java/lang/Enum" "ordinal" "I" (.int (5 : Int32)) := Fld.start ((fld_at eva_DS).symm.trans (own_eqInt hn_112))
  have Fa_OF_ordinal : Fld s s.heap a_OF "java/lang/Enum" "ordinal" "I" (.int (14 : Int32)) := Fld.start ((fld_at eva_OF).symm.trans (own_eqInt hn_114))
  have Fa_OB_ordinal : Fld s s.heap a_OB "java/lang/Enum" "ordinal" "I" (.int (12 : Int32)) := Fld.start ((fld_at eva_OB).symm.trans (own_eqInt hn_116))
  have Fa_UV_ordinal : Fld s s.heap a_UV "java/lang/Enum" "ordinal" "I" (.int (33 : Int32)) := Fld.start ((fld_at eva_UV).symm.trans (own_eqInt hn_118))
  have Fa_SL_ordinal : Fld s s.heap a_SL "java/lang/Enum" "ordinal" "I" (.int (20 : Int32)) := Fld.start ((fld_at eva_SL).symm.trans (own_eqInt hn_120))
  have Fa_TM_ordinal : Fld s s.heap a_TM "java/lang/Enum" "ordinal" "I" (.int (25 : Int32)) := Fld.start ((fld_at eva_TM).symm.trans (own_eqInt hn_122))
  have Fa_UR_ordinal : Fld s s.heap a_UR "java/lang/Enum" "ordinal" "I" (.int (30 : Int32)) := Fld.start ((fld_at eva_UR).symm.trans (own_eqInt hn_124))
  have Fa_UI_ordinal : Fld s s.heap a_UI "java/lang/Enum" "ordinal" "I" (.int (27 : Int32)) := Fld.start ((fld_at eva_UI).symm.trans (own_eqInt hn_126))
  have Fa_SQ_ordinal : Fld s s.heap a_SQ "java/lang/Enum" "ordinal" "I" (.int (21 : Int32)) := Fld.start ((fld_at eva_SQ).symm.trans (own_eqInt hn_128))
  have Fa_US_ordinal : Fld s s.heap a_US "java/lang/Enum" "ordinal" "I" (.int (31 : Int32)) := Fld.start ((fld_at eva_US).symm.trans (own_eqInt hn_130))
  have Fa_UN_ordinal : Fld s s.heap a_UN "java/lang/Enum" "ordinal" "I" (.int (29 : Int32)) := Fld.start ((fld_at eva_UN).symm.trans (own_eqInt hn_132))
  have Fa_UC_ordinal : Fld s s.heap a_UC "java/lang/Enum" "ordinal" "I" (.int (26 : Int32)) := Fld.start ((fld_at eva_UC).symm.trans (own_eqInt hn_133))
  obtain ⟨hsets, hown0⟩ := atoms_of _ (rest_1_c_eq ▸ (show rest_1_c.before _ s = true from hrest))
  obtain ⟨cs, ecs⟩ := is_v (Cond.before_iff.mp (hsets _ (List.mem_of_getElem? (i := 1) rfl)))
  have Scs : Sta s s.heap "java/lang/String" "COMPACT_STRINGS" "Z" (.int cs) := Sta.start ecs (Or.inl (hsets _ (List.mem_of_getElem? (i := 0) rfl)))
  have hcw := (hsets _ (List.mem_of_getElem? (i := 2) rfl))
  have hcs : ¬ (cs = (0 : Int32)) := gotF (Cond.eq_ints ecs (Term.int_eval (0))) (not_v (Cond.before_iff.mp hcw))
  obtain ⟨sf, esf, rsf⟩ := isR_v (Cond.before_iff.mp (hsets _ (List.mem_of_getElem? (i := 8) rfl)))
  have Ssf : Sta s s.heap "jdk/internal/util/Preconditions" "SIOOBE_FORMATTER" "Ljava/util/function/BiFunction;" sf := Sta.start esf (Or.inl (hsets _ (List.mem_of_getElem? (i := 7) rfl)))
  obtain ⟨n, o, h1, h2, h3, _, L, rfl, ⟨rfl, N, -⟩, hq⟩ := rm0 l s _ hw tables_1 i0 cs sf a_AE a_AS a_AT a_CS a_DA a_DS a_DT a_FD a_FL a_IS a_LO a_LT a_OB a_OD a_OF a_OL a_OV a_OW a_PN a_SH a_SL a_SQ a_SS a_ST a_SV a_TM a_UC a_UI a_UL a_UN a_UR a_US a_UT a_UV s.heap s.heap.size (Nat.le_refl _) (Old.start s) Scs hcs Ssf rsf rfl hcw (hcalls.1 _ (List.mem_of_getElem? (i := 0) rfl)) Sa_AE Ea_AE Fa_AE_ordinal Sa_AS Ea_AS Fa_AS_ordinal Sa_AT Ea_AT Fa_AT_ordinal Sa_CS Ea_CS Fa_CS_ordinal Sa_DA Ea_DA Fa_DA_ordinal Sa_DS Ea_DS Fa_DS_ordinal Sa_DT Ea_DT Fa_DT_ordinal Sa_FD Ea_FD Fa_FD_ordinal Sa_FL Ea_FL Fa_FL_ordinal Sa_IS Ea_IS Fa_IS_ordinal Sa_LO Ea_LO Fa_LO_ordinal Sa_LT Ea_LT Fa_LT_ordinal Sa_OB Ea_OB Fa_OB_ordinal Sa_OD Ea_OD Fa_OD_ordinal Sa_OF Ea_OF Fa_OF_ordinal Sa_OL Ea_OL Fa_OL_ordinal Sa_OV Ea_OV Fa_OV_ordinal Sa_OW Ea_OW Fa_OW_ordinal Sa_PN Ea_PN Fa_PN_ordinal Sa_SH Ea_SH Fa_SH_ordinal Sa_SL Ea_SL Fa_SL_ordinal Sa_SQ Ea_SQ Fa_SQ_ordinal Sa_SS Ea_SS Fa_SS_ordinal Sa_ST Ea_ST Fa_ST_ordinal Sa_SV Ea_SV Fa_SV_ordinal Sa_TM Ea_TM Fa_TM_ordinal Sa_UC Ea_UC Fa_UC_ordinal Sa_UI Ea_UI Fa_UI_ordinal Sa_UL Ea_UL Fa_UL_ordinal Sa_UN Ea_UN Fa_UN_ordinal Sa_UR Ea_UR Fa_UR_ordinal Sa_US Ea_US Fa_US_ordinal Sa_UT Ea_UT Fa_UT_ordinal Sa_UV Ea_UV Fa_UV_ordinal p e ha hc hk s m _ below hf ((Spec.applies_iff_loose hf).mp happ).1 ⟨rfl, State.Warmed39.refl s, rfl, rfl⟩ trivial
  refine ⟨n, _, h1, h2, h3, hpost _ _ _ _ _ _ ⟨Cond.after_iff.mpr rfl, Cond.after_iff.mpr (eq_i res_at (Term.int_eval (1)) rfl), trivial⟩ ⟨hq.1, hq.2.1, hq.2.2.1, (hq.2.2.2.sift fun y hy => Or.inr (N y hy)).mono (by decide) (by decide)⟩⟩
theorem main_1_1 : Claimed_1_1 := comes_1 fun _ _ _ _ _ _ h hF => ⟨h.1, hF⟩
theorem main_1_2 : Claimed_1_2 := comes_1 fun _ _ _ _ _ _ h hF => ⟨h.2.1, hF⟩
end Jvm.Pilot.@@N@@
namespace Jvm.Pilot.@@N@@
open Jvm Jvm.ClassFile Sem Op Lib Jvm.Free Jvm.Stand Jvm.Pilot.@@N@@.Jvm.D
/-! MADE BY PROGRAM (witnessworld.py) out of the Statement's table words and the real class files: 19 classes; the members and pool entries that the words name. The judged class is class 1, her method 2. -/
namespace start1
open Jvm.ClassFile
def u (s : String) : CpInfo := .utf8 (stringToUtf16 s)
/-- a pool by its gaps: so many unusable entries, then the entry; so many at the end -/
def gap : Nat → List CpInfo → List CpInfo
  | 0, r => r
  | n + 1, r => .unusable :: gap n r
def poolList (es : List (Nat × CpInfo)) (last : Nat) : List CpInfo := es.foldr (fun e r => gap e.1 (e.2 :: r)) (gap last [])
def pool (es : List (Nat × CpInfo)) (last : Nat) : Array CpInfo := ⟨poolList es last⟩
def fileOf (pool : Array CpInfo) (this : Nat) (attrs : Array Attribute := #[]) (ms : Array MethodInfo := #[]) (fl : Nat := 33) (sup : Nat := 0) (ifs : Array Nat := #[]) (fds : Array FieldInfo := #[]) : ClassFile where
  minorVersion := 0
  majorVersion := 65
  constantPool := pool
  accessFlags := fl
  thisClass := this
  superClass := sup
  interfaces := ifs
  fields := fds
  methods := ms
  attributes := attrs
def plain (name : String) (sup : Option ClassId) : Class where
  name := name
  kind := .ordinary
  loader := none
  accessFlags := 33
  super := sup
  interfaces := #[]
  cf := none
  fields := #[]
  methods := #[]
  instanceTypes := #[]
  staticTypes := #[]
  resolved := #[]
  callSites := []
  init := .initialized
  statics := none
  mirror := none

def pool0 : Array CpInfo := pool [(5, u "<init>"), (0, u "()V"), (1, .class_ 10), (1, u "java/lang/Object")] 113

def k0m0 : Method := { name := "<init>", desc := "()V", sig := { parameters := [], returnType := none }, accessFlags := 1, code := none }
/-- java/lang/Object -/
def k0 : Class := { plain "java/lang/Object" none with
  accessFlags := 33
  interfaces := #[]
  cf := some (fileOf pool0 8 #[] #[{ accessFlags := 1, nameIndex := 5, descriptorIndex := 6, attributes := #[] }] 33 0 #[] #[])
  fields := #[]
  methods := #[k0m0]
  instanceTypes := #[]
  staticTypes := #[]
  resolved := Array.replicate 124 none
  statics := none }

def pool1 : Array CpInfo := pool [(2, .class_ 4), (1, u "java/lang/Object"), (0, u "<init>"), (0, u "()V"), (0, .class_ 8), (0, u "com/example/querent/querent/dicom/Vr"), (0, .fieldref 7 10), (0, .nameAndType 11 12), (0, u "AE"), (0, u "Lcom/example/querent/querent/dicom/Vr;"), (0, .fieldref 7 14), (0, .nameAndType 15 12), (0, u "AS"), (0, .fieldref 7 17), (0, .nameAndType 18 12), (0, u "AT"), (0, .fieldref 7 20), (0, .nameAndType 21 12), (0, u "CS"), (0, .fieldref 7 23), (0, .nameAndType 24 12), (0, u "DA"), (0, .fieldref 7 26), (0, .nameAndType 27 12), (0, u "DS"), (0, .fieldref 7 29), (0, .nameAndType 30 12), (0, u "DT"), (0, .fieldref 7 32), (0, .nameAndType 33 12), (0, u "FD"), (0, .fieldref 7 35), (0, .nameAndType 36 12), (0, u "FL"), (0, .fieldref 7 38), (0, .nameAndType 39 12), (0, u "IS"), (0, .fieldref 7 41), (0, .nameAndType 42 12), (0, u "LO"), (0, .fieldref 7 44), (0, .nameAndType 45 12), (0, u "LT"), (0, .fieldref 7 47), (0, .nameAndType 48 12), (0, u "OB"), (0, .fieldref 7 50), (0, .nameAndType 51 12), (0, u "OD"), (0, .fieldref 7 53), (0, .nameAndType 54 12), (0, u "OF"), (0, .fieldref 7 56), (0, .nameAndType 57 12), (0, u "OL"), (0, .fieldref 7 59), (0, .nameAndType 60 12), (0, u "OV"), (0, .fieldref 7 62), (0, .nameAndType 63 12), (0, u "OW"), (0, .fieldref 7 65), (0, .nameAndType 66 12), (0, u "PN"), (0, .fieldref 7 68), (0, .nameAndType 69 12), (0, u "SH"), (0, .fieldref 7 71), (0, .nameAndType 72 12), (0, u "SL"), (0, .fieldref 7 74), (0, .nameAndType 75 12), (0, u "SQ"), (0, .fieldref 7 77), (0, .nameAndType 78 12), (0, u "SS"), (0, .fieldref 7 80), (0, .nameAndType 81 12), (0, u "ST"), (0, .fieldref 7 83), (0, .nameAndType 84 12), (0, u "SV"), (0, .fieldref 7 86), (0, .nameAndType 87 12), (0, u "TM"), (0, .fieldref 7 89), (0, .nameAndType 90 12), (0, u "UC"), (0, .fieldref 7 92), (0, .nameAndType 93 12), (0, u "UI"), (0, .fieldref 7 95), (0, .nameAndType 96 12), (0, u "UL"), (0, .fieldref 7 98), (0, .nameAndType 99 12), (0, u "UN"), (0, .fieldref 7 101), (0, .nameAndType 102 12), (0, u "UR"), (0, .fieldref 7 104), (0, .nameAndType 105 12), (0, u "US"), (0, .fieldref 7 107), (0, .nameAndType 108 12), (0, u "UT"), (0, .fieldref 7 110), (0, .nameAndType 111 12), (0, u "UV"), (0, .string 113), (0, u "AEASATCSDADSDTFDFLISLOLTOBODOFOLOVOWPNSHSLSQSSSTSVTMUCUIULUNURUSUTUV"), (0, .integer 2147483647), (0, .methodref 116 117), (0, .class_ 118), (0, .nameAndType 119 120), (0, u "java/lang/String"), (0, u "charAt"), (0, u "(I)C"), (0, .methodref 7 122), (0, .nameAndType 123 124), (0, u "hasLongLength"), (0, u "()Z"), (0, .methodref 126 127), (0, .class_ 128), (0, .nameAndType 129 130), (0, u "com/example/querent/querent/dicom/VrHasLongLengthPinLaw"), (0, u "expected"), (0, u "(CC)Z"), (3, u "law"), (0, u "(I)Z")] 4

def k1m0 : Method := { name := "<init>", desc := "()V", sig := { parameters := [], returnType := none }, accessFlags := 2, code := none }
def k1c1 : Code := { maxStack := 2, maxLocals := 2, code := method_2_code, exceptionTable := #[], attributes := #[] }
def k1m1 : Method := { name := "expected", desc := "(CC)Z", sig := { parameters := [.char, .char], returnType := some .boolean }, accessFlags := 10, code := some k1c1 }
def k1c2 : Code := { maxStack := 4, maxLocals := 7, code := code, exceptionTable := #[], attributes := #[] }
def k1m2 : Method := { name := "law", desc := "(I)Z", sig := { parameters := [.int], returnType := some .boolean }, accessFlags := 9, code := some k1c2 }
/-- com/example/querent/querent/dicom/VrHasLongLengthPinLaw -/
def k1 : Class := { plain "com/example/querent/querent/dicom/VrHasLongLengthPinLaw" (some 0) with
  accessFlags := 49
  interfaces := #[]
  cf := some (fileOf pool1 126 #[] #[{ accessFlags := 2, nameIndex := 5, descriptorIndex := 6, attributes := #[] }, { accessFlags := 10, nameIndex := 129, descriptorIndex := 130, attributes := #[] }, { accessFlags := 9, nameIndex := 134, descriptorIndex := 135, attributes := #[] }] 49 2 #[] #[])
  fields := #[]
  methods := #[k1m0, k1m1, k1m2]
  instanceTypes := #[]
  staticTypes := #[]
  resolved := Array.replicate 140 none
  statics := none }

def pool2 : Array CpInfo := pool [(1, .class_ 2), (0, u "java/lang/constant/Constable"), (0, .class_ 4), (0, u "java/lang/Object")] 6

/-- java/lang/constant/Constable -/
def k2 : Class := { plain "java/lang/constant/Constable" (some 0) with
  accessFlags := 1537
  interfaces := #[]
  cf := some (fileOf pool2 1 #[] #[] 1537 3 #[] #[])
  fields := #[]
  methods := #[]
  instanceTypes := #[]
  staticTypes := #[]
  resolved := Array.replicate 11 none
  statics := none }

def pool3 : Array CpInfo := pool [(1, .class_ 2), (0, u "java/lang/Comparable"), (0, .class_ 4), (0, u "java/lang/Object")] 7

/-- java/lang/Comparable -/
def k3 : Class := { plain "java/lang/Comparable" (some 0) with
  accessFlags := 1537
  interfaces := #[]
  cf := some (fileOf pool3 1 #[] #[] 1537 3 #[] #[])
  fields := #[]
  methods := #[]
  instanceTypes := #[]
  staticTypes := #[]
  resolved := Array.replicate 12 none
  statics := none }

def pool4 : Array CpInfo := pool [(1, .class_ 2), (0, u "java/io/Serializable"), (0, .class_ 4), (0, u "java/lang/Object")] 2

/-- java/io/Serializable -/
def k4 : Class := { plain "java/io/Serializable" (some 0) with
  accessFlags := 1537
  interfaces := #[]
  cf := some (fileOf pool4 1 #[] #[] 1537 3 #[] #[])
  fields := #[]
  methods := #[]
  instanceTypes := #[]
  staticTypes := #[]
  resolved := Array.replicate 7 none
  statics := none }

def pool5 : Array CpInfo := pool [(2, .class_ 4), (1, u "java/lang/Enum"), (0, u "name"), (0, u "Ljava/lang/String;"), (0, .fieldref 2 8), (0, .nameAndType 9 10), (0, u "ordinal"), (0, u "I"), (1, .class_ 14), (1, u "java/lang/Object"), (4, u "hash"), (86, .class_ 108), (1, u "java/lang/Enum$EnumDesc"), (2, .class_ 112), (0, u "java/lang/constant/Constable"), (0, .class_ 114), (0, u "java/lang/Comparable"), (0, .class_ 116), (0, u "java/io/Serializable"), (9, u "()I")] 77

def k5c0 : Code := { maxStack := 1, maxLocals := 1, code := jdk_37_method_2_code, exceptionTable := #[], attributes := #[] }
def k5m0 : Method := { name := "ordinal", desc := "()I", sig := { parameters := [], returnType := some .int }, accessFlags := 17, code := some k5c0 }
/-- java/lang/Enum -/
def k5 : Class := { plain "java/lang/Enum" (some 0) with
  accessFlags := 1057
  interfaces := #[2, 3, 4]
  cf := some (fileOf pool5 2 #[.nestMembers #[106]] #[{ accessFlags := 17, nameIndex := 9, descriptorIndex := 126, attributes := #[] }] 1057 12 #[111, 113, 115] #[{ accessFlags := 18, nameIndex := 5, descriptorIndex := 6, attributes := #[] }, { accessFlags := 18, nameIndex := 9, descriptorIndex := 10, attributes := #[] }, { accessFlags := 2, nameIndex := 19, descriptorIndex := 10, attributes := #[] }])
  fields := #[{ name := "name", type := (.object "java/lang/String"), accessFlags := 18, slot := 0, constantValue := 0 }, { name := "ordinal", type := .int, accessFlags := 18, slot := 1, constantValue := 0 }, { name := "hash", type := .int, accessFlags := 2, slot := 2, constantValue := 0 }]
  methods := #[k5m0]
  instanceTypes := #[(.object "java/lang/String"), .int, .int]
  staticTypes := #[]
  resolved := Array.replicate 204 none
  statics := none }

def pool6 : Array CpInfo := pool [(1, .class_ 2), (0, u "com/example/querent/querent/dicom/Vr"), (2, u "AE"), (0, u "Lcom/example/querent/querent/dicom/Vr;"), (2, u "AS"), (2, u "AT"), (2, u "CS"), (2, u "DA"), (2, u "DS"), (2, u "DT"), (2, u "FD"), (2, u "FL"), (2, u "IS"), (2, u "LO"), (2, u "LT"), (2, u "OB"), (2, u "OD"), (2, u "OF"), (2, u "OL"), (2, u "OV"), (2, u "OW"), (2, u "PN"), (2, u "SH"), (2, u "SL"), (2, u "SQ"), (2, u "SS"), (2, u "ST"), (2, u "SV"), (2, u "TM"), (2, u "UC"), (2, u "UI"), (2, u "UL"), (2, u "UN"), (2, u "UR"), (2, u "US"), (2, u "UT"), (2, u "UV"), (2, u "$VALUES"), (0, u "[Lcom/example/querent/querent/dicom/Vr;"), (6, .class_ 118), (1, u "java/lang/Enum"), (8, u "BY_CODE"), (0, u "Ljava/util/Map;"), (6, .methodref 1 136), (0, .nameAndType 137 138), (0, u "ordinal"), (0, u "()I"), (62, u "hasLongLength"), (0, u "()Z")] 9

def k6c0 : Code := { maxStack := 1, maxLocals := 1, code := prog_15_method_5_code, exceptionTable := #[], attributes := #[] }
def k6m0 : Method := { name := "hasLongLength", desc := "()Z", sig := { parameters := [], returnType := some .boolean }, accessFlags := 0, code := some k6c0 }
/-- com/example/querent/querent/dicom/Vr -/
def k6 : Class := { plain "com/example/querent/querent/dicom/Vr" (some 5) with
  accessFlags := 16433
  interfaces := #[]
  cf := some (fileOf pool6 1 #[] #[{ accessFlags := 0, nameIndex := 201, descriptorIndex := 202, attributes := #[] }] 16433 116 #[] #[{ accessFlags := 16409, nameIndex := 5, descriptorIndex := 6, attributes := #[] }, { accessFlags := 16409, nameIndex := 9, descriptorIndex := 6, attributes := #[] }, { accessFlags := 16409, nameIndex := 12, descriptorIndex := 6, attributes := #[] }, { accessFlags := 16409, nameIndex := 15, descriptorIndex := 6, attributes := #[] }, { accessFlags := 16409, nameIndex := 18, descriptorIndex := 6, attributes := #[] }, { accessFlags := 16409, nameIndex := 21, descriptorIndex := 6, attributes := #[] }, { accessFlags := 16409, nameIndex := 24, descriptorIndex := 6, attributes := #[] }, { accessFlags := 16409, nameIndex := 27, descriptorIndex := 6, attributes := #[] }, { accessFlags := 16409, nameIndex := 30, descriptorIndex := 6, attributes := #[] }, { accessFlags := 16409, nameIndex := 33, descriptorIndex := 6, attributes := #[] }, { accessFlags := 16409, nameIndex := 36, descriptorIndex := 6, attributes := #[] }, { accessFlags := 16409, nameIndex := 39, descriptorIndex := 6, attributes := #[] }, { accessFlags := 16409, nameIndex := 42, descriptorIndex := 6, attributes := #[] }, { accessFlags := 16409, nameIndex := 45, descriptorIndex := 6, attributes := #[] }, { accessFlags := 16409, nameIndex := 48, descriptorIndex := 6, attributes := #[] }, { accessFlags := 16409, nameIndex := 51, descriptorIndex := 6, attributes := #[] }, { accessFlags := 16409, nameIndex := 54, descriptorIndex := 6, attributes := #[] }, { accessFlags := 16409, nameIndex := 57, descriptorIndex := 6, attributes := #[] }, { accessFlags := 16409, nameIndex := 60, descriptorIndex := 6, attributes := #[] }, { accessFlags := 16409, nameIndex := 63, descriptorIndex := 6, attributes := #[] }, { accessFlags := 16409, nameIndex := 66, descriptorIndex := 6, attributes := #[] }, { accessFlags := 16409, nameIndex := 69, descriptorIndex := 6, attributes := #[] }, { accessFlags := 16409, nameIndex := 72, descriptorIndex := 6, attributes := #[] }, { accessFlags := 16409, nameIndex := 75, descriptorIndex := 6, attributes := #[] }, { accessFlags := 16409, nameIndex := 78, descriptorIndex := 6, attributes := #[] }, { accessFlags := 16409, nameIndex := 81, descriptorIndex := 6, attributes := #[] }, { accessFlags := 16409, nameIndex := 84, descriptorIndex := 6, attributes := #[] }, { accessFlags := 16409, nameIndex := 87, descriptorIndex := 6, attributes := #[] }, { accessFlags := 16409, nameIndex := 90, descriptorIndex := 6, attributes := #[] }, { accessFlags := 16409, nameIndex := 93, descriptorIndex := 6, attributes := #[] }, { accessFlags := 16409, nameIndex := 96, descriptorIndex := 6, attributes := #[] }, { accessFlags := 16409, nameIndex := 99, descriptorIndex := 6, attributes := #[] }, { accessFlags := 16409, nameIndex := 102, descriptorIndex := 6, attributes := #[] }, { accessFlags := 16409, nameIndex := 105, descriptorIndex := 6, attributes := #[] }, { accessFlags := 26, nameIndex := 127, descriptorIndex := 128, attributes := #[] }, { accessFlags := 4122, nameIndex := 108, descriptorIndex := 109, attributes := #[] }])
  fields := #[{ name := "AE", type := (.object "com/example/querent/querent/dicom/Vr"), accessFlags := 16409, slot := 0, constantValue := 0 }, { name := "AS", type := (.object "com/example/querent/querent/dicom/Vr"), accessFlags := 16409, slot := 1, constantValue := 0 }, { name := "AT", type := (.object "com/example/querent/querent/dicom/Vr"), accessFlags := 16409, slot := 2, constantValue := 0 }, { name := "CS", type := (.object "com/example/querent/querent/dicom/Vr"), accessFlags := 16409, slot := 3, constantValue := 0 }, { name := "DA", type := (.object "com/example/querent/querent/dicom/Vr"), accessFlags := 16409, slot := 4, constantValue := 0 }, { name := "DS", type := (.object "com/example/querent/querent/dicom/Vr"), accessFlags := 16409, slot := 5, constantValue := 0 }, { name := "DT", type := (.object "com/example/querent/querent/dicom/Vr"), accessFlags := 16409, slot := 6, constantValue := 0 }, { name := "FD", type := (.object "com/example/querent/querent/dicom/Vr"), accessFlags := 16409, slot := 7, constantValue := 0 }, { name := "FL", type := (.object "com/example/querent/querent/dicom/Vr"), accessFlags := 16409, slot := 8, constantValue := 0 }, { name := "IS", type := (.object "com/example/querent/querent/dicom/Vr"), accessFlags := 16409, slot := 9, constantValue := 0 }, { name := "LO", type := (.object "com/example/querent/querent/dicom/Vr"), accessFlags := 16409, slot := 10, constantValue := 0 }, { name := "LT", type := (.object "com/example/querent/querent/dicom/Vr"), accessFlags := 16409, slot := 11, constantValue := 0 }, { name := "OB", type := (.object "com/example/querent/querent/dicom/Vr"), accessFlags := 16409, slot := 12, constantValue := 0 }, { name := "OD", type := (.object "com/example/querent/querent/dicom/Vr"), accessFlags := 16409, slot := 13, constantValue := 0 }, { name := "OF", type := (.object "com/example/querent/querent/dicom/Vr"), accessFlags := 16409, slot := 14, constantValue := 0 }, { name := "OL", type := (.object "com/example/querent/querent/dicom/Vr"), accessFlags := 16409, slot := 15, constantValue := 0 }, { name := "OV", type := (.object "com/example/querent/querent/dicom/Vr"), accessFlags := 16409, slot := 16, constantValue := 0 }, { name := "OW", type := (.object "com/example/querent/querent/dicom/Vr"), accessFlags := 16409, slot := 17, constantValue := 0 }, { name := "PN", type := (.object "com/example/querent/querent/dicom/Vr"), accessFlags := 16409, slot := 18, constantValue := 0 }, { name := "SH", type := (.object "com/example/querent/querent/dicom/Vr"), accessFlags := 16409, slot := 19, constantValue := 0 }, { name := "SL", type := (.object "com/example/querent/querent/dicom/Vr"), accessFlags := 16409, slot := 20, constantValue := 0 }, { name := "SQ", type := (.object "com/example/querent/querent/dicom/Vr"), accessFlags := 16409, slot := 21, constantValue := 0 }, { name := "SS", type := (.object "com/example/querent/querent/dicom/Vr"), accessFlags := 16409, slot := 22, constantValue := 0 }, { name := "ST", type := (.object "com/example/querent/querent/dicom/Vr"), accessFlags := 16409, slot := 23, constantValue := 0 }, { name := "SV", type := (.object "com/example/querent/querent/dicom/Vr"), accessFlags := 16409, slot := 24, constantValue := 0 }, { name := "TM", type := (.object "com/example/querent/querent/dicom/Vr"), accessFlags := 16409, slot := 25, constantValue := 0 }, { name := "UC", type := (.object "com/example/querent/querent/dicom/Vr"), accessFlags := 16409, slot := 26, constantValue := 0 }, { name := "UI", type := (.object "com/example/querent/querent/dicom/Vr"), accessFlags := 16409, slot := 27, constantValue := 0 }, { name := "UL", type := (.object "com/example/querent/querent/dicom/Vr"), accessFlags := 16409, slot := 28, constantValue := 0 }, { name := "UN", type := (.object "com/example/querent/querent/dicom/Vr"), accessFlags := 16409, slot := 29, constantValue := 0 }, { name := "UR", type := (.object "com/example/querent/querent/dicom/Vr"), accessFlags := 16409, slot := 30, constantValue := 0 }, { name := "US", type := (.object "com/example/querent/querent/dicom/Vr"), accessFlags := 16409, slot := 31, constantValue := 0 }, { name := "UT", type := (.object "com/example/querent/querent/dicom/Vr"), accessFlags := 16409, slot := 32, constantValue := 0 }, { name := "UV", type := (.object "com/example/querent/querent/dicom/Vr"), accessFlags := 16409, slot := 33, constantValue := 0 }, { name := "BY_CODE", type := (.object "java/util/Map"), accessFlags := 26, slot := 34, constantValue := 0 }, { name := "$VALUES", type := (.array (.object "com/example/querent/querent/dicom/Vr")), accessFlags := 4122, slot := 35, constantValue := 0 }]
  methods := #[k6m0]
  instanceTypes := #[(.object "java/lang/String"), .int, .int]
  staticTypes := #[(.object "com/example/querent/querent/dicom/Vr"), (.object "com/example/querent/querent/dicom/Vr"), (.object "com/example/querent/querent/dicom/Vr"), (.object "com/example/querent/querent/dicom/Vr"), (.object "com/example/querent/querent/dicom/Vr"), (.object "com/example/querent/querent/dicom/Vr"), (.object "com/example/querent/querent/dicom/Vr"), (.object "com/example/querent/querent/dicom/Vr"), (.object "com/example/querent/querent/dicom/Vr"), (.object "com/example/querent/querent/dicom/Vr"), (.object "com/example/querent/querent/dicom/Vr"), (.object "com/example/querent/querent/dicom/Vr"), (.object "com/example/querent/querent/dicom/Vr"), (.object "com/example/querent/querent/dicom/Vr"), (.object "com/example/querent/querent/dicom/Vr"), (.object "com/example/querent/querent/dicom/Vr"), (.object "com/example/querent/querent/dicom/Vr"), (.object "com/example/querent/querent/dicom/Vr"), (.object "com/example/querent/querent/dicom/Vr"), (.object "com/example/querent/querent/dicom/Vr"), (.object "com/example/querent/querent/dicom/Vr"), (.object "com/example/querent/querent/dicom/Vr"), (.object "com/example/querent/querent/dicom/Vr"), (.object "com/example/querent/querent/dicom/Vr"), (.object "com/example/querent/querent/dicom/Vr"), (.object "com/example/querent/querent/dicom/Vr"), (.object "com/example/querent/querent/dicom/Vr"), (.object "com/example/querent/querent/dicom/Vr"), (.object "com/example/querent/querent/dicom/Vr"), (.object "com/example/querent/querent/dicom/Vr"), (.object "com/example/querent/querent/dicom/Vr"), (.object "com/example/querent/querent/dicom/Vr"), (.object "com/example/querent/querent/dicom/Vr"), (.object "com/example/querent/querent/dicom/Vr"), (.object "java/util/Map"), (.array (.object "com/example/querent/querent/dicom/Vr"))]
  resolved := Array.replicate 212 none
  statics := some 0 }

def pool7 : Array CpInfo := pool [(2, .class_ 4), (1, u "java/lang/CharSequence"), (42, .class_ 48), (0, u "java/lang/CharSequence$1CodePointIterator"), (10, .class_ 60), (0, u "java/lang/CharSequence$1CharIterator"), (5, .class_ 67), (0, u "java/lang/Object")] 63

/-- java/lang/CharSequence -/
def k7 : Class := { plain "java/lang/CharSequence" (some 0) with
  accessFlags := 1537
  interfaces := #[]
  cf := some (fileOf pool7 2 #[.nestMembers #[47, 59]] #[] 1537 66 #[] #[])
  fields := #[]
  methods := #[]
  instanceTypes := #[]
  staticTypes := #[]
  resolved := Array.replicate 131 none
  statics := none }

def pool8 : Array CpInfo := pool [(1, .class_ 2), (0, u "java/lang/constant/ConstantDesc"), (0, .class_ 4), (0, u "java/lang/Object")] 32

/-- java/lang/constant/ConstantDesc -/
def k8 : Class := { plain "java/lang/constant/ConstantDesc" (some 0) with
  accessFlags := 1537
  interfaces := #[]
  cf := some (fileOf pool8 1 #[] #[] 1537 3 #[] #[])
  fields := #[]
  methods := #[]
  instanceTypes := #[]
  staticTypes := #[]
  resolved := Array.replicate 37 none
  statics := none }

def pool9 : Array CpInfo := pool [(2, .class_ 4), (1, u "java/lang/Object"), (0, u "<init>"), (0, u "()V"), (2, .fieldref 10 11), (0, .class_ 12), (0, .nameAndType 13 14), (0, u "java/lang/String"), (0, u "value"), (0, u "[B"), (0, .fieldref 10 16), (0, .nameAndType 17 18), (0, u "coder"), (0, u "B"), (2, u "hash"), (0, u "I"), (2, u "hashIsZero"), (0, u "Z"), (11, .fieldref 10 39), (0, .nameAndType 40 26), (0, u "COMPACT_STRINGS"), (66, .class_ 109), (1, u "java/lang/StringLatin1"), (32, u "()Z"), (220, u "([BI)C"), (27, u "(II)V"), (35, u "(I)C"), (64, .methodref 10 493), (0, .nameAndType 494 142), (0, u "isLatin1"), (0, .methodref 107 496), (0, .nameAndType 497 363), (0, u "charAt"), (3, u "checkIndex"), (73, .class_ 576), (0, u "java/lang/CharSequence"), (22, u "CASE_INSENSITIVE_ORDER"), (0, u "Ljava/util/Comparator;"), (452, .fieldref 1054 1055), (0, .class_ 1056), (0, .nameAndType 1057 1058), (0, u "jdk/internal/util/Preconditions"), (0, u "SIOOBE_FORMATTER"), (0, u "Ljava/util/function/BiFunction;"), (0, .methodref 1054 1060), (0, .nameAndType 501 1061), (0, u "(IILjava/util/function/BiFunction;)I"), (39, u "serialPersistentFields"), (0, u "[Ljava/io/ObjectStreamField;"), (0, .class_ 1104), (0, u "java/lang/String$CaseInsensitiveComparator"), (1, .class_ 1107), (0, u "java/io/Serializable"), (0, .class_ 1109), (0, u "java/lang/Comparable"), (0, .class_ 1111), (0, u "java/lang/constant/Constable"), (0, .class_ 1113), (0, u "java/lang/constant/ConstantDesc"), (2, u "serialVersionUID"), (0, u "J"), (3, u "REPL"), (0, u "C"), (2, u "LATIN1"), (1, u "UTF16")] 323

def k9m0 : Method := { name := "<init>", desc := "()V", sig := { parameters := [], returnType := none }, accessFlags := 1, code := none }
def k9c1 : Code := { maxStack := 2, maxLocals := 2, code := jdk_42_method_56_code, exceptionTable := #[], attributes := #[] }
def k9m1 : Method := { name := "charAt", desc := "(I)C", sig := { parameters := [.int], returnType := some .char }, accessFlags := 1, code := some k9c1 }
def k9c2 : Code := { maxStack := 1, maxLocals := 1, code := jdk_42_method_154_code, exceptionTable := #[], attributes := #[] }
def k9m2 : Method := { name := "isLatin1", desc := "()Z", sig := { parameters := [], returnType := some .boolean }, accessFlags := 0, code := some k9c2 }
def k9c3 : Code := { maxStack := 3, maxLocals := 2, code := jdk_42_method_155_code, exceptionTable := #[], attributes := #[] }
def k9m3 : Method := { name := "checkIndex", desc := "(II)V", sig := { parameters := [.int, .int], returnType := none }, accessFlags := 8, code := some k9c3 }
/-- java/lang/String -/
def k9 : Class := { plain "java/lang/String" (some 0) with
  accessFlags := 49
  interfaces := #[4, 3, 7, 2, 8]
  cf := some (fileOf pool9 10 #[.nestMembers #[1103]] #[{ accessFlags := 1, nameIndex := 5, descriptorIndex := 6, attributes := #[] }, { accessFlags := 1, nameIndex := 497, descriptorIndex := 427, attributes := #[] }, { accessFlags := 0, nameIndex := 494, descriptorIndex := 142, attributes := #[] }, { accessFlags := 8, nameIndex := 501, descriptorIndex := 391, attributes := #[] }] 49 2 #[1106, 1108, 575, 1110, 1112] #[{ accessFlags := 18, nameIndex := 13, descriptorIndex := 14, attributes := #[] }, { accessFlags := 18, nameIndex := 17, descriptorIndex := 18, attributes := #[] }, { accessFlags := 2, nameIndex := 21, descriptorIndex := 22, attributes := #[] }, { accessFlags := 2, nameIndex := 25, descriptorIndex := 26, attributes := #[] }, { accessFlags := 26, nameIndex := 1116, descriptorIndex := 1117, attributes := #[] }, { accessFlags := 24, nameIndex := 40, descriptorIndex := 26, attributes := #[] }, { accessFlags := 26, nameIndex := 1101, descriptorIndex := 1102, attributes := #[] }, { accessFlags := 26, nameIndex := 1121, descriptorIndex := 1122, attributes := #[] }, { accessFlags := 25, nameIndex := 599, descriptorIndex := 600, attributes := #[] }, { accessFlags := 24, nameIndex := 1125, descriptorIndex := 18, attributes := #[] }, { accessFlags := 24, nameIndex := 1127, descriptorIndex := 18, attributes := #[] }])
  fields := #[{ name := "value", type := (.array .byte), accessFlags := 18, slot := 0, constantValue := 0 }, { name := "coder", type := .byte, accessFlags := 18, slot := 1, constantValue := 0 }, { name := "hash", type := .int, accessFlags := 2, slot := 2, constantValue := 0 }, { name := "hashIsZero", type := .boolean, accessFlags := 2, slot := 3, constantValue := 0 }, { name := "serialVersionUID", type := .long, accessFlags := 26, slot := 0, constantValue := 0 }, { name := "COMPACT_STRINGS", type := .boolean, accessFlags := 24, slot := 1, constantValue := 0 }, { name := "serialPersistentFields", type := (.array (.object "java/io/ObjectStreamField")), accessFlags := 26, slot := 2, constantValue := 0 }, { name := "REPL", type := .char, accessFlags := 26, slot := 3, constantValue := 0 }, { name := "CASE_INSENSITIVE_ORDER", type := (.object "java/util/Comparator"), accessFlags := 25, slot := 4, constantValue := 0 }, { name := "LATIN1", type := .byte, accessFlags := 24, slot := 5, constantValue := 0 }, { name := "UTF16", type := .byte, accessFlags := 24, slot := 6, constantValue := 0 }]
  methods := #[k9m0, k9m1, k9m2, k9m3]
  instanceTypes := #[(.array .byte), .byte, .int, .boolean]
  staticTypes := #[.long, .boolean, (.array (.object "java/io/ObjectStreamField")), .char, (.object "java/util/Comparator"), .byte, .byte]
  resolved := Array.replicate 1451 none
  statics := some 1 }

def pool10 : Array CpInfo := pool [(1, .class_ 2), (0, u "java/lang/String"), (1, .class_ 6), (1, u "java/lang/Object"), (0, u "<init>"), (0, u "()V"), (0, .methodref 1 10), (0, .nameAndType 11 12), (0, u "checkIndex"), (0, u "(II)V"), (1, .class_ 16), (1, u "java/lang/StringLatin1"), (36, u "([BI)C"), (67, u "$assertionsDisabled"), (0, u "Z"), (98, .class_ 223), (1, u "java/lang/StringLatin1$LinesSpliterator"), (28, u "charAt"), (137, .class_ 391), (0, u "java/lang/StringLatin1$CharsSpliterator")] 3

def k10m0 : Method := { name := "<init>", desc := "()V", sig := { parameters := [], returnType := none }, accessFlags := 0, code := none }
def k10c1 : Code := { maxStack := 2, maxLocals := 2, code := jdk_43_method_2_code, exceptionTable := #[], attributes := #[] }
def k10m1 : Method := { name := "charAt", desc := "([BI)C", sig := { parameters := [(.array .byte), .int], returnType := some .char }, accessFlags := 9, code := some k10c1 }
/-- java/lang/StringLatin1 -/
def k10 : Class := { plain "java/lang/StringLatin1" (some 0) with
  accessFlags := 48
  interfaces := #[]
  cf := some (fileOf pool10 14 #[.nestMembers #[390, 221]] #[{ accessFlags := 0, nameIndex := 7, descriptorIndex := 8, attributes := #[] }, { accessFlags := 9, nameIndex := 252, descriptorIndex := 53, attributes := #[] }] 48 4 #[] #[{ accessFlags := 4120, nameIndex := 121, descriptorIndex := 122, attributes := #[] }])
  fields := #[{ name := "$assertionsDisabled", type := .boolean, accessFlags := 4120, slot := 0, constantValue := 0 }]
  methods := #[k10m0, k10m1]
  instanceTypes := #[]
  staticTypes := #[.boolean]
  resolved := Array.replicate 395 none
  statics := none }

def pool11 : Array CpInfo := pool [(2, .class_ 4), (1, u "java/lang/Object"), (0, u "<init>"), (0, u "()V"), (17, .class_ 26), (1, u "jdk/internal/util/Preconditions"), (6, u "checkIndex"), (21, .class_ 56), (0, u "jdk/internal/util/Preconditions$4"), (57, .class_ 115), (0, u "jdk/internal/util/Preconditions$1"), (7, u "SIOOBE_FORMATTER"), (0, u "Ljava/util/function/BiFunction;"), (0, .class_ 126), (0, u "jdk/internal/util/Preconditions$2"), (3, u "AIOOBE_FORMATTER"), (0, .class_ 132), (0, u "jdk/internal/util/Preconditions$3"), (3, u "IOOBE_FORMATTER"), (41, u "(IILjava/util/function/BiFunction;)I")] 15

def k11m0 : Method := { name := "<init>", desc := "()V", sig := { parameters := [], returnType := none }, accessFlags := 1, code := none }
def k11c1 : Code := { maxStack := 3, maxLocals := 3, code := jdk_41_method_11_code, exceptionTable := #[], attributes := #[] }
def k11m1 : Method := { name := "checkIndex", desc := "(IILjava/util/function/BiFunction;)I", sig := { parameters := [.int, .int, (.object "java/util/function/BiFunction")], returnType := some .int }, accessFlags := 9, code := some k11c1 }
/-- jdk/internal/util/Preconditions -/
def k11 : Class := { plain "jdk/internal/util/Preconditions" (some 0) with
  accessFlags := 33
  interfaces := #[]
  cf := some (fileOf pool11 24 #[.nestMembers #[55, 131, 125, 114]] #[{ accessFlags := 1, nameIndex := 5, descriptorIndex := 6, attributes := #[] }, { accessFlags := 9, nameIndex := 33, descriptorIndex := 178, attributes := #[] }] 33 2 #[] #[{ accessFlags := 25, nameIndex := 123, descriptorIndex := 124, attributes := #[] }, { accessFlags := 25, nameIndex := 130, descriptorIndex := 124, attributes := #[] }, { accessFlags := 25, nameIndex := 136, descriptorIndex := 124, attributes := #[] }])
  fields := #[{ name := "SIOOBE_FORMATTER", type := (.object "java/util/function/BiFunction"), accessFlags := 25, slot := 0, constantValue := 0 }, { name := "AIOOBE_FORMATTER", type := (.object "java/util/function/BiFunction"), accessFlags := 25, slot := 1, constantValue := 0 }, { name := "IOOBE_FORMATTER", type := (.object "java/util/function/BiFunction"), accessFlags := 25, slot := 2, constantValue := 0 }]
  methods := #[k11m0, k11m1]
  instanceTypes := #[]
  staticTypes := #[(.object "java/util/function/BiFunction"), (.object "java/util/function/BiFunction"), (.object "java/util/function/BiFunction")]
  resolved := Array.replicate 194 none
  statics := some 2 }

def pool12 : Array CpInfo := pool [(9, u "<init>"), (6, .class_ 18), (1, u "java/lang/Object"), (0, u "()V"), (1, .class_ 23), (1, u "jdk/internal/util/ArraysSupport"), (0, u "LOG2_ARRAY_LONG_INDEX_SCALE"), (0, u "I"), (2, u "U"), (0, u "Ljdk/internal/misc/Unsafe;"), (8, u "BIG_ENDIAN"), (0, u "Z"), (8, u "LOG2_BYTE_BIT_SIZE"), (4, u "LOG2_ARRAY_INT_INDEX_SCALE"), (54, u "JLA"), (0, u "Ljdk/internal/access/JavaLangAccess;"), (11, u "LOG2_ARRAY_BOOLEAN_INDEX_SCALE"), (9, u "LOG2_ARRAY_BYTE_INDEX_SCALE"), (5, u "LOG2_ARRAY_CHAR_INDEX_SCALE"), (5, u "LOG2_ARRAY_SHORT_INDEX_SCALE"), (18, u "LOG2_ARRAY_FLOAT_INDEX_SCALE"), (24, u "LOG2_ARRAY_DOUBLE_INDEX_SCALE"), (89, u "T_BOOLEAN"), (2, u "T_CHAR"), (1, u "T_FLOAT"), (1, u "T_DOUBLE"), (1, u "T_BYTE"), (1, u "T_SHORT"), (1, u "T_INT"), (1, u "T_LONG"), (1, u "SOFT_MAX_ARRAY_LENGTH")] 83

def k12m0 : Method := { name := "<init>", desc := "()V", sig := { parameters := [], returnType := none }, accessFlags := 2, code := none }
/-- jdk/internal/util/ArraysSupport -/
def k12 : Class := { plain "jdk/internal/util/ArraysSupport" (some 0) with
  accessFlags := 33
  interfaces := #[]
  cf := some (fileOf pool12 21 #[] #[{ accessFlags := 2, nameIndex := 9, descriptorIndex := 19, attributes := #[] }] 33 16 #[] #[{ accessFlags := 24, nameIndex := 28, descriptorIndex := 29, attributes := #[] }, { accessFlags := 26, nameIndex := 38, descriptorIndex := 39, attributes := #[] }, { accessFlags := 25, nameIndex := 121, descriptorIndex := 25, attributes := #[] }, { accessFlags := 25, nameIndex := 131, descriptorIndex := 25, attributes := #[] }, { accessFlags := 25, nameIndex := 137, descriptorIndex := 25, attributes := #[] }, { accessFlags := 25, nameIndex := 143, descriptorIndex := 25, attributes := #[] }, { accessFlags := 25, nameIndex := 53, descriptorIndex := 25, attributes := #[] }, { accessFlags := 25, nameIndex := 24, descriptorIndex := 25, attributes := #[] }, { accessFlags := 25, nameIndex := 162, descriptorIndex := 25, attributes := #[] }, { accessFlags := 25, nameIndex := 187, descriptorIndex := 25, attributes := #[] }, { accessFlags := 26, nameIndex := 48, descriptorIndex := 25, attributes := #[] }, { accessFlags := 25, nameIndex := 277, descriptorIndex := 25, attributes := #[] }, { accessFlags := 25, nameIndex := 280, descriptorIndex := 25, attributes := #[] }, { accessFlags := 25, nameIndex := 282, descriptorIndex := 25, attributes := #[] }, { accessFlags := 25, nameIndex := 284, descriptorIndex := 25, attributes := #[] }, { accessFlags := 25, nameIndex := 286, descriptorIndex := 25, attributes := #[] }, { accessFlags := 25, nameIndex := 288, descriptorIndex := 25, attributes := #[] }, { accessFlags := 25, nameIndex := 290, descriptorIndex := 25, attributes := #[] }, { accessFlags := 25, nameIndex := 292, descriptorIndex := 25, attributes := #[] }, { accessFlags := 26, nameIndex := 108, descriptorIndex := 109, attributes := #[] }, { accessFlags := 25, nameIndex := 294, descriptorIndex := 25, attributes := #[] }])
  fields := #[{ name := "U", type := (.object "jdk/internal/misc/Unsafe"), accessFlags := 24, slot := 0, constantValue := 0 }, { name := "BIG_ENDIAN", type := .boolean, accessFlags := 26, slot := 1, constantValue := 0 }, { name := "LOG2_ARRAY_BOOLEAN_INDEX_SCALE", type := .int, accessFlags := 25, slot := 2, constantValue := 0 }, { name := "LOG2_ARRAY_BYTE_INDEX_SCALE", type := .int, accessFlags := 25, slot := 3, constantValue := 0 }, { name := "LOG2_ARRAY_CHAR_INDEX_SCALE", type := .int, accessFlags := 25, slot := 4, constantValue := 0 }, { name := "LOG2_ARRAY_SHORT_INDEX_SCALE", type := .int, accessFlags := 25, slot := 5, constantValue := 0 }, { name := "LOG2_ARRAY_INT_INDEX_SCALE", type := .int, accessFlags := 25, slot := 6, constantValue := 0 }, { name := "LOG2_ARRAY_LONG_INDEX_SCALE", type := .int, accessFlags := 25, slot := 7, constantValue := 0 }, { name := "LOG2_ARRAY_FLOAT_INDEX_SCALE", type := .int, accessFlags := 25, slot := 8, constantValue := 0 }, { name := "LOG2_ARRAY_DOUBLE_INDEX_SCALE", type := .int, accessFlags := 25, slot := 9, constantValue := 0 }, { name := "LOG2_BYTE_BIT_SIZE", type := .int, accessFlags := 26, slot := 10, constantValue := 0 }, { name := "T_BOOLEAN", type := .int, accessFlags := 25, slot := 11, constantValue := 0 }, { name := "T_CHAR", type := .int, accessFlags := 25, slot := 12, constantValue := 0 }, { name := "T_FLOAT", type := .int, accessFlags := 25, slot := 13, constantValue := 0 }, { name := "T_DOUBLE", type := .int, accessFlags := 25, slot := 14, constantValue := 0 }, { name := "T_BYTE", type := .int, accessFlags := 25, slot := 15, constantValue := 0 }, { name := "T_SHORT", type := .int, accessFlags := 25, slot := 16, constantValue := 0 }, { name := "T_INT", type := .int, accessFlags := 25, slot := 17, constantValue := 0 }, { name := "T_LONG", type := .int, accessFlags := 25, slot := 18, constantValue := 0 }, { name := "JLA", type := (.object "jdk/internal/access/JavaLangAccess"), accessFlags := 26, slot := 19, constantValue := 0 }, { name := "SOFT_MAX_ARRAY_LENGTH", type := .int, accessFlags := 25, slot := 20, constantValue := 0 }]
  methods := #[k12m0]
  instanceTypes := #[]
  staticTypes := #[(.object "jdk/internal/misc/Unsafe"), .boolean, .int, .int, .int, .int, .int, .int, .int, .int, .int, .int, .int, .int, .int, .int, .int, .int, .int, (.object "jdk/internal/access/JavaLangAccess"), .int]
  resolved := Array.replicate 378 none
  statics := none }

def pool13 : Array CpInfo := pool [(1, u "java/lang/Cloneable"), (0, .class_ 1), (0, u "java/lang/Object"), (0, .class_ 3)] 3

/-- java/lang/Cloneable -/
def k13 : Class := { plain "java/lang/Cloneable" (some 0) with
  accessFlags := 1537
  interfaces := #[]
  cf := some (fileOf pool13 2 #[] #[] 1537 4 #[] #[])
  fields := #[]
  methods := #[]
  instanceTypes := #[]
  staticTypes := #[]
  resolved := Array.replicate 8 none
  statics := none }

/-- the primitive byte -/
def k14 : Class := { plain "byte" none with kind := .primitive 'B', accessFlags := 0x411 }
/-- [B -/
def k15 : Class := { plain "[B" (some 0) with kind := .array 14 .byte, interfaces := #[13, 4], accessFlags := 1041 }

/-- the primitive int -/
def k16 : Class := { plain "int" none with kind := .primitive 'I', accessFlags := 0x411 }
/-- [I -/
def k17 : Class := { plain "[I" (some 0) with kind := .array 16 .int, interfaces := #[13, 4], accessFlags := 1041 }

/-- [Lcom/example/querent/querent/dicom/Vr; -/
def k18 : Class := { plain "[Lcom/example/querent/querent/dicom/Vr;" (some 0) with kind := .array 6 (.object "com/example/querent/querent/dicom/Vr"), interfaces := #[13, 4], accessFlags := 1041 }

def heap : Heap := #[{ cls := 6, slots := #[.ref 3, .ref 4, .ref 5, .ref 6, .ref 7, .ref 8, .ref 9, .ref 10, .ref 11, .ref 12, .ref 13, .ref 14, .ref 15, .ref 16, .ref 17, .ref 18, .ref 19, .ref 20, .ref 21, .ref 22, .ref 23, .ref 24, .ref 25, .ref 26, .ref 27, .ref 28, .ref 29, .ref 30, .ref 31, .ref 32, .ref 33, .ref 34, .ref 35, .ref 36, .null, .null], vm := .statics 6 },
  { cls := 9, slots := #[.long 0, .int 1, .null, .int 0, .null, .int 0, .int 0], vm := .statics 9 },
  { cls := 11, slots := #[.null, .null, .null], vm := .statics 11 },
  { cls := 6, slots := #[.null, .int 0, .int 0], vm := .none },
  { cls := 6, slots := #[.null, .int 1, .int 0], vm := .none },
  { cls := 6, slots := #[.null, .int 2, .int 0], vm := .none },
  { cls := 6, slots := #[.null, .int 3, .int 0], vm := .none },
  { cls := 6, slots := #[.null, .int 4, .int 0], vm := .none },
  { cls := 6, slots := #[.null, .int 5, .int 0], vm := .none },
  { cls := 6, slots := #[.null, .int 6, .int 0], vm := .none },
  { cls := 6, slots := #[.null, .int 7, .int 0], vm := .none },
  { cls := 6, slots := #[.null, .int 8, .int 0], vm := .none },
  { cls := 6, slots := #[.null, .int 9, .int 0], vm := .none },
  { cls := 6, slots := #[.null, .int 10, .int 0], vm := .none },
  { cls := 6, slots := #[.null, .int 11, .int 0], vm := .none },
  { cls := 6, slots := #[.null, .int 12, .int 0], vm := .none },
  { cls := 6, slots := #[.null, .int 13, .int 0], vm := .none },
  { cls := 6, slots := #[.null, .int 14, .int 0], vm := .none },
  { cls := 6, slots := #[.null, .int 15, .int 0], vm := .none },
  { cls := 6, slots := #[.null, .int 16, .int 0], vm := .none },
  { cls := 6, slots := #[.null, .int 17, .int 0], vm := .none },
  { cls := 6, slots := #[.null, .int 18, .int 0], vm := .none },
  { cls := 6, slots := #[.null, .int 19, .int 0], vm := .none },
  { cls := 6, slots := #[.null, .int 20, .int 0], vm := .none },
  { cls := 6, slots := #[.null, .int 21, .int 0], vm := .none },
  { cls := 6, slots := #[.null, .int 22, .int 0], vm := .none },
  { cls := 6, slots := #[.null, .int 23, .int 0], vm := .none },
  { cls := 6, slots := #[.null, .int 24, .int 0], vm := .none },
  { cls := 6, slots := #[.null, .int 25, .int 0], vm := .none },
  { cls := 6, slots := #[.null, .int 26, .int 0], vm := .none },
  { cls := 6, slots := #[.null, .int 27, .int 0], vm := .none },
  { cls := 6, slots := #[.null, .int 28, .int 0], vm := .none },
  { cls := 6, slots := #[.null, .int 29, .int 0], vm := .none },
  { cls := 6, slots := #[.null, .int 30, .int 0], vm := .none },
  { cls := 6, slots := #[.null, .int 31, .int 0], vm := .none },
  { cls := 6, slots := #[.null, .int 32, .int 0], vm := .none },
  { cls := 6, slots := #[.null, .int 33, .int 0], vm := .none }]
def classes : Array Class := #[k0, k1, k2, k3, k4, k5, k6, k7, k8, k9, k10, k11, k12, k13, k14, k15, k16, k17, k18]
def interned : List (Array UInt16 × Addr) := []
def slotsUsed : Nat := 148
def theMethod : MethodId := ⟨1, 2⟩
def args0 : Array Value := #[.int 5]
def aboutOver (below : List Frame) : State where
  vm := { classes := classes, interned := interned.toArray }
  heap := heap
  slotsUsed := slotsUsed
  threads := #[{ frames := .invoking theMethod args0 :: below }]
def below0 : List Frame := [.native { method := ⟨0, 0⟩, args := #[] }]
def about1 : State := aboutOver below0
def p0 : Program := .bare "" "" ""
def e0 : Env := launch0.env 0 0 0
theorem w_frames : about1.frames = Frame.invoking theMethod args0 :: below0 := rfl
set_option maxRecDepth 65536 in
theorem w_args : argsFit about1.vm theMethod args0 = true := by decide +kernel
set_option maxRecDepth 65536 in
theorem w_heap : heapFits about1 = true := by decide +kernel
set_option maxRecDepth 65536 in
theorem w_runnable : about1.curStatus? = some .runnable := by decide +kernel
set_option maxRecDepth 65536 in
theorem w_alone : about1.alone = true := by decide +kernel
set_option maxRecDepth 65536 in
theorem w_named : about1.methodNamed? x = some theMethod := by decide +kernel
set_option maxRecDepth 65536 in
theorem w_hears : about1.hears theMethod below0 = true := by decide +kernel
set_option maxRecDepth 65536 in
theorem w_ripe : about1.ripe theMethod args0 below0 = true := by decide +kernel
theorem w_running : about1.status = .running := rfl
set_option maxRecDepth 65536 in
theorem w_room : about1.hasRoom e0.platform room_1 = true :=
  launch0.hasRoom_least _ room_1 (by decide +kernel) (by decide +kernel) (by decide +kernel) (by decide +kernel) (by decide +kernel) (by decide +kernel)
theorem allAtoms_all (ts : List Jvm.Cond) (a : Array Jvm.Value) (st : Jvm.State) : (allAtoms ts).before a st = ts.all (fun c => c.before a st) := by
  induction ts with
  | nil => rfl
  | cons c t ih =>
    show (Jvm.Cond.and c (allAtoms t)).before a st = _
    rw [Jvm.Cond.before_and, ih, List.all_cons]
def words1 : List Jvm.Cond := Jvm.Cond.code x code maxLocals ret :: tables_1
/-- a 'code' word, met by the world's own term for the bytes: nothing is compared byte by byte -/
theorem code_word {y : MethodName} {bytes : ByteArray} {mx : Nat} {rt : Option FieldType} {a : Array Value} {s : State} {m : MethodId} {meth : Method} {c : Code} (h1 : s.methodNamed? y = some m) (h2 : s.vm.method? m = some meth) (h3 : meth.code = some c) (h4 : c.code = bytes)
    (h5 : (c.maxLocals == mx && c.exceptionTable.isEmpty && decide (c.maxStack ≤ mostOperands) && decide (meth.sig.returnType = rt) && !meth.locks && decide (parseMethodDescriptor y.desc = some meth.sig)) = true) : (Jvm.Cond.code y bytes mx rt).before a s = true := by
  simp only [Bool.and_eq_true, beq_iff_eq, Bool.not_eq_true', decide_eq_true_eq] at h5
  obtain ⟨⟨⟨⟨⟨g1, g2⟩, g3⟩, g4⟩, g5⟩, g6⟩ := h5
  simp [Cond.before, Cond.holds, Cond.value, h1, h2, h3, h4, g1, g2, g3, g4, g5, g6]
def isCode : Jvm.Cond → Bool
  | .code _ _ _ _ => true
  | _ => false
theorem all_split {L : List Jvm.Cond} {P : Jvm.Cond → Bool} (h1 : L.all (fun c => isCode c || P c) = true) (h2 : ∀ c ∈ L.filter isCode, P c = true) : L.all P = true := by
  refine List.all_eq_true.mpr fun c hc => ?_
  have h := List.all_eq_true.mp h1 c hc
  rcases Bool.eq_false_or_eq_true (isCode c) with hi | hi
  · exact h2 c (List.mem_filter.mpr ⟨hc, hi⟩)
  · simpa [hi] using h
set_option maxRecDepth 65536 in
theorem w_c0 : (Jvm.Cond.code x code maxLocals ret).before args0 about1 = true := code_word (m := ⟨1, 2⟩) (meth := k1m2) (c := k1c2) (by decide +kernel) rfl rfl rfl (by decide +kernel)
set_option maxRecDepth 65536 in
theorem w_c1 : (Jvm.Cond.code ({ cls := "java/lang/String", name := "charAt", desc := "(I)C" } : Jvm.MethodName) jdk_42_method_56_code (2 : Nat) (Option.some Jvm.ClassFile.FieldType.char)).before args0 about1 = true := code_word (m := ⟨9, 1⟩) (meth := k9m1) (c := k9c1) (by decide +kernel) rfl rfl rfl (by decide +kernel)
set_option maxRecDepth 65536 in
theorem w_c2 : (Jvm.Cond.code ({ cls := "java/lang/String", name := "isLatin1", desc := "()Z" } : Jvm.MethodName) jdk_42_method_154_code (1 : Nat) (Option.some Jvm.ClassFile.FieldType.boolean)).before args0 about1 = true := code_word (m := ⟨9, 2⟩) (meth := k9m2) (c := k9c2) (by decide +kernel) rfl rfl rfl (by decide +kernel)
set_option maxRecDepth 65536 in
theorem w_c3 : (Jvm.Cond.code ({ cls := "java/lang/StringLatin1", name := "charAt", desc := "([BI)C" } : Jvm.MethodName) jdk_43_method_2_code (2 : Nat) (Option.some Jvm.ClassFile.FieldType.char)).before args0 about1 = true := code_word (m := ⟨10, 1⟩) (meth := k10m1) (c := k10c1) (by decide +kernel) rfl rfl rfl (by decide +kernel)
set_option maxRecDepth 65536 in
theorem w_c4 : (Jvm.Cond.code ({ cls := "java/lang/String", name := "checkIndex", desc := "(II)V" } : Jvm.MethodName) jdk_42_method_155_code (2 : Nat) (Option.none : Option Jvm.ClassFile.FieldType)).before args0 about1 = true := code_word (m := ⟨9, 3⟩) (meth := k9m3) (c := k9c3) (by decide +kernel) rfl rfl rfl (by decide +kernel)
set_option maxRecDepth 65536 in
theorem w_c5 : (Jvm.Cond.code ({ cls := "jdk/internal/util/Preconditions", name := "checkIndex", desc := "(IILjava/util/function/BiFunction;)I" } : Jvm.MethodName) jdk_41_method_11_code (3 : Nat) (Option.some Jvm.ClassFile.FieldType.int)).before args0 about1 = true := code_word (m := ⟨11, 1⟩) (meth := k11m1) (c := k11c1) (by decide +kernel) rfl rfl rfl (by decide +kernel)
set_option maxRecDepth 65536 in
theorem w_c6 : (Jvm.Cond.code ({ cls := "com/example/querent/querent/dicom/Vr", name := "hasLongLength", desc := "()Z" } : Jvm.MethodName) prog_15_method_5_code (1 : Nat) (Option.some Jvm.ClassFile.FieldType.boolean)).before args0 about1 = true := code_word (m := ⟨6, 0⟩) (meth := k6m0) (c := k6c0) (by decide +kernel) rfl rfl rfl (by decide +kernel)
set_option maxRecDepth 65536 in
theorem w_c7 : (Jvm.Cond.code ({ cls := "java/lang/Enum", name := "ordinal", desc := "()I" } : Jvm.MethodName) jdk_37_method_2_code (1 : Nat) (Option.some Jvm.ClassFile.FieldType.int)).before args0 about1 = true := code_word (m := ⟨5, 0⟩) (meth := k5m0) (c := k5c0) (by decide +kernel) rfl rfl rfl (by decide +kernel)
set_option maxRecDepth 65536 in
theorem w_c8 : (Jvm.Cond.code ({ cls := "com/example/querent/querent/dicom/VrHasLongLengthPinLaw", name := "expected", desc := "(CC)Z" } : Jvm.MethodName) method_2_code (2 : Nat) (Option.some Jvm.ClassFile.FieldType.boolean)).before args0 about1 = true := code_word (m := ⟨1, 1⟩) (meth := k1m1) (c := k1c1) (by decide +kernel) rfl rfl rfl (by decide +kernel)
def codes1 : List Jvm.Cond := [Jvm.Cond.code x code maxLocals ret, Jvm.Cond.code ({ cls := "java/lang/String", name := "charAt", desc := "(I)C" } : Jvm.MethodName) jdk_42_method_56_code (2 : Nat) (Option.some Jvm.ClassFile.FieldType.char), Jvm.Cond.code ({ cls := "java/lang/String", name := "isLatin1", desc := "()Z" } : Jvm.MethodName) jdk_42_method_154_code (1 : Nat) (Option.some Jvm.ClassFile.FieldType.boolean), Jvm.Cond.code ({ cls := "java/lang/StringLatin1", name := "charAt", desc := "([BI)C" } : Jvm.MethodName) jdk_43_method_2_code (2 : Nat) (Option.some Jvm.ClassFile.FieldType.char), Jvm.Cond.code ({ cls := "java/lang/String", name := "checkIndex", desc := "(II)V" } : Jvm.MethodName) jdk_42_method_155_code (2 : Nat) (Option.none : Option Jvm.ClassFile.FieldType), Jvm.Cond.code ({ cls := "jdk/internal/util/Preconditions", name := "checkIndex", desc := "(IILjava/util/function/BiFunction;)I" } : Jvm.MethodName) jdk_41_method_11_code (3 : Nat) (Option.some Jvm.ClassFile.FieldType.int), Jvm.Cond.code ({ cls := "com/example/querent/querent/dicom/Vr", name := "hasLongLength", desc := "()Z" } : Jvm.MethodName) prog_15_method_5_code (1 : Nat) (Option.some Jvm.ClassFile.FieldType.boolean), Jvm.Cond.code ({ cls := "java/lang/Enum", name := "ordinal", desc := "()I" } : Jvm.MethodName) jdk_37_method_2_code (1 : Nat) (Option.some Jvm.ClassFile.FieldType.int), Jvm.Cond.code ({ cls := "com/example/querent/querent/dicom/VrHasLongLengthPinLaw", name := "expected", desc := "(CC)Z" } : Jvm.MethodName) method_2_code (2 : Nat) (Option.some Jvm.ClassFile.FieldType.boolean)]
set_option maxRecDepth 65536 in
theorem codes_eq : words1.filter isCode = codes1 := rfl
theorem w_codes : ∀ c ∈ words1.filter isCode, c.before args0 about1 = true := by
  rw [codes_eq]
  intro c hc
  simp only [codes1, List.mem_cons, List.not_mem_nil, or_false] at hc
  rcases hc with rfl | rfl | rfl | rfl | rfl | rfl | rfl | rfl | rfl
  · exact w_c0
  · exact w_c1
  · exact w_c2
  · exact w_c3
  · exact w_c4
  · exact w_c5
  · exact w_c6
  · exact w_c7
  · exact w_c8
set_option maxRecDepth 65536 in
theorem w_t1 : (words1.take 24).all (fun c => isCode c || c.before args0 about1) = true := by decide +kernel
set_option maxRecDepth 65536 in
theorem w_t2 : ((words1.drop 24).take 24).all (fun c => isCode c || c.before args0 about1) = true := by decide +kernel
set_option maxRecDepth 65536 in
theorem w_t3 : (((words1.drop 24).drop 24).take 24).all (fun c => isCode c || c.before args0 about1) = true := by decide +kernel
set_option maxRecDepth 65536 in
theorem w_t4 : ((((words1.drop 24).drop 24).drop 24).take 24).all (fun c => isCode c || c.before args0 about1) = true := by decide +kernel
set_option maxRecDepth 65536 in
theorem w_t5 : (((((words1.drop 24).drop 24).drop 24).drop 24).take 24).all (fun c => isCode c || c.before args0 about1) = true := by decide +kernel
set_option maxRecDepth 65536 in
theorem w_t6 : (((((words1.drop 24).drop 24).drop 24).drop 24).drop 24).all (fun c => isCode c || c.before args0 about1) = true := by decide +kernel
theorem w_tables : (allAtoms (Jvm.Cond.code x code maxLocals ret :: tables_1)).before args0 about1 = true := by
  rw [allAtoms_all]
  show words1.all (fun c => c.before args0 about1) = true
  refine all_split ?_ w_codes
  rw [← List.take_append_drop 24 words1, List.all_append, w_t1, ← List.take_append_drop 24 (words1.drop 24), List.all_append, w_t2, ← List.take_append_drop 24 ((words1.drop 24).drop 24), List.all_append, w_t3, ← List.take_append_drop 24 (((words1.drop 24).drop 24).drop 24), List.all_append, w_t4, ← List.take_append_drop 24 ((((words1.drop 24).drop 24).drop 24).drop 24), List.all_append, w_t5, w_t6]
  rfl
set_option maxRecDepth 65536 in
theorem w_rest : rest_1_c.before args0 about1 = true := by decide +kernel
set_option maxRecDepth 65536 in
theorem w_case : (Jvm.Cond.and given_1 narrow_1).before args0 about1 = true := by decide +kernel
set_option maxRecDepth 65536 in
theorem w_consts : constsHeld consts_1 about1 := Jvm.Lit.constsHeldB_iff.mp (by decide +kernel)
theorem w_applies : (headSpec (Jvm.Cond.code x code maxLocals ret :: tables_1) room_1).applies x e0.platform about1 = true :=
  (Spec.applies_iff w_frames).mpr ⟨w_running, w_runnable, w_alone, w_named, w_hears, w_ripe, w_room, w_tables⟩
theorem atStart : AtStart classFile x code maxLocals ret World_1 tables_1 room_1 Calls_1 rest_1 Pre_1 launch0 p0 e0 about1 theMethod args0 below0 :=
  ⟨lists_1, trivial, launch0.admits_env _ _ _, launch0.least_env, fairChoices_fair.cas, fairChoices_fair.clock, w_frames, w_args, w_heap, w_applies, ⟨w_consts, trivial⟩, w_rest, w_case⟩
end start1
theorem witness_1 : WitnessClaimed_1 := ⟨start1.p0, start1.e0, start1.about1, start1.theMethod, start1.args0, start1.below0, start1.atStart⟩
end Jvm.Pilot.@@N@@
