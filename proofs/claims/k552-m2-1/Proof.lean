import JvmDerived
import JvmDerived.Pilot.@@N@@Statement
import JvmDerived.Pilot.@@N@@Code
set_option linter.unusedVariables false
set_option linter.unusedSimpArgs false
namespace Jvm.Pilot.@@N@@
open Jvm Jvm.ClassFile Sem Op Lib Jvm.Free Jvm.Stand Jvm.LawKit Jvm.RoadKit Bundle Jvm.Pilot.@@N@@.Jvm.D
theorem own_retI {p : Program} {l : Launch} {e : Env} {R : Room} {s : State} {m : MethodId} {args : Array Value} {below : List Frame} {meth : Method} {c : Code} {T : State} {locs : List Loc} {cells slots : Nat} (X : Stand p l e R s m args below meth c T locs cells slots) (hx : p.tables.exec = Jvm.exec) {pc : Nat} {Ls : Array Slot} {z : Int32} {rest : List Value} (hret : meth.sig.returnType = some .int) (hd : decode c.code pc = .ok (.ireturn, 1)) {fs : List Frame}
    (hl : ∀ (f : JFrame) (acts : List Action), f.method = m → f.locked = none → f.entered = [] → (doReturn e (T.setTop f) acts (some (.int z))).1 = T.setFrames fs) : Steps p.tables e below (T.setTop (mkF m pc Ls (.int z :: rest))) (T.setFrames fs) :=
  retOut X hx hret rfl (Or.inl ⟨rfl, Or.inl rfl, z, rfl⟩) hd hl
theorem own_retJ {p : Program} {l : Launch} {e : Env} {R : Room} {s : State} {m : MethodId} {args : Array Value} {below : List Frame} {meth : Method} {c : Code} {T : State} {locs : List Loc} {cells slots : Nat} (X : Stand p l e R s m args below meth c T locs cells slots) (hx : p.tables.exec = Jvm.exec) {pc : Nat} {Ls : Array Slot} {z : Int64} {rest : List Value} (hret : meth.sig.returnType = some .long) (hd : decode c.code pc = .ok (.lreturn, 1)) {fs : List Frame}
    (hl : ∀ (f : JFrame) (acts : List Action), f.method = m → f.locked = none → f.entered = [] → (doReturn e (T.setTop f) acts (some (.long z))).1 = T.setFrames fs) : Steps p.tables e below (T.setTop (mkF m pc Ls (.long z :: rest))) (T.setFrames fs) :=
  retOut X hx hret rfl (Or.inr (Or.inl ⟨rfl, rfl, z, rfl⟩)) hd hl
theorem own_retA {p : Program} {l : Launch} {e : Env} {R : Room} {s : State} {m : MethodId} {args : Array Value} {below : List Frame} {meth : Method} {c : Code} {T : State} {locs : List Loc} {cells slots : Nat} (X : Stand p l e R s m args below meth c T locs cells slots) (hx : p.tables.exec = Jvm.exec) {pc : Nat} {Ls : Array Slot} {w : Value} {rest : List Value} {t : FieldType} (hret : meth.sig.returnType = some t) (ht : t.isReference = true) (hn : narrow t w = w) (hw : w.isRef = true) (hd : decode c.code pc = .ok (.areturn, 1)) {fs : List Frame}
    (hl : ∀ (f : JFrame) (acts : List Action), f.method = m → f.locked = none → f.entered = [] → (doReturn e (T.setTop f) acts (some w)).1 = T.setFrames fs) : Steps p.tables e below (T.setTop (mkF m pc Ls (w :: rest))) (T.setFrames fs) :=
  retOut X hx hret hn (Or.inr (Or.inr (Or.inr (Or.inr ⟨rfl, ht, hw⟩)))) hd hl
theorem own_go {tb : Tables} {e : Env} {below : List Frame} {A B : State} {R : State → Outcome → Prop} (st : ∀ t, Steps tb e below A t → Steps tb e below B t) (h : ∃ U o, Steps tb e below A U ∧ R U o) : ∃ U o, Steps tb e below B U ∧ R U o := by
  obtain ⟨U, o, h1, h2⟩ := h
  exact ⟨U, o, st U h1, h2⟩
theorem own_via {tb : Tables} {e : Env} {below : List Frame} {A B : State} {R : State → Outcome → Prop} (st : Steps tb e below B A) (h : ∃ U o, Steps tb e below A U ∧ R U o) : ∃ U o, Steps tb e below B U ∧ R U o := by
  obtain ⟨U, o, h1, h2⟩ := h
  exact ⟨U, o, st.trans h1, h2⟩
theorem own_eqInt {t : Term} {k : Int32} {args : Array Value} {s : State} (h : (Jvm.Cond.eq t (.int k)).value args s none s [] = some true) : t.eval args s none [] s = some (.int k) := by
  cases ha : t.eval args s none [] s with
  | none => simp [Cond.value, ha] at h
  | some x => cases x <;> simp_all [Cond.value, Term.eval, Value.isRef]
theorem own_selP {s : State} {args : Array Value} {y : MethodName} {n : Nat} (hinst : (Jvm.Cond.instanceMethod y).before args s = true) (hp : (Jvm.Cond.privateMethod y).before args s = true) (hi : (Jvm.Cond.instantiable y.cls n).before args s = true) (hy : y.cls ≠ "java/lang/invoke/MethodHandle" ∧ y.cls ≠ "java/lang/invoke/VarHandle") : (Jvm.Cond.selects y.cls y y).before args s = true := by
  obtain ⟨c, k, h1, h2, -, h4, -, -⟩ := Cond.instantiable_spec hi
  simp only [Bool.or_eq_false_iff] at h4
  exact selects_self_of_private h1 h2 h4.1 (Cond.privateMethod_at hp) hinst hy
theorem own_mvMN {Z s : State} {a0 args : Array Value} {own host : String} {y : MethodName} {index : Nat} (hZ : Z.Warmed39 s.vm) (w : (Jvm.Cond.methodLinkNest own index y host).before a0 Z = true) : (Jvm.Cond.methodLinkNest own index y host).before args s = true := (Cond.methodLinkNest_wide hZ w :)
theorem own_stoV {Z : State} {h : Heap} {a y : Addr} {k : ClassId} {ty : FieldType} {n : Int32} {vs : List Value} {d : Value} {C : String} (F : Arv Z h a k ty n vs d) (O : Ovr Z k C) (I : Ins Z h y C true) : Sto Z h a (.ref y) := by
  obtain ⟨c, A, q, -⟩ := F
  exact Sto.ofV A q O I
theorem own_cat1 {v : Value} (h : v.isRef = true) : v.category = 1 := by cases v <;> simp_all [Value.isRef, Value.category]
theorem own_nref {t : FieldType} {v : Value} (h : v.isRef = true) : narrow t v = v := by cases v <;> simp_all [Value.isRef, narrow]
theorem own_narb (x : Int32) : nar .byte x.toInt8.toInt32 = x.toInt8.toInt32 := by simp [nar]
theorem own_w {Z : State} {a0 : Array Value} (hw : ∀ d ∈ tables_1, d.before a0 Z = true) (i : Nat) {d : Jvm.Cond} (h : tables_1[i]? = some d) : d.before a0 Z = true := hw _ (List.mem_of_getElem? h)
theorem own_bT {P : Prop} [Decidable P] (h : P) : (if P then (1 : Int32) else 0) = 1 := if_pos h
theorem own_bF {P : Prop} [Decidable P] (h : ¬ P) : (if P then (1 : Int32) else 0) = 0 := if_neg h
theorem own_narB {P : Prop} [Decidable P] : nar .boolean (if P then (1 : Int32) else 0) = (if P then (1 : Int32) else 0) := by split <;> rfl
theorem own_strA {Z : State} {a0 : Array Value} (hw : ∀ d ∈ tables_1, d.before a0 Z = true) : ∀ a ∈ Bundle.stringAtoms, a.before a0 Z = true := by
  intro a ha
  simp only [Bundle.stringAtoms, List.mem_cons, List.not_mem_nil, or_false] at ha
  rcases ha with rfl | rfl | rfl | rfl | rfl | rfl | rfl
  · exact (own_w hw 40 rfl)
  · exact (own_w hw 41 rfl)
  · exact (own_w hw 42 rfl)
  · exact (own_w hw 43 rfl)
  · exact (own_w hw 44 rfl)
  · exact (own_w hw 45 rfl)
  · exact (own_w hw 46 rfl)
theorem own_shr0 (n : Int32) : (n >>> ((0 : Int32) &&& 31)) = n := by
  apply Int32.toInt_inj.mp; rw [c_ishr n 0 0 (by decide)]; simp
theorem own_ch (x : Int32) : nar .char (x &&& 255).toUInt32.toUInt16.toUInt32.toInt32 = x &&& 255 := by
  show ((x &&& 255).toUInt32.toUInt16.toUInt32.toInt32).toUInt32.toUInt16.toUInt32.toInt32 = _
  rw [i2c_mask, i2c_mask]
theorem own_ch1 (x : Int32) : nar .char (x &&& 255) = x &&& 255 := i2c_mask x
theorem d13_0 : decode jdk_42_method_152_code 0 = .ok (.getstatic 38, 3) := by decide +kernel
theorem d13_3 : decode jdk_42_method_152_code 3 = .ok (.ifCond .eq 10, 3) := by decide +kernel
theorem d13_6 : decode jdk_42_method_152_code 6 = .ok (.aload_n 0, 1) := by decide +kernel
theorem d13_7 : decode jdk_42_method_152_code 7 = .ok (.getfield 15, 3) := by decide +kernel
theorem d13_10 : decode jdk_42_method_152_code 10 = .ok (.goto 4, 3) := by decide +kernel
theorem d13_14 : decode jdk_42_method_152_code 14 = .ok (.ireturn, 1) := by decide +kernel
abbrev own_y0 : MethodName := ⟨"java/lang/String", "coder", "()B"⟩
theorem ef_rmCoder (m : MethodId) (a : Addr) : entryFrame m #[(.ref a)] 1 = mkF m 0 #[.val (.ref a)] [] := by first | (simp [entryFrame, mkF, argsToLocals, Value.category]; done) | rfl
def Q_rmCoder (Z : State) (a : Addr) (cs : Int32) (h0 : Heap) (n0 : Nat) (v_ : Option Value) (h_ : Heap) (L_ : List Loc) : Prop := v_ = some (.int (0 : Int32)) ∧ Fr n0 L_ ∧ h_ = h0
theorem pn_0 : plainName "java/lang/String" = true := by first | (simp [plainName, overriddenIn]; done) | decide +kernel
set_option maxRecDepth 65536 in
set_option maxHeartbeats 40000000 in
theorem rmCoder (l : Launch) (Z : State) (a0 : Array Value) (hw : ∀ d ∈ tables_1, d.before a0 Z = true) (ws : List Jvm.Cond) (a : Addr) (cs : Int32) (h0 : Heap) (n0 : Nat) (Z0 : n0 ≤ h0.size) (O0 : Old Z n0 h0) (u1 : Sta Z Z.heap "java/lang/String" "COMPACT_STRINGS" "Z" (.int cs)) (hcs : ¬ (cs = (0 : Int32))) (u3 : Fld Z h0 a "java/lang/String" "coder" "B" (.int (0 : Int32))) :
    MetFree l own_y0 (head1 (Jvm.Cond.code own_y0 jdk_42_method_152_code 1 (some .byte) :: ws) ({ frames := 0, cells := 0, slots := 0, locals := 0 } : Room)) (fun a_ U_ => a_ = #[(.ref a)] ∧ Z.Warmed39 U_.vm ∧ U_.heap = h0) (fun _ _ _ _ _ => True) (fun _ U_ o_ U2_ => ∃ v_ L_, o_ = .returned v_ ∧ Q_rmCoder Z a cs h0 n0 v_ U2_.heap L_ ∧ FrameEnd U_ o_ U2_ L_ ({ frames := 0, cells := 0, slots := 0, locals := 0 } : Room).cells ({ frames := 0, cells := 0, slots := 0, locals := 0 } : Room).slots) := by
  refine MetFree.of_bodySF (plainFor_of_name pn_0) hisR ?_
  intro p e s m args below meth c s₁ Bd hml0 hP hK
  obtain ⟨rfl, hZ, hh⟩ := hP
  have hx := Bd.exec
  have hby := Bd.bytes
  have hml : c.maxLocals = 1 := hml0
  have hown : s.vm.findClass "java/lang/String" = some m.cls := findClass_of_methodNamed Bd.named
  have hnm := (name_of_methodNamed Bd.named Bd.method).1
  have X0 : Stand p l e ({ frames := 0, cells := 0, slots := 0, locals := 0 } : Room) s m #[(.ref a)] below meth c s₁ [] 0 0 := Stand.of_body Bd
  have e0 : s₁.heap = h0 := by rw [← hh, Bd.state]; rfl
  have N0 := Fr.nil n0
  refine own_go (A := s₁.setTop (mkF m 0 #[.val (.ref a)] [])) (fun t_ k_ => castTop (ef_rmCoder m a) k_) ?_
  obtain ⟨T1, X1, e1, st1⟩ := getS2 X0 hx hZ hown (host := "") (Or.inl (own_w hw 78 rfl)) Via.refl e0 (u1.ext O0.2) (g := (mkF m 0 #[.val (.ref a)] [])) rfl (hb hby d13_0)
  refine own_go st1 ?_
  refine own_go (A := T1.setTop (mkF m 7 #[.val (.ref a)] [(.ref a)])) (fun t_ k_ => ?_) ?_
  · show Steps p.tables e below (T1.setTop (mkF m 3 #[.val (.ref a)] [(.int cs)])) t_
    refine XS.ifNo X1.here hx rfl (hb hby d13_3) rfl ((if0 _ _).trans (feq hcs).1) ?_
    show Steps p.tables e below (T1.setTop (mkF m 6 #[.val (.ref a)] [])) t_
    refine XS.aloadN X1.here hx rfl (hb hby d13_6) rfl rfl ?_
    exact k_
  obtain ⟨T2, X2, e2, st2⟩ := getF X1 hx hZ hown (host := "") (Or.inl (own_w hw 79 rfl)) Via.refl e1 u3 (g := (mkF m 7 #[.val (.ref a)] [(.ref a)])) rfl rfl (hb hby d13_7)
  refine own_go st2 ?_
  refine own_go (A := T2.setTop (mkF m 14 #[.val (.ref a)] [(.int (0 : Int32))])) (fun t_ k_ => ?_) ?_
  · show Steps p.tables e below (T2.setTop (mkF m 10 #[.val (.ref a)] [(.int (0 : Int32))])) t_
    refine XS.goto X2.here hx rfl (pc0 := 10) (pc' := 14) rfl (hb hby d13_10) (by decide) (by decide) ?_
    exact k_
  obtain ⟨fs3, hr3, hrun3, hended3, hW3, hsame3⟩ := X2.leave (v := some (.int (0 : Int32))) (fun h => by rw [Bd.returns] at h; cases h)
  refine ⟨_, _, ?_, hrun3, hended3, _, _, rfl, ?_, ⟨_, rfl⟩, hW3, hsame3.mono (by decide) (by decide)⟩
  · exact retN X2 hx (t := .byte) Bd.returns (by simp) (hb hby d13_14) hr3
  · show Q_rmCoder Z a cs h0 n0 _ T2.heap _
    rw [e2]
    exact ⟨rfl, N0, rfl⟩
theorem d15_0 : decode jdk_42_method_154_code 0 = .ok (.getstatic 38, 3) := by decide +kernel
theorem d15_3 : decode jdk_42_method_154_code 3 = .ok (.ifCond .eq 14, 3) := by decide +kernel
theorem d15_6 : decode jdk_42_method_154_code 6 = .ok (.aload_n 0, 1) := by decide +kernel
theorem d15_7 : decode jdk_42_method_154_code 7 = .ok (.getfield 15, 3) := by decide +kernel
theorem d15_10 : decode jdk_42_method_154_code 10 = .ok (.ifCond .ne 7, 3) := by decide +kernel
theorem d15_13 : decode jdk_42_method_154_code 13 = .ok (.iconst 1, 1) := by decide +kernel
theorem d15_14 : decode jdk_42_method_154_code 14 = .ok (.goto 4, 3) := by decide +kernel
theorem d15_18 : decode jdk_42_method_154_code 18 = .ok (.ireturn, 1) := by decide +kernel
abbrev own_y1 : MethodName := ⟨"java/lang/String", "isLatin1", "()Z"⟩
theorem ef_rmIsL1 (m : MethodId) (a : Addr) : entryFrame m #[(.ref a)] 1 = mkF m 0 #[.val (.ref a)] [] := by first | (simp [entryFrame, mkF, argsToLocals, Value.category]; done) | rfl
def Q_rmIsL1 (Z : State) (a : Addr) (cs : Int32) (h0 : Heap) (n0 : Nat) (v_ : Option Value) (h_ : Heap) (L_ : List Loc) : Prop := v_ = some (.int (1 : Int32)) ∧ Fr n0 L_ ∧ h_ = h0
set_option maxRecDepth 65536 in
set_option maxHeartbeats 40000000 in
theorem rmIsL1 (l : Launch) (Z : State) (a0 : Array Value) (hw : ∀ d ∈ tables_1, d.before a0 Z = true) (ws : List Jvm.Cond) (a : Addr) (cs : Int32) (h0 : Heap) (n0 : Nat) (Z0 : n0 ≤ h0.size) (O0 : Old Z n0 h0) (u1 : Sta Z Z.heap "java/lang/String" "COMPACT_STRINGS" "Z" (.int cs)) (hcs : ¬ (cs = (0 : Int32))) (u3 : Fld Z h0 a "java/lang/String" "coder" "B" (.int (0 : Int32))) :
    MetFree l own_y1 (head1 (Jvm.Cond.code own_y1 jdk_42_method_154_code 1 (some .boolean) :: ws) ({ frames := 0, cells := 0, slots := 0, locals := 0 } : Room)) (fun a_ U_ => a_ = #[(.ref a)] ∧ Z.Warmed39 U_.vm ∧ U_.heap = h0) (fun _ _ _ _ _ => True) (fun _ U_ o_ U2_ => ∃ v_ L_, o_ = .returned v_ ∧ Q_rmIsL1 Z a cs h0 n0 v_ U2_.heap L_ ∧ FrameEnd U_ o_ U2_ L_ ({ frames := 0, cells := 0, slots := 0, locals := 0 } : Room).cells ({ frames := 0, cells := 0, slots := 0, locals := 0 } : Room).slots) := by
  refine MetFree.of_bodySF (plainFor_of_name pn_0) hisR ?_
  intro p e s m args below meth c s₁ Bd hml0 hP hK
  obtain ⟨rfl, hZ, hh⟩ := hP
  have hx := Bd.exec
  have hby := Bd.bytes
  have hml : c.maxLocals = 1 := hml0
  have hown : s.vm.findClass "java/lang/String" = some m.cls := findClass_of_methodNamed Bd.named
  have hnm := (name_of_methodNamed Bd.named Bd.method).1
  have X0 : Stand p l e ({ frames := 0, cells := 0, slots := 0, locals := 0 } : Room) s m #[(.ref a)] below meth c s₁ [] 0 0 := Stand.of_body Bd
  have e0 : s₁.heap = h0 := by rw [← hh, Bd.state]; rfl
  have N0 := Fr.nil n0
  refine own_go (A := s₁.setTop (mkF m 0 #[.val (.ref a)] [])) (fun t_ k_ => castTop (ef_rmIsL1 m a) k_) ?_
  obtain ⟨T1, X1, e1, st1⟩ := getS2 X0 hx hZ hown (host := "") (Or.inl (own_w hw 78 rfl)) Via.refl e0 (u1.ext O0.2) (g := (mkF m 0 #[.val (.ref a)] [])) rfl (hb hby d15_0)
  refine own_go st1 ?_
  refine own_go (A := T1.setTop (mkF m 7 #[.val (.ref a)] [(.ref a)])) (fun t_ k_ => ?_) ?_
  · show Steps p.tables e below (T1.setTop (mkF m 3 #[.val (.ref a)] [(.int cs)])) t_
    refine XS.ifNo X1.here hx rfl (hb hby d15_3) rfl ((if0 _ _).trans (feq hcs).1) ?_
    show Steps p.tables e below (T1.setTop (mkF m 6 #[.val (.ref a)] [])) t_
    refine XS.aloadN X1.here hx rfl (hb hby d15_6) rfl rfl ?_
    exact k_
  obtain ⟨T2, X2, e2, st2⟩ := getF X1 hx hZ hown (host := "") (Or.inl (own_w hw 79 rfl)) Via.refl e1 u3 (g := (mkF m 7 #[.val (.ref a)] [(.ref a)])) rfl rfl (hb hby d15_7)
  refine own_go st2 ?_
  refine own_go (A := T2.setTop (mkF m 18 #[.val (.ref a)] [(.int (1 : Int32))])) (fun t_ k_ => ?_) ?_
  · show Steps p.tables e below (T2.setTop (mkF m 10 #[.val (.ref a)] [(.int (0 : Int32))])) t_
    refine XS.ifNo X2.here hx rfl (hb hby d15_10) rfl ((if0 _ _).trans (teq (by decide : (0 : Int32) = (0 : Int32))).2) ?_
    show Steps p.tables e below (T2.setTop (mkF m 13 #[.val (.ref a)] [])) t_
    refine XS.iconst X2.here hx rfl (hb hby d15_13) ?_
    show Steps p.tables e below (T2.setTop (mkF m 14 #[.val (.ref a)] [(.int (1 : Int32))])) t_
    refine XS.goto X2.here hx rfl (pc0 := 14) (pc' := 18) rfl (hb hby d15_14) (by decide) (by decide) ?_
    exact k_
  obtain ⟨fs3, hr3, hrun3, hended3, hW3, hsame3⟩ := X2.leave (v := some (.int (1 : Int32))) (fun h => by rw [Bd.returns] at h; cases h)
  refine ⟨_, _, ?_, hrun3, hended3, _, _, rfl, ?_, ⟨_, rfl⟩, hW3, hsame3.mono (by decide) (by decide)⟩
  · exact retN X2 hx (t := .boolean) Bd.returns (by simp) (hb hby d15_18) hr3
  · show Q_rmIsL1 Z a cs h0 n0 _ T2.heap _
    rw [e2]
    exact ⟨rfl, N0, rfl⟩
theorem d12_0 : decode jdk_42_method_54_code 0 = .ok (.aload_n 0, 1) := by decide +kernel
theorem d12_1 : decode jdk_42_method_54_code 1 = .ok (.getfield 9, 3) := by decide +kernel
theorem d12_4 : decode jdk_42_method_54_code 4 = .ok (.arraylength, 1) := by decide +kernel
theorem d12_5 : decode jdk_42_method_54_code 5 = .ok (.aload_n 0, 1) := by decide +kernel
theorem pd_0 : parseMethodDescriptor "()B" = some ⟨[], some .byte⟩ := by decide +kernel
theorem d12_6 : decode jdk_42_method_54_code 6 = .ok (.invokevirtual 335, 3) := by decide +kernel
theorem d12_9 : decode jdk_42_method_54_code 9 = .ok (.ishr, 1) := by decide +kernel
theorem d12_10 : decode jdk_42_method_54_code 10 = .ok (.ireturn, 1) := by decide +kernel
abbrev own_y2 : MethodName := ⟨"java/lang/String", "length", "()I"⟩
theorem ef_rmLen (m : MethodId) (a : Addr) : entryFrame m #[(.ref a)] 1 = mkF m 0 #[.val (.ref a)] [] := by first | (simp [entryFrame, mkF, argsToLocals, Value.category]; done) | rfl
def Q_rmLen (Z : State) (a : Addr) (d : Addr) (k : ClassId) (n : Int32) (vs : List Value) (cs : Int32) (h0 : Heap) (n0 : Nat) (v_ : Option Value) (h_ : Heap) (L_ : List Loc) : Prop := v_ = some (.int n) ∧ Fr n0 L_ ∧ h_ = h0
set_option maxRecDepth 65536 in
set_option maxHeartbeats 40000000 in
theorem rmLen (l : Launch) (Z : State) (a0 : Array Value) (hw : ∀ d ∈ tables_1, d.before a0 Z = true) (ws : List Jvm.Cond) (a : Addr) (d : Addr) (k : ClassId) (n : Int32) (vs : List Value) (cs : Int32) (h0 : Heap) (n0 : Nat) (Z0 : n0 ≤ h0.size) (O0 : Old Z n0 h0) (u1 : Sta Z Z.heap "java/lang/String" "COMPACT_STRINGS" "Z" (.int cs)) (hcs : ¬ (cs = (0 : Int32))) (u3 : Exa Z h0 a "java/lang/String") (u4 : Fld Z h0 a "java/lang/String" "coder" "B" (.int (0 : Int32))) (u5 : Fld Z h0 a "java/lang/String" "value" "[B" (.ref d)) (u6 : Arv Z h0 d k .byte n vs (.int (0 : Int32))) :
    MetFree l own_y2 (head1 (Jvm.Cond.code own_y2 jdk_42_method_54_code 1 (some .int) :: ws) ({ frames := 1, cells := 0, slots := 0, locals := 13 } : Room)) (fun a_ U_ => a_ = #[(.ref a)] ∧ Z.Warmed39 U_.vm ∧ U_.heap = h0) (fun _ _ _ _ _ => True) (fun _ U_ o_ U2_ => ∃ v_ L_, o_ = .returned v_ ∧ Q_rmLen Z a d k n vs cs h0 n0 v_ U2_.heap L_ ∧ FrameEnd U_ o_ U2_ L_ ({ frames := 1, cells := 0, slots := 0, locals := 13 } : Room).cells ({ frames := 1, cells := 0, slots := 0, locals := 13 } : Room).slots) := by
  refine MetFree.of_bodySF (plainFor_of_name pn_0) hisR ?_
  intro p e s m args below meth c s₁ Bd hml0 hP hK
  obtain ⟨rfl, hZ, hh⟩ := hP
  have hx := Bd.exec
  have hby := Bd.bytes
  have hml : c.maxLocals = 1 := hml0
  have hown : s.vm.findClass "java/lang/String" = some m.cls := findClass_of_methodNamed Bd.named
  have hnm := (name_of_methodNamed Bd.named Bd.method).1
  have X0 : Stand p l e ({ frames := 1, cells := 0, slots := 0, locals := 13 } : Room) s m #[(.ref a)] below meth c s₁ [] 0 0 := Stand.of_body Bd
  have e0 : s₁.heap = h0 := by rw [← hh, Bd.state]; rfl
  have N0 := Fr.nil n0
  refine own_go (A := s₁.setTop (mkF m 0 #[.val (.ref a)] [])) (fun t_ k_ => castTop (ef_rmLen m a) k_) ?_
  refine own_go (A := s₁.setTop (mkF m 1 #[.val (.ref a)] [(.ref a)])) (fun t_ k_ => ?_) ?_
  · show Steps p.tables e below (s₁.setTop (mkF m 0 #[.val (.ref a)] [])) t_
    refine XS.aloadN X0.here hx rfl (hb hby d12_0) rfl rfl ?_
    exact k_
  obtain ⟨T1, X1, e1, st1⟩ := getF X0 hx hZ hown (host := "") (Or.inl (own_w hw 67 rfl)) Via.refl e0 u5 (g := (mkF m 1 #[.val (.ref a)] [(.ref a)])) rfl rfl (hb hby d12_1)
  refine own_go st1 ?_
  obtain ⟨cl2, Ar2, q2, S2, M2, H2, G2⟩ := id u6
  refine own_go (A := T1.setTop (mkF m 6 #[.val (.ref a)] [(.ref a), (.int n)])) (fun t_ k_ => ?_) ?_
  · show Steps p.tables e below (T1.setTop (mkF m 4 #[.val (.ref a)] [(.ref d)])) t_
    refine X1.arraylength hx (by rw [e1]; exact Ar2.1) (State.isArrayOf_alike hZ.alike Ar2.2.1) (g := (mkF m 4 #[.val (.ref a)] [(.ref d)])) rfl rfl (hb hby d12_4) _ ?_
    rw [len_of S2 M2]
    show Steps p.tables e below (T1.setTop (mkF m 5 #[.val (.ref a)] [(.int n)])) t_
    refine XS.aloadN X1.here hx rfl (hb hby d12_5) rfl rfl ?_
    exact k_
  obtain ⟨cq3, kq3, q3a, q3b, q3c⟩ := isOf hZ e1 u3
  obtain ⟨_, _, ⟨T3, L3, k3, n3⟩, -, X3, ⟨Lc3, hQ3, l3, y3, z3⟩, st3⟩ := X1.virtualBack hx (y := own_y0) (z := own_y0) hown (mvT hZ (own_w hw 73 rfl)) (mvT hZ (own_w hw 74 rfl)) (notFace_of_selects (args := #[]) (mvT hZ (own_w hw 76 rfl))) (mvT hZ (own_w hw 76 rfl)) (mvT hZ (own_w hw 75 rfl)) (by decide) (backOf (W := 1) (rmCoder l Z a0 hw [] a cs h0 n0 Z0 O0 u1 hcs u4) hZ (own_w hw 77 rfl) (own_w hw 40 rfl) (by decide) (by decide)) q3a q3c (g := (mkF m 6 #[.val (.ref a)] [(.ref a), (.int n)])) rfl (by rw [hml]; rfl) (Steps.refl _) (argsL := []) (rest := [(.int n)]) (lenOf pd_0 rfl) rfl (by show 2 * 0 + _ ≤ _; exact Nat.le_of_eq rfl) (hb hby d12_6) (fun _ _ => ⟨rfl, e1, (by decide : 0 + 0 ≤ _), (by decide : 0 + 0 ≤ _)⟩)
  dsimp only [Pt.U, Pt.locs, Pt.cells, Pt.slots] at X3 l3 y3 z3 st3 hQ3
  subst l3 y3 z3
  obtain ⟨rfl, N3q, eh3⟩ := hQ3
  have N3 := Fr.app N0 N3q
  refine own_via st3 ?_
  refine own_go (A := T3.setTop (mkF m 10 #[.val (.ref a)] [(.int (n >>> ((0 : Int32) &&& 31)))])) (fun t_ k_ => ?_) ?_
  · show Steps p.tables e below (T3.setTop (mkF m 9 #[.val (.ref a)] [(.int (0 : Int32)), (.int n)])) t_
    refine XS.ishr X3.here hx rfl (hb hby d12_9) rfl ?_
    exact k_
  obtain ⟨fs4, hr4, hrun4, hended4, hW4, hsame4⟩ := X3.leave (v := some (.int (n >>> ((0 : Int32) &&& 31)))) (fun h => by rw [Bd.returns] at h; cases h)
  refine ⟨_, _, ?_, hrun4, hended4, _, _, rfl, ?_, ⟨_, rfl⟩, hW4, hsame4.mono (by decide) (by decide)⟩
  · exact own_retI X3 hx Bd.returns (hb hby d12_10) hr4
  · show Q_rmLen Z a d k n vs cs h0 n0 _ T3.heap _
    rw [eh3]
    exact ⟨(congrArg (fun z => some (Value.int z)) (own_shr0 n)), N3, rfl⟩
theorem d11_0 : decode jdk_42_method_55_code 0 = .ok (.aload_n 0, 1) := by decide +kernel
theorem d11_1 : decode jdk_42_method_55_code 1 = .ok (.getfield 9, 3) := by decide +kernel
theorem d11_4 : decode jdk_42_method_55_code 4 = .ok (.arraylength, 1) := by decide +kernel
theorem d11_5 : decode jdk_42_method_55_code 5 = .ok (.ifCond .ne 7, 3) := by decide +kernel
theorem d11_8 : decode jdk_42_method_55_code 8 = .ok (.iconst 1, 1) := by decide +kernel
theorem d11_9 : decode jdk_42_method_55_code 9 = .ok (.goto 4, 3) := by decide +kernel
theorem d11_13 : decode jdk_42_method_55_code 13 = .ok (.ireturn, 1) := by decide +kernel
abbrev own_y3 : MethodName := ⟨"java/lang/String", "isEmpty", "()Z"⟩
theorem ef_rmEmpty1 (m : MethodId) (a : Addr) : entryFrame m #[(.ref a)] 1 = mkF m 0 #[.val (.ref a)] [] := by first | (simp [entryFrame, mkF, argsToLocals, Value.category]; done) | rfl
def Q_rmEmpty1 (Z : State) (a : Addr) (d : Addr) (k : ClassId) (n : Int32) (vs : List Value) (h0 : Heap) (n0 : Nat) (v_ : Option Value) (h_ : Heap) (L_ : List Loc) : Prop := v_ = some (.int (1 : Int32)) ∧ Fr n0 L_ ∧ h_ = h0
set_option maxRecDepth 65536 in
set_option maxHeartbeats 40000000 in
theorem rmEmpty1 (l : Launch) (Z : State) (a0 : Array Value) (hw : ∀ d ∈ tables_1, d.before a0 Z = true) (ws : List Jvm.Cond) (a : Addr) (d : Addr) (k : ClassId) (n : Int32) (vs : List Value) (h0 : Heap) (n0 : Nat) (Z0 : n0 ≤ h0.size) (u0 : Fld Z h0 a "java/lang/String" "value" "[B" (.ref d)) (u1 : Arv Z h0 d k .byte n vs (.int (0 : Int32))) (hn : n = (0 : Int32)) :
    MetFree l own_y3 (head1 (Jvm.Cond.code own_y3 jdk_42_method_55_code 1 (some .boolean) :: ws) ({ frames := 0, cells := 0, slots := 0, locals := 0 } : Room)) (fun a_ U_ => a_ = #[(.ref a)] ∧ Z.Warmed39 U_.vm ∧ U_.heap = h0) (fun _ _ _ _ _ => True) (fun _ U_ o_ U2_ => ∃ v_ L_, o_ = .returned v_ ∧ Q_rmEmpty1 Z a d k n vs h0 n0 v_ U2_.heap L_ ∧ FrameEnd U_ o_ U2_ L_ ({ frames := 0, cells := 0, slots := 0, locals := 0 } : Room).cells ({ frames := 0, cells := 0, slots := 0, locals := 0 } : Room).slots) := by
  refine MetFree.of_bodySF (plainFor_of_name pn_0) hisR ?_
  intro p e s m args below meth c s₁ Bd hml0 hP hK
  obtain ⟨rfl, hZ, hh⟩ := hP
  have hx := Bd.exec
  have hby := Bd.bytes
  have hml : c.maxLocals = 1 := hml0
  have hown : s.vm.findClass "java/lang/String" = some m.cls := findClass_of_methodNamed Bd.named
  have hnm := (name_of_methodNamed Bd.named Bd.method).1
  have X0 : Stand p l e ({ frames := 0, cells := 0, slots := 0, locals := 0 } : Room) s m #[(.ref a)] below meth c s₁ [] 0 0 := Stand.of_body Bd
  have e0 : s₁.heap = h0 := by rw [← hh, Bd.state]; rfl
  have N0 := Fr.nil n0
  refine own_go (A := s₁.setTop (mkF m 0 #[.val (.ref a)] [])) (fun t_ k_ => castTop (ef_rmEmpty1 m a) k_) ?_
  refine own_go (A := s₁.setTop (mkF m 1 #[.val (.ref a)] [(.ref a)])) (fun t_ k_ => ?_) ?_
  · show Steps p.tables e below (s₁.setTop (mkF m 0 #[.val (.ref a)] [])) t_
    refine XS.aloadN X0.here hx rfl (hb hby d11_0) rfl rfl ?_
    exact k_
  obtain ⟨T1, X1, e1, st1⟩ := getF X0 hx hZ hown (host := "") (Or.inl (own_w hw 67 rfl)) Via.refl e0 u0 (g := (mkF m 1 #[.val (.ref a)] [(.ref a)])) rfl rfl (hb hby d11_1)
  refine own_go st1 ?_
  obtain ⟨cl2, Ar2, q2, S2, M2, H2, G2⟩ := id u1
  refine own_go (A := T1.setTop (mkF m 13 #[.val (.ref a)] [(.int (1 : Int32))])) (fun t_ k_ => ?_) ?_
  · show Steps p.tables e below (T1.setTop (mkF m 4 #[.val (.ref a)] [(.ref d)])) t_
    refine X1.arraylength hx (by rw [e1]; exact Ar2.1) (State.isArrayOf_alike hZ.alike Ar2.2.1) (g := (mkF m 4 #[.val (.ref a)] [(.ref d)])) rfl rfl (hb hby d11_4) _ ?_
    rw [len_of S2 M2]
    show Steps p.tables e below (T1.setTop (mkF m 5 #[.val (.ref a)] [(.int n)])) t_
    refine XS.ifNo X1.here hx rfl (hb hby d11_5) rfl ((if0 _ _).trans (teq hn).2) ?_
    show Steps p.tables e below (T1.setTop (mkF m 8 #[.val (.ref a)] [])) t_
    refine XS.iconst X1.here hx rfl (hb hby d11_8) ?_
    show Steps p.tables e below (T1.setTop (mkF m 9 #[.val (.ref a)] [(.int (1 : Int32))])) t_
    refine XS.goto X1.here hx rfl (pc0 := 9) (pc' := 13) rfl (hb hby d11_9) (by decide) (by decide) ?_
    exact k_
  obtain ⟨fs3, hr3, hrun3, hended3, hW3, hsame3⟩ := X1.leave (v := some (.int (1 : Int32))) (fun h => by rw [Bd.returns] at h; cases h)
  refine ⟨_, _, ?_, hrun3, hended3, _, _, rfl, ?_, ⟨_, rfl⟩, hW3, hsame3.mono (by decide) (by decide)⟩
  · exact retN X1 hx (t := .boolean) Bd.returns (by simp) (hb hby d11_13) hr3
  · show Q_rmEmpty1 Z a d k n vs h0 n0 _ T1.heap _
    rw [e1]
    exact ⟨rfl, N0, rfl⟩
theorem d11_12 : decode jdk_42_method_55_code 12 = .ok (.iconst 0, 1) := by decide +kernel
theorem ef_rmEmpty0 (m : MethodId) (a : Addr) : entryFrame m #[(.ref a)] 1 = mkF m 0 #[.val (.ref a)] [] := by first | (simp [entryFrame, mkF, argsToLocals, Value.category]; done) | rfl
def Q_rmEmpty0 (Z : State) (a : Addr) (d : Addr) (k : ClassId) (n : Int32) (vs : List Value) (h0 : Heap) (n0 : Nat) (v_ : Option Value) (h_ : Heap) (L_ : List Loc) : Prop := v_ = some (.int (0 : Int32)) ∧ Fr n0 L_ ∧ h_ = h0
set_option maxRecDepth 65536 in
set_option maxHeartbeats 40000000 in
theorem rmEmpty0 (l : Launch) (Z : State) (a0 : Array Value) (hw : ∀ d ∈ tables_1, d.before a0 Z = true) (ws : List Jvm.Cond) (a : Addr) (d : Addr) (k : ClassId) (n : Int32) (vs : List Value) (h0 : Heap) (n0 : Nat) (Z0 : n0 ≤ h0.size) (u0 : Fld Z h0 a "java/lang/String" "value" "[B" (.ref d)) (u1 : Arv Z h0 d k .byte n vs (.int (0 : Int32))) (hn : ¬ (n = (0 : Int32))) :
    MetFree l own_y3 (head1 (Jvm.Cond.code own_y3 jdk_42_method_55_code 1 (some .boolean) :: ws) ({ frames := 0, cells := 0, slots := 0, locals := 0 } : Room)) (fun a_ U_ => a_ = #[(.ref a)] ∧ Z.Warmed39 U_.vm ∧ U_.heap = h0) (fun _ _ _ _ _ => True) (fun _ U_ o_ U2_ => ∃ v_ L_, o_ = .returned v_ ∧ Q_rmEmpty0 Z a d k n vs h0 n0 v_ U2_.heap L_ ∧ FrameEnd U_ o_ U2_ L_ ({ frames := 0, cells := 0, slots := 0, locals := 0 } : Room).cells ({ frames := 0, cells := 0, slots := 0, locals := 0 } : Room).slots) := by
  refine MetFree.of_bodySF (plainFor_of_name pn_0) hisR ?_
  intro p e s m args below meth c s₁ Bd hml0 hP hK
  obtain ⟨rfl, hZ, hh⟩ := hP
  have hx := Bd.exec
  have hby := Bd.bytes
  have hml : c.maxLocals = 1 := hml0
  have hown : s.vm.findClass "java/lang/String" = some m.cls := findClass_of_methodNamed Bd.named
  have hnm := (name_of_methodNamed Bd.named Bd.method).1
  have X0 : Stand p l e ({ frames := 0, cells := 0, slots := 0, locals := 0 } : Room) s m #[(.ref a)] below meth c s₁ [] 0 0 := Stand.of_body Bd
  have e0 : s₁.heap = h0 := by rw [← hh, Bd.state]; rfl
  have N0 := Fr.nil n0
  refine own_go (A := s₁.setTop (mkF m 0 #[.val (.ref a)] [])) (fun t_ k_ => castTop (ef_rmEmpty0 m a) k_) ?_
  refine own_go (A := s₁.setTop (mkF m 1 #[.val (.ref a)] [(.ref a)])) (fun t_ k_ => ?_) ?_
  · show Steps p.tables e below (s₁.setTop (mkF m 0 #[.val (.ref a)] [])) t_
    refine XS.aloadN X0.here hx rfl (hb hby d11_0) rfl rfl ?_
    exact k_
  obtain ⟨T1, X1, e1, st1⟩ := getF X0 hx hZ hown (host := "") (Or.inl (own_w hw 67 rfl)) Via.refl e0 u0 (g := (mkF m 1 #[.val (.ref a)] [(.ref a)])) rfl rfl (hb hby d11_1)
  refine own_go st1 ?_
  obtain ⟨cl2, Ar2, q2, S2, M2, H2, G2⟩ := id u1
  refine own_go (A := T1.setTop (mkF m 13 #[.val (.ref a)] [(.int (0 : Int32))])) (fun t_ k_ => ?_) ?_
  · show Steps p.tables e below (T1.setTop (mkF m 4 #[.val (.ref a)] [(.ref d)])) t_
    refine X1.arraylength hx (by rw [e1]; exact Ar2.1) (State.isArrayOf_alike hZ.alike Ar2.2.1) (g := (mkF m 4 #[.val (.ref a)] [(.ref d)])) rfl rfl (hb hby d11_4) _ ?_
    rw [len_of S2 M2]
    show Steps p.tables e below (T1.setTop (mkF m 5 #[.val (.ref a)] [(.int n)])) t_
    refine XS.ifYes X1.here hx rfl (pc0 := 5) (pc' := 12) rfl (hb hby d11_5) rfl ((if0 _ _).trans (feq hn).2) (by decide) (by decide) ?_
    show Steps p.tables e below (T1.setTop (mkF m 12 #[.val (.ref a)] [])) t_
    refine XS.iconst X1.here hx rfl (hb hby d11_12) ?_
    exact k_
  obtain ⟨fs3, hr3, hrun3, hended3, hW3, hsame3⟩ := X1.leave (v := some (.int (0 : Int32))) (fun h => by rw [Bd.returns] at h; cases h)
  refine ⟨_, _, ?_, hrun3, hended3, _, _, rfl, ?_, ⟨_, rfl⟩, hW3, hsame3.mono (by decide) (by decide)⟩
  · exact retN X1 hx (t := .boolean) Bd.returns (by simp) (hb hby d11_13) hr3
  · show Q_rmEmpty0 Z a d k n vs h0 n0 _ T1.heap _
    rw [e1]
    exact ⟨rfl, N0, rfl⟩
theorem d18_0 : decode jdk_41_method_11_code 0 = .ok (.iload_n 0, 1) := by decide +kernel
theorem d18_1 : decode jdk_41_method_11_code 1 = .ok (.ifCond .lt 8, 3) := by decide +kernel
theorem d18_4 : decode jdk_41_method_11_code 4 = .ok (.iload_n 0, 1) := by decide +kernel
theorem d18_5 : decode jdk_41_method_11_code 5 = .ok (.iload_n 1, 1) := by decide +kernel
theorem d18_6 : decode jdk_41_method_11_code 6 = .ok (.if_icmp .lt 10, 3) := by decide +kernel
theorem d18_16 : decode jdk_41_method_11_code 16 = .ok (.iload_n 0, 1) := by decide +kernel
theorem d18_17 : decode jdk_41_method_11_code 17 = .ok (.ireturn, 1) := by decide +kernel
abbrev own_y4 : MethodName := ⟨"jdk/internal/util/Preconditions", "checkIndex", "(IILjava/util/function/BiFunction;)I"⟩
theorem ef_rmCkI (m : MethodId) (i : Int32) (n : Int32) (f : Value) (hf : f.isRef = true) : entryFrame m #[(.int i), (.int n), f] 3 = mkF m 0 #[.val (.int i), .val (.int n), .val f] [] := by
  rcases ref_cases hf with rfl | ⟨_, rfl⟩
  all_goals first | (simp [entryFrame, mkF, argsToLocals, Value.category]; done) | rfl
def Q_rmCkI (Z : State) (i : Int32) (n : Int32) (f : Value) (h0 : Heap) (n0 : Nat) (v_ : Option Value) (h_ : Heap) (L_ : List Loc) : Prop := v_ = some (.int i) ∧ Fr n0 L_ ∧ h_ = h0
theorem pn_1 : plainName "jdk/internal/util/Preconditions" = true := by first | (simp [plainName, overriddenIn]; done) | decide +kernel
set_option maxRecDepth 65536 in
set_option maxHeartbeats 40000000 in
theorem rmCkI (l : Launch) (Z : State) (a0 : Array Value) (hw : ∀ d ∈ tables_1, d.before a0 Z = true) (ws : List Jvm.Cond) (i : Int32) (n : Int32) (f : Value) (h0 : Heap) (n0 : Nat) (Z0 : n0 ≤ h0.size) (hf : f.isRef = true) (h1 : ¬ (i < (0 : Int32))) (h2 : i < n) :
    MetFree l own_y4 (head1 (Jvm.Cond.code own_y4 jdk_41_method_11_code 3 (some .int) :: ws) ({ frames := 0, cells := 0, slots := 0, locals := 0 } : Room)) (fun a_ U_ => a_ = #[(.int i), (.int n), f] ∧ Z.Warmed39 U_.vm ∧ U_.heap = h0) (fun _ _ _ _ _ => True) (fun _ U_ o_ U2_ => ∃ v_ L_, o_ = .returned v_ ∧ Q_rmCkI Z i n f h0 n0 v_ U2_.heap L_ ∧ FrameEnd U_ o_ U2_ L_ ({ frames := 0, cells := 0, slots := 0, locals := 0 } : Room).cells ({ frames := 0, cells := 0, slots := 0, locals := 0 } : Room).slots) := by
  refine MetFree.of_bodySF (plainFor_of_name pn_1) hisR ?_
  intro p e s m args below meth c s₁ Bd hml0 hP hK
  obtain ⟨rfl, hZ, hh⟩ := hP
  have hx := Bd.exec
  have hby := Bd.bytes
  have hml : c.maxLocals = 3 := hml0
  have hown : s.vm.findClass "jdk/internal/util/Preconditions" = some m.cls := findClass_of_methodNamed Bd.named
  have hnm := (name_of_methodNamed Bd.named Bd.method).1
  have X0 : Stand p l e ({ frames := 0, cells := 0, slots := 0, locals := 0 } : Room) s m #[(.int i), (.int n), f] below meth c s₁ [] 0 0 := Stand.of_body Bd
  have e0 : s₁.heap = h0 := by rw [← hh, Bd.state]; rfl
  have N0 := Fr.nil n0
  refine own_go (A := s₁.setTop (mkF m 0 #[.val (.int i), .val (.int n), .val f] [])) (fun t_ k_ => castTop (ef_rmCkI m i n f hf) k_) ?_
  refine own_go (A := s₁.setTop (mkF m 17 #[.val (.int i), .val (.int n), .val f] [(.int i)])) (fun t_ k_ => ?_) ?_
  · show Steps p.tables e below (s₁.setTop (mkF m 0 #[.val (.int i), .val (.int n), .val f] [])) t_
    refine XS.iloadN X0.here hx rfl (hb hby d18_0) rfl ?_
    show Steps p.tables e below (s₁.setTop (mkF m 1 #[.val (.int i), .val (.int n), .val f] [(.int i)])) t_
    refine XS.ifNo X0.here hx rfl (hb hby d18_1) rfl ((if0 _ _).trans (flt h1).1) ?_
    show Steps p.tables e below (s₁.setTop (mkF m 4 #[.val (.int i), .val (.int n), .val f] [])) t_
    refine XS.iloadN X0.here hx rfl (hb hby d18_4) rfl ?_
    show Steps p.tables e below (s₁.setTop (mkF m 5 #[.val (.int i), .val (.int n), .val f] [(.int i)])) t_
    refine XS.iloadN X0.here hx rfl (hb hby d18_5) rfl ?_
    show Steps p.tables e below (s₁.setTop (mkF m 6 #[.val (.int i), .val (.int n), .val f] [(.int n), (.int i)])) t_
    refine XS.icmpYes X0.here hx rfl (pc0 := 6) (pc' := 16) rfl (hb hby d18_6) rfl (tlt h2).1 (by decide) (by decide) ?_
    show Steps p.tables e below (s₁.setTop (mkF m 16 #[.val (.int i), .val (.int n), .val f] [])) t_
    refine XS.iloadN X0.here hx rfl (hb hby d18_16) rfl ?_
    exact k_
  obtain ⟨fs1, hr1, hrun1, hended1, hW1, hsame1⟩ := X0.leave (v := some (.int i)) (fun h => by rw [Bd.returns] at h; cases h)
  refine ⟨_, _, ?_, hrun1, hended1, _, _, rfl, ?_, ⟨_, rfl⟩, hW1, hsame1.mono (by decide) (by decide)⟩
  · exact own_retI X0 hx Bd.returns (hb hby d18_17) hr1
  · show Q_rmCkI Z i n f h0 n0 _ s₁.heap _
    rw [e0]
    exact ⟨rfl, N0, rfl⟩
theorem d17_0 : decode jdk_42_method_155_code 0 = .ok (.iload_n 0, 1) := by decide +kernel
theorem d17_1 : decode jdk_42_method_155_code 1 = .ok (.iload_n 1, 1) := by decide +kernel
theorem d17_2 : decode jdk_42_method_155_code 2 = .ok (.getstatic 1053, 3) := by decide +kernel
theorem pd_1 : parseMethodDescriptor "(IILjava/util/function/BiFunction;)I" = some ⟨[.int, .int, (.object "java/util/function/BiFunction")], some .int⟩ := by decide +kernel
theorem d17_5 : decode jdk_42_method_155_code 5 = .ok (.invokestatic 1059, 3) := by decide +kernel
theorem d17_8 : decode jdk_42_method_155_code 8 = .ok (.pop, 1) := by decide +kernel
theorem d17_9 : decode jdk_42_method_155_code 9 = .ok (.return_, 1) := by decide +kernel
abbrev own_y5 : MethodName := ⟨"java/lang/String", "checkIndex", "(II)V"⟩
theorem ef_rmSCk (m : MethodId) (i : Int32) (n : Int32) : entryFrame m #[(.int i), (.int n)] 2 = mkF m 0 #[.val (.int i), .val (.int n)] [] := by first | (simp [entryFrame, mkF, argsToLocals, Value.category]; done) | rfl
def Q_rmSCk (Z : State) (i : Int32) (n : Int32) (sf : Value) (h0 : Heap) (n0 : Nat) (v_ : Option Value) (h_ : Heap) (L_ : List Loc) : Prop := v_ = none ∧ Fr n0 L_ ∧ h_ = h0
set_option maxRecDepth 65536 in
set_option maxHeartbeats 40000000 in
theorem rmSCk (l : Launch) (Z : State) (a0 : Array Value) (hw : ∀ d ∈ tables_1, d.before a0 Z = true) (ws : List Jvm.Cond) (i : Int32) (n : Int32) (sf : Value) (h0 : Heap) (n0 : Nat) (Z0 : n0 ≤ h0.size) (O0 : Old Z n0 h0) (u1 : Sta Z Z.heap "jdk/internal/util/Preconditions" "SIOOBE_FORMATTER" "Ljava/util/function/BiFunction;" sf) (hsf : sf.isRef = true) (h1 : ¬ (i < (0 : Int32))) (h2 : i < n) :
    MetFree l own_y5 (head1 (Jvm.Cond.code own_y5 jdk_42_method_155_code 2 none :: ws) ({ frames := 1, cells := 0, slots := 0, locals := 14 } : Room)) (fun a_ U_ => a_ = #[(.int i), (.int n)] ∧ Z.Warmed39 U_.vm ∧ U_.heap = h0) (fun _ _ _ _ _ => True) (fun _ U_ o_ U2_ => ∃ v_ L_, o_ = .returned v_ ∧ Q_rmSCk Z i n sf h0 n0 v_ U2_.heap L_ ∧ FrameEnd U_ o_ U2_ L_ ({ frames := 1, cells := 0, slots := 0, locals := 14 } : Room).cells ({ frames := 1, cells := 0, slots := 0, locals := 14 } : Room).slots) := by
  refine MetFree.of_bodySF (plainFor_of_name pn_0) hisR ?_
  intro p e s m args below meth c s₁ Bd hml0 hP hK
  obtain ⟨rfl, hZ, hh⟩ := hP
  have hx := Bd.exec
  have hby := Bd.bytes
  have hml : c.maxLocals = 2 := hml0
  have hown : s.vm.findClass "java/lang/String" = some m.cls := findClass_of_methodNamed Bd.named
  have hnm := (name_of_methodNamed Bd.named Bd.method).1
  have X0 : Stand p l e ({ frames := 1, cells := 0, slots := 0, locals := 14 } : Room) s m #[(.int i), (.int n)] below meth c s₁ [] 0 0 := Stand.of_body Bd
  have e0 : s₁.heap = h0 := by rw [← hh, Bd.state]; rfl
  have N0 := Fr.nil n0
  refine own_go (A := s₁.setTop (mkF m 0 #[.val (.int i), .val (.int n)] [])) (fun t_ k_ => castTop (ef_rmSCk m i n) k_) ?_
  refine own_go (A := s₁.setTop (mkF m 2 #[.val (.int i), .val (.int n)] [(.int n), (.int i)])) (fun t_ k_ => ?_) ?_
  · show Steps p.tables e below (s₁.setTop (mkF m 0 #[.val (.int i), .val (.int n)] [])) t_
    refine XS.iloadN X0.here hx rfl (hb hby d17_0) rfl ?_
    show Steps p.tables e below (s₁.setTop (mkF m 1 #[.val (.int i), .val (.int n)] [(.int i)])) t_
    refine XS.iloadN X0.here hx rfl (hb hby d17_1) rfl ?_
    exact k_
  obtain ⟨T1, X1, e1, st1⟩ := getS2 X0 hx hZ hown (host := "") (Or.inl (own_w hw 97 rfl)) Via.refl e0 (u1.ext O0.2) (g := (mkF m 2 #[.val (.int i), .val (.int n)] [(.int n), (.int i)])) rfl (hb hby d17_2)
  refine own_go st1 ?_
  obtain ⟨_, _, ⟨T2, L2, k2, n2⟩, -, X2, ⟨Lc2, hQ2, l2, y2, z2⟩, st2⟩ := Jvm.LawKit.callS X1 hx (y := own_y4) hown (mvT hZ (own_w hw 99 rfl)) (mvT hZ (own_w hw 100 rfl)) (mvT hZ (own_w hw 98 rfl)) (mvT hZ (own_w hw 101 rfl)) (by decide) (backOf (W := 0) (rmCkI l Z a0 hw [] i n sf h0 n0 Z0 hsf h1 h2) hZ (own_w hw 101 rfl) (own_w hw 98 rfl) (by decide) (by decide)) (g := (mkF m 5 #[.val (.int i), .val (.int n)] [sf, (.int n), (.int i)])) rfl (by rw [hml]; rfl) (argsL := [(.int i), (.int n), sf]) (rest := []) (lenOf pd_1 rfl) rfl (by show 2 * 0 + _ ≤ _; exact Nat.le_of_eq rfl) (hb hby d17_5) (fun _ _ => ⟨rfl, e1, (by decide : 0 + 0 ≤ _), (by decide : 0 + 0 ≤ _)⟩)
  dsimp only [Pt.U, Pt.locs, Pt.cells, Pt.slots] at X2 l2 y2 z2 st2 hQ2
  subst l2 y2 z2
  obtain ⟨rfl, N2q, eh2⟩ := hQ2
  have N2 := Fr.app N0 N2q
  refine own_go st2 ?_
  refine own_go (A := T2.setTop (mkF m 9 #[.val (.int i), .val (.int n)] [])) (fun t_ k_ => ?_) ?_
  · show Steps p.tables e below (T2.setTop (mkF m 8 #[.val (.int i), .val (.int n)] [(.int i)])) t_
    refine XS.pop X2.here hx rfl (hb hby d17_8) rfl rfl ?_
    exact k_
  obtain ⟨fs3, hr3, hrun3, hended3, hW3, hsame3⟩ := X2.leave (v := none) (fun _ => rfl)
  refine ⟨_, _, ?_, hrun3, hended3, _, _, rfl, ?_, ⟨_, rfl⟩, hW3, hsame3.mono (by decide) (by decide)⟩
  · exact X2.returnOut hx Bd.returns (hb hby d17_9) hr3
  · show Q_rmSCk Z i n sf h0 n0 _ T2.heap _
    rw [eh2]
    exact ⟨rfl, N2, rfl⟩
theorem d16_0 : decode jdk_43_method_2_code 0 = .ok (.iload_n 1, 1) := by decide +kernel
theorem d16_1 : decode jdk_43_method_2_code 1 = .ok (.aload_n 0, 1) := by decide +kernel
theorem d16_2 : decode jdk_43_method_2_code 2 = .ok (.arraylength, 1) := by decide +kernel
theorem pd_2 : parseMethodDescriptor "(II)V" = some ⟨[.int, .int], none⟩ := by decide +kernel
theorem d16_3 : decode jdk_43_method_2_code 3 = .ok (.invokestatic 9, 3) := by decide +kernel
theorem d16_6 : decode jdk_43_method_2_code 6 = .ok (.aload_n 0, 1) := by decide +kernel
theorem d16_7 : decode jdk_43_method_2_code 7 = .ok (.iload_n 1, 1) := by decide +kernel
theorem d16_8 : decode jdk_43_method_2_code 8 = .ok (.baload, 1) := by decide +kernel
theorem d16_9 : decode jdk_43_method_2_code 9 = .ok (.sipush 255, 3) := by decide +kernel
theorem d16_12 : decode jdk_43_method_2_code 12 = .ok (.iand, 1) := by decide +kernel
theorem d16_13 : decode jdk_43_method_2_code 13 = .ok (.i2c, 1) := by decide +kernel
theorem d16_14 : decode jdk_43_method_2_code 14 = .ok (.ireturn, 1) := by decide +kernel
abbrev own_y6 : MethodName := ⟨"java/lang/StringLatin1", "charAt", "([BI)C"⟩
theorem ef_rmL1Ch (m : MethodId) (d : Addr) (i : Int32) : entryFrame m #[(.ref d), (.int i)] 2 = mkF m 0 #[.val (.ref d), .val (.int i)] [] := by first | (simp [entryFrame, mkF, argsToLocals, Value.category]; done) | rfl
def Q_rmL1Ch (Z : State) (d : Addr) (i : Int32) (k : ClassId) (n : Int32) (vs : List Value) (x : Int32) (sf : Value) (h0 : Heap) (n0 : Nat) (v_ : Option Value) (h_ : Heap) (L_ : List Loc) : Prop := v_ = some (.int (x &&& (255 : Int32))) ∧ Fr n0 L_ ∧ h_ = h0
theorem pn_2 : plainName "java/lang/StringLatin1" = true := by first | (simp [plainName, overriddenIn]; done) | decide +kernel
set_option maxRecDepth 65536 in
set_option maxHeartbeats 40000000 in
theorem rmL1Ch (l : Launch) (Z : State) (a0 : Array Value) (hw : ∀ d ∈ tables_1, d.before a0 Z = true) (ws : List Jvm.Cond) (d : Addr) (i : Int32) (k : ClassId) (n : Int32) (vs : List Value) (x : Int32) (sf : Value) (h0 : Heap) (n0 : Nat) (Z0 : n0 ≤ h0.size) (O0 : Old Z n0 h0) (u1 : Sta Z Z.heap "jdk/internal/util/Preconditions" "SIOOBE_FORMATTER" "Ljava/util/function/BiFunction;" sf) (hsf : sf.isRef = true) (u3 : Arv Z h0 d k .byte n vs (.int (0 : Int32))) (h1 : ¬ (i < (0 : Int32))) (h2 : i < n) (hat : vs.getD (i).toNatClampNeg (.int (0 : Int32)) = (.int x)) :
    MetFree l own_y6 (head1 (Jvm.Cond.code own_y6 jdk_43_method_2_code 2 (some .char) :: ws) ({ frames := 2, cells := 0, slots := 0, locals := 27 } : Room)) (fun a_ U_ => a_ = #[(.ref d), (.int i)] ∧ Z.Warmed39 U_.vm ∧ U_.heap = h0) (fun _ _ _ _ _ => True) (fun _ U_ o_ U2_ => ∃ v_ L_, o_ = .returned v_ ∧ Q_rmL1Ch Z d i k n vs x sf h0 n0 v_ U2_.heap L_ ∧ FrameEnd U_ o_ U2_ L_ ({ frames := 2, cells := 0, slots := 0, locals := 27 } : Room).cells ({ frames := 2, cells := 0, slots := 0, locals := 27 } : Room).slots) := by
  refine MetFree.of_bodySF (plainFor_of_name pn_2) hisR ?_
  intro p e s m args below meth c s₁ Bd hml0 hP hK
  obtain ⟨rfl, hZ, hh⟩ := hP
  have hx := Bd.exec
  have hby := Bd.bytes
  have hml : c.maxLocals = 2 := hml0
  have hown : s.vm.findClass "java/lang/StringLatin1" = some m.cls := findClass_of_methodNamed Bd.named
  have hnm := (name_of_methodNamed Bd.named Bd.method).1
  have X0 : Stand p l e ({ frames := 2, cells := 0, slots := 0, locals := 27 } : Room) s m #[(.ref d), (.int i)] below meth c s₁ [] 0 0 := Stand.of_body Bd
  have e0 : s₁.heap = h0 := by rw [← hh, Bd.state]; rfl
  have N0 := Fr.nil n0
  refine own_go (A := s₁.setTop (mkF m 0 #[.val (.ref d), .val (.int i)] [])) (fun t_ k_ => castTop (ef_rmL1Ch m d i) k_) ?_
  obtain ⟨cl1, Ar1, q1, S1, M1, H1, G1⟩ := id u3
  refine own_go (A := s₁.setTop (mkF m 3 #[.val (.ref d), .val (.int i)] [(.int n), (.int i)])) (fun t_ k_ => ?_) ?_
  · show Steps p.tables e below (s₁.setTop (mkF m 0 #[.val (.ref d), .val (.int i)] [])) t_
    refine XS.iloadN X0.here hx rfl (hb hby d16_0) rfl ?_
    show Steps p.tables e below (s₁.setTop (mkF m 1 #[.val (.ref d), .val (.int i)] [(.int i)])) t_
    refine XS.aloadN X0.here hx rfl (hb hby d16_1) rfl rfl ?_
    show Steps p.tables e below (s₁.setTop (mkF m 2 #[.val (.ref d), .val (.int i)] [(.ref d), (.int i)])) t_
    refine X0.arraylength hx (by rw [e0]; exact Ar1.1) (State.isArrayOf_alike hZ.alike Ar1.2.1) (g := (mkF m 2 #[.val (.ref d), .val (.int i)] [(.ref d), (.int i)])) rfl rfl (hb hby d16_2) _ ?_
    rw [len_of S1 M1]
    exact k_
  obtain ⟨_, _, ⟨T2, L2, k2, n2⟩, -, X2, ⟨Lc2, hQ2, l2, y2, z2⟩, st2⟩ := Jvm.LawKit.callS X0 hx (y := own_y5) hown (mvT hZ (own_w hw 94 rfl)) (mvT hZ (own_w hw 95 rfl)) (mvT hZ (own_w hw 40 rfl)) (mvT hZ (own_w hw 96 rfl)) (by decide) (backOf (W := 0) (rmSCk l Z a0 hw [] i n sf h0 n0 Z0 O0 u1 hsf h1 h2) hZ (own_w hw 96 rfl) (own_w hw 40 rfl) (by decide) (by decide)) (g := (mkF m 3 #[.val (.ref d), .val (.int i)] [(.int n), (.int i)])) rfl (by rw [hml]; rfl) (argsL := [(.int i), (.int n)]) (rest := []) (lenOf pd_2 rfl) rfl (by show 2 * 0 + _ ≤ _; exact Nat.le_of_eq rfl) (hb hby d16_3) (fun _ _ => ⟨rfl, e0, (by decide : 0 + 0 ≤ _), (by decide : 0 + 0 ≤ _)⟩)
  dsimp only [Pt.U, Pt.locs, Pt.cells, Pt.slots] at X2 l2 y2 z2 st2 hQ2
  subst l2 y2 z2
  obtain ⟨rfl, N2q, eh2⟩ := hQ2
  have N2 := Fr.app N0 N2q
  refine own_go st2 ?_
  obtain ⟨cl3, Ar3, q3, S3, M3, H3, G3⟩ := id u3
  have hin3 : ¬ (i < 0 ∨ cl3.slots.size ≤ (i).toNatClampNeg) := inb_of S3 ⟨h1, h2⟩
  have hat3 : cl3.slots[(i).toNatClampNeg]? = some (.int x) := Has.at H3 hin3 hat
  refine own_go (A := T2.setTop (mkF m 14 #[.val (.ref d), .val (.int i)] [(.int ((x &&& (255 : Int32))).toUInt32.toUInt16.toUInt32.toInt32)])) (fun t_ k_ => ?_) ?_
  · show Steps p.tables e below (T2.setTop (mkF m 6 #[.val (.ref d), .val (.int i)] [])) t_
    refine XS.aloadN X2.here hx rfl (hb hby d16_6) rfl rfl ?_
    show Steps p.tables e below (T2.setTop (mkF m 7 #[.val (.ref d), .val (.int i)] [(.ref d)])) t_
    refine XS.iloadN X2.here hx rfl (hb hby d16_7) rfl ?_
    show Steps p.tables e below (T2.setTop (mkF m 8 #[.val (.ref d), .val (.int i)] [(.int i), (.ref d)])) t_
    refine X2.baloadBytes hx (j := i) (v := (.int x)) (by rw [eh2]; exact Ar3.1) (State.isArrayOf_alike hZ.alike Ar3.2.1) Ar3.2.2 hin3 hat3 (g := (mkF m 8 #[.val (.ref d), .val (.int i)] [(.int i), (.ref d)])) rfl rfl (hb hby d16_8) _ ?_
    show Steps p.tables e below (T2.setTop (mkF m 9 #[.val (.ref d), .val (.int i)] [(.int x)])) t_
    refine XS.sipush X2.here hx rfl (hb hby d16_9) ?_
    show Steps p.tables e below (T2.setTop (mkF m 12 #[.val (.ref d), .val (.int i)] [(.int (255 : Int32)), (.int x)])) t_
    refine XS.iand X2.here hx rfl (hb hby d16_12) rfl ?_
    show Steps p.tables e below (T2.setTop (mkF m 13 #[.val (.ref d), .val (.int i)] [(.int (x &&& (255 : Int32)))])) t_
    refine XS.i2c X2.here hx rfl (hb hby d16_13) rfl ?_
    exact k_
  obtain ⟨fs4, hr4, hrun4, hended4, hW4, hsame4⟩ := X2.leave (v := some (.int (nar .char ((x &&& (255 : Int32))).toUInt32.toUInt16.toUInt32.toInt32))) (fun h => by rw [Bd.returns] at h; cases h)
  refine ⟨_, _, ?_, hrun4, hended4, _, _, rfl, ?_, ⟨_, rfl⟩, hW4, hsame4.mono (by decide) (by decide)⟩
  · exact retN X2 hx (t := .char) Bd.returns (by simp) (hb hby d16_14) hr4
  · show Q_rmL1Ch Z d i k n vs x sf h0 n0 _ T2.heap _
    rw [eh2]
    exact ⟨(congrArg (fun z => some (Value.int z)) (own_ch x)), N2, rfl⟩
theorem d14_0 : decode jdk_42_method_56_code 0 = .ok (.aload_n 0, 1) := by decide +kernel
theorem pd_3 : parseMethodDescriptor "()Z" = some ⟨[], some .boolean⟩ := by decide +kernel
theorem d14_1 : decode jdk_42_method_56_code 1 = .ok (.invokevirtual 492, 3) := by decide +kernel
theorem d14_4 : decode jdk_42_method_56_code 4 = .ok (.ifCond .eq 12, 3) := by decide +kernel
theorem d14_7 : decode jdk_42_method_56_code 7 = .ok (.aload_n 0, 1) := by decide +kernel
theorem d14_8 : decode jdk_42_method_56_code 8 = .ok (.getfield 9, 3) := by decide +kernel
theorem d14_11 : decode jdk_42_method_56_code 11 = .ok (.iload_n 1, 1) := by decide +kernel
theorem pd_4 : parseMethodDescriptor "([BI)C" = some ⟨[(.array .byte), .int], some .char⟩ := by decide +kernel
theorem d14_12 : decode jdk_42_method_56_code 12 = .ok (.invokestatic 495, 3) := by decide +kernel
theorem d14_15 : decode jdk_42_method_56_code 15 = .ok (.ireturn, 1) := by decide +kernel
abbrev own_y7 : MethodName := ⟨"java/lang/String", "charAt", "(I)C"⟩
theorem ef_rmChAt (m : MethodId) (a : Addr) (i : Int32) : entryFrame m #[(.ref a), (.int i)] 2 = mkF m 0 #[.val (.ref a), .val (.int i)] [] := by first | (simp [entryFrame, mkF, argsToLocals, Value.category]; done) | rfl
def Q_rmChAt (Z : State) (a : Addr) (i : Int32) (d : Addr) (k : ClassId) (n : Int32) (vs : List Value) (x : Int32) (sf : Value) (cs : Int32) (h0 : Heap) (n0 : Nat) (v_ : Option Value) (h_ : Heap) (L_ : List Loc) : Prop := v_ = some (.int (x &&& (255 : Int32))) ∧ Fr n0 L_ ∧ h_ = h0
set_option maxRecDepth 65536 in
set_option maxHeartbeats 40000000 in
theorem rmChAt (l : Launch) (Z : State) (a0 : Array Value) (hw : ∀ d ∈ tables_1, d.before a0 Z = true) (ws : List Jvm.Cond) (a : Addr) (i : Int32) (d : Addr) (k : ClassId) (n : Int32) (vs : List Value) (x : Int32) (sf : Value) (cs : Int32) (h0 : Heap) (n0 : Nat) (Z0 : n0 ≤ h0.size) (O0 : Old Z n0 h0) (u1 : Sta Z Z.heap "java/lang/String" "COMPACT_STRINGS" "Z" (.int cs)) (hcs : ¬ (cs = (0 : Int32))) (u3 : Sta Z Z.heap "jdk/internal/util/Preconditions" "SIOOBE_FORMATTER" "Ljava/util/function/BiFunction;" sf) (hsf : sf.isRef = true) (u5 : Exa Z h0 a "java/lang/String") (u6 : Fld Z h0 a "java/lang/String" "coder" "B" (.int (0 : Int32))) (u7 : Fld Z h0 a "java/lang/String" "value" "[B" (.ref d)) (u8 : Arv Z h0 d k .byte n vs (.int (0 : Int32))) (h1 : ¬ (i < (0 : Int32))) (h2 : i < n) (hat : vs.getD (i).toNatClampNeg (.int (0 : Int32)) = (.int x)) :
    MetFree l own_y7 (head1 (Jvm.Cond.code own_y7 jdk_42_method_56_code 2 (some .char) :: ws) ({ frames := 3, cells := 0, slots := 0, locals := 40 } : Room)) (fun a_ U_ => a_ = #[(.ref a), (.int i)] ∧ Z.Warmed39 U_.vm ∧ U_.heap = h0) (fun _ _ _ _ _ => True) (fun _ U_ o_ U2_ => ∃ v_ L_, o_ = .returned v_ ∧ Q_rmChAt Z a i d k n vs x sf cs h0 n0 v_ U2_.heap L_ ∧ FrameEnd U_ o_ U2_ L_ ({ frames := 3, cells := 0, slots := 0, locals := 40 } : Room).cells ({ frames := 3, cells := 0, slots := 0, locals := 40 } : Room).slots) := by
  refine MetFree.of_bodySF (plainFor_of_name pn_0) hisR ?_
  intro p e s m args below meth c s₁ Bd hml0 hP hK
  obtain ⟨rfl, hZ, hh⟩ := hP
  have hx := Bd.exec
  have hby := Bd.bytes
  have hml : c.maxLocals = 2 := hml0
  have hown : s.vm.findClass "java/lang/String" = some m.cls := findClass_of_methodNamed Bd.named
  have hnm := (name_of_methodNamed Bd.named Bd.method).1
  have X0 : Stand p l e ({ frames := 3, cells := 0, slots := 0, locals := 40 } : Room) s m #[(.ref a), (.int i)] below meth c s₁ [] 0 0 := Stand.of_body Bd
  have e0 : s₁.heap = h0 := by rw [← hh, Bd.state]; rfl
  have N0 := Fr.nil n0
  refine own_go (A := s₁.setTop (mkF m 0 #[.val (.ref a), .val (.int i)] [])) (fun t_ k_ => castTop (ef_rmChAt m a i) k_) ?_
  refine own_go (A := s₁.setTop (mkF m 1 #[.val (.ref a), .val (.int i)] [(.ref a)])) (fun t_ k_ => ?_) ?_
  · show Steps p.tables e below (s₁.setTop (mkF m 0 #[.val (.ref a), .val (.int i)] [])) t_
    refine XS.aloadN X0.here hx rfl (hb hby d14_0) rfl rfl ?_
    exact k_
  obtain ⟨cq1, kq1, q1a, q1b, q1c⟩ := isOf hZ e0 u5
  obtain ⟨_, _, ⟨T1, L1, k1, n1⟩, -, X1, ⟨Lc1, hQ1, l1, y1, z1⟩, st1⟩ := X0.virtualBack hx (y := own_y1) (z := own_y1) hown (mvT hZ (own_w hw 85 rfl)) (mvT hZ (own_w hw 86 rfl)) (notFace_of_selects (args := #[]) (mvT hZ (own_w hw 88 rfl))) (mvT hZ (own_w hw 88 rfl)) (mvT hZ (own_w hw 87 rfl)) (by decide) (backOf (W := 0) (rmIsL1 l Z a0 hw [] a cs h0 n0 Z0 O0 u1 hcs u6) hZ (own_w hw 89 rfl) (own_w hw 40 rfl) (by decide) (by decide)) q1a q1c (g := (mkF m 1 #[.val (.ref a), .val (.int i)] [(.ref a)])) rfl (by rw [hml]; rfl) (Steps.refl _) (argsL := []) (rest := []) (lenOf pd_3 rfl) rfl (by show 2 * 0 + _ ≤ _; exact Nat.le_of_eq rfl) (hb hby d14_1) (fun _ _ => ⟨rfl, e0, (by decide : 0 + 0 ≤ _), (by decide : 0 + 0 ≤ _)⟩)
  dsimp only [Pt.U, Pt.locs, Pt.cells, Pt.slots] at X1 l1 y1 z1 st1 hQ1
  subst l1 y1 z1
  obtain ⟨rfl, N1q, eh1⟩ := hQ1
  have N1 := Fr.app N0 N1q
  refine own_via st1 ?_
  refine own_go (A := T1.setTop (mkF m 8 #[.val (.ref a), .val (.int i)] [(.ref a)])) (fun t_ k_ => ?_) ?_
  · show Steps p.tables e below (T1.setTop (mkF m 4 #[.val (.ref a), .val (.int i)] [(.int (1 : Int32))])) t_
    refine XS.ifNo X1.here hx rfl (hb hby d14_4) rfl ((if0 _ _).trans (feq (by decide : ¬ ((1 : Int32) = (0 : Int32)))).1) ?_
    show Steps p.tables e below (T1.setTop (mkF m 7 #[.val (.ref a), .val (.int i)] [])) t_
    refine XS.aloadN X1.here hx rfl (hb hby d14_7) rfl rfl ?_
    exact k_
  obtain ⟨T2, X2, e2, st2⟩ := getF X1 hx hZ hown (host := "") (Or.inl (own_w hw 67 rfl)) Via.refl eh1 u7 (g := (mkF m 8 #[.val (.ref a), .val (.int i)] [(.ref a)])) rfl rfl (hb hby d14_8)
  refine own_go st2 ?_
  refine own_go (A := T2.setTop (mkF m 12 #[.val (.ref a), .val (.int i)] [(.int i), (.ref d)])) (fun t_ k_ => ?_) ?_
  · show Steps p.tables e below (T2.setTop (mkF m 11 #[.val (.ref a), .val (.int i)] [(.ref d)])) t_
    refine XS.iloadN X2.here hx rfl (hb hby d14_11) rfl ?_
    exact k_
  obtain ⟨_, _, ⟨T3, L3, k3, n3⟩, -, X3, ⟨Lc3, hQ3, l3, y3, z3⟩, st3⟩ := Jvm.LawKit.callS X2 hx (y := own_y6) hown (mvT hZ (own_w hw 90 rfl)) (mvT hZ (own_w hw 91 rfl)) (mvT hZ (own_w hw 92 rfl)) (mvT hZ (own_w hw 93 rfl)) (by decide) (backOf (W := 0) (rmL1Ch l Z a0 hw [] d i k n vs x sf h0 n0 Z0 O0 u3 hsf u8 h1 h2 hat) hZ (own_w hw 93 rfl) (own_w hw 92 rfl) (by decide) (by decide)) (g := (mkF m 12 #[.val (.ref a), .val (.int i)] [(.int i), (.ref d)])) rfl (by rw [hml]; rfl) (argsL := [(.ref d), (.int i)]) (rest := []) (lenOf pd_4 rfl) rfl (by show 2 * 0 + _ ≤ _; exact Nat.le_of_eq rfl) (hb hby d14_12) (fun _ _ => ⟨rfl, e2, (by decide : 0 + 0 ≤ _), (by decide : 0 + 0 ≤ _)⟩)
  dsimp only [Pt.U, Pt.locs, Pt.cells, Pt.slots] at X3 l3 y3 z3 st3 hQ3
  subst l3 y3 z3
  obtain ⟨rfl, N3q, eh3⟩ := hQ3
  have N3 := Fr.app N1 N3q
  refine own_go st3 ?_
  obtain ⟨fs4, hr4, hrun4, hended4, hW4, hsame4⟩ := X3.leave (v := some (.int (nar .char (x &&& (255 : Int32))))) (fun h => by rw [Bd.returns] at h; cases h)
  refine ⟨_, _, ?_, hrun4, hended4, _, _, rfl, ?_, ⟨_, rfl⟩, hW4, hsame4.mono (by decide) (by decide)⟩
  · exact retN X3 hx (t := .char) Bd.returns (by simp) (hb hby d14_15) hr4
  · show Q_rmChAt Z a i d k n vs x sf cs h0 n0 _ T3.heap _
    rw [eh3]
    exact ⟨(congrArg (fun z => some (Value.int z)) (own_ch1 x)), N3, rfl⟩
def own_EL : List (String × Nat) := [("com/example/firmline/firmline/analysis/InterferenceNextReleasePinLaw", 28), ("com/example/firmline/firmline/analysis/InterferenceNextReleasePinLaw", 39), ("com/example/firmline/firmline/analysis/InterferenceNextReleasePinLaw", 41)]
theorem own_EW {Z : State} {a0 : Array Value} (hw : ∀ d ∈ tables_1, d.before a0 Z = true) : EW Z a0 own_EL := (EW.cons (own_w hw 39 rfl) (by decide +kernel) (EW.cons (own_w hw 160 rfl) (by decide +kernel) (EW.cons (own_w hw 161 rfl) (by decide +kernel) EW.nil)))
theorem own_safeA {Z : State} {EL : List (String × Nat)} {vm : Vm} {h : Heap} {a : Addr} {k : ClassId} {ty : FieldType} {n : Int32} {vs : List Value} {d : Value} (hal : Z.vm.Alike vm) (F : Arv Z h a k ty n vs d) (ht : ty ≠ .byte) : Safe Z EL vm h a := by
  obtain ⟨c, A, -⟩ := F
  exact Safe.arr hal A ht
theorem d9_0 : decode jdk_30_method_1_code 0 = .ok (.aload_n 0, 1) := by decide +kernel
theorem d9_1 : decode jdk_30_method_1_code 1 = .ok (.invokespecial 1, 3) := by decide +kernel
theorem d9_4 : decode jdk_30_method_1_code 4 = .ok (.return_, 1) := by decide +kernel
abbrev own_y8 : MethodName := ⟨"java/lang/Record", "<init>", "()V"⟩
theorem ef_rmRec (m : MethodId) (a : Addr) : entryFrame m #[(.ref a)] 1 = mkF m 0 #[.val (.ref a)] [] := by first | (simp [entryFrame, mkF, argsToLocals, Value.category]; done) | rfl
def Q_rmRec (Z : State) (a : Addr) (h0 : Heap) (n0 : Nat) (v_ : Option Value) (h_ : Heap) (L_ : List Loc) : Prop := v_ = none ∧ Fr n0 L_ ∧ h_ = h0
theorem pn_3 : plainName "java/lang/Record" = true := by first | (simp [plainName, overriddenIn]; done) | decide +kernel
set_option maxRecDepth 65536 in
set_option maxHeartbeats 40000000 in
theorem rmRec (l : Launch) (Z : State) (a0 : Array Value) (hw : ∀ d ∈ tables_1, d.before a0 Z = true) (ws : List Jvm.Cond) (a : Addr) (h0 : Heap) (n0 : Nat) (Z0 : n0 ≤ h0.size)  :
    MetFree l own_y8 (head1 (Jvm.Cond.code own_y8 jdk_30_method_1_code 1 none :: ws) ({ frames := 1, cells := 0, slots := 0, locals := 12 } : Room)) (fun a_ U_ => a_ = #[(.ref a)] ∧ Z.Warmed39 U_.vm ∧ U_.heap = h0) (fun _ _ _ _ _ => True) (fun _ U_ o_ U2_ => ∃ v_ L_, o_ = .returned v_ ∧ Q_rmRec Z a h0 n0 v_ U2_.heap L_ ∧ FrameEnd U_ o_ U2_ L_ ({ frames := 1, cells := 0, slots := 0, locals := 12 } : Room).cells ({ frames := 1, cells := 0, slots := 0, locals := 12 } : Room).slots) := by
  refine MetFree.of_bodySF (plainFor_of_name pn_3) hisR ?_
  intro p e s m args below meth c s₁ Bd hml0 hP hK
  obtain ⟨rfl, hZ, hh⟩ := hP
  have hx := Bd.exec
  have hby := Bd.bytes
  have hml : c.maxLocals = 1 := hml0
  have hown : s.vm.findClass "java/lang/Record" = some m.cls := findClass_of_methodNamed Bd.named
  have hnm := (name_of_methodNamed Bd.named Bd.method).1
  have X0 : Stand p l e ({ frames := 1, cells := 0, slots := 0, locals := 12 } : Room) s m #[(.ref a)] below meth c s₁ [] 0 0 := Stand.of_body Bd
  have e0 : s₁.heap = h0 := by rw [← hh, Bd.state]; rfl
  have N0 := Fr.nil n0
  refine own_go (A := s₁.setTop (mkF m 0 #[.val (.ref a)] [])) (fun t_ k_ => castTop (ef_rmRec m a) k_) ?_
  refine own_go (A := s₁.setTop (mkF m 1 #[.val (.ref a)] [(.ref a)])) (fun t_ k_ => ?_) ?_
  · show Steps p.tables e below (s₁.setTop (mkF m 0 #[.val (.ref a)] [])) t_
    refine XS.aloadN X0.here hx rfl (hb hby d9_0) rfl rfl ?_
    exact k_
  obtain ⟨T1, X1, e1, st1⟩ := initO X0 hx hZ hown (own_w hw 58 rfl) (own_w hw 29 rfl) (own_w hw 30 rfl) e0 (g := (mkF m 1 #[.val (.ref a)] [(.ref a)])) rfl (by rw [hml]; rfl) rfl (hb hby d9_1) (by decide) (W := 0) (by show 2 * 0 + _ ≤ _; exact Nat.le_of_eq rfl) (by decide)
  refine own_go st1 ?_
  obtain ⟨fs2, hr2, hrun2, hended2, hW2, hsame2⟩ := X1.leave (v := none) (fun _ => rfl)
  refine ⟨_, _, ?_, hrun2, hended2, _, _, rfl, ?_, ⟨_, rfl⟩, hW2, hsame2.mono (by decide) (by decide)⟩
  · exact X1.returnOut hx Bd.returns (hb hby d9_4) hr2
  · show Q_rmRec Z a h0 n0 _ T1.heap _
    rw [e1]
    exact ⟨rfl, N0, rfl⟩
theorem own_time (q : Int64) : 1 ≤ (((q &&& (9223372036854775807 : Int64)) - ((q &&& (9223372036854775807 : Int64)) / (1000000000000000 : Int64)) * (1000000000000000 : Int64)) + (1 : Int64)).toInt ∧ (((q &&& (9223372036854775807 : Int64)) - ((q &&& (9223372036854775807 : Int64)) / (1000000000000000 : Int64)) * (1000000000000000 : Int64)) + (1 : Int64)).toInt ≤ 1000000000000000 := by
  have h1 := (c_andSL q (9223372036854775807 : Int64)).2.2 (by decide)
  have h2 := (c_lrem (q &&& (9223372036854775807 : Int64)) (1000000000000000 : Int64) 1000000000000000 (by decide)).1 h1
  have h3 := c_ladd ((q &&& (9223372036854775807 : Int64)) - ((q &&& (9223372036854775807 : Int64)) / (1000000000000000 : Int64)) * (1000000000000000 : Int64)) 1
  have h4 := rng64 (((q &&& (9223372036854775807 : Int64)) - ((q &&& (9223372036854775807 : Int64)) / (1000000000000000 : Int64)) * (1000000000000000 : Int64)) + 1)
  have h5 : ((1 : Int64).toInt) = 1 := by decide
  omega
theorem d2_0 : decode method_3_code 0 = .ok (.lload_n 0, 1) := by decide +kernel
theorem d2_1 : decode method_3_code 1 = .ok (.ldc2_w 9, 3) := by decide +kernel
theorem d2_4 : decode method_3_code 4 = .ok (.land, 1) := by decide +kernel
theorem d2_5 : decode method_3_code 5 = .ok (.ldc2_w 57, 3) := by decide +kernel
theorem d2_8 : decode method_3_code 8 = .ok (.lrem, 1) := by decide +kernel
theorem d2_9 : decode method_3_code 9 = .ok (.lconst 1, 1) := by decide +kernel
theorem d2_10 : decode method_3_code 10 = .ok (.ladd, 1) := by decide +kernel
theorem d2_11 : decode method_3_code 11 = .ok (.lreturn, 1) := by decide +kernel
abbrev own_y9 : MethodName := ⟨"com/example/firmline/firmline/analysis/InterferenceNextReleasePinLaw", "period", "(J)J"⟩
theorem ef_rmTime (m : MethodId) (q : Int64) : entryFrame m #[(.long q)] 2 = mkF m 0 #[.val (.long q), .second] [] := by first | (simp [entryFrame, mkF, argsToLocals, Value.category]; done) | rfl
def Q_rmTime (Z : State) (q : Int64) (h0 : Heap) (n0 : Nat) (v_ : Option Value) (h_ : Heap) (L_ : List Loc) : Prop := ∃ r : Int64, v_ = some (.long r) ∧ Fr n0 L_ ∧ h_ = h0 ∧ (1 ≤ r.toInt ∧ r.toInt ≤ 1000000000000000)
theorem pn_4 : plainName "com/example/firmline/firmline/analysis/InterferenceNextReleasePinLaw" = true := by first | (simp [plainName, overriddenIn]; done) | decide +kernel
set_option maxRecDepth 65536 in
set_option maxHeartbeats 40000000 in
theorem rmTime (l : Launch) (Z : State) (a0 : Array Value) (hw : ∀ d ∈ tables_1, d.before a0 Z = true) (ws : List Jvm.Cond) (q : Int64) (h0 : Heap) (n0 : Nat) (Z0 : n0 ≤ h0.size)  :
    MetFree l own_y9 (head1 (Jvm.Cond.code own_y9 method_3_code 2 (some .long) :: ws) ({ frames := 0, cells := 0, slots := 0, locals := 0 } : Room)) (fun a_ U_ => a_ = #[(.long q)] ∧ Z.Warmed39 U_.vm ∧ U_.heap = h0) (fun _ _ _ _ _ => True) (fun _ U_ o_ U2_ => ∃ v_ L_, o_ = .returned v_ ∧ Q_rmTime Z q h0 n0 v_ U2_.heap L_ ∧ FrameEnd U_ o_ U2_ L_ ({ frames := 0, cells := 0, slots := 0, locals := 0 } : Room).cells ({ frames := 0, cells := 0, slots := 0, locals := 0 } : Room).slots) := by
  refine MetFree.of_bodySF (plainFor_of_name pn_4) hisR ?_
  intro p e s m args below meth c s₁ Bd hml0 hP hK
  obtain ⟨rfl, hZ, hh⟩ := hP
  have hx := Bd.exec
  have hby := Bd.bytes
  have hml : c.maxLocals = 2 := hml0
  have hown : s.vm.findClass "com/example/firmline/firmline/analysis/InterferenceNextReleasePinLaw" = some m.cls := findClass_of_methodNamed Bd.named
  have hnm := (name_of_methodNamed Bd.named Bd.method).1
  have X0 : Stand p l e ({ frames := 0, cells := 0, slots := 0, locals := 0 } : Room) s m #[(.long q)] below meth c s₁ [] 0 0 := Stand.of_body Bd
  have e0 : s₁.heap = h0 := by rw [← hh, Bd.state]; rfl
  have N0 := Fr.nil n0
  refine own_go (A := s₁.setTop (mkF m 0 #[.val (.long q), .second] [])) (fun t_ k_ => castTop (ef_rmTime m q) k_) ?_
  refine own_go (A := s₁.setTop (mkF m 11 #[.val (.long q), .second] [(.long (((q &&& (9223372036854775807 : Int64)) - ((q &&& (9223372036854775807 : Int64)) / (1000000000000000 : Int64)) * (1000000000000000 : Int64)) + (1 : Int64)))])) (fun t_ k_ => ?_) ?_
  · show Steps p.tables e below (s₁.setTop (mkF m 0 #[.val (.long q), .second] [])) t_
    refine XS.lloadN X0.here hx rfl (hb hby d2_0) rfl ?_
    show Steps p.tables e below (s₁.setTop (mkF m 1 #[.val (.long q), .second] [(.long q)])) t_
    refine Jvm.Stand.ldc2J X0 hx hown (mvT hZ (own_w hw 0 rfl)) (g := (mkF m 1 #[.val (.long q), .second] [(.long q)])) rfl (hb hby d2_1) ?_
    show Steps p.tables e below (s₁.setTop (mkF m 4 #[.val (.long q), .second] [(.long (9223372036854775807 : Int64)), (.long q)])) t_
    refine XS.land X0.here hx rfl (hb hby d2_4) rfl ?_
    show Steps p.tables e below (s₁.setTop (mkF m 5 #[.val (.long q), .second] [(.long (q &&& (9223372036854775807 : Int64)))])) t_
    refine Jvm.Stand.ldc2J X0 hx hown (mvT hZ (own_w hw 9 rfl)) (g := (mkF m 5 #[.val (.long q), .second] [(.long (q &&& (9223372036854775807 : Int64)))])) rfl (hb hby d2_5) ?_
    show Steps p.tables e below (s₁.setTop (mkF m 8 #[.val (.long q), .second] [(.long (1000000000000000 : Int64)), (.long (q &&& (9223372036854775807 : Int64)))])) t_
    refine XS.lrem X0.here hx rfl (hb hby d2_8) rfl (by decide : ¬ ((1000000000000000 : Int64) = (0 : Int64))) ?_
    show Steps p.tables e below (s₁.setTop (mkF m 9 #[.val (.long q), .second] [(.long ((q &&& (9223372036854775807 : Int64)) - ((q &&& (9223372036854775807 : Int64)) / (1000000000000000 : Int64)) * (1000000000000000 : Int64)))])) t_
    refine XS.lconst X0.here hx rfl (hb hby d2_9) ?_
    show Steps p.tables e below (s₁.setTop (mkF m 10 #[.val (.long q), .second] [(.long (1 : Int64)), (.long ((q &&& (9223372036854775807 : Int64)) - ((q &&& (9223372036854775807 : Int64)) / (1000000000000000 : Int64)) * (1000000000000000 : Int64)))])) t_
    refine XS.ladd X0.here hx rfl (hb hby d2_10) rfl ?_
    exact k_
  obtain ⟨fs1, hr1, hrun1, hended1, hW1, hsame1⟩ := X0.leave (v := some (.long (((q &&& (9223372036854775807 : Int64)) - ((q &&& (9223372036854775807 : Int64)) / (1000000000000000 : Int64)) * (1000000000000000 : Int64)) + (1 : Int64)))) (fun h => by rw [Bd.returns] at h; cases h)
  refine ⟨_, _, ?_, hrun1, hended1, _, _, rfl, ?_, ⟨_, rfl⟩, hW1, hsame1.mono (by decide) (by decide)⟩
  · exact own_retJ X0 hx Bd.returns (hb hby d2_11) hr1
  · show Q_rmTime Z q h0 n0 _ s₁.heap _
    rw [e0]
    exact ⟨(((q &&& (9223372036854775807 : Int64)) - ((q &&& (9223372036854775807 : Int64)) / (1000000000000000 : Int64)) * (1000000000000000 : Int64)) + (1 : Int64)), rfl, N0, rfl, own_time q⟩
theorem own_lti {x y : Int64} (h : x < y) : x.toInt < y.toInt := Int64.lt_iff_toInt_lt.mp h
theorem own_nlti {x y : Int64} (h : ¬ (x < y)) : y.toInt ≤ x.toInt := by rw [Int64.lt_iff_toInt_lt] at h; omega
theorem own_i1 : ((1 : Int64).toInt) = 1 := by decide
theorem own_iM : ((9223372036854775807 : Int64).toInt) = 9223372036854775807 := by decide
theorem d1_0 : decode jdk_29_method_66_code 0 = .ok (.lload_n 0, 1) := by decide +kernel
theorem d1_1 : decode jdk_29_method_66_code 1 = .ok (.lload_n 2, 1) := by decide +kernel
theorem d1_2 : decode jdk_29_method_66_code 2 = .ok (.lcmp, 1) := by decide +kernel
theorem d1_3 : decode jdk_29_method_66_code 3 = .ok (.ifCond .lt 7, 3) := by decide +kernel
theorem d1_10 : decode jdk_29_method_66_code 10 = .ok (.lload_n 2, 1) := by decide +kernel
theorem d1_11 : decode jdk_29_method_66_code 11 = .ok (.lreturn, 1) := by decide +kernel
theorem d1_6 : decode jdk_29_method_66_code 6 = .ok (.lload_n 0, 1) := by decide +kernel
theorem d1_7 : decode jdk_29_method_66_code 7 = .ok (.goto 4, 3) := by decide +kernel
abbrev own_y10 : MethodName := ⟨"java/lang/Math", "max", "(JJ)J"⟩
theorem ef_rmMaxJ (m : MethodId) (q : Int64) : entryFrame m #[(.long (1 : Int64)), (.long q)] 4 = mkF m 0 #[.val (.long (1 : Int64)), .second, .val (.long q), .second] [] := by first | (simp [entryFrame, mkF, argsToLocals, Value.category]; done) | rfl
def Q_rmMaxJ (Z : State) (q : Int64) (h0 : Heap) (n0 : Nat) (v_ : Option Value) (h_ : Heap) (L_ : List Loc) : Prop := ∃ r : Int64, v_ = some (.long r) ∧ Fr n0 L_ ∧ h_ = h0 ∧ (1 ≤ r.toInt)
set_option maxRecDepth 65536 in
set_option maxHeartbeats 40000000 in
theorem rmMaxJ (l : Launch) (Z : State) (a0 : Array Value) (hw : ∀ d ∈ tables_1, d.before a0 Z = true) (ws : List Jvm.Cond) (q : Int64) (h0 : Heap) (n0 : Nat) (Z0 : n0 ≤ h0.size)  :
    MetFree l own_y10 (head1 (Jvm.Cond.code own_y10 jdk_29_method_66_code 4 (some .long) :: ws) ({ frames := 0, cells := 0, slots := 0, locals := 0 } : Room)) (fun a_ U_ => a_ = #[(.long (1 : Int64)), (.long q)] ∧ Z.Warmed39 U_.vm ∧ U_.heap = h0) (fun _ _ _ _ _ => True) (fun _ U_ o_ U2_ => ∃ v_ L_, o_ = .returned v_ ∧ Q_rmMaxJ Z q h0 n0 v_ U2_.heap L_ ∧ FrameEnd U_ o_ U2_ L_ ({ frames := 0, cells := 0, slots := 0, locals := 0 } : Room).cells ({ frames := 0, cells := 0, slots := 0, locals := 0 } : Room).slots) := by
  refine MetFree.of_bodySF (Jvm.Free.JP.mathPlain rfl (by decide +kernel)) hisR ?_
  intro p e s m args below meth c s₁ Bd hml0 hP hK
  obtain ⟨rfl, hZ, hh⟩ := hP
  have hx := Bd.exec
  have hby := Bd.bytes
  have hml : c.maxLocals = 4 := hml0
  have hown : s.vm.findClass "java/lang/Math" = some m.cls := findClass_of_methodNamed Bd.named
  have hnm := (name_of_methodNamed Bd.named Bd.method).1
  have X0 : Stand p l e ({ frames := 0, cells := 0, slots := 0, locals := 0 } : Room) s m #[(.long (1 : Int64)), (.long q)] below meth c s₁ [] 0 0 := Stand.of_body Bd
  have e0 : s₁.heap = h0 := by rw [← hh, Bd.state]; rfl
  have N0 := Fr.nil n0
  refine own_go (A := s₁.setTop (mkF m 0 #[.val (.long (1 : Int64)), .second, .val (.long q), .second] [])) (fun t_ k_ => castTop (ef_rmMaxJ m q) k_) ?_
  refine own_go (A := s₁.setTop (mkF m 3 #[.val (.long (1 : Int64)), .second, .val (.long q), .second] [(.int (lcmpW (1 : Int64) q))])) (fun t_ k_ => ?_) ?_
  · show Steps p.tables e below (s₁.setTop (mkF m 0 #[.val (.long (1 : Int64)), .second, .val (.long q), .second] [])) t_
    refine XS.lloadN X0.here hx rfl (hb hby d1_0) rfl ?_
    show Steps p.tables e below (s₁.setTop (mkF m 1 #[.val (.long (1 : Int64)), .second, .val (.long q), .second] [(.long (1 : Int64))])) t_
    refine XS.lloadN X0.here hx rfl (hb hby d1_1) rfl ?_
    show Steps p.tables e below (s₁.setTop (mkF m 2 #[.val (.long (1 : Int64)), .second, .val (.long q), .second] [(.long q), (.long (1 : Int64))])) t_
    refine XS.lcmp X0.here hx rfl (hb hby d1_2) rfl ?_
    exact k_
  by_cases hc3_1 : (1 : Int64) < q
  · refine own_go (A := s₁.setTop (mkF m 11 #[.val (.long (1 : Int64)), .second, .val (.long q), .second] [(.long q)])) (fun t_ k_ => ?_) ?_
    · show Steps p.tables e below (s₁.setTop (mkF m 3 #[.val (.long (1 : Int64)), .second, .val (.long q), .second] [(.int (lcmpW (1 : Int64) q))])) t_
      refine XS.ifYes X0.here hx rfl (pc0 := 3) (pc' := 10) rfl (hb hby d1_3) rfl ((if0 _ _).trans (tlt ((lw_lt _ _).mpr hc3_1)).1) (by decide) (by decide) ?_
      show Steps p.tables e below (s₁.setTop (mkF m 10 #[.val (.long (1 : Int64)), .second, .val (.long q), .second] [])) t_
      refine XS.lloadN X0.here hx rfl (hb hby d1_10) rfl ?_
      exact k_
    obtain ⟨fs2, hr2, hrun2, hended2, hW2, hsame2⟩ := X0.leave (v := some (.long q)) (fun h => by rw [Bd.returns] at h; cases h)
    refine ⟨_, _, ?_, hrun2, hended2, _, _, rfl, ?_, ⟨_, rfl⟩, hW2, hsame2.mono (by decide) (by decide)⟩
    · exact own_retJ X0 hx Bd.returns (hb hby d1_11) hr2
    · show Q_rmMaxJ Z q h0 n0 _ s₁.heap _
      rw [e0]
      exact ⟨q, rfl, N0, rfl, (by have h := own_lti hc3_1; rw [own_i1] at h; omega)⟩
  · refine own_go (A := s₁.setTop (mkF m 11 #[.val (.long (1 : Int64)), .second, .val (.long q), .second] [(.long (1 : Int64))])) (fun t_ k_ => ?_) ?_
    · show Steps p.tables e below (s₁.setTop (mkF m 3 #[.val (.long (1 : Int64)), .second, .val (.long q), .second] [(.int (lcmpW (1 : Int64) q))])) t_
      refine XS.ifNo X0.here hx rfl (hb hby d1_3) rfl ((if0 _ _).trans (flt (fun q => hc3_1 ((lw_lt _ _).mp q))).1) ?_
      show Steps p.tables e below (s₁.setTop (mkF m 6 #[.val (.long (1 : Int64)), .second, .val (.long q), .second] [])) t_
      refine XS.lloadN X0.here hx rfl (hb hby d1_6) rfl ?_
      show Steps p.tables e below (s₁.setTop (mkF m 7 #[.val (.long (1 : Int64)), .second, .val (.long q), .second] [(.long (1 : Int64))])) t_
      refine XS.goto X0.here hx rfl (pc0 := 7) (pc' := 11) rfl (hb hby d1_7) (by decide) (by decide) ?_
      exact k_
    obtain ⟨fs3, hr3, hrun3, hended3, hW3, hsame3⟩ := X0.leave (v := some (.long (1 : Int64))) (fun h => by rw [Bd.returns] at h; cases h)
    refine ⟨_, _, ?_, hrun3, hended3, _, _, rfl, ?_, ⟨_, rfl⟩, hW3, hsame3.mono (by decide) (by decide)⟩
    · exact own_retJ X0 hx Bd.returns (hb hby d1_11) hr3
    · show Q_rmMaxJ Z q h0 n0 _ s₁.heap _
      rw [e0]
      exact ⟨(1 : Int64), rfl, N0, rfl, (Int.le_of_eq own_i1.symm)⟩
theorem d35_0 : decode jdk_29_method_70_code 0 = .ok (.lload_n 0, 1) := by decide +kernel
theorem d35_1 : decode jdk_29_method_70_code 1 = .ok (.lload_n 2, 1) := by decide +kernel
theorem d35_2 : decode jdk_29_method_70_code 2 = .ok (.lcmp, 1) := by decide +kernel
theorem d35_3 : decode jdk_29_method_70_code 3 = .ok (.ifCond .gt 7, 3) := by decide +kernel
theorem d35_10 : decode jdk_29_method_70_code 10 = .ok (.lload_n 2, 1) := by decide +kernel
theorem d35_11 : decode jdk_29_method_70_code 11 = .ok (.lreturn, 1) := by decide +kernel
theorem d35_6 : decode jdk_29_method_70_code 6 = .ok (.lload_n 0, 1) := by decide +kernel
theorem d35_7 : decode jdk_29_method_70_code 7 = .ok (.goto 4, 3) := by decide +kernel
abbrev own_y11 : MethodName := ⟨"java/lang/Math", "min", "(JJ)J"⟩
theorem ef_rmMinJ (m : MethodId) (q1 : Int64) (q2 : Int64) : entryFrame m #[(.long q1), (.long q2)] 4 = mkF m 0 #[.val (.long q1), .second, .val (.long q2), .second] [] := by first | (simp [entryFrame, mkF, argsToLocals, Value.category]; done) | rfl
def Q_rmMinJ (Z : State) (q1 : Int64) (q2 : Int64) (h0 : Heap) (n0 : Nat) (v_ : Option Value) (h_ : Heap) (L_ : List Loc) : Prop := ∃ r : Int64, v_ = some (.long r) ∧ Fr n0 L_ ∧ h_ = h0 ∧ ((r = q1 ∧ q1.toInt ≤ q2.toInt) ∨ (r = q2 ∧ q2.toInt ≤ q1.toInt))
set_option maxRecDepth 65536 in
set_option maxHeartbeats 40000000 in
theorem rmMinJ (l : Launch) (Z : State) (a0 : Array Value) (hw : ∀ d ∈ tables_1, d.before a0 Z = true) (ws : List Jvm.Cond) (q1 : Int64) (q2 : Int64) (h0 : Heap) (n0 : Nat) (Z0 : n0 ≤ h0.size)  :
    MetFree l own_y11 (head1 (Jvm.Cond.code own_y11 jdk_29_method_70_code 4 (some .long) :: ws) ({ frames := 0, cells := 0, slots := 0, locals := 0 } : Room)) (fun a_ U_ => a_ = #[(.long q1), (.long q2)] ∧ Z.Warmed39 U_.vm ∧ U_.heap = h0) (fun _ _ _ _ _ => True) (fun _ U_ o_ U2_ => ∃ v_ L_, o_ = .returned v_ ∧ Q_rmMinJ Z q1 q2 h0 n0 v_ U2_.heap L_ ∧ FrameEnd U_ o_ U2_ L_ ({ frames := 0, cells := 0, slots := 0, locals := 0 } : Room).cells ({ frames := 0, cells := 0, slots := 0, locals := 0 } : Room).slots) := by
  refine MetFree.of_bodySF (Jvm.Free.JP.mathPlain rfl (by decide +kernel)) hisR ?_
  intro p e s m args below meth c s₁ Bd hml0 hP hK
  obtain ⟨rfl, hZ, hh⟩ := hP
  have hx := Bd.exec
  have hby := Bd.bytes
  have hml : c.maxLocals = 4 := hml0
  have hown : s.vm.findClass "java/lang/Math" = some m.cls := findClass_of_methodNamed Bd.named
  have hnm := (name_of_methodNamed Bd.named Bd.method).1
  have X0 : Stand p l e ({ frames := 0, cells := 0, slots := 0, locals := 0 } : Room) s m #[(.long q1), (.long q2)] below meth c s₁ [] 0 0 := Stand.of_body Bd
  have e0 : s₁.heap = h0 := by rw [← hh, Bd.state]; rfl
  have N0 := Fr.nil n0
  refine own_go (A := s₁.setTop (mkF m 0 #[.val (.long q1), .second, .val (.long q2), .second] [])) (fun t_ k_ => castTop (ef_rmMinJ m q1 q2) k_) ?_
  refine own_go (A := s₁.setTop (mkF m 3 #[.val (.long q1), .second, .val (.long q2), .second] [(.int (lcmpW q1 q2))])) (fun t_ k_ => ?_) ?_
  · show Steps p.tables e below (s₁.setTop (mkF m 0 #[.val (.long q1), .second, .val (.long q2), .second] [])) t_
    refine XS.lloadN X0.here hx rfl (hb hby d35_0) rfl ?_
    show Steps p.tables e below (s₁.setTop (mkF m 1 #[.val (.long q1), .second, .val (.long q2), .second] [(.long q1)])) t_
    refine XS.lloadN X0.here hx rfl (hb hby d35_1) rfl ?_
    show Steps p.tables e below (s₁.setTop (mkF m 2 #[.val (.long q1), .second, .val (.long q2), .second] [(.long q2), (.long q1)])) t_
    refine XS.lcmp X0.here hx rfl (hb hby d35_2) rfl ?_
    exact k_
  by_cases hc3_1 : q2 < q1
  · refine own_go (A := s₁.setTop (mkF m 11 #[.val (.long q1), .second, .val (.long q2), .second] [(.long q2)])) (fun t_ k_ => ?_) ?_
    · show Steps p.tables e below (s₁.setTop (mkF m 3 #[.val (.long q1), .second, .val (.long q2), .second] [(.int (lcmpW q1 q2))])) t_
      refine XS.ifYes X0.here hx rfl (pc0 := 3) (pc' := 10) rfl (hb hby d35_3) rfl ((if0 _ _).trans (tlt ((lw_gt _ _).mpr hc3_1)).2.2.1) (by decide) (by decide) ?_
      show Steps p.tables e below (s₁.setTop (mkF m 10 #[.val (.long q1), .second, .val (.long q2), .second] [])) t_
      refine XS.lloadN X0.here hx rfl (hb hby d35_10) rfl ?_
      exact k_
    obtain ⟨fs2, hr2, hrun2, hended2, hW2, hsame2⟩ := X0.leave (v := some (.long q2)) (fun h => by rw [Bd.returns] at h; cases h)
    refine ⟨_, _, ?_, hrun2, hended2, _, _, rfl, ?_, ⟨_, rfl⟩, hW2, hsame2.mono (by decide) (by decide)⟩
    · exact own_retJ X0 hx Bd.returns (hb hby d35_11) hr2
    · show Q_rmMinJ Z q1 q2 h0 n0 _ s₁.heap _
      rw [e0]
      exact ⟨q2, rfl, N0, rfl, (Or.inr ⟨rfl, (Int.le_of_lt (own_lti hc3_1))⟩)⟩
  · refine own_go (A := s₁.setTop (mkF m 11 #[.val (.long q1), .second, .val (.long q2), .second] [(.long q1)])) (fun t_ k_ => ?_) ?_
    · show Steps p.tables e below (s₁.setTop (mkF m 3 #[.val (.long q1), .second, .val (.long q2), .second] [(.int (lcmpW q1 q2))])) t_
      refine XS.ifNo X0.here hx rfl (hb hby d35_3) rfl ((if0 _ _).trans (flt (fun q => hc3_1 ((lw_gt _ _).mp q))).2.2.1) ?_
      show Steps p.tables e below (s₁.setTop (mkF m 6 #[.val (.long q1), .second, .val (.long q2), .second] [])) t_
      refine XS.lloadN X0.here hx rfl (hb hby d35_6) rfl ?_
      show Steps p.tables e below (s₁.setTop (mkF m 7 #[.val (.long q1), .second, .val (.long q2), .second] [(.long q1)])) t_
      refine XS.goto X0.here hx rfl (pc0 := 7) (pc' := 11) rfl (hb hby d35_7) (by decide) (by decide) ?_
      exact k_
    obtain ⟨fs3, hr3, hrun3, hended3, hW3, hsame3⟩ := X0.leave (v := some (.long q1)) (fun h => by rw [Bd.returns] at h; cases h)
    refine ⟨_, _, ?_, hrun3, hended3, _, _, rfl, ?_, ⟨_, rfl⟩, hW3, hsame3.mono (by decide) (by decide)⟩
    · exact own_retJ X0 hx Bd.returns (hb hby d35_11) hr3
    · show Q_rmMinJ Z q1 q2 h0 n0 _ s₁.heap _
      rw [e0]
      exact ⟨q1, rfl, N0, rfl, (Or.inl ⟨rfl, (own_nlti hc3_1)⟩)⟩
theorem d10_0 : decode prog_18_method_6_code 0 = .ok (.aload_n 0, 1) := by decide +kernel
theorem d10_1 : decode prog_18_method_6_code 1 = .ok (.invokevirtual 64, 3) := by decide +kernel
theorem d10_4 : decode prog_18_method_6_code 4 = .ok (.ifCond .ne 12, 3) := by decide +kernel
theorem d10_7 : decode prog_18_method_6_code 7 = .ok (.aload_n 0, 1) := by decide +kernel
theorem pd_5 : parseMethodDescriptor "()I" = some ⟨[], some .int⟩ := by decide +kernel
theorem d10_8 : decode prog_18_method_6_code 8 = .ok (.invokevirtual 70, 3) := by decide +kernel
theorem d10_11 : decode prog_18_method_6_code 11 = .ok (.bipush 64, 2) := by decide +kernel
theorem d10_13 : decode prog_18_method_6_code 13 = .ok (.if_icmp .le 13, 3) := by decide +kernel
theorem d10_26 : decode prog_18_method_6_code 26 = .ok (.iconst 0, 1) := by decide +kernel
theorem d10_27 : decode prog_18_method_6_code 27 = .ok (.istore_n 1, 1) := by decide +kernel
theorem d10_28 : decode prog_18_method_6_code 28 = .ok (.iload_n 1, 1) := by decide +kernel
theorem d10_29 : decode prog_18_method_6_code 29 = .ok (.aload_n 0, 1) := by decide +kernel
theorem d10_30 : decode prog_18_method_6_code 30 = .ok (.invokevirtual 70, 3) := by decide +kernel
theorem d10_33 : decode prog_18_method_6_code 33 = .ok (.if_icmp .ge 89, 3) := by decide +kernel
theorem d10_36 : decode prog_18_method_6_code 36 = .ok (.aload_n 0, 1) := by decide +kernel
theorem d10_37 : decode prog_18_method_6_code 37 = .ok (.iload_n 1, 1) := by decide +kernel
theorem pd_6 : parseMethodDescriptor "(I)C" = some ⟨[.int], some .char⟩ := by decide +kernel
theorem d10_38 : decode prog_18_method_6_code 38 = .ok (.invokevirtual 76, 3) := by decide +kernel
theorem d10_41 : decode prog_18_method_6_code 41 = .ok (.istore_n 2, 1) := by decide +kernel
theorem d10_42 : decode prog_18_method_6_code 42 = .ok (.iload_n 2, 1) := by decide +kernel
theorem d10_43 : decode prog_18_method_6_code 43 = .ok (.bipush 97, 2) := by decide +kernel
theorem d10_45 : decode prog_18_method_6_code 45 = .ok (.if_icmp .lt 9, 3) := by decide +kernel
theorem d10_48 : decode prog_18_method_6_code 48 = .ok (.iload_n 2, 1) := by decide +kernel
theorem d10_49 : decode prog_18_method_6_code 49 = .ok (.bipush 122, 2) := by decide +kernel
theorem d10_51 : decode prog_18_method_6_code 51 = .ok (.if_icmp .le 45, 3) := by decide +kernel
theorem d10_96 : decode prog_18_method_6_code 96 = .ok (.iconst 1, 1) := by decide +kernel
theorem d10_97 : decode prog_18_method_6_code 97 = .ok (.goto 4, 3) := by decide +kernel
theorem d10_101 : decode prog_18_method_6_code 101 = .ok (.istore_n 3, 1) := by decide +kernel
theorem d10_102 : decode prog_18_method_6_code 102 = .ok (.iload_n 3, 1) := by decide +kernel
theorem d10_103 : decode prog_18_method_6_code 103 = .ok (.ifCond .ne 13, 3) := by decide +kernel
theorem d10_116 : decode prog_18_method_6_code 116 = .ok (.iinc 1 1, 3) := by decide +kernel
theorem d10_119 : decode prog_18_method_6_code 119 = .ok (.goto (-91), 3) := by decide +kernel
theorem d10_122 : decode prog_18_method_6_code 122 = .ok (.return_, 1) := by decide +kernel
abbrev own_y12 : MethodName := ⟨"com/example/firmline/firmline/model/Task", "checkName", "(Ljava/lang/String;)V"⟩
theorem ef_rmName (m : MethodId) (st : Addr) : entryFrame m #[(.ref st)] 4 = mkF m 0 #[.val (.ref st), .unset, .unset, .unset] [] := by first | (simp [entryFrame, mkF, argsToLocals, Value.category]; done) | rfl
def Q_rmName (Z : State) (st : Addr) (d : Addr) (k : ClassId) (ch : Int32) (cs : Int32) (sf : Value) (h0 : Heap) (n0 : Nat) (v_ : Option Value) (h_ : Heap) (L_ : List Loc) : Prop := v_ = none ∧ Fr n0 L_ ∧ h_ = h0
theorem pn_5 : plainName "com/example/firmline/firmline/model/Task" = true := by first | (simp [plainName, overriddenIn]; done) | decide +kernel
set_option maxRecDepth 65536 in
set_option maxHeartbeats 40000000 in
theorem rmName (l : Launch) (Z : State) (a0 : Array Value) (hw : ∀ d ∈ tables_1, d.before a0 Z = true) (ws : List Jvm.Cond) (st : Addr) (d : Addr) (k : ClassId) (ch : Int32) (cs : Int32) (sf : Value) (h0 : Heap) (n0 : Nat) (Z0 : n0 ≤ h0.size) (O0 : Old Z n0 h0) (u1 : Sta Z Z.heap "java/lang/String" "COMPACT_STRINGS" "Z" (.int cs)) (hcs : ¬ (cs = (0 : Int32))) (u3 : Sta Z Z.heap "jdk/internal/util/Preconditions" "SIOOBE_FORMATTER" "Ljava/util/function/BiFunction;" sf) (hsf : sf.isRef = true) (u5 : Exa Z h0 st "java/lang/String") (u6 : Fld Z h0 st "java/lang/String" "coder" "B" (.int (0 : Int32))) (u7 : Fld Z h0 st "java/lang/String" "value" "[B" (.ref d)) (u8 : Arv Z h0 d k .byte (1 : Int32) [(.int ch)] (.int (0 : Int32))) (hch1 : ¬ ((ch &&& (255 : Int32)) < (97 : Int32))) (hch2 : ¬ ((122 : Int32) < (ch &&& (255 : Int32)))) :
    MetFree l own_y12 (head1 (Jvm.Cond.code own_y12 prog_18_method_6_code 4 none :: ws) ({ frames := 4, cells := 0, slots := 0, locals := 53 } : Room)) (fun a_ U_ => a_ = #[(.ref st)] ∧ Z.Warmed39 U_.vm ∧ U_.heap = h0) (fun _ _ _ _ _ => True) (fun _ U_ o_ U2_ => ∃ v_ L_, o_ = .returned v_ ∧ Q_rmName Z st d k ch cs sf h0 n0 v_ U2_.heap L_ ∧ FrameEnd U_ o_ U2_ L_ ({ frames := 4, cells := 0, slots := 0, locals := 53 } : Room).cells ({ frames := 4, cells := 0, slots := 0, locals := 53 } : Room).slots) := by
  refine MetFree.of_bodySF (plainFor_of_name pn_5) hisR ?_
  intro p e s m args below meth c s₁ Bd hml0 hP hK
  obtain ⟨rfl, hZ, hh⟩ := hP
  have hx := Bd.exec
  have hby := Bd.bytes
  have hml : c.maxLocals = 4 := hml0
  have hown : s.vm.findClass "com/example/firmline/firmline/model/Task" = some m.cls := findClass_of_methodNamed Bd.named
  have hnm := (name_of_methodNamed Bd.named Bd.method).1
  have X0 : Stand p l e ({ frames := 4, cells := 0, slots := 0, locals := 53 } : Room) s m #[(.ref st)] below meth c s₁ [] 0 0 := Stand.of_body Bd
  have e0 : s₁.heap = h0 := by rw [← hh, Bd.state]; rfl
  have N0 := Fr.nil n0
  refine own_go (A := s₁.setTop (mkF m 0 #[.val (.ref st), .unset, .unset, .unset] [])) (fun t_ k_ => castTop (ef_rmName m st) k_) ?_
  refine own_go (A := s₁.setTop (mkF m 1 #[.val (.ref st), .unset, .unset, .unset] [(.ref st)])) (fun t_ k_ => ?_) ?_
  · show Steps p.tables e below (s₁.setTop (mkF m 0 #[.val (.ref st), .unset, .unset, .unset] [])) t_
    refine XS.aloadN X0.here hx rfl (hb hby d10_0) rfl rfl ?_
    exact k_
  obtain ⟨cq1, kq1, q1a, q1b, q1c⟩ := isOf hZ e0 u5
  obtain ⟨_, _, ⟨T1, L1, k1, n1⟩, -, X1, ⟨Lc1, hQ1, l1, y1, z1⟩, st1⟩ := X0.virtualBack hx (y := own_y3) (z := own_y3) hown (mvT hZ (own_w hw 62 rfl)) (mvT hZ (own_w hw 63 rfl)) (notFace_of_selects (args := #[]) (mvT hZ (own_w hw 65 rfl))) (mvT hZ (own_w hw 65 rfl)) (mvT hZ (own_w hw 64 rfl)) (by decide) (backOf (W := 0) (rmEmpty0 l Z a0 hw [] st d k (1 : Int32) [(.int ch)] h0 n0 Z0 u7 u8 (by decide : ¬ ((1 : Int32) = (0 : Int32)))) hZ (own_w hw 66 rfl) (own_w hw 40 rfl) (by decide) (by decide)) q1a q1c (g := (mkF m 1 #[.val (.ref st), .unset, .unset, .unset] [(.ref st)])) rfl (by rw [hml]; rfl) (Steps.refl _) (argsL := []) (rest := []) (lenOf pd_3 rfl) rfl (by show 2 * 0 + _ ≤ _; exact Nat.le_of_eq rfl) (hb hby d10_1) (fun _ _ => ⟨rfl, e0, (by decide : 0 + 0 ≤ _), (by decide : 0 + 0 ≤ _)⟩)
  dsimp only [Pt.U, Pt.locs, Pt.cells, Pt.slots] at X1 l1 y1 z1 st1 hQ1
  subst l1 y1 z1
  obtain ⟨rfl, N1q, eh1⟩ := hQ1
  have N1 := Fr.app N0 N1q
  refine own_via st1 ?_
  refine own_go (A := T1.setTop (mkF m 8 #[.val (.ref st), .unset, .unset, .unset] [(.ref st)])) (fun t_ k_ => ?_) ?_
  · show Steps p.tables e below (T1.setTop (mkF m 4 #[.val (.ref st), .unset, .unset, .unset] [(.int (0 : Int32))])) t_
    refine XS.ifNo X1.here hx rfl (hb hby d10_4) rfl ((if0 _ _).trans (teq (by decide : (0 : Int32) = (0 : Int32))).2) ?_
    show Steps p.tables e below (T1.setTop (mkF m 7 #[.val (.ref st), .unset, .unset, .unset] [])) t_
    refine XS.aloadN X1.here hx rfl (hb hby d10_7) rfl rfl ?_
    exact k_
  obtain ⟨cq2, kq2, q2a, q2b, q2c⟩ := isOf hZ eh1 u5
  obtain ⟨_, _, ⟨T2, L2, k2, n2⟩, -, X2, ⟨Lc2, hQ2, l2, y2, z2⟩, st2⟩ := X1.virtualBack hx (y := own_y2) (z := own_y2) hown (mvT hZ (own_w hw 68 rfl)) (mvT hZ (own_w hw 69 rfl)) (notFace_of_selects (args := #[]) (mvT hZ (own_w hw 71 rfl))) (mvT hZ (own_w hw 71 rfl)) (mvT hZ (own_w hw 70 rfl)) (by decide) (backOf (W := 0) (rmLen l Z a0 hw [] st d k (1 : Int32) [(.int ch)] cs h0 n0 Z0 O0 u1 hcs u5 u6 u7 u8) hZ (own_w hw 72 rfl) (own_w hw 40 rfl) (by decide) (by decide)) q2a q2c (g := (mkF m 8 #[.val (.ref st), .unset, .unset, .unset] [(.ref st)])) rfl (by rw [hml]; rfl) (Steps.refl _) (argsL := []) (rest := []) (lenOf pd_5 rfl) rfl (by show 2 * 0 + _ ≤ _; exact Nat.le_of_eq rfl) (hb hby d10_8) (fun _ _ => ⟨rfl, eh1, (by decide : 0 + 0 ≤ _), (by decide : 0 + 0 ≤ _)⟩)
  dsimp only [Pt.U, Pt.locs, Pt.cells, Pt.slots] at X2 l2 y2 z2 st2 hQ2
  subst l2 y2 z2
  obtain ⟨rfl, N2q, eh2⟩ := hQ2
  have N2 := Fr.app N1 N2q
  refine own_via st2 ?_
  refine own_go (A := T2.setTop (mkF m 30 #[.val (.ref st), .val (.int (0 : Int32)), .unset, .unset] [(.ref st), (.int (0 : Int32))])) (fun t_ k_ => ?_) ?_
  · show Steps p.tables e below (T2.setTop (mkF m 11 #[.val (.ref st), .unset, .unset, .unset] [(.int (1 : Int32))])) t_
    refine XS.bipush X2.here hx rfl (hb hby d10_11) ?_
    show Steps p.tables e below (T2.setTop (mkF m 13 #[.val (.ref st), .unset, .unset, .unset] [(.int (64 : Int32)), (.int (1 : Int32))])) t_
    refine XS.icmpYes X2.here hx rfl (pc0 := 13) (pc' := 26) rfl (hb hby d10_13) rfl (flt (by decide : ¬ ((64 : Int32) < (1 : Int32)))).2.2.2 (by decide) (by decide) ?_
    show Steps p.tables e below (T2.setTop (mkF m 26 #[.val (.ref st), .unset, .unset, .unset] [])) t_
    refine XS.iconst X2.here hx rfl (hb hby d10_26) ?_
    show Steps p.tables e below (T2.setTop (mkF m 27 #[.val (.ref st), .unset, .unset, .unset] [(.int (0 : Int32))])) t_
    refine XS.istoreN X2.here hx rfl (hb hby d10_27) rfl (l' := #[.val (.ref st), .val (.int (0 : Int32)), .unset, .unset]) rfl ?_
    show Steps p.tables e below (T2.setTop (mkF m 28 #[.val (.ref st), .val (.int (0 : Int32)), .unset, .unset] [])) t_
    refine XS.iloadN X2.here hx rfl (hb hby d10_28) rfl ?_
    show Steps p.tables e below (T2.setTop (mkF m 29 #[.val (.ref st), .val (.int (0 : Int32)), .unset, .unset] [(.int (0 : Int32))])) t_
    refine XS.aloadN X2.here hx rfl (hb hby d10_29) rfl rfl ?_
    exact k_
  obtain ⟨cq3, kq3, q3a, q3b, q3c⟩ := isOf hZ eh2 u5
  obtain ⟨_, _, ⟨T3, L3, k3, n3⟩, -, X3, ⟨Lc3, hQ3, l3, y3, z3⟩, st3⟩ := X2.virtualBack hx (y := own_y2) (z := own_y2) hown (mvT hZ (own_w hw 68 rfl)) (mvT hZ (own_w hw 69 rfl)) (notFace_of_selects (args := #[]) (mvT hZ (own_w hw 71 rfl))) (mvT hZ (own_w hw 71 rfl)) (mvT hZ (own_w hw 70 rfl)) (by decide) (backOf (W := 1) (rmLen l Z a0 hw [] st d k (1 : Int32) [(.int ch)] cs h0 n0 Z0 O0 u1 hcs u5 u6 u7 u8) hZ (own_w hw 72 rfl) (own_w hw 40 rfl) (by decide) (by decide)) q3a q3c (g := (mkF m 30 #[.val (.ref st), .val (.int (0 : Int32)), .unset, .unset] [(.ref st), (.int (0 : Int32))])) rfl (by rw [hml]; rfl) (Steps.refl _) (argsL := []) (rest := [(.int (0 : Int32))]) (lenOf pd_5 rfl) rfl (by show 2 * 0 + _ ≤ _; exact Nat.le_of_eq rfl) (hb hby d10_30) (fun _ _ => ⟨rfl, eh2, (by decide : 0 + 0 ≤ _), (by decide : 0 + 0 ≤ _)⟩)
  dsimp only [Pt.U, Pt.locs, Pt.cells, Pt.slots] at X3 l3 y3 z3 st3 hQ3
  subst l3 y3 z3
  obtain ⟨rfl, N3q, eh3⟩ := hQ3
  have N3 := Fr.app N2 N3q
  refine own_via st3 ?_
  refine own_go (A := T3.setTop (mkF m 38 #[.val (.ref st), .val (.int (0 : Int32)), .unset, .unset] [(.int (0 : Int32)), (.ref st)])) (fun t_ k_ => ?_) ?_
  · show Steps p.tables e below (T3.setTop (mkF m 33 #[.val (.ref st), .val (.int (0 : Int32)), .unset, .unset] [(.int (1 : Int32)), (.int (0 : Int32))])) t_
    refine XS.icmpNo X3.here hx rfl (hb hby d10_33) rfl (tlt (by decide : (0 : Int32) < (1 : Int32))).2.1 ?_
    show Steps p.tables e below (T3.setTop (mkF m 36 #[.val (.ref st), .val (.int (0 : Int32)), .unset, .unset] [])) t_
    refine XS.aloadN X3.here hx rfl (hb hby d10_36) rfl rfl ?_
    show Steps p.tables e below (T3.setTop (mkF m 37 #[.val (.ref st), .val (.int (0 : Int32)), .unset, .unset] [(.ref st)])) t_
    refine XS.iloadN X3.here hx rfl (hb hby d10_37) rfl ?_
    exact k_
  obtain ⟨cq4, kq4, q4a, q4b, q4c⟩ := isOf hZ eh3 u5
  obtain ⟨_, _, ⟨T4, L4, k4, n4⟩, -, X4, ⟨Lc4, hQ4, l4, y4, z4⟩, st4⟩ := X3.virtualBack hx (y := own_y7) (z := own_y7) hown (mvT hZ (own_w hw 80 rfl)) (mvT hZ (own_w hw 81 rfl)) (notFace_of_selects (args := #[]) (mvT hZ (own_w hw 83 rfl))) (mvT hZ (own_w hw 83 rfl)) (mvT hZ (own_w hw 82 rfl)) (by decide) (backOf (W := 0) (rmChAt l Z a0 hw [] st (0 : Int32) d k (1 : Int32) [(.int ch)] ch sf cs h0 n0 Z0 O0 u1 hcs u3 hsf u5 u6 u7 u8 (by decide : ¬ ((0 : Int32) < (0 : Int32))) (by decide : (0 : Int32) < (1 : Int32)) rfl) hZ (own_w hw 84 rfl) (own_w hw 40 rfl) (by decide) (by decide)) q4a q4c (g := (mkF m 38 #[.val (.ref st), .val (.int (0 : Int32)), .unset, .unset] [(.int (0 : Int32)), (.ref st)])) rfl (by rw [hml]; rfl) (Steps.refl _) (argsL := [(.int (0 : Int32))]) (rest := []) (lenOf pd_6 rfl) rfl (by show 2 * 0 + _ ≤ _; exact Nat.le_of_eq rfl) (hb hby d10_38) (fun _ _ => ⟨rfl, eh3, (by decide : 0 + 0 ≤ _), (by decide : 0 + 0 ≤ _)⟩)
  dsimp only [Pt.U, Pt.locs, Pt.cells, Pt.slots] at X4 l4 y4 z4 st4 hQ4
  subst l4 y4 z4
  obtain ⟨rfl, N4q, eh4⟩ := hQ4
  have N4 := Fr.app N3 N4q
  refine own_via st4 ?_
  refine own_go (A := T4.setTop (mkF m 30 #[.val (.ref st), .val (.int (1 : Int32)), .val (.int (ch &&& (255 : Int32))), .val (.int (1 : Int32))] [(.ref st), (.int (1 : Int32))])) (fun t_ k_ => ?_) ?_
  · show Steps p.tables e below (T4.setTop (mkF m 41 #[.val (.ref st), .val (.int (0 : Int32)), .unset, .unset] [(.int (ch &&& (255 : Int32)))])) t_
    refine XS.istoreN X4.here hx rfl (hb hby d10_41) rfl (l' := #[.val (.ref st), .val (.int (0 : Int32)), .val (.int (ch &&& (255 : Int32))), .unset]) rfl ?_
    show Steps p.tables e below (T4.setTop (mkF m 42 #[.val (.ref st), .val (.int (0 : Int32)), .val (.int (ch &&& (255 : Int32))), .unset] [])) t_
    refine XS.iloadN X4.here hx rfl (hb hby d10_42) rfl ?_
    show Steps p.tables e below (T4.setTop (mkF m 43 #[.val (.ref st), .val (.int (0 : Int32)), .val (.int (ch &&& (255 : Int32))), .unset] [(.int (ch &&& (255 : Int32)))])) t_
    refine XS.bipush X4.here hx rfl (hb hby d10_43) ?_
    show Steps p.tables e below (T4.setTop (mkF m 45 #[.val (.ref st), .val (.int (0 : Int32)), .val (.int (ch &&& (255 : Int32))), .unset] [(.int (97 : Int32)), (.int (ch &&& (255 : Int32)))])) t_
    refine XS.icmpNo X4.here hx rfl (hb hby d10_45) rfl (flt hch1).1 ?_
    show Steps p.tables e below (T4.setTop (mkF m 48 #[.val (.ref st), .val (.int (0 : Int32)), .val (.int (ch &&& (255 : Int32))), .unset] [])) t_
    refine XS.iloadN X4.here hx rfl (hb hby d10_48) rfl ?_
    show Steps p.tables e below (T4.setTop (mkF m 49 #[.val (.ref st), .val (.int (0 : Int32)), .val (.int (ch &&& (255 : Int32))), .unset] [(.int (ch &&& (255 : Int32)))])) t_
    refine XS.bipush X4.here hx rfl (hb hby d10_49) ?_
    show Steps p.tables e below (T4.setTop (mkF m 51 #[.val (.ref st), .val (.int (0 : Int32)), .val (.int (ch &&& (255 : Int32))), .unset] [(.int (122 : Int32)), (.int (ch &&& (255 : Int32)))])) t_
    refine XS.icmpYes X4.here hx rfl (pc0 := 51) (pc' := 96) rfl (hb hby d10_51) rfl (flt hch2).2.2.2 (by decide) (by decide) ?_
    show Steps p.tables e below (T4.setTop (mkF m 96 #[.val (.ref st), .val (.int (0 : Int32)), .val (.int (ch &&& (255 : Int32))), .unset] [])) t_
    refine XS.iconst X4.here hx rfl (hb hby d10_96) ?_
    show Steps p.tables e below (T4.setTop (mkF m 97 #[.val (.ref st), .val (.int (0 : Int32)), .val (.int (ch &&& (255 : Int32))), .unset] [(.int (1 : Int32))])) t_
    refine XS.goto X4.here hx rfl (pc0 := 97) (pc' := 101) rfl (hb hby d10_97) (by decide) (by decide) ?_
    show Steps p.tables e below (T4.setTop (mkF m 101 #[.val (.ref st), .val (.int (0 : Int32)), .val (.int (ch &&& (255 : Int32))), .unset] [(.int (1 : Int32))])) t_
    refine XS.istoreN X4.here hx rfl (hb hby d10_101) rfl (l' := #[.val (.ref st), .val (.int (0 : Int32)), .val (.int (ch &&& (255 : Int32))), .val (.int (1 : Int32))]) rfl ?_
    show Steps p.tables e below (T4.setTop (mkF m 102 #[.val (.ref st), .val (.int (0 : Int32)), .val (.int (ch &&& (255 : Int32))), .val (.int (1 : Int32))] [])) t_
    refine XS.iloadN X4.here hx rfl (hb hby d10_102) rfl ?_
    show Steps p.tables e below (T4.setTop (mkF m 103 #[.val (.ref st), .val (.int (0 : Int32)), .val (.int (ch &&& (255 : Int32))), .val (.int (1 : Int32))] [(.int (1 : Int32))])) t_
    refine XS.ifYes X4.here hx rfl (pc0 := 103) (pc' := 116) rfl (hb hby d10_103) rfl ((if0 _ _).trans (feq (by decide : ¬ ((1 : Int32) = (0 : Int32)))).2) (by decide) (by decide) ?_
    show Steps p.tables e below (T4.setTop (mkF m 116 #[.val (.ref st), .val (.int (0 : Int32)), .val (.int (ch &&& (255 : Int32))), .val (.int (1 : Int32))] [])) t_
    refine XS.iinc X4.here hx rfl (hb hby d10_116) rfl (l' := #[.val (.ref st), .val (.int (1 : Int32)), .val (.int (ch &&& (255 : Int32))), .val (.int (1 : Int32))]) rfl ?_
    show Steps p.tables e below (T4.setTop (mkF m 119 #[.val (.ref st), .val (.int (1 : Int32)), .val (.int (ch &&& (255 : Int32))), .val (.int (1 : Int32))] [])) t_
    refine XS.goto X4.here hx rfl (pc0 := 119) (pc' := 28) rfl (hb hby d10_119) (by decide) (by decide) ?_
    show Steps p.tables e below (T4.setTop (mkF m 28 #[.val (.ref st), .val (.int (1 : Int32)), .val (.int (ch &&& (255 : Int32))), .val (.int (1 : Int32))] [])) t_
    refine XS.iloadN X4.here hx rfl (hb hby d10_28) rfl ?_
    show Steps p.tables e below (T4.setTop (mkF m 29 #[.val (.ref st), .val (.int (1 : Int32)), .val (.int (ch &&& (255 : Int32))), .val (.int (1 : Int32))] [(.int (1 : Int32))])) t_
    refine XS.aloadN X4.here hx rfl (hb hby d10_29) rfl rfl ?_
    exact k_
  obtain ⟨cq5, kq5, q5a, q5b, q5c⟩ := isOf hZ eh4 u5
  obtain ⟨_, _, ⟨T5, L5, k5, n5⟩, -, X5, ⟨Lc5, hQ5, l5, y5, z5⟩, st5⟩ := X4.virtualBack hx (y := own_y2) (z := own_y2) hown (mvT hZ (own_w hw 68 rfl)) (mvT hZ (own_w hw 69 rfl)) (notFace_of_selects (args := #[]) (mvT hZ (own_w hw 71 rfl))) (mvT hZ (own_w hw 71 rfl)) (mvT hZ (own_w hw 70 rfl)) (by decide) (backOf (W := 1) (rmLen l Z a0 hw [] st d k (1 : Int32) [(.int ch)] cs h0 n0 Z0 O0 u1 hcs u5 u6 u7 u8) hZ (own_w hw 72 rfl) (own_w hw 40 rfl) (by decide) (by decide)) q5a q5c (g := (mkF m 30 #[.val (.ref st), .val (.int (1 : Int32)), .val (.int (ch &&& (255 : Int32))), .val (.int (1 : Int32))] [(.ref st), (.int (1 : Int32))])) rfl (by rw [hml]; rfl) (Steps.refl _) (argsL := []) (rest := [(.int (1 : Int32))]) (lenOf pd_5 rfl) rfl (by show 2 * 0 + _ ≤ _; exact Nat.le_of_eq rfl) (hb hby d10_30) (fun _ _ => ⟨rfl, eh4, (by decide : 0 + 0 ≤ _), (by decide : 0 + 0 ≤ _)⟩)
  dsimp only [Pt.U, Pt.locs, Pt.cells, Pt.slots] at X5 l5 y5 z5 st5 hQ5
  subst l5 y5 z5
  obtain ⟨rfl, N5q, eh5⟩ := hQ5
  have N5 := Fr.app N4 N5q
  refine own_via st5 ?_
  refine own_go (A := T5.setTop (mkF m 122 #[.val (.ref st), .val (.int (1 : Int32)), .val (.int (ch &&& (255 : Int32))), .val (.int (1 : Int32))] [])) (fun t_ k_ => ?_) ?_
  · show Steps p.tables e below (T5.setTop (mkF m 33 #[.val (.ref st), .val (.int (1 : Int32)), .val (.int (ch &&& (255 : Int32))), .val (.int (1 : Int32))] [(.int (1 : Int32)), (.int (1 : Int32))])) t_
    refine XS.icmpYes X5.here hx rfl (pc0 := 33) (pc' := 122) rfl (hb hby d10_33) rfl (flt (by decide : ¬ ((1 : Int32) < (1 : Int32)))).2.1 (by decide) (by decide) ?_
    exact k_
  obtain ⟨fs6, hr6, hrun6, hended6, hW6, hsame6⟩ := X5.leave (v := none) (fun _ => rfl)
  refine ⟨_, _, ?_, hrun6, hended6, _, _, rfl, ?_, ⟨_, rfl⟩, hW6, hsame6.mono (by decide) (by decide)⟩
  · exact X5.returnOut hx Bd.returns (hb hby d10_122) hr6
  · show Q_rmName Z st d k ch cs sf h0 n0 _ T5.heap _
    rw [eh5]
    exact ⟨rfl, N5, rfl⟩
theorem d19_0 : decode prog_18_method_4_code 0 = .ok (.lload_n 1, 1) := by decide +kernel
theorem d19_1 : decode prog_18_method_4_code 1 = .ok (.lconst 1, 1) := by decide +kernel
theorem d19_2 : decode prog_18_method_4_code 2 = .ok (.lcmp, 1) := by decide +kernel
theorem d19_3 : decode prog_18_method_4_code 3 = .ok (.ifCond .lt 11, 3) := by decide +kernel
theorem d19_6 : decode prog_18_method_4_code 6 = .ok (.lload_n 1, 1) := by decide +kernel
theorem d19_7 : decode prog_18_method_4_code 7 = .ok (.ldc2_w 49, 3) := by decide +kernel
theorem d19_10 : decode prog_18_method_4_code 10 = .ok (.lcmp, 1) := by decide +kernel
theorem d19_11 : decode prog_18_method_4_code 11 = .ok (.ifCond .le 18, 3) := by decide +kernel
theorem d19_29 : decode prog_18_method_4_code 29 = .ok (.return_, 1) := by decide +kernel
abbrev own_y13 : MethodName := ⟨"com/example/firmline/firmline/model/Task", "checkTime", "(Ljava/lang/String;J)V"⟩
theorem ef_rmCkT (m : MethodId) (s0 : Addr) (q : Int64) : entryFrame m #[(.ref s0), (.long q)] 3 = mkF m 0 #[.val (.ref s0), .val (.long q), .second] [] := by first | (simp [entryFrame, mkF, argsToLocals, Value.category]; done) | rfl
def Q_rmCkT (Z : State) (s0 : Addr) (q : Int64) (h0 : Heap) (n0 : Nat) (v_ : Option Value) (h_ : Heap) (L_ : List Loc) : Prop := v_ = none ∧ Fr n0 L_ ∧ h_ = h0
set_option maxRecDepth 65536 in
set_option maxHeartbeats 40000000 in
theorem rmCkT (l : Launch) (Z : State) (a0 : Array Value) (hw : ∀ d ∈ tables_1, d.before a0 Z = true) (ws : List Jvm.Cond) (s0 : Addr) (q : Int64) (h0 : Heap) (n0 : Nat) (Z0 : n0 ≤ h0.size) (hq1 : ¬ (q < (1 : Int64))) (hq2 : ¬ ((1000000000000000 : Int64) < q)) :
    MetFree l own_y13 (head1 (Jvm.Cond.code own_y13 prog_18_method_4_code 3 none :: ws) ({ frames := 0, cells := 0, slots := 0, locals := 0 } : Room)) (fun a_ U_ => a_ = #[(.ref s0), (.long q)] ∧ Z.Warmed39 U_.vm ∧ U_.heap = h0) (fun _ _ _ _ _ => True) (fun _ U_ o_ U2_ => ∃ v_ L_, o_ = .returned v_ ∧ Q_rmCkT Z s0 q h0 n0 v_ U2_.heap L_ ∧ FrameEnd U_ o_ U2_ L_ ({ frames := 0, cells := 0, slots := 0, locals := 0 } : Room).cells ({ frames := 0, cells := 0, slots := 0, locals := 0 } : Room).slots) := by
  refine MetFree.of_bodySF (plainFor_of_name pn_5) hisR ?_
  intro p e s m args below meth c s₁ Bd hml0 hP hK
  obtain ⟨rfl, hZ, hh⟩ := hP
  have hx := Bd.exec
  have hby := Bd.bytes
  have hml : c.maxLocals = 3 := hml0
  have hown : s.vm.findClass "com/example/firmline/firmline/model/Task" = some m.cls := findClass_of_methodNamed Bd.named
  have hnm := (name_of_methodNamed Bd.named Bd.method).1
  have X0 : Stand p l e ({ frames := 0, cells := 0, slots := 0, locals := 0 } : Room) s m #[(.ref s0), (.long q)] below meth c s₁ [] 0 0 := Stand.of_body Bd
  have e0 : s₁.heap = h0 := by rw [← hh, Bd.state]; rfl
  have N0 := Fr.nil n0
  refine own_go (A := s₁.setTop (mkF m 0 #[.val (.ref s0), .val (.long q), .second] [])) (fun t_ k_ => castTop (ef_rmCkT m s0 q) k_) ?_
  refine own_go (A := s₁.setTop (mkF m 29 #[.val (.ref s0), .val (.long q), .second] [])) (fun t_ k_ => ?_) ?_
  · show Steps p.tables e below (s₁.setTop (mkF m 0 #[.val (.ref s0), .val (.long q), .second] [])) t_
    refine XS.lloadN X0.here hx rfl (hb hby d19_0) rfl ?_
    show Steps p.tables e below (s₁.setTop (mkF m 1 #[.val (.ref s0), .val (.long q), .second] [(.long q)])) t_
    refine XS.lconst X0.here hx rfl (hb hby d19_1) ?_
    show Steps p.tables e below (s₁.setTop (mkF m 2 #[.val (.ref s0), .val (.long q), .second] [(.long (1 : Int64)), (.long q)])) t_
    refine XS.lcmp X0.here hx rfl (hb hby d19_2) rfl ?_
    show Steps p.tables e below (s₁.setTop (mkF m 3 #[.val (.ref s0), .val (.long q), .second] [(.int (lcmpW q (1 : Int64)))])) t_
    refine XS.ifNo X0.here hx rfl (hb hby d19_3) rfl ((if0 _ _).trans (flt (fun q => hq1 ((lw_lt _ _).mp q))).1) ?_
    show Steps p.tables e below (s₁.setTop (mkF m 6 #[.val (.ref s0), .val (.long q), .second] [])) t_
    refine XS.lloadN X0.here hx rfl (hb hby d19_6) rfl ?_
    show Steps p.tables e below (s₁.setTop (mkF m 7 #[.val (.ref s0), .val (.long q), .second] [(.long q)])) t_
    refine Jvm.Stand.ldc2J X0 hx hown (mvT hZ (own_w hw 106 rfl)) (g := (mkF m 7 #[.val (.ref s0), .val (.long q), .second] [(.long q)])) rfl (hb hby d19_7) ?_
    show Steps p.tables e below (s₁.setTop (mkF m 10 #[.val (.ref s0), .val (.long q), .second] [(.long (1000000000000000 : Int64)), (.long q)])) t_
    refine XS.lcmp X0.here hx rfl (hb hby d19_10) rfl ?_
    show Steps p.tables e below (s₁.setTop (mkF m 11 #[.val (.ref s0), .val (.long q), .second] [(.int (lcmpW q (1000000000000000 : Int64)))])) t_
    refine XS.ifYes X0.here hx rfl (pc0 := 11) (pc' := 29) rfl (hb hby d19_11) rfl ((if0 _ _).trans (flt (fun q => hq2 ((lw_gt _ _).mp q))).2.2.2) (by decide) (by decide) ?_
    exact k_
  obtain ⟨fs1, hr1, hrun1, hended1, hW1, hsame1⟩ := X0.leave (v := none) (fun _ => rfl)
  refine ⟨_, _, ?_, hrun1, hended1, _, _, rfl, ?_, ⟨_, rfl⟩, hW1, hsame1.mono (by decide) (by decide)⟩
  · exact X0.returnOut hx Bd.returns (hb hby d19_29) hr1
  · show Q_rmCkT Z s0 q h0 n0 _ s₁.heap _
    rw [e0]
    exact ⟨rfl, N0, rfl⟩
theorem d20_0 : decode prog_18_method_5_code 0 = .ok (.lload_n 0, 1) := by decide +kernel
theorem d20_1 : decode prog_18_method_5_code 1 = .ok (.lconst 0, 1) := by decide +kernel
theorem d20_2 : decode prog_18_method_5_code 2 = .ok (.lcmp, 1) := by decide +kernel
theorem d20_3 : decode prog_18_method_5_code 3 = .ok (.ifCond .lt 11, 3) := by decide +kernel
theorem d20_6 : decode prog_18_method_5_code 6 = .ok (.lload_n 0, 1) := by decide +kernel
theorem d20_7 : decode prog_18_method_5_code 7 = .ok (.ldc2_w 59, 3) := by decide +kernel
theorem d20_10 : decode prog_18_method_5_code 10 = .ok (.lcmp, 1) := by decide +kernel
theorem d20_11 : decode prog_18_method_5_code 11 = .ok (.ifCond .le 17, 3) := by decide +kernel
theorem d20_28 : decode prog_18_method_5_code 28 = .ok (.return_, 1) := by decide +kernel
abbrev own_y14 : MethodName := ⟨"com/example/firmline/firmline/model/Task", "checkPriority", "(J)V"⟩
theorem ef_rmCkP (m : MethodId) (q : Int64) : entryFrame m #[(.long q)] 2 = mkF m 0 #[.val (.long q), .second] [] := by first | (simp [entryFrame, mkF, argsToLocals, Value.category]; done) | rfl
def Q_rmCkP (Z : State) (q : Int64) (h0 : Heap) (n0 : Nat) (v_ : Option Value) (h_ : Heap) (L_ : List Loc) : Prop := v_ = none ∧ Fr n0 L_ ∧ h_ = h0
set_option maxRecDepth 65536 in
set_option maxHeartbeats 40000000 in
theorem rmCkP (l : Launch) (Z : State) (a0 : Array Value) (hw : ∀ d ∈ tables_1, d.before a0 Z = true) (ws : List Jvm.Cond) (q : Int64) (h0 : Heap) (n0 : Nat) (Z0 : n0 ≤ h0.size) (h1 : ¬ (q < (0 : Int64))) (h2 : ¬ ((1000000000 : Int64) < q)) :
    MetFree l own_y14 (head1 (Jvm.Cond.code own_y14 prog_18_method_5_code 2 none :: ws) ({ frames := 0, cells := 0, slots := 0, locals := 0 } : Room)) (fun a_ U_ => a_ = #[(.long q)] ∧ Z.Warmed39 U_.vm ∧ U_.heap = h0) (fun _ _ _ _ _ => True) (fun _ U_ o_ U2_ => ∃ v_ L_, o_ = .returned v_ ∧ Q_rmCkP Z q h0 n0 v_ U2_.heap L_ ∧ FrameEnd U_ o_ U2_ L_ ({ frames := 0, cells := 0, slots := 0, locals := 0 } : Room).cells ({ frames := 0, cells := 0, slots := 0, locals := 0 } : Room).slots) := by
  refine MetFree.of_bodySF (plainFor_of_name pn_5) hisR ?_
  intro p e s m args below meth c s₁ Bd hml0 hP hK
  obtain ⟨rfl, hZ, hh⟩ := hP
  have hx := Bd.exec
  have hby := Bd.bytes
  have hml : c.maxLocals = 2 := hml0
  have hown : s.vm.findClass "com/example/firmline/firmline/model/Task" = some m.cls := findClass_of_methodNamed Bd.named
  have hnm := (name_of_methodNamed Bd.named Bd.method).1
  have X0 : Stand p l e ({ frames := 0, cells := 0, slots := 0, locals := 0 } : Room) s m #[(.long q)] below meth c s₁ [] 0 0 := Stand.of_body Bd
  have e0 : s₁.heap = h0 := by rw [← hh, Bd.state]; rfl
  have N0 := Fr.nil n0
  refine own_go (A := s₁.setTop (mkF m 0 #[.val (.long q), .second] [])) (fun t_ k_ => castTop (ef_rmCkP m q) k_) ?_
  refine own_go (A := s₁.setTop (mkF m 28 #[.val (.long q), .second] [])) (fun t_ k_ => ?_) ?_
  · show Steps p.tables e below (s₁.setTop (mkF m 0 #[.val (.long q), .second] [])) t_
    refine XS.lloadN X0.here hx rfl (hb hby d20_0) rfl ?_
    show Steps p.tables e below (s₁.setTop (mkF m 1 #[.val (.long q), .second] [(.long q)])) t_
    refine XS.lconst X0.here hx rfl (hb hby d20_1) ?_
    show Steps p.tables e below (s₁.setTop (mkF m 2 #[.val (.long q), .second] [(.long (0 : Int64)), (.long q)])) t_
    refine XS.lcmp X0.here hx rfl (hb hby d20_2) rfl ?_
    show Steps p.tables e below (s₁.setTop (mkF m 3 #[.val (.long q), .second] [(.int (lcmpW q (0 : Int64)))])) t_
    refine XS.ifNo X0.here hx rfl (hb hby d20_3) rfl ((if0 _ _).trans (flt (fun q => h1 ((lw_lt _ _).mp q))).1) ?_
    show Steps p.tables e below (s₁.setTop (mkF m 6 #[.val (.long q), .second] [])) t_
    refine XS.lloadN X0.here hx rfl (hb hby d20_6) rfl ?_
    show Steps p.tables e below (s₁.setTop (mkF m 7 #[.val (.long q), .second] [(.long q)])) t_
    refine Jvm.Stand.ldc2J X0 hx hown (mvT hZ (own_w hw 112 rfl)) (g := (mkF m 7 #[.val (.long q), .second] [(.long q)])) rfl (hb hby d20_7) ?_
    show Steps p.tables e below (s₁.setTop (mkF m 10 #[.val (.long q), .second] [(.long (1000000000 : Int64)), (.long q)])) t_
    refine XS.lcmp X0.here hx rfl (hb hby d20_10) rfl ?_
    show Steps p.tables e below (s₁.setTop (mkF m 11 #[.val (.long q), .second] [(.int (lcmpW q (1000000000 : Int64)))])) t_
    refine XS.ifYes X0.here hx rfl (pc0 := 11) (pc' := 28) rfl (hb hby d20_11) rfl ((if0 _ _).trans (flt (fun q => h2 ((lw_gt _ _).mp q))).2.2.2) (by decide) (by decide) ?_
    exact k_
  obtain ⟨fs1, hr1, hrun1, hended1, hW1, hsame1⟩ := X0.leave (v := none) (fun _ => rfl)
  refine ⟨_, _, ?_, hrun1, hended1, _, _, rfl, ?_, ⟨_, rfl⟩, hW1, hsame1.mono (by decide) (by decide)⟩
  · exact X0.returnOut hx Bd.returns (hb hby d20_28) hr1
  · show Q_rmCkP Z q h0 n0 _ s₁.heap _
    rw [e0]
    exact ⟨rfl, N0, rfl⟩
theorem d8_0 : decode prog_18_method_1_code 0 = .ok (.aload_n 0, 1) := by decide +kernel
theorem pd_7 : parseMethodDescriptor "()V" = some ⟨[], none⟩ := by decide +kernel
theorem d8_1 : decode prog_18_method_1_code 1 = .ok (.invokespecial 1, 3) := by decide +kernel
theorem d8_4 : decode prog_18_method_1_code 4 = .ok (.aload_n 1, 1) := by decide +kernel
theorem pd_8 : parseMethodDescriptor "(Ljava/lang/String;)V" = some ⟨[(.object "java/lang/String")], none⟩ := by decide +kernel
theorem d8_5 : decode prog_18_method_1_code 5 = .ok (.invokestatic 7, 3) := by decide +kernel
theorem d8_8 : decode prog_18_method_1_code 8 = .ok (.ldc 13, 2) := by decide +kernel
theorem d8_10 : decode prog_18_method_1_code 10 = .ok (.lload_n 2, 1) := by decide +kernel
theorem pd_9 : parseMethodDescriptor "(Ljava/lang/String;J)V" = some ⟨[(.object "java/lang/String"), .long], none⟩ := by decide +kernel
theorem d8_11 : decode prog_18_method_1_code 11 = .ok (.invokestatic 15, 3) := by decide +kernel
theorem d8_14 : decode prog_18_method_1_code 14 = .ok (.ldc 19, 2) := by decide +kernel
theorem d8_16 : decode prog_18_method_1_code 16 = .ok (.lload 4, 2) := by decide +kernel
theorem d8_18 : decode prog_18_method_1_code 18 = .ok (.invokestatic 15, 3) := by decide +kernel
theorem d8_21 : decode prog_18_method_1_code 21 = .ok (.ldc 21, 2) := by decide +kernel
theorem d8_23 : decode prog_18_method_1_code 23 = .ok (.lload 6, 2) := by decide +kernel
theorem d8_25 : decode prog_18_method_1_code 25 = .ok (.invokestatic 15, 3) := by decide +kernel
theorem d8_28 : decode prog_18_method_1_code 28 = .ok (.iload 8, 2) := by decide +kernel
theorem d8_30 : decode prog_18_method_1_code 30 = .ok (.i2l, 1) := by decide +kernel
theorem pd_10 : parseMethodDescriptor "(J)V" = some ⟨[.long], none⟩ := by decide +kernel
theorem d8_31 : decode prog_18_method_1_code 31 = .ok (.invokestatic 23, 3) := by decide +kernel
theorem d8_34 : decode prog_18_method_1_code 34 = .ok (.ldc 27, 2) := by decide +kernel
theorem d8_36 : decode prog_18_method_1_code 36 = .ok (.lload 9, 2) := by decide +kernel
theorem d8_38 : decode prog_18_method_1_code 38 = .ok (.invokestatic 15, 3) := by decide +kernel
theorem d8_41 : decode prog_18_method_1_code 41 = .ok (.aload_n 0, 1) := by decide +kernel
theorem d8_42 : decode prog_18_method_1_code 42 = .ok (.aload_n 1, 1) := by decide +kernel
theorem d8_43 : decode prog_18_method_1_code 43 = .ok (.putfield 29, 3) := by decide +kernel
theorem d8_46 : decode prog_18_method_1_code 46 = .ok (.aload_n 0, 1) := by decide +kernel
theorem d8_47 : decode prog_18_method_1_code 47 = .ok (.lload_n 2, 1) := by decide +kernel
theorem d8_48 : decode prog_18_method_1_code 48 = .ok (.putfield 33, 3) := by decide +kernel
theorem d8_51 : decode prog_18_method_1_code 51 = .ok (.aload_n 0, 1) := by decide +kernel
theorem d8_52 : decode prog_18_method_1_code 52 = .ok (.lload 4, 2) := by decide +kernel
theorem d8_54 : decode prog_18_method_1_code 54 = .ok (.putfield 36, 3) := by decide +kernel
theorem d8_57 : decode prog_18_method_1_code 57 = .ok (.aload_n 0, 1) := by decide +kernel
theorem d8_58 : decode prog_18_method_1_code 58 = .ok (.lload 6, 2) := by decide +kernel
theorem d8_60 : decode prog_18_method_1_code 60 = .ok (.putfield 38, 3) := by decide +kernel
theorem d8_63 : decode prog_18_method_1_code 63 = .ok (.aload_n 0, 1) := by decide +kernel
theorem d8_64 : decode prog_18_method_1_code 64 = .ok (.iload 8, 2) := by decide +kernel
theorem d8_66 : decode prog_18_method_1_code 66 = .ok (.putfield 40, 3) := by decide +kernel
theorem d8_69 : decode prog_18_method_1_code 69 = .ok (.aload_n 0, 1) := by decide +kernel
theorem d8_70 : decode prog_18_method_1_code 70 = .ok (.lload 9, 2) := by decide +kernel
theorem d8_72 : decode prog_18_method_1_code 72 = .ok (.putfield 44, 3) := by decide +kernel
theorem d8_75 : decode prog_18_method_1_code 75 = .ok (.return_, 1) := by decide +kernel
abbrev own_y15 : MethodName := ⟨"com/example/firmline/firmline/model/Task", "<init>", "(Ljava/lang/String;JJJIJ)V"⟩
theorem ef_rmTask (m : MethodId) (a : Addr) (st : Addr) (q1 : Int64) : entryFrame m #[(.ref a), (.ref st), (.long q1), (.long (1 : Int64)), (.long (1 : Int64)), (.int (0 : Int32)), (.long (1 : Int64))] 11 = mkF m 0 #[.val (.ref a), .val (.ref st), .val (.long q1), .second, .val (.long (1 : Int64)), .second, .val (.long (1 : Int64)), .second, .val (.int (0 : Int32)), .val (.long (1 : Int64)), .second] [] := by first | (simp [entryFrame, mkF, argsToLocals, Value.category]; done) | rfl
def Q_rmTask (Z : State) (a : Addr) (st : Addr) (q1 : Int64) (d : Addr) (k : ClassId) (ch : Int32) (cs : Int32) (sf : Value) (h0 : Heap) (n0 : Nat) (v_ : Option Value) (h_ : Heap) (L_ : List Loc) : Prop := v_ = none ∧ Fr n0 L_ ∧ Keep h0 h_ [a] ∧ Fld Z h_ a "com/example/firmline/firmline/model/Task" "period" "J" (.long q1)
set_option maxRecDepth 65536 in
set_option maxHeartbeats 40000000 in
theorem rmTask (l : Launch) (Z : State) (a0 : Array Value) (hw : ∀ d ∈ tables_1, d.before a0 Z = true) (ws : List Jvm.Cond) (a : Addr) (st : Addr) (q1 : Int64) (d : Addr) (k : ClassId) (ch : Int32) (cs : Int32) (sf : Value) (h0 : Heap) (n0 : Nat) (Z0 : n0 ≤ h0.size) (O0 : Old Z n0 h0) (u1 : Sta Z Z.heap "java/lang/String" "COMPACT_STRINGS" "Z" (.int cs)) (hcs : ¬ (cs = (0 : Int32))) (u3 : Sta Z Z.heap "jdk/internal/util/Preconditions" "SIOOBE_FORMATTER" "Ljava/util/function/BiFunction;" sf) (hsf : sf.isRef = true) (u5 : Exa Z h0 st "java/lang/String") (u6 : Fld Z h0 st "java/lang/String" "coder" "B" (.int (0 : Int32))) (u7 : Fld Z h0 st "java/lang/String" "value" "[B" (.ref d)) (u8 : Arv Z h0 d k .byte (1 : Int32) [(.int ch)] (.int (0 : Int32))) (hch1 : ¬ ((ch &&& (255 : Int32)) < (97 : Int32))) (hch2 : ¬ ((122 : Int32) < (ch &&& (255 : Int32)))) (u11 : Exa Z h0 a "com/example/firmline/firmline/model/Task") (u12 : Fld Z h0 a "com/example/firmline/firmline/model/Task" "name" "Ljava/lang/String;" .null) (u13 : Fld Z h0 a "com/example/firmline/firmline/model/Task" "period" "J" (.long (0 : Int64))) (u14 : Fld Z h0 a "com/example/firmline/firmline/model/Task" "deadline" "J" (.long (0 : Int64))) (u15 : Fld Z h0 a "com/example/firmline/firmline/model/Task" "cost" "J" (.long (0 : Int64))) (u16 : Fld Z h0 a "com/example/firmline/firmline/model/Task" "priority" "I" (.int (0 : Int32))) (u17 : Fld Z h0 a "com/example/firmline/firmline/model/Task" "recovery" "J" (.long (0 : Int64))) (u18 : n0 ≤ a) (hq11 : ¬ (q1 < (1 : Int64))) (hq12 : ¬ ((1000000000000000 : Int64) < q1)) :
    MetFree l own_y15 (head1 (Jvm.Cond.code own_y15 prog_18_method_1_code 11 none :: ws) ({ frames := 5, cells := 8, slots := 120, locals := 68 } : Room)) (fun a_ U_ => a_ = #[(.ref a), (.ref st), (.long q1), (.long (1 : Int64)), (.long (1 : Int64)), (.int (0 : Int32)), (.long (1 : Int64))] ∧ Z.Warmed39 U_.vm ∧ U_.heap = h0 ∧ CHv Z own_EL U_.vm h0) (fun _ _ _ _ _ => True) (fun _ U_ o_ U2_ => ∃ v_ L_, o_ = .returned v_ ∧ Q_rmTask Z a st q1 d k ch cs sf h0 n0 v_ U2_.heap L_ ∧ CHr Z own_EL U_.vm U_.heap U2_.vm U2_.heap ∧ ReturnedEndW U_ o_ U2_ L_ ({ frames := 5, cells := 8, slots := 120, locals := 68 } : Room).cells ({ frames := 5, cells := 8, slots := 120, locals := 68 } : Room).slots) := by
  refine MetFree.of_bodySF (plainFor_of_name pn_5) hisR ?_
  intro p e s m args below meth c s₁ Bd hml0 hP hK
  obtain ⟨rfl, hZ, hh, hC⟩ := hP
  have hx := Bd.exec
  have hby := Bd.bytes
  have hml : c.maxLocals = 11 := hml0
  have hown : s.vm.findClass "com/example/firmline/firmline/model/Task" = some m.cls := findClass_of_methodNamed Bd.named
  have hnm := (name_of_methodNamed Bd.named Bd.method).1
  have X0 : Stand p l e ({ frames := 5, cells := 8, slots := 120, locals := 68 } : Room) (s.setVm s.vm) m #[(.ref a), (.ref st), (.long q1), (.long (1 : Int64)), (.long (1 : Int64)), (.int (0 : Int32)), (.long (1 : Int64))] below meth c s₁ [] 0 0 := Stand.of_body Bd
  have e0 : s₁.heap = h0 := by rw [← hh, Bd.state]; rfl
  have N0 := Fr.nil n0
  have hS : s.Since s.vm h0.size := (State.WarmedH.refl s).since _
  have hk := Nat.le_refl h0.size
  have hSA := own_strA hw
  have hEL := own_EW hw
  have R0 : CHr Z own_EL s.vm h0 s.vm h0 := CHr.refl hC
  refine own_go (A := s₁.setTop (mkF m 0 #[.val (.ref a), .val (.ref st), .val (.long q1), .second, .val (.long (1 : Int64)), .second, .val (.long (1 : Int64)), .second, .val (.int (0 : Int32)), .val (.long (1 : Int64)), .second] [])) (fun t_ k_ => castTop (ef_rmTask m a st q1) k_) ?_
  refine own_go (A := s₁.setTop (mkF m 1 #[.val (.ref a), .val (.ref st), .val (.long q1), .second, .val (.long (1 : Int64)), .second, .val (.long (1 : Int64)), .second, .val (.int (0 : Int32)), .val (.long (1 : Int64)), .second] [(.ref a)])) (fun t_ k_ => ?_) ?_
  · show Steps p.tables e below (s₁.setTop (mkF m 0 #[.val (.ref a), .val (.ref st), .val (.long q1), .second, .val (.long (1 : Int64)), .second, .val (.long (1 : Int64)), .second, .val (.int (0 : Int32)), .val (.long (1 : Int64)), .second] [])) t_
    refine XS.aloadN X0.here hx rfl (hb hby d8_0) rfl rfl ?_
    exact k_
  obtain ⟨_, _, ⟨T1, L1, k1, n1⟩, -, X1, ⟨Lc1, hQ1, l1, y1, z1⟩, st1⟩ := X0.specialBack hx (y := own_y8) rfl hown (mvT hZ (own_w hw 53 rfl)) (mvT hZ (own_w hw 54 rfl)) (mvT hZ (own_w hw 57 rfl)) (by decide) (backOf (W := 0) (rmRec l Z a0 hw [] a h0 n0 Z0) hZ (own_w hw 57 rfl) (own_w hw 56 rfl) (by decide) (by decide)) (g := (mkF m 1 #[.val (.ref a), .val (.ref st), .val (.long q1), .second, .val (.long (1 : Int64)), .second, .val (.long (1 : Int64)), .second, .val (.int (0 : Int32)), .val (.long (1 : Int64)), .second] [(.ref a)])) rfl (by rw [hml]; rfl) (Steps.refl _) (a := a) (argsL := []) (rest := []) (lenOf pd_7 rfl) rfl (by show 2 * 0 + _ ≤ _; exact Nat.le_of_eq rfl) (hb hby d8_1) (fun _ _ => ⟨rfl, e0, (by decide : 0 + 0 ≤ _), (by decide : 0 + 0 ≤ _)⟩)
  dsimp only [Pt.U, Pt.locs, Pt.cells, Pt.slots] at X1 l1 y1 z1 st1 hQ1
  subst l1 y1 z1
  obtain ⟨rfl, N1q, eh1⟩ := hQ1
  have N1 := Fr.app N0 N1q
  refine own_via st1 ?_
  refine own_go (A := T1.setTop (mkF m 5 #[.val (.ref a), .val (.ref st), .val (.long q1), .second, .val (.long (1 : Int64)), .second, .val (.long (1 : Int64)), .second, .val (.int (0 : Int32)), .val (.long (1 : Int64)), .second] [(.ref st)])) (fun t_ k_ => ?_) ?_
  · show Steps p.tables e below (T1.setTop (mkF m 4 #[.val (.ref a), .val (.ref st), .val (.long q1), .second, .val (.long (1 : Int64)), .second, .val (.long (1 : Int64)), .second, .val (.int (0 : Int32)), .val (.long (1 : Int64)), .second] [])) t_
    refine XS.aloadN X1.here hx rfl (hb hby d8_4) rfl rfl ?_
    exact k_
  obtain ⟨_, _, ⟨T2, L2, k2, n2⟩, -, X2, ⟨Lc2, hQ2, l2, y2, z2⟩, st2⟩ := Jvm.LawKit.callS X1 hx (y := own_y12) hown (mvT hZ (own_w hw 59 rfl)) (mvT hZ (own_w hw 60 rfl)) (mvT hZ (own_w hw 38 rfl)) (mvT hZ (own_w hw 61 rfl)) (by decide) (backOf (W := 0) (rmName l Z a0 hw [] st d k ch cs sf h0 n0 Z0 O0 u1 hcs u3 hsf u5 u6 u7 u8 hch1 hch2) hZ (own_w hw 61 rfl) (own_w hw 38 rfl) (by decide) (by decide)) (g := (mkF m 5 #[.val (.ref a), .val (.ref st), .val (.long q1), .second, .val (.long (1 : Int64)), .second, .val (.long (1 : Int64)), .second, .val (.int (0 : Int32)), .val (.long (1 : Int64)), .second] [(.ref st)])) rfl (by rw [hml]; rfl) (argsL := [(.ref st)]) (rest := []) (lenOf pd_8 rfl) rfl (by show 2 * 0 + _ ≤ _; exact Nat.le_of_eq rfl) (hb hby d8_5) (fun _ _ => ⟨rfl, eh1, (by decide : 0 + 0 ≤ _), (by decide : 0 + 0 ≤ _)⟩)
  dsimp only [Pt.U, Pt.locs, Pt.cells, Pt.slots] at X2 l2 y2 z2 st2 hQ2
  subst l2 y2 z2
  obtain ⟨rfl, N2q, eh2⟩ := hQ2
  have N2 := Fr.app N1 N2q
  refine own_go st2 ?_
  obtain ⟨b3, T3, h3, k3, X3, e3, E3, hS, hk, hZ, hown, r3, -, st3⟩ := ldcOH X2 hx hZ hown (own_w hw 102 rfl) hSA eh2 hS hk hEL R0.1 (g := (mkF m 8 #[.val (.ref a), .val (.ref st), .val (.long q1), .second, .val (.long (1 : Int64)), .second, .val (.long (1 : Int64)), .second, .val (.int (0 : Int32)), .val (.long (1 : Int64)), .second] [])) rfl (hb hby d8_8) (n := 24) (by decide) (by decide) (by decide) (by decide)
  refine own_go st3 ?_
  have K3 : Keep h0 h3 [a] := (Keep.refl h0 [a]).ext E3
  have R3 := R0.trans r3
  have O3 := O0.ext E3
  refine own_go (A := T3.setTop (mkF m 11 #[.val (.ref a), .val (.ref st), .val (.long q1), .second, .val (.long (1 : Int64)), .second, .val (.long (1 : Int64)), .second, .val (.int (0 : Int32)), .val (.long (1 : Int64)), .second] [(.long q1), (.ref b3)])) (fun t_ k_ => ?_) ?_
  · show Steps p.tables e below (T3.setTop (mkF m 10 #[.val (.ref a), .val (.ref st), .val (.long q1), .second, .val (.long (1 : Int64)), .second, .val (.long (1 : Int64)), .second, .val (.int (0 : Int32)), .val (.long (1 : Int64)), .second] [(.ref b3)])) t_
    refine XS.lloadN X3.here hx rfl (hb hby d8_10) rfl ?_
    exact k_
  obtain ⟨_, _, ⟨T4, L4, k4, n4⟩, -, X4, ⟨Lc4, hQ4, l4, y4, z4⟩, st4⟩ := Jvm.LawKit.callS X3 hx (y := own_y13) hown (mvT hZ (own_w hw 103 rfl)) (mvT hZ (own_w hw 104 rfl)) (mvT hZ (own_w hw 38 rfl)) (mvT hZ (own_w hw 105 rfl)) (by decide) (backOf (W := 0) (rmCkT l Z a0 hw [] b3 q1 h3 n0 (Nat.le_trans Z0 K3.1) hq11 hq12) hZ (own_w hw 105 rfl) (own_w hw 38 rfl) (by decide) (by decide)) (g := (mkF m 11 #[.val (.ref a), .val (.ref st), .val (.long q1), .second, .val (.long (1 : Int64)), .second, .val (.long (1 : Int64)), .second, .val (.int (0 : Int32)), .val (.long (1 : Int64)), .second] [(.long q1), (.ref b3)])) rfl (by rw [hml]; rfl) (argsL := [(.ref b3), (.long q1)]) (rest := []) (lenOf pd_9 rfl) rfl (by show 2 * 0 + _ ≤ _; exact Nat.le_of_eq rfl) (hb hby d8_11) (fun _ _ => ⟨rfl, e3, (by decide : 2 + 0 ≤ _), (by decide : 28 + 0 ≤ _)⟩)
  dsimp only [Pt.U, Pt.locs, Pt.cells, Pt.slots] at X4 l4 y4 z4 st4 hQ4
  subst l4 y4 z4
  obtain ⟨rfl, N4q, eh4⟩ := hQ4
  have N4 := Fr.app N2 N4q
  refine own_go st4 ?_
  obtain ⟨b5, T5, h5, k5, X5, e5, E5, hS, hk, hZ, hown, r5, -, st5⟩ := ldcOH X4 hx hZ hown (own_w hw 107 rfl) hSA eh4 hS hk hEL R3.1 (g := (mkF m 14 #[.val (.ref a), .val (.ref st), .val (.long q1), .second, .val (.long (1 : Int64)), .second, .val (.long (1 : Int64)), .second, .val (.int (0 : Int32)), .val (.long (1 : Int64)), .second] [])) rfl (hb hby d8_14) (n := 32) (by decide) (by decide) (by decide) (by decide)
  refine own_go st5 ?_
  have K5 : Keep h0 h5 [a] := K3.ext E5
  have R5 := R3.trans r5
  have O5 := O3.ext E5
  refine own_go (A := T5.setTop (mkF m 18 #[.val (.ref a), .val (.ref st), .val (.long q1), .second, .val (.long (1 : Int64)), .second, .val (.long (1 : Int64)), .second, .val (.int (0 : Int32)), .val (.long (1 : Int64)), .second] [(.long (1 : Int64)), (.ref b5)])) (fun t_ k_ => ?_) ?_
  · show Steps p.tables e below (T5.setTop (mkF m 16 #[.val (.ref a), .val (.ref st), .val (.long q1), .second, .val (.long (1 : Int64)), .second, .val (.long (1 : Int64)), .second, .val (.int (0 : Int32)), .val (.long (1 : Int64)), .second] [(.ref b5)])) t_
    refine XS.lload X5.here hx rfl (hb hby d8_16) rfl ?_
    exact k_
  obtain ⟨_, _, ⟨T6, L6, k6, n6⟩, -, X6, ⟨Lc6, hQ6, l6, y6, z6⟩, st6⟩ := Jvm.LawKit.callS X5 hx (y := own_y13) hown (mvT hZ (own_w hw 103 rfl)) (mvT hZ (own_w hw 104 rfl)) (mvT hZ (own_w hw 38 rfl)) (mvT hZ (own_w hw 105 rfl)) (by decide) (backOf (W := 0) (rmCkT l Z a0 hw [] b5 (1 : Int64) h5 n0 (Nat.le_trans Z0 K5.1) (by decide : ¬ ((1 : Int64) < (1 : Int64))) (by decide : ¬ ((1000000000000000 : Int64) < (1 : Int64)))) hZ (own_w hw 105 rfl) (own_w hw 38 rfl) (by decide) (by decide)) (g := (mkF m 18 #[.val (.ref a), .val (.ref st), .val (.long q1), .second, .val (.long (1 : Int64)), .second, .val (.long (1 : Int64)), .second, .val (.int (0 : Int32)), .val (.long (1 : Int64)), .second] [(.long (1 : Int64)), (.ref b5)])) rfl (by rw [hml]; rfl) (argsL := [(.ref b5), (.long (1 : Int64))]) (rest := []) (lenOf pd_9 rfl) rfl (by show 2 * 0 + _ ≤ _; exact Nat.le_of_eq rfl) (hb hby d8_18) (fun _ _ => ⟨rfl, e5, (by decide : 4 + 0 ≤ _), (by decide : 64 + 0 ≤ _)⟩)
  dsimp only [Pt.U, Pt.locs, Pt.cells, Pt.slots] at X6 l6 y6 z6 st6 hQ6
  subst l6 y6 z6
  obtain ⟨rfl, N6q, eh6⟩ := hQ6
  have N6 := Fr.app N4 N6q
  refine own_go st6 ?_
  obtain ⟨b7, T7, h7, k7, X7, e7, E7, hS, hk, hZ, hown, r7, -, st7⟩ := ldcOH X6 hx hZ hown (own_w hw 108 rfl) hSA eh6 hS hk hEL R5.1 (g := (mkF m 21 #[.val (.ref a), .val (.ref st), .val (.long q1), .second, .val (.long (1 : Int64)), .second, .val (.long (1 : Int64)), .second, .val (.int (0 : Int32)), .val (.long (1 : Int64)), .second] [])) rfl (hb hby d8_21) (n := 16) (by decide) (by decide) (by decide) (by decide)
  refine own_go st7 ?_
  have K7 : Keep h0 h7 [a] := K5.ext E7
  have R7 := R5.trans r7
  have O7 := O5.ext E7
  refine own_go (A := T7.setTop (mkF m 25 #[.val (.ref a), .val (.ref st), .val (.long q1), .second, .val (.long (1 : Int64)), .second, .val (.long (1 : Int64)), .second, .val (.int (0 : Int32)), .val (.long (1 : Int64)), .second] [(.long (1 : Int64)), (.ref b7)])) (fun t_ k_ => ?_) ?_
  · show Steps p.tables e below (T7.setTop (mkF m 23 #[.val (.ref a), .val (.ref st), .val (.long q1), .second, .val (.long (1 : Int64)), .second, .val (.long (1 : Int64)), .second, .val (.int (0 : Int32)), .val (.long (1 : Int64)), .second] [(.ref b7)])) t_
    refine XS.lload X7.here hx rfl (hb hby d8_23) rfl ?_
    exact k_
  obtain ⟨_, _, ⟨T8, L8, k8, n8⟩, -, X8, ⟨Lc8, hQ8, l8, y8, z8⟩, st8⟩ := Jvm.LawKit.callS X7 hx (y := own_y13) hown (mvT hZ (own_w hw 103 rfl)) (mvT hZ (own_w hw 104 rfl)) (mvT hZ (own_w hw 38 rfl)) (mvT hZ (own_w hw 105 rfl)) (by decide) (backOf (W := 0) (rmCkT l Z a0 hw [] b7 (1 : Int64) h7 n0 (Nat.le_trans Z0 K7.1) (by decide : ¬ ((1 : Int64) < (1 : Int64))) (by decide : ¬ ((1000000000000000 : Int64) < (1 : Int64)))) hZ (own_w hw 105 rfl) (own_w hw 38 rfl) (by decide) (by decide)) (g := (mkF m 25 #[.val (.ref a), .val (.ref st), .val (.long q1), .second, .val (.long (1 : Int64)), .second, .val (.long (1 : Int64)), .second, .val (.int (0 : Int32)), .val (.long (1 : Int64)), .second] [(.long (1 : Int64)), (.ref b7)])) rfl (by rw [hml]; rfl) (argsL := [(.ref b7), (.long (1 : Int64))]) (rest := []) (lenOf pd_9 rfl) rfl (by show 2 * 0 + _ ≤ _; exact Nat.le_of_eq rfl) (hb hby d8_25) (fun _ _ => ⟨rfl, e7, (by decide : 6 + 0 ≤ _), (by decide : 84 + 0 ≤ _)⟩)
  dsimp only [Pt.U, Pt.locs, Pt.cells, Pt.slots] at X8 l8 y8 z8 st8 hQ8
  subst l8 y8 z8
  obtain ⟨rfl, N8q, eh8⟩ := hQ8
  have N8 := Fr.app N6 N8q
  refine own_go st8 ?_
  refine own_go (A := T8.setTop (mkF m 31 #[.val (.ref a), .val (.ref st), .val (.long q1), .second, .val (.long (1 : Int64)), .second, .val (.long (1 : Int64)), .second, .val (.int (0 : Int32)), .val (.long (1 : Int64)), .second] [(.long ((0 : Int32)).toInt64)])) (fun t_ k_ => ?_) ?_
  · show Steps p.tables e below (T8.setTop (mkF m 28 #[.val (.ref a), .val (.ref st), .val (.long q1), .second, .val (.long (1 : Int64)), .second, .val (.long (1 : Int64)), .second, .val (.int (0 : Int32)), .val (.long (1 : Int64)), .second] [])) t_
    refine XS.iload X8.here hx rfl (hb hby d8_28) rfl ?_
    show Steps p.tables e below (T8.setTop (mkF m 30 #[.val (.ref a), .val (.ref st), .val (.long q1), .second, .val (.long (1 : Int64)), .second, .val (.long (1 : Int64)), .second, .val (.int (0 : Int32)), .val (.long (1 : Int64)), .second] [(.int (0 : Int32))])) t_
    refine XS.i2l X8.here hx rfl (hb hby d8_30) rfl ?_
    exact k_
  obtain ⟨_, _, ⟨T9, L9, k9, n9⟩, -, X9, ⟨Lc9, hQ9, l9, y9, z9⟩, st9⟩ := Jvm.LawKit.callS X8 hx (y := own_y14) hown (mvT hZ (own_w hw 109 rfl)) (mvT hZ (own_w hw 110 rfl)) (mvT hZ (own_w hw 38 rfl)) (mvT hZ (own_w hw 111 rfl)) (by decide) (backOf (W := 0) (rmCkP l Z a0 hw [] (((0 : Int32)).toInt64) h7 n0 (Nat.le_trans Z0 K7.1) (by decide : ¬ (((0 : Int32)).toInt64 < (0 : Int64))) (by decide : ¬ ((1000000000 : Int64) < ((0 : Int32)).toInt64))) hZ (own_w hw 111 rfl) (own_w hw 38 rfl) (by decide) (by decide)) (g := (mkF m 31 #[.val (.ref a), .val (.ref st), .val (.long q1), .second, .val (.long (1 : Int64)), .second, .val (.long (1 : Int64)), .second, .val (.int (0 : Int32)), .val (.long (1 : Int64)), .second] [(.long ((0 : Int32)).toInt64)])) rfl (by rw [hml]; rfl) (argsL := [(.long ((0 : Int32)).toInt64)]) (rest := []) (lenOf pd_10 rfl) rfl (by show 2 * 0 + _ ≤ _; exact Nat.le_of_eq rfl) (hb hby d8_31) (fun _ _ => ⟨rfl, eh8, (by decide : 6 + 0 ≤ _), (by decide : 84 + 0 ≤ _)⟩)
  dsimp only [Pt.U, Pt.locs, Pt.cells, Pt.slots] at X9 l9 y9 z9 st9 hQ9
  subst l9 y9 z9
  obtain ⟨rfl, N9q, eh9⟩ := hQ9
  have N9 := Fr.app N8 N9q
  refine own_go st9 ?_
  obtain ⟨b10, T10, h10, k10, X10, e10, E10, hS, hk, hZ, hown, r10, -, st10⟩ := ldcOH X9 hx hZ hown (own_w hw 113 rfl) hSA eh9 hS hk hEL R7.1 (g := (mkF m 34 #[.val (.ref a), .val (.ref st), .val (.long q1), .second, .val (.long (1 : Int64)), .second, .val (.long (1 : Int64)), .second, .val (.int (0 : Int32)), .val (.long (1 : Int64)), .second] [])) rfl (hb hby d8_34) (n := 32) (by decide) (by decide) (by decide) (by decide)
  refine own_go st10 ?_
  have K10 : Keep h0 h10 [a] := K7.ext E10
  have R10 := R7.trans r10
  have O10 := O7.ext E10
  refine own_go (A := T10.setTop (mkF m 38 #[.val (.ref a), .val (.ref st), .val (.long q1), .second, .val (.long (1 : Int64)), .second, .val (.long (1 : Int64)), .second, .val (.int (0 : Int32)), .val (.long (1 : Int64)), .second] [(.long (1 : Int64)), (.ref b10)])) (fun t_ k_ => ?_) ?_
  · show Steps p.tables e below (T10.setTop (mkF m 36 #[.val (.ref a), .val (.ref st), .val (.long q1), .second, .val (.long (1 : Int64)), .second, .val (.long (1 : Int64)), .second, .val (.int (0 : Int32)), .val (.long (1 : Int64)), .second] [(.ref b10)])) t_
    refine XS.lload X10.here hx rfl (hb hby d8_36) rfl ?_
    exact k_
  obtain ⟨_, _, ⟨T11, L11, k11, n11⟩, -, X11, ⟨Lc11, hQ11, l11, y11, z11⟩, st11⟩ := Jvm.LawKit.callS X10 hx (y := own_y13) hown (mvT hZ (own_w hw 103 rfl)) (mvT hZ (own_w hw 104 rfl)) (mvT hZ (own_w hw 38 rfl)) (mvT hZ (own_w hw 105 rfl)) (by decide) (backOf (W := 0) (rmCkT l Z a0 hw [] b10 (1 : Int64) h10 n0 (Nat.le_trans Z0 K10.1) (by decide : ¬ ((1 : Int64) < (1 : Int64))) (by decide : ¬ ((1000000000000000 : Int64) < (1 : Int64)))) hZ (own_w hw 105 rfl) (own_w hw 38 rfl) (by decide) (by decide)) (g := (mkF m 38 #[.val (.ref a), .val (.ref st), .val (.long q1), .second, .val (.long (1 : Int64)), .second, .val (.long (1 : Int64)), .second, .val (.int (0 : Int32)), .val (.long (1 : Int64)), .second] [(.long (1 : Int64)), (.ref b10)])) rfl (by rw [hml]; rfl) (argsL := [(.ref b10), (.long (1 : Int64))]) (rest := []) (lenOf pd_9 rfl) rfl (by show 2 * 0 + _ ≤ _; exact Nat.le_of_eq rfl) (hb hby d8_38) (fun _ _ => ⟨rfl, e10, (by decide : 8 + 0 ≤ _), (by decide : 120 + 0 ≤ _)⟩)
  dsimp only [Pt.U, Pt.locs, Pt.cells, Pt.slots] at X11 l11 y11 z11 st11 hQ11
  subst l11 y11 z11
  obtain ⟨rfl, N11q, eh11⟩ := hQ11
  have N11 := Fr.app N9 N11q
  refine own_go st11 ?_
  refine own_go (A := T11.setTop (mkF m 43 #[.val (.ref a), .val (.ref st), .val (.long q1), .second, .val (.long (1 : Int64)), .second, .val (.long (1 : Int64)), .second, .val (.int (0 : Int32)), .val (.long (1 : Int64)), .second] [(.ref st), (.ref a)])) (fun t_ k_ => ?_) ?_
  · show Steps p.tables e below (T11.setTop (mkF m 41 #[.val (.ref a), .val (.ref st), .val (.long q1), .second, .val (.long (1 : Int64)), .second, .val (.long (1 : Int64)), .second, .val (.int (0 : Int32)), .val (.long (1 : Int64)), .second] [])) t_
    refine XS.aloadN X11.here hx rfl (hb hby d8_41) rfl rfl ?_
    show Steps p.tables e below (T11.setTop (mkF m 42 #[.val (.ref a), .val (.ref st), .val (.long q1), .second, .val (.long (1 : Int64)), .second, .val (.long (1 : Int64)), .second, .val (.int (0 : Int32)), .val (.long (1 : Int64)), .second] [(.ref a)])) t_
    refine XS.aloadN X11.here hx rfl (hb hby d8_42) rfl rfl ?_
    exact k_
  obtain ⟨T12, h12, X12, e12, W12, st12⟩ := putF X11 hx hZ hown (host := "") (Or.inl (own_w hw 114 rfl)) Via.refl eh11 ((((u12.ext E3).ext E5).ext E7).ext E10) ((((u11.ext E3).ext E5).ext E7).ext E10) (Or.inr ⟨(own_w hw 115 rfl), rfl, hnm⟩) (own_w hw 37 rfl) (ty := (.object "java/lang/String")) (by decide) rfl rfl (g := (mkF m 43 #[.val (.ref a), .val (.ref st), .val (.long q1), .second, .val (.long (1 : Int64)), .second, .val (.long (1 : Int64)), .second, .val (.int (0 : Int32)), .val (.long (1 : Int64)), .second] [(.ref st), (.ref a)])) rfl rfl (hb hby d8_43)
  have Fw12 : Fld Z h12 a "com/example/firmline/firmline/model/Task" "name" "Ljava/lang/String;" (.ref st) := ((((u12.ext E3).ext E5).ext E7).ext E10).same W12
  refine own_go st12 ?_
  have K12 : Keep h0 h12 [a] := K10.wr W12 (Or.inl (List.mem_of_getElem? (i := 0) rfl))
  have r12 := CHr.wr W12 (Safe.exa hZ.alike ((((u11.ext E3).ext E5).ext E7).ext E10) (by decide) (by decide)) R10.1
  have R12 := R10.trans r12
  have hk := Nat.le_trans hk (Keep.of_wr W12).1
  have O12 := O10.wr W12 u18
  have N12 := Fr.snoc X12 N11 u18
  refine own_go (A := T12.setTop (mkF m 48 #[.val (.ref a), .val (.ref st), .val (.long q1), .second, .val (.long (1 : Int64)), .second, .val (.long (1 : Int64)), .second, .val (.int (0 : Int32)), .val (.long (1 : Int64)), .second] [(.long q1), (.ref a)])) (fun t_ k_ => ?_) ?_
  · show Steps p.tables e below (T12.setTop (mkF m 46 #[.val (.ref a), .val (.ref st), .val (.long q1), .second, .val (.long (1 : Int64)), .second, .val (.long (1 : Int64)), .second, .val (.int (0 : Int32)), .val (.long (1 : Int64)), .second] [])) t_
    refine XS.aloadN X12.here hx rfl (hb hby d8_46) rfl rfl ?_
    show Steps p.tables e below (T12.setTop (mkF m 47 #[.val (.ref a), .val (.ref st), .val (.long q1), .second, .val (.long (1 : Int64)), .second, .val (.long (1 : Int64)), .second, .val (.int (0 : Int32)), .val (.long (1 : Int64)), .second] [(.ref a)])) t_
    refine XS.lloadN X12.here hx rfl (hb hby d8_47) rfl ?_
    exact k_
  obtain ⟨T13, h13, X13, e13, W13, st13⟩ := putF X12 hx hZ hown (host := "") (Or.inl (own_w hw 116 rfl)) Via.refl e12 (((((u13.ext E3).ext E5).ext E7).ext E10).other W12 (Or.inr (slot_ne (Or.inr (own_w hw 117 rfl)) (Or.inr (own_w hw 115 rfl)) (by decide) (t := .long) (t' := (.object "java/lang/String")) (by decide) (by decide)))) (((((u11.ext E3).ext E5).ext E7).ext E10).wr W12) (Or.inr ⟨(own_w hw 117 rfl), rfl, hnm⟩) (own_w hw 37 rfl) (ty := .long) (by decide) rfl rfl (g := (mkF m 48 #[.val (.ref a), .val (.ref st), .val (.long q1), .second, .val (.long (1 : Int64)), .second, .val (.long (1 : Int64)), .second, .val (.int (0 : Int32)), .val (.long (1 : Int64)), .second] [(.long q1), (.ref a)])) rfl rfl (hb hby d8_48)
  have Fw13 : Fld Z h13 a "com/example/firmline/firmline/model/Task" "period" "J" (.long q1) := (((((u13.ext E3).ext E5).ext E7).ext E10).other W12 (Or.inr (slot_ne (Or.inr (own_w hw 117 rfl)) (Or.inr (own_w hw 115 rfl)) (by decide) (t := .long) (t' := (.object "java/lang/String")) (by decide) (by decide)))).same W13
  refine own_go st13 ?_
  have K13 : Keep h0 h13 [a] := K12.wr W13 (Or.inl (List.mem_of_getElem? (i := 0) rfl))
  have r13 := CHr.wr W13 (Safe.exa hZ.alike (((((u11.ext E3).ext E5).ext E7).ext E10).wr W12) (by decide) (by decide)) R12.1
  have R13 := R12.trans r13
  have hk := Nat.le_trans hk (Keep.of_wr W13).1
  have O13 := O12.wr W13 u18
  have N13 := Fr.snoc X13 N12 u18
  refine own_go (A := T13.setTop (mkF m 54 #[.val (.ref a), .val (.ref st), .val (.long q1), .second, .val (.long (1 : Int64)), .second, .val (.long (1 : Int64)), .second, .val (.int (0 : Int32)), .val (.long (1 : Int64)), .second] [(.long (1 : Int64)), (.ref a)])) (fun t_ k_ => ?_) ?_
  · show Steps p.tables e below (T13.setTop (mkF m 51 #[.val (.ref a), .val (.ref st), .val (.long q1), .second, .val (.long (1 : Int64)), .second, .val (.long (1 : Int64)), .second, .val (.int (0 : Int32)), .val (.long (1 : Int64)), .second] [])) t_
    refine XS.aloadN X13.here hx rfl (hb hby d8_51) rfl rfl ?_
    show Steps p.tables e below (T13.setTop (mkF m 52 #[.val (.ref a), .val (.ref st), .val (.long q1), .second, .val (.long (1 : Int64)), .second, .val (.long (1 : Int64)), .second, .val (.int (0 : Int32)), .val (.long (1 : Int64)), .second] [(.ref a)])) t_
    refine XS.lload X13.here hx rfl (hb hby d8_52) rfl ?_
    exact k_
  obtain ⟨T14, h14, X14, e14, W14, st14⟩ := putF X13 hx hZ hown (host := "") (Or.inl (own_w hw 118 rfl)) Via.refl e13 ((((((u14.ext E3).ext E5).ext E7).ext E10).other W12 (Or.inr (slot_ne (Or.inr (own_w hw 119 rfl)) (Or.inr (own_w hw 115 rfl)) (by decide) (t := .long) (t' := (.object "java/lang/String")) (by decide) (by decide)))).other W13 (Or.inr (slot_ne (Or.inr (own_w hw 119 rfl)) (Or.inr (own_w hw 117 rfl)) (by decide) (t := .long) (t' := .long) (by decide) (by decide)))) ((((((u11.ext E3).ext E5).ext E7).ext E10).wr W12).wr W13) (Or.inr ⟨(own_w hw 119 rfl), rfl, hnm⟩) (own_w hw 37 rfl) (ty := .long) (by decide) rfl rfl (g := (mkF m 54 #[.val (.ref a), .val (.ref st), .val (.long q1), .second, .val (.long (1 : Int64)), .second, .val (.long (1 : Int64)), .second, .val (.int (0 : Int32)), .val (.long (1 : Int64)), .second] [(.long (1 : Int64)), (.ref a)])) rfl rfl (hb hby d8_54)
  have Fw14 : Fld Z h14 a "com/example/firmline/firmline/model/Task" "deadline" "J" (.long (1 : Int64)) := ((((((u14.ext E3).ext E5).ext E7).ext E10).other W12 (Or.inr (slot_ne (Or.inr (own_w hw 119 rfl)) (Or.inr (own_w hw 115 rfl)) (by decide) (t := .long) (t' := (.object "java/lang/String")) (by decide) (by decide)))).other W13 (Or.inr (slot_ne (Or.inr (own_w hw 119 rfl)) (Or.inr (own_w hw 117 rfl)) (by decide) (t := .long) (t' := .long) (by decide) (by decide)))).same W14
  refine own_go st14 ?_
  have K14 : Keep h0 h14 [a] := K13.wr W14 (Or.inl (List.mem_of_getElem? (i := 0) rfl))
  have r14 := CHr.wr W14 (Safe.exa hZ.alike ((((((u11.ext E3).ext E5).ext E7).ext E10).wr W12).wr W13) (by decide) (by decide)) R13.1
  have R14 := R13.trans r14
  have hk := Nat.le_trans hk (Keep.of_wr W14).1
  have O14 := O13.wr W14 u18
  have N14 := Fr.snoc X14 N13 u18
  refine own_go (A := T14.setTop (mkF m 60 #[.val (.ref a), .val (.ref st), .val (.long q1), .second, .val (.long (1 : Int64)), .second, .val (.long (1 : Int64)), .second, .val (.int (0 : Int32)), .val (.long (1 : Int64)), .second] [(.long (1 : Int64)), (.ref a)])) (fun t_ k_ => ?_) ?_
  · show Steps p.tables e below (T14.setTop (mkF m 57 #[.val (.ref a), .val (.ref st), .val (.long q1), .second, .val (.long (1 : Int64)), .second, .val (.long (1 : Int64)), .second, .val (.int (0 : Int32)), .val (.long (1 : Int64)), .second] [])) t_
    refine XS.aloadN X14.here hx rfl (hb hby d8_57) rfl rfl ?_
    show Steps p.tables e below (T14.setTop (mkF m 58 #[.val (.ref a), .val (.ref st), .val (.long q1), .second, .val (.long (1 : Int64)), .second, .val (.long (1 : Int64)), .second, .val (.int (0 : Int32)), .val (.long (1 : Int64)), .second] [(.ref a)])) t_
    refine XS.lload X14.here hx rfl (hb hby d8_58) rfl ?_
    exact k_
  obtain ⟨T15, h15, X15, e15, W15, st15⟩ := putF X14 hx hZ hown (host := "") (Or.inl (own_w hw 120 rfl)) Via.refl e14 (((((((u15.ext E3).ext E5).ext E7).ext E10).other W12 (Or.inr (slot_ne (Or.inr (own_w hw 121 rfl)) (Or.inr (own_w hw 115 rfl)) (by decide) (t := .long) (t' := (.object "java/lang/String")) (by decide) (by decide)))).other W13 (Or.inr (slot_ne (Or.inr (own_w hw 121 rfl)) (Or.inr (own_w hw 117 rfl)) (by decide) (t := .long) (t' := .long) (by decide) (by decide)))).other W14 (Or.inr (slot_ne (Or.inr (own_w hw 121 rfl)) (Or.inr (own_w hw 119 rfl)) (by decide) (t := .long) (t' := .long) (by decide) (by decide)))) (((((((u11.ext E3).ext E5).ext E7).ext E10).wr W12).wr W13).wr W14) (Or.inr ⟨(own_w hw 121 rfl), rfl, hnm⟩) (own_w hw 37 rfl) (ty := .long) (by decide) rfl rfl (g := (mkF m 60 #[.val (.ref a), .val (.ref st), .val (.long q1), .second, .val (.long (1 : Int64)), .second, .val (.long (1 : Int64)), .second, .val (.int (0 : Int32)), .val (.long (1 : Int64)), .second] [(.long (1 : Int64)), (.ref a)])) rfl rfl (hb hby d8_60)
  have Fw15 : Fld Z h15 a "com/example/firmline/firmline/model/Task" "cost" "J" (.long (1 : Int64)) := (((((((u15.ext E3).ext E5).ext E7).ext E10).other W12 (Or.inr (slot_ne (Or.inr (own_w hw 121 rfl)) (Or.inr (own_w hw 115 rfl)) (by decide) (t := .long) (t' := (.object "java/lang/String")) (by decide) (by decide)))).other W13 (Or.inr (slot_ne (Or.inr (own_w hw 121 rfl)) (Or.inr (own_w hw 117 rfl)) (by decide) (t := .long) (t' := .long) (by decide) (by decide)))).other W14 (Or.inr (slot_ne (Or.inr (own_w hw 121 rfl)) (Or.inr (own_w hw 119 rfl)) (by decide) (t := .long) (t' := .long) (by decide) (by decide)))).same W15
  refine own_go st15 ?_
  have K15 : Keep h0 h15 [a] := K14.wr W15 (Or.inl (List.mem_of_getElem? (i := 0) rfl))
  have r15 := CHr.wr W15 (Safe.exa hZ.alike (((((((u11.ext E3).ext E5).ext E7).ext E10).wr W12).wr W13).wr W14) (by decide) (by decide)) R14.1
  have R15 := R14.trans r15
  have hk := Nat.le_trans hk (Keep.of_wr W15).1
  have O15 := O14.wr W15 u18
  have N15 := Fr.snoc X15 N14 u18
  refine own_go (A := T15.setTop (mkF m 66 #[.val (.ref a), .val (.ref st), .val (.long q1), .second, .val (.long (1 : Int64)), .second, .val (.long (1 : Int64)), .second, .val (.int (0 : Int32)), .val (.long (1 : Int64)), .second] [(.int (0 : Int32)), (.ref a)])) (fun t_ k_ => ?_) ?_
  · show Steps p.tables e below (T15.setTop (mkF m 63 #[.val (.ref a), .val (.ref st), .val (.long q1), .second, .val (.long (1 : Int64)), .second, .val (.long (1 : Int64)), .second, .val (.int (0 : Int32)), .val (.long (1 : Int64)), .second] [])) t_
    refine XS.aloadN X15.here hx rfl (hb hby d8_63) rfl rfl ?_
    show Steps p.tables e below (T15.setTop (mkF m 64 #[.val (.ref a), .val (.ref st), .val (.long q1), .second, .val (.long (1 : Int64)), .second, .val (.long (1 : Int64)), .second, .val (.int (0 : Int32)), .val (.long (1 : Int64)), .second] [(.ref a)])) t_
    refine XS.iload X15.here hx rfl (hb hby d8_64) rfl ?_
    exact k_
  obtain ⟨T16, h16, X16, e16, W16, st16⟩ := putF X15 hx hZ hown (host := "") (Or.inl (own_w hw 122 rfl)) Via.refl e15 ((((((((u16.ext E3).ext E5).ext E7).ext E10).other W12 (Or.inr (slot_ne (Or.inr (own_w hw 123 rfl)) (Or.inr (own_w hw 115 rfl)) (by decide) (t := .int) (t' := (.object "java/lang/String")) (by decide) (by decide)))).other W13 (Or.inr (slot_ne (Or.inr (own_w hw 123 rfl)) (Or.inr (own_w hw 117 rfl)) (by decide) (t := .int) (t' := .long) (by decide) (by decide)))).other W14 (Or.inr (slot_ne (Or.inr (own_w hw 123 rfl)) (Or.inr (own_w hw 119 rfl)) (by decide) (t := .int) (t' := .long) (by decide) (by decide)))).other W15 (Or.inr (slot_ne (Or.inr (own_w hw 123 rfl)) (Or.inr (own_w hw 121 rfl)) (by decide) (t := .int) (t' := .long) (by decide) (by decide)))) ((((((((u11.ext E3).ext E5).ext E7).ext E10).wr W12).wr W13).wr W14).wr W15) (Or.inr ⟨(own_w hw 123 rfl), rfl, hnm⟩) (own_w hw 37 rfl) (ty := .int) (by decide) rfl rfl (g := (mkF m 66 #[.val (.ref a), .val (.ref st), .val (.long q1), .second, .val (.long (1 : Int64)), .second, .val (.long (1 : Int64)), .second, .val (.int (0 : Int32)), .val (.long (1 : Int64)), .second] [(.int (0 : Int32)), (.ref a)])) rfl rfl (hb hby d8_66)
  have Fw16 : Fld Z h16 a "com/example/firmline/firmline/model/Task" "priority" "I" (.int (0 : Int32)) := ((((((((u16.ext E3).ext E5).ext E7).ext E10).other W12 (Or.inr (slot_ne (Or.inr (own_w hw 123 rfl)) (Or.inr (own_w hw 115 rfl)) (by decide) (t := .int) (t' := (.object "java/lang/String")) (by decide) (by decide)))).other W13 (Or.inr (slot_ne (Or.inr (own_w hw 123 rfl)) (Or.inr (own_w hw 117 rfl)) (by decide) (t := .int) (t' := .long) (by decide) (by decide)))).other W14 (Or.inr (slot_ne (Or.inr (own_w hw 123 rfl)) (Or.inr (own_w hw 119 rfl)) (by decide) (t := .int) (t' := .long) (by decide) (by decide)))).other W15 (Or.inr (slot_ne (Or.inr (own_w hw 123 rfl)) (Or.inr (own_w hw 121 rfl)) (by decide) (t := .int) (t' := .long) (by decide) (by decide)))).same W16
  refine own_go st16 ?_
  have K16 : Keep h0 h16 [a] := K15.wr W16 (Or.inl (List.mem_of_getElem? (i := 0) rfl))
  have r16 := CHr.wr W16 (Safe.exa hZ.alike ((((((((u11.ext E3).ext E5).ext E7).ext E10).wr W12).wr W13).wr W14).wr W15) (by decide) (by decide)) R15.1
  have R16 := R15.trans r16
  have hk := Nat.le_trans hk (Keep.of_wr W16).1
  have O16 := O15.wr W16 u18
  have N16 := Fr.snoc X16 N15 u18
  refine own_go (A := T16.setTop (mkF m 72 #[.val (.ref a), .val (.ref st), .val (.long q1), .second, .val (.long (1 : Int64)), .second, .val (.long (1 : Int64)), .second, .val (.int (0 : Int32)), .val (.long (1 : Int64)), .second] [(.long (1 : Int64)), (.ref a)])) (fun t_ k_ => ?_) ?_
  · show Steps p.tables e below (T16.setTop (mkF m 69 #[.val (.ref a), .val (.ref st), .val (.long q1), .second, .val (.long (1 : Int64)), .second, .val (.long (1 : Int64)), .second, .val (.int (0 : Int32)), .val (.long (1 : Int64)), .second] [])) t_
    refine XS.aloadN X16.here hx rfl (hb hby d8_69) rfl rfl ?_
    show Steps p.tables e below (T16.setTop (mkF m 70 #[.val (.ref a), .val (.ref st), .val (.long q1), .second, .val (.long (1 : Int64)), .second, .val (.long (1 : Int64)), .second, .val (.int (0 : Int32)), .val (.long (1 : Int64)), .second] [(.ref a)])) t_
    refine XS.lload X16.here hx rfl (hb hby d8_70) rfl ?_
    exact k_
  obtain ⟨T17, h17, X17, e17, W17, st17⟩ := putF X16 hx hZ hown (host := "") (Or.inl (own_w hw 124 rfl)) Via.refl e16 (((((((((u17.ext E3).ext E5).ext E7).ext E10).other W12 (Or.inr (slot_ne (Or.inr (own_w hw 125 rfl)) (Or.inr (own_w hw 115 rfl)) (by decide) (t := .long) (t' := (.object "java/lang/String")) (by decide) (by decide)))).other W13 (Or.inr (slot_ne (Or.inr (own_w hw 125 rfl)) (Or.inr (own_w hw 117 rfl)) (by decide) (t := .long) (t' := .long) (by decide) (by decide)))).other W14 (Or.inr (slot_ne (Or.inr (own_w hw 125 rfl)) (Or.inr (own_w hw 119 rfl)) (by decide) (t := .long) (t' := .long) (by decide) (by decide)))).other W15 (Or.inr (slot_ne (Or.inr (own_w hw 125 rfl)) (Or.inr (own_w hw 121 rfl)) (by decide) (t := .long) (t' := .long) (by decide) (by decide)))).other W16 (Or.inr (slot_ne (Or.inr (own_w hw 125 rfl)) (Or.inr (own_w hw 123 rfl)) (by decide) (t := .long) (t' := .int) (by decide) (by decide)))) (((((((((u11.ext E3).ext E5).ext E7).ext E10).wr W12).wr W13).wr W14).wr W15).wr W16) (Or.inr ⟨(own_w hw 125 rfl), rfl, hnm⟩) (own_w hw 37 rfl) (ty := .long) (by decide) rfl rfl (g := (mkF m 72 #[.val (.ref a), .val (.ref st), .val (.long q1), .second, .val (.long (1 : Int64)), .second, .val (.long (1 : Int64)), .second, .val (.int (0 : Int32)), .val (.long (1 : Int64)), .second] [(.long (1 : Int64)), (.ref a)])) rfl rfl (hb hby d8_72)
  have Fw17 : Fld Z h17 a "com/example/firmline/firmline/model/Task" "recovery" "J" (.long (1 : Int64)) := (((((((((u17.ext E3).ext E5).ext E7).ext E10).other W12 (Or.inr (slot_ne (Or.inr (own_w hw 125 rfl)) (Or.inr (own_w hw 115 rfl)) (by decide) (t := .long) (t' := (.object "java/lang/String")) (by decide) (by decide)))).other W13 (Or.inr (slot_ne (Or.inr (own_w hw 125 rfl)) (Or.inr (own_w hw 117 rfl)) (by decide) (t := .long) (t' := .long) (by decide) (by decide)))).other W14 (Or.inr (slot_ne (Or.inr (own_w hw 125 rfl)) (Or.inr (own_w hw 119 rfl)) (by decide) (t := .long) (t' := .long) (by decide) (by decide)))).other W15 (Or.inr (slot_ne (Or.inr (own_w hw 125 rfl)) (Or.inr (own_w hw 121 rfl)) (by decide) (t := .long) (t' := .long) (by decide) (by decide)))).other W16 (Or.inr (slot_ne (Or.inr (own_w hw 125 rfl)) (Or.inr (own_w hw 123 rfl)) (by decide) (t := .long) (t' := .int) (by decide) (by decide)))).same W17
  refine own_go st17 ?_
  have K17 : Keep h0 h17 [a] := K16.wr W17 (Or.inl (List.mem_of_getElem? (i := 0) rfl))
  have r17 := CHr.wr W17 (Safe.exa hZ.alike (((((((((u11.ext E3).ext E5).ext E7).ext E10).wr W12).wr W13).wr W14).wr W15).wr W16) (by decide) (by decide)) R16.1
  have R17 := R16.trans r17
  have hk := Nat.le_trans hk (Keep.of_wr W17).1
  have O17 := O16.wr W17 u18
  have N17 := Fr.snoc X17 N16 u18
  obtain ⟨fs18, hr18, hrun18, hended18, hRW18⟩ := X17.leaveW hS (by rw [e17]; exact hk) (v := none) (fun _ => rfl)
  refine ⟨_, _, ?_, hrun18, hended18, _, _, rfl, ?_, ?_, hRW18.1, hRW18.2.1, hRW18.2.2.1, hRW18.2.2.2.mono (by decide) (by decide)⟩
  · exact X17.returnOut hx Bd.returns (hb hby d8_75) hr18
  · show Q_rmTask Z a st q1 d k ch cs sf h0 n0 _ T17.heap _
    rw [e17]
    exact ⟨rfl, N17, K17, ((((Fw13.other W14 (Or.inr (slot_ne (Or.inr (own_w hw 117 rfl)) (Or.inr (own_w hw 119 rfl)) (by decide) (t := .long) (t' := .long) (by decide) (by decide)))).other W15 (Or.inr (slot_ne (Or.inr (own_w hw 117 rfl)) (Or.inr (own_w hw 121 rfl)) (by decide) (t := .long) (t' := .long) (by decide) (by decide)))).other W16 (Or.inr (slot_ne (Or.inr (own_w hw 117 rfl)) (Or.inr (own_w hw 123 rfl)) (by decide) (t := .long) (t' := .int) (by decide) (by decide)))).other W17 (Or.inr (slot_ne (Or.inr (own_w hw 117 rfl)) (Or.inr (own_w hw 125 rfl)) (by decide) (t := .long) (t' := .long) (by decide) (by decide))))⟩
  · show CHr Z own_EL s.vm s.heap T17.vm T17.heap
    rw [hh, e17]
    exact R17.trans (CHv.at X17 hZ hEL R17.1)
theorem d7_0 : decode prog_18_method_2_code 0 = .ok (.aload_n 0, 1) := by decide +kernel
theorem d7_1 : decode prog_18_method_2_code 1 = .ok (.aload_n 1, 1) := by decide +kernel
theorem d7_2 : decode prog_18_method_2_code 2 = .ok (.lload_n 2, 1) := by decide +kernel
theorem d7_3 : decode prog_18_method_2_code 3 = .ok (.lload 4, 2) := by decide +kernel
theorem d7_5 : decode prog_18_method_2_code 5 = .ok (.lload 6, 2) := by decide +kernel
theorem d7_7 : decode prog_18_method_2_code 7 = .ok (.iload 8, 2) := by decide +kernel
theorem d7_9 : decode prog_18_method_2_code 9 = .ok (.lload 6, 2) := by decide +kernel
theorem pd_11 : parseMethodDescriptor "(Ljava/lang/String;JJJIJ)V" = some ⟨[(.object "java/lang/String"), .long, .long, .long, .int, .long], none⟩ := by decide +kernel
theorem d7_11 : decode prog_18_method_2_code 11 = .ok (.invokespecial 46, 3) := by decide +kernel
theorem d7_14 : decode prog_18_method_2_code 14 = .ok (.return_, 1) := by decide +kernel
abbrev own_y16 : MethodName := ⟨"com/example/firmline/firmline/model/Task", "<init>", "(Ljava/lang/String;JJJI)V"⟩
theorem ef_rmTask5 (m : MethodId) (a : Addr) (st : Addr) (q1 : Int64) : entryFrame m #[(.ref a), (.ref st), (.long q1), (.long (1 : Int64)), (.long (1 : Int64)), (.int (0 : Int32))] 9 = mkF m 0 #[.val (.ref a), .val (.ref st), .val (.long q1), .second, .val (.long (1 : Int64)), .second, .val (.long (1 : Int64)), .second, .val (.int (0 : Int32))] [] := by first | (simp [entryFrame, mkF, argsToLocals, Value.category]; done) | rfl
def Q_rmTask5 (Z : State) (a : Addr) (st : Addr) (q1 : Int64) (d : Addr) (k : ClassId) (ch : Int32) (cs : Int32) (sf : Value) (h0 : Heap) (n0 : Nat) (v_ : Option Value) (h_ : Heap) (L_ : List Loc) : Prop := v_ = none ∧ Fr n0 L_ ∧ Keep h0 h_ [a] ∧ Fld Z h_ a "com/example/firmline/firmline/model/Task" "period" "J" (.long q1)
set_option maxRecDepth 65536 in
set_option maxHeartbeats 40000000 in
theorem rmTask5 (l : Launch) (Z : State) (a0 : Array Value) (hw : ∀ d ∈ tables_1, d.before a0 Z = true) (ws : List Jvm.Cond) (a : Addr) (st : Addr) (q1 : Int64) (d : Addr) (k : ClassId) (ch : Int32) (cs : Int32) (sf : Value) (h0 : Heap) (n0 : Nat) (Z0 : n0 ≤ h0.size) (O0 : Old Z n0 h0) (u1 : Sta Z Z.heap "java/lang/String" "COMPACT_STRINGS" "Z" (.int cs)) (hcs : ¬ (cs = (0 : Int32))) (u3 : Sta Z Z.heap "jdk/internal/util/Preconditions" "SIOOBE_FORMATTER" "Ljava/util/function/BiFunction;" sf) (hsf : sf.isRef = true) (u5 : Exa Z h0 st "java/lang/String") (u6 : Fld Z h0 st "java/lang/String" "coder" "B" (.int (0 : Int32))) (u7 : Fld Z h0 st "java/lang/String" "value" "[B" (.ref d)) (u8 : Arv Z h0 d k .byte (1 : Int32) [(.int ch)] (.int (0 : Int32))) (hch1 : ¬ ((ch &&& (255 : Int32)) < (97 : Int32))) (hch2 : ¬ ((122 : Int32) < (ch &&& (255 : Int32)))) (u11 : Exa Z h0 a "com/example/firmline/firmline/model/Task") (u12 : Fld Z h0 a "com/example/firmline/firmline/model/Task" "name" "Ljava/lang/String;" .null) (u13 : Fld Z h0 a "com/example/firmline/firmline/model/Task" "period" "J" (.long (0 : Int64))) (u14 : Fld Z h0 a "com/example/firmline/firmline/model/Task" "deadline" "J" (.long (0 : Int64))) (u15 : Fld Z h0 a "com/example/firmline/firmline/model/Task" "cost" "J" (.long (0 : Int64))) (u16 : Fld Z h0 a "com/example/firmline/firmline/model/Task" "priority" "I" (.int (0 : Int32))) (u17 : Fld Z h0 a "com/example/firmline/firmline/model/Task" "recovery" "J" (.long (0 : Int64))) (u18 : n0 ≤ a) (hq11 : ¬ (q1 < (1 : Int64))) (hq12 : ¬ ((1000000000000000 : Int64) < q1)) :
    MetFree l own_y16 (head1 (Jvm.Cond.code own_y16 prog_18_method_2_code 9 none :: ws) ({ frames := 6, cells := 8, slots := 120, locals := 90 } : Room)) (fun a_ U_ => a_ = #[(.ref a), (.ref st), (.long q1), (.long (1 : Int64)), (.long (1 : Int64)), (.int (0 : Int32))] ∧ Z.Warmed39 U_.vm ∧ U_.heap = h0 ∧ CHv Z own_EL U_.vm h0) (fun _ _ _ _ _ => True) (fun _ U_ o_ U2_ => ∃ v_ L_, o_ = .returned v_ ∧ Q_rmTask5 Z a st q1 d k ch cs sf h0 n0 v_ U2_.heap L_ ∧ CHr Z own_EL U_.vm U_.heap U2_.vm U2_.heap ∧ ReturnedEndW U_ o_ U2_ L_ ({ frames := 6, cells := 8, slots := 120, locals := 90 } : Room).cells ({ frames := 6, cells := 8, slots := 120, locals := 90 } : Room).slots) := by
  refine MetFree.of_bodySF (plainFor_of_name pn_5) hisR ?_
  intro p e s m args below meth c s₁ Bd hml0 hP hK
  obtain ⟨rfl, hZ, hh, hC⟩ := hP
  have hx := Bd.exec
  have hby := Bd.bytes
  have hml : c.maxLocals = 9 := hml0
  have hown : s.vm.findClass "com/example/firmline/firmline/model/Task" = some m.cls := findClass_of_methodNamed Bd.named
  have hnm := (name_of_methodNamed Bd.named Bd.method).1
  have X0 : Stand p l e ({ frames := 6, cells := 8, slots := 120, locals := 90 } : Room) (s.setVm s.vm) m #[(.ref a), (.ref st), (.long q1), (.long (1 : Int64)), (.long (1 : Int64)), (.int (0 : Int32))] below meth c s₁ [] 0 0 := Stand.of_body Bd
  have e0 : s₁.heap = h0 := by rw [← hh, Bd.state]; rfl
  have N0 := Fr.nil n0
  have hS : s.Since s.vm h0.size := (State.WarmedH.refl s).since _
  have hk := Nat.le_refl h0.size
  have hSA := own_strA hw
  have hEL := own_EW hw
  have R0 : CHr Z own_EL s.vm h0 s.vm h0 := CHr.refl hC
  refine own_go (A := s₁.setTop (mkF m 0 #[.val (.ref a), .val (.ref st), .val (.long q1), .second, .val (.long (1 : Int64)), .second, .val (.long (1 : Int64)), .second, .val (.int (0 : Int32))] [])) (fun t_ k_ => castTop (ef_rmTask5 m a st q1) k_) ?_
  refine own_go (A := s₁.setTop (mkF m 11 #[.val (.ref a), .val (.ref st), .val (.long q1), .second, .val (.long (1 : Int64)), .second, .val (.long (1 : Int64)), .second, .val (.int (0 : Int32))] [(.long (1 : Int64)), (.int (0 : Int32)), (.long (1 : Int64)), (.long (1 : Int64)), (.long q1), (.ref st), (.ref a)])) (fun t_ k_ => ?_) ?_
  · show Steps p.tables e below (s₁.setTop (mkF m 0 #[.val (.ref a), .val (.ref st), .val (.long q1), .second, .val (.long (1 : Int64)), .second, .val (.long (1 : Int64)), .second, .val (.int (0 : Int32))] [])) t_
    refine XS.aloadN X0.here hx rfl (hb hby d7_0) rfl rfl ?_
    show Steps p.tables e below (s₁.setTop (mkF m 1 #[.val (.ref a), .val (.ref st), .val (.long q1), .second, .val (.long (1 : Int64)), .second, .val (.long (1 : Int64)), .second, .val (.int (0 : Int32))] [(.ref a)])) t_
    refine XS.aloadN X0.here hx rfl (hb hby d7_1) rfl rfl ?_
    show Steps p.tables e below (s₁.setTop (mkF m 2 #[.val (.ref a), .val (.ref st), .val (.long q1), .second, .val (.long (1 : Int64)), .second, .val (.long (1 : Int64)), .second, .val (.int (0 : Int32))] [(.ref st), (.ref a)])) t_
    refine XS.lloadN X0.here hx rfl (hb hby d7_2) rfl ?_
    show Steps p.tables e below (s₁.setTop (mkF m 3 #[.val (.ref a), .val (.ref st), .val (.long q1), .second, .val (.long (1 : Int64)), .second, .val (.long (1 : Int64)), .second, .val (.int (0 : Int32))] [(.long q1), (.ref st), (.ref a)])) t_
    refine XS.lload X0.here hx rfl (hb hby d7_3) rfl ?_
    show Steps p.tables e below (s₁.setTop (mkF m 5 #[.val (.ref a), .val (.ref st), .val (.long q1), .second, .val (.long (1 : Int64)), .second, .val (.long (1 : Int64)), .second, .val (.int (0 : Int32))] [(.long (1 : Int64)), (.long q1), (.ref st), (.ref a)])) t_
    refine XS.lload X0.here hx rfl (hb hby d7_5) rfl ?_
    show Steps p.tables e below (s₁.setTop (mkF m 7 #[.val (.ref a), .val (.ref st), .val (.long q1), .second, .val (.long (1 : Int64)), .second, .val (.long (1 : Int64)), .second, .val (.int (0 : Int32))] [(.long (1 : Int64)), (.long (1 : Int64)), (.long q1), (.ref st), (.ref a)])) t_
    refine XS.iload X0.here hx rfl (hb hby d7_7) rfl ?_
    show Steps p.tables e below (s₁.setTop (mkF m 9 #[.val (.ref a), .val (.ref st), .val (.long q1), .second, .val (.long (1 : Int64)), .second, .val (.long (1 : Int64)), .second, .val (.int (0 : Int32))] [(.int (0 : Int32)), (.long (1 : Int64)), (.long (1 : Int64)), (.long q1), (.ref st), (.ref a)])) t_
    refine XS.lload X0.here hx rfl (hb hby d7_9) rfl ?_
    exact k_
  obtain ⟨_, _, ⟨T1, L1, k1, n1⟩, -, X1, hs1, gs1, ⟨Lc1, hQ1, l1, y1, z1, r1⟩, st1⟩ := X0.specialBackS hx (y := own_y15) rfl hown (mvT hZ (own_w hw 50 rfl)) (mvT hZ (own_w hw 51 rfl)) (mvT hZ (own_w hw 52 rfl)) (by decide) (backOfSH (W := 0) (rmTask l Z a0 hw [] a st q1 d k ch cs sf h0 n0 Z0 O0 u1 hcs u3 hsf u5 u6 u7 u8 hch1 hch2 u11 u12 u13 u14 u15 u16 u17 u18 hq11 hq12) hZ (own_w hw 52 rfl) (own_w hw 38 rfl) (by decide) (by decide) hEL R0.1) (g := (mkF m 11 #[.val (.ref a), .val (.ref st), .val (.long q1), .second, .val (.long (1 : Int64)), .second, .val (.long (1 : Int64)), .second, .val (.int (0 : Int32))] [(.long (1 : Int64)), (.int (0 : Int32)), (.long (1 : Int64)), (.long (1 : Int64)), (.long q1), (.ref st), (.ref a)])) rfl (by rw [hml]; rfl) (Steps.refl _) (a := a) (argsL := [(.ref st), (.long q1), (.long (1 : Int64)), (.long (1 : Int64)), (.int (0 : Int32)), (.long (1 : Int64))]) (rest := []) (lenOf pd_11 rfl) rfl (by show 2 * 0 + _ ≤ _; exact Nat.le_of_eq rfl) (hb hby d7_11) (fun _ _ => ⟨rfl, e0, (by decide : 0 + 8 ≤ _), (by decide : 0 + 120 ≤ _)⟩)
  dsimp only [Pt.U, Pt.locs, Pt.cells, Pt.slots] at X1 l1 y1 z1 st1 hQ1 hs1 gs1 r1
  subst l1 y1 z1
  obtain ⟨X1, hS, hZ, hown⟩ := rebS hS (by rw [e0]; exact hk) X1 hs1 gs1 hZ hown
  obtain ⟨rfl, N1q, Kc1, r1_0⟩ := hQ1
  have N1 := Fr.app N0 N1q
  refine own_via st1 ?_
  have hk := Nat.le_refl T1.heap.size
  have K1 : Keep h0 T1.heap [a] := (Keep.refl h0 [a]).trans Kc1 (allS (P := fun x => x ∈ _ ∨ _ ≤ x) (Or.inl (List.mem_of_getElem? (i := 0) rfl)) all0)
  have R1 := R0.trans r1
  have O1 := O0.keep Kc1 (allS (P := fun x => n0 ≤ x) u18 all0)
  obtain ⟨fs2, hr2, hrun2, hended2, hRW2⟩ := X1.leaveW hS hk (v := none) (fun _ => rfl)
  refine ⟨_, _, ?_, hrun2, hended2, _, _, rfl, ?_, ?_, hRW2.1, hRW2.2.1, hRW2.2.2.1, hRW2.2.2.2.mono (by decide) (by decide)⟩
  · exact X1.returnOut hx Bd.returns (hb hby d7_14) hr2
  · show Q_rmTask5 Z a st q1 d k ch cs sf h0 n0 _ T1.heap _
    exact ⟨rfl, N1, K1, r1_0⟩
  · show CHr Z own_EL s.vm s.heap T1.vm T1.heap
    rw [hh]
    exact R1.trans (CHv.at X1 hZ hEL R1.1)
theorem d5_0 : decode jdk_22_method_1_code 0 = .ok (.aload_n 0, 1) := by decide +kernel
theorem d5_1 : decode jdk_22_method_1_code 1 = .ok (.invokespecial 1, 3) := by decide +kernel
theorem d5_4 : decode jdk_22_method_1_code 4 = .ok (.return_, 1) := by decide +kernel
abbrev own_y17 : MethodName := ⟨"java/util/AbstractCollection", "<init>", "()V"⟩
theorem ef_rmABC (m : MethodId) (a : Addr) : entryFrame m #[(.ref a)] 1 = mkF m 0 #[.val (.ref a)] [] := by first | (simp [entryFrame, mkF, argsToLocals, Value.category]; done) | rfl
def Q_rmABC (Z : State) (a : Addr) (h0 : Heap) (n0 : Nat) (v_ : Option Value) (h_ : Heap) (L_ : List Loc) : Prop := v_ = none ∧ Fr n0 L_ ∧ h_ = h0
theorem pn_6 : plainName "java/util/AbstractCollection" = true := by first | (simp [plainName, overriddenIn]; done) | decide +kernel
set_option maxRecDepth 65536 in
set_option maxHeartbeats 40000000 in
theorem rmABC (l : Launch) (Z : State) (a0 : Array Value) (hw : ∀ d ∈ tables_1, d.before a0 Z = true) (ws : List Jvm.Cond) (a : Addr) (h0 : Heap) (n0 : Nat) (Z0 : n0 ≤ h0.size)  :
    MetFree l own_y17 (head1 (Jvm.Cond.code own_y17 jdk_22_method_1_code 1 none :: ws) ({ frames := 1, cells := 0, slots := 0, locals := 12 } : Room)) (fun a_ U_ => a_ = #[(.ref a)] ∧ Z.Warmed39 U_.vm ∧ U_.heap = h0) (fun _ _ _ _ _ => True) (fun _ U_ o_ U2_ => ∃ v_ L_, o_ = .returned v_ ∧ Q_rmABC Z a h0 n0 v_ U2_.heap L_ ∧ FrameEnd U_ o_ U2_ L_ ({ frames := 1, cells := 0, slots := 0, locals := 12 } : Room).cells ({ frames := 1, cells := 0, slots := 0, locals := 12 } : Room).slots) := by
  refine MetFree.of_bodySF (plainFor_of_name pn_6) hisR ?_
  intro p e s m args below meth c s₁ Bd hml0 hP hK
  obtain ⟨rfl, hZ, hh⟩ := hP
  have hx := Bd.exec
  have hby := Bd.bytes
  have hml : c.maxLocals = 1 := hml0
  have hown : s.vm.findClass "java/util/AbstractCollection" = some m.cls := findClass_of_methodNamed Bd.named
  have hnm := (name_of_methodNamed Bd.named Bd.method).1
  have X0 : Stand p l e ({ frames := 1, cells := 0, slots := 0, locals := 12 } : Room) s m #[(.ref a)] below meth c s₁ [] 0 0 := Stand.of_body Bd
  have e0 : s₁.heap = h0 := by rw [← hh, Bd.state]; rfl
  have N0 := Fr.nil n0
  refine own_go (A := s₁.setTop (mkF m 0 #[.val (.ref a)] [])) (fun t_ k_ => castTop (ef_rmABC m a) k_) ?_
  refine own_go (A := s₁.setTop (mkF m 1 #[.val (.ref a)] [(.ref a)])) (fun t_ k_ => ?_) ?_
  · show Steps p.tables e below (s₁.setTop (mkF m 0 #[.val (.ref a)] [])) t_
    refine XS.aloadN X0.here hx rfl (hb hby d5_0) rfl rfl ?_
    exact k_
  obtain ⟨T1, X1, e1, st1⟩ := initO X0 hx hZ hown (own_w hw 28 rfl) (own_w hw 29 rfl) (own_w hw 30 rfl) e0 (g := (mkF m 1 #[.val (.ref a)] [(.ref a)])) rfl (by rw [hml]; rfl) rfl (hb hby d5_1) (by decide) (W := 0) (by show 2 * 0 + _ ≤ _; exact Nat.le_of_eq rfl) (by decide)
  refine own_go st1 ?_
  obtain ⟨fs2, hr2, hrun2, hended2, hW2, hsame2⟩ := X1.leave (v := none) (fun _ => rfl)
  refine ⟨_, _, ?_, hrun2, hended2, _, _, rfl, ?_, ⟨_, rfl⟩, hW2, hsame2.mono (by decide) (by decide)⟩
  · exact X1.returnOut hx Bd.returns (hb hby d5_4) hr2
  · show Q_rmABC Z a h0 n0 _ T1.heap _
    rw [e1]
    exact ⟨rfl, N0, rfl⟩
theorem d4_0 : decode jdk_39_method_1_code 0 = .ok (.aload_n 0, 1) := by decide +kernel
theorem d4_1 : decode jdk_39_method_1_code 1 = .ok (.invokespecial 1, 3) := by decide +kernel
theorem d4_4 : decode jdk_39_method_1_code 4 = .ok (.aload_n 0, 1) := by decide +kernel
theorem d4_5 : decode jdk_39_method_1_code 5 = .ok (.iconst 0, 1) := by decide +kernel
theorem d4_6 : decode jdk_39_method_1_code 6 = .ok (.putfield 7, 3) := by decide +kernel
theorem d4_9 : decode jdk_39_method_1_code 9 = .ok (.return_, 1) := by decide +kernel
abbrev own_y18 : MethodName := ⟨"java/util/AbstractList", "<init>", "()V"⟩
theorem ef_rmABL (m : MethodId) (a : Addr) : entryFrame m #[(.ref a)] 1 = mkF m 0 #[.val (.ref a)] [] := by first | (simp [entryFrame, mkF, argsToLocals, Value.category]; done) | rfl
def Q_rmABL (Z : State) (a : Addr) (h0 : Heap) (n0 : Nat) (v_ : Option Value) (h_ : Heap) (L_ : List Loc) : Prop := v_ = none ∧ Fr n0 L_ ∧ Keep h0 h_ [a] ∧ Fld Z h_ a "java/util/ArrayList" "elementData" "[Ljava/lang/Object;" .null ∧ Fld Z h_ a "java/util/ArrayList" "size" "I" (.int (0 : Int32)) ∧ Fld Z h_ a "java/util/AbstractList" "modCount" "I" (.int (0 : Int32))
theorem pn_7 : plainName "java/util/AbstractList" = true := by first | (simp [plainName, overriddenIn]; done) | decide +kernel
set_option maxRecDepth 65536 in
set_option maxHeartbeats 40000000 in
theorem rmABL (l : Launch) (Z : State) (a0 : Array Value) (hw : ∀ d ∈ tables_1, d.before a0 Z = true) (ws : List Jvm.Cond) (a : Addr) (h0 : Heap) (n0 : Nat) (Z0 : n0 ≤ h0.size) (u0 : Exa Z h0 a "java/util/ArrayList") (u1 : Fld Z h0 a "java/util/ArrayList" "elementData" "[Ljava/lang/Object;" .null) (u2 : Fld Z h0 a "java/util/ArrayList" "size" "I" (.int (0 : Int32))) (u3 : Fld Z h0 a "java/util/AbstractList" "modCount" "I" (.int (0 : Int32))) (u4 : n0 ≤ a) :
    MetFree l own_y18 (head1 (Jvm.Cond.code own_y18 jdk_39_method_1_code 1 none :: ws) ({ frames := 2, cells := 0, slots := 0, locals := 24 } : Room)) (fun a_ U_ => a_ = #[(.ref a)] ∧ Z.Warmed39 U_.vm ∧ U_.heap = h0) (fun _ _ _ _ _ => True) (fun _ U_ o_ U2_ => ∃ v_ L_, o_ = .returned v_ ∧ Q_rmABL Z a h0 n0 v_ U2_.heap L_ ∧ FrameEnd U_ o_ U2_ L_ ({ frames := 2, cells := 0, slots := 0, locals := 24 } : Room).cells ({ frames := 2, cells := 0, slots := 0, locals := 24 } : Room).slots) := by
  refine MetFree.of_bodySF (plainFor_of_name pn_7) hisR ?_
  intro p e s m args below meth c s₁ Bd hml0 hP hK
  obtain ⟨rfl, hZ, hh⟩ := hP
  have hx := Bd.exec
  have hby := Bd.bytes
  have hml : c.maxLocals = 1 := hml0
  have hown : s.vm.findClass "java/util/AbstractList" = some m.cls := findClass_of_methodNamed Bd.named
  have hnm := (name_of_methodNamed Bd.named Bd.method).1
  have X0 : Stand p l e ({ frames := 2, cells := 0, slots := 0, locals := 24 } : Room) s m #[(.ref a)] below meth c s₁ [] 0 0 := Stand.of_body Bd
  have e0 : s₁.heap = h0 := by rw [← hh, Bd.state]; rfl
  have N0 := Fr.nil n0
  refine own_go (A := s₁.setTop (mkF m 0 #[.val (.ref a)] [])) (fun t_ k_ => castTop (ef_rmABL m a) k_) ?_
  refine own_go (A := s₁.setTop (mkF m 1 #[.val (.ref a)] [(.ref a)])) (fun t_ k_ => ?_) ?_
  · show Steps p.tables e below (s₁.setTop (mkF m 0 #[.val (.ref a)] [])) t_
    refine XS.aloadN X0.here hx rfl (hb hby d4_0) rfl rfl ?_
    exact k_
  obtain ⟨_, _, ⟨T1, L1, k1, n1⟩, -, X1, ⟨Lc1, hQ1, l1, y1, z1⟩, st1⟩ := X0.specialBack hx (y := own_y17) rfl hown (mvT hZ (own_w hw 22 rfl)) (mvT hZ (own_w hw 23 rfl)) (mvT hZ (own_w hw 27 rfl)) (by decide) (backOf (W := 0) (rmABC l Z a0 hw [] a h0 n0 Z0) hZ (own_w hw 27 rfl) (own_w hw 26 rfl) (by decide) (by decide)) (g := (mkF m 1 #[.val (.ref a)] [(.ref a)])) rfl (by rw [hml]; rfl) (Steps.refl _) (a := a) (argsL := []) (rest := []) (lenOf pd_7 rfl) rfl (by show 2 * 0 + _ ≤ _; exact Nat.le_of_eq rfl) (hb hby d4_1) (fun _ _ => ⟨rfl, e0, (by decide : 0 + 0 ≤ _), (by decide : 0 + 0 ≤ _)⟩)
  dsimp only [Pt.U, Pt.locs, Pt.cells, Pt.slots] at X1 l1 y1 z1 st1 hQ1
  subst l1 y1 z1
  obtain ⟨rfl, N1q, eh1⟩ := hQ1
  have N1 := Fr.app N0 N1q
  refine own_via st1 ?_
  refine own_go (A := T1.setTop (mkF m 6 #[.val (.ref a)] [(.int (0 : Int32)), (.ref a)])) (fun t_ k_ => ?_) ?_
  · show Steps p.tables e below (T1.setTop (mkF m 4 #[.val (.ref a)] [])) t_
    refine XS.aloadN X1.here hx rfl (hb hby d4_4) rfl rfl ?_
    show Steps p.tables e below (T1.setTop (mkF m 5 #[.val (.ref a)] [(.ref a)])) t_
    refine XS.iconst X1.here hx rfl (hb hby d4_5) ?_
    exact k_
  obtain ⟨T2, h2, X2, e2, W2, st2⟩ := putF X1 hx hZ hown (host := "") (Or.inl (own_w hw 31 rfl)) Via.refl eh1 u3 u0 (Or.inl (own_w hw 32 rfl)) (own_w hw 11 rfl) (ty := .int) (by decide) rfl rfl (g := (mkF m 6 #[.val (.ref a)] [(.int (0 : Int32)), (.ref a)])) rfl rfl (hb hby d4_6)
  have Fw2 : Fld Z h2 a "java/util/AbstractList" "modCount" "I" (.int (0 : Int32)) := u3.same W2
  refine own_go st2 ?_
  have K2 : Keep h0 h2 [a] := (Keep.refl h0 [a]).wr W2 (Or.inl (List.mem_of_getElem? (i := 0) rfl))
  have N2 := Fr.snoc X2 N1 u4
  obtain ⟨fs3, hr3, hrun3, hended3, hW3, hsame3⟩ := X2.leave (v := none) (fun _ => rfl)
  refine ⟨_, _, ?_, hrun3, hended3, _, _, rfl, ?_, ⟨_, rfl⟩, hW3, hsame3.mono (by decide) (by decide)⟩
  · exact X2.returnOut hx Bd.returns (hb hby d4_9) hr3
  · show Q_rmABL Z a h0 n0 _ T2.heap _
    rw [e2]
    exact ⟨rfl, N2, K2, (u1.other W2 (Or.inr (slot_ne (Or.inl (own_w hw 35 rfl)) (Or.inl (own_w hw 32 rfl)) (by decide) (t := (.array (.object "java/lang/Object"))) (t' := .int) (by decide) (by decide)))), (u2.other W2 (Or.inr (slot_ne (Or.inl (own_w hw 138 rfl)) (Or.inl (own_w hw 32 rfl)) (by decide) (t := .int) (t' := .int) (by decide) (by decide)))), Fw2⟩
theorem d3_0 : decode jdk_38_method_2_code 0 = .ok (.aload_n 0, 1) := by decide +kernel
theorem d3_1 : decode jdk_38_method_2_code 1 = .ok (.invokespecial 1, 3) := by decide +kernel
theorem d3_4 : decode jdk_38_method_2_code 4 = .ok (.aload_n 0, 1) := by decide +kernel
theorem d3_5 : decode jdk_38_method_2_code 5 = .ok (.getstatic 39, 3) := by decide +kernel
theorem d3_8 : decode jdk_38_method_2_code 8 = .ok (.putfield 9, 3) := by decide +kernel
theorem d3_11 : decode jdk_38_method_2_code 11 = .ok (.return_, 1) := by decide +kernel
abbrev own_y19 : MethodName := ⟨"java/util/ArrayList", "<init>", "()V"⟩
theorem ef_rmALI (m : MethodId) (a : Addr) : entryFrame m #[(.ref a)] 1 = mkF m 0 #[.val (.ref a)] [] := by first | (simp [entryFrame, mkF, argsToLocals, Value.category]; done) | rfl
def Q_rmALI (Z : State) (a : Addr) (dc : Addr) (h0 : Heap) (n0 : Nat) (v_ : Option Value) (h_ : Heap) (L_ : List Loc) : Prop := v_ = none ∧ Fr n0 L_ ∧ Keep h0 h_ [a] ∧ Fld Z h_ a "java/util/ArrayList" "elementData" "[Ljava/lang/Object;" (.ref dc) ∧ Fld Z h_ a "java/util/ArrayList" "size" "I" (.int (0 : Int32)) ∧ Fld Z h_ a "java/util/AbstractList" "modCount" "I" (.int (0 : Int32))
theorem pn_8 : plainName "java/util/ArrayList" = true := by first | (simp [plainName, overriddenIn]; done) | decide +kernel
set_option maxRecDepth 65536 in
set_option maxHeartbeats 40000000 in
theorem rmALI (l : Launch) (Z : State) (a0 : Array Value) (hw : ∀ d ∈ tables_1, d.before a0 Z = true) (ws : List Jvm.Cond) (a : Addr) (dc : Addr) (h0 : Heap) (n0 : Nat) (Z0 : n0 ≤ h0.size) (O0 : Old Z n0 h0) (u1 : Sta Z Z.heap "java/util/ArrayList" "DEFAULTCAPACITY_EMPTY_ELEMENTDATA" "[Ljava/lang/Object;" (.ref dc)) (u2 : Exa Z h0 a "java/util/ArrayList") (u3 : Fld Z h0 a "java/util/ArrayList" "elementData" "[Ljava/lang/Object;" .null) (u4 : Fld Z h0 a "java/util/ArrayList" "size" "I" (.int (0 : Int32))) (u5 : Fld Z h0 a "java/util/AbstractList" "modCount" "I" (.int (0 : Int32))) (u6 : n0 ≤ a) :
    MetFree l own_y19 (head1 (Jvm.Cond.code own_y19 jdk_38_method_2_code 1 none :: ws) ({ frames := 3, cells := 0, slots := 0, locals := 36 } : Room)) (fun a_ U_ => a_ = #[(.ref a)] ∧ Z.Warmed39 U_.vm ∧ U_.heap = h0) (fun _ _ _ _ _ => True) (fun _ U_ o_ U2_ => ∃ v_ L_, o_ = .returned v_ ∧ Q_rmALI Z a dc h0 n0 v_ U2_.heap L_ ∧ FrameEnd U_ o_ U2_ L_ ({ frames := 3, cells := 0, slots := 0, locals := 36 } : Room).cells ({ frames := 3, cells := 0, slots := 0, locals := 36 } : Room).slots) := by
  refine MetFree.of_bodySF (plainFor_of_name pn_8) hisR ?_
  intro p e s m args below meth c s₁ Bd hml0 hP hK
  obtain ⟨rfl, hZ, hh⟩ := hP
  have hx := Bd.exec
  have hby := Bd.bytes
  have hml : c.maxLocals = 1 := hml0
  have hown : s.vm.findClass "java/util/ArrayList" = some m.cls := findClass_of_methodNamed Bd.named
  have hnm := (name_of_methodNamed Bd.named Bd.method).1
  have X0 : Stand p l e ({ frames := 3, cells := 0, slots := 0, locals := 36 } : Room) s m #[(.ref a)] below meth c s₁ [] 0 0 := Stand.of_body Bd
  have e0 : s₁.heap = h0 := by rw [← hh, Bd.state]; rfl
  have N0 := Fr.nil n0
  refine own_go (A := s₁.setTop (mkF m 0 #[.val (.ref a)] [])) (fun t_ k_ => castTop (ef_rmALI m a) k_) ?_
  refine own_go (A := s₁.setTop (mkF m 1 #[.val (.ref a)] [(.ref a)])) (fun t_ k_ => ?_) ?_
  · show Steps p.tables e below (s₁.setTop (mkF m 0 #[.val (.ref a)] [])) t_
    refine XS.aloadN X0.here hx rfl (hb hby d3_0) rfl rfl ?_
    exact k_
  obtain ⟨_, _, ⟨T1, L1, k1, n1⟩, -, X1, ⟨Lc1, hQ1, l1, y1, z1⟩, st1⟩ := X0.specialBack hx (y := own_y18) rfl hown (mvT hZ (own_w hw 16 rfl)) (mvT hZ (own_w hw 17 rfl)) (mvT hZ (own_w hw 21 rfl)) (by decide) (backOf (W := 0) (rmABL l Z a0 hw [] a h0 n0 Z0 u2 u3 u4 u5 u6) hZ (own_w hw 21 rfl) (own_w hw 20 rfl) (by decide) (by decide)) (g := (mkF m 1 #[.val (.ref a)] [(.ref a)])) rfl (by rw [hml]; rfl) (Steps.refl _) (a := a) (argsL := []) (rest := []) (lenOf pd_7 rfl) rfl (by show 2 * 0 + _ ≤ _; exact Nat.le_of_eq rfl) (hb hby d3_1) (fun _ _ => ⟨rfl, e0, (by decide : 0 + 0 ≤ _), (by decide : 0 + 0 ≤ _)⟩)
  dsimp only [Pt.U, Pt.locs, Pt.cells, Pt.slots] at X1 l1 y1 z1 st1 hQ1
  subst l1 y1 z1
  obtain ⟨rfl, N1q, Kc1, r1_0, r1_1, r1_2⟩ := hQ1
  have N1 := Fr.app N0 N1q
  refine own_via st1 ?_
  have K1 : Keep h0 T1.heap [a] := (Keep.refl h0 [a]).trans Kc1 (allS (P := fun x => x ∈ _ ∨ _ ≤ x) (Or.inl (List.mem_of_getElem? (i := 0) rfl)) all0)
  have O1 := O0.keep Kc1 (allS (P := fun x => n0 ≤ x) u6 all0)
  refine own_go (A := T1.setTop (mkF m 5 #[.val (.ref a)] [(.ref a)])) (fun t_ k_ => ?_) ?_
  · show Steps p.tables e below (T1.setTop (mkF m 4 #[.val (.ref a)] [])) t_
    refine XS.aloadN X1.here hx rfl (hb hby d3_4) rfl rfl ?_
    exact k_
  obtain ⟨T2, X2, e2, st2⟩ := getS2 X1 hx hZ hown (host := "") (Or.inl (own_w hw 33 rfl)) Via.refl rfl (u1.ext O1.2) (g := (mkF m 5 #[.val (.ref a)] [(.ref a)])) rfl (hb hby d3_5)
  refine own_go st2 ?_
  obtain ⟨T3, h3, X3, e3, W3, st3⟩ := putF X2 hx hZ hown (host := "") (Or.inl (own_w hw 34 rfl)) Via.refl e2 r1_0 (u2.keep Kc1) (Or.inl (own_w hw 35 rfl)) (own_w hw 11 rfl) (ty := (.array (.object "java/lang/Object"))) (by decide) rfl rfl (g := (mkF m 8 #[.val (.ref a)] [(.ref dc), (.ref a)])) rfl rfl (hb hby d3_8)
  have Fw3 : Fld Z h3 a "java/util/ArrayList" "elementData" "[Ljava/lang/Object;" (.ref dc) := r1_0.same W3
  refine own_go st3 ?_
  have K3 : Keep h0 h3 [a] := K1.wr W3 (Or.inl (List.mem_of_getElem? (i := 0) rfl))
  have O3 := O1.wr W3 u6
  have N3 := Fr.snoc X3 N1 u6
  obtain ⟨fs4, hr4, hrun4, hended4, hW4, hsame4⟩ := X3.leave (v := none) (fun _ => rfl)
  refine ⟨_, _, ?_, hrun4, hended4, _, _, rfl, ?_, ⟨_, rfl⟩, hW4, hsame4.mono (by decide) (by decide)⟩
  · exact X3.returnOut hx Bd.returns (hb hby d3_11) hr4
  · show Q_rmALI Z a dc h0 n0 _ T3.heap _
    rw [e3]
    exact ⟨rfl, N3, K3, Fw3, (r1_1.other W3 (Or.inr (slot_ne (Or.inl (own_w hw 138 rfl)) (Or.inl (own_w hw 35 rfl)) (by decide) (t := .int) (t' := (.array (.object "java/lang/Object"))) (by decide) (by decide)))), (r1_2.other W3 (Or.inr (slot_ne (Or.inl (own_w hw 32 rfl)) (Or.inl (own_w hw 35 rfl)) (by decide) (t := .int) (t' := (.array (.object "java/lang/Object"))) (by decide) (by decide))))⟩
theorem d25_0 : decode jdk_29_method_65_code 0 = .ok (.iload_n 0, 1) := by decide +kernel
theorem d25_1 : decode jdk_29_method_65_code 1 = .ok (.iload_n 1, 1) := by decide +kernel
theorem d25_2 : decode jdk_29_method_65_code 2 = .ok (.if_icmp .lt 7, 3) := by decide +kernel
theorem d25_5 : decode jdk_29_method_65_code 5 = .ok (.iload_n 0, 1) := by decide +kernel
theorem d25_6 : decode jdk_29_method_65_code 6 = .ok (.goto 4, 3) := by decide +kernel
theorem d25_10 : decode jdk_29_method_65_code 10 = .ok (.ireturn, 1) := by decide +kernel
abbrev own_y20 : MethodName := ⟨"java/lang/Math", "max", "(II)I"⟩
theorem ef_rmMax10 (m : MethodId)  : entryFrame m #[(.int (10 : Int32)), (.int (1 : Int32))] 2 = mkF m 0 #[.val (.int (10 : Int32)), .val (.int (1 : Int32))] [] := by first | (simp [entryFrame, mkF, argsToLocals, Value.category]; done) | rfl
def Q_rmMax10 (Z : State)  (h0 : Heap) (n0 : Nat) (v_ : Option Value) (h_ : Heap) (L_ : List Loc) : Prop := v_ = some (.int (10 : Int32)) ∧ Fr n0 L_ ∧ h_ = h0
set_option maxRecDepth 65536 in
set_option maxHeartbeats 40000000 in
theorem rmMax10 (l : Launch) (Z : State) (a0 : Array Value) (hw : ∀ d ∈ tables_1, d.before a0 Z = true) (ws : List Jvm.Cond)  (h0 : Heap) (n0 : Nat) (Z0 : n0 ≤ h0.size)  :
    MetFree l own_y20 (head1 (Jvm.Cond.code own_y20 jdk_29_method_65_code 2 (some .int) :: ws) ({ frames := 0, cells := 0, slots := 0, locals := 0 } : Room)) (fun a_ U_ => a_ = #[(.int (10 : Int32)), (.int (1 : Int32))] ∧ Z.Warmed39 U_.vm ∧ U_.heap = h0) (fun _ _ _ _ _ => True) (fun _ U_ o_ U2_ => ∃ v_ L_, o_ = .returned v_ ∧ Q_rmMax10 Z  h0 n0 v_ U2_.heap L_ ∧ FrameEnd U_ o_ U2_ L_ ({ frames := 0, cells := 0, slots := 0, locals := 0 } : Room).cells ({ frames := 0, cells := 0, slots := 0, locals := 0 } : Room).slots) := by
  refine MetFree.of_bodySF (Jvm.Free.JP.mathPlain rfl (by decide +kernel)) hisR ?_
  intro p e s m args below meth c s₁ Bd hml0 hP hK
  obtain ⟨rfl, hZ, hh⟩ := hP
  have hx := Bd.exec
  have hby := Bd.bytes
  have hml : c.maxLocals = 2 := hml0
  have hown : s.vm.findClass "java/lang/Math" = some m.cls := findClass_of_methodNamed Bd.named
  have hnm := (name_of_methodNamed Bd.named Bd.method).1
  have X0 : Stand p l e ({ frames := 0, cells := 0, slots := 0, locals := 0 } : Room) s m #[(.int (10 : Int32)), (.int (1 : Int32))] below meth c s₁ [] 0 0 := Stand.of_body Bd
  have e0 : s₁.heap = h0 := by rw [← hh, Bd.state]; rfl
  have N0 := Fr.nil n0
  refine own_go (A := s₁.setTop (mkF m 0 #[.val (.int (10 : Int32)), .val (.int (1 : Int32))] [])) (fun t_ k_ => castTop (ef_rmMax10 m ) k_) ?_
  refine own_go (A := s₁.setTop (mkF m 10 #[.val (.int (10 : Int32)), .val (.int (1 : Int32))] [(.int (10 : Int32))])) (fun t_ k_ => ?_) ?_
  · show Steps p.tables e below (s₁.setTop (mkF m 0 #[.val (.int (10 : Int32)), .val (.int (1 : Int32))] [])) t_
    refine XS.iloadN X0.here hx rfl (hb hby d25_0) rfl ?_
    show Steps p.tables e below (s₁.setTop (mkF m 1 #[.val (.int (10 : Int32)), .val (.int (1 : Int32))] [(.int (10 : Int32))])) t_
    refine XS.iloadN X0.here hx rfl (hb hby d25_1) rfl ?_
    show Steps p.tables e below (s₁.setTop (mkF m 2 #[.val (.int (10 : Int32)), .val (.int (1 : Int32))] [(.int (1 : Int32)), (.int (10 : Int32))])) t_
    refine XS.icmpNo X0.here hx rfl (hb hby d25_2) rfl (flt (by decide : ¬ ((10 : Int32) < (1 : Int32)))).1 ?_
    show Steps p.tables e below (s₁.setTop (mkF m 5 #[.val (.int (10 : Int32)), .val (.int (1 : Int32))] [])) t_
    refine XS.iloadN X0.here hx rfl (hb hby d25_5) rfl ?_
    show Steps p.tables e below (s₁.setTop (mkF m 6 #[.val (.int (10 : Int32)), .val (.int (1 : Int32))] [(.int (10 : Int32))])) t_
    refine XS.goto X0.here hx rfl (pc0 := 6) (pc' := 10) rfl (hb hby d25_6) (by decide) (by decide) ?_
    exact k_
  obtain ⟨fs1, hr1, hrun1, hended1, hW1, hsame1⟩ := X0.leave (v := some (.int (10 : Int32))) (fun h => by rw [Bd.returns] at h; cases h)
  refine ⟨_, _, ?_, hrun1, hended1, _, _, rfl, ?_, ⟨_, rfl⟩, hW1, hsame1.mono (by decide) (by decide)⟩
  · exact own_retI X0 hx Bd.returns (hb hby d25_10) hr1
  · show Q_rmMax10 Z  h0 n0 _ s₁.heap _
    rw [e0]
    exact ⟨rfl, N0, rfl⟩
theorem d24_0 : decode jdk_38_method_6_code 0 = .ok (.aload_n 0, 1) := by decide +kernel
theorem d24_1 : decode jdk_38_method_6_code 1 = .ok (.getfield 9, 3) := by decide +kernel
theorem d24_4 : decode jdk_38_method_6_code 4 = .ok (.arraylength, 1) := by decide +kernel
theorem d24_5 : decode jdk_38_method_6_code 5 = .ok (.istore_n 2, 1) := by decide +kernel
theorem d24_6 : decode jdk_38_method_6_code 6 = .ok (.iload_n 2, 1) := by decide +kernel
theorem d24_7 : decode jdk_38_method_6_code 7 = .ok (.ifCond .gt 13, 3) := by decide +kernel
theorem d24_10 : decode jdk_38_method_6_code 10 = .ok (.aload_n 0, 1) := by decide +kernel
theorem d24_11 : decode jdk_38_method_6_code 11 = .ok (.getfield 9, 3) := by decide +kernel
theorem d24_14 : decode jdk_38_method_6_code 14 = .ok (.getstatic 39, 3) := by decide +kernel
theorem d24_17 : decode jdk_38_method_6_code 17 = .ok (.if_acmp .eq 28, 3) := by decide +kernel
theorem d24_45 : decode jdk_38_method_6_code 45 = .ok (.aload_n 0, 1) := by decide +kernel
theorem d24_46 : decode jdk_38_method_6_code 46 = .ok (.bipush 10, 2) := by decide +kernel
theorem d24_48 : decode jdk_38_method_6_code 48 = .ok (.iload_n 1, 1) := by decide +kernel
theorem pd_12 : parseMethodDescriptor "(II)I" = some ⟨[.int, .int], some .int⟩ := by decide +kernel
theorem d24_49 : decode jdk_38_method_6_code 49 = .ok (.invokestatic 79, 3) := by decide +kernel
theorem d24_52 : decode jdk_38_method_6_code 52 = .ok (.anewarray 7, 3) := by decide +kernel
theorem d24_55 : decode jdk_38_method_6_code 55 = .ok (.dup_x1, 1) := by decide +kernel
theorem d24_56 : decode jdk_38_method_6_code 56 = .ok (.putfield 9, 3) := by decide +kernel
theorem d24_59 : decode jdk_38_method_6_code 59 = .ok (.areturn, 1) := by decide +kernel
abbrev own_y21 : MethodName := ⟨"java/util/ArrayList", "grow", "(I)[Ljava/lang/Object;"⟩
theorem ef_rmGrowI (m : MethodId) (a : Addr) : entryFrame m #[(.ref a), (.int (1 : Int32))] 4 = mkF m 0 #[.val (.ref a), .val (.int (1 : Int32)), .unset, .unset] [] := by first | (simp [entryFrame, mkF, argsToLocals, Value.category]; done) | rfl
def Q_rmGrowI (Z : State) (a : Addr) (dc : Addr) (kd : ClassId) (mc : Int32) (h0 : Heap) (n0 : Nat) (v_ : Option Value) (h_ : Heap) (L_ : List Loc) : Prop := ∃ ed : Addr, ∃ k : ClassId, v_ = some (.ref ed) ∧ Fr n0 L_ ∧ Keep h0 h_ [a] ∧ h0.size ≤ ed ∧ Arv Z h_ ed k (.object "java/lang/Object") (10 : Int32) [.null, .null, .null, .null, .null, .null, .null, .null, .null, .null] .null ∧ Ovr Z k "java/lang/Object" ∧ Fld Z h_ a "java/util/ArrayList" "elementData" "[Ljava/lang/Object;" (.ref ed) ∧ Fld Z h_ a "java/util/ArrayList" "size" "I" (.int (0 : Int32)) ∧ Fld Z h_ a "java/util/AbstractList" "modCount" "I" (.int mc)
set_option maxRecDepth 65536 in
set_option maxHeartbeats 40000000 in
theorem rmGrowI (l : Launch) (Z : State) (a0 : Array Value) (hw : ∀ d ∈ tables_1, d.before a0 Z = true) (ws : List Jvm.Cond) (a : Addr) (dc : Addr) (kd : ClassId) (mc : Int32) (h0 : Heap) (n0 : Nat) (Z0 : n0 ≤ h0.size) (O0 : Old Z n0 h0) (u1 : Sta Z Z.heap "java/util/ArrayList" "DEFAULTCAPACITY_EMPTY_ELEMENTDATA" "[Ljava/lang/Object;" (.ref dc)) (u2 : Exa Z h0 a "java/util/ArrayList") (u3 : Fld Z h0 a "java/util/ArrayList" "elementData" "[Ljava/lang/Object;" (.ref dc)) (u4 : Fld Z h0 a "java/util/ArrayList" "size" "I" (.int (0 : Int32))) (u5 : Fld Z h0 a "java/util/AbstractList" "modCount" "I" (.int mc)) (u6 : Arv Z Z.heap dc kd (.object "java/lang/Object") (0 : Int32) [] .null) (u7 : n0 ≤ a) :
    MetFree l own_y21 (head1 (Jvm.Cond.code own_y21 jdk_38_method_6_code 4 (some (.array (.object "java/lang/Object"))) :: ws) ({ frames := 1, cells := 1, slots := 10, locals := 14 } : Room)) (fun a_ U_ => a_ = #[(.ref a), (.int (1 : Int32))] ∧ Z.Warmed39 U_.vm ∧ U_.heap = h0) (fun _ _ _ _ _ => True) (fun _ U_ o_ U2_ => ∃ v_ L_, o_ = .returned v_ ∧ Q_rmGrowI Z a dc kd mc h0 n0 v_ U2_.heap L_ ∧ FrameEnd U_ o_ U2_ L_ ({ frames := 1, cells := 1, slots := 10, locals := 14 } : Room).cells ({ frames := 1, cells := 1, slots := 10, locals := 14 } : Room).slots) := by
  refine MetFree.of_bodySF (plainFor_of_name pn_8) hisR ?_
  intro p e s m args below meth c s₁ Bd hml0 hP hK
  obtain ⟨rfl, hZ, hh⟩ := hP
  have hx := Bd.exec
  have hby := Bd.bytes
  have hml : c.maxLocals = 4 := hml0
  have hown : s.vm.findClass "java/util/ArrayList" = some m.cls := findClass_of_methodNamed Bd.named
  have hnm := (name_of_methodNamed Bd.named Bd.method).1
  have X0 : Stand p l e ({ frames := 1, cells := 1, slots := 10, locals := 14 } : Room) s m #[(.ref a), (.int (1 : Int32))] below meth c s₁ [] 0 0 := Stand.of_body Bd
  have e0 : s₁.heap = h0 := by rw [← hh, Bd.state]; rfl
  have N0 := Fr.nil n0
  refine own_go (A := s₁.setTop (mkF m 0 #[.val (.ref a), .val (.int (1 : Int32)), .unset, .unset] [])) (fun t_ k_ => castTop (ef_rmGrowI m a) k_) ?_
  refine own_go (A := s₁.setTop (mkF m 1 #[.val (.ref a), .val (.int (1 : Int32)), .unset, .unset] [(.ref a)])) (fun t_ k_ => ?_) ?_
  · show Steps p.tables e below (s₁.setTop (mkF m 0 #[.val (.ref a), .val (.int (1 : Int32)), .unset, .unset] [])) t_
    refine XS.aloadN X0.here hx rfl (hb hby d24_0) rfl rfl ?_
    exact k_
  obtain ⟨T1, X1, e1, st1⟩ := getF X0 hx hZ hown (host := "") (Or.inl (own_w hw 34 rfl)) Via.refl e0 u3 (g := (mkF m 1 #[.val (.ref a), .val (.int (1 : Int32)), .unset, .unset] [(.ref a)])) rfl rfl (hb hby d24_1)
  refine own_go st1 ?_
  obtain ⟨cl2, Ar2, q2, S2, M2, H2, G2⟩ := id (u6.ext O0.2)
  refine own_go (A := T1.setTop (mkF m 11 #[.val (.ref a), .val (.int (1 : Int32)), .val (.int (0 : Int32)), .unset] [(.ref a)])) (fun t_ k_ => ?_) ?_
  · show Steps p.tables e below (T1.setTop (mkF m 4 #[.val (.ref a), .val (.int (1 : Int32)), .unset, .unset] [(.ref dc)])) t_
    refine X1.arraylength hx (by rw [e1]; exact Ar2.1) (State.isArrayOf_alike hZ.alike Ar2.2.1) (g := (mkF m 4 #[.val (.ref a), .val (.int (1 : Int32)), .unset, .unset] [(.ref dc)])) rfl rfl (hb hby d24_4) _ ?_
    rw [len_of S2 M2]
    show Steps p.tables e below (T1.setTop (mkF m 5 #[.val (.ref a), .val (.int (1 : Int32)), .unset, .unset] [(.int (0 : Int32))])) t_
    refine XS.istoreN X1.here hx rfl (hb hby d24_5) rfl (l' := #[.val (.ref a), .val (.int (1 : Int32)), .val (.int (0 : Int32)), .unset]) rfl ?_
    show Steps p.tables e below (T1.setTop (mkF m 6 #[.val (.ref a), .val (.int (1 : Int32)), .val (.int (0 : Int32)), .unset] [])) t_
    refine XS.iloadN X1.here hx rfl (hb hby d24_6) rfl ?_
    show Steps p.tables e below (T1.setTop (mkF m 7 #[.val (.ref a), .val (.int (1 : Int32)), .val (.int (0 : Int32)), .unset] [(.int (0 : Int32))])) t_
    refine XS.ifNo X1.here hx rfl (hb hby d24_7) rfl ((if0 _ _).trans (flt (by decide : ¬ ((0 : Int32) < (0 : Int32)))).2.2.1) ?_
    show Steps p.tables e below (T1.setTop (mkF m 10 #[.val (.ref a), .val (.int (1 : Int32)), .val (.int (0 : Int32)), .unset] [])) t_
    refine XS.aloadN X1.here hx rfl (hb hby d24_10) rfl rfl ?_
    exact k_
  obtain ⟨T3, X3, e3, st3⟩ := getF X1 hx hZ hown (host := "") (Or.inl (own_w hw 34 rfl)) Via.refl e1 u3 (g := (mkF m 11 #[.val (.ref a), .val (.int (1 : Int32)), .val (.int (0 : Int32)), .unset] [(.ref a)])) rfl rfl (hb hby d24_11)
  refine own_go st3 ?_
  obtain ⟨T4, X4, e4, st4⟩ := getS2 X3 hx hZ hown (host := "") (Or.inl (own_w hw 33 rfl)) Via.refl e3 (u1.ext O0.2) (g := (mkF m 14 #[.val (.ref a), .val (.int (1 : Int32)), .val (.int (0 : Int32)), .unset] [(.ref dc)])) rfl (hb hby d24_14)
  refine own_go st4 ?_
  refine own_go (A := T4.setTop (mkF m 49 #[.val (.ref a), .val (.int (1 : Int32)), .val (.int (0 : Int32)), .unset] [(.int (1 : Int32)), (.int (10 : Int32)), (.ref a)])) (fun t_ k_ => ?_) ?_
  · show Steps p.tables e below (T4.setTop (mkF m 17 #[.val (.ref a), .val (.int (1 : Int32)), .val (.int (0 : Int32)), .unset] [(.ref dc), (.ref dc)])) t_
    refine Jvm.RoadKit.acmp (g := (mkF m 17 #[.val (.ref a), .val (.int (1 : Int32)), .val (.int (0 : Int32)), .unset] [(.ref dc), (.ref dc)])) X4 hx rfl rfl rfl (pc0 := 17) (pc' := 45) (same := true) rfl (hb hby d24_17) rfl (decide_eq_true rfl) (by decide) (by decide) ?_
    show Steps p.tables e below (T4.setTop (mkF m 45 #[.val (.ref a), .val (.int (1 : Int32)), .val (.int (0 : Int32)), .unset] [])) t_
    refine XS.aloadN X4.here hx rfl (hb hby d24_45) rfl rfl ?_
    show Steps p.tables e below (T4.setTop (mkF m 46 #[.val (.ref a), .val (.int (1 : Int32)), .val (.int (0 : Int32)), .unset] [(.ref a)])) t_
    refine XS.bipush X4.here hx rfl (hb hby d24_46) ?_
    show Steps p.tables e below (T4.setTop (mkF m 48 #[.val (.ref a), .val (.int (1 : Int32)), .val (.int (0 : Int32)), .unset] [(.int (10 : Int32)), (.ref a)])) t_
    refine XS.iloadN X4.here hx rfl (hb hby d24_48) rfl ?_
    exact k_
  obtain ⟨_, _, ⟨T5, L5, k5, n5⟩, -, X5, ⟨Lc5, hQ5, l5, y5, z5⟩, st5⟩ := Jvm.LawKit.callS X4 hx (y := own_y20) hown (mvT hZ (own_w hw 154 rfl)) (mvT hZ (own_w hw 155 rfl)) (mvT hZ (own_w hw 3 rfl)) (mvT hZ (own_w hw 156 rfl)) (by decide) (backOf (W := 1) (rmMax10 l Z a0 hw [] h0 n0 Z0) hZ (own_w hw 156 rfl) (own_w hw 3 rfl) (by decide) (by decide)) (g := (mkF m 49 #[.val (.ref a), .val (.int (1 : Int32)), .val (.int (0 : Int32)), .unset] [(.int (1 : Int32)), (.int (10 : Int32)), (.ref a)])) rfl (by rw [hml]; rfl) (argsL := [(.int (10 : Int32)), (.int (1 : Int32))]) (rest := [(.ref a)]) (lenOf pd_12 rfl) rfl (by show 2 * 0 + _ ≤ _; exact Nat.le_of_eq rfl) (hb hby d24_49) (fun _ _ => ⟨rfl, e4, (by decide : 0 + 0 ≤ _), (by decide : 0 + 0 ≤ _)⟩)
  dsimp only [Pt.U, Pt.locs, Pt.cells, Pt.slots] at X5 l5 y5 z5 st5 hQ5
  subst l5 y5 z5
  obtain ⟨rfl, N5q, eh5⟩ := hQ5
  have N5 := Fr.app N0 N5q
  refine own_go st5 ?_
  obtain ⟨T6, h6, k6, X6, e6, E6, A6, V6, st6⟩ := newR X5 hx hZ hown (own_w hw 157 rfl) (own_w hw 158 rfl) eh5 (g := (mkF m 52 #[.val (.ref a), .val (.int (1 : Int32)), .val (.int (0 : Int32)), .unset] [(.int (10 : Int32)), (.ref a)])) rfl (hb hby d24_52) rfl (by decide) (cap := 10) (by decide) (by decide) (by decide) (by decide)
  obtain ⟨b6, g6⟩ : ∃ z, z = h0.size := ⟨_, rfl⟩
  rw [← g6] at A6 st6
  refine own_go st6 ?_
  have K6 : Keep h0 h6 [a] := (Keep.refl h0 [a]).ext E6
  have O6 := O0.ext E6
  have B6 : Arv Z h6 b6 k6 (.object "java/lang/Object") (10 : Int32) [.null, .null, .null, .null, .null, .null, .null, .null, .null, .null] .null := (Arv.new A6 (by decide)).pad (pad_rep [] .null 10)
  refine own_go (A := T6.setTop (mkF m 56 #[.val (.ref a), .val (.int (1 : Int32)), .val (.int (0 : Int32)), .unset] [(.ref b6), (.ref a), (.ref b6)])) (fun t_ k_ => ?_) ?_
  · show Steps p.tables e below (T6.setTop (mkF m 55 #[.val (.ref a), .val (.int (1 : Int32)), .val (.int (0 : Int32)), .unset] [(.ref b6), (.ref a)])) t_
    refine XS.dupX1 X6.here hx rfl (hb hby d24_55) rfl rfl rfl ?_
    exact k_
  obtain ⟨T7, h7, X7, e7, W7, st7⟩ := putF X6 hx hZ hown (host := "") (Or.inl (own_w hw 34 rfl)) Via.refl e6 (u3.ext E6) (u2.ext E6) (Or.inl (own_w hw 35 rfl)) (own_w hw 11 rfl) (ty := (.array (.object "java/lang/Object"))) (by decide) rfl rfl (g := (mkF m 56 #[.val (.ref a), .val (.int (1 : Int32)), .val (.int (0 : Int32)), .unset] [(.ref b6), (.ref a), (.ref b6)])) rfl rfl (hb hby d24_56)
  have Fw7 : Fld Z h7 a "java/util/ArrayList" "elementData" "[Ljava/lang/Object;" (.ref b6) := (u3.ext E6).same W7
  refine own_go st7 ?_
  have K7 : Keep h0 h7 [a] := K6.wr W7 (Or.inl (List.mem_of_getElem? (i := 0) rfl))
  have O7 := O6.wr W7 u7
  have N7 := Fr.snoc X7 N5 u7
  obtain ⟨fs8, hr8, hrun8, hended8, hW8, hsame8⟩ := X7.leave (v := some (.ref b6)) (fun h => by rw [Bd.returns] at h; cases h)
  refine ⟨_, _, ?_, hrun8, hended8, _, _, rfl, ?_, ⟨_, rfl⟩, hW8, hsame8.mono (by decide) (by decide)⟩
  · exact own_retA X7 hx Bd.returns rfl rfl rfl (hb hby d24_59) hr8
  · show Q_rmGrowI Z a dc kd mc h0 n0 _ T7.heap _
    rw [e7]
    exact ⟨b6, k6, rfl, N7, K7, (Nat.le_of_eq g6.symm), (B6.other W7 (Ne.symm (Nat.ne_of_lt (Nat.lt_of_lt_of_le u2.lt (Nat.le_of_eq g6.symm))))), V6, Fw7, ((u4.ext E6).other W7 (Or.inr (slot_ne (Or.inl (own_w hw 138 rfl)) (Or.inl (own_w hw 35 rfl)) (by decide) (t := .int) (t' := (.array (.object "java/lang/Object"))) (by decide) (by decide)))), ((u5.ext E6).other W7 (Or.inr (slot_ne (Or.inl (own_w hw 32 rfl)) (Or.inl (own_w hw 35 rfl)) (by decide) (t := .int) (t' := (.array (.object "java/lang/Object"))) (by decide) (by decide))))⟩
theorem d23_0 : decode jdk_38_method_7_code 0 = .ok (.aload_n 0, 1) := by decide +kernel
theorem d23_1 : decode jdk_38_method_7_code 1 = .ok (.aload_n 0, 1) := by decide +kernel
theorem d23_2 : decode jdk_38_method_7_code 2 = .ok (.getfield 48, 3) := by decide +kernel
theorem d23_5 : decode jdk_38_method_7_code 5 = .ok (.iconst 1, 1) := by decide +kernel
theorem d23_6 : decode jdk_38_method_7_code 6 = .ok (.iadd, 1) := by decide +kernel
theorem pd_13 : parseMethodDescriptor "(I)[Ljava/lang/Object;" = some ⟨[.int], some (.array (.object "java/lang/Object"))⟩ := by decide +kernel
theorem d23_7 : decode jdk_38_method_7_code 7 = .ok (.invokevirtual 69, 3) := by decide +kernel
theorem d23_10 : decode jdk_38_method_7_code 10 = .ok (.areturn, 1) := by decide +kernel
abbrev own_y22 : MethodName := ⟨"java/util/ArrayList", "grow", "()[Ljava/lang/Object;"⟩
theorem ef_rmGrow (m : MethodId) (a : Addr) : entryFrame m #[(.ref a)] 1 = mkF m 0 #[.val (.ref a)] [] := by first | (simp [entryFrame, mkF, argsToLocals, Value.category]; done) | rfl
def Q_rmGrow (Z : State) (a : Addr) (dc : Addr) (kd : ClassId) (mc : Int32) (h0 : Heap) (n0 : Nat) (v_ : Option Value) (h_ : Heap) (L_ : List Loc) : Prop := ∃ ed : Addr, ∃ k : ClassId, v_ = some (.ref ed) ∧ Fr n0 L_ ∧ Keep h0 h_ [a] ∧ h0.size ≤ ed ∧ Arv Z h_ ed k (.object "java/lang/Object") (10 : Int32) [.null, .null, .null, .null, .null, .null, .null, .null, .null, .null] .null ∧ Ovr Z k "java/lang/Object" ∧ Fld Z h_ a "java/util/ArrayList" "elementData" "[Ljava/lang/Object;" (.ref ed) ∧ Fld Z h_ a "java/util/ArrayList" "size" "I" (.int (0 : Int32)) ∧ Fld Z h_ a "java/util/AbstractList" "modCount" "I" (.int mc)
set_option maxRecDepth 65536 in
set_option maxHeartbeats 40000000 in
theorem rmGrow (l : Launch) (Z : State) (a0 : Array Value) (hw : ∀ d ∈ tables_1, d.before a0 Z = true) (ws : List Jvm.Cond) (a : Addr) (dc : Addr) (kd : ClassId) (mc : Int32) (h0 : Heap) (n0 : Nat) (Z0 : n0 ≤ h0.size) (O0 : Old Z n0 h0) (u1 : Sta Z Z.heap "java/util/ArrayList" "DEFAULTCAPACITY_EMPTY_ELEMENTDATA" "[Ljava/lang/Object;" (.ref dc)) (u2 : Exa Z h0 a "java/util/ArrayList") (u3 : Fld Z h0 a "java/util/ArrayList" "elementData" "[Ljava/lang/Object;" (.ref dc)) (u4 : Fld Z h0 a "java/util/ArrayList" "size" "I" (.int (0 : Int32))) (u5 : Fld Z h0 a "java/util/AbstractList" "modCount" "I" (.int mc)) (u6 : Arv Z Z.heap dc kd (.object "java/lang/Object") (0 : Int32) [] .null) (u7 : n0 ≤ a) :
    MetFree l own_y22 (head1 (Jvm.Cond.code own_y22 jdk_38_method_7_code 1 (some (.array (.object "java/lang/Object"))) :: ws) ({ frames := 2, cells := 1, slots := 10, locals := 29 } : Room)) (fun a_ U_ => a_ = #[(.ref a)] ∧ Z.Warmed39 U_.vm ∧ U_.heap = h0) (fun _ _ _ _ _ => True) (fun _ U_ o_ U2_ => ∃ v_ L_, o_ = .returned v_ ∧ Q_rmGrow Z a dc kd mc h0 n0 v_ U2_.heap L_ ∧ FrameEnd U_ o_ U2_ L_ ({ frames := 2, cells := 1, slots := 10, locals := 29 } : Room).cells ({ frames := 2, cells := 1, slots := 10, locals := 29 } : Room).slots) := by
  refine MetFree.of_bodySF (plainFor_of_name pn_8) hisR ?_
  intro p e s m args below meth c s₁ Bd hml0 hP hK
  obtain ⟨rfl, hZ, hh⟩ := hP
  have hx := Bd.exec
  have hby := Bd.bytes
  have hml : c.maxLocals = 1 := hml0
  have hown : s.vm.findClass "java/util/ArrayList" = some m.cls := findClass_of_methodNamed Bd.named
  have hnm := (name_of_methodNamed Bd.named Bd.method).1
  have X0 : Stand p l e ({ frames := 2, cells := 1, slots := 10, locals := 29 } : Room) s m #[(.ref a)] below meth c s₁ [] 0 0 := Stand.of_body Bd
  have e0 : s₁.heap = h0 := by rw [← hh, Bd.state]; rfl
  have N0 := Fr.nil n0
  refine own_go (A := s₁.setTop (mkF m 0 #[.val (.ref a)] [])) (fun t_ k_ => castTop (ef_rmGrow m a) k_) ?_
  refine own_go (A := s₁.setTop (mkF m 2 #[.val (.ref a)] [(.ref a), (.ref a)])) (fun t_ k_ => ?_) ?_
  · show Steps p.tables e below (s₁.setTop (mkF m 0 #[.val (.ref a)] [])) t_
    refine XS.aloadN X0.here hx rfl (hb hby d23_0) rfl rfl ?_
    show Steps p.tables e below (s₁.setTop (mkF m 1 #[.val (.ref a)] [(.ref a)])) t_
    refine XS.aloadN X0.here hx rfl (hb hby d23_1) rfl rfl ?_
    exact k_
  obtain ⟨T1, X1, e1, st1⟩ := getF X0 hx hZ hown (host := "") (Or.inl (own_w hw 137 rfl)) Via.refl e0 u4 (g := (mkF m 2 #[.val (.ref a)] [(.ref a), (.ref a)])) rfl rfl (hb hby d23_2)
  refine own_go st1 ?_
  refine own_go (A := T1.setTop (mkF m 7 #[.val (.ref a)] [(.int (1 : Int32)), (.ref a)])) (fun t_ k_ => ?_) ?_
  · show Steps p.tables e below (T1.setTop (mkF m 5 #[.val (.ref a)] [(.int (0 : Int32)), (.ref a)])) t_
    refine XS.iconst X1.here hx rfl (hb hby d23_5) ?_
    show Steps p.tables e below (T1.setTop (mkF m 6 #[.val (.ref a)] [(.int (1 : Int32)), (.int (0 : Int32)), (.ref a)])) t_
    refine XS.iadd X1.here hx rfl (hb hby d23_6) rfl ?_
    exact k_
  obtain ⟨cq2, q2, q2'⟩ := u2.cell
  obtain ⟨_, _, ⟨T2, L2, k2, n2⟩, -, X2, ⟨Lc2, hQ2, l2, y2, z2⟩, st2⟩ := X1.privateBack hx (y := own_y21) hown (mvT hZ (own_w hw 149 rfl)) (mvT hZ (own_w hw 150 rfl)) (mvT hZ (own_w hw 152 rfl)) (Cond.privateMethod_at (mvP hZ (own_w hw 151 rfl) (args := #[]))) (mvT hZ (own_w hw 153 rfl)) (by decide) (backOf (W := 0) (rmGrowI l Z a0 hw [] a dc kd mc h0 n0 Z0 O0 u1 u2 u3 u4 u5 u6 u7) hZ (own_w hw 153 rfl) (own_w hw 12 rfl) (by decide) (by decide)) (g := (mkF m 7 #[.val (.ref a)] [(.int (1 : Int32)), (.ref a)])) rfl (by rw [hml]; rfl) (Steps.refl _) (a := a) (by rw [e1]; exact q2) q2' (argsL := [(.int (1 : Int32))]) (rest := []) (lenOf pd_13 rfl) rfl (by show 2 * 0 + _ ≤ _; exact Nat.le_of_eq rfl) (hb hby d23_7) (fun _ _ => ⟨rfl, e1, (by decide : 0 + 1 ≤ _), (by decide : 0 + 10 ≤ _)⟩)
  dsimp only [Pt.U, Pt.locs, Pt.cells, Pt.slots] at X2 l2 y2 z2 st2 hQ2
  subst l2 y2 z2
  obtain ⟨ed_2, k_2, rfl, N2q, Kc2, r2_0, r2_1, r2_2, r2_3, r2_4, r2_5⟩ := hQ2
  have N2 := Fr.app N0 N2q
  refine own_via st2 ?_
  have K2 : Keep h0 T2.heap [a] := (Keep.refl h0 [a]).trans Kc2 (allS (P := fun x => x ∈ _ ∨ _ ≤ x) (Or.inl (List.mem_of_getElem? (i := 0) rfl)) all0)
  have O2 := O0.keep Kc2 (allS (P := fun x => n0 ≤ x) u7 all0)
  obtain ⟨fs3, hr3, hrun3, hended3, hW3, hsame3⟩ := X2.leave (v := some (.ref ed_2)) (fun h => by rw [Bd.returns] at h; cases h)
  refine ⟨_, _, ?_, hrun3, hended3, _, _, rfl, ?_, ⟨_, rfl⟩, hW3, hsame3.mono (by decide) (by decide)⟩
  · exact own_retA X2 hx Bd.returns rfl rfl rfl (hb hby d23_10) hr3
  · show Q_rmGrow Z a dc kd mc h0 n0 _ T2.heap _
    exact ⟨ed_2, k_2, rfl, N2, K2, r2_0, r2_1, r2_2, r2_3, r2_4, r2_5⟩
theorem d22_0 : decode jdk_38_method_24_code 0 = .ok (.iload_n 3, 1) := by decide +kernel
theorem d22_1 : decode jdk_38_method_24_code 1 = .ok (.aload_n 2, 1) := by decide +kernel
theorem d22_2 : decode jdk_38_method_24_code 2 = .ok (.arraylength, 1) := by decide +kernel
theorem d22_3 : decode jdk_38_method_24_code 3 = .ok (.if_icmp .ne 8, 3) := by decide +kernel
theorem d22_6 : decode jdk_38_method_24_code 6 = .ok (.aload_n 0, 1) := by decide +kernel
theorem pd_14 : parseMethodDescriptor "()[Ljava/lang/Object;" = some ⟨[], some (.array (.object "java/lang/Object"))⟩ := by decide +kernel
theorem d22_7 : decode jdk_38_method_24_code 7 = .ok (.invokevirtual 129, 3) := by decide +kernel
theorem d22_10 : decode jdk_38_method_24_code 10 = .ok (.astore_n 2, 1) := by decide +kernel
theorem d22_11 : decode jdk_38_method_24_code 11 = .ok (.aload_n 2, 1) := by decide +kernel
theorem d22_12 : decode jdk_38_method_24_code 12 = .ok (.iload_n 3, 1) := by decide +kernel
theorem d22_13 : decode jdk_38_method_24_code 13 = .ok (.aload_n 1, 1) := by decide +kernel
theorem d22_14 : decode jdk_38_method_24_code 14 = .ok (.aastore, 1) := by decide +kernel
theorem d22_15 : decode jdk_38_method_24_code 15 = .ok (.aload_n 0, 1) := by decide +kernel
theorem d22_16 : decode jdk_38_method_24_code 16 = .ok (.iload_n 3, 1) := by decide +kernel
theorem d22_17 : decode jdk_38_method_24_code 17 = .ok (.iconst 1, 1) := by decide +kernel
theorem d22_18 : decode jdk_38_method_24_code 18 = .ok (.iadd, 1) := by decide +kernel
theorem d22_19 : decode jdk_38_method_24_code 19 = .ok (.putfield 48, 3) := by decide +kernel
theorem d22_22 : decode jdk_38_method_24_code 22 = .ok (.return_, 1) := by decide +kernel
abbrev own_y23 : MethodName := ⟨"java/util/ArrayList", "add", "(Ljava/lang/Object;[Ljava/lang/Object;I)V"⟩
theorem ef_rmAddP0 (m : MethodId) (a : Addr) (xx : Addr) (dc : Addr) : entryFrame m #[(.ref a), (.ref xx), (.ref dc), (.int (0 : Int32))] 4 = mkF m 0 #[.val (.ref a), .val (.ref xx), .val (.ref dc), .val (.int (0 : Int32))] [] := by first | (simp [entryFrame, mkF, argsToLocals, Value.category]; done) | rfl
def Q_rmAddP0 (Z : State) (a : Addr) (xx : Addr) (dc : Addr) (kd : ClassId) (mc : Int32) (h0 : Heap) (n0 : Nat) (v_ : Option Value) (h_ : Heap) (L_ : List Loc) : Prop := ∃ ed : Addr, ∃ k : ClassId, v_ = none ∧ Fr n0 L_ ∧ Keep h0 h_ [a] ∧ h0.size ≤ ed ∧ Arv Z h_ ed k (.object "java/lang/Object") (10 : Int32) [(.ref xx), .null, .null, .null, .null, .null, .null, .null, .null, .null] .null ∧ Ovr Z k "java/lang/Object" ∧ Fld Z h_ a "java/util/ArrayList" "elementData" "[Ljava/lang/Object;" (.ref ed) ∧ Fld Z h_ a "java/util/ArrayList" "size" "I" (.int (1 : Int32)) ∧ Fld Z h_ a "java/util/AbstractList" "modCount" "I" (.int mc)
set_option maxRecDepth 65536 in
set_option maxHeartbeats 40000000 in
theorem rmAddP0 (l : Launch) (Z : State) (a0 : Array Value) (hw : ∀ d ∈ tables_1, d.before a0 Z = true) (ws : List Jvm.Cond) (a : Addr) (xx : Addr) (dc : Addr) (kd : ClassId) (mc : Int32) (h0 : Heap) (n0 : Nat) (Z0 : n0 ≤ h0.size) (O0 : Old Z n0 h0) (u1 : Sta Z Z.heap "java/util/ArrayList" "DEFAULTCAPACITY_EMPTY_ELEMENTDATA" "[Ljava/lang/Object;" (.ref dc)) (u2 : Exa Z h0 a "java/util/ArrayList") (u3 : Fld Z h0 a "java/util/ArrayList" "elementData" "[Ljava/lang/Object;" (.ref dc)) (u4 : Fld Z h0 a "java/util/ArrayList" "size" "I" (.int (0 : Int32))) (u5 : Fld Z h0 a "java/util/AbstractList" "modCount" "I" (.int mc)) (u6 : Arv Z Z.heap dc kd (.object "java/lang/Object") (0 : Int32) [] .null) (u7 : n0 ≤ a) (u8 : Exa Z h0 xx "com/example/firmline/firmline/model/Task") :
    MetFree l own_y23 (head1 (Jvm.Cond.code own_y23 jdk_38_method_24_code 4 none :: ws) ({ frames := 3, cells := 1, slots := 10, locals := 41 } : Room)) (fun a_ U_ => a_ = #[(.ref a), (.ref xx), (.ref dc), (.int (0 : Int32))] ∧ Z.Warmed39 U_.vm ∧ U_.heap = h0) (fun _ _ _ _ _ => True) (fun _ U_ o_ U2_ => ∃ v_ L_, o_ = .returned v_ ∧ Q_rmAddP0 Z a xx dc kd mc h0 n0 v_ U2_.heap L_ ∧ FrameEnd U_ o_ U2_ L_ ({ frames := 3, cells := 1, slots := 10, locals := 41 } : Room).cells ({ frames := 3, cells := 1, slots := 10, locals := 41 } : Room).slots) := by
  refine MetFree.of_bodySF (plainFor_of_name pn_8) hisR ?_
  intro p e s m args below meth c s₁ Bd hml0 hP hK
  obtain ⟨rfl, hZ, hh⟩ := hP
  have hx := Bd.exec
  have hby := Bd.bytes
  have hml : c.maxLocals = 4 := hml0
  have hown : s.vm.findClass "java/util/ArrayList" = some m.cls := findClass_of_methodNamed Bd.named
  have hnm := (name_of_methodNamed Bd.named Bd.method).1
  have X0 : Stand p l e ({ frames := 3, cells := 1, slots := 10, locals := 41 } : Room) s m #[(.ref a), (.ref xx), (.ref dc), (.int (0 : Int32))] below meth c s₁ [] 0 0 := Stand.of_body Bd
  have e0 : s₁.heap = h0 := by rw [← hh, Bd.state]; rfl
  have N0 := Fr.nil n0
  refine own_go (A := s₁.setTop (mkF m 0 #[.val (.ref a), .val (.ref xx), .val (.ref dc), .val (.int (0 : Int32))] [])) (fun t_ k_ => castTop (ef_rmAddP0 m a xx dc) k_) ?_
  obtain ⟨cl1, Ar1, q1, S1, M1, H1, G1⟩ := id (u6.ext O0.2)
  refine own_go (A := s₁.setTop (mkF m 7 #[.val (.ref a), .val (.ref xx), .val (.ref dc), .val (.int (0 : Int32))] [(.ref a)])) (fun t_ k_ => ?_) ?_
  · show Steps p.tables e below (s₁.setTop (mkF m 0 #[.val (.ref a), .val (.ref xx), .val (.ref dc), .val (.int (0 : Int32))] [])) t_
    refine XS.iloadN X0.here hx rfl (hb hby d22_0) rfl ?_
    show Steps p.tables e below (s₁.setTop (mkF m 1 #[.val (.ref a), .val (.ref xx), .val (.ref dc), .val (.int (0 : Int32))] [(.int (0 : Int32))])) t_
    refine XS.aloadN X0.here hx rfl (hb hby d22_1) rfl rfl ?_
    show Steps p.tables e below (s₁.setTop (mkF m 2 #[.val (.ref a), .val (.ref xx), .val (.ref dc), .val (.int (0 : Int32))] [(.ref dc), (.int (0 : Int32))])) t_
    refine X0.arraylength hx (by rw [e0]; exact Ar1.1) (State.isArrayOf_alike hZ.alike Ar1.2.1) (g := (mkF m 2 #[.val (.ref a), .val (.ref xx), .val (.ref dc), .val (.int (0 : Int32))] [(.ref dc), (.int (0 : Int32))])) rfl rfl (hb hby d22_2) _ ?_
    rw [len_of S1 M1]
    show Steps p.tables e below (s₁.setTop (mkF m 3 #[.val (.ref a), .val (.ref xx), .val (.ref dc), .val (.int (0 : Int32))] [(.int (0 : Int32)), (.int (0 : Int32))])) t_
    refine XS.icmpNo X0.here hx rfl (hb hby d22_3) rfl (teq (by decide : (0 : Int32) = (0 : Int32))).2 ?_
    show Steps p.tables e below (s₁.setTop (mkF m 6 #[.val (.ref a), .val (.ref xx), .val (.ref dc), .val (.int (0 : Int32))] [])) t_
    refine XS.aloadN X0.here hx rfl (hb hby d22_6) rfl rfl ?_
    exact k_
  obtain ⟨cq2, q2, q2'⟩ := u2.cell
  obtain ⟨_, _, ⟨T2, L2, k2, n2⟩, -, X2, ⟨Lc2, hQ2, l2, y2, z2⟩, st2⟩ := X0.privateBack hx (y := own_y22) hown (mvT hZ (own_w hw 144 rfl)) (mvT hZ (own_w hw 145 rfl)) (mvT hZ (own_w hw 147 rfl)) (Cond.privateMethod_at (mvP hZ (own_w hw 146 rfl) (args := #[]))) (mvT hZ (own_w hw 148 rfl)) (by decide) (backOf (W := 0) (rmGrow l Z a0 hw [] a dc kd mc h0 n0 Z0 O0 u1 u2 u3 u4 u5 u6 u7) hZ (own_w hw 148 rfl) (own_w hw 12 rfl) (by decide) (by decide)) (g := (mkF m 7 #[.val (.ref a), .val (.ref xx), .val (.ref dc), .val (.int (0 : Int32))] [(.ref a)])) rfl (by rw [hml]; rfl) (Steps.refl _) (a := a) (by rw [e0]; exact q2) q2' (argsL := []) (rest := []) (lenOf pd_14 rfl) rfl (by show 2 * 0 + _ ≤ _; exact Nat.le_of_eq rfl) (hb hby d22_7) (fun _ _ => ⟨rfl, e0, (by decide : 0 + 1 ≤ _), (by decide : 0 + 10 ≤ _)⟩)
  dsimp only [Pt.U, Pt.locs, Pt.cells, Pt.slots] at X2 l2 y2 z2 st2 hQ2
  subst l2 y2 z2
  obtain ⟨ed_2, k_2, rfl, N2q, Kc2, r2_0, r2_1, r2_2, r2_3, r2_4, r2_5⟩ := hQ2
  have N2 := Fr.app N0 N2q
  refine own_via st2 ?_
  have K2 : Keep h0 T2.heap [a] := (Keep.refl h0 [a]).trans Kc2 (allS (P := fun x => x ∈ _ ∨ _ ≤ x) (Or.inl (List.mem_of_getElem? (i := 0) rfl)) all0)
  have O2 := O0.keep Kc2 (allS (P := fun x => n0 ≤ x) u7 all0)
  refine own_go (A := T2.setTop (mkF m 14 #[.val (.ref a), .val (.ref xx), .val (.ref ed_2), .val (.int (0 : Int32))] [(.ref xx), (.int (0 : Int32)), (.ref ed_2)])) (fun t_ k_ => ?_) ?_
  · show Steps p.tables e below (T2.setTop (mkF m 10 #[.val (.ref a), .val (.ref xx), .val (.ref dc), .val (.int (0 : Int32))] [(.ref ed_2)])) t_
    refine XS.astoreN X2.here hx rfl (hb hby d22_10) rfl rfl (l' := #[.val (.ref a), .val (.ref xx), .val (.ref ed_2), .val (.int (0 : Int32))]) rfl ?_
    show Steps p.tables e below (T2.setTop (mkF m 11 #[.val (.ref a), .val (.ref xx), .val (.ref ed_2), .val (.int (0 : Int32))] [])) t_
    refine XS.aloadN X2.here hx rfl (hb hby d22_11) rfl rfl ?_
    show Steps p.tables e below (T2.setTop (mkF m 12 #[.val (.ref a), .val (.ref xx), .val (.ref ed_2), .val (.int (0 : Int32))] [(.ref ed_2)])) t_
    refine XS.iloadN X2.here hx rfl (hb hby d22_12) rfl ?_
    show Steps p.tables e below (T2.setTop (mkF m 13 #[.val (.ref a), .val (.ref xx), .val (.ref ed_2), .val (.int (0 : Int32))] [(.int (0 : Int32)), (.ref ed_2)])) t_
    refine XS.aloadN X2.here hx rfl (hb hby d22_13) rfl rfl ?_
    exact k_
  obtain ⟨cl3, Ar3, q3, S3, M3, H3, G3⟩ := id r2_1
  have hin3 : ¬ ((0 : Int32) < 0 ∨ cl3.slots.size ≤ ((0 : Int32)).toNatClampNeg) := inb_of S3 ⟨by decide, by decide⟩
  obtain ⟨T4, h4, X4, e4, W4, st4⟩ := stR X2 hx hZ rfl Ar3 (j := (0 : Int32)) hin3 rfl (Sto.ofV Ar3 q3 r2_2 (Ins.of_exa (u8.keep Kc2) (own_w hw 159 rfl))) (g := (mkF m 14 #[.val (.ref a), .val (.ref xx), .val (.ref ed_2), .val (.int (0 : Int32))] [(.ref xx), (.int (0 : Int32)), (.ref ed_2)])) rfl rfl (hb hby d22_14)
  have B4 : Arv Z h4 ed_2 k_2 (.object "java/lang/Object") (10 : Int32) [(.ref xx), .null, .null, .null, .null, .null, .null, .null, .null, .null] .null := Arv.set Ar3 q3 S3 M3 H3 G3 rfl W4 0 rfl (Nat.le_of_ble_eq_true rfl)
  refine own_go st4 ?_
  have K4 : Keep h0 h4 [a] := K2.wr W4 (Or.inr r2_0)
  have O4 := O2.wr W4 (Nat.le_trans Z0 r2_0)
  have N4 := Fr.snoc X4 N2 (Nat.le_trans Z0 r2_0)
  refine own_go (A := T4.setTop (mkF m 19 #[.val (.ref a), .val (.ref xx), .val (.ref ed_2), .val (.int (0 : Int32))] [(.int (1 : Int32)), (.ref a)])) (fun t_ k_ => ?_) ?_
  · show Steps p.tables e below (T4.setTop (mkF m 15 #[.val (.ref a), .val (.ref xx), .val (.ref ed_2), .val (.int (0 : Int32))] [])) t_
    refine XS.aloadN X4.here hx rfl (hb hby d22_15) rfl rfl ?_
    show Steps p.tables e below (T4.setTop (mkF m 16 #[.val (.ref a), .val (.ref xx), .val (.ref ed_2), .val (.int (0 : Int32))] [(.ref a)])) t_
    refine XS.iloadN X4.here hx rfl (hb hby d22_16) rfl ?_
    show Steps p.tables e below (T4.setTop (mkF m 17 #[.val (.ref a), .val (.ref xx), .val (.ref ed_2), .val (.int (0 : Int32))] [(.int (0 : Int32)), (.ref a)])) t_
    refine XS.iconst X4.here hx rfl (hb hby d22_17) ?_
    show Steps p.tables e below (T4.setTop (mkF m 18 #[.val (.ref a), .val (.ref xx), .val (.ref ed_2), .val (.int (0 : Int32))] [(.int (1 : Int32)), (.int (0 : Int32)), (.ref a)])) t_
    refine XS.iadd X4.here hx rfl (hb hby d22_18) rfl ?_
    exact k_
  obtain ⟨T5, h5, X5, e5, W5, st5⟩ := putF X4 hx hZ hown (host := "") (Or.inl (own_w hw 137 rfl)) Via.refl e4 (r2_4.other W4 (Or.inl (Nat.ne_of_lt (Nat.lt_of_lt_of_le u2.lt r2_0)))) ((u2.keep Kc2).wr W4) (Or.inl (own_w hw 138 rfl)) (own_w hw 11 rfl) (ty := .int) (by decide) rfl rfl (g := (mkF m 19 #[.val (.ref a), .val (.ref xx), .val (.ref ed_2), .val (.int (0 : Int32))] [(.int (1 : Int32)), (.ref a)])) rfl rfl (hb hby d22_19)
  have Fw5 : Fld Z h5 a "java/util/ArrayList" "size" "I" (.int (1 : Int32)) := (r2_4.other W4 (Or.inl (Nat.ne_of_lt (Nat.lt_of_lt_of_le u2.lt r2_0)))).same W5
  refine own_go st5 ?_
  have K5 : Keep h0 h5 [a] := K4.wr W5 (Or.inl (List.mem_of_getElem? (i := 0) rfl))
  have O5 := O4.wr W5 u7
  have N5 := Fr.snoc X5 N4 u7
  obtain ⟨fs6, hr6, hrun6, hended6, hW6, hsame6⟩ := X5.leave (v := none) (fun _ => rfl)
  refine ⟨_, _, ?_, hrun6, hended6, _, _, rfl, ?_, ⟨_, rfl⟩, hW6, hsame6.mono (by decide) (by decide)⟩
  · exact X5.returnOut hx Bd.returns (hb hby d22_22) hr6
  · show Q_rmAddP0 Z a xx dc kd mc h0 n0 _ T5.heap _
    rw [e5]
    exact ⟨ed_2, k_2, rfl, N5, K5, r2_0, (B4.other W5 (Ne.symm (Nat.ne_of_lt (Nat.lt_of_lt_of_le u2.lt r2_0)))), r2_2, ((r2_3.other W4 (Or.inl (Nat.ne_of_lt (Nat.lt_of_lt_of_le u2.lt r2_0)))).other W5 (Or.inr (slot_ne (Or.inl (own_w hw 35 rfl)) (Or.inl (own_w hw 138 rfl)) (by decide) (t := (.array (.object "java/lang/Object"))) (t' := .int) (by decide) (by decide)))), Fw5, ((r2_5.other W4 (Or.inl (Nat.ne_of_lt (Nat.lt_of_lt_of_le u2.lt r2_0)))).other W5 (Or.inr (slot_ne (Or.inl (own_w hw 32 rfl)) (Or.inl (own_w hw 138 rfl)) (by decide) (t := .int) (t' := .int) (by decide) (by decide))))⟩
theorem d21_0 : decode jdk_38_method_25_code 0 = .ok (.aload_n 0, 1) := by decide +kernel
theorem d21_1 : decode jdk_38_method_25_code 1 = .ok (.dup, 1) := by decide +kernel
theorem d21_2 : decode jdk_38_method_25_code 2 = .ok (.getfield 63, 3) := by decide +kernel
theorem d21_5 : decode jdk_38_method_25_code 5 = .ok (.iconst 1, 1) := by decide +kernel
theorem d21_6 : decode jdk_38_method_25_code 6 = .ok (.iadd, 1) := by decide +kernel
theorem d21_7 : decode jdk_38_method_25_code 7 = .ok (.putfield 63, 3) := by decide +kernel
theorem d21_10 : decode jdk_38_method_25_code 10 = .ok (.aload_n 0, 1) := by decide +kernel
theorem d21_11 : decode jdk_38_method_25_code 11 = .ok (.aload_n 1, 1) := by decide +kernel
theorem d21_12 : decode jdk_38_method_25_code 12 = .ok (.aload_n 0, 1) := by decide +kernel
theorem d21_13 : decode jdk_38_method_25_code 13 = .ok (.getfield 9, 3) := by decide +kernel
theorem d21_16 : decode jdk_38_method_25_code 16 = .ok (.aload_n 0, 1) := by decide +kernel
theorem d21_17 : decode jdk_38_method_25_code 17 = .ok (.getfield 48, 3) := by decide +kernel
theorem pd_15 : parseMethodDescriptor "(Ljava/lang/Object;[Ljava/lang/Object;I)V" = some ⟨[(.object "java/lang/Object"), (.array (.object "java/lang/Object")), .int], none⟩ := by decide +kernel
theorem d21_20 : decode jdk_38_method_25_code 20 = .ok (.invokevirtual 131, 3) := by decide +kernel
theorem d21_23 : decode jdk_38_method_25_code 23 = .ok (.iconst 1, 1) := by decide +kernel
theorem d21_24 : decode jdk_38_method_25_code 24 = .ok (.ireturn, 1) := by decide +kernel
abbrev own_y24 : MethodName := ⟨"java/util/ArrayList", "add", "(Ljava/lang/Object;)Z"⟩
theorem ef_rmAdd0 (m : MethodId) (a : Addr) (xx : Addr) : entryFrame m #[(.ref a), (.ref xx)] 2 = mkF m 0 #[.val (.ref a), .val (.ref xx)] [] := by first | (simp [entryFrame, mkF, argsToLocals, Value.category]; done) | rfl
def Q_rmAdd0 (Z : State) (a : Addr) (xx : Addr) (dc : Addr) (kd : ClassId) (mc : Int32) (h0 : Heap) (n0 : Nat) (v_ : Option Value) (h_ : Heap) (L_ : List Loc) : Prop := ∃ ed : Addr, ∃ k : ClassId, v_ = some (.int (1 : Int32)) ∧ Fr n0 L_ ∧ Keep h0 h_ [a] ∧ h0.size ≤ ed ∧ Arv Z h_ ed k (.object "java/lang/Object") (10 : Int32) [(.ref xx), .null, .null, .null, .null, .null, .null, .null, .null, .null] .null ∧ Ovr Z k "java/lang/Object" ∧ Fld Z h_ a "java/util/ArrayList" "elementData" "[Ljava/lang/Object;" (.ref ed) ∧ Fld Z h_ a "java/util/ArrayList" "size" "I" (.int (1 : Int32)) ∧ Fld Z h_ a "java/util/AbstractList" "modCount" "I" (.int (mc + (1 : Int32)))
set_option maxRecDepth 65536 in
set_option maxHeartbeats 40000000 in
theorem rmAdd0 (l : Launch) (Z : State) (a0 : Array Value) (hw : ∀ d ∈ tables_1, d.before a0 Z = true) (ws : List Jvm.Cond) (a : Addr) (xx : Addr) (dc : Addr) (kd : ClassId) (mc : Int32) (h0 : Heap) (n0 : Nat) (Z0 : n0 ≤ h0.size) (O0 : Old Z n0 h0) (u1 : Sta Z Z.heap "java/util/ArrayList" "DEFAULTCAPACITY_EMPTY_ELEMENTDATA" "[Ljava/lang/Object;" (.ref dc)) (u2 : Exa Z h0 a "java/util/ArrayList") (u3 : Fld Z h0 a "java/util/ArrayList" "elementData" "[Ljava/lang/Object;" (.ref dc)) (u4 : Fld Z h0 a "java/util/ArrayList" "size" "I" (.int (0 : Int32))) (u5 : Fld Z h0 a "java/util/AbstractList" "modCount" "I" (.int mc)) (u6 : Arv Z Z.heap dc kd (.object "java/lang/Object") (0 : Int32) [] .null) (u7 : n0 ≤ a) (u8 : Exa Z h0 xx "com/example/firmline/firmline/model/Task") :
    MetFree l own_y24 (head1 (Jvm.Cond.code own_y24 jdk_38_method_25_code 2 (some .boolean) :: ws) ({ frames := 4, cells := 1, slots := 10, locals := 56 } : Room)) (fun a_ U_ => a_ = #[(.ref a), (.ref xx)] ∧ Z.Warmed39 U_.vm ∧ U_.heap = h0) (fun _ _ _ _ _ => True) (fun _ U_ o_ U2_ => ∃ v_ L_, o_ = .returned v_ ∧ Q_rmAdd0 Z a xx dc kd mc h0 n0 v_ U2_.heap L_ ∧ FrameEnd U_ o_ U2_ L_ ({ frames := 4, cells := 1, slots := 10, locals := 56 } : Room).cells ({ frames := 4, cells := 1, slots := 10, locals := 56 } : Room).slots) := by
  refine MetFree.of_bodySF (plainFor_of_name pn_8) hisR ?_
  intro p e s m args below meth c s₁ Bd hml0 hP hK
  obtain ⟨rfl, hZ, hh⟩ := hP
  have hx := Bd.exec
  have hby := Bd.bytes
  have hml : c.maxLocals = 2 := hml0
  have hown : s.vm.findClass "java/util/ArrayList" = some m.cls := findClass_of_methodNamed Bd.named
  have hnm := (name_of_methodNamed Bd.named Bd.method).1
  have X0 : Stand p l e ({ frames := 4, cells := 1, slots := 10, locals := 56 } : Room) s m #[(.ref a), (.ref xx)] below meth c s₁ [] 0 0 := Stand.of_body Bd
  have e0 : s₁.heap = h0 := by rw [← hh, Bd.state]; rfl
  have N0 := Fr.nil n0
  refine own_go (A := s₁.setTop (mkF m 0 #[.val (.ref a), .val (.ref xx)] [])) (fun t_ k_ => castTop (ef_rmAdd0 m a xx) k_) ?_
  refine own_go (A := s₁.setTop (mkF m 2 #[.val (.ref a), .val (.ref xx)] [(.ref a), (.ref a)])) (fun t_ k_ => ?_) ?_
  · show Steps p.tables e below (s₁.setTop (mkF m 0 #[.val (.ref a), .val (.ref xx)] [])) t_
    refine XS.aloadN X0.here hx rfl (hb hby d21_0) rfl rfl ?_
    show Steps p.tables e below (s₁.setTop (mkF m 1 #[.val (.ref a), .val (.ref xx)] [(.ref a)])) t_
    refine XS.dup X0.here hx rfl (hb hby d21_1) rfl rfl ?_
    exact k_
  obtain ⟨T1, X1, e1, st1⟩ := getF X0 hx hZ hown (host := "") (Or.inl (own_w hw 135 rfl)) (Via.of (own_w hw 136 rfl)) e0 u5 (g := (mkF m 2 #[.val (.ref a), .val (.ref xx)] [(.ref a), (.ref a)])) rfl rfl (hb hby d21_2)
  refine own_go st1 ?_
  refine own_go (A := T1.setTop (mkF m 7 #[.val (.ref a), .val (.ref xx)] [(.int (mc + (1 : Int32))), (.ref a)])) (fun t_ k_ => ?_) ?_
  · show Steps p.tables e below (T1.setTop (mkF m 5 #[.val (.ref a), .val (.ref xx)] [(.int mc), (.ref a)])) t_
    refine XS.iconst X1.here hx rfl (hb hby d21_5) ?_
    show Steps p.tables e below (T1.setTop (mkF m 6 #[.val (.ref a), .val (.ref xx)] [(.int (1 : Int32)), (.int mc), (.ref a)])) t_
    refine XS.iadd X1.here hx rfl (hb hby d21_6) rfl ?_
    exact k_
  obtain ⟨T2, h2, X2, e2, W2, st2⟩ := putF X1 hx hZ hown (host := "") (Or.inl (own_w hw 135 rfl)) (Via.of (own_w hw 136 rfl)) e1 u5 u2 (Or.inl (own_w hw 32 rfl)) (own_w hw 11 rfl) (ty := .int) (by decide) rfl rfl (g := (mkF m 7 #[.val (.ref a), .val (.ref xx)] [(.int (mc + (1 : Int32))), (.ref a)])) rfl rfl (hb hby d21_7)
  have Fw2 : Fld Z h2 a "java/util/AbstractList" "modCount" "I" (.int (mc + (1 : Int32))) := u5.same W2
  refine own_go st2 ?_
  have K2 : Keep h0 h2 [a] := (Keep.refl h0 [a]).wr W2 (Or.inl (List.mem_of_getElem? (i := 0) rfl))
  have O2 := O0.wr W2 u7
  have N2 := Fr.snoc X2 N0 u7
  refine own_go (A := T2.setTop (mkF m 13 #[.val (.ref a), .val (.ref xx)] [(.ref a), (.ref xx), (.ref a)])) (fun t_ k_ => ?_) ?_
  · show Steps p.tables e below (T2.setTop (mkF m 10 #[.val (.ref a), .val (.ref xx)] [])) t_
    refine XS.aloadN X2.here hx rfl (hb hby d21_10) rfl rfl ?_
    show Steps p.tables e below (T2.setTop (mkF m 11 #[.val (.ref a), .val (.ref xx)] [(.ref a)])) t_
    refine XS.aloadN X2.here hx rfl (hb hby d21_11) rfl rfl ?_
    show Steps p.tables e below (T2.setTop (mkF m 12 #[.val (.ref a), .val (.ref xx)] [(.ref xx), (.ref a)])) t_
    refine XS.aloadN X2.here hx rfl (hb hby d21_12) rfl rfl ?_
    exact k_
  obtain ⟨T3, X3, e3, st3⟩ := getF X2 hx hZ hown (host := "") (Or.inl (own_w hw 34 rfl)) Via.refl e2 (u3.other W2 (Or.inr (slot_ne (Or.inl (own_w hw 35 rfl)) (Or.inl (own_w hw 32 rfl)) (by decide) (t := (.array (.object "java/lang/Object"))) (t' := .int) (by decide) (by decide)))) (g := (mkF m 13 #[.val (.ref a), .val (.ref xx)] [(.ref a), (.ref xx), (.ref a)])) rfl rfl (hb hby d21_13)
  refine own_go st3 ?_
  refine own_go (A := T3.setTop (mkF m 17 #[.val (.ref a), .val (.ref xx)] [(.ref a), (.ref dc), (.ref xx), (.ref a)])) (fun t_ k_ => ?_) ?_
  · show Steps p.tables e below (T3.setTop (mkF m 16 #[.val (.ref a), .val (.ref xx)] [(.ref dc), (.ref xx), (.ref a)])) t_
    refine XS.aloadN X3.here hx rfl (hb hby d21_16) rfl rfl ?_
    exact k_
  obtain ⟨T4, X4, e4, st4⟩ := getF X3 hx hZ hown (host := "") (Or.inl (own_w hw 137 rfl)) Via.refl e3 (u4.other W2 (Or.inr (slot_ne (Or.inl (own_w hw 138 rfl)) (Or.inl (own_w hw 32 rfl)) (by decide) (t := .int) (t' := .int) (by decide) (by decide)))) (g := (mkF m 17 #[.val (.ref a), .val (.ref xx)] [(.ref a), (.ref dc), (.ref xx), (.ref a)])) rfl rfl (hb hby d21_17)
  refine own_go st4 ?_
  obtain ⟨cq5, q5, q5'⟩ := (u2.wr W2).cell
  obtain ⟨_, _, ⟨T5, L5, k5, n5⟩, -, X5, ⟨Lc5, hQ5, l5, y5, z5⟩, st5⟩ := X4.privateBack hx (y := own_y23) hown (mvT hZ (own_w hw 139 rfl)) (mvT hZ (own_w hw 140 rfl)) (mvT hZ (own_w hw 142 rfl)) (Cond.privateMethod_at (mvP hZ (own_w hw 141 rfl) (args := #[]))) (mvT hZ (own_w hw 143 rfl)) (by decide) (backOf (W := 0) (rmAddP0 l Z a0 hw [] a xx dc kd (mc + (1 : Int32)) h2 n0 (Nat.le_trans Z0 K2.1) O2 u1 (u2.wr W2) (u3.other W2 (Or.inr (slot_ne (Or.inl (own_w hw 35 rfl)) (Or.inl (own_w hw 32 rfl)) (by decide) (t := (.array (.object "java/lang/Object"))) (t' := .int) (by decide) (by decide)))) (u4.other W2 (Or.inr (slot_ne (Or.inl (own_w hw 138 rfl)) (Or.inl (own_w hw 32 rfl)) (by decide) (t := .int) (t' := .int) (by decide) (by decide)))) Fw2 u6 u7 (u8.wr W2)) hZ (own_w hw 143 rfl) (own_w hw 12 rfl) (by decide) (by decide)) (g := (mkF m 20 #[.val (.ref a), .val (.ref xx)] [(.int (0 : Int32)), (.ref dc), (.ref xx), (.ref a)])) rfl (by rw [hml]; rfl) (Steps.refl _) (a := a) (by rw [e4]; exact q5) q5' (argsL := [(.ref xx), (.ref dc), (.int (0 : Int32))]) (rest := []) (lenOf pd_15 rfl) rfl (by show 2 * 0 + _ ≤ _; exact Nat.le_of_eq rfl) (hb hby d21_20) (fun _ _ => ⟨rfl, e4, (by decide : 0 + 1 ≤ _), (by decide : 0 + 10 ≤ _)⟩)
  dsimp only [Pt.U, Pt.locs, Pt.cells, Pt.slots] at X5 l5 y5 z5 st5 hQ5
  subst l5 y5 z5
  obtain ⟨ed_5, k_5, rfl, N5q, Kc5, r5_0, r5_1, r5_2, r5_3, r5_4, r5_5⟩ := hQ5
  have N5 := Fr.app N2 N5q
  refine own_via st5 ?_
  have K5 : Keep h0 T5.heap [a] := K2.trans Kc5 (allS (P := fun x => x ∈ _ ∨ _ ≤ x) (Or.inl (List.mem_of_getElem? (i := 0) rfl)) all0)
  have O5 := O2.keep Kc5 (allS (P := fun x => n0 ≤ x) u7 all0)
  refine own_go (A := T5.setTop (mkF m 24 #[.val (.ref a), .val (.ref xx)] [(.int (1 : Int32))])) (fun t_ k_ => ?_) ?_
  · show Steps p.tables e below (T5.setTop (mkF m 23 #[.val (.ref a), .val (.ref xx)] [])) t_
    refine XS.iconst X5.here hx rfl (hb hby d21_23) ?_
    exact k_
  obtain ⟨fs6, hr6, hrun6, hended6, hW6, hsame6⟩ := X5.leave (v := some (.int (1 : Int32))) (fun h => by rw [Bd.returns] at h; cases h)
  refine ⟨_, _, ?_, hrun6, hended6, _, _, rfl, ?_, ⟨_, rfl⟩, hW6, hsame6.mono (by decide) (by decide)⟩
  · exact retN X5 hx (t := .boolean) Bd.returns (by simp) (hb hby d21_24) hr6
  · show Q_rmAdd0 Z a xx dc kd mc h0 n0 _ T5.heap _
    exact ⟨ed_5, k_5, rfl, N5, K5, (Nat.le_trans K2.1 r5_0), r5_1, r5_2, r5_3, r5_4, r5_5⟩
theorem ef_rmAddP1 (m : MethodId) (a : Addr) (xx : Addr) (ed : Addr) : entryFrame m #[(.ref a), (.ref xx), (.ref ed), (.int (1 : Int32))] 4 = mkF m 0 #[.val (.ref a), .val (.ref xx), .val (.ref ed), .val (.int (1 : Int32))] [] := by first | (simp [entryFrame, mkF, argsToLocals, Value.category]; done) | rfl
def Q_rmAddP1 (Z : State) (a : Addr) (xx : Addr) (ed : Addr) (k : ClassId) (mc : Int32) (yy0 : Addr) (h0 : Heap) (n0 : Nat) (v_ : Option Value) (h_ : Heap) (L_ : List Loc) : Prop := v_ = none ∧ Fr n0 L_ ∧ Keep h0 h_ [a, ed] ∧ Arv Z h_ ed k (.object "java/lang/Object") (10 : Int32) [(.ref yy0), (.ref xx), .null, .null, .null, .null, .null, .null, .null, .null] .null ∧ Fld Z h_ a "java/util/ArrayList" "elementData" "[Ljava/lang/Object;" (.ref ed) ∧ Fld Z h_ a "java/util/ArrayList" "size" "I" (.int (2 : Int32)) ∧ Fld Z h_ a "java/util/AbstractList" "modCount" "I" (.int mc)
set_option maxRecDepth 65536 in
set_option maxHeartbeats 40000000 in
theorem rmAddP1 (l : Launch) (Z : State) (a0 : Array Value) (hw : ∀ d ∈ tables_1, d.before a0 Z = true) (ws : List Jvm.Cond) (a : Addr) (xx : Addr) (ed : Addr) (k : ClassId) (mc : Int32) (yy0 : Addr) (h0 : Heap) (n0 : Nat) (Z0 : n0 ≤ h0.size) (u0 : Exa Z h0 a "java/util/ArrayList") (u1 : Fld Z h0 a "java/util/ArrayList" "elementData" "[Ljava/lang/Object;" (.ref ed)) (u2 : Fld Z h0 a "java/util/ArrayList" "size" "I" (.int (1 : Int32))) (u3 : Fld Z h0 a "java/util/AbstractList" "modCount" "I" (.int mc)) (u4 : Arv Z h0 ed k (.object "java/lang/Object") (10 : Int32) [(.ref yy0), .null, .null, .null, .null, .null, .null, .null, .null, .null] .null) (u5 : Ovr Z k "java/lang/Object") (u6 : n0 ≤ a) (u7 : n0 ≤ ed) (u8 : a ≠ ed) (u9 : Exa Z h0 xx "com/example/firmline/firmline/model/Task") :
    MetFree l own_y23 (head1 (Jvm.Cond.code own_y23 jdk_38_method_24_code 4 none :: ws) ({ frames := 0, cells := 0, slots := 0, locals := 0 } : Room)) (fun a_ U_ => a_ = #[(.ref a), (.ref xx), (.ref ed), (.int (1 : Int32))] ∧ Z.Warmed39 U_.vm ∧ U_.heap = h0) (fun _ _ _ _ _ => True) (fun _ U_ o_ U2_ => ∃ v_ L_, o_ = .returned v_ ∧ Q_rmAddP1 Z a xx ed k mc yy0 h0 n0 v_ U2_.heap L_ ∧ FrameEnd U_ o_ U2_ L_ ({ frames := 0, cells := 0, slots := 0, locals := 0 } : Room).cells ({ frames := 0, cells := 0, slots := 0, locals := 0 } : Room).slots) := by
  refine MetFree.of_bodySF (plainFor_of_name pn_8) hisR ?_
  intro p e s m args below meth c s₁ Bd hml0 hP hK
  obtain ⟨rfl, hZ, hh⟩ := hP
  have hx := Bd.exec
  have hby := Bd.bytes
  have hml : c.maxLocals = 4 := hml0
  have hown : s.vm.findClass "java/util/ArrayList" = some m.cls := findClass_of_methodNamed Bd.named
  have hnm := (name_of_methodNamed Bd.named Bd.method).1
  have X0 : Stand p l e ({ frames := 0, cells := 0, slots := 0, locals := 0 } : Room) s m #[(.ref a), (.ref xx), (.ref ed), (.int (1 : Int32))] below meth c s₁ [] 0 0 := Stand.of_body Bd
  have e0 : s₁.heap = h0 := by rw [← hh, Bd.state]; rfl
  have N0 := Fr.nil n0
  refine own_go (A := s₁.setTop (mkF m 0 #[.val (.ref a), .val (.ref xx), .val (.ref ed), .val (.int (1 : Int32))] [])) (fun t_ k_ => castTop (ef_rmAddP1 m a xx ed) k_) ?_
  obtain ⟨cl1, Ar1, q1, S1, M1, H1, G1⟩ := id u4
  refine own_go (A := s₁.setTop (mkF m 14 #[.val (.ref a), .val (.ref xx), .val (.ref ed), .val (.int (1 : Int32))] [(.ref xx), (.int (1 : Int32)), (.ref ed)])) (fun t_ k_ => ?_) ?_
  · show Steps p.tables e below (s₁.setTop (mkF m 0 #[.val (.ref a), .val (.ref xx), .val (.ref ed), .val (.int (1 : Int32))] [])) t_
    refine XS.iloadN X0.here hx rfl (hb hby d22_0) rfl ?_
    show Steps p.tables e below (s₁.setTop (mkF m 1 #[.val (.ref a), .val (.ref xx), .val (.ref ed), .val (.int (1 : Int32))] [(.int (1 : Int32))])) t_
    refine XS.aloadN X0.here hx rfl (hb hby d22_1) rfl rfl ?_
    show Steps p.tables e below (s₁.setTop (mkF m 2 #[.val (.ref a), .val (.ref xx), .val (.ref ed), .val (.int (1 : Int32))] [(.ref ed), (.int (1 : Int32))])) t_
    refine X0.arraylength hx (by rw [e0]; exact Ar1.1) (State.isArrayOf_alike hZ.alike Ar1.2.1) (g := (mkF m 2 #[.val (.ref a), .val (.ref xx), .val (.ref ed), .val (.int (1 : Int32))] [(.ref ed), (.int (1 : Int32))])) rfl rfl (hb hby d22_2) _ ?_
    rw [len_of S1 M1]
    show Steps p.tables e below (s₁.setTop (mkF m 3 #[.val (.ref a), .val (.ref xx), .val (.ref ed), .val (.int (1 : Int32))] [(.int (10 : Int32)), (.int (1 : Int32))])) t_
    refine XS.icmpYes X0.here hx rfl (pc0 := 3) (pc' := 11) rfl (hb hby d22_3) rfl (feq (by decide : ¬ ((1 : Int32) = (10 : Int32)))).2 (by decide) (by decide) ?_
    show Steps p.tables e below (s₁.setTop (mkF m 11 #[.val (.ref a), .val (.ref xx), .val (.ref ed), .val (.int (1 : Int32))] [])) t_
    refine XS.aloadN X0.here hx rfl (hb hby d22_11) rfl rfl ?_
    show Steps p.tables e below (s₁.setTop (mkF m 12 #[.val (.ref a), .val (.ref xx), .val (.ref ed), .val (.int (1 : Int32))] [(.ref ed)])) t_
    refine XS.iloadN X0.here hx rfl (hb hby d22_12) rfl ?_
    show Steps p.tables e below (s₁.setTop (mkF m 13 #[.val (.ref a), .val (.ref xx), .val (.ref ed), .val (.int (1 : Int32))] [(.int (1 : Int32)), (.ref ed)])) t_
    refine XS.aloadN X0.here hx rfl (hb hby d22_13) rfl rfl ?_
    exact k_
  obtain ⟨cl2, Ar2, q2, S2, M2, H2, G2⟩ := id u4
  have hin2 : ¬ ((1 : Int32) < 0 ∨ cl2.slots.size ≤ ((1 : Int32)).toNatClampNeg) := inb_of S2 ⟨by decide, by decide⟩
  obtain ⟨T3, h3, X3, e3, W3, st3⟩ := stR X0 hx hZ e0 Ar2 (j := (1 : Int32)) hin2 rfl (Sto.ofV Ar2 q2 u5 (Ins.of_exa u9 (own_w hw 159 rfl))) (g := (mkF m 14 #[.val (.ref a), .val (.ref xx), .val (.ref ed), .val (.int (1 : Int32))] [(.ref xx), (.int (1 : Int32)), (.ref ed)])) rfl rfl (hb hby d22_14)
  have B3 : Arv Z h3 ed k (.object "java/lang/Object") (10 : Int32) [(.ref yy0), (.ref xx), .null, .null, .null, .null, .null, .null, .null, .null] .null := Arv.set Ar2 q2 S2 M2 H2 G2 rfl W3 1 rfl (Nat.le_of_ble_eq_true rfl)
  refine own_go st3 ?_
  have K3 : Keep h0 h3 [a, ed] := (Keep.refl h0 [a, ed]).wr W3 (Or.inl (List.mem_of_getElem? (i := 1) rfl))
  have N3 := Fr.snoc X3 N0 u7
  refine own_go (A := T3.setTop (mkF m 19 #[.val (.ref a), .val (.ref xx), .val (.ref ed), .val (.int (1 : Int32))] [(.int (2 : Int32)), (.ref a)])) (fun t_ k_ => ?_) ?_
  · show Steps p.tables e below (T3.setTop (mkF m 15 #[.val (.ref a), .val (.ref xx), .val (.ref ed), .val (.int (1 : Int32))] [])) t_
    refine XS.aloadN X3.here hx rfl (hb hby d22_15) rfl rfl ?_
    show Steps p.tables e below (T3.setTop (mkF m 16 #[.val (.ref a), .val (.ref xx), .val (.ref ed), .val (.int (1 : Int32))] [(.ref a)])) t_
    refine XS.iloadN X3.here hx rfl (hb hby d22_16) rfl ?_
    show Steps p.tables e below (T3.setTop (mkF m 17 #[.val (.ref a), .val (.ref xx), .val (.ref ed), .val (.int (1 : Int32))] [(.int (1 : Int32)), (.ref a)])) t_
    refine XS.iconst X3.here hx rfl (hb hby d22_17) ?_
    show Steps p.tables e below (T3.setTop (mkF m 18 #[.val (.ref a), .val (.ref xx), .val (.ref ed), .val (.int (1 : Int32))] [(.int (1 : Int32)), (.int (1 : Int32)), (.ref a)])) t_
    refine XS.iadd X3.here hx rfl (hb hby d22_18) rfl ?_
    exact k_
  obtain ⟨T4, h4, X4, e4, W4, st4⟩ := putF X3 hx hZ hown (host := "") (Or.inl (own_w hw 137 rfl)) Via.refl e3 (u2.other W3 (Or.inl u8)) (u0.wr W3) (Or.inl (own_w hw 138 rfl)) (own_w hw 11 rfl) (ty := .int) (by decide) rfl rfl (g := (mkF m 19 #[.val (.ref a), .val (.ref xx), .val (.ref ed), .val (.int (1 : Int32))] [(.int (2 : Int32)), (.ref a)])) rfl rfl (hb hby d22_19)
  have Fw4 : Fld Z h4 a "java/util/ArrayList" "size" "I" (.int (2 : Int32)) := (u2.other W3 (Or.inl u8)).same W4
  refine own_go st4 ?_
  have K4 : Keep h0 h4 [a, ed] := K3.wr W4 (Or.inl (List.mem_of_getElem? (i := 0) rfl))
  have N4 := Fr.snoc X4 N3 u6
  obtain ⟨fs5, hr5, hrun5, hended5, hW5, hsame5⟩ := X4.leave (v := none) (fun _ => rfl)
  refine ⟨_, _, ?_, hrun5, hended5, _, _, rfl, ?_, ⟨_, rfl⟩, hW5, hsame5.mono (by decide) (by decide)⟩
  · exact X4.returnOut hx Bd.returns (hb hby d22_22) hr5
  · show Q_rmAddP1 Z a xx ed k mc yy0 h0 n0 _ T4.heap _
    rw [e4]
    exact ⟨rfl, N4, K4, (B3.other W4 (Ne.symm u8)), ((u1.other W3 (Or.inl u8)).other W4 (Or.inr (slot_ne (Or.inl (own_w hw 35 rfl)) (Or.inl (own_w hw 138 rfl)) (by decide) (t := (.array (.object "java/lang/Object"))) (t' := .int) (by decide) (by decide)))), Fw4, ((u3.other W3 (Or.inl u8)).other W4 (Or.inr (slot_ne (Or.inl (own_w hw 32 rfl)) (Or.inl (own_w hw 138 rfl)) (by decide) (t := .int) (t' := .int) (by decide) (by decide))))⟩
theorem ef_rmAdd1 (m : MethodId) (a : Addr) (xx : Addr) : entryFrame m #[(.ref a), (.ref xx)] 2 = mkF m 0 #[.val (.ref a), .val (.ref xx)] [] := by first | (simp [entryFrame, mkF, argsToLocals, Value.category]; done) | rfl
def Q_rmAdd1 (Z : State) (a : Addr) (xx : Addr) (ed : Addr) (k : ClassId) (mc : Int32) (yy0 : Addr) (h0 : Heap) (n0 : Nat) (v_ : Option Value) (h_ : Heap) (L_ : List Loc) : Prop := v_ = some (.int (1 : Int32)) ∧ Fr n0 L_ ∧ Keep h0 h_ [a, ed] ∧ Arv Z h_ ed k (.object "java/lang/Object") (10 : Int32) [(.ref yy0), (.ref xx), .null, .null, .null, .null, .null, .null, .null, .null] .null ∧ Fld Z h_ a "java/util/ArrayList" "elementData" "[Ljava/lang/Object;" (.ref ed) ∧ Fld Z h_ a "java/util/ArrayList" "size" "I" (.int (2 : Int32)) ∧ Fld Z h_ a "java/util/AbstractList" "modCount" "I" (.int (mc + (1 : Int32)))
set_option maxRecDepth 65536 in
set_option maxHeartbeats 40000000 in
theorem rmAdd1 (l : Launch) (Z : State) (a0 : Array Value) (hw : ∀ d ∈ tables_1, d.before a0 Z = true) (ws : List Jvm.Cond) (a : Addr) (xx : Addr) (ed : Addr) (k : ClassId) (mc : Int32) (yy0 : Addr) (h0 : Heap) (n0 : Nat) (Z0 : n0 ≤ h0.size) (u0 : Exa Z h0 a "java/util/ArrayList") (u1 : Fld Z h0 a "java/util/ArrayList" "elementData" "[Ljava/lang/Object;" (.ref ed)) (u2 : Fld Z h0 a "java/util/ArrayList" "size" "I" (.int (1 : Int32))) (u3 : Fld Z h0 a "java/util/AbstractList" "modCount" "I" (.int mc)) (u4 : Arv Z h0 ed k (.object "java/lang/Object") (10 : Int32) [(.ref yy0), .null, .null, .null, .null, .null, .null, .null, .null, .null] .null) (u5 : Ovr Z k "java/lang/Object") (u6 : n0 ≤ a) (u7 : n0 ≤ ed) (u8 : a ≠ ed) (u9 : Exa Z h0 xx "com/example/firmline/firmline/model/Task") :
    MetFree l own_y24 (head1 (Jvm.Cond.code own_y24 jdk_38_method_25_code 2 (some .boolean) :: ws) ({ frames := 1, cells := 0, slots := 0, locals := 15 } : Room)) (fun a_ U_ => a_ = #[(.ref a), (.ref xx)] ∧ Z.Warmed39 U_.vm ∧ U_.heap = h0) (fun _ _ _ _ _ => True) (fun _ U_ o_ U2_ => ∃ v_ L_, o_ = .returned v_ ∧ Q_rmAdd1 Z a xx ed k mc yy0 h0 n0 v_ U2_.heap L_ ∧ FrameEnd U_ o_ U2_ L_ ({ frames := 1, cells := 0, slots := 0, locals := 15 } : Room).cells ({ frames := 1, cells := 0, slots := 0, locals := 15 } : Room).slots) := by
  refine MetFree.of_bodySF (plainFor_of_name pn_8) hisR ?_
  intro p e s m args below meth c s₁ Bd hml0 hP hK
  obtain ⟨rfl, hZ, hh⟩ := hP
  have hx := Bd.exec
  have hby := Bd.bytes
  have hml : c.maxLocals = 2 := hml0
  have hown : s.vm.findClass "java/util/ArrayList" = some m.cls := findClass_of_methodNamed Bd.named
  have hnm := (name_of_methodNamed Bd.named Bd.method).1
  have X0 : Stand p l e ({ frames := 1, cells := 0, slots := 0, locals := 15 } : Room) s m #[(.ref a), (.ref xx)] below meth c s₁ [] 0 0 := Stand.of_body Bd
  have e0 : s₁.heap = h0 := by rw [← hh, Bd.state]; rfl
  have N0 := Fr.nil n0
  refine own_go (A := s₁.setTop (mkF m 0 #[.val (.ref a), .val (.ref xx)] [])) (fun t_ k_ => castTop (ef_rmAdd1 m a xx) k_) ?_
  refine own_go (A := s₁.setTop (mkF m 2 #[.val (.ref a), .val (.ref xx)] [(.ref a), (.ref a)])) (fun t_ k_ => ?_) ?_
  · show Steps p.tables e below (s₁.setTop (mkF m 0 #[.val (.ref a), .val (.ref xx)] [])) t_
    refine XS.aloadN X0.here hx rfl (hb hby d21_0) rfl rfl ?_
    show Steps p.tables e below (s₁.setTop (mkF m 1 #[.val (.ref a), .val (.ref xx)] [(.ref a)])) t_
    refine XS.dup X0.here hx rfl (hb hby d21_1) rfl rfl ?_
    exact k_
  obtain ⟨T1, X1, e1, st1⟩ := getF X0 hx hZ hown (host := "") (Or.inl (own_w hw 135 rfl)) (Via.of (own_w hw 136 rfl)) e0 u3 (g := (mkF m 2 #[.val (.ref a), .val (.ref xx)] [(.ref a), (.ref a)])) rfl rfl (hb hby d21_2)
  refine own_go st1 ?_
  refine own_go (A := T1.setTop (mkF m 7 #[.val (.ref a), .val (.ref xx)] [(.int (mc + (1 : Int32))), (.ref a)])) (fun t_ k_ => ?_) ?_
  · show Steps p.tables e below (T1.setTop (mkF m 5 #[.val (.ref a), .val (.ref xx)] [(.int mc), (.ref a)])) t_
    refine XS.iconst X1.here hx rfl (hb hby d21_5) ?_
    show Steps p.tables e below (T1.setTop (mkF m 6 #[.val (.ref a), .val (.ref xx)] [(.int (1 : Int32)), (.int mc), (.ref a)])) t_
    refine XS.iadd X1.here hx rfl (hb hby d21_6) rfl ?_
    exact k_
  obtain ⟨T2, h2, X2, e2, W2, st2⟩ := putF X1 hx hZ hown (host := "") (Or.inl (own_w hw 135 rfl)) (Via.of (own_w hw 136 rfl)) e1 u3 u0 (Or.inl (own_w hw 32 rfl)) (own_w hw 11 rfl) (ty := .int) (by decide) rfl rfl (g := (mkF m 7 #[.val (.ref a), .val (.ref xx)] [(.int (mc + (1 : Int32))), (.ref a)])) rfl rfl (hb hby d21_7)
  have Fw2 : Fld Z h2 a "java/util/AbstractList" "modCount" "I" (.int (mc + (1 : Int32))) := u3.same W2
  refine own_go st2 ?_
  have K2 : Keep h0 h2 [a, ed] := (Keep.refl h0 [a, ed]).wr W2 (Or.inl (List.mem_of_getElem? (i := 0) rfl))
  have N2 := Fr.snoc X2 N0 u6
  refine own_go (A := T2.setTop (mkF m 13 #[.val (.ref a), .val (.ref xx)] [(.ref a), (.ref xx), (.ref a)])) (fun t_ k_ => ?_) ?_
  · show Steps p.tables e below (T2.setTop (mkF m 10 #[.val (.ref a), .val (.ref xx)] [])) t_
    refine XS.aloadN X2.here hx rfl (hb hby d21_10) rfl rfl ?_
    show Steps p.tables e below (T2.setTop (mkF m 11 #[.val (.ref a), .val (.ref xx)] [(.ref a)])) t_
    refine XS.aloadN X2.here hx rfl (hb hby d21_11) rfl rfl ?_
    show Steps p.tables e below (T2.setTop (mkF m 12 #[.val (.ref a), .val (.ref xx)] [(.ref xx), (.ref a)])) t_
    refine XS.aloadN X2.here hx rfl (hb hby d21_12) rfl rfl ?_
    exact k_
  obtain ⟨T3, X3, e3, st3⟩ := getF X2 hx hZ hown (host := "") (Or.inl (own_w hw 34 rfl)) Via.refl e2 (u1.other W2 (Or.inr (slot_ne (Or.inl (own_w hw 35 rfl)) (Or.inl (own_w hw 32 rfl)) (by decide) (t := (.array (.object "java/lang/Object"))) (t' := .int) (by decide) (by decide)))) (g := (mkF m 13 #[.val (.ref a), .val (.ref xx)] [(.ref a), (.ref xx), (.ref a)])) rfl rfl (hb hby d21_13)
  refine own_go st3 ?_
  refine own_go (A := T3.setTop (mkF m 17 #[.val (.ref a), .val (.ref xx)] [(.ref a), (.ref ed), (.ref xx), (.ref a)])) (fun t_ k_ => ?_) ?_
  · show Steps p.tables e below (T3.setTop (mkF m 16 #[.val (.ref a), .val (.ref xx)] [(.ref ed), (.ref xx), (.ref a)])) t_
    refine XS.aloadN X3.here hx rfl (hb hby d21_16) rfl rfl ?_
    exact k_
  obtain ⟨T4, X4, e4, st4⟩ := getF X3 hx hZ hown (host := "") (Or.inl (own_w hw 137 rfl)) Via.refl e3 (u2.other W2 (Or.inr (slot_ne (Or.inl (own_w hw 138 rfl)) (Or.inl (own_w hw 32 rfl)) (by decide) (t := .int) (t' := .int) (by decide) (by decide)))) (g := (mkF m 17 #[.val (.ref a), .val (.ref xx)] [(.ref a), (.ref ed), (.ref xx), (.ref a)])) rfl rfl (hb hby d21_17)
  refine own_go st4 ?_
  obtain ⟨cq5, q5, q5'⟩ := (u0.wr W2).cell
  obtain ⟨_, _, ⟨T5, L5, k5, n5⟩, -, X5, ⟨Lc5, hQ5, l5, y5, z5⟩, st5⟩ := X4.privateBack hx (y := own_y23) hown (mvT hZ (own_w hw 139 rfl)) (mvT hZ (own_w hw 140 rfl)) (mvT hZ (own_w hw 142 rfl)) (Cond.privateMethod_at (mvP hZ (own_w hw 141 rfl) (args := #[]))) (mvT hZ (own_w hw 143 rfl)) (by decide) (backOf (W := 0) (rmAddP1 l Z a0 hw [] a xx ed k (mc + (1 : Int32)) yy0 h2 n0 (Nat.le_trans Z0 K2.1) (u0.wr W2) (u1.other W2 (Or.inr (slot_ne (Or.inl (own_w hw 35 rfl)) (Or.inl (own_w hw 32 rfl)) (by decide) (t := (.array (.object "java/lang/Object"))) (t' := .int) (by decide) (by decide)))) (u2.other W2 (Or.inr (slot_ne (Or.inl (own_w hw 138 rfl)) (Or.inl (own_w hw 32 rfl)) (by decide) (t := .int) (t' := .int) (by decide) (by decide)))) Fw2 (u4.other W2 (Ne.symm u8)) u5 u6 u7 u8 (u9.wr W2)) hZ (own_w hw 143 rfl) (own_w hw 12 rfl) (by decide) (by decide)) (g := (mkF m 20 #[.val (.ref a), .val (.ref xx)] [(.int (1 : Int32)), (.ref ed), (.ref xx), (.ref a)])) rfl (by rw [hml]; rfl) (Steps.refl _) (a := a) (by rw [e4]; exact q5) q5' (argsL := [(.ref xx), (.ref ed), (.int (1 : Int32))]) (rest := []) (lenOf pd_15 rfl) rfl (by show 2 * 0 + _ ≤ _; exact Nat.le_of_eq rfl) (hb hby d21_20) (fun _ _ => ⟨rfl, e4, (by decide : 0 + 0 ≤ _), (by decide : 0 + 0 ≤ _)⟩)
  dsimp only [Pt.U, Pt.locs, Pt.cells, Pt.slots] at X5 l5 y5 z5 st5 hQ5
  subst l5 y5 z5
  obtain ⟨rfl, N5q, Kc5, r5_0, r5_1, r5_2, r5_3⟩ := hQ5
  have N5 := Fr.app N2 N5q
  refine own_via st5 ?_
  have K5 : Keep h0 T5.heap [a, ed] := K2.trans Kc5 (allS (P := fun x => x ∈ _ ∨ _ ≤ x) (Or.inl (List.mem_of_getElem? (i := 0) rfl)) (allS (P := fun x => x ∈ _ ∨ _ ≤ x) (Or.inl (List.mem_of_getElem? (i := 1) rfl)) all0))
  refine own_go (A := T5.setTop (mkF m 24 #[.val (.ref a), .val (.ref xx)] [(.int (1 : Int32))])) (fun t_ k_ => ?_) ?_
  · show Steps p.tables e below (T5.setTop (mkF m 23 #[.val (.ref a), .val (.ref xx)] [])) t_
    refine XS.iconst X5.here hx rfl (hb hby d21_23) ?_
    exact k_
  obtain ⟨fs6, hr6, hrun6, hended6, hW6, hsame6⟩ := X5.leave (v := some (.int (1 : Int32))) (fun h => by rw [Bd.returns] at h; cases h)
  refine ⟨_, _, ?_, hrun6, hended6, _, _, rfl, ?_, ⟨_, rfl⟩, hW6, hsame6.mono (by decide) (by decide)⟩
  · exact retN X5 hx (t := .boolean) Bd.returns (by simp) (hb hby d21_24) hr6
  · show Q_rmAdd1 Z a xx ed k mc yy0 h0 n0 _ T5.heap _
    exact ⟨rfl, N5, K5, r5_0, r5_1, r5_2, r5_3⟩
theorem ef_rmAddP2 (m : MethodId) (a : Addr) (xx : Addr) (ed : Addr) : entryFrame m #[(.ref a), (.ref xx), (.ref ed), (.int (2 : Int32))] 4 = mkF m 0 #[.val (.ref a), .val (.ref xx), .val (.ref ed), .val (.int (2 : Int32))] [] := by first | (simp [entryFrame, mkF, argsToLocals, Value.category]; done) | rfl
def Q_rmAddP2 (Z : State) (a : Addr) (xx : Addr) (ed : Addr) (k : ClassId) (mc : Int32) (yy0 : Addr) (yy1 : Addr) (h0 : Heap) (n0 : Nat) (v_ : Option Value) (h_ : Heap) (L_ : List Loc) : Prop := v_ = none ∧ Fr n0 L_ ∧ Keep h0 h_ [a, ed] ∧ Arv Z h_ ed k (.object "java/lang/Object") (10 : Int32) [(.ref yy0), (.ref yy1), (.ref xx), .null, .null, .null, .null, .null, .null, .null] .null ∧ Fld Z h_ a "java/util/ArrayList" "elementData" "[Ljava/lang/Object;" (.ref ed) ∧ Fld Z h_ a "java/util/ArrayList" "size" "I" (.int (3 : Int32)) ∧ Fld Z h_ a "java/util/AbstractList" "modCount" "I" (.int mc)
set_option maxRecDepth 65536 in
set_option maxHeartbeats 40000000 in
theorem rmAddP2 (l : Launch) (Z : State) (a0 : Array Value) (hw : ∀ d ∈ tables_1, d.before a0 Z = true) (ws : List Jvm.Cond) (a : Addr) (xx : Addr) (ed : Addr) (k : ClassId) (mc : Int32) (yy0 : Addr) (yy1 : Addr) (h0 : Heap) (n0 : Nat) (Z0 : n0 ≤ h0.size) (u0 : Exa Z h0 a "java/util/ArrayList") (u1 : Fld Z h0 a "java/util/ArrayList" "elementData" "[Ljava/lang/Object;" (.ref ed)) (u2 : Fld Z h0 a "java/util/ArrayList" "size" "I" (.int (2 : Int32))) (u3 : Fld Z h0 a "java/util/AbstractList" "modCount" "I" (.int mc)) (u4 : Arv Z h0 ed k (.object "java/lang/Object") (10 : Int32) [(.ref yy0), (.ref yy1), .null, .null, .null, .null, .null, .null, .null, .null] .null) (u5 : Ovr Z k "java/lang/Object") (u6 : n0 ≤ a) (u7 : n0 ≤ ed) (u8 : a ≠ ed) (u9 : Exa Z h0 xx "com/example/firmline/firmline/model/Task") :
    MetFree l own_y23 (head1 (Jvm.Cond.code own_y23 jdk_38_method_24_code 4 none :: ws) ({ frames := 0, cells := 0, slots := 0, locals := 0 } : Room)) (fun a_ U_ => a_ = #[(.ref a), (.ref xx), (.ref ed), (.int (2 : Int32))] ∧ Z.Warmed39 U_.vm ∧ U_.heap = h0) (fun _ _ _ _ _ => True) (fun _ U_ o_ U2_ => ∃ v_ L_, o_ = .returned v_ ∧ Q_rmAddP2 Z a xx ed k mc yy0 yy1 h0 n0 v_ U2_.heap L_ ∧ FrameEnd U_ o_ U2_ L_ ({ frames := 0, cells := 0, slots := 0, locals := 0 } : Room).cells ({ frames := 0, cells := 0, slots := 0, locals := 0 } : Room).slots) := by
  refine MetFree.of_bodySF (plainFor_of_name pn_8) hisR ?_
  intro p e s m args below meth c s₁ Bd hml0 hP hK
  obtain ⟨rfl, hZ, hh⟩ := hP
  have hx := Bd.exec
  have hby := Bd.bytes
  have hml : c.maxLocals = 4 := hml0
  have hown : s.vm.findClass "java/util/ArrayList" = some m.cls := findClass_of_methodNamed Bd.named
  have hnm := (name_of_methodNamed Bd.named Bd.method).1
  have X0 : Stand p l e ({ frames := 0, cells := 0, slots := 0, locals := 0 } : Room) s m #[(.ref a), (.ref xx), (.ref ed), (.int (2 : Int32))] below meth c s₁ [] 0 0 := Stand.of_body Bd
  have e0 : s₁.heap = h0 := by rw [← hh, Bd.state]; rfl
  have N0 := Fr.nil n0
  refine own_go (A := s₁.setTop (mkF m 0 #[.val (.ref a), .val (.ref xx), .val (.ref ed), .val (.int (2 : Int32))] [])) (fun t_ k_ => castTop (ef_rmAddP2 m a xx ed) k_) ?_
  obtain ⟨cl1, Ar1, q1, S1, M1, H1, G1⟩ := id u4
  refine own_go (A := s₁.setTop (mkF m 14 #[.val (.ref a), .val (.ref xx), .val (.ref ed), .val (.int (2 : Int32))] [(.ref xx), (.int (2 : Int32)), (.ref ed)])) (fun t_ k_ => ?_) ?_
  · show Steps p.tables e below (s₁.setTop (mkF m 0 #[.val (.ref a), .val (.ref xx), .val (.ref ed), .val (.int (2 : Int32))] [])) t_
    refine XS.iloadN X0.here hx rfl (hb hby d22_0) rfl ?_
    show Steps p.tables e below (s₁.setTop (mkF m 1 #[.val (.ref a), .val (.ref xx), .val (.ref ed), .val (.int (2 : Int32))] [(.int (2 : Int32))])) t_
    refine XS.aloadN X0.here hx rfl (hb hby d22_1) rfl rfl ?_
    show Steps p.tables e below (s₁.setTop (mkF m 2 #[.val (.ref a), .val (.ref xx), .val (.ref ed), .val (.int (2 : Int32))] [(.ref ed), (.int (2 : Int32))])) t_
    refine X0.arraylength hx (by rw [e0]; exact Ar1.1) (State.isArrayOf_alike hZ.alike Ar1.2.1) (g := (mkF m 2 #[.val (.ref a), .val (.ref xx), .val (.ref ed), .val (.int (2 : Int32))] [(.ref ed), (.int (2 : Int32))])) rfl rfl (hb hby d22_2) _ ?_
    rw [len_of S1 M1]
    show Steps p.tables e below (s₁.setTop (mkF m 3 #[.val (.ref a), .val (.ref xx), .val (.ref ed), .val (.int (2 : Int32))] [(.int (10 : Int32)), (.int (2 : Int32))])) t_
    refine XS.icmpYes X0.here hx rfl (pc0 := 3) (pc' := 11) rfl (hb hby d22_3) rfl (feq (by decide : ¬ ((2 : Int32) = (10 : Int32)))).2 (by decide) (by decide) ?_
    show Steps p.tables e below (s₁.setTop (mkF m 11 #[.val (.ref a), .val (.ref xx), .val (.ref ed), .val (.int (2 : Int32))] [])) t_
    refine XS.aloadN X0.here hx rfl (hb hby d22_11) rfl rfl ?_
    show Steps p.tables e below (s₁.setTop (mkF m 12 #[.val (.ref a), .val (.ref xx), .val (.ref ed), .val (.int (2 : Int32))] [(.ref ed)])) t_
    refine XS.iloadN X0.here hx rfl (hb hby d22_12) rfl ?_
    show Steps p.tables e below (s₁.setTop (mkF m 13 #[.val (.ref a), .val (.ref xx), .val (.ref ed), .val (.int (2 : Int32))] [(.int (2 : Int32)), (.ref ed)])) t_
    refine XS.aloadN X0.here hx rfl (hb hby d22_13) rfl rfl ?_
    exact k_
  obtain ⟨cl2, Ar2, q2, S2, M2, H2, G2⟩ := id u4
  have hin2 : ¬ ((2 : Int32) < 0 ∨ cl2.slots.size ≤ ((2 : Int32)).toNatClampNeg) := inb_of S2 ⟨by decide, by decide⟩
  obtain ⟨T3, h3, X3, e3, W3, st3⟩ := stR X0 hx hZ e0 Ar2 (j := (2 : Int32)) hin2 rfl (Sto.ofV Ar2 q2 u5 (Ins.of_exa u9 (own_w hw 159 rfl))) (g := (mkF m 14 #[.val (.ref a), .val (.ref xx), .val (.ref ed), .val (.int (2 : Int32))] [(.ref xx), (.int (2 : Int32)), (.ref ed)])) rfl rfl (hb hby d22_14)
  have B3 : Arv Z h3 ed k (.object "java/lang/Object") (10 : Int32) [(.ref yy0), (.ref yy1), (.ref xx), .null, .null, .null, .null, .null, .null, .null] .null := Arv.set Ar2 q2 S2 M2 H2 G2 rfl W3 2 rfl (Nat.le_of_ble_eq_true rfl)
  refine own_go st3 ?_
  have K3 : Keep h0 h3 [a, ed] := (Keep.refl h0 [a, ed]).wr W3 (Or.inl (List.mem_of_getElem? (i := 1) rfl))
  have N3 := Fr.snoc X3 N0 u7
  refine own_go (A := T3.setTop (mkF m 19 #[.val (.ref a), .val (.ref xx), .val (.ref ed), .val (.int (2 : Int32))] [(.int (3 : Int32)), (.ref a)])) (fun t_ k_ => ?_) ?_
  · show Steps p.tables e below (T3.setTop (mkF m 15 #[.val (.ref a), .val (.ref xx), .val (.ref ed), .val (.int (2 : Int32))] [])) t_
    refine XS.aloadN X3.here hx rfl (hb hby d22_15) rfl rfl ?_
    show Steps p.tables e below (T3.setTop (mkF m 16 #[.val (.ref a), .val (.ref xx), .val (.ref ed), .val (.int (2 : Int32))] [(.ref a)])) t_
    refine XS.iloadN X3.here hx rfl (hb hby d22_16) rfl ?_
    show Steps p.tables e below (T3.setTop (mkF m 17 #[.val (.ref a), .val (.ref xx), .val (.ref ed), .val (.int (2 : Int32))] [(.int (2 : Int32)), (.ref a)])) t_
    refine XS.iconst X3.here hx rfl (hb hby d22_17) ?_
    show Steps p.tables e below (T3.setTop (mkF m 18 #[.val (.ref a), .val (.ref xx), .val (.ref ed), .val (.int (2 : Int32))] [(.int (1 : Int32)), (.int (2 : Int32)), (.ref a)])) t_
    refine XS.iadd X3.here hx rfl (hb hby d22_18) rfl ?_
    exact k_
  obtain ⟨T4, h4, X4, e4, W4, st4⟩ := putF X3 hx hZ hown (host := "") (Or.inl (own_w hw 137 rfl)) Via.refl e3 (u2.other W3 (Or.inl u8)) (u0.wr W3) (Or.inl (own_w hw 138 rfl)) (own_w hw 11 rfl) (ty := .int) (by decide) rfl rfl (g := (mkF m 19 #[.val (.ref a), .val (.ref xx), .val (.ref ed), .val (.int (2 : Int32))] [(.int (3 : Int32)), (.ref a)])) rfl rfl (hb hby d22_19)
  have Fw4 : Fld Z h4 a "java/util/ArrayList" "size" "I" (.int (3 : Int32)) := (u2.other W3 (Or.inl u8)).same W4
  refine own_go st4 ?_
  have K4 : Keep h0 h4 [a, ed] := K3.wr W4 (Or.inl (List.mem_of_getElem? (i := 0) rfl))
  have N4 := Fr.snoc X4 N3 u6
  obtain ⟨fs5, hr5, hrun5, hended5, hW5, hsame5⟩ := X4.leave (v := none) (fun _ => rfl)
  refine ⟨_, _, ?_, hrun5, hended5, _, _, rfl, ?_, ⟨_, rfl⟩, hW5, hsame5.mono (by decide) (by decide)⟩
  · exact X4.returnOut hx Bd.returns (hb hby d22_22) hr5
  · show Q_rmAddP2 Z a xx ed k mc yy0 yy1 h0 n0 _ T4.heap _
    rw [e4]
    exact ⟨rfl, N4, K4, (B3.other W4 (Ne.symm u8)), ((u1.other W3 (Or.inl u8)).other W4 (Or.inr (slot_ne (Or.inl (own_w hw 35 rfl)) (Or.inl (own_w hw 138 rfl)) (by decide) (t := (.array (.object "java/lang/Object"))) (t' := .int) (by decide) (by decide)))), Fw4, ((u3.other W3 (Or.inl u8)).other W4 (Or.inr (slot_ne (Or.inl (own_w hw 32 rfl)) (Or.inl (own_w hw 138 rfl)) (by decide) (t := .int) (t' := .int) (by decide) (by decide))))⟩
theorem ef_rmAdd2 (m : MethodId) (a : Addr) (xx : Addr) : entryFrame m #[(.ref a), (.ref xx)] 2 = mkF m 0 #[.val (.ref a), .val (.ref xx)] [] := by first | (simp [entryFrame, mkF, argsToLocals, Value.category]; done) | rfl
def Q_rmAdd2 (Z : State) (a : Addr) (xx : Addr) (ed : Addr) (k : ClassId) (mc : Int32) (yy0 : Addr) (yy1 : Addr) (h0 : Heap) (n0 : Nat) (v_ : Option Value) (h_ : Heap) (L_ : List Loc) : Prop := v_ = some (.int (1 : Int32)) ∧ Fr n0 L_ ∧ Keep h0 h_ [a, ed] ∧ Arv Z h_ ed k (.object "java/lang/Object") (10 : Int32) [(.ref yy0), (.ref yy1), (.ref xx), .null, .null, .null, .null, .null, .null, .null] .null ∧ Fld Z h_ a "java/util/ArrayList" "elementData" "[Ljava/lang/Object;" (.ref ed) ∧ Fld Z h_ a "java/util/ArrayList" "size" "I" (.int (3 : Int32)) ∧ Fld Z h_ a "java/util/AbstractList" "modCount" "I" (.int (mc + (1 : Int32)))
set_option maxRecDepth 65536 in
set_option maxHeartbeats 40000000 in
theorem rmAdd2 (l : Launch) (Z : State) (a0 : Array Value) (hw : ∀ d ∈ tables_1, d.before a0 Z = true) (ws : List Jvm.Cond) (a : Addr) (xx : Addr) (ed : Addr) (k : ClassId) (mc : Int32) (yy0 : Addr) (yy1 : Addr) (h0 : Heap) (n0 : Nat) (Z0 : n0 ≤ h0.size) (u0 : Exa Z h0 a "java/util/ArrayList") (u1 : Fld Z h0 a "java/util/ArrayList" "elementData" "[Ljava/lang/Object;" (.ref ed)) (u2 : Fld Z h0 a "java/util/ArrayList" "size" "I" (.int (2 : Int32))) (u3 : Fld Z h0 a "java/util/AbstractList" "modCount" "I" (.int mc)) (u4 : Arv Z h0 ed k (.object "java/lang/Object") (10 : Int32) [(.ref yy0), (.ref yy1), .null, .null, .null, .null, .null, .null, .null, .null] .null) (u5 : Ovr Z k "java/lang/Object") (u6 : n0 ≤ a) (u7 : n0 ≤ ed) (u8 : a ≠ ed) (u9 : Exa Z h0 xx "com/example/firmline/firmline/model/Task") :
    MetFree l own_y24 (head1 (Jvm.Cond.code own_y24 jdk_38_method_25_code 2 (some .boolean) :: ws) ({ frames := 1, cells := 0, slots := 0, locals := 15 } : Room)) (fun a_ U_ => a_ = #[(.ref a), (.ref xx)] ∧ Z.Warmed39 U_.vm ∧ U_.heap = h0) (fun _ _ _ _ _ => True) (fun _ U_ o_ U2_ => ∃ v_ L_, o_ = .returned v_ ∧ Q_rmAdd2 Z a xx ed k mc yy0 yy1 h0 n0 v_ U2_.heap L_ ∧ FrameEnd U_ o_ U2_ L_ ({ frames := 1, cells := 0, slots := 0, locals := 15 } : Room).cells ({ frames := 1, cells := 0, slots := 0, locals := 15 } : Room).slots) := by
  refine MetFree.of_bodySF (plainFor_of_name pn_8) hisR ?_
  intro p e s m args below meth c s₁ Bd hml0 hP hK
  obtain ⟨rfl, hZ, hh⟩ := hP
  have hx := Bd.exec
  have hby := Bd.bytes
  have hml : c.maxLocals = 2 := hml0
  have hown : s.vm.findClass "java/util/ArrayList" = some m.cls := findClass_of_methodNamed Bd.named
  have hnm := (name_of_methodNamed Bd.named Bd.method).1
  have X0 : Stand p l e ({ frames := 1, cells := 0, slots := 0, locals := 15 } : Room) s m #[(.ref a), (.ref xx)] below meth c s₁ [] 0 0 := Stand.of_body Bd
  have e0 : s₁.heap = h0 := by rw [← hh, Bd.state]; rfl
  have N0 := Fr.nil n0
  refine own_go (A := s₁.setTop (mkF m 0 #[.val (.ref a), .val (.ref xx)] [])) (fun t_ k_ => castTop (ef_rmAdd2 m a xx) k_) ?_
  refine own_go (A := s₁.setTop (mkF m 2 #[.val (.ref a), .val (.ref xx)] [(.ref a), (.ref a)])) (fun t_ k_ => ?_) ?_
  · show Steps p.tables e below (s₁.setTop (mkF m 0 #[.val (.ref a), .val (.ref xx)] [])) t_
    refine XS.aloadN X0.here hx rfl (hb hby d21_0) rfl rfl ?_
    show Steps p.tables e below (s₁.setTop (mkF m 1 #[.val (.ref a), .val (.ref xx)] [(.ref a)])) t_
    refine XS.dup X0.here hx rfl (hb hby d21_1) rfl rfl ?_
    exact k_
  obtain ⟨T1, X1, e1, st1⟩ := getF X0 hx hZ hown (host := "") (Or.inl (own_w hw 135 rfl)) (Via.of (own_w hw 136 rfl)) e0 u3 (g := (mkF m 2 #[.val (.ref a), .val (.ref xx)] [(.ref a), (.ref a)])) rfl rfl (hb hby d21_2)
  refine own_go st1 ?_
  refine own_go (A := T1.setTop (mkF m 7 #[.val (.ref a), .val (.ref xx)] [(.int (mc + (1 : Int32))), (.ref a)])) (fun t_ k_ => ?_) ?_
  · show Steps p.tables e below (T1.setTop (mkF m 5 #[.val (.ref a), .val (.ref xx)] [(.int mc), (.ref a)])) t_
    refine XS.iconst X1.here hx rfl (hb hby d21_5) ?_
    show Steps p.tables e below (T1.setTop (mkF m 6 #[.val (.ref a), .val (.ref xx)] [(.int (1 : Int32)), (.int mc), (.ref a)])) t_
    refine XS.iadd X1.here hx rfl (hb hby d21_6) rfl ?_
    exact k_
  obtain ⟨T2, h2, X2, e2, W2, st2⟩ := putF X1 hx hZ hown (host := "") (Or.inl (own_w hw 135 rfl)) (Via.of (own_w hw 136 rfl)) e1 u3 u0 (Or.inl (own_w hw 32 rfl)) (own_w hw 11 rfl) (ty := .int) (by decide) rfl rfl (g := (mkF m 7 #[.val (.ref a), .val (.ref xx)] [(.int (mc + (1 : Int32))), (.ref a)])) rfl rfl (hb hby d21_7)
  have Fw2 : Fld Z h2 a "java/util/AbstractList" "modCount" "I" (.int (mc + (1 : Int32))) := u3.same W2
  refine own_go st2 ?_
  have K2 : Keep h0 h2 [a, ed] := (Keep.refl h0 [a, ed]).wr W2 (Or.inl (List.mem_of_getElem? (i := 0) rfl))
  have N2 := Fr.snoc X2 N0 u6
  refine own_go (A := T2.setTop (mkF m 13 #[.val (.ref a), .val (.ref xx)] [(.ref a), (.ref xx), (.ref a)])) (fun t_ k_ => ?_) ?_
  · show Steps p.tables e below (T2.setTop (mkF m 10 #[.val (.ref a), .val (.ref xx)] [])) t_
    refine XS.aloadN X2.here hx rfl (hb hby d21_10) rfl rfl ?_
    show Steps p.tables e below (T2.setTop (mkF m 11 #[.val (.ref a), .val (.ref xx)] [(.ref a)])) t_
    refine XS.aloadN X2.here hx rfl (hb hby d21_11) rfl rfl ?_
    show Steps p.tables e below (T2.setTop (mkF m 12 #[.val (.ref a), .val (.ref xx)] [(.ref xx), (.ref a)])) t_
    refine XS.aloadN X2.here hx rfl (hb hby d21_12) rfl rfl ?_
    exact k_
  obtain ⟨T3, X3, e3, st3⟩ := getF X2 hx hZ hown (host := "") (Or.inl (own_w hw 34 rfl)) Via.refl e2 (u1.other W2 (Or.inr (slot_ne (Or.inl (own_w hw 35 rfl)) (Or.inl (own_w hw 32 rfl)) (by decide) (t := (.array (.object "java/lang/Object"))) (t' := .int) (by decide) (by decide)))) (g := (mkF m 13 #[.val (.ref a), .val (.ref xx)] [(.ref a), (.ref xx), (.ref a)])) rfl rfl (hb hby d21_13)
  refine own_go st3 ?_
  refine own_go (A := T3.setTop (mkF m 17 #[.val (.ref a), .val (.ref xx)] [(.ref a), (.ref ed), (.ref xx), (.ref a)])) (fun t_ k_ => ?_) ?_
  · show Steps p.tables e below (T3.setTop (mkF m 16 #[.val (.ref a), .val (.ref xx)] [(.ref ed), (.ref xx), (.ref a)])) t_
    refine XS.aloadN X3.here hx rfl (hb hby d21_16) rfl rfl ?_
    exact k_
  obtain ⟨T4, X4, e4, st4⟩ := getF X3 hx hZ hown (host := "") (Or.inl (own_w hw 137 rfl)) Via.refl e3 (u2.other W2 (Or.inr (slot_ne (Or.inl (own_w hw 138 rfl)) (Or.inl (own_w hw 32 rfl)) (by decide) (t := .int) (t' := .int) (by decide) (by decide)))) (g := (mkF m 17 #[.val (.ref a), .val (.ref xx)] [(.ref a), (.ref ed), (.ref xx), (.ref a)])) rfl rfl (hb hby d21_17)
  refine own_go st4 ?_
  obtain ⟨cq5, q5, q5'⟩ := (u0.wr W2).cell
  obtain ⟨_, _, ⟨T5, L5, k5, n5⟩, -, X5, ⟨Lc5, hQ5, l5, y5, z5⟩, st5⟩ := X4.privateBack hx (y := own_y23) hown (mvT hZ (own_w hw 139 rfl)) (mvT hZ (own_w hw 140 rfl)) (mvT hZ (own_w hw 142 rfl)) (Cond.privateMethod_at (mvP hZ (own_w hw 141 rfl) (args := #[]))) (mvT hZ (own_w hw 143 rfl)) (by decide) (backOf (W := 0) (rmAddP2 l Z a0 hw [] a xx ed k (mc + (1 : Int32)) yy0 yy1 h2 n0 (Nat.le_trans Z0 K2.1) (u0.wr W2) (u1.other W2 (Or.inr (slot_ne (Or.inl (own_w hw 35 rfl)) (Or.inl (own_w hw 32 rfl)) (by decide) (t := (.array (.object "java/lang/Object"))) (t' := .int) (by decide) (by decide)))) (u2.other W2 (Or.inr (slot_ne (Or.inl (own_w hw 138 rfl)) (Or.inl (own_w hw 32 rfl)) (by decide) (t := .int) (t' := .int) (by decide) (by decide)))) Fw2 (u4.other W2 (Ne.symm u8)) u5 u6 u7 u8 (u9.wr W2)) hZ (own_w hw 143 rfl) (own_w hw 12 rfl) (by decide) (by decide)) (g := (mkF m 20 #[.val (.ref a), .val (.ref xx)] [(.int (2 : Int32)), (.ref ed), (.ref xx), (.ref a)])) rfl (by rw [hml]; rfl) (Steps.refl _) (a := a) (by rw [e4]; exact q5) q5' (argsL := [(.ref xx), (.ref ed), (.int (2 : Int32))]) (rest := []) (lenOf pd_15 rfl) rfl (by show 2 * 0 + _ ≤ _; exact Nat.le_of_eq rfl) (hb hby d21_20) (fun _ _ => ⟨rfl, e4, (by decide : 0 + 0 ≤ _), (by decide : 0 + 0 ≤ _)⟩)
  dsimp only [Pt.U, Pt.locs, Pt.cells, Pt.slots] at X5 l5 y5 z5 st5 hQ5
  subst l5 y5 z5
  obtain ⟨rfl, N5q, Kc5, r5_0, r5_1, r5_2, r5_3⟩ := hQ5
  have N5 := Fr.app N2 N5q
  refine own_via st5 ?_
  have K5 : Keep h0 T5.heap [a, ed] := K2.trans Kc5 (allS (P := fun x => x ∈ _ ∨ _ ≤ x) (Or.inl (List.mem_of_getElem? (i := 0) rfl)) (allS (P := fun x => x ∈ _ ∨ _ ≤ x) (Or.inl (List.mem_of_getElem? (i := 1) rfl)) all0))
  refine own_go (A := T5.setTop (mkF m 24 #[.val (.ref a), .val (.ref xx)] [(.int (1 : Int32))])) (fun t_ k_ => ?_) ?_
  · show Steps p.tables e below (T5.setTop (mkF m 23 #[.val (.ref a), .val (.ref xx)] [])) t_
    refine XS.iconst X5.here hx rfl (hb hby d21_23) ?_
    exact k_
  obtain ⟨fs6, hr6, hrun6, hended6, hW6, hsame6⟩ := X5.leave (v := some (.int (1 : Int32))) (fun h => by rw [Bd.returns] at h; cases h)
  refine ⟨_, _, ?_, hrun6, hended6, _, _, rfl, ?_, ⟨_, rfl⟩, hW6, hsame6.mono (by decide) (by decide)⟩
  · exact retN X5 hx (t := .boolean) Bd.returns (by simp) (hb hby d21_24) hr6
  · show Q_rmAdd2 Z a xx ed k mc yy0 yy1 h0 n0 _ T5.heap _
    exact ⟨rfl, N5, K5, r5_0, r5_1, r5_2, r5_3⟩
theorem d28_0 : decode jdk_49_method_1_code 0 = .ok (.aload_n 0, 1) := by decide +kernel
theorem d28_1 : decode jdk_49_method_1_code 1 = .ok (.aload_n 1, 1) := by decide +kernel
theorem d28_2 : decode jdk_49_method_1_code 2 = .ok (.putfield 1, 3) := by decide +kernel
theorem d28_5 : decode jdk_49_method_1_code 5 = .ok (.aload_n 0, 1) := by decide +kernel
theorem d28_6 : decode jdk_49_method_1_code 6 = .ok (.invokespecial 7, 3) := by decide +kernel
theorem d28_9 : decode jdk_49_method_1_code 9 = .ok (.aload_n 0, 1) := by decide +kernel
theorem d28_10 : decode jdk_49_method_1_code 10 = .ok (.iconst (-1), 1) := by decide +kernel
theorem d28_11 : decode jdk_49_method_1_code 11 = .ok (.putfield 13, 3) := by decide +kernel
theorem d28_14 : decode jdk_49_method_1_code 14 = .ok (.aload_n 0, 1) := by decide +kernel
theorem d28_15 : decode jdk_49_method_1_code 15 = .ok (.aload_n 0, 1) := by decide +kernel
theorem d28_16 : decode jdk_49_method_1_code 16 = .ok (.getfield 1, 3) := by decide +kernel
theorem d28_19 : decode jdk_49_method_1_code 19 = .ok (.getfield 17, 3) := by decide +kernel
theorem d28_22 : decode jdk_49_method_1_code 22 = .ok (.putfield 22, 3) := by decide +kernel
theorem d28_25 : decode jdk_49_method_1_code 25 = .ok (.return_, 1) := by decide +kernel
abbrev own_y25 : MethodName := ⟨"java/util/ArrayList$Itr", "<init>", "(Ljava/util/ArrayList;)V"⟩
theorem ef_rmItI (m : MethodId) (it : Addr) (a : Addr) : entryFrame m #[(.ref it), (.ref a)] 2 = mkF m 0 #[.val (.ref it), .val (.ref a)] [] := by first | (simp [entryFrame, mkF, argsToLocals, Value.category]; done) | rfl
def Q_rmItI (Z : State) (it : Addr) (a : Addr) (mc : Int32) (h0 : Heap) (n0 : Nat) (v_ : Option Value) (h_ : Heap) (L_ : List Loc) : Prop := v_ = none ∧ Fr n0 L_ ∧ Keep h0 h_ [it] ∧ Fld Z h_ it "java/util/ArrayList$Itr" "this$0" "Ljava/util/ArrayList;" (.ref a) ∧ Fld Z h_ it "java/util/ArrayList$Itr" "cursor" "I" (.int (0 : Int32)) ∧ Fld Z h_ it "java/util/ArrayList$Itr" "lastRet" "I" (.int (-1 : Int32)) ∧ Fld Z h_ it "java/util/ArrayList$Itr" "expectedModCount" "I" (.int mc)
theorem pn_9 : plainName "java/util/ArrayList$Itr" = true := by first | (simp [plainName, overriddenIn]; done) | decide +kernel
set_option maxRecDepth 65536 in
set_option maxHeartbeats 40000000 in
theorem rmItI (l : Launch) (Z : State) (a0 : Array Value) (hw : ∀ d ∈ tables_1, d.before a0 Z = true) (ws : List Jvm.Cond) (it : Addr) (a : Addr) (mc : Int32) (h0 : Heap) (n0 : Nat) (Z0 : n0 ≤ h0.size) (u0 : Exa Z h0 it "java/util/ArrayList$Itr") (u1 : Fld Z h0 it "java/util/ArrayList$Itr" "this$0" "Ljava/util/ArrayList;" .null) (u2 : Fld Z h0 it "java/util/ArrayList$Itr" "cursor" "I" (.int (0 : Int32))) (u3 : Fld Z h0 it "java/util/ArrayList$Itr" "lastRet" "I" (.int (0 : Int32))) (u4 : Fld Z h0 it "java/util/ArrayList$Itr" "expectedModCount" "I" (.int (0 : Int32))) (u5 : n0 ≤ it) (u6 : Exa Z h0 a "java/util/ArrayList") (u7 : Fld Z h0 a "java/util/AbstractList" "modCount" "I" (.int mc)) (u8 : a ≠ it) :
    MetFree l own_y25 (head1 (Jvm.Cond.code own_y25 jdk_49_method_1_code 2 none :: ws) ({ frames := 1, cells := 0, slots := 0, locals := 12 } : Room)) (fun a_ U_ => a_ = #[(.ref it), (.ref a)] ∧ Z.Warmed39 U_.vm ∧ U_.heap = h0) (fun _ _ _ _ _ => True) (fun _ U_ o_ U2_ => ∃ v_ L_, o_ = .returned v_ ∧ Q_rmItI Z it a mc h0 n0 v_ U2_.heap L_ ∧ FrameEnd U_ o_ U2_ L_ ({ frames := 1, cells := 0, slots := 0, locals := 12 } : Room).cells ({ frames := 1, cells := 0, slots := 0, locals := 12 } : Room).slots) := by
  refine MetFree.of_bodySF (plainFor_of_name pn_9) hisR ?_
  intro p e s m args below meth c s₁ Bd hml0 hP hK
  obtain ⟨rfl, hZ, hh⟩ := hP
  have hx := Bd.exec
  have hby := Bd.bytes
  have hml : c.maxLocals = 2 := hml0
  have hown : s.vm.findClass "java/util/ArrayList$Itr" = some m.cls := findClass_of_methodNamed Bd.named
  have hnm := (name_of_methodNamed Bd.named Bd.method).1
  have X0 : Stand p l e ({ frames := 1, cells := 0, slots := 0, locals := 12 } : Room) s m #[(.ref it), (.ref a)] below meth c s₁ [] 0 0 := Stand.of_body Bd
  have e0 : s₁.heap = h0 := by rw [← hh, Bd.state]; rfl
  have N0 := Fr.nil n0
  refine own_go (A := s₁.setTop (mkF m 0 #[.val (.ref it), .val (.ref a)] [])) (fun t_ k_ => castTop (ef_rmItI m it a) k_) ?_
  refine own_go (A := s₁.setTop (mkF m 2 #[.val (.ref it), .val (.ref a)] [(.ref a), (.ref it)])) (fun t_ k_ => ?_) ?_
  · show Steps p.tables e below (s₁.setTop (mkF m 0 #[.val (.ref it), .val (.ref a)] [])) t_
    refine XS.aloadN X0.here hx rfl (hb hby d28_0) rfl rfl ?_
    show Steps p.tables e below (s₁.setTop (mkF m 1 #[.val (.ref it), .val (.ref a)] [(.ref it)])) t_
    refine XS.aloadN X0.here hx rfl (hb hby d28_1) rfl rfl ?_
    exact k_
  obtain ⟨T1, h1, X1, e1, W1, st1⟩ := putF X0 hx hZ hown (host := "") (Or.inl (own_w hw 182 rfl)) Via.refl e0 u1 u0 (Or.inr ⟨(own_w hw 183 rfl), rfl, hnm⟩) (own_w hw 176 rfl) (ty := (.object "java/util/ArrayList")) (by decide) rfl rfl (g := (mkF m 2 #[.val (.ref it), .val (.ref a)] [(.ref a), (.ref it)])) rfl rfl (hb hby d28_2)
  have Fw1 : Fld Z h1 it "java/util/ArrayList$Itr" "this$0" "Ljava/util/ArrayList;" (.ref a) := u1.same W1
  refine own_go st1 ?_
  have K1 : Keep h0 h1 [it] := (Keep.refl h0 [it]).wr W1 (Or.inl (List.mem_of_getElem? (i := 0) rfl))
  have N1 := Fr.snoc X1 N0 u5
  refine own_go (A := T1.setTop (mkF m 6 #[.val (.ref it), .val (.ref a)] [(.ref it)])) (fun t_ k_ => ?_) ?_
  · show Steps p.tables e below (T1.setTop (mkF m 5 #[.val (.ref it), .val (.ref a)] [])) t_
    refine XS.aloadN X1.here hx rfl (hb hby d28_5) rfl rfl ?_
    exact k_
  obtain ⟨T2, X2, e2, st2⟩ := initO X1 hx hZ hown (own_w hw 184 rfl) (own_w hw 29 rfl) (own_w hw 30 rfl) e1 (g := (mkF m 6 #[.val (.ref it), .val (.ref a)] [(.ref it)])) rfl (by rw [hml]; rfl) rfl (hb hby d28_6) (by decide) (W := 0) (by show 2 * 0 + _ ≤ _; exact Nat.le_of_eq rfl) (by decide)
  refine own_go st2 ?_
  refine own_go (A := T2.setTop (mkF m 11 #[.val (.ref it), .val (.ref a)] [(.int (-1 : Int32)), (.ref it)])) (fun t_ k_ => ?_) ?_
  · show Steps p.tables e below (T2.setTop (mkF m 9 #[.val (.ref it), .val (.ref a)] [])) t_
    refine XS.aloadN X2.here hx rfl (hb hby d28_9) rfl rfl ?_
    show Steps p.tables e below (T2.setTop (mkF m 10 #[.val (.ref it), .val (.ref a)] [(.ref it)])) t_
    refine XS.iconst X2.here hx rfl (hb hby d28_10) ?_
    exact k_
  obtain ⟨T3, h3, X3, e3, W3, st3⟩ := putF X2 hx hZ hown (host := "") (Or.inl (own_w hw 185 rfl)) Via.refl e2 (u3.other W1 (Or.inr (slot_ne (Or.inl (own_w hw 186 rfl)) (Or.inr (own_w hw 183 rfl)) (by decide) (t := .int) (t' := (.object "java/util/ArrayList")) (by decide) (by decide)))) (u0.wr W1) (Or.inl (own_w hw 186 rfl)) (own_w hw 176 rfl) (ty := .int) (by decide) rfl rfl (g := (mkF m 11 #[.val (.ref it), .val (.ref a)] [(.int (-1 : Int32)), (.ref it)])) rfl rfl (hb hby d28_11)
  have Fw3 : Fld Z h3 it "java/util/ArrayList$Itr" "lastRet" "I" (.int (-1 : Int32)) := (u3.other W1 (Or.inr (slot_ne (Or.inl (own_w hw 186 rfl)) (Or.inr (own_w hw 183 rfl)) (by decide) (t := .int) (t' := (.object "java/util/ArrayList")) (by decide) (by decide)))).same W3
  refine own_go st3 ?_
  have K3 : Keep h0 h3 [it] := K1.wr W3 (Or.inl (List.mem_of_getElem? (i := 0) rfl))
  have N3 := Fr.snoc X3 N1 u5
  refine own_go (A := T3.setTop (mkF m 16 #[.val (.ref it), .val (.ref a)] [(.ref it), (.ref it)])) (fun t_ k_ => ?_) ?_
  · show Steps p.tables e below (T3.setTop (mkF m 14 #[.val (.ref it), .val (.ref a)] [])) t_
    refine XS.aloadN X3.here hx rfl (hb hby d28_14) rfl rfl ?_
    show Steps p.tables e below (T3.setTop (mkF m 15 #[.val (.ref it), .val (.ref a)] [(.ref it)])) t_
    refine XS.aloadN X3.here hx rfl (hb hby d28_15) rfl rfl ?_
    exact k_
  obtain ⟨T4, X4, e4, st4⟩ := getF X3 hx hZ hown (host := "") (Or.inl (own_w hw 182 rfl)) Via.refl e3 (Fw1.other W3 (Or.inr (slot_ne (Or.inr (own_w hw 183 rfl)) (Or.inl (own_w hw 186 rfl)) (by decide) (t := (.object "java/util/ArrayList")) (t' := .int) (by decide) (by decide)))) (g := (mkF m 16 #[.val (.ref it), .val (.ref a)] [(.ref it), (.ref it)])) rfl rfl (hb hby d28_16)
  refine own_go st4 ?_
  obtain ⟨T5, X5, e5, st5⟩ := getF X4 hx hZ hown (host := "") (Or.inl (own_w hw 187 rfl)) (Via.of (own_w hw 136 rfl)) e4 ((u7.other W1 (Or.inl u8)).other W3 (Or.inl u8)) (g := (mkF m 19 #[.val (.ref it), .val (.ref a)] [(.ref a), (.ref it)])) rfl rfl (hb hby d28_19)
  refine own_go st5 ?_
  obtain ⟨T6, h6, X6, e6, W6, st6⟩ := putF X5 hx hZ hown (host := "") (Or.inl (own_w hw 188 rfl)) Via.refl e5 ((u4.other W1 (Or.inr (slot_ne (Or.inl (own_w hw 189 rfl)) (Or.inr (own_w hw 183 rfl)) (by decide) (t := .int) (t' := (.object "java/util/ArrayList")) (by decide) (by decide)))).other W3 (Or.inr (slot_ne (Or.inl (own_w hw 189 rfl)) (Or.inl (own_w hw 186 rfl)) (by decide) (t := .int) (t' := .int) (by decide) (by decide)))) ((u0.wr W1).wr W3) (Or.inl (own_w hw 189 rfl)) (own_w hw 176 rfl) (ty := .int) (by decide) rfl rfl (g := (mkF m 22 #[.val (.ref it), .val (.ref a)] [(.int mc), (.ref it)])) rfl rfl (hb hby d28_22)
  have Fw6 : Fld Z h6 it "java/util/ArrayList$Itr" "expectedModCount" "I" (.int mc) := ((u4.other W1 (Or.inr (slot_ne (Or.inl (own_w hw 189 rfl)) (Or.inr (own_w hw 183 rfl)) (by decide) (t := .int) (t' := (.object "java/util/ArrayList")) (by decide) (by decide)))).other W3 (Or.inr (slot_ne (Or.inl (own_w hw 189 rfl)) (Or.inl (own_w hw 186 rfl)) (by decide) (t := .int) (t' := .int) (by decide) (by decide)))).same W6
  refine own_go st6 ?_
  have K6 : Keep h0 h6 [it] := K3.wr W6 (Or.inl (List.mem_of_getElem? (i := 0) rfl))
  have N6 := Fr.snoc X6 N3 u5
  obtain ⟨fs7, hr7, hrun7, hended7, hW7, hsame7⟩ := X6.leave (v := none) (fun _ => rfl)
  refine ⟨_, _, ?_, hrun7, hended7, _, _, rfl, ?_, ⟨_, rfl⟩, hW7, hsame7.mono (by decide) (by decide)⟩
  · exact X6.returnOut hx Bd.returns (hb hby d28_25) hr7
  · show Q_rmItI Z it a mc h0 n0 _ T6.heap _
    rw [e6]
    exact ⟨rfl, N6, K6, ((Fw1.other W3 (Or.inr (slot_ne (Or.inr (own_w hw 183 rfl)) (Or.inl (own_w hw 186 rfl)) (by decide) (t := (.object "java/util/ArrayList")) (t' := .int) (by decide) (by decide)))).other W6 (Or.inr (slot_ne (Or.inr (own_w hw 183 rfl)) (Or.inl (own_w hw 189 rfl)) (by decide) (t := (.object "java/util/ArrayList")) (t' := .int) (by decide) (by decide)))), (((u2.other W1 (Or.inr (slot_ne (Or.inl (own_w hw 200 rfl)) (Or.inr (own_w hw 183 rfl)) (by decide) (t := .int) (t' := (.object "java/util/ArrayList")) (by decide) (by decide)))).other W3 (Or.inr (slot_ne (Or.inl (own_w hw 200 rfl)) (Or.inl (own_w hw 186 rfl)) (by decide) (t := .int) (t' := .int) (by decide) (by decide)))).other W6 (Or.inr (slot_ne (Or.inl (own_w hw 200 rfl)) (Or.inl (own_w hw 189 rfl)) (by decide) (t := .int) (t' := .int) (by decide) (by decide)))), (Fw3.other W6 (Or.inr (slot_ne (Or.inl (own_w hw 186 rfl)) (Or.inl (own_w hw 189 rfl)) (by decide) (t := .int) (t' := .int) (by decide) (by decide)))), Fw6⟩
theorem d27_0 : decode jdk_38_method_55_code 0 = .ok (.new 267, 3) := by decide +kernel
theorem d27_3 : decode jdk_38_method_55_code 3 = .ok (.dup, 1) := by decide +kernel
theorem d27_4 : decode jdk_38_method_55_code 4 = .ok (.aload_n 0, 1) := by decide +kernel
theorem pd_16 : parseMethodDescriptor "(Ljava/util/ArrayList;)V" = some ⟨[(.object "java/util/ArrayList")], none⟩ := by decide +kernel
theorem d27_5 : decode jdk_38_method_55_code 5 = .ok (.invokespecial 269, 3) := by decide +kernel
theorem d27_8 : decode jdk_38_method_55_code 8 = .ok (.areturn, 1) := by decide +kernel
abbrev own_y26 : MethodName := ⟨"java/util/ArrayList", "iterator", "()Ljava/util/Iterator;"⟩
theorem ef_rmIter (m : MethodId) (a : Addr) : entryFrame m #[(.ref a)] 1 = mkF m 0 #[.val (.ref a)] [] := by first | (simp [entryFrame, mkF, argsToLocals, Value.category]; done) | rfl
def Q_rmIter (Z : State) (a : Addr) (mc : Int32) (h0 : Heap) (n0 : Nat) (v_ : Option Value) (h_ : Heap) (L_ : List Loc) : Prop := ∃ it : Addr, v_ = some (.ref it) ∧ Fr n0 L_ ∧ Keep h0 h_ [] ∧ h0.size ≤ it ∧ Exa Z h_ it "java/util/ArrayList$Itr" ∧ Fld Z h_ it "java/util/ArrayList$Itr" "this$0" "Ljava/util/ArrayList;" (.ref a) ∧ Fld Z h_ it "java/util/ArrayList$Itr" "cursor" "I" (.int (0 : Int32)) ∧ Fld Z h_ it "java/util/ArrayList$Itr" "lastRet" "I" (.int (-1 : Int32)) ∧ Fld Z h_ it "java/util/ArrayList$Itr" "expectedModCount" "I" (.int mc)
set_option maxRecDepth 65536 in
set_option maxHeartbeats 40000000 in
theorem rmIter (l : Launch) (Z : State) (a0 : Array Value) (hw : ∀ d ∈ tables_1, d.before a0 Z = true) (ws : List Jvm.Cond) (a : Addr) (mc : Int32) (h0 : Heap) (n0 : Nat) (Z0 : n0 ≤ h0.size) (u0 : Exa Z h0 a "java/util/ArrayList") (u1 : Fld Z h0 a "java/util/AbstractList" "modCount" "I" (.int mc)) :
    MetFree l own_y26 (head1 (Jvm.Cond.code own_y26 jdk_38_method_55_code 1 (some (.object "java/util/Iterator")) :: ws) ({ frames := 2, cells := 1, slots := 4, locals := 26 } : Room)) (fun a_ U_ => a_ = #[(.ref a)] ∧ Z.Warmed39 U_.vm ∧ U_.heap = h0) (fun _ _ _ _ _ => True) (fun _ U_ o_ U2_ => ∃ v_ L_, o_ = .returned v_ ∧ Q_rmIter Z a mc h0 n0 v_ U2_.heap L_ ∧ FrameEnd U_ o_ U2_ L_ ({ frames := 2, cells := 1, slots := 4, locals := 26 } : Room).cells ({ frames := 2, cells := 1, slots := 4, locals := 26 } : Room).slots) := by
  refine MetFree.of_bodySF (plainFor_of_name pn_8) hisR ?_
  intro p e s m args below meth c s₁ Bd hml0 hP hK
  obtain ⟨rfl, hZ, hh⟩ := hP
  have hx := Bd.exec
  have hby := Bd.bytes
  have hml : c.maxLocals = 1 := hml0
  have hown : s.vm.findClass "java/util/ArrayList" = some m.cls := findClass_of_methodNamed Bd.named
  have hnm := (name_of_methodNamed Bd.named Bd.method).1
  have X0 : Stand p l e ({ frames := 2, cells := 1, slots := 4, locals := 26 } : Room) s m #[(.ref a)] below meth c s₁ [] 0 0 := Stand.of_body Bd
  have e0 : s₁.heap = h0 := by rw [← hh, Bd.state]; rfl
  have N0 := Fr.nil n0
  refine own_go (A := s₁.setTop (mkF m 0 #[.val (.ref a)] [])) (fun t_ k_ => castTop (ef_rmIter m a) k_) ?_
  obtain ⟨T1, h1, X1, e1, E1, A1, D1, -, st1⟩ := newO X0 hx hZ hown (own_w hw 175 rfl) (own_w hw 176 rfl) (own_w hw 177 rfl) e0 (g := (mkF m 0 #[.val (.ref a)] [])) rfl (hb hby d27_0) (by decide) (by decide)
  obtain ⟨b1, g1⟩ : ∃ z, z = h0.size := ⟨_, rfl⟩
  rw [← g1] at A1 D1 st1
  refine own_go st1 ?_
  have K1 : Keep h0 h1 [] := (Keep.refl h0 []).ext E1
  have F1_this_0 : Fld Z h1 b1 "java/util/ArrayList$Itr" "this$0" "Ljava/util/ArrayList;" .null := D1 (Or.inr (own_w hw 183 rfl)) (ty := (.object "java/util/ArrayList")) (by decide)
  have F1_lastRet : Fld Z h1 b1 "java/util/ArrayList$Itr" "lastRet" "I" (.int (0 : Int32)) := D1 (Or.inl (own_w hw 186 rfl)) (ty := .int) (by decide)
  have F1_expectedModCount : Fld Z h1 b1 "java/util/ArrayList$Itr" "expectedModCount" "I" (.int (0 : Int32)) := D1 (Or.inl (own_w hw 189 rfl)) (ty := .int) (by decide)
  have F1_cursor : Fld Z h1 b1 "java/util/ArrayList$Itr" "cursor" "I" (.int (0 : Int32)) := D1 (Or.inl (own_w hw 200 rfl)) (ty := .int) (by decide)
  refine own_go (A := T1.setTop (mkF m 5 #[.val (.ref a)] [(.ref a), (.ref b1), (.ref b1)])) (fun t_ k_ => ?_) ?_
  · show Steps p.tables e below (T1.setTop (mkF m 3 #[.val (.ref a)] [(.ref b1)])) t_
    refine XS.dup X1.here hx rfl (hb hby d27_3) rfl rfl ?_
    show Steps p.tables e below (T1.setTop (mkF m 4 #[.val (.ref a)] [(.ref b1), (.ref b1)])) t_
    refine XS.aloadN X1.here hx rfl (hb hby d27_4) rfl rfl ?_
    exact k_
  obtain ⟨_, _, ⟨T2, L2, k2, n2⟩, -, X2, ⟨Lc2, hQ2, l2, y2, z2⟩, st2⟩ := X1.specialBack hx (y := own_y25) rfl hown (mvT hZ (own_w hw 178 rfl)) (mvT hZ (own_w hw 179 rfl)) (mvT hZ (own_w hw 181 rfl)) (by decide) (backOf (W := 1) (rmItI l Z a0 hw [] b1 a mc h1 n0 (Nat.le_trans Z0 K1.1) A1 F1_this_0 F1_cursor F1_lastRet F1_expectedModCount (Nat.le_trans Z0 (Nat.le_of_eq g1.symm)) (u0.ext E1) (u1.ext E1) (Nat.ne_of_lt (Nat.lt_of_lt_of_le u0.lt (Nat.le_of_eq g1.symm)))) hZ (own_w hw 181 rfl) (own_w hw 177 rfl) (by decide) (by decide)) (g := (mkF m 5 #[.val (.ref a)] [(.ref a), (.ref b1), (.ref b1)])) rfl (by rw [hml]; rfl) (Steps.refl _) (a := b1) (argsL := [(.ref a)]) (rest := [(.ref b1)]) (lenOf pd_16 rfl) rfl (by show 2 * 0 + _ ≤ _; exact Nat.le_of_eq rfl) (hb hby d27_5) (fun _ _ => ⟨rfl, e1, (by decide : 1 + 0 ≤ _), (by decide : 4 + 0 ≤ _)⟩)
  dsimp only [Pt.U, Pt.locs, Pt.cells, Pt.slots] at X2 l2 y2 z2 st2 hQ2
  subst l2 y2 z2
  obtain ⟨rfl, N2q, Kc2, r2_0, r2_1, r2_2, r2_3⟩ := hQ2
  have N2 := Fr.app N0 N2q
  refine own_via st2 ?_
  have K2 : Keep h0 T2.heap [] := K1.trans Kc2 (allS (P := fun x => x ∈ _ ∨ _ ≤ x) (Or.inr (Nat.le_of_eq g1.symm)) all0)
  obtain ⟨fs3, hr3, hrun3, hended3, hW3, hsame3⟩ := X2.leave (v := some (.ref b1)) (fun h => by rw [Bd.returns] at h; cases h)
  refine ⟨_, _, ?_, hrun3, hended3, _, _, rfl, ?_, ⟨_, rfl⟩, hW3, hsame3.mono (by decide) (by decide)⟩
  · exact own_retA X2 hx Bd.returns rfl rfl rfl (hb hby d27_8) hr3
  · show Q_rmIter Z a mc h0 n0 _ T2.heap _
    exact ⟨b1, rfl, N2, K2, (Nat.le_of_eq g1.symm), (A1.keep Kc2), r2_0, r2_1, r2_2, r2_3⟩
theorem d29_0 : decode jdk_49_method_2_code 0 = .ok (.aload_n 0, 1) := by decide +kernel
theorem d29_1 : decode jdk_49_method_2_code 1 = .ok (.getfield 25, 3) := by decide +kernel
theorem d29_4 : decode jdk_49_method_2_code 4 = .ok (.aload_n 0, 1) := by decide +kernel
theorem d29_5 : decode jdk_49_method_2_code 5 = .ok (.getfield 1, 3) := by decide +kernel
theorem d29_8 : decode jdk_49_method_2_code 8 = .ok (.getfield 28, 3) := by decide +kernel
theorem d29_11 : decode jdk_49_method_2_code 11 = .ok (.if_icmp .eq 7, 3) := by decide +kernel
theorem d29_18 : decode jdk_49_method_2_code 18 = .ok (.iconst 0, 1) := by decide +kernel
theorem d29_19 : decode jdk_49_method_2_code 19 = .ok (.ireturn, 1) := by decide +kernel
abbrev own_y27 : MethodName := ⟨"java/util/ArrayList$Itr", "hasNext", "()Z"⟩
theorem ef_rmHas0 (m : MethodId) (it : Addr) : entryFrame m #[(.ref it)] 1 = mkF m 0 #[.val (.ref it)] [] := by first | (simp [entryFrame, mkF, argsToLocals, Value.category]; done) | rfl
def Q_rmHas0 (Z : State) (it : Addr) (a : Addr) (cu : Int32) (sz : Int32) (h0 : Heap) (n0 : Nat) (v_ : Option Value) (h_ : Heap) (L_ : List Loc) : Prop := v_ = some (.int (0 : Int32)) ∧ Fr n0 L_ ∧ h_ = h0
set_option maxRecDepth 65536 in
set_option maxHeartbeats 40000000 in
theorem rmHas0 (l : Launch) (Z : State) (a0 : Array Value) (hw : ∀ d ∈ tables_1, d.before a0 Z = true) (ws : List Jvm.Cond) (it : Addr) (a : Addr) (cu : Int32) (sz : Int32) (h0 : Heap) (n0 : Nat) (Z0 : n0 ≤ h0.size) (u0 : Fld Z h0 it "java/util/ArrayList$Itr" "this$0" "Ljava/util/ArrayList;" (.ref a)) (u1 : Fld Z h0 it "java/util/ArrayList$Itr" "cursor" "I" (.int cu)) (u2 : Fld Z h0 a "java/util/ArrayList" "size" "I" (.int sz)) (hcu : cu = sz) :
    MetFree l own_y27 (head1 (Jvm.Cond.code own_y27 jdk_49_method_2_code 1 (some .boolean) :: ws) ({ frames := 0, cells := 0, slots := 0, locals := 0 } : Room)) (fun a_ U_ => a_ = #[(.ref it)] ∧ Z.Warmed39 U_.vm ∧ U_.heap = h0) (fun _ _ _ _ _ => True) (fun _ U_ o_ U2_ => ∃ v_ L_, o_ = .returned v_ ∧ Q_rmHas0 Z it a cu sz h0 n0 v_ U2_.heap L_ ∧ FrameEnd U_ o_ U2_ L_ ({ frames := 0, cells := 0, slots := 0, locals := 0 } : Room).cells ({ frames := 0, cells := 0, slots := 0, locals := 0 } : Room).slots) := by
  refine MetFree.of_bodySF (plainFor_of_name pn_9) hisR ?_
  intro p e s m args below meth c s₁ Bd hml0 hP hK
  obtain ⟨rfl, hZ, hh⟩ := hP
  have hx := Bd.exec
  have hby := Bd.bytes
  have hml : c.maxLocals = 1 := hml0
  have hown : s.vm.findClass "java/util/ArrayList$Itr" = some m.cls := findClass_of_methodNamed Bd.named
  have hnm := (name_of_methodNamed Bd.named Bd.method).1
  have X0 : Stand p l e ({ frames := 0, cells := 0, slots := 0, locals := 0 } : Room) s m #[(.ref it)] below meth c s₁ [] 0 0 := Stand.of_body Bd
  have e0 : s₁.heap = h0 := by rw [← hh, Bd.state]; rfl
  have N0 := Fr.nil n0
  refine own_go (A := s₁.setTop (mkF m 0 #[.val (.ref it)] [])) (fun t_ k_ => castTop (ef_rmHas0 m it) k_) ?_
  refine own_go (A := s₁.setTop (mkF m 1 #[.val (.ref it)] [(.ref it)])) (fun t_ k_ => ?_) ?_
  · show Steps p.tables e below (s₁.setTop (mkF m 0 #[.val (.ref it)] [])) t_
    refine XS.aloadN X0.here hx rfl (hb hby d29_0) rfl rfl ?_
    exact k_
  obtain ⟨T1, X1, e1, st1⟩ := getF X0 hx hZ hown (host := "") (Or.inl (own_w hw 199 rfl)) Via.refl e0 u1 (g := (mkF m 1 #[.val (.ref it)] [(.ref it)])) rfl rfl (hb hby d29_1)
  refine own_go st1 ?_
  refine own_go (A := T1.setTop (mkF m 5 #[.val (.ref it)] [(.ref it), (.int cu)])) (fun t_ k_ => ?_) ?_
  · show Steps p.tables e below (T1.setTop (mkF m 4 #[.val (.ref it)] [(.int cu)])) t_
    refine XS.aloadN X1.here hx rfl (hb hby d29_4) rfl rfl ?_
    exact k_
  obtain ⟨T2, X2, e2, st2⟩ := getF X1 hx hZ hown (host := "") (Or.inl (own_w hw 182 rfl)) Via.refl e1 u0 (g := (mkF m 5 #[.val (.ref it)] [(.ref it), (.int cu)])) rfl rfl (hb hby d29_5)
  refine own_go st2 ?_
  obtain ⟨T3, X3, e3, st3⟩ := getF X2 hx hZ hown (Or.inr (own_w hw 201 rfl)) Via.refl e2 u2 (g := (mkF m 8 #[.val (.ref it)] [(.ref a), (.int cu)])) rfl rfl (hb hby d29_8)
  refine own_go st3 ?_
  refine own_go (A := T3.setTop (mkF m 19 #[.val (.ref it)] [(.int (0 : Int32))])) (fun t_ k_ => ?_) ?_
  · show Steps p.tables e below (T3.setTop (mkF m 11 #[.val (.ref it)] [(.int sz), (.int cu)])) t_
    refine XS.icmpYes X3.here hx rfl (pc0 := 11) (pc' := 18) rfl (hb hby d29_11) rfl (teq hcu).1 (by decide) (by decide) ?_
    show Steps p.tables e below (T3.setTop (mkF m 18 #[.val (.ref it)] [])) t_
    refine XS.iconst X3.here hx rfl (hb hby d29_18) ?_
    exact k_
  obtain ⟨fs4, hr4, hrun4, hended4, hW4, hsame4⟩ := X3.leave (v := some (.int (0 : Int32))) (fun h => by rw [Bd.returns] at h; cases h)
  refine ⟨_, _, ?_, hrun4, hended4, _, _, rfl, ?_, ⟨_, rfl⟩, hW4, hsame4.mono (by decide) (by decide)⟩
  · exact retN X3 hx (t := .boolean) Bd.returns (by simp) (hb hby d29_19) hr4
  · show Q_rmHas0 Z it a cu sz h0 n0 _ T3.heap _
    rw [e3]
    exact ⟨rfl, N0, rfl⟩
theorem d29_14 : decode jdk_49_method_2_code 14 = .ok (.iconst 1, 1) := by decide +kernel
theorem d29_15 : decode jdk_49_method_2_code 15 = .ok (.goto 4, 3) := by decide +kernel
theorem ef_rmHas1 (m : MethodId) (it : Addr) : entryFrame m #[(.ref it)] 1 = mkF m 0 #[.val (.ref it)] [] := by first | (simp [entryFrame, mkF, argsToLocals, Value.category]; done) | rfl
def Q_rmHas1 (Z : State) (it : Addr) (a : Addr) (cu : Int32) (sz : Int32) (h0 : Heap) (n0 : Nat) (v_ : Option Value) (h_ : Heap) (L_ : List Loc) : Prop := v_ = some (.int (1 : Int32)) ∧ Fr n0 L_ ∧ h_ = h0
set_option maxRecDepth 65536 in
set_option maxHeartbeats 40000000 in
theorem rmHas1 (l : Launch) (Z : State) (a0 : Array Value) (hw : ∀ d ∈ tables_1, d.before a0 Z = true) (ws : List Jvm.Cond) (it : Addr) (a : Addr) (cu : Int32) (sz : Int32) (h0 : Heap) (n0 : Nat) (Z0 : n0 ≤ h0.size) (u0 : Fld Z h0 it "java/util/ArrayList$Itr" "this$0" "Ljava/util/ArrayList;" (.ref a)) (u1 : Fld Z h0 it "java/util/ArrayList$Itr" "cursor" "I" (.int cu)) (u2 : Fld Z h0 a "java/util/ArrayList" "size" "I" (.int sz)) (hcu : ¬ (cu = sz)) :
    MetFree l own_y27 (head1 (Jvm.Cond.code own_y27 jdk_49_method_2_code 1 (some .boolean) :: ws) ({ frames := 0, cells := 0, slots := 0, locals := 0 } : Room)) (fun a_ U_ => a_ = #[(.ref it)] ∧ Z.Warmed39 U_.vm ∧ U_.heap = h0) (fun _ _ _ _ _ => True) (fun _ U_ o_ U2_ => ∃ v_ L_, o_ = .returned v_ ∧ Q_rmHas1 Z it a cu sz h0 n0 v_ U2_.heap L_ ∧ FrameEnd U_ o_ U2_ L_ ({ frames := 0, cells := 0, slots := 0, locals := 0 } : Room).cells ({ frames := 0, cells := 0, slots := 0, locals := 0 } : Room).slots) := by
  refine MetFree.of_bodySF (plainFor_of_name pn_9) hisR ?_
  intro p e s m args below meth c s₁ Bd hml0 hP hK
  obtain ⟨rfl, hZ, hh⟩ := hP
  have hx := Bd.exec
  have hby := Bd.bytes
  have hml : c.maxLocals = 1 := hml0
  have hown : s.vm.findClass "java/util/ArrayList$Itr" = some m.cls := findClass_of_methodNamed Bd.named
  have hnm := (name_of_methodNamed Bd.named Bd.method).1
  have X0 : Stand p l e ({ frames := 0, cells := 0, slots := 0, locals := 0 } : Room) s m #[(.ref it)] below meth c s₁ [] 0 0 := Stand.of_body Bd
  have e0 : s₁.heap = h0 := by rw [← hh, Bd.state]; rfl
  have N0 := Fr.nil n0
  refine own_go (A := s₁.setTop (mkF m 0 #[.val (.ref it)] [])) (fun t_ k_ => castTop (ef_rmHas1 m it) k_) ?_
  refine own_go (A := s₁.setTop (mkF m 1 #[.val (.ref it)] [(.ref it)])) (fun t_ k_ => ?_) ?_
  · show Steps p.tables e below (s₁.setTop (mkF m 0 #[.val (.ref it)] [])) t_
    refine XS.aloadN X0.here hx rfl (hb hby d29_0) rfl rfl ?_
    exact k_
  obtain ⟨T1, X1, e1, st1⟩ := getF X0 hx hZ hown (host := "") (Or.inl (own_w hw 199 rfl)) Via.refl e0 u1 (g := (mkF m 1 #[.val (.ref it)] [(.ref it)])) rfl rfl (hb hby d29_1)
  refine own_go st1 ?_
  refine own_go (A := T1.setTop (mkF m 5 #[.val (.ref it)] [(.ref it), (.int cu)])) (fun t_ k_ => ?_) ?_
  · show Steps p.tables e below (T1.setTop (mkF m 4 #[.val (.ref it)] [(.int cu)])) t_
    refine XS.aloadN X1.here hx rfl (hb hby d29_4) rfl rfl ?_
    exact k_
  obtain ⟨T2, X2, e2, st2⟩ := getF X1 hx hZ hown (host := "") (Or.inl (own_w hw 182 rfl)) Via.refl e1 u0 (g := (mkF m 5 #[.val (.ref it)] [(.ref it), (.int cu)])) rfl rfl (hb hby d29_5)
  refine own_go st2 ?_
  obtain ⟨T3, X3, e3, st3⟩ := getF X2 hx hZ hown (Or.inr (own_w hw 201 rfl)) Via.refl e2 u2 (g := (mkF m 8 #[.val (.ref it)] [(.ref a), (.int cu)])) rfl rfl (hb hby d29_8)
  refine own_go st3 ?_
  refine own_go (A := T3.setTop (mkF m 19 #[.val (.ref it)] [(.int (1 : Int32))])) (fun t_ k_ => ?_) ?_
  · show Steps p.tables e below (T3.setTop (mkF m 11 #[.val (.ref it)] [(.int sz), (.int cu)])) t_
    refine XS.icmpNo X3.here hx rfl (hb hby d29_11) rfl (feq hcu).1 ?_
    show Steps p.tables e below (T3.setTop (mkF m 14 #[.val (.ref it)] [])) t_
    refine XS.iconst X3.here hx rfl (hb hby d29_14) ?_
    show Steps p.tables e below (T3.setTop (mkF m 15 #[.val (.ref it)] [(.int (1 : Int32))])) t_
    refine XS.goto X3.here hx rfl (pc0 := 15) (pc' := 19) rfl (hb hby d29_15) (by decide) (by decide) ?_
    exact k_
  obtain ⟨fs4, hr4, hrun4, hended4, hW4, hsame4⟩ := X3.leave (v := some (.int (1 : Int32))) (fun h => by rw [Bd.returns] at h; cases h)
  refine ⟨_, _, ?_, hrun4, hended4, _, _, rfl, ?_, ⟨_, rfl⟩, hW4, hsame4.mono (by decide) (by decide)⟩
  · exact retN X3 hx (t := .boolean) Bd.returns (by simp) (hb hby d29_19) hr4
  · show Q_rmHas1 Z it a cu sz h0 n0 _ T3.heap _
    rw [e3]
    exact ⟨rfl, N0, rfl⟩
theorem d31_0 : decode jdk_49_method_6_code 0 = .ok (.aload_n 0, 1) := by decide +kernel
theorem d31_1 : decode jdk_49_method_6_code 1 = .ok (.getfield 1, 3) := by decide +kernel
theorem d31_4 : decode jdk_49_method_6_code 4 = .ok (.getfield 17, 3) := by decide +kernel
theorem d31_7 : decode jdk_49_method_6_code 7 = .ok (.aload_n 0, 1) := by decide +kernel
theorem d31_8 : decode jdk_49_method_6_code 8 = .ok (.getfield 22, 3) := by decide +kernel
theorem d31_11 : decode jdk_49_method_6_code 11 = .ok (.if_icmp .eq 11, 3) := by decide +kernel
theorem d31_22 : decode jdk_49_method_6_code 22 = .ok (.return_, 1) := by decide +kernel
abbrev own_y28 : MethodName := ⟨"java/util/ArrayList$Itr", "checkForComodification", "()V"⟩
theorem ef_rmCom (m : MethodId) (it : Addr) : entryFrame m #[(.ref it)] 1 = mkF m 0 #[.val (.ref it)] [] := by first | (simp [entryFrame, mkF, argsToLocals, Value.category]; done) | rfl
def Q_rmCom (Z : State) (it : Addr) (a : Addr) (mc : Int32) (h0 : Heap) (n0 : Nat) (v_ : Option Value) (h_ : Heap) (L_ : List Loc) : Prop := v_ = none ∧ Fr n0 L_ ∧ h_ = h0
set_option maxRecDepth 65536 in
set_option maxHeartbeats 40000000 in
theorem rmCom (l : Launch) (Z : State) (a0 : Array Value) (hw : ∀ d ∈ tables_1, d.before a0 Z = true) (ws : List Jvm.Cond) (it : Addr) (a : Addr) (mc : Int32) (h0 : Heap) (n0 : Nat) (Z0 : n0 ≤ h0.size) (u0 : Fld Z h0 it "java/util/ArrayList$Itr" "this$0" "Ljava/util/ArrayList;" (.ref a)) (u1 : Fld Z h0 it "java/util/ArrayList$Itr" "expectedModCount" "I" (.int mc)) (u2 : Fld Z h0 a "java/util/AbstractList" "modCount" "I" (.int mc)) :
    MetFree l own_y28 (head1 (Jvm.Cond.code own_y28 jdk_49_method_6_code 1 none :: ws) ({ frames := 0, cells := 0, slots := 0, locals := 0 } : Room)) (fun a_ U_ => a_ = #[(.ref it)] ∧ Z.Warmed39 U_.vm ∧ U_.heap = h0) (fun _ _ _ _ _ => True) (fun _ U_ o_ U2_ => ∃ v_ L_, o_ = .returned v_ ∧ Q_rmCom Z it a mc h0 n0 v_ U2_.heap L_ ∧ FrameEnd U_ o_ U2_ L_ ({ frames := 0, cells := 0, slots := 0, locals := 0 } : Room).cells ({ frames := 0, cells := 0, slots := 0, locals := 0 } : Room).slots) := by
  refine MetFree.of_bodySF (plainFor_of_name pn_9) hisR ?_
  intro p e s m args below meth c s₁ Bd hml0 hP hK
  obtain ⟨rfl, hZ, hh⟩ := hP
  have hx := Bd.exec
  have hby := Bd.bytes
  have hml : c.maxLocals = 1 := hml0
  have hown : s.vm.findClass "java/util/ArrayList$Itr" = some m.cls := findClass_of_methodNamed Bd.named
  have hnm := (name_of_methodNamed Bd.named Bd.method).1
  have X0 : Stand p l e ({ frames := 0, cells := 0, slots := 0, locals := 0 } : Room) s m #[(.ref it)] below meth c s₁ [] 0 0 := Stand.of_body Bd
  have e0 : s₁.heap = h0 := by rw [← hh, Bd.state]; rfl
  have N0 := Fr.nil n0
  refine own_go (A := s₁.setTop (mkF m 0 #[.val (.ref it)] [])) (fun t_ k_ => castTop (ef_rmCom m it) k_) ?_
  refine own_go (A := s₁.setTop (mkF m 1 #[.val (.ref it)] [(.ref it)])) (fun t_ k_ => ?_) ?_
  · show Steps p.tables e below (s₁.setTop (mkF m 0 #[.val (.ref it)] [])) t_
    refine XS.aloadN X0.here hx rfl (hb hby d31_0) rfl rfl ?_
    exact k_
  obtain ⟨T1, X1, e1, st1⟩ := getF X0 hx hZ hown (host := "") (Or.inl (own_w hw 182 rfl)) Via.refl e0 u0 (g := (mkF m 1 #[.val (.ref it)] [(.ref it)])) rfl rfl (hb hby d31_1)
  refine own_go st1 ?_
  obtain ⟨T2, X2, e2, st2⟩ := getF X1 hx hZ hown (host := "") (Or.inl (own_w hw 187 rfl)) (Via.of (own_w hw 136 rfl)) e1 u2 (g := (mkF m 4 #[.val (.ref it)] [(.ref a)])) rfl rfl (hb hby d31_4)
  refine own_go st2 ?_
  refine own_go (A := T2.setTop (mkF m 8 #[.val (.ref it)] [(.ref it), (.int mc)])) (fun t_ k_ => ?_) ?_
  · show Steps p.tables e below (T2.setTop (mkF m 7 #[.val (.ref it)] [(.int mc)])) t_
    refine XS.aloadN X2.here hx rfl (hb hby d31_7) rfl rfl ?_
    exact k_
  obtain ⟨T3, X3, e3, st3⟩ := getF X2 hx hZ hown (host := "") (Or.inl (own_w hw 188 rfl)) Via.refl e2 u1 (g := (mkF m 8 #[.val (.ref it)] [(.ref it), (.int mc)])) rfl rfl (hb hby d31_8)
  refine own_go st3 ?_
  refine own_go (A := T3.setTop (mkF m 22 #[.val (.ref it)] [])) (fun t_ k_ => ?_) ?_
  · show Steps p.tables e below (T3.setTop (mkF m 11 #[.val (.ref it)] [(.int mc), (.int mc)])) t_
    refine XS.icmpYes X3.here hx rfl (pc0 := 11) (pc' := 22) rfl (hb hby d31_11) rfl (teq (rfl : mc = mc)).1 (by decide) (by decide) ?_
    exact k_
  obtain ⟨fs4, hr4, hrun4, hended4, hW4, hsame4⟩ := X3.leave (v := none) (fun _ => rfl)
  refine ⟨_, _, ?_, hrun4, hended4, _, _, rfl, ?_, ⟨_, rfl⟩, hW4, hsame4.mono (by decide) (by decide)⟩
  · exact X3.returnOut hx Bd.returns (hb hby d31_22) hr4
  · show Q_rmCom Z it a mc h0 n0 _ T3.heap _
    rw [e3]
    exact ⟨rfl, N0, rfl⟩
theorem d30_0 : decode jdk_49_method_3_code 0 = .ok (.aload_n 0, 1) := by decide +kernel
theorem d30_1 : decode jdk_49_method_3_code 1 = .ok (.invokevirtual 31, 3) := by decide +kernel
theorem d30_4 : decode jdk_49_method_3_code 4 = .ok (.aload_n 0, 1) := by decide +kernel
theorem d30_5 : decode jdk_49_method_3_code 5 = .ok (.getfield 25, 3) := by decide +kernel
theorem d30_8 : decode jdk_49_method_3_code 8 = .ok (.istore_n 1, 1) := by decide +kernel
theorem d30_9 : decode jdk_49_method_3_code 9 = .ok (.iload_n 1, 1) := by decide +kernel
theorem d30_10 : decode jdk_49_method_3_code 10 = .ok (.aload_n 0, 1) := by decide +kernel
theorem d30_11 : decode jdk_49_method_3_code 11 = .ok (.getfield 1, 3) := by decide +kernel
theorem d30_14 : decode jdk_49_method_3_code 14 = .ok (.getfield 28, 3) := by decide +kernel
theorem d30_17 : decode jdk_49_method_3_code 17 = .ok (.if_icmp .lt 11, 3) := by decide +kernel
theorem d30_28 : decode jdk_49_method_3_code 28 = .ok (.aload_n 0, 1) := by decide +kernel
theorem d30_29 : decode jdk_49_method_3_code 29 = .ok (.getfield 1, 3) := by decide +kernel
theorem d30_32 : decode jdk_49_method_3_code 32 = .ok (.getfield 37, 3) := by decide +kernel
theorem d30_35 : decode jdk_49_method_3_code 35 = .ok (.astore_n 2, 1) := by decide +kernel
theorem d30_36 : decode jdk_49_method_3_code 36 = .ok (.iload_n 1, 1) := by decide +kernel
theorem d30_37 : decode jdk_49_method_3_code 37 = .ok (.aload_n 2, 1) := by decide +kernel
theorem d30_38 : decode jdk_49_method_3_code 38 = .ok (.arraylength, 1) := by decide +kernel
theorem d30_39 : decode jdk_49_method_3_code 39 = .ok (.if_icmp .lt 11, 3) := by decide +kernel
theorem d30_50 : decode jdk_49_method_3_code 50 = .ok (.aload_n 0, 1) := by decide +kernel
theorem d30_51 : decode jdk_49_method_3_code 51 = .ok (.iload_n 1, 1) := by decide +kernel
theorem d30_52 : decode jdk_49_method_3_code 52 = .ok (.iconst 1, 1) := by decide +kernel
theorem d30_53 : decode jdk_49_method_3_code 53 = .ok (.iadd, 1) := by decide +kernel
theorem d30_54 : decode jdk_49_method_3_code 54 = .ok (.putfield 25, 3) := by decide +kernel
theorem d30_57 : decode jdk_49_method_3_code 57 = .ok (.aload_n 2, 1) := by decide +kernel
theorem d30_58 : decode jdk_49_method_3_code 58 = .ok (.aload_n 0, 1) := by decide +kernel
theorem d30_59 : decode jdk_49_method_3_code 59 = .ok (.iload_n 1, 1) := by decide +kernel
theorem d30_60 : decode jdk_49_method_3_code 60 = .ok (.dup_x1, 1) := by decide +kernel
theorem d30_61 : decode jdk_49_method_3_code 61 = .ok (.putfield 13, 3) := by decide +kernel
theorem d30_64 : decode jdk_49_method_3_code 64 = .ok (.aaload, 1) := by decide +kernel
theorem d30_65 : decode jdk_49_method_3_code 65 = .ok (.areturn, 1) := by decide +kernel
abbrev own_y29 : MethodName := ⟨"java/util/ArrayList$Itr", "next", "()Ljava/lang/Object;"⟩
theorem ef_rmNx0 (m : MethodId) (it : Addr) : entryFrame m #[(.ref it)] 3 = mkF m 0 #[.val (.ref it), .unset, .unset] [] := by first | (simp [entryFrame, mkF, argsToLocals, Value.category]; done) | rfl
def Q_rmNx0 (Z : State) (it : Addr) (a : Addr) (la : Int32) (mc : Int32) (sz : Int32) (ed : Addr) (kk : ClassId) (ee0 : Value) (ee1 : Value) (ee2 : Value) (h0 : Heap) (n0 : Nat) (v_ : Option Value) (h_ : Heap) (L_ : List Loc) : Prop := v_ = some ee0 ∧ Fr n0 L_ ∧ Keep h0 h_ [it] ∧ Fld Z h_ it "java/util/ArrayList$Itr" "this$0" "Ljava/util/ArrayList;" (.ref a) ∧ Fld Z h_ it "java/util/ArrayList$Itr" "cursor" "I" (.int (1 : Int32)) ∧ Fld Z h_ it "java/util/ArrayList$Itr" "lastRet" "I" (.int (0 : Int32)) ∧ Fld Z h_ it "java/util/ArrayList$Itr" "expectedModCount" "I" (.int mc)
set_option maxRecDepth 65536 in
set_option maxHeartbeats 40000000 in
theorem rmNx0 (l : Launch) (Z : State) (a0 : Array Value) (hw : ∀ d ∈ tables_1, d.before a0 Z = true) (ws : List Jvm.Cond) (it : Addr) (a : Addr) (la : Int32) (mc : Int32) (sz : Int32) (ed : Addr) (kk : ClassId) (ee0 : Value) (ee1 : Value) (ee2 : Value) (h0 : Heap) (n0 : Nat) (Z0 : n0 ≤ h0.size) (u0 : Exa Z h0 it "java/util/ArrayList$Itr") (u1 : Fld Z h0 it "java/util/ArrayList$Itr" "this$0" "Ljava/util/ArrayList;" (.ref a)) (u2 : Fld Z h0 it "java/util/ArrayList$Itr" "cursor" "I" (.int (0 : Int32))) (u3 : Fld Z h0 it "java/util/ArrayList$Itr" "lastRet" "I" (.int la)) (u4 : Fld Z h0 it "java/util/ArrayList$Itr" "expectedModCount" "I" (.int mc)) (u5 : n0 ≤ it) (u6 : ed ≠ it) (u7 : Exa Z h0 a "java/util/ArrayList") (u8 : Fld Z h0 a "java/util/AbstractList" "modCount" "I" (.int mc)) (u9 : Fld Z h0 a "java/util/ArrayList" "size" "I" (.int sz)) (hcu : (0 : Int32) < sz) (u11 : Fld Z h0 a "java/util/ArrayList" "elementData" "[Ljava/lang/Object;" (.ref ed)) (u12 : Arv Z h0 ed kk (.object "java/lang/Object") (10 : Int32) [ee0, ee1, ee2, .null, .null, .null, .null, .null, .null, .null] .null) (hee : ee0.isRef = true) :
    MetFree l own_y29 (head1 (Jvm.Cond.code own_y29 jdk_49_method_3_code 3 (some (.object "java/lang/Object")) :: ws) ({ frames := 1, cells := 0, slots := 0, locals := 12 } : Room)) (fun a_ U_ => a_ = #[(.ref it)] ∧ Z.Warmed39 U_.vm ∧ U_.heap = h0) (fun _ _ _ _ _ => True) (fun _ U_ o_ U2_ => ∃ v_ L_, o_ = .returned v_ ∧ Q_rmNx0 Z it a la mc sz ed kk ee0 ee1 ee2 h0 n0 v_ U2_.heap L_ ∧ FrameEnd U_ o_ U2_ L_ ({ frames := 1, cells := 0, slots := 0, locals := 12 } : Room).cells ({ frames := 1, cells := 0, slots := 0, locals := 12 } : Room).slots) := by
  refine MetFree.of_bodySF (plainFor_of_name pn_9) hisR ?_
  intro p e s m args below meth c s₁ Bd hml0 hP hK
  obtain ⟨rfl, hZ, hh⟩ := hP
  have hx := Bd.exec
  have hby := Bd.bytes
  have hml : c.maxLocals = 3 := hml0
  have hown : s.vm.findClass "java/util/ArrayList$Itr" = some m.cls := findClass_of_methodNamed Bd.named
  have hnm := (name_of_methodNamed Bd.named Bd.method).1
  have X0 : Stand p l e ({ frames := 1, cells := 0, slots := 0, locals := 12 } : Room) s m #[(.ref it)] below meth c s₁ [] 0 0 := Stand.of_body Bd
  have e0 : s₁.heap = h0 := by rw [← hh, Bd.state]; rfl
  have N0 := Fr.nil n0
  refine own_go (A := s₁.setTop (mkF m 0 #[.val (.ref it), .unset, .unset] [])) (fun t_ k_ => castTop (ef_rmNx0 m it) k_) ?_
  refine own_go (A := s₁.setTop (mkF m 1 #[.val (.ref it), .unset, .unset] [(.ref it)])) (fun t_ k_ => ?_) ?_
  · show Steps p.tables e below (s₁.setTop (mkF m 0 #[.val (.ref it), .unset, .unset] [])) t_
    refine XS.aloadN X0.here hx rfl (hb hby d30_0) rfl rfl ?_
    exact k_
  obtain ⟨cq1, kq1, q1a, q1b, q1c⟩ := isOf hZ e0 u0
  obtain ⟨_, _, ⟨T1, L1, k1, n1⟩, -, X1, ⟨Lc1, hQ1, l1, y1, z1⟩, st1⟩ := X0.virtualBack hx (y := own_y28) (z := own_y28) hown (mvT hZ (own_w hw 210 rfl)) (mvT hZ (own_w hw 211 rfl)) (notFace_of_selects (args := #[]) (mvT hZ (own_w hw 213 rfl))) (mvT hZ (own_w hw 213 rfl)) (mvT hZ (own_w hw 212 rfl)) (by decide) (backOf (W := 0) (rmCom l Z a0 hw [] it a mc h0 n0 Z0 u1 u4 u8) hZ (own_w hw 214 rfl) (own_w hw 177 rfl) (by decide) (by decide)) q1a q1c (g := (mkF m 1 #[.val (.ref it), .unset, .unset] [(.ref it)])) rfl (by rw [hml]; rfl) (Steps.refl _) (argsL := []) (rest := []) (lenOf pd_7 rfl) rfl (by show 2 * 0 + _ ≤ _; exact Nat.le_of_eq rfl) (hb hby d30_1) (fun _ _ => ⟨rfl, e0, (by decide : 0 + 0 ≤ _), (by decide : 0 + 0 ≤ _)⟩)
  dsimp only [Pt.U, Pt.locs, Pt.cells, Pt.slots] at X1 l1 y1 z1 st1 hQ1
  subst l1 y1 z1
  obtain ⟨rfl, N1q, eh1⟩ := hQ1
  have N1 := Fr.app N0 N1q
  refine own_via st1 ?_
  refine own_go (A := T1.setTop (mkF m 5 #[.val (.ref it), .unset, .unset] [(.ref it)])) (fun t_ k_ => ?_) ?_
  · show Steps p.tables e below (T1.setTop (mkF m 4 #[.val (.ref it), .unset, .unset] [])) t_
    refine XS.aloadN X1.here hx rfl (hb hby d30_4) rfl rfl ?_
    exact k_
  obtain ⟨T2, X2, e2, st2⟩ := getF X1 hx hZ hown (host := "") (Or.inl (own_w hw 199 rfl)) Via.refl eh1 u2 (g := (mkF m 5 #[.val (.ref it), .unset, .unset] [(.ref it)])) rfl rfl (hb hby d30_5)
  refine own_go st2 ?_
  refine own_go (A := T2.setTop (mkF m 11 #[.val (.ref it), .val (.int (0 : Int32)), .unset] [(.ref it), (.int (0 : Int32))])) (fun t_ k_ => ?_) ?_
  · show Steps p.tables e below (T2.setTop (mkF m 8 #[.val (.ref it), .unset, .unset] [(.int (0 : Int32))])) t_
    refine XS.istoreN X2.here hx rfl (hb hby d30_8) rfl (l' := #[.val (.ref it), .val (.int (0 : Int32)), .unset]) rfl ?_
    show Steps p.tables e below (T2.setTop (mkF m 9 #[.val (.ref it), .val (.int (0 : Int32)), .unset] [])) t_
    refine XS.iloadN X2.here hx rfl (hb hby d30_9) rfl ?_
    show Steps p.tables e below (T2.setTop (mkF m 10 #[.val (.ref it), .val (.int (0 : Int32)), .unset] [(.int (0 : Int32))])) t_
    refine XS.aloadN X2.here hx rfl (hb hby d30_10) rfl rfl ?_
    exact k_
  obtain ⟨T3, X3, e3, st3⟩ := getF X2 hx hZ hown (host := "") (Or.inl (own_w hw 182 rfl)) Via.refl e2 u1 (g := (mkF m 11 #[.val (.ref it), .val (.int (0 : Int32)), .unset] [(.ref it), (.int (0 : Int32))])) rfl rfl (hb hby d30_11)
  refine own_go st3 ?_
  obtain ⟨T4, X4, e4, st4⟩ := getF X3 hx hZ hown (Or.inr (own_w hw 201 rfl)) Via.refl e3 u9 (g := (mkF m 14 #[.val (.ref it), .val (.int (0 : Int32)), .unset] [(.ref a), (.int (0 : Int32))])) rfl rfl (hb hby d30_14)
  refine own_go st4 ?_
  refine own_go (A := T4.setTop (mkF m 29 #[.val (.ref it), .val (.int (0 : Int32)), .unset] [(.ref it)])) (fun t_ k_ => ?_) ?_
  · show Steps p.tables e below (T4.setTop (mkF m 17 #[.val (.ref it), .val (.int (0 : Int32)), .unset] [(.int sz), (.int (0 : Int32))])) t_
    refine XS.icmpYes X4.here hx rfl (pc0 := 17) (pc' := 28) rfl (hb hby d30_17) rfl (tlt hcu).1 (by decide) (by decide) ?_
    show Steps p.tables e below (T4.setTop (mkF m 28 #[.val (.ref it), .val (.int (0 : Int32)), .unset] [])) t_
    refine XS.aloadN X4.here hx rfl (hb hby d30_28) rfl rfl ?_
    exact k_
  obtain ⟨T5, X5, e5, st5⟩ := getF X4 hx hZ hown (host := "") (Or.inl (own_w hw 182 rfl)) Via.refl e4 u1 (g := (mkF m 29 #[.val (.ref it), .val (.int (0 : Int32)), .unset] [(.ref it)])) rfl rfl (hb hby d30_29)
  refine own_go st5 ?_
  obtain ⟨T6, X6, e6, st6⟩ := getF X5 hx hZ hown (host := "") (Or.inl (own_w hw 215 rfl)) Via.refl e5 u11 (g := (mkF m 32 #[.val (.ref it), .val (.int (0 : Int32)), .unset] [(.ref a)])) rfl rfl (hb hby d30_32)
  refine own_go st6 ?_
  obtain ⟨cl7, Ar7, q7, S7, M7, H7, G7⟩ := id u12
  refine own_go (A := T6.setTop (mkF m 54 #[.val (.ref it), .val (.int (0 : Int32)), .val (.ref ed)] [(.int (1 : Int32)), (.ref it)])) (fun t_ k_ => ?_) ?_
  · show Steps p.tables e below (T6.setTop (mkF m 35 #[.val (.ref it), .val (.int (0 : Int32)), .unset] [(.ref ed)])) t_
    refine XS.astoreN X6.here hx rfl (hb hby d30_35) rfl rfl (l' := #[.val (.ref it), .val (.int (0 : Int32)), .val (.ref ed)]) rfl ?_
    show Steps p.tables e below (T6.setTop (mkF m 36 #[.val (.ref it), .val (.int (0 : Int32)), .val (.ref ed)] [])) t_
    refine XS.iloadN X6.here hx rfl (hb hby d30_36) rfl ?_
    show Steps p.tables e below (T6.setTop (mkF m 37 #[.val (.ref it), .val (.int (0 : Int32)), .val (.ref ed)] [(.int (0 : Int32))])) t_
    refine XS.aloadN X6.here hx rfl (hb hby d30_37) rfl rfl ?_
    show Steps p.tables e below (T6.setTop (mkF m 38 #[.val (.ref it), .val (.int (0 : Int32)), .val (.ref ed)] [(.ref ed), (.int (0 : Int32))])) t_
    refine X6.arraylength hx (by rw [e6]; exact Ar7.1) (State.isArrayOf_alike hZ.alike Ar7.2.1) (g := (mkF m 38 #[.val (.ref it), .val (.int (0 : Int32)), .val (.ref ed)] [(.ref ed), (.int (0 : Int32))])) rfl rfl (hb hby d30_38) _ ?_
    rw [len_of S7 M7]
    show Steps p.tables e below (T6.setTop (mkF m 39 #[.val (.ref it), .val (.int (0 : Int32)), .val (.ref ed)] [(.int (10 : Int32)), (.int (0 : Int32))])) t_
    refine XS.icmpYes X6.here hx rfl (pc0 := 39) (pc' := 50) rfl (hb hby d30_39) rfl (tlt (by decide : (0 : Int32) < (10 : Int32))).1 (by decide) (by decide) ?_
    show Steps p.tables e below (T6.setTop (mkF m 50 #[.val (.ref it), .val (.int (0 : Int32)), .val (.ref ed)] [])) t_
    refine XS.aloadN X6.here hx rfl (hb hby d30_50) rfl rfl ?_
    show Steps p.tables e below (T6.setTop (mkF m 51 #[.val (.ref it), .val (.int (0 : Int32)), .val (.ref ed)] [(.ref it)])) t_
    refine XS.iloadN X6.here hx rfl (hb hby d30_51) rfl ?_
    show Steps p.tables e below (T6.setTop (mkF m 52 #[.val (.ref it), .val (.int (0 : Int32)), .val (.ref ed)] [(.int (0 : Int32)), (.ref it)])) t_
    refine XS.iconst X6.here hx rfl (hb hby d30_52) ?_
    show Steps p.tables e below (T6.setTop (mkF m 53 #[.val (.ref it), .val (.int (0 : Int32)), .val (.ref ed)] [(.int (1 : Int32)), (.int (0 : Int32)), (.ref it)])) t_
    refine XS.iadd X6.here hx rfl (hb hby d30_53) rfl ?_
    exact k_
  obtain ⟨T8, h8, X8, e8, W8, st8⟩ := putF X6 hx hZ hown (host := "") (Or.inl (own_w hw 199 rfl)) Via.refl e6 u2 u0 (Or.inl (own_w hw 200 rfl)) (own_w hw 176 rfl) (ty := .int) (by decide) rfl rfl (g := (mkF m 54 #[.val (.ref it), .val (.int (0 : Int32)), .val (.ref ed)] [(.int (1 : Int32)), (.ref it)])) rfl rfl (hb hby d30_54)
  have Fw8 : Fld Z h8 it "java/util/ArrayList$Itr" "cursor" "I" (.int (1 : Int32)) := u2.same W8
  refine own_go st8 ?_
  have K8 : Keep h0 h8 [it] := (Keep.refl h0 [it]).wr W8 (Or.inl (List.mem_of_getElem? (i := 0) rfl))
  have N8 := Fr.snoc X8 N1 u5
  refine own_go (A := T8.setTop (mkF m 61 #[.val (.ref it), .val (.int (0 : Int32)), .val (.ref ed)] [(.int (0 : Int32)), (.ref it), (.int (0 : Int32)), (.ref ed)])) (fun t_ k_ => ?_) ?_
  · show Steps p.tables e below (T8.setTop (mkF m 57 #[.val (.ref it), .val (.int (0 : Int32)), .val (.ref ed)] [])) t_
    refine XS.aloadN X8.here hx rfl (hb hby d30_57) rfl rfl ?_
    show Steps p.tables e below (T8.setTop (mkF m 58 #[.val (.ref it), .val (.int (0 : Int32)), .val (.ref ed)] [(.ref ed)])) t_
    refine XS.aloadN X8.here hx rfl (hb hby d30_58) rfl rfl ?_
    show Steps p.tables e below (T8.setTop (mkF m 59 #[.val (.ref it), .val (.int (0 : Int32)), .val (.ref ed)] [(.ref it), (.ref ed)])) t_
    refine XS.iloadN X8.here hx rfl (hb hby d30_59) rfl ?_
    show Steps p.tables e below (T8.setTop (mkF m 60 #[.val (.ref it), .val (.int (0 : Int32)), .val (.ref ed)] [(.int (0 : Int32)), (.ref it), (.ref ed)])) t_
    refine XS.dupX1 X8.here hx rfl (hb hby d30_60) rfl rfl rfl ?_
    exact k_
  obtain ⟨T9, h9, X9, e9, W9, st9⟩ := putF X8 hx hZ hown (host := "") (Or.inl (own_w hw 185 rfl)) Via.refl e8 (u3.other W8 (Or.inr (slot_ne (Or.inl (own_w hw 186 rfl)) (Or.inl (own_w hw 200 rfl)) (by decide) (t := .int) (t' := .int) (by decide) (by decide)))) (u0.wr W8) (Or.inl (own_w hw 186 rfl)) (own_w hw 176 rfl) (ty := .int) (by decide) rfl rfl (g := (mkF m 61 #[.val (.ref it), .val (.int (0 : Int32)), .val (.ref ed)] [(.int (0 : Int32)), (.ref it), (.int (0 : Int32)), (.ref ed)])) rfl rfl (hb hby d30_61)
  have Fw9 : Fld Z h9 it "java/util/ArrayList$Itr" "lastRet" "I" (.int (0 : Int32)) := (u3.other W8 (Or.inr (slot_ne (Or.inl (own_w hw 186 rfl)) (Or.inl (own_w hw 200 rfl)) (by decide) (t := .int) (t' := .int) (by decide) (by decide)))).same W9
  refine own_go st9 ?_
  have K9 : Keep h0 h9 [it] := K8.wr W9 (Or.inl (List.mem_of_getElem? (i := 0) rfl))
  have N9 := Fr.snoc X9 N8 u5
  obtain ⟨cl10, Ar10, q10, S10, M10, H10, G10⟩ := id ((u12.other W8 u6).other W9 u6)
  have hin10 : ¬ ((0 : Int32) < 0 ∨ cl10.slots.size ≤ ((0 : Int32)).toNatClampNeg) := inb_of S10 ⟨by decide, by decide⟩
  have hat10 : cl10.slots[((0 : Int32)).toNatClampNeg]? = some ee0 := Has.at H10 hin10 rfl
  refine own_go (A := T9.setTop (mkF m 65 #[.val (.ref it), .val (.int (0 : Int32)), .val (.ref ed)] [ee0])) (fun t_ k_ => ?_) ?_
  · show Steps p.tables e below (T9.setTop (mkF m 64 #[.val (.ref it), .val (.int (0 : Int32)), .val (.ref ed)] [(.int (0 : Int32)), (.ref ed)])) t_
    refine X9.aaload hx (j := (0 : Int32)) (v := ee0) (by rw [e9]; exact Ar10.1) (State.isArrayOf_alike hZ.alike Ar10.2.1) rfl Ar10.2.2 hin10 hat10 (g := (mkF m 64 #[.val (.ref it), .val (.int (0 : Int32)), .val (.ref ed)] [(.int (0 : Int32)), (.ref ed)])) rfl rfl (hb hby d30_64) _ ?_
    exact k_
  obtain ⟨fs11, hr11, hrun11, hended11, hW11, hsame11⟩ := X9.leave (v := some ee0) (fun h => by rw [Bd.returns] at h; cases h)
  refine ⟨_, _, ?_, hrun11, hended11, _, _, rfl, ?_, ⟨_, rfl⟩, hW11, hsame11.mono (by decide) (by decide)⟩
  · exact own_retA X9 hx Bd.returns rfl (own_nref hee) hee (hb hby d30_65) hr11
  · show Q_rmNx0 Z it a la mc sz ed kk ee0 ee1 ee2 h0 n0 _ T9.heap _
    rw [e9]
    exact ⟨rfl, N9, K9, ((u1.other W8 (Or.inr (slot_ne (Or.inr (own_w hw 183 rfl)) (Or.inl (own_w hw 200 rfl)) (by decide) (t := (.object "java/util/ArrayList")) (t' := .int) (by decide) (by decide)))).other W9 (Or.inr (slot_ne (Or.inr (own_w hw 183 rfl)) (Or.inl (own_w hw 186 rfl)) (by decide) (t := (.object "java/util/ArrayList")) (t' := .int) (by decide) (by decide)))), (Fw8.other W9 (Or.inr (slot_ne (Or.inl (own_w hw 200 rfl)) (Or.inl (own_w hw 186 rfl)) (by decide) (t := .int) (t' := .int) (by decide) (by decide)))), Fw9, ((u4.other W8 (Or.inr (slot_ne (Or.inl (own_w hw 189 rfl)) (Or.inl (own_w hw 200 rfl)) (by decide) (t := .int) (t' := .int) (by decide) (by decide)))).other W9 (Or.inr (slot_ne (Or.inl (own_w hw 189 rfl)) (Or.inl (own_w hw 186 rfl)) (by decide) (t := .int) (t' := .int) (by decide) (by decide))))⟩
theorem ef_rmNx1 (m : MethodId) (it : Addr) : entryFrame m #[(.ref it)] 3 = mkF m 0 #[.val (.ref it), .unset, .unset] [] := by first | (simp [entryFrame, mkF, argsToLocals, Value.category]; done) | rfl
def Q_rmNx1 (Z : State) (it : Addr) (a : Addr) (la : Int32) (mc : Int32) (sz : Int32) (ed : Addr) (kk : ClassId) (ee0 : Value) (ee1 : Value) (ee2 : Value) (h0 : Heap) (n0 : Nat) (v_ : Option Value) (h_ : Heap) (L_ : List Loc) : Prop := v_ = some ee1 ∧ Fr n0 L_ ∧ Keep h0 h_ [it] ∧ Fld Z h_ it "java/util/ArrayList$Itr" "this$0" "Ljava/util/ArrayList;" (.ref a) ∧ Fld Z h_ it "java/util/ArrayList$Itr" "cursor" "I" (.int (2 : Int32)) ∧ Fld Z h_ it "java/util/ArrayList$Itr" "lastRet" "I" (.int (1 : Int32)) ∧ Fld Z h_ it "java/util/ArrayList$Itr" "expectedModCount" "I" (.int mc)
set_option maxRecDepth 65536 in
set_option maxHeartbeats 40000000 in
theorem rmNx1 (l : Launch) (Z : State) (a0 : Array Value) (hw : ∀ d ∈ tables_1, d.before a0 Z = true) (ws : List Jvm.Cond) (it : Addr) (a : Addr) (la : Int32) (mc : Int32) (sz : Int32) (ed : Addr) (kk : ClassId) (ee0 : Value) (ee1 : Value) (ee2 : Value) (h0 : Heap) (n0 : Nat) (Z0 : n0 ≤ h0.size) (u0 : Exa Z h0 it "java/util/ArrayList$Itr") (u1 : Fld Z h0 it "java/util/ArrayList$Itr" "this$0" "Ljava/util/ArrayList;" (.ref a)) (u2 : Fld Z h0 it "java/util/ArrayList$Itr" "cursor" "I" (.int (1 : Int32))) (u3 : Fld Z h0 it "java/util/ArrayList$Itr" "lastRet" "I" (.int la)) (u4 : Fld Z h0 it "java/util/ArrayList$Itr" "expectedModCount" "I" (.int mc)) (u5 : n0 ≤ it) (u6 : ed ≠ it) (u7 : Exa Z h0 a "java/util/ArrayList") (u8 : Fld Z h0 a "java/util/AbstractList" "modCount" "I" (.int mc)) (u9 : Fld Z h0 a "java/util/ArrayList" "size" "I" (.int sz)) (hcu : (1 : Int32) < sz) (u11 : Fld Z h0 a "java/util/ArrayList" "elementData" "[Ljava/lang/Object;" (.ref ed)) (u12 : Arv Z h0 ed kk (.object "java/lang/Object") (10 : Int32) [ee0, ee1, ee2, .null, .null, .null, .null, .null, .null, .null] .null) (hee : ee1.isRef = true) :
    MetFree l own_y29 (head1 (Jvm.Cond.code own_y29 jdk_49_method_3_code 3 (some (.object "java/lang/Object")) :: ws) ({ frames := 1, cells := 0, slots := 0, locals := 12 } : Room)) (fun a_ U_ => a_ = #[(.ref it)] ∧ Z.Warmed39 U_.vm ∧ U_.heap = h0) (fun _ _ _ _ _ => True) (fun _ U_ o_ U2_ => ∃ v_ L_, o_ = .returned v_ ∧ Q_rmNx1 Z it a la mc sz ed kk ee0 ee1 ee2 h0 n0 v_ U2_.heap L_ ∧ FrameEnd U_ o_ U2_ L_ ({ frames := 1, cells := 0, slots := 0, locals := 12 } : Room).cells ({ frames := 1, cells := 0, slots := 0, locals := 12 } : Room).slots) := by
  refine MetFree.of_bodySF (plainFor_of_name pn_9) hisR ?_
  intro p e s m args below meth c s₁ Bd hml0 hP hK
  obtain ⟨rfl, hZ, hh⟩ := hP
  have hx := Bd.exec
  have hby := Bd.bytes
  have hml : c.maxLocals = 3 := hml0
  have hown : s.vm.findClass "java/util/ArrayList$Itr" = some m.cls := findClass_of_methodNamed Bd.named
  have hnm := (name_of_methodNamed Bd.named Bd.method).1
  have X0 : Stand p l e ({ frames := 1, cells := 0, slots := 0, locals := 12 } : Room) s m #[(.ref it)] below meth c s₁ [] 0 0 := Stand.of_body Bd
  have e0 : s₁.heap = h0 := by rw [← hh, Bd.state]; rfl
  have N0 := Fr.nil n0
  refine own_go (A := s₁.setTop (mkF m 0 #[.val (.ref it), .unset, .unset] [])) (fun t_ k_ => castTop (ef_rmNx1 m it) k_) ?_
  refine own_go (A := s₁.setTop (mkF m 1 #[.val (.ref it), .unset, .unset] [(.ref it)])) (fun t_ k_ => ?_) ?_
  · show Steps p.tables e below (s₁.setTop (mkF m 0 #[.val (.ref it), .unset, .unset] [])) t_
    refine XS.aloadN X0.here hx rfl (hb hby d30_0) rfl rfl ?_
    exact k_
  obtain ⟨cq1, kq1, q1a, q1b, q1c⟩ := isOf hZ e0 u0
  obtain ⟨_, _, ⟨T1, L1, k1, n1⟩, -, X1, ⟨Lc1, hQ1, l1, y1, z1⟩, st1⟩ := X0.virtualBack hx (y := own_y28) (z := own_y28) hown (mvT hZ (own_w hw 210 rfl)) (mvT hZ (own_w hw 211 rfl)) (notFace_of_selects (args := #[]) (mvT hZ (own_w hw 213 rfl))) (mvT hZ (own_w hw 213 rfl)) (mvT hZ (own_w hw 212 rfl)) (by decide) (backOf (W := 0) (rmCom l Z a0 hw [] it a mc h0 n0 Z0 u1 u4 u8) hZ (own_w hw 214 rfl) (own_w hw 177 rfl) (by decide) (by decide)) q1a q1c (g := (mkF m 1 #[.val (.ref it), .unset, .unset] [(.ref it)])) rfl (by rw [hml]; rfl) (Steps.refl _) (argsL := []) (rest := []) (lenOf pd_7 rfl) rfl (by show 2 * 0 + _ ≤ _; exact Nat.le_of_eq rfl) (hb hby d30_1) (fun _ _ => ⟨rfl, e0, (by decide : 0 + 0 ≤ _), (by decide : 0 + 0 ≤ _)⟩)
  dsimp only [Pt.U, Pt.locs, Pt.cells, Pt.slots] at X1 l1 y1 z1 st1 hQ1
  subst l1 y1 z1
  obtain ⟨rfl, N1q, eh1⟩ := hQ1
  have N1 := Fr.app N0 N1q
  refine own_via st1 ?_
  refine own_go (A := T1.setTop (mkF m 5 #[.val (.ref it), .unset, .unset] [(.ref it)])) (fun t_ k_ => ?_) ?_
  · show Steps p.tables e below (T1.setTop (mkF m 4 #[.val (.ref it), .unset, .unset] [])) t_
    refine XS.aloadN X1.here hx rfl (hb hby d30_4) rfl rfl ?_
    exact k_
  obtain ⟨T2, X2, e2, st2⟩ := getF X1 hx hZ hown (host := "") (Or.inl (own_w hw 199 rfl)) Via.refl eh1 u2 (g := (mkF m 5 #[.val (.ref it), .unset, .unset] [(.ref it)])) rfl rfl (hb hby d30_5)
  refine own_go st2 ?_
  refine own_go (A := T2.setTop (mkF m 11 #[.val (.ref it), .val (.int (1 : Int32)), .unset] [(.ref it), (.int (1 : Int32))])) (fun t_ k_ => ?_) ?_
  · show Steps p.tables e below (T2.setTop (mkF m 8 #[.val (.ref it), .unset, .unset] [(.int (1 : Int32))])) t_
    refine XS.istoreN X2.here hx rfl (hb hby d30_8) rfl (l' := #[.val (.ref it), .val (.int (1 : Int32)), .unset]) rfl ?_
    show Steps p.tables e below (T2.setTop (mkF m 9 #[.val (.ref it), .val (.int (1 : Int32)), .unset] [])) t_
    refine XS.iloadN X2.here hx rfl (hb hby d30_9) rfl ?_
    show Steps p.tables e below (T2.setTop (mkF m 10 #[.val (.ref it), .val (.int (1 : Int32)), .unset] [(.int (1 : Int32))])) t_
    refine XS.aloadN X2.here hx rfl (hb hby d30_10) rfl rfl ?_
    exact k_
  obtain ⟨T3, X3, e3, st3⟩ := getF X2 hx hZ hown (host := "") (Or.inl (own_w hw 182 rfl)) Via.refl e2 u1 (g := (mkF m 11 #[.val (.ref it), .val (.int (1 : Int32)), .unset] [(.ref it), (.int (1 : Int32))])) rfl rfl (hb hby d30_11)
  refine own_go st3 ?_
  obtain ⟨T4, X4, e4, st4⟩ := getF X3 hx hZ hown (Or.inr (own_w hw 201 rfl)) Via.refl e3 u9 (g := (mkF m 14 #[.val (.ref it), .val (.int (1 : Int32)), .unset] [(.ref a), (.int (1 : Int32))])) rfl rfl (hb hby d30_14)
  refine own_go st4 ?_
  refine own_go (A := T4.setTop (mkF m 29 #[.val (.ref it), .val (.int (1 : Int32)), .unset] [(.ref it)])) (fun t_ k_ => ?_) ?_
  · show Steps p.tables e below (T4.setTop (mkF m 17 #[.val (.ref it), .val (.int (1 : Int32)), .unset] [(.int sz), (.int (1 : Int32))])) t_
    refine XS.icmpYes X4.here hx rfl (pc0 := 17) (pc' := 28) rfl (hb hby d30_17) rfl (tlt hcu).1 (by decide) (by decide) ?_
    show Steps p.tables e below (T4.setTop (mkF m 28 #[.val (.ref it), .val (.int (1 : Int32)), .unset] [])) t_
    refine XS.aloadN X4.here hx rfl (hb hby d30_28) rfl rfl ?_
    exact k_
  obtain ⟨T5, X5, e5, st5⟩ := getF X4 hx hZ hown (host := "") (Or.inl (own_w hw 182 rfl)) Via.refl e4 u1 (g := (mkF m 29 #[.val (.ref it), .val (.int (1 : Int32)), .unset] [(.ref it)])) rfl rfl (hb hby d30_29)
  refine own_go st5 ?_
  obtain ⟨T6, X6, e6, st6⟩ := getF X5 hx hZ hown (host := "") (Or.inl (own_w hw 215 rfl)) Via.refl e5 u11 (g := (mkF m 32 #[.val (.ref it), .val (.int (1 : Int32)), .unset] [(.ref a)])) rfl rfl (hb hby d30_32)
  refine own_go st6 ?_
  obtain ⟨cl7, Ar7, q7, S7, M7, H7, G7⟩ := id u12
  refine own_go (A := T6.setTop (mkF m 54 #[.val (.ref it), .val (.int (1 : Int32)), .val (.ref ed)] [(.int (2 : Int32)), (.ref it)])) (fun t_ k_ => ?_) ?_
  · show Steps p.tables e below (T6.setTop (mkF m 35 #[.val (.ref it), .val (.int (1 : Int32)), .unset] [(.ref ed)])) t_
    refine XS.astoreN X6.here hx rfl (hb hby d30_35) rfl rfl (l' := #[.val (.ref it), .val (.int (1 : Int32)), .val (.ref ed)]) rfl ?_
    show Steps p.tables e below (T6.setTop (mkF m 36 #[.val (.ref it), .val (.int (1 : Int32)), .val (.ref ed)] [])) t_
    refine XS.iloadN X6.here hx rfl (hb hby d30_36) rfl ?_
    show Steps p.tables e below (T6.setTop (mkF m 37 #[.val (.ref it), .val (.int (1 : Int32)), .val (.ref ed)] [(.int (1 : Int32))])) t_
    refine XS.aloadN X6.here hx rfl (hb hby d30_37) rfl rfl ?_
    show Steps p.tables e below (T6.setTop (mkF m 38 #[.val (.ref it), .val (.int (1 : Int32)), .val (.ref ed)] [(.ref ed), (.int (1 : Int32))])) t_
    refine X6.arraylength hx (by rw [e6]; exact Ar7.1) (State.isArrayOf_alike hZ.alike Ar7.2.1) (g := (mkF m 38 #[.val (.ref it), .val (.int (1 : Int32)), .val (.ref ed)] [(.ref ed), (.int (1 : Int32))])) rfl rfl (hb hby d30_38) _ ?_
    rw [len_of S7 M7]
    show Steps p.tables e below (T6.setTop (mkF m 39 #[.val (.ref it), .val (.int (1 : Int32)), .val (.ref ed)] [(.int (10 : Int32)), (.int (1 : Int32))])) t_
    refine XS.icmpYes X6.here hx rfl (pc0 := 39) (pc' := 50) rfl (hb hby d30_39) rfl (tlt (by decide : (1 : Int32) < (10 : Int32))).1 (by decide) (by decide) ?_
    show Steps p.tables e below (T6.setTop (mkF m 50 #[.val (.ref it), .val (.int (1 : Int32)), .val (.ref ed)] [])) t_
    refine XS.aloadN X6.here hx rfl (hb hby d30_50) rfl rfl ?_
    show Steps p.tables e below (T6.setTop (mkF m 51 #[.val (.ref it), .val (.int (1 : Int32)), .val (.ref ed)] [(.ref it)])) t_
    refine XS.iloadN X6.here hx rfl (hb hby d30_51) rfl ?_
    show Steps p.tables e below (T6.setTop (mkF m 52 #[.val (.ref it), .val (.int (1 : Int32)), .val (.ref ed)] [(.int (1 : Int32)), (.ref it)])) t_
    refine XS.iconst X6.here hx rfl (hb hby d30_52) ?_
    show Steps p.tables e below (T6.setTop (mkF m 53 #[.val (.ref it), .val (.int (1 : Int32)), .val (.ref ed)] [(.int (1 : Int32)), (.int (1 : Int32)), (.ref it)])) t_
    refine XS.iadd X6.here hx rfl (hb hby d30_53) rfl ?_
    exact k_
  obtain ⟨T8, h8, X8, e8, W8, st8⟩ := putF X6 hx hZ hown (host := "") (Or.inl (own_w hw 199 rfl)) Via.refl e6 u2 u0 (Or.inl (own_w hw 200 rfl)) (own_w hw 176 rfl) (ty := .int) (by decide) rfl rfl (g := (mkF m 54 #[.val (.ref it), .val (.int (1 : Int32)), .val (.ref ed)] [(.int (2 : Int32)), (.ref it)])) rfl rfl (hb hby d30_54)
  have Fw8 : Fld Z h8 it "java/util/ArrayList$Itr" "cursor" "I" (.int (2 : Int32)) := u2.same W8
  refine own_go st8 ?_
  have K8 : Keep h0 h8 [it] := (Keep.refl h0 [it]).wr W8 (Or.inl (List.mem_of_getElem? (i := 0) rfl))
  have N8 := Fr.snoc X8 N1 u5
  refine own_go (A := T8.setTop (mkF m 61 #[.val (.ref it), .val (.int (1 : Int32)), .val (.ref ed)] [(.int (1 : Int32)), (.ref it), (.int (1 : Int32)), (.ref ed)])) (fun t_ k_ => ?_) ?_
  · show Steps p.tables e below (T8.setTop (mkF m 57 #[.val (.ref it), .val (.int (1 : Int32)), .val (.ref ed)] [])) t_
    refine XS.aloadN X8.here hx rfl (hb hby d30_57) rfl rfl ?_
    show Steps p.tables e below (T8.setTop (mkF m 58 #[.val (.ref it), .val (.int (1 : Int32)), .val (.ref ed)] [(.ref ed)])) t_
    refine XS.aloadN X8.here hx rfl (hb hby d30_58) rfl rfl ?_
    show Steps p.tables e below (T8.setTop (mkF m 59 #[.val (.ref it), .val (.int (1 : Int32)), .val (.ref ed)] [(.ref it), (.ref ed)])) t_
    refine XS.iloadN X8.here hx rfl (hb hby d30_59) rfl ?_
    show Steps p.tables e below (T8.setTop (mkF m 60 #[.val (.ref it), .val (.int (1 : Int32)), .val (.ref ed)] [(.int (1 : Int32)), (.ref it), (.ref ed)])) t_
    refine XS.dupX1 X8.here hx rfl (hb hby d30_60) rfl rfl rfl ?_
    exact k_
  obtain ⟨T9, h9, X9, e9, W9, st9⟩ := putF X8 hx hZ hown (host := "") (Or.inl (own_w hw 185 rfl)) Via.refl e8 (u3.other W8 (Or.inr (slot_ne (Or.inl (own_w hw 186 rfl)) (Or.inl (own_w hw 200 rfl)) (by decide) (t := .int) (t' := .int) (by decide) (by decide)))) (u0.wr W8) (Or.inl (own_w hw 186 rfl)) (own_w hw 176 rfl) (ty := .int) (by decide) rfl rfl (g := (mkF m 61 #[.val (.ref it), .val (.int (1 : Int32)), .val (.ref ed)] [(.int (1 : Int32)), (.ref it), (.int (1 : Int32)), (.ref ed)])) rfl rfl (hb hby d30_61)
  have Fw9 : Fld Z h9 it "java/util/ArrayList$Itr" "lastRet" "I" (.int (1 : Int32)) := (u3.other W8 (Or.inr (slot_ne (Or.inl (own_w hw 186 rfl)) (Or.inl (own_w hw 200 rfl)) (by decide) (t := .int) (t' := .int) (by decide) (by decide)))).same W9
  refine own_go st9 ?_
  have K9 : Keep h0 h9 [it] := K8.wr W9 (Or.inl (List.mem_of_getElem? (i := 0) rfl))
  have N9 := Fr.snoc X9 N8 u5
  obtain ⟨cl10, Ar10, q10, S10, M10, H10, G10⟩ := id ((u12.other W8 u6).other W9 u6)
  have hin10 : ¬ ((1 : Int32) < 0 ∨ cl10.slots.size ≤ ((1 : Int32)).toNatClampNeg) := inb_of S10 ⟨by decide, by decide⟩
  have hat10 : cl10.slots[((1 : Int32)).toNatClampNeg]? = some ee1 := Has.at H10 hin10 rfl
  refine own_go (A := T9.setTop (mkF m 65 #[.val (.ref it), .val (.int (1 : Int32)), .val (.ref ed)] [ee1])) (fun t_ k_ => ?_) ?_
  · show Steps p.tables e below (T9.setTop (mkF m 64 #[.val (.ref it), .val (.int (1 : Int32)), .val (.ref ed)] [(.int (1 : Int32)), (.ref ed)])) t_
    refine X9.aaload hx (j := (1 : Int32)) (v := ee1) (by rw [e9]; exact Ar10.1) (State.isArrayOf_alike hZ.alike Ar10.2.1) rfl Ar10.2.2 hin10 hat10 (g := (mkF m 64 #[.val (.ref it), .val (.int (1 : Int32)), .val (.ref ed)] [(.int (1 : Int32)), (.ref ed)])) rfl rfl (hb hby d30_64) _ ?_
    exact k_
  obtain ⟨fs11, hr11, hrun11, hended11, hW11, hsame11⟩ := X9.leave (v := some ee1) (fun h => by rw [Bd.returns] at h; cases h)
  refine ⟨_, _, ?_, hrun11, hended11, _, _, rfl, ?_, ⟨_, rfl⟩, hW11, hsame11.mono (by decide) (by decide)⟩
  · exact own_retA X9 hx Bd.returns rfl (own_nref hee) hee (hb hby d30_65) hr11
  · show Q_rmNx1 Z it a la mc sz ed kk ee0 ee1 ee2 h0 n0 _ T9.heap _
    rw [e9]
    exact ⟨rfl, N9, K9, ((u1.other W8 (Or.inr (slot_ne (Or.inr (own_w hw 183 rfl)) (Or.inl (own_w hw 200 rfl)) (by decide) (t := (.object "java/util/ArrayList")) (t' := .int) (by decide) (by decide)))).other W9 (Or.inr (slot_ne (Or.inr (own_w hw 183 rfl)) (Or.inl (own_w hw 186 rfl)) (by decide) (t := (.object "java/util/ArrayList")) (t' := .int) (by decide) (by decide)))), (Fw8.other W9 (Or.inr (slot_ne (Or.inl (own_w hw 200 rfl)) (Or.inl (own_w hw 186 rfl)) (by decide) (t := .int) (t' := .int) (by decide) (by decide)))), Fw9, ((u4.other W8 (Or.inr (slot_ne (Or.inl (own_w hw 189 rfl)) (Or.inl (own_w hw 200 rfl)) (by decide) (t := .int) (t' := .int) (by decide) (by decide)))).other W9 (Or.inr (slot_ne (Or.inl (own_w hw 189 rfl)) (Or.inl (own_w hw 186 rfl)) (by decide) (t := .int) (t' := .int) (by decide) (by decide))))⟩
theorem ef_rmNx2 (m : MethodId) (it : Addr) : entryFrame m #[(.ref it)] 3 = mkF m 0 #[.val (.ref it), .unset, .unset] [] := by first | (simp [entryFrame, mkF, argsToLocals, Value.category]; done) | rfl
def Q_rmNx2 (Z : State) (it : Addr) (a : Addr) (la : Int32) (mc : Int32) (sz : Int32) (ed : Addr) (kk : ClassId) (ee0 : Value) (ee1 : Value) (ee2 : Value) (h0 : Heap) (n0 : Nat) (v_ : Option Value) (h_ : Heap) (L_ : List Loc) : Prop := v_ = some ee2 ∧ Fr n0 L_ ∧ Keep h0 h_ [it] ∧ Fld Z h_ it "java/util/ArrayList$Itr" "this$0" "Ljava/util/ArrayList;" (.ref a) ∧ Fld Z h_ it "java/util/ArrayList$Itr" "cursor" "I" (.int (3 : Int32)) ∧ Fld Z h_ it "java/util/ArrayList$Itr" "lastRet" "I" (.int (2 : Int32)) ∧ Fld Z h_ it "java/util/ArrayList$Itr" "expectedModCount" "I" (.int mc)
set_option maxRecDepth 65536 in
set_option maxHeartbeats 40000000 in
theorem rmNx2 (l : Launch) (Z : State) (a0 : Array Value) (hw : ∀ d ∈ tables_1, d.before a0 Z = true) (ws : List Jvm.Cond) (it : Addr) (a : Addr) (la : Int32) (mc : Int32) (sz : Int32) (ed : Addr) (kk : ClassId) (ee0 : Value) (ee1 : Value) (ee2 : Value) (h0 : Heap) (n0 : Nat) (Z0 : n0 ≤ h0.size) (u0 : Exa Z h0 it "java/util/ArrayList$Itr") (u1 : Fld Z h0 it "java/util/ArrayList$Itr" "this$0" "Ljava/util/ArrayList;" (.ref a)) (u2 : Fld Z h0 it "java/util/ArrayList$Itr" "cursor" "I" (.int (2 : Int32))) (u3 : Fld Z h0 it "java/util/ArrayList$Itr" "lastRet" "I" (.int la)) (u4 : Fld Z h0 it "java/util/ArrayList$Itr" "expectedModCount" "I" (.int mc)) (u5 : n0 ≤ it) (u6 : ed ≠ it) (u7 : Exa Z h0 a "java/util/ArrayList") (u8 : Fld Z h0 a "java/util/AbstractList" "modCount" "I" (.int mc)) (u9 : Fld Z h0 a "java/util/ArrayList" "size" "I" (.int sz)) (hcu : (2 : Int32) < sz) (u11 : Fld Z h0 a "java/util/ArrayList" "elementData" "[Ljava/lang/Object;" (.ref ed)) (u12 : Arv Z h0 ed kk (.object "java/lang/Object") (10 : Int32) [ee0, ee1, ee2, .null, .null, .null, .null, .null, .null, .null] .null) (hee : ee2.isRef = true) :
    MetFree l own_y29 (head1 (Jvm.Cond.code own_y29 jdk_49_method_3_code 3 (some (.object "java/lang/Object")) :: ws) ({ frames := 1, cells := 0, slots := 0, locals := 12 } : Room)) (fun a_ U_ => a_ = #[(.ref it)] ∧ Z.Warmed39 U_.vm ∧ U_.heap = h0) (fun _ _ _ _ _ => True) (fun _ U_ o_ U2_ => ∃ v_ L_, o_ = .returned v_ ∧ Q_rmNx2 Z it a la mc sz ed kk ee0 ee1 ee2 h0 n0 v_ U2_.heap L_ ∧ FrameEnd U_ o_ U2_ L_ ({ frames := 1, cells := 0, slots := 0, locals := 12 } : Room).cells ({ frames := 1, cells := 0, slots := 0, locals := 12 } : Room).slots) := by
  refine MetFree.of_bodySF (plainFor_of_name pn_9) hisR ?_
  intro p e s m args below meth c s₁ Bd hml0 hP hK
  obtain ⟨rfl, hZ, hh⟩ := hP
  have hx := Bd.exec
  have hby := Bd.bytes
  have hml : c.maxLocals = 3 := hml0
  have hown : s.vm.findClass "java/util/ArrayList$Itr" = some m.cls := findClass_of_methodNamed Bd.named
  have hnm := (name_of_methodNamed Bd.named Bd.method).1
  have X0 : Stand p l e ({ frames := 1, cells := 0, slots := 0, locals := 12 } : Room) s m #[(.ref it)] below meth c s₁ [] 0 0 := Stand.of_body Bd
  have e0 : s₁.heap = h0 := by rw [← hh, Bd.state]; rfl
  have N0 := Fr.nil n0
  refine own_go (A := s₁.setTop (mkF m 0 #[.val (.ref it), .unset, .unset] [])) (fun t_ k_ => castTop (ef_rmNx2 m it) k_) ?_
  refine own_go (A := s₁.setTop (mkF m 1 #[.val (.ref it), .unset, .unset] [(.ref it)])) (fun t_ k_ => ?_) ?_
  · show Steps p.tables e below (s₁.setTop (mkF m 0 #[.val (.ref it), .unset, .unset] [])) t_
    refine XS.aloadN X0.here hx rfl (hb hby d30_0) rfl rfl ?_
    exact k_
  obtain ⟨cq1, kq1, q1a, q1b, q1c⟩ := isOf hZ e0 u0
  obtain ⟨_, _, ⟨T1, L1, k1, n1⟩, -, X1, ⟨Lc1, hQ1, l1, y1, z1⟩, st1⟩ := X0.virtualBack hx (y := own_y28) (z := own_y28) hown (mvT hZ (own_w hw 210 rfl)) (mvT hZ (own_w hw 211 rfl)) (notFace_of_selects (args := #[]) (mvT hZ (own_w hw 213 rfl))) (mvT hZ (own_w hw 213 rfl)) (mvT hZ (own_w hw 212 rfl)) (by decide) (backOf (W := 0) (rmCom l Z a0 hw [] it a mc h0 n0 Z0 u1 u4 u8) hZ (own_w hw 214 rfl) (own_w hw 177 rfl) (by decide) (by decide)) q1a q1c (g := (mkF m 1 #[.val (.ref it), .unset, .unset] [(.ref it)])) rfl (by rw [hml]; rfl) (Steps.refl _) (argsL := []) (rest := []) (lenOf pd_7 rfl) rfl (by show 2 * 0 + _ ≤ _; exact Nat.le_of_eq rfl) (hb hby d30_1) (fun _ _ => ⟨rfl, e0, (by decide : 0 + 0 ≤ _), (by decide : 0 + 0 ≤ _)⟩)
  dsimp only [Pt.U, Pt.locs, Pt.cells, Pt.slots] at X1 l1 y1 z1 st1 hQ1
  subst l1 y1 z1
  obtain ⟨rfl, N1q, eh1⟩ := hQ1
  have N1 := Fr.app N0 N1q
  refine own_via st1 ?_
  refine own_go (A := T1.setTop (mkF m 5 #[.val (.ref it), .unset, .unset] [(.ref it)])) (fun t_ k_ => ?_) ?_
  · show Steps p.tables e below (T1.setTop (mkF m 4 #[.val (.ref it), .unset, .unset] [])) t_
    refine XS.aloadN X1.here hx rfl (hb hby d30_4) rfl rfl ?_
    exact k_
  obtain ⟨T2, X2, e2, st2⟩ := getF X1 hx hZ hown (host := "") (Or.inl (own_w hw 199 rfl)) Via.refl eh1 u2 (g := (mkF m 5 #[.val (.ref it), .unset, .unset] [(.ref it)])) rfl rfl (hb hby d30_5)
  refine own_go st2 ?_
  refine own_go (A := T2.setTop (mkF m 11 #[.val (.ref it), .val (.int (2 : Int32)), .unset] [(.ref it), (.int (2 : Int32))])) (fun t_ k_ => ?_) ?_
  · show Steps p.tables e below (T2.setTop (mkF m 8 #[.val (.ref it), .unset, .unset] [(.int (2 : Int32))])) t_
    refine XS.istoreN X2.here hx rfl (hb hby d30_8) rfl (l' := #[.val (.ref it), .val (.int (2 : Int32)), .unset]) rfl ?_
    show Steps p.tables e below (T2.setTop (mkF m 9 #[.val (.ref it), .val (.int (2 : Int32)), .unset] [])) t_
    refine XS.iloadN X2.here hx rfl (hb hby d30_9) rfl ?_
    show Steps p.tables e below (T2.setTop (mkF m 10 #[.val (.ref it), .val (.int (2 : Int32)), .unset] [(.int (2 : Int32))])) t_
    refine XS.aloadN X2.here hx rfl (hb hby d30_10) rfl rfl ?_
    exact k_
  obtain ⟨T3, X3, e3, st3⟩ := getF X2 hx hZ hown (host := "") (Or.inl (own_w hw 182 rfl)) Via.refl e2 u1 (g := (mkF m 11 #[.val (.ref it), .val (.int (2 : Int32)), .unset] [(.ref it), (.int (2 : Int32))])) rfl rfl (hb hby d30_11)
  refine own_go st3 ?_
  obtain ⟨T4, X4, e4, st4⟩ := getF X3 hx hZ hown (Or.inr (own_w hw 201 rfl)) Via.refl e3 u9 (g := (mkF m 14 #[.val (.ref it), .val (.int (2 : Int32)), .unset] [(.ref a), (.int (2 : Int32))])) rfl rfl (hb hby d30_14)
  refine own_go st4 ?_
  refine own_go (A := T4.setTop (mkF m 29 #[.val (.ref it), .val (.int (2 : Int32)), .unset] [(.ref it)])) (fun t_ k_ => ?_) ?_
  · show Steps p.tables e below (T4.setTop (mkF m 17 #[.val (.ref it), .val (.int (2 : Int32)), .unset] [(.int sz), (.int (2 : Int32))])) t_
    refine XS.icmpYes X4.here hx rfl (pc0 := 17) (pc' := 28) rfl (hb hby d30_17) rfl (tlt hcu).1 (by decide) (by decide) ?_
    show Steps p.tables e below (T4.setTop (mkF m 28 #[.val (.ref it), .val (.int (2 : Int32)), .unset] [])) t_
    refine XS.aloadN X4.here hx rfl (hb hby d30_28) rfl rfl ?_
    exact k_
  obtain ⟨T5, X5, e5, st5⟩ := getF X4 hx hZ hown (host := "") (Or.inl (own_w hw 182 rfl)) Via.refl e4 u1 (g := (mkF m 29 #[.val (.ref it), .val (.int (2 : Int32)), .unset] [(.ref it)])) rfl rfl (hb hby d30_29)
  refine own_go st5 ?_
  obtain ⟨T6, X6, e6, st6⟩ := getF X5 hx hZ hown (host := "") (Or.inl (own_w hw 215 rfl)) Via.refl e5 u11 (g := (mkF m 32 #[.val (.ref it), .val (.int (2 : Int32)), .unset] [(.ref a)])) rfl rfl (hb hby d30_32)
  refine own_go st6 ?_
  obtain ⟨cl7, Ar7, q7, S7, M7, H7, G7⟩ := id u12
  refine own_go (A := T6.setTop (mkF m 54 #[.val (.ref it), .val (.int (2 : Int32)), .val (.ref ed)] [(.int (3 : Int32)), (.ref it)])) (fun t_ k_ => ?_) ?_
  · show Steps p.tables e below (T6.setTop (mkF m 35 #[.val (.ref it), .val (.int (2 : Int32)), .unset] [(.ref ed)])) t_
    refine XS.astoreN X6.here hx rfl (hb hby d30_35) rfl rfl (l' := #[.val (.ref it), .val (.int (2 : Int32)), .val (.ref ed)]) rfl ?_
    show Steps p.tables e below (T6.setTop (mkF m 36 #[.val (.ref it), .val (.int (2 : Int32)), .val (.ref ed)] [])) t_
    refine XS.iloadN X6.here hx rfl (hb hby d30_36) rfl ?_
    show Steps p.tables e below (T6.setTop (mkF m 37 #[.val (.ref it), .val (.int (2 : Int32)), .val (.ref ed)] [(.int (2 : Int32))])) t_
    refine XS.aloadN X6.here hx rfl (hb hby d30_37) rfl rfl ?_
    show Steps p.tables e below (T6.setTop (mkF m 38 #[.val (.ref it), .val (.int (2 : Int32)), .val (.ref ed)] [(.ref ed), (.int (2 : Int32))])) t_
    refine X6.arraylength hx (by rw [e6]; exact Ar7.1) (State.isArrayOf_alike hZ.alike Ar7.2.1) (g := (mkF m 38 #[.val (.ref it), .val (.int (2 : Int32)), .val (.ref ed)] [(.ref ed), (.int (2 : Int32))])) rfl rfl (hb hby d30_38) _ ?_
    rw [len_of S7 M7]
    show Steps p.tables e below (T6.setTop (mkF m 39 #[.val (.ref it), .val (.int (2 : Int32)), .val (.ref ed)] [(.int (10 : Int32)), (.int (2 : Int32))])) t_
    refine XS.icmpYes X6.here hx rfl (pc0 := 39) (pc' := 50) rfl (hb hby d30_39) rfl (tlt (by decide : (2 : Int32) < (10 : Int32))).1 (by decide) (by decide) ?_
    show Steps p.tables e below (T6.setTop (mkF m 50 #[.val (.ref it), .val (.int (2 : Int32)), .val (.ref ed)] [])) t_
    refine XS.aloadN X6.here hx rfl (hb hby d30_50) rfl rfl ?_
    show Steps p.tables e below (T6.setTop (mkF m 51 #[.val (.ref it), .val (.int (2 : Int32)), .val (.ref ed)] [(.ref it)])) t_
    refine XS.iloadN X6.here hx rfl (hb hby d30_51) rfl ?_
    show Steps p.tables e below (T6.setTop (mkF m 52 #[.val (.ref it), .val (.int (2 : Int32)), .val (.ref ed)] [(.int (2 : Int32)), (.ref it)])) t_
    refine XS.iconst X6.here hx rfl (hb hby d30_52) ?_
    show Steps p.tables e below (T6.setTop (mkF m 53 #[.val (.ref it), .val (.int (2 : Int32)), .val (.ref ed)] [(.int (1 : Int32)), (.int (2 : Int32)), (.ref it)])) t_
    refine XS.iadd X6.here hx rfl (hb hby d30_53) rfl ?_
    exact k_
  obtain ⟨T8, h8, X8, e8, W8, st8⟩ := putF X6 hx hZ hown (host := "") (Or.inl (own_w hw 199 rfl)) Via.refl e6 u2 u0 (Or.inl (own_w hw 200 rfl)) (own_w hw 176 rfl) (ty := .int) (by decide) rfl rfl (g := (mkF m 54 #[.val (.ref it), .val (.int (2 : Int32)), .val (.ref ed)] [(.int (3 : Int32)), (.ref it)])) rfl rfl (hb hby d30_54)
  have Fw8 : Fld Z h8 it "java/util/ArrayList$Itr" "cursor" "I" (.int (3 : Int32)) := u2.same W8
  refine own_go st8 ?_
  have K8 : Keep h0 h8 [it] := (Keep.refl h0 [it]).wr W8 (Or.inl (List.mem_of_getElem? (i := 0) rfl))
  have N8 := Fr.snoc X8 N1 u5
  refine own_go (A := T8.setTop (mkF m 61 #[.val (.ref it), .val (.int (2 : Int32)), .val (.ref ed)] [(.int (2 : Int32)), (.ref it), (.int (2 : Int32)), (.ref ed)])) (fun t_ k_ => ?_) ?_
  · show Steps p.tables e below (T8.setTop (mkF m 57 #[.val (.ref it), .val (.int (2 : Int32)), .val (.ref ed)] [])) t_
    refine XS.aloadN X8.here hx rfl (hb hby d30_57) rfl rfl ?_
    show Steps p.tables e below (T8.setTop (mkF m 58 #[.val (.ref it), .val (.int (2 : Int32)), .val (.ref ed)] [(.ref ed)])) t_
    refine XS.aloadN X8.here hx rfl (hb hby d30_58) rfl rfl ?_
    show Steps p.tables e below (T8.setTop (mkF m 59 #[.val (.ref it), .val (.int (2 : Int32)), .val (.ref ed)] [(.ref it), (.ref ed)])) t_
    refine XS.iloadN X8.here hx rfl (hb hby d30_59) rfl ?_
    show Steps p.tables e below (T8.setTop (mkF m 60 #[.val (.ref it), .val (.int (2 : Int32)), .val (.ref ed)] [(.int (2 : Int32)), (.ref it), (.ref ed)])) t_
    refine XS.dupX1 X8.here hx rfl (hb hby d30_60) rfl rfl rfl ?_
    exact k_
  obtain ⟨T9, h9, X9, e9, W9, st9⟩ := putF X8 hx hZ hown (host := "") (Or.inl (own_w hw 185 rfl)) Via.refl e8 (u3.other W8 (Or.inr (slot_ne (Or.inl (own_w hw 186 rfl)) (Or.inl (own_w hw 200 rfl)) (by decide) (t := .int) (t' := .int) (by decide) (by decide)))) (u0.wr W8) (Or.inl (own_w hw 186 rfl)) (own_w hw 176 rfl) (ty := .int) (by decide) rfl rfl (g := (mkF m 61 #[.val (.ref it), .val (.int (2 : Int32)), .val (.ref ed)] [(.int (2 : Int32)), (.ref it), (.int (2 : Int32)), (.ref ed)])) rfl rfl (hb hby d30_61)
  have Fw9 : Fld Z h9 it "java/util/ArrayList$Itr" "lastRet" "I" (.int (2 : Int32)) := (u3.other W8 (Or.inr (slot_ne (Or.inl (own_w hw 186 rfl)) (Or.inl (own_w hw 200 rfl)) (by decide) (t := .int) (t' := .int) (by decide) (by decide)))).same W9
  refine own_go st9 ?_
  have K9 : Keep h0 h9 [it] := K8.wr W9 (Or.inl (List.mem_of_getElem? (i := 0) rfl))
  have N9 := Fr.snoc X9 N8 u5
  obtain ⟨cl10, Ar10, q10, S10, M10, H10, G10⟩ := id ((u12.other W8 u6).other W9 u6)
  have hin10 : ¬ ((2 : Int32) < 0 ∨ cl10.slots.size ≤ ((2 : Int32)).toNatClampNeg) := inb_of S10 ⟨by decide, by decide⟩
  have hat10 : cl10.slots[((2 : Int32)).toNatClampNeg]? = some ee2 := Has.at H10 hin10 rfl
  refine own_go (A := T9.setTop (mkF m 65 #[.val (.ref it), .val (.int (2 : Int32)), .val (.ref ed)] [ee2])) (fun t_ k_ => ?_) ?_
  · show Steps p.tables e below (T9.setTop (mkF m 64 #[.val (.ref it), .val (.int (2 : Int32)), .val (.ref ed)] [(.int (2 : Int32)), (.ref ed)])) t_
    refine X9.aaload hx (j := (2 : Int32)) (v := ee2) (by rw [e9]; exact Ar10.1) (State.isArrayOf_alike hZ.alike Ar10.2.1) rfl Ar10.2.2 hin10 hat10 (g := (mkF m 64 #[.val (.ref it), .val (.int (2 : Int32)), .val (.ref ed)] [(.int (2 : Int32)), (.ref ed)])) rfl rfl (hb hby d30_64) _ ?_
    exact k_
  obtain ⟨fs11, hr11, hrun11, hended11, hW11, hsame11⟩ := X9.leave (v := some ee2) (fun h => by rw [Bd.returns] at h; cases h)
  refine ⟨_, _, ?_, hrun11, hended11, _, _, rfl, ?_, ⟨_, rfl⟩, hW11, hsame11.mono (by decide) (by decide)⟩
  · exact own_retA X9 hx Bd.returns rfl (own_nref hee) hee (hb hby d30_65) hr11
  · show Q_rmNx2 Z it a la mc sz ed kk ee0 ee1 ee2 h0 n0 _ T9.heap _
    rw [e9]
    exact ⟨rfl, N9, K9, ((u1.other W8 (Or.inr (slot_ne (Or.inr (own_w hw 183 rfl)) (Or.inl (own_w hw 200 rfl)) (by decide) (t := (.object "java/util/ArrayList")) (t' := .int) (by decide) (by decide)))).other W9 (Or.inr (slot_ne (Or.inr (own_w hw 183 rfl)) (Or.inl (own_w hw 186 rfl)) (by decide) (t := (.object "java/util/ArrayList")) (t' := .int) (by decide) (by decide)))), (Fw8.other W9 (Or.inr (slot_ne (Or.inl (own_w hw 200 rfl)) (Or.inl (own_w hw 186 rfl)) (by decide) (t := .int) (t' := .int) (by decide) (by decide)))), Fw9, ((u4.other W8 (Or.inr (slot_ne (Or.inl (own_w hw 189 rfl)) (Or.inl (own_w hw 200 rfl)) (by decide) (t := .int) (t' := .int) (by decide) (by decide)))).other W9 (Or.inr (slot_ne (Or.inl (own_w hw 189 rfl)) (Or.inl (own_w hw 186 rfl)) (by decide) (t := .int) (t' := .int) (by decide) (by decide))))⟩
theorem d32_0 : decode prog_18_method_11_code 0 = .ok (.aload_n 0, 1) := by decide +kernel
theorem d32_1 : decode prog_18_method_11_code 1 = .ok (.getfield 33, 3) := by decide +kernel
theorem d32_4 : decode prog_18_method_11_code 4 = .ok (.lreturn, 1) := by decide +kernel
abbrev own_y30 : MethodName := ⟨"com/example/firmline/firmline/model/Task", "period", "()J"⟩
theorem ef_rmPer (m : MethodId) (a : Addr) : entryFrame m #[(.ref a)] 1 = mkF m 0 #[.val (.ref a)] [] := by first | (simp [entryFrame, mkF, argsToLocals, Value.category]; done) | rfl
def Q_rmPer (Z : State) (a : Addr) (q : Int64) (h0 : Heap) (n0 : Nat) (v_ : Option Value) (h_ : Heap) (L_ : List Loc) : Prop := v_ = some (.long q) ∧ Fr n0 L_ ∧ h_ = h0
set_option maxRecDepth 65536 in
set_option maxHeartbeats 40000000 in
theorem rmPer (l : Launch) (Z : State) (a0 : Array Value) (hw : ∀ d ∈ tables_1, d.before a0 Z = true) (ws : List Jvm.Cond) (a : Addr) (q : Int64) (h0 : Heap) (n0 : Nat) (Z0 : n0 ≤ h0.size) (u0 : Fld Z h0 a "com/example/firmline/firmline/model/Task" "period" "J" (.long q)) :
    MetFree l own_y30 (head1 (Jvm.Cond.code own_y30 prog_18_method_11_code 1 (some .long) :: ws) ({ frames := 0, cells := 0, slots := 0, locals := 0 } : Room)) (fun a_ U_ => a_ = #[(.ref a)] ∧ Z.Warmed39 U_.vm ∧ U_.heap = h0) (fun _ _ _ _ _ => True) (fun _ U_ o_ U2_ => ∃ v_ L_, o_ = .returned v_ ∧ Q_rmPer Z a q h0 n0 v_ U2_.heap L_ ∧ FrameEnd U_ o_ U2_ L_ ({ frames := 0, cells := 0, slots := 0, locals := 0 } : Room).cells ({ frames := 0, cells := 0, slots := 0, locals := 0 } : Room).slots) := by
  refine MetFree.of_bodySF (plainFor_of_name pn_5) hisR ?_
  intro p e s m args below meth c s₁ Bd hml0 hP hK
  obtain ⟨rfl, hZ, hh⟩ := hP
  have hx := Bd.exec
  have hby := Bd.bytes
  have hml : c.maxLocals = 1 := hml0
  have hown : s.vm.findClass "com/example/firmline/firmline/model/Task" = some m.cls := findClass_of_methodNamed Bd.named
  have hnm := (name_of_methodNamed Bd.named Bd.method).1
  have X0 : Stand p l e ({ frames := 0, cells := 0, slots := 0, locals := 0 } : Room) s m #[(.ref a)] below meth c s₁ [] 0 0 := Stand.of_body Bd
  have e0 : s₁.heap = h0 := by rw [← hh, Bd.state]; rfl
  have N0 := Fr.nil n0
  refine own_go (A := s₁.setTop (mkF m 0 #[.val (.ref a)] [])) (fun t_ k_ => castTop (ef_rmPer m a) k_) ?_
  refine own_go (A := s₁.setTop (mkF m 1 #[.val (.ref a)] [(.ref a)])) (fun t_ k_ => ?_) ?_
  · show Steps p.tables e below (s₁.setTop (mkF m 0 #[.val (.ref a)] [])) t_
    refine XS.aloadN X0.here hx rfl (hb hby d32_0) rfl rfl ?_
    exact k_
  obtain ⟨T1, X1, e1, st1⟩ := getF X0 hx hZ hown (host := "") (Or.inl (own_w hw 116 rfl)) Via.refl e0 u0 (g := (mkF m 1 #[.val (.ref a)] [(.ref a)])) rfl rfl (hb hby d32_1)
  refine own_go st1 ?_
  obtain ⟨fs2, hr2, hrun2, hended2, hW2, hsame2⟩ := X1.leave (v := some (.long q)) (fun h => by rw [Bd.returns] at h; cases h)
  refine ⟨_, _, ?_, hrun2, hended2, _, _, rfl, ?_, ⟨_, rfl⟩, hW2, hsame2.mono (by decide) (by decide)⟩
  · exact own_retJ X1 hx Bd.returns (hb hby d32_4) hr2
  · show Q_rmPer Z a q h0 n0 _ T1.heap _
    rw [e1]
    exact ⟨rfl, N0, rfl⟩
def own_NR (t p r : Int64) : Prop := t.toInt ≤ r.toInt ∧ (((r.toInt - 1) / p.toInt = (t.toInt - 1) / p.toInt ∧ r.toInt % p.toInt = 0) ∨ (r.toInt = 9223372036854775807 ∧ 9223372036854775807 / p.toInt * p.toInt < t.toInt))
theorem own_dv {x p : Int64} (hx : 0 ≤ x.toInt) (hp : 1 ≤ p.toInt) : (x / p).toInt = x.toInt / p.toInt :=
  (c_ldiv x p _ rfl (fun q => by rw [q] at hp; exact absurd hp (by decide))).1 hx
theorem own_s1 {t : Int64} (h : 1 ≤ t.toInt) : (t - (1 : Int64)).toInt = t.toInt - 1 := by
  have h1 := c_lsub t 1; have h2 := rng64 t; have h3 := rng64 (t - 1); rw [own_i1] at h1; omega
theorem own_rel {t p : Int64} (ht : 1 ≤ t.toInt) (hp : 1 ≤ p.toInt ∧ p.toInt ≤ 1000000000000000) : (((t - (1 : Int64)) / p)).toInt = (t.toInt - 1) / p.toInt := by
  rw [own_dv (by rw [own_s1 ht]; omega) hp.1, own_s1 ht]
theorem own_a1 {t p : Int64} (ht : 1 ≤ t.toInt) (hp : 1 ≤ p.toInt ∧ p.toInt ≤ 1000000000000000) : t.toInt < 9223372036854775807 + 1 ∧ (((t - (1 : Int64)) / p) + (1 : Int64)).toInt = (t.toInt - 1) / p.toInt + 1 := by
  have h0 := own_rel ht hp; have h1 := c_ladd ((t - (1 : Int64)) / p) 1; have h2 := rng64 t; have h3 := rng64 (((t - (1 : Int64)) / p) + 1); rw [own_i1] at h1
  have h4 : 0 ≤ (t.toInt - 1) / p.toInt := Int.ediv_nonneg (by omega) (by omega)
  have h5 : (t.toInt - 1) / p.toInt ≤ t.toInt - 1 := Int.ediv_le_self _ (by omega)
  constructor <;> omega
theorem own_mp {p : Int64} (hp : 1 ≤ p.toInt ∧ p.toInt ≤ 1000000000000000) : ((9223372036854775807 : Int64) / p).toInt = 9223372036854775807 / p.toInt := by
  rw [own_dv (by decide) hp.1, own_iM]
theorem own_zz {t p r : Int} (hp : 1 ≤ p) (ht : 1 ≤ t) (hr : r = ((t - 1) / p + 1) * p) : t ≤ r ∧ (r - 1) / p = (t - 1) / p ∧ r % p = 0 := by
  have h1 := Int.emod_add_mul_ediv (t - 1) p
  have h2 := Int.emod_nonneg (t - 1) (show p ≠ 0 by omega)
  have h3 := Int.emod_lt_of_pos (t - 1) (show 0 < p by omega)
  generalize (t - 1) / p = k at *
  have h4 : r = p * k + p := by rw [hr, Int.add_mul, Int.one_mul, Int.mul_comm]
  refine ⟨by omega, ?_, ?_⟩
  · rw [h4, show p * k + p - 1 = (p - 1) + p * k by omega, Int.add_mul_ediv_left _ _ (show p ≠ 0 by omega), Int.ediv_eq_zero_of_lt (by omega) (by omega)]; omega
  · rw [hr]; exact Int.mul_emod_left _ _
theorem own_nr1 {t p : Int64} (ht : 1 ≤ t.toInt) (hp : 1 ≤ p.toInt ∧ p.toInt ≤ 1000000000000000) (h : ¬ (((9223372036854775807 : Int64) / p) < (((t - (1 : Int64)) / p) + (1 : Int64)))) : own_NR t p ((((t - (1 : Int64)) / p) + (1 : Int64)) * p) := by
  have h0 := (own_a1 ht hp).2; have h1 := own_nlti h; rw [own_mp hp, h0] at h1
  have h2 := Int.ediv_mul_le 9223372036854775807 (show p.toInt ≠ 0 by omega)
  have h3 : ((t.toInt - 1) / p.toInt + 1) * p.toInt ≤ 9223372036854775807 / p.toInt * p.toInt := Int.mul_le_mul_of_nonneg_right h1 (by omega)
  have h4 : 0 ≤ ((t.toInt - 1) / p.toInt + 1) * p.toInt := Int.mul_nonneg (by have : 0 ≤ (t.toInt - 1) / p.toInt := Int.ediv_nonneg (by omega) (by omega); omega) (by omega)
  have h5 := c_lmul (((t - (1 : Int64)) / p) + (1 : Int64)) p
  have h6 := rng64 ((((t - (1 : Int64)) / p) + (1 : Int64)) * p)
  rw [h0] at h5
  have h7 : ((((t - (1 : Int64)) / p) + (1 : Int64)) * p).toInt = ((t.toInt - 1) / p.toInt + 1) * p.toInt := by omega
  obtain ⟨z1, z2, z3⟩ := own_zz hp.1 ht h7
  exact ⟨z1, Or.inl ⟨z2, z3⟩⟩
theorem own_nr2 {t p : Int64} (ht : 1 ≤ t.toInt) (hp : 1 ≤ p.toInt ∧ p.toInt ≤ 1000000000000000) (h : ((9223372036854775807 : Int64) / p) < (((t - (1 : Int64)) / p) + (1 : Int64))) : own_NR t p (9223372036854775807 : Int64) := by
  have h0 := (own_a1 ht hp).2; have h1 := own_lti h; rw [own_mp hp, h0] at h1
  refine ⟨by rw [own_iM]; have := (own_a1 ht hp).1; omega, Or.inr ⟨own_iM, ?_⟩⟩
  have h2 : 9223372036854775807 / p.toInt * p.toInt ≤ (t.toInt - 1) / p.toInt * p.toInt := Int.mul_le_mul_of_nonneg_right (by omega) (by omega)
  have h3 := Int.ediv_mul_le (t.toInt - 1) (show p.toInt ≠ 0 by omega)
  omega
theorem own_qt {t p x r : Int64} (ht : 1 ≤ t.toInt) (hp : 1 ≤ p.toInt ∧ p.toInt ≤ 1000000000000000) (h : own_NR t p x) (h1 : t.toInt ≤ r.toInt) (h2 : r.toInt ≤ x.toInt) : (r - (1 : Int64)) / p = (t - (1 : Int64)) / p := by
  apply Int64.toInt_inj.mp; rw [own_rel ht hp, own_rel (by omega) hp]
  have a1 : (t.toInt - 1) / p.toInt ≤ (r.toInt - 1) / p.toInt := Int.ediv_le_ediv (by omega) (by omega)
  have a2 : (r.toInt - 1) / p.toInt ≤ (x.toInt - 1) / p.toInt := Int.ediv_le_ediv (by omega) (by omega)
  rcases h.2 with ⟨b1, -⟩ | ⟨b1, b2⟩
  · omega
  · have c1 : (x.toInt - 1) / p.toInt ≤ 9223372036854775807 / p.toInt := Int.ediv_le_ediv (by omega) (by omega)
    have c2 : 9223372036854775807 / p.toInt ≤ (t.toInt - 1) / p.toInt := (Int.le_ediv_iff_mul_le (by omega)).mpr (by omega)
    omega
theorem own_hit {t p r : Int64} (hp : 1 ≤ p.toInt ∧ p.toInt ≤ 1000000000000000) (ht : 1 ≤ t.toInt) (h : own_NR t p r) (hn : ¬ ((r - (r / p) * p) = (0 : Int64))) : r.toInt = 9223372036854775807 ∧ 9223372036854775807 / p.toInt * p.toInt < t.toInt := by
  rcases h.2 with ⟨-, b⟩ | b
  · exact absurd (Int64.toInt_inj.mp (by rw [(c_lrem r p _ rfl).1 (by have := h.1; omega), b]; decide)) hn
  · exact b
theorem own_top {t p x : Int64} (h : own_NR t p x) : True := trivial
theorem own_bey {t p : Int64} (hp : 1 ≤ p.toInt ∧ p.toInt ≤ 1000000000000000) (ht : 9223372036854775807 / p.toInt * p.toInt < t.toInt) : (((9223372036854775807 : Int64) / p) * p) < t := by
  rw [Int64.lt_iff_toInt_lt]
  have h5 := c_lmul ((9223372036854775807 : Int64) / p) p; rw [own_mp hp] at h5
  have h6 := rng64 (((9223372036854775807 : Int64) / p) * p)
  have h2 := Int.ediv_mul_le 9223372036854775807 (show p.toInt ≠ 0 by omega)
  have h4 : 0 ≤ 9223372036854775807 / p.toInt * p.toInt := Int.mul_nonneg (Int.ediv_nonneg (by decide) (by omega)) (by omega)
  omega
theorem own_lo {q : Int64} (h : 1 ≤ q.toInt ∧ q.toInt ≤ 1000000000000000) : ¬ (q < (1 : Int64)) := by
  rw [Int64.lt_iff_toInt_lt, own_i1]; omega
theorem own_hi {q : Int64} (h : 1 ≤ q.toInt ∧ q.toInt ≤ 1000000000000000) : ¬ ((1000000000000000 : Int64) < q) := by
  rw [Int64.lt_iff_toInt_lt, show ((1000000000000000 : Int64).toInt) = 1000000000000000 from by decide]; omega
theorem own_nz {q : Int64} (h : 1 ≤ q.toInt ∧ q.toInt ≤ 1000000000000000) : ¬ (q = (0 : Int64)) := fun z => by rw [z] at h; exact absurd h.1 (by decide)
theorem own_rr {t p r x : Int64} (h : own_NR t p x) (hr : r.toInt = 9223372036854775807) (h2 : r.toInt ≤ x.toInt) : own_NR t p r := by
  have : x = r := Int64.toInt_inj.mp (by have := rng64 x; omega)
  rw [← this]; exact h
theorem d34_0 : decode prog_18_method_3_code 0 = .ok (.lload_n 0, 1) := by decide +kernel
theorem d34_1 : decode prog_18_method_3_code 1 = .ok (.lconst 1, 1) := by decide +kernel
theorem d34_2 : decode prog_18_method_3_code 2 = .ok (.lsub, 1) := by decide +kernel
theorem d34_3 : decode prog_18_method_3_code 3 = .ok (.lload_n 2, 1) := by decide +kernel
theorem d34_4 : decode prog_18_method_3_code 4 = .ok (.ldiv, 1) := by decide +kernel
theorem d34_5 : decode prog_18_method_3_code 5 = .ok (.lconst 1, 1) := by decide +kernel
theorem d34_6 : decode prog_18_method_3_code 6 = .ok (.ladd, 1) := by decide +kernel
theorem d34_7 : decode prog_18_method_3_code 7 = .ok (.lreturn, 1) := by decide +kernel
abbrev own_y31 : MethodName := ⟨"com/example/firmline/firmline/model/Task", "releasesBefore", "(JJ)J"⟩
theorem ef_rmRel (m : MethodId) (tm : Int64) (q : Int64) : entryFrame m #[(.long tm), (.long q)] 4 = mkF m 0 #[.val (.long tm), .second, .val (.long q), .second] [] := by first | (simp [entryFrame, mkF, argsToLocals, Value.category]; done) | rfl
def Q_rmRel (Z : State) (tm : Int64) (q : Int64) (h0 : Heap) (n0 : Nat) (v_ : Option Value) (h_ : Heap) (L_ : List Loc) : Prop := v_ = some (.long (((tm - (1 : Int64)) / q) + (1 : Int64))) ∧ Fr n0 L_ ∧ h_ = h0
set_option maxRecDepth 65536 in
set_option maxHeartbeats 40000000 in
theorem rmRel (l : Launch) (Z : State) (a0 : Array Value) (hw : ∀ d ∈ tables_1, d.before a0 Z = true) (ws : List Jvm.Cond) (tm : Int64) (q : Int64) (h0 : Heap) (n0 : Nat) (Z0 : n0 ≤ h0.size) (hnz : ¬ (q = (0 : Int64))) :
    MetFree l own_y31 (head1 (Jvm.Cond.code own_y31 prog_18_method_3_code 4 (some .long) :: ws) ({ frames := 0, cells := 0, slots := 0, locals := 0 } : Room)) (fun a_ U_ => a_ = #[(.long tm), (.long q)] ∧ Z.Warmed39 U_.vm ∧ U_.heap = h0) (fun _ _ _ _ _ => True) (fun _ U_ o_ U2_ => ∃ v_ L_, o_ = .returned v_ ∧ Q_rmRel Z tm q h0 n0 v_ U2_.heap L_ ∧ FrameEnd U_ o_ U2_ L_ ({ frames := 0, cells := 0, slots := 0, locals := 0 } : Room).cells ({ frames := 0, cells := 0, slots := 0, locals := 0 } : Room).slots) := by
  refine MetFree.of_bodySF (plainFor_of_name pn_5) hisR ?_
  intro p e s m args below meth c s₁ Bd hml0 hP hK
  obtain ⟨rfl, hZ, hh⟩ := hP
  have hx := Bd.exec
  have hby := Bd.bytes
  have hml : c.maxLocals = 4 := hml0
  have hown : s.vm.findClass "com/example/firmline/firmline/model/Task" = some m.cls := findClass_of_methodNamed Bd.named
  have hnm := (name_of_methodNamed Bd.named Bd.method).1
  have X0 : Stand p l e ({ frames := 0, cells := 0, slots := 0, locals := 0 } : Room) s m #[(.long tm), (.long q)] below meth c s₁ [] 0 0 := Stand.of_body Bd
  have e0 : s₁.heap = h0 := by rw [← hh, Bd.state]; rfl
  have N0 := Fr.nil n0
  refine own_go (A := s₁.setTop (mkF m 0 #[.val (.long tm), .second, .val (.long q), .second] [])) (fun t_ k_ => castTop (ef_rmRel m tm q) k_) ?_
  refine own_go (A := s₁.setTop (mkF m 7 #[.val (.long tm), .second, .val (.long q), .second] [(.long (((tm - (1 : Int64)) / q) + (1 : Int64)))])) (fun t_ k_ => ?_) ?_
  · show Steps p.tables e below (s₁.setTop (mkF m 0 #[.val (.long tm), .second, .val (.long q), .second] [])) t_
    refine XS.lloadN X0.here hx rfl (hb hby d34_0) rfl ?_
    show Steps p.tables e below (s₁.setTop (mkF m 1 #[.val (.long tm), .second, .val (.long q), .second] [(.long tm)])) t_
    refine XS.lconst X0.here hx rfl (hb hby d34_1) ?_
    show Steps p.tables e below (s₁.setTop (mkF m 2 #[.val (.long tm), .second, .val (.long q), .second] [(.long (1 : Int64)), (.long tm)])) t_
    refine XS.lsub X0.here hx rfl (hb hby d34_2) rfl ?_
    show Steps p.tables e below (s₁.setTop (mkF m 3 #[.val (.long tm), .second, .val (.long q), .second] [(.long (tm - (1 : Int64)))])) t_
    refine XS.lloadN X0.here hx rfl (hb hby d34_3) rfl ?_
    show Steps p.tables e below (s₁.setTop (mkF m 4 #[.val (.long tm), .second, .val (.long q), .second] [(.long q), (.long (tm - (1 : Int64)))])) t_
    refine XS.ldiv X0.here hx rfl (hb hby d34_4) rfl hnz ?_
    show Steps p.tables e below (s₁.setTop (mkF m 5 #[.val (.long tm), .second, .val (.long q), .second] [(.long ((tm - (1 : Int64)) / q))])) t_
    refine XS.lconst X0.here hx rfl (hb hby d34_5) ?_
    show Steps p.tables e below (s₁.setTop (mkF m 6 #[.val (.long tm), .second, .val (.long q), .second] [(.long (1 : Int64)), (.long ((tm - (1 : Int64)) / q))])) t_
    refine XS.ladd X0.here hx rfl (hb hby d34_6) rfl ?_
    exact k_
  obtain ⟨fs1, hr1, hrun1, hended1, hW1, hsame1⟩ := X0.leave (v := some (.long (((tm - (1 : Int64)) / q) + (1 : Int64)))) (fun h => by rw [Bd.returns] at h; cases h)
  refine ⟨_, _, ?_, hrun1, hended1, _, _, rfl, ?_, ⟨_, rfl⟩, hW1, hsame1.mono (by decide) (by decide)⟩
  · exact own_retJ X0 hx Bd.returns (hb hby d34_7) hr1
  · show Q_rmRel Z tm q h0 n0 _ s₁.heap _
    rw [e0]
    exact ⟨rfl, N0, rfl⟩
theorem d33_0 : decode prog_7_method_7_code 0 = .ok (.lload_n 0, 1) := by decide +kernel
theorem d33_1 : decode prog_7_method_7_code 1 = .ok (.lload_n 2, 1) := by decide +kernel
theorem pd_17 : parseMethodDescriptor "(JJ)J" = some ⟨[.long, .long], some .long⟩ := by decide +kernel
theorem d33_2 : decode prog_7_method_7_code 2 = .ok (.invokestatic 89, 3) := by decide +kernel
theorem d33_5 : decode prog_7_method_7_code 5 = .ok (.lstore 4, 2) := by decide +kernel
theorem d33_7 : decode prog_7_method_7_code 7 = .ok (.lload 4, 2) := by decide +kernel
theorem d33_9 : decode prog_7_method_7_code 9 = .ok (.ldc2_w 106, 3) := by decide +kernel
theorem d33_12 : decode prog_7_method_7_code 12 = .ok (.lload_n 2, 1) := by decide +kernel
theorem d33_13 : decode prog_7_method_7_code 13 = .ok (.ldiv, 1) := by decide +kernel
theorem d33_14 : decode prog_7_method_7_code 14 = .ok (.lcmp, 1) := by decide +kernel
theorem d33_15 : decode prog_7_method_7_code 15 = .ok (.ifCond .gt 10, 3) := by decide +kernel
theorem d33_25 : decode prog_7_method_7_code 25 = .ok (.ldc2_w 106, 3) := by decide +kernel
theorem d33_28 : decode prog_7_method_7_code 28 = .ok (.lreturn, 1) := by decide +kernel
theorem d33_18 : decode prog_7_method_7_code 18 = .ok (.lload 4, 2) := by decide +kernel
theorem d33_20 : decode prog_7_method_7_code 20 = .ok (.lload_n 2, 1) := by decide +kernel
theorem d33_21 : decode prog_7_method_7_code 21 = .ok (.lmul, 1) := by decide +kernel
theorem d33_22 : decode prog_7_method_7_code 22 = .ok (.goto 6, 3) := by decide +kernel
abbrev own_y32 : MethodName := ⟨"com/example/firmline/firmline/analysis/Interference", "nextRelease", "(JJ)J"⟩
theorem ef_rmNR (m : MethodId) (tm : Int64) (q : Int64) : entryFrame m #[(.long tm), (.long q)] 6 = mkF m 0 #[.val (.long tm), .second, .val (.long q), .second, .unset, .unset] [] := by first | (simp [entryFrame, mkF, argsToLocals, Value.category]; done) | rfl
def Q_rmNR (Z : State) (tm : Int64) (q : Int64) (h0 : Heap) (n0 : Nat) (v_ : Option Value) (h_ : Heap) (L_ : List Loc) : Prop := ∃ r : Int64, v_ = some (.long r) ∧ Fr n0 L_ ∧ h_ = h0 ∧ (own_NR tm q r)
theorem pn_10 : plainName "com/example/firmline/firmline/analysis/Interference" = true := by first | (simp [plainName, overriddenIn]; done) | decide +kernel
set_option maxRecDepth 65536 in
set_option maxHeartbeats 40000000 in
theorem rmNR (l : Launch) (Z : State) (a0 : Array Value) (hw : ∀ d ∈ tables_1, d.before a0 Z = true) (ws : List Jvm.Cond) (tm : Int64) (q : Int64) (h0 : Heap) (n0 : Nat) (Z0 : n0 ≤ h0.size) (ht : 1 ≤ tm.toInt) (hq : 1 ≤ q.toInt ∧ q.toInt ≤ 1000000000000000) :
    MetFree l own_y32 (head1 (Jvm.Cond.code own_y32 prog_7_method_7_code 6 (some .long) :: ws) ({ frames := 1, cells := 0, slots := 0, locals := 15 } : Room)) (fun a_ U_ => a_ = #[(.long tm), (.long q)] ∧ Z.Warmed39 U_.vm ∧ U_.heap = h0) (fun _ _ _ _ _ => True) (fun _ U_ o_ U2_ => ∃ v_ L_, o_ = .returned v_ ∧ Q_rmNR Z tm q h0 n0 v_ U2_.heap L_ ∧ FrameEnd U_ o_ U2_ L_ ({ frames := 1, cells := 0, slots := 0, locals := 15 } : Room).cells ({ frames := 1, cells := 0, slots := 0, locals := 15 } : Room).slots) := by
  refine MetFree.of_bodySF (plainFor_of_name pn_10) hisR ?_
  intro p e s m args below meth c s₁ Bd hml0 hP hK
  obtain ⟨rfl, hZ, hh⟩ := hP
  have hx := Bd.exec
  have hby := Bd.bytes
  have hml : c.maxLocals = 6 := hml0
  have hown : s.vm.findClass "com/example/firmline/firmline/analysis/Interference" = some m.cls := findClass_of_methodNamed Bd.named
  have hnm := (name_of_methodNamed Bd.named Bd.method).1
  have X0 : Stand p l e ({ frames := 1, cells := 0, slots := 0, locals := 15 } : Room) s m #[(.long tm), (.long q)] below meth c s₁ [] 0 0 := Stand.of_body Bd
  have e0 : s₁.heap = h0 := by rw [← hh, Bd.state]; rfl
  have N0 := Fr.nil n0
  refine own_go (A := s₁.setTop (mkF m 0 #[.val (.long tm), .second, .val (.long q), .second, .unset, .unset] [])) (fun t_ k_ => castTop (ef_rmNR m tm q) k_) ?_
  refine own_go (A := s₁.setTop (mkF m 2 #[.val (.long tm), .second, .val (.long q), .second, .unset, .unset] [(.long q), (.long tm)])) (fun t_ k_ => ?_) ?_
  · show Steps p.tables e below (s₁.setTop (mkF m 0 #[.val (.long tm), .second, .val (.long q), .second, .unset, .unset] [])) t_
    refine XS.lloadN X0.here hx rfl (hb hby d33_0) rfl ?_
    show Steps p.tables e below (s₁.setTop (mkF m 1 #[.val (.long tm), .second, .val (.long q), .second, .unset, .unset] [(.long tm)])) t_
    refine XS.lloadN X0.here hx rfl (hb hby d33_1) rfl ?_
    exact k_
  obtain ⟨_, _, ⟨T1, L1, k1, n1⟩, -, X1, ⟨Lc1, hQ1, l1, y1, z1⟩, st1⟩ := Jvm.LawKit.callS X0 hx (y := own_y31) hown (mvT hZ (own_w hw 226 rfl)) (mvT hZ (own_w hw 227 rfl)) (mvT hZ (own_w hw 38 rfl)) (mvT hZ (own_w hw 228 rfl)) (by decide) (backOf (W := 0) (rmRel l Z a0 hw [] tm q h0 n0 Z0 (own_nz hq : ¬ (q = (0 : Int64)))) hZ (own_w hw 228 rfl) (own_w hw 38 rfl) (by decide) (by decide)) (g := (mkF m 2 #[.val (.long tm), .second, .val (.long q), .second, .unset, .unset] [(.long q), (.long tm)])) rfl (by rw [hml]; rfl) (argsL := [(.long tm), (.long q)]) (rest := []) (lenOf pd_17 rfl) rfl (by show 2 * 0 + _ ≤ _; exact Nat.le_of_eq rfl) (hb hby d33_2) (fun _ _ => ⟨rfl, e0, (by decide : 0 + 0 ≤ _), (by decide : 0 + 0 ≤ _)⟩)
  dsimp only [Pt.U, Pt.locs, Pt.cells, Pt.slots] at X1 l1 y1 z1 st1 hQ1
  subst l1 y1 z1
  obtain ⟨rfl, N1q, eh1⟩ := hQ1
  have N1 := Fr.app N0 N1q
  refine own_go st1 ?_
  refine own_go (A := T1.setTop (mkF m 15 #[.val (.long tm), .second, .val (.long q), .second, .val (.long (((tm - (1 : Int64)) / q) + (1 : Int64))), .second] [(.int (lcmpW (((tm - (1 : Int64)) / q) + (1 : Int64)) ((9223372036854775807 : Int64) / q)))])) (fun t_ k_ => ?_) ?_
  · show Steps p.tables e below (T1.setTop (mkF m 5 #[.val (.long tm), .second, .val (.long q), .second, .unset, .unset] [(.long (((tm - (1 : Int64)) / q) + (1 : Int64)))])) t_
    refine XS.lstore X1.here hx rfl (hb hby d33_5) rfl (l' := #[.val (.long tm), .second, .val (.long q), .second, .val (.long (((tm - (1 : Int64)) / q) + (1 : Int64))), .second]) rfl ?_
    show Steps p.tables e below (T1.setTop (mkF m 7 #[.val (.long tm), .second, .val (.long q), .second, .val (.long (((tm - (1 : Int64)) / q) + (1 : Int64))), .second] [])) t_
    refine XS.lload X1.here hx rfl (hb hby d33_7) rfl ?_
    show Steps p.tables e below (T1.setTop (mkF m 9 #[.val (.long tm), .second, .val (.long q), .second, .val (.long (((tm - (1 : Int64)) / q) + (1 : Int64))), .second] [(.long (((tm - (1 : Int64)) / q) + (1 : Int64)))])) t_
    refine Jvm.Stand.ldc2J X1 hx hown (mvT hZ (own_w hw 166 rfl)) (g := (mkF m 9 #[.val (.long tm), .second, .val (.long q), .second, .val (.long (((tm - (1 : Int64)) / q) + (1 : Int64))), .second] [(.long (((tm - (1 : Int64)) / q) + (1 : Int64)))])) rfl (hb hby d33_9) ?_
    show Steps p.tables e below (T1.setTop (mkF m 12 #[.val (.long tm), .second, .val (.long q), .second, .val (.long (((tm - (1 : Int64)) / q) + (1 : Int64))), .second] [(.long (9223372036854775807 : Int64)), (.long (((tm - (1 : Int64)) / q) + (1 : Int64)))])) t_
    refine XS.lloadN X1.here hx rfl (hb hby d33_12) rfl ?_
    show Steps p.tables e below (T1.setTop (mkF m 13 #[.val (.long tm), .second, .val (.long q), .second, .val (.long (((tm - (1 : Int64)) / q) + (1 : Int64))), .second] [(.long q), (.long (9223372036854775807 : Int64)), (.long (((tm - (1 : Int64)) / q) + (1 : Int64)))])) t_
    refine XS.ldiv X1.here hx rfl (hb hby d33_13) rfl (own_nz hq) ?_
    show Steps p.tables e below (T1.setTop (mkF m 14 #[.val (.long tm), .second, .val (.long q), .second, .val (.long (((tm - (1 : Int64)) / q) + (1 : Int64))), .second] [(.long ((9223372036854775807 : Int64) / q)), (.long (((tm - (1 : Int64)) / q) + (1 : Int64)))])) t_
    refine XS.lcmp X1.here hx rfl (hb hby d33_14) rfl ?_
    exact k_
  by_cases hc15_2 : ((9223372036854775807 : Int64) / q) < (((tm - (1 : Int64)) / q) + (1 : Int64))
  · refine own_go (A := T1.setTop (mkF m 28 #[.val (.long tm), .second, .val (.long q), .second, .val (.long (((tm - (1 : Int64)) / q) + (1 : Int64))), .second] [(.long (9223372036854775807 : Int64))])) (fun t_ k_ => ?_) ?_
    · show Steps p.tables e below (T1.setTop (mkF m 15 #[.val (.long tm), .second, .val (.long q), .second, .val (.long (((tm - (1 : Int64)) / q) + (1 : Int64))), .second] [(.int (lcmpW (((tm - (1 : Int64)) / q) + (1 : Int64)) ((9223372036854775807 : Int64) / q)))])) t_
      refine XS.ifYes X1.here hx rfl (pc0 := 15) (pc' := 25) rfl (hb hby d33_15) rfl ((if0 _ _).trans (tlt ((lw_gt _ _).mpr hc15_2)).2.2.1) (by decide) (by decide) ?_
      show Steps p.tables e below (T1.setTop (mkF m 25 #[.val (.long tm), .second, .val (.long q), .second, .val (.long (((tm - (1 : Int64)) / q) + (1 : Int64))), .second] [])) t_
      refine Jvm.Stand.ldc2J X1 hx hown (mvT hZ (own_w hw 166 rfl)) (g := (mkF m 25 #[.val (.long tm), .second, .val (.long q), .second, .val (.long (((tm - (1 : Int64)) / q) + (1 : Int64))), .second] [])) rfl (hb hby d33_25) ?_
      exact k_
    obtain ⟨fs3, hr3, hrun3, hended3, hW3, hsame3⟩ := X1.leave (v := some (.long (9223372036854775807 : Int64))) (fun h => by rw [Bd.returns] at h; cases h)
    refine ⟨_, _, ?_, hrun3, hended3, _, _, rfl, ?_, ⟨_, rfl⟩, hW3, hsame3.mono (by decide) (by decide)⟩
    · exact own_retJ X1 hx Bd.returns (hb hby d33_28) hr3
    · show Q_rmNR Z tm q h0 n0 _ T1.heap _
      rw [eh1]
      exact ⟨(9223372036854775807 : Int64), rfl, N1, rfl, (own_nr2 ht hq hc15_2)⟩
  · refine own_go (A := T1.setTop (mkF m 28 #[.val (.long tm), .second, .val (.long q), .second, .val (.long (((tm - (1 : Int64)) / q) + (1 : Int64))), .second] [(.long ((((tm - (1 : Int64)) / q) + (1 : Int64)) * q))])) (fun t_ k_ => ?_) ?_
    · show Steps p.tables e below (T1.setTop (mkF m 15 #[.val (.long tm), .second, .val (.long q), .second, .val (.long (((tm - (1 : Int64)) / q) + (1 : Int64))), .second] [(.int (lcmpW (((tm - (1 : Int64)) / q) + (1 : Int64)) ((9223372036854775807 : Int64) / q)))])) t_
      refine XS.ifNo X1.here hx rfl (hb hby d33_15) rfl ((if0 _ _).trans (flt (fun q => hc15_2 ((lw_gt _ _).mp q))).2.2.1) ?_
      show Steps p.tables e below (T1.setTop (mkF m 18 #[.val (.long tm), .second, .val (.long q), .second, .val (.long (((tm - (1 : Int64)) / q) + (1 : Int64))), .second] [])) t_
      refine XS.lload X1.here hx rfl (hb hby d33_18) rfl ?_
      show Steps p.tables e below (T1.setTop (mkF m 20 #[.val (.long tm), .second, .val (.long q), .second, .val (.long (((tm - (1 : Int64)) / q) + (1 : Int64))), .second] [(.long (((tm - (1 : Int64)) / q) + (1 : Int64)))])) t_
      refine XS.lloadN X1.here hx rfl (hb hby d33_20) rfl ?_
      show Steps p.tables e below (T1.setTop (mkF m 21 #[.val (.long tm), .second, .val (.long q), .second, .val (.long (((tm - (1 : Int64)) / q) + (1 : Int64))), .second] [(.long q), (.long (((tm - (1 : Int64)) / q) + (1 : Int64)))])) t_
      refine XS.lmul X1.here hx rfl (hb hby d33_21) rfl ?_
      show Steps p.tables e below (T1.setTop (mkF m 22 #[.val (.long tm), .second, .val (.long q), .second, .val (.long (((tm - (1 : Int64)) / q) + (1 : Int64))), .second] [(.long ((((tm - (1 : Int64)) / q) + (1 : Int64)) * q))])) t_
      refine XS.goto X1.here hx rfl (pc0 := 22) (pc' := 28) rfl (hb hby d33_22) (by decide) (by decide) ?_
      exact k_
    obtain ⟨fs4, hr4, hrun4, hended4, hW4, hsame4⟩ := X1.leave (v := some (.long ((((tm - (1 : Int64)) / q) + (1 : Int64)) * q))) (fun h => by rw [Bd.returns] at h; cases h)
    refine ⟨_, _, ?_, hrun4, hended4, _, _, rfl, ?_, ⟨_, rfl⟩, hW4, hsame4.mono (by decide) (by decide)⟩
    · exact own_retJ X1 hx Bd.returns (hb hby d33_28) hr4
    · show Q_rmNR Z tm q h0 n0 _ T1.heap _
      rw [eh1]
      exact ⟨((((tm - (1 : Int64)) / q) + (1 : Int64)) * q), rfl, N1, rfl, (own_nr1 ht hq hc15_2)⟩
theorem own_min {r a b : Int64} (h : (r = a ∧ a.toInt ≤ b.toInt) ∨ (r = b ∧ b.toInt ≤ a.toInt)) : r.toInt ≤ a.toInt ∧ r.toInt ≤ b.toInt := by
  rcases h with ⟨rfl, h⟩ | ⟨rfl, h⟩ <;> omega
theorem own_minE {r a b : Int64} (h : (r = a ∧ a.toInt ≤ b.toInt) ∨ (r = b ∧ b.toInt ≤ a.toInt)) : r = a ∨ r = b := by
  rcases h with ⟨h, -⟩ | ⟨h, -⟩
  · exact Or.inl h
  · exact Or.inr h
theorem d26_0 : decode prog_7_method_6_code 0 = .ok (.ldc2_w 106, 3) := by decide +kernel
theorem d26_3 : decode prog_7_method_6_code 3 = .ok (.lstore_n 3, 1) := by decide +kernel
theorem d26_4 : decode prog_7_method_6_code 4 = .ok (.aload_n 0, 1) := by decide +kernel
theorem pd_18 : parseMethodDescriptor "()Ljava/util/Iterator;" = some ⟨[], some (.object "java/util/Iterator")⟩ := by decide +kernel
theorem d26_5 : decode prog_7_method_6_code 5 = .ok (.invokeinterface 71 1, 5) := by decide +kernel
abbrev own_y33 : MethodName := ⟨"java/util/List", "iterator", "()Ljava/util/Iterator;"⟩
theorem d26_10 : decode prog_7_method_6_code 10 = .ok (.astore 5, 2) := by decide +kernel
theorem d26_12 : decode prog_7_method_6_code 12 = .ok (.aload 5, 2) := by decide +kernel
theorem d26_14 : decode prog_7_method_6_code 14 = .ok (.invokeinterface 75 1, 5) := by decide +kernel
abbrev own_y34 : MethodName := ⟨"java/util/Iterator", "hasNext", "()Z"⟩
theorem d26_19 : decode prog_7_method_6_code 19 = .ok (.ifCond .eq 32, 3) := by decide +kernel
theorem d26_51 : decode prog_7_method_6_code 51 = .ok (.lload_n 3, 1) := by decide +kernel
theorem d26_52 : decode prog_7_method_6_code 52 = .ok (.lreturn, 1) := by decide +kernel
abbrev own_y35 : MethodName := ⟨"com/example/firmline/firmline/analysis/Interference", "nextRelease", "(Ljava/util/List;J)J"⟩
theorem ef_rmNL0 (m : MethodId) (a : Addr) (tm : Int64) : entryFrame m #[(.ref a), (.long tm)] 7 = mkF m 0 #[.val (.ref a), .val (.long tm), .second, .unset, .unset, .unset, .unset] [] := by first | (simp [entryFrame, mkF, argsToLocals, Value.category]; done) | rfl
def Q_rmNL0 (Z : State) (a : Addr) (tm : Int64) (mc : Int32) (h0 : Heap) (n0 : Nat) (v_ : Option Value) (h_ : Heap) (L_ : List Loc) : Prop := ∃ r : Int64, v_ = some (.long r) ∧ Fr n0 L_ ∧ Keep h0 h_ [] ∧ (r = (9223372036854775807 : Int64)) ∧ (r.toInt ≤ 9223372036854775807)
set_option maxRecDepth 65536 in
set_option maxHeartbeats 40000000 in
theorem rmNL0 (l : Launch) (Z : State) (a0 : Array Value) (hw : ∀ d ∈ tables_1, d.before a0 Z = true) (ws : List Jvm.Cond) (a : Addr) (tm : Int64) (mc : Int32) (h0 : Heap) (n0 : Nat) (Z0 : n0 ≤ h0.size) (ht : 1 ≤ tm.toInt) (u1 : Exa Z h0 a "java/util/ArrayList") (u2 : Fld Z h0 a "java/util/AbstractList" "modCount" "I" (.int mc)) (u3 : Fld Z h0 a "java/util/ArrayList" "size" "I" (.int (0 : Int32))) :
    MetFree l own_y35 (head1 (Jvm.Cond.code own_y35 prog_7_method_6_code 7 (some .long) :: ws) ({ frames := 3, cells := 1, slots := 4, locals := 38 } : Room)) (fun a_ U_ => a_ = #[(.ref a), (.long tm)] ∧ Z.Warmed39 U_.vm ∧ U_.heap = h0) (fun _ _ _ _ _ => True) (fun _ U_ o_ U2_ => ∃ v_ L_, o_ = .returned v_ ∧ Q_rmNL0 Z a tm mc h0 n0 v_ U2_.heap L_ ∧ FrameEnd U_ o_ U2_ L_ ({ frames := 3, cells := 1, slots := 4, locals := 38 } : Room).cells ({ frames := 3, cells := 1, slots := 4, locals := 38 } : Room).slots) := by
  refine MetFree.of_bodySF (plainFor_of_name pn_10) hisR ?_
  intro p e s m args below meth c s₁ Bd hml0 hP hK
  obtain ⟨rfl, hZ, hh⟩ := hP
  have hx := Bd.exec
  have hby := Bd.bytes
  have hml : c.maxLocals = 7 := hml0
  have hown : s.vm.findClass "com/example/firmline/firmline/analysis/Interference" = some m.cls := findClass_of_methodNamed Bd.named
  have hnm := (name_of_methodNamed Bd.named Bd.method).1
  have X0 : Stand p l e ({ frames := 3, cells := 1, slots := 4, locals := 38 } : Room) s m #[(.ref a), (.long tm)] below meth c s₁ [] 0 0 := Stand.of_body Bd
  have e0 : s₁.heap = h0 := by rw [← hh, Bd.state]; rfl
  have N0 := Fr.nil n0
  refine own_go (A := s₁.setTop (mkF m 0 #[.val (.ref a), .val (.long tm), .second, .unset, .unset, .unset, .unset] [])) (fun t_ k_ => castTop (ef_rmNL0 m a tm) k_) ?_
  refine own_go (A := s₁.setTop (mkF m 5 #[.val (.ref a), .val (.long tm), .second, .val (.long (9223372036854775807 : Int64)), .second, .unset, .unset] [(.ref a)])) (fun t_ k_ => ?_) ?_
  · show Steps p.tables e below (s₁.setTop (mkF m 0 #[.val (.ref a), .val (.long tm), .second, .unset, .unset, .unset, .unset] [])) t_
    refine Jvm.Stand.ldc2J X0 hx hown (mvT hZ (own_w hw 166 rfl)) (g := (mkF m 0 #[.val (.ref a), .val (.long tm), .second, .unset, .unset, .unset, .unset] [])) rfl (hb hby d26_0) ?_
    show Steps p.tables e below (s₁.setTop (mkF m 3 #[.val (.ref a), .val (.long tm), .second, .unset, .unset, .unset, .unset] [(.long (9223372036854775807 : Int64))])) t_
    refine XS.lstoreN X0.here hx rfl (hb hby d26_3) rfl (l' := #[.val (.ref a), .val (.long tm), .second, .val (.long (9223372036854775807 : Int64)), .second, .unset, .unset]) rfl ?_
    show Steps p.tables e below (s₁.setTop (mkF m 4 #[.val (.ref a), .val (.long tm), .second, .val (.long (9223372036854775807 : Int64)), .second, .unset, .unset] [])) t_
    refine XS.aloadN X0.here hx rfl (hb hby d26_4) rfl rfl ?_
    exact k_
  obtain ⟨cq1, kq1, q1a, q1b, q1c⟩ := isOf hZ e0 u1
  obtain ⟨_, _, ⟨T1, L1, k1, n1⟩, -, X1, ⟨Lc1, hQ1, l1, y1, z1⟩, st1⟩ := X0.interfaceBack hx (xi := own_y33) (y := own_y26) hown (mvT hZ (own_w hw 167 rfl)) (mvT hZ (own_w hw 168 rfl)) (mvT hZ (own_w hw 169 rfl)) (mvT hZ (own_w hw 170 rfl)) (mvT hZ (own_w hw 171 rfl)) (mvT hZ (own_w hw 172 rfl)) (mvT hZ (own_w hw 173 rfl)) (mvT hZ (own_w hw 133 rfl)) (by decide) (backOf (W := 0) (rmIter l Z a0 hw [] a mc h0 n0 Z0 u1 u2) hZ (own_w hw 174 rfl) (own_w hw 12 rfl) (by decide) (by decide)) q1a q1b q1c (g := (mkF m 5 #[.val (.ref a), .val (.long tm), .second, .val (.long (9223372036854775807 : Int64)), .second, .unset, .unset] [(.ref a)])) rfl (by rw [hml]; rfl) (Steps.refl _) (argsL := []) (rest := []) (lenOf pd_18 rfl) rfl (by show 2 * 0 + _ ≤ _; exact Nat.le_of_eq rfl) (hb hby d26_5) (fun _ _ => ⟨rfl, e0, (by decide : 0 + 1 ≤ _), (by decide : 0 + 4 ≤ _)⟩)
  dsimp only [Pt.U, Pt.locs, Pt.cells, Pt.slots] at X1 l1 y1 z1 st1 hQ1
  subst l1 y1 z1
  obtain ⟨it_1, rfl, N1q, Kc1, r1_0, r1_1, r1_2, r1_3, r1_4, r1_5⟩ := hQ1
  have N1 := Fr.app N0 N1q
  refine own_via st1 ?_
  have K1 : Keep h0 T1.heap [] := (Keep.refl h0 []).trans Kc1 all0
  refine own_go (A := T1.setTop (mkF m 14 #[.val (.ref a), .val (.long tm), .second, .val (.long (9223372036854775807 : Int64)), .second, .val (.ref it_1), .unset] [(.ref it_1)])) (fun t_ k_ => ?_) ?_
  · show Steps p.tables e below (T1.setTop (mkF m 10 #[.val (.ref a), .val (.long tm), .second, .val (.long (9223372036854775807 : Int64)), .second, .unset, .unset] [(.ref it_1)])) t_
    refine XS.astore X1.here hx rfl (hb hby d26_10) rfl rfl (l' := #[.val (.ref a), .val (.long tm), .second, .val (.long (9223372036854775807 : Int64)), .second, .val (.ref it_1), .unset]) rfl ?_
    show Steps p.tables e below (T1.setTop (mkF m 12 #[.val (.ref a), .val (.long tm), .second, .val (.long (9223372036854775807 : Int64)), .second, .val (.ref it_1), .unset] [])) t_
    refine XS.aload X1.here hx rfl (hb hby d26_12) rfl rfl ?_
    exact k_
  obtain ⟨cq2, kq2, q2a, q2b, q2c⟩ := isOf hZ rfl r1_1
  obtain ⟨_, _, ⟨T2, L2, k2, n2⟩, -, X2, ⟨Lc2, hQ2, l2, y2, z2⟩, st2⟩ := X1.interfaceBack hx (xi := own_y34) (y := own_y27) hown (mvT hZ (own_w hw 190 rfl)) (mvT hZ (own_w hw 191 rfl)) (mvT hZ (own_w hw 192 rfl)) (mvT hZ (own_w hw 193 rfl)) (mvT hZ (own_w hw 194 rfl)) (mvT hZ (own_w hw 195 rfl)) (mvT hZ (own_w hw 196 rfl)) (mvT hZ (own_w hw 197 rfl)) (by decide) (backOf (W := 0) (rmHas0 l Z a0 hw [] it_1 a (0 : Int32) (0 : Int32) T1.heap n0 (Nat.le_trans Z0 K1.1) r1_2 r1_3 (u3.keep Kc1 nin0) (by decide : (0 : Int32) = (0 : Int32))) hZ (own_w hw 198 rfl) (own_w hw 177 rfl) (by decide) (by decide)) q2a q2b q2c (g := (mkF m 14 #[.val (.ref a), .val (.long tm), .second, .val (.long (9223372036854775807 : Int64)), .second, .val (.ref it_1), .unset] [(.ref it_1)])) rfl (by rw [hml]; rfl) (Steps.refl _) (argsL := []) (rest := []) (lenOf pd_3 rfl) rfl (by show 2 * 0 + _ ≤ _; exact Nat.le_of_eq rfl) (hb hby d26_14) (fun _ _ => ⟨rfl, rfl, (by decide : 1 + 0 ≤ _), (by decide : 4 + 0 ≤ _)⟩)
  dsimp only [Pt.U, Pt.locs, Pt.cells, Pt.slots] at X2 l2 y2 z2 st2 hQ2
  subst l2 y2 z2
  obtain ⟨rfl, N2q, eh2⟩ := hQ2
  have N2 := Fr.app N1 N2q
  refine own_via st2 ?_
  refine own_go (A := T2.setTop (mkF m 52 #[.val (.ref a), .val (.long tm), .second, .val (.long (9223372036854775807 : Int64)), .second, .val (.ref it_1), .unset] [(.long (9223372036854775807 : Int64))])) (fun t_ k_ => ?_) ?_
  · show Steps p.tables e below (T2.setTop (mkF m 19 #[.val (.ref a), .val (.long tm), .second, .val (.long (9223372036854775807 : Int64)), .second, .val (.ref it_1), .unset] [(.int (0 : Int32))])) t_
    refine XS.ifYes X2.here hx rfl (pc0 := 19) (pc' := 51) rfl (hb hby d26_19) rfl ((if0 _ _).trans (teq (by decide : (0 : Int32) = (0 : Int32))).1) (by decide) (by decide) ?_
    show Steps p.tables e below (T2.setTop (mkF m 51 #[.val (.ref a), .val (.long tm), .second, .val (.long (9223372036854775807 : Int64)), .second, .val (.ref it_1), .unset] [])) t_
    refine XS.lloadN X2.here hx rfl (hb hby d26_51) rfl ?_
    exact k_
  obtain ⟨fs3, hr3, hrun3, hended3, hW3, hsame3⟩ := X2.leave (v := some (.long (9223372036854775807 : Int64))) (fun h => by rw [Bd.returns] at h; cases h)
  refine ⟨_, _, ?_, hrun3, hended3, _, _, rfl, ?_, ⟨_, rfl⟩, hW3, hsame3.mono (by decide) (by decide)⟩
  · exact own_retJ X2 hx Bd.returns (hb hby d26_52) hr3
  · show Q_rmNL0 Z a tm mc h0 n0 _ T2.heap _
    rw [eh2]
    exact ⟨(9223372036854775807 : Int64), rfl, N2, K1, rfl, (by have := rng64 (9223372036854775807 : Int64); omega)⟩
theorem own_or1 {r0_ r1_ z1_ : Int64} (hm1 : r1_ = r0_ ∨ r1_ = z1_) : r1_ = z1_ ∨ r1_ = r0_ := by
  rcases hm1 with rfl | rfl <;> simp
theorem d26_22 : decode prog_7_method_6_code 22 = .ok (.aload 5, 2) := by decide +kernel
theorem pd_19 : parseMethodDescriptor "()Ljava/lang/Object;" = some ⟨[], some (.object "java/lang/Object")⟩ := by decide +kernel
theorem d26_24 : decode prog_7_method_6_code 24 = .ok (.invokeinterface 81 1, 5) := by decide +kernel
abbrev own_y36 : MethodName := ⟨"java/util/Iterator", "next", "()Ljava/lang/Object;"⟩
theorem d26_29 : decode prog_7_method_6_code 29 = .ok (.checkcast 13, 3) := by decide +kernel
theorem d26_32 : decode prog_7_method_6_code 32 = .ok (.astore 6, 2) := by decide +kernel
theorem d26_34 : decode prog_7_method_6_code 34 = .ok (.lload_n 3, 1) := by decide +kernel
theorem d26_35 : decode prog_7_method_6_code 35 = .ok (.lload_n 1, 1) := by decide +kernel
theorem d26_36 : decode prog_7_method_6_code 36 = .ok (.aload 6, 2) := by decide +kernel
theorem pd_20 : parseMethodDescriptor "()J" = some ⟨[], some .long⟩ := by decide +kernel
theorem d26_38 : decode prog_7_method_6_code 38 = .ok (.invokevirtual 85, 3) := by decide +kernel
theorem d26_41 : decode prog_7_method_6_code 41 = .ok (.invokestatic 108, 3) := by decide +kernel
theorem d26_44 : decode prog_7_method_6_code 44 = .ok (.invokestatic 111, 3) := by decide +kernel
theorem d26_47 : decode prog_7_method_6_code 47 = .ok (.lstore_n 3, 1) := by decide +kernel
theorem d26_48 : decode prog_7_method_6_code 48 = .ok (.goto (-36), 3) := by decide +kernel
theorem ef_rmNL1 (m : MethodId) (a : Addr) (tm : Int64) : entryFrame m #[(.ref a), (.long tm)] 7 = mkF m 0 #[.val (.ref a), .val (.long tm), .second, .unset, .unset, .unset, .unset] [] := by first | (simp [entryFrame, mkF, argsToLocals, Value.category]; done) | rfl
def Q_rmNL1 (Z : State) (a : Addr) (tm : Int64) (mc : Int32) (ed : Addr) (kk : ClassId) (yy0 : Addr) (q1 : Int64) (h0 : Heap) (n0 : Nat) (v_ : Option Value) (h_ : Heap) (L_ : List Loc) : Prop := ∃ r : Int64, ∃ x1 : Int64, v_ = some (.long r) ∧ Fr n0 L_ ∧ Keep h0 h_ [] ∧ (own_NR tm q1 x1) ∧ (r.toInt ≤ x1.toInt) ∧ (r = x1 ∨ r = (9223372036854775807 : Int64)) ∧ (r.toInt ≤ 9223372036854775807)
set_option maxRecDepth 65536 in
set_option maxHeartbeats 40000000 in
theorem rmNL1 (l : Launch) (Z : State) (a0 : Array Value) (hw : ∀ d ∈ tables_1, d.before a0 Z = true) (ws : List Jvm.Cond) (a : Addr) (tm : Int64) (mc : Int32) (ed : Addr) (kk : ClassId) (yy0 : Addr) (q1 : Int64) (h0 : Heap) (n0 : Nat) (Z0 : n0 ≤ h0.size) (ht : 1 ≤ tm.toInt) (u1 : Exa Z h0 a "java/util/ArrayList") (u2 : Fld Z h0 a "java/util/AbstractList" "modCount" "I" (.int mc)) (u3 : Fld Z h0 a "java/util/ArrayList" "size" "I" (.int (1 : Int32))) (u4 : Fld Z h0 a "java/util/ArrayList" "elementData" "[Ljava/lang/Object;" (.ref ed)) (u5 : Arv Z h0 ed kk (.object "java/lang/Object") (10 : Int32) [(.ref yy0), .null, .null, .null, .null, .null, .null, .null, .null, .null] .null) (u6 : Exa Z h0 yy0 "com/example/firmline/firmline/model/Task") (u7 : Fld Z h0 yy0 "com/example/firmline/firmline/model/Task" "period" "J" (.long q1)) (hb1 : 1 ≤ q1.toInt ∧ q1.toInt ≤ 1000000000000000) :
    MetFree l own_y35 (head1 (Jvm.Cond.code own_y35 prog_7_method_6_code 7 (some .long) :: ws) ({ frames := 3, cells := 1, slots := 4, locals := 38 } : Room)) (fun a_ U_ => a_ = #[(.ref a), (.long tm)] ∧ Z.Warmed39 U_.vm ∧ U_.heap = h0) (fun _ _ _ _ _ => True) (fun _ U_ o_ U2_ => ∃ v_ L_, o_ = .returned v_ ∧ Q_rmNL1 Z a tm mc ed kk yy0 q1 h0 n0 v_ U2_.heap L_ ∧ FrameEnd U_ o_ U2_ L_ ({ frames := 3, cells := 1, slots := 4, locals := 38 } : Room).cells ({ frames := 3, cells := 1, slots := 4, locals := 38 } : Room).slots) := by
  refine MetFree.of_bodySF (plainFor_of_name pn_10) hisR ?_
  intro p e s m args below meth c s₁ Bd hml0 hP hK
  obtain ⟨rfl, hZ, hh⟩ := hP
  have hx := Bd.exec
  have hby := Bd.bytes
  have hml : c.maxLocals = 7 := hml0
  have hown : s.vm.findClass "com/example/firmline/firmline/analysis/Interference" = some m.cls := findClass_of_methodNamed Bd.named
  have hnm := (name_of_methodNamed Bd.named Bd.method).1
  have X0 : Stand p l e ({ frames := 3, cells := 1, slots := 4, locals := 38 } : Room) s m #[(.ref a), (.long tm)] below meth c s₁ [] 0 0 := Stand.of_body Bd
  have e0 : s₁.heap = h0 := by rw [← hh, Bd.state]; rfl
  have N0 := Fr.nil n0
  refine own_go (A := s₁.setTop (mkF m 0 #[.val (.ref a), .val (.long tm), .second, .unset, .unset, .unset, .unset] [])) (fun t_ k_ => castTop (ef_rmNL1 m a tm) k_) ?_
  refine own_go (A := s₁.setTop (mkF m 5 #[.val (.ref a), .val (.long tm), .second, .val (.long (9223372036854775807 : Int64)), .second, .unset, .unset] [(.ref a)])) (fun t_ k_ => ?_) ?_
  · show Steps p.tables e below (s₁.setTop (mkF m 0 #[.val (.ref a), .val (.long tm), .second, .unset, .unset, .unset, .unset] [])) t_
    refine Jvm.Stand.ldc2J X0 hx hown (mvT hZ (own_w hw 166 rfl)) (g := (mkF m 0 #[.val (.ref a), .val (.long tm), .second, .unset, .unset, .unset, .unset] [])) rfl (hb hby d26_0) ?_
    show Steps p.tables e below (s₁.setTop (mkF m 3 #[.val (.ref a), .val (.long tm), .second, .unset, .unset, .unset, .unset] [(.long (9223372036854775807 : Int64))])) t_
    refine XS.lstoreN X0.here hx rfl (hb hby d26_3) rfl (l' := #[.val (.ref a), .val (.long tm), .second, .val (.long (9223372036854775807 : Int64)), .second, .unset, .unset]) rfl ?_
    show Steps p.tables e below (s₁.setTop (mkF m 4 #[.val (.ref a), .val (.long tm), .second, .val (.long (9223372036854775807 : Int64)), .second, .unset, .unset] [])) t_
    refine XS.aloadN X0.here hx rfl (hb hby d26_4) rfl rfl ?_
    exact k_
  obtain ⟨cq1, kq1, q1a, q1b, q1c⟩ := isOf hZ e0 u1
  obtain ⟨_, _, ⟨T1, L1, k1, n1⟩, -, X1, ⟨Lc1, hQ1, l1, y1, z1⟩, st1⟩ := X0.interfaceBack hx (xi := own_y33) (y := own_y26) hown (mvT hZ (own_w hw 167 rfl)) (mvT hZ (own_w hw 168 rfl)) (mvT hZ (own_w hw 169 rfl)) (mvT hZ (own_w hw 170 rfl)) (mvT hZ (own_w hw 171 rfl)) (mvT hZ (own_w hw 172 rfl)) (mvT hZ (own_w hw 173 rfl)) (mvT hZ (own_w hw 133 rfl)) (by decide) (backOf (W := 0) (rmIter l Z a0 hw [] a mc h0 n0 Z0 u1 u2) hZ (own_w hw 174 rfl) (own_w hw 12 rfl) (by decide) (by decide)) q1a q1b q1c (g := (mkF m 5 #[.val (.ref a), .val (.long tm), .second, .val (.long (9223372036854775807 : Int64)), .second, .unset, .unset] [(.ref a)])) rfl (by rw [hml]; rfl) (Steps.refl _) (argsL := []) (rest := []) (lenOf pd_18 rfl) rfl (by show 2 * 0 + _ ≤ _; exact Nat.le_of_eq rfl) (hb hby d26_5) (fun _ _ => ⟨rfl, e0, (by decide : 0 + 1 ≤ _), (by decide : 0 + 4 ≤ _)⟩)
  dsimp only [Pt.U, Pt.locs, Pt.cells, Pt.slots] at X1 l1 y1 z1 st1 hQ1
  subst l1 y1 z1
  obtain ⟨it_1, rfl, N1q, Kc1, r1_0, r1_1, r1_2, r1_3, r1_4, r1_5⟩ := hQ1
  have N1 := Fr.app N0 N1q
  refine own_via st1 ?_
  have K1 : Keep h0 T1.heap [] := (Keep.refl h0 []).trans Kc1 all0
  refine own_go (A := T1.setTop (mkF m 14 #[.val (.ref a), .val (.long tm), .second, .val (.long (9223372036854775807 : Int64)), .second, .val (.ref it_1), .unset] [(.ref it_1)])) (fun t_ k_ => ?_) ?_
  · show Steps p.tables e below (T1.setTop (mkF m 10 #[.val (.ref a), .val (.long tm), .second, .val (.long (9223372036854775807 : Int64)), .second, .unset, .unset] [(.ref it_1)])) t_
    refine XS.astore X1.here hx rfl (hb hby d26_10) rfl rfl (l' := #[.val (.ref a), .val (.long tm), .second, .val (.long (9223372036854775807 : Int64)), .second, .val (.ref it_1), .unset]) rfl ?_
    show Steps p.tables e below (T1.setTop (mkF m 12 #[.val (.ref a), .val (.long tm), .second, .val (.long (9223372036854775807 : Int64)), .second, .val (.ref it_1), .unset] [])) t_
    refine XS.aload X1.here hx rfl (hb hby d26_12) rfl rfl ?_
    exact k_
  obtain ⟨cq2, kq2, q2a, q2b, q2c⟩ := isOf hZ rfl r1_1
  obtain ⟨_, _, ⟨T2, L2, k2, n2⟩, -, X2, ⟨Lc2, hQ2, l2, y2, z2⟩, st2⟩ := X1.interfaceBack hx (xi := own_y34) (y := own_y27) hown (mvT hZ (own_w hw 190 rfl)) (mvT hZ (own_w hw 191 rfl)) (mvT hZ (own_w hw 192 rfl)) (mvT hZ (own_w hw 193 rfl)) (mvT hZ (own_w hw 194 rfl)) (mvT hZ (own_w hw 195 rfl)) (mvT hZ (own_w hw 196 rfl)) (mvT hZ (own_w hw 197 rfl)) (by decide) (backOf (W := 0) (rmHas1 l Z a0 hw [] it_1 a (0 : Int32) (1 : Int32) T1.heap n0 (Nat.le_trans Z0 K1.1) r1_2 r1_3 (u3.keep Kc1 nin0) (by decide : ¬ ((0 : Int32) = (1 : Int32)))) hZ (own_w hw 198 rfl) (own_w hw 177 rfl) (by decide) (by decide)) q2a q2b q2c (g := (mkF m 14 #[.val (.ref a), .val (.long tm), .second, .val (.long (9223372036854775807 : Int64)), .second, .val (.ref it_1), .unset] [(.ref it_1)])) rfl (by rw [hml]; rfl) (Steps.refl _) (argsL := []) (rest := []) (lenOf pd_3 rfl) rfl (by show 2 * 0 + _ ≤ _; exact Nat.le_of_eq rfl) (hb hby d26_14) (fun _ _ => ⟨rfl, rfl, (by decide : 1 + 0 ≤ _), (by decide : 4 + 0 ≤ _)⟩)
  dsimp only [Pt.U, Pt.locs, Pt.cells, Pt.slots] at X2 l2 y2 z2 st2 hQ2
  subst l2 y2 z2
  obtain ⟨rfl, N2q, eh2⟩ := hQ2
  have N2 := Fr.app N1 N2q
  refine own_via st2 ?_
  refine own_go (A := T2.setTop (mkF m 24 #[.val (.ref a), .val (.long tm), .second, .val (.long (9223372036854775807 : Int64)), .second, .val (.ref it_1), .unset] [(.ref it_1)])) (fun t_ k_ => ?_) ?_
  · show Steps p.tables e below (T2.setTop (mkF m 19 #[.val (.ref a), .val (.long tm), .second, .val (.long (9223372036854775807 : Int64)), .second, .val (.ref it_1), .unset] [(.int (1 : Int32))])) t_
    refine XS.ifNo X2.here hx rfl (hb hby d26_19) rfl ((if0 _ _).trans (feq (by decide : ¬ ((1 : Int32) = (0 : Int32)))).1) ?_
    show Steps p.tables e below (T2.setTop (mkF m 22 #[.val (.ref a), .val (.long tm), .second, .val (.long (9223372036854775807 : Int64)), .second, .val (.ref it_1), .unset] [])) t_
    refine XS.aload X2.here hx rfl (hb hby d26_22) rfl rfl ?_
    exact k_
  obtain ⟨cq3, kq3, q3a, q3b, q3c⟩ := isOf hZ eh2 r1_1
  obtain ⟨_, _, ⟨T3, L3, k3, n3⟩, -, X3, ⟨Lc3, hQ3, l3, y3, z3⟩, st3⟩ := X2.interfaceBack hx (xi := own_y36) (y := own_y29) hown (mvT hZ (own_w hw 202 rfl)) (mvT hZ (own_w hw 203 rfl)) (mvT hZ (own_w hw 204 rfl)) (mvT hZ (own_w hw 205 rfl)) (mvT hZ (own_w hw 206 rfl)) (mvT hZ (own_w hw 207 rfl)) (mvT hZ (own_w hw 208 rfl)) (mvT hZ (own_w hw 197 rfl)) (by decide) (backOf (W := 0) (rmNx0 l Z a0 hw [] it_1 a (-1 : Int32) mc (1 : Int32) ed kk (.ref yy0) .null .null T1.heap n0 (Nat.le_trans Z0 K1.1) r1_1 r1_2 r1_3 r1_4 r1_5 (Nat.le_trans Z0 r1_0) (Nat.ne_of_lt (Nat.lt_of_lt_of_le u5.lt r1_0)) (u1.keep Kc1) (u2.keep Kc1 nin0) (u3.keep Kc1 nin0) (by decide : (0 : Int32) < (1 : Int32)) (u4.keep Kc1 nin0) (u5.keep Kc1 nin0) rfl) hZ (own_w hw 209 rfl) (own_w hw 177 rfl) (by decide) (by decide)) q3a q3b q3c (g := (mkF m 24 #[.val (.ref a), .val (.long tm), .second, .val (.long (9223372036854775807 : Int64)), .second, .val (.ref it_1), .unset] [(.ref it_1)])) rfl (by rw [hml]; rfl) (Steps.refl _) (argsL := []) (rest := []) (lenOf pd_19 rfl) rfl (by show 2 * 0 + _ ≤ _; exact Nat.le_of_eq rfl) (hb hby d26_24) (fun _ _ => ⟨rfl, eh2, (by decide : 1 + 0 ≤ _), (by decide : 4 + 0 ≤ _)⟩)
  dsimp only [Pt.U, Pt.locs, Pt.cells, Pt.slots] at X3 l3 y3 z3 st3 hQ3
  subst l3 y3 z3
  obtain ⟨rfl, N3q, Kc3, r3_0, r3_1, r3_2, r3_3⟩ := hQ3
  have N3 := Fr.app N2 N3q
  refine own_via st3 ?_
  have K3 : Keep h0 T3.heap [] := K1.trans Kc3 (allS (P := fun x => x ∈ _ ∨ _ ≤ x) (Or.inr r1_0) all0)
  obtain ⟨T4, X4, e4, st4⟩ := castY X3 hx hZ hown (own_w hw 216 rfl) rfl (Ins.self ((u6.keep Kc1).keep Kc3)) (g := (mkF m 29 #[.val (.ref a), .val (.long tm), .second, .val (.long (9223372036854775807 : Int64)), .second, .val (.ref it_1), .unset] [(.ref yy0)])) rfl rfl (hb hby d26_29)
  refine own_go st4 ?_
  refine own_go (A := T4.setTop (mkF m 38 #[.val (.ref a), .val (.long tm), .second, .val (.long (9223372036854775807 : Int64)), .second, .val (.ref it_1), .val (.ref yy0)] [(.ref yy0), (.long tm), (.long (9223372036854775807 : Int64))])) (fun t_ k_ => ?_) ?_
  · show Steps p.tables e below (T4.setTop (mkF m 32 #[.val (.ref a), .val (.long tm), .second, .val (.long (9223372036854775807 : Int64)), .second, .val (.ref it_1), .unset] [(.ref yy0)])) t_
    refine XS.astore X4.here hx rfl (hb hby d26_32) rfl rfl (l' := #[.val (.ref a), .val (.long tm), .second, .val (.long (9223372036854775807 : Int64)), .second, .val (.ref it_1), .val (.ref yy0)]) rfl ?_
    show Steps p.tables e below (T4.setTop (mkF m 34 #[.val (.ref a), .val (.long tm), .second, .val (.long (9223372036854775807 : Int64)), .second, .val (.ref it_1), .val (.ref yy0)] [])) t_
    refine XS.lloadN X4.here hx rfl (hb hby d26_34) rfl ?_
    show Steps p.tables e below (T4.setTop (mkF m 35 #[.val (.ref a), .val (.long tm), .second, .val (.long (9223372036854775807 : Int64)), .second, .val (.ref it_1), .val (.ref yy0)] [(.long (9223372036854775807 : Int64))])) t_
    refine XS.lloadN X4.here hx rfl (hb hby d26_35) rfl ?_
    show Steps p.tables e below (T4.setTop (mkF m 36 #[.val (.ref a), .val (.long tm), .second, .val (.long (9223372036854775807 : Int64)), .second, .val (.ref it_1), .val (.ref yy0)] [(.long tm), (.long (9223372036854775807 : Int64))])) t_
    refine XS.aload X4.here hx rfl (hb hby d26_36) rfl rfl ?_
    exact k_
  obtain ⟨cq5, kq5, q5a, q5b, q5c⟩ := isOf hZ e4 ((u6.keep Kc1).keep Kc3)
  obtain ⟨_, _, ⟨T5, L5, k5, n5⟩, -, X5, ⟨Lc5, hQ5, l5, y5, z5⟩, st5⟩ := X4.virtualBack hx (y := own_y30) (z := own_y30) hown (mvT hZ (own_w hw 218 rfl)) (mvT hZ (own_w hw 219 rfl)) (notFace_of_selects (args := #[]) (mvT hZ (own_w hw 221 rfl))) (mvT hZ (own_w hw 221 rfl)) (mvT hZ (own_w hw 220 rfl)) (by decide) (backOf (W := 4) (rmPer l Z a0 hw [] yy0 q1 T3.heap n0 (Nat.le_trans Z0 K3.1) ((u7.keep Kc1 nin0).keep Kc3 (ninS (Nat.ne_of_lt (Nat.lt_of_lt_of_le u6.lt r1_0)) nin0))) hZ (own_w hw 222 rfl) (own_w hw 38 rfl) (by decide) (by decide)) q5a q5c (g := (mkF m 38 #[.val (.ref a), .val (.long tm), .second, .val (.long (9223372036854775807 : Int64)), .second, .val (.ref it_1), .val (.ref yy0)] [(.ref yy0), (.long tm), (.long (9223372036854775807 : Int64))])) rfl (by rw [hml]; rfl) (Steps.refl _) (argsL := []) (rest := [(.long tm), (.long (9223372036854775807 : Int64))]) (lenOf pd_20 rfl) rfl (by show 2 * 0 + _ ≤ _; exact Nat.le_of_eq rfl) (hb hby d26_38) (fun _ _ => ⟨rfl, e4, (by decide : 1 + 0 ≤ _), (by decide : 4 + 0 ≤ _)⟩)
  dsimp only [Pt.U, Pt.locs, Pt.cells, Pt.slots] at X5 l5 y5 z5 st5 hQ5
  subst l5 y5 z5
  obtain ⟨rfl, N5q, eh5⟩ := hQ5
  have N5 := Fr.app N3 N5q
  refine own_via st5 ?_
  obtain ⟨_, _, ⟨T6, L6, k6, n6⟩, -, X6, ⟨Lc6, hQ6, l6, y6, z6⟩, st6⟩ := Jvm.LawKit.callS X5 hx (y := own_y32) hown (mvT hZ (own_w hw 223 rfl)) (mvT hZ (own_w hw 224 rfl)) (mvT hZ (own_w hw 164 rfl)) (mvT hZ (own_w hw 225 rfl)) (by decide) (backOf (W := 2) (rmNR l Z a0 hw [] tm q1 T3.heap n0 (Nat.le_trans Z0 K3.1) ht hb1) hZ (own_w hw 225 rfl) (own_w hw 164 rfl) (by decide) (by decide)) (g := (mkF m 41 #[.val (.ref a), .val (.long tm), .second, .val (.long (9223372036854775807 : Int64)), .second, .val (.ref it_1), .val (.ref yy0)] [(.long q1), (.long tm), (.long (9223372036854775807 : Int64))])) rfl (by rw [hml]; rfl) (argsL := [(.long tm), (.long q1)]) (rest := [(.long (9223372036854775807 : Int64))]) (lenOf pd_17 rfl) rfl (by show 2 * 0 + _ ≤ _; exact Nat.le_of_eq rfl) (hb hby d26_41) (fun _ _ => ⟨rfl, eh5, (by decide : 1 + 0 ≤ _), (by decide : 4 + 0 ≤ _)⟩)
  dsimp only [Pt.U, Pt.locs, Pt.cells, Pt.slots] at X6 l6 y6 z6 st6 hQ6
  subst l6 y6 z6
  obtain ⟨r_6, rfl, N6q, eh6, w6_0⟩ := hQ6
  have N6 := Fr.app N5 N6q
  refine own_go st6 ?_
  obtain ⟨_, _, ⟨T7, L7, k7, n7⟩, -, X7, ⟨Lc7, hQ7, l7, y7, z7⟩, st7⟩ := Jvm.LawKit.callS X6 hx (y := own_y11) hown (mvT hZ (own_w hw 229 rfl)) (mvT hZ (own_w hw 230 rfl)) (mvT hZ (own_w hw 3 rfl)) (mvT hZ (own_w hw 231 rfl)) (by decide) (backOf (W := 0) (rmMinJ l Z a0 hw [] (9223372036854775807 : Int64) r_6 T3.heap n0 (Nat.le_trans Z0 K3.1)) hZ (own_w hw 231 rfl) (own_w hw 3 rfl) (by decide) (by decide)) (g := (mkF m 44 #[.val (.ref a), .val (.long tm), .second, .val (.long (9223372036854775807 : Int64)), .second, .val (.ref it_1), .val (.ref yy0)] [(.long r_6), (.long (9223372036854775807 : Int64))])) rfl (by rw [hml]; rfl) (argsL := [(.long (9223372036854775807 : Int64)), (.long r_6)]) (rest := []) (lenOf pd_17 rfl) rfl (by show 2 * 0 + _ ≤ _; exact Nat.le_of_eq rfl) (hb hby d26_44) (fun _ _ => ⟨rfl, eh6, (by decide : 1 + 0 ≤ _), (by decide : 4 + 0 ≤ _)⟩)
  dsimp only [Pt.U, Pt.locs, Pt.cells, Pt.slots] at X7 l7 y7 z7 st7 hQ7
  subst l7 y7 z7
  obtain ⟨r_7, rfl, N7q, eh7, w7_0⟩ := hQ7
  have N7 := Fr.app N6 N7q
  refine own_go st7 ?_
  refine own_go (A := T7.setTop (mkF m 14 #[.val (.ref a), .val (.long tm), .second, .val (.long r_7), .second, .val (.ref it_1), .val (.ref yy0)] [(.ref it_1)])) (fun t_ k_ => ?_) ?_
  · show Steps p.tables e below (T7.setTop (mkF m 47 #[.val (.ref a), .val (.long tm), .second, .val (.long (9223372036854775807 : Int64)), .second, .val (.ref it_1), .val (.ref yy0)] [(.long r_7)])) t_
    refine XS.lstoreN X7.here hx rfl (hb hby d26_47) rfl (l' := #[.val (.ref a), .val (.long tm), .second, .val (.long r_7), .second, .val (.ref it_1), .val (.ref yy0)]) rfl ?_
    show Steps p.tables e below (T7.setTop (mkF m 48 #[.val (.ref a), .val (.long tm), .second, .val (.long r_7), .second, .val (.ref it_1), .val (.ref yy0)] [])) t_
    refine XS.goto X7.here hx rfl (pc0 := 48) (pc' := 12) rfl (hb hby d26_48) (by decide) (by decide) ?_
    show Steps p.tables e below (T7.setTop (mkF m 12 #[.val (.ref a), .val (.long tm), .second, .val (.long r_7), .second, .val (.ref it_1), .val (.ref yy0)] [])) t_
    refine XS.aload X7.here hx rfl (hb hby d26_12) rfl rfl ?_
    exact k_
  obtain ⟨cq8, kq8, q8a, q8b, q8c⟩ := isOf hZ eh7 (r1_1.keep Kc3)
  obtain ⟨_, _, ⟨T8, L8, k8, n8⟩, -, X8, ⟨Lc8, hQ8, l8, y8, z8⟩, st8⟩ := X7.interfaceBack hx (xi := own_y34) (y := own_y27) hown (mvT hZ (own_w hw 190 rfl)) (mvT hZ (own_w hw 191 rfl)) (mvT hZ (own_w hw 192 rfl)) (mvT hZ (own_w hw 193 rfl)) (mvT hZ (own_w hw 194 rfl)) (mvT hZ (own_w hw 195 rfl)) (mvT hZ (own_w hw 196 rfl)) (mvT hZ (own_w hw 197 rfl)) (by decide) (backOf (W := 0) (rmHas0 l Z a0 hw [] it_1 a (1 : Int32) (1 : Int32) T3.heap n0 (Nat.le_trans Z0 K3.1) r3_0 r3_1 ((u3.keep Kc1 nin0).keep Kc3 (ninS (Nat.ne_of_lt (Nat.lt_of_lt_of_le u1.lt r1_0)) nin0)) (by decide : (1 : Int32) = (1 : Int32))) hZ (own_w hw 198 rfl) (own_w hw 177 rfl) (by decide) (by decide)) q8a q8b q8c (g := (mkF m 14 #[.val (.ref a), .val (.long tm), .second, .val (.long r_7), .second, .val (.ref it_1), .val (.ref yy0)] [(.ref it_1)])) rfl (by rw [hml]; rfl) (Steps.refl _) (argsL := []) (rest := []) (lenOf pd_3 rfl) rfl (by show 2 * 0 + _ ≤ _; exact Nat.le_of_eq rfl) (hb hby d26_14) (fun _ _ => ⟨rfl, eh7, (by decide : 1 + 0 ≤ _), (by decide : 4 + 0 ≤ _)⟩)
  dsimp only [Pt.U, Pt.locs, Pt.cells, Pt.slots] at X8 l8 y8 z8 st8 hQ8
  subst l8 y8 z8
  obtain ⟨rfl, N8q, eh8⟩ := hQ8
  have N8 := Fr.app N7 N8q
  refine own_via st8 ?_
  refine own_go (A := T8.setTop (mkF m 52 #[.val (.ref a), .val (.long tm), .second, .val (.long r_7), .second, .val (.ref it_1), .val (.ref yy0)] [(.long r_7)])) (fun t_ k_ => ?_) ?_
  · show Steps p.tables e below (T8.setTop (mkF m 19 #[.val (.ref a), .val (.long tm), .second, .val (.long r_7), .second, .val (.ref it_1), .val (.ref yy0)] [(.int (0 : Int32))])) t_
    refine XS.ifYes X8.here hx rfl (pc0 := 19) (pc' := 51) rfl (hb hby d26_19) rfl ((if0 _ _).trans (teq (by decide : (0 : Int32) = (0 : Int32))).1) (by decide) (by decide) ?_
    show Steps p.tables e below (T8.setTop (mkF m 51 #[.val (.ref a), .val (.long tm), .second, .val (.long r_7), .second, .val (.ref it_1), .val (.ref yy0)] [])) t_
    refine XS.lloadN X8.here hx rfl (hb hby d26_51) rfl ?_
    exact k_
  obtain ⟨fs9, hr9, hrun9, hended9, hW9, hsame9⟩ := X8.leave (v := some (.long r_7)) (fun h => by rw [Bd.returns] at h; cases h)
  refine ⟨_, _, ?_, hrun9, hended9, _, _, rfl, ?_, ⟨_, rfl⟩, hW9, hsame9.mono (by decide) (by decide)⟩
  · exact own_retJ X8 hx Bd.returns (hb hby d26_52) hr9
  · show Q_rmNL1 Z a tm mc ed kk yy0 q1 h0 n0 _ T8.heap _
    rw [eh8]
    exact ⟨r_7, r_6, rfl, N8, K3, w6_0, (by have z0 := own_min w7_0; clear hw; omega), (own_or1 (own_minE w7_0)), (by have := rng64 r_7; omega)⟩
theorem own_or2 {r0_ r1_ r2_ z1_ z2_ : Int64} (hm1 : r1_ = r0_ ∨ r1_ = z1_) (hm2 : r2_ = r1_ ∨ r2_ = z2_) : r2_ = z1_ ∨ r2_ = z2_ ∨ r2_ = r0_ := by
  rcases hm1 with rfl | rfl <;> rcases hm2 with rfl | rfl <;> simp
theorem ef_rmNL2 (m : MethodId) (a : Addr) (tm : Int64) : entryFrame m #[(.ref a), (.long tm)] 7 = mkF m 0 #[.val (.ref a), .val (.long tm), .second, .unset, .unset, .unset, .unset] [] := by first | (simp [entryFrame, mkF, argsToLocals, Value.category]; done) | rfl
def Q_rmNL2 (Z : State) (a : Addr) (tm : Int64) (mc : Int32) (ed : Addr) (kk : ClassId) (yy0 : Addr) (yy1 : Addr) (q1 : Int64) (q2 : Int64) (h0 : Heap) (n0 : Nat) (v_ : Option Value) (h_ : Heap) (L_ : List Loc) : Prop := ∃ r : Int64, ∃ x1 : Int64, ∃ x2 : Int64, v_ = some (.long r) ∧ Fr n0 L_ ∧ Keep h0 h_ [] ∧ (own_NR tm q1 x1) ∧ (own_NR tm q2 x2) ∧ (r.toInt ≤ x1.toInt) ∧ (r.toInt ≤ x2.toInt) ∧ (r = x1 ∨ r = x2 ∨ r = (9223372036854775807 : Int64)) ∧ (r.toInt ≤ 9223372036854775807)
set_option maxRecDepth 65536 in
set_option maxHeartbeats 40000000 in
theorem rmNL2 (l : Launch) (Z : State) (a0 : Array Value) (hw : ∀ d ∈ tables_1, d.before a0 Z = true) (ws : List Jvm.Cond) (a : Addr) (tm : Int64) (mc : Int32) (ed : Addr) (kk : ClassId) (yy0 : Addr) (yy1 : Addr) (q1 : Int64) (q2 : Int64) (h0 : Heap) (n0 : Nat) (Z0 : n0 ≤ h0.size) (ht : 1 ≤ tm.toInt) (u1 : Exa Z h0 a "java/util/ArrayList") (u2 : Fld Z h0 a "java/util/AbstractList" "modCount" "I" (.int mc)) (u3 : Fld Z h0 a "java/util/ArrayList" "size" "I" (.int (2 : Int32))) (u4 : Fld Z h0 a "java/util/ArrayList" "elementData" "[Ljava/lang/Object;" (.ref ed)) (u5 : Arv Z h0 ed kk (.object "java/lang/Object") (10 : Int32) [(.ref yy0), (.ref yy1), .null, .null, .null, .null, .null, .null, .null, .null] .null) (u6 : Exa Z h0 yy0 "com/example/firmline/firmline/model/Task") (u7 : Fld Z h0 yy0 "com/example/firmline/firmline/model/Task" "period" "J" (.long q1)) (hb1 : 1 ≤ q1.toInt ∧ q1.toInt ≤ 1000000000000000) (u9 : Exa Z h0 yy1 "com/example/firmline/firmline/model/Task") (u10 : Fld Z h0 yy1 "com/example/firmline/firmline/model/Task" "period" "J" (.long q2)) (hb2 : 1 ≤ q2.toInt ∧ q2.toInt ≤ 1000000000000000) :
    MetFree l own_y35 (head1 (Jvm.Cond.code own_y35 prog_7_method_6_code 7 (some .long) :: ws) ({ frames := 3, cells := 1, slots := 4, locals := 38 } : Room)) (fun a_ U_ => a_ = #[(.ref a), (.long tm)] ∧ Z.Warmed39 U_.vm ∧ U_.heap = h0) (fun _ _ _ _ _ => True) (fun _ U_ o_ U2_ => ∃ v_ L_, o_ = .returned v_ ∧ Q_rmNL2 Z a tm mc ed kk yy0 yy1 q1 q2 h0 n0 v_ U2_.heap L_ ∧ FrameEnd U_ o_ U2_ L_ ({ frames := 3, cells := 1, slots := 4, locals := 38 } : Room).cells ({ frames := 3, cells := 1, slots := 4, locals := 38 } : Room).slots) := by
  refine MetFree.of_bodySF (plainFor_of_name pn_10) hisR ?_
  intro p e s m args below meth c s₁ Bd hml0 hP hK
  obtain ⟨rfl, hZ, hh⟩ := hP
  have hx := Bd.exec
  have hby := Bd.bytes
  have hml : c.maxLocals = 7 := hml0
  have hown : s.vm.findClass "com/example/firmline/firmline/analysis/Interference" = some m.cls := findClass_of_methodNamed Bd.named
  have hnm := (name_of_methodNamed Bd.named Bd.method).1
  have X0 : Stand p l e ({ frames := 3, cells := 1, slots := 4, locals := 38 } : Room) s m #[(.ref a), (.long tm)] below meth c s₁ [] 0 0 := Stand.of_body Bd
  have e0 : s₁.heap = h0 := by rw [← hh, Bd.state]; rfl
  have N0 := Fr.nil n0
  refine own_go (A := s₁.setTop (mkF m 0 #[.val (.ref a), .val (.long tm), .second, .unset, .unset, .unset, .unset] [])) (fun t_ k_ => castTop (ef_rmNL2 m a tm) k_) ?_
  refine own_go (A := s₁.setTop (mkF m 5 #[.val (.ref a), .val (.long tm), .second, .val (.long (9223372036854775807 : Int64)), .second, .unset, .unset] [(.ref a)])) (fun t_ k_ => ?_) ?_
  · show Steps p.tables e below (s₁.setTop (mkF m 0 #[.val (.ref a), .val (.long tm), .second, .unset, .unset, .unset, .unset] [])) t_
    refine Jvm.Stand.ldc2J X0 hx hown (mvT hZ (own_w hw 166 rfl)) (g := (mkF m 0 #[.val (.ref a), .val (.long tm), .second, .unset, .unset, .unset, .unset] [])) rfl (hb hby d26_0) ?_
    show Steps p.tables e below (s₁.setTop (mkF m 3 #[.val (.ref a), .val (.long tm), .second, .unset, .unset, .unset, .unset] [(.long (9223372036854775807 : Int64))])) t_
    refine XS.lstoreN X0.here hx rfl (hb hby d26_3) rfl (l' := #[.val (.ref a), .val (.long tm), .second, .val (.long (9223372036854775807 : Int64)), .second, .unset, .unset]) rfl ?_
    show Steps p.tables e below (s₁.setTop (mkF m 4 #[.val (.ref a), .val (.long tm), .second, .val (.long (9223372036854775807 : Int64)), .second, .unset, .unset] [])) t_
    refine XS.aloadN X0.here hx rfl (hb hby d26_4) rfl rfl ?_
    exact k_
  obtain ⟨cq1, kq1, q1a, q1b, q1c⟩ := isOf hZ e0 u1
  obtain ⟨_, _, ⟨T1, L1, k1, n1⟩, -, X1, ⟨Lc1, hQ1, l1, y1, z1⟩, st1⟩ := X0.interfaceBack hx (xi := own_y33) (y := own_y26) hown (mvT hZ (own_w hw 167 rfl)) (mvT hZ (own_w hw 168 rfl)) (mvT hZ (own_w hw 169 rfl)) (mvT hZ (own_w hw 170 rfl)) (mvT hZ (own_w hw 171 rfl)) (mvT hZ (own_w hw 172 rfl)) (mvT hZ (own_w hw 173 rfl)) (mvT hZ (own_w hw 133 rfl)) (by decide) (backOf (W := 0) (rmIter l Z a0 hw [] a mc h0 n0 Z0 u1 u2) hZ (own_w hw 174 rfl) (own_w hw 12 rfl) (by decide) (by decide)) q1a q1b q1c (g := (mkF m 5 #[.val (.ref a), .val (.long tm), .second, .val (.long (9223372036854775807 : Int64)), .second, .unset, .unset] [(.ref a)])) rfl (by rw [hml]; rfl) (Steps.refl _) (argsL := []) (rest := []) (lenOf pd_18 rfl) rfl (by show 2 * 0 + _ ≤ _; exact Nat.le_of_eq rfl) (hb hby d26_5) (fun _ _ => ⟨rfl, e0, (by decide : 0 + 1 ≤ _), (by decide : 0 + 4 ≤ _)⟩)
  dsimp only [Pt.U, Pt.locs, Pt.cells, Pt.slots] at X1 l1 y1 z1 st1 hQ1
  subst l1 y1 z1
  obtain ⟨it_1, rfl, N1q, Kc1, r1_0, r1_1, r1_2, r1_3, r1_4, r1_5⟩ := hQ1
  have N1 := Fr.app N0 N1q
  refine own_via st1 ?_
  have K1 : Keep h0 T1.heap [] := (Keep.refl h0 []).trans Kc1 all0
  refine own_go (A := T1.setTop (mkF m 14 #[.val (.ref a), .val (.long tm), .second, .val (.long (9223372036854775807 : Int64)), .second, .val (.ref it_1), .unset] [(.ref it_1)])) (fun t_ k_ => ?_) ?_
  · show Steps p.tables e below (T1.setTop (mkF m 10 #[.val (.ref a), .val (.long tm), .second, .val (.long (9223372036854775807 : Int64)), .second, .unset, .unset] [(.ref it_1)])) t_
    refine XS.astore X1.here hx rfl (hb hby d26_10) rfl rfl (l' := #[.val (.ref a), .val (.long tm), .second, .val (.long (9223372036854775807 : Int64)), .second, .val (.ref it_1), .unset]) rfl ?_
    show Steps p.tables e below (T1.setTop (mkF m 12 #[.val (.ref a), .val (.long tm), .second, .val (.long (9223372036854775807 : Int64)), .second, .val (.ref it_1), .unset] [])) t_
    refine XS.aload X1.here hx rfl (hb hby d26_12) rfl rfl ?_
    exact k_
  obtain ⟨cq2, kq2, q2a, q2b, q2c⟩ := isOf hZ rfl r1_1
  obtain ⟨_, _, ⟨T2, L2, k2, n2⟩, -, X2, ⟨Lc2, hQ2, l2, y2, z2⟩, st2⟩ := X1.interfaceBack hx (xi := own_y34) (y := own_y27) hown (mvT hZ (own_w hw 190 rfl)) (mvT hZ (own_w hw 191 rfl)) (mvT hZ (own_w hw 192 rfl)) (mvT hZ (own_w hw 193 rfl)) (mvT hZ (own_w hw 194 rfl)) (mvT hZ (own_w hw 195 rfl)) (mvT hZ (own_w hw 196 rfl)) (mvT hZ (own_w hw 197 rfl)) (by decide) (backOf (W := 0) (rmHas1 l Z a0 hw [] it_1 a (0 : Int32) (2 : Int32) T1.heap n0 (Nat.le_trans Z0 K1.1) r1_2 r1_3 (u3.keep Kc1 nin0) (by decide : ¬ ((0 : Int32) = (2 : Int32)))) hZ (own_w hw 198 rfl) (own_w hw 177 rfl) (by decide) (by decide)) q2a q2b q2c (g := (mkF m 14 #[.val (.ref a), .val (.long tm), .second, .val (.long (9223372036854775807 : Int64)), .second, .val (.ref it_1), .unset] [(.ref it_1)])) rfl (by rw [hml]; rfl) (Steps.refl _) (argsL := []) (rest := []) (lenOf pd_3 rfl) rfl (by show 2 * 0 + _ ≤ _; exact Nat.le_of_eq rfl) (hb hby d26_14) (fun _ _ => ⟨rfl, rfl, (by decide : 1 + 0 ≤ _), (by decide : 4 + 0 ≤ _)⟩)
  dsimp only [Pt.U, Pt.locs, Pt.cells, Pt.slots] at X2 l2 y2 z2 st2 hQ2
  subst l2 y2 z2
  obtain ⟨rfl, N2q, eh2⟩ := hQ2
  have N2 := Fr.app N1 N2q
  refine own_via st2 ?_
  refine own_go (A := T2.setTop (mkF m 24 #[.val (.ref a), .val (.long tm), .second, .val (.long (9223372036854775807 : Int64)), .second, .val (.ref it_1), .unset] [(.ref it_1)])) (fun t_ k_ => ?_) ?_
  · show Steps p.tables e below (T2.setTop (mkF m 19 #[.val (.ref a), .val (.long tm), .second, .val (.long (9223372036854775807 : Int64)), .second, .val (.ref it_1), .unset] [(.int (1 : Int32))])) t_
    refine XS.ifNo X2.here hx rfl (hb hby d26_19) rfl ((if0 _ _).trans (feq (by decide : ¬ ((1 : Int32) = (0 : Int32)))).1) ?_
    show Steps p.tables e below (T2.setTop (mkF m 22 #[.val (.ref a), .val (.long tm), .second, .val (.long (9223372036854775807 : Int64)), .second, .val (.ref it_1), .unset] [])) t_
    refine XS.aload X2.here hx rfl (hb hby d26_22) rfl rfl ?_
    exact k_
  obtain ⟨cq3, kq3, q3a, q3b, q3c⟩ := isOf hZ eh2 r1_1
  obtain ⟨_, _, ⟨T3, L3, k3, n3⟩, -, X3, ⟨Lc3, hQ3, l3, y3, z3⟩, st3⟩ := X2.interfaceBack hx (xi := own_y36) (y := own_y29) hown (mvT hZ (own_w hw 202 rfl)) (mvT hZ (own_w hw 203 rfl)) (mvT hZ (own_w hw 204 rfl)) (mvT hZ (own_w hw 205 rfl)) (mvT hZ (own_w hw 206 rfl)) (mvT hZ (own_w hw 207 rfl)) (mvT hZ (own_w hw 208 rfl)) (mvT hZ (own_w hw 197 rfl)) (by decide) (backOf (W := 0) (rmNx0 l Z a0 hw [] it_1 a (-1 : Int32) mc (2 : Int32) ed kk (.ref yy0) (.ref yy1) .null T1.heap n0 (Nat.le_trans Z0 K1.1) r1_1 r1_2 r1_3 r1_4 r1_5 (Nat.le_trans Z0 r1_0) (Nat.ne_of_lt (Nat.lt_of_lt_of_le u5.lt r1_0)) (u1.keep Kc1) (u2.keep Kc1 nin0) (u3.keep Kc1 nin0) (by decide : (0 : Int32) < (2 : Int32)) (u4.keep Kc1 nin0) (u5.keep Kc1 nin0) rfl) hZ (own_w hw 209 rfl) (own_w hw 177 rfl) (by decide) (by decide)) q3a q3b q3c (g := (mkF m 24 #[.val (.ref a), .val (.long tm), .second, .val (.long (9223372036854775807 : Int64)), .second, .val (.ref it_1), .unset] [(.ref it_1)])) rfl (by rw [hml]; rfl) (Steps.refl _) (argsL := []) (rest := []) (lenOf pd_19 rfl) rfl (by show 2 * 0 + _ ≤ _; exact Nat.le_of_eq rfl) (hb hby d26_24) (fun _ _ => ⟨rfl, eh2, (by decide : 1 + 0 ≤ _), (by decide : 4 + 0 ≤ _)⟩)
  dsimp only [Pt.U, Pt.locs, Pt.cells, Pt.slots] at X3 l3 y3 z3 st3 hQ3
  subst l3 y3 z3
  obtain ⟨rfl, N3q, Kc3, r3_0, r3_1, r3_2, r3_3⟩ := hQ3
  have N3 := Fr.app N2 N3q
  refine own_via st3 ?_
  have K3 : Keep h0 T3.heap [] := K1.trans Kc3 (allS (P := fun x => x ∈ _ ∨ _ ≤ x) (Or.inr r1_0) all0)
  obtain ⟨T4, X4, e4, st4⟩ := castY X3 hx hZ hown (own_w hw 216 rfl) rfl (Ins.self ((u6.keep Kc1).keep Kc3)) (g := (mkF m 29 #[.val (.ref a), .val (.long tm), .second, .val (.long (9223372036854775807 : Int64)), .second, .val (.ref it_1), .unset] [(.ref yy0)])) rfl rfl (hb hby d26_29)
  refine own_go st4 ?_
  refine own_go (A := T4.setTop (mkF m 38 #[.val (.ref a), .val (.long tm), .second, .val (.long (9223372036854775807 : Int64)), .second, .val (.ref it_1), .val (.ref yy0)] [(.ref yy0), (.long tm), (.long (9223372036854775807 : Int64))])) (fun t_ k_ => ?_) ?_
  · show Steps p.tables e below (T4.setTop (mkF m 32 #[.val (.ref a), .val (.long tm), .second, .val (.long (9223372036854775807 : Int64)), .second, .val (.ref it_1), .unset] [(.ref yy0)])) t_
    refine XS.astore X4.here hx rfl (hb hby d26_32) rfl rfl (l' := #[.val (.ref a), .val (.long tm), .second, .val (.long (9223372036854775807 : Int64)), .second, .val (.ref it_1), .val (.ref yy0)]) rfl ?_
    show Steps p.tables e below (T4.setTop (mkF m 34 #[.val (.ref a), .val (.long tm), .second, .val (.long (9223372036854775807 : Int64)), .second, .val (.ref it_1), .val (.ref yy0)] [])) t_
    refine XS.lloadN X4.here hx rfl (hb hby d26_34) rfl ?_
    show Steps p.tables e below (T4.setTop (mkF m 35 #[.val (.ref a), .val (.long tm), .second, .val (.long (9223372036854775807 : Int64)), .second, .val (.ref it_1), .val (.ref yy0)] [(.long (9223372036854775807 : Int64))])) t_
    refine XS.lloadN X4.here hx rfl (hb hby d26_35) rfl ?_
    show Steps p.tables e below (T4.setTop (mkF m 36 #[.val (.ref a), .val (.long tm), .second, .val (.long (9223372036854775807 : Int64)), .second, .val (.ref it_1), .val (.ref yy0)] [(.long tm), (.long (9223372036854775807 : Int64))])) t_
    refine XS.aload X4.here hx rfl (hb hby d26_36) rfl rfl ?_
    exact k_
  obtain ⟨cq5, kq5, q5a, q5b, q5c⟩ := isOf hZ e4 ((u6.keep Kc1).keep Kc3)
  obtain ⟨_, _, ⟨T5, L5, k5, n5⟩, -, X5, ⟨Lc5, hQ5, l5, y5, z5⟩, st5⟩ := X4.virtualBack hx (y := own_y30) (z := own_y30) hown (mvT hZ (own_w hw 218 rfl)) (mvT hZ (own_w hw 219 rfl)) (notFace_of_selects (args := #[]) (mvT hZ (own_w hw 221 rfl))) (mvT hZ (own_w hw 221 rfl)) (mvT hZ (own_w hw 220 rfl)) (by decide) (backOf (W := 4) (rmPer l Z a0 hw [] yy0 q1 T3.heap n0 (Nat.le_trans Z0 K3.1) ((u7.keep Kc1 nin0).keep Kc3 (ninS (Nat.ne_of_lt (Nat.lt_of_lt_of_le u6.lt r1_0)) nin0))) hZ (own_w hw 222 rfl) (own_w hw 38 rfl) (by decide) (by decide)) q5a q5c (g := (mkF m 38 #[.val (.ref a), .val (.long tm), .second, .val (.long (9223372036854775807 : Int64)), .second, .val (.ref it_1), .val (.ref yy0)] [(.ref yy0), (.long tm), (.long (9223372036854775807 : Int64))])) rfl (by rw [hml]; rfl) (Steps.refl _) (argsL := []) (rest := [(.long tm), (.long (9223372036854775807 : Int64))]) (lenOf pd_20 rfl) rfl (by show 2 * 0 + _ ≤ _; exact Nat.le_of_eq rfl) (hb hby d26_38) (fun _ _ => ⟨rfl, e4, (by decide : 1 + 0 ≤ _), (by decide : 4 + 0 ≤ _)⟩)
  dsimp only [Pt.U, Pt.locs, Pt.cells, Pt.slots] at X5 l5 y5 z5 st5 hQ5
  subst l5 y5 z5
  obtain ⟨rfl, N5q, eh5⟩ := hQ5
  have N5 := Fr.app N3 N5q
  refine own_via st5 ?_
  obtain ⟨_, _, ⟨T6, L6, k6, n6⟩, -, X6, ⟨Lc6, hQ6, l6, y6, z6⟩, st6⟩ := Jvm.LawKit.callS X5 hx (y := own_y32) hown (mvT hZ (own_w hw 223 rfl)) (mvT hZ (own_w hw 224 rfl)) (mvT hZ (own_w hw 164 rfl)) (mvT hZ (own_w hw 225 rfl)) (by decide) (backOf (W := 2) (rmNR l Z a0 hw [] tm q1 T3.heap n0 (Nat.le_trans Z0 K3.1) ht hb1) hZ (own_w hw 225 rfl) (own_w hw 164 rfl) (by decide) (by decide)) (g := (mkF m 41 #[.val (.ref a), .val (.long tm), .second, .val (.long (9223372036854775807 : Int64)), .second, .val (.ref it_1), .val (.ref yy0)] [(.long q1), (.long tm), (.long (9223372036854775807 : Int64))])) rfl (by rw [hml]; rfl) (argsL := [(.long tm), (.long q1)]) (rest := [(.long (9223372036854775807 : Int64))]) (lenOf pd_17 rfl) rfl (by show 2 * 0 + _ ≤ _; exact Nat.le_of_eq rfl) (hb hby d26_41) (fun _ _ => ⟨rfl, eh5, (by decide : 1 + 0 ≤ _), (by decide : 4 + 0 ≤ _)⟩)
  dsimp only [Pt.U, Pt.locs, Pt.cells, Pt.slots] at X6 l6 y6 z6 st6 hQ6
  subst l6 y6 z6
  obtain ⟨r_6, rfl, N6q, eh6, w6_0⟩ := hQ6
  have N6 := Fr.app N5 N6q
  refine own_go st6 ?_
  obtain ⟨_, _, ⟨T7, L7, k7, n7⟩, -, X7, ⟨Lc7, hQ7, l7, y7, z7⟩, st7⟩ := Jvm.LawKit.callS X6 hx (y := own_y11) hown (mvT hZ (own_w hw 229 rfl)) (mvT hZ (own_w hw 230 rfl)) (mvT hZ (own_w hw 3 rfl)) (mvT hZ (own_w hw 231 rfl)) (by decide) (backOf (W := 0) (rmMinJ l Z a0 hw [] (9223372036854775807 : Int64) r_6 T3.heap n0 (Nat.le_trans Z0 K3.1)) hZ (own_w hw 231 rfl) (own_w hw 3 rfl) (by decide) (by decide)) (g := (mkF m 44 #[.val (.ref a), .val (.long tm), .second, .val (.long (9223372036854775807 : Int64)), .second, .val (.ref it_1), .val (.ref yy0)] [(.long r_6), (.long (9223372036854775807 : Int64))])) rfl (by rw [hml]; rfl) (argsL := [(.long (9223372036854775807 : Int64)), (.long r_6)]) (rest := []) (lenOf pd_17 rfl) rfl (by show 2 * 0 + _ ≤ _; exact Nat.le_of_eq rfl) (hb hby d26_44) (fun _ _ => ⟨rfl, eh6, (by decide : 1 + 0 ≤ _), (by decide : 4 + 0 ≤ _)⟩)
  dsimp only [Pt.U, Pt.locs, Pt.cells, Pt.slots] at X7 l7 y7 z7 st7 hQ7
  subst l7 y7 z7
  obtain ⟨r_7, rfl, N7q, eh7, w7_0⟩ := hQ7
  have N7 := Fr.app N6 N7q
  refine own_go st7 ?_
  refine own_go (A := T7.setTop (mkF m 14 #[.val (.ref a), .val (.long tm), .second, .val (.long r_7), .second, .val (.ref it_1), .val (.ref yy0)] [(.ref it_1)])) (fun t_ k_ => ?_) ?_
  · show Steps p.tables e below (T7.setTop (mkF m 47 #[.val (.ref a), .val (.long tm), .second, .val (.long (9223372036854775807 : Int64)), .second, .val (.ref it_1), .val (.ref yy0)] [(.long r_7)])) t_
    refine XS.lstoreN X7.here hx rfl (hb hby d26_47) rfl (l' := #[.val (.ref a), .val (.long tm), .second, .val (.long r_7), .second, .val (.ref it_1), .val (.ref yy0)]) rfl ?_
    show Steps p.tables e below (T7.setTop (mkF m 48 #[.val (.ref a), .val (.long tm), .second, .val (.long r_7), .second, .val (.ref it_1), .val (.ref yy0)] [])) t_
    refine XS.goto X7.here hx rfl (pc0 := 48) (pc' := 12) rfl (hb hby d26_48) (by decide) (by decide) ?_
    show Steps p.tables e below (T7.setTop (mkF m 12 #[.val (.ref a), .val (.long tm), .second, .val (.long r_7), .second, .val (.ref it_1), .val (.ref yy0)] [])) t_
    refine XS.aload X7.here hx rfl (hb hby d26_12) rfl rfl ?_
    exact k_
  obtain ⟨cq8, kq8, q8a, q8b, q8c⟩ := isOf hZ eh7 (r1_1.keep Kc3)
  obtain ⟨_, _, ⟨T8, L8, k8, n8⟩, -, X8, ⟨Lc8, hQ8, l8, y8, z8⟩, st8⟩ := X7.interfaceBack hx (xi := own_y34) (y := own_y27) hown (mvT hZ (own_w hw 190 rfl)) (mvT hZ (own_w hw 191 rfl)) (mvT hZ (own_w hw 192 rfl)) (mvT hZ (own_w hw 193 rfl)) (mvT hZ (own_w hw 194 rfl)) (mvT hZ (own_w hw 195 rfl)) (mvT hZ (own_w hw 196 rfl)) (mvT hZ (own_w hw 197 rfl)) (by decide) (backOf (W := 0) (rmHas1 l Z a0 hw [] it_1 a (1 : Int32) (2 : Int32) T3.heap n0 (Nat.le_trans Z0 K3.1) r3_0 r3_1 ((u3.keep Kc1 nin0).keep Kc3 (ninS (Nat.ne_of_lt (Nat.lt_of_lt_of_le u1.lt r1_0)) nin0)) (by decide : ¬ ((1 : Int32) = (2 : Int32)))) hZ (own_w hw 198 rfl) (own_w hw 177 rfl) (by decide) (by decide)) q8a q8b q8c (g := (mkF m 14 #[.val (.ref a), .val (.long tm), .second, .val (.long r_7), .second, .val (.ref it_1), .val (.ref yy0)] [(.ref it_1)])) rfl (by rw [hml]; rfl) (Steps.refl _) (argsL := []) (rest := []) (lenOf pd_3 rfl) rfl (by show 2 * 0 + _ ≤ _; exact Nat.le_of_eq rfl) (hb hby d26_14) (fun _ _ => ⟨rfl, eh7, (by decide : 1 + 0 ≤ _), (by decide : 4 + 0 ≤ _)⟩)
  dsimp only [Pt.U, Pt.locs, Pt.cells, Pt.slots] at X8 l8 y8 z8 st8 hQ8
  subst l8 y8 z8
  obtain ⟨rfl, N8q, eh8⟩ := hQ8
  have N8 := Fr.app N7 N8q
  refine own_via st8 ?_
  refine own_go (A := T8.setTop (mkF m 24 #[.val (.ref a), .val (.long tm), .second, .val (.long r_7), .second, .val (.ref it_1), .val (.ref yy0)] [(.ref it_1)])) (fun t_ k_ => ?_) ?_
  · show Steps p.tables e below (T8.setTop (mkF m 19 #[.val (.ref a), .val (.long tm), .second, .val (.long r_7), .second, .val (.ref it_1), .val (.ref yy0)] [(.int (1 : Int32))])) t_
    refine XS.ifNo X8.here hx rfl (hb hby d26_19) rfl ((if0 _ _).trans (feq (by decide : ¬ ((1 : Int32) = (0 : Int32)))).1) ?_
    show Steps p.tables e below (T8.setTop (mkF m 22 #[.val (.ref a), .val (.long tm), .second, .val (.long r_7), .second, .val (.ref it_1), .val (.ref yy0)] [])) t_
    refine XS.aload X8.here hx rfl (hb hby d26_22) rfl rfl ?_
    exact k_
  obtain ⟨cq9, kq9, q9a, q9b, q9c⟩ := isOf hZ eh8 (r1_1.keep Kc3)
  obtain ⟨_, _, ⟨T9, L9, k9, n9⟩, -, X9, ⟨Lc9, hQ9, l9, y9, z9⟩, st9⟩ := X8.interfaceBack hx (xi := own_y36) (y := own_y29) hown (mvT hZ (own_w hw 202 rfl)) (mvT hZ (own_w hw 203 rfl)) (mvT hZ (own_w hw 204 rfl)) (mvT hZ (own_w hw 205 rfl)) (mvT hZ (own_w hw 206 rfl)) (mvT hZ (own_w hw 207 rfl)) (mvT hZ (own_w hw 208 rfl)) (mvT hZ (own_w hw 197 rfl)) (by decide) (backOf (W := 0) (rmNx1 l Z a0 hw [] it_1 a (0 : Int32) mc (2 : Int32) ed kk (.ref yy0) (.ref yy1) .null T3.heap n0 (Nat.le_trans Z0 K3.1) (r1_1.keep Kc3) r3_0 r3_1 r3_2 r3_3 (Nat.le_trans Z0 r1_0) (Nat.ne_of_lt (Nat.lt_of_lt_of_le u5.lt r1_0)) ((u1.keep Kc1).keep Kc3) ((u2.keep Kc1 nin0).keep Kc3 (ninS (Nat.ne_of_lt (Nat.lt_of_lt_of_le u1.lt r1_0)) nin0)) ((u3.keep Kc1 nin0).keep Kc3 (ninS (Nat.ne_of_lt (Nat.lt_of_lt_of_le u1.lt r1_0)) nin0)) (by decide : (1 : Int32) < (2 : Int32)) ((u4.keep Kc1 nin0).keep Kc3 (ninS (Nat.ne_of_lt (Nat.lt_of_lt_of_le u1.lt r1_0)) nin0)) ((u5.keep Kc1 nin0).keep Kc3 (ninS (Nat.ne_of_lt (Nat.lt_of_lt_of_le u5.lt r1_0)) nin0)) rfl) hZ (own_w hw 209 rfl) (own_w hw 177 rfl) (by decide) (by decide)) q9a q9b q9c (g := (mkF m 24 #[.val (.ref a), .val (.long tm), .second, .val (.long r_7), .second, .val (.ref it_1), .val (.ref yy0)] [(.ref it_1)])) rfl (by rw [hml]; rfl) (Steps.refl _) (argsL := []) (rest := []) (lenOf pd_19 rfl) rfl (by show 2 * 0 + _ ≤ _; exact Nat.le_of_eq rfl) (hb hby d26_24) (fun _ _ => ⟨rfl, eh8, (by decide : 1 + 0 ≤ _), (by decide : 4 + 0 ≤ _)⟩)
  dsimp only [Pt.U, Pt.locs, Pt.cells, Pt.slots] at X9 l9 y9 z9 st9 hQ9
  subst l9 y9 z9
  obtain ⟨rfl, N9q, Kc9, r9_0, r9_1, r9_2, r9_3⟩ := hQ9
  have N9 := Fr.app N8 N9q
  refine own_via st9 ?_
  have K9 : Keep h0 T9.heap [] := K3.trans Kc9 (allS (P := fun x => x ∈ _ ∨ _ ≤ x) (Or.inr r1_0) all0)
  obtain ⟨T10, X10, e10, st10⟩ := castY X9 hx hZ hown (own_w hw 216 rfl) rfl (Ins.self (((u9.keep Kc1).keep Kc3).keep Kc9)) (g := (mkF m 29 #[.val (.ref a), .val (.long tm), .second, .val (.long r_7), .second, .val (.ref it_1), .val (.ref yy0)] [(.ref yy1)])) rfl rfl (hb hby d26_29)
  refine own_go st10 ?_
  refine own_go (A := T10.setTop (mkF m 38 #[.val (.ref a), .val (.long tm), .second, .val (.long r_7), .second, .val (.ref it_1), .val (.ref yy1)] [(.ref yy1), (.long tm), (.long r_7)])) (fun t_ k_ => ?_) ?_
  · show Steps p.tables e below (T10.setTop (mkF m 32 #[.val (.ref a), .val (.long tm), .second, .val (.long r_7), .second, .val (.ref it_1), .val (.ref yy0)] [(.ref yy1)])) t_
    refine XS.astore X10.here hx rfl (hb hby d26_32) rfl rfl (l' := #[.val (.ref a), .val (.long tm), .second, .val (.long r_7), .second, .val (.ref it_1), .val (.ref yy1)]) rfl ?_
    show Steps p.tables e below (T10.setTop (mkF m 34 #[.val (.ref a), .val (.long tm), .second, .val (.long r_7), .second, .val (.ref it_1), .val (.ref yy1)] [])) t_
    refine XS.lloadN X10.here hx rfl (hb hby d26_34) rfl ?_
    show Steps p.tables e below (T10.setTop (mkF m 35 #[.val (.ref a), .val (.long tm), .second, .val (.long r_7), .second, .val (.ref it_1), .val (.ref yy1)] [(.long r_7)])) t_
    refine XS.lloadN X10.here hx rfl (hb hby d26_35) rfl ?_
    show Steps p.tables e below (T10.setTop (mkF m 36 #[.val (.ref a), .val (.long tm), .second, .val (.long r_7), .second, .val (.ref it_1), .val (.ref yy1)] [(.long tm), (.long r_7)])) t_
    refine XS.aload X10.here hx rfl (hb hby d26_36) rfl rfl ?_
    exact k_
  obtain ⟨cq11, kq11, q11a, q11b, q11c⟩ := isOf hZ e10 (((u9.keep Kc1).keep Kc3).keep Kc9)
  obtain ⟨_, _, ⟨T11, L11, k11, n11⟩, -, X11, ⟨Lc11, hQ11, l11, y11, z11⟩, st11⟩ := X10.virtualBack hx (y := own_y30) (z := own_y30) hown (mvT hZ (own_w hw 218 rfl)) (mvT hZ (own_w hw 219 rfl)) (notFace_of_selects (args := #[]) (mvT hZ (own_w hw 221 rfl))) (mvT hZ (own_w hw 221 rfl)) (mvT hZ (own_w hw 220 rfl)) (by decide) (backOf (W := 4) (rmPer l Z a0 hw [] yy1 q2 T9.heap n0 (Nat.le_trans Z0 K9.1) (((u10.keep Kc1 nin0).keep Kc3 (ninS (Nat.ne_of_lt (Nat.lt_of_lt_of_le u9.lt r1_0)) nin0)).keep Kc9 (ninS (Nat.ne_of_lt (Nat.lt_of_lt_of_le u9.lt r1_0)) nin0))) hZ (own_w hw 222 rfl) (own_w hw 38 rfl) (by decide) (by decide)) q11a q11c (g := (mkF m 38 #[.val (.ref a), .val (.long tm), .second, .val (.long r_7), .second, .val (.ref it_1), .val (.ref yy1)] [(.ref yy1), (.long tm), (.long r_7)])) rfl (by rw [hml]; rfl) (Steps.refl _) (argsL := []) (rest := [(.long tm), (.long r_7)]) (lenOf pd_20 rfl) rfl (by show 2 * 0 + _ ≤ _; exact Nat.le_of_eq rfl) (hb hby d26_38) (fun _ _ => ⟨rfl, e10, (by decide : 1 + 0 ≤ _), (by decide : 4 + 0 ≤ _)⟩)
  dsimp only [Pt.U, Pt.locs, Pt.cells, Pt.slots] at X11 l11 y11 z11 st11 hQ11
  subst l11 y11 z11
  obtain ⟨rfl, N11q, eh11⟩ := hQ11
  have N11 := Fr.app N9 N11q
  refine own_via st11 ?_
  obtain ⟨_, _, ⟨T12, L12, k12, n12⟩, -, X12, ⟨Lc12, hQ12, l12, y12, z12⟩, st12⟩ := Jvm.LawKit.callS X11 hx (y := own_y32) hown (mvT hZ (own_w hw 223 rfl)) (mvT hZ (own_w hw 224 rfl)) (mvT hZ (own_w hw 164 rfl)) (mvT hZ (own_w hw 225 rfl)) (by decide) (backOf (W := 2) (rmNR l Z a0 hw [] tm q2 T9.heap n0 (Nat.le_trans Z0 K9.1) ht hb2) hZ (own_w hw 225 rfl) (own_w hw 164 rfl) (by decide) (by decide)) (g := (mkF m 41 #[.val (.ref a), .val (.long tm), .second, .val (.long r_7), .second, .val (.ref it_1), .val (.ref yy1)] [(.long q2), (.long tm), (.long r_7)])) rfl (by rw [hml]; rfl) (argsL := [(.long tm), (.long q2)]) (rest := [(.long r_7)]) (lenOf pd_17 rfl) rfl (by show 2 * 0 + _ ≤ _; exact Nat.le_of_eq rfl) (hb hby d26_41) (fun _ _ => ⟨rfl, eh11, (by decide : 1 + 0 ≤ _), (by decide : 4 + 0 ≤ _)⟩)
  dsimp only [Pt.U, Pt.locs, Pt.cells, Pt.slots] at X12 l12 y12 z12 st12 hQ12
  subst l12 y12 z12
  obtain ⟨r_12, rfl, N12q, eh12, w12_0⟩ := hQ12
  have N12 := Fr.app N11 N12q
  refine own_go st12 ?_
  obtain ⟨_, _, ⟨T13, L13, k13, n13⟩, -, X13, ⟨Lc13, hQ13, l13, y13, z13⟩, st13⟩ := Jvm.LawKit.callS X12 hx (y := own_y11) hown (mvT hZ (own_w hw 229 rfl)) (mvT hZ (own_w hw 230 rfl)) (mvT hZ (own_w hw 3 rfl)) (mvT hZ (own_w hw 231 rfl)) (by decide) (backOf (W := 0) (rmMinJ l Z a0 hw [] r_7 r_12 T9.heap n0 (Nat.le_trans Z0 K9.1)) hZ (own_w hw 231 rfl) (own_w hw 3 rfl) (by decide) (by decide)) (g := (mkF m 44 #[.val (.ref a), .val (.long tm), .second, .val (.long r_7), .second, .val (.ref it_1), .val (.ref yy1)] [(.long r_12), (.long r_7)])) rfl (by rw [hml]; rfl) (argsL := [(.long r_7), (.long r_12)]) (rest := []) (lenOf pd_17 rfl) rfl (by show 2 * 0 + _ ≤ _; exact Nat.le_of_eq rfl) (hb hby d26_44) (fun _ _ => ⟨rfl, eh12, (by decide : 1 + 0 ≤ _), (by decide : 4 + 0 ≤ _)⟩)
  dsimp only [Pt.U, Pt.locs, Pt.cells, Pt.slots] at X13 l13 y13 z13 st13 hQ13
  subst l13 y13 z13
  obtain ⟨r_13, rfl, N13q, eh13, w13_0⟩ := hQ13
  have N13 := Fr.app N12 N13q
  refine own_go st13 ?_
  refine own_go (A := T13.setTop (mkF m 14 #[.val (.ref a), .val (.long tm), .second, .val (.long r_13), .second, .val (.ref it_1), .val (.ref yy1)] [(.ref it_1)])) (fun t_ k_ => ?_) ?_
  · show Steps p.tables e below (T13.setTop (mkF m 47 #[.val (.ref a), .val (.long tm), .second, .val (.long r_7), .second, .val (.ref it_1), .val (.ref yy1)] [(.long r_13)])) t_
    refine XS.lstoreN X13.here hx rfl (hb hby d26_47) rfl (l' := #[.val (.ref a), .val (.long tm), .second, .val (.long r_13), .second, .val (.ref it_1), .val (.ref yy1)]) rfl ?_
    show Steps p.tables e below (T13.setTop (mkF m 48 #[.val (.ref a), .val (.long tm), .second, .val (.long r_13), .second, .val (.ref it_1), .val (.ref yy1)] [])) t_
    refine XS.goto X13.here hx rfl (pc0 := 48) (pc' := 12) rfl (hb hby d26_48) (by decide) (by decide) ?_
    show Steps p.tables e below (T13.setTop (mkF m 12 #[.val (.ref a), .val (.long tm), .second, .val (.long r_13), .second, .val (.ref it_1), .val (.ref yy1)] [])) t_
    refine XS.aload X13.here hx rfl (hb hby d26_12) rfl rfl ?_
    exact k_
  obtain ⟨cq14, kq14, q14a, q14b, q14c⟩ := isOf hZ eh13 ((r1_1.keep Kc3).keep Kc9)
  obtain ⟨_, _, ⟨T14, L14, k14, n14⟩, -, X14, ⟨Lc14, hQ14, l14, y14, z14⟩, st14⟩ := X13.interfaceBack hx (xi := own_y34) (y := own_y27) hown (mvT hZ (own_w hw 190 rfl)) (mvT hZ (own_w hw 191 rfl)) (mvT hZ (own_w hw 192 rfl)) (mvT hZ (own_w hw 193 rfl)) (mvT hZ (own_w hw 194 rfl)) (mvT hZ (own_w hw 195 rfl)) (mvT hZ (own_w hw 196 rfl)) (mvT hZ (own_w hw 197 rfl)) (by decide) (backOf (W := 0) (rmHas0 l Z a0 hw [] it_1 a (2 : Int32) (2 : Int32) T9.heap n0 (Nat.le_trans Z0 K9.1) r9_0 r9_1 (((u3.keep Kc1 nin0).keep Kc3 (ninS (Nat.ne_of_lt (Nat.lt_of_lt_of_le u1.lt r1_0)) nin0)).keep Kc9 (ninS (Nat.ne_of_lt (Nat.lt_of_lt_of_le u1.lt r1_0)) nin0)) (by decide : (2 : Int32) = (2 : Int32))) hZ (own_w hw 198 rfl) (own_w hw 177 rfl) (by decide) (by decide)) q14a q14b q14c (g := (mkF m 14 #[.val (.ref a), .val (.long tm), .second, .val (.long r_13), .second, .val (.ref it_1), .val (.ref yy1)] [(.ref it_1)])) rfl (by rw [hml]; rfl) (Steps.refl _) (argsL := []) (rest := []) (lenOf pd_3 rfl) rfl (by show 2 * 0 + _ ≤ _; exact Nat.le_of_eq rfl) (hb hby d26_14) (fun _ _ => ⟨rfl, eh13, (by decide : 1 + 0 ≤ _), (by decide : 4 + 0 ≤ _)⟩)
  dsimp only [Pt.U, Pt.locs, Pt.cells, Pt.slots] at X14 l14 y14 z14 st14 hQ14
  subst l14 y14 z14
  obtain ⟨rfl, N14q, eh14⟩ := hQ14
  have N14 := Fr.app N13 N14q
  refine own_via st14 ?_
  refine own_go (A := T14.setTop (mkF m 52 #[.val (.ref a), .val (.long tm), .second, .val (.long r_13), .second, .val (.ref it_1), .val (.ref yy1)] [(.long r_13)])) (fun t_ k_ => ?_) ?_
  · show Steps p.tables e below (T14.setTop (mkF m 19 #[.val (.ref a), .val (.long tm), .second, .val (.long r_13), .second, .val (.ref it_1), .val (.ref yy1)] [(.int (0 : Int32))])) t_
    refine XS.ifYes X14.here hx rfl (pc0 := 19) (pc' := 51) rfl (hb hby d26_19) rfl ((if0 _ _).trans (teq (by decide : (0 : Int32) = (0 : Int32))).1) (by decide) (by decide) ?_
    show Steps p.tables e below (T14.setTop (mkF m 51 #[.val (.ref a), .val (.long tm), .second, .val (.long r_13), .second, .val (.ref it_1), .val (.ref yy1)] [])) t_
    refine XS.lloadN X14.here hx rfl (hb hby d26_51) rfl ?_
    exact k_
  obtain ⟨fs15, hr15, hrun15, hended15, hW15, hsame15⟩ := X14.leave (v := some (.long r_13)) (fun h => by rw [Bd.returns] at h; cases h)
  refine ⟨_, _, ?_, hrun15, hended15, _, _, rfl, ?_, ⟨_, rfl⟩, hW15, hsame15.mono (by decide) (by decide)⟩
  · exact own_retJ X14 hx Bd.returns (hb hby d26_52) hr15
  · show Q_rmNL2 Z a tm mc ed kk yy0 yy1 q1 q2 h0 n0 _ T14.heap _
    rw [eh14]
    exact ⟨r_13, r_6, r_12, rfl, N14, K9, w6_0, w12_0, (by have z0 := own_min w7_0; have z1 := own_min w13_0; clear hw; omega), (by have z0 := own_min w7_0; have z1 := own_min w13_0; clear hw; omega), (own_or2 (own_minE w7_0) (own_minE w13_0)), (by have := rng64 r_13; omega)⟩
theorem own_or3 {r0_ r1_ r2_ r3_ z1_ z2_ z3_ : Int64} (hm1 : r1_ = r0_ ∨ r1_ = z1_) (hm2 : r2_ = r1_ ∨ r2_ = z2_) (hm3 : r3_ = r2_ ∨ r3_ = z3_) : r3_ = z1_ ∨ r3_ = z2_ ∨ r3_ = z3_ ∨ r3_ = r0_ := by
  rcases hm1 with rfl | rfl <;> rcases hm2 with rfl | rfl <;> rcases hm3 with rfl | rfl <;> simp
theorem ef_rmNL3 (m : MethodId) (a : Addr) (tm : Int64) : entryFrame m #[(.ref a), (.long tm)] 7 = mkF m 0 #[.val (.ref a), .val (.long tm), .second, .unset, .unset, .unset, .unset] [] := by first | (simp [entryFrame, mkF, argsToLocals, Value.category]; done) | rfl
def Q_rmNL3 (Z : State) (a : Addr) (tm : Int64) (mc : Int32) (ed : Addr) (kk : ClassId) (yy0 : Addr) (yy1 : Addr) (yy2 : Addr) (q1 : Int64) (q2 : Int64) (q3 : Int64) (h0 : Heap) (n0 : Nat) (v_ : Option Value) (h_ : Heap) (L_ : List Loc) : Prop := ∃ r : Int64, ∃ x1 : Int64, ∃ x2 : Int64, ∃ x3 : Int64, v_ = some (.long r) ∧ Fr n0 L_ ∧ Keep h0 h_ [] ∧ (own_NR tm q1 x1) ∧ (own_NR tm q2 x2) ∧ (own_NR tm q3 x3) ∧ (r.toInt ≤ x1.toInt) ∧ (r.toInt ≤ x2.toInt) ∧ (r.toInt ≤ x3.toInt) ∧ (r = x1 ∨ r = x2 ∨ r = x3 ∨ r = (9223372036854775807 : Int64)) ∧ (r.toInt ≤ 9223372036854775807)
set_option maxRecDepth 65536 in
set_option maxHeartbeats 40000000 in
theorem rmNL3 (l : Launch) (Z : State) (a0 : Array Value) (hw : ∀ d ∈ tables_1, d.before a0 Z = true) (ws : List Jvm.Cond) (a : Addr) (tm : Int64) (mc : Int32) (ed : Addr) (kk : ClassId) (yy0 : Addr) (yy1 : Addr) (yy2 : Addr) (q1 : Int64) (q2 : Int64) (q3 : Int64) (h0 : Heap) (n0 : Nat) (Z0 : n0 ≤ h0.size) (ht : 1 ≤ tm.toInt) (u1 : Exa Z h0 a "java/util/ArrayList") (u2 : Fld Z h0 a "java/util/AbstractList" "modCount" "I" (.int mc)) (u3 : Fld Z h0 a "java/util/ArrayList" "size" "I" (.int (3 : Int32))) (u4 : Fld Z h0 a "java/util/ArrayList" "elementData" "[Ljava/lang/Object;" (.ref ed)) (u5 : Arv Z h0 ed kk (.object "java/lang/Object") (10 : Int32) [(.ref yy0), (.ref yy1), (.ref yy2), .null, .null, .null, .null, .null, .null, .null] .null) (u6 : Exa Z h0 yy0 "com/example/firmline/firmline/model/Task") (u7 : Fld Z h0 yy0 "com/example/firmline/firmline/model/Task" "period" "J" (.long q1)) (hb1 : 1 ≤ q1.toInt ∧ q1.toInt ≤ 1000000000000000) (u9 : Exa Z h0 yy1 "com/example/firmline/firmline/model/Task") (u10 : Fld Z h0 yy1 "com/example/firmline/firmline/model/Task" "period" "J" (.long q2)) (hb2 : 1 ≤ q2.toInt ∧ q2.toInt ≤ 1000000000000000) (u12 : Exa Z h0 yy2 "com/example/firmline/firmline/model/Task") (u13 : Fld Z h0 yy2 "com/example/firmline/firmline/model/Task" "period" "J" (.long q3)) (hb3 : 1 ≤ q3.toInt ∧ q3.toInt ≤ 1000000000000000) :
    MetFree l own_y35 (head1 (Jvm.Cond.code own_y35 prog_7_method_6_code 7 (some .long) :: ws) ({ frames := 3, cells := 1, slots := 4, locals := 38 } : Room)) (fun a_ U_ => a_ = #[(.ref a), (.long tm)] ∧ Z.Warmed39 U_.vm ∧ U_.heap = h0) (fun _ _ _ _ _ => True) (fun _ U_ o_ U2_ => ∃ v_ L_, o_ = .returned v_ ∧ Q_rmNL3 Z a tm mc ed kk yy0 yy1 yy2 q1 q2 q3 h0 n0 v_ U2_.heap L_ ∧ FrameEnd U_ o_ U2_ L_ ({ frames := 3, cells := 1, slots := 4, locals := 38 } : Room).cells ({ frames := 3, cells := 1, slots := 4, locals := 38 } : Room).slots) := by
  refine MetFree.of_bodySF (plainFor_of_name pn_10) hisR ?_
  intro p e s m args below meth c s₁ Bd hml0 hP hK
  obtain ⟨rfl, hZ, hh⟩ := hP
  have hx := Bd.exec
  have hby := Bd.bytes
  have hml : c.maxLocals = 7 := hml0
  have hown : s.vm.findClass "com/example/firmline/firmline/analysis/Interference" = some m.cls := findClass_of_methodNamed Bd.named
  have hnm := (name_of_methodNamed Bd.named Bd.method).1
  have X0 : Stand p l e ({ frames := 3, cells := 1, slots := 4, locals := 38 } : Room) s m #[(.ref a), (.long tm)] below meth c s₁ [] 0 0 := Stand.of_body Bd
  have e0 : s₁.heap = h0 := by rw [← hh, Bd.state]; rfl
  have N0 := Fr.nil n0
  refine own_go (A := s₁.setTop (mkF m 0 #[.val (.ref a), .val (.long tm), .second, .unset, .unset, .unset, .unset] [])) (fun t_ k_ => castTop (ef_rmNL3 m a tm) k_) ?_
  refine own_go (A := s₁.setTop (mkF m 5 #[.val (.ref a), .val (.long tm), .second, .val (.long (9223372036854775807 : Int64)), .second, .unset, .unset] [(.ref a)])) (fun t_ k_ => ?_) ?_
  · show Steps p.tables e below (s₁.setTop (mkF m 0 #[.val (.ref a), .val (.long tm), .second, .unset, .unset, .unset, .unset] [])) t_
    refine Jvm.Stand.ldc2J X0 hx hown (mvT hZ (own_w hw 166 rfl)) (g := (mkF m 0 #[.val (.ref a), .val (.long tm), .second, .unset, .unset, .unset, .unset] [])) rfl (hb hby d26_0) ?_
    show Steps p.tables e below (s₁.setTop (mkF m 3 #[.val (.ref a), .val (.long tm), .second, .unset, .unset, .unset, .unset] [(.long (9223372036854775807 : Int64))])) t_
    refine XS.lstoreN X0.here hx rfl (hb hby d26_3) rfl (l' := #[.val (.ref a), .val (.long tm), .second, .val (.long (9223372036854775807 : Int64)), .second, .unset, .unset]) rfl ?_
    show Steps p.tables e below (s₁.setTop (mkF m 4 #[.val (.ref a), .val (.long tm), .second, .val (.long (9223372036854775807 : Int64)), .second, .unset, .unset] [])) t_
    refine XS.aloadN X0.here hx rfl (hb hby d26_4) rfl rfl ?_
    exact k_
  obtain ⟨cq1, kq1, q1a, q1b, q1c⟩ := isOf hZ e0 u1
  obtain ⟨_, _, ⟨T1, L1, k1, n1⟩, -, X1, ⟨Lc1, hQ1, l1, y1, z1⟩, st1⟩ := X0.interfaceBack hx (xi := own_y33) (y := own_y26) hown (mvT hZ (own_w hw 167 rfl)) (mvT hZ (own_w hw 168 rfl)) (mvT hZ (own_w hw 169 rfl)) (mvT hZ (own_w hw 170 rfl)) (mvT hZ (own_w hw 171 rfl)) (mvT hZ (own_w hw 172 rfl)) (mvT hZ (own_w hw 173 rfl)) (mvT hZ (own_w hw 133 rfl)) (by decide) (backOf (W := 0) (rmIter l Z a0 hw [] a mc h0 n0 Z0 u1 u2) hZ (own_w hw 174 rfl) (own_w hw 12 rfl) (by decide) (by decide)) q1a q1b q1c (g := (mkF m 5 #[.val (.ref a), .val (.long tm), .second, .val (.long (9223372036854775807 : Int64)), .second, .unset, .unset] [(.ref a)])) rfl (by rw [hml]; rfl) (Steps.refl _) (argsL := []) (rest := []) (lenOf pd_18 rfl) rfl (by show 2 * 0 + _ ≤ _; exact Nat.le_of_eq rfl) (hb hby d26_5) (fun _ _ => ⟨rfl, e0, (by decide : 0 + 1 ≤ _), (by decide : 0 + 4 ≤ _)⟩)
  dsimp only [Pt.U, Pt.locs, Pt.cells, Pt.slots] at X1 l1 y1 z1 st1 hQ1
  subst l1 y1 z1
  obtain ⟨it_1, rfl, N1q, Kc1, r1_0, r1_1, r1_2, r1_3, r1_4, r1_5⟩ := hQ1
  have N1 := Fr.app N0 N1q
  refine own_via st1 ?_
  have K1 : Keep h0 T1.heap [] := (Keep.refl h0 []).trans Kc1 all0
  refine own_go (A := T1.setTop (mkF m 14 #[.val (.ref a), .val (.long tm), .second, .val (.long (9223372036854775807 : Int64)), .second, .val (.ref it_1), .unset] [(.ref it_1)])) (fun t_ k_ => ?_) ?_
  · show Steps p.tables e below (T1.setTop (mkF m 10 #[.val (.ref a), .val (.long tm), .second, .val (.long (9223372036854775807 : Int64)), .second, .unset, .unset] [(.ref it_1)])) t_
    refine XS.astore X1.here hx rfl (hb hby d26_10) rfl rfl (l' := #[.val (.ref a), .val (.long tm), .second, .val (.long (9223372036854775807 : Int64)), .second, .val (.ref it_1), .unset]) rfl ?_
    show Steps p.tables e below (T1.setTop (mkF m 12 #[.val (.ref a), .val (.long tm), .second, .val (.long (9223372036854775807 : Int64)), .second, .val (.ref it_1), .unset] [])) t_
    refine XS.aload X1.here hx rfl (hb hby d26_12) rfl rfl ?_
    exact k_
  obtain ⟨cq2, kq2, q2a, q2b, q2c⟩ := isOf hZ rfl r1_1
  obtain ⟨_, _, ⟨T2, L2, k2, n2⟩, -, X2, ⟨Lc2, hQ2, l2, y2, z2⟩, st2⟩ := X1.interfaceBack hx (xi := own_y34) (y := own_y27) hown (mvT hZ (own_w hw 190 rfl)) (mvT hZ (own_w hw 191 rfl)) (mvT hZ (own_w hw 192 rfl)) (mvT hZ (own_w hw 193 rfl)) (mvT hZ (own_w hw 194 rfl)) (mvT hZ (own_w hw 195 rfl)) (mvT hZ (own_w hw 196 rfl)) (mvT hZ (own_w hw 197 rfl)) (by decide) (backOf (W := 0) (rmHas1 l Z a0 hw [] it_1 a (0 : Int32) (3 : Int32) T1.heap n0 (Nat.le_trans Z0 K1.1) r1_2 r1_3 (u3.keep Kc1 nin0) (by decide : ¬ ((0 : Int32) = (3 : Int32)))) hZ (own_w hw 198 rfl) (own_w hw 177 rfl) (by decide) (by decide)) q2a q2b q2c (g := (mkF m 14 #[.val (.ref a), .val (.long tm), .second, .val (.long (9223372036854775807 : Int64)), .second, .val (.ref it_1), .unset] [(.ref it_1)])) rfl (by rw [hml]; rfl) (Steps.refl _) (argsL := []) (rest := []) (lenOf pd_3 rfl) rfl (by show 2 * 0 + _ ≤ _; exact Nat.le_of_eq rfl) (hb hby d26_14) (fun _ _ => ⟨rfl, rfl, (by decide : 1 + 0 ≤ _), (by decide : 4 + 0 ≤ _)⟩)
  dsimp only [Pt.U, Pt.locs, Pt.cells, Pt.slots] at X2 l2 y2 z2 st2 hQ2
  subst l2 y2 z2
  obtain ⟨rfl, N2q, eh2⟩ := hQ2
  have N2 := Fr.app N1 N2q
  refine own_via st2 ?_
  refine own_go (A := T2.setTop (mkF m 24 #[.val (.ref a), .val (.long tm), .second, .val (.long (9223372036854775807 : Int64)), .second, .val (.ref it_1), .unset] [(.ref it_1)])) (fun t_ k_ => ?_) ?_
  · show Steps p.tables e below (T2.setTop (mkF m 19 #[.val (.ref a), .val (.long tm), .second, .val (.long (9223372036854775807 : Int64)), .second, .val (.ref it_1), .unset] [(.int (1 : Int32))])) t_
    refine XS.ifNo X2.here hx rfl (hb hby d26_19) rfl ((if0 _ _).trans (feq (by decide : ¬ ((1 : Int32) = (0 : Int32)))).1) ?_
    show Steps p.tables e below (T2.setTop (mkF m 22 #[.val (.ref a), .val (.long tm), .second, .val (.long (9223372036854775807 : Int64)), .second, .val (.ref it_1), .unset] [])) t_
    refine XS.aload X2.here hx rfl (hb hby d26_22) rfl rfl ?_
    exact k_
  obtain ⟨cq3, kq3, q3a, q3b, q3c⟩ := isOf hZ eh2 r1_1
  obtain ⟨_, _, ⟨T3, L3, k3, n3⟩, -, X3, ⟨Lc3, hQ3, l3, y3, z3⟩, st3⟩ := X2.interfaceBack hx (xi := own_y36) (y := own_y29) hown (mvT hZ (own_w hw 202 rfl)) (mvT hZ (own_w hw 203 rfl)) (mvT hZ (own_w hw 204 rfl)) (mvT hZ (own_w hw 205 rfl)) (mvT hZ (own_w hw 206 rfl)) (mvT hZ (own_w hw 207 rfl)) (mvT hZ (own_w hw 208 rfl)) (mvT hZ (own_w hw 197 rfl)) (by decide) (backOf (W := 0) (rmNx0 l Z a0 hw [] it_1 a (-1 : Int32) mc (3 : Int32) ed kk (.ref yy0) (.ref yy1) (.ref yy2) T1.heap n0 (Nat.le_trans Z0 K1.1) r1_1 r1_2 r1_3 r1_4 r1_5 (Nat.le_trans Z0 r1_0) (Nat.ne_of_lt (Nat.lt_of_lt_of_le u5.lt r1_0)) (u1.keep Kc1) (u2.keep Kc1 nin0) (u3.keep Kc1 nin0) (by decide : (0 : Int32) < (3 : Int32)) (u4.keep Kc1 nin0) (u5.keep Kc1 nin0) rfl) hZ (own_w hw 209 rfl) (own_w hw 177 rfl) (by decide) (by decide)) q3a q3b q3c (g := (mkF m 24 #[.val (.ref a), .val (.long tm), .second, .val (.long (9223372036854775807 : Int64)), .second, .val (.ref it_1), .unset] [(.ref it_1)])) rfl (by rw [hml]; rfl) (Steps.refl _) (argsL := []) (rest := []) (lenOf pd_19 rfl) rfl (by show 2 * 0 + _ ≤ _; exact Nat.le_of_eq rfl) (hb hby d26_24) (fun _ _ => ⟨rfl, eh2, (by decide : 1 + 0 ≤ _), (by decide : 4 + 0 ≤ _)⟩)
  dsimp only [Pt.U, Pt.locs, Pt.cells, Pt.slots] at X3 l3 y3 z3 st3 hQ3
  subst l3 y3 z3
  obtain ⟨rfl, N3q, Kc3, r3_0, r3_1, r3_2, r3_3⟩ := hQ3
  have N3 := Fr.app N2 N3q
  refine own_via st3 ?_
  have K3 : Keep h0 T3.heap [] := K1.trans Kc3 (allS (P := fun x => x ∈ _ ∨ _ ≤ x) (Or.inr r1_0) all0)
  obtain ⟨T4, X4, e4, st4⟩ := castY X3 hx hZ hown (own_w hw 216 rfl) rfl (Ins.self ((u6.keep Kc1).keep Kc3)) (g := (mkF m 29 #[.val (.ref a), .val (.long tm), .second, .val (.long (9223372036854775807 : Int64)), .second, .val (.ref it_1), .unset] [(.ref yy0)])) rfl rfl (hb hby d26_29)
  refine own_go st4 ?_
  refine own_go (A := T4.setTop (mkF m 38 #[.val (.ref a), .val (.long tm), .second, .val (.long (9223372036854775807 : Int64)), .second, .val (.ref it_1), .val (.ref yy0)] [(.ref yy0), (.long tm), (.long (9223372036854775807 : Int64))])) (fun t_ k_ => ?_) ?_
  · show Steps p.tables e below (T4.setTop (mkF m 32 #[.val (.ref a), .val (.long tm), .second, .val (.long (9223372036854775807 : Int64)), .second, .val (.ref it_1), .unset] [(.ref yy0)])) t_
    refine XS.astore X4.here hx rfl (hb hby d26_32) rfl rfl (l' := #[.val (.ref a), .val (.long tm), .second, .val (.long (9223372036854775807 : Int64)), .second, .val (.ref it_1), .val (.ref yy0)]) rfl ?_
    show Steps p.tables e below (T4.setTop (mkF m 34 #[.val (.ref a), .val (.long tm), .second, .val (.long (9223372036854775807 : Int64)), .second, .val (.ref it_1), .val (.ref yy0)] [])) t_
    refine XS.lloadN X4.here hx rfl (hb hby d26_34) rfl ?_
    show Steps p.tables e below (T4.setTop (mkF m 35 #[.val (.ref a), .val (.long tm), .second, .val (.long (9223372036854775807 : Int64)), .second, .val (.ref it_1), .val (.ref yy0)] [(.long (9223372036854775807 : Int64))])) t_
    refine XS.lloadN X4.here hx rfl (hb hby d26_35) rfl ?_
    show Steps p.tables e below (T4.setTop (mkF m 36 #[.val (.ref a), .val (.long tm), .second, .val (.long (9223372036854775807 : Int64)), .second, .val (.ref it_1), .val (.ref yy0)] [(.long tm), (.long (9223372036854775807 : Int64))])) t_
    refine XS.aload X4.here hx rfl (hb hby d26_36) rfl rfl ?_
    exact k_
  obtain ⟨cq5, kq5, q5a, q5b, q5c⟩ := isOf hZ e4 ((u6.keep Kc1).keep Kc3)
  obtain ⟨_, _, ⟨T5, L5, k5, n5⟩, -, X5, ⟨Lc5, hQ5, l5, y5, z5⟩, st5⟩ := X4.virtualBack hx (y := own_y30) (z := own_y30) hown (mvT hZ (own_w hw 218 rfl)) (mvT hZ (own_w hw 219 rfl)) (notFace_of_selects (args := #[]) (mvT hZ (own_w hw 221 rfl))) (mvT hZ (own_w hw 221 rfl)) (mvT hZ (own_w hw 220 rfl)) (by decide) (backOf (W := 4) (rmPer l Z a0 hw [] yy0 q1 T3.heap n0 (Nat.le_trans Z0 K3.1) ((u7.keep Kc1 nin0).keep Kc3 (ninS (Nat.ne_of_lt (Nat.lt_of_lt_of_le u6.lt r1_0)) nin0))) hZ (own_w hw 222 rfl) (own_w hw 38 rfl) (by decide) (by decide)) q5a q5c (g := (mkF m 38 #[.val (.ref a), .val (.long tm), .second, .val (.long (9223372036854775807 : Int64)), .second, .val (.ref it_1), .val (.ref yy0)] [(.ref yy0), (.long tm), (.long (9223372036854775807 : Int64))])) rfl (by rw [hml]; rfl) (Steps.refl _) (argsL := []) (rest := [(.long tm), (.long (9223372036854775807 : Int64))]) (lenOf pd_20 rfl) rfl (by show 2 * 0 + _ ≤ _; exact Nat.le_of_eq rfl) (hb hby d26_38) (fun _ _ => ⟨rfl, e4, (by decide : 1 + 0 ≤ _), (by decide : 4 + 0 ≤ _)⟩)
  dsimp only [Pt.U, Pt.locs, Pt.cells, Pt.slots] at X5 l5 y5 z5 st5 hQ5
  subst l5 y5 z5
  obtain ⟨rfl, N5q, eh5⟩ := hQ5
  have N5 := Fr.app N3 N5q
  refine own_via st5 ?_
  obtain ⟨_, _, ⟨T6, L6, k6, n6⟩, -, X6, ⟨Lc6, hQ6, l6, y6, z6⟩, st6⟩ := Jvm.LawKit.callS X5 hx (y := own_y32) hown (mvT hZ (own_w hw 223 rfl)) (mvT hZ (own_w hw 224 rfl)) (mvT hZ (own_w hw 164 rfl)) (mvT hZ (own_w hw 225 rfl)) (by decide) (backOf (W := 2) (rmNR l Z a0 hw [] tm q1 T3.heap n0 (Nat.le_trans Z0 K3.1) ht hb1) hZ (own_w hw 225 rfl) (own_w hw 164 rfl) (by decide) (by decide)) (g := (mkF m 41 #[.val (.ref a), .val (.long tm), .second, .val (.long (9223372036854775807 : Int64)), .second, .val (.ref it_1), .val (.ref yy0)] [(.long q1), (.long tm), (.long (9223372036854775807 : Int64))])) rfl (by rw [hml]; rfl) (argsL := [(.long tm), (.long q1)]) (rest := [(.long (9223372036854775807 : Int64))]) (lenOf pd_17 rfl) rfl (by show 2 * 0 + _ ≤ _; exact Nat.le_of_eq rfl) (hb hby d26_41) (fun _ _ => ⟨rfl, eh5, (by decide : 1 + 0 ≤ _), (by decide : 4 + 0 ≤ _)⟩)
  dsimp only [Pt.U, Pt.locs, Pt.cells, Pt.slots] at X6 l6 y6 z6 st6 hQ6
  subst l6 y6 z6
  obtain ⟨r_6, rfl, N6q, eh6, w6_0⟩ := hQ6
  have N6 := Fr.app N5 N6q
  refine own_go st6 ?_
  obtain ⟨_, _, ⟨T7, L7, k7, n7⟩, -, X7, ⟨Lc7, hQ7, l7, y7, z7⟩, st7⟩ := Jvm.LawKit.callS X6 hx (y := own_y11) hown (mvT hZ (own_w hw 229 rfl)) (mvT hZ (own_w hw 230 rfl)) (mvT hZ (own_w hw 3 rfl)) (mvT hZ (own_w hw 231 rfl)) (by decide) (backOf (W := 0) (rmMinJ l Z a0 hw [] (9223372036854775807 : Int64) r_6 T3.heap n0 (Nat.le_trans Z0 K3.1)) hZ (own_w hw 231 rfl) (own_w hw 3 rfl) (by decide) (by decide)) (g := (mkF m 44 #[.val (.ref a), .val (.long tm), .second, .val (.long (9223372036854775807 : Int64)), .second, .val (.ref it_1), .val (.ref yy0)] [(.long r_6), (.long (9223372036854775807 : Int64))])) rfl (by rw [hml]; rfl) (argsL := [(.long (9223372036854775807 : Int64)), (.long r_6)]) (rest := []) (lenOf pd_17 rfl) rfl (by show 2 * 0 + _ ≤ _; exact Nat.le_of_eq rfl) (hb hby d26_44) (fun _ _ => ⟨rfl, eh6, (by decide : 1 + 0 ≤ _), (by decide : 4 + 0 ≤ _)⟩)
  dsimp only [Pt.U, Pt.locs, Pt.cells, Pt.slots] at X7 l7 y7 z7 st7 hQ7
  subst l7 y7 z7
  obtain ⟨r_7, rfl, N7q, eh7, w7_0⟩ := hQ7
  have N7 := Fr.app N6 N7q
  refine own_go st7 ?_
  refine own_go (A := T7.setTop (mkF m 14 #[.val (.ref a), .val (.long tm), .second, .val (.long r_7), .second, .val (.ref it_1), .val (.ref yy0)] [(.ref it_1)])) (fun t_ k_ => ?_) ?_
  · show Steps p.tables e below (T7.setTop (mkF m 47 #[.val (.ref a), .val (.long tm), .second, .val (.long (9223372036854775807 : Int64)), .second, .val (.ref it_1), .val (.ref yy0)] [(.long r_7)])) t_
    refine XS.lstoreN X7.here hx rfl (hb hby d26_47) rfl (l' := #[.val (.ref a), .val (.long tm), .second, .val (.long r_7), .second, .val (.ref it_1), .val (.ref yy0)]) rfl ?_
    show Steps p.tables e below (T7.setTop (mkF m 48 #[.val (.ref a), .val (.long tm), .second, .val (.long r_7), .second, .val (.ref it_1), .val (.ref yy0)] [])) t_
    refine XS.goto X7.here hx rfl (pc0 := 48) (pc' := 12) rfl (hb hby d26_48) (by decide) (by decide) ?_
    show Steps p.tables e below (T7.setTop (mkF m 12 #[.val (.ref a), .val (.long tm), .second, .val (.long r_7), .second, .val (.ref it_1), .val (.ref yy0)] [])) t_
    refine XS.aload X7.here hx rfl (hb hby d26_12) rfl rfl ?_
    exact k_
  obtain ⟨cq8, kq8, q8a, q8b, q8c⟩ := isOf hZ eh7 (r1_1.keep Kc3)
  obtain ⟨_, _, ⟨T8, L8, k8, n8⟩, -, X8, ⟨Lc8, hQ8, l8, y8, z8⟩, st8⟩ := X7.interfaceBack hx (xi := own_y34) (y := own_y27) hown (mvT hZ (own_w hw 190 rfl)) (mvT hZ (own_w hw 191 rfl)) (mvT hZ (own_w hw 192 rfl)) (mvT hZ (own_w hw 193 rfl)) (mvT hZ (own_w hw 194 rfl)) (mvT hZ (own_w hw 195 rfl)) (mvT hZ (own_w hw 196 rfl)) (mvT hZ (own_w hw 197 rfl)) (by decide) (backOf (W := 0) (rmHas1 l Z a0 hw [] it_1 a (1 : Int32) (3 : Int32) T3.heap n0 (Nat.le_trans Z0 K3.1) r3_0 r3_1 ((u3.keep Kc1 nin0).keep Kc3 (ninS (Nat.ne_of_lt (Nat.lt_of_lt_of_le u1.lt r1_0)) nin0)) (by decide : ¬ ((1 : Int32) = (3 : Int32)))) hZ (own_w hw 198 rfl) (own_w hw 177 rfl) (by decide) (by decide)) q8a q8b q8c (g := (mkF m 14 #[.val (.ref a), .val (.long tm), .second, .val (.long r_7), .second, .val (.ref it_1), .val (.ref yy0)] [(.ref it_1)])) rfl (by rw [hml]; rfl) (Steps.refl _) (argsL := []) (rest := []) (lenOf pd_3 rfl) rfl (by show 2 * 0 + _ ≤ _; exact Nat.le_of_eq rfl) (hb hby d26_14) (fun _ _ => ⟨rfl, eh7, (by decide : 1 + 0 ≤ _), (by decide : 4 + 0 ≤ _)⟩)
  dsimp only [Pt.U, Pt.locs, Pt.cells, Pt.slots] at X8 l8 y8 z8 st8 hQ8
  subst l8 y8 z8
  obtain ⟨rfl, N8q, eh8⟩ := hQ8
  have N8 := Fr.app N7 N8q
  refine own_via st8 ?_
  refine own_go (A := T8.setTop (mkF m 24 #[.val (.ref a), .val (.long tm), .second, .val (.long r_7), .second, .val (.ref it_1), .val (.ref yy0)] [(.ref it_1)])) (fun t_ k_ => ?_) ?_
  · show Steps p.tables e below (T8.setTop (mkF m 19 #[.val (.ref a), .val (.long tm), .second, .val (.long r_7), .second, .val (.ref it_1), .val (.ref yy0)] [(.int (1 : Int32))])) t_
    refine XS.ifNo X8.here hx rfl (hb hby d26_19) rfl ((if0 _ _).trans (feq (by decide : ¬ ((1 : Int32) = (0 : Int32)))).1) ?_
    show Steps p.tables e below (T8.setTop (mkF m 22 #[.val (.ref a), .val (.long tm), .second, .val (.long r_7), .second, .val (.ref it_1), .val (.ref yy0)] [])) t_
    refine XS.aload X8.here hx rfl (hb hby d26_22) rfl rfl ?_
    exact k_
  obtain ⟨cq9, kq9, q9a, q9b, q9c⟩ := isOf hZ eh8 (r1_1.keep Kc3)
  obtain ⟨_, _, ⟨T9, L9, k9, n9⟩, -, X9, ⟨Lc9, hQ9, l9, y9, z9⟩, st9⟩ := X8.interfaceBack hx (xi := own_y36) (y := own_y29) hown (mvT hZ (own_w hw 202 rfl)) (mvT hZ (own_w hw 203 rfl)) (mvT hZ (own_w hw 204 rfl)) (mvT hZ (own_w hw 205 rfl)) (mvT hZ (own_w hw 206 rfl)) (mvT hZ (own_w hw 207 rfl)) (mvT hZ (own_w hw 208 rfl)) (mvT hZ (own_w hw 197 rfl)) (by decide) (backOf (W := 0) (rmNx1 l Z a0 hw [] it_1 a (0 : Int32) mc (3 : Int32) ed kk (.ref yy0) (.ref yy1) (.ref yy2) T3.heap n0 (Nat.le_trans Z0 K3.1) (r1_1.keep Kc3) r3_0 r3_1 r3_2 r3_3 (Nat.le_trans Z0 r1_0) (Nat.ne_of_lt (Nat.lt_of_lt_of_le u5.lt r1_0)) ((u1.keep Kc1).keep Kc3) ((u2.keep Kc1 nin0).keep Kc3 (ninS (Nat.ne_of_lt (Nat.lt_of_lt_of_le u1.lt r1_0)) nin0)) ((u3.keep Kc1 nin0).keep Kc3 (ninS (Nat.ne_of_lt (Nat.lt_of_lt_of_le u1.lt r1_0)) nin0)) (by decide : (1 : Int32) < (3 : Int32)) ((u4.keep Kc1 nin0).keep Kc3 (ninS (Nat.ne_of_lt (Nat.lt_of_lt_of_le u1.lt r1_0)) nin0)) ((u5.keep Kc1 nin0).keep Kc3 (ninS (Nat.ne_of_lt (Nat.lt_of_lt_of_le u5.lt r1_0)) nin0)) rfl) hZ (own_w hw 209 rfl) (own_w hw 177 rfl) (by decide) (by decide)) q9a q9b q9c (g := (mkF m 24 #[.val (.ref a), .val (.long tm), .second, .val (.long r_7), .second, .val (.ref it_1), .val (.ref yy0)] [(.ref it_1)])) rfl (by rw [hml]; rfl) (Steps.refl _) (argsL := []) (rest := []) (lenOf pd_19 rfl) rfl (by show 2 * 0 + _ ≤ _; exact Nat.le_of_eq rfl) (hb hby d26_24) (fun _ _ => ⟨rfl, eh8, (by decide : 1 + 0 ≤ _), (by decide : 4 + 0 ≤ _)⟩)
  dsimp only [Pt.U, Pt.locs, Pt.cells, Pt.slots] at X9 l9 y9 z9 st9 hQ9
  subst l9 y9 z9
  obtain ⟨rfl, N9q, Kc9, r9_0, r9_1, r9_2, r9_3⟩ := hQ9
  have N9 := Fr.app N8 N9q
  refine own_via st9 ?_
  have K9 : Keep h0 T9.heap [] := K3.trans Kc9 (allS (P := fun x => x ∈ _ ∨ _ ≤ x) (Or.inr r1_0) all0)
  obtain ⟨T10, X10, e10, st10⟩ := castY X9 hx hZ hown (own_w hw 216 rfl) rfl (Ins.self (((u9.keep Kc1).keep Kc3).keep Kc9)) (g := (mkF m 29 #[.val (.ref a), .val (.long tm), .second, .val (.long r_7), .second, .val (.ref it_1), .val (.ref yy0)] [(.ref yy1)])) rfl rfl (hb hby d26_29)
  refine own_go st10 ?_
  refine own_go (A := T10.setTop (mkF m 38 #[.val (.ref a), .val (.long tm), .second, .val (.long r_7), .second, .val (.ref it_1), .val (.ref yy1)] [(.ref yy1), (.long tm), (.long r_7)])) (fun t_ k_ => ?_) ?_
  · show Steps p.tables e below (T10.setTop (mkF m 32 #[.val (.ref a), .val (.long tm), .second, .val (.long r_7), .second, .val (.ref it_1), .val (.ref yy0)] [(.ref yy1)])) t_
    refine XS.astore X10.here hx rfl (hb hby d26_32) rfl rfl (l' := #[.val (.ref a), .val (.long tm), .second, .val (.long r_7), .second, .val (.ref it_1), .val (.ref yy1)]) rfl ?_
    show Steps p.tables e below (T10.setTop (mkF m 34 #[.val (.ref a), .val (.long tm), .second, .val (.long r_7), .second, .val (.ref it_1), .val (.ref yy1)] [])) t_
    refine XS.lloadN X10.here hx rfl (hb hby d26_34) rfl ?_
    show Steps p.tables e below (T10.setTop (mkF m 35 #[.val (.ref a), .val (.long tm), .second, .val (.long r_7), .second, .val (.ref it_1), .val (.ref yy1)] [(.long r_7)])) t_
    refine XS.lloadN X10.here hx rfl (hb hby d26_35) rfl ?_
    show Steps p.tables e below (T10.setTop (mkF m 36 #[.val (.ref a), .val (.long tm), .second, .val (.long r_7), .second, .val (.ref it_1), .val (.ref yy1)] [(.long tm), (.long r_7)])) t_
    refine XS.aload X10.here hx rfl (hb hby d26_36) rfl rfl ?_
    exact k_
  obtain ⟨cq11, kq11, q11a, q11b, q11c⟩ := isOf hZ e10 (((u9.keep Kc1).keep Kc3).keep Kc9)
  obtain ⟨_, _, ⟨T11, L11, k11, n11⟩, -, X11, ⟨Lc11, hQ11, l11, y11, z11⟩, st11⟩ := X10.virtualBack hx (y := own_y30) (z := own_y30) hown (mvT hZ (own_w hw 218 rfl)) (mvT hZ (own_w hw 219 rfl)) (notFace_of_selects (args := #[]) (mvT hZ (own_w hw 221 rfl))) (mvT hZ (own_w hw 221 rfl)) (mvT hZ (own_w hw 220 rfl)) (by decide) (backOf (W := 4) (rmPer l Z a0 hw [] yy1 q2 T9.heap n0 (Nat.le_trans Z0 K9.1) (((u10.keep Kc1 nin0).keep Kc3 (ninS (Nat.ne_of_lt (Nat.lt_of_lt_of_le u9.lt r1_0)) nin0)).keep Kc9 (ninS (Nat.ne_of_lt (Nat.lt_of_lt_of_le u9.lt r1_0)) nin0))) hZ (own_w hw 222 rfl) (own_w hw 38 rfl) (by decide) (by decide)) q11a q11c (g := (mkF m 38 #[.val (.ref a), .val (.long tm), .second, .val (.long r_7), .second, .val (.ref it_1), .val (.ref yy1)] [(.ref yy1), (.long tm), (.long r_7)])) rfl (by rw [hml]; rfl) (Steps.refl _) (argsL := []) (rest := [(.long tm), (.long r_7)]) (lenOf pd_20 rfl) rfl (by show 2 * 0 + _ ≤ _; exact Nat.le_of_eq rfl) (hb hby d26_38) (fun _ _ => ⟨rfl, e10, (by decide : 1 + 0 ≤ _), (by decide : 4 + 0 ≤ _)⟩)
  dsimp only [Pt.U, Pt.locs, Pt.cells, Pt.slots] at X11 l11 y11 z11 st11 hQ11
  subst l11 y11 z11
  obtain ⟨rfl, N11q, eh11⟩ := hQ11
  have N11 := Fr.app N9 N11q
  refine own_via st11 ?_
  obtain ⟨_, _, ⟨T12, L12, k12, n12⟩, -, X12, ⟨Lc12, hQ12, l12, y12, z12⟩, st12⟩ := Jvm.LawKit.callS X11 hx (y := own_y32) hown (mvT hZ (own_w hw 223 rfl)) (mvT hZ (own_w hw 224 rfl)) (mvT hZ (own_w hw 164 rfl)) (mvT hZ (own_w hw 225 rfl)) (by decide) (backOf (W := 2) (rmNR l Z a0 hw [] tm q2 T9.heap n0 (Nat.le_trans Z0 K9.1) ht hb2) hZ (own_w hw 225 rfl) (own_w hw 164 rfl) (by decide) (by decide)) (g := (mkF m 41 #[.val (.ref a), .val (.long tm), .second, .val (.long r_7), .second, .val (.ref it_1), .val (.ref yy1)] [(.long q2), (.long tm), (.long r_7)])) rfl (by rw [hml]; rfl) (argsL := [(.long tm), (.long q2)]) (rest := [(.long r_7)]) (lenOf pd_17 rfl) rfl (by show 2 * 0 + _ ≤ _; exact Nat.le_of_eq rfl) (hb hby d26_41) (fun _ _ => ⟨rfl, eh11, (by decide : 1 + 0 ≤ _), (by decide : 4 + 0 ≤ _)⟩)
  dsimp only [Pt.U, Pt.locs, Pt.cells, Pt.slots] at X12 l12 y12 z12 st12 hQ12
  subst l12 y12 z12
  obtain ⟨r_12, rfl, N12q, eh12, w12_0⟩ := hQ12
  have N12 := Fr.app N11 N12q
  refine own_go st12 ?_
  obtain ⟨_, _, ⟨T13, L13, k13, n13⟩, -, X13, ⟨Lc13, hQ13, l13, y13, z13⟩, st13⟩ := Jvm.LawKit.callS X12 hx (y := own_y11) hown (mvT hZ (own_w hw 229 rfl)) (mvT hZ (own_w hw 230 rfl)) (mvT hZ (own_w hw 3 rfl)) (mvT hZ (own_w hw 231 rfl)) (by decide) (backOf (W := 0) (rmMinJ l Z a0 hw [] r_7 r_12 T9.heap n0 (Nat.le_trans Z0 K9.1)) hZ (own_w hw 231 rfl) (own_w hw 3 rfl) (by decide) (by decide)) (g := (mkF m 44 #[.val (.ref a), .val (.long tm), .second, .val (.long r_7), .second, .val (.ref it_1), .val (.ref yy1)] [(.long r_12), (.long r_7)])) rfl (by rw [hml]; rfl) (argsL := [(.long r_7), (.long r_12)]) (rest := []) (lenOf pd_17 rfl) rfl (by show 2 * 0 + _ ≤ _; exact Nat.le_of_eq rfl) (hb hby d26_44) (fun _ _ => ⟨rfl, eh12, (by decide : 1 + 0 ≤ _), (by decide : 4 + 0 ≤ _)⟩)
  dsimp only [Pt.U, Pt.locs, Pt.cells, Pt.slots] at X13 l13 y13 z13 st13 hQ13
  subst l13 y13 z13
  obtain ⟨r_13, rfl, N13q, eh13, w13_0⟩ := hQ13
  have N13 := Fr.app N12 N13q
  refine own_go st13 ?_
  refine own_go (A := T13.setTop (mkF m 14 #[.val (.ref a), .val (.long tm), .second, .val (.long r_13), .second, .val (.ref it_1), .val (.ref yy1)] [(.ref it_1)])) (fun t_ k_ => ?_) ?_
  · show Steps p.tables e below (T13.setTop (mkF m 47 #[.val (.ref a), .val (.long tm), .second, .val (.long r_7), .second, .val (.ref it_1), .val (.ref yy1)] [(.long r_13)])) t_
    refine XS.lstoreN X13.here hx rfl (hb hby d26_47) rfl (l' := #[.val (.ref a), .val (.long tm), .second, .val (.long r_13), .second, .val (.ref it_1), .val (.ref yy1)]) rfl ?_
    show Steps p.tables e below (T13.setTop (mkF m 48 #[.val (.ref a), .val (.long tm), .second, .val (.long r_13), .second, .val (.ref it_1), .val (.ref yy1)] [])) t_
    refine XS.goto X13.here hx rfl (pc0 := 48) (pc' := 12) rfl (hb hby d26_48) (by decide) (by decide) ?_
    show Steps p.tables e below (T13.setTop (mkF m 12 #[.val (.ref a), .val (.long tm), .second, .val (.long r_13), .second, .val (.ref it_1), .val (.ref yy1)] [])) t_
    refine XS.aload X13.here hx rfl (hb hby d26_12) rfl rfl ?_
    exact k_
  obtain ⟨cq14, kq14, q14a, q14b, q14c⟩ := isOf hZ eh13 ((r1_1.keep Kc3).keep Kc9)
  obtain ⟨_, _, ⟨T14, L14, k14, n14⟩, -, X14, ⟨Lc14, hQ14, l14, y14, z14⟩, st14⟩ := X13.interfaceBack hx (xi := own_y34) (y := own_y27) hown (mvT hZ (own_w hw 190 rfl)) (mvT hZ (own_w hw 191 rfl)) (mvT hZ (own_w hw 192 rfl)) (mvT hZ (own_w hw 193 rfl)) (mvT hZ (own_w hw 194 rfl)) (mvT hZ (own_w hw 195 rfl)) (mvT hZ (own_w hw 196 rfl)) (mvT hZ (own_w hw 197 rfl)) (by decide) (backOf (W := 0) (rmHas1 l Z a0 hw [] it_1 a (2 : Int32) (3 : Int32) T9.heap n0 (Nat.le_trans Z0 K9.1) r9_0 r9_1 (((u3.keep Kc1 nin0).keep Kc3 (ninS (Nat.ne_of_lt (Nat.lt_of_lt_of_le u1.lt r1_0)) nin0)).keep Kc9 (ninS (Nat.ne_of_lt (Nat.lt_of_lt_of_le u1.lt r1_0)) nin0)) (by decide : ¬ ((2 : Int32) = (3 : Int32)))) hZ (own_w hw 198 rfl) (own_w hw 177 rfl) (by decide) (by decide)) q14a q14b q14c (g := (mkF m 14 #[.val (.ref a), .val (.long tm), .second, .val (.long r_13), .second, .val (.ref it_1), .val (.ref yy1)] [(.ref it_1)])) rfl (by rw [hml]; rfl) (Steps.refl _) (argsL := []) (rest := []) (lenOf pd_3 rfl) rfl (by show 2 * 0 + _ ≤ _; exact Nat.le_of_eq rfl) (hb hby d26_14) (fun _ _ => ⟨rfl, eh13, (by decide : 1 + 0 ≤ _), (by decide : 4 + 0 ≤ _)⟩)
  dsimp only [Pt.U, Pt.locs, Pt.cells, Pt.slots] at X14 l14 y14 z14 st14 hQ14
  subst l14 y14 z14
  obtain ⟨rfl, N14q, eh14⟩ := hQ14
  have N14 := Fr.app N13 N14q
  refine own_via st14 ?_
  refine own_go (A := T14.setTop (mkF m 24 #[.val (.ref a), .val (.long tm), .second, .val (.long r_13), .second, .val (.ref it_1), .val (.ref yy1)] [(.ref it_1)])) (fun t_ k_ => ?_) ?_
  · show Steps p.tables e below (T14.setTop (mkF m 19 #[.val (.ref a), .val (.long tm), .second, .val (.long r_13), .second, .val (.ref it_1), .val (.ref yy1)] [(.int (1 : Int32))])) t_
    refine XS.ifNo X14.here hx rfl (hb hby d26_19) rfl ((if0 _ _).trans (feq (by decide : ¬ ((1 : Int32) = (0 : Int32)))).1) ?_
    show Steps p.tables e below (T14.setTop (mkF m 22 #[.val (.ref a), .val (.long tm), .second, .val (.long r_13), .second, .val (.ref it_1), .val (.ref yy1)] [])) t_
    refine XS.aload X14.here hx rfl (hb hby d26_22) rfl rfl ?_
    exact k_
  obtain ⟨cq15, kq15, q15a, q15b, q15c⟩ := isOf hZ eh14 ((r1_1.keep Kc3).keep Kc9)
  obtain ⟨_, _, ⟨T15, L15, k15, n15⟩, -, X15, ⟨Lc15, hQ15, l15, y15, z15⟩, st15⟩ := X14.interfaceBack hx (xi := own_y36) (y := own_y29) hown (mvT hZ (own_w hw 202 rfl)) (mvT hZ (own_w hw 203 rfl)) (mvT hZ (own_w hw 204 rfl)) (mvT hZ (own_w hw 205 rfl)) (mvT hZ (own_w hw 206 rfl)) (mvT hZ (own_w hw 207 rfl)) (mvT hZ (own_w hw 208 rfl)) (mvT hZ (own_w hw 197 rfl)) (by decide) (backOf (W := 0) (rmNx2 l Z a0 hw [] it_1 a (1 : Int32) mc (3 : Int32) ed kk (.ref yy0) (.ref yy1) (.ref yy2) T9.heap n0 (Nat.le_trans Z0 K9.1) ((r1_1.keep Kc3).keep Kc9) r9_0 r9_1 r9_2 r9_3 (Nat.le_trans Z0 r1_0) (Nat.ne_of_lt (Nat.lt_of_lt_of_le u5.lt r1_0)) (((u1.keep Kc1).keep Kc3).keep Kc9) (((u2.keep Kc1 nin0).keep Kc3 (ninS (Nat.ne_of_lt (Nat.lt_of_lt_of_le u1.lt r1_0)) nin0)).keep Kc9 (ninS (Nat.ne_of_lt (Nat.lt_of_lt_of_le u1.lt r1_0)) nin0)) (((u3.keep Kc1 nin0).keep Kc3 (ninS (Nat.ne_of_lt (Nat.lt_of_lt_of_le u1.lt r1_0)) nin0)).keep Kc9 (ninS (Nat.ne_of_lt (Nat.lt_of_lt_of_le u1.lt r1_0)) nin0)) (by decide : (2 : Int32) < (3 : Int32)) (((u4.keep Kc1 nin0).keep Kc3 (ninS (Nat.ne_of_lt (Nat.lt_of_lt_of_le u1.lt r1_0)) nin0)).keep Kc9 (ninS (Nat.ne_of_lt (Nat.lt_of_lt_of_le u1.lt r1_0)) nin0)) (((u5.keep Kc1 nin0).keep Kc3 (ninS (Nat.ne_of_lt (Nat.lt_of_lt_of_le u5.lt r1_0)) nin0)).keep Kc9 (ninS (Nat.ne_of_lt (Nat.lt_of_lt_of_le u5.lt r1_0)) nin0)) rfl) hZ (own_w hw 209 rfl) (own_w hw 177 rfl) (by decide) (by decide)) q15a q15b q15c (g := (mkF m 24 #[.val (.ref a), .val (.long tm), .second, .val (.long r_13), .second, .val (.ref it_1), .val (.ref yy1)] [(.ref it_1)])) rfl (by rw [hml]; rfl) (Steps.refl _) (argsL := []) (rest := []) (lenOf pd_19 rfl) rfl (by show 2 * 0 + _ ≤ _; exact Nat.le_of_eq rfl) (hb hby d26_24) (fun _ _ => ⟨rfl, eh14, (by decide : 1 + 0 ≤ _), (by decide : 4 + 0 ≤ _)⟩)
  dsimp only [Pt.U, Pt.locs, Pt.cells, Pt.slots] at X15 l15 y15 z15 st15 hQ15
  subst l15 y15 z15
  obtain ⟨rfl, N15q, Kc15, r15_0, r15_1, r15_2, r15_3⟩ := hQ15
  have N15 := Fr.app N14 N15q
  refine own_via st15 ?_
  have K15 : Keep h0 T15.heap [] := K9.trans Kc15 (allS (P := fun x => x ∈ _ ∨ _ ≤ x) (Or.inr r1_0) all0)
  obtain ⟨T16, X16, e16, st16⟩ := castY X15 hx hZ hown (own_w hw 216 rfl) rfl (Ins.self ((((u12.keep Kc1).keep Kc3).keep Kc9).keep Kc15)) (g := (mkF m 29 #[.val (.ref a), .val (.long tm), .second, .val (.long r_13), .second, .val (.ref it_1), .val (.ref yy1)] [(.ref yy2)])) rfl rfl (hb hby d26_29)
  refine own_go st16 ?_
  refine own_go (A := T16.setTop (mkF m 38 #[.val (.ref a), .val (.long tm), .second, .val (.long r_13), .second, .val (.ref it_1), .val (.ref yy2)] [(.ref yy2), (.long tm), (.long r_13)])) (fun t_ k_ => ?_) ?_
  · show Steps p.tables e below (T16.setTop (mkF m 32 #[.val (.ref a), .val (.long tm), .second, .val (.long r_13), .second, .val (.ref it_1), .val (.ref yy1)] [(.ref yy2)])) t_
    refine XS.astore X16.here hx rfl (hb hby d26_32) rfl rfl (l' := #[.val (.ref a), .val (.long tm), .second, .val (.long r_13), .second, .val (.ref it_1), .val (.ref yy2)]) rfl ?_
    show Steps p.tables e below (T16.setTop (mkF m 34 #[.val (.ref a), .val (.long tm), .second, .val (.long r_13), .second, .val (.ref it_1), .val (.ref yy2)] [])) t_
    refine XS.lloadN X16.here hx rfl (hb hby d26_34) rfl ?_
    show Steps p.tables e below (T16.setTop (mkF m 35 #[.val (.ref a), .val (.long tm), .second, .val (.long r_13), .second, .val (.ref it_1), .val (.ref yy2)] [(.long r_13)])) t_
    refine XS.lloadN X16.here hx rfl (hb hby d26_35) rfl ?_
    show Steps p.tables e below (T16.setTop (mkF m 36 #[.val (.ref a), .val (.long tm), .second, .val (.long r_13), .second, .val (.ref it_1), .val (.ref yy2)] [(.long tm), (.long r_13)])) t_
    refine XS.aload X16.here hx rfl (hb hby d26_36) rfl rfl ?_
    exact k_
  obtain ⟨cq17, kq17, q17a, q17b, q17c⟩ := isOf hZ e16 ((((u12.keep Kc1).keep Kc3).keep Kc9).keep Kc15)
  obtain ⟨_, _, ⟨T17, L17, k17, n17⟩, -, X17, ⟨Lc17, hQ17, l17, y17, z17⟩, st17⟩ := X16.virtualBack hx (y := own_y30) (z := own_y30) hown (mvT hZ (own_w hw 218 rfl)) (mvT hZ (own_w hw 219 rfl)) (notFace_of_selects (args := #[]) (mvT hZ (own_w hw 221 rfl))) (mvT hZ (own_w hw 221 rfl)) (mvT hZ (own_w hw 220 rfl)) (by decide) (backOf (W := 4) (rmPer l Z a0 hw [] yy2 q3 T15.heap n0 (Nat.le_trans Z0 K15.1) ((((u13.keep Kc1 nin0).keep Kc3 (ninS (Nat.ne_of_lt (Nat.lt_of_lt_of_le u12.lt r1_0)) nin0)).keep Kc9 (ninS (Nat.ne_of_lt (Nat.lt_of_lt_of_le u12.lt r1_0)) nin0)).keep Kc15 (ninS (Nat.ne_of_lt (Nat.lt_of_lt_of_le u12.lt r1_0)) nin0))) hZ (own_w hw 222 rfl) (own_w hw 38 rfl) (by decide) (by decide)) q17a q17c (g := (mkF m 38 #[.val (.ref a), .val (.long tm), .second, .val (.long r_13), .second, .val (.ref it_1), .val (.ref yy2)] [(.ref yy2), (.long tm), (.long r_13)])) rfl (by rw [hml]; rfl) (Steps.refl _) (argsL := []) (rest := [(.long tm), (.long r_13)]) (lenOf pd_20 rfl) rfl (by show 2 * 0 + _ ≤ _; exact Nat.le_of_eq rfl) (hb hby d26_38) (fun _ _ => ⟨rfl, e16, (by decide : 1 + 0 ≤ _), (by decide : 4 + 0 ≤ _)⟩)
  dsimp only [Pt.U, Pt.locs, Pt.cells, Pt.slots] at X17 l17 y17 z17 st17 hQ17
  subst l17 y17 z17
  obtain ⟨rfl, N17q, eh17⟩ := hQ17
  have N17 := Fr.app N15 N17q
  refine own_via st17 ?_
  obtain ⟨_, _, ⟨T18, L18, k18, n18⟩, -, X18, ⟨Lc18, hQ18, l18, y18, z18⟩, st18⟩ := Jvm.LawKit.callS X17 hx (y := own_y32) hown (mvT hZ (own_w hw 223 rfl)) (mvT hZ (own_w hw 224 rfl)) (mvT hZ (own_w hw 164 rfl)) (mvT hZ (own_w hw 225 rfl)) (by decide) (backOf (W := 2) (rmNR l Z a0 hw [] tm q3 T15.heap n0 (Nat.le_trans Z0 K15.1) ht hb3) hZ (own_w hw 225 rfl) (own_w hw 164 rfl) (by decide) (by decide)) (g := (mkF m 41 #[.val (.ref a), .val (.long tm), .second, .val (.long r_13), .second, .val (.ref it_1), .val (.ref yy2)] [(.long q3), (.long tm), (.long r_13)])) rfl (by rw [hml]; rfl) (argsL := [(.long tm), (.long q3)]) (rest := [(.long r_13)]) (lenOf pd_17 rfl) rfl (by show 2 * 0 + _ ≤ _; exact Nat.le_of_eq rfl) (hb hby d26_41) (fun _ _ => ⟨rfl, eh17, (by decide : 1 + 0 ≤ _), (by decide : 4 + 0 ≤ _)⟩)
  dsimp only [Pt.U, Pt.locs, Pt.cells, Pt.slots] at X18 l18 y18 z18 st18 hQ18
  subst l18 y18 z18
  obtain ⟨r_18, rfl, N18q, eh18, w18_0⟩ := hQ18
  have N18 := Fr.app N17 N18q
  refine own_go st18 ?_
  obtain ⟨_, _, ⟨T19, L19, k19, n19⟩, -, X19, ⟨Lc19, hQ19, l19, y19, z19⟩, st19⟩ := Jvm.LawKit.callS X18 hx (y := own_y11) hown (mvT hZ (own_w hw 229 rfl)) (mvT hZ (own_w hw 230 rfl)) (mvT hZ (own_w hw 3 rfl)) (mvT hZ (own_w hw 231 rfl)) (by decide) (backOf (W := 0) (rmMinJ l Z a0 hw [] r_13 r_18 T15.heap n0 (Nat.le_trans Z0 K15.1)) hZ (own_w hw 231 rfl) (own_w hw 3 rfl) (by decide) (by decide)) (g := (mkF m 44 #[.val (.ref a), .val (.long tm), .second, .val (.long r_13), .second, .val (.ref it_1), .val (.ref yy2)] [(.long r_18), (.long r_13)])) rfl (by rw [hml]; rfl) (argsL := [(.long r_13), (.long r_18)]) (rest := []) (lenOf pd_17 rfl) rfl (by show 2 * 0 + _ ≤ _; exact Nat.le_of_eq rfl) (hb hby d26_44) (fun _ _ => ⟨rfl, eh18, (by decide : 1 + 0 ≤ _), (by decide : 4 + 0 ≤ _)⟩)
  dsimp only [Pt.U, Pt.locs, Pt.cells, Pt.slots] at X19 l19 y19 z19 st19 hQ19
  subst l19 y19 z19
  obtain ⟨r_19, rfl, N19q, eh19, w19_0⟩ := hQ19
  have N19 := Fr.app N18 N19q
  refine own_go st19 ?_
  refine own_go (A := T19.setTop (mkF m 14 #[.val (.ref a), .val (.long tm), .second, .val (.long r_19), .second, .val (.ref it_1), .val (.ref yy2)] [(.ref it_1)])) (fun t_ k_ => ?_) ?_
  · show Steps p.tables e below (T19.setTop (mkF m 47 #[.val (.ref a), .val (.long tm), .second, .val (.long r_13), .second, .val (.ref it_1), .val (.ref yy2)] [(.long r_19)])) t_
    refine XS.lstoreN X19.here hx rfl (hb hby d26_47) rfl (l' := #[.val (.ref a), .val (.long tm), .second, .val (.long r_19), .second, .val (.ref it_1), .val (.ref yy2)]) rfl ?_
    show Steps p.tables e below (T19.setTop (mkF m 48 #[.val (.ref a), .val (.long tm), .second, .val (.long r_19), .second, .val (.ref it_1), .val (.ref yy2)] [])) t_
    refine XS.goto X19.here hx rfl (pc0 := 48) (pc' := 12) rfl (hb hby d26_48) (by decide) (by decide) ?_
    show Steps p.tables e below (T19.setTop (mkF m 12 #[.val (.ref a), .val (.long tm), .second, .val (.long r_19), .second, .val (.ref it_1), .val (.ref yy2)] [])) t_
    refine XS.aload X19.here hx rfl (hb hby d26_12) rfl rfl ?_
    exact k_
  obtain ⟨cq20, kq20, q20a, q20b, q20c⟩ := isOf hZ eh19 (((r1_1.keep Kc3).keep Kc9).keep Kc15)
  obtain ⟨_, _, ⟨T20, L20, k20, n20⟩, -, X20, ⟨Lc20, hQ20, l20, y20, z20⟩, st20⟩ := X19.interfaceBack hx (xi := own_y34) (y := own_y27) hown (mvT hZ (own_w hw 190 rfl)) (mvT hZ (own_w hw 191 rfl)) (mvT hZ (own_w hw 192 rfl)) (mvT hZ (own_w hw 193 rfl)) (mvT hZ (own_w hw 194 rfl)) (mvT hZ (own_w hw 195 rfl)) (mvT hZ (own_w hw 196 rfl)) (mvT hZ (own_w hw 197 rfl)) (by decide) (backOf (W := 0) (rmHas0 l Z a0 hw [] it_1 a (3 : Int32) (3 : Int32) T15.heap n0 (Nat.le_trans Z0 K15.1) r15_0 r15_1 ((((u3.keep Kc1 nin0).keep Kc3 (ninS (Nat.ne_of_lt (Nat.lt_of_lt_of_le u1.lt r1_0)) nin0)).keep Kc9 (ninS (Nat.ne_of_lt (Nat.lt_of_lt_of_le u1.lt r1_0)) nin0)).keep Kc15 (ninS (Nat.ne_of_lt (Nat.lt_of_lt_of_le u1.lt r1_0)) nin0)) (by decide : (3 : Int32) = (3 : Int32))) hZ (own_w hw 198 rfl) (own_w hw 177 rfl) (by decide) (by decide)) q20a q20b q20c (g := (mkF m 14 #[.val (.ref a), .val (.long tm), .second, .val (.long r_19), .second, .val (.ref it_1), .val (.ref yy2)] [(.ref it_1)])) rfl (by rw [hml]; rfl) (Steps.refl _) (argsL := []) (rest := []) (lenOf pd_3 rfl) rfl (by show 2 * 0 + _ ≤ _; exact Nat.le_of_eq rfl) (hb hby d26_14) (fun _ _ => ⟨rfl, eh19, (by decide : 1 + 0 ≤ _), (by decide : 4 + 0 ≤ _)⟩)
  dsimp only [Pt.U, Pt.locs, Pt.cells, Pt.slots] at X20 l20 y20 z20 st20 hQ20
  subst l20 y20 z20
  obtain ⟨rfl, N20q, eh20⟩ := hQ20
  have N20 := Fr.app N19 N20q
  refine own_via st20 ?_
  refine own_go (A := T20.setTop (mkF m 52 #[.val (.ref a), .val (.long tm), .second, .val (.long r_19), .second, .val (.ref it_1), .val (.ref yy2)] [(.long r_19)])) (fun t_ k_ => ?_) ?_
  · show Steps p.tables e below (T20.setTop (mkF m 19 #[.val (.ref a), .val (.long tm), .second, .val (.long r_19), .second, .val (.ref it_1), .val (.ref yy2)] [(.int (0 : Int32))])) t_
    refine XS.ifYes X20.here hx rfl (pc0 := 19) (pc' := 51) rfl (hb hby d26_19) rfl ((if0 _ _).trans (teq (by decide : (0 : Int32) = (0 : Int32))).1) (by decide) (by decide) ?_
    show Steps p.tables e below (T20.setTop (mkF m 51 #[.val (.ref a), .val (.long tm), .second, .val (.long r_19), .second, .val (.ref it_1), .val (.ref yy2)] [])) t_
    refine XS.lloadN X20.here hx rfl (hb hby d26_51) rfl ?_
    exact k_
  obtain ⟨fs21, hr21, hrun21, hended21, hW21, hsame21⟩ := X20.leave (v := some (.long r_19)) (fun h => by rw [Bd.returns] at h; cases h)
  refine ⟨_, _, ?_, hrun21, hended21, _, _, rfl, ?_, ⟨_, rfl⟩, hW21, hsame21.mono (by decide) (by decide)⟩
  · exact own_retJ X20 hx Bd.returns (hb hby d26_52) hr21
  · show Q_rmNL3 Z a tm mc ed kk yy0 yy1 yy2 q1 q2 q3 h0 n0 _ T20.heap _
    rw [eh20]
    exact ⟨r_19, r_6, r_12, r_18, rfl, N20, K15, w6_0, w12_0, w18_0, (by have z0 := own_min w7_0; have z1 := own_min w13_0; have z2 := own_min w19_0; clear hw; omega), (by have z0 := own_min w7_0; have z1 := own_min w13_0; have z2 := own_min w19_0; clear hw; omega), (by have z0 := own_min w7_0; have z1 := own_min w13_0; have z2 := own_min w19_0; clear hw; omega), (own_or3 (own_minE w7_0) (own_minE w13_0) (own_minE w19_0)), (by have := rng64 r_19; omega)⟩
theorem d36_0 : decode method_4_code 0 = .ok (.lload_n 0, 1) := by decide +kernel
theorem d36_1 : decode method_4_code 1 = .ok (.lconst 1, 1) := by decide +kernel
theorem d36_2 : decode method_4_code 2 = .ok (.lsub, 1) := by decide +kernel
theorem d36_3 : decode method_4_code 3 = .ok (.lload 4, 2) := by decide +kernel
theorem d36_5 : decode method_4_code 5 = .ok (.ldiv, 1) := by decide +kernel
theorem d36_6 : decode method_4_code 6 = .ok (.lload_n 2, 1) := by decide +kernel
theorem d36_7 : decode method_4_code 7 = .ok (.lconst 1, 1) := by decide +kernel
theorem d36_8 : decode method_4_code 8 = .ok (.lsub, 1) := by decide +kernel
theorem d36_9 : decode method_4_code 9 = .ok (.lload 4, 2) := by decide +kernel
theorem d36_11 : decode method_4_code 11 = .ok (.ldiv, 1) := by decide +kernel
theorem d36_12 : decode method_4_code 12 = .ok (.lcmp, 1) := by decide +kernel
theorem d36_13 : decode method_4_code 13 = .ok (.ifCond .ne 7, 3) := by decide +kernel
theorem d36_16 : decode method_4_code 16 = .ok (.iconst 1, 1) := by decide +kernel
theorem d36_17 : decode method_4_code 17 = .ok (.goto 4, 3) := by decide +kernel
theorem d36_21 : decode method_4_code 21 = .ok (.ireturn, 1) := by decide +kernel
abbrev own_y37 : MethodName := ⟨"com/example/firmline/firmline/analysis/InterferenceNextReleasePinLaw", "quiet", "(JJJ)Z"⟩
theorem ef_rmQuiet (m : MethodId) (rr : Int64) (tm : Int64) (q : Int64) : entryFrame m #[(.long rr), (.long tm), (.long q)] 6 = mkF m 0 #[.val (.long rr), .second, .val (.long tm), .second, .val (.long q), .second] [] := by first | (simp [entryFrame, mkF, argsToLocals, Value.category]; done) | rfl
def Q_rmQuiet (Z : State) (rr : Int64) (tm : Int64) (q : Int64) (h0 : Heap) (n0 : Nat) (v_ : Option Value) (h_ : Heap) (L_ : List Loc) : Prop := v_ = some (.int (1 : Int32)) ∧ Fr n0 L_ ∧ h_ = h0
set_option maxRecDepth 65536 in
set_option maxHeartbeats 40000000 in
theorem rmQuiet (l : Launch) (Z : State) (a0 : Array Value) (hw : ∀ d ∈ tables_1, d.before a0 Z = true) (ws : List Jvm.Cond) (rr : Int64) (tm : Int64) (q : Int64) (h0 : Heap) (n0 : Nat) (Z0 : n0 ≤ h0.size) (hnz : ¬ (q = (0 : Int64))) (hqu : ((rr - (1 : Int64)) / q) = ((tm - (1 : Int64)) / q)) :
    MetFree l own_y37 (head1 (Jvm.Cond.code own_y37 method_4_code 6 (some .boolean) :: ws) ({ frames := 0, cells := 0, slots := 0, locals := 0 } : Room)) (fun a_ U_ => a_ = #[(.long rr), (.long tm), (.long q)] ∧ Z.Warmed39 U_.vm ∧ U_.heap = h0) (fun _ _ _ _ _ => True) (fun _ U_ o_ U2_ => ∃ v_ L_, o_ = .returned v_ ∧ Q_rmQuiet Z rr tm q h0 n0 v_ U2_.heap L_ ∧ FrameEnd U_ o_ U2_ L_ ({ frames := 0, cells := 0, slots := 0, locals := 0 } : Room).cells ({ frames := 0, cells := 0, slots := 0, locals := 0 } : Room).slots) := by
  refine MetFree.of_bodySF (plainFor_of_name pn_4) hisR ?_
  intro p e s m args below meth c s₁ Bd hml0 hP hK
  obtain ⟨rfl, hZ, hh⟩ := hP
  have hx := Bd.exec
  have hby := Bd.bytes
  have hml : c.maxLocals = 6 := hml0
  have hown : s.vm.findClass "com/example/firmline/firmline/analysis/InterferenceNextReleasePinLaw" = some m.cls := findClass_of_methodNamed Bd.named
  have hnm := (name_of_methodNamed Bd.named Bd.method).1
  have X0 : Stand p l e ({ frames := 0, cells := 0, slots := 0, locals := 0 } : Room) s m #[(.long rr), (.long tm), (.long q)] below meth c s₁ [] 0 0 := Stand.of_body Bd
  have e0 : s₁.heap = h0 := by rw [← hh, Bd.state]; rfl
  have N0 := Fr.nil n0
  refine own_go (A := s₁.setTop (mkF m 0 #[.val (.long rr), .second, .val (.long tm), .second, .val (.long q), .second] [])) (fun t_ k_ => castTop (ef_rmQuiet m rr tm q) k_) ?_
  refine own_go (A := s₁.setTop (mkF m 21 #[.val (.long rr), .second, .val (.long tm), .second, .val (.long q), .second] [(.int (1 : Int32))])) (fun t_ k_ => ?_) ?_
  · show Steps p.tables e below (s₁.setTop (mkF m 0 #[.val (.long rr), .second, .val (.long tm), .second, .val (.long q), .second] [])) t_
    refine XS.lloadN X0.here hx rfl (hb hby d36_0) rfl ?_
    show Steps p.tables e below (s₁.setTop (mkF m 1 #[.val (.long rr), .second, .val (.long tm), .second, .val (.long q), .second] [(.long rr)])) t_
    refine XS.lconst X0.here hx rfl (hb hby d36_1) ?_
    show Steps p.tables e below (s₁.setTop (mkF m 2 #[.val (.long rr), .second, .val (.long tm), .second, .val (.long q), .second] [(.long (1 : Int64)), (.long rr)])) t_
    refine XS.lsub X0.here hx rfl (hb hby d36_2) rfl ?_
    show Steps p.tables e below (s₁.setTop (mkF m 3 #[.val (.long rr), .second, .val (.long tm), .second, .val (.long q), .second] [(.long (rr - (1 : Int64)))])) t_
    refine XS.lload X0.here hx rfl (hb hby d36_3) rfl ?_
    show Steps p.tables e below (s₁.setTop (mkF m 5 #[.val (.long rr), .second, .val (.long tm), .second, .val (.long q), .second] [(.long q), (.long (rr - (1 : Int64)))])) t_
    refine XS.ldiv X0.here hx rfl (hb hby d36_5) rfl hnz ?_
    show Steps p.tables e below (s₁.setTop (mkF m 6 #[.val (.long rr), .second, .val (.long tm), .second, .val (.long q), .second] [(.long ((rr - (1 : Int64)) / q))])) t_
    refine XS.lloadN X0.here hx rfl (hb hby d36_6) rfl ?_
    show Steps p.tables e below (s₁.setTop (mkF m 7 #[.val (.long rr), .second, .val (.long tm), .second, .val (.long q), .second] [(.long tm), (.long ((rr - (1 : Int64)) / q))])) t_
    refine XS.lconst X0.here hx rfl (hb hby d36_7) ?_
    show Steps p.tables e below (s₁.setTop (mkF m 8 #[.val (.long rr), .second, .val (.long tm), .second, .val (.long q), .second] [(.long (1 : Int64)), (.long tm), (.long ((rr - (1 : Int64)) / q))])) t_
    refine XS.lsub X0.here hx rfl (hb hby d36_8) rfl ?_
    show Steps p.tables e below (s₁.setTop (mkF m 9 #[.val (.long rr), .second, .val (.long tm), .second, .val (.long q), .second] [(.long (tm - (1 : Int64))), (.long ((rr - (1 : Int64)) / q))])) t_
    refine XS.lload X0.here hx rfl (hb hby d36_9) rfl ?_
    show Steps p.tables e below (s₁.setTop (mkF m 11 #[.val (.long rr), .second, .val (.long tm), .second, .val (.long q), .second] [(.long q), (.long (tm - (1 : Int64))), (.long ((rr - (1 : Int64)) / q))])) t_
    refine XS.ldiv X0.here hx rfl (hb hby d36_11) rfl hnz ?_
    show Steps p.tables e below (s₁.setTop (mkF m 12 #[.val (.long rr), .second, .val (.long tm), .second, .val (.long q), .second] [(.long ((tm - (1 : Int64)) / q)), (.long ((rr - (1 : Int64)) / q))])) t_
    refine XS.lcmp X0.here hx rfl (hb hby d36_12) rfl ?_
    show Steps p.tables e below (s₁.setTop (mkF m 13 #[.val (.long rr), .second, .val (.long tm), .second, .val (.long q), .second] [(.int (lcmpW ((rr - (1 : Int64)) / q) ((tm - (1 : Int64)) / q)))])) t_
    refine XS.ifNo X0.here hx rfl (hb hby d36_13) rfl ((if0 _ _).trans (teq ((lw_eq _ _).mpr hqu)).2) ?_
    show Steps p.tables e below (s₁.setTop (mkF m 16 #[.val (.long rr), .second, .val (.long tm), .second, .val (.long q), .second] [])) t_
    refine XS.iconst X0.here hx rfl (hb hby d36_16) ?_
    show Steps p.tables e below (s₁.setTop (mkF m 17 #[.val (.long rr), .second, .val (.long tm), .second, .val (.long q), .second] [(.int (1 : Int32))])) t_
    refine XS.goto X0.here hx rfl (pc0 := 17) (pc' := 21) rfl (hb hby d36_17) (by decide) (by decide) ?_
    exact k_
  obtain ⟨fs1, hr1, hrun1, hended1, hW1, hsame1⟩ := X0.leave (v := some (.int (1 : Int32))) (fun h => by rw [Bd.returns] at h; cases h)
  refine ⟨_, _, ?_, hrun1, hended1, _, _, rfl, ?_, ⟨_, rfl⟩, hW1, hsame1.mono (by decide) (by decide)⟩
  · exact retN X0 hx (t := .boolean) Bd.returns (by simp) (hb hby d36_21) hr1
  · show Q_rmQuiet Z rr tm q h0 n0 _ s₁.heap _
    rw [e0]
    exact ⟨rfl, N0, rfl⟩
theorem d37_0 : decode method_5_code 0 = .ok (.ldc2_w 9, 3) := by decide +kernel
theorem d37_3 : decode method_5_code 3 = .ok (.lload_n 2, 1) := by decide +kernel
theorem d37_4 : decode method_5_code 4 = .ok (.ldiv, 1) := by decide +kernel
theorem d37_5 : decode method_5_code 5 = .ok (.lload_n 2, 1) := by decide +kernel
theorem d37_6 : decode method_5_code 6 = .ok (.lmul, 1) := by decide +kernel
theorem d37_7 : decode method_5_code 7 = .ok (.lload_n 0, 1) := by decide +kernel
theorem d37_8 : decode method_5_code 8 = .ok (.lcmp, 1) := by decide +kernel
theorem d37_9 : decode method_5_code 9 = .ok (.ifCond .ge 7, 3) := by decide +kernel
theorem d37_12 : decode method_5_code 12 = .ok (.iconst 1, 1) := by decide +kernel
theorem d37_13 : decode method_5_code 13 = .ok (.goto 4, 3) := by decide +kernel
theorem d37_17 : decode method_5_code 17 = .ok (.ireturn, 1) := by decide +kernel
abbrev own_y38 : MethodName := ⟨"com/example/firmline/firmline/analysis/InterferenceNextReleasePinLaw", "beyond", "(JJ)Z"⟩
theorem ef_rmBey1 (m : MethodId) (tm : Int64) (q : Int64) : entryFrame m #[(.long tm), (.long q)] 4 = mkF m 0 #[.val (.long tm), .second, .val (.long q), .second] [] := by first | (simp [entryFrame, mkF, argsToLocals, Value.category]; done) | rfl
def Q_rmBey1 (Z : State) (tm : Int64) (q : Int64) (h0 : Heap) (n0 : Nat) (v_ : Option Value) (h_ : Heap) (L_ : List Loc) : Prop := v_ = some (.int (1 : Int32)) ∧ Fr n0 L_ ∧ h_ = h0
set_option maxRecDepth 65536 in
set_option maxHeartbeats 40000000 in
theorem rmBey1 (l : Launch) (Z : State) (a0 : Array Value) (hw : ∀ d ∈ tables_1, d.before a0 Z = true) (ws : List Jvm.Cond) (tm : Int64) (q : Int64) (h0 : Heap) (n0 : Nat) (Z0 : n0 ≤ h0.size) (hnz : ¬ (q = (0 : Int64))) (hbe : (((9223372036854775807 : Int64) / q) * q) < tm) :
    MetFree l own_y38 (head1 (Jvm.Cond.code own_y38 method_5_code 4 (some .boolean) :: ws) ({ frames := 0, cells := 0, slots := 0, locals := 0 } : Room)) (fun a_ U_ => a_ = #[(.long tm), (.long q)] ∧ Z.Warmed39 U_.vm ∧ U_.heap = h0) (fun _ _ _ _ _ => True) (fun _ U_ o_ U2_ => ∃ v_ L_, o_ = .returned v_ ∧ Q_rmBey1 Z tm q h0 n0 v_ U2_.heap L_ ∧ FrameEnd U_ o_ U2_ L_ ({ frames := 0, cells := 0, slots := 0, locals := 0 } : Room).cells ({ frames := 0, cells := 0, slots := 0, locals := 0 } : Room).slots) := by
  refine MetFree.of_bodySF (plainFor_of_name pn_4) hisR ?_
  intro p e s m args below meth c s₁ Bd hml0 hP hK
  obtain ⟨rfl, hZ, hh⟩ := hP
  have hx := Bd.exec
  have hby := Bd.bytes
  have hml : c.maxLocals = 4 := hml0
  have hown : s.vm.findClass "com/example/firmline/firmline/analysis/InterferenceNextReleasePinLaw" = some m.cls := findClass_of_methodNamed Bd.named
  have hnm := (name_of_methodNamed Bd.named Bd.method).1
  have X0 : Stand p l e ({ frames := 0, cells := 0, slots := 0, locals := 0 } : Room) s m #[(.long tm), (.long q)] below meth c s₁ [] 0 0 := Stand.of_body Bd
  have e0 : s₁.heap = h0 := by rw [← hh, Bd.state]; rfl
  have N0 := Fr.nil n0
  refine own_go (A := s₁.setTop (mkF m 0 #[.val (.long tm), .second, .val (.long q), .second] [])) (fun t_ k_ => castTop (ef_rmBey1 m tm q) k_) ?_
  refine own_go (A := s₁.setTop (mkF m 17 #[.val (.long tm), .second, .val (.long q), .second] [(.int (1 : Int32))])) (fun t_ k_ => ?_) ?_
  · show Steps p.tables e below (s₁.setTop (mkF m 0 #[.val (.long tm), .second, .val (.long q), .second] [])) t_
    refine Jvm.Stand.ldc2J X0 hx hown (mvT hZ (own_w hw 0 rfl)) (g := (mkF m 0 #[.val (.long tm), .second, .val (.long q), .second] [])) rfl (hb hby d37_0) ?_
    show Steps p.tables e below (s₁.setTop (mkF m 3 #[.val (.long tm), .second, .val (.long q), .second] [(.long (9223372036854775807 : Int64))])) t_
    refine XS.lloadN X0.here hx rfl (hb hby d37_3) rfl ?_
    show Steps p.tables e below (s₁.setTop (mkF m 4 #[.val (.long tm), .second, .val (.long q), .second] [(.long q), (.long (9223372036854775807 : Int64))])) t_
    refine XS.ldiv X0.here hx rfl (hb hby d37_4) rfl hnz ?_
    show Steps p.tables e below (s₁.setTop (mkF m 5 #[.val (.long tm), .second, .val (.long q), .second] [(.long ((9223372036854775807 : Int64) / q))])) t_
    refine XS.lloadN X0.here hx rfl (hb hby d37_5) rfl ?_
    show Steps p.tables e below (s₁.setTop (mkF m 6 #[.val (.long tm), .second, .val (.long q), .second] [(.long q), (.long ((9223372036854775807 : Int64) / q))])) t_
    refine XS.lmul X0.here hx rfl (hb hby d37_6) rfl ?_
    show Steps p.tables e below (s₁.setTop (mkF m 7 #[.val (.long tm), .second, .val (.long q), .second] [(.long (((9223372036854775807 : Int64) / q) * q))])) t_
    refine XS.lloadN X0.here hx rfl (hb hby d37_7) rfl ?_
    show Steps p.tables e below (s₁.setTop (mkF m 8 #[.val (.long tm), .second, .val (.long q), .second] [(.long tm), (.long (((9223372036854775807 : Int64) / q) * q))])) t_
    refine XS.lcmp X0.here hx rfl (hb hby d37_8) rfl ?_
    show Steps p.tables e below (s₁.setTop (mkF m 9 #[.val (.long tm), .second, .val (.long q), .second] [(.int (lcmpW (((9223372036854775807 : Int64) / q) * q) tm))])) t_
    refine XS.ifNo X0.here hx rfl (hb hby d37_9) rfl ((if0 _ _).trans (tlt ((lw_lt _ _).mpr hbe)).2.1) ?_
    show Steps p.tables e below (s₁.setTop (mkF m 12 #[.val (.long tm), .second, .val (.long q), .second] [])) t_
    refine XS.iconst X0.here hx rfl (hb hby d37_12) ?_
    show Steps p.tables e below (s₁.setTop (mkF m 13 #[.val (.long tm), .second, .val (.long q), .second] [(.int (1 : Int32))])) t_
    refine XS.goto X0.here hx rfl (pc0 := 13) (pc' := 17) rfl (hb hby d37_13) (by decide) (by decide) ?_
    exact k_
  obtain ⟨fs1, hr1, hrun1, hended1, hW1, hsame1⟩ := X0.leave (v := some (.int (1 : Int32))) (fun h => by rw [Bd.returns] at h; cases h)
  refine ⟨_, _, ?_, hrun1, hended1, _, _, rfl, ?_, ⟨_, rfl⟩, hW1, hsame1.mono (by decide) (by decide)⟩
  · exact retN X0 hx (t := .boolean) Bd.returns (by simp) (hb hby d37_17) hr1
  · show Q_rmBey1 Z tm q h0 n0 _ s₁.heap _
    rw [e0]
    exact ⟨rfl, N0, rfl⟩
theorem d37_16 : decode method_5_code 16 = .ok (.iconst 0, 1) := by decide +kernel
theorem ef_rmBeyX (m : MethodId) (tm : Int64) (q : Int64) : entryFrame m #[(.long tm), (.long q)] 4 = mkF m 0 #[.val (.long tm), .second, .val (.long q), .second] [] := by first | (simp [entryFrame, mkF, argsToLocals, Value.category]; done) | rfl
def Q_rmBeyX (Z : State) (tm : Int64) (q : Int64) (h0 : Heap) (n0 : Nat) (v_ : Option Value) (h_ : Heap) (L_ : List Loc) : Prop := ∃ bo : Int32, v_ = some (.int bo) ∧ Fr n0 L_ ∧ h_ = h0
set_option maxRecDepth 65536 in
set_option maxHeartbeats 40000000 in
theorem rmBeyX (l : Launch) (Z : State) (a0 : Array Value) (hw : ∀ d ∈ tables_1, d.before a0 Z = true) (ws : List Jvm.Cond) (tm : Int64) (q : Int64) (h0 : Heap) (n0 : Nat) (Z0 : n0 ≤ h0.size) (hnz : ¬ (q = (0 : Int64))) :
    MetFree l own_y38 (head1 (Jvm.Cond.code own_y38 method_5_code 4 (some .boolean) :: ws) ({ frames := 0, cells := 0, slots := 0, locals := 0 } : Room)) (fun a_ U_ => a_ = #[(.long tm), (.long q)] ∧ Z.Warmed39 U_.vm ∧ U_.heap = h0) (fun _ _ _ _ _ => True) (fun _ U_ o_ U2_ => ∃ v_ L_, o_ = .returned v_ ∧ Q_rmBeyX Z tm q h0 n0 v_ U2_.heap L_ ∧ FrameEnd U_ o_ U2_ L_ ({ frames := 0, cells := 0, slots := 0, locals := 0 } : Room).cells ({ frames := 0, cells := 0, slots := 0, locals := 0 } : Room).slots) := by
  refine MetFree.of_bodySF (plainFor_of_name pn_4) hisR ?_
  intro p e s m args below meth c s₁ Bd hml0 hP hK
  obtain ⟨rfl, hZ, hh⟩ := hP
  have hx := Bd.exec
  have hby := Bd.bytes
  have hml : c.maxLocals = 4 := hml0
  have hown : s.vm.findClass "com/example/firmline/firmline/analysis/InterferenceNextReleasePinLaw" = some m.cls := findClass_of_methodNamed Bd.named
  have hnm := (name_of_methodNamed Bd.named Bd.method).1
  have X0 : Stand p l e ({ frames := 0, cells := 0, slots := 0, locals := 0 } : Room) s m #[(.long tm), (.long q)] below meth c s₁ [] 0 0 := Stand.of_body Bd
  have e0 : s₁.heap = h0 := by rw [← hh, Bd.state]; rfl
  have N0 := Fr.nil n0
  refine own_go (A := s₁.setTop (mkF m 0 #[.val (.long tm), .second, .val (.long q), .second] [])) (fun t_ k_ => castTop (ef_rmBeyX m tm q) k_) ?_
  refine own_go (A := s₁.setTop (mkF m 9 #[.val (.long tm), .second, .val (.long q), .second] [(.int (lcmpW (((9223372036854775807 : Int64) / q) * q) tm))])) (fun t_ k_ => ?_) ?_
  · show Steps p.tables e below (s₁.setTop (mkF m 0 #[.val (.long tm), .second, .val (.long q), .second] [])) t_
    refine Jvm.Stand.ldc2J X0 hx hown (mvT hZ (own_w hw 0 rfl)) (g := (mkF m 0 #[.val (.long tm), .second, .val (.long q), .second] [])) rfl (hb hby d37_0) ?_
    show Steps p.tables e below (s₁.setTop (mkF m 3 #[.val (.long tm), .second, .val (.long q), .second] [(.long (9223372036854775807 : Int64))])) t_
    refine XS.lloadN X0.here hx rfl (hb hby d37_3) rfl ?_
    show Steps p.tables e below (s₁.setTop (mkF m 4 #[.val (.long tm), .second, .val (.long q), .second] [(.long q), (.long (9223372036854775807 : Int64))])) t_
    refine XS.ldiv X0.here hx rfl (hb hby d37_4) rfl hnz ?_
    show Steps p.tables e below (s₁.setTop (mkF m 5 #[.val (.long tm), .second, .val (.long q), .second] [(.long ((9223372036854775807 : Int64) / q))])) t_
    refine XS.lloadN X0.here hx rfl (hb hby d37_5) rfl ?_
    show Steps p.tables e below (s₁.setTop (mkF m 6 #[.val (.long tm), .second, .val (.long q), .second] [(.long q), (.long ((9223372036854775807 : Int64) / q))])) t_
    refine XS.lmul X0.here hx rfl (hb hby d37_6) rfl ?_
    show Steps p.tables e below (s₁.setTop (mkF m 7 #[.val (.long tm), .second, .val (.long q), .second] [(.long (((9223372036854775807 : Int64) / q) * q))])) t_
    refine XS.lloadN X0.here hx rfl (hb hby d37_7) rfl ?_
    show Steps p.tables e below (s₁.setTop (mkF m 8 #[.val (.long tm), .second, .val (.long q), .second] [(.long tm), (.long (((9223372036854775807 : Int64) / q) * q))])) t_
    refine XS.lcmp X0.here hx rfl (hb hby d37_8) rfl ?_
    exact k_
  by_cases hc9_1 : (((9223372036854775807 : Int64) / q) * q) < tm
  · refine own_go (A := s₁.setTop (mkF m 17 #[.val (.long tm), .second, .val (.long q), .second] [(.int (1 : Int32))])) (fun t_ k_ => ?_) ?_
    · show Steps p.tables e below (s₁.setTop (mkF m 9 #[.val (.long tm), .second, .val (.long q), .second] [(.int (lcmpW (((9223372036854775807 : Int64) / q) * q) tm))])) t_
      refine XS.ifNo X0.here hx rfl (hb hby d37_9) rfl ((if0 _ _).trans (tlt ((lw_lt _ _).mpr hc9_1)).2.1) ?_
      show Steps p.tables e below (s₁.setTop (mkF m 12 #[.val (.long tm), .second, .val (.long q), .second] [])) t_
      refine XS.iconst X0.here hx rfl (hb hby d37_12) ?_
      show Steps p.tables e below (s₁.setTop (mkF m 13 #[.val (.long tm), .second, .val (.long q), .second] [(.int (1 : Int32))])) t_
      refine XS.goto X0.here hx rfl (pc0 := 13) (pc' := 17) rfl (hb hby d37_13) (by decide) (by decide) ?_
      exact k_
    obtain ⟨fs2, hr2, hrun2, hended2, hW2, hsame2⟩ := X0.leave (v := some (.int (1 : Int32))) (fun h => by rw [Bd.returns] at h; cases h)
    refine ⟨_, _, ?_, hrun2, hended2, _, _, rfl, ?_, ⟨_, rfl⟩, hW2, hsame2.mono (by decide) (by decide)⟩
    · exact retN X0 hx (t := .boolean) Bd.returns (by simp) (hb hby d37_17) hr2
    · show Q_rmBeyX Z tm q h0 n0 _ s₁.heap _
      rw [e0]
      exact ⟨(1 : Int32), rfl, N0, rfl⟩
  · refine own_go (A := s₁.setTop (mkF m 17 #[.val (.long tm), .second, .val (.long q), .second] [(.int (0 : Int32))])) (fun t_ k_ => ?_) ?_
    · show Steps p.tables e below (s₁.setTop (mkF m 9 #[.val (.long tm), .second, .val (.long q), .second] [(.int (lcmpW (((9223372036854775807 : Int64) / q) * q) tm))])) t_
      refine XS.ifYes X0.here hx rfl (pc0 := 9) (pc' := 16) rfl (hb hby d37_9) rfl ((if0 _ _).trans (flt (fun q => hc9_1 ((lw_lt _ _).mp q))).2.1) (by decide) (by decide) ?_
      show Steps p.tables e below (s₁.setTop (mkF m 16 #[.val (.long tm), .second, .val (.long q), .second] [])) t_
      refine XS.iconst X0.here hx rfl (hb hby d37_16) ?_
      exact k_
    obtain ⟨fs3, hr3, hrun3, hended3, hW3, hsame3⟩ := X0.leave (v := some (.int (0 : Int32))) (fun h => by rw [Bd.returns] at h; cases h)
    refine ⟨_, _, ?_, hrun3, hended3, _, _, rfl, ?_, ⟨_, rfl⟩, hW3, hsame3.mono (by decide) (by decide)⟩
    · exact retN X0 hx (t := .boolean) Bd.returns (by simp) (hb hby d37_17) hr3
    · show Q_rmBeyX Z tm q h0 n0 _ s₁.heap _
      rw [e0]
      exact ⟨(0 : Int32), rfl, N0, rfl⟩
theorem own_up {x a b : Int32} (h : x < a) (hab : a.toInt ≤ b.toInt) : x < b := by
  rw [Int32.lt_iff_toInt_lt] at *; omega
theorem own_nle {x y : Int64} (h : x.toInt ≤ y.toInt) : ¬ (y < x) := by rw [Int64.lt_iff_toInt_lt]; omega
def own_QG (w : Int32) (t r p0 p1 p2 : Int64) : Prop := t.toInt ≤ r.toInt ∧ (¬ (w < (1 : Int32)) → ((r - (1 : Int64)) / p0) = ((t - (1 : Int64)) / p0)) ∧ (¬ (w < (2 : Int32)) → ((r - (1 : Int64)) / p1) = ((t - (1 : Int64)) / p1)) ∧ (¬ (w < (3 : Int32)) → ((r - (1 : Int64)) / p2) = ((t - (1 : Int64)) / p2))
def own_CG (w : Int32) (t r p0 p1 p2 : Int64) : Prop := (¬ (w < (1 : Int32)) → ¬ ((r - (r / p0) * p0) = (0 : Int64))) → (¬ (w < (2 : Int32)) → ¬ ((r - (r / p1) * p1) = (0 : Int64))) → (¬ (w < (3 : Int32)) → ¬ ((r - (r / p2) * p2) = (0 : Int64))) → r = (9223372036854775807 : Int64) ∧ (¬ (w < (1 : Int32)) → (((9223372036854775807 : Int64) / p0) * p0) < t) ∧ (¬ (w < (2 : Int32)) → (((9223372036854775807 : Int64) / p1) * p1) < t) ∧ (¬ (w < (3 : Int32)) → (((9223372036854775807 : Int64) / p2) * p2) < t)
theorem own_ge0 {t r  : Int64}  (o : r = (9223372036854775807 : Int64)) : t.toInt ≤ r.toInt := by
  rcases o with rfl
  · rw [own_iM]; have := rng64 t; omega
theorem own_qg0 {w : Int32} {t r p0 p1 p2  : Int64} (ht : 1 ≤ t.toInt)    (o : r = (9223372036854775807 : Int64)) (cl : w < (1 : Int32)) : own_QG w t r p0 p1 p2 :=
  have g := own_ge0  o
  ⟨g, (fun h => absurd (own_up cl (by decide)) h), (fun h => absurd (own_up cl (by decide)) h), (fun h => absurd (own_up cl (by decide)) h)⟩
theorem own_cg0 {w : Int32} {t r p0 p1 p2  : Int64} (ht : 1 ≤ t.toInt)    (o : r = (9223372036854775807 : Int64)) (cl : w < (1 : Int32)) : own_CG w t r p0 p1 p2 := by
  intro d0 d1 d2
  have hr : r.toInt = 9223372036854775807 := by
    rcases o with rfl
    · exact own_iM
  exact ⟨Int64.toInt_inj.mp (hr.trans own_iM.symm), (fun h => absurd (own_up cl (by decide)) h), (fun h => absurd (own_up cl (by decide)) h), (fun h => absurd (own_up cl (by decide)) h)⟩
theorem own_ge1 {t r p0 x0 : Int64} (n0 : own_NR t p0 x0) (o : r = x0 ∨ r = (9223372036854775807 : Int64)) : t.toInt ≤ r.toInt := by
  rcases o with rfl | rfl
  · exact n0.1
  · rw [own_iM]; have := rng64 t; omega
theorem own_qg1 {w : Int32} {t r p0 p1 p2 x0 : Int64} (ht : 1 ≤ t.toInt) (b0 : 1 ≤ p0.toInt ∧ p0.toInt ≤ 1000000000000000) (n0 : own_NR t p0 x0) (l0 : r.toInt ≤ x0.toInt) (o : r = x0 ∨ r = (9223372036854775807 : Int64)) (c0 : ¬ (w < (1 : Int32))) (cl : w < (2 : Int32)) : own_QG w t r p0 p1 p2 :=
  have g := own_ge1 n0 o
  ⟨g, fun _ => own_qt ht b0 n0 g l0, (fun h => absurd (own_up cl (by decide)) h), (fun h => absurd (own_up cl (by decide)) h)⟩
theorem own_cg1 {w : Int32} {t r p0 p1 p2 x0 : Int64} (ht : 1 ≤ t.toInt) (b0 : 1 ≤ p0.toInt ∧ p0.toInt ≤ 1000000000000000) (n0 : own_NR t p0 x0) (l0 : r.toInt ≤ x0.toInt) (o : r = x0 ∨ r = (9223372036854775807 : Int64)) (c0 : ¬ (w < (1 : Int32))) (cl : w < (2 : Int32)) : own_CG w t r p0 p1 p2 := by
  intro d0 d1 d2
  have hr : r.toInt = 9223372036854775807 := by
    rcases o with rfl | rfl
    · exact (own_hit b0 ht n0 (d0 c0)).1
    · exact own_iM
  exact ⟨Int64.toInt_inj.mp (hr.trans own_iM.symm), fun _ => own_bey b0 (own_hit b0 ht (own_rr n0 hr l0) (d0 c0)).2, (fun h => absurd (own_up cl (by decide)) h), (fun h => absurd (own_up cl (by decide)) h)⟩
theorem own_ge2 {t r p0 p1 x0 x1 : Int64} (n0 : own_NR t p0 x0) (n1 : own_NR t p1 x1) (o : r = x0 ∨ r = x1 ∨ r = (9223372036854775807 : Int64)) : t.toInt ≤ r.toInt := by
  rcases o with rfl | rfl | rfl
  · exact n0.1
  · exact n1.1
  · rw [own_iM]; have := rng64 t; omega
theorem own_qg2 {w : Int32} {t r p0 p1 p2 x0 x1 : Int64} (ht : 1 ≤ t.toInt) (b0 : 1 ≤ p0.toInt ∧ p0.toInt ≤ 1000000000000000) (b1 : 1 ≤ p1.toInt ∧ p1.toInt ≤ 1000000000000000) (n0 : own_NR t p0 x0) (n1 : own_NR t p1 x1) (l0 : r.toInt ≤ x0.toInt) (l1 : r.toInt ≤ x1.toInt) (o : r = x0 ∨ r = x1 ∨ r = (9223372036854775807 : Int64)) (c0 : ¬ (w < (1 : Int32))) (c1 : ¬ (w < (2 : Int32))) (cl : w < (3 : Int32)) : own_QG w t r p0 p1 p2 :=
  have g := own_ge2 n0 n1 o
  ⟨g, fun _ => own_qt ht b0 n0 g l0, fun _ => own_qt ht b1 n1 g l1, (fun h => absurd (own_up cl (by decide)) h)⟩
theorem own_cg2 {w : Int32} {t r p0 p1 p2 x0 x1 : Int64} (ht : 1 ≤ t.toInt) (b0 : 1 ≤ p0.toInt ∧ p0.toInt ≤ 1000000000000000) (b1 : 1 ≤ p1.toInt ∧ p1.toInt ≤ 1000000000000000) (n0 : own_NR t p0 x0) (n1 : own_NR t p1 x1) (l0 : r.toInt ≤ x0.toInt) (l1 : r.toInt ≤ x1.toInt) (o : r = x0 ∨ r = x1 ∨ r = (9223372036854775807 : Int64)) (c0 : ¬ (w < (1 : Int32))) (c1 : ¬ (w < (2 : Int32))) (cl : w < (3 : Int32)) : own_CG w t r p0 p1 p2 := by
  intro d0 d1 d2
  have hr : r.toInt = 9223372036854775807 := by
    rcases o with rfl | rfl | rfl
    · exact (own_hit b0 ht n0 (d0 c0)).1
    · exact (own_hit b1 ht n1 (d1 c1)).1
    · exact own_iM
  exact ⟨Int64.toInt_inj.mp (hr.trans own_iM.symm), fun _ => own_bey b0 (own_hit b0 ht (own_rr n0 hr l0) (d0 c0)).2, fun _ => own_bey b1 (own_hit b1 ht (own_rr n1 hr l1) (d1 c1)).2, (fun h => absurd (own_up cl (by decide)) h)⟩
theorem own_ge3 {t r p0 p1 p2 x0 x1 x2 : Int64} (n0 : own_NR t p0 x0) (n1 : own_NR t p1 x1) (n2 : own_NR t p2 x2) (o : r = x0 ∨ r = x1 ∨ r = x2 ∨ r = (9223372036854775807 : Int64)) : t.toInt ≤ r.toInt := by
  rcases o with rfl | rfl | rfl | rfl
  · exact n0.1
  · exact n1.1
  · exact n2.1
  · rw [own_iM]; have := rng64 t; omega
theorem own_qg3 {w : Int32} {t r p0 p1 p2 x0 x1 x2 : Int64} (ht : 1 ≤ t.toInt) (b0 : 1 ≤ p0.toInt ∧ p0.toInt ≤ 1000000000000000) (b1 : 1 ≤ p1.toInt ∧ p1.toInt ≤ 1000000000000000) (b2 : 1 ≤ p2.toInt ∧ p2.toInt ≤ 1000000000000000) (n0 : own_NR t p0 x0) (n1 : own_NR t p1 x1) (n2 : own_NR t p2 x2) (l0 : r.toInt ≤ x0.toInt) (l1 : r.toInt ≤ x1.toInt) (l2 : r.toInt ≤ x2.toInt) (o : r = x0 ∨ r = x1 ∨ r = x2 ∨ r = (9223372036854775807 : Int64)) (c0 : ¬ (w < (1 : Int32))) (c1 : ¬ (w < (2 : Int32))) (c2 : ¬ (w < (3 : Int32))) : own_QG w t r p0 p1 p2 :=
  have g := own_ge3 n0 n1 n2 o
  ⟨g, fun _ => own_qt ht b0 n0 g l0, fun _ => own_qt ht b1 n1 g l1, fun _ => own_qt ht b2 n2 g l2⟩
theorem own_cg3 {w : Int32} {t r p0 p1 p2 x0 x1 x2 : Int64} (ht : 1 ≤ t.toInt) (b0 : 1 ≤ p0.toInt ∧ p0.toInt ≤ 1000000000000000) (b1 : 1 ≤ p1.toInt ∧ p1.toInt ≤ 1000000000000000) (b2 : 1 ≤ p2.toInt ∧ p2.toInt ≤ 1000000000000000) (n0 : own_NR t p0 x0) (n1 : own_NR t p1 x1) (n2 : own_NR t p2 x2) (l0 : r.toInt ≤ x0.toInt) (l1 : r.toInt ≤ x1.toInt) (l2 : r.toInt ≤ x2.toInt) (o : r = x0 ∨ r = x1 ∨ r = x2 ∨ r = (9223372036854775807 : Int64)) (c0 : ¬ (w < (1 : Int32))) (c1 : ¬ (w < (2 : Int32))) (c2 : ¬ (w < (3 : Int32))) : own_CG w t r p0 p1 p2 := by
  intro d0 d1 d2
  have hr : r.toInt = 9223372036854775807 := by
    rcases o with rfl | rfl | rfl | rfl
    · exact (own_hit b0 ht n0 (d0 c0)).1
    · exact (own_hit b1 ht n1 (d1 c1)).1
    · exact (own_hit b2 ht n2 (d2 c2)).1
    · exact own_iM
  exact ⟨Int64.toInt_inj.mp (hr.trans own_iM.symm), fun _ => own_bey b0 (own_hit b0 ht (own_rr n0 hr l0) (d0 c0)).2, fun _ => own_bey b1 (own_hit b1 ht (own_rr n1 hr l1) (d1 c1)).2, fun _ => own_bey b2 (own_hit b2 ht (own_rr n2 hr l2) (d2 c2)).2⟩
theorem pd_21 : parseMethodDescriptor "(J)J" = some ⟨[.long], some .long⟩ := by decide +kernel
theorem pd_22 : parseMethodDescriptor "(Ljava/util/List;J)J" = some ⟨[(.object "java/util/List"), .long], some .long⟩ := by decide +kernel
def Q_rm0 (Z : State) (q1 : Int64) (q2 : Int64) (q3 : Int64) (q4 : Int64) (p5 : Int32) (cs : Int32) (sf : Value) (dc : Addr) (kd : ClassId) (h0 : Heap) (n0 : Nat) (v_ : Option Value) (h_ : Heap) (L_ : List Loc) : Prop := v_ = some (.int (1 : Int32)) ∧ Fr n0 L_ ∧ Keep h0 h_ []
theorem pd_23 : parseMethodDescriptor "(JJ)Z" = some ⟨[.long, .long], some .boolean⟩ := by decide +kernel
set_option maxRecDepth 65536 in
set_option maxHeartbeats 40000000 in
theorem own_n297 (l : Launch) (Z : State) (a0 : Array Value) (hw : ∀ d ∈ tables_1, d.before a0 Z = true) (q1 : Int64) (q2 : Int64) (q3 : Int64) (q4 : Int64) (p5 : Int32) (cs : Int32) (sf : Value) (dc : Addr) (kd : ClassId) (r_1 : Int64) (y2 : Int32) (r_3 : Int64) (r_4 : Int64) (r_5 : Int64) (b6 : Addr) (r_11 : Int64) (h0 : Heap) (n0 : Nat) (Z0 : n0 ≤ h0.size) {p : Program} {e : Env} {s : State} {m : MethodId} {below : List Frame} {meth : Method} {c : Code} {Tc : State} {Hc : Heap} {locsc : List Loc} {vmc : Vm} {kc0 : Nat} {cc_ sc_ : Nat} (Xc : Stand p l e room_1 (s.setVm vmc) m #[(.long q1), (.long q2), (.long q3), (.long q4), (.int p5)] below meth c Tc locsc cc_ sc_) (hx : p.tables.exec = Jvm.exec) (hZ : Z.Warmed39 (s.setVm vmc).vm) (hby : c.code = code) (hml : c.maxLocals = 24) (hown : (s.setVm vmc).vm.findClass "com/example/firmline/firmline/analysis/InterferenceNextReleasePinLaw" = some m.cls) (hret : meth.sig.returnType = some .boolean) (hlk : meth.locks = false) (hh : s.heap = h0) (ec : Tc.heap = Hc) (Nc : Fr n0 locsc) (Kc0 : Keep h0 Hc []) (Oc : Old Z n0 Hc) (hS : s.Since vmc kc0) (hk : kc0 ≤ Hc.size) (hSA : ∀ a ∈ Bundle.stringAtoms, a.before a0 Z = true) (hEL : EW Z a0 own_EL) (Rc : CHr Z own_EL s.vm h0 vmc Hc) (hcc_ : cc_ ≤ room_1.cells) (hsc_ : sc_ ≤ room_1.slots) (hcs : ¬ (cs = (0 : Int32))) (hsf : sf.isRef = true) (hbd0 : 1 ≤ r_3.toInt ∧ r_3.toInt ≤ 1000000000000000) (hbd1 : 1 ≤ r_4.toInt ∧ r_4.toInt ≤ 1000000000000000) (hbd2 : 1 ≤ r_5.toInt ∧ r_5.toInt ≤ 1000000000000000) (hEN : r_11 = (9223372036854775807 : Int64) ∧ (¬ (y2 < (1 : Int32)) → (((9223372036854775807 : Int64) / r_3) * r_3) < r_1) ∧ (¬ (y2 < (2 : Int32)) → (((9223372036854775807 : Int64) / r_4) * r_4) < r_1) ∧ (¬ (y2 < (3 : Int32)) → (((9223372036854775807 : Int64) / r_5) * r_5) < r_1)) :
    ∃ U_ o_, Steps p.tables e below (Tc.setTop (mkF m 297 #[.val (.long q1), .second, .val (.long q2), .second, .val (.long q3), .second, .val (.long q4), .second, .val (.int p5), .val (.long r_1), .second, .val (.int y2), .val (.long r_3), .second, .val (.long r_4), .second, .val (.long r_5), .second, .val (.ref b6), .val (.long r_11), .second, .val (.int (1 : Int32)), .val (.int (0 : Int32)), .unset] [])) U_ ∧ U_.status = .running ∧ Ended U_ below o_ ∧ (∃ v_ L_, o_ = .returned v_ ∧ Q_rm0 Z q1 q2 q3 q4 p5 cs sf dc kd h0 n0 v_ U_.heap L_ ∧ CHr Z own_EL s.vm s.heap U_.vm U_.heap ∧ ReturnedEndW s o_ U_ L_ room_1.cells room_1.slots) := by
  refine own_go (A := Tc.setTop (mkF m 300 #[.val (.long q1), .second, .val (.long q2), .second, .val (.long q3), .second, .val (.long q4), .second, .val (.int p5), .val (.long r_1), .second, .val (.int y2), .val (.long r_3), .second, .val (.long r_4), .second, .val (.long r_5), .second, .val (.ref b6), .val (.long r_11), .second, .val (.int (1 : Int32)), .val (.int (0 : Int32)), .unset] [(.int (3 : Int32)), (.int y2)])) (fun t_ k_ => ?_) ?_
  · show Steps p.tables e below (Tc.setTop (mkF m 297 #[.val (.long q1), .second, .val (.long q2), .second, .val (.long q3), .second, .val (.long q4), .second, .val (.int p5), .val (.long r_1), .second, .val (.int y2), .val (.long r_3), .second, .val (.long r_4), .second, .val (.long r_5), .second, .val (.ref b6), .val (.long r_11), .second, .val (.int (1 : Int32)), .val (.int (0 : Int32)), .unset] [])) t_
    refine XS.iload Xc.here hx rfl (hb hby at_297) rfl ?_
    show Steps p.tables e below (Tc.setTop (mkF m 299 #[.val (.long q1), .second, .val (.long q2), .second, .val (.long q3), .second, .val (.long q4), .second, .val (.int p5), .val (.long r_1), .second, .val (.int y2), .val (.long r_3), .second, .val (.long r_4), .second, .val (.long r_5), .second, .val (.ref b6), .val (.long r_11), .second, .val (.int (1 : Int32)), .val (.int (0 : Int32)), .unset] [(.int y2)])) t_
    refine XS.iconst Xc.here hx rfl (hb hby at_299) ?_
    exact k_
  by_cases hc300_21 : y2 < (3 : Int32)
  · refine own_go (A := Tc.setTop (mkF m 336 #[.val (.long q1), .second, .val (.long q2), .second, .val (.long q3), .second, .val (.long q4), .second, .val (.int p5), .val (.long r_1), .second, .val (.int y2), .val (.long r_3), .second, .val (.long r_4), .second, .val (.long r_5), .second, .val (.ref b6), .val (.long r_11), .second, .val (.int (1 : Int32)), .val (.int (0 : Int32)), .val (.int (1 : Int32))] [(.int (lcmpW r_11 (9223372036854775807 : Int64)))])) (fun t_ k_ => ?_) ?_
    · show Steps p.tables e below (Tc.setTop (mkF m 300 #[.val (.long q1), .second, .val (.long q2), .second, .val (.long q3), .second, .val (.long q4), .second, .val (.int p5), .val (.long r_1), .second, .val (.int y2), .val (.long r_3), .second, .val (.long r_4), .second, .val (.long r_5), .second, .val (.ref b6), .val (.long r_11), .second, .val (.int (1 : Int32)), .val (.int (0 : Int32)), .unset] [(.int (3 : Int32)), (.int y2)])) t_
      refine XS.icmpYes Xc.here hx rfl (pc0 := 300) (pc' := 313) rfl (hb hby at_300) rfl (tlt hc300_21).1 (by decide) (by decide) ?_
      show Steps p.tables e below (Tc.setTop (mkF m 313 #[.val (.long q1), .second, .val (.long q2), .second, .val (.long q3), .second, .val (.long q4), .second, .val (.int p5), .val (.long r_1), .second, .val (.int y2), .val (.long r_3), .second, .val (.long r_4), .second, .val (.long r_5), .second, .val (.ref b6), .val (.long r_11), .second, .val (.int (1 : Int32)), .val (.int (0 : Int32)), .unset] [])) t_
      refine XS.iconst Xc.here hx rfl (hb hby at_313) ?_
      show Steps p.tables e below (Tc.setTop (mkF m 314 #[.val (.long q1), .second, .val (.long q2), .second, .val (.long q3), .second, .val (.long q4), .second, .val (.int p5), .val (.long r_1), .second, .val (.int y2), .val (.long r_3), .second, .val (.long r_4), .second, .val (.long r_5), .second, .val (.ref b6), .val (.long r_11), .second, .val (.int (1 : Int32)), .val (.int (0 : Int32)), .unset] [(.int (1 : Int32))])) t_
      refine XS.goto Xc.here hx rfl (pc0 := 314) (pc' := 318) rfl (hb hby at_314) (by decide) (by decide) ?_
      show Steps p.tables e below (Tc.setTop (mkF m 318 #[.val (.long q1), .second, .val (.long q2), .second, .val (.long q3), .second, .val (.long q4), .second, .val (.int p5), .val (.long r_1), .second, .val (.int y2), .val (.long r_3), .second, .val (.long r_4), .second, .val (.long r_5), .second, .val (.ref b6), .val (.long r_11), .second, .val (.int (1 : Int32)), .val (.int (0 : Int32)), .unset] [(.int (1 : Int32))])) t_
      refine XS.istore Xc.here hx rfl (hb hby at_318) rfl (l' := #[.val (.long q1), .second, .val (.long q2), .second, .val (.long q3), .second, .val (.long q4), .second, .val (.int p5), .val (.long r_1), .second, .val (.int y2), .val (.long r_3), .second, .val (.long r_4), .second, .val (.long r_5), .second, .val (.ref b6), .val (.long r_11), .second, .val (.int (1 : Int32)), .val (.int (0 : Int32)), .val (.int (1 : Int32))]) rfl ?_
      show Steps p.tables e below (Tc.setTop (mkF m 320 #[.val (.long q1), .second, .val (.long q2), .second, .val (.long q3), .second, .val (.long q4), .second, .val (.int p5), .val (.long r_1), .second, .val (.int y2), .val (.long r_3), .second, .val (.long r_4), .second, .val (.long r_5), .second, .val (.ref b6), .val (.long r_11), .second, .val (.int (1 : Int32)), .val (.int (0 : Int32)), .val (.int (1 : Int32))] [])) t_
      refine XS.iload Xc.here hx rfl (hb hby at_320) rfl ?_
      show Steps p.tables e below (Tc.setTop (mkF m 322 #[.val (.long q1), .second, .val (.long q2), .second, .val (.long q3), .second, .val (.long q4), .second, .val (.int p5), .val (.long r_1), .second, .val (.int y2), .val (.long r_3), .second, .val (.long r_4), .second, .val (.long r_5), .second, .val (.ref b6), .val (.long r_11), .second, .val (.int (1 : Int32)), .val (.int (0 : Int32)), .val (.int (1 : Int32))] [(.int (1 : Int32))])) t_
      refine XS.ifNo Xc.here hx rfl (hb hby at_322) rfl ((if0 _ _).trans (feq (by decide : ¬ ((1 : Int32) = (0 : Int32)))).1) ?_
      show Steps p.tables e below (Tc.setTop (mkF m 325 #[.val (.long q1), .second, .val (.long q2), .second, .val (.long q3), .second, .val (.long q4), .second, .val (.int p5), .val (.long r_1), .second, .val (.int y2), .val (.long r_3), .second, .val (.long r_4), .second, .val (.long r_5), .second, .val (.ref b6), .val (.long r_11), .second, .val (.int (1 : Int32)), .val (.int (0 : Int32)), .val (.int (1 : Int32))] [])) t_
      refine XS.iload Xc.here hx rfl (hb hby at_325) rfl ?_
      show Steps p.tables e below (Tc.setTop (mkF m 327 #[.val (.long q1), .second, .val (.long q2), .second, .val (.long q3), .second, .val (.long q4), .second, .val (.int p5), .val (.long r_1), .second, .val (.int y2), .val (.long r_3), .second, .val (.long r_4), .second, .val (.long r_5), .second, .val (.ref b6), .val (.long r_11), .second, .val (.int (1 : Int32)), .val (.int (0 : Int32)), .val (.int (1 : Int32))] [(.int (0 : Int32))])) t_
      refine XS.ifNo Xc.here hx rfl (hb hby at_327) rfl ((if0 _ _).trans (teq (by decide : (0 : Int32) = (0 : Int32))).2) ?_
      show Steps p.tables e below (Tc.setTop (mkF m 330 #[.val (.long q1), .second, .val (.long q2), .second, .val (.long q3), .second, .val (.long q4), .second, .val (.int p5), .val (.long r_1), .second, .val (.int y2), .val (.long r_3), .second, .val (.long r_4), .second, .val (.long r_5), .second, .val (.ref b6), .val (.long r_11), .second, .val (.int (1 : Int32)), .val (.int (0 : Int32)), .val (.int (1 : Int32))] [])) t_
      refine XS.lload Xc.here hx rfl (hb hby at_330) rfl ?_
      show Steps p.tables e below (Tc.setTop (mkF m 332 #[.val (.long q1), .second, .val (.long q2), .second, .val (.long q3), .second, .val (.long q4), .second, .val (.int p5), .val (.long r_1), .second, .val (.int y2), .val (.long r_3), .second, .val (.long r_4), .second, .val (.long r_5), .second, .val (.ref b6), .val (.long r_11), .second, .val (.int (1 : Int32)), .val (.int (0 : Int32)), .val (.int (1 : Int32))] [(.long r_11)])) t_
      refine Jvm.Stand.ldc2J Xc hx hown (mvT hZ (own_w hw 0 rfl)) (g := (mkF m 332 #[.val (.long q1), .second, .val (.long q2), .second, .val (.long q3), .second, .val (.long q4), .second, .val (.int p5), .val (.long r_1), .second, .val (.int y2), .val (.long r_3), .second, .val (.long r_4), .second, .val (.long r_5), .second, .val (.ref b6), .val (.long r_11), .second, .val (.int (1 : Int32)), .val (.int (0 : Int32)), .val (.int (1 : Int32))] [(.long r_11)])) rfl (hb hby at_332) ?_
      show Steps p.tables e below (Tc.setTop (mkF m 335 #[.val (.long q1), .second, .val (.long q2), .second, .val (.long q3), .second, .val (.long q4), .second, .val (.int p5), .val (.long r_1), .second, .val (.int y2), .val (.long r_3), .second, .val (.long r_4), .second, .val (.long r_5), .second, .val (.ref b6), .val (.long r_11), .second, .val (.int (1 : Int32)), .val (.int (0 : Int32)), .val (.int (1 : Int32))] [(.long (9223372036854775807 : Int64)), (.long r_11)])) t_
      refine XS.lcmp Xc.here hx rfl (hb hby at_335) rfl ?_
      exact k_
    have hc336_22 : r_11 = (9223372036854775807 : Int64) := hEN.1
    refine own_go (A := Tc.setTop (mkF m 349 #[.val (.long q1), .second, .val (.long q2), .second, .val (.long q3), .second, .val (.long q4), .second, .val (.int p5), .val (.long r_1), .second, .val (.int y2), .val (.long r_3), .second, .val (.long r_4), .second, .val (.long r_5), .second, .val (.ref b6), .val (.long r_11), .second, .val (.int (1 : Int32)), .val (.int (0 : Int32)), .val (.int (1 : Int32))] [(.int (1 : Int32))])) (fun t_ k_ => ?_) ?_
    · show Steps p.tables e below (Tc.setTop (mkF m 336 #[.val (.long q1), .second, .val (.long q2), .second, .val (.long q3), .second, .val (.long q4), .second, .val (.int p5), .val (.long r_1), .second, .val (.int y2), .val (.long r_3), .second, .val (.long r_4), .second, .val (.long r_5), .second, .val (.ref b6), .val (.long r_11), .second, .val (.int (1 : Int32)), .val (.int (0 : Int32)), .val (.int (1 : Int32))] [(.int (lcmpW r_11 (9223372036854775807 : Int64)))])) t_
      refine XS.ifNo Xc.here hx rfl (hb hby at_336) rfl ((if0 _ _).trans (teq ((lw_eq _ _).mpr hc336_22)).2) ?_
      show Steps p.tables e below (Tc.setTop (mkF m 339 #[.val (.long q1), .second, .val (.long q2), .second, .val (.long q3), .second, .val (.long q4), .second, .val (.int p5), .val (.long r_1), .second, .val (.int y2), .val (.long r_3), .second, .val (.long r_4), .second, .val (.long r_5), .second, .val (.ref b6), .val (.long r_11), .second, .val (.int (1 : Int32)), .val (.int (0 : Int32)), .val (.int (1 : Int32))] [])) t_
      refine XS.iload Xc.here hx rfl (hb hby at_339) rfl ?_
      show Steps p.tables e below (Tc.setTop (mkF m 341 #[.val (.long q1), .second, .val (.long q2), .second, .val (.long q3), .second, .val (.long q4), .second, .val (.int p5), .val (.long r_1), .second, .val (.int y2), .val (.long r_3), .second, .val (.long r_4), .second, .val (.long r_5), .second, .val (.ref b6), .val (.long r_11), .second, .val (.int (1 : Int32)), .val (.int (0 : Int32)), .val (.int (1 : Int32))] [(.int (1 : Int32))])) t_
      refine XS.ifNo Xc.here hx rfl (hb hby at_341) rfl ((if0 _ _).trans (feq (by decide : ¬ ((1 : Int32) = (0 : Int32)))).1) ?_
      show Steps p.tables e below (Tc.setTop (mkF m 344 #[.val (.long q1), .second, .val (.long q2), .second, .val (.long q3), .second, .val (.long q4), .second, .val (.int p5), .val (.long r_1), .second, .val (.int y2), .val (.long r_3), .second, .val (.long r_4), .second, .val (.long r_5), .second, .val (.ref b6), .val (.long r_11), .second, .val (.int (1 : Int32)), .val (.int (0 : Int32)), .val (.int (1 : Int32))] [])) t_
      refine XS.iconst Xc.here hx rfl (hb hby at_344) ?_
      show Steps p.tables e below (Tc.setTop (mkF m 345 #[.val (.long q1), .second, .val (.long q2), .second, .val (.long q3), .second, .val (.long q4), .second, .val (.int p5), .val (.long r_1), .second, .val (.int y2), .val (.long r_3), .second, .val (.long r_4), .second, .val (.long r_5), .second, .val (.ref b6), .val (.long r_11), .second, .val (.int (1 : Int32)), .val (.int (0 : Int32)), .val (.int (1 : Int32))] [(.int (1 : Int32))])) t_
      refine XS.goto Xc.here hx rfl (pc0 := 345) (pc' := 349) rfl (hb hby at_345) (by decide) (by decide) ?_
      exact k_
    obtain ⟨fs23, hr23, hrun23, hended23, hRW23⟩ := Xc.leaveW hS (by rw [ec]; exact hk) (v := some (.int (1 : Int32))) (fun h => by rw [hret] at h; cases h)
    refine ⟨_, _, ?_, hrun23, hended23, _, _, rfl, ?_, ?_, hRW23.1, hRW23.2.1, hRW23.2.2.1, hRW23.2.2.2.mono hcc_ hsc_⟩
    · exact retN Xc hx (t := .boolean) hret (by simp) (hb hby at_349) hr23
    · show Q_rm0 Z q1 q2 q3 q4 p5 cs sf dc kd h0 n0 _ Tc.heap _
      rw [ec]
      exact ⟨rfl, Nc, Kc0⟩
    · show CHr Z own_EL s.vm s.heap Tc.vm Tc.heap
      rw [hh, ec]
      exact Rc.trans (CHv.at Xc hZ hEL Rc.1)
  · refine own_go (A := Tc.setTop (mkF m 307 #[.val (.long q1), .second, .val (.long q2), .second, .val (.long q3), .second, .val (.long q4), .second, .val (.int p5), .val (.long r_1), .second, .val (.int y2), .val (.long r_3), .second, .val (.long r_4), .second, .val (.long r_5), .second, .val (.ref b6), .val (.long r_11), .second, .val (.int (1 : Int32)), .val (.int (0 : Int32)), .unset] [(.long r_5), (.long r_1)])) (fun t_ k_ => ?_) ?_
    · show Steps p.tables e below (Tc.setTop (mkF m 300 #[.val (.long q1), .second, .val (.long q2), .second, .val (.long q3), .second, .val (.long q4), .second, .val (.int p5), .val (.long r_1), .second, .val (.int y2), .val (.long r_3), .second, .val (.long r_4), .second, .val (.long r_5), .second, .val (.ref b6), .val (.long r_11), .second, .val (.int (1 : Int32)), .val (.int (0 : Int32)), .unset] [(.int (3 : Int32)), (.int y2)])) t_
      refine XS.icmpNo Xc.here hx rfl (hb hby at_300) rfl (flt hc300_21).1 ?_
      show Steps p.tables e below (Tc.setTop (mkF m 303 #[.val (.long q1), .second, .val (.long q2), .second, .val (.long q3), .second, .val (.long q4), .second, .val (.int p5), .val (.long r_1), .second, .val (.int y2), .val (.long r_3), .second, .val (.long r_4), .second, .val (.long r_5), .second, .val (.ref b6), .val (.long r_11), .second, .val (.int (1 : Int32)), .val (.int (0 : Int32)), .unset] [])) t_
      refine XS.lload Xc.here hx rfl (hb hby at_303) rfl ?_
      show Steps p.tables e below (Tc.setTop (mkF m 305 #[.val (.long q1), .second, .val (.long q2), .second, .val (.long q3), .second, .val (.long q4), .second, .val (.int p5), .val (.long r_1), .second, .val (.int y2), .val (.long r_3), .second, .val (.long r_4), .second, .val (.long r_5), .second, .val (.ref b6), .val (.long r_11), .second, .val (.int (1 : Int32)), .val (.int (0 : Int32)), .unset] [(.long r_1)])) t_
      refine XS.lload Xc.here hx rfl (hb hby at_305) rfl ?_
      exact k_
    obtain ⟨_, _, ⟨T24, L24, k24, n24⟩, -, X24, ⟨Lc24, hQ24, l24, y24, z24⟩, st24⟩ := Jvm.LawKit.callS Xc hx (y := own_y38) hown (mvT hZ (own_w hw 235 rfl)) (mvT hZ (own_w hw 236 rfl)) (mvT hZ (own_w hw 7 rfl)) (mvT hZ (own_w hw 237 rfl)) (by decide) (backOf (W := 0) (rmBey1 l Z a0 hw [] r_1 r_5 Hc n0 (Nat.le_trans Z0 Kc0.1) (own_nz hbd2) (hEN.2.2.2 hc300_21)) hZ (own_w hw 237 rfl) (own_w hw 7 rfl) (by decide) (by decide)) (g := (mkF m 307 #[.val (.long q1), .second, .val (.long q2), .second, .val (.long q3), .second, .val (.long q4), .second, .val (.int p5), .val (.long r_1), .second, .val (.int y2), .val (.long r_3), .second, .val (.long r_4), .second, .val (.long r_5), .second, .val (.ref b6), .val (.long r_11), .second, .val (.int (1 : Int32)), .val (.int (0 : Int32)), .unset] [(.long r_5), (.long r_1)])) rfl (by rw [hml]; rfl) (argsL := [(.long r_1), (.long r_5)]) (rest := []) (lenOf pd_23 rfl) rfl (by show 2 * 0 + _ ≤ _; exact Nat.le_of_eq rfl) (hb hby at_307) (fun _ _ => ⟨rfl, ec, hcc_, hsc_⟩)
    dsimp only [Pt.U, Pt.locs, Pt.cells, Pt.slots] at X24 l24 y24 z24 st24 hQ24
    subst l24 y24 z24
    obtain ⟨rfl, N24q, eh24⟩ := hQ24
    have N24 := Fr.app Nc N24q
    refine own_go st24 ?_
    refine own_go (A := T24.setTop (mkF m 336 #[.val (.long q1), .second, .val (.long q2), .second, .val (.long q3), .second, .val (.long q4), .second, .val (.int p5), .val (.long r_1), .second, .val (.int y2), .val (.long r_3), .second, .val (.long r_4), .second, .val (.long r_5), .second, .val (.ref b6), .val (.long r_11), .second, .val (.int (1 : Int32)), .val (.int (0 : Int32)), .val (.int (1 : Int32))] [(.int (lcmpW r_11 (9223372036854775807 : Int64)))])) (fun t_ k_ => ?_) ?_
    · show Steps p.tables e below (T24.setTop (mkF m 310 #[.val (.long q1), .second, .val (.long q2), .second, .val (.long q3), .second, .val (.long q4), .second, .val (.int p5), .val (.long r_1), .second, .val (.int y2), .val (.long r_3), .second, .val (.long r_4), .second, .val (.long r_5), .second, .val (.ref b6), .val (.long r_11), .second, .val (.int (1 : Int32)), .val (.int (0 : Int32)), .unset] [(.int (1 : Int32))])) t_
      refine XS.ifNo X24.here hx rfl (hb hby at_310) rfl ((if0 _ _).trans (feq (by decide : ¬ ((1 : Int32) = (0 : Int32)))).1) ?_
      show Steps p.tables e below (T24.setTop (mkF m 313 #[.val (.long q1), .second, .val (.long q2), .second, .val (.long q3), .second, .val (.long q4), .second, .val (.int p5), .val (.long r_1), .second, .val (.int y2), .val (.long r_3), .second, .val (.long r_4), .second, .val (.long r_5), .second, .val (.ref b6), .val (.long r_11), .second, .val (.int (1 : Int32)), .val (.int (0 : Int32)), .unset] [])) t_
      refine XS.iconst X24.here hx rfl (hb hby at_313) ?_
      show Steps p.tables e below (T24.setTop (mkF m 314 #[.val (.long q1), .second, .val (.long q2), .second, .val (.long q3), .second, .val (.long q4), .second, .val (.int p5), .val (.long r_1), .second, .val (.int y2), .val (.long r_3), .second, .val (.long r_4), .second, .val (.long r_5), .second, .val (.ref b6), .val (.long r_11), .second, .val (.int (1 : Int32)), .val (.int (0 : Int32)), .unset] [(.int (1 : Int32))])) t_
      refine XS.goto X24.here hx rfl (pc0 := 314) (pc' := 318) rfl (hb hby at_314) (by decide) (by decide) ?_
      show Steps p.tables e below (T24.setTop (mkF m 318 #[.val (.long q1), .second, .val (.long q2), .second, .val (.long q3), .second, .val (.long q4), .second, .val (.int p5), .val (.long r_1), .second, .val (.int y2), .val (.long r_3), .second, .val (.long r_4), .second, .val (.long r_5), .second, .val (.ref b6), .val (.long r_11), .second, .val (.int (1 : Int32)), .val (.int (0 : Int32)), .unset] [(.int (1 : Int32))])) t_
      refine XS.istore X24.here hx rfl (hb hby at_318) rfl (l' := #[.val (.long q1), .second, .val (.long q2), .second, .val (.long q3), .second, .val (.long q4), .second, .val (.int p5), .val (.long r_1), .second, .val (.int y2), .val (.long r_3), .second, .val (.long r_4), .second, .val (.long r_5), .second, .val (.ref b6), .val (.long r_11), .second, .val (.int (1 : Int32)), .val (.int (0 : Int32)), .val (.int (1 : Int32))]) rfl ?_
      show Steps p.tables e below (T24.setTop (mkF m 320 #[.val (.long q1), .second, .val (.long q2), .second, .val (.long q3), .second, .val (.long q4), .second, .val (.int p5), .val (.long r_1), .second, .val (.int y2), .val (.long r_3), .second, .val (.long r_4), .second, .val (.long r_5), .second, .val (.ref b6), .val (.long r_11), .second, .val (.int (1 : Int32)), .val (.int (0 : Int32)), .val (.int (1 : Int32))] [])) t_
      refine XS.iload X24.here hx rfl (hb hby at_320) rfl ?_
      show Steps p.tables e below (T24.setTop (mkF m 322 #[.val (.long q1), .second, .val (.long q2), .second, .val (.long q3), .second, .val (.long q4), .second, .val (.int p5), .val (.long r_1), .second, .val (.int y2), .val (.long r_3), .second, .val (.long r_4), .second, .val (.long r_5), .second, .val (.ref b6), .val (.long r_11), .second, .val (.int (1 : Int32)), .val (.int (0 : Int32)), .val (.int (1 : Int32))] [(.int (1 : Int32))])) t_
      refine XS.ifNo X24.here hx rfl (hb hby at_322) rfl ((if0 _ _).trans (feq (by decide : ¬ ((1 : Int32) = (0 : Int32)))).1) ?_
      show Steps p.tables e below (T24.setTop (mkF m 325 #[.val (.long q1), .second, .val (.long q2), .second, .val (.long q3), .second, .val (.long q4), .second, .val (.int p5), .val (.long r_1), .second, .val (.int y2), .val (.long r_3), .second, .val (.long r_4), .second, .val (.long r_5), .second, .val (.ref b6), .val (.long r_11), .second, .val (.int (1 : Int32)), .val (.int (0 : Int32)), .val (.int (1 : Int32))] [])) t_
      refine XS.iload X24.here hx rfl (hb hby at_325) rfl ?_
      show Steps p.tables e below (T24.setTop (mkF m 327 #[.val (.long q1), .second, .val (.long q2), .second, .val (.long q3), .second, .val (.long q4), .second, .val (.int p5), .val (.long r_1), .second, .val (.int y2), .val (.long r_3), .second, .val (.long r_4), .second, .val (.long r_5), .second, .val (.ref b6), .val (.long r_11), .second, .val (.int (1 : Int32)), .val (.int (0 : Int32)), .val (.int (1 : Int32))] [(.int (0 : Int32))])) t_
      refine XS.ifNo X24.here hx rfl (hb hby at_327) rfl ((if0 _ _).trans (teq (by decide : (0 : Int32) = (0 : Int32))).2) ?_
      show Steps p.tables e below (T24.setTop (mkF m 330 #[.val (.long q1), .second, .val (.long q2), .second, .val (.long q3), .second, .val (.long q4), .second, .val (.int p5), .val (.long r_1), .second, .val (.int y2), .val (.long r_3), .second, .val (.long r_4), .second, .val (.long r_5), .second, .val (.ref b6), .val (.long r_11), .second, .val (.int (1 : Int32)), .val (.int (0 : Int32)), .val (.int (1 : Int32))] [])) t_
      refine XS.lload X24.here hx rfl (hb hby at_330) rfl ?_
      show Steps p.tables e below (T24.setTop (mkF m 332 #[.val (.long q1), .second, .val (.long q2), .second, .val (.long q3), .second, .val (.long q4), .second, .val (.int p5), .val (.long r_1), .second, .val (.int y2), .val (.long r_3), .second, .val (.long r_4), .second, .val (.long r_5), .second, .val (.ref b6), .val (.long r_11), .second, .val (.int (1 : Int32)), .val (.int (0 : Int32)), .val (.int (1 : Int32))] [(.long r_11)])) t_
      refine Jvm.Stand.ldc2J X24 hx hown (mvT hZ (own_w hw 0 rfl)) (g := (mkF m 332 #[.val (.long q1), .second, .val (.long q2), .second, .val (.long q3), .second, .val (.long q4), .second, .val (.int p5), .val (.long r_1), .second, .val (.int y2), .val (.long r_3), .second, .val (.long r_4), .second, .val (.long r_5), .second, .val (.ref b6), .val (.long r_11), .second, .val (.int (1 : Int32)), .val (.int (0 : Int32)), .val (.int (1 : Int32))] [(.long r_11)])) rfl (hb hby at_332) ?_
      show Steps p.tables e below (T24.setTop (mkF m 335 #[.val (.long q1), .second, .val (.long q2), .second, .val (.long q3), .second, .val (.long q4), .second, .val (.int p5), .val (.long r_1), .second, .val (.int y2), .val (.long r_3), .second, .val (.long r_4), .second, .val (.long r_5), .second, .val (.ref b6), .val (.long r_11), .second, .val (.int (1 : Int32)), .val (.int (0 : Int32)), .val (.int (1 : Int32))] [(.long (9223372036854775807 : Int64)), (.long r_11)])) t_
      refine XS.lcmp X24.here hx rfl (hb hby at_335) rfl ?_
      exact k_
    have hc336_25 : r_11 = (9223372036854775807 : Int64) := hEN.1
    refine own_go (A := T24.setTop (mkF m 349 #[.val (.long q1), .second, .val (.long q2), .second, .val (.long q3), .second, .val (.long q4), .second, .val (.int p5), .val (.long r_1), .second, .val (.int y2), .val (.long r_3), .second, .val (.long r_4), .second, .val (.long r_5), .second, .val (.ref b6), .val (.long r_11), .second, .val (.int (1 : Int32)), .val (.int (0 : Int32)), .val (.int (1 : Int32))] [(.int (1 : Int32))])) (fun t_ k_ => ?_) ?_
    · show Steps p.tables e below (T24.setTop (mkF m 336 #[.val (.long q1), .second, .val (.long q2), .second, .val (.long q3), .second, .val (.long q4), .second, .val (.int p5), .val (.long r_1), .second, .val (.int y2), .val (.long r_3), .second, .val (.long r_4), .second, .val (.long r_5), .second, .val (.ref b6), .val (.long r_11), .second, .val (.int (1 : Int32)), .val (.int (0 : Int32)), .val (.int (1 : Int32))] [(.int (lcmpW r_11 (9223372036854775807 : Int64)))])) t_
      refine XS.ifNo X24.here hx rfl (hb hby at_336) rfl ((if0 _ _).trans (teq ((lw_eq _ _).mpr hc336_25)).2) ?_
      show Steps p.tables e below (T24.setTop (mkF m 339 #[.val (.long q1), .second, .val (.long q2), .second, .val (.long q3), .second, .val (.long q4), .second, .val (.int p5), .val (.long r_1), .second, .val (.int y2), .val (.long r_3), .second, .val (.long r_4), .second, .val (.long r_5), .second, .val (.ref b6), .val (.long r_11), .second, .val (.int (1 : Int32)), .val (.int (0 : Int32)), .val (.int (1 : Int32))] [])) t_
      refine XS.iload X24.here hx rfl (hb hby at_339) rfl ?_
      show Steps p.tables e below (T24.setTop (mkF m 341 #[.val (.long q1), .second, .val (.long q2), .second, .val (.long q3), .second, .val (.long q4), .second, .val (.int p5), .val (.long r_1), .second, .val (.int y2), .val (.long r_3), .second, .val (.long r_4), .second, .val (.long r_5), .second, .val (.ref b6), .val (.long r_11), .second, .val (.int (1 : Int32)), .val (.int (0 : Int32)), .val (.int (1 : Int32))] [(.int (1 : Int32))])) t_
      refine XS.ifNo X24.here hx rfl (hb hby at_341) rfl ((if0 _ _).trans (feq (by decide : ¬ ((1 : Int32) = (0 : Int32)))).1) ?_
      show Steps p.tables e below (T24.setTop (mkF m 344 #[.val (.long q1), .second, .val (.long q2), .second, .val (.long q3), .second, .val (.long q4), .second, .val (.int p5), .val (.long r_1), .second, .val (.int y2), .val (.long r_3), .second, .val (.long r_4), .second, .val (.long r_5), .second, .val (.ref b6), .val (.long r_11), .second, .val (.int (1 : Int32)), .val (.int (0 : Int32)), .val (.int (1 : Int32))] [])) t_
      refine XS.iconst X24.here hx rfl (hb hby at_344) ?_
      show Steps p.tables e below (T24.setTop (mkF m 345 #[.val (.long q1), .second, .val (.long q2), .second, .val (.long q3), .second, .val (.long q4), .second, .val (.int p5), .val (.long r_1), .second, .val (.int y2), .val (.long r_3), .second, .val (.long r_4), .second, .val (.long r_5), .second, .val (.ref b6), .val (.long r_11), .second, .val (.int (1 : Int32)), .val (.int (0 : Int32)), .val (.int (1 : Int32))] [(.int (1 : Int32))])) t_
      refine XS.goto X24.here hx rfl (pc0 := 345) (pc' := 349) rfl (hb hby at_345) (by decide) (by decide) ?_
      exact k_
    obtain ⟨fs26, hr26, hrun26, hended26, hRW26⟩ := X24.leaveW hS (by rw [eh24]; exact hk) (v := some (.int (1 : Int32))) (fun h => by rw [hret] at h; cases h)
    refine ⟨_, _, ?_, hrun26, hended26, _, _, rfl, ?_, ?_, hRW26.1, hRW26.2.1, hRW26.2.2.1, hRW26.2.2.2.mono hcc_ hsc_⟩
    · exact retN X24 hx (t := .boolean) hret (by simp) (hb hby at_349) hr26
    · show Q_rm0 Z q1 q2 q3 q4 p5 cs sf dc kd h0 n0 _ T24.heap _
      rw [eh24]
      exact ⟨rfl, N24, Kc0⟩
    · show CHr Z own_EL s.vm s.heap T24.vm T24.heap
      rw [hh, eh24]
      exact Rc.trans (CHv.at X24 hZ hEL Rc.1)
set_option maxRecDepth 65536 in
set_option maxHeartbeats 40000000 in
theorem own_n281 (l : Launch) (Z : State) (a0 : Array Value) (hw : ∀ d ∈ tables_1, d.before a0 Z = true) (q1 : Int64) (q2 : Int64) (q3 : Int64) (q4 : Int64) (p5 : Int32) (cs : Int32) (sf : Value) (dc : Addr) (kd : ClassId) (r_1 : Int64) (y2 : Int32) (r_3 : Int64) (r_4 : Int64) (r_5 : Int64) (b6 : Addr) (r_11 : Int64) (h0 : Heap) (n0 : Nat) (Z0 : n0 ≤ h0.size) {p : Program} {e : Env} {s : State} {m : MethodId} {below : List Frame} {meth : Method} {c : Code} {Tc : State} {Hc : Heap} {locsc : List Loc} {vmc : Vm} {kc0 : Nat} {cc_ sc_ : Nat} (Xc : Stand p l e room_1 (s.setVm vmc) m #[(.long q1), (.long q2), (.long q3), (.long q4), (.int p5)] below meth c Tc locsc cc_ sc_) (hx : p.tables.exec = Jvm.exec) (hZ : Z.Warmed39 (s.setVm vmc).vm) (hby : c.code = code) (hml : c.maxLocals = 24) (hown : (s.setVm vmc).vm.findClass "com/example/firmline/firmline/analysis/InterferenceNextReleasePinLaw" = some m.cls) (hret : meth.sig.returnType = some .boolean) (hlk : meth.locks = false) (hh : s.heap = h0) (ec : Tc.heap = Hc) (Nc : Fr n0 locsc) (Kc0 : Keep h0 Hc []) (Oc : Old Z n0 Hc) (hS : s.Since vmc kc0) (hk : kc0 ≤ Hc.size) (hSA : ∀ a ∈ Bundle.stringAtoms, a.before a0 Z = true) (hEL : EW Z a0 own_EL) (Rc : CHr Z own_EL s.vm h0 vmc Hc) (hcc_ : cc_ ≤ room_1.cells) (hsc_ : sc_ ≤ room_1.slots) (hcs : ¬ (cs = (0 : Int32))) (hsf : sf.isRef = true) (hbd0 : 1 ≤ r_3.toInt ∧ r_3.toInt ≤ 1000000000000000) (hbd1 : 1 ≤ r_4.toInt ∧ r_4.toInt ≤ 1000000000000000) (hbd2 : 1 ≤ r_5.toInt ∧ r_5.toInt ≤ 1000000000000000) (hEN : r_11 = (9223372036854775807 : Int64) ∧ (¬ (y2 < (1 : Int32)) → (((9223372036854775807 : Int64) / r_3) * r_3) < r_1) ∧ (¬ (y2 < (2 : Int32)) → (((9223372036854775807 : Int64) / r_4) * r_4) < r_1) ∧ (¬ (y2 < (3 : Int32)) → (((9223372036854775807 : Int64) / r_5) * r_5) < r_1)) :
    ∃ U_ o_, Steps p.tables e below (Tc.setTop (mkF m 281 #[.val (.long q1), .second, .val (.long q2), .second, .val (.long q3), .second, .val (.long q4), .second, .val (.int p5), .val (.long r_1), .second, .val (.int y2), .val (.long r_3), .second, .val (.long r_4), .second, .val (.long r_5), .second, .val (.ref b6), .val (.long r_11), .second, .val (.int (1 : Int32)), .val (.int (0 : Int32)), .unset] [])) U_ ∧ U_.status = .running ∧ Ended U_ below o_ ∧ (∃ v_ L_, o_ = .returned v_ ∧ Q_rm0 Z q1 q2 q3 q4 p5 cs sf dc kd h0 n0 v_ U_.heap L_ ∧ CHr Z own_EL s.vm s.heap U_.vm U_.heap ∧ ReturnedEndW s o_ U_ L_ room_1.cells room_1.slots) := by
  refine own_go (A := Tc.setTop (mkF m 284 #[.val (.long q1), .second, .val (.long q2), .second, .val (.long q3), .second, .val (.long q4), .second, .val (.int p5), .val (.long r_1), .second, .val (.int y2), .val (.long r_3), .second, .val (.long r_4), .second, .val (.long r_5), .second, .val (.ref b6), .val (.long r_11), .second, .val (.int (1 : Int32)), .val (.int (0 : Int32)), .unset] [(.int (2 : Int32)), (.int y2)])) (fun t_ k_ => ?_) ?_
  · show Steps p.tables e below (Tc.setTop (mkF m 281 #[.val (.long q1), .second, .val (.long q2), .second, .val (.long q3), .second, .val (.long q4), .second, .val (.int p5), .val (.long r_1), .second, .val (.int y2), .val (.long r_3), .second, .val (.long r_4), .second, .val (.long r_5), .second, .val (.ref b6), .val (.long r_11), .second, .val (.int (1 : Int32)), .val (.int (0 : Int32)), .unset] [])) t_
    refine XS.iload Xc.here hx rfl (hb hby at_281) rfl ?_
    show Steps p.tables e below (Tc.setTop (mkF m 283 #[.val (.long q1), .second, .val (.long q2), .second, .val (.long q3), .second, .val (.long q4), .second, .val (.int p5), .val (.long r_1), .second, .val (.int y2), .val (.long r_3), .second, .val (.long r_4), .second, .val (.long r_5), .second, .val (.ref b6), .val (.long r_11), .second, .val (.int (1 : Int32)), .val (.int (0 : Int32)), .unset] [(.int y2)])) t_
    refine XS.iconst Xc.here hx rfl (hb hby at_283) ?_
    exact k_
  by_cases hc284_20 : y2 < (2 : Int32)
  · refine own_go (A := Tc.setTop (mkF m 297 #[.val (.long q1), .second, .val (.long q2), .second, .val (.long q3), .second, .val (.long q4), .second, .val (.int p5), .val (.long r_1), .second, .val (.int y2), .val (.long r_3), .second, .val (.long r_4), .second, .val (.long r_5), .second, .val (.ref b6), .val (.long r_11), .second, .val (.int (1 : Int32)), .val (.int (0 : Int32)), .unset] [])) (fun t_ k_ => ?_) ?_
    · show Steps p.tables e below (Tc.setTop (mkF m 284 #[.val (.long q1), .second, .val (.long q2), .second, .val (.long q3), .second, .val (.long q4), .second, .val (.int p5), .val (.long r_1), .second, .val (.int y2), .val (.long r_3), .second, .val (.long r_4), .second, .val (.long r_5), .second, .val (.ref b6), .val (.long r_11), .second, .val (.int (1 : Int32)), .val (.int (0 : Int32)), .unset] [(.int (2 : Int32)), (.int y2)])) t_
      refine XS.icmpYes Xc.here hx rfl (pc0 := 284) (pc' := 297) rfl (hb hby at_284) rfl (tlt hc284_20).1 (by decide) (by decide) ?_
      exact k_
    exact own_n297 l Z a0 hw q1 q2 q3 q4 p5 cs sf dc kd r_1 y2 r_3 r_4 r_5 b6 r_11 h0 n0 Z0 Xc hx hZ hby hml hown hret hlk hh ec Nc Kc0 Oc hS hk hSA hEL Rc hcc_ hsc_ hcs hsf hbd0 hbd1 hbd2 hEN
  · refine own_go (A := Tc.setTop (mkF m 291 #[.val (.long q1), .second, .val (.long q2), .second, .val (.long q3), .second, .val (.long q4), .second, .val (.int p5), .val (.long r_1), .second, .val (.int y2), .val (.long r_3), .second, .val (.long r_4), .second, .val (.long r_5), .second, .val (.ref b6), .val (.long r_11), .second, .val (.int (1 : Int32)), .val (.int (0 : Int32)), .unset] [(.long r_4), (.long r_1)])) (fun t_ k_ => ?_) ?_
    · show Steps p.tables e below (Tc.setTop (mkF m 284 #[.val (.long q1), .second, .val (.long q2), .second, .val (.long q3), .second, .val (.long q4), .second, .val (.int p5), .val (.long r_1), .second, .val (.int y2), .val (.long r_3), .second, .val (.long r_4), .second, .val (.long r_5), .second, .val (.ref b6), .val (.long r_11), .second, .val (.int (1 : Int32)), .val (.int (0 : Int32)), .unset] [(.int (2 : Int32)), (.int y2)])) t_
      refine XS.icmpNo Xc.here hx rfl (hb hby at_284) rfl (flt hc284_20).1 ?_
      show Steps p.tables e below (Tc.setTop (mkF m 287 #[.val (.long q1), .second, .val (.long q2), .second, .val (.long q3), .second, .val (.long q4), .second, .val (.int p5), .val (.long r_1), .second, .val (.int y2), .val (.long r_3), .second, .val (.long r_4), .second, .val (.long r_5), .second, .val (.ref b6), .val (.long r_11), .second, .val (.int (1 : Int32)), .val (.int (0 : Int32)), .unset] [])) t_
      refine XS.lload Xc.here hx rfl (hb hby at_287) rfl ?_
      show Steps p.tables e below (Tc.setTop (mkF m 289 #[.val (.long q1), .second, .val (.long q2), .second, .val (.long q3), .second, .val (.long q4), .second, .val (.int p5), .val (.long r_1), .second, .val (.int y2), .val (.long r_3), .second, .val (.long r_4), .second, .val (.long r_5), .second, .val (.ref b6), .val (.long r_11), .second, .val (.int (1 : Int32)), .val (.int (0 : Int32)), .unset] [(.long r_1)])) t_
      refine XS.lload Xc.here hx rfl (hb hby at_289) rfl ?_
      exact k_
    obtain ⟨_, _, ⟨T27, L27, k27, n27⟩, -, X27, ⟨Lc27, hQ27, l27, y27, z27⟩, st27⟩ := Jvm.LawKit.callS Xc hx (y := own_y38) hown (mvT hZ (own_w hw 235 rfl)) (mvT hZ (own_w hw 236 rfl)) (mvT hZ (own_w hw 7 rfl)) (mvT hZ (own_w hw 237 rfl)) (by decide) (backOf (W := 0) (rmBey1 l Z a0 hw [] r_1 r_4 Hc n0 (Nat.le_trans Z0 Kc0.1) (own_nz hbd1) (hEN.2.2.1 hc284_20)) hZ (own_w hw 237 rfl) (own_w hw 7 rfl) (by decide) (by decide)) (g := (mkF m 291 #[.val (.long q1), .second, .val (.long q2), .second, .val (.long q3), .second, .val (.long q4), .second, .val (.int p5), .val (.long r_1), .second, .val (.int y2), .val (.long r_3), .second, .val (.long r_4), .second, .val (.long r_5), .second, .val (.ref b6), .val (.long r_11), .second, .val (.int (1 : Int32)), .val (.int (0 : Int32)), .unset] [(.long r_4), (.long r_1)])) rfl (by rw [hml]; rfl) (argsL := [(.long r_1), (.long r_4)]) (rest := []) (lenOf pd_23 rfl) rfl (by show 2 * 0 + _ ≤ _; exact Nat.le_of_eq rfl) (hb hby at_291) (fun _ _ => ⟨rfl, ec, hcc_, hsc_⟩)
    dsimp only [Pt.U, Pt.locs, Pt.cells, Pt.slots] at X27 l27 y27 z27 st27 hQ27
    subst l27 y27 z27
    obtain ⟨rfl, N27q, eh27⟩ := hQ27
    have N27 := Fr.app Nc N27q
    refine own_go st27 ?_
    refine own_go (A := T27.setTop (mkF m 297 #[.val (.long q1), .second, .val (.long q2), .second, .val (.long q3), .second, .val (.long q4), .second, .val (.int p5), .val (.long r_1), .second, .val (.int y2), .val (.long r_3), .second, .val (.long r_4), .second, .val (.long r_5), .second, .val (.ref b6), .val (.long r_11), .second, .val (.int (1 : Int32)), .val (.int (0 : Int32)), .unset] [])) (fun t_ k_ => ?_) ?_
    · show Steps p.tables e below (T27.setTop (mkF m 294 #[.val (.long q1), .second, .val (.long q2), .second, .val (.long q3), .second, .val (.long q4), .second, .val (.int p5), .val (.long r_1), .second, .val (.int y2), .val (.long r_3), .second, .val (.long r_4), .second, .val (.long r_5), .second, .val (.ref b6), .val (.long r_11), .second, .val (.int (1 : Int32)), .val (.int (0 : Int32)), .unset] [(.int (1 : Int32))])) t_
      refine XS.ifNo X27.here hx rfl (hb hby at_294) rfl ((if0 _ _).trans (feq (by decide : ¬ ((1 : Int32) = (0 : Int32)))).1) ?_
      exact k_
    exact own_n297 l Z a0 hw q1 q2 q3 q4 p5 cs sf dc kd r_1 y2 r_3 r_4 r_5 b6 r_11 h0 n0 Z0 X27 hx hZ hby hml hown hret hlk hh eh27 N27 Kc0 Oc hS hk hSA hEL Rc hcc_ hsc_ hcs hsf hbd0 hbd1 hbd2 hEN
set_option maxRecDepth 65536 in
set_option maxHeartbeats 40000000 in
theorem own_n265 (l : Launch) (Z : State) (a0 : Array Value) (hw : ∀ d ∈ tables_1, d.before a0 Z = true) (q1 : Int64) (q2 : Int64) (q3 : Int64) (q4 : Int64) (p5 : Int32) (cs : Int32) (sf : Value) (dc : Addr) (kd : ClassId) (r_1 : Int64) (y2 : Int32) (r_3 : Int64) (r_4 : Int64) (r_5 : Int64) (b6 : Addr) (r_11 : Int64) (h0 : Heap) (n0 : Nat) (Z0 : n0 ≤ h0.size) {p : Program} {e : Env} {s : State} {m : MethodId} {below : List Frame} {meth : Method} {c : Code} {Tc : State} {Hc : Heap} {locsc : List Loc} {vmc : Vm} {kc0 : Nat} {cc_ sc_ : Nat} (Xc : Stand p l e room_1 (s.setVm vmc) m #[(.long q1), (.long q2), (.long q3), (.long q4), (.int p5)] below meth c Tc locsc cc_ sc_) (hx : p.tables.exec = Jvm.exec) (hZ : Z.Warmed39 (s.setVm vmc).vm) (hby : c.code = code) (hml : c.maxLocals = 24) (hown : (s.setVm vmc).vm.findClass "com/example/firmline/firmline/analysis/InterferenceNextReleasePinLaw" = some m.cls) (hret : meth.sig.returnType = some .boolean) (hlk : meth.locks = false) (hh : s.heap = h0) (ec : Tc.heap = Hc) (Nc : Fr n0 locsc) (Kc0 : Keep h0 Hc []) (Oc : Old Z n0 Hc) (hS : s.Since vmc kc0) (hk : kc0 ≤ Hc.size) (hSA : ∀ a ∈ Bundle.stringAtoms, a.before a0 Z = true) (hEL : EW Z a0 own_EL) (Rc : CHr Z own_EL s.vm h0 vmc Hc) (hcc_ : cc_ ≤ room_1.cells) (hsc_ : sc_ ≤ room_1.slots) (hcs : ¬ (cs = (0 : Int32))) (hsf : sf.isRef = true) (hbd0 : 1 ≤ r_3.toInt ∧ r_3.toInt ≤ 1000000000000000) (hbd1 : 1 ≤ r_4.toInt ∧ r_4.toInt ≤ 1000000000000000) (hbd2 : 1 ≤ r_5.toInt ∧ r_5.toInt ≤ 1000000000000000) (hEN : r_11 = (9223372036854775807 : Int64) ∧ (¬ (y2 < (1 : Int32)) → (((9223372036854775807 : Int64) / r_3) * r_3) < r_1) ∧ (¬ (y2 < (2 : Int32)) → (((9223372036854775807 : Int64) / r_4) * r_4) < r_1) ∧ (¬ (y2 < (3 : Int32)) → (((9223372036854775807 : Int64) / r_5) * r_5) < r_1)) :
    ∃ U_ o_, Steps p.tables e below (Tc.setTop (mkF m 265 #[.val (.long q1), .second, .val (.long q2), .second, .val (.long q3), .second, .val (.long q4), .second, .val (.int p5), .val (.long r_1), .second, .val (.int y2), .val (.long r_3), .second, .val (.long r_4), .second, .val (.long r_5), .second, .val (.ref b6), .val (.long r_11), .second, .val (.int (1 : Int32)), .val (.int (0 : Int32)), .unset] [])) U_ ∧ U_.status = .running ∧ Ended U_ below o_ ∧ (∃ v_ L_, o_ = .returned v_ ∧ Q_rm0 Z q1 q2 q3 q4 p5 cs sf dc kd h0 n0 v_ U_.heap L_ ∧ CHr Z own_EL s.vm s.heap U_.vm U_.heap ∧ ReturnedEndW s o_ U_ L_ room_1.cells room_1.slots) := by
  refine own_go (A := Tc.setTop (mkF m 268 #[.val (.long q1), .second, .val (.long q2), .second, .val (.long q3), .second, .val (.long q4), .second, .val (.int p5), .val (.long r_1), .second, .val (.int y2), .val (.long r_3), .second, .val (.long r_4), .second, .val (.long r_5), .second, .val (.ref b6), .val (.long r_11), .second, .val (.int (1 : Int32)), .val (.int (0 : Int32)), .unset] [(.int (1 : Int32)), (.int y2)])) (fun t_ k_ => ?_) ?_
  · show Steps p.tables e below (Tc.setTop (mkF m 265 #[.val (.long q1), .second, .val (.long q2), .second, .val (.long q3), .second, .val (.long q4), .second, .val (.int p5), .val (.long r_1), .second, .val (.int y2), .val (.long r_3), .second, .val (.long r_4), .second, .val (.long r_5), .second, .val (.ref b6), .val (.long r_11), .second, .val (.int (1 : Int32)), .val (.int (0 : Int32)), .unset] [])) t_
    refine XS.iload Xc.here hx rfl (hb hby at_265) rfl ?_
    show Steps p.tables e below (Tc.setTop (mkF m 267 #[.val (.long q1), .second, .val (.long q2), .second, .val (.long q3), .second, .val (.long q4), .second, .val (.int p5), .val (.long r_1), .second, .val (.int y2), .val (.long r_3), .second, .val (.long r_4), .second, .val (.long r_5), .second, .val (.ref b6), .val (.long r_11), .second, .val (.int (1 : Int32)), .val (.int (0 : Int32)), .unset] [(.int y2)])) t_
    refine XS.iconst Xc.here hx rfl (hb hby at_267) ?_
    exact k_
  by_cases hc268_19 : y2 < (1 : Int32)
  · refine own_go (A := Tc.setTop (mkF m 281 #[.val (.long q1), .second, .val (.long q2), .second, .val (.long q3), .second, .val (.long q4), .second, .val (.int p5), .val (.long r_1), .second, .val (.int y2), .val (.long r_3), .second, .val (.long r_4), .second, .val (.long r_5), .second, .val (.ref b6), .val (.long r_11), .second, .val (.int (1 : Int32)), .val (.int (0 : Int32)), .unset] [])) (fun t_ k_ => ?_) ?_
    · show Steps p.tables e below (Tc.setTop (mkF m 268 #[.val (.long q1), .second, .val (.long q2), .second, .val (.long q3), .second, .val (.long q4), .second, .val (.int p5), .val (.long r_1), .second, .val (.int y2), .val (.long r_3), .second, .val (.long r_4), .second, .val (.long r_5), .second, .val (.ref b6), .val (.long r_11), .second, .val (.int (1 : Int32)), .val (.int (0 : Int32)), .unset] [(.int (1 : Int32)), (.int y2)])) t_
      refine XS.icmpYes Xc.here hx rfl (pc0 := 268) (pc' := 281) rfl (hb hby at_268) rfl (tlt hc268_19).1 (by decide) (by decide) ?_
      exact k_
    exact own_n281 l Z a0 hw q1 q2 q3 q4 p5 cs sf dc kd r_1 y2 r_3 r_4 r_5 b6 r_11 h0 n0 Z0 Xc hx hZ hby hml hown hret hlk hh ec Nc Kc0 Oc hS hk hSA hEL Rc hcc_ hsc_ hcs hsf hbd0 hbd1 hbd2 hEN
  · refine own_go (A := Tc.setTop (mkF m 275 #[.val (.long q1), .second, .val (.long q2), .second, .val (.long q3), .second, .val (.long q4), .second, .val (.int p5), .val (.long r_1), .second, .val (.int y2), .val (.long r_3), .second, .val (.long r_4), .second, .val (.long r_5), .second, .val (.ref b6), .val (.long r_11), .second, .val (.int (1 : Int32)), .val (.int (0 : Int32)), .unset] [(.long r_3), (.long r_1)])) (fun t_ k_ => ?_) ?_
    · show Steps p.tables e below (Tc.setTop (mkF m 268 #[.val (.long q1), .second, .val (.long q2), .second, .val (.long q3), .second, .val (.long q4), .second, .val (.int p5), .val (.long r_1), .second, .val (.int y2), .val (.long r_3), .second, .val (.long r_4), .second, .val (.long r_5), .second, .val (.ref b6), .val (.long r_11), .second, .val (.int (1 : Int32)), .val (.int (0 : Int32)), .unset] [(.int (1 : Int32)), (.int y2)])) t_
      refine XS.icmpNo Xc.here hx rfl (hb hby at_268) rfl (flt hc268_19).1 ?_
      show Steps p.tables e below (Tc.setTop (mkF m 271 #[.val (.long q1), .second, .val (.long q2), .second, .val (.long q3), .second, .val (.long q4), .second, .val (.int p5), .val (.long r_1), .second, .val (.int y2), .val (.long r_3), .second, .val (.long r_4), .second, .val (.long r_5), .second, .val (.ref b6), .val (.long r_11), .second, .val (.int (1 : Int32)), .val (.int (0 : Int32)), .unset] [])) t_
      refine XS.lload Xc.here hx rfl (hb hby at_271) rfl ?_
      show Steps p.tables e below (Tc.setTop (mkF m 273 #[.val (.long q1), .second, .val (.long q2), .second, .val (.long q3), .second, .val (.long q4), .second, .val (.int p5), .val (.long r_1), .second, .val (.int y2), .val (.long r_3), .second, .val (.long r_4), .second, .val (.long r_5), .second, .val (.ref b6), .val (.long r_11), .second, .val (.int (1 : Int32)), .val (.int (0 : Int32)), .unset] [(.long r_1)])) t_
      refine XS.lload Xc.here hx rfl (hb hby at_273) rfl ?_
      exact k_
    obtain ⟨_, _, ⟨T28, L28, k28, n28⟩, -, X28, ⟨Lc28, hQ28, l28, y28, z28⟩, st28⟩ := Jvm.LawKit.callS Xc hx (y := own_y38) hown (mvT hZ (own_w hw 235 rfl)) (mvT hZ (own_w hw 236 rfl)) (mvT hZ (own_w hw 7 rfl)) (mvT hZ (own_w hw 237 rfl)) (by decide) (backOf (W := 0) (rmBey1 l Z a0 hw [] r_1 r_3 Hc n0 (Nat.le_trans Z0 Kc0.1) (own_nz hbd0) (hEN.2.1 hc268_19)) hZ (own_w hw 237 rfl) (own_w hw 7 rfl) (by decide) (by decide)) (g := (mkF m 275 #[.val (.long q1), .second, .val (.long q2), .second, .val (.long q3), .second, .val (.long q4), .second, .val (.int p5), .val (.long r_1), .second, .val (.int y2), .val (.long r_3), .second, .val (.long r_4), .second, .val (.long r_5), .second, .val (.ref b6), .val (.long r_11), .second, .val (.int (1 : Int32)), .val (.int (0 : Int32)), .unset] [(.long r_3), (.long r_1)])) rfl (by rw [hml]; rfl) (argsL := [(.long r_1), (.long r_3)]) (rest := []) (lenOf pd_23 rfl) rfl (by show 2 * 0 + _ ≤ _; exact Nat.le_of_eq rfl) (hb hby at_275) (fun _ _ => ⟨rfl, ec, hcc_, hsc_⟩)
    dsimp only [Pt.U, Pt.locs, Pt.cells, Pt.slots] at X28 l28 y28 z28 st28 hQ28
    subst l28 y28 z28
    obtain ⟨rfl, N28q, eh28⟩ := hQ28
    have N28 := Fr.app Nc N28q
    refine own_go st28 ?_
    refine own_go (A := T28.setTop (mkF m 281 #[.val (.long q1), .second, .val (.long q2), .second, .val (.long q3), .second, .val (.long q4), .second, .val (.int p5), .val (.long r_1), .second, .val (.int y2), .val (.long r_3), .second, .val (.long r_4), .second, .val (.long r_5), .second, .val (.ref b6), .val (.long r_11), .second, .val (.int (1 : Int32)), .val (.int (0 : Int32)), .unset] [])) (fun t_ k_ => ?_) ?_
    · show Steps p.tables e below (T28.setTop (mkF m 278 #[.val (.long q1), .second, .val (.long q2), .second, .val (.long q3), .second, .val (.long q4), .second, .val (.int p5), .val (.long r_1), .second, .val (.int y2), .val (.long r_3), .second, .val (.long r_4), .second, .val (.long r_5), .second, .val (.ref b6), .val (.long r_11), .second, .val (.int (1 : Int32)), .val (.int (0 : Int32)), .unset] [(.int (1 : Int32))])) t_
      refine XS.ifNo X28.here hx rfl (hb hby at_278) rfl ((if0 _ _).trans (feq (by decide : ¬ ((1 : Int32) = (0 : Int32)))).1) ?_
      exact k_
    exact own_n281 l Z a0 hw q1 q2 q3 q4 p5 cs sf dc kd r_1 y2 r_3 r_4 r_5 b6 r_11 h0 n0 Z0 X28 hx hZ hby hml hown hret hlk hh eh28 N28 Kc0 Oc hS hk hSA hEL Rc hcc_ hsc_ hcs hsf hbd0 hbd1 hbd2 hEN
set_option maxRecDepth 65536 in
set_option maxHeartbeats 40000000 in
theorem own_f1 (l : Launch) (Z : State) (a0 : Array Value) (hw : ∀ d ∈ tables_1, d.before a0 Z = true) (q1 : Int64) (q2 : Int64) (q3 : Int64) (q4 : Int64) (p5 : Int32) (cs : Int32) (sf : Value) (dc : Addr) (kd : ClassId) (r_1 : Int64) (y2 : Int32) (r_3 : Int64) (r_4 : Int64) (r_5 : Int64) (b6 : Addr) (r_11 : Int64) (h0 : Heap) (n0 : Nat) (Z0 : n0 ≤ h0.size) {p : Program} {e : Env} {s : State} {m : MethodId} {below : List Frame} {meth : Method} {c : Code} {Tc : State} {Hc : Heap} {locsc : List Loc} {vmc : Vm} {kc0 : Nat} {cc_ sc_ : Nat} (Xc : Stand p l e room_1 (s.setVm vmc) m #[(.long q1), (.long q2), (.long q3), (.long q4), (.int p5)] below meth c Tc locsc cc_ sc_) (hx : p.tables.exec = Jvm.exec) (hZ : Z.Warmed39 (s.setVm vmc).vm) (hby : c.code = code) (hml : c.maxLocals = 24) (hown : (s.setVm vmc).vm.findClass "com/example/firmline/firmline/analysis/InterferenceNextReleasePinLaw" = some m.cls) (hret : meth.sig.returnType = some .boolean) (hlk : meth.locks = false) (hh : s.heap = h0) (ec : Tc.heap = Hc) (Nc : Fr n0 locsc) (Kc0 : Keep h0 Hc []) (Oc : Old Z n0 Hc) (hS : s.Since vmc kc0) (hk : kc0 ≤ Hc.size) (hSA : ∀ a ∈ Bundle.stringAtoms, a.before a0 Z = true) (hEL : EW Z a0 own_EL) (Rc : CHr Z own_EL s.vm h0 vmc Hc) (hcc_ : cc_ ≤ room_1.cells) (hsc_ : sc_ ≤ room_1.slots) (hcs : ¬ (cs = (0 : Int32))) (hsf : sf.isRef = true) (hbd0 : 1 ≤ r_3.toInt ∧ r_3.toInt ≤ 1000000000000000) (hbd1 : 1 ≤ r_4.toInt ∧ r_4.toInt ≤ 1000000000000000) (hbd2 : 1 ≤ r_5.toInt ∧ r_5.toInt ≤ 1000000000000000) :
    ∃ U_ o_, Steps p.tables e below (Tc.setTop (mkF m 320 #[.val (.long q1), .second, .val (.long q2), .second, .val (.long q3), .second, .val (.long q4), .second, .val (.int p5), .val (.long r_1), .second, .val (.int y2), .val (.long r_3), .second, .val (.long r_4), .second, .val (.long r_5), .second, .val (.ref b6), .val (.long r_11), .second, .val (.int (1 : Int32)), .val (.int (1 : Int32)), .val (.int (1 : Int32))] [])) U_ ∧ U_.status = .running ∧ Ended U_ below o_ ∧ (∃ v_ L_, o_ = .returned v_ ∧ Q_rm0 Z q1 q2 q3 q4 p5 cs sf dc kd h0 n0 v_ U_.heap L_ ∧ CHr Z own_EL s.vm s.heap U_.vm U_.heap ∧ ReturnedEndW s o_ U_ L_ room_1.cells room_1.slots) := by
  refine own_go (A := Tc.setTop (mkF m 349 #[.val (.long q1), .second, .val (.long q2), .second, .val (.long q3), .second, .val (.long q4), .second, .val (.int p5), .val (.long r_1), .second, .val (.int y2), .val (.long r_3), .second, .val (.long r_4), .second, .val (.long r_5), .second, .val (.ref b6), .val (.long r_11), .second, .val (.int (1 : Int32)), .val (.int (1 : Int32)), .val (.int (1 : Int32))] [(.int (1 : Int32))])) (fun t_ k_ => ?_) ?_
  · show Steps p.tables e below (Tc.setTop (mkF m 320 #[.val (.long q1), .second, .val (.long q2), .second, .val (.long q3), .second, .val (.long q4), .second, .val (.int p5), .val (.long r_1), .second, .val (.int y2), .val (.long r_3), .second, .val (.long r_4), .second, .val (.long r_5), .second, .val (.ref b6), .val (.long r_11), .second, .val (.int (1 : Int32)), .val (.int (1 : Int32)), .val (.int (1 : Int32))] [])) t_
    refine XS.iload Xc.here hx rfl (hb hby at_320) rfl ?_
    show Steps p.tables e below (Tc.setTop (mkF m 322 #[.val (.long q1), .second, .val (.long q2), .second, .val (.long q3), .second, .val (.long q4), .second, .val (.int p5), .val (.long r_1), .second, .val (.int y2), .val (.long r_3), .second, .val (.long r_4), .second, .val (.long r_5), .second, .val (.ref b6), .val (.long r_11), .second, .val (.int (1 : Int32)), .val (.int (1 : Int32)), .val (.int (1 : Int32))] [(.int (1 : Int32))])) t_
    refine XS.ifNo Xc.here hx rfl (hb hby at_322) rfl ((if0 _ _).trans (feq (by decide : ¬ ((1 : Int32) = (0 : Int32)))).1) ?_
    show Steps p.tables e below (Tc.setTop (mkF m 325 #[.val (.long q1), .second, .val (.long q2), .second, .val (.long q3), .second, .val (.long q4), .second, .val (.int p5), .val (.long r_1), .second, .val (.int y2), .val (.long r_3), .second, .val (.long r_4), .second, .val (.long r_5), .second, .val (.ref b6), .val (.long r_11), .second, .val (.int (1 : Int32)), .val (.int (1 : Int32)), .val (.int (1 : Int32))] [])) t_
    refine XS.iload Xc.here hx rfl (hb hby at_325) rfl ?_
    show Steps p.tables e below (Tc.setTop (mkF m 327 #[.val (.long q1), .second, .val (.long q2), .second, .val (.long q3), .second, .val (.long q4), .second, .val (.int p5), .val (.long r_1), .second, .val (.int y2), .val (.long r_3), .second, .val (.long r_4), .second, .val (.long r_5), .second, .val (.ref b6), .val (.long r_11), .second, .val (.int (1 : Int32)), .val (.int (1 : Int32)), .val (.int (1 : Int32))] [(.int (1 : Int32))])) t_
    refine XS.ifYes Xc.here hx rfl (pc0 := 327) (pc' := 344) rfl (hb hby at_327) rfl ((if0 _ _).trans (feq (by decide : ¬ ((1 : Int32) = (0 : Int32)))).2) (by decide) (by decide) ?_
    show Steps p.tables e below (Tc.setTop (mkF m 344 #[.val (.long q1), .second, .val (.long q2), .second, .val (.long q3), .second, .val (.long q4), .second, .val (.int p5), .val (.long r_1), .second, .val (.int y2), .val (.long r_3), .second, .val (.long r_4), .second, .val (.long r_5), .second, .val (.ref b6), .val (.long r_11), .second, .val (.int (1 : Int32)), .val (.int (1 : Int32)), .val (.int (1 : Int32))] [])) t_
    refine XS.iconst Xc.here hx rfl (hb hby at_344) ?_
    show Steps p.tables e below (Tc.setTop (mkF m 345 #[.val (.long q1), .second, .val (.long q2), .second, .val (.long q3), .second, .val (.long q4), .second, .val (.int p5), .val (.long r_1), .second, .val (.int y2), .val (.long r_3), .second, .val (.long r_4), .second, .val (.long r_5), .second, .val (.ref b6), .val (.long r_11), .second, .val (.int (1 : Int32)), .val (.int (1 : Int32)), .val (.int (1 : Int32))] [(.int (1 : Int32))])) t_
    refine XS.goto Xc.here hx rfl (pc0 := 345) (pc' := 349) rfl (hb hby at_345) (by decide) (by decide) ?_
    exact k_
  obtain ⟨fs34, hr34, hrun34, hended34, hRW34⟩ := Xc.leaveW hS (by rw [ec]; exact hk) (v := some (.int (1 : Int32))) (fun h => by rw [hret] at h; cases h)
  refine ⟨_, _, ?_, hrun34, hended34, _, _, rfl, ?_, ?_, hRW34.1, hRW34.2.1, hRW34.2.2.1, hRW34.2.2.2.mono hcc_ hsc_⟩
  · exact retN Xc hx (t := .boolean) hret (by simp) (hb hby at_349) hr34
  · show Q_rm0 Z q1 q2 q3 q4 p5 cs sf dc kd h0 n0 _ Tc.heap _
    rw [ec]
    exact ⟨rfl, Nc, Kc0⟩
  · show CHr Z own_EL s.vm s.heap Tc.vm Tc.heap
    rw [hh, ec]
    exact Rc.trans (CHv.at Xc hZ hEL Rc.1)
set_option maxRecDepth 65536 in
set_option maxHeartbeats 40000000 in
theorem own_f0 (l : Launch) (Z : State) (a0 : Array Value) (hw : ∀ d ∈ tables_1, d.before a0 Z = true) (q1 : Int64) (q2 : Int64) (q3 : Int64) (q4 : Int64) (p5 : Int32) (cs : Int32) (sf : Value) (dc : Addr) (kd : ClassId) (r_1 : Int64) (y2 : Int32) (r_3 : Int64) (r_4 : Int64) (r_5 : Int64) (b6 : Addr) (r_11 : Int64) (h0 : Heap) (n0 : Nat) (Z0 : n0 ≤ h0.size) {p : Program} {e : Env} {s : State} {m : MethodId} {below : List Frame} {meth : Method} {c : Code} {Tc : State} {Hc : Heap} {locsc : List Loc} {vmc : Vm} {kc0 : Nat} {cc_ sc_ : Nat} (Xc : Stand p l e room_1 (s.setVm vmc) m #[(.long q1), (.long q2), (.long q3), (.long q4), (.int p5)] below meth c Tc locsc cc_ sc_) (hx : p.tables.exec = Jvm.exec) (hZ : Z.Warmed39 (s.setVm vmc).vm) (hby : c.code = code) (hml : c.maxLocals = 24) (hown : (s.setVm vmc).vm.findClass "com/example/firmline/firmline/analysis/InterferenceNextReleasePinLaw" = some m.cls) (hret : meth.sig.returnType = some .boolean) (hlk : meth.locks = false) (hh : s.heap = h0) (ec : Tc.heap = Hc) (Nc : Fr n0 locsc) (Kc0 : Keep h0 Hc []) (Oc : Old Z n0 Hc) (hS : s.Since vmc kc0) (hk : kc0 ≤ Hc.size) (hSA : ∀ a ∈ Bundle.stringAtoms, a.before a0 Z = true) (hEL : EW Z a0 own_EL) (Rc : CHr Z own_EL s.vm h0 vmc Hc) (hcc_ : cc_ ≤ room_1.cells) (hsc_ : sc_ ≤ room_1.slots) (hcs : ¬ (cs = (0 : Int32))) (hsf : sf.isRef = true) (hbd0 : 1 ≤ r_3.toInt ∧ r_3.toInt ≤ 1000000000000000) (hbd1 : 1 ≤ r_4.toInt ∧ r_4.toInt ≤ 1000000000000000) (hbd2 : 1 ≤ r_5.toInt ∧ r_5.toInt ≤ 1000000000000000) :
    ∃ U_ o_, Steps p.tables e below (Tc.setTop (mkF m 320 #[.val (.long q1), .second, .val (.long q2), .second, .val (.long q3), .second, .val (.long q4), .second, .val (.int p5), .val (.long r_1), .second, .val (.int y2), .val (.long r_3), .second, .val (.long r_4), .second, .val (.long r_5), .second, .val (.ref b6), .val (.long r_11), .second, .val (.int (1 : Int32)), .val (.int (1 : Int32)), .val (.int (0 : Int32))] [])) U_ ∧ U_.status = .running ∧ Ended U_ below o_ ∧ (∃ v_ L_, o_ = .returned v_ ∧ Q_rm0 Z q1 q2 q3 q4 p5 cs sf dc kd h0 n0 v_ U_.heap L_ ∧ CHr Z own_EL s.vm s.heap U_.vm U_.heap ∧ ReturnedEndW s o_ U_ L_ room_1.cells room_1.slots) := by
  refine own_go (A := Tc.setTop (mkF m 349 #[.val (.long q1), .second, .val (.long q2), .second, .val (.long q3), .second, .val (.long q4), .second, .val (.int p5), .val (.long r_1), .second, .val (.int y2), .val (.long r_3), .second, .val (.long r_4), .second, .val (.long r_5), .second, .val (.ref b6), .val (.long r_11), .second, .val (.int (1 : Int32)), .val (.int (1 : Int32)), .val (.int (0 : Int32))] [(.int (1 : Int32))])) (fun t_ k_ => ?_) ?_
  · show Steps p.tables e below (Tc.setTop (mkF m 320 #[.val (.long q1), .second, .val (.long q2), .second, .val (.long q3), .second, .val (.long q4), .second, .val (.int p5), .val (.long r_1), .second, .val (.int y2), .val (.long r_3), .second, .val (.long r_4), .second, .val (.long r_5), .second, .val (.ref b6), .val (.long r_11), .second, .val (.int (1 : Int32)), .val (.int (1 : Int32)), .val (.int (0 : Int32))] [])) t_
    refine XS.iload Xc.here hx rfl (hb hby at_320) rfl ?_
    show Steps p.tables e below (Tc.setTop (mkF m 322 #[.val (.long q1), .second, .val (.long q2), .second, .val (.long q3), .second, .val (.long q4), .second, .val (.int p5), .val (.long r_1), .second, .val (.int y2), .val (.long r_3), .second, .val (.long r_4), .second, .val (.long r_5), .second, .val (.ref b6), .val (.long r_11), .second, .val (.int (1 : Int32)), .val (.int (1 : Int32)), .val (.int (0 : Int32))] [(.int (1 : Int32))])) t_
    refine XS.ifNo Xc.here hx rfl (hb hby at_322) rfl ((if0 _ _).trans (feq (by decide : ¬ ((1 : Int32) = (0 : Int32)))).1) ?_
    show Steps p.tables e below (Tc.setTop (mkF m 325 #[.val (.long q1), .second, .val (.long q2), .second, .val (.long q3), .second, .val (.long q4), .second, .val (.int p5), .val (.long r_1), .second, .val (.int y2), .val (.long r_3), .second, .val (.long r_4), .second, .val (.long r_5), .second, .val (.ref b6), .val (.long r_11), .second, .val (.int (1 : Int32)), .val (.int (1 : Int32)), .val (.int (0 : Int32))] [])) t_
    refine XS.iload Xc.here hx rfl (hb hby at_325) rfl ?_
    show Steps p.tables e below (Tc.setTop (mkF m 327 #[.val (.long q1), .second, .val (.long q2), .second, .val (.long q3), .second, .val (.long q4), .second, .val (.int p5), .val (.long r_1), .second, .val (.int y2), .val (.long r_3), .second, .val (.long r_4), .second, .val (.long r_5), .second, .val (.ref b6), .val (.long r_11), .second, .val (.int (1 : Int32)), .val (.int (1 : Int32)), .val (.int (0 : Int32))] [(.int (1 : Int32))])) t_
    refine XS.ifYes Xc.here hx rfl (pc0 := 327) (pc' := 344) rfl (hb hby at_327) rfl ((if0 _ _).trans (feq (by decide : ¬ ((1 : Int32) = (0 : Int32)))).2) (by decide) (by decide) ?_
    show Steps p.tables e below (Tc.setTop (mkF m 344 #[.val (.long q1), .second, .val (.long q2), .second, .val (.long q3), .second, .val (.long q4), .second, .val (.int p5), .val (.long r_1), .second, .val (.int y2), .val (.long r_3), .second, .val (.long r_4), .second, .val (.long r_5), .second, .val (.ref b6), .val (.long r_11), .second, .val (.int (1 : Int32)), .val (.int (1 : Int32)), .val (.int (0 : Int32))] [])) t_
    refine XS.iconst Xc.here hx rfl (hb hby at_344) ?_
    show Steps p.tables e below (Tc.setTop (mkF m 345 #[.val (.long q1), .second, .val (.long q2), .second, .val (.long q3), .second, .val (.long q4), .second, .val (.int p5), .val (.long r_1), .second, .val (.int y2), .val (.long r_3), .second, .val (.long r_4), .second, .val (.long r_5), .second, .val (.ref b6), .val (.long r_11), .second, .val (.int (1 : Int32)), .val (.int (1 : Int32)), .val (.int (0 : Int32))] [(.int (1 : Int32))])) t_
    refine XS.goto Xc.here hx rfl (pc0 := 345) (pc' := 349) rfl (hb hby at_345) (by decide) (by decide) ?_
    exact k_
  obtain ⟨fs37, hr37, hrun37, hended37, hRW37⟩ := Xc.leaveW hS (by rw [ec]; exact hk) (v := some (.int (1 : Int32))) (fun h => by rw [hret] at h; cases h)
  refine ⟨_, _, ?_, hrun37, hended37, _, _, rfl, ?_, ?_, hRW37.1, hRW37.2.1, hRW37.2.2.1, hRW37.2.2.2.mono hcc_ hsc_⟩
  · exact retN Xc hx (t := .boolean) hret (by simp) (hb hby at_349) hr37
  · show Q_rm0 Z q1 q2 q3 q4 p5 cs sf dc kd h0 n0 _ Tc.heap _
    rw [ec]
    exact ⟨rfl, Nc, Kc0⟩
  · show CHr Z own_EL s.vm s.heap Tc.vm Tc.heap
    rw [hh, ec]
    exact Rc.trans (CHv.at Xc hZ hEL Rc.1)
set_option maxRecDepth 65536 in
set_option maxHeartbeats 40000000 in
theorem own_h297 (l : Launch) (Z : State) (a0 : Array Value) (hw : ∀ d ∈ tables_1, d.before a0 Z = true) (q1 : Int64) (q2 : Int64) (q3 : Int64) (q4 : Int64) (p5 : Int32) (cs : Int32) (sf : Value) (dc : Addr) (kd : ClassId) (r_1 : Int64) (y2 : Int32) (r_3 : Int64) (r_4 : Int64) (r_5 : Int64) (b6 : Addr) (r_11 : Int64) (h0 : Heap) (n0 : Nat) (Z0 : n0 ≤ h0.size) {p : Program} {e : Env} {s : State} {m : MethodId} {below : List Frame} {meth : Method} {c : Code} {Tc : State} {Hc : Heap} {locsc : List Loc} {vmc : Vm} {kc0 : Nat} {cc_ sc_ : Nat} (Xc : Stand p l e room_1 (s.setVm vmc) m #[(.long q1), (.long q2), (.long q3), (.long q4), (.int p5)] below meth c Tc locsc cc_ sc_) (hx : p.tables.exec = Jvm.exec) (hZ : Z.Warmed39 (s.setVm vmc).vm) (hby : c.code = code) (hml : c.maxLocals = 24) (hown : (s.setVm vmc).vm.findClass "com/example/firmline/firmline/analysis/InterferenceNextReleasePinLaw" = some m.cls) (hret : meth.sig.returnType = some .boolean) (hlk : meth.locks = false) (hh : s.heap = h0) (ec : Tc.heap = Hc) (Nc : Fr n0 locsc) (Kc0 : Keep h0 Hc []) (Oc : Old Z n0 Hc) (hS : s.Since vmc kc0) (hk : kc0 ≤ Hc.size) (hSA : ∀ a ∈ Bundle.stringAtoms, a.before a0 Z = true) (hEL : EW Z a0 own_EL) (Rc : CHr Z own_EL s.vm h0 vmc Hc) (hcc_ : cc_ ≤ room_1.cells) (hsc_ : sc_ ≤ room_1.slots) (hcs : ¬ (cs = (0 : Int32))) (hsf : sf.isRef = true) (hbd0 : 1 ≤ r_3.toInt ∧ r_3.toInt ≤ 1000000000000000) (hbd1 : 1 ≤ r_4.toInt ∧ r_4.toInt ≤ 1000000000000000) (hbd2 : 1 ≤ r_5.toInt ∧ r_5.toInt ≤ 1000000000000000) :
    ∃ U_ o_, Steps p.tables e below (Tc.setTop (mkF m 297 #[.val (.long q1), .second, .val (.long q2), .second, .val (.long q3), .second, .val (.long q4), .second, .val (.int p5), .val (.long r_1), .second, .val (.int y2), .val (.long r_3), .second, .val (.long r_4), .second, .val (.long r_5), .second, .val (.ref b6), .val (.long r_11), .second, .val (.int (1 : Int32)), .val (.int (1 : Int32)), .unset] [])) U_ ∧ U_.status = .running ∧ Ended U_ below o_ ∧ (∃ v_ L_, o_ = .returned v_ ∧ Q_rm0 Z q1 q2 q3 q4 p5 cs sf dc kd h0 n0 v_ U_.heap L_ ∧ CHr Z own_EL s.vm s.heap U_.vm U_.heap ∧ ReturnedEndW s o_ U_ L_ room_1.cells room_1.slots) := by
  refine own_go (A := Tc.setTop (mkF m 300 #[.val (.long q1), .second, .val (.long q2), .second, .val (.long q3), .second, .val (.long q4), .second, .val (.int p5), .val (.long r_1), .second, .val (.int y2), .val (.long r_3), .second, .val (.long r_4), .second, .val (.long r_5), .second, .val (.ref b6), .val (.long r_11), .second, .val (.int (1 : Int32)), .val (.int (1 : Int32)), .unset] [(.int (3 : Int32)), (.int y2)])) (fun t_ k_ => ?_) ?_
  · show Steps p.tables e below (Tc.setTop (mkF m 297 #[.val (.long q1), .second, .val (.long q2), .second, .val (.long q3), .second, .val (.long q4), .second, .val (.int p5), .val (.long r_1), .second, .val (.int y2), .val (.long r_3), .second, .val (.long r_4), .second, .val (.long r_5), .second, .val (.ref b6), .val (.long r_11), .second, .val (.int (1 : Int32)), .val (.int (1 : Int32)), .unset] [])) t_
    refine XS.iload Xc.here hx rfl (hb hby at_297) rfl ?_
    show Steps p.tables e below (Tc.setTop (mkF m 299 #[.val (.long q1), .second, .val (.long q2), .second, .val (.long q3), .second, .val (.long q4), .second, .val (.int p5), .val (.long r_1), .second, .val (.int y2), .val (.long r_3), .second, .val (.long r_4), .second, .val (.long r_5), .second, .val (.ref b6), .val (.long r_11), .second, .val (.int (1 : Int32)), .val (.int (1 : Int32)), .unset] [(.int y2)])) t_
    refine XS.iconst Xc.here hx rfl (hb hby at_299) ?_
    exact k_
  by_cases hc300_33 : y2 < (3 : Int32)
  · refine own_go (A := Tc.setTop (mkF m 320 #[.val (.long q1), .second, .val (.long q2), .second, .val (.long q3), .second, .val (.long q4), .second, .val (.int p5), .val (.long r_1), .second, .val (.int y2), .val (.long r_3), .second, .val (.long r_4), .second, .val (.long r_5), .second, .val (.ref b6), .val (.long r_11), .second, .val (.int (1 : Int32)), .val (.int (1 : Int32)), .val (.int (1 : Int32))] [])) (fun t_ k_ => ?_) ?_
    · show Steps p.tables e below (Tc.setTop (mkF m 300 #[.val (.long q1), .second, .val (.long q2), .second, .val (.long q3), .second, .val (.long q4), .second, .val (.int p5), .val (.long r_1), .second, .val (.int y2), .val (.long r_3), .second, .val (.long r_4), .second, .val (.long r_5), .second, .val (.ref b6), .val (.long r_11), .second, .val (.int (1 : Int32)), .val (.int (1 : Int32)), .unset] [(.int (3 : Int32)), (.int y2)])) t_
      refine XS.icmpYes Xc.here hx rfl (pc0 := 300) (pc' := 313) rfl (hb hby at_300) rfl (tlt hc300_33).1 (by decide) (by decide) ?_
      show Steps p.tables e below (Tc.setTop (mkF m 313 #[.val (.long q1), .second, .val (.long q2), .second, .val (.long q3), .second, .val (.long q4), .second, .val (.int p5), .val (.long r_1), .second, .val (.int y2), .val (.long r_3), .second, .val (.long r_4), .second, .val (.long r_5), .second, .val (.ref b6), .val (.long r_11), .second, .val (.int (1 : Int32)), .val (.int (1 : Int32)), .unset] [])) t_
      refine XS.iconst Xc.here hx rfl (hb hby at_313) ?_
      show Steps p.tables e below (Tc.setTop (mkF m 314 #[.val (.long q1), .second, .val (.long q2), .second, .val (.long q3), .second, .val (.long q4), .second, .val (.int p5), .val (.long r_1), .second, .val (.int y2), .val (.long r_3), .second, .val (.long r_4), .second, .val (.long r_5), .second, .val (.ref b6), .val (.long r_11), .second, .val (.int (1 : Int32)), .val (.int (1 : Int32)), .unset] [(.int (1 : Int32))])) t_
      refine XS.goto Xc.here hx rfl (pc0 := 314) (pc' := 318) rfl (hb hby at_314) (by decide) (by decide) ?_
      show Steps p.tables e below (Tc.setTop (mkF m 318 #[.val (.long q1), .second, .val (.long q2), .second, .val (.long q3), .second, .val (.long q4), .second, .val (.int p5), .val (.long r_1), .second, .val (.int y2), .val (.long r_3), .second, .val (.long r_4), .second, .val (.long r_5), .second, .val (.ref b6), .val (.long r_11), .second, .val (.int (1 : Int32)), .val (.int (1 : Int32)), .unset] [(.int (1 : Int32))])) t_
      refine XS.istore Xc.here hx rfl (hb hby at_318) rfl (l' := #[.val (.long q1), .second, .val (.long q2), .second, .val (.long q3), .second, .val (.long q4), .second, .val (.int p5), .val (.long r_1), .second, .val (.int y2), .val (.long r_3), .second, .val (.long r_4), .second, .val (.long r_5), .second, .val (.ref b6), .val (.long r_11), .second, .val (.int (1 : Int32)), .val (.int (1 : Int32)), .val (.int (1 : Int32))]) rfl ?_
      exact k_
    exact own_f1 l Z a0 hw q1 q2 q3 q4 p5 cs sf dc kd r_1 y2 r_3 r_4 r_5 b6 r_11 h0 n0 Z0 Xc hx hZ hby hml hown hret hlk hh ec Nc Kc0 Oc hS hk hSA hEL Rc hcc_ hsc_ hcs hsf hbd0 hbd1 hbd2
  · refine own_go (A := Tc.setTop (mkF m 307 #[.val (.long q1), .second, .val (.long q2), .second, .val (.long q3), .second, .val (.long q4), .second, .val (.int p5), .val (.long r_1), .second, .val (.int y2), .val (.long r_3), .second, .val (.long r_4), .second, .val (.long r_5), .second, .val (.ref b6), .val (.long r_11), .second, .val (.int (1 : Int32)), .val (.int (1 : Int32)), .unset] [(.long r_5), (.long r_1)])) (fun t_ k_ => ?_) ?_
    · show Steps p.tables e below (Tc.setTop (mkF m 300 #[.val (.long q1), .second, .val (.long q2), .second, .val (.long q3), .second, .val (.long q4), .second, .val (.int p5), .val (.long r_1), .second, .val (.int y2), .val (.long r_3), .second, .val (.long r_4), .second, .val (.long r_5), .second, .val (.ref b6), .val (.long r_11), .second, .val (.int (1 : Int32)), .val (.int (1 : Int32)), .unset] [(.int (3 : Int32)), (.int y2)])) t_
      refine XS.icmpNo Xc.here hx rfl (hb hby at_300) rfl (flt hc300_33).1 ?_
      show Steps p.tables e below (Tc.setTop (mkF m 303 #[.val (.long q1), .second, .val (.long q2), .second, .val (.long q3), .second, .val (.long q4), .second, .val (.int p5), .val (.long r_1), .second, .val (.int y2), .val (.long r_3), .second, .val (.long r_4), .second, .val (.long r_5), .second, .val (.ref b6), .val (.long r_11), .second, .val (.int (1 : Int32)), .val (.int (1 : Int32)), .unset] [])) t_
      refine XS.lload Xc.here hx rfl (hb hby at_303) rfl ?_
      show Steps p.tables e below (Tc.setTop (mkF m 305 #[.val (.long q1), .second, .val (.long q2), .second, .val (.long q3), .second, .val (.long q4), .second, .val (.int p5), .val (.long r_1), .second, .val (.int y2), .val (.long r_3), .second, .val (.long r_4), .second, .val (.long r_5), .second, .val (.ref b6), .val (.long r_11), .second, .val (.int (1 : Int32)), .val (.int (1 : Int32)), .unset] [(.long r_1)])) t_
      refine XS.lload Xc.here hx rfl (hb hby at_305) rfl ?_
      exact k_
    obtain ⟨_, _, ⟨T35, L35, k35, n35⟩, -, X35, ⟨Lc35, hQ35, l35, y35, z35⟩, st35⟩ := Jvm.LawKit.callS Xc hx (y := own_y38) hown (mvT hZ (own_w hw 235 rfl)) (mvT hZ (own_w hw 236 rfl)) (mvT hZ (own_w hw 7 rfl)) (mvT hZ (own_w hw 237 rfl)) (by decide) (backOf (W := 0) (rmBeyX l Z a0 hw [] r_1 r_5 Hc n0 (Nat.le_trans Z0 Kc0.1) (own_nz hbd2)) hZ (own_w hw 237 rfl) (own_w hw 7 rfl) (by decide) (by decide)) (g := (mkF m 307 #[.val (.long q1), .second, .val (.long q2), .second, .val (.long q3), .second, .val (.long q4), .second, .val (.int p5), .val (.long r_1), .second, .val (.int y2), .val (.long r_3), .second, .val (.long r_4), .second, .val (.long r_5), .second, .val (.ref b6), .val (.long r_11), .second, .val (.int (1 : Int32)), .val (.int (1 : Int32)), .unset] [(.long r_5), (.long r_1)])) rfl (by rw [hml]; rfl) (argsL := [(.long r_1), (.long r_5)]) (rest := []) (lenOf pd_23 rfl) rfl (by show 2 * 0 + _ ≤ _; exact Nat.le_of_eq rfl) (hb hby at_307) (fun _ _ => ⟨rfl, ec, hcc_, hsc_⟩)
    dsimp only [Pt.U, Pt.locs, Pt.cells, Pt.slots] at X35 l35 y35 z35 st35 hQ35
    subst l35 y35 z35
    obtain ⟨bo_35, rfl, N35q, eh35⟩ := hQ35
    have N35 := Fr.app Nc N35q
    refine own_go st35 ?_
    by_cases hc310_36 : bo_35 = (0 : Int32)
    · refine own_go (A := T35.setTop (mkF m 320 #[.val (.long q1), .second, .val (.long q2), .second, .val (.long q3), .second, .val (.long q4), .second, .val (.int p5), .val (.long r_1), .second, .val (.int y2), .val (.long r_3), .second, .val (.long r_4), .second, .val (.long r_5), .second, .val (.ref b6), .val (.long r_11), .second, .val (.int (1 : Int32)), .val (.int (1 : Int32)), .val (.int (0 : Int32))] [])) (fun t_ k_ => ?_) ?_
      · show Steps p.tables e below (T35.setTop (mkF m 310 #[.val (.long q1), .second, .val (.long q2), .second, .val (.long q3), .second, .val (.long q4), .second, .val (.int p5), .val (.long r_1), .second, .val (.int y2), .val (.long r_3), .second, .val (.long r_4), .second, .val (.long r_5), .second, .val (.ref b6), .val (.long r_11), .second, .val (.int (1 : Int32)), .val (.int (1 : Int32)), .unset] [(.int bo_35)])) t_
        refine XS.ifYes X35.here hx rfl (pc0 := 310) (pc' := 317) rfl (hb hby at_310) rfl ((if0 _ _).trans (teq hc310_36).1) (by decide) (by decide) ?_
        show Steps p.tables e below (T35.setTop (mkF m 317 #[.val (.long q1), .second, .val (.long q2), .second, .val (.long q3), .second, .val (.long q4), .second, .val (.int p5), .val (.long r_1), .second, .val (.int y2), .val (.long r_3), .second, .val (.long r_4), .second, .val (.long r_5), .second, .val (.ref b6), .val (.long r_11), .second, .val (.int (1 : Int32)), .val (.int (1 : Int32)), .unset] [])) t_
        refine XS.iconst X35.here hx rfl (hb hby at_317) ?_
        show Steps p.tables e below (T35.setTop (mkF m 318 #[.val (.long q1), .second, .val (.long q2), .second, .val (.long q3), .second, .val (.long q4), .second, .val (.int p5), .val (.long r_1), .second, .val (.int y2), .val (.long r_3), .second, .val (.long r_4), .second, .val (.long r_5), .second, .val (.ref b6), .val (.long r_11), .second, .val (.int (1 : Int32)), .val (.int (1 : Int32)), .unset] [(.int (0 : Int32))])) t_
        refine XS.istore X35.here hx rfl (hb hby at_318) rfl (l' := #[.val (.long q1), .second, .val (.long q2), .second, .val (.long q3), .second, .val (.long q4), .second, .val (.int p5), .val (.long r_1), .second, .val (.int y2), .val (.long r_3), .second, .val (.long r_4), .second, .val (.long r_5), .second, .val (.ref b6), .val (.long r_11), .second, .val (.int (1 : Int32)), .val (.int (1 : Int32)), .val (.int (0 : Int32))]) rfl ?_
        exact k_
      exact own_f0 l Z a0 hw q1 q2 q3 q4 p5 cs sf dc kd r_1 y2 r_3 r_4 r_5 b6 r_11 h0 n0 Z0 X35 hx hZ hby hml hown hret hlk hh eh35 N35 Kc0 Oc hS hk hSA hEL Rc hcc_ hsc_ hcs hsf hbd0 hbd1 hbd2
    · refine own_go (A := T35.setTop (mkF m 320 #[.val (.long q1), .second, .val (.long q2), .second, .val (.long q3), .second, .val (.long q4), .second, .val (.int p5), .val (.long r_1), .second, .val (.int y2), .val (.long r_3), .second, .val (.long r_4), .second, .val (.long r_5), .second, .val (.ref b6), .val (.long r_11), .second, .val (.int (1 : Int32)), .val (.int (1 : Int32)), .val (.int (1 : Int32))] [])) (fun t_ k_ => ?_) ?_
      · show Steps p.tables e below (T35.setTop (mkF m 310 #[.val (.long q1), .second, .val (.long q2), .second, .val (.long q3), .second, .val (.long q4), .second, .val (.int p5), .val (.long r_1), .second, .val (.int y2), .val (.long r_3), .second, .val (.long r_4), .second, .val (.long r_5), .second, .val (.ref b6), .val (.long r_11), .second, .val (.int (1 : Int32)), .val (.int (1 : Int32)), .unset] [(.int bo_35)])) t_
        refine XS.ifNo X35.here hx rfl (hb hby at_310) rfl ((if0 _ _).trans (feq hc310_36).1) ?_
        show Steps p.tables e below (T35.setTop (mkF m 313 #[.val (.long q1), .second, .val (.long q2), .second, .val (.long q3), .second, .val (.long q4), .second, .val (.int p5), .val (.long r_1), .second, .val (.int y2), .val (.long r_3), .second, .val (.long r_4), .second, .val (.long r_5), .second, .val (.ref b6), .val (.long r_11), .second, .val (.int (1 : Int32)), .val (.int (1 : Int32)), .unset] [])) t_
        refine XS.iconst X35.here hx rfl (hb hby at_313) ?_
        show Steps p.tables e below (T35.setTop (mkF m 314 #[.val (.long q1), .second, .val (.long q2), .second, .val (.long q3), .second, .val (.long q4), .second, .val (.int p5), .val (.long r_1), .second, .val (.int y2), .val (.long r_3), .second, .val (.long r_4), .second, .val (.long r_5), .second, .val (.ref b6), .val (.long r_11), .second, .val (.int (1 : Int32)), .val (.int (1 : Int32)), .unset] [(.int (1 : Int32))])) t_
        refine XS.goto X35.here hx rfl (pc0 := 314) (pc' := 318) rfl (hb hby at_314) (by decide) (by decide) ?_
        show Steps p.tables e below (T35.setTop (mkF m 318 #[.val (.long q1), .second, .val (.long q2), .second, .val (.long q3), .second, .val (.long q4), .second, .val (.int p5), .val (.long r_1), .second, .val (.int y2), .val (.long r_3), .second, .val (.long r_4), .second, .val (.long r_5), .second, .val (.ref b6), .val (.long r_11), .second, .val (.int (1 : Int32)), .val (.int (1 : Int32)), .unset] [(.int (1 : Int32))])) t_
        refine XS.istore X35.here hx rfl (hb hby at_318) rfl (l' := #[.val (.long q1), .second, .val (.long q2), .second, .val (.long q3), .second, .val (.long q4), .second, .val (.int p5), .val (.long r_1), .second, .val (.int y2), .val (.long r_3), .second, .val (.long r_4), .second, .val (.long r_5), .second, .val (.ref b6), .val (.long r_11), .second, .val (.int (1 : Int32)), .val (.int (1 : Int32)), .val (.int (1 : Int32))]) rfl ?_
        exact k_
      exact own_f1 l Z a0 hw q1 q2 q3 q4 p5 cs sf dc kd r_1 y2 r_3 r_4 r_5 b6 r_11 h0 n0 Z0 X35 hx hZ hby hml hown hret hlk hh eh35 N35 Kc0 Oc hS hk hSA hEL Rc hcc_ hsc_ hcs hsf hbd0 hbd1 hbd2
set_option maxRecDepth 65536 in
set_option maxHeartbeats 40000000 in
theorem own_h281 (l : Launch) (Z : State) (a0 : Array Value) (hw : ∀ d ∈ tables_1, d.before a0 Z = true) (q1 : Int64) (q2 : Int64) (q3 : Int64) (q4 : Int64) (p5 : Int32) (cs : Int32) (sf : Value) (dc : Addr) (kd : ClassId) (r_1 : Int64) (y2 : Int32) (r_3 : Int64) (r_4 : Int64) (r_5 : Int64) (b6 : Addr) (r_11 : Int64) (h0 : Heap) (n0 : Nat) (Z0 : n0 ≤ h0.size) {p : Program} {e : Env} {s : State} {m : MethodId} {below : List Frame} {meth : Method} {c : Code} {Tc : State} {Hc : Heap} {locsc : List Loc} {vmc : Vm} {kc0 : Nat} {cc_ sc_ : Nat} (Xc : Stand p l e room_1 (s.setVm vmc) m #[(.long q1), (.long q2), (.long q3), (.long q4), (.int p5)] below meth c Tc locsc cc_ sc_) (hx : p.tables.exec = Jvm.exec) (hZ : Z.Warmed39 (s.setVm vmc).vm) (hby : c.code = code) (hml : c.maxLocals = 24) (hown : (s.setVm vmc).vm.findClass "com/example/firmline/firmline/analysis/InterferenceNextReleasePinLaw" = some m.cls) (hret : meth.sig.returnType = some .boolean) (hlk : meth.locks = false) (hh : s.heap = h0) (ec : Tc.heap = Hc) (Nc : Fr n0 locsc) (Kc0 : Keep h0 Hc []) (Oc : Old Z n0 Hc) (hS : s.Since vmc kc0) (hk : kc0 ≤ Hc.size) (hSA : ∀ a ∈ Bundle.stringAtoms, a.before a0 Z = true) (hEL : EW Z a0 own_EL) (Rc : CHr Z own_EL s.vm h0 vmc Hc) (hcc_ : cc_ ≤ room_1.cells) (hsc_ : sc_ ≤ room_1.slots) (hcs : ¬ (cs = (0 : Int32))) (hsf : sf.isRef = true) (hbd0 : 1 ≤ r_3.toInt ∧ r_3.toInt ≤ 1000000000000000) (hbd1 : 1 ≤ r_4.toInt ∧ r_4.toInt ≤ 1000000000000000) (hbd2 : 1 ≤ r_5.toInt ∧ r_5.toInt ≤ 1000000000000000) :
    ∃ U_ o_, Steps p.tables e below (Tc.setTop (mkF m 281 #[.val (.long q1), .second, .val (.long q2), .second, .val (.long q3), .second, .val (.long q4), .second, .val (.int p5), .val (.long r_1), .second, .val (.int y2), .val (.long r_3), .second, .val (.long r_4), .second, .val (.long r_5), .second, .val (.ref b6), .val (.long r_11), .second, .val (.int (1 : Int32)), .val (.int (1 : Int32)), .unset] [])) U_ ∧ U_.status = .running ∧ Ended U_ below o_ ∧ (∃ v_ L_, o_ = .returned v_ ∧ Q_rm0 Z q1 q2 q3 q4 p5 cs sf dc kd h0 n0 v_ U_.heap L_ ∧ CHr Z own_EL s.vm s.heap U_.vm U_.heap ∧ ReturnedEndW s o_ U_ L_ room_1.cells room_1.slots) := by
  refine own_go (A := Tc.setTop (mkF m 284 #[.val (.long q1), .second, .val (.long q2), .second, .val (.long q3), .second, .val (.long q4), .second, .val (.int p5), .val (.long r_1), .second, .val (.int y2), .val (.long r_3), .second, .val (.long r_4), .second, .val (.long r_5), .second, .val (.ref b6), .val (.long r_11), .second, .val (.int (1 : Int32)), .val (.int (1 : Int32)), .unset] [(.int (2 : Int32)), (.int y2)])) (fun t_ k_ => ?_) ?_
  · show Steps p.tables e below (Tc.setTop (mkF m 281 #[.val (.long q1), .second, .val (.long q2), .second, .val (.long q3), .second, .val (.long q4), .second, .val (.int p5), .val (.long r_1), .second, .val (.int y2), .val (.long r_3), .second, .val (.long r_4), .second, .val (.long r_5), .second, .val (.ref b6), .val (.long r_11), .second, .val (.int (1 : Int32)), .val (.int (1 : Int32)), .unset] [])) t_
    refine XS.iload Xc.here hx rfl (hb hby at_281) rfl ?_
    show Steps p.tables e below (Tc.setTop (mkF m 283 #[.val (.long q1), .second, .val (.long q2), .second, .val (.long q3), .second, .val (.long q4), .second, .val (.int p5), .val (.long r_1), .second, .val (.int y2), .val (.long r_3), .second, .val (.long r_4), .second, .val (.long r_5), .second, .val (.ref b6), .val (.long r_11), .second, .val (.int (1 : Int32)), .val (.int (1 : Int32)), .unset] [(.int y2)])) t_
    refine XS.iconst Xc.here hx rfl (hb hby at_283) ?_
    exact k_
  by_cases hc284_32 : y2 < (2 : Int32)
  · refine own_go (A := Tc.setTop (mkF m 297 #[.val (.long q1), .second, .val (.long q2), .second, .val (.long q3), .second, .val (.long q4), .second, .val (.int p5), .val (.long r_1), .second, .val (.int y2), .val (.long r_3), .second, .val (.long r_4), .second, .val (.long r_5), .second, .val (.ref b6), .val (.long r_11), .second, .val (.int (1 : Int32)), .val (.int (1 : Int32)), .unset] [])) (fun t_ k_ => ?_) ?_
    · show Steps p.tables e below (Tc.setTop (mkF m 284 #[.val (.long q1), .second, .val (.long q2), .second, .val (.long q3), .second, .val (.long q4), .second, .val (.int p5), .val (.long r_1), .second, .val (.int y2), .val (.long r_3), .second, .val (.long r_4), .second, .val (.long r_5), .second, .val (.ref b6), .val (.long r_11), .second, .val (.int (1 : Int32)), .val (.int (1 : Int32)), .unset] [(.int (2 : Int32)), (.int y2)])) t_
      refine XS.icmpYes Xc.here hx rfl (pc0 := 284) (pc' := 297) rfl (hb hby at_284) rfl (tlt hc284_32).1 (by decide) (by decide) ?_
      exact k_
    exact own_h297 l Z a0 hw q1 q2 q3 q4 p5 cs sf dc kd r_1 y2 r_3 r_4 r_5 b6 r_11 h0 n0 Z0 Xc hx hZ hby hml hown hret hlk hh ec Nc Kc0 Oc hS hk hSA hEL Rc hcc_ hsc_ hcs hsf hbd0 hbd1 hbd2
  · refine own_go (A := Tc.setTop (mkF m 291 #[.val (.long q1), .second, .val (.long q2), .second, .val (.long q3), .second, .val (.long q4), .second, .val (.int p5), .val (.long r_1), .second, .val (.int y2), .val (.long r_3), .second, .val (.long r_4), .second, .val (.long r_5), .second, .val (.ref b6), .val (.long r_11), .second, .val (.int (1 : Int32)), .val (.int (1 : Int32)), .unset] [(.long r_4), (.long r_1)])) (fun t_ k_ => ?_) ?_
    · show Steps p.tables e below (Tc.setTop (mkF m 284 #[.val (.long q1), .second, .val (.long q2), .second, .val (.long q3), .second, .val (.long q4), .second, .val (.int p5), .val (.long r_1), .second, .val (.int y2), .val (.long r_3), .second, .val (.long r_4), .second, .val (.long r_5), .second, .val (.ref b6), .val (.long r_11), .second, .val (.int (1 : Int32)), .val (.int (1 : Int32)), .unset] [(.int (2 : Int32)), (.int y2)])) t_
      refine XS.icmpNo Xc.here hx rfl (hb hby at_284) rfl (flt hc284_32).1 ?_
      show Steps p.tables e below (Tc.setTop (mkF m 287 #[.val (.long q1), .second, .val (.long q2), .second, .val (.long q3), .second, .val (.long q4), .second, .val (.int p5), .val (.long r_1), .second, .val (.int y2), .val (.long r_3), .second, .val (.long r_4), .second, .val (.long r_5), .second, .val (.ref b6), .val (.long r_11), .second, .val (.int (1 : Int32)), .val (.int (1 : Int32)), .unset] [])) t_
      refine XS.lload Xc.here hx rfl (hb hby at_287) rfl ?_
      show Steps p.tables e below (Tc.setTop (mkF m 289 #[.val (.long q1), .second, .val (.long q2), .second, .val (.long q3), .second, .val (.long q4), .second, .val (.int p5), .val (.long r_1), .second, .val (.int y2), .val (.long r_3), .second, .val (.long r_4), .second, .val (.long r_5), .second, .val (.ref b6), .val (.long r_11), .second, .val (.int (1 : Int32)), .val (.int (1 : Int32)), .unset] [(.long r_1)])) t_
      refine XS.lload Xc.here hx rfl (hb hby at_289) rfl ?_
      exact k_
    obtain ⟨_, _, ⟨T38, L38, k38, n38⟩, -, X38, ⟨Lc38, hQ38, l38, y38, z38⟩, st38⟩ := Jvm.LawKit.callS Xc hx (y := own_y38) hown (mvT hZ (own_w hw 235 rfl)) (mvT hZ (own_w hw 236 rfl)) (mvT hZ (own_w hw 7 rfl)) (mvT hZ (own_w hw 237 rfl)) (by decide) (backOf (W := 0) (rmBeyX l Z a0 hw [] r_1 r_4 Hc n0 (Nat.le_trans Z0 Kc0.1) (own_nz hbd1)) hZ (own_w hw 237 rfl) (own_w hw 7 rfl) (by decide) (by decide)) (g := (mkF m 291 #[.val (.long q1), .second, .val (.long q2), .second, .val (.long q3), .second, .val (.long q4), .second, .val (.int p5), .val (.long r_1), .second, .val (.int y2), .val (.long r_3), .second, .val (.long r_4), .second, .val (.long r_5), .second, .val (.ref b6), .val (.long r_11), .second, .val (.int (1 : Int32)), .val (.int (1 : Int32)), .unset] [(.long r_4), (.long r_1)])) rfl (by rw [hml]; rfl) (argsL := [(.long r_1), (.long r_4)]) (rest := []) (lenOf pd_23 rfl) rfl (by show 2 * 0 + _ ≤ _; exact Nat.le_of_eq rfl) (hb hby at_291) (fun _ _ => ⟨rfl, ec, hcc_, hsc_⟩)
    dsimp only [Pt.U, Pt.locs, Pt.cells, Pt.slots] at X38 l38 y38 z38 st38 hQ38
    subst l38 y38 z38
    obtain ⟨bo_38, rfl, N38q, eh38⟩ := hQ38
    have N38 := Fr.app Nc N38q
    refine own_go st38 ?_
    by_cases hc294_39 : bo_38 = (0 : Int32)
    · refine own_go (A := T38.setTop (mkF m 320 #[.val (.long q1), .second, .val (.long q2), .second, .val (.long q3), .second, .val (.long q4), .second, .val (.int p5), .val (.long r_1), .second, .val (.int y2), .val (.long r_3), .second, .val (.long r_4), .second, .val (.long r_5), .second, .val (.ref b6), .val (.long r_11), .second, .val (.int (1 : Int32)), .val (.int (1 : Int32)), .val (.int (0 : Int32))] [])) (fun t_ k_ => ?_) ?_
      · show Steps p.tables e below (T38.setTop (mkF m 294 #[.val (.long q1), .second, .val (.long q2), .second, .val (.long q3), .second, .val (.long q4), .second, .val (.int p5), .val (.long r_1), .second, .val (.int y2), .val (.long r_3), .second, .val (.long r_4), .second, .val (.long r_5), .second, .val (.ref b6), .val (.long r_11), .second, .val (.int (1 : Int32)), .val (.int (1 : Int32)), .unset] [(.int bo_38)])) t_
        refine XS.ifYes X38.here hx rfl (pc0 := 294) (pc' := 317) rfl (hb hby at_294) rfl ((if0 _ _).trans (teq hc294_39).1) (by decide) (by decide) ?_
        show Steps p.tables e below (T38.setTop (mkF m 317 #[.val (.long q1), .second, .val (.long q2), .second, .val (.long q3), .second, .val (.long q4), .second, .val (.int p5), .val (.long r_1), .second, .val (.int y2), .val (.long r_3), .second, .val (.long r_4), .second, .val (.long r_5), .second, .val (.ref b6), .val (.long r_11), .second, .val (.int (1 : Int32)), .val (.int (1 : Int32)), .unset] [])) t_
        refine XS.iconst X38.here hx rfl (hb hby at_317) ?_
        show Steps p.tables e below (T38.setTop (mkF m 318 #[.val (.long q1), .second, .val (.long q2), .second, .val (.long q3), .second, .val (.long q4), .second, .val (.int p5), .val (.long r_1), .second, .val (.int y2), .val (.long r_3), .second, .val (.long r_4), .second, .val (.long r_5), .second, .val (.ref b6), .val (.long r_11), .second, .val (.int (1 : Int32)), .val (.int (1 : Int32)), .unset] [(.int (0 : Int32))])) t_
        refine XS.istore X38.here hx rfl (hb hby at_318) rfl (l' := #[.val (.long q1), .second, .val (.long q2), .second, .val (.long q3), .second, .val (.long q4), .second, .val (.int p5), .val (.long r_1), .second, .val (.int y2), .val (.long r_3), .second, .val (.long r_4), .second, .val (.long r_5), .second, .val (.ref b6), .val (.long r_11), .second, .val (.int (1 : Int32)), .val (.int (1 : Int32)), .val (.int (0 : Int32))]) rfl ?_
        exact k_
      exact own_f0 l Z a0 hw q1 q2 q3 q4 p5 cs sf dc kd r_1 y2 r_3 r_4 r_5 b6 r_11 h0 n0 Z0 X38 hx hZ hby hml hown hret hlk hh eh38 N38 Kc0 Oc hS hk hSA hEL Rc hcc_ hsc_ hcs hsf hbd0 hbd1 hbd2
    · refine own_go (A := T38.setTop (mkF m 297 #[.val (.long q1), .second, .val (.long q2), .second, .val (.long q3), .second, .val (.long q4), .second, .val (.int p5), .val (.long r_1), .second, .val (.int y2), .val (.long r_3), .second, .val (.long r_4), .second, .val (.long r_5), .second, .val (.ref b6), .val (.long r_11), .second, .val (.int (1 : Int32)), .val (.int (1 : Int32)), .unset] [])) (fun t_ k_ => ?_) ?_
      · show Steps p.tables e below (T38.setTop (mkF m 294 #[.val (.long q1), .second, .val (.long q2), .second, .val (.long q3), .second, .val (.long q4), .second, .val (.int p5), .val (.long r_1), .second, .val (.int y2), .val (.long r_3), .second, .val (.long r_4), .second, .val (.long r_5), .second, .val (.ref b6), .val (.long r_11), .second, .val (.int (1 : Int32)), .val (.int (1 : Int32)), .unset] [(.int bo_38)])) t_
        refine XS.ifNo X38.here hx rfl (hb hby at_294) rfl ((if0 _ _).trans (feq hc294_39).1) ?_
        exact k_
      exact own_h297 l Z a0 hw q1 q2 q3 q4 p5 cs sf dc kd r_1 y2 r_3 r_4 r_5 b6 r_11 h0 n0 Z0 X38 hx hZ hby hml hown hret hlk hh eh38 N38 Kc0 Oc hS hk hSA hEL Rc hcc_ hsc_ hcs hsf hbd0 hbd1 hbd2
set_option maxRecDepth 65536 in
set_option maxHeartbeats 40000000 in
theorem own_h265 (l : Launch) (Z : State) (a0 : Array Value) (hw : ∀ d ∈ tables_1, d.before a0 Z = true) (q1 : Int64) (q2 : Int64) (q3 : Int64) (q4 : Int64) (p5 : Int32) (cs : Int32) (sf : Value) (dc : Addr) (kd : ClassId) (r_1 : Int64) (y2 : Int32) (r_3 : Int64) (r_4 : Int64) (r_5 : Int64) (b6 : Addr) (r_11 : Int64) (h0 : Heap) (n0 : Nat) (Z0 : n0 ≤ h0.size) {p : Program} {e : Env} {s : State} {m : MethodId} {below : List Frame} {meth : Method} {c : Code} {Tc : State} {Hc : Heap} {locsc : List Loc} {vmc : Vm} {kc0 : Nat} {cc_ sc_ : Nat} (Xc : Stand p l e room_1 (s.setVm vmc) m #[(.long q1), (.long q2), (.long q3), (.long q4), (.int p5)] below meth c Tc locsc cc_ sc_) (hx : p.tables.exec = Jvm.exec) (hZ : Z.Warmed39 (s.setVm vmc).vm) (hby : c.code = code) (hml : c.maxLocals = 24) (hown : (s.setVm vmc).vm.findClass "com/example/firmline/firmline/analysis/InterferenceNextReleasePinLaw" = some m.cls) (hret : meth.sig.returnType = some .boolean) (hlk : meth.locks = false) (hh : s.heap = h0) (ec : Tc.heap = Hc) (Nc : Fr n0 locsc) (Kc0 : Keep h0 Hc []) (Oc : Old Z n0 Hc) (hS : s.Since vmc kc0) (hk : kc0 ≤ Hc.size) (hSA : ∀ a ∈ Bundle.stringAtoms, a.before a0 Z = true) (hEL : EW Z a0 own_EL) (Rc : CHr Z own_EL s.vm h0 vmc Hc) (hcc_ : cc_ ≤ room_1.cells) (hsc_ : sc_ ≤ room_1.slots) (hcs : ¬ (cs = (0 : Int32))) (hsf : sf.isRef = true) (hbd0 : 1 ≤ r_3.toInt ∧ r_3.toInt ≤ 1000000000000000) (hbd1 : 1 ≤ r_4.toInt ∧ r_4.toInt ≤ 1000000000000000) (hbd2 : 1 ≤ r_5.toInt ∧ r_5.toInt ≤ 1000000000000000) :
    ∃ U_ o_, Steps p.tables e below (Tc.setTop (mkF m 265 #[.val (.long q1), .second, .val (.long q2), .second, .val (.long q3), .second, .val (.long q4), .second, .val (.int p5), .val (.long r_1), .second, .val (.int y2), .val (.long r_3), .second, .val (.long r_4), .second, .val (.long r_5), .second, .val (.ref b6), .val (.long r_11), .second, .val (.int (1 : Int32)), .val (.int (1 : Int32)), .unset] [])) U_ ∧ U_.status = .running ∧ Ended U_ below o_ ∧ (∃ v_ L_, o_ = .returned v_ ∧ Q_rm0 Z q1 q2 q3 q4 p5 cs sf dc kd h0 n0 v_ U_.heap L_ ∧ CHr Z own_EL s.vm s.heap U_.vm U_.heap ∧ ReturnedEndW s o_ U_ L_ room_1.cells room_1.slots) := by
  refine own_go (A := Tc.setTop (mkF m 268 #[.val (.long q1), .second, .val (.long q2), .second, .val (.long q3), .second, .val (.long q4), .second, .val (.int p5), .val (.long r_1), .second, .val (.int y2), .val (.long r_3), .second, .val (.long r_4), .second, .val (.long r_5), .second, .val (.ref b6), .val (.long r_11), .second, .val (.int (1 : Int32)), .val (.int (1 : Int32)), .unset] [(.int (1 : Int32)), (.int y2)])) (fun t_ k_ => ?_) ?_
  · show Steps p.tables e below (Tc.setTop (mkF m 265 #[.val (.long q1), .second, .val (.long q2), .second, .val (.long q3), .second, .val (.long q4), .second, .val (.int p5), .val (.long r_1), .second, .val (.int y2), .val (.long r_3), .second, .val (.long r_4), .second, .val (.long r_5), .second, .val (.ref b6), .val (.long r_11), .second, .val (.int (1 : Int32)), .val (.int (1 : Int32)), .unset] [])) t_
    refine XS.iload Xc.here hx rfl (hb hby at_265) rfl ?_
    show Steps p.tables e below (Tc.setTop (mkF m 267 #[.val (.long q1), .second, .val (.long q2), .second, .val (.long q3), .second, .val (.long q4), .second, .val (.int p5), .val (.long r_1), .second, .val (.int y2), .val (.long r_3), .second, .val (.long r_4), .second, .val (.long r_5), .second, .val (.ref b6), .val (.long r_11), .second, .val (.int (1 : Int32)), .val (.int (1 : Int32)), .unset] [(.int y2)])) t_
    refine XS.iconst Xc.here hx rfl (hb hby at_267) ?_
    exact k_
  by_cases hc268_31 : y2 < (1 : Int32)
  · refine own_go (A := Tc.setTop (mkF m 281 #[.val (.long q1), .second, .val (.long q2), .second, .val (.long q3), .second, .val (.long q4), .second, .val (.int p5), .val (.long r_1), .second, .val (.int y2), .val (.long r_3), .second, .val (.long r_4), .second, .val (.long r_5), .second, .val (.ref b6), .val (.long r_11), .second, .val (.int (1 : Int32)), .val (.int (1 : Int32)), .unset] [])) (fun t_ k_ => ?_) ?_
    · show Steps p.tables e below (Tc.setTop (mkF m 268 #[.val (.long q1), .second, .val (.long q2), .second, .val (.long q3), .second, .val (.long q4), .second, .val (.int p5), .val (.long r_1), .second, .val (.int y2), .val (.long r_3), .second, .val (.long r_4), .second, .val (.long r_5), .second, .val (.ref b6), .val (.long r_11), .second, .val (.int (1 : Int32)), .val (.int (1 : Int32)), .unset] [(.int (1 : Int32)), (.int y2)])) t_
      refine XS.icmpYes Xc.here hx rfl (pc0 := 268) (pc' := 281) rfl (hb hby at_268) rfl (tlt hc268_31).1 (by decide) (by decide) ?_
      exact k_
    exact own_h281 l Z a0 hw q1 q2 q3 q4 p5 cs sf dc kd r_1 y2 r_3 r_4 r_5 b6 r_11 h0 n0 Z0 Xc hx hZ hby hml hown hret hlk hh ec Nc Kc0 Oc hS hk hSA hEL Rc hcc_ hsc_ hcs hsf hbd0 hbd1 hbd2
  · refine own_go (A := Tc.setTop (mkF m 275 #[.val (.long q1), .second, .val (.long q2), .second, .val (.long q3), .second, .val (.long q4), .second, .val (.int p5), .val (.long r_1), .second, .val (.int y2), .val (.long r_3), .second, .val (.long r_4), .second, .val (.long r_5), .second, .val (.ref b6), .val (.long r_11), .second, .val (.int (1 : Int32)), .val (.int (1 : Int32)), .unset] [(.long r_3), (.long r_1)])) (fun t_ k_ => ?_) ?_
    · show Steps p.tables e below (Tc.setTop (mkF m 268 #[.val (.long q1), .second, .val (.long q2), .second, .val (.long q3), .second, .val (.long q4), .second, .val (.int p5), .val (.long r_1), .second, .val (.int y2), .val (.long r_3), .second, .val (.long r_4), .second, .val (.long r_5), .second, .val (.ref b6), .val (.long r_11), .second, .val (.int (1 : Int32)), .val (.int (1 : Int32)), .unset] [(.int (1 : Int32)), (.int y2)])) t_
      refine XS.icmpNo Xc.here hx rfl (hb hby at_268) rfl (flt hc268_31).1 ?_
      show Steps p.tables e below (Tc.setTop (mkF m 271 #[.val (.long q1), .second, .val (.long q2), .second, .val (.long q3), .second, .val (.long q4), .second, .val (.int p5), .val (.long r_1), .second, .val (.int y2), .val (.long r_3), .second, .val (.long r_4), .second, .val (.long r_5), .second, .val (.ref b6), .val (.long r_11), .second, .val (.int (1 : Int32)), .val (.int (1 : Int32)), .unset] [])) t_
      refine XS.lload Xc.here hx rfl (hb hby at_271) rfl ?_
      show Steps p.tables e below (Tc.setTop (mkF m 273 #[.val (.long q1), .second, .val (.long q2), .second, .val (.long q3), .second, .val (.long q4), .second, .val (.int p5), .val (.long r_1), .second, .val (.int y2), .val (.long r_3), .second, .val (.long r_4), .second, .val (.long r_5), .second, .val (.ref b6), .val (.long r_11), .second, .val (.int (1 : Int32)), .val (.int (1 : Int32)), .unset] [(.long r_1)])) t_
      refine XS.lload Xc.here hx rfl (hb hby at_273) rfl ?_
      exact k_
    obtain ⟨_, _, ⟨T40, L40, k40, n40⟩, -, X40, ⟨Lc40, hQ40, l40, y40, z40⟩, st40⟩ := Jvm.LawKit.callS Xc hx (y := own_y38) hown (mvT hZ (own_w hw 235 rfl)) (mvT hZ (own_w hw 236 rfl)) (mvT hZ (own_w hw 7 rfl)) (mvT hZ (own_w hw 237 rfl)) (by decide) (backOf (W := 0) (rmBeyX l Z a0 hw [] r_1 r_3 Hc n0 (Nat.le_trans Z0 Kc0.1) (own_nz hbd0)) hZ (own_w hw 237 rfl) (own_w hw 7 rfl) (by decide) (by decide)) (g := (mkF m 275 #[.val (.long q1), .second, .val (.long q2), .second, .val (.long q3), .second, .val (.long q4), .second, .val (.int p5), .val (.long r_1), .second, .val (.int y2), .val (.long r_3), .second, .val (.long r_4), .second, .val (.long r_5), .second, .val (.ref b6), .val (.long r_11), .second, .val (.int (1 : Int32)), .val (.int (1 : Int32)), .unset] [(.long r_3), (.long r_1)])) rfl (by rw [hml]; rfl) (argsL := [(.long r_1), (.long r_3)]) (rest := []) (lenOf pd_23 rfl) rfl (by show 2 * 0 + _ ≤ _; exact Nat.le_of_eq rfl) (hb hby at_275) (fun _ _ => ⟨rfl, ec, hcc_, hsc_⟩)
    dsimp only [Pt.U, Pt.locs, Pt.cells, Pt.slots] at X40 l40 y40 z40 st40 hQ40
    subst l40 y40 z40
    obtain ⟨bo_40, rfl, N40q, eh40⟩ := hQ40
    have N40 := Fr.app Nc N40q
    refine own_go st40 ?_
    by_cases hc278_41 : bo_40 = (0 : Int32)
    · refine own_go (A := T40.setTop (mkF m 320 #[.val (.long q1), .second, .val (.long q2), .second, .val (.long q3), .second, .val (.long q4), .second, .val (.int p5), .val (.long r_1), .second, .val (.int y2), .val (.long r_3), .second, .val (.long r_4), .second, .val (.long r_5), .second, .val (.ref b6), .val (.long r_11), .second, .val (.int (1 : Int32)), .val (.int (1 : Int32)), .val (.int (0 : Int32))] [])) (fun t_ k_ => ?_) ?_
      · show Steps p.tables e below (T40.setTop (mkF m 278 #[.val (.long q1), .second, .val (.long q2), .second, .val (.long q3), .second, .val (.long q4), .second, .val (.int p5), .val (.long r_1), .second, .val (.int y2), .val (.long r_3), .second, .val (.long r_4), .second, .val (.long r_5), .second, .val (.ref b6), .val (.long r_11), .second, .val (.int (1 : Int32)), .val (.int (1 : Int32)), .unset] [(.int bo_40)])) t_
        refine XS.ifYes X40.here hx rfl (pc0 := 278) (pc' := 317) rfl (hb hby at_278) rfl ((if0 _ _).trans (teq hc278_41).1) (by decide) (by decide) ?_
        show Steps p.tables e below (T40.setTop (mkF m 317 #[.val (.long q1), .second, .val (.long q2), .second, .val (.long q3), .second, .val (.long q4), .second, .val (.int p5), .val (.long r_1), .second, .val (.int y2), .val (.long r_3), .second, .val (.long r_4), .second, .val (.long r_5), .second, .val (.ref b6), .val (.long r_11), .second, .val (.int (1 : Int32)), .val (.int (1 : Int32)), .unset] [])) t_
        refine XS.iconst X40.here hx rfl (hb hby at_317) ?_
        show Steps p.tables e below (T40.setTop (mkF m 318 #[.val (.long q1), .second, .val (.long q2), .second, .val (.long q3), .second, .val (.long q4), .second, .val (.int p5), .val (.long r_1), .second, .val (.int y2), .val (.long r_3), .second, .val (.long r_4), .second, .val (.long r_5), .second, .val (.ref b6), .val (.long r_11), .second, .val (.int (1 : Int32)), .val (.int (1 : Int32)), .unset] [(.int (0 : Int32))])) t_
        refine XS.istore X40.here hx rfl (hb hby at_318) rfl (l' := #[.val (.long q1), .second, .val (.long q2), .second, .val (.long q3), .second, .val (.long q4), .second, .val (.int p5), .val (.long r_1), .second, .val (.int y2), .val (.long r_3), .second, .val (.long r_4), .second, .val (.long r_5), .second, .val (.ref b6), .val (.long r_11), .second, .val (.int (1 : Int32)), .val (.int (1 : Int32)), .val (.int (0 : Int32))]) rfl ?_
        exact k_
      exact own_f0 l Z a0 hw q1 q2 q3 q4 p5 cs sf dc kd r_1 y2 r_3 r_4 r_5 b6 r_11 h0 n0 Z0 X40 hx hZ hby hml hown hret hlk hh eh40 N40 Kc0 Oc hS hk hSA hEL Rc hcc_ hsc_ hcs hsf hbd0 hbd1 hbd2
    · refine own_go (A := T40.setTop (mkF m 281 #[.val (.long q1), .second, .val (.long q2), .second, .val (.long q3), .second, .val (.long q4), .second, .val (.int p5), .val (.long r_1), .second, .val (.int y2), .val (.long r_3), .second, .val (.long r_4), .second, .val (.long r_5), .second, .val (.ref b6), .val (.long r_11), .second, .val (.int (1 : Int32)), .val (.int (1 : Int32)), .unset] [])) (fun t_ k_ => ?_) ?_
      · show Steps p.tables e below (T40.setTop (mkF m 278 #[.val (.long q1), .second, .val (.long q2), .second, .val (.long q3), .second, .val (.long q4), .second, .val (.int p5), .val (.long r_1), .second, .val (.int y2), .val (.long r_3), .second, .val (.long r_4), .second, .val (.long r_5), .second, .val (.ref b6), .val (.long r_11), .second, .val (.int (1 : Int32)), .val (.int (1 : Int32)), .unset] [(.int bo_40)])) t_
        refine XS.ifNo X40.here hx rfl (hb hby at_278) rfl ((if0 _ _).trans (feq hc278_41).1) ?_
        exact k_
      exact own_h281 l Z a0 hw q1 q2 q3 q4 p5 cs sf dc kd r_1 y2 r_3 r_4 r_5 b6 r_11 h0 n0 Z0 X40 hx hZ hby hml hown hret hlk hh eh40 N40 Kc0 Oc hS hk hSA hEL Rc hcc_ hsc_ hcs hsf hbd0 hbd1 hbd2
set_option maxRecDepth 65536 in
set_option maxHeartbeats 40000000 in
theorem own_c242 (l : Launch) (Z : State) (a0 : Array Value) (hw : ∀ d ∈ tables_1, d.before a0 Z = true) (q1 : Int64) (q2 : Int64) (q3 : Int64) (q4 : Int64) (p5 : Int32) (cs : Int32) (sf : Value) (dc : Addr) (kd : ClassId) (r_1 : Int64) (y2 : Int32) (r_3 : Int64) (r_4 : Int64) (r_5 : Int64) (b6 : Addr) (r_11 : Int64) (h0 : Heap) (n0 : Nat) (Z0 : n0 ≤ h0.size) {p : Program} {e : Env} {s : State} {m : MethodId} {below : List Frame} {meth : Method} {c : Code} {Tc : State} {Hc : Heap} {locsc : List Loc} {vmc : Vm} {kc0 : Nat} {cc_ sc_ : Nat} (Xc : Stand p l e room_1 (s.setVm vmc) m #[(.long q1), (.long q2), (.long q3), (.long q4), (.int p5)] below meth c Tc locsc cc_ sc_) (hx : p.tables.exec = Jvm.exec) (hZ : Z.Warmed39 (s.setVm vmc).vm) (hby : c.code = code) (hml : c.maxLocals = 24) (hown : (s.setVm vmc).vm.findClass "com/example/firmline/firmline/analysis/InterferenceNextReleasePinLaw" = some m.cls) (hret : meth.sig.returnType = some .boolean) (hlk : meth.locks = false) (hh : s.heap = h0) (ec : Tc.heap = Hc) (Nc : Fr n0 locsc) (Kc0 : Keep h0 Hc []) (Oc : Old Z n0 Hc) (hS : s.Since vmc kc0) (hk : kc0 ≤ Hc.size) (hSA : ∀ a ∈ Bundle.stringAtoms, a.before a0 Z = true) (hEL : EW Z a0 own_EL) (Rc : CHr Z own_EL s.vm h0 vmc Hc) (hcc_ : cc_ ≤ room_1.cells) (hsc_ : sc_ ≤ room_1.slots) (hcs : ¬ (cs = (0 : Int32))) (hsf : sf.isRef = true) (hbd0 : 1 ≤ r_3.toInt ∧ r_3.toInt ≤ 1000000000000000) (hbd1 : 1 ≤ r_4.toInt ∧ r_4.toInt ≤ 1000000000000000) (hbd2 : 1 ≤ r_5.toInt ∧ r_5.toInt ≤ 1000000000000000) (hCG : own_CG y2 r_1 r_11 r_3 r_4 r_5) (hnh0 : ¬ (y2 < (1 : Int32)) → ¬ ((r_11 - (r_11 / r_3) * r_3) = (0 : Int64))) (hnh1 : ¬ (y2 < (2 : Int32)) → ¬ ((r_11 - (r_11 / r_4) * r_4) = (0 : Int64))) :
    ∃ U_ o_, Steps p.tables e below (Tc.setTop (mkF m 242 #[.val (.long q1), .second, .val (.long q2), .second, .val (.long q3), .second, .val (.long q4), .second, .val (.int p5), .val (.long r_1), .second, .val (.int y2), .val (.long r_3), .second, .val (.long r_4), .second, .val (.long r_5), .second, .val (.ref b6), .val (.long r_11), .second, .val (.int (1 : Int32)), .unset, .unset] [])) U_ ∧ U_.status = .running ∧ Ended U_ below o_ ∧ (∃ v_ L_, o_ = .returned v_ ∧ Q_rm0 Z q1 q2 q3 q4 p5 cs sf dc kd h0 n0 v_ U_.heap L_ ∧ CHr Z own_EL s.vm s.heap U_.vm U_.heap ∧ ReturnedEndW s o_ U_ L_ room_1.cells room_1.slots) := by
  refine own_go (A := Tc.setTop (mkF m 245 #[.val (.long q1), .second, .val (.long q2), .second, .val (.long q3), .second, .val (.long q4), .second, .val (.int p5), .val (.long r_1), .second, .val (.int y2), .val (.long r_3), .second, .val (.long r_4), .second, .val (.long r_5), .second, .val (.ref b6), .val (.long r_11), .second, .val (.int (1 : Int32)), .unset, .unset] [(.int (3 : Int32)), (.int y2)])) (fun t_ k_ => ?_) ?_
  · show Steps p.tables e below (Tc.setTop (mkF m 242 #[.val (.long q1), .second, .val (.long q2), .second, .val (.long q3), .second, .val (.long q4), .second, .val (.int p5), .val (.long r_1), .second, .val (.int y2), .val (.long r_3), .second, .val (.long r_4), .second, .val (.long r_5), .second, .val (.ref b6), .val (.long r_11), .second, .val (.int (1 : Int32)), .unset, .unset] [])) t_
    refine XS.iload Xc.here hx rfl (hb hby at_242) rfl ?_
    show Steps p.tables e below (Tc.setTop (mkF m 244 #[.val (.long q1), .second, .val (.long q2), .second, .val (.long q3), .second, .val (.long q4), .second, .val (.int p5), .val (.long r_1), .second, .val (.int y2), .val (.long r_3), .second, .val (.long r_4), .second, .val (.long r_5), .second, .val (.ref b6), .val (.long r_11), .second, .val (.int (1 : Int32)), .unset, .unset] [(.int y2)])) t_
    refine XS.iconst Xc.here hx rfl (hb hby at_244) ?_
    exact k_
  by_cases hc245_18 : y2 < (3 : Int32)
  · refine own_go (A := Tc.setTop (mkF m 265 #[.val (.long q1), .second, .val (.long q2), .second, .val (.long q3), .second, .val (.long q4), .second, .val (.int p5), .val (.long r_1), .second, .val (.int y2), .val (.long r_3), .second, .val (.long r_4), .second, .val (.long r_5), .second, .val (.ref b6), .val (.long r_11), .second, .val (.int (1 : Int32)), .val (.int (0 : Int32)), .unset] [])) (fun t_ k_ => ?_) ?_
    · show Steps p.tables e below (Tc.setTop (mkF m 245 #[.val (.long q1), .second, .val (.long q2), .second, .val (.long q3), .second, .val (.long q4), .second, .val (.int p5), .val (.long r_1), .second, .val (.int y2), .val (.long r_3), .second, .val (.long r_4), .second, .val (.long r_5), .second, .val (.ref b6), .val (.long r_11), .second, .val (.int (1 : Int32)), .unset, .unset] [(.int (3 : Int32)), (.int y2)])) t_
      refine XS.icmpYes Xc.here hx rfl (pc0 := 245) (pc' := 262) rfl (hb hby at_245) rfl (tlt hc245_18).1 (by decide) (by decide) ?_
      show Steps p.tables e below (Tc.setTop (mkF m 262 #[.val (.long q1), .second, .val (.long q2), .second, .val (.long q3), .second, .val (.long q4), .second, .val (.int p5), .val (.long r_1), .second, .val (.int y2), .val (.long r_3), .second, .val (.long r_4), .second, .val (.long r_5), .second, .val (.ref b6), .val (.long r_11), .second, .val (.int (1 : Int32)), .unset, .unset] [])) t_
      refine XS.iconst Xc.here hx rfl (hb hby at_262) ?_
      show Steps p.tables e below (Tc.setTop (mkF m 263 #[.val (.long q1), .second, .val (.long q2), .second, .val (.long q3), .second, .val (.long q4), .second, .val (.int p5), .val (.long r_1), .second, .val (.int y2), .val (.long r_3), .second, .val (.long r_4), .second, .val (.long r_5), .second, .val (.ref b6), .val (.long r_11), .second, .val (.int (1 : Int32)), .unset, .unset] [(.int (0 : Int32))])) t_
      refine XS.istore Xc.here hx rfl (hb hby at_263) rfl (l' := #[.val (.long q1), .second, .val (.long q2), .second, .val (.long q3), .second, .val (.long q4), .second, .val (.int p5), .val (.long r_1), .second, .val (.int y2), .val (.long r_3), .second, .val (.long r_4), .second, .val (.long r_5), .second, .val (.ref b6), .val (.long r_11), .second, .val (.int (1 : Int32)), .val (.int (0 : Int32)), .unset]) rfl ?_
      exact k_
    exact own_n265 l Z a0 hw q1 q2 q3 q4 p5 cs sf dc kd r_1 y2 r_3 r_4 r_5 b6 r_11 h0 n0 Z0 Xc hx hZ hby hml hown hret hlk hh ec Nc Kc0 Oc hS hk hSA hEL Rc hcc_ hsc_ hcs hsf hbd0 hbd1 hbd2 (hCG hnh0 hnh1 (fun h => absurd hc245_18 h))
  · refine own_go (A := Tc.setTop (mkF m 252 #[.val (.long q1), .second, .val (.long q2), .second, .val (.long q3), .second, .val (.long q4), .second, .val (.int p5), .val (.long r_1), .second, .val (.int y2), .val (.long r_3), .second, .val (.long r_4), .second, .val (.long r_5), .second, .val (.ref b6), .val (.long r_11), .second, .val (.int (1 : Int32)), .unset, .unset] [(.long r_5), (.long r_11)])) (fun t_ k_ => ?_) ?_
    · show Steps p.tables e below (Tc.setTop (mkF m 245 #[.val (.long q1), .second, .val (.long q2), .second, .val (.long q3), .second, .val (.long q4), .second, .val (.int p5), .val (.long r_1), .second, .val (.int y2), .val (.long r_3), .second, .val (.long r_4), .second, .val (.long r_5), .second, .val (.ref b6), .val (.long r_11), .second, .val (.int (1 : Int32)), .unset, .unset] [(.int (3 : Int32)), (.int y2)])) t_
      refine XS.icmpNo Xc.here hx rfl (hb hby at_245) rfl (flt hc245_18).1 ?_
      show Steps p.tables e below (Tc.setTop (mkF m 248 #[.val (.long q1), .second, .val (.long q2), .second, .val (.long q3), .second, .val (.long q4), .second, .val (.int p5), .val (.long r_1), .second, .val (.int y2), .val (.long r_3), .second, .val (.long r_4), .second, .val (.long r_5), .second, .val (.ref b6), .val (.long r_11), .second, .val (.int (1 : Int32)), .unset, .unset] [])) t_
      refine XS.lload Xc.here hx rfl (hb hby at_248) rfl ?_
      show Steps p.tables e below (Tc.setTop (mkF m 250 #[.val (.long q1), .second, .val (.long q2), .second, .val (.long q3), .second, .val (.long q4), .second, .val (.int p5), .val (.long r_1), .second, .val (.int y2), .val (.long r_3), .second, .val (.long r_4), .second, .val (.long r_5), .second, .val (.ref b6), .val (.long r_11), .second, .val (.int (1 : Int32)), .unset, .unset] [(.long r_11)])) t_
      refine XS.lload Xc.here hx rfl (hb hby at_250) rfl ?_
      exact k_
    have hz29 : ¬ (r_5 = (0 : Int64)) := own_nz hbd2
    refine own_go (A := Tc.setTop (mkF m 255 #[.val (.long q1), .second, .val (.long q2), .second, .val (.long q3), .second, .val (.long q4), .second, .val (.int p5), .val (.long r_1), .second, .val (.int y2), .val (.long r_3), .second, .val (.long r_4), .second, .val (.long r_5), .second, .val (.ref b6), .val (.long r_11), .second, .val (.int (1 : Int32)), .unset, .unset] [(.int (lcmpW (r_11 - (r_11 / r_5) * r_5) (0 : Int64)))])) (fun t_ k_ => ?_) ?_
    · show Steps p.tables e below (Tc.setTop (mkF m 252 #[.val (.long q1), .second, .val (.long q2), .second, .val (.long q3), .second, .val (.long q4), .second, .val (.int p5), .val (.long r_1), .second, .val (.int y2), .val (.long r_3), .second, .val (.long r_4), .second, .val (.long r_5), .second, .val (.ref b6), .val (.long r_11), .second, .val (.int (1 : Int32)), .unset, .unset] [(.long r_5), (.long r_11)])) t_
      refine XS.lrem Xc.here hx rfl (hb hby at_252) rfl hz29 ?_
      show Steps p.tables e below (Tc.setTop (mkF m 253 #[.val (.long q1), .second, .val (.long q2), .second, .val (.long q3), .second, .val (.long q4), .second, .val (.int p5), .val (.long r_1), .second, .val (.int y2), .val (.long r_3), .second, .val (.long r_4), .second, .val (.long r_5), .second, .val (.ref b6), .val (.long r_11), .second, .val (.int (1 : Int32)), .unset, .unset] [(.long (r_11 - (r_11 / r_5) * r_5))])) t_
      refine XS.lconst Xc.here hx rfl (hb hby at_253) ?_
      show Steps p.tables e below (Tc.setTop (mkF m 254 #[.val (.long q1), .second, .val (.long q2), .second, .val (.long q3), .second, .val (.long q4), .second, .val (.int p5), .val (.long r_1), .second, .val (.int y2), .val (.long r_3), .second, .val (.long r_4), .second, .val (.long r_5), .second, .val (.ref b6), .val (.long r_11), .second, .val (.int (1 : Int32)), .unset, .unset] [(.long (0 : Int64)), (.long (r_11 - (r_11 / r_5) * r_5))])) t_
      refine XS.lcmp Xc.here hx rfl (hb hby at_254) rfl ?_
      exact k_
    by_cases hc255_30 : (r_11 - (r_11 / r_5) * r_5) = (0 : Int64)
    · refine own_go (A := Tc.setTop (mkF m 265 #[.val (.long q1), .second, .val (.long q2), .second, .val (.long q3), .second, .val (.long q4), .second, .val (.int p5), .val (.long r_1), .second, .val (.int y2), .val (.long r_3), .second, .val (.long r_4), .second, .val (.long r_5), .second, .val (.ref b6), .val (.long r_11), .second, .val (.int (1 : Int32)), .val (.int (1 : Int32)), .unset] [])) (fun t_ k_ => ?_) ?_
      · show Steps p.tables e below (Tc.setTop (mkF m 255 #[.val (.long q1), .second, .val (.long q2), .second, .val (.long q3), .second, .val (.long q4), .second, .val (.int p5), .val (.long r_1), .second, .val (.int y2), .val (.long r_3), .second, .val (.long r_4), .second, .val (.long r_5), .second, .val (.ref b6), .val (.long r_11), .second, .val (.int (1 : Int32)), .unset, .unset] [(.int (lcmpW (r_11 - (r_11 / r_5) * r_5) (0 : Int64)))])) t_
        refine XS.ifNo Xc.here hx rfl (hb hby at_255) rfl ((if0 _ _).trans (teq ((lw_eq _ _).mpr hc255_30)).2) ?_
        show Steps p.tables e below (Tc.setTop (mkF m 258 #[.val (.long q1), .second, .val (.long q2), .second, .val (.long q3), .second, .val (.long q4), .second, .val (.int p5), .val (.long r_1), .second, .val (.int y2), .val (.long r_3), .second, .val (.long r_4), .second, .val (.long r_5), .second, .val (.ref b6), .val (.long r_11), .second, .val (.int (1 : Int32)), .unset, .unset] [])) t_
        refine XS.iconst Xc.here hx rfl (hb hby at_258) ?_
        show Steps p.tables e below (Tc.setTop (mkF m 259 #[.val (.long q1), .second, .val (.long q2), .second, .val (.long q3), .second, .val (.long q4), .second, .val (.int p5), .val (.long r_1), .second, .val (.int y2), .val (.long r_3), .second, .val (.long r_4), .second, .val (.long r_5), .second, .val (.ref b6), .val (.long r_11), .second, .val (.int (1 : Int32)), .unset, .unset] [(.int (1 : Int32))])) t_
        refine XS.goto Xc.here hx rfl (pc0 := 259) (pc' := 263) rfl (hb hby at_259) (by decide) (by decide) ?_
        show Steps p.tables e below (Tc.setTop (mkF m 263 #[.val (.long q1), .second, .val (.long q2), .second, .val (.long q3), .second, .val (.long q4), .second, .val (.int p5), .val (.long r_1), .second, .val (.int y2), .val (.long r_3), .second, .val (.long r_4), .second, .val (.long r_5), .second, .val (.ref b6), .val (.long r_11), .second, .val (.int (1 : Int32)), .unset, .unset] [(.int (1 : Int32))])) t_
        refine XS.istore Xc.here hx rfl (hb hby at_263) rfl (l' := #[.val (.long q1), .second, .val (.long q2), .second, .val (.long q3), .second, .val (.long q4), .second, .val (.int p5), .val (.long r_1), .second, .val (.int y2), .val (.long r_3), .second, .val (.long r_4), .second, .val (.long r_5), .second, .val (.ref b6), .val (.long r_11), .second, .val (.int (1 : Int32)), .val (.int (1 : Int32)), .unset]) rfl ?_
        exact k_
      exact own_h265 l Z a0 hw q1 q2 q3 q4 p5 cs sf dc kd r_1 y2 r_3 r_4 r_5 b6 r_11 h0 n0 Z0 Xc hx hZ hby hml hown hret hlk hh ec Nc Kc0 Oc hS hk hSA hEL Rc hcc_ hsc_ hcs hsf hbd0 hbd1 hbd2
    · refine own_go (A := Tc.setTop (mkF m 265 #[.val (.long q1), .second, .val (.long q2), .second, .val (.long q3), .second, .val (.long q4), .second, .val (.int p5), .val (.long r_1), .second, .val (.int y2), .val (.long r_3), .second, .val (.long r_4), .second, .val (.long r_5), .second, .val (.ref b6), .val (.long r_11), .second, .val (.int (1 : Int32)), .val (.int (0 : Int32)), .unset] [])) (fun t_ k_ => ?_) ?_
      · show Steps p.tables e below (Tc.setTop (mkF m 255 #[.val (.long q1), .second, .val (.long q2), .second, .val (.long q3), .second, .val (.long q4), .second, .val (.int p5), .val (.long r_1), .second, .val (.int y2), .val (.long r_3), .second, .val (.long r_4), .second, .val (.long r_5), .second, .val (.ref b6), .val (.long r_11), .second, .val (.int (1 : Int32)), .unset, .unset] [(.int (lcmpW (r_11 - (r_11 / r_5) * r_5) (0 : Int64)))])) t_
        refine XS.ifYes Xc.here hx rfl (pc0 := 255) (pc' := 262) rfl (hb hby at_255) rfl ((if0 _ _).trans (feq (fun q => hc255_30 ((lw_eq _ _).mp q))).2) (by decide) (by decide) ?_
        show Steps p.tables e below (Tc.setTop (mkF m 262 #[.val (.long q1), .second, .val (.long q2), .second, .val (.long q3), .second, .val (.long q4), .second, .val (.int p5), .val (.long r_1), .second, .val (.int y2), .val (.long r_3), .second, .val (.long r_4), .second, .val (.long r_5), .second, .val (.ref b6), .val (.long r_11), .second, .val (.int (1 : Int32)), .unset, .unset] [])) t_
        refine XS.iconst Xc.here hx rfl (hb hby at_262) ?_
        show Steps p.tables e below (Tc.setTop (mkF m 263 #[.val (.long q1), .second, .val (.long q2), .second, .val (.long q3), .second, .val (.long q4), .second, .val (.int p5), .val (.long r_1), .second, .val (.int y2), .val (.long r_3), .second, .val (.long r_4), .second, .val (.long r_5), .second, .val (.ref b6), .val (.long r_11), .second, .val (.int (1 : Int32)), .unset, .unset] [(.int (0 : Int32))])) t_
        refine XS.istore Xc.here hx rfl (hb hby at_263) rfl (l' := #[.val (.long q1), .second, .val (.long q2), .second, .val (.long q3), .second, .val (.long q4), .second, .val (.int p5), .val (.long r_1), .second, .val (.int y2), .val (.long r_3), .second, .val (.long r_4), .second, .val (.long r_5), .second, .val (.ref b6), .val (.long r_11), .second, .val (.int (1 : Int32)), .val (.int (0 : Int32)), .unset]) rfl ?_
        exact k_
      exact own_n265 l Z a0 hw q1 q2 q3 q4 p5 cs sf dc kd r_1 y2 r_3 r_4 r_5 b6 r_11 h0 n0 Z0 Xc hx hZ hby hml hown hret hlk hh ec Nc Kc0 Oc hS hk hSA hEL Rc hcc_ hsc_ hcs hsf hbd0 hbd1 hbd2 (hCG hnh0 hnh1 (fun _ => hc255_30))
set_option maxRecDepth 65536 in
set_option maxHeartbeats 40000000 in
theorem own_c226 (l : Launch) (Z : State) (a0 : Array Value) (hw : ∀ d ∈ tables_1, d.before a0 Z = true) (q1 : Int64) (q2 : Int64) (q3 : Int64) (q4 : Int64) (p5 : Int32) (cs : Int32) (sf : Value) (dc : Addr) (kd : ClassId) (r_1 : Int64) (y2 : Int32) (r_3 : Int64) (r_4 : Int64) (r_5 : Int64) (b6 : Addr) (r_11 : Int64) (h0 : Heap) (n0 : Nat) (Z0 : n0 ≤ h0.size) {p : Program} {e : Env} {s : State} {m : MethodId} {below : List Frame} {meth : Method} {c : Code} {Tc : State} {Hc : Heap} {locsc : List Loc} {vmc : Vm} {kc0 : Nat} {cc_ sc_ : Nat} (Xc : Stand p l e room_1 (s.setVm vmc) m #[(.long q1), (.long q2), (.long q3), (.long q4), (.int p5)] below meth c Tc locsc cc_ sc_) (hx : p.tables.exec = Jvm.exec) (hZ : Z.Warmed39 (s.setVm vmc).vm) (hby : c.code = code) (hml : c.maxLocals = 24) (hown : (s.setVm vmc).vm.findClass "com/example/firmline/firmline/analysis/InterferenceNextReleasePinLaw" = some m.cls) (hret : meth.sig.returnType = some .boolean) (hlk : meth.locks = false) (hh : s.heap = h0) (ec : Tc.heap = Hc) (Nc : Fr n0 locsc) (Kc0 : Keep h0 Hc []) (Oc : Old Z n0 Hc) (hS : s.Since vmc kc0) (hk : kc0 ≤ Hc.size) (hSA : ∀ a ∈ Bundle.stringAtoms, a.before a0 Z = true) (hEL : EW Z a0 own_EL) (Rc : CHr Z own_EL s.vm h0 vmc Hc) (hcc_ : cc_ ≤ room_1.cells) (hsc_ : sc_ ≤ room_1.slots) (hcs : ¬ (cs = (0 : Int32))) (hsf : sf.isRef = true) (hbd0 : 1 ≤ r_3.toInt ∧ r_3.toInt ≤ 1000000000000000) (hbd1 : 1 ≤ r_4.toInt ∧ r_4.toInt ≤ 1000000000000000) (hbd2 : 1 ≤ r_5.toInt ∧ r_5.toInt ≤ 1000000000000000) (hCG : own_CG y2 r_1 r_11 r_3 r_4 r_5) (hnh0 : ¬ (y2 < (1 : Int32)) → ¬ ((r_11 - (r_11 / r_3) * r_3) = (0 : Int64))) :
    ∃ U_ o_, Steps p.tables e below (Tc.setTop (mkF m 226 #[.val (.long q1), .second, .val (.long q2), .second, .val (.long q3), .second, .val (.long q4), .second, .val (.int p5), .val (.long r_1), .second, .val (.int y2), .val (.long r_3), .second, .val (.long r_4), .second, .val (.long r_5), .second, .val (.ref b6), .val (.long r_11), .second, .val (.int (1 : Int32)), .unset, .unset] [])) U_ ∧ U_.status = .running ∧ Ended U_ below o_ ∧ (∃ v_ L_, o_ = .returned v_ ∧ Q_rm0 Z q1 q2 q3 q4 p5 cs sf dc kd h0 n0 v_ U_.heap L_ ∧ CHr Z own_EL s.vm s.heap U_.vm U_.heap ∧ ReturnedEndW s o_ U_ L_ room_1.cells room_1.slots) := by
  refine own_go (A := Tc.setTop (mkF m 229 #[.val (.long q1), .second, .val (.long q2), .second, .val (.long q3), .second, .val (.long q4), .second, .val (.int p5), .val (.long r_1), .second, .val (.int y2), .val (.long r_3), .second, .val (.long r_4), .second, .val (.long r_5), .second, .val (.ref b6), .val (.long r_11), .second, .val (.int (1 : Int32)), .unset, .unset] [(.int (2 : Int32)), (.int y2)])) (fun t_ k_ => ?_) ?_
  · show Steps p.tables e below (Tc.setTop (mkF m 226 #[.val (.long q1), .second, .val (.long q2), .second, .val (.long q3), .second, .val (.long q4), .second, .val (.int p5), .val (.long r_1), .second, .val (.int y2), .val (.long r_3), .second, .val (.long r_4), .second, .val (.long r_5), .second, .val (.ref b6), .val (.long r_11), .second, .val (.int (1 : Int32)), .unset, .unset] [])) t_
    refine XS.iload Xc.here hx rfl (hb hby at_226) rfl ?_
    show Steps p.tables e below (Tc.setTop (mkF m 228 #[.val (.long q1), .second, .val (.long q2), .second, .val (.long q3), .second, .val (.long q4), .second, .val (.int p5), .val (.long r_1), .second, .val (.int y2), .val (.long r_3), .second, .val (.long r_4), .second, .val (.long r_5), .second, .val (.ref b6), .val (.long r_11), .second, .val (.int (1 : Int32)), .unset, .unset] [(.int y2)])) t_
    refine XS.iconst Xc.here hx rfl (hb hby at_228) ?_
    exact k_
  by_cases hc229_17 : y2 < (2 : Int32)
  · refine own_go (A := Tc.setTop (mkF m 242 #[.val (.long q1), .second, .val (.long q2), .second, .val (.long q3), .second, .val (.long q4), .second, .val (.int p5), .val (.long r_1), .second, .val (.int y2), .val (.long r_3), .second, .val (.long r_4), .second, .val (.long r_5), .second, .val (.ref b6), .val (.long r_11), .second, .val (.int (1 : Int32)), .unset, .unset] [])) (fun t_ k_ => ?_) ?_
    · show Steps p.tables e below (Tc.setTop (mkF m 229 #[.val (.long q1), .second, .val (.long q2), .second, .val (.long q3), .second, .val (.long q4), .second, .val (.int p5), .val (.long r_1), .second, .val (.int y2), .val (.long r_3), .second, .val (.long r_4), .second, .val (.long r_5), .second, .val (.ref b6), .val (.long r_11), .second, .val (.int (1 : Int32)), .unset, .unset] [(.int (2 : Int32)), (.int y2)])) t_
      refine XS.icmpYes Xc.here hx rfl (pc0 := 229) (pc' := 242) rfl (hb hby at_229) rfl (tlt hc229_17).1 (by decide) (by decide) ?_
      exact k_
    exact own_c242 l Z a0 hw q1 q2 q3 q4 p5 cs sf dc kd r_1 y2 r_3 r_4 r_5 b6 r_11 h0 n0 Z0 Xc hx hZ hby hml hown hret hlk hh ec Nc Kc0 Oc hS hk hSA hEL Rc hcc_ hsc_ hcs hsf hbd0 hbd1 hbd2 hCG hnh0 (fun h => absurd hc229_17 h)
  · refine own_go (A := Tc.setTop (mkF m 236 #[.val (.long q1), .second, .val (.long q2), .second, .val (.long q3), .second, .val (.long q4), .second, .val (.int p5), .val (.long r_1), .second, .val (.int y2), .val (.long r_3), .second, .val (.long r_4), .second, .val (.long r_5), .second, .val (.ref b6), .val (.long r_11), .second, .val (.int (1 : Int32)), .unset, .unset] [(.long r_4), (.long r_11)])) (fun t_ k_ => ?_) ?_
    · show Steps p.tables e below (Tc.setTop (mkF m 229 #[.val (.long q1), .second, .val (.long q2), .second, .val (.long q3), .second, .val (.long q4), .second, .val (.int p5), .val (.long r_1), .second, .val (.int y2), .val (.long r_3), .second, .val (.long r_4), .second, .val (.long r_5), .second, .val (.ref b6), .val (.long r_11), .second, .val (.int (1 : Int32)), .unset, .unset] [(.int (2 : Int32)), (.int y2)])) t_
      refine XS.icmpNo Xc.here hx rfl (hb hby at_229) rfl (flt hc229_17).1 ?_
      show Steps p.tables e below (Tc.setTop (mkF m 232 #[.val (.long q1), .second, .val (.long q2), .second, .val (.long q3), .second, .val (.long q4), .second, .val (.int p5), .val (.long r_1), .second, .val (.int y2), .val (.long r_3), .second, .val (.long r_4), .second, .val (.long r_5), .second, .val (.ref b6), .val (.long r_11), .second, .val (.int (1 : Int32)), .unset, .unset] [])) t_
      refine XS.lload Xc.here hx rfl (hb hby at_232) rfl ?_
      show Steps p.tables e below (Tc.setTop (mkF m 234 #[.val (.long q1), .second, .val (.long q2), .second, .val (.long q3), .second, .val (.long q4), .second, .val (.int p5), .val (.long r_1), .second, .val (.int y2), .val (.long r_3), .second, .val (.long r_4), .second, .val (.long r_5), .second, .val (.ref b6), .val (.long r_11), .second, .val (.int (1 : Int32)), .unset, .unset] [(.long r_11)])) t_
      refine XS.lload Xc.here hx rfl (hb hby at_234) rfl ?_
      exact k_
    have hz42 : ¬ (r_4 = (0 : Int64)) := own_nz hbd1
    refine own_go (A := Tc.setTop (mkF m 239 #[.val (.long q1), .second, .val (.long q2), .second, .val (.long q3), .second, .val (.long q4), .second, .val (.int p5), .val (.long r_1), .second, .val (.int y2), .val (.long r_3), .second, .val (.long r_4), .second, .val (.long r_5), .second, .val (.ref b6), .val (.long r_11), .second, .val (.int (1 : Int32)), .unset, .unset] [(.int (lcmpW (r_11 - (r_11 / r_4) * r_4) (0 : Int64)))])) (fun t_ k_ => ?_) ?_
    · show Steps p.tables e below (Tc.setTop (mkF m 236 #[.val (.long q1), .second, .val (.long q2), .second, .val (.long q3), .second, .val (.long q4), .second, .val (.int p5), .val (.long r_1), .second, .val (.int y2), .val (.long r_3), .second, .val (.long r_4), .second, .val (.long r_5), .second, .val (.ref b6), .val (.long r_11), .second, .val (.int (1 : Int32)), .unset, .unset] [(.long r_4), (.long r_11)])) t_
      refine XS.lrem Xc.here hx rfl (hb hby at_236) rfl hz42 ?_
      show Steps p.tables e below (Tc.setTop (mkF m 237 #[.val (.long q1), .second, .val (.long q2), .second, .val (.long q3), .second, .val (.long q4), .second, .val (.int p5), .val (.long r_1), .second, .val (.int y2), .val (.long r_3), .second, .val (.long r_4), .second, .val (.long r_5), .second, .val (.ref b6), .val (.long r_11), .second, .val (.int (1 : Int32)), .unset, .unset] [(.long (r_11 - (r_11 / r_4) * r_4))])) t_
      refine XS.lconst Xc.here hx rfl (hb hby at_237) ?_
      show Steps p.tables e below (Tc.setTop (mkF m 238 #[.val (.long q1), .second, .val (.long q2), .second, .val (.long q3), .second, .val (.long q4), .second, .val (.int p5), .val (.long r_1), .second, .val (.int y2), .val (.long r_3), .second, .val (.long r_4), .second, .val (.long r_5), .second, .val (.ref b6), .val (.long r_11), .second, .val (.int (1 : Int32)), .unset, .unset] [(.long (0 : Int64)), (.long (r_11 - (r_11 / r_4) * r_4))])) t_
      refine XS.lcmp Xc.here hx rfl (hb hby at_238) rfl ?_
      exact k_
    by_cases hc239_43 : (r_11 - (r_11 / r_4) * r_4) = (0 : Int64)
    · refine own_go (A := Tc.setTop (mkF m 265 #[.val (.long q1), .second, .val (.long q2), .second, .val (.long q3), .second, .val (.long q4), .second, .val (.int p5), .val (.long r_1), .second, .val (.int y2), .val (.long r_3), .second, .val (.long r_4), .second, .val (.long r_5), .second, .val (.ref b6), .val (.long r_11), .second, .val (.int (1 : Int32)), .val (.int (1 : Int32)), .unset] [])) (fun t_ k_ => ?_) ?_
      · show Steps p.tables e below (Tc.setTop (mkF m 239 #[.val (.long q1), .second, .val (.long q2), .second, .val (.long q3), .second, .val (.long q4), .second, .val (.int p5), .val (.long r_1), .second, .val (.int y2), .val (.long r_3), .second, .val (.long r_4), .second, .val (.long r_5), .second, .val (.ref b6), .val (.long r_11), .second, .val (.int (1 : Int32)), .unset, .unset] [(.int (lcmpW (r_11 - (r_11 / r_4) * r_4) (0 : Int64)))])) t_
        refine XS.ifYes Xc.here hx rfl (pc0 := 239) (pc' := 258) rfl (hb hby at_239) rfl ((if0 _ _).trans (teq ((lw_eq _ _).mpr hc239_43)).1) (by decide) (by decide) ?_
        show Steps p.tables e below (Tc.setTop (mkF m 258 #[.val (.long q1), .second, .val (.long q2), .second, .val (.long q3), .second, .val (.long q4), .second, .val (.int p5), .val (.long r_1), .second, .val (.int y2), .val (.long r_3), .second, .val (.long r_4), .second, .val (.long r_5), .second, .val (.ref b6), .val (.long r_11), .second, .val (.int (1 : Int32)), .unset, .unset] [])) t_
        refine XS.iconst Xc.here hx rfl (hb hby at_258) ?_
        show Steps p.tables e below (Tc.setTop (mkF m 259 #[.val (.long q1), .second, .val (.long q2), .second, .val (.long q3), .second, .val (.long q4), .second, .val (.int p5), .val (.long r_1), .second, .val (.int y2), .val (.long r_3), .second, .val (.long r_4), .second, .val (.long r_5), .second, .val (.ref b6), .val (.long r_11), .second, .val (.int (1 : Int32)), .unset, .unset] [(.int (1 : Int32))])) t_
        refine XS.goto Xc.here hx rfl (pc0 := 259) (pc' := 263) rfl (hb hby at_259) (by decide) (by decide) ?_
        show Steps p.tables e below (Tc.setTop (mkF m 263 #[.val (.long q1), .second, .val (.long q2), .second, .val (.long q3), .second, .val (.long q4), .second, .val (.int p5), .val (.long r_1), .second, .val (.int y2), .val (.long r_3), .second, .val (.long r_4), .second, .val (.long r_5), .second, .val (.ref b6), .val (.long r_11), .second, .val (.int (1 : Int32)), .unset, .unset] [(.int (1 : Int32))])) t_
        refine XS.istore Xc.here hx rfl (hb hby at_263) rfl (l' := #[.val (.long q1), .second, .val (.long q2), .second, .val (.long q3), .second, .val (.long q4), .second, .val (.int p5), .val (.long r_1), .second, .val (.int y2), .val (.long r_3), .second, .val (.long r_4), .second, .val (.long r_5), .second, .val (.ref b6), .val (.long r_11), .second, .val (.int (1 : Int32)), .val (.int (1 : Int32)), .unset]) rfl ?_
        exact k_
      exact own_h265 l Z a0 hw q1 q2 q3 q4 p5 cs sf dc kd r_1 y2 r_3 r_4 r_5 b6 r_11 h0 n0 Z0 Xc hx hZ hby hml hown hret hlk hh ec Nc Kc0 Oc hS hk hSA hEL Rc hcc_ hsc_ hcs hsf hbd0 hbd1 hbd2
    · refine own_go (A := Tc.setTop (mkF m 242 #[.val (.long q1), .second, .val (.long q2), .second, .val (.long q3), .second, .val (.long q4), .second, .val (.int p5), .val (.long r_1), .second, .val (.int y2), .val (.long r_3), .second, .val (.long r_4), .second, .val (.long r_5), .second, .val (.ref b6), .val (.long r_11), .second, .val (.int (1 : Int32)), .unset, .unset] [])) (fun t_ k_ => ?_) ?_
      · show Steps p.tables e below (Tc.setTop (mkF m 239 #[.val (.long q1), .second, .val (.long q2), .second, .val (.long q3), .second, .val (.long q4), .second, .val (.int p5), .val (.long r_1), .second, .val (.int y2), .val (.long r_3), .second, .val (.long r_4), .second, .val (.long r_5), .second, .val (.ref b6), .val (.long r_11), .second, .val (.int (1 : Int32)), .unset, .unset] [(.int (lcmpW (r_11 - (r_11 / r_4) * r_4) (0 : Int64)))])) t_
        refine XS.ifNo Xc.here hx rfl (hb hby at_239) rfl ((if0 _ _).trans (feq (fun q => hc239_43 ((lw_eq _ _).mp q))).1) ?_
        exact k_
      exact own_c242 l Z a0 hw q1 q2 q3 q4 p5 cs sf dc kd r_1 y2 r_3 r_4 r_5 b6 r_11 h0 n0 Z0 Xc hx hZ hby hml hown hret hlk hh ec Nc Kc0 Oc hS hk hSA hEL Rc hcc_ hsc_ hcs hsf hbd0 hbd1 hbd2 hCG hnh0 (fun _ => hc239_43)
set_option maxRecDepth 65536 in
set_option maxHeartbeats 40000000 in
theorem own_c210 (l : Launch) (Z : State) (a0 : Array Value) (hw : ∀ d ∈ tables_1, d.before a0 Z = true) (q1 : Int64) (q2 : Int64) (q3 : Int64) (q4 : Int64) (p5 : Int32) (cs : Int32) (sf : Value) (dc : Addr) (kd : ClassId) (r_1 : Int64) (y2 : Int32) (r_3 : Int64) (r_4 : Int64) (r_5 : Int64) (b6 : Addr) (r_11 : Int64) (h0 : Heap) (n0 : Nat) (Z0 : n0 ≤ h0.size) {p : Program} {e : Env} {s : State} {m : MethodId} {below : List Frame} {meth : Method} {c : Code} {Tc : State} {Hc : Heap} {locsc : List Loc} {vmc : Vm} {kc0 : Nat} {cc_ sc_ : Nat} (Xc : Stand p l e room_1 (s.setVm vmc) m #[(.long q1), (.long q2), (.long q3), (.long q4), (.int p5)] below meth c Tc locsc cc_ sc_) (hx : p.tables.exec = Jvm.exec) (hZ : Z.Warmed39 (s.setVm vmc).vm) (hby : c.code = code) (hml : c.maxLocals = 24) (hown : (s.setVm vmc).vm.findClass "com/example/firmline/firmline/analysis/InterferenceNextReleasePinLaw" = some m.cls) (hret : meth.sig.returnType = some .boolean) (hlk : meth.locks = false) (hh : s.heap = h0) (ec : Tc.heap = Hc) (Nc : Fr n0 locsc) (Kc0 : Keep h0 Hc []) (Oc : Old Z n0 Hc) (hS : s.Since vmc kc0) (hk : kc0 ≤ Hc.size) (hSA : ∀ a ∈ Bundle.stringAtoms, a.before a0 Z = true) (hEL : EW Z a0 own_EL) (Rc : CHr Z own_EL s.vm h0 vmc Hc) (hcc_ : cc_ ≤ room_1.cells) (hsc_ : sc_ ≤ room_1.slots) (hcs : ¬ (cs = (0 : Int32))) (hsf : sf.isRef = true) (hbd0 : 1 ≤ r_3.toInt ∧ r_3.toInt ≤ 1000000000000000) (hbd1 : 1 ≤ r_4.toInt ∧ r_4.toInt ≤ 1000000000000000) (hbd2 : 1 ≤ r_5.toInt ∧ r_5.toInt ≤ 1000000000000000) (hCG : own_CG y2 r_1 r_11 r_3 r_4 r_5) :
    ∃ U_ o_, Steps p.tables e below (Tc.setTop (mkF m 210 #[.val (.long q1), .second, .val (.long q2), .second, .val (.long q3), .second, .val (.long q4), .second, .val (.int p5), .val (.long r_1), .second, .val (.int y2), .val (.long r_3), .second, .val (.long r_4), .second, .val (.long r_5), .second, .val (.ref b6), .val (.long r_11), .second, .val (.int (1 : Int32)), .unset, .unset] [])) U_ ∧ U_.status = .running ∧ Ended U_ below o_ ∧ (∃ v_ L_, o_ = .returned v_ ∧ Q_rm0 Z q1 q2 q3 q4 p5 cs sf dc kd h0 n0 v_ U_.heap L_ ∧ CHr Z own_EL s.vm s.heap U_.vm U_.heap ∧ ReturnedEndW s o_ U_ L_ room_1.cells room_1.slots) := by
  refine own_go (A := Tc.setTop (mkF m 213 #[.val (.long q1), .second, .val (.long q2), .second, .val (.long q3), .second, .val (.long q4), .second, .val (.int p5), .val (.long r_1), .second, .val (.int y2), .val (.long r_3), .second, .val (.long r_4), .second, .val (.long r_5), .second, .val (.ref b6), .val (.long r_11), .second, .val (.int (1 : Int32)), .unset, .unset] [(.int (1 : Int32)), (.int y2)])) (fun t_ k_ => ?_) ?_
  · show Steps p.tables e below (Tc.setTop (mkF m 210 #[.val (.long q1), .second, .val (.long q2), .second, .val (.long q3), .second, .val (.long q4), .second, .val (.int p5), .val (.long r_1), .second, .val (.int y2), .val (.long r_3), .second, .val (.long r_4), .second, .val (.long r_5), .second, .val (.ref b6), .val (.long r_11), .second, .val (.int (1 : Int32)), .unset, .unset] [])) t_
    refine XS.iload Xc.here hx rfl (hb hby at_210) rfl ?_
    show Steps p.tables e below (Tc.setTop (mkF m 212 #[.val (.long q1), .second, .val (.long q2), .second, .val (.long q3), .second, .val (.long q4), .second, .val (.int p5), .val (.long r_1), .second, .val (.int y2), .val (.long r_3), .second, .val (.long r_4), .second, .val (.long r_5), .second, .val (.ref b6), .val (.long r_11), .second, .val (.int (1 : Int32)), .unset, .unset] [(.int y2)])) t_
    refine XS.iconst Xc.here hx rfl (hb hby at_212) ?_
    exact k_
  by_cases hc213_16 : y2 < (1 : Int32)
  · refine own_go (A := Tc.setTop (mkF m 226 #[.val (.long q1), .second, .val (.long q2), .second, .val (.long q3), .second, .val (.long q4), .second, .val (.int p5), .val (.long r_1), .second, .val (.int y2), .val (.long r_3), .second, .val (.long r_4), .second, .val (.long r_5), .second, .val (.ref b6), .val (.long r_11), .second, .val (.int (1 : Int32)), .unset, .unset] [])) (fun t_ k_ => ?_) ?_
    · show Steps p.tables e below (Tc.setTop (mkF m 213 #[.val (.long q1), .second, .val (.long q2), .second, .val (.long q3), .second, .val (.long q4), .second, .val (.int p5), .val (.long r_1), .second, .val (.int y2), .val (.long r_3), .second, .val (.long r_4), .second, .val (.long r_5), .second, .val (.ref b6), .val (.long r_11), .second, .val (.int (1 : Int32)), .unset, .unset] [(.int (1 : Int32)), (.int y2)])) t_
      refine XS.icmpYes Xc.here hx rfl (pc0 := 213) (pc' := 226) rfl (hb hby at_213) rfl (tlt hc213_16).1 (by decide) (by decide) ?_
      exact k_
    exact own_c226 l Z a0 hw q1 q2 q3 q4 p5 cs sf dc kd r_1 y2 r_3 r_4 r_5 b6 r_11 h0 n0 Z0 Xc hx hZ hby hml hown hret hlk hh ec Nc Kc0 Oc hS hk hSA hEL Rc hcc_ hsc_ hcs hsf hbd0 hbd1 hbd2 hCG (fun h => absurd hc213_16 h)
  · refine own_go (A := Tc.setTop (mkF m 220 #[.val (.long q1), .second, .val (.long q2), .second, .val (.long q3), .second, .val (.long q4), .second, .val (.int p5), .val (.long r_1), .second, .val (.int y2), .val (.long r_3), .second, .val (.long r_4), .second, .val (.long r_5), .second, .val (.ref b6), .val (.long r_11), .second, .val (.int (1 : Int32)), .unset, .unset] [(.long r_3), (.long r_11)])) (fun t_ k_ => ?_) ?_
    · show Steps p.tables e below (Tc.setTop (mkF m 213 #[.val (.long q1), .second, .val (.long q2), .second, .val (.long q3), .second, .val (.long q4), .second, .val (.int p5), .val (.long r_1), .second, .val (.int y2), .val (.long r_3), .second, .val (.long r_4), .second, .val (.long r_5), .second, .val (.ref b6), .val (.long r_11), .second, .val (.int (1 : Int32)), .unset, .unset] [(.int (1 : Int32)), (.int y2)])) t_
      refine XS.icmpNo Xc.here hx rfl (hb hby at_213) rfl (flt hc213_16).1 ?_
      show Steps p.tables e below (Tc.setTop (mkF m 216 #[.val (.long q1), .second, .val (.long q2), .second, .val (.long q3), .second, .val (.long q4), .second, .val (.int p5), .val (.long r_1), .second, .val (.int y2), .val (.long r_3), .second, .val (.long r_4), .second, .val (.long r_5), .second, .val (.ref b6), .val (.long r_11), .second, .val (.int (1 : Int32)), .unset, .unset] [])) t_
      refine XS.lload Xc.here hx rfl (hb hby at_216) rfl ?_
      show Steps p.tables e below (Tc.setTop (mkF m 218 #[.val (.long q1), .second, .val (.long q2), .second, .val (.long q3), .second, .val (.long q4), .second, .val (.int p5), .val (.long r_1), .second, .val (.int y2), .val (.long r_3), .second, .val (.long r_4), .second, .val (.long r_5), .second, .val (.ref b6), .val (.long r_11), .second, .val (.int (1 : Int32)), .unset, .unset] [(.long r_11)])) t_
      refine XS.lload Xc.here hx rfl (hb hby at_218) rfl ?_
      exact k_
    have hz44 : ¬ (r_3 = (0 : Int64)) := own_nz hbd0
    refine own_go (A := Tc.setTop (mkF m 223 #[.val (.long q1), .second, .val (.long q2), .second, .val (.long q3), .second, .val (.long q4), .second, .val (.int p5), .val (.long r_1), .second, .val (.int y2), .val (.long r_3), .second, .val (.long r_4), .second, .val (.long r_5), .second, .val (.ref b6), .val (.long r_11), .second, .val (.int (1 : Int32)), .unset, .unset] [(.int (lcmpW (r_11 - (r_11 / r_3) * r_3) (0 : Int64)))])) (fun t_ k_ => ?_) ?_
    · show Steps p.tables e below (Tc.setTop (mkF m 220 #[.val (.long q1), .second, .val (.long q2), .second, .val (.long q3), .second, .val (.long q4), .second, .val (.int p5), .val (.long r_1), .second, .val (.int y2), .val (.long r_3), .second, .val (.long r_4), .second, .val (.long r_5), .second, .val (.ref b6), .val (.long r_11), .second, .val (.int (1 : Int32)), .unset, .unset] [(.long r_3), (.long r_11)])) t_
      refine XS.lrem Xc.here hx rfl (hb hby at_220) rfl hz44 ?_
      show Steps p.tables e below (Tc.setTop (mkF m 221 #[.val (.long q1), .second, .val (.long q2), .second, .val (.long q3), .second, .val (.long q4), .second, .val (.int p5), .val (.long r_1), .second, .val (.int y2), .val (.long r_3), .second, .val (.long r_4), .second, .val (.long r_5), .second, .val (.ref b6), .val (.long r_11), .second, .val (.int (1 : Int32)), .unset, .unset] [(.long (r_11 - (r_11 / r_3) * r_3))])) t_
      refine XS.lconst Xc.here hx rfl (hb hby at_221) ?_
      show Steps p.tables e below (Tc.setTop (mkF m 222 #[.val (.long q1), .second, .val (.long q2), .second, .val (.long q3), .second, .val (.long q4), .second, .val (.int p5), .val (.long r_1), .second, .val (.int y2), .val (.long r_3), .second, .val (.long r_4), .second, .val (.long r_5), .second, .val (.ref b6), .val (.long r_11), .second, .val (.int (1 : Int32)), .unset, .unset] [(.long (0 : Int64)), (.long (r_11 - (r_11 / r_3) * r_3))])) t_
      refine XS.lcmp Xc.here hx rfl (hb hby at_222) rfl ?_
      exact k_
    by_cases hc223_45 : (r_11 - (r_11 / r_3) * r_3) = (0 : Int64)
    · refine own_go (A := Tc.setTop (mkF m 265 #[.val (.long q1), .second, .val (.long q2), .second, .val (.long q3), .second, .val (.long q4), .second, .val (.int p5), .val (.long r_1), .second, .val (.int y2), .val (.long r_3), .second, .val (.long r_4), .second, .val (.long r_5), .second, .val (.ref b6), .val (.long r_11), .second, .val (.int (1 : Int32)), .val (.int (1 : Int32)), .unset] [])) (fun t_ k_ => ?_) ?_
      · show Steps p.tables e below (Tc.setTop (mkF m 223 #[.val (.long q1), .second, .val (.long q2), .second, .val (.long q3), .second, .val (.long q4), .second, .val (.int p5), .val (.long r_1), .second, .val (.int y2), .val (.long r_3), .second, .val (.long r_4), .second, .val (.long r_5), .second, .val (.ref b6), .val (.long r_11), .second, .val (.int (1 : Int32)), .unset, .unset] [(.int (lcmpW (r_11 - (r_11 / r_3) * r_3) (0 : Int64)))])) t_
        refine XS.ifYes Xc.here hx rfl (pc0 := 223) (pc' := 258) rfl (hb hby at_223) rfl ((if0 _ _).trans (teq ((lw_eq _ _).mpr hc223_45)).1) (by decide) (by decide) ?_
        show Steps p.tables e below (Tc.setTop (mkF m 258 #[.val (.long q1), .second, .val (.long q2), .second, .val (.long q3), .second, .val (.long q4), .second, .val (.int p5), .val (.long r_1), .second, .val (.int y2), .val (.long r_3), .second, .val (.long r_4), .second, .val (.long r_5), .second, .val (.ref b6), .val (.long r_11), .second, .val (.int (1 : Int32)), .unset, .unset] [])) t_
        refine XS.iconst Xc.here hx rfl (hb hby at_258) ?_
        show Steps p.tables e below (Tc.setTop (mkF m 259 #[.val (.long q1), .second, .val (.long q2), .second, .val (.long q3), .second, .val (.long q4), .second, .val (.int p5), .val (.long r_1), .second, .val (.int y2), .val (.long r_3), .second, .val (.long r_4), .second, .val (.long r_5), .second, .val (.ref b6), .val (.long r_11), .second, .val (.int (1 : Int32)), .unset, .unset] [(.int (1 : Int32))])) t_
        refine XS.goto Xc.here hx rfl (pc0 := 259) (pc' := 263) rfl (hb hby at_259) (by decide) (by decide) ?_
        show Steps p.tables e below (Tc.setTop (mkF m 263 #[.val (.long q1), .second, .val (.long q2), .second, .val (.long q3), .second, .val (.long q4), .second, .val (.int p5), .val (.long r_1), .second, .val (.int y2), .val (.long r_3), .second, .val (.long r_4), .second, .val (.long r_5), .second, .val (.ref b6), .val (.long r_11), .second, .val (.int (1 : Int32)), .unset, .unset] [(.int (1 : Int32))])) t_
        refine XS.istore Xc.here hx rfl (hb hby at_263) rfl (l' := #[.val (.long q1), .second, .val (.long q2), .second, .val (.long q3), .second, .val (.long q4), .second, .val (.int p5), .val (.long r_1), .second, .val (.int y2), .val (.long r_3), .second, .val (.long r_4), .second, .val (.long r_5), .second, .val (.ref b6), .val (.long r_11), .second, .val (.int (1 : Int32)), .val (.int (1 : Int32)), .unset]) rfl ?_
        exact k_
      exact own_h265 l Z a0 hw q1 q2 q3 q4 p5 cs sf dc kd r_1 y2 r_3 r_4 r_5 b6 r_11 h0 n0 Z0 Xc hx hZ hby hml hown hret hlk hh ec Nc Kc0 Oc hS hk hSA hEL Rc hcc_ hsc_ hcs hsf hbd0 hbd1 hbd2
    · refine own_go (A := Tc.setTop (mkF m 226 #[.val (.long q1), .second, .val (.long q2), .second, .val (.long q3), .second, .val (.long q4), .second, .val (.int p5), .val (.long r_1), .second, .val (.int y2), .val (.long r_3), .second, .val (.long r_4), .second, .val (.long r_5), .second, .val (.ref b6), .val (.long r_11), .second, .val (.int (1 : Int32)), .unset, .unset] [])) (fun t_ k_ => ?_) ?_
      · show Steps p.tables e below (Tc.setTop (mkF m 223 #[.val (.long q1), .second, .val (.long q2), .second, .val (.long q3), .second, .val (.long q4), .second, .val (.int p5), .val (.long r_1), .second, .val (.int y2), .val (.long r_3), .second, .val (.long r_4), .second, .val (.long r_5), .second, .val (.ref b6), .val (.long r_11), .second, .val (.int (1 : Int32)), .unset, .unset] [(.int (lcmpW (r_11 - (r_11 / r_3) * r_3) (0 : Int64)))])) t_
        refine XS.ifNo Xc.here hx rfl (hb hby at_223) rfl ((if0 _ _).trans (feq (fun q => hc223_45 ((lw_eq _ _).mp q))).1) ?_
        exact k_
      exact own_c226 l Z a0 hw q1 q2 q3 q4 p5 cs sf dc kd r_1 y2 r_3 r_4 r_5 b6 r_11 h0 n0 Z0 Xc hx hZ hby hml hown hret hlk hh ec Nc Kc0 Oc hS hk hSA hEL Rc hcc_ hsc_ hcs hsf hbd0 hbd1 hbd2 hCG (fun _ => hc223_45)
theorem pd_24 : parseMethodDescriptor "(JJJ)Z" = some ⟨[.long, .long, .long], some .boolean⟩ := by decide +kernel
set_option maxRecDepth 65536 in
set_option maxHeartbeats 40000000 in
theorem own_c185 (l : Launch) (Z : State) (a0 : Array Value) (hw : ∀ d ∈ tables_1, d.before a0 Z = true) (q1 : Int64) (q2 : Int64) (q3 : Int64) (q4 : Int64) (p5 : Int32) (cs : Int32) (sf : Value) (dc : Addr) (kd : ClassId) (r_1 : Int64) (y2 : Int32) (r_3 : Int64) (r_4 : Int64) (r_5 : Int64) (b6 : Addr) (r_11 : Int64) (h0 : Heap) (n0 : Nat) (Z0 : n0 ≤ h0.size) {p : Program} {e : Env} {s : State} {m : MethodId} {below : List Frame} {meth : Method} {c : Code} {Tc : State} {Hc : Heap} {locsc : List Loc} {vmc : Vm} {kc0 : Nat} {cc_ sc_ : Nat} (Xc : Stand p l e room_1 (s.setVm vmc) m #[(.long q1), (.long q2), (.long q3), (.long q4), (.int p5)] below meth c Tc locsc cc_ sc_) (hx : p.tables.exec = Jvm.exec) (hZ : Z.Warmed39 (s.setVm vmc).vm) (hby : c.code = code) (hml : c.maxLocals = 24) (hown : (s.setVm vmc).vm.findClass "com/example/firmline/firmline/analysis/InterferenceNextReleasePinLaw" = some m.cls) (hret : meth.sig.returnType = some .boolean) (hlk : meth.locks = false) (hh : s.heap = h0) (ec : Tc.heap = Hc) (Nc : Fr n0 locsc) (Kc0 : Keep h0 Hc []) (Oc : Old Z n0 Hc) (hS : s.Since vmc kc0) (hk : kc0 ≤ Hc.size) (hSA : ∀ a ∈ Bundle.stringAtoms, a.before a0 Z = true) (hEL : EW Z a0 own_EL) (Rc : CHr Z own_EL s.vm h0 vmc Hc) (hcc_ : cc_ ≤ room_1.cells) (hsc_ : sc_ ≤ room_1.slots) (hcs : ¬ (cs = (0 : Int32))) (hsf : sf.isRef = true) (hbd0 : 1 ≤ r_3.toInt ∧ r_3.toInt ≤ 1000000000000000) (hbd1 : 1 ≤ r_4.toInt ∧ r_4.toInt ≤ 1000000000000000) (hbd2 : 1 ≤ r_5.toInt ∧ r_5.toInt ≤ 1000000000000000) (hQG : own_QG y2 r_1 r_11 r_3 r_4 r_5) (hCG : own_CG y2 r_1 r_11 r_3 r_4 r_5) :
    ∃ U_ o_, Steps p.tables e below (Tc.setTop (mkF m 185 #[.val (.long q1), .second, .val (.long q2), .second, .val (.long q3), .second, .val (.long q4), .second, .val (.int p5), .val (.long r_1), .second, .val (.int y2), .val (.long r_3), .second, .val (.long r_4), .second, .val (.long r_5), .second, .val (.ref b6), .val (.long r_11), .second, .unset, .unset, .unset] [])) U_ ∧ U_.status = .running ∧ Ended U_ below o_ ∧ (∃ v_ L_, o_ = .returned v_ ∧ Q_rm0 Z q1 q2 q3 q4 p5 cs sf dc kd h0 n0 v_ U_.heap L_ ∧ CHr Z own_EL s.vm s.heap U_.vm U_.heap ∧ ReturnedEndW s o_ U_ L_ room_1.cells room_1.slots) := by
  refine own_go (A := Tc.setTop (mkF m 188 #[.val (.long q1), .second, .val (.long q2), .second, .val (.long q3), .second, .val (.long q4), .second, .val (.int p5), .val (.long r_1), .second, .val (.int y2), .val (.long r_3), .second, .val (.long r_4), .second, .val (.long r_5), .second, .val (.ref b6), .val (.long r_11), .second, .unset, .unset, .unset] [(.int (3 : Int32)), (.int y2)])) (fun t_ k_ => ?_) ?_
  · show Steps p.tables e below (Tc.setTop (mkF m 185 #[.val (.long q1), .second, .val (.long q2), .second, .val (.long q3), .second, .val (.long q4), .second, .val (.int p5), .val (.long r_1), .second, .val (.int y2), .val (.long r_3), .second, .val (.long r_4), .second, .val (.long r_5), .second, .val (.ref b6), .val (.long r_11), .second, .unset, .unset, .unset] [])) t_
    refine XS.iload Xc.here hx rfl (hb hby at_185) rfl ?_
    show Steps p.tables e below (Tc.setTop (mkF m 187 #[.val (.long q1), .second, .val (.long q2), .second, .val (.long q3), .second, .val (.long q4), .second, .val (.int p5), .val (.long r_1), .second, .val (.int y2), .val (.long r_3), .second, .val (.long r_4), .second, .val (.long r_5), .second, .val (.ref b6), .val (.long r_11), .second, .unset, .unset, .unset] [(.int y2)])) t_
    refine XS.iconst Xc.here hx rfl (hb hby at_187) ?_
    exact k_
  by_cases hc188_15 : y2 < (3 : Int32)
  · refine own_go (A := Tc.setTop (mkF m 210 #[.val (.long q1), .second, .val (.long q2), .second, .val (.long q3), .second, .val (.long q4), .second, .val (.int p5), .val (.long r_1), .second, .val (.int y2), .val (.long r_3), .second, .val (.long r_4), .second, .val (.long r_5), .second, .val (.ref b6), .val (.long r_11), .second, .val (.int (1 : Int32)), .unset, .unset] [])) (fun t_ k_ => ?_) ?_
    · show Steps p.tables e below (Tc.setTop (mkF m 188 #[.val (.long q1), .second, .val (.long q2), .second, .val (.long q3), .second, .val (.long q4), .second, .val (.int p5), .val (.long r_1), .second, .val (.int y2), .val (.long r_3), .second, .val (.long r_4), .second, .val (.long r_5), .second, .val (.ref b6), .val (.long r_11), .second, .unset, .unset, .unset] [(.int (3 : Int32)), (.int y2)])) t_
      refine XS.icmpYes Xc.here hx rfl (pc0 := 188) (pc' := 203) rfl (hb hby at_188) rfl (tlt hc188_15).1 (by decide) (by decide) ?_
      show Steps p.tables e below (Tc.setTop (mkF m 203 #[.val (.long q1), .second, .val (.long q2), .second, .val (.long q3), .second, .val (.long q4), .second, .val (.int p5), .val (.long r_1), .second, .val (.int y2), .val (.long r_3), .second, .val (.long r_4), .second, .val (.long r_5), .second, .val (.ref b6), .val (.long r_11), .second, .unset, .unset, .unset] [])) t_
      refine XS.iconst Xc.here hx rfl (hb hby at_203) ?_
      show Steps p.tables e below (Tc.setTop (mkF m 204 #[.val (.long q1), .second, .val (.long q2), .second, .val (.long q3), .second, .val (.long q4), .second, .val (.int p5), .val (.long r_1), .second, .val (.int y2), .val (.long r_3), .second, .val (.long r_4), .second, .val (.long r_5), .second, .val (.ref b6), .val (.long r_11), .second, .unset, .unset, .unset] [(.int (1 : Int32))])) t_
      refine XS.goto Xc.here hx rfl (pc0 := 204) (pc' := 208) rfl (hb hby at_204) (by decide) (by decide) ?_
      show Steps p.tables e below (Tc.setTop (mkF m 208 #[.val (.long q1), .second, .val (.long q2), .second, .val (.long q3), .second, .val (.long q4), .second, .val (.int p5), .val (.long r_1), .second, .val (.int y2), .val (.long r_3), .second, .val (.long r_4), .second, .val (.long r_5), .second, .val (.ref b6), .val (.long r_11), .second, .unset, .unset, .unset] [(.int (1 : Int32))])) t_
      refine XS.istore Xc.here hx rfl (hb hby at_208) rfl (l' := #[.val (.long q1), .second, .val (.long q2), .second, .val (.long q3), .second, .val (.long q4), .second, .val (.int p5), .val (.long r_1), .second, .val (.int y2), .val (.long r_3), .second, .val (.long r_4), .second, .val (.long r_5), .second, .val (.ref b6), .val (.long r_11), .second, .val (.int (1 : Int32)), .unset, .unset]) rfl ?_
      exact k_
    exact own_c210 l Z a0 hw q1 q2 q3 q4 p5 cs sf dc kd r_1 y2 r_3 r_4 r_5 b6 r_11 h0 n0 Z0 Xc hx hZ hby hml hown hret hlk hh ec Nc Kc0 Oc hS hk hSA hEL Rc hcc_ hsc_ hcs hsf hbd0 hbd1 hbd2 hCG
  · refine own_go (A := Tc.setTop (mkF m 197 #[.val (.long q1), .second, .val (.long q2), .second, .val (.long q3), .second, .val (.long q4), .second, .val (.int p5), .val (.long r_1), .second, .val (.int y2), .val (.long r_3), .second, .val (.long r_4), .second, .val (.long r_5), .second, .val (.ref b6), .val (.long r_11), .second, .unset, .unset, .unset] [(.long r_5), (.long r_1), (.long r_11)])) (fun t_ k_ => ?_) ?_
    · show Steps p.tables e below (Tc.setTop (mkF m 188 #[.val (.long q1), .second, .val (.long q2), .second, .val (.long q3), .second, .val (.long q4), .second, .val (.int p5), .val (.long r_1), .second, .val (.int y2), .val (.long r_3), .second, .val (.long r_4), .second, .val (.long r_5), .second, .val (.ref b6), .val (.long r_11), .second, .unset, .unset, .unset] [(.int (3 : Int32)), (.int y2)])) t_
      refine XS.icmpNo Xc.here hx rfl (hb hby at_188) rfl (flt hc188_15).1 ?_
      show Steps p.tables e below (Tc.setTop (mkF m 191 #[.val (.long q1), .second, .val (.long q2), .second, .val (.long q3), .second, .val (.long q4), .second, .val (.int p5), .val (.long r_1), .second, .val (.int y2), .val (.long r_3), .second, .val (.long r_4), .second, .val (.long r_5), .second, .val (.ref b6), .val (.long r_11), .second, .unset, .unset, .unset] [])) t_
      refine XS.lload Xc.here hx rfl (hb hby at_191) rfl ?_
      show Steps p.tables e below (Tc.setTop (mkF m 193 #[.val (.long q1), .second, .val (.long q2), .second, .val (.long q3), .second, .val (.long q4), .second, .val (.int p5), .val (.long r_1), .second, .val (.int y2), .val (.long r_3), .second, .val (.long r_4), .second, .val (.long r_5), .second, .val (.ref b6), .val (.long r_11), .second, .unset, .unset, .unset] [(.long r_11)])) t_
      refine XS.lload Xc.here hx rfl (hb hby at_193) rfl ?_
      show Steps p.tables e below (Tc.setTop (mkF m 195 #[.val (.long q1), .second, .val (.long q2), .second, .val (.long q3), .second, .val (.long q4), .second, .val (.int p5), .val (.long r_1), .second, .val (.int y2), .val (.long r_3), .second, .val (.long r_4), .second, .val (.long r_5), .second, .val (.ref b6), .val (.long r_11), .second, .unset, .unset, .unset] [(.long r_1), (.long r_11)])) t_
      refine XS.lload Xc.here hx rfl (hb hby at_195) rfl ?_
      exact k_
    obtain ⟨_, _, ⟨T46, L46, k46, n46⟩, -, X46, ⟨Lc46, hQ46, l46, y46, z46⟩, st46⟩ := Jvm.LawKit.callS Xc hx (y := own_y37) hown (mvT hZ (own_w hw 232 rfl)) (mvT hZ (own_w hw 233 rfl)) (mvT hZ (own_w hw 7 rfl)) (mvT hZ (own_w hw 234 rfl)) (by decide) (backOf (W := 0) (rmQuiet l Z a0 hw [] r_11 r_1 r_5 Hc n0 (Nat.le_trans Z0 Kc0.1) (own_nz hbd2) (hQG.2.2.2 hc188_15)) hZ (own_w hw 234 rfl) (own_w hw 7 rfl) (by decide) (by decide)) (g := (mkF m 197 #[.val (.long q1), .second, .val (.long q2), .second, .val (.long q3), .second, .val (.long q4), .second, .val (.int p5), .val (.long r_1), .second, .val (.int y2), .val (.long r_3), .second, .val (.long r_4), .second, .val (.long r_5), .second, .val (.ref b6), .val (.long r_11), .second, .unset, .unset, .unset] [(.long r_5), (.long r_1), (.long r_11)])) rfl (by rw [hml]; rfl) (argsL := [(.long r_11), (.long r_1), (.long r_5)]) (rest := []) (lenOf pd_24 rfl) rfl (by show 2 * 0 + _ ≤ _; exact Nat.le_of_eq rfl) (hb hby at_197) (fun _ _ => ⟨rfl, ec, hcc_, hsc_⟩)
    dsimp only [Pt.U, Pt.locs, Pt.cells, Pt.slots] at X46 l46 y46 z46 st46 hQ46
    subst l46 y46 z46
    obtain ⟨rfl, N46q, eh46⟩ := hQ46
    have N46 := Fr.app Nc N46q
    refine own_go st46 ?_
    refine own_go (A := T46.setTop (mkF m 210 #[.val (.long q1), .second, .val (.long q2), .second, .val (.long q3), .second, .val (.long q4), .second, .val (.int p5), .val (.long r_1), .second, .val (.int y2), .val (.long r_3), .second, .val (.long r_4), .second, .val (.long r_5), .second, .val (.ref b6), .val (.long r_11), .second, .val (.int (1 : Int32)), .unset, .unset] [])) (fun t_ k_ => ?_) ?_
    · show Steps p.tables e below (T46.setTop (mkF m 200 #[.val (.long q1), .second, .val (.long q2), .second, .val (.long q3), .second, .val (.long q4), .second, .val (.int p5), .val (.long r_1), .second, .val (.int y2), .val (.long r_3), .second, .val (.long r_4), .second, .val (.long r_5), .second, .val (.ref b6), .val (.long r_11), .second, .unset, .unset, .unset] [(.int (1 : Int32))])) t_
      refine XS.ifNo X46.here hx rfl (hb hby at_200) rfl ((if0 _ _).trans (feq (by decide : ¬ ((1 : Int32) = (0 : Int32)))).1) ?_
      show Steps p.tables e below (T46.setTop (mkF m 203 #[.val (.long q1), .second, .val (.long q2), .second, .val (.long q3), .second, .val (.long q4), .second, .val (.int p5), .val (.long r_1), .second, .val (.int y2), .val (.long r_3), .second, .val (.long r_4), .second, .val (.long r_5), .second, .val (.ref b6), .val (.long r_11), .second, .unset, .unset, .unset] [])) t_
      refine XS.iconst X46.here hx rfl (hb hby at_203) ?_
      show Steps p.tables e below (T46.setTop (mkF m 204 #[.val (.long q1), .second, .val (.long q2), .second, .val (.long q3), .second, .val (.long q4), .second, .val (.int p5), .val (.long r_1), .second, .val (.int y2), .val (.long r_3), .second, .val (.long r_4), .second, .val (.long r_5), .second, .val (.ref b6), .val (.long r_11), .second, .unset, .unset, .unset] [(.int (1 : Int32))])) t_
      refine XS.goto X46.here hx rfl (pc0 := 204) (pc' := 208) rfl (hb hby at_204) (by decide) (by decide) ?_
      show Steps p.tables e below (T46.setTop (mkF m 208 #[.val (.long q1), .second, .val (.long q2), .second, .val (.long q3), .second, .val (.long q4), .second, .val (.int p5), .val (.long r_1), .second, .val (.int y2), .val (.long r_3), .second, .val (.long r_4), .second, .val (.long r_5), .second, .val (.ref b6), .val (.long r_11), .second, .unset, .unset, .unset] [(.int (1 : Int32))])) t_
      refine XS.istore X46.here hx rfl (hb hby at_208) rfl (l' := #[.val (.long q1), .second, .val (.long q2), .second, .val (.long q3), .second, .val (.long q4), .second, .val (.int p5), .val (.long r_1), .second, .val (.int y2), .val (.long r_3), .second, .val (.long r_4), .second, .val (.long r_5), .second, .val (.ref b6), .val (.long r_11), .second, .val (.int (1 : Int32)), .unset, .unset]) rfl ?_
      exact k_
    exact own_c210 l Z a0 hw q1 q2 q3 q4 p5 cs sf dc kd r_1 y2 r_3 r_4 r_5 b6 r_11 h0 n0 Z0 X46 hx hZ hby hml hown hret hlk hh eh46 N46 Kc0 Oc hS hk hSA hEL Rc hcc_ hsc_ hcs hsf hbd0 hbd1 hbd2 hCG
set_option maxRecDepth 65536 in
set_option maxHeartbeats 40000000 in
theorem own_c167 (l : Launch) (Z : State) (a0 : Array Value) (hw : ∀ d ∈ tables_1, d.before a0 Z = true) (q1 : Int64) (q2 : Int64) (q3 : Int64) (q4 : Int64) (p5 : Int32) (cs : Int32) (sf : Value) (dc : Addr) (kd : ClassId) (r_1 : Int64) (y2 : Int32) (r_3 : Int64) (r_4 : Int64) (r_5 : Int64) (b6 : Addr) (r_11 : Int64) (h0 : Heap) (n0 : Nat) (Z0 : n0 ≤ h0.size) {p : Program} {e : Env} {s : State} {m : MethodId} {below : List Frame} {meth : Method} {c : Code} {Tc : State} {Hc : Heap} {locsc : List Loc} {vmc : Vm} {kc0 : Nat} {cc_ sc_ : Nat} (Xc : Stand p l e room_1 (s.setVm vmc) m #[(.long q1), (.long q2), (.long q3), (.long q4), (.int p5)] below meth c Tc locsc cc_ sc_) (hx : p.tables.exec = Jvm.exec) (hZ : Z.Warmed39 (s.setVm vmc).vm) (hby : c.code = code) (hml : c.maxLocals = 24) (hown : (s.setVm vmc).vm.findClass "com/example/firmline/firmline/analysis/InterferenceNextReleasePinLaw" = some m.cls) (hret : meth.sig.returnType = some .boolean) (hlk : meth.locks = false) (hh : s.heap = h0) (ec : Tc.heap = Hc) (Nc : Fr n0 locsc) (Kc0 : Keep h0 Hc []) (Oc : Old Z n0 Hc) (hS : s.Since vmc kc0) (hk : kc0 ≤ Hc.size) (hSA : ∀ a ∈ Bundle.stringAtoms, a.before a0 Z = true) (hEL : EW Z a0 own_EL) (Rc : CHr Z own_EL s.vm h0 vmc Hc) (hcc_ : cc_ ≤ room_1.cells) (hsc_ : sc_ ≤ room_1.slots) (hcs : ¬ (cs = (0 : Int32))) (hsf : sf.isRef = true) (hbd0 : 1 ≤ r_3.toInt ∧ r_3.toInt ≤ 1000000000000000) (hbd1 : 1 ≤ r_4.toInt ∧ r_4.toInt ≤ 1000000000000000) (hbd2 : 1 ≤ r_5.toInt ∧ r_5.toInt ≤ 1000000000000000) (hQG : own_QG y2 r_1 r_11 r_3 r_4 r_5) (hCG : own_CG y2 r_1 r_11 r_3 r_4 r_5) :
    ∃ U_ o_, Steps p.tables e below (Tc.setTop (mkF m 167 #[.val (.long q1), .second, .val (.long q2), .second, .val (.long q3), .second, .val (.long q4), .second, .val (.int p5), .val (.long r_1), .second, .val (.int y2), .val (.long r_3), .second, .val (.long r_4), .second, .val (.long r_5), .second, .val (.ref b6), .val (.long r_11), .second, .unset, .unset, .unset] [])) U_ ∧ U_.status = .running ∧ Ended U_ below o_ ∧ (∃ v_ L_, o_ = .returned v_ ∧ Q_rm0 Z q1 q2 q3 q4 p5 cs sf dc kd h0 n0 v_ U_.heap L_ ∧ CHr Z own_EL s.vm s.heap U_.vm U_.heap ∧ ReturnedEndW s o_ U_ L_ room_1.cells room_1.slots) := by
  refine own_go (A := Tc.setTop (mkF m 170 #[.val (.long q1), .second, .val (.long q2), .second, .val (.long q3), .second, .val (.long q4), .second, .val (.int p5), .val (.long r_1), .second, .val (.int y2), .val (.long r_3), .second, .val (.long r_4), .second, .val (.long r_5), .second, .val (.ref b6), .val (.long r_11), .second, .unset, .unset, .unset] [(.int (2 : Int32)), (.int y2)])) (fun t_ k_ => ?_) ?_
  · show Steps p.tables e below (Tc.setTop (mkF m 167 #[.val (.long q1), .second, .val (.long q2), .second, .val (.long q3), .second, .val (.long q4), .second, .val (.int p5), .val (.long r_1), .second, .val (.int y2), .val (.long r_3), .second, .val (.long r_4), .second, .val (.long r_5), .second, .val (.ref b6), .val (.long r_11), .second, .unset, .unset, .unset] [])) t_
    refine XS.iload Xc.here hx rfl (hb hby at_167) rfl ?_
    show Steps p.tables e below (Tc.setTop (mkF m 169 #[.val (.long q1), .second, .val (.long q2), .second, .val (.long q3), .second, .val (.long q4), .second, .val (.int p5), .val (.long r_1), .second, .val (.int y2), .val (.long r_3), .second, .val (.long r_4), .second, .val (.long r_5), .second, .val (.ref b6), .val (.long r_11), .second, .unset, .unset, .unset] [(.int y2)])) t_
    refine XS.iconst Xc.here hx rfl (hb hby at_169) ?_
    exact k_
  by_cases hc170_14 : y2 < (2 : Int32)
  · refine own_go (A := Tc.setTop (mkF m 185 #[.val (.long q1), .second, .val (.long q2), .second, .val (.long q3), .second, .val (.long q4), .second, .val (.int p5), .val (.long r_1), .second, .val (.int y2), .val (.long r_3), .second, .val (.long r_4), .second, .val (.long r_5), .second, .val (.ref b6), .val (.long r_11), .second, .unset, .unset, .unset] [])) (fun t_ k_ => ?_) ?_
    · show Steps p.tables e below (Tc.setTop (mkF m 170 #[.val (.long q1), .second, .val (.long q2), .second, .val (.long q3), .second, .val (.long q4), .second, .val (.int p5), .val (.long r_1), .second, .val (.int y2), .val (.long r_3), .second, .val (.long r_4), .second, .val (.long r_5), .second, .val (.ref b6), .val (.long r_11), .second, .unset, .unset, .unset] [(.int (2 : Int32)), (.int y2)])) t_
      refine XS.icmpYes Xc.here hx rfl (pc0 := 170) (pc' := 185) rfl (hb hby at_170) rfl (tlt hc170_14).1 (by decide) (by decide) ?_
      exact k_
    exact own_c185 l Z a0 hw q1 q2 q3 q4 p5 cs sf dc kd r_1 y2 r_3 r_4 r_5 b6 r_11 h0 n0 Z0 Xc hx hZ hby hml hown hret hlk hh ec Nc Kc0 Oc hS hk hSA hEL Rc hcc_ hsc_ hcs hsf hbd0 hbd1 hbd2 hQG hCG
  · refine own_go (A := Tc.setTop (mkF m 179 #[.val (.long q1), .second, .val (.long q2), .second, .val (.long q3), .second, .val (.long q4), .second, .val (.int p5), .val (.long r_1), .second, .val (.int y2), .val (.long r_3), .second, .val (.long r_4), .second, .val (.long r_5), .second, .val (.ref b6), .val (.long r_11), .second, .unset, .unset, .unset] [(.long r_4), (.long r_1), (.long r_11)])) (fun t_ k_ => ?_) ?_
    · show Steps p.tables e below (Tc.setTop (mkF m 170 #[.val (.long q1), .second, .val (.long q2), .second, .val (.long q3), .second, .val (.long q4), .second, .val (.int p5), .val (.long r_1), .second, .val (.int y2), .val (.long r_3), .second, .val (.long r_4), .second, .val (.long r_5), .second, .val (.ref b6), .val (.long r_11), .second, .unset, .unset, .unset] [(.int (2 : Int32)), (.int y2)])) t_
      refine XS.icmpNo Xc.here hx rfl (hb hby at_170) rfl (flt hc170_14).1 ?_
      show Steps p.tables e below (Tc.setTop (mkF m 173 #[.val (.long q1), .second, .val (.long q2), .second, .val (.long q3), .second, .val (.long q4), .second, .val (.int p5), .val (.long r_1), .second, .val (.int y2), .val (.long r_3), .second, .val (.long r_4), .second, .val (.long r_5), .second, .val (.ref b6), .val (.long r_11), .second, .unset, .unset, .unset] [])) t_
      refine XS.lload Xc.here hx rfl (hb hby at_173) rfl ?_
      show Steps p.tables e below (Tc.setTop (mkF m 175 #[.val (.long q1), .second, .val (.long q2), .second, .val (.long q3), .second, .val (.long q4), .second, .val (.int p5), .val (.long r_1), .second, .val (.int y2), .val (.long r_3), .second, .val (.long r_4), .second, .val (.long r_5), .second, .val (.ref b6), .val (.long r_11), .second, .unset, .unset, .unset] [(.long r_11)])) t_
      refine XS.lload Xc.here hx rfl (hb hby at_175) rfl ?_
      show Steps p.tables e below (Tc.setTop (mkF m 177 #[.val (.long q1), .second, .val (.long q2), .second, .val (.long q3), .second, .val (.long q4), .second, .val (.int p5), .val (.long r_1), .second, .val (.int y2), .val (.long r_3), .second, .val (.long r_4), .second, .val (.long r_5), .second, .val (.ref b6), .val (.long r_11), .second, .unset, .unset, .unset] [(.long r_1), (.long r_11)])) t_
      refine XS.lload Xc.here hx rfl (hb hby at_177) rfl ?_
      exact k_
    obtain ⟨_, _, ⟨T47, L47, k47, n47⟩, -, X47, ⟨Lc47, hQ47, l47, y47, z47⟩, st47⟩ := Jvm.LawKit.callS Xc hx (y := own_y37) hown (mvT hZ (own_w hw 232 rfl)) (mvT hZ (own_w hw 233 rfl)) (mvT hZ (own_w hw 7 rfl)) (mvT hZ (own_w hw 234 rfl)) (by decide) (backOf (W := 0) (rmQuiet l Z a0 hw [] r_11 r_1 r_4 Hc n0 (Nat.le_trans Z0 Kc0.1) (own_nz hbd1) (hQG.2.2.1 hc170_14)) hZ (own_w hw 234 rfl) (own_w hw 7 rfl) (by decide) (by decide)) (g := (mkF m 179 #[.val (.long q1), .second, .val (.long q2), .second, .val (.long q3), .second, .val (.long q4), .second, .val (.int p5), .val (.long r_1), .second, .val (.int y2), .val (.long r_3), .second, .val (.long r_4), .second, .val (.long r_5), .second, .val (.ref b6), .val (.long r_11), .second, .unset, .unset, .unset] [(.long r_4), (.long r_1), (.long r_11)])) rfl (by rw [hml]; rfl) (argsL := [(.long r_11), (.long r_1), (.long r_4)]) (rest := []) (lenOf pd_24 rfl) rfl (by show 2 * 0 + _ ≤ _; exact Nat.le_of_eq rfl) (hb hby at_179) (fun _ _ => ⟨rfl, ec, hcc_, hsc_⟩)
    dsimp only [Pt.U, Pt.locs, Pt.cells, Pt.slots] at X47 l47 y47 z47 st47 hQ47
    subst l47 y47 z47
    obtain ⟨rfl, N47q, eh47⟩ := hQ47
    have N47 := Fr.app Nc N47q
    refine own_go st47 ?_
    refine own_go (A := T47.setTop (mkF m 185 #[.val (.long q1), .second, .val (.long q2), .second, .val (.long q3), .second, .val (.long q4), .second, .val (.int p5), .val (.long r_1), .second, .val (.int y2), .val (.long r_3), .second, .val (.long r_4), .second, .val (.long r_5), .second, .val (.ref b6), .val (.long r_11), .second, .unset, .unset, .unset] [])) (fun t_ k_ => ?_) ?_
    · show Steps p.tables e below (T47.setTop (mkF m 182 #[.val (.long q1), .second, .val (.long q2), .second, .val (.long q3), .second, .val (.long q4), .second, .val (.int p5), .val (.long r_1), .second, .val (.int y2), .val (.long r_3), .second, .val (.long r_4), .second, .val (.long r_5), .second, .val (.ref b6), .val (.long r_11), .second, .unset, .unset, .unset] [(.int (1 : Int32))])) t_
      refine XS.ifNo X47.here hx rfl (hb hby at_182) rfl ((if0 _ _).trans (feq (by decide : ¬ ((1 : Int32) = (0 : Int32)))).1) ?_
      exact k_
    exact own_c185 l Z a0 hw q1 q2 q3 q4 p5 cs sf dc kd r_1 y2 r_3 r_4 r_5 b6 r_11 h0 n0 Z0 X47 hx hZ hby hml hown hret hlk hh eh47 N47 Kc0 Oc hS hk hSA hEL Rc hcc_ hsc_ hcs hsf hbd0 hbd1 hbd2 hQG hCG
set_option maxRecDepth 65536 in
set_option maxHeartbeats 40000000 in
theorem own_c137 (l : Launch) (Z : State) (a0 : Array Value) (hw : ∀ d ∈ tables_1, d.before a0 Z = true) (q1 : Int64) (q2 : Int64) (q3 : Int64) (q4 : Int64) (p5 : Int32) (cs : Int32) (sf : Value) (dc : Addr) (kd : ClassId) (r_1 : Int64) (y2 : Int32) (r_3 : Int64) (r_4 : Int64) (r_5 : Int64) (b6 : Addr) (r_11 : Int64) (h0 : Heap) (n0 : Nat) (Z0 : n0 ≤ h0.size) {p : Program} {e : Env} {s : State} {m : MethodId} {below : List Frame} {meth : Method} {c : Code} {Tc : State} {Hc : Heap} {locsc : List Loc} {vmc : Vm} {kc0 : Nat} {cc_ sc_ : Nat} (Xc : Stand p l e room_1 (s.setVm vmc) m #[(.long q1), (.long q2), (.long q3), (.long q4), (.int p5)] below meth c Tc locsc cc_ sc_) (hx : p.tables.exec = Jvm.exec) (hZ : Z.Warmed39 (s.setVm vmc).vm) (hby : c.code = code) (hml : c.maxLocals = 24) (hown : (s.setVm vmc).vm.findClass "com/example/firmline/firmline/analysis/InterferenceNextReleasePinLaw" = some m.cls) (hret : meth.sig.returnType = some .boolean) (hlk : meth.locks = false) (hh : s.heap = h0) (ec : Tc.heap = Hc) (Nc : Fr n0 locsc) (Kc0 : Keep h0 Hc []) (Oc : Old Z n0 Hc) (hS : s.Since vmc kc0) (hk : kc0 ≤ Hc.size) (hSA : ∀ a ∈ Bundle.stringAtoms, a.before a0 Z = true) (hEL : EW Z a0 own_EL) (Rc : CHr Z own_EL s.vm h0 vmc Hc) (hcc_ : cc_ ≤ room_1.cells) (hsc_ : sc_ ≤ room_1.slots) (hcs : ¬ (cs = (0 : Int32))) (hsf : sf.isRef = true) (hbd0 : 1 ≤ r_3.toInt ∧ r_3.toInt ≤ 1000000000000000) (hbd1 : 1 ≤ r_4.toInt ∧ r_4.toInt ≤ 1000000000000000) (hbd2 : 1 ≤ r_5.toInt ∧ r_5.toInt ≤ 1000000000000000) (hQG : own_QG y2 r_1 r_11 r_3 r_4 r_5) (hCG : own_CG y2 r_1 r_11 r_3 r_4 r_5) :
    ∃ U_ o_, Steps p.tables e below (Tc.setTop (mkF m 137 #[.val (.long q1), .second, .val (.long q2), .second, .val (.long q3), .second, .val (.long q4), .second, .val (.int p5), .val (.long r_1), .second, .val (.int y2), .val (.long r_3), .second, .val (.long r_4), .second, .val (.long r_5), .second, .val (.ref b6), .unset, .unset, .unset, .unset, .unset] [(.long r_11)])) U_ ∧ U_.status = .running ∧ Ended U_ below o_ ∧ (∃ v_ L_, o_ = .returned v_ ∧ Q_rm0 Z q1 q2 q3 q4 p5 cs sf dc kd h0 n0 v_ U_.heap L_ ∧ CHr Z own_EL s.vm s.heap U_.vm U_.heap ∧ ReturnedEndW s o_ U_ L_ room_1.cells room_1.slots) := by
  refine own_go (A := Tc.setTop (mkF m 144 #[.val (.long q1), .second, .val (.long q2), .second, .val (.long q3), .second, .val (.long q4), .second, .val (.int p5), .val (.long r_1), .second, .val (.int y2), .val (.long r_3), .second, .val (.long r_4), .second, .val (.long r_5), .second, .val (.ref b6), .val (.long r_11), .second, .unset, .unset, .unset] [(.int (lcmpW r_11 r_1))])) (fun t_ k_ => ?_) ?_
  · show Steps p.tables e below (Tc.setTop (mkF m 137 #[.val (.long q1), .second, .val (.long q2), .second, .val (.long q3), .second, .val (.long q4), .second, .val (.int p5), .val (.long r_1), .second, .val (.int y2), .val (.long r_3), .second, .val (.long r_4), .second, .val (.long r_5), .second, .val (.ref b6), .unset, .unset, .unset, .unset, .unset] [(.long r_11)])) t_
    refine XS.lstore Xc.here hx rfl (hb hby at_137) rfl (l' := #[.val (.long q1), .second, .val (.long q2), .second, .val (.long q3), .second, .val (.long q4), .second, .val (.int p5), .val (.long r_1), .second, .val (.int y2), .val (.long r_3), .second, .val (.long r_4), .second, .val (.long r_5), .second, .val (.ref b6), .val (.long r_11), .second, .unset, .unset, .unset]) rfl ?_
    show Steps p.tables e below (Tc.setTop (mkF m 139 #[.val (.long q1), .second, .val (.long q2), .second, .val (.long q3), .second, .val (.long q4), .second, .val (.int p5), .val (.long r_1), .second, .val (.int y2), .val (.long r_3), .second, .val (.long r_4), .second, .val (.long r_5), .second, .val (.ref b6), .val (.long r_11), .second, .unset, .unset, .unset] [])) t_
    refine XS.lload Xc.here hx rfl (hb hby at_139) rfl ?_
    show Steps p.tables e below (Tc.setTop (mkF m 141 #[.val (.long q1), .second, .val (.long q2), .second, .val (.long q3), .second, .val (.long q4), .second, .val (.int p5), .val (.long r_1), .second, .val (.int y2), .val (.long r_3), .second, .val (.long r_4), .second, .val (.long r_5), .second, .val (.ref b6), .val (.long r_11), .second, .unset, .unset, .unset] [(.long r_11)])) t_
    refine XS.lload Xc.here hx rfl (hb hby at_141) rfl ?_
    show Steps p.tables e below (Tc.setTop (mkF m 143 #[.val (.long q1), .second, .val (.long q2), .second, .val (.long q3), .second, .val (.long q4), .second, .val (.int p5), .val (.long r_1), .second, .val (.int y2), .val (.long r_3), .second, .val (.long r_4), .second, .val (.long r_5), .second, .val (.ref b6), .val (.long r_11), .second, .unset, .unset, .unset] [(.long r_1), (.long r_11)])) t_
    refine XS.lcmp Xc.here hx rfl (hb hby at_143) rfl ?_
    exact k_
  have hc144_12 : ¬ (r_11 < r_1) := own_nle hQG.1
  refine own_go (A := Tc.setTop (mkF m 152 #[.val (.long q1), .second, .val (.long q2), .second, .val (.long q3), .second, .val (.long q4), .second, .val (.int p5), .val (.long r_1), .second, .val (.int y2), .val (.long r_3), .second, .val (.long r_4), .second, .val (.long r_5), .second, .val (.ref b6), .val (.long r_11), .second, .unset, .unset, .unset] [(.int (1 : Int32)), (.int y2)])) (fun t_ k_ => ?_) ?_
  · show Steps p.tables e below (Tc.setTop (mkF m 144 #[.val (.long q1), .second, .val (.long q2), .second, .val (.long q3), .second, .val (.long q4), .second, .val (.int p5), .val (.long r_1), .second, .val (.int y2), .val (.long r_3), .second, .val (.long r_4), .second, .val (.long r_5), .second, .val (.ref b6), .val (.long r_11), .second, .unset, .unset, .unset] [(.int (lcmpW r_11 r_1))])) t_
    refine XS.ifYes Xc.here hx rfl (pc0 := 144) (pc' := 149) rfl (hb hby at_144) rfl ((if0 _ _).trans (flt (fun q => hc144_12 ((lw_lt _ _).mp q))).2.1) (by decide) (by decide) ?_
    show Steps p.tables e below (Tc.setTop (mkF m 149 #[.val (.long q1), .second, .val (.long q2), .second, .val (.long q3), .second, .val (.long q4), .second, .val (.int p5), .val (.long r_1), .second, .val (.int y2), .val (.long r_3), .second, .val (.long r_4), .second, .val (.long r_5), .second, .val (.ref b6), .val (.long r_11), .second, .unset, .unset, .unset] [])) t_
    refine XS.iload Xc.here hx rfl (hb hby at_149) rfl ?_
    show Steps p.tables e below (Tc.setTop (mkF m 151 #[.val (.long q1), .second, .val (.long q2), .second, .val (.long q3), .second, .val (.long q4), .second, .val (.int p5), .val (.long r_1), .second, .val (.int y2), .val (.long r_3), .second, .val (.long r_4), .second, .val (.long r_5), .second, .val (.ref b6), .val (.long r_11), .second, .unset, .unset, .unset] [(.int y2)])) t_
    refine XS.iconst Xc.here hx rfl (hb hby at_151) ?_
    exact k_
  by_cases hc152_13 : y2 < (1 : Int32)
  · refine own_go (A := Tc.setTop (mkF m 167 #[.val (.long q1), .second, .val (.long q2), .second, .val (.long q3), .second, .val (.long q4), .second, .val (.int p5), .val (.long r_1), .second, .val (.int y2), .val (.long r_3), .second, .val (.long r_4), .second, .val (.long r_5), .second, .val (.ref b6), .val (.long r_11), .second, .unset, .unset, .unset] [])) (fun t_ k_ => ?_) ?_
    · show Steps p.tables e below (Tc.setTop (mkF m 152 #[.val (.long q1), .second, .val (.long q2), .second, .val (.long q3), .second, .val (.long q4), .second, .val (.int p5), .val (.long r_1), .second, .val (.int y2), .val (.long r_3), .second, .val (.long r_4), .second, .val (.long r_5), .second, .val (.ref b6), .val (.long r_11), .second, .unset, .unset, .unset] [(.int (1 : Int32)), (.int y2)])) t_
      refine XS.icmpYes Xc.here hx rfl (pc0 := 152) (pc' := 167) rfl (hb hby at_152) rfl (tlt hc152_13).1 (by decide) (by decide) ?_
      exact k_
    exact own_c167 l Z a0 hw q1 q2 q3 q4 p5 cs sf dc kd r_1 y2 r_3 r_4 r_5 b6 r_11 h0 n0 Z0 Xc hx hZ hby hml hown hret hlk hh ec Nc Kc0 Oc hS hk hSA hEL Rc hcc_ hsc_ hcs hsf hbd0 hbd1 hbd2 hQG hCG
  · refine own_go (A := Tc.setTop (mkF m 161 #[.val (.long q1), .second, .val (.long q2), .second, .val (.long q3), .second, .val (.long q4), .second, .val (.int p5), .val (.long r_1), .second, .val (.int y2), .val (.long r_3), .second, .val (.long r_4), .second, .val (.long r_5), .second, .val (.ref b6), .val (.long r_11), .second, .unset, .unset, .unset] [(.long r_3), (.long r_1), (.long r_11)])) (fun t_ k_ => ?_) ?_
    · show Steps p.tables e below (Tc.setTop (mkF m 152 #[.val (.long q1), .second, .val (.long q2), .second, .val (.long q3), .second, .val (.long q4), .second, .val (.int p5), .val (.long r_1), .second, .val (.int y2), .val (.long r_3), .second, .val (.long r_4), .second, .val (.long r_5), .second, .val (.ref b6), .val (.long r_11), .second, .unset, .unset, .unset] [(.int (1 : Int32)), (.int y2)])) t_
      refine XS.icmpNo Xc.here hx rfl (hb hby at_152) rfl (flt hc152_13).1 ?_
      show Steps p.tables e below (Tc.setTop (mkF m 155 #[.val (.long q1), .second, .val (.long q2), .second, .val (.long q3), .second, .val (.long q4), .second, .val (.int p5), .val (.long r_1), .second, .val (.int y2), .val (.long r_3), .second, .val (.long r_4), .second, .val (.long r_5), .second, .val (.ref b6), .val (.long r_11), .second, .unset, .unset, .unset] [])) t_
      refine XS.lload Xc.here hx rfl (hb hby at_155) rfl ?_
      show Steps p.tables e below (Tc.setTop (mkF m 157 #[.val (.long q1), .second, .val (.long q2), .second, .val (.long q3), .second, .val (.long q4), .second, .val (.int p5), .val (.long r_1), .second, .val (.int y2), .val (.long r_3), .second, .val (.long r_4), .second, .val (.long r_5), .second, .val (.ref b6), .val (.long r_11), .second, .unset, .unset, .unset] [(.long r_11)])) t_
      refine XS.lload Xc.here hx rfl (hb hby at_157) rfl ?_
      show Steps p.tables e below (Tc.setTop (mkF m 159 #[.val (.long q1), .second, .val (.long q2), .second, .val (.long q3), .second, .val (.long q4), .second, .val (.int p5), .val (.long r_1), .second, .val (.int y2), .val (.long r_3), .second, .val (.long r_4), .second, .val (.long r_5), .second, .val (.ref b6), .val (.long r_11), .second, .unset, .unset, .unset] [(.long r_1), (.long r_11)])) t_
      refine XS.lload Xc.here hx rfl (hb hby at_159) rfl ?_
      exact k_
    obtain ⟨_, _, ⟨T48, L48, k48, n48⟩, -, X48, ⟨Lc48, hQ48, l48, y48, z48⟩, st48⟩ := Jvm.LawKit.callS Xc hx (y := own_y37) hown (mvT hZ (own_w hw 232 rfl)) (mvT hZ (own_w hw 233 rfl)) (mvT hZ (own_w hw 7 rfl)) (mvT hZ (own_w hw 234 rfl)) (by decide) (backOf (W := 0) (rmQuiet l Z a0 hw [] r_11 r_1 r_3 Hc n0 (Nat.le_trans Z0 Kc0.1) (own_nz hbd0) (hQG.2.1 hc152_13)) hZ (own_w hw 234 rfl) (own_w hw 7 rfl) (by decide) (by decide)) (g := (mkF m 161 #[.val (.long q1), .second, .val (.long q2), .second, .val (.long q3), .second, .val (.long q4), .second, .val (.int p5), .val (.long r_1), .second, .val (.int y2), .val (.long r_3), .second, .val (.long r_4), .second, .val (.long r_5), .second, .val (.ref b6), .val (.long r_11), .second, .unset, .unset, .unset] [(.long r_3), (.long r_1), (.long r_11)])) rfl (by rw [hml]; rfl) (argsL := [(.long r_11), (.long r_1), (.long r_3)]) (rest := []) (lenOf pd_24 rfl) rfl (by show 2 * 0 + _ ≤ _; exact Nat.le_of_eq rfl) (hb hby at_161) (fun _ _ => ⟨rfl, ec, hcc_, hsc_⟩)
    dsimp only [Pt.U, Pt.locs, Pt.cells, Pt.slots] at X48 l48 y48 z48 st48 hQ48
    subst l48 y48 z48
    obtain ⟨rfl, N48q, eh48⟩ := hQ48
    have N48 := Fr.app Nc N48q
    refine own_go st48 ?_
    refine own_go (A := T48.setTop (mkF m 167 #[.val (.long q1), .second, .val (.long q2), .second, .val (.long q3), .second, .val (.long q4), .second, .val (.int p5), .val (.long r_1), .second, .val (.int y2), .val (.long r_3), .second, .val (.long r_4), .second, .val (.long r_5), .second, .val (.ref b6), .val (.long r_11), .second, .unset, .unset, .unset] [])) (fun t_ k_ => ?_) ?_
    · show Steps p.tables e below (T48.setTop (mkF m 164 #[.val (.long q1), .second, .val (.long q2), .second, .val (.long q3), .second, .val (.long q4), .second, .val (.int p5), .val (.long r_1), .second, .val (.int y2), .val (.long r_3), .second, .val (.long r_4), .second, .val (.long r_5), .second, .val (.ref b6), .val (.long r_11), .second, .unset, .unset, .unset] [(.int (1 : Int32))])) t_
      refine XS.ifNo X48.here hx rfl (hb hby at_164) rfl ((if0 _ _).trans (feq (by decide : ¬ ((1 : Int32) = (0 : Int32)))).1) ?_
      exact k_
    exact own_c167 l Z a0 hw q1 q2 q3 q4 p5 cs sf dc kd r_1 y2 r_3 r_4 r_5 b6 r_11 h0 n0 Z0 X48 hx hZ hby hml hown hret hlk hh eh48 N48 Kc0 Oc hS hk hSA hEL Rc hcc_ hsc_ hcs hsf hbd0 hbd1 hbd2 hQG hCG
theorem pd_25 : parseMethodDescriptor "(Ljava/lang/String;JJJI)V" = some ⟨[(.object "java/lang/String"), .long, .long, .long, .int], none⟩ := by decide +kernel
theorem pd_26 : parseMethodDescriptor "(Ljava/lang/Object;)Z" = some ⟨[(.object "java/lang/Object")], some .boolean⟩ := by decide +kernel
abbrev own_y39 : MethodName := ⟨"java/util/List", "add", "(Ljava/lang/Object;)Z"⟩
theorem ef_rm0 (m : MethodId) (q1 : Int64) (q2 : Int64) (q3 : Int64) (q4 : Int64) (p5 : Int32) : entryFrame m #[(.long q1), (.long q2), (.long q3), (.long q4), (.int p5)] maxLocals = mkF m 0 #[.val (.long q1), .second, .val (.long q2), .second, .val (.long q3), .second, .val (.long q4), .second, .val (.int p5), .unset, .unset, .unset, .unset, .unset, .unset, .unset, .unset, .unset, .unset, .unset, .unset, .unset, .unset, .unset] [] := by first | (simp [entryFrame, mkF, argsToLocals, Value.category, maxLocals]; done) | rfl
set_option maxRecDepth 65536 in
set_option maxHeartbeats 40000000 in
theorem rm0 (l : Launch) (Z : State) (a0 : Array Value) (hw : ∀ d ∈ tables_1, d.before a0 Z = true) (ws : List Jvm.Cond) (q1 : Int64) (q2 : Int64) (q3 : Int64) (q4 : Int64) (p5 : Int32) (cs : Int32) (sf : Value) (dc : Addr) (kd : ClassId) (h0 : Heap) (n0 : Nat) (Z0 : n0 ≤ h0.size) (O0 : Old Z n0 h0) (u1 : Sta Z Z.heap "java/lang/String" "COMPACT_STRINGS" "Z" (.int cs)) (hcs : ¬ (cs = (0 : Int32))) (u3 : Sta Z Z.heap "jdk/internal/util/Preconditions" "SIOOBE_FORMATTER" "Ljava/util/function/BiFunction;" sf) (hsf : sf.isRef = true) (u5 : Sta Z Z.heap "java/util/ArrayList" "DEFAULTCAPACITY_EMPTY_ELEMENTDATA" "[Ljava/lang/Object;" (.ref dc)) (u6 : Arv Z Z.heap dc kd (.object "java/lang/Object") (0 : Int32) [] .null) :
    MetFree l x (head1 (Jvm.Cond.code x code maxLocals ret :: ws) room_1) (fun a_ U_ => a_ = #[(.long q1), (.long q2), (.long q3), (.long q4), (.int p5)] ∧ Z.Warmed39 U_.vm ∧ U_.heap = h0 ∧ CHv Z own_EL U_.vm h0) (fun _ _ _ _ _ => True) (fun _ U_ o_ U2_ => ∃ v_ L_, o_ = .returned v_ ∧ Q_rm0 Z q1 q2 q3 q4 p5 cs sf dc kd h0 n0 v_ U2_.heap L_ ∧ CHr Z own_EL U_.vm U_.heap U2_.vm U2_.heap ∧ ReturnedEndW U_ o_ U2_ L_ room_1.cells room_1.slots) := by
  refine MetFree.of_bodySF (plainFor_of_name pn_4) hisR ?_
  intro p e s m args below meth c s₁ Bd hml0 hP hK
  obtain ⟨rfl, hZ, hh, hC⟩ := hP
  have hx := Bd.exec
  have hby := Bd.bytes
  have hml : c.maxLocals = 24 := hml0
  have hown : s.vm.findClass "com/example/firmline/firmline/analysis/InterferenceNextReleasePinLaw" = some m.cls := findClass_of_methodNamed Bd.named
  have hnm := (name_of_methodNamed Bd.named Bd.method).1
  have X0 : Stand p l e room_1 (s.setVm s.vm) m #[(.long q1), (.long q2), (.long q3), (.long q4), (.int p5)] below meth c s₁ [] 0 0 := Stand.of_body Bd
  have e0 : s₁.heap = h0 := by rw [← hh, Bd.state]; rfl
  have N0 := Fr.nil n0
  have hS : s.Since s.vm h0.size := (State.WarmedH.refl s).since _
  have hk := Nat.le_refl h0.size
  have hSA := own_strA hw
  have hEL := own_EW hw
  have R0 : CHr Z own_EL s.vm h0 s.vm h0 := CHr.refl hC
  refine own_go (A := s₁.setTop (mkF m 0 #[.val (.long q1), .second, .val (.long q2), .second, .val (.long q3), .second, .val (.long q4), .second, .val (.int p5), .unset, .unset, .unset, .unset, .unset, .unset, .unset, .unset, .unset, .unset, .unset, .unset, .unset, .unset, .unset] [])) (fun t_ k_ => castTop (ef_rm0 m q1 q2 q3 q4 p5) k_) ?_
  refine own_go (A := s₁.setTop (mkF m 6 #[.val (.long q1), .second, .val (.long q2), .second, .val (.long q3), .second, .val (.long q4), .second, .val (.int p5), .unset, .unset, .unset, .unset, .unset, .unset, .unset, .unset, .unset, .unset, .unset, .unset, .unset, .unset, .unset] [(.long (q1 &&& (9223372036854775807 : Int64))), (.long (1 : Int64))])) (fun t_ k_ => ?_) ?_
  · show Steps p.tables e below (s₁.setTop (mkF m 0 #[.val (.long q1), .second, .val (.long q2), .second, .val (.long q3), .second, .val (.long q4), .second, .val (.int p5), .unset, .unset, .unset, .unset, .unset, .unset, .unset, .unset, .unset, .unset, .unset, .unset, .unset, .unset, .unset] [])) t_
    refine XS.lconst X0.here hx rfl (hb hby at_0) ?_
    show Steps p.tables e below (s₁.setTop (mkF m 1 #[.val (.long q1), .second, .val (.long q2), .second, .val (.long q3), .second, .val (.long q4), .second, .val (.int p5), .unset, .unset, .unset, .unset, .unset, .unset, .unset, .unset, .unset, .unset, .unset, .unset, .unset, .unset, .unset] [(.long (1 : Int64))])) t_
    refine XS.lloadN X0.here hx rfl (hb hby at_1) rfl ?_
    show Steps p.tables e below (s₁.setTop (mkF m 2 #[.val (.long q1), .second, .val (.long q2), .second, .val (.long q3), .second, .val (.long q4), .second, .val (.int p5), .unset, .unset, .unset, .unset, .unset, .unset, .unset, .unset, .unset, .unset, .unset, .unset, .unset, .unset, .unset] [(.long q1), (.long (1 : Int64))])) t_
    refine Jvm.Stand.ldc2J X0 hx hown (mvT hZ (own_w hw 0 rfl)) (g := (mkF m 2 #[.val (.long q1), .second, .val (.long q2), .second, .val (.long q3), .second, .val (.long q4), .second, .val (.int p5), .unset, .unset, .unset, .unset, .unset, .unset, .unset, .unset, .unset, .unset, .unset, .unset, .unset, .unset, .unset] [(.long q1), (.long (1 : Int64))])) rfl (hb hby at_2) ?_
    show Steps p.tables e below (s₁.setTop (mkF m 5 #[.val (.long q1), .second, .val (.long q2), .second, .val (.long q3), .second, .val (.long q4), .second, .val (.int p5), .unset, .unset, .unset, .unset, .unset, .unset, .unset, .unset, .unset, .unset, .unset, .unset, .unset, .unset, .unset] [(.long (9223372036854775807 : Int64)), (.long q1), (.long (1 : Int64))])) t_
    refine XS.land X0.here hx rfl (hb hby at_5) rfl ?_
    exact k_
  obtain ⟨_, _, ⟨T1, L1, k1, n1⟩, -, X1, ⟨Lc1, hQ1, l1, y1, z1⟩, st1⟩ := Jvm.LawKit.callS X0 hx (y := own_y10) hown (mvT hZ (own_w hw 1 rfl)) (mvT hZ (own_w hw 2 rfl)) (mvT hZ (own_w hw 3 rfl)) (mvT hZ (own_w hw 4 rfl)) (by decide) (backOf (W := 0) (rmMaxJ l Z a0 hw [] (q1 &&& (9223372036854775807 : Int64)) h0 n0 Z0) hZ (own_w hw 4 rfl) (own_w hw 3 rfl) (by decide) (by decide)) (g := (mkF m 6 #[.val (.long q1), .second, .val (.long q2), .second, .val (.long q3), .second, .val (.long q4), .second, .val (.int p5), .unset, .unset, .unset, .unset, .unset, .unset, .unset, .unset, .unset, .unset, .unset, .unset, .unset, .unset, .unset] [(.long (q1 &&& (9223372036854775807 : Int64))), (.long (1 : Int64))])) rfl (by rw [hml]; rfl) (argsL := [(.long (1 : Int64)), (.long (q1 &&& (9223372036854775807 : Int64)))]) (rest := []) (lenOf pd_17 rfl) rfl (by show 2 * 0 + _ ≤ _; exact Nat.le_of_eq rfl) (hb hby at_6) (fun _ _ => ⟨rfl, e0, (by decide : 0 + 0 ≤ _), (by decide : 0 + 0 ≤ _)⟩)
  dsimp only [Pt.U, Pt.locs, Pt.cells, Pt.slots] at X1 l1 y1 z1 st1 hQ1
  subst l1 y1 z1
  obtain ⟨r_1, rfl, N1q, eh1, w1_0⟩ := hQ1
  have N1 := Fr.app N0 N1q
  refine own_go st1 ?_
  refine own_go (A := T1.setTop (mkF m 15 #[.val (.long q1), .second, .val (.long q2), .second, .val (.long q3), .second, .val (.long q4), .second, .val (.int p5), .val (.long r_1), .second, .unset, .unset, .unset, .unset, .unset, .unset, .unset, .unset, .unset, .unset, .unset, .unset, .unset] [(.int (p5 &&& (3 : Int32)))])) (fun t_ k_ => ?_) ?_
  · show Steps p.tables e below (T1.setTop (mkF m 9 #[.val (.long q1), .second, .val (.long q2), .second, .val (.long q3), .second, .val (.long q4), .second, .val (.int p5), .unset, .unset, .unset, .unset, .unset, .unset, .unset, .unset, .unset, .unset, .unset, .unset, .unset, .unset, .unset] [(.long r_1)])) t_
    refine XS.lstore X1.here hx rfl (hb hby at_9) rfl (l' := #[.val (.long q1), .second, .val (.long q2), .second, .val (.long q3), .second, .val (.long q4), .second, .val (.int p5), .val (.long r_1), .second, .unset, .unset, .unset, .unset, .unset, .unset, .unset, .unset, .unset, .unset, .unset, .unset, .unset]) rfl ?_
    show Steps p.tables e below (T1.setTop (mkF m 11 #[.val (.long q1), .second, .val (.long q2), .second, .val (.long q3), .second, .val (.long q4), .second, .val (.int p5), .val (.long r_1), .second, .unset, .unset, .unset, .unset, .unset, .unset, .unset, .unset, .unset, .unset, .unset, .unset, .unset] [])) t_
    refine XS.iload X1.here hx rfl (hb hby at_11) rfl ?_
    show Steps p.tables e below (T1.setTop (mkF m 13 #[.val (.long q1), .second, .val (.long q2), .second, .val (.long q3), .second, .val (.long q4), .second, .val (.int p5), .val (.long r_1), .second, .unset, .unset, .unset, .unset, .unset, .unset, .unset, .unset, .unset, .unset, .unset, .unset, .unset] [(.int p5)])) t_
    refine XS.iconst X1.here hx rfl (hb hby at_13) ?_
    show Steps p.tables e below (T1.setTop (mkF m 14 #[.val (.long q1), .second, .val (.long q2), .second, .val (.long q3), .second, .val (.long q4), .second, .val (.int p5), .val (.long r_1), .second, .unset, .unset, .unset, .unset, .unset, .unset, .unset, .unset, .unset, .unset, .unset, .unset, .unset] [(.int (3 : Int32)), (.int p5)])) t_
    refine XS.iand X1.here hx rfl (hb hby at_14) rfl ?_
    exact k_
  obtain ⟨y2, hqy2⟩ : ∃ z : Int32, z = (p5 &&& (3 : Int32)) := ⟨_, rfl⟩
  rw [← hqy2]
  refine own_go (A := T1.setTop (mkF m 18 #[.val (.long q1), .second, .val (.long q2), .second, .val (.long q3), .second, .val (.long q4), .second, .val (.int p5), .val (.long r_1), .second, .val (.int y2), .unset, .unset, .unset, .unset, .unset, .unset, .unset, .unset, .unset, .unset, .unset, .unset] [(.long q2)])) (fun t_ k_ => ?_) ?_
  · show Steps p.tables e below (T1.setTop (mkF m 15 #[.val (.long q1), .second, .val (.long q2), .second, .val (.long q3), .second, .val (.long q4), .second, .val (.int p5), .val (.long r_1), .second, .unset, .unset, .unset, .unset, .unset, .unset, .unset, .unset, .unset, .unset, .unset, .unset, .unset] [(.int y2)])) t_
    refine XS.istore X1.here hx rfl (hb hby at_15) rfl (l' := #[.val (.long q1), .second, .val (.long q2), .second, .val (.long q3), .second, .val (.long q4), .second, .val (.int p5), .val (.long r_1), .second, .val (.int y2), .unset, .unset, .unset, .unset, .unset, .unset, .unset, .unset, .unset, .unset, .unset, .unset]) rfl ?_
    show Steps p.tables e below (T1.setTop (mkF m 17 #[.val (.long q1), .second, .val (.long q2), .second, .val (.long q3), .second, .val (.long q4), .second, .val (.int p5), .val (.long r_1), .second, .val (.int y2), .unset, .unset, .unset, .unset, .unset, .unset, .unset, .unset, .unset, .unset, .unset, .unset] [])) t_
    refine XS.lloadN X1.here hx rfl (hb hby at_17) rfl ?_
    exact k_
  obtain ⟨_, _, ⟨T3, L3, k3, n3⟩, -, X3, ⟨Lc3, hQ3, l3, y3, z3⟩, st3⟩ := Jvm.LawKit.callS X1 hx (y := own_y9) hown (mvT hZ (own_w hw 5 rfl)) (mvT hZ (own_w hw 6 rfl)) (mvT hZ (own_w hw 7 rfl)) (mvT hZ (own_w hw 8 rfl)) (by decide) (backOf (W := 0) (rmTime l Z a0 hw [] q2 h0 n0 Z0) hZ (own_w hw 8 rfl) (own_w hw 7 rfl) (by decide) (by decide)) (g := (mkF m 18 #[.val (.long q1), .second, .val (.long q2), .second, .val (.long q3), .second, .val (.long q4), .second, .val (.int p5), .val (.long r_1), .second, .val (.int y2), .unset, .unset, .unset, .unset, .unset, .unset, .unset, .unset, .unset, .unset, .unset, .unset] [(.long q2)])) rfl (by rw [hml]; rfl) (argsL := [(.long q2)]) (rest := []) (lenOf pd_21 rfl) rfl (by show 2 * 0 + _ ≤ _; exact Nat.le_of_eq rfl) (hb hby at_18) (fun _ _ => ⟨rfl, eh1, (by decide : 0 + 0 ≤ _), (by decide : 0 + 0 ≤ _)⟩)
  dsimp only [Pt.U, Pt.locs, Pt.cells, Pt.slots] at X3 l3 y3 z3 st3 hQ3
  subst l3 y3 z3
  obtain ⟨r_3, rfl, N3q, eh3, w3_0⟩ := hQ3
  have N3 := Fr.app N1 N3q
  refine own_go st3 ?_
  refine own_go (A := T3.setTop (mkF m 25 #[.val (.long q1), .second, .val (.long q2), .second, .val (.long q3), .second, .val (.long q4), .second, .val (.int p5), .val (.long r_1), .second, .val (.int y2), .val (.long r_3), .second, .unset, .unset, .unset, .unset, .unset, .unset, .unset, .unset, .unset, .unset] [(.long q3)])) (fun t_ k_ => ?_) ?_
  · show Steps p.tables e below (T3.setTop (mkF m 21 #[.val (.long q1), .second, .val (.long q2), .second, .val (.long q3), .second, .val (.long q4), .second, .val (.int p5), .val (.long r_1), .second, .val (.int y2), .unset, .unset, .unset, .unset, .unset, .unset, .unset, .unset, .unset, .unset, .unset, .unset] [(.long r_3)])) t_
    refine XS.lstore X3.here hx rfl (hb hby at_21) rfl (l' := #[.val (.long q1), .second, .val (.long q2), .second, .val (.long q3), .second, .val (.long q4), .second, .val (.int p5), .val (.long r_1), .second, .val (.int y2), .val (.long r_3), .second, .unset, .unset, .unset, .unset, .unset, .unset, .unset, .unset, .unset, .unset]) rfl ?_
    show Steps p.tables e below (T3.setTop (mkF m 23 #[.val (.long q1), .second, .val (.long q2), .second, .val (.long q3), .second, .val (.long q4), .second, .val (.int p5), .val (.long r_1), .second, .val (.int y2), .val (.long r_3), .second, .unset, .unset, .unset, .unset, .unset, .unset, .unset, .unset, .unset, .unset] [])) t_
    refine XS.lload X3.here hx rfl (hb hby at_23) rfl ?_
    exact k_
  obtain ⟨_, _, ⟨T4, L4, k4, n4⟩, -, X4, ⟨Lc4, hQ4, l4, y4, z4⟩, st4⟩ := Jvm.LawKit.callS X3 hx (y := own_y9) hown (mvT hZ (own_w hw 5 rfl)) (mvT hZ (own_w hw 6 rfl)) (mvT hZ (own_w hw 7 rfl)) (mvT hZ (own_w hw 8 rfl)) (by decide) (backOf (W := 0) (rmTime l Z a0 hw [] q3 h0 n0 Z0) hZ (own_w hw 8 rfl) (own_w hw 7 rfl) (by decide) (by decide)) (g := (mkF m 25 #[.val (.long q1), .second, .val (.long q2), .second, .val (.long q3), .second, .val (.long q4), .second, .val (.int p5), .val (.long r_1), .second, .val (.int y2), .val (.long r_3), .second, .unset, .unset, .unset, .unset, .unset, .unset, .unset, .unset, .unset, .unset] [(.long q3)])) rfl (by rw [hml]; rfl) (argsL := [(.long q3)]) (rest := []) (lenOf pd_21 rfl) rfl (by show 2 * 0 + _ ≤ _; exact Nat.le_of_eq rfl) (hb hby at_25) (fun _ _ => ⟨rfl, eh3, (by decide : 0 + 0 ≤ _), (by decide : 0 + 0 ≤ _)⟩)
  dsimp only [Pt.U, Pt.locs, Pt.cells, Pt.slots] at X4 l4 y4 z4 st4 hQ4
  subst l4 y4 z4
  obtain ⟨r_4, rfl, N4q, eh4, w4_0⟩ := hQ4
  have N4 := Fr.app N3 N4q
  refine own_go st4 ?_
  refine own_go (A := T4.setTop (mkF m 32 #[.val (.long q1), .second, .val (.long q2), .second, .val (.long q3), .second, .val (.long q4), .second, .val (.int p5), .val (.long r_1), .second, .val (.int y2), .val (.long r_3), .second, .val (.long r_4), .second, .unset, .unset, .unset, .unset, .unset, .unset, .unset, .unset] [(.long q4)])) (fun t_ k_ => ?_) ?_
  · show Steps p.tables e below (T4.setTop (mkF m 28 #[.val (.long q1), .second, .val (.long q2), .second, .val (.long q3), .second, .val (.long q4), .second, .val (.int p5), .val (.long r_1), .second, .val (.int y2), .val (.long r_3), .second, .unset, .unset, .unset, .unset, .unset, .unset, .unset, .unset, .unset, .unset] [(.long r_4)])) t_
    refine XS.lstore X4.here hx rfl (hb hby at_28) rfl (l' := #[.val (.long q1), .second, .val (.long q2), .second, .val (.long q3), .second, .val (.long q4), .second, .val (.int p5), .val (.long r_1), .second, .val (.int y2), .val (.long r_3), .second, .val (.long r_4), .second, .unset, .unset, .unset, .unset, .unset, .unset, .unset, .unset]) rfl ?_
    show Steps p.tables e below (T4.setTop (mkF m 30 #[.val (.long q1), .second, .val (.long q2), .second, .val (.long q3), .second, .val (.long q4), .second, .val (.int p5), .val (.long r_1), .second, .val (.int y2), .val (.long r_3), .second, .val (.long r_4), .second, .unset, .unset, .unset, .unset, .unset, .unset, .unset, .unset] [])) t_
    refine XS.lload X4.here hx rfl (hb hby at_30) rfl ?_
    exact k_
  obtain ⟨_, _, ⟨T5, L5, k5, n5⟩, -, X5, ⟨Lc5, hQ5, l5, y5, z5⟩, st5⟩ := Jvm.LawKit.callS X4 hx (y := own_y9) hown (mvT hZ (own_w hw 5 rfl)) (mvT hZ (own_w hw 6 rfl)) (mvT hZ (own_w hw 7 rfl)) (mvT hZ (own_w hw 8 rfl)) (by decide) (backOf (W := 0) (rmTime l Z a0 hw [] q4 h0 n0 Z0) hZ (own_w hw 8 rfl) (own_w hw 7 rfl) (by decide) (by decide)) (g := (mkF m 32 #[.val (.long q1), .second, .val (.long q2), .second, .val (.long q3), .second, .val (.long q4), .second, .val (.int p5), .val (.long r_1), .second, .val (.int y2), .val (.long r_3), .second, .val (.long r_4), .second, .unset, .unset, .unset, .unset, .unset, .unset, .unset, .unset] [(.long q4)])) rfl (by rw [hml]; rfl) (argsL := [(.long q4)]) (rest := []) (lenOf pd_21 rfl) rfl (by show 2 * 0 + _ ≤ _; exact Nat.le_of_eq rfl) (hb hby at_32) (fun _ _ => ⟨rfl, eh4, (by decide : 0 + 0 ≤ _), (by decide : 0 + 0 ≤ _)⟩)
  dsimp only [Pt.U, Pt.locs, Pt.cells, Pt.slots] at X5 l5 y5 z5 st5 hQ5
  subst l5 y5 z5
  obtain ⟨r_5, rfl, N5q, eh5, w5_0⟩ := hQ5
  have N5 := Fr.app N4 N5q
  refine own_go st5 ?_
  refine own_go (A := T5.setTop (mkF m 37 #[.val (.long q1), .second, .val (.long q2), .second, .val (.long q3), .second, .val (.long q4), .second, .val (.int p5), .val (.long r_1), .second, .val (.int y2), .val (.long r_3), .second, .val (.long r_4), .second, .val (.long r_5), .second, .unset, .unset, .unset, .unset, .unset, .unset] [])) (fun t_ k_ => ?_) ?_
  · show Steps p.tables e below (T5.setTop (mkF m 35 #[.val (.long q1), .second, .val (.long q2), .second, .val (.long q3), .second, .val (.long q4), .second, .val (.int p5), .val (.long r_1), .second, .val (.int y2), .val (.long r_3), .second, .val (.long r_4), .second, .unset, .unset, .unset, .unset, .unset, .unset, .unset, .unset] [(.long r_5)])) t_
    refine XS.lstore X5.here hx rfl (hb hby at_35) rfl (l' := #[.val (.long q1), .second, .val (.long q2), .second, .val (.long q3), .second, .val (.long q4), .second, .val (.int p5), .val (.long r_1), .second, .val (.int y2), .val (.long r_3), .second, .val (.long r_4), .second, .val (.long r_5), .second, .unset, .unset, .unset, .unset, .unset, .unset]) rfl ?_
    exact k_
  obtain ⟨T6, h6, X6, e6, E6, A6, D6, -, st6⟩ := newO X5 hx hZ hown (own_w hw 10 rfl) (own_w hw 11 rfl) (own_w hw 12 rfl) eh5 (g := (mkF m 37 #[.val (.long q1), .second, .val (.long q2), .second, .val (.long q3), .second, .val (.long q4), .second, .val (.int p5), .val (.long r_1), .second, .val (.int y2), .val (.long r_3), .second, .val (.long r_4), .second, .val (.long r_5), .second, .unset, .unset, .unset, .unset, .unset, .unset] [])) rfl (hb hby at_37) (by decide) (by decide)
  obtain ⟨b6, g6⟩ : ∃ z, z = h0.size := ⟨_, rfl⟩
  rw [← g6] at A6 D6 st6
  refine own_go st6 ?_
  have K6 : Keep h0 h6 [] := (Keep.refl h0 []).ext E6
  have r6 := CHr.ext E6 R0.1
  have R6 := R0.trans r6
  have hk := Nat.le_trans hk E6.1
  have O6 := O0.ext E6
  have Q6 := Safe.ext E6 R0.1 (Safe.new (Nat.le_of_eq g6.symm))
  have F6_modCount : Fld Z h6 b6 "java/util/AbstractList" "modCount" "I" (.int (0 : Int32)) := D6 (Or.inl (own_w hw 32 rfl)) (ty := .int) (by decide)
  have F6_elementData : Fld Z h6 b6 "java/util/ArrayList" "elementData" "[Ljava/lang/Object;" .null := D6 (Or.inl (own_w hw 35 rfl)) (ty := (.array (.object "java/lang/Object"))) (by decide)
  have F6_size : Fld Z h6 b6 "java/util/ArrayList" "size" "I" (.int (0 : Int32)) := D6 (Or.inl (own_w hw 138 rfl)) (ty := .int) (by decide)
  refine own_go (A := T6.setTop (mkF m 41 #[.val (.long q1), .second, .val (.long q2), .second, .val (.long q3), .second, .val (.long q4), .second, .val (.int p5), .val (.long r_1), .second, .val (.int y2), .val (.long r_3), .second, .val (.long r_4), .second, .val (.long r_5), .second, .unset, .unset, .unset, .unset, .unset, .unset] [(.ref b6), (.ref b6)])) (fun t_ k_ => ?_) ?_
  · show Steps p.tables e below (T6.setTop (mkF m 40 #[.val (.long q1), .second, .val (.long q2), .second, .val (.long q3), .second, .val (.long q4), .second, .val (.int p5), .val (.long r_1), .second, .val (.int y2), .val (.long r_3), .second, .val (.long r_4), .second, .val (.long r_5), .second, .unset, .unset, .unset, .unset, .unset, .unset] [(.ref b6)])) t_
    refine XS.dup X6.here hx rfl (hb hby at_40) rfl rfl ?_
    exact k_
  obtain ⟨_, _, ⟨T7, L7, k7, n7⟩, -, X7, ⟨Lc7, hQ7, l7, y7, z7⟩, st7⟩ := X6.specialBack hx (y := own_y19) rfl hown (mvT hZ (own_w hw 13 rfl)) (mvT hZ (own_w hw 14 rfl)) (mvT hZ (own_w hw 15 rfl)) (by decide) (backOf (W := 1) (rmALI l Z a0 hw [] b6 dc h6 n0 (Nat.le_trans Z0 K6.1) O6 u5 A6 F6_elementData F6_size F6_modCount (Nat.le_trans Z0 (Nat.le_of_eq g6.symm))) hZ (own_w hw 15 rfl) (own_w hw 12 rfl) (by decide) (by decide)) (g := (mkF m 41 #[.val (.long q1), .second, .val (.long q2), .second, .val (.long q3), .second, .val (.long q4), .second, .val (.int p5), .val (.long r_1), .second, .val (.int y2), .val (.long r_3), .second, .val (.long r_4), .second, .val (.long r_5), .second, .unset, .unset, .unset, .unset, .unset, .unset] [(.ref b6), (.ref b6)])) rfl (by rw [hml]; rfl) (Steps.refl _) (a := b6) (argsL := []) (rest := [(.ref b6)]) (lenOf pd_7 rfl) rfl (by show 2 * 0 + _ ≤ _; exact Nat.le_of_eq rfl) (hb hby at_41) (fun _ _ => ⟨rfl, e6, (by decide : 1 + 0 ≤ _), (by decide : 3 + 0 ≤ _)⟩)
  dsimp only [Pt.U, Pt.locs, Pt.cells, Pt.slots] at X7 l7 y7 z7 st7 hQ7
  subst l7 y7 z7
  obtain ⟨rfl, N7q, Kc7, r7_0, r7_1, r7_2⟩ := hQ7
  have N7 := Fr.app N5 N7q
  refine own_via st7 ?_
  have K7 : Keep h0 T7.heap [] := K6.trans Kc7 (allS (P := fun x => x ∈ _ ∨ _ ≤ x) (Or.inr (Nat.le_of_eq g6.symm)) all0)
  have r7 := CHr.keep Kc7 (allS (P := fun x => Safe Z own_EL _ _ x) Q6 all0) R6.1
  have R7 := R6.trans r7
  have hk := Nat.le_trans hk Kc7.1
  have O7 := O6.keep Kc7 (allS (P := fun x => n0 ≤ x) (Nat.le_trans Z0 (Nat.le_of_eq g6.symm)) all0)
  refine own_go (A := T7.setTop (mkF m 49 #[.val (.long q1), .second, .val (.long q2), .second, .val (.long q3), .second, .val (.long q4), .second, .val (.int p5), .val (.long r_1), .second, .val (.int y2), .val (.long r_3), .second, .val (.long r_4), .second, .val (.long r_5), .second, .val (.ref b6), .unset, .unset, .unset, .unset, .unset] [(.int (1 : Int32)), (.int y2)])) (fun t_ k_ => ?_) ?_
  · show Steps p.tables e below (T7.setTop (mkF m 44 #[.val (.long q1), .second, .val (.long q2), .second, .val (.long q3), .second, .val (.long q4), .second, .val (.int p5), .val (.long r_1), .second, .val (.int y2), .val (.long r_3), .second, .val (.long r_4), .second, .val (.long r_5), .second, .unset, .unset, .unset, .unset, .unset, .unset] [(.ref b6)])) t_
    refine XS.astore X7.here hx rfl (hb hby at_44) rfl rfl (l' := #[.val (.long q1), .second, .val (.long q2), .second, .val (.long q3), .second, .val (.long q4), .second, .val (.int p5), .val (.long r_1), .second, .val (.int y2), .val (.long r_3), .second, .val (.long r_4), .second, .val (.long r_5), .second, .val (.ref b6), .unset, .unset, .unset, .unset, .unset]) rfl ?_
    show Steps p.tables e below (T7.setTop (mkF m 46 #[.val (.long q1), .second, .val (.long q2), .second, .val (.long q3), .second, .val (.long q4), .second, .val (.int p5), .val (.long r_1), .second, .val (.int y2), .val (.long r_3), .second, .val (.long r_4), .second, .val (.long r_5), .second, .val (.ref b6), .unset, .unset, .unset, .unset, .unset] [])) t_
    refine XS.iload X7.here hx rfl (hb hby at_46) rfl ?_
    show Steps p.tables e below (T7.setTop (mkF m 48 #[.val (.long q1), .second, .val (.long q2), .second, .val (.long q3), .second, .val (.long q4), .second, .val (.int p5), .val (.long r_1), .second, .val (.int y2), .val (.long r_3), .second, .val (.long r_4), .second, .val (.long r_5), .second, .val (.ref b6), .unset, .unset, .unset, .unset, .unset] [(.int y2)])) t_
    refine XS.iconst X7.here hx rfl (hb hby at_48) ?_
    exact k_
  by_cases hc49_8 : y2 < (1 : Int32)
  · refine own_go (A := T7.setTop (mkF m 77 #[.val (.long q1), .second, .val (.long q2), .second, .val (.long q3), .second, .val (.long q4), .second, .val (.int p5), .val (.long r_1), .second, .val (.int y2), .val (.long r_3), .second, .val (.long r_4), .second, .val (.long r_5), .second, .val (.ref b6), .unset, .unset, .unset, .unset, .unset] [(.int (2 : Int32)), (.int y2)])) (fun t_ k_ => ?_) ?_
    · show Steps p.tables e below (T7.setTop (mkF m 49 #[.val (.long q1), .second, .val (.long q2), .second, .val (.long q3), .second, .val (.long q4), .second, .val (.int p5), .val (.long r_1), .second, .val (.int y2), .val (.long r_3), .second, .val (.long r_4), .second, .val (.long r_5), .second, .val (.ref b6), .unset, .unset, .unset, .unset, .unset] [(.int (1 : Int32)), (.int y2)])) t_
      refine XS.icmpYes X7.here hx rfl (pc0 := 49) (pc' := 74) rfl (hb hby at_49) rfl (tlt hc49_8).1 (by decide) (by decide) ?_
      show Steps p.tables e below (T7.setTop (mkF m 74 #[.val (.long q1), .second, .val (.long q2), .second, .val (.long q3), .second, .val (.long q4), .second, .val (.int p5), .val (.long r_1), .second, .val (.int y2), .val (.long r_3), .second, .val (.long r_4), .second, .val (.long r_5), .second, .val (.ref b6), .unset, .unset, .unset, .unset, .unset] [])) t_
      refine XS.iload X7.here hx rfl (hb hby at_74) rfl ?_
      show Steps p.tables e below (T7.setTop (mkF m 76 #[.val (.long q1), .second, .val (.long q2), .second, .val (.long q3), .second, .val (.long q4), .second, .val (.int p5), .val (.long r_1), .second, .val (.int y2), .val (.long r_3), .second, .val (.long r_4), .second, .val (.long r_5), .second, .val (.ref b6), .unset, .unset, .unset, .unset, .unset] [(.int y2)])) t_
      refine XS.iconst X7.here hx rfl (hb hby at_76) ?_
      exact k_
    have hc77_9 : y2 < (2 : Int32) := own_up hc49_8 (by decide)
    refine own_go (A := T7.setTop (mkF m 105 #[.val (.long q1), .second, .val (.long q2), .second, .val (.long q3), .second, .val (.long q4), .second, .val (.int p5), .val (.long r_1), .second, .val (.int y2), .val (.long r_3), .second, .val (.long r_4), .second, .val (.long r_5), .second, .val (.ref b6), .unset, .unset, .unset, .unset, .unset] [(.int (3 : Int32)), (.int y2)])) (fun t_ k_ => ?_) ?_
    · show Steps p.tables e below (T7.setTop (mkF m 77 #[.val (.long q1), .second, .val (.long q2), .second, .val (.long q3), .second, .val (.long q4), .second, .val (.int p5), .val (.long r_1), .second, .val (.int y2), .val (.long r_3), .second, .val (.long r_4), .second, .val (.long r_5), .second, .val (.ref b6), .unset, .unset, .unset, .unset, .unset] [(.int (2 : Int32)), (.int y2)])) t_
      refine XS.icmpYes X7.here hx rfl (pc0 := 77) (pc' := 102) rfl (hb hby at_77) rfl (tlt hc77_9).1 (by decide) (by decide) ?_
      show Steps p.tables e below (T7.setTop (mkF m 102 #[.val (.long q1), .second, .val (.long q2), .second, .val (.long q3), .second, .val (.long q4), .second, .val (.int p5), .val (.long r_1), .second, .val (.int y2), .val (.long r_3), .second, .val (.long r_4), .second, .val (.long r_5), .second, .val (.ref b6), .unset, .unset, .unset, .unset, .unset] [])) t_
      refine XS.iload X7.here hx rfl (hb hby at_102) rfl ?_
      show Steps p.tables e below (T7.setTop (mkF m 104 #[.val (.long q1), .second, .val (.long q2), .second, .val (.long q3), .second, .val (.long q4), .second, .val (.int p5), .val (.long r_1), .second, .val (.int y2), .val (.long r_3), .second, .val (.long r_4), .second, .val (.long r_5), .second, .val (.ref b6), .unset, .unset, .unset, .unset, .unset] [(.int y2)])) t_
      refine XS.iconst X7.here hx rfl (hb hby at_104) ?_
      exact k_
    have hc105_10 : y2 < (3 : Int32) := own_up hc49_8 (by decide)
    refine own_go (A := T7.setTop (mkF m 134 #[.val (.long q1), .second, .val (.long q2), .second, .val (.long q3), .second, .val (.long q4), .second, .val (.int p5), .val (.long r_1), .second, .val (.int y2), .val (.long r_3), .second, .val (.long r_4), .second, .val (.long r_5), .second, .val (.ref b6), .unset, .unset, .unset, .unset, .unset] [(.long r_1), (.ref b6)])) (fun t_ k_ => ?_) ?_
    · show Steps p.tables e below (T7.setTop (mkF m 105 #[.val (.long q1), .second, .val (.long q2), .second, .val (.long q3), .second, .val (.long q4), .second, .val (.int p5), .val (.long r_1), .second, .val (.int y2), .val (.long r_3), .second, .val (.long r_4), .second, .val (.long r_5), .second, .val (.ref b6), .unset, .unset, .unset, .unset, .unset] [(.int (3 : Int32)), (.int y2)])) t_
      refine XS.icmpYes X7.here hx rfl (pc0 := 105) (pc' := 130) rfl (hb hby at_105) rfl (tlt hc105_10).1 (by decide) (by decide) ?_
      show Steps p.tables e below (T7.setTop (mkF m 130 #[.val (.long q1), .second, .val (.long q2), .second, .val (.long q3), .second, .val (.long q4), .second, .val (.int p5), .val (.long r_1), .second, .val (.int y2), .val (.long r_3), .second, .val (.long r_4), .second, .val (.long r_5), .second, .val (.ref b6), .unset, .unset, .unset, .unset, .unset] [])) t_
      refine XS.aload X7.here hx rfl (hb hby at_130) rfl rfl ?_
      show Steps p.tables e below (T7.setTop (mkF m 132 #[.val (.long q1), .second, .val (.long q2), .second, .val (.long q3), .second, .val (.long q4), .second, .val (.int p5), .val (.long r_1), .second, .val (.int y2), .val (.long r_3), .second, .val (.long r_4), .second, .val (.long r_5), .second, .val (.ref b6), .unset, .unset, .unset, .unset, .unset] [(.ref b6)])) t_
      refine XS.lload X7.here hx rfl (hb hby at_132) rfl ?_
      exact k_
    obtain ⟨_, _, ⟨T11, L11, k11, n11⟩, -, X11, ⟨Lc11, hQ11, l11, y11, z11⟩, st11⟩ := Jvm.LawKit.callS X7 hx (y := own_y35) hown (mvT hZ (own_w hw 162 rfl)) (mvT hZ (own_w hw 163 rfl)) (mvT hZ (own_w hw 164 rfl)) (mvT hZ (own_w hw 165 rfl)) (by decide) (backOf (W := 0) (rmNL0 l Z a0 hw [] b6 r_1 (0 : Int32) T7.heap n0 (Nat.le_trans Z0 K7.1) w1_0 (A6.keep Kc7) r7_2 r7_1) hZ (own_w hw 165 rfl) (own_w hw 164 rfl) (by decide) (by decide)) (g := (mkF m 134 #[.val (.long q1), .second, .val (.long q2), .second, .val (.long q3), .second, .val (.long q4), .second, .val (.int p5), .val (.long r_1), .second, .val (.int y2), .val (.long r_3), .second, .val (.long r_4), .second, .val (.long r_5), .second, .val (.ref b6), .unset, .unset, .unset, .unset, .unset] [(.long r_1), (.ref b6)])) rfl (by rw [hml]; rfl) (argsL := [(.ref b6), (.long r_1)]) (rest := []) (lenOf pd_22 rfl) rfl (by show 2 * 0 + _ ≤ _; exact Nat.le_of_eq rfl) (hb hby at_134) (fun _ _ => ⟨rfl, rfl, (by decide : 1 + 1 ≤ _), (by decide : 3 + 4 ≤ _)⟩)
    dsimp only [Pt.U, Pt.locs, Pt.cells, Pt.slots] at X11 l11 y11 z11 st11 hQ11
    subst l11 y11 z11
    obtain ⟨r_11, rfl, N11q, Kc11, w11_0, w11_1⟩ := hQ11
    have N11 := Fr.app N7 N11q
    refine own_go st11 ?_
    have K11 : Keep h0 T11.heap [] := K7.trans Kc11 all0
    have r11 := CHr.keep Kc11 all0 R7.1
    have R11 := R7.trans r11
    have hk := Nat.le_trans hk Kc11.1
    have O11 := O7.keep Kc11 all0
    have hQG11 : own_QG y2 r_1 r_11 r_3 r_4 r_5 := own_qg0 w1_0 w11_0 hc49_8
    have hCG11 : own_CG y2 r_1 r_11 r_3 r_4 r_5 := own_cg0 w1_0 w11_0 hc49_8
    exact own_c137 l Z a0 hw q1 q2 q3 q4 p5 cs sf dc kd r_1 y2 r_3 r_4 r_5 b6 r_11 h0 n0 Z0 X11 hx hZ hby hml hown Bd.returns (BodyLoose.notSynchronized Bd) hh rfl N11 K11 O11 hS hk hSA hEL R11 (by decide) (by decide) hcs hsf w3_0 w4_0 w5_0 hQG11 hCG11
  · refine own_go (A := T7.setTop (mkF m 54 #[.val (.long q1), .second, .val (.long q2), .second, .val (.long q3), .second, .val (.long q4), .second, .val (.int p5), .val (.long r_1), .second, .val (.int y2), .val (.long r_3), .second, .val (.long r_4), .second, .val (.long r_5), .second, .val (.ref b6), .unset, .unset, .unset, .unset, .unset] [(.ref b6)])) (fun t_ k_ => ?_) ?_
    · show Steps p.tables e below (T7.setTop (mkF m 49 #[.val (.long q1), .second, .val (.long q2), .second, .val (.long q3), .second, .val (.long q4), .second, .val (.int p5), .val (.long r_1), .second, .val (.int y2), .val (.long r_3), .second, .val (.long r_4), .second, .val (.long r_5), .second, .val (.ref b6), .unset, .unset, .unset, .unset, .unset] [(.int (1 : Int32)), (.int y2)])) t_
      refine XS.icmpNo X7.here hx rfl (hb hby at_49) rfl (flt hc49_8).1 ?_
      show Steps p.tables e below (T7.setTop (mkF m 52 #[.val (.long q1), .second, .val (.long q2), .second, .val (.long q3), .second, .val (.long q4), .second, .val (.int p5), .val (.long r_1), .second, .val (.int y2), .val (.long r_3), .second, .val (.long r_4), .second, .val (.long r_5), .second, .val (.ref b6), .unset, .unset, .unset, .unset, .unset] [])) t_
      refine XS.aload X7.here hx rfl (hb hby at_52) rfl rfl ?_
      exact k_
    obtain ⟨T49, h49, X49, e49, E49, A49, D49, -, st49⟩ := newO X7 hx hZ hown (own_w hw 36 rfl) (own_w hw 37 rfl) (own_w hw 38 rfl) rfl (g := (mkF m 54 #[.val (.long q1), .second, .val (.long q2), .second, .val (.long q3), .second, .val (.long q4), .second, .val (.int p5), .val (.long r_1), .second, .val (.int y2), .val (.long r_3), .second, .val (.long r_4), .second, .val (.long r_5), .second, .val (.ref b6), .unset, .unset, .unset, .unset, .unset] [(.ref b6)])) rfl (hb hby at_54) (by decide) (by decide)
    obtain ⟨b49, g49⟩ : ∃ z, z = T7.heap.size := ⟨_, rfl⟩
    rw [← g49] at A49 D49 st49
    refine own_go st49 ?_
    have K49 : Keep h0 h49 [] := K7.ext E49
    have r49 := CHr.ext E49 R7.1
    have R49 := R7.trans r49
    have hk := Nat.le_trans hk E49.1
    have O49 := O7.ext E49
    have Q49 := Safe.ext E49 R7.1 (Safe.new (Nat.le_of_eq g49.symm))
    have F49_name : Fld Z h49 b49 "com/example/firmline/firmline/model/Task" "name" "Ljava/lang/String;" .null := D49 (Or.inr (own_w hw 115 rfl)) (ty := (.object "java/lang/String")) (by decide)
    have F49_period : Fld Z h49 b49 "com/example/firmline/firmline/model/Task" "period" "J" (.long (0 : Int64)) := D49 (Or.inr (own_w hw 117 rfl)) (ty := .long) (by decide)
    have F49_deadline : Fld Z h49 b49 "com/example/firmline/firmline/model/Task" "deadline" "J" (.long (0 : Int64)) := D49 (Or.inr (own_w hw 119 rfl)) (ty := .long) (by decide)
    have F49_cost : Fld Z h49 b49 "com/example/firmline/firmline/model/Task" "cost" "J" (.long (0 : Int64)) := D49 (Or.inr (own_w hw 121 rfl)) (ty := .long) (by decide)
    have F49_priority : Fld Z h49 b49 "com/example/firmline/firmline/model/Task" "priority" "I" (.int (0 : Int32)) := D49 (Or.inr (own_w hw 123 rfl)) (ty := .int) (by decide)
    have F49_recovery : Fld Z h49 b49 "com/example/firmline/firmline/model/Task" "recovery" "J" (.long (0 : Int64)) := D49 (Or.inr (own_w hw 125 rfl)) (ty := .long) (by decide)
    refine own_go (A := T49.setTop (mkF m 58 #[.val (.long q1), .second, .val (.long q2), .second, .val (.long q3), .second, .val (.long q4), .second, .val (.int p5), .val (.long r_1), .second, .val (.int y2), .val (.long r_3), .second, .val (.long r_4), .second, .val (.long r_5), .second, .val (.ref b6), .unset, .unset, .unset, .unset, .unset] [(.ref b49), (.ref b49), (.ref b6)])) (fun t_ k_ => ?_) ?_
    · show Steps p.tables e below (T49.setTop (mkF m 57 #[.val (.long q1), .second, .val (.long q2), .second, .val (.long q3), .second, .val (.long q4), .second, .val (.int p5), .val (.long r_1), .second, .val (.int y2), .val (.long r_3), .second, .val (.long r_4), .second, .val (.long r_5), .second, .val (.ref b6), .unset, .unset, .unset, .unset, .unset] [(.ref b49), (.ref b6)])) t_
      refine XS.dup X49.here hx rfl (hb hby at_57) rfl rfl ?_
      exact k_
    obtain ⟨b50, T50, h50, k50, d50, kk50, X50, e50, E50, hS, hk, hZ, hown, Ea50, Fc50, Fv50, Av50, la50, lb50, r50, -, sn50, st50⟩ := ldcCH X49 hx hZ hown (own_w hw 39 rfl) hSA e49 hS hk hEL (List.mem_of_getElem? (i := 0) rfl) R49.1 (vs := [(.int (97 : Int32))]) (z := (1 : Int32)) (by decide +kernel) (by decide) (by decide +kernel) (g := (mkF m 58 #[.val (.long q1), .second, .val (.long q2), .second, .val (.long q3), .second, .val (.long q4), .second, .val (.int p5), .val (.long r_1), .second, .val (.int y2), .val (.long r_3), .second, .val (.long r_4), .second, .val (.long r_5), .second, .val (.ref b6), .unset, .unset, .unset, .unset, .unset] [(.ref b49), (.ref b49), (.ref b6)])) rfl (hb hby at_58) (n := 4) (by decide) (by decide) (by decide) (by decide)
    refine own_go st50 ?_
    have K50 : Keep h0 h50 [] := K49.ext E50
    have R50 := R49.trans r50
    have O50 := O49.ext E50
    refine own_go (A := T50.setTop (mkF m 65 #[.val (.long q1), .second, .val (.long q2), .second, .val (.long q3), .second, .val (.long q4), .second, .val (.int p5), .val (.long r_1), .second, .val (.int y2), .val (.long r_3), .second, .val (.long r_4), .second, .val (.long r_5), .second, .val (.ref b6), .unset, .unset, .unset, .unset, .unset] [(.int (0 : Int32)), (.long (1 : Int64)), (.long (1 : Int64)), (.long r_3), (.ref b50), (.ref b49), (.ref b49), (.ref b6)])) (fun t_ k_ => ?_) ?_
    · show Steps p.tables e below (T50.setTop (mkF m 60 #[.val (.long q1), .second, .val (.long q2), .second, .val (.long q3), .second, .val (.long q4), .second, .val (.int p5), .val (.long r_1), .second, .val (.int y2), .val (.long r_3), .second, .val (.long r_4), .second, .val (.long r_5), .second, .val (.ref b6), .unset, .unset, .unset, .unset, .unset] [(.ref b50), (.ref b49), (.ref b49), (.ref b6)])) t_
      refine XS.lload X50.here hx rfl (hb hby at_60) rfl ?_
      show Steps p.tables e below (T50.setTop (mkF m 62 #[.val (.long q1), .second, .val (.long q2), .second, .val (.long q3), .second, .val (.long q4), .second, .val (.int p5), .val (.long r_1), .second, .val (.int y2), .val (.long r_3), .second, .val (.long r_4), .second, .val (.long r_5), .second, .val (.ref b6), .unset, .unset, .unset, .unset, .unset] [(.long r_3), (.ref b50), (.ref b49), (.ref b49), (.ref b6)])) t_
      refine XS.lconst X50.here hx rfl (hb hby at_62) ?_
      show Steps p.tables e below (T50.setTop (mkF m 63 #[.val (.long q1), .second, .val (.long q2), .second, .val (.long q3), .second, .val (.long q4), .second, .val (.int p5), .val (.long r_1), .second, .val (.int y2), .val (.long r_3), .second, .val (.long r_4), .second, .val (.long r_5), .second, .val (.ref b6), .unset, .unset, .unset, .unset, .unset] [(.long (1 : Int64)), (.long r_3), (.ref b50), (.ref b49), (.ref b49), (.ref b6)])) t_
      refine XS.lconst X50.here hx rfl (hb hby at_63) ?_
      show Steps p.tables e below (T50.setTop (mkF m 64 #[.val (.long q1), .second, .val (.long q2), .second, .val (.long q3), .second, .val (.long q4), .second, .val (.int p5), .val (.long r_1), .second, .val (.int y2), .val (.long r_3), .second, .val (.long r_4), .second, .val (.long r_5), .second, .val (.ref b6), .unset, .unset, .unset, .unset, .unset] [(.long (1 : Int64)), (.long (1 : Int64)), (.long r_3), (.ref b50), (.ref b49), (.ref b49), (.ref b6)])) t_
      refine XS.iconst X50.here hx rfl (hb hby at_64) ?_
      exact k_
    obtain ⟨_, _, ⟨T51, L51, k51, n51⟩, -, X51, hs51, gs51, ⟨Lc51, hQ51, l51, y51, z51, r51⟩, st51⟩ := X50.specialBackS hx (y := own_y16) rfl hown (mvT hZ (own_w hw 47 rfl)) (mvT hZ (own_w hw 48 rfl)) (mvT hZ (own_w hw 49 rfl)) (by decide) (backOfSH (W := 2) (rmTask5 l Z a0 hw [] b49 b50 r_3 d50 kk50 (97 : Int32) cs sf h50 n0 (Nat.le_trans Z0 K50.1) O50 u1 hcs u3 hsf Ea50 Fc50 Fv50 Av50 (by decide) (by decide) (A49.ext E50) (F49_name.ext E50) (F49_period.ext E50) (F49_deadline.ext E50) (F49_cost.ext E50) (F49_priority.ext E50) (F49_recovery.ext E50) (Nat.le_trans Z0 (Nat.le_trans K7.1 (Nat.le_of_eq g49.symm))) (own_lo w3_0) (own_hi w3_0)) hZ (own_w hw 49 rfl) (own_w hw 38 rfl) (by decide) (by decide) hEL R50.1) (g := (mkF m 65 #[.val (.long q1), .second, .val (.long q2), .second, .val (.long q3), .second, .val (.long q4), .second, .val (.int p5), .val (.long r_1), .second, .val (.int y2), .val (.long r_3), .second, .val (.long r_4), .second, .val (.long r_5), .second, .val (.ref b6), .unset, .unset, .unset, .unset, .unset] [(.int (0 : Int32)), (.long (1 : Int64)), (.long (1 : Int64)), (.long r_3), (.ref b50), (.ref b49), (.ref b49), (.ref b6)])) rfl (by rw [hml]; rfl) (Steps.refl _) (a := b49) (argsL := [(.ref b50), (.long r_3), (.long (1 : Int64)), (.long (1 : Int64)), (.int (0 : Int32))]) (rest := [(.ref b49), (.ref b6)]) (lenOf pd_25 rfl) rfl (by show 2 * 0 + _ ≤ _; exact Nat.le_of_eq rfl) (hb hby at_65) (fun _ _ => ⟨rfl, e50, (by decide : 4 + 8 ≤ _), (by decide : 17 + 120 ≤ _)⟩)
    dsimp only [Pt.U, Pt.locs, Pt.cells, Pt.slots] at X51 l51 y51 z51 st51 hQ51 hs51 gs51 r51
    subst l51 y51 z51
    obtain ⟨X51, hS, hZ, hown⟩ := rebS hS (by rw [e50]; exact hk) X51 hs51 gs51 hZ hown
    obtain ⟨rfl, N51q, Kc51, r51_0⟩ := hQ51
    have N51 := Fr.app N7 N51q
    refine own_via st51 ?_
    have hk := Nat.le_refl T51.heap.size
    have K51 : Keep h0 T51.heap [] := K50.trans Kc51 (allS (P := fun x => x ∈ _ ∨ _ ≤ x) (Or.inr (Nat.le_trans K7.1 (Nat.le_of_eq g49.symm))) all0)
    have R51 := R50.trans r51
    have O51 := O50.keep Kc51 (allS (P := fun x => n0 ≤ x) (Nat.le_trans Z0 (Nat.le_trans K7.1 (Nat.le_of_eq g49.symm))) all0)
    obtain ⟨cq52, kq52, q52a, q52b, q52c⟩ := isOf hZ rfl ((((A6.keep Kc7).ext E49).ext E50).keep Kc51)
    obtain ⟨_, _, ⟨T52, L52, k52, n52⟩, -, X52, ⟨Lc52, hQ52, l52, y52, z52⟩, st52⟩ := X51.interfaceBack hx (xi := own_y39) (y := own_y24) hown (mvT hZ (own_w hw 126 rfl)) (mvT hZ (own_w hw 127 rfl)) (mvT hZ (own_w hw 128 rfl)) (mvT hZ (own_w hw 129 rfl)) (mvT hZ (own_w hw 130 rfl)) (mvT hZ (own_w hw 131 rfl)) (mvT hZ (own_w hw 132 rfl)) (mvT hZ (own_w hw 133 rfl)) (by decide) (backOf (W := 0) (rmAdd0 l Z a0 hw [] b6 b49 dc kd (0 : Int32) T51.heap n0 (Nat.le_trans Z0 K51.1) O51 u5 ((((A6.keep Kc7).ext E49).ext E50).keep Kc51) (((r7_0.ext E49).ext E50).keep Kc51 (ninS (Nat.ne_of_lt (Nat.lt_of_lt_of_le (Nat.lt_of_lt_of_le A6.lt Kc7.1) (Nat.le_of_eq g49.symm))) nin0)) (((r7_1.ext E49).ext E50).keep Kc51 (ninS (Nat.ne_of_lt (Nat.lt_of_lt_of_le (Nat.lt_of_lt_of_le A6.lt Kc7.1) (Nat.le_of_eq g49.symm))) nin0)) (((r7_2.ext E49).ext E50).keep Kc51 (ninS (Nat.ne_of_lt (Nat.lt_of_lt_of_le (Nat.lt_of_lt_of_le A6.lt Kc7.1) (Nat.le_of_eq g49.symm))) nin0)) u6 (Nat.le_trans Z0 (Nat.le_of_eq g6.symm)) ((A49.ext E50).keep Kc51)) hZ (own_w hw 134 rfl) (own_w hw 12 rfl) (by decide) (by decide)) q52a q52b q52c (g := (mkF m 68 #[.val (.long q1), .second, .val (.long q2), .second, .val (.long q3), .second, .val (.long q4), .second, .val (.int p5), .val (.long r_1), .second, .val (.int y2), .val (.long r_3), .second, .val (.long r_4), .second, .val (.long r_5), .second, .val (.ref b6), .unset, .unset, .unset, .unset, .unset] [(.ref b49), (.ref b6)])) rfl (by rw [hml]; rfl) (Steps.refl _) (argsL := [(.ref b49)]) (rest := []) (lenOf pd_26 rfl) rfl (by show 2 * 0 + _ ≤ _; exact Nat.le_of_eq rfl) (hb hby at_68) (fun _ _ => ⟨rfl, rfl, (by decide : 12 + 1 ≤ _), (by decide : 137 + 10 ≤ _)⟩)
    dsimp only [Pt.U, Pt.locs, Pt.cells, Pt.slots] at X52 l52 y52 z52 st52 hQ52
    subst l52 y52 z52
    obtain ⟨ed_52, k_52, rfl, N52q, Kc52, r52_0, r52_1, r52_2, r52_3, r52_4, r52_5⟩ := hQ52
    have N52 := Fr.app N51 N52q
    refine own_via st52 ?_
    have K52 : Keep h0 T52.heap [] := K51.trans Kc52 (allS (P := fun x => x ∈ _ ∨ _ ≤ x) (Or.inr (Nat.le_of_eq g6.symm)) all0)
    have r52 := CHr.keep Kc52 (allS (P := fun x => Safe Z own_EL _ _ x) (r51.safe (Nat.lt_of_lt_of_le (Nat.lt_of_lt_of_le (Nat.lt_of_lt_of_le A6.lt Kc7.1) E49.1) E50.1) (r50.safe (Nat.lt_of_lt_of_le (Nat.lt_of_lt_of_le A6.lt Kc7.1) E49.1) (r49.safe (Nat.lt_of_lt_of_le A6.lt Kc7.1) (r7.safe A6.lt Q6)))) all0) R51.1
    have R52 := R51.trans r52
    have hk := Nat.le_trans hk Kc52.1
    have O52 := O51.keep Kc52 (allS (P := fun x => n0 ≤ x) (Nat.le_trans Z0 (Nat.le_of_eq g6.symm)) all0)
    refine own_go (A := T52.setTop (mkF m 77 #[.val (.long q1), .second, .val (.long q2), .second, .val (.long q3), .second, .val (.long q4), .second, .val (.int p5), .val (.long r_1), .second, .val (.int y2), .val (.long r_3), .second, .val (.long r_4), .second, .val (.long r_5), .second, .val (.ref b6), .unset, .unset, .unset, .unset, .unset] [(.int (2 : Int32)), (.int y2)])) (fun t_ k_ => ?_) ?_
    · show Steps p.tables e below (T52.setTop (mkF m 73 #[.val (.long q1), .second, .val (.long q2), .second, .val (.long q3), .second, .val (.long q4), .second, .val (.int p5), .val (.long r_1), .second, .val (.int y2), .val (.long r_3), .second, .val (.long r_4), .second, .val (.long r_5), .second, .val (.ref b6), .unset, .unset, .unset, .unset, .unset] [(.int (1 : Int32))])) t_
      refine XS.pop X52.here hx rfl (hb hby at_73) rfl rfl ?_
      show Steps p.tables e below (T52.setTop (mkF m 74 #[.val (.long q1), .second, .val (.long q2), .second, .val (.long q3), .second, .val (.long q4), .second, .val (.int p5), .val (.long r_1), .second, .val (.int y2), .val (.long r_3), .second, .val (.long r_4), .second, .val (.long r_5), .second, .val (.ref b6), .unset, .unset, .unset, .unset, .unset] [])) t_
      refine XS.iload X52.here hx rfl (hb hby at_74) rfl ?_
      show Steps p.tables e below (T52.setTop (mkF m 76 #[.val (.long q1), .second, .val (.long q2), .second, .val (.long q3), .second, .val (.long q4), .second, .val (.int p5), .val (.long r_1), .second, .val (.int y2), .val (.long r_3), .second, .val (.long r_4), .second, .val (.long r_5), .second, .val (.ref b6), .unset, .unset, .unset, .unset, .unset] [(.int y2)])) t_
      refine XS.iconst X52.here hx rfl (hb hby at_76) ?_
      exact k_
    by_cases hc77_53 : y2 < (2 : Int32)
    · refine own_go (A := T52.setTop (mkF m 105 #[.val (.long q1), .second, .val (.long q2), .second, .val (.long q3), .second, .val (.long q4), .second, .val (.int p5), .val (.long r_1), .second, .val (.int y2), .val (.long r_3), .second, .val (.long r_4), .second, .val (.long r_5), .second, .val (.ref b6), .unset, .unset, .unset, .unset, .unset] [(.int (3 : Int32)), (.int y2)])) (fun t_ k_ => ?_) ?_
      · show Steps p.tables e below (T52.setTop (mkF m 77 #[.val (.long q1), .second, .val (.long q2), .second, .val (.long q3), .second, .val (.long q4), .second, .val (.int p5), .val (.long r_1), .second, .val (.int y2), .val (.long r_3), .second, .val (.long r_4), .second, .val (.long r_5), .second, .val (.ref b6), .unset, .unset, .unset, .unset, .unset] [(.int (2 : Int32)), (.int y2)])) t_
        refine XS.icmpYes X52.here hx rfl (pc0 := 77) (pc' := 102) rfl (hb hby at_77) rfl (tlt hc77_53).1 (by decide) (by decide) ?_
        show Steps p.tables e below (T52.setTop (mkF m 102 #[.val (.long q1), .second, .val (.long q2), .second, .val (.long q3), .second, .val (.long q4), .second, .val (.int p5), .val (.long r_1), .second, .val (.int y2), .val (.long r_3), .second, .val (.long r_4), .second, .val (.long r_5), .second, .val (.ref b6), .unset, .unset, .unset, .unset, .unset] [])) t_
        refine XS.iload X52.here hx rfl (hb hby at_102) rfl ?_
        show Steps p.tables e below (T52.setTop (mkF m 104 #[.val (.long q1), .second, .val (.long q2), .second, .val (.long q3), .second, .val (.long q4), .second, .val (.int p5), .val (.long r_1), .second, .val (.int y2), .val (.long r_3), .second, .val (.long r_4), .second, .val (.long r_5), .second, .val (.ref b6), .unset, .unset, .unset, .unset, .unset] [(.int y2)])) t_
        refine XS.iconst X52.here hx rfl (hb hby at_104) ?_
        exact k_
      have hc105_54 : y2 < (3 : Int32) := own_up hc77_53 (by decide)
      refine own_go (A := T52.setTop (mkF m 134 #[.val (.long q1), .second, .val (.long q2), .second, .val (.long q3), .second, .val (.long q4), .second, .val (.int p5), .val (.long r_1), .second, .val (.int y2), .val (.long r_3), .second, .val (.long r_4), .second, .val (.long r_5), .second, .val (.ref b6), .unset, .unset, .unset, .unset, .unset] [(.long r_1), (.ref b6)])) (fun t_ k_ => ?_) ?_
      · show Steps p.tables e below (T52.setTop (mkF m 105 #[.val (.long q1), .second, .val (.long q2), .second, .val (.long q3), .second, .val (.long q4), .second, .val (.int p5), .val (.long r_1), .second, .val (.int y2), .val (.long r_3), .second, .val (.long r_4), .second, .val (.long r_5), .second, .val (.ref b6), .unset, .unset, .unset, .unset, .unset] [(.int (3 : Int32)), (.int y2)])) t_
        refine XS.icmpYes X52.here hx rfl (pc0 := 105) (pc' := 130) rfl (hb hby at_105) rfl (tlt hc105_54).1 (by decide) (by decide) ?_
        show Steps p.tables e below (T52.setTop (mkF m 130 #[.val (.long q1), .second, .val (.long q2), .second, .val (.long q3), .second, .val (.long q4), .second, .val (.int p5), .val (.long r_1), .second, .val (.int y2), .val (.long r_3), .second, .val (.long r_4), .second, .val (.long r_5), .second, .val (.ref b6), .unset, .unset, .unset, .unset, .unset] [])) t_
        refine XS.aload X52.here hx rfl (hb hby at_130) rfl rfl ?_
        show Steps p.tables e below (T52.setTop (mkF m 132 #[.val (.long q1), .second, .val (.long q2), .second, .val (.long q3), .second, .val (.long q4), .second, .val (.int p5), .val (.long r_1), .second, .val (.int y2), .val (.long r_3), .second, .val (.long r_4), .second, .val (.long r_5), .second, .val (.ref b6), .unset, .unset, .unset, .unset, .unset] [(.ref b6)])) t_
        refine XS.lload X52.here hx rfl (hb hby at_132) rfl ?_
        exact k_
      obtain ⟨_, _, ⟨T55, L55, k55, n55⟩, -, X55, ⟨Lc55, hQ55, l55, y55, z55⟩, st55⟩ := Jvm.LawKit.callS X52 hx (y := own_y35) hown (mvT hZ (own_w hw 162 rfl)) (mvT hZ (own_w hw 163 rfl)) (mvT hZ (own_w hw 164 rfl)) (mvT hZ (own_w hw 165 rfl)) (by decide) (backOf (W := 0) (rmNL1 l Z a0 hw [] b6 r_1 ((0 : Int32) + (1 : Int32)) ed_52 k_52 b49 r_3 T52.heap n0 (Nat.le_trans Z0 K52.1) w1_0 (((((A6.keep Kc7).ext E49).ext E50).keep Kc51).keep Kc52) r52_5 r52_4 r52_3 r52_1 (((A49.ext E50).keep Kc51).keep Kc52) (r51_0.keep Kc52 (ninS (Ne.symm (Nat.ne_of_lt (Nat.lt_of_lt_of_le (Nat.lt_of_lt_of_le A6.lt Kc7.1) (Nat.le_of_eq g49.symm)))) nin0)) w3_0) hZ (own_w hw 165 rfl) (own_w hw 164 rfl) (by decide) (by decide)) (g := (mkF m 134 #[.val (.long q1), .second, .val (.long q2), .second, .val (.long q3), .second, .val (.long q4), .second, .val (.int p5), .val (.long r_1), .second, .val (.int y2), .val (.long r_3), .second, .val (.long r_4), .second, .val (.long r_5), .second, .val (.ref b6), .unset, .unset, .unset, .unset, .unset] [(.long r_1), (.ref b6)])) rfl (by rw [hml]; rfl) (argsL := [(.ref b6), (.long r_1)]) (rest := []) (lenOf pd_22 rfl) rfl (by show 2 * 0 + _ ≤ _; exact Nat.le_of_eq rfl) (hb hby at_134) (fun _ _ => ⟨rfl, rfl, (by decide : 13 + 1 ≤ _), (by decide : 147 + 4 ≤ _)⟩)
      dsimp only [Pt.U, Pt.locs, Pt.cells, Pt.slots] at X55 l55 y55 z55 st55 hQ55
      subst l55 y55 z55
      obtain ⟨r_55, x1_55, rfl, N55q, Kc55, w55_0, w55_1, w55_2, w55_3⟩ := hQ55
      have N55 := Fr.app N52 N55q
      refine own_go st55 ?_
      have K55 : Keep h0 T55.heap [] := K52.trans Kc55 all0
      have r55 := CHr.keep Kc55 all0 R52.1
      have R55 := R52.trans r55
      have hk := Nat.le_trans hk Kc55.1
      have O55 := O52.keep Kc55 all0
      have hQG55 : own_QG y2 r_1 r_55 r_3 r_4 r_5 := own_qg1 w1_0 w3_0 w55_0 w55_1 w55_2 hc49_8 hc77_53
      have hCG55 : own_CG y2 r_1 r_55 r_3 r_4 r_5 := own_cg1 w1_0 w3_0 w55_0 w55_1 w55_2 hc49_8 hc77_53
      exact own_c137 l Z a0 hw q1 q2 q3 q4 p5 cs sf dc kd r_1 y2 r_3 r_4 r_5 b6 r_55 h0 n0 Z0 X55 hx hZ hby hml hown Bd.returns (BodyLoose.notSynchronized Bd) hh rfl N55 K55 O55 hS hk hSA hEL R55 (by decide) (by decide) hcs hsf w3_0 w4_0 w5_0 hQG55 hCG55
    · refine own_go (A := T52.setTop (mkF m 82 #[.val (.long q1), .second, .val (.long q2), .second, .val (.long q3), .second, .val (.long q4), .second, .val (.int p5), .val (.long r_1), .second, .val (.int y2), .val (.long r_3), .second, .val (.long r_4), .second, .val (.long r_5), .second, .val (.ref b6), .unset, .unset, .unset, .unset, .unset] [(.ref b6)])) (fun t_ k_ => ?_) ?_
      · show Steps p.tables e below (T52.setTop (mkF m 77 #[.val (.long q1), .second, .val (.long q2), .second, .val (.long q3), .second, .val (.long q4), .second, .val (.int p5), .val (.long r_1), .second, .val (.int y2), .val (.long r_3), .second, .val (.long r_4), .second, .val (.long r_5), .second, .val (.ref b6), .unset, .unset, .unset, .unset, .unset] [(.int (2 : Int32)), (.int y2)])) t_
        refine XS.icmpNo X52.here hx rfl (hb hby at_77) rfl (flt hc77_53).1 ?_
        show Steps p.tables e below (T52.setTop (mkF m 80 #[.val (.long q1), .second, .val (.long q2), .second, .val (.long q3), .second, .val (.long q4), .second, .val (.int p5), .val (.long r_1), .second, .val (.int y2), .val (.long r_3), .second, .val (.long r_4), .second, .val (.long r_5), .second, .val (.ref b6), .unset, .unset, .unset, .unset, .unset] [])) t_
        refine XS.aload X52.here hx rfl (hb hby at_80) rfl rfl ?_
        exact k_
      obtain ⟨T56, h56, X56, e56, E56, A56, D56, -, st56⟩ := newO X52 hx hZ hown (own_w hw 36 rfl) (own_w hw 37 rfl) (own_w hw 38 rfl) rfl (g := (mkF m 82 #[.val (.long q1), .second, .val (.long q2), .second, .val (.long q3), .second, .val (.long q4), .second, .val (.int p5), .val (.long r_1), .second, .val (.int y2), .val (.long r_3), .second, .val (.long r_4), .second, .val (.long r_5), .second, .val (.ref b6), .unset, .unset, .unset, .unset, .unset] [(.ref b6)])) rfl (hb hby at_82) (by decide) (by decide)
      obtain ⟨b56, g56⟩ : ∃ z, z = T52.heap.size := ⟨_, rfl⟩
      rw [← g56] at A56 D56 st56
      refine own_go st56 ?_
      have K56 : Keep h0 h56 [] := K52.ext E56
      have r56 := CHr.ext E56 R52.1
      have R56 := R52.trans r56
      have hk := Nat.le_trans hk E56.1
      have O56 := O52.ext E56
      have Q56 := Safe.ext E56 R52.1 (Safe.new (Nat.le_of_eq g56.symm))
      have F56_name : Fld Z h56 b56 "com/example/firmline/firmline/model/Task" "name" "Ljava/lang/String;" .null := D56 (Or.inr (own_w hw 115 rfl)) (ty := (.object "java/lang/String")) (by decide)
      have F56_period : Fld Z h56 b56 "com/example/firmline/firmline/model/Task" "period" "J" (.long (0 : Int64)) := D56 (Or.inr (own_w hw 117 rfl)) (ty := .long) (by decide)
      have F56_deadline : Fld Z h56 b56 "com/example/firmline/firmline/model/Task" "deadline" "J" (.long (0 : Int64)) := D56 (Or.inr (own_w hw 119 rfl)) (ty := .long) (by decide)
      have F56_cost : Fld Z h56 b56 "com/example/firmline/firmline/model/Task" "cost" "J" (.long (0 : Int64)) := D56 (Or.inr (own_w hw 121 rfl)) (ty := .long) (by decide)
      have F56_priority : Fld Z h56 b56 "com/example/firmline/firmline/model/Task" "priority" "I" (.int (0 : Int32)) := D56 (Or.inr (own_w hw 123 rfl)) (ty := .int) (by decide)
      have F56_recovery : Fld Z h56 b56 "com/example/firmline/firmline/model/Task" "recovery" "J" (.long (0 : Int64)) := D56 (Or.inr (own_w hw 125 rfl)) (ty := .long) (by decide)
      refine own_go (A := T56.setTop (mkF m 86 #[.val (.long q1), .second, .val (.long q2), .second, .val (.long q3), .second, .val (.long q4), .second, .val (.int p5), .val (.long r_1), .second, .val (.int y2), .val (.long r_3), .second, .val (.long r_4), .second, .val (.long r_5), .second, .val (.ref b6), .unset, .unset, .unset, .unset, .unset] [(.ref b56), (.ref b56), (.ref b6)])) (fun t_ k_ => ?_) ?_
      · show Steps p.tables e below (T56.setTop (mkF m 85 #[.val (.long q1), .second, .val (.long q2), .second, .val (.long q3), .second, .val (.long q4), .second, .val (.int p5), .val (.long r_1), .second, .val (.int y2), .val (.long r_3), .second, .val (.long r_4), .second, .val (.long r_5), .second, .val (.ref b6), .unset, .unset, .unset, .unset, .unset] [(.ref b56), (.ref b6)])) t_
        refine XS.dup X56.here hx rfl (hb hby at_85) rfl rfl ?_
        exact k_
      obtain ⟨b57, T57, h57, k57, d57, kk57, X57, e57, E57, hS, hk, hZ, hown, Ea57, Fc57, Fv57, Av57, la57, lb57, r57, -, sn57, st57⟩ := ldcCH X56 hx hZ hown (own_w hw 160 rfl) hSA e56 hS hk hEL (List.mem_of_getElem? (i := 1) rfl) R56.1 (vs := [(.int (98 : Int32))]) (z := (1 : Int32)) (by decide +kernel) (by decide) (by decide +kernel) (g := (mkF m 86 #[.val (.long q1), .second, .val (.long q2), .second, .val (.long q3), .second, .val (.long q4), .second, .val (.int p5), .val (.long r_1), .second, .val (.int y2), .val (.long r_3), .second, .val (.long r_4), .second, .val (.long r_5), .second, .val (.ref b6), .unset, .unset, .unset, .unset, .unset] [(.ref b56), (.ref b56), (.ref b6)])) rfl (hb hby at_86) (n := 4) (by decide) (by decide) (by decide) (by decide)
      refine own_go st57 ?_
      have K57 : Keep h0 h57 [] := K56.ext E57
      have R57 := R56.trans r57
      have O57 := O56.ext E57
      refine own_go (A := T57.setTop (mkF m 93 #[.val (.long q1), .second, .val (.long q2), .second, .val (.long q3), .second, .val (.long q4), .second, .val (.int p5), .val (.long r_1), .second, .val (.int y2), .val (.long r_3), .second, .val (.long r_4), .second, .val (.long r_5), .second, .val (.ref b6), .unset, .unset, .unset, .unset, .unset] [(.int (0 : Int32)), (.long (1 : Int64)), (.long (1 : Int64)), (.long r_4), (.ref b57), (.ref b56), (.ref b56), (.ref b6)])) (fun t_ k_ => ?_) ?_
      · show Steps p.tables e below (T57.setTop (mkF m 88 #[.val (.long q1), .second, .val (.long q2), .second, .val (.long q3), .second, .val (.long q4), .second, .val (.int p5), .val (.long r_1), .second, .val (.int y2), .val (.long r_3), .second, .val (.long r_4), .second, .val (.long r_5), .second, .val (.ref b6), .unset, .unset, .unset, .unset, .unset] [(.ref b57), (.ref b56), (.ref b56), (.ref b6)])) t_
        refine XS.lload X57.here hx rfl (hb hby at_88) rfl ?_
        show Steps p.tables e below (T57.setTop (mkF m 90 #[.val (.long q1), .second, .val (.long q2), .second, .val (.long q3), .second, .val (.long q4), .second, .val (.int p5), .val (.long r_1), .second, .val (.int y2), .val (.long r_3), .second, .val (.long r_4), .second, .val (.long r_5), .second, .val (.ref b6), .unset, .unset, .unset, .unset, .unset] [(.long r_4), (.ref b57), (.ref b56), (.ref b56), (.ref b6)])) t_
        refine XS.lconst X57.here hx rfl (hb hby at_90) ?_
        show Steps p.tables e below (T57.setTop (mkF m 91 #[.val (.long q1), .second, .val (.long q2), .second, .val (.long q3), .second, .val (.long q4), .second, .val (.int p5), .val (.long r_1), .second, .val (.int y2), .val (.long r_3), .second, .val (.long r_4), .second, .val (.long r_5), .second, .val (.ref b6), .unset, .unset, .unset, .unset, .unset] [(.long (1 : Int64)), (.long r_4), (.ref b57), (.ref b56), (.ref b56), (.ref b6)])) t_
        refine XS.lconst X57.here hx rfl (hb hby at_91) ?_
        show Steps p.tables e below (T57.setTop (mkF m 92 #[.val (.long q1), .second, .val (.long q2), .second, .val (.long q3), .second, .val (.long q4), .second, .val (.int p5), .val (.long r_1), .second, .val (.int y2), .val (.long r_3), .second, .val (.long r_4), .second, .val (.long r_5), .second, .val (.ref b6), .unset, .unset, .unset, .unset, .unset] [(.long (1 : Int64)), (.long (1 : Int64)), (.long r_4), (.ref b57), (.ref b56), (.ref b56), (.ref b6)])) t_
        refine XS.iconst X57.here hx rfl (hb hby at_92) ?_
        exact k_
      obtain ⟨_, _, ⟨T58, L58, k58, n58⟩, -, X58, hs58, gs58, ⟨Lc58, hQ58, l58, y58, z58, r58⟩, st58⟩ := X57.specialBackS hx (y := own_y16) rfl hown (mvT hZ (own_w hw 47 rfl)) (mvT hZ (own_w hw 48 rfl)) (mvT hZ (own_w hw 49 rfl)) (by decide) (backOfSH (W := 2) (rmTask5 l Z a0 hw [] b56 b57 r_4 d57 kk57 (98 : Int32) cs sf h57 n0 (Nat.le_trans Z0 K57.1) O57 u1 hcs u3 hsf Ea57 Fc57 Fv57 Av57 (by decide) (by decide) (A56.ext E57) (F56_name.ext E57) (F56_period.ext E57) (F56_deadline.ext E57) (F56_cost.ext E57) (F56_priority.ext E57) (F56_recovery.ext E57) (Nat.le_trans Z0 (Nat.le_trans K52.1 (Nat.le_of_eq g56.symm))) (own_lo w4_0) (own_hi w4_0)) hZ (own_w hw 49 rfl) (own_w hw 38 rfl) (by decide) (by decide) hEL R57.1) (g := (mkF m 93 #[.val (.long q1), .second, .val (.long q2), .second, .val (.long q3), .second, .val (.long q4), .second, .val (.int p5), .val (.long r_1), .second, .val (.int y2), .val (.long r_3), .second, .val (.long r_4), .second, .val (.long r_5), .second, .val (.ref b6), .unset, .unset, .unset, .unset, .unset] [(.int (0 : Int32)), (.long (1 : Int64)), (.long (1 : Int64)), (.long r_4), (.ref b57), (.ref b56), (.ref b56), (.ref b6)])) rfl (by rw [hml]; rfl) (Steps.refl _) (a := b56) (argsL := [(.ref b57), (.long r_4), (.long (1 : Int64)), (.long (1 : Int64)), (.int (0 : Int32))]) (rest := [(.ref b56), (.ref b6)]) (lenOf pd_25 rfl) rfl (by show 2 * 0 + _ ≤ _; exact Nat.le_of_eq rfl) (hb hby at_93) (fun _ _ => ⟨rfl, e57, (by decide : 16 + 8 ≤ _), (by decide : 161 + 120 ≤ _)⟩)
      dsimp only [Pt.U, Pt.locs, Pt.cells, Pt.slots] at X58 l58 y58 z58 st58 hQ58 hs58 gs58 r58
      subst l58 y58 z58
      obtain ⟨X58, hS, hZ, hown⟩ := rebS hS (by rw [e57]; exact hk) X58 hs58 gs58 hZ hown
      obtain ⟨rfl, N58q, Kc58, r58_0⟩ := hQ58
      have N58 := Fr.app N52 N58q
      refine own_via st58 ?_
      have hk := Nat.le_refl T58.heap.size
      have K58 : Keep h0 T58.heap [] := K57.trans Kc58 (allS (P := fun x => x ∈ _ ∨ _ ≤ x) (Or.inr (Nat.le_trans K52.1 (Nat.le_of_eq g56.symm))) all0)
      have R58 := R57.trans r58
      have O58 := O57.keep Kc58 (allS (P := fun x => n0 ≤ x) (Nat.le_trans Z0 (Nat.le_trans K52.1 (Nat.le_of_eq g56.symm))) all0)
      obtain ⟨cq59, kq59, q59a, q59b, q59c⟩ := isOf hZ rfl ((((((((A6.keep Kc7).ext E49).ext E50).keep Kc51).keep Kc52).ext E56).ext E57).keep Kc58)
      obtain ⟨_, _, ⟨T59, L59, k59, n59⟩, -, X59, ⟨Lc59, hQ59, l59, y59, z59⟩, st59⟩ := X58.interfaceBack hx (xi := own_y39) (y := own_y24) hown (mvT hZ (own_w hw 126 rfl)) (mvT hZ (own_w hw 127 rfl)) (mvT hZ (own_w hw 128 rfl)) (mvT hZ (own_w hw 129 rfl)) (mvT hZ (own_w hw 130 rfl)) (mvT hZ (own_w hw 131 rfl)) (mvT hZ (own_w hw 132 rfl)) (mvT hZ (own_w hw 133 rfl)) (by decide) (backOf (W := 0) (rmAdd1 l Z a0 hw [] b6 b56 ed_52 k_52 ((0 : Int32) + (1 : Int32)) b49 T58.heap n0 (Nat.le_trans Z0 K58.1) ((((((((A6.keep Kc7).ext E49).ext E50).keep Kc51).keep Kc52).ext E56).ext E57).keep Kc58) (((r52_3.ext E56).ext E57).keep Kc58 (ninS (Nat.ne_of_lt (Nat.lt_of_lt_of_le (Nat.lt_of_lt_of_le (Nat.lt_of_lt_of_le (Nat.lt_of_lt_of_le (Nat.lt_of_lt_of_le (Nat.lt_of_lt_of_le A6.lt Kc7.1) E49.1) E50.1) Kc51.1) Kc52.1) (Nat.le_of_eq g56.symm))) nin0)) (((r52_4.ext E56).ext E57).keep Kc58 (ninS (Nat.ne_of_lt (Nat.lt_of_lt_of_le (Nat.lt_of_lt_of_le (Nat.lt_of_lt_of_le (Nat.lt_of_lt_of_le (Nat.lt_of_lt_of_le (Nat.lt_of_lt_of_le A6.lt Kc7.1) E49.1) E50.1) Kc51.1) Kc52.1) (Nat.le_of_eq g56.symm))) nin0)) (((r52_5.ext E56).ext E57).keep Kc58 (ninS (Nat.ne_of_lt (Nat.lt_of_lt_of_le (Nat.lt_of_lt_of_le (Nat.lt_of_lt_of_le (Nat.lt_of_lt_of_le (Nat.lt_of_lt_of_le (Nat.lt_of_lt_of_le A6.lt Kc7.1) E49.1) E50.1) Kc51.1) Kc52.1) (Nat.le_of_eq g56.symm))) nin0)) (((r52_1.ext E56).ext E57).keep Kc58 (ninS (Nat.ne_of_lt (Nat.lt_of_lt_of_le r52_1.lt (Nat.le_of_eq g56.symm))) nin0)) r52_2 (Nat.le_trans Z0 (Nat.le_of_eq g6.symm)) (Nat.le_trans Z0 (Nat.le_trans K51.1 r52_0)) (Nat.ne_of_lt (Nat.lt_of_lt_of_le (Nat.lt_of_lt_of_le (Nat.lt_of_lt_of_le (Nat.lt_of_lt_of_le (Nat.lt_of_lt_of_le A6.lt Kc7.1) E49.1) E50.1) Kc51.1) r52_0)) ((A56.ext E57).keep Kc58)) hZ (own_w hw 134 rfl) (own_w hw 12 rfl) (by decide) (by decide)) q59a q59b q59c (g := (mkF m 96 #[.val (.long q1), .second, .val (.long q2), .second, .val (.long q3), .second, .val (.long q4), .second, .val (.int p5), .val (.long r_1), .second, .val (.int y2), .val (.long r_3), .second, .val (.long r_4), .second, .val (.long r_5), .second, .val (.ref b6), .unset, .unset, .unset, .unset, .unset] [(.ref b56), (.ref b6)])) rfl (by rw [hml]; rfl) (Steps.refl _) (argsL := [(.ref b56)]) (rest := []) (lenOf pd_26 rfl) rfl (by show 2 * 0 + _ ≤ _; exact Nat.le_of_eq rfl) (hb hby at_96) (fun _ _ => ⟨rfl, rfl, (by decide : 24 + 0 ≤ _), (by decide : 281 + 0 ≤ _)⟩)
      dsimp only [Pt.U, Pt.locs, Pt.cells, Pt.slots] at X59 l59 y59 z59 st59 hQ59
      subst l59 y59 z59
      obtain ⟨rfl, N59q, Kc59, r59_0, r59_1, r59_2, r59_3⟩ := hQ59
      have N59 := Fr.app N58 N59q
      refine own_via st59 ?_
      have K59 : Keep h0 T59.heap [] := K58.trans Kc59 (allS (P := fun x => x ∈ _ ∨ _ ≤ x) (Or.inr (Nat.le_of_eq g6.symm)) (allS (P := fun x => x ∈ _ ∨ _ ≤ x) (Or.inr (Nat.le_trans K51.1 r52_0)) all0))
      have r59 := CHr.keep Kc59 (allS (P := fun x => Safe Z own_EL _ _ x) (r58.safe (Nat.lt_of_lt_of_le (Nat.lt_of_lt_of_le (Nat.lt_of_lt_of_le (Nat.lt_of_lt_of_le (Nat.lt_of_lt_of_le (Nat.lt_of_lt_of_le (Nat.lt_of_lt_of_le A6.lt Kc7.1) E49.1) E50.1) Kc51.1) Kc52.1) E56.1) E57.1) (r57.safe (Nat.lt_of_lt_of_le (Nat.lt_of_lt_of_le (Nat.lt_of_lt_of_le (Nat.lt_of_lt_of_le (Nat.lt_of_lt_of_le (Nat.lt_of_lt_of_le A6.lt Kc7.1) E49.1) E50.1) Kc51.1) Kc52.1) E56.1) (r56.safe (Nat.lt_of_lt_of_le (Nat.lt_of_lt_of_le (Nat.lt_of_lt_of_le (Nat.lt_of_lt_of_le (Nat.lt_of_lt_of_le A6.lt Kc7.1) E49.1) E50.1) Kc51.1) Kc52.1) (r52.safe (Nat.lt_of_lt_of_le (Nat.lt_of_lt_of_le (Nat.lt_of_lt_of_le (Nat.lt_of_lt_of_le A6.lt Kc7.1) E49.1) E50.1) Kc51.1) (r51.safe (Nat.lt_of_lt_of_le (Nat.lt_of_lt_of_le (Nat.lt_of_lt_of_le A6.lt Kc7.1) E49.1) E50.1) (r50.safe (Nat.lt_of_lt_of_le (Nat.lt_of_lt_of_le A6.lt Kc7.1) E49.1) (r49.safe (Nat.lt_of_lt_of_le A6.lt Kc7.1) (r7.safe A6.lt Q6)))))))) (allS (P := fun x => Safe Z own_EL _ _ x) (own_safeA hZ.alike (((r52_1.ext E56).ext E57).keep Kc58 (ninS (Nat.ne_of_lt (Nat.lt_of_lt_of_le r52_1.lt (Nat.le_of_eq g56.symm))) nin0)) (by decide)) all0)) R58.1
      have R59 := R58.trans r59
      have hk := Nat.le_trans hk Kc59.1
      have O59 := O58.keep Kc59 (allS (P := fun x => n0 ≤ x) (Nat.le_trans Z0 (Nat.le_of_eq g6.symm)) (allS (P := fun x => n0 ≤ x) (Nat.le_trans Z0 (Nat.le_trans K51.1 r52_0)) all0))
      refine own_go (A := T59.setTop (mkF m 105 #[.val (.long q1), .second, .val (.long q2), .second, .val (.long q3), .second, .val (.long q4), .second, .val (.int p5), .val (.long r_1), .second, .val (.int y2), .val (.long r_3), .second, .val (.long r_4), .second, .val (.long r_5), .second, .val (.ref b6), .unset, .unset, .unset, .unset, .unset] [(.int (3 : Int32)), (.int y2)])) (fun t_ k_ => ?_) ?_
      · show Steps p.tables e below (T59.setTop (mkF m 101 #[.val (.long q1), .second, .val (.long q2), .second, .val (.long q3), .second, .val (.long q4), .second, .val (.int p5), .val (.long r_1), .second, .val (.int y2), .val (.long r_3), .second, .val (.long r_4), .second, .val (.long r_5), .second, .val (.ref b6), .unset, .unset, .unset, .unset, .unset] [(.int (1 : Int32))])) t_
        refine XS.pop X59.here hx rfl (hb hby at_101) rfl rfl ?_
        show Steps p.tables e below (T59.setTop (mkF m 102 #[.val (.long q1), .second, .val (.long q2), .second, .val (.long q3), .second, .val (.long q4), .second, .val (.int p5), .val (.long r_1), .second, .val (.int y2), .val (.long r_3), .second, .val (.long r_4), .second, .val (.long r_5), .second, .val (.ref b6), .unset, .unset, .unset, .unset, .unset] [])) t_
        refine XS.iload X59.here hx rfl (hb hby at_102) rfl ?_
        show Steps p.tables e below (T59.setTop (mkF m 104 #[.val (.long q1), .second, .val (.long q2), .second, .val (.long q3), .second, .val (.long q4), .second, .val (.int p5), .val (.long r_1), .second, .val (.int y2), .val (.long r_3), .second, .val (.long r_4), .second, .val (.long r_5), .second, .val (.ref b6), .unset, .unset, .unset, .unset, .unset] [(.int y2)])) t_
        refine XS.iconst X59.here hx rfl (hb hby at_104) ?_
        exact k_
      by_cases hc105_60 : y2 < (3 : Int32)
      · refine own_go (A := T59.setTop (mkF m 134 #[.val (.long q1), .second, .val (.long q2), .second, .val (.long q3), .second, .val (.long q4), .second, .val (.int p5), .val (.long r_1), .second, .val (.int y2), .val (.long r_3), .second, .val (.long r_4), .second, .val (.long r_5), .second, .val (.ref b6), .unset, .unset, .unset, .unset, .unset] [(.long r_1), (.ref b6)])) (fun t_ k_ => ?_) ?_
        · show Steps p.tables e below (T59.setTop (mkF m 105 #[.val (.long q1), .second, .val (.long q2), .second, .val (.long q3), .second, .val (.long q4), .second, .val (.int p5), .val (.long r_1), .second, .val (.int y2), .val (.long r_3), .second, .val (.long r_4), .second, .val (.long r_5), .second, .val (.ref b6), .unset, .unset, .unset, .unset, .unset] [(.int (3 : Int32)), (.int y2)])) t_
          refine XS.icmpYes X59.here hx rfl (pc0 := 105) (pc' := 130) rfl (hb hby at_105) rfl (tlt hc105_60).1 (by decide) (by decide) ?_
          show Steps p.tables e below (T59.setTop (mkF m 130 #[.val (.long q1), .second, .val (.long q2), .second, .val (.long q3), .second, .val (.long q4), .second, .val (.int p5), .val (.long r_1), .second, .val (.int y2), .val (.long r_3), .second, .val (.long r_4), .second, .val (.long r_5), .second, .val (.ref b6), .unset, .unset, .unset, .unset, .unset] [])) t_
          refine XS.aload X59.here hx rfl (hb hby at_130) rfl rfl ?_
          show Steps p.tables e below (T59.setTop (mkF m 132 #[.val (.long q1), .second, .val (.long q2), .second, .val (.long q3), .second, .val (.long q4), .second, .val (.int p5), .val (.long r_1), .second, .val (.int y2), .val (.long r_3), .second, .val (.long r_4), .second, .val (.long r_5), .second, .val (.ref b6), .unset, .unset, .unset, .unset, .unset] [(.ref b6)])) t_
          refine XS.lload X59.here hx rfl (hb hby at_132) rfl ?_
          exact k_
        obtain ⟨_, _, ⟨T61, L61, k61, n61⟩, -, X61, ⟨Lc61, hQ61, l61, y61, z61⟩, st61⟩ := Jvm.LawKit.callS X59 hx (y := own_y35) hown (mvT hZ (own_w hw 162 rfl)) (mvT hZ (own_w hw 163 rfl)) (mvT hZ (own_w hw 164 rfl)) (mvT hZ (own_w hw 165 rfl)) (by decide) (backOf (W := 0) (rmNL2 l Z a0 hw [] b6 r_1 (((0 : Int32) + (1 : Int32)) + (1 : Int32)) ed_52 k_52 b49 b56 r_3 r_4 T59.heap n0 (Nat.le_trans Z0 K59.1) w1_0 (((((((((A6.keep Kc7).ext E49).ext E50).keep Kc51).keep Kc52).ext E56).ext E57).keep Kc58).keep Kc59) r59_3 r59_2 r59_1 r59_0 (((((((A49.ext E50).keep Kc51).keep Kc52).ext E56).ext E57).keep Kc58).keep Kc59) (((((r51_0.keep Kc52 (ninS (Ne.symm (Nat.ne_of_lt (Nat.lt_of_lt_of_le (Nat.lt_of_lt_of_le A6.lt Kc7.1) (Nat.le_of_eq g49.symm)))) nin0)).ext E56).ext E57).keep Kc58 (ninS (Nat.ne_of_lt (Nat.lt_of_lt_of_le (Nat.lt_of_lt_of_le (Nat.lt_of_lt_of_le (Nat.lt_of_lt_of_le A49.lt E50.1) Kc51.1) Kc52.1) (Nat.le_of_eq g56.symm))) nin0)).keep Kc59 (ninS (Ne.symm (Nat.ne_of_lt (Nat.lt_of_lt_of_le (Nat.lt_of_lt_of_le A6.lt Kc7.1) (Nat.le_of_eq g49.symm)))) (ninS (Nat.ne_of_lt (Nat.lt_of_lt_of_le (Nat.lt_of_lt_of_le (Nat.lt_of_lt_of_le A49.lt E50.1) Kc51.1) r52_0)) nin0))) w3_0 (((A56.ext E57).keep Kc58).keep Kc59) (r58_0.keep Kc59 (ninS (Ne.symm (Nat.ne_of_lt (Nat.lt_of_lt_of_le (Nat.lt_of_lt_of_le (Nat.lt_of_lt_of_le (Nat.lt_of_lt_of_le (Nat.lt_of_lt_of_le (Nat.lt_of_lt_of_le A6.lt Kc7.1) E49.1) E50.1) Kc51.1) Kc52.1) (Nat.le_of_eq g56.symm)))) (ninS (Ne.symm (Nat.ne_of_lt (Nat.lt_of_lt_of_le r52_1.lt (Nat.le_of_eq g56.symm)))) nin0))) w4_0) hZ (own_w hw 165 rfl) (own_w hw 164 rfl) (by decide) (by decide)) (g := (mkF m 134 #[.val (.long q1), .second, .val (.long q2), .second, .val (.long q3), .second, .val (.long q4), .second, .val (.int p5), .val (.long r_1), .second, .val (.int y2), .val (.long r_3), .second, .val (.long r_4), .second, .val (.long r_5), .second, .val (.ref b6), .unset, .unset, .unset, .unset, .unset] [(.long r_1), (.ref b6)])) rfl (by rw [hml]; rfl) (argsL := [(.ref b6), (.long r_1)]) (rest := []) (lenOf pd_22 rfl) rfl (by show 2 * 0 + _ ≤ _; exact Nat.le_of_eq rfl) (hb hby at_134) (fun _ _ => ⟨rfl, rfl, (by decide : 24 + 1 ≤ _), (by decide : 281 + 4 ≤ _)⟩)
        dsimp only [Pt.U, Pt.locs, Pt.cells, Pt.slots] at X61 l61 y61 z61 st61 hQ61
        subst l61 y61 z61
        obtain ⟨r_61, x1_61, x2_61, rfl, N61q, Kc61, w61_0, w61_1, w61_2, w61_3, w61_4, w61_5⟩ := hQ61
        have N61 := Fr.app N59 N61q
        refine own_go st61 ?_
        have K61 : Keep h0 T61.heap [] := K59.trans Kc61 all0
        have r61 := CHr.keep Kc61 all0 R59.1
        have R61 := R59.trans r61
        have hk := Nat.le_trans hk Kc61.1
        have O61 := O59.keep Kc61 all0
        have hQG61 : own_QG y2 r_1 r_61 r_3 r_4 r_5 := own_qg2 w1_0 w3_0 w4_0 w61_0 w61_1 w61_2 w61_3 w61_4 hc49_8 hc77_53 hc105_60
        have hCG61 : own_CG y2 r_1 r_61 r_3 r_4 r_5 := own_cg2 w1_0 w3_0 w4_0 w61_0 w61_1 w61_2 w61_3 w61_4 hc49_8 hc77_53 hc105_60
        exact own_c137 l Z a0 hw q1 q2 q3 q4 p5 cs sf dc kd r_1 y2 r_3 r_4 r_5 b6 r_61 h0 n0 Z0 X61 hx hZ hby hml hown Bd.returns (BodyLoose.notSynchronized Bd) hh rfl N61 K61 O61 hS hk hSA hEL R61 (by decide) (by decide) hcs hsf w3_0 w4_0 w5_0 hQG61 hCG61
      · refine own_go (A := T59.setTop (mkF m 110 #[.val (.long q1), .second, .val (.long q2), .second, .val (.long q3), .second, .val (.long q4), .second, .val (.int p5), .val (.long r_1), .second, .val (.int y2), .val (.long r_3), .second, .val (.long r_4), .second, .val (.long r_5), .second, .val (.ref b6), .unset, .unset, .unset, .unset, .unset] [(.ref b6)])) (fun t_ k_ => ?_) ?_
        · show Steps p.tables e below (T59.setTop (mkF m 105 #[.val (.long q1), .second, .val (.long q2), .second, .val (.long q3), .second, .val (.long q4), .second, .val (.int p5), .val (.long r_1), .second, .val (.int y2), .val (.long r_3), .second, .val (.long r_4), .second, .val (.long r_5), .second, .val (.ref b6), .unset, .unset, .unset, .unset, .unset] [(.int (3 : Int32)), (.int y2)])) t_
          refine XS.icmpNo X59.here hx rfl (hb hby at_105) rfl (flt hc105_60).1 ?_
          show Steps p.tables e below (T59.setTop (mkF m 108 #[.val (.long q1), .second, .val (.long q2), .second, .val (.long q3), .second, .val (.long q4), .second, .val (.int p5), .val (.long r_1), .second, .val (.int y2), .val (.long r_3), .second, .val (.long r_4), .second, .val (.long r_5), .second, .val (.ref b6), .unset, .unset, .unset, .unset, .unset] [])) t_
          refine XS.aload X59.here hx rfl (hb hby at_108) rfl rfl ?_
          exact k_
        obtain ⟨T62, h62, X62, e62, E62, A62, D62, -, st62⟩ := newO X59 hx hZ hown (own_w hw 36 rfl) (own_w hw 37 rfl) (own_w hw 38 rfl) rfl (g := (mkF m 110 #[.val (.long q1), .second, .val (.long q2), .second, .val (.long q3), .second, .val (.long q4), .second, .val (.int p5), .val (.long r_1), .second, .val (.int y2), .val (.long r_3), .second, .val (.long r_4), .second, .val (.long r_5), .second, .val (.ref b6), .unset, .unset, .unset, .unset, .unset] [(.ref b6)])) rfl (hb hby at_110) (by decide) (by decide)
        obtain ⟨b62, g62⟩ : ∃ z, z = T59.heap.size := ⟨_, rfl⟩
        rw [← g62] at A62 D62 st62
        refine own_go st62 ?_
        have K62 : Keep h0 h62 [] := K59.ext E62
        have r62 := CHr.ext E62 R59.1
        have R62 := R59.trans r62
        have hk := Nat.le_trans hk E62.1
        have O62 := O59.ext E62
        have Q62 := Safe.ext E62 R59.1 (Safe.new (Nat.le_of_eq g62.symm))
        have F62_name : Fld Z h62 b62 "com/example/firmline/firmline/model/Task" "name" "Ljava/lang/String;" .null := D62 (Or.inr (own_w hw 115 rfl)) (ty := (.object "java/lang/String")) (by decide)
        have F62_period : Fld Z h62 b62 "com/example/firmline/firmline/model/Task" "period" "J" (.long (0 : Int64)) := D62 (Or.inr (own_w hw 117 rfl)) (ty := .long) (by decide)
        have F62_deadline : Fld Z h62 b62 "com/example/firmline/firmline/model/Task" "deadline" "J" (.long (0 : Int64)) := D62 (Or.inr (own_w hw 119 rfl)) (ty := .long) (by decide)
        have F62_cost : Fld Z h62 b62 "com/example/firmline/firmline/model/Task" "cost" "J" (.long (0 : Int64)) := D62 (Or.inr (own_w hw 121 rfl)) (ty := .long) (by decide)
        have F62_priority : Fld Z h62 b62 "com/example/firmline/firmline/model/Task" "priority" "I" (.int (0 : Int32)) := D62 (Or.inr (own_w hw 123 rfl)) (ty := .int) (by decide)
        have F62_recovery : Fld Z h62 b62 "com/example/firmline/firmline/model/Task" "recovery" "J" (.long (0 : Int64)) := D62 (Or.inr (own_w hw 125 rfl)) (ty := .long) (by decide)
        refine own_go (A := T62.setTop (mkF m 114 #[.val (.long q1), .second, .val (.long q2), .second, .val (.long q3), .second, .val (.long q4), .second, .val (.int p5), .val (.long r_1), .second, .val (.int y2), .val (.long r_3), .second, .val (.long r_4), .second, .val (.long r_5), .second, .val (.ref b6), .unset, .unset, .unset, .unset, .unset] [(.ref b62), (.ref b62), (.ref b6)])) (fun t_ k_ => ?_) ?_
        · show Steps p.tables e below (T62.setTop (mkF m 113 #[.val (.long q1), .second, .val (.long q2), .second, .val (.long q3), .second, .val (.long q4), .second, .val (.int p5), .val (.long r_1), .second, .val (.int y2), .val (.long r_3), .second, .val (.long r_4), .second, .val (.long r_5), .second, .val (.ref b6), .unset, .unset, .unset, .unset, .unset] [(.ref b62), (.ref b6)])) t_
          refine XS.dup X62.here hx rfl (hb hby at_113) rfl rfl ?_
          exact k_
        obtain ⟨b63, T63, h63, k63, d63, kk63, X63, e63, E63, hS, hk, hZ, hown, Ea63, Fc63, Fv63, Av63, la63, lb63, r63, -, sn63, st63⟩ := ldcCH X62 hx hZ hown (own_w hw 161 rfl) hSA e62 hS hk hEL (List.mem_of_getElem? (i := 2) rfl) R62.1 (vs := [(.int (99 : Int32))]) (z := (1 : Int32)) (by decide +kernel) (by decide) (by decide +kernel) (g := (mkF m 114 #[.val (.long q1), .second, .val (.long q2), .second, .val (.long q3), .second, .val (.long q4), .second, .val (.int p5), .val (.long r_1), .second, .val (.int y2), .val (.long r_3), .second, .val (.long r_4), .second, .val (.long r_5), .second, .val (.ref b6), .unset, .unset, .unset, .unset, .unset] [(.ref b62), (.ref b62), (.ref b6)])) rfl (hb hby at_114) (n := 4) (by decide) (by decide) (by decide) (by decide)
        refine own_go st63 ?_
        have K63 : Keep h0 h63 [] := K62.ext E63
        have R63 := R62.trans r63
        have O63 := O62.ext E63
        refine own_go (A := T63.setTop (mkF m 121 #[.val (.long q1), .second, .val (.long q2), .second, .val (.long q3), .second, .val (.long q4), .second, .val (.int p5), .val (.long r_1), .second, .val (.int y2), .val (.long r_3), .second, .val (.long r_4), .second, .val (.long r_5), .second, .val (.ref b6), .unset, .unset, .unset, .unset, .unset] [(.int (0 : Int32)), (.long (1 : Int64)), (.long (1 : Int64)), (.long r_5), (.ref b63), (.ref b62), (.ref b62), (.ref b6)])) (fun t_ k_ => ?_) ?_
        · show Steps p.tables e below (T63.setTop (mkF m 116 #[.val (.long q1), .second, .val (.long q2), .second, .val (.long q3), .second, .val (.long q4), .second, .val (.int p5), .val (.long r_1), .second, .val (.int y2), .val (.long r_3), .second, .val (.long r_4), .second, .val (.long r_5), .second, .val (.ref b6), .unset, .unset, .unset, .unset, .unset] [(.ref b63), (.ref b62), (.ref b62), (.ref b6)])) t_
          refine XS.lload X63.here hx rfl (hb hby at_116) rfl ?_
          show Steps p.tables e below (T63.setTop (mkF m 118 #[.val (.long q1), .second, .val (.long q2), .second, .val (.long q3), .second, .val (.long q4), .second, .val (.int p5), .val (.long r_1), .second, .val (.int y2), .val (.long r_3), .second, .val (.long r_4), .second, .val (.long r_5), .second, .val (.ref b6), .unset, .unset, .unset, .unset, .unset] [(.long r_5), (.ref b63), (.ref b62), (.ref b62), (.ref b6)])) t_
          refine XS.lconst X63.here hx rfl (hb hby at_118) ?_
          show Steps p.tables e below (T63.setTop (mkF m 119 #[.val (.long q1), .second, .val (.long q2), .second, .val (.long q3), .second, .val (.long q4), .second, .val (.int p5), .val (.long r_1), .second, .val (.int y2), .val (.long r_3), .second, .val (.long r_4), .second, .val (.long r_5), .second, .val (.ref b6), .unset, .unset, .unset, .unset, .unset] [(.long (1 : Int64)), (.long r_5), (.ref b63), (.ref b62), (.ref b62), (.ref b6)])) t_
          refine XS.lconst X63.here hx rfl (hb hby at_119) ?_
          show Steps p.tables e below (T63.setTop (mkF m 120 #[.val (.long q1), .second, .val (.long q2), .second, .val (.long q3), .second, .val (.long q4), .second, .val (.int p5), .val (.long r_1), .second, .val (.int y2), .val (.long r_3), .second, .val (.long r_4), .second, .val (.long r_5), .second, .val (.ref b6), .unset, .unset, .unset, .unset, .unset] [(.long (1 : Int64)), (.long (1 : Int64)), (.long r_5), (.ref b63), (.ref b62), (.ref b62), (.ref b6)])) t_
          refine XS.iconst X63.here hx rfl (hb hby at_120) ?_
          exact k_
        obtain ⟨_, _, ⟨T64, L64, k64, n64⟩, -, X64, hs64, gs64, ⟨Lc64, hQ64, l64, y64, z64, r64⟩, st64⟩ := X63.specialBackS hx (y := own_y16) rfl hown (mvT hZ (own_w hw 47 rfl)) (mvT hZ (own_w hw 48 rfl)) (mvT hZ (own_w hw 49 rfl)) (by decide) (backOfSH (W := 2) (rmTask5 l Z a0 hw [] b62 b63 r_5 d63 kk63 (99 : Int32) cs sf h63 n0 (Nat.le_trans Z0 K63.1) O63 u1 hcs u3 hsf Ea63 Fc63 Fv63 Av63 (by decide) (by decide) (A62.ext E63) (F62_name.ext E63) (F62_period.ext E63) (F62_deadline.ext E63) (F62_cost.ext E63) (F62_priority.ext E63) (F62_recovery.ext E63) (Nat.le_trans Z0 (Nat.le_trans K59.1 (Nat.le_of_eq g62.symm))) (own_lo w5_0) (own_hi w5_0)) hZ (own_w hw 49 rfl) (own_w hw 38 rfl) (by decide) (by decide) hEL R63.1) (g := (mkF m 121 #[.val (.long q1), .second, .val (.long q2), .second, .val (.long q3), .second, .val (.long q4), .second, .val (.int p5), .val (.long r_1), .second, .val (.int y2), .val (.long r_3), .second, .val (.long r_4), .second, .val (.long r_5), .second, .val (.ref b6), .unset, .unset, .unset, .unset, .unset] [(.int (0 : Int32)), (.long (1 : Int64)), (.long (1 : Int64)), (.long r_5), (.ref b63), (.ref b62), (.ref b62), (.ref b6)])) rfl (by rw [hml]; rfl) (Steps.refl _) (a := b62) (argsL := [(.ref b63), (.long r_5), (.long (1 : Int64)), (.long (1 : Int64)), (.int (0 : Int32))]) (rest := [(.ref b62), (.ref b6)]) (lenOf pd_25 rfl) rfl (by show 2 * 0 + _ ≤ _; exact Nat.le_of_eq rfl) (hb hby at_121) (fun _ _ => ⟨rfl, e63, (by decide : 27 + 8 ≤ _), (by decide : 295 + 120 ≤ _)⟩)
        dsimp only [Pt.U, Pt.locs, Pt.cells, Pt.slots] at X64 l64 y64 z64 st64 hQ64 hs64 gs64 r64
        subst l64 y64 z64
        obtain ⟨X64, hS, hZ, hown⟩ := rebS hS (by rw [e63]; exact hk) X64 hs64 gs64 hZ hown
        obtain ⟨rfl, N64q, Kc64, r64_0⟩ := hQ64
        have N64 := Fr.app N59 N64q
        refine own_via st64 ?_
        have hk := Nat.le_refl T64.heap.size
        have K64 : Keep h0 T64.heap [] := K63.trans Kc64 (allS (P := fun x => x ∈ _ ∨ _ ≤ x) (Or.inr (Nat.le_trans K59.1 (Nat.le_of_eq g62.symm))) all0)
        have R64 := R63.trans r64
        have O64 := O63.keep Kc64 (allS (P := fun x => n0 ≤ x) (Nat.le_trans Z0 (Nat.le_trans K59.1 (Nat.le_of_eq g62.symm))) all0)
        obtain ⟨cq65, kq65, q65a, q65b, q65c⟩ := isOf hZ rfl ((((((((((((A6.keep Kc7).ext E49).ext E50).keep Kc51).keep Kc52).ext E56).ext E57).keep Kc58).keep Kc59).ext E62).ext E63).keep Kc64)
        obtain ⟨_, _, ⟨T65, L65, k65, n65⟩, -, X65, ⟨Lc65, hQ65, l65, y65, z65⟩, st65⟩ := X64.interfaceBack hx (xi := own_y39) (y := own_y24) hown (mvT hZ (own_w hw 126 rfl)) (mvT hZ (own_w hw 127 rfl)) (mvT hZ (own_w hw 128 rfl)) (mvT hZ (own_w hw 129 rfl)) (mvT hZ (own_w hw 130 rfl)) (mvT hZ (own_w hw 131 rfl)) (mvT hZ (own_w hw 132 rfl)) (mvT hZ (own_w hw 133 rfl)) (by decide) (backOf (W := 0) (rmAdd2 l Z a0 hw [] b6 b62 ed_52 k_52 (((0 : Int32) + (1 : Int32)) + (1 : Int32)) b49 b56 T64.heap n0 (Nat.le_trans Z0 K64.1) ((((((((((((A6.keep Kc7).ext E49).ext E50).keep Kc51).keep Kc52).ext E56).ext E57).keep Kc58).keep Kc59).ext E62).ext E63).keep Kc64) (((r59_1.ext E62).ext E63).keep Kc64 (ninS (Nat.ne_of_lt (Nat.lt_of_lt_of_le (Nat.lt_of_lt_of_le (Nat.lt_of_lt_of_le (Nat.lt_of_lt_of_le (Nat.lt_of_lt_of_le (Nat.lt_of_lt_of_le (Nat.lt_of_lt_of_le (Nat.lt_of_lt_of_le (Nat.lt_of_lt_of_le (Nat.lt_of_lt_of_le A6.lt Kc7.1) E49.1) E50.1) Kc51.1) Kc52.1) E56.1) E57.1) Kc58.1) Kc59.1) (Nat.le_of_eq g62.symm))) nin0)) (((r59_2.ext E62).ext E63).keep Kc64 (ninS (Nat.ne_of_lt (Nat.lt_of_lt_of_le (Nat.lt_of_lt_of_le (Nat.lt_of_lt_of_le (Nat.lt_of_lt_of_le (Nat.lt_of_lt_of_le (Nat.lt_of_lt_of_le (Nat.lt_of_lt_of_le (Nat.lt_of_lt_of_le (Nat.lt_of_lt_of_le (Nat.lt_of_lt_of_le A6.lt Kc7.1) E49.1) E50.1) Kc51.1) Kc52.1) E56.1) E57.1) Kc58.1) Kc59.1) (Nat.le_of_eq g62.symm))) nin0)) (((r59_3.ext E62).ext E63).keep Kc64 (ninS (Nat.ne_of_lt (Nat.lt_of_lt_of_le (Nat.lt_of_lt_of_le (Nat.lt_of_lt_of_le (Nat.lt_of_lt_of_le (Nat.lt_of_lt_of_le (Nat.lt_of_lt_of_le (Nat.lt_of_lt_of_le (Nat.lt_of_lt_of_le (Nat.lt_of_lt_of_le (Nat.lt_of_lt_of_le A6.lt Kc7.1) E49.1) E50.1) Kc51.1) Kc52.1) E56.1) E57.1) Kc58.1) Kc59.1) (Nat.le_of_eq g62.symm))) nin0)) (((r59_0.ext E62).ext E63).keep Kc64 (ninS (Nat.ne_of_lt (Nat.lt_of_lt_of_le (Nat.lt_of_lt_of_le (Nat.lt_of_lt_of_le (Nat.lt_of_lt_of_le (Nat.lt_of_lt_of_le r52_1.lt E56.1) E57.1) Kc58.1) Kc59.1) (Nat.le_of_eq g62.symm))) nin0)) r52_2 (Nat.le_trans Z0 (Nat.le_of_eq g6.symm)) (Nat.le_trans Z0 (Nat.le_trans K51.1 r52_0)) (Nat.ne_of_lt (Nat.lt_of_lt_of_le (Nat.lt_of_lt_of_le (Nat.lt_of_lt_of_le (Nat.lt_of_lt_of_le (Nat.lt_of_lt_of_le A6.lt Kc7.1) E49.1) E50.1) Kc51.1) r52_0)) ((A62.ext E63).keep Kc64)) hZ (own_w hw 134 rfl) (own_w hw 12 rfl) (by decide) (by decide)) q65a q65b q65c (g := (mkF m 124 #[.val (.long q1), .second, .val (.long q2), .second, .val (.long q3), .second, .val (.long q4), .second, .val (.int p5), .val (.long r_1), .second, .val (.int y2), .val (.long r_3), .second, .val (.long r_4), .second, .val (.long r_5), .second, .val (.ref b6), .unset, .unset, .unset, .unset, .unset] [(.ref b62), (.ref b6)])) rfl (by rw [hml]; rfl) (Steps.refl _) (argsL := [(.ref b62)]) (rest := []) (lenOf pd_26 rfl) rfl (by show 2 * 0 + _ ≤ _; exact Nat.le_of_eq rfl) (hb hby at_124) (fun _ _ => ⟨rfl, rfl, (by decide : 35 + 0 ≤ _), (by decide : 415 + 0 ≤ _)⟩)
        dsimp only [Pt.U, Pt.locs, Pt.cells, Pt.slots] at X65 l65 y65 z65 st65 hQ65
        subst l65 y65 z65
        obtain ⟨rfl, N65q, Kc65, r65_0, r65_1, r65_2, r65_3⟩ := hQ65
        have N65 := Fr.app N64 N65q
        refine own_via st65 ?_
        have K65 : Keep h0 T65.heap [] := K64.trans Kc65 (allS (P := fun x => x ∈ _ ∨ _ ≤ x) (Or.inr (Nat.le_of_eq g6.symm)) (allS (P := fun x => x ∈ _ ∨ _ ≤ x) (Or.inr (Nat.le_trans K51.1 r52_0)) all0))
        have r65 := CHr.keep Kc65 (allS (P := fun x => Safe Z own_EL _ _ x) (r64.safe (Nat.lt_of_lt_of_le (Nat.lt_of_lt_of_le (Nat.lt_of_lt_of_le (Nat.lt_of_lt_of_le (Nat.lt_of_lt_of_le (Nat.lt_of_lt_of_le (Nat.lt_of_lt_of_le (Nat.lt_of_lt_of_le (Nat.lt_of_lt_of_le (Nat.lt_of_lt_of_le (Nat.lt_of_lt_of_le A6.lt Kc7.1) E49.1) E50.1) Kc51.1) Kc52.1) E56.1) E57.1) Kc58.1) Kc59.1) E62.1) E63.1) (r63.safe (Nat.lt_of_lt_of_le (Nat.lt_of_lt_of_le (Nat.lt_of_lt_of_le (Nat.lt_of_lt_of_le (Nat.lt_of_lt_of_le (Nat.lt_of_lt_of_le (Nat.lt_of_lt_of_le (Nat.lt_of_lt_of_le (Nat.lt_of_lt_of_le (Nat.lt_of_lt_of_le A6.lt Kc7.1) E49.1) E50.1) Kc51.1) Kc52.1) E56.1) E57.1) Kc58.1) Kc59.1) E62.1) (r62.safe (Nat.lt_of_lt_of_le (Nat.lt_of_lt_of_le (Nat.lt_of_lt_of_le (Nat.lt_of_lt_of_le (Nat.lt_of_lt_of_le (Nat.lt_of_lt_of_le (Nat.lt_of_lt_of_le (Nat.lt_of_lt_of_le (Nat.lt_of_lt_of_le A6.lt Kc7.1) E49.1) E50.1) Kc51.1) Kc52.1) E56.1) E57.1) Kc58.1) Kc59.1) (r59.safe (Nat.lt_of_lt_of_le (Nat.lt_of_lt_of_le (Nat.lt_of_lt_of_le (Nat.lt_of_lt_of_le (Nat.lt_of_lt_of_le (Nat.lt_of_lt_of_le (Nat.lt_of_lt_of_le (Nat.lt_of_lt_of_le A6.lt Kc7.1) E49.1) E50.1) Kc51.1) Kc52.1) E56.1) E57.1) Kc58.1) (r58.safe (Nat.lt_of_lt_of_le (Nat.lt_of_lt_of_le (Nat.lt_of_lt_of_le (Nat.lt_of_lt_of_le (Nat.lt_of_lt_of_le (Nat.lt_of_lt_of_le (Nat.lt_of_lt_of_le A6.lt Kc7.1) E49.1) E50.1) Kc51.1) Kc52.1) E56.1) E57.1) (r57.safe (Nat.lt_of_lt_of_le (Nat.lt_of_lt_of_le (Nat.lt_of_lt_of_le (Nat.lt_of_lt_of_le (Nat.lt_of_lt_of_le (Nat.lt_of_lt_of_le A6.lt Kc7.1) E49.1) E50.1) Kc51.1) Kc52.1) E56.1) (r56.safe (Nat.lt_of_lt_of_le (Nat.lt_of_lt_of_le (Nat.lt_of_lt_of_le (Nat.lt_of_lt_of_le (Nat.lt_of_lt_of_le A6.lt Kc7.1) E49.1) E50.1) Kc51.1) Kc52.1) (r52.safe (Nat.lt_of_lt_of_le (Nat.lt_of_lt_of_le (Nat.lt_of_lt_of_le (Nat.lt_of_lt_of_le A6.lt Kc7.1) E49.1) E50.1) Kc51.1) (r51.safe (Nat.lt_of_lt_of_le (Nat.lt_of_lt_of_le (Nat.lt_of_lt_of_le A6.lt Kc7.1) E49.1) E50.1) (r50.safe (Nat.lt_of_lt_of_le (Nat.lt_of_lt_of_le A6.lt Kc7.1) E49.1) (r49.safe (Nat.lt_of_lt_of_le A6.lt Kc7.1) (r7.safe A6.lt Q6)))))))))))) (allS (P := fun x => Safe Z own_EL _ _ x) (own_safeA hZ.alike (((r59_0.ext E62).ext E63).keep Kc64 (ninS (Nat.ne_of_lt (Nat.lt_of_lt_of_le (Nat.lt_of_lt_of_le (Nat.lt_of_lt_of_le (Nat.lt_of_lt_of_le (Nat.lt_of_lt_of_le r52_1.lt E56.1) E57.1) Kc58.1) Kc59.1) (Nat.le_of_eq g62.symm))) nin0)) (by decide)) all0)) R64.1
        have R65 := R64.trans r65
        have hk := Nat.le_trans hk Kc65.1
        have O65 := O64.keep Kc65 (allS (P := fun x => n0 ≤ x) (Nat.le_trans Z0 (Nat.le_of_eq g6.symm)) (allS (P := fun x => n0 ≤ x) (Nat.le_trans Z0 (Nat.le_trans K51.1 r52_0)) all0))
        refine own_go (A := T65.setTop (mkF m 134 #[.val (.long q1), .second, .val (.long q2), .second, .val (.long q3), .second, .val (.long q4), .second, .val (.int p5), .val (.long r_1), .second, .val (.int y2), .val (.long r_3), .second, .val (.long r_4), .second, .val (.long r_5), .second, .val (.ref b6), .unset, .unset, .unset, .unset, .unset] [(.long r_1), (.ref b6)])) (fun t_ k_ => ?_) ?_
        · show Steps p.tables e below (T65.setTop (mkF m 129 #[.val (.long q1), .second, .val (.long q2), .second, .val (.long q3), .second, .val (.long q4), .second, .val (.int p5), .val (.long r_1), .second, .val (.int y2), .val (.long r_3), .second, .val (.long r_4), .second, .val (.long r_5), .second, .val (.ref b6), .unset, .unset, .unset, .unset, .unset] [(.int (1 : Int32))])) t_
          refine XS.pop X65.here hx rfl (hb hby at_129) rfl rfl ?_
          show Steps p.tables e below (T65.setTop (mkF m 130 #[.val (.long q1), .second, .val (.long q2), .second, .val (.long q3), .second, .val (.long q4), .second, .val (.int p5), .val (.long r_1), .second, .val (.int y2), .val (.long r_3), .second, .val (.long r_4), .second, .val (.long r_5), .second, .val (.ref b6), .unset, .unset, .unset, .unset, .unset] [])) t_
          refine XS.aload X65.here hx rfl (hb hby at_130) rfl rfl ?_
          show Steps p.tables e below (T65.setTop (mkF m 132 #[.val (.long q1), .second, .val (.long q2), .second, .val (.long q3), .second, .val (.long q4), .second, .val (.int p5), .val (.long r_1), .second, .val (.int y2), .val (.long r_3), .second, .val (.long r_4), .second, .val (.long r_5), .second, .val (.ref b6), .unset, .unset, .unset, .unset, .unset] [(.ref b6)])) t_
          refine XS.lload X65.here hx rfl (hb hby at_132) rfl ?_
          exact k_
        obtain ⟨_, _, ⟨T66, L66, k66, n66⟩, -, X66, ⟨Lc66, hQ66, l66, y66, z66⟩, st66⟩ := Jvm.LawKit.callS X65 hx (y := own_y35) hown (mvT hZ (own_w hw 162 rfl)) (mvT hZ (own_w hw 163 rfl)) (mvT hZ (own_w hw 164 rfl)) (mvT hZ (own_w hw 165 rfl)) (by decide) (backOf (W := 0) (rmNL3 l Z a0 hw [] b6 r_1 ((((0 : Int32) + (1 : Int32)) + (1 : Int32)) + (1 : Int32)) ed_52 k_52 b49 b56 b62 r_3 r_4 r_5 T65.heap n0 (Nat.le_trans Z0 K65.1) w1_0 (((((((((((((A6.keep Kc7).ext E49).ext E50).keep Kc51).keep Kc52).ext E56).ext E57).keep Kc58).keep Kc59).ext E62).ext E63).keep Kc64).keep Kc65) r65_3 r65_2 r65_1 r65_0 (((((((((((A49.ext E50).keep Kc51).keep Kc52).ext E56).ext E57).keep Kc58).keep Kc59).ext E62).ext E63).keep Kc64).keep Kc65) (((((((((r51_0.keep Kc52 (ninS (Ne.symm (Nat.ne_of_lt (Nat.lt_of_lt_of_le (Nat.lt_of_lt_of_le A6.lt Kc7.1) (Nat.le_of_eq g49.symm)))) nin0)).ext E56).ext E57).keep Kc58 (ninS (Nat.ne_of_lt (Nat.lt_of_lt_of_le (Nat.lt_of_lt_of_le (Nat.lt_of_lt_of_le (Nat.lt_of_lt_of_le A49.lt E50.1) Kc51.1) Kc52.1) (Nat.le_of_eq g56.symm))) nin0)).keep Kc59 (ninS (Ne.symm (Nat.ne_of_lt (Nat.lt_of_lt_of_le (Nat.lt_of_lt_of_le A6.lt Kc7.1) (Nat.le_of_eq g49.symm)))) (ninS (Nat.ne_of_lt (Nat.lt_of_lt_of_le (Nat.lt_of_lt_of_le (Nat.lt_of_lt_of_le A49.lt E50.1) Kc51.1) r52_0)) nin0))).ext E62).ext E63).keep Kc64 (ninS (Nat.ne_of_lt (Nat.lt_of_lt_of_le (Nat.lt_of_lt_of_le (Nat.lt_of_lt_of_le (Nat.lt_of_lt_of_le (Nat.lt_of_lt_of_le (Nat.lt_of_lt_of_le (Nat.lt_of_lt_of_le (Nat.lt_of_lt_of_le A49.lt E50.1) Kc51.1) Kc52.1) E56.1) E57.1) Kc58.1) Kc59.1) (Nat.le_of_eq g62.symm))) nin0)).keep Kc65 (ninS (Ne.symm (Nat.ne_of_lt (Nat.lt_of_lt_of_le (Nat.lt_of_lt_of_le A6.lt Kc7.1) (Nat.le_of_eq g49.symm)))) (ninS (Nat.ne_of_lt (Nat.lt_of_lt_of_le (Nat.lt_of_lt_of_le (Nat.lt_of_lt_of_le A49.lt E50.1) Kc51.1) r52_0)) nin0))) w3_0 (((((((A56.ext E57).keep Kc58).keep Kc59).ext E62).ext E63).keep Kc64).keep Kc65) (((((r58_0.keep Kc59 (ninS (Ne.symm (Nat.ne_of_lt (Nat.lt_of_lt_of_le (Nat.lt_of_lt_of_le (Nat.lt_of_lt_of_le (Nat.lt_of_lt_of_le (Nat.lt_of_lt_of_le (Nat.lt_of_lt_of_le A6.lt Kc7.1) E49.1) E50.1) Kc51.1) Kc52.1) (Nat.le_of_eq g56.symm)))) (ninS (Ne.symm (Nat.ne_of_lt (Nat.lt_of_lt_of_le r52_1.lt (Nat.le_of_eq g56.symm)))) nin0))).ext E62).ext E63).keep Kc64 (ninS (Nat.ne_of_lt (Nat.lt_of_lt_of_le (Nat.lt_of_lt_of_le (Nat.lt_of_lt_of_le (Nat.lt_of_lt_of_le A56.lt E57.1) Kc58.1) Kc59.1) (Nat.le_of_eq g62.symm))) nin0)).keep Kc65 (ninS (Ne.symm (Nat.ne_of_lt (Nat.lt_of_lt_of_le (Nat.lt_of_lt_of_le (Nat.lt_of_lt_of_le (Nat.lt_of_lt_of_le (Nat.lt_of_lt_of_le (Nat.lt_of_lt_of_le A6.lt Kc7.1) E49.1) E50.1) Kc51.1) Kc52.1) (Nat.le_of_eq g56.symm)))) (ninS (Ne.symm (Nat.ne_of_lt (Nat.lt_of_lt_of_le r52_1.lt (Nat.le_of_eq g56.symm)))) nin0))) w4_0 (((A62.ext E63).keep Kc64).keep Kc65) (r64_0.keep Kc65 (ninS (Ne.symm (Nat.ne_of_lt (Nat.lt_of_lt_of_le (Nat.lt_of_lt_of_le (Nat.lt_of_lt_of_le (Nat.lt_of_lt_of_le (Nat.lt_of_lt_of_le (Nat.lt_of_lt_of_le (Nat.lt_of_lt_of_le (Nat.lt_of_lt_of_le (Nat.lt_of_lt_of_le (Nat.lt_of_lt_of_le A6.lt Kc7.1) E49.1) E50.1) Kc51.1) Kc52.1) E56.1) E57.1) Kc58.1) Kc59.1) (Nat.le_of_eq g62.symm)))) (ninS (Ne.symm (Nat.ne_of_lt (Nat.lt_of_lt_of_le (Nat.lt_of_lt_of_le (Nat.lt_of_lt_of_le (Nat.lt_of_lt_of_le (Nat.lt_of_lt_of_le r52_1.lt E56.1) E57.1) Kc58.1) Kc59.1) (Nat.le_of_eq g62.symm)))) nin0))) w5_0) hZ (own_w hw 165 rfl) (own_w hw 164 rfl) (by decide) (by decide)) (g := (mkF m 134 #[.val (.long q1), .second, .val (.long q2), .second, .val (.long q3), .second, .val (.long q4), .second, .val (.int p5), .val (.long r_1), .second, .val (.int y2), .val (.long r_3), .second, .val (.long r_4), .second, .val (.long r_5), .second, .val (.ref b6), .unset, .unset, .unset, .unset, .unset] [(.long r_1), (.ref b6)])) rfl (by rw [hml]; rfl) (argsL := [(.ref b6), (.long r_1)]) (rest := []) (lenOf pd_22 rfl) rfl (by show 2 * 0 + _ ≤ _; exact Nat.le_of_eq rfl) (hb hby at_134) (fun _ _ => ⟨rfl, rfl, (by decide : 35 + 1 ≤ _), (by decide : 415 + 4 ≤ _)⟩)
        dsimp only [Pt.U, Pt.locs, Pt.cells, Pt.slots] at X66 l66 y66 z66 st66 hQ66
        subst l66 y66 z66
        obtain ⟨r_66, x1_66, x2_66, x3_66, rfl, N66q, Kc66, w66_0, w66_1, w66_2, w66_3, w66_4, w66_5, w66_6, w66_7⟩ := hQ66
        have N66 := Fr.app N65 N66q
        refine own_go st66 ?_
        have K66 : Keep h0 T66.heap [] := K65.trans Kc66 all0
        have r66 := CHr.keep Kc66 all0 R65.1
        have R66 := R65.trans r66
        have hk := Nat.le_trans hk Kc66.1
        have O66 := O65.keep Kc66 all0
        have hQG66 : own_QG y2 r_1 r_66 r_3 r_4 r_5 := own_qg3 w1_0 w3_0 w4_0 w5_0 w66_0 w66_1 w66_2 w66_3 w66_4 w66_5 w66_6 hc49_8 hc77_53 hc105_60
        have hCG66 : own_CG y2 r_1 r_66 r_3 r_4 r_5 := own_cg3 w1_0 w3_0 w4_0 w5_0 w66_0 w66_1 w66_2 w66_3 w66_4 w66_5 w66_6 hc49_8 hc77_53 hc105_60
        exact own_c137 l Z a0 hw q1 q2 q3 q4 p5 cs sf dc kd r_1 y2 r_3 r_4 r_5 b6 r_66 h0 n0 Z0 X66 hx hZ hby hml hown Bd.returns (BodyLoose.notSynchronized Bd) hh rfl N66 K66 O66 hS hk hSA hEL R66 (by decide) (by decide) hcs hsf w3_0 w4_0 w5_0 hQG66 hCG66
theorem own_len {args : Array Value} {s : State} {t : Term} {a : Addr} {cl : Cell} {z : Int32} (ev : t.eval args s none [] s = some (.ref a)) (hA : s.arrayAt? a = some cl) (h2 : (Term.length t).eval args s none [] s = some (.int z)) : cl.slots.size < 2 ^ 31 ∧ cl.slots.size.toInt32 = z := by
  have h3 := h2
  simp only [Term.eval, ev, hA, Option.bind_eq_bind, Option.bind_some] at h3
  by_cases q : cl.slots.size < 2 ^ 31
  · simp [q] at h3; exact ⟨q, h3⟩
  · simp [q] at h3
theorem own_arr0 {args : Array Value} {s : State} (hf : Fit s) {t : Term} {a : Addr} {ty : FieldType} {dv : Value} (ev : t.eval args s none [] s = some (.ref a)) (h1 : (Jvm.Cond.arrayOf t ty).value args s none s [] = some true) (h2 : (Term.length t).eval args s none [] s = some (.int 0)) : ∃ k, Arv s s.heap a k ty 0 [] dv := by
  obtain ⟨cl, A⟩ := Arr.start ev h1
  have hs := own_len ev (A.fin (State.Warmed39.refl s).alike) h2
  exact ⟨cl.cls, Arv.start hf A hs.1 hs.2 (by decide) rfl trivial⟩
set_option maxRecDepth 65536 in
set_option maxHeartbeats 40000000 in
theorem comes_1 {Post : Tables → Env → Array Value → State → Outcome → State → Prop} (hpost : ∀ tb e args s v u, (limb_1_1.after args s (.returned v) u = true ∧ limb_1_2.after args s (.returned v) u = true ∧ True) → ReturnedEndW s (.returned v) u (Jvm.fieldLocs frame_1_writes args s ++ Jvm.arrayLocs frame_1_arrays args s ++ Jvm.staticLocs frame_1_statics s) 40 7360 → Post tb e args s (.returned v) u) :
    ArmFor flags0 classFile x code maxLocals ret World_1 tables_1 room_1 Calls_1 rest_1 Pre_1 Post := by
  intro l hfl _ _ p e ha hc hk s m args below hf hA hF happ hP
  obtain ⟨hcalls, hrest, hpre⟩ := hP
  obtain ⟨-, -, -, hnamed, -, -, -, hat⟩ := (Spec.applies_iff hf).mp happ
  obtain ⟨hg, hn⟩ := and_e (Cond.before_iff.mp (show (Jvm.Cond.and given_1 narrow_1).before args s = true from hpre))
  obtain ⟨hg_0, hg_1⟩ := and_e hg
  obtain ⟨hg_2, hg_3⟩ := and_e hg_1
  obtain ⟨hg_4, hg_5⟩ := and_e hg_3
  obtain ⟨hg_6, hg_7⟩ := and_e hg_5
  obtain ⟨hg_8, hg_9⟩ := and_e hg_7
  obtain ⟨w0, w1, w2, w3, w4, rfl⟩ : ∃ w0 w1 w2 w3 w4 : Value, args = #[w0, w1, w2, w3, w4] := by
    have hs : args.size = 5 := by simpa [Cond.value, given_1] using hg_0
    obtain ⟨L⟩ := args
    match L, hs with
    | [w0, w1, w2, w3, w4], _ => exact ⟨w0, w1, w2, w3, w4, rfl⟩
  have hw := fun d (hd : d ∈ tables_1) => atoms_spec (ws := Jvm.Cond.code x code maxLocals ret :: tables_1) hat d (List.mem_cons_of_mem _ hd)
  have hfit : Fit s := fun {y c} hc i hi => by
    obtain ⟨ha, rfl⟩ := Array.getElem?_eq_some_iff.mp hc
    have q := List.all_eq_true.mp ((Array.all_eq_true_iff_forall_mem.mp hF) _ (Array.getElem_mem ha)) i (List.mem_range.mpr hi)
    simpa [Array.getElem?_eq_getElem hi] using q
  obtain ⟨i0, ei0⟩ := isL_v hg_2
  obtain rfl : w0 = (.long i0) := Option.some.inj ei0
  obtain ⟨i1, ei1⟩ := isL_v hg_4
  obtain rfl : w1 = (.long i1) := Option.some.inj ei1
  obtain ⟨i2, ei2⟩ := isL_v hg_6
  obtain rfl : w2 = (.long i2) := Option.some.inj ei2
  obtain ⟨i3, ei3⟩ := isL_v hg_8
  obtain rfl : w3 = (.long i3) := Option.some.inj ei3
  obtain ⟨i4, ei4⟩ := is_v hg_9
  obtain rfl : w4 = (.int i4) := Option.some.inj ei4
  obtain ⟨hsets, hown0⟩ := atoms_of _ (rest_1_c_eq ▸ (show rest_1_c.before _ s = true from hrest))
  obtain ⟨cs, ecs⟩ := is_v (Cond.before_iff.mp (hsets _ (List.mem_of_getElem? (i := 10) rfl)))
  have Scs : Sta s s.heap "java/lang/String" "COMPACT_STRINGS" "Z" (.int cs) := Sta.start ecs (Or.inl (hsets _ (List.mem_of_getElem? (i := 9) rfl)))
  have hcw := (hsets _ (List.mem_of_getElem? (i := 11) rfl))
  have hcs : ¬ (cs = (0 : Int32)) := gotF (Cond.eq_ints ecs (Term.int_eval (0))) (not_v (Cond.before_iff.mp hcw))
  obtain ⟨sf, esf, rsf⟩ := isR_v (Cond.before_iff.mp (hsets _ (List.mem_of_getElem? (i := 17) rfl)))
  have Ssf : Sta s s.heap "jdk/internal/util/Preconditions" "SIOOBE_FORMATTER" "Ljava/util/function/BiFunction;" sf := Sta.start esf (Or.inl (hsets _ (List.mem_of_getElem? (i := 16) rfl)))
  have hdc := Cond.before_iff.mp (hsets _ (List.mem_of_getElem? (i := 6) rfl))
  obtain ⟨dc, evdc⟩ := arr_v hdc
  have Sdc : Sta s s.heap "java/util/ArrayList" "DEFAULTCAPACITY_EMPTY_ELEMENTDATA" "[Ljava/lang/Object;" (.ref dc) := Sta.start evdc (Or.inr ⟨(own_w hw 12 rfl), (hsets _ (List.mem_of_getElem? (i := 2) rfl))⟩)
  obtain ⟨kd, Adc⟩ := own_arr0 (dv := .null) hfit evdc hdc (own_eqInt (Cond.before_iff.mp (hsets _ (List.mem_of_getElem? (i := 8) rfl))))
  obtain ⟨n, o, h1, h2, h3, _, L, rfl, ⟨rfl, N, -⟩, -, hq⟩ := rm0 l s _ hw tables_1 i0 i1 i2 i3 i4 cs sf dc kd s.heap s.heap.size (Nat.le_refl _) (Old.start s) Scs hcs Ssf rsf Sdc Adc p e ha hc hk s m _ below hf ((Spec.applies_iff_loose hf).mp happ).1 ⟨rfl, State.Warmed39.refl s, rfl, (CHv.start (own_EW hw) (fun p hp => hcalls.1 p (List.mem_of_mem_take (i := 3) (l := consts_1) hp)) hcw (own_w hw 42 rfl) (own_w hw 41 rfl))⟩ trivial
  refine ⟨n, _, h1, h2, h3, hpost _ _ _ _ _ _ ⟨Cond.after_iff.mpr rfl, Cond.after_iff.mpr (eq_i res_at (Term.int_eval (1)) rfl), trivial⟩ ⟨hq.1, hq.2.1, hq.2.2.1, (hq.2.2.2.sift fun y hy => Or.inr (N y hy)).mono (by decide) (by decide)⟩⟩
theorem main_1_1 : Claimed_1_1 := comes_1 fun _ _ _ _ _ _ h hF => ⟨h.1, hF⟩
theorem main_1_2 : Claimed_1_2 := comes_1 fun _ _ _ _ _ _ h hF => ⟨h.2.1, hF⟩
end Jvm.Pilot.@@N@@
namespace Jvm.Pilot.@@N@@
open Jvm Jvm.ClassFile Sem Op Lib Jvm.Free Jvm.Stand Jvm.Pilot.@@N@@.Jvm.D
/-! MADE BY PROGRAM (witnessworld.py) out of the Statement's table words and the real class files: 31 classes; the members and pool entries that the words name. The judged class is class 1, her method 1. -/
namespace start1
open Jvm.ClassFile
def u (s : String) : CpInfo := .utf8 (stringToUtf16 s)
/-- a pool by its gaps: so many unusable entries, then the entry; so many at the end -/
def gap : Nat → List CpInfo → List CpInfo
  | 0, r => r
  | n + 1, r => .unusable :: gap n r
def poolList (es : List (Nat × CpInfo)) (last : Nat) : List CpInfo := es.foldr (fun e r => gap e.1 (e.2 :: r)) (gap last [])
def pool (es : List (Nat × CpInfo)) (last : Nat) : Array CpInfo := ⟨poolList es last⟩
def fileOf (pool : Array CpInfo) (this : Nat) (attrs : Array Attribute := #[]) (ms : Array MethodInfo := #[]) (fl : Nat := 33) (sup : Nat := 0) (ifs : Array Nat := #[]) (fds : Array FieldInfo := #[]) : ClassFile where
  minorVersion := 0
  majorVersion := 65
  constantPool := pool
  accessFlags := fl
  thisClass := this
  superClass := sup
  interfaces := ifs
  fields := fds
  methods := ms
  attributes := attrs
def plain (name : String) (sup : Option ClassId) : Class where
  name := name
  kind := .ordinary
  loader := none
  accessFlags := 33
  super := sup
  interfaces := #[]
  cf := none
  fields := #[]
  methods := #[]
  instanceTypes := #[]
  staticTypes := #[]
  resolved := #[]
  callSites := []
  init := .initialized
  statics := none
  mirror := none

def pool0 : Array CpInfo := pool [(5, u "<init>"), (0, u "()V"), (1, .class_ 10), (1, u "java/lang/Object")] 113

def k0c0 : Code := { maxStack := 0, maxLocals := 1, code := object_method_1_code, exceptionTable := #[], attributes := #[] }
def k0m0 : Method := { name := "<init>", desc := "()V", sig := { parameters := [], returnType := none }, accessFlags := 1, code := some k0c0 }
/-- java/lang/Object -/
def k0 : Class := { plain "java/lang/Object" none with
  accessFlags := 33
  interfaces := #[]
  cf := some (fileOf pool0 8 #[] #[{ accessFlags := 1, nameIndex := 5, descriptorIndex := 6, attributes := #[] }] 33 0 #[] #[])
  fields := #[]
  methods := #[k0m0]
  instanceTypes := #[]
  staticTypes := #[]
  resolved := Array.replicate 124 none
  statics := none }

def pool1 : Array CpInfo := pool [(2, .class_ 4), (0, .nameAndType 5 6), (0, u "java/lang/Object"), (0, u "<init>"), (0, u "()V"), (2, .long 9223372036854775807), (1, .methodref 12 13), (0, .class_ 14), (0, .nameAndType 15 16), (0, u "java/lang/Math"), (0, u "max"), (0, u "(JJ)J"), (0, .methodref 18 19), (0, .class_ 20), (0, .nameAndType 21 22), (0, u "com/example/firmline/firmline/analysis/InterferenceNextReleasePinLaw"), (0, u "period"), (0, u "(J)J"), (0, .class_ 24), (0, u "java/util/ArrayList"), (0, .methodref 23 3), (0, .class_ 27), (0, u "com/example/firmline/firmline/model/Task"), (0, .string 29), (0, u "a"), (0, .methodref 26 31), (0, .nameAndType 5 32), (0, u "(Ljava/lang/String;JJJI)V"), (0, .interfaceMethodref 34 35), (0, .class_ 36), (0, .nameAndType 37 38), (0, u "java/util/List"), (0, u "add"), (0, u "(Ljava/lang/Object;)Z"), (0, .string 40), (0, u "b"), (0, .string 42), (0, u "c"), (0, .methodref 44 45), (0, .class_ 46), (0, .nameAndType 47 48), (0, u "com/example/firmline/firmline/analysis/Interference"), (0, u "nextRelease"), (0, u "(Ljava/util/List;J)J"), (0, .methodref 18 50), (0, .nameAndType 51 52), (0, u "quiet"), (0, u "(JJJ)Z"), (0, .methodref 18 54), (0, .nameAndType 55 56), (0, u "beyond"), (0, u "(JJ)Z"), (0, .long 1000000000000000), (3, u "law"), (0, u "(JJJJI)Z")] 3

def k1m0 : Method := { name := "<init>", desc := "()V", sig := { parameters := [], returnType := none }, accessFlags := 2, code := none }
def k1c1 : Code := { maxStack := 11, maxLocals := 24, code := code, exceptionTable := #[], attributes := #[] }
def k1m1 : Method := { name := "law", desc := "(JJJJI)Z", sig := { parameters := [.long, .long, .long, .long, .int], returnType := some .boolean }, accessFlags := 9, code := some k1c1 }
def k1c2 : Code := { maxStack := 4, maxLocals := 2, code := method_3_code, exceptionTable := #[], attributes := #[] }
def k1m2 : Method := { name := "period", desc := "(J)J", sig := { parameters := [.long], returnType := some .long }, accessFlags := 10, code := some k1c2 }
def k1c3 : Code := { maxStack := 6, maxLocals := 6, code := method_4_code, exceptionTable := #[], attributes := #[] }
def k1m3 : Method := { name := "quiet", desc := "(JJJ)Z", sig := { parameters := [.long, .long, .long], returnType := some .boolean }, accessFlags := 10, code := some k1c3 }
def k1c4 : Code := { maxStack := 4, maxLocals := 4, code := method_5_code, exceptionTable := #[], attributes := #[] }
def k1m4 : Method := { name := "beyond", desc := "(JJ)Z", sig := { parameters := [.long, .long], returnType := some .boolean }, accessFlags := 10, code := some k1c4 }
/-- com/example/firmline/firmline/analysis/InterferenceNextReleasePinLaw -/
def k1 : Class := { plain "com/example/firmline/firmline/analysis/InterferenceNextReleasePinLaw" (some 0) with
  accessFlags := 49
  interfaces := #[]
  cf := some (fileOf pool1 18 #[] #[{ accessFlags := 2, nameIndex := 5, descriptorIndex := 6, attributes := #[] }, { accessFlags := 9, nameIndex := 61, descriptorIndex := 62, attributes := #[] }, { accessFlags := 10, nameIndex := 21, descriptorIndex := 22, attributes := #[] }, { accessFlags := 10, nameIndex := 51, descriptorIndex := 52, attributes := #[] }, { accessFlags := 10, nameIndex := 55, descriptorIndex := 56, attributes := #[] }] 49 2 #[] #[])
  fields := #[]
  methods := #[k1m0, k1m1, k1m2, k1m3, k1m4]
  instanceTypes := #[]
  staticTypes := #[]
  resolved := Array.replicate 66 none
  statics := none }

def pool2 : Array CpInfo := pool [(1, .class_ 2), (0, u "java/lang/Math"), (1, .class_ 6), (1, u "java/lang/Object"), (0, u "<init>"), (0, u "()V"), (89, .class_ 100), (1, u "java/lang/Math$RandomNumberGeneratorHolder"), (20, u "(JJ)J"), (50, u "negativeZeroFloatBits"), (0, u "J"), (2, u "negativeZeroDoubleBits"), (21, u "max"), (2, u "min"), (43, u "$assertionsDisabled"), (0, u "Z"), (88, u "(II)I"), (2, u "twoToTheDoubleScaleDown"), (0, u "D"), (4, u "twoToTheDoubleScaleUp"), (9, u "E"), (3, u "PI"), (2, u "TAU"), (2, u "DEGREES_TO_RADIANS"), (0, u "RADIANS_TO_DEGREES")] 94

def k2m0 : Method := { name := "<init>", desc := "()V", sig := { parameters := [], returnType := none }, accessFlags := 2, code := none }
def k2c1 : Code := { maxStack := 2, maxLocals := 2, code := jdk_29_method_65_code, exceptionTable := #[], attributes := #[] }
def k2m1 : Method := { name := "max", desc := "(II)I", sig := { parameters := [.int, .int], returnType := some .int }, accessFlags := 9, code := some k2c1 }
def k2c2 : Code := { maxStack := 4, maxLocals := 4, code := jdk_29_method_66_code, exceptionTable := #[], attributes := #[] }
def k2m2 : Method := { name := "max", desc := "(JJ)J", sig := { parameters := [.long, .long], returnType := some .long }, accessFlags := 9, code := some k2c2 }
def k2c3 : Code := { maxStack := 4, maxLocals := 4, code := jdk_29_method_70_code, exceptionTable := #[], attributes := #[] }
def k2m3 : Method := { name := "min", desc := "(JJ)J", sig := { parameters := [.long, .long], returnType := some .long }, accessFlags := 9, code := some k2c3 }
/-- java/lang/Math -/
def k2 : Class := { plain "java/lang/Math" (some 0) with
  accessFlags := 49
  interfaces := #[]
  cf := some (fileOf pool2 1 #[.nestMembers #[98]] #[{ accessFlags := 2, nameIndex := 7, descriptorIndex := 8, attributes := #[] }, { accessFlags := 9, nameIndex := 198, descriptorIndex := 335, attributes := #[] }, { accessFlags := 9, nameIndex := 198, descriptorIndex := 121, attributes := #[] }, { accessFlags := 9, nameIndex := 201, descriptorIndex := 121, attributes := #[] }] 49 4 #[] #[{ accessFlags := 25, nameIndex := 354, descriptorIndex := 339, attributes := #[] }, { accessFlags := 25, nameIndex := 358, descriptorIndex := 339, attributes := #[] }, { accessFlags := 25, nameIndex := 361, descriptorIndex := 339, attributes := #[] }, { accessFlags := 26, nameIndex := 364, descriptorIndex := 339, attributes := #[] }, { accessFlags := 26, nameIndex := 365, descriptorIndex := 339, attributes := #[] }, { accessFlags := 26, nameIndex := 172, descriptorIndex := 173, attributes := #[] }, { accessFlags := 26, nameIndex := 176, descriptorIndex := 173, attributes := #[] }, { accessFlags := 8, nameIndex := 344, descriptorIndex := 339, attributes := #[] }, { accessFlags := 8, nameIndex := 338, descriptorIndex := 339, attributes := #[] }, { accessFlags := 4120, nameIndex := 245, descriptorIndex := 246, attributes := #[] }])
  fields := #[{ name := "E", type := .double, accessFlags := 25, slot := 0, constantValue := 0 }, { name := "PI", type := .double, accessFlags := 25, slot := 1, constantValue := 0 }, { name := "TAU", type := .double, accessFlags := 25, slot := 2, constantValue := 0 }, { name := "DEGREES_TO_RADIANS", type := .double, accessFlags := 26, slot := 3, constantValue := 0 }, { name := "RADIANS_TO_DEGREES", type := .double, accessFlags := 26, slot := 4, constantValue := 0 }, { name := "negativeZeroFloatBits", type := .long, accessFlags := 26, slot := 5, constantValue := 0 }, { name := "negativeZeroDoubleBits", type := .long, accessFlags := 26, slot := 6, constantValue := 0 }, { name := "twoToTheDoubleScaleUp", type := .double, accessFlags := 8, slot := 7, constantValue := 0 }, { name := "twoToTheDoubleScaleDown", type := .double, accessFlags := 8, slot := 8, constantValue := 0 }, { name := "$assertionsDisabled", type := .boolean, accessFlags := 4120, slot := 9, constantValue := 0 }]
  methods := #[k2m0, k2m1, k2m2, k2m3]
  instanceTypes := #[]
  staticTypes := #[.double, .double, .double, .double, .double, .long, .long, .double, .double, .boolean]
  resolved := Array.replicate 460 none
  statics := none }

def pool3 : Array CpInfo := pool [(8, .class_ 10), (1, u "java/lang/Iterable"), (24, .class_ 36), (0, u "java/lang/Object")] 25

/-- java/lang/Iterable -/
def k3 : Class := { plain "java/lang/Iterable" (some 0) with
  accessFlags := 1537
  interfaces := #[]
  cf := some (fileOf pool3 8 #[] #[] 1537 35 #[] #[])
  fields := #[]
  methods := #[]
  instanceTypes := #[]
  staticTypes := #[]
  resolved := Array.replicate 62 none
  statics := none }

def pool4 : Array CpInfo := pool [(10, .class_ 12), (1, u "java/util/Collection"), (47, .class_ 61), (0, u "java/lang/Object"), (0, .class_ 63), (0, u "java/lang/Iterable")] 51

/-- java/util/Collection -/
def k4 : Class := { plain "java/util/Collection" (some 0) with
  accessFlags := 1537
  interfaces := #[3]
  cf := some (fileOf pool4 10 #[] #[] 1537 60 #[62] #[])
  fields := #[]
  methods := #[]
  instanceTypes := #[]
  staticTypes := #[]
  resolved := Array.replicate 115 none
  statics := none }

def pool5 : Array CpInfo := pool [(1, .methodref 2 3), (0, .class_ 4), (0, .nameAndType 5 6), (0, u "java/lang/Object"), (0, u "<init>"), (0, u "()V"), (1, .class_ 10), (1, u "java/util/AbstractCollection"), (66, .class_ 78), (0, u "java/util/Collection")] 81

def k5c0 : Code := { maxStack := 1, maxLocals := 1, code := jdk_22_method_1_code, exceptionTable := #[], attributes := #[] }
def k5m0 : Method := { name := "<init>", desc := "()V", sig := { parameters := [], returnType := none }, accessFlags := 4, code := some k5c0 }
/-- java/util/AbstractCollection -/
def k5 : Class := { plain "java/util/AbstractCollection" (some 0) with
  accessFlags := 1057
  interfaces := #[4]
  cf := some (fileOf pool5 8 #[] #[{ accessFlags := 4, nameIndex := 5, descriptorIndex := 6, attributes := #[] }] 1057 2 #[77] #[])
  fields := #[]
  methods := #[k5m0]
  instanceTypes := #[]
  staticTypes := #[]
  resolved := Array.replicate 160 none
  statics := none }

def pool6 : Array CpInfo := pool [(8, .class_ 10), (1, u "java/util/SequencedCollection"), (15, .class_ 27), (0, u "java/lang/Object"), (0, .class_ 29), (0, u "java/util/Collection")] 27

/-- java/util/SequencedCollection -/
def k6 : Class := { plain "java/util/SequencedCollection" (some 0) with
  accessFlags := 1537
  interfaces := #[4]
  cf := some (fileOf pool6 8 #[] #[] 1537 26 #[28] #[])
  fields := #[]
  methods := #[]
  instanceTypes := #[]
  staticTypes := #[]
  resolved := Array.replicate 57 none
  statics := none }

def pool7 : Array CpInfo := pool [(8, .class_ 10), (1, u "java/util/List"), (49, u "add"), (3, u "(Ljava/lang/Object;)Z"), (38, .class_ 104), (0, u "java/lang/Object"), (15, .class_ 121), (0, u "java/util/SequencedCollection"), (1, u "iterator"), (0, u "()Ljava/util/Iterator;")] 126

def k7m0 : Method := { name := "iterator", desc := "()Ljava/util/Iterator;", sig := { parameters := [], returnType := some (.object "java/util/Iterator") }, accessFlags := 1025, code := none }
def k7m1 : Method := { name := "add", desc := "(Ljava/lang/Object;)Z", sig := { parameters := [(.object "java/lang/Object")], returnType := some .boolean }, accessFlags := 1025, code := none }
/-- java/util/List -/
def k7 : Class := { plain "java/util/List" (some 0) with
  accessFlags := 1537
  interfaces := #[6]
  cf := some (fileOf pool7 8 #[] #[{ accessFlags := 1025, nameIndex := 123, descriptorIndex := 124, attributes := #[] }, { accessFlags := 1025, nameIndex := 60, descriptorIndex := 64, attributes := #[] }] 1537 103 #[120] #[])
  fields := #[]
  methods := #[k7m0, k7m1]
  instanceTypes := #[]
  staticTypes := #[]
  resolved := Array.replicate 251 none
  statics := none }

def pool8 : Array CpInfo := pool [(1, .methodref 2 3), (0, .class_ 4), (0, .nameAndType 5 6), (0, u "java/util/AbstractCollection"), (0, u "<init>"), (0, u "()V"), (0, .fieldref 8 9), (0, .class_ 10), (0, .nameAndType 11 12), (0, u "java/util/AbstractList"), (0, u "modCount"), (0, u "I"), (64, .class_ 78), (0, u "java/util/AbstractList$Itr"), (3, .class_ 83), (0, u "java/util/AbstractList$ListItr"), (9, .class_ 94), (0, u "java/util/AbstractList$RandomAccessSubList"), (3, .class_ 99), (0, u "java/util/AbstractList$SubList"), (33, .class_ 134), (0, u "java/util/List"), (73, .class_ 209), (0, u "java/util/AbstractList$SubList$1"), (0, .class_ 211), (0, u "java/util/AbstractList$RandomAccessSpliterator")] 6

def k8c0 : Code := { maxStack := 2, maxLocals := 1, code := jdk_39_method_1_code, exceptionTable := #[], attributes := #[] }
def k8m0 : Method := { name := "<init>", desc := "()V", sig := { parameters := [], returnType := none }, accessFlags := 4, code := some k8c0 }
/-- java/util/AbstractList -/
def k8 : Class := { plain "java/util/AbstractList" (some 5) with
  accessFlags := 1057
  interfaces := #[7]
  cf := some (fileOf pool8 8 #[.nestMembers #[93, 98, 208, 210, 82, 77]] #[{ accessFlags := 4, nameIndex := 5, descriptorIndex := 6, attributes := #[] }] 1057 2 #[133] #[{ accessFlags := 132, nameIndex := 11, descriptorIndex := 12, attributes := #[] }])
  fields := #[{ name := "modCount", type := .int, accessFlags := 132, slot := 0, constantValue := 0 }]
  methods := #[k8m0]
  instanceTypes := #[.int]
  staticTypes := #[]
  resolved := Array.replicate 218 none
  statics := none }

def pool9 : Array CpInfo := pool [(1, .class_ 2), (0, u "java/util/RandomAccess"), (0, .class_ 4), (0, u "java/lang/Object")] 2

/-- java/util/RandomAccess -/
def k9 : Class := { plain "java/util/RandomAccess" (some 0) with
  accessFlags := 1537
  interfaces := #[]
  cf := some (fileOf pool9 1 #[] #[] 1537 3 #[] #[])
  fields := #[]
  methods := #[]
  instanceTypes := #[]
  staticTypes := #[]
  resolved := Array.replicate 7 none
  statics := none }

def pool10 : Array CpInfo := pool [(1, .class_ 2), (0, u "java/lang/Cloneable"), (0, .class_ 4), (0, u "java/lang/Object")] 2

/-- java/lang/Cloneable -/
def k10 : Class := { plain "java/lang/Cloneable" (some 0) with
  accessFlags := 1537
  interfaces := #[]
  cf := some (fileOf pool10 1 #[] #[] 1537 3 #[] #[])
  fields := #[]
  methods := #[]
  instanceTypes := #[]
  staticTypes := #[]
  resolved := Array.replicate 7 none
  statics := none }

def pool11 : Array CpInfo := pool [(1, .class_ 2), (0, u "java/io/Serializable"), (0, .class_ 4), (0, u "java/lang/Object")] 2

/-- java/io/Serializable -/
def k11 : Class := { plain "java/io/Serializable" (some 0) with
  accessFlags := 1537
  interfaces := #[]
  cf := some (fileOf pool11 1 #[] #[] 1537 3 #[] #[])
  fields := #[]
  methods := #[]
  instanceTypes := #[]
  staticTypes := #[]
  resolved := Array.replicate 7 none
  statics := none }

def pool12 : Array CpInfo := pool [(1, .methodref 2 3), (0, .class_ 4), (0, .nameAndType 5 6), (0, u "java/util/AbstractList"), (0, u "<init>"), (0, u "()V"), (0, .class_ 8), (0, u "java/lang/Object"), (0, .fieldref 10 11), (0, .class_ 12), (0, .nameAndType 13 14), (0, u "java/util/ArrayList"), (0, u "elementData"), (0, u "[Ljava/lang/Object;"), (2, u "EMPTY_ELEMENTDATA"), (21, .fieldref 10 40), (0, .nameAndType 41 14), (0, u "DEFAULTCAPACITY_EMPTY_ELEMENTDATA"), (5, u "()[Ljava/lang/Object;"), (0, .fieldref 10 49), (0, .nameAndType 50 51), (0, u "size"), (0, u "I"), (11, .fieldref 10 64), (0, .nameAndType 65 51), (0, u "modCount"), (3, .methodref 10 70), (0, .nameAndType 71 72), (0, u "grow"), (0, u "(I)[Ljava/lang/Object;"), (6, .methodref 80 81), (0, .class_ 82), (0, .nameAndType 83 84), (0, u "java/lang/Math"), (0, u "max"), (0, u "(II)I"), (11, u "(Ljava/lang/Object;)Z"), (32, .methodref 10 130), (0, .nameAndType 71 47), (0, .methodref 10 132), (0, .nameAndType 133 134), (0, u "add"), (0, u "(Ljava/lang/Object;[Ljava/lang/Object;I)V"), (13, .class_ 149), (0, u "java/util/List"), (16, u "iterator"), (0, u "()Ljava/util/Iterator;"), (94, .class_ 263), (0, u "java/util/ArrayList$ListItr"), (3, .class_ 268), (0, u "java/util/ArrayList$Itr"), (0, .methodref 267 270), (0, .nameAndType 5 271), (0, u "(Ljava/util/ArrayList;)V"), (4, .class_ 277), (0, u "java/util/ArrayList$SubList"), (12, .class_ 291), (0, u "java/util/ArrayList$ArrayListSpliterator"), (37, .class_ 330), (0, u "java/util/RandomAccess"), (0, .class_ 332), (0, u "java/lang/Cloneable"), (0, .class_ 334), (0, u "java/io/Serializable"), (0, u "serialVersionUID"), (0, u "J"), (3, u "DEFAULT_CAPACITY"), (159, .class_ 501), (0, u "java/util/ArrayList$SubList$2"), (0, .class_ 503), (0, u "java/util/ArrayList$SubList$1")] 5

def k12c0 : Code := { maxStack := 2, maxLocals := 1, code := jdk_38_method_2_code, exceptionTable := #[], attributes := #[] }
def k12m0 : Method := { name := "<init>", desc := "()V", sig := { parameters := [], returnType := none }, accessFlags := 1, code := some k12c0 }
def k12c1 : Code := { maxStack := 4, maxLocals := 4, code := jdk_38_method_6_code, exceptionTable := #[], attributes := #[] }
def k12m1 : Method := { name := "grow", desc := "(I)[Ljava/lang/Object;", sig := { parameters := [.int], returnType := some (.array (.object "java/lang/Object")) }, accessFlags := 2, code := some k12c1 }
def k12c2 : Code := { maxStack := 3, maxLocals := 1, code := jdk_38_method_7_code, exceptionTable := #[], attributes := #[] }
def k12m2 : Method := { name := "grow", desc := "()[Ljava/lang/Object;", sig := { parameters := [], returnType := some (.array (.object "java/lang/Object")) }, accessFlags := 2, code := some k12c2 }
def k12c3 : Code := { maxStack := 3, maxLocals := 4, code := jdk_38_method_24_code, exceptionTable := #[], attributes := #[] }
def k12m3 : Method := { name := "add", desc := "(Ljava/lang/Object;[Ljava/lang/Object;I)V", sig := { parameters := [(.object "java/lang/Object"), (.array (.object "java/lang/Object")), .int], returnType := none }, accessFlags := 2, code := some k12c3 }
def k12c4 : Code := { maxStack := 4, maxLocals := 2, code := jdk_38_method_25_code, exceptionTable := #[], attributes := #[] }
def k12m4 : Method := { name := "add", desc := "(Ljava/lang/Object;)Z", sig := { parameters := [(.object "java/lang/Object")], returnType := some .boolean }, accessFlags := 1, code := some k12c4 }
def k12c5 : Code := { maxStack := 3, maxLocals := 1, code := jdk_38_method_55_code, exceptionTable := #[], attributes := #[] }
def k12m5 : Method := { name := "iterator", desc := "()Ljava/util/Iterator;", sig := { parameters := [], returnType := some (.object "java/util/Iterator") }, accessFlags := 1, code := some k12c5 }
/-- java/util/ArrayList -/
def k12 : Class := { plain "java/util/ArrayList" (some 8) with
  accessFlags := 33
  interfaces := #[7, 9, 10, 11]
  cf := some (fileOf pool12 10 #[.nestMembers #[290, 276, 500, 502, 262, 267]] #[{ accessFlags := 1, nameIndex := 5, descriptorIndex := 6, attributes := #[] }, { accessFlags := 2, nameIndex := 71, descriptorIndex := 72, attributes := #[] }, { accessFlags := 2, nameIndex := 71, descriptorIndex := 47, attributes := #[] }, { accessFlags := 2, nameIndex := 133, descriptorIndex := 134, attributes := #[] }, { accessFlags := 1, nameIndex := 133, descriptorIndex := 96, attributes := #[] }, { accessFlags := 1, nameIndex := 166, descriptorIndex := 167, attributes := #[] }] 33 2 #[148, 329, 331, 333] #[{ accessFlags := 26, nameIndex := 335, descriptorIndex := 336, attributes := #[] }, { accessFlags := 26, nameIndex := 340, descriptorIndex := 51, attributes := #[] }, { accessFlags := 26, nameIndex := 17, descriptorIndex := 14, attributes := #[] }, { accessFlags := 26, nameIndex := 41, descriptorIndex := 14, attributes := #[] }, { accessFlags := 128, nameIndex := 13, descriptorIndex := 14, attributes := #[] }, { accessFlags := 2, nameIndex := 50, descriptorIndex := 51, attributes := #[] }])
  fields := #[{ name := "serialVersionUID", type := .long, accessFlags := 26, slot := 0, constantValue := 0 }, { name := "DEFAULT_CAPACITY", type := .int, accessFlags := 26, slot := 1, constantValue := 0 }, { name := "EMPTY_ELEMENTDATA", type := (.array (.object "java/lang/Object")), accessFlags := 26, slot := 2, constantValue := 0 }, { name := "DEFAULTCAPACITY_EMPTY_ELEMENTDATA", type := (.array (.object "java/lang/Object")), accessFlags := 26, slot := 3, constantValue := 0 }, { name := "elementData", type := (.array (.object "java/lang/Object")), accessFlags := 128, slot := 1, constantValue := 0 }, { name := "size", type := .int, accessFlags := 2, slot := 2, constantValue := 0 }]
  methods := #[k12m0, k12m1, k12m2, k12m3, k12m4, k12m5]
  instanceTypes := #[.int, (.array (.object "java/lang/Object")), .int]
  staticTypes := #[.long, .int, (.array (.object "java/lang/Object")), (.array (.object "java/lang/Object"))]
  resolved := Array.replicate 509 none
  statics := some 0 }

def pool13 : Array CpInfo := pool [(1, .methodref 2 3), (0, .class_ 4), (0, .nameAndType 5 6), (0, u "java/lang/Object"), (0, u "<init>"), (0, u "()V"), (0, .class_ 8), (0, u "java/lang/Record")] 13

def k13c0 : Code := { maxStack := 1, maxLocals := 1, code := jdk_30_method_1_code, exceptionTable := #[], attributes := #[] }
def k13m0 : Method := { name := "<init>", desc := "()V", sig := { parameters := [], returnType := none }, accessFlags := 4, code := some k13c0 }
/-- java/lang/Record -/
def k13 : Class := { plain "java/lang/Record" (some 0) with
  accessFlags := 1057
  interfaces := #[]
  cf := some (fileOf pool13 7 #[] #[{ accessFlags := 4, nameIndex := 5, descriptorIndex := 6, attributes := #[] }] 1057 2 #[] #[])
  fields := #[]
  methods := #[k13m0]
  instanceTypes := #[]
  staticTypes := #[]
  resolved := Array.replicate 22 none
  statics := none }

def pool14 : Array CpInfo := pool [(1, .methodref 2 3), (0, .class_ 4), (0, .nameAndType 5 6), (0, u "java/lang/Record"), (0, u "<init>"), (0, u "()V"), (0, .methodref 8 9), (0, .class_ 10), (0, .nameAndType 11 12), (0, u "com/example/firmline/firmline/model/Task"), (0, u "checkName"), (0, u "(Ljava/lang/String;)V"), (0, .string 14), (0, u "period"), (0, .methodref 8 16), (0, .nameAndType 17 18), (0, u "checkTime"), (0, u "(Ljava/lang/String;J)V"), (0, .string 20), (0, u "deadline"), (0, .string 22), (0, u "cost"), (0, .methodref 8 24), (0, .nameAndType 25 26), (0, u "checkPriority"), (0, u "(J)V"), (0, .string 28), (0, u "recovery"), (0, .fieldref 8 30), (0, .nameAndType 31 32), (0, u "name"), (0, u "Ljava/lang/String;"), (0, .fieldref 8 34), (0, .nameAndType 14 35), (0, u "J"), (0, .fieldref 8 37), (0, .nameAndType 20 35), (0, .fieldref 8 39), (0, .nameAndType 22 35), (0, .fieldref 8 41), (0, .nameAndType 42 43), (0, u "priority"), (0, u "I"), (0, .fieldref 8 45), (0, .nameAndType 28 35), (0, .methodref 8 47), (0, .nameAndType 5 48), (0, u "(Ljava/lang/String;JJJIJ)V"), (0, .long 1000000000000000), (9, .long 1000000000), (4, .methodref 65 66), (0, .class_ 67), (0, .nameAndType 68 69), (0, u "java/lang/String"), (0, u "isEmpty"), (0, u "()Z"), (0, .methodref 65 71), (0, .nameAndType 72 73), (0, u "length"), (0, u "()I"), (2, .methodref 65 77), (0, .nameAndType 78 79), (0, u "charAt"), (0, u "(I)C"), (14, u "MAX_TIME"), (1, u "MAX_PRIORITY"), (1, u "MAX_NAME_LENGTH"), (4, u "(Ljava/lang/String;JJJI)V"), (0, u "releasesBefore"), (0, u "(JJ)J"), (3, u "()J")] 35

def k14c0 : Code := { maxStack := 3, maxLocals := 11, code := prog_18_method_1_code, exceptionTable := #[], attributes := #[] }
def k14m0 : Method := { name := "<init>", desc := "(Ljava/lang/String;JJJIJ)V", sig := { parameters := [(.object "java/lang/String"), .long, .long, .long, .int, .long], returnType := none }, accessFlags := 1, code := some k14c0 }
def k14c1 : Code := { maxStack := 11, maxLocals := 9, code := prog_18_method_2_code, exceptionTable := #[], attributes := #[] }
def k14m1 : Method := { name := "<init>", desc := "(Ljava/lang/String;JJJI)V", sig := { parameters := [(.object "java/lang/String"), .long, .long, .long, .int], returnType := none }, accessFlags := 1, code := some k14c1 }
def k14c2 : Code := { maxStack := 4, maxLocals := 4, code := prog_18_method_3_code, exceptionTable := #[], attributes := #[] }
def k14m2 : Method := { name := "releasesBefore", desc := "(JJ)J", sig := { parameters := [.long, .long], returnType := some .long }, accessFlags := 9, code := some k14c2 }
def k14c3 : Code := { maxStack := 5, maxLocals := 3, code := prog_18_method_4_code, exceptionTable := #[], attributes := #[] }
def k14m3 : Method := { name := "checkTime", desc := "(Ljava/lang/String;J)V", sig := { parameters := [(.object "java/lang/String"), .long], returnType := none }, accessFlags := 10, code := some k14c3 }
def k14c4 : Code := { maxStack := 4, maxLocals := 2, code := prog_18_method_5_code, exceptionTable := #[], attributes := #[] }
def k14m4 : Method := { name := "checkPriority", desc := "(J)V", sig := { parameters := [.long], returnType := none }, accessFlags := 8, code := some k14c4 }
def k14c5 : Code := { maxStack := 3, maxLocals := 4, code := prog_18_method_6_code, exceptionTable := #[], attributes := #[] }
def k14m5 : Method := { name := "checkName", desc := "(Ljava/lang/String;)V", sig := { parameters := [(.object "java/lang/String")], returnType := none }, accessFlags := 10, code := some k14c5 }
def k14c6 : Code := { maxStack := 2, maxLocals := 1, code := prog_18_method_11_code, exceptionTable := #[], attributes := #[] }
def k14m6 : Method := { name := "period", desc := "()J", sig := { parameters := [], returnType := some .long }, accessFlags := 1, code := some k14c6 }
/-- com/example/firmline/firmline/model/Task -/
def k14 : Class := { plain "com/example/firmline/firmline/model/Task" (some 13) with
  accessFlags := 49
  interfaces := #[]
  cf := some (fileOf pool14 8 #[] #[{ accessFlags := 1, nameIndex := 5, descriptorIndex := 48, attributes := #[] }, { accessFlags := 1, nameIndex := 5, descriptorIndex := 103, attributes := #[] }, { accessFlags := 9, nameIndex := 104, descriptorIndex := 105, attributes := #[] }, { accessFlags := 10, nameIndex := 17, descriptorIndex := 18, attributes := #[] }, { accessFlags := 8, nameIndex := 25, descriptorIndex := 26, attributes := #[] }, { accessFlags := 10, nameIndex := 11, descriptorIndex := 12, attributes := #[] }, { accessFlags := 1, nameIndex := 14, descriptorIndex := 109, attributes := #[] }] 49 2 #[] #[{ accessFlags := 18, nameIndex := 31, descriptorIndex := 32, attributes := #[] }, { accessFlags := 18, nameIndex := 14, descriptorIndex := 35, attributes := #[] }, { accessFlags := 18, nameIndex := 20, descriptorIndex := 35, attributes := #[] }, { accessFlags := 18, nameIndex := 22, descriptorIndex := 35, attributes := #[] }, { accessFlags := 18, nameIndex := 42, descriptorIndex := 43, attributes := #[] }, { accessFlags := 18, nameIndex := 28, descriptorIndex := 35, attributes := #[] }, { accessFlags := 25, nameIndex := 94, descriptorIndex := 35, attributes := #[] }, { accessFlags := 25, nameIndex := 96, descriptorIndex := 43, attributes := #[] }, { accessFlags := 25, nameIndex := 98, descriptorIndex := 43, attributes := #[] }])
  fields := #[{ name := "name", type := (.object "java/lang/String"), accessFlags := 18, slot := 0, constantValue := 0 }, { name := "period", type := .long, accessFlags := 18, slot := 1, constantValue := 0 }, { name := "deadline", type := .long, accessFlags := 18, slot := 2, constantValue := 0 }, { name := "cost", type := .long, accessFlags := 18, slot := 3, constantValue := 0 }, { name := "priority", type := .int, accessFlags := 18, slot := 4, constantValue := 0 }, { name := "recovery", type := .long, accessFlags := 18, slot := 5, constantValue := 0 }, { name := "MAX_TIME", type := .long, accessFlags := 25, slot := 0, constantValue := 0 }, { name := "MAX_PRIORITY", type := .int, accessFlags := 25, slot := 1, constantValue := 0 }, { name := "MAX_NAME_LENGTH", type := .int, accessFlags := 25, slot := 2, constantValue := 0 }]
  methods := #[k14m0, k14m1, k14m2, k14m3, k14m4, k14m5, k14m6]
  instanceTypes := #[(.object "java/lang/String"), .long, .long, .long, .int, .long]
  staticTypes := #[.long, .int, .int]
  resolved := Array.replicate 145 none
  statics := none }

def pool15 : Array CpInfo := pool [(1, .class_ 2), (0, u "java/lang/Comparable"), (0, .class_ 4), (0, u "java/lang/Object")] 7

/-- java/lang/Comparable -/
def k15 : Class := { plain "java/lang/Comparable" (some 0) with
  accessFlags := 1537
  interfaces := #[]
  cf := some (fileOf pool15 1 #[] #[] 1537 3 #[] #[])
  fields := #[]
  methods := #[]
  instanceTypes := #[]
  staticTypes := #[]
  resolved := Array.replicate 12 none
  statics := none }

def pool16 : Array CpInfo := pool [(2, .class_ 4), (1, u "java/lang/CharSequence"), (42, .class_ 48), (0, u "java/lang/CharSequence$1CodePointIterator"), (10, .class_ 60), (0, u "java/lang/CharSequence$1CharIterator"), (5, .class_ 67), (0, u "java/lang/Object")] 63

/-- java/lang/CharSequence -/
def k16 : Class := { plain "java/lang/CharSequence" (some 0) with
  accessFlags := 1537
  interfaces := #[]
  cf := some (fileOf pool16 2 #[.nestMembers #[47, 59]] #[] 1537 66 #[] #[])
  fields := #[]
  methods := #[]
  instanceTypes := #[]
  staticTypes := #[]
  resolved := Array.replicate 131 none
  statics := none }

def pool17 : Array CpInfo := pool [(1, .class_ 2), (0, u "java/lang/constant/Constable"), (0, .class_ 4), (0, u "java/lang/Object")] 6

/-- java/lang/constant/Constable -/
def k17 : Class := { plain "java/lang/constant/Constable" (some 0) with
  accessFlags := 1537
  interfaces := #[]
  cf := some (fileOf pool17 1 #[] #[] 1537 3 #[] #[])
  fields := #[]
  methods := #[]
  instanceTypes := #[]
  staticTypes := #[]
  resolved := Array.replicate 11 none
  statics := none }

def pool18 : Array CpInfo := pool [(1, .class_ 2), (0, u "java/lang/constant/ConstantDesc"), (0, .class_ 4), (0, u "java/lang/Object")] 32

/-- java/lang/constant/ConstantDesc -/
def k18 : Class := { plain "java/lang/constant/ConstantDesc" (some 0) with
  accessFlags := 1537
  interfaces := #[]
  cf := some (fileOf pool18 1 #[] #[] 1537 3 #[] #[])
  fields := #[]
  methods := #[]
  instanceTypes := #[]
  staticTypes := #[]
  resolved := Array.replicate 37 none
  statics := none }

def pool19 : Array CpInfo := pool [(2, .class_ 4), (1, u "java/lang/Object"), (0, u "<init>"), (0, u "()V"), (2, .fieldref 10 11), (0, .class_ 12), (0, .nameAndType 13 14), (0, u "java/lang/String"), (0, u "value"), (0, u "[B"), (0, .fieldref 10 16), (0, .nameAndType 17 18), (0, u "coder"), (0, u "B"), (2, u "hash"), (0, u "I"), (2, u "hashIsZero"), (0, u "Z"), (11, .fieldref 10 39), (0, .nameAndType 40 26), (0, u "COMPACT_STRINGS"), (66, .class_ 109), (1, u "java/lang/StringLatin1"), (32, u "()Z"), (191, u "()I"), (0, .methodref 10 336), (0, .nameAndType 17 337), (0, u "()B"), (25, u "([BI)C"), (27, u "(II)V"), (35, u "(I)C"), (64, .methodref 10 493), (0, .nameAndType 494 142), (0, u "isLatin1"), (0, .methodref 107 496), (0, .nameAndType 497 363), (0, u "charAt"), (3, u "checkIndex"), (5, u "length"), (67, .class_ 576), (0, u "java/lang/CharSequence"), (22, u "CASE_INSENSITIVE_ORDER"), (0, u "Ljava/util/Comparator;"), (91, u "isEmpty"), (360, .fieldref 1054 1055), (0, .class_ 1056), (0, .nameAndType 1057 1058), (0, u "jdk/internal/util/Preconditions"), (0, u "SIOOBE_FORMATTER"), (0, u "Ljava/util/function/BiFunction;"), (0, .methodref 1054 1060), (0, .nameAndType 501 1061), (0, u "(IILjava/util/function/BiFunction;)I"), (39, u "serialPersistentFields"), (0, u "[Ljava/io/ObjectStreamField;"), (0, .class_ 1104), (0, u "java/lang/String$CaseInsensitiveComparator"), (1, .class_ 1107), (0, u "java/io/Serializable"), (0, .class_ 1109), (0, u "java/lang/Comparable"), (0, .class_ 1111), (0, u "java/lang/constant/Constable"), (0, .class_ 1113), (0, u "java/lang/constant/ConstantDesc"), (2, u "serialVersionUID"), (0, u "J"), (3, u "REPL"), (0, u "C"), (2, u "LATIN1"), (1, u "UTF16")] 323

def k19m0 : Method := { name := "<init>", desc := "()V", sig := { parameters := [], returnType := none }, accessFlags := 1, code := none }
def k19c1 : Code := { maxStack := 2, maxLocals := 1, code := jdk_42_method_54_code, exceptionTable := #[], attributes := #[] }
def k19m1 : Method := { name := "length", desc := "()I", sig := { parameters := [], returnType := some .int }, accessFlags := 1, code := some k19c1 }
def k19c2 : Code := { maxStack := 1, maxLocals := 1, code := jdk_42_method_55_code, exceptionTable := #[], attributes := #[] }
def k19m2 : Method := { name := "isEmpty", desc := "()Z", sig := { parameters := [], returnType := some .boolean }, accessFlags := 1, code := some k19c2 }
def k19c3 : Code := { maxStack := 2, maxLocals := 2, code := jdk_42_method_56_code, exceptionTable := #[], attributes := #[] }
def k19m3 : Method := { name := "charAt", desc := "(I)C", sig := { parameters := [.int], returnType := some .char }, accessFlags := 1, code := some k19c3 }
def k19c4 : Code := { maxStack := 1, maxLocals := 1, code := jdk_42_method_152_code, exceptionTable := #[], attributes := #[] }
def k19m4 : Method := { name := "coder", desc := "()B", sig := { parameters := [], returnType := some .byte }, accessFlags := 0, code := some k19c4 }
def k19c5 : Code := { maxStack := 1, maxLocals := 1, code := jdk_42_method_154_code, exceptionTable := #[], attributes := #[] }
def k19m5 : Method := { name := "isLatin1", desc := "()Z", sig := { parameters := [], returnType := some .boolean }, accessFlags := 0, code := some k19c5 }
def k19c6 : Code := { maxStack := 3, maxLocals := 2, code := jdk_42_method_155_code, exceptionTable := #[], attributes := #[] }
def k19m6 : Method := { name := "checkIndex", desc := "(II)V", sig := { parameters := [.int, .int], returnType := none }, accessFlags := 8, code := some k19c6 }
/-- java/lang/String -/
def k19 : Class := { plain "java/lang/String" (some 0) with
  accessFlags := 49
  interfaces := #[11, 15, 16, 17, 18]
  cf := some (fileOf pool19 10 #[.nestMembers #[1103]] #[{ accessFlags := 1, nameIndex := 5, descriptorIndex := 6, attributes := #[] }, { accessFlags := 1, nameIndex := 507, descriptorIndex := 334, attributes := #[] }, { accessFlags := 1, nameIndex := 692, descriptorIndex := 142, attributes := #[] }, { accessFlags := 1, nameIndex := 497, descriptorIndex := 427, attributes := #[] }, { accessFlags := 0, nameIndex := 17, descriptorIndex := 337, attributes := #[] }, { accessFlags := 0, nameIndex := 494, descriptorIndex := 142, attributes := #[] }, { accessFlags := 8, nameIndex := 501, descriptorIndex := 391, attributes := #[] }] 49 2 #[1106, 1108, 575, 1110, 1112] #[{ accessFlags := 18, nameIndex := 13, descriptorIndex := 14, attributes := #[] }, { accessFlags := 18, nameIndex := 17, descriptorIndex := 18, attributes := #[] }, { accessFlags := 2, nameIndex := 21, descriptorIndex := 22, attributes := #[] }, { accessFlags := 2, nameIndex := 25, descriptorIndex := 26, attributes := #[] }, { accessFlags := 26, nameIndex := 1116, descriptorIndex := 1117, attributes := #[] }, { accessFlags := 24, nameIndex := 40, descriptorIndex := 26, attributes := #[] }, { accessFlags := 26, nameIndex := 1101, descriptorIndex := 1102, attributes := #[] }, { accessFlags := 26, nameIndex := 1121, descriptorIndex := 1122, attributes := #[] }, { accessFlags := 25, nameIndex := 599, descriptorIndex := 600, attributes := #[] }, { accessFlags := 24, nameIndex := 1125, descriptorIndex := 18, attributes := #[] }, { accessFlags := 24, nameIndex := 1127, descriptorIndex := 18, attributes := #[] }])
  fields := #[{ name := "value", type := (.array .byte), accessFlags := 18, slot := 0, constantValue := 0 }, { name := "coder", type := .byte, accessFlags := 18, slot := 1, constantValue := 0 }, { name := "hash", type := .int, accessFlags := 2, slot := 2, constantValue := 0 }, { name := "hashIsZero", type := .boolean, accessFlags := 2, slot := 3, constantValue := 0 }, { name := "serialVersionUID", type := .long, accessFlags := 26, slot := 0, constantValue := 0 }, { name := "COMPACT_STRINGS", type := .boolean, accessFlags := 24, slot := 1, constantValue := 0 }, { name := "serialPersistentFields", type := (.array (.object "java/io/ObjectStreamField")), accessFlags := 26, slot := 2, constantValue := 0 }, { name := "REPL", type := .char, accessFlags := 26, slot := 3, constantValue := 0 }, { name := "CASE_INSENSITIVE_ORDER", type := (.object "java/util/Comparator"), accessFlags := 25, slot := 4, constantValue := 0 }, { name := "LATIN1", type := .byte, accessFlags := 24, slot := 5, constantValue := 0 }, { name := "UTF16", type := .byte, accessFlags := 24, slot := 6, constantValue := 0 }]
  methods := #[k19m0, k19m1, k19m2, k19m3, k19m4, k19m5, k19m6]
  instanceTypes := #[(.array .byte), .byte, .int, .boolean]
  staticTypes := #[.long, .boolean, (.array (.object "java/io/ObjectStreamField")), .char, (.object "java/util/Comparator"), .byte, .byte]
  resolved := Array.replicate 1451 none
  statics := some 1 }

def pool20 : Array CpInfo := pool [(1, .class_ 2), (0, u "java/lang/String"), (1, .class_ 6), (1, u "java/lang/Object"), (0, u "<init>"), (0, u "()V"), (0, .methodref 1 10), (0, .nameAndType 11 12), (0, u "checkIndex"), (0, u "(II)V"), (1, .class_ 16), (1, u "java/lang/StringLatin1"), (36, u "([BI)C"), (67, u "$assertionsDisabled"), (0, u "Z"), (98, .class_ 223), (1, u "java/lang/StringLatin1$LinesSpliterator"), (28, u "charAt"), (137, .class_ 391), (0, u "java/lang/StringLatin1$CharsSpliterator")] 3

def k20m0 : Method := { name := "<init>", desc := "()V", sig := { parameters := [], returnType := none }, accessFlags := 0, code := none }
def k20c1 : Code := { maxStack := 2, maxLocals := 2, code := jdk_43_method_2_code, exceptionTable := #[], attributes := #[] }
def k20m1 : Method := { name := "charAt", desc := "([BI)C", sig := { parameters := [(.array .byte), .int], returnType := some .char }, accessFlags := 9, code := some k20c1 }
/-- java/lang/StringLatin1 -/
def k20 : Class := { plain "java/lang/StringLatin1" (some 0) with
  accessFlags := 48
  interfaces := #[]
  cf := some (fileOf pool20 14 #[.nestMembers #[390, 221]] #[{ accessFlags := 0, nameIndex := 7, descriptorIndex := 8, attributes := #[] }, { accessFlags := 9, nameIndex := 252, descriptorIndex := 53, attributes := #[] }] 48 4 #[] #[{ accessFlags := 4120, nameIndex := 121, descriptorIndex := 122, attributes := #[] }])
  fields := #[{ name := "$assertionsDisabled", type := .boolean, accessFlags := 4120, slot := 0, constantValue := 0 }]
  methods := #[k20m0, k20m1]
  instanceTypes := #[]
  staticTypes := #[.boolean]
  resolved := Array.replicate 395 none
  statics := none }

def pool21 : Array CpInfo := pool [(2, .class_ 4), (1, u "java/lang/Object"), (0, u "<init>"), (0, u "()V"), (17, .class_ 26), (1, u "jdk/internal/util/Preconditions"), (6, u "checkIndex"), (21, .class_ 56), (0, u "jdk/internal/util/Preconditions$4"), (57, .class_ 115), (0, u "jdk/internal/util/Preconditions$1"), (7, u "SIOOBE_FORMATTER"), (0, u "Ljava/util/function/BiFunction;"), (0, .class_ 126), (0, u "jdk/internal/util/Preconditions$2"), (3, u "AIOOBE_FORMATTER"), (0, .class_ 132), (0, u "jdk/internal/util/Preconditions$3"), (3, u "IOOBE_FORMATTER"), (41, u "(IILjava/util/function/BiFunction;)I")] 15

def k21m0 : Method := { name := "<init>", desc := "()V", sig := { parameters := [], returnType := none }, accessFlags := 1, code := none }
def k21c1 : Code := { maxStack := 3, maxLocals := 3, code := jdk_41_method_11_code, exceptionTable := #[], attributes := #[] }
def k21m1 : Method := { name := "checkIndex", desc := "(IILjava/util/function/BiFunction;)I", sig := { parameters := [.int, .int, (.object "java/util/function/BiFunction")], returnType := some .int }, accessFlags := 9, code := some k21c1 }
/-- jdk/internal/util/Preconditions -/
def k21 : Class := { plain "jdk/internal/util/Preconditions" (some 0) with
  accessFlags := 33
  interfaces := #[]
  cf := some (fileOf pool21 24 #[.nestMembers #[55, 131, 125, 114]] #[{ accessFlags := 1, nameIndex := 5, descriptorIndex := 6, attributes := #[] }, { accessFlags := 9, nameIndex := 33, descriptorIndex := 178, attributes := #[] }] 33 2 #[] #[{ accessFlags := 25, nameIndex := 123, descriptorIndex := 124, attributes := #[] }, { accessFlags := 25, nameIndex := 130, descriptorIndex := 124, attributes := #[] }, { accessFlags := 25, nameIndex := 136, descriptorIndex := 124, attributes := #[] }])
  fields := #[{ name := "SIOOBE_FORMATTER", type := (.object "java/util/function/BiFunction"), accessFlags := 25, slot := 0, constantValue := 0 }, { name := "AIOOBE_FORMATTER", type := (.object "java/util/function/BiFunction"), accessFlags := 25, slot := 1, constantValue := 0 }, { name := "IOOBE_FORMATTER", type := (.object "java/util/function/BiFunction"), accessFlags := 25, slot := 2, constantValue := 0 }]
  methods := #[k21m0, k21m1]
  instanceTypes := #[]
  staticTypes := #[(.object "java/util/function/BiFunction"), (.object "java/util/function/BiFunction"), (.object "java/util/function/BiFunction")]
  resolved := Array.replicate 194 none
  statics := some 2 }

def pool22 : Array CpInfo := pool [(2, .class_ 4), (1, u "java/lang/Object"), (0, u "<init>"), (0, u "()V"), (1, .class_ 10), (1, u "java/util/List"), (2, .class_ 14), (0, u "com/example/firmline/firmline/model/Task"), (48, .class_ 65), (1, u "com/example/firmline/firmline/analysis/Interference"), (5, .interfaceMethodref 8 72), (0, .nameAndType 73 74), (0, u "iterator"), (0, u "()Ljava/util/Iterator;"), (0, .interfaceMethodref 76 77), (0, .class_ 78), (0, .nameAndType 79 80), (0, u "java/util/Iterator"), (0, u "hasNext"), (0, u "()Z"), (0, .interfaceMethodref 76 82), (0, .nameAndType 83 84), (0, u "next"), (0, u "()Ljava/lang/Object;"), (0, .methodref 13 86), (0, .nameAndType 87 88), (0, u "period"), (0, u "()J"), (0, .methodref 13 90), (0, .nameAndType 91 92), (0, u "releasesBefore"), (0, u "(JJ)J"), (4, .class_ 99), (1, u "java/lang/Math"), (6, .long 9223372036854775807), (1, .methodref 63 109), (0, .nameAndType 110 92), (0, u "nextRelease"), (0, .methodref 97 112), (0, .nameAndType 113 92), (0, u "min"), (15, u "(Ljava/util/List;J)J")] 26

def k22m0 : Method := { name := "<init>", desc := "()V", sig := { parameters := [], returnType := none }, accessFlags := 2, code := none }
def k22c1 : Code := { maxStack := 6, maxLocals := 7, code := prog_7_method_6_code, exceptionTable := #[], attributes := #[] }
def k22m1 : Method := { name := "nextRelease", desc := "(Ljava/util/List;J)J", sig := { parameters := [(.object "java/util/List"), .long], returnType := some .long }, accessFlags := 8, code := some k22c1 }
def k22c2 : Code := { maxStack := 6, maxLocals := 6, code := prog_7_method_7_code, exceptionTable := #[], attributes := #[] }
def k22m2 : Method := { name := "nextRelease", desc := "(JJ)J", sig := { parameters := [.long, .long], returnType := some .long }, accessFlags := 8, code := some k22c2 }
/-- com/example/firmline/firmline/analysis/Interference -/
def k22 : Class := { plain "com/example/firmline/firmline/analysis/Interference" (some 0) with
  accessFlags := 49
  interfaces := #[]
  cf := some (fileOf pool22 63 #[] #[{ accessFlags := 2, nameIndex := 5, descriptorIndex := 6, attributes := #[] }, { accessFlags := 8, nameIndex := 110, descriptorIndex := 129, attributes := #[] }, { accessFlags := 8, nameIndex := 110, descriptorIndex := 92, attributes := #[] }] 49 2 #[] #[])
  fields := #[]
  methods := #[k22m0, k22m1, k22m2]
  instanceTypes := #[]
  staticTypes := #[]
  resolved := Array.replicate 156 none
  statics := none }

def pool23 : Array CpInfo := pool [(16, .class_ 18), (1, u "java/util/Iterator"), (0, u "hasNext"), (0, u "()Z"), (2, u "next"), (0, u "()Ljava/lang/Object;"), (6, .class_ 32), (0, u "java/lang/Object")] 20

def k23m0 : Method := { name := "hasNext", desc := "()Z", sig := { parameters := [], returnType := some .boolean }, accessFlags := 1025, code := none }
def k23m1 : Method := { name := "next", desc := "()Ljava/lang/Object;", sig := { parameters := [], returnType := some (.object "java/lang/Object") }, accessFlags := 1025, code := none }
/-- java/util/Iterator -/
def k23 : Class := { plain "java/util/Iterator" (some 0) with
  accessFlags := 1537
  interfaces := #[]
  cf := some (fileOf pool23 16 #[] #[{ accessFlags := 1025, nameIndex := 19, descriptorIndex := 20, attributes := #[] }, { accessFlags := 1025, nameIndex := 23, descriptorIndex := 24, attributes := #[] }] 1537 31 #[] #[])
  fields := #[]
  methods := #[k23m0, k23m1]
  instanceTypes := #[]
  staticTypes := #[]
  resolved := Array.replicate 53 none
  statics := none }

def pool24 : Array CpInfo := pool [(1, .fieldref 2 3), (0, .class_ 4), (0, .nameAndType 5 6), (0, u "java/util/ArrayList$Itr"), (0, u "this$0"), (0, u "Ljava/util/ArrayList;"), (0, .methodref 8 9), (0, .class_ 10), (0, .nameAndType 11 12), (0, u "java/lang/Object"), (0, u "<init>"), (0, u "()V"), (0, .fieldref 2 14), (0, .nameAndType 15 16), (0, u "lastRet"), (0, u "I"), (0, .fieldref 18 19), (0, .class_ 20), (0, .nameAndType 21 16), (0, u "java/util/ArrayList"), (0, u "modCount"), (0, .fieldref 2 23), (0, .nameAndType 24 16), (0, u "expectedModCount"), (0, .fieldref 2 26), (0, .nameAndType 27 16), (0, u "cursor"), (0, .fieldref 18 29), (0, .nameAndType 30 16), (0, u "size"), (0, .methodref 2 32), (0, .nameAndType 33 12), (0, u "checkForComodification"), (3, .fieldref 18 38), (0, .nameAndType 39 40), (0, u "elementData"), (0, u "[Ljava/lang/Object;"), (28, .class_ 70), (0, u "java/util/Iterator"), (0, u "(Ljava/util/ArrayList;)V"), (8, u "hasNext"), (0, u "()Z"), (1, u "next"), (0, u "()Ljava/lang/Object;")] 19

def k24c0 : Code := { maxStack := 2, maxLocals := 2, code := jdk_49_method_1_code, exceptionTable := #[], attributes := #[] }
def k24m0 : Method := { name := "<init>", desc := "(Ljava/util/ArrayList;)V", sig := { parameters := [(.object "java/util/ArrayList")], returnType := none }, accessFlags := 0, code := some k24c0 }
def k24c1 : Code := { maxStack := 2, maxLocals := 1, code := jdk_49_method_2_code, exceptionTable := #[], attributes := #[] }
def k24m1 : Method := { name := "hasNext", desc := "()Z", sig := { parameters := [], returnType := some .boolean }, accessFlags := 1, code := some k24c1 }
def k24c2 : Code := { maxStack := 4, maxLocals := 3, code := jdk_49_method_3_code, exceptionTable := #[], attributes := #[] }
def k24m2 : Method := { name := "next", desc := "()Ljava/lang/Object;", sig := { parameters := [], returnType := some (.object "java/lang/Object") }, accessFlags := 1, code := some k24c2 }
def k24c3 : Code := { maxStack := 2, maxLocals := 1, code := jdk_49_method_6_code, exceptionTable := #[], attributes := #[] }
def k24m3 : Method := { name := "checkForComodification", desc := "()V", sig := { parameters := [], returnType := none }, accessFlags := 16, code := some k24c3 }
/-- java/util/ArrayList$Itr -/
def k24 : Class := { plain "java/util/ArrayList$Itr" (some 0) with
  accessFlags := 32
  interfaces := #[23]
  cf := some (fileOf pool24 2 #[.nestHost 18] #[{ accessFlags := 0, nameIndex := 11, descriptorIndex := 71, attributes := #[] }, { accessFlags := 1, nameIndex := 80, descriptorIndex := 81, attributes := #[] }, { accessFlags := 1, nameIndex := 83, descriptorIndex := 84, attributes := #[] }, { accessFlags := 16, nameIndex := 33, descriptorIndex := 12, attributes := #[] }] 32 8 #[69] #[{ accessFlags := 0, nameIndex := 27, descriptorIndex := 16, attributes := #[] }, { accessFlags := 0, nameIndex := 15, descriptorIndex := 16, attributes := #[] }, { accessFlags := 0, nameIndex := 24, descriptorIndex := 16, attributes := #[] }, { accessFlags := 4112, nameIndex := 5, descriptorIndex := 6, attributes := #[] }])
  fields := #[{ name := "cursor", type := .int, accessFlags := 0, slot := 0, constantValue := 0 }, { name := "lastRet", type := .int, accessFlags := 0, slot := 1, constantValue := 0 }, { name := "expectedModCount", type := .int, accessFlags := 0, slot := 2, constantValue := 0 }, { name := "this$0", type := (.object "java/util/ArrayList"), accessFlags := 4112, slot := 3, constantValue := 0 }]
  methods := #[k24m0, k24m1, k24m2, k24m3]
  instanceTypes := #[.int, .int, .int, (.object "java/util/ArrayList")]
  staticTypes := #[]
  resolved := Array.replicate 104 none
  statics := none }

def pool25 : Array CpInfo := pool [(9, u "<init>"), (6, .class_ 18), (1, u "java/lang/Object"), (0, u "()V"), (1, .class_ 23), (1, u "jdk/internal/util/ArraysSupport"), (0, u "LOG2_ARRAY_LONG_INDEX_SCALE"), (0, u "I"), (2, u "U"), (0, u "Ljdk/internal/misc/Unsafe;"), (8, u "BIG_ENDIAN"), (0, u "Z"), (8, u "LOG2_BYTE_BIT_SIZE"), (4, u "LOG2_ARRAY_INT_INDEX_SCALE"), (54, u "JLA"), (0, u "Ljdk/internal/access/JavaLangAccess;"), (11, u "LOG2_ARRAY_BOOLEAN_INDEX_SCALE"), (9, u "LOG2_ARRAY_BYTE_INDEX_SCALE"), (5, u "LOG2_ARRAY_CHAR_INDEX_SCALE"), (5, u "LOG2_ARRAY_SHORT_INDEX_SCALE"), (18, u "LOG2_ARRAY_FLOAT_INDEX_SCALE"), (24, u "LOG2_ARRAY_DOUBLE_INDEX_SCALE"), (89, u "T_BOOLEAN"), (2, u "T_CHAR"), (1, u "T_FLOAT"), (1, u "T_DOUBLE"), (1, u "T_BYTE"), (1, u "T_SHORT"), (1, u "T_INT"), (1, u "T_LONG"), (1, u "SOFT_MAX_ARRAY_LENGTH")] 83

def k25m0 : Method := { name := "<init>", desc := "()V", sig := { parameters := [], returnType := none }, accessFlags := 2, code := none }
/-- jdk/internal/util/ArraysSupport -/
def k25 : Class := { plain "jdk/internal/util/ArraysSupport" (some 0) with
  accessFlags := 33
  interfaces := #[]
  cf := some (fileOf pool25 21 #[] #[{ accessFlags := 2, nameIndex := 9, descriptorIndex := 19, attributes := #[] }] 33 16 #[] #[{ accessFlags := 24, nameIndex := 28, descriptorIndex := 29, attributes := #[] }, { accessFlags := 26, nameIndex := 38, descriptorIndex := 39, attributes := #[] }, { accessFlags := 25, nameIndex := 121, descriptorIndex := 25, attributes := #[] }, { accessFlags := 25, nameIndex := 131, descriptorIndex := 25, attributes := #[] }, { accessFlags := 25, nameIndex := 137, descriptorIndex := 25, attributes := #[] }, { accessFlags := 25, nameIndex := 143, descriptorIndex := 25, attributes := #[] }, { accessFlags := 25, nameIndex := 53, descriptorIndex := 25, attributes := #[] }, { accessFlags := 25, nameIndex := 24, descriptorIndex := 25, attributes := #[] }, { accessFlags := 25, nameIndex := 162, descriptorIndex := 25, attributes := #[] }, { accessFlags := 25, nameIndex := 187, descriptorIndex := 25, attributes := #[] }, { accessFlags := 26, nameIndex := 48, descriptorIndex := 25, attributes := #[] }, { accessFlags := 25, nameIndex := 277, descriptorIndex := 25, attributes := #[] }, { accessFlags := 25, nameIndex := 280, descriptorIndex := 25, attributes := #[] }, { accessFlags := 25, nameIndex := 282, descriptorIndex := 25, attributes := #[] }, { accessFlags := 25, nameIndex := 284, descriptorIndex := 25, attributes := #[] }, { accessFlags := 25, nameIndex := 286, descriptorIndex := 25, attributes := #[] }, { accessFlags := 25, nameIndex := 288, descriptorIndex := 25, attributes := #[] }, { accessFlags := 25, nameIndex := 290, descriptorIndex := 25, attributes := #[] }, { accessFlags := 25, nameIndex := 292, descriptorIndex := 25, attributes := #[] }, { accessFlags := 26, nameIndex := 108, descriptorIndex := 109, attributes := #[] }, { accessFlags := 25, nameIndex := 294, descriptorIndex := 25, attributes := #[] }])
  fields := #[{ name := "U", type := (.object "jdk/internal/misc/Unsafe"), accessFlags := 24, slot := 0, constantValue := 0 }, { name := "BIG_ENDIAN", type := .boolean, accessFlags := 26, slot := 1, constantValue := 0 }, { name := "LOG2_ARRAY_BOOLEAN_INDEX_SCALE", type := .int, accessFlags := 25, slot := 2, constantValue := 0 }, { name := "LOG2_ARRAY_BYTE_INDEX_SCALE", type := .int, accessFlags := 25, slot := 3, constantValue := 0 }, { name := "LOG2_ARRAY_CHAR_INDEX_SCALE", type := .int, accessFlags := 25, slot := 4, constantValue := 0 }, { name := "LOG2_ARRAY_SHORT_INDEX_SCALE", type := .int, accessFlags := 25, slot := 5, constantValue := 0 }, { name := "LOG2_ARRAY_INT_INDEX_SCALE", type := .int, accessFlags := 25, slot := 6, constantValue := 0 }, { name := "LOG2_ARRAY_LONG_INDEX_SCALE", type := .int, accessFlags := 25, slot := 7, constantValue := 0 }, { name := "LOG2_ARRAY_FLOAT_INDEX_SCALE", type := .int, accessFlags := 25, slot := 8, constantValue := 0 }, { name := "LOG2_ARRAY_DOUBLE_INDEX_SCALE", type := .int, accessFlags := 25, slot := 9, constantValue := 0 }, { name := "LOG2_BYTE_BIT_SIZE", type := .int, accessFlags := 26, slot := 10, constantValue := 0 }, { name := "T_BOOLEAN", type := .int, accessFlags := 25, slot := 11, constantValue := 0 }, { name := "T_CHAR", type := .int, accessFlags := 25, slot := 12, constantValue := 0 }, { name := "T_FLOAT", type := .int, accessFlags := 25, slot := 13, constantValue := 0 }, { name := "T_DOUBLE", type := .int, accessFlags := 25, slot := 14, constantValue := 0 }, { name := "T_BYTE", type := .int, accessFlags := 25, slot := 15, constantValue := 0 }, { name := "T_SHORT", type := .int, accessFlags := 25, slot := 16, constantValue := 0 }, { name := "T_INT", type := .int, accessFlags := 25, slot := 17, constantValue := 0 }, { name := "T_LONG", type := .int, accessFlags := 25, slot := 18, constantValue := 0 }, { name := "JLA", type := (.object "jdk/internal/access/JavaLangAccess"), accessFlags := 26, slot := 19, constantValue := 0 }, { name := "SOFT_MAX_ARRAY_LENGTH", type := .int, accessFlags := 25, slot := 20, constantValue := 0 }]
  methods := #[k25m0]
  instanceTypes := #[]
  staticTypes := #[(.object "jdk/internal/misc/Unsafe"), .boolean, .int, .int, .int, .int, .int, .int, .int, .int, .int, .int, .int, .int, .int, .int, .int, .int, .int, (.object "jdk/internal/access/JavaLangAccess"), .int]
  resolved := Array.replicate 378 none
  statics := none }

/-- the primitive byte -/
def k26 : Class := { plain "byte" none with kind := .primitive 'B', accessFlags := 0x411 }
/-- [B -/
def k27 : Class := { plain "[B" (some 0) with kind := .array 26 .byte, interfaces := #[10, 11], accessFlags := 1041 }

/-- the primitive int -/
def k28 : Class := { plain "int" none with kind := .primitive 'I', accessFlags := 0x411 }
/-- [I -/
def k29 : Class := { plain "[I" (some 0) with kind := .array 28 .int, interfaces := #[10, 11], accessFlags := 1041 }

/-- [Ljava/lang/Object; -/
def k30 : Class := { plain "[Ljava/lang/Object;" (some 0) with kind := .array 0 (.object "java/lang/Object"), interfaces := #[10, 11], accessFlags := 1041 }

def heap : Heap := #[{ cls := 12, slots := #[.long 0, .int 0, .ref 3, .ref 4], vm := .statics 12 },
  { cls := 19, slots := #[.long 0, .int 1, .null, .int 0, .null, .int 0, .int 0], vm := .statics 19 },
  { cls := 21, slots := #[.null, .null, .null], vm := .statics 21 },
  { cls := 30, slots := #[], vm := .none },
  { cls := 30, slots := #[], vm := .none }]
def classes : Array Class := #[k0, k1, k2, k3, k4, k5, k6, k7, k8, k9, k10, k11, k12, k13, k14, k15, k16, k17, k18, k19, k20, k21, k22, k23, k24, k25, k26, k27, k28, k29, k30]
def interned : List (Array UInt16 × Addr) := []
def slotsUsed : Nat := 14
def theMethod : MethodId := ⟨1, 1⟩
def args0 : Array Value := #[.long 5, .long 3, .long 4, .long 7, .int 3]
def aboutOver (below : List Frame) : State where
  vm := { classes := classes, interned := interned.toArray }
  heap := heap
  slotsUsed := slotsUsed
  threads := #[{ frames := .invoking theMethod args0 :: below }]
def below0 : List Frame := [.native { method := ⟨0, 0⟩, args := #[] }]
def about1 : State := aboutOver below0
def p0 : Program := .bare "" "" ""
def e0 : Env := launch0.env 0 0 0
theorem w_frames : about1.frames = Frame.invoking theMethod args0 :: below0 := rfl
set_option maxRecDepth 65536 in
theorem w_args : argsFit about1.vm theMethod args0 = true := by decide +kernel
set_option maxRecDepth 65536 in
theorem w_heap : heapFits about1 = true := by decide +kernel
set_option maxRecDepth 65536 in
theorem w_runnable : about1.curStatus? = some .runnable := by decide +kernel
set_option maxRecDepth 65536 in
theorem w_alone : about1.alone = true := by decide +kernel
set_option maxRecDepth 65536 in
theorem w_named : about1.methodNamed? x = some theMethod := by decide +kernel
set_option maxRecDepth 65536 in
theorem w_hears : about1.hears theMethod below0 = true := by decide +kernel
set_option maxRecDepth 65536 in
theorem w_ripe : about1.ripe theMethod args0 below0 = true := by decide +kernel
theorem w_running : about1.status = .running := rfl
set_option maxRecDepth 65536 in
theorem w_room : about1.hasRoom e0.platform room_1 = true :=
  launch0.hasRoom_least _ room_1 (by decide +kernel) (by decide +kernel) (by decide +kernel) (by decide +kernel) (by decide +kernel) (by decide +kernel)
theorem allAtoms_all (ts : List Jvm.Cond) (a : Array Jvm.Value) (st : Jvm.State) : (allAtoms ts).before a st = ts.all (fun c => c.before a st) := by
  induction ts with
  | nil => rfl
  | cons c t ih =>
    show (Jvm.Cond.and c (allAtoms t)).before a st = _
    rw [Jvm.Cond.before_and, ih, List.all_cons]
def words1 : List Jvm.Cond := Jvm.Cond.code x code maxLocals ret :: tables_1
/-- a 'code' word, met by the world's own term for the bytes: nothing is compared byte by byte -/
theorem code_word {y : MethodName} {bytes : ByteArray} {mx : Nat} {rt : Option FieldType} {a : Array Value} {s : State} {m : MethodId} {meth : Method} {c : Code} (h1 : s.methodNamed? y = some m) (h2 : s.vm.method? m = some meth) (h3 : meth.code = some c) (h4 : c.code = bytes)
    (h5 : (c.maxLocals == mx && c.exceptionTable.isEmpty && decide (c.maxStack ≤ mostOperands) && decide (meth.sig.returnType = rt) && !meth.locks && decide (parseMethodDescriptor y.desc = some meth.sig)) = true) : (Jvm.Cond.code y bytes mx rt).before a s = true := by
  simp only [Bool.and_eq_true, beq_iff_eq, Bool.not_eq_true', decide_eq_true_eq] at h5
  obtain ⟨⟨⟨⟨⟨g1, g2⟩, g3⟩, g4⟩, g5⟩, g6⟩ := h5
  simp [Cond.before, Cond.holds, Cond.value, h1, h2, h3, h4, g1, g2, g3, g4, g5, g6]
def isCode : Jvm.Cond → Bool
  | .code _ _ _ _ => true
  | _ => false
theorem all_split {L : List Jvm.Cond} {P : Jvm.Cond → Bool} (h1 : L.all (fun c => isCode c || P c) = true) (h2 : ∀ c ∈ L.filter isCode, P c = true) : L.all P = true := by
  refine List.all_eq_true.mpr fun c hc => ?_
  have h := List.all_eq_true.mp h1 c hc
  rcases Bool.eq_false_or_eq_true (isCode c) with hi | hi
  · exact h2 c (List.mem_filter.mpr ⟨hc, hi⟩)
  · simpa [hi] using h
set_option maxRecDepth 65536 in
theorem w_c0 : (Jvm.Cond.code x code maxLocals ret).before args0 about1 = true := code_word (m := ⟨1, 1⟩) (meth := k1m1) (c := k1c1) (by decide +kernel) rfl rfl rfl (by decide +kernel)
set_option maxRecDepth 65536 in
theorem w_c1 : (Jvm.Cond.code ({ cls := "java/lang/Math", name := "max", desc := "(JJ)J" } : Jvm.MethodName) jdk_29_method_66_code (4 : Nat) (Option.some Jvm.ClassFile.FieldType.long)).before args0 about1 = true := code_word (m := ⟨2, 2⟩) (meth := k2m2) (c := k2c2) (by decide +kernel) rfl rfl rfl (by decide +kernel)
set_option maxRecDepth 65536 in
theorem w_c2 : (Jvm.Cond.code ({ cls := "com/example/firmline/firmline/analysis/InterferenceNextReleasePinLaw", name := "period", desc := "(J)J" } : Jvm.MethodName) method_3_code (2 : Nat) (Option.some Jvm.ClassFile.FieldType.long)).before args0 about1 = true := code_word (m := ⟨1, 2⟩) (meth := k1m2) (c := k1c2) (by decide +kernel) rfl rfl rfl (by decide +kernel)
set_option maxRecDepth 65536 in
theorem w_c3 : (Jvm.Cond.code ({ cls := "java/util/ArrayList", name := "<init>", desc := "()V" } : Jvm.MethodName) jdk_38_method_2_code (1 : Nat) (Option.none : Option Jvm.ClassFile.FieldType)).before args0 about1 = true := code_word (m := ⟨12, 0⟩) (meth := k12m0) (c := k12c0) (by decide +kernel) rfl rfl rfl (by decide +kernel)
set_option maxRecDepth 65536 in
theorem w_c4 : (Jvm.Cond.code ({ cls := "java/util/AbstractList", name := "<init>", desc := "()V" } : Jvm.MethodName) jdk_39_method_1_code (1 : Nat) (Option.none : Option Jvm.ClassFile.FieldType)).before args0 about1 = true := code_word (m := ⟨8, 0⟩) (meth := k8m0) (c := k8c0) (by decide +kernel) rfl rfl rfl (by decide +kernel)
set_option maxRecDepth 65536 in
theorem w_c5 : (Jvm.Cond.code ({ cls := "java/util/AbstractCollection", name := "<init>", desc := "()V" } : Jvm.MethodName) jdk_22_method_1_code (1 : Nat) (Option.none : Option Jvm.ClassFile.FieldType)).before args0 about1 = true := code_word (m := ⟨5, 0⟩) (meth := k5m0) (c := k5c0) (by decide +kernel) rfl rfl rfl (by decide +kernel)
set_option maxRecDepth 65536 in
theorem w_c6 : (Jvm.Cond.code ({ cls := "java/lang/Object", name := "<init>", desc := "()V" } : Jvm.MethodName) object_method_1_code (1 : Nat) (Option.none : Option Jvm.ClassFile.FieldType)).before args0 about1 = true := code_word (m := ⟨0, 0⟩) (meth := k0m0) (c := k0c0) (by decide +kernel) rfl rfl rfl (by decide +kernel)
set_option maxRecDepth 65536 in
theorem w_c7 : (Jvm.Cond.code ({ cls := "com/example/firmline/firmline/model/Task", name := "<init>", desc := "(Ljava/lang/String;JJJI)V" } : Jvm.MethodName) prog_18_method_2_code (9 : Nat) (Option.none : Option Jvm.ClassFile.FieldType)).before args0 about1 = true := code_word (m := ⟨14, 1⟩) (meth := k14m1) (c := k14c1) (by decide +kernel) rfl rfl rfl (by decide +kernel)
set_option maxRecDepth 65536 in
theorem w_c8 : (Jvm.Cond.code ({ cls := "com/example/firmline/firmline/model/Task", name := "<init>", desc := "(Ljava/lang/String;JJJIJ)V" } : Jvm.MethodName) prog_18_method_1_code (11 : Nat) (Option.none : Option Jvm.ClassFile.FieldType)).before args0 about1 = true := code_word (m := ⟨14, 0⟩) (meth := k14m0) (c := k14c0) (by decide +kernel) rfl rfl rfl (by decide +kernel)
set_option maxRecDepth 65536 in
theorem w_c9 : (Jvm.Cond.code ({ cls := "java/lang/Record", name := "<init>", desc := "()V" } : Jvm.MethodName) jdk_30_method_1_code (1 : Nat) (Option.none : Option Jvm.ClassFile.FieldType)).before args0 about1 = true := code_word (m := ⟨13, 0⟩) (meth := k13m0) (c := k13c0) (by decide +kernel) rfl rfl rfl (by decide +kernel)
set_option maxRecDepth 65536 in
theorem w_c10 : (Jvm.Cond.code ({ cls := "com/example/firmline/firmline/model/Task", name := "checkName", desc := "(Ljava/lang/String;)V" } : Jvm.MethodName) prog_18_method_6_code (4 : Nat) (Option.none : Option Jvm.ClassFile.FieldType)).before args0 about1 = true := code_word (m := ⟨14, 5⟩) (meth := k14m5) (c := k14c5) (by decide +kernel) rfl rfl rfl (by decide +kernel)
set_option maxRecDepth 65536 in
theorem w_c11 : (Jvm.Cond.code ({ cls := "java/lang/String", name := "isEmpty", desc := "()Z" } : Jvm.MethodName) jdk_42_method_55_code (1 : Nat) (Option.some Jvm.ClassFile.FieldType.boolean)).before args0 about1 = true := code_word (m := ⟨19, 2⟩) (meth := k19m2) (c := k19c2) (by decide +kernel) rfl rfl rfl (by decide +kernel)
set_option maxRecDepth 65536 in
theorem w_c12 : (Jvm.Cond.code ({ cls := "java/lang/String", name := "length", desc := "()I" } : Jvm.MethodName) jdk_42_method_54_code (1 : Nat) (Option.some Jvm.ClassFile.FieldType.int)).before args0 about1 = true := code_word (m := ⟨19, 1⟩) (meth := k19m1) (c := k19c1) (by decide +kernel) rfl rfl rfl (by decide +kernel)
set_option maxRecDepth 65536 in
theorem w_c13 : (Jvm.Cond.code ({ cls := "java/lang/String", name := "coder", desc := "()B" } : Jvm.MethodName) jdk_42_method_152_code (1 : Nat) (Option.some Jvm.ClassFile.FieldType.byte)).before args0 about1 = true := code_word (m := ⟨19, 4⟩) (meth := k19m4) (c := k19c4) (by decide +kernel) rfl rfl rfl (by decide +kernel)
set_option maxRecDepth 65536 in
theorem w_c14 : (Jvm.Cond.code ({ cls := "java/lang/String", name := "charAt", desc := "(I)C" } : Jvm.MethodName) jdk_42_method_56_code (2 : Nat) (Option.some Jvm.ClassFile.FieldType.char)).before args0 about1 = true := code_word (m := ⟨19, 3⟩) (meth := k19m3) (c := k19c3) (by decide +kernel) rfl rfl rfl (by decide +kernel)
set_option maxRecDepth 65536 in
theorem w_c15 : (Jvm.Cond.code ({ cls := "java/lang/String", name := "isLatin1", desc := "()Z" } : Jvm.MethodName) jdk_42_method_154_code (1 : Nat) (Option.some Jvm.ClassFile.FieldType.boolean)).before args0 about1 = true := code_word (m := ⟨19, 5⟩) (meth := k19m5) (c := k19c5) (by decide +kernel) rfl rfl rfl (by decide +kernel)
set_option maxRecDepth 65536 in
theorem w_c16 : (Jvm.Cond.code ({ cls := "java/lang/StringLatin1", name := "charAt", desc := "([BI)C" } : Jvm.MethodName) jdk_43_method_2_code (2 : Nat) (Option.some Jvm.ClassFile.FieldType.char)).before args0 about1 = true := code_word (m := ⟨20, 1⟩) (meth := k20m1) (c := k20c1) (by decide +kernel) rfl rfl rfl (by decide +kernel)
set_option maxRecDepth 65536 in
theorem w_c17 : (Jvm.Cond.code ({ cls := "java/lang/String", name := "checkIndex", desc := "(II)V" } : Jvm.MethodName) jdk_42_method_155_code (2 : Nat) (Option.none : Option Jvm.ClassFile.FieldType)).before args0 about1 = true := code_word (m := ⟨19, 6⟩) (meth := k19m6) (c := k19c6) (by decide +kernel) rfl rfl rfl (by decide +kernel)
set_option maxRecDepth 65536 in
theorem w_c18 : (Jvm.Cond.code ({ cls := "jdk/internal/util/Preconditions", name := "checkIndex", desc := "(IILjava/util/function/BiFunction;)I" } : Jvm.MethodName) jdk_41_method_11_code (3 : Nat) (Option.some Jvm.ClassFile.FieldType.int)).before args0 about1 = true := code_word (m := ⟨21, 1⟩) (meth := k21m1) (c := k21c1) (by decide +kernel) rfl rfl rfl (by decide +kernel)
set_option maxRecDepth 65536 in
theorem w_c19 : (Jvm.Cond.code ({ cls := "com/example/firmline/firmline/model/Task", name := "checkTime", desc := "(Ljava/lang/String;J)V" } : Jvm.MethodName) prog_18_method_4_code (3 : Nat) (Option.none : Option Jvm.ClassFile.FieldType)).before args0 about1 = true := code_word (m := ⟨14, 3⟩) (meth := k14m3) (c := k14c3) (by decide +kernel) rfl rfl rfl (by decide +kernel)
set_option maxRecDepth 65536 in
theorem w_c20 : (Jvm.Cond.code ({ cls := "com/example/firmline/firmline/model/Task", name := "checkPriority", desc := "(J)V" } : Jvm.MethodName) prog_18_method_5_code (2 : Nat) (Option.none : Option Jvm.ClassFile.FieldType)).before args0 about1 = true := code_word (m := ⟨14, 4⟩) (meth := k14m4) (c := k14c4) (by decide +kernel) rfl rfl rfl (by decide +kernel)
set_option maxRecDepth 65536 in
theorem w_c21 : (Jvm.Cond.code ({ cls := "java/util/ArrayList", name := "add", desc := "(Ljava/lang/Object;)Z" } : Jvm.MethodName) jdk_38_method_25_code (2 : Nat) (Option.some Jvm.ClassFile.FieldType.boolean)).before args0 about1 = true := code_word (m := ⟨12, 4⟩) (meth := k12m4) (c := k12c4) (by decide +kernel) rfl rfl rfl (by decide +kernel)
set_option maxRecDepth 65536 in
theorem w_c22 : (Jvm.Cond.code ({ cls := "java/util/ArrayList", name := "add", desc := "(Ljava/lang/Object;[Ljava/lang/Object;I)V" } : Jvm.MethodName) jdk_38_method_24_code (4 : Nat) (Option.none : Option Jvm.ClassFile.FieldType)).before args0 about1 = true := code_word (m := ⟨12, 3⟩) (meth := k12m3) (c := k12c3) (by decide +kernel) rfl rfl rfl (by decide +kernel)
set_option maxRecDepth 65536 in
theorem w_c23 : (Jvm.Cond.code ({ cls := "java/util/ArrayList", name := "grow", desc := "()[Ljava/lang/Object;" } : Jvm.MethodName) jdk_38_method_7_code (1 : Nat) (Option.some (Jvm.ClassFile.FieldType.array (Jvm.ClassFile.FieldType.object "java/lang/Object")))).before args0 about1 = true := code_word (m := ⟨12, 2⟩) (meth := k12m2) (c := k12c2) (by decide +kernel) rfl rfl rfl (by decide +kernel)
set_option maxRecDepth 65536 in
theorem w_c24 : (Jvm.Cond.code ({ cls := "java/util/ArrayList", name := "grow", desc := "(I)[Ljava/lang/Object;" } : Jvm.MethodName) jdk_38_method_6_code (4 : Nat) (Option.some (Jvm.ClassFile.FieldType.array (Jvm.ClassFile.FieldType.object "java/lang/Object")))).before args0 about1 = true := code_word (m := ⟨12, 1⟩) (meth := k12m1) (c := k12c1) (by decide +kernel) rfl rfl rfl (by decide +kernel)
set_option maxRecDepth 65536 in
theorem w_c25 : (Jvm.Cond.code ({ cls := "java/lang/Math", name := "max", desc := "(II)I" } : Jvm.MethodName) jdk_29_method_65_code (2 : Nat) (Option.some Jvm.ClassFile.FieldType.int)).before args0 about1 = true := code_word (m := ⟨2, 1⟩) (meth := k2m1) (c := k2c1) (by decide +kernel) rfl rfl rfl (by decide +kernel)
set_option maxRecDepth 65536 in
theorem w_c26 : (Jvm.Cond.code ({ cls := "com/example/firmline/firmline/analysis/Interference", name := "nextRelease", desc := "(Ljava/util/List;J)J" } : Jvm.MethodName) prog_7_method_6_code (7 : Nat) (Option.some Jvm.ClassFile.FieldType.long)).before args0 about1 = true := code_word (m := ⟨22, 1⟩) (meth := k22m1) (c := k22c1) (by decide +kernel) rfl rfl rfl (by decide +kernel)
set_option maxRecDepth 65536 in
theorem w_c27 : (Jvm.Cond.code ({ cls := "java/util/ArrayList", name := "iterator", desc := "()Ljava/util/Iterator;" } : Jvm.MethodName) jdk_38_method_55_code (1 : Nat) (Option.some (Jvm.ClassFile.FieldType.object "java/util/Iterator"))).before args0 about1 = true := code_word (m := ⟨12, 5⟩) (meth := k12m5) (c := k12c5) (by decide +kernel) rfl rfl rfl (by decide +kernel)
set_option maxRecDepth 65536 in
theorem w_c28 : (Jvm.Cond.code ({ cls := "java/util/ArrayList$Itr", name := "<init>", desc := "(Ljava/util/ArrayList;)V" } : Jvm.MethodName) jdk_49_method_1_code (2 : Nat) (Option.none : Option Jvm.ClassFile.FieldType)).before args0 about1 = true := code_word (m := ⟨24, 0⟩) (meth := k24m0) (c := k24c0) (by decide +kernel) rfl rfl rfl (by decide +kernel)
set_option maxRecDepth 65536 in
theorem w_c29 : (Jvm.Cond.code ({ cls := "java/util/ArrayList$Itr", name := "hasNext", desc := "()Z" } : Jvm.MethodName) jdk_49_method_2_code (1 : Nat) (Option.some Jvm.ClassFile.FieldType.boolean)).before args0 about1 = true := code_word (m := ⟨24, 1⟩) (meth := k24m1) (c := k24c1) (by decide +kernel) rfl rfl rfl (by decide +kernel)
set_option maxRecDepth 65536 in
theorem w_c30 : (Jvm.Cond.code ({ cls := "java/util/ArrayList$Itr", name := "next", desc := "()Ljava/lang/Object;" } : Jvm.MethodName) jdk_49_method_3_code (3 : Nat) (Option.some (Jvm.ClassFile.FieldType.object "java/lang/Object"))).before args0 about1 = true := code_word (m := ⟨24, 2⟩) (meth := k24m2) (c := k24c2) (by decide +kernel) rfl rfl rfl (by decide +kernel)
set_option maxRecDepth 65536 in
theorem w_c31 : (Jvm.Cond.code ({ cls := "java/util/ArrayList$Itr", name := "checkForComodification", desc := "()V" } : Jvm.MethodName) jdk_49_method_6_code (1 : Nat) (Option.none : Option Jvm.ClassFile.FieldType)).before args0 about1 = true := code_word (m := ⟨24, 3⟩) (meth := k24m3) (c := k24c3) (by decide +kernel) rfl rfl rfl (by decide +kernel)
set_option maxRecDepth 65536 in
theorem w_c32 : (Jvm.Cond.code ({ cls := "com/example/firmline/firmline/model/Task", name := "period", desc := "()J" } : Jvm.MethodName) prog_18_method_11_code (1 : Nat) (Option.some Jvm.ClassFile.FieldType.long)).before args0 about1 = true := code_word (m := ⟨14, 6⟩) (meth := k14m6) (c := k14c6) (by decide +kernel) rfl rfl rfl (by decide +kernel)
set_option maxRecDepth 65536 in
theorem w_c33 : (Jvm.Cond.code ({ cls := "com/example/firmline/firmline/analysis/Interference", name := "nextRelease", desc := "(JJ)J" } : Jvm.MethodName) prog_7_method_7_code (6 : Nat) (Option.some Jvm.ClassFile.FieldType.long)).before args0 about1 = true := code_word (m := ⟨22, 2⟩) (meth := k22m2) (c := k22c2) (by decide +kernel) rfl rfl rfl (by decide +kernel)
set_option maxRecDepth 65536 in
theorem w_c34 : (Jvm.Cond.code ({ cls := "com/example/firmline/firmline/model/Task", name := "releasesBefore", desc := "(JJ)J" } : Jvm.MethodName) prog_18_method_3_code (4 : Nat) (Option.some Jvm.ClassFile.FieldType.long)).before args0 about1 = true := code_word (m := ⟨14, 2⟩) (meth := k14m2) (c := k14c2) (by decide +kernel) rfl rfl rfl (by decide +kernel)
set_option maxRecDepth 65536 in
theorem w_c35 : (Jvm.Cond.code ({ cls := "java/lang/Math", name := "min", desc := "(JJ)J" } : Jvm.MethodName) jdk_29_method_70_code (4 : Nat) (Option.some Jvm.ClassFile.FieldType.long)).before args0 about1 = true := code_word (m := ⟨2, 3⟩) (meth := k2m3) (c := k2c3) (by decide +kernel) rfl rfl rfl (by decide +kernel)
set_option maxRecDepth 65536 in
theorem w_c36 : (Jvm.Cond.code ({ cls := "com/example/firmline/firmline/analysis/InterferenceNextReleasePinLaw", name := "quiet", desc := "(JJJ)Z" } : Jvm.MethodName) method_4_code (6 : Nat) (Option.some Jvm.ClassFile.FieldType.boolean)).before args0 about1 = true := code_word (m := ⟨1, 3⟩) (meth := k1m3) (c := k1c3) (by decide +kernel) rfl rfl rfl (by decide +kernel)
set_option maxRecDepth 65536 in
theorem w_c37 : (Jvm.Cond.code ({ cls := "com/example/firmline/firmline/analysis/InterferenceNextReleasePinLaw", name := "beyond", desc := "(JJ)Z" } : Jvm.MethodName) method_5_code (4 : Nat) (Option.some Jvm.ClassFile.FieldType.boolean)).before args0 about1 = true := code_word (m := ⟨1, 4⟩) (meth := k1m4) (c := k1c4) (by decide +kernel) rfl rfl rfl (by decide +kernel)
def codes1 : List Jvm.Cond := [Jvm.Cond.code x code maxLocals ret, Jvm.Cond.code ({ cls := "java/lang/Math", name := "max", desc := "(JJ)J" } : Jvm.MethodName) jdk_29_method_66_code (4 : Nat) (Option.some Jvm.ClassFile.FieldType.long), Jvm.Cond.code ({ cls := "com/example/firmline/firmline/analysis/InterferenceNextReleasePinLaw", name := "period", desc := "(J)J" } : Jvm.MethodName) method_3_code (2 : Nat) (Option.some Jvm.ClassFile.FieldType.long), Jvm.Cond.code ({ cls := "java/util/ArrayList", name := "<init>", desc := "()V" } : Jvm.MethodName) jdk_38_method_2_code (1 : Nat) (Option.none : Option Jvm.ClassFile.FieldType), Jvm.Cond.code ({ cls := "java/util/AbstractList", name := "<init>", desc := "()V" } : Jvm.MethodName) jdk_39_method_1_code (1 : Nat) (Option.none : Option Jvm.ClassFile.FieldType), Jvm.Cond.code ({ cls := "java/util/AbstractCollection", name := "<init>", desc := "()V" } : Jvm.MethodName) jdk_22_method_1_code (1 : Nat) (Option.none : Option Jvm.ClassFile.FieldType), Jvm.Cond.code ({ cls := "java/lang/Object", name := "<init>", desc := "()V" } : Jvm.MethodName) object_method_1_code (1 : Nat) (Option.none : Option Jvm.ClassFile.FieldType), Jvm.Cond.code ({ cls := "com/example/firmline/firmline/model/Task", name := "<init>", desc := "(Ljava/lang/String;JJJI)V" } : Jvm.MethodName) prog_18_method_2_code (9 : Nat) (Option.none : Option Jvm.ClassFile.FieldType), Jvm.Cond.code ({ cls := "com/example/firmline/firmline/model/Task", name := "<init>", desc := "(Ljava/lang/String;JJJIJ)V" } : Jvm.MethodName) prog_18_method_1_code (11 : Nat) (Option.none : Option Jvm.ClassFile.FieldType), Jvm.Cond.code ({ cls := "java/lang/Record", name := "<init>", desc := "()V" } : Jvm.MethodName) jdk_30_method_1_code (1 : Nat) (Option.none : Option Jvm.ClassFile.FieldType), Jvm.Cond.code ({ cls := "com/example/firmline/firmline/model/Task", name := "checkName", desc := "(Ljava/lang/String;)V" } : Jvm.MethodName) prog_18_method_6_code (4 : Nat) (Option.none : Option Jvm.ClassFile.FieldType), Jvm.Cond.code ({ cls := "java/lang/String", name := "isEmpty", desc := "()Z" } : Jvm.MethodName) jdk_42_method_55_code (1 : Nat) (Option.some Jvm.ClassFile.FieldType.boolean), Jvm.Cond.code ({ cls := "java/lang/String", name := "length", desc := "()I" } : Jvm.MethodName) jdk_42_method_54_code (1 : Nat) (Option.some Jvm.ClassFile.FieldType.int), Jvm.Cond.code ({ cls := "java/lang/String", name := "coder", desc := "()B" } : Jvm.MethodName) jdk_42_method_152_code (1 : Nat) (Option.some Jvm.ClassFile.FieldType.byte), Jvm.Cond.code ({ cls := "java/lang/String", name := "charAt", desc := "(I)C" } : Jvm.MethodName) jdk_42_method_56_code (2 : Nat) (Option.some Jvm.ClassFile.FieldType.char), Jvm.Cond.code ({ cls := "java/lang/String", name := "isLatin1", desc := "()Z" } : Jvm.MethodName) jdk_42_method_154_code (1 : Nat) (Option.some Jvm.ClassFile.FieldType.boolean), Jvm.Cond.code ({ cls := "java/lang/StringLatin1", name := "charAt", desc := "([BI)C" } : Jvm.MethodName) jdk_43_method_2_code (2 : Nat) (Option.some Jvm.ClassFile.FieldType.char), Jvm.Cond.code ({ cls := "java/lang/String", name := "checkIndex", desc := "(II)V" } : Jvm.MethodName) jdk_42_method_155_code (2 : Nat) (Option.none : Option Jvm.ClassFile.FieldType), Jvm.Cond.code ({ cls := "jdk/internal/util/Preconditions", name := "checkIndex", desc := "(IILjava/util/function/BiFunction;)I" } : Jvm.MethodName) jdk_41_method_11_code (3 : Nat) (Option.some Jvm.ClassFile.FieldType.int), Jvm.Cond.code ({ cls := "com/example/firmline/firmline/model/Task", name := "checkTime", desc := "(Ljava/lang/String;J)V" } : Jvm.MethodName) prog_18_method_4_code (3 : Nat) (Option.none : Option Jvm.ClassFile.FieldType), Jvm.Cond.code ({ cls := "com/example/firmline/firmline/model/Task", name := "checkPriority", desc := "(J)V" } : Jvm.MethodName) prog_18_method_5_code (2 : Nat) (Option.none : Option Jvm.ClassFile.FieldType), Jvm.Cond.code ({ cls := "java/util/ArrayList", name := "add", desc := "(Ljava/lang/Object;)Z" } : Jvm.MethodName) jdk_38_method_25_code (2 : Nat) (Option.some Jvm.ClassFile.FieldType.boolean), Jvm.Cond.code ({ cls := "java/util/ArrayList", name := "add", desc := "(Ljava/lang/Object;[Ljava/lang/Object;I)V" } : Jvm.MethodName) jdk_38_method_24_code (4 : Nat) (Option.none : Option Jvm.ClassFile.FieldType), Jvm.Cond.code ({ cls := "java/util/ArrayList", name := "grow", desc := "()[Ljava/lang/Object;" } : Jvm.MethodName) jdk_38_method_7_code (1 : Nat) (Option.some (Jvm.ClassFile.FieldType.array (Jvm.ClassFile.FieldType.object "java/lang/Object"))), Jvm.Cond.code ({ cls := "java/util/ArrayList", name := "grow", desc := "(I)[Ljava/lang/Object;" } : Jvm.MethodName) jdk_38_method_6_code (4 : Nat) (Option.some (Jvm.ClassFile.FieldType.array (Jvm.ClassFile.FieldType.object "java/lang/Object"))), Jvm.Cond.code ({ cls := "java/lang/Math", name := "max", desc := "(II)I" } : Jvm.MethodName) jdk_29_method_65_code (2 : Nat) (Option.some Jvm.ClassFile.FieldType.int), Jvm.Cond.code ({ cls := "com/example/firmline/firmline/analysis/Interference", name := "nextRelease", desc := "(Ljava/util/List;J)J" } : Jvm.MethodName) prog_7_method_6_code (7 : Nat) (Option.some Jvm.ClassFile.FieldType.long), Jvm.Cond.code ({ cls := "java/util/ArrayList", name := "iterator", desc := "()Ljava/util/Iterator;" } : Jvm.MethodName) jdk_38_method_55_code (1 : Nat) (Option.some (Jvm.ClassFile.FieldType.object "java/util/Iterator")), Jvm.Cond.code ({ cls := "java/util/ArrayList$Itr", name := "<init>", desc := "(Ljava/util/ArrayList;)V" } : Jvm.MethodName) jdk_49_method_1_code (2 : Nat) (Option.none : Option Jvm.ClassFile.FieldType), Jvm.Cond.code ({ cls := "java/util/ArrayList$Itr", name := "hasNext", desc := "()Z" } : Jvm.MethodName) jdk_49_method_2_code (1 : Nat) (Option.some Jvm.ClassFile.FieldType.boolean), Jvm.Cond.code ({ cls := "java/util/ArrayList$Itr", name := "next", desc := "()Ljava/lang/Object;" } : Jvm.MethodName) jdk_49_method_3_code (3 : Nat) (Option.some (Jvm.ClassFile.FieldType.object "java/lang/Object")), Jvm.Cond.code ({ cls := "java/util/ArrayList$Itr", name := "checkForComodification", desc := "()V" } : Jvm.MethodName) jdk_49_method_6_code (1 : Nat) (Option.none : Option Jvm.ClassFile.FieldType), Jvm.Cond.code ({ cls := "com/example/firmline/firmline/model/Task", name := "period", desc := "()J" } : Jvm.MethodName) prog_18_method_11_code (1 : Nat) (Option.some Jvm.ClassFile.FieldType.long), Jvm.Cond.code ({ cls := "com/example/firmline/firmline/analysis/Interference", name := "nextRelease", desc := "(JJ)J" } : Jvm.MethodName) prog_7_method_7_code (6 : Nat) (Option.some Jvm.ClassFile.FieldType.long), Jvm.Cond.code ({ cls := "com/example/firmline/firmline/model/Task", name := "releasesBefore", desc := "(JJ)J" } : Jvm.MethodName) prog_18_method_3_code (4 : Nat) (Option.some Jvm.ClassFile.FieldType.long), Jvm.Cond.code ({ cls := "java/lang/Math", name := "min", desc := "(JJ)J" } : Jvm.MethodName) jdk_29_method_70_code (4 : Nat) (Option.some Jvm.ClassFile.FieldType.long), Jvm.Cond.code ({ cls := "com/example/firmline/firmline/analysis/InterferenceNextReleasePinLaw", name := "quiet", desc := "(JJJ)Z" } : Jvm.MethodName) method_4_code (6 : Nat) (Option.some Jvm.ClassFile.FieldType.boolean), Jvm.Cond.code ({ cls := "com/example/firmline/firmline/analysis/InterferenceNextReleasePinLaw", name := "beyond", desc := "(JJ)Z" } : Jvm.MethodName) method_5_code (4 : Nat) (Option.some Jvm.ClassFile.FieldType.boolean)]
set_option maxRecDepth 65536 in
theorem codes_eq : words1.filter isCode = codes1 := rfl
theorem w_codes : ∀ c ∈ words1.filter isCode, c.before args0 about1 = true := by
  rw [codes_eq]
  intro c hc
  simp only [codes1, List.mem_cons, List.not_mem_nil, or_false] at hc
  rcases hc with rfl | rfl | rfl | rfl | rfl | rfl | rfl | rfl | rfl | rfl | rfl | rfl | rfl | rfl | rfl | rfl | rfl | rfl | rfl | rfl | rfl | rfl | rfl | rfl | rfl | rfl | rfl | rfl | rfl | rfl | rfl | rfl | rfl | rfl | rfl | rfl | rfl | rfl
  · exact w_c0
  · exact w_c1
  · exact w_c2
  · exact w_c3
  · exact w_c4
  · exact w_c5
  · exact w_c6
  · exact w_c7
  · exact w_c8
  · exact w_c9
  · exact w_c10
  · exact w_c11
  · exact w_c12
  · exact w_c13
  · exact w_c14
  · exact w_c15
  · exact w_c16
  · exact w_c17
  · exact w_c18
  · exact w_c19
  · exact w_c20
  · exact w_c21
  · exact w_c22
  · exact w_c23
  · exact w_c24
  · exact w_c25
  · exact w_c26
  · exact w_c27
  · exact w_c28
  · exact w_c29
  · exact w_c30
  · exact w_c31
  · exact w_c32
  · exact w_c33
  · exact w_c34
  · exact w_c35
  · exact w_c36
  · exact w_c37
set_option maxRecDepth 65536 in
theorem w_t1 : (words1.take 24).all (fun c => isCode c || c.before args0 about1) = true := by decide +kernel
set_option maxRecDepth 65536 in
theorem w_t2 : ((words1.drop 24).take 24).all (fun c => isCode c || c.before args0 about1) = true := by decide +kernel
set_option maxRecDepth 65536 in
theorem w_t3 : (((words1.drop 24).drop 24).take 24).all (fun c => isCode c || c.before args0 about1) = true := by decide +kernel
set_option maxRecDepth 65536 in
theorem w_t4 : ((((words1.drop 24).drop 24).drop 24).take 24).all (fun c => isCode c || c.before args0 about1) = true := by decide +kernel
set_option maxRecDepth 65536 in
theorem w_t5 : (((((words1.drop 24).drop 24).drop 24).drop 24).take 24).all (fun c => isCode c || c.before args0 about1) = true := by decide +kernel
set_option maxRecDepth 65536 in
theorem w_t6 : ((((((words1.drop 24).drop 24).drop 24).drop 24).drop 24).take 24).all (fun c => isCode c || c.before args0 about1) = true := by decide +kernel
set_option maxRecDepth 65536 in
theorem w_t7 : (((((((words1.drop 24).drop 24).drop 24).drop 24).drop 24).drop 24).take 24).all (fun c => isCode c || c.before args0 about1) = true := by decide +kernel
set_option maxRecDepth 65536 in
theorem w_t8 : ((((((((words1.drop 24).drop 24).drop 24).drop 24).drop 24).drop 24).drop 24).take 24).all (fun c => isCode c || c.before args0 about1) = true := by decide +kernel
set_option maxRecDepth 65536 in
theorem w_t9 : (((((((((words1.drop 24).drop 24).drop 24).drop 24).drop 24).drop 24).drop 24).drop 24).take 24).all (fun c => isCode c || c.before args0 about1) = true := by decide +kernel
set_option maxRecDepth 65536 in
theorem w_t10 : (((((((((words1.drop 24).drop 24).drop 24).drop 24).drop 24).drop 24).drop 24).drop 24).drop 24).all (fun c => isCode c || c.before args0 about1) = true := by decide +kernel
theorem w_tables : (allAtoms (Jvm.Cond.code x code maxLocals ret :: tables_1)).before args0 about1 = true := by
  rw [allAtoms_all]
  show words1.all (fun c => c.before args0 about1) = true
  refine all_split ?_ w_codes
  rw [← List.take_append_drop 24 words1, List.all_append, w_t1, ← List.take_append_drop 24 (words1.drop 24), List.all_append, w_t2, ← List.take_append_drop 24 ((words1.drop 24).drop 24), List.all_append, w_t3, ← List.take_append_drop 24 (((words1.drop 24).drop 24).drop 24), List.all_append, w_t4, ← List.take_append_drop 24 ((((words1.drop 24).drop 24).drop 24).drop 24), List.all_append, w_t5, ← List.take_append_drop 24 (((((words1.drop 24).drop 24).drop 24).drop 24).drop 24), List.all_append, w_t6, ← List.take_append_drop 24 ((((((words1.drop 24).drop 24).drop 24).drop 24).drop 24).drop 24), List.all_append, w_t7, ← List.take_append_drop 24 (((((((words1.drop 24).drop 24).drop 24).drop 24).drop 24).drop 24).drop 24), List.all_append, w_t8, ← List.take_append_drop 24 ((((((((words1.drop 24).drop 24).drop 24).drop 24).drop 24).drop 24).drop 24).drop 24), List.all_append, w_t9, w_t10]
  rfl
set_option maxRecDepth 65536 in
theorem w_rest : rest_1_c.before args0 about1 = true := by decide +kernel
set_option maxRecDepth 65536 in
theorem w_case : (Jvm.Cond.and given_1 narrow_1).before args0 about1 = true := by decide +kernel
set_option maxRecDepth 65536 in
theorem w_consts : constsHeld consts_1 about1 := Jvm.Lit.constsHeldB_iff.mp (by decide +kernel)
theorem w_applies : (headSpec (Jvm.Cond.code x code maxLocals ret :: tables_1) room_1).applies x e0.platform about1 = true :=
  (Spec.applies_iff w_frames).mpr ⟨w_running, w_runnable, w_alone, w_named, w_hears, w_ripe, w_room, w_tables⟩
theorem atStart : AtStart classFile x code maxLocals ret World_1 tables_1 room_1 Calls_1 rest_1 Pre_1 launch0 p0 e0 about1 theMethod args0 below0 :=
  ⟨lists_1, trivial, launch0.admits_env _ _ _, launch0.least_env, fairChoices_fair.cas, fairChoices_fair.clock, w_frames, w_args, w_heap, w_applies, ⟨w_consts, trivial⟩, w_rest, w_case⟩
end start1
theorem witness_1 : WitnessClaimed_1 := ⟨start1.p0, start1.e0, start1.about1, start1.theMethod, start1.args0, start1.below0, start1.atStart⟩
end Jvm.Pilot.@@N@@
