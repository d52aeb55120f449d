import JvmDerived
import JvmDerived.Pilot.@@N@@Statement
import JvmDerived.Pilot.@@N@@Code
set_option linter.unusedVariables false
set_option linter.unusedSimpArgs false
namespace Jvm.Pilot.@@N@@
open Jvm Jvm.ClassFile Sem Op Lib Jvm.Free Jvm.Stand Jvm.LawKit Jvm.RoadKit Bundle Jvm.Pilot.@@N@@.Jvm.D
theorem own_retI {p : Program} {l : Launch} {e : Env} {R : Room} {s : State} {m : MethodId} {args : Array Value} {below : List Frame} {meth : Method} {c : Code} {T : State} {locs : List Loc} {cells slots : Nat} (X : Stand p l e R s m args below meth c T locs cells slots) (hx : p.tables.exec = Jvm.exec) {pc : Nat} {Ls : Array Slot} {z : Int32} {rest : List Value} (hret : meth.sig.returnType = some .int) (hd : decode c.code pc = .ok (.ireturn, 1)) {fs : List Frame}
    (hl : ∀ (f : JFrame) (acts : List Action), f.method = m → f.locked = none → f.entered = [] → (doReturn e (T.setTop f) acts (some (.int z))).1 = T.setFrames fs) : Steps p.tables e below (T.setTop (mkF m pc Ls (.int z :: rest))) (T.setFrames fs) :=
  retOut X hx hret rfl (Or.inl ⟨rfl, Or.inl rfl, z, rfl⟩) hd hl
theorem own_retJ {p : Program} {l : Launch} {e : Env} {R : Room} {s : State} {m : MethodId} {args : Array Value} {below : List Frame} {meth : Method} {c : Code} {T : State} {locs : List Loc} {cells slots : Nat} (X : Stand p l e R s m args below meth c T locs cells slots) (hx : p.tables.exec = Jvm.exec) {pc : Nat} {Ls : Array Slot} {z : Int64} {rest : List Value} (hret : meth.sig.returnType = some .long) (hd : decode c.code pc = .ok (.lreturn, 1)) {fs : List Frame}
    (hl : ∀ (f : JFrame) (acts : List Action), f.method = m → f.locked = none → f.entered = [] → (doReturn e (T.setTop f) acts (some (.long z))).1 = T.setFrames fs) : Steps p.tables e below (T.setTop (mkF m pc Ls (.long z :: rest))) (T.setFrames fs) :=
  retOut X hx hret rfl (Or.inr (Or.inl ⟨rfl, rfl, z, rfl⟩)) hd hl
theorem own_retA {p : Program} {l : Launch} {e : Env} {R : Room} {s : State} {m : MethodId} {args : Array Value} {below : List Frame} {meth : Method} {c : Code} {T : State} {locs : List Loc} {cells slots : Nat} (X : Stand p l e R s m args below meth c T locs cells slots) (hx : p.tables.exec = Jvm.exec) {pc : Nat} {Ls : Array Slot} {w : Value} {rest : List Value} {t : FieldType} (hret : meth.sig.returnType = some t) (ht : t.isReference = true) (hn : narrow t w = w) (hw : w.isRef = true) (hd : decode c.code pc = .ok (.areturn, 1)) {fs : List Frame}
    (hl : ∀ (f : JFrame) (acts : List Action), f.method = m → f.locked = none → f.entered = [] → (doReturn e (T.setTop f) acts (some w)).1 = T.setFrames fs) : Steps p.tables e below (T.setTop (mkF m pc Ls (w :: rest))) (T.setFrames fs) :=
  retOut X hx hret hn (Or.inr (Or.inr (Or.inr (Or.inr ⟨rfl, ht, hw⟩)))) hd hl
theorem own_go {tb : Tables} {e : Env} {below : List Frame} {A B : State} {R : State → Outcome → Prop} (st : ∀ t, Steps tb e below A t → Steps tb e below B t) (h : ∃ U o, Steps tb e below A U ∧ R U o) : ∃ U o, Steps tb e below B U ∧ R U o := by
  obtain ⟨U, o, h1, h2⟩ := h
  exact ⟨U, o, st U h1, h2⟩
theorem own_via {tb : Tables} {e : Env} {below : List Frame} {A B : State} {R : State → Outcome → Prop} (st : Steps tb e below B A) (h : ∃ U o, Steps tb e below A U ∧ R U o) : ∃ U o, Steps tb e below B U ∧ R U o := by
  obtain ⟨U, o, h1, h2⟩ := h
  exact ⟨U, o, st.trans h1, h2⟩
theorem own_eqInt {t : Term} {k : Int32} {args : Array Value} {s : State} (h : (Jvm.Cond.eq t (.int k)).value args s none s [] = some true) : t.eval args s none [] s = some (.int k) := by
  cases ha : t.eval args s none [] s with
  | none => simp [Cond.value, ha] at h
  | some x => cases x <;> simp_all [Cond.value, Term.eval, Value.isRef]
theorem own_selP {s : State} {args : Array Value} {y : MethodName} {n : Nat} (hinst : (Jvm.Cond.instanceMethod y).before args s = true) (hp : (Jvm.Cond.privateMethod y).before args s = true) (hi : (Jvm.Cond.instantiable y.cls n).before args s = true) (hy : y.cls ≠ "java/lang/invoke/MethodHandle" ∧ y.cls ≠ "java/lang/invoke/VarHandle") : (Jvm.Cond.selects y.cls y y).before args s = true := by
  obtain ⟨c, k, h1, h2, -, h4, -, -⟩ := Cond.instantiable_spec hi
  simp only [Bool.or_eq_false_iff] at h4
  exact selects_self_of_private h1 h2 h4.1 (Cond.privateMethod_at hp) hinst hy
theorem own_stoV {Z : State} {h : Heap} {a y : Addr} {k : ClassId} {ty : FieldType} {n : Int32} {vs : List Value} {d : Value} {C : String} (F : Arv Z h a k ty n vs d) (O : Ovr Z k C) (I : Ins Z h y C true) : Sto Z h a (.ref y) := by
  obtain ⟨c, A, q, -⟩ := F
  exact Sto.ofV A q O I
theorem own_cat1 {v : Value} (h : v.isRef = true) : v.category = 1 := by cases v <;> simp_all [Value.isRef, Value.category]
theorem own_nref {t : FieldType} {v : Value} (h : v.isRef = true) : narrow t v = v := by cases v <;> simp_all [Value.isRef, narrow]
theorem own_narb (x : Int32) : nar .byte x.toInt8.toInt32 = x.toInt8.toInt32 := by simp [nar]
theorem own_w {Z : State} {a0 : Array Value} (hw : ∀ d ∈ tables_1, d.before a0 Z = true) (i : Nat) {d : Jvm.Cond} (h : tables_1[i]? = some d) : d.before a0 Z = true := hw _ (List.mem_of_getElem? h)
theorem own_bT {P : Prop} [Decidable P] (h : P) : (if P then (1 : Int32) else 0) = 1 := if_pos h
theorem own_bF {P : Prop} [Decidable P] (h : ¬ P) : (if P then (1 : Int32) else 0) = 0 := if_neg h
theorem own_narB {P : Prop} [Decidable P] : nar .boolean (if P then (1 : Int32) else 0) = (if P then (1 : Int32) else 0) := by split <;> rfl
theorem own_strA {Z : State} {a0 : Array Value} (hw : ∀ d ∈ tables_1, d.before a0 Z = true) : ∀ a ∈ Bundle.stringAtoms, a.before a0 Z = true := by
  intro a ha
  simp only [Bundle.stringAtoms, List.mem_cons, List.not_mem_nil, or_false] at ha
  rcases ha with rfl | rfl | rfl | rfl | rfl | rfl | rfl
  · exact (own_w hw 12 rfl)
  · exact (own_w hw 13 rfl)
  · exact (own_w hw 14 rfl)
  · exact (own_w hw 15 rfl)
  · exact (own_w hw 16 rfl)
  · exact (own_w hw 17 rfl)
  · exact (own_w hw 18 rfl)
theorem own_shr0 (n : Int32) : (n >>> ((0 : Int32) &&& 31)) = n := by
  apply Int32.toInt_inj.mp; rw [c_ishr n 0 0 (by decide)]; simp
theorem own_ch (x : Int32) : nar .char (x &&& 255).toUInt32.toUInt16.toUInt32.toInt32 = x &&& 255 := by
  show ((x &&& 255).toUInt32.toUInt16.toUInt32.toInt32).toUInt32.toUInt16.toUInt32.toInt32 = _
  rw [i2c_mask, i2c_mask]
theorem own_ch1 (x : Int32) : nar .char (x &&& 255) = x &&& 255 := i2c_mask x
theorem d8_0 : decode jdk_42_method_152_code 0 = .ok (.getstatic 38, 3) := by decide +kernel
theorem d8_3 : decode jdk_42_method_152_code 3 = .ok (.ifCond .eq 10, 3) := by decide +kernel
theorem d8_6 : decode jdk_42_method_152_code 6 = .ok (.aload_n 0, 1) := by decide +kernel
theorem d8_7 : decode jdk_42_method_152_code 7 = .ok (.getfield 15, 3) := by decide +kernel
theorem d8_10 : decode jdk_42_method_152_code 10 = .ok (.goto 4, 3) := by decide +kernel
theorem d8_14 : decode jdk_42_method_152_code 14 = .ok (.ireturn, 1) := by decide +kernel
abbrev own_y0 : MethodName := ⟨"java/lang/String", "coder", "()B"⟩
theorem ef_rmCoder (m : MethodId) (a : Addr) : entryFrame m #[(.ref a)] 1 = mkF m 0 #[.val (.ref a)] [] := by first | (simp [entryFrame, mkF, argsToLocals, Value.category]; done) | rfl
def Q_rmCoder (Z : State) (a : Addr) (cs : Int32) (h0 : Heap) (n0 : Nat) (v_ : Option Value) (h_ : Heap) (L_ : List Loc) : Prop := v_ = some (.int (0 : Int32)) ∧ Fr n0 L_ ∧ h_ = h0
theorem pn_0 : plainName "java/lang/String" = true := by first | (simp [plainName, overriddenIn]; done) | decide +kernel
set_option maxRecDepth 65536 in
set_option maxHeartbeats 40000000 in
theorem rmCoder (l : Launch) (Z : State) (a0 : Array Value) (hw : ∀ d ∈ tables_1, d.before a0 Z = true) (ws : List Jvm.Cond) (a : Addr) (cs : Int32) (h0 : Heap) (n0 : Nat) (Z0 : n0 ≤ h0.size) (O0 : Old Z n0 h0) (u1 : Sta Z Z.heap "java/lang/String" "COMPACT_STRINGS" "Z" (.int cs)) (hcs : ¬ (cs = (0 : Int32))) (u3 : Fld Z h0 a "java/lang/String" "coder" "B" (.int (0 : Int32))) :
    MetFree l own_y0 (head1 (Jvm.Cond.code own_y0 jdk_42_method_152_code 1 (some .byte) :: ws) ({ frames := 0, cells := 0, slots := 0, locals := 0 } : Room)) (fun a_ U_ => a_ = #[(.ref a)] ∧ Z.Warmed39 U_.vm ∧ U_.heap = h0) (fun _ _ _ _ _ => True) (fun _ U_ o_ U2_ => ∃ v_ L_, o_ = .returned v_ ∧ Q_rmCoder Z a cs h0 n0 v_ U2_.heap L_ ∧ FrameEnd U_ o_ U2_ L_ ({ frames := 0, cells := 0, slots := 0, locals := 0 } : Room).cells ({ frames := 0, cells := 0, slots := 0, locals := 0 } : Room).slots) := by
  refine MetFree.of_bodySF (plainFor_of_name pn_0) hisR ?_
  intro p e s m args below meth c s₁ Bd hml0 hP hK
  obtain ⟨rfl, hZ, hh⟩ := hP
  have hx := Bd.exec
  have hby := Bd.bytes
  have hml : c.maxLocals = 1 := hml0
  have hown : s.vm.findClass "java/lang/String" = some m.cls := findClass_of_methodNamed Bd.named
  have hnm := (name_of_methodNamed Bd.named Bd.method).1
  have X0 : Stand p l e ({ frames := 0, cells := 0, slots := 0, locals := 0 } : Room) s m #[(.ref a)] below meth c s₁ [] 0 0 := Stand.of_body Bd
  have e0 : s₁.heap = h0 := by rw [← hh, Bd.state]; rfl
  have N0 := Fr.nil n0
  refine own_go (A := s₁.setTop (mkF m 0 #[.val (.ref a)] [])) (fun t_ k_ => castTop (ef_rmCoder m a) k_) ?_
  obtain ⟨T1, X1, e1, st1⟩ := getS2 X0 hx hZ hown (host := "") (Or.inl (own_w hw 49 rfl)) Via.refl e0 (u1.ext O0.2) (g := (mkF m 0 #[.val (.ref a)] [])) rfl (hb hby d8_0)
  refine own_go st1 ?_
  refine own_go (A := T1.setTop (mkF m 7 #[.val (.ref a)] [(.ref a)])) (fun t_ k_ => ?_) ?_
  · show Steps p.tables e below (T1.setTop (mkF m 3 #[.val (.ref a)] [(.int cs)])) t_
    refine XS.ifNo X1.here hx rfl (hb hby d8_3) rfl ((if0 _ _).trans (feq hcs).1) ?_
    show Steps p.tables e below (T1.setTop (mkF m 6 #[.val (.ref a)] [])) t_
    refine XS.aloadN X1.here hx rfl (hb hby d8_6) rfl rfl ?_
    exact k_
  obtain ⟨T2, X2, e2, st2⟩ := getF X1 hx hZ hown (host := "") (Or.inl (own_w hw 50 rfl)) Via.refl e1 u3 (g := (mkF m 7 #[.val (.ref a)] [(.ref a)])) rfl rfl (hb hby d8_7)
  refine own_go st2 ?_
  refine own_go (A := T2.setTop (mkF m 14 #[.val (.ref a)] [(.int (0 : Int32))])) (fun t_ k_ => ?_) ?_
  · show Steps p.tables e below (T2.setTop (mkF m 10 #[.val (.ref a)] [(.int (0 : Int32))])) t_
    refine XS.goto X2.here hx rfl (pc0 := 10) (pc' := 14) rfl (hb hby d8_10) (by decide) (by decide) ?_
    exact k_
  obtain ⟨fs3, hr3, hrun3, hended3, hW3, hsame3⟩ := X2.leave (v := some (.int (0 : Int32))) (fun h => by rw [Bd.returns] at h; cases h)
  refine ⟨_, _, ?_, hrun3, hended3, _, _, rfl, ?_, ⟨_, rfl⟩, hW3, hsame3.mono (by decide) (by decide)⟩
  · exact retN X2 hx (t := .byte) Bd.returns (by simp) (hb hby d8_14) hr3
  · show Q_rmCoder Z a cs h0 n0 _ T2.heap _
    rw [e2]
    exact ⟨rfl, N0, rfl⟩
theorem d10_0 : decode jdk_42_method_154_code 0 = .ok (.getstatic 38, 3) := by decide +kernel
theorem d10_3 : decode jdk_42_method_154_code 3 = .ok (.ifCond .eq 14, 3) := by decide +kernel
theorem d10_6 : decode jdk_42_method_154_code 6 = .ok (.aload_n 0, 1) := by decide +kernel
theorem d10_7 : decode jdk_42_method_154_code 7 = .ok (.getfield 15, 3) := by decide +kernel
theorem d10_10 : decode jdk_42_method_154_code 10 = .ok (.ifCond .ne 7, 3) := by decide +kernel
theorem d10_13 : decode jdk_42_method_154_code 13 = .ok (.iconst 1, 1) := by decide +kernel
theorem d10_14 : decode jdk_42_method_154_code 14 = .ok (.goto 4, 3) := by decide +kernel
theorem d10_18 : decode jdk_42_method_154_code 18 = .ok (.ireturn, 1) := by decide +kernel
abbrev own_y1 : MethodName := ⟨"java/lang/String", "isLatin1", "()Z"⟩
theorem ef_rmIsL1 (m : MethodId) (a : Addr) : entryFrame m #[(.ref a)] 1 = mkF m 0 #[.val (.ref a)] [] := by first | (simp [entryFrame, mkF, argsToLocals, Value.category]; done) | rfl
def Q_rmIsL1 (Z : State) (a : Addr) (cs : Int32) (h0 : Heap) (n0 : Nat) (v_ : Option Value) (h_ : Heap) (L_ : List Loc) : Prop := v_ = some (.int (1 : Int32)) ∧ Fr n0 L_ ∧ h_ = h0
set_option maxRecDepth 65536 in
set_option maxHeartbeats 40000000 in
theorem rmIsL1 (l : Launch) (Z : State) (a0 : Array Value) (hw : ∀ d ∈ tables_1, d.before a0 Z = true) (ws : List Jvm.Cond) (a : Addr) (cs : Int32) (h0 : Heap) (n0 : Nat) (Z0 : n0 ≤ h0.size) (O0 : Old Z n0 h0) (u1 : Sta Z Z.heap "java/lang/String" "COMPACT_STRINGS" "Z" (.int cs)) (hcs : ¬ (cs = (0 : Int32))) (u3 : Fld Z h0 a "java/lang/String" "coder" "B" (.int (0 : Int32))) :
    MetFree l own_y1 (head1 (Jvm.Cond.code own_y1 jdk_42_method_154_code 1 (some .boolean) :: ws) ({ frames := 0, cells := 0, slots := 0, locals := 0 } : Room)) (fun a_ U_ => a_ = #[(.ref a)] ∧ Z.Warmed39 U_.vm ∧ U_.heap = h0) (fun _ _ _ _ _ => True) (fun _ U_ o_ U2_ => ∃ v_ L_, o_ = .returned v_ ∧ Q_rmIsL1 Z a cs h0 n0 v_ U2_.heap L_ ∧ FrameEnd U_ o_ U2_ L_ ({ frames := 0, cells := 0, slots := 0, locals := 0 } : Room).cells ({ frames := 0, cells := 0, slots := 0, locals := 0 } : Room).slots) := by
  refine MetFree.of_bodySF (plainFor_of_name pn_0) hisR ?_
  intro p e s m args below meth c s₁ Bd hml0 hP hK
  obtain ⟨rfl, hZ, hh⟩ := hP
  have hx := Bd.exec
  have hby := Bd.bytes
  have hml : c.maxLocals = 1 := hml0
  have hown : s.vm.findClass "java/lang/String" = some m.cls := findClass_of_methodNamed Bd.named
  have hnm := (name_of_methodNamed Bd.named Bd.method).1
  have X0 : Stand p l e ({ frames := 0, cells := 0, slots := 0, locals := 0 } : Room) s m #[(.ref a)] below meth c s₁ [] 0 0 := Stand.of_body Bd
  have e0 : s₁.heap = h0 := by rw [← hh, Bd.state]; rfl
  have N0 := Fr.nil n0
  refine own_go (A := s₁.setTop (mkF m 0 #[.val (.ref a)] [])) (fun t_ k_ => castTop (ef_rmIsL1 m a) k_) ?_
  obtain ⟨T1, X1, e1, st1⟩ := getS2 X0 hx hZ hown (host := "") (Or.inl (own_w hw 49 rfl)) Via.refl e0 (u1.ext O0.2) (g := (mkF m 0 #[.val (.ref a)] [])) rfl (hb hby d10_0)
  refine own_go st1 ?_
  refine own_go (A := T1.setTop (mkF m 7 #[.val (.ref a)] [(.ref a)])) (fun t_ k_ => ?_) ?_
  · show Steps p.tables e below (T1.setTop (mkF m 3 #[.val (.ref a)] [(.int cs)])) t_
    refine XS.ifNo X1.here hx rfl (hb hby d10_3) rfl ((if0 _ _).trans (feq hcs).1) ?_
    show Steps p.tables e below (T1.setTop (mkF m 6 #[.val (.ref a)] [])) t_
    refine XS.aloadN X1.here hx rfl (hb hby d10_6) rfl rfl ?_
    exact k_
  obtain ⟨T2, X2, e2, st2⟩ := getF X1 hx hZ hown (host := "") (Or.inl (own_w hw 50 rfl)) Via.refl e1 u3 (g := (mkF m 7 #[.val (.ref a)] [(.ref a)])) rfl rfl (hb hby d10_7)
  refine own_go st2 ?_
  refine own_go (A := T2.setTop (mkF m 18 #[.val (.ref a)] [(.int (1 : Int32))])) (fun t_ k_ => ?_) ?_
  · show Steps p.tables e below (T2.setTop (mkF m 10 #[.val (.ref a)] [(.int (0 : Int32))])) t_
    refine XS.ifNo X2.here hx rfl (hb hby d10_10) rfl ((if0 _ _).trans (teq (by decide : (0 : Int32) = (0 : Int32))).2) ?_
    show Steps p.tables e below (T2.setTop (mkF m 13 #[.val (.ref a)] [])) t_
    refine XS.iconst X2.here hx rfl (hb hby d10_13) ?_
    show Steps p.tables e below (T2.setTop (mkF m 14 #[.val (.ref a)] [(.int (1 : Int32))])) t_
    refine XS.goto X2.here hx rfl (pc0 := 14) (pc' := 18) rfl (hb hby d10_14) (by decide) (by decide) ?_
    exact k_
  obtain ⟨fs3, hr3, hrun3, hended3, hW3, hsame3⟩ := X2.leave (v := some (.int (1 : Int32))) (fun h => by rw [Bd.returns] at h; cases h)
  refine ⟨_, _, ?_, hrun3, hended3, _, _, rfl, ?_, ⟨_, rfl⟩, hW3, hsame3.mono (by decide) (by decide)⟩
  · exact retN X2 hx (t := .boolean) Bd.returns (by simp) (hb hby d10_18) hr3
  · show Q_rmIsL1 Z a cs h0 n0 _ T2.heap _
    rw [e2]
    exact ⟨rfl, N0, rfl⟩
theorem d7_0 : decode jdk_42_method_54_code 0 = .ok (.aload_n 0, 1) := by decide +kernel
theorem d7_1 : decode jdk_42_method_54_code 1 = .ok (.getfield 9, 3) := by decide +kernel
theorem d7_4 : decode jdk_42_method_54_code 4 = .ok (.arraylength, 1) := by decide +kernel
theorem d7_5 : decode jdk_42_method_54_code 5 = .ok (.aload_n 0, 1) := by decide +kernel
theorem pd_0 : parseMethodDescriptor "()B" = some ⟨[], some .byte⟩ := by decide +kernel
theorem d7_6 : decode jdk_42_method_54_code 6 = .ok (.invokevirtual 335, 3) := by decide +kernel
theorem d7_9 : decode jdk_42_method_54_code 9 = .ok (.ishr, 1) := by decide +kernel
theorem d7_10 : decode jdk_42_method_54_code 10 = .ok (.ireturn, 1) := by decide +kernel
abbrev own_y2 : MethodName := ⟨"java/lang/String", "length", "()I"⟩
theorem ef_rmLen (m : MethodId) (a : Addr) : entryFrame m #[(.ref a)] 1 = mkF m 0 #[.val (.ref a)] [] := by first | (simp [entryFrame, mkF, argsToLocals, Value.category]; done) | rfl
def Q_rmLen (Z : State) (a : Addr) (d : Addr) (k : ClassId) (n : Int32) (vs : List Value) (cs : Int32) (h0 : Heap) (n0 : Nat) (v_ : Option Value) (h_ : Heap) (L_ : List Loc) : Prop := v_ = some (.int n) ∧ Fr n0 L_ ∧ h_ = h0
set_option maxRecDepth 65536 in
set_option maxHeartbeats 40000000 in
theorem rmLen (l : Launch) (Z : State) (a0 : Array Value) (hw : ∀ d ∈ tables_1, d.before a0 Z = true) (ws : List Jvm.Cond) (a : Addr) (d : Addr) (k : ClassId) (n : Int32) (vs : List Value) (cs : Int32) (h0 : Heap) (n0 : Nat) (Z0 : n0 ≤ h0.size) (O0 : Old Z n0 h0) (u1 : Sta Z Z.heap "java/lang/String" "COMPACT_STRINGS" "Z" (.int cs)) (hcs : ¬ (cs = (0 : Int32))) (u3 : Exa Z h0 a "java/lang/String") (u4 : Fld Z h0 a "java/lang/String" "coder" "B" (.int (0 : Int32))) (u5 : Fld Z h0 a "java/lang/String" "value" "[B" (.ref d)) (u6 : Arv Z h0 d k .byte n vs (.int (0 : Int32))) :
    MetFree l own_y2 (head1 (Jvm.Cond.code own_y2 jdk_42_method_54_code 1 (some .int) :: ws) ({ frames := 1, cells := 0, slots := 0, locals := 13 } : Room)) (fun a_ U_ => a_ = #[(.ref a)] ∧ Z.Warmed39 U_.vm ∧ U_.heap = h0) (fun _ _ _ _ _ => True) (fun _ U_ o_ U2_ => ∃ v_ L_, o_ = .returned v_ ∧ Q_rmLen Z a d k n vs cs h0 n0 v_ U2_.heap L_ ∧ FrameEnd U_ o_ U2_ L_ ({ frames := 1, cells := 0, slots := 0, locals := 13 } : Room).cells ({ frames := 1, cells := 0, slots := 0, locals := 13 } : Room).slots) := by
  refine MetFree.of_bodySF (plainFor_of_name pn_0) hisR ?_
  intro p e s m args below meth c s₁ Bd hml0 hP hK
  obtain ⟨rfl, hZ, hh⟩ := hP
  have hx := Bd.exec
  have hby := Bd.bytes
  have hml : c.maxLocals = 1 := hml0
  have hown : s.vm.findClass "java/lang/String" = some m.cls := findClass_of_methodNamed Bd.named
  have hnm := (name_of_methodNamed Bd.named Bd.method).1
  have X0 : Stand p l e ({ frames := 1, cells := 0, slots := 0, locals := 13 } : Room) s m #[(.ref a)] below meth c s₁ [] 0 0 := Stand.of_body Bd
  have e0 : s₁.heap = h0 := by rw [← hh, Bd.state]; rfl
  have N0 := Fr.nil n0
  refine own_go (A := s₁.setTop (mkF m 0 #[.val (.ref a)] [])) (fun t_ k_ => castTop (ef_rmLen m a) k_) ?_
  refine own_go (A := s₁.setTop (mkF m 1 #[.val (.ref a)] [(.ref a)])) (fun t_ k_ => ?_) ?_
  · show Steps p.tables e below (s₁.setTop (mkF m 0 #[.val (.ref a)] [])) t_
    refine XS.aloadN X0.here hx rfl (hb hby d7_0) rfl rfl ?_
    exact k_
  obtain ⟨T1, X1, e1, st1⟩ := getF X0 hx hZ hown (host := "") (Or.inl (own_w hw 38 rfl)) Via.refl e0 u5 (g := (mkF m 1 #[.val (.ref a)] [(.ref a)])) rfl rfl (hb hby d7_1)
  refine own_go st1 ?_
  obtain ⟨cl2, Ar2, q2, S2, M2, H2, G2⟩ := id u6
  refine own_go (A := T1.setTop (mkF m 6 #[.val (.ref a)] [(.ref a), (.int n)])) (fun t_ k_ => ?_) ?_
  · show Steps p.tables e below (T1.setTop (mkF m 4 #[.val (.ref a)] [(.ref d)])) t_
    refine X1.arraylength hx (by rw [e1]; exact Ar2.1) (State.isArrayOf_alike hZ.alike Ar2.2.1) (g := (mkF m 4 #[.val (.ref a)] [(.ref d)])) rfl rfl (hb hby d7_4) _ ?_
    rw [len_of S2 M2]
    show Steps p.tables e below (T1.setTop (mkF m 5 #[.val (.ref a)] [(.int n)])) t_
    refine XS.aloadN X1.here hx rfl (hb hby d7_5) rfl rfl ?_
    exact k_
  obtain ⟨cq3, kq3, q3a, q3b, q3c⟩ := isOf hZ e1 u3
  obtain ⟨_, _, ⟨T3, L3, k3, n3⟩, -, X3, ⟨Lc3, hQ3, l3, y3, z3⟩, st3⟩ := X1.virtualBack hx (y := own_y0) (z := own_y0) hown (mvT hZ (own_w hw 44 rfl)) (mvT hZ (own_w hw 45 rfl)) (notFace_of_selects (args := #[]) (mvT hZ (own_w hw 47 rfl))) (mvT hZ (own_w hw 47 rfl)) (mvT hZ (own_w hw 46 rfl)) (by decide) (backOf (W := 1) (rmCoder l Z a0 hw [] a cs h0 n0 Z0 O0 u1 hcs u4) hZ (own_w hw 48 rfl) (own_w hw 12 rfl) (by decide) (by decide)) q3a q3c (g := (mkF m 6 #[.val (.ref a)] [(.ref a), (.int n)])) rfl (by rw [hml]; rfl) (Steps.refl _) (argsL := []) (rest := [(.int n)]) (lenOf pd_0 rfl) rfl (by show 2 * 0 + _ ≤ _; exact Nat.le_of_eq rfl) (hb hby d7_6) (fun _ _ => ⟨rfl, e1, (by decide : 0 + 0 ≤ _), (by decide : 0 + 0 ≤ _)⟩)
  dsimp only [Pt.U, Pt.locs, Pt.cells, Pt.slots] at X3 l3 y3 z3 st3 hQ3
  subst l3 y3 z3
  obtain ⟨rfl, N3q, eh3⟩ := hQ3
  have N3 := Fr.app N0 N3q
  refine own_via st3 ?_
  refine own_go (A := T3.setTop (mkF m 10 #[.val (.ref a)] [(.int (n >>> ((0 : Int32) &&& 31)))])) (fun t_ k_ => ?_) ?_
  · show Steps p.tables e below (T3.setTop (mkF m 9 #[.val (.ref a)] [(.int (0 : Int32)), (.int n)])) t_
    refine XS.ishr X3.here hx rfl (hb hby d7_9) rfl ?_
    exact k_
  obtain ⟨fs4, hr4, hrun4, hended4, hW4, hsame4⟩ := X3.leave (v := some (.int (n >>> ((0 : Int32) &&& 31)))) (fun h => by rw [Bd.returns] at h; cases h)
  refine ⟨_, _, ?_, hrun4, hended4, _, _, rfl, ?_, ⟨_, rfl⟩, hW4, hsame4.mono (by decide) (by decide)⟩
  · exact own_retI X3 hx Bd.returns (hb hby d7_10) hr4
  · show Q_rmLen Z a d k n vs cs h0 n0 _ T3.heap _
    rw [eh3]
    exact ⟨(congrArg (fun z => some (Value.int z)) (own_shr0 n)), N3, rfl⟩
theorem d6_0 : decode jdk_42_method_55_code 0 = .ok (.aload_n 0, 1) := by decide +kernel
theorem d6_1 : decode jdk_42_method_55_code 1 = .ok (.getfield 9, 3) := by decide +kernel
theorem d6_4 : decode jdk_42_method_55_code 4 = .ok (.arraylength, 1) := by decide +kernel
theorem d6_5 : decode jdk_42_method_55_code 5 = .ok (.ifCond .ne 7, 3) := by decide +kernel
theorem d6_8 : decode jdk_42_method_55_code 8 = .ok (.iconst 1, 1) := by decide +kernel
theorem d6_9 : decode jdk_42_method_55_code 9 = .ok (.goto 4, 3) := by decide +kernel
theorem d6_13 : decode jdk_42_method_55_code 13 = .ok (.ireturn, 1) := by decide +kernel
abbrev own_y3 : MethodName := ⟨"java/lang/String", "isEmpty", "()Z"⟩
theorem ef_rmEmpty1 (m : MethodId) (a : Addr) : entryFrame m #[(.ref a)] 1 = mkF m 0 #[.val (.ref a)] [] := by first | (simp [entryFrame, mkF, argsToLocals, Value.category]; done) | rfl
def Q_rmEmpty1 (Z : State) (a : Addr) (d : Addr) (k : ClassId) (n : Int32) (vs : List Value) (h0 : Heap) (n0 : Nat) (v_ : Option Value) (h_ : Heap) (L_ : List Loc) : Prop := v_ = some (.int (1 : Int32)) ∧ Fr n0 L_ ∧ h_ = h0
set_option maxRecDepth 65536 in
set_option maxHeartbeats 40000000 in
theorem rmEmpty1 (l : Launch) (Z : State) (a0 : Array Value) (hw : ∀ d ∈ tables_1, d.before a0 Z = true) (ws : List Jvm.Cond) (a : Addr) (d : Addr) (k : ClassId) (n : Int32) (vs : List Value) (h0 : Heap) (n0 : Nat) (Z0 : n0 ≤ h0.size) (u0 : Fld Z h0 a "java/lang/String" "value" "[B" (.ref d)) (u1 : Arv Z h0 d k .byte n vs (.int (0 : Int32))) (hn : n = (0 : Int32)) :
    MetFree l own_y3 (head1 (Jvm.Cond.code own_y3 jdk_42_method_55_code 1 (some .boolean) :: ws) ({ frames := 0, cells := 0, slots := 0, locals := 0 } : Room)) (fun a_ U_ => a_ = #[(.ref a)] ∧ Z.Warmed39 U_.vm ∧ U_.heap = h0) (fun _ _ _ _ _ => True) (fun _ U_ o_ U2_ => ∃ v_ L_, o_ = .returned v_ ∧ Q_rmEmpty1 Z a d k n vs h0 n0 v_ U2_.heap L_ ∧ FrameEnd U_ o_ U2_ L_ ({ frames := 0, cells := 0, slots := 0, locals := 0 } : Room).cells ({ frames := 0, cells := 0, slots := 0, locals := 0 } : Room).slots) := by
  refine MetFree.of_bodySF (plainFor_of_name pn_0) hisR ?_
  intro p e s m args below meth c s₁ Bd hml0 hP hK
  obtain ⟨rfl, hZ, hh⟩ := hP
  have hx := Bd.exec
  have hby := Bd.bytes
  have hml : c.maxLocals = 1 := hml0
  have hown : s.vm.findClass "java/lang/String" = some m.cls := findClass_of_methodNamed Bd.named
  have hnm := (name_of_methodNamed Bd.named Bd.method).1
  have X0 : Stand p l e ({ frames := 0, cells := 0, slots := 0, locals := 0 } : Room) s m #[(.ref a)] below meth c s₁ [] 0 0 := Stand.of_body Bd
  have e0 : s₁.heap = h0 := by rw [← hh, Bd.state]; rfl
  have N0 := Fr.nil n0
  refine own_go (A := s₁.setTop (mkF m 0 #[.val (.ref a)] [])) (fun t_ k_ => castTop (ef_rmEmpty1 m a) k_) ?_
  refine own_go (A := s₁.setTop (mkF m 1 #[.val (.ref a)] [(.ref a)])) (fun t_ k_ => ?_) ?_
  · show Steps p.tables e below (s₁.setTop (mkF m 0 #[.val (.ref a)] [])) t_
    refine XS.aloadN X0.here hx rfl (hb hby d6_0) rfl rfl ?_
    exact k_
  obtain ⟨T1, X1, e1, st1⟩ := getF X0 hx hZ hown (host := "") (Or.inl (own_w hw 38 rfl)) Via.refl e0 u0 (g := (mkF m 1 #[.val (.ref a)] [(.ref a)])) rfl rfl (hb hby d6_1)
  refine own_go st1 ?_
  obtain ⟨cl2, Ar2, q2, S2, M2, H2, G2⟩ := id u1
  refine own_go (A := T1.setTop (mkF m 13 #[.val (.ref a)] [(.int (1 : Int32))])) (fun t_ k_ => ?_) ?_
  · show Steps p.tables e below (T1.setTop (mkF m 4 #[.val (.ref a)] [(.ref d)])) t_
    refine X1.arraylength hx (by rw [e1]; exact Ar2.1) (State.isArrayOf_alike hZ.alike Ar2.2.1) (g := (mkF m 4 #[.val (.ref a)] [(.ref d)])) rfl rfl (hb hby d6_4) _ ?_
    rw [len_of S2 M2]
    show Steps p.tables e below (T1.setTop (mkF m 5 #[.val (.ref a)] [(.int n)])) t_
    refine XS.ifNo X1.here hx rfl (hb hby d6_5) rfl ((if0 _ _).trans (teq hn).2) ?_
    show Steps p.tables e below (T1.setTop (mkF m 8 #[.val (.ref a)] [])) t_
    refine XS.iconst X1.here hx rfl (hb hby d6_8) ?_
    show Steps p.tables e below (T1.setTop (mkF m 9 #[.val (.ref a)] [(.int (1 : Int32))])) t_
    refine XS.goto X1.here hx rfl (pc0 := 9) (pc' := 13) rfl (hb hby d6_9) (by decide) (by decide) ?_
    exact k_
  obtain ⟨fs3, hr3, hrun3, hended3, hW3, hsame3⟩ := X1.leave (v := some (.int (1 : Int32))) (fun h => by rw [Bd.returns] at h; cases h)
  refine ⟨_, _, ?_, hrun3, hended3, _, _, rfl, ?_, ⟨_, rfl⟩, hW3, hsame3.mono (by decide) (by decide)⟩
  · exact retN X1 hx (t := .boolean) Bd.returns (by simp) (hb hby d6_13) hr3
  · show Q_rmEmpty1 Z a d k n vs h0 n0 _ T1.heap _
    rw [e1]
    exact ⟨rfl, N0, rfl⟩
theorem d6_12 : decode jdk_42_method_55_code 12 = .ok (.iconst 0, 1) := by decide +kernel
theorem ef_rmEmpty0 (m : MethodId) (a : Addr) : entryFrame m #[(.ref a)] 1 = mkF m 0 #[.val (.ref a)] [] := by first | (simp [entryFrame, mkF, argsToLocals, Value.category]; done) | rfl
def Q_rmEmpty0 (Z : State) (a : Addr) (d : Addr) (k : ClassId) (n : Int32) (vs : List Value) (h0 : Heap) (n0 : Nat) (v_ : Option Value) (h_ : Heap) (L_ : List Loc) : Prop := v_ = some (.int (0 : Int32)) ∧ Fr n0 L_ ∧ h_ = h0
set_option maxRecDepth 65536 in
set_option maxHeartbeats 40000000 in
theorem rmEmpty0 (l : Launch) (Z : State) (a0 : Array Value) (hw : ∀ d ∈ tables_1, d.before a0 Z = true) (ws : List Jvm.Cond) (a : Addr) (d : Addr) (k : ClassId) (n : Int32) (vs : List Value) (h0 : Heap) (n0 : Nat) (Z0 : n0 ≤ h0.size) (u0 : Fld Z h0 a "java/lang/String" "value" "[B" (.ref d)) (u1 : Arv Z h0 d k .byte n vs (.int (0 : Int32))) (hn : ¬ (n = (0 : Int32))) :
    MetFree l own_y3 (head1 (Jvm.Cond.code own_y3 jdk_42_method_55_code 1 (some .boolean) :: ws) ({ frames := 0, cells := 0, slots := 0, locals := 0 } : Room)) (fun a_ U_ => a_ = #[(.ref a)] ∧ Z.Warmed39 U_.vm ∧ U_.heap = h0) (fun _ _ _ _ _ => True) (fun _ U_ o_ U2_ => ∃ v_ L_, o_ = .returned v_ ∧ Q_rmEmpty0 Z a d k n vs h0 n0 v_ U2_.heap L_ ∧ FrameEnd U_ o_ U2_ L_ ({ frames := 0, cells := 0, slots := 0, locals := 0 } : Room).cells ({ frames := 0, cells := 0, slots := 0, locals := 0 } : Room).slots) := by
  refine MetFree.of_bodySF (plainFor_of_name pn_0) hisR ?_
  intro p e s m args below meth c s₁ Bd hml0 hP hK
  obtain ⟨rfl, hZ, hh⟩ := hP
  have hx := Bd.exec
  have hby := Bd.bytes
  have hml : c.maxLocals = 1 := hml0
  have hown : s.vm.findClass "java/lang/String" = some m.cls := findClass_of_methodNamed Bd.named
  have hnm := (name_of_methodNamed Bd.named Bd.method).1
  have X0 : Stand p l e ({ frames := 0, cells := 0, slots := 0, locals := 0 } : Room) s m #[(.ref a)] below meth c s₁ [] 0 0 := Stand.of_body Bd
  have e0 : s₁.heap = h0 := by rw [← hh, Bd.state]; rfl
  have N0 := Fr.nil n0
  refine own_go (A := s₁.setTop (mkF m 0 #[.val (.ref a)] [])) (fun t_ k_ => castTop (ef_rmEmpty0 m a) k_) ?_
  refine own_go (A := s₁.setTop (mkF m 1 #[.val (.ref a)] [(.ref a)])) (fun t_ k_ => ?_) ?_
  · show Steps p.tables e below (s₁.setTop (mkF m 0 #[.val (.ref a)] [])) t_
    refine XS.aloadN X0.here hx rfl (hb hby d6_0) rfl rfl ?_
    exact k_
  obtain ⟨T1, X1, e1, st1⟩ := getF X0 hx hZ hown (host := "") (Or.inl (own_w hw 38 rfl)) Via.refl e0 u0 (g := (mkF m 1 #[.val (.ref a)] [(.ref a)])) rfl rfl (hb hby d6_1)
  refine own_go st1 ?_
  obtain ⟨cl2, Ar2, q2, S2, M2, H2, G2⟩ := id u1
  refine own_go (A := T1.setTop (mkF m 13 #[.val (.ref a)] [(.int (0 : Int32))])) (fun t_ k_ => ?_) ?_
  · show Steps p.tables e below (T1.setTop (mkF m 4 #[.val (.ref a)] [(.ref d)])) t_
    refine X1.arraylength hx (by rw [e1]; exact Ar2.1) (State.isArrayOf_alike hZ.alike Ar2.2.1) (g := (mkF m 4 #[.val (.ref a)] [(.ref d)])) rfl rfl (hb hby d6_4) _ ?_
    rw [len_of S2 M2]
    show Steps p.tables e below (T1.setTop (mkF m 5 #[.val (.ref a)] [(.int n)])) t_
    refine XS.ifYes X1.here hx rfl (pc0 := 5) (pc' := 12) rfl (hb hby d6_5) rfl ((if0 _ _).trans (feq hn).2) (by decide) (by decide) ?_
    show Steps p.tables e below (T1.setTop (mkF m 12 #[.val (.ref a)] [])) t_
    refine XS.iconst X1.here hx rfl (hb hby d6_12) ?_
    exact k_
  obtain ⟨fs3, hr3, hrun3, hended3, hW3, hsame3⟩ := X1.leave (v := some (.int (0 : Int32))) (fun h => by rw [Bd.returns] at h; cases h)
  refine ⟨_, _, ?_, hrun3, hended3, _, _, rfl, ?_, ⟨_, rfl⟩, hW3, hsame3.mono (by decide) (by decide)⟩
  · exact retN X1 hx (t := .boolean) Bd.returns (by simp) (hb hby d6_13) hr3
  · show Q_rmEmpty0 Z a d k n vs h0 n0 _ T1.heap _
    rw [e1]
    exact ⟨rfl, N0, rfl⟩
theorem d13_0 : decode jdk_41_method_11_code 0 = .ok (.iload_n 0, 1) := by decide +kernel
theorem d13_1 : decode jdk_41_method_11_code 1 = .ok (.ifCond .lt 8, 3) := by decide +kernel
theorem d13_4 : decode jdk_41_method_11_code 4 = .ok (.iload_n 0, 1) := by decide +kernel
theorem d13_5 : decode jdk_41_method_11_code 5 = .ok (.iload_n 1, 1) := by decide +kernel
theorem d13_6 : decode jdk_41_method_11_code 6 = .ok (.if_icmp .lt 10, 3) := by decide +kernel
theorem d13_16 : decode jdk_41_method_11_code 16 = .ok (.iload_n 0, 1) := by decide +kernel
theorem d13_17 : decode jdk_41_method_11_code 17 = .ok (.ireturn, 1) := by decide +kernel
abbrev own_y4 : MethodName := ⟨"jdk/internal/util/Preconditions", "checkIndex", "(IILjava/util/function/BiFunction;)I"⟩
theorem ef_rmCkI (m : MethodId) (i : Int32) (n : Int32) (f : Value) (hf : f.isRef = true) : entryFrame m #[(.int i), (.int n), f] 3 = mkF m 0 #[.val (.int i), .val (.int n), .val f] [] := by
  rcases ref_cases hf with rfl | ⟨_, rfl⟩
  all_goals first | (simp [entryFrame, mkF, argsToLocals, Value.category]; done) | rfl
def Q_rmCkI (Z : State) (i : Int32) (n : Int32) (f : Value) (h0 : Heap) (n0 : Nat) (v_ : Option Value) (h_ : Heap) (L_ : List Loc) : Prop := v_ = some (.int i) ∧ Fr n0 L_ ∧ h_ = h0
theorem pn_1 : plainName "jdk/internal/util/Preconditions" = true := by first | (simp [plainName, overriddenIn]; done) | decide +kernel
set_option maxRecDepth 65536 in
set_option maxHeartbeats 40000000 in
theorem rmCkI (l : Launch) (Z : State) (a0 : Array Value) (hw : ∀ d ∈ tables_1, d.before a0 Z = true) (ws : List Jvm.Cond) (i : Int32) (n : Int32) (f : Value) (h0 : Heap) (n0 : Nat) (Z0 : n0 ≤ h0.size) (hf : f.isRef = true) (h1 : ¬ (i < (0 : Int32))) (h2 : i < n) :
    MetFree l own_y4 (head1 (Jvm.Cond.code own_y4 jdk_41_method_11_code 3 (some .int) :: ws) ({ frames := 0, cells := 0, slots := 0, locals := 0 } : Room)) (fun a_ U_ => a_ = #[(.int i), (.int n), f] ∧ Z.Warmed39 U_.vm ∧ U_.heap = h0) (fun _ _ _ _ _ => True) (fun _ U_ o_ U2_ => ∃ v_ L_, o_ = .returned v_ ∧ Q_rmCkI Z i n f h0 n0 v_ U2_.heap L_ ∧ FrameEnd U_ o_ U2_ L_ ({ frames := 0, cells := 0, slots := 0, locals := 0 } : Room).cells ({ frames := 0, cells := 0, slots := 0, locals := 0 } : Room).slots) := by
  refine MetFree.of_bodySF (plainFor_of_name pn_1) hisR ?_
  intro p e s m args below meth c s₁ Bd hml0 hP hK
  obtain ⟨rfl, hZ, hh⟩ := hP
  have hx := Bd.exec
  have hby := Bd.bytes
  have hml : c.maxLocals = 3 := hml0
  have hown : s.vm.findClass "jdk/internal/util/Preconditions" = some m.cls := findClass_of_methodNamed Bd.named
  have hnm := (name_of_methodNamed Bd.named Bd.method).1
  have X0 : Stand p l e ({ frames := 0, cells := 0, slots := 0, locals := 0 } : Room) s m #[(.int i), (.int n), f] below meth c s₁ [] 0 0 := Stand.of_body Bd
  have e0 : s₁.heap = h0 := by rw [← hh, Bd.state]; rfl
  have N0 := Fr.nil n0
  refine own_go (A := s₁.setTop (mkF m 0 #[.val (.int i), .val (.int n), .val f] [])) (fun t_ k_ => castTop (ef_rmCkI m i n f hf) k_) ?_
  refine own_go (A := s₁.setTop (mkF m 17 #[.val (.int i), .val (.int n), .val f] [(.int i)])) (fun t_ k_ => ?_) ?_
  · show Steps p.tables e below (s₁.setTop (mkF m 0 #[.val (.int i), .val (.int n), .val f] [])) t_
    refine XS.iloadN X0.here hx rfl (hb hby d13_0) rfl ?_
    show Steps p.tables e below (s₁.setTop (mkF m 1 #[.val (.int i), .val (.int n), .val f] [(.int i)])) t_
    refine XS.ifNo X0.here hx rfl (hb hby d13_1) rfl ((if0 _ _).trans (flt h1).1) ?_
    show Steps p.tables e below (s₁.setTop (mkF m 4 #[.val (.int i), .val (.int n), .val f] [])) t_
    refine XS.iloadN X0.here hx rfl (hb hby d13_4) rfl ?_
    show Steps p.tables e below (s₁.setTop (mkF m 5 #[.val (.int i), .val (.int n), .val f] [(.int i)])) t_
    refine XS.iloadN X0.here hx rfl (hb hby d13_5) rfl ?_
    show Steps p.tables e below (s₁.setTop (mkF m 6 #[.val (.int i), .val (.int n), .val f] [(.int n), (.int i)])) t_
    refine XS.icmpYes X0.here hx rfl (pc0 := 6) (pc' := 16) rfl (hb hby d13_6) rfl (tlt h2).1 (by decide) (by decide) ?_
    show Steps p.tables e below (s₁.setTop (mkF m 16 #[.val (.int i), .val (.int n), .val f] [])) t_
    refine XS.iloadN X0.here hx rfl (hb hby d13_16) rfl ?_
    exact k_
  obtain ⟨fs1, hr1, hrun1, hended1, hW1, hsame1⟩ := X0.leave (v := some (.int i)) (fun h => by rw [Bd.returns] at h; cases h)
  refine ⟨_, _, ?_, hrun1, hended1, _, _, rfl, ?_, ⟨_, rfl⟩, hW1, hsame1.mono (by decide) (by decide)⟩
  · exact own_retI X0 hx Bd.returns (hb hby d13_17) hr1
  · show Q_rmCkI Z i n f h0 n0 _ s₁.heap _
    rw [e0]
    exact ⟨rfl, N0, rfl⟩
theorem d12_0 : decode jdk_42_method_155_code 0 = .ok (.iload_n 0, 1) := by decide +kernel
theorem d12_1 : decode jdk_42_method_155_code 1 = .ok (.iload_n 1, 1) := by decide +kernel
theorem d12_2 : decode jdk_42_method_155_code 2 = .ok (.getstatic 1053, 3) := by decide +kernel
theorem pd_1 : parseMethodDescriptor "(IILjava/util/function/BiFunction;)I" = some ⟨[.int, .int, (.object "java/util/function/BiFunction")], some .int⟩ := by decide +kernel
theorem d12_5 : decode jdk_42_method_155_code 5 = .ok (.invokestatic 1059, 3) := by decide +kernel
theorem d12_8 : decode jdk_42_method_155_code 8 = .ok (.pop, 1) := by decide +kernel
theorem d12_9 : decode jdk_42_method_155_code 9 = .ok (.return_, 1) := by decide +kernel
abbrev own_y5 : MethodName := ⟨"java/lang/String", "checkIndex", "(II)V"⟩
theorem ef_rmSCk (m : MethodId) (i : Int32) (n : Int32) : entryFrame m #[(.int i), (.int n)] 2 = mkF m 0 #[.val (.int i), .val (.int n)] [] := by first | (simp [entryFrame, mkF, argsToLocals, Value.category]; done) | rfl
def Q_rmSCk (Z : State) (i : Int32) (n : Int32) (sf : Value) (h0 : Heap) (n0 : Nat) (v_ : Option Value) (h_ : Heap) (L_ : List Loc) : Prop := v_ = none ∧ Fr n0 L_ ∧ h_ = h0
set_option maxRecDepth 65536 in
set_option maxHeartbeats 40000000 in
theorem rmSCk (l : Launch) (Z : State) (a0 : Array Value) (hw : ∀ d ∈ tables_1, d.before a0 Z = true) (ws : List Jvm.Cond) (i : Int32) (n : Int32) (sf : Value) (h0 : Heap) (n0 : Nat) (Z0 : n0 ≤ h0.size) (O0 : Old Z n0 h0) (u1 : Sta Z Z.heap "jdk/internal/util/Preconditions" "SIOOBE_FORMATTER" "Ljava/util/function/BiFunction;" sf) (hsf : sf.isRef = true) (h1 : ¬ (i < (0 : Int32))) (h2 : i < n) :
    MetFree l own_y5 (head1 (Jvm.Cond.code own_y5 jdk_42_method_155_code 2 none :: ws) ({ frames := 1, cells := 0, slots := 0, locals := 14 } : Room)) (fun a_ U_ => a_ = #[(.int i), (.int n)] ∧ Z.Warmed39 U_.vm ∧ U_.heap = h0) (fun _ _ _ _ _ => True) (fun _ U_ o_ U2_ => ∃ v_ L_, o_ = .returned v_ ∧ Q_rmSCk Z i n sf h0 n0 v_ U2_.heap L_ ∧ FrameEnd U_ o_ U2_ L_ ({ frames := 1, cells := 0, slots := 0, locals := 14 } : Room).cells ({ frames := 1, cells := 0, slots := 0, locals := 14 } : Room).slots) := by
  refine MetFree.of_bodySF (plainFor_of_name pn_0) hisR ?_
  intro p e s m args below meth c s₁ Bd hml0 hP hK
  obtain ⟨rfl, hZ, hh⟩ := hP
  have hx := Bd.exec
  have hby := Bd.bytes
  have hml : c.maxLocals = 2 := hml0
  have hown : s.vm.findClass "java/lang/String" = some m.cls := findClass_of_methodNamed Bd.named
  have hnm := (name_of_methodNamed Bd.named Bd.method).1
  have X0 : Stand p l e ({ frames := 1, cells := 0, slots := 0, locals := 14 } : Room) s m #[(.int i), (.int n)] below meth c s₁ [] 0 0 := Stand.of_body Bd
  have e0 : s₁.heap = h0 := by rw [← hh, Bd.state]; rfl
  have N0 := Fr.nil n0
  refine own_go (A := s₁.setTop (mkF m 0 #[.val (.int i), .val (.int n)] [])) (fun t_ k_ => castTop (ef_rmSCk m i n) k_) ?_
  refine own_go (A := s₁.setTop (mkF m 2 #[.val (.int i), .val (.int n)] [(.int n), (.int i)])) (fun t_ k_ => ?_) ?_
  · show Steps p.tables e below (s₁.setTop (mkF m 0 #[.val (.int i), .val (.int n)] [])) t_
    refine XS.iloadN X0.here hx rfl (hb hby d12_0) rfl ?_
    show Steps p.tables e below (s₁.setTop (mkF m 1 #[.val (.int i), .val (.int n)] [(.int i)])) t_
    refine XS.iloadN X0.here hx rfl (hb hby d12_1) rfl ?_
    exact k_
  obtain ⟨T1, X1, e1, st1⟩ := getS2 X0 hx hZ hown (host := "") (Or.inl (own_w hw 68 rfl)) Via.refl e0 (u1.ext O0.2) (g := (mkF m 2 #[.val (.int i), .val (.int n)] [(.int n), (.int i)])) rfl (hb hby d12_2)
  refine own_go st1 ?_
  obtain ⟨_, _, ⟨T2, L2, k2, n2⟩, -, X2, ⟨Lc2, hQ2, l2, y2, z2⟩, st2⟩ := Jvm.LawKit.callS X1 hx (y := own_y4) hown (mvT hZ (own_w hw 70 rfl)) (mvT hZ (own_w hw 71 rfl)) (mvT hZ (own_w hw 69 rfl)) (mvT hZ (own_w hw 72 rfl)) (by decide) (backOf (W := 0) (rmCkI l Z a0 hw [] i n sf h0 n0 Z0 hsf h1 h2) hZ (own_w hw 72 rfl) (own_w hw 69 rfl) (by decide) (by decide)) (g := (mkF m 5 #[.val (.int i), .val (.int n)] [sf, (.int n), (.int i)])) rfl (by rw [hml]; rfl) (argsL := [(.int i), (.int n), sf]) (rest := []) (lenOf pd_1 rfl) rfl (by show 2 * 0 + _ ≤ _; exact Nat.le_of_eq rfl) (hb hby d12_5) (fun _ _ => ⟨rfl, e1, (by decide : 0 + 0 ≤ _), (by decide : 0 + 0 ≤ _)⟩)
  dsimp only [Pt.U, Pt.locs, Pt.cells, Pt.slots] at X2 l2 y2 z2 st2 hQ2
  subst l2 y2 z2
  obtain ⟨rfl, N2q, eh2⟩ := hQ2
  have N2 := Fr.app N0 N2q
  refine own_go st2 ?_
  refine own_go (A := T2.setTop (mkF m 9 #[.val (.int i), .val (.int n)] [])) (fun t_ k_ => ?_) ?_
  · show Steps p.tables e below (T2.setTop (mkF m 8 #[.val (.int i), .val (.int n)] [(.int i)])) t_
    refine XS.pop X2.here hx rfl (hb hby d12_8) rfl rfl ?_
    exact k_
  obtain ⟨fs3, hr3, hrun3, hended3, hW3, hsame3⟩ := X2.leave (v := none) (fun _ => rfl)
  refine ⟨_, _, ?_, hrun3, hended3, _, _, rfl, ?_, ⟨_, rfl⟩, hW3, hsame3.mono (by decide) (by decide)⟩
  · exact X2.returnOut hx Bd.returns (hb hby d12_9) hr3
  · show Q_rmSCk Z i n sf h0 n0 _ T2.heap _
    rw [eh2]
    exact ⟨rfl, N2, rfl⟩
theorem d11_0 : decode jdk_43_method_2_code 0 = .ok (.iload_n 1, 1) := by decide +kernel
theorem d11_1 : decode jdk_43_method_2_code 1 = .ok (.aload_n 0, 1) := by decide +kernel
theorem d11_2 : decode jdk_43_method_2_code 2 = .ok (.arraylength, 1) := by decide +kernel
theorem pd_2 : parseMethodDescriptor "(II)V" = some ⟨[.int, .int], none⟩ := by decide +kernel
theorem d11_3 : decode jdk_43_method_2_code 3 = .ok (.invokestatic 9, 3) := by decide +kernel
theorem d11_6 : decode jdk_43_method_2_code 6 = .ok (.aload_n 0, 1) := by decide +kernel
theorem d11_7 : decode jdk_43_method_2_code 7 = .ok (.iload_n 1, 1) := by decide +kernel
theorem d11_8 : decode jdk_43_method_2_code 8 = .ok (.baload, 1) := by decide +kernel
theorem d11_9 : decode jdk_43_method_2_code 9 = .ok (.sipush 255, 3) := by decide +kernel
theorem d11_12 : decode jdk_43_method_2_code 12 = .ok (.iand, 1) := by decide +kernel
theorem d11_13 : decode jdk_43_method_2_code 13 = .ok (.i2c, 1) := by decide +kernel
theorem d11_14 : decode jdk_43_method_2_code 14 = .ok (.ireturn, 1) := by decide +kernel
abbrev own_y6 : MethodName := ⟨"java/lang/StringLatin1", "charAt", "([BI)C"⟩
theorem ef_rmL1Ch (m : MethodId) (d : Addr) (i : Int32) : entryFrame m #[(.ref d), (.int i)] 2 = mkF m 0 #[.val (.ref d), .val (.int i)] [] := by first | (simp [entryFrame, mkF, argsToLocals, Value.category]; done) | rfl
def Q_rmL1Ch (Z : State) (d : Addr) (i : Int32) (k : ClassId) (n : Int32) (vs : List Value) (x : Int32) (sf : Value) (h0 : Heap) (n0 : Nat) (v_ : Option Value) (h_ : Heap) (L_ : List Loc) : Prop := v_ = some (.int (x &&& (255 : Int32))) ∧ Fr n0 L_ ∧ h_ = h0
theorem pn_2 : plainName "java/lang/StringLatin1" = true := by first | (simp [plainName, overriddenIn]; done) | decide +kernel
set_option maxRecDepth 65536 in
set_option maxHeartbeats 40000000 in
theorem rmL1Ch (l : Launch) (Z : State) (a0 : Array Value) (hw : ∀ d ∈ tables_1, d.before a0 Z = true) (ws : List Jvm.Cond) (d : Addr) (i : Int32) (k : ClassId) (n : Int32) (vs : List Value) (x : Int32) (sf : Value) (h0 : Heap) (n0 : Nat) (Z0 : n0 ≤ h0.size) (O0 : Old Z n0 h0) (u1 : Sta Z Z.heap "jdk/internal/util/Preconditions" "SIOOBE_FORMATTER" "Ljava/util/function/BiFunction;" sf) (hsf : sf.isRef = true) (u3 : Arv Z h0 d k .byte n vs (.int (0 : Int32))) (h1 : ¬ (i < (0 : Int32))) (h2 : i < n) (hat : vs.getD (i).toNatClampNeg (.int (0 : Int32)) = (.int x)) :
    MetFree l own_y6 (head1 (Jvm.Cond.code own_y6 jdk_43_method_2_code 2 (some .char) :: ws) ({ frames := 2, cells := 0, slots := 0, locals := 27 } : Room)) (fun a_ U_ => a_ = #[(.ref d), (.int i)] ∧ Z.Warmed39 U_.vm ∧ U_.heap = h0) (fun _ _ _ _ _ => True) (fun _ U_ o_ U2_ => ∃ v_ L_, o_ = .returned v_ ∧ Q_rmL1Ch Z d i k n vs x sf h0 n0 v_ U2_.heap L_ ∧ FrameEnd U_ o_ U2_ L_ ({ frames := 2, cells := 0, slots := 0, locals := 27 } : Room).cells ({ frames := 2, cells := 0, slots := 0, locals := 27 } : Room).slots) := by
  refine MetFree.of_bodySF (plainFor_of_name pn_2) hisR ?_
  intro p e s m args below meth c s₁ Bd hml0 hP hK
  obtain ⟨rfl, hZ, hh⟩ := hP
  have hx := Bd.exec
  have hby := Bd.bytes
  have hml : c.maxLocals = 2 := hml0
  have hown : s.vm.findClass "java/lang/StringLatin1" = some m.cls := findClass_of_methodNamed Bd.named
  have hnm := (name_of_methodNamed Bd.named Bd.method).1
  have X0 : Stand p l e ({ frames := 2, cells := 0, slots := 0, locals := 27 } : Room) s m #[(.ref d), (.int i)] below meth c s₁ [] 0 0 := Stand.of_body Bd
  have e0 : s₁.heap = h0 := by rw [← hh, Bd.state]; rfl
  have N0 := Fr.nil n0
  refine own_go (A := s₁.setTop (mkF m 0 #[.val (.ref d), .val (.int i)] [])) (fun t_ k_ => castTop (ef_rmL1Ch m d i) k_) ?_
  obtain ⟨cl1, Ar1, q1, S1, M1, H1, G1⟩ := id u3
  refine own_go (A := s₁.setTop (mkF m 3 #[.val (.ref d), .val (.int i)] [(.int n), (.int i)])) (fun t_ k_ => ?_) ?_
  · show Steps p.tables e below (s₁.setTop (mkF m 0 #[.val (.ref d), .val (.int i)] [])) t_
    refine XS.iloadN X0.here hx rfl (hb hby d11_0) rfl ?_
    show Steps p.tables e below (s₁.setTop (mkF m 1 #[.val (.ref d), .val (.int i)] [(.int i)])) t_
    refine XS.aloadN X0.here hx rfl (hb hby d11_1) rfl rfl ?_
    show Steps p.tables e below (s₁.setTop (mkF m 2 #[.val (.ref d), .val (.int i)] [(.ref d), (.int i)])) t_
    refine X0.arraylength hx (by rw [e0]; exact Ar1.1) (State.isArrayOf_alike hZ.alike Ar1.2.1) (g := (mkF m 2 #[.val (.ref d), .val (.int i)] [(.ref d), (.int i)])) rfl rfl (hb hby d11_2) _ ?_
    rw [len_of S1 M1]
    exact k_
  obtain ⟨_, _, ⟨T2, L2, k2, n2⟩, -, X2, ⟨Lc2, hQ2, l2, y2, z2⟩, st2⟩ := Jvm.LawKit.callS X0 hx (y := own_y5) hown (mvT hZ (own_w hw 65 rfl)) (mvT hZ (own_w hw 66 rfl)) (mvT hZ (own_w hw 12 rfl)) (mvT hZ (own_w hw 67 rfl)) (by decide) (backOf (W := 0) (rmSCk l Z a0 hw [] i n sf h0 n0 Z0 O0 u1 hsf h1 h2) hZ (own_w hw 67 rfl) (own_w hw 12 rfl) (by decide) (by decide)) (g := (mkF m 3 #[.val (.ref d), .val (.int i)] [(.int n), (.int i)])) rfl (by rw [hml]; rfl) (argsL := [(.int i), (.int n)]) (rest := []) (lenOf pd_2 rfl) rfl (by show 2 * 0 + _ ≤ _; exact Nat.le_of_eq rfl) (hb hby d11_3) (fun _ _ => ⟨rfl, e0, (by decide : 0 + 0 ≤ _), (by decide : 0 + 0 ≤ _)⟩)
  dsimp only [Pt.U, Pt.locs, Pt.cells, Pt.slots] at X2 l2 y2 z2 st2 hQ2
  subst l2 y2 z2
  obtain ⟨rfl, N2q, eh2⟩ := hQ2
  have N2 := Fr.app N0 N2q
  refine own_go st2 ?_
  obtain ⟨cl3, Ar3, q3, S3, M3, H3, G3⟩ := id u3
  have hin3 : ¬ (i < 0 ∨ cl3.slots.size ≤ (i).toNatClampNeg) := inb_of S3 ⟨h1, h2⟩
  have hat3 : cl3.slots[(i).toNatClampNeg]? = some (.int x) := Has.at H3 hin3 hat
  refine own_go (A := T2.setTop (mkF m 14 #[.val (.ref d), .val (.int i)] [(.int ((x &&& (255 : Int32))).toUInt32.toUInt16.toUInt32.toInt32)])) (fun t_ k_ => ?_) ?_
  · show Steps p.tables e below (T2.setTop (mkF m 6 #[.val (.ref d), .val (.int i)] [])) t_
    refine XS.aloadN X2.here hx rfl (hb hby d11_6) rfl rfl ?_
    show Steps p.tables e below (T2.setTop (mkF m 7 #[.val (.ref d), .val (.int i)] [(.ref d)])) t_
    refine XS.iloadN X2.here hx rfl (hb hby d11_7) rfl ?_
    show Steps p.tables e below (T2.setTop (mkF m 8 #[.val (.ref d), .val (.int i)] [(.int i), (.ref d)])) t_
    refine X2.baloadBytes hx (j := i) (v := (.int x)) (by rw [eh2]; exact Ar3.1) (State.isArrayOf_alike hZ.alike Ar3.2.1) Ar3.2.2 hin3 hat3 (g := (mkF m 8 #[.val (.ref d), .val (.int i)] [(.int i), (.ref d)])) rfl rfl (hb hby d11_8) _ ?_
    show Steps p.tables e below (T2.setTop (mkF m 9 #[.val (.ref d), .val (.int i)] [(.int x)])) t_
    refine XS.sipush X2.here hx rfl (hb hby d11_9) ?_
    show Steps p.tables e below (T2.setTop (mkF m 12 #[.val (.ref d), .val (.int i)] [(.int (255 : Int32)), (.int x)])) t_
    refine XS.iand X2.here hx rfl (hb hby d11_12) rfl ?_
    show Steps p.tables e below (T2.setTop (mkF m 13 #[.val (.ref d), .val (.int i)] [(.int (x &&& (255 : Int32)))])) t_
    refine XS.i2c X2.here hx rfl (hb hby d11_13) rfl ?_
    exact k_
  obtain ⟨fs4, hr4, hrun4, hended4, hW4, hsame4⟩ := X2.leave (v := some (.int (nar .char ((x &&& (255 : Int32))).toUInt32.toUInt16.toUInt32.toInt32))) (fun h => by rw [Bd.returns] at h; cases h)
  refine ⟨_, _, ?_, hrun4, hended4, _, _, rfl, ?_, ⟨_, rfl⟩, hW4, hsame4.mono (by decide) (by decide)⟩
  · exact retN X2 hx (t := .char) Bd.returns (by simp) (hb hby d11_14) hr4
  · show Q_rmL1Ch Z d i k n vs x sf h0 n0 _ T2.heap _
    rw [eh2]
    exact ⟨(congrArg (fun z => some (Value.int z)) (own_ch x)), N2, rfl⟩
theorem d9_0 : decode jdk_42_method_56_code 0 = .ok (.aload_n 0, 1) := by decide +kernel
theorem pd_3 : parseMethodDescriptor "()Z" = some ⟨[], some .boolean⟩ := by decide +kernel
theorem d9_1 : decode jdk_42_method_56_code 1 = .ok (.invokevirtual 492, 3) := by decide +kernel
theorem d9_4 : decode jdk_42_method_56_code 4 = .ok (.ifCond .eq 12, 3) := by decide +kernel
theorem d9_7 : decode jdk_42_method_56_code 7 = .ok (.aload_n 0, 1) := by decide +kernel
theorem d9_8 : decode jdk_42_method_56_code 8 = .ok (.getfield 9, 3) := by decide +kernel
theorem d9_11 : decode jdk_42_method_56_code 11 = .ok (.iload_n 1, 1) := by decide +kernel
theorem pd_4 : parseMethodDescriptor "([BI)C" = some ⟨[(.array .byte), .int], some .char⟩ := by decide +kernel
theorem d9_12 : decode jdk_42_method_56_code 12 = .ok (.invokestatic 495, 3) := by decide +kernel
theorem d9_15 : decode jdk_42_method_56_code 15 = .ok (.ireturn, 1) := by decide +kernel
abbrev own_y7 : MethodName := ⟨"java/lang/String", "charAt", "(I)C"⟩
theorem ef_rmChAt (m : MethodId) (a : Addr) (i : Int32) : entryFrame m #[(.ref a), (.int i)] 2 = mkF m 0 #[.val (.ref a), .val (.int i)] [] := by first | (simp [entryFrame, mkF, argsToLocals, Value.category]; done) | rfl
def Q_rmChAt (Z : State) (a : Addr) (i : Int32) (d : Addr) (k : ClassId) (n : Int32) (vs : List Value) (x : Int32) (sf : Value) (cs : Int32) (h0 : Heap) (n0 : Nat) (v_ : Option Value) (h_ : Heap) (L_ : List Loc) : Prop := v_ = some (.int (x &&& (255 : Int32))) ∧ Fr n0 L_ ∧ h_ = h0
set_option maxRecDepth 65536 in
set_option maxHeartbeats 40000000 in
theorem rmChAt (l : Launch) (Z : State) (a0 : Array Value) (hw : ∀ d ∈ tables_1, d.before a0 Z = true) (ws : List Jvm.Cond) (a : Addr) (i : Int32) (d : Addr) (k : ClassId) (n : Int32) (vs : List Value) (x : Int32) (sf : Value) (cs : Int32) (h0 : Heap) (n0 : Nat) (Z0 : n0 ≤ h0.size) (O0 : Old Z n0 h0) (u1 : Sta Z Z.heap "java/lang/String" "COMPACT_STRINGS" "Z" (.int cs)) (hcs : ¬ (cs = (0 : Int32))) (u3 : Sta Z Z.heap "jdk/internal/util/Preconditions" "SIOOBE_FORMATTER" "Ljava/util/function/BiFunction;" sf) (hsf : sf.isRef = true) (u5 : Exa Z h0 a "java/lang/String") (u6 : Fld Z h0 a "java/lang/String" "coder" "B" (.int (0 : Int32))) (u7 : Fld Z h0 a "java/lang/String" "value" "[B" (.ref d)) (u8 : Arv Z h0 d k .byte n vs (.int (0 : Int32))) (h1 : ¬ (i < (0 : Int32))) (h2 : i < n) (hat : vs.getD (i).toNatClampNeg (.int (0 : Int32)) = (.int x)) :
    MetFree l own_y7 (head1 (Jvm.Cond.code own_y7 jdk_42_method_56_code 2 (some .char) :: ws) ({ frames := 3, cells := 0, slots := 0, locals := 40 } : Room)) (fun a_ U_ => a_ = #[(.ref a), (.int i)] ∧ Z.Warmed39 U_.vm ∧ U_.heap = h0) (fun _ _ _ _ _ => True) (fun _ U_ o_ U2_ => ∃ v_ L_, o_ = .returned v_ ∧ Q_rmChAt Z a i d k n vs x sf cs h0 n0 v_ U2_.heap L_ ∧ FrameEnd U_ o_ U2_ L_ ({ frames := 3, cells := 0, slots := 0, locals := 40 } : Room).cells ({ frames := 3, cells := 0, slots := 0, locals := 40 } : Room).slots) := by
  refine MetFree.of_bodySF (plainFor_of_name pn_0) hisR ?_
  intro p e s m args below meth c s₁ Bd hml0 hP hK
  obtain ⟨rfl, hZ, hh⟩ := hP
  have hx := Bd.exec
  have hby := Bd.bytes
  have hml : c.maxLocals = 2 := hml0
  have hown : s.vm.findClass "java/lang/String" = some m.cls := findClass_of_methodNamed Bd.named
  have hnm := (name_of_methodNamed Bd.named Bd.method).1
  have X0 : Stand p l e ({ frames := 3, cells := 0, slots := 0, locals := 40 } : Room) s m #[(.ref a), (.int i)] below meth c s₁ [] 0 0 := Stand.of_body Bd
  have e0 : s₁.heap = h0 := by rw [← hh, Bd.state]; rfl
  have N0 := Fr.nil n0
  refine own_go (A := s₁.setTop (mkF m 0 #[.val (.ref a), .val (.int i)] [])) (fun t_ k_ => castTop (ef_rmChAt m a i) k_) ?_
  refine own_go (A := s₁.setTop (mkF m 1 #[.val (.ref a), .val (.int i)] [(.ref a)])) (fun t_ k_ => ?_) ?_
  · show Steps p.tables e below (s₁.setTop (mkF m 0 #[.val (.ref a), .val (.int i)] [])) t_
    refine XS.aloadN X0.here hx rfl (hb hby d9_0) rfl rfl ?_
    exact k_
  obtain ⟨cq1, kq1, q1a, q1b, q1c⟩ := isOf hZ e0 u5
  obtain ⟨_, _, ⟨T1, L1, k1, n1⟩, -, X1, ⟨Lc1, hQ1, l1, y1, z1⟩, st1⟩ := X0.virtualBack hx (y := own_y1) (z := own_y1) hown (mvT hZ (own_w hw 56 rfl)) (mvT hZ (own_w hw 57 rfl)) (notFace_of_selects (args := #[]) (mvT hZ (own_w hw 59 rfl))) (mvT hZ (own_w hw 59 rfl)) (mvT hZ (own_w hw 58 rfl)) (by decide) (backOf (W := 0) (rmIsL1 l Z a0 hw [] a cs h0 n0 Z0 O0 u1 hcs u6) hZ (own_w hw 60 rfl) (own_w hw 12 rfl) (by decide) (by decide)) q1a q1c (g := (mkF m 1 #[.val (.ref a), .val (.int i)] [(.ref a)])) rfl (by rw [hml]; rfl) (Steps.refl _) (argsL := []) (rest := []) (lenOf pd_3 rfl) rfl (by show 2 * 0 + _ ≤ _; exact Nat.le_of_eq rfl) (hb hby d9_1) (fun _ _ => ⟨rfl, e0, (by decide : 0 + 0 ≤ _), (by decide : 0 + 0 ≤ _)⟩)
  dsimp only [Pt.U, Pt.locs, Pt.cells, Pt.slots] at X1 l1 y1 z1 st1 hQ1
  subst l1 y1 z1
  obtain ⟨rfl, N1q, eh1⟩ := hQ1
  have N1 := Fr.app N0 N1q
  refine own_via st1 ?_
  refine own_go (A := T1.setTop (mkF m 8 #[.val (.ref a), .val (.int i)] [(.ref a)])) (fun t_ k_ => ?_) ?_
  · show Steps p.tables e below (T1.setTop (mkF m 4 #[.val (.ref a), .val (.int i)] [(.int (1 : Int32))])) t_
    refine XS.ifNo X1.here hx rfl (hb hby d9_4) rfl ((if0 _ _).trans (feq (by decide : ¬ ((1 : Int32) = (0 : Int32)))).1) ?_
    show Steps p.tables e below (T1.setTop (mkF m 7 #[.val (.ref a), .val (.int i)] [])) t_
    refine XS.aloadN X1.here hx rfl (hb hby d9_7) rfl rfl ?_
    exact k_
  obtain ⟨T2, X2, e2, st2⟩ := getF X1 hx hZ hown (host := "") (Or.inl (own_w hw 38 rfl)) Via.refl eh1 u7 (g := (mkF m 8 #[.val (.ref a), .val (.int i)] [(.ref a)])) rfl rfl (hb hby d9_8)
  refine own_go st2 ?_
  refine own_go (A := T2.setTop (mkF m 12 #[.val (.ref a), .val (.int i)] [(.int i), (.ref d)])) (fun t_ k_ => ?_) ?_
  · show Steps p.tables e below (T2.setTop (mkF m 11 #[.val (.ref a), .val (.int i)] [(.ref d)])) t_
    refine XS.iloadN X2.here hx rfl (hb hby d9_11) rfl ?_
    exact k_
  obtain ⟨_, _, ⟨T3, L3, k3, n3⟩, -, X3, ⟨Lc3, hQ3, l3, y3, z3⟩, st3⟩ := Jvm.LawKit.callS X2 hx (y := own_y6) hown (mvT hZ (own_w hw 61 rfl)) (mvT hZ (own_w hw 62 rfl)) (mvT hZ (own_w hw 63 rfl)) (mvT hZ (own_w hw 64 rfl)) (by decide) (backOf (W := 0) (rmL1Ch l Z a0 hw [] d i k n vs x sf h0 n0 Z0 O0 u3 hsf u8 h1 h2 hat) hZ (own_w hw 64 rfl) (own_w hw 63 rfl) (by decide) (by decide)) (g := (mkF m 12 #[.val (.ref a), .val (.int i)] [(.int i), (.ref d)])) rfl (by rw [hml]; rfl) (argsL := [(.ref d), (.int i)]) (rest := []) (lenOf pd_4 rfl) rfl (by show 2 * 0 + _ ≤ _; exact Nat.le_of_eq rfl) (hb hby d9_12) (fun _ _ => ⟨rfl, e2, (by decide : 0 + 0 ≤ _), (by decide : 0 + 0 ≤ _)⟩)
  dsimp only [Pt.U, Pt.locs, Pt.cells, Pt.slots] at X3 l3 y3 z3 st3 hQ3
  subst l3 y3 z3
  obtain ⟨rfl, N3q, eh3⟩ := hQ3
  have N3 := Fr.app N1 N3q
  refine own_go st3 ?_
  obtain ⟨fs4, hr4, hrun4, hended4, hW4, hsame4⟩ := X3.leave (v := some (.int (nar .char (x &&& (255 : Int32))))) (fun h => by rw [Bd.returns] at h; cases h)
  refine ⟨_, _, ?_, hrun4, hended4, _, _, rfl, ?_, ⟨_, rfl⟩, hW4, hsame4.mono (by decide) (by decide)⟩
  · exact retN X3 hx (t := .char) Bd.returns (by simp) (hb hby d9_15) hr4
  · show Q_rmChAt Z a i d k n vs x sf cs h0 n0 _ T3.heap _
    rw [eh3]
    exact ⟨(congrArg (fun z => some (Value.int z)) (own_ch1 x)), N3, rfl⟩
theorem d3_0 : decode jdk_30_method_1_code 0 = .ok (.aload_n 0, 1) := by decide +kernel
theorem d3_1 : decode jdk_30_method_1_code 1 = .ok (.invokespecial 1, 3) := by decide +kernel
theorem d3_4 : decode jdk_30_method_1_code 4 = .ok (.return_, 1) := by decide +kernel
abbrev own_y8 : MethodName := ⟨"java/lang/Record", "<init>", "()V"⟩
theorem ef_rmRec (m : MethodId) (a : Addr) : entryFrame m #[(.ref a)] 1 = mkF m 0 #[.val (.ref a)] [] := by first | (simp [entryFrame, mkF, argsToLocals, Value.category]; done) | rfl
def Q_rmRec (Z : State) (a : Addr) (h0 : Heap) (n0 : Nat) (v_ : Option Value) (h_ : Heap) (L_ : List Loc) : Prop := v_ = none ∧ Fr n0 L_ ∧ h_ = h0
theorem pn_3 : plainName "java/lang/Record" = true := by first | (simp [plainName, overriddenIn]; done) | decide +kernel
set_option maxRecDepth 65536 in
set_option maxHeartbeats 40000000 in
theorem rmRec (l : Launch) (Z : State) (a0 : Array Value) (hw : ∀ d ∈ tables_1, d.before a0 Z = true) (ws : List Jvm.Cond) (a : Addr) (h0 : Heap) (n0 : Nat) (Z0 : n0 ≤ h0.size)  :
    MetFree l own_y8 (head1 (Jvm.Cond.code own_y8 jdk_30_method_1_code 1 none :: ws) ({ frames := 1, cells := 0, slots := 0, locals := 12 } : Room)) (fun a_ U_ => a_ = #[(.ref a)] ∧ Z.Warmed39 U_.vm ∧ U_.heap = h0) (fun _ _ _ _ _ => True) (fun _ U_ o_ U2_ => ∃ v_ L_, o_ = .returned v_ ∧ Q_rmRec Z a h0 n0 v_ U2_.heap L_ ∧ FrameEnd U_ o_ U2_ L_ ({ frames := 1, cells := 0, slots := 0, locals := 12 } : Room).cells ({ frames := 1, cells := 0, slots := 0, locals := 12 } : Room).slots) := by
  refine MetFree.of_bodySF (plainFor_of_name pn_3) hisR ?_
  intro p e s m args below meth c s₁ Bd hml0 hP hK
  obtain ⟨rfl, hZ, hh⟩ := hP
  have hx := Bd.exec
  have hby := Bd.bytes
  have hml : c.maxLocals = 1 := hml0
  have hown : s.vm.findClass "java/lang/Record" = some m.cls := findClass_of_methodNamed Bd.named
  have hnm := (name_of_methodNamed Bd.named Bd.method).1
  have X0 : Stand p l e ({ frames := 1, cells := 0, slots := 0, locals := 12 } : Room) s m #[(.ref a)] below meth c s₁ [] 0 0 := Stand.of_body Bd
  have e0 : s₁.heap = h0 := by rw [← hh, Bd.state]; rfl
  have N0 := Fr.nil n0
  refine own_go (A := s₁.setTop (mkF m 0 #[.val (.ref a)] [])) (fun t_ k_ => castTop (ef_rmRec m a) k_) ?_
  refine own_go (A := s₁.setTop (mkF m 1 #[.val (.ref a)] [(.ref a)])) (fun t_ k_ => ?_) ?_
  · show Steps p.tables e below (s₁.setTop (mkF m 0 #[.val (.ref a)] [])) t_
    refine XS.aloadN X0.here hx rfl (hb hby d3_0) rfl rfl ?_
    exact k_
  obtain ⟨T1, X1, e1, st1⟩ := initO X0 hx hZ hown (own_w hw 27 rfl) (own_w hw 28 rfl) (own_w hw 29 rfl) e0 (g := (mkF m 1 #[.val (.ref a)] [(.ref a)])) rfl (by rw [hml]; rfl) rfl (hb hby d3_1) (by decide) (W := 0) (by show 2 * 0 + _ ≤ _; exact Nat.le_of_eq rfl) (by decide)
  refine own_go st1 ?_
  obtain ⟨fs2, hr2, hrun2, hended2, hW2, hsame2⟩ := X1.leave (v := none) (fun _ => rfl)
  refine ⟨_, _, ?_, hrun2, hended2, _, _, rfl, ?_, ⟨_, rfl⟩, hW2, hsame2.mono (by decide) (by decide)⟩
  · exact X1.returnOut hx Bd.returns (hb hby d3_4) hr2
  · show Q_rmRec Z a h0 n0 _ T1.heap _
    rw [e1]
    exact ⟨rfl, N0, rfl⟩
theorem own_time (q : Int64) : 1 ≤ (((q &&& (9223372036854775807 : Int64)) - ((q &&& (9223372036854775807 : Int64)) / (1000000000000000 : Int64)) * (1000000000000000 : Int64)) + (1 : Int64)).toInt ∧ (((q &&& (9223372036854775807 : Int64)) - ((q &&& (9223372036854775807 : Int64)) / (1000000000000000 : Int64)) * (1000000000000000 : Int64)) + (1 : Int64)).toInt ≤ 1000000000000000 := by
  have h1 := (c_andSL q (9223372036854775807 : Int64)).2.2 (by decide)
  have h2 := (c_lrem (q &&& (9223372036854775807 : Int64)) (1000000000000000 : Int64) 1000000000000000 (by decide)).1 h1
  have h3 := c_ladd ((q &&& (9223372036854775807 : Int64)) - ((q &&& (9223372036854775807 : Int64)) / (1000000000000000 : Int64)) * (1000000000000000 : Int64)) 1
  have h4 := rng64 (((q &&& (9223372036854775807 : Int64)) - ((q &&& (9223372036854775807 : Int64)) / (1000000000000000 : Int64)) * (1000000000000000 : Int64)) + 1)
  have h5 : ((1 : Int64).toInt) = 1 := by decide
  omega
theorem d1_0 : decode method_2_code 0 = .ok (.lload_n 0, 1) := by decide +kernel
theorem d1_1 : decode method_2_code 1 = .ok (.ldc2_w 9, 3) := by decide +kernel
theorem d1_4 : decode method_2_code 4 = .ok (.land, 1) := by decide +kernel
theorem d1_5 : decode method_2_code 5 = .ok (.ldc2_w 11, 3) := by decide +kernel
theorem d1_8 : decode method_2_code 8 = .ok (.lrem, 1) := by decide +kernel
theorem d1_9 : decode method_2_code 9 = .ok (.lconst 1, 1) := by decide +kernel
theorem d1_10 : decode method_2_code 10 = .ok (.ladd, 1) := by decide +kernel
theorem d1_11 : decode method_2_code 11 = .ok (.lreturn, 1) := by decide +kernel
abbrev own_y9 : MethodName := ⟨"com/example/firmline/firmline/analysis/FaultResponseMeetsDeadlinePinLaw", "time", "(J)J"⟩
theorem ef_rmTime (m : MethodId) (q : Int64) : entryFrame m #[(.long q)] 2 = mkF m 0 #[.val (.long q), .second] [] := by first | (simp [entryFrame, mkF, argsToLocals, Value.category]; done) | rfl
def Q_rmTime (Z : State) (q : Int64) (h0 : Heap) (n0 : Nat) (v_ : Option Value) (h_ : Heap) (L_ : List Loc) : Prop := ∃ r : Int64, v_ = some (.long r) ∧ Fr n0 L_ ∧ h_ = h0 ∧ 1 ≤ r.toInt ∧ r.toInt ≤ 1000000000000000
theorem pn_4 : plainName "com/example/firmline/firmline/analysis/FaultResponseMeetsDeadlinePinLaw" = true := by first | (simp [plainName, overriddenIn]; done) | decide +kernel
set_option maxRecDepth 65536 in
set_option maxHeartbeats 40000000 in
theorem rmTime (l : Launch) (Z : State) (a0 : Array Value) (hw : ∀ d ∈ tables_1, d.before a0 Z = true) (ws : List Jvm.Cond) (q : Int64) (h0 : Heap) (n0 : Nat) (Z0 : n0 ≤ h0.size)  :
    MetFree l own_y9 (head1 (Jvm.Cond.code own_y9 method_2_code 2 (some .long) :: ws) ({ frames := 0, cells := 0, slots := 0, locals := 0 } : Room)) (fun a_ U_ => a_ = #[(.long q)] ∧ Z.Warmed39 U_.vm ∧ U_.heap = h0) (fun _ _ _ _ _ => True) (fun _ U_ o_ U2_ => ∃ v_ L_, o_ = .returned v_ ∧ Q_rmTime Z q h0 n0 v_ U2_.heap L_ ∧ FrameEnd U_ o_ U2_ L_ ({ frames := 0, cells := 0, slots := 0, locals := 0 } : Room).cells ({ frames := 0, cells := 0, slots := 0, locals := 0 } : Room).slots) := by
  refine MetFree.of_bodySF (plainFor_of_name pn_4) hisR ?_
  intro p e s m args below meth c s₁ Bd hml0 hP hK
  obtain ⟨rfl, hZ, hh⟩ := hP
  have hx := Bd.exec
  have hby := Bd.bytes
  have hml : c.maxLocals = 2 := hml0
  have hown : s.vm.findClass "com/example/firmline/firmline/analysis/FaultResponseMeetsDeadlinePinLaw" = some m.cls := findClass_of_methodNamed Bd.named
  have hnm := (name_of_methodNamed Bd.named Bd.method).1
  have X0 : Stand p l e ({ frames := 0, cells := 0, slots := 0, locals := 0 } : Room) s m #[(.long q)] below meth c s₁ [] 0 0 := Stand.of_body Bd
  have e0 : s₁.heap = h0 := by rw [← hh, Bd.state]; rfl
  have N0 := Fr.nil n0
  refine own_go (A := s₁.setTop (mkF m 0 #[.val (.long q), .second] [])) (fun t_ k_ => castTop (ef_rmTime m q) k_) ?_
  refine own_go (A := s₁.setTop (mkF m 11 #[.val (.long q), .second] [(.long (((q &&& (9223372036854775807 : Int64)) - ((q &&& (9223372036854775807 : Int64)) / (1000000000000000 : Int64)) * (1000000000000000 : Int64)) + (1 : Int64)))])) (fun t_ k_ => ?_) ?_
  · show Steps p.tables e below (s₁.setTop (mkF m 0 #[.val (.long q), .second] [])) t_
    refine XS.lloadN X0.here hx rfl (hb hby d1_0) rfl ?_
    show Steps p.tables e below (s₁.setTop (mkF m 1 #[.val (.long q), .second] [(.long q)])) t_
    refine Jvm.Stand.ldc2J X0 hx hown (mvT hZ (own_w hw 4 rfl)) (g := (mkF m 1 #[.val (.long q), .second] [(.long q)])) rfl (hb hby d1_1) ?_
    show Steps p.tables e below (s₁.setTop (mkF m 4 #[.val (.long q), .second] [(.long (9223372036854775807 : Int64)), (.long q)])) t_
    refine XS.land X0.here hx rfl (hb hby d1_4) rfl ?_
    show Steps p.tables e below (s₁.setTop (mkF m 5 #[.val (.long q), .second] [(.long (q &&& (9223372036854775807 : Int64)))])) t_
    refine Jvm.Stand.ldc2J X0 hx hown (mvT hZ (own_w hw 5 rfl)) (g := (mkF m 5 #[.val (.long q), .second] [(.long (q &&& (9223372036854775807 : Int64)))])) rfl (hb hby d1_5) ?_
    show Steps p.tables e below (s₁.setTop (mkF m 8 #[.val (.long q), .second] [(.long (1000000000000000 : Int64)), (.long (q &&& (9223372036854775807 : Int64)))])) t_
    refine XS.lrem X0.here hx rfl (hb hby d1_8) rfl (by decide : ¬ ((1000000000000000 : Int64) = (0 : Int64))) ?_
    show Steps p.tables e below (s₁.setTop (mkF m 9 #[.val (.long q), .second] [(.long ((q &&& (9223372036854775807 : Int64)) - ((q &&& (9223372036854775807 : Int64)) / (1000000000000000 : Int64)) * (1000000000000000 : Int64)))])) t_
    refine XS.lconst X0.here hx rfl (hb hby d1_9) ?_
    show Steps p.tables e below (s₁.setTop (mkF m 10 #[.val (.long q), .second] [(.long (1 : Int64)), (.long ((q &&& (9223372036854775807 : Int64)) - ((q &&& (9223372036854775807 : Int64)) / (1000000000000000 : Int64)) * (1000000000000000 : Int64)))])) t_
    refine XS.ladd X0.here hx rfl (hb hby d1_10) rfl ?_
    exact k_
  obtain ⟨fs1, hr1, hrun1, hended1, hW1, hsame1⟩ := X0.leave (v := some (.long (((q &&& (9223372036854775807 : Int64)) - ((q &&& (9223372036854775807 : Int64)) / (1000000000000000 : Int64)) * (1000000000000000 : Int64)) + (1 : Int64)))) (fun h => by rw [Bd.returns] at h; cases h)
  refine ⟨_, _, ?_, hrun1, hended1, _, _, rfl, ?_, ⟨_, rfl⟩, hW1, hsame1.mono (by decide) (by decide)⟩
  · exact own_retJ X0 hx Bd.returns (hb hby d1_11) hr1
  · show Q_rmTime Z q h0 n0 _ s₁.heap _
    rw [e0]
    exact ⟨(((q &&& (9223372036854775807 : Int64)) - ((q &&& (9223372036854775807 : Int64)) / (1000000000000000 : Int64)) * (1000000000000000 : Int64)) + (1 : Int64)), rfl, N0, rfl, own_time q⟩
theorem d5_0 : decode prog_18_method_6_code 0 = .ok (.aload_n 0, 1) := by decide +kernel
theorem d5_1 : decode prog_18_method_6_code 1 = .ok (.invokevirtual 64, 3) := by decide +kernel
theorem d5_4 : decode prog_18_method_6_code 4 = .ok (.ifCond .ne 12, 3) := by decide +kernel
theorem d5_7 : decode prog_18_method_6_code 7 = .ok (.aload_n 0, 1) := by decide +kernel
theorem pd_5 : parseMethodDescriptor "()I" = some ⟨[], some .int⟩ := by decide +kernel
theorem d5_8 : decode prog_18_method_6_code 8 = .ok (.invokevirtual 70, 3) := by decide +kernel
theorem d5_11 : decode prog_18_method_6_code 11 = .ok (.bipush 64, 2) := by decide +kernel
theorem d5_13 : decode prog_18_method_6_code 13 = .ok (.if_icmp .le 13, 3) := by decide +kernel
theorem d5_26 : decode prog_18_method_6_code 26 = .ok (.iconst 0, 1) := by decide +kernel
theorem d5_27 : decode prog_18_method_6_code 27 = .ok (.istore_n 1, 1) := by decide +kernel
theorem d5_28 : decode prog_18_method_6_code 28 = .ok (.iload_n 1, 1) := by decide +kernel
theorem d5_29 : decode prog_18_method_6_code 29 = .ok (.aload_n 0, 1) := by decide +kernel
theorem d5_30 : decode prog_18_method_6_code 30 = .ok (.invokevirtual 70, 3) := by decide +kernel
theorem d5_33 : decode prog_18_method_6_code 33 = .ok (.if_icmp .ge 89, 3) := by decide +kernel
theorem d5_36 : decode prog_18_method_6_code 36 = .ok (.aload_n 0, 1) := by decide +kernel
theorem d5_37 : decode prog_18_method_6_code 37 = .ok (.iload_n 1, 1) := by decide +kernel
theorem pd_6 : parseMethodDescriptor "(I)C" = some ⟨[.int], some .char⟩ := by decide +kernel
theorem d5_38 : decode prog_18_method_6_code 38 = .ok (.invokevirtual 76, 3) := by decide +kernel
theorem d5_41 : decode prog_18_method_6_code 41 = .ok (.istore_n 2, 1) := by decide +kernel
theorem d5_42 : decode prog_18_method_6_code 42 = .ok (.iload_n 2, 1) := by decide +kernel
theorem d5_43 : decode prog_18_method_6_code 43 = .ok (.bipush 97, 2) := by decide +kernel
theorem d5_45 : decode prog_18_method_6_code 45 = .ok (.if_icmp .lt 9, 3) := by decide +kernel
theorem d5_48 : decode prog_18_method_6_code 48 = .ok (.iload_n 2, 1) := by decide +kernel
theorem d5_49 : decode prog_18_method_6_code 49 = .ok (.bipush 122, 2) := by decide +kernel
theorem d5_51 : decode prog_18_method_6_code 51 = .ok (.if_icmp .le 45, 3) := by decide +kernel
theorem d5_96 : decode prog_18_method_6_code 96 = .ok (.iconst 1, 1) := by decide +kernel
theorem d5_97 : decode prog_18_method_6_code 97 = .ok (.goto 4, 3) := by decide +kernel
theorem d5_101 : decode prog_18_method_6_code 101 = .ok (.istore_n 3, 1) := by decide +kernel
theorem d5_102 : decode prog_18_method_6_code 102 = .ok (.iload_n 3, 1) := by decide +kernel
theorem d5_103 : decode prog_18_method_6_code 103 = .ok (.ifCond .ne 13, 3) := by decide +kernel
theorem d5_116 : decode prog_18_method_6_code 116 = .ok (.iinc 1 1, 3) := by decide +kernel
theorem d5_119 : decode prog_18_method_6_code 119 = .ok (.goto (-91), 3) := by decide +kernel
theorem d5_122 : decode prog_18_method_6_code 122 = .ok (.return_, 1) := by decide +kernel
abbrev own_y10 : MethodName := ⟨"com/example/firmline/firmline/model/Task", "checkName", "(Ljava/lang/String;)V"⟩
theorem ef_rmName (m : MethodId) (st : Addr) : entryFrame m #[(.ref st)] 4 = mkF m 0 #[.val (.ref st), .unset, .unset, .unset] [] := by first | (simp [entryFrame, mkF, argsToLocals, Value.category]; done) | rfl
def Q_rmName (Z : State) (st : Addr) (d : Addr) (k : ClassId) (cs : Int32) (sf : Value) (h0 : Heap) (n0 : Nat) (v_ : Option Value) (h_ : Heap) (L_ : List Loc) : Prop := v_ = none ∧ Fr n0 L_ ∧ h_ = h0
theorem pn_5 : plainName "com/example/firmline/firmline/model/Task" = true := by first | (simp [plainName, overriddenIn]; done) | decide +kernel
set_option maxRecDepth 65536 in
set_option maxHeartbeats 40000000 in
theorem rmName (l : Launch) (Z : State) (a0 : Array Value) (hw : ∀ d ∈ tables_1, d.before a0 Z = true) (ws : List Jvm.Cond) (st : Addr) (d : Addr) (k : ClassId) (cs : Int32) (sf : Value) (h0 : Heap) (n0 : Nat) (Z0 : n0 ≤ h0.size) (O0 : Old Z n0 h0) (u1 : Sta Z Z.heap "java/lang/String" "COMPACT_STRINGS" "Z" (.int cs)) (hcs : ¬ (cs = (0 : Int32))) (u3 : Sta Z Z.heap "jdk/internal/util/Preconditions" "SIOOBE_FORMATTER" "Ljava/util/function/BiFunction;" sf) (hsf : sf.isRef = true) (u5 : Exa Z h0 st "java/lang/String") (u6 : Fld Z h0 st "java/lang/String" "coder" "B" (.int (0 : Int32))) (u7 : Fld Z h0 st "java/lang/String" "value" "[B" (.ref d)) (u8 : Arv Z h0 d k .byte (1 : Int32) [(.int (116 : Int32))] (.int (0 : Int32))) :
    MetFree l own_y10 (head1 (Jvm.Cond.code own_y10 prog_18_method_6_code 4 none :: ws) ({ frames := 4, cells := 0, slots := 0, locals := 53 } : Room)) (fun a_ U_ => a_ = #[(.ref st)] ∧ Z.Warmed39 U_.vm ∧ U_.heap = h0) (fun _ _ _ _ _ => True) (fun _ U_ o_ U2_ => ∃ v_ L_, o_ = .returned v_ ∧ Q_rmName Z st d k cs sf h0 n0 v_ U2_.heap L_ ∧ FrameEnd U_ o_ U2_ L_ ({ frames := 4, cells := 0, slots := 0, locals := 53 } : Room).cells ({ frames := 4, cells := 0, slots := 0, locals := 53 } : Room).slots) := by
  refine MetFree.of_bodySF (plainFor_of_name pn_5) hisR ?_
  intro p e s m args below meth c s₁ Bd hml0 hP hK
  obtain ⟨rfl, hZ, hh⟩ := hP
  have hx := Bd.exec
  have hby := Bd.bytes
  have hml : c.maxLocals = 4 := hml0
  have hown : s.vm.findClass "com/example/firmline/firmline/model/Task" = some m.cls := findClass_of_methodNamed Bd.named
  have hnm := (name_of_methodNamed Bd.named Bd.method).1
  have X0 : Stand p l e ({ frames := 4, cells := 0, slots := 0, locals := 53 } : Room) s m #[(.ref st)] below meth c s₁ [] 0 0 := Stand.of_body Bd
  have e0 : s₁.heap = h0 := by rw [← hh, Bd.state]; rfl
  have N0 := Fr.nil n0
  refine own_go (A := s₁.setTop (mkF m 0 #[.val (.ref st), .unset, .unset, .unset] [])) (fun t_ k_ => castTop (ef_rmName m st) k_) ?_
  refine own_go (A := s₁.setTop (mkF m 1 #[.val (.ref st), .unset, .unset, .unset] [(.ref st)])) (fun t_ k_ => ?_) ?_
  · show Steps p.tables e below (s₁.setTop (mkF m 0 #[.val (.ref st), .unset, .unset, .unset] [])) t_
    refine XS.aloadN X0.here hx rfl (hb hby d5_0) rfl rfl ?_
    exact k_
  obtain ⟨cq1, kq1, q1a, q1b, q1c⟩ := isOf hZ e0 u5
  obtain ⟨_, _, ⟨T1, L1, k1, n1⟩, -, X1, ⟨Lc1, hQ1, l1, y1, z1⟩, st1⟩ := X0.virtualBack hx (y := own_y3) (z := own_y3) hown (mvT hZ (own_w hw 33 rfl)) (mvT hZ (own_w hw 34 rfl)) (notFace_of_selects (args := #[]) (mvT hZ (own_w hw 36 rfl))) (mvT hZ (own_w hw 36 rfl)) (mvT hZ (own_w hw 35 rfl)) (by decide) (backOf (W := 0) (rmEmpty0 l Z a0 hw [] st d k (1 : Int32) [(.int (116 : Int32))] h0 n0 Z0 u7 u8 (by decide : ¬ ((1 : Int32) = (0 : Int32)))) hZ (own_w hw 37 rfl) (own_w hw 12 rfl) (by decide) (by decide)) q1a q1c (g := (mkF m 1 #[.val (.ref st), .unset, .unset, .unset] [(.ref st)])) rfl (by rw [hml]; rfl) (Steps.refl _) (argsL := []) (rest := []) (lenOf pd_3 rfl) rfl (by show 2 * 0 + _ ≤ _; exact Nat.le_of_eq rfl) (hb hby d5_1) (fun _ _ => ⟨rfl, e0, (by decide : 0 + 0 ≤ _), (by decide : 0 + 0 ≤ _)⟩)
  dsimp only [Pt.U, Pt.locs, Pt.cells, Pt.slots] at X1 l1 y1 z1 st1 hQ1
  subst l1 y1 z1
  obtain ⟨rfl, N1q, eh1⟩ := hQ1
  have N1 := Fr.app N0 N1q
  refine own_via st1 ?_
  refine own_go (A := T1.setTop (mkF m 8 #[.val (.ref st), .unset, .unset, .unset] [(.ref st)])) (fun t_ k_ => ?_) ?_
  · show Steps p.tables e below (T1.setTop (mkF m 4 #[.val (.ref st), .unset, .unset, .unset] [(.int (0 : Int32))])) t_
    refine XS.ifNo X1.here hx rfl (hb hby d5_4) rfl ((if0 _ _).trans (teq (by decide : (0 : Int32) = (0 : Int32))).2) ?_
    show Steps p.tables e below (T1.setTop (mkF m 7 #[.val (.ref st), .unset, .unset, .unset] [])) t_
    refine XS.aloadN X1.here hx rfl (hb hby d5_7) rfl rfl ?_
    exact k_
  obtain ⟨cq2, kq2, q2a, q2b, q2c⟩ := isOf hZ eh1 u5
  obtain ⟨_, _, ⟨T2, L2, k2, n2⟩, -, X2, ⟨Lc2, hQ2, l2, y2, z2⟩, st2⟩ := X1.virtualBack hx (y := own_y2) (z := own_y2) hown (mvT hZ (own_w hw 39 rfl)) (mvT hZ (own_w hw 40 rfl)) (notFace_of_selects (args := #[]) (mvT hZ (own_w hw 42 rfl))) (mvT hZ (own_w hw 42 rfl)) (mvT hZ (own_w hw 41 rfl)) (by decide) (backOf (W := 0) (rmLen l Z a0 hw [] st d k (1 : Int32) [(.int (116 : Int32))] cs h0 n0 Z0 O0 u1 hcs u5 u6 u7 u8) hZ (own_w hw 43 rfl) (own_w hw 12 rfl) (by decide) (by decide)) q2a q2c (g := (mkF m 8 #[.val (.ref st), .unset, .unset, .unset] [(.ref st)])) rfl (by rw [hml]; rfl) (Steps.refl _) (argsL := []) (rest := []) (lenOf pd_5 rfl) rfl (by show 2 * 0 + _ ≤ _; exact Nat.le_of_eq rfl) (hb hby d5_8) (fun _ _ => ⟨rfl, eh1, (by decide : 0 + 0 ≤ _), (by decide : 0 + 0 ≤ _)⟩)
  dsimp only [Pt.U, Pt.locs, Pt.cells, Pt.slots] at X2 l2 y2 z2 st2 hQ2
  subst l2 y2 z2
  obtain ⟨rfl, N2q, eh2⟩ := hQ2
  have N2 := Fr.app N1 N2q
  refine own_via st2 ?_
  refine own_go (A := T2.setTop (mkF m 30 #[.val (.ref st), .val (.int (0 : Int32)), .unset, .unset] [(.ref st), (.int (0 : Int32))])) (fun t_ k_ => ?_) ?_
  · show Steps p.tables e below (T2.setTop (mkF m 11 #[.val (.ref st), .unset, .unset, .unset] [(.int (1 : Int32))])) t_
    refine XS.bipush X2.here hx rfl (hb hby d5_11) ?_
    show Steps p.tables e below (T2.setTop (mkF m 13 #[.val (.ref st), .unset, .unset, .unset] [(.int (64 : Int32)), (.int (1 : Int32))])) t_
    refine XS.icmpYes X2.here hx rfl (pc0 := 13) (pc' := 26) rfl (hb hby d5_13) rfl (flt (by decide : ¬ ((64 : Int32) < (1 : Int32)))).2.2.2 (by decide) (by decide) ?_
    show Steps p.tables e below (T2.setTop (mkF m 26 #[.val (.ref st), .unset, .unset, .unset] [])) t_
    refine XS.iconst X2.here hx rfl (hb hby d5_26) ?_
    show Steps p.tables e below (T2.setTop (mkF m 27 #[.val (.ref st), .unset, .unset, .unset] [(.int (0 : Int32))])) t_
    refine XS.istoreN X2.here hx rfl (hb hby d5_27) rfl (l' := #[.val (.ref st), .val (.int (0 : Int32)), .unset, .unset]) rfl ?_
    show Steps p.tables e below (T2.setTop (mkF m 28 #[.val (.ref st), .val (.int (0 : Int32)), .unset, .unset] [])) t_
    refine XS.iloadN X2.here hx rfl (hb hby d5_28) rfl ?_
    show Steps p.tables e below (T2.setTop (mkF m 29 #[.val (.ref st), .val (.int (0 : Int32)), .unset, .unset] [(.int (0 : Int32))])) t_
    refine XS.aloadN X2.here hx rfl (hb hby d5_29) rfl rfl ?_
    exact k_
  obtain ⟨cq3, kq3, q3a, q3b, q3c⟩ := isOf hZ eh2 u5
  obtain ⟨_, _, ⟨T3, L3, k3, n3⟩, -, X3, ⟨Lc3, hQ3, l3, y3, z3⟩, st3⟩ := X2.virtualBack hx (y := own_y2) (z := own_y2) hown (mvT hZ (own_w hw 39 rfl)) (mvT hZ (own_w hw 40 rfl)) (notFace_of_selects (args := #[]) (mvT hZ (own_w hw 42 rfl))) (mvT hZ (own_w hw 42 rfl)) (mvT hZ (own_w hw 41 rfl)) (by decide) (backOf (W := 1) (rmLen l Z a0 hw [] st d k (1 : Int32) [(.int (116 : Int32))] cs h0 n0 Z0 O0 u1 hcs u5 u6 u7 u8) hZ (own_w hw 43 rfl) (own_w hw 12 rfl) (by decide) (by decide)) q3a q3c (g := (mkF m 30 #[.val (.ref st), .val (.int (0 : Int32)), .unset, .unset] [(.ref st), (.int (0 : Int32))])) rfl (by rw [hml]; rfl) (Steps.refl _) (argsL := []) (rest := [(.int (0 : Int32))]) (lenOf pd_5 rfl) rfl (by show 2 * 0 + _ ≤ _; exact Nat.le_of_eq rfl) (hb hby d5_30) (fun _ _ => ⟨rfl, eh2, (by decide : 0 + 0 ≤ _), (by decide : 0 + 0 ≤ _)⟩)
  dsimp only [Pt.U, Pt.locs, Pt.cells, Pt.slots] at X3 l3 y3 z3 st3 hQ3
  subst l3 y3 z3
  obtain ⟨rfl, N3q, eh3⟩ := hQ3
  have N3 := Fr.app N2 N3q
  refine own_via st3 ?_
  refine own_go (A := T3.setTop (mkF m 38 #[.val (.ref st), .val (.int (0 : Int32)), .unset, .unset] [(.int (0 : Int32)), (.ref st)])) (fun t_ k_ => ?_) ?_
  · show Steps p.tables e below (T3.setTop (mkF m 33 #[.val (.ref st), .val (.int (0 : Int32)), .unset, .unset] [(.int (1 : Int32)), (.int (0 : Int32))])) t_
    refine XS.icmpNo X3.here hx rfl (hb hby d5_33) rfl (tlt (by decide : (0 : Int32) < (1 : Int32))).2.1 ?_
    show Steps p.tables e below (T3.setTop (mkF m 36 #[.val (.ref st), .val (.int (0 : Int32)), .unset, .unset] [])) t_
    refine XS.aloadN X3.here hx rfl (hb hby d5_36) rfl rfl ?_
    show Steps p.tables e below (T3.setTop (mkF m 37 #[.val (.ref st), .val (.int (0 : Int32)), .unset, .unset] [(.ref st)])) t_
    refine XS.iloadN X3.here hx rfl (hb hby d5_37) rfl ?_
    exact k_
  obtain ⟨cq4, kq4, q4a, q4b, q4c⟩ := isOf hZ eh3 u5
  obtain ⟨_, _, ⟨T4, L4, k4, n4⟩, -, X4, ⟨Lc4, hQ4, l4, y4, z4⟩, st4⟩ := X3.virtualBack hx (y := own_y7) (z := own_y7) hown (mvT hZ (own_w hw 51 rfl)) (mvT hZ (own_w hw 52 rfl)) (notFace_of_selects (args := #[]) (mvT hZ (own_w hw 54 rfl))) (mvT hZ (own_w hw 54 rfl)) (mvT hZ (own_w hw 53 rfl)) (by decide) (backOf (W := 0) (rmChAt l Z a0 hw [] st (0 : Int32) d k (1 : Int32) [(.int (116 : Int32))] (116 : Int32) sf cs h0 n0 Z0 O0 u1 hcs u3 hsf u5 u6 u7 u8 (by decide : ¬ ((0 : Int32) < (0 : Int32))) (by decide : (0 : Int32) < (1 : Int32)) rfl) hZ (own_w hw 55 rfl) (own_w hw 12 rfl) (by decide) (by decide)) q4a q4c (g := (mkF m 38 #[.val (.ref st), .val (.int (0 : Int32)), .unset, .unset] [(.int (0 : Int32)), (.ref st)])) rfl (by rw [hml]; rfl) (Steps.refl _) (argsL := [(.int (0 : Int32))]) (rest := []) (lenOf pd_6 rfl) rfl (by show 2 * 0 + _ ≤ _; exact Nat.le_of_eq rfl) (hb hby d5_38) (fun _ _ => ⟨rfl, eh3, (by decide : 0 + 0 ≤ _), (by decide : 0 + 0 ≤ _)⟩)
  dsimp only [Pt.U, Pt.locs, Pt.cells, Pt.slots] at X4 l4 y4 z4 st4 hQ4
  subst l4 y4 z4
  obtain ⟨rfl, N4q, eh4⟩ := hQ4
  have N4 := Fr.app N3 N4q
  refine own_via st4 ?_
  refine own_go (A := T4.setTop (mkF m 30 #[.val (.ref st), .val (.int (1 : Int32)), .val (.int (116 : Int32)), .val (.int (1 : Int32))] [(.ref st), (.int (1 : Int32))])) (fun t_ k_ => ?_) ?_
  · show Steps p.tables e below (T4.setTop (mkF m 41 #[.val (.ref st), .val (.int (0 : Int32)), .unset, .unset] [(.int (116 : Int32))])) t_
    refine XS.istoreN X4.here hx rfl (hb hby d5_41) rfl (l' := #[.val (.ref st), .val (.int (0 : Int32)), .val (.int (116 : Int32)), .unset]) rfl ?_
    show Steps p.tables e below (T4.setTop (mkF m 42 #[.val (.ref st), .val (.int (0 : Int32)), .val (.int (116 : Int32)), .unset] [])) t_
    refine XS.iloadN X4.here hx rfl (hb hby d5_42) rfl ?_
    show Steps p.tables e below (T4.setTop (mkF m 43 #[.val (.ref st), .val (.int (0 : Int32)), .val (.int (116 : Int32)), .unset] [(.int (116 : Int32))])) t_
    refine XS.bipush X4.here hx rfl (hb hby d5_43) ?_
    show Steps p.tables e below (T4.setTop (mkF m 45 #[.val (.ref st), .val (.int (0 : Int32)), .val (.int (116 : Int32)), .unset] [(.int (97 : Int32)), (.int (116 : Int32))])) t_
    refine XS.icmpNo X4.here hx rfl (hb hby d5_45) rfl (flt (by decide : ¬ ((116 : Int32) < (97 : Int32)))).1 ?_
    show Steps p.tables e below (T4.setTop (mkF m 48 #[.val (.ref st), .val (.int (0 : Int32)), .val (.int (116 : Int32)), .unset] [])) t_
    refine XS.iloadN X4.here hx rfl (hb hby d5_48) rfl ?_
    show Steps p.tables e below (T4.setTop (mkF m 49 #[.val (.ref st), .val (.int (0 : Int32)), .val (.int (116 : Int32)), .unset] [(.int (116 : Int32))])) t_
    refine XS.bipush X4.here hx rfl (hb hby d5_49) ?_
    show Steps p.tables e below (T4.setTop (mkF m 51 #[.val (.ref st), .val (.int (0 : Int32)), .val (.int (116 : Int32)), .unset] [(.int (122 : Int32)), (.int (116 : Int32))])) t_
    refine XS.icmpYes X4.here hx rfl (pc0 := 51) (pc' := 96) rfl (hb hby d5_51) rfl (flt (by decide : ¬ ((122 : Int32) < (116 : Int32)))).2.2.2 (by decide) (by decide) ?_
    show Steps p.tables e below (T4.setTop (mkF m 96 #[.val (.ref st), .val (.int (0 : Int32)), .val (.int (116 : Int32)), .unset] [])) t_
    refine XS.iconst X4.here hx rfl (hb hby d5_96) ?_
    show Steps p.tables e below (T4.setTop (mkF m 97 #[.val (.ref st), .val (.int (0 : Int32)), .val (.int (116 : Int32)), .unset] [(.int (1 : Int32))])) t_
    refine XS.goto X4.here hx rfl (pc0 := 97) (pc' := 101) rfl (hb hby d5_97) (by decide) (by decide) ?_
    show Steps p.tables e below (T4.setTop (mkF m 101 #[.val (.ref st), .val (.int (0 : Int32)), .val (.int (116 : Int32)), .unset] [(.int (1 : Int32))])) t_
    refine XS.istoreN X4.here hx rfl (hb hby d5_101) rfl (l' := #[.val (.ref st), .val (.int (0 : Int32)), .val (.int (116 : Int32)), .val (.int (1 : Int32))]) rfl ?_
    show Steps p.tables e below (T4.setTop (mkF m 102 #[.val (.ref st), .val (.int (0 : Int32)), .val (.int (116 : Int32)), .val (.int (1 : Int32))] [])) t_
    refine XS.iloadN X4.here hx rfl (hb hby d5_102) rfl ?_
    show Steps p.tables e below (T4.setTop (mkF m 103 #[.val (.ref st), .val (.int (0 : Int32)), .val (.int (116 : Int32)), .val (.int (1 : Int32))] [(.int (1 : Int32))])) t_
    refine XS.ifYes X4.here hx rfl (pc0 := 103) (pc' := 116) rfl (hb hby d5_103) rfl ((if0 _ _).trans (feq (by decide : ¬ ((1 : Int32) = (0 : Int32)))).2) (by decide) (by decide) ?_
    show Steps p.tables e below (T4.setTop (mkF m 116 #[.val (.ref st), .val (.int (0 : Int32)), .val (.int (116 : Int32)), .val (.int (1 : Int32))] [])) t_
    refine XS.iinc X4.here hx rfl (hb hby d5_116) rfl (l' := #[.val (.ref st), .val (.int (1 : Int32)), .val (.int (116 : Int32)), .val (.int (1 : Int32))]) rfl ?_
    show Steps p.tables e below (T4.setTop (mkF m 119 #[.val (.ref st), .val (.int (1 : Int32)), .val (.int (116 : Int32)), .val (.int (1 : Int32))] [])) t_
    refine XS.goto X4.here hx rfl (pc0 := 119) (pc' := 28) rfl (hb hby d5_119) (by decide) (by decide) ?_
    show Steps p.tables e below (T4.setTop (mkF m 28 #[.val (.ref st), .val (.int (1 : Int32)), .val (.int (116 : Int32)), .val (.int (1 : Int32))] [])) t_
    refine XS.iloadN X4.here hx rfl (hb hby d5_28) rfl ?_
    show Steps p.tables e below (T4.setTop (mkF m 29 #[.val (.ref st), .val (.int (1 : Int32)), .val (.int (116 : Int32)), .val (.int (1 : Int32))] [(.int (1 : Int32))])) t_
    refine XS.aloadN X4.here hx rfl (hb hby d5_29) rfl rfl ?_
    exact k_
  obtain ⟨cq5, kq5, q5a, q5b, q5c⟩ := isOf hZ eh4 u5
  obtain ⟨_, _, ⟨T5, L5, k5, n5⟩, -, X5, ⟨Lc5, hQ5, l5, y5, z5⟩, st5⟩ := X4.virtualBack hx (y := own_y2) (z := own_y2) hown (mvT hZ (own_w hw 39 rfl)) (mvT hZ (own_w hw 40 rfl)) (notFace_of_selects (args := #[]) (mvT hZ (own_w hw 42 rfl))) (mvT hZ (own_w hw 42 rfl)) (mvT hZ (own_w hw 41 rfl)) (by decide) (backOf (W := 1) (rmLen l Z a0 hw [] st d k (1 : Int32) [(.int (116 : Int32))] cs h0 n0 Z0 O0 u1 hcs u5 u6 u7 u8) hZ (own_w hw 43 rfl) (own_w hw 12 rfl) (by decide) (by decide)) q5a q5c (g := (mkF m 30 #[.val (.ref st), .val (.int (1 : Int32)), .val (.int (116 : Int32)), .val (.int (1 : Int32))] [(.ref st), (.int (1 : Int32))])) rfl (by rw [hml]; rfl) (Steps.refl _) (argsL := []) (rest := [(.int (1 : Int32))]) (lenOf pd_5 rfl) rfl (by show 2 * 0 + _ ≤ _; exact Nat.le_of_eq rfl) (hb hby d5_30) (fun _ _ => ⟨rfl, eh4, (by decide : 0 + 0 ≤ _), (by decide : 0 + 0 ≤ _)⟩)
  dsimp only [Pt.U, Pt.locs, Pt.cells, Pt.slots] at X5 l5 y5 z5 st5 hQ5
  subst l5 y5 z5
  obtain ⟨rfl, N5q, eh5⟩ := hQ5
  have N5 := Fr.app N4 N5q
  refine own_via st5 ?_
  refine own_go (A := T5.setTop (mkF m 122 #[.val (.ref st), .val (.int (1 : Int32)), .val (.int (116 : Int32)), .val (.int (1 : Int32))] [])) (fun t_ k_ => ?_) ?_
  · show Steps p.tables e below (T5.setTop (mkF m 33 #[.val (.ref st), .val (.int (1 : Int32)), .val (.int (116 : Int32)), .val (.int (1 : Int32))] [(.int (1 : Int32)), (.int (1 : Int32))])) t_
    refine XS.icmpYes X5.here hx rfl (pc0 := 33) (pc' := 122) rfl (hb hby d5_33) rfl (flt (by decide : ¬ ((1 : Int32) < (1 : Int32)))).2.1 (by decide) (by decide) ?_
    exact k_
  obtain ⟨fs6, hr6, hrun6, hended6, hW6, hsame6⟩ := X5.leave (v := none) (fun _ => rfl)
  refine ⟨_, _, ?_, hrun6, hended6, _, _, rfl, ?_, ⟨_, rfl⟩, hW6, hsame6.mono (by decide) (by decide)⟩
  · exact X5.returnOut hx Bd.returns (hb hby d5_122) hr6
  · show Q_rmName Z st d k cs sf h0 n0 _ T5.heap _
    rw [eh5]
    exact ⟨rfl, N5, rfl⟩
theorem d14_0 : decode prog_18_method_4_code 0 = .ok (.lload_n 1, 1) := by decide +kernel
theorem d14_1 : decode prog_18_method_4_code 1 = .ok (.lconst 1, 1) := by decide +kernel
theorem d14_2 : decode prog_18_method_4_code 2 = .ok (.lcmp, 1) := by decide +kernel
theorem d14_3 : decode prog_18_method_4_code 3 = .ok (.ifCond .lt 11, 3) := by decide +kernel
theorem d14_6 : decode prog_18_method_4_code 6 = .ok (.lload_n 1, 1) := by decide +kernel
theorem d14_7 : decode prog_18_method_4_code 7 = .ok (.ldc2_w 49, 3) := by decide +kernel
theorem d14_10 : decode prog_18_method_4_code 10 = .ok (.lcmp, 1) := by decide +kernel
theorem d14_11 : decode prog_18_method_4_code 11 = .ok (.ifCond .le 18, 3) := by decide +kernel
theorem d14_29 : decode prog_18_method_4_code 29 = .ok (.return_, 1) := by decide +kernel
abbrev own_y11 : MethodName := ⟨"com/example/firmline/firmline/model/Task", "checkTime", "(Ljava/lang/String;J)V"⟩
theorem ef_rmCkT (m : MethodId) (s0 : Addr) (q : Int64) : entryFrame m #[(.ref s0), (.long q)] 3 = mkF m 0 #[.val (.ref s0), .val (.long q), .second] [] := by first | (simp [entryFrame, mkF, argsToLocals, Value.category]; done) | rfl
def Q_rmCkT (Z : State) (s0 : Addr) (q : Int64) (h0 : Heap) (n0 : Nat) (v_ : Option Value) (h_ : Heap) (L_ : List Loc) : Prop := v_ = none ∧ Fr n0 L_ ∧ h_ = h0
set_option maxRecDepth 65536 in
set_option maxHeartbeats 40000000 in
theorem rmCkT (l : Launch) (Z : State) (a0 : Array Value) (hw : ∀ d ∈ tables_1, d.before a0 Z = true) (ws : List Jvm.Cond) (s0 : Addr) (q : Int64) (h0 : Heap) (n0 : Nat) (Z0 : n0 ≤ h0.size) (h1 : ¬ (q < (1 : Int64))) (h2 : ¬ ((1000000000000000 : Int64) < q)) :
    MetFree l own_y11 (head1 (Jvm.Cond.code own_y11 prog_18_method_4_code 3 none :: ws) ({ frames := 0, cells := 0, slots := 0, locals := 0 } : Room)) (fun a_ U_ => a_ = #[(.ref s0), (.long q)] ∧ Z.Warmed39 U_.vm ∧ U_.heap = h0) (fun _ _ _ _ _ => True) (fun _ U_ o_ U2_ => ∃ v_ L_, o_ = .returned v_ ∧ Q_rmCkT Z s0 q h0 n0 v_ U2_.heap L_ ∧ FrameEnd U_ o_ U2_ L_ ({ frames := 0, cells := 0, slots := 0, locals := 0 } : Room).cells ({ frames := 0, cells := 0, slots := 0, locals := 0 } : Room).slots) := by
  refine MetFree.of_bodySF (plainFor_of_name pn_5) hisR ?_
  intro p e s m args below meth c s₁ Bd hml0 hP hK
  obtain ⟨rfl, hZ, hh⟩ := hP
  have hx := Bd.exec
  have hby := Bd.bytes
  have hml : c.maxLocals = 3 := hml0
  have hown : s.vm.findClass "com/example/firmline/firmline/model/Task" = some m.cls := findClass_of_methodNamed Bd.named
  have hnm := (name_of_methodNamed Bd.named Bd.method).1
  have X0 : Stand p l e ({ frames := 0, cells := 0, slots := 0, locals := 0 } : Room) s m #[(.ref s0), (.long q)] below meth c s₁ [] 0 0 := Stand.of_body Bd
  have e0 : s₁.heap = h0 := by rw [← hh, Bd.state]; rfl
  have N0 := Fr.nil n0
  refine own_go (A := s₁.setTop (mkF m 0 #[.val (.ref s0), .val (.long q), .second] [])) (fun t_ k_ => castTop (ef_rmCkT m s0 q) k_) ?_
  refine own_go (A := s₁.setTop (mkF m 29 #[.val (.ref s0), .val (.long q), .second] [])) (fun t_ k_ => ?_) ?_
  · show Steps p.tables e below (s₁.setTop (mkF m 0 #[.val (.ref s0), .val (.long q), .second] [])) t_
    refine XS.lloadN X0.here hx rfl (hb hby d14_0) rfl ?_
    show Steps p.tables e below (s₁.setTop (mkF m 1 #[.val (.ref s0), .val (.long q), .second] [(.long q)])) t_
    refine XS.lconst X0.here hx rfl (hb hby d14_1) ?_
    show Steps p.tables e below (s₁.setTop (mkF m 2 #[.val (.ref s0), .val (.long q), .second] [(.long (1 : Int64)), (.long q)])) t_
    refine XS.lcmp X0.here hx rfl (hb hby d14_2) rfl ?_
    show Steps p.tables e below (s₁.setTop (mkF m 3 #[.val (.ref s0), .val (.long q), .second] [(.int (lcmpW q (1 : Int64)))])) t_
    refine XS.ifNo X0.here hx rfl (hb hby d14_3) rfl ((if0 _ _).trans (flt (fun q => h1 ((lw_lt _ _).mp q))).1) ?_
    show Steps p.tables e below (s₁.setTop (mkF m 6 #[.val (.ref s0), .val (.long q), .second] [])) t_
    refine XS.lloadN X0.here hx rfl (hb hby d14_6) rfl ?_
    show Steps p.tables e below (s₁.setTop (mkF m 7 #[.val (.ref s0), .val (.long q), .second] [(.long q)])) t_
    refine Jvm.Stand.ldc2J X0 hx hown (mvT hZ (own_w hw 77 rfl)) (g := (mkF m 7 #[.val (.ref s0), .val (.long q), .second] [(.long q)])) rfl (hb hby d14_7) ?_
    show Steps p.tables e below (s₁.setTop (mkF m 10 #[.val (.ref s0), .val (.long q), .second] [(.long (1000000000000000 : Int64)), (.long q)])) t_
    refine XS.lcmp X0.here hx rfl (hb hby d14_10) rfl ?_
    show Steps p.tables e below (s₁.setTop (mkF m 11 #[.val (.ref s0), .val (.long q), .second] [(.int (lcmpW q (1000000000000000 : Int64)))])) t_
    refine XS.ifYes X0.here hx rfl (pc0 := 11) (pc' := 29) rfl (hb hby d14_11) rfl ((if0 _ _).trans (flt (fun q => h2 ((lw_gt _ _).mp q))).2.2.2) (by decide) (by decide) ?_
    exact k_
  obtain ⟨fs1, hr1, hrun1, hended1, hW1, hsame1⟩ := X0.leave (v := none) (fun _ => rfl)
  refine ⟨_, _, ?_, hrun1, hended1, _, _, rfl, ?_, ⟨_, rfl⟩, hW1, hsame1.mono (by decide) (by decide)⟩
  · exact X0.returnOut hx Bd.returns (hb hby d14_29) hr1
  · show Q_rmCkT Z s0 q h0 n0 _ s₁.heap _
    rw [e0]
    exact ⟨rfl, N0, rfl⟩
theorem d15_0 : decode prog_18_method_5_code 0 = .ok (.lload_n 0, 1) := by decide +kernel
theorem d15_1 : decode prog_18_method_5_code 1 = .ok (.lconst 0, 1) := by decide +kernel
theorem d15_2 : decode prog_18_method_5_code 2 = .ok (.lcmp, 1) := by decide +kernel
theorem d15_3 : decode prog_18_method_5_code 3 = .ok (.ifCond .lt 11, 3) := by decide +kernel
theorem d15_6 : decode prog_18_method_5_code 6 = .ok (.lload_n 0, 1) := by decide +kernel
theorem d15_7 : decode prog_18_method_5_code 7 = .ok (.ldc2_w 59, 3) := by decide +kernel
theorem d15_10 : decode prog_18_method_5_code 10 = .ok (.lcmp, 1) := by decide +kernel
theorem d15_11 : decode prog_18_method_5_code 11 = .ok (.ifCond .le 17, 3) := by decide +kernel
theorem d15_28 : decode prog_18_method_5_code 28 = .ok (.return_, 1) := by decide +kernel
abbrev own_y12 : MethodName := ⟨"com/example/firmline/firmline/model/Task", "checkPriority", "(J)V"⟩
theorem ef_rmCkP (m : MethodId) (q : Int64) : entryFrame m #[(.long q)] 2 = mkF m 0 #[.val (.long q), .second] [] := by first | (simp [entryFrame, mkF, argsToLocals, Value.category]; done) | rfl
def Q_rmCkP (Z : State) (q : Int64) (h0 : Heap) (n0 : Nat) (v_ : Option Value) (h_ : Heap) (L_ : List Loc) : Prop := v_ = none ∧ Fr n0 L_ ∧ h_ = h0
set_option maxRecDepth 65536 in
set_option maxHeartbeats 40000000 in
theorem rmCkP (l : Launch) (Z : State) (a0 : Array Value) (hw : ∀ d ∈ tables_1, d.before a0 Z = true) (ws : List Jvm.Cond) (q : Int64) (h0 : Heap) (n0 : Nat) (Z0 : n0 ≤ h0.size) (h1 : ¬ (q < (0 : Int64))) (h2 : ¬ ((1000000000 : Int64) < q)) :
    MetFree l own_y12 (head1 (Jvm.Cond.code own_y12 prog_18_method_5_code 2 none :: ws) ({ frames := 0, cells := 0, slots := 0, locals := 0 } : Room)) (fun a_ U_ => a_ = #[(.long q)] ∧ Z.Warmed39 U_.vm ∧ U_.heap = h0) (fun _ _ _ _ _ => True) (fun _ U_ o_ U2_ => ∃ v_ L_, o_ = .returned v_ ∧ Q_rmCkP Z q h0 n0 v_ U2_.heap L_ ∧ FrameEnd U_ o_ U2_ L_ ({ frames := 0, cells := 0, slots := 0, locals := 0 } : Room).cells ({ frames := 0, cells := 0, slots := 0, locals := 0 } : Room).slots) := by
  refine MetFree.of_bodySF (plainFor_of_name pn_5) hisR ?_
  intro p e s m args below meth c s₁ Bd hml0 hP hK
  obtain ⟨rfl, hZ, hh⟩ := hP
  have hx := Bd.exec
  have hby := Bd.bytes
  have hml : c.maxLocals = 2 := hml0
  have hown : s.vm.findClass "com/example/firmline/firmline/model/Task" = some m.cls := findClass_of_methodNamed Bd.named
  have hnm := (name_of_methodNamed Bd.named Bd.method).1
  have X0 : Stand p l e ({ frames := 0, cells := 0, slots := 0, locals := 0 } : Room) s m #[(.long q)] below meth c s₁ [] 0 0 := Stand.of_body Bd
  have e0 : s₁.heap = h0 := by rw [← hh, Bd.state]; rfl
  have N0 := Fr.nil n0
  refine own_go (A := s₁.setTop (mkF m 0 #[.val (.long q), .second] [])) (fun t_ k_ => castTop (ef_rmCkP m q) k_) ?_
  refine own_go (A := s₁.setTop (mkF m 28 #[.val (.long q), .second] [])) (fun t_ k_ => ?_) ?_
  · show Steps p.tables e below (s₁.setTop (mkF m 0 #[.val (.long q), .second] [])) t_
    refine XS.lloadN X0.here hx rfl (hb hby d15_0) rfl ?_
    show Steps p.tables e below (s₁.setTop (mkF m 1 #[.val (.long q), .second] [(.long q)])) t_
    refine XS.lconst X0.here hx rfl (hb hby d15_1) ?_
    show Steps p.tables e below (s₁.setTop (mkF m 2 #[.val (.long q), .second] [(.long (0 : Int64)), (.long q)])) t_
    refine XS.lcmp X0.here hx rfl (hb hby d15_2) rfl ?_
    show Steps p.tables e below (s₁.setTop (mkF m 3 #[.val (.long q), .second] [(.int (lcmpW q (0 : Int64)))])) t_
    refine XS.ifNo X0.here hx rfl (hb hby d15_3) rfl ((if0 _ _).trans (flt (fun q => h1 ((lw_lt _ _).mp q))).1) ?_
    show Steps p.tables e below (s₁.setTop (mkF m 6 #[.val (.long q), .second] [])) t_
    refine XS.lloadN X0.here hx rfl (hb hby d15_6) rfl ?_
    show Steps p.tables e below (s₁.setTop (mkF m 7 #[.val (.long q), .second] [(.long q)])) t_
    refine Jvm.Stand.ldc2J X0 hx hown (mvT hZ (own_w hw 83 rfl)) (g := (mkF m 7 #[.val (.long q), .second] [(.long q)])) rfl (hb hby d15_7) ?_
    show Steps p.tables e below (s₁.setTop (mkF m 10 #[.val (.long q), .second] [(.long (1000000000 : Int64)), (.long q)])) t_
    refine XS.lcmp X0.here hx rfl (hb hby d15_10) rfl ?_
    show Steps p.tables e below (s₁.setTop (mkF m 11 #[.val (.long q), .second] [(.int (lcmpW q (1000000000 : Int64)))])) t_
    refine XS.ifYes X0.here hx rfl (pc0 := 11) (pc' := 28) rfl (hb hby d15_11) rfl ((if0 _ _).trans (flt (fun q => h2 ((lw_gt _ _).mp q))).2.2.2) (by decide) (by decide) ?_
    exact k_
  obtain ⟨fs1, hr1, hrun1, hended1, hW1, hsame1⟩ := X0.leave (v := none) (fun _ => rfl)
  refine ⟨_, _, ?_, hrun1, hended1, _, _, rfl, ?_, ⟨_, rfl⟩, hW1, hsame1.mono (by decide) (by decide)⟩
  · exact X0.returnOut hx Bd.returns (hb hby d15_28) hr1
  · show Q_rmCkP Z q h0 n0 _ s₁.heap _
    rw [e0]
    exact ⟨rfl, N0, rfl⟩
theorem d2_0 : decode prog_18_method_1_code 0 = .ok (.aload_n 0, 1) := by decide +kernel
theorem pd_7 : parseMethodDescriptor "()V" = some ⟨[], none⟩ := by decide +kernel
theorem d2_1 : decode prog_18_method_1_code 1 = .ok (.invokespecial 1, 3) := by decide +kernel
theorem d2_4 : decode prog_18_method_1_code 4 = .ok (.aload_n 1, 1) := by decide +kernel
theorem pd_8 : parseMethodDescriptor "(Ljava/lang/String;)V" = some ⟨[(.object "java/lang/String")], none⟩ := by decide +kernel
theorem d2_5 : decode prog_18_method_1_code 5 = .ok (.invokestatic 7, 3) := by decide +kernel
theorem d2_8 : decode prog_18_method_1_code 8 = .ok (.ldc 13, 2) := by decide +kernel
theorem d2_10 : decode prog_18_method_1_code 10 = .ok (.lload_n 2, 1) := by decide +kernel
theorem pd_9 : parseMethodDescriptor "(Ljava/lang/String;J)V" = some ⟨[(.object "java/lang/String"), .long], none⟩ := by decide +kernel
theorem d2_11 : decode prog_18_method_1_code 11 = .ok (.invokestatic 15, 3) := by decide +kernel
theorem d2_14 : decode prog_18_method_1_code 14 = .ok (.ldc 19, 2) := by decide +kernel
theorem d2_16 : decode prog_18_method_1_code 16 = .ok (.lload 4, 2) := by decide +kernel
theorem d2_18 : decode prog_18_method_1_code 18 = .ok (.invokestatic 15, 3) := by decide +kernel
theorem d2_21 : decode prog_18_method_1_code 21 = .ok (.ldc 21, 2) := by decide +kernel
theorem d2_23 : decode prog_18_method_1_code 23 = .ok (.lload 6, 2) := by decide +kernel
theorem d2_25 : decode prog_18_method_1_code 25 = .ok (.invokestatic 15, 3) := by decide +kernel
theorem d2_28 : decode prog_18_method_1_code 28 = .ok (.iload 8, 2) := by decide +kernel
theorem d2_30 : decode prog_18_method_1_code 30 = .ok (.i2l, 1) := by decide +kernel
theorem pd_10 : parseMethodDescriptor "(J)V" = some ⟨[.long], none⟩ := by decide +kernel
theorem d2_31 : decode prog_18_method_1_code 31 = .ok (.invokestatic 23, 3) := by decide +kernel
theorem d2_34 : decode prog_18_method_1_code 34 = .ok (.ldc 27, 2) := by decide +kernel
theorem d2_36 : decode prog_18_method_1_code 36 = .ok (.lload 9, 2) := by decide +kernel
theorem d2_38 : decode prog_18_method_1_code 38 = .ok (.invokestatic 15, 3) := by decide +kernel
theorem d2_41 : decode prog_18_method_1_code 41 = .ok (.aload_n 0, 1) := by decide +kernel
theorem d2_42 : decode prog_18_method_1_code 42 = .ok (.aload_n 1, 1) := by decide +kernel
theorem d2_43 : decode prog_18_method_1_code 43 = .ok (.putfield 29, 3) := by decide +kernel
theorem d2_46 : decode prog_18_method_1_code 46 = .ok (.aload_n 0, 1) := by decide +kernel
theorem d2_47 : decode prog_18_method_1_code 47 = .ok (.lload_n 2, 1) := by decide +kernel
theorem d2_48 : decode prog_18_method_1_code 48 = .ok (.putfield 33, 3) := by decide +kernel
theorem d2_51 : decode prog_18_method_1_code 51 = .ok (.aload_n 0, 1) := by decide +kernel
theorem d2_52 : decode prog_18_method_1_code 52 = .ok (.lload 4, 2) := by decide +kernel
theorem d2_54 : decode prog_18_method_1_code 54 = .ok (.putfield 36, 3) := by decide +kernel
theorem d2_57 : decode prog_18_method_1_code 57 = .ok (.aload_n 0, 1) := by decide +kernel
theorem d2_58 : decode prog_18_method_1_code 58 = .ok (.lload 6, 2) := by decide +kernel
theorem d2_60 : decode prog_18_method_1_code 60 = .ok (.putfield 38, 3) := by decide +kernel
theorem d2_63 : decode prog_18_method_1_code 63 = .ok (.aload_n 0, 1) := by decide +kernel
theorem d2_64 : decode prog_18_method_1_code 64 = .ok (.iload 8, 2) := by decide +kernel
theorem d2_66 : decode prog_18_method_1_code 66 = .ok (.putfield 40, 3) := by decide +kernel
theorem d2_69 : decode prog_18_method_1_code 69 = .ok (.aload_n 0, 1) := by decide +kernel
theorem d2_70 : decode prog_18_method_1_code 70 = .ok (.lload 9, 2) := by decide +kernel
theorem d2_72 : decode prog_18_method_1_code 72 = .ok (.putfield 44, 3) := by decide +kernel
theorem d2_75 : decode prog_18_method_1_code 75 = .ok (.return_, 1) := by decide +kernel
abbrev own_y13 : MethodName := ⟨"com/example/firmline/firmline/model/Task", "<init>", "(Ljava/lang/String;JJJIJ)V"⟩
theorem ef_rmTask (m : MethodId) (a : Addr) (st : Addr) (q1 : Int64) (q2 : Int64) (q3 : Int64) (pp : Int32) (q4 : Int64) : entryFrame m #[(.ref a), (.ref st), (.long q1), (.long q2), (.long q3), (.int pp), (.long q4)] 11 = mkF m 0 #[.val (.ref a), .val (.ref st), .val (.long q1), .second, .val (.long q2), .second, .val (.long q3), .second, .val (.int pp), .val (.long q4), .second] [] := by first | (simp [entryFrame, mkF, argsToLocals, Value.category]; done) | rfl
def Q_rmTask (Z : State) (a : Addr) (st : Addr) (q1 : Int64) (q2 : Int64) (q3 : Int64) (pp : Int32) (q4 : Int64) (d : Addr) (k : ClassId) (cs : Int32) (sf : Value) (h0 : Heap) (n0 : Nat) (v_ : Option Value) (h_ : Heap) (L_ : List Loc) : Prop := v_ = none ∧ Fr n0 L_ ∧ Keep h0 h_ [a] ∧ Fld Z h_ a "com/example/firmline/firmline/model/Task" "deadline" "J" (.long q2)
set_option maxRecDepth 65536 in
set_option maxHeartbeats 40000000 in
theorem rmTask (l : Launch) (Z : State) (a0 : Array Value) (hw : ∀ d ∈ tables_1, d.before a0 Z = true) (ws : List Jvm.Cond) (a : Addr) (st : Addr) (q1 : Int64) (q2 : Int64) (q3 : Int64) (pp : Int32) (q4 : Int64) (d : Addr) (k : ClassId) (cs : Int32) (sf : Value) (h0 : Heap) (n0 : Nat) (Z0 : n0 ≤ h0.size) (O0 : Old Z n0 h0) (u1 : Sta Z Z.heap "java/lang/String" "COMPACT_STRINGS" "Z" (.int cs)) (hcs : ¬ (cs = (0 : Int32))) (u3 : Sta Z Z.heap "jdk/internal/util/Preconditions" "SIOOBE_FORMATTER" "Ljava/util/function/BiFunction;" sf) (hsf : sf.isRef = true) (u5 : Exa Z h0 st "java/lang/String") (u6 : Fld Z h0 st "java/lang/String" "coder" "B" (.int (0 : Int32))) (u7 : Fld Z h0 st "java/lang/String" "value" "[B" (.ref d)) (u8 : Arv Z h0 d k .byte (1 : Int32) [(.int (116 : Int32))] (.int (0 : Int32))) (u9 : Exa Z h0 a "com/example/firmline/firmline/model/Task") (u10 : Fld Z h0 a "com/example/firmline/firmline/model/Task" "name" "Ljava/lang/String;" .null) (u11 : Fld Z h0 a "com/example/firmline/firmline/model/Task" "period" "J" (.long (0 : Int64))) (u12 : Fld Z h0 a "com/example/firmline/firmline/model/Task" "deadline" "J" (.long (0 : Int64))) (u13 : Fld Z h0 a "com/example/firmline/firmline/model/Task" "cost" "J" (.long (0 : Int64))) (u14 : Fld Z h0 a "com/example/firmline/firmline/model/Task" "priority" "I" (.int (0 : Int32))) (u15 : Fld Z h0 a "com/example/firmline/firmline/model/Task" "recovery" "J" (.long (0 : Int64))) (u16 : n0 ≤ a) (hq11 : ¬ (q1 < (1 : Int64))) (hq12 : ¬ ((1000000000000000 : Int64) < q1)) (hq21 : ¬ (q2 < (1 : Int64))) (hq22 : ¬ ((1000000000000000 : Int64) < q2)) (hq31 : ¬ (q3 < (1 : Int64))) (hq32 : ¬ ((1000000000000000 : Int64) < q3)) (hq41 : ¬ (q4 < (1 : Int64))) (hq42 : ¬ ((1000000000000000 : Int64) < q4)) (hp1 : ¬ ((pp).toInt64 < (0 : Int64))) (hp2 : ¬ ((1000000000 : Int64) < (pp).toInt64)) :
    MetFree l own_y13 (head1 (Jvm.Cond.code own_y13 prog_18_method_1_code 11 none :: ws) ({ frames := 5, cells := 8, slots := 120, locals := 68 } : Room)) (fun a_ U_ => a_ = #[(.ref a), (.ref st), (.long q1), (.long q2), (.long q3), (.int pp), (.long q4)] ∧ Z.Warmed39 U_.vm ∧ U_.heap = h0) (fun _ _ _ _ _ => True) (fun _ U_ o_ U2_ => ∃ v_ L_, o_ = .returned v_ ∧ Q_rmTask Z a st q1 q2 q3 pp q4 d k cs sf h0 n0 v_ U2_.heap L_ ∧ ReturnedEndW U_ o_ U2_ L_ ({ frames := 5, cells := 8, slots := 120, locals := 68 } : Room).cells ({ frames := 5, cells := 8, slots := 120, locals := 68 } : Room).slots) := by
  refine MetFree.of_bodySF (plainFor_of_name pn_5) hisR ?_
  intro p e s m args below meth c s₁ Bd hml0 hP hK
  obtain ⟨rfl, hZ, hh⟩ := hP
  have hx := Bd.exec
  have hby := Bd.bytes
  have hml : c.maxLocals = 11 := hml0
  have hown : s.vm.findClass "com/example/firmline/firmline/model/Task" = some m.cls := findClass_of_methodNamed Bd.named
  have hnm := (name_of_methodNamed Bd.named Bd.method).1
  have X0 : Stand p l e ({ frames := 5, cells := 8, slots := 120, locals := 68 } : Room) (s.setVm s.vm) m #[(.ref a), (.ref st), (.long q1), (.long q2), (.long q3), (.int pp), (.long q4)] below meth c s₁ [] 0 0 := Stand.of_body Bd
  have e0 : s₁.heap = h0 := by rw [← hh, Bd.state]; rfl
  have N0 := Fr.nil n0
  have hS : s.Since s.vm h0.size := (State.WarmedH.refl s).since _
  have hk := Nat.le_refl h0.size
  have hSA := own_strA hw
  refine own_go (A := s₁.setTop (mkF m 0 #[.val (.ref a), .val (.ref st), .val (.long q1), .second, .val (.long q2), .second, .val (.long q3), .second, .val (.int pp), .val (.long q4), .second] [])) (fun t_ k_ => castTop (ef_rmTask m a st q1 q2 q3 pp q4) k_) ?_
  refine own_go (A := s₁.setTop (mkF m 1 #[.val (.ref a), .val (.ref st), .val (.long q1), .second, .val (.long q2), .second, .val (.long q3), .second, .val (.int pp), .val (.long q4), .second] [(.ref a)])) (fun t_ k_ => ?_) ?_
  · show Steps p.tables e below (s₁.setTop (mkF m 0 #[.val (.ref a), .val (.ref st), .val (.long q1), .second, .val (.long q2), .second, .val (.long q3), .second, .val (.int pp), .val (.long q4), .second] [])) t_
    refine XS.aloadN X0.here hx rfl (hb hby d2_0) rfl rfl ?_
    exact k_
  obtain ⟨_, _, ⟨T1, L1, k1, n1⟩, -, X1, ⟨Lc1, hQ1, l1, y1, z1⟩, st1⟩ := X0.specialBack hx (y := own_y8) rfl hown (mvT hZ (own_w hw 22 rfl)) (mvT hZ (own_w hw 23 rfl)) (mvT hZ (own_w hw 26 rfl)) (by decide) (backOf (W := 0) (rmRec l Z a0 hw [] a h0 n0 Z0) hZ (own_w hw 26 rfl) (own_w hw 25 rfl) (by decide) (by decide)) (g := (mkF m 1 #[.val (.ref a), .val (.ref st), .val (.long q1), .second, .val (.long q2), .second, .val (.long q3), .second, .val (.int pp), .val (.long q4), .second] [(.ref a)])) rfl (by rw [hml]; rfl) (Steps.refl _) (a := a) (argsL := []) (rest := []) (lenOf pd_7 rfl) rfl (by show 2 * 0 + _ ≤ _; exact Nat.le_of_eq rfl) (hb hby d2_1) (fun _ _ => ⟨rfl, e0, (by decide : 0 + 0 ≤ _), (by decide : 0 + 0 ≤ _)⟩)
  dsimp only [Pt.U, Pt.locs, Pt.cells, Pt.slots] at X1 l1 y1 z1 st1 hQ1
  subst l1 y1 z1
  obtain ⟨rfl, N1q, eh1⟩ := hQ1
  have N1 := Fr.app N0 N1q
  refine own_via st1 ?_
  refine own_go (A := T1.setTop (mkF m 5 #[.val (.ref a), .val (.ref st), .val (.long q1), .second, .val (.long q2), .second, .val (.long q3), .second, .val (.int pp), .val (.long q4), .second] [(.ref st)])) (fun t_ k_ => ?_) ?_
  · show Steps p.tables e below (T1.setTop (mkF m 4 #[.val (.ref a), .val (.ref st), .val (.long q1), .second, .val (.long q2), .second, .val (.long q3), .second, .val (.int pp), .val (.long q4), .second] [])) t_
    refine XS.aloadN X1.here hx rfl (hb hby d2_4) rfl rfl ?_
    exact k_
  obtain ⟨_, _, ⟨T2, L2, k2, n2⟩, -, X2, ⟨Lc2, hQ2, l2, y2, z2⟩, st2⟩ := Jvm.LawKit.callS X1 hx (y := own_y10) hown (mvT hZ (own_w hw 30 rfl)) (mvT hZ (own_w hw 31 rfl)) (mvT hZ (own_w hw 10 rfl)) (mvT hZ (own_w hw 32 rfl)) (by decide) (backOf (W := 0) (rmName l Z a0 hw [] st d k cs sf h0 n0 Z0 O0 u1 hcs u3 hsf u5 u6 u7 u8) hZ (own_w hw 32 rfl) (own_w hw 10 rfl) (by decide) (by decide)) (g := (mkF m 5 #[.val (.ref a), .val (.ref st), .val (.long q1), .second, .val (.long q2), .second, .val (.long q3), .second, .val (.int pp), .val (.long q4), .second] [(.ref st)])) rfl (by rw [hml]; rfl) (argsL := [(.ref st)]) (rest := []) (lenOf pd_8 rfl) rfl (by show 2 * 0 + _ ≤ _; exact Nat.le_of_eq rfl) (hb hby d2_5) (fun _ _ => ⟨rfl, eh1, (by decide : 0 + 0 ≤ _), (by decide : 0 + 0 ≤ _)⟩)
  dsimp only [Pt.U, Pt.locs, Pt.cells, Pt.slots] at X2 l2 y2 z2 st2 hQ2
  subst l2 y2 z2
  obtain ⟨rfl, N2q, eh2⟩ := hQ2
  have N2 := Fr.app N1 N2q
  refine own_go st2 ?_
  obtain ⟨b3, T3, h3, k3, X3, e3, E3, hS, hk, hZ, hown, st3⟩ := ldcS X2 hx hZ hown (own_w hw 73 rfl) hSA eh2 hS hk (g := (mkF m 8 #[.val (.ref a), .val (.ref st), .val (.long q1), .second, .val (.long q2), .second, .val (.long q3), .second, .val (.int pp), .val (.long q4), .second] [])) rfl (hb hby d2_8) (n := 24) (by decide) (by decide) (by decide) (by decide)
  refine own_go st3 ?_
  have K3 : Keep h0 h3 [a] := (Keep.refl h0 [a]).ext E3
  have O3 := O0.ext E3
  refine own_go (A := T3.setTop (mkF m 11 #[.val (.ref a), .val (.ref st), .val (.long q1), .second, .val (.long q2), .second, .val (.long q3), .second, .val (.int pp), .val (.long q4), .second] [(.long q1), (.ref b3)])) (fun t_ k_ => ?_) ?_
  · show Steps p.tables e below (T3.setTop (mkF m 10 #[.val (.ref a), .val (.ref st), .val (.long q1), .second, .val (.long q2), .second, .val (.long q3), .second, .val (.int pp), .val (.long q4), .second] [(.ref b3)])) t_
    refine XS.lloadN X3.here hx rfl (hb hby d2_10) rfl ?_
    exact k_
  obtain ⟨_, _, ⟨T4, L4, k4, n4⟩, -, X4, ⟨Lc4, hQ4, l4, y4, z4⟩, st4⟩ := Jvm.LawKit.callS X3 hx (y := own_y11) hown (mvT hZ (own_w hw 74 rfl)) (mvT hZ (own_w hw 75 rfl)) (mvT hZ (own_w hw 10 rfl)) (mvT hZ (own_w hw 76 rfl)) (by decide) (backOf (W := 0) (rmCkT l Z a0 hw [] b3 q1 h3 n0 (Nat.le_trans Z0 K3.1) hq11 hq12) hZ (own_w hw 76 rfl) (own_w hw 10 rfl) (by decide) (by decide)) (g := (mkF m 11 #[.val (.ref a), .val (.ref st), .val (.long q1), .second, .val (.long q2), .second, .val (.long q3), .second, .val (.int pp), .val (.long q4), .second] [(.long q1), (.ref b3)])) rfl (by rw [hml]; rfl) (argsL := [(.ref b3), (.long q1)]) (rest := []) (lenOf pd_9 rfl) rfl (by show 2 * 0 + _ ≤ _; exact Nat.le_of_eq rfl) (hb hby d2_11) (fun _ _ => ⟨rfl, e3, (by decide : 2 + 0 ≤ _), (by decide : 28 + 0 ≤ _)⟩)
  dsimp only [Pt.U, Pt.locs, Pt.cells, Pt.slots] at X4 l4 y4 z4 st4 hQ4
  subst l4 y4 z4
  obtain ⟨rfl, N4q, eh4⟩ := hQ4
  have N4 := Fr.app N2 N4q
  refine own_go st4 ?_
  obtain ⟨b5, T5, h5, k5, X5, e5, E5, hS, hk, hZ, hown, st5⟩ := ldcS X4 hx hZ hown (own_w hw 78 rfl) hSA eh4 hS hk (g := (mkF m 14 #[.val (.ref a), .val (.ref st), .val (.long q1), .second, .val (.long q2), .second, .val (.long q3), .second, .val (.int pp), .val (.long q4), .second] [])) rfl (hb hby d2_14) (n := 32) (by decide) (by decide) (by decide) (by decide)
  refine own_go st5 ?_
  have K5 : Keep h0 h5 [a] := K3.ext E5
  have O5 := O3.ext E5
  refine own_go (A := T5.setTop (mkF m 18 #[.val (.ref a), .val (.ref st), .val (.long q1), .second, .val (.long q2), .second, .val (.long q3), .second, .val (.int pp), .val (.long q4), .second] [(.long q2), (.ref b5)])) (fun t_ k_ => ?_) ?_
  · show Steps p.tables e below (T5.setTop (mkF m 16 #[.val (.ref a), .val (.ref st), .val (.long q1), .second, .val (.long q2), .second, .val (.long q3), .second, .val (.int pp), .val (.long q4), .second] [(.ref b5)])) t_
    refine XS.lload X5.here hx rfl (hb hby d2_16) rfl ?_
    exact k_
  obtain ⟨_, _, ⟨T6, L6, k6, n6⟩, -, X6, ⟨Lc6, hQ6, l6, y6, z6⟩, st6⟩ := Jvm.LawKit.callS X5 hx (y := own_y11) hown (mvT hZ (own_w hw 74 rfl)) (mvT hZ (own_w hw 75 rfl)) (mvT hZ (own_w hw 10 rfl)) (mvT hZ (own_w hw 76 rfl)) (by decide) (backOf (W := 0) (rmCkT l Z a0 hw [] b5 q2 h5 n0 (Nat.le_trans Z0 K5.1) hq21 hq22) hZ (own_w hw 76 rfl) (own_w hw 10 rfl) (by decide) (by decide)) (g := (mkF m 18 #[.val (.ref a), .val (.ref st), .val (.long q1), .second, .val (.long q2), .second, .val (.long q3), .second, .val (.int pp), .val (.long q4), .second] [(.long q2), (.ref b5)])) rfl (by rw [hml]; rfl) (argsL := [(.ref b5), (.long q2)]) (rest := []) (lenOf pd_9 rfl) rfl (by show 2 * 0 + _ ≤ _; exact Nat.le_of_eq rfl) (hb hby d2_18) (fun _ _ => ⟨rfl, e5, (by decide : 4 + 0 ≤ _), (by decide : 64 + 0 ≤ _)⟩)
  dsimp only [Pt.U, Pt.locs, Pt.cells, Pt.slots] at X6 l6 y6 z6 st6 hQ6
  subst l6 y6 z6
  obtain ⟨rfl, N6q, eh6⟩ := hQ6
  have N6 := Fr.app N4 N6q
  refine own_go st6 ?_
  obtain ⟨b7, T7, h7, k7, X7, e7, E7, hS, hk, hZ, hown, st7⟩ := ldcS X6 hx hZ hown (own_w hw 79 rfl) hSA eh6 hS hk (g := (mkF m 21 #[.val (.ref a), .val (.ref st), .val (.long q1), .second, .val (.long q2), .second, .val (.long q3), .second, .val (.int pp), .val (.long q4), .second] [])) rfl (hb hby d2_21) (n := 16) (by decide) (by decide) (by decide) (by decide)
  refine own_go st7 ?_
  have K7 : Keep h0 h7 [a] := K5.ext E7
  have O7 := O5.ext E7
  refine own_go (A := T7.setTop (mkF m 25 #[.val (.ref a), .val (.ref st), .val (.long q1), .second, .val (.long q2), .second, .val (.long q3), .second, .val (.int pp), .val (.long q4), .second] [(.long q3), (.ref b7)])) (fun t_ k_ => ?_) ?_
  · show Steps p.tables e below (T7.setTop (mkF m 23 #[.val (.ref a), .val (.ref st), .val (.long q1), .second, .val (.long q2), .second, .val (.long q3), .second, .val (.int pp), .val (.long q4), .second] [(.ref b7)])) t_
    refine XS.lload X7.here hx rfl (hb hby d2_23) rfl ?_
    exact k_
  obtain ⟨_, _, ⟨T8, L8, k8, n8⟩, -, X8, ⟨Lc8, hQ8, l8, y8, z8⟩, st8⟩ := Jvm.LawKit.callS X7 hx (y := own_y11) hown (mvT hZ (own_w hw 74 rfl)) (mvT hZ (own_w hw 75 rfl)) (mvT hZ (own_w hw 10 rfl)) (mvT hZ (own_w hw 76 rfl)) (by decide) (backOf (W := 0) (rmCkT l Z a0 hw [] b7 q3 h7 n0 (Nat.le_trans Z0 K7.1) hq31 hq32) hZ (own_w hw 76 rfl) (own_w hw 10 rfl) (by decide) (by decide)) (g := (mkF m 25 #[.val (.ref a), .val (.ref st), .val (.long q1), .second, .val (.long q2), .second, .val (.long q3), .second, .val (.int pp), .val (.long q4), .second] [(.long q3), (.ref b7)])) rfl (by rw [hml]; rfl) (argsL := [(.ref b7), (.long q3)]) (rest := []) (lenOf pd_9 rfl) rfl (by show 2 * 0 + _ ≤ _; exact Nat.le_of_eq rfl) (hb hby d2_25) (fun _ _ => ⟨rfl, e7, (by decide : 6 + 0 ≤ _), (by decide : 84 + 0 ≤ _)⟩)
  dsimp only [Pt.U, Pt.locs, Pt.cells, Pt.slots] at X8 l8 y8 z8 st8 hQ8
  subst l8 y8 z8
  obtain ⟨rfl, N8q, eh8⟩ := hQ8
  have N8 := Fr.app N6 N8q
  refine own_go st8 ?_
  refine own_go (A := T8.setTop (mkF m 31 #[.val (.ref a), .val (.ref st), .val (.long q1), .second, .val (.long q2), .second, .val (.long q3), .second, .val (.int pp), .val (.long q4), .second] [(.long (pp).toInt64)])) (fun t_ k_ => ?_) ?_
  · show Steps p.tables e below (T8.setTop (mkF m 28 #[.val (.ref a), .val (.ref st), .val (.long q1), .second, .val (.long q2), .second, .val (.long q3), .second, .val (.int pp), .val (.long q4), .second] [])) t_
    refine XS.iload X8.here hx rfl (hb hby d2_28) rfl ?_
    show Steps p.tables e below (T8.setTop (mkF m 30 #[.val (.ref a), .val (.ref st), .val (.long q1), .second, .val (.long q2), .second, .val (.long q3), .second, .val (.int pp), .val (.long q4), .second] [(.int pp)])) t_
    refine XS.i2l X8.here hx rfl (hb hby d2_30) rfl ?_
    exact k_
  obtain ⟨_, _, ⟨T9, L9, k9, n9⟩, -, X9, ⟨Lc9, hQ9, l9, y9, z9⟩, st9⟩ := Jvm.LawKit.callS X8 hx (y := own_y12) hown (mvT hZ (own_w hw 80 rfl)) (mvT hZ (own_w hw 81 rfl)) (mvT hZ (own_w hw 10 rfl)) (mvT hZ (own_w hw 82 rfl)) (by decide) (backOf (W := 0) (rmCkP l Z a0 hw [] ((pp).toInt64) h7 n0 (Nat.le_trans Z0 K7.1) hp1 hp2) hZ (own_w hw 82 rfl) (own_w hw 10 rfl) (by decide) (by decide)) (g := (mkF m 31 #[.val (.ref a), .val (.ref st), .val (.long q1), .second, .val (.long q2), .second, .val (.long q3), .second, .val (.int pp), .val (.long q4), .second] [(.long (pp).toInt64)])) rfl (by rw [hml]; rfl) (argsL := [(.long (pp).toInt64)]) (rest := []) (lenOf pd_10 rfl) rfl (by show 2 * 0 + _ ≤ _; exact Nat.le_of_eq rfl) (hb hby d2_31) (fun _ _ => ⟨rfl, eh8, (by decide : 6 + 0 ≤ _), (by decide : 84 + 0 ≤ _)⟩)
  dsimp only [Pt.U, Pt.locs, Pt.cells, Pt.slots] at X9 l9 y9 z9 st9 hQ9
  subst l9 y9 z9
  obtain ⟨rfl, N9q, eh9⟩ := hQ9
  have N9 := Fr.app N8 N9q
  refine own_go st9 ?_
  obtain ⟨b10, T10, h10, k10, X10, e10, E10, hS, hk, hZ, hown, st10⟩ := ldcS X9 hx hZ hown (own_w hw 84 rfl) hSA eh9 hS hk (g := (mkF m 34 #[.val (.ref a), .val (.ref st), .val (.long q1), .second, .val (.long q2), .second, .val (.long q3), .second, .val (.int pp), .val (.long q4), .second] [])) rfl (hb hby d2_34) (n := 32) (by decide) (by decide) (by decide) (by decide)
  refine own_go st10 ?_
  have K10 : Keep h0 h10 [a] := K7.ext E10
  have O10 := O7.ext E10
  refine own_go (A := T10.setTop (mkF m 38 #[.val (.ref a), .val (.ref st), .val (.long q1), .second, .val (.long q2), .second, .val (.long q3), .second, .val (.int pp), .val (.long q4), .second] [(.long q4), (.ref b10)])) (fun t_ k_ => ?_) ?_
  · show Steps p.tables e below (T10.setTop (mkF m 36 #[.val (.ref a), .val (.ref st), .val (.long q1), .second, .val (.long q2), .second, .val (.long q3), .second, .val (.int pp), .val (.long q4), .second] [(.ref b10)])) t_
    refine XS.lload X10.here hx rfl (hb hby d2_36) rfl ?_
    exact k_
  obtain ⟨_, _, ⟨T11, L11, k11, n11⟩, -, X11, ⟨Lc11, hQ11, l11, y11, z11⟩, st11⟩ := Jvm.LawKit.callS X10 hx (y := own_y11) hown (mvT hZ (own_w hw 74 rfl)) (mvT hZ (own_w hw 75 rfl)) (mvT hZ (own_w hw 10 rfl)) (mvT hZ (own_w hw 76 rfl)) (by decide) (backOf (W := 0) (rmCkT l Z a0 hw [] b10 q4 h10 n0 (Nat.le_trans Z0 K10.1) hq41 hq42) hZ (own_w hw 76 rfl) (own_w hw 10 rfl) (by decide) (by decide)) (g := (mkF m 38 #[.val (.ref a), .val (.ref st), .val (.long q1), .second, .val (.long q2), .second, .val (.long q3), .second, .val (.int pp), .val (.long q4), .second] [(.long q4), (.ref b10)])) rfl (by rw [hml]; rfl) (argsL := [(.ref b10), (.long q4)]) (rest := []) (lenOf pd_9 rfl) rfl (by show 2 * 0 + _ ≤ _; exact Nat.le_of_eq rfl) (hb hby d2_38) (fun _ _ => ⟨rfl, e10, (by decide : 8 + 0 ≤ _), (by decide : 120 + 0 ≤ _)⟩)
  dsimp only [Pt.U, Pt.locs, Pt.cells, Pt.slots] at X11 l11 y11 z11 st11 hQ11
  subst l11 y11 z11
  obtain ⟨rfl, N11q, eh11⟩ := hQ11
  have N11 := Fr.app N9 N11q
  refine own_go st11 ?_
  refine own_go (A := T11.setTop (mkF m 43 #[.val (.ref a), .val (.ref st), .val (.long q1), .second, .val (.long q2), .second, .val (.long q3), .second, .val (.int pp), .val (.long q4), .second] [(.ref st), (.ref a)])) (fun t_ k_ => ?_) ?_
  · show Steps p.tables e below (T11.setTop (mkF m 41 #[.val (.ref a), .val (.ref st), .val (.long q1), .second, .val (.long q2), .second, .val (.long q3), .second, .val (.int pp), .val (.long q4), .second] [])) t_
    refine XS.aloadN X11.here hx rfl (hb hby d2_41) rfl rfl ?_
    show Steps p.tables e below (T11.setTop (mkF m 42 #[.val (.ref a), .val (.ref st), .val (.long q1), .second, .val (.long q2), .second, .val (.long q3), .second, .val (.int pp), .val (.long q4), .second] [(.ref a)])) t_
    refine XS.aloadN X11.here hx rfl (hb hby d2_42) rfl rfl ?_
    exact k_
  obtain ⟨T12, h12, X12, e12, W12, st12⟩ := putF X11 hx hZ hown (host := "") (Or.inl (own_w hw 85 rfl)) Via.refl eh11 ((((u10.ext E3).ext E5).ext E7).ext E10) ((((u9.ext E3).ext E5).ext E7).ext E10) (Or.inr ⟨(own_w hw 86 rfl), rfl, hnm⟩) (own_w hw 9 rfl) (ty := (.object "java/lang/String")) (by decide) rfl rfl (g := (mkF m 43 #[.val (.ref a), .val (.ref st), .val (.long q1), .second, .val (.long q2), .second, .val (.long q3), .second, .val (.int pp), .val (.long q4), .second] [(.ref st), (.ref a)])) rfl rfl (hb hby d2_43)
  have Fw12 : Fld Z h12 a "com/example/firmline/firmline/model/Task" "name" "Ljava/lang/String;" (.ref st) := ((((u10.ext E3).ext E5).ext E7).ext E10).same W12
  refine own_go st12 ?_
  have K12 : Keep h0 h12 [a] := K10.wr W12 (Or.inl (List.mem_of_getElem? (i := 0) rfl))
  have hk := Nat.le_trans hk (Keep.of_wr W12).1
  have O12 := O10.wr W12 u16
  have N12 := Fr.snoc X12 N11 u16
  refine own_go (A := T12.setTop (mkF m 48 #[.val (.ref a), .val (.ref st), .val (.long q1), .second, .val (.long q2), .second, .val (.long q3), .second, .val (.int pp), .val (.long q4), .second] [(.long q1), (.ref a)])) (fun t_ k_ => ?_) ?_
  · show Steps p.tables e below (T12.setTop (mkF m 46 #[.val (.ref a), .val (.ref st), .val (.long q1), .second, .val (.long q2), .second, .val (.long q3), .second, .val (.int pp), .val (.long q4), .second] [])) t_
    refine XS.aloadN X12.here hx rfl (hb hby d2_46) rfl rfl ?_
    show Steps p.tables e below (T12.setTop (mkF m 47 #[.val (.ref a), .val (.ref st), .val (.long q1), .second, .val (.long q2), .second, .val (.long q3), .second, .val (.int pp), .val (.long q4), .second] [(.ref a)])) t_
    refine XS.lloadN X12.here hx rfl (hb hby d2_47) rfl ?_
    exact k_
  obtain ⟨T13, h13, X13, e13, W13, st13⟩ := putF X12 hx hZ hown (host := "") (Or.inl (own_w hw 87 rfl)) Via.refl e12 (((((u11.ext E3).ext E5).ext E7).ext E10).other W12 (Or.inr (slot_ne (Or.inr (own_w hw 88 rfl)) (Or.inr (own_w hw 86 rfl)) (by decide) (t := .long) (t' := (.object "java/lang/String")) (by decide) (by decide)))) (((((u9.ext E3).ext E5).ext E7).ext E10).wr W12) (Or.inr ⟨(own_w hw 88 rfl), rfl, hnm⟩) (own_w hw 9 rfl) (ty := .long) (by decide) rfl rfl (g := (mkF m 48 #[.val (.ref a), .val (.ref st), .val (.long q1), .second, .val (.long q2), .second, .val (.long q3), .second, .val (.int pp), .val (.long q4), .second] [(.long q1), (.ref a)])) rfl rfl (hb hby d2_48)
  have Fw13 : Fld Z h13 a "com/example/firmline/firmline/model/Task" "period" "J" (.long q1) := (((((u11.ext E3).ext E5).ext E7).ext E10).other W12 (Or.inr (slot_ne (Or.inr (own_w hw 88 rfl)) (Or.inr (own_w hw 86 rfl)) (by decide) (t := .long) (t' := (.object "java/lang/String")) (by decide) (by decide)))).same W13
  refine own_go st13 ?_
  have K13 : Keep h0 h13 [a] := K12.wr W13 (Or.inl (List.mem_of_getElem? (i := 0) rfl))
  have hk := Nat.le_trans hk (Keep.of_wr W13).1
  have O13 := O12.wr W13 u16
  have N13 := Fr.snoc X13 N12 u16
  refine own_go (A := T13.setTop (mkF m 54 #[.val (.ref a), .val (.ref st), .val (.long q1), .second, .val (.long q2), .second, .val (.long q3), .second, .val (.int pp), .val (.long q4), .second] [(.long q2), (.ref a)])) (fun t_ k_ => ?_) ?_
  · show Steps p.tables e below (T13.setTop (mkF m 51 #[.val (.ref a), .val (.ref st), .val (.long q1), .second, .val (.long q2), .second, .val (.long q3), .second, .val (.int pp), .val (.long q4), .second] [])) t_
    refine XS.aloadN X13.here hx rfl (hb hby d2_51) rfl rfl ?_
    show Steps p.tables e below (T13.setTop (mkF m 52 #[.val (.ref a), .val (.ref st), .val (.long q1), .second, .val (.long q2), .second, .val (.long q3), .second, .val (.int pp), .val (.long q4), .second] [(.ref a)])) t_
    refine XS.lload X13.here hx rfl (hb hby d2_52) rfl ?_
    exact k_
  obtain ⟨T14, h14, X14, e14, W14, st14⟩ := putF X13 hx hZ hown (host := "") (Or.inl (own_w hw 89 rfl)) Via.refl e13 ((((((u12.ext E3).ext E5).ext E7).ext E10).other W12 (Or.inr (slot_ne (Or.inr (own_w hw 90 rfl)) (Or.inr (own_w hw 86 rfl)) (by decide) (t := .long) (t' := (.object "java/lang/String")) (by decide) (by decide)))).other W13 (Or.inr (slot_ne (Or.inr (own_w hw 90 rfl)) (Or.inr (own_w hw 88 rfl)) (by decide) (t := .long) (t' := .long) (by decide) (by decide)))) ((((((u9.ext E3).ext E5).ext E7).ext E10).wr W12).wr W13) (Or.inr ⟨(own_w hw 90 rfl), rfl, hnm⟩) (own_w hw 9 rfl) (ty := .long) (by decide) rfl rfl (g := (mkF m 54 #[.val (.ref a), .val (.ref st), .val (.long q1), .second, .val (.long q2), .second, .val (.long q3), .second, .val (.int pp), .val (.long q4), .second] [(.long q2), (.ref a)])) rfl rfl (hb hby d2_54)
  have Fw14 : Fld Z h14 a "com/example/firmline/firmline/model/Task" "deadline" "J" (.long q2) := ((((((u12.ext E3).ext E5).ext E7).ext E10).other W12 (Or.inr (slot_ne (Or.inr (own_w hw 90 rfl)) (Or.inr (own_w hw 86 rfl)) (by decide) (t := .long) (t' := (.object "java/lang/String")) (by decide) (by decide)))).other W13 (Or.inr (slot_ne (Or.inr (own_w hw 90 rfl)) (Or.inr (own_w hw 88 rfl)) (by decide) (t := .long) (t' := .long) (by decide) (by decide)))).same W14
  refine own_go st14 ?_
  have K14 : Keep h0 h14 [a] := K13.wr W14 (Or.inl (List.mem_of_getElem? (i := 0) rfl))
  have hk := Nat.le_trans hk (Keep.of_wr W14).1
  have O14 := O13.wr W14 u16
  have N14 := Fr.snoc X14 N13 u16
  refine own_go (A := T14.setTop (mkF m 60 #[.val (.ref a), .val (.ref st), .val (.long q1), .second, .val (.long q2), .second, .val (.long q3), .second, .val (.int pp), .val (.long q4), .second] [(.long q3), (.ref a)])) (fun t_ k_ => ?_) ?_
  · show Steps p.tables e below (T14.setTop (mkF m 57 #[.val (.ref a), .val (.ref st), .val (.long q1), .second, .val (.long q2), .second, .val (.long q3), .second, .val (.int pp), .val (.long q4), .second] [])) t_
    refine XS.aloadN X14.here hx rfl (hb hby d2_57) rfl rfl ?_
    show Steps p.tables e below (T14.setTop (mkF m 58 #[.val (.ref a), .val (.ref st), .val (.long q1), .second, .val (.long q2), .second, .val (.long q3), .second, .val (.int pp), .val (.long q4), .second] [(.ref a)])) t_
    refine XS.lload X14.here hx rfl (hb hby d2_58) rfl ?_
    exact k_
  obtain ⟨T15, h15, X15, e15, W15, st15⟩ := putF X14 hx hZ hown (host := "") (Or.inl (own_w hw 91 rfl)) Via.refl e14 (((((((u13.ext E3).ext E5).ext E7).ext E10).other W12 (Or.inr (slot_ne (Or.inr (own_w hw 92 rfl)) (Or.inr (own_w hw 86 rfl)) (by decide) (t := .long) (t' := (.object "java/lang/String")) (by decide) (by decide)))).other W13 (Or.inr (slot_ne (Or.inr (own_w hw 92 rfl)) (Or.inr (own_w hw 88 rfl)) (by decide) (t := .long) (t' := .long) (by decide) (by decide)))).other W14 (Or.inr (slot_ne (Or.inr (own_w hw 92 rfl)) (Or.inr (own_w hw 90 rfl)) (by decide) (t := .long) (t' := .long) (by decide) (by decide)))) (((((((u9.ext E3).ext E5).ext E7).ext E10).wr W12).wr W13).wr W14) (Or.inr ⟨(own_w hw 92 rfl), rfl, hnm⟩) (own_w hw 9 rfl) (ty := .long) (by decide) rfl rfl (g := (mkF m 60 #[.val (.ref a), .val (.ref st), .val (.long q1), .second, .val (.long q2), .second, .val (.long q3), .second, .val (.int pp), .val (.long q4), .second] [(.long q3), (.ref a)])) rfl rfl (hb hby d2_60)
  have Fw15 : Fld Z h15 a "com/example/firmline/firmline/model/Task" "cost" "J" (.long q3) := (((((((u13.ext E3).ext E5).ext E7).ext E10).other W12 (Or.inr (slot_ne (Or.inr (own_w hw 92 rfl)) (Or.inr (own_w hw 86 rfl)) (by decide) (t := .long) (t' := (.object "java/lang/String")) (by decide) (by decide)))).other W13 (Or.inr (slot_ne (Or.inr (own_w hw 92 rfl)) (Or.inr (own_w hw 88 rfl)) (by decide) (t := .long) (t' := .long) (by decide) (by decide)))).other W14 (Or.inr (slot_ne (Or.inr (own_w hw 92 rfl)) (Or.inr (own_w hw 90 rfl)) (by decide) (t := .long) (t' := .long) (by decide) (by decide)))).same W15
  refine own_go st15 ?_
  have K15 : Keep h0 h15 [a] := K14.wr W15 (Or.inl (List.mem_of_getElem? (i := 0) rfl))
  have hk := Nat.le_trans hk (Keep.of_wr W15).1
  have O15 := O14.wr W15 u16
  have N15 := Fr.snoc X15 N14 u16
  refine own_go (A := T15.setTop (mkF m 66 #[.val (.ref a), .val (.ref st), .val (.long q1), .second, .val (.long q2), .second, .val (.long q3), .second, .val (.int pp), .val (.long q4), .second] [(.int pp), (.ref a)])) (fun t_ k_ => ?_) ?_
  · show Steps p.tables e below (T15.setTop (mkF m 63 #[.val (.ref a), .val (.ref st), .val (.long q1), .second, .val (.long q2), .second, .val (.long q3), .second, .val (.int pp), .val (.long q4), .second] [])) t_
    refine XS.aloadN X15.here hx rfl (hb hby d2_63) rfl rfl ?_
    show Steps p.tables e below (T15.setTop (mkF m 64 #[.val (.ref a), .val (.ref st), .val (.long q1), .second, .val (.long q2), .second, .val (.long q3), .second, .val (.int pp), .val (.long q4), .second] [(.ref a)])) t_
    refine XS.iload X15.here hx rfl (hb hby d2_64) rfl ?_
    exact k_
  obtain ⟨T16, h16, X16, e16, W16, st16⟩ := putF X15 hx hZ hown (host := "") (Or.inl (own_w hw 93 rfl)) Via.refl e15 ((((((((u14.ext E3).ext E5).ext E7).ext E10).other W12 (Or.inr (slot_ne (Or.inr (own_w hw 94 rfl)) (Or.inr (own_w hw 86 rfl)) (by decide) (t := .int) (t' := (.object "java/lang/String")) (by decide) (by decide)))).other W13 (Or.inr (slot_ne (Or.inr (own_w hw 94 rfl)) (Or.inr (own_w hw 88 rfl)) (by decide) (t := .int) (t' := .long) (by decide) (by decide)))).other W14 (Or.inr (slot_ne (Or.inr (own_w hw 94 rfl)) (Or.inr (own_w hw 90 rfl)) (by decide) (t := .int) (t' := .long) (by decide) (by decide)))).other W15 (Or.inr (slot_ne (Or.inr (own_w hw 94 rfl)) (Or.inr (own_w hw 92 rfl)) (by decide) (t := .int) (t' := .long) (by decide) (by decide)))) ((((((((u9.ext E3).ext E5).ext E7).ext E10).wr W12).wr W13).wr W14).wr W15) (Or.inr ⟨(own_w hw 94 rfl), rfl, hnm⟩) (own_w hw 9 rfl) (ty := .int) (by decide) rfl rfl (g := (mkF m 66 #[.val (.ref a), .val (.ref st), .val (.long q1), .second, .val (.long q2), .second, .val (.long q3), .second, .val (.int pp), .val (.long q4), .second] [(.int pp), (.ref a)])) rfl rfl (hb hby d2_66)
  have Fw16 : Fld Z h16 a "com/example/firmline/firmline/model/Task" "priority" "I" (.int pp) := ((((((((u14.ext E3).ext E5).ext E7).ext E10).other W12 (Or.inr (slot_ne (Or.inr (own_w hw 94 rfl)) (Or.inr (own_w hw 86 rfl)) (by decide) (t := .int) (t' := (.object "java/lang/String")) (by decide) (by decide)))).other W13 (Or.inr (slot_ne (Or.inr (own_w hw 94 rfl)) (Or.inr (own_w hw 88 rfl)) (by decide) (t := .int) (t' := .long) (by decide) (by decide)))).other W14 (Or.inr (slot_ne (Or.inr (own_w hw 94 rfl)) (Or.inr (own_w hw 90 rfl)) (by decide) (t := .int) (t' := .long) (by decide) (by decide)))).other W15 (Or.inr (slot_ne (Or.inr (own_w hw 94 rfl)) (Or.inr (own_w hw 92 rfl)) (by decide) (t := .int) (t' := .long) (by decide) (by decide)))).same W16
  refine own_go st16 ?_
  have K16 : Keep h0 h16 [a] := K15.wr W16 (Or.inl (List.mem_of_getElem? (i := 0) rfl))
  have hk := Nat.le_trans hk (Keep.of_wr W16).1
  have O16 := O15.wr W16 u16
  have N16 := Fr.snoc X16 N15 u16
  refine own_go (A := T16.setTop (mkF m 72 #[.val (.ref a), .val (.ref st), .val (.long q1), .second, .val (.long q2), .second, .val (.long q3), .second, .val (.int pp), .val (.long q4), .second] [(.long q4), (.ref a)])) (fun t_ k_ => ?_) ?_
  · show Steps p.tables e below (T16.setTop (mkF m 69 #[.val (.ref a), .val (.ref st), .val (.long q1), .second, .val (.long q2), .second, .val (.long q3), .second, .val (.int pp), .val (.long q4), .second] [])) t_
    refine XS.aloadN X16.here hx rfl (hb hby d2_69) rfl rfl ?_
    show Steps p.tables e below (T16.setTop (mkF m 70 #[.val (.ref a), .val (.ref st), .val (.long q1), .second, .val (.long q2), .second, .val (.long q3), .second, .val (.int pp), .val (.long q4), .second] [(.ref a)])) t_
    refine XS.lload X16.here hx rfl (hb hby d2_70) rfl ?_
    exact k_
  obtain ⟨T17, h17, X17, e17, W17, st17⟩ := putF X16 hx hZ hown (host := "") (Or.inl (own_w hw 95 rfl)) Via.refl e16 (((((((((u15.ext E3).ext E5).ext E7).ext E10).other W12 (Or.inr (slot_ne (Or.inr (own_w hw 96 rfl)) (Or.inr (own_w hw 86 rfl)) (by decide) (t := .long) (t' := (.object "java/lang/String")) (by decide) (by decide)))).other W13 (Or.inr (slot_ne (Or.inr (own_w hw 96 rfl)) (Or.inr (own_w hw 88 rfl)) (by decide) (t := .long) (t' := .long) (by decide) (by decide)))).other W14 (Or.inr (slot_ne (Or.inr (own_w hw 96 rfl)) (Or.inr (own_w hw 90 rfl)) (by decide) (t := .long) (t' := .long) (by decide) (by decide)))).other W15 (Or.inr (slot_ne (Or.inr (own_w hw 96 rfl)) (Or.inr (own_w hw 92 rfl)) (by decide) (t := .long) (t' := .long) (by decide) (by decide)))).other W16 (Or.inr (slot_ne (Or.inr (own_w hw 96 rfl)) (Or.inr (own_w hw 94 rfl)) (by decide) (t := .long) (t' := .int) (by decide) (by decide)))) (((((((((u9.ext E3).ext E5).ext E7).ext E10).wr W12).wr W13).wr W14).wr W15).wr W16) (Or.inr ⟨(own_w hw 96 rfl), rfl, hnm⟩) (own_w hw 9 rfl) (ty := .long) (by decide) rfl rfl (g := (mkF m 72 #[.val (.ref a), .val (.ref st), .val (.long q1), .second, .val (.long q2), .second, .val (.long q3), .second, .val (.int pp), .val (.long q4), .second] [(.long q4), (.ref a)])) rfl rfl (hb hby d2_72)
  have Fw17 : Fld Z h17 a "com/example/firmline/firmline/model/Task" "recovery" "J" (.long q4) := (((((((((u15.ext E3).ext E5).ext E7).ext E10).other W12 (Or.inr (slot_ne (Or.inr (own_w hw 96 rfl)) (Or.inr (own_w hw 86 rfl)) (by decide) (t := .long) (t' := (.object "java/lang/String")) (by decide) (by decide)))).other W13 (Or.inr (slot_ne (Or.inr (own_w hw 96 rfl)) (Or.inr (own_w hw 88 rfl)) (by decide) (t := .long) (t' := .long) (by decide) (by decide)))).other W14 (Or.inr (slot_ne (Or.inr (own_w hw 96 rfl)) (Or.inr (own_w hw 90 rfl)) (by decide) (t := .long) (t' := .long) (by decide) (by decide)))).other W15 (Or.inr (slot_ne (Or.inr (own_w hw 96 rfl)) (Or.inr (own_w hw 92 rfl)) (by decide) (t := .long) (t' := .long) (by decide) (by decide)))).other W16 (Or.inr (slot_ne (Or.inr (own_w hw 96 rfl)) (Or.inr (own_w hw 94 rfl)) (by decide) (t := .long) (t' := .int) (by decide) (by decide)))).same W17
  refine own_go st17 ?_
  have K17 : Keep h0 h17 [a] := K16.wr W17 (Or.inl (List.mem_of_getElem? (i := 0) rfl))
  have hk := Nat.le_trans hk (Keep.of_wr W17).1
  have O17 := O16.wr W17 u16
  have N17 := Fr.snoc X17 N16 u16
  obtain ⟨fs18, hr18, hrun18, hended18, hRW18⟩ := X17.leaveW hS (by rw [e17]; exact hk) (v := none) (fun _ => rfl)
  refine ⟨_, _, ?_, hrun18, hended18, _, _, rfl, ?_, hRW18.1, hRW18.2.1, hRW18.2.2.1, hRW18.2.2.2.mono (by decide) (by decide)⟩
  · exact X17.returnOut hx Bd.returns (hb hby d2_75) hr18
  · show Q_rmTask Z a st q1 q2 q3 pp q4 d k cs sf h0 n0 _ T17.heap _
    rw [e17]
    exact ⟨rfl, N17, K17, (((Fw14.other W15 (Or.inr (slot_ne (Or.inr (own_w hw 90 rfl)) (Or.inr (own_w hw 92 rfl)) (by decide) (t := .long) (t' := .long) (by decide) (by decide)))).other W16 (Or.inr (slot_ne (Or.inr (own_w hw 90 rfl)) (Or.inr (own_w hw 94 rfl)) (by decide) (t := .long) (t' := .int) (by decide) (by decide)))).other W17 (Or.inr (slot_ne (Or.inr (own_w hw 90 rfl)) (Or.inr (own_w hw 96 rfl)) (by decide) (t := .long) (t' := .long) (by decide) (by decide))))⟩
theorem d16_0 : decode prog_3_method_1_code 0 = .ok (.aload_n 0, 1) := by decide +kernel
theorem d16_1 : decode prog_3_method_1_code 1 = .ok (.invokespecial 1, 3) := by decide +kernel
theorem d16_4 : decode prog_3_method_1_code 4 = .ok (.aload_n 0, 1) := by decide +kernel
theorem d16_5 : decode prog_3_method_1_code 5 = .ok (.aload_n 1, 1) := by decide +kernel
theorem d16_6 : decode prog_3_method_1_code 6 = .ok (.putfield 7, 3) := by decide +kernel
theorem d16_9 : decode prog_3_method_1_code 9 = .ok (.aload_n 0, 1) := by decide +kernel
theorem d16_10 : decode prog_3_method_1_code 10 = .ok (.lload_n 2, 1) := by decide +kernel
theorem d16_11 : decode prog_3_method_1_code 11 = .ok (.putfield 13, 3) := by decide +kernel
theorem d16_14 : decode prog_3_method_1_code 14 = .ok (.return_, 1) := by decide +kernel
abbrev own_y14 : MethodName := ⟨"com/example/firmline/firmline/analysis/FaultResponse", "<init>", "(Lcom/example/firmline/firmline/model/Task;J)V"⟩
theorem ef_rmFR (m : MethodId) (a : Addr) (t : Addr) (q : Int64) : entryFrame m #[(.ref a), (.ref t), (.long q)] 4 = mkF m 0 #[.val (.ref a), .val (.ref t), .val (.long q), .second] [] := by first | (simp [entryFrame, mkF, argsToLocals, Value.category]; done) | rfl
def Q_rmFR (Z : State) (a : Addr) (t : Addr) (q : Int64) (h0 : Heap) (n0 : Nat) (v_ : Option Value) (h_ : Heap) (L_ : List Loc) : Prop := v_ = none ∧ Fr n0 L_ ∧ Keep h0 h_ [a] ∧ Fld Z h_ a "com/example/firmline/firmline/analysis/FaultResponse" "task" "Lcom/example/firmline/firmline/model/Task;" (.ref t) ∧ Fld Z h_ a "com/example/firmline/firmline/analysis/FaultResponse" "value" "J" (.long q)
theorem pn_6 : plainName "com/example/firmline/firmline/analysis/FaultResponse" = true := by first | (simp [plainName, overriddenIn]; done) | decide +kernel
set_option maxRecDepth 65536 in
set_option maxHeartbeats 40000000 in
theorem rmFR (l : Launch) (Z : State) (a0 : Array Value) (hw : ∀ d ∈ tables_1, d.before a0 Z = true) (ws : List Jvm.Cond) (a : Addr) (t : Addr) (q : Int64) (h0 : Heap) (n0 : Nat) (Z0 : n0 ≤ h0.size) (u0 : Exa Z h0 a "com/example/firmline/firmline/analysis/FaultResponse") (u1 : Fld Z h0 a "com/example/firmline/firmline/analysis/FaultResponse" "task" "Lcom/example/firmline/firmline/model/Task;" .null) (u2 : Fld Z h0 a "com/example/firmline/firmline/analysis/FaultResponse" "value" "J" (.long (0 : Int64))) (u3 : n0 ≤ a) :
    MetFree l own_y14 (head1 (Jvm.Cond.code own_y14 prog_3_method_1_code 4 none :: ws) ({ frames := 2, cells := 0, slots := 0, locals := 24 } : Room)) (fun a_ U_ => a_ = #[(.ref a), (.ref t), (.long q)] ∧ Z.Warmed39 U_.vm ∧ U_.heap = h0) (fun _ _ _ _ _ => True) (fun _ U_ o_ U2_ => ∃ v_ L_, o_ = .returned v_ ∧ Q_rmFR Z a t q h0 n0 v_ U2_.heap L_ ∧ FrameEnd U_ o_ U2_ L_ ({ frames := 2, cells := 0, slots := 0, locals := 24 } : Room).cells ({ frames := 2, cells := 0, slots := 0, locals := 24 } : Room).slots) := by
  refine MetFree.of_bodySF (plainFor_of_name pn_6) hisR ?_
  intro p e s m args below meth c s₁ Bd hml0 hP hK
  obtain ⟨rfl, hZ, hh⟩ := hP
  have hx := Bd.exec
  have hby := Bd.bytes
  have hml : c.maxLocals = 4 := hml0
  have hown : s.vm.findClass "com/example/firmline/firmline/analysis/FaultResponse" = some m.cls := findClass_of_methodNamed Bd.named
  have hnm := (name_of_methodNamed Bd.named Bd.method).1
  have X0 : Stand p l e ({ frames := 2, cells := 0, slots := 0, locals := 24 } : Room) s m #[(.ref a), (.ref t), (.long q)] below meth c s₁ [] 0 0 := Stand.of_body Bd
  have e0 : s₁.heap = h0 := by rw [← hh, Bd.state]; rfl
  have N0 := Fr.nil n0
  refine own_go (A := s₁.setTop (mkF m 0 #[.val (.ref a), .val (.ref t), .val (.long q), .second] [])) (fun t_ k_ => castTop (ef_rmFR m a t q) k_) ?_
  refine own_go (A := s₁.setTop (mkF m 1 #[.val (.ref a), .val (.ref t), .val (.long q), .second] [(.ref a)])) (fun t_ k_ => ?_) ?_
  · show Steps p.tables e below (s₁.setTop (mkF m 0 #[.val (.ref a), .val (.ref t), .val (.long q), .second] [])) t_
    refine XS.aloadN X0.here hx rfl (hb hby d16_0) rfl rfl ?_
    exact k_
  obtain ⟨_, _, ⟨T1, L1, k1, n1⟩, -, X1, ⟨Lc1, hQ1, l1, y1, z1⟩, st1⟩ := X0.specialBack hx (y := own_y8) rfl hown (mvT hZ (own_w hw 103 rfl)) (mvT hZ (own_w hw 23 rfl)) (mvT hZ (own_w hw 26 rfl)) (by decide) (backOf (W := 0) (rmRec l Z a0 hw [] a h0 n0 Z0) hZ (own_w hw 26 rfl) (own_w hw 25 rfl) (by decide) (by decide)) (g := (mkF m 1 #[.val (.ref a), .val (.ref t), .val (.long q), .second] [(.ref a)])) rfl (by rw [hml]; rfl) (Steps.refl _) (a := a) (argsL := []) (rest := []) (lenOf pd_7 rfl) rfl (by show 2 * 0 + _ ≤ _; exact Nat.le_of_eq rfl) (hb hby d16_1) (fun _ _ => ⟨rfl, e0, (by decide : 0 + 0 ≤ _), (by decide : 0 + 0 ≤ _)⟩)
  dsimp only [Pt.U, Pt.locs, Pt.cells, Pt.slots] at X1 l1 y1 z1 st1 hQ1
  subst l1 y1 z1
  obtain ⟨rfl, N1q, eh1⟩ := hQ1
  have N1 := Fr.app N0 N1q
  refine own_via st1 ?_
  refine own_go (A := T1.setTop (mkF m 6 #[.val (.ref a), .val (.ref t), .val (.long q), .second] [(.ref t), (.ref a)])) (fun t_ k_ => ?_) ?_
  · show Steps p.tables e below (T1.setTop (mkF m 4 #[.val (.ref a), .val (.ref t), .val (.long q), .second] [])) t_
    refine XS.aloadN X1.here hx rfl (hb hby d16_4) rfl rfl ?_
    show Steps p.tables e below (T1.setTop (mkF m 5 #[.val (.ref a), .val (.ref t), .val (.long q), .second] [(.ref a)])) t_
    refine XS.aloadN X1.here hx rfl (hb hby d16_5) rfl rfl ?_
    exact k_
  obtain ⟨T2, h2, X2, e2, W2, st2⟩ := putF X1 hx hZ hown (host := "") (Or.inl (own_w hw 104 rfl)) Via.refl eh1 u1 u0 (Or.inr ⟨(own_w hw 105 rfl), rfl, hnm⟩) (own_w hw 98 rfl) (ty := (.object "com/example/firmline/firmline/model/Task")) (by decide) rfl rfl (g := (mkF m 6 #[.val (.ref a), .val (.ref t), .val (.long q), .second] [(.ref t), (.ref a)])) rfl rfl (hb hby d16_6)
  have Fw2 : Fld Z h2 a "com/example/firmline/firmline/analysis/FaultResponse" "task" "Lcom/example/firmline/firmline/model/Task;" (.ref t) := u1.same W2
  refine own_go st2 ?_
  have K2 : Keep h0 h2 [a] := (Keep.refl h0 [a]).wr W2 (Or.inl (List.mem_of_getElem? (i := 0) rfl))
  have N2 := Fr.snoc X2 N1 u3
  refine own_go (A := T2.setTop (mkF m 11 #[.val (.ref a), .val (.ref t), .val (.long q), .second] [(.long q), (.ref a)])) (fun t_ k_ => ?_) ?_
  · show Steps p.tables e below (T2.setTop (mkF m 9 #[.val (.ref a), .val (.ref t), .val (.long q), .second] [])) t_
    refine XS.aloadN X2.here hx rfl (hb hby d16_9) rfl rfl ?_
    show Steps p.tables e below (T2.setTop (mkF m 10 #[.val (.ref a), .val (.ref t), .val (.long q), .second] [(.ref a)])) t_
    refine XS.lloadN X2.here hx rfl (hb hby d16_10) rfl ?_
    exact k_
  obtain ⟨T3, h3, X3, e3, W3, st3⟩ := putF X2 hx hZ hown (host := "") (Or.inl (own_w hw 106 rfl)) Via.refl e2 (u2.other W2 (Or.inr (slot_ne (Or.inr (own_w hw 107 rfl)) (Or.inr (own_w hw 105 rfl)) (by decide) (t := .long) (t' := (.object "com/example/firmline/firmline/model/Task")) (by decide) (by decide)))) (u0.wr W2) (Or.inr ⟨(own_w hw 107 rfl), rfl, hnm⟩) (own_w hw 98 rfl) (ty := .long) (by decide) rfl rfl (g := (mkF m 11 #[.val (.ref a), .val (.ref t), .val (.long q), .second] [(.long q), (.ref a)])) rfl rfl (hb hby d16_11)
  have Fw3 : Fld Z h3 a "com/example/firmline/firmline/analysis/FaultResponse" "value" "J" (.long q) := (u2.other W2 (Or.inr (slot_ne (Or.inr (own_w hw 107 rfl)) (Or.inr (own_w hw 105 rfl)) (by decide) (t := .long) (t' := (.object "com/example/firmline/firmline/model/Task")) (by decide) (by decide)))).same W3
  refine own_go st3 ?_
  have K3 : Keep h0 h3 [a] := K2.wr W3 (Or.inl (List.mem_of_getElem? (i := 0) rfl))
  have N3 := Fr.snoc X3 N2 u3
  obtain ⟨fs4, hr4, hrun4, hended4, hW4, hsame4⟩ := X3.leave (v := none) (fun _ => rfl)
  refine ⟨_, _, ?_, hrun4, hended4, _, _, rfl, ?_, ⟨_, rfl⟩, hW4, hsame4.mono (by decide) (by decide)⟩
  · exact X3.returnOut hx Bd.returns (hb hby d16_14) hr4
  · show Q_rmFR Z a t q h0 n0 _ T3.heap _
    rw [e3]
    exact ⟨rfl, N3, K3, (Fw2.other W3 (Or.inr (slot_ne (Or.inr (own_w hw 105 rfl)) (Or.inr (own_w hw 107 rfl)) (by decide) (t := (.object "com/example/firmline/firmline/model/Task")) (t' := .long) (by decide) (by decide)))), Fw3⟩
theorem d18_0 : decode prog_18_method_12_code 0 = .ok (.aload_n 0, 1) := by decide +kernel
theorem d18_1 : decode prog_18_method_12_code 1 = .ok (.getfield 36, 3) := by decide +kernel
theorem d18_4 : decode prog_18_method_12_code 4 = .ok (.lreturn, 1) := by decide +kernel
abbrev own_y15 : MethodName := ⟨"com/example/firmline/firmline/model/Task", "deadline", "()J"⟩
theorem ef_rmDl (m : MethodId) (a : Addr) : entryFrame m #[(.ref a)] 1 = mkF m 0 #[.val (.ref a)] [] := by first | (simp [entryFrame, mkF, argsToLocals, Value.category]; done) | rfl
def Q_rmDl (Z : State) (a : Addr) (q : Int64) (h0 : Heap) (n0 : Nat) (v_ : Option Value) (h_ : Heap) (L_ : List Loc) : Prop := v_ = some (.long q) ∧ Fr n0 L_ ∧ h_ = h0
set_option maxRecDepth 65536 in
set_option maxHeartbeats 40000000 in
theorem rmDl (l : Launch) (Z : State) (a0 : Array Value) (hw : ∀ d ∈ tables_1, d.before a0 Z = true) (ws : List Jvm.Cond) (a : Addr) (q : Int64) (h0 : Heap) (n0 : Nat) (Z0 : n0 ≤ h0.size) (u0 : Fld Z h0 a "com/example/firmline/firmline/model/Task" "deadline" "J" (.long q)) :
    MetFree l own_y15 (head1 (Jvm.Cond.code own_y15 prog_18_method_12_code 1 (some .long) :: ws) ({ frames := 0, cells := 0, slots := 0, locals := 0 } : Room)) (fun a_ U_ => a_ = #[(.ref a)] ∧ Z.Warmed39 U_.vm ∧ U_.heap = h0) (fun _ _ _ _ _ => True) (fun _ U_ o_ U2_ => ∃ v_ L_, o_ = .returned v_ ∧ Q_rmDl Z a q h0 n0 v_ U2_.heap L_ ∧ FrameEnd U_ o_ U2_ L_ ({ frames := 0, cells := 0, slots := 0, locals := 0 } : Room).cells ({ frames := 0, cells := 0, slots := 0, locals := 0 } : Room).slots) := by
  refine MetFree.of_bodySF (plainFor_of_name pn_5) hisR ?_
  intro p e s m args below meth c s₁ Bd hml0 hP hK
  obtain ⟨rfl, hZ, hh⟩ := hP
  have hx := Bd.exec
  have hby := Bd.bytes
  have hml : c.maxLocals = 1 := hml0
  have hown : s.vm.findClass "com/example/firmline/firmline/model/Task" = some m.cls := findClass_of_methodNamed Bd.named
  have hnm := (name_of_methodNamed Bd.named Bd.method).1
  have X0 : Stand p l e ({ frames := 0, cells := 0, slots := 0, locals := 0 } : Room) s m #[(.ref a)] below meth c s₁ [] 0 0 := Stand.of_body Bd
  have e0 : s₁.heap = h0 := by rw [← hh, Bd.state]; rfl
  have N0 := Fr.nil n0
  refine own_go (A := s₁.setTop (mkF m 0 #[.val (.ref a)] [])) (fun t_ k_ => castTop (ef_rmDl m a) k_) ?_
  refine own_go (A := s₁.setTop (mkF m 1 #[.val (.ref a)] [(.ref a)])) (fun t_ k_ => ?_) ?_
  · show Steps p.tables e below (s₁.setTop (mkF m 0 #[.val (.ref a)] [])) t_
    refine XS.aloadN X0.here hx rfl (hb hby d18_0) rfl rfl ?_
    exact k_
  obtain ⟨T1, X1, e1, st1⟩ := getF X0 hx hZ hown (host := "") (Or.inl (own_w hw 89 rfl)) Via.refl e0 u0 (g := (mkF m 1 #[.val (.ref a)] [(.ref a)])) rfl rfl (hb hby d18_1)
  refine own_go st1 ?_
  obtain ⟨fs2, hr2, hrun2, hended2, hW2, hsame2⟩ := X1.leave (v := some (.long q)) (fun h => by rw [Bd.returns] at h; cases h)
  refine ⟨_, _, ?_, hrun2, hended2, _, _, rfl, ?_, ⟨_, rfl⟩, hW2, hsame2.mono (by decide) (by decide)⟩
  · exact own_retJ X1 hx Bd.returns (hb hby d18_4) hr2
  · show Q_rmDl Z a q h0 n0 _ T1.heap _
    rw [e1]
    exact ⟨rfl, N0, rfl⟩
theorem d17_0 : decode prog_3_method_2_code 0 = .ok (.aload_n 0, 1) := by decide +kernel
theorem d17_1 : decode prog_3_method_2_code 1 = .ok (.getfield 13, 3) := by decide +kernel
theorem d17_4 : decode prog_3_method_2_code 4 = .ok (.aload_n 0, 1) := by decide +kernel
theorem d17_5 : decode prog_3_method_2_code 5 = .ok (.getfield 7, 3) := by decide +kernel
theorem pd_11 : parseMethodDescriptor "()J" = some ⟨[], some .long⟩ := by decide +kernel
theorem d17_8 : decode prog_3_method_2_code 8 = .ok (.invokevirtual 17, 3) := by decide +kernel
theorem d17_11 : decode prog_3_method_2_code 11 = .ok (.lcmp, 1) := by decide +kernel
theorem d17_12 : decode prog_3_method_2_code 12 = .ok (.ifCond .gt 7, 3) := by decide +kernel
theorem d17_15 : decode prog_3_method_2_code 15 = .ok (.iconst 1, 1) := by decide +kernel
theorem d17_16 : decode prog_3_method_2_code 16 = .ok (.goto 4, 3) := by decide +kernel
theorem d17_20 : decode prog_3_method_2_code 20 = .ok (.ireturn, 1) := by decide +kernel
abbrev own_y16 : MethodName := ⟨"com/example/firmline/firmline/analysis/FaultResponse", "meetsDeadline", "()Z"⟩
theorem ef_rmMeets1 (m : MethodId) (a : Addr) : entryFrame m #[(.ref a)] 1 = mkF m 0 #[.val (.ref a)] [] := by first | (simp [entryFrame, mkF, argsToLocals, Value.category]; done) | rfl
def Q_rmMeets1 (Z : State) (a : Addr) (t : Addr) (q : Int64) (v : Int64) (h0 : Heap) (n0 : Nat) (v_ : Option Value) (h_ : Heap) (L_ : List Loc) : Prop := v_ = some (.int (1 : Int32)) ∧ Fr n0 L_ ∧ h_ = h0
set_option maxRecDepth 65536 in
set_option maxHeartbeats 40000000 in
theorem rmMeets1 (l : Launch) (Z : State) (a0 : Array Value) (hw : ∀ d ∈ tables_1, d.before a0 Z = true) (ws : List Jvm.Cond) (a : Addr) (t : Addr) (q : Int64) (v : Int64) (h0 : Heap) (n0 : Nat) (Z0 : n0 ≤ h0.size) (u0 : Exa Z h0 t "com/example/firmline/firmline/model/Task") (u1 : Fld Z h0 a "com/example/firmline/firmline/analysis/FaultResponse" "value" "J" (.long v)) (u2 : Fld Z h0 a "com/example/firmline/firmline/analysis/FaultResponse" "task" "Lcom/example/firmline/firmline/model/Task;" (.ref t)) (u3 : Fld Z h0 t "com/example/firmline/firmline/model/Task" "deadline" "J" (.long q)) (hv : ¬ (q < v)) :
    MetFree l own_y16 (head1 (Jvm.Cond.code own_y16 prog_3_method_2_code 1 (some .boolean) :: ws) ({ frames := 1, cells := 0, slots := 0, locals := 14 } : Room)) (fun a_ U_ => a_ = #[(.ref a)] ∧ Z.Warmed39 U_.vm ∧ U_.heap = h0) (fun _ _ _ _ _ => True) (fun _ U_ o_ U2_ => ∃ v_ L_, o_ = .returned v_ ∧ Q_rmMeets1 Z a t q v h0 n0 v_ U2_.heap L_ ∧ FrameEnd U_ o_ U2_ L_ ({ frames := 1, cells := 0, slots := 0, locals := 14 } : Room).cells ({ frames := 1, cells := 0, slots := 0, locals := 14 } : Room).slots) := by
  refine MetFree.of_bodySF (plainFor_of_name pn_6) hisR ?_
  intro p e s m args below meth c s₁ Bd hml0 hP hK
  obtain ⟨rfl, hZ, hh⟩ := hP
  have hx := Bd.exec
  have hby := Bd.bytes
  have hml : c.maxLocals = 1 := hml0
  have hown : s.vm.findClass "com/example/firmline/firmline/analysis/FaultResponse" = some m.cls := findClass_of_methodNamed Bd.named
  have hnm := (name_of_methodNamed Bd.named Bd.method).1
  have X0 : Stand p l e ({ frames := 1, cells := 0, slots := 0, locals := 14 } : Room) s m #[(.ref a)] below meth c s₁ [] 0 0 := Stand.of_body Bd
  have e0 : s₁.heap = h0 := by rw [← hh, Bd.state]; rfl
  have N0 := Fr.nil n0
  refine own_go (A := s₁.setTop (mkF m 0 #[.val (.ref a)] [])) (fun t_ k_ => castTop (ef_rmMeets1 m a) k_) ?_
  refine own_go (A := s₁.setTop (mkF m 1 #[.val (.ref a)] [(.ref a)])) (fun t_ k_ => ?_) ?_
  · show Steps p.tables e below (s₁.setTop (mkF m 0 #[.val (.ref a)] [])) t_
    refine XS.aloadN X0.here hx rfl (hb hby d17_0) rfl rfl ?_
    exact k_
  obtain ⟨T1, X1, e1, st1⟩ := getF X0 hx hZ hown (host := "") (Or.inl (own_w hw 106 rfl)) Via.refl e0 u1 (g := (mkF m 1 #[.val (.ref a)] [(.ref a)])) rfl rfl (hb hby d17_1)
  refine own_go st1 ?_
  refine own_go (A := T1.setTop (mkF m 5 #[.val (.ref a)] [(.ref a), (.long v)])) (fun t_ k_ => ?_) ?_
  · show Steps p.tables e below (T1.setTop (mkF m 4 #[.val (.ref a)] [(.long v)])) t_
    refine XS.aloadN X1.here hx rfl (hb hby d17_4) rfl rfl ?_
    exact k_
  obtain ⟨T2, X2, e2, st2⟩ := getF X1 hx hZ hown (host := "") (Or.inl (own_w hw 104 rfl)) Via.refl e1 u2 (g := (mkF m 5 #[.val (.ref a)] [(.ref a), (.long v)])) rfl rfl (hb hby d17_5)
  refine own_go st2 ?_
  obtain ⟨cq3, kq3, q3a, q3b, q3c⟩ := isOf hZ e2 u0
  obtain ⟨_, _, ⟨T3, L3, k3, n3⟩, -, X3, ⟨Lc3, hQ3, l3, y3, z3⟩, st3⟩ := X2.virtualBack hx (y := own_y15) (z := own_y15) hown (mvT hZ (own_w hw 113 rfl)) (mvT hZ (own_w hw 114 rfl)) (notFace_of_selects (args := #[]) (mvT hZ (own_w hw 116 rfl))) (mvT hZ (own_w hw 116 rfl)) (mvT hZ (own_w hw 115 rfl)) (by decide) (backOf (W := 2) (rmDl l Z a0 hw [] t q h0 n0 Z0 u3) hZ (own_w hw 117 rfl) (own_w hw 10 rfl) (by decide) (by decide)) q3a q3c (g := (mkF m 8 #[.val (.ref a)] [(.ref t), (.long v)])) rfl (by rw [hml]; rfl) (Steps.refl _) (argsL := []) (rest := [(.long v)]) (lenOf pd_11 rfl) rfl (by show 2 * 0 + _ ≤ _; exact Nat.le_of_eq rfl) (hb hby d17_8) (fun _ _ => ⟨rfl, e2, (by decide : 0 + 0 ≤ _), (by decide : 0 + 0 ≤ _)⟩)
  dsimp only [Pt.U, Pt.locs, Pt.cells, Pt.slots] at X3 l3 y3 z3 st3 hQ3
  subst l3 y3 z3
  obtain ⟨rfl, N3q, eh3⟩ := hQ3
  have N3 := Fr.app N0 N3q
  refine own_via st3 ?_
  refine own_go (A := T3.setTop (mkF m 20 #[.val (.ref a)] [(.int (1 : Int32))])) (fun t_ k_ => ?_) ?_
  · show Steps p.tables e below (T3.setTop (mkF m 11 #[.val (.ref a)] [(.long q), (.long v)])) t_
    refine XS.lcmp X3.here hx rfl (hb hby d17_11) rfl ?_
    show Steps p.tables e below (T3.setTop (mkF m 12 #[.val (.ref a)] [(.int (lcmpW v q))])) t_
    refine XS.ifNo X3.here hx rfl (hb hby d17_12) rfl ((if0 _ _).trans (flt (fun q => hv ((lw_gt _ _).mp q))).2.2.1) ?_
    show Steps p.tables e below (T3.setTop (mkF m 15 #[.val (.ref a)] [])) t_
    refine XS.iconst X3.here hx rfl (hb hby d17_15) ?_
    show Steps p.tables e below (T3.setTop (mkF m 16 #[.val (.ref a)] [(.int (1 : Int32))])) t_
    refine XS.goto X3.here hx rfl (pc0 := 16) (pc' := 20) rfl (hb hby d17_16) (by decide) (by decide) ?_
    exact k_
  obtain ⟨fs4, hr4, hrun4, hended4, hW4, hsame4⟩ := X3.leave (v := some (.int (1 : Int32))) (fun h => by rw [Bd.returns] at h; cases h)
  refine ⟨_, _, ?_, hrun4, hended4, _, _, rfl, ?_, ⟨_, rfl⟩, hW4, hsame4.mono (by decide) (by decide)⟩
  · exact retN X3 hx (t := .boolean) Bd.returns (by simp) (hb hby d17_20) hr4
  · show Q_rmMeets1 Z a t q v h0 n0 _ T3.heap _
    rw [eh3]
    exact ⟨rfl, N3, rfl⟩
theorem d17_19 : decode prog_3_method_2_code 19 = .ok (.iconst 0, 1) := by decide +kernel
theorem ef_rmMeets0 (m : MethodId) (a : Addr) : entryFrame m #[(.ref a)] 1 = mkF m 0 #[.val (.ref a)] [] := by first | (simp [entryFrame, mkF, argsToLocals, Value.category]; done) | rfl
def Q_rmMeets0 (Z : State) (a : Addr) (t : Addr) (q : Int64) (v : Int64) (h0 : Heap) (n0 : Nat) (v_ : Option Value) (h_ : Heap) (L_ : List Loc) : Prop := v_ = some (.int (0 : Int32)) ∧ Fr n0 L_ ∧ h_ = h0
set_option maxRecDepth 65536 in
set_option maxHeartbeats 40000000 in
theorem rmMeets0 (l : Launch) (Z : State) (a0 : Array Value) (hw : ∀ d ∈ tables_1, d.before a0 Z = true) (ws : List Jvm.Cond) (a : Addr) (t : Addr) (q : Int64) (v : Int64) (h0 : Heap) (n0 : Nat) (Z0 : n0 ≤ h0.size) (u0 : Exa Z h0 t "com/example/firmline/firmline/model/Task") (u1 : Fld Z h0 a "com/example/firmline/firmline/analysis/FaultResponse" "value" "J" (.long v)) (u2 : Fld Z h0 a "com/example/firmline/firmline/analysis/FaultResponse" "task" "Lcom/example/firmline/firmline/model/Task;" (.ref t)) (u3 : Fld Z h0 t "com/example/firmline/firmline/model/Task" "deadline" "J" (.long q)) (hv : q < v) :
    MetFree l own_y16 (head1 (Jvm.Cond.code own_y16 prog_3_method_2_code 1 (some .boolean) :: ws) ({ frames := 1, cells := 0, slots := 0, locals := 14 } : Room)) (fun a_ U_ => a_ = #[(.ref a)] ∧ Z.Warmed39 U_.vm ∧ U_.heap = h0) (fun _ _ _ _ _ => True) (fun _ U_ o_ U2_ => ∃ v_ L_, o_ = .returned v_ ∧ Q_rmMeets0 Z a t q v h0 n0 v_ U2_.heap L_ ∧ FrameEnd U_ o_ U2_ L_ ({ frames := 1, cells := 0, slots := 0, locals := 14 } : Room).cells ({ frames := 1, cells := 0, slots := 0, locals := 14 } : Room).slots) := by
  refine MetFree.of_bodySF (plainFor_of_name pn_6) hisR ?_
  intro p e s m args below meth c s₁ Bd hml0 hP hK
  obtain ⟨rfl, hZ, hh⟩ := hP
  have hx := Bd.exec
  have hby := Bd.bytes
  have hml : c.maxLocals = 1 := hml0
  have hown : s.vm.findClass "com/example/firmline/firmline/analysis/FaultResponse" = some m.cls := findClass_of_methodNamed Bd.named
  have hnm := (name_of_methodNamed Bd.named Bd.method).1
  have X0 : Stand p l e ({ frames := 1, cells := 0, slots := 0, locals := 14 } : Room) s m #[(.ref a)] below meth c s₁ [] 0 0 := Stand.of_body Bd
  have e0 : s₁.heap = h0 := by rw [← hh, Bd.state]; rfl
  have N0 := Fr.nil n0
  refine own_go (A := s₁.setTop (mkF m 0 #[.val (.ref a)] [])) (fun t_ k_ => castTop (ef_rmMeets0 m a) k_) ?_
  refine own_go (A := s₁.setTop (mkF m 1 #[.val (.ref a)] [(.ref a)])) (fun t_ k_ => ?_) ?_
  · show Steps p.tables e below (s₁.setTop (mkF m 0 #[.val (.ref a)] [])) t_
    refine XS.aloadN X0.here hx rfl (hb hby d17_0) rfl rfl ?_
    exact k_
  obtain ⟨T1, X1, e1, st1⟩ := getF X0 hx hZ hown (host := "") (Or.inl (own_w hw 106 rfl)) Via.refl e0 u1 (g := (mkF m 1 #[.val (.ref a)] [(.ref a)])) rfl rfl (hb hby d17_1)
  refine own_go st1 ?_
  refine own_go (A := T1.setTop (mkF m 5 #[.val (.ref a)] [(.ref a), (.long v)])) (fun t_ k_ => ?_) ?_
  · show Steps p.tables e below (T1.setTop (mkF m 4 #[.val (.ref a)] [(.long v)])) t_
    refine XS.aloadN X1.here hx rfl (hb hby d17_4) rfl rfl ?_
    exact k_
  obtain ⟨T2, X2, e2, st2⟩ := getF X1 hx hZ hown (host := "") (Or.inl (own_w hw 104 rfl)) Via.refl e1 u2 (g := (mkF m 5 #[.val (.ref a)] [(.ref a), (.long v)])) rfl rfl (hb hby d17_5)
  refine own_go st2 ?_
  obtain ⟨cq3, kq3, q3a, q3b, q3c⟩ := isOf hZ e2 u0
  obtain ⟨_, _, ⟨T3, L3, k3, n3⟩, -, X3, ⟨Lc3, hQ3, l3, y3, z3⟩, st3⟩ := X2.virtualBack hx (y := own_y15) (z := own_y15) hown (mvT hZ (own_w hw 113 rfl)) (mvT hZ (own_w hw 114 rfl)) (notFace_of_selects (args := #[]) (mvT hZ (own_w hw 116 rfl))) (mvT hZ (own_w hw 116 rfl)) (mvT hZ (own_w hw 115 rfl)) (by decide) (backOf (W := 2) (rmDl l Z a0 hw [] t q h0 n0 Z0 u3) hZ (own_w hw 117 rfl) (own_w hw 10 rfl) (by decide) (by decide)) q3a q3c (g := (mkF m 8 #[.val (.ref a)] [(.ref t), (.long v)])) rfl (by rw [hml]; rfl) (Steps.refl _) (argsL := []) (rest := [(.long v)]) (lenOf pd_11 rfl) rfl (by show 2 * 0 + _ ≤ _; exact Nat.le_of_eq rfl) (hb hby d17_8) (fun _ _ => ⟨rfl, e2, (by decide : 0 + 0 ≤ _), (by decide : 0 + 0 ≤ _)⟩)
  dsimp only [Pt.U, Pt.locs, Pt.cells, Pt.slots] at X3 l3 y3 z3 st3 hQ3
  subst l3 y3 z3
  obtain ⟨rfl, N3q, eh3⟩ := hQ3
  have N3 := Fr.app N0 N3q
  refine own_via st3 ?_
  refine own_go (A := T3.setTop (mkF m 20 #[.val (.ref a)] [(.int (0 : Int32))])) (fun t_ k_ => ?_) ?_
  · show Steps p.tables e below (T3.setTop (mkF m 11 #[.val (.ref a)] [(.long q), (.long v)])) t_
    refine XS.lcmp X3.here hx rfl (hb hby d17_11) rfl ?_
    show Steps p.tables e below (T3.setTop (mkF m 12 #[.val (.ref a)] [(.int (lcmpW v q))])) t_
    refine XS.ifYes X3.here hx rfl (pc0 := 12) (pc' := 19) rfl (hb hby d17_12) rfl ((if0 _ _).trans (tlt ((lw_gt _ _).mpr hv)).2.2.1) (by decide) (by decide) ?_
    show Steps p.tables e below (T3.setTop (mkF m 19 #[.val (.ref a)] [])) t_
    refine XS.iconst X3.here hx rfl (hb hby d17_19) ?_
    exact k_
  obtain ⟨fs4, hr4, hrun4, hended4, hW4, hsame4⟩ := X3.leave (v := some (.int (0 : Int32))) (fun h => by rw [Bd.returns] at h; cases h)
  refine ⟨_, _, ?_, hrun4, hended4, _, _, rfl, ?_, ⟨_, rfl⟩, hW4, hsame4.mono (by decide) (by decide)⟩
  · exact retN X3 hx (t := .boolean) Bd.returns (by simp) (hb hby d17_20) hr4
  · show Q_rmMeets0 Z a t q v h0 n0 _ T3.heap _
    rw [eh3]
    exact ⟨rfl, N3, rfl⟩
theorem own_pri (x : Int32) : 0 ≤ ((x &&& (2147483647 : Int32)) % (1000000001 : Int32)).toInt ∧ ((x &&& (2147483647 : Int32)) % (1000000001 : Int32)).toInt ≤ 1000000000 := by
  have h1 := (c_and x 2147483647 (by decide)).1
  have h2 := (c_irem (x &&& 2147483647) 1000000001 1000000001 (by decide)).1 h1
  omega
theorem own_lo {q : Int64} (h : 1 ≤ q.toInt ∧ q.toInt ≤ 1000000000000000) : ¬ (q < (1 : Int64)) := by
  rw [Int64.lt_iff_toInt_lt, show ((1 : Int64).toInt) = 1 from by decide]; omega
theorem own_hi {q : Int64} (h : 1 ≤ q.toInt ∧ q.toInt ≤ 1000000000000000) : ¬ ((1000000000000000 : Int64) < q) := by
  rw [Int64.lt_iff_toInt_lt, show ((1000000000000000 : Int64).toInt) = 1000000000000000 from by decide]; omega
theorem own_p0 {p : Int32} (h : 0 ≤ p.toInt ∧ p.toInt ≤ 1000000000) : ¬ ((p).toInt64 < (0 : Int64)) := by
  rw [Int64.lt_iff_toInt_lt, c_i2l, show ((0 : Int64).toInt) = 0 from by decide]; omega
theorem own_p1 {p : Int32} (h : 0 ≤ p.toInt ∧ p.toInt ≤ 1000000000) : ¬ ((1000000000 : Int64) < (p).toInt64) := by
  rw [Int64.lt_iff_toInt_lt, c_i2l, show ((1000000000 : Int64).toInt) = 1000000000 from by decide]; omega
theorem own_small {q v : Int64} (h : 1 ≤ q.toInt ∧ q.toInt ≤ 1000000000000000) (hv : v < (1 : Int64)) : ¬ (q < v) := by
  rw [Int64.lt_iff_toInt_lt] at hv ⊢; rw [show ((1 : Int64).toInt) = 1 from by decide] at hv; omega
theorem own_great {q v : Int64} (h : 1 ≤ q.toInt ∧ q.toInt ≤ 1000000000000000) (hv : (1000000000000000 : Int64) < v) : q < v := by
  rw [Int64.lt_iff_toInt_lt] at hv ⊢; rw [show ((1000000000000000 : Int64).toInt) = 1000000000000000 from by decide] at hv; omega
theorem own_pr5 (p5 : Int32) : 0 ≤ ((((p5).toUInt32 >>> ((3 : Int32) &&& 31).toUInt32).toInt32 &&& (2147483647 : Int32)) % (1000000001 : Int32)).toInt ∧ ((((p5).toUInt32 >>> ((3 : Int32) &&& 31).toUInt32).toInt32 &&& (2147483647 : Int32)) % (1000000001 : Int32)).toInt ≤ 1000000000 := own_pri _
theorem pd_12 : parseMethodDescriptor "(J)J" = some ⟨[.long], some .long⟩ := by decide +kernel
theorem pd_13 : parseMethodDescriptor "(Ljava/lang/String;JJJIJ)V" = some ⟨[(.object "java/lang/String"), .long, .long, .long, .int, .long], none⟩ := by decide +kernel
theorem pd_14 : parseMethodDescriptor "(Lcom/example/firmline/firmline/model/Task;J)V" = some ⟨[(.object "com/example/firmline/firmline/model/Task"), .long], none⟩ := by decide +kernel
theorem ef_rm0 (m : MethodId) (q1 : Int64) (q2 : Int64) (q3 : Int64) (q4 : Int64) (p5 : Int32) : entryFrame m #[(.long q1), (.long q2), (.long q3), (.long q4), (.int p5)] maxLocals = mkF m 0 #[.val (.long q1), .second, .val (.long q2), .second, .val (.long q3), .second, .val (.long q4), .second, .val (.int p5), .unset, .unset, .unset, .unset, .unset, .unset, .unset, .unset] [] := by first | (simp [entryFrame, mkF, argsToLocals, Value.category, maxLocals]; done) | rfl
def Q_rm0 (Z : State) (q1 : Int64) (q2 : Int64) (q3 : Int64) (q4 : Int64) (p5 : Int32) (cs : Int32) (sf : Value) (h0 : Heap) (n0 : Nat) (v_ : Option Value) (h_ : Heap) (L_ : List Loc) : Prop := v_ = some (.int (1 : Int32)) ∧ Fr n0 L_ ∧ Keep h0 h_ []
set_option maxRecDepth 65536 in
set_option maxHeartbeats 40000000 in
theorem rm0 (l : Launch) (Z : State) (a0 : Array Value) (hw : ∀ d ∈ tables_1, d.before a0 Z = true) (ws : List Jvm.Cond) (q1 : Int64) (q2 : Int64) (q3 : Int64) (q4 : Int64) (p5 : Int32) (cs : Int32) (sf : Value) (h0 : Heap) (n0 : Nat) (Z0 : n0 ≤ h0.size) (O0 : Old Z n0 h0) (u1 : Sta Z Z.heap "java/lang/String" "COMPACT_STRINGS" "Z" (.int cs)) (hcs : ¬ (cs = (0 : Int32))) (u3 : Sta Z Z.heap "jdk/internal/util/Preconditions" "SIOOBE_FORMATTER" "Ljava/util/function/BiFunction;" sf) (hsf : sf.isRef = true) (hn0 : n0 = h0.size) (hcw : Jvm.Lit.compactW.before a0 Z = true) (hlit : Jvm.Lit.constHeld Z "com/example/firmline/firmline/analysis/FaultResponseMeetsDeadlinePinLaw" 23) :
    MetFree l x (head1 (Jvm.Cond.code x code maxLocals ret :: ws) room_1) (fun a_ U_ => a_ = #[(.long q1), (.long q2), (.long q3), (.long q4), (.int p5)] ∧ Z.Warmed39 U_.vm ∧ U_.heap = h0 ∧ U_.vm = Z.vm) (fun _ _ _ _ _ => True) (fun _ U_ o_ U2_ => ∃ v_ L_, o_ = .returned v_ ∧ Q_rm0 Z q1 q2 q3 q4 p5 cs sf h0 n0 v_ U2_.heap L_ ∧ ReturnedEndW U_ o_ U2_ L_ room_1.cells room_1.slots) := by
  refine MetFree.of_bodySF (plainFor_of_name pn_4) hisR ?_
  intro p e s m args below meth c s₁ Bd hml0 hP hK
  obtain ⟨rfl, hZ, hh, hvm⟩ := hP
  have hx := Bd.exec
  have hby := Bd.bytes
  have hml : c.maxLocals = 17 := hml0
  have hown : s.vm.findClass "com/example/firmline/firmline/analysis/FaultResponseMeetsDeadlinePinLaw" = some m.cls := findClass_of_methodNamed Bd.named
  have hnm := (name_of_methodNamed Bd.named Bd.method).1
  have X0 : Stand p l e room_1 (s.setVm s.vm) m #[(.long q1), (.long q2), (.long q3), (.long q4), (.int p5)] below meth c s₁ [] 0 0 := Stand.of_body Bd
  have e0 : s₁.heap = h0 := by rw [← hh, Bd.state]; rfl
  have N0 := Fr.nil n0
  have hS : s.Since s.vm h0.size := (State.WarmedH.refl s).since _
  have hk := Nat.le_refl h0.size
  have hSA := own_strA hw
  refine own_go (A := s₁.setTop (mkF m 0 #[.val (.long q1), .second, .val (.long q2), .second, .val (.long q3), .second, .val (.long q4), .second, .val (.int p5), .unset, .unset, .unset, .unset, .unset, .unset, .unset, .unset] [])) (fun t_ k_ => castTop (ef_rm0 m q1 q2 q3 q4 p5) k_) ?_
  refine own_go (A := s₁.setTop (mkF m 1 #[.val (.long q1), .second, .val (.long q2), .second, .val (.long q3), .second, .val (.long q4), .second, .val (.int p5), .unset, .unset, .unset, .unset, .unset, .unset, .unset, .unset] [(.long q1)])) (fun t_ k_ => ?_) ?_
  · show Steps p.tables e below (s₁.setTop (mkF m 0 #[.val (.long q1), .second, .val (.long q2), .second, .val (.long q3), .second, .val (.long q4), .second, .val (.int p5), .unset, .unset, .unset, .unset, .unset, .unset, .unset, .unset] [])) t_
    refine XS.lloadN X0.here hx rfl (hb hby at_0) rfl ?_
    exact k_
  obtain ⟨_, _, ⟨T1, L1, k1, n1⟩, -, X1, ⟨Lc1, hQ1, l1, y1, z1⟩, st1⟩ := Jvm.LawKit.callS X0 hx (y := own_y9) hown (mvT hZ (own_w hw 0 rfl)) (mvT hZ (own_w hw 1 rfl)) (mvT hZ (own_w hw 2 rfl)) (mvT hZ (own_w hw 3 rfl)) (by decide) (backOf (W := 0) (rmTime l Z a0 hw [] q1 h0 n0 Z0) hZ (own_w hw 3 rfl) (own_w hw 2 rfl) (by decide) (by decide)) (g := (mkF m 1 #[.val (.long q1), .second, .val (.long q2), .second, .val (.long q3), .second, .val (.long q4), .second, .val (.int p5), .unset, .unset, .unset, .unset, .unset, .unset, .unset, .unset] [(.long q1)])) rfl (by rw [hml]; rfl) (argsL := [(.long q1)]) (rest := []) (lenOf pd_12 rfl) rfl (by show 2 * 0 + _ ≤ _; exact Nat.le_of_eq rfl) (hb hby at_1) (fun _ _ => ⟨rfl, e0, (by decide : 0 + 0 ≤ _), (by decide : 0 + 0 ≤ _)⟩)
  dsimp only [Pt.U, Pt.locs, Pt.cells, Pt.slots] at X1 l1 y1 z1 st1 hQ1
  subst l1 y1 z1
  obtain ⟨r_1, rfl, N1q, eh1, w1_0⟩ := hQ1
  have N1 := Fr.app N0 N1q
  refine own_go st1 ?_
  refine own_go (A := T1.setTop (mkF m 10 #[.val (.long q1), .second, .val (.long q2), .second, .val (.long q3), .second, .val (.long q4), .second, .val (.int p5), .val (.long r_1), .second, .unset, .unset, .unset, .unset, .unset, .unset] [(.int (p5 &&& (1 : Int32)))])) (fun t_ k_ => ?_) ?_
  · show Steps p.tables e below (T1.setTop (mkF m 4 #[.val (.long q1), .second, .val (.long q2), .second, .val (.long q3), .second, .val (.long q4), .second, .val (.int p5), .unset, .unset, .unset, .unset, .unset, .unset, .unset, .unset] [(.long r_1)])) t_
    refine XS.lstore X1.here hx rfl (hb hby at_4) rfl (l' := #[.val (.long q1), .second, .val (.long q2), .second, .val (.long q3), .second, .val (.long q4), .second, .val (.int p5), .val (.long r_1), .second, .unset, .unset, .unset, .unset, .unset, .unset]) rfl ?_
    show Steps p.tables e below (T1.setTop (mkF m 6 #[.val (.long q1), .second, .val (.long q2), .second, .val (.long q3), .second, .val (.long q4), .second, .val (.int p5), .val (.long r_1), .second, .unset, .unset, .unset, .unset, .unset, .unset] [])) t_
    refine XS.iload X1.here hx rfl (hb hby at_6) rfl ?_
    show Steps p.tables e below (T1.setTop (mkF m 8 #[.val (.long q1), .second, .val (.long q2), .second, .val (.long q3), .second, .val (.long q4), .second, .val (.int p5), .val (.long r_1), .second, .unset, .unset, .unset, .unset, .unset, .unset] [(.int p5)])) t_
    refine XS.iconst X1.here hx rfl (hb hby at_8) ?_
    show Steps p.tables e below (T1.setTop (mkF m 9 #[.val (.long q1), .second, .val (.long q2), .second, .val (.long q3), .second, .val (.long q4), .second, .val (.int p5), .val (.long r_1), .second, .unset, .unset, .unset, .unset, .unset, .unset] [(.int (1 : Int32)), (.int p5)])) t_
    refine XS.iand X1.here hx rfl (hb hby at_9) rfl ?_
    exact k_
  by_cases hc10_2 : (p5 &&& (1 : Int32)) = (0 : Int32)
  · refine own_go (A := T1.setTop (mkF m 43 #[.val (.long q1), .second, .val (.long q2), .second, .val (.long q3), .second, .val (.long q4), .second, .val (.int p5), .val (.long r_1), .second, .val (.long q2), .second, .unset, .unset, .unset, .unset] [(.int ((((p5).toUInt32 >>> ((3 : Int32) &&& 31).toUInt32).toInt32 &&& (2147483647 : Int32)) % (1000000001 : Int32)))])) (fun t_ k_ => ?_) ?_
    · show Steps p.tables e below (T1.setTop (mkF m 10 #[.val (.long q1), .second, .val (.long q2), .second, .val (.long q3), .second, .val (.long q4), .second, .val (.int p5), .val (.long r_1), .second, .unset, .unset, .unset, .unset, .unset, .unset] [(.int (p5 &&& (1 : Int32)))])) t_
      refine XS.ifYes X1.here hx rfl (pc0 := 10) (pc' := 30) rfl (hb hby at_10) rfl ((if0 _ _).trans (teq hc10_2).1) (by decide) (by decide) ?_
      show Steps p.tables e below (T1.setTop (mkF m 30 #[.val (.long q1), .second, .val (.long q2), .second, .val (.long q3), .second, .val (.long q4), .second, .val (.int p5), .val (.long r_1), .second, .unset, .unset, .unset, .unset, .unset, .unset] [])) t_
      refine XS.lloadN X1.here hx rfl (hb hby at_30) rfl ?_
      show Steps p.tables e below (T1.setTop (mkF m 31 #[.val (.long q1), .second, .val (.long q2), .second, .val (.long q3), .second, .val (.long q4), .second, .val (.int p5), .val (.long r_1), .second, .unset, .unset, .unset, .unset, .unset, .unset] [(.long q2)])) t_
      refine XS.lstore X1.here hx rfl (hb hby at_31) rfl (l' := #[.val (.long q1), .second, .val (.long q2), .second, .val (.long q3), .second, .val (.long q4), .second, .val (.int p5), .val (.long r_1), .second, .val (.long q2), .second, .unset, .unset, .unset, .unset]) rfl ?_
      show Steps p.tables e below (T1.setTop (mkF m 33 #[.val (.long q1), .second, .val (.long q2), .second, .val (.long q3), .second, .val (.long q4), .second, .val (.int p5), .val (.long r_1), .second, .val (.long q2), .second, .unset, .unset, .unset, .unset] [])) t_
      refine XS.iload X1.here hx rfl (hb hby at_33) rfl ?_
      show Steps p.tables e below (T1.setTop (mkF m 35 #[.val (.long q1), .second, .val (.long q2), .second, .val (.long q3), .second, .val (.long q4), .second, .val (.int p5), .val (.long r_1), .second, .val (.long q2), .second, .unset, .unset, .unset, .unset] [(.int p5)])) t_
      refine XS.iconst X1.here hx rfl (hb hby at_35) ?_
      show Steps p.tables e below (T1.setTop (mkF m 36 #[.val (.long q1), .second, .val (.long q2), .second, .val (.long q3), .second, .val (.long q4), .second, .val (.int p5), .val (.long r_1), .second, .val (.long q2), .second, .unset, .unset, .unset, .unset] [(.int (3 : Int32)), (.int p5)])) t_
      refine XS.iushr X1.here hx rfl (hb hby at_36) rfl ?_
      show Steps p.tables e below (T1.setTop (mkF m 37 #[.val (.long q1), .second, .val (.long q2), .second, .val (.long q3), .second, .val (.long q4), .second, .val (.int p5), .val (.long r_1), .second, .val (.long q2), .second, .unset, .unset, .unset, .unset] [(.int ((p5).toUInt32 >>> ((3 : Int32) &&& 31).toUInt32).toInt32)])) t_
      refine Jvm.Stand.ldcI X1 hx hown (mvT hZ (own_w hw 6 rfl)) (g := (mkF m 37 #[.val (.long q1), .second, .val (.long q2), .second, .val (.long q3), .second, .val (.long q4), .second, .val (.int p5), .val (.long r_1), .second, .val (.long q2), .second, .unset, .unset, .unset, .unset] [(.int ((p5).toUInt32 >>> ((3 : Int32) &&& 31).toUInt32).toInt32)])) rfl (hb hby at_37) ?_
      show Steps p.tables e below (T1.setTop (mkF m 39 #[.val (.long q1), .second, .val (.long q2), .second, .val (.long q3), .second, .val (.long q4), .second, .val (.int p5), .val (.long r_1), .second, .val (.long q2), .second, .unset, .unset, .unset, .unset] [(.int (2147483647 : Int32)), (.int ((p5).toUInt32 >>> ((3 : Int32) &&& 31).toUInt32).toInt32)])) t_
      refine XS.iand X1.here hx rfl (hb hby at_39) rfl ?_
      show Steps p.tables e below (T1.setTop (mkF m 40 #[.val (.long q1), .second, .val (.long q2), .second, .val (.long q3), .second, .val (.long q4), .second, .val (.int p5), .val (.long r_1), .second, .val (.long q2), .second, .unset, .unset, .unset, .unset] [(.int (((p5).toUInt32 >>> ((3 : Int32) &&& 31).toUInt32).toInt32 &&& (2147483647 : Int32)))])) t_
      refine Jvm.Stand.ldcI X1 hx hown (mvT hZ (own_w hw 7 rfl)) (g := (mkF m 40 #[.val (.long q1), .second, .val (.long q2), .second, .val (.long q3), .second, .val (.long q4), .second, .val (.int p5), .val (.long r_1), .second, .val (.long q2), .second, .unset, .unset, .unset, .unset] [(.int (((p5).toUInt32 >>> ((3 : Int32) &&& 31).toUInt32).toInt32 &&& (2147483647 : Int32)))])) rfl (hb hby at_40) ?_
      show Steps p.tables e below (T1.setTop (mkF m 42 #[.val (.long q1), .second, .val (.long q2), .second, .val (.long q3), .second, .val (.long q4), .second, .val (.int p5), .val (.long r_1), .second, .val (.long q2), .second, .unset, .unset, .unset, .unset] [(.int (1000000001 : Int32)), (.int (((p5).toUInt32 >>> ((3 : Int32) &&& 31).toUInt32).toInt32 &&& (2147483647 : Int32)))])) t_
      refine iremM (g := (mkF m 42 #[.val (.long q1), .second, .val (.long q2), .second, .val (.long q3), .second, .val (.long q4), .second, .val (.int p5), .val (.long r_1), .second, .val (.long q2), .second, .unset, .unset, .unset, .unset] [(.int (1000000001 : Int32)), (.int (((p5).toUInt32 >>> ((3 : Int32) &&& 31).toUInt32).toInt32 &&& (2147483647 : Int32)))])) X1 hx rfl (hb hby at_42) rfl (by decide : ¬ ((1000000001 : Int32) = (0 : Int32))) ?_
      exact k_
    obtain ⟨y3, hqy3⟩ : ∃ z : Int32, z = ((((p5).toUInt32 >>> ((3 : Int32) &&& 31).toUInt32).toInt32 &&& (2147483647 : Int32)) % (1000000001 : Int32)) := ⟨_, rfl⟩
    rw [← hqy3]
    have hpy3 : 0 ≤ y3.toInt ∧ y3.toInt ≤ 1000000000 := by rw [hqy3]; exact own_pr5 p5
    refine own_go (A := T1.setTop (mkF m 45 #[.val (.long q1), .second, .val (.long q2), .second, .val (.long q3), .second, .val (.long q4), .second, .val (.int p5), .val (.long r_1), .second, .val (.long q2), .second, .val (.int y3), .unset, .unset, .unset] [])) (fun t_ k_ => ?_) ?_
    · show Steps p.tables e below (T1.setTop (mkF m 43 #[.val (.long q1), .second, .val (.long q2), .second, .val (.long q3), .second, .val (.long q4), .second, .val (.int p5), .val (.long r_1), .second, .val (.long q2), .second, .unset, .unset, .unset, .unset] [(.int y3)])) t_
      refine XS.istore X1.here hx rfl (hb hby at_43) rfl (l' := #[.val (.long q1), .second, .val (.long q2), .second, .val (.long q3), .second, .val (.long q4), .second, .val (.int p5), .val (.long r_1), .second, .val (.long q2), .second, .val (.int y3), .unset, .unset, .unset]) rfl ?_
      exact k_
    obtain ⟨T4, h4, X4, e4, E4, A4, D4, -, st4⟩ := newO X1 hx hZ hown (own_w hw 8 rfl) (own_w hw 9 rfl) (own_w hw 10 rfl) eh1 (g := (mkF m 45 #[.val (.long q1), .second, .val (.long q2), .second, .val (.long q3), .second, .val (.long q4), .second, .val (.int p5), .val (.long r_1), .second, .val (.long q2), .second, .val (.int y3), .unset, .unset, .unset] [])) rfl (hb hby at_45) (by decide) (by decide)
    obtain ⟨b4, g4⟩ : ∃ z, z = h0.size := ⟨_, rfl⟩
    rw [← g4] at A4 D4 st4
    refine own_go st4 ?_
    have K4 : Keep h0 h4 [] := (Keep.refl h0 []).ext E4
    have hk := Nat.le_trans hk E4.1
    have O4 := O0.ext E4
    have F4_name : Fld Z h4 b4 "com/example/firmline/firmline/model/Task" "name" "Ljava/lang/String;" .null := D4 (Or.inr (own_w hw 86 rfl)) (ty := (.object "java/lang/String")) (by decide)
    have F4_period : Fld Z h4 b4 "com/example/firmline/firmline/model/Task" "period" "J" (.long (0 : Int64)) := D4 (Or.inr (own_w hw 88 rfl)) (ty := .long) (by decide)
    have F4_deadline : Fld Z h4 b4 "com/example/firmline/firmline/model/Task" "deadline" "J" (.long (0 : Int64)) := D4 (Or.inr (own_w hw 90 rfl)) (ty := .long) (by decide)
    have F4_cost : Fld Z h4 b4 "com/example/firmline/firmline/model/Task" "cost" "J" (.long (0 : Int64)) := D4 (Or.inr (own_w hw 92 rfl)) (ty := .long) (by decide)
    have F4_priority : Fld Z h4 b4 "com/example/firmline/firmline/model/Task" "priority" "I" (.int (0 : Int32)) := D4 (Or.inr (own_w hw 94 rfl)) (ty := .int) (by decide)
    have F4_recovery : Fld Z h4 b4 "com/example/firmline/firmline/model/Task" "recovery" "J" (.long (0 : Int64)) := D4 (Or.inr (own_w hw 96 rfl)) (ty := .long) (by decide)
    refine own_go (A := T4.setTop (mkF m 49 #[.val (.long q1), .second, .val (.long q2), .second, .val (.long q3), .second, .val (.long q4), .second, .val (.int p5), .val (.long r_1), .second, .val (.long q2), .second, .val (.int y3), .unset, .unset, .unset] [(.ref b4), (.ref b4)])) (fun t_ k_ => ?_) ?_
    · show Steps p.tables e below (T4.setTop (mkF m 48 #[.val (.long q1), .second, .val (.long q2), .second, .val (.long q3), .second, .val (.long q4), .second, .val (.int p5), .val (.long r_1), .second, .val (.long q2), .second, .val (.int y3), .unset, .unset, .unset] [(.ref b4)])) t_
      refine XS.dup X4.here hx rfl (hb hby at_48) rfl rfl ?_
      exact k_
    obtain ⟨b5, T5, h5, k5, d5, kk5, X5, e5, E5, hS, hk, hZ, hown, Ea5, Fc5, Fv5, Av5, la5, lb5, IB5, st5⟩ := ldcSV X4 hx hZ hown (own_w hw 11 rfl) hSA e4 hS hk (by rw [hh, ← hn0]; exact N1) (Ts := []) (fun b cl q => by rw [hh]; exact O0.2.2 b cl q) (by rw [hvm]; exact IB.start) (by simp) hlit hcw (vs := [(.int (116 : Int32))]) (z := (1 : Int32)) (by decide +kernel) (by decide) (by decide +kernel) (g := (mkF m 49 #[.val (.long q1), .second, .val (.long q2), .second, .val (.long q3), .second, .val (.long q4), .second, .val (.int p5), .val (.long r_1), .second, .val (.long q2), .second, .val (.int y3), .unset, .unset, .unset] [(.ref b4), (.ref b4)])) rfl (hb hby at_49) (n := 4) (by decide) (by decide) (by decide) (by decide)
    refine own_go st5 ?_
    have K5 : Keep h0 h5 [] := K4.ext E5
    have O5 := O4.ext E5
    refine own_go (A := T5.setTop (mkF m 53 #[.val (.long q1), .second, .val (.long q2), .second, .val (.long q3), .second, .val (.long q4), .second, .val (.int p5), .val (.long r_1), .second, .val (.long q2), .second, .val (.int y3), .unset, .unset, .unset] [(.long q3), (.ref b5), (.ref b4), (.ref b4)])) (fun t_ k_ => ?_) ?_
    · show Steps p.tables e below (T5.setTop (mkF m 51 #[.val (.long q1), .second, .val (.long q2), .second, .val (.long q3), .second, .val (.long q4), .second, .val (.int p5), .val (.long r_1), .second, .val (.long q2), .second, .val (.int y3), .unset, .unset, .unset] [(.ref b5), (.ref b4), (.ref b4)])) t_
      refine XS.lload X5.here hx rfl (hb hby at_51) rfl ?_
      exact k_
    obtain ⟨_, _, ⟨T6, L6, k6, n6⟩, -, X6, ⟨Lc6, hQ6, l6, y6, z6⟩, st6⟩ := Jvm.LawKit.callS X5 hx (y := own_y9) hown (mvT hZ (own_w hw 0 rfl)) (mvT hZ (own_w hw 1 rfl)) (mvT hZ (own_w hw 2 rfl)) (mvT hZ (own_w hw 3 rfl)) (by decide) (backOf (W := 3) (rmTime l Z a0 hw [] q3 h5 n0 (Nat.le_trans Z0 K5.1)) hZ (own_w hw 3 rfl) (own_w hw 2 rfl) (by decide) (by decide)) (g := (mkF m 53 #[.val (.long q1), .second, .val (.long q2), .second, .val (.long q3), .second, .val (.long q4), .second, .val (.int p5), .val (.long r_1), .second, .val (.long q2), .second, .val (.int y3), .unset, .unset, .unset] [(.long q3), (.ref b5), (.ref b4), (.ref b4)])) rfl (by rw [hml]; rfl) (argsL := [(.long q3)]) (rest := [(.ref b5), (.ref b4), (.ref b4)]) (lenOf pd_12 rfl) rfl (by show 2 * 0 + _ ≤ _; exact Nat.le_of_eq rfl) (hb hby at_53) (fun _ _ => ⟨rfl, e5, (by decide : 3 + 0 ≤ _), (by decide : 14 + 0 ≤ _)⟩)
    dsimp only [Pt.U, Pt.locs, Pt.cells, Pt.slots] at X6 l6 y6 z6 st6 hQ6
    subst l6 y6 z6
    obtain ⟨r_6, rfl, N6q, eh6, w6_0⟩ := hQ6
    have N6 := Fr.app N1 N6q
    refine own_go st6 ?_
    refine own_go (A := T6.setTop (mkF m 60 #[.val (.long q1), .second, .val (.long q2), .second, .val (.long q3), .second, .val (.long q4), .second, .val (.int p5), .val (.long r_1), .second, .val (.long q2), .second, .val (.int y3), .unset, .unset, .unset] [(.long q4), (.long r_1), (.long r_6), (.ref b5), (.ref b4), (.ref b4)])) (fun t_ k_ => ?_) ?_
    · show Steps p.tables e below (T6.setTop (mkF m 56 #[.val (.long q1), .second, .val (.long q2), .second, .val (.long q3), .second, .val (.long q4), .second, .val (.int p5), .val (.long r_1), .second, .val (.long q2), .second, .val (.int y3), .unset, .unset, .unset] [(.long r_6), (.ref b5), (.ref b4), (.ref b4)])) t_
      refine XS.lload X6.here hx rfl (hb hby at_56) rfl ?_
      show Steps p.tables e below (T6.setTop (mkF m 58 #[.val (.long q1), .second, .val (.long q2), .second, .val (.long q3), .second, .val (.long q4), .second, .val (.int p5), .val (.long r_1), .second, .val (.long q2), .second, .val (.int y3), .unset, .unset, .unset] [(.long r_1), (.long r_6), (.ref b5), (.ref b4), (.ref b4)])) t_
      refine XS.lload X6.here hx rfl (hb hby at_58) rfl ?_
      exact k_
    obtain ⟨_, _, ⟨T7, L7, k7, n7⟩, -, X7, ⟨Lc7, hQ7, l7, y7, z7⟩, st7⟩ := Jvm.LawKit.callS X6 hx (y := own_y9) hown (mvT hZ (own_w hw 0 rfl)) (mvT hZ (own_w hw 1 rfl)) (mvT hZ (own_w hw 2 rfl)) (mvT hZ (own_w hw 3 rfl)) (by decide) (backOf (W := 7) (rmTime l Z a0 hw [] q4 h5 n0 (Nat.le_trans Z0 K5.1)) hZ (own_w hw 3 rfl) (own_w hw 2 rfl) (by decide) (by decide)) (g := (mkF m 60 #[.val (.long q1), .second, .val (.long q2), .second, .val (.long q3), .second, .val (.long q4), .second, .val (.int p5), .val (.long r_1), .second, .val (.long q2), .second, .val (.int y3), .unset, .unset, .unset] [(.long q4), (.long r_1), (.long r_6), (.ref b5), (.ref b4), (.ref b4)])) rfl (by rw [hml]; rfl) (argsL := [(.long q4)]) (rest := [(.long r_1), (.long r_6), (.ref b5), (.ref b4), (.ref b4)]) (lenOf pd_12 rfl) rfl (by show 2 * 0 + _ ≤ _; exact Nat.le_of_eq rfl) (hb hby at_60) (fun _ _ => ⟨rfl, eh6, (by decide : 3 + 0 ≤ _), (by decide : 14 + 0 ≤ _)⟩)
    dsimp only [Pt.U, Pt.locs, Pt.cells, Pt.slots] at X7 l7 y7 z7 st7 hQ7
    subst l7 y7 z7
    obtain ⟨r_7, rfl, N7q, eh7, w7_0⟩ := hQ7
    have N7 := Fr.app N6 N7q
    refine own_go st7 ?_
    refine own_go (A := T7.setTop (mkF m 69 #[.val (.long q1), .second, .val (.long q2), .second, .val (.long q3), .second, .val (.long q4), .second, .val (.int p5), .val (.long r_1), .second, .val (.long q2), .second, .val (.int y3), .unset, .unset, .unset] [(.long (q1 ^^^ q4)), (.int y3), (.long r_7), (.long r_1), (.long r_6), (.ref b5), (.ref b4), (.ref b4)])) (fun t_ k_ => ?_) ?_
    · show Steps p.tables e below (T7.setTop (mkF m 63 #[.val (.long q1), .second, .val (.long q2), .second, .val (.long q3), .second, .val (.long q4), .second, .val (.int p5), .val (.long r_1), .second, .val (.long q2), .second, .val (.int y3), .unset, .unset, .unset] [(.long r_7), (.long r_1), (.long r_6), (.ref b5), (.ref b4), (.ref b4)])) t_
      refine XS.iload X7.here hx rfl (hb hby at_63) rfl ?_
      show Steps p.tables e below (T7.setTop (mkF m 65 #[.val (.long q1), .second, .val (.long q2), .second, .val (.long q3), .second, .val (.long q4), .second, .val (.int p5), .val (.long r_1), .second, .val (.long q2), .second, .val (.int y3), .unset, .unset, .unset] [(.int y3), (.long r_7), (.long r_1), (.long r_6), (.ref b5), (.ref b4), (.ref b4)])) t_
      refine XS.lloadN X7.here hx rfl (hb hby at_65) rfl ?_
      show Steps p.tables e below (T7.setTop (mkF m 66 #[.val (.long q1), .second, .val (.long q2), .second, .val (.long q3), .second, .val (.long q4), .second, .val (.int p5), .val (.long r_1), .second, .val (.long q2), .second, .val (.int y3), .unset, .unset, .unset] [(.long q1), (.int y3), (.long r_7), (.long r_1), (.long r_6), (.ref b5), (.ref b4), (.ref b4)])) t_
      refine XS.lload X7.here hx rfl (hb hby at_66) rfl ?_
      show Steps p.tables e below (T7.setTop (mkF m 68 #[.val (.long q1), .second, .val (.long q2), .second, .val (.long q3), .second, .val (.long q4), .second, .val (.int p5), .val (.long r_1), .second, .val (.long q2), .second, .val (.int y3), .unset, .unset, .unset] [(.long q4), (.long q1), (.int y3), (.long r_7), (.long r_1), (.long r_6), (.ref b5), (.ref b4), (.ref b4)])) t_
      refine XS.lxor X7.here hx rfl (hb hby at_68) rfl ?_
      exact k_
    obtain ⟨_, _, ⟨T8, L8, k8, n8⟩, -, X8, ⟨Lc8, hQ8, l8, y8, z8⟩, st8⟩ := Jvm.LawKit.callS X7 hx (y := own_y9) hown (mvT hZ (own_w hw 0 rfl)) (mvT hZ (own_w hw 1 rfl)) (mvT hZ (own_w hw 2 rfl)) (mvT hZ (own_w hw 3 rfl)) (by decide) (backOf (W := 10) (rmTime l Z a0 hw [] (q1 ^^^ q4) h5 n0 (Nat.le_trans Z0 K5.1)) hZ (own_w hw 3 rfl) (own_w hw 2 rfl) (by decide) (by decide)) (g := (mkF m 69 #[.val (.long q1), .second, .val (.long q2), .second, .val (.long q3), .second, .val (.long q4), .second, .val (.int p5), .val (.long r_1), .second, .val (.long q2), .second, .val (.int y3), .unset, .unset, .unset] [(.long (q1 ^^^ q4)), (.int y3), (.long r_7), (.long r_1), (.long r_6), (.ref b5), (.ref b4), (.ref b4)])) rfl (by rw [hml]; rfl) (argsL := [(.long (q1 ^^^ q4))]) (rest := [(.int y3), (.long r_7), (.long r_1), (.long r_6), (.ref b5), (.ref b4), (.ref b4)]) (lenOf pd_12 rfl) rfl (by show 2 * 0 + _ ≤ _; exact Nat.le_of_eq rfl) (hb hby at_69) (fun _ _ => ⟨rfl, eh7, (by decide : 3 + 0 ≤ _), (by decide : 14 + 0 ≤ _)⟩)
    dsimp only [Pt.U, Pt.locs, Pt.cells, Pt.slots] at X8 l8 y8 z8 st8 hQ8
    subst l8 y8 z8
    obtain ⟨r_8, rfl, N8q, eh8, w8_0⟩ := hQ8
    have N8 := Fr.app N7 N8q
    refine own_go st8 ?_
    obtain ⟨_, _, ⟨T9, L9, k9, n9⟩, -, X9, hs9, gs9, ⟨Lc9, hQ9, l9, y9, z9⟩, st9⟩ := X8.specialBackS hx (y := own_y13) rfl hown (mvT hZ (own_w hw 19 rfl)) (mvT hZ (own_w hw 20 rfl)) (mvT hZ (own_w hw 21 rfl)) (by decide) (backOfS (W := 1) (rmTask l Z a0 hw [] b4 b5 r_6 r_1 r_7 y3 r_8 d5 kk5 cs sf h5 n0 (Nat.le_trans Z0 K5.1) O5 u1 hcs u3 hsf Ea5 Fc5 Fv5 Av5 (A4.ext E5) (F4_name.ext E5) (F4_period.ext E5) (F4_deadline.ext E5) (F4_cost.ext E5) (F4_priority.ext E5) (F4_recovery.ext E5) (Nat.le_trans Z0 (Nat.le_of_eq g4.symm)) (own_lo w6_0) (own_hi w6_0) (own_lo w1_0) (own_hi w1_0) (own_lo w7_0) (own_hi w7_0) (own_lo w8_0) (own_hi w8_0) (own_p0 hpy3) (own_p1 hpy3)) hZ (own_w hw 21 rfl) (own_w hw 10 rfl) (by decide) (by decide)) (g := (mkF m 72 #[.val (.long q1), .second, .val (.long q2), .second, .val (.long q3), .second, .val (.long q4), .second, .val (.int p5), .val (.long r_1), .second, .val (.long q2), .second, .val (.int y3), .unset, .unset, .unset] [(.long r_8), (.int y3), (.long r_7), (.long r_1), (.long r_6), (.ref b5), (.ref b4), (.ref b4)])) rfl (by rw [hml]; rfl) (Steps.refl _) (a := b4) (argsL := [(.ref b5), (.long r_6), (.long r_1), (.long r_7), (.int y3), (.long r_8)]) (rest := [(.ref b4)]) (lenOf pd_13 rfl) rfl (by show 2 * 0 + _ ≤ _; exact Nat.le_of_eq rfl) (hb hby at_72) (fun _ _ => ⟨rfl, eh8, (by decide : 3 + 8 ≤ _), (by decide : 14 + 120 ≤ _)⟩)
    dsimp only [Pt.U, Pt.locs, Pt.cells, Pt.slots] at X9 l9 y9 z9 st9 hQ9 hs9 gs9
    subst l9 y9 z9
    obtain ⟨X9, hS, hZ, hown⟩ := rebS hS (by rw [eh8]; exact hk) X9 hs9 gs9 hZ hown
    obtain ⟨rfl, N9q, Kc9, r9_0⟩ := hQ9
    have N9 := Fr.app N8 N9q
    refine own_via st9 ?_
    have hk := Nat.le_refl T9.heap.size
    have K9 : Keep h0 T9.heap [] := K5.trans Kc9 (allS (P := fun x => x ∈ _ ∨ _ ≤ x) (Or.inr (Nat.le_of_eq g4.symm)) all0)
    have O9 := O5.keep Kc9 (allS (P := fun x => n0 ≤ x) (Nat.le_trans Z0 (Nat.le_of_eq g4.symm)) all0)
    refine own_go (A := T9.setTop (mkF m 77 #[.val (.long q1), .second, .val (.long q2), .second, .val (.long q3), .second, .val (.long q4), .second, .val (.int p5), .val (.long r_1), .second, .val (.long q2), .second, .val (.int y3), .val (.ref b4), .unset, .unset] [])) (fun t_ k_ => ?_) ?_
    · show Steps p.tables e below (T9.setTop (mkF m 75 #[.val (.long q1), .second, .val (.long q2), .second, .val (.long q3), .second, .val (.long q4), .second, .val (.int p5), .val (.long r_1), .second, .val (.long q2), .second, .val (.int y3), .unset, .unset, .unset] [(.ref b4)])) t_
      refine XS.astore X9.here hx rfl (hb hby at_75) rfl rfl (l' := #[.val (.long q1), .second, .val (.long q2), .second, .val (.long q3), .second, .val (.long q4), .second, .val (.int p5), .val (.long r_1), .second, .val (.long q2), .second, .val (.int y3), .val (.ref b4), .unset, .unset]) rfl ?_
      exact k_
    obtain ⟨T10, h10, X10, e10, E10, A10, D10, -, st10⟩ := newO X9 hx hZ hown (own_w hw 97 rfl) (own_w hw 98 rfl) (own_w hw 99 rfl) rfl (g := (mkF m 77 #[.val (.long q1), .second, .val (.long q2), .second, .val (.long q3), .second, .val (.long q4), .second, .val (.int p5), .val (.long r_1), .second, .val (.long q2), .second, .val (.int y3), .val (.ref b4), .unset, .unset] [])) rfl (hb hby at_77) (by decide) (by decide)
    obtain ⟨b10, g10⟩ : ∃ z, z = T9.heap.size := ⟨_, rfl⟩
    rw [← g10] at A10 D10 st10
    refine own_go st10 ?_
    have K10 : Keep h0 h10 [] := K9.ext E10
    have hk := Nat.le_trans hk E10.1
    have O10 := O9.ext E10
    have F10_task : Fld Z h10 b10 "com/example/firmline/firmline/analysis/FaultResponse" "task" "Lcom/example/firmline/firmline/model/Task;" .null := D10 (Or.inr (own_w hw 105 rfl)) (ty := (.object "com/example/firmline/firmline/model/Task")) (by decide)
    have F10_value : Fld Z h10 b10 "com/example/firmline/firmline/analysis/FaultResponse" "value" "J" (.long (0 : Int64)) := D10 (Or.inr (own_w hw 107 rfl)) (ty := .long) (by decide)
    refine own_go (A := T10.setTop (mkF m 85 #[.val (.long q1), .second, .val (.long q2), .second, .val (.long q3), .second, .val (.long q4), .second, .val (.int p5), .val (.long r_1), .second, .val (.long q2), .second, .val (.int y3), .val (.ref b4), .unset, .unset] [(.long q2), (.ref b4), (.ref b10), (.ref b10)])) (fun t_ k_ => ?_) ?_
    · show Steps p.tables e below (T10.setTop (mkF m 80 #[.val (.long q1), .second, .val (.long q2), .second, .val (.long q3), .second, .val (.long q4), .second, .val (.int p5), .val (.long r_1), .second, .val (.long q2), .second, .val (.int y3), .val (.ref b4), .unset, .unset] [(.ref b10)])) t_
      refine XS.dup X10.here hx rfl (hb hby at_80) rfl rfl ?_
      show Steps p.tables e below (T10.setTop (mkF m 81 #[.val (.long q1), .second, .val (.long q2), .second, .val (.long q3), .second, .val (.long q4), .second, .val (.int p5), .val (.long r_1), .second, .val (.long q2), .second, .val (.int y3), .val (.ref b4), .unset, .unset] [(.ref b10), (.ref b10)])) t_
      refine XS.aload X10.here hx rfl (hb hby at_81) rfl rfl ?_
      show Steps p.tables e below (T10.setTop (mkF m 83 #[.val (.long q1), .second, .val (.long q2), .second, .val (.long q3), .second, .val (.long q4), .second, .val (.int p5), .val (.long r_1), .second, .val (.long q2), .second, .val (.int y3), .val (.ref b4), .unset, .unset] [(.ref b4), (.ref b10), (.ref b10)])) t_
      refine XS.lload X10.here hx rfl (hb hby at_83) rfl ?_
      exact k_
    obtain ⟨_, _, ⟨T11, L11, k11, n11⟩, -, X11, ⟨Lc11, hQ11, l11, y11, z11⟩, st11⟩ := X10.specialBack hx (y := own_y14) rfl hown (mvT hZ (own_w hw 100 rfl)) (mvT hZ (own_w hw 101 rfl)) (mvT hZ (own_w hw 102 rfl)) (by decide) (backOf (W := 1) (rmFR l Z a0 hw [] b10 b4 q2 h10 n0 (Nat.le_trans Z0 K10.1) A10 F10_task F10_value (Nat.le_trans Z0 (Nat.le_trans K9.1 (Nat.le_of_eq g10.symm)))) hZ (own_w hw 102 rfl) (own_w hw 99 rfl) (by decide) (by decide)) (g := (mkF m 85 #[.val (.long q1), .second, .val (.long q2), .second, .val (.long q3), .second, .val (.long q4), .second, .val (.int p5), .val (.long r_1), .second, .val (.long q2), .second, .val (.int y3), .val (.ref b4), .unset, .unset] [(.long q2), (.ref b4), (.ref b10), (.ref b10)])) rfl (by rw [hml]; rfl) (Steps.refl _) (a := b10) (argsL := [(.ref b4), (.long q2)]) (rest := [(.ref b10)]) (lenOf pd_14 rfl) rfl (by show 2 * 0 + _ ≤ _; exact Nat.le_of_eq rfl) (hb hby at_85) (fun _ _ => ⟨rfl, e10, (by decide : 12 + 0 ≤ _), (by decide : 136 + 0 ≤ _)⟩)
    dsimp only [Pt.U, Pt.locs, Pt.cells, Pt.slots] at X11 l11 y11 z11 st11 hQ11
    subst l11 y11 z11
    obtain ⟨rfl, N11q, Kc11, r11_0, r11_1⟩ := hQ11
    have N11 := Fr.app N9 N11q
    refine own_via st11 ?_
    have K11 : Keep h0 T11.heap [] := K10.trans Kc11 (allS (P := fun x => x ∈ _ ∨ _ ≤ x) (Or.inr (Nat.le_trans K9.1 (Nat.le_of_eq g10.symm))) all0)
    have hk := Nat.le_trans hk Kc11.1
    have O11 := O10.keep Kc11 (allS (P := fun x => n0 ≤ x) (Nat.le_trans Z0 (Nat.le_trans K9.1 (Nat.le_of_eq g10.symm))) all0)
    refine own_go (A := T11.setTop (mkF m 94 #[.val (.long q1), .second, .val (.long q2), .second, .val (.long q3), .second, .val (.long q4), .second, .val (.int p5), .val (.long r_1), .second, .val (.long q2), .second, .val (.int y3), .val (.ref b4), .val (.ref b10), .unset] [(.int (lcmpW q2 (1 : Int64)))])) (fun t_ k_ => ?_) ?_
    · show Steps p.tables e below (T11.setTop (mkF m 88 #[.val (.long q1), .second, .val (.long q2), .second, .val (.long q3), .second, .val (.long q4), .second, .val (.int p5), .val (.long r_1), .second, .val (.long q2), .second, .val (.int y3), .val (.ref b4), .unset, .unset] [(.ref b10)])) t_
      refine XS.astore X11.here hx rfl (hb hby at_88) rfl rfl (l' := #[.val (.long q1), .second, .val (.long q2), .second, .val (.long q3), .second, .val (.long q4), .second, .val (.int p5), .val (.long r_1), .second, .val (.long q2), .second, .val (.int y3), .val (.ref b4), .val (.ref b10), .unset]) rfl ?_
      show Steps p.tables e below (T11.setTop (mkF m 90 #[.val (.long q1), .second, .val (.long q2), .second, .val (.long q3), .second, .val (.long q4), .second, .val (.int p5), .val (.long r_1), .second, .val (.long q2), .second, .val (.int y3), .val (.ref b4), .val (.ref b10), .unset] [])) t_
      refine XS.lload X11.here hx rfl (hb hby at_90) rfl ?_
      show Steps p.tables e below (T11.setTop (mkF m 92 #[.val (.long q1), .second, .val (.long q2), .second, .val (.long q3), .second, .val (.long q4), .second, .val (.int p5), .val (.long r_1), .second, .val (.long q2), .second, .val (.int y3), .val (.ref b4), .val (.ref b10), .unset] [(.long q2)])) t_
      refine XS.lconst X11.here hx rfl (hb hby at_92) ?_
      show Steps p.tables e below (T11.setTop (mkF m 93 #[.val (.long q1), .second, .val (.long q2), .second, .val (.long q3), .second, .val (.long q4), .second, .val (.int p5), .val (.long r_1), .second, .val (.long q2), .second, .val (.int y3), .val (.ref b4), .val (.ref b10), .unset] [(.long (1 : Int64)), (.long q2)])) t_
      refine XS.lcmp X11.here hx rfl (hb hby at_93) rfl ?_
      exact k_
    by_cases hc94_12 : q2 < (1 : Int64)
    · refine own_go (A := T11.setTop (mkF m 135 #[.val (.long q1), .second, .val (.long q2), .second, .val (.long q3), .second, .val (.long q4), .second, .val (.int p5), .val (.long r_1), .second, .val (.long q2), .second, .val (.int y3), .val (.ref b4), .val (.ref b10), .val (.int (1 : Int32))] [(.ref b10)])) (fun t_ k_ => ?_) ?_
      · show Steps p.tables e below (T11.setTop (mkF m 94 #[.val (.long q1), .second, .val (.long q2), .second, .val (.long q3), .second, .val (.long q4), .second, .val (.int p5), .val (.long r_1), .second, .val (.long q2), .second, .val (.int y3), .val (.ref b4), .val (.ref b10), .unset] [(.int (lcmpW q2 (1 : Int64)))])) t_
        refine XS.ifNo X11.here hx rfl (hb hby at_94) rfl ((if0 _ _).trans (tlt ((lw_lt _ _).mpr hc94_12)).2.1) ?_
        show Steps p.tables e below (T11.setTop (mkF m 97 #[.val (.long q1), .second, .val (.long q2), .second, .val (.long q3), .second, .val (.long q4), .second, .val (.int p5), .val (.long r_1), .second, .val (.long q2), .second, .val (.int y3), .val (.ref b4), .val (.ref b10), .unset] [])) t_
        refine XS.iconst X11.here hx rfl (hb hby at_97) ?_
        show Steps p.tables e below (T11.setTop (mkF m 98 #[.val (.long q1), .second, .val (.long q2), .second, .val (.long q3), .second, .val (.long q4), .second, .val (.int p5), .val (.long r_1), .second, .val (.long q2), .second, .val (.int y3), .val (.ref b4), .val (.ref b10), .unset] [(.int (1 : Int32))])) t_
        refine XS.istore X11.here hx rfl (hb hby at_98) rfl (l' := #[.val (.long q1), .second, .val (.long q2), .second, .val (.long q3), .second, .val (.long q4), .second, .val (.int p5), .val (.long r_1), .second, .val (.long q2), .second, .val (.int y3), .val (.ref b4), .val (.ref b10), .val (.int (1 : Int32))]) rfl ?_
        show Steps p.tables e below (T11.setTop (mkF m 100 #[.val (.long q1), .second, .val (.long q2), .second, .val (.long q3), .second, .val (.long q4), .second, .val (.int p5), .val (.long r_1), .second, .val (.long q2), .second, .val (.int y3), .val (.ref b4), .val (.ref b10), .val (.int (1 : Int32))] [])) t_
        refine XS.goto X11.here hx rfl (pc0 := 100) (pc' := 133) rfl (hb hby at_100) (by decide) (by decide) ?_
        show Steps p.tables e below (T11.setTop (mkF m 133 #[.val (.long q1), .second, .val (.long q2), .second, .val (.long q3), .second, .val (.long q4), .second, .val (.int p5), .val (.long r_1), .second, .val (.long q2), .second, .val (.int y3), .val (.ref b4), .val (.ref b10), .val (.int (1 : Int32))] [])) t_
        refine XS.aload X11.here hx rfl (hb hby at_133) rfl rfl ?_
        exact k_
      obtain ⟨cq13, kq13, q13a, q13b, q13c⟩ := isOf hZ rfl (A10.keep Kc11)
      obtain ⟨_, _, ⟨T13, L13, k13, n13⟩, -, X13, ⟨Lc13, hQ13, l13, y13, z13⟩, st13⟩ := X11.virtualBack hx (y := own_y16) (z := own_y16) hown (mvT hZ (own_w hw 108 rfl)) (mvT hZ (own_w hw 109 rfl)) (notFace_of_selects (args := #[]) (mvT hZ (own_w hw 111 rfl))) (mvT hZ (own_w hw 111 rfl)) (mvT hZ (own_w hw 110 rfl)) (by decide) (backOf (W := 0) (rmMeets1 l Z a0 hw [] b10 b4 r_1 q2 T11.heap n0 (Nat.le_trans Z0 K11.1) ((((A4.ext E5).keep Kc9).ext E10).keep Kc11) r11_1 r11_0 ((r9_0.ext E10).keep Kc11 (ninS (Nat.ne_of_lt (Nat.lt_of_lt_of_le (Nat.lt_of_lt_of_le (Nat.lt_of_lt_of_le A4.lt E5.1) Kc9.1) (Nat.le_of_eq g10.symm))) nin0)) (own_small w1_0 hc94_12)) hZ (own_w hw 112 rfl) (own_w hw 99 rfl) (by decide) (by decide)) q13a q13c (g := (mkF m 135 #[.val (.long q1), .second, .val (.long q2), .second, .val (.long q3), .second, .val (.long q4), .second, .val (.int p5), .val (.long r_1), .second, .val (.long q2), .second, .val (.int y3), .val (.ref b4), .val (.ref b10), .val (.int (1 : Int32))] [(.ref b10)])) rfl (by rw [hml]; rfl) (Steps.refl _) (argsL := []) (rest := []) (lenOf pd_3 rfl) rfl (by show 2 * 0 + _ ≤ _; exact Nat.le_of_eq rfl) (hb hby at_135) (fun _ _ => ⟨rfl, rfl, (by decide : 12 + 0 ≤ _), (by decide : 136 + 0 ≤ _)⟩)
      dsimp only [Pt.U, Pt.locs, Pt.cells, Pt.slots] at X13 l13 y13 z13 st13 hQ13
      subst l13 y13 z13
      obtain ⟨rfl, N13q, eh13⟩ := hQ13
      have N13 := Fr.app N11 N13q
      refine own_via st13 ?_
      refine own_go (A := T13.setTop (mkF m 148 #[.val (.long q1), .second, .val (.long q2), .second, .val (.long q3), .second, .val (.long q4), .second, .val (.int p5), .val (.long r_1), .second, .val (.long q2), .second, .val (.int y3), .val (.ref b4), .val (.ref b10), .val (.int (1 : Int32))] [(.int (1 : Int32))])) (fun t_ k_ => ?_) ?_
      · show Steps p.tables e below (T13.setTop (mkF m 138 #[.val (.long q1), .second, .val (.long q2), .second, .val (.long q3), .second, .val (.long q4), .second, .val (.int p5), .val (.long r_1), .second, .val (.long q2), .second, .val (.int y3), .val (.ref b4), .val (.ref b10), .val (.int (1 : Int32))] [(.int (1 : Int32))])) t_
        refine XS.iload X13.here hx rfl (hb hby at_138) rfl ?_
        show Steps p.tables e below (T13.setTop (mkF m 140 #[.val (.long q1), .second, .val (.long q2), .second, .val (.long q3), .second, .val (.long q4), .second, .val (.int p5), .val (.long r_1), .second, .val (.long q2), .second, .val (.int y3), .val (.ref b4), .val (.ref b10), .val (.int (1 : Int32))] [(.int (1 : Int32)), (.int (1 : Int32))])) t_
        refine XS.icmpNo X13.here hx rfl (hb hby at_140) rfl (teq (by decide : (1 : Int32) = (1 : Int32))).2 ?_
        show Steps p.tables e below (T13.setTop (mkF m 143 #[.val (.long q1), .second, .val (.long q2), .second, .val (.long q3), .second, .val (.long q4), .second, .val (.int p5), .val (.long r_1), .second, .val (.long q2), .second, .val (.int y3), .val (.ref b4), .val (.ref b10), .val (.int (1 : Int32))] [])) t_
        refine XS.iconst X13.here hx rfl (hb hby at_143) ?_
        show Steps p.tables e below (T13.setTop (mkF m 144 #[.val (.long q1), .second, .val (.long q2), .second, .val (.long q3), .second, .val (.long q4), .second, .val (.int p5), .val (.long r_1), .second, .val (.long q2), .second, .val (.int y3), .val (.ref b4), .val (.ref b10), .val (.int (1 : Int32))] [(.int (1 : Int32))])) t_
        refine XS.goto X13.here hx rfl (pc0 := 144) (pc' := 148) rfl (hb hby at_144) (by decide) (by decide) ?_
        exact k_
      obtain ⟨fs14, hr14, hrun14, hended14, hRW14⟩ := X13.leaveW hS (by rw [eh13]; exact hk) (v := some (.int (1 : Int32))) (fun h => by rw [Bd.returns] at h; cases h)
      refine ⟨_, _, ?_, hrun14, hended14, _, _, rfl, ?_, hRW14.1, hRW14.2.1, hRW14.2.2.1, hRW14.2.2.2.mono (by decide) (by decide)⟩
      · exact retN X13 hx (t := .boolean) Bd.returns (by simp) (hb hby at_148) hr14
      · show Q_rm0 Z q1 q2 q3 q4 p5 cs sf h0 n0 _ T13.heap _
        rw [eh13]
        exact ⟨rfl, N13, K11⟩
    · refine own_go (A := T11.setTop (mkF m 109 #[.val (.long q1), .second, .val (.long q2), .second, .val (.long q3), .second, .val (.long q4), .second, .val (.int p5), .val (.long r_1), .second, .val (.long q2), .second, .val (.int y3), .val (.ref b4), .val (.ref b10), .unset] [(.int (lcmpW q2 (1000000000000000 : Int64)))])) (fun t_ k_ => ?_) ?_
      · show Steps p.tables e below (T11.setTop (mkF m 94 #[.val (.long q1), .second, .val (.long q2), .second, .val (.long q3), .second, .val (.long q4), .second, .val (.int p5), .val (.long r_1), .second, .val (.long q2), .second, .val (.int y3), .val (.ref b4), .val (.ref b10), .unset] [(.int (lcmpW q2 (1 : Int64)))])) t_
        refine XS.ifYes X11.here hx rfl (pc0 := 94) (pc' := 103) rfl (hb hby at_94) rfl ((if0 _ _).trans (flt (fun q => hc94_12 ((lw_lt _ _).mp q))).2.1) (by decide) (by decide) ?_
        show Steps p.tables e below (T11.setTop (mkF m 103 #[.val (.long q1), .second, .val (.long q2), .second, .val (.long q3), .second, .val (.long q4), .second, .val (.int p5), .val (.long r_1), .second, .val (.long q2), .second, .val (.int y3), .val (.ref b4), .val (.ref b10), .unset] [])) t_
        refine XS.lload X11.here hx rfl (hb hby at_103) rfl ?_
        show Steps p.tables e below (T11.setTop (mkF m 105 #[.val (.long q1), .second, .val (.long q2), .second, .val (.long q3), .second, .val (.long q4), .second, .val (.int p5), .val (.long r_1), .second, .val (.long q2), .second, .val (.int y3), .val (.ref b4), .val (.ref b10), .unset] [(.long q2)])) t_
        refine Jvm.Stand.ldc2J X11 hx hown (mvT hZ (own_w hw 5 rfl)) (g := (mkF m 105 #[.val (.long q1), .second, .val (.long q2), .second, .val (.long q3), .second, .val (.long q4), .second, .val (.int p5), .val (.long r_1), .second, .val (.long q2), .second, .val (.int y3), .val (.ref b4), .val (.ref b10), .unset] [(.long q2)])) rfl (hb hby at_105) ?_
        show Steps p.tables e below (T11.setTop (mkF m 108 #[.val (.long q1), .second, .val (.long q2), .second, .val (.long q3), .second, .val (.long q4), .second, .val (.int p5), .val (.long r_1), .second, .val (.long q2), .second, .val (.int y3), .val (.ref b4), .val (.ref b10), .unset] [(.long (1000000000000000 : Int64)), (.long q2)])) t_
        refine XS.lcmp X11.here hx rfl (hb hby at_108) rfl ?_
        exact k_
      by_cases hc109_15 : (1000000000000000 : Int64) < q2
      · refine own_go (A := T11.setTop (mkF m 135 #[.val (.long q1), .second, .val (.long q2), .second, .val (.long q3), .second, .val (.long q4), .second, .val (.int p5), .val (.long r_1), .second, .val (.long q2), .second, .val (.int y3), .val (.ref b4), .val (.ref b10), .val (.int (0 : Int32))] [(.ref b10)])) (fun t_ k_ => ?_) ?_
        · show Steps p.tables e below (T11.setTop (mkF m 109 #[.val (.long q1), .second, .val (.long q2), .second, .val (.long q3), .second, .val (.long q4), .second, .val (.int p5), .val (.long r_1), .second, .val (.long q2), .second, .val (.int y3), .val (.ref b4), .val (.ref b10), .unset] [(.int (lcmpW q2 (1000000000000000 : Int64)))])) t_
          refine XS.ifNo X11.here hx rfl (hb hby at_109) rfl ((if0 _ _).trans (tlt ((lw_gt _ _).mpr hc109_15)).2.2.2) ?_
          show Steps p.tables e below (T11.setTop (mkF m 112 #[.val (.long q1), .second, .val (.long q2), .second, .val (.long q3), .second, .val (.long q4), .second, .val (.int p5), .val (.long r_1), .second, .val (.long q2), .second, .val (.int y3), .val (.ref b4), .val (.ref b10), .unset] [])) t_
          refine XS.iconst X11.here hx rfl (hb hby at_112) ?_
          show Steps p.tables e below (T11.setTop (mkF m 113 #[.val (.long q1), .second, .val (.long q2), .second, .val (.long q3), .second, .val (.long q4), .second, .val (.int p5), .val (.long r_1), .second, .val (.long q2), .second, .val (.int y3), .val (.ref b4), .val (.ref b10), .unset] [(.int (0 : Int32))])) t_
          refine XS.istore X11.here hx rfl (hb hby at_113) rfl (l' := #[.val (.long q1), .second, .val (.long q2), .second, .val (.long q3), .second, .val (.long q4), .second, .val (.int p5), .val (.long r_1), .second, .val (.long q2), .second, .val (.int y3), .val (.ref b4), .val (.ref b10), .val (.int (0 : Int32))]) rfl ?_
          show Steps p.tables e below (T11.setTop (mkF m 115 #[.val (.long q1), .second, .val (.long q2), .second, .val (.long q3), .second, .val (.long q4), .second, .val (.int p5), .val (.long r_1), .second, .val (.long q2), .second, .val (.int y3), .val (.ref b4), .val (.ref b10), .val (.int (0 : Int32))] [])) t_
          refine XS.goto X11.here hx rfl (pc0 := 115) (pc' := 133) rfl (hb hby at_115) (by decide) (by decide) ?_
          show Steps p.tables e below (T11.setTop (mkF m 133 #[.val (.long q1), .second, .val (.long q2), .second, .val (.long q3), .second, .val (.long q4), .second, .val (.int p5), .val (.long r_1), .second, .val (.long q2), .second, .val (.int y3), .val (.ref b4), .val (.ref b10), .val (.int (0 : Int32))] [])) t_
          refine XS.aload X11.here hx rfl (hb hby at_133) rfl rfl ?_
          exact k_
        obtain ⟨cq16, kq16, q16a, q16b, q16c⟩ := isOf hZ rfl (A10.keep Kc11)
        obtain ⟨_, _, ⟨T16, L16, k16, n16⟩, -, X16, ⟨Lc16, hQ16, l16, y16, z16⟩, st16⟩ := X11.virtualBack hx (y := own_y16) (z := own_y16) hown (mvT hZ (own_w hw 108 rfl)) (mvT hZ (own_w hw 109 rfl)) (notFace_of_selects (args := #[]) (mvT hZ (own_w hw 111 rfl))) (mvT hZ (own_w hw 111 rfl)) (mvT hZ (own_w hw 110 rfl)) (by decide) (backOf (W := 0) (rmMeets0 l Z a0 hw [] b10 b4 r_1 q2 T11.heap n0 (Nat.le_trans Z0 K11.1) ((((A4.ext E5).keep Kc9).ext E10).keep Kc11) r11_1 r11_0 ((r9_0.ext E10).keep Kc11 (ninS (Nat.ne_of_lt (Nat.lt_of_lt_of_le (Nat.lt_of_lt_of_le (Nat.lt_of_lt_of_le A4.lt E5.1) Kc9.1) (Nat.le_of_eq g10.symm))) nin0)) (own_great w1_0 hc109_15)) hZ (own_w hw 112 rfl) (own_w hw 99 rfl) (by decide) (by decide)) q16a q16c (g := (mkF m 135 #[.val (.long q1), .second, .val (.long q2), .second, .val (.long q3), .second, .val (.long q4), .second, .val (.int p5), .val (.long r_1), .second, .val (.long q2), .second, .val (.int y3), .val (.ref b4), .val (.ref b10), .val (.int (0 : Int32))] [(.ref b10)])) rfl (by rw [hml]; rfl) (Steps.refl _) (argsL := []) (rest := []) (lenOf pd_3 rfl) rfl (by show 2 * 0 + _ ≤ _; exact Nat.le_of_eq rfl) (hb hby at_135) (fun _ _ => ⟨rfl, rfl, (by decide : 12 + 0 ≤ _), (by decide : 136 + 0 ≤ _)⟩)
        dsimp only [Pt.U, Pt.locs, Pt.cells, Pt.slots] at X16 l16 y16 z16 st16 hQ16
        subst l16 y16 z16
        obtain ⟨rfl, N16q, eh16⟩ := hQ16
        have N16 := Fr.app N11 N16q
        refine own_via st16 ?_
        refine own_go (A := T16.setTop (mkF m 148 #[.val (.long q1), .second, .val (.long q2), .second, .val (.long q3), .second, .val (.long q4), .second, .val (.int p5), .val (.long r_1), .second, .val (.long q2), .second, .val (.int y3), .val (.ref b4), .val (.ref b10), .val (.int (0 : Int32))] [(.int (1 : Int32))])) (fun t_ k_ => ?_) ?_
        · show Steps p.tables e below (T16.setTop (mkF m 138 #[.val (.long q1), .second, .val (.long q2), .second, .val (.long q3), .second, .val (.long q4), .second, .val (.int p5), .val (.long r_1), .second, .val (.long q2), .second, .val (.int y3), .val (.ref b4), .val (.ref b10), .val (.int (0 : Int32))] [(.int (0 : Int32))])) t_
          refine XS.iload X16.here hx rfl (hb hby at_138) rfl ?_
          show Steps p.tables e below (T16.setTop (mkF m 140 #[.val (.long q1), .second, .val (.long q2), .second, .val (.long q3), .second, .val (.long q4), .second, .val (.int p5), .val (.long r_1), .second, .val (.long q2), .second, .val (.int y3), .val (.ref b4), .val (.ref b10), .val (.int (0 : Int32))] [(.int (0 : Int32)), (.int (0 : Int32))])) t_
          refine XS.icmpNo X16.here hx rfl (hb hby at_140) rfl (teq (by decide : (0 : Int32) = (0 : Int32))).2 ?_
          show Steps p.tables e below (T16.setTop (mkF m 143 #[.val (.long q1), .second, .val (.long q2), .second, .val (.long q3), .second, .val (.long q4), .second, .val (.int p5), .val (.long r_1), .second, .val (.long q2), .second, .val (.int y3), .val (.ref b4), .val (.ref b10), .val (.int (0 : Int32))] [])) t_
          refine XS.iconst X16.here hx rfl (hb hby at_143) ?_
          show Steps p.tables e below (T16.setTop (mkF m 144 #[.val (.long q1), .second, .val (.long q2), .second, .val (.long q3), .second, .val (.long q4), .second, .val (.int p5), .val (.long r_1), .second, .val (.long q2), .second, .val (.int y3), .val (.ref b4), .val (.ref b10), .val (.int (0 : Int32))] [(.int (1 : Int32))])) t_
          refine XS.goto X16.here hx rfl (pc0 := 144) (pc' := 148) rfl (hb hby at_144) (by decide) (by decide) ?_
          exact k_
        obtain ⟨fs17, hr17, hrun17, hended17, hRW17⟩ := X16.leaveW hS (by rw [eh16]; exact hk) (v := some (.int (1 : Int32))) (fun h => by rw [Bd.returns] at h; cases h)
        refine ⟨_, _, ?_, hrun17, hended17, _, _, rfl, ?_, hRW17.1, hRW17.2.1, hRW17.2.2.1, hRW17.2.2.2.mono (by decide) (by decide)⟩
        · exact retN X16 hx (t := .boolean) Bd.returns (by simp) (hb hby at_148) hr17
        · show Q_rm0 Z q1 q2 q3 q4 p5 cs sf h0 n0 _ T16.heap _
          rw [eh16]
          exact ⟨rfl, N16, K11⟩
      · refine own_go (A := T11.setTop (mkF m 123 #[.val (.long q1), .second, .val (.long q2), .second, .val (.long q3), .second, .val (.long q4), .second, .val (.int p5), .val (.long r_1), .second, .val (.long q2), .second, .val (.int y3), .val (.ref b4), .val (.ref b10), .unset] [(.int (lcmpW r_1 q2))])) (fun t_ k_ => ?_) ?_
        · show Steps p.tables e below (T11.setTop (mkF m 109 #[.val (.long q1), .second, .val (.long q2), .second, .val (.long q3), .second, .val (.long q4), .second, .val (.int p5), .val (.long r_1), .second, .val (.long q2), .second, .val (.int y3), .val (.ref b4), .val (.ref b10), .unset] [(.int (lcmpW q2 (1000000000000000 : Int64)))])) t_
          refine XS.ifYes X11.here hx rfl (pc0 := 109) (pc' := 118) rfl (hb hby at_109) rfl ((if0 _ _).trans (flt (fun q => hc109_15 ((lw_gt _ _).mp q))).2.2.2) (by decide) (by decide) ?_
          show Steps p.tables e below (T11.setTop (mkF m 118 #[.val (.long q1), .second, .val (.long q2), .second, .val (.long q3), .second, .val (.long q4), .second, .val (.int p5), .val (.long r_1), .second, .val (.long q2), .second, .val (.int y3), .val (.ref b4), .val (.ref b10), .unset] [])) t_
          refine XS.lload X11.here hx rfl (hb hby at_118) rfl ?_
          show Steps p.tables e below (T11.setTop (mkF m 120 #[.val (.long q1), .second, .val (.long q2), .second, .val (.long q3), .second, .val (.long q4), .second, .val (.int p5), .val (.long r_1), .second, .val (.long q2), .second, .val (.int y3), .val (.ref b4), .val (.ref b10), .unset] [(.long r_1)])) t_
          refine XS.lload X11.here hx rfl (hb hby at_120) rfl ?_
          show Steps p.tables e below (T11.setTop (mkF m 122 #[.val (.long q1), .second, .val (.long q2), .second, .val (.long q3), .second, .val (.long q4), .second, .val (.int p5), .val (.long r_1), .second, .val (.long q2), .second, .val (.int y3), .val (.ref b4), .val (.ref b10), .unset] [(.long q2), (.long r_1)])) t_
          refine XS.lcmp X11.here hx rfl (hb hby at_122) rfl ?_
          exact k_
        by_cases hc123_18 : r_1 < q2
        · refine own_go (A := T11.setTop (mkF m 135 #[.val (.long q1), .second, .val (.long q2), .second, .val (.long q3), .second, .val (.long q4), .second, .val (.int p5), .val (.long r_1), .second, .val (.long q2), .second, .val (.int y3), .val (.ref b4), .val (.ref b10), .val (.int (0 : Int32))] [(.ref b10)])) (fun t_ k_ => ?_) ?_
          · show Steps p.tables e below (T11.setTop (mkF m 123 #[.val (.long q1), .second, .val (.long q2), .second, .val (.long q3), .second, .val (.long q4), .second, .val (.int p5), .val (.long r_1), .second, .val (.long q2), .second, .val (.int y3), .val (.ref b4), .val (.ref b10), .unset] [(.int (lcmpW r_1 q2))])) t_
            refine XS.ifYes X11.here hx rfl (pc0 := 123) (pc' := 130) rfl (hb hby at_123) rfl ((if0 _ _).trans (tlt ((lw_lt _ _).mpr hc123_18)).1) (by decide) (by decide) ?_
            show Steps p.tables e below (T11.setTop (mkF m 130 #[.val (.long q1), .second, .val (.long q2), .second, .val (.long q3), .second, .val (.long q4), .second, .val (.int p5), .val (.long r_1), .second, .val (.long q2), .second, .val (.int y3), .val (.ref b4), .val (.ref b10), .unset] [])) t_
            refine XS.iconst X11.here hx rfl (hb hby at_130) ?_
            show Steps p.tables e below (T11.setTop (mkF m 131 #[.val (.long q1), .second, .val (.long q2), .second, .val (.long q3), .second, .val (.long q4), .second, .val (.int p5), .val (.long r_1), .second, .val (.long q2), .second, .val (.int y3), .val (.ref b4), .val (.ref b10), .unset] [(.int (0 : Int32))])) t_
            refine XS.istore X11.here hx rfl (hb hby at_131) rfl (l' := #[.val (.long q1), .second, .val (.long q2), .second, .val (.long q3), .second, .val (.long q4), .second, .val (.int p5), .val (.long r_1), .second, .val (.long q2), .second, .val (.int y3), .val (.ref b4), .val (.ref b10), .val (.int (0 : Int32))]) rfl ?_
            show Steps p.tables e below (T11.setTop (mkF m 133 #[.val (.long q1), .second, .val (.long q2), .second, .val (.long q3), .second, .val (.long q4), .second, .val (.int p5), .val (.long r_1), .second, .val (.long q2), .second, .val (.int y3), .val (.ref b4), .val (.ref b10), .val (.int (0 : Int32))] [])) t_
            refine XS.aload X11.here hx rfl (hb hby at_133) rfl rfl ?_
            exact k_
          obtain ⟨cq19, kq19, q19a, q19b, q19c⟩ := isOf hZ rfl (A10.keep Kc11)
          obtain ⟨_, _, ⟨T19, L19, k19, n19⟩, -, X19, ⟨Lc19, hQ19, l19, y19, z19⟩, st19⟩ := X11.virtualBack hx (y := own_y16) (z := own_y16) hown (mvT hZ (own_w hw 108 rfl)) (mvT hZ (own_w hw 109 rfl)) (notFace_of_selects (args := #[]) (mvT hZ (own_w hw 111 rfl))) (mvT hZ (own_w hw 111 rfl)) (mvT hZ (own_w hw 110 rfl)) (by decide) (backOf (W := 0) (rmMeets0 l Z a0 hw [] b10 b4 r_1 q2 T11.heap n0 (Nat.le_trans Z0 K11.1) ((((A4.ext E5).keep Kc9).ext E10).keep Kc11) r11_1 r11_0 ((r9_0.ext E10).keep Kc11 (ninS (Nat.ne_of_lt (Nat.lt_of_lt_of_le (Nat.lt_of_lt_of_le (Nat.lt_of_lt_of_le A4.lt E5.1) Kc9.1) (Nat.le_of_eq g10.symm))) nin0)) hc123_18) hZ (own_w hw 112 rfl) (own_w hw 99 rfl) (by decide) (by decide)) q19a q19c (g := (mkF m 135 #[.val (.long q1), .second, .val (.long q2), .second, .val (.long q3), .second, .val (.long q4), .second, .val (.int p5), .val (.long r_1), .second, .val (.long q2), .second, .val (.int y3), .val (.ref b4), .val (.ref b10), .val (.int (0 : Int32))] [(.ref b10)])) rfl (by rw [hml]; rfl) (Steps.refl _) (argsL := []) (rest := []) (lenOf pd_3 rfl) rfl (by show 2 * 0 + _ ≤ _; exact Nat.le_of_eq rfl) (hb hby at_135) (fun _ _ => ⟨rfl, rfl, (by decide : 12 + 0 ≤ _), (by decide : 136 + 0 ≤ _)⟩)
          dsimp only [Pt.U, Pt.locs, Pt.cells, Pt.slots] at X19 l19 y19 z19 st19 hQ19
          subst l19 y19 z19
          obtain ⟨rfl, N19q, eh19⟩ := hQ19
          have N19 := Fr.app N11 N19q
          refine own_via st19 ?_
          refine own_go (A := T19.setTop (mkF m 148 #[.val (.long q1), .second, .val (.long q2), .second, .val (.long q3), .second, .val (.long q4), .second, .val (.int p5), .val (.long r_1), .second, .val (.long q2), .second, .val (.int y3), .val (.ref b4), .val (.ref b10), .val (.int (0 : Int32))] [(.int (1 : Int32))])) (fun t_ k_ => ?_) ?_
          · show Steps p.tables e below (T19.setTop (mkF m 138 #[.val (.long q1), .second, .val (.long q2), .second, .val (.long q3), .second, .val (.long q4), .second, .val (.int p5), .val (.long r_1), .second, .val (.long q2), .second, .val (.int y3), .val (.ref b4), .val (.ref b10), .val (.int (0 : Int32))] [(.int (0 : Int32))])) t_
            refine XS.iload X19.here hx rfl (hb hby at_138) rfl ?_
            show Steps p.tables e below (T19.setTop (mkF m 140 #[.val (.long q1), .second, .val (.long q2), .second, .val (.long q3), .second, .val (.long q4), .second, .val (.int p5), .val (.long r_1), .second, .val (.long q2), .second, .val (.int y3), .val (.ref b4), .val (.ref b10), .val (.int (0 : Int32))] [(.int (0 : Int32)), (.int (0 : Int32))])) t_
            refine XS.icmpNo X19.here hx rfl (hb hby at_140) rfl (teq (by decide : (0 : Int32) = (0 : Int32))).2 ?_
            show Steps p.tables e below (T19.setTop (mkF m 143 #[.val (.long q1), .second, .val (.long q2), .second, .val (.long q3), .second, .val (.long q4), .second, .val (.int p5), .val (.long r_1), .second, .val (.long q2), .second, .val (.int y3), .val (.ref b4), .val (.ref b10), .val (.int (0 : Int32))] [])) t_
            refine XS.iconst X19.here hx rfl (hb hby at_143) ?_
            show Steps p.tables e below (T19.setTop (mkF m 144 #[.val (.long q1), .second, .val (.long q2), .second, .val (.long q3), .second, .val (.long q4), .second, .val (.int p5), .val (.long r_1), .second, .val (.long q2), .second, .val (.int y3), .val (.ref b4), .val (.ref b10), .val (.int (0 : Int32))] [(.int (1 : Int32))])) t_
            refine XS.goto X19.here hx rfl (pc0 := 144) (pc' := 148) rfl (hb hby at_144) (by decide) (by decide) ?_
            exact k_
          obtain ⟨fs20, hr20, hrun20, hended20, hRW20⟩ := X19.leaveW hS (by rw [eh19]; exact hk) (v := some (.int (1 : Int32))) (fun h => by rw [Bd.returns] at h; cases h)
          refine ⟨_, _, ?_, hrun20, hended20, _, _, rfl, ?_, hRW20.1, hRW20.2.1, hRW20.2.2.1, hRW20.2.2.2.mono (by decide) (by decide)⟩
          · exact retN X19 hx (t := .boolean) Bd.returns (by simp) (hb hby at_148) hr20
          · show Q_rm0 Z q1 q2 q3 q4 p5 cs sf h0 n0 _ T19.heap _
            rw [eh19]
            exact ⟨rfl, N19, K11⟩
        · refine own_go (A := T11.setTop (mkF m 135 #[.val (.long q1), .second, .val (.long q2), .second, .val (.long q3), .second, .val (.long q4), .second, .val (.int p5), .val (.long r_1), .second, .val (.long q2), .second, .val (.int y3), .val (.ref b4), .val (.ref b10), .val (.int (1 : Int32))] [(.ref b10)])) (fun t_ k_ => ?_) ?_
          · show Steps p.tables e below (T11.setTop (mkF m 123 #[.val (.long q1), .second, .val (.long q2), .second, .val (.long q3), .second, .val (.long q4), .second, .val (.int p5), .val (.long r_1), .second, .val (.long q2), .second, .val (.int y3), .val (.ref b4), .val (.ref b10), .unset] [(.int (lcmpW r_1 q2))])) t_
            refine XS.ifNo X11.here hx rfl (hb hby at_123) rfl ((if0 _ _).trans (flt (fun q => hc123_18 ((lw_lt _ _).mp q))).1) ?_
            show Steps p.tables e below (T11.setTop (mkF m 126 #[.val (.long q1), .second, .val (.long q2), .second, .val (.long q3), .second, .val (.long q4), .second, .val (.int p5), .val (.long r_1), .second, .val (.long q2), .second, .val (.int y3), .val (.ref b4), .val (.ref b10), .unset] [])) t_
            refine XS.iconst X11.here hx rfl (hb hby at_126) ?_
            show Steps p.tables e below (T11.setTop (mkF m 127 #[.val (.long q1), .second, .val (.long q2), .second, .val (.long q3), .second, .val (.long q4), .second, .val (.int p5), .val (.long r_1), .second, .val (.long q2), .second, .val (.int y3), .val (.ref b4), .val (.ref b10), .unset] [(.int (1 : Int32))])) t_
            refine XS.goto X11.here hx rfl (pc0 := 127) (pc' := 131) rfl (hb hby at_127) (by decide) (by decide) ?_
            show Steps p.tables e below (T11.setTop (mkF m 131 #[.val (.long q1), .second, .val (.long q2), .second, .val (.long q3), .second, .val (.long q4), .second, .val (.int p5), .val (.long r_1), .second, .val (.long q2), .second, .val (.int y3), .val (.ref b4), .val (.ref b10), .unset] [(.int (1 : Int32))])) t_
            refine XS.istore X11.here hx rfl (hb hby at_131) rfl (l' := #[.val (.long q1), .second, .val (.long q2), .second, .val (.long q3), .second, .val (.long q4), .second, .val (.int p5), .val (.long r_1), .second, .val (.long q2), .second, .val (.int y3), .val (.ref b4), .val (.ref b10), .val (.int (1 : Int32))]) rfl ?_
            show Steps p.tables e below (T11.setTop (mkF m 133 #[.val (.long q1), .second, .val (.long q2), .second, .val (.long q3), .second, .val (.long q4), .second, .val (.int p5), .val (.long r_1), .second, .val (.long q2), .second, .val (.int y3), .val (.ref b4), .val (.ref b10), .val (.int (1 : Int32))] [])) t_
            refine XS.aload X11.here hx rfl (hb hby at_133) rfl rfl ?_
            exact k_
          obtain ⟨cq21, kq21, q21a, q21b, q21c⟩ := isOf hZ rfl (A10.keep Kc11)
          obtain ⟨_, _, ⟨T21, L21, k21, n21⟩, -, X21, ⟨Lc21, hQ21, l21, y21, z21⟩, st21⟩ := X11.virtualBack hx (y := own_y16) (z := own_y16) hown (mvT hZ (own_w hw 108 rfl)) (mvT hZ (own_w hw 109 rfl)) (notFace_of_selects (args := #[]) (mvT hZ (own_w hw 111 rfl))) (mvT hZ (own_w hw 111 rfl)) (mvT hZ (own_w hw 110 rfl)) (by decide) (backOf (W := 0) (rmMeets1 l Z a0 hw [] b10 b4 r_1 q2 T11.heap n0 (Nat.le_trans Z0 K11.1) ((((A4.ext E5).keep Kc9).ext E10).keep Kc11) r11_1 r11_0 ((r9_0.ext E10).keep Kc11 (ninS (Nat.ne_of_lt (Nat.lt_of_lt_of_le (Nat.lt_of_lt_of_le (Nat.lt_of_lt_of_le A4.lt E5.1) Kc9.1) (Nat.le_of_eq g10.symm))) nin0)) hc123_18) hZ (own_w hw 112 rfl) (own_w hw 99 rfl) (by decide) (by decide)) q21a q21c (g := (mkF m 135 #[.val (.long q1), .second, .val (.long q2), .second, .val (.long q3), .second, .val (.long q4), .second, .val (.int p5), .val (.long r_1), .second, .val (.long q2), .second, .val (.int y3), .val (.ref b4), .val (.ref b10), .val (.int (1 : Int32))] [(.ref b10)])) rfl (by rw [hml]; rfl) (Steps.refl _) (argsL := []) (rest := []) (lenOf pd_3 rfl) rfl (by show 2 * 0 + _ ≤ _; exact Nat.le_of_eq rfl) (hb hby at_135) (fun _ _ => ⟨rfl, rfl, (by decide : 12 + 0 ≤ _), (by decide : 136 + 0 ≤ _)⟩)
          dsimp only [Pt.U, Pt.locs, Pt.cells, Pt.slots] at X21 l21 y21 z21 st21 hQ21
          subst l21 y21 z21
          obtain ⟨rfl, N21q, eh21⟩ := hQ21
          have N21 := Fr.app N11 N21q
          refine own_via st21 ?_
          refine own_go (A := T21.setTop (mkF m 148 #[.val (.long q1), .second, .val (.long q2), .second, .val (.long q3), .second, .val (.long q4), .second, .val (.int p5), .val (.long r_1), .second, .val (.long q2), .second, .val (.int y3), .val (.ref b4), .val (.ref b10), .val (.int (1 : Int32))] [(.int (1 : Int32))])) (fun t_ k_ => ?_) ?_
          · show Steps p.tables e below (T21.setTop (mkF m 138 #[.val (.long q1), .second, .val (.long q2), .second, .val (.long q3), .second, .val (.long q4), .second, .val (.int p5), .val (.long r_1), .second, .val (.long q2), .second, .val (.int y3), .val (.ref b4), .val (.ref b10), .val (.int (1 : Int32))] [(.int (1 : Int32))])) t_
            refine XS.iload X21.here hx rfl (hb hby at_138) rfl ?_
            show Steps p.tables e below (T21.setTop (mkF m 140 #[.val (.long q1), .second, .val (.long q2), .second, .val (.long q3), .second, .val (.long q4), .second, .val (.int p5), .val (.long r_1), .second, .val (.long q2), .second, .val (.int y3), .val (.ref b4), .val (.ref b10), .val (.int (1 : Int32))] [(.int (1 : Int32)), (.int (1 : Int32))])) t_
            refine XS.icmpNo X21.here hx rfl (hb hby at_140) rfl (teq (by decide : (1 : Int32) = (1 : Int32))).2 ?_
            show Steps p.tables e below (T21.setTop (mkF m 143 #[.val (.long q1), .second, .val (.long q2), .second, .val (.long q3), .second, .val (.long q4), .second, .val (.int p5), .val (.long r_1), .second, .val (.long q2), .second, .val (.int y3), .val (.ref b4), .val (.ref b10), .val (.int (1 : Int32))] [])) t_
            refine XS.iconst X21.here hx rfl (hb hby at_143) ?_
            show Steps p.tables e below (T21.setTop (mkF m 144 #[.val (.long q1), .second, .val (.long q2), .second, .val (.long q3), .second, .val (.long q4), .second, .val (.int p5), .val (.long r_1), .second, .val (.long q2), .second, .val (.int y3), .val (.ref b4), .val (.ref b10), .val (.int (1 : Int32))] [(.int (1 : Int32))])) t_
            refine XS.goto X21.here hx rfl (pc0 := 144) (pc' := 148) rfl (hb hby at_144) (by decide) (by decide) ?_
            exact k_
          obtain ⟨fs22, hr22, hrun22, hended22, hRW22⟩ := X21.leaveW hS (by rw [eh21]; exact hk) (v := some (.int (1 : Int32))) (fun h => by rw [Bd.returns] at h; cases h)
          refine ⟨_, _, ?_, hrun22, hended22, _, _, rfl, ?_, hRW22.1, hRW22.2.1, hRW22.2.2.1, hRW22.2.2.2.mono (by decide) (by decide)⟩
          · exact retN X21 hx (t := .boolean) Bd.returns (by simp) (hb hby at_148) hr22
          · show Q_rm0 Z q1 q2 q3 q4 p5 cs sf h0 n0 _ T21.heap _
            rw [eh21]
            exact ⟨rfl, N21, K11⟩
  · refine own_go (A := T1.setTop (mkF m 33 #[.val (.long q1), .second, .val (.long q2), .second, .val (.long q3), .second, .val (.long q4), .second, .val (.int p5), .val (.long r_1), .second, .val (.long (r_1 + (((((p5).toUInt32 >>> ((1 : Int32) &&& 31).toUInt32).toInt32 &&& (3 : Int32)) - (1 : Int32))).toInt64)), .second, .unset, .unset, .unset, .unset] [])) (fun t_ k_ => ?_) ?_
    · show Steps p.tables e below (T1.setTop (mkF m 10 #[.val (.long q1), .second, .val (.long q2), .second, .val (.long q3), .second, .val (.long q4), .second, .val (.int p5), .val (.long r_1), .second, .unset, .unset, .unset, .unset, .unset, .unset] [(.int (p5 &&& (1 : Int32)))])) t_
      refine XS.ifNo X1.here hx rfl (hb hby at_10) rfl ((if0 _ _).trans (feq hc10_2).1) ?_
      show Steps p.tables e below (T1.setTop (mkF m 13 #[.val (.long q1), .second, .val (.long q2), .second, .val (.long q3), .second, .val (.long q4), .second, .val (.int p5), .val (.long r_1), .second, .unset, .unset, .unset, .unset, .unset, .unset] [])) t_
      refine XS.lload X1.here hx rfl (hb hby at_13) rfl ?_
      show Steps p.tables e below (T1.setTop (mkF m 15 #[.val (.long q1), .second, .val (.long q2), .second, .val (.long q3), .second, .val (.long q4), .second, .val (.int p5), .val (.long r_1), .second, .unset, .unset, .unset, .unset, .unset, .unset] [(.long r_1)])) t_
      refine XS.iload X1.here hx rfl (hb hby at_15) rfl ?_
      show Steps p.tables e below (T1.setTop (mkF m 17 #[.val (.long q1), .second, .val (.long q2), .second, .val (.long q3), .second, .val (.long q4), .second, .val (.int p5), .val (.long r_1), .second, .unset, .unset, .unset, .unset, .unset, .unset] [(.int p5), (.long r_1)])) t_
      refine XS.iconst X1.here hx rfl (hb hby at_17) ?_
      show Steps p.tables e below (T1.setTop (mkF m 18 #[.val (.long q1), .second, .val (.long q2), .second, .val (.long q3), .second, .val (.long q4), .second, .val (.int p5), .val (.long r_1), .second, .unset, .unset, .unset, .unset, .unset, .unset] [(.int (1 : Int32)), (.int p5), (.long r_1)])) t_
      refine XS.iushr X1.here hx rfl (hb hby at_18) rfl ?_
      show Steps p.tables e below (T1.setTop (mkF m 19 #[.val (.long q1), .second, .val (.long q2), .second, .val (.long q3), .second, .val (.long q4), .second, .val (.int p5), .val (.long r_1), .second, .unset, .unset, .unset, .unset, .unset, .unset] [(.int ((p5).toUInt32 >>> ((1 : Int32) &&& 31).toUInt32).toInt32), (.long r_1)])) t_
      refine XS.iconst X1.here hx rfl (hb hby at_19) ?_
      show Steps p.tables e below (T1.setTop (mkF m 20 #[.val (.long q1), .second, .val (.long q2), .second, .val (.long q3), .second, .val (.long q4), .second, .val (.int p5), .val (.long r_1), .second, .unset, .unset, .unset, .unset, .unset, .unset] [(.int (3 : Int32)), (.int ((p5).toUInt32 >>> ((1 : Int32) &&& 31).toUInt32).toInt32), (.long r_1)])) t_
      refine XS.iand X1.here hx rfl (hb hby at_20) rfl ?_
      show Steps p.tables e below (T1.setTop (mkF m 21 #[.val (.long q1), .second, .val (.long q2), .second, .val (.long q3), .second, .val (.long q4), .second, .val (.int p5), .val (.long r_1), .second, .unset, .unset, .unset, .unset, .unset, .unset] [(.int (((p5).toUInt32 >>> ((1 : Int32) &&& 31).toUInt32).toInt32 &&& (3 : Int32))), (.long r_1)])) t_
      refine XS.iconst X1.here hx rfl (hb hby at_21) ?_
      show Steps p.tables e below (T1.setTop (mkF m 22 #[.val (.long q1), .second, .val (.long q2), .second, .val (.long q3), .second, .val (.long q4), .second, .val (.int p5), .val (.long r_1), .second, .unset, .unset, .unset, .unset, .unset, .unset] [(.int (1 : Int32)), (.int (((p5).toUInt32 >>> ((1 : Int32) &&& 31).toUInt32).toInt32 &&& (3 : Int32))), (.long r_1)])) t_
      refine XS.isub X1.here hx rfl (hb hby at_22) rfl ?_
      show Steps p.tables e below (T1.setTop (mkF m 23 #[.val (.long q1), .second, .val (.long q2), .second, .val (.long q3), .second, .val (.long q4), .second, .val (.int p5), .val (.long r_1), .second, .unset, .unset, .unset, .unset, .unset, .unset] [(.int ((((p5).toUInt32 >>> ((1 : Int32) &&& 31).toUInt32).toInt32 &&& (3 : Int32)) - (1 : Int32))), (.long r_1)])) t_
      refine XS.i2l X1.here hx rfl (hb hby at_23) rfl ?_
      show Steps p.tables e below (T1.setTop (mkF m 24 #[.val (.long q1), .second, .val (.long q2), .second, .val (.long q3), .second, .val (.long q4), .second, .val (.int p5), .val (.long r_1), .second, .unset, .unset, .unset, .unset, .unset, .unset] [(.long (((((p5).toUInt32 >>> ((1 : Int32) &&& 31).toUInt32).toInt32 &&& (3 : Int32)) - (1 : Int32))).toInt64), (.long r_1)])) t_
      refine XS.ladd X1.here hx rfl (hb hby at_24) rfl ?_
      show Steps p.tables e below (T1.setTop (mkF m 25 #[.val (.long q1), .second, .val (.long q2), .second, .val (.long q3), .second, .val (.long q4), .second, .val (.int p5), .val (.long r_1), .second, .unset, .unset, .unset, .unset, .unset, .unset] [(.long (r_1 + (((((p5).toUInt32 >>> ((1 : Int32) &&& 31).toUInt32).toInt32 &&& (3 : Int32)) - (1 : Int32))).toInt64))])) t_
      refine XS.lstore X1.here hx rfl (hb hby at_25) rfl (l' := #[.val (.long q1), .second, .val (.long q2), .second, .val (.long q3), .second, .val (.long q4), .second, .val (.int p5), .val (.long r_1), .second, .val (.long (r_1 + (((((p5).toUInt32 >>> ((1 : Int32) &&& 31).toUInt32).toInt32 &&& (3 : Int32)) - (1 : Int32))).toInt64)), .second, .unset, .unset, .unset, .unset]) rfl ?_
      show Steps p.tables e below (T1.setTop (mkF m 27 #[.val (.long q1), .second, .val (.long q2), .second, .val (.long q3), .second, .val (.long q4), .second, .val (.int p5), .val (.long r_1), .second, .val (.long (r_1 + (((((p5).toUInt32 >>> ((1 : Int32) &&& 31).toUInt32).toInt32 &&& (3 : Int32)) - (1 : Int32))).toInt64)), .second, .unset, .unset, .unset, .unset] [])) t_
      refine XS.goto X1.here hx rfl (pc0 := 27) (pc' := 33) rfl (hb hby at_27) (by decide) (by decide) ?_
      exact k_
    obtain ⟨y23, hqy23⟩ : ∃ z : Int64, z = (r_1 + (((((p5).toUInt32 >>> ((1 : Int32) &&& 31).toUInt32).toInt32 &&& (3 : Int32)) - (1 : Int32))).toInt64) := ⟨_, rfl⟩
    rw [← hqy23]
    refine own_go (A := T1.setTop (mkF m 43 #[.val (.long q1), .second, .val (.long q2), .second, .val (.long q3), .second, .val (.long q4), .second, .val (.int p5), .val (.long r_1), .second, .val (.long y23), .second, .unset, .unset, .unset, .unset] [(.int ((((p5).toUInt32 >>> ((3 : Int32) &&& 31).toUInt32).toInt32 &&& (2147483647 : Int32)) % (1000000001 : Int32)))])) (fun t_ k_ => ?_) ?_
    · show Steps p.tables e below (T1.setTop (mkF m 33 #[.val (.long q1), .second, .val (.long q2), .second, .val (.long q3), .second, .val (.long q4), .second, .val (.int p5), .val (.long r_1), .second, .val (.long y23), .second, .unset, .unset, .unset, .unset] [])) t_
      refine XS.iload X1.here hx rfl (hb hby at_33) rfl ?_
      show Steps p.tables e below (T1.setTop (mkF m 35 #[.val (.long q1), .second, .val (.long q2), .second, .val (.long q3), .second, .val (.long q4), .second, .val (.int p5), .val (.long r_1), .second, .val (.long y23), .second, .unset, .unset, .unset, .unset] [(.int p5)])) t_
      refine XS.iconst X1.here hx rfl (hb hby at_35) ?_
      show Steps p.tables e below (T1.setTop (mkF m 36 #[.val (.long q1), .second, .val (.long q2), .second, .val (.long q3), .second, .val (.long q4), .second, .val (.int p5), .val (.long r_1), .second, .val (.long y23), .second, .unset, .unset, .unset, .unset] [(.int (3 : Int32)), (.int p5)])) t_
      refine XS.iushr X1.here hx rfl (hb hby at_36) rfl ?_
      show Steps p.tables e below (T1.setTop (mkF m 37 #[.val (.long q1), .second, .val (.long q2), .second, .val (.long q3), .second, .val (.long q4), .second, .val (.int p5), .val (.long r_1), .second, .val (.long y23), .second, .unset, .unset, .unset, .unset] [(.int ((p5).toUInt32 >>> ((3 : Int32) &&& 31).toUInt32).toInt32)])) t_
      refine Jvm.Stand.ldcI X1 hx hown (mvT hZ (own_w hw 6 rfl)) (g := (mkF m 37 #[.val (.long q1), .second, .val (.long q2), .second, .val (.long q3), .second, .val (.long q4), .second, .val (.int p5), .val (.long r_1), .second, .val (.long y23), .second, .unset, .unset, .unset, .unset] [(.int ((p5).toUInt32 >>> ((3 : Int32) &&& 31).toUInt32).toInt32)])) rfl (hb hby at_37) ?_
      show Steps p.tables e below (T1.setTop (mkF m 39 #[.val (.long q1), .second, .val (.long q2), .second, .val (.long q3), .second, .val (.long q4), .second, .val (.int p5), .val (.long r_1), .second, .val (.long y23), .second, .unset, .unset, .unset, .unset] [(.int (2147483647 : Int32)), (.int ((p5).toUInt32 >>> ((3 : Int32) &&& 31).toUInt32).toInt32)])) t_
      refine XS.iand X1.here hx rfl (hb hby at_39) rfl ?_
      show Steps p.tables e below (T1.setTop (mkF m 40 #[.val (.long q1), .second, .val (.long q2), .second, .val (.long q3), .second, .val (.long q4), .second, .val (.int p5), .val (.long r_1), .second, .val (.long y23), .second, .unset, .unset, .unset, .unset] [(.int (((p5).toUInt32 >>> ((3 : Int32) &&& 31).toUInt32).toInt32 &&& (2147483647 : Int32)))])) t_
      refine Jvm.Stand.ldcI X1 hx hown (mvT hZ (own_w hw 7 rfl)) (g := (mkF m 40 #[.val (.long q1), .second, .val (.long q2), .second, .val (.long q3), .second, .val (.long q4), .second, .val (.int p5), .val (.long r_1), .second, .val (.long y23), .second, .unset, .unset, .unset, .unset] [(.int (((p5).toUInt32 >>> ((3 : Int32) &&& 31).toUInt32).toInt32 &&& (2147483647 : Int32)))])) rfl (hb hby at_40) ?_
      show Steps p.tables e below (T1.setTop (mkF m 42 #[.val (.long q1), .second, .val (.long q2), .second, .val (.long q3), .second, .val (.long q4), .second, .val (.int p5), .val (.long r_1), .second, .val (.long y23), .second, .unset, .unset, .unset, .unset] [(.int (1000000001 : Int32)), (.int (((p5).toUInt32 >>> ((3 : Int32) &&& 31).toUInt32).toInt32 &&& (2147483647 : Int32)))])) t_
      refine iremM (g := (mkF m 42 #[.val (.long q1), .second, .val (.long q2), .second, .val (.long q3), .second, .val (.long q4), .second, .val (.int p5), .val (.long r_1), .second, .val (.long y23), .second, .unset, .unset, .unset, .unset] [(.int (1000000001 : Int32)), (.int (((p5).toUInt32 >>> ((3 : Int32) &&& 31).toUInt32).toInt32 &&& (2147483647 : Int32)))])) X1 hx rfl (hb hby at_42) rfl (by decide : ¬ ((1000000001 : Int32) = (0 : Int32))) ?_
      exact k_
    obtain ⟨y24, hqy24⟩ : ∃ z : Int32, z = ((((p5).toUInt32 >>> ((3 : Int32) &&& 31).toUInt32).toInt32 &&& (2147483647 : Int32)) % (1000000001 : Int32)) := ⟨_, rfl⟩
    rw [← hqy24]
    have hpy24 : 0 ≤ y24.toInt ∧ y24.toInt ≤ 1000000000 := by rw [hqy24]; exact own_pr5 p5
    refine own_go (A := T1.setTop (mkF m 45 #[.val (.long q1), .second, .val (.long q2), .second, .val (.long q3), .second, .val (.long q4), .second, .val (.int p5), .val (.long r_1), .second, .val (.long y23), .second, .val (.int y24), .unset, .unset, .unset] [])) (fun t_ k_ => ?_) ?_
    · show Steps p.tables e below (T1.setTop (mkF m 43 #[.val (.long q1), .second, .val (.long q2), .second, .val (.long q3), .second, .val (.long q4), .second, .val (.int p5), .val (.long r_1), .second, .val (.long y23), .second, .unset, .unset, .unset, .unset] [(.int y24)])) t_
      refine XS.istore X1.here hx rfl (hb hby at_43) rfl (l' := #[.val (.long q1), .second, .val (.long q2), .second, .val (.long q3), .second, .val (.long q4), .second, .val (.int p5), .val (.long r_1), .second, .val (.long y23), .second, .val (.int y24), .unset, .unset, .unset]) rfl ?_
      exact k_
    obtain ⟨T25, h25, X25, e25, E25, A25, D25, -, st25⟩ := newO X1 hx hZ hown (own_w hw 8 rfl) (own_w hw 9 rfl) (own_w hw 10 rfl) eh1 (g := (mkF m 45 #[.val (.long q1), .second, .val (.long q2), .second, .val (.long q3), .second, .val (.long q4), .second, .val (.int p5), .val (.long r_1), .second, .val (.long y23), .second, .val (.int y24), .unset, .unset, .unset] [])) rfl (hb hby at_45) (by decide) (by decide)
    obtain ⟨b25, g25⟩ : ∃ z, z = h0.size := ⟨_, rfl⟩
    rw [← g25] at A25 D25 st25
    refine own_go st25 ?_
    have K25 : Keep h0 h25 [] := (Keep.refl h0 []).ext E25
    have hk := Nat.le_trans hk E25.1
    have O25 := O0.ext E25
    have F25_name : Fld Z h25 b25 "com/example/firmline/firmline/model/Task" "name" "Ljava/lang/String;" .null := D25 (Or.inr (own_w hw 86 rfl)) (ty := (.object "java/lang/String")) (by decide)
    have F25_period : Fld Z h25 b25 "com/example/firmline/firmline/model/Task" "period" "J" (.long (0 : Int64)) := D25 (Or.inr (own_w hw 88 rfl)) (ty := .long) (by decide)
    have F25_deadline : Fld Z h25 b25 "com/example/firmline/firmline/model/Task" "deadline" "J" (.long (0 : Int64)) := D25 (Or.inr (own_w hw 90 rfl)) (ty := .long) (by decide)
    have F25_cost : Fld Z h25 b25 "com/example/firmline/firmline/model/Task" "cost" "J" (.long (0 : Int64)) := D25 (Or.inr (own_w hw 92 rfl)) (ty := .long) (by decide)
    have F25_priority : Fld Z h25 b25 "com/example/firmline/firmline/model/Task" "priority" "I" (.int (0 : Int32)) := D25 (Or.inr (own_w hw 94 rfl)) (ty := .int) (by decide)
    have F25_recovery : Fld Z h25 b25 "com/example/firmline/firmline/model/Task" "recovery" "J" (.long (0 : Int64)) := D25 (Or.inr (own_w hw 96 rfl)) (ty := .long) (by decide)
    refine own_go (A := T25.setTop (mkF m 49 #[.val (.long q1), .second, .val (.long q2), .second, .val (.long q3), .second, .val (.long q4), .second, .val (.int p5), .val (.long r_1), .second, .val (.long y23), .second, .val (.int y24), .unset, .unset, .unset] [(.ref b25), (.ref b25)])) (fun t_ k_ => ?_) ?_
    · show Steps p.tables e below (T25.setTop (mkF m 48 #[.val (.long q1), .second, .val (.long q2), .second, .val (.long q3), .second, .val (.long q4), .second, .val (.int p5), .val (.long r_1), .second, .val (.long y23), .second, .val (.int y24), .unset, .unset, .unset] [(.ref b25)])) t_
      refine XS.dup X25.here hx rfl (hb hby at_48) rfl rfl ?_
      exact k_
    obtain ⟨b26, T26, h26, k26, d26, kk26, X26, e26, E26, hS, hk, hZ, hown, Ea26, Fc26, Fv26, Av26, la26, lb26, IB26, st26⟩ := ldcSV X25 hx hZ hown (own_w hw 11 rfl) hSA e25 hS hk (by rw [hh, ← hn0]; exact N1) (Ts := []) (fun b cl q => by rw [hh]; exact O0.2.2 b cl q) (by rw [hvm]; exact IB.start) (by simp) hlit hcw (vs := [(.int (116 : Int32))]) (z := (1 : Int32)) (by decide +kernel) (by decide) (by decide +kernel) (g := (mkF m 49 #[.val (.long q1), .second, .val (.long q2), .second, .val (.long q3), .second, .val (.long q4), .second, .val (.int p5), .val (.long r_1), .second, .val (.long y23), .second, .val (.int y24), .unset, .unset, .unset] [(.ref b25), (.ref b25)])) rfl (hb hby at_49) (n := 4) (by decide) (by decide) (by decide) (by decide)
    refine own_go st26 ?_
    have K26 : Keep h0 h26 [] := K25.ext E26
    have O26 := O25.ext E26
    refine own_go (A := T26.setTop (mkF m 53 #[.val (.long q1), .second, .val (.long q2), .second, .val (.long q3), .second, .val (.long q4), .second, .val (.int p5), .val (.long r_1), .second, .val (.long y23), .second, .val (.int y24), .unset, .unset, .unset] [(.long q3), (.ref b26), (.ref b25), (.ref b25)])) (fun t_ k_ => ?_) ?_
    · show Steps p.tables e below (T26.setTop (mkF m 51 #[.val (.long q1), .second, .val (.long q2), .second, .val (.long q3), .second, .val (.long q4), .second, .val (.int p5), .val (.long r_1), .second, .val (.long y23), .second, .val (.int y24), .unset, .unset, .unset] [(.ref b26), (.ref b25), (.ref b25)])) t_
      refine XS.lload X26.here hx rfl (hb hby at_51) rfl ?_
      exact k_
    obtain ⟨_, _, ⟨T27, L27, k27, n27⟩, -, X27, ⟨Lc27, hQ27, l27, y27, z27⟩, st27⟩ := Jvm.LawKit.callS X26 hx (y := own_y9) hown (mvT hZ (own_w hw 0 rfl)) (mvT hZ (own_w hw 1 rfl)) (mvT hZ (own_w hw 2 rfl)) (mvT hZ (own_w hw 3 rfl)) (by decide) (backOf (W := 3) (rmTime l Z a0 hw [] q3 h26 n0 (Nat.le_trans Z0 K26.1)) hZ (own_w hw 3 rfl) (own_w hw 2 rfl) (by decide) (by decide)) (g := (mkF m 53 #[.val (.long q1), .second, .val (.long q2), .second, .val (.long q3), .second, .val (.long q4), .second, .val (.int p5), .val (.long r_1), .second, .val (.long y23), .second, .val (.int y24), .unset, .unset, .unset] [(.long q3), (.ref b26), (.ref b25), (.ref b25)])) rfl (by rw [hml]; rfl) (argsL := [(.long q3)]) (rest := [(.ref b26), (.ref b25), (.ref b25)]) (lenOf pd_12 rfl) rfl (by show 2 * 0 + _ ≤ _; exact Nat.le_of_eq rfl) (hb hby at_53) (fun _ _ => ⟨rfl, e26, (by decide : 3 + 0 ≤ _), (by decide : 14 + 0 ≤ _)⟩)
    dsimp only [Pt.U, Pt.locs, Pt.cells, Pt.slots] at X27 l27 y27 z27 st27 hQ27
    subst l27 y27 z27
    obtain ⟨r_27, rfl, N27q, eh27, w27_0⟩ := hQ27
    have N27 := Fr.app N1 N27q
    refine own_go st27 ?_
    refine own_go (A := T27.setTop (mkF m 60 #[.val (.long q1), .second, .val (.long q2), .second, .val (.long q3), .second, .val (.long q4), .second, .val (.int p5), .val (.long r_1), .second, .val (.long y23), .second, .val (.int y24), .unset, .unset, .unset] [(.long q4), (.long r_1), (.long r_27), (.ref b26), (.ref b25), (.ref b25)])) (fun t_ k_ => ?_) ?_
    · show Steps p.tables e below (T27.setTop (mkF m 56 #[.val (.long q1), .second, .val (.long q2), .second, .val (.long q3), .second, .val (.long q4), .second, .val (.int p5), .val (.long r_1), .second, .val (.long y23), .second, .val (.int y24), .unset, .unset, .unset] [(.long r_27), (.ref b26), (.ref b25), (.ref b25)])) t_
      refine XS.lload X27.here hx rfl (hb hby at_56) rfl ?_
      show Steps p.tables e below (T27.setTop (mkF m 58 #[.val (.long q1), .second, .val (.long q2), .second, .val (.long q3), .second, .val (.long q4), .second, .val (.int p5), .val (.long r_1), .second, .val (.long y23), .second, .val (.int y24), .unset, .unset, .unset] [(.long r_1), (.long r_27), (.ref b26), (.ref b25), (.ref b25)])) t_
      refine XS.lload X27.here hx rfl (hb hby at_58) rfl ?_
      exact k_
    obtain ⟨_, _, ⟨T28, L28, k28, n28⟩, -, X28, ⟨Lc28, hQ28, l28, y28, z28⟩, st28⟩ := Jvm.LawKit.callS X27 hx (y := own_y9) hown (mvT hZ (own_w hw 0 rfl)) (mvT hZ (own_w hw 1 rfl)) (mvT hZ (own_w hw 2 rfl)) (mvT hZ (own_w hw 3 rfl)) (by decide) (backOf (W := 7) (rmTime l Z a0 hw [] q4 h26 n0 (Nat.le_trans Z0 K26.1)) hZ (own_w hw 3 rfl) (own_w hw 2 rfl) (by decide) (by decide)) (g := (mkF m 60 #[.val (.long q1), .second, .val (.long q2), .second, .val (.long q3), .second, .val (.long q4), .second, .val (.int p5), .val (.long r_1), .second, .val (.long y23), .second, .val (.int y24), .unset, .unset, .unset] [(.long q4), (.long r_1), (.long r_27), (.ref b26), (.ref b25), (.ref b25)])) rfl (by rw [hml]; rfl) (argsL := [(.long q4)]) (rest := [(.long r_1), (.long r_27), (.ref b26), (.ref b25), (.ref b25)]) (lenOf pd_12 rfl) rfl (by show 2 * 0 + _ ≤ _; exact Nat.le_of_eq rfl) (hb hby at_60) (fun _ _ => ⟨rfl, eh27, (by decide : 3 + 0 ≤ _), (by decide : 14 + 0 ≤ _)⟩)
    dsimp only [Pt.U, Pt.locs, Pt.cells, Pt.slots] at X28 l28 y28 z28 st28 hQ28
    subst l28 y28 z28
    obtain ⟨r_28, rfl, N28q, eh28, w28_0⟩ := hQ28
    have N28 := Fr.app N27 N28q
    refine own_go st28 ?_
    refine own_go (A := T28.setTop (mkF m 69 #[.val (.long q1), .second, .val (.long q2), .second, .val (.long q3), .second, .val (.long q4), .second, .val (.int p5), .val (.long r_1), .second, .val (.long y23), .second, .val (.int y24), .unset, .unset, .unset] [(.long (q1 ^^^ q4)), (.int y24), (.long r_28), (.long r_1), (.long r_27), (.ref b26), (.ref b25), (.ref b25)])) (fun t_ k_ => ?_) ?_
    · show Steps p.tables e below (T28.setTop (mkF m 63 #[.val (.long q1), .second, .val (.long q2), .second, .val (.long q3), .second, .val (.long q4), .second, .val (.int p5), .val (.long r_1), .second, .val (.long y23), .second, .val (.int y24), .unset, .unset, .unset] [(.long r_28), (.long r_1), (.long r_27), (.ref b26), (.ref b25), (.ref b25)])) t_
      refine XS.iload X28.here hx rfl (hb hby at_63) rfl ?_
      show Steps p.tables e below (T28.setTop (mkF m 65 #[.val (.long q1), .second, .val (.long q2), .second, .val (.long q3), .second, .val (.long q4), .second, .val (.int p5), .val (.long r_1), .second, .val (.long y23), .second, .val (.int y24), .unset, .unset, .unset] [(.int y24), (.long r_28), (.long r_1), (.long r_27), (.ref b26), (.ref b25), (.ref b25)])) t_
      refine XS.lloadN X28.here hx rfl (hb hby at_65) rfl ?_
      show Steps p.tables e below (T28.setTop (mkF m 66 #[.val (.long q1), .second, .val (.long q2), .second, .val (.long q3), .second, .val (.long q4), .second, .val (.int p5), .val (.long r_1), .second, .val (.long y23), .second, .val (.int y24), .unset, .unset, .unset] [(.long q1), (.int y24), (.long r_28), (.long r_1), (.long r_27), (.ref b26), (.ref b25), (.ref b25)])) t_
      refine XS.lload X28.here hx rfl (hb hby at_66) rfl ?_
      show Steps p.tables e below (T28.setTop (mkF m 68 #[.val (.long q1), .second, .val (.long q2), .second, .val (.long q3), .second, .val (.long q4), .second, .val (.int p5), .val (.long r_1), .second, .val (.long y23), .second, .val (.int y24), .unset, .unset, .unset] [(.long q4), (.long q1), (.int y24), (.long r_28), (.long r_1), (.long r_27), (.ref b26), (.ref b25), (.ref b25)])) t_
      refine XS.lxor X28.here hx rfl (hb hby at_68) rfl ?_
      exact k_
    obtain ⟨_, _, ⟨T29, L29, k29, n29⟩, -, X29, ⟨Lc29, hQ29, l29, y29, z29⟩, st29⟩ := Jvm.LawKit.callS X28 hx (y := own_y9) hown (mvT hZ (own_w hw 0 rfl)) (mvT hZ (own_w hw 1 rfl)) (mvT hZ (own_w hw 2 rfl)) (mvT hZ (own_w hw 3 rfl)) (by decide) (backOf (W := 10) (rmTime l Z a0 hw [] (q1 ^^^ q4) h26 n0 (Nat.le_trans Z0 K26.1)) hZ (own_w hw 3 rfl) (own_w hw 2 rfl) (by decide) (by decide)) (g := (mkF m 69 #[.val (.long q1), .second, .val (.long q2), .second, .val (.long q3), .second, .val (.long q4), .second, .val (.int p5), .val (.long r_1), .second, .val (.long y23), .second, .val (.int y24), .unset, .unset, .unset] [(.long (q1 ^^^ q4)), (.int y24), (.long r_28), (.long r_1), (.long r_27), (.ref b26), (.ref b25), (.ref b25)])) rfl (by rw [hml]; rfl) (argsL := [(.long (q1 ^^^ q4))]) (rest := [(.int y24), (.long r_28), (.long r_1), (.long r_27), (.ref b26), (.ref b25), (.ref b25)]) (lenOf pd_12 rfl) rfl (by show 2 * 0 + _ ≤ _; exact Nat.le_of_eq rfl) (hb hby at_69) (fun _ _ => ⟨rfl, eh28, (by decide : 3 + 0 ≤ _), (by decide : 14 + 0 ≤ _)⟩)
    dsimp only [Pt.U, Pt.locs, Pt.cells, Pt.slots] at X29 l29 y29 z29 st29 hQ29
    subst l29 y29 z29
    obtain ⟨r_29, rfl, N29q, eh29, w29_0⟩ := hQ29
    have N29 := Fr.app N28 N29q
    refine own_go st29 ?_
    obtain ⟨_, _, ⟨T30, L30, k30, n30⟩, -, X30, hs30, gs30, ⟨Lc30, hQ30, l30, y30, z30⟩, st30⟩ := X29.specialBackS hx (y := own_y13) rfl hown (mvT hZ (own_w hw 19 rfl)) (mvT hZ (own_w hw 20 rfl)) (mvT hZ (own_w hw 21 rfl)) (by decide) (backOfS (W := 1) (rmTask l Z a0 hw [] b25 b26 r_27 r_1 r_28 y24 r_29 d26 kk26 cs sf h26 n0 (Nat.le_trans Z0 K26.1) O26 u1 hcs u3 hsf Ea26 Fc26 Fv26 Av26 (A25.ext E26) (F25_name.ext E26) (F25_period.ext E26) (F25_deadline.ext E26) (F25_cost.ext E26) (F25_priority.ext E26) (F25_recovery.ext E26) (Nat.le_trans Z0 (Nat.le_of_eq g25.symm)) (own_lo w27_0) (own_hi w27_0) (own_lo w1_0) (own_hi w1_0) (own_lo w28_0) (own_hi w28_0) (own_lo w29_0) (own_hi w29_0) (own_p0 hpy24) (own_p1 hpy24)) hZ (own_w hw 21 rfl) (own_w hw 10 rfl) (by decide) (by decide)) (g := (mkF m 72 #[.val (.long q1), .second, .val (.long q2), .second, .val (.long q3), .second, .val (.long q4), .second, .val (.int p5), .val (.long r_1), .second, .val (.long y23), .second, .val (.int y24), .unset, .unset, .unset] [(.long r_29), (.int y24), (.long r_28), (.long r_1), (.long r_27), (.ref b26), (.ref b25), (.ref b25)])) rfl (by rw [hml]; rfl) (Steps.refl _) (a := b25) (argsL := [(.ref b26), (.long r_27), (.long r_1), (.long r_28), (.int y24), (.long r_29)]) (rest := [(.ref b25)]) (lenOf pd_13 rfl) rfl (by show 2 * 0 + _ ≤ _; exact Nat.le_of_eq rfl) (hb hby at_72) (fun _ _ => ⟨rfl, eh29, (by decide : 3 + 8 ≤ _), (by decide : 14 + 120 ≤ _)⟩)
    dsimp only [Pt.U, Pt.locs, Pt.cells, Pt.slots] at X30 l30 y30 z30 st30 hQ30 hs30 gs30
    subst l30 y30 z30
    obtain ⟨X30, hS, hZ, hown⟩ := rebS hS (by rw [eh29]; exact hk) X30 hs30 gs30 hZ hown
    obtain ⟨rfl, N30q, Kc30, r30_0⟩ := hQ30
    have N30 := Fr.app N29 N30q
    refine own_via st30 ?_
    have hk := Nat.le_refl T30.heap.size
    have K30 : Keep h0 T30.heap [] := K26.trans Kc30 (allS (P := fun x => x ∈ _ ∨ _ ≤ x) (Or.inr (Nat.le_of_eq g25.symm)) all0)
    have O30 := O26.keep Kc30 (allS (P := fun x => n0 ≤ x) (Nat.le_trans Z0 (Nat.le_of_eq g25.symm)) all0)
    refine own_go (A := T30.setTop (mkF m 77 #[.val (.long q1), .second, .val (.long q2), .second, .val (.long q3), .second, .val (.long q4), .second, .val (.int p5), .val (.long r_1), .second, .val (.long y23), .second, .val (.int y24), .val (.ref b25), .unset, .unset] [])) (fun t_ k_ => ?_) ?_
    · show Steps p.tables e below (T30.setTop (mkF m 75 #[.val (.long q1), .second, .val (.long q2), .second, .val (.long q3), .second, .val (.long q4), .second, .val (.int p5), .val (.long r_1), .second, .val (.long y23), .second, .val (.int y24), .unset, .unset, .unset] [(.ref b25)])) t_
      refine XS.astore X30.here hx rfl (hb hby at_75) rfl rfl (l' := #[.val (.long q1), .second, .val (.long q2), .second, .val (.long q3), .second, .val (.long q4), .second, .val (.int p5), .val (.long r_1), .second, .val (.long y23), .second, .val (.int y24), .val (.ref b25), .unset, .unset]) rfl ?_
      exact k_
    obtain ⟨T31, h31, X31, e31, E31, A31, D31, -, st31⟩ := newO X30 hx hZ hown (own_w hw 97 rfl) (own_w hw 98 rfl) (own_w hw 99 rfl) rfl (g := (mkF m 77 #[.val (.long q1), .second, .val (.long q2), .second, .val (.long q3), .second, .val (.long q4), .second, .val (.int p5), .val (.long r_1), .second, .val (.long y23), .second, .val (.int y24), .val (.ref b25), .unset, .unset] [])) rfl (hb hby at_77) (by decide) (by decide)
    obtain ⟨b31, g31⟩ : ∃ z, z = T30.heap.size := ⟨_, rfl⟩
    rw [← g31] at A31 D31 st31
    refine own_go st31 ?_
    have K31 : Keep h0 h31 [] := K30.ext E31
    have hk := Nat.le_trans hk E31.1
    have O31 := O30.ext E31
    have F31_task : Fld Z h31 b31 "com/example/firmline/firmline/analysis/FaultResponse" "task" "Lcom/example/firmline/firmline/model/Task;" .null := D31 (Or.inr (own_w hw 105 rfl)) (ty := (.object "com/example/firmline/firmline/model/Task")) (by decide)
    have F31_value : Fld Z h31 b31 "com/example/firmline/firmline/analysis/FaultResponse" "value" "J" (.long (0 : Int64)) := D31 (Or.inr (own_w hw 107 rfl)) (ty := .long) (by decide)
    refine own_go (A := T31.setTop (mkF m 85 #[.val (.long q1), .second, .val (.long q2), .second, .val (.long q3), .second, .val (.long q4), .second, .val (.int p5), .val (.long r_1), .second, .val (.long y23), .second, .val (.int y24), .val (.ref b25), .unset, .unset] [(.long y23), (.ref b25), (.ref b31), (.ref b31)])) (fun t_ k_ => ?_) ?_
    · show Steps p.tables e below (T31.setTop (mkF m 80 #[.val (.long q1), .second, .val (.long q2), .second, .val (.long q3), .second, .val (.long q4), .second, .val (.int p5), .val (.long r_1), .second, .val (.long y23), .second, .val (.int y24), .val (.ref b25), .unset, .unset] [(.ref b31)])) t_
      refine XS.dup X31.here hx rfl (hb hby at_80) rfl rfl ?_
      show Steps p.tables e below (T31.setTop (mkF m 81 #[.val (.long q1), .second, .val (.long q2), .second, .val (.long q3), .second, .val (.long q4), .second, .val (.int p5), .val (.long r_1), .second, .val (.long y23), .second, .val (.int y24), .val (.ref b25), .unset, .unset] [(.ref b31), (.ref b31)])) t_
      refine XS.aload X31.here hx rfl (hb hby at_81) rfl rfl ?_
      show Steps p.tables e below (T31.setTop (mkF m 83 #[.val (.long q1), .second, .val (.long q2), .second, .val (.long q3), .second, .val (.long q4), .second, .val (.int p5), .val (.long r_1), .second, .val (.long y23), .second, .val (.int y24), .val (.ref b25), .unset, .unset] [(.ref b25), (.ref b31), (.ref b31)])) t_
      refine XS.lload X31.here hx rfl (hb hby at_83) rfl ?_
      exact k_
    obtain ⟨_, _, ⟨T32, L32, k32, n32⟩, -, X32, ⟨Lc32, hQ32, l32, y32, z32⟩, st32⟩ := X31.specialBack hx (y := own_y14) rfl hown (mvT hZ (own_w hw 100 rfl)) (mvT hZ (own_w hw 101 rfl)) (mvT hZ (own_w hw 102 rfl)) (by decide) (backOf (W := 1) (rmFR l Z a0 hw [] b31 b25 y23 h31 n0 (Nat.le_trans Z0 K31.1) A31 F31_task F31_value (Nat.le_trans Z0 (Nat.le_trans K30.1 (Nat.le_of_eq g31.symm)))) hZ (own_w hw 102 rfl) (own_w hw 99 rfl) (by decide) (by decide)) (g := (mkF m 85 #[.val (.long q1), .second, .val (.long q2), .second, .val (.long q3), .second, .val (.long q4), .second, .val (.int p5), .val (.long r_1), .second, .val (.long y23), .second, .val (.int y24), .val (.ref b25), .unset, .unset] [(.long y23), (.ref b25), (.ref b31), (.ref b31)])) rfl (by rw [hml]; rfl) (Steps.refl _) (a := b31) (argsL := [(.ref b25), (.long y23)]) (rest := [(.ref b31)]) (lenOf pd_14 rfl) rfl (by show 2 * 0 + _ ≤ _; exact Nat.le_of_eq rfl) (hb hby at_85) (fun _ _ => ⟨rfl, e31, (by decide : 12 + 0 ≤ _), (by decide : 136 + 0 ≤ _)⟩)
    dsimp only [Pt.U, Pt.locs, Pt.cells, Pt.slots] at X32 l32 y32 z32 st32 hQ32
    subst l32 y32 z32
    obtain ⟨rfl, N32q, Kc32, r32_0, r32_1⟩ := hQ32
    have N32 := Fr.app N30 N32q
    refine own_via st32 ?_
    have K32 : Keep h0 T32.heap [] := K31.trans Kc32 (allS (P := fun x => x ∈ _ ∨ _ ≤ x) (Or.inr (Nat.le_trans K30.1 (Nat.le_of_eq g31.symm))) all0)
    have hk := Nat.le_trans hk Kc32.1
    have O32 := O31.keep Kc32 (allS (P := fun x => n0 ≤ x) (Nat.le_trans Z0 (Nat.le_trans K30.1 (Nat.le_of_eq g31.symm))) all0)
    refine own_go (A := T32.setTop (mkF m 94 #[.val (.long q1), .second, .val (.long q2), .second, .val (.long q3), .second, .val (.long q4), .second, .val (.int p5), .val (.long r_1), .second, .val (.long y23), .second, .val (.int y24), .val (.ref b25), .val (.ref b31), .unset] [(.int (lcmpW y23 (1 : Int64)))])) (fun t_ k_ => ?_) ?_
    · show Steps p.tables e below (T32.setTop (mkF m 88 #[.val (.long q1), .second, .val (.long q2), .second, .val (.long q3), .second, .val (.long q4), .second, .val (.int p5), .val (.long r_1), .second, .val (.long y23), .second, .val (.int y24), .val (.ref b25), .unset, .unset] [(.ref b31)])) t_
      refine XS.astore X32.here hx rfl (hb hby at_88) rfl rfl (l' := #[.val (.long q1), .second, .val (.long q2), .second, .val (.long q3), .second, .val (.long q4), .second, .val (.int p5), .val (.long r_1), .second, .val (.long y23), .second, .val (.int y24), .val (.ref b25), .val (.ref b31), .unset]) rfl ?_
      show Steps p.tables e below (T32.setTop (mkF m 90 #[.val (.long q1), .second, .val (.long q2), .second, .val (.long q3), .second, .val (.long q4), .second, .val (.int p5), .val (.long r_1), .second, .val (.long y23), .second, .val (.int y24), .val (.ref b25), .val (.ref b31), .unset] [])) t_
      refine XS.lload X32.here hx rfl (hb hby at_90) rfl ?_
      show Steps p.tables e below (T32.setTop (mkF m 92 #[.val (.long q1), .second, .val (.long q2), .second, .val (.long q3), .second, .val (.long q4), .second, .val (.int p5), .val (.long r_1), .second, .val (.long y23), .second, .val (.int y24), .val (.ref b25), .val (.ref b31), .unset] [(.long y23)])) t_
      refine XS.lconst X32.here hx rfl (hb hby at_92) ?_
      show Steps p.tables e below (T32.setTop (mkF m 93 #[.val (.long q1), .second, .val (.long q2), .second, .val (.long q3), .second, .val (.long q4), .second, .val (.int p5), .val (.long r_1), .second, .val (.long y23), .second, .val (.int y24), .val (.ref b25), .val (.ref b31), .unset] [(.long (1 : Int64)), (.long y23)])) t_
      refine XS.lcmp X32.here hx rfl (hb hby at_93) rfl ?_
      exact k_
    by_cases hc94_33 : y23 < (1 : Int64)
    · refine own_go (A := T32.setTop (mkF m 135 #[.val (.long q1), .second, .val (.long q2), .second, .val (.long q3), .second, .val (.long q4), .second, .val (.int p5), .val (.long r_1), .second, .val (.long y23), .second, .val (.int y24), .val (.ref b25), .val (.ref b31), .val (.int (1 : Int32))] [(.ref b31)])) (fun t_ k_ => ?_) ?_
      · show Steps p.tables e below (T32.setTop (mkF m 94 #[.val (.long q1), .second, .val (.long q2), .second, .val (.long q3), .second, .val (.long q4), .second, .val (.int p5), .val (.long r_1), .second, .val (.long y23), .second, .val (.int y24), .val (.ref b25), .val (.ref b31), .unset] [(.int (lcmpW y23 (1 : Int64)))])) t_
        refine XS.ifNo X32.here hx rfl (hb hby at_94) rfl ((if0 _ _).trans (tlt ((lw_lt _ _).mpr hc94_33)).2.1) ?_
        show Steps p.tables e below (T32.setTop (mkF m 97 #[.val (.long q1), .second, .val (.long q2), .second, .val (.long q3), .second, .val (.long q4), .second, .val (.int p5), .val (.long r_1), .second, .val (.long y23), .second, .val (.int y24), .val (.ref b25), .val (.ref b31), .unset] [])) t_
        refine XS.iconst X32.here hx rfl (hb hby at_97) ?_
        show Steps p.tables e below (T32.setTop (mkF m 98 #[.val (.long q1), .second, .val (.long q2), .second, .val (.long q3), .second, .val (.long q4), .second, .val (.int p5), .val (.long r_1), .second, .val (.long y23), .second, .val (.int y24), .val (.ref b25), .val (.ref b31), .unset] [(.int (1 : Int32))])) t_
        refine XS.istore X32.here hx rfl (hb hby at_98) rfl (l' := #[.val (.long q1), .second, .val (.long q2), .second, .val (.long q3), .second, .val (.long q4), .second, .val (.int p5), .val (.long r_1), .second, .val (.long y23), .second, .val (.int y24), .val (.ref b25), .val (.ref b31), .val (.int (1 : Int32))]) rfl ?_
        show Steps p.tables e below (T32.setTop (mkF m 100 #[.val (.long q1), .second, .val (.long q2), .second, .val (.long q3), .second, .val (.long q4), .second, .val (.int p5), .val (.long r_1), .second, .val (.long y23), .second, .val (.int y24), .val (.ref b25), .val (.ref b31), .val (.int (1 : Int32))] [])) t_
        refine XS.goto X32.here hx rfl (pc0 := 100) (pc' := 133) rfl (hb hby at_100) (by decide) (by decide) ?_
        show Steps p.tables e below (T32.setTop (mkF m 133 #[.val (.long q1), .second, .val (.long q2), .second, .val (.long q3), .second, .val (.long q4), .second, .val (.int p5), .val (.long r_1), .second, .val (.long y23), .second, .val (.int y24), .val (.ref b25), .val (.ref b31), .val (.int (1 : Int32))] [])) t_
        refine XS.aload X32.here hx rfl (hb hby at_133) rfl rfl ?_
        exact k_
      obtain ⟨cq34, kq34, q34a, q34b, q34c⟩ := isOf hZ rfl (A31.keep Kc32)
      obtain ⟨_, _, ⟨T34, L34, k34, n34⟩, -, X34, ⟨Lc34, hQ34, l34, y34, z34⟩, st34⟩ := X32.virtualBack hx (y := own_y16) (z := own_y16) hown (mvT hZ (own_w hw 108 rfl)) (mvT hZ (own_w hw 109 rfl)) (notFace_of_selects (args := #[]) (mvT hZ (own_w hw 111 rfl))) (mvT hZ (own_w hw 111 rfl)) (mvT hZ (own_w hw 110 rfl)) (by decide) (backOf (W := 0) (rmMeets1 l Z a0 hw [] b31 b25 r_1 y23 T32.heap n0 (Nat.le_trans Z0 K32.1) ((((A25.ext E26).keep Kc30).ext E31).keep Kc32) r32_1 r32_0 ((r30_0.ext E31).keep Kc32 (ninS (Nat.ne_of_lt (Nat.lt_of_lt_of_le (Nat.lt_of_lt_of_le (Nat.lt_of_lt_of_le A25.lt E26.1) Kc30.1) (Nat.le_of_eq g31.symm))) nin0)) (own_small w1_0 hc94_33)) hZ (own_w hw 112 rfl) (own_w hw 99 rfl) (by decide) (by decide)) q34a q34c (g := (mkF m 135 #[.val (.long q1), .second, .val (.long q2), .second, .val (.long q3), .second, .val (.long q4), .second, .val (.int p5), .val (.long r_1), .second, .val (.long y23), .second, .val (.int y24), .val (.ref b25), .val (.ref b31), .val (.int (1 : Int32))] [(.ref b31)])) rfl (by rw [hml]; rfl) (Steps.refl _) (argsL := []) (rest := []) (lenOf pd_3 rfl) rfl (by show 2 * 0 + _ ≤ _; exact Nat.le_of_eq rfl) (hb hby at_135) (fun _ _ => ⟨rfl, rfl, (by decide : 12 + 0 ≤ _), (by decide : 136 + 0 ≤ _)⟩)
      dsimp only [Pt.U, Pt.locs, Pt.cells, Pt.slots] at X34 l34 y34 z34 st34 hQ34
      subst l34 y34 z34
      obtain ⟨rfl, N34q, eh34⟩ := hQ34
      have N34 := Fr.app N32 N34q
      refine own_via st34 ?_
      refine own_go (A := T34.setTop (mkF m 148 #[.val (.long q1), .second, .val (.long q2), .second, .val (.long q3), .second, .val (.long q4), .second, .val (.int p5), .val (.long r_1), .second, .val (.long y23), .second, .val (.int y24), .val (.ref b25), .val (.ref b31), .val (.int (1 : Int32))] [(.int (1 : Int32))])) (fun t_ k_ => ?_) ?_
      · show Steps p.tables e below (T34.setTop (mkF m 138 #[.val (.long q1), .second, .val (.long q2), .second, .val (.long q3), .second, .val (.long q4), .second, .val (.int p5), .val (.long r_1), .second, .val (.long y23), .second, .val (.int y24), .val (.ref b25), .val (.ref b31), .val (.int (1 : Int32))] [(.int (1 : Int32))])) t_
        refine XS.iload X34.here hx rfl (hb hby at_138) rfl ?_
        show Steps p.tables e below (T34.setTop (mkF m 140 #[.val (.long q1), .second, .val (.long q2), .second, .val (.long q3), .second, .val (.long q4), .second, .val (.int p5), .val (.long r_1), .second, .val (.long y23), .second, .val (.int y24), .val (.ref b25), .val (.ref b31), .val (.int (1 : Int32))] [(.int (1 : Int32)), (.int (1 : Int32))])) t_
        refine XS.icmpNo X34.here hx rfl (hb hby at_140) rfl (teq (by decide : (1 : Int32) = (1 : Int32))).2 ?_
        show Steps p.tables e below (T34.setTop (mkF m 143 #[.val (.long q1), .second, .val (.long q2), .second, .val (.long q3), .second, .val (.long q4), .second, .val (.int p5), .val (.long r_1), .second, .val (.long y23), .second, .val (.int y24), .val (.ref b25), .val (.ref b31), .val (.int (1 : Int32))] [])) t_
        refine XS.iconst X34.here hx rfl (hb hby at_143) ?_
        show Steps p.tables e below (T34.setTop (mkF m 144 #[.val (.long q1), .second, .val (.long q2), .second, .val (.long q3), .second, .val (.long q4), .second, .val (.int p5), .val (.long r_1), .second, .val (.long y23), .second, .val (.int y24), .val (.ref b25), .val (.ref b31), .val (.int (1 : Int32))] [(.int (1 : Int32))])) t_
        refine XS.goto X34.here hx rfl (pc0 := 144) (pc' := 148) rfl (hb hby at_144) (by decide) (by decide) ?_
        exact k_
      obtain ⟨fs35, hr35, hrun35, hended35, hRW35⟩ := X34.leaveW hS (by rw [eh34]; exact hk) (v := some (.int (1 : Int32))) (fun h => by rw [Bd.returns] at h; cases h)
      refine ⟨_, _, ?_, hrun35, hended35, _, _, rfl, ?_, hRW35.1, hRW35.2.1, hRW35.2.2.1, hRW35.2.2.2.mono (by decide) (by decide)⟩
      · exact retN X34 hx (t := .boolean) Bd.returns (by simp) (hb hby at_148) hr35
      · show Q_rm0 Z q1 q2 q3 q4 p5 cs sf h0 n0 _ T34.heap _
        rw [eh34]
        exact ⟨rfl, N34, K32⟩
    · refine own_go (A := T32.setTop (mkF m 109 #[.val (.long q1), .second, .val (.long q2), .second, .val (.long q3), .second, .val (.long q4), .second, .val (.int p5), .val (.long r_1), .second, .val (.long y23), .second, .val (.int y24), .val (.ref b25), .val (.ref b31), .unset] [(.int (lcmpW y23 (1000000000000000 : Int64)))])) (fun t_ k_ => ?_) ?_
      · show Steps p.tables e below (T32.setTop (mkF m 94 #[.val (.long q1), .second, .val (.long q2), .second, .val (.long q3), .second, .val (.long q4), .second, .val (.int p5), .val (.long r_1), .second, .val (.long y23), .second, .val (.int y24), .val (.ref b25), .val (.ref b31), .unset] [(.int (lcmpW y23 (1 : Int64)))])) t_
        refine XS.ifYes X32.here hx rfl (pc0 := 94) (pc' := 103) rfl (hb hby at_94) rfl ((if0 _ _).trans (flt (fun q => hc94_33 ((lw_lt _ _).mp q))).2.1) (by decide) (by decide) ?_
        show Steps p.tables e below (T32.setTop (mkF m 103 #[.val (.long q1), .second, .val (.long q2), .second, .val (.long q3), .second, .val (.long q4), .second, .val (.int p5), .val (.long r_1), .second, .val (.long y23), .second, .val (.int y24), .val (.ref b25), .val (.ref b31), .unset] [])) t_
        refine XS.lload X32.here hx rfl (hb hby at_103) rfl ?_
        show Steps p.tables e below (T32.setTop (mkF m 105 #[.val (.long q1), .second, .val (.long q2), .second, .val (.long q3), .second, .val (.long q4), .second, .val (.int p5), .val (.long r_1), .second, .val (.long y23), .second, .val (.int y24), .val (.ref b25), .val (.ref b31), .unset] [(.long y23)])) t_
        refine Jvm.Stand.ldc2J X32 hx hown (mvT hZ (own_w hw 5 rfl)) (g := (mkF m 105 #[.val (.long q1), .second, .val (.long q2), .second, .val (.long q3), .second, .val (.long q4), .second, .val (.int p5), .val (.long r_1), .second, .val (.long y23), .second, .val (.int y24), .val (.ref b25), .val (.ref b31), .unset] [(.long y23)])) rfl (hb hby at_105) ?_
        show Steps p.tables e below (T32.setTop (mkF m 108 #[.val (.long q1), .second, .val (.long q2), .second, .val (.long q3), .second, .val (.long q4), .second, .val (.int p5), .val (.long r_1), .second, .val (.long y23), .second, .val (.int y24), .val (.ref b25), .val (.ref b31), .unset] [(.long (1000000000000000 : Int64)), (.long y23)])) t_
        refine XS.lcmp X32.here hx rfl (hb hby at_108) rfl ?_
        exact k_
      by_cases hc109_36 : (1000000000000000 : Int64) < y23
      · refine own_go (A := T32.setTop (mkF m 135 #[.val (.long q1), .second, .val (.long q2), .second, .val (.long q3), .second, .val (.long q4), .second, .val (.int p5), .val (.long r_1), .second, .val (.long y23), .second, .val (.int y24), .val (.ref b25), .val (.ref b31), .val (.int (0 : Int32))] [(.ref b31)])) (fun t_ k_ => ?_) ?_
        · show Steps p.tables e below (T32.setTop (mkF m 109 #[.val (.long q1), .second, .val (.long q2), .second, .val (.long q3), .second, .val (.long q4), .second, .val (.int p5), .val (.long r_1), .second, .val (.long y23), .second, .val (.int y24), .val (.ref b25), .val (.ref b31), .unset] [(.int (lcmpW y23 (1000000000000000 : Int64)))])) t_
          refine XS.ifNo X32.here hx rfl (hb hby at_109) rfl ((if0 _ _).trans (tlt ((lw_gt _ _).mpr hc109_36)).2.2.2) ?_
          show Steps p.tables e below (T32.setTop (mkF m 112 #[.val (.long q1), .second, .val (.long q2), .second, .val (.long q3), .second, .val (.long q4), .second, .val (.int p5), .val (.long r_1), .second, .val (.long y23), .second, .val (.int y24), .val (.ref b25), .val (.ref b31), .unset] [])) t_
          refine XS.iconst X32.here hx rfl (hb hby at_112) ?_
          show Steps p.tables e below (T32.setTop (mkF m 113 #[.val (.long q1), .second, .val (.long q2), .second, .val (.long q3), .second, .val (.long q4), .second, .val (.int p5), .val (.long r_1), .second, .val (.long y23), .second, .val (.int y24), .val (.ref b25), .val (.ref b31), .unset] [(.int (0 : Int32))])) t_
          refine XS.istore X32.here hx rfl (hb hby at_113) rfl (l' := #[.val (.long q1), .second, .val (.long q2), .second, .val (.long q3), .second, .val (.long q4), .second, .val (.int p5), .val (.long r_1), .second, .val (.long y23), .second, .val (.int y24), .val (.ref b25), .val (.ref b31), .val (.int (0 : Int32))]) rfl ?_
          show Steps p.tables e below (T32.setTop (mkF m 115 #[.val (.long q1), .second, .val (.long q2), .second, .val (.long q3), .second, .val (.long q4), .second, .val (.int p5), .val (.long r_1), .second, .val (.long y23), .second, .val (.int y24), .val (.ref b25), .val (.ref b31), .val (.int (0 : Int32))] [])) t_
          refine XS.goto X32.here hx rfl (pc0 := 115) (pc' := 133) rfl (hb hby at_115) (by decide) (by decide) ?_
          show Steps p.tables e below (T32.setTop (mkF m 133 #[.val (.long q1), .second, .val (.long q2), .second, .val (.long q3), .second, .val (.long q4), .second, .val (.int p5), .val (.long r_1), .second, .val (.long y23), .second, .val (.int y24), .val (.ref b25), .val (.ref b31), .val (.int (0 : Int32))] [])) t_
          refine XS.aload X32.here hx rfl (hb hby at_133) rfl rfl ?_
          exact k_
        obtain ⟨cq37, kq37, q37a, q37b, q37c⟩ := isOf hZ rfl (A31.keep Kc32)
        obtain ⟨_, _, ⟨T37, L37, k37, n37⟩, -, X37, ⟨Lc37, hQ37, l37, y37, z37⟩, st37⟩ := X32.virtualBack hx (y := own_y16) (z := own_y16) hown (mvT hZ (own_w hw 108 rfl)) (mvT hZ (own_w hw 109 rfl)) (notFace_of_selects (args := #[]) (mvT hZ (own_w hw 111 rfl))) (mvT hZ (own_w hw 111 rfl)) (mvT hZ (own_w hw 110 rfl)) (by decide) (backOf (W := 0) (rmMeets0 l Z a0 hw [] b31 b25 r_1 y23 T32.heap n0 (Nat.le_trans Z0 K32.1) ((((A25.ext E26).keep Kc30).ext E31).keep Kc32) r32_1 r32_0 ((r30_0.ext E31).keep Kc32 (ninS (Nat.ne_of_lt (Nat.lt_of_lt_of_le (Nat.lt_of_lt_of_le (Nat.lt_of_lt_of_le A25.lt E26.1) Kc30.1) (Nat.le_of_eq g31.symm))) nin0)) (own_great w1_0 hc109_36)) hZ (own_w hw 112 rfl) (own_w hw 99 rfl) (by decide) (by decide)) q37a q37c (g := (mkF m 135 #[.val (.long q1), .second, .val (.long q2), .second, .val (.long q3), .second, .val (.long q4), .second, .val (.int p5), .val (.long r_1), .second, .val (.long y23), .second, .val (.int y24), .val (.ref b25), .val (.ref b31), .val (.int (0 : Int32))] [(.ref b31)])) rfl (by rw [hml]; rfl) (Steps.refl _) (argsL := []) (rest := []) (lenOf pd_3 rfl) rfl (by show 2 * 0 + _ ≤ _; exact Nat.le_of_eq rfl) (hb hby at_135) (fun _ _ => ⟨rfl, rfl, (by decide : 12 + 0 ≤ _), (by decide : 136 + 0 ≤ _)⟩)
        dsimp only [Pt.U, Pt.locs, Pt.cells, Pt.slots] at X37 l37 y37 z37 st37 hQ37
        subst l37 y37 z37
        obtain ⟨rfl, N37q, eh37⟩ := hQ37
        have N37 := Fr.app N32 N37q
        refine own_via st37 ?_
        refine own_go (A := T37.setTop (mkF m 148 #[.val (.long q1), .second, .val (.long q2), .second, .val (.long q3), .second, .val (.long q4), .second, .val (.int p5), .val (.long r_1), .second, .val (.long y23), .second, .val (.int y24), .val (.ref b25), .val (.ref b31), .val (.int (0 : Int32))] [(.int (1 : Int32))])) (fun t_ k_ => ?_) ?_
        · show Steps p.tables e below (T37.setTop (mkF m 138 #[.val (.long q1), .second, .val (.long q2), .second, .val (.long q3), .second, .val (.long q4), .second, .val (.int p5), .val (.long r_1), .second, .val (.long y23), .second, .val (.int y24), .val (.ref b25), .val (.ref b31), .val (.int (0 : Int32))] [(.int (0 : Int32))])) t_
          refine XS.iload X37.here hx rfl (hb hby at_138) rfl ?_
          show Steps p.tables e below (T37.setTop (mkF m 140 #[.val (.long q1), .second, .val (.long q2), .second, .val (.long q3), .second, .val (.long q4), .second, .val (.int p5), .val (.long r_1), .second, .val (.long y23), .second, .val (.int y24), .val (.ref b25), .val (.ref b31), .val (.int (0 : Int32))] [(.int (0 : Int32)), (.int (0 : Int32))])) t_
          refine XS.icmpNo X37.here hx rfl (hb hby at_140) rfl (teq (by decide : (0 : Int32) = (0 : Int32))).2 ?_
          show Steps p.tables e below (T37.setTop (mkF m 143 #[.val (.long q1), .second, .val (.long q2), .second, .val (.long q3), .second, .val (.long q4), .second, .val (.int p5), .val (.long r_1), .second, .val (.long y23), .second, .val (.int y24), .val (.ref b25), .val (.ref b31), .val (.int (0 : Int32))] [])) t_
          refine XS.iconst X37.here hx rfl (hb hby at_143) ?_
          show Steps p.tables e below (T37.setTop (mkF m 144 #[.val (.long q1), .second, .val (.long q2), .second, .val (.long q3), .second, .val (.long q4), .second, .val (.int p5), .val (.long r_1), .second, .val (.long y23), .second, .val (.int y24), .val (.ref b25), .val (.ref b31), .val (.int (0 : Int32))] [(.int (1 : Int32))])) t_
          refine XS.goto X37.here hx rfl (pc0 := 144) (pc' := 148) rfl (hb hby at_144) (by decide) (by decide) ?_
          exact k_
        obtain ⟨fs38, hr38, hrun38, hended38, hRW38⟩ := X37.leaveW hS (by rw [eh37]; exact hk) (v := some (.int (1 : Int32))) (fun h => by rw [Bd.returns] at h; cases h)
        refine ⟨_, _, ?_, hrun38, hended38, _, _, rfl, ?_, hRW38.1, hRW38.2.1, hRW38.2.2.1, hRW38.2.2.2.mono (by decide) (by decide)⟩
        · exact retN X37 hx (t := .boolean) Bd.returns (by simp) (hb hby at_148) hr38
        · show Q_rm0 Z q1 q2 q3 q4 p5 cs sf h0 n0 _ T37.heap _
          rw [eh37]
          exact ⟨rfl, N37, K32⟩
      · refine own_go (A := T32.setTop (mkF m 123 #[.val (.long q1), .second, .val (.long q2), .second, .val (.long q3), .second, .val (.long q4), .second, .val (.int p5), .val (.long r_1), .second, .val (.long y23), .second, .val (.int y24), .val (.ref b25), .val (.ref b31), .unset] [(.int (lcmpW r_1 y23))])) (fun t_ k_ => ?_) ?_
        · show Steps p.tables e below (T32.setTop (mkF m 109 #[.val (.long q1), .second, .val (.long q2), .second, .val (.long q3), .second, .val (.long q4), .second, .val (.int p5), .val (.long r_1), .second, .val (.long y23), .second, .val (.int y24), .val (.ref b25), .val (.ref b31), .unset] [(.int (lcmpW y23 (1000000000000000 : Int64)))])) t_
          refine XS.ifYes X32.here hx rfl (pc0 := 109) (pc' := 118) rfl (hb hby at_109) rfl ((if0 _ _).trans (flt (fun q => hc109_36 ((lw_gt _ _).mp q))).2.2.2) (by decide) (by decide) ?_
          show Steps p.tables e below (T32.setTop (mkF m 118 #[.val (.long q1), .second, .val (.long q2), .second, .val (.long q3), .second, .val (.long q4), .second, .val (.int p5), .val (.long r_1), .second, .val (.long y23), .second, .val (.int y24), .val (.ref b25), .val (.ref b31), .unset] [])) t_
          refine XS.lload X32.here hx rfl (hb hby at_118) rfl ?_
          show Steps p.tables e below (T32.setTop (mkF m 120 #[.val (.long q1), .second, .val (.long q2), .second, .val (.long q3), .second, .val (.long q4), .second, .val (.int p5), .val (.long r_1), .second, .val (.long y23), .second, .val (.int y24), .val (.ref b25), .val (.ref b31), .unset] [(.long r_1)])) t_
          refine XS.lload X32.here hx rfl (hb hby at_120) rfl ?_
          show Steps p.tables e below (T32.setTop (mkF m 122 #[.val (.long q1), .second, .val (.long q2), .second, .val (.long q3), .second, .val (.long q4), .second, .val (.int p5), .val (.long r_1), .second, .val (.long y23), .second, .val (.int y24), .val (.ref b25), .val (.ref b31), .unset] [(.long y23), (.long r_1)])) t_
          refine XS.lcmp X32.here hx rfl (hb hby at_122) rfl ?_
          exact k_
        by_cases hc123_39 : r_1 < y23
        · refine own_go (A := T32.setTop (mkF m 135 #[.val (.long q1), .second, .val (.long q2), .second, .val (.long q3), .second, .val (.long q4), .second, .val (.int p5), .val (.long r_1), .second, .val (.long y23), .second, .val (.int y24), .val (.ref b25), .val (.ref b31), .val (.int (0 : Int32))] [(.ref b31)])) (fun t_ k_ => ?_) ?_
          · show Steps p.tables e below (T32.setTop (mkF m 123 #[.val (.long q1), .second, .val (.long q2), .second, .val (.long q3), .second, .val (.long q4), .second, .val (.int p5), .val (.long r_1), .second, .val (.long y23), .second, .val (.int y24), .val (.ref b25), .val (.ref b31), .unset] [(.int (lcmpW r_1 y23))])) t_
            refine XS.ifYes X32.here hx rfl (pc0 := 123) (pc' := 130) rfl (hb hby at_123) rfl ((if0 _ _).trans (tlt ((lw_lt _ _).mpr hc123_39)).1) (by decide) (by decide) ?_
            show Steps p.tables e below (T32.setTop (mkF m 130 #[.val (.long q1), .second, .val (.long q2), .second, .val (.long q3), .second, .val (.long q4), .second, .val (.int p5), .val (.long r_1), .second, .val (.long y23), .second, .val (.int y24), .val (.ref b25), .val (.ref b31), .unset] [])) t_
            refine XS.iconst X32.here hx rfl (hb hby at_130) ?_
            show Steps p.tables e below (T32.setTop (mkF m 131 #[.val (.long q1), .second, .val (.long q2), .second, .val (.long q3), .second, .val (.long q4), .second, .val (.int p5), .val (.long r_1), .second, .val (.long y23), .second, .val (.int y24), .val (.ref b25), .val (.ref b31), .unset] [(.int (0 : Int32))])) t_
            refine XS.istore X32.here hx rfl (hb hby at_131) rfl (l' := #[.val (.long q1), .second, .val (.long q2), .second, .val (.long q3), .second, .val (.long q4), .second, .val (.int p5), .val (.long r_1), .second, .val (.long y23), .second, .val (.int y24), .val (.ref b25), .val (.ref b31), .val (.int (0 : Int32))]) rfl ?_
            show Steps p.tables e below (T32.setTop (mkF m 133 #[.val (.long q1), .second, .val (.long q2), .second, .val (.long q3), .second, .val (.long q4), .second, .val (.int p5), .val (.long r_1), .second, .val (.long y23), .second, .val (.int y24), .val (.ref b25), .val (.ref b31), .val (.int (0 : Int32))] [])) t_
            refine XS.aload X32.here hx rfl (hb hby at_133) rfl rfl ?_
            exact k_
          obtain ⟨cq40, kq40, q40a, q40b, q40c⟩ := isOf hZ rfl (A31.keep Kc32)
          obtain ⟨_, _, ⟨T40, L40, k40, n40⟩, -, X40, ⟨Lc40, hQ40, l40, y40, z40⟩, st40⟩ := X32.virtualBack hx (y := own_y16) (z := own_y16) hown (mvT hZ (own_w hw 108 rfl)) (mvT hZ (own_w hw 109 rfl)) (notFace_of_selects (args := #[]) (mvT hZ (own_w hw 111 rfl))) (mvT hZ (own_w hw 111 rfl)) (mvT hZ (own_w hw 110 rfl)) (by decide) (backOf (W := 0) (rmMeets0 l Z a0 hw [] b31 b25 r_1 y23 T32.heap n0 (Nat.le_trans Z0 K32.1) ((((A25.ext E26).keep Kc30).ext E31).keep Kc32) r32_1 r32_0 ((r30_0.ext E31).keep Kc32 (ninS (Nat.ne_of_lt (Nat.lt_of_lt_of_le (Nat.lt_of_lt_of_le (Nat.lt_of_lt_of_le A25.lt E26.1) Kc30.1) (Nat.le_of_eq g31.symm))) nin0)) hc123_39) hZ (own_w hw 112 rfl) (own_w hw 99 rfl) (by decide) (by decide)) q40a q40c (g := (mkF m 135 #[.val (.long q1), .second, .val (.long q2), .second, .val (.long q3), .second, .val (.long q4), .second, .val (.int p5), .val (.long r_1), .second, .val (.long y23), .second, .val (.int y24), .val (.ref b25), .val (.ref b31), .val (.int (0 : Int32))] [(.ref b31)])) rfl (by rw [hml]; rfl) (Steps.refl _) (argsL := []) (rest := []) (lenOf pd_3 rfl) rfl (by show 2 * 0 + _ ≤ _; exact Nat.le_of_eq rfl) (hb hby at_135) (fun _ _ => ⟨rfl, rfl, (by decide : 12 + 0 ≤ _), (by decide : 136 + 0 ≤ _)⟩)
          dsimp only [Pt.U, Pt.locs, Pt.cells, Pt.slots] at X40 l40 y40 z40 st40 hQ40
          subst l40 y40 z40
          obtain ⟨rfl, N40q, eh40⟩ := hQ40
          have N40 := Fr.app N32 N40q
          refine own_via st40 ?_
          refine own_go (A := T40.setTop (mkF m 148 #[.val (.long q1), .second, .val (.long q2), .second, .val (.long q3), .second, .val (.long q4), .second, .val (.int p5), .val (.long r_1), .second, .val (.long y23), .second, .val (.int y24), .val (.ref b25), .val (.ref b31), .val (.int (0 : Int32))] [(.int (1 : Int32))])) (fun t_ k_ => ?_) ?_
          · show Steps p.tables e below (T40.setTop (mkF m 138 #[.val (.long q1), .second, .val (.long q2), .second, .val (.long q3), .second, .val (.long q4), .second, .val (.int p5), .val (.long r_1), .second, .val (.long y23), .second, .val (.int y24), .val (.ref b25), .val (.ref b31), .val (.int (0 : Int32))] [(.int (0 : Int32))])) t_
            refine XS.iload X40.here hx rfl (hb hby at_138) rfl ?_
            show Steps p.tables e below (T40.setTop (mkF m 140 #[.val (.long q1), .second, .val (.long q2), .second, .val (.long q3), .second, .val (.long q4), .second, .val (.int p5), .val (.long r_1), .second, .val (.long y23), .second, .val (.int y24), .val (.ref b25), .val (.ref b31), .val (.int (0 : Int32))] [(.int (0 : Int32)), (.int (0 : Int32))])) t_
            refine XS.icmpNo X40.here hx rfl (hb hby at_140) rfl (teq (by decide : (0 : Int32) = (0 : Int32))).2 ?_
            show Steps p.tables e below (T40.setTop (mkF m 143 #[.val (.long q1), .second, .val (.long q2), .second, .val (.long q3), .second, .val (.long q4), .second, .val (.int p5), .val (.long r_1), .second, .val (.long y23), .second, .val (.int y24), .val (.ref b25), .val (.ref b31), .val (.int (0 : Int32))] [])) t_
            refine XS.iconst X40.here hx rfl (hb hby at_143) ?_
            show Steps p.tables e below (T40.setTop (mkF m 144 #[.val (.long q1), .second, .val (.long q2), .second, .val (.long q3), .second, .val (.long q4), .second, .val (.int p5), .val (.long r_1), .second, .val (.long y23), .second, .val (.int y24), .val (.ref b25), .val (.ref b31), .val (.int (0 : Int32))] [(.int (1 : Int32))])) t_
            refine XS.goto X40.here hx rfl (pc0 := 144) (pc' := 148) rfl (hb hby at_144) (by decide) (by decide) ?_
            exact k_
          obtain ⟨fs41, hr41, hrun41, hended41, hRW41⟩ := X40.leaveW hS (by rw [eh40]; exact hk) (v := some (.int (1 : Int32))) (fun h => by rw [Bd.returns] at h; cases h)
          refine ⟨_, _, ?_, hrun41, hended41, _, _, rfl, ?_, hRW41.1, hRW41.2.1, hRW41.2.2.1, hRW41.2.2.2.mono (by decide) (by decide)⟩
          · exact retN X40 hx (t := .boolean) Bd.returns (by simp) (hb hby at_148) hr41
          · show Q_rm0 Z q1 q2 q3 q4 p5 cs sf h0 n0 _ T40.heap _
            rw [eh40]
            exact ⟨rfl, N40, K32⟩
        · refine own_go (A := T32.setTop (mkF m 135 #[.val (.long q1), .second, .val (.long q2), .second, .val (.long q3), .second, .val (.long q4), .second, .val (.int p5), .val (.long r_1), .second, .val (.long y23), .second, .val (.int y24), .val (.ref b25), .val (.ref b31), .val (.int (1 : Int32))] [(.ref b31)])) (fun t_ k_ => ?_) ?_
          · show Steps p.tables e below (T32.setTop (mkF m 123 #[.val (.long q1), .second, .val (.long q2), .second, .val (.long q3), .second, .val (.long q4), .second, .val (.int p5), .val (.long r_1), .second, .val (.long y23), .second, .val (.int y24), .val (.ref b25), .val (.ref b31), .unset] [(.int (lcmpW r_1 y23))])) t_
            refine XS.ifNo X32.here hx rfl (hb hby at_123) rfl ((if0 _ _).trans (flt (fun q => hc123_39 ((lw_lt _ _).mp q))).1) ?_
            show Steps p.tables e below (T32.setTop (mkF m 126 #[.val (.long q1), .second, .val (.long q2), .second, .val (.long q3), .second, .val (.long q4), .second, .val (.int p5), .val (.long r_1), .second, .val (.long y23), .second, .val (.int y24), .val (.ref b25), .val (.ref b31), .unset] [])) t_
            refine XS.iconst X32.here hx rfl (hb hby at_126) ?_
            show Steps p.tables e below (T32.setTop (mkF m 127 #[.val (.long q1), .second, .val (.long q2), .second, .val (.long q3), .second, .val (.long q4), .second, .val (.int p5), .val (.long r_1), .second, .val (.long y23), .second, .val (.int y24), .val (.ref b25), .val (.ref b31), .unset] [(.int (1 : Int32))])) t_
            refine XS.goto X32.here hx rfl (pc0 := 127) (pc' := 131) rfl (hb hby at_127) (by decide) (by decide) ?_
            show Steps p.tables e below (T32.setTop (mkF m 131 #[.val (.long q1), .second, .val (.long q2), .second, .val (.long q3), .second, .val (.long q4), .second, .val (.int p5), .val (.long r_1), .second, .val (.long y23), .second, .val (.int y24), .val (.ref b25), .val (.ref b31), .unset] [(.int (1 : Int32))])) t_
            refine XS.istore X32.here hx rfl (hb hby at_131) rfl (l' := #[.val (.long q1), .second, .val (.long q2), .second, .val (.long q3), .second, .val (.long q4), .second, .val (.int p5), .val (.long r_1), .second, .val (.long y23), .second, .val (.int y24), .val (.ref b25), .val (.ref b31), .val (.int (1 : Int32))]) rfl ?_
            show Steps p.tables e below (T32.setTop (mkF m 133 #[.val (.long q1), .second, .val (.long q2), .second, .val (.long q3), .second, .val (.long q4), .second, .val (.int p5), .val (.long r_1), .second, .val (.long y23), .second, .val (.int y24), .val (.ref b25), .val (.ref b31), .val (.int (1 : Int32))] [])) t_
            refine XS.aload X32.here hx rfl (hb hby at_133) rfl rfl ?_
            exact k_
          obtain ⟨cq42, kq42, q42a, q42b, q42c⟩ := isOf hZ rfl (A31.keep Kc32)
          obtain ⟨_, _, ⟨T42, L42, k42, n42⟩, -, X42, ⟨Lc42, hQ42, l42, y42, z42⟩, st42⟩ := X32.virtualBack hx (y := own_y16) (z := own_y16) hown (mvT hZ (own_w hw 108 rfl)) (mvT hZ (own_w hw 109 rfl)) (notFace_of_selects (args := #[]) (mvT hZ (own_w hw 111 rfl))) (mvT hZ (own_w hw 111 rfl)) (mvT hZ (own_w hw 110 rfl)) (by decide) (backOf (W := 0) (rmMeets1 l Z a0 hw [] b31 b25 r_1 y23 T32.heap n0 (Nat.le_trans Z0 K32.1) ((((A25.ext E26).keep Kc30).ext E31).keep Kc32) r32_1 r32_0 ((r30_0.ext E31).keep Kc32 (ninS (Nat.ne_of_lt (Nat.lt_of_lt_of_le (Nat.lt_of_lt_of_le (Nat.lt_of_lt_of_le A25.lt E26.1) Kc30.1) (Nat.le_of_eq g31.symm))) nin0)) hc123_39) hZ (own_w hw 112 rfl) (own_w hw 99 rfl) (by decide) (by decide)) q42a q42c (g := (mkF m 135 #[.val (.long q1), .second, .val (.long q2), .second, .val (.long q3), .second, .val (.long q4), .second, .val (.int p5), .val (.long r_1), .second, .val (.long y23), .second, .val (.int y24), .val (.ref b25), .val (.ref b31), .val (.int (1 : Int32))] [(.ref b31)])) rfl (by rw [hml]; rfl) (Steps.refl _) (argsL := []) (rest := []) (lenOf pd_3 rfl) rfl (by show 2 * 0 + _ ≤ _; exact Nat.le_of_eq rfl) (hb hby at_135) (fun _ _ => ⟨rfl, rfl, (by decide : 12 + 0 ≤ _), (by decide : 136 + 0 ≤ _)⟩)
          dsimp only [Pt.U, Pt.locs, Pt.cells, Pt.slots] at X42 l42 y42 z42 st42 hQ42
          subst l42 y42 z42
          obtain ⟨rfl, N42q, eh42⟩ := hQ42
          have N42 := Fr.app N32 N42q
          refine own_via st42 ?_
          refine own_go (A := T42.setTop (mkF m 148 #[.val (.long q1), .second, .val (.long q2), .second, .val (.long q3), .second, .val (.long q4), .second, .val (.int p5), .val (.long r_1), .second, .val (.long y23), .second, .val (.int y24), .val (.ref b25), .val (.ref b31), .val (.int (1 : Int32))] [(.int (1 : Int32))])) (fun t_ k_ => ?_) ?_
          · show Steps p.tables e below (T42.setTop (mkF m 138 #[.val (.long q1), .second, .val (.long q2), .second, .val (.long q3), .second, .val (.long q4), .second, .val (.int p5), .val (.long r_1), .second, .val (.long y23), .second, .val (.int y24), .val (.ref b25), .val (.ref b31), .val (.int (1 : Int32))] [(.int (1 : Int32))])) t_
            refine XS.iload X42.here hx rfl (hb hby at_138) rfl ?_
            show Steps p.tables e below (T42.setTop (mkF m 140 #[.val (.long q1), .second, .val (.long q2), .second, .val (.long q3), .second, .val (.long q4), .second, .val (.int p5), .val (.long r_1), .second, .val (.long y23), .second, .val (.int y24), .val (.ref b25), .val (.ref b31), .val (.int (1 : Int32))] [(.int (1 : Int32)), (.int (1 : Int32))])) t_
            refine XS.icmpNo X42.here hx rfl (hb hby at_140) rfl (teq (by decide : (1 : Int32) = (1 : Int32))).2 ?_
            show Steps p.tables e below (T42.setTop (mkF m 143 #[.val (.long q1), .second, .val (.long q2), .second, .val (.long q3), .second, .val (.long q4), .second, .val (.int p5), .val (.long r_1), .second, .val (.long y23), .second, .val (.int y24), .val (.ref b25), .val (.ref b31), .val (.int (1 : Int32))] [])) t_
            refine XS.iconst X42.here hx rfl (hb hby at_143) ?_
            show Steps p.tables e below (T42.setTop (mkF m 144 #[.val (.long q1), .second, .val (.long q2), .second, .val (.long q3), .second, .val (.long q4), .second, .val (.int p5), .val (.long r_1), .second, .val (.long y23), .second, .val (.int y24), .val (.ref b25), .val (.ref b31), .val (.int (1 : Int32))] [(.int (1 : Int32))])) t_
            refine XS.goto X42.here hx rfl (pc0 := 144) (pc' := 148) rfl (hb hby at_144) (by decide) (by decide) ?_
            exact k_
          obtain ⟨fs43, hr43, hrun43, hended43, hRW43⟩ := X42.leaveW hS (by rw [eh42]; exact hk) (v := some (.int (1 : Int32))) (fun h => by rw [Bd.returns] at h; cases h)
          refine ⟨_, _, ?_, hrun43, hended43, _, _, rfl, ?_, hRW43.1, hRW43.2.1, hRW43.2.2.1, hRW43.2.2.2.mono (by decide) (by decide)⟩
          · exact retN X42 hx (t := .boolean) Bd.returns (by simp) (hb hby at_148) hr43
          · show Q_rm0 Z q1 q2 q3 q4 p5 cs sf h0 n0 _ T42.heap _
            rw [eh42]
            exact ⟨rfl, N42, K32⟩
set_option maxRecDepth 65536 in
set_option maxHeartbeats 40000000 in
theorem comes_1 {Post : Tables → Env → Array Value → State → Outcome → State → Prop} (hpost : ∀ tb e args s v u, (limb_1_1.after args s (.returned v) u = true ∧ limb_1_2.after args s (.returned v) u = true ∧ True) → ReturnedEndW s (.returned v) u (Jvm.fieldLocs frame_1_writes args s ++ Jvm.arrayLocs frame_1_arrays args s ++ Jvm.staticLocs frame_1_statics s) 24 5248 → Post tb e args s (.returned v) u) :
    ArmFor flags0 classFile x code maxLocals ret World_1 tables_1 room_1 Calls_1 rest_1 Pre_1 Post := by
  intro l hfl _ _ p e ha hc hk s m args below hf hA hF happ hP
  obtain ⟨hcalls, hrest, hpre⟩ := hP
  obtain ⟨-, -, -, hnamed, -, -, -, hat⟩ := (Spec.applies_iff hf).mp happ
  obtain ⟨hg, hn⟩ := and_e (Cond.before_iff.mp (show (Jvm.Cond.and given_1 narrow_1).before args s = true from hpre))
  obtain ⟨hg_0, hg_1⟩ := and_e hg
  obtain ⟨hg_2, hg_3⟩ := and_e hg_1
  obtain ⟨hg_4, hg_5⟩ := and_e hg_3
  obtain ⟨hg_6, hg_7⟩ := and_e hg_5
  obtain ⟨hg_8, hg_9⟩ := and_e hg_7
  obtain ⟨w0, w1, w2, w3, w4, rfl⟩ : ∃ w0 w1 w2 w3 w4 : Value, args = #[w0, w1, w2, w3, w4] := by
    have hs : args.size = 5 := by simpa [Cond.value, given_1] using hg_0
    obtain ⟨L⟩ := args
    match L, hs with
    | [w0, w1, w2, w3, w4], _ => exact ⟨w0, w1, w2, w3, w4, rfl⟩
  have hw := fun d (hd : d ∈ tables_1) => atoms_spec (ws := Jvm.Cond.code x code maxLocals ret :: tables_1) hat d (List.mem_cons_of_mem _ hd)
  have hfit : Fit s := fun {y c} hc i hi => by
    obtain ⟨ha, rfl⟩ := Array.getElem?_eq_some_iff.mp hc
    have q := List.all_eq_true.mp ((Array.all_eq_true_iff_forall_mem.mp hF) _ (Array.getElem_mem ha)) i (List.mem_range.mpr hi)
    simpa [Array.getElem?_eq_getElem hi] using q
  obtain ⟨i0, ei0⟩ := isL_v hg_2
  obtain rfl : w0 = (.long i0) := Option.some.inj ei0
  obtain ⟨i1, ei1⟩ := isL_v hg_4
  obtain rfl : w1 = (.long i1) := Option.some.inj ei1
  obtain ⟨i2, ei2⟩ := isL_v hg_6
  obtain rfl : w2 = (.long i2) := Option.some.inj ei2
  obtain ⟨i3, ei3⟩ := isL_v hg_8
  obtain rfl : w3 = (.long i3) := Option.some.inj ei3
  obtain ⟨i4, ei4⟩ := is_v hg_9
  obtain rfl : w4 = (.int i4) := Option.some.inj ei4
  obtain ⟨hsets, hown0⟩ := atoms_of _ (rest_1_c_eq ▸ (show rest_1_c.before _ s = true from hrest))
  obtain ⟨cs, ecs⟩ := is_v (Cond.before_iff.mp (hsets _ (List.mem_of_getElem? (i := 1) rfl)))
  have Scs : Sta s s.heap "java/lang/String" "COMPACT_STRINGS" "Z" (.int cs) := Sta.start ecs (Or.inl (hsets _ (List.mem_of_getElem? (i := 0) rfl)))
  have hcw := (hsets _ (List.mem_of_getElem? (i := 2) rfl))
  have hcs : ¬ (cs = (0 : Int32)) := gotF (Cond.eq_ints ecs (Term.int_eval (0))) (not_v (Cond.before_iff.mp hcw))
  obtain ⟨sf, esf, rsf⟩ := isR_v (Cond.before_iff.mp (hsets _ (List.mem_of_getElem? (i := 8) rfl)))
  have Ssf : Sta s s.heap "jdk/internal/util/Preconditions" "SIOOBE_FORMATTER" "Ljava/util/function/BiFunction;" sf := Sta.start esf (Or.inl (hsets _ (List.mem_of_getElem? (i := 7) rfl)))
  obtain ⟨n, o, h1, h2, h3, _, L, rfl, ⟨rfl, N, -⟩, hq⟩ := rm0 l s _ hw tables_1 i0 i1 i2 i3 i4 cs sf s.heap s.heap.size (Nat.le_refl _) (Old.start s) Scs hcs Ssf rsf rfl hcw (hcalls.1 _ (List.mem_of_getElem? (i := 0) rfl)) p e ha hc hk s m _ below hf ((Spec.applies_iff_loose hf).mp happ).1 ⟨rfl, State.Warmed39.refl s, rfl, rfl⟩ trivial
  refine ⟨n, _, h1, h2, h3, hpost _ _ _ _ _ _ ⟨Cond.after_iff.mpr rfl, Cond.after_iff.mpr (eq_i res_at (Term.int_eval (1)) rfl), trivial⟩ ⟨hq.1, hq.2.1, hq.2.2.1, (hq.2.2.2.sift fun y hy => Or.inr (N y hy)).mono (by decide) (by decide)⟩⟩
theorem main_1_1 : Claimed_1_1 := comes_1 fun _ _ _ _ _ _ h hF => ⟨h.1, hF⟩
theorem main_1_2 : Claimed_1_2 := comes_1 fun _ _ _ _ _ _ h hF => ⟨h.2.1, hF⟩
end Jvm.Pilot.@@N@@
namespace Jvm.Pilot.@@N@@
open Jvm Jvm.ClassFile Sem Op Lib Jvm.Free Jvm.Stand Jvm.Pilot.@@N@@.Jvm.D
/-! MADE BY PROGRAM (witnessworld.py) out of the Statement's table words and the real class files: 19 classes; the members and pool entries that the words name. The judged class is class 1, her method 2. -/
namespace start1
open Jvm.ClassFile
def u (s : String) : CpInfo := .utf8 (stringToUtf16 s)
/-- a pool by its gaps: so many unusable entries, then the entry; so many at the end -/
def gap : Nat → List CpInfo → List CpInfo
  | 0, r => r
  | n + 1, r => .unusable :: gap n r
def poolList (es : List (Nat × CpInfo)) (last : Nat) : List CpInfo := es.foldr (fun e r => gap e.1 (e.2 :: r)) (gap last [])
def pool (es : List (Nat × CpInfo)) (last : Nat) : Array CpInfo := ⟨poolList es last⟩
def fileOf (pool : Array CpInfo) (this : Nat) (attrs : Array Attribute := #[]) (ms : Array MethodInfo := #[]) (fl : Nat := 33) (sup : Nat := 0) (ifs : Array Nat := #[]) (fds : Array FieldInfo := #[]) : ClassFile where
  minorVersion := 0
  majorVersion := 65
  constantPool := pool
  accessFlags := fl
  thisClass := this
  superClass := sup
  interfaces := ifs
  fields := fds
  methods := ms
  attributes := attrs
def plain (name : String) (sup : Option ClassId) : Class where
  name := name
  kind := .ordinary
  loader := none
  accessFlags := 33
  super := sup
  interfaces := #[]
  cf := none
  fields := #[]
  methods := #[]
  instanceTypes := #[]
  staticTypes := #[]
  resolved := #[]
  callSites := []
  init := .initialized
  statics := none
  mirror := none

def pool0 : Array CpInfo := pool [(5, u "<init>"), (0, u "()V"), (1, .class_ 10), (1, u "java/lang/Object")] 113

def k0c0 : Code := { maxStack := 0, maxLocals := 1, code := object_method_1_code, exceptionTable := #[], attributes := #[] }
def k0m0 : Method := { name := "<init>", desc := "()V", sig := { parameters := [], returnType := none }, accessFlags := 1, code := some k0c0 }
/-- java/lang/Object -/
def k0 : Class := { plain "java/lang/Object" none with
  accessFlags := 33
  interfaces := #[]
  cf := some (fileOf pool0 8 #[] #[{ accessFlags := 1, nameIndex := 5, descriptorIndex := 6, attributes := #[] }] 33 0 #[] #[])
  fields := #[]
  methods := #[k0m0]
  instanceTypes := #[]
  staticTypes := #[]
  resolved := Array.replicate 124 none
  statics := none }

def pool1 : Array CpInfo := pool [(2, .class_ 4), (1, u "java/lang/Object"), (0, u "<init>"), (0, u "()V"), (2, .long 9223372036854775807), (1, .long 1000000000000000), (1, .methodref 14 15), (0, .class_ 16), (0, .nameAndType 17 18), (0, u "com/example/firmline/firmline/analysis/FaultResponseMeetsDeadlinePinLaw"), (0, u "time"), (0, u "(J)J"), (0, .integer 2147483647), (0, .integer 1000000001), (0, .class_ 22), (0, u "com/example/firmline/firmline/model/Task"), (0, .string 24), (0, u "t"), (0, .methodref 21 26), (0, .nameAndType 5 27), (0, u "(Ljava/lang/String;JJJIJ)V"), (0, .class_ 29), (0, u "com/example/firmline/firmline/analysis/FaultResponse"), (0, .methodref 28 31), (0, .nameAndType 5 32), (0, u "(Lcom/example/firmline/firmline/model/Task;J)V"), (0, .methodref 28 34), (0, .nameAndType 35 36), (0, u "meetsDeadline"), (0, u "()Z"), (2, u "law"), (0, u "(JJJJI)Z")] 3

def k1m0 : Method := { name := "<init>", desc := "()V", sig := { parameters := [], returnType := none }, accessFlags := 1, code := none }
def k1c1 : Code := { maxStack := 4, maxLocals := 2, code := method_2_code, exceptionTable := #[], attributes := #[] }
def k1m1 : Method := { name := "time", desc := "(J)J", sig := { parameters := [.long], returnType := some .long }, accessFlags := 10, code := some k1c1 }
def k1c2 : Code := { maxStack := 14, maxLocals := 17, code := code, exceptionTable := #[], attributes := #[] }
def k1m2 : Method := { name := "law", desc := "(JJJJI)Z", sig := { parameters := [.long, .long, .long, .long, .int], returnType := some .boolean }, accessFlags := 9, code := some k1c2 }
/-- com/example/firmline/firmline/analysis/FaultResponseMeetsDeadlinePinLaw -/
def k1 : Class := { plain "com/example/firmline/firmline/analysis/FaultResponseMeetsDeadlinePinLaw" (some 0) with
  accessFlags := 49
  interfaces := #[]
  cf := some (fileOf pool1 14 #[] #[{ accessFlags := 1, nameIndex := 5, descriptorIndex := 6, attributes := #[] }, { accessFlags := 10, nameIndex := 17, descriptorIndex := 18, attributes := #[] }, { accessFlags := 9, nameIndex := 39, descriptorIndex := 40, attributes := #[] }] 49 2 #[] #[])
  fields := #[]
  methods := #[k1m0, k1m1, k1m2]
  instanceTypes := #[]
  staticTypes := #[]
  resolved := Array.replicate 44 none
  statics := none }

def pool2 : Array CpInfo := pool [(1, .methodref 2 3), (0, .class_ 4), (0, .nameAndType 5 6), (0, u "java/lang/Object"), (0, u "<init>"), (0, u "()V"), (0, .class_ 8), (0, u "java/lang/Record")] 13

def k2c0 : Code := { maxStack := 1, maxLocals := 1, code := jdk_30_method_1_code, exceptionTable := #[], attributes := #[] }
def k2m0 : Method := { name := "<init>", desc := "()V", sig := { parameters := [], returnType := none }, accessFlags := 4, code := some k2c0 }
/-- java/lang/Record -/
def k2 : Class := { plain "java/lang/Record" (some 0) with
  accessFlags := 1057
  interfaces := #[]
  cf := some (fileOf pool2 7 #[] #[{ accessFlags := 4, nameIndex := 5, descriptorIndex := 6, attributes := #[] }] 1057 2 #[] #[])
  fields := #[]
  methods := #[k2m0]
  instanceTypes := #[]
  staticTypes := #[]
  resolved := Array.replicate 22 none
  statics := none }

def pool3 : Array CpInfo := pool [(1, .methodref 2 3), (0, .class_ 4), (0, .nameAndType 5 6), (0, u "java/lang/Record"), (0, u "<init>"), (0, u "()V"), (0, .methodref 8 9), (0, .class_ 10), (0, .nameAndType 11 12), (0, u "com/example/firmline/firmline/model/Task"), (0, u "checkName"), (0, u "(Ljava/lang/String;)V"), (0, .string 14), (0, u "period"), (0, .methodref 8 16), (0, .nameAndType 17 18), (0, u "checkTime"), (0, u "(Ljava/lang/String;J)V"), (0, .string 20), (0, u "deadline"), (0, .string 22), (0, u "cost"), (0, .methodref 8 24), (0, .nameAndType 25 26), (0, u "checkPriority"), (0, u "(J)V"), (0, .string 28), (0, u "recovery"), (0, .fieldref 8 30), (0, .nameAndType 31 32), (0, u "name"), (0, u "Ljava/lang/String;"), (0, .fieldref 8 34), (0, .nameAndType 14 35), (0, u "J"), (0, .fieldref 8 37), (0, .nameAndType 20 35), (0, .fieldref 8 39), (0, .nameAndType 22 35), (0, .fieldref 8 41), (0, .nameAndType 42 43), (0, u "priority"), (0, u "I"), (0, .fieldref 8 45), (0, .nameAndType 28 35), (2, u "(Ljava/lang/String;JJJIJ)V"), (0, .long 1000000000000000), (9, .long 1000000000), (4, .methodref 65 66), (0, .class_ 67), (0, .nameAndType 68 69), (0, u "java/lang/String"), (0, u "isEmpty"), (0, u "()Z"), (0, .methodref 65 71), (0, .nameAndType 72 73), (0, u "length"), (0, u "()I"), (2, .methodref 65 77), (0, .nameAndType 78 79), (0, u "charAt"), (0, u "(I)C"), (14, u "MAX_TIME"), (1, u "MAX_PRIORITY"), (1, u "MAX_NAME_LENGTH"), (10, u "()J")] 35

def k3c0 : Code := { maxStack := 3, maxLocals := 11, code := prog_18_method_1_code, exceptionTable := #[], attributes := #[] }
def k3m0 : Method := { name := "<init>", desc := "(Ljava/lang/String;JJJIJ)V", sig := { parameters := [(.object "java/lang/String"), .long, .long, .long, .int, .long], returnType := none }, accessFlags := 1, code := some k3c0 }
def k3c1 : Code := { maxStack := 5, maxLocals := 3, code := prog_18_method_4_code, exceptionTable := #[], attributes := #[] }
def k3m1 : Method := { name := "checkTime", desc := "(Ljava/lang/String;J)V", sig := { parameters := [(.object "java/lang/String"), .long], returnType := none }, accessFlags := 10, code := some k3c1 }
def k3c2 : Code := { maxStack := 4, maxLocals := 2, code := prog_18_method_5_code, exceptionTable := #[], attributes := #[] }
def k3m2 : Method := { name := "checkPriority", desc := "(J)V", sig := { parameters := [.long], returnType := none }, accessFlags := 8, code := some k3c2 }
def k3c3 : Code := { maxStack := 3, maxLocals := 4, code := prog_18_method_6_code, exceptionTable := #[], attributes := #[] }
def k3m3 : Method := { name := "checkName", desc := "(Ljava/lang/String;)V", sig := { parameters := [(.object "java/lang/String")], returnType := none }, accessFlags := 10, code := some k3c3 }
def k3c4 : Code := { maxStack := 2, maxLocals := 1, code := prog_18_method_12_code, exceptionTable := #[], attributes := #[] }
def k3m4 : Method := { name := "deadline", desc := "()J", sig := { parameters := [], returnType := some .long }, accessFlags := 1, code := some k3c4 }
/-- com/example/firmline/firmline/model/Task -/
def k3 : Class := { plain "com/example/firmline/firmline/model/Task" (some 2) with
  accessFlags := 49
  interfaces := #[]
  cf := some (fileOf pool3 8 #[] #[{ accessFlags := 1, nameIndex := 5, descriptorIndex := 48, attributes := #[] }, { accessFlags := 10, nameIndex := 17, descriptorIndex := 18, attributes := #[] }, { accessFlags := 8, nameIndex := 25, descriptorIndex := 26, attributes := #[] }, { accessFlags := 10, nameIndex := 11, descriptorIndex := 12, attributes := #[] }, { accessFlags := 1, nameIndex := 20, descriptorIndex := 109, attributes := #[] }] 49 2 #[] #[{ accessFlags := 18, nameIndex := 31, descriptorIndex := 32, attributes := #[] }, { accessFlags := 18, nameIndex := 14, descriptorIndex := 35, attributes := #[] }, { accessFlags := 18, nameIndex := 20, descriptorIndex := 35, attributes := #[] }, { accessFlags := 18, nameIndex := 22, descriptorIndex := 35, attributes := #[] }, { accessFlags := 18, nameIndex := 42, descriptorIndex := 43, attributes := #[] }, { accessFlags := 18, nameIndex := 28, descriptorIndex := 35, attributes := #[] }, { accessFlags := 25, nameIndex := 94, descriptorIndex := 35, attributes := #[] }, { accessFlags := 25, nameIndex := 96, descriptorIndex := 43, attributes := #[] }, { accessFlags := 25, nameIndex := 98, descriptorIndex := 43, attributes := #[] }])
  fields := #[{ name := "name", type := (.object "java/lang/String"), accessFlags := 18, slot := 0, constantValue := 0 }, { name := "period", type := .long, accessFlags := 18, slot := 1, constantValue := 0 }, { name := "deadline", type := .long, accessFlags := 18, slot := 2, constantValue := 0 }, { name := "cost", type := .long, accessFlags := 18, slot := 3, constantValue := 0 }, { name := "priority", type := .int, accessFlags := 18, slot := 4, constantValue := 0 }, { name := "recovery", type := .long, accessFlags := 18, slot := 5, constantValue := 0 }, { name := "MAX_TIME", type := .long, accessFlags := 25, slot := 0, constantValue := 0 }, { name := "MAX_PRIORITY", type := .int, accessFlags := 25, slot := 1, constantValue := 0 }, { name := "MAX_NAME_LENGTH", type := .int, accessFlags := 25, slot := 2, constantValue := 0 }]
  methods := #[k3m0, k3m1, k3m2, k3m3, k3m4]
  instanceTypes := #[(.object "java/lang/String"), .long, .long, .long, .int, .long]
  staticTypes := #[.long, .int, .int]
  resolved := Array.replicate 145 none
  statics := none }

def pool4 : Array CpInfo := pool [(1, .class_ 2), (0, u "java/io/Serializable"), (0, .class_ 4), (0, u "java/lang/Object")] 2

/-- java/io/Serializable -/
def k4 : Class := { plain "java/io/Serializable" (some 0) with
  accessFlags := 1537
  interfaces := #[]
  cf := some (fileOf pool4 1 #[] #[] 1537 3 #[] #[])
  fields := #[]
  methods := #[]
  instanceTypes := #[]
  staticTypes := #[]
  resolved := Array.replicate 7 none
  statics := none }

def pool5 : Array CpInfo := pool [(1, .class_ 2), (0, u "java/lang/Comparable"), (0, .class_ 4), (0, u "java/lang/Object")] 7

/-- java/lang/Comparable -/
def k5 : Class := { plain "java/lang/Comparable" (some 0) with
  accessFlags := 1537
  interfaces := #[]
  cf := some (fileOf pool5 1 #[] #[] 1537 3 #[] #[])
  fields := #[]
  methods := #[]
  instanceTypes := #[]
  staticTypes := #[]
  resolved := Array.replicate 12 none
  statics := none }

def pool6 : Array CpInfo := pool [(2, .class_ 4), (1, u "java/lang/CharSequence"), (42, .class_ 48), (0, u "java/lang/CharSequence$1CodePointIterator"), (10, .class_ 60), (0, u "java/lang/CharSequence$1CharIterator"), (5, .class_ 67), (0, u "java/lang/Object")] 63

/-- java/lang/CharSequence -/
def k6 : Class := { plain "java/lang/CharSequence" (some 0) with
  accessFlags := 1537
  interfaces := #[]
  cf := some (fileOf pool6 2 #[.nestMembers #[47, 59]] #[] 1537 66 #[] #[])
  fields := #[]
  methods := #[]
  instanceTypes := #[]
  staticTypes := #[]
  resolved := Array.replicate 131 none
  statics := none }

def pool7 : Array CpInfo := pool [(1, .class_ 2), (0, u "java/lang/constant/Constable"), (0, .class_ 4), (0, u "java/lang/Object")] 6

/-- java/lang/constant/Constable -/
def k7 : Class := { plain "java/lang/constant/Constable" (some 0) with
  accessFlags := 1537
  interfaces := #[]
  cf := some (fileOf pool7 1 #[] #[] 1537 3 #[] #[])
  fields := #[]
  methods := #[]
  instanceTypes := #[]
  staticTypes := #[]
  resolved := Array.replicate 11 none
  statics := none }

def pool8 : Array CpInfo := pool [(1, .class_ 2), (0, u "java/lang/constant/ConstantDesc"), (0, .class_ 4), (0, u "java/lang/Object")] 32

/-- java/lang/constant/ConstantDesc -/
def k8 : Class := { plain "java/lang/constant/ConstantDesc" (some 0) with
  accessFlags := 1537
  interfaces := #[]
  cf := some (fileOf pool8 1 #[] #[] 1537 3 #[] #[])
  fields := #[]
  methods := #[]
  instanceTypes := #[]
  staticTypes := #[]
  resolved := Array.replicate 37 none
  statics := none }

def pool9 : Array CpInfo := pool [(2, .class_ 4), (1, u "java/lang/Object"), (0, u "<init>"), (0, u "()V"), (2, .fieldref 10 11), (0, .class_ 12), (0, .nameAndType 13 14), (0, u "java/lang/String"), (0, u "value"), (0, u "[B"), (0, .fieldref 10 16), (0, .nameAndType 17 18), (0, u "coder"), (0, u "B"), (2, u "hash"), (0, u "I"), (2, u "hashIsZero"), (0, u "Z"), (11, .fieldref 10 39), (0, .nameAndType 40 26), (0, u "COMPACT_STRINGS"), (66, .class_ 109), (1, u "java/lang/StringLatin1"), (32, u "()Z"), (191, u "()I"), (0, .methodref 10 336), (0, .nameAndType 17 337), (0, u "()B"), (25, u "([BI)C"), (27, u "(II)V"), (35, u "(I)C"), (64, .methodref 10 493), (0, .nameAndType 494 142), (0, u "isLatin1"), (0, .methodref 107 496), (0, .nameAndType 497 363), (0, u "charAt"), (3, u "checkIndex"), (5, u "length"), (67, .class_ 576), (0, u "java/lang/CharSequence"), (22, u "CASE_INSENSITIVE_ORDER"), (0, u "Ljava/util/Comparator;"), (91, u "isEmpty"), (360, .fieldref 1054 1055), (0, .class_ 1056), (0, .nameAndType 1057 1058), (0, u "jdk/internal/util/Preconditions"), (0, u "SIOOBE_FORMATTER"), (0, u "Ljava/util/function/BiFunction;"), (0, .methodref 1054 1060), (0, .nameAndType 501 1061), (0, u "(IILjava/util/function/BiFunction;)I"), (39, u "serialPersistentFields"), (0, u "[Ljava/io/ObjectStreamField;"), (0, .class_ 1104), (0, u "java/lang/String$CaseInsensitiveComparator"), (1, .class_ 1107), (0, u "java/io/Serializable"), (0, .class_ 1109), (0, u "java/lang/Comparable"), (0, .class_ 1111), (0, u "java/lang/constant/Constable"), (0, .class_ 1113), (0, u "java/lang/constant/ConstantDesc"), (2, u "serialVersionUID"), (0, u "J"), (3, u "REPL"), (0, u "C"), (2, u "LATIN1"), (1, u "UTF16")] 323

def k9m0 : Method := { name := "<init>", desc := "()V", sig := { parameters := [], returnType := none }, accessFlags := 1, code := none }
def k9c1 : Code := { maxStack := 2, maxLocals := 1, code := jdk_42_method_54_code, exceptionTable := #[], attributes := #[] }
def k9m1 : Method := { name := "length", desc := "()I", sig := { parameters := [], returnType := some .int }, accessFlags := 1, code := some k9c1 }
def k9c2 : Code := { maxStack := 1, maxLocals := 1, code := jdk_42_method_55_code, exceptionTable := #[], attributes := #[] }
def k9m2 : Method := { name := "isEmpty", desc := "()Z", sig := { parameters := [], returnType := some .boolean }, accessFlags := 1, code := some k9c2 }
def k9c3 : Code := { maxStack := 2, maxLocals := 2, code := jdk_42_method_56_code, exceptionTable := #[], attributes := #[] }
def k9m3 : Method := { name := "charAt", desc := "(I)C", sig := { parameters := [.int], returnType := some .char }, accessFlags := 1, code := some k9c3 }
def k9c4 : Code := { maxStack := 1, maxLocals := 1, code := jdk_42_method_152_code, exceptionTable := #[], attributes := #[] }
def k9m4 : Method := { name := "coder", desc := "()B", sig := { parameters := [], returnType := some .byte }, accessFlags := 0, code := some k9c4 }
def k9c5 : Code := { maxStack := 1, maxLocals := 1, code := jdk_42_method_154_code, exceptionTable := #[], attributes := #[] }
def k9m5 : Method := { name := "isLatin1", desc := "()Z", sig := { parameters := [], returnType := some .boolean }, accessFlags := 0, code := some k9c5 }
def k9c6 : Code := { maxStack := 3, maxLocals := 2, code := jdk_42_method_155_code, exceptionTable := #[], attributes := #[] }
def k9m6 : Method := { name := "checkIndex", desc := "(II)V", sig := { parameters := [.int, .int], returnType := none }, accessFlags := 8, code := some k9c6 }
/-- java/lang/String -/
def k9 : Class := { plain "java/lang/String" (some 0) with
  accessFlags := 49
  interfaces := #[4, 5, 6, 7, 8]
  cf := some (fileOf pool9 10 #[.nestMembers #[1103]] #[{ accessFlags := 1, nameIndex := 5, descriptorIndex := 6, attributes := #[] }, { accessFlags := 1, nameIndex := 507, descriptorIndex := 334, attributes := #[] }, { accessFlags := 1, nameIndex := 692, descriptorIndex := 142, attributes := #[] }, { accessFlags := 1, nameIndex := 497, descriptorIndex := 427, attributes := #[] }, { accessFlags := 0, nameIndex := 17, descriptorIndex := 337, attributes := #[] }, { accessFlags := 0, nameIndex := 494, descriptorIndex := 142, attributes := #[] }, { accessFlags := 8, nameIndex := 501, descriptorIndex := 391, attributes := #[] }] 49 2 #[1106, 1108, 575, 1110, 1112] #[{ accessFlags := 18, nameIndex := 13, descriptorIndex := 14, attributes := #[] }, { accessFlags := 18, nameIndex := 17, descriptorIndex := 18, attributes := #[] }, { accessFlags := 2, nameIndex := 21, descriptorIndex := 22, attributes := #[] }, { accessFlags := 2, nameIndex := 25, descriptorIndex := 26, attributes := #[] }, { accessFlags := 26, nameIndex := 1116, descriptorIndex := 1117, attributes := #[] }, { accessFlags := 24, nameIndex := 40, descriptorIndex := 26, attributes := #[] }, { accessFlags := 26, nameIndex := 1101, descriptorIndex := 1102, attributes := #[] }, { accessFlags := 26, nameIndex := 1121, descriptorIndex := 1122, attributes := #[] }, { accessFlags := 25, nameIndex := 599, descriptorIndex := 600, attributes := #[] }, { accessFlags := 24, nameIndex := 1125, descriptorIndex := 18, attributes := #[] }, { accessFlags := 24, nameIndex := 1127, descriptorIndex := 18, attributes := #[] }])
  fields := #[{ name := "value", type := (.array .byte), accessFlags := 18, slot := 0, constantValue := 0 }, { name := "coder", type := .byte, accessFlags := 18, slot := 1, constantValue := 0 }, { name := "hash", type := .int, accessFlags := 2, slot := 2, constantValue := 0 }, { name := "hashIsZero", type := .boolean, accessFlags := 2, slot := 3, constantValue := 0 }, { name := "serialVersionUID", type := .long, accessFlags := 26, slot := 0, constantValue := 0 }, { name := "COMPACT_STRINGS", type := .boolean, accessFlags := 24, slot := 1, constantValue := 0 }, { name := "serialPersistentFields", type := (.array (.object "java/io/ObjectStreamField")), accessFlags := 26, slot := 2, constantValue := 0 }, { name := "REPL", type := .char, accessFlags := 26, slot := 3, constantValue := 0 }, { name := "CASE_INSENSITIVE_ORDER", type := (.object "java/util/Comparator"), accessFlags := 25, slot := 4, constantValue := 0 }, { name := "LATIN1", type := .byte, accessFlags := 24, slot := 5, constantValue := 0 }, { name := "UTF16", type := .byte, accessFlags := 24, slot := 6, constantValue := 0 }]
  methods := #[k9m0, k9m1, k9m2, k9m3, k9m4, k9m5, k9m6]
  instanceTypes := #[(.array .byte), .byte, .int, .boolean]
  staticTypes := #[.long, .boolean, (.array (.object "java/io/ObjectStreamField")), .char, (.object "java/util/Comparator"), .byte, .byte]
  resolved := Array.replicate 1451 none
  statics := some 0 }

def pool10 : Array CpInfo := pool [(1, .class_ 2), (0, u "java/lang/String"), (1, .class_ 6), (1, u "java/lang/Object"), (0, u "<init>"), (0, u "()V"), (0, .methodref 1 10), (0, .nameAndType 11 12), (0, u "checkIndex"), (0, u "(II)V"), (1, .class_ 16), (1, u "java/lang/StringLatin1"), (36, u "([BI)C"), (67, u "$assertionsDisabled"), (0, u "Z"), (98, .class_ 223), (1, u "java/lang/StringLatin1$LinesSpliterator"), (28, u "charAt"), (137, .class_ 391), (0, u "java/lang/StringLatin1$CharsSpliterator")] 3

def k10m0 : Method := { name := "<init>", desc := "()V", sig := { parameters := [], returnType := none }, accessFlags := 0, code := none }
def k10c1 : Code := { maxStack := 2, maxLocals := 2, code := jdk_43_method_2_code, exceptionTable := #[], attributes := #[] }
def k10m1 : Method := { name := "charAt", desc := "([BI)C", sig := { parameters := [(.array .byte), .int], returnType := some .char }, accessFlags := 9, code := some k10c1 }
/-- java/lang/StringLatin1 -/
def k10 : Class := { plain "java/lang/StringLatin1" (some 0) with
  accessFlags := 48
  interfaces := #[]
  cf := some (fileOf pool10 14 #[.nestMembers #[390, 221]] #[{ accessFlags := 0, nameIndex := 7, descriptorIndex := 8, attributes := #[] }, { accessFlags := 9, nameIndex := 252, descriptorIndex := 53, attributes := #[] }] 48 4 #[] #[{ accessFlags := 4120, nameIndex := 121, descriptorIndex := 122, attributes := #[] }])
  fields := #[{ name := "$assertionsDisabled", type := .boolean, accessFlags := 4120, slot := 0, constantValue := 0 }]
  methods := #[k10m0, k10m1]
  instanceTypes := #[]
  staticTypes := #[.boolean]
  resolved := Array.replicate 395 none
  statics := none }

def pool11 : Array CpInfo := pool [(2, .class_ 4), (1, u "java/lang/Object"), (0, u "<init>"), (0, u "()V"), (17, .class_ 26), (1, u "jdk/internal/util/Preconditions"), (6, u "checkIndex"), (21, .class_ 56), (0, u "jdk/internal/util/Preconditions$4"), (57, .class_ 115), (0, u "jdk/internal/util/Preconditions$1"), (7, u "SIOOBE_FORMATTER"), (0, u "Ljava/util/function/BiFunction;"), (0, .class_ 126), (0, u "jdk/internal/util/Preconditions$2"), (3, u "AIOOBE_FORMATTER"), (0, .class_ 132), (0, u "jdk/internal/util/Preconditions$3"), (3, u "IOOBE_FORMATTER"), (41, u "(IILjava/util/function/BiFunction;)I")] 15

def k11m0 : Method := { name := "<init>", desc := "()V", sig := { parameters := [], returnType := none }, accessFlags := 1, code := none }
def k11c1 : Code := { maxStack := 3, maxLocals := 3, code := jdk_41_method_11_code, exceptionTable := #[], attributes := #[] }
def k11m1 : Method := { name := "checkIndex", desc := "(IILjava/util/function/BiFunction;)I", sig := { parameters := [.int, .int, (.object "java/util/function/BiFunction")], returnType := some .int }, accessFlags := 9, code := some k11c1 }
/-- jdk/internal/util/Preconditions -/
def k11 : Class := { plain "jdk/internal/util/Preconditions" (some 0) with
  accessFlags := 33
  interfaces := #[]
  cf := some (fileOf pool11 24 #[.nestMembers #[55, 131, 125, 114]] #[{ accessFlags := 1, nameIndex := 5, descriptorIndex := 6, attributes := #[] }, { accessFlags := 9, nameIndex := 33, descriptorIndex := 178, attributes := #[] }] 33 2 #[] #[{ accessFlags := 25, nameIndex := 123, descriptorIndex := 124, attributes := #[] }, { accessFlags := 25, nameIndex := 130, descriptorIndex := 124, attributes := #[] }, { accessFlags := 25, nameIndex := 136, descriptorIndex := 124, attributes := #[] }])
  fields := #[{ name := "SIOOBE_FORMATTER", type := (.object "java/util/function/BiFunction"), accessFlags := 25, slot := 0, constantValue := 0 }, { name := "AIOOBE_FORMATTER", type := (.object "java/util/function/BiFunction"), accessFlags := 25, slot := 1, constantValue := 0 }, { name := "IOOBE_FORMATTER", type := (.object "java/util/function/BiFunction"), accessFlags := 25, slot := 2, constantValue := 0 }]
  methods := #[k11m0, k11m1]
  instanceTypes := #[]
  staticTypes := #[(.object "java/util/function/BiFunction"), (.object "java/util/function/BiFunction"), (.object "java/util/function/BiFunction")]
  resolved := Array.replicate 194 none
  statics := some 1 }

def pool12 : Array CpInfo := pool [(1, .methodref 2 3), (0, .class_ 4), (0, .nameAndType 5 6), (0, u "java/lang/Record"), (0, u "<init>"), (0, u "()V"), (0, .fieldref 8 9), (0, .class_ 10), (0, .nameAndType 11 12), (0, u "com/example/firmline/firmline/analysis/FaultResponse"), (0, u "task"), (0, u "Lcom/example/firmline/firmline/model/Task;"), (0, .fieldref 8 14), (0, .nameAndType 15 16), (0, u "value"), (0, u "J"), (0, .methodref 18 19), (0, .class_ 20), (0, .nameAndType 21 22), (0, u "com/example/firmline/firmline/model/Task"), (0, u "deadline"), (0, u "()J"), (12, u "(Lcom/example/firmline/firmline/model/Task;J)V"), (3, u "meetsDeadline"), (0, u "()Z")] 26

def k12c0 : Code := { maxStack := 3, maxLocals := 4, code := prog_3_method_1_code, exceptionTable := #[], attributes := #[] }
def k12m0 : Method := { name := "<init>", desc := "(Lcom/example/firmline/firmline/model/Task;J)V", sig := { parameters := [(.object "com/example/firmline/firmline/model/Task"), .long], returnType := none }, accessFlags := 1, code := some k12c0 }
def k12c1 : Code := { maxStack := 4, maxLocals := 1, code := prog_3_method_2_code, exceptionTable := #[], attributes := #[] }
def k12m1 : Method := { name := "meetsDeadline", desc := "()Z", sig := { parameters := [], returnType := some .boolean }, accessFlags := 1, code := some k12c1 }
/-- com/example/firmline/firmline/analysis/FaultResponse -/
def k12 : Class := { plain "com/example/firmline/firmline/analysis/FaultResponse" (some 2) with
  accessFlags := 49
  interfaces := #[]
  cf := some (fileOf pool12 8 #[] #[{ accessFlags := 1, nameIndex := 5, descriptorIndex := 35, attributes := #[] }, { accessFlags := 1, nameIndex := 39, descriptorIndex := 40, attributes := #[] }] 49 2 #[] #[{ accessFlags := 18, nameIndex := 11, descriptorIndex := 12, attributes := #[] }, { accessFlags := 18, nameIndex := 15, descriptorIndex := 16, attributes := #[] }])
  fields := #[{ name := "task", type := (.object "com/example/firmline/firmline/model/Task"), accessFlags := 18, slot := 0, constantValue := 0 }, { name := "value", type := .long, accessFlags := 18, slot := 1, constantValue := 0 }]
  methods := #[k12m0, k12m1]
  instanceTypes := #[(.object "com/example/firmline/firmline/model/Task"), .long]
  staticTypes := #[]
  resolved := Array.replicate 67 none
  statics := none }

def pool13 : Array CpInfo := pool [(9, u "<init>"), (6, .class_ 18), (1, u "java/lang/Object"), (0, u "()V"), (1, .class_ 23), (1, u "jdk/internal/util/ArraysSupport"), (0, u "LOG2_ARRAY_LONG_INDEX_SCALE"), (0, u "I"), (2, u "U"), (0, u "Ljdk/internal/misc/Unsafe;"), (8, u "BIG_ENDIAN"), (0, u "Z"), (8, u "LOG2_BYTE_BIT_SIZE"), (4, u "LOG2_ARRAY_INT_INDEX_SCALE"), (54, u "JLA"), (0, u "Ljdk/internal/access/JavaLangAccess;"), (11, u "LOG2_ARRAY_BOOLEAN_INDEX_SCALE"), (9, u "LOG2_ARRAY_BYTE_INDEX_SCALE"), (5, u "LOG2_ARRAY_CHAR_INDEX_SCALE"), (5, u "LOG2_ARRAY_SHORT_INDEX_SCALE"), (18, u "LOG2_ARRAY_FLOAT_INDEX_SCALE"), (24, u "LOG2_ARRAY_DOUBLE_INDEX_SCALE"), (89, u "T_BOOLEAN"), (2, u "T_CHAR"), (1, u "T_FLOAT"), (1, u "T_DOUBLE"), (1, u "T_BYTE"), (1, u "T_SHORT"), (1, u "T_INT"), (1, u "T_LONG"), (1, u "SOFT_MAX_ARRAY_LENGTH")] 83

def k13m0 : Method := { name := "<init>", desc := "()V", sig := { parameters := [], returnType := none }, accessFlags := 2, code := none }
/-- jdk/internal/util/ArraysSupport -/
def k13 : Class := { plain "jdk/internal/util/ArraysSupport" (some 0) with
  accessFlags := 33
  interfaces := #[]
  cf := some (fileOf pool13 21 #[] #[{ accessFlags := 2, nameIndex := 9, descriptorIndex := 19, attributes := #[] }] 33 16 #[] #[{ accessFlags := 24, nameIndex := 28, descriptorIndex := 29, attributes := #[] }, { accessFlags := 26, nameIndex := 38, descriptorIndex := 39, attributes := #[] }, { accessFlags := 25, nameIndex := 121, descriptorIndex := 25, attributes := #[] }, { accessFlags := 25, nameIndex := 131, descriptorIndex := 25, attributes := #[] }, { accessFlags := 25, nameIndex := 137, descriptorIndex := 25, attributes := #[] }, { accessFlags := 25, nameIndex := 143, descriptorIndex := 25, attributes := #[] }, { accessFlags := 25, nameIndex := 53, descriptorIndex := 25, attributes := #[] }, { accessFlags := 25, nameIndex := 24, descriptorIndex := 25, attributes := #[] }, { accessFlags := 25, nameIndex := 162, descriptorIndex := 25, attributes := #[] }, { accessFlags := 25, nameIndex := 187, descriptorIndex := 25, attributes := #[] }, { accessFlags := 26, nameIndex := 48, descriptorIndex := 25, attributes := #[] }, { accessFlags := 25, nameIndex := 277, descriptorIndex := 25, attributes := #[] }, { accessFlags := 25, nameIndex := 280, descriptorIndex := 25, attributes := #[] }, { accessFlags := 25, nameIndex := 282, descriptorIndex := 25, attributes := #[] }, { accessFlags := 25, nameIndex := 284, descriptorIndex := 25, attributes := #[] }, { accessFlags := 25, nameIndex := 286, descriptorIndex := 25, attributes := #[] }, { accessFlags := 25, nameIndex := 288, descriptorIndex := 25, attributes := #[] }, { accessFlags := 25, nameIndex := 290, descriptorIndex := 25, attributes := #[] }, { accessFlags := 25, nameIndex := 292, descriptorIndex := 25, attributes := #[] }, { accessFlags := 26, nameIndex := 108, descriptorIndex := 109, attributes := #[] }, { accessFlags := 25, nameIndex := 294, descriptorIndex := 25, attributes := #[] }])
  fields := #[{ name := "U", type := (.object "jdk/internal/misc/Unsafe"), accessFlags := 24, slot := 0, constantValue := 0 }, { name := "BIG_ENDIAN", type := .boolean, accessFlags := 26, slot := 1, constantValue := 0 }, { name := "LOG2_ARRAY_BOOLEAN_INDEX_SCALE", type := .int, accessFlags := 25, slot := 2, constantValue := 0 }, { name := "LOG2_ARRAY_BYTE_INDEX_SCALE", type := .int, accessFlags := 25, slot := 3, constantValue := 0 }, { name := "LOG2_ARRAY_CHAR_INDEX_SCALE", type := .int, accessFlags := 25, slot := 4, constantValue := 0 }, { name := "LOG2_ARRAY_SHORT_INDEX_SCALE", type := .int, accessFlags := 25, slot := 5, constantValue := 0 }, { name := "LOG2_ARRAY_INT_INDEX_SCALE", type := .int, accessFlags := 25, slot := 6, constantValue := 0 }, { name := "LOG2_ARRAY_LONG_INDEX_SCALE", type := .int, accessFlags := 25, slot := 7, constantValue := 0 }, { name := "LOG2_ARRAY_FLOAT_INDEX_SCALE", type := .int, accessFlags := 25, slot := 8, constantValue := 0 }, { name := "LOG2_ARRAY_DOUBLE_INDEX_SCALE", type := .int, accessFlags := 25, slot := 9, constantValue := 0 }, { name := "LOG2_BYTE_BIT_SIZE", type := .int, accessFlags := 26, slot := 10, constantValue := 0 }, { name := "T_BOOLEAN", type := .int, accessFlags := 25, slot := 11, constantValue := 0 }, { name := "T_CHAR", type := .int, accessFlags := 25, slot := 12, constantValue := 0 }, { name := "T_FLOAT", type := .int, accessFlags := 25, slot := 13, constantValue := 0 }, { name := "T_DOUBLE", type := .int, accessFlags := 25, slot := 14, constantValue := 0 }, { name := "T_BYTE", type := .int, accessFlags := 25, slot := 15, constantValue := 0 }, { name := "T_SHORT", type := .int, accessFlags := 25, slot := 16, constantValue := 0 }, { name := "T_INT", type := .int, accessFlags := 25, slot := 17, constantValue := 0 }, { name := "T_LONG", type := .int, accessFlags := 25, slot := 18, constantValue := 0 }, { name := "JLA", type := (.object "jdk/internal/access/JavaLangAccess"), accessFlags := 26, slot := 19, constantValue := 0 }, { name := "SOFT_MAX_ARRAY_LENGTH", type := .int, accessFlags := 25, slot := 20, constantValue := 0 }]
  methods := #[k13m0]
  instanceTypes := #[]
  staticTypes := #[(.object "jdk/internal/misc/Unsafe"), .boolean, .int, .int, .int, .int, .int, .int, .int, .int, .int, .int, .int, .int, .int, .int, .int, .int, .int, (.object "jdk/internal/access/JavaLangAccess"), .int]
  resolved := Array.replicate 378 none
  statics := none }

def pool14 : Array CpInfo := pool [(1, u "java/lang/Cloneable"), (0, .class_ 1), (0, u "java/lang/Object"), (0, .class_ 3)] 3

/-- java/lang/Cloneable -/
def k14 : Class := { plain "java/lang/Cloneable" (some 0) with
  accessFlags := 1537
  interfaces := #[]
  cf := some (fileOf pool14 2 #[] #[] 1537 4 #[] #[])
  fields := #[]
  methods := #[]
  instanceTypes := #[]
  staticTypes := #[]
  resolved := Array.replicate 8 none
  statics := none }

/-- the primitive byte -/
def k15 : Class := { plain "byte" none with kind := .primitive 'B', accessFlags := 0x411 }
/-- [B -/
def k16 : Class := { plain "[B" (some 0) with kind := .array 15 .byte, interfaces := #[14, 4], accessFlags := 1041 }

/-- the primitive int -/
def k17 : Class := { plain "int" none with kind := .primitive 'I', accessFlags := 0x411 }
/-- [I -/
def k18 : Class := { plain "[I" (some 0) with kind := .array 17 .int, interfaces := #[14, 4], accessFlags := 1041 }

def heap : Heap := #[{ cls := 9, slots := #[.long 0, .int 1, .null, .int 0, .null, .int 0, .int 0], vm := .statics 9 },
  { cls := 11, slots := #[.null, .null, .null], vm := .statics 11 }]
def classes : Array Class := #[k0, k1, k2, k3, k4, k5, k6, k7, k8, k9, k10, k11, k12, k13, k14, k15, k16, k17, k18]
def interned : List (Array UInt16 × Addr) := []
def slotsUsed : Nat := 10
def theMethod : MethodId := ⟨1, 2⟩
def args0 : Array Value := #[.long 3, .long 4, .long 5, .long 6, .int 7]
def aboutOver (below : List Frame) : State where
  vm := { classes := classes, interned := interned.toArray }
  heap := heap
  slotsUsed := slotsUsed
  threads := #[{ frames := .invoking theMethod args0 :: below }]
def below0 : List Frame := [.native { method := ⟨0, 0⟩, args := #[] }]
def about1 : State := aboutOver below0
def p0 : Program := .bare "" "" ""
def e0 : Env := launch0.env 0 0 0
theorem w_frames : about1.frames = Frame.invoking theMethod args0 :: below0 := rfl
set_option maxRecDepth 65536 in
theorem w_args : argsFit about1.vm theMethod args0 = true := by decide +kernel
set_option maxRecDepth 65536 in
theorem w_heap : heapFits about1 = true := by decide +kernel
set_option maxRecDepth 65536 in
theorem w_runnable : about1.curStatus? = some .runnable := by decide +kernel
set_option maxRecDepth 65536 in
theorem w_alone : about1.alone = true := by decide +kernel
set_option maxRecDepth 65536 in
theorem w_named : about1.methodNamed? x = some theMethod := by decide +kernel
set_option maxRecDepth 65536 in
theorem w_hears : about1.hears theMethod below0 = true := by decide +kernel
set_option maxRecDepth 65536 in
theorem w_ripe : about1.ripe theMethod args0 below0 = true := by decide +kernel
theorem w_running : about1.status = .running := rfl
set_option maxRecDepth 65536 in
theorem w_room : about1.hasRoom e0.platform room_1 = true :=
  launch0.hasRoom_least _ room_1 (by decide +kernel) (by decide +kernel) (by decide +kernel) (by decide +kernel) (by decide +kernel) (by decide +kernel)
theorem allAtoms_all (ts : List Jvm.Cond) (a : Array Jvm.Value) (st : Jvm.State) : (allAtoms ts).before a st = ts.all (fun c => c.before a st) := by
  induction ts with
  | nil => rfl
  | cons c t ih =>
    show (Jvm.Cond.and c (allAtoms t)).before a st = _
    rw [Jvm.Cond.before_and, ih, List.all_cons]
def words1 : List Jvm.Cond := Jvm.Cond.code x code maxLocals ret :: tables_1
/-- a 'code' word, met by the world's own term for the bytes: nothing is compared byte by byte -/
theorem code_word {y : MethodName} {bytes : ByteArray} {mx : Nat} {rt : Option FieldType} {a : Array Value} {s : State} {m : MethodId} {meth : Method} {c : Code} (h1 : s.methodNamed? y = some m) (h2 : s.vm.method? m = some meth) (h3 : meth.code = some c) (h4 : c.code = bytes)
    (h5 : (c.maxLocals == mx && c.exceptionTable.isEmpty && decide (c.maxStack ≤ mostOperands) && decide (meth.sig.returnType = rt) && !meth.locks && decide (parseMethodDescriptor y.desc = some meth.sig)) = true) : (Jvm.Cond.code y bytes mx rt).before a s = true := by
  simp only [Bool.and_eq_true, beq_iff_eq, Bool.not_eq_true', decide_eq_true_eq] at h5
  obtain ⟨⟨⟨⟨⟨g1, g2⟩, g3⟩, g4⟩, g5⟩, g6⟩ := h5
  simp [Cond.before, Cond.holds, Cond.value, h1, h2, h3, h4, g1, g2, g3, g4, g5, g6]
def isCode : Jvm.Cond → Bool
  | .code _ _ _ _ => true
  | _ => false
theorem all_split {L : List Jvm.Cond} {P : Jvm.Cond → Bool} (h1 : L.all (fun c => isCode c || P c) = true) (h2 : ∀ c ∈ L.filter isCode, P c = true) : L.all P = true := by
  refine List.all_eq_true.mpr fun c hc => ?_
  have h := List.all_eq_true.mp h1 c hc
  rcases Bool.eq_false_or_eq_true (isCode c) with hi | hi
  · exact h2 c (List.mem_filter.mpr ⟨hc, hi⟩)
  · simpa [hi] using h
set_option maxRecDepth 65536 in
theorem w_c0 : (Jvm.Cond.code x code maxLocals ret).before args0 about1 = true := code_word (m := ⟨1, 2⟩) (meth := k1m2) (c := k1c2) (by decide +kernel) rfl rfl rfl (by decide +kernel)
set_option maxRecDepth 65536 in
theorem w_c1 : (Jvm.Cond.code ({ cls := "com/example/firmline/firmline/analysis/FaultResponseMeetsDeadlinePinLaw", name := "time", desc := "(J)J" } : Jvm.MethodName) method_2_code (2 : Nat) (Option.some Jvm.ClassFile.FieldType.long)).before args0 about1 = true := code_word (m := ⟨1, 1⟩) (meth := k1m1) (c := k1c1) (by decide +kernel) rfl rfl rfl (by decide +kernel)
set_option maxRecDepth 65536 in
theorem w_c2 : (Jvm.Cond.code ({ cls := "com/example/firmline/firmline/model/Task", name := "<init>", desc := "(Ljava/lang/String;JJJIJ)V" } : Jvm.MethodName) prog_18_method_1_code (11 : Nat) (Option.none : Option Jvm.ClassFile.FieldType)).before args0 about1 = true := code_word (m := ⟨3, 0⟩) (meth := k3m0) (c := k3c0) (by decide +kernel) rfl rfl rfl (by decide +kernel)
set_option maxRecDepth 65536 in
theorem w_c3 : (Jvm.Cond.code ({ cls := "java/lang/Record", name := "<init>", desc := "()V" } : Jvm.MethodName) jdk_30_method_1_code (1 : Nat) (Option.none : Option Jvm.ClassFile.FieldType)).before args0 about1 = true := code_word (m := ⟨2, 0⟩) (meth := k2m0) (c := k2c0) (by decide +kernel) rfl rfl rfl (by decide +kernel)
set_option maxRecDepth 65536 in
theorem w_c4 : (Jvm.Cond.code ({ cls := "java/lang/Object", name := "<init>", desc := "()V" } : Jvm.MethodName) object_method_1_code (1 : Nat) (Option.none : Option Jvm.ClassFile.FieldType)).before args0 about1 = true := code_word (m := ⟨0, 0⟩) (meth := k0m0) (c := k0c0) (by decide +kernel) rfl rfl rfl (by decide +kernel)
set_option maxRecDepth 65536 in
theorem w_c5 : (Jvm.Cond.code ({ cls := "com/example/firmline/firmline/model/Task", name := "checkName", desc := "(Ljava/lang/String;)V" } : Jvm.MethodName) prog_18_method_6_code (4 : Nat) (Option.none : Option Jvm.ClassFile.FieldType)).before args0 about1 = true := code_word (m := ⟨3, 3⟩) (meth := k3m3) (c := k3c3) (by decide +kernel) rfl rfl rfl (by decide +kernel)
set_option maxRecDepth 65536 in
theorem w_c6 : (Jvm.Cond.code ({ cls := "java/lang/String", name := "isEmpty", desc := "()Z" } : Jvm.MethodName) jdk_42_method_55_code (1 : Nat) (Option.some Jvm.ClassFile.FieldType.boolean)).before args0 about1 = true := code_word (m := ⟨9, 2⟩) (meth := k9m2) (c := k9c2) (by decide +kernel) rfl rfl rfl (by decide +kernel)
set_option maxRecDepth 65536 in
theorem w_c7 : (Jvm.Cond.code ({ cls := "java/lang/String", name := "length", desc := "()I" } : Jvm.MethodName) jdk_42_method_54_code (1 : Nat) (Option.some Jvm.ClassFile.FieldType.int)).before args0 about1 = true := code_word (m := ⟨9, 1⟩) (meth := k9m1) (c := k9c1) (by decide +kernel) rfl rfl rfl (by decide +kernel)
set_option maxRecDepth 65536 in
theorem w_c8 : (Jvm.Cond.code ({ cls := "java/lang/String", name := "coder", desc := "()B" } : Jvm.MethodName) jdk_42_method_152_code (1 : Nat) (Option.some Jvm.ClassFile.FieldType.byte)).before args0 about1 = true := code_word (m := ⟨9, 4⟩) (meth := k9m4) (c := k9c4) (by decide +kernel) rfl rfl rfl (by decide +kernel)
set_option maxRecDepth 65536 in
theorem w_c9 : (Jvm.Cond.code ({ cls := "java/lang/String", name := "charAt", desc := "(I)C" } : Jvm.MethodName) jdk_42_method_56_code (2 : Nat) (Option.some Jvm.ClassFile.FieldType.char)).before args0 about1 = true := code_word (m := ⟨9, 3⟩) (meth := k9m3) (c := k9c3) (by decide +kernel) rfl rfl rfl (by decide +kernel)
set_option maxRecDepth 65536 in
theorem w_c10 : (Jvm.Cond.code ({ cls := "java/lang/String", name := "isLatin1", desc := "()Z" } : Jvm.MethodName) jdk_42_method_154_code (1 : Nat) (Option.some Jvm.ClassFile.FieldType.boolean)).before args0 about1 = true := code_word (m := ⟨9, 5⟩) (meth := k9m5) (c := k9c5) (by decide +kernel) rfl rfl rfl (by decide +kernel)
set_option maxRecDepth 65536 in
theorem w_c11 : (Jvm.Cond.code ({ cls := "java/lang/StringLatin1", name := "charAt", desc := "([BI)C" } : Jvm.MethodName) jdk_43_method_2_code (2 : Nat) (Option.some Jvm.ClassFile.FieldType.char)).before args0 about1 = true := code_word (m := ⟨10, 1⟩) (meth := k10m1) (c := k10c1) (by decide +kernel) rfl rfl rfl (by decide +kernel)
set_option maxRecDepth 65536 in
theorem w_c12 : (Jvm.Cond.code ({ cls := "java/lang/String", name := "checkIndex", desc := "(II)V" } : Jvm.MethodName) jdk_42_method_155_code (2 : Nat) (Option.none : Option Jvm.ClassFile.FieldType)).before args0 about1 = true := code_word (m := ⟨9, 6⟩) (meth := k9m6) (c := k9c6) (by decide +kernel) rfl rfl rfl (by decide +kernel)
set_option maxRecDepth 65536 in
theorem w_c13 : (Jvm.Cond.code ({ cls := "jdk/internal/util/Preconditions", name := "checkIndex", desc := "(IILjava/util/function/BiFunction;)I" } : Jvm.MethodName) jdk_41_method_11_code (3 : Nat) (Option.some Jvm.ClassFile.FieldType.int)).before args0 about1 = true := code_word (m := ⟨11, 1⟩) (meth := k11m1) (c := k11c1) (by decide +kernel) rfl rfl rfl (by decide +kernel)
set_option maxRecDepth 65536 in
theorem w_c14 : (Jvm.Cond.code ({ cls := "com/example/firmline/firmline/model/Task", name := "checkTime", desc := "(Ljava/lang/String;J)V" } : Jvm.MethodName) prog_18_method_4_code (3 : Nat) (Option.none : Option Jvm.ClassFile.FieldType)).before args0 about1 = true := code_word (m := ⟨3, 1⟩) (meth := k3m1) (c := k3c1) (by decide +kernel) rfl rfl rfl (by decide +kernel)
set_option maxRecDepth 65536 in
theorem w_c15 : (Jvm.Cond.code ({ cls := "com/example/firmline/firmline/model/Task", name := "checkPriority", desc := "(J)V" } : Jvm.MethodName) prog_18_method_5_code (2 : Nat) (Option.none : Option Jvm.ClassFile.FieldType)).before args0 about1 = true := code_word (m := ⟨3, 2⟩) (meth := k3m2) (c := k3c2) (by decide +kernel) rfl rfl rfl (by decide +kernel)
set_option maxRecDepth 65536 in
theorem w_c16 : (Jvm.Cond.code ({ cls := "com/example/firmline/firmline/analysis/FaultResponse", name := "<init>", desc := "(Lcom/example/firmline/firmline/model/Task;J)V" } : Jvm.MethodName) prog_3_method_1_code (4 : Nat) (Option.none : Option Jvm.ClassFile.FieldType)).before args0 about1 = true := code_word (m := ⟨12, 0⟩) (meth := k12m0) (c := k12c0) (by decide +kernel) rfl rfl rfl (by decide +kernel)
set_option maxRecDepth 65536 in
theorem w_c17 : (Jvm.Cond.code ({ cls := "com/example/firmline/firmline/analysis/FaultResponse", name := "meetsDeadline", desc := "()Z" } : Jvm.MethodName) prog_3_method_2_code (1 : Nat) (Option.some Jvm.ClassFile.FieldType.boolean)).before args0 about1 = true := code_word (m := ⟨12, 1⟩) (meth := k12m1) (c := k12c1) (by decide +kernel) rfl rfl rfl (by decide +kernel)
set_option maxRecDepth 65536 in
theorem w_c18 : (Jvm.Cond.code ({ cls := "com/example/firmline/firmline/model/Task", name := "deadline", desc := "()J" } : Jvm.MethodName) prog_18_method_12_code (1 : Nat) (Option.some Jvm.ClassFile.FieldType.long)).before args0 about1 = true := code_word (m := ⟨3, 4⟩) (meth := k3m4) (c := k3c4) (by decide +kernel) rfl rfl rfl (by decide +kernel)
def codes1 : List Jvm.Cond := [Jvm.Cond.code x code maxLocals ret, Jvm.Cond.code ({ cls := "com/example/firmline/firmline/analysis/FaultResponseMeetsDeadlinePinLaw", name := "time", desc := "(J)J" } : Jvm.MethodName) method_2_code (2 : Nat) (Option.some Jvm.ClassFile.FieldType.long), Jvm.Cond.code ({ cls := "com/example/firmline/firmline/model/Task", name := "<init>", desc := "(Ljava/lang/String;JJJIJ)V" } : Jvm.MethodName) prog_18_method_1_code (11 : Nat) (Option.none : Option Jvm.ClassFile.FieldType), Jvm.Cond.code ({ cls := "java/lang/Record", name := "<init>", desc := "()V" } : Jvm.MethodName) jdk_30_method_1_code (1 : Nat) (Option.none : Option Jvm.ClassFile.FieldType), Jvm.Cond.code ({ cls := "java/lang/Object", name := "<init>", desc := "()V" } : Jvm.MethodName) object_method_1_code (1 : Nat) (Option.none : Option Jvm.ClassFile.FieldType), Jvm.Cond.code ({ cls := "com/example/firmline/firmline/model/Task", name := "checkName", desc := "(Ljava/lang/String;)V" } : Jvm.MethodName) prog_18_method_6_code (4 : Nat) (Option.none : Option Jvm.ClassFile.FieldType), Jvm.Cond.code ({ cls := "java/lang/String", name := "isEmpty", desc := "()Z" } : Jvm.MethodName) jdk_42_method_55_code (1 : Nat) (Option.some Jvm.ClassFile.FieldType.boolean), Jvm.Cond.code ({ cls := "java/lang/String", name := "length", desc := "()I" } : Jvm.MethodName) jdk_42_method_54_code (1 : Nat) (Option.some Jvm.ClassFile.FieldType.int), Jvm.Cond.code ({ cls := "java/lang/String", name := "coder", desc := "()B" } : Jvm.MethodName) jdk_42_method_152_code (1 : Nat) (Option.some Jvm.ClassFile.FieldType.byte), Jvm.Cond.code ({ cls := "java/lang/String", name := "charAt", desc := "(I)C" } : Jvm.MethodName) jdk_42_method_56_code (2 : Nat) (Option.some Jvm.ClassFile.FieldType.char), Jvm.Cond.code ({ cls := "java/lang/String", name := "isLatin1", desc := "()Z" } : Jvm.MethodName) jdk_42_method_154_code (1 : Nat) (Option.some Jvm.ClassFile.FieldType.boolean), Jvm.Cond.code ({ cls := "java/lang/StringLatin1", name := "charAt", desc := "([BI)C" } : Jvm.MethodName) jdk_43_method_2_code (2 : Nat) (Option.some Jvm.ClassFile.FieldType.char), Jvm.Cond.code ({ cls := "java/lang/String", name := "checkIndex", desc := "(II)V" } : Jvm.MethodName) jdk_42_method_155_code (2 : Nat) (Option.none : Option Jvm.ClassFile.FieldType), Jvm.Cond.code ({ cls := "jdk/internal/util/Preconditions", name := "checkIndex", desc := "(IILjava/util/function/BiFunction;)I" } : Jvm.MethodName) jdk_41_method_11_code (3 : Nat) (Option.some Jvm.ClassFile.FieldType.int), Jvm.Cond.code ({ cls := "com/example/firmline/firmline/model/Task", name := "checkTime", desc := "(Ljava/lang/String;J)V" } : Jvm.MethodName) prog_18_method_4_code (3 : Nat) (Option.none : Option Jvm.ClassFile.FieldType), Jvm.Cond.code ({ cls := "com/example/firmline/firmline/model/Task", name := "checkPriority", desc := "(J)V" } : Jvm.MethodName) prog_18_method_5_code (2 : Nat) (Option.none : Option Jvm.ClassFile.FieldType), Jvm.Cond.code ({ cls := "com/example/firmline/firmline/analysis/FaultResponse", name := "<init>", desc := "(Lcom/example/firmline/firmline/model/Task;J)V" } : Jvm.MethodName) prog_3_method_1_code (4 : Nat) (Option.none : Option Jvm.ClassFile.FieldType), Jvm.Cond.code ({ cls := "com/example/firmline/firmline/analysis/FaultResponse", name := "meetsDeadline", desc := "()Z" } : Jvm.MethodName) prog_3_method_2_code (1 : Nat) (Option.some Jvm.ClassFile.FieldType.boolean), Jvm.Cond.code ({ cls := "com/example/firmline/firmline/model/Task", name := "deadline", desc := "()J" } : Jvm.MethodName) prog_18_method_12_code (1 : Nat) (Option.some Jvm.ClassFile.FieldType.long)]
set_option maxRecDepth 65536 in
theorem codes_eq : words1.filter isCode = codes1 := rfl
theorem w_codes : ∀ c ∈ words1.filter isCode, c.before args0 about1 = true := by
  rw [codes_eq]
  intro c hc
  simp only [codes1, List.mem_cons, List.not_mem_nil, or_false] at hc
  rcases hc with rfl | rfl | rfl | rfl | rfl | rfl | rfl | rfl | rfl | rfl | rfl | rfl | rfl | rfl | rfl | rfl | rfl | rfl | rfl
  · exact w_c0
  · exact w_c1
  · exact w_c2
  · exact w_c3
  · exact w_c4
  · exact w_c5
  · exact w_c6
  · exact w_c7
  · exact w_c8
  · exact w_c9
  · exact w_c10
  · exact w_c11
  · exact w_c12
  · exact w_c13
  · exact w_c14
  · exact w_c15
  · exact w_c16
  · exact w_c17
  · exact w_c18
set_option maxRecDepth 65536 in
theorem w_t1 : (words1.take 24).all (fun c => isCode c || c.before args0 about1) = true := by decide +kernel
set_option maxRecDepth 65536 in
theorem w_t2 : ((words1.drop 24).take 24).all (fun c => isCode c || c.before args0 about1) = true := by decide +kernel
set_option maxRecDepth 65536 in
theorem w_t3 : (((words1.drop 24).drop 24).take 24).all (fun c => isCode c || c.before args0 about1) = true := by decide +kernel
set_option maxRecDepth 65536 in
theorem w_t4 : ((((words1.drop 24).drop 24).drop 24).take 24).all (fun c => isCode c || c.before args0 about1) = true := by decide +kernel
set_option maxRecDepth 65536 in
theorem w_t5 : ((((words1.drop 24).drop 24).drop 24).drop 24).all (fun c => isCode c || c.before args0 about1) = true := by decide +kernel
theorem w_tables : (allAtoms (Jvm.Cond.code x code maxLocals ret :: tables_1)).before args0 about1 = true := by
  rw [allAtoms_all]
  show words1.all (fun c => c.before args0 about1) = true
  refine all_split ?_ w_codes
  rw [← List.take_append_drop 24 words1, List.all_append, w_t1, ← List.take_append_drop 24 (words1.drop 24), List.all_append, w_t2, ← List.take_append_drop 24 ((words1.drop 24).drop 24), List.all_append, w_t3, ← List.take_append_drop 24 (((words1.drop 24).drop 24).drop 24), List.all_append, w_t4, w_t5]
  rfl
set_option maxRecDepth 65536 in
theorem w_rest : rest_1_c.before args0 about1 = true := by decide +kernel
set_option maxRecDepth 65536 in
theorem w_case : (Jvm.Cond.and given_1 narrow_1).before args0 about1 = true := by decide +kernel
set_option maxRecDepth 65536 in
theorem w_consts : constsHeld consts_1 about1 := Jvm.Lit.constsHeldB_iff.mp (by decide +kernel)
theorem w_applies : (headSpec (Jvm.Cond.code x code maxLocals ret :: tables_1) room_1).applies x e0.platform about1 = true :=
  (Spec.applies_iff w_frames).mpr ⟨w_running, w_runnable, w_alone, w_named, w_hears, w_ripe, w_room, w_tables⟩
theorem atStart : AtStart classFile x code maxLocals ret World_1 tables_1 room_1 Calls_1 rest_1 Pre_1 launch0 p0 e0 about1 theMethod args0 below0 :=
  ⟨lists_1, trivial, launch0.admits_env _ _ _, launch0.least_env, fairChoices_fair.cas, fairChoices_fair.clock, w_frames, w_args, w_heap, w_applies, ⟨w_consts, trivial⟩, w_rest, w_case⟩
end start1
theorem witness_1 : WitnessClaimed_1 := ⟨start1.p0, start1.e0, start1.about1, start1.theMethod, start1.args0, start1.below0, start1.atStart⟩
end Jvm.Pilot.@@N@@
